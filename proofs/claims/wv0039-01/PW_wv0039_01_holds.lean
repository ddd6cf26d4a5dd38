import PyProof.Rows.All
import Open.Tops
import Wide.FinOn
import OpenK.AllK
import Wide.All
import PySem.Challenge.RW_wv0039_01
local macro_rules | `(tactic| rfl') => `(tactic| kernel_rfl!)
namespace Mine
theorem siX {α:Type _} {a b:α} (h:some a=some b):a=b:=by injection h
theorem sm2{α β:Type}{a c:α}{b d:β}(h:some (a,b)=some (c,d)):a=c/\b=d:=Prod.mk.inj (siX h)
theorem son{α:Type}{a:α}{P:Prop}(h:some a=none):P:=nomatch h
theorem nso{α:Type}{a:α}{P:Prop}(h:none=some a):P:=nomatch h
theorem ftr{P:Prop}(h:false=true):P:=nomatch h
theorem trf{P:Prop}(h:true=false):P:=nomatch h
theorem ao{a b:Bool}(h:(a&&b)=true):a=true/\b=true:=Bool.and_eq_true_iff.mp h
theorem gp{α:Type}{P:Prop}(o:Option α)(h1:o=none->P)(h2:∀ a,o=some a->P):P:=by cases o with | none=>exact h1 rfl | some a=>exact h2 a rfl
theorem hC1{P:Prop}(b:Bool)(h1:b=true->P)(h2:b=false->P):P:=by cases b with | true=>exact h1 rfl | false=>exact h2 rfl
theorem mT1{α:Type}{P:Prop}(l:List α)(h1:l=[]->P)(h2:∀ a r,l=a::r->P):P:=by cases l with | nil=>exact h1 rfl | cons a r=>exact h2 a r rfl
theorem l1_{α:Type}{P:List α->Prop}(k:∀ a,P [a])(l:List α)(h:l.length=1):P l:=by
 cases l with
 | nil=>exact nomatch h
 | cons a r=>exact List.eq_nil_of_length_eq_zero (Nat.succ.inj h)▸k a
theorem l2_{α:Type}{P:List α->Prop}(k:∀ a b,P [a,b])(l:List α)(h:l.length=2):P l:=by
 cases l with
 | nil=>exact nomatch h
 | cons a r=>exact l1_ (P:=λr=>P (a::r)) (k a) r (Nat.succ.inj h)
theorem l3_{α:Type}{P:List α->Prop}(k:∀ a b c,P [a,b,c])(l:List α)(h:l.length=3):P l:=by
 cases l with
 | nil=>exact nomatch h
 | cons a r=>exact l2_ (P:=λr=>P (a::r)) (k a) r (Nat.succ.inj h)
theorem l4_{α:Type}{P:List α->Prop}(k:∀ a b c d,P [a,b,c,d])(l:List α)(h:l.length=4):P l:=by
 cases l with
 | nil=>exact nomatch h
 | cons a r=>exact l3_ (P:=λr=>P (a::r)) (k a) r (Nat.succ.inj h)
noncomputable def kd1{α β:Type}(l:List α)(b:β):Option β:=@List.casesOn α (λ_=>Option β) l (some b) λ_ _=>none
theorem fm1{α β:Type}{l:List α}{a b:β}(h:kd1 l b=some a):l=[]/\a=b:=by
 cases l with
 | nil=>exact⟨rfl,(siX h).symm⟩
 | cons c r=>exact nso h
noncomputable def lI{α:Type}(l:List α):Option α:=@List.casesOn α (λ_=>Option α) l none λa r=>kd1 r a
theorem nj{α:Type}{l:List α}{a:α}(h:lI l=some a):l=[a]:=by
 cases l with
 | nil=>exact nso h
 | cons b r=>exact(fm1 h).1▸(fm1 h).2▸rfl
noncomputable def aj1{α:Type}(l:List α):Option (α×α):=@List.casesOn α (λ_=>Option (α×α)) l none λa r=>(lI r).map λb=>(a,b)
theorem vo{α:Type}{l:List α}{a:α×α}(h:aj1 l=some a):l=[a.1,a.2]:=by
 cases l with
 | nil=>exact nso h
 | cons b r=>exact Exists.elim (Option.map_eq_some_iff.mp h) λc hc=>by rw[nj hc.1,← hc.2]
theorem byQ{P:Prop}(h:∀ Q:Prop,(P->Q)->Q):P:=h P id
theorem gq{A0 A1 Q:Prop}(h:A0/\A1)(k:A0->A1->Q):Q:=k h.1 h.2
theorem fk1{Q:Prop}{A0 A1 A2:Prop}(h:A0/\A1/\A2)(k:A0->A1->A2->Q):Q:=gq h.2 (k h.1)
theorem bW1{Q:Prop}{A0 A1 A2 A3:Prop}(h:A0/\A1/\A2/\A3)(k:A0->A1->A2->A3->Q):Q:=fk1 h.2 (k h.1)
theorem kb1{Q:Prop}{A0 A1 A2 A3 A4:Prop}(h:A0/\A1/\A2/\A3/\A4)(k:A0->A1->A2->A3->A4->Q):Q:=bW1 h.2 (k h.1)
theorem hw1{Q:Prop}{A0 A1 A2 A3 A4 A5:Prop}(h:A0/\A1/\A2/\A3/\A4/\A5)(k:A0->A1->A2->A3->A4->A5->Q):Q:=kb1 h.2 (k h.1)
theorem lp1{Q:Prop}{A0 A1 A2 A3 A4 A5 A6:Prop}(h:A0/\A1/\A2/\A3/\A4/\A5/\A6)(k:A0->A1->A2->A3->A4->A5->A6->Q):Q:=hw1 h.2 (k h.1)
theorem a4{Q:Prop}{T0:Type}{A0:T0->Prop}(h:∃ x0,A0 x0)(k:∀ (x0:T0),A0 x0->Q):Q:=Exists.elim h k
theorem aQ{Q:Prop}{T0:Type}{A0 A1:T0->Prop}(h:∃ x0,A0 x0/\A1 x0)(k:∀ (x0:T0),A0 x0->A1 x0->Q):Q:=Exists.elim h λx h=>gq h (k x)
theorem pI{Q:Prop}{T0:Type}{A0 A1 A2:T0->Prop}(h:∃ x0,A0 x0/\A1 x0/\A2 x0)(k:∀ (x0:T0),A0 x0->A1 x0->A2 x0->Q):Q:=Exists.elim h λx h=>fk1 h (k x)
theorem hu1{Q:Prop}{T0:Type}{A0 A1 A2 A3:T0->Prop}(h:∃ x0,A0 x0/\A1 x0/\A2 x0/\A3 x0)(k:∀ (x0:T0),A0 x0->A1 x0->A2 x0->A3 x0->Q):Q:=Exists.elim h λx h=>bW1 h (k x)
theorem fj1{Q:Prop}{T0:Type}{A0 A1 A2 A3 A4:T0->Prop}(h:∃ x0,A0 x0/\A1 x0/\A2 x0/\A3 x0/\A4 x0)(k:∀ (x0:T0),A0 x0->A1 x0->A2 x0->A3 x0->A4 x0->Q):Q:=Exists.elim h λx h=>kb1 h (k x)
theorem ka1{Q:Prop}{T0:Type}{A0 A1 A2 A3 A4 A5:T0->Prop}(h:∃ x0,A0 x0/\A1 x0/\A2 x0/\A3 x0/\A4 x0/\A5 x0)(k:∀ (x0:T0),A0 x0->A1 x0->A2 x0->A3 x0->A4 x0->A5 x0->Q):Q:=Exists.elim h λx h=>hw1 h (k x)
theorem lo1{Q:Prop}{T0:Type}{A0 A1 A2 A3 A4 A5 A6:T0->Prop}(h:∃ x0,A0 x0/\A1 x0/\A2 x0/\A3 x0/\A4 x0/\A5 x0/\A6 x0)(k:∀ (x0:T0),A0 x0->A1 x0->A2 x0->A3 x0->A4 x0->A5 x0->A6 x0->Q):Q:=Exists.elim h λx h=>lp1 h (k x)
theorem cC{Q:Prop}{T0 T1:Type}{A0:T0->T1->Prop}(h:∃ x0 x1,A0 x0 x1)(k:∀ (x0:T0) (x1:T1),A0 x0 x1->Q):Q:=Exists.elim h λx h=>a4 h (k x)
theorem zc{Q:Prop}{T0 T1:Type}{A0 A1:T0->T1->Prop}(h:∃ x0 x1,A0 x0 x1/\A1 x0 x1)(k:∀ (x0:T0) (x1:T1),A0 x0 x1->A1 x0 x1->Q):Q:=Exists.elim h λx h=>aQ h (k x)
theorem oS{Q:Prop}{T0 T1:Type}{A0 A1 A2:T0->T1->Prop}(h:∃ x0 x1,A0 x0 x1/\A1 x0 x1/\A2 x0 x1)(k:∀ (x0:T0) (x1:T1),A0 x0 x1->A1 x0 x1->A2 x0 x1->Q):Q:=Exists.elim h λx h=>pI h (k x)
theorem fi1{Q:Prop}{T0 T1:Type}{A0 A1 A2 A3:T0->T1->Prop}(h:∃ x0 x1,A0 x0 x1/\A1 x0 x1/\A2 x0 x1/\A3 x0 x1)(k:∀ (x0:T0) (x1:T1),A0 x0 x1->A1 x0 x1->A2 x0 x1->A3 x0 x1->Q):Q:=Exists.elim h λx h=>hu1 h (k x)
theorem bV1{Q:Prop}{T0 T1:Type}{A0 A1 A2 A3 A4:T0->T1->Prop}(h:∃ x0 x1,A0 x0 x1/\A1 x0 x1/\A2 x0 x1/\A3 x0 x1/\A4 x0 x1)(k:∀ (x0:T0) (x1:T1),A0 x0 x1->A1 x0 x1->A2 x0 x1->A3 x0 x1->A4 x0 x1->Q):Q:=Exists.elim h λx h=>fj1 h (k x)
theorem j91{Q:Prop}{T0 T1:Type}{A0 A1 A2 A3 A4 A5:T0->T1->Prop}(h:∃ x0 x1,A0 x0 x1/\A1 x0 x1/\A2 x0 x1/\A3 x0 x1/\A4 x0 x1/\A5 x0 x1)(k:∀ (x0:T0) (x1:T1),A0 x0 x1->A1 x0 x1->A2 x0 x1->A3 x0 x1->A4 x0 x1->A5 x0 x1->Q):Q:=Exists.elim h λx h=>ka1 h (k x)
theorem ln1{Q:Prop}{T0 T1:Type}{A0 A1 A2 A3 A4 A5 A6:T0->T1->Prop}(h:∃ x0 x1,A0 x0 x1/\A1 x0 x1/\A2 x0 x1/\A3 x0 x1/\A4 x0 x1/\A5 x0 x1/\A6 x0 x1)(k:∀ (x0:T0) (x1:T1),A0 x0 x1->A1 x0 x1->A2 x0 x1->A3 x0 x1->A4 x0 x1->A5 x0 x1->A6 x0 x1->Q):Q:=Exists.elim h λx h=>lo1 h (k x)
theorem ei{Q:Prop}{T0 T1 T2:Type}{A0:T0->T1->T2->Prop}(h:∃ x0 x1 x2,A0 x0 x1 x2)(k:∀ (x0:T0) (x1:T1) (x2:T2),A0 x0 x1 x2->Q):Q:=Exists.elim h λx h=>cC h (k x)
theorem zb{Q:Prop}{T0 T1 T2:Type}{A0 A1:T0->T1->T2->Prop}(h:∃ x0 x1 x2,A0 x0 x1 x2/\A1 x0 x1 x2)(k:∀ (x0:T0) (x1:T1) (x2:T2),A0 x0 x1 x2->A1 x0 x1 x2->Q):Q:=Exists.elim h λx h=>zc h (k x)
theorem wp{Q:Prop}{T0 T1 T2:Type}{A0 A1 A2:T0->T1->T2->Prop}(h:∃ x0 x1 x2,A0 x0 x1 x2/\A1 x0 x1 x2/\A2 x0 x1 x2)(k:∀ (x0:T0) (x1:T1) (x2:T2),A0 x0 x1 x2->A1 x0 x1 x2->A2 x0 x1 x2->Q):Q:=Exists.elim h λx h=>oS h (k x)
theorem ht1{Q:Prop}{T0 T1 T2:Type}{A0 A1 A2 A3:T0->T1->T2->Prop}(h:∃ x0 x1 x2,A0 x0 x1 x2/\A1 x0 x1 x2/\A2 x0 x1 x2/\A3 x0 x1 x2)(k:∀ (x0:T0) (x1:T1) (x2:T2),A0 x0 x1 x2->A1 x0 x1 x2->A2 x0 x1 x2->A3 x0 x1 x2->Q):Q:=Exists.elim h λx h=>fi1 h (k x)
theorem iJ1{Q:Prop}{T0 T1 T2:Type}{A0 A1 A2 A3 A4:T0->T1->T2->Prop}(h:∃ x0 x1 x2,A0 x0 x1 x2/\A1 x0 x1 x2/\A2 x0 x1 x2/\A3 x0 x1 x2/\A4 x0 x1 x2)(k:∀ (x0:T0) (x1:T1) (x2:T2),A0 x0 x1 x2->A1 x0 x1 x2->A2 x0 x1 x2->A3 x0 x1 x2->A4 x0 x1 x2->Q):Q:=Exists.elim h λx h=>bV1 h (k x)
theorem uB{Q:Prop}{T0 T1 T2:Type}{A0 A1 A2 A3 A4 A5:T0->T1->T2->Prop}(h:∃ x0 x1 x2,A0 x0 x1 x2/\A1 x0 x1 x2/\A2 x0 x1 x2/\A3 x0 x1 x2/\A4 x0 x1 x2/\A5 x0 x1 x2)(k:∀ (x0:T0) (x1:T1) (x2:T2),A0 x0 x1 x2->A1 x0 x1 x2->A2 x0 x1 x2->A3 x0 x1 x2->A4 x0 x1 x2->A5 x0 x1 x2->Q):Q:=Exists.elim h λx h=>j91 h (k x)
theorem lm1{Q:Prop}{T0 T1 T2:Type}{A0 A1 A2 A3 A4 A5 A6:T0->T1->T2->Prop}(h:∃ x0 x1 x2,A0 x0 x1 x2/\A1 x0 x1 x2/\A2 x0 x1 x2/\A3 x0 x1 x2/\A4 x0 x1 x2/\A5 x0 x1 x2/\A6 x0 x1 x2)(k:∀ (x0:T0) (x1:T1) (x2:T2),A0 x0 x1 x2->A1 x0 x1 x2->A2 x0 x1 x2->A3 x0 x1 x2->A4 x0 x1 x2->A5 x0 x1 x2->A6 x0 x1 x2->Q):Q:=Exists.elim h λx h=>ln1 h (k x)
theorem ll1{Q:Prop}{T0 T1 T2 T3:Type}{A0:T0->T1->T2->T3->Prop}(h:∃ x0 x1 x2 x3,A0 x0 x1 x2 x3)(k:∀ (x0:T0) (x1:T1) (x2:T2) (x3:T3),A0 x0 x1 x2 x3->Q):Q:=Exists.elim h λx h=>ei h (k x)
theorem iI1{Q:Prop}{T0 T1 T2 T3:Type}{A0 A1:T0->T1->T2->T3->Prop}(h:∃ x0 x1 x2 x3,A0 x0 x1 x2 x3/\A1 x0 x1 x2 x3)(k:∀ (x0:T0) (x1:T1) (x2:T2) (x3:T3),A0 x0 x1 x2 x3->A1 x0 x1 x2 x3->Q):Q:=Exists.elim h λx h=>zb h (k x)
theorem hp1{Q:Prop}{T0 T1 T2 T3:Type}{A0 A1 A2:T0->T1->T2->T3->Prop}(h:∃ x0 x1 x2 x3,A0 x0 x1 x2 x3/\A1 x0 x1 x2 x3/\A2 x0 x1 x2 x3)(k:∀ (x0:T0) (x1:T1) (x2:T2) (x3:T3),A0 x0 x1 x2 x3->A1 x0 x1 x2 x3->A2 x0 x1 x2 x3->Q):Q:=Exists.elim h λx h=>wp h (k x)
theorem j81{Q:Prop}{T0 T1 T2 T3:Type}{A0 A1 A2 A3:T0->T1->T2->T3->Prop}(h:∃ x0 x1 x2 x3,A0 x0 x1 x2 x3/\A1 x0 x1 x2 x3/\A2 x0 x1 x2 x3/\A3 x0 x1 x2 x3)(k:∀ (x0:T0) (x1:T1) (x2:T2) (x3:T3),A0 x0 x1 x2 x3->A1 x0 x1 x2 x3->A2 x0 x1 x2 x3->A3 x0 x1 x2 x3->Q):Q:=Exists.elim h λx h=>ht1 h (k x)
theorem j71{Q:Prop}{T0 T1 T2 T3:Type}{A0 A1 A2 A3 A4:T0->T1->T2->T3->Prop}(h:∃ x0 x1 x2 x3,A0 x0 x1 x2 x3/\A1 x0 x1 x2 x3/\A2 x0 x1 x2 x3/\A3 x0 x1 x2 x3/\A4 x0 x1 x2 x3)(k:∀ (x0:T0) (x1:T1) (x2:T2) (x3:T3),A0 x0 x1 x2 x3->A1 x0 x1 x2 x3->A2 x0 x1 x2 x3->A3 x0 x1 x2 x3->A4 x0 x1 x2 x3->Q):Q:=Exists.elim h λx h=>iJ1 h (k x)
theorem j61{Q:Prop}{T0 T1 T2 T3:Type}{A0 A1 A2 A3 A4 A5:T0->T1->T2->T3->Prop}(h:∃ x0 x1 x2 x3,A0 x0 x1 x2 x3/\A1 x0 x1 x2 x3/\A2 x0 x1 x2 x3/\A3 x0 x1 x2 x3/\A4 x0 x1 x2 x3/\A5 x0 x1 x2 x3)(k:∀ (x0:T0) (x1:T1) (x2:T2) (x3:T3),A0 x0 x1 x2 x3->A1 x0 x1 x2 x3->A2 x0 x1 x2 x3->A3 x0 x1 x2 x3->A4 x0 x1 x2 x3->A5 x0 x1 x2 x3->Q):Q:=Exists.elim h λx h=>uB h (k x)
theorem lk1{Q:Prop}{T0 T1 T2 T3:Type}{A0 A1 A2 A3 A4 A5 A6:T0->T1->T2->T3->Prop}(h:∃ x0 x1 x2 x3,A0 x0 x1 x2 x3/\A1 x0 x1 x2 x3/\A2 x0 x1 x2 x3/\A3 x0 x1 x2 x3/\A4 x0 x1 x2 x3/\A5 x0 x1 x2 x3/\A6 x0 x1 x2 x3)(k:∀ (x0:T0) (x1:T1) (x2:T2) (x3:T3),A0 x0 x1 x2 x3->A1 x0 x1 x2 x3->A2 x0 x1 x2 x3->A3 x0 x1 x2 x3->A4 x0 x1 x2 x3->A5 x0 x1 x2 x3->A6 x0 x1 x2 x3->Q):Q:=Exists.elim h λx h=>lm1 h (k x)
theorem lj1{Q:Prop}{T0 T1 T2 T3 T4:Type}{A0:T0->T1->T2->T3->T4->Prop}(h:∃ x0 x1 x2 x3 x4,A0 x0 x1 x2 x3 x4)(k:∀ (x0:T0) (x1:T1) (x2:T2) (x3:T3) (x4:T4),A0 x0 x1 x2 x3 x4->Q):Q:=Exists.elim h λx h=>ll1 h (k x)
theorem li1{Q:Prop}{T0 T1 T2 T3 T4:Type}{A0 A1:T0->T1->T2->T3->T4->Prop}(h:∃ x0 x1 x2 x3 x4,A0 x0 x1 x2 x3 x4/\A1 x0 x1 x2 x3 x4)(k:∀ (x0:T0) (x1:T1) (x2:T2) (x3:T3) (x4:T4),A0 x0 x1 x2 x3 x4->A1 x0 x1 x2 x3 x4->Q):Q:=Exists.elim h λx h=>iI1 h (k x)
theorem lh1{Q:Prop}{T0 T1 T2 T3 T4:Type}{A0 A1 A2:T0->T1->T2->T3->T4->Prop}(h:∃ x0 x1 x2 x3 x4,A0 x0 x1 x2 x3 x4/\A1 x0 x1 x2 x3 x4/\A2 x0 x1 x2 x3 x4)(k:∀ (x0:T0) (x1:T1) (x2:T2) (x3:T3) (x4:T4),A0 x0 x1 x2 x3 x4->A1 x0 x1 x2 x3 x4->A2 x0 x1 x2 x3 x4->Q):Q:=Exists.elim h λx h=>hp1 h (k x)
theorem j51{Q:Prop}{T0 T1 T2 T3 T4:Type}{A0 A1 A2 A3:T0->T1->T2->T3->T4->Prop}(h:∃ x0 x1 x2 x3 x4,A0 x0 x1 x2 x3 x4/\A1 x0 x1 x2 x3 x4/\A2 x0 x1 x2 x3 x4/\A3 x0 x1 x2 x3 x4)(k:∀ (x0:T0) (x1:T1) (x2:T2) (x3:T3) (x4:T4),A0 x0 x1 x2 x3 x4->A1 x0 x1 x2 x3 x4->A2 x0 x1 x2 x3 x4->A3 x0 x1 x2 x3 x4->Q):Q:=Exists.elim h λx h=>j81 h (k x)
theorem lg1{Q:Prop}{T0 T1 T2 T3 T4:Type}{A0 A1 A2 A3 A4:T0->T1->T2->T3->T4->Prop}(h:∃ x0 x1 x2 x3 x4,A0 x0 x1 x2 x3 x4/\A1 x0 x1 x2 x3 x4/\A2 x0 x1 x2 x3 x4/\A3 x0 x1 x2 x3 x4/\A4 x0 x1 x2 x3 x4)(k:∀ (x0:T0) (x1:T1) (x2:T2) (x3:T3) (x4:T4),A0 x0 x1 x2 x3 x4->A1 x0 x1 x2 x3 x4->A2 x0 x1 x2 x3 x4->A3 x0 x1 x2 x3 x4->A4 x0 x1 x2 x3 x4->Q):Q:=Exists.elim h λx h=>j71 h (k x)
theorem hm1{Q:Prop}{T0 T1 T2 T3 T4:Type}{A0 A1 A2 A3 A4 A5:T0->T1->T2->T3->T4->Prop}(h:∃ x0 x1 x2 x3 x4,A0 x0 x1 x2 x3 x4/\A1 x0 x1 x2 x3 x4/\A2 x0 x1 x2 x3 x4/\A3 x0 x1 x2 x3 x4/\A4 x0 x1 x2 x3 x4/\A5 x0 x1 x2 x3 x4)(k:∀ (x0:T0) (x1:T1) (x2:T2) (x3:T3) (x4:T4),A0 x0 x1 x2 x3 x4->A1 x0 x1 x2 x3 x4->A2 x0 x1 x2 x3 x4->A3 x0 x1 x2 x3 x4->A4 x0 x1 x2 x3 x4->A5 x0 x1 x2 x3 x4->Q):Q:=Exists.elim h λx h=>j61 h (k x)
theorem j41{Q:Prop}{T0 T1 T2 T3 T4:Type}{A0 A1 A2 A3 A4 A5 A6:T0->T1->T2->T3->T4->Prop}(h:∃ x0 x1 x2 x3 x4,A0 x0 x1 x2 x3 x4/\A1 x0 x1 x2 x3 x4/\A2 x0 x1 x2 x3 x4/\A3 x0 x1 x2 x3 x4/\A4 x0 x1 x2 x3 x4/\A5 x0 x1 x2 x3 x4/\A6 x0 x1 x2 x3 x4)(k:∀ (x0:T0) (x1:T1) (x2:T2) (x3:T3) (x4:T4),A0 x0 x1 x2 x3 x4->A1 x0 x1 x2 x3 x4->A2 x0 x1 x2 x3 x4->A3 x0 x1 x2 x3 x4->A4 x0 x1 x2 x3 x4->A5 x0 x1 x2 x3 x4->A6 x0 x1 x2 x3 x4->Q):Q:=Exists.elim h λx h=>lk1 h (k x)
theorem lf1{Q:Prop}{T0 T1 T2 T3 T4 T5:Type}{A0 A1 A2:T0->T1->T2->T3->T4->T5->Prop}(h:∃ x0 x1 x2 x3 x4 x5,A0 x0 x1 x2 x3 x4 x5/\A1 x0 x1 x2 x3 x4 x5/\A2 x0 x1 x2 x3 x4 x5)(k:∀ (x0:T0) (x1:T1) (x2:T2) (x3:T3) (x4:T4) (x5:T5),A0 x0 x1 x2 x3 x4 x5->A1 x0 x1 x2 x3 x4 x5->A2 x0 x1 x2 x3 x4 x5->Q):Q:=Exists.elim h λx h=>lh1 h (k x)
theorem dw1{Q:Prop}{T0 T1 T2 T3 T4 T5:Type}{A0 A1 A2 A3 A4 A5 A6:T0->T1->T2->T3->T4->T5->Prop}(h:∃ x0 x1 x2 x3 x4 x5,A0 x0 x1 x2 x3 x4 x5/\A1 x0 x1 x2 x3 x4 x5/\A2 x0 x1 x2 x3 x4 x5/\A3 x0 x1 x2 x3 x4 x5/\A4 x0 x1 x2 x3 x4 x5/\A5 x0 x1 x2 x3 x4 x5/\A6 x0 x1 x2 x3 x4 x5)(k:∀ (x0:T0) (x1:T1) (x2:T2) (x3:T3) (x4:T4) (x5:T5),A0 x0 x1 x2 x3 x4 x5->A1 x0 x1 x2 x3 x4 x5->A2 x0 x1 x2 x3 x4 x5->A3 x0 x1 x2 x3 x4 x5->A4 x0 x1 x2 x3 x4 x5->A5 x0 x1 x2 x3 x4 x5->A6 x0 x1 x2 x3 x4 x5->Q):Q:=Exists.elim h λx h=>j41 h (k x)
theorem le1{Q:Prop}{T0 T1 T2 T3 T4 T5 T6:Type}{A0 A1 A2:T0->T1->T2->T3->T4->T5->T6->Prop}(h:∃ x0 x1 x2 x3 x4 x5 x6,A0 x0 x1 x2 x3 x4 x5 x6/\A1 x0 x1 x2 x3 x4 x5 x6/\A2 x0 x1 x2 x3 x4 x5 x6)(k:∀ (x0:T0) (x1:T1) (x2:T2) (x3:T3) (x4:T4) (x5:T5) (x6:T6),A0 x0 x1 x2 x3 x4 x5 x6->A1 x0 x1 x2 x3 x4 x5 x6->A2 x0 x1 x2 x3 x4 x5 x6->Q):Q:=Exists.elim h λx h=>lf1 h (k x)
theorem cf1{T0 T1:Type}{A0:T0->T1->Prop}(x0:T0)(x1:T1)(h0:A0 x0 x1):∃ x0 x1,A0 x0 x1:=⟨x0,x1,h0⟩
theorem fw1{T0 T1:Type}{A0 A1:T0->T1->Prop}(x0:T0)(x1:T1)(h0:A0 x0 x1)(h1:A1 x0 x1):∃ x0 x1,A0 x0 x1/\A1 x0 x1:=⟨x0,x1,h0,h1⟩
theorem pT{T0 T1:Type}{A0 A1 A2:T0->T1->Prop}(x0:T0)(x1:T1)(h0:A0 x0 x1)(h1:A1 x0 x1)(h2:A2 x0 x1):∃ x0 x1,A0 x0 x1/\A1 x0 x1/\A2 x0 x1:=⟨x0,x1,h0,h1,h2⟩
theorem zr{T0 T1:Type}{A0 A1 A2 A3:T0->T1->Prop}(x0:T0)(x1:T1)(h0:A0 x0 x1)(h1:A1 x0 x1)(h2:A2 x0 x1)(h3:A3 x0 x1):∃ x0 x1,A0 x0 x1/\A1 x0 x1/\A2 x0 x1/\A3 x0 x1:=⟨x0,x1,h0,h1,h2,h3⟩
theorem ax1{T0 T1:Type}{A0 A1 A2 A3 A4:T0->T1->Prop}(x0:T0)(x1:T1)(h0:A0 x0 x1)(h1:A1 x0 x1)(h2:A2 x0 x1)(h3:A3 x0 x1)(h4:A4 x0 x1):∃ x0 x1,A0 x0 x1/\A1 x0 x1/\A2 x0 x1/\A3 x0 x1/\A4 x0 x1:=⟨x0,x1,h0,h1,h2,h3,h4⟩
theorem fv1{T0 T1:Type}{A0 A1 A2 A3 A4 A5:T0->T1->Prop}(x0:T0)(x1:T1)(h0:A0 x0 x1)(h1:A1 x0 x1)(h2:A2 x0 x1)(h3:A3 x0 x1)(h4:A4 x0 x1)(h5:A5 x0 x1):∃ x0 x1,A0 x0 x1/\A1 x0 x1/\A2 x0 x1/\A3 x0 x1/\A4 x0 x1/\A5 x0 x1:=⟨x0,x1,h0,h1,h2,h3,h4,h5⟩
theorem dy1{T0 T1 T2:Type}{A0:T0->T1->T2->Prop}(x0:T0)(x1:T1)(x2:T2)(h0:A0 x0 x1 x2):∃ x0 x1 x2,A0 x0 x1 x2:=⟨x0,x1,x2,h0⟩
theorem kl1{T0 T1 T2:Type}{A0 A1:T0->T1->T2->Prop}(x0:T0)(x1:T1)(x2:T2)(h0:A0 x0 x1 x2)(h1:A1 x0 x1 x2):∃ x0 x1 x2,A0 x0 x1 x2/\A1 x0 x1 x2:=⟨x0,x1,x2,h0,h1⟩
theorem kk1{T0 T1 T2:Type}{A0 A1 A2:T0->T1->T2->Prop}(x0:T0)(x1:T1)(x2:T2)(h0:A0 x0 x1 x2)(h1:A1 x0 x1 x2)(h2:A2 x0 x1 x2):∃ x0 x1 x2,A0 x0 x1 x2/\A1 x0 x1 x2/\A2 x0 x1 x2:=⟨x0,x1,x2,h0,h1,h2⟩
theorem mS1{T0 T1 T2:Type}{A0 A1 A2 A3:T0->T1->T2->Prop}(x0:T0)(x1:T1)(x2:T2)(h0:A0 x0 x1 x2)(h1:A1 x0 x1 x2)(h2:A2 x0 x1 x2)(h3:A3 x0 x1 x2):∃ x0 x1 x2,A0 x0 x1 x2/\A1 x0 x1 x2/\A2 x0 x1 x2/\A3 x0 x1 x2:=⟨x0,x1,x2,h0,h1,h2,h3⟩
theorem mR1{T0 T1 T2:Type}{A0 A1 A2 A3 A4:T0->T1->T2->Prop}(x0:T0)(x1:T1)(x2:T2)(h0:A0 x0 x1 x2)(h1:A1 x0 x1 x2)(h2:A2 x0 x1 x2)(h3:A3 x0 x1 x2)(h4:A4 x0 x1 x2):∃ x0 x1 x2,A0 x0 x1 x2/\A1 x0 x1 x2/\A2 x0 x1 x2/\A3 x0 x1 x2/\A4 x0 x1 x2:=⟨x0,x1,x2,h0,h1,h2,h3,h4⟩
theorem kj1{T0 T1 T2:Type}{A0 A1 A2 A3 A4 A5:T0->T1->T2->Prop}(x0:T0)(x1:T1)(x2:T2)(h0:A0 x0 x1 x2)(h1:A1 x0 x1 x2)(h2:A2 x0 x1 x2)(h3:A3 x0 x1 x2)(h4:A4 x0 x1 x2)(h5:A5 x0 x1 x2):∃ x0 x1 x2,A0 x0 x1 x2/\A1 x0 x1 x2/\A2 x0 x1 x2/\A3 x0 x1 x2/\A4 x0 x1 x2/\A5 x0 x1 x2:=⟨x0,x1,x2,h0,h1,h2,h3,h4,h5⟩
theorem mQ1{T0 T1 T2 T3:Type}{A0 A1:T0->T1->T2->T3->Prop}(x0:T0)(x1:T1)(x2:T2)(x3:T3)(h0:A0 x0 x1 x2 x3)(h1:A1 x0 x1 x2 x3):∃ x0 x1 x2 x3,A0 x0 x1 x2 x3/\A1 x0 x1 x2 x3:=⟨x0,x1,x2,x3,h0,h1⟩
theorem mP1{T0 T1 T2 T3:Type}{A0 A1 A2:T0->T1->T2->T3->Prop}(x0:T0)(x1:T1)(x2:T2)(x3:T3)(h0:A0 x0 x1 x2 x3)(h1:A1 x0 x1 x2 x3)(h2:A2 x0 x1 x2 x3):∃ x0 x1 x2 x3,A0 x0 x1 x2 x3/\A1 x0 x1 x2 x3/\A2 x0 x1 x2 x3:=⟨x0,x1,x2,x3,h0,h1,h2⟩
theorem ki1{T0 T1 T2 T3:Type}{A0 A1 A2 A3:T0->T1->T2->T3->Prop}(x0:T0)(x1:T1)(x2:T2)(x3:T3)(h0:A0 x0 x1 x2 x3)(h1:A1 x0 x1 x2 x3)(h2:A2 x0 x1 x2 x3)(h3:A3 x0 x1 x2 x3):∃ x0 x1 x2 x3,A0 x0 x1 x2 x3/\A1 x0 x1 x2 x3/\A2 x0 x1 x2 x3/\A3 x0 x1 x2 x3:=⟨x0,x1,x2,x3,h0,h1,h2,h3⟩
theorem mO1{T0 T1 T2 T3:Type}{A0 A1 A2 A3 A4:T0->T1->T2->T3->Prop}(x0:T0)(x1:T1)(x2:T2)(x3:T3)(h0:A0 x0 x1 x2 x3)(h1:A1 x0 x1 x2 x3)(h2:A2 x0 x1 x2 x3)(h3:A3 x0 x1 x2 x3)(h4:A4 x0 x1 x2 x3):∃ x0 x1 x2 x3,A0 x0 x1 x2 x3/\A1 x0 x1 x2 x3/\A2 x0 x1 x2 x3/\A3 x0 x1 x2 x3/\A4 x0 x1 x2 x3:=⟨x0,x1,x2,x3,h0,h1,h2,h3,h4⟩
theorem mN1{T0 T1 T2 T3:Type}{A0 A1 A2 A3 A4 A5 A6 A7:T0->T1->T2->T3->Prop}(x0:T0)(x1:T1)(x2:T2)(x3:T3)(h0:A0 x0 x1 x2 x3)(h1:A1 x0 x1 x2 x3)(h2:A2 x0 x1 x2 x3)(h3:A3 x0 x1 x2 x3)(h4:A4 x0 x1 x2 x3)(h5:A5 x0 x1 x2 x3)(h6:A6 x0 x1 x2 x3)(h7:A7 x0 x1 x2 x3):∃ x0 x1 x2 x3,A0 x0 x1 x2 x3/\A1 x0 x1 x2 x3/\A2 x0 x1 x2 x3/\A3 x0 x1 x2 x3/\A4 x0 x1 x2 x3/\A5 x0 x1 x2 x3/\A6 x0 x1 x2 x3/\A7 x0 x1 x2 x3:=⟨x0,x1,x2,x3,h0,h1,h2,h3,h4,h5,h6,h7⟩
theorem kh1{T0 T1 T2 T3 T4:Type}{A0:T0->T1->T2->T3->T4->Prop}(x0:T0)(x1:T1)(x2:T2)(x3:T3)(x4:T4)(h0:A0 x0 x1 x2 x3 x4):∃ x0 x1 x2 x3 x4,A0 x0 x1 x2 x3 x4:=⟨x0,x1,x2,x3,x4,h0⟩
theorem iO1{T0 T1 T2 T3 T4 T5:Type}{A0 A1 A2 A3 A4 A5 A6 A7 A8 A9:T0->T1->T2->T3->T4->T5->Prop}(x0:T0)(x1:T1)(x2:T2)(x3:T3)(x4:T4)(x5:T5)(h0:A0 x0 x1 x2 x3 x4 x5)(h1:A1 x0 x1 x2 x3 x4 x5)(h2:A2 x0 x1 x2 x3 x4 x5)(h3:A3 x0 x1 x2 x3 x4 x5)(h4:A4 x0 x1 x2 x3 x4 x5)(h5:A5 x0 x1 x2 x3 x4 x5)(h6:A6 x0 x1 x2 x3 x4 x5)(h7:A7 x0 x1 x2 x3 x4 x5)(h8:A8 x0 x1 x2 x3 x4 x5)(h9:A9 x0 x1 x2 x3 x4 x5):∃ x0 x1 x2 x3 x4 x5,A0 x0 x1 x2 x3 x4 x5/\A1 x0 x1 x2 x3 x4 x5/\A2 x0 x1 x2 x3 x4 x5/\A3 x0 x1 x2 x3 x4 x5/\A4 x0 x1 x2 x3 x4 x5/\A5 x0 x1 x2 x3 x4 x5/\A6 x0 x1 x2 x3 x4 x5/\A7 x0 x1 x2 x3 x4 x5/\A8 x0 x1 x2 x3 x4 x5/\A9 x0 x1 x2 x3 x4 x5:=⟨x0,x1,x2,x3,x4,x5,h0,h1,h2,h3,h4,h5,h6,h7,h8,h9⟩
open PySem
set_option maxRecDepth 100000
set_option linter.unusedVariables false
set_option genInjectivity false in
set_option genSizeOf false in
structure Nd where
 tag:Nat
 a:Expr
 b:Expr
 c:Expr
 l:List Expr
 o:Operator
 u:UnaryOp
 cs:List CmpOp
 bo:BoolOp
 oa:Option Expr
 ob:Option Expr
 oc:Option Expr
 g:List Comprehension
 sc:Scope
 ks:List Keyword
 s:Str
 n:Nat
 v:Const
 ko:List (Option Expr)
 p:Pos
noncomputable def p00:Pos:=⟨0,0,0,0⟩
noncomputable def e00:Expr:=.List [] p00
noncomputable def dN:Nd:=⟨0,e00,e00,e00,[],.Add,.Not,[],.And,none,none,none,[],⟨.module,[],false,false,[]⟩,[],⟨#[]⟩,0,.none,[],p00⟩
noncomputable def un(e:Expr):Nd:=@Expr.casesOn (λ_=>Nd) e
  (λo l p=>{ dN with tag:=7,bo:=o,l:=l,p:=p })
  (λ_ _ _=>dN)
  (λl o r p=>{ dN with tag:=4,a:=l,o:=o,b:=r,p:=p })
  (λo x p=>{ dN with tag:=5,u:=o,a:=x,p:=p })
  (λ_ _ _ _=>dN)
  (λt x y p=>{ dN with tag:=8,a:=t,b:=x,c:=y,p:=p })
  (λk v p=>{ dN with ko:=k,l:=v,p:=p })
  (λ_ _ _=>dN)
  (λx g s p=>{ dN with tag:=11,a:=x,g:=g,sc:=s,p:=p })
  (λ_ _ _ _=>dN)
  (λ_ _ _ _ _=>dN)
  (λ_ _ _ _=>dN)
  (λ_ _=>dN)
  (λ_ _=>dN)
  (λ_ _=>dN)
  (λl o r p=>{ dN with tag:=6,a:=l,cs:=o,l:=r,p:=p })
  (λf l k p=>{ dN with tag:=12,a:=f,l:=l,ks:=k,p:=p })
  (λ_ _ _ _=>dN)
  (λ_ _=>dN)
  (λv k p=>{ dN with tag:=14,v:=v,n:=k,p:=p })
  (λx n p=>{ dN with tag:=13,a:=x,s:=n,p:=p })
  (λx y p=>{ dN with tag:=9,a:=x,b:=y,p:=p })
  (λ_ _=>dN)
  (λx p=>{ dN with tag:=1,s:=x,p:=p })
  (λl p=>{ dN with tag:=3,l:=l,p:=p })
  (λl k p=>{ dN with tag:=2,l:=l,n:=k,p:=p })
  (λx y z p=>{ dN with tag:=10,oa:=x,ob:=y,oc:=z,p:=p })
noncomputable def bk(d:Nd):List Expr:=[e00,.Name d.s d.p,.Tuple d.l d.n d.p,.List d.l d.p,.BinOp d.a d.o d.b d.p,.UnaryOp d.u d.a d.p,.Compare d.a d.cs d.l d.p,.BoolOp d.bo d.l d.p,.IfExp d.a d.b d.c d.p,.Subscript d.a d.b d.p,
 .Slice d.oa d.ob d.oc d.p,.ListComp d.a d.g d.sc d.p,.Call d.a d.l d.ks d.p,.Attribute d.a d.s d.p,.Constant d.v d.n d.p]
noncomputable def Un(e:Expr):Prop:=(un e).tag=0\/e=(bk (un e)).getD (un e).tag e00
theorem kO1{e:Expr}(h:e=(bk (un e)).getD (un e).tag e00):Un e:=.inr h
theorem kN1{e:Expr}(h:(un e).tag=0):Un e:=.inl h
theorem dP1(e:Expr):Un e:=by cases e <;> first | exact kN1 rfl | exact kO1 rfl
theorem rH{e:Expr}{k:Nat}(h:(un e).tag=k+1):e=(bk (un e)).getD (k+1) e00 :=
 (dP1 e).elim (λq=>absurd (q.symm.trans h) (Nat.succ_ne_zero k).symm) λq=>h▸q
set_option genInjectivity false in
set_option genSizeOf false in
structure Sd where
 tag:Nat
 a:Expr
 b:Expr
 l:List Expr
 oe:Option Expr
 x:List Stmt
 y:List Stmt
 o:Operator
 ar:Arguments
 sc:Scope
 s:Str
 p:Pos
noncomputable def dS:Sd:=⟨0,e00,e00,[],none,[],[],.Add,⟨[],[],none,[],[],none,[]⟩,⟨.module,[],false,false,[]⟩,⟨#[]⟩,p00⟩
noncomputable def us(e:Stmt):Sd:=@Stmt.casesOn (λ_=>Sd) e
  (λn a b _ _ _ s _ _ p=>{ dS with x:=b,ar:=a,sc:=s,s:=n,p:=p })
  (λ_ _ _ _ _ _ _ _ _ _=>dS)
  (λ_ _ _ b _ _ _ _ _ _ p=>{ dS with x:=b,p:=p })
  (λe p=>{ dS with tag:=4,oe:=e,p:=p })
  (λl p=>{ dS with tag:=9,l:=l,p:=p })
  (λl e p=>{ dS with tag:=1,l:=l,a:=e,p:=p })
  (λ_ _ _ _ _ _ _=>dS)
  (λt o e p=>{ dS with tag:=2,a:=t,o:=o,b:=e,p:=p })
  (λ_ _ _ _ _=>dS)
  (λt i x y p=>{ dS with tag:=7,a:=t,b:=i,x:=x,y:=y,p:=p })
  (λ_ _ _ _ _=>dS)
  (λt x y p=>{ dS with tag:=6,a:=t,x:=x,y:=y,p:=p })
  (λt x y p=>{ dS with tag:=5,a:=t,x:=x,y:=y,p:=p })
  (λ_ _ _=>dS)
  (λ_ _ _=>dS)
  (λ_ _ _=>dS)
  (λ_ _ _=>dS)
  (λ_ _ _ _ _=>dS)
  (λ_ _ _ _ _=>dS)
  (λt m p=>{ dS with tag:=8,a:=t,oe:=m,p:=p })
  (λ_ _=>dS)
  (λ_ _ _ _=>dS)
  (λ_ _=>dS)
  (λ_ _=>dS)
  (λe p=>{ dS with tag:=3,a:=e,p:=p })
  (λp=>{ dS with tag:=11,p:=p })
  (λp=>{ dS with tag:=10,p:=p })
  (λ_=>dS)
noncomputable def bkS(d:Sd):List Stmt:=[.Pass p00,.Assign d.l d.a d.p,.AugAssign d.a d.o d.b d.p,.Expr d.a d.p,.Return d.oe d.p,.If d.a d.x d.y d.p,.While d.a d.x d.y d.p,.For d.a d.b d.x d.y d.p,.Assert d.a d.oe d.p,.Delete d.l d.p,.Break d.p,.Pass d.p]
noncomputable def Us(e:Stmt):Prop:=(us e).tag=0\/e=(bkS (us e)).getD (us e).tag (.Pass p00)
theorem kK1{e:Stmt}(h:e=(bkS (us e)).getD (us e).tag (.Pass p00)):Us e:=.inr h
theorem kJ1{e:Stmt}(h:(us e).tag=0):Us e:=.inl h
theorem dO1(e:Stmt):Us e:=by cases e <;> first | exact kJ1 rfl | exact kK1 rfl
theorem vk{e:Stmt}{k:Nat}(h:(us e).tag=k+1):e=(bkS (us e)).getD (k+1) (.Pass p00) :=
 (dO1 e).elim (λq=>absurd (q.symm.trans h) (Nat.succ_ne_zero k).symm) λq=>h▸q
noncomputable def gM1(s:Stmt):Arguments:=(us s).ar
noncomputable def aw(s:Stmt):List Stmt:=(us s).x
noncomputable def af(s:Stmt):Scope:=(us s).sc
noncomputable def mY1:Const->Int | .int i=>i | _=>0
noncomputable def k01:Const->Str | .str x=>x | _=>⟨#[]⟩
noncomputable def mV1(e:Expr):List (Int×Str):=((un e).ko.zip (un e).l).map λx=>(mY1 (un (x.1.getD e00)).v,k01 (un x.2).v)
open PySem PySem.W PyProof.Rows
section
variable {p:Program} {w:World} {n₀:Nat} {ann:Option Value} {q:Pos}
noncomputable def Steps(p:Program)(w:World)(n₀:Nat)(ann:Option Value)(s:Shared)(t:Thread)(s':Shared)(t':Thread):Prop :=
 ∃ n,segGo treeTable p w n₀ ann 1 n s t=some (s',t')
theorem mY{tb:String->Option Builtin}{b:Nat}:∀ {n m:Nat} {s s' s'':Shared} {t t' t'':Thread},segGo tb p w n₀ ann b n s t=some (s',t') ->
  segGo tb p w n₀ ann b m s' t'=some (s'',t'')->segGo tb p w n₀ ann b (n+m) s t=some (s'',t'')
 | 0,m,s,s',s'',t,t',t'',h,k=>by
  refine byQ λQ kQ=>?_
  obtain ⟨rfl,rfl⟩:s=s'/\t=t':=by simpa [segGo] using h
  refine kQ ?_
  rw[Nat.zero_add];exact k
 | n+1,m,s,s',s'',t,t',t'',h,k=>by
  rw[show n+1+m=n+m+1 by exact Nat.add_right_comm _ _ _]
  dsimp only[segGo] at h ⊢
  cases he:endAt b t with
  | some f=>rw[he] at h;exact nso h
  | none =>
   rw[he] at h
   cases hk:stepOk n₀ ann t with
   | false=>replace h:=(hk)▸h;exact nso h
   | true =>
    replace h:=(hk)▸h
    cases hs:step (denote tb) p w s t with
    | halt o aG=>rw[hs] at h;exact nso h
    | go aG c0=>rw[hs] at h;exact mY h k
theorem Steps.refl(s:Shared)(t:Thread):Steps p w n₀ ann s t s t:=⟨0,rfl⟩
theorem Steps.trans{s s' s'':Shared}{t t' t'':Thread}(h:Steps p w n₀ ann s t s' t')(k:Steps p w n₀ ann s' t' s'' t''):Steps p w n₀ ann s t s'' t'' :=
 let ⟨_,h⟩:=h;let ⟨_,k⟩:=k;⟨_,mY h k⟩
noncomputable def Yld{α:Type}(p:Program)(w:World)(n₀:Nat)(ann:Option Value)(q:Pos)(x:Sem α)(pos:Pos)(s:Shared)(a:α)(pos':Pos)(s':Shared):Prop :=
 ∀ (K:α->Sem Fin) (H:Value->Sem Fin) (gd:Bool->Bool) (lv:List Value->List Value) (code:Code),
  Steps p w n₀ ann s ⟨x.wrap K H gd lv,code,pos,[topFrame q]⟩ s' ⟨K a,code,pos',[topFrame q]⟩
variable {α β:Type} {pos pos' pos'':Pos} {s s' s'':Shared}
theorem gR1{a:α}:Yld p w n₀ ann q (Sem.pure a) pos s a pos s:=λ_ _ _ _ _=>Steps.refl _ _
theorem aH{a:α}:Yld p w n₀ ann q (Pure.pure a:Sem α) pos s a pos s:=λ_ _ _ _ _=>Steps.refl _ _
theorem ay{x:Sem α}{f:α->Sem β}{a:α}{b:β}(h:Yld p w n₀ ann q x pos s a pos' s')(k:Yld p w n₀ ann q (f a) pos' s' b pos'' s'') :
  Yld p w n₀ ann q (x>>=f) pos s b pos'' s'':=λK H gd lv code=>by
 rw[Sem.bind_eq_wrap',Sem.wrap_wrap]
 exact(h _ _ _ _ _).trans (k _ _ _ _ _)
theorem gT1{x:Sem α}{vs:List Value}{a:α}(h:Yld p w n₀ ann q x pos s a pos' s'):Yld p w n₀ ann q (x.keep vs) pos s a pos' s':=λK H gd lv code=>by
 rw[Sem.keep_eq_wrap,Sem.wrap_wrap]
 exact h _ _ _ _ _
theorem aT{x:Sem α}{vs:List Value}{a:α}(h:Yld p w n₀ ann q x pos s a pos' s'):Yld p w n₀ ann q (holding vs x) pos s a pos' s':=by
 unfold holding
 split
 ·exact h
 ·exact gT1 h
theorem uj{x:Sem α}{f:Value->Sem α}{a:α}(h:Yld p w n₀ ann q x pos s a pos' s'):Yld p w n₀ ann q (x.tryCatch f) pos s a pos' s':=λK H gd lv code=>by
 rw[Sem.tryCatch_eq_wrap,Sem.wrap_wrap]
 exact h _ _ _ _ _
theorem oK{x:Sem α}{f:Value->Sem Unit}{a:α}(h:Yld p w n₀ ann q x pos s a pos' s'):Yld p w n₀ ann q (x.onRaise f) pos s a pos' s':=λK H gd lv code=>by
 rw[Sem.onRaise_eq_wrap,Sem.wrap_wrap]
 exact h _ _ _ _ _
theorem eP{x y:Sem α}{a:α}(e:x=y)(h:Yld p w n₀ ann q y pos s a pos' s'):Yld p w n₀ ann q x pos s a pos' s':=e▸h
theorem aQ1{tag:String}:Yld p w n₀ ann q (rule tag) pos s () pos s:=λK H gd lv code=>⟨1,rfl⟩
theorem jA{pp:Pos}:Yld p w n₀ ann q (PySem.standAt pp) pos s () pp s:=λK H gd lv code=>⟨1,rfl⟩
theorem xR:Yld p w n₀ ann q PySem.fresh pos s s.toks pos { s with toks:=s.toks+1 }:=λK H gd lv code=>⟨1,rfl⟩
theorem jD1:Yld p w n₀ ann q PySem.ask pos s ⟨p,w.params⟩ pos s:=λK H gd lv code=>⟨1,rfl⟩
theorem xT{o:Obj}:Yld p w n₀ ann q (PySem.alloc o) pos s s.heap.objs.size pos { s with heap:=s.heap.push o }:=λK H gd lv code=>⟨1,rfl⟩
theorem dz{a:Addr}{part:Option Value}{o:Obj}(h:s.heap.get? a=some o):Yld p w n₀ ann q (PySem.loadPart a part) pos s o pos s:=λK H gd lv code=>⟨1,by
 obtain ⟨heap,gens,drawn,toks,os⟩:=s
 show (match (match heap.get? a with | some o=>Step.go _ _ | none=>_:Step) with | .go s' t'=>some (s',t') | .halt _ _=>none)=_
 have h':heap.get? a=some o:=h
 rw[h'];rfl⟩
theorem oH{a:Addr}{part:Option Value}{f:Obj->Obj}{o:Obj}(h:s.heap.get? a=some o)(hn:n₀<=a) :
  Yld p w n₀ ann q (PySem.updatePart a part f) pos s () pos { s with heap:=s.heap.update a f }:=λK H gd lv code=>⟨1,by
 obtain ⟨heap,gens,drawn,toks,os⟩:=s
 have hk:stepOk n₀ ann ⟨(PySem.updatePart a part f).wrap K H gd lv,code,pos,[topFrame q]⟩=true:=by
  show (true&&(Nat.ble n₀ a || _ || _ || _))=true
  rw[Nat.ble_eq.mpr hn];rfl
 have h':heap.get? a=some o:=h
 dsimp only[segGo]
 show (match stepOk n₀ ann ⟨(PySem.updatePart a part f).wrap K H gd lv,code,pos,[topFrame q]⟩ with | false=>none | true=>_)=_
 rw[hk]
 show (match (if (heap.get? a).isSome=true then Step.go _ _ else _:Step) with | .go s' t'=>some (s',t') | .halt _ _=>none)=_
 rw[h'];rfl⟩
end
section
variable {p:Program} {w:World} {n₀:Nat} {ann:Option Value} {q:Pos} {pos pos':Pos} {s s':Shared}
theorem ul{i:Int}{t:Tok}:Yld p w n₀ ann q (call (.builtin "int.__hash__") [.int i t]) pos s (.int (rawHash i) s.toks) pos { s with toks:=s.toks+1 } :=
 λK H gd lv code=>⟨4,by
  obtain ⟨heap,gens,drawn,toks,os⟩:=s
  rfl'⟩
theorem um{i:Int}{t:Tok}:Yld p w n₀ ann q (bindSpecialIfBound? (.int i t) "__hash__") pos s (some (.builtin "int.__hash__",[.int i t])) pos s:=by
 unfold bindSpecialIfBound?
 have e:specialOf (.int i t) "__hash__"=pure (some (.builtin "int.__hash__")):=by
  have:=slot_int_hash.lookup
  unfold specialOf
  exact this
 have e2:bindSpecial (.builtin "int.__hash__") (.int i t)=pure (.builtin "int.__hash__",[.int i t]):=by rfl'
 refine(e)▸?_
 refine ay aH ?_
 show Yld p w n₀ ann q (ask>>=λst=>if st.params.followText "special-get-raises"=true then _ else _) _ _ _ _ _
 refine ay jD1 ?_
 have b:Yld p w n₀ ann q (do return some (← bindSpecial (.builtin "int.__hash__") (.int i t)):Sem (Option (Value×List Value))) pos s (some (.builtin "int.__hash__",[.int i t])) pos s:=by
  exact(e2)▸(ay aH aH)
 split
 ·exact b
 ·exact uj b
theorem oJ{i:Int}{t:Tok}(h0:-(2:Int)^63<=rawHash i)(h1:rawHash i<2^63) :
  Yld p w n₀ ann q (pyHash (.int i t)) pos s (if rawHash i==-1 then -2 else rawHash i) pos { s with toks:=s.toks+1 }:=by
 dsimp only[pyHash]
 show Yld p w n₀ ann q (pyHashByItsType (.int i t)) _ _ _ _ _
 unfold pyHashByItsType
 have e:specialOf (.int i t) "__hash__"=pure (some (.builtin "int.__hash__")):=by
  have:=slot_int_hash.lookup
  unfold specialOf
  exact this
 have e0:cRoomFor "hash" [Value.int i t]=pure ():=rfl
 refine ay (eP e0 aH) (ay (eP e aH) ?_)
 show Yld p w n₀ ann q (if (some (Value.builtin "int.__hash__")==some Value.none)=true then _ else _) _ _ _ _ _
 rw[if_neg (by decide)]
 refine ay (eP e aH) ?_
 show Yld p w n₀ ann q (callSpecialIfBoundUnlessNone? (.int i t) "__hash__" _>>=_) _ _ _ _ _
 refine ay (a:=some (.int (rawHash i) s.toks)) (pos':=pos) (s':={ s with toks:=s.toks+1 }) ?_ ?_
 ·unfold callSpecialIfBoundUnlessNone?
  refine aT (ay um ?_)
  show Yld p w n₀ ann q (if (Value.builtin "int.__hash__"==Value.none)=true then _ else _) _ _ _ _ _
  rw[if_neg (by decide)]
  exact ay ul aH
 ·show Yld p w n₀ ann q (if (decide (-(2:Int) ^ 63<=rawHash i)&&decide (rawHash i<2 ^ 63))=true then _ else _) _ _ _ _ _
  rw[if_pos (by rw[decide_eq_true h0,decide_eq_true h1];rfl)]
  exact aH
theorem ck{a:Addr}{part:Option Value}{o:Obj}{es:Array DictEntry}{n:Nat}(h:s.heap.get? a=some o)(hd:o.data=.dict es n) :
  Yld p w n₀ ann q (PySem.dictEntries a part) pos s es pos s:=by
 unfold PySem.dictEntries
 refine ay (dz h) ?_
 exact(hd)▸(aH)
theorem jC{a:Addr}{part:Option Value}{o:Obj}{es:Array DictEntry}{n:Nat}(h:s.heap.get? a=some o)(hd:o.data=.dict es n) :
  Yld p w n₀ ann q (PySem.dictEpoch a part) pos s n pos s:=by
 unfold PySem.dictEpoch
 refine ay (dz h) ?_
 exact(hd)▸(aH)
noncomputable def aO(es:Array DictEntry)(n:Nat):Obj:={ cls:=.type "dict",data:=.dict es n }
theorem mdk{es:Array DictEntry}{n:Nat}{e:DictEntry}:Obj.mapDictKeys (λx=>x.push e) (aO es n)=aO (es.push e) (n+1):=rfl
theorem jB{a:Addr}{part:Option Value}{es:Array DictEntry}{n:Nat}{e:DictEntry}(h:s.heap.get? a=some (aO es n))(hn:n₀<=a)(hz:es.size<=1000) :
  Yld p w n₀ ann q (updateDictKeys a (·.push e) part) pos s () pos { s with heap:=s.heap.update a (Obj.mapDictKeys (·.push e)) }:=by
 unfold updateDictKeys
 refine ay (dz h) ?_
 show Yld p w n₀ ann q (updatePart a part (Obj.mapDictKeys (·.push e))>>=λ_=>lookBehind a part) _ _ _ _ _
 refine ay (oH h hn) ?_
 unfold lookBehind
 have h':(s.heap.update a (Obj.mapDictKeys (·.push e))).get? a=some (aO (es.push e) (n+1)):=Heap.get?_update_self _ h rfl
 refine ay (dz h') ?_
 have:(aO (es.push e) (n+1)).data.pastItsLine=none:=by
  show (if (es.push e).size>sizeLine+1 then _ else none)=_
  rw[if_neg (by rw[Array.size_push,sizeLine_eq];lia)]
 exact(this)▸(aH)
noncomputable def NotIn(h:Int)(es:Array DictEntry):Prop:=∀ e∈es.toList,e.hash≠h
theorem pA{h:Int}{es:Array DictEntry}(hn:NotIn h es):placesWithHash es.size (λi=>es[i]?.map (·.hash)) h=[]:=by
 dsimp only[placesWithHash]
 rw[List.filter_eq_nil_iff]
 intro i hi
 have hi':i<es.size:=by simpa using hi
 have:es[i]?=some es[i]:=Array.getElem?_eq_getElem hi'
 simp only[this,Option.map_some,beq_iff_eq,Option.some.injEq]
 intro e
 exact hn es[i] (by simp) e
theorem eQ{a:Addr}{i:Int}{t:Tok}{h:Int}{es:Array DictEntry}{n:Nat}(ho:s.heap.get? a=some (aO es n))(hn:NotIn h es) :
  Yld p w n₀ ann q (dictFind a (.int i t) h) pos s none pos s:=by
 unfold dictFind
 refine aT (ay (ck ho rfl) ?_)
 show Yld p w n₀ ann q (if (Value.int i t::(placesWithHash es.size (λi=>es[i]?.map (·.hash)) h).filterMap λi=>es[i]?.map (·.key)).all carriedByValue=true then _ else _) _ _ _ _ _
 refine(pA hn)▸?_
 show Yld p w n₀ ann q (dictWalkPlain a (.int i t) h es []) _ _ _ _ _
 exact gR1
theorem xS{a:Addr}{i:Int}{t:Tok}{h:Int}{v:Value}{es:Array DictEntry}{n:Nat}(ho:s.heap.get? a=some (aO es n))(hn:NotIn h es)(ha:n₀<=a)(hz:es.size<=1000) :
  Yld p w n₀ ann q (PySem.dictPut a h (.int i t) v) pos s () pos { s with heap:=s.heap.update a (Obj.mapDictKeys (·.push ⟨h,.int i t,v⟩)) }:=by
 unfold PySem.dictPut
 exact ay (eQ ho hn) (jB ho ha hz)
theorem oM{a:Addr}{i:Int}{t:Tok}{v:Value}{es:Array DictEntry}{n:Nat}(ho:s.heap.get? a=some (aO es n))(hi:0<=i)(hi':i<2^60)(hn:NotIn i es)(ha:n₀<=a)(hz:es.size<=1000) :
  Yld p w n₀ ann q (PySem.dictSet a (.int i t) v) pos s () pos { s with heap:=s.heap.update a (Obj.mapDictKeys (·.push ⟨i,.int i t,v⟩)),toks:=s.toks+1 }:=by
 have hr:rawHash i=i:=by
  dsimp only[rawHash]
  have h1:((i.natAbs:Int) % ((2 ^ 61 - 1:Nat):Int))=i:=by
   rw[← Int.natCast_emod,Nat.mod_eq_of_lt (by omega)];lia
  have h2:¬ i<0:=by lia
  have h3:(i==-1)=false:=by rw[beq_eq_false_iff_ne];lia
  simp only[h1,h2,if_false,h3,Bool.false_eq_true]
 unfold PySem.dictSet
 refine aT (ay (oJ (by rw[hr];lia) (by rw[hr];omega)) ?_)
 rw[hr]
 have:(i==-1)=false:=by rw[beq_eq_false_iff_ne];lia
 refine(this)▸?_
 unfold dictSetHashed
 refine aT (ay (eQ ho hn) (ay aQ1 (jB ho ha hz)))
end
noncomputable def hx(hb:Heap)(l:List Obj):Heap:=⟨hb.objs++l.toArray,hb.life⟩
theorem fS1(hb:Heap):hx hb []=hb:=by obtain ⟨⟨o⟩,l⟩:=hb;simp [hx]
theorem xg(hb:Heap)(l:List Obj):(hx hb l).objs.size=hb.objs.size+l.length:=by simp [hx]
theorem xh(hb:Heap)(l:List Obj)(o:Obj):(hx hb l).push o=hx hb (l++[o]):=by
 have os:=hb.1;have lf:=hb.2
 simp [hx,Heap.push]
theorem sf(hb:Heap)(l:List Obj)(k:Nat)(o:Obj)(h:l[k]?=some o)(hf:∀ s d c,o≠⟨c,d,.freed,s⟩):(hx hb l).get? (hb.objs.size+k)=some o:=by
 have e:(hx hb l).objs[hb.objs.size+k]?=some o:=by
  dsimp only[hx]
  rw[Array.getElem?_append_right (by exact Nat.le_add_right _ _)]
  simpa using h
 unfold Heap.get?
 rw[e]
 obtain ⟨c,d,dt,sl⟩:=o
 cases dt <;> first | rfl | exact absurd rfl (hf _ _ _)
theorem jj(hb:Heap)(l:List Obj)(k:Nat)(f:Obj->Obj)(o:Obj)(h:l[k]?=some o):(hx hb l).update (hb.objs.size+k) f=hx hb (l.set k (f o)):=by
 obtain ⟨⟨os⟩,lf⟩:=hb
 unfold hx Heap.update
 simp only[Heap.mk.injEq,and_true]
 apply Array.ext'
 simp only[Array.toList_modify,List.append_toArray,List.size_toArray]
 apply List.ext_getElem?
 intro i
 rw[List.getElem?_modify]
 by_cases hi:i<os.length
 ·rw[List.getElem?_append_left hi,List.getElem?_append_left hi]
  have:¬ os.length+k=i:=by omega
  simp only[this,if_false]
  cases os[i]? <;> rfl
 ·rw[List.getElem?_append_right (by exact Nat.not_lt.mp ‹_›),List.getElem?_append_right (by exact Nat.not_lt.mp ‹_›),List.getElem?_set]
  by_cases hk:os.length+k=i
  ·have e:i - os.length=k:=by omega
   have hlt:k<l.length:=(List.getElem?_eq_some_iff.mp h).1
   rw[e,h]
   simp [hk,hlt]
  ·have:¬ k=i - os.length:=by omega
   simp only[hk,this,if_false]
   cases l[i - os.length]? <;> rfl
section
variable {p:Program} {w:World} {n₀:Nat} {ann:Option Value} {q:Pos} {pos pos':Pos} {s s':Shared}
theorem q8{α:Type}{l:List α}{f:α->PUnit->Sem (ForInStep PUnit)}(S:Nat->Shared)(h:∀ k x,l[k]?=some x->Yld p w n₀ ann q (f x ⟨⟩) pos (S k) (.yield ⟨⟩) pos (S (k+1))) :
  Yld p w n₀ ann q (forIn l ⟨⟩ f) pos (S 0) ⟨⟩ pos (S l.length):=by
 induction l generalizing S with
 | nil=>rw[List.forIn_nil];exact aH
 | cons x l ih =>
  rw[List.forIn_cons]
  refine ay (h 0 x rfl) ?_
  have:=ih (λk=>S (k+1)) λk y hy=>h (k+1) y (by exact hy)
  exact this
noncomputable def cH(t:Nat)(kvs:List (Int×Str)):List DictEntry:=kvs.zipIdx.map λx=>⟨x.1.1,.int x.1.1 (t+3*x.2),.str x.1.2 (t+3*x.2+1)⟩
noncomputable def gJ(t:Nat)(kvs:List (Int×Str)):List DictEntry:=kvs.zipIdx.map λx=>⟨x.1.1,.int x.1.1 (t+2*x.2),.str x.1.2 (t+2*x.2+1)⟩
theorem aX(t:Nat)(kvs:List (Int×Str)):(cH t kvs).length=kvs.length:=by simp [cH]
theorem bT(t:Nat)(kvs:List (Int×Str)):(gJ t kvs).length=kvs.length:=by simp [gJ]
theorem zN(t:Nat)(kvs:List (Int×Str))(k:Nat)(i:Int)(x:Str)(h:kvs[k]?=some (i,x)):(cH t kvs)[k]?=some ⟨i,.int i (t+3*k),.str x (t+3*k+1)⟩:=by
 simp [cH,List.getElem?_map,List.getElem?_zipIdx,h]
theorem sm(t:Nat)(kvs:List (Int×Str))(k:Nat)(i:Int)(x:Str)(h:kvs[k]?=some (i,x)):(gJ t kvs)[k]?=some ⟨i,.int i (t+2*k),.str x (t+2*k+1)⟩:=by
 simp [gJ,List.getElem?_map,List.getElem?_zipIdx,h]
theorem ew{α:Type}{l:List α}{k:Nat}{x:α}(h:l[k]?=some x):l.take (k+1)=l.take k++[x]:=by
 rw[List.take_add_one,h];rfl
noncomputable def ba(es:List DictEntry):List Int:=es.map (·.hash)
theorem dR(t:Nat)(kvs:List (Int×Str)):ba (cH t kvs)=kvs.map (·.1):=by
 apply List.ext_getElem?
 intro k
 simp only[ba,cH,List.map_map,List.getElem?_map,List.getElem?_zipIdx]
 cases kvs[k]? <;> rfl
theorem jk(t:Nat)(kvs:List (Int×Str)):ba (gJ t kvs)=kvs.map (·.1):=by
 apply List.ext_getElem?
 intro k
 simp only[ba,gJ,List.map_map,List.getElem?_map,List.getElem?_zipIdx]
 cases kvs[k]? <;> rfl
theorem lK{es:List DictEntry}{i:Int}(h:i ∉ ba es):NotIn i es.toArray:=λe he hh=>h (by
 simp only[ba,List.mem_map];exact⟨e,by simpa using he,hh⟩)
theorem eG{l:List Int}(hn:l.Nodup){k:Nat}{i:Int}(h:l[k]?=some i):i ∉ l.take k:=by
 intro hm
 have hd:i∈l.drop k:=by
  obtain ⟨hk,e⟩:=List.getElem?_eq_some_iff.mp h
  rw[List.mem_drop_iff_getElem]
  exact⟨0,by lia,by exact e⟩
 have hn':(l.take k++l.drop k).Nodup:=by rw[List.take_append_drop];exact hn
 exact(List.nodup_append.mp hn').2.2 i hm i hd rfl
noncomputable def aC1(i:Int):Sem Value:=mkInt i
noncomputable def ah1(pd:Pos)(x:Str):Sem Value:=do let v ← mkText x;standAt pd;pure v
theorem gS1{i:Int}:Yld p w n₀ ann q (aC1 i) pos s (.int i s.toks) pos { s with toks:=s.toks+1 }:=ay xR aH
theorem gQ1{pd:Pos}{x:Str}:Yld p w n₀ ann q (ah1 pd x) pos s (.str x s.toks) pd { s with toks:=s.toks+1 }:=ay (ay xR aH) (ay jA aH)
noncomputable def GoodKeys(kvs:List (Int×Str)):Prop:=(kvs.map (·.1)).Nodup/\∀ x∈kvs,0<=x.1/\x.1<2 ^ 60
theorem oI{pd:Pos}{hb:Heap}{l:List Obj}{kvs:List (Int×Str)}(hk:GoodKeys kvs)(h15:15<kvs.length)(h1000:kvs.length<=1000)(hn:n₀<=hb.objs.size)(t:Nat) :
  Yld p w n₀ ann q (subDict (kvs.map λx=>(aC1 x.1,ah1 pd x.2))) pd { s with heap:=hx hb l,toks:=t } (hb.objs.size+l.length) pd
   { s with heap:=hx hb (l++[aO (cH t kvs).toArray kvs.length]),toks:=t+3*kvs.length }:=by
 dsimp only[subDict]
 refine ay xT ?_
 rw[show (hx hb l).objs.size=hb.objs.size+l.length from xg _ _]
 rw[show ((hx hb l).push { cls:=.type "dict",data:=.dict #[] })=hx hb (l++[aO #[] 0]) from xh _ _ _]
 refine ay (a:=PUnit.unit) (aT ?_) aH
 rw[if_neg (by simp;assumption)]
 refine ay aQ1 ?_
 have loop:=q8 (p:=p) (w:=w) (n₀:=n₀) (ann:=ann) (q:=q) (pos:=pd) (l:=kvs.map λx=>(aC1 x.1,ah1 pd x.2))
  (f:=λx _=>do
   let kv ← x.1
   let vv ← holding [kv] x.2
   holding [kv,vv] (dictSet (hb.objs.size+l.length) kv vv)
   pure (ForInStep.yield PUnit.unit))
  (λk=>{ s with heap:=hx hb (l++[aO ((cH t kvs).take k).toArray k]),toks:=t+3*k }) (by
   intro k x hx'
   rw[List.getElem?_map] at hx'
   refine a4 (Option.map_eq_some_iff.mp hx') λh_0 h_p=>?_;obtain ⟨i,v⟩:=h_0;have hkv:=h_p.1;obtain rfl:=h_p.2
   have hlt:k<kvs.length:=(List.getElem?_eq_some_iff.mp hkv).1
   have h_p:=hk.2 (i,v) (List.mem_of_getElem? hkv);have g0:=h_p.1;have g1:=h_p.2
   have hi:((kvs.map (·.1))[k]?)=some i:=by rw[List.getElem?_map,hkv];rfl
   have hget:(hx hb (l++[aO ((cH t kvs).take k).toArray k])).get? (hb.objs.size+l.length)=some (aO ((cH t kvs).take k).toArray k) :=
    sf _ _ _ _ (by simp) (by intro a b c;simp [aO])
   refine ay gS1 (ay (aT gQ1) (ay (aT (oM (es:=((cH t kvs).take k).toArray) (n:=k) hget g0 g1 ?_ (by exact Nat.le_trans ‹_› (Nat.le_add_right _ _)) ?_)) ?_))
   ·refine lK ?_
    have:ba ((cH t kvs).take k)=(kvs.map (·.1)).take k:=by rw[← dR t kvs];simp [ba,List.map_take]
    rw[this]
    exact eG hk.1 hi
   ·simp [aX];lia
   ·have e:(hx hb (l++[aO ((cH t kvs).take k).toArray k])).update (hb.objs.size+l.length) (Obj.mapDictKeys λx=>x.push ⟨i,Value.int i (t+3*k),Value.str v (t+3*k+1)⟩)
      = hx hb (l++[aO ((cH t kvs).take (k+1)).toArray (k+1)]):=by
     rw[jj _ _ _ _ (aO ((cH t kvs).take k).toArray k) (by simp)]
     congr 1
     rw[ew (zN t kvs k i v hkv)]
     rw[mdk,List.push_toArray]
     simp
    show Yld p w n₀ ann q (pure (ForInStep.yield PUnit.unit)) pd { s with heap:=(hx hb (l++[aO ((cH t kvs).take k).toArray k])).update (hb.objs.size+l.length) (Obj.mapDictKeys λx=>x.push ⟨i,Value.int i (t+3*k),Value.str v (t+3*k+1)⟩),toks:=t+3*k+1+1+1 } _ _ _
    rw[e]
    exact aH)
 rw[List.length_map] at loop
 simp only[List.take_zero,Nat.mul_zero,Nat.add_zero] at loop
 rw[show (cH t kvs).take kvs.length=cH t kvs from by rw[← aX t kvs,List.take_length]] at loop
 exact ay loop aH
theorem q9{pd:Pos}(kvs:List (Int×Str)):∀ (s:Shared),Yld p w n₀ ann q (evalPairs (kvs.map λx=>(aC1 x.1,ah1 pd x.2))) pd s
  ((gJ s.toks kvs).map λe=>(e.key,e.val)) pd { s with toks:=s.toks+2*kvs.length }:=by
 induction kvs with
 | nil=>intro s;exact aH
 | cons x r ih =>
  intro s
  obtain ⟨i,v⟩:=x
  show Yld p w n₀ ann q (evalPairs ((aC1 i,ah1 pd v)::r.map λx=>(aC1 x.1,ah1 pd x.2))) _ _ _ _ _
  dsimp only[evalPairs]
  refine ay gS1 (ay (aT gQ1) (ay (aT (ih _)) ?_))
  have e:((gJ s.toks ((i,v)::r)).map λe=>(e.key,e.val))=(Value.int i s.toks,Value.str v (s.toks+1))::((gJ (s.toks+1+1) r).map λe=>(e.key,e.val)):=by
   simp only[gJ,List.map_map,List.zipIdx_cons,List.map_cons,Function.comp_def,List.cons.injEq]
   refine⟨by simp,?_⟩
   apply List.ext_getElem?
   intro k
   simp only[List.getElem?_map,List.getElem?_zipIdx]
   cases r[k]? with
   | none=>rfl
   | some y =>
    simp only[Option.map_some]
    have h1:s.toks+2*(0+1+k)=s.toks+1+1+2*(0+k):=by lia
    rw[h1]
  refine(e)▸?_
  have e2:s.toks+2*((i,v)::r).length=s.toks+1+1+2*r.length:=by rw[List.length_cons];lia
  rw[e2]
  exact aH
theorem uk{pd:Pos}{hb:Heap}{l:List Obj}{kvs:List (Int×Str)}(hk:GoodKeys kvs)(h15:kvs.length<=15)(hn:n₀<=hb.objs.size)(t:Nat) :
  Yld p w n₀ ann q (subDict (kvs.map λx=>(aC1 x.1,ah1 pd x.2))) pd { s with heap:=hx hb l,toks:=t } (hb.objs.size+l.length) pd
   { s with heap:=hx hb (l++[aO (gJ t kvs).toArray kvs.length]),toks:=t+3*kvs.length }:=by
 dsimp only[subDict]
 refine ay xT ?_
 rw[show (hx hb l).objs.size=hb.objs.size+l.length from xg _ _]
 rw[show ((hx hb l).push { cls:=.type "dict",data:=.dict #[] })=hx hb (l++[aO #[] 0]) from xh _ _ _]
 refine ay (a:=PUnit.unit) (aT ?_) aH
 rw[if_pos (by simpa using h15)]
 refine ay (q9 kvs _) ?_
 refine aT ?_
 have loop:=q8 (p:=p) (w:=w) (n₀:=n₀) (ann:=ann) (q:=q) (pos:=pd) (l:=(gJ t kvs).map λe=>(e.key,e.val))
  (f:=λx _=>do
   dictSet (hb.objs.size+l.length) x.1 x.2
   pure (ForInStep.yield PUnit.unit))
  (λk=>{ s with heap:=hx hb (l++[aO ((gJ t kvs).take k).toArray k]),toks:=t+2*kvs.length+k }) (by
   intro k x hx'
   replace hx':=(List.getElem?_map)▸hx'
   obtain ⟨e,h_p⟩:=Option.map_eq_some_iff.mp hx';have he:=h_p.1;obtain rfl:=h_p.2
   have hlt:k<kvs.length:=by have:=(List.getElem?_eq_some_iff.mp he).1;rwa [bT] at this
   obtain ⟨⟨i,v⟩,hkv⟩:∃ x,kvs[k]?=some x:=⟨_,List.getElem?_eq_getElem hlt⟩
   rw[sm t kvs k i v hkv] at he
   obtain rfl:=siX he
   have h_p:=hk.2 (i,v) (List.mem_of_getElem? hkv);have g0:=h_p.1;have g1:=h_p.2
   have hi:((kvs.map (·.1))[k]?)=some i:=by rw[List.getElem?_map,hkv];rfl
   have hget:(hx hb (l++[aO ((gJ t kvs).take k).toArray k])).get? (hb.objs.size+l.length)=some (aO ((gJ t kvs).take k).toArray k) :=
    sf _ _ _ _ (by simp) (by intro a b c;simp [aO])
   refine ay (oM (es:=((gJ t kvs).take k).toArray) (n:=k) hget g0 g1 ?_ (by exact Nat.le_trans ‹_› (Nat.le_add_right _ _)) ?_) ?_
   ·refine lK ?_
    have:ba ((gJ t kvs).take k)=(kvs.map (·.1)).take k:=by rw[← jk t kvs];simp [ba,List.map_take]
    refine(this)▸?_
    exact eG hk.1 hi
   ·simp [bT];lia
   ·have e:(hx hb (l++[aO ((gJ t kvs).take k).toArray k])).update (hb.objs.size+l.length) (Obj.mapDictKeys λx=>x.push ⟨i,Value.int i (t+2*k),Value.str v (t+2*k+1)⟩)
      = hx hb (l++[aO ((gJ t kvs).take (k+1)).toArray (k+1)]):=by
     rw[jj _ _ _ _ (aO ((gJ t kvs).take k).toArray k) (by simp)]
     congr 1
     rw[ew (sm t kvs k i v hkv)]
     rw[mdk,List.push_toArray]
     simp
    dsimp only
    rw[e]
    exact aH)
 rw[List.length_map,bT] at loop
 simp only[List.take_zero,Nat.add_zero] at loop
 rw[show (gJ t kvs).take kvs.length=gJ t kvs from by rw[← bT t kvs,List.take_length]] at loop
 rw[show t+2*kvs.length+kvs.length=t+3*kvs.length by lia] at loop
 exact ay loop aH
theorem kf{a:Addr}{o:Obj}(h:s.heap.get? a=some o):Yld p w n₀ ann q (typeOf (.ref a)) pos s o.cls pos s:=ay (dz h) aH
theorem zF{E M:List DictEntry}{k:Nat}(hd:(ba (E++M)).Nodup)(hk:k<M.length):NotIn M[k].hash (E++M.take k).toArray:=lK (by
 have e0:∀ a b:List DictEntry,ba (a++b)=ba a++ba b:=λa b=>List.map_append
 have e3:(ba E).length=E.length:=List.length_map _
 have e1:(ba (E++M))[E.length+k]?=some M[k].hash:=by
  rw[e0,List.getElem?_append_right (by rw[e3];exact Nat.le_add_right _ _),e3,Nat.add_sub_cancel_left]
  exact(List.getElem?_map).trans (congrArg (Option.map _) (List.getElem?_eq_getElem hk))
 have e2:ba (E++M.take k)=(ba (E++M)).take (E.length+k):=by
  rw[e0,e0,List.take_append,e3,Nat.add_sub_cancel_left,List.take_of_length_le (l:=ba E) (by rw[e3];exact Nat.le_add_right _ _)]
  exact congrArg (ba E++·) List.map_take
 rw[e2]
 exact eG hd e1)
theorem z0{a b:Addr}{Hk:Nat->Heap}{E M:List DictEntry}{nE nM:Nat}(hE:E≠[])(hM:∀ e∈M,∃ i t,e.key=.int i t)(hd:(ba (E++M)).Nodup)(hz:E.length+M.length<=1000)(hna:n₀<=a)(hb:sysModules<b)
  (getE:∀ k,(Hk k).get? a=some (aO (E++M.take k).toArray (nE+k))) (getM:∀ k,(Hk k).get? b=some (aO M.toArray nM))
  (hup:∀ k (h:k<M.length),(Hk k).update a (Obj.mapDictKeys λx=>x.push ⟨M[k].hash,M[k].key,M[k].val⟩)=Hk (k+1)) (t:Nat) :
  Yld p w n₀ ann q (mergeMapping a (.ref b) false) pos { s with heap:=Hk 0,toks:=t } () pos { s with heap:=Hk M.length,toks:=t }:=by
 have g0:(Hk 0).get? a=some (aO E.toArray nE):=(getE 0).trans (by rw[List.take_zero,List.append_nil];rfl)
 unfold mergeMapping
 have isD:Yld p w n₀ ann q (isInstance (.ref b) (.type "dict")) pos { s with heap:=Hk 0,toks:=t } true pos { s with heap:=Hk 0,toks:=t }:=by
  unfold isInstance
  refine ay (kf (getM 0)) ?_
  show Yld p w n₀ ann q (isSubtype (.type "dict") (.type "dict")) _ _ _ _ _
  exact(isSubtype_dict_dict)▸(aH)
 have sp:Yld p w n₀ ann q (specialOf (.ref b) "__iter__") pos { s with heap:=Hk 0,toks:=t } (some (.builtin "dict.__iter__")) pos { s with heap:=Hk 0,toks:=t }:=by
  unfold specialOf
  refine ay (kf (getM 0)) ?_
  show Yld p w n₀ ann q (typeLookup (.type "dict") "__iter__") _ _ _ _ _
  exact(F.slot_dict_iter.lookup)▸(aH)
 refine ay isD ?_
 rw[if_pos rfl]
 refine ay sp ?_
 show Yld p w n₀ ann q (if (b==sysModules)=true then _ else _) _ _ _ _ _
 rw[if_neg (by rw[beq_eq_false_iff_ne.mpr (Nat.ne_of_gt hb)];exact Bool.false_ne_true)]
 refine ay (ck g0 rfl) ?_
 rw[if_neg (by simpa using hE)]
 refine ay (ck (getM 0) rfl) ?_
 refine ay (jC (getM 0) rfl) ?_
 have loop:=q8 (p:=p) (w:=w) (n₀:=n₀) (ann:=ann) (q:=q) (pos:=pos) (l:=List.range M.length)
  (f:=λi _=>do
   match (← dictEntries b)[i]? with
   | some e=>do
    holding [e.key,e.val] (dictPut a e.hash e.key e.val)
    let y ← dictEpoch b
    if (y != nM)=true then do
     unsupported "dict.changed-during-merge"
     pure (ForInStep.yield PUnit.unit)
    else pure (ForInStep.yield PUnit.unit)
   | x=>do
    unsupported "dict.changed-during-merge"
    pure (ForInStep.yield PUnit.unit))
  (λk=>{ s with heap:=Hk k,toks:=t }) (by
   intro k x hx'
   obtain ⟨hlt,rfl⟩:k<M.length/\k=x:=by
    obtain ⟨h1,h2⟩:=List.getElem?_eq_some_iff.mp hx'
    exact⟨by simpa using h1,by simpa using h2⟩
   refine cC (hM M[k] (List.getElem_mem hlt)) λi tk hkey=>?_
   refine ay (ck (getM _) rfl) ?_
   show Yld p w n₀ ann q (match (M.toArray)[k]? with | some e=>_ | x=>_) _ _ _ _ _
   rw[show (M.toArray)[k]?=some M[k] by simpa using List.getElem?_eq_getElem hlt]
   have hput:=xS (p:=p) (w:=w) (n₀:=n₀) (ann:=ann) (q:=q) (pos:=pos) (i:=i) (t:=tk) (v:=M[k].val) (s:={ s with heap:=Hk k,toks:=t }) (getE k) (zF hd hlt) hna (by simp;lia)
   rw[← hkey] at hput
   dsimp only at hput
   rw[hup k hlt] at hput
   refine ay (aT hput) (ay (jC (getM _) rfl) ?_)
   rw[if_neg (by simp)]
   exact aH)
 rw[List.length_range] at loop
 exact ay loop aH
theorem xQ{hb:Heap}{l₀ l₁:List Obj}{E M:List DictEntry}{nE nM:Nat}(hE:E≠[])(hM:∀ e∈M,∃ i t,e.key=.int i t)
  (hd:(ba (E++M)).Nodup) (hz:E.length+M.length<=1000) (hn:n₀<=hb.objs.size) (hsys:sysModules<hb.objs.size) (t:Nat) :
  Yld p w n₀ ann q (mergeMapping (hb.objs.size+l₀.length) (.ref (hb.objs.size+(l₀++[aO E.toArray nE]++l₁).length)) false) pos
   { s with heap:=hx hb (l₀++[aO E.toArray nE]++l₁++[aO M.toArray nM]),toks:=t } () pos
   { s with heap:=hx hb (l₀++[aO (E++M).toArray (nE+M.length)]++l₁++[aO M.toArray nM]),toks:=t }:=by
 have g:=z0 (p:=p) (w:=w) (n₀:=n₀) (ann:=ann) (q:=q) (pos:=pos) (s:=s) (a:=hb.objs.size+l₀.length) (b:=hb.objs.size+(l₀++[aO E.toArray nE]++l₁).length)
  (Hk:=λk=>hx hb (l₀++[aO (E++M.take k).toArray (nE+k)]++l₁++[aO M.toArray nM])) (nE:=nE) (nM:=nM) hE hM hd hz (Nat.le_trans hn (Nat.le_add_right _ _)) (Nat.lt_of_lt_of_le hsys (Nat.le_add_right _ _))
  (λk=>sf _ _ _ _ (by simp) (by intro a b c;simp [aO])) (λk=>sf _ _ _ _ (by rw[List.getElem?_append_right (by simp)];simp) (by intro a b c;simp [aO])) (λk hlt=>by
   rw[jj _ _ _ _ (aO (E++M.take k).toArray (nE+k)) (by simp)]
   congr 1
   rw[mdk,List.push_toArray]
   simp [aO,Nat.add_assoc]
   exact(ew (List.getElem?_eq_getElem hlt)).symm) t
 simp only[List.take_zero,List.append_nil,Nat.add_zero,List.take_length] at g
 exact g
noncomputable abbrev Pr:=Sem Value×Sem Value
noncomputable def opt(c:List Pr):List (Option (Sem Value)×Sem Value):=c.map λx=>(some x.1,x.2)
noncomputable def jm(fr:Addr->Addr->Value->Sem Unit)(run:List Pr)(main:Option Addr):Sem (Option Addr):=do
 if run.isEmpty then return main
 match main with
 | none=>return some (← subDict run)
 | some d =>
  let sub ← holding [.ref d] (subDict run)
  (holding [.ref d,.ref sub] (mergeMapping d (.ref sub) false)).onRaise (fr d sub)
  return some d
noncomputable abbrev DF:=(Option (Sem Value)×Sem Value)->(Option Addr×List Pr)->Sem (ForInStep (Option Addr×List Pr))
noncomputable def jj1(m:Option Addr):Sem Value:=match m with
 | some d=>pure (.ref d)
 | none=>newDict
noncomputable def yx(fr:Addr->Addr->Value->Sem Unit)(F:DF):Prop:=∀ (x:Pr) (m:Option Addr) (buf:List Pr),F (some x.1,x.2) (m,buf) =
 if ((buf++[x]).length==17)=true then jm fr (buf++[x]) m>>=λm'=>pure (ForInStep.yield (m',([]:List Pr))) else pure (ForInStep.yield (m,buf++[x]))
theorem zO:∃ (F:DF) (G:(Option Addr×List Pr)->Sem Value) (fr:Addr->Addr->Value->Sem Unit),
  (∀ items,dictDisplay items=(forIn items ((none:Option Addr),([]:List Pr)) F>>=G))/\yx fr F/\(∀ m buf,G (m,buf)=jm fr buf m>>=jj1) :=
 ⟨_,_,λd _ x=>do let _ ← holding [.ref d,x] (runValue (.builtin "proto.let_go" {})),λ_=>rfl,λx m buf=>by rfl',λm buf=>by rfl'⟩
theorem xD{fr:Addr->Addr->Value->Sem Unit}{F:DF}(hF:yx fr F)(m:Option Addr)(rest:List (Option (Sem Value)×Sem Value)):∀ (c buf:List Pr),buf.length+c.length<17->forIn (opt c++rest) (m,buf) F=forIn rest (m,buf++c) F
 | [],buf,_=>by rw[List.append_nil];rfl
 | x::c,buf,h=>by
  have h1:buf.length+1+c.length<17:=by rw[List.length_cons] at h;lia
  have hx:(buf++[x]).length=buf.length+1:=List.length_append
  have hn:¬ ((buf++[x]).length==17)=true:=λe=>by replace e:=(hx)▸e;have:=beq_iff_eq.mp e;lia
  refine(List.forIn_cons ..).trans ?_
  rw[hF x m buf,if_neg hn,pure_bind]
  refine(xD hF m rest c (buf++[x]) (by rw[hx];exact h1)).trans ?_
  rw[List.append_assoc];rfl
theorem sv{fr:Addr->Addr->Value->Sem Unit}{F:DF}(hF:yx fr F)(m:Option Addr)(rest:List (Option (Sem Value)×Sem Value))(c:List Pr)(hc:c.length=17):forIn (opt c++rest) (m,([]:List Pr)) F =
  (jm fr c m>>=λm'=>pure (ForInStep.yield (m',([]:List Pr))))>>=λr=>match r with | .done b=>pure b | .yield b=>forIn rest b F:=by
 have hne:c≠[]:=λe=>by replace hc:=(e)▸hc;cases hc
 have e:=List.dropLast_concat_getLast hne
 generalize c.dropLast=c' at e
 generalize c.getLast hne=x at e
 subst e
 have h16:c'.length+1=17:=by rw[List.length_append] at hc;exact hc
 rw[show opt (c'++[x])++rest=opt c'++((some x.1,x.2)::rest) by simp [opt],xD hF m _ c' [] (by rw[List.length_nil];lia)]
 refine(List.forIn_cons ..).trans ?_
 rw[List.nil_append,hF x m c',if_pos (beq_iff_eq.mpr (by rw[List.length_append];exact h16))]
 exact bind_congr λr=>by cases r <;> rfl
theorem kG{fr:Addr->Addr->Value->Sem Unit}{c:List Pr}(hc:c≠[])(d:Addr):jm fr c (some d)=(do
  let sub ← holding [.ref d] (subDict c)
  (holding [.ref d,.ref sub] (mergeMapping d (.ref sub) false)).onRaise (fr d sub)
  return some d:Sem (Option Addr)):=by
 match c,hc with
 | _::_,_=>rfl
theorem tV{fr:Addr->Addr->Value->Sem Unit}{c:List Pr}(hc:c≠[]):jm fr c none=(do return some (← subDict c):Sem (Option Addr)):=by
 match c,hc with
 | _::_,_=>rfl
noncomputable def prT(pd:Pos)(kvs:List (Int×Str)):List Pr:=kvs.map λx=>(aC1 x.1,ah1 pd x.2)
theorem qs(t:Nat)(a b:List (Int×Str)):cH t (a++b)=cH t a++cH (t+3*a.length) b:=by
 apply List.ext_getElem?
 intro k
 rcases Nat.lt_or_ge k a.length with h | h
 ·rw[List.getElem?_append_left (by rw[aX];exact h)]
  simp only[cH,List.getElem?_map,List.getElem?_zipIdx]
  rw[List.getElem?_append_left h]
 ·rw[List.getElem?_append_right (by rw[aX];exact h),aX]
  simp only[cH,List.getElem?_map,List.getElem?_zipIdx]
  rw[List.getElem?_append_right h]
  cases b[k - a.length]? with
  | none=>rfl
  | some x =>
   simp only[Option.map_some]
   have h1:t+3*(0+k)=t+3*a.length+3*(0+(k - a.length)):=by lia
   rw[h1]
noncomputable def f81(t:Nat):Nat->List (Int×Str)->List (Int×Str)->List Obj->List Obj
 | 0,done,rest,subs=>aO (cH t done++gJ (t+3*done.length) rest).toArray (done.length+rest.length)::(subs++[aO (gJ (t+3*done.length) rest).toArray rest.length])
 | J+1,done,rest,subs=>f81 t J (done++rest.take 17) (rest.drop 17) (subs++[aO (cH (t+3*done.length) (rest.take 17)).toArray 17])
theorem GoodKeys.left{a b:List (Int×Str)}(h:GoodKeys (a++b)):GoodKeys a:=by
 refine gq (h) λh1 h2=>?_
 rw[List.map_append] at h1
 exact⟨(List.nodup_append.mp h1).1,λx hx=>h2 x (List.mem_append_left _ hx)⟩
theorem GoodKeys.right{a b:List (Int×Str)}(h:GoodKeys (a++b)):GoodKeys b:=by
 refine gq (h) λh1 h2=>?_
 rw[List.map_append] at h1
 exact⟨(List.nodup_append.mp h1).2.1,λx hx=>h2 x (List.mem_append_right _ hx)⟩
theorem tI(t:Nat)(kvs:List (Int×Str)):∀ e∈cH t kvs,∃ i tk,e.key=.int i tk:=λe he=>by
 simp only[cH,List.mem_map] at he
 obtain ⟨x,h_p⟩:=he;obtain rfl:=h_p.2
 exact cf1 _ _ rfl
theorem tH(t:Nat)(kvs:List (Int×Str)):∀ e∈gJ t kvs,∃ i tk,e.key=.int i tk:=λe he=>by
 simp only[gJ,List.mem_map] at he
 obtain ⟨x,h_p⟩:=he;obtain rfl:=h_p.2
 exact cf1 _ _ rfl
theorem f9(a b:List DictEntry):ba (a++b)=ba a++ba b:=by simp [ba]
theorem aw1(pd:Pos)(a b:List (Int×Str)):opt (prT pd (a++b))=opt (prT pd a)++opt (prT pd b):=by simp [opt,prT]
theorem ng(pd:Pos)(a:List (Int×Str)):(prT pd a).length=a.length:=List.length_map _
theorem z8{fr:Addr->Addr->Value->Sem Unit}{F:DF}{G:(Option Addr×List Pr)->Sem Value}(hF:yx fr F)(hG:∀ m buf,G (m,buf)=jm fr buf m>>=jj1)
  {pd:Pos} {hb:Heap} (hn:n₀<=hb.objs.size) (hsys:sysModules<hb.objs.size) (t:Nat) :
  ∀ (J:Nat) (done rest:List (Int×Str)) (subs:List Obj),rest.length=17*J+4->GoodKeys (done++rest)->done≠[]->done.length+rest.length<=1000 ->
   Yld p w n₀ ann q (forIn (opt (prT pd rest)) (some hb.objs.size,([]:List Pr)) F>>=G) pd
    { s with heap:=hx hb (aO (cH t done).toArray done.length::subs),toks:=t+3*done.length } (.ref hb.objs.size) pd
    { s with heap:=hx hb (f81 t J done rest subs),toks:=t+3*done.length+3*rest.length }:=by
 intro J
 induction J with
 | zero =>
  intro done rest subs hl hk hne hz
  have hr:prT pd rest≠[]:=λe=>by have:=congrArg List.length e;rw[ng,hl] at this;cases this
  have e:(forIn (opt (prT pd rest)) (some hb.objs.size,([]:List Pr)) F>>=G)=jm fr (prT pd rest) (some hb.objs.size)>>=jj1:=by
   have h:=xD hF (some hb.objs.size) [] (prT pd rest) [] (by rw[ng,hl];decide)
   rw[List.append_nil,List.nil_append] at h
   rw[h,List.forIn_nil,pure_bind,hG]
  refine eP e ?_
  rw[kG hr]
  have sub:=uk (p:=p) (w:=w) (n₀:=n₀) (ann:=ann) (q:=q) (s:=s) (pd:=pd) (hb:=hb) (l:=aO (cH t done).toArray done.length::subs) (kvs:=rest) hk.right (by rw[hl];decide) hn (t+3*done.length)
  have mg:=xQ (p:=p) (w:=w) (n₀:=n₀) (ann:=ann) (q:=q) (s:=s) (pos:=pd) (hb:=hb) (l₀:=[]) (l₁:=subs) (E:=cH t done) (M:=gJ (t+3*done.length) rest) (nE:=done.length) (nM:=rest.length)
   (by intro h0;have:=congrArg List.length h0;rw[aX] at this;exact hne (List.length_eq_zero_iff.mp this)) (tH _ _)
   (by rw[f9,dR,jk,← List.map_append];exact hk.1) (by rw[aX,bT];exact hz) hn hsys (t+3*done.length+3*rest.length)
  rw[bT] at mg
  refine ay (a:=some hb.objs.size) ?_ aH
  refine ay (aT sub) (ay (a:=()) (oK (aT ?_)) aH)
  rw[show hb.objs.size+(aO (cH t done).toArray done.length::subs).length=hb.objs.size+(([]:List Obj)++[aO (cH t done).toArray done.length]++subs).length by simp]
  exact mg
 | succ J ih =>
  intro done rest subs hl hk hne hz
  have hcl:(rest.take 17).length=17:=by rw[List.length_take,hl];rfl
  show Yld p w n₀ ann q _ pd _ _ pd { s with heap:=hx hb (f81 t J (done++rest.take 17) (rest.drop 17) (subs++[aO (cH (t+3*done.length) (rest.take 17)).toArray 17])),toks:=t+3*done.length+3*rest.length }
  have hrest:=List.take_append_drop 17 rest
  generalize rest.take 17=c at hcl hrest
  generalize rest.drop 17=r at hrest
  subst hrest
  have hk':GoodKeys (done++c):=by rw[← List.append_assoc] at hk;exact hk.left
  have hz':done.length+(17+r.length)<=1000:=by rw[List.length_append,hcl] at hz;exact hz
  have sub:=oI (p:=p) (w:=w) (n₀:=n₀) (ann:=ann) (q:=q) (s:=s) (pd:=pd) (hb:=hb) (l:=aO (cH t done).toArray done.length::subs) (kvs:=c) hk'.right (by rw[hcl];decide) (by rw[hcl];decide) hn (t+3*done.length)
  have mg:=xQ (p:=p) (w:=w) (n₀:=n₀) (ann:=ann) (q:=q) (s:=s) (pos:=pd) (hb:=hb) (l₀:=[]) (l₁:=subs) (E:=cH t done) (M:=cH (t+3*done.length) c) (nE:=done.length) (nM:=17)
   (by intro h0;have:=congrArg List.length h0;rw[aX] at this;exact hne (List.length_eq_zero_iff.mp this)) (tI _ _)
   (by rw[f9,dR,dR,← List.map_append];exact hk'.1) (by rw[aX,aX,hcl];lia) hn hsys (t+3*done.length+3*17)
  have nxt:=ih (done++c) r (subs++[aO (cH (t+3*done.length) c).toArray 17]) (by rw[List.length_append,hcl] at hl;lia) (by rw[List.append_assoc];exact hk) (λe=>hne (List.append_eq_nil_iff.mp e).1) (by rw[List.length_append,hcl];lia)
  have e2:([]:List Obj)++[aO (cH t done++cH (t+3*done.length) c).toArray (done.length+(cH (t+3*done.length) c).length)]++subs++[aO (cH (t+3*done.length) c).toArray 17] =
    aO (cH t (done++c)).toArray (done++c).length::(subs++[aO (cH (t+3*done.length) c).toArray 17]):=by
   rw[qs,aX,List.length_append];simp
  rw[e2] at mg
  have e3:t+3*(done++c).length=t+3*done.length+3*17:=by rw[List.length_append,hcl];exact(Nat.add_assoc _ _ _).symm
  have e4:t+3*(done++c).length+3*r.length=t+3*done.length+3*(c++r).length:=by rw[List.length_append,List.length_append,hcl];lia
  rw[e4,e3] at nxt
  rw[aw1]
  refine eP (congrArg (·>>=G) (sv hF _ _ (prT pd c) ((ng pd c).trans hcl))) ?_
  rw[kG (λe=>by have:=congrArg List.length e;rw[ng,hcl] at this;cases this)]
  refine eP (bind_assoc _ _ _) ?_
  refine ay (a:=ForInStep.yield (some hb.objs.size,([]:List Pr))) ?_ nxt
  refine ay (a:=some hb.objs.size) ?_ aH
  rw[hcl] at sub
  refine ay (aT sub) (ay (a:=()) (oK (aT ?_)) aH)
  rw[show hb.objs.size+(aO (cH t done).toArray done.length::subs).length=hb.objs.size+(([]:List Obj)++[aO (cH t done).toArray done.length]++subs).length by simp]
  exact mg
theorem mG{pd:Pos}{hb:Heap}(hn:n₀<=hb.objs.size)(hsys:sysModules<hb.objs.size)(t J:Nat)(kvs:List (Int×Str))(hl:kvs.length=17*(J+1)+4)(hk:GoodKeys kvs)(hz:kvs.length<=1000) :
  Yld p w n₀ ann q (dictDisplay (opt (prT pd kvs))) pd { s with heap:=hb,toks:=t } (.ref hb.objs.size) pd
   { s with heap:=hx hb (f81 t J (kvs.take 17) (kvs.drop 17) []),toks:=t+3*kvs.length }:=by
 refine ei (zO) λF G fr h_p=>?_;have h1:=h_p.1;have hF:=h_p.2.1;have hG:=h_p.2.2
 have hcl:(kvs.take 17).length=17:=by rw[List.length_take,hl];rfl
 have hrest:=List.take_append_drop 17 kvs
 generalize kvs.take 17=c at hcl hrest
 generalize kvs.drop 17=r at hrest
 subst hrest
 have hrl:r.length=17*J+4:=by rw[List.length_append,hcl] at hl;lia
 have hrz:c.length+r.length<=1000:=by rw[List.length_append] at hz;exact hz
 have hc0:c≠[]:=λe=>by replace hcl:=(e)▸hcl;cases hcl
 rw[h1,aw1]
 refine eP (congrArg (·>>=G) (sv hF _ _ (prT pd c) ((ng pd c).trans hcl))) ?_
 refine(tV (c:=prT pd c) (λe=>hc0 (List.map_eq_nil_iff.mp e)))▸?_
 have sub:=oI (p:=p) (w:=w) (n₀:=n₀) (ann:=ann) (q:=q) (s:=s) (pd:=pd) (hb:=hb) (l:=[]) (kvs:=c) hk.left (by rw[hcl];decide) (by rw[hcl];decide) hn t
 have nxt:=z8 (p:=p) (w:=w) (n₀:=n₀) (ann:=ann) (q:=q) (s:=s) (pd:=pd) (hb:=hb) hF hG hn hsys t J c r [] hrl hk hc0 hrz
 rw[fS1] at sub
 rw[show t+3*c.length+3*r.length=t+3*(c++r).length by rw[List.length_append];lia] at nxt
 refine eP (bind_assoc _ _ _) ?_
 refine ay (a:=ForInStep.yield (some hb.objs.size,([]:List Pr))) ?_ nxt
 refine ay (a:=some hb.objs.size) ?_ aH
 exact ay sub aH
end
set_option maxHeartbeats 0
noncomputable abbrev prg:Program:=PySem.Challenge.pw_wv0039_01
noncomputable abbrev so(s:String):Str:=PySem.Str.ofString s
noncomputable abbrev de (P:Params) (s:String) (t:Nat) (v:Value):DictEntry:=⟨PyData.keyHash P (so s),.str (so s) t,v⟩
noncomputable abbrev ar{α:Type}(l:List α):Array α:=l.toArray
noncomputable abbrev cs (s:String) (t:Nat):Value:=.str (so s) t
noncomputable abbrev cO (a b:String) (t:Nat) (l p k:Int) (c:Nat) (f:Bool) (r:List Value) (L:Int) (u:Nat):Obj:=⟨.type "code",none,.fields (ar (cs a t::cs b (t+1)::cs "/claim/cut.py" (t+2)::.int l 0::.int p 0::.int 0 0::.int 0 0::.int k 0::.ref c::.bool f::.int 181 0::.ref (c+1)::.none::(r++[.int L 0,.int l 0,cs "/claim/cut.py" u]))),#[]⟩
noncomputable abbrev fO (d:FuncData) (g:Nat) (m:String) (t c:Nat):Obj:=⟨.type "function",none,.func {d with globals:=g,pyModule:=cs m t,code:=.ref c},#[]⟩
noncomputable def stN(i:Nat):Stmt:=(prg.main.body[i]?).getD (.Pass default)
noncomputable def cG(st:Stmt):FuncData:={ name:=(us st).s,qualname:=(us st).s,params:=(us st).ar,body:=.stmts (us st).x,scope:=(us st).sc,globals:=0,closure:=[],defaults:=.none,kwdefaults:=.none }
noncomputable def je1(st:Stmt)(code mod:Value):FuncData:={ cG st with globals:=3,pyModule:=mod,code:=code }
noncomputable def xK(st:Stmt):List Stmt:=(us st).x
noncomputable def mtN(c i:Nat):Stmt:=((xK (stN c))[i]?).getD (.Pass default)
noncomputable def e0:Obj:=⟨.type "tuple",none,.seq (ar []) 0,#[]⟩
noncomputable def e1:Obj:=⟨.none,none,.fields (ar []),#[]⟩
noncomputable def e2:Obj:=⟨.type "builtin_function_or_method",none,.fields (ar [.builtin "type.__prepare__",.type "type"]),#[]⟩
noncomputable def e3:Obj:=⟨.type "tuple",none,.seq (ar [.ref 64]) 0,#[]⟩
noncomputable def b13(P:Params):Obj:=cO "<module>" "<module>" 182 1 0 0 11 false [.none,.none,.none] 185 186
noncomputable def b14(P:Params):Obj:=⟨.type "frame",none,.plain,ar [some (.ref 13),some (.ref 3),some (.ref 3),none,some (cs "__main__" 164),none,some (.ref 0)]⟩
noncomputable def jb1(P:Params):Obj:=⟨.none,none,.dict (ar [de P "type.__subclasses__.Exception.0" 212 (.int 31 0),de P "type.__subclasses__.Exception.n" 213 (.int 1 0)]) 2,#[]⟩
noncomputable def ja1(P:Params):Obj:=⟨.type "dict",none,.dict (ar [de P "__name__" 165 (cs "cpy313.stringprep" 359),de P "__doc__" 166 .none,de P "__package__" 167 .none,de P "__loader__" 168 (.builtin "__main__.__loader__#opaque"),de P "__spec__" 169 .none,de P "__annotations__" 170 (.ref 6),de P "__builtins__" 171 (.ref 4),de P "__file__" 173 (cs "/claim/cut.py" 172),de P "__cached__" 174 .none,de P "_wall" 193 (.ref 21),de P "Error" 215 (.ref 31),de P "error_reply" 231 (.ref 44),de P "parse257" 242 (.ref 53),de P "ELLIPSIS_MARKER" 246 (cs "..." 245),de P "_ellipsis_match" 258 (.ref 60),de P "EMPTYSTRING" 262 (cs "" 261),de P "_Accumulator" 358 (.ref 140)]) 17,#[]⟩
noncomputable def f71(P:Params):Obj:=⟨.none,none,.fields (ar [.int 1 0,.int 0 0,.ref 20,.int 5 0,.int 0 0,.ref 27,.int 7 0,.int 0 0,.ref 40,.int 9 0,.int 0 0,.ref 52,.int 28 0,.int 0 0,.ref 59,.int 58 0,.int 0 0,.ref 67]),#[]⟩
noncomputable def n17(P:Params):Obj:=⟨.type "tuple",none,.seq (ar [cs "k" 190]) 0,#[]⟩
noncomputable def n19(P:Params):Obj:=⟨.none,none,.func (cG (stN 0)),#[]⟩
noncomputable def n20(P:Params):Obj:=cO "_wall" "_wall" 187 1 1 3 15 true [.ref 17,.ref 18,.ref 19] 191 192
noncomputable def n21(P:Params):Obj:=(fO (cG (stN 0)) 3 "__main__" 164 20)
noncomputable def n22(P:Params):Obj:=⟨.type "tuple",none,.seq (ar [.type "Exception"]) 0,#[]⟩
noncomputable def n24(P:Params):Obj:=⟨.type "dict",none,.dict (ar [de P "__module__" 203 (cs "cpy313.ftplib" 194),de P "__qualname__" 205 (cs "Error" 204),de P "__firstlineno__" 207 (.int 5 206),de P "__static_attributes__" 208 (.ref 29)]) 4,#[]⟩
noncomputable def n27(P:Params):Obj:=cO "Error" "Error" 198 5 0 0 25 false [.none,.none,.none] 201 202
noncomputable def n28(P:Params):Obj:=⟨.type "frame",none,.plain,ar [some (.ref 27),some (.ref 3),some (.ref 24),none,some (cs "cpy313.ftplib" 194),none,some (.ref 0)]⟩
noncomputable def n30(P:Params):Obj:=⟨.type "dict",none,.dict (ar [de P "__module__" 203 (cs "cpy313.ftplib" 194),de P "__firstlineno__" 207 (.int 5 206),de P "__static_attributes__" 208 (.ref 29),de P "__weakref__" 210 (.ref 32),de P "__doc__" 211 .none]) 3,#[]⟩
noncomputable def n31(P:Params):Obj:=⟨.type "type",none,.cls { name:=(so "Error"),bases:=[.type "Exception"],mro:=[.ref 31,.type "Exception",.type "BaseException",.type "object"],ns:=30,qualname:=(so "Error"),hasDict:=true,slotNames:=[],subclasses:=[.ref 44],abstract:=false,collection:=none,hasDel:=false },ar [some (.ref 22),none,some (cs "Error" 196),some (cs "Error" 204),some (.builtin "Exception.__new__"),some (.bool true)]⟩
noncomputable def n32(P:Params):Obj:=⟨.type "getset_descriptor",none,.fields (ar [cs "__weakref__" 209,.ref 31,.builtin "ExceptionGroup.__weakref__",.none]),#[]⟩
noncomputable def n33(P:Params):Obj:=⟨.type "super",none,.fields (ar [.ref 31,.ref 31,.ref 31]),#[]⟩
noncomputable def n34(P:Params):Obj:=⟨.type "builtin_function_or_method",none,.fields (ar [.builtin "object.__init_subclass__",.ref 31]),#[]⟩
noncomputable def n35(P:Params):Obj:=⟨.type "tuple",none,.seq (ar [.ref 31]) 0,#[]⟩
noncomputable def n37(P:Params):Obj:=⟨.type "dict",none,.dict (ar [de P "__module__" 223 (cs "cpy313.ftplib" 194),de P "__qualname__" 225 (cs "error_reply" 224),de P "__firstlineno__" 227 (.int 7 226),de P "__static_attributes__" 228 (.ref 42)]) 4,#[]⟩
noncomputable def n40(P:Params):Obj:=cO "error_reply" "error_reply" 218 7 0 0 38 false [.none,.none,.none] 221 222
noncomputable def n41(P:Params):Obj:=⟨.type "frame",none,.plain,ar [some (.ref 40),some (.ref 3),some (.ref 37),none,some (cs "cpy313.ftplib" 194),none,some (.ref 0)]⟩
noncomputable def n43(P:Params):Obj:=⟨.type "dict",none,.dict (ar [de P "__module__" 223 (cs "cpy313.ftplib" 194),de P "__firstlineno__" 227 (.int 7 226),de P "__static_attributes__" 228 (.ref 42),de P "__doc__" 229 .none]) 2,#[]⟩
noncomputable def n44(P:Params):Obj:=⟨.type "type",none,.cls { name:=(so "error_reply"),bases:=[.ref 31],mro:=[.ref 44,.ref 31,.type "Exception",.type "BaseException",.type "object"],ns:=43,qualname:=(so "error_reply"),hasDict:=true,slotNames:=[],subclasses:=[],abstract:=false,collection:=none,hasDel:=false },ar [some (.ref 35),none,some (cs "error_reply" 216),some (cs "error_reply" 224),some (.builtin "Exception.__new__"),some (.bool true)]⟩
noncomputable def n45(P:Params):Obj:=⟨.type "super",none,.fields (ar [.ref 44,.ref 44,.ref 44]),#[]⟩
noncomputable def n46(P:Params):Obj:=⟨.type "builtin_function_or_method",none,.fields (ar [.builtin "object.__init_subclass__",.ref 44]),#[]⟩
noncomputable def n49(P:Params):Obj:=⟨.type "tuple",none,.seq (ar [cs "resp" 235,cs "dirname" 236,cs "i" 237,cs "n" 238,cs "c" 239]) 0,#[]⟩
noncomputable def n51(P:Params):Obj:=⟨.none,none,.func (cG (stN 4)),#[]⟩
noncomputable def n52(P:Params):Obj:=cO "parse257" "parse257" 232 9 1 3 47 true [.ref 49,.ref 50,.ref 51] 240 241
noncomputable def n53(P:Params):Obj:=(fO (cG (stN 4)) 3 "cpy313.ftplib" 194 52)
noncomputable def n56(P:Params):Obj:=⟨.type "tuple",none,.seq (ar [cs "want" 250,cs "got" 251,cs "ws" 252,cs "startpos" 253,cs "endpos" 254,cs "w" 255]) 0,#[]⟩
noncomputable def n58(P:Params):Obj:=⟨.none,none,.func (cG (stN 7)),#[]⟩
noncomputable def n59(P:Params):Obj:=cO "_ellipsis_match" "_ellipsis_match" 247 28 2 3 54 true [.ref 56,.ref 57,.ref 58] 256 257
noncomputable def n60(P:Params):Obj:=(fO (cG (stN 7)) 3 "cpy313.doctest" 243 59)
noncomputable def n61(P:Params):Obj:=⟨.type "tuple",none,.seq (ar [.type "list"]) 0,#[]⟩
noncomputable def n63(P:Params):Obj:=⟨.type "dict",none,.dict (ar [de P "__module__" 270 (cs "cpy313.email.header" 259),de P "__qualname__" 272 (cs "_Accumulator" 271),de P "__firstlineno__" 274 (.int 58 273),de P "__init__" 284 (.ref 77),de P "push" 293 (.ref 84),de P "pop_from" 303 (.ref 92),de P "pop" 311 (.ref 100),de P "__len__" 318 (.ref 107),de P "__str__" 325 (.ref 114),de P "reset" 333 (.ref 122),de P "is_onlyws" 340 (.ref 129),de P "part_count" 348 (.ref 137),de P "__static_attributes__" 350 (.ref 138),de P "__classcell__" 351 (.ref 64)]) 14,#[]⟩
noncomputable def n64(P:Params):Obj:=⟨.type "cell",none,.cell (some (.ref 140)),#[]⟩
noncomputable def n66(P:Params):Obj:=⟨.none,none,.fields (ar [.int 60 0,.int 4 0,.ref 76,.int 64 0,.int 4 0,.ref 83,.int 67 0,.int 4 0,.ref 91,.int 72 0,.int 4 0,.ref 99,.int 77 0,.int 4 0,.ref 106,.int 80 0,.int 4 0,.ref 113,.int 83 0,.int 4 0,.ref 121,.int 86 0,.int 4 0,.ref 128,.int 89 0,.int 4 0,.ref 136]),#[]⟩
noncomputable def n67(P:Params):Obj:=cO "_Accumulator" "_Accumulator" 265 58 0 0 65 false [.none,.none,.none] 268 269
noncomputable def n68(P:Params):Obj:=⟨.type "frame",none,.plain,ar [some (.ref 67),some (.ref 3),some (.ref 63),none,some (cs "cpy313.email.header" 259),none,some (.ref 0)]⟩
noncomputable def n69(P:Params):Obj:=⟨.type "tuple",none,.seq (ar [.int 0 275]) 0,#[]⟩
noncomputable def n71(P:Params):Obj:=⟨.type "tuple",none,.seq (ar [cs "__class__" 279]) 0,#[]⟩
noncomputable def n73(P:Params):Obj:=⟨.type "tuple",none,.seq (ar [cs "self" 280,cs "initial_size" 281]) 0,#[]⟩
noncomputable def n75(P:Params):Obj:=⟨.none,none,.func { cG (mtN 10 0) with qualname:=(so "_Accumulator.__init__") },#[]⟩
noncomputable def n76(P:Params):Obj:=cO "__init__" "_Accumulator.__init__" 276 60 2 3 71 true [.ref 73,.ref 74,.ref 75] 282 283
noncomputable def n77(P:Params):Obj:=⟨.type "function",none,.func { cG (mtN 10 0) with qualname:=(so "_Accumulator.__init__"),globals:=3,closure:=[((so "__class__"),64)],defaults:=(.ref 69),pyModule:=(cs "cpy313.email.header" 259),code:=(.ref 76),closureTuple:=(.ref 70) },#[]⟩
noncomputable def n80(P:Params):Obj:=⟨.type "tuple",none,.seq (ar [cs "self" 288,cs "fws" 289,cs "string" 290]) 0,#[]⟩
noncomputable def n82(P:Params):Obj:=⟨.none,none,.func { cG (mtN 10 1) with qualname:=(so "_Accumulator.push") },#[]⟩
noncomputable def n83(P:Params):Obj:=cO "push" "_Accumulator.push" 285 64 3 3 78 true [.ref 80,.ref 81,.ref 82] 291 292
noncomputable def n84(P:Params):Obj:=⟨.type "function",none,.func { cG (mtN 10 1) with qualname:=(so "_Accumulator.push"),globals:=3,pyModule:=(cs "cpy313.email.header" 259),code:=(.ref 83) },#[]⟩
noncomputable def n85(P:Params):Obj:=⟨.type "tuple",none,.seq (ar [.int 0 294]) 0,#[]⟩
noncomputable def n88(P:Params):Obj:=⟨.type "tuple",none,.seq (ar [cs "self" 298,cs "i" 299,cs "popped" 300]) 0,#[]⟩
noncomputable def n90(P:Params):Obj:=⟨.none,none,.func { cG (mtN 10 2) with qualname:=(so "_Accumulator.pop_from") },#[]⟩
noncomputable def n91(P:Params):Obj:=cO "pop_from" "_Accumulator.pop_from" 295 67 2 3 86 true [.ref 88,.ref 89,.ref 90] 301 302
noncomputable def n92(P:Params):Obj:=⟨.type "function",none,.func { cG (mtN 10 2) with qualname:=(so "_Accumulator.pop_from"),globals:=3,defaults:=(.ref 85),pyModule:=(cs "cpy313.email.header" 259),code:=(.ref 91) },#[]⟩
noncomputable def n94(P:Params):Obj:=⟨.type "tuple",none,.seq (ar [cs "__class__" 307]) 0,#[]⟩
noncomputable def n96(P:Params):Obj:=⟨.type "tuple",none,.seq (ar [cs "self" 308]) 0,#[]⟩
noncomputable def n98(P:Params):Obj:=⟨.none,none,.func { cG (mtN 10 3) with qualname:=(so "_Accumulator.pop") },#[]⟩
noncomputable def n99(P:Params):Obj:=cO "pop" "_Accumulator.pop" 304 72 1 3 94 true [.ref 96,.ref 97,.ref 98] 309 310
noncomputable def mJ1(P:Params):Obj:=⟨.type "function",none,.func { cG (mtN 10 3) with qualname:=(so "_Accumulator.pop"),globals:=3,closure:=[((so "__class__"),64)],pyModule:=(cs "cpy313.email.header" 259),code:=(.ref 99),closureTuple:=(.ref 93) },#[]⟩
noncomputable def mI1(P:Params):Obj:=⟨.type "tuple",none,.seq (ar [cs "self" 315]) 0,#[]⟩
noncomputable def mH1(P:Params):Obj:=⟨.none,none,.func { cG (mtN 10 4) with qualname:=(so "_Accumulator.__len__") },#[]⟩
noncomputable def mG1(P:Params):Obj:=cO "__len__" "_Accumulator.__len__" 312 77 1 3 101 true [.ref 103,.ref 104,.ref 105] 316 317
noncomputable def mF1(P:Params):Obj:=⟨.type "function",none,.func { cG (mtN 10 4) with qualname:=(so "_Accumulator.__len__"),globals:=3,pyModule:=(cs "cpy313.email.header" 259),code:=(.ref 106) },#[]⟩
noncomputable def mE1(P:Params):Obj:=⟨.type "tuple",none,.seq (ar [cs "self" 322]) 0,#[]⟩
noncomputable def mD1(P:Params):Obj:=⟨.none,none,.func { cG (mtN 10 5) with qualname:=(so "_Accumulator.__str__") },#[]⟩
noncomputable def mC1(P:Params):Obj:=cO "__str__" "_Accumulator.__str__" 319 80 1 3 108 true [.ref 110,.ref 111,.ref 112] 323 324
noncomputable def mB1(P:Params):Obj:=⟨.type "function",none,.func { cG (mtN 10 5) with qualname:=(so "_Accumulator.__str__"),globals:=3,pyModule:=(cs "cpy313.email.header" 259),code:=(.ref 113) },#[]⟩
noncomputable def mA1(P:Params):Obj:=⟨.type "tuple",none,.seq (ar [.none]) 0,#[]⟩
noncomputable def mz1(P:Params):Obj:=⟨.type "tuple",none,.seq (ar [cs "self" 329,cs "startval" 330]) 0,#[]⟩
noncomputable def my1(P:Params):Obj:=⟨.none,none,.func { cG (mtN 10 6) with qualname:=(so "_Accumulator.reset") },#[]⟩
noncomputable def mx1(P:Params):Obj:=cO "reset" "_Accumulator.reset" 326 83 2 3 116 true [.ref 118,.ref 119,.ref 120] 331 332
noncomputable def mw1(P:Params):Obj:=⟨.type "function",none,.func { cG (mtN 10 6) with qualname:=(so "_Accumulator.reset"),globals:=3,defaults:=(.ref 115),pyModule:=(cs "cpy313.email.header" 259),code:=(.ref 121) },#[]⟩
noncomputable def mv1(P:Params):Obj:=⟨.type "tuple",none,.seq (ar [cs "self" 337]) 0,#[]⟩
noncomputable def mu1(P:Params):Obj:=⟨.none,none,.func { cG (mtN 10 7) with qualname:=(so "_Accumulator.is_onlyws") },#[]⟩
noncomputable def mt1(P:Params):Obj:=cO "is_onlyws" "_Accumulator.is_onlyws" 334 86 1 3 123 true [.ref 125,.ref 126,.ref 127] 338 339
noncomputable def ms1(P:Params):Obj:=⟨.type "function",none,.func { cG (mtN 10 7) with qualname:=(so "_Accumulator.is_onlyws"),globals:=3,pyModule:=(cs "cpy313.email.header" 259),code:=(.ref 128) },#[]⟩
noncomputable def mr1(P:Params):Obj:=⟨.type "tuple",none,.seq (ar [cs "__class__" 344]) 0,#[]⟩
noncomputable def mq1(P:Params):Obj:=⟨.type "tuple",none,.seq (ar [cs "self" 345]) 0,#[]⟩
noncomputable def mp1(P:Params):Obj:=⟨.none,none,.func { cG (mtN 10 8) with qualname:=(so "_Accumulator.part_count") },#[]⟩
noncomputable def mo1(P:Params):Obj:=cO "part_count" "_Accumulator.part_count" 341 89 1 3 131 true [.ref 133,.ref 134,.ref 135] 346 347
noncomputable def mn1(P:Params):Obj:=⟨.type "function",none,.func { cG (mtN 10 8) with qualname:=(so "_Accumulator.part_count"),globals:=3,closure:=[((so "__class__"),64)],pyModule:=(cs "cpy313.email.header" 259),code:=(.ref 136),closureTuple:=(.ref 130) },#[]⟩
noncomputable def mm1(P:Params):Obj:=⟨.type "tuple",none,.seq (ar [cs "_initial_size" 349]) 0,#[]⟩
noncomputable def ml1(P:Params):Obj:=⟨.type "dict",none,.dict (ar [de P "__module__" 270 (cs "cpy313.email.header" 259),de P "__firstlineno__" 274 (.int 58 273),de P "__init__" 284 (.ref 77),de P "push" 293 (.ref 84),de P "pop_from" 303 (.ref 92),de P "pop" 311 (.ref 100),de P "__len__" 318 (.ref 107),de P "__str__" 325 (.ref 114),de P "reset" 333 (.ref 122),de P "is_onlyws" 340 (.ref 129),de P "part_count" 348 (.ref 137),de P "__static_attributes__" 350 (.ref 138),de P "__dict__" 353 (.ref 141),de P "__weakref__" 355 (.ref 142),de P "__doc__" 356 .none]) 5,#[]⟩
noncomputable def mk1(P:Params):Obj:=⟨.type "type",none,.cls { name:=(so "_Accumulator"),bases:=[.type "list"],mro:=[.ref 140,.type "list",.type "object"],ns:=139,qualname:=(so "_Accumulator"),hasDict:=true,slotNames:=[],subclasses:=[],abstract:=false,collection:=none,hasDel:=false },ar [some (.ref 61),none,some (cs "_Accumulator" 263),some (cs "_Accumulator" 271),some (.builtin "list.__new__"),some (.bool true)]⟩
noncomputable def mj1(P:Params):Obj:=⟨.type "getset_descriptor",none,.fields (ar [cs "__dict__" 352,.ref 140,.builtin "function.__dict__",.builtin "function.__dict__#set"]),#[]⟩
noncomputable def mi1(P:Params):Obj:=⟨.type "getset_descriptor",none,.fields (ar [cs "__weakref__" 354,.ref 140,.builtin "ExceptionGroup.__weakref__",.none]),#[]⟩
noncomputable def mh1(P:Params):Obj:=⟨.type "super",none,.fields (ar [.ref 140,.ref 140,.ref 140]),#[]⟩
noncomputable def mg1(P:Params):Obj:=⟨.type "builtin_function_or_method",none,.fields (ar [.builtin "object.__init_subclass__",.ref 140]),#[]⟩
noncomputable def mf1(P:Params):Obj:=⟨.type "list",none,.seq (ar [.int 173 361,.int 847 362,.int 6150 363,.int 6155 364,.int 6156 365,.int 6157 366,.int 8203 367,.int 8204 368,.int 8205 369,.int 8288 370,.int 65279 371]) 0,#[]⟩
noncomputable def me1(P:Params):Obj:=⟨.type "range",none,.fields (ar [.int 65024 372,.int 65040 373,.int 1 374]),#[]⟩
noncomputable def md1(P:Params):Obj:=⟨.type "list",none,.seq (ar [.int 65024 377,.int 65025 378,.int 65026 379,.int 65027 380,.int 65028 381,.int 65029 382,.int 65030 383,.int 65031 384,.int 65032 385,.int 65033 386,.int 65034 387,.int 65035 388,.int 65036 389,.int 65037 390,.int 65038 391,.int 65039 392]) 18,#[]⟩
noncomputable def mc1(P:Params):Obj:=⟨.type "range_iterator",none,.fields (ar [.int 65040 0,.int 0 0,.int 1 0]),#[]⟩
noncomputable def mb1(P:Params):Obj:=⟨.type "StopIteration",none,.fields (ar [.ref 149,.none,.none,.none,.bool false,.none]),#[]⟩
noncomputable def ma1(P:Params):Obj:=⟨.type "list",none,.seq (ar [.int 173 361,.int 847 362,.int 6150 363,.int 6155 364,.int 6156 365,.int 6157 366,.int 8203 367,.int 8204 368,.int 8205 369,.int 8288 370,.int 65279 371,.int 65024 377,.int 65025 378,.int 65026 379,.int 65027 380,.int 65028 381,.int 65029 382,.int 65030 383,.int 65031 384,.int 65032 385,.int 65033 386,.int 65034 387,.int 65035 388,.int 65036 389,.int 65037 390,.int 65038 391,.int 65039 392]) 0,#[]⟩
noncomputable def l91(P:Params):Obj:=⟨.type "set",none,.set (ar [(65024,(.int 65024 377)),(65025,(.int 65025 378)),(65026,(.int 65026 379)),(65027,(.int 65027 380)),(65028,(.int 65028 381)),(65029,(.int 65029 382)),(6150,(.int 6150 363)),(65030,(.int 65030 383)),(65031,(.int 65031 384)),(65032,(.int 65032 385)),(65033,(.int 65033 386)),(6155,(.int 6155 364)),(6156,(.int 6156 365)),(6157,(.int 6157 366)),(8203,(.int 8203 367)),(8204,(.int 8204 368)),(8205,(.int 8205 369)),(65034,(.int 65034 387)),(65035,(.int 65035 388)),(65036,(.int 65036 389)),(65037,(.int 65037 390)),(65038,(.int 65038 391)),(65039,(.int 65039 392)),(173,(.int 173 361)),(847,(.int 847 362)),(8288,(.int 8288 370)),(65279,(.int 65279 371))]) 29 ⟨127,ar [0,1,2,3,4,5,6,7,8,9,10,11,12,13,14,15,16,17,18,19,20,21,22,45,79,96,127],ar [],0,!P.followText "set-order",2,true⟩,#[]⟩
noncomputable def l81(P:Params):Obj:=⟨.type "list_iterator",none,.fields (ar [.none,.int 27 0]),#[]⟩
noncomputable def l71(P:Params):Obj:=⟨.type "StopIteration",none,.fields (ar [.ref 154,.none,.none,.none,.bool false,.none]),#[]⟩
noncomputable def l61(P:Params):Obj:=⟨.type "tuple",none,.seq (ar [cs "code" 424]) 0,#[]⟩
noncomputable def l51(P:Params):Obj:=⟨.none,none,.func (cG (stN 13)),#[]⟩
noncomputable def l41(P:Params):Obj:=cO "in_table_b1" "in_table_b1" 421 93 1 3 156 true [.ref 158,.ref 159,.ref 160] 425 426
noncomputable def l31(P:Params):Obj:=(fO (cG (stN 13)) 3 "cpy313.stringprep" 359 161)
noncomputable def l21(P:Params):Obj:=⟨.type "tuple",none,.seq (ar [cs "code" 2382,cs "r" 2383]) 0,#[]⟩
noncomputable def l11(P:Params):Obj:=⟨.none,none,.func (cG (stN 15)),#[]⟩
noncomputable def l01(P:Params):Obj:=cO "map_table_b3" "map_table_b3" 2379 96 1 3 202 true [.ref 204,.ref 205,.ref 206] 2384 2385
noncomputable def lZ1(P:Params):Obj:=(fO (cG (stN 15)) 3 "cpy313.stringprep" 359 207)
noncomputable def lY1(P:Params):Obj:=⟨.type "tuple",none,.seq (ar [cs "letter" 2392,cs "x" 2393,cs "forms" 2394,cs "unseen" 2395,cs "typed" 2396,cs "k" 2397]) 0,#[]⟩
noncomputable def lX1(P:Params):Obj:=⟨.none,none,.func (cG (stN 17)),#[]⟩
noncomputable def lW1(P:Params):Obj:=cO "_law_typed" "_law_typed" 2389 102 2 3 209 true [.ref 211,.ref 212,.ref 213] 2398 2399
noncomputable def lV1(P:Params):Obj:=(fO (cG (stN 17)) 3 "law_wv0039_01" 2387 214)
noncomputable def lU1(P:Params):Obj:=⟨.none,none,.func (cG (stN 18)),#[]⟩
noncomputable def lT1(P:Params):Obj:=cO "_law_prepared" "_law_prepared" 2401 110 1 3 216 true [.none,.none,.ref 218] 2404 2405
noncomputable def lS1(P:Params):Obj:=(fO (cG (stN 18)) 3 "law_wv0039_01" 2387 219)
noncomputable def lR1(P:Params):Obj:=⟨.type "tuple",none,.seq (ar [cs "text" 2410,cs "worth" 2411,cs "typed" 2412,cs "k" 2413,cs "x" 2414]) 0,#[]⟩
noncomputable def lQ1(P:Params):Obj:=⟨.none,none,.func (cG (stN 19)),#[]⟩
noncomputable def lP1(P:Params):Obj:=cO "_law_folded" "_law_folded" 2407 112 2 3 221 true [.ref 223,.ref 224,.ref 225] 2415 2416
noncomputable def lO1(P:Params):Obj:=(fO (cG (stN 19)) 3 "law_wv0039_01" 2387 226)
noncomputable def lN1(P:Params):Obj:=⟨.type "tuple",none,.seq (ar [cs "count" 2421,cs "sign" 2422,cs "told" 2423,cs "times" 2424]) 0,#[]⟩
noncomputable def lM1(P:Params):Obj:=⟨.none,none,.func (cG (stN 20)),#[]⟩
noncomputable def lL1(P:Params):Obj:=cO "_law_read" "_law_read" 2418 121 2 3 228 true [.ref 230,.ref 231,.ref 232] 2425 2426
noncomputable def lK1(P:Params):Obj:=(fO (cG (stN 20)) 3 "law_wv0039_01" 2387 233)
noncomputable def lJ1(P:Params):Obj:=⟨.type "tuple",none,.seq (ar [cs "disc" 2431,cs "moves" 2432,cs "first" 2433,cs "way" 2434,cs "step" 2435]) 0,#[]⟩
noncomputable def lI1(P:Params):Obj:=⟨.none,none,.func (cG (stN 21)),#[]⟩
noncomputable def lH1(P:Params):Obj:=cO "_law_place" "_law_place" 2428 128 4 3 235 true [.ref 237,.ref 238,.ref 239] 2436 2437
noncomputable def lG1(P:Params):Obj:=(fO (cG (stN 21)) 3 "law_wv0039_01" 2387 240)
noncomputable def lF1(P:Params):Obj:=⟨.type "tuple",none,.seq (ar [cs "places" 2442,cs "goal" 2443,cs "left" 2444,cs "disc" 2445]) 0,#[]⟩
noncomputable def lE1(P:Params):Obj:=⟨.none,none,.func (cG (stN 22)),#[]⟩
noncomputable def lD1(P:Params):Obj:=cO "_law_left" "_law_left" 2439 131 2 3 242 true [.ref 244,.ref 245,.ref 246] 2446 2447
noncomputable def lC1(P:Params):Obj:=(fO (cG (stN 22)) 3 "law_wv0039_01" 2387 247)
noncomputable def lB1(P:Params):Obj:=⟨.none,none,.func (cG (stN 23)),#[]⟩
noncomputable def lA1(P:Params):Obj:=cO "_law_names" "_law_names" 2449 138 4 3 249 true [.none,.none,.ref 251] 2452 2453
noncomputable def lz1(P:Params):Obj:=(fO (cG (stN 23)) 3 "law_wv0039_01" 2387 252)
noncomputable def ly1(P:Params):Obj:=⟨.none,none,.func (cG (stN 24)),#[]⟩
noncomputable def lx1(P:Params):Obj:=cO "law" "law" 2455 150 1 3 254 true [.none,.none,.ref 256] 2458 2459
noncomputable def ke1(P:Params):Obj:=(fO (cG (stN 24)) 3 "law_wv0039_01" 2387 257)
noncomputable def i91(P:Params):Obj:=⟨.type "dict",none,.dict (ar [de P "__name__" 165 (cs "cpy313.stringprep" 359),de P "__doc__" 166 .none,de P "__package__" 167 .none,de P "__loader__" 168 (.builtin "__main__.__loader__#opaque"),de P "__spec__" 169 .none,de P "__annotations__" 170 (.ref 6),de P "__builtins__" 171 (.ref 4),de P "__file__" 173 (cs "/claim/cut.py" 172),de P "__cached__" 174 .none,de P "_wall" 193 (.ref 21),de P "Error" 215 (.ref 31),de P "error_reply" 231 (.ref 44),de P "parse257" 242 (.ref 53),de P "ELLIPSIS_MARKER" 246 (cs "..." 245),de P "_ellipsis_match" 258 (.ref 60),de P "EMPTYSTRING" 262 (cs "" 261),de P "_Accumulator" 358 (.ref 140),de P "b1_set" 420 (.ref 152)]) 18,#[]⟩
noncomputable def f61(P:Params):Obj:=⟨.none,none,.fields (ar [.int 1 0,.int 0 0,.ref 20,.int 5 0,.int 0 0,.ref 27,.int 7 0,.int 0 0,.ref 40,.int 9 0,.int 0 0,.ref 52,.int 28 0,.int 0 0,.ref 59,.int 58 0,.int 0 0,.ref 67]),#[]⟩
noncomputable def i81(P:Params):Obj:=⟨.type "dict",none,.dict (ar [de P "__name__" 165 (cs "cpy313.stringprep" 359),de P "__doc__" 166 .none,de P "__package__" 167 .none,de P "__loader__" 168 (.builtin "__main__.__loader__#opaque"),de P "__spec__" 169 .none,de P "__annotations__" 170 (.ref 6),de P "__builtins__" 171 (.ref 4),de P "__file__" 173 (cs "/claim/cut.py" 172),de P "__cached__" 174 .none,de P "_wall" 193 (.ref 21),de P "Error" 215 (.ref 31),de P "error_reply" 231 (.ref 44),de P "parse257" 242 (.ref 53),de P "ELLIPSIS_MARKER" 246 (cs "..." 245),de P "_ellipsis_match" 258 (.ref 60),de P "EMPTYSTRING" 262 (cs "" 261),de P "_Accumulator" 358 (.ref 140),de P "b1_set" 420 (.ref 152),de P "in_table_b1" 427 (.ref 162)]) 19,#[]⟩
noncomputable def f51(P:Params):Obj:=⟨.none,none,.fields (ar [.int 1 0,.int 0 0,.ref 20,.int 5 0,.int 0 0,.ref 27,.int 7 0,.int 0 0,.ref 40,.int 9 0,.int 0 0,.ref 52,.int 28 0,.int 0 0,.ref 59,.int 58 0,.int 0 0,.ref 67,.int 93 0,.int 0 0,.ref 161]),#[]⟩
noncomputable def i71(P:Params):Obj:=⟨.type "dict",none,.dict (ar [de P "__name__" 165 (cs "cpy313.stringprep" 359),de P "__doc__" 166 .none,de P "__package__" 167 .none,de P "__loader__" 168 (.builtin "__main__.__loader__#opaque"),de P "__spec__" 169 .none,de P "__annotations__" 170 (.ref 6),de P "__builtins__" 171 (.ref 4),de P "__file__" 173 (cs "/claim/cut.py" 172),de P "__cached__" 174 .none,de P "_wall" 193 (.ref 21),de P "Error" 215 (.ref 31),de P "error_reply" 231 (.ref 44),de P "parse257" 242 (.ref 53),de P "ELLIPSIS_MARKER" 246 (cs "..." 245),de P "_ellipsis_match" 258 (.ref 60),de P "EMPTYSTRING" 262 (cs "" 261),de P "_Accumulator" 358 (.ref 140),de P "b1_set" 420 (.ref 152),de P "in_table_b1" 427 (.ref 162),de P "b3_exceptions" 2378 (.ref 163)]) 20,#[]⟩
noncomputable def f41(P:Params):Obj:=⟨.none,none,.fields (ar [.int 1 0,.int 0 0,.ref 20,.int 5 0,.int 0 0,.ref 27,.int 7 0,.int 0 0,.ref 40,.int 9 0,.int 0 0,.ref 52,.int 28 0,.int 0 0,.ref 59,.int 58 0,.int 0 0,.ref 67,.int 93 0,.int 0 0,.ref 161]),#[]⟩
noncomputable def i61(P:Params):Obj:=⟨.type "dict",none,.dict (ar [de P "__name__" 165 (cs "law_wv0039_01" 2387),de P "__doc__" 166 .none,de P "__package__" 167 .none,de P "__loader__" 168 (.builtin "__main__.__loader__#opaque"),de P "__spec__" 169 .none,de P "__annotations__" 170 (.ref 6),de P "__builtins__" 171 (.ref 4),de P "__file__" 173 (cs "/claim/cut.py" 172),de P "__cached__" 174 .none,de P "_wall" 193 (.ref 21),de P "Error" 215 (.ref 31),de P "error_reply" 231 (.ref 44),de P "parse257" 242 (.ref 53),de P "ELLIPSIS_MARKER" 246 (cs "..." 245),de P "_ellipsis_match" 258 (.ref 60),de P "EMPTYSTRING" 262 (cs "" 261),de P "_Accumulator" 358 (.ref 140),de P "b1_set" 420 (.ref 152),de P "in_table_b1" 427 (.ref 162),de P "b3_exceptions" 2378 (.ref 163),de P "map_table_b3" 2386 (.ref 208),de P "_law_typed" 2400 (.ref 215),de P "_law_prepared" 2406 (.ref 220),de P "_law_folded" 2417 (.ref 227),de P "_law_read" 2427 (.ref 234),de P "_law_place" 2438 (.ref 241),de P "_law_left" 2448 (.ref 248),de P "_law_names" 2454 (.ref 253),de P "law" 2460 (.ref 258)]) 29,#[]⟩
noncomputable def f31(P:Params):Obj:=⟨.none,none,.fields (ar [.int 1 0,.int 0 0,.ref 20,.int 5 0,.int 0 0,.ref 27,.int 7 0,.int 0 0,.ref 40,.int 9 0,.int 0 0,.ref 52,.int 28 0,.int 0 0,.ref 59,.int 58 0,.int 0 0,.ref 67,.int 93 0,.int 0 0,.ref 161,.int 96 0,.int 0 0,.ref 207,.int 102 0,.int 0 0,.ref 214,.int 110 0,.int 0 0,.ref 219,.int 112 0,.int 0 0,.ref 226,.int 121 0,.int 0 0,.ref 233,.int 128 0,.int 0 0,.ref 240,.int 131 0,.int 0 0,.ref 247,.int 138 0,.int 0 0,.ref 252,.int 150 0,.int 0 0,.ref 257]),#[]⟩
noncomputable def b3:List (Int×Str):=mV1 (us (stN 14)).a
noncomputable def dz1(l:List (Nat×Obj))(t:BT):BT:=l.foldl (λt x=>t.ins x.1 x.2) t
noncomputable def zH(t:BT)(a b:Obj):BT:=(t.set 3 λ_=>a).set 12 λ_=>b
noncomputable def t4:Env:={ scope:=prg.main.scope,locals:=mainNs,globals:=mainNs,cells:=[],code:=.ref 13,frame:=some 14 }
noncomputable def trb(P:Params):BT:=dz1 [(0,boot_o_0 P),(1,boot_o_1 P),(2,boot_o_2 P),(3,boot_o_3 P),(4,boot_o_4 P),(5,boot_o_5 P),(6,boot_o_6 P),(7,boot_o_7 P),(8,boot_o_8 P),(9,boot_o_9 P),(10,boot_o_10 P),(11,e0),(12,e1),(13,b13 P),(14,b14 P)] .nil
noncomputable def tr0(P:Params):BT:=dz1 [(15,e0),(16,e1),(17,n17 P),(18,e0),(19,n19 P),(20,n20 P),(21,n21 P),(22,n22 P),(23,e2),(24,n24 P),(25,e0),(26,e1),(27,n27 P),(28,n28 P),(29,e0),(30,n30 P),(31,n31 P),(32,n32 P),(33,n33 P),(34,n34 P),(35,n35 P),(36,e2),(37,n37 P),(38,e0),(39,e1),(40,n40 P),(41,n41 P),(42,e0),(43,n43 P),(44,n44 P),(45,n45 P),(46,n46 P),(47,e0),(48,e1),(49,n49 P),(50,e0),(51,n51 P),(52,n52 P),(53,n53 P),(54,e0),(55,e1),(56,n56 P),(57,e0),(58,n58 P),(59,n59 P),(60,n60 P),(61,n61 P),(62,e2),(63,n63 P),(64,n64 P),(65,e0),(66,n66 P),(67,n67 P),(68,n68 P),(69,n69 P),(70,e3),(71,n71 P),(72,e1),(73,n73 P),(74,e0),(75,n75 P),(76,n76 P),(77,n77 P),(78,e0),(79,e1),(80,n80 P),(81,e0),(82,n82 P),(83,n83 P),(84,n84 P),(85,n85 P),(86,e0),(87,e1),(88,n88 P),(89,e0),(90,n90 P),(91,n91 P),(92,n92 P),(93,e3),(94,n94 P),(95,e1),(96,n96 P),(97,e0),(98,n98 P),(99,n99 P),(100,mJ1 P),(101,e0),(102,e1),(103,mI1 P),(104,e0),(105,mH1 P),(106,mG1 P),(107,mF1 P),(108,e0),(109,e1),(110,mE1 P),(111,e0),(112,mD1 P),(113,mC1 P),(114,mB1 P),(115,mA1 P),(116,e0),(117,e1),(118,mz1 P),(119,e0),(120,my1 P),(121,mx1 P),(122,mw1 P),(123,e0),(124,e1),(125,mv1 P),(126,e0),(127,mu1 P),(128,mt1 P),(129,ms1 P),(130,e3),(131,mr1 P),(132,e1),(133,mq1 P),(134,e0),(135,mp1 P),(136,mo1 P),(137,mn1 P),(138,mm1 P),(139,ml1 P),(140,mk1 P),(141,mj1 P),(142,mi1 P),(143,mh1 P),(144,mg1 P)] (((((trb P).set 2 λ_=>jb1 P).set 3 λ_=>ja1 P).set 12 λ_=>f71 P))
noncomputable def tr1(P:Params):BT:=dz1 [(145,mf1 P),(146,me1 P),(147,md1 P),(148,mc1 P),(149,e0),(150,mb1 P),(151,ma1 P),(152,l91 P),(153,l81 P),(154,e0),(155,l71 P)] (zH (tr0 P) (i91 P) (f61 P))
noncomputable def tr2(P:Params):BT:=dz1 [(156,e0),(157,e1),(158,l61 P),(159,e0),(160,l51 P),(161,l41 P),(162,l31 P)] (zH (tr1 P) (i81 P) (f51 P))
noncomputable def q0:Pos:=⟨0,0,0,0⟩
noncomputable def shT(t:BT)(n k:Nat)(os:OsState):SharedT:={ tree:=t,n:=n,life:={ },gens:={ toList:=[] },drawn:={ },toks:=k,os:=os }
noncomputable def Sb(w:World)(os:OsState):SharedT:=shT (trb w.params) 15 187 os
noncomputable def T0(w:World)(os:OsState):SharedT:=shT (tr0 w.params) 145 361 os
noncomputable def T1(w:World)(os:OsState):SharedT:=shT (tr1 w.params) 156 421 os
noncomputable def T2(w:World)(os:OsState):SharedT:=shT (tr2 w.params) 163 428 os
noncomputable abbrev cdB(b:List Stmt):Code:=Code.body b t4
theorem p0(p:Program)(b:List Stmt)(w:World)(os:OsState) :
  segRunT treeTable p w 11 (some (Value.ref 6)) 1 1300 (Sb w os) (piecesOf [stN 0,stN 1,stN 2,stN 3,stN 4,stN 5,stN 6,stN 7,stN 8,stN 9,stN 10,stN 11] t4 (cdB b) q0 [topFrame q0])=some (.next,T0 w os,cdB b,⟨91,0,91,8⟩):=by
 rw[PySem.W.Fast.te10110043849684766642,PySem.W.Fast.te14364793385576792824]
 rfl'
noncomputable def P1(w:World):Prop:=∀ (p:Program) (b:List Stmt) (os:OsState),
  segRunT treeTable p w 11 (some (Value.ref 6)) 1 999 (T0 w os) (piecesOf [stN 12] t4 (cdB b) ⟨91,0,91,8⟩ [topFrame q0])=some (.next,T1 w os,cdB b,⟨92,0,92,6⟩)
theorem p1:∀ w,P1 w:=byRow2 "set-order" (byRow2 "special-get-raises" (λw p b os=>by
  rw[PySem.W.Fast.te10110043849684766642,PySem.W.Fast.te14364793385576792824];rfl') (λw p b os=>by
  rw[PySem.W.Fast.te10110043849684766642,PySem.W.Fast.te14364793385576792824];rfl')) (byRow2 "special-get-raises" (λw p b os=>by
  rw[PySem.W.Fast.te10110043849684766642,PySem.W.Fast.te14364793385576792824];rfl') (λw p b os=>by
  rw[PySem.W.Fast.te10110043849684766642,PySem.W.Fast.te14364793385576792824];rfl'))
theorem p2(p:Program)(b:List Stmt)(w:World)(os:OsState) :
  segRunT treeTable p w 11 (some (Value.ref 6)) 1 31 (T1 w os) (piecesOf [stN 13] t4 (cdB b) ⟨92,0,92,6⟩ [topFrame q0])=some (.next,T2 w os,cdB b,⟨93,0,94,30⟩):=by
 rw[PySem.W.Fast.te10110043849684766642,PySem.W.Fast.te14364793385576792824]
 rfl'
noncomputable def xE(st:Stmt):Pos:=(un (us st).a).p
noncomputable def hf1(st:Stmt):Pos:=(us st).p
noncomputable def lw1(st:Stmt):Pos:=(un ((us st).l.headD e00)).p
noncomputable abbrev gf(env:Env):Value->Sem Flow:=λv=>standAt (lw1 (stN 14))>>=λ_=>bindName env (so "b3_exceptions") v>>=λ_=>pure .next
theorem e14:exec (stN 14) t4=(standAt (hf1 (stN 14))>>=λ_=>(standAt (xE (stN 14))>>=λ_=>dictDisplay (opt (prT (xE (stN 14)) b3)))>>=gf t4):=by rfl'
theorem sF:b3.length=17*(37+1)+4:=by decide +kernel
theorem da1:GoodKeys b3:=by
 constructor
 ·have h:(b3.map (·.1)).Pairwise (· < ·):=by
   have:(List.range 649).all (λi=>decide ((b3.map (·.1)).getD i 0<(b3.map (·.1)).getD (i+1) 0))=true:=by decide +kernel
   rw[List.pairwise_iff_getElem]
   have key:∀ j i,i<j->∀ hj:j<650,(b3.map (·.1)).getD i 0<(b3.map (·.1)).getD j 0:=by
    intro j
    induction j with
    | zero=>intro i hi;omega
    | succ j ih =>
     intro i hi hj
     have st:=of_decide_eq_true (List.all_eq_true.mp this j (List.mem_range.mpr (by omega)))
     rcases Nat.lt_or_ge i j with q | q
     ·exact Int.lt_trans (ih i q (by omega)) st
     ·obtain rfl:i=j:=by omega
      exact st
   intro i j hi hj hij
   have hl:(b3.map (·.1)).length=650:=by rw[List.length_map,sF]
   have:=key j i hij (by omega)
   simp only[List.getD_eq_getElem?_getD,List.getElem?_eq_getElem hi,List.getElem?_eq_getElem hj,Option.getD_some] at this
   exact this
  exact h.imp (λh=>Int.ne_of_lt h)
 ·have:b3.all (λx=>decide (0<=x.1)&&decide (x.1<2 ^ 60))=true:=by decide +kernel
  intro x hx
  have:=List.all_eq_true.mp this x hx
  simpa using this
noncomputable def cP1:List Obj:=f81 428 37 (b3.take 17) (b3.drop 17) []
noncomputable def jU1(P:Params):BT:=dz1 ((List.range' 163 39).zip cP1) (tr2 P)
noncomputable def T2b(w:World)(os:OsState):SharedT:=shT (jU1 w.params) 202 2378 os
noncomputable def tr3(P:Params):BT:=zH (jU1 P) (i71 P) (f41 P)
noncomputable def T3(w:World)(os:OsState):SharedT:=shT (tr3 w.params) 202 2379 os
theorem f01(w:World)(os:OsState):hx (T2 w os).abs.heap cP1=(T2b w os).abs.heap:=by rfl'
theorem fe1(p:Program)(b:List Stmt)(w:World)(os:OsState) :
  segRunT treeTable p w 11 (some (Value.ref 6)) 1 12 (T2b w os) ⟨(gf t4 (.ref 163)).wrap doneF deadEnd id id,cdB b,xE (stN 14),[topFrame q0]⟩=some (.next,T3 w os,cdB b,⟨95,0,95,13⟩):=by
 rw[PySem.W.Fast.te10110043849684766642,PySem.W.Fast.te14364793385576792824]
 rfl'
theorem p3(p:Program)(b:List Stmt)(w:World)(os:OsState):∃ n,segRun treeTable p w 11 (some (Value.ref 6)) 1 n (T2 w os).abs (pieceOf (stN 14) t4 (cdB b) ⟨93,0,94,30⟩ [topFrame q0]) =
  some (.next,(T3 w os).abs,cdB b,⟨95,0,95,13⟩):=by
 have sz:(T2 w os).abs.heap.objs.size=163:=absHeap_size _ _ _
 have Y:Yld p w 11 (some (Value.ref 6)) q0 (standAt (hf1 (stN 14))>>=λ_=>(standAt (xE (stN 14))>>=λ_=>dictDisplay (opt (prT (xE (stN 14)) b3)))) ⟨93,0,94,30⟩ (T2 w os).abs (.ref 163) (xE (stN 14)) (T2b w os).abs:=by
  refine ay jA (ay jA ?_)
  have:=mG (p:=p) (w:=w) (n₀:=11) (ann:=some (Value.ref 6)) (q:=q0) (s:=(T2 w os).abs) (pd:=xE (stN 14)) (hb:=(T2 w os).abs.heap) (by rw[sz];decide) (by rw[sz];decide) 428 37 b3 sF da1 (by rw[sF];decide)
  rw[sF,sz] at this
  have e:=f01 w os
  unfold cP1 at e
  rw[e] at this
  exact this
 obtain ⟨n,hn⟩:=Y (λa=>(gf t4 a).wrap doneF deadEnd id id) deadEnd id id (cdB b)
 refine⟨n+12,seg_go ?_ (segRun_of (fe1 p b w os))⟩
 unfold pieceOf
 rw[e14]
 have e:((standAt (hf1 (stN 14))>>=λ_=>(standAt (xE (stN 14))>>=λ_=>dictDisplay (opt (prT (xE (stN 14)) b3)))>>=gf t4):Sem Flow) =
   (standAt (hf1 (stN 14))>>=λ_=>(standAt (xE (stN 14))>>=λ_=>dictDisplay (opt (prT (xE (stN 14)) b3))))>>=gf t4:=by
  simp only[bind_assoc]
 rw[e,Sem.bind_eq_wrap',Sem.wrap_wrap]
 exact hn
noncomputable def tr4(P:Params):BT:=dz1 [(202,e0),(203,e1),(204,l21 P),(205,e0),(206,l11 P),(207,l01 P),(208,lZ1 P),(209,e0),(210,e1),(211,lY1 P),(212,e0),(213,lX1 P),(214,lW1 P),(215,lV1 P),(216,e0),(217,e1),(218,lU1 P),(219,lT1 P),(220,lS1 P),(221,e0),(222,e1),(223,lR1 P),(224,e0),(225,lQ1 P),(226,lP1 P),(227,lO1 P),(228,e0),(229,e1),(230,lN1 P),(231,e0),(232,lM1 P),(233,lL1 P),(234,lK1 P),(235,e0),(236,e1),(237,lJ1 P),(238,e0),(239,lI1 P),(240,lH1 P),(241,lG1 P),(242,e0),(243,e1),(244,lF1 P),(245,e0),(246,lE1 P),(247,lD1 P),(248,lC1 P),(249,e0),(250,e1),(251,lB1 P),(252,lA1 P),(253,lz1 P),(254,e0),(255,e1),(256,ly1 P),(257,lx1 P),(258,ke1 P)] (zH (tr3 P) (i61 P) (f31 P))
noncomputable def T4(w:World)(os:OsState):SharedT:=shT (tr4 w.params) 259 2461 os
theorem p4(p:Program)(b:List Stmt)(w:World)(os:OsState) :
  segRunT treeTable p w 11 (some (Value.ref 6)) 1 300 (T3 w os) (piecesOf [stN 15,stN 16,stN 17,stN 18,stN 19,stN 20,stN 21,stN 22,stN 23,stN 24] t4 (cdB b) ⟨95,0,95,13⟩ [topFrame q0])=some (.next,T4 w os,cdB b,⟨150,0,211,71⟩):=by
 rw[PySem.W.Fast.te10110043849684766642,PySem.W.Fast.te14364793385576792824]
 rfl'
noncomputable abbrev bd:List Stmt:=behindTheImports prg
noncomputable def S0(w:World)(os:OsState):Shared:=⟨boot_heap w.params,Array.mk [],boot_drawn,boot_toks,os⟩
theorem pre(w:World)(os:OsState):topGo treeTable prg w 11 (some (Value.ref 6)) 12 (S0 w os) (topStub prg)=some ((Sb w os).abs,⟨denote treeTable (cdB bd),cdB bd,q0,[topFrame q0]⟩):=by
 rfl'
theorem blk(w:World)(os:OsState):segRun treeTable prg w 11 (some (Value.ref 6)) 1 1 (Sb w os).abs (blockOf bd t4 (cdB bd) q0 [topFrame q0])=some (.next,(Sb w os).abs,cdB bd,q0):=by
 rfl'
theorem gz1:[stN 0,stN 1,stN 2,stN 3,stN 4,stN 5,stN 6,stN 7,stN 8,stN 9,stN 10,stN 11]++([stN 12]++([stN 13]++(stN 14::([stN 15,stN 16,stN 17,stN 18,stN 19,stN 20,stN 21,stN 22,stN 23,stN 24]++[]))))=bd:=by rfl'
noncomputable def S4(w:World)(os:OsState):Shared:=(T4 w os).abs
theorem fin(w:World)(os:OsState):topRun treeTable prg w 11 (some (Value.ref 6)) 5 (T4 w os).abs ⟨doneF .next,cdB bd,⟨150,0,211,71⟩,[topFrame q0]⟩=some (S4 w os):=by
 rfl'
theorem dR1(w:World)(os:OsState):∃ n,topRun treeTable prg w 11 (some (Value.ref 6)) n (S0 w os) (topStub prg)=some (S4 w os):=by
 have k4:=piece_app (rest:=[]) (segRun_of (p4 prg bd w os)) (piece_nil (fin w os))
 obtain ⟨n3,h3⟩:=p3 prg bd w os
 have k3:=piece_cons h3 k4
 have k2:=piece_app (segRun_of (p2 prg bd w os)) k3
 have k1:=piece_app (segRun_of (p1 w prg bd os)) k2
 have k0:=piece_app (segRun_of (p0 prg bd w os)) k1
 rw[gz1] at k0
 have kb:=piece_block (blk w os) k0
 exact⟨_,go_top (pre w os) kb⟩
open PySem PySem.W PySem.Calls PyProof.Rows
set_option maxHeartbeats 0
abbrev rw3:OpenLaw:=PySem.Challenge.rw_wv0039_01
theorem wm:opening prg=plainProg prg.main.scope.names:=by rfl'
theorem cG1(s:Shared):fenceModules? prg s=some s:=by rfl'
theorem fP1:importedModules prg.main.body=[]:=by rfl'
noncomputable abbrev Hh(P:Params):Heap:=absHeap (tr4 P) 259 {}
theorem jH1(w:World)(os:OsState):S4 w os=⟨Hh w.params,⟨[]⟩,{},2461,os⟩:=by rfl'
theorem hK1(w:World)(os:OsState):(S4 w os).heap=Hh w.params:=by rfl'
theorem kA1(w:World)(os:OsState):(S4 w os).gens=⟨[]⟩:=by rfl'
theorem xU(w:World)(os:OsState):(S4 w os).asleep:=⟨by rfl',by rfl'⟩
theorem tS(w:World)(os:OsState):gensDone (S4 w os)=true:=by rfl'
theorem c1(P:Params):staticsOk [] (boot_heap P) (Hh P)=true:=by rfl'
theorem c2(P:Params):namesBound prg (Hh P)=true:=by rfl'
theorem c4(P:Params):laidKept (boot_heap P) (Hh P)=true:=by rfl'
theorem c5(P:Params):(Hh P).accountedOkI []=true:=by rfl'
theorem c6(P:Params):(Hh P).isNs mainGlobals=true:=by rfl'
theorem c7(P:Params):(Hh P).isNs builtinsNs=true:=by rfl'
theorem c8(P:Params):(Hh P).bltView=bltViewBooted:=by rfl'
theorem c9(P:Params):(Hh P).bmainOk=true:=by rfl'
theorem xV(w:World)(os:OsState):(S0 w os).asleep:=⟨by rfl',by rfl'⟩
theorem xN(w:World):(∃ s,AfterRun (opening prg) w s)/\∀ s,AfterRun (opening prg) w s->∃ s₀,fenceModules? prg s=some s₀/\s₀.gens=#[]/\∃ os,TopRan prg w s₀ (S4 w os):=by
 have h:=boot_open (p:=prg) (N:=600) wm rfl cG1 w
 rw[← table_eq_tree] at h
 obtain ⟨s₀,h2,h3⟩:=Option.map_eq_some_iff.mp h
 obtain ⟨s,h4,h5⟩:=Option.bind_eq_some_iff.mp h2
 have A:=AfterImport.of_importEnds h4
 refine⟨⟨s,A⟩,λs' hs'=>?_⟩
 obtain rfl:s'=s:=AfterImport.unique hs' A
 obtain ⟨hp,gs,dr,tk,os⟩:=s₀
 obtain ⟨e1,e2,e3,e4⟩:hp=boot_heap w.params/\gs=Array.mk []/\dr=boot_drawn/\tk=boot_toks:=by simpa using h3
 subst e1 e2 e3 e4
 refine⟨_,h5,rfl,os,?_⟩
 obtain ⟨n,hr⟩:=dR1 w os
 rw[← table_eq_tree] at hr
 obtain ⟨a,l,o,fr⟩:=topRun_spec n _ _ _ (xV w os) hr
 have hheap:=hK1 w os
 have hg:=c6 w.params
 have hg0:(boot_heap w.params).isNs mainGlobals=true:=by rfl'
 refine⟨a,l,Shared.rest_eq o,λb ob hb hn=>fr b ob ?_ (λq=>hn (.inl q)) (λq=>hn (.inr (.inl q))) (λq=>hn (.inr (.inr ((Pin.globalOf_eq hg0 _).trans ?_)))) hb,?_,?_,?_,?_,?_,gens_of_done (tS w os),?_,?_⟩
 ·have:=Heap.lt_size hb
  have e:(boot_heap w.params).objs.size=11:=by rfl'
  exact e▸this
 ·have e:(boot_heap w.params).nsMap mainGlobals "__annotations__"=some (.ref 6):=by rfl'
  exact e.trans q
 ·rw[hheap,fP1];exact Heap.accountedI_of_ok (c5 _)
 ·rw[hheap,fP1];exact statics_of_ok (c1 _)
 ·rw[hheap];exact Pin.keysAreStrs_of hg
 ·rw[hheap];exact λx hx=>(Pin.builtinOf_eq (c7 _) x).trans (Heap.of_bltView (c7 _) (c8 _) x hx)
 ·rw[hheap]
  obtain ⟨bm,ob,a,_,c,d,f,_⟩:=Heap.bmainOk_spec (c9 w.params)
  exact⟨bm,ob,(Pin.globalOf_eq hg _).trans a,c,d,f⟩
 ·rw[hheap];exact names_of_bound (c2 _)
 ·rw[hheap];exact laid_of_kept (c4 _)
inductive Ints:List Value->List Int->Prop
 | nil:Ints [] []
 | cons {i:Int} {t:Tok} {vs:List Value} {ns:List Int}:Ints vs ns->Ints (.int i t::vs) (i::ns)
noncomputable def jE1(prog:Program)(H:Params->Heap)(fa:Addr):Prop :=
 ∀ (w:World) (au:Shared) (l:Addr) (o:Obj) (vs:Array Value) (n:Nat) (ns:List Int),
  (∀ b o,(H w.params).get? b=some o->au.heap.get? b=some o)->au.gens=#[]->0<au.toks->au.heap.get? l=some o->o.cls=.type "list"->o.data=.seq vs n ->
  Ints vs.toList ns->ns.length<=63->WData.layableAll [.list (ns.map .int)]=true->(H w.params).objs.size<=l ->
  wpAny (model prog w) callerA (PySem.call (.ref fa) [.ref l])
   (λv s'=>v=.bool true/\OldK au.heap s'.heap/\s'.os=au.os/\AllBare s'.gens) (λ_ _=>False) au
theorem jq1(P:Params):isTheDefsW prg (Hh P) "law" :=
 ⟨258,ke1 P,je1 (stN 24) (.ref 257) (cs "law_wv0039_01" 2387),gM1 (stN 24),aw (stN 24),af (stN 24),(Pin.globalOf_eq (c6 P) _).trans (by rfl'),by rfl',by rfl',by rfl',by rfl',
  by rfl',by rfl',by rfl',by rfl',by rfl',by rfl',by rfl',.inl ⟨by rfl',by rfl'⟩,[],by rfl',.inl ⟨rfl,by rfl'⟩⟩
noncomputable def nh1(R:WRecords)(cl:Str->Option Addr)(h:Heap)(v:Value):WData->List Addr->Prop
 | .int i,_=>∃ t,v=.int i t
 | .list xs,as=>∃ a o vs n as',v=.ref a/\as=a::as'/\h.get? a=some o/\o.cls=.type "list"/\o.data=.seq vs n/\ReadsAllW R cl h vs.toList xs as'
 | _,_=>True
theorem kq1{R:WRecords}{cl:Str->Option Addr}{h:Heap}{v:Value}{d:WData}{as:List Addr}(H:ReadsW R cl h v d as):nh1 R cl h v d as:=by
 cases H with
 | int i t=>exact⟨t,rfl⟩
 | list ho hc hd hi=>exact⟨_,_,_,_,_,rfl,rfl,ho,hc,hd,hi⟩
 | _=>trivial
theorem se{R:WRecords}{cl:Str->Option Addr}{h:Heap}{vs:List Value}{d:WData}{ds:List WData}{as:List Addr}{Q:Prop}(H:ReadsAllW R cl h vs (d::ds) as)
  (k:∀ v vs' a b,vs=v::vs'->as=a++b->ReadsW R cl h v d a->ReadsAllW R cl h vs' ds b->Q):Q:=by
 cases H with | cons hv hr=>exact k _ _ _ _ rfl rfl hv hr
theorem xc{R:WRecords}{cl:Str->Option Addr}{h:Heap}{vs:List Value}{as:List Addr}(H:ReadsAllW R cl h vs [] as):vs=[]:=by cases H;rfl
theorem kr1{R:WRecords}(x:WData):(WShape.has R x .int=true->∃ i,x=.int i)/\(WShape.has R x (.list .int)=true->∃ xs,x=.list xs/\WShape.hasItems R xs .int=true):=by
 cases x with
 | int i=>exact⟨λ_=>⟨i,rfl⟩,λh=>ftr h⟩
 | list xs=>exact⟨λh=>ftr h,λh=>⟨xs,rfl,(Bool.or_eq_true_iff.mp h).elim id ftr⟩⟩
 | _=>exact⟨λh=>ftr h,λh=>ftr h⟩
theorem xe{R:WRecords}{cl:Str->Option Addr}{h:Heap}:∀ {xs:List WData} {vs:List Value} {as:List Addr},ReadsAllW R cl h vs xs as->WShape.hasItems R xs .int=true->∃ ns,xs=ns.map WData.int/\Ints vs ns
 | [],vs,as,H,_=>⟨[],rfl,xc H▸.nil⟩
 | x::xs,vs,as,H,hs=>by
  obtain ⟨i,rfl⟩:=(kr1 x).1 (ao hs).1
  refine se H λv vs' a b e _ hv hr=>?_
  obtain ⟨ns,e2,hI⟩:=xe hr (ao hs).2
  obtain ⟨t,e3⟩:=kq1 hv
  subst e2 e e3
  exact⟨i::ns,rfl,.cons hI⟩
theorem dg1{R:WRecords}{cl:Str->Option Addr}{h:Heap}{args:List WData}{vs:List Value}{as:List Addr}{Q:Prop}(hs:WShape.hasAll R args [.list .int]=true)(H:ReadsAllW R cl h vs args as)
  (k:∀ ns l o va n,args=[.list (List.map .int ns)]->vs=[.ref l]->l∈as->h.get? l=some o->o.cls=.type "list"->o.data=.seq va n->Ints va.toList ns->Q):Q:=by
 match args,hs,H with
 | [],hs,_=>exact ftr hs
 | x::y::r,hs,_=>exact ftr (ao hs).2
 | [x],hs,H =>
  obtain ⟨xs,rfl,hi⟩:=(kr1 x).2 (ao hs).1
  refine se H λv vs' a b e1 e2 hv hr=>hm1 (kq1 hv) λl o va n as' e3 e4 ho hc hd hI=>aQ (xe hI hi) λns e5 hN=>?_
  exact k ns l o va n (congrArg (λz=>[WData.list z]) e5) (e1.trans (e3▸xc hr▸rfl)) (e2▸List.mem_append_left _ (e4▸List.mem_cons_self)) ho hc hd hN
theorem bF1{R:WRecords}{ns:List Int}(h:WTm.holds R (.and (.not (.lt (.lit (.int 63)) (.len (.arg 0)))) (.lit (.bool true))) { args:=[WData.list (ns.map WData.int)] }=true):ns.length<=63:=by
 rcases Nat.lt_or_ge 63 ns.length with q | q
 ·have hq:decide ((63:Int)<((ns.map WData.int).length:Nat))=true:=by rw[List.length_map];exact decide_eq_true (by exact Int.ofNat_le.mpr ‹_›)
  have hl:less? (WData.int 63) (WData.int ((ns.map WData.int).length:Nat))=some true:=congrArg some hq
  have e:WTm.value R (.and (.not (.lt (.lit (.int 63)) (.len (.arg 0)))) (.lit (.bool true))) { args:=[WData.list (ns.map WData.int)] }=some (.bool false):=by
   simp only[WTm.value,List.getElem?_cons_zero,hl,Option.map_some,Bool.not_true]
  unfold WTm.holds at h
  rw[e] at h
  exact ftr h
 ·exact q
theorem jy1(walk:jE1 prg Hh 258){w:World}{os:OsState}{args:List WData}{vs:List Value}{as:List Addr}{au:Shared}{Q:Fin->Shared->Prop}{E:Value->Shared->Prop}{R:WRecords}
  (hs:WShape.hasAll R args [.list .int]=true) (hp:WTm.holds R (.and (.not (.lt (.lit (.int 63)) (.len (.arg 0)))) (.lit (.bool true))) { args:=args }=true) (hlay:WData.layableAll args=true)
  (H:ReadsAllW R (classAt (S4 w os).heap) au.heap vs args as) (hin:∀ a∈as,(Hh w.params).objs.size<=a) (keeps:∀ b o,(Hh w.params).get? b=some o->au.heap.get? b=some o) (hg:au.gens=#[]) (ht:0<au.toks)
  (k:∀ s',OldK au.heap s'.heap->s'.os=au.os->AllBare s'.gens->Q (.done (.ret (.bool true))) s') :
  wpAny (model prg w) callerA (do match ← nsGet mainNs "law" with
    | some f=>do ret (← PySem.call f vs)
    | none=>unsupported "claim.caller:no-such-global") Q E au:=by
 refine dg1 hs H λns l o va n e1 e2 hl ho hc hd hI=>?_
 subst e1 e2
 refine wpAny_bind (wpAny_nsGet ((Heap.Ns.of_isNs (c6 w.params)).keeps keeps) ?_)
 rw[show (Hh w.params).nsMap mainGlobals "law"=some (.ref 258) by rfl']
 refine wpAny_bind (wpAny_mono (walk w au l o va n ns keeps hg ht ho hc hd hI (bF1 hp) hlay (hin l hl)) (λv s' q=>wpAny_pure ?_) λ_ _ x=>x.elim)
 rw[q.1]
 exact k s' q.2.1 q.2.2.1 q.2.2.2
theorem i41{w:World}{os:OsState}{args:List WData}{au s':Shared}(k1:OldK au.heap s'.heap)(k2:s'.os=au.os)(k3:AllBare s'.gens) :
  GoodWG rw3.row.claim (classAt (S4 w os).heap) (ExcName.means (S4 w os).heap) args au (.ok (.ret (.bool true))) s' :=
 ⟨.inl ⟨.bool true,.bool true,[],rfl,λcls=>rfl,.bool true,by rfl',λ_=>⟨.nil,λa ha=>(nomatch ha)⟩⟩,k1,k2,k3⟩
theorem i31(walk:jE1 prg Hh 258):rw3.Holds:=by
 w_on
 refine holds_law (by rfl') λsaid=>?_
 refine⟨said,?_,?_⟩
 ·w_witness2
 ·have fr:frees rw3.row.toRowW=true:=by decide +kernel
  obtain ⟨hsame,hu,ha,hap,hm⟩:=frees_parts fr
  refine⟨⟨⟨by rfl',by rfl',by rfl',by rfl',by rfl',by decide +kernel⟩,by decide +kernel,by rfl'⟩,⟨[.list []],by decide +kernel,by decide +kernel⟩,λw=>⟨(xN w).1,λs' hs'=>?_⟩⟩
  obtain ⟨s₀,hf,hg0,os,hT⟩:=(xN w).2 s' hs'
  refine⟨s₀,hf,hg0,S4 w os,hT,λn hn=>?_,λx hx=>(nomatch hx),λx hx=>(nomatch hx),?_⟩
  ·obtain rfl:n="law":=by
    have e:(if rw3.row.pinned=true then [rw3.row.name] else [])=[("law":Str)]:=by rfl'
    rw[e] at hn
    simpa using hn
   have:=jq1 w.params
   rw[← hK1 w os] at this
   exact this
  ·refine ClaimW.callFrom_of_specG (c:=rw3.row.claim) (tree:=λvs=>do match ← nsGet mainNs rw3.row.name with
    | some f=>do ret (← PySem.call f vs)
    | none=>unsupported "claim.caller:no-such-global") (xU w os) (kA1 w os) λargs hpre hlay ord hord=>?_
   obtain ⟨⟨vs,au⟩,hlaid⟩:=Option.isSome_iff_exists.mp (layAllW_isSome (R:=rw3.row.claim.records) (cl:=classAt (S4 w os).heap) (P:=w.params) (ord:=ord) (λc hc=>by cases hc) args rw3.row.args (S4 w os) (pre_splitW hpre).1)
   have keeps:=layAllW_keeps _ _ _ hlaid
   have hal:=layAllW_rest _ _ _ hlaid
   obtain ⟨as,hrd,hin,hold⟩:=reads_layAllW hord _ _ _ hlaid hlay au.heap (λ_ _ e=>e)
   have L:Laid rw3.row.claim.records w (S4 w os) au args vs as:=⟨⟨ord,hord,hlaid⟩,hrd,hin,hold,keeps,hal.1.trans (kA1 w os),hal.2.2.1⟩
   have hi:=ident_freeW hu ha hap
   have hsh:=pre_splitW hpre
   refine⟨vs,au,hlaid,jy1 walk (os:=os) hsh.1 hsh.2 hlay hrd (λa ha=>?_) (by rw[← hK1 w os];exact keeps) L.gens ?_ λs' k1 k2 k3=>?_⟩
   ·have:=(hin.2.2 _ ha).1
    rw[hK1] at this
    exact this
   ·have h:=(layAllW_grows _ _ _ hlaid).toks
    rw[jH1] at h
    exact Nat.lt_of_lt_of_le (show 0<2461 by decide) h
   ·have z:=GoodWG.laid (c:=rw3.row.claim) hsame (by rfl') hi L (i41 k1 k2 k3)
    exact⟨_,rfl,z.1,z.2.1,z.2.2,λq=>ftr q⟩
inductive V where
 | none | bool (b:Bool) | int (i:Int) | str (l:List Nat)
 | tup (l:List V) | lst (l:List V) | raw (l:List V) | rng (a b c:Int) | ref (k:Nat)
set_option genInjectivity false in
set_option genSizeOf false in
structure AO where
 items:List V
 acc:Option Int
set_option genInjectivity false in
set_option genSizeOf false in
structure Wd where
 prog:Program
 w:World
 s₀:Shared
 cls:Addr
 loose:List Addr
set_option genInjectivity false in
set_option genSizeOf false in
structure Rho where
 st:List (Addr×Addr)
 hid:List Addr
noncomputable def sL(ρ:Rho)(b:Addr):Prop:=∀ p∈ρ.st,p.1≠b/\p.2≠b
noncomputable def Off(ρ:Rho)(b:Addr):Prop:=sL ρ b/\b ∉ ρ.hid
noncomputable def iQ(a b c:Int):Bool:=decide (-1000000<=a/\a<=1000000/\-1000000<=b/\b<=1000000/\1<=c/\c<=1000000)
noncomputable def PlainTuple(h:Heap)(a:Addr)(items:Array Value):Prop:=∃ n,h.get? a=some { cls:=.type "tuple",data:=.seq items n }
theorem PlainTuple.isTuple{h:Heap}{a:Addr}{items:Array Value}(x:PlainTuple h a items):h.IsTuple a items:=let ⟨n,e⟩:=x;⟨_,e,rfl,n,rfl⟩
noncomputable def lim:Nat:=1000000
mutual
noncomputable def RV(h:Heap)(ρ:Rho):V->Value->Prop
 | .none,v=>v=.none
 | .bool b,v=>v=.bool b
 | .int i,v=>∃ t,v=.int i t
 | .str l,v=>l.length<=lim/\∃ t,v=.str ⟨l.toArray⟩ t
 | .tup l,v=>l.length<=lim/\∃ a vs,v=.ref a/\Off ρ a/\PlainTuple h a vs/\RVs h ρ l vs.toList
 | .lst l,v=>l.length<=lim/\∃ a vs,v=.ref a/\Off ρ a/\h.PlainList a vs/\RVs h ρ l vs.toList
 | .raw l,v=>l.length<=lim/\∃ a vs,v=.ref a/\Off ρ a/\h.IsList a vs/\RVs h ρ l vs.toList
 | .rng a b c,v=>iQ a b c=true/\∃ r t u w,v=.ref r/\Off ρ r/\IsRange h r a b c t u w
 | .ref k,v=>∃ p,ρ.st[k]?=some p/\v=.ref p.1
noncomputable def RVs(h:Heap)(ρ:Rho):List V->List Value->Prop
 | [],vs=>vs=[]
 | x::xs,vs=>∃ v r,vs=v::r/\RV h ρ x v/\RVs h ρ xs r
end
noncomputable def RO(G:Wd)(h:Heap)(ρ:Rho)(p:Addr×Addr)(o:AO):Prop :=
 o.items.length<=lim/\match o.acc with
 | none=>p.2=p.1/\∃ vs,h.PlainList p.1 vs/\RVs h ρ o.items vs.toList
 | some i=>∃ vs n m,h.get? p.1=some ⟨.ref G.cls,some p.2,.seq vs n,#[]⟩/\RVs h ρ o.items vs.toList/\h.Ns p.2 m/\(∃ t,m "_initial_size"=some (.int i t))/\(∀ x:Str,x≠"_initial_size"->m x=none)
noncomputable def aa1(G:Wd)(b:Addr)(vs:Array Value):Prop:=TriplesOk vs.toList/\∃ us more,G.s₀.heap.get? b=some ⟨.none,none,.fields us,#[]⟩/\vs=us++more
structure Rel (G:Wd) (σ:List AO) (ρ:Rho) (s:Shared):Prop where
 len:ρ.st.length=σ.length
 inj:∀ (i j:Nat) (p q:Addr×Addr),ρ.st[i]?=some p->ρ.st[j]?=some q->p.1=q.1->i=j
 obj:∀ (k:Nat) (p:Addr×Addr) (o:AO),ρ.st[k]?=some p->σ[k]?=some o->RO G s.heap ρ p o
 fresh:∀ p∈ρ.st,G.s₀.heap.get? p.1=none/\G.s₀.heap.get? p.2=none
 keep:∀ b o,b ∉ G.loose->G.s₀.heap.get? b=some o->s.heap.get? b=some o
 lse:∀ b∈G.loose,∃ vs,s.heap.get? b=some ⟨.none,none,.fields vs,#[]⟩/\aa1 G b vs
 same:∃ h tk gs,s={ G.s₀ with heap:=h,toks:=tk,gens:=gs }
 bare:AllBare s.gens
 hidden:∀ b∈ρ.hid,s.heap.get? b≠none
noncomputable def Solid(o:Obj):Prop:=(o.cls=.type "tuple"\/o.cls=.type "list"\/o.cls=.type "range")/\(∀ es ep,o.data≠.dict es ep)/\∀ c,o.data≠.cell c
structure StepW (G:Wd) (W:List Addr) (ρ:Rho) (s:Shared) (ρ':Rho) (s':Shared) (σ':List AO):Prop where
 rel:Rel G σ' ρ' s'
 ext:∃ new,ρ'=⟨ρ.st++new,ρ.hid⟩/\∀ p∈new,s.heap.get? p.1=none/\s.heap.get? p.2=none
 keep:∀ b o,s.heap.get? b=some o->sL ρ b->b ∉ W->b ∉ G.loose->s'.heap.get? b=some o
 wal:∀ b∈W,s.heap.get? b≠none->s'.heap.get? b≠none
noncomputable abbrev Step(G:Wd):=StepW G []
theorem IsTuple.solid{h:Heap}{a vs o}(x:h.IsTuple a vs)(e:h.get? a=some o):Solid o:=by
 obtain ⟨o',ho,hc,n,hd⟩:=x
 rw[ho] at e;obtain rfl:=siX e
 exact⟨by rw[hc];simp,λ_ _ z=>(by replace z:=(hd)▸z;cases z),λ_ z=>(by replace z:=(hd)▸z;cases z)⟩
theorem IsList.solid{h:Heap}{a vs o}(x:h.IsList a vs)(e:h.get? a=some o):Solid o:=by
 obtain ⟨o',ho,hc,n,hd⟩:=x
 rw[ho] at e;obtain rfl:=siX e
 exact⟨by rw[hc];simp,λ_ _ z=>(by replace z:=(hd)▸z;cases z),λ_ z=>(by replace z:=(hd)▸z;cases z)⟩
structure KeepV (h:Heap) (ρ:Rho) (h':Heap) (ρ':Rho):Prop where
 ext:∃ new,ρ'.st=ρ.st++new/\∀ p∈new,h.get? p.1=none/\h.get? p.2=none
 hide:∀ b∈ρ'.hid,b∈ρ.hid\/h.get? b=none
 keep:∀ b o,h.get? b=some o->Off ρ b->Solid o->h'.get? b=some o
theorem KeepV.off{h h':Heap}{ρ ρ':Rho}(K:KeepV h ρ h' ρ'){a:Addr}(hn:h.get? a≠none)(ho:Off ρ a):Off ρ' a:=by
 refine aQ (K.ext) λnew e hf=>?_
 refine⟨λp hp=>?_,λq=>?_⟩
 ·rw[e] at hp
  rcases List.mem_append.mp hp with hp | hp
  ·exact ho.1 p hp
  ·exact⟨λe=>hn (e▸(hf p hp).1),λe=>hn (e▸(hf p hp).2)⟩
 ·refine Or.elim (K.hide a q) (λq=>?_) (λq=>?_)
  ·exact ho.2 q
  ·exact hn q
structure KeepG (h:Heap) (ρ:Rho) (h':Heap) (ρ':Rho):Prop where
 off:∀ a,h.get? a≠none->Off ρ a->Off ρ' a
 keep:∀ b o,h.get? b=some o->Off ρ b->Solid o->h'.get? b=some o
 st:∀ (k:Nat) (p:Addr×Addr),ρ.st[k]?=some p->ρ'.st[k]?=some p
theorem KeepG.ref{h h':Heap}{ρ ρ':Rho}(K:KeepG h ρ h' ρ'){P:Heap->Addr->Array Value->Prop}(hP:∀ a vs,P h a vs->∃ o,h.get? a=some o/\Solid o/\(h'.get? a=some o->P h' a vs)){l:List V}
  (hr:∀ vs,RVs h ρ l vs->RVs h' ρ' l vs) {v:Value} (e:l.length<=lim/\∃ a vs,v=.ref a/\Off ρ a/\P h a vs/\RVs h ρ l vs.toList):l.length<=lim/\∃ a vs,v=.ref a/\Off ρ' a/\P h' a vs/\RVs h' ρ' l vs.toList :=
 ⟨e.1,fi1 e.2 λa vs e ho hp r=>pI (hP a vs hp) λo g S q=>zr a vs e (K.off a (λz=>nso (z.symm.trans g)) ho) (q (K.keep a o g ho S)) (hr _ r)⟩
mutual
theorem RV.keepG{h h':Heap}{ρ ρ':Rho}(K:KeepG h ρ h' ρ'):∀ (x:V) (v:Value),RV h ρ x v->RV h' ρ' x v
 | .none=>λ_ e=>e
 | .bool _=>λ_ e=>e
 | .int _=>λ_ e=>e
 | .str _=>λ_ e=>e
 | .tup l=>λ_=>K.ref (P:=PlainTuple) (λa vs p=>p.elim λn g=>⟨_,g,IsTuple.solid (PlainTuple.isTuple p) g,λg=>⟨n,g⟩⟩) (RVs.keepG K l)
 | .lst l=>λ_=>K.ref (P:=Heap.PlainList) (λa vs p=>p.elim λn g=>⟨_,g,IsList.solid (Heap.PlainList.isList p) g,λg=>⟨n,g⟩⟩) (RVs.keepG K l)
 | .raw l=>λ_=>K.ref (P:=Heap.IsList) (λa vs p=>p.elim λo q=>⟨o,q.1,IsList.solid p q.1,λg=>⟨o,g,q.2⟩⟩) (RVs.keepG K l)
 | .rng a b c=>λv e=>⟨e.1,hp1 e.2 λr t u w e ho hr=>mP1 r t u w e (K.off r (λz=>nso (z.symm.trans hr)) ho) (K.keep r _ hr ho ⟨.inr (.inr rfl),nofun,nofun⟩)⟩
 | .ref k=>λv e=>e.elim λp q=>⟨p,K.st k p q.1,q.2⟩
theorem RVs.keepG{h h':Heap}{ρ ρ':Rho}(K:KeepG h ρ h' ρ'):∀ (x:List V) (v:List Value),RVs h ρ x v->RVs h' ρ' x v
 | []=>λ_ e=>e
 | x::xs=>λvs e=>oS e λv r e h1 h2=>pT v r e (RV.keepG K x v h1) (RVs.keepG K xs r h2)
end
theorem KeepV.g{h h':Heap}{ρ ρ':Rho}(K:KeepV h ρ h' ρ'):KeepG h ρ h' ρ':=⟨λa=>K.off,K.keep,λk p hp=>aQ K.ext λnew e' _=>by rw[e',List.getElem?_append_left (List.getElem?_eq_some_iff.mp hp).1];exact hp⟩
theorem RV.mono{h h':Heap}{ρ ρ':Rho}(K:KeepV h ρ h' ρ'):∀ (x:V) (v:Value),RV h ρ x v->RV h' ρ' x v:=RV.keepG K.g
theorem RVs.mono{h h':Heap}{ρ ρ':Rho}(K:KeepV h ρ h' ρ'):∀ (x:List V) (v:List Value),RVs h ρ x v->RVs h' ρ' x v:=RVs.keepG K.g
theorem RVs.length{h:Heap}{ρ:Rho}:∀ {x:List V} {v:List Value},RVs h ρ x v->v.length=x.length
 | [],_,e=>by delta RVs at e;rw[e];rfl
 | x::xs,vs,e=>by
  dsimp only[RVs] at e
  obtain ⟨v,r,rfl,h1,h2⟩:=e
  rw[List.length_cons,List.length_cons,RVs.length h2]
theorem RVs.get{h:Heap}{ρ:Rho}:∀ {x:List V} {v:List Value},RVs h ρ x v->∀ {i:Nat} {a:V},x[i]?=some a->∃ c,v[i]?=some c/\RV h ρ a c
 | [],_,_,i,a,q=>by exact nso q
 | x::xs,vs,e,i,a,q=>by
  dsimp only[RVs] at e
  obtain ⟨v,r,h_p⟩:=e;obtain rfl:=h_p.1;have h1:=h_p.2.1;have h2:=h_p.2.2
  cases i with
  | zero=>simp at q;subst q;exact⟨v,rfl,h1⟩
  | succ i=>exact RVs.get h2 (by simpa using q)
theorem RVs.append{h:Heap}{ρ:Rho}:∀ {x y:List V} {v u:List Value},RVs h ρ x v->RVs h ρ y u->RVs h ρ (x++y) (v++u)
 | [],_,_,_,e,q=>by delta RVs at e;exact(e)▸(q)
 | x::xs,y,vs,u,e,q=>by
  dsimp only[RVs] at e
  obtain ⟨v,r,rfl,h1,h2⟩:=e
  show RVs h ρ (x::(xs++y)) _
  dsimp only[RVs]
  exact pT v (r++u) rfl h1 (RVs.append h2 q)
theorem RVs.nil{h:Heap}{ρ:Rho}:RVs h ρ [] []:=by delta RVs;rfl
theorem RVs.cons{h:Heap}{ρ:Rho}{x:V}{xs:List V}{v:Value}{vs:List Value}(a:RV h ρ x v)(b:RVs h ρ xs vs):RVs h ρ (x::xs) (v::vs):=by
 dsimp only[RVs];exact pT v vs rfl a b
theorem RVs.cons_iff{h:Heap}{ρ:Rho}{x:V}{xs:List V}{vs:List Value}(e:RVs h ρ (x::xs) vs):∃ v r,vs=v::r/\RV h ρ x v/\RVs h ρ xs r:=by
 dsimp only[RVs] at e;exact e
theorem RVs.nil_iff{h:Heap}{ρ:Rho}{vs:List Value}(e:RVs h ρ [] vs):vs=[]:=by
 delta RVs at e;exact e
theorem RVs.drop{h:Heap}{ρ:Rho}:∀ (n:Nat) {x:List V} {v:List Value},RVs h ρ x v->RVs h ρ (x.drop n) (v.drop n)
 | 0,_,_,e=>e
 | n+1,[],vs,e=>by exact(RVs.nil_iff e)▸(RVs.nil)
 | n+1,x::xs,vs,e=>by
  obtain ⟨v,r,rfl,h1,h2⟩:=RVs.cons_iff e
  exact RVs.drop n h2
theorem RVs.take{h:Heap}{ρ:Rho}:∀ (n:Nat) {x:List V} {v:List Value},RVs h ρ x v->RVs h ρ (x.take n) (v.take n)
 | 0,_,_,e=>RVs.nil
 | n+1,[],vs,e=>by exact(RVs.nil_iff e)▸(RVs.nil)
 | n+1,x::xs,vs,e=>by
  obtain ⟨v,r,rfl,h1,h2⟩:=RVs.cons_iff e
  exact RVs.cons h1 (RVs.take n h2)
theorem RVs.filterMap_get{h:Heap}{ρ:Rho}{x:List V}{v:List Value}(e:RVs h ρ x v):∀ (is:List Nat),RVs h ρ (is.filterMap (x[·]?)) (is.filterMap (v[·]?))
 | []=>RVs.nil
 | i::is=>by
  rw[List.filterMap_cons,List.filterMap_cons]
  cases q:x[i]? with
  | none =>
   have:v[i]?=none:=by
    rw[List.getElem?_eq_none_iff] at q ⊢
    rw[RVs.length e];exact q
   rw[this];exact RVs.filterMap_get e is
  | some a =>
   refine a4 (RVs.get e q) λc h_p=>?_;have hc:=h_p.1;have hr:=h_p.2
   exact(hc)▸(RVs.cons hr (RVs.filterMap_get e is))
theorem RVs.mapGet{h:Heap}{ρ:Rho}{x:List V}{v:List Value}(hl:v.length=x.length)(H:∀ (i:Nat) (a:V),x[i]?=some a->∃ c,v[i]?=some c/\RV h ρ a c):RVs h ρ x v:=by
 induction x generalizing v with
 | nil=>rw[List.length_nil,List.length_eq_zero_iff] at hl;exact(hl)▸(RVs.nil)
 | cons x xs ih =>
  cases v with
  | nil=>simp at hl
  | cons v vs =>
   refine RVs.cons ?_ (ih (by simpa using hl) λi a q=>?_)
   ·refine aQ (H 0 x rfl) λc hc hr=>?_;simp at hc;subst hc;exact hr
   ·have:=H (i+1) a (by exact q);simpa using this
theorem RO.mono{G:Wd}{h h':Heap}{ρ ρ':Rho}{p:Addr×Addr}{o:AO}(K:KeepV h ρ h' ρ')(h1:∀ x,h.get? p.1=some x->h'.get? p.1=some x)
  (h2:∀ x,h.get? p.2=some x->h'.get? p.2=some x) (r:RO G h ρ p o):RO G h' ρ' p o:=by
 unfold RO at r ⊢
 have hl:=r.1;have r:=r.2
 refine⟨hl,?_⟩
 cases ha:o.acc with
 | none =>
  refine byQ λQ kQ=>?_
  replace r:=(ha)▸r
  obtain ⟨e,vs,⟨n,hx⟩,hr⟩:=r
  refine kQ ?_
  exact⟨e,vs,⟨n,h1 _ hx⟩,RVs.mono K _ _ hr⟩
 | some i =>
  refine byQ λQ kQ=>?_
  rw[ha] at r
  refine ht1 (r) λvs n m hx hr h_5 r2=>?_;refine zb (h_5) λx es ep hns r1=>?_
  refine kQ ?_
  exact mS1 vs n m (h1 _ hx) (RVs.mono K _ _ hr) ⟨x,es,ep,h2 x hns,r1⟩ r2
theorem RO.alive{G:Wd}{h:Heap}{ρ:Rho}{p:Addr×Addr}{o:AO}(r:RO G h ρ p o):h.get? p.1≠none/\h.get? p.2≠none:=by
 unfold RO at r
 refine gq (r) λhl r=>?_
 refine gp (o.acc) (λha=>?_) (λi ha=>?_)
 ·
  replace r:=(ha)▸r
  obtain ⟨e,vs,⟨n,hx⟩,hr⟩:=r
  rw[e,hx];exact⟨nofun,nofun⟩
 ·
  rw[ha] at r
  refine ht1 (r) λvs n m hx hr h_5 r2=>?_;refine zb (h_5) λx es ep hns r1=>?_
  rw[hx,hns];exact⟨nofun,nofun⟩
theorem Rel.alive{G:Wd}{σ:List AO}{ρ:Rho}{s:Shared}(R:Rel G σ ρ s){b:Addr}(h:¬ sL ρ b):s.heap.get? b≠none:=by
 unfold sL at h
 obtain ⟨p,hp,hb⟩:∃ p∈ρ.st,p.1=b\/p.2=b:=by
  apply Classical.byContradiction
  intro q
  exact h λp hp=>⟨λe=>q ⟨p,hp,.inl e⟩,λe=>q ⟨p,hp,.inr e⟩⟩
 obtain ⟨k,hk,rfl⟩:=List.mem_iff_getElem.mp hp
 have hk':k<σ.length:=R.len▸hk
 have:=(R.obj k ρ.st[k] σ[k] (List.getElem?_eq_getElem hk) (List.getElem?_eq_getElem hk')).alive
 rcases hb with rfl | rfl
 ·exact this.1
 ·exact this.2
theorem StepW.alive{G:Wd}{W:List Addr}{ρ ρ':Rho}{s s':Shared}{σ':List AO}(S:StepW G W ρ s ρ' s' σ'){b:Addr}(h:s.heap.get? b≠none):s'.heap.get? b≠none:=by
 by_cases hw:b∈W
 ·exact S.wal b hw h
 ·by_cases hl:b∈G.loose
  ·refine aQ (S.rel.lse b hl) λvs e etr=>?_
   rw[e];exact nofun
  ·by_cases ho:sL ρ b
   ·refine gp (s.heap.get? b) (λe=>?_) (λo e=>?_)
    ·exact absurd e h
    ·rw[S.keep b o e ho hw hl];exact nofun
   ·refine S.rel.alive λq=>ho λp hp=>q p ?_
    obtain ⟨new,rfl,_⟩:=S.ext
    exact List.mem_append_left _ hp
theorem StepW.off{G:Wd}{W:List Addr}{ρ ρ':Rho}{s s':Shared}{σ':List AO}(S:StepW G W ρ s ρ' s' σ'){b:Addr}(h:s.heap.get? b≠none)(ho:sL ρ b):sL ρ' b:=by
 obtain ⟨new,rfl,hf⟩:=S.ext
 intro p hp
 rcases List.mem_append.mp hp with hp | hp
 ·exact ho p hp
 ·exact⟨λe=>h (e▸(hf p hp).1),λe=>h (e▸(hf p hp).2)⟩
theorem StepW.trans{G:Wd}{W:List Addr}{ρ aa aC:Rho}{s au aG:Shared}{σ₁ σ₂:List AO}(S:StepW G W ρ s aa au σ₁)(T:StepW G W aa au aC aG σ₂):StepW G W ρ s aC aG σ₂ where
 rel:=T.rel
 ext:=by
  refine aQ (S.ext) λn1 e1 h1=>?_
  refine a4 (T.ext) λn2 h_p=>?_;have e2:=h_p.1;have h2:=h_p.2
  refine⟨n1++n2,by rw[e2,e1];simp [List.append_assoc],λp hp=>?_⟩
  refine Or.elim (List.mem_append.mp hp) (λhp=>?_) (λhp=>?_)
  ·exact h1 p hp
  ·constructor
   ·exact Classical.byContradiction λq=>S.alive q (h2 p hp).1
   ·exact Classical.byContradiction λq=>S.alive q (h2 p hp).2
 keep:=λb o e ho hw hl=>T.keep b o (S.keep b o e ho hw hl) (S.off (by rw[e];exact nofun) ho) hw hl
 wal:=λb hb h=>T.wal b hb (S.wal b hb h)
theorem StepW.weaken{G:Wd}{W W':List Addr}{ρ ρ':Rho}{s s':Shared}{σ':List AO}(S:StepW G W ρ s ρ' s' σ')(h:∀ b∈W,b∈W'):StepW G W' ρ s ρ' s' σ' where
 rel:=S.rel
 ext:=S.ext
 keep:=λb o e ho hw hl=>S.keep b o e ho (λq=>hw (h b q)) hl
 wal:=λb _ q=>S.alive q
noncomputable def WOk(W:List Addr)(h:Heap):Prop:=∀ b∈W,∃ o,h.get? b=some o/\¬ Solid o
theorem Solid.no_dict{o:Obj}{es ep}(h:o.data=.dict es ep):¬ Solid o:=λx=>x.2.1 _ _ h
theorem Solid.no_cell{o:Obj}{c}(h:o.data=.cell c):¬ Solid o:=λx=>x.2.2 _ h
theorem StepW.keepV{G:Wd}{W:List Addr}{ρ ρ':Rho}{s s':Shared}{σ σ':List AO}(R:Rel G σ ρ s)(hW:WOk W s.heap)(S:StepW G W ρ s ρ' s' σ'):KeepV s.heap ρ s'.heap ρ' where
 ext:=let ⟨new,e,h⟩:=S.ext;⟨new,by rw[e],h⟩
 hide:=λb hb=>by
  refine a4 (S.ext) λnew h_p=>?_;have e:=h_p.1
  rw[e] at hb;exact .inl hb
 keep:=λb o e ho hs=>by
  refine S.keep b o e ho.1 (λhb=>?_) λhb=>?_
  ·refine aQ (hW b hb) λo' e' hd=>?_
   rw[e] at e';obtain rfl:=siX e'
   exact hd hs
  ·refine aQ (R.lse b hb) λvs e' etr=>?_
   rw[e] at e';obtain rfl:=siX e'
   rcases hs.1 with h | h | h <;> cases h
theorem WOk.nil(h:Heap):WOk [] h:=λ_ h=>nomatch h
theorem Step.keepV{G:Wd}{ρ ρ':Rho}{s s':Shared}{σ σ':List AO}(R:Rel G σ ρ s)(S:Step G ρ s ρ' s' σ'):KeepV s.heap ρ s'.heap ρ':=StepW.keepV R (WOk.nil _) S
theorem Step.refl{G:Wd}{ρ:Rho}{s:Shared}{σ:List AO}(R:Rel G σ ρ s):Step G ρ s ρ s σ :=
 ⟨R,⟨[],by simp,λ_ h=>nomatch h⟩,λ_ _ e _ _ _=>e,λ_ h=>nomatch h⟩
theorem Step.grow{G:Wd}{ρ:Rho}{s s':Shared}{σ:List AO}(R:Rel G σ ρ s)(hk:∀ b o,s.heap.get? b=some o->s'.heap.get? b=some o)
  (hs:∃ h tk,s'={ s with heap:=h,toks:=tk }):Step G ρ s ρ s' σ:=by
 have K:KeepV s.heap ρ s'.heap ρ:=⟨⟨[],(List.append_nil _).symm,λ_ h=>nomatch h⟩,λ_ h=>.inl h,λb o e _ _=>hk b o e⟩
 refine⟨⟨R.len,R.inj,λk p o h1 h2=>(R.obj k p o h1 h2).mono K (hk _) (hk _),R.fresh,λb o hl e=>hk b o (R.keep b o hl e),λb hb=>?_,?_,?_,λb hb=>?_⟩,⟨[],by simp,λ_ h=>nomatch h⟩,λb o e _ _ _=>hk b o e,λ_ h=>nomatch h⟩
 ·refine a4 (R.lse b hb) λvs h_p=>?_;have e:=h_p.1;have etr:=h_p.2
  exact⟨vs,hk _ _ e,etr⟩
 ·refine byQ λQ kQ=>?_
  refine ei (R.same) λh tk gs e=>?_
  refine cC (hs) λh' tk' e'=>?_
  refine kQ ?_
  exact dy1 h' tk' gs (by rw[e',e])
 ·refine cC (hs) λh' tk' e'=>?_
  rw[e'];exact R.bare
 ·refine gp (s.heap.get? b) (λe=>?_) (λo e=>?_)
  ·exact absurd e (R.hidden b hb)
  ·exact(hk b o e)▸(nofun)
theorem Step.toks{G:Wd}{ρ:Rho}{s:Shared}{σ:List AO}(R:Rel G σ ρ s)(t:Nat):Step G ρ s ρ { s with toks:=t } σ:=Step.grow R (λ_ _ e=>e) ⟨_,_,rfl⟩
section
variable {G:Wd} {W:List Addr} {ρ ρ':Rho} {s s':Shared} {σ σ':List AO}
theorem eE1{h:Heap}{p:Addr×Addr}{o:AO}(r:RO G h ρ p o):∃ cls d vs n sl,h.get? p.1=some ⟨cls,d,.seq vs n,sl⟩:=by
 delta RO at r
 refine gp o.acc (λe=>?_) λi e=>?_ <;> (have r:=r.2;rw[e] at r)
 ·obtain ⟨_,vs,⟨n,hy⟩,_⟩:=r
  exact kh1 _ _ _ _ _ hy
 ·refine ei (r) λvs n m h_p=>?_;have hy:=h_p.1
  exact kh1 _ _ _ _ _ hy
theorem eD1{h:Heap}{p:Addr×Addr}{o:AO}(r:RO G h ρ p o):p.2=p.1\/∃ z es ep,h.get? p.2=some z/\z.data=.dict es ep:=by
 delta RO at r
 refine gp o.acc (λe=>?_) λi e=>?_ <;> (have r:=r.2;rw[e] at r)
 ·exact .inl r.1
 ·exact .inr (ht1 r λvs n m _ _ h _=>wp h λz es ep hz hd _=>⟨z,es,ep,hz,hd⟩)
theorem Step.write(R:Rel G σ ρ s){k:Nat}{p:Addr×Addr}{o o':AO}{h':Heap}{t:Nat}(hp:ρ.st[k]?=some p)(ho:σ[k]?=some o)
  (hsb:Heap.ExtBut p.1 s.heap h')
  (hro:KeepV s.heap ρ h' ρ->RO G h' ρ p o') :
  Step G ρ s ρ { s with heap:=h',toks:=t } (σ.set k o'):=by
 refine byQ λQ kQ=>?_
 have hmem:p∈ρ.st:=List.mem_of_getElem? hp
 have K:KeepV s.heap ρ h' ρ:=⟨⟨[],(List.append_nil _).symm,λ_ h=>nomatch h⟩,λ_ h=>.inl h,λb x e hoff _=>hsb b x (hoff.1 p hmem).1.symm e⟩
 have hk:k<σ.length:=(List.getElem?_eq_some_iff.mp ho).1
 refine lj1 (eE1 (R.obj k p o hp ho)) λcls d vs n sl hseq=>?_
 have notp:∀ {b x},s.heap.get? b=some x->(∀ us m,x.data≠.seq us m)->b≠p.1:=λe hd q=>hd vs n (siX ((q▸e).symm.trans hseq)▸rfl)
 refine kQ ?_
 refine⟨⟨by rw[List.length_set];exact R.len,R.inj,λj q x hq hx=>(Decidable.em (j=k)).elim (λhj=>?_) λhj=>?_,R.fresh,λb x hl e=>hsb b x (λe'=>nso ((R.fresh p hmem).1.symm.trans (e'▸e))) (R.keep b x hl e),λb hb=>aQ (R.lse b hb) λvs e etr=>⟨vs,hsb b _ (notp e nofun) e,etr⟩,
  ei R.same λh tk gs e=>dy1 h' t gs (by rw[e]),R.bare,λb hb=>(Decidable.em (b=p.1)).elim (λq=>q▸(hro K).alive.1) λq=>gp (s.heap.get? b) (λe=>absurd e (R.hidden b hb)) λx e e'=>son ((hsb b x q e).symm.trans e')⟩,
  ⟨[],by simp,λ_ h=>nomatch h⟩,λb x e hoff _ _=>hsb b x (hoff p hmem).1.symm e,λ_ h=>nomatch h⟩
 ·subst hj
  rw[List.getElem?_set_self hk] at hx
  exact siX hx▸siX (hp.symm.trans hq)▸hro K
 ·rw[List.getElem?_set_ne (Ne.symm hj)] at hx
  have r:=R.obj j q x hq hx
  have hne:q.1≠p.1:=λe=>hj (R.inj j k q p hq hp e)
  exact r.mono K (λy e=>hsb _ y hne e) λy e=>hsb _ y (λh2=>Or.elim (eD1 r) (λq'=>hne (q'.symm.trans h2)) λh=>zb h λz es ep hz hd=>notp hz (λus m q=>nomatch hd.symm.trans q) h2) e
theorem Step.add(R:Rel G σ ρ s)(hk:∀ b o,s.heap.get? b=some o->s'.heap.get? b=some o)(hs:∃ h tk,s'={ s with heap:=h,toks:=tk })
  {p:Addr×Addr} {o:AO} (hn1:s.heap.get? p.1=none) (hn2:s.heap.get? p.2=none)
  (hro:KeepV s.heap ρ s'.heap ⟨ρ.st++[p],ρ.hid⟩->RO G s'.heap ⟨ρ.st++[p],ρ.hid⟩ p o):Step G ρ s ⟨ρ.st++[p],ρ.hid⟩ s' (σ++[o]):=by
 have ext:∃ new,(⟨ρ.st++[p],ρ.hid⟩:Rho)=⟨ρ.st++new,ρ.hid⟩/\∀ q∈new,s.heap.get? q.1=none/\s.heap.get? q.2=none :=
  ⟨[p],rfl,λq hq=>by rw[List.mem_singleton.mp hq];exact⟨hn1,hn2⟩⟩
 have K:KeepV s.heap ρ s'.heap ⟨ρ.st++[p],ρ.hid⟩:=⟨⟨[p],rfl,λq hq=>by rw[List.mem_singleton.mp hq];exact⟨hn1,hn2⟩⟩,λ_ h=>.inl h,λb o e _ _=>hk b o e⟩
 have base:∀ b,s.heap.get? b=none->G.s₀.heap.get? b=none:=by
  intro b hb
  cases e:G.s₀.heap.get? b with
  | none=>rfl
  | some x =>
   by_cases hl:b∈G.loose
   ·refine aQ (R.lse _ hl) λvs e' etr=>?_
    rw[hb] at e';exact nso e'
   ·rw[R.keep _ _ hl e] at hb;exact son hb
 have S:=Step.grow R hk hs
 refine⟨⟨?_,λi j a b ha hb hab=>?_,λk q x hq hx=>?_,λq hq=>?_,S.rel.keep,S.rel.lse,S.rel.same,S.rel.bare,S.rel.hidden⟩,ext,λb o e _ _ _=>hk b o e,λ_ h=>nomatch h⟩
 ·show (ρ.st++[p]).length=_
  rw[List.length_append,List.length_append,R.len];rfl
 ·have old:∀ (i:Nat) (a:Addr×Addr),(ρ.st++[p])[i]?=some a->(ρ.st[i]?=some a/\s.heap.get? a.1≠none)\/(i=ρ.st.length/\a=p):=by
   intro i a ha
   by_cases hi:i<ρ.st.length
   ·replace ha:=(List.getElem?_append_left hi)▸ha
    refine .inl ⟨ha,?_⟩
    obtain ⟨x,hx⟩:∃ x,σ[i]?=some x:=⟨σ[i]'(R.len▸hi),List.getElem?_eq_getElem _⟩
    exact(R.obj i a x ha hx).alive.1
   ·replace ha:=(List.getElem?_append_right (Nat.le_of_not_lt hi))▸ha
    have:i - ρ.st.length=0:=by
     have:=(List.getElem?_eq_some_iff.mp ha).1
     simpa using this
    rw[this] at ha
    simp at ha
    exact .inr ⟨by omega,ha.symm⟩
  rcases old i a ha with ⟨h1,n1⟩ | ⟨h1,e1⟩ <;> rcases old j b hb with ⟨h2,n2⟩ | ⟨h2,e2⟩
  ·exact R.inj i j a b h1 h2 hab
  ·exact absurd (by rw[hab,e2];exact hn1) n1
  ·exact absurd (by rw[← hab,e1];exact hn1) n2
  ·rw[h1,h2]
 ·replace hq:(ρ.st++[p])[k]?=some q:=hq
  by_cases hi:k<ρ.st.length
  ·replace hq:=(List.getElem?_append_left hi)▸hq
   rw[List.getElem?_append_left (R.len▸hi)] at hx
   exact(R.obj k q x hq hx).mono K (hk _) (hk _)
  ·have hi':=Nat.le_of_not_lt hi
   replace hq:=(List.getElem?_append_right hi')▸hq
   rw[List.getElem?_append_right (R.len▸hi')] at hx
   have:k - ρ.st.length=0:=by
    have:=(List.getElem?_eq_some_iff.mp hq).1
    simpa using this
   rw[this] at hq
   rw[← R.len,this] at hx
   simp at hq hx
   subst hq hx
   exact hro K
 ·rcases List.mem_append.mp hq with hq | hq
  ·exact R.fresh q hq
  ·rw[List.mem_singleton.mp hq];exact⟨base _ hn1,base _ hn2⟩
theorem lh{D:Addr}{W:List Addr}{h':Heap}{t:Nat}(R:Rel G σ ρ s)(hW:D∈W)(hoff:sL ρ D)(hbase:G.s₀.heap.get? D=none)(hloose:D ∉ G.loose)(hk:∀ o,s.heap.get? D=some o->Off ρ D->¬ Solid o)(hs:Heap.ExtBut D s.heap h')(hal:h'.get? D≠none) :
  StepW G W ρ s ρ { s with heap:=h',toks:=t } σ/\KeepV s.heap ρ h' ρ :=
 have K:KeepV s.heap ρ h' ρ:=⟨⟨[],(List.append_nil _).symm,λ_ h=>nomatch h⟩,λ_ h=>.inl h,λb o e hb hsol=>hs b o (λq=>hk o (q▸e) (q▸hb) hsol) e⟩
 have al:∀ b,s.heap.get? b≠none->h'.get? b≠none:=λb hne=>(Decidable.em (b=D)).elim (λq=>q▸hal) λq=>gp (s.heap.get? b) (λe=>absurd e hne) λx e e'=>son ((hs b x q e).symm.trans e')
 ⟨⟨⟨R.len,R.inj,λj p o hp hx'=>have hp':=hoff p (List.mem_of_getElem? hp)
   (R.obj j p o hp hx').mono K (λy e=>hs _ y hp'.1 e) λy e=>hs _ y hp'.2 e,
  R.fresh,λb o hl e=>hs b o (λq=>nso (hbase.symm.trans (q▸e))) (R.keep b o hl e),λb hb=>aQ (R.lse b hb) λvs e etr=>⟨vs,hs b _ (λq=>hloose (q▸hb)) e,etr⟩,
  ei R.same λh tk gs e=>dy1 h' t gs (by rw[e]),R.bare,λb hb=>al b (R.hidden b hb)⟩,⟨[],by simp,λ_ h=>nomatch h⟩,λb o e _ hw _=>hs b o (λq=>hw (q▸hW)) e,λb hb hne=>al b hne⟩,K⟩
end
set_option genInjectivity false in
set_option genSizeOf false in
structure Var where
 name:Str
 slot:Nat
 own:Bool
deriving DecidableEq
set_option genInjectivity false in
set_option genSizeOf false in
structure Cx where
 vars:List Var
 scope:Scope
noncomputable abbrev ac:=List (Option V)
noncomputable def Cx.kind(C:Cx)(x:Str):Option NameKind:=C.scope.names.lookup x
noncomputable def Cx.ok(C:Cx):Bool :=
 (match C.scope.kind with | .function=>true | _=>false)&&C.vars.all λx=>(match C.kind x.name with | some .local=>true | some .cell=>true | _=>false)&&!(x.name==("__debug__":Str)) &&
  C.vars.all λy=>(x.name==y.name)==(x.slot==y.slot)
theorem Cx.ok_parts{C:Cx}(h:C.ok=true):C.scope.kind=.function/\∀ x∈C.vars,(C.kind x.name=some .local\/C.kind x.name=some .cell)/\(x.name==("__debug__":Str))=false /\
  ∀ y∈C.vars,(x.name=y.name↔x.slot=y.slot):=by
 unfold Cx.ok at h
 refine gq (Bool.and_eq_true_iff.mp h) λh1 h2=>?_
 refine⟨by revert h1;cases C.scope.kind <;> simp,λx hx=>?_⟩
 have:=List.all_eq_true.mp h2 x hx
 refine gq (Bool.and_eq_true_iff.mp this) λh3 h4=>?_
 have h_p:=Bool.and_eq_true_iff.mp h3;have h5:=h_p.1;have h6:=h_p.2
 refine⟨?_,by simpa using h6,λy hy=>?_⟩
 ·revert h5;cases C.kind x.name with
  | none=>simp
  | some k=>cases k <;> simp
 ·have:=List.all_eq_true.mp h4 y hy
  rw[beq_iff_eq] at this
  constructor
  ·intro e;rw[e,beq_self_eq_true] at this;exact beq_iff_eq.mp this.symm
  ·intro e;rw[e,beq_self_eq_true] at this;exact beq_iff_eq.mp this
structure RE (G:Wd) (C:Cx) (env:Env) (W:List Addr) (η:ac) (ρ:Rho) (s:Shared):Prop where
 ok:C.ok=true
 sc:env.scope=C.scope
 glob:env.globals=mainGlobals
 blt:env.builtins=builtinsNs
 lmem:env.locals∈W
 wok:∀ b∈W,Off ρ b/\G.s₀.heap.get? b=none/\b ∉ G.loose
 wk:WOk W s.heap
 loc:∃ m,s.heap.Ns env.locals m/\∀ x∈C.vars,C.kind x.name=some .local->∀ v,η[x.slot]?=some (some v)->∃ cv,m x.name=some cv/\RV s.heap ρ v cv
 cel:∀ x∈C.vars,C.kind x.name=some .cell->∃ c ov,env.cells.lookup x.name=some c/\s.heap.IsCell c ov/\(x.own=true->c∈W)/\Off ρ c /\
  ∀ v,η[x.slot]?=some (some v)->∃ cv,ov=some cv/\RV s.heap ρ v cv
 apart:∀ x∈C.vars,∀ y∈C.vars,C.kind x.name=some .cell->C.kind y.name=some .cell->∀ c,env.cells.lookup x.name=some c->env.cells.lookup y.name=some c->x.name=y.name
theorem cT{G:Wd}{σ:List AO}{ρ:Rho}{s:Shared}(R:Rel G σ ρ s){a:Addr}{o:Obj}{c}(h:s.heap.get? a=some o)(hd:o.data=.cell c):a ∉ G.loose:=by
 intro hb
 refine aQ (R.lse a hb) λvs e etr=>?_
 rw[h] at e;obtain rfl:=siX e;cases hd
theorem bL{h:Heap}{b:Addr}(hb:h.objs.size<=b):h.get? b=none:=gp (h.get? b) id λo e=>absurd (Heap.lt_size e) (Nat.not_lt.mpr hb)
theorem cM{G:Wd}{σ:List AO}{ρ:Rho}{s:Shared}(R:Rel G σ ρ s){b:Addr}(hn:s.heap.get? b=none):Off ρ b/\G.s₀.heap.get? b=none/\b ∉ G.loose :=
 have hl:b ∉ G.loose:=λh=>aQ (R.lse b h) λvs e _=>son (e.symm.trans hn)
 ⟨⟨Classical.byContradiction λh=>R.alive h hn,λh=>R.hidden b h hn⟩,gp (G.s₀.heap.get? b) id λo e=>son ((R.keep b o hl e).symm.trans hn),hl⟩
theorem RE.mono{G:Wd}{C:Cx}{env:Env}{W:List Addr}{η:ac}{σ σ':List AO}{ρ ρ':Rho}{s s':Shared}(E:RE G C env W η ρ s)(R:Rel G σ ρ s)(S:Step G ρ s ρ' s' σ'):RE G C env W η ρ' s':=by
 have K:=Step.keepV R S
 have keepW:∀ b∈W,∀ o,s.heap.get? b=some o->s'.heap.get? b=some o:=by
  intro b hb o e
  refine byQ λQ kQ=>?_
  refine aQ (E.wk b hb) λo' e' hd=>?_
  rw[e] at e';obtain rfl:=siX e'
  refine kQ ?_
  exact S.keep b o e (E.wok b hb).1.1 (λh=>nomatch h) (E.wok b hb).2.2
 refine⟨E.ok,E.sc,E.glob,E.blt,E.lmem,λb hb=>⟨?_,(E.wok b hb).2⟩,λb hb=>?_,?_,λx hx hk=>?_,E.apart⟩
 ·refine aQ (E.wk b hb) λo' e' hd=>?_
  exact K.off (by rw[e'];exact nofun) (E.wok b hb).1
 ·refine aQ (E.wk b hb) λo' e' hd=>?_
  exact⟨o',keepW b hb _ e',hd⟩
 ·refine byQ λQ kQ=>?_
  refine aQ (E.loc) λm h_1 h=>?_;refine zb (h_1) λo es ep ho r=>?_
  refine kQ ?_
  refine⟨m,⟨o,es,ep,keepW _ E.lmem _ ho,r⟩,λx hx hk v hv=>?_⟩
  refine a4 (h x hx hk v hv) λcv h_p=>?_;have h1:=h_p.1;have h2:=h_p.2
  exact⟨cv,h1,RV.mono K _ _ h2⟩
 ·refine byQ λQ kQ=>?_
  refine bV1 (E.cel x hx hk) λc ov h1 h_3 h3 h4 h5=>?_;refine aQ (h_3) λo ho hd=>?_
  refine kQ ?_
  refine ax1 c ov h1 ⟨o,S.keep c o ho h4.1 (λh=>nomatch h) (cT R ho hd),hd⟩ h3 (K.off (by rw[ho];exact nofun) h4) (λv hv=>?_)
  refine a4 (h5 v hv) λcv h_p=>?_;have e1:=h_p.1;have e2:=h_p.2
  exact⟨cv,e1,RV.mono K _ _ e2⟩
section
variable {G:Wd} {A:Around} {C:Cx} {env:Env} {W:List Addr} {η:ac} {σ σ' σ₁ σ₂ aq:List AO} {ρ ρ':Rho} {s s':Shared}
noncomputable abbrev No:Value->Shared->Prop:=λ_ _=>False
inductive PE (G:Wd) (ρ:Rho) (s:Shared) (σ':List AO) (v:V) (cv:Value) (s':Shared):Prop
 | mk (ρ':Rho) (S:Step G ρ s ρ' s' σ') (r:RV s'.heap ρ' v cv)
inductive PT (G:Wd) (ρ:Rho) (s:Shared) (σ':List AO) (b t:Bool) (s':Shared):Prop
 | mk (h:t=b) (ρ':Rho) (S:Step G ρ s ρ' s' σ')
inductive PEs (G:Wd) (ρ:Rho) (s:Shared) (σ':List AO) (vs:List V) (cvs:List Value) (s':Shared):Prop
 | mk (ρ':Rho) (S:Step G ρ s ρ' s' σ') (r:RVs s'.heap ρ' vs cvs)
noncomputable def Ev(G:Wd)(A:Around)(C:Cx)(env:Env)(W:List Addr)(e:Expr)(σ:List AO)(η:ac)(v:V)(σ':List AO):Prop :=
 ∀ ρ s,Rel G σ ρ s->RE G C env W η ρ s->0<s.toks->wpAny (model G.prog G.w) A (eval e env) (PE G ρ s σ' v) No s
noncomputable def Et(G:Wd)(A:Around)(C:Cx)(env:Env)(W:List Addr)(e:Expr)(σ:List AO)(η:ac)(b:Bool)(σ':List AO):Prop :=
 ∀ ρ s,Rel G σ ρ s->RE G C env W η ρ s->0<s.toks->wpAny (model G.prog G.w) A (isTrue e env (eval e env)) (PT G ρ s σ' b) No s
noncomputable def Evs(G:Wd)(A:Around)(C:Cx)(env:Env)(W:List Addr)(es:List Expr)(σ:List AO)(η:ac)(vs:List V)(σ':List AO):Prop :=
 ∀ ρ s,Rel G σ ρ s->RE G C env W η ρ s->0<s.toks->∀ pos:Pos,wpAny (model G.prog G.w) A (spliced (backTo pos (starEach es env))) (PEs G ρ s σ' vs) No s
noncomputable def On(G:Wd)(A:Around)(f:List Value->Sem Value)(σ:List AO)(vs:List V)(v:V)(σ':List AO):Prop :=
 ∀ ρ s cvs,Rel G σ ρ s->RVs s.heap ρ vs cvs->0<s.toks->wpAny (model G.prog G.w) A (f cvs) (PE G ρ s σ' v) No s
theorem eo{α:Type}{M:Model}{t:Sem α}{P Q:α->Shared->Prop}{E:Value->Shared->Prop}(h:wpAny M A t P No s)(k:∀ a s',s.toks<=s'.toks->P a s'->Q a s'):wpAny M A t Q E s :=
 wpAny_with_toks (Nat.le_refl _) (wpAny_mono h (λa s' p ht=>k a s' ht p) λ_ _ f=>f.elim)
theorem Ev.use{e:Expr}{v:V}{Q:Value->Shared->Prop}{E:Value->Shared->Prop}(H:Ev G A C env W e σ η v σ')(R:Rel G σ ρ s)(N:RE G C env W η ρ s)(ht:0<s.toks)
  (k:∀ cv s' ρ',Step G ρ s ρ' s' σ'->RE G C env W η ρ' s'->0<s'.toks->RV s'.heap ρ' v cv->Q cv s'):wpAny (model G.prog G.w) A (eval e env) Q E s :=
 eo (H ρ s R N ht) (by rintro cv s' hle ⟨ρ',S,r⟩;exact k cv s' ρ' S (N.mono R S) (Nat.lt_of_lt_of_le ht hle) r)
theorem Et.use{e:Expr}{b:Bool}{Q:Bool->Shared->Prop}{E:Value->Shared->Prop}(H:Et G A C env W e σ η b σ')(R:Rel G σ ρ s)(N:RE G C env W η ρ s)(ht:0<s.toks)
  (k:∀ s' ρ',Step G ρ s ρ' s' σ'->RE G C env W η ρ' s'->0<s'.toks->Q b s'):wpAny (model G.prog G.w) A (isTrue e env (eval e env)) Q E s :=
 eo (H ρ s R N ht) (by rintro t s' hle ⟨hb,ρ',S⟩;exact hb▸k s' ρ' S (N.mono R S) (Nat.lt_of_lt_of_le ht hle))
theorem Evs.use{es:List Expr}{vs:List V}{Q:List Value->Shared->Prop}{E:Value->Shared->Prop}(H:Evs G A C env W es σ η vs σ')(R:Rel G σ ρ s)(N:RE G C env W η ρ s)(ht:0<s.toks)(pos:Pos)
  (k:∀ cvs s' ρ',Step G ρ s ρ' s' σ'->RE G C env W η ρ' s'->0<s'.toks->RVs s'.heap ρ' vs cvs->Q cvs s'):wpAny (model G.prog G.w) A (spliced (backTo pos (starEach es env))) Q E s :=
 eo (H ρ s R N ht pos) (by rintro cv s' hle ⟨ρ',S,r⟩;exact k cv s' ρ' S (N.mono R S) (Nat.lt_of_lt_of_le ht hle) r)
theorem On.use{f:List Value->Sem Value}{vs:List V}{v:V}{cvs:List Value}{Q:Value->Shared->Prop}{E:Value->Shared->Prop}(H:On G A f σ vs v σ')(R:Rel G σ ρ s)(r:RVs s.heap ρ vs cvs)(ht:0<s.toks)
  (k:∀ cv s' ρ',Step G ρ s ρ' s' σ'->0<s'.toks->RV s'.heap ρ' v cv->Q cv s'):wpAny (model G.prog G.w) A (f cvs) Q E s :=
 eo (H ρ s cvs R r ht) (by rintro cv s' hle ⟨ρ',S,r⟩;exact k cv s' ρ' S (Nat.lt_of_lt_of_le ht hle) r)
theorem RE.load(R:Rel G σ ρ s)(N:RE G C env W η ρ s){x:Var}{v:V}(hx:x∈C.vars)(hv:η[x.slot]?=some (some v)){Q:Value->Shared->Prop}{E:Value->Shared->Prop}
  (k:∀ cv,RV s.heap ρ v cv->Q cv s):wpAny (model G.prog G.w) A (loadName env x.name) Q E s:=by
 refine gq (Cx.ok_parts N.ok) λhf hvars=>?_
 have hk:env.scope.kind=.function:=by rw[N.sc];exact hf
 rcases (hvars x hx).1 with h | h
 ·refine byQ λQ kQ=>?_
  refine aQ (N.loc) λm hn hm=>?_
  refine aQ (hm x hx h v hv) λcv h1 h2=>?_
  refine kQ ?_
  exact wpAny_loadName_local hk (by unfold Env.kindOf;rw[N.sc];exact h) hn h1 (k cv h2)
 ·refine byQ λQ kQ=>?_
  refine cC (N.cel x hx h) λc ov h_p=>?_;have h1:=h_p.1;have h2:=h_p.2.1;have h5:=h_p.2.2.2.2
  refine a4 (h5 v hv) λcv h_p=>?_;obtain rfl:=h_p.1;have h6:=h_p.2
  refine kQ ?_
  exact wpAny_loadName_cell hk (by unfold Env.kindOf;rw[N.sc];exact h) h1 h2 (k cv h6)
theorem RE.put(R:Rel G σ ρ s)(N:RE G C env W η ρ s){a:Addr}{h':Heap}{t:Nat}(ha:a∈W)(hs:Heap.SameBut a s.heap h')(hnew:∃ o,h'.get? a=some o/\¬ Solid o):StepW G W ρ s ρ { s with heap:=h',toks:=t } σ/\KeepV s.heap ρ h' ρ/\WOk W h' :=
 have q:=lh (t:=t) R ha (N.wok a ha).1.1 (N.wok a ha).2.1 (N.wok a ha).2.2 (λo e _=>aQ (N.wk a ha) λoa h1 h2=>siX (h1.symm.trans e)▸h2) hs.extBut (aQ hnew λo e _ e'=>son (e.symm.trans e'))
 ⟨q.1,q.2,λb hb=>(Decidable.em (b=a)).elim (λq=>q▸hnew) λq=>(hs.2 b q)▸N.wk b hb⟩
theorem r7{x y:Str}{a b:NameKind}(h1:C.kind y=some a)(h2:C.kind x=some b)(hab:a≠b):y≠x:=λe=>hab (siX ((e▸h1).symm.trans h2))
theorem vJ{i:Nat}{u v:V}(h:(η.set i (some v))[i]?=some (some u)):u=v:=by
 rw[List.getElem?_set_self'] at h
 exact aQ (Option.map_eq_some_iff.mp h) λ_ _ e=>(siX e).symm
theorem lw{x y:Var}{u v:V}(hxy:x.name=y.name↔x.slot=y.slot)(ne:y.name≠x.name)(h:(η.set x.slot (some v))[y.slot]?=some (some u)):η[y.slot]?=some (some u) :=
 (List.getElem?_set_ne λe=>ne (hxy.mpr e).symm).symm.trans h
theorem nv{m:Str->Option Value}{c:Addr}{ov:Option Value}{L:Addr}{h:Heap}(hn:h.Ns L m)(hc:h.IsCell c ov):c≠L:=λe=>aQ hc λo ho hd=>wp hn λo' es ep ho' hd' _ =>
 nomatch hd.symm.trans ((congrArg Obj.data (siX (ho.symm.trans (e.symm▸ho')))).trans hd')
theorem RE.storeL(R:Rel G σ ρ s)(N:RE G C env W η ρ s){x:Var}{v:V}{cv:Value}(hx:x∈C.vars)(h:C.kind x.name=some .local)(hr:RV s.heap ρ v cv){Q:Unit->Shared->Prop}{E:Value->Shared->Prop}
  (k:∀ s',StepW G W ρ s ρ s' σ->RE G C env W (η.set x.slot (some v)) ρ s'->Q () s'):wpAny (model G.prog G.w) A (storeName env x.name cv) Q E s:=by
 refine gq (Cx.ok_parts N.ok) λhf hvars=>aQ N.loc λm hn hm=>?_
 refine wpAny_storeName_local (by unfold Env.kindOf;rw[N.sc];exact h) hn (λh' hn' hs=>?_) (by rw[N.sc,hf];rfl)
 refine fk1 (N.put (t:=s.toks+1) R N.lmem hs (wp hn' λo es ep ho hd _=>⟨o,ho,Solid.no_dict hd⟩)) λS K hwk=>?_
 refine k _ S ⟨N.ok,N.sc,N.glob,N.blt,N.lmem,N.wok,hwk,⟨_,hn',λy hy hyk u hu=>(Decidable.em (y.name=x.name)).elim (λe=>?_) λe=>?_⟩,λy hy hyk=>bV1 (N.cel y hy hyk) λc ov h1 h2 h3 h4 h5=>?_,N.apart⟩
 ·have hs:=((hvars x hx).2.2 y hy).mp e.symm
  have hu':=vJ (i:=y.slot) (v:=v) (hs▸hu)
  rw[hu',if_pos e]
  exact⟨cv,rfl,RV.mono K _ _ hr⟩
 ·refine(if_neg e)▸?_
  exact aQ (hm y hy hyk u (lw ((hvars x hx).2.2 y hy) e hu)) λcv' h1 h2=>⟨cv',h1,RV.mono K _ _ h2⟩
 ·exact ax1 c ov h1 (h2.sameBut hs (nv hn h2)) h3 h4 λu hu=>aQ (h5 u (lw ((hvars x hx).2.2 y hy) (r7 hyk h nofun) hu)) λcv' e1 e2=>⟨cv',e1,RV.mono K _ _ e2⟩
theorem RE.storeC(R:Rel G σ ρ s)(N:RE G C env W η ρ s){x:Var}{v:V}{cv:Value}(hx:x∈C.vars)(ho:x.own=true)(h:C.kind x.name=some .cell)(hr:RV s.heap ρ v cv){Q:Unit->Shared->Prop}{E:Value->Shared->Prop}
  (k:∀ s',StepW G W ρ s ρ s' σ->RE G C env W (η.set x.slot (some v)) ρ s'->Q () s'):wpAny (model G.prog G.w) A (storeName env x.name cv) Q E s:=by
 refine gq (Cx.ok_parts N.ok) λhf hvars=>aQ N.loc λm hn hm=>bV1 (N.cel x hx h) λc ov h1 h2 h3 h4 h5=>?_
 refine wpAny_storeName_cell (by rw[N.sc];exact hf) (by unfold Env.kindOf;rw[N.sc];exact h) h1 h2 λh' hc' hs=>?_
 refine fk1 (N.put (t:=s.toks) R (h3 ho) hs (aQ hc' λo ho hd=>⟨o,ho,Solid.no_cell hd⟩)) λS K hwk=>?_
 refine k _ S ⟨N.ok,N.sc,N.glob,N.blt,N.lmem,N.wok,hwk,⟨m,hn.sameBut hs (nv hn h2).symm,λy hy hyk u hu=>?_⟩,λy hy hyk=>(Decidable.em (y.name=x.name)).elim (λe=>?_) λe=>bV1 (N.cel y hy hyk) λc' ov' g1 g2 g3 g4 g5=>?_,N.apart⟩
 ·exact aQ (hm y hy hyk u (lw ((hvars x hx).2.2 y hy) (r7 hyk h nofun) hu)) λcv' e1 e2=>⟨cv',e1,RV.mono K _ _ e2⟩
 ·refine ax1 c (some cv) (e▸h1) hc' (λ_=>h3 ho) h4 λu hu=>⟨cv,rfl,?_⟩
  have hs:=((hvars x hx).2.2 y hy).mp e.symm
  have hu':u=v:=vJ (i:=y.slot) (hs▸hu)
  rw[hu']
  exact RV.mono K _ _ hr
 ·exact ax1 c' ov' g1 (g2.sameBut hs λq=>e (N.apart y hy x hx hyk h c (q▸g1) h1)) g3 g4 λu hu=>aQ (g5 u (lw ((hvars x hx).2.2 y hy) e hu)) λcv' e1 e2=>⟨cv',e1,RV.mono K _ _ e2⟩
theorem RE.store(R:Rel G σ ρ s)(N:RE G C env W η ρ s){x:Var}{v:V}{cv:Value}(hx:x∈C.vars)(ho:x.own=true)(hr:RV s.heap ρ v cv){Q:Unit->Shared->Prop}{E:Value->Shared->Prop}
  (k:∀ s',StepW G W ρ s ρ s' σ->RE G C env W (η.set x.slot (some v)) ρ s'->Q () s'):wpAny (model G.prog G.w) A (storeName env x.name cv) Q E s :=
 Or.elim ((Cx.ok_parts N.ok).2 x hx).1 (λh=>N.storeL R hx h hr k) λh=>N.storeC R hx ho h hr k
theorem RV.none_{h:Heap}{ρ:Rho}:RV h ρ .none .none:=by delta RV;rfl
theorem RV.bool_{h:Heap}{ρ:Rho}{b:Bool}:RV h ρ (.bool b) (.bool b):=by delta RV;rfl
theorem RV.int_{h:Heap}{ρ:Rho}{i:Int}{t:Tok}:RV h ρ (.int i) (.int i t):=by delta RV;exact⟨t,rfl⟩
theorem RV.str_{h:Heap}{ρ:Rho}{l:List Nat}{t:Tok}(hl:l.length<=lim):RV h ρ (.str l) (.str ⟨l.toArray⟩ t):=by delta RV;exact⟨hl,t,rfl⟩
theorem RV.str'{h:Heap}{ρ:Rho}{l:List Nat}{x:Str}{t:Tok}(hl:l.length<=lim)(e:x.cps.toList=l):RV h ρ (.str l) (.str x t):=by
 delta RV;refine⟨hl,t,?_⟩;rw[← e]
theorem RV.bool_iff{h:Heap}{ρ:Rho}{b:Bool}{v:Value}(r:RV h ρ (.bool b) v):v=.bool b:=by delta RV at r;exact r
theorem RV.none_iff{h:Heap}{ρ:Rho}{v:Value}(r:RV h ρ .none v):v=.none:=by delta RV at r;exact r
theorem RV.int_iff{h:Heap}{ρ:Rho}{i:Int}{v:Value}(r:RV h ρ (.int i) v):∃ t,v=.int i t:=by delta RV at r;exact r
theorem RV.str_iff{h:Heap}{ρ:Rho}{l:List Nat}{v:Value}(r:RV h ρ (.str l) v):l.length<=lim/\∃ t,v=.str ⟨l.toArray⟩ t:=by delta RV at r;exact r
theorem RV.tup_iff{h:Heap}{ρ:Rho}{l:List V}{v:Value}(r:RV h ρ (.tup l) v):l.length<=lim/\∃ a vs,v=.ref a/\Off ρ a/\PlainTuple h a vs/\RVs h ρ l vs.toList:=by dsimp only[RV] at r;exact r
theorem RV.lst_iff{h:Heap}{ρ:Rho}{l:List V}{v:Value}(r:RV h ρ (.lst l) v):l.length<=lim/\∃ a vs,v=.ref a/\Off ρ a/\h.PlainList a vs/\RVs h ρ l vs.toList:=by dsimp only[RV] at r;exact r
theorem RV.raw_iff{h:Heap}{ρ:Rho}{l:List V}{v:Value}(r:RV h ρ (.raw l) v):l.length<=lim/\∃ a vs,v=.ref a/\Off ρ a/\h.IsList a vs/\RVs h ρ l vs.toList:=by dsimp only[RV] at r;exact r
theorem RV.rng_iff{h:Heap}{ρ:Rho}{a b c:Int}{v:Value}(r:RV h ρ (.rng a b c) v):iQ a b c=true/\∃ r t u w,v=.ref r/\Off ρ r/\IsRange h r a b c t u w:=by delta RV at r;exact r
theorem RV.ref_iff{h:Heap}{ρ:Rho}{k:Nat}{v:Value}(r:RV h ρ (.ref k) v):∃ p,ρ.st[k]?=some p/\v=.ref p.1:=by delta RV at r;exact r
theorem tT(R:Rel G σ ρ s):sL ρ s.heap.objs.size:=by
 intro p hp
 have al:∀ b,s.heap.get? b≠none->b≠s.heap.objs.size:=by
  intro b hb e
  refine gp (s.heap.get? b) (λq=>?_) (λo q=>?_)
  ·exact hb q
  ·exact absurd (Heap.lt_size q) (by exact(e)▸(Nat.lt_irrefl _))
 obtain ⟨k,hk,rfl⟩:=List.mem_iff_getElem.mp hp
 have hk':k<σ.length:=R.len▸hk
 have:=(R.obj k ρ.st[k] σ[k] (List.getElem?_eq_getElem hk) (List.getElem?_eq_getElem hk')).alive
 exact⟨al _ this.1,al _ this.2⟩
theorem aN(h:Heap):h.get? h.objs.size=none:=by
 cases q:h.get? h.objs.size with
 | none=>rfl
 | some o=>exact absurd (Heap.lt_size q) (Nat.lt_irrefl _)
theorem RVs.sameHeap{h h':Heap}{ρ:Rho}{l:List V}{vs:List Value}(hk:∀ b o,h.get? b=some o->h'.get? b=some o)(r:RVs h ρ l vs):RVs h' ρ l vs :=
 RVs.mono ⟨⟨[],(List.append_nil _).symm,λ_ h=>nomatch h⟩,λ_ h=>.inl h,λb o e _ _=>hk b o e⟩ _ _ r
theorem bM(R:Rel G σ ρ s):Off ρ s.heap.objs.size:=⟨tT R,λh=>R.hidden _ h (aN _)⟩
theorem tw{vs:List Value}{l:List V}(R:Rel G σ ρ s)(r:RVs s.heap ρ l vs)(hl:l.length<=lim){Q:Value->Shared->Prop}{E:Value->Shared->Prop}{M:Model}
  (k:∀ cv s',PE G ρ s σ (.tup l) cv s'->Q cv s'):wpAny M A (newTuple vs) Q E s:=by
 have hlen:vs.length=l.length:=RVs.length r
 refine wpAny_newTuple (k _ _ ⟨ρ,Step.grow R (λb o e=>Heap.get?_push_of_some _ e) ⟨_,_,rfl⟩,?_⟩) (by exact(hlen)▸(Nat.le_trans hl (by decide)))
 dsimp only[RV]
 exact⟨hl,_,_,rfl,bM R,⟨_,Heap.get?_push_size _ rfl⟩,RVs.sameHeap (λb o e=>Heap.get?_push_of_some _ e) (by exact r)⟩
theorem wO{vs:List Value}{l:List V}(R:Rel G σ ρ s)(r:RVs s.heap ρ l vs)(hl:l.length<=lim){Q:Value->Shared->Prop}{E:Value->Shared->Prop}{M:Model}
  (k:∀ cv s',PE G ρ s σ (.lst l) cv s'->Q cv s'):wpAny M A (newList vs) Q E s:=by
 have hlen:vs.length=l.length:=RVs.length r
 refine wpAny_newList (k _ _ ⟨ρ,Step.grow R (λb o e=>Heap.get?_push_of_some _ e) ⟨_,_,rfl⟩,?_⟩) (by exact(hlen)▸(Nat.le_trans hl (by decide)))
 dsimp only[RV]
 exact⟨hl,_,_,rfl,bM R,⟨_,Heap.get?_push_size _ rfl⟩,RVs.sameHeap (λb o e=>Heap.get?_push_of_some _ e) (by exact r)⟩
theorem zq{vs:List Value}{l:List V}(R:Rel G σ ρ s)(r:RVs s.heap ρ l vs)(hl:l.length<=lim){Q:Value->Shared->Prop}{E:Value->Shared->Prop}{M:Model}
  (k:∀ cv s',PE G ρ s (σ++[⟨l,none⟩]) (.ref σ.length) cv s'->Q cv s'):wpAny M A (newList vs) Q E s:=by
 have hlen:vs.length=l.length:=RVs.length r
 refine wpAny_newList (k _ _ ⟨⟨ρ.st++[(s.heap.objs.size,s.heap.objs.size)],ρ.hid⟩,Step.add R (λb o e=>Heap.get?_push_of_some _ e) ⟨_,_,rfl⟩ (aN _) (aN _) λK=>?_,?_⟩) (by exact(hlen)▸(Nat.le_trans hl (by decide)))
 ·dsimp only[RO]
  exact⟨hl,rfl,_,⟨_,Heap.get?_push_size _ rfl⟩,RVs.mono K _ _ (by exact r)⟩
 ·delta RV
  exact⟨(s.heap.objs.size,s.heap.objs.size),by rw[← R.len];simp,rfl⟩
theorem Ev.none_{k pos}:Ev G A C env W (.Constant .none k pos) σ η .none σ:=λρ s R N ht=>Constant_none ⟨ρ,Step.refl R,RV.none_⟩
theorem Ev.bool_{b k pos}:Ev G A C env W (.Constant (.bool b) k pos) σ η (.bool b) σ:=λρ s R N ht=>Constant_bool ⟨ρ,Step.refl R,RV.bool_⟩
theorem Ev.int_{i k pos}:Ev G A C env W (.Constant (.int i) k pos) σ η (.int i) σ:=λρ s R N ht=>wpAny_Constant_int ⟨ρ,Step.toks R _,RV.int_⟩
theorem Ev.str_{x:Str}{k pos}(hl:x.cps.toList.length<=lim):Ev G A C env W (.Constant (.str x) k pos) σ η (.str x.cps.toList) σ:=λρ s R N ht=>Constant_str ⟨ρ,Step.toks R _,RV.str' hl rfl⟩
theorem Ev.loc{x:Var}{pos:Pos}{v:V}(hx:x∈C.vars)(hv:η[x.slot]?=some (some v)):Ev G A C env W (.Name x.name pos) σ η v σ:=λρ s R N ht =>
 wpAny_Name (RE.load R N hx hv λcv r=>⟨ρ,Step.refl R,r⟩) ((Cx.ok_parts N.ok).2 x hx).2.1
theorem Ev.bin{l r:Expr}{op:Operator}{pos:Pos}{v₁ v₂ v:V}(dJ:Ev G A C env W l σ η v₁ σ₁)(cV:Ev G A C env W r σ₁ η v₂ σ₂)
  (ho:On G A (fun | [a,b]=>binaryOp op a b | _=>pure .none) σ₂ [v₁,v₂] v aq):Ev G A C env W (.BinOp l op r pos) σ η v aq:=λρ s R N ht =>
 wpAny_BinOp (dJ.use R N ht λbz au aa am aR aS aA=>cV.use am.rel aR aS λb7 aG aC aB cn c0 aL =>
  ho.use aB.rel (RVs.cons (RV.mono (Step.keepV am.rel aB) _ _ aA) (RVs.cons aL RVs.nil)) c0 λcv d9 bA bP ka gn=>⟨bA,am.trans (aB.trans bP),gn⟩)
theorem Ev.cmp{l r:Expr}{op:CmpOp}{pos:Pos}{v₁ v₂ v:V}(hm:behindInMarks op r=false)(dJ:Ev G A C env W l σ η v₁ σ₁)(cV:Ev G A C env W r σ₁ η v₂ σ₂)
  (ho:On G A (fun | [a,b]=>compareOp op a b | _=>pure .none) σ₂ [v₁,v₂] v aq):Ev G A C env W (.Compare l [op] [r] pos) σ η v aq:=λρ s R N ht =>
 wpAny_Compare1 (dJ.use R N ht λbz au aa am aR aS aA=>cV.use am.rel aR aS λb7 aG aC aB cn c0 aL =>
  ho.use aB.rel (RVs.cons (RV.mono (Step.keepV am.rel aB) _ _ aA) (RVs.cons aL RVs.nil)) c0 λcv d9 bA bP ka gn=>⟨bA,am.trans (aB.trans bP),gn⟩) hm
theorem Et.cmp{l r:Expr}{op:CmpOp}{pos:Pos}{v₁ v₂:V}{b:Bool}(hm:behindInMarks op r=false)(dJ:Ev G A C env W l σ η v₁ σ₁)(cV:Ev G A C env W r σ₁ η v₂ σ₂)
  (ho:On G A (fun | [a,b]=>compareOp op a b | _=>pure .none) σ₂ [v₁,v₂] (.bool b) aq):Et G A C env W (.Compare l [op] [r] pos) σ η b aq:=λρ s R N ht =>
 wpAny_isTrue_Compare1 (dJ.use R N ht λbz au aa am aR aS aA=>cV.use am.rel aR aS λb7 aG aC aB cn c0 aL =>
  ho.use aB.rel (RVs.cons (RV.mono (Step.keepV am.rel aB) _ _ aA) (RVs.cons aL RVs.nil)) c0 λcv d9 bA bP ka gn=>by
   rw[RV.bool_iff gn];exact wpAny_truthy_bool ⟨rfl,bA,am.trans (aB.trans bP)⟩) hm
theorem Ev.chain{l aA aL:Expr}{b8 bY:CmpOp}{pos:Pos}{v₁ v₂ v₃ v:V}{b:Bool}{σ₄ bQ:List AO}(hm:lastMarks [b8,bY] [aA,aL]=false)(dJ:Ev G A C env W l σ η v₁ σ₁)(cV:Ev G A C env W aA σ₁ η v₂ σ₂)
  (ho:On G A (fun | [a,b]=>compareOp b8 a b | _=>pure .none) σ₂ [v₁,v₂] (.bool b) aq)
  (hH:b=true->Ev G A C env W aL aq η v₃ σ₄) (cA1:b=true->On G A (fun | [a,b]=>compareOp bY a b | _=>pure .none) σ₄ [v₂,v₃] v bQ) (hf:b=false->v=.bool false/\bQ=aq) :
  Ev G A C env W (.Compare l [b8,bY] [aA,aL] pos) σ η v bQ:=λρ s R N ht =>
 Compare_chain (dJ.use R N ht λbz au aa am aR aS aA=>chain_link (cV.use am.rel aR aS λb7 aG aC aB cn c0 aL =>
  ho.use aB.rel (RVs.cons (RV.mono (Step.keepV am.rel aB) _ _ aA) (RVs.cons aL RVs.nil)) c0 λcv d9 bA bP ka gn=>by
   refine(RV.bool_iff gn)▸?_
   refine wpAny_truthy_bool ?_
   cases b with
   | false =>
    obtain ⟨e1,e2⟩:=hf rfl
    rw[e1,e2]
    exact⟨bA,am.trans (aB.trans bP),RV.bool_⟩
   | true =>
    show wpAny _ _ (compareChain pos b7 [bY] [eval _ env]) _ _ _
    delta compareChain
    refine wpAny_bind (wpAny_holding ?_)
    refine(hH rfl).use bP.rel (cn.mono aB.rel bP) ka λxF k9 iD jD mH ai1 yM=>?_
    refine wpAny_bind (wpAny_standAt (wpAny_operating ?_))
    exact(cA1 rfl).use jD.rel (RVs.cons (RV.mono (Step.keepV bP.rel jD) _ _ (RV.mono (Step.keepV aB.rel bP) _ _ aL)) (RVs.cons yM RVs.nil)) ai1 λcv oR fP fN yj yL =>
     ⟨fP,am.trans (aB.trans (bP.trans (jD.trans fN))),yL⟩)) hm
theorem Et.chain{l aA aL:Expr}{b8 bY:CmpOp}{pos:Pos}{v₁ v₂ v₃:V}{b d:Bool}{σ₄ bQ:List AO}(hm:lastMarks [b8,bY] [aA,aL]=false)(dJ:Ev G A C env W l σ η v₁ σ₁)(cV:Ev G A C env W aA σ₁ η v₂ σ₂)
  (ho:On G A (fun | [a,b]=>compareOp b8 a b | _=>pure .none) σ₂ [v₁,v₂] (.bool b) aq)
  (hH:b=true->Ev G A C env W aL aq η v₃ σ₄) (cA1:b=true->On G A (fun | [a,b]=>compareOp bY a b | _=>pure .none) σ₄ [v₂,v₃] (.bool d) bQ) (hf:b=false->d=false/\bQ=aq) :
  Et G A C env W (.Compare l [b8,bY] [aA,aL] pos) σ η d bQ:=λρ s R N ht =>
 isTrue_chain (dJ.use R N ht λbz au aa am aR aS aA=>test_link (cV.use am.rel aR aS λb7 aG aC aB cn c0 aL =>
  ho.use aB.rel (RVs.cons (RV.mono (Step.keepV am.rel aB) _ _ aA) (RVs.cons aL RVs.nil)) c0 λcv d9 bA bP ka gn=>by
   refine(RV.bool_iff gn)▸?_
   refine wpAny_truthy_bool ?_
   cases b with
   | false =>
    obtain ⟨e1,e2⟩:=hf rfl
    rw[e1,e2]
    exact⟨rfl,bA,am.trans (aB.trans bP)⟩
   | true =>
    refine test_last ?_
    refine(hH rfl).use bP.rel (cn.mono aB.rel bP) ka λxF k9 iD jD mH ai1 yM=>?_
    exact(cA1 rfl).use jD.rel (RVs.cons (RV.mono (Step.keepV bP.rel jD) _ _ (RV.mono (Step.keepV aB.rel bP) _ _ aL)) (RVs.cons yM RVs.nil)) ai1 λcv oR fP fN yj yL=>by
     refine(RV.bool_iff yL)▸?_
     exact wpAny_truthy_bool ⟨rfl,fP,am.trans (aB.trans (bP.trans (jD.trans fN)))⟩)) hm
theorem Ev.ifexp{t b o:Expr}{pos:Pos}{c:Bool}{v:V}(h:Et G A C env W t σ η c σ₁)(hb:c=true->Ev G A C env W b σ₁ η v σ₂)(ho:c=false->Ev G A C env W o σ₁ η v σ₂) :
  Ev G A C env W (.IfExp t b o pos) σ η v σ₂:=λρ s R N ht =>
 IfExp_ (h.use R N ht λau aa am aR aS=>by
  cases c with
  | true=>exact(hb rfl).use am.rel aR aS λcv aG aC aB _ _ aL=>⟨aC,am.trans aB,aL⟩
  | false=>exact(ho rfl).use am.rel aR aS λcv aG aC aB _ _ aL=>⟨aC,am.trans aB,aL⟩)
theorem Et.ifexp{t b o:Expr}{pos:Pos}{c d:Bool}(h:Et G A C env W t σ η c σ₁)(hb:c=true->Et G A C env W b σ₁ η d σ₂)(ho:c=false->Et G A C env W o σ₁ η d σ₂) :
  Et G A C env W (.IfExp t b o pos) σ η d σ₂:=λρ s R N ht =>
 isTrue_IfExp (h.use R N ht λau aa am aR aS=>by
  cases c with
  | true=>exact(hb rfl).use am.rel aR aS λaG aC aB _ _=>⟨rfl,aC,am.trans aB⟩
  | false=>exact(ho rfl).use am.rel aR aS λaG aC aB _ _=>⟨rfl,aC,am.trans aB⟩)
theorem Et.not_{x:Expr}{pos:Pos}{b:Bool}(h:Et G A C env W x σ η b σ₁):Et G A C env W (.UnaryOp .Not x pos) σ η (!b) σ₁:=λρ s R N ht =>
 isTrue_not (h.use R N ht λau aa am aR aS=>⟨rfl,aa,am⟩)
theorem Et.and_{x y:Expr}{pos:Pos}{b c:Bool}(h:Et G A C env W x σ η b σ₁)(hy:b=true->Et G A C env W y σ₁ η c σ₂)(hn:b=false->c=false/\σ₂=σ₁) :
  Et G A C env W (.BoolOp .And [x,y] pos) σ η c σ₂:=λρ s R N ht =>
 isTrue_and (h.use R N ht λau aa am aR aS=>by
  cases b with
  | false=>obtain ⟨e1,e2⟩:=hn rfl;rw[e1,e2];exact⟨rfl,aa,am⟩
  | true=>exact isTrue_and ((hy rfl).use am.rel aR aS λaG aC aB cn c0=>by
    cases c with
    | false=>exact⟨rfl,aC,am.trans aB⟩
    | true=>exact isTrue_and_nil ⟨rfl,aC,am.trans aB⟩))
theorem Et.or_{x y:Expr}{pos:Pos}{b c:Bool}(h:Et G A C env W x σ η b σ₁)(hy:b=false->Et G A C env W y σ₁ η c σ₂)(hn:b=true->c=true/\σ₂=σ₁) :
  Et G A C env W (.BoolOp .Or [x,y] pos) σ η c σ₂:=λρ s R N ht =>
 isTrue_or (h.use R N ht λau aa am aR aS=>by
  cases b with
  | true=>obtain ⟨e1,e2⟩:=hn rfl;rw[e1,e2];exact⟨rfl,aa,am⟩
  | false=>exact isTrue_or ((hy rfl).use am.rel aR aS λaG aC aB cn c0=>by
    cases c with
    | true=>exact⟨rfl,aC,am.trans aB⟩
    | false=>exact isTrue_or_nil ⟨rfl,aC,am.trans aB⟩))
noncomputable def aW:V->Option Bool
 | .none=>some false
 | .bool b=>some b
 | .int i=>some (i != 0)
 | .str l=>some (!l.isEmpty)
 | _=>none
theorem cI{v:V}{b:Bool}{cv:Value}(e:aW v=some b)(R:Rel G σ ρ s)(r:RV s.heap ρ v cv){Q:Bool->Shared->Prop}{E:Value->Shared->Prop}
  (k:∀ s',Step G ρ s ρ s' σ->Q b s'):wpAny (model G.prog G.w) A (truthy cv) Q E s:=by
 cases v with
 | none=>obtain rfl:=siX e;exact(RV.none_iff r)▸(truthy_none (k s (Step.refl R)))
 | bool c=>obtain rfl:=siX e;rw[RV.bool_iff r];exact wpAny_truthy_bool (k s (Step.refl R))
 | int i =>
  obtain rfl:=siX e
  obtain ⟨t,rfl⟩:=RV.int_iff r
  exact PyProof.Rows.truthy_int (k s (Step.refl R))
 | str l =>
  obtain rfl:=siX e
  obtain ⟨hl,t,rfl⟩:=RV.str_iff r
  have hlen:(⟨l.toArray⟩:Str).length=l.length:=rfl
  refine PySem.P.truthy_str ?_ ?_
  ·rw[hlen];unfold lim at hl;lia
  ·have:=k _ (Step.toks R (s.toks+1+1))
   refine(hlen)▸?_
   have e:((l.length:Int) != 0)=!l.isEmpty:=by cases l <;> simp <;> lia
   exact(e)▸(this)
 | _=>exact nso e
theorem Ev.not_{x:Expr}{pos:Pos}{v:V}{b:Bool}(h:Ev G A C env W x σ η v σ₁)(hb:aW v=some b):Ev G A C env W (.UnaryOp .Not x pos) σ η (.bool (!b)) σ₁:=λρ s R N ht =>
 UnaryOp_ (h.use R N ht λbz au aa am aR aS aA=>not_of (cI hb am.rel aA λaG aB=>⟨aa,am.trans aB,RV.bool_⟩))
theorem Ev.neg{x:Expr}{pos:Pos}{v u:V}(h:Ev G A C env W x σ η v σ₁)(ho:On G A (fun | [a]=>unaryOp .USub a | _=>pure .none) σ₁ [v] u σ₂):Ev G A C env W (.UnaryOp .USub x pos) σ η u σ₂:=λρ s R N ht =>
 UnaryOp_ (h.use R N ht λbz au aa am aR aS aA=>ho.use am.rel (RVs.cons aA RVs.nil) aS λcv aG aC aB c0 aL=>⟨aC,am.trans aB,aL⟩)
theorem Ev.and_{x y:Expr}{pos:Pos}{u v:V}{b:Bool}(h:Ev G A C env W x σ η u σ₁)(hb:aW u=some b)(hy:b=true->Ev G A C env W y σ₁ η v σ₂)(hn:b=false->v=u/\σ₂=σ₁) :
  Ev G A C env W (.BoolOp .And [x,y] pos) σ η v σ₂:=λρ s R N ht =>
 BoolOp_and (h.use R N ht λbz au aa am aR aS aA=>wpAny_with_toks (Nat.le_refl _) (cI hb am.rel aA λaG aB hle=>by
  cases b with
  | true=>exact BoolOp_one ((hy rfl).use aB.rel (aR.mono am.rel aB) (Nat.lt_of_lt_of_le aS hle) λcv d9 bA bP _ _ gn=>⟨bA,am.trans (aB.trans bP),gn⟩)
  | false=>obtain ⟨e1,e2⟩:=hn rfl;rw[e1,e2];exact⟨aa,am.trans aB,RV.mono (Step.keepV am.rel aB) _ _ aA⟩))
theorem Ev.or_{x y:Expr}{pos:Pos}{u v:V}{b:Bool}(h:Ev G A C env W x σ η u σ₁)(hb:aW u=some b)(hy:b=false->Ev G A C env W y σ₁ η v σ₂)(hn:b=true->v=u/\σ₂=σ₁) :
  Ev G A C env W (.BoolOp .Or [x,y] pos) σ η v σ₂:=λρ s R N ht =>
 BoolOp_or (h.use R N ht λbz au aa am aR aS aA=>wpAny_with_toks (Nat.le_refl _) (cI hb am.rel aA λaG aB hle=>by
  cases b with
  | false=>exact BoolOp_one ((hy rfl).use aB.rel (aR.mono am.rel aB) (Nat.lt_of_lt_of_le aS hle) λcv d9 bA bP _ _ gn=>⟨bA,am.trans (aB.trans bP),gn⟩)
  | true=>obtain ⟨e1,e2⟩:=hn rfl;rw[e1,e2];exact⟨aa,am.trans aB,RV.mono (Step.keepV am.rel aB) _ _ aA⟩))
noncomputable def dd(e:Expr):Bool:=!(e.ctorIdx==0 || e.ctorIdx==5 || e.ctorIdx==15)&&!((un e).tag==5&&decide ((un e).u=.Not))
theorem jf{e:Expr}(h:dd e=true)(whole:Sem Value):isTrue e env whole=(do let v ← whole;standAt e.pos;holding [v] (truthy v)):=by
 cases e <;> first
  | rfl
  | exact ftr h
  | (rename_i op _ _;cases op <;> first | rfl | exact ftr h)
theorem Et.plain{e:Expr}{v:V}{b:Bool}(hp:dd e=true)(h:Ev G A C env W e σ η v σ₁)(hb:aW v=some b):Et G A C env W e σ η b σ₁:=λρ s R N ht =>
 isTrue_plain (h.use R N ht λbz au aa am aR aS aA=>cI hb am.rel aA λaG aB=>⟨rfl,aa,am.trans aB⟩) (jf hp _)
noncomputable def gD(e:Expr):Bool:=!(e.ctorIdx==22)
theorem bb{e:Expr}{es:List Expr}(h:gD e=true):starEach (e::es) env=(false,eval e env)::starEach es env:=by
 cases e <;> first | rfl | exact ftr h
theorem Evs.nil:Evs G A C env W [] σ η [] σ:=λρ s R N ht pos=>spliced_nil ⟨ρ,Step.refl R,RVs.nil⟩
theorem Evs.cons{e:Expr}{es:List Expr}{v:V}{vs:List V}(hs:gD e=true)(h:Ev G A C env W e σ η v σ₁)(hr:Evs G A C env W es σ₁ η vs σ₂):Evs G A C env W (e::es) σ η (v::vs) σ₂:=λρ s R N ht pos=>by
 refine(bb hs)▸?_
 exact spliced_cons (h.use R N ht λbz au aa am aR aS aA=>hr.use am.rel aR aS pos λcvs aG aC aB cn c0 aL=>⟨aC,am.trans aB,RVs.cons (RV.mono (Step.keepV am.rel aB) _ _ aA) aL⟩)
theorem Ev.tup{es:List Expr}{x}{pos:Pos}{vs:List V}(h:Evs G A C env W es σ η vs σ₁)(hl:vs.length<=lim):Ev G A C env W (.Tuple es x pos) σ η (.tup vs) σ₁:=λρ s R N ht=>by
 rw[arm_eval_Tuple]
 exact wpAny_bind (wpAny_standAt (wpAny_bind (h.use R N ht pos λcvs au aa am aR aS aA=>tw am.rel aA hl (by rintro cv aG ⟨aC,aB,aL⟩;exact⟨aC,am.trans aB,aL⟩))))
theorem Ev.lst{es:List Expr}{pos:Pos}{vs:List V}(h:Evs G A C env W es σ η vs σ₁)(hl:vs.length<=lim):Ev G A C env W (.List es pos) σ η (.lst vs) σ₁:=λρ s R N ht=>by
 rw[arm_eval_List]
 exact wpAny_bind (wpAny_standAt (wpAny_bind (h.use R N ht pos λcvs au aa am aR aS aA=>wO am.rel aA hl (by rintro cv aG ⟨aC,aB,aL⟩;exact⟨aC,am.trans aB,aL⟩))))
theorem Ev.new{es:List Expr}{pos:Pos}{vs:List V}(h:Evs G A C env W es σ η vs σ₁)(hl:vs.length<=lim):Ev G A C env W (.List es pos) σ η (.ref σ₁.length) (σ₁++[⟨vs,none⟩]):=λρ s R N ht=>by
 rw[arm_eval_List]
 exact wpAny_bind (wpAny_standAt (wpAny_bind (h.use R N ht pos λcvs au aa am aR aS aA=>zq am.rel aA hl (by rintro cv aG ⟨aC,aB,aL⟩;exact⟨aC,am.trans aB,aL⟩))))
end
set_option genInjectivity false in
set_option genSizeOf false in
inductive ItS where
 | seq (l:List V)
 | dyn (k i:Nat)
noncomputable def ItS.step:ItS->List AO->Option (Option (V×ItS))
 | .seq [],_=>some none
 | .seq (x::l),_=>some (some (x,.seq l))
 | .dyn k i,σ=>match σ[k]? with
  | some ⟨items,none⟩=>match items[i]? with
   | some x=>some (some (x,.dyn k (i+1)))
   | none=>some none
  | _=>none
theorem ItS.step_dyn(k i:Nat)(σ:List AO):(ItS.dyn k i).step σ=match σ[k]? with
  | some ⟨items,none⟩=>match items[i]? with
   | some x=>some (some (x,.dyn k (i+1)))
   | none=>some none
  | _=>none:=rfl
noncomputable def dc(a b c:Int):List V:=(List.range (Builtin.Range.rangeSize a b c).toNat).map λ(j:Nat)=>.int (a+j*c)
noncomputable def bh:V->Option ItS
 | .str l=>some (.seq (l.map λc=>.str [c]))
 | .tup l=>some (.seq l)
 | .lst l=>some (.seq l)
 | .rng a b c=>some (.seq (dc a b c))
 | .ref k=>some (.dyn k 0)
 | _=>none
inductive JI (h:Heap) (ρ:Rho) (I:Addr):ItS->Prop
 | lst {l a i vs}:h.IsListIter I a i->Off ρ a->h.IsList a vs->RVs h ρ l vs.toList->JI h ρ I (.seq (l.drop i))
 | tup {l a i vs}:h.IsTupleIter I a i->Off ρ a->h.IsTuple a vs->RVs h ρ l vs.toList->JI h ρ I (.seq (l.drop i))
 | ascii {x t i}:h.IsStrIter I "str_ascii_iterator" x t i->JI h ρ I (.seq ((x.cps.toList.drop i).map λc=>.str [c]))
 | wide {x t i}:h.IsStrIter I "str_iterator" x t i->JI h ρ I (.seq ((x.cps.toList.drop i).map λc=>.str [c]))
 | rng {x c:Int} {n:Nat}:IsRangeIter h I x n c->JI h ρ I (.seq ((List.range n).map λ(j:Nat)=>.int (x+j*c)))
 | dyn {k p i}:ρ.st[k]?=some p->h.IsListIter I p.1 i->JI h ρ I (.dyn k i)
noncomputable def nO:List String:=["list_iterator","tuple_iterator","str_ascii_iterator","str_iterator","range_iterator"]
theorem JI.cls{h:Heap}{ρ:Rho}{I:Addr}{st:ItS}(x:JI h ρ I st):∃ o T,h.get? I=some o/\o.cls=.type T/\T∈nO:=by
 cases x with
 | lst a=>obtain ⟨o,ho,hc,_⟩:=a;exact pT o _ ho hc (by decide)
 | tup a=>obtain ⟨o,ho,hc,_⟩:=a;exact pT o _ ho hc (by decide)
 | ascii a=>obtain ⟨o,ho,hc,_⟩:=a;exact pT o _ ho hc (by decide)
 | wide a=>obtain ⟨o,ho,hc,_⟩:=a;exact pT o _ ho hc (by decide)
 | rng a=>exact pT _ _ a rfl (by decide)
 | dyn _ a=>obtain ⟨o,ho,hc,_⟩:=a;exact pT o _ ho hc (by decide)
theorem JI.not_solid{h:Heap}{ρ:Rho}{I:Addr}{st:ItS}(x:JI h ρ I st):∃ o,h.get? I=some o/\¬ Solid o:=by
 refine byQ λQ kQ=>?_
 refine oS (x.cls) λo T ho hc hT=>?_
 refine kQ ?_
 refine⟨o,ho,λhs=>?_⟩
 rcases hs.1 with e | e | e <;> (replace e:=(hc)▸e;cases e;revert hT;decide)
theorem JI.keep{h h':Heap}{ρ ρ':Rho}{I:Addr}{st:ItS}(x:JI h ρ I st)(K:KeepV h ρ h' ρ')(hI:∀ o,h.get? I=some o->h'.get? I=some o):JI h' ρ' I st:=by
 cases x with
 | lst a ho hl hr =>
  obtain ⟨o,e,r⟩:=a
  obtain ⟨ol,el,rl⟩:=id hl
  exact .lst ⟨o,hI o e,r⟩ (K.off (by rw[el];exact nofun) ho) ⟨ol,K.keep _ _ el ho (IsList.solid hl el),rl⟩ (RVs.mono K _ _ hr)
 | tup a ho hl hr =>
  obtain ⟨o,e,r⟩:=a
  obtain ⟨ol,el,rl⟩:=id hl
  exact .tup ⟨o,hI o e,r⟩ (K.off (by rw[el];exact nofun) ho) ⟨ol,K.keep _ _ el ho (IsTuple.solid hl el),rl⟩ (RVs.mono K _ _ hr)
 | ascii a=>refine aQ (a) λo e r=>?_;exact .ascii ⟨o,hI o e,r⟩
 | wide a=>refine aQ (a) λo e r=>?_;exact .wide ⟨o,hI o e,r⟩
 | rng a=>exact .rng (hI _ a)
 | dyn hp a =>
  refine byQ λQ kQ=>?_
  refine aQ (a) λo e r=>?_
  refine a4 (K.ext) λnew h_p=>?_;have e':=h_p.1
  refine kQ ?_
  exact .dyn (by rw[e',List.getElem?_append_left (List.getElem?_eq_some_iff.mp hp).1];exact hp) ⟨o,hI o e,r⟩
section
variable {G:Wd} {A:Around} {C:Cx} {env:Env} {W:List Addr} {η:ac} {σ σ' σ₁ σ₂ aq:List AO} {ρ ρ':Rho} {s s':Shared}
theorem wY{I:Addr}{h':Heap}{t:Nat}(R:Rel G σ ρ s)(hoff:Off ρ I)(hbase:G.s₀.heap.get? I=none)(hloose:I ∉ G.loose)(hns:∃ o,s.heap.get? I=some o/\¬ Solid o)
  (hs:Heap.ExtBut I s.heap h') (hal:h'.get? I≠none):StepW G [I] ρ s ρ { s with heap:=h',toks:=t } σ/\KeepV s.heap ρ h' ρ :=
 lh R (List.mem_singleton.mpr rfl) hoff.1 hbase hloose (λo e _=>aQ hns λoi hoi hni=>siX (hoi.symm.trans e)▸hni) hs hal
theorem iy{L:List V}{x:V}{st':ItS}(h:(ItS.seq L).step σ=some (some (x,st'))):∃ r,L=x::r/\st'=.seq r:=by
 cases L with
 | nil=>exact nso (siX h)
 | cons y r=>exact have e:=sm2 (siX h▸rfl:some (x,st')=some (y,ItS.seq r));⟨r,e.1▸rfl,e.2⟩
theorem cK{L:List V}(h:(ItS.seq L).step σ=some none):L=[]:=by
 cases L with
 | nil=>rfl
 | cons y r=>exact son (siX h)
theorem yw{k i:Nat}{u:Option (V×ItS)}(h:(ItS.dyn k i).step σ=some u):∃ items,σ[k]?=some ⟨items,none⟩/\u=(items[i]?).map λx=>(x,.dyn k (i+1)):=by
 rw[ItS.step_dyn] at h
 refine gp (σ[k]?) (λe=>nso (e▸h)) λo e=>?_
 obtain ⟨items,acc⟩:=o
 replace h:=(e)▸h
 cases acc with
 | some z=>exact nso h
 | none =>
  have h':(match items[i]? with
   | some x=>some (some (x,ItS.dyn k (i+1)))
   | none=>some none)=some u:=h
  refine⟨items,e,gp (items[i]?) (λq=>?_) λy q=>?_⟩ <;> (rw[q] at h' ⊢;exact(siX h').symm)
theorem jn{α:Type}{l:List α}{i:Nat}{x:α}{r:List α}(h:l.drop i=x::r):l[i]?=some x/\r=l.drop (i+1) :=
 ⟨by rw[← Nat.add_zero i,← List.getElem?_drop,h];rfl,by rw[← List.tail_drop,h];rfl⟩
theorem zm{α β:Type}{f:α->β}{l:List α}{x:β}{r:List β}(h:l.map f=x::r):∃ y l',l=y::l'/\x=f y/\r=l'.map f:=by
 cases l with
 | nil=>exact nomatch h
 | cons y l'=>exact pT y l' rfl ((List.cons.inj h).1.symm) ((List.cons.inj h).2.symm)
noncomputable def PnK(ρ:Rho)(s:Shared)(I:Addr)(x:V)(st':ItS)(Q:Option Value->Shared->Prop):Prop :=
 ∀ (h':Heap) (t:Nat) (cv:Value),Heap.SameBut I s.heap h'->(KeepV s.heap ρ h' ρ->JI h' ρ I st'/\RV h' ρ x cv)->Q (some cv) { s with heap:=h',toks:=t }
theorem pnk{I:Addr}{st':ItS}{x:V}(R:Rel G σ ρ s)(hns:∃ o,s.heap.get? I=some o/\¬ Solid o)(hoff:Off ρ I)(hbase:G.s₀.heap.get? I=none)(hloose:I ∉ G.loose){Q:Option Value->Shared->Prop}
  (k:∀ cv s',StepW G [I] ρ s ρ s' σ->KeepV s.heap ρ s'.heap ρ->RV s'.heap ρ x cv->JI s'.heap ρ I st'->Q (some cv) s'):PnK ρ s I x st' Q:=λh' t cv hs hj=>by
 have K:KeepV s.heap ρ h' ρ:=⟨⟨[],(List.append_nil _).symm,λ_ h=>nomatch h⟩,λ_ h=>.inl h,λb o e _ hsol=>hs.extBut b o (λq=>aQ hns λoi hoi hni=>hni (siX (hoi.symm.trans (q▸e))▸hsol)) e⟩
 have j:=hj K
 exact k cv _ (wY R hoff hbase hloose hns hs.extBut (oS j.1.cls λo _ e _ _ q=>son (e.symm.trans q))).1 K j.2 j.1
section
variable {I:Addr} {st':ItS} {x:V} {Q:Option Value->Shared->Prop} {E:Value->Shared->Prop}
theorem eX1{l:List V}{a:Addr}{i:Nat}{vs:Array Value}(P:PnK ρ s I x st' Q)(hst:(ItS.seq (l.drop i)).step σ=some (some (x,st')))(hit:s.heap.IsListIter I a i)(ho:Off ρ a)(hl:s.heap.IsList a vs)(hr:RVs s.heap ρ l vs.toList)(hne:a≠I) :
  wpAny (model G.prog G.w) A (pyNext (.ref I)) Q E s :=
 aQ (iy hst) λr hd e=>have d:=jn hd
 aQ (RVs.get hr d.1) λc hc hx=>wpAny_pyNext_list_item hit hl (Array.getElem?_toList▸hc) λh' hit' hs=>P h' s.toks c hs λK=>⟨e.symm▸d.2▸.lst hit' ho (hl.extBut hs.extBut hne) (RVs.mono K _ _ hr),RV.mono K _ _ hx⟩
theorem eV1{l:List V}{a:Addr}{i:Nat}{vs:Array Value}(P:PnK ρ s I x st' Q)(hst:(ItS.seq (l.drop i)).step σ=some (some (x,st')))(hit:s.heap.IsTupleIter I a i)(ho:Off ρ a)(hl:s.heap.IsTuple a vs)(hr:RVs s.heap ρ l vs.toList)(hne:a≠I) :
  wpAny (model G.prog G.w) A (pyNext (.ref I)) Q E s :=
 aQ (iy hst) λr hd e=>have d:=jn hd
 aQ (RVs.get hr d.1) λc hc hx=>wpAny_pyNext_tuple_item hit hl (Array.getElem?_toList▸hc) λh' hit' hs=>P h' s.toks c hs λK=>⟨e.symm▸d.2▸.tup hit' ho (hl.extBut hs.extBut hne) (RVs.mono K _ _ hr),RV.mono K _ _ hx⟩
theorem rM{y:Str}{i:Nat}(hst:(ItS.seq ((y.cps.toList.drop i).map λc=>.str [c])).step σ=some (some (x,st'))):∃ c,y.cps[i]?=some c/\x=.str [c]/\st'=.seq ((y.cps.toList.drop (i+1)).map λc=>.str [c]) :=
 aQ (iy hst) λr hm e=>oS (zm hm) λc l' hd e1 e2=>have d:=jn hd
 ⟨c,Array.getElem?_toList▸d.1,e1,e.trans (e2▸d.2▸rfl)⟩
theorem yY{y:Str}{t:Tok}{i:Nat}(P:PnK ρ s I x st' Q)(hst:(ItS.seq ((y.cps.toList.drop i).map λc=>.str [c])).step σ=some (some (x,st')))(hit:s.heap.IsStrIter I "str_ascii_iterator" y t i):wpAny (model G.prog G.w) A (pyNext (.ref I)) Q E s :=
 pI (rM hst) λc hc e1 e2=>wpAny_pyNext_ascii_item hit hc λh' hit' hs=>P h' (s.toks+1) _ hs λK=>⟨e2▸.ascii hit',e1▸RV.str_ (show 1<=lim by decide)⟩
theorem bH1{y:Str}{t:Tok}{i:Nat}(P:PnK ρ s I x st' Q)(hst:(ItS.seq ((y.cps.toList.drop i).map λc=>.str [c])).step σ=some (some (x,st')))(hit:s.heap.IsStrIter I "str_iterator" y t i):wpAny (model G.prog G.w) A (pyNext (.ref I)) Q E s :=
 pI (rM hst) λc hc e1 e2=>wpAny_pyNext_wide_item hit hc λh' hit' hs=>P h' (s.toks+1) _ hs λK=>⟨e2▸.wide hit',e1▸RV.str_ (show 1<=lim by decide)⟩
theorem yR(y c:Int)(n:Nat):((List.range (n+1)).map λ(j:Nat)=>V.int (y+j*c))=V.int y::(List.range n).map λ(j:Nat)=>.int (y+c+j*c):=by
 rw[List.range_succ_eq_map,List.map_cons,List.map_map]
 refine congr (congrArg _ (congrArg V.int (by rw[Int.natCast_zero,Int.zero_mul,Int.add_zero]))) (List.map_congr_left λj _=>congrArg V.int ?_)
 show y+((j+1:Nat):Int)*c=_
 rw[Int.natCast_add,Int.natCast_one,Int.add_mul,Int.one_mul];lia
theorem eW1{y c:Int}{n:Nat}(P:PnK ρ s I x st' Q)(hst:(ItS.seq ((List.range n).map λ(j:Nat)=>V.int (y+j*c))).step σ=some (some (x,st')))(hit:IsRangeIter s.heap I y n c):wpAny (model G.prog G.w) A (pyNext (.ref I)) Q E s:=by
 cases n with
 | zero=>exact son (siX hst).symm
 | succ n =>
  rw[yR] at hst
  refine aQ (iy hst) λr hd e=>?_
  have q:=List.cons.inj hd
  refine wpAny_pyNext_range_item hit (by exact Int.ofNat_le.mpr (Nat.le_add_left (0+1) n)) λh' hit' hs=>P h' (s.toks+1) _ hs λK=>⟨?_,q.1▸RV.int_⟩
  rw[e,← q.2]
  exact .rng (by rw[show ((n+1:Nat):Int) - 1=n by lia] at hit';exact hit')
theorem vT{k i:Nat}{p:Addr×Addr}{u:Option (V×ItS)}(R:Rel G σ ρ s)(hp:ρ.st[k]?=some p)(hst:(ItS.dyn k i).step σ=some u):∃ items vs,u=(items[i]?).map (λx=>(x,ItS.dyn k (i+1)))/\s.heap.PlainList p.1 vs/\RVs s.heap ρ items vs.toList :=
 aQ (yw hst) λitems hσ hu=>by
  have ro:=R.obj k p _ hp hσ
  dsimp only[RO] at ro
  exact ro.2.2.elim λvs h=>⟨items,vs,hu,h⟩
theorem eY1{k i:Nat}{p:Addr×Addr}(R:Rel G σ ρ s)(P:PnK ρ s I x st' Q)(hst:(ItS.dyn k i).step σ=some (some (x,st')))(hp:ρ.st[k]?=some p)(hit:s.heap.IsListIter I p.1 i):wpAny (model G.prog G.w) A (pyNext (.ref I)) Q E s :=
 oS (vT R hp hst) λitems vs hu hpl hr=>aQ (Option.map_eq_some_iff.mp hu.symm) λy hy e=>aQ (RVs.get hr hy) λc hc hv=>by
  have q:=Prod.mk.inj e
  exact wpAny_pyNext_list_item hit hpl.isList (Array.getElem?_toList▸hc) λh' hit' hs=>P h' s.toks c hs λK=>⟨q.2▸.dyn hp hit',q.1▸RV.mono K _ _ hv⟩
end
theorem iT{I:Addr}{st st':ItS}{x:V}(hst:st.step σ=some (some (x,st')))(R:Rel G σ ρ s)(J:JI s.heap ρ I st)
  (hoff:Off ρ I) (hbase:G.s₀.heap.get? I=none) (hloose:I ∉ G.loose) {Q:Option Value->Shared->Prop} {E:Value->Shared->Prop}
  (k:∀ cv s',StepW G [I] ρ s ρ s' σ->KeepV s.heap ρ s'.heap ρ->RV s'.heap ρ x cv->JI s'.heap ρ I st'->Q (some cv) s'):wpAny (model G.prog G.w) A (pyNext (.ref I)) Q E s:=by
 have hns:=J.not_solid
 have P:=pnk R hns hoff hbase hloose k
 cases J with
 | lst hit ho hl hr=>exact eX1 P hst hit ho hl hr λe=>aQ hns λoi hoi hni=>hni (IsList.solid (e▸hl) hoi)
 | tup hit ho hl hr=>exact eV1 P hst hit ho hl hr λe=>aQ hns λoi hoi hni=>hni (IsTuple.solid (e▸hl) hoi)
 | ascii hit=>exact yY P hst hit
 | wide hit=>exact bH1 P hst hit
 | rng hit=>exact eW1 P hst hit
 | dyn hp hit=>exact eY1 R P hst hp hit
theorem xv{l:List V}{i:Nat}{h:Heap}{vs:Array Value}(hr:RVs h ρ l vs.toList)(hi:l.length<=i):vs[i]?=none :=
 Array.getElem?_eq_none_iff.mpr (by have:=RVs.length hr;rw[Array.length_toList] at this;exact this▸hi)
theorem vG{y:Str}{i:Nat}(hst:(ItS.seq ((y.cps.toList.drop i).map λc=>.str [c])).step σ=some none):y.cps[i]?=none :=
 Array.getElem?_eq_none_iff.mpr (List.drop_eq_nil_iff.mp (List.map_eq_nil_iff.mp (cK hst)))
theorem iS{I:Addr}{st:ItS}(hh:A.handled=none)(hst:st.step σ=some none)(R:Rel G σ ρ s)(J:JI s.heap ρ I st)
  (hoff:Off ρ I) (hbase:G.s₀.heap.get? I=none) (hloose:I ∉ G.loose) {Q:Option Value->Shared->Prop} {E:Value->Shared->Prop}
  (k:∀ s',(∃ h',s'={ s with heap:=h' }/\Heap.ExtBut I s.heap h')->Q none s'):wpAny (model G.prog G.w) A (pyNext (.ref I)) Q E s:=by
 have k':∀ h',Heap.ExtBut I s.heap h'->Q none { s with heap:=h' }:=λh' hs=>k _ ⟨h',rfl,hs⟩
 cases J with
 | lst hit ho hl hr=>exact wpAny_pyNext_list_end hh hit hl (xv hr (List.drop_eq_nil_iff.mp (cK hst))) k'
 | tup hit ho hl hr=>exact wpAny_pyNext_tuple_end hh hit hl (xv hr (List.drop_eq_nil_iff.mp (cK hst))) k'
 | ascii hit=>exact wpAny_pyNext_ascii_end hh hit (vG hst) k'
 | wide hit=>exact wpAny_pyNext_wide_end hh hit (vG hst) k'
 | @rng y c n hit=>exact wpAny_pyNext_range_end hh hit (by have:=congrArg List.length (cK hst);rw[List.length_map,List.length_range] at this;have:n=0:=this;solve_by_elim (maxDepth:=4) only [*,Nat.le_trans,Nat.lt_of_lt_of_le,Nat.lt_of_le_of_lt,Nat.le_of_lt,Nat.le_of_eq,Nat.le_refl,Eq.symm,Nat.le_add_right,Nat.le_add_left,Nat.le_succ,Nat.sub_le,Nat.succ_le_succ,Nat.lt_succ_of_le,Nat.le_of_lt_succ,Nat.zero_le,Nat.succ_pos,Int.ofNat_le.mpr,Int.ofNat_lt.mpr,Int.natCast_nonneg,Nat.not_le.mpr,Nat.not_lt.mpr,Nat.not_le.mp,Nat.not_lt.mp]) k'
 | dyn hp hit=>exact oS (vT R hp hst) λitems vs hu hpl hr=>wpAny_pyNext_list_end hh hit hpl.isList (xv hr (List.getElem?_eq_none_iff.mp (Option.map_eq_none_iff.mp hu.symm))) k'
theorem zo{l:List Nat}{cv:Value}{Q:Value->Shared->Prop}{E:Value->Shared->Prop}(r:RV s.heap ρ (.str l) cv)(k:∀ o:Obj,JI (s.heap.push o) ρ s.heap.objs.size (.seq (l.map λc=>.str [c]))->Q (.ref s.heap.objs.size) { s with heap:=s.heap.push o }):wpAny (model G.prog G.w) A (pyIter cv) Q E s:=by
 obtain ⟨hl,t,rfl⟩:=RV.str_iff r
 refine hC1 ((⟨l.toArray⟩:Str).cps.all (·<128)) (λha=>wpAny_pyIter_ascii ha (k _ ?_)) λha=>wpAny_pyIter_wide ha (k _ ?_)
 ·exact JI.ascii (x:=⟨l.toArray⟩) (t:=t) (i:=0) ⟨_,Heap.get?_push_size _ rfl,rfl,rfl⟩
 ·exact JI.wide (x:=⟨l.toArray⟩) (t:=t) (i:=0) ⟨_,Heap.get?_push_size _ rfl,rfl,rfl⟩
theorem vU{a b c:Int}(h:-1000000<=a/\a<=1000000/\-1000000<=b/\b<=1000000/\1<=c/\c<=1000000):(0<=Builtin.Range.rangeSize a b c/\Builtin.Range.rangeSize a b c<=3000000):=by
 refine hw1 h λa1 a2 b1 b2 c1 c2=>?_
 have e:Builtin.Range.rangeSize a b c=if a<b then (b - a - 1) / c+1 else 0:=if_pos c1
 rw[e]
 by_cases q:a<b
 ·have h0:0<=b - a - 1:=Int.sub_nonneg_of_le (Int.le_sub_left_of_add_le q)
  have h1:0<=(b - a - 1) / c:=Int.ediv_nonneg h0 (Int.le_trans (by decide) c1)
  have h2:(b - a - 1) / c<=b - a - 1:=Int.ediv_le_self _ h0
  rw[if_pos q]
  exact⟨Int.le_add_one h1,by lia⟩
 ·rw[if_neg q];exact⟨Int.le_refl _,by decide⟩
theorem eJ{i:Int}(h1:-9000000<=i)(h2:i<=9000000):Builtin.Range.rangeFitsLong i=true :=
 Bool.and_eq_true_iff.mpr ⟨decide_eq_true (Int.le_trans (by decide) h1),decide_eq_true (Int.lt_of_le_of_lt h2 (by decide))⟩
theorem ar1{a b c:Int}(h:-1000000<=a/\a<=1000000/\-1000000<=b/\b<=1000000/\1<=c/\c<=1000000):Builtin.Range.small a b c=true:=by
 have z:=vU h
 refine hw1 h λa1 a2 b1 b2 c1 c2=>?_
 have e:(if c>0 then Builtin.Range.rangeFitsLong (b+(c - 1)) else Builtin.Range.rangeFitsLong (b+(c+1)))=true:=by rw[if_pos (show c>0 from c1)];exact eJ (by lia) (by lia)
 have up:∀ {i:Int},i<=1000000->i<=9000000:=λh=>Int.le_trans h (by decide)
 have dn:∀ {i:Int},-1000000<=i->-9000000<=i:=λh=>Int.le_trans (by decide) h
 show (_&&_&&_&&_&&(_ || _))=true
 rw[e,Bool.or_true,eJ (dn a1) (up a2),eJ (dn b1) (up b2),eJ (Int.le_trans (by decide) c1) (up c2),eJ (Int.le_trans (by decide) z.1) (Int.le_trans z.2 (by decide))]
 rfl
theorem zp{a b c:Int}{cv:Value}{Q:Value->Shared->Prop}{E:Value->Shared->Prop}(r:RV s.heap ρ (.rng a b c) cv)(k:∀ o:Obj,JI (s.heap.push o) ρ s.heap.objs.size (.seq (dc a b c))->Q (.ref s.heap.objs.size) { s with heap:=s.heap.push o }):wpAny (model G.prog G.w) A (pyIter cv) Q E s:=by
 refine byQ λQ kQ=>?_
 obtain ⟨hk,p,t,u,w,rfl,ho,hr⟩:=RV.rng_iff r
 have hk':=of_decide_eq_true hk
 refine kQ ?_
 refine wpAny_pyIter_range hr (ar1 hk') (k _ ?_)
 exact JI.rng (x:=a) (c:=c) (n:=(Builtin.Range.rangeSize a b c).toNat) (by exact(Int.toNat_of_nonneg (vU hk').1)▸(Heap.get?_push_size _ rfl))
theorem iU{v:V}{st:ItS}{cv:Value}(e:bh v=some st)(hst:st.step σ≠none)(R:Rel G σ ρ s)(r:RV s.heap ρ v cv){Q:Value->Shared->Prop}{E:Value->Shared->Prop}
  (k:∀ s',Step G ρ s ρ s' σ->(∀ b o,s.heap.get? b=some o->s'.heap.get? b=some o)->Off ρ s.heap.objs.size->JI s'.heap ρ s.heap.objs.size st->Q (.ref s.heap.objs.size) s'):wpAny (model G.prog G.w) A (pyIter cv) Q E s:=by
 have keep:∀ o:Obj,∀ b x,s.heap.get? b=some x->(s.heap.push o).get? b=some x:=λo b x e=>Heap.get?_push_of_some _ e
 have k':∀ o:Obj,JI (s.heap.push o) ρ s.heap.objs.size st->Q (.ref s.heap.objs.size) { s with heap:=s.heap.push o }:=λo=>k _ (Step.grow R (keep o) ⟨_,_,rfl⟩) (keep o) (bM R)
 cases v with
 | str l=>exact zo r ((siX e).symm▸k')
 | tup l =>
  obtain ⟨hl,a,vs,rfl,ho,ht,hr⟩:=RV.tup_iff r
  exact wpAny_pyIter_tuple ht.isTuple (k' _ (siX e▸JI.tup (i:=0) ⟨_,Heap.get?_push_size _ rfl,rfl,rfl⟩ ho (ht.isTuple.push _) (RVs.sameHeap (keep _) hr)))
 | lst l =>
  obtain ⟨hl,a,vs,rfl,ho,ht,hr⟩:=RV.lst_iff r
  exact wpAny_pyIter_list ht.isList (k' _ (siX e▸JI.lst (i:=0) ⟨_,Heap.get?_push_size _ rfl,rfl,rfl⟩ ho (ht.isList.push _) (RVs.sameHeap (keep _) hr)))
 | rng a b c=>exact zp r ((siX e).symm▸k')
 | ref kk =>
  obtain rfl:=siX e
  obtain ⟨p,hp,rfl⟩:=RV.ref_iff r
  refine gp ((ItS.dyn kk 0).step σ) (λq=>absurd q hst) λu hu=>oS (vT R hp hu) λitems vs _ hpl hr=>?_
  exact wpAny_pyIter_list hpl.isList (k' _ (JI.dyn hp ⟨_,Heap.get?_push_size _ rfl,rfl,rfl⟩))
 | _=>exact nso e
end
theorem JI.no_cell{h:Heap}{ρ:Rho}{I:Addr}{st:ItS}(x:JI h ρ I st):∃ o,h.get? I=some o/\∀ v,o.data≠.cell v:=by
 cases x with
 | lst a=>obtain ⟨o,ho,hc,hd⟩:=a;exact⟨o,ho,λv e=>by rw[hd] at e;cases e⟩
 | tup a=>obtain ⟨o,ho,hc,hd⟩:=a;exact⟨o,ho,λv e=>by rw[hd] at e;cases e⟩
 | ascii a=>obtain ⟨o,ho,hc,hd⟩:=a;exact⟨o,ho,λv e=>by rw[hd] at e;cases e⟩
 | wide a=>obtain ⟨o,ho,hc,hd⟩:=a;exact⟨o,ho,λv e=>by rw[hd] at e;cases e⟩
 | rng a=>exact⟨_,a,λv e=>by cases e⟩
 | dyn _ a=>obtain ⟨o,ho,hc,hd⟩:=a;exact⟨o,ho,λv e=>by rw[hd] at e;cases e⟩
section
variable {G:Wd} {A:Around} {C:Cx} {env:Env} {W:List Addr} {η η' η₁ η₂ bj:ac} {σ σ' σ₁ σ₂ aq:List AO} {ρ ρ' aa:Rho} {s s' au aG:Shared}
theorem RE.keepAll(N:RE G C env W η ρ s)(K:KeepV s.heap ρ s'.heap ρ')(h1:∀ b∈W,∀ o,s.heap.get? b=some o->s'.heap.get? b=some o)
  (h2:∀ c o v,s.heap.get? c=some o->o.data=.cell v->Off ρ c->s'.heap.get? c=some o):RE G C env W η ρ' s':=by
 refine⟨N.ok,N.sc,N.glob,N.blt,N.lmem,λb hb=>⟨?_,(N.wok b hb).2⟩,λb hb=>?_,?_,λx hx hk=>?_,N.apart⟩
 ·refine aQ (N.wk b hb) λo' e' hd=>?_
  exact K.off (by rw[e'];exact nofun) (N.wok b hb).1
 ·refine aQ (N.wk b hb) λo' e' hd=>?_
  exact⟨o',h1 b hb _ e',hd⟩
 ·refine byQ λQ kQ=>?_
  refine aQ (N.loc) λm h_1 h=>?_;refine zb (h_1) λo es ep ho r=>?_
  refine kQ ?_
  refine⟨m,⟨o,es,ep,h1 _ N.lmem _ ho,r⟩,λx hx hk v hv=>?_⟩
  refine a4 (h x hx hk v hv) λcv h_p=>?_;have e1:=h_p.1;have e2:=h_p.2
  exact⟨cv,e1,RV.mono K _ _ e2⟩
 ·refine byQ λQ kQ=>?_
  refine bV1 (N.cel x hx hk) λc ov e1 h_3 h3 h4 h5=>?_;refine aQ (h_3) λo ho hd=>?_
  refine kQ ?_
  refine ax1 c ov e1 ⟨o,h2 c o _ ho hd h4,hd⟩ h3 (K.off (by rw[ho];exact nofun) h4) (λv hv=>?_)
  refine a4 (h5 v hv) λcv h_p=>?_;have e1:=h_p.1;have e2:=h_p.2
  exact⟨cv,e1,RV.mono K _ _ e2⟩
theorem Step.toW(S:Step G ρ s ρ' s' σ'):StepW G W ρ s ρ' s' σ':=StepW.weaken S λ_ h=>nomatch h
theorem StepW.drop{W':List Addr}(S:StepW G W ρ s ρ' s' σ')(h:∀ b∈W,s.heap.get? b≠none->b∈W'):StepW G W' ρ s ρ' s' σ' where
 rel:=S.rel
 ext:=S.ext
 keep:=λb o e ho hw hl=>S.keep b o e ho (λq=>hw (h b q (by rw[e];exact nofun))) hl
 wal:=λb _ q=>S.alive q
noncomputable def As(G:Wd)(A:Around)(C:Cx)(env:Env)(W:List Addr)(tg:Expr)(v:V)(η η':ac):Prop :=
 ∀ σ ρ s cv,Rel G σ ρ s->RE G C env W η ρ s->RV s.heap ρ v cv->wpAny (model G.prog G.w) A (assign tg env cv) (λ_ s'=>StepW G W ρ s ρ s' σ/\RE G C env W η' ρ s') No s
theorem As.name{x:Var}{pos:Pos}{v:V}(hx:x∈C.vars)(ho:x.own=true):As G A C env W (.Name x.name pos) v η (η.set x.slot (some v)):=λσ ρ s cv R N r =>
 wpAny_assign_Name (RE.store R N hx ho r λs' S N'=>⟨S,N'⟩)
noncomputable def kl:ac->List Var->List V->ac
 | η,x::xs,v::vs=>kl (η.set x.slot (some v)) xs vs
 | η,_,_=>η
noncomputable def Names(C:Cx):List Expr->List Var->Prop
 | [],xs=>xs=[]
 | e::es,xs=>∃ x r p,xs=x::r/\e=.Name x.name p/\x∈C.vars/\x.own=true/\Names C es r
theorem Names.length:∀ {es:List Expr} {xs:List Var},Names C es xs->xs.length=es.length
 | [],_,h=>by delta Names at h;rw[h];rfl
 | e::es,xs,h=>by dsimp only[Names] at h;obtain ⟨x,r,p,rfl,_,_,_,h⟩:=h;rw[List.length_cons,List.length_cons,h.length]
theorem Names.each(env:Env):∀ {es:List Expr} {xs:List Var},Names C es xs->(assignEach es env).length=es.length/\(assignEach es env).findIdx? (·.1)=none
 | [],_,h=>⟨rfl,rfl⟩
 | e::es,xs,h=>by
  dsimp only[Names] at h
  obtain ⟨x,r,p,h_p⟩:=h;obtain rfl:=h_p.1;obtain rfl:=h_p.2.1;have h:=h_p.2.2.2.2
  have:=Names.each env h
  have e1:assignEach (.Name x.name p::es) env=(false,assign (.Name x.name p) env)::assignEach es env:=rfl
  refine(e1)▸?_
  exact⟨by rw[List.length_cons,List.length_cons,this.1],by rw[List.findIdx?_cons,this.2];rfl⟩
theorem aio{t:Value->Sem Unit}{ts x xs}:assignInOrder (t::ts) (x::xs)=(holding xs (t x)>>=λ_=>assignInOrder ts xs):=rfl
theorem al1:∀ {es:List Expr} {xs:List Var} {vs:List V} {cvs:List Value} {η:ac} {s:Shared},Names C es xs->vs.length=xs.length->Rel G σ ρ s->RE G C env W η ρ s->RVs s.heap ρ vs cvs ->
  wpAny (model G.prog G.w) A (assignInOrder ((assignEach es env).map (·.2)) cvs) (λ_ s'=>StepW G W ρ s ρ s' σ/\RE G C env W (kl η xs vs) ρ s') No s
 | [],xs,vs,cvs,η,s,h,hl,R,N,r=>by
  delta Names at h;subst h
  have:vs=[]:=List.eq_nil_of_length_eq_zero hl
  subst this
  rw[RVs.nil_iff r]
  exact wpAny_pure ⟨(Step.refl R).toW,N⟩
 | e::es,xs,vs,cvs,η,s,h,hl,R,N,r=>by
  dsimp only[Names] at h
  refine ei (h) λx r' p h_p=>?_;obtain rfl:=h_p.1;obtain rfl:=h_p.2.1;have hx:=h_p.2.2.1;have ho:=h_p.2.2.2.1;have h:=h_p.2.2.2.2
  cases vs with
  | nil=>cases hl
  | cons v vs =>
   refine cC (RVs.cons_iff r) λc cs h_p=>?_;obtain rfl:=h_p.1;have hv:=h_p.2.1;have hvs:=h_p.2.2
   show wpAny _ _ (assignInOrder (assign (.Name x.name p) env::(assignEach es env).map (·.2)) (c::cs)) _ _ s
   rw[aio]
   refine wpAny_bind (wpAny_holding (wpAny_mono (As.name hx ho σ ρ s c R N hv) (λ_ au ⟨am,aR⟩=>?_) λ_ _ f=>f.elim))
   refine wpAny_mono (al1 h (by simpa using hl) am.rel aR (RVs.mono (StepW.keepV R N.wk am) _ _ hvs)) ((by rintro _ aG ⟨aB,cn⟩;exact⟨am.trans aB,cn⟩)) λ_ _ f=>f.elim
theorem As.tup{es:List Expr}{xs:List Var}{k}{pos:Pos}{vs:List V}(hh:A.handled=none)(h:Names C es xs)(hl:vs.length=xs.length):As G A C env W (.Tuple es k pos) (.tup vs) η (kl η xs vs):=λσ ρ s cv R N r=>by
 obtain ⟨hlim,a,cvs,h_p⟩:=RV.tup_iff r;obtain rfl:=h_p.1;have ho:=h_p.2.1;have ht:=h_p.2.2.1;have hr:=h_p.2.2.2
 have hsz:cvs.size=vs.length:=by have:=RVs.length hr;simpa using this
 refine wpAny_assign_Tuple hh ht.isTuple (by rw[(h.each env).1,hsz,hl,h.length]) (h.each env).2 λh' he=>?_
 have hk:∀ b o,s.heap.get? b=some o->h'.get? b=some o:=λb o e=>he b o (Nat.ne_of_lt (Heap.lt_size e)) e
 have S:Step G ρ s ρ { s with heap:=h' } σ:=Step.grow R hk ⟨_,_,rfl⟩
 exact wpAny_mono (al1 h hl S.rel (N.mono R S) (RVs.sameHeap hk hr)) ((by rintro _ aG ⟨aB,cn⟩;exact⟨S.toW.trans aB,cn⟩)) λ_ _ f=>f.elim
set_option genInjectivity false in
set_option genSizeOf false in
inductive Fl where
 | next | brk | ret (v:V)
noncomputable def RF(h:Heap)(ρ:Rho):Fl->Flow->Prop
 | .next,f=>f=.next
 | .brk,f=>f=.brk
 | .ret v,f=>∃ cv,f=.ret cv/\RV h ρ v cv
inductive PS (G:Wd) (C:Cx) (env:Env) (W:List Addr) (ρ:Rho) (s:Shared) (σ':List AO) (η':ac) (fl:Fl) (f:Flow) (s':Shared):Prop
 | mk (ρ':Rho) (S:StepW G W ρ s ρ' s' σ') (N:RE G C env W η' ρ' s') (r:RF s'.heap ρ' fl f)
noncomputable def Es(G:Wd)(A:Around)(C:Cx)(env:Env)(W:List Addr)(st:Stmt)(σ:List AO)(η:ac)(fl:Fl)(σ':List AO)(η':ac):Prop :=
 ∀ ρ s,Rel G σ ρ s->RE G C env W η ρ s->0<s.toks->wpAny (model G.prog G.w) A (exec st env) (PS G C env W ρ s σ' η' fl) No s
noncomputable def Ess(G:Wd)(A:Around)(C:Cx)(env:Env)(W:List Addr)(st:List Stmt)(σ:List AO)(η:ac)(fl:Fl)(σ':List AO)(η':ac):Prop :=
 ∀ ρ s,Rel G σ ρ s->RE G C env W η ρ s->0<s.toks->wpAny (model G.prog G.w) A (execs st env) (PS G C env W ρ s σ' η' fl) No s
theorem Es.use{st:Stmt}{fl:Fl}{Q:Flow->Shared->Prop}{E:Value->Shared->Prop}(H:Es G A C env W st σ η fl σ' η')(R:Rel G σ ρ s)(N:RE G C env W η ρ s)(ht:0<s.toks)
  (k:∀ f s' ρ',StepW G W ρ s ρ' s' σ'->RE G C env W η' ρ' s'->0<s'.toks->RF s'.heap ρ' fl f->Q f s'):wpAny (model G.prog G.w) A (exec st env) Q E s :=
 eo (H ρ s R N ht) (by rintro cv s' hle ⟨ρ',S,N',r⟩;exact k cv s' ρ' S N' (Nat.lt_of_lt_of_le ht hle) r)
theorem Ess.use{st:List Stmt}{fl:Fl}{Q:Flow->Shared->Prop}{E:Value->Shared->Prop}(H:Ess G A C env W st σ η fl σ' η')(R:Rel G σ ρ s)(N:RE G C env W η ρ s)(ht:0<s.toks)
  (k:∀ f s' ρ',StepW G W ρ s ρ' s' σ'->RE G C env W η' ρ' s'->0<s'.toks->RF s'.heap ρ' fl f->Q f s'):wpAny (model G.prog G.w) A (execs st env) Q E s :=
 eo (H ρ s R N ht) (by rintro cv s' hle ⟨ρ',S,N',r⟩;exact k cv s' ρ' S N' (Nat.lt_of_lt_of_le ht hle) r)
theorem Ess.nil:Ess G A C env W [] σ η .next σ η:=λρ s R N ht=>wpAny_execs_nil ⟨ρ,(Step.refl R).toW,N,rfl⟩
theorem Ess.cons{st:Stmt}{rest:List Stmt}{fl:Fl}(h:Es G A C env W st σ η .next σ₁ η₁)(hr:Ess G A C env W rest σ₁ η₁ fl σ₂ η₂):Ess G A C env W (st::rest) σ η fl σ₂ η₂:=λρ s R N ht =>
 wpAny_execs_cons (h.use R N ht λf au aa am aR aS aA=>by
  have e:f=.next:=aA
  subst e
  exact hr.use am.rel aR aS λf aG aC aB cn c0 aL=>⟨aC,am.trans aB,cn,aL⟩)
theorem Ess.stop{st:Stmt}{rest:List Stmt}{fl:Fl}(hf:fl≠.next)(h:Es G A C env W st σ η fl σ₁ η₁):Ess G A C env W (st::rest) σ η fl σ₁ η₁:=λρ s R N ht =>
 wpAny_execs_cons (h.use R N ht λf au aa am aR aS aA=>by
  cases fl with
  | next=>exact absurd rfl hf
  | brk=>have e:f=.brk:=aA;subst e;exact⟨aa,am,aR,rfl⟩
  | ret v=>obtain ⟨cv,rfl,hv⟩:=aA;exact⟨aa,am,aR,cv,rfl,hv⟩)
noncomputable def dM(e:Expr):Bool:=!(e.ctorIdx==8 || e.ctorIdx==9 || e.ctorIdx==10)
theorem eT{e:Expr}(h:dM e=true)(t:Option Expr)(l:Nat):swapsWith e t l env=pure false:=by
 cases e <;> first | rfl | exact ftr h
theorem Es.asg{x:Var}{e:Expr}{p pos:Pos}{v:V}(hx:x∈C.vars)(ho:x.own=true)(hc:dM e=true)(h:Ev G A C env W e σ η v σ₁):Es G A C env W (.Assign [.Name x.name p] e pos) σ η .next σ₁ (η.set x.slot (some v)):=λρ s R N ht =>
 wpAny_Assign_Name (h.use R N ht λcv au aa am aR aS aA=>RE.store am.rel aR hx ho aA λaG aB cn=>⟨aa,am.toW.trans aB,cn,rfl⟩) (eT hc _ _)
noncomputable def j11{α:Type}:Sem α->Option α
 | .pure a=>some a
 | _=>none
theorem ea1{α:Type}{x:Sem α}{a:α}(h:j11 x=some a):x=Pure.pure a:=by cases x <;> first | exact nso h | exact congrArg Sem.pure (siX h)
noncomputable def ks1(C:Cx):Env:={ scope:=C.scope,locals:=0,globals:=0,cells:=[] }
noncomputable def mV(C:Cx)(ts:List Expr)(value:Expr):Option (Option (List Str)):=j11 (swappedStores [.Tuple ts 0 ⟨0,0,0,0⟩] value (ks1 C))
theorem yr{ts:List Expr}{k}{p:Pos}{value:Expr}(hs:env.scope=C.scope):swappedStores [.Tuple ts k p] value env=swappedStores [.Tuple ts 0 ⟨0,0,0,0⟩] value (ks1 C):=by
 obtain ⟨sc,lo,gl,ce,qu,fu,co,fr,bl⟩:=env
 have e:sc=C.scope:=hs
 subst e
 cases value <;> rfl
theorem gY{ts:List Expr}{k}{p:Pos}{value:Expr}{r:Option (List Str)}(hs:env.scope=C.scope)(hf:C.scope.kind=.function)(h:mV C ts value=some r) :
  swappedStores [.Tuple ts k p] value env=pure r:=(yr hs).trans (ea1 h)
theorem Es.asgT{ts:List Expr}{xs:List Var}{k}{e:Expr}{p pos:Pos}{vs:List V}(hh:A.handled=none)(hc:dM e=true)(hw:mV C ts e=some none)(hn:Names C ts xs)(hl:vs.length=xs.length)
  (h:Ev G A C env W e σ η (.tup vs) σ₁):Es G A C env W (.Assign [.Tuple ts k p] e pos) σ η .next σ₁ (kl η xs vs):=λρ s R N ht =>
 Assign_Tuple (h.use R N ht λcv au aa am aR aS aA=>wpAny_mono (As.tup hh hn hl σ₁ aa au cv am.rel aR aA) ((by rintro _ aG ⟨aB,cn⟩;exact⟨aa,am.toW.trans aB,cn,rfl⟩)) λ_ _ f=>f.elim)
  (show swapsWith e (some (.Tuple ts k p)) pos.line env=pure false from eT hc _ _) (gY N.sc (Cx.ok_parts N.ok).1 hw)
theorem Es.asg2{x y:Var}{ts:List Expr}{k}{e:Expr}{p pos:Pos}{u v:V}(hh:A.handled=none)(hc:dM e=true)(hw:mV C ts e=some (some [x.name,y.name]))
  (hx:x∈C.vars) (hxo:x.own=true) (hy:y∈C.vars) (hyo:y.own=true)
  (h:Ev G A C env W e σ η (.tup [u,v]) σ₁):Es G A C env W (.Assign [.Tuple ts k p] e pos) σ η .next σ₁ ((η.set y.slot (some v)).set x.slot (some u)):=λρ s R N ht =>
 Assign_Tuple_swapped (names:=[x.name,y.name]) (h.use R N ht λcv au aa am aR aS aA=>by
  obtain ⟨hlim,a,cvs,h_p⟩:=RV.tup_iff aA;obtain rfl:=h_p.1;have ho:=h_p.2.1;have hpl:=h_p.2.2.1;have hr:=h_p.2.2.2
  have hsz:cvs.size=2:=by have:=RVs.length hr;exact this
  rw[show [x.name,y.name].length=cvs.size by rw[hsz];rfl]
  refine wpAny_unpackItems_tuple hh hpl.isTuple λh' he=>?_
  refine byQ λQ kQ=>?_
  have hk:∀ b o,au.heap.get? b=some o->h'.get? b=some o:=λb o e=>he b o (Nat.ne_of_lt (Heap.lt_size e)) e
  have S:Step G aa au aa { au with heap:=h' } σ₁:=Step.grow am.rel hk ⟨_,_,rfl⟩
  have cn:=aR.mono am.rel S
  refine cC (RVs.cons_iff (RVs.sameHeap hk hr)) λbz r' h_p=>?_;have e1:=h_p.1;have q1:=h_p.2.1;have q2:=h_p.2.2
  refine cC (RVs.cons_iff q2) λb7 r'' h_p=>?_;have e2:=h_p.1;have q3:=h_p.2.1;have q4:=h_p.2.2
  rw[RVs.nil_iff q4] at e2
  refine kQ ?_
  rw[e1,e2]
  show wpAny _ _ (assignInOrder [bindName env y.name,bindName env x.name] [b7,bz]) _ _ _
  rw[aio]
  refine wpAny_bind (wpAny_holding (wpAny_bindName (RE.store S.rel cn hy hyo q3 λaG aB mP=>?_)))
  rw[aio]
  refine wpAny_bind (wpAny_holding (wpAny_bindName (RE.store aB.rel mP hx hxo (RV.mono (StepW.keepV S.rel cn.wk aB) _ _ q1) λd9 bP mH=>?_)))
  exact wpAny_pure ⟨aa,am.toW.trans (S.toW.trans (aB.trans bP)),mH,rfl⟩)
  (show swapsWith e (some (.Tuple ts k p)) pos.line env=pure false from eT hc _ _) (gY N.sc (Cx.ok_parts N.ok).1 hw)
theorem Es.aug{x:Var}{e:Expr}{op:Operator}{p pos:Pos}{u v w:V}(hx:x∈C.vars)(ho:x.own=true)(hu:η[x.slot]?=some (some u))(h:Ev G A C env W e σ η v σ₁)
  (hop:On G A (fun | [a,b]=>inplaceOp op a b | _=>pure .none) σ₁ [u,v] w σ₂):Es G A C env W (.AugAssign (.Name x.name p) op e pos) σ η .next σ₂ (η.set x.slot (some w)):=λρ s R N ht =>
 wpAny_AugAssign_Name (RE.load R N hx hu λm61 iA1=>h.use R N ht λcv au aa am aR aS aA =>
  hop.use am.rel (RVs.cons (RV.mono (Step.keepV R am) _ _ iA1) (RVs.cons aA RVs.nil)) aS λb7 aG aC aB c0 aL =>
   RE.store aB.rel (aR.mono am.rel aB) hx ho aL λd9 bP mP=>⟨aC,am.toW.trans (aB.toW.trans bP),mP,rfl⟩)
theorem eH(N:RE G C env W η ρ s):interactive env=false:=by
 dsimp only[interactive]
 rw[N.sc,(Cx.ok_parts N.ok).1];rfl
theorem Es.expr{e:Expr}{pos:Pos}{v:V}(hc:dM e=true)(h:Ev G A C env W e σ η v σ₁):Es G A C env W (.Expr e pos) σ η .next σ₁ η:=λρ s R N ht =>
 wpAny_Expr_any (h.use R N ht λcv au aa am aR aS aA=>⟨aa,am.toW,aR,rfl⟩) (eH N) (eT hc _ _)
theorem Es.ret{e:Expr}{pos:Pos}{v:V}(h:Ev G A C env W e σ η v σ₁):Es G A C env W (.Return (some e) pos) σ η (.ret v) σ₁ η:=λρ s R N ht =>
 wpAny_Return_some (h.use R N ht λcv au aa am aR aS aA=>⟨aa,am.toW,aR,cv,rfl,aA⟩)
theorem Es.brk{pos:Pos}:Es G A C env W (.Break pos) σ η .brk σ η:=λρ s R N ht=>wpAny_Break ⟨ρ,(Step.refl R).toW,N,rfl⟩
theorem Es.pass{pos:Pos}:Es G A C env W (.Pass pos) σ η .next σ η:=λρ s R N ht=>wpAny_Pass ⟨ρ,(Step.refl R).toW,N,rfl⟩
theorem Es.assert{e:Expr}{pos:Pos}(hh:A.handled=none)(h:Et G A C env W e σ η true σ₁):Es G A C env W (.Assert e none pos) σ η .next σ₁ η:=λρ s R N ht =>
 wpAny_Assert_new hh (h.use R N ht λau aa am aR aS=>by
  rw[if_pos rfl]
  exact⟨aa,am.toW,aR,rfl⟩)
theorem Es.if_{e:Expr}{b o:List Stmt}{pos:Pos}{c:Bool}{fl:Fl}(h:Et G A C env W e σ η c σ₁)(hb:c=true->Ess G A C env W b σ₁ η fl σ₂ η₂)(ho:c=false->Ess G A C env W o σ₁ η fl σ₂ η₂) :
  Es G A C env W (.If e b o pos) σ η fl σ₂ η₂:=λρ s R N ht =>
 wpAny_If (h.use R N ht λau aa am aR aS=>by
  cases c with
  | true=>rw[if_pos rfl];exact(hb rfl).use am.rel aR aS λf aG aC aB cn c0 aL=>⟨aC,am.toW.trans aB,cn,aL⟩
  | false=>rw[if_neg (by decide)];exact(ho rfl).use am.rel aR aS λf aG aC aB cn c0 aL=>⟨aC,am.toW.trans aB,cn,aL⟩)
noncomputable def Od(G:Wd)(A:Around)(σ:List AO)(u v:V)(σ':List AO):Prop :=
 ∀ ρ s bz b7,Rel G σ ρ s->RV s.heap ρ u bz->RV s.heap ρ v b7->0<s.toks->wpAny (model G.prog G.w) A (delItem bz b7) (λ_ s'=>∃ ρ',Step G ρ s ρ' s' σ') No s
theorem Es.del{o i:Expr}{p pos:Pos}{u v:V}(dJ:Ev G A C env W o σ η u σ₁)(cV:Ev G A C env W i σ₁ η v σ₂)
  (hop:Od G A σ₂ u v aq):Es G A C env W (.Delete [.Subscript o i p] pos) σ η .next aq η:=λρ s R N ht=>by
 refine wpAny_Delete ?_
 rw[arm_deleteEach_cons]
 refine wpAny_bind ?_
 rw[arm_delete_Subscript]
 refine wpAny_bind (dJ.use R N ht λbz au aa am aR aS aA=>wpAny_bind (wpAny_holding (cV.use am.rel aR aS λb7 aG aC aB cn c0 aL=>?_)))
 refine wpAny_bind (wpAny_standAt (wpAny_bind (wpAny_holding (wpAny_mono (hop aC aG bz b7 aB.rel (RV.mono (Step.keepV am.rel aB) _ _ aA) aL c0) (λ_ d9 ⟨bA,bP⟩=>?_) λ_ _ f=>f.elim))))
 exact wpAny_release (wpAny_deleteEach_nil ⟨bA,Step.toW (am.trans (aB.trans bP)),cn.mono aB.rel bP,rfl⟩)
end
noncomputable def WhR(G:Wd)(A:Around)(C:Cx)(env:Env)(W:List Addr)(test:Expr)(body:List Stmt):Nat->List AO->ac->Fl->List AO->ac->Prop
 | 0,σ,η,fl,σ',η'=>(Et G A C env W test σ η false σ'/\fl=.next/\η'=η)\/∃ σ₁,Et G A C env W test σ η true σ₁/\((fl=.next/\Ess G A C env W body σ₁ η .brk σ' η')\/∃ v,fl=.ret v/\Ess G A C env W body σ₁ η (.ret v) σ' η')
 | n+1,σ,η,fl,σ',η'=>∃ σ₁ σ₂ η₂,Et G A C env W test σ η true σ₁/\Ess G A C env W body σ₁ η .next σ₂ η₂/\WhR G A C env W test body n σ₂ η₂ fl σ' η'
noncomputable def FoR(G:Wd)(A:Around)(C:Cx)(env:Env)(W:List Addr)(tg:Expr)(body:List Stmt):Nat->ItS->List AO->ac->Fl->List AO->ac->Prop
 | 0,st,σ,η,fl,σ',η'=>(st.step σ=some none/\fl=.next/\σ'=σ/\η'=η)\/∃ x st' η₁,st.step σ=some (some (x,st'))/\As G A C env W tg x η η₁/\((fl=.next/\Ess G A C env W body σ η₁ .brk σ' η')\/∃ v,fl=.ret v/\Ess G A C env W body σ η₁ (.ret v) σ' η')
 | n+1,st,σ,η,fl,σ',η'=>∃ x st' η₁ σ₂ η₂,st.step σ=some (some (x,st'))/\As G A C env W tg x η η₁/\Ess G A C env W body σ η₁ .next σ₂ η₂/\FoR G A C env W tg body n st' σ₂ η₂ fl σ' η'
section
variable {G:Wd} {A:Around} {C:Cx} {env:Env} {W W':List Addr} {η η' η₁ η₂ bj:ac} {σ σ' σ₁ σ₂ aq:List AO} {ρ ρ' aa:Rho} {s s' au aG:Shared}
section
variable {test tg:Expr} {body:List Stmt} {n:Nat} {fl:Fl} {v x:V} {st st':ItS}
theorem WhR.stop(h:Et G A C env W test σ η false σ₁):WhR G A C env W test body 0 σ η .next σ₁ η:=.inl ⟨h,rfl,rfl⟩
theorem WhR.turn(h:Et G A C env W test σ η true σ₁)(hb:Ess G A C env W body σ₁ η .next σ₂ η₂)(hr:WhR G A C env W test body n σ₂ η₂ fl aq bj):WhR G A C env W test body (n+1) σ η fl aq bj:=⟨_,_,_,h,hb,hr⟩
theorem WhR.brk(h:Et G A C env W test σ η true σ₁)(hb:Ess G A C env W body σ₁ η .brk σ₂ η₂):WhR G A C env W test body 0 σ η .next σ₂ η₂:=.inr ⟨_,h,.inl ⟨rfl,hb⟩⟩
theorem WhR.ret(h:Et G A C env W test σ η true σ₁)(hb:Ess G A C env W body σ₁ η (.ret v) σ₂ η₂):WhR G A C env W test body 0 σ η (.ret v) σ₂ η₂:=.inr ⟨_,h,.inr ⟨v,rfl,hb⟩⟩
theorem FoR.stop(h:st.step σ=some none):FoR G A C env W tg body 0 st σ η .next σ η:=.inl ⟨h,rfl,rfl,rfl⟩
theorem FoR.turn(h:st.step σ=some (some (x,st')))(ha:As G A C env W tg x η η₁)(hb:Ess G A C env W body σ η₁ .next σ₂ η₂)(hr:FoR G A C env W tg body n st' σ₂ η₂ fl aq bj):FoR G A C env W tg body (n+1) st σ η fl aq bj:=⟨_,_,_,_,_,h,ha,hb,hr⟩
theorem FoR.brk(h:st.step σ=some (some (x,st')))(ha:As G A C env W tg x η η₁)(hb:Ess G A C env W body σ η₁ .brk σ₂ η₂):FoR G A C env W tg body 0 st σ η .next σ₂ η₂:=.inr ⟨_,_,_,h,ha,.inl ⟨rfl,hb⟩⟩
theorem FoR.ret(h:st.step σ=some (some (x,st')))(ha:As G A C env W tg x η η₁)(hb:Ess G A C env W body σ η₁ (.ret v) σ₂ η₂):FoR G A C env W tg body 0 st σ η (.ret v) σ₂ η₂:=.inr ⟨_,_,_,h,ha,.inr ⟨v,rfl,hb⟩⟩
end
inductive WInv (G:Wd) (A:Around) (C:Cx) (env:Env) (W:List Addr) (test:Expr) (body:List Stmt) (fl:Fl) (σ':List AO) (η':ac) (ρ:Rho) (s:Shared) (m:Nat) (s':Shared):Prop
 | mk (σ₁:List AO) (η₁:ac) (aa:Rho) (H:WhR G A C env W test body m σ₁ η₁ fl σ' η') (S:StepW G W ρ s aa s' σ₁) (N:RE G C env W η₁ aa s') (t:0<s'.toks)
theorem Es.while{test:Expr}{body:List Stmt}{pos:Pos}{n:Nat}{fl:Fl}(H:WhR G A C env W test body n σ η fl σ' η'):Es G A C env W (.While test body [] pos) σ η fl σ' η':=λρ s R N ht=>by
 refine wpAny_While ?_
 refine codeAny_whileLoop (I:=WInv G A C env W test body fl σ' η' ρ s) ?_ n ⟨σ,η,ρ,H,(Step.refl R).toW,N,ht⟩
 rintro m au ⟨σ₁,η₁,aa,xX,am,aR,aS⟩
 cases m with
 | succ m =>
  refine byQ λQ kQ=>?_
  refine ei (xX) λ_ _ _ h_p=>?_;have h:=h_p.1;have hb:=h_p.2.1;have hr:=h_p.2.2
  refine kQ ?_
  refine h.use am.rel aR aS λaG aC aB cn c0=>?_
  rw[if_pos rfl]
  refine hb.use aB.rel cn c0 λf d9 bA bP mP ka gn=>?_
  have e:f=.next:=gn
  subst e
  exact⟨_,Nat.lt_succ_self _,⟨_,_,bA,hr,am.trans (aB.toW.trans bP),mP,ka⟩⟩
 | zero =>
  refine Or.elim (xX) (λh_l=>?_) (λh_r=>?_)
  ·obtain ⟨h,rfl,rfl⟩:=h_l
   refine h.use am.rel aR aS λaG aC aB cn c0=>?_
   rw[if_neg (by decide)]
   exact wpAny_execs_nil ⟨aC,am.trans aB.toW,cn,rfl⟩
  ·obtain ⟨_,h,xX⟩:=h_r
   refine h.use am.rel aR aS λaG aC aB cn c0=>?_
   rw[if_pos rfl]
   rcases xX with ⟨rfl,hb⟩ | ⟨v,rfl,hb⟩
   ·refine hb.use aB.rel cn c0 λf d9 bA bP mP ka gn=>?_
    have e:f=.brk:=gn
    subst e
    exact⟨bA,am.trans (aB.toW.trans bP),mP,rfl⟩
   ·refine hb.use aB.rel cn c0 λf d9 bA bP mP ka gn=>?_
    obtain ⟨cv,h_p⟩:=gn;obtain rfl:=h_p.1;have hv:=h_p.2
    exact⟨bA,am.trans (aB.toW.trans bP),mP,cv,rfl,hv⟩
theorem FoR.step_ok{tg:Expr}{body:List Stmt}{n:Nat}{st:ItS}{fl:Fl}(H:FoR G A C env W tg body n st σ η fl σ' η'):st.step σ≠none:=by
 cases n with
 | zero=>exact H.elim (λh e=>nomatch h.1.symm.trans e) (by rintro ⟨_,_,_,h,_⟩ e;exact nomatch h.symm.trans e)
 | succ n=>refine li1 (H) λ_ _ _ _ _ h _=>?_;exact λe=>nomatch h.symm.trans e
theorem JI.letOwned{tg:Expr}{I:Addr}{cv:Value}{st:ItS}(J:JI s.heap ρ I st){Q:Unit->Shared->Prop}{E:Value->Shared->Prop}(h:Q () s):wpAny (model G.prog G.w) A (letOwnedTupleGo tg (.ref I) cv) Q E s:=by
 refine oS (J.cls) λo T ho hc hT=>?_
 have hno:["enumerate","zip","dict_itemiterator","dict_reverseitemiterator","odict_iterator","itertools.zip_longest","itertools.pairwise"].contains T=false:=by
  revert hT;unfold nO;intro hT
  simp only[List.mem_cons,List.not_mem_nil,or_false] at hT
  rcases hT with rfl | rfl | rfl | rfl | rfl <;> decide
 have main:∀ a:Addr,wpAny (model G.prog G.w) A (do
   let o ← load I
   match o.cls,o.data with
   | .type n,.fields vs =>
    if ["enumerate","zip","dict_itemiterator","dict_reverseitemiterator","odict_iterator","itertools.zip_longest","itertools.pairwise"].contains n&&vs[0]?==some (rawInt a) then
     rule "for.unpacks-the-owned-tuple"
     updateField I 0 .none
   | _,_=>pure ()) Q E s:=by
  intro a
  refine wpAny_bind (wpAny_load ho ?_)
  refine(hc)▸?_
  cases o.data <;> first
   | exact wpAny_pure h
   | (dsimp only;rw[hno,Bool.false_and];exact wpAny_pure h)
 unfold letOwnedTupleGo
 cases tg <;> first
  | exact wpAny_pure h
  | (cases cv <;> first | exact wpAny_pure h | exact main _)
theorem StepW.ofNew{I:Addr}(S:StepW G (I::W) ρ s ρ' s' σ')(h:s.heap.get? I=none):StepW G W ρ s ρ' s' σ' :=
 S.drop λb hb hne=>by
  rcases List.mem_cons.mp hb with e | hb
  ·rw[e] at hne;exact absurd h hne
  ·exact hb
theorem RE.iterStep{I:Addr}{st:ItS}(N:RE G C env W η ρ s)(J:JI s.heap ρ I st)(hI:I ∉ W)(K:KeepV s.heap ρ s'.heap ρ)(hs:Heap.ExtBut I s.heap s'.heap):RE G C env W η ρ s' :=
 N.keepAll K (λb hb o e=>hs b o (by rintro rfl;exact hI hb) e) λc o v e hd _=>hs c o (by
  rintro rfl
  refine aQ (J.no_cell) λo' e' hno=>?_
  rw[e] at e';obtain rfl:=siX e'
  exact hno v hd) e
theorem nc{I:Addr}{st st':ItS}{x:V}(hst:st.step σ=some (some (x,st')))(R:Rel G σ ρ s)(J:JI s.heap ρ I st)(N:RE G C env W η ρ s)(hI:I ∉ W)
  (hoff:Off ρ I) (hbase:G.s₀.heap.get? I=none) (hloose:I ∉ G.loose) {Q:Option Value->Shared->Prop} {E:Value->Shared->Prop}
  (k:∀ cv s',StepW G (I::W) ρ s ρ s' σ->RE G C env W η ρ s'->RV s'.heap ρ x cv->JI s'.heap ρ I st'->Q (some cv) s'):wpAny (model G.prog G.w) A (pyNext (.ref I)) Q E s :=
 iT hst R J hoff hbase hloose λcv s' S K r J'=>by
  refine k cv s' (S.weaken λb hb=>by rw[List.mem_singleton.mp hb];exact List.mem_cons_self) ?_ r J'
  refine N.keepAll K (λb hb o e=>S.keep b o e (N.wok b hb).1.1 (by rw[List.mem_singleton];rintro rfl;exact hI hb) (N.wok b hb).2.2) λc o v e hd ho=>?_
  refine S.keep c o e ho.1 (by
   rw[List.mem_singleton];rintro rfl
   refine aQ (J.no_cell) λo' e' hno=>?_
   rw[e] at e';obtain rfl:=siX e'
   exact hno v hd) (cT R e hd)
theorem StepW.closeNew{I:Addr}{fQ:Rho}{s₀:Shared}{h':Heap}{t:Nat}(mO:StepW G (I::W) fQ s₀ ρ s σ)(hnew:s₀.heap.get? I=none)(hns:∃ o,s.heap.get? I=some o/\¬ Solid o)(hs:Heap.ExtBut I s.heap h')
  (hoff:Off ρ I) (hbase:G.s₀.heap.get? I=none) (hloose:I ∉ G.loose):StepW G W fQ s₀ ρ { s with heap:=h',toks:=t } σ/\KeepV s.heap ρ h' ρ:=by
 refine byQ λQ kQ=>?_
 obtain ⟨oi,hoi,hni⟩:=hns
 have R:=mO.rel
 have K:KeepV s.heap ρ h' ρ:=⟨⟨[],(List.append_nil _).symm,λ_ h=>nomatch h⟩,λ_ h=>.inl h,λb o e _ hsol=>hs b o (by rintro rfl;rw[hoi] at e;obtain rfl:=siX e;exact hni hsol) e⟩
 have R':Rel G σ ρ { s with heap:=h',toks:=t }:=by
  refine⟨R.len,R.inj,λj p o hp hx'=>?_,R.fresh,λb o hl e=>?_,λb hb=>?_,?_,R.bare,λb hb=>?_⟩
  ·have hp':=hoff.1 p (List.mem_of_getElem? hp)
   exact(R.obj j p o hp hx').mono K (λy e=>hs _ y hp'.1 e) λy e=>hs _ y hp'.2 e
  ·exact hs b o (by rintro rfl;rw[hbase] at e;exact nso e) (R.keep b o hl e)
  ·obtain ⟨vs,h_p⟩:=R.lse b hb;have e:=h_p.1;have etr:=h_p.2
   exact⟨vs,hs b _ (by rintro rfl;exact hloose hb) e,etr⟩
  ·refine ei (R.same) λh tk gs e=>?_
   exact dy1 h' t gs (by rw[e])
  ·show h'.get? b≠none
   refine gp (s.heap.get? b) (λe=>?_) (λx e=>?_)
   ·exact absurd e (R.hidden b hb)
   ·rw[hs b x (by rintro rfl;exact hoff.2 hb) e];exact nofun
 refine kQ ?_
 refine⟨⟨R',mO.ext,λb o e ho hw hl=>?_,λb hb hne=>?_⟩,K⟩
 ·have hbI:b≠I:=by rintro rfl;rw[hnew] at e;exact nso e
  exact hs b o hbI (mO.keep b o e ho (by rw[List.mem_cons];rintro (h | h);exact hbI h;exact hw h) hl)
 ·have hbI:b≠I:=by rintro rfl;exact hne hnew
  have:=mO.wal b (List.mem_cons_of_mem _ hb) hne
  show h'.get? b≠none
  refine gp (s.heap.get? b) (λe=>?_) (λx e=>?_)
  ·exact absurd e this
  ·rw[hs b x hbI e];exact nofun
theorem na{I:Addr}{st:ItS}{fQ:Rho}{s₀:Shared}(hh:A.handled=none)(hst:st.step σ=some none)(mO:StepW G (I::W') fQ s₀ ρ s σ)(hnew:s₀.heap.get? I=none)(J:JI s.heap ρ I st)(N:RE G C env W η ρ s)(hI:I ∉ W)
  (hoff:Off ρ I) (hbase:G.s₀.heap.get? I=none) (hloose:I ∉ G.loose) {Q:Option Value->Shared->Prop} {E:Value->Shared->Prop}
  (k:∀ s',StepW G W' fQ s₀ ρ s' σ->RE G C env W η ρ s'->KeepV s.heap ρ s'.heap ρ->Heap.ExtBut I s.heap s'.heap->Q none s'):wpAny (model G.prog G.w) A (pyNext (.ref I)) Q E s :=
 iS hh hst mO.rel J hoff hbase hloose λs' ⟨h',e,hs⟩=>by
  subst e
  refine gq (mO.closeNew (t:=s.toks) hnew J.not_solid hs hoff hbase hloose) λS K=>?_
  exact k _ S (N.iterStep J hI K hs) K hs
noncomputable def g9(e:Expr):Bool:=!(e.ctorIdx==7)
theorem dT{e:Expr}(h:g9 e=true)(x:Value):foldedSetIterable e env x=pure x:=by
 cases e <;> first | rfl | exact ftr h
structure NewI (G:Wd) (W:List Addr) (ρ:Rho) (s:Shared) (I:Addr):Prop where
 new:s.heap.get? I=none
 base:G.s₀.heap.get? I=none
 loose:I ∉ G.loose
 notW:I ∉ W
theorem lt1(R:Rel G σ ρ s)(N:RE G C env W η ρ s):NewI G W ρ s s.heap.objs.size where
 new:=aN _
 base:=by
  cases e:G.s₀.heap.get? s.heap.objs.size with
  | none=>rfl
  | some x =>
   by_cases hl:s.heap.objs.size∈G.loose
   ·refine aQ (R.lse _ hl) λvs e' etr=>?_
    rw[aN] at e';exact nso e'
   ·have:=R.keep _ _ hl e
    rw[aN] at this;exact nso this
 loose:=λhl=>by
  refine aQ (R.lse _ hl) λvs e' etr=>?_
  rw[aN] at e';exact nso e'
 notW:=λhw=>by
  refine a4 (N.wk _ hw) λo h_p=>?_;have e:=h_p.1
  rw[aN] at e;exact nso e
theorem StepW.offI{I:Addr}(S:StepW G W' ρ s ρ' s' σ')(h:s.heap.get? I≠none)(ho:Off ρ I):Off ρ' I :=
 ⟨S.off h ho.1,by refine aQ (S.ext) λnew e _=>?_;rw[e];exact ho.2⟩
theorem lZ{tg:Expr}{body:List Stmt}{I:Addr}{st st':ItS}{x:V}{fl:Fl}{E:Value->Shared->Prop}{gW1:Shared->Prop}{Q:Flow->Shared->Prop}{fQ:Rho}{s₀:Shared}(Z:NewI G W fQ s₀ I)(R:Rel G σ ρ s)(N:RE G C env W η ρ s)(J:JI s.heap ρ I st)(ho:Off ρ I)(t:0<s.toks)
  (hst:st.step σ=some (some (x,st'))) (ha:As G A C env W tg x η η₁) (hb:Ess G A C env W body σ η₁ fl σ' η')
  (k:∀ f s' ρ',StepW G (I::W) ρ s ρ' s' σ'->RE G C env W η' ρ' s'->JI s'.heap ρ' I st'->Off ρ' I->0<s'.toks->RF s'.heap ρ' fl f->Q f s') :
  wpAny (model G.prog G.w) A (pyNext (.ref I)) (λr au=>match r with
    | none=>gW1 au
    | some v=>wpAny (model G.prog G.w) A (letOwnedTupleGo tg (.ref I) v) (λ_ yq =>
      wpAny (model G.prog G.w) A (assign tg env v) (λ_ aG=>wpAny (model G.prog G.w) A (execs body env) Q E aG) E yq) E au) E s:=by
 refine wpAny_with_toks (Nat.le_refl _) (nc hst R J N Z.notW ho Z.base Z.loose λcv k9 jD mH yM g21 fX1=>?_)
 have keepI:∀ {ρa ρb:Rho} {sa sb:Shared} {σb:List AO},StepW G W ρa sa ρb sb σb->WOk W sa.heap->Rel G σ ρa sa->JI sa.heap ρa I st'->Off ρa I->JI sb.heap ρb I st'/\Off ρb I:=λS hwk Ra Ja ho =>
  ⟨Ja.keep (StepW.keepV Ra hwk S) λo e=>S.keep I o e ho.1 Z.notW Z.loose,S.offI (by
   refine cC (Ja.cls) λo _ h_p=>?_;have e:=h_p.1
   rw[e];exact nofun) ho⟩
 refine g21.letOwned (eo (ha σ ρ k9 cv jD.rel mH yM) λ_ oR fW1 xZ=>?_)
 have dB1:=keepI xZ.1 mH.wk jD.rel g21 ho
 refine hb.use xZ.1.rel xZ.2 (Nat.lt_of_lt_of_le (Nat.lt_of_lt_of_le t fX1) fW1) λf jX1 aT1 dA1 jK1 h71 iy1=>?_
 have kD1:=keepI dA1 xZ.2.wk xZ.1.rel dB1.1 dB1.2
 exact k f jX1 aT1 (jD.trans ((xZ.1.trans dA1).weaken λb hb=>List.mem_cons_of_mem _ hb)) jK1 kD1.1 kD1.2 h71 iy1
inductive FInv (G:Wd) (A:Around) (C:Cx) (env:Env) (W:List Addr) (tg:Expr) (body:List Stmt) (fl:Fl) (σ':List AO) (η':ac) (I:Addr) (ρ:Rho) (s:Shared) (m:Nat) (s':Shared):Prop
 | mk (st:ItS) (σ₁:List AO) (η₁:ac) (aa:Rho) (H:FoR G A C env W tg body m st σ₁ η₁ fl σ' η') (S:StepW G (I::W) ρ s aa s' σ₁) (N:RE G C env W η₁ aa s') (J:JI s'.heap aa I st) (o:Off aa I) (t:0<s'.toks)
theorem Es.for_{tg iter:Expr}{body:List Stmt}{pos:Pos}{n:Nat}{v:V}{st:ItS}{fl:Fl}(hh:A.handled=none)(hs:g9 iter=true)(h:Ev G A C env W iter σ η v σ₁)(hi:bh v=some st)
  (H:FoR G A C env W tg body n st σ₁ η fl σ' η'):Es G A C env W (.For tg iter body [] pos) σ η fl σ' η':=λρ s R N ht=>by
 refine wpAny_For (h.use R N ht λcv au aa am aR aS aA=>?_) (λx=>dT hs x)
 refine wpAny_with_toks (Nat.le_refl _) (iU hi H.step_ok am.rel aA λaG aB hk hoff J hle=>?_)
 have NI:=lt1 am.rel aR
 generalize au.heap.objs.size=I at *
 -- the loop,told from au
 refine codeAny_forLoop_any (I:=FInv G A C env W tg body fl σ' η' I aa au) ?_ n
  ⟨st,σ₁,η,aa,H,aB.toW,aR.mono am.rel aB,J,hoff,Nat.lt_of_lt_of_le aS hle⟩
 rintro m d9 ⟨st',aq,bj,bA,hO1,bP,mP,hM1,lY,ka⟩
 have close:∀ {f:Flow} {iD:Rho} {k9:Shared},StepW G (I::W) aa au iD k9 σ'->RE G C env W η' iD k9->RF k9.heap iD fl f->PS G C env W ρ s σ' η' fl f k9 :=
  λjD mH r=>⟨_,am.toW.trans (jD.ofNew NI.new),mH,r⟩
 cases m with
 | succ m =>
  refine byQ λQ kQ=>?_
  refine j51 (hO1) λ_ _ _ _ _ hst ha hb hr=>?_
  refine kQ ?_
  refine lZ NI bP.rel mP hM1 lY ka hst ha hb λf oR fP fN x8 dB1 qm yj yL=>?_
  have e:f=.next:=yL
  subst e
  exact⟨_,Nat.lt_succ_self _,⟨_,_,_,fP,hr,bP.trans fN,x8,dB1,qm,yj⟩⟩
 | zero =>
  rcases hO1 with ⟨hst,rfl,rfl,rfl⟩ | ⟨_,_,_,hst,ha,hO1⟩
  ·refine na hh hst bP NI.new hM1 mP NI.notW lY NI.base NI.loose λk9 jD mH _ _=>?_
   exact wpAny_execs_nil ⟨bA,am.toW.trans jD,mH,rfl⟩
  ·rcases hO1 with ⟨rfl,hb⟩ | ⟨v,rfl,hb⟩
   ·refine lZ NI bP.rel mP hM1 lY ka hst ha hb λf oR fP fN x8 dB1 qm yj yL=>?_
    have e:f=.brk:=yL
    subst e
    exact close (bP.trans fN) x8 rfl
   ·refine lZ NI bP.rel mP hM1 lY ka hst ha hb λf oR fP fN x8 dB1 qm yj yL=>?_
    obtain ⟨cv,h_p⟩:=yL;obtain rfl:=h_p.1;have hv:=h_p.2
    exact close (bP.trans fN) x8 ⟨cv,rfl,hv⟩
end
noncomputable def Tc(G:Wd)(A:Around)(C:Cx)(env:Env)(W:List Addr)(ifs:List Expr)(σ:List AO)(η:ac)(b:Bool)(σ':List AO):Prop :=
 (ifs=[]/\b=true/\σ'=σ)\/∃ c,ifs=[c]/\Et G A C env W c σ η b σ'
noncomputable def CoR(G:Wd)(A:Around)(C:Cx)(env:Env)(W:List Addr)(tg elt:Expr)(ifs:List Expr):Nat->ItS->List AO->ac->List V->List AO->Prop
 | 0,st,σ,η,out,σ'=>st.step σ=some none/\out=[]/\σ'=σ
 | n+1,st,σ,η,out,σ'=>∃ x st' η₁ σ₁,st.step σ=some (some (x,st'))/\As G A C env W tg x η η₁/\((Tc G A C env W ifs σ η₁ false σ₁/\CoR G A C env W tg elt ifs n st' σ₁ η₁ out σ') \/
   ∃ v σ₂ o,Tc G A C env W ifs σ η₁ true σ₁/\Ev G A C env W elt σ₁ η₁ v σ₂/\CoR G A C env W tg elt ifs n st' σ₂ η₁ o σ'/\out=v::o)
section
variable {G:Wd} {A:Around} {C C':Cx} {env cenv:Env} {W W':List Addr} {η η' η₁ η₂ bj:ac} {σ σ' σ₁ σ₂ aq:List AO} {ρ ρ' aa:Rho} {s s' au aG:Shared}
section
variable {tg elt:Expr} {ifs:List Expr} {n:Nat} {st st':ItS} {x v:V} {out:List V}
theorem CoR.stop(h:st.step σ=some none):CoR G A C env W tg elt ifs 0 st σ η [] σ:=⟨h,rfl,rfl⟩
theorem CoR.skip(h:st.step σ=some (some (x,st')))(ha:As G A C env W tg x η η₁)(hc:Tc G A C env W ifs σ η₁ false σ₁)(hr:CoR G A C env W tg elt ifs n st' σ₁ η₁ out σ'):CoR G A C env W tg elt ifs (n+1) st σ η out σ':=⟨_,_,_,_,h,ha,.inl ⟨hc,hr⟩⟩
theorem CoR.item(h:st.step σ=some (some (x,st')))(ha:As G A C env W tg x η η₁)(hc:Tc G A C env W ifs σ η₁ true σ₁)(he:Ev G A C env W elt σ₁ η₁ v σ₂)(hr:CoR G A C env W tg elt ifs n st' σ₂ η₁ out σ'):CoR G A C env W tg elt ifs (n+1) st σ η (v::out) σ' :=
 ⟨_,_,_,_,h,ha,.inr ⟨_,_,_,hc,he,hr,rfl⟩⟩
theorem CoR.step_ok(H:CoR G A C env W tg elt ifs n st σ η out σ'):st.step σ≠none:=by
 cases n with
 | zero=>exact λe=>nomatch H.1.symm.trans e
 | succ n=>refine iI1 (H) λ_ _ _ _ h _=>?_;exact λe=>nomatch h.symm.trans e
end
theorem Tc.use{ifs:List Expr}{b:Bool}{Q:Bool->Shared->Prop}{E:Value->Shared->Prop}(H:Tc G A C env W ifs σ η b σ')(R:Rel G σ ρ s)(N:RE G C env W η ρ s)(ht:0<s.toks)
  (k:∀ s' ρ',Step G ρ s ρ' s' σ'->RE G C env W η ρ' s'->0<s'.toks->Q b s') :
  wpAny (model G.prog G.w) A (forIn ifs true λc r=>if r=true then do let ok ← isTrue c env (eval c env);pure (ForInStep.yield ok) else pure (ForInStep.yield r)) Q E s:=by
 rcases H with ⟨rfl,rfl,rfl⟩ | ⟨c,rfl,H⟩
 ·exact wpAny_tests_nil (k s ρ (Step.refl R) N ht)
 ·exact wpAny_tests_one (H.use R N ht k)
noncomputable def aR1(M:Model)(A:Around)(target:Expr)(it:Value)(env:Env)(ifs:List Expr)(E:Value->Shared->Prop)(Q:Bool->Shared->Prop)(v:Value)(s:Shared):Prop :=
 wpAny M A (letOwnedTupleGo target it v) (λ_ yq=>wpAny M A (assign target env v) (λ_ aG =>
  wpAny M A (forIn ifs true λc r=>if r=true then do let ok ← isTrue c env (eval c env);pure (ForInStep.yield ok) else pure (ForInStep.yield r)) Q E aG) E yq) E s
noncomputable def NB(M:Model)(A:Around)(env:Env)(R:Result->Shared->Prop):Value->Shared->Prop:=notedBy M A env λe s'=>R (.error e) s'
noncomputable def aS1(M:Model)(A:Around)(it:Value)(E:Value->Shared->Prop)(gW1:Shared->Prop)(Q:Value->Shared->Prop)(s:Shared):Prop:=wpAny M A (pyNext it) (λr au=>match r with
 | none=>gW1 au
 | some v=>Q v au) E s
theorem n9{prog:Program}{w:World}{A:Around}{R:Result->Shared->Prop}{s:Shared}{elt target iter:Expr}{ifs:List Expr}{scope:Scope}{pos:Pos}{it acc:Value}{env:Env}(I:Nat->Shared->Prop)
  (turn:∀ n s,I n s->aS1 (model prog w) A it (NB (model prog w) A env R) (R (.ok .next)) (aR1 (model prog w) A target it env ifs (NB (model prog w) A env R) λok d9 =>
      if ok=true then wpAny (model prog w) A (eval elt env) (λx k9 =>
       wpAny (model prog w) A (call (.builtin "list.append") [acc,x]) (λ_ oR=>∃ m,m<n/\I m oR) (NB (model prog w) A env R) k9) (NB (model prog w) A env R) d9
      else ∃ m,m<n/\I m d9) s)
  (n:Nat) (h:I n s) :
  codeAny (model prog w) A (.compLoop (.ListComp elt [⟨target,iter,ifs,0⟩] scope pos) 0 it acc env) R s:=by
 refine codeAny_loop rfl I (λn s hI=>?_) n h
 show wpAny _ A ((compTurn (.ListComp elt [⟨target,iter,ifs,0⟩] scope pos) 0 it acc env).onRaise (λx=>do noteFrame x env;theTreesLotGoes x)) _ _ s
 refine wpAny_noted ?_
 rw[compTurn_list]
 refine wpAny_bind (wpAny_standAt (wpAny_bind (wpAny_mono (turn n s hI) (λr au dJ=>?_) λ_ _ h'=>h')))
 cases r with
 | none=>exact wpAny_pure dJ
 | some v =>
  refine wpAny_bind (wpAny_mono dJ (λ_ yq i01=>?_) λ_ _ h'=>h')
  refine wpAny_bind (wpAny_mono i01 (λ_ aG cV=>wpAny_bind (wpAny_mono cV (λok d9 hH=>?_) λ_ _ h'=>h')) λ_ _ h'=>h')
  cases ok with
  | false=>exact wpAny_pure ⟨rfl,hH⟩
  | true =>
   exact wpAny_bind (wpAny_bind (wpAny_mono hH (λx k9 fQ1=>wpAny_bind (wpAny_mono fQ1 (λ_ oR xZ=>wpAny_pure (wpAny_pure ⟨rfl,xZ⟩)) λ_ _ h'=>h')) λ_ _ h'=>h'))
theorem xk{D:Addr}{h':Heap}{t:Nat}(R:Rel G σ ρ s)(hD:D∈ρ.hid)(ho:sL ρ D)(hbase:G.s₀.heap.get? D=none)(hloose:D ∉ G.loose)(hs:Heap.ExtBut D s.heap h')(hal:h'.get? D≠none) :
  StepW G [D] ρ s ρ { s with heap:=h',toks:=t } σ/\KeepV s.heap ρ h' ρ:=lh R (List.mem_singleton.mpr rfl) ho hbase hloose (λ_ _ h=>absurd hD h.2) hs hal
theorem JI.pyIter_self{I:Addr}{st:ItS}(J:JI s.heap ρ I st){Q:Value->Shared->Prop}{E:Value->Shared->Prop}(h:Q (.ref I) s):wpAny (model G.prog G.w) A (pyIter (.ref I)) Q E s:=by
 cases J with
 | lst a=>exact wpAny_pyIter_listiter a h
 | tup a=>exact wpAny_pyIter_tupleiter a h
 | ascii a=>exact wpAny_pyIter_striter_ascii a h
 | wide a=>exact wpAny_pyIter_striter_wide a h
 | rng a=>exact wpAny_pyIter_rangeiter a h
 | dyn _ a=>exact wpAny_pyIter_listiter a h
structure CS (G:Wd) (W:List Addr) (I D:Addr):Prop where
 iw:I ∉ W
 ib:G.s₀.heap.get? I=none
 il:I ∉ G.loose
 db:G.s₀.heap.get? D=none
 dl:D ∉ G.loose
 dw:D ∉ W
 di:D≠I
structure CI (ρ:Rho) (s:Shared) (I D:Addr) (st:ItS) (items:Array Value) (done:List V):Prop where
 j:JI s.heap ρ I st
 io:Off ρ I
 pl:s.heap.PlainList D items
 rv:RVs s.heap ρ done items.toList
 hd:D∈ρ.hid
 off:sL ρ D
theorem CI.keep{I D:Addr}{st:ItS}{items:Array Value}{done:List V}(Z:CS G W I D)(R:Rel G σ ρ s)(S:StepW G W ρ s ρ' s' σ')(N:RE G C cenv W η ρ s)(c:CI ρ s I D st items done):CI ρ' s' I D st items done:=by
 have K:=StepW.keepV R N.wk S
 refine⟨c.j.keep K λo e=>S.keep I o e c.io.1 Z.iw Z.il,S.offI ?_ c.io,c.pl.at λo e=>S.keep D o e c.off Z.dw Z.dl,RVs.mono K _ _ c.rv,?_,S.off ?_ c.off⟩
 ·refine cC (c.j.cls) λo _ h_p=>?_;have e:=h_p.1
  exact(e)▸(nofun)
 ·refine a4 (S.ext) λnew h_p=>?_;have e:=h_p.1
  exact(e)▸(c.hd)
 ·refine a4 (c.pl) λ_ e=>?_
  exact(e)▸(nofun)
theorem n7{tg:Expr}{ifs:List Expr}{st st':ItS}{I D:Addr}{items:Array Value}{done:List V}{x:V}{b:Bool}{E:Value->Shared->Prop}{gW1:Shared->Prop}{Q:Bool->Shared->Prop}(Z:CS G W I D)(R:Rel G σ ρ s)(N:RE G C cenv W η ρ s)(c:CI ρ s I D st items done)(aS:0<s.toks)
  (hst:st.step σ=some (some (x,st'))) (ha:As G A C cenv W tg x η η₁) (hc:Tc G A C cenv W ifs σ η₁ b σ')
  (k:∀ oR fP,StepW G (I::W) ρ s fP oR σ'->RE G C cenv W η₁ fP oR->CI fP oR I D st' items done->0<oR.toks->Q b oR):aS1 (model G.prog G.w) A (.ref I) E gW1 (aR1 (model G.prog G.w) A tg (.ref I) cenv ifs E Q) s:=by
 refine wpAny_with_toks (Nat.le_refl _) (iT (G:=G) hst R c.j c.io Z.ib Z.il λcv aG aB kC1 aL hN1 xi=>?_)
 have cn:RE G C cenv W η ρ aG:=N.keepAll kC1 (λb hb o e=>aB.keep b o e (N.wok b hb).1.1 (λh=>Z.iw (List.mem_singleton.mp h▸hb)) (N.wok b hb).2.2) λa o v e hd ho=>by
  refine aB.keep a o e ho.1 (λh=>?_) (cT R e hd)
  refine aQ (c.j.no_cell) λo' e' hno=>?_
  rw[List.mem_singleton.mp h,e'] at e;obtain rfl:=siX e
  exact hno v hd
 have b7:CI ρ aG I D st' items done:=⟨hN1,c.io,c.pl.at λo e=>aB.keep D o e c.off (λh=>Z.di (List.mem_singleton.mp h)) Z.dl,RVs.mono kC1 _ _ c.rv,c.hd,c.off⟩
 refine hN1.letOwned (eo (ha σ ρ aG cv aB.rel cn aL) λ_ d9 fY1 hH=>?_)
 have xF:=b7.keep Z aB.rel hH.1 cn
 refine hc.use hH.1.rel hH.2 (Nat.lt_of_lt_of_le (Nat.lt_of_lt_of_le aS xi) fY1) λk9 iD jD mH ai1=>?_
 exact k k9 iD ((aB.weaken λb hb=>List.mem_singleton.mp hb▸List.mem_cons_self).trans ((hH.1.trans jD.toW).weaken λb hb=>List.mem_cons_of_mem _ hb)) mH (xF.keep Z hH.1.rel jD.toW hH.2) ai1
theorem zS{I D:Addr}{st:ItS}{items:Array Value}{done:List V}{v:V}{cv:Value}{E:Value->Shared->Prop}{Q:Value->Shared->Prop}(Z:CS G W I D)(R:Rel G σ ρ s)(N:RE G C cenv W η ρ s)(c:CI ρ s I D st items done)(t:0<s.toks)(r:RV s.heap ρ v cv)(hl:items.size<=lim)
  (k:∀ u s',StepW G (D::W) ρ s ρ s' σ->RE G C cenv W η ρ s'->CI ρ s' I D st (items.push cv) (done++[v])->0<s'.toks->Q u s'):wpAny (model G.prog G.w) A (call (.builtin "list.append") [.ref D,cv]) Q E s:=by
 refine wpAny_with_toks (Nat.le_refl _) (wpAny_list_append_plain c.pl (λh' hp' hs' hle=>?_) (Nat.le_trans hl (by decide)))
 obtain ⟨jF1,hL1⟩:=xk (t:=s.toks) R c.hd c.off Z.db Z.dl hs'.extBut (by obtain ⟨_,e⟩:=hp';exact(e)▸(nofun))
 refine k _ _ (jF1.weaken λb hb=>List.mem_singleton.mp hb▸List.mem_cons_self) (N.keepAll hL1 (λb hb o e=>hs'.extBut b o (λh=>Z.dw (h▸hb)) e) λa o v e hd ho=>hs'.extBut a o (λh=>ho.2 (h▸c.hd)) e)
  ⟨c.j.keep (h':=h') hL1 λo e=>hs'.extBut I o (Ne.symm Z.di) e,c.io,hp',?_,c.hd,c.off⟩ (Nat.lt_of_lt_of_le t hle)
 rw[Array.toList_push]
 exact RVs.append (RVs.mono hL1 _ _ c.rv) (RVs.cons (RV.mono hL1 _ _ r) RVs.nil)
inductive CInv (G:Wd) (A:Around) (C:Cx) (cenv:Env) (W:List Addr) (tg elt:Expr) (ifs:List Expr) (out:List V) (σ':List AO) (I D:Addr) (fQ:Rho) (s₀:Shared) (m:Nat) (s:Shared):Prop
 | mk (st:ItS) (σ:List AO) (η:ac) (ρ:Rho) (done:List V) (items:Array Value) (o:List V) (H:CoR G A C cenv W tg elt ifs m st σ η o σ') (S:StepW G (D::I::W) fQ s₀ ρ s σ) (N:RE G C cenv W η ρ s) (c:CI ρ s I D st items done) (h:done++o=out) (t:0<s.toks)
theorem xG{tg elt iter:Expr}{ifs:List Expr}{scope:Scope}{pos:Pos}{n:Nat}{st:ItS}{out:List V}{D I:Addr}{RR:Result->Shared->Prop}{fQ:Rho}{s₀:Shared}(hh:A.handled=none)
  (H:CoR G A C cenv W tg elt ifs n st σ η out σ') (mO:StepW G (D::I::W) fQ s₀ ρ s σ) (hIn:s₀.heap.get? I=none) (N:RE G C cenv W η ρ s) (J:JI s.heap ρ I st) (ht:0<s.toks) (hl:out.length<=lim)
  (hI:I ∉ W) (hIo:Off ρ I) (hIb:G.s₀.heap.get? I=none) (hIl:I ∉ G.loose)
  (hD:D∈ρ.hid) (hDo:sL ρ D) (hDb:G.s₀.heap.get? D=none) (hDl:D ∉ G.loose) (hDW:D ∉ W) (hDI:D≠I) (hpl:s.heap.PlainList D #[])
  (k:∀ s' ρ' items η',StepW G (D::W) fQ s₀ ρ' s' σ'->RE G C cenv W η' ρ' s'->s'.heap.PlainList D items->RVs s'.heap ρ' out items.toList->D∈ρ'.hid->sL ρ' D->RR (.ok .next) s') :
  codeAny (model G.prog G.w) A (.compLoop (.ListComp elt [⟨tg,iter,ifs,0⟩] scope pos) 0 (.ref I) (.ref D) cenv) RR s:=by
 have Z:CS G W I D:=⟨hI,hIb,hIl,hDb,hDl,hDW,hDI⟩
 refine n9 (I:=CInv G A C cenv W tg elt ifs out σ' I D fQ s₀) ?_ n ⟨st,σ,η,ρ,[],#[],out,H,mO,N,⟨J,hIo,hpl,RVs.nil,hD,hDo⟩,rfl,ht⟩
 rintro m au ⟨kZ1,σ₁,η₁,aa,done,items,ff1,xX,am,aR,bz,hout,aS⟩
 have up:∀ b∈I::W,b∈D::I::W:=λb hb=>List.mem_cons_of_mem _ hb
 cases m with
 | zero =>
  have hst:=xX.1;obtain rfl:=xX.2.1;obtain rfl:=xX.2.2
  have e:done=out:=by simpa using hout
  subst e
  refine iS hh hst am.rel bz.j bz.io hIb hIl λaG h_p=>?_
  refine aQ (h_p) λh' e hs=>?_
  subst e
  obtain ⟨aB,K⟩:=StepW.closeNew (W:=D::W) (t:=au.toks) (am.weaken λb hb=>by
   rcases List.mem_cons.mp hb with h | hb
   ·rw[h];exact List.mem_cons_of_mem _ List.mem_cons_self
   ·rcases List.mem_cons.mp hb with h | hb
    ·rw[h];exact List.mem_cons_self
    ·exact List.mem_cons_of_mem _ (List.mem_cons_of_mem _ hb)) hIn bz.j.not_solid hs bz.io hIb hIl
  exact k _ aa items η₁ aB (aR.iterStep bz.j hI K hs) (bz.pl.at λo e=>hs D o hDI e) (RVs.mono K _ _ bz.rv) bz.hd bz.off
 | succ m =>
  refine hp1 (xX) λ_ _ _ _ hst ha xX=>?_
  rcases xX with ⟨hc,hr⟩ | ⟨_,_,_,hc,he,hr,rfl⟩
  ·refine n7 Z am.rel aR bz aS hst ha hc λoR fP fN x8 jw1 yj=>?_
   rw[if_neg (by decide)]
   exact⟨_,Nat.lt_succ_self _,⟨_,_,_,fP,done,items,ff1,hr,am.trans (fN.weaken up),x8,jw1,hout,yj⟩⟩
  ·refine n7 Z am.rel aR bz aS hst ha hc λoR fP fN x8 jw1 yj=>?_
   rw[if_pos rfl]
   refine he.use fN.rel x8 yj λcv jX1 aT1 dA1 jK1 h71 iy1=>?_
   have kv1:=jw1.keep Z fN.rel dA1.toW x8
   have hlen:items.size<=lim:=by
    have h1:=RVs.length kv1.rv
    have h2:done.length<=out.length:=by rw[← hout,List.length_append];exact Nat.le_add_right _ _
    simp at h1;lia
   refine zS Z dA1.rel jK1 kv1 h71 iy1 hlen λ_ nj1 jF1 nf1 m51 kS1=>⟨_,Nat.lt_succ_self _,⟨_,_,_,aT1,_,_,_,hr,am.trans ((fN.weaken up).trans (dA1.toW.trans (jF1.weaken λb hb=>?_))),nf1,m51,?_,kS1⟩⟩
   ·rcases List.mem_cons.mp hb with h | h
    ·rw[h];exact List.mem_cons_self
    ·exact List.mem_cons_of_mem _ (List.mem_cons_of_mem _ h)
   ·rw[List.append_assoc];exact hout
end
noncomputable def aM(scope:Scope)(C:Cx):Scope :=
 { scope with names:=scope.names.map λ(n,k)=>if (k==.free&&C.scope.kind==.function&&C.kind n==some .cell) then (n,.cell) else (n,k) }
theorem s9{C:Cx}{env:Env}(h:env.scope=C.scope)(scope:Scope):relabel scope env=aM scope C:=by
 unfold relabel aM Env.kindOf Cx.kind;rw[h]
noncomputable def sB(cells:List (Str×Addr)):List (Str×NameKind)->List (Str×Addr)->List (Str×Addr)
 | [],acc=>acc
 | (n,k)::r,acc=>sB cells r (if k==.free then (match cells.lookup n with | some c=>(n,c)::acc | none=>acc) else acc)
theorem jq{cells:List (Str×Addr)}{n:Str}{c:Addr}(hc:cells.lookup n=some c):∀ (names:List (Str×NameKind)) (acc:List (Str×Addr)),(acc.lookup n=some c\/(n,NameKind.free)∈names)->(sB cells names acc).lookup n=some c
 | [],acc,h=>by
  refine Or.elim (h) (λh=>?_) (λh=>?_)
  ·exact h
  ·cases h
 | (m,k)::r,acc,h=>by
  dsimp only[sB]
  refine jq hc r _ ?_
  rcases h with h | h
  ·left
   split
   ·cases hm:cells.lookup m with
    | none=>exact h
    | some d =>
     show List.lookup n ((m,d)::acc)=some c
     rw[List.lookup_cons]
     cases hb:n==m with
     | true=>rw[← beq_iff_eq.mp hb,hc] at hm;obtain rfl:=siX hm;rfl
     | false=>exact h
   ·exact h
  ·refine Or.elim (List.mem_cons.mp h) (λe=>?_) (λh=>?_)
   ·cases e
    left
    rw[if_pos (by decide),hc]
    show List.lookup n ((n,c)::acc)=some c
    rw[List.lookup_cons,beq_self_eq_true]
   ·exact .inr h
theorem jp{env:Env}{scope:Scope}(h:∀ x∈scope.names,x.2=.free->∃ c,env.cells.lookup x.1=some c):closureFor scope env=pure (sB env.cells scope.names []):=by
 unfold closureFor
 have main:∀ (names:List (Str×NameKind)) (acc:List (Str×Addr)),(∀ x∈names,x.2=.free->∃ c,env.cells.lookup x.1=some c) ->
   (forIn names acc λ(x:Str×NameKind) (cs:List (Str×Addr))=>(match x with
    | (name,kind)=>if kind==.free then do let a ← cellOf env name;pure (ForInStep.yield ((name,a)::cs)) else pure (ForInStep.yield cs):Sem (ForInStep (List (Str×Addr)))))=pure (sB env.cells names acc):=by
  intro names
  induction names with
  | nil=>intro acc _;rfl
  | cons x r ih =>
   intro acc hx
   obtain ⟨n,k⟩:=x
   rw[List.forIn_cons]
   dsimp only[sB]
   have hr:=ih (acc:=if k==.free then (match env.cells.lookup n with | some c=>(n,c)::acc | none=>acc) else acc) λy hy=>hx y (List.mem_cons_of_mem _ hy)
   by_cases hk:k=.free
   ·subst hk
    obtain ⟨c,hc⟩:=hx (n,.free) List.mem_cons_self rfl
    have e:(NameKind.free==NameKind.free)=true:=rfl
    dsimp only[e,if_true] at hr ⊢
    unfold cellOf
    rw[hc] at hr ⊢
    exact hr
   ·have e:(k==NameKind.free)=false:=by simpa using hk
    simp only[e,Bool.false_eq_true,if_false] at hr ⊢
    exact hr
 have:=main scope.names [] h
 exact congrArg (λm:Sem (List (Str×Addr))=>m>>=λcs=>pure cs) this
theorem gi:∀ (names:List (Str×NameKind)) (n:Nat) (acc:List (Str×Addr)),cellsFrom n names acc=cellsFrom n names []++acc
 | [],_,_=>rfl
 | (m,k)::r,n,acc=>by
  dsimp only[cellsFrom]
  split
  ·rw[gi r (n+1) ((m,n)::acc),gi r (n+1) [(m,n)],List.append_assoc];rfl
  ·exact gi r n acc
theorem qI{x:Str}:∀ (names:List (Str×NameKind)) (n:Nat) (acc:List (Str×Addr)),(x,NameKind.cell) ∉ names->(cellsFrom n names acc).lookup x=acc.lookup x
 | [],_,_,_=>rfl
 | (m,k)::r,n,acc,h=>by
  dsimp only[cellsFrom]
  split
  ·rename_i hk
   rw[qI r _ _ λq=>h (List.mem_cons_of_mem _ q),List.lookup_cons]
   cases hb:x==m with
   | false=>rfl
   | true =>
    exfalso
    apply h
    rw[beq_iff_eq.mp hb,beq_iff_eq.mp hk]
    exact List.mem_cons_self
  ·exact qI r _ _ λq=>h (List.mem_cons_of_mem _ q)
theorem jt{x:Str}:∀ (names:List (Str×NameKind)) (n:Nat) (acc:List (Str×Addr)),((x,NameKind.cell)∈names\/∃ c,acc.lookup x=some c)->∃ c,(cellsFrom n names acc).lookup x=some c
 | [],_,_,h=>by
  refine Or.elim (h) (λh=>?_) (λh=>?_)
  ·cases h
  ·exact h
 | (m,k)::r,n,acc,h=>by
  dsimp only[cellsFrom]
  split
  ·rename_i hk
   refine jt r _ _ ?_
   rcases h with h | ⟨c,h⟩
   ·rcases List.mem_cons.mp h with e | h
    ·cases e;right;exact⟨n,by rw[List.lookup_cons,beq_self_eq_true]⟩
    ·exact .inl h
   ·right
    rw[List.lookup_cons]
    cases x==m with
    | true=>exact⟨n,rfl⟩
    | false=>exact⟨c,h⟩
  ·rename_i hk
   refine jt r _ _ ?_
   rcases h with h | h
   ·rcases List.mem_cons.mp h with e | h
    ·cases e;exact absurd rfl hk
    ·exact .inl h
   ·exact .inr h
noncomputable def clr:ac->List Var->ac
 | η,[]=>η
 | η,x::xs=>clr (if x.own then η.set x.slot none else η) xs
theorem sA{i:Nat}:∀ (xs:List Var) (η:ac),(∀ v,η[i]?≠some (some v))->∀ v,(clr η xs)[i]?≠some (some v)
 | [],_,h=>h
 | x::xs,η,h=>by
  dsimp only[clr]
  refine sA xs _ λv=>?_
  split
  ·rw[List.getElem?_set]
   split
   ·split <;> exact nofun
   ·exact h v
  ·exact h v
theorem qE{x:Var}(ho:x.own=true):∀ (xs:List Var) (η:ac),x∈xs->∀ v,(clr η xs)[x.slot]?≠some (some v)
 | [],_,h=>by cases h
 | y::xs,η,h=>by
  dsimp only[clr]
  refine Or.elim (List.mem_cons.mp h) (λh_l=>?_) (λh=>?_)
  ·subst h_l
   refine sA xs _ λv=>?_
   rw[if_pos ho,List.getElem?_set]
   split
   ·split <;> exact nofun
   ·rename_i hne;exact absurd rfl hne
  ·exact qE ho xs _ h
theorem xL{i:Nat}{v:V}:∀ (xs:List Var) (η:ac),(clr η xs)[i]?=some (some v)->η[i]?=some (some v)
 | [],_,h=>h
 | x::xs,η,h=>by
  dsimp only[clr] at h
  have:=xL xs _ h
  split at this
  ·replace this:=(List.getElem?_set)▸this
   split at this
   ·split at this <;> cases this
   ·exact this
  ·exact this
noncomputable def bp(k:Option NameKind)(l:NameKind):Bool:=k==some l
noncomputable def xH(C:Cx)(vars:List Var)(scope:Scope):Bool :=
 let C':Cx:=⟨vars,aM scope C⟩
 C'.ok&&(match scope.kind with | .function=>true | _=>false) &&
 scope.names.all (λx=>(x.2 != .free || C.vars.any λy=>y.name==x.1&&bp (C.kind x.1) .cell)&&(x.2 != .local || bp (scope.names.lookup x.1) .local)) &&
 vars.all λx=>if x.own then (bp (C'.kind x.name) .local) || (bp (C'.kind x.name) .cell&&scope.names.contains (x.name,NameKind.cell))
  else bp (C'.kind x.name) .cell&&scope.names.contains (x.name,NameKind.free)&&!scope.names.contains (x.name,NameKind.cell)&&C.vars.any λy=>y.name==x.name&&y.slot==x.slot&&bp (C.kind x.name) .cell
structure CompOk (C:Cx) (vars:List Var) (scope:Scope):Prop where
 ok:(⟨vars,aM scope C⟩:Cx).ok=true
 fn:scope.kind=.function
 free:∀ x∈scope.names,x.2=.free->∃ y∈C.vars,y.name=x.1/\C.kind x.1=some .cell
 loc:∀ x∈scope.names,x.2=.local->scope.names.lookup x.1=some .local
 own:∀ x∈vars,x.own=true->(⟨vars,aM scope C⟩:Cx).kind x.name=some .local\/((⟨vars,aM scope C⟩:Cx).kind x.name=some .cell/\(x.name,NameKind.cell)∈scope.names)
 cap:∀ x∈vars,x.own=false->(⟨vars,aM scope C⟩:Cx).kind x.name=some .cell/\(x.name,NameKind.free)∈scope.names/\(x.name,NameKind.cell) ∉ scope.names/\∃ y∈C.vars,y.name=x.name/\y.slot=x.slot/\C.kind x.name=some .cell
theorem qB{C:Cx}{vars:List Var}{scope:Scope}(h:xH C vars scope=true):CompOk C vars scope:=by
 dsimp only[xH] at h
 have q_1:=ao h;have q_2:=ao q_1.1;have q_3:=ao q_2.1;have h1:=q_3.1;have h2:=q_3.2;have h3:=q_2.2;have h4:=q_1.2
 have h3':=List.all_eq_true.mp h3
 have h4':=List.all_eq_true.mp h4
 refine⟨h1,by revert h2;cases scope.kind <;> simp,λx hx hk=>?_,λx hx hk=>?_,λx hx ho=>?_,λx hx ho=>?_⟩
 ·have:=h3' x hx
  simp only[Bool.and_eq_true,Bool.or_eq_true,hk,List.any_eq_true,bp,beq_iff_eq] at this
  rcases this.1 with h | ⟨y,hy,e1,e2⟩
  ·exact absurd h (by decide)
  ·exact⟨y,hy,e1,e2⟩
 ·have:=h3' x hx
  simp only[Bool.and_eq_true,Bool.or_eq_true,hk,bp,beq_iff_eq] at this
  rcases this.2 with h | h
  ·exact absurd h (by decide)
  ·exact h
 ·have:=h4' x hx
  simp only[ho,if_true,Bool.or_eq_true,Bool.and_eq_true,bp,beq_iff_eq,List.contains_iff_mem] at this
  exact this
 ·refine byQ λQ kQ=>?_
  have:=h4' x hx
  simp only[ho,Bool.false_eq_true,if_false,Bool.and_eq_true,bp,beq_iff_eq,List.contains_iff_mem,List.any_eq_true,Bool.not_eq_true',← Bool.not_eq_true] at this
  obtain ⟨⟨⟨e1,e2⟩,e3⟩,y,hy,⟨e4,e5⟩,e6⟩:=this
  refine kQ ?_
  exact⟨e1,e2,e3,y,hy,e4,e5,e6⟩
noncomputable def jz1(scope:Scope)(L:Addr)(cells:List (Str×Addr))(env:Env):Env :=
 { scope:=scope,locals:=L,globals:=env.globals,cells:=cells,qual:=env.qual,func:=none,code:=env.code,frame:=env.frame,builtins:=env.builtins }
section
variable {M:Model} {A:Around} {E:Value->Shared->Prop} {s:Shared} {env:Env}
theorem kZ{scope:Scope}{cl:List (Str×Addr)}{Q:Env->Shared->Prop}
  (h:Q (jz1 scope s.heap.objs.size (cellsFrom (s.heap.objs.size+1) scope.names cl) env) { s with heap:=pushCells (s.heap.push { cls:=.type "dict",data:=.dict #[] }) scope.names }) :
  wpAny M A (newFunctionEnv scope env.globals cl [] env.qual none .none (some env)) Q E s:=by
 simp only[newFunctionEnv,Option.isSome_some,if_true]
 refine wpAny_bind (wpAny_alloc ?_)
 refine wpAny_bind (wpAny_layCells _ (λname kind cells=>by cases kind==NameKind.cell <;> simp) _ _ _ _ ?_)
 rw[show ({ s with heap:=s.heap.push { cls:=.type "dict",data:=.dict #[] } }:Shared).heap.objs.size=s.heap.objs.size+1 from Heap.size_push ..]
 refine wpAny_bind ?_
 rw[List.forIn_nil]
 exact wpAny_pure (wpAny_pure h)
end
section
variable {G:Wd} {A:Around} {C C':Cx} {env cenv:Env} {W W':List Addr} {η η' η₁ η₂ bj:ac} {σ σ' σ₁ σ₂ aq:List AO} {ρ ρ' aa:Rho} {s s' au aG:Shared}
theorem jP{α:Type}(l₁ uE:List (Str×α))(x:Str):(l₁++uE).lookup x=(l₁.lookup x).or (uE.lookup x):=by
 induction l₁ with
 | nil=>rfl
 | cons a l ih =>
  rw[List.cons_append,List.lookup_cons,List.lookup_cons]
  cases x==a.1 with
  | true=>rfl
  | false=>exact ih
theorem sC{x:Str}{names:List (Str×NameKind)}{n:Nat}{acc:List (Str×Addr)}(hx:(x,NameKind.cell)∈names):∃ c,(cellsFrom n names acc).lookup x=some c/\(x,c)∈cellsFrom n names [] :=
 a4 (jt names n [] (.inl hx)) λc hc=>⟨c,by rw[gi,jP,hc];rfl,mem_of_lookup hc⟩
structure CapC (C:Cx) (env:Env) (η:ac) (ρ:Rho) (h:Heap) (cs:List (Str×Addr)) (x y:Var) (c:Addr) (ov:Option Value):Prop where
 hy:y∈C.vars
 nm:y.name=x.name
 sl:y.slot=x.slot
 kd:C.kind y.name=some .cell
 lk:env.cells.lookup y.name=some c
 ic:h.IsCell c ov
 off:Off ρ c
 vl:∀ v,η[y.slot]?=some (some v)->∃ cv,ov=some cv/\RV h ρ v cv
 me:cs.lookup x.name=some c
theorem sD{scope:Scope}{vars:List Var}{n:Nat}{x:Var}(K:CompOk C vars scope)(N:RE G C env W η ρ s)(hx:x∈vars)(ho:x.own=false):∃ y c ov,CapC C env η ρ s.heap (cellsFrom n scope.names (sB env.cells scope.names [])) x y c ov :=
 bW1 (K.cap x hx ho) λ_ h2 h3 h=>hu1 h λy hy e1 e2 e3=>bV1 (N.cel y hy (e1.symm▸e3)) λc ov q1 q2 q3 q4 q5 =>
  ⟨y,c,ov,hy,e1,e2,e1.symm▸e3,q1,q2,q4,q5,(qI _ _ _ h3).trans (jq (e1▸q1) _ _ (.inr h2))⟩
theorem rV{scope:Scope}{vars:List Var}{x:Var}(K:CompOk C vars scope)(hx:x∈vars)(ho:x.own=true)(hk:(⟨vars,aM scope C⟩:Cx).kind x.name=some .cell):(x.name,NameKind.cell)∈scope.names :=
 Or.elim (K.own x hx ho) (λh=>nomatch (siX (h.symm.trans hk))) And.right
theorem mo{scope:Scope}{vars:List Var}{n:Nat}{x:Var}{c:Addr}(K:CompOk C vars scope)(N:RE G C env W η ρ s)(hx:x∈vars)(hk:(⟨vars,aM scope C⟩:Cx).kind x.name=some .cell)(e:(cellsFrom n scope.names (sB env.cells scope.names [])).lookup x.name=some c) :
  (x.name,c)∈cellsFrom n scope.names []\/∃ y,y∈C.vars/\y.name=x.name/\C.kind y.name=some .cell/\env.cells.lookup y.name=some c/\c<s.heap.objs.size :=
 hC1 x.own (λho=>.inl (aQ (sC (rV K hx ho hk)) λc' h1 h2=>siX (h1.symm.trans e)▸h2))
  λho=>.inr (ei (sD K N hx ho) λy c' ov P=>⟨y,P.hy,P.nm,P.kd,(siX (P.me.symm.trans e))▸P.lk,(siX (P.me.symm.trans e))▸P.ic.lt⟩)
theorem cX1{scope:Scope}{vars:List Var}{L:Addr}{h':Heap}{ow:List (Str×Addr)}(K:CompOk C vars scope)(R:Rel G σ ρ s)(N:RE G C env W η ρ s)(hL:s.heap.objs.size=L)(keep:∀ b o,s.heap.get? b=some o->h'.get? b=some o)
  (hns:h'.Ns L λ_=>none) (ok:CellsOk h' (L+1) ow) (how:ow=cellsFrom (L+1) scope.names []) :
  (∀ b∈L::ow.map (·.2),L<=b)/\RE G ⟨vars,aM scope C⟩ (jz1 (aM scope C) L (cellsFrom (L+1) scope.names (sB env.cells scope.names [])) env) (L::ow.map (·.2)) (clr η vars) ρ { s with heap:=h' }:=by
 have inW:∀ b∈L::ow.map (·.2),L<=b:=λb hb=>Or.elim (List.mem_cons.mp hb) (λe=>Nat.le_of_eq e.symm) λhb=>aQ (List.mem_map.mp hb) λx hx e=>e▸Nat.le_of_lt (ok.empty x.1 x.2 hx).2
 have new:∀ b,L<=b->Off ρ b/\G.s₀.heap.get? b=none/\b ∉ G.loose:=λb hb=>cM R (bL (hL▸hb))
 have S:KeepV s.heap ρ h' ρ:=⟨⟨[],(List.append_nil _).symm,λ_ h=>nomatch h⟩,λ_ h=>.inl h,λb o e _ _=>keep b o e⟩
 refine⟨inW,K.ok,rfl,N.glob,N.blt,List.mem_cons_self,λb hb=>new b (inW b hb),λb hb=>Or.elim (List.mem_cons.mp hb) (λe=>?_) λhb=>aQ (List.mem_map.mp hb) λx hx e=>?_,⟨_,hns,λx hx hk v hv=>?_⟩,λx hx hk=>?_,λx hx y hy hkx hky c e1 e2=>?_⟩
 ·exact wp hns λo es ep ho hd _=>⟨o,e▸ho,Solid.no_dict hd⟩
 ·exact aQ (ok.empty x.1 x.2 hx).1 λo ho hd=>⟨o,e▸ho,Solid.no_cell hd⟩
 ·exact hC1 x.own (λho=>absurd hv (qE ho vars η hx v)) λho=>nomatch siX (hk.symm.trans (K.cap x hx ho).1)
 ·refine hC1 x.own (λho=>aQ (sC (n:=L+1) (acc:=sB env.cells scope.names []) (rV K hx ho hk)) λc hc hm=>?_) λho=>ei (sD (n:=L+1) K N hx ho) λy c ov P=>?_
  ·have hm':(x.name,c)∈ow:=how▸hm
   have q:=ok.empty x.name c hm'
   exact ax1 c none hc q.1 (λ_=>List.mem_cons_of_mem _ (List.mem_map.mpr ⟨_,hm',rfl⟩)) (new c (Nat.le_of_lt q.2)).1 λv hv=>absurd hv (qE ho vars η hx v)
  ·exact ax1 c ov P.me (P.ic.keeps keep) (λh=>trf (h.symm.trans ho)) P.off λv hv=>aQ (P.vl v (P.sl.symm▸xL _ _ hv)) λcv r1 r2=>⟨cv,r1,RV.mono S _ _ r2⟩
 ·subst how
  have far:∀ {n c},(n,c)∈cellsFrom (L+1) scope.names []->c<s.heap.objs.size->False:=λh1 h2=>absurd (hL▸h2) (Nat.not_lt.mpr (Nat.le_of_lt (ok.empty _ _ h1).2))
  refine Or.elim (mo K N hx hkx e1) (λa=>Or.elim (mo K N hy hky e2) (λb=>name_of_addr ok.apart a b) λh=>fj1 h λz _ _ _ _ lt=>(far a lt).elim) λh=>fj1 h λu hu nu ku lu lt=>?_
  exact Or.elim (mo K N hy hky e2) (λb=>(far b lt).elim) λh=>fj1 h λz hz nz kz lz _=>nu▸nz▸N.apart u hu z hz ku kz c lu lz
theorem t9{scope:Scope}{vars:List Var}{D:Addr}(K:CompOk C vars scope)(R:Rel G σ ρ s)(N:RE G C env W η ρ s)(hD:D<s.heap.objs.size)(hDn:G.s₀.heap.get? D=none) :
  let L:=s.heap.objs.size
  let h':=pushCells (s.heap.push { cls:=.type "dict",data:=.dict #[] }) scope.names
  ∃ W',(∀ b∈W',s.heap.get? b=none/\b≠D)/\D ∉ W'/\L∈W'/\(∀ b o,s.heap.get? b=some o->h'.get? b=some o) /\
   RE G ⟨vars,aM scope C⟩ (jz1 (aM scope C) L (cellsFrom (L+1) scope.names (sB env.cells scope.names [])) env) W' (clr η vars) ρ { s with heap:=h' }:=by
 intro L h'
 have ok:=cellsFrom_ok scope.names (s.heap.push { cls:=.type "dict",data:=.dict #[] }) (L+1) [] ⟨λ_ _ hm=>(nomatch hm),List.Pairwise.nil⟩ (by rw[Heap.size_push];exact Nat.le_refl _)
 rw[Heap.size_push] at ok
 have keep:∀ b o,s.heap.get? b=some o->h'.get? b=some o:=λb o e=>pushCells_keeps _ _ b o (Heap.get?_push_of_some _ e)
 have q:=cX1 K R N (L:=L) rfl keep ((Heap.Ns.new s.heap (.type "dict")).keeps (pushCells_keeps _ _)) ok rfl
 have ne:∀ b∈L::(cellsFrom (L+1) scope.names []).map (·.2),b≠D:=λb hb e=>Nat.lt_irrefl _ (Nat.lt_of_lt_of_le hD (e▸q.1 b hb))
 exact⟨_,λb hb=>⟨bL (q.1 b hb),ne b hb⟩,λh=>ne D h rfl,List.mem_cons_self,keep,q.2⟩
theorem RV.unhide{h:Heap}{ρ ρ':Rho}(hs:ρ'.st=ρ.st)(hh:∀ b∈ρ'.hid,b∈ρ.hid):KeepV h ρ h ρ' :=
 ⟨⟨[],by rw[hs,List.append_nil],λ_ h=>nomatch h⟩,λb hb=>.inl (hh b hb),λ_ _ e _ _=>e⟩
theorem Rel.unhide{ρ':Rho}(R:Rel G σ ρ s)(hs:ρ'.st=ρ.st)(hh:∀ b∈ρ'.hid,b∈ρ.hid):Rel G σ ρ' s where
 len:=by exact(hs)▸(R.len)
 inj:=by exact(hs)▸(R.inj)
 obj:=λk p o h1 h2=>(R.obj k p o (by rw[← hs];exact h1) h2).mono (RV.unhide hs hh) (λ_ e=>e) λ_ e=>e
 fresh:=by exact(hs)▸(R.fresh)
 keep:=R.keep
 lse:=R.lse
 same:=R.same
 bare:=R.bare
 hidden:=λb hb=>R.hidden b (hh b hb)
structure CompEnd (G:Wd) (σ':List AO) (out:List V) (aa:Rho) (au:Shared) (D L:Addr) (s':Shared):Prop where
 hx:∃ new items m,StepW G [L] ⟨aa.st,D::aa.hid⟩ au ⟨aa.st++new,D::aa.hid⟩ s' σ'/\(∀ p∈new,au.heap.get? p.1=none/\au.heap.get? p.2=none)/\s'.heap.PlainList D items/\RVs s'.heap ⟨aa.st++new,D::aa.hid⟩ out items.toList/\s'.heap.Ns L m/\Off ⟨aa.st++new,aa.hid⟩ D/\Off ⟨aa.st++new,D::aa.hid⟩ L
 newD:au.heap.get? D=none
 newL:au.heap.get? L=none
 baseL:G.s₀.heap.get? L=none
 looseL:L ∉ G.loose
 ne:D≠L
theorem CompEnd.ex{out:List V}{D L:Addr}(X:CompEnd G σ' out aa au D L s'):∃ ρ' items m,StepW G [L] aa au ρ' s' σ'/\s'.heap.PlainList D items/\RVs s'.heap ρ' out items.toList/\s'.heap.Ns L m/\Off ρ' D/\Off ρ' L:=by
 refine byQ λQ kQ=>?_
 refine ei (X.hx) λnew items m h_p=>?_;have S:=h_p.1;have hnew:=h_p.2.1;have pl:=h_p.2.2.1;have r:=h_p.2.2.2.1;have hn:=h_p.2.2.2.2.1;have hDo:=h_p.2.2.2.2.2.1;have hLo:=h_p.2.2.2.2.2.2
 refine kQ ?_
 exact kj1 ⟨aa.st++new,aa.hid⟩ items m (⟨S.rel.unhide (ρ':=⟨aa.st++new,aa.hid⟩) rfl (λb hb=>List.mem_cons_of_mem D hb),⟨new,rfl,hnew⟩,S.keep,S.wal⟩) pl (RVs.mono (RV.unhide (ρ:=⟨aa.st++new,D::aa.hid⟩) (ρ':=⟨aa.st++new,aa.hid⟩) rfl (λb hb=>List.mem_cons_of_mem D hb)) _ _ r) hn hDo ⟨hLo.1,λhm=>hLo.2 (List.mem_cons_of_mem _ hm)⟩
theorem sg{D:Addr}(R:Rel G σ ρ s)(R':Rel G σ ρ s')(hk:∀ b o,s.heap.get? b=some o->s'.heap.get? b=some o)(hD:s.heap.get? D=none)(al:s'.heap.get? D≠none) :
  KeepV s.heap ρ s'.heap ⟨ρ.st,D::ρ.hid⟩/\Rel G σ ⟨ρ.st,D::ρ.hid⟩ s' :=
 have KV:KeepV s.heap ρ s'.heap ⟨ρ.st,D::ρ.hid⟩:=⟨⟨[],(List.append_nil _).symm,λ_ h=>nomatch h⟩,λb hb=>Or.elim (List.mem_cons.mp hb) (λe=>.inr (e▸hD)) .inl,λb o e _ _=>hk b o e⟩
 ⟨KV,R.len,R.inj,λkk p o h1 h2=>(R.obj kk p o h1 h2).mono KV (λ_ e=>hk _ _ e) λ_ e=>hk _ _ e,R.fresh,R'.keep,R'.lse,R'.same,R'.bare,λb hb=>Or.elim (List.mem_cons.mp hb) (λe=>e▸al) (R'.hidden b)⟩
theorem r8{b:Addr}(hk:∀ b o,s.heap.get? b=some o->s'.heap.get? b=some o)(h:s.heap.get? b≠none):s'.heap.get? b≠none:=λe=>h (gp (s.heap.get? b) id λo q=>son ((hk b o q).symm.trans e))
theorem kC{b:Addr}(hk:∀ b o,s.heap.get? b=some o->s'.heap.get? b=some o)(h:s'.heap.get? b=none):s.heap.get? b=none:=gp (s.heap.get? b) id λo q=>son ((hk b o q).symm.trans h)
theorem rS{D:Addr}{h:Heap}{xs:Array Value}(p:h.PlainList D xs):h.get? D≠none:=a4 p λ_ e q=>son (e.symm.trans q)
theorem zR{tg elt iter:Expr}{ifs:List Expr}{scope:Scope}{pos:Pos}{n:Nat}{st:ItS}{out:List V}{I D:Addr}{RR:Result->Shared->Prop}(hh:A.handled=none)(H:CoR G A C' cenv W' tg elt ifs n st σ₁ η₁ out σ')(hl:out.length<=lim)
  (R:Rel G σ₁ aa au) (nd1:Rel G σ₁ aa aG) (hk:∀ b o,au.heap.get? b=some o->aG.heap.get? b=some o) (hI:au.heap.get? I=none) (hD:au.heap.get? D=none) (hID:I≠D) (hW:∀ b∈W',au.heap.get? b=none/\b≠D/\b≠I)
  (mH:RE G C' cenv W' η₁ ⟨aa.st,D::aa.hid⟩ aG) (g21:JI aG.heap ⟨aa.st,D::aa.hid⟩ I st) (eZ1:aG.heap.PlainList D #[]) (ai1:0<aG.toks) (k:∀ s',CompEnd G σ' out aa au D cenv.locals s'->RR (.ok .next) s') :
  codeAny (model G.prog G.w) A (.compStart (.ListComp elt [⟨tg,iter,ifs,0⟩] scope pos) 0 (.ref I) (.ref D) cenv) RR aG:=by
 have dI:=cM R hI
 have dD:=cM R hD
 have mO:StepW G (D::I::W') ⟨aa.st,D::aa.hid⟩ au ⟨aa.st,D::aa.hid⟩ aG σ₁ :=
  ⟨(sg R nd1 hk hD (rS eZ1)).2,⟨[],by simp,λ_ h=>nomatch h⟩,λb o e _ _ _=>hk b o e,λb _ hne=>r8 hk hne⟩
 have loop:=xG (iter:=iter) (scope:=scope) (pos:=pos) (RR:=RR) hh H mO hI mH g21 ai1 hl (λh=>(hW I h).2.2 rfl) ⟨dI.1.1,λh=>Or.elim (List.mem_cons.mp h) hID dI.1.2⟩ dI.2.1 dI.2.2 List.mem_cons_self dD.1.1 dD.2.1 dD.2.2 (λh=>(hW D h).2.1 rfl) (Ne.symm hID) eZ1
  λs' ρ' items η' S' N' pl' r' hDh hDo=>?_
 ·exact codeAny_compStart_list loop (g21.pyIter_self loop)
 ·have wL:=hW _ mH.lmem
  have oL:=N'.wok _ mH.lmem
  refine aQ (S'.ext) λnew m01 hnew=>aQ N'.loc λm hn _=>?_
  subst m01
  refine k s' ⟨⟨new,items,m,⟨S'.rel,⟨new,rfl,hnew⟩,λb o e ho hw hl=>S'.keep b o e ho (λh=>Or.elim (List.mem_cons.mp h) (λq=>son (e.symm.trans (q▸hD))) λh=>son (e.symm.trans (hW b h).1)) hl,λb hb hne=>?_⟩,hnew,pl',r',hn,⟨hDo,dD.1.2⟩,oL.1⟩,hD,wL.1,oL.2.1,oL.2.2,Ne.symm wL.2.1⟩
  exact absurd (List.mem_singleton.mp hb▸wL.1) hne
theorem cY1{tg elt iter:Expr}{ifs:List Expr}{scope:Scope}{vars:List Var}{pos:Pos}{n:Nat}{st:ItS}{out:List V}{I D:Addr}(hh:A.handled=none)(K:CompOk C vars scope)
  (H:∀ cenv W',CoR G A ⟨vars,aM scope C⟩ cenv W' tg elt ifs n st σ₁ (clr η vars) out σ') (hl:out.length<=lim) (R:Rel G σ₁ aa au) (N:RE G C env W η aa au) (kB1:Rel G σ₁ aa aG)
  (hI:au.heap.get? I=none) (J:JI s.heap aa I st) (k0:∀ b o,s.heap.get? b=some o->aG.heap.get? b=some o) (hk0:∀ b o,au.heap.get? b=some o->s.heap.get? b=some o) (hD0:s.heap.get? D=none) (bI1:aG.heap.PlainList D #[]) (ka:0<aG.toks)
  {E:Value->Shared->Prop} {RR:Value->Addr->Result->Shared->Prop} (k:∀ L s',CompEnd G σ' out aa au D L s'->RR (.ref D) L (.ok .next) s') :
  wpAny (model G.prog G.w) A (newFunctionEnv scope env.globals (sB env.cells scope.names []) [] env.qual none .none (some env)) (λcenv k9 =>
    codeAny (model G.prog G.w) A (.compStart (.ListComp elt [⟨tg,iter,ifs,0⟩] scope pos) 0 (.ref I) (.ref D) { cenv with scope:=relabel scope env }) (RR (.ref D) cenv.locals) k9) E aG:=by
 have hD:=kC hk0 hD0
 have hk:∀ b o,au.heap.get? b=some o->aG.heap.get? b=some o:=λb o e=>k0 b o (hk0 b o e)
 have Ial:s.heap.get? I≠none:=zc J.cls λo _ e _ q=>son (e.symm.trans q)
 have q:=sg R kB1 hk hD (rS bI1)
 have mP:RE G C env W η ⟨aa.st,D::aa.hid⟩ aG:=N.keepAll q.1 (λb _ o e=>hk b o e) λc o _ e _ _=>hk c o e
 refine kZ ?_
 rw[s9 N.sc]
 refine fj1 (t9 K q.2 mP (a4 bI1 λ_ e=>Heap.lt_size e) (cM R hD).2.1) λW' hW1 _ _ xj mH=>?_
 have jD:Step G aa aG aa { aG with heap:=pushCells (aG.heap.push { cls:=.type "dict",data:=.dict #[] }) scope.names } σ₁:=Step.grow kB1 xj ⟨_,_,rfl⟩
 exact zR hh (H _ W') hl R jD.rel (λb o e=>xj b o (hk b o e)) hI hD (λe=>Ial (e▸hD0)) (λb hb=>⟨kC hk (hW1 b hb).1,(hW1 b hb).2,λe=>r8 k0 Ial (e▸(hW1 b hb).1)⟩) mH
  (J.keep ⟨⟨[],(List.append_nil _).symm,λ_ h=>nomatch h⟩,λb hb=>Or.elim (List.mem_cons.mp hb) (λe=>.inr (e▸hD0)) .inl,λb o e _ _=>xj _ _ (k0 b o e)⟩ λo e=>xj _ _ (k0 _ o e)) (bI1.at λo e=>xj _ _ e) ka λs' h=>k _ s' h
theorem jo{tg elt iter:Expr}{ifs:List Expr}{scope:Scope}{vars:List Var}{pos:Pos}{n:Nat}{st:ItS}{v:V}{cv:Value}{out:List V}(hh:A.handled=none)(K:CompOk C vars scope)
  (H:∀ cenv W',CoR G A ⟨vars,aM scope C⟩ cenv W' tg elt ifs n st σ₁ (clr η vars) out σ') (hl:out.length<=lim) (hi:bh v=some st)
  (R:Rel G σ₁ aa au) (N:RE G C env W η aa au) (ht:0<au.toks) (r:RV au.heap aa v cv) {E:Value->Shared->Prop} {RR:Value->Addr->Result->Shared->Prop}
  (k:∀ D L s',CompEnd G σ' out aa au D L s'->RR (.ref D) L (.ok .next) s') :
  wpAny (model G.prog G.w) A (pyIter cv) (λit aG=>wpAny (model G.prog G.w) A (newList []) (λacc d9 =>
   wpAny (model G.prog G.w) A (newFunctionEnv scope env.globals (sB env.cells scope.names []) [] env.qual none .none (some env)) (λcenv k9 =>
    codeAny (model G.prog G.w) A (.compStart (.ListComp elt [⟨tg,iter,ifs,0⟩] scope pos) 0 it acc { cenv with scope:=relabel scope env }) (RR acc cenv.locals) k9) E d9) E aG) E au:=by
 refine wpAny_with_toks (Nat.le_refl _) (iU hi (H default []).step_ok R r λaG aB i21 _ hN1 xi=>wpAny_newList ?_ (Nat.zero_le _))
 have fZ1:∀ b o,aG.heap.get? b=some o->(aG.heap.push { cls:=.type "list",data:=.seq ([]:List Value).toArray }).get? b=some o:=λb o e=>Heap.get?_push_of_some _ e
 exact cY1 hh K H hl R N (Step.grow aB.rel fZ1 ⟨_,_,rfl⟩).rel (bL (Nat.le_refl _)) hN1 fZ1 i21 (bL (Nat.le_refl _)) ⟨_,Heap.get?_push_size _ rfl⟩ (Nat.lt_of_lt_of_le ht xi) λL s' h=>k _ L s' h
theorem CompEnd.fin{out:List V}{D L:Addr}{h':Heap}(X:CompEnd G σ' out aa au D L s')(hl:out.length<=lim)(hs:Heap.SameBut L s'.heap h') :
  PE G aa au σ' (.lst out) (.ref D) { s' with heap:=h' }:=by
 refine byQ λQ kQ=>?_
 refine ei (X.ex) λρ' items m h_p=>?_;have S:=h_p.1;have pl:=h_p.2.1;have r:=h_p.2.2.1;have hn:=h_p.2.2.2.1;have hDo:=h_p.2.2.2.2.1;have hLo:=h_p.2.2.2.2.2
 refine ei (id hn) λo es ep h_p=>?_;have ho:=h_p.1;have hd:=h_p.2.1;have hr:=h_p.2.2
 refine gq (StepW.closeNew (W:=[]) (t:=s'.toks) S X.newL ⟨o,ho,Solid.no_dict hd⟩ hs.extBut hLo X.baseL X.looseL) λT K=>?_
 refine kQ ?_
 refine⟨ρ',T,?_⟩
 dsimp only[RV]
 exact⟨hl,D,items,rfl,hDo,pl.at λo e=>hs.extBut D o X.ne e,RVs.mono K _ _ r⟩
theorem za{st:List (Addr×Addr)}{D a:Addr}{hid:List Addr}(h:Off ⟨st,D::hid⟩ a):Off ⟨st++[(D,D)],hid⟩ a:=by
 have hD:D≠a:=λe=>h.2 (by exact(e)▸(List.mem_cons_self))
 refine⟨λp hp=>?_,λhm=>h.2 (List.mem_cons_of_mem _ hm)⟩
 replace hp:p∈st++[(D,D)]:=hp
 rcases List.mem_append.mp hp with hp | hp
 ·exact h.1 p hp
 ·exact(List.mem_singleton.mp hp)▸(⟨hD,hD⟩)
theorem dU1{h:Heap}{st:List (Addr×Addr)}{D:Addr}{hid:List Addr}:KeepG h ⟨st,D::hid⟩ h ⟨st++[(D,D)],hid⟩ :=
 ⟨λ_ _=>za,λ_ _ e _ _=>e,λk p hp=>(List.getElem?_append_left (List.getElem?_eq_some_iff.mp hp).1).trans hp⟩
theorem RVs.swap{h:Heap}{st:List (Addr×Addr)}{D:Addr}{hid:List Addr}(xs:List V)(vs:List Value)(r:RVs h ⟨st,D::hid⟩ xs vs):RVs h ⟨st++[(D,D)],hid⟩ xs vs:=RVs.keepG dU1 xs vs r
theorem RO.swap{h:Heap}{st:List (Addr×Addr)}{D:Addr}{hid:List Addr}{p:Addr×Addr}{o:AO}(x:RO G h ⟨st,D::hid⟩ p o):RO G h ⟨st++[(D,D)],hid⟩ p o:=by
 obtain ⟨items,acc⟩:=o
 dsimp only[RO] at x ⊢
 refine⟨x.1,?_⟩
 cases acc with
 | none =>
  obtain ⟨h1,vs,h_p⟩:=x.2;have h2:=h_p.1;have h3:=h_p.2
  exact⟨h1,vs,h2,RVs.swap _ _ h3⟩
 | some i =>
  refine byQ λQ kQ=>?_
  refine ei (x.2) λvs n m h_p=>?_;have h1:=h_p.1;have h2:=h_p.2.1;have h3:=h_p.2.2
  refine kQ ?_
  exact kk1 vs n m h1 (RVs.swap _ _ h2) h3
theorem CompEnd.finM{out:List V}{D L:Addr}{h':Heap}(X:CompEnd G σ' out aa au D L s')(R:Rel G σ₁ aa au)(hl:out.length<=lim)(hs:Heap.SameBut L s'.heap h') :
  PE G aa au (σ'++[⟨out,none⟩]) (.ref σ'.length) (.ref D) { s' with heap:=h' }:=by
 refine byQ λQ kQ=>?_
 refine ei (X.hx) λnew items m h_p=>?_;have S:=h_p.1;have hnew:=h_p.2.1;have pl:=h_p.2.2.1;have r:=h_p.2.2.2.1;have hn:=h_p.2.2.2.2.1;have hDo:=h_p.2.2.2.2.2.1;have hLo:=h_p.2.2.2.2.2.2
 refine ei (id hn) λo es ep h_p=>?_;have ho:=h_p.1;have hd:=h_p.2.1;have hr:=h_p.2.2
 refine gq (StepW.closeNew (W:=[]) (t:=s'.toks) S X.newL ⟨o,ho,Solid.no_dict hd⟩ hs.extBut hLo X.baseL X.looseL) λT K=>?_
 have r2:=RVs.mono K _ _ r
 have pl2:h'.PlainList D items:=pl.at λo e=>hs.extBut D o X.ne e
 have base:G.s₀.heap.get? D=none:=by
  cases e:G.s₀.heap.get? D with
  | none=>rfl
  | some x =>
   by_cases hl:D∈G.loose
   ·refine aQ (R.lse _ hl) λvs e' etr=>?_
    rw[X.newD] at e';exact nso e'
   ·have:=R.keep _ _ hl e
    rw[X.newD] at this;exact nso this
 have hlen:(aa.st++new).length=σ'.length:=T.rel.len
 refine kQ ?_
 refine⟨⟨(aa.st++new)++[(D,D)],aa.hid⟩,⟨⟨?_,λi j a b ha hb hab=>?_,λk q x hq hx=>?_,λq hq=>?_,T.rel.keep,T.rel.lse,T.rel.same,T.rel.bare,λb hb=>T.rel.hidden b (List.mem_cons_of_mem _ hb)⟩,
  ⟨new++[(D,D)],by rw[List.append_assoc],λq hq=>?_⟩,T.keep,λ_ h=>nomatch h⟩,?_⟩
 ·show ((aa.st++new)++[(D,D)]).length=_
  simp only[List.length_append,List.length_singleton] at hlen ⊢
  lia
 ·have old:∀ (i:Nat) (a:Addr×Addr),((aa.st++new)++[(D,D)])[i]?=some a->((aa.st++new)[i]?=some a/\a.1≠D)\/(i=(aa.st++new).length/\a=(D,D)):=by
   intro i a ha
   by_cases hi:i<(aa.st++new).length
   ·rw[List.getElem?_append_left hi] at ha
    exact .inl ⟨ha,(hDo.1 a (List.mem_of_getElem? ha)).1⟩
   ·rw[List.getElem?_append_right (Nat.le_of_not_lt hi)] at ha
    have:i - (aa.st++new).length=0:=by
     have:=(List.getElem?_eq_some_iff.mp ha).1
     simpa using this
    rw[this] at ha
    simp at ha
    exact .inr ⟨by lia,ha.symm⟩
  rcases old i a ha with ⟨h1,n1⟩ | ⟨h1,e1⟩ <;> rcases old j b hb with ⟨h2,n2⟩ | ⟨h2,e2⟩
  ·exact T.rel.inj i j a b h1 h2 hab
  ·exact absurd (by rw[hab,e2]) n1
  ·exact absurd (by rw[← hab,e1]) n2
  ·rw[h1,h2]
 ·replace hq:((aa.st++new)++[(D,D)])[k]?=some q:=hq
  by_cases hi:k<(aa.st++new).length
  ·replace hq:=(List.getElem?_append_left hi)▸hq
   rw[List.getElem?_append_left (by lia)] at hx
   exact RO.swap (T.rel.obj k q x hq hx)
  ·have hk:k=(aa.st++new).length:=by
    have:=(List.getElem?_eq_some_iff.mp hq).1
    simp only[List.length_append,List.length_singleton] at this hi ⊢
    lia
   rw[hk,List.getElem?_append_right (Nat.le_refl _),Nat.sub_self] at hq
   rw[hk,hlen,List.getElem?_append_right (Nat.le_refl _),Nat.sub_self] at hx
   simp at hq hx
   subst hq hx
   exact⟨hl,rfl,items,pl2,RVs.swap _ _ r2⟩
 ·replace hq:q∈(aa.st++new)++[(D,D)]:=hq
  rcases List.mem_append.mp hq with hq | hq
  ·exact T.rel.fresh q hq
  ·exact(List.mem_singleton.mp hq)▸(⟨base,base⟩)
 ·rcases List.mem_append.mp hq with hq | hq
  ·exact hnew q hq
  ·rw[List.mem_singleton.mp hq];exact⟨X.newD,X.newD⟩
 ·delta RV
  refine⟨(D,D),?_,rfl⟩
  show ((aa.st++new)++[(D,D)])[σ'.length]?=_
  rw[← hlen,List.getElem?_append_right (Nat.le_refl _),Nat.sub_self];rfl
theorem gK{scope:Scope}{vars:List Var}(K:CompOk C vars scope)(N:RE G C env W η ρ s):closureFor scope env=pure (sB env.cells scope.names []) :=
 jp λx hx hk=>by
  refine a4 (K.free x hx hk) λy h_p=>?_;have hy:=h_p.1;have e1:=h_p.2.1;have e2:=h_p.2.2
  obtain ⟨c,ov,h_p⟩:=N.cel y hy (by exact(e1)▸(e2));have h:=h_p.1
  exact⟨c,e1▸h⟩
theorem Ev.comp{tg elt iter:Expr}{ifs:List Expr}{scope:Scope}{vars:List Var}{pos:Pos}{n:Nat}{st:ItS}{v:V}{out:List V}(hh:A.handled=none)(K:CompOk C vars scope)(hs:g9 iter=true)
  (h:Ev G A C env W iter σ η v σ₁) (hi:bh v=some st) (H:∀ cenv W',CoR G A ⟨vars,aM scope C⟩ cenv W' tg elt ifs n st σ₁ (clr η vars) out σ') (hl:out.length<=lim) :
  Ev G A C env W (.ListComp elt [⟨tg,iter,ifs,0⟩] scope pos) σ η (.lst out) σ':=λρ s R N ht=>by
 rw[eval_ListComp]
 refine wpAny_comprehension_free (use:=none) rfl (λx=>dT hs x) (gK K N) K.fn K.loc ?_
 show wpAny _ A (eval iter env) _ _ s
 refine h.use R N ht λcv au aa am aR aS aA=>?_
 refine jo (RR:=λacc C=>compPost (model G.prog G.w) A No none _ acc C) hh K H hl hi am.rel aR aS aA λD L s' X=>?_
 refine byQ λQ kQ=>?_
 refine ei (X.ex) λρ' items m h_p=>?_;have S:=h_p.1;have pl:=h_p.2.1;have r:=h_p.2.2.1;have hn:=h_p.2.2.2.1;have hDo:=h_p.2.2.2.2.1;have hLo:=h_p.2.2.2.2.2
 refine kQ ?_
 refine⟨m,hn,λh' hs'=>?_⟩
 obtain ⟨ρ',T,r⟩:=X.fin hl hs'
 exact⟨ρ',am.trans T,r⟩
theorem Ev.compM{tg elt iter:Expr}{ifs:List Expr}{scope:Scope}{vars:List Var}{pos:Pos}{n:Nat}{st:ItS}{v:V}{out:List V}(hh:A.handled=none)(K:CompOk C vars scope)(hs:g9 iter=true)
  (h:Ev G A C env W iter σ η v σ₁) (hi:bh v=some st) (H:∀ cenv W',CoR G A ⟨vars,aM scope C⟩ cenv W' tg elt ifs n st σ₁ (clr η vars) out σ') (hl:out.length<=lim) :
  Ev G A C env W (.ListComp elt [⟨tg,iter,ifs,0⟩] scope pos) σ η (.ref σ'.length) (σ'++[⟨out,none⟩]):=λρ s R N ht=>by
 rw[eval_ListComp]
 refine wpAny_comprehension_free (use:=none) rfl (λx=>dT hs x) (gK K N) K.fn K.loc ?_
 show wpAny _ A (eval iter env) _ _ s
 refine h.use R N ht λcv au aa am aR aS aA=>?_
 refine jo (RR:=λacc C=>compPost (model G.prog G.w) A No none _ acc C) hh K H hl hi am.rel aR aS aA λD L s' X=>?_
 refine byQ λQ kQ=>?_
 refine ei (X.ex) λρ' items m h_p=>?_;have S:=h_p.1;have pl:=h_p.2.1;have r:=h_p.2.2.1;have hn:=h_p.2.2.2.1;have hDo:=h_p.2.2.2.2.1;have hLo:=h_p.2.2.2.2.2
 refine kQ ?_
 refine⟨m,hn,λh' hs'=>?_⟩
 obtain ⟨ρ',T,r⟩:=X.finM am.rel hl hs'
 exact⟨ρ',am.trans T,r⟩
theorem Es.asgComp{x:Var}{p spos:Pos}{tg elt iter:Expr}{ifs:List Expr}{scope:Scope}{vars:List Var}{pos:Pos}{n:Nat}{st:ItS}{v:V}{out:List V}(hh:A.handled=none)(K:CompOk C vars scope)(hs:g9 iter=true)
  (hx:x∈C.vars) (ho:x.own=true) (hxk:C.kind x.name=some .local) (hline:p.line=pos.line) (hnot:(scope.names.any λy=>y.1==x.name&&(y.2==.local || y.2==.cell))=false)
  (h:Ev G A C env W iter σ η v σ₁) (hi:bh v=some st) (H:∀ cenv W',CoR G A ⟨vars,aM scope C⟩ cenv W' tg elt ifs n st σ₁ (clr η vars) out σ') (hl:out.length<=lim) :
  Es G A C env W (.Assign [.Name x.name p] (.ListComp elt [⟨tg,iter,ifs,0⟩] scope pos) spos) σ η .next σ' (η.set x.slot (some (.lst out))):=λρ s R N ht=>by
 have hfn:=(Cx.ok_parts N.ok).1
 have hsw:swapsWith (.ListComp elt [⟨tg,iter,ifs,0⟩] scope pos) (some (.Name x.name p)) spos.line env=pure true:=by
  show (pure (env.blockKind==.function&&env.kindOf x.name==some .local&&p.line==pos.line&&!(scope.names.any λ(n,k)=>n==x.name&&(k==.local || k==.cell))):Sem Bool)=pure true
  have h1:env.blockKind=.function:=by unfold Env.blockKind;rw[N.sc,hfn];rfl
  have h2:env.kindOf x.name=some .local:=by unfold Env.kindOf;exact(N.sc)▸(hxk)
  have h3:(scope.names.any λ(n,k)=>n==x.name&&(k==.local || k==.cell))=false:=hnot
  rw[h1,h2,h3,hline]
  simp
 refine(exec_Assign_Name_used _ _ _ _ hsw)▸?_
 refine wpAny_bind (wpAny_standAt (wpAny_bind ?_))
 show wpAny _ A (do let _ ← comprehension (.ListComp elt [⟨tg,iter,ifs,0⟩] scope pos) scope env _ (newList []) false (eval iter env) (some (assign (.Name x.name p) env))) _ _ s
 refine wpAny_bind (wpAny_mono (wpAny_comprehension_free (E:=No) (use:=some (assign (.Name x.name p) env)) (Q:=λ_ s'=>PS G C env W ρ s σ' (η.set x.slot (some (.lst out))) .next .next s')
  rfl (λy=>dT hs y) (gK K N) K.fn K.loc ?_) (λ_ s' hq=>wpAny_pure (wpAny_pure hq)) λ_ _ f=>f.elim)
 show wpAny _ A (eval iter env) _ _ s
 refine h.use R N ht λcv au aa am aR aS aA=>?_
 refine jo (RR:=λacc C=>compPost (model G.prog G.w) A No (some (assign (.Name x.name p) env)) _ acc C) hh K H hl hi am.rel aR aS aA λD L s' X=>?_
 refine ei (X.ex) λρ' items m h_p=>?_;have S:=h_p.1;have pl:=h_p.2.1;have r:=h_p.2.2.1;have hn:=h_p.2.2.2.1;have hDo:=h_p.2.2.2.2.1;have hLo:=h_p.2.2.2.2.2
 -- at the comprehension's end,seen as a step from au
 have S':Step G aa au ρ' s' σ':=S.drop λb hb hne=>by rw[List.mem_singleton.mp hb] at hne;exact absurd X.newL hne
 have N':=aR.mono am.rel S'
 have rl:RV s'.heap ρ' (.lst out) (.ref D):=by dsimp only[RV];exact⟨hl,D,items,rfl,hDo,pl,r⟩
 have hLW:L ∉ W:=λhm=>by
  refine a4 (aR.wk L hm) λo h_p=>?_;have e:=h_p.1
  rw[X.newL] at e;exact nso e
 show wpAny _ A (assign (.Name x.name p) env (.ref D)) _ _ s'
 refine wpAny_assign_Name (RE.store S'.rel N' hx ho rl λs'' S'' N''=>?_)
 have hn'':s''.heap.Ns L m:=by
  refine zb (hn) λo es ep e q=>?_
  exact kl1 o es ep (S''.keep L o e hLo.1 hLW X.looseL) q
 refine⟨m,hn'',λh' hs'=>?_⟩
 refine wp (id hn'') λo es ep e hd q=>?_
 -- the last write at L
 have T:StepW G (L::W) aa au ρ' s'' σ':=(S'.toW.trans S'').weaken λb hb=>List.mem_cons_of_mem _ hb
 refine gq (T.closeNew (t:=s''.toks) X.newL ⟨o,e,Solid.no_dict hd⟩ hs'.extBut hLo X.baseL X.looseL) λT' K'=>?_
 refine⟨ρ',am.toW.trans T',N''.keepAll K' (λb hb o e=>hs'.extBut b o (by rintro rfl;exact hLW hb) e) λc oc vc e' hdc _=>hs'.extBut c oc (by
  rintro rfl
  rw[e] at e';obtain rfl:=siX e'
  replace hdc:=(hd)▸hdc;cases hdc) e',rfl⟩
end
noncomputable def uA(l:List Nat):Nat->List Nat
 | 0=>[]
 | n+1=>l++uA l n
theorem fC(l:List Nat):∀ n,(uA l n).length=l.length*n
 | 0=>rfl
 | n+1=>by show (l++uA l n).length=_;rw[List.length_append,fC l n,Nat.mul_succ,Nat.add_comm]
noncomputable def bu1(l:List V):Nat->List V
 | 0=>[]
 | n+1=>l++bu1 l n
noncomputable def vI:V->Option Int
 | .int i=>some i
 | _=>none
noncomputable def vS:V->Option (List Nat)
 | .str i=>some i
 | _=>none
noncomputable def vL:V->Option (List V)
 | .lst i=>some i
 | _=>none
theorem kI1{v:V}{i:Int}(h:vI v=some i):v=.int i:=by cases v <;> first | (obtain rfl:=siX h;rfl) | exact nso h
theorem h61{v:V}{i:List Nat}(h:vS v=some i):v=.str i:=by cases v <;> first | (obtain rfl:=siX h;rfl) | exact nso h
theorem kH1{v:V}{i:List V}(h:vL v=some i):v=.lst i:=by cases v <;> first | (obtain rfl:=siX h;rfl) | exact nso h
section
variable {α β:Type} {P:Prop} {r:β}
theorem jH{o:Option α}{f:α->Option β}(h:o.bind f=some r)(q:∀ x,o=some x->f x=some r->P):P:=(Option.bind_eq_some_iff.mp h).elim λx h=>q x h.1 h.2
theorem uG{v:V}{f:Int->Option β}(h:(vI v).bind f=some r)(q:∀ x,v=.int x->f x=some r->P):P:=jH h λx hx=>q x (kI1 hx)
theorem uF{v:V}{f:List Nat->Option β}(h:(vS v).bind f=some r)(q:∀ x,v=.str x->f x=some r->P):P:=jH h λx hx=>q x (h61 hx)
theorem hH1{v:V}{f:List V->Option β}(h:(vL v).bind f=some r)(q:∀ x,v=.lst x->f x=some r->P):P:=jH h λx hx=>q x (kH1 hx)
theorem bg{c:Prop}[Decidable c]{o:Option β}(h:(if c then o else none)=some r):c/\o=some r:=by
 by_cases hc:c
 ·exact⟨hc,(if_pos hc).symm.trans h⟩
 ·exact nomatch (if_neg hc).symm.trans h
end
noncomputable def ii{β:Type}(f:Int->Int->Option β)(a b:V):Option β:=(vI a).bind λx=>(vI b).bind λy=>f x y
theorem aF1{β:Type}{P:V->V->Prop}{f:Int->Int->Option β}{a b:V}{r:β}(h:ii f a b=some r)(q:∀ x y,f x y=some r->P (.int x) (.int y)):P a b :=
 uG h λx hx h=>uG h λy hy h=>by rw[hx,hy];exact q x y h
noncomputable def kx1(a b:V):Option V:=match a with
 | .int x=>(vI b).bind λy=>some (.int (x+y))
 | .str x=>(vS b).bind λy=>if x.length+y.length<=lim then some (.str (x++y)) else none
 | .lst x=>(vL b).bind λy=>if x.length+y.length<=lim then some (.lst (x++y)) else none
 | _=>none
noncomputable def kf1(a b:V):Option V:=match a with
 | .int x=>(vI b).bind λy=>if x.natAbs<1000000000 then some (.int (x*y)) else none
 | .str x=>(vI b).bind λn=>if n<=1000000/\-1000000<=n/\x.length*n.toNat<=lim then some (.str (uA x n.toNat)) else none
 | .lst x=>(vI b).bind λn=>if n<=1000000/\-1000000<=n/\x.length*n.toNat<=lim then some (.lst (bu1 x n.toNat)) else none
 | _=>none
noncomputable def qL(op:Operator)(a b:V):Option V :=
 match op with
 | .Add=>kx1 a b
 | .Sub=>ii (λx y=>some (.int (x - y))) a b
 | .Mult=>kf1 a b
 | .FloorDiv=>ii (λx y=>if 1<=y/\y<1000000000 then some (.int (x / y)) else none) a b
 | .Mod=>ii (λx y=>if 1<=y then some (.int (x % y)) else none) a b
 | .Pow=>ii (λx y=>if x.natAbs<1000000000/\0<=y/\y<=1000 then some (.int (x ^ y.toNat)) else none) a b
 | _=>none
theorem fA(l:List V):∀ n,(bu1 l n).length=l.length*n
 | 0=>rfl
 | n+1=>by show (l++bu1 l n).length=_;rw[List.length_append,fA l n,Nat.mul_succ,Nat.add_comm]
section
variable {G:Wd} {A:Around} {C C':Cx} {env cenv:Env} {W W':List Addr} {η η' η₁ η₂ bj:ac} {σ σ' σ₁ σ₂ aq:List AO} {ρ ρ' aa:Rho} {s s' au aG:Shared}
theorem On.two{f:Value->Value->Sem Value}{u v w:V}(h:∀ ρ s bz b7,Rel G σ ρ s->RV s.heap ρ u bz->RV s.heap ρ v b7->0<s.toks->wpAny (model G.prog G.w) A (f bz b7) (PE G ρ s σ' w) No s) :
  On G A (fun | [a,b]=>f a b | _=>pure .none) σ [u,v] w σ':=λρ s cvs R r ht=>by
 obtain ⟨bz,aA,rfl,h1,h2⟩:=RVs.cons_iff r
 refine cC (RVs.cons_iff h2) λb7 aL h_p=>?_;obtain rfl:=h_p.1;have h3:=h_p.2.1;have h4:=h_p.2.2
 refine(RVs.nil_iff h4)▸?_
 exact h ρ s bz b7 R h1 h3 ht
theorem On.one{f:Value->Sem Value}{u w:V}(h:∀ ρ s bz,Rel G σ ρ s->RV s.heap ρ u bz->0<s.toks->wpAny (model G.prog G.w) A (f bz) (PE G ρ s σ' w) No s) :
  On G A (fun | [a]=>f a | _=>pure .none) σ [u] w σ':=λρ s cvs R r ht=>by
 refine cC (RVs.cons_iff r) λbz aA h_p=>?_;obtain rfl:=h_p.1;have h1:=h_p.2.1;have h2:=h_p.2.2
 refine(RVs.nil_iff h2)▸?_
 exact h ρ s bz R h1 ht
theorem aY(R:Rel G σ ρ s){i:Int}{t k:Tok}:PE G ρ s σ (.int i) (.int i t) { s with toks:=k }:=⟨ρ,Step.toks R k,RV.int_⟩
theorem cL(R:Rel G σ ρ s){l:List Nat}{x:Str}{t k:Tok}(hl:l.length<=lim)(e:x.cps.toList=l):PE G ρ s σ (.str l) (.str x t) { s with toks:=k }:=⟨ρ,Step.toks R k,RV.str' hl e⟩
theorem aK(R:Rel G σ ρ s){b:Bool}:PE G ρ s σ (.bool b) (.bool b) s:=⟨ρ,Step.refl R,RV.bool_⟩
theorem bi{l:List Nat}:(⟨l.toArray⟩:Str).length=l.length:=rfl
theorem hO(l:List Nat):∀ (n:Nat) (acc:Array Nat),((List.replicate n l.toArray).foldl (·++·) acc).toList=acc.toList++uA l n
 | 0,acc=>(List.append_nil _).symm
 | n+1,acc=>by
  rw[List.replicate_succ,List.foldl_cons,hO l n]
  exact(congrArg (·++uA l n) Array.toList_append).trans (List.append_assoc _ _ _)
theorem a81{l:List Nat}{n:Int}:(Txt.mul ⟨l.toArray⟩ n).cps.toList=uA l n.toNat:=by
 dsimp only[Txt.mul]
 by_cases h:n<1
 ·rw[if_pos h]
  have:n.toNat=0:=by lia
  rw[this];rfl
 ·rw[if_neg h]
  split
  ·rename_i h1
   simp only[Bool.or_eq_true,beq_iff_eq,bi] at h1
   rcases h1 with h1 | h1
   ·rw[h1];show l=l++[];rw[List.append_nil]
   ·have:l=[]:=List.eq_nil_of_length_eq_zero h1
    subst this
    have:∀ k,uA [] k=[]:=λk=>List.eq_nil_of_length_eq_zero (by rw[fC];simp)
    rw[this]
  ·rw[hO];simp
theorem df1(vs:Array Value):∀ k:Nat,(List.foldl (λx1 x2=>x1++x2) #[] (List.replicate k vs)).toList=(List.replicate k vs.toList).flatten:=λk=>by
 have key:∀ (k:Nat) (acc:Array Value),(List.foldl (λx1 x2=>x1++x2) acc (List.replicate k vs)).toList=acc.toList++(List.replicate k vs.toList).flatten:=by
  intro k
  induction k with
  | zero=>intro acc;simp
  | succ k ih=>intro acc;rw[List.replicate_succ,List.foldl_cons,ih,List.replicate_succ,List.flatten_cons,Array.toList_append,List.append_assoc]
 exact key k #[]
theorem RVs.rep{h:Heap}{x:List V}{vl:List Value}(r:RVs h ρ x vl):∀ k:Nat,RVs h ρ (bu1 x k) (List.replicate k vl).flatten
 | 0=>RVs.nil
 | k+1=>by
  rw[List.replicate_succ,List.flatten_cons]
  exact RVs.append r (RVs.rep r k)
theorem On.ints{f:Value->Value->Sem Value}{x y:Int}{w:V}(h:∀ ρ s t u,Rel G σ ρ s->wpAny (model G.prog G.w) A (f (.int x t) (.int y u)) (PE G ρ s σ' w) No s) :
  On G A (fun | [a,b]=>f a b | _=>pure .none) σ [.int x,.int y] w σ':=On.two λρ s bz b7 R aA aL ht=>by
 obtain ⟨t,rfl⟩:=RV.int_iff aA;obtain ⟨u,rfl⟩:=RV.int_iff aL
 exact h ρ s t u R
theorem On.strs{f:Value->Value->Sem Value}{x y:List Nat}{w:V}(h:∀ ρ s t u,Rel G σ ρ s->wpAny (model G.prog G.w) A (f (.str ⟨x.toArray⟩ t) (.str ⟨y.toArray⟩ u)) (PE G ρ s σ' w) No s) :
  On G A (fun | [a,b]=>f a b | _=>pure .none) σ [.str x,.str y] w σ':=On.two λρ s bz b7 R aA aL ht=>by
 obtain ⟨_,t,rfl⟩:=RV.str_iff aA;obtain ⟨_,u,rfl⟩:=RV.str_iff aL
 exact h ρ s t u R
theorem b01{x y:Int}(h:x.natAbs<1000000000):On G A (fun | [x,y]=>binaryOp .Mult x y | _=>pure .none) σ [.int x,.int y] (.int (x*y)) σ:=On.ints λρ s t u R=>by
 refine mul_int (aY R) (IntMulOk.of_left ?_)
 unfold Builtin.Int.intBits
 split
 ·exact Nat.zero_le _
 ·rename_i h0
  have h0':x.natAbs≠0:=λe=>h0 (by rw[Int.natAbs_eq_zero.mp e];rfl)
  have:=(Nat.log2_lt (k:=63) h0').mpr (Nat.lt_of_lt_of_le h (by decide))
  exact Nat.le_succ_of_le ‹_›
theorem di1{x y:List Nat}(h:x.length+y.length<=lim):On G A (fun | [x,y]=>binaryOp .Add x y | _=>pure .none) σ [.str x,.str y] (.str (x++y)) σ:=On.strs λρ s t u R=>by
 refine SB.add (λt' k=>cL R (by rw[List.length_append];exact h) ?_) (by rw[bi,bi];exact Nat.le_trans h (by decide))
 show (_++_:Array Nat).toList=_
 simp
theorem bZ1{k:Nat}{n:Int}(h:n<=1000000/\-1000000<=n/\k*n.toNat<=lim):decide (n < -1000000)=false/\(1<=n->(k:Int)<=(2 ^ 63 - 1) / n)/\k*n.toNat<=1000000:=by
 have h2:=h.2.2
 unfold lim at h2
 refine⟨by simp;omega,λh1=>?_,h2⟩
 have hx:(k:Int)<=1000000:=by
  have h3:k*1<=k*n.toNat:=Nat.mul_le_mul_left _ (by lia)
  lia
 have:(1000000:Int)<=(2 ^ 63 - 1) / n:=by
  refine Int.le_ediv_of_mul_le (by assumption) ?_
  have:(1000000:Int)*n<=1000000*1000000:=Int.mul_le_mul_of_nonneg_left h.1 (by decide)
  omega
 lia
theorem fp1{x:List Nat}{n:Int}(h:n<=1000000/\-1000000<=n/\x.length*n.toNat<=lim):On G A (fun | [x,y]=>binaryOp .Mult x y | _=>pure .none) σ [.str x,.int n] (.str (uA x n.toNat)) σ:=On.two λρ s bz b7 R aA aL ht=>by
 obtain ⟨_,t,rfl⟩:=RV.str_iff aA;obtain ⟨u,rfl⟩:=RV.int_iff aL
 refine SB.mul ⟨?_,λh1 _=>?_,λh1 _=>?_⟩ (λt' k=>cL R (by rw[fC];exact h.2.2) a81)
 ·simp only[Bool.or_eq_false_iff,decide_eq_false_iff_not];omega
 ·rw[bi];exact Int.not_lt.mpr ((bZ1 h).2.1 (by exact Int.not_lt.mp ‹_›))
 ·rw[bi]
  unfold Builtin.Str.tooLong
  refine decide_eq_false ?_
  have:=(bZ1 h).2.2
  have h4:sizeLine=16777216:=rfl
  lia
theorem dj1{x y:List V}(h:x.length+y.length<=lim):On G A (fun | [x,y]=>binaryOp .Add x y | _=>pure .none) σ [.lst x,.lst y] (.lst (x++y)) σ:=On.two λρ s bz b7 R aA aL ht=>by
 refine byQ λQ kQ=>?_
 obtain ⟨_,l,vs,rfl,ho,⟨n,hl⟩,hr⟩:=RV.lst_iff aA;obtain ⟨_,b,us,rfl,ho',⟨m,hb⟩,hr'⟩:=RV.lst_iff aL
 have hlen:(vs++us).size<=sizeLine:=by
  have h1:=RVs.length hr
  have h2:=RVs.length hr'
  simp at h1 h2
  rw[Array.size_append,h1,h2]
  exact Nat.le_trans h (by decide)
 refine kQ ?_
 exact PySem.P.add_list hl hb ⟨ρ,Step.grow R (λb o e=>Heap.get?_push_of_some _ e) ⟨_,_,rfl⟩,by
  dsimp only[RV]
  exact⟨by rw[List.length_append];exact h,_,_,rfl,bM R,⟨_,Heap.get?_push_size _ rfl⟩,by
   rw[Array.toList_append]
   exact RVs.append (RVs.sameHeap (λb o e=>Heap.get?_push_of_some _ e) hr) (RVs.sameHeap (λb o e=>Heap.get?_push_of_some _ e) hr')⟩⟩ (by rwa [Array.size_append] at hlen)
theorem fq1{x:List V}{n:Int}(h:n<=1000000/\-1000000<=n/\x.length*n.toNat<=lim):On G A (fun | [x,y]=>binaryOp .Mult x y | _=>pure .none) σ [.lst x,.int n] (.lst (bu1 x n.toNat)) σ:=On.two λρ s bz b7 R aA aL ht=>by
 obtain ⟨hx,l,vs,rfl,ho,⟨k,hl⟩,hr⟩:=RV.lst_iff aA;obtain ⟨u,rfl⟩:=RV.int_iff aL
 have hsz:vs.size=x.length:=by have:=RVs.length hr;simpa using this
 have hlm:=(bZ1 h).2.2
 have hll:sizeLine=16777216:=rfl
 refine wpAny_binaryOp_repeat_ref (T:="list") (U:="int") (by decide) ⟨_,hl,rfl⟩ (λs'=>typeIs_int s' n u) noFill_list_mul F.fills_int_mul F.slot_int_rmul repeat_list F.slot_int_index.lookup
  (call_meets F.slot_int_rmul (typeIs_int s n u) F.entry_int_rmul (F.args_int_rmul_2 _ _) (int___rmul___int_list n u l vs k) ⟨hl,rfl,⟨_,hl,rfl⟩,call_meets F.slot_list_mul ⟨_,hl,rfl⟩ F.entry_list_mul (F.args_list_mul_2 _ _)
   (AutoListH.list___mul___list_int_3 l vs k n u (by simp [Builtin.List.listFitsIndex];omega) (by rw[hsz];lia) (by rw[hsz];simp [Builtin.List.listTooLong];exact Nat.le_trans ‹_› (by decide))) ⟨hl,?_⟩⟩)
 refine⟨ρ,Step.grow R (λb o e=>Heap.get?_push_of_some _ e) ⟨_,_,rfl⟩,?_⟩
 dsimp only[RV]
 refine⟨by rw[fA];exact h.2.2,_,_,rfl,bM R,⟨_,Heap.get?_push_size _ rfl⟩,RVs.sameHeap (λb o e=>Heap.get?_push_of_some _ e) ?_⟩
 rw[df1]
 by_cases he:vs.isEmpty=true
 ·rw[if_pos he]
  have:x=[]:=List.eq_nil_of_length_eq_zero (by rw[← hsz,Array.isEmpty_iff.mp he];rfl)
  subst this
  have:bu1 [] n.toNat=[]:=List.eq_nil_of_length_eq_zero (by rw[fA];simp)
  rw[this]
  exact RVs.nil
 ·rw[if_neg he]
  exact RVs.rep hr _
noncomputable def OnB(G:Wd)(A:Around)(σ:List AO)(op:Operator)(v a b:V):Prop:=On G A (fun | [x,y]=>binaryOp op x y | _=>pure .none) σ [a,b] v σ
theorem OnB.of{op:Operator}{u v a b:V}(h:some u=some v)(k:OnB G A σ op u a b):OnB G A σ op v a b:=siX h▸k
theorem ui{a b v:V}(e:kx1 a b=some v):OnB G A σ .Add v a b:=by
 cases a with
 | int x=>exact uG e λy hy e=>by rw[hy];exact OnB.of e (On.ints λρ s t u R=>add_int (aY R))
 | str x=>exact uF e λy hy e=>by rw[hy];exact OnB.of (bg e).2 (di1 (bg e).1)
 | lst x=>exact hH1 e λy hy e=>by rw[hy];exact OnB.of (bg e).2 (dj1 (bg e).1)
 | _=>exact nso e
theorem tr{a b v:V}(e:kf1 a b=some v):OnB G A σ .Mult v a b:=by
 cases a with
 | int x=>exact uG e λy hy e=>by rw[hy];exact OnB.of (bg e).2 (b01 (bg e).1)
 | str x=>exact uG e λy hy e=>by rw[hy];exact OnB.of (bg e).2 (fp1 (bg e).1)
 | lst x=>exact uG e λy hy e=>by rw[hy];exact OnB.of (bg e).2 (fq1 (bg e).1)
 | _=>exact nso e
theorem ud{op:Operator}{a b v:V}(e:qL op a b=some v):OnB G A σ op v a b:=by
 cases op with
 | Add=>exact ui e
 | Sub=>exact aF1 (P:=OnB G A σ .Sub v) e λx y e=>OnB.of e (On.ints λρ s t u R=>sub_int (aY R))
 | Mult=>exact tr e
 | FloorDiv=>exact aF1 (P:=OnB G A σ .FloorDiv v) e λx y e=>OnB.of (bg e).2 (On.ints λρ s t u R=>by
   have h:=(bg e).1
   refine floordiv_int (by omega) ?_ (.inl (PyProof.noPylong_small (by omega)))
   rw[Int.fdiv_eq_ediv_of_nonneg _ (by omega)]
   exact aY R)
 | Mod=>exact aF1 (P:=OnB G A σ .Mod v) e λx y e=>OnB.of (bg e).2 (On.ints λρ s t u R=>by
   have h:=(bg e).1
   refine mod_int' (by omega) ?_
   rw[Int.fmod_eq_emod_of_nonneg _ (by omega)]
   exact aY R)
 | Pow=>exact aF1 (P:=OnB G A σ .Pow v) e λx y e=>OnB.of (bg e).2 (On.ints λρ s t u R =>
   have h:=(bg e).1
   pow_int_small h.2.1 (by omega) (Nat.lt_of_lt_of_le h.1 (by decide)) (aY R))
 | _=>exact nso e
end
mutual
noncomputable def okP:Nat->V->Bool
 | _,.none=>true
 | _,.bool _=>true
 | _,.int _=>true
 | _,.str l=>l.all (·<0x110000)
 | n+1,.tup l=>okPs n l
 | n+1,.lst l=>okPs n l
 | _,_=>false
noncomputable def okPs:Nat->List V->Bool
 | _,[]=>true
 | n,x::xs=>okP n x&&okPs n xs
end
mutual
noncomputable def toP:V->PyData
 | .none=>.none
 | .bool b=>.bool b
 | .int i=>.int i
 | .str l=>.str ⟨l.toArray⟩
 | .tup l=>.tuple (toPs l)
 | .lst l=>.list (toPs l)
 | _=>.none
noncomputable def toPs:List V->List PyData
 | []=>[]
 | x::xs=>toP x::toPs xs
end
mutual
theorem lJ:∀ (n:Nat) (x:V),okP n x=true->(toP x).canLay0=true/\(toP x).depth<=n
 | n,.none=>λ_=>⟨rfl,Nat.zero_le _⟩
 | n,.bool b=>λ_=>⟨rfl,Nat.zero_le _⟩
 | n,.int i=>λ_=>⟨rfl,Nat.zero_le _⟩
 | n,.str l=>λh=>⟨(show PyData.strOk ⟨l.toArray⟩=true by dsimp only[PyData.strOk];simpa using (show l.all (·<0x110000)=true from h)),Nat.zero_le _⟩
 | n,.tup l=>@Nat.casesOn (λn=>okP n (.tup l)=true->(toP (.tup l)).canLay0=true/\(toP (.tup l)).depth<=n) n ftr λn h=>have:=okPs_can n l h;⟨this.1,Nat.succ_le_succ this.2⟩
 | n,.lst l=>@Nat.casesOn (λn=>okP n (.lst l)=true->(toP (.lst l)).canLay0=true/\(toP (.lst l)).depth<=n) n ftr λn h=>have:=okPs_can n l h;⟨this.1,Nat.succ_le_succ this.2⟩
 | n,.raw l=>λh=>by cases n <;> exact ftr h
 | n,.rng a b c=>λh=>by cases n <;> exact ftr h
 | n,.ref k=>λh=>by cases n <;> exact ftr h
theorem okPs_can:∀ (n:Nat) (x:List V),okPs n x=true->PyData.canLayAll0 (toPs x)=true/\PyData.depthAll (toPs x)<=n
 | n,[],h=>⟨rfl,Nat.zero_le _⟩
 | n,x::xs,h =>
  have q:=ao h
  have a:=lJ n x q.1
  have b:=okPs_can n xs q.2
  ⟨Bool.and_eq_true_iff.mpr ⟨a.1,b.1⟩,Nat.max_le.mpr ⟨a.2,b.2⟩⟩
end
mutual
theorem RV.reads{h:Heap}{ρ:Rho}:∀ (n:Nat) (x:V) (v:Value),okP n x=true->RV h ρ x v->∃ as,Reads h v (toP x) as
 | n,.none=>λv k r=>RV.none_iff r▸⟨_,.none⟩
 | n,.bool b=>λv k r=>RV.bool_iff r▸⟨_,.bool b⟩
 | n,.int i=>λv k r=>a4 (RV.int_iff r) λt e=>e▸⟨_,.int i t⟩
 | n,.str l=>λv k r=>gq (RV.str_iff r) λ_ h=>a4 h λt e=>e▸⟨_,.str _ t⟩
 | n,.tup l=>@Nat.casesOn (λn=>∀ v,okP n (.tup l)=true->RV h ρ (.tup l) v->∃ as,Reads h v (toP (.tup l)) as) n (λ_ k _=>ftr k) λn v k r=>gq (RV.tup_iff r) λ_ q=>fi1 q λa vs e _ ht hr=>ht.elim λm g=>(RVs.reads n l _ k hr).elim λas h=>e▸⟨_,.tuple g rfl rfl h⟩
 | n,.lst l=>@Nat.casesOn (λn=>∀ v,okP n (.lst l)=true->RV h ρ (.lst l) v->∃ as,Reads h v (toP (.lst l)) as) n (λ_ k _=>ftr k) λn v k r=>gq (RV.lst_iff r) λ_ q=>fi1 q λa vs e _ ht hr=>ht.elim λm g=>(RVs.reads n l _ k hr).elim λas h=>e▸⟨_,.list g rfl rfl h⟩
 | n,.raw l=>λ_ k _=>by cases n <;> exact ftr k
 | n,.rng a b c=>λ_ k _=>by cases n <;> exact ftr k
 | n,.ref i=>λ_ k _=>by cases n <;> exact ftr k
theorem RVs.reads{h:Heap}{ρ:Rho}:∀ (n:Nat) (x:List V) (v:List Value),okPs n x=true->RVs h ρ x v->∃ as,ReadsAll h v (toPs x) as
 | n,[],v,k,r=>RVs.nil_iff r▸⟨_,.nil⟩
 | n,x::xs,v,k,r=>oS (RVs.cons_iff r) λc cs e r1 r2=>a4 (RV.reads n x c (ao k).1 r1) λa q1=>a4 (RVs.reads n xs cs (ao k).2 r2) λb q2=>e▸⟨_,.cons q1 q2⟩
end
noncomputable def veq(x y:V):Bool:=PyData.eqv (toP x) (toP y)
noncomputable def dv1(x y:List V):Bool:=PyData.eqvAll (toPs x) (toPs y)
theorem vF(a b:List Nat):((⟨a.toArray⟩:Str)==⟨b.toArray⟩)=(a==b):=by
 rw[Bool.eq_iff_iff,beq_iff_eq,beq_iff_eq]
 constructor
 ·intro h;injection h with h;simpa using congrArg Array.toList h
 ·rintro rfl;rfl
theorem a51(a b:List Nat):veq (.str a) (.str b)=(a==b):=vF a b
theorem vg(a b:List V):veq (.tup a) (.tup b)=dv1 a b:=rfl
theorem eq(x y:V)(xs ys:List V):dv1 (x::xs) (y::ys)=(veq x y&&dv1 xs ys):=rfl
theorem rG:dv1 [] []=true:=rfl
theorem vh(n:Nat)(x y:V)(_:okP n x=true)(_:okP n y=true):PyData.eqv (toP x) (toP y)=veq x y:=rfl
noncomputable def der(σ:List AO)(v:V):V :=
 match v with
 | .ref k=>match σ[k]? with
  | some ⟨items,none⟩=>.lst items
  | _=>v
 | _=>v
noncomputable def jY1(y x:List Nat):Bool:=Txt.contains ⟨x.toArray⟩ ⟨y.toArray⟩
noncomputable def inF(σ:List AO)(a b:V):Option Bool :=
 match der σ b with
 | .str y=>(vS a).bind λx=>some (jY1 x y)
 | .lst l=>if okP 3 a&&okPs 3 l then some (l.any λy=>veq y a) else none
 | _=>none
noncomputable def eqG(σ:List AO)(a b:V):Option Bool:=if okP 4 (der σ a)&&okP 4 (der σ b) then some (veq (der σ a) (der σ b)) else none
noncomputable def eqF(σ:List AO)(a b:V):Option Bool :=
 match vS a with
 | some x=>match vS b with
  | some y=>some (x==y)
  | none=>eqG σ a b
 | none=>eqG σ a b
noncomputable def ltF(a b:V):Option Bool:=match a with
 | .int x=>(vI b).bind λy=>some (decide (x<y))
 | .str x=>(vS b).bind λy=>some (decide (x<y))
 | _=>none
noncomputable def gtF(a b:V):Option Bool:=match a with
 | .int x=>(vI b).bind λy=>some (decide (y<x))
 | .str x=>(vS b).bind λy=>some (decide (y<x))
 | _=>none
noncomputable def vB:V->Option Bool
 | .bool b=>some b
 | _=>none
theorem jQ1{v:V}{i:Bool}(h:vB v=some i):v=.bool i:=by cases v <;> first | (obtain rfl:=siX h;rfl) | exact nso h
noncomputable def isF(f:Bool->Bool->Bool)(a b:V):Option Bool:=(vB a).bind λx=>(vB b).bind λy=>some (f x y)
noncomputable def hR(op:CmpOp)(σ:List AO)(a b:V):Option Bool :=
 match op with
 | .Eq=>eqF σ a b
 | .NotEq=>(eqF σ a b).map (!·)
 | .Lt=>ltF a b
 | .LtE=>ii (λx y=>some (decide (x<=y))) a b
 | .Gt=>gtF a b
 | .GtE=>ii (λx y=>some (decide (y<=x))) a b
 | .Is=>isF (λx y=>x==y) a b
 | .IsNot=>isF (λx y=>x != y) a b
 | .In=>inF σ a b
 | .NotIn=>(inF σ a b).map (!·)
section
variable {G:Wd} {A:Around} {C C':Cx} {env cenv:Env} {W W':List Addr} {η η' η₁ η₂ bj:ac} {σ σ' σ₁ σ₂ aq:List AO} {ρ ρ' aa:Rho} {s s' au aG:Shared}
theorem dq{n:Nat}{v:V}{cv:Value}(R:Rel G σ ρ s)(r:RV s.heap ρ v cv)(k:okP n (der σ v)=true):∃ as,Reads s.heap cv (toP (der σ v)) as:=by
 cases v with
 | ref i =>
  obtain ⟨p,hp,rfl⟩:=RV.ref_iff r
  refine gp (σ[i]?) (λhσ=>?_) (λo hσ=>?_)
  ·
   have e:der σ (.ref i)=.ref i:=by show (match σ[i]? with | some ⟨items,none⟩=>V.lst items | _=>.ref i)=_;rw[hσ]
   replace k:=(e)▸k;cases n <;> (delta okP at k;exact ftr k)
  ·
   obtain ⟨items,acc⟩:=o
   cases acc with
   | some z =>
    have e:der σ (.ref i)=.ref i:=by show (match σ[i]? with | some ⟨items,none⟩=>V.lst items | _=>.ref i)=_;rw[hσ]
    replace k:=(e)▸k;cases n <;> (delta okP at k;exact ftr k)
   | none =>
    have e:der σ (.ref i)=.lst items:=by show (match σ[i]? with | some ⟨items,none⟩=>V.lst items | _=>.ref i)=_;rw[hσ]
    rw[e] at k ⊢
    cases n with
    | zero=>delta okP at k;exact ftr k
    | succ n =>
     refine byQ λQ kQ=>?_
     dsimp only[okP] at k
     have ro:=R.obj i p _ hp hσ
     dsimp only[RO] at ro
     obtain ⟨hlim,e2,vs,⟨m,hpl⟩,hr⟩:=ro
     obtain ⟨as,h⟩:=RVs.reads n items _ k hr
     refine kQ ?_
     dsimp only[toP];exact⟨_,.list hpl rfl rfl h⟩
 | _=>exact RV.reads n _ cv k r
theorem mD{n:Nat}{x:V}(hx:okP n x=true):∀ {l:List V},okPs n l=true->((toPs l).any λy=>PyData.eqv y (toP x))=l.any λy=>veq y x
 | [],_=>rfl
 | y::ys,h=>congrArg (veq y x || ·) (mD hx (ao h).2)
noncomputable def OnC(G:Wd)(A:Around)(σ:List AO)(op:CmpOp)(k:Bool)(a b:V):Prop:=On G A (fun | [x,y]=>compareOp op x y | _=>pure .none) σ [a,b] (.bool k) σ
theorem OnC.of{op:CmpOp}{u k:Bool}{a b:V}(h:some u=some k)(q:OnC G A σ op u a b):OnC G A σ op k a b:=siX h▸q
theorem nV{a b:V}{k:Bool}(hu:A.units+10<cLine)(e:eqG σ a b=some k):OnC G A σ .Eq k a b/\OnC G A σ .NotEq (!k) a b:=by
 have h:=Bool.and_eq_true_iff.mp (bg e).1
 refine(siX (bg e).2)▸?_
 have c1:=lJ 4 _ h.1
 have c2:=lJ 4 _ h.2
 refine⟨On.two λρ s hX1 hV1 R aA aL ht=>?_,On.two λρ s hX1 hV1 R aA aL ht=>?_⟩
 ·obtain ⟨as,q1⟩:=dq R aA h.1
  obtain ⟨bs,q2⟩:=dq R aL h.2
  refine PySem.SeqAt.compareEq_reads q1 q2 c1.1 c2.1 (by have:=c1.2;have:=Nat.min_le_left (toP (der σ a)).depth (toP (der σ b)).depth;omega) ?_
  rw[vh 4 _ _ h.1 h.2];exact aK R
 ·obtain ⟨as,q1⟩:=dq R aA h.1
  obtain ⟨bs,q2⟩:=dq R aL h.2
  refine PySem.SeqAt.compareNe_reads q1 q2 c1.1 c2.1 (by have:=c1.2;have:=Nat.min_le_left (toP (der σ a)).depth (toP (der σ b)).depth;omega) ?_
  rw[vh 4 _ _ h.1 h.2];exact aK R
theorem nW{a b:V}{k:Bool}(hu:A.units+10<cLine)(e:eqF σ a b=some k):OnC G A σ .Eq k a b/\OnC G A σ .NotEq (!k) a b:=by
 refine gp (vS a) (λhx=>?_) (λx hx=>?_)
 ·exact nV hu (by rw[← e,eqF,hx])
 ·refine gp (vS b) (λhy=>?_) (λy hy=>?_)
  ·exact nV hu (by rw[← e,eqF,hx,hy])
  ·
   have e:some (x==y)=some k:=by rw[← e,eqF,hx,hy]
   rw[h61 hx,h61 hy,← siX e]
   exact⟨On.strs λρ s t u R=>PySem.P.eq_str (aK R),On.strs λρ s t u R=>PySem.P.ne_str (aK R)⟩
theorem xx{v:V}(h:∀ l,der σ v≠.lst l):der σ v=v:=by
 cases v with
 | ref i =>
  have key:∀ o:Option AO,(∀ l:List V,(match o with | some ⟨items,none⟩=>V.lst items | _=>V.ref i)≠V.lst l)->(match o with | some ⟨items,none⟩=>V.lst items | _=>V.ref i)=V.ref i:=by
   intro o h
   cases o with
   | none=>rfl
   | some a=>obtain ⟨x,y⟩:=a;cases y with
    | none=>exact absurd rfl (h x)
    | some _=>rfl
  exact key _ h
 | _=>rfl
theorem dW{v:V}{l:List Nat}(hd:der σ v=.str l):v=.str l:=(xx λx e=>nomatch hd.symm.trans e).symm.trans hd
theorem nP{a b:V}{k:Bool}(hu:A.units+10<cLine)(e:inF σ a b=some k):OnC G A σ .In k a b/\OnC G A σ .NotIn (!k) a b:=by
 cases hd:der σ b with
 | str y =>
  refine byQ λQ kQ=>?_
  have e:(vS a).bind (λx=>some (jY1 x y))=some k:=by rw[← e,inF,hd]
  refine kQ ?_
  refine uF e λx hx e=>?_
  rw[hx,dW hd,← siX e]
  exact⟨On.strs λρ s t u R=>SB.contains (aK R),On.strs λρ s t u R=>SB.notContains (aK R)⟩
 | lst l =>
  have e:(if okP 3 a&&okPs 3 l then some (l.any λy=>veq y a) else none)=some k:=by rw[← e,inF,hd]
  have h:=Bool.and_eq_true_iff.mp (bg e).1
  refine(siX (bg e).2)▸?_
  have c1:=lJ 3 _ h.1
  have c2:=okPs_can 3 _ h.2
  have hl4:okP 4 (der σ b)=true:=by exact(hd)▸(h.2)
  have tl:toP (der σ b)=.list (toPs l):=by rw[hd];rfl
  refine⟨On.two λρ s hX1 hV1 R aA aL ht=>?_,On.two λρ s hX1 hV1 R aA aL ht=>?_⟩
  ·obtain ⟨as,q1⟩:=RV.reads 3 _ _ h.1 aA
   obtain ⟨bs,q2⟩:=dq R aL hl4
   rw[tl] at q2
   refine PySem.SeqAt.in_list_reads q2 q1 c2.1 c1.1 (by have:=c1.2;have:=Nat.min_le_right (PyData.depthAll (toPs l)) (toP a).depth;omega) ?_
   rw[mD h.1 h.2];exact aK R
  ·obtain ⟨as,q1⟩:=RV.reads 3 _ _ h.1 aA
   obtain ⟨bs,q2⟩:=dq R aL hl4
   rw[tl] at q2
   refine PySem.SeqAt.notIn_list_reads q2 q1 c2.1 c1.1 (by have:=c1.2;have:=Nat.min_le_right (PyData.depthAll (toPs l)) (toP a).depth;omega) ?_
   rw[mD h.1 h.2];exact aK R
 | _=>exact nomatch (show none=some k by rw[← e,inF,hd])
theorem fu1{o:Option Bool}{k:Bool}{P:Prop}(h:o.map (!·)=some k)(q:∀ j,o=some j->(!j)=k->P):P:=(Option.map_eq_some_iff.mp h).elim λj h=>q j h.1 h.2
theorem fO1{f:Bool->Bool->Bool}{a b:V}{k:Bool}{P:V->V->Bool->Prop}(h:isF f a b=some k)(q:∀ x y,P (.bool x) (.bool y) (f x y)):P a b k :=
 jH h λx hx h=>jH h λy hy h=>by rw[jQ1 hx,jQ1 hy,← siX h];exact q x y
theorem wP{a b:V}{k:Bool}(e:ltF a b=some k):OnC G A σ .Lt k a b:=by
 cases a with
 | int x=>exact uG e λy hy e=>by rw[hy];exact OnC.of e (On.ints λρ s t u R=>lt_int (aK R))
 | str x=>exact uF e λy hy e=>by rw[hy];exact OnC.of e (On.strs λρ s t u R=>PySem.P.lt_str (aK R))
 | _=>exact nso e
theorem xm{a b:V}{k:Bool}(e:gtF a b=some k):OnC G A σ .Gt k a b:=by
 cases a with
 | int x=>exact uG e λy hy e=>by rw[hy];exact OnC.of e (On.ints λρ s t u R=>gt_int (aK R))
 | str x=>exact uF e λy hy e=>by rw[hy];exact OnC.of e (On.strs λρ s t u R=>PySem.P.gt_str (aK R))
 | _=>exact nso e
theorem bw{op:CmpOp}{a b:V}{k:Bool}(hu:A.units+10<cLine)(e:hR op σ a b=some k):OnC G A σ op k a b:=by
 cases op with
 | Eq=>exact(nW hu e).1
 | NotEq=>exact fu1 e λj h hk=>hk▸(nW hu h).2
 | Lt=>exact wP e
 | LtE=>exact aF1 (P:=OnC G A σ .LtE k) e λx y e=>OnC.of e (On.ints λρ s t u R=>le_int (aK R))
 | Gt=>exact xm e
 | GtE=>exact aF1 (P:=OnC G A σ .GtE k) e λx y e=>OnC.of e (On.ints λρ s t u R=>ge_int (aK R))
 | Is=>exact fO1 (P:=λa b k=>OnC G A σ .Is k a b) e λx y=>On.two λρ s bz b7 R aA aL ht=>RV.bool_iff aA▸RV.bool_iff aL▸is_bool (aK R)
 | IsNot=>exact fO1 (P:=λa b k=>OnC G A σ .IsNot k a b) e λx y=>On.two λρ s bz b7 R aA aL ht=>RV.bool_iff aA▸RV.bool_iff aL▸isnot_bool (aK R)
 | In=>exact(nP hu e).1
 | NotIn=>exact fu1 e λj h hk=>hk▸(nP hu h).2
theorem tp{i:Int}:On G A (fun | [x]=>unaryOp .USub x | _=>pure .none) σ [.int i] (.int (-i)) σ:=On.one λρ s bz R aA ht=>by
 obtain ⟨t,rfl⟩:=RV.int_iff aA;exact neg_int (aY R)
end
noncomputable def dH(σ:List AO)(a i:V):Option V :=
 match i with
 | .int i=>if -1000000000<=i/\i<=1000000000 then
   match der σ a with
   | .str l=>match seqIndex? i l.length with | some k=>(l[k]?).map λc=>.str [c] | none=>none
   | .tup l=>match seqIndex? i l.length with | some k=>l[k]? | none=>none
   | .lst l=>match seqIndex? i l.length with | some k=>l[k]? | none=>none
   | _=>none
  else none
 | _=>none
noncomputable def fk:V->Option (Option Int)
 | .none=>some none
 | .int i=>some (some i)
 | _=>none
noncomputable def jL{α:Type}(l:List α)(lo hi st:Option Int):List α :=
 (sliceRange (sliceBounds lo hi st l.length).1 (sliceBounds lo hi st l.length).2.1 (sliceBounds lo hi st l.length).2.2).filterMap (l[·]?)
noncomputable def pk(σ:List AO)(a lo hi st:V):Option V :=
 match fk lo,fk hi,fk st with
 | some l,some h,some s =>
  if s=some 0 then none else
  match der σ a with
  | .str x=>if s=none then some (.str (Txt.slice ⟨x.toArray⟩ l h).cps.toList) else none
  | .lst x=>some (.lst (jL x l h s))
  | .raw x=>some (.lst (jL x l h s))
  | _=>none
 | _,_,_=>none
section
variable {G:Wd} {A:Around} {C C':Cx} {env cenv:Env} {W W':List Addr} {η η' η₁ η₂ bj:ac} {σ σ' σ₁ σ₂ aq σ₄ bQ:List AO} {ρ ρ' aa:Rho} {s s' au aG:Shared}
noncomputable def kz1(o i:Value)(slice:Expr):Prop:=∃ vs,subscripted slice false o i=operate vs (getItem o i)
theorem dY1{o i:Value}{slice:Expr}{vs:List Value}(h:subscripted slice false o i=operate vs (getItem o i)):kz1 o i slice:=⟨vs,h⟩
theorem vD(slice:Expr)(o i:Value):kz1 o i slice:=by
 cases slice with
 | Slice a b c p=>cases c <;> exact dY1 rfl
 | _=>exact dY1 rfl
theorem rK{value slice:Expr}{o i:Value}{Q:Value->Shared->Prop}{E:Value->Shared->Prop}(h:ItemOn (model G.prog G.w) A E o i Q s):wpAny (model G.prog G.w) A (subscriptTail value slice o i) Q E s:=by
 refine cC (h) λT id h_p=>?_;have hl:=h_p.1;have hT:=h_p.2.1;have hg:=h_p.2.2
 unfold subscriptTail
 refine wpAny_bind ?_
 refine(getitemInPython_of_ne hT.not_modules)▸?_
 refine wpAny_bind (wpAny_specialOf hT hl ?_)
 refine wpAny_pure ?_
 refine wpAny_bind ?_
 have fin:∀ vs:List Value,wpAny (model G.prog G.w) A (operate vs (getItem o i)) (λr d9=>wpAny (model G.prog G.w) A (letTemporaryGo value o r>>=λ_=>pure r) Q E d9) E s :=
  λvs=>wpAny_operating (wpAny_mono hg (λr d9 hH=>wpAny_bind (wpAny_letTemporaryGo (wpAny_pure hH))) λ_ _ x=>x)
 exact a4 (vD slice o i) λvs e=>e▸fin vs
theorem cN1{k:Nat}{l:List V}{cv:Value}(hd:der σ (.ref k)=.lst l)(R:Rel G σ ρ s)(r:RV s.heap ρ (.ref k) cv):∃ a vs,cv=.ref a/\s.heap.PlainList a vs/\RVs s.heap ρ l vs.toList/\l.length<=lim:=by
 refine aQ (RV.ref_iff r) λp hp rfl=>?_
 have hd':(match σ[k]? with | some ⟨items,none⟩=>V.lst items | _=>.ref k)=.lst l:=hd
 refine gp (σ[k]?) (λhσ=>?_) (λo hσ=>?_)
 ·replace hd':=(hσ)▸hd';cases hd'
 ·
  obtain ⟨items,acc⟩:=o
  cases acc with
  | some z=>replace hd':=(hσ)▸hd';cases hd'
  | none =>
   refine byQ λQ kQ=>?_
   replace hd':=(hσ)▸hd';cases hd'
   have ro:=R.obj k p _ hp hσ
   dsimp only[RO] at ro
   obtain ⟨hlim,e2,vs,h_p⟩:=ro;have hpl:=h_p.1;have hr:=h_p.2
   refine kQ ?_
   exact zr p.1 vs rfl hpl hr hlim
theorem cj{v:V}{l:List V}{cv:Value}(hd:der σ v=.lst l)(R:Rel G σ ρ s)(r:RV s.heap ρ v cv):∃ a vs,cv=.ref a/\s.heap.PlainList a vs/\RVs s.heap ρ l vs.toList/\l.length<=lim:=by
 cases v with
 | ref k=>exact cN1 hd R r
 | lst x =>
  refine byQ λQ kQ=>?_
  have:V.lst x=.lst l:=hd
  cases this
  obtain ⟨hl,a,vs,h_p⟩:=RV.lst_iff r;obtain rfl:=h_p.1;have hp:=h_p.2.2.1;have hr:=h_p.2.2.2
  refine kQ ?_
  exact zr a vs rfl hp hr hl
 | _=>cases hd
theorem qv{v:V}{l:List V}(hd:der σ v=.tup l):v=.tup l:=(xx λx e=>nomatch hd.symm.trans e).symm.trans hd
theorem cO1{v:V}{l:List V}(hd:der σ v=.raw l):v=.raw l:=(xx λx e=>nomatch hd.symm.trans e).symm.trans hd
theorem wZ{a:Addr}{vs:Array Value}{i:Int}{t:Tok}{k:Nat}{c:Value}{Q:Value->Shared->Prop}{E:Value->Shared->Prop}(hp:s.heap.PlainList a vs)(hi:-1000000000<=i/\i<=1000000000)
  (hk:seqIndex? i vs.size=some k) (hc:vs[k]?=some c) (h:Q c s):ItemOn (model G.prog G.w) A E (.ref a) (.int i t) Q s:=by
 refine pT ("list") _ list_getitem_lookup hp.isList.typeIs ?_
 by_cases h0:0<=i
 ·refine wpAny_getItem_list hp.isList h0 (by omega) ?_ h
  unfold seqIndex? at hk
  simp only[show ¬ i<0 by exact Int.not_lt.mpr ‹_›,if_false] at hk
  split at hk
  ·obtain rfl:=siX hk;exact hc
  ·exact nso hk
 ·unfold seqIndex? at hk
  simp only[show i<0 by exact Int.not_le.mp ‹_›,if_true] at hk
  split at hk
  ·rename_i hh
   simp only[Bool.and_eq_true,decide_eq_true_eq] at hh
   obtain rfl:=siX hk
   exact wpAny_getItem_list_neg hp.isList (by exact Int.not_le.mp ‹_›) (by omega) (by omega) hc h
  ·exact nso hk
theorem am1{l:List V}{i:Int}{v:V}(e:(match seqIndex? i l.length with | some k=>l[k]? | none=>none)=some v):∃ k,seqIndex? i l.length=some k/\l[k]?=some v:=by
 cases hk:seqIndex? i l.length with
 | none=>replace e:=(hk)▸e;exact nso e
 | some k=>rw[hk] at e;exact⟨k,rfl,e⟩
theorem zD{a i v:V}{bz b7:Value}{Q:Value->Shared->Prop}(R:Rel G σ ρ s)(e:dH σ a i=some v)(aA:RV s.heap ρ a bz)(aL:RV s.heap ρ i b7)(k:∀ cv s',Step G ρ s ρ s' σ->RV s'.heap ρ v cv->Q cv s'):ItemOn (model G.prog G.w) A No bz b7 Q s:=by
 cases i <;> first | (exact nso e;done) | skip
 rename_i i
 obtain ⟨u,rfl⟩:=RV.int_iff aL
 have hi:=(bg e).1
 have e:=(bg e).2
 cases hd:der σ a with
 | str l =>
  refine byQ λQ kQ=>?_
  replace e:=(hd)▸e
  dsimp only at e
  replace aA:=(dW hd)▸aA
  obtain ⟨_,t,rfl⟩:=RV.str_iff aA
  refine kQ ?_
  refine gp (seqIndex? i l.length) (λhk=>?_) (λn hk=>?_)
  ·replace e:=(hk)▸e;exact nso e
  ·
   refine byQ λQ kQ=>?_
   replace e:=(hk)▸e
   obtain ⟨c,h_p⟩:=Option.map_eq_some_iff.mp e;have hc:=h_p.1;obtain rfl:=h_p.2
   have hch:Txt.charAt ⟨l.toArray⟩ i=some c:=by
    dsimp only[Txt.charAt]
    rw[bi,hk]
    simpa using hc
   refine kQ ?_
   refine SB.item ?_ (by rw[hch];rfl) ?_
   ·simp only[fitsSsize,Bool.not_eq_true',Bool.or_eq_false_iff,decide_eq_false_iff_not]
    omega
   ·refine k _ _ (Step.toks R _) (RV.str' (show 1<=lim by decide) ?_)
    dsimp only[Txt.item]
    rw[hch];rfl
 | tup l =>
  refine byQ λQ kQ=>?_
  replace e:=(hd)▸e
  replace aA:=(qv hd)▸aA
  obtain ⟨_,ad,vs,rfl,_,⟨n,hp⟩,hr⟩:=RV.tup_iff aA
  obtain ⟨m,h_p⟩:=am1 e;have hk:=h_p.1;have e:=h_p.2
  obtain ⟨c,h_p⟩:=RVs.get hr e;have hc:=h_p.1;have hv:=h_p.2
  have hlen:vs.size=l.length:=by have:=RVs.length hr;simpa using this
  refine kQ ?_
  exact pT ("tuple") _ F.slot_tuple_getitem.lookup ⟨_,hp,rfl⟩ (PySem.P.getItem_tuple hp (by omega) (by omega) (by rw[hlen];exact hk) (by simpa using hc) (k _ _ (Step.refl R) hv))
 | lst l =>
  refine byQ λQ kQ=>?_
  replace e:=(hd)▸e
  obtain ⟨ad,vs,rfl,h_p⟩:=cj hd R aA;have hp:=h_p.1;have hr:=h_p.2.1;have hlim:=h_p.2.2
  obtain ⟨m,h_p⟩:=am1 e;have hk:=h_p.1;have e:=h_p.2
  refine aQ (RVs.get hr e) λc hc hv=>?_
  have hlen:vs.size=l.length:=by have:=RVs.length hr;simpa using this
  refine kQ ?_
  exact wZ hp hi (by rw[hlen];exact hk) (by simpa using hc) (k _ _ (Step.refl R) hv)
 | _=>replace e:=(hd)▸e;exact nso e
theorem Ev.idx{value slice:Expr}{pos:Pos}{a i v:V}(dJ:Ev G A C env W value σ η a σ₁)(cV:Ev G A C env W slice σ₁ η i σ₂)(e:dH σ₂ a i=some v):Ev G A C env W (.Subscript value slice pos) σ η v σ₂:=λρ s R N ht =>
 Subscript_ (dJ.use R N ht λbz au aa am aR aS aA=>cV.use am.rel aR aS λb7 aG aC aB cn c0 aL=>rK (zD aB.rel e (RV.mono (Step.keepV am.rel aB) _ _ aA) aL λcv s' S r=>⟨aC,(am.trans aB).trans S,r⟩))
noncomputable def Ep(G:Wd)(A:Around)(C:Cx)(env:Env)(W:List Addr)(e:Option Expr)(σ:List AO)(η:ac)(v:V)(σ':List AO):Prop :=
 (e=none/\v=.none/\σ'=σ)\/∃ x,e=some x/\Ev G A C env W x σ η v σ'
theorem Ep.use{e:Option Expr}{v:V}{Q:Value->Shared->Prop}{E:Value->Shared->Prop}(H:Ep G A C env W e σ η v σ')(R:Rel G σ ρ s)(N:RE G C env W η ρ s)(ht:0<s.toks)
  (k:∀ cv s' ρ',Step G ρ s ρ' s' σ'->RE G C env W η ρ' s'->0<s'.toks->RV s'.heap ρ' v cv->Q cv s'):wpAny (model G.prog G.w) A (evalPart e env) Q E s:=by
 rcases H with ⟨rfl,rfl,rfl⟩ | ⟨x,rfl,H⟩
 ·exact wpAny_pure (k _ _ _ (Step.refl R) N ht RV.none_)
 ·exact H.use R N ht k
theorem jg{h:Heap}{ρ:Rho}{v:V}{cv:Value}{l:Option Int}(e:fk v=some l)(r:RV h ρ v cv):IsPart cv l/\∃ p:Option (Int×Tok),cv=partValue p/\p.map (·.1)=l:=by
 cases v with
 | none=>obtain rfl:=siX e;exact(RV.none_iff r)▸(⟨.none,none,rfl,rfl⟩)
 | int i=>obtain rfl:=siX e;obtain ⟨t,rfl⟩:=RV.int_iff r;exact⟨.int i t,some (i,t),rfl,rfl⟩
 | _=>exact nso e
theorem pj{α:Type}(l:List α)(lo hi st:Option Int):(jL l lo hi st).length<=l.length:=by
 unfold jL
 refine Nat.le_trans (List.length_filterMap_le ..) (sliceRange_length_le _ _ _ _ (λhc=>?_) λhc=>?_)
 ·simp only[sliceBounds] at hc ⊢
  simp only[hc,if_true]
  constructor
  ·cases lo with
   | none=>simp
   | some i=>dsimp only;omega
  ·cases hi with
   | none=>simp
   | some i=>dsimp only;omega
 ·simp only[sliceBounds] at hc ⊢
  simp only[hc,if_false]
  constructor
  ·cases lo with
   | none=>simp
   | some i=>dsimp only;omega
  ·cases hi with
   | none=>simp
   | some i=>dsimp only;omega
theorem kj{ad sl:Addr}{vs:Array Value}{x:List V}{b7 xF aM1:Value}{l h st:Option Int}{Q:Value->Shared->Prop}(R:Rel G σ ρ s)(hs:s.heap.IsSliceOf sl b7 xF aM1)(p2:IsPart b7 l)(p3:IsPart xF h)(p4:IsPart aM1 st)(h0:st≠some 0)
  (hil:s.heap.IsList ad vs) (hr:RVs s.heap ρ x vs.toList) (hx:x.length<=lim) (k:∀ cv s',Step G ρ s ρ s' σ->RV s'.heap ρ (.lst (jL x l h st)) cv->Q cv s'):ItemOn (model G.prog G.w) A No (.ref ad) (.ref sl) Q s:=by
 have hlen:vs.size=x.length:=by have:=RVs.length hr;simpa using this
 refine pT ("list") _ list_getitem_lookup hil.typeIs (wpAny_getItem_list_slice hil hs p2 p3 p4 h0 (k _ _ (Step.grow R (λb o e=>Heap.get?_push_of_some _ e) ⟨_,_,rfl⟩) ?_) (by rw[hlen];exact Nat.le_trans hx (by decide)))
 dsimp only[RV]
 refine⟨Nat.le_trans (pj _ _ _ _) hx,_,_,rfl,bM R,⟨_,Heap.get?_push_size _ rfl⟩,RVs.sameHeap (λb o e=>Heap.get?_push_of_some _ e) ?_⟩
 unfold slicePick jL
 rw[hlen]
 have:=RVs.filterMap_get hr (sliceRange (sliceBounds l h st x.length).1 (sliceBounds l h st x.length).2.1 (sliceBounds l h st x.length).2.2)
 simpa using this
theorem ik1{P:Prop}{a lo hi st v:V}(e:pk σ a lo hi st=some v) (q:∀ l h s,fk lo=some l->fk hi=some h->fk st=some s->s≠some 0 ->
  (match der σ a with | .str x=>if s=none then some (.str (Txt.slice ⟨x.toArray⟩ l h).cps.toList) else none | .lst x=>some (.lst (jL x l h s)) | .raw x=>some (.lst (jL x l h s)) | _=>none)=some v->P):P:=by
 unfold pk at e
 refine gp (fk lo) (λh1=>?_) (λl h1=>?_)
 ·replace e:=(h1)▸e;exact nso e
 ·refine gp (fk hi) (λh2=>?_) (λh h2=>?_)
  ·rw[h1,h2] at e;exact nso e
  ·refine gp (fk st) (λh3=>?_) (λs h3=>?_)
   ·rw[h1,h2,h3] at e;exact nso e
   ·
    rw[h1,h2,h3] at e
    by_cases h0:s=some 0
    ·exact nomatch (if_pos h0).symm.trans e
    ·exact q l h s h1 h2 h3 h0 ((if_neg h0).symm.trans e)
theorem sV{a lo hi st v:V}{bz b7 xF aM1:Value}{sl:Addr}{cV hH fQ1:Heap}{aC bA iD:Rho}{Q:Value->Shared->Prop}(R:Rel G σ ρ s)(e:pk σ a lo hi st=some v)(aA:RV s.heap ρ a bz)(aL:RV cV aC lo b7)(gn:RV hH bA hi xF)(yM:RV fQ1 iD st aM1)
  (hs:s.heap.IsSliceOf sl b7 xF aM1) (k:∀ cv s',Step G ρ s ρ s' σ->RV s'.heap ρ v cv->Q cv s'):ItemOn (model G.prog G.w) A No bz (.ref sl) Q s:=ik1 e λl h s0 hl hh hst h0 e=>by
 obtain ⟨p2,q2,e2,m2⟩:=jg hl aL
 obtain ⟨p3,q3,e3,m3⟩:=jg hh gn
 obtain ⟨p4,q4,e4,m4⟩:=jg hst yM
 cases hd:der σ a with
 | str x =>
  replace e:=(hd)▸e
  have hs0:=(bg e).1
  rw[← siX (bg e).2] at k
  rw[dW hd] at aA
  obtain ⟨hx,t,rfl⟩:=RV.str_iff aA
  subst hs0
  refine pT ("str") _ F.slot_str_getitem.lookup (typeIs_str _ _ _) ?_
  refine byQ λQ kQ=>?_
  have e4':aM1=.none:=by
   cases q4 with
   | none=>exact e4
   | some q=>exact son m4
  subst e2 e3 e4'
  refine kQ ?_
  refine wpAny_getItem_str_slice (l:=q2) (u:=q3) (st:=none) hs rfl ?_
  rw[← m2,← m3] at k
  have hle:=Txt.slice_le ⟨x.toArray⟩ (q2.map (·.1)) (q3.map (·.1))
  rw[bi] at hle
  refine post_val_or_str ⟨Nat.le_trans hle (Nat.le_trans hx (by decide)),λt' tk=>k _ _ (Step.toks R _) (RV.str' ?_ rfl)⟩
  have e5:(Txt.slice ⟨x.toArray⟩ (q2.map (·.1)) (q3.map (·.1))).cps.toList.length=(Txt.slice ⟨x.toArray⟩ (q2.map (·.1)) (q3.map (·.1))).length:=rfl
  rw[e5];exact Nat.le_trans hle hx
 | lst x =>
  rw[hd] at e
  rw[← siX e] at k
  obtain ⟨ad,vs,rfl,h_p⟩:=cj hd R aA;have hp:=h_p.1;have hr:=h_p.2.1;have hx:=h_p.2.2
  exact kj R hs p2 p3 p4 h0 hp.isList hr hx k
 | raw x =>
  rw[hd] at e
  rw[← siX e] at k
  rw[cO1 hd] at aA
  obtain ⟨hx,ad,vs,h_p⟩:=RV.raw_iff aA;obtain rfl:=h_p.1;have hil:=h_p.2.2.1;have hr:=h_p.2.2.2
  exact kj R hs p2 p3 p4 h0 hil hr hx k
 | _=>replace e:=(hd)▸e;exact nso e
theorem Ev.slice{value:Expr}{lower upper step:Option Expr}{p pos:Pos}{a lo hi st v:V}(dJ:Ev G A C env W value σ η a σ₁)(cV:Ep G A C env W lower σ₁ η lo σ₂)(hH:Ep G A C env W upper σ₂ η hi aq)(fQ1:Ep G A C env W step aq η st σ₄)
  (e:pk σ₄ a lo hi st=some v):Ev G A C env W (.Subscript value (.Slice lower upper step p) pos) σ η v σ₄:=λρ s R N ht =>
 Subscript_ (dJ.use R N ht λbz au aa am aR aS aA=>wpAny_Slice (cV.use am.rel aR aS λb7 aG aC aB cn c0 aL=>hH.use aB.rel cn c0 λxF d9 bA bP mP ka gn=>fQ1.use bP.rel mP ka λaM1 k9 iD jD mH ai1 yM =>
  have fN:=Step.grow jD.rel (λb o e=>Heap.get?_push_of_some { cls:=.type "slice",data:=.fields #[b7,xF,aM1] } e) ⟨_,_,rfl⟩
  have T:=aB.trans (bP.trans (jD.trans fN))
  rK (sV fN.rel e (RV.mono (Step.keepV am.rel T) _ _ aA) aL gn yM (Heap.IsSliceOf.new ..) λcv s' S r=>⟨iD,(am.trans T).trans S,r⟩)))
end
structure Gl (G:Wd) (x:Str) (f:Value):Prop where
 gm:∃ m,G.s₀.heap.Ns mainGlobals m/\(m x=some f\/(m x=none/\∃ b,G.s₀.heap.Ns builtinsNs b/\b x=some f))
 l1:mainGlobals ∉ G.loose
 l2:builtinsNs ∉ G.loose
section
variable {G:Wd} {A:Around} {C C':Cx} {env cenv:Env} {W W':List Addr} {η η' η₁ η₂ bj:ac} {σ σ' σ₁ σ₂ aq σ₄ bQ:List AO} {ρ ρ' aa:Rho} {s s' au aG:Shared}
theorem Ns.of_base{a:Addr}{m:Str->Option Value}(R:Rel G σ ρ s)(h:G.s₀.heap.Ns a m)(hl:a ∉ G.loose):s.heap.Ns a m:=by
 refine zb (h) λo es ep e r=>?_
 exact kl1 o es ep (R.keep a o hl e) r
theorem RE.global{x:Str}{p:Pos}{f:Value}(R:Rel G σ ρ s)(N:RE G C env W η ρ s)(hk:C.kind x=some .globalImplicit)(hd:(x==("__debug__":Str))=false)(g:Gl G x f){Q:Value->Shared->Prop}{E:Value->Shared->Prop}(h:Q f s) :
  wpAny (model G.prog G.w) A (eval (.Name x p) env) Q E s:=by
 have hf:env.scope.kind=.function:=by rw[N.sc];exact(Cx.ok_parts N.ok).1
 refine Name_function_global hf (by unfold Env.kindOf;rw[N.sc];exact hk) ?_ hd
 refine a4 (g.gm) λm h_p=>?_;have hm:=h_p.1;have hx:=h_p.2
 have hm':s.heap.Ns env.globals m:=by rw[N.glob];exact Ns.of_base R hm g.l1
 rcases hx with hx | ⟨hx,b,hb,hbx⟩
 ·exact loadGlobal_global hm' hx h
 ·have hb':s.heap.Ns env.builtins b:=by rw[N.blt];exact Ns.of_base R hb g.l2
  exact loadGlobal_builtin hm' hx hb' hbx h
noncomputable def aP:List Expr->Bool
 | []=>true
 | e::es=>gD e&&aP es
theorem bK{pos:Pos}:∀ {es:List Expr},aP es=true->(backTo pos (starEach es env)).any (·.1)=false
 | [],_=>rfl
 | e::es,h=>by
  dsimp only[aP] at h
  obtain ⟨h1,h2⟩:=Bool.and_eq_true_iff.mp h
  rw[bb h1]
  show (false || (backTo pos (starEach es env)).any (·.1))=false
  rw[bK h2];rfl
theorem eA{pos:Pos}:∀ {es:List Expr},aP es=true->(backTo pos (starEach es env)).all (λx=>!x.1)=true
 | [],_=>rfl
 | e::es,h=>by
  dsimp only[aP] at h
  obtain ⟨h1,h2⟩:=Bool.and_eq_true_iff.mp h
  rw[bb h1]
  show (true&&(backTo pos (starEach es env)).all (λx=>!x.1))=true
  rw[eA h2];rfl
theorem bU{f:Value}{es:List Expr}{pos:Pos}{Q:Args->Shared->Prop}{E:Value->Shared->Prop}(hn:aP es=true)
  (h:wpAny (model G.prog G.w) A (spliced (backTo pos (starEach es env))) (λvs s'=>Q ⟨vs,[]⟩ s') E s):wpAny (model G.prog G.w) A (evalArgs f true (backTo pos (starEach es env)) []) Q E s:=by
 cases es with
 | nil=>exact evalArgs_kw_nil (keywords:=[]) rfl (λΓ p hΓ=>h Γ p hΓ)
 | cons e es =>
  delta aP at hn
  obtain ⟨h1,h2⟩:=Bool.and_eq_true_iff.mp hn
  rw[bb h1] at h ⊢
  exact Calls.evalArgs_plain h
theorem Ev.callB{x:Str}{p pos:Pos}{args:List Expr}{id:String}{vs:List V}{v:V}(hk:C.kind x=some .globalImplicit)(hd:(x==("__debug__":Str))=false)(g:Gl G x (.builtin id))(hn:aP args=true)
  (h:Evs G A C env W args σ η vs σ₁) (ho:On G A (λcvs=>call (.builtin id) cvs) σ₁ vs v σ₂):Ev G A C env W (.Call (.Name x p) args [] pos) σ η v σ₂:=λρ s R N ht=>by
 refine wpAny_Call_Name_kw (RE.global R N hk hd g ?_)
 refine callWith_builtin (bK hn) (bU hn (h.use R N ht pos λcvs au aa am aR aS aA=>?_))
 exact ho.use am.rel aA aS λcv aG aC aB c0 aL=>⟨aC,am.trans aB,aL⟩
theorem Ev.callT{x:Str}{p pos:Pos}{args:List Expr}{T:String}{vs:List V}{v:V}(hk:C.kind x=some .globalImplicit)(hd:(x==("__debug__":Str))=false)(g:Gl G x (.type T))(hn:aP args=true)
  (h:Evs G A C env W args σ η vs σ₁) (ho:On G A (λcvs=>call (.type T) cvs) σ₁ vs v σ₂):Ev G A C env W (.Call (.Name x p) args [] pos) σ η v σ₂:=λρ s R N ht=>by
 refine wpAny_Call_Name_kw (RE.global R N hk hd g ?_)
 refine PySem.callWith_type (bK hn) (bU hn (h.use R N ht pos λcvs au aa am aR aS aA=>?_))
 exact ho.use am.rel aA aS λcv aG aC aB c0 aL=>⟨aC,am.trans aB,aL⟩
theorem Ev.callF{x:Str}{p pos:Pos}{args:List Expr}{a:Addr}{o:Obj}{fd:FuncData}{vs:List V}{v:V}(hk:C.kind x=some .globalImplicit)(hd:(x==("__debug__":Str))=false)(g:Gl G x (.ref a))(hn:aP args=true)
  (hb:G.s₀.heap.get? a=some o) (hl:a ∉ G.loose) (hf:o.data=.func fd)
  (h:Evs G A C env W args σ η vs σ₁) (ho:On G A (λcvs=>call (.ref a) cvs) σ₁ vs v σ₂):Ev G A C env W (.Call (.Name x p) args [] pos) σ η v σ₂:=λρ s R N ht=>by
 refine wpAny_Call_Name_kw (RE.global R N hk hd g ?_)
 refine callWith_function (o:=o) (fd:=fd) (bU hn (h.use R N ht pos λcvs au aa am aR aS aA=>⟨⟨am.rel.keep a o hl hb,hf⟩,?_⟩))
 exact ho.use am.rel aA aS λcv aG aC aB c0 aL=>⟨aC,am.trans aB,aL⟩
noncomputable def b9(e:Expr):Bool:=!((un e).tag==12&&(un (un e).a).tag==1&&(un e).l.isEmpty&&(un e).ks.isEmpty)
theorem e9{o:Expr}{name:Str}(h:b9 o=true)(w:Sem Value):attributeBase o name env w=w:=by
 cases o with
 | Call f l ks p =>
  cases f with
  | Name x q =>
   cases l with
   | nil=>cases ks with
    | nil=>exact ftr h
    | cons a ks=>rfl
   | cons a l=>cases ks <;> rfl
  | _=>rfl
 | _=>rfl
structure Mt (T:String) (name:Str) (id:String):Prop where
 attrs:PlainAttrs T
 slot:Slot T name id
 ty:typeOf (.builtin id)=pure (.type "method_descriptor")
noncomputable def mU(σ:List AO)(v:V):Option String :=
 match der σ v with
 | .str _=>some "str"
 | .lst _=>some "list"
 | .tup _=>some "tuple"
 | _=>none
theorem iH{v:V}{T:String}{cv:Value}(e:mU σ v=some T)(R:Rel G σ ρ s)(r:RV s.heap ρ v cv):s.TypeIs cv T/\∀ a,cv=.ref a->∃ ob,s.heap.get? a=some ob/\ob.dict=none:=by
 delta mU at e
 generalize hd:der σ v=w at e
 cases w with
 | str l =>
  obtain rfl:=siX e
  rw[dW hd] at r
  obtain ⟨_,t,rfl⟩:=RV.str_iff r
  exact⟨typeIs_str _ _ _,λ_ e=>nomatch e⟩
 | lst l =>
  obtain rfl:=siX e
  obtain ⟨a,vs,rfl,⟨n,hp⟩,_,_⟩:=cj hd R r
  exact⟨⟨_,hp,rfl⟩,λb e=>by cases e;exact⟨_,hp,rfl⟩⟩
 | tup l =>
  obtain rfl:=siX e
  rw[qv hd] at r
  obtain ⟨_,a,vs,rfl,_,⟨n,hp⟩,_⟩:=RV.tup_iff r
  exact⟨⟨_,hp,rfl⟩,λb e=>by cases e;exact⟨_,hp,rfl⟩⟩
 | _=>exact nso e
theorem Ev.meth{o:Expr}{name:Str}{apos pos:Pos}{args:List Expr}{T id:String}{u v:V}{vs:List V}(m:Mt T name id)(hs:b9 o=true)(hn:aP args=true)(hfew:args.length<29)(hline:(apos.endLine==pos.line)=true)
  (dJ:Ev G A C env W o σ η u σ₁) (hT:mU σ₁ u=some T) (cV:Evs G A C env W args σ₁ η vs σ₂) (ho:On G A (λcvs=>call (.builtin id) cvs) σ₂ (u::vs) v aq) :
  Ev G A C env W (.Call (.Attribute o name apos) args [] pos) σ η v aq:=λρ s R N ht=>by
 refine wpAny_Call_method_lateS (e9 hs _) ?_ hline ?_
 ·rw[eA hn]
  show (true&&true&&decide (args.length+0+0<30))=true
  simp;exact Nat.le_succ_of_le ‹_›
 ·refine dJ.use R N ht λbz au aa am aR aS aA=>?_
  refine gq (iH hT am.rel aA) λhT' hd=>?_
  refine fv1 T id m.attrs m.slot m.ty hT' hd ?_
  refine callWith_builtin (bK hn) (bU hn (cV.use am.rel aR aS pos λcvs aG aC aB cn c0 aL=>?_))
  exact ho.use aB.rel (RVs.cons (RV.mono (Step.keepV am.rel aB) _ _ aA) aL) c0 λcv d9 bA bP ka gn=>⟨bA,am.trans (aB.trans bP),gn⟩
end
noncomputable def f8:List V->Option (List Int)
 | []=>some []
 | v::r=>(vI v).bind λi=>(f8 r).map (i::·)
theorem dh{l:List V}:∀ {ns:List Int},f8 l=some ns->l=ns.map V.int:=by
 induction l with
 | nil=>intro ns h;obtain rfl:=siX h;rfl
 | cons v r ih =>
  intro ns h
  exact uG h λi hi h=>(Option.map_eq_some_iff.mp h).elim λms hm=>by rw[hi,ih hm.1,← hm.2];rfl
noncomputable def zk:Int->List Int->Int
 | m,[]=>m
 | m,x::r=>zk (if x>m then x else m) r
set_option genInjectivity false in
set_option genSizeOf false in
inductive Bf where
 | len | chr | ord | abs | sum | max | min
deriving DecidableEq
noncomputable def Bf.id:Bf->String
 | .len=>"len" | .chr=>"chr" | .ord=>"ord" | .abs=>"abs" | .sum=>"sum" | .max=>"max" | .min=>"min"
noncomputable abbrev a1(l:List V):Option V:=lI l
theorem zZ{l:List V}{a:V}(h:a1 l=some a):l=[a]:=nj h
noncomputable abbrev hd?(l:List Nat):Option Nat:=lI l
theorem m11{l:List Nat}{a:Nat}(h:hd? l=some a):l=[a]:=nj h
noncomputable abbrev a2(l:List V):Option (V×V):=aj1 l
theorem nc1{l:List V}{a:V×V}(h:a2 l=some a):l=[a.1,a.2]:=vo h
theorem ky1{β:Type}{P:List V->Prop}{l:List V}{f:Int->Option β}{r:β}(h:(a1 l).bind (λv=>(vI v).bind f)=some r)(q:∀ x,f x=some r->P [.int x]):P l :=
 jH h λv hv h=>uG h λx hx h=>by rw[zZ hv,hx];exact q x h
noncomputable def kn1(v:V):Option V:=match v with
 | .str l=>some (.int l.length)
 | .tup l=>some (.int l.length)
 | .lst l=>some (.int l.length)
 | _=>none
noncomputable def mM1:List Int->Option V
 | n::ns=>some (.int (zk n ns))
 | []=>none
noncomputable def bfF(f:Bf)(σ:List AO)(vs:List V):Option V :=
 match f with
 | .len=>(a1 vs).bind λv=>kn1 (der σ v)
 | .chr=>(a1 vs).bind λv=>(vI v).bind λi=>if 0<=i/\i<=1114111 then some (.str [i.toNat]) else none
 | .ord=>(a1 vs).bind λv=>(vS v).bind λl=>(hd? l).bind λc=>some (.int c)
 | .abs=>(a1 vs).bind λv=>(vI v).bind λi=>some (.int (if i<0 then -i else i))
 | .sum=>(a1 vs).bind λv=>(vL (der σ v)).bind λl=>(f8 l).map λns=>.int ns.sum
 | .max=>(a1 vs).bind λv=>(vL (der σ v)).bind λl=>(f8 l).bind mM1
 | .min=>(a2 vs).bind λp=>ii (λa b=>some (.int (if b<a then b else a))) p.1 p.2
section
variable {G:Wd} {A:Around} {C C':Cx} {env cenv:Env} {W W':List Addr} {η η' η₁ η₂ bj:ac} {σ σ' σ₁ σ₂ aq σ₄ bQ:List AO} {ρ ρ' aa:Rho} {s s' au aG:Shared}
theorem iY{v:V}{cv:Value}{h':Heap}{tk:Nat}(R:Rel G σ ρ s)(hk:∀ b o,s.heap.get? b=some o->h'.get? b=some o)(r:RV h' ρ v cv):PE G ρ s σ v cv { s with heap:=h',toks:=tk } :=
 ⟨ρ,Step.grow R hk ⟨h',tk,rfl⟩,r⟩
theorem nd(ns:List Int):∀ k,k<=ns.length->preSum (λi=>ns[i]?.getD 0) k=(ns.take k).sum
 | 0,_=>by simp [preSum]
 | k+1,h=>by
  have:ns[k]?=some ns[k]:=List.getElem?_eq_getElem (by assumption)
  rw[preSum,nd ns k (by exact Nat.le_of_lt ‹_›),List.take_add_one,this]
  simp only[Option.getD_some,Option.toList_some,List.sum_append,List.sum_cons,List.sum_nil,Int.add_zero]
theorem jh{h:Heap}{ρ:Rho}{ns:List Int}{vs:List Value}(r:RVs h ρ (ns.map V.int) vs){i:Nat}{c:Value}(hc:vs[i]?=some c):∃ n t,ns[i]?=some n/\c=.int n t:=by
 have hl:=RVs.length r
 have hi:i<ns.length:=by
  have:=(List.getElem?_eq_some_iff.mp hc).1
  rw[hl,List.length_map] at this;exact this
 have e:(ns.map V.int)[i]?=some (V.int ns[i]):=by simp [hi]
 refine aQ (RVs.get r e) λc' h1 h2=>?_
 rw[hc] at h1;obtain rfl:=siX h1
 refine a4 (RV.int_iff h2) λt rfl=>?_
 exact fw1 (ns[i]) t (List.getElem?_eq_getElem hi) rfl
theorem vC{a:Addr}{vs:Array Value}{ns:List Int}(hh:A.handled=none)(R:Rel G σ ρ s)(hp:s.heap.PlainList a vs)(r:RVs s.heap ρ (ns.map V.int) vs.toList) :
  wpAny (model G.prog G.w) A (call (.builtin "sum") [.ref a]) (PE G ρ s σ (.int ns.sum)) No s:=by
 have hsz:vs.size=ns.length:=by have:=RVs.length r;simpa using this
 refine call_sum_walkAnyS (wpAny_pyIter_list hp.isList ⟨s.heap.objs.size,[s.heap.objs.size,a],[s.heap.objs.size],λx y=>y=x,vs.size,λi v=>vs[i]?=some v,_,λi=>ns[i]?.getD 0,rfl,
  (Walks.list (A:=A.in1) hh s.heap.objs.size a ?_ vs).toS,⟨⟨_,Heap.get?_push_size _ rfl,rfl,rfl⟩,hp.isList.push _⟩,?_,?_,?_⟩)
 ·refine a4 (hp) λn e=>?_;exact Nat.ne_of_lt (Heap.lt_size e)
 ·intro b hb
  have hlt:a<s.heap.objs.size:=by refine a4 (hp) λn e=>?_;exact Heap.lt_size e
  rw[Heap.size_push]
  simp only[List.mem_cons,List.not_mem_nil,or_false] at hb
  rcases hb with rfl | rfl
  ·exact Nat.lt_succ_self _
  ·exact Nat.lt_succ_of_lt hlt
 ·intro i v hv
  refine byQ λQ kQ=>?_
  obtain ⟨n,t,h1,rfl⟩:=jh r (by simpa using hv)
  refine kQ ?_
  exact⟨t,by show _=Value.int (ns[i]?.getD 0) t;rw[h1];rfl⟩
 ·intro s' t' hm
  have e:=hm.eq_with
  rw[nd ns vs.size (by exact Nat.le_of_eq ‹_›),List.take_of_length_le (by exact Nat.le_of_eq (Eq.symm ‹_›))]
  refine⟨ρ,Step.grow R (λb o eb=>hm.heap b o ?_ (Heap.get?_push_of_some _ eb)) ⟨s'.heap,s'.toks,e⟩,RV.int_⟩
  rw[List.mem_singleton]
  exact Nat.ne_of_lt (Heap.lt_size eb)
theorem wM(ns:List Int)(n:Int):∀ k,k<(n::ns).length->∃ j,j<=k/\argBest (λi j=>decide ((n::ns).getD i 0>(n::ns).getD j 0)) k=j/\(n::ns)[j]?=some (zk n (ns.take k)):=by
 intro k
 induction k with
 | zero=>intro _;exact⟨0,Nat.le_refl _,rfl,rfl⟩
 | succ k ih =>
  intro hk
  obtain ⟨j,hj,h_p⟩:=ih (by exact Nat.le_of_lt ‹_›);have e:=h_p.1;have hv:=h_p.2
  have hk':k<ns.length:=by simpa using hk
  have hmax:∀ (l:List Int) (m x:Int),zk m (l++[x])=if x>zk m l then x else zk m l:=by
   intro l
   induction l with
   | nil=>intro m x;rfl
   | cons y l ihl=>intro m x;exact ihl _ x
  have ht:ns.take (k+1)=ns.take k++[ns[k]]:=by
   rw[List.take_add_one,List.getElem?_eq_getElem hk'];rfl
  rw[ht,hmax]
  have g1:(n::ns).getD (k+1) 0=ns[k]:=by simp [List.getD,hk']
  have g2:(n::ns).getD j 0=zk n (ns.take k):=by rw[List.getD,hv];rfl
  unfold argBest
  rw[e,g1,g2]
  by_cases h:ns[k]>zk n (ns.take k)
  ·rw[if_pos h,if_pos (by simpa using h)]
   exact⟨k+1,Nat.le_refl _,rfl,by simp [hk']⟩
  ·rw[if_neg h,if_neg (by simpa using h)]
   exact⟨j,by exact Nat.le_succ_of_le ‹_›,rfl,hv⟩
theorem cZ1{A:Around}{vs:Array Value}{ns:List Int}{h:Heap}{ρ:Rho}{prog:Program}{w:World}(r:RVs h ρ (ns.map V.int) vs.toList) :
  CmpOf prog w A .Gt (λi v=>vs[i]?=some v) (λi j=>decide (ns.getD i 0>ns.getD j 0)):=by
 intro i j vi vj s Q E hi hj hQ
 obtain ⟨n,t,h1,rfl⟩:=jh r (by simpa using hi)
 obtain ⟨m,u,h2,rfl⟩:=jh r (by simpa using hj)
 have e1:ns.getD i 0=n:=by rw[List.getD,h1];rfl
 have e2:ns.getD j 0=m:=by rw[List.getD,h2];rfl
 dsimp only at hQ
 rw[e1,e2] at hQ
 exact gt_int hQ
theorem wK{a:Addr}{vs:Array Value}{n:Int}{ns:List Int}(hh:A.handled=none)(R:Rel G σ ρ s)(hp:s.heap.PlainList a vs)(r:RVs s.heap ρ ((n::ns).map V.int) vs.toList) :
  wpAny (model G.prog G.w) A (call (.builtin "max") [.ref a]) (PE G ρ s σ (.int (zk n ns))) No s:=by
 have hsz:vs.size=(n::ns).length:=by have:=RVs.length r;simpa using this
 refine call_max_walk (wpAny_pyIter_list hp.isList ⟨s.heap.objs.size,[s.heap.objs.size,a],[s.heap.objs.size],vs.size,λi v=>vs[i]?=some v,_,λi j=>decide ((n::ns).getD i 0>(n::ns).getD j 0),rfl,
  Walks.list (A:=A.in1) hh s.heap.objs.size a ?_ vs,⟨⟨_,Heap.get?_push_size _ rfl,rfl,rfl⟩,hp.isList.push _⟩,?_,?_,cZ1 r,?_⟩)
 ·refine a4 (hp) λn e=>?_;exact Nat.ne_of_lt (Heap.lt_size e)
 ·intro b hb
  have hlt:a<s.heap.objs.size:=by refine a4 (hp) λn e=>?_;exact Heap.lt_size e
  rw[Heap.size_push]
  simp only[List.mem_cons,List.not_mem_nil,or_false] at hb
  rcases hb with rfl | rfl
  ·exact Nat.lt_succ_self _
  ·exact Nat.lt_succ_of_lt hlt
 ·rw[hsz];simp
 ·intro v h' tk hv hk
  obtain ⟨j,_,e,hj⟩:=wM ns n (vs.size - 1) (by rw[hsz];simp)
  rw[e] at hv
  obtain ⟨m,t,h1,rfl⟩:=jh r (by simpa using hv)
  rw[hj] at h1
  obtain rfl:=siX h1
  rw[List.take_of_length_le (by rw[hsz];simp)]
  refine⟨ρ,Step.grow R (λb o eb=>hk b o ?_ (Heap.get?_push_of_some _ eb)) ⟨_,_,rfl⟩,RV.int_⟩
  rw[List.mem_singleton]
  exact Nat.ne_of_lt (Heap.lt_size eb)
noncomputable def OnF(G:Wd)(A:Around)(σ:List AO)(id:String)(v:V)(vs:List V):Prop:=On G A (λcvs=>call (.builtin id) cvs) σ vs v σ
theorem OnF.of{id:String}{u v:V}{vs:List V}(h:some u=some v)(q:OnF G A σ id u vs):OnF G A σ id v vs:=siX h▸q
theorem OnF.one{id:String}{u v:V}(h:∀ ρ s c,Rel G σ ρ s->RV s.heap ρ u c->wpAny (model G.prog G.w) A (call (.builtin id) [c]) (PE G ρ s σ v) No s):OnF G A σ id v [u]:=λρ s cvs R r ht=>by
 refine cC (RVs.cons_iff r) λc r' h_p=>?_;obtain rfl:=h_p.1;have h1:=h_p.2.1;have h2:=h_p.2.2
 refine(RVs.nil_iff h2)▸?_
 exact h ρ s c R h1
theorem OnF.int{id:String}{i:Int}{v:V}(h:∀ ρ s t,Rel G σ ρ s->wpAny (model G.prog G.w) A (call (.builtin id) [.int i t]) (PE G ρ s σ v) No s):OnF G A σ id v [.int i]:=OnF.one λρ s c R r=>by
 obtain ⟨t,rfl⟩:=RV.int_iff r
 exact h ρ s t R
theorem tF{u v:V}(e:kn1 (der σ u)=some v):OnF G A σ "len" v [u]:=OnF.one λρ s c R r=>by
 cases hd:der σ u with
 | str l =>
  rw[hd] at e;rw[← siX e]
  rw[dW hd] at r
  obtain ⟨hl,t,rfl⟩:=RV.str_iff r
  refine PySem.P.len_str ?_ ?_
  ·rw[bi];unfold lim at hl;lia
  ·exact(bi)▸(aY R)
 | tup l =>
  rw[hd] at e;rw[← siX e]
  rw[qv hd] at r
  obtain ⟨hl,a,us,rfl,_,⟨n,hp⟩,hr⟩:=RV.tup_iff r
  have hsz:us.size=l.length:=by have:=RVs.length hr;simpa using this
  refine PySem.P.len_tuple hp ?_ ?_
  ·rw[hsz];unfold lim at hl;lia
  ·exact(hsz)▸(aY R)
 | lst l =>
  rw[hd] at e;rw[← siX e]
  obtain ⟨a,us,rfl,h_p⟩:=cj hd R r;have hp:=h_p.1;have hr:=h_p.2.1;have hl:=h_p.2.2
  have hsz:us.size=l.length:=by have:=RVs.length hr;simpa using this
  refine call_len_list hp.isList ?_ ?_
  ·rw[hsz];unfold lim at hl;lia
  ·exact(hsz)▸(aY R)
 | _=>replace e:=(hd)▸e;exact nso e
theorem jw{f:Bf}{vs:List V}{v:V}(hh:A.handled=none)(e:bfF f σ vs=some v):OnF G A σ f.id v vs:=by
 cases f with
 | len=>exact jH e λu hu e=>by rw[zZ hu];exact tF e
 | chr=>exact ky1 (P:=OnF G A σ "chr" v) e λi e=>OnF.of (bg e).2 (OnF.int λρ s t R=>chr_of_range (bg e).1.1 (bg e).1.2 (cL R (show 1<=lim by decide) rfl))
 | ord =>
  exact jH e λu hu e=>uF e λl hl e=>jH e λc hc e=>by
   rw[zZ hu,hl,m11 hc]
   refine OnF.of e (OnF.one λρ s c R r=>?_)
   obtain ⟨_,t,rfl⟩:=RV.str_iff r
   exact ord_of_one rfl (aY R)
 | abs=>exact ky1 (P:=OnF G A σ "abs" v) e λi e=>OnF.of e (OnF.int λρ s t R=>call_abs_int λu tk=>aY R)
 | sum =>
  exact jH e λu hu e=>hH1 e λl hl e=>(Option.map_eq_some_iff.mp e).elim λns hn=>by
   rw[zZ hu,← hn.2]
   refine OnF.one λρ s c R r=>?_
   refine cC (cj hl R r) λa us h_p=>?_;obtain rfl:=h_p.1;have hp:=h_p.2.1;have hr:=h_p.2.2.1
   rw[dh hn.1] at hr
   exact vC hh R hp hr
 | max =>
  exact jH e λu hu e=>hH1 e λl hl e=>jH e λns hn e=>by
   rw[zZ hu]
   cases ns with
   | nil=>exact nso e
   | cons n ns =>
    refine OnF.of e (OnF.one λρ s c R r=>?_)
    refine cC (cj hl R r) λa us h_p=>?_;obtain rfl:=h_p.1;have hp:=h_p.2.1;have hr:=h_p.2.2.1
    rw[dh hn] at hr
    exact wK hh R hp hr
 | min =>
  exact jH e λp hp e=>by
   rw[nc1 hp]
   refine aF1 (P:=λa b=>OnF G A σ "min" v [a,b]) e λa b e=>OnF.of e λρ s cvs R r ht=>?_
   obtain ⟨c,r',rfl,h1,h2⟩:=RVs.cons_iff r
   obtain ⟨c2,r'',rfl,h3,h4⟩:=RVs.cons_iff h2
   refine(RVs.nil_iff h4)▸?_
   obtain ⟨t,rfl⟩:=RV.int_iff h1
   obtain ⟨u,rfl⟩:=RV.int_iff h3
   refine PySem.min_two_ints hh λh' tk hk=>iY R hk ?_
   by_cases hc:b<a
   ·rw[if_pos hc,if_pos hc];exact RV.int_
   ·rw[if_neg hc,if_neg hc];exact RV.int_
end
noncomputable def rgV(a b c:Int):Option V:=if iQ a b c then some (.rng a b c) else none
noncomputable def eH1:List Int->Option V
 | [n]=>rgV 0 n 1
 | [a,b]=>rgV a b 1
 | [a,b,c]=>rgV a b c
 | _=>none
noncomputable def v4(vs:List V):Option V:=(f8 vs).bind eH1
noncomputable def vR:V->Option (Int×Int×Int)
 | .rng a b c=>some (a,b,c)
 | _=>none
theorem kG1{v:V}{a:Int×Int×Int}(h:vR v=some a):v=.rng a.1 a.2.1 a.2.2:=by cases v <;> first | (obtain rfl:=siX h;rfl) | exact nso h
noncomputable def fA1(vs:List V):Option V:=(a1 vs).bind λv=>(vR v).bind λa=>if (dc a.1 a.2.1 a.2.2).length<=lim then some (.lst (dc a.1 a.2.1 a.2.2)) else none
section
variable {G:Wd} {A:Around} {C C':Cx} {env cenv:Env} {W W':List Addr} {η η' η₁ η₂ bj:ac} {σ σ' σ₁ σ₂ aq σ₄ bQ:List AO} {ρ ρ' aa:Rho} {s s' au aG:Shared}
theorem gz{a b c:Int}{t u v:Tok}{k:Nat}(R:Rel G σ ρ s)(h:iQ a b c=true) :
  PE G ρ s σ (.rng a b c) (.ref s.heap.objs.size) { s with heap:=s.heap.push { cls:=.type "range",data:=.fields #[.int a t,.int b u,.int c v] },toks:=k }:=by
 refine iY R (λb o e=>Heap.get?_push_of_some _ e) ?_
 delta RV
 exact⟨h,_,t,u,v,rfl,bM R,Heap.get?_push_size _ rfl⟩
theorem gw{h:Heap}{a:Int}{l:List V}{cvs:List Value}(r:RVs h ρ (.int a::l) cvs):∃ t r',cvs=.int a t::r'/\RVs h ρ l r' :=
 oS (RVs.cons_iff r) λc r' e h1 h2=>a4 (RV.int_iff h1) λt q=>⟨t,r',q▸e,h2⟩
theorem m9{vs:List V}{v:V}(e:v4 vs=some v):On G A (λcvs=>call (.type "range") cvs) σ vs v σ:=λρ s cvs R r ht=>jH e λl hl e=>by
 replace r:=(dh hl)▸r
 match l,r,e with
 | [],r,e=>exact nso e
 | [n],r,e =>
  refine byQ λQ kQ=>?_
  obtain ⟨t,r1,rfl,h1⟩:=gw r
  refine kQ ?_
  rw[RVs.nil_iff h1,← siX (bg e).2]
  exact call_range_1 (gz R (bg e).1)
 | [a,b],r,e =>
  obtain ⟨t,r1,rfl,h1⟩:=gw r
  refine cC (gw h1) λu r2 h_p=>?_;obtain rfl:=h_p.1;have h2:=h_p.2
  rw[RVs.nil_iff h2,← siX (bg e).2]
  exact call_range_2 (gz R (bg e).1)
 | [a,b,c],r,e =>
  obtain ⟨t,r1,rfl,h1⟩:=gw r
  obtain ⟨u,r2,rfl,h2⟩:=gw h1
  refine cC (gw h2) λx r3 h_p=>?_;obtain rfl:=h_p.1;have h3:=h_p.2
  rw[RVs.nil_iff h3,← siX (bg e).2]
  have hk:=of_decide_eq_true (bg e).1
  exact call_range_3 (by lia) (gz R (bg e).1) (.inl (PyProof.noPylong_small (by lia)))
 | _::_::_::_::_,r,e=>exact nso e
theorem vV{a b c:Int}(hk:iQ a b c=true):Builtin.Range.small a b c=true/\0<=Builtin.Range.rangeSize a b c/\Builtin.Range.rangeSize a b c<=3000000:=⟨ar1 (of_decide_eq_true hk),vU (of_decide_eq_true hk)⟩
theorem zt{a b c:Int}{cv:Value}(hh:A.handled=none)(hl:(dc a b c).length<=lim)(R:Rel G σ ρ s)(h1:RV s.heap ρ (.rng a b c) cv):wpAny (model G.prog G.w) A (call (.type "list") [cv]) (PE G ρ s σ (.lst (dc a b c))) No s:=by
 refine byQ λQ kQ=>?_
 obtain ⟨hk,ad,t,u,w,rfl,ho,hr⟩:=RV.rng_iff h1
 refine fk1 (vV hk) λhsm h0 h3=>?_
 obtain ⟨n,hn⟩:∃ n:Nat,Builtin.Range.rangeSize a b c=n:=⟨_,(Int.toNat_of_nonneg h0).symm⟩
 refine kQ ?_
 refine call_list_range hh hr hsm hn (by lia) λh' tk acc' c' hkeep hD hit=>iY R hkeep ?_
 dsimp only[RV]
 refine⟨hl,_,acc',rfl,bM R,⟨c',hD⟩,?_⟩
 have hlen:acc'.toList.length=(dc a b c).length:=by
  unfold dc
  rw[List.length_map,List.length_range,hn,Array.length_toList,hit.1];rfl
 refine RVs.mapGet hlen λi x hx=>?_
 unfold dc at hx
 rw[List.getElem?_map] at hx
 refine gp ((List.range (Builtin.Range.rangeSize a b c).toNat)[i]?) (λhq=>?_) (λj hq=>?_)
 ·rw[hq] at hx;exact nso hx
 ·
  rw[hq] at hx
  obtain ⟨hj1,hj2⟩:=List.getElem?_eq_some_iff.mp hq
  rw[List.getElem_range] at hj2
  subst hj2
  obtain rfl:=siX hx
  have hi:i<acc'.size:=by
   rw[hit.1]
   rw[List.length_range,hn] at hj1
   simpa using hj1
  obtain ⟨t',ht'⟩:=hit.2 i acc'[i] (Array.getElem?_eq_getElem hi)
  refine⟨acc'[i],by simp [hi],?_⟩
  rw[ht'];exact RV.int_
theorem pV{vs:List V}{v:V}(hh:A.handled=none)(e:fA1 vs=some v):On G A (λcvs=>call (.type "list") cvs) σ vs v σ:=λρ s cvs R r ht =>
 jH e λw0 hw0 e=>jH e λw hw e=>by
  rw[zZ hw0,kG1 hw] at r
  rw[← siX (bg e).2]
  exact oS (RVs.cons_iff r) λcv r' e1 h1 h2=>by rw[e1,RVs.nil_iff h2];exact zt hh (bg e).1 R h1
end
open Builtin Builtin.Str Builtin.Int
theorem lW(sep:Str)(t:Tok)(y:Str)(u:Tok):«str.join» ⟨[.str sep t,.str y u],[]⟩=(do
  let ty ← typeOf (.str y u)
  if (ty==.type "list" || ty==.type "tuple")=true then (do
   match ← seqItems? (.str y u) with
   | some xs=>joinTail sep xs.toList
   | none=>unsupported "internal:str.join")
  else (do
   let it ← (pyIter (.str y u)).tryCatch λe=>do
    if ← isInstance e (.type "TypeError") then rule "str.join.not-iterable";raiseError "TypeError" "can only join an iterable" else throw e
   let items ← collect it
   joinTail sep items)):=rfl
section
variable {prog:Program} {w:World} {A:Around} {E:Value->Shared->Prop} {s:Shared} {x y:Str} {t u:Tok} {Q:Value->Shared->Prop}
theorem nL(hh:A.handled=none)(hsz:y.cps.size<=sizeLine)
  (hq:∀ (s':Shared) (l:List (Str×Tok)),(∀ b o,s.heap.get? b=some o->s'.heap.get? b=some o)->s'.gens=s.gens->s'.drawn=s.drawn->s'.os=s.os->ItemsOf (SignAt y) (strValues l).toArray y.cps.size ->
   JoinOk x (l.map (·.1))=true/\∀ t' k,Q (.str (Txt.join x (l.map (·.1))) t') { s' with toks:=k }) :
  wpAny (model prog w) A (call (.builtin "str.join") [.str x t,.str y u]) Q E s:=by
 refine wpAny_call (codeAny_call_builtin F.slot_str_join.plain F.entry_str_join (F.slot_str_join.check _ _ _ _ _ _ _ _ (typeIs_str _ _ _) (F.args_str_join_2 _ _) ?_))
 rw[lW]
 refine wpAny_bind (wpAny_typeOf (typeIs_str _ _ _) ?_)
 show wpAny _ A.in1 ((pyIter (.str y u)).tryCatch _>>=λit=>collect it>>=λitems=>joinTail x items) _ _ s
 refine wpAny_bind (wpAny_tryCatch ?_)
 have main:∀ (ty:String) (o:Obj),(ty="str_ascii_iterator"\/ty="str_iterator")->(s.heap.push o).IsStrIter s.heap.objs.size ty y u 0 ->
   wpAny (model prog w) A.in1 (collect (.ref s.heap.objs.size)>>=λitems=>joinTail x items) (λfin s'=>match fin with | .done f=>wants Q E (.ok f) s' | .again c'=>c'.quiet=true/\codeAny (model prog w) A c' (wants Q E) s') (λe s'=>wants Q E (.error e) s') { s with heap:=s.heap.push o }:=by
  intro ty o hty hit
  refine wpAny_bind (wpAny_collect_strIter (A:=A.in1) hh hty hit (λs' acc h1 h2 h3 h4 hacc=>?_) hsz)
  obtain ⟨l,hl⟩:=exists_strValues acc.toList λv hv=>by
   obtain ⟨j,hj,rfl⟩:=Array.mem_iff_getElem.mp (Array.mem_toList_iff.mp hv)
   refine cC (hacc.2 j _ (Array.getElem?_eq_getElem hj)) λc u' h_p=>?_;have e:=h_p.2
   exact cf1 _ _ e
  refine(hl)▸?_
  have hacc':ItemsOf (SignAt y) (strValues l).toArray y.cps.size:=by exact(hl)▸(hacc)
  obtain ⟨hok,hpost⟩:=hq s' l (λb ob e=>h1 b ob (by rintro rfl;rw[aN] at e;exact nso e) (Heap.get?_push_of_some _ e)) h2 h3 h4 hacc'
  unfold JoinOk at hok
  rw[Bool.not_eq_true'] at hok
  have g:Gives (joinTail x (strValues l)) (joinMade x l):=by
   have g0:=gives_joinTail x l hok
   cases l with
   | nil=>exact g0
   | cons p r=>cases r with
    | nil=>exact g0
    | cons q r'=>exact g0
  exact g prog w A (wants Q E) s' (post_join l ⟨joinFit_length hok,hpost⟩)
 cases ha:y.cps.all (·<128) with
 | true=>exact wpAny_pyIter_ascii ha (main "str_ascii_iterator" _ (.inl rfl) ⟨_,Heap.get?_push_size _ rfl,rfl,rfl⟩)
 | false=>exact wpAny_pyIter_wide ha (main "str_iterator" _ (.inr rfl) ⟨_,Heap.get?_push_size _ rfl,rfl,rfl⟩)
end
inductive Me where
 | join | replace | split | startswith | endswith | find3 | index | lstripC | count | lindex | lcount
deriving DecidableEq
noncomputable def Me.T:Me->String
 | .lindex | .lcount=>"list"
 | _=>"str"
noncomputable def Me.name:Me->String
 | .join=>"join" | .replace=>"replace" | .split=>"split" | .startswith=>"startswith" | .endswith=>"endswith" | .find3=>"find" | .index=>"index" | .lstripC=>"lstrip" | .count=>"count" | .lindex=>"index" | .lcount=>"count"
noncomputable def Me.id:Me->String
 | .join=>"str.join" | .replace=>"str.replace" | .split=>"str.split" | .startswith=>"str.startswith" | .endswith=>"str.endswith" | .find3=>"str.find" | .index=>"str.index" | .lstripC=>"str.lstrip" | .count=>"str.count" | .lindex=>"list.index" | .lcount=>"list.count"
noncomputable def gZ:List V->Option (List (List Nat))
 | []=>some []
 | v::r=>(vS v).bind λi=>(gZ r).map (i::·)
noncomputable def bZ(x:List Nat):List (List Nat)->List Nat
 | []=>[]
 | [y]=>y
 | y::z::r=>y++x++bZ x (z::r)
noncomputable abbrev S'(l:List Nat):Str:=⟨l.toArray⟩
noncomputable def bn:List (List Nat)->Nat
 | []=>0
 | x::r=>x.length+bn r
noncomputable def wX(σ:List AO)(x:List Nat)(v:V):Option V:=match der σ v with
 | .lst l=>match gZ l with
  | some ys=>if bn ys+ys.length*x.length<=lim then some (.str (bZ x ys)) else none
  | none=>none
 | .str y=>if y.length+y.length*x.length<=lim then some (.str (bZ x (y.map λc=>[c]))) else none
 | _=>none
noncomputable def hA1(x y:List Nat):Option V:=match Builtin.Str.occurrences (S' x) (S' y) 0 x.length 1 with
 | i::_=>some (.int i)
 | []=>none
noncomputable def a3:List V->Option (V×V×V)
 | [a,b,c]=>some (a,b,c)
 | _=>none
theorem nb1{l:List V}{a:V×V×V}(h:a3 l=some a):l=[a.1,a.2.1,a.2.2]:=by
 match l,h with
 | [b,c,d],h=>obtain rfl:=siX h;rfl
noncomputable def ss(σ:List AO)(u:V)(vs:List V)(f:List Nat->List Nat->Option V):Option V:=(vS (der σ u)).bind λx=>(a1 vs).bind λv=>(vS v).bind λy=>f x y
noncomputable def km1(l:List V)(v:V):Option V:=(vI v).bind λi=>(f8 l).bind λns=>(ns.findIdx? (·==i)).bind λk=>some (.int k)
noncomputable def meF(f:Me)(σ:List AO)(u:V)(vs:List V):Option V :=
 match f with
 | .join=>(vS (der σ u)).bind λx=>(a1 vs).bind λv=>wX σ x v
 | .startswith=>ss σ u vs λx y=>some (.bool (Txt.startswith (S' x) (S' y)))
 | .endswith=>ss σ u vs λx y=>some (.bool (Txt.endswith (S' x) (S' y)))
 | .find3=>(vS (der σ u)).bind λx=>(a3 vs).bind λp=>(vS p.1).bind λy=>ii (λi j=>if 0<=i/\0<=j/\j<=x.length then some (.int (match Builtin.Str.occurrences (S' x) (S' y) i.toNat j.toNat 1 with | k::_=>(k:Int) | []=>-1)) else none) p.2.1 p.2.2
 | .index=>ss σ u vs hA1
 | .lstripC=>ss σ u vs λx y=>some (.str (Txt.lstripChars (S' x) (S' y)).cps.toList)
 | .count=>ss σ u vs λx y=>some (.int (Txt.count (S' x) (S' y)))
 | .replace=>(vS (der σ u)).bind λx=>(a2 vs).bind λp=>(vS p.1).bind λy=>(vS p.2).bind λz=>if y=z then none else if x.length+(x.length+1)*z.length<=16000000/\(Txt.replace (S' x) (S' y) (S' z)).cps.toList.length<=lim then some (.str (Txt.replace (S' x) (S' y) (S' z)).cps.toList) else none
 | .lindex=>(vL (der σ u)).bind λl=>(a1 vs).bind λv=>km1 l v
 | _=>none
theorem fF:Mt "str" "join" "str.join":=⟨F.plainAttrs_str,F.slot_str_join,F.type_str_join⟩
theorem gE:Mt "str" "replace" "str.replace":=⟨F.plainAttrs_str,F.slot_str_replace,F.type_str_replace⟩
theorem rY:Mt "str" "split" "str.split":=⟨F.plainAttrs_str,F.slot_str_split,F.type_str_split⟩
theorem lM:Mt "str" "startswith" "str.startswith":=⟨F.plainAttrs_str,F.slot_str_startswith,F.type_str_startswith⟩
theorem pN:Mt "str" "endswith" "str.endswith":=⟨F.plainAttrs_str,F.slot_str_endswith,F.type_str_endswith⟩
theorem ce1:Mt "str" "find" "str.find":=⟨F.plainAttrs_str,F.slot_str_find,F.type_str_find⟩
theorem zh:Mt "str" "index" "str.index":=⟨F.plainAttrs_str,F.slot_str_index,F.type_str_index⟩
theorem wG:Mt "str" "lstrip" "str.lstrip":=⟨F.plainAttrs_str,F.slot_str_lstrip,F.type_str_lstrip⟩
theorem zi:Mt "str" "count" "str.count":=⟨F.plainAttrs_str,F.slot_str_count,F.type_str_count⟩
theorem wH:Mt "list" "index" "list.index":=⟨F.plainAttrs_list,F.slot_list_index,F.type_list_index⟩
theorem nq:Mt "list" "append" "list.append":=⟨F.plainAttrs_list,F.slot_list_append,F.type_list_append⟩
theorem cd1:Mt "list" "pop" "list.pop":=⟨F.plainAttrs_list,F.slot_list_pop,F.type_list_pop⟩
theorem sR{l:List V}:∀ {ns:List (List Nat)},gZ l=some ns->l=ns.map V.str:=by
 induction l with
 | nil=>intro ns h;obtain rfl:=siX h;rfl
 | cons v r ih =>
  intro ns h
  exact uF h λi hi h=>(Option.map_eq_some_iff.mp h).elim λms hm=>by rw[hi,ih hm.1,← hm.2];rfl
theorem iK{h:Heap}{ρ:Rho}:∀ {ys:List (List Nat)} {vs:List Value},RVs h ρ (ys.map V.str) vs->∃ l:List (Str×Tok),strValues l=vs/\l.map (·.1)=ys.map S'
 | [],vs,r=>by exact(RVs.nil_iff r)▸(⟨[],rfl,rfl⟩)
 | y::ys,vs,r=>by
  obtain ⟨c,cs,rfl,h1,h2⟩:=RVs.cons_iff r
  obtain ⟨_,t,rfl⟩:=RV.str_iff h1
  obtain ⟨l,h_p⟩:=iK h2;have e1:=h_p.1;have e2:=h_p.2
  exact⟨(S' y,t)::l,by rw[← e1];rfl,by rw[List.map_cons,e2];rfl⟩
theorem iB(x:List Nat):∀ ys:List (List Nat),(Str.join (S' x) (ys.map S')).cps.toList=bZ x ys
 | []=>rfl
 | [y]=>by
  show ((S' y).cps.toList:List Nat)=y
  simp
 | y::z::r=>by
  have ih:=iB x (z::r)
  show ((S' y++S' x++Str.join (S' x) ((z::r).map S')).cps.toList:List Nat)=y++x++bZ x (z::r)
  refine(ih)▸?_
  show ((_++_++_:Array Nat)).toList=_
  simp
section
variable {G:Wd} {A:Around} {C C':Cx} {env cenv:Env} {W W':List Addr} {η η' η₁ η₂ bj:ac} {σ σ' σ₁ σ₂ aq σ₄ bQ:List AO} {ρ ρ' aa:Rho} {s s' au aG:Shared}
open PySem.Builtin PySem.Builtin.Str in
theorem ij(x y:Str)(i j:Int)(t u v w:Tok)(hi:0<=i)(hj:0<=j)(hj2:j<=x.length) :
  Gives (Builtin.«str.find» ⟨[.str x t,.str y u,.int i v,.int j w],[]⟩) (.int (match Builtin.Str.occurrences x y i.toNat j.toNat 1 with | k::_=>(k:Int) | []=>-1)):=by
 show Gives (match Builtin.Str.occurrences x y (max 0 (if i<0 then i+x.length else i)).toNat (min (max 0 (if j<0 then j+x.length else j)).toNat x.length) 1 with | k::_=>retInt k | []=>(do rule "str.find.not-found";retInt (-1))) _
 rw[if_neg (by exact Int.not_lt.mpr ‹_›),if_neg (by exact Int.not_lt.mpr ‹_›),Int.max_eq_right hi,Int.max_eq_right hj,Nat.min_eq_left (by lia)]
 cases Builtin.Str.occurrences x y i.toNat j.toNat 1 with
 | nil=>exact .rule (.of_eq rfl)
 | cons k _=>exact .of_eq rfl
theorem cN(x:List Nat):∀ ys:List (List Nat),(bZ x ys).length<=bn ys+ys.length*x.length
 | []=>Nat.zero_le _
 | [y]=>by show y.length<=(y.length+0)+1*x.length;exact Nat.le_add_right _ _
 | y::z::r=>by
  have ih:=cN x (z::r)
  show (y++x++bZ x (z::r)).length<=(y.length+bn (z::r))+(r.length+1+1)*x.length
  rw[List.length_append,List.length_append]
  have:(r.length+1+1)*x.length=(z::r).length*x.length+x.length:=by rw[Nat.succ_mul];rfl
  lia
theorem fV:∀ ys:List (List Nat),(ys.map λy=>(S' y).length).sum=bn ys
 | []=>rfl
 | y::r=>by
  rw[List.map_cons,List.sum_cons,fV r,bi];rfl
theorem tN{x:List Nat}{ys:List (List Nat)}{a:Addr}{t:Tok}{vs:Array Value}(R:Rel G σ ρ s)(hp:s.heap.PlainList a vs)(r:RVs s.heap ρ (ys.map V.str) vs.toList)(hl:bn ys+ys.length*x.length<=lim) :
  wpAny (model G.prog G.w) A (call (.builtin "str.join") [.str (S' x) t,.ref a]) (PE G ρ s σ (.str (bZ x ys))) No s:=by
 refine a4 (iK r) λl h_p=>?_;have e1:=h_p.1;have e2:=h_p.2
 refine SC.join (l:=l) (texts:=ys.map S') ?_ e2 ?_ λt' k=>cL R (Nat.le_trans (cN x ys) hl) ?_
 ·exact(e1)▸(hp.isList)
 ·unfold JoinOk Builtin.Str.tooLong
  rw[StrLaws.joinTotal,List.map_map,List.length_map,bi,Bool.not_eq_true',decide_eq_false_iff_not]
  have:((ys.map ((λp:Str=>p.length) ∘ S')).sum)=bn ys:=fV ys
  have h4:sizeLine=16777216:=rfl
  unfold lim at hl
  lia
 ·unfold Txt.join
  rw[StrLaws.glued_eq_join]
  exact iB x ys
theorem o9(y:List Nat):bn (y.map λc=>[c])=y.length:=by
 induction y with
 | nil=>rfl
 | cons c y ih=>show 1+bn (y.map λc=>[c])=_;rw[ih,List.length_cons];exact Nat.add_comm _ _
theorem yD{y:List Nat}:∀ {l:List (Str×Tok)},ItemsOf (SignAt (S' y)) (strValues l).toArray (S' y).cps.size->l.map (·.1)=(y.map λc=>[c]).map S':=by
 intro l ⟨h1,h2⟩
 have hlen:l.length=y.length:=by simpa [strValues,S'] using h1
 apply List.ext_getElem
 ·simp [hlen]
 ·intro j g1 g2
  have hj:j<l.length:=by simpa using g1
  obtain ⟨c,u,h_p⟩:=h2 j (.str l[j].1 l[j].2) (by simp [strValues,hj]);have e1:=h_p.1;have e2:=h_p.2
  have e3:l[j].1={ cps:=#[c] }:=by injection e2
  have e4:y[j]?=some c:=by simpa [S'] using e1
  have hy:j<y.length:=by lia
  rw[List.getElem?_eq_getElem hy] at e4
  simp only[List.getElem_map]
  rw[e3]
  have:y[j]=c:=by simpa using e4
  rw[this]
theorem jW{x y:List Nat}{t u:Tok}(hh:A.handled=none)(hy:y.length<=lim)(R:Rel G σ ρ s)(hl:y.length+y.length*x.length<=lim) :
  wpAny (model G.prog G.w) A (call (.builtin "str.join") [.str (S' x) t,.str (S' y) u]) (PE G ρ s σ (.str (bZ x (y.map λc=>[c])))) No s:=by
 have hsz:(S' y).cps.size<=sizeLine:=by
  have:(S' y).cps.size=y.length:=rfl
  exact(this)▸(Nat.le_trans hy (by decide))
 refine nL hh hsz λs' l hk h2 h3 h4 hi=>?_
 have e:=yD hi
 have hle:bn (y.map λc=>[c])+(y.map λc=>[c]).length*x.length<=lim:=by rw[o9,List.length_map];exact hl
 refine(e)▸?_
 refine⟨?_,λt' k=>?_⟩
 ·unfold JoinOk Builtin.Str.tooLong
  rw[StrLaws.joinTotal,List.map_map,List.length_map,bi,Bool.not_eq_true',decide_eq_false_iff_not]
  have:(((y.map λc=>[c]).map ((λp:Str=>p.length) ∘ S')).sum)=bn (y.map λc=>[c]):=fV _
  have h4:sizeLine=16777216:=rfl
  unfold lim at hle
  lia
 ·refine⟨ρ,Step.grow R hk ⟨s'.heap,k,by cases s';cases s;simp_all⟩,RV.str' (Nat.le_trans (cN x _) hle) ?_⟩
  unfold Txt.join
  rw[StrLaws.glued_eq_join]
  exact iB x _
theorem d51{id:String}{u v:V}{vs:List V}{f:List Nat->List Nat->Option V}(h:ss σ u vs f=some v) (q:∀ x y,f x y=some v->x.length<=lim->∀ ρ s t u,Rel G σ ρ s ->
  wpAny (model G.prog G.w) A (call (.builtin id) [.str (S' x) t,.str (S' y) u]) (PE G ρ s σ v) No s):OnF G A σ id v (u::vs) :=
 uF h λx hx h=>jH h λw hw h=>uF h λy hy h=>by
  rw[zZ hw,hy]
  intro ρ s cvs R r ht
  obtain ⟨c,r',rfl,h1,h2⟩:=RVs.cons_iff r
  obtain ⟨c2,r2,rfl,h3,h4⟩:=RVs.cons_iff h2
  refine(RVs.nil_iff h4)▸?_
  replace h1:=(dW hx)▸h1
  obtain ⟨hl,t,rfl⟩:=RV.str_iff h1
  obtain ⟨_,u,rfl⟩:=RV.str_iff h3
  exact q x y h hl ρ s t u R
theorem ql{x:List Nat}{w v:V}{c:Value}{t:Tok}(hh:A.handled=none)(e:wX σ x w=some v)(R:Rel G σ ρ s)(r:RV s.heap ρ w c) :
  wpAny (model G.prog G.w) A (call (.builtin "str.join") [.str (S' x) t,c]) (PE G ρ s σ v) No s:=by
 cases hd:der σ w with
 | lst l =>
  refine byQ λQ kQ=>?_
  have e:(match gZ l with | some ys=>if bn ys+ys.length*x.length<=lim then some (V.str (bZ x ys)) else none | none=>none)=some v:=by rw[← e,wX,hd]
  refine cC (cj hd R r) λa us h_p=>?_;obtain rfl:=h_p.1;have hp:=h_p.2.1;have hr:=h_p.2.2.1
  refine kQ ?_
  refine gp (gZ l) (λhi=>?_) (λys hi=>?_)
  ·replace e:=(hi)▸e;exact nso e
  ·
   rw[hi] at e
   have e:=bg e
   refine(siX e.2)▸?_
   rw[sR hi] at hr
   exact tN R hp hr e.1
 | str y =>
  have e:=bg (show (if y.length+y.length*x.length<=lim then some (V.str (bZ x (y.map λc=>[c]))) else none)=some v by rw[← e,wX,hd])
  refine(siX e.2)▸?_
  replace r:=(dW hd)▸r
  obtain ⟨hy,u,rfl⟩:=RV.str_iff r
  exact jW hh hy R e.1
 | _=>exact nomatch (show none=some v by rw[← e,wX,hd])
theorem tE{a:Addr}{us:Array Value}{l:List V}{w v:V}{c:Value}(e:km1 l w=some v)(R:Rel G σ ρ s)(hp:s.heap.PlainList a us)(hr:RVs s.heap ρ l us.toList)(hl:l.length<=lim)(r:RV s.heap ρ w c) :
  wpAny (model G.prog G.w) A (call (.builtin "list.index") [.ref a,c]) (PE G ρ s σ v) No s :=
 uG e λi hw e=>jH e λns hi e=>jH e λk hk e=>by
  refine(siX e)▸?_
  replace r:=(hw)▸r
  obtain ⟨t,rfl⟩:=RV.int_iff r
  obtain ⟨n,hp⟩:=hp
  replace hr:=(dh hi)▸hr
  have hsz:us.size=ns.length:=by have:=RVs.length hr;simpa using this
  rw[dh hi,List.length_map] at hl
  obtain ⟨hk1,h_p⟩:=List.findIdx?_eq_some_iff_getElem.mp hk;have hk2:=h_p.1;have hk3:=h_p.2
  have ev:∀ m (hm:m<us.size) (hm':m<ns.length),∃ t,us[m]=.int ns[m] t:=λm hm hm'=>by
   refine byQ λQ kQ=>?_
   refine zc (jh hr (i:=m) (c:=us[m]) (by simp [hm])) λn' t' q1 q2=>?_
   rw[List.getElem?_eq_getElem hm'] at q1
   obtain rfl:=siX q1
   refine kQ ?_
   exact⟨t',q2⟩
  refine call_meets F.slot_list_index ⟨_,hp,rfl⟩ F.entry_list_index (F.args_list_index_2 _ _)
   (PySem.SeqAt.list_indexAt a us n none #[] (.int i t) (λy=>match y with | .int j _=>j==i | _=>false) k (by omega) (by unfold lim at hl;lia) ?_ ?_) ⟨hp,λy hy=>?_,aY R⟩
  ·obtain ⟨t',et⟩:=ev k (by omega) hk1
   exact(et)▸(hk2)
  ·intro m hm hmk
   obtain ⟨t',et⟩:=ev m hm (by omega)
   rw[et]
   simpa using hk3 m hmk
  ·obtain ⟨m,hm,rfl⟩:=Array.mem_iff_getElem.mp hy
   obtain ⟨t',et⟩:=ev m hm (by omega)
   rw[et]
   exact PySem.SeqAt.EqAt.int_int _ _ _ _
theorem tU{x y:List Nat}{v:V}{t u:Tok}(e:hA1 x y=some v)(R:Rel G σ ρ s):wpAny (model G.prog G.w) A (call (.builtin "str.index") [.str (S' x) t,.str (S' y) u]) (PE G ρ s σ v) No s:=by
 refine mT1 (Builtin.Str.occurrences (S' x) (S' y) 0 x.length 1) (λho=>?_) (λi rest ho=>?_)
 ·rw[hA1,ho] at e;exact nso e
 ·
  rw[hA1,ho] at e
  refine(siX e)▸?_
  exact SC.index (by rw[bi];exact ho) (aY R)
theorem wI{f:Me}{u v:V}{vs:List V}(hh:A.handled=none)(hf:f≠.replace)(e:meF f σ u vs=some v):OnF G A σ f.id v (u::vs):=by
 cases f with
 | join =>
  exact uF e λx hx e=>jH e λw hw e=>by
   rw[zZ hw]
   intro ρ s cvs R r ht
   obtain ⟨c,r',rfl,h1,h2⟩:=RVs.cons_iff r
   obtain ⟨c2,r2,rfl,h3,h4⟩:=RVs.cons_iff h2
   rw[RVs.nil_iff h4]
   rw[dW hx] at h1
   obtain ⟨_,t,rfl⟩:=RV.str_iff h1
   exact ql hh e R h3
 | startswith=>exact d51 e λx y e _ ρ s t u R=>siX e▸SC.startswith (aK R)
 | endswith=>exact d51 e λx y e _ ρ s t u R=>siX e▸SC.endswith (aK R)
 | find3 =>
  exact uF e λx hx e=>jH e λp hp e=>uF e λy hy e=>by
   rw[nb1 hp,hy]
   refine aF1 (P:=λa b=>OnF G A σ Me.find3.id v (u::[.str y,a,b])) e λi j e=>OnF.of (bg e).2 λρ s cvs R r ht=>?_
   have h:=(bg e).1
   obtain ⟨c,r',rfl,h1,h2⟩:=RVs.cons_iff r
   replace h1:=(dW hx)▸h1
   obtain ⟨_,t,rfl⟩:=RV.str_iff h1
   obtain ⟨c,r',rfl,h1,h2⟩:=RVs.cons_iff h2
   obtain ⟨c2,r2,rfl,h3,h4⟩:=RVs.cons_iff h2
   obtain ⟨c3,r3,rfl,h5,h6⟩:=RVs.cons_iff h4
   refine(RVs.nil_iff h6)▸?_
   obtain ⟨_,w,rfl⟩:=RV.str_iff h1
   obtain ⟨w2,rfl⟩:=RV.int_iff h3
   obtain ⟨w3,rfl⟩:=RV.int_iff h5
   exact call_gives F.slot_str_find (typeIs_str _ _ _) F.entry_str_find (F.args_str_find_4 _ _ _ _) (ij _ _ i j _ _ _ _ h.1 h.2.1 (by rw[bi];exact h.2.2)) (aY R)
 | index=>exact d51 e λx y e _ ρ s t u R=>tU e R
 | lstripC =>
  exact d51 e λx y e hxl ρ s t u R=>siX e▸SC.lstripChars (λt' k=>cL R (by
   have:=len_lstripChars (S' x) (S' y)
   rw[bi] at this
   exact Nat.le_trans (Nat.le_of_eq (Array.length_toList)) (Nat.le_trans this hxl)) rfl) (by rw[bi];exact Nat.le_trans hxl (by decide))
 | count=>exact d51 e λx y e _ ρ s t u R=>siX e▸SC.count (aY R)
 | replace=>exact absurd rfl hf
 | lindex =>
  exact hH1 e λl hd e=>jH e λw hw e=>by
   rw[zZ hw]
   intro ρ s cvs R r ht
   obtain ⟨c,r',rfl,h1,h2⟩:=RVs.cons_iff r
   obtain ⟨c2,r2,rfl,h3,h4⟩:=RVs.cons_iff h2
   rw[RVs.nil_iff h4]
   refine cC (cj hd R h1) λa us h_p=>?_;obtain rfl:=h_p.1;have hp:=h_p.2.1;have hr:=h_p.2.2.1;have hl:=h_p.2.2.2
   exact tE e R hp hr hl h3
 | _=>exact nso e
end
theorem fq:typeLookup (.type "list") (dunderI "add")=pure (some (.builtin "list.__iadd__")):=F.slot_list_iadd.lookup
theorem f6:isSeqSlot (some (.builtin "list.__iadd__"))=true:=by decide +kernel
theorem nw:fillsInplaceSlot (.type "list") "add" true=pure false:=by
 show (typeLookup (.type "list") (dunderI "add")>>=λfi=>pure (fi.isSome&&!isSeqSlot fi))=_
 rw[fq,pure_bind,f6];rfl
theorem jQ:seqSlot? (.type "list") (dunderI "add")=pure (some (.builtin "list.__iadd__")):=PySem.seqSlot_of fq f6
noncomputable def opI(op:Operator)(x y:Int):Option V:=if op=.Add then some (.int (x+y)) else if op=.Sub then some (.int (x - y)) else none
noncomputable def opS(op:Operator)(x y:List Nat):Option V:=if op=.Add/\x.length+y.length<=lim then some (.str (x++y)) else none
noncomputable def cx1(op:Operator)(a b:V):Option V:=match a with
 | .int x=>(vI b).bind (opI op x)
 | .str x=>(vS b).bind (opS op x)
 | _=>none
section
variable {G:Wd} {A:Around} {C C':Cx} {env cenv:Env} {W W':List Addr} {η η' η₁ η₂ bj:ac} {σ σ' σ₁ σ₂ aq σ₄ bQ:List AO} {ρ ρ' aa:Rho} {s s' au aG:Shared}
theorem tQ{op:Operator}{a b v:V}(e:cx1 op a b=some v):On G A (fun | [x,y]=>inplaceOp op x y | _=>pure .none) σ [a,b] v σ:=On.two λρ s bz b7 R aA aL ht=>by
 cases a with
 | int x =>
  refine uG e λy hy e=>?_
  subst hy
  obtain ⟨t,rfl⟩:=RV.int_iff aA
  obtain ⟨u,rfl⟩:=RV.int_iff aL
  by_cases h1:op=.Add
  ·replace e:=(if_pos h1).symm.trans e
   exact h1▸siX e▸PyProof.Rows.iadd_int (aY R)
  ·have h:=bg ((if_neg h1).symm.trans e)
   exact h.1▸siX h.2▸PyProof.Rows.isub_int (aY R)
 | str x =>
  refine uF e λy hy e=>?_
  subst hy
  have h:=bg e
  rw[← siX h.2,h.1.1]
  obtain ⟨_,t,rfl⟩:=RV.str_iff aA
  obtain ⟨_,u,rfl⟩:=RV.str_iff aL
  refine SB.iadd (λt' k=>cL R (by rw[List.length_append];exact h.1.2) ?_) (by rw[bi,bi];exact Nat.le_trans h.1.2 (by decide))
  show (_++_:Array Nat).toList=_
  simp
 | _=>exact nso e
theorem eU{k:Nat}{l:List V}{p:Addr×Addr}(R:Rel G σ ρ s)(hp:ρ.st[k]?=some p)(hσ:σ[k]?=some ⟨l,none⟩):∃ vs n,s.heap.get? p.1=some { cls:=.type "list",data:=.seq vs n }/\RVs s.heap ρ l vs.toList/\l.length<=lim:=by
 refine byQ λQ kQ=>?_
 have ro:=R.obj k p _ hp hσ
 dsimp only[RO] at ro
 obtain ⟨hlim,e2,vs,⟨n,hpl⟩,hr⟩:=ro
 refine kQ ?_
 exact pT vs n hpl hr hlim
theorem fX{k:Nat}{l l':List V}{p:Addr×Addr}{h':Heap}{t:Nat}{us:Array Value}(R:Rel G σ ρ s)(hp:ρ.st[k]?=some p)(hσ:σ[k]?=some ⟨l,none⟩)(hs:Heap.ExtBut p.1 s.heap h')(hl:l'.length<=lim)
  (hpl:h'.PlainList p.1 us) (hr:KeepV s.heap ρ h' ρ->RVs h' ρ l' us.toList):Step G ρ s ρ { s with heap:=h',toks:=t } (σ.set k ⟨l',none⟩) :=
 Step.write R hp hσ hs λK=>by
  have ro:=R.obj k p _ hp hσ
  dsimp only[RO] at ro ⊢
  exact⟨hl,ro.2.1,us,hpl,hr K⟩
theorem oF{k:Nat}{l:List V}{v:V}(hσ:σ[k]?=some ⟨l,none⟩)(hl:l.length<lim):On G A (λcvs=>call (.builtin "list.append") cvs) σ [.ref k,v] .none (σ.set k ⟨l++[v],none⟩):=λρ s cvs R r ht=>by
 obtain ⟨c,r',rfl,h1,h2⟩:=RVs.cons_iff r
 refine cC (RVs.cons_iff h2) λc2 r2 h_p=>?_;obtain rfl:=h_p.1;have h3:=h_p.2.1;have h4:=h_p.2.2
 refine(RVs.nil_iff h4)▸?_
 refine a4 (RV.ref_iff h1) λp h_p=>?_;have hp:=h_p.1;obtain rfl:=h_p.2
 refine cC (eU R hp hσ) λvs n h_p=>?_;have hpl:=h_p.1;have hr:=h_p.2.1;have hlim:=h_p.2.2
 have hsz:vs.size=l.length:=by have:=RVs.length hr;simpa using this
 refine wpAny_list_append_plain ⟨n,hpl⟩ (λh' hp' hs'=>⟨ρ,fX R hp hσ hs'.extBut (by rw[List.length_append];exact hl) hp' λK=>?_,RV.none_⟩) (by rw[hsz];exact Nat.le_trans hlim (by decide))
 rw[Array.toList_push]
 exact RVs.append (RVs.mono K _ _ hr) (RVs.cons (RV.mono K _ _ h3) RVs.nil)
theorem tD{k:Nat}{l:List V}{v:V}(hσ:σ[k]?=some ⟨l++[v],none⟩):On G A (λcvs=>call (.builtin "list.pop") cvs) σ [.ref k] v (σ.set k ⟨l,none⟩):=λρ s cvs R r ht=>by
 obtain ⟨c,r',rfl,h1,h2⟩:=RVs.cons_iff r
 refine(RVs.nil_iff h2)▸?_
 refine byQ λQ kQ=>?_
 obtain ⟨p,hp,rfl⟩:=RV.ref_iff h1
 refine cC (eU R hp hσ) λvs n h_p=>?_;have hpl:=h_p.1;have hr:=h_p.2.1;have hlim:=h_p.2.2
 have hsz:vs.size=l.length+1:=by have:=RVs.length hr;simpa using this
 have hlast:(l++[v])[l.length]?=some v:=by simp
 obtain ⟨c,h_p⟩:=RVs.get hr hlast;have hc:=h_p.1;have hv:=h_p.2
 have hy:vs[vs.size - 1]?=some c:=by rw[hsz];simpa using hc
 have hu:(Obj.mapSeq (λxs=>xs.eraseIdxIfInBounds (vs.size - 1)) { cls:=.type "list",data:=.seq vs n })={ cls:=.type "list",data:=.seq (vs.eraseIdxIfInBounds (vs.size - 1)) (if (vs.eraseIdxIfInBounds (vs.size - 1)).size==vs.size then n else n+1) }:=rfl
 refine kQ ?_
 refine call_meets F.slot_list_pop ⟨_,hpl,rfl⟩ F.entry_list_pop (F.args_list_pop_1 _) (PySem.MeetsSeq.list_pop_last p.1 vs n c hy (by rw[hsz];simp at hlim;exact Nat.le_trans hlim (by decide))) ⟨hpl,?_⟩
 have hg:(s.heap.update p.1 (Obj.mapSeq λxs=>xs.eraseIdxIfInBounds (vs.size - 1))).get? p.1=some { cls:=.type "list",data:=.seq (vs.eraseIdxIfInBounds (vs.size - 1)) (if (vs.eraseIdxIfInBounds (vs.size - 1)).size==vs.size then n else n+1) }:=by
  rw[Heap.get?_update_self _ hpl (by rw[hu];rfl),hu]
 have st:∀ t,Step G ρ s ρ { s with heap:=s.heap.update p.1 (Obj.mapSeq λxs=>xs.eraseIdxIfInBounds (vs.size - 1)),toks:=t } (σ.set k ⟨l,none⟩):=λt =>
  fX (t:=t) R hp hσ (Heap.SameBut.update ..).extBut (by simp at hlim;exact Nat.le_of_lt ‹_›) ⟨_,hg⟩ λK=>by
   have h5:(vs.eraseIdxIfInBounds (vs.size - 1)).toList=vs.toList.take l.length:=by
    rw[hsz]
    have:vs.toList.length=l.length+1:=by exact hsz
    simp only[Nat.add_sub_cancel,Array.eraseIdxIfInBounds]
    rw[dif_pos (by exact Nat.le_of_eq (Eq.symm ‹_›)),Array.toList_eraseIdx,List.eraseIdx_eq_take_drop_succ,List.drop_of_length_le (by exact Nat.le_of_eq ‹_›),List.append_nil]
   rw[h5]
   have:=RVs.take l.length (RVs.mono K _ _ hr)
   simpa using this
 have K:=Step.keepV R (st s.toks)
 exact⟨ρ,st s.toks,RV.mono K _ _ hv⟩
theorem xB{k:Nat}{l l':List V}{i:Int}{j:Nat}(hσ:σ[k]?=some ⟨l,none⟩)(hi:-1000000000<=i/\i<=1000000000)(hj:seqIndex? i l.length=some j)(hl':l'=l.eraseIdx j):Od G A σ (.ref k) (.int i) (σ.set k ⟨l',none⟩):=λρ s bz b7 R aA aL ht=>by
 subst hl'
 obtain ⟨p,hp,rfl⟩:=RV.ref_iff aA
 obtain ⟨t,rfl⟩:=RV.int_iff aL
 refine cC (eU R hp hσ) λvs n h_p=>?_;have hpl:=h_p.1;have hr:=h_p.2.1;have hlim:=h_p.2.2
 have hsz:vs.size=l.length:=by have:=RVs.length hr;simpa using this
 refine PySem.wpAny_delItem_plain ⟨n,hpl⟩ ?_ (by rw[hsz];exact hj) (λh' hp' hs'=>⟨ρ,fX R hp hσ hs'.extBut (Nat.le_trans (List.length_eraseIdx_le l j) hlim) hp' λK=>?_⟩) (by rw[hsz];exact Nat.le_trans hlim (by decide))
 ·by_cases h0:0<=i
  ·exact fitsIndex_of h0 (by omega)
  ·exact fitsIndex_neg (by exact Int.not_le.mp ‹_›) (by omega)
 ·have hj':j<vs.size:=by
   dsimp only[seqIndex?] at hj
   by_cases h0:i<0
   ·simp only[h0,if_true] at hj
    split at hj
    ·rename_i hh
     simp only[Bool.and_eq_true,decide_eq_true_eq] at hh
     obtain rfl:=siX hj;omega
    ·exact nso hj
   ·simp only[h0,if_false] at hj
    split at hj
    ·rename_i hh
     simp only[Bool.and_eq_true,decide_eq_true_eq] at hh
     obtain rfl:=siX hj;omega
    ·exact nso hj
  have h5:(vs.eraseIdxIfInBounds j).toList=vs.toList.eraseIdx j:=by
   simp only[Array.eraseIdxIfInBounds]
   rw[dif_pos hj',Array.toList_eraseIdx]
  rw[h5,List.eraseIdx_eq_take_drop_succ,List.eraseIdx_eq_take_drop_succ]
  have q:=RVs.mono K _ _ hr
  exact RVs.append (RVs.take j q) (RVs.drop (j+1) q)
theorem ji{k:Nat}{l l2:List V}{v:V}(hσ:σ[k]?=some ⟨l,none⟩)(hv:der σ v=.lst l2)(hl:l.length+l2.length<=lim):On G A (fun | [x,y]=>inplaceOp .Add x y | _=>pure .none) σ [.ref k,v] (.ref k) (σ.set k ⟨l++l2,none⟩):=On.two λρ s bz b7 R aA aL ht=>by
 refine byQ λQ kQ=>?_
 obtain ⟨p,hp,rfl⟩:=RV.ref_iff aA
 refine cC (eU R hp hσ) λvs n h_p=>?_;have hpl:=h_p.1;have hr:=h_p.2.1;have hlim:=h_p.2.2
 obtain ⟨b,us,rfl,⟨n2,hb⟩,hr2,hl2⟩:=cj hv R aL
 have hsz:vs.size=l.length:=by have:=RVs.length hr;simpa using this
 have hsz2:us.size=l2.length:=by have:=RVs.length hr2;simpa using this
 have h4:sizeLine=16777216:=rfl
 unfold lim at hl
 refine kQ ?_
 dsimp only[inplaceOp]
 refine wpAny_holding ?_
 refine wpAny_bind (wpAny_typeOf ⟨_,hpl,rfl⟩ (wpAny_bind (wpAny_of_eq nw ?_)))
 show wpAny _ A (if false=true then _ else _) _ _ s
 refine(if_neg Bool.false_ne_true)▸?_
 refine wpAny_bind (wpAny_binaryOp1_none (nm:="add") ⟨_,hpl,rfl⟩ ⟨_,hb,rfl⟩ noFill_list_add ?_)
 refine wpAny_bind (wpAny_of_eq jQ ?_)
 refine wpAny_bind (wpAny_rule ?_)
 refine call_meets F.slot_list_iadd (show s.TypeIs (.ref p.1) "list" from ⟨_,hpl,rfl⟩) F.entry_list_iadd (F.args_list_iadd_2 _ _) (AutoSeq1.list___iadd___list_list_0 p.1 vs n b us n2 ?_ (by omega) (by omega)) ⟨hpl,hb,?_⟩
 ·simp only[Bool.and_eq_true,Bool.not_eq_true',Builtin.List.listTooLong,decide_eq_true_eq]
  omega
 have hu:(Obj.mapSeq (λxs=>xs++us) { cls:=.type "list",data:=.seq vs n })={ cls:=.type "list",data:=.seq (vs++us) (if (vs++us).size==vs.size then n else n+1) }:=rfl
 have hg:(s.heap.update p.1 (Obj.mapSeq λxs=>xs++us)).get? p.1=some { cls:=.type "list",data:=.seq (vs++us) (if (vs++us).size==vs.size then n else n+1) }:=by
  rw[Heap.get?_update_self _ hpl (by rw[hu];rfl),hu]
 have st:∀ t,Step G ρ s ρ { s with heap:=s.heap.update p.1 (Obj.mapSeq λxs=>xs++us),toks:=t } (σ.set k ⟨l++l2,none⟩):=λt =>
  fX (t:=t) R hp hσ (Heap.SameBut.update ..).extBut (by rw[List.length_append];unfold lim;exact hl) ⟨_,hg⟩ λK=>by
   rw[Array.toList_append]
   exact RVs.append (RVs.mono K _ _ hr) (RVs.mono K _ _ hr2)
 exact⟨ρ,st s.toks,by delta RV;exact⟨p,hp,rfl⟩⟩
theorem iL{h:Heap}{ρ:Rho}:∀ (zs:List Str) (tk:Nat),(∀ z∈zs,z.cps.toList.length<=lim)->RVs h ρ (zs.map λz=>.str z.cps.toList) (strsFrom tk zs)
 | [],_,_=>RVs.nil
 | z::r,tk,hz=>RVs.cons (RV.str' (hz z List.mem_cons_self) rfl) (iL r (tk+1) λy hy=>hz y (List.mem_cons_of_mem _ hy))
theorem rR{l:List V}{vs:List Value}{k:Nat}(R:Rel G σ ρ s)(r:RVs s.heap ρ l vs)(hl:l.length<=lim) :
  PE G ρ s (σ++[⟨l,none⟩]) (.ref σ.length) (.ref s.heap.objs.size) { s with heap:=s.heap.push { cls:=.type "list",data:=.seq vs.toArray },toks:=k }:=by
 refine⟨⟨ρ.st++[(s.heap.objs.size,s.heap.objs.size)],ρ.hid⟩,Step.add R (λb o e=>Heap.get?_push_of_some _ e) ⟨_,_,rfl⟩ (aN _) (aN _) λK=>?_,?_⟩
 ·dsimp only[RO]
  exact⟨hl,rfl,_,⟨_,Heap.get?_push_size _ rfl⟩,RVs.mono K _ _ (by exact r)⟩
 ·delta RV
  exact⟨(s.heap.objs.size,s.heap.objs.size),by rw[← R.len];simp,rfl⟩
theorem ph{x y:List Nat}(hy:y≠[])(hl:(Txt.split (S' x) (S' y)).length<=lim)(hc:∀ z∈Txt.split (S' x) (S' y),z.cps.toList.length<=lim) :
  On G A (λcvs=>call (.builtin "str.split") cvs) σ [.str x,.str y] (.ref σ.length) (σ++[⟨(Txt.split (S' x) (S' y)).map λz=>.str z.cps.toList,none⟩]):=λρ s cvs R r ht=>by
 obtain ⟨c,r',rfl,h1,h2⟩:=RVs.cons_iff r
 obtain ⟨c2,r2,rfl,h3,h4⟩:=RVs.cons_iff h2
 refine(RVs.nil_iff h4)▸?_
 obtain ⟨hxl,t,rfl⟩:=RV.str_iff h1
 obtain ⟨_,u,rfl⟩:=RV.str_iff h3
 have hy':((S' y).length==0)=false:=by rw[bi];cases y with
  | nil=>exact absurd rfl hy
  | cons a b=>rfl
 have hone:∀ (hx:Txt.split (S' x) (S' y)=[S' x]) (k:Nat),PE G ρ s (σ++[⟨(Txt.split (S' x) (S' y)).map λz=>.str z.cps.toList,none⟩]) (.ref σ.length) (.ref s.heap.objs.size) { s with heap:=s.heap.push { cls:=.type "list",data:=.seq [Value.str (S' x) t].toArray },toks:=k }:=λhx k=>by
  refine rR R ?_ (by rw[List.length_map];exact hl)
  refine(hx)▸?_
  exact RVs.cons (RV.str' (by exact hxl) rfl) RVs.nil
 cases h5:(decide ((S' x).length<(S' y).length) || decide (strKind (S' x)<strKind (S' y)))
 ·cases hf:(occurrences (S' x) (S' y) 0 (S' x).length ((S' x).length+1)).isEmpty
  ·have es:Txt.split (S' x) (S' y)=partsBetween (S' x) (occurrences (S' x) (S' y) 0 (S' x).length ((S' x).length+1)) (S' y).length:=by
    unfold Txt.split
    rw[if_neg (ne_true_of_eq_false h5),if_neg (ne_true_of_eq_false hf)]
   refine call_meets F.slot_str_split (typeIs_str _ _ _) F.entry_str_split (F.args_str_split_2 _ _) (meets_str_split_sep (S' x) (S' y) t u h5 hy' hf (by rw[bi];exact Nat.le_trans hxl (by decide)) (by rw[← es];exact Nat.le_trans hl (by decide))) ?_
   have:=rR (k:=s.toks+(partsBetween (S' x) (occurrences (S' x) (S' y) 0 (S' x).length ((S' x).length+1)) (S' y).length).length) R (iL (h:=s.heap) (ρ:=ρ) _ s.toks hc) (by rw[List.length_map];exact hl)
   rw[es] at this ⊢
   exact this
  ·have es:Txt.split (S' x) (S' y)=[S' x]:=by
    unfold Txt.split
    rw[if_neg (ne_true_of_eq_false h5),if_pos hf]
   exact call_meets F.slot_str_split (typeIs_str _ _ _) F.entry_str_split (F.args_str_split_2 _ _) (meets_str_split_not_found (S' x) (S' y) t u h5 hy' hf) (hone es s.toks)
 ·refine byQ λQ kQ=>?_
  have es:Txt.split (S' x) (S' y)=[S' x]:=by
   unfold Txt.split
   rw[if_pos h5]
  refine kQ ?_
  exact call_meets F.slot_str_split (typeIs_str _ _ _) F.entry_str_split (F.args_str_split_2 _ _) (meets_str_split_cannot_occur (S' x) (S' y) t u h5) (hone es s.toks)
theorem lD{x y z:List Nat}{u v:Tok}{t:Tok}(hu:u≠0)(hv:v≠0)(huv:u≠v)(hyz:y≠z)(hb:x.length+(x.length+1)*z.length<=16000000)(hl:(Txt.replace (S' x) (S' y) (S' z)).cps.toList.length<=lim)(R:Rel G σ ρ s) :
  wpAny (model G.prog G.w) A (call (.builtin "str.replace") [.str (S' x) t,.str (S' y) u,.str (S' z) v]) (PE G ρ s σ (.str (Txt.replace (S' x) (S' y) (S' z)).cps.toList)) No s:=by
 refine SC.replace hu hv huv ?_ (by rw[bi,bi];exact Nat.le_trans ‹_› (by decide)) λt' k=>cL R hl rfl
 rw[vF]
 exact beq_false_of_ne hyz
end
structure Room (A:Around) (n:Nat):Prop where
 handled:A.handled=none
 depth:A.depth+n<recursionLimit
 units:A.units+4*n+12<cLine
theorem Room.deeper{A:Around}{n:Nat}(h:Room A (n+1))(env:Env):Room (A.deeper env) n :=
 ⟨h.handled,by have:=h.depth;show A.depth+1+n<recursionLimit;lia,by have:=h.units;show A.units+3+4*n+12<cLine;lia⟩
theorem Room.less{A:Around}{n m:Nat}(h:Room A n)(hm:m<=n):Room A m:=⟨h.handled,by have:=h.depth;lia,by have:=h.units;lia⟩
theorem kM{kindOf:Str->Option NameKind}{n:Str}:∀ (binds:List (Str×Value)) (m:Str->Option Value),(∀ c,(n,c) ∉ binds)->bindL kindOf binds m n=m n
 | [],_,_=>rfl
 | (k,v)::r,m,h=>by
  dsimp only[bindL]
  refine(kM r _ λc hc=>h c (List.mem_cons_of_mem _ hc))▸?_
  split
  ·have:n≠k:=by rintro rfl;exact h v List.mem_cons_self
   exact if_neg this
  ·rfl
theorem kN{kindOf:Str->Option NameKind}{n:Str}:∀ (binds:List (Str×Value)) (m:Str->Option Value),(∀ c,(n,c) ∉ binds)->bindC kindOf binds m n=m n
 | [],_,_=>rfl
 | (k,v)::r,m,h=>by
  dsimp only[bindC]
  refine(kN r _ λc hc=>h c (List.mem_cons_of_mem _ hc))▸?_
  split
  ·rfl
  ·have:n≠k:=by rintro rfl;exact h v List.mem_cons_self
   exact if_neg this
theorem fw{n:Str}:∀ (ns:List Str) (cvs:List Value),n ∉ ns->∀ c,(n,c) ∉ ns.zip cvs
 | [],_,_,_=>by simp
 | _::_,[],_,_=>by simp
 | k::ns,v::cvs,h,c=>by
  rw[List.zip_cons_cons,List.mem_cons]
  rintro (e | hm)
  ·cases e;exact h List.mem_cons_self
  ·exact fw ns cvs (λq=>h (List.mem_cons_of_mem _ q)) c hm
noncomputable def ec:List Str->Bool
 | []=>true
 | x::r=>!r.contains x&&ec r
theorem oq{kindOf:Str->Option NameKind}{n:Str}{c:Value}(hk:kindOf n=some .local):∀ (ns:List Str) (cvs:List Value) (m:Str->Option Value) (j:Nat),ec ns=true->ns[j]?=some n->cvs[j]?=some c->bindL kindOf (ns.zip cvs) m n=some c
 | [],_,_,j,_,h,_=>by exact nso h
 | _::_,[],_,j,_,_,h=>by exact nso h
 | k::ns,v::cvs,m,0,hd,hn,hc=>by
  simp at hn hc
  subst hn hc
  obtain ⟨h1,h2⟩:=Bool.and_eq_true_iff.mp (show (!ns.contains k&&ec ns)=true from hd)
  rw[List.zip_cons_cons]
  dsimp only[bindL]
  rw[kM _ _ (fw ns cvs (by simpa using h1)),if_pos hk]
  simp
 | k::ns,v::cvs,m,j+1,hd,hn,hc=>by
  obtain ⟨h1,h2⟩:=Bool.and_eq_true_iff.mp (show (!ns.contains k&&ec ns)=true from hd)
  rw[List.zip_cons_cons]
  dsimp only[bindL]
  exact oq hk ns cvs _ j h2 (by simpa using hn) (by simpa using hc)
theorem ot{kindOf:Str->Option NameKind}{n:Str}{c:Value}(hk:kindOf n≠some .local):∀ (ns:List Str) (cvs:List Value) (m:Str->Option Value) (j:Nat),ec ns=true->ns[j]?=some n->cvs[j]?=some c->bindC kindOf (ns.zip cvs) m n=some c
 | [],_,_,j,_,h,_=>by exact nso h
 | _::_,[],_,j,_,_,h=>by exact nso h
 | k::ns,v::cvs,m,0,hd,hn,hc=>by
  simp at hn hc
  subst hn hc
  obtain ⟨h1,h2⟩:=Bool.and_eq_true_iff.mp (show (!ns.contains k&&ec ns)=true from hd)
  rw[List.zip_cons_cons]
  dsimp only[bindC]
  rw[kN _ _ (fw ns cvs (by simpa using h1)),if_neg hk]
  simp
 | k::ns,v::cvs,m,j+1,hd,hn,hc=>by
  obtain ⟨h1,h2⟩:=Bool.and_eq_true_iff.mp (show (!ns.contains k&&ec ns)=true from hd)
  rw[List.zip_cons_cons]
  dsimp only[bindC]
  exact ot hk ns cvs _ j h2 (by simpa using hn) (by simpa using hc)
noncomputable def b5(C:Cx)(ns:List Str):Bool :=
 C.ok&&ec ns&&(C.vars.all λx=>x.own&&(match ns[x.slot]? with | some n=>n==x.name | none=>true)&&((match C.kind x.name with | some .cell=>C.scope.names.contains (x.name,NameKind.cell) | _=>true))) &&
  (ns.all λn=>C.vars.any λx=>x.name==n)
noncomputable def aU(vs:List V)(k:Nat):ac:=vs.map some++List.replicate k none
theorem sU{vs:List V}{k i:Nat}{v:V}(h:(aU vs k)[i]?=some (some v)):vs[i]?=some v:=by
 unfold aU at h
 by_cases hi:i<vs.length
 ·rw[List.getElem?_append_left (by simpa using hi),List.getElem?_map] at h
  cases hv:vs[i]? with
  | none=>replace h:=(hv)▸h;exact nso h
  | some w=>replace h:=(hv)▸h;cases h;rfl
 ·refine byQ λQ kQ=>?_
  rw[List.getElem?_append_right (by simpa using hi)] at h
  replace h:=(List.getElem?_replicate)▸h
  refine kQ ?_
  split at h <;> cases h
structure Def (G:Wd) (a:Addr) (fd:FuncData) (body:List Stmt) (C:Cx) (ns:List Str):Prop where
 obj:∃ o,G.s₀.heap.get? a=some o/\o.data=.func fd
 la:a ∉ G.loose
 nolimit:∃ mc,G.s₀.heap.Ns cStatics mc/\mc "sys.recursionlimit"=none
 ls:cStatics ∉ G.loose
 code:∃ c o vs t,fd.code=.ref c/\c ∉ G.loose/\G.s₀.heap.get? c=some o/\o.data=.fields vs/\vs[1]?=some (.str fd.qualname t)
 body:fd.body=.stmts body
 clo:fd.closure=[]
 scope:fd.scope=C.scope
 glob:fd.globals=mainGlobals
 blt:fd.builtins=builtinsNs
 co:fd.scope.isCoroutine=false
 gen:fd.scope.isGenerator=false
 bind:∀ cvs:List Value,cvs.length=ns.length->bindArgs fd ⟨cvs,[]⟩=pure (ns.zip cvs)
 ok:b5 C ns=true
section
variable {G:Wd} {A:Around} {C C':Cx} {env cenv:Env} {W W':List Addr} {η η' η₁ η₂ bj:ac} {σ σ' σ₁ σ₂ aq σ₄ bQ:List AO} {ρ ρ' aa:Rho} {s s' au aG:Shared}
theorem bq{C:Cx}{ns:List Str}(h:b5 C ns=true):C.ok=true/\ec ns=true /\
  (∀ y∈C.vars,(∀ n,ns[y.slot]?=some n->n=y.name)/\(C.kind y.name=some .cell->(y.name,NameKind.cell)∈C.scope.names))/\∀ n∈ns,∃ y,y∈C.vars/\y.name=n:=by
 have h1:=ao h
 have h2:=ao h1.1
 have h3:=ao h2.1
 refine⟨h3.1,h3.2,λy hy=>?_,λn hn=>aQ (List.any_eq_true.mp (List.all_eq_true.mp h1.2 n hn)) λy hy e=>⟨y,hy,beq_iff_eq.mp e⟩⟩
 have q:=ao (List.all_eq_true.mp h2.2 y hy)
 refine⟨λn hn=>?_,λhk=>?_⟩
 ·have:=(ao q.1).2
  rw[hn] at this
  exact beq_iff_eq.mp this
 ·have:=q.2
  rw[hk] at this
  exact List.contains_iff_mem.mp this
theorem lq{ns:List Str}{vs:List V}{k:Nat}{v:V}{y:Var}(hP:∀ n,ns[y.slot]?=some n->n=y.name)(hlen:vs.length=ns.length)(hv:(aU vs k)[y.slot]?=some (some v)):vs[y.slot]?=some v/\ns[y.slot]?=some y.name :=
 have hv':=sU hv
 have e:=List.getElem?_eq_getElem (l:=ns) (hlen▸(List.getElem?_eq_some_iff.mp hv').1)
 ⟨hv',e.trans (congrArg some (hP _ e))⟩
theorem nk(R:Rel G σ ρ s)(h:∃ mc,G.s₀.heap.Ns cStatics mc/\mc "sys.recursionlimit"=none)(hl:cStatics ∉ G.loose):s.heap.NoLimit:=aQ h λmc hm hn=>⟨mc,Ns.of_base R hm hl,hn⟩
theorem sy(R:Rel G σ ρ s){fd:FuncData}(h:∃ c o vs t,fd.code=.ref c/\c ∉ G.loose/\G.s₀.heap.get? c=some o/\o.data=.fields vs/\vs[1]?=some (.str fd.qualname t)):s.heap.CodeRec fd.code fd.qualname :=
 j71 h λc oc us t e1 e2 e3 e4 e5=>ki1 c oc us t e1 (R.keep c oc e2 e3) e4 e5
noncomputable def Wn(C:Cx)(env:Env):List Addr:=env.locals::C.vars.filterMap λy=>env.cells.lookup y.name
structure EnvIs (C:Cx) (env:Env) (L:Addr):Prop where
 sc:env.scope=C.scope
 glob:env.globals=mainGlobals
 blt:env.builtins=builtinsNs
 lo:env.locals=L
 ce:env.cells=cellsFrom (L+1) C.scope.names []
 kd:∀ y,env.kindOf y=C.kind y
theorem eG1{ns:List Str}{vs:List V}{k:Nat}{cvs:List Value}{m cm:Str->Option Value}(P:b5 C ns=true)(he:EnvIs C env s.heap.objs.size)(hlen:vs.length=ns.length)(R:Rel G σ ρ s)(r:RVs au.heap ρ vs cvs)
  (hm:m=bindL env.kindOf (ns.zip cvs) λ_=>none) (hcm:cm=bindC env.kindOf (ns.zip cvs) λ_=>none)
  (x:InCallC s env.locals m env.cells cm au):(∀ b∈Wn C env,s.heap.get? b=none)/\RE G C env (Wn C env) (aU vs k) ρ au:=by
 refine bW1 (bq P) λhCok hnd hvars _=>?_
 have cellOf:∀ y∈C.vars,C.kind y.name=some .cell->∃ c,env.cells.lookup y.name=some c:=λy hy hk=>he.ce▸jt _ _ [] (.inl ((hvars y hy).2 hk))
 have up:∀ {n c},env.cells.lookup n=some c->s.heap.get? c=none:=λh=>bL (he.lo▸Nat.le_of_lt (x.above _ _ (mem_of_lookup h)))
 have inW:∀ b∈Wn C env,s.heap.get? b=none:=λb hb=>Or.elim (List.mem_cons.mp hb) (λe=>bL (e▸Nat.le_of_eq he.lo.symm)) λhb=>aQ (List.mem_filterMap.mp hb) λy _ h=>up h
 refine⟨inW,hCok,he.sc,he.glob,he.blt,List.mem_cons_self,λb hb=>cM R (inW b hb),λb hb=>Or.elim (List.mem_cons.mp hb) (λe=>?_) λhb=>aQ (List.mem_filterMap.mp hb) λy _ h=>?_,⟨m,x.toInCall.ns,λy hy hk v hv=>?_⟩,
  λy hy hk=>a4 (cellOf y hy hk) λc hc=>?_,λy hy z hz _ _ c h1 h2=>name_of_addr x.apart (mem_of_lookup h1) (mem_of_lookup h2)⟩
 ·exact wp x.toInCall.ns λo es ep ho hd _=>⟨o,e▸ho,Solid.no_dict hd⟩
 ·exact aQ (x.cell y.name b h) λo ho hd=>⟨o,ho,Solid.no_cell hd⟩
 ·have q:=lq (hvars y hy).1 hlen hv
  exact aQ (RVs.get r q.1) λc hc hr=>⟨c,hm▸oq (by rw[he.kd];exact hk) ns cvs _ y.slot hnd q.2 hc,hr⟩
 ·refine ax1 c _ hc (x.cell y.name c hc) (λ_=>List.mem_cons_of_mem _ (List.mem_filterMap.mpr ⟨y,hy,hc⟩)) (cM R (up hc)).1 λv hv=>?_
  have q:=lq (hvars y hy).1 hlen hv
  exact aQ (RVs.get r q.1) λc' hc' hr=>⟨c',hcm▸ot (by rw[he.kd,hk];decide) ns cvs _ y.slot hnd q.2 hc',hr⟩
theorem xC{ns:List Str}{cvs:List Value}{n:Nat}{sc:Scope}(P:b5 C ns=true)(hs:sc=C.scope):∀ x∈ns.zip cvs,sc.names.lookup x.1=some .local\/(sc.names.lookup x.1=some .cell/\((cellsFrom n sc.names []).lookup x.1).isSome=true):=λx hx=>by
 subst hs
 refine bW1 (bq P) λhCok _ hvars hpar=>aQ (hpar x.1 (List.of_mem_zip (a:=x.1) (b:=x.2) hx).1) λy hy e=>?_
 refine e▸Or.elim ((Cx.ok_parts hCok).2 y hy).1 .inl λh=>.inr ⟨h,?_⟩
 exact a4 (jt C.scope.names n [] (.inl ((hvars y hy).2 h))) λc hc=>hc▸rfl
theorem On.def{a:Addr}{fd:FuncData}{body:List Stmt}{C:Cx}{ns:List Str}{vs:List V}{k n:Nat}{fl:Fl}{v:V}{η':ac}(D:Def G a fd body C ns)(hr:Room A (n+1))(hlen:vs.length=ns.length)
  (hf:(fl=.ret v)\/(fl=.next/\v=.none))
  (H:∀ A' env W,Room A' n->Ess G A' C env W body σ (aU vs k) fl σ' η'):On G A (λcvs=>call (.ref a) cvs) σ vs v σ':=λρ s cvs R r ht=>by
 refine aQ D.obj λo hob hd=>?_
 have hcl:cvs.length=ns.length:=(RVs.length r).trans hlen
 have hkf:fd.scope.kind=.function:=D.scope▸(Cx.ok_parts (bq D.ok).1).1
 refine wpAny_call (codeAny_call_function (Nat.lt_of_le_of_lt (Nat.le_add_right _ _) hr.depth) (R.keep a o D.la hob) hd D.co D.gen D.body (sy R D.code) ?_)
 rw[D.bind cvs hcl,D.clo]
 refine wpAny_pure (wpAny_with_toks (n:=s.toks) (Nat.le_refl _) (wpAny_newFunctionEnv_cells hkf (xC D.ok D.scope) λenv he au x hle=>⟨(nk R D.nolimit D.ls).keeps x.toInCall.keep,codeAny_func ?_⟩))
 have hE:EnvIs C env s.heap.objs.size:=by subst he;exact⟨D.scope,D.glob,D.blt,rfl,D.scope▸rfl,λy=>show fd.scope.names.lookup y=C.scope.names.lookup y by rw[D.scope]⟩
 have N:=eG1 (k:=k) D.ok hE hlen R (RVs.sameHeap x.toInCall.keep r) rfl rfl x
 have gV1:Step G ρ s ρ au σ:=Step.grow R x.toInCall.keep x.toInCall.same
 refine(H _ _ _ (hr.deeper _)).use gV1.rel N.2 (Nat.lt_of_lt_of_le ht hle) λf aG aC aB cn c0 aL=>?_
 have S:Step G ρ s aC aG σ':=(gV1.toW.trans aB).drop λb hb hne=>absurd (N.1 b hb) hne
 rcases hf with rfl | ⟨rfl,rfl⟩
 ·obtain ⟨cv,rfl,hv⟩:=aL
  exact⟨aC,S,hv⟩
 ·have e:f=.next:=aL
  subst e
  exact⟨aC,S,RV.none_⟩
end
structure Acc (G:Wd) (m:Str->Option Value):Prop where
 cls:∃ o cd,G.s₀.heap.get? G.cls=some o/\o.data=.cls cd/\cd.mro=[.ref G.cls,.type "list",.type "object"]/\cd.ns ∉ G.loose/\G.s₀.heap.Ns cd.ns m
 lc:G.cls ∉ G.loose
section
variable {G:Wd} {A:Around} {C C':Cx} {env cenv:Env} {W W':List Addr} {η η' η₁ η₂ bj:ac} {σ σ' σ₁ σ₂ aq σ₄ bQ:List AO} {ρ ρ' aa:Rho} {s s' au aG:Shared} {m:Str->Option Value}
theorem cw(K:Acc G m)(R:Rel G σ ρ s):∃ o cd,s.heap.get? G.cls=some o/\o.data=.cls cd/\cd.mro=[.ref G.cls,.type "list",.type "object"]/\s.heap.Ns cd.ns m:=by
 refine cC (K.cls) λo cd h_p=>?_;have h1:=h_p.1;have h2:=h_p.2.1;have h3:=h_p.2.2.1;have h4:=h_p.2.2.2.1;have h5:=h_p.2.2.2.2
 exact zr o cd (R.keep _ _ K.lc h1) h2 h3 (Ns.of_base R h5 h4)
theorem rX:mroOf (.type "list")=pure [.type "list",.type "object"]:=by
 have:builtinMro "list"=some [.type "list",.type "object"]:=by kernel_rfl
 unfold mroOf
 dsimp only
 rw[this]
theorem gO(K:Acc G m)(R:Rel G σ ρ s){name:Str}{r:Option Value}(h:(∃ v,m name=some v/\r=some v)\/(m name=none/\typeLookup (.type "list") name=pure r)){Q:Option Value->Shared->Prop}{E:Value->Shared->Prop}{M:Model}
  (hQ:Q r s):wpAny M A (typeLookup (.ref G.cls) name) Q E s:=by
 refine cC (cw K R) λo cd h_p=>?_;have h1:=h_p.1;have h2:=h_p.2.1;have h3:=h_p.2.2.1;have h4:=h_p.2.2.2
 rw[typeLookup_eq]
 refine wpAny_bind (m:=mroOf (.ref G.cls)) ?_
 show wpAny M A (do return (← classData G.cls).mro) _ E s
 refine wpAny_bind ?_
 unfold classData
 refine wpAny_bind (wpAny_load h1 ?_)
 refine(h2)▸?_
 refine wpAny_pure (wpAny_pure ?_)
 rw[h3,lookupAlong_cons]
 refine wpAny_bind ?_
 show wpAny M A (do nsGet (← classData G.cls).ns name) _ E s
 refine wpAny_bind ?_
 unfold classData
 refine wpAny_bind (wpAny_load h1 ?_)
 refine(h2)▸?_
 refine wpAny_pure (wpAny_nsGet h4 ?_)
 rcases h with ⟨v,hv,rfl⟩ | ⟨hv,hl⟩
 ·exact(hv)▸(wpAny_pure hQ)
 ·refine(hv)▸?_
  have:lookupAlong [.type "list",.type "object"] name=pure r:=by rw[typeLookup_eq,rX] at hl;exact hl
  show wpAny M A (lookupAlong [.type "list",.type "object"] name) Q E s
  exact(this)▸(wpAny_pure hQ)
theorem a7{k:Nat}{l:List V}{i:Int}{p:Addr×Addr}(R:Rel G σ ρ s)(hp:ρ.st[k]?=some p)(hσ:σ[k]?=some ⟨l,some i⟩) :
  ∃ vs n d,s.heap.get? p.1=some ⟨.ref G.cls,some p.2,.seq vs n,#[]⟩/\RVs s.heap ρ l vs.toList/\s.heap.Ns p.2 d/\(∃ t,d "_initial_size"=some (.int i t))/\(∀ x:Str,x≠"_initial_size"->d x=none)/\l.length<=lim:=by
 refine byQ λQ kQ=>?_
 have ro:=R.obj k p _ hp hσ
 dsimp only[RO] at ro
 obtain ⟨hlim,vs,n,d,h1,h2,h3,h4,h5⟩:=ro
 refine kQ ?_
 exact kj1 vs n d h1 h2 h3 h4 h5 hlim
theorem br(K:Acc G m)(R:Rel G σ ρ s){a:Addr}{o:Obj}(ho:s.heap.get? a=some o)(hc:o.cls=.ref G.cls){name:Str}{r:Option Value}(h:(∃ v,m name=some v/\r=some v)\/(m name=none/\typeLookup (.type "list") name=pure r)){Q:Option Value->Shared->Prop}{E:Value->Shared->Prop}{M:Model}
  (hQ:Q r s):wpAny M A (specialOf (.ref a) name) Q E s:=by
 unfold specialOf
 refine wpAny_bind ?_
 show wpAny M A (typeOf (.ref a)) _ E s
 unfold typeOf
 refine wpAny_bind (wpAny_load ho (wpAny_pure ?_))
 refine(hc)▸?_
 exact gO K R h hQ
theorem mF(K:Acc G m)(R:Rel G σ ρ s){k:Nat}{l:List V}{i:Int}{p:Addr×Addr}(hp:ρ.st[k]?=some p)(hσ:σ[k]?=some ⟨l,some i⟩){name:Str}{f:Value}{tf:Value}{pl:Sem Bool}
  (hga:m "__getattribute__"=none) (hgt:m "__getattr__"=none) (h:(m name=some f)\/(m name=none/\typeLookup (.type "list") name=pure (some f)))
  (hn:name≠"_initial_size") (ht:∀ {Q:Value->Shared->Prop} {E:Value->Shared->Prop},Q tf s->wpAny (model G.prog G.w) A (typeOf f) Q E s) (htf:tf=.type "function"\/tf=.type "method_descriptor"\/tf=.type "wrapper_descriptor")
  {Q:Value×List Value->Shared->Prop} {E:Value->Shared->Prop} (hQ:Q (f,[.ref p.1]) s):wpAny (model G.prog G.w) A (getMethod (.ref p.1) name pl) Q E s:=by
 refine uB (a7 R hp hσ) λvs n d h1 h2 h3 h4 h5 h6=>?_
 refine a4 (F.plainAttrs_list.ga) λg h_p=>?_;have hg:=h_p.1;have hcan:=h_p.2
 dsimp only[getMethod]
 refine wpAny_bind (br K R h1 rfl (.inr ⟨hga,hg⟩) ?_)
 show wpAny _ A (if (Manifest.canonical g != "object.__getattribute__")=true then _ else _) Q E s
 rw[hcan,if_neg Bool.false_ne_true]
 refine wpAny_bind (br K R h1 rfl (.inr ⟨hgt,F.plainAttrs_list.noGetattr⟩) ?_)
 show wpAny _ A (if (Option.isSome (none:Option Value))=true then _ else _) Q E s
 rw[if_neg (by decide)]
 refine wpAny_bind (br K R h1 rfl (r:=some f) (by rcases h with h | h;exact .inl ⟨f,h,rfl⟩;exact .inr h) ?_)
 refine wpAny_bind (ht ?_)
 rw[if_neg (by rcases htf with rfl | rfl | rfl <;> decide)]
 refine wpAny_bind (wpAny_loadPart h1 ?_)
 show wpAny _ A (nsGet p.2 name>>=_) Q E s
 refine wpAny_bind (wpAny_nsGet h3 ?_)
 refine(h5 name hn)▸?_
 exact wpAny_bind (wpAny_rule (wpAny_pure hQ))
theorem sH(K:Acc G m){o:Expr}{name:Str}{apos pos:Pos}{args:List Expr}{k:Nat}{l:List V}{i:Int}{v:V}{vs:List V}{f tf:Value}(hs:b9 o=true)(hn:aP args=true)(hfew:args.length<29)(hline:(apos.endLine==pos.line)=true)
  (hga:m "__getattribute__"=none) (hgt:m "__getattr__"=none) (hf:(m name=some f)\/(m name=none/\typeLookup (.type "list") name=pure (some f)))
  (hni:name≠"_initial_size") (ht:∀ {s:Shared} {Q:Value->Shared->Prop} {E:Value->Shared->Prop},(∀ b o,b ∉ G.loose->G.s₀.heap.get? b=some o->s.heap.get? b=some o)->Q tf s->wpAny (model G.prog G.w) A (typeOf f) Q E s) (htf:tf=.type "function"\/tf=.type "method_descriptor"\/tf=.type "wrapper_descriptor")
  (dJ:Ev G A C env W o σ η (.ref k) σ₁) (hσ:σ₁[k]?=some ⟨l,some i⟩) (cV:Evs G A C env W args σ₁ η vs σ₂)
  (hc:∀ ρ s c,Rel G σ₁ ρ s->RE G C env W η ρ s->0<s.toks->RV s.heap ρ (.ref k) c->wpAny (model G.prog G.w) A (callWith pos f [c] (backTo pos (starEach args env)) []) (PE G ρ s aq v) No s) :
  Ev G A C env W (.Call (.Attribute o name apos) args [] pos) σ η v aq:=λρ s R N htk=>by
 rw[arm_eval_Call,e9 hs]
 refine wpAny_bind (dJ.use R N htk λbz au aa am aR aS aA=>?_)
 refine a4 (RV.ref_iff aA) λp h_p=>?_;have hp:=h_p.1;obtain rfl:=h_p.2
 refine wpAny_bind (wpAny_standAt ?_)
 have hform:methodCallForm (args.length+([]:List Keyword).length) (backTo pos (starEach args env)) (backToKw pos (keywordEach [] env))=true:=by
  unfold methodCallForm
  rw[eA hn]
  show (true&&true&&decide (args.length+0+0<30))=true
  simp;exact Nat.le_succ_of_le ‹_›
 have hpos:methodCallPos true o env apos pos=pure pos:=by unfold methodCallPos;simp [hline]
 dsimp only[methodCall]
 refine(hform)▸?_
 refine wpAny_bind (wpAny_holding ?_)
 show wpAny _ A (getMethod (.ref p.1) name _) _ _ au
 refine mF K am.rel hp hσ hga hgt hf hni (λhq=>ht am.rel.keep hq) htf ?_
 refine wpAny_bind (wpAny_of_eq hpos ?_)
 exact wpAny_mono (hc aa au _ am.rel aR aS aA) ((by rintro cv aG ⟨aC,aB,aL⟩;exact⟨aC,am.trans aB,aL⟩)) λ_ _ f=>f.elim
theorem Ev.accDef(K:Acc G m){o:Expr}{name:Str}{apos pos:Pos}{args:List Expr}{k:Nat}{l:List V}{i:Int}{v:V}{vs:List V}{fa:Addr}{fo:Obj}{fd:FuncData}(hs:b9 o=true)(hn:aP args=true)(hfew:args.length<29)(hline:(apos.endLine==pos.line)=true)
  (hga:m "__getattribute__"=none) (hgt:m "__getattr__"=none) (hf:m name=some (.ref fa)) (hni:name≠"_initial_size")
  (hb:G.s₀.heap.get? fa=some fo) (hl:fa ∉ G.loose) (hfd:fo.data=.func fd) (hfc:fo.cls=.type "function")
  (dJ:Ev G A C env W o σ η (.ref k) σ₁) (hσ:σ₁[k]?=some ⟨l,some i⟩) (cV:Evs G A C env W args σ₁ η vs σ₂)
  (ho:On G A (λcvs=>call (.ref fa) cvs) σ₂ (.ref k::vs) v aq):Ev G A C env W (.Call (.Attribute o name apos) args [] pos) σ η v aq:=by
 refine sH K hs hn hfew hline hga hgt (.inl hf) hni (tf:=.type "function") (λhk hq=>?_) (.inl rfl) dJ hσ cV λρ s c R N ht r=>?_
 ·unfold typeOf
  refine wpAny_bind (wpAny_load (hk fa fo hl hb) (wpAny_pure ?_))
  exact(hfc)▸(hq)
 ·refine callWith_function (o:=fo) (fd:=fd) (bU hn (cV.use R N ht pos λcvs au aa am aR aS aA=>⟨⟨am.rel.keep fa fo hl hb,hfd⟩,?_⟩))
  exact ho.use am.rel (RVs.cons (RV.mono (Step.keepV R am) _ _ r) aA) aS λcv aG aC aB c0 aL=>⟨aC,am.trans aB,aL⟩
theorem Ev.accBi(K:Acc G m){o:Expr}{name:Str}{apos pos:Pos}{args:List Expr}{k:Nat}{l:List V}{i:Int}{v:V}{vs:List V}{id:String}(M:Mt "list" name id)(hs:b9 o=true)(hn:aP args=true)(hfew:args.length<29)(hline:(apos.endLine==pos.line)=true)
  (hga:m "__getattribute__"=none) (hgt:m "__getattr__"=none) (hf:m name=none) (hni:name≠"_initial_size")
  (dJ:Ev G A C env W o σ η (.ref k) σ₁) (hσ:σ₁[k]?=some ⟨l,some i⟩) (cV:Evs G A C env W args σ₁ η vs σ₂)
  (ho:On G A (λcvs=>call (.builtin id) cvs) σ₂ (.ref k::vs) v aq):Ev G A C env W (.Call (.Attribute o name apos) args [] pos) σ η v aq:=by
 refine sH K hs hn hfew hline hga hgt (.inr ⟨hf,M.slot.lookup⟩) hni (tf:=.type "method_descriptor") (λhk hq=>wpAny_of_eq M.ty hq) (.inr (.inl rfl)) dJ hσ cV λρ s c R N ht r=>?_
 refine callWith_builtin (bK hn) (bU hn (cV.use R N ht pos λcvs au aa am aR aS aA=>?_))
 exact ho.use am.rel (RVs.cons (RV.mono (Step.keepV R am) _ _ r) aA) aS λcv aG aC aB c0 aL=>⟨aC,am.trans aB,aL⟩
theorem fv(K:Acc G m)(R:Rel G σ ρ s){a:Addr}{o:Obj}(ho:s.heap.get? a=some o)(hc:o.cls=.ref G.cls){Q:Bool->Shared->Prop}{E:Value->Shared->Prop}{M:Model}(hQ:Q true s):wpAny M A (isInstance (.ref a) (.type "list")) Q E s:=by
 refine cC (cw K R) λoc cd h_p=>?_;have h1:=h_p.1;have h2:=h_p.2.1;have h3:=h_p.2.2.1;have h4:=h_p.2.2.2
 unfold isInstance
 refine wpAny_bind (m:=typeOf (.ref a)) ?_
 unfold typeOf
 refine wpAny_bind (wpAny_load ho (wpAny_pure ?_))
 refine(hc)▸?_
 unfold isSubtype
 refine wpAny_bind (m:=mroOf (.ref G.cls)) ?_
 show wpAny M A (do return (← classData G.cls).mro) _ E s
 refine wpAny_bind ?_
 unfold classData
 refine wpAny_bind (wpAny_load h1 ?_)
 refine(h2)▸?_
 refine wpAny_pure (wpAny_pure ?_)
 refine(h3)▸?_
 dsimp only
 rw[if_neg (show ¬ (([Value.ref G.cls,.type "list",.type "object"]:List Value).isEmpty=true) from Bool.false_ne_true)]
 have e:([Value.ref G.cls,.type "list",.type "object"]:List Value).contains (.type "list")=true:=by
  rw[List.contains_cons,List.contains_cons];simp
 refine(e)▸?_
 exact wpAny_pure hQ
theorem gj(K:Acc G m)(R:Rel G σ ρ s){a:Addr}{o:Obj}(ho:s.heap.get? a=some o)(hc:o.cls=.ref G.cls){id n:String}{rest:List Value}(hk:builtinKind id=some .slot\/builtinKind id=some .method)(hsplit:splitId id=some ("list",n))
  (ha:argsOk id ⟨.ref a::rest,[]⟩) {Q:Unit->Shared->Prop} {E:Value->Shared->Prop} {M:Model} (hQ:Q () s):wpAny M A (checkBuiltinCall id ⟨.ref a::rest,[]⟩) Q E s:=by
 rcases hk with h | h <;>
 ·simp only[checkBuiltinCall,h,hsplit]
  refine wpAny_bind (fv K R ho hc ?_)
  simp only[Bool.not_true,Bool.false_eq_true,if_false]
  cases hsig:Manifest.signature? id with
  | none=>exact wpAny_pure hQ
  | some sig =>
   simp only[argsOk,hsig] at ha
   have h2:Bind.checkArgs id sig ⟨.ref a::rest,[]⟩=pure ():=ha
   show wpAny M A (Bind.checkArgs id sig ⟨.ref a::rest,[]⟩) Q E s
   exact(h2)▸(wpAny_pure hQ)
theorem ia:builtinKind "list.append"=some .method:=by kernel_rfl
theorem gv:splitId "list.append"=some ("list","append"):=by decide +kernel
theorem mE{k:Nat}{l l':List V}{i:Int}{p:Addr×Addr}{h':Heap}{t:Nat}{us:Array Value}{n:Nat}(R:Rel G σ ρ s)(hp:ρ.st[k]?=some p)(hσ:σ[k]?=some ⟨l,some i⟩)(hs:Heap.ExtBut p.1 s.heap h')(hl:l'.length<=lim)
  (hpl:h'.get? p.1=some ⟨.ref G.cls,some p.2,.seq us n,#[]⟩) (hr:KeepV s.heap ρ h' ρ->RVs h' ρ l' us.toList):Step G ρ s ρ { s with heap:=h',toks:=t } (σ.set k ⟨l',some i⟩) :=
 Step.write R hp hσ hs λK=>by
  refine byQ λQ kQ=>?_
  refine uB (a7 R hp hσ) λvs n' d h1 h2 h3 h4 h5 h6=>?_
  refine kQ ?_
  dsimp only[RO]
  refine⟨hl,us,n,d,hpl,hr K,?_,h4,h5⟩
  refine h3.extBut hs ?_
  intro e
  refine wp (h3) λo es ep ho hd _=>?_
  rw[e,h1] at ho;obtain rfl:=siX ho;cases hd
theorem ir(K:Acc G m){k:Nat}{l:List V}{i:Int}{v:V}(hσ:σ[k]?=some ⟨l,some i⟩)(hl:l.length<lim):On G A (λcvs=>call (.builtin "list.append") cvs) σ [.ref k,v] .none (σ.set k ⟨l++[v],some i⟩):=λρ s cvs R r ht=>by
 obtain ⟨c,r',rfl,h1,h2⟩:=RVs.cons_iff r
 refine cC (RVs.cons_iff h2) λc2 r2 h_p=>?_;obtain rfl:=h_p.1;have h3:=h_p.2.1;have h4:=h_p.2.2
 refine(RVs.nil_iff h4)▸?_
 refine a4 (RV.ref_iff h1) λp h_p=>?_;have hp:=h_p.1;obtain rfl:=h_p.2
 refine byQ λQ kQ=>?_
 refine ei (a7 R hp hσ) λvs n d h_p=>?_;have g1:=h_p.1;have g2:=h_p.2.1;have g3:=h_p.2.2.1;have g4:=h_p.2.2.2.1;have g5:=h_p.2.2.2.2.1;have g6:=h_p.2.2.2.2.2
 have hsz:vs.size=l.length:=by have:=RVs.length g2;simpa using this
 refine kQ ?_
 refine wpAny_call (codeAny_call_builtin slot_list_append.plain entry_list_append (gj K R g1 rfl (.inr ia) gv (args_list_append _ _) ?_))
 show wpAny _ _ (updateSeq p.1 (·.push c2)>>=λ_=>ret .none) _ _ s
 have hu:(Obj.mapSeq (·.push c2) ⟨.ref G.cls,some p.2,.seq vs n,#[]⟩)=⟨.ref G.cls,some p.2,.seq (vs.push c2) (if (vs.push c2).size==vs.size then n else n+1),#[]⟩:=rfl
 refine wpAny_bind (wpAny_updateSeq g1 rfl (wpAny_pure ?_) (by rw[hsz];exact Nat.le_trans g6 (by decide)) (by rw[Array.size_push,hsz];exact Nat.succ_le_succ (Nat.le_trans g6 (by decide))))
 have hg:(s.heap.update p.1 (Obj.mapSeq (·.push c2))).get? p.1=some ⟨.ref G.cls,some p.2,.seq (vs.push c2) (if (vs.push c2).size==vs.size then n else n+1),#[]⟩:=by
  rw[Heap.get?_update_self _ g1 (by rw[hu];rfl),hu]
 refine⟨ρ,mE (t:=s.toks) R hp hσ (Heap.SameBut.update ..).extBut (by rw[List.length_append];exact hl) hg λKK=>?_,RV.none_⟩
 ·rw[Array.toList_push]
  exact RVs.append (RVs.mono KK _ _ g2) (RVs.cons (RV.mono KK _ _ h3) RVs.nil)
end
theorem l8{α:Type}{l:List α}(h:l.isEmpty=true):l=[]:=List.isEmpty_iff.mp h
noncomputable def oB{α:Type}(o:Option α)(f:α->Bool):Bool:=o.elim false f
theorem tn{α:Type}{o:Option α}{f:α->Bool}(h:oB o f=true):∃ a,o=some a/\f a=true:=by
 cases o with
 | none=>exact ftr h
 | some a=>exact⟨a,rfl,h⟩
set_option genInjectivity false in
set_option genSizeOf false in
inductive Ex where
 | cst (v:V) | glo (l:List Nat) | loc (i:Nat) | nil | cons (e es:Ex)
 | tup (es:Ex) | lst (es:Ex) | new (es:Ex)
 | bin (op:Operator) (a b:Ex) | neg (a:Ex) | not (a:Ex)
 | cmp (op:CmpOp) (a b:Ex) | chain (b8 bY:CmpOp) (a b c:Ex)
 | and (a b:Ex) | or (a b:Ex) | ite (c a b:Ex)
 | idx (a i:Ex) | slc (a lo hi st:Ex)
 | comp (vars:List Var) (tg elt it cond:Ex)
 | bf (f:Bf) (args:Ex) | range (args:Ex) | list (args:Ex)
 | me (f:Me) (o args:Ex) | rep (o:Ex) (y z:List Nat) | split (o:Ex) (y:Ex)
 | append (o x:Ex) | pop (o:Ex)
 | call (f:Nat) (args:Ex) | meth (f:Nat) (o args:Ex)
noncomputable abbrev Fn:=Nat->List V->List AO->Option (V×List AO)
noncomputable def ItS.fuel:ItS->List AO->Nat
 | .seq l,_=>l.length+1
 | .dyn k i,σ=>match σ[k]? with
  | some ⟨items,_⟩=>items.length+1
  | none=>0
noncomputable def yE:ac->List Nat->List V->ac
 | η,i::is,v::vs=>yE (η.set i (some v)) is vs
 | η,_,_=>η
noncomputable def iN:Ex->Option (List Nat)
 | .nil=>some []
 | .cons (.loc i) es=>(iN es).map (i::·)
 | _=>none
noncomputable def asF(tg:Ex)(v:V)(η:ac):Option ac :=
 match tg,v with
 | .loc i,v=>some (η.set i (some v))
 | .tup es,.tup vs=>match iN es with
  | some is=>if vs.length=is.length then some (yE η is vs) else none
  | none=>none
 | _,_=>none
noncomputable def cW(tg:Ex)(cond:List AO->ac->Option (Bool×List AO))(elt:List AO->ac->Option (V×List AO)):Nat->ItS->List AO->ac->Option (List V×List AO)
 | 0,_,_,_=>none
 | n+1,st,σ,η=>match st.step σ with
  | none=>none
  | some none=>some ([],σ)
  | some (some (x,st'))=>match asF tg x η with
   | none=>none
   | some η₁=>match cond σ η₁ with
    | none=>none
    | some (false,σ₁)=>cW tg cond elt n st' σ₁ η₁
    | some (true,σ₁)=>match elt σ₁ η₁ with
     | none=>none
     | some (v,σ₂)=>match cW tg cond elt n st' σ₂ η₁ with
      | none=>none
      | some (out,aq)=>some (v::out,aq)
mutual
noncomputable def evx(F:Fn):Ex->List AO->ac->Option (V×List AO)
 | .cst v,σ,_=>some (v,σ)
 | .glo l,σ,_=>some (.str l,σ)
 | .loc i,σ,η=>match η[i]? with
  | some (some v)=>some (v,σ)
  | _=>none
 | .nil,σ,_=>some (.none,σ)
 | .cons _ _,_,_=>none
 | .tup es,σ,η=>match evs F es σ η with
  | some (vs,σ₁)=>if vs.length<=lim then some (.tup vs,σ₁) else none
  | none=>none
 | .lst es,σ,η=>match evs F es σ η with
  | some (vs,σ₁)=>if vs.length<=lim then some (.lst vs,σ₁) else none
  | none=>none
 | .new es,σ,η=>match evs F es σ η with
  | some (vs,σ₁)=>if vs.length<=lim then some (.ref σ₁.length,σ₁++[⟨vs,none⟩]) else none
  | none=>none
 | .bin op a b,σ,η=>match evx F a σ η with
  | some (x,σ₁)=>match evx F b σ₁ η with
   | some (y,σ₂)=>(qL op x y).map λv=>(v,σ₂)
   | none=>none
  | none=>none
 | .neg a,σ,η=>match evx F a σ η with
  | some (.int i,σ₁)=>some (.int (-i),σ₁)
  | _=>none
 | .not a,σ,η=>match evx F a σ η with
  | some (x,σ₁)=>(aW x).map λb=>(.bool (!b),σ₁)
  | none=>none
 | .cmp op a b,σ,η=>match evx F a σ η with
  | some (x,σ₁)=>match evx F b σ₁ η with
   | some (y,σ₂)=>(hR op σ₂ x y).map λk=>(.bool k,σ₂)
   | none=>none
  | none=>none
 | .chain b8 bY a b c,σ,η=>match evx F a σ η with
  | some (x,σ₁)=>match evx F b σ₁ η with
   | some (y,σ₂)=>match hR b8 σ₂ x y with
    | some false=>some (.bool false,σ₂)
    | some true=>match evx F c σ₂ η with
     | some (z,aq)=>(hR bY aq y z).map λk=>(.bool k,aq)
     | none=>none
    | none=>none
   | none=>none
  | none=>none
 | .and a b,σ,η=>match evx F a σ η with
  | some (x,σ₁)=>match aW x with
   | some true=>evx F b σ₁ η
   | some false=>some (x,σ₁)
   | none=>none
  | none=>none
 | .or a b,σ,η=>match evx F a σ η with
  | some (x,σ₁)=>match aW x with
   | some false=>evx F b σ₁ η
   | some true=>some (x,σ₁)
   | none=>none
  | none=>none
 | .ite c a b,σ,η=>match evx F c σ η with
  | some (x,σ₁)=>match aW x with
   | some true=>evx F a σ₁ η
   | some false=>evx F b σ₁ η
   | none=>none
  | none=>none
 | .idx a i,σ,η=>match evx F a σ η with
  | some (x,σ₁)=>match evx F i σ₁ η with
   | some (y,σ₂)=>(dH σ₂ x y).map λv=>(v,σ₂)
   | none=>none
  | none=>none
 | .slc a lo hi st,σ,η=>match evx F a σ η with
  | some (x,σ₁)=>match evx F lo σ₁ η with
   | some (l,σ₂)=>match evx F hi σ₂ η with
    | some (h,aq)=>match evx F st aq η with
     | some (s,σ₄)=>(pk σ₄ x l h s).map λv=>(v,σ₄)
     | none=>none
    | none=>none
   | none=>none
  | none=>none
 | .comp vars tg elt it cond,σ,η=>match evx F it σ η with
  | some (x,σ₁)=>match bh x with
   | some st=>match cW tg (λσ η=>match cond with
     | .nil=>some (true,σ)
     | c=>match evx F cond σ η with
      | some (y,σ')=>(aW y).map λb=>(b,σ')
      | none=>none) (λσ η=>evx F elt σ η) (st.fuel σ₁) st σ₁ (clr η vars) with
    | some (out,σ₂)=>if out.length<=lim then some (.lst out,σ₂) else none
    | none=>none
   | none=>none
  | none=>none
 | .bf f args,σ,η=>match evs F args σ η with
  | some (vs,σ₁)=>(bfF f σ₁ vs).map λv=>(v,σ₁)
  | none=>none
 | .range args,σ,η=>match evs F args σ η with
  | some (vs,σ₁)=>(v4 vs).map λv=>(v,σ₁)
  | none=>none
 | .list args,σ,η=>match evs F args σ η with
  | some (vs,σ₁)=>(fA1 vs).map λv=>(v,σ₁)
  | none=>none
 | .me f o args,σ,η=>match evx F o σ η with
  | some (x,σ₁)=>if mU σ₁ x=some f.T then match evs F args σ₁ η with
   | some (vs,σ₂)=>(meF f σ₂ x vs).map λv=>(v,σ₂)
   | none=>none
   else none
  | none=>none
 | .rep o y z,σ,η=>match evx F o σ η with
  | some (.str x,σ₁)=>(meF .replace σ₁ (.str x) [.str y,.str z]).map λv=>(v,σ₁)
  | _=>none
 | .split o y,σ,η=>match evx F o σ η with
  | some (.str x,σ₁)=>match evx F y σ₁ η with
   | some (.str y,σ₂)=>if y≠[]/\(Txt.split (S' x) (S' y)).length<=lim/\(Txt.split (S' x) (S' y)).all (λz=>decide (z.cps.toList.length<=lim))=true then
     some (.ref σ₂.length,σ₂++[⟨(Txt.split (S' x) (S' y)).map λz=>.str z.cps.toList,none⟩]) else none
   | _=>none
  | _=>none
 | .append o x,σ,η=>match evx F o σ η with
  | some (.ref k,σ₁)=>match σ₁[k]? with
   | some ⟨_,none⟩=>match evx F x σ₁ η with
    | some (v,σ₂)=>match σ₂[k]? with
     | some ⟨l,none⟩=>if l.length<lim then some (.none,σ₂.set k ⟨l++[v],none⟩) else none
     | _=>none
    | none=>none
   | _=>none
  | _=>none
 | .pop o,σ,η=>match evx F o σ η with
  | some (.ref k,σ₁)=>match σ₁[k]? with
   | some ⟨l,none⟩=>match l.getLast? with
    | some v=>some (v,σ₁.set k ⟨l.dropLast,none⟩)
    | none=>none
   | _=>none
  | _=>none
 | .call f args,σ,η=>match evs F args σ η with
  | some (vs,σ₁)=>F f vs σ₁
  | none=>none
 | .meth f o args,σ,η=>match evx F o σ η with
  | some (.ref k,σ₁)=>match σ₁[k]? with
   | some ⟨_,some _⟩=>match evs F args σ₁ η with
    | some (vs,σ₂)=>F f (.ref k::vs) σ₂
    | none=>none
   | _=>none
  | _=>none
/-- a list of parts -/
noncomputable def evs(F:Fn):Ex->List AO->ac->Option (List V×List AO)
 | .nil,σ,_=>some ([],σ)
 | .cons e es,σ,η=>match evx F e σ η with
  | some (v,σ₁)=>match evs F es σ₁ η with
   | some (vs,σ₂)=>some (v::vs,σ₂)
   | none=>none
  | none=>none
 | _,_,_=>none
end
set_option genInjectivity false in
set_option genSizeOf false in
inductive Sx where
 | skip | seq (a b:Sx)
 | asg (i:Nat) (e:Ex) | asgM (i:Nat) (e:Ex) | asgT (is:List Nat) (e:Ex) | asg2 (i j:Nat) (e:Ex)
 | aug (i:Nat) (op:Operator) (e:Ex) | augL (i:Nat) (e:Ex)
 | expr (e:Ex) | ret (e:Ex) | ite (c:Ex) (a b:Sx)
 | whil (fuel:Nat) (c:Ex) (b:Sx) | for_ (tg it:Ex) (b:Sx)
 | brk | pass | dead | asrt (c:Ex) | del (o:Ex) (i:Int)
noncomputable abbrev Out:=Option (Fl×List AO×ac)
noncomputable def whN(c:List AO->ac->Option (Bool×List AO))(b:List AO->ac->Out):Nat->List AO->ac->Out
 | 0,_,_=>none
 | n+1,σ,η=>match c σ η with
  | some (false,σ₁)=>some (.next,σ₁,η)
  | some (true,σ₁)=>match b σ₁ η with
   | some (.next,σ₂,η₂)=>whN c b n σ₂ η₂
   | some (.brk,σ₂,η₂)=>some (.next,σ₂,η₂)
   | r=>r
  | none=>none
noncomputable def foN(tg:Ex)(b:List AO->ac->Out):Nat->ItS->List AO->ac->Out
 | 0,_,_,_=>none
 | n+1,st,σ,η=>match st.step σ with
  | none=>none
  | some none=>some (.next,σ,η)
  | some (some (x,st'))=>match asF tg x η with
   | none=>none
   | some η₁=>match b σ η₁ with
    | some (.next,σ₂,η₂)=>foN tg b n st' σ₂ η₂
    | some (.brk,σ₂,η₂)=>some (.next,σ₂,η₂)
    | r=>r
noncomputable def evt(F:Fn)(c:Ex)(σ:List AO)(η:ac):Option (Bool×List AO) :=
 match evx F c σ η with
 | some (x,σ₁)=>(aW x).map λb=>(b,σ₁)
 | none=>none
noncomputable def exs(F:Fn):Sx->List AO->ac->Out
 | .skip,σ,η=>some (.next,σ,η)
 | .seq a b,σ,η=>match exs F a σ η with
  | some (.next,σ₁,η₁)=>exs F b σ₁ η₁
  | r=>r
 | .asg i e,σ,η=>match evx F e σ η with
  | some (v,σ₁)=>some (.next,σ₁,η.set i (some v))
  | none=>none
 | .asgM i e,σ,η=>match evx F e σ η with
  | some (.lst vs,σ₁)=>some (.next,σ₁++[⟨vs,none⟩],η.set i (some (.ref σ₁.length)))
  | _=>none
 | .asgT is e,σ,η=>match evx F e σ η with
  | some (.tup vs,σ₁)=>if vs.length=is.length then some (.next,σ₁,yE η is vs) else none
  | _=>none
 | .asg2 i j e,σ,η=>match evx F e σ η with
  | some (.tup [u,v],σ₁)=>some (.next,σ₁,(η.set j (some v)).set i (some u))
  | _=>none
 | .aug i op e,σ,η=>match η[i]? with
  | some (some u)=>match evx F e σ η with
   | some (v,σ₁)=>(cx1 op u v).map λw=>(.next,σ₁,η.set i (some w))
   | none=>none
  | _=>none
 | .augL i e,σ,η=>match η[i]? with
  | some (some (.ref k))=>match evx F e σ η with
   | some (v,σ₁)=>match σ₁[k]?,der σ₁ v with
    | some ⟨l,none⟩,.lst uE=>if l.length+uE.length<=lim then some (.next,σ₁.set k ⟨l++uE,none⟩,η.set i (some (.ref k))) else none
    | _,_=>none
   | none=>none
  | _=>none
 | .expr e,σ,η=>match evx F e σ η with
  | some (v,σ₁)=>some (.next,σ₁,η)
  | none=>none
 | .ret e,σ,η=>match evx F e σ η with
  | some (v,σ₁)=>some (.ret v,σ₁,η)
  | none=>none
 | .ite c a b,σ,η=>match evt F c σ η with
  | some (true,σ₁)=>exs F a σ₁ η
  | some (false,σ₁)=>exs F b σ₁ η
  | none=>none
 | .whil n c b,σ,η=>whN (λσ η=>evt F c σ η) (λσ η=>exs F b σ η) n σ η
 | .for_ tg it b,σ,η=>match evx F it σ η with
  | some (x,σ₁)=>match bh x with
   | some st=>foN tg (λσ η=>exs F b σ η) (st.fuel σ₁) st σ₁ η
   | none=>none
  | none=>none
 | .brk,σ,η=>some (.brk,σ,η)
 | .pass,σ,η=>some (.next,σ,η)
 | .dead,_,_=>none
 | .asrt c,σ,η=>match evt F c σ η with
  | some (true,σ₁)=>some (.next,σ₁,η)
  | _=>none
 | .del o i,σ,η=>match evx F o σ η with
  | some (.ref k,σ₁)=>match σ₁[k]? with
   | some ⟨l,none⟩=>if -1000000000<=i/\i<=1000000000 then match seqIndex? i l.length with
    | some j=>some (.next,σ₁.set k ⟨l.eraseIdx j,none⟩,η)
    | none=>none
    else none
   | _=>none
  | _=>none
structure FnX where
 nvars:Nat
 body:Sx
set_option genInjectivity false in
set_option genSizeOf false in
structure Tab where
 name:Nat->Option Str
 meth:Nat->Option Str
 gs:Str->Option (List Nat)
noncomputable def lX(v:V)(e:Expr):Bool:=(un e).tag==14&&match v with
 | .none=>decide ((un e).v=.none)
 | .bool b=>decide ((un e).v=.bool b)
 | .int i=>decide ((un e).v=.int i)
 | .str l=>decide ((un e).v=.str ⟨l.toArray⟩)&&decide (l.length<=lim)
 | _=>false
noncomputable def hJ(C:Cx)(x y:Str):Bool:=x==y&&bp (C.kind x) .globalImplicit&&!(x==("__debug__":Str))
noncomputable def tP(x:Ex):Bool:=x.ctorIdx==3
noncomputable def hl1(x:Ex)(f:Expr->Bool):Option Expr->Bool
 | none=>tP x
 | some e=>!tP x&&f e
noncomputable def cE(C:Cx)(x:Str)(i:Nat):Bool:=C.vars.any λy=>y.name==x&&y.slot==i
noncomputable def f5(C:Cx)(x:Str)(i:Nat):Bool:=C.vars.any λy=>y.name==x&&y.slot==i&&y.own
noncomputable def mtI(C:Cx):List Nat->List Expr->Bool
 | [],xs=>xs.isEmpty
 | i::is,xs=>match xs with
  | e::xs=>(un e).tag==1&&f5 C (un e).s i&&mtI C is xs
  | []=>false
noncomputable def mtg(C:Cx):Ex->Expr->Bool
 | .loc i,e=>(un e).tag==1&&f5 C (un e).s i
 | .tup es,e=>(un e).tag==2&&oB (iN es) λis=>mtI C is (un e).l
 | _,_=>false
noncomputable def gr1(c:Ex)(f:Expr->Bool):List Expr->Bool
 | []=>tP c
 | e::l=>!tP c&&f e&&l.isEmpty
noncomputable def mu(q:Nd)(n:Str)(a:Nd):Bool:=q.tag==12&&a.tag==13&&a.s==n&&b9 a.a&&aP q.l&&decide (q.l.length<29)&&a.p.endLine==q.p.line&&q.ks.isEmpty
noncomputable def ub(C:Cx)(q:Nd)(n:Str)(a:Nd):Bool:=q.tag==12&&a.tag==1&&a.s==n&&hJ C a.s a.s&&aP q.l&&q.ks.isEmpty
noncomputable def wJ(nm:Option Str)(q a:Nd):Bool:=match nm with | some n=>mu q n a | none=>false
noncomputable def ww(C:Cx)(nm:Option Str)(q a:Nd):Bool:=match nm with | some n=>ub C q n a | none=>false
mutual
noncomputable def mt(T:Tab):Ex->Cx->Expr->Bool
 | .cst v,_,e=>lX v e
 | .glo l,C,e=>(un e).tag==1&&T.gs (un e).s==some l&&hJ C (un e).s (un e).s
 | .loc i,C,e=>(un e).tag==1&&cE C (un e).s i
 | .tup es,C,e=>(un e).tag==2&&mts T es C (un e).l
 | .lst es,C,e=>(un e).tag==3&&mts T es C (un e).l
 | .new es,C,e=>(un e).tag==3&&mts T es C (un e).l
 | .bin op a b,C,e=>(un e).tag==4&&decide (op=(un e).o)&&mt T a C (un e).a&&mt T b C (un e).b
 | .neg a,C,e=>(un e).tag==5&&decide ((un e).u=.USub)&&mt T a C (un e).a
 | .not a,C,e=>(un e).tag==5&&decide ((un e).u=.Not)&&mt T a C (un e).a
 | .cmp op a b,C,e=>(un e).tag==6&&oB (lI (un e).l) λr=>decide ((un e).cs=[op])&&mt T a C (un e).a&&mt T b C r&&!behindInMarks op r
 | .chain b8 bY a b c,C,e=>(un e).tag==6&&oB (aj1 (un e).l) λr=>decide ((un e).cs=[b8,bY])&&mt T a C (un e).a&&mt T b C r.1&&mt T c C r.2&&!lastMarks [b8,bY] [r.1,r.2]
 | .and a b,C,e=>(un e).tag==7&&oB (aj1 (un e).l) λr=>decide ((un e).bo=.And)&&mt T a C r.1&&mt T b C r.2
 | .or a b,C,e=>(un e).tag==7&&oB (aj1 (un e).l) λr=>decide ((un e).bo=.Or)&&mt T a C r.1&&mt T b C r.2
 | .ite c a b,C,e=>(un e).tag==8&&mt T c C (un e).a&&mt T a C (un e).b&&mt T b C (un e).c
 | .idx a i,C,e=>(un e).tag==9&&mt T a C (un e).a&&mt T i C (un e).b
 | .slc a lo hi st,C,e=>(un e).tag==9&&(un (un e).b).tag==10&&mt T a C (un e).a&&hl1 lo (λe=>mt T lo C e) (un (un e).b).oa&&hl1 hi (λe=>mt T hi C e) (un (un e).b).ob&&hl1 st (λe=>mt T st C e) (un (un e).b).oc
 | .comp vars tg elt it cond,C,e=>(un e).tag==11&&oB (lI (un e).g) λg=>decide (g.is_async=0)&&xH C vars (un e).sc&&mtg ⟨vars,aM (un e).sc C⟩ tg g.target&&mt T elt ⟨vars,aM (un e).sc C⟩ (un e).a&&mt T it C g.iter&&g9 g.iter &&
   gr1 cond (λx=>mt T cond ⟨vars,aM (un e).sc C⟩ x) g.ifs
 | .bf f args,C,e=>ub C (un e) (Str.ofString f.id) (un (un e).a)&&mts T args C (un e).l
 | .range args,C,e=>ub C (un e) "range" (un (un e).a)&&mts T args C (un e).l
 | .list args,C,e=>ub C (un e) "list" (un (un e).a)&&mts T args C (un e).l
 | .me f o args,C,e=>mu (un e) (Str.ofString f.name) (un (un e).a)&&decide (f≠.replace)&&mt T o C (un (un e).a).a&&mts T args C (un e).l
 | .rep o y z,C,e=>mu (un e) "replace" (un (un e).a)&&mt T o C (un (un e).a).a&&oB (aj1 (un e).l) λr=>lX (.str y) r.1&&lX (.str z) r.2
 | .split o y,C,e=>mu (un e) "split" (un (un e).a)&&mt T o C (un (un e).a).a&&oB (lI (un e).l) λr=>mt T y C r
 | .append o y,C,e=>mu (un e) "append" (un (un e).a)&&mt T o C (un (un e).a).a&&oB (lI (un e).l) λr=>mt T y C r
 | .pop o,C,e=>mu (un e) "pop" (un (un e).a)&&mt T o C (un (un e).a).a&&(un e).l.isEmpty
 | .call f args,C,e=>ww C (T.name f) (un e) (un (un e).a)&&mts T args C (un e).l
 | .meth f o args,C,e=>wJ (T.meth f) (un e) (un (un e).a)&&mt T o C (un (un e).a).a&&mts T args C (un e).l
 | .nil,_,_=>false
 | .cons _ _,_,_=>false
noncomputable def mts(T:Tab):Ex->Cx->List Expr->Bool
 | .nil,_,l=>l.isEmpty
 | .cons e es,C,l=>match l with
  | x::xs=>mt T e C x&&gD x&&mts T es C xs
  | []=>false
 | .cst _,_,_=>false
 | .glo _,_,_=>false
 | .loc _,_,_=>false
 | .tup _,_,_=>false
 | .lst _,_,_=>false
 | .new _,_,_=>false
 | .bin _ _ _,_,_=>false
 | .neg _,_,_=>false
 | .not _,_,_=>false
 | .cmp _ _ _,_,_=>false
 | .chain _ _ _ _ _,_,_=>false
 | .and _ _,_,_=>false
 | .or _ _,_,_=>false
 | .ite _ _ _,_,_=>false
 | .idx _ _,_,_=>false
 | .slc _ _ _ _,_,_=>false
 | .comp _ _ _ _ _,_,_=>false
 | .bf _ _,_,_=>false
 | .range _,_,_=>false
 | .list _,_,_=>false
 | .me _ _ _,_,_=>false
 | .rep _ _ _,_,_=>false
 | .split _ _,_,_=>false
 | .append _ _,_,_=>false
 | .pop _,_,_=>false
 | .call _ _,_,_=>false
 | .meth _ _ _,_,_=>false
end
structure Ok (G:Wd) (A:Around) (T:Tab) (F:Fn):Prop where
 hh:A.handled=none
 hu:A.units+10<cLine
 bf:∀ f:Bf,Gl G (Str.ofString f.id) (.builtin f.id)
 rng:Gl G "range" (.type "range")
 lst:Gl G "list" (.type "list")
 gs:∀ x l,T.gs x=some l->l.length<=lim/\∃ t,Gl G x (.str ⟨l.toArray⟩ t)
 call:∀ f x,T.name f=some x->∀ {C env W η σ σ₁ σ₂ p pos} {args:List Expr} {vs:List V} {v:V},C.kind x=some .globalImplicit->(x==("__debug__":Str))=false->aP args=true ->
  Evs G A C env W args σ η vs σ₁->F f vs σ₁=some (v,σ₂)->Ev G A C env W (.Call (.Name x p) args [] pos) σ η v σ₂
 meth:∀ f n,T.meth f=some n->∀ {C env W η σ σ₁ σ₂ aq p pos} {o:Expr} {args:List Expr} {vs:List V} {v:V} {k l i},b9 o=true->aP args=true->args.length<29->(p.endLine==pos.line)=true ->
  Ev G A C env W o σ η (.ref k) σ₁->σ₁[k]?=some ⟨l,some i⟩->Evs G A C env W args σ₁ η vs σ₂->F f (.ref k::vs) σ₂=some (v,aq)->Ev G A C env W (.Call (.Attribute o n p) args [] pos) σ η v aq
section
variable {G:Wd} {A:Around} {C C':Cx} {env cenv:Env} {W W':List Addr} {η η' η₁ η₂ bj:ac} {σ σ' σ₁ σ₂ aq:List AO} {T:Tab} {F:Fn}
noncomputable def SE(G:Wd)(A:Around)(T:Tab)(F:Fn)(x:Ex):Prop:=∀ C e,mt T x C e=true->∀ env W σ η v σ',evx F x σ η=some (v,σ')->Ev G A C env W e σ η v σ'
noncomputable def SS(G:Wd)(A:Around)(T:Tab)(F:Fn)(x:Ex):Prop:=∀ C l,mts T x C l=true->∀ env W σ η vs σ',evs F x σ η=some (vs,σ')->Evs G A C env W l σ η vs σ'
noncomputable def ST(G:Wd)(A:Around)(T:Tab)(F:Fn)(x:Ex):Prop:=∀ C e,mt T x C e=true->∀ env W σ η b σ',evt F x σ η=some (b,σ')->Et G A C env W e σ η b σ'
theorem Ev.of_eq{e e':Expr}{v:V}(h:e=e')(x:Ev G A C env W e' σ η v σ'):Ev G A C env W e σ η v σ':=by exact(h)▸(x)
theorem Et.of_eq{e e':Expr}{b:Bool}(h:e=e')(x:Et G A C env W e' σ η b σ'):Et G A C env W e σ η b σ':=by exact(h)▸(x)
section
variable {α β γ:Type} {P:Prop}
theorem ek{o:Option (V×List AO)}{k:V->List AO->Option β}{r:β}(h:(match o with | some (x,σ)=>k x σ | none=>none)=some r)(q:∀ x σ,o=some (x,σ)->k x σ=some r->P):P:=by
 cases o with
 | none=>exact nso h
 | some a=>exact q a.1 a.2 rfl h
theorem wE{o:Option (List V×List AO)}{k:List V->List AO->Option β}{r:β}(h:(match o with | some (x,σ)=>k x σ | none=>none)=some r)(q:∀ x σ,o=some (x,σ)->k x σ=some r->P):P:=by
 cases o with
 | none=>exact nso h
 | some a=>exact q a.1 a.2 rfl h
theorem bG1{a c:α}{b d:γ}(h:some (a,b)=some (c,d)):a=c/\b=d:=Prod.mk.inj (siX h)
theorem mM{Q:α->γ->Prop}{a c:α}{b d:γ}(h:some (a,b)=some (c,d))(q:Q a b):Q c d:=(bG1 h).1▸(bG1 h).2▸q
theorem iK1{o:Option α}{f:α->β}{σ:γ}{r:β×γ}(h:(o.map λv=>(f v,σ))=some r):∃ v,o=some v/\(f v,σ)=r:=Option.map_eq_some_iff.mp h
theorem uD{Q:β->γ->Prop}{o:Option α}{f:α->β}{σ σ':γ}{u:β}(h:(o.map λv=>(f v,σ))=some (u,σ'))(q:∀ v,o=some v->Q (f v) σ):Q u σ':=by
 cases o with
 | none=>exact nso h
 | some a=>exact mM (Q:=Q) h (q a rfl)
theorem hG1{o:Option Bool}{ja lP:Option β}{r:β}(h:(match o with | some true=>ja | some false=>lP | none=>none)=some r)(lF:o=some true->ja=some r->P)(mL:o=some false->lP=some r->P):P:=by
 cases o with
 | none=>exact nso h
 | some b =>
  cases b
  ·exact mL rfl h
  ·exact lF rfl h
theorem hF1{o:Option Bool}{ja lP:Option β}{r:β}(h:(match o with | some false=>ja | some true=>lP | none=>none)=some r)(lF:o=some false->ja=some r->P)(mL:o=some true->lP=some r->P):P:=by
 cases o with
 | none=>exact nso h
 | some b =>
  cases b
  ·exact lF rfl h
  ·exact mL rfl h
theorem j01{o:Option (Option V)}{k:V->Option β}{r:β}(h:(match o with | some (some v)=>k v | _=>none)=some r)(q:∀ v,o=some (some v)->k v=some r->P):P:=by
 cases o with
 | none=>exact nso h
 | some a=>cases a with
  | none=>exact nso h
  | some v=>exact q v rfl h
theorem mZ1{o:Option (V×List AO)}{k:Int->List AO->Option β}{r:β}(h:(match o with | some (.int i,σ)=>k i σ | _=>none)=some r)(q:∀ i σ,o=some (.int i,σ)->k i σ=some r->P):P:=by
 cases o with
 | none=>exact nso h
 | some a=>obtain ⟨a,c⟩:=a;cases a <;> first | exact q _ _ rfl h | exact nso h
theorem ij1{o:Option (V×List AO)}{k:List Nat->List AO->Option β}{r:β}(h:(match o with | some (.str i,σ)=>k i σ | _=>none)=some r)(q:∀ i σ,o=some (.str i,σ)->k i σ=some r->P):P:=by
 cases o with
 | none=>exact nso h
 | some a=>obtain ⟨a,c⟩:=a;cases a <;> first | exact q _ _ rfl h | exact nso h
theorem hg1{o:Option (V×List AO)}{k:Nat->List AO->Option β}{r:β}(h:(match o with | some (.ref i,σ)=>k i σ | _=>none)=some r)(q:∀ i σ,o=some (.ref i,σ)->k i σ=some r->P):P:=by
 cases o with
 | none=>exact nso h
 | some a=>obtain ⟨a,c⟩:=a;cases a <;> first | exact q _ _ rfl h | exact nso h
theorem mU1{o:Option (V×List AO)}{k:List V->List AO->Option β}{r:β}(h:(match o with | some (.lst i,σ)=>k i σ | _=>none)=some r)(q:∀ i σ,o=some (.lst i,σ)->k i σ=some r->P):P:=by
 cases o with
 | none=>exact nso h
 | some a=>obtain ⟨a,c⟩:=a;cases a <;> first | exact q _ _ rfl h | exact nso h
theorem kU1{o:Option (V×List AO)}{k:List V->List AO->Option β}{r:β}(h:(match o with | some (.tup i,σ)=>k i σ | _=>none)=some r)(q:∀ i σ,o=some (.tup i,σ)->k i σ=some r->P):P:=by
 cases o with
 | none=>exact nso h
 | some a=>obtain ⟨a,c⟩:=a;cases a <;> first | exact q _ _ rfl h | exact nso h
theorem hI1{o:Option AO}{k:List V->Option β}{r:β}(h:(match o with | some ⟨l,none⟩=>k l | _=>none)=some r)(q:∀ l,o=some ⟨l,none⟩->k l=some r->P):P:=by
 cases o with
 | none=>exact nso h
 | some a=>obtain ⟨l,c⟩:=a;cases c <;> first | exact q _ rfl h | exact nso h
theorem m91{o:Option AO}{k:List V->Int->Option β}{r:β}(h:(match o with | some ⟨l,some i⟩=>k l i | _=>none)=some r)(q:∀ l i,o=some ⟨l,some i⟩->k l i=some r->P):P:=by
 cases o with
 | none=>exact nso h
 | some a=>obtain ⟨l,c⟩:=a;cases c <;> first | exact q _ _ rfl h | exact nso h
end
theorem cp{x:Str}{i:Nat}(h:cE C x i=true):∃ y∈C.vars,y.name=x/\y.slot=i:=by
 unfold cE at h
 refine a4 (List.any_eq_true.mp h) λy h_p=>?_;have hy:=h_p.1;have h:=h_p.2
 simp only[Bool.and_eq_true,beq_iff_eq] at h
 exact⟨y,hy,h.1,h.2⟩
theorem bv{x:Str}{i:Nat}(h:f5 C x i=true):∃ y∈C.vars,y.name=x/\y.slot=i/\y.own=true:=by
 unfold f5 at h
 refine a4 (List.any_eq_true.mp h) λy h_p=>?_;have hy:=h_p.1;have h:=h_p.2
 simp only[Bool.and_eq_true,beq_iff_eq] at h
 exact⟨y,hy,h.1.1,h.1.2,h.2⟩
theorem pY{o:Option NameKind}(h:bp o .globalImplicit=true):o=some .globalImplicit:=by
 revert h;cases o with
 | none=>intro h;exact ftr h
 | some k=>cases k <;> intro h <;> first | rfl | exact ftr h
theorem bS{x y:Str}(h:hJ C x y=true):x=y/\C.kind x=some .globalImplicit/\(x==("__debug__":Str))=false:=by
 unfold hJ at h
 simp only[Bool.and_eq_true,beq_iff_eq] at h
 exact⟨h.1.1,pY h.1.2,by simpa using h.2⟩
section
variable {e:Expr}
theorem un1(h:((un e).tag==1)=true):e=.Name (un e).s (un e).p:=rH (k:=0) (beq_iff_eq.mp h)
theorem un2(h:((un e).tag==2)=true):e=.Tuple (un e).l (un e).n (un e).p:=rH (k:=1) (beq_iff_eq.mp h)
theorem un3(h:((un e).tag==3)=true):e=.List (un e).l (un e).p:=rH (k:=2) (beq_iff_eq.mp h)
theorem un4(h:((un e).tag==4)=true):e=.BinOp (un e).a (un e).o (un e).b (un e).p:=rH (k:=3) (beq_iff_eq.mp h)
theorem un5(h:((un e).tag==5)=true){u:UnaryOp}(hu:(un e).u=u):e=.UnaryOp u (un e).a (un e).p:=hu▸rH (k:=4) (beq_iff_eq.mp h)
theorem un6(h:((un e).tag==6)=true){cs:List CmpOp}{l:List Expr}(hc:(un e).cs=cs)(hl:(un e).l=l):e=.Compare (un e).a cs l (un e).p:=hc▸hl▸rH (k:=5) (beq_iff_eq.mp h)
theorem un7(h:((un e).tag==7)=true){b:BoolOp}{l:List Expr}(hb:(un e).bo=b)(hl:(un e).l=l):e=.BoolOp b l (un e).p:=hb▸hl▸rH (k:=6) (beq_iff_eq.mp h)
theorem un8(h:((un e).tag==8)=true):e=.IfExp (un e).a (un e).b (un e).c (un e).p:=rH (k:=7) (beq_iff_eq.mp h)
theorem un9(h:((un e).tag==9)=true):e=.Subscript (un e).a (un e).b (un e).p:=rH (k:=8) (beq_iff_eq.mp h)
theorem kR1(h:((un e).tag==10)=true):e=.Slice (un e).oa (un e).ob (un e).oc (un e).p:=rH (k:=9) (beq_iff_eq.mp h)
theorem jT1(h:((un e).tag==11)=true):e=.ListComp (un e).a (un e).g (un e).sc (un e).p:=rH (k:=10) (beq_iff_eq.mp h)
theorem jS1(h:((un e).tag==12)=true):e=.Call (un e).a (un e).l (un e).ks (un e).p:=rH (k:=11) (beq_iff_eq.mp h)
theorem kQ1(h:((un e).tag==13)=true):e=.Attribute (un e).a (un e).s (un e).p:=rH (k:=12) (beq_iff_eq.mp h)
theorem jR1(h:((un e).tag==14)=true):e=.Constant (un e).v (un e).n (un e).p:=rH (k:=13) (beq_iff_eq.mp h)
theorem kP1(h:((un e).tag==4)=true){o:Operator}(ho:o=(un e).o):e=.BinOp (un e).a o (un e).b (un e).p:=ho▸un4 h
structure CallM (e:Expr) (n:Str):Prop where
 q:e=.Call (.Attribute (un (un e).a).a n (un (un e).a).p) (un e).l [] (un e).p
 s:b9 (un (un e).a).a=true
 n:aP (un e).l=true
 l:(un e).l.length<29
 p:((un (un e).a).p.endLine==(un e).p.line)=true
theorem ju{n:Str}(h:mu (un e) n (un (un e).a)=true):CallM e n :=
 have h7:=ao h
 have h6:=ao h7.1
 have h5:=ao h6.1
 have h4:=ao h5.1
 have h3:=ao h4.1
 have h2:=ao h3.1
 have h1:=ao h2.1
 ⟨(l8 h7.2▸jS1 h1.1).trans (congrArg (λz=>Expr.Call z (un e).l [] (un e).p) (beq_iff_eq.mp h2.2▸kQ1 h1.2)),h3.2,h4.2,of_decide_eq_true h5.2,h6.2⟩
structure CallN (C:Cx) (e:Expr) (n:Str):Prop where
 q:e=.Call (.Name n (un (un e).a).p) (un e).l [] (un e).p
 k:C.kind n=some .globalImplicit
 d:(n==("__debug__":Str))=false
 n:aP (un e).l=true
theorem mr{n:Str}(h:ub C (un e) n (un (un e).a)=true):CallN C e n :=
 have h5:=ao h
 have h4:=ao h5.1
 have h3:=ao h4.1
 have h2:=ao h3.1
 have h1:=ao h2.1
 have hn:=beq_iff_eq.mp h2.2
 have g:=bS h3.2
 ⟨(l8 h5.2▸jS1 h1.1).trans (congrArg (λz=>Expr.Call z (un e).l [] (un e).p) (hn▸un1 h1.2)),hn▸g.2.1,hn▸g.2.2,h4.2⟩
theorem zj{o:Option Str}(h:wJ o (un e) (un (un e).a)=true):∃ n,o=some n/\CallM e n:=by
 cases o with
 | none=>exact ftr h
 | some n=>exact⟨n,rfl,ju h⟩
theorem ze{o:Option Str}(h:ww C o (un e) (un (un e).a)=true):∃ n,o=some n/\CallN C e n:=by
 cases o with
 | none=>exact ftr h
 | some n=>exact⟨n,rfl,mr h⟩
end
theorem en1{v:V}:SE G A T F (.cst v):=λC e hm env W σ η u σ' he=>mM (Q:=Ev G A C env W e σ η) he <| Ev.of_eq (jR1 (ao hm).1) (by
 have hm:=(ao hm).2
 cases v with
 | none=>exact(of_decide_eq_true hm)▸(Ev.none_)
 | bool b=>exact(of_decide_eq_true hm)▸(Ev.bool_)
 | int i=>exact(of_decide_eq_true hm)▸(Ev.int_)
 | str l =>
  refine(of_decide_eq_true (ao hm).1)▸?_
  exact Ev.str_ (x:=⟨l.toArray⟩) (of_decide_eq_true (ao hm).2)
 | _=>exact ftr hm)
theorem em1(K:Ok G A T F){l:List Nat}:SE G A T F (.glo l):=λC e hm env W σ η u σ' he =>
 have h2:=ao hm
 have h1:=ao h2.1
 have g:=bS h2.2
 have q:=K.gs _ _ (beq_iff_eq.mp h1.2)
 mM (Q:=Ev G A C env W e σ η) he <| Ev.of_eq (un1 h1.1) λρ s R N ht=>q.2.elim λt gl =>
  RE.global R N g.2.1 g.2.2 gl ⟨ρ,Step.refl R,RV.str' q.1 (by simp)⟩
theorem Ev.locN{x:Str}{p:Pos}{y:Var}{i:Nat}{v:V}(hy:y∈C.vars)(hn:y.name=x)(hi:y.slot=i)(hv:η[i]?=some (some v)):Ev G A C env W (.Name x p) σ η v σ:=by
 subst hn;subst hi;exact Ev.loc hy hv
theorem ej1{i:Nat}:SE G A T F (.loc i):=λC e hm env W σ η u σ' he =>
 have h:=ao hm
 Ev.of_eq (un1 h.1) <| (cp h.2).elim λy hy=>j01 he λv hv he=>mM (Q:=Ev G A C env W (.Name (un e).s (un e).p) σ η) he <| Ev.locN hy.1 hy.2.1 hy.2.2 hv
theorem ec1{es:Ex}(h:SS G A T F es):SE G A T F (.tup es):=λC e hm env W σ η u σ' he =>
 wE he λvs σ₁ e1 he=>mM (Q:=Ev G A C env W e σ η) (bg he).2 <| Ev.of_eq (un2 (ao hm).1) (Ev.tup (h _ _ (ao hm).2 _ _ _ _ _ _ e1) (bg he).1)
theorem ei1{es:Ex}(h:SS G A T F es):SE G A T F (.lst es):=λC e hm env W σ η u σ' he =>
 wE he λvs σ₁ e1 he=>mM (Q:=Ev G A C env W e σ η) (bg he).2 <| Ev.of_eq (un3 (ao hm).1) (Ev.lst (h _ _ (ao hm).2 _ _ _ _ _ _ e1) (bg he).1)
theorem eh1{es:Ex}(h:SS G A T F es):SE G A T F (.new es):=λC e hm env W σ η u σ' he =>
 wE he λvs σ₁ e1 he=>mM (Q:=Ev G A C env W e σ η) (bg he).2 <| Ev.of_eq (un3 (ao hm).1) (Ev.new (h _ _ (ao hm).2 _ _ _ _ _ _ e1) (bg he).1)
theorem ep1{op:Operator}{a b:Ex}(ha:SE G A T F a)(hb:SE G A T F b):SE G A T F (.bin op a b):=λC e hm env W σ η u σ' he =>
 have h1:=ao hm
 have h2:=ao h1.1
 have h3:=ao h2.1
 Ev.of_eq (kP1 h3.1 (of_decide_eq_true h3.2)) <| ek he λx σ₁ e1 he=>ek he λy σ₂ e2 he=>uD (Q:=Ev G A C env W _ σ η) he λv e3=>Ev.bin (ha _ _ h2.2 _ _ _ _ _ _ e1) (hb _ _ h1.2 _ _ _ _ _ _ e2) (ud e3)
theorem ao1{a:Ex}(ha:SE G A T F a):SE G A T F (.neg a):=λC e hm env W σ η u σ' he =>
 have h:=ao hm
 have h0:=ao h.1
 Ev.of_eq (un5 h0.1 (of_decide_eq_true h0.2)) <| mZ1 he λi σ₁ e1 he=>mM (Q:=Ev G A C env W _ σ η) he <| Ev.neg (ha _ _ h.2 _ _ _ _ _ _ e1) tp
theorem eg1{a:Ex}(ha:SE G A T F a):SE G A T F (.not a):=λC e hm env W σ η u σ' he =>
 have h:=ao hm
 have h0:=ao h.1
 Ev.of_eq (un5 h0.1 (of_decide_eq_true h0.2)) <| ek he λi σ₁ e1 he=>uD (Q:=Ev G A C env W _ σ η) he λv e3=>Ev.not_ (ha _ _ h.2 _ _ _ _ _ _ e1) e3
structure CmpL (e r:Expr) (T:Tab) (C:Cx) (op:CmpOp) (a b:Ex):Prop where
 q:e=.Compare (un e).a [op] [r] (un e).p
 a:mt T a C (un e).a=true
 b:mt T b C r=true
 n:behindInMarks op r=false
theorem gt1{e:Expr}{op:CmpOp}{a b:Ex}(hm:mt T (.cmp op a b) C e=true):∃ r,CmpL e r T C op a b :=
 have h:=ao hm
 (tn h.2).elim λr hr =>
 have h3:=ao hr.2
 have h2:=ao h3.1
 have h1:=ao h2.1
 ⟨r,un6 h.1 (of_decide_eq_true h1.1) (nj hr.1),h1.2,h2.2,(Bool.not_eq_true' _).mp h3.2⟩
theorem eo1(K:Ok G A T F){op:CmpOp}{a b:Ex}(ha:SE G A T F a)(hb:SE G A T F b):SE G A T F (.cmp op a b):=λC e hm env W σ η u σ' he =>
 (gt1 hm).elim λr h=>Ev.of_eq h.q <| ek he λx σ₁ e1 he=>ek he λy σ₂ e2 he=>uD (Q:=Ev G A C env W _ σ η) he λv e3=>Ev.cmp h.n (ha _ _ h.a _ _ _ _ _ _ e1) (hb _ _ h.b _ _ _ _ _ _ e2) (bw K.hu e3)
structure ChL (e:Expr) (r:Expr×Expr) (T:Tab) (C:Cx) (b8 bY:CmpOp) (a b c:Ex):Prop where
 q:e=.Compare (un e).a [b8,bY] [r.1,r.2] (un e).p
 a:mt T a C (un e).a=true
 b:mt T b C r.1=true
 c:mt T c C r.2=true
 n:lastMarks [b8,bY] [r.1,r.2]=false
theorem kw1{e:Expr}{b8 bY:CmpOp}{a b c:Ex}(hm:mt T (.chain b8 bY a b c) C e=true):∃ r,ChL e r T C b8 bY a b c :=
 have h:=ao hm
 (tn h.2).elim λr hr =>
 have h4:=ao hr.2
 have h3:=ao h4.1
 have h2:=ao h3.1
 have h1:=ao h2.1
 ⟨r,un6 h.1 (of_decide_eq_true h1.1) (vo hr.1),h1.2,h2.2,h3.2,(Bool.not_eq_true' _).mp h4.2⟩
theorem yH(K:Ok G A T F){b8 bY:CmpOp}{a b c:Ex}(ha:SE G A T F a)(hb:SE G A T F b)(hc:SE G A T F c):SE G A T F (.chain b8 bY a b c):=λC e hm env W σ η u σ' he =>
 (kw1 hm).elim λr h=>Ev.of_eq h.q <| ek he λx σ₁ e1 he=>ek he λy σ₂ e2 he=>hF1 he
  (λe3 he=>mM (Q:=Ev G A C env W _ σ η) he <| Ev.chain (v₃:=.none) (σ₄:=[]) h.n (ha _ _ h.a _ _ _ _ _ _ e1) (hb _ _ h.b _ _ _ _ _ _ e2) (bw K.hu e3) nofun nofun λ_=>⟨rfl,rfl⟩)
  (λe3 he=>ek he λz aq e4 he=>uD (Q:=Ev G A C env W _ σ η) he λv e5=>Ev.chain h.n (ha _ _ h.a _ _ _ _ _ _ e1) (hb _ _ h.b _ _ _ _ _ _ e2) (bw K.hu e3) (λ_=>hc _ _ h.c _ _ _ _ _ _ e4) (λ_=>bw K.hu e5) nofun)
structure BoL (e:Expr) (r:Expr×Expr) (T:Tab) (C:Cx) (o:BoolOp) (a b:Ex):Prop where
 q:e=.BoolOp o [r.1,r.2] (un e).p
 a:mt T a C r.1=true
 b:mt T b C r.2=true
theorem hE1{e:Expr}{o:BoolOp}{a b:Ex}(hm:((un e).tag==7&&oB (aj1 (un e).l) λr=>decide ((un e).bo=o)&&mt T a C r.1&&mt T b C r.2)=true):∃ r,BoL e r T C o a b :=
 have h:=ao hm
 (tn h.2).elim λr hr =>
 have h2:=ao hr.2
 have h1:=ao h2.1
 ⟨r,un7 h.1 (of_decide_eq_true h1.1) (vo hr.1),h1.2,h2.2⟩
theorem eq1{a b:Ex}(ha:SE G A T F a)(hb:SE G A T F b):SE G A T F (.and a b):=λC e hm env W σ η u σ' he =>
 (hE1 hm).elim λr h=>Ev.of_eq h.q <| ek he λx σ₁ e1 he=>hG1 he
  (λe2 he=>Ev.and_ (ha _ _ h.a _ _ _ _ _ _ e1) e2 (λ_=>hb _ _ h.b _ _ _ _ _ _ he) nofun)
  (λe2 he=>mM (Q:=Ev G A C env W _ σ η) he <| Ev.and_ (ha _ _ h.a _ _ _ _ _ _ e1) e2 nofun λ_=>⟨rfl,rfl⟩)
theorem il1{a b:Ex}(ha:SE G A T F a)(hb:SE G A T F b):SE G A T F (.or a b):=λC e hm env W σ η u σ' he =>
 (hE1 hm).elim λr h=>Ev.of_eq h.q <| ek he λx σ₁ e1 he=>hF1 he
  (λe2 he=>Ev.or_ (ha _ _ h.a _ _ _ _ _ _ e1) e2 (λ_=>hb _ _ h.b _ _ _ _ _ _ he) nofun)
  (λe2 he=>mM (Q:=Ev G A C env W _ σ η) he <| Ev.or_ (ha _ _ h.a _ _ _ _ _ _ e1) e2 nofun λ_=>⟨rfl,rfl⟩)
theorem dp{c:Ex}{b:Bool}{v:V}(h:evx F c σ η=some (v,σ'))(ht:aW v=some b):evt F c σ η=some (b,σ'):=by
 unfold evt;rw[h];dsimp only;rw[ht];rfl
theorem ek1{c a b:Ex}(hc:ST G A T F c)(ha:SE G A T F a)(hb:SE G A T F b):SE G A T F (.ite c a b):=λC e hm env W σ η u σ' he =>
 have h3:=ao hm
 have h2:=ao h3.1
 have h1:=ao h2.1
 Ev.of_eq (un8 h1.1) <| ek he λx σ₁ e1 he=>hG1 he
  (λe2 he=>Ev.ifexp (hc _ _ h1.2 _ _ _ _ true σ₁ (dp e1 e2)) (λ_=>ha _ _ h2.2 _ _ _ _ _ _ he) nofun)
  (λe2 he=>Ev.ifexp (hc _ _ h1.2 _ _ _ _ false σ₁ (dp e1 e2)) nofun (λ_=>hb _ _ h3.2 _ _ _ _ _ _ he))
theorem el1{a b:Ex}(ha:SE G A T F a)(hb:SE G A T F b):SE G A T F (.idx a b):=λC e hm env W σ η u σ' he =>
 have h2:=ao hm
 have h1:=ao h2.1
 Ev.of_eq (un9 h1.1) <| ek he λx σ₁ e1 he=>ek he λy σ₂ e2 he=>uD (Q:=Ev G A C env W _ σ η) he λv e3=>Ev.idx (ha _ _ h1.2 _ _ _ _ _ _ e1) (hb _ _ h2.2 _ _ _ _ _ _ e2) e3
theorem w9{x:Ex}(h:tP x=true):x=.nil:=by
 cases x <;> first | rfl | exact ftr h
theorem gB{x:Ex}(hx:SE G A T F x){o:Option Expr}{v:V}(h:hl1 x (λe=>mt T x C e) o=true)(e:evx F x σ η=some (v,σ')):Ep G A C env W o σ η v σ':=by
 cases o with
 | none =>
  cases w9 h
  exact .inl ⟨rfl,(bG1 e).1.symm,(bG1 e).2.symm⟩
 | some w=>exact .inr ⟨w,rfl,hx _ _ (ao h).2 _ _ _ _ _ _ e⟩
theorem ed1{a lo hi st:Ex}(ha:SE G A T F a)(h1:SE G A T F lo)(h2:SE G A T F hi)(h3:SE G A T F st):SE G A T F (.slc a lo hi st):=λC e hm env W σ η u σ' he =>
 have m4:=ao hm
 have m3:=ao m4.1
 have m2:=ao m3.1
 have m1:=ao m2.1
 have m0:=ao m1.1
 Ev.of_eq ((un9 m0.1).trans (congrArg (λz=>Expr.Subscript (un e).a z (un e).p) (kR1 m0.2))) <|
  ek he λx σ₁ e1 he=>ek he λy σ₂ e2 he=>ek he λz aq e3 he=>ek he λw σ₄ e4 he=>uD (Q:=Ev G A C env W _ σ η) he λv e5 =>
   Ev.slice (ha _ _ m1.2 _ _ _ _ _ _ e1) (gB h1 m2.2 e2) (gB h2 m3.2 e3) (gB h3 m4.2 e4) e5
theorem io1(K:Ok G A T F){f:Bf}{a:Ex}(ha:SS G A T F a):SE G A T F (.bf f a):=λC e hm env W σ η u σ' he =>
 have h:=mr (ao hm).1
 Ev.of_eq h.q <| wE he λvs σ₁ e1 he=>uD (Q:=Ev G A C env W _ σ η) he λv e3=>Ev.callB h.k h.d (K.bf f) h.n (ha _ _ (ao hm).2 _ _ _ _ _ _ e1) (jw K.hh e3)
theorem yG(K:Ok G A T F){a:Ex}(ha:SS G A T F a):SE G A T F (.range a):=λC e hm env W σ η u σ' he =>
 have h:=mr (ao hm).1
 Ev.of_eq h.q <| wE he λvs σ₁ e1 he=>uD (Q:=Ev G A C env W _ σ η) he λv e3=>Ev.callT h.k h.d K.rng h.n (ha _ _ (ao hm).2 _ _ _ _ _ _ e1) (m9 e3)
theorem bf1(K:Ok G A T F){a:Ex}(ha:SS G A T F a):SE G A T F (.list a):=λC e hm env W σ η u σ' he =>
 have h:=mr (ao hm).1
 Ev.of_eq h.q <| wE he λvs σ₁ e1 he=>uD (Q:=Ev G A C env W _ σ η) he λv e3=>Ev.callT h.k h.d K.lst h.n (ha _ _ (ao hm).2 _ _ _ _ _ _ e1) (pV K.hh e3)
theorem Me.mt(f:Me)(hf:f≠.replace):Mt f.T (Str.ofString f.name) f.id:=by
 cases f with
 | join=>exact fF
 | replace=>exact absurd rfl hf
 | split=>exact rY
 | startswith=>exact lM
 | endswith=>exact pN
 | find3=>exact ce1
 | index=>exact zh
 | lstripC=>exact wG
 | count=>exact zi
 | lindex=>exact wH
 | lcount=>exact⟨F.plainAttrs_list,F.slot_list_count,F.type_list_count⟩
theorem im1(K:Ok G A T F){f:Me}{o a:Ex}(ho:SE G A T F o)(ha:SS G A T F a):SE G A T F (.me f o a):=λC e hm env W σ η u σ' he =>
 have h3:=ao hm
 have h2:=ao h3.1
 have h1:=ao h2.1
 have h:=ju h1.1
 have h0:=of_decide_eq_true h1.2
 Ev.of_eq h.q <| ek he λx σ₁ e1 he=>wE (bg he).2 λvs σ₂ e2 he'=>uD (Q:=Ev G A C env W _ σ η) he' λv e3 =>
  Ev.meth (Me.mt f h0) h.s h.n h.l h.p (ho _ _ h2.2 _ _ _ _ _ _ e1) (bg he).1 (ha _ _ h3.2 _ _ _ _ _ _ e2) (wI K.hh h0 e3)
theorem bh1(K:Ok G A T F){f:Nat}{a:Ex}(ha:SS G A T F a):SE G A T F (.call f a):=λC e hm env W σ η u σ' he =>
 (ze (ao hm).1).elim λn h=>Ev.of_eq h.2.q <| wE he λvs σ₁ e1 he=>K.call f _ h.1 h.2.k h.2.d h.2.n (ha _ _ (ao hm).2 _ _ _ _ _ _ e1) he
theorem be1(K:Ok G A T F){f:Nat}{o a:Ex}(ho:SE G A T F o)(ha:SS G A T F a):SE G A T F (.meth f o a):=λC e hm env W σ η u σ' he =>
 have h2:=ao hm
 have h1:=ao h2.1
 (zj h1.1).elim λn h=>Ev.of_eq h.2.q <| hg1 he λk σ₁ e1 he=>m91 he λl i hσ he=>wE he λvs σ₂ e2 he =>
  K.meth f _ h.1 h.2.s h.2.n h.2.l h.2.p (ho _ _ h1.2 _ _ _ _ _ _ e1) hσ (ha _ _ h2.2 _ _ _ _ _ _ e2) he
theorem ke{k:Nat}{l:List V}(h:σ[k]?=some ⟨l,none⟩):mU σ (.ref k)=some "list":=by
 have:der σ (.ref k)=.lst l:=by unfold der;dsimp only;rw[h]
 unfold mU;rw[this]
theorem kx{a:Expr}(h:aP [a]=true):gD a=true:=by
 dsimp only[aP] at h
 exact(Bool.and_eq_true_iff.mp h).1
theorem fh1{e:Expr}{n:Str}{o y:Ex}(hm:(mu (un e) n (un (un e).a)&&mt T o C (un (un e).a).a&&oB (lI (un e).l) λr=>mt T y C r)=true) :
  ∃ r,(e=.Call (.Attribute (un (un e).a).a n (un (un e).a).p) [r] [] (un e).p/\aP [r]=true)/\CallM e n/\mt T o C (un (un e).a).a=true/\mt T y C r=true :=
 have h2:=ao hm
 have h1:=ao h2.1
 have h:=ju h1.1
 (tn h2.2).elim λr hr=>⟨r,nj hr.1▸⟨h.q,h.n⟩,h,h1.2,hr.2⟩
theorem vN{o y:Ex}(ho:SE G A T F o)(hy:SE G A T F y):SE G A T F (.append o y):=λC e hm env W σ η u σ' he =>
 (fh1 hm).elim λr ⟨h,hc,h1,h2⟩=>Ev.of_eq h.1 <| hg1 he λk σ₁ e1 he=>hI1 he λl hσ he=>ek he λv σ₂ e2 he=>hI1 he λuE fR1 he =>
  mM (Q:=Ev G A C env W _ σ η) (bg he).2 <| Ev.meth nq hc.s h.2 (show 1<29 by decide) hc.p (ho _ _ h1 _ _ _ _ _ _ e1) (ke hσ) (Evs.cons (kx h.2) (hy _ _ h2 _ _ _ _ _ _ e2) Evs.nil) (oF fR1 (bg he).1)
theorem mK1{β:Type}{P:Prop}{o:Option V}{k:V->Option β}{r:β}(h:(match o with | some x=>k x | none=>none)=some r)(q:∀ x,o=some x->k x=some r->P):P:=by
 cases o with
 | none=>exact nso h
 | some a=>exact q a rfl h
theorem cl1{l:List V}{v:V}(h:l.getLast?=some v):l=l.dropLast++[v]:=by
 have hne:l≠[]:=by rintro rfl;exact nso h
 have:=List.dropLast_concat_getLast hne
 rw[List.getLast?_eq_some_getLast hne] at h
 obtain rfl:=siX h
 exact this.symm
theorem ef1{o:Ex}(ho:SE G A T F o):SE G A T F (.pop o):=λC e hm env W σ η u σ' he =>
 have h2:=ao hm
 have h1:=ao h2.1
 have h:=ju h1.1
 Ev.of_eq (l8 h2.2▸h.q) <| hg1 he λk σ₁ e1 he=>hI1 he λl hσ he=>mK1 he λv hv he =>
  mM (Q:=Ev G A C env W _ σ η) he <| Ev.meth cd1 h.s rfl (by decide) h.p (ho _ _ h1.2 _ _ _ _ _ _ e1) (ke hσ) Evs.nil (tD (l:=l.dropLast) (by exact(cl1 hv)▸(hσ)))
theorem yF{o y:Ex}(ho:SE G A T F o)(hy:SE G A T F y):SE G A T F (.split o y):=λC e hm env W σ η u σ' he =>
 (fh1 hm).elim λr ⟨h,hc,h1,h2⟩=>Ev.of_eq h.1 <| ij1 he λx σ₁ e1 he=>ij1 he λz σ₂ e2 he =>
  have hq:=(bg he).1
  mM (Q:=Ev G A C env W _ σ η) (bg he).2 <| Ev.meth rY hc.s h.2 (show 1<29 by decide) hc.p (ho _ _ h1 _ _ _ _ _ _ e1) rfl (Evs.cons (kx h.2) (hy _ _ h2 _ _ _ _ _ _ e2) Evs.nil)
   (ph hq.1 hq.2.1 λw hw=>of_decide_eq_true (List.all_eq_true.mp hq.2.2 w hw))
theorem d41:SS G A T F .nil:=λC l hm env W σ η u σ' he=>by
 cases l8 hm
 exact mM (Q:=Evs G A C env W [] σ η) he Evs.nil
theorem bb1{a b:Ex}(ha:SE G A T F a)(hb:SS G A T F b):SS G A T F (.cons a b):=λC l hm env W σ η u σ' he=>by
 cases l with
 | nil=>exact ftr hm
 | cons x l =>
  have h2:=ao hm
  have h1:=ao h2.1
  exact ek he λv σ₁ e1 he=>wE he λvs σ₂ e2 he=>mM (Q:=Evs G A C env W _ σ η) he (Evs.cons h1.2 (ha _ _ h1.1 _ _ _ _ _ _ e1) (hb _ _ h2.2 _ _ _ _ _ _ e2))
end
section
variable {x:Str} {i:Nat} {G:Wd} {A:Around} {C C':Cx} {env cenv:Env} {W W':List Addr} {η η' η₁ η₂ bj:ac} {σ σ' σ₁ σ₂ aq:List AO} {T:Tab} {F:Fn}
theorem rW:∀ {is:List Nat} {xs:List Expr},mtI C is xs=true->∃ vars,Names C xs vars/\is=vars.map (·.slot):=by
 intro is
 induction is with
 | nil =>
  intro xs h
  cases l8 h
  exact⟨[],rfl,rfl⟩
 | cons i is ih =>
  intro xs h
  cases xs with
  | nil=>exact ftr h
  | cons e xs' =>
   have h2:=ao h
   have h1:=ao h2.1
   exact(bv h1.2).elim λy hy=>(ih h2.2).elim λvars hv =>
    ⟨y::vars,⟨y,vars,(un e).p,rfl,hy.2.1.symm▸un1 h1.1,hy.1,hy.2.2.2,hv.1⟩,congr (congrArg List.cons hy.2.2.1.symm) hv.2⟩
theorem lA:∀ (xs:List Var) (vs:List V) (η:ac),yE η (xs.map (·.slot)) vs=kl η xs vs
 | [],_,_=>rfl
 | _::_,[],_=>rfl
 | x::xs,v::vs,η=>by
  show yE (η.set x.slot (some v)) (xs.map (·.slot)) vs=kl (η.set x.slot (some v)) xs vs
  exact lA xs vs _
theorem As.nameN(hn:∃ y∈C.vars,y.name=x/\y.slot=i/\y.own=true){p:Pos}{v:V}:As G A C env W (.Name x p) v η (η.set i (some v)):=by
 obtain ⟨y,h_p⟩:=hn;have hy:=h_p.1;obtain rfl:=h_p.2.1;obtain rfl:=h_p.2.2.1;have ho:=h_p.2.2.2
 exact As.name hy ho
theorem de1{es:Ex}{is:List Nat}(hs:iN es=some is){v:V}(h:asF (.tup es) v η=some η'):∃ vs,v=.tup vs/\vs.length=is.length/\η'=yE η is vs:=by
 cases v <;> first | (exact nso h;done) | skip
 rename_i vs
 replace h:(match iN es with
   | some is=>if vs.length=is.length then some (yE η is vs) else none
   | none=>none)=some η':=h
 replace h:=(hs)▸h
 have h:=bg h
 exact⟨vs,rfl,h.1,(siX h.2).symm⟩
theorem jz(hh:A.handled=none){tg:Ex}{t:Expr}(hm:mtg C tg t=true){v:V}(h:asF tg v η=some η')(env:Env)(W:List Addr):As G A C env W t v η η':=by
 cases tg <;> first | (exact ftr hm;done) | skip
 ·have hm:=ao hm
  rw[un1 hm.1]
  obtain rfl:=siX h
  exact As.nameN (bv hm.2)
 ·have hm:=ao hm
  refine aQ (tn hm.2) λis hs hm2=>?_
  obtain ⟨vs,rfl,hl,rfl⟩:=de1 hs h
  obtain ⟨vars,hn,rfl⟩:=rW hm2
  rw[lA,un2 hm.1]
  exact As.tup hh hn (by simpa using hl)
theorem jZ1{β:Type}{P:Prop}{o:Option (Option (V×ItS))}{ja:Option β}{k:V->ItS->Option β}{r:β}(h:(match o with | none=>none | some none=>ja | some (some (x,st))=>k x st)=some r)(lF:o=some none->ja=some r->P)(mL:∀ x st,o=some (some (x,st))->k x st=some r->P):P:=by
 cases o with
 | none=>exact nso h
 | some o=>cases o with
  | none=>exact lF rfl h
  | some a=>exact mL a.1 a.2 rfl h
theorem kc1{β:Type}{P:Prop}{o:Option ac}{k:ac->Option β}{r:β}(h:(match o with | none=>none | some x=>k x)=some r)(q:∀ x,o=some x->k x=some r->P):P:=by
 cases o with
 | none=>exact nso h
 | some a=>exact q a rfl h
theorem lq1{β:Type}{P:Prop}{o:Option (V×List AO)}{k:V->List AO->Option β}{r:β}(h:(match o with | none=>none | some (x,σ)=>k x σ)=some r)(q:∀ x σ,o=some (x,σ)->k x σ=some r->P):P:=by
 cases o with
 | none=>exact nso h
 | some a=>exact q a.1 a.2 rfl h
theorem ls1{β:Type}{P:Prop}{o:Option (List V×List AO)}{k:List V->List AO->Option β}{r:β}(h:(match o with | none=>none | some (x,σ)=>k x σ)=some r)(q:∀ x σ,o=some (x,σ)->k x σ=some r->P):P:=by
 cases o with
 | none=>exact nso h
 | some a=>exact q a.1 a.2 rfl h
theorem lv1{β:Type}{P:Prop}{o:Option (Bool×List AO)}{ja lP:List AO->Option β}{r:β}(h:(match o with | none=>none | some (false,σ)=>ja σ | some (true,σ)=>lP σ)=some r)(lF:∀ σ,o=some (false,σ)->ja σ=some r->P)(mL:∀ σ,o=some (true,σ)->lP σ=some r->P):P:=by
 cases o with
 | none=>exact nso h
 | some a =>
  obtain ⟨b,c⟩:=a
  cases b
  ·exact lF c rfl h
  ·exact mL c rfl h
theorem qC{tg:Ex}{t el:Expr}{ifs:List Expr}{cond:List AO->ac->Option (Bool×List AO)}{ee:List AO->ac->Option (V×List AO)}(hh:A.handled=none)(hm:mtg C tg t=true)
  (hc:∀ env W σ η b σ',cond σ η=some (b,σ')->Tc G A C env W ifs σ η b σ') (he:∀ env W σ η v σ',ee σ η=some (v,σ')->Ev G A C env W el σ η v σ') :
  ∀ (n:Nat) (st:ItS) (σ:List AO) (η:ac) (out:List V) (σ':List AO),cW tg cond ee n st σ η=some (out,σ')->∃ m,∀ env W,CoR G A C env W t el ifs m st σ η out σ':=by
 intro n
 induction n with
 | zero=>intro _ _ _ _ _ h;exact nso h
 | succ n ih =>
  intro st σ η out σ' h
  exact jZ1 h (λhst h=>⟨0,λ_ _=>mM (Q:=CoR G A C _ _ t el ifs 0 st σ η) h (.stop hst)⟩) λx st' hst h=>kc1 h λη₁ ha h=>lv1 h
   (λσ₁ e1 h=>(ih _ _ _ _ _ h).elim λm hr=>⟨m+1,λenv W=>.skip hst (jz hh hm ha env W) (hc env W _ _ _ _ e1) (hr env W)⟩)
   λσ₁ e1 h=>lq1 h λv σ₂ e2 h=>ls1 h λout' aq e3 h=>(ih _ _ _ _ _ e3).elim λm hr =>
    ⟨m+1,λenv W=>mM (Q:=CoR G A C _ _ t el ifs (m+1) st σ η) h (.item hst (jz hh hm ha env W) (hc env W _ _ _ _ e1) (he env W _ _ _ _ e2) (hr env W))⟩
noncomputable def cW1(F:Fn)(cond:Ex)(σ:List AO)(η:ac):Option (Bool×List AO) :=
 match cond with
 | .nil=>some (true,σ)
 | c=>match evx F cond σ η with
  | some (y,σ')=>(aW y).map λb=>(b,σ')
  | none=>none
theorem zQ{cond:Ex}(h:tP cond=false):cW1 F cond σ η=evt F cond σ η:=by
 cases cond <;> first | rfl | exact trf h
theorem qA{cond:Ex}(hc:ST G A T F cond){ifs:List Expr}(hm:gr1 cond (λe=>mt T cond C e) ifs=true){b:Bool}(h:cW1 F cond σ η=some (b,σ')):Tc G A C env W ifs σ η b σ':=by
 cases ifs with
 | nil =>
  cases w9 hm
  exact .inl ⟨rfl,(bG1 h).1.symm,(bG1 h).2.symm⟩
 | cons e l =>
  have h2:=ao hm
  have h1:=ao h2.1
  refine(l8 h2.2)▸?_
  exact .inr ⟨e,rfl,hc _ _ h1.2 _ _ _ _ _ _ ((zQ ((Bool.not_eq_true' _).mp h1.1)).symm.trans h)⟩
structure CompR (G:Wd) (A:Around) (C:Cx) (env:Env) (W:List Addr) (el t i:Expr) (ifs:List Expr) (scope:Scope) (vars:List Var) (σ:List AO) (η:ac) (out:List V) (σ':List AO):Prop where
 ex:∃ n v st σ₁,CompOk C vars scope/\g9 i=true/\Ev G A C env W i σ η v σ₁/\bh v=some st/\(∀ cenv W',CoR G A ⟨vars,aM scope C⟩ cenv W' t el ifs n st σ₁ (clr η vars) out σ')/\out.length<=lim
theorem gs1{g:Comprehension}(h:g.is_async=0):g=⟨g.target,g.iter,g.ifs,0⟩:=by
 cases g;subst h;rfl
theorem kp1{β:Type}{P:Prop}{o:Option ItS}{k:ItS->Option β}{r:β}(h:(match o with | some x=>k x | none=>none)=some r)(q:∀ x,o=some x->k x=some r->P):P:=by
 cases o with
 | none=>exact nso h
 | some a=>exact q a rfl h
theorem kI(K:Ok G A T F){vars:List Var}{tg elt it cond:Ex}(he:SE G A T F elt)(hi:SE G A T F it)(hc:ST G A T F cond){e:Expr}(hm:mt T (.comp vars tg elt it cond) C e=true){u:V}(h:evx F (.comp vars tg elt it cond) σ η=some (u,σ')) :
  ∃ el t i ifs scope pos out,e=.ListComp el [⟨t,i,ifs,0⟩] scope pos/\u=.lst out/\CompR G A C env W el t i ifs scope vars σ η out σ' :=
 have h0:=ao hm
 (tn h0.2).elim λg hg =>
 have h6:=ao hg.2
 have h5:=ao h6.1
 have h4:=ao h5.1
 have h3:=ao h4.1
 have h2:=ao h3.1
 have h1:=ao h2.1
 ek h λx σ₁ e1 h=>kp1 h λst hst h=>wE h λout σ₂ e2 h =>
 (qC (C:=⟨vars,aM (un e).sc C⟩) (ee:=λσ η=>evx F elt σ η) (cond:=cW1 F cond) K.hh h2.2 (λenv W σ η b σ' hq=>qA hc h6.2 hq) (λenv W σ η v σ' hq=>he _ _ h3.2 _ _ _ _ _ _ hq) _ _ _ _ _ _ e2).elim λm hr =>
 have hp:=bG1 (bg h).2
 ⟨_,g.target,g.iter,g.ifs,_,_,out,(jT1 h0.1).trans (by rw[nj hg.1,← gs1 (of_decide_eq_true h1.1)]),hp.1.symm,⟨m,x,st,σ₁,qB h1.2,h5.2,hi _ _ h4.2 _ _ _ _ _ _ e1,hst,hp.2▸hr,(bg h).1⟩⟩
theorem bg1(K:Ok G A T F){vars:List Var}{tg elt it cond:Ex}(he:SE G A T F elt)(hi:SE G A T F it)(hc:ST G A T F cond):SE G A T F (.comp vars tg elt it cond):=by
 intro C e hm env W σ η u σ' h
 refine byQ λQ kQ=>?_
 obtain ⟨el,t,i,ifs,scope,pos,out,rfl,rfl,⟨n,v,st,σ₁,K1,h1,h2,h3,h4,h5⟩⟩:=kI (env:=env) (W:=W) K he hi hc hm h
 refine kQ ?_
 exact Ev.comp K.hh K1 h1 h2 h3 h4 h5
end
section
variable {G:Wd} {A:Around} {C C':Cx} {env cenv:Env} {W W':List Addr} {η η' η₁ η₂ bj:ac} {σ σ' σ₁ σ₂ aq:List AO} {T:Tab} {F:Fn}
theorem kH{y:List Nat}{a:Expr}(h:lX (.str y) a=true):a=.Constant (.str ⟨y.toArray⟩) (un a).n (un a).p/\y.length<=lim :=
 have h0:=ao h
 have h1:=ao h0.2
 ⟨(of_decide_eq_true h1.1)▸jR1 h0.1,of_decide_eq_true h1.2⟩
theorem pO{x y z:List Nat}:meF .replace σ (.str x) [.str y,.str z]=if y=z then none else if x.length+(x.length+1)*z.length<=16000000/\(Txt.replace (S' x) (S' y) (S' z)).cps.toList.length<=lim then some (.str (Txt.replace (S' x) (S' y) (S' z)).cps.toList) else none:=rfl
theorem ee1(K:Ok G A T F){o:Ex}{y z:List Nat}(ho:SE G A T F o):SE G A T F (.rep o y z):=by
 intro C e hm env W σ η u σ' he
 have h2:=ao hm
 have h1:=ao h2.1
 have h:=ju h1.1
 refine a4 (tn h2.2) λr h_p=>?_;have hr:=h_p.1;have h5:=h_p.2
 have hy:=kH (ao h5).1
 have hz:=kH (ao h5).2
 have hc:=h.q
 have hn:=h.n
 rw[vo hr,hy.1,hz.1] at hc hn
 refine Ev.of_eq hc (ij1 he λl σ₁ e1 he=>uD (Q:=Ev G A C env W _ σ η) he λw e3=>?_)
 rw[pO] at e3
 by_cases hyz:y=z
 ·replace e3:=(if_pos hyz)▸e3;exact nso e3
 ·rw[if_neg hyz] at e3
  have hb:=(bg e3).1
  rw[← siX (bg e3).2]
  intro ρ s R N ht
  refine wpAny_Call_method_lateS (e9 h.s _) ?_ h.p ?_
  ·rw[eA hn];rfl
  ·refine(ho _ _ h1.2 _ _ _ _ _ _ e1).use R N ht λbz au aa am aR aS aA=>?_
   have hT:=iH (T:="str") rfl am.rel aA
   refine fv1 ("str") ("str.replace") gE.attrs gE.slot gE.ty hT.1 hT.2 ?_
   refine callWith_builtin (bK hn) (bU hn ?_)
   rw[bb rfl]
   refine spliced_cons (Constant_str (k:=(un r.1).n) (pos:=(un r.1).p) ?_)
   rw[bb rfl]
   refine spliced_cons (Constant_str (k:=(un r.2).n) (pos:=(un r.2).p) (spliced_nil ?_))
   obtain ⟨_,t,rfl⟩:=RV.str_iff aA
   have aB:=Step.toks am.rel (au.toks+1+1)
   exact wpAny_mono (lD (A:=A) (u:=au.toks) (v:=au.toks+1) (t:=t) (Nat.ne_of_gt aS) (Nat.succ_ne_zero _) (Nat.ne_of_lt (Nat.lt_succ_self _)) hyz hb.1 hb.2 aB.rel) ((by rintro cv s' ⟨ρ',bP,gn⟩;exact⟨ρ',am.trans (aB.trans bP),gn⟩)) λ_ _ f=>f.elim
theorem dU{c:Ex}{b:Bool}(h:evt F c σ η=some (b,σ')):∃ v,evx F c σ η=some (v,σ')/\aW v=some b :=
 ek h λv σ₁ e1 he=>uD (Q:=λb σ'=>∃ v,evx F c σ η=some (v,σ')/\aW v=some b) he λw e3=>⟨v,e1,e3⟩
theorem iz{x:Ex}(h:SE G A T F x)(hp:∀ C e,mt T x C e=true->dd e=true):ST G A T F x:=λC e hm env W σ η b σ' he =>
 (dU he).elim λv hv=>Et.plain (hp _ _ hm) (h _ _ hm _ _ _ _ _ _ hv.1) hv.2
theorem d21(K:Ok G A T F){op:CmpOp}{a b:Ex}(ha:SE G A T F a)(hb:SE G A T F b):ST G A T F (.cmp op a b):=λC e hm env W σ η k σ' he =>
 (dU he).elim λv ⟨he,hv⟩=>(gt1 hm).elim λr h=>Et.of_eq h.q <| ek he λx σ₁ e1 he=>ek he λy σ₂ e2 he=>by
  refine aQ (iK1 he) λw e3 e4=>?_
  cases e4;obtain rfl:=siX hv
  exact Et.cmp h.n (ha _ _ h.a _ _ _ _ _ _ e1) (hb _ _ h.b _ _ _ _ _ _ e2) (bw K.hu e3)
theorem yB(K:Ok G A T F){b8 bY:CmpOp}{a b c:Ex}(ha:SE G A T F a)(hb:SE G A T F b)(hc:SE G A T F c):ST G A T F (.chain b8 bY a b c):=λC e hm env W σ η k σ' he =>
 (dU he).elim λv ⟨he,hv⟩=>(kw1 hm).elim λr h=>Et.of_eq h.q <| ek he λx σ₁ e1 he=>ek he λy σ₂ e2 he=>hF1 he
  (λe3 he=>by
   refine byQ λQ kQ=>?_
   obtain ⟨rfl,rfl⟩:=sm2 he;obtain rfl:=siX hv
   refine kQ ?_
   exact Et.chain (v₃:=.none) (σ₄:=[]) h.n (ha _ _ h.a _ _ _ _ _ _ e1) (hb _ _ h.b _ _ _ _ _ _ e2) (bw K.hu e3) nofun nofun λ_=>⟨rfl,rfl⟩)
  (λe3 he=>ek he λz aq e4 he=>by
   refine aQ (iK1 he) λw e5 e6=>?_
   cases e6;obtain rfl:=siX hv
   exact Et.chain h.n (ha _ _ h.a _ _ _ _ _ _ e1) (hb _ _ h.b _ _ _ _ _ _ e2) (bw K.hu e3) (λ_=>hc _ _ h.c _ _ _ _ _ _ e4) (λ_=>bw K.hu e5) nofun)
theorem d01{a:Ex}(ha:ST G A T F a):ST G A T F (.not a):=λC e hm env W σ η k σ' he =>
 have h:=ao hm
 have h0:=ao h.1
 (dU he).elim λv ⟨he,hv⟩=>Et.of_eq (un5 h0.1 (of_decide_eq_true h0.2)) <| ek he λx σ₁ e1 he=>by
  refine aQ (iK1 he) λw e3 e4=>?_
  cases e4;obtain rfl:=siX hv
  exact Et.not_ (ha _ _ h.2 _ _ _ _ _ _ (dp e1 e3))
theorem d31{a b:Ex}(ha:ST G A T F a)(hb:ST G A T F b):ST G A T F (.and a b):=λC e hm env W σ η k σ' he =>
 (dU he).elim λv ⟨he,hv⟩=>(hE1 hm).elim λr h=>Et.of_eq h.q <| ek he λx σ₁ e1 he=>hG1 he
  (λe2 he=>Et.and_ (ha _ _ h.a _ _ _ _ _ _ (dp e1 e2)) (λ_=>hb _ _ h.b _ _ _ _ _ _ (dp he hv)) nofun)
  (λe2 he=>by
   obtain ⟨rfl,rfl⟩:=sm2 he
   rw[e2] at hv;obtain rfl:=siX hv
   exact Et.and_ (ha _ _ h.a _ _ _ _ _ _ (dp e1 e2)) nofun λ_=>⟨rfl,rfl⟩)
theorem ii1{a b:Ex}(ha:ST G A T F a)(hb:ST G A T F b):ST G A T F (.or a b):=λC e hm env W σ η k σ' he =>
 (dU he).elim λv ⟨he,hv⟩=>(hE1 hm).elim λr h=>Et.of_eq h.q <| ek he λx σ₁ e1 he=>hF1 he
  (λe2 he=>Et.or_ (ha _ _ h.a _ _ _ _ _ _ (dp e1 e2)) (λ_=>hb _ _ h.b _ _ _ _ _ _ (dp he hv)) nofun)
  (λe2 he=>by
   obtain ⟨rfl,rfl⟩:=sm2 he
   rw[e2] at hv;obtain rfl:=siX hv
   exact Et.or_ (ha _ _ h.a _ _ _ _ _ _ (dp e1 e2)) nofun λ_=>⟨rfl,rfl⟩)
theorem d11{c a b:Ex}(hc:ST G A T F c)(ha:ST G A T F a)(hb:ST G A T F b):ST G A T F (.ite c a b):=λC e hm env W σ η k σ' he =>
 have h3:=ao hm
 have h2:=ao h3.1
 have h1:=ao h2.1
 (dU he).elim λv ⟨he,hv⟩=>Et.of_eq (un8 h1.1) <| ek he λx σ₁ e1 he=>hG1 he
  (λe2 he=>Et.ifexp (hc _ _ h1.2 _ _ _ _ true σ₁ (dp e1 e2)) (λ_=>ha _ _ h2.2 _ _ _ _ _ _ (dp he hv)) nofun)
  (λe2 he=>Et.ifexp (hc _ _ h1.2 _ _ _ _ false σ₁ (dp e1 e2)) nofun (λ_=>hb _ _ h3.2 _ _ _ _ _ _ (dp he hv)))
theorem an1:SE G A T F .nil:=λ_ _ h=>nomatch (show false=true from h)
theorem vM{a b:Ex}:SE G A T F (.cons a b):=λ_ _ h=>nomatch (show false=true from h)
structure Snd (G:Wd) (A:Around) (T:Tab) (F:Fn) (x:Ex):Prop where
 e:SE G A T F x
 s:SS G A T F x
 t:ST G A T F x
noncomputable def plT:List Nat:=[1,2,3,4,9,11,12,14]
theorem lb1{e:Expr}{k:Nat}(h:((un e).tag==k)=true)(hk:plT.contains k=true):dd e=true:=by
 have:=beq_iff_eq.mp h
 subst this
 cases e <;> first | rfl | exact ftr hk
noncomputable def iQ1(x:Ex):Bool:=!(x.ctorIdx==3 || x.ctorIdx==4)
theorem az1{x:Ex}(h:iQ1 x=true):SS G A T F x:=by
 intro C l hm
 cases x <;> first | (exact ftr h;done) | exact ftr hm
noncomputable def if1(x:Ex):Nat:=[14,1,1,0,0,2,3,3,4,0,0,0,0,0,0,0,9,9,11,12,12,12,12,12,12,12,12,12,12].getD x.ctorIdx 0
theorem cu{a b:Bool}(h:(a&&b)=true):a=true:=(Bool.and_eq_true_iff.mp h).1
theorem gM{q a:Nd}{n:Str}(h:mu q n a=true):(q.tag==12)=true:=cu (cu (cu (cu (cu (cu (cu h))))))
theorem mq{q a:Nd}{n:Str}(h:ub C q n a=true):(q.tag==12)=true:=cu (cu (cu (cu (cu h))))
theorem lu1{o:Option Str}{q a:Nd}(h:ww C o q a=true):(q.tag==12)=true:=by
 cases o with
 | none=>exact ftr h
 | some n=>exact mq h
theorem mL1{o:Option Str}{q a:Nd}(h:wJ o q a=true):(q.tag==12)=true:=by
 cases o with
 | none=>exact ftr h
 | some n=>exact gM h
theorem ie1{x:Ex}{e:Expr}(h:mt T x C e=true)(hx:plT.contains (if1 x)=true):((un e).tag==if1 x)=true:=by
 cases x with
 | cst v=>exact cu h
 | glo l=>exact cu (cu h)
 | loc i=>exact cu h
 | tup es=>exact cu h
 | lst es=>exact cu h
 | new es=>exact cu h
 | bin op a b=>exact cu (cu (cu h))
 | idx a i=>exact cu (cu h)
 | slc a lo hi st=>exact cu (cu (cu (cu (cu h))))
 | comp vars tg elt it cond=>exact cu h
 | bf f a=>exact mq (cu h)
 | range a=>exact mq (cu h)
 | list a=>exact mq (cu h)
 | me f o a=>exact gM (cu (cu (cu h)))
 | rep o y z=>exact gM (cu (cu h))
 | split o y=>exact gM (cu (cu h))
 | append o y=>exact gM (cu (cu h))
 | pop o=>exact gM (cu (cu h))
 | call f a=>exact lu1 (cu h)
 | meth f o a=>exact mL1 (cu (cu h))
 | _=>exact ftr hx
theorem pt{x:Ex}(h:plT.contains (if1 x)=true)(hl:iQ1 x=true)(he:SE G A T F x):Snd G A T F x :=
 ⟨he,az1 hl,iz he λ_ _ hm=>lb1 (ie1 hm h) h⟩
theorem nt{x:Ex}(hl:iQ1 x=true)(ht:ST G A T F x)(he:SE G A T F x):Snd G A T F x :=
 ⟨he,az1 hl,ht⟩
theorem fn1{a:Ex}{e:Expr}(h:mt T (.neg a) C e=true):dd e=true:=by
 have h:=ao (ao h).1
 refine(un5 h.1 (of_decide_eq_true h.2))▸?_
 rfl
theorem snd(K:Ok G A T F)(x:Ex):Snd G A T F x:=by
 induction x with
 | cst v=>exact pt rfl rfl en1
 | glo l=>exact pt rfl rfl (em1 K)
 | loc i=>exact pt rfl rfl ej1
 | nil=>exact⟨an1,d41,iz an1 λC e hm=>nomatch (show false=true from hm)⟩
 | cons a b ha hb=>exact⟨vM,bb1 ha.e hb.s,iz vM λC e hm=>nomatch (show false=true from hm)⟩
 | tup es h=>exact pt rfl rfl (ec1 h.s)
 | lst es h=>exact pt rfl rfl (ei1 h.s)
 | new es h=>exact pt rfl rfl (eh1 h.s)
 | bin op a b ha hb=>exact pt rfl rfl (ep1 ha.e hb.e)
 | neg a ha=>exact nt rfl (iz (ao1 ha.e) λC e hm=>fn1 hm) (ao1 ha.e)
 | not a ha=>exact nt rfl (d01 ha.t) (eg1 ha.e)
 | cmp op a b ha hb=>exact nt rfl (d21 K ha.e hb.e) (eo1 K ha.e hb.e)
 | chain b8 bY a b c ha hb hc=>exact nt rfl (yB K ha.e hb.e hc.e) (yH K ha.e hb.e hc.e)
 | and a b ha hb=>exact nt rfl (d31 ha.t hb.t) (eq1 ha.e hb.e)
 | or a b ha hb=>exact nt rfl (ii1 ha.t hb.t) (il1 ha.e hb.e)
 | ite c a b hc ha hb=>exact nt rfl (d11 hc.t ha.t hb.t) (ek1 hc.t ha.e hb.e)
 | idx a i ha hi=>exact pt rfl rfl (el1 ha.e hi.e)
 | slc a lo hi st ha h1 h2 h3=>exact pt rfl rfl (ed1 ha.e h1.e h2.e h3.e)
 | comp vars tg elt it cond _ he hi hc=>exact pt rfl rfl (bg1 K he.e hi.e hc.t)
 | bf f a ha=>exact pt rfl rfl (io1 K ha.s)
 | range a ha=>exact pt rfl rfl (yG K ha.s)
 | list a ha=>exact pt rfl rfl (bf1 K ha.s)
 | me f o a ho ha=>exact pt rfl rfl (im1 K ho.e ha.s)
 | rep o y z ho=>exact pt rfl rfl (ee1 K ho.e)
 | split o y ho hy=>exact pt rfl rfl (yF ho.e hy.e)
 | append o y ho hy=>exact pt rfl rfl (vN ho.e hy.e)
 | pop o ho=>exact pt rfl rfl (ef1 ho.e)
 | call f a ha=>exact pt rfl rfl (bh1 K ha.s)
 | meth f o a ho ha=>exact pt rfl rfl (be1 K ho.e ha.s)
end
noncomputable def sd(x:Ex):Bool:=x.ctorIdx==18
noncomputable def dV1(C:Cx)(e:Ex)(x:Str)(p:Pos)(e':Expr):Bool :=
 if (un e').tag==11 then bp (C.kind x) .cell || (sd e&&bp (C.kind x) .local&&p.line==(un e').p.line&&!((un e').sc.names.any λy=>y.1==x&&(y.2==.local || y.2==.cell))) else dM e'
noncomputable def ixE(i:Int):Ex:=if i<0 then .neg (.cst (.int (-i))) else .cst (.int i)
mutual
noncomputable def mst(T:Tab):Sx->Cx->Stmt->Bool
 | .skip,_,_=>false
 | .seq _ _,_,_=>false
 | .asg i e,C,st=>(us st).tag==1&&oB (lI (us st).l) λt=>(un t).tag==1&&f5 C (un t).s i&&mt T e C (us st).a&&dV1 C e (un t).s (un t).p (us st).a
 | .asgM i e,C,st=>(us st).tag==1&&oB (lI (us st).l) λt=>(un t).tag==1&&f5 C (un t).s i&&mt T e C (us st).a&&(un (us st).a).tag==11&&sd e&&bp (C.kind (un t).s) .cell
 | .asgT is e,C,st=>(us st).tag==1&&oB (lI (us st).l) λt=>(un t).tag==2&&mtI C is (un t).l&&mt T e C (us st).a&&dM (us st).a&&(mV C (un t).l (us st).a==some none)
 | .asg2 i j e,C,st=>(us st).tag==1&&oB (lI (us st).l) λt=>(un t).tag==2&&oB (aj1 (un t).l) λr=>(un r.1).tag==1&&(un r.2).tag==1&&f5 C (un r.1).s i&&f5 C (un r.2).s j&&mt T e C (us st).a&&dM (us st).a &&
   (mV C [r.1,r.2] (us st).a==some (some [(un r.1).s,(un r.2).s]))
 | .aug i op e,C,st=>(us st).tag==2&&(un (us st).a).tag==1&&decide ((us st).o=op)&&f5 C (un (us st).a).s i&&mt T e C (us st).b
 | .augL i e,C,st=>(us st).tag==2&&(un (us st).a).tag==1&&decide ((us st).o=.Add)&&f5 C (un (us st).a).s i&&mt T e C (us st).b
 | .expr e,C,st=>(us st).tag==3&&mt T e C (us st).a&&dM (us st).a
 | .ret e,C,st=>(us st).tag==4&&oB (us st).oe λe'=>mt T e C e'
 | .ite c a b,C,st=>(us st).tag==5&&mt T c C (us st).a&&mss T a C (us st).x&&mss T b C (us st).y
 | .whil _ c b,C,st=>(us st).tag==6&&(us st).y.isEmpty&&mt T c C (us st).a&&mss T b C (us st).x
 | .for_ tg it b,C,st=>(us st).tag==7&&(us st).y.isEmpty&&mtg C tg (us st).a&&mt T it C (us st).b&&g9 (us st).b&&mss T b C (us st).x
 | .dead,_,_=>true
 | .brk,_,st=>(us st).tag==10
 | .pass,_,st=>(us st).tag==11
 | .asrt c,C,st=>(us st).tag==8&&(us st).oe.isNone&&mt T c C (us st).a
 | .del o i,C,st=>(us st).tag==9&&oB (lI (us st).l) λt=>(un t).tag==9&&mt T o C (un t).a&&mt T (ixE i) C (un t).b
noncomputable def mss(T:Tab):Sx->Cx->List Stmt->Bool
 | .skip,_,l=>l.isEmpty
 | .seq a b,C,l=>match l with
  | st::rest=>mst T a C st&&mss T b C rest
  | []=>false
 | .asg _ _,_,_=>false
 | .asgM _ _,_,_=>false
 | .asgT _ _,_,_=>false
 | .asg2 _ _ _,_,_=>false
 | .aug _ _ _,_,_=>false
 | .augL _ _,_,_=>false
 | .expr _,_,_=>false
 | .ret _,_,_=>false
 | .ite _ _ _,_,_=>false
 | .whil _ _ _,_,_=>false
 | .for_ _ _ _,_,_=>false
 | .brk,_,_=>false
 | .dead,_,_=>false
 | .pass,_,_=>false
 | .asrt _,_,_=>false
 | .del _ _,_,_=>false
end
section
variable {G:Wd} {A:Around} {C C':Cx} {env cenv:Env} {W W':List Addr} {η η' η₁ η₂ bj:ac} {σ σ' σ₁ σ₂ aq:List AO} {T:Tab} {F:Fn}
noncomputable def QE(G:Wd)(A:Around)(T:Tab)(F:Fn)(x:Sx):Prop:=∀ C st,mst T x C st=true->∀ env W σ η fl σ' η',exs F x σ η=some (fl,σ',η')->Es G A C env W st σ η fl σ' η'
noncomputable def QS(G:Wd)(A:Around)(T:Tab)(F:Fn)(x:Sx):Prop:=∀ C l,mss T x C l=true->∀ env W σ η fl σ' η',exs F x σ η=some (fl,σ',η')->Ess G A C env W l σ η fl σ' η'
theorem gF{o:Option NameKind}{k:NameKind}(h:bp o k=true):o=some k:=by
 revert h;cases o with
 | none=>intro h;exact ftr h
 | some j=>cases j <;> cases k <;> intro h <;> first | rfl | exact ftr h
theorem Es.of_eq{st st':Stmt}{fl:Fl}(h:st=st')(x:Es G A C env W st' σ η fl σ' η'):Es G A C env W st σ η fl σ' η':=by exact(h)▸(x)
section
variable {st:Stmt}
theorem us1(h:((us st).tag==1)=true){t:Expr}(ho:lI (us st).l=some t):st=.Assign [t] (us st).a (us st).p:=(vk (k:=0) (beq_iff_eq.mp h)).trans (congrArg (λl=>Stmt.Assign l _ _) (nj ho))
theorem us2(h:((us st).tag==2)=true){o:Operator}(ho:(us st).o=o):st=.AugAssign (us st).a o (us st).b (us st).p:=ho▸vk (k:=1) (beq_iff_eq.mp h)
theorem us3(h:((us st).tag==3)=true):st=.Expr (us st).a (us st).p:=vk (k:=2) (beq_iff_eq.mp h)
theorem us4(h:((us st).tag==4)=true){e:Expr}(ho:(us st).oe=some e):st=.Return (some e) (us st).p:=ho▸vk (k:=3) (beq_iff_eq.mp h)
theorem us5(h:((us st).tag==5)=true):st=.If (us st).a (us st).x (us st).y (us st).p:=vk (k:=4) (beq_iff_eq.mp h)
theorem us6(h:((us st).tag==6)=true)(hy:(us st).y.isEmpty=true):st=.While (us st).a (us st).x [] (us st).p:=l8 hy▸vk (k:=5) (beq_iff_eq.mp h)
theorem us7(h:((us st).tag==7)=true)(hy:(us st).y.isEmpty=true):st=.For (us st).a (us st).b (us st).x [] (us st).p:=l8 hy▸vk (k:=6) (beq_iff_eq.mp h)
theorem us8(h:((us st).tag==8)=true)(hy:(us st).oe.isNone=true):st=.Assert (us st).a none (us st).p:=Option.isNone_iff_eq_none.mp hy▸vk (k:=7) (beq_iff_eq.mp h)
theorem us9(h:((us st).tag==9)=true){t:Expr}(ho:lI (us st).l=some t):st=.Delete [t] (us st).p:=(vk (k:=8) (beq_iff_eq.mp h)).trans (congrArg (λl=>Stmt.Delete l _) (nj ho))
theorem kM1(h:((us st).tag==10)=true):st=.Break (us st).p:=vk (k:=9) (beq_iff_eq.mp h)
theorem kL1(h:((us st).tag==11)=true):st=.Pass (us st).p:=vk (k:=10) (beq_iff_eq.mp h)
end
theorem y9{t t':Expr}{l:List Expr}(h:lI l=some t)(e:t=t'):lI l=some t':=e▸h
theorem Es.asgF{x:Var}{e:Expr}{p pos:Pos}{v:V}(hx:x∈C.vars)(ho:x.own=true)(hc:∀ env:Env,env.scope=C.scope->swapsWith e (some (.Name x.name p)) pos.line env=pure false)(h:Ev G A C env W e σ η v σ₁):Es G A C env W (.Assign [.Name x.name p] e pos) σ η .next σ₁ (η.set x.slot (some v)):=λρ s R N ht =>
 wpAny_Assign_Name (h.use R N ht λcv au aa am aR aS aA=>RE.store am.rel aR hx ho aA λaG aB cn=>⟨aa,am.toW.trans aB,cn,rfl⟩) (hc env N.sc)
theorem kg{x:Str}{p spos cpos:Pos}{el:Expr}{gs:List Comprehension}{scope:Scope}(hk:C.kind x=some .cell)(env:Env)(he:env.scope=C.scope):swapsWith (.ListComp el gs scope cpos) (some (.Name x p)) spos.line env=pure false:=by
 show (pure (env.blockKind==.function&&env.kindOf x==some .local&&p.line==cpos.line&&!(scope.names.any λ(n,k)=>n==x&&(k==.local || k==.cell))):Sem Bool)=pure false
 have h2:env.kindOf x=some .cell:=by unfold Env.kindOf;exact(he)▸(hk)
 rw[h2,show ((some NameKind.cell:Option NameKind)==some NameKind.local)=false by decide]
 simp
theorem zy{e:Ex}(h:sd e=true):∃ vars tg elt it cond,e=.comp vars tg elt it cond:=by
 cases e <;> first | exact⟨_,_,_,_,_,rfl⟩ | exact ftr h
theorem v5(K:Ok G A T F){e:Ex}{e':Expr}(h:mt T e C e'=true)(ht:sd e=true){v:V}(e1:evx F e σ η=some (v,σ')) :
  ∃ el t i ifs scope pos out,e'=.ListComp el [⟨t,i,ifs,0⟩] scope pos/\v=.lst out/\∃ vars,CompR G A C env W el t i ifs scope vars σ η out σ':=by
 refine byQ λQ kQ=>?_
 obtain ⟨vars,tg,elt,it,cond,rfl⟩:=zy ht
 refine le1 (kI (env:=env) (W:=W) K (snd K elt).e (snd K it).e (snd K cond).t h e1) λel t i ifs scope pos out h1 h2 h3=>?_
 refine kQ ?_
 exact⟨el,t,i,ifs,scope,pos,out,h1,h2,vars,h3⟩
section
variable {r:Fl×List AO×ac} {fl:Fl} {P:Prop}
theorem rI{Q:Fl->List AO->ac->Prop}{a:Fl}(h:some (a,σ,η)=some (fl,σ',η'))(q:Q a σ η):Q fl σ' η':=by
 cases h;exact q
theorem kg1{o:Option (V×List AO)}{k:V->List AO->Out}(h:(match o with | some (x,σ)=>k x σ | none=>none)=some r)(q:∀ x σ,o=some (x,σ)->k x σ=some r->P):P:=ek h q
theorem kY1{o:Option (V×List AO)}{k:V->V->List AO->Out}(h:(match o with | some (.tup [u,v],σ)=>k u v σ | _=>none)=some r)(q:∀ u v σ,o=some (.tup [u,v],σ)->k u v σ=some r->P):P:=by
 cases o with
 | none=>exact nso h
 | some a =>
  obtain ⟨a,c⟩:=a
  cases a <;> first | (exact nso h;done) | skip
  rename_i l
  cases l with
  | nil=>exact nso h
  | cons u l=>cases l with
   | nil=>exact nso h
   | cons v l=>cases l with
    | nil=>exact q u v c rfl h
    | cons=>exact nso h
theorem k11{o:Option (Option V)}{k:Nat->Out}(h:(match o with | some (some (.ref i))=>k i | _=>none)=some r)(q:∀ i,o=some (some (.ref i))->k i=some r->P):P:=by
 cases o with
 | none=>exact nso h
 | some a=>cases a with
  | none=>exact nso h
  | some v=>cases v <;> first | exact q _ rfl h | exact nso h
theorem na1{o:Option AO}{v:V}{k:List V->List V->Out}(h:(match o,v with | some ⟨l,none⟩,.lst uE=>k l uE | _,_=>none)=some r)(q:∀ l uE,o=some ⟨l,none⟩->v=.lst uE->k l uE=some r->P):P:=by
 cases o with
 | none=>exact nso h
 | some a =>
  obtain ⟨l,c⟩:=a
  cases c <;> first | (exact nso h;done) | skip
  cases v <;> first | exact q _ _ rfl rfl h | exact nso h
theorem m81{o:Option (Bool×List AO)}{ja lP:List AO->Out}(h:(match o with | some (true,σ)=>ja σ | some (false,σ)=>lP σ | none=>none)=some r)(lF:∀ σ,o=some (true,σ)->ja σ=some r->P)(mL:∀ σ,o=some (false,σ)->lP σ=some r->P):P:=by
 cases o with
 | none=>exact nso h
 | some a =>
  obtain ⟨b,c⟩:=a
  cases b
  ·exact mL c rfl h
  ·exact lF c rfl h
theorem m71{o:Option (Bool×List AO)}{ja lP:List AO->Out}(h:(match o with | some (false,σ)=>lP σ | some (true,σ)=>ja σ | none=>none)=some r)(lF:∀ σ,o=some (true,σ)->ja σ=some r->P)(mL:∀ σ,o=some (false,σ)->lP σ=some r->P):P:=by
 cases o with
 | none=>exact nso h
 | some a =>
  obtain ⟨b,c⟩:=a
  cases b
  ·exact mL c rfl h
  ·exact lF c rfl h
theorem kV1{o:Option (Bool×List AO)}{ja:List AO->Out}(h:(match o with | some (true,σ)=>ja σ | _=>none)=some r)(lF:∀ σ,o=some (true,σ)->ja σ=some r->P):P:=by
 cases o with
 | none=>exact nso h
 | some a =>
  obtain ⟨b,c⟩:=a
  cases b
  ·exact nso h
  ·exact lF c rfl h
theorem mW1{o:Option Nat}{k:Nat->Out}(h:(match o with | some j=>k j | none=>none)=some r)(q:∀ j,o=some j->k j=some r->P):P:=by
 cases o with
 | none=>exact nso h
 | some j=>exact q j rfl h
theorem mX1{o:Option ItS}{k:ItS->Out}(h:(match o with | some j=>k j | none=>none)=some r)(q:∀ j,o=some j->k j=some r->P):P:=kp1 h q
theorem k31{o:Out}{k:List AO->ac->Out}(h:(match o with | some (.next,σ,η)=>k σ η | r=>r)=some (fl,σ',η'))(lF:∀ σ η,o=some (.next,σ,η)->k σ η=some (fl,σ',η')->P)(mL:fl≠.next->o=some (fl,σ',η')->P):P:=by
 cases o with
 | none=>exact nso h
 | some a =>
  obtain ⟨f,h_p⟩:=a;have s:=h_p.1;have e:=h_p.2
  cases f with
  | next=>exact lF _ _ rfl h
  | brk=>cases h;exact mL nofun rfl
  | ret v=>cases h;exact mL nofun rfl
theorem jV1{o:Out}{k:List AO->ac->Out}(h:(match o with | some (.next,σ,η)=>k σ η | some (.brk,σ,η)=>some (.next,σ,η) | r=>r)=some (fl,σ',η'))(lF:∀ σ η,o=some (.next,σ,η)->k σ η=some (fl,σ',η')->P)
  (mL:fl=.next->o=some (.brk,σ',η')->P) (k81:∀ v,fl=.ret v->o=some (.ret v,σ',η')->P):P:=by
 cases o with
 | none=>exact nso h
 | some a =>
  obtain ⟨f,h_p⟩:=a;have s:=h_p.1;have e:=h_p.2
  cases f with
  | next=>exact lF _ _ rfl h
  | brk=>cases h;exact mL rfl rfl
  | ret v=>cases h;exact k81 v rfl rfl
end
theorem gL1{st:Stmt}{i:Nat}{f:Expr->Bool}(hm:((us st).tag==1&&oB (lI (us st).l) f)=true)(h1:∀ t,f t=true->((un t).tag==1)=true/\f5 C (un t).s i=true) :
  ∃ t y,f t=true/\y∈C.vars/\y.name=(un t).s/\y.slot=i/\y.own=true/\st=.Assign [.Name y.name (un t).p] (us st).a (us st).p :=
 have h:=ao hm
 (tn h.2).elim λt ht=>have g:=h1 t ht.2
 (bv g.2).elim λy hy=>⟨t,y,ht.2,hy.1,hy.2.1,hy.2.2.1,hy.2.2.2,hy.2.1.symm▸us1 h.1 (y9 ht.1 (un1 g.1))⟩
theorem eO1(K:Ok G A T F){i:Nat}{e:Ex}:QE G A T F (.asg i e):=λC st hm env W σ η fl σ' η' he =>
 (gL1 (i:=i) hm λt h=>ao (ao (ao h).1).1).elim λt ⟨y,hm,hy,hyn,hi,ho,hs⟩=>Es.of_eq hs <| kg1 he λv σ₁ e1 he=>by
  have h3:=(ao hm).2
  have h2:=(ao (ao hm).1).2
  have hev:=(snd K e).e _ _ h2 env W _ _ _ _ e1
  refine rI (Q:=Es G A C env W _ σ η) he ?_
  subst hi
  replace h3:=(hyn)▸h3
  unfold dV1 at h3
  by_cases hlc:((un (us st).a).tag==11)=true
  ·rw[if_pos hlc] at h3
   rcases Bool.or_eq_true_iff.mp h3 with hk | h3
   ·rw[jT1 hlc] at hev ⊢
    exact Es.asgF hy ho (λenv he=>kg (gF hk) env he) hev
   ·refine byQ λQ kQ=>?_
    have g3:=ao h3
    have g2:=ao g3.1
    have g1:=ao g2.1
    obtain ⟨el,t,ii,ifs,scope,pos,out,he1,rfl,vars,⟨n,v,st,σ₂,K1,q1,q2,q3,q4,q5⟩⟩:=v5 (env:=env) (W:=W) K h2 g1.1 e1
    have g4:=(Bool.not_eq_true' _).mp g3.2
    have g5:=beq_iff_eq.mp g2.2
    refine kQ ?_
    rw[he1] at g4 g5 ⊢
    exact Es.asgComp K.hh K1 q1 hy ho (gF g1.2) g5 g4 q2 q3 q4 q5
  ·rw[if_neg hlc] at h3
   exact Es.asg hy ho h3 hev
theorem bB1(K:Ok G A T F){i:Nat}{e:Ex}:QE G A T F (.asgM i e):=λC st hm env W σ η fl σ' η' he =>
 (gL1 (i:=i) hm λt h=>ao (ao (ao (ao (ao h).1).1).1).1).elim λt h_i=>ka1 h_i λy hm hy hyn hi ho hs=>Es.of_eq hs <| mU1 he λvs σ₁ e1 he=>by
  refine byQ λQ kQ=>?_
  have h4:=ao hm
  have h3:=ao h4.1
  have h2:=(ao (ao h3.1).1).2
  obtain ⟨el,t',ii,ifs,scope,pos,out,he1,ho1,vars,⟨n,v,st',σ₂,K1,q1,q2,q3,q4,q5⟩⟩:=v5 (env:=env) (W:=W) K h2 h3.2 e1
  cases ho1
  refine kQ ?_
  refine rI (Q:=Es G A C env W _ σ η) he ?_
  refine(he1)▸?_
  subst hi
  exact Es.asgF hy ho (λenv he=>kg (gF (hyn▸h4.2)) env he) (Ev.compM K.hh K1 q1 q2 q3 q4 q5)
theorem bA1(K:Ok G A T F){is:List Nat}{e:Ex}:QE G A T F (.asgT is e):=λC st hm env W σ η fl σ' η' he =>
 have h0:=ao hm
 (tn h0.2).elim λt ht =>
 have h4:=ao ht.2
 have h3:=ao h4.1
 have h2:=ao h3.1
 have h1:=ao h2.1
 Es.of_eq (us1 h0.1 (y9 ht.1 (un2 h1.1))) <| kU1 he λvs σ₁ e1 he=>by
  have hl:=bg he
  obtain ⟨vars,hn,rfl⟩:=rW h1.2
  refine rI (Q:=Es G A C env W _ σ η) hl.2 ?_
  rw[lA]
  exact Es.asgT K.hh h3.2 (beq_iff_eq.mp h4.2) hn (by simpa using hl.1) ((snd K e).e _ _ h2.2 env W _ _ _ _ e1)
theorem bC1(K:Ok G A T F){i j:Nat}{e:Ex}:QE G A T F (.asg2 i j e):=λC st hm env W σ η fl σ' η' he =>
 have h0:=ao hm
 (tn h0.2).elim λt ht =>
 have ht2:=ao ht.2
 (tn ht2.2).elim λr hr =>
 have h5:=ao hr.2
 have h4:=ao h5.1
 have h3:=ao h4.1
 have h2:=ao h3.1
 have h1:=ao h2.1
 have h10:=ao h1.1
 kY1 he λu v σ₁ e1 he=>by
  refine byQ λQ kQ=>?_
  obtain ⟨x,hx,hxn,rfl,hxo⟩:=bv h1.2
  obtain ⟨y,hy,hyn,rfl,hyo⟩:=bv h2.2
  have e1x:=un1 h10.1
  have e2x:=un1 h10.2
  have h5:=beq_iff_eq.mp h5.2
  have hs:=us1 h0.1 (y9 ht.1 (un2 ht2.1))
  rw[vo hr.1] at hs
  rw[← hxn] at h5 e1x
  rw[← hyn] at h5 e2x
  rw[e1x,e2x] at h5 hs
  refine kQ ?_
  exact Es.of_eq hs (rI (Q:=Es G A C env W _ σ η) he (Es.asg2 K.hh h4.2 h5 hx hxo hy hyo ((snd K e).e _ _ h3.2 env W _ _ _ _ e1)))
theorem gK1{st:Stmt}{op:Operator}{i:Nat}{b:Bool}(hm:((us st).tag==2&&(un (us st).a).tag==1&&decide ((us st).o=op)&&f5 C (un (us st).a).s i&&b)=true) :
  ∃ x,x∈C.vars/\x.slot=i/\x.own=true/\st=.AugAssign (.Name x.name (un (us st).a).p) op (us st).b (us st).p :=
 have h1:=ao (ao hm).1
 have h2:=ao h1.1
 have h3:=ao h2.1
 (bv h1.2).elim λx hx=>⟨x,hx.1,hx.2.2.1,hx.2.2.2,(us2 h3.1 (of_decide_eq_true h2.2)).trans (congrArg (λz=>Stmt.AugAssign z op _ _) (hx.2.1.symm▸un1 h3.2))⟩
theorem eN1(K:Ok G A T F){i:Nat}{op:Operator}{e:Ex}:QE G A T F (.aug i op e):=λC st hm env W σ η fl σ' η' he =>
 (gK1 hm).elim λx ⟨hx,hi,hxo,hs⟩=>Es.of_eq hs <| j01 he λu hu he=>ek he λv σ₁ e1 he=>by
  refine byQ λQ kQ=>?_
  refine aQ (Option.map_eq_some_iff.mp he) λw e3 e4=>?_
  subst hi
  cases e4
  refine kQ ?_
  exact Es.aug hx hxo hu ((snd K e).e _ _ (ao hm).2 env W _ _ _ _ e1) (tQ e3)
theorem by1(K:Ok G A T F){i:Nat}{e:Ex}:QE G A T F (.augL i e):=λC st hm env W σ η fl σ' η' he =>
 (gK1 hm).elim λx ⟨hx,hi,hxo,hs⟩=>Es.of_eq hs <| k11 he λk hu he=>ek he λv σ₁ e1 he=>na1 he λl uE hσ hd he=>by
  subst hi
  exact rI (Q:=Es G A C env W _ σ η) (bg he).2 (Es.aug hx hxo hu ((snd K e).e _ _ (ao hm).2 env W _ _ _ _ e1) (ji hσ hd (bg he).1))
theorem bx1(K:Ok G A T F){e:Ex}:QE G A T F (.expr e):=λC st hm env W σ η fl σ' η' he =>
 have h2:=ao hm
 have h1:=ao h2.1
 Es.of_eq (us3 h1.1) <| ek he λv σ₁ e1 he=>rI (Q:=Es G A C env W _ σ η) he (Es.expr h2.2 ((snd K e).e _ _ h1.2 env W _ _ _ _ e1))
theorem eI1(K:Ok G A T F){e:Ex}:QE G A T F (.ret e):=λC st hm env W σ η fl σ' η' he =>
 have h:=ao hm
 (tn h.2).elim λr hr=>Es.of_eq (us4 h.1 hr.1) <| ek he λv σ₁ e1 he=>rI (Q:=Es G A C env W _ σ η) he (Es.ret ((snd K e).e _ _ hr.2 env W _ _ _ _ e1))
theorem eJ1(K:Ok G A T F){c:Ex}{a b:Sx}(ha:QS G A T F a)(hb:QS G A T F b):QE G A T F (.ite c a b):=λC st hm env W σ η fl σ' η' he =>
 have h3:=ao hm
 have h2:=ao h3.1
 have h1:=ao h2.1
 Es.of_eq (us5 h1.1) <| m81 he
  (λσ₁ e1 he=>Es.if_ ((snd K c).t _ _ h1.2 env W _ _ _ _ e1) (λ_=>ha _ _ h2.2 _ _ _ _ _ _ _ he) nofun)
  (λσ₁ e1 he=>Es.if_ ((snd K c).t _ _ h1.2 env W _ _ _ _ e1) nofun (λ_=>hb _ _ h3.2 _ _ _ _ _ _ _ he))
theorem bz1(K:Ok G A T F){c:Ex}:QE G A T F (.asrt c):=λC st hm env W σ η fl σ' η' he =>
 have h2:=ao hm
 have h1:=ao h2.1
 Es.of_eq (us8 h1.1 h1.2) <| kV1 he λσ₁ e1 he=>rI (Q:=Es G A C env W _ σ η) he (Es.assert K.hh ((snd K c).t _ _ h2.2 env W _ _ _ _ e1))
theorem eM1:QE G A T F .brk:=λC st hm env W σ η fl σ' η' he=>rI (Q:=Es G A C env W _ σ η) he (Es.of_eq (kM1 hm) Es.brk)
theorem bw1:QE G A T F .pass:=λC st hm env W σ η fl σ' η' he=>rI (Q:=Es G A C env W _ σ η) he (Es.of_eq (kL1 hm) Es.pass)
theorem zx(i:Int):evx F (ixE i) σ η=some (.int i,σ):=by
 unfold ixE
 by_cases h:i<0
 ·rw[if_pos h]
  exact congrArg (λz=>some (V.int z,σ)) (Int.neg_neg i)
 ·rw[if_neg h];rfl
theorem eL1(K:Ok G A T F){o:Ex}{i:Int}:QE G A T F (.del o i):=λC st hm env W σ η fl σ' η' he =>
 have h:=ao hm
 (tn h.2).elim λt ht =>
 have h2:=ao ht.2
 have h1:=ao h2.1
 Es.of_eq (us9 h.1 (y9 ht.1 (un9 h1.1))) <| hg1 he λk σ₁ e1 he=>hI1 he λl hσ he=>mW1 (bg he).2 λj hj he'=>rI (Q:=Es G A C env W _ σ η) he'
  (Es.del ((snd K o).e _ _ h1.2 env W _ _ _ _ e1) ((snd K _).e _ _ h2.2 env W _ _ _ _ (zx i)) (xB hσ (bg he).1 hj rfl))
theorem u5{test:Expr}{body:List Stmt}{c:List AO->ac->Option (Bool×List AO)}{b:List AO->ac->Out}(hc:∀ σ η k σ',c σ η=some (k,σ')->Et G A C env W test σ η k σ')
  (hb:∀ σ η fl σ' η',b σ η=some (fl,σ',η')->Ess G A C env W body σ η fl σ' η'):∀ (n:Nat) (σ:List AO) (η:ac) (fl:Fl) (σ':List AO) (η':ac),whN c b n σ η=some (fl,σ',η')->∃ m,WhR G A C env W test body m σ η fl σ' η':=by
 intro n
 induction n with
 | zero=>intro _ _ _ _ _ h;exact nso h
 | succ n ih =>
  intro σ η fl σ' η' h
  exact m71 h (λσ₁ e1 h=>jV1 h (λσ₂ η₂ e2 h=>(ih _ _ _ _ _ h).elim λm hr=>⟨m+1,.turn (hc _ _ _ _ e1) (hb _ _ _ _ _ e2) hr⟩)
   (λhf e2=>⟨0,hf▸.brk (hc _ _ _ _ e1) (hb _ _ _ _ _ e2)⟩) λv hf e2=>⟨0,hf▸.ret (hc _ _ _ _ e1) (hb _ _ _ _ _ e2)⟩)
   λσ₁ e1 h=>⟨0,rI (Q:=WhR G A C env W test body 0 σ η) h (.stop (hc _ _ _ _ e1))⟩
theorem k51{P:Prop}{fl:Fl}{o:Option (Option (V×ItS))}{ja:Out}{k:V->ItS->Out}(h:(match o with | none=>none | some none=>ja | some (some (x,st))=>k x st)=some (fl,σ',η'))(lF:o=some none->ja=some (fl,σ',η')->P)(mL:∀ x st,o=some (some (x,st))->k x st=some (fl,σ',η')->P):P:=jZ1 h lF mL
theorem xq{tg:Ex}{t:Expr}{body:List Stmt}{b:List AO->ac->Out}(hh:A.handled=none)(hm:mtg C tg t=true)
  (hb:∀ σ η fl σ' η',b σ η=some (fl,σ',η')->Ess G A C env W body σ η fl σ' η'):∀ (n:Nat) (st:ItS) (σ:List AO) (η:ac) (fl:Fl) (σ':List AO) (η':ac),foN tg b n st σ η=some (fl,σ',η')->∃ m,FoR G A C env W t body m st σ η fl σ' η':=by
 intro n
 induction n with
 | zero=>intro _ _ _ _ _ _ h;exact nso h
 | succ n ih =>
  intro st σ η fl σ' η' h
  exact k51 h (λhst h=>⟨0,rI (Q:=FoR G A C env W t body 0 st σ η) h (.stop hst)⟩) λx st' hst h=>kc1 h λη₁ ha h =>
   have a:=jz hh hm ha env W
   jV1 h (λσ₂ η₂ e2 h=>(ih _ _ _ _ _ _ h).elim λm hr=>⟨m+1,.turn hst a (hb _ _ _ _ _ e2) hr⟩)
    (λhf e2=>⟨0,hf▸.brk hst a (hb _ _ _ _ _ e2)⟩) λv hf e2=>⟨0,hf▸.ret hst a (hb _ _ _ _ _ e2)⟩
theorem bv1(K:Ok G A T F){n:Nat}{c:Ex}{b:Sx}(hb:QS G A T F b):QE G A T F (.whil n c b):=λC st hm env W σ η fl σ' η' he =>
 have h3:=ao hm
 have h2:=ao h3.1
 have h1:=ao h2.1
 (u5 (λσ η k σ' e=>(snd K c).t _ _ h2.2 env W _ _ _ _ e) (λσ η fl σ' η' e=>hb _ _ h3.2 env W _ _ _ _ _ e) _ _ _ _ _ _ he).elim λm hr=>Es.of_eq (us6 h1.1 h1.2) (Es.while hr)
theorem eK1(K:Ok G A T F){tg it:Ex}{b:Sx}(hb:QS G A T F b):QE G A T F (.for_ tg it b):=λC st hm env W σ η fl σ' η' he =>
 have h5:=ao hm
 have h4:=ao h5.1
 have h3:=ao h4.1
 have h2:=ao h3.1
 have h1:=ao h2.1
 Es.of_eq (us7 h1.1 h1.2) <| kg1 he λx σ₁ e1 he=>mX1 he λs hst he =>
  (xq K.hh h2.2 (λσ η fl σ' η' e=>hb _ _ h5.2 env W _ _ _ _ _ e) _ _ _ _ _ _ _ he).elim λm hr=>Es.for_ K.hh h4.2 ((snd K it).e _ _ h3.2 env W _ _ _ _ e1) hst hr
structure SndS (G:Wd) (A:Around) (T:Tab) (F:Fn) (x:Sx):Prop where
 e:QE G A T F x
 s:QS G A T F x
noncomputable def iP1(x:Sx):Bool:=!(x.ctorIdx==0 || x.ctorIdx==1)
theorem fh{x:Sx}(h:QE G A T F x)(hs:iP1 x=true):SndS G A T F x:=⟨h,λC l hm=>by
 cases x <;> first | (exact ftr hs;done) | cases hm⟩
theorem k61(K:Ok G A T F)(x:Sx):SndS G A T F x:=by
 induction x with
 | skip=>exact⟨λC st hm=>(nomatch (show false=true from hm)),λC l hm env W σ η fl σ' η' he=>l8 hm▸rI (Q:=Ess G A C env W [] σ η) he Ess.nil⟩
 | seq a b ha hb =>
  refine⟨λC st hm=>(nomatch (show false=true from hm)),λC l hm env W σ η fl σ' η' he=>?_⟩
  cases l with
  | nil=>exact ftr hm
  | cons st l =>
   have h:=ao hm
   exact k31 he (λσ₁ η₁ e1 he=>Ess.cons (ha.e _ _ h.1 env W _ _ _ _ _ e1) (hb.s _ _ h.2 env W _ _ _ _ _ he)) λhf he=>Ess.stop hf (ha.e _ _ h.1 env W _ _ _ _ _ he)
 | asg i e=>exact fh (eO1 K) rfl
 | asgM i e=>exact fh (bB1 K) rfl
 | asgT is e=>exact fh (bA1 K) rfl
 | asg2 i j e=>exact fh (bC1 K) rfl
 | aug i op e=>exact fh (eN1 K) rfl
 | augL i e=>exact fh (by1 K) rfl
 | expr e=>exact fh (bx1 K) rfl
 | ret e=>exact fh (eI1 K) rfl
 | ite c a b ha hb=>exact fh (eJ1 K ha.s hb.s) rfl
 | whil n c b hb=>exact fh (bv1 K hb.s) rfl
 | for_ tg it b hb=>exact fh (eK1 K hb.s) rfl
 | dead=>exact fh (λC st hm env W σ η fl σ' η' he=>nomatch (show none=some _ from he)) rfl
 | brk=>exact fh eM1 rfl
 | pass=>exact fh bw1 rfl
 | asrt c=>exact fh (bz1 K) rfl
 | del o i=>exact fh (eL1 K) rfl
end
noncomputable abbrev rb:=List V->List AO->Option (V×List AO)
set_option genInjectivity false in
set_option genSizeOf false in
inductive En where
 | code (np more:Nat) (body:Sx)
 | prim (p:rb)
noncomputable def mK(F:Fn)(np more:Nat)(body:Sx):rb:=λvs σ =>
 if vs.length=np then match exs F body σ (aU vs more) with
  | some (.ret v,σ₁,_)=>some (v,σ₁)
  | some (.next,σ₁,_)=>some (.none,σ₁)
  | _=>none
 else none
noncomputable def lev(tab:Nat->Option En):Nat->Fn
 | 0,_,_,_=>none
 | n+1,f,vs,σ=>match tab f with
  | some (.code np more body)=>mK (lev tab n) np more body vs σ
  | some (.prim p)=>p vs σ
  | none=>none
noncomputable def ff(G:Wd)(A:Around)(x:Str)(p:rb):Prop:=∀ {C env W η σ σ₁ σ₂ q pos} {args:List Expr} {vs:List V} {v:V},C.kind x=some .globalImplicit->(x==("__debug__":Str))=false->aP args=true ->
  Evs G A C env W args σ η vs σ₁->p vs σ₁=some (v,σ₂)->Ev G A C env W (.Call (.Name x q) args [] pos) σ η v σ₂
noncomputable def gk(G:Wd)(A:Around)(n:Str)(p:rb):Prop:=∀ {C env W η σ σ₁ σ₂ aq q pos} {o:Expr} {args:List Expr} {vs:List V} {v:V} {k l i},b9 o=true->aP args=true->args.length<29->(q.endLine==pos.line)=true ->
  Ev G A C env W o σ η (.ref k) σ₁->σ₁[k]?=some ⟨l,some i⟩->Evs G A C env W args σ₁ η vs σ₂->p (.ref k::vs) σ₂=some (v,aq)->Ev G A C env W (.Call (.Attribute o n q) args [] pos) σ η v aq
noncomputable def g31(G:Wd)(T:Tab)(x:Str):En->Prop
 | .code np more body=>∃ a fd b C ns,Gl G x (.ref a)/\Def G a fd b C ns/\ns.length=np/\mss T body C b=true
 | .prim p=>∀ n A,Room A (n+4)->ff G A x p
noncomputable def kE1(G:Wd)(n:Str):En->Prop
 | .code _ _ _=>False
 | .prim p=>∀ m A,Room A (m+4)->gk G A n p
structure TabOk (G:Wd) (T:Tab) (tab:Nat->Option En):Prop where
 bf:∀ f:Bf,Gl G (Str.ofString f.id) (.builtin f.id)
 rng:Gl G "range" (.type "range")
 lst:Gl G "list" (.type "list")
 gs:∀ x l,T.gs x=some l->l.length<=lim/\∃ t,Gl G x (.str ⟨l.toArray⟩ t)
 call:∀ f x,T.name f=some x->∀ e,tab f=some e->g31 G T x e
 meth:∀ f n,T.meth f=some n->∀ e,tab f=some e->kE1 G n e
theorem iH1{o:Option (Fl×List AO×ac)}{r:V×List AO}{P:Prop} (h:(match o with
  | some (.ret v,σ₁,_)=>some (v,σ₁)
  | some (.next,σ₁,_)=>some (V.none,σ₁)
  | _=>none)=some r) (q:∀ fl η,o=some (fl,r.2,η)->(fl=.ret r.1\/fl=.next/\r.1=.none)->P):P:=by
 cases o with
 | none=>exact nso h
 | some o =>
  obtain ⟨fl,σ₁,η⟩:=o
  cases fl with
  | ret v=>obtain rfl:=siX h;exact q _ η rfl (.inl rfl)
  | next=>obtain rfl:=siX h;exact q _ η rfl (.inr ⟨rfl,rfl⟩)
  | brk=>exact nso h
theorem ku1{β:Type}{o:Option En}{f:Nat->Nat->Sx->Option β}{g:rb->Option β}{r:β}{P:Prop} (h:(match o with
  | some (.code np more body)=>f np more body
  | some (.prim p)=>g p
  | none=>none)=some r) (q:∀ np more body,o=some (.code np more body)->f np more body=some r->P) (q2:∀ p,o=some (.prim p)->g p=some r->P):P:=by
 cases o with
 | none=>exact nso h
 | some e=>cases e with
  | code a b c=>exact q a b c rfl h
  | prim p=>exact q2 p rfl h
theorem km{G:Wd}{A:Around}{T:Tab}{F:Fn}{a:Addr}{fd:FuncData}{b:List Stmt}{C:Cx}{ns:List Str}{np more n:Nat}{body:Sx}{vs:List V}{v:V}{σ σ':List AO}
  (D:Def G a fd b C ns) (hn:ns.length=np) (hm:mss T body C b=true) (hr:Room A (n+1)) (K:∀ A',Room A' n->Ok G A' T F) (h:mK F np more body vs σ=some (v,σ')):On G A (λcvs=>PySem.call (.ref a) cvs) σ vs v σ':=by
 have h':=bg h
 refine iH1 h'.2 λfl η e1 hf=>?_
 exact On.def D hr (h'.1.trans hn.symm) hf λA' env W hA=>(k61 (K A' hA) body).s _ _ hm env W _ _ _ _ _ e1
theorem fB1{G:Wd}{T:Tab}{tab:Nat->Option En}(H:TabOk G T tab)(n:Nat):∀ (A:Around),Room A (n+4)->Ok G A T (lev tab n):=by
 induction n with
 | zero=>exact λA hr=>⟨hr.handled,by have:=hr.units;lia,H.bf,H.rng,H.lst,H.gs,λ_ _ _ {_ _ _ _ _ _ _ _ _ _ _ _} _ _ _ _ hF=>nso hF,λ_ _ _ {_ _ _ _ _ _ _ _ _ _ _ _ _ _ _ _ _} _ _ _ _ _ _ _ hF=>nso hF⟩
 | succ n ih =>
  refine λA hr=>⟨hr.handled,by have:=hr.units;lia,H.bf,H.rng,H.lst,H.gs,?_,?_⟩
  ·intro f x hx C env W η σ σ₁ σ₂ p pos args vs v hk hd hns hE hF
   refine ku1 (g:=λp=>p vs σ₁) hF (λnp more body ht h=>?_) λq ht h=>H.call f x hx _ ht (n+1) A hr hk hd hns hE h
   exact j51 (H.call f x hx _ ht) λa fd b C' ns g D hl hm=>aQ D.obj λo ho hfd=>Ev.callF hk hd g hns ho D.la hfd hE (km (n:=n+4) D hl hm hr ih h)
  ·intro f x hx C env W η σ σ₁ σ₂ aq p pos o args vs v k l i h1 h2 h3 h4 h5 h6 h7 hF
   exact ku1 (g:=λp=>p (.ref k::vs) σ₂) hF (λnp more body ht h=>(H.meth f x hx _ ht).elim) λq ht h=>H.meth f x hx _ ht (n+1) A hr h1 h2 h3 h4 h5 h6 h7 h
section
variable {F:Fn} {σ:List AO} {η:ac}
theorem uR{v:V}:evx F (.cst v) σ η=(some (v,σ)):=rfl
theorem uQ{l:List Nat}:evx F (.glo l) σ η=(some (.str l,σ)):=rfl
theorem ry{i:Nat}:evx F (.loc i) σ η=(match η[i]? with
  | some (some v)=>some (v,σ)
  | _=>none):=rfl
theorem uM :evx F (.nil) σ η=(some (.none,σ)):=rfl
theorem uK{es:Ex}:evx F (.tup es) σ η=(match evs F es σ η with
  | some (vs,σ₁)=>if vs.length<=lim then some (.tup vs,σ₁) else none
  | none=>none):=rfl
theorem uO{es:Ex}:evx F (.lst es) σ η=(match evs F es σ η with
  | some (vs,σ₁)=>if vs.length<=lim then some (.lst vs,σ₁) else none
  | none=>none):=rfl
theorem uN{es:Ex}:evx F (.new es) σ η=(match evs F es σ η with
  | some (vs,σ₁)=>if vs.length<=lim then some (.ref σ₁.length,σ₁++[⟨vs,none⟩]) else none
  | none=>none):=rfl
theorem uT{op:Operator}{a:Ex}{b:Ex}:evx F (.bin op a b) σ η=(match evx F a σ η with
  | some (x,σ₁)=>match evx F b σ₁ η with
   | some (y,σ₂)=>(qL op x y).map λv=>(v,σ₂)
   | none=>none
  | none=>none):=rfl
theorem rx{a:Ex}:evx F (.neg a) σ η=(match evx F a σ η with
  | some (.int i,σ₁)=>some (.int (-i),σ₁)
  | _=>none):=rfl
theorem ru{a:Ex}:evx F (.not a) σ η=(match evx F a σ η with
  | some (x,σ₁)=>(aW x).map λb=>(.bool (!b),σ₁)
  | none=>none):=rfl
theorem uS{op:CmpOp}{a:Ex}{b:Ex}:evx F (.cmp op a b) σ η=(match evx F a σ η with
  | some (x,σ₁)=>match evx F b σ₁ η with
   | some (y,σ₂)=>(hR op σ₂ x y).map λk=>(.bool k,σ₂)
   | none=>none
  | none=>none):=rfl
theorem gU{a:Ex}{b:Ex}:evx F (.and a b) σ η=(match evx F a σ η with
  | some (x,σ₁)=>match aW x with
   | some true=>evx F b σ₁ η
   | some false=>some (x,σ₁)
   | none=>none
  | none=>none):=rfl
theorem ye{a:Ex}{b:Ex}:evx F (.or a b) σ η=(match evx F a σ η with
  | some (x,σ₁)=>match aW x with
   | some false=>evx F b σ₁ η
   | some true=>some (x,σ₁)
   | none=>none
  | none=>none):=rfl
theorem rz{c:Ex}{a:Ex}{b:Ex}:evx F (.ite c a b) σ η=(match evx F c σ η with
  | some (x,σ₁)=>match aW x with
   | some true=>evx F a σ₁ η
   | some false=>evx F b σ₁ η
   | none=>none
  | none=>none):=rfl
theorem uP{a:Ex}{i:Ex}:evx F (.idx a i) σ η=(match evx F a σ η with
  | some (x,σ₁)=>match evx F i σ₁ η with
   | some (y,σ₂)=>(dH σ₂ x y).map λv=>(v,σ₂)
   | none=>none
  | none=>none):=rfl
theorem uL{a:Ex}{lo:Ex}{hi:Ex}{st:Ex}:evx F (.slc a lo hi st) σ η=(match evx F a σ η with
  | some (x,σ₁)=>match evx F lo σ₁ η with
   | some (l,σ₂)=>match evx F hi σ₂ η with
    | some (h,aq)=>match evx F st aq η with
     | some (s,σ₄)=>(pk σ₄ x l h s).map λv=>(v,σ₄)
     | none=>none
    | none=>none
   | none=>none
  | none=>none):=rfl
theorem iG{vars:List Var}{tg:Ex}{elt:Ex}{it:Ex}{cond:Ex}:evx F (.comp vars tg elt it cond) σ η=(match evx F it σ η with
  | some (x,σ₁)=>match bh x with
   | some st=>match cW tg (λσ η=>match cond with
     | .nil=>some (true,σ)
     | c=>match evx F cond σ η with
      | some (y,σ')=>(aW y).map λb=>(b,σ')
      | none=>none) (λσ η=>evx F elt σ η) (st.fuel σ₁) st σ₁ (clr η vars) with
    | some (out,σ₂)=>if out.length<=lim then some (.lst out,σ₂) else none
    | none=>none
   | none=>none
  | none=>none):=rfl
theorem aW1{f:Bf}{args:Ex}:evx F (.bf f args) σ η=(match evs F args σ η with
  | some (vs,σ₁)=>(bfF f σ₁ vs).map λv=>(v,σ₁)
  | none=>none):=rfl
theorem fT{args:Ex}:evx F (.range args) σ η=(match evs F args σ η with
  | some (vs,σ₁)=>(v4 vs).map λv=>(v,σ₁)
  | none=>none):=rfl
theorem aV1{f:Me}{o:Ex}{args:Ex}:evx F (.me f o args) σ η=(match evx F o σ η with
  | some (x,σ₁)=>if mU σ₁ x=some f.T then match evs F args σ₁ η with
   | some (vs,σ₂)=>(meF f σ₂ x vs).map λv=>(v,σ₂)
   | none=>none
   else none
  | none=>none):=rfl
theorem dG1{o:Ex}{y:List Nat}{z:List Nat}:evx F (.rep o y z) σ η=(match evx F o σ η with
  | some (.str x,σ₁)=>(meF .replace σ₁ (.str x) [.str y,.str z]).map λv=>(v,σ₁)
  | _=>none):=rfl
theorem fU{o:Ex}{x:Ex}:evx F (.append o x) σ η=(match evx F o σ η with
  | some (.ref k,σ₁)=>match σ₁[k]? with
   | some ⟨_,none⟩=>match evx F x σ₁ η with
    | some (v,σ₂)=>match σ₂[k]? with
     | some ⟨l,none⟩=>if l.length<lim then some (.none,σ₂.set k ⟨l++[v],none⟩) else none
     | _=>none
    | none=>none
   | _=>none
  | _=>none):=rfl
theorem oX{f:Nat}{args:Ex}:evx F (.call f args) σ η=(match evs F args σ η with
  | some (vs,σ₁)=>F f vs σ₁
  | none=>none):=rfl
theorem kX{f:Nat}{o:Ex}{args:Ex}:evx F (.meth f o args) σ η=(match evx F o σ η with
  | some (.ref k,σ₁)=>match σ₁[k]? with
   | some ⟨_,some _⟩=>match evs F args σ₁ η with
    | some (vs,σ₂)=>F f (.ref k::vs) σ₂
    | none=>none
   | _=>none
  | _=>none):=rfl
theorem rt :evs F (.nil) σ η=(some ([],σ)):=rfl
theorem kW{e:Ex}{es:Ex}:evs F (.cons e es) σ η=(match evx F e σ η with
  | some (v,σ₁)=>match evs F es σ₁ η with
   | some (vs,σ₂)=>some (v::vs,σ₂)
   | none=>none
  | none=>none):=rfl
theorem oV :exs F (.skip) σ η=(some (.next,σ,η)):=rfl
theorem fS{a:Sx}{b:Sx}:exs F (.seq a b) σ η=(match exs F a σ η with
  | some (.next,σ₁,η₁)=>exs F b σ₁ η₁
  | r=>r):=rfl
theorem rs{i:Nat}{e:Ex}:exs F (.asg i e) σ η=(match evx F e σ η with
  | some (v,σ₁)=>some (.next,σ₁,η.set i (some v))
  | none=>none):=rfl
theorem kU{is:List Nat}{e:Ex}:exs F (.asgT is e) σ η=(match evx F e σ η with
  | some (.tup vs,σ₁)=>if vs.length=is.length then some (.next,σ₁,yE η is vs) else none
  | _=>none):=rfl
theorem kV{i:Nat}{j:Nat}{e:Ex}:exs F (.asg2 i j e) σ η=(match evx F e σ η with
  | some (.tup [u,v],σ₁)=>some (.next,σ₁,(η.set j (some v)).set i (some u))
  | _=>none):=rfl
theorem dF1{i:Nat}{op:Operator}{e:Ex}:exs F (.aug i op e) σ η=(match η[i]? with
  | some (some u)=>match evx F e σ η with
   | some (v,σ₁)=>(cx1 op u v).map λw=>(.next,σ₁,η.set i (some w))
   | none=>none
  | _=>none):=rfl
theorem kS{e:Ex}:exs F (.expr e) σ η=(match evx F e σ η with
  | some (v,σ₁)=>some (.next,σ₁,η)
  | none=>none):=rfl
theorem rq{e:Ex}:exs F (.ret e) σ η=(match evx F e σ η with
  | some (v,σ₁)=>some (.ret v,σ₁,η)
  | none=>none):=rfl
theorem rr{c:Ex}{a:Sx}{b:Sx}:exs F (.ite c a b) σ η=(match evt F c σ η with
  | some (true,σ₁)=>exs F a σ₁ η
  | some (false,σ₁)=>exs F b σ₁ η
  | none=>none):=rfl
theorem ac1{tg:Ex}{it:Ex}{b:Sx}:exs F (.for_ tg it b) σ η=(match evx F it σ η with
  | some (x,σ₁)=>match bh x with
   | some st=>foN tg (λσ η=>exs F b σ η) (st.fuel σ₁) st σ₁ η
   | none=>none
  | none=>none):=rfl
theorem uJ :exs F (.brk) σ η=(some (.brk,σ,η)):=rfl
theorem oW :exs F (.pass) σ η=(some (.next,σ,η)):=rfl
theorem kT{c:Ex}:exs F (.asrt c) σ η=(match evt F c σ η with
  | some (true,σ₁)=>some (.next,σ₁,η)
  | _=>none):=rfl
theorem xt{c:Ex}:evt F c σ η=(match evx F c σ η with
 | some (x,σ₁)=>(aW x).map λb=>(b,σ₁)
 | none=>none):=rfl
end
section
variable {G:Wd} {A:Around} {C C':Cx} {env cenv:Env} {W W':List Addr} {η η' η₁ η₂ bj:ac} {σ σ' σ₁ σ₂ aq:List AO}
theorem uo{prog:Program}{w:World}{knd:KeyKind prog w Int}{S:Int->Bool}{n:Nat}{a:Addr}{h h':Heap}(hS:h.SetOf knd a S n)(hk:∀ o,h.get? a=some o->h'.get? a=some o):h'.SetOf knd a S n:=by
 refine byQ λQ kQ=>?_
 refine iI1 (hS) λo es ep t ho r=>?_
 refine kQ ?_
 exact mQ1 o es ep t (hk o ho) r
theorem Ev.inSet{knd:KeyKind G.prog G.w Int}(hkn:∀ i t,knd.is i (.int i t)=true){l:Expr}{x:Str}{p pos:Pos}{i:Int}{S:Int->Bool}{n:Nat}{a:Addr}(hk:C.kind x=some .globalImplicit)(hd:(x==("__debug__":Str))=false)(g:Gl G x (.ref a))
  (hS:G.s₀.heap.SetOf knd a S n) (ha:a ∉ G.loose) (dJ:Ev G A C env W l σ η (.int i) σ₁):Ev G A C env W (.Compare l [.In] [.Name x p] pos) σ η (.bool (S i)) σ₁:=λρ s R N ht=>by
 refine wpAny_Compare1 (dJ.use R N ht λbz au aa am aR aS aA=>RE.global am.rel aR hk hd g ?_) rfl
 obtain ⟨t,rfl⟩:=RV.int_iff aA
 refine wpAny_inSet_of (hkn i t) rfl (uo hS λo ho=>am.rel.keep a o ha ho) ?_
 exact⟨aa,am.trans (Step.toks am.rel _),RV.bool_⟩
theorem Ev.dictGet{knd:KeyKind G.prog G.w Int}(hkn:∀ i t,knd.is i (.int i t)=true){arg:Expr}{x:Str}{p apos pos:Pos}{i:Int}{f:Int->Option Value}{v:V}{d:Addr}(hk:C.kind x=some .globalImplicit)(hd:(x==("__debug__":Str))=false)(g:Gl G x (.ref d))
  (hds:(d==sysModules)=false) (hno:∃ o,G.s₀.heap.get? d=some o/\o.cls=.type "dict"/\o.dict=none) (hM:∀ s:Shared,(∀ o,G.s₀.heap.get? d=some o->s.heap.get? d=some o)->s.heap.MapOf knd d f) (ha:d ∉ G.loose) (hv:∀ (h:Heap) ρ,RV h ρ v ((f i).getD .none)) (hn:gD arg=true) (hline:(apos.endLine==pos.line)=true)
  (dJ:Ev G A C env W arg σ η (.int i) σ₁):Ev G A C env W (.Call (.Attribute (.Name x p) "get" apos) [arg] [] pos) σ η v σ₁:=λρ s R N ht=>by
 have hn':aP [arg]=true:=by dsimp only[aP];rw[hn];rfl
 refine wpAny_Call_method_lateS (e9 rfl _) ?_ hline ?_
 ·rw[eA hn'];rfl
 ·refine RE.global R N hk hd g ?_
  refine a4 (hno) λo h_p=>?_;have ho:=h_p.1;have hc:=h_p.2.1;have hdn:=h_p.2.2
  have hos:=R.keep d o ha ho
  refine fv1 ("dict") ("dict.get") F.plainAttrs_dict F.slot_dict_get F.type_dict_get ⟨o,hos,hc⟩ (λb e=>by cases e;exact⟨o,hos,hdn⟩) ?_
  refine(bb hn)▸?_
  refine wpAny_dict_get1 (knd:=knd) hds (dJ.use R N ht λbz au aa am aR aS aA=>?_)
  obtain ⟨t,rfl⟩:=RV.int_iff aA
  exact⟨i,f,hkn i t,hM au λo ho=>am.rel.keep d o ha ho,aa,am.trans (Step.toks am.rel _),hv _ _⟩
end
section
variable {G:Wd} {A:Around} {σ σ' σ₁:List AO}
section
variable {C:Cx} {env:Env} {W:List Addr} {η:ac}
theorem Ev.var{n:Str}{i:Nat}{v:V}{p:Pos}(h:cE C n i=true)(hv:η[i]?=some (some v)):Ev G A C env W (.Name n p) σ η v σ:=by
 refine byQ λQ kQ=>?_
 obtain ⟨y,hy,rfl,rfl⟩:=cp h
 refine kQ ?_
 exact Ev.loc hy hv
end
noncomputable def gH1(P:Nat->Pos):List Stmt:=[.Return (some (.Compare (.Call (.Name "ord" (P 0)) [.Name "code" (P 1)] [] (P 2)) [.In] [.Name "b1_set" (P 3)] (P 4))) (P 5)]
noncomputable def b1M(C:Cx)(body:List Stmt):Prop:=∃ P:Nat->Pos,body=gH1 P/\(hJ C "ord" "ord"&&cE C "code" 0&&hJ C "b1_set" "b1_set")=true
theorem jJ1{a d:Addr}{fd:FuncData}{body:List Stmt}{C:Cx}{n m k:Nat}{knd:KeyKind G.prog G.w Int}{S:Int->Bool}{c:Nat}(hkn:∀ i t,knd.is i (.int i t)=true)(D:Def G a fd body C ["code"])(hm:b1M C body)
  (hr:Room A (n+1)) (ho:Gl G "ord" (.builtin "ord")) (g:Gl G "b1_set" (.ref d)) (hS:G.s₀.heap.SetOf knd d S m) (hd:d ∉ G.loose) :
  On G A (λcvs=>call (.ref a) cvs) σ [.str [c]] (.bool (S c)) σ:=by
 refine byQ λQ kQ=>?_
 obtain ⟨P,rfl,hm⟩:=hm
 have q_1:=ao hm;have q_2:=ao q_1.1;have h1:=q_2.1;have h2:=q_2.2;have h4:=q_1.2
 have h_p:=bS h1;have k1:=h_p.2.1;have d1:=h_p.2.2
 have h_p:=bS h4;have k2:=h_p.2.1;have d2:=h_p.2.2
 refine kQ ?_
 refine On.def (k:=0) D hr rfl (.inl rfl) λA' env W hA=>Ess.stop nofun (Es.ret (Ev.inSet hkn k2 d2 g hS hd (Ev.callB (id:="ord") k1 d1 ho rfl (Evs.cons rfl (Ev.var h2 rfl) Evs.nil) (jw (f:=.ord) hA.handled (by rfl)))))
end
open Builtin Builtin.Str
section
variable {G:Wd} {A:Around} {σ σ' σ₁:List AO}
noncomputable def mN(c:Nat):List Nat:=(placed ⟨#[c]⟩ λi _=>Unicode.lowerAt #[c] i).toList
theorem pU{c:Nat}(h:(mN c).length<=lim):On G A (λcvs=>call (.builtin "str.lower") cvs) σ [.str [c]] (.str (mN c)) σ:=λρ s cvs R r ht=>by
 obtain ⟨bz,r',rfl,aA,aL⟩:=RVs.cons_iff r
 refine(RVs.nil_iff aL)▸?_
 obtain ⟨_,t,rfl⟩:=RV.str_iff aA
 have hsz:(placed ⟨#[c]⟩ λi _=>Unicode.lowerAt #[c] i).size<=lim:=by unfold mN at h;simpa using h
 have hl:tooLong (placed ⟨#[c]⟩ λi _=>Unicode.lowerAt #[c] i).size=false:=by
  unfold tooLong
  have:sizeLine=16777216:=rfl
  unfold lim at hsz
  simp;exact Nat.le_trans ‹_› (by decide)
 refine call_gives F.slot_str_lower (typeIs_str _ _ _) F.entry_str_lower (F.args_str_lower_1 _) (gives_str_lower ⟨#[c]⟩ t hl) ?_
 dsimp only[Made.post]
 exact⟨Nat.le_trans hsz (by decide),cL (x:=⟨placed ⟨#[c]⟩ λi _=>Unicode.lowerAt #[c] i⟩) R h rfl⟩
end
theorem cU{n:Str}{c:Value}:∀ (ns:List Str) (cvs:List Value) (j:Nat),ec ns=true->ns[j]?=some n->cvs[j]?=some c->(ns.zip cvs).reverse.lookup n=some c
 | [],_,j,_,h,_=>by exact nso h
 | _::_,[],j,_,_,h=>by exact nso h
 | k::ns,v::cvs,0,hd,hn,hc=>by
  simp at hn hc
  subst hn hc
  dsimp only[ec] at hd
  obtain ⟨h1,h2⟩:=Bool.and_eq_true_iff.mp hd
  rw[List.zip_cons_cons,List.reverse_cons,List.lookup_append]
  have:(ns.zip cvs).reverse.lookup k=none:=by
   rw[List.lookup_eq_none_iff]
   intro p hp
   rw[List.mem_reverse] at hp
   have:=(List.of_mem_zip (a:=p.1) (b:=p.2) hp).1
   simp only[Bool.not_eq_true',List.contains_eq_mem,decide_eq_false_iff_not] at h1
   simp
   rintro rfl
   exact h1 this
  refine(this)▸?_
  simp [List.lookup]
 | k::ns,v::cvs,j+1,hd,hn,hc=>by
  dsimp only[ec] at hd
  obtain ⟨h1,h2⟩:=Bool.and_eq_true_iff.mp hd
  rw[List.zip_cons_cons,List.reverse_cons,List.lookup_append,cU ns cvs j h2 (by simpa using hn) (by simpa using hc)]
  rfl
noncomputable def hB(s:Scope):Bool:=s.names.all λx=>!(x.2==NameKind.cell)
noncomputable def hU(s:Scope)(ns:List Str):Bool:=ns.all λy=>s.names.lookup y==some NameKind.local
theorem dO{s:Scope}(h:hB s=true):∀ x∈s.names,x.2≠.cell:=λx hx e=>by
 have q:=List.all_eq_true.mp h x hx
 replace q:=(e)▸q
 exact ftr q
theorem dZ{s:Scope}{ns:List Str}(h:hU s ns=true):∀ y∈ns,s.names.lookup y=some .local:=λy hy=>eq_of_beq (List.all_eq_true.mp h y hy)
structure DefM (G:Wd) (a:Addr) (fd:FuncData) (body:List Stmt) (C:Cx) (ns:List Str):Prop where
 obj:∃ o,G.s₀.heap.get? a=some o/\o.data=.func fd/\o.cls=.type "function"
 la:a ∉ G.loose
 nolimit:∃ mc,G.s₀.heap.Ns cStatics mc/\mc "sys.recursionlimit"=none
 ls:cStatics ∉ G.loose
 code:∃ c o vs t file tf,fd.code=.ref c/\c ∉ G.loose/\G.s₀.heap.get? c=some o/\o.data=.fields vs/\vs[1]?=some (.str fd.qualname t)/\vs[2]?=some (.str file tf)/\((G.prog.main.file:Str)==file)=true
 body:fd.body=.stmts body
 scope:fd.scope=C.scope
 glob:fd.globals=mainGlobals
 blt:fd.builtins=builtinsNs
 co:fd.scope.isCoroutine=false
 gen:fd.scope.isGenerator=false
 cells:∀ x∈fd.scope.names,x.2≠.cell
 locs:∀ n∈ns,fd.scope.names.lookup n=some .local
 ok:b5 C ns=true
section
variable {G:Wd} {A:Around} {C C':Cx} {env cenv:Env} {W W':List Addr} {η η' η₁ η₂ bj:ac} {σ σ' σ₁ σ₂ aq σ₄ bQ:List AO} {ρ ρ' aa:Rho} {s s' au aG:Shared}
noncomputable def EssAt(G:Wd)(A:Around)(C:Cx)(env:Env)(W:List Addr)(body st:List Stmt)(σ:List AO)(η:ac)(fl:Fl)(σ':List AO)(η':ac):Prop :=
 ∀ ρ s,Rel G σ ρ s->RE G C env W η ρ s->0<s.toks->PySem.wpAt (model G.prog G.w) A (.func body env) (execs st env) (λf s'=>0<s'.toks/\∃ ρ',StepW G W ρ s ρ' s' σ'/\RE G C env W η' ρ' s'/\RF s'.heap ρ' fl f) No s
noncomputable def EsAt(G:Wd)(A:Around)(C:Cx)(env:Env)(W:List Addr)(body:List Stmt)(st:Stmt)(σ:List AO)(η:ac)(fl:Fl)(σ':List AO)(η':ac):Prop :=
 ∀ ρ s,Rel G σ ρ s->RE G C env W η ρ s->0<s.toks->PySem.wpAt (model G.prog G.w) A (.func body env) (exec st env) (λf s'=>0<s'.toks/\∃ ρ',StepW G W ρ s ρ' s' σ'/\RE G C env W η' ρ' s'/\RF s'.heap ρ' fl f) No s
theorem EsAt.of{body:List Stmt}{st:Stmt}{fl:Fl}(h:Es G A C env W st σ η fl σ' η'):EsAt G A C env W body st σ η fl σ' η':=λρ s R N ht =>
 wpAt_of_wpAny (h.use R N ht λf au aa am aR aS aA=>⟨aS,aa,am,aR,aA⟩)
theorem EssAt.of{body st:List Stmt}{fl:Fl}(h:Ess G A C env W st σ η fl σ' η'):EssAt G A C env W body st σ η fl σ' η':=λρ s R N ht =>
 wpAt_of_wpAny (h.use R N ht λf au aa am aR aS aA=>⟨aS,aa,am,aR,aA⟩)
theorem EssAt.cons{body rest:List Stmt}{st:Stmt}{fl:Fl}(h:EsAt G A C env W body st σ η .next σ₁ η₁)(hr:EssAt G A C env W body rest σ₁ η₁ fl σ₂ η₂):EssAt G A C env W body (st::rest) σ η fl σ₂ η₂:=λρ s R N ht =>
 ks_wpAt_execs_cons (ks_wpAt_mono (h ρ s R N ht) (λf au ⟨aS,aa,am,aR,aA⟩=>by
  have e:f=.next:=aA
  subst e
  exact ks_wpAt_mono (hr aa au am.rel aR aS) ((by rintro f aG ⟨c0,aC,aB,cn,aL⟩;exact⟨c0,aC,am.trans aB,cn,aL⟩)) λ_ _ f=>f.elim) λ_ _ f=>f.elim)
theorem EssAt.stop{body rest:List Stmt}{st:Stmt}{v:V}(h:EsAt G A C env W body st σ η (.ret v) σ₁ η₁):EssAt G A C env W body (st::rest) σ η (.ret v) σ₁ η₁:=λρ s R N ht =>
 ks_wpAt_execs_cons (ks_wpAt_mono (h ρ s R N ht) (λf au ⟨aS,aa,am,aR,aA⟩=>by
  obtain ⟨cv,h_p⟩:=aA;obtain rfl:=h_p.1;have hv:=h_p.2
  exact⟨aS,aa,am,aR,cv,rfl,hv⟩) λ_ _ f=>f.elim)
theorem as1{fd:FuncData}{a L:Addr}{ns:List Str}{vs:List V}{cvs:List Value}{k:Nat}(P:b5 C ns=true)(hs:fd.scope=C.scope)(hg:fd.globals=mainGlobals)(hb:fd.builtins=builtinsNs)(hc:∀ x∈fd.scope.names,x.2≠.cell)
  (hL:Off ρ L/\G.s₀.heap.get? L=none/\L ∉ G.loose) (hns:s.heap.Ns L (λx=>List.lookup x (ns.zip cvs).reverse)) (r:RVs s.heap ρ vs cvs) (hlen:vs.length=ns.length):RE G C (callEnv fd L a) [L] (aU vs k) ρ s:=by
 refine bW1 (bq P) λhCok hnd hvars _=>?_
 have nocell:∀ y∈C.vars,C.kind y.name=some .cell->False:=λy hy hk=>hc _ (hs▸(hvars y hy).2 hk) rfl
 refine⟨hCok,hs,hg,hb,List.mem_cons_self,λb hb=>List.mem_singleton.mp hb▸hL,λb hb=>?_,⟨_,hns,λy hy hk v hv=>?_⟩,λy hy hk=>(nocell y hy hk).elim,λy hy z hz hky hkz c h1 h2=>(nocell y hy hky).elim⟩
 ·exact wp hns λo es ep ho hd _=>⟨o,List.mem_singleton.mp hb▸ho,Solid.no_dict hd⟩
 ·have q:=lq (hvars y hy).1 hlen hv
  exact aQ (RVs.get r q.1) λc hc hr=>⟨c,cU ns _ y.slot hnd q.2 hc,hr⟩
theorem DefM.rec_{fd:FuncData}{a:Addr}{body:List Stmt}{ns:List Str}(D:DefM G a fd body C ns)(R:Rel G σ ρ s):s.heap.CodeRec fd.code fd.qualname:=sy R (dw1 D.code λc oc us t _ _ e1 e2 e3 e4 e5 _ _=>mO1 c oc us t e1 e2 e3 e4 e5)
theorem On.defM{a:Addr}{fd:FuncData}{body:List Stmt}{C:Cx}{ns:List Str}{vs xs:List V}{dv:List Value}{k n:Nat}{fl:Fl}{v:V}{η':ac}(D:DefM G a fd body C ns)(hr:Room A (n+1))(hlen:vs.length+xs.length=ns.length)
  (hdv:∀ (h:Heap) (ρ:Rho),RVs h ρ xs dv)
  (HB:∀ (s:Shared) (cvs:List Value),(∀ b o,b ∉ G.loose->G.s₀.heap.get? b=some o->s.heap.get? b=some o)->cvs.length=vs.length->BindsTo s fd ⟨cvs,[]⟩ (ns.zip (cvs++dv)))
  (hf:(fl=.ret v)\/(fl=.next/\v=.none))
  (H:∀ A' env W,Room A' n->env.func=some a->env.code=fd.code->env.cells=fd.closure->env.scope=fd.scope->EssAt G A' C env W body body σ (aU (vs++xs) k) fl σ' η'):On G A (λcvs=>call (.ref a) cvs) σ vs v σ':=λρ s cvs R r ht=>by
 refine pI D.obj λo hob hd _=>?_
 have hkf:fd.scope.kind=.function:=D.scope▸(Cx.ok_parts (bq D.ok).1).1
 refine wpAny_call (ks_codeAny_call_defAt (body:=body) (binds:=ns.zip (cvs++dv)) (Nat.lt_of_le_of_lt (Nat.le_add_right _ _) hr.depth) (R.keep a o D.la hob) hd (nk R D.nolimit D.ls) (D.rec_ R) D.body (HB s cvs R.keep (RVs.length r)) D.cells
  (λx hx=>D.locs _ (List.of_mem_zip (a:=x.1) (b:=x.2) hx).1) (λh₀ hns tR=>?_) D.co D.gen hkf)
 have mO:Step G ρ s ρ { s with heap:=h₀,toks:=s.toks+(ns.zip (cvs++dv)).length } σ:=Step.grow R tR ⟨_,_,rfl⟩
 have N:=as1 (k:=k) (a:=a) (s:={ s with heap:=h₀,toks:=s.toks+(ns.zip (cvs++dv)).length }) D.ok D.scope D.glob D.blt D.cells (cM R (bL (Nat.le_refl _))) hns (RVs.append (RVs.sameHeap tR r) (hdv h₀ ρ)) (List.length_append.trans hlen)
 refine ks_wpAt_mono (H _ _ _ (hr.deeper _) rfl rfl rfl rfl ρ _ mO.rel N (Nat.lt_of_lt_of_le ht (Nat.le_add_right _ _))) (λf aG h=>pI h.2 λaC aB _ aL=>?_) λ_ _ f=>f.elim
 have S:Step G ρ s aC aG σ':=(mO.toW.trans aB).drop λb hb hne=>absurd (bL (Nat.le_of_eq (List.mem_singleton.mp hb).symm)) hne
 rcases hf with rfl | ⟨rfl,rfl⟩
 ·obtain ⟨cv,rfl,hv⟩:=aL
  exact⟨aC,S,hv⟩
 ·have e:f=.next:=aL
  subst e
  exact⟨aC,S,RV.none_⟩
end
theorem iO:Slot "wrapper_descriptor" "__get__" "wrapper_descriptor.__get__":=.of (owner:="wrapper_descriptor") (n:="__get__") (by rw[typeLookup_type,builtinLookup_eq_fast];kernel_rfl) (by decide +kernel) (by decide +kernel) (by decide +kernel)
 (by first | exact .inl (by decide +kernel) | exact .inr (by decide +kernel)) (by rw[isSubtype_type];kernel_rfl)
theorem nX:entryFor table "wrapper_descriptor.__get__"=some Builtin.«wrapper_descriptor.__get__»:=entryFor_of_tree (by kernel_rfl)
theorem qT(a b c:Value):argsOk "wrapper_descriptor.__get__" ⟨[a,b,c],[]⟩:=by unfold argsOk;kernel_rfl
theorem iP:Slot "method_descriptor" "__get__" "method_descriptor.__get__":=.of (owner:="method_descriptor") (n:="__get__") (by rw[typeLookup_type,builtinLookup_eq_fast];kernel_rfl) (by decide +kernel) (by decide +kernel) (by decide +kernel)
 (by first | exact .inl (by decide +kernel) | exact .inr (by decide +kernel)) (by rw[isSubtype_type];kernel_rfl)
theorem nY:entryFor table "method_descriptor.__get__"=some Builtin.«method_descriptor.__get__»:=entryFor_of_tree (by kernel_rfl)
theorem qU(a b c:Value):argsOk "method_descriptor.__get__" ⟨[a,b,c],[]⟩:=by unfold argsOk;kernel_rfl
structure Lt (name:Str) (id dt mt:String):Prop where
 own:builtinOwn "list" name=some (.builtin id)
 ty:typeOf (.builtin id)=pure (.type dt)
 cases:(dt="wrapper_descriptor"/\mt="method-wrapper")\/(dt="method_descriptor"/\mt="builtin_function_or_method")
 told:Manifest.toldItsClass.contains id=false
theorem mi{a:Addr}:([Value.ref a,.type "list",.type "object"]:List Value).contains (.type "list")=true:=by
 rw[List.contains_cons,List.contains_cons];simp
theorem sw{a:Addr}:([Value.ref a,.type "list",.type "object"]:List Value).contains (.ref a)=true:=by
 rw[List.contains_cons];simp
section
variable {G:Wd} {A:Around} {C C':Cx} {env cenv:Env} {W W':List Addr} {η η' η₁ η₂ bj:ac} {σ σ' σ₁ σ₂ aq σ₄ bQ:List AO} {ρ ρ' aa:Rho} {s s' au aG:Shared} {m:Str->Option Value}
theorem fy(K:Acc G m)(R:Rel G σ ρ s){c:Value}{b:Bool}(hb:([Value.ref G.cls,.type "list",.type "object"]:List Value).contains c=b){M:Model}:Looks M s.heap (isSubtype (.ref G.cls) c) b:=λA Q E s' hk hQ=>by
 refine cC (cw K R) λoc cd h_p=>?_;have h1:=h_p.1;have h2:=h_p.2.1;have h3:=h_p.2.2.1;have h4:=h_p.2.2.2
 unfold isSubtype
 refine wpAny_bind (m:=mroOf (.ref G.cls)) ?_
 show wpAny M A (do return (← classData G.cls).mro) _ E s'
 refine wpAny_bind ?_
 unfold classData
 refine wpAny_bind (wpAny_load (hk _ _ h1) ?_)
 refine(h2)▸?_
 refine wpAny_pure (wpAny_pure ?_)
 refine(h3)▸?_
 dsimp only
 rw[if_neg (show ¬ (([Value.ref G.cls,.type "list",.type "object"]:List Value).isEmpty=true) from Bool.false_ne_true),hb]
 exact wpAny_pure hQ
theorem zV{id dt mt:String}{name:Str}(L:Lt name id dt mt)(hid:(id.cutAt '.').dropLast=["list"])(K:Acc G m)(R:Rel G σ ρ s){x:Addr}{o:Obj}(ho:s.heap.get? x=some o)(hc:o.cls=.ref G.cls){Q:Value->Shared->Prop}{E:Value->Shared->Prop}
  (hQ:Q (.ref s.heap.objs.size) { s with heap:=s.heap.push { cls:=.type mt,data:=.fields #[.builtin id,.ref x] } }) :
  wpAny (model G.prog G.w) A (call (.builtin (dt++".__get__")) [.builtin id,.ref x,.ref G.cls]) Q E s:=by
 have hi:∀ {A':Around} {Q:Bool->Shared->Prop} {E:Value->Shared->Prop},Q true s->wpAny (model G.prog G.w) A' (isInstance (.ref x) (.type "list")) Q E s:=λhQ=>fv K R ho hc hQ
 have hj:".".intercalate ["list"]="list":=by decide +kernel
 refine Or.elim (L.cases) (λh_l=>?_) (λh_r=>?_)
 ·obtain ⟨rfl,rfl⟩:=h_l
  refine wpAny_call_entry iO (show s.TypeIs (.builtin id) "wrapper_descriptor" from L.ty) nX ?_ (qT _ _ _)
  obtain ⟨hp,g,d,tk,os⟩:=s
  unfold Builtin.«wrapper_descriptor.__get__»
  repeat (first | (with_reducible refine hi ?_) | wp_step)
  rw[hid,hj,hc]
  refine Looks.here (fy K R mi) ?_
  repeat wp_step
  exact⟨_,rfl,hQ⟩
 ·obtain ⟨rfl,rfl⟩:=h_r
  refine wpAny_call_entry iP (show s.TypeIs (.builtin id) "method_descriptor" from L.ty) nY ?_ (qU _ _ _)
  have hT:=L.told
  obtain ⟨hp,g,d,tk,os⟩:=s
  unfold Builtin.«method_descriptor.__get__»
  repeat (first | (with_reducible refine hi ?_) | wp_step)
  rw[if_neg (by rw[hT];exact Bool.false_ne_true)]
  repeat (first | (with_reducible refine hi ?_) | wp_step)
  rw[hid,hj,hc]
  refine Looks.here (fy K R mi) ?_
  repeat wp_step
  exact⟨_,rfl,hQ⟩
noncomputable abbrev vz(D x C:Addr):Obj:={ cls:=.type "super",dict:=none,data:=.fields #[.ref D,.ref x,.ref C],slots:=#[] }
theorem dX1{so x:Addr}{o:Obj}{id dt mt:String}{name:Str}{tk:Tok}{Q:Fin->Shared->Prop}{E:Value->Shared->Prop}(L:Lt name id dt mt)(hid:(id.cutAt '.').dropLast=["list"])(K:Acc G m)(R:Rel G σ ρ s)
  (hso:s.heap.get? so=some (vz G.cls x G.cls)) (ho:s.heap.get? x=some o) (hc:o.cls=.ref G.cls) (hxC:x≠G.cls) (hn:(name==("__class__":Str))=false) (hop:Looks (model G.prog G.w) s.heap (opaqueClassAbove (.ref G.cls)) none)
  (hq:Q (.done (.ret (.ref s.heap.objs.size))) { s with heap:=s.heap.push { cls:=.type mt,data:=.fields #[.builtin id,.ref x] } }) :
  wpAny (model G.prog G.w) A (Builtin.«super.__getattribute__» ⟨[.ref so,.str name tk],[]⟩) Q E s:=by
 have hne:(Value.ref x==Value.ref G.cls)=false:=by simp [hxC]
 have hdt:(vz G.cls x G.cls).data=.fields #[.ref G.cls,.ref x,.ref G.cls]:=rfl
 have f0:(#[.ref G.cls,.ref x,.ref G.cls]:Array Value)[0]?=some (.ref G.cls):=rfl
 have f1:(#[.ref G.cls,.ref x,.ref G.cls]:Array Value)[1]?=some (.ref x):=rfl
 have f2:(#[.ref G.cls,.ref x,.ref G.cls]:Array Value)[2]?=some (.ref G.cls):=rfl
 have hmro:∀ {A':Around} {Q:List Value->Shared->Prop} {E:Value->Shared->Prop},Q [.ref G.cls,.type "list",.type "object"] s->wpAny (model G.prog G.w) A' (mroOf (.ref G.cls)) Q E s:=λhQ=>by
  refine byQ λQ kQ=>?_
  refine cC (cw K R) λoc cd h_p=>?_;have h1:=h_p.1;have h2:=h_p.2.1;have h3:=h_p.2.2.1;have h4:=h_p.2.2.2
  refine kQ ?_
  show wpAny _ _ (do return (← classData G.cls).mro) _ _ s
  refine wpAny_bind ?_
  unfold classData
  refine wpAny_bind (wpAny_load h1 ?_)
  refine(h2)▸?_
  refine wpAny_pure (wpAny_pure ?_)
  rw[h3];exact hQ
 have hg:typeLookup (.type dt) "__get__"=pure (some (.builtin (dt++".__get__"))):=by
  refine Or.elim (L.cases) (λh_l=>?_) (λh_r=>?_)
  ·obtain ⟨rfl,rfl⟩:=h_l
   exact iO.lookup
  ·obtain ⟨rfl,rfl⟩:=h_r
   exact iP.lookup
 have hty:=L.ty
 have hcl:classOwn (.type "list") name=pure (some (.builtin id)):=by
  show pure _=_
  rw[L.own]
 have hdrop:List.drop 1 (List.dropWhile (λx=>x != Value.ref G.cls) [Value.ref G.cls,Value.type "list",Value.type "object"])=[Value.type "list",Value.type "object"]:=by simp
 have hb:=λ{Q:Value->Shared->Prop} {E:Value->Shared->Prop}=>@zV G A σ ρ s m id dt mt name L hid K R x o ho hc Q E
 obtain ⟨hp,g,d,t,os⟩:=s
 dsimp only[Builtin.«super.__getattribute__»]
 repeat (first
  | (with_reducible refine wpAny_field hso hdt f0 ?_) | (with_reducible refine wpAny_field hso hdt f1 ?_) | (with_reducible refine wpAny_field hso hdt f2 ?_)
  | (with_reducible refine ks_wpAny_notOpaque hop ?_)
  | (with_reducible refine hmro ?_;rw[hdrop])
  | rw[List.forIn_cons]
  | (with_reducible refine hb ?_)
  | (simp only[hn,hne,Bool.or_false,Bool.false_eq_true,if_false])
  | wp_step
  | dsimp only)
 exact hq
theorem lg{so x:Addr}{o:Obj}{id dt mt:String}{name:Str}{pl:Sem Bool}{Q:Value×List Value->Shared->Prop}{E:Value->Shared->Prop}(L:Lt name id dt mt)(hid:(id.cutAt '.').dropLast=["list"])(K:Acc G m)(R:Rel G σ ρ s)
  (hso:s.heap.get? so=some (vz G.cls x G.cls)) (ho:s.heap.get? x=some o) (hc:o.cls=.ref G.cls) (hxC:x≠G.cls) (hn:(name==("__class__":Str))=false) (hop:Looks (model G.prog G.w) s.heap (opaqueClassAbove (.ref G.cls)) none)
  (hq:Q (.ref s.heap.objs.size,[]) { s with heap:=s.heap.push { cls:=.type mt,data:=.fields #[.builtin id,.ref x] },toks:=s.toks+1 }) :
  wpAny (model G.prog G.w) A (getMethod (.ref so) name pl) Q E s:=by
 have hlk:=F.ks_slot_super_ga.lookup
 have hcan:=F.ks_canon_super_ga
 have R':Rel G σ ρ { s with toks:=s.toks+1 }:=(Step.toks R _).rel
 obtain ⟨h,g,d,t,os⟩:=s
 have hT:∀ t',(⟨h,g,d,t',os⟩:Shared).TypeIs (.ref so) "super":=λ_=>⟨_,hso,rfl⟩
 dsimp only[getMethod]
 refine wpAny_bind (wpAny_specialOf (hT _) hlk ?_)
 show wpAny _ _ (if (Manifest.canonical "super.__getattribute__" != "object.__getattribute__")=true then _ else _) _ _ _
 refine(if_pos hcan)▸?_
 unfold getAttr getAttrBy
 refine wpAny_bind (wpAny_bind (wpAny_mkText (wpAny_holding (wpAny_bind (wpAny_typeOf (hT _) (wpAny_bind (wpAny_of_eq hlk ?_)))))))
 show wpAny _ _ (getAttrByItsOwn (.ref so) (.str name t) (.type "super") (.builtin "super.__getattribute__") true false) _ _ _
 unfold getAttrByItsOwn hookBefore callGetattribute boundAndCalled
 refine wpAny_bind (wpAny_of_eq (show (if onTheHeap (.type "super") then typeLookup (.type "super") "__getattr__" else pure none)=pure none from rfl) ?_)
 refine wpAny_bind (wpAny_attempt (wpAny_holding ?_))
 show wpAny _ _ (bindSpecial (.builtin "super.__getattribute__") (.ref so)>>=_) _ _ _
 refine wpAny_bind (wpAny_of_eq (F.ks_slot_super_ga.bind _) ?_)
 refine wpAny_mono (Q:=λv s'=>v=.ref h.objs.size/\s'=⟨h.push { cls:=.type mt,data:=.fields #[.builtin id,.ref x] },g,d,t+1,os⟩) (E:=λ_ _=>False)
  (wpAny_call_entry F.ks_slot_super_ga (hT _) F.ks_entry_super_ga (dX1 L hid K R' hso ho hc hxC hn hop ⟨_,rfl,rfl,rfl⟩) (F.ks_gaArgs_super _ _)) (λv s' hv=>?_) λ_ _ z=>z.elim
 obtain ⟨rfl,rfl⟩:=hv
 exact wpAny_pure (wpAny_pure hq)
theorem uc{b x:Addr}{id mt:String}{R:Result->Shared->Prop}(hm:mt="method-wrapper"\/mt="builtin_function_or_method")(hb:s.heap.get? b=some { cls:=.type mt,data:=.fields #[.builtin id,.ref x] })
  (hq:(Code.builtin id ⟨[.ref x],[]⟩).quiet=true) (hchk:∀ {A':Around} {Q:Unit->Shared->Prop} {E:Value->Shared->Prop},Q () s->wpAny (model G.prog G.w) A' (checkBoundCall id ⟨[.ref x],[]⟩) Q E s)
  (h:codeAny (model G.prog G.w) A (.builtin id ⟨[.ref x],[]⟩) R s):codeAny (model G.prog G.w) A (.call (.ref b) ⟨[],[]⟩) R s:=by
 refine codeAny_of_tree ?_
 show wpAny _ A.in1 (callAny (.ref b) ⟨[],[]⟩) _ _ _
 dsimp only[callAny]
 refine wpAny_bind (wpAny_load hb ?_)
 rcases hm with rfl | rfl
 ·show wpAny _ _ (checkBoundCall id ⟨[.ref x],[]⟩>>=λ_=>again (.builtin id ⟨[.ref x],[]⟩)>>=_) _ _ _
  exact wpAny_bind (hchk (wpAny_pure ⟨hq,h⟩))
 ·show wpAny _ _ (checkBoundCall id ⟨[.ref x],[]⟩>>=λ_=>again (.builtin id ⟨[.ref x],[]⟩)>>=_) _ _ _
  exact wpAny_bind (hchk (wpAny_pure ⟨hq,h⟩))
theorem j2{b x:Addr}{id mt:String}{pos:Pos}{Q:Value->Shared->Prop}{E:Value->Shared->Prop}(hm:mt="method-wrapper"\/mt="builtin_function_or_method")(hb:s.heap.get? b=some { cls:=.type mt,data:=.fields #[.builtin id,.ref x] })
  (h:wpAny (model G.prog G.w) A (call (.ref b) []) Q E s):wpAny (model G.prog G.w) A (callWith pos (.ref b) [] (backTo pos (starEach [] env)) []) Q E s:=by
 dsimp only[callWith]
 refine wpAny_bind (wpAny_holding (evalArgs_kw_nil (keywords:=[]) rfl (wpAny_pure (wpAny_bind (wpAny_standAt ?_)))))
 show wpAny _ _ (keeperOf (.ref b)>>=_) _ _ _
 have hk:∀ {Q:Keeper->Shared->Prop} {E:Value->Shared->Prop},Q .machine s->wpAny (model G.prog G.w) A (keeperOf (.ref b)) Q E s:=λhQ=>by
  unfold keeperOf
  refine wpAny_bind (wpAny_load hb ?_)
  rcases hm with rfl | rfl <;> exact wpAny_pure hQ
 refine wpAny_bind (hk ?_)
 exact wpAny_bind (wpAny_mono h (λr aG hr=>wpAny_bind (wpAny_holding (wpAny_point (wpAny_pure hr)))) λ_ _ x=>x)
end
structure Sup (G:Wd):Prop where
 sup:Gl G "super" (.type "super")
 noT:∃ mc,G.s₀.heap.Ns cStatics mc/\mc "thirdparty.any"=none
 ls:cStatics ∉ G.loose
 top:(G.prog.main.scope.names.lookup ("super":Str)).isSome=false
structure SupD (G:Wd) (fd:FuncData) (C:Cx) (x:Var):Prop where
 hx:x∈C.vars
 par:∃ ar,(fd.params.posonlyargs++fd.params.args).head?=some ar/\ar.arg=x.name
 cell:∃ cc,fd.closure.lookup ("__class__":Str)=some cc/\cc ∉ G.loose/\G.s₀.heap.IsCell cc (some (.ref G.cls))
 ks:C.kind "super"=some .globalImplicit
 kc:C.kind "__class__"=some .free
section
variable {G:Wd} {A:Around} {C C':Cx} {env cenv:Env} {W W':List Addr} {η η' η₁ η₂ bj:ac} {σ σ' σ₁ σ₂ aq σ₄ bQ:List AO} {ρ ρ' aa:Rho} {s s' au aG:Shared} {m:Str->Option Value}
theorem Gl.load{x:Str}{f:Value}(g:Gl G x f)(R:Rel G σ ρ s)(N:RE G C env W η ρ s)(hk:C.kind x=some .globalImplicit){Q:Value->Shared->Prop}{E:Value->Shared->Prop}(h:Q f s):wpAny (model G.prog G.w) A (loadName env x) Q E s:=by
 have hf:env.scope.kind=.function:=by rw[N.sc];exact(Cx.ok_parts N.ok).1
 refine ks_loadName_global hf (by unfold Env.kindOf;rw[N.sc];exact hk) ?_
 refine a4 (g.gm) λm h_p=>?_;have hm:=h_p.1;have hx:=h_p.2
 have hm':s.heap.Ns env.globals m:=by rw[N.glob];exact Ns.of_base R hm g.l1
 rcases hx with hx | ⟨hx,b,hb,hbx⟩
 ·exact loadGlobal_global hm' hx h
 ·have hb':s.heap.Ns env.builtins b:=by rw[N.blt];exact Ns.of_base R hb g.l2
  exact loadGlobal_builtin hm' hx hb' hbx h
theorem Sup.opaque(U:Sup G)(R:Rel G σ ρ s){c:Addr}{M:Model}:Looks M s.heap (opaqueClassAbove (.ref c)) none:=by
 refine a4 (U.noT) λmc h_p=>?_;have hm:=h_p.1;have hn:=h_p.2
 have hm':=Ns.of_base R hm U.ls
 have h1:Looks M s.heap (nsGet cStatics "thirdparty.any") none:=λA Q E s' k q=>wpAny_nsGet (hm'.keeps k) (by exact(hn)▸(q))
 exact Looks.andThen (a:=false) (h1.andThen .now) (by show Looks M s.heap (if (!false)=true then pure none else _) none;exact(if_pos (show (!false)=true from rfl))▸(.now))
theorem rL(K:Acc G m)(U:Sup G){a:Addr}{fd:FuncData}{body:List Stmt}{ns:List Str}(D:DefM G a fd body C ns){x:Var}(V:SupD G fd C x){p0 p1 apos pos:Pos}{k:Nat}{l:List Mine.V}{i:Int}{v:Mine.V}{id dt mt:String}{name:Str}
  (L:Lt name id dt mt) (hid:(id.cutAt '.').dropLast=["list"]) (hn:(name==("__class__":Str))=false) (hm:mt="method-wrapper"\/mt="builtin_function_or_method") (hfu:env.func=some a) (hco:env.code=fd.code) (hce:env.cells=fd.closure)
  (hη:η[x.slot]?=some (some (.ref k))) (hσ:σ[k]?=some ⟨l,some i⟩)
  (hline:(apos.endLine==pos.line)=true) (hq:∀ b,(Code.builtin id ⟨[.ref b],[]⟩).quiet=true)
  (hchk:∀ {ρ s} {b:Addr} {vs:Array Value} {n:Nat} {d:Addr},Rel G σ ρ s->s.heap.get? b=some ⟨.ref G.cls,some d,.seq vs n,#[]⟩->∀ {A':Around} {Q:Unit->Shared->Prop} {E:Value->Shared->Prop},Q () s->wpAny (model G.prog G.w) A' (checkBoundCall id ⟨[.ref b],[]⟩) Q E s)
  (hb:∀ A' ρ s p,Rel G σ ρ s->ρ.st[k]?=some p->0<s.toks->codeAny (model G.prog G.w) A' (.builtin id ⟨[.ref p.1],[]⟩) (wants (PE G ρ s σ' v) No) s)
  (R:Rel G σ ρ s) (N:RE G C env W η ρ s) (ht:0<s.toks) :
  PySem.wpAt (model G.prog G.w) A (.func body env) (eval (.Call (.Attribute (.Call (.Name "super" p0) [] [] p1) name apos) [] [] pos) env) (λcv s'=>0<s'.toks/\PE G ρ s σ' v cv s') No s:=by
 refine byQ λQ kQ=>?_
 obtain ⟨o,h_p⟩:=D.obj;have hob:=h_p.1;have hfd:=h_p.2.1
 refine dw1 (D.code) λc oc us t file tf e1 e2 e3 e4 e5 e6 e7=>?_
 refine a4 (V.par) λar h_p=>?_;have ha1:=h_p.1;have ha2:=h_p.2
 refine a4 (V.cell) λcc h_p=>?_;have hc1:=h_p.1;have hc2:=h_p.2.1;have hc3:=h_p.2.2
 have hf:env.scope.kind=.function:=by rw[N.sc];exact(Cx.ok_parts N.ok).1
 refine cC (cw K R) λoD cd h_p=>?_;have hD1:=h_p.1;have hD2:=h_p.2.1;have hD3:=h_p.2.2.1
 have kindE:∀ y,env.kindOf y=C.kind y:=λy=>by unfold Env.kindOf;rw[N.sc];rfl
 refine kQ ?_
 rw[arm_eval_Call]
 refine PySem.wpAt_bind ?_
 refine ks_wpAt_super_base (by rw[kindE];exact V.ks) (by rw[kindE];exact V.kc) hn hfu (R.keep a o D.la hob) hfd ha1 (hco.trans e1) (R.keep c oc e2 e3) e4 e6 e7 U.top ?_
 refine U.sup.load R N V.ks ⟨rfl,?_⟩
 have hcell:s.heap.IsCell cc (some (.ref G.cls)):=by
  refine aQ (hc3) λoc ho hd=>?_
  exact⟨oc,R.keep cc oc hc2 ho,hd⟩
 refine wpAny_loadName_free hf (by rw[kindE];exact V.kc) (by rw[hce];exact hc1) hcell ?_
 refine(ha2)▸?_
 refine RE.load R N V.hx hη λcv hcv=>?_
 obtain ⟨p,hp,rfl⟩:=RV.ref_iff hcv
 refine ks_wpAny_isType_cls (h:=s.heap) hD1 hD2 ⟨rfl,?_⟩
 refine byQ λQ kQ=>?_
 refine ei (a7 R hp hσ) λvs n d h_p=>?_;have g1:=h_p.1;have g2:=h_p.2.1;have g3:=h_p.2.2.1;have g4:=h_p.2.2.2.1;have g5:=h_p.2.2.2.2.1;have g6:=h_p.2.2.2.2.2
 have hxC:p.1≠G.cls:=by
  intro e
  rw[e,hD1] at g1
  obtain rfl:=siX g1
  cases hD2
 refine kQ ?_
 refine ks_wpAny_call_super (h:=s.heap) hD1 hD2 g1 rfl (λc e=>by cases e) (fy K R sw) λh' hso hk=>?_
 have am:Step G ρ s ρ { s with heap:=h' } σ:=Step.grow R hk ⟨_,_,rfl⟩
 refine PySem.wpAt_of_wpAny (wpAny_bind (wpAny_standAt ?_))
 have hform:methodCallForm (([]:List Expr).length+([]:List Keyword).length) (backTo pos (starEach [] env)) (backToKw pos (keywordEach [] env))=true:=rfl
 have hpos:methodCallPos true (.Call (.Name "super" p0) [] [] p1) env apos pos=pure pos:=by dsimp only[methodCallPos];simp [hline]
 dsimp only[methodCall]
 refine(hform)▸?_
 refine wpAny_bind (wpAny_holding ?_)
 refine lg (s:={ s with heap:=h' }) L hid K am.rel hso (hk _ _ g1) rfl hxC hn (U.opaque am.rel) ?_
 have hk2:∀ b o,h'.get? b=some o->(h'.push { cls:=.type mt,data:=.fields #[.builtin id,.ref p.1] }).get? b=some o:=λb o e=>Heap.get?_push_of_some _ e
 have aB:Step G ρ { s with heap:=h' } ρ { s with heap:=h'.push { cls:=.type mt,data:=.fields #[.builtin id,.ref p.1] },toks:=s.toks+1 } σ:=Step.grow am.rel hk2 ⟨_,_,rfl⟩
 refine wpAny_bind (wpAny_of_eq hpos ?_)
 refine j2 hm (Heap.get?_push_size _ rfl) ?_
 have HC:wpAny (model G.prog G.w) A (call (.ref h'.objs.size) []) (PE G ρ { s with heap:=h'.push { cls:=.type mt,data:=.fields #[.builtin id,.ref p.1] },toks:=s.toks+1 } σ' v) No { s with heap:=h'.push { cls:=.type mt,data:=.fields #[.builtin id,.ref p.1] },toks:=s.toks+1 } :=
  wpAny_call (uc hm (Heap.get?_push_size _ rfl) (hq _) (λhQ=>hchk aB.rel (hk2 _ _ (hk _ _ g1)) hQ) (hb A ρ _ p aB.rel hp (show 0<s.toks+1 from Nat.succ_pos _)))
 exact eo HC (by rintro cv s' hle ⟨ρ',S,r⟩;exact⟨Nat.lt_of_lt_of_le (Nat.succ_pos _) hle,ρ',am.trans (aB.trans S),r⟩)
end
open Builtin Builtin.ObjectAttr
theorem eC:StoreFacts "list" [.type "list",.type "object"] "object.__setattr__" "object" :=
 ⟨rX,F.slot_list_setattr,entryFor_of_tree (by kernel_rfl),by decide +kernel,by decide +kernel,by rw[List.contains_cons,List.contains_cons];simp,λa b c=>by unfold argsOk;kernel_rfl,λself=>by kernel_rfl⟩
structure AccX (G:Wd) (m:Str->Option Value):Prop where
 acc:Acc G m
 obj:∃ cd od sl,G.s₀.heap.get? G.cls=some ⟨.type "type",od,.cls cd,sl⟩/\cd.mro=[.ref G.cls,.type "list",.type "object"]/\cd.hasDict=true/\cd.abstract=false/\cd.hasDel=false/\(sl.toList[4]?).join=some (.builtin "list.__new__")
 hsa:m "__setattr__"=none
 hna:m "_initial_size"=none
 qn:∀ o cd,G.s₀.heap.get? G.cls=some o->o.data=.cls cd->cd.qualname=("_Accumulator":Str)
section
variable {G:Wd} {A:Around} {C C':Cx} {env cenv:Env} {W W':List Addr} {η η' η₁ η₂ bj:ac} {σ σ' σ₁ σ₂ aq σ₄ bQ:List AO} {ρ ρ' aa:Rho} {s s' au aG:Shared} {m:Str->Option Value}
theorem dl1(K:Acc G m)(R:Rel G σ ρ s){M:Model}{Q:List Value->Shared->Prop}{E:Value->Shared->Prop}(hQ:Q [.ref G.cls,.type "list",.type "object"] s):wpAny M A (mroOf (.ref G.cls)) Q E s:=by
 refine cC (cw K R) λoc cd h_p=>?_;have h1:=h_p.1;have h2:=h_p.2.1;have h3:=h_p.2.2.1;have h4:=h_p.2.2.2
 show wpAny _ _ (do return (← classData G.cls).mro) _ _ s
 refine wpAny_bind ?_
 unfold classData
 refine wpAny_bind (wpAny_load h1 ?_)
 refine(h2)▸?_
 refine wpAny_pure (wpAny_pure ?_)
 exact(h3)▸(hQ)
theorem qV(KX:AccX G m)(R:Rel G σ ρ s){x dx:Addr}{us:Array Value}{n:Nat}{name:Str}{v:Value}{Q:Unit->Shared->Prop}{E:Value->Shared->Prop}(hna:m name=none)(hl:typeLookup (.type "list") name=pure none)
  (hx:s.heap.get? x=some ⟨.ref G.cls,some dx,.seq us n,#[]⟩) (hne:dx≠x) (hns:s.heap.Ns1 dx (λ_=>none))
  (hQ:∀ h' tk',s.toks<=tk'->h'.Ns1 dx (λy=>if y=name then some v else none)->(∀ b o,b≠dx->s.heap.get? b=some o->h'.get? b=some o)->Q () { s with heap:=h',toks:=tk' }) :
  wpAny (model G.prog G.w) A (setAttr (.ref x) name v) Q E s:=by
 have K:=KX.acc
 have hsa:=KX.hsa
 refine ei (KX.obj) λcd od sl h_p=>?_;have hC0:=h_p.1;have hmro:=h_p.2.1;have hhd:=h_p.2.2.1;have hab:=h_p.2.2.2.1;have hde:=h_p.2.2.2.2.1;have h4:=h_p.2.2.2.2.2
 have f3:=eC.slot.bind (.ref x)
 have look:∀ {A':Around} {t:Nat} {nm:Str} {r:Option Value} {Q:Option Value->Shared->Prop} {E:Value->Shared->Prop},(m nm=none/\typeLookup (.type "list") nm=pure r)->Q r { s with toks:=t }->wpAny (model G.prog G.w) A' (typeLookup (.ref G.cls) nm) Q E { s with toks:=t }:=λh1 hq=>gO K (Step.toks R _).rel (.inr h1) hq
 have mro:∀ {A':Around} {t:Nat} {Q:List Value->Shared->Prop} {E:Value->Shared->Prop},Q [.ref G.cls,.type "list",.type "object"] { s with toks:=t }->wpAny (model G.prog G.w) A' (mroOf (.ref G.cls)) Q E { s with toks:=t }:=λhq=>dl1 K (Step.toks R _).rel hq
 have chk:∀ {t:Nat} {tk:Tok} {Q:Unit->Shared->Prop} {E:Value->Shared->Prop},Q () { s with toks:=t }->wpAny (model G.prog G.w) A.in1 (checkBuiltinCall "object.__setattr__" ⟨[.ref x,.str name tk,v],[]⟩) Q E { s with toks:=t }:=λ{t tk _ _} hq=>by
  have ha:=eC.args (.ref x) (.str name tk) v
  simp only[checkBuiltinCall,eC.kind,eC.split]
  refine wpAny_bind ?_
  unfold isInstance
  refine wpAny_bind (m:=typeOf (.ref x)) ?_
  unfold typeOf
  refine wpAny_bind (wpAny_load (s:={ s with toks:=t }) hx (wpAny_pure ?_))
  refine Looks.here (fy K (Step.toks R t).rel (b:=true) (by rw[List.contains_cons,List.contains_cons,List.contains_cons];simp)) ?_
  simp only[Bool.not_true,Bool.false_eq_true,if_false]
  cases hsig:Manifest.signature? "object.__setattr__" with
  | none=>exact wpAny_pure hq
  | some sig =>
   simp only[argsOk,hsig] at ha
   have h2:Bind.checkArgs "object.__setattr__" sig ⟨[.ref x,.str name tk,v],[]⟩=pure ():=ha
   show wpAny _ _ (Bind.checkArgs "object.__setattr__" sig ⟨[.ref x,.str name tk,v],[]⟩) _ _ _
   exact(h2)▸(wpAny_pure hq)
 obtain ⟨h,g,d,t,os⟩:=s
 unfold setAttr callSpecial? specialOf
 repeat (any_goals (first | assumption | (with_reducible refine wpAny_loadPart_at hx ?_) | (with_reducible refine look ⟨hsa,eC.slot.lookup⟩ ?_) | wp_step))
 refine codeAny_call_builtin eC.slot.plain eC.entry (chk ?_)
 have hpass:=eC.passes (.ref x)
 dsimp only at hx hns
 show wpAny _ _ (Builtin.«object.__setattr__» ⟨[.ref x,.str name t,v],[]⟩) _ _ _
 dsimp only[Builtin.«object.__setattr__»]
 repeat (first | rw[refuse_eq] | (rw[refuseLoop_ref,hpass]) | (with_reducible refine wpAny_loadPart_at hx ?_) | (with_reducible refine mro ?_) | (with_reducible refine look ⟨hna,hl⟩ ?_) | wp_step)
 have hC:=R.keep _ _ K.lc hC0
 refine wpAny_load (s:=⟨h,g,d,t+1,os⟩) hC (wpAny_pure ?_)
 rw[if_neg (by rw[hhd];exact Bool.false_ne_true)]
 refine wpAny_pure ?_
 show wpAny _ _ (storeInDict dx (.str name t) name v) _ _ _
 unfold storeInDict newKeyGuard
 refine wpAny_bind (wpAny_pure (wpAny_bind (wpAny_nsSet1 hns λh' hn' hs=>?_)))
 refine ei (hn'.count (Within.cons name v Within.nil)) λoD esD epD h_p=>?_;have hoD:=h_p.1;have hdD:=h_p.2.1;have hcD:=h_p.2.2
 refine wpAny_bind (wpAny_lookBehind hoD (by rw[hdD];exact pastItsLine_dict (Nat.le_trans hcD (by rw[List.length_cons,List.length_nil,sizeLine_eq];exact Nat.succ_pos _))) ?_)
 wp_walk
 exact hQ h' _ (by simp;exact Nat.le_trans (Nat.le_succ t) (Nat.le_add_right t.succ 1)) hn' λb o hb e=>(hs.2 b hb).trans e
end
theorem iI:typeLookup (.type "type") "__call__"=pure (some (.builtin "type.__call__")):=by rw[typeLookup_type,builtinLookup_eq_fast];kernel_rfl
theorem a71:isSubtype (.type "type") (.type "type")=pure true:=by rw[isSubtype_type];kernel_rfl
theorem mB(a b:Value):argsOk "list.__new__" ⟨[a,b],[]⟩:=by unfold argsOk;kernel_rfl
noncomputable abbrev dy(C dx:Addr):Obj:={ cls:=.ref C,dict:=some dx,data:=.seq #[] }
structure LMakes (M:Model) (h:Heap) (C:Addr):Prop where
 obj:∃ od cd sl,h.get? C=some ⟨.type "type",od,.cls cd,sl⟩/\cd.abstract=false/\cd.hasDel=false/\cd.mro=[.ref C,.type "list",.type "object"]
 made:Looks M h (Bind.madeBy (.ref C)) (some "list.__new__")
 base:Looks M h (Bind.staticBase (.ref C)) (.ref C)
 mro:Looks M h (mroOf (.ref C)) [.ref C,.type "list",.type "object"]
 sub:∀ c b,([Value.ref C,.type "list",.type "object"]:List Value).contains c=b->Looks M h (isSubtype (.ref C) c) b
 call:Looks M h (specialOf (.ref C) "__call__") (some (.builtin "type.__call__"))
 typ:Looks M h (isInstance (.ref C) (.type "type")) true
 ist:Looks M h (isType (.ref C)) true
section
variable {G:Wd} {A:Around} {C C':Cx} {env cenv:Env} {W W':List Addr} {η η' η₁ η₂ bj:ac} {σ σ' σ₁ σ₂ aq σ₄ bQ:List AO} {ρ ρ' aa:Rho} {s s' au aG:Shared} {m:Str->Option Value}
theorem aA1(KX:AccX G m)(R:Rel G σ ρ s){M:Model}:LMakes M s.heap G.cls:=by
 refine byQ λQ kQ=>?_
 refine uB (KX.obj) λcd od sl hC0 hmro hhd hab hde h4=>?_
 have hC:=R.keep _ _ KX.acc.lc hC0
 have mro:Looks M s.heap (mroOf (.ref G.cls)) [.ref G.cls,.type "list",.type "object"]:=by
  intro A Q E s' k q
  show wpAny _ _ (do return (← classData G.cls).mro) _ _ s'
  refine wpAny_bind ?_
  unfold classData
  refine wpAny_bind (wpAny_load (k _ _ hC) (wpAny_pure (wpAny_pure ?_)))
  exact(hmro)▸(q)
 have made:Looks M s.heap (Bind.madeBy (.ref G.cls)) (some "list.__new__"):=by
  intro A Q E s' k q
  dsimp only[Bind.madeBy]
  refine wpAny_bind (mro A _ E s' k ?_)
  rw[List.forIn_cons]
  refine wpAny_bind (wpAny_bind (wpAny_bind (wpAny_bind (wpAny_loadPart (k _ _ hC) (wpAny_pure ?_)))))
  dsimp only
  rw[← Array.getElem?_toList,h4]
  exact wpAny_pure (wpAny_pure (wpAny_pure q))
 have ty:Looks M s.heap (typeOf (.ref G.cls)) (.type "type"):=λA Q E s' k q=>by
  unfold typeOf
  exact wpAny_bind (wpAny_load (k _ _ hC) (wpAny_pure q))
 refine kQ ?_
 refine⟨⟨od,cd,sl,hC,hab,hde,hmro⟩,made,?_,mro,λc b hb=>fy KX.acc R hb,?_,?_,?_⟩
 ·intro A Q E s' k q
  unfold Bind.staticBase
  refine wpAny_bind (mro A _ E s' k ?_)
  rw[List.forIn_cons]
  exact wpAny_bind (wpAny_bind (wpAny_bind (made A _ E s' k (wpAny_pure (wpAny_pure (wpAny_pure q))))))
 ·exact ty.andThen (Looks.of_pure iI)
 ·exact ty.andThen (Looks.of_pure a71)
 ·intro A Q E s' k q
  unfold isType loadHead
  refine wpAny_bind (wpAny_loadPart (k _ _ hC) ?_)
  exact wpAny_pure q
end
section
variable {prog:Program} {w:World} {A:Around} {C:Addr} {R:Result->Shared->Prop} {h:Heap} {g:Array GenState} {d:Drawn} {t:Nat} {os:OsState}
theorem bX1{i:Value}(Y:LMakes (model prog w) h C)
  (hq:R (.ok (.ret (.ref (h.objs.size+1)))) ⟨(h.push emptyDict).push (dy C h.objs.size),g,d,t,os⟩) :
  codeAny (model prog w) A (.call (.builtin "list.__new__") ⟨[.ref C,i],[]⟩) R ⟨h,g,d,t,os⟩:=by
 refine byQ λQ kQ=>?_
 obtain ⟨⟨od,cd,sl,hC,hab,hde,hmro⟩,made,base,mro,sub,call,typ,ist⟩:=Y
 have sl1:=sub (.type "list") true mi
 refine kQ ?_
 refine codeAny_call_builtin_code (plainId_quiet F.plain_list_new _) ?_
 have ha:=mB (.ref C) i
 dsimp only[checkBuiltinCall]
 repeat (first | dsimp only[bne_self_eq_false,Bool.false_eq_true,if_false] | lk)
 have fin:codeAny (model prog w) A (.builtin "list.__new__" ⟨[.ref C,i],[]⟩) R ⟨h,g,d,t,os⟩:=by
  refine codeAny_builtin_stack F.entry_list_new rfl λp st=>?_
  refine(Around.under_plainId F.plain_list_new _)▸?_
  have hown:=owner_list_new
  simp only[hown]
  repeat lk
  refine wpAny_load (s:=⟨_,g,d,t,os⟩) (Heap.get?_push_of_some _ (Heap.get?_push_of_some _ hC)) (wpAny_pure ?_)
  refine(hde)▸?_
  refine wpAny_pure (wpAny_pure ?_)
  show R _ _
  rw[Heap.size_push]
  exact hq
 exact fin
theorem zn{i:Value}{fI:Addr}{init:Value}(hinit:init=.ref fI)(Y:LMakes (model prog w) h C)(hi:Looks (model prog w) h (typeLookup (.ref C) "__init__") (some init))(hf:∃ o,h.get? fI=some o/\o.cls=.type "function")
  (hq:codeAny (model prog w) (A.under (.builtin "type.__call__" ⟨[.ref C,i],[]⟩)) (.call init ⟨[.ref (h.objs.size+1),i],[]⟩) (InitBack (h.objs.size+1) R) ⟨(h.push emptyDict).push (dy C h.objs.size),g,d,t,os⟩) :
  codeAny (model prog w) A (.call (.ref C) ⟨[i],[]⟩) R ⟨h,g,d,t,os⟩:=by
 refine byQ λQ kQ=>?_
 have Y':=Y
 obtain ⟨⟨od,cd,sl,hC,hab,hde,hmro⟩,made,base,mro,sub,call,typ,ist⟩:=Y
 refine kQ ?_
 refine codeAny_of_tree ?_
 show wpAny _ _ (callAny (.ref C) _) _ _ _
 refine nd_load hC ?_
 show wpAny _ _ (callAny.viaDunder (.ref C) _) _ _ _
 dsimp only[callAny.viaDunder]
 refine wpAny_bind (call.at ?_)
 dsimp only
 rw[tc_bind]
 refine wpAny_bind (wpAny_pure (wpAny_bind (wpAny_pure ?_)))
 refine wpAny_pure (a:=Fin.again (.call (.builtin "type.__call__") ⟨[.ref C,i],[]⟩)) (And.intro rfl ?_)
 refine codeAny_call_builtin_at (Code.quiet_builtin _ (by decide +kernel)) entry_typeCall (check_slot tc_kind tc_split typ (tc_args _ _ _) ?_)
 dsimp only[Builtin.«type.__call__»]
 have e4:([Value.ref C,.type "list",.type "object"]:List Value).isEmpty=false:=rfl
 repeat (first | dsimp only[e4,Bool.false_eq_true,if_false] | with_reducible refine wpAny_call ?_ | lk)
 refine bX1 Y' ?_
 have k:∀ b o,h.get? b=some o->((h.push emptyDict).push (dy C h.objs.size)).get? b=some o:=λb o e=>Heap.get?_push_of_some _ (Heap.get?_push_of_some _ e)
 have hx:((h.push emptyDict).push (dy C h.objs.size)).get? (h.objs.size+1)=some (dy C h.objs.size):=by heap_get
 have t1:Looks (model prog w) ((h.push emptyDict).push (dy C h.objs.size)) (typeOf (.ref (h.objs.size+1))) (.ref C):=(Looks.ld hx).andThen .now
 have s1:=(sub (.ref C) true sw).keeps k
 have i1:=hi.keeps k
 have b0:Looks (model prog w) h (bindSpecial init (.ref (h.objs.size+1))) (init,[.ref (h.objs.size+1)]):=by
  subst hinit
  obtain ⟨o,h_p⟩:=hf;have ho:=h_p.1;have hc:=h_p.2
  unfold bindSpecial
  refine Looks.andThen (a:=.type "function") ((Looks.ld ho).andThen ?_) (Looks.of_pure (by kernel_rfl))
  exact(hc)▸(.now)
 have b1:=b0.keeps k
 unfold isInstance callSpecial? specialOf
 repeat (first | with_reducible refine wpAny_call ?_ | lk)
 refine codeAny_mono hq λr s' z=>?_
 rcases r with e | (v | _ | _ | _) <;> first | exact z | exact z.elim | skip
 obtain ⟨rfl,z⟩:=z
 exact wpAny_pure (wpAny_pure z)
end
theorem ch1:Lt "__init__" "list.__init__" "wrapper_descriptor" "method-wrapper":=⟨by kernel_rfl,by kernel_rfl,.inl ⟨rfl,rfl⟩,by decide +kernel⟩
theorem fz1:Lt "__len__" "list.__len__" "wrapper_descriptor" "method-wrapper":=⟨by kernel_rfl,by kernel_rfl,.inl ⟨rfl,rfl⟩,by decide +kernel⟩
theorem fx1:Lt "pop" "list.pop" "method_descriptor" "builtin_function_or_method":=⟨by kernel_rfl,by kernel_rfl,.inr ⟨rfl,rfl⟩,by decide +kernel⟩
theorem zP:(("list.__init__":String).cutAt '.').dropLast=["list"]:=by decide +kernel
theorem cR1:(("list.__len__":String).cutAt '.').dropLast=["list"]:=by decide +kernel
theorem cQ1:(("list.pop":String).cutAt '.').dropLast=["list"]:=by decide +kernel
theorem cbc{id:String}{sig}{self:Value}{rest kw}{a:Addr}(h1:Manifest.signature? id=some sig)(h2:builtinKind id=some .method)(hv:Manifest.varargsMethods.contains id=false) :
  ∃ (K1 K2:Bool->Sem Unit) (K3:Value->Sem Unit) (K4:ClassData->Sem Unit) (K5:ClassData->Value->Sem Unit),checkBoundCall id ⟨self::rest,kw⟩=(isInstance self (.type "module")>>=K1)/\K1 false=(isType self>>=K2) /\
   K2 false=(typeOf self>>=K3)/\K3 (.ref a)=(classData a>>=K4)/\(∀ cd,K4 cd=(typeOf (.ref a)>>=K5 cd)) /\
   ∀ cd,K5 cd (.type "type")=Bind.checkArgs id { sig with full:=s!"{cd.qualname.toString}.{Bind.lastOf id}" } ⟨self::rest,kw⟩:=by
 unfold checkBoundCall
 rw[h1]
 dsimp only
 rw[h2]
 dsimp only
 rw[if_neg (by decide)]
 iterate 5 apply Exists.intro
 apply And.intro;rfl
 apply And.intro;exact(congrArg (λb=>ite ((b || false)=true) _ _) hv).trans rfl
 apply And.intro;rfl
 apply And.intro;rfl
 apply And.intro;exact λ_=>rfl
 exact λ_=>rfl
theorem zT(a:Value):checkBoundCall "list.__init__" ⟨[a],[]⟩=pure ():=by kernel_rfl
theorem c31(a:Value):checkBoundCall "list.__len__" ⟨[a],[]⟩=pure ():=by kernel_rfl
section
variable {G:Wd} {A:Around} {C C':Cx} {env cenv:Env} {W W':List Addr} {η η' η₁ η₂ bj:ac} {σ σ' σ₁ σ₂ aq σ₄ bQ:List AO} {ρ ρ' aa:Rho} {s s' au aG:Shared} {m:Str->Option Value}
theorem c21(KX:AccX G m)(R:Rel G σ ρ s){b:Addr}{o:Obj}(ho:s.heap.get? b=some o)(hc:o.cls=.ref G.cls)(hnc:∀ c,o.data≠.cls c){Q:Unit->Shared->Prop}{E:Value->Shared->Prop}(hQ:Q () s):wpAny (model G.prog G.w) A (checkBoundCall "list.pop" ⟨[.ref b],[]⟩) Q E s:=by
 refine byQ λQ kQ=>?_
 refine ei (KX.obj) λcd od sl h_p=>?_;have hC0:=h_p.1;have hmro:=h_p.2.1;have hhd:=h_p.2.2.1;have hab:=h_p.2.2.2.1;have hde:=h_p.2.2.2.2.1;have h4:=h_p.2.2.2.2.2
 have hqn:=KX.qn _ _ hC0 rfl
 have hC:=R.keep _ _ KX.acc.lc hC0
 have hsub:=fy KX.acc R (c:=.type "module") (b:=false) (by rw[List.contains_cons,List.contains_cons,List.contains_cons];simp) (M:=model G.prog G.w)
 have hsig:Manifest.signature? "list.pop"=some ⟨.positional,"list.pop","pop",.self,[⟨"index",.posOnly,false⟩]⟩:=by kernel_rfl
 have hck:Bind.checkArgs "list.pop" ⟨.positional,"_Accumulator.pop","pop",.self,[⟨"index",.posOnly,false⟩]⟩ ⟨[.ref b],[]⟩=pure ():=by kernel_rfl
 have hk:builtinKind "list.pop"=some .method:=by kernel_rfl
 have hv:Manifest.varargsMethods.contains "list.pop"=false:=by decide +kernel
 have hl:Bind.lastOf "list.pop"="pop":=by decide +kernel
 have tob:Looks (model G.prog G.w) s.heap (typeOf (.ref b)) (.ref G.cls):=by
  refine(Looks.ld ho).andThen ?_
  exact(hc)▸(.now)
 have ins:Looks (model G.prog G.w) s.heap (isInstance (.ref b) (.type "module")) false:=tob.andThen hsub
 have ist:Looks (model G.prog G.w) s.heap (isType (.ref b)) false:=λA Q E s' k q=>by
  unfold isType loadHead
  refine wpAny_bind (wpAny_loadPart (k _ _ ho) ?_)
  obtain ⟨oc,od,odt,osl⟩:=o
  cases odt <;> first | exact wpAny_pure q | exact absurd rfl (hnc _)
 have toc:Looks (model G.prog G.w) s.heap (typeOf (.ref G.cls)) (.type "type"):=(Looks.ld hC).andThen .now
 have e0:(s!"{("_Accumulator" : Str).toString}.{"pop"}":String)="_Accumulator.pop":=by decide +kernel
 refine kQ ?_
 refine hm1 (cbc (a:=G.cls) (self:=.ref b) (rest:=[]) (kw:=[]) hsig hk hv) λK1 K2 K3 K4 K5 e1 e2 e3 e4 e5 e6=>?_
 rw[e1]
 refine wpAny_bind (ins.here ?_)
 rw[e2]
 refine wpAny_bind (ist.here ?_)
 rw[e3]
 refine wpAny_bind (tob.here ?_)
 rw[e4]
 refine wpAny_bind ?_
 unfold classData
 refine wpAny_bind (wpAny_load hC (wpAny_pure ?_))
 rw[e5]
 refine wpAny_bind (toc.here ?_)
 rw[e6,hqn,hl,e0]
 exact wpAny_of_eq hck hQ
theorem rP{k:Nat}{o:AO}(h:σ[k]?=some o):σ.set k o=σ:=by
 apply List.ext_getElem?
 intro j
 refine(List.getElem?_set)▸?_
 split
 ·subst j
  split
  ·exact h.symm
  ·rename_i q
   exact absurd (List.getElem?_eq_some_iff.mp h).1 q
 ·rfl
theorem oG{k:Nat}{l:List V}{i:Int}{p:Addr×Addr}(R:Rel G σ ρ s)(hp:ρ.st[k]?=some p)(hσ:σ[k]?=some ⟨l,some i⟩) :
  codeAny (model G.prog G.w) A (.builtin "list.__init__" ⟨[.ref p.1],[]⟩) (wants (PE G ρ s (σ.set k ⟨[],some i⟩) .none) No) s:=by
 refine byQ λQ kQ=>?_
 refine ei (a7 R hp hσ) λvs n d h_p=>?_;have g1:=h_p.1;have g2:=h_p.2.1;have g3:=h_p.2.2.1;have g4:=h_p.2.2.2.1;have g5:=h_p.2.2.2.2.1;have g6:=h_p.2.2.2.2.2
 have hsz:vs.size=l.length:=by have:=RVs.length g2;simpa using this
 refine kQ ?_
 refine codeAny_builtin F.entry_list_init ?_
 rw[Around.under_plainId (by decide +kernel) _]
 show wpAny _ A.in1 (do let old ← Builtin.List.listItems (.ref p.1);Builtin.List.listUpdate (.ref p.1) (λ_=>#[]);letGo old.toList.reverse;ret .none) _ _ s
 refine wpAny_bind ?_
 unfold Builtin.List.listItems
 refine wpAny_bind (wpAny_seqItems g1 rfl (wpAny_pure ?_))
 show wpAny _ A.in1 (updateSeq p.1 (λ_=>#[])>>=λ_=>letGo vs.toList.reverse>>=λ_=>ret .none) _ _ s
 refine wpAny_bind (wpAny_updateSeq g1 rfl (wpAny_bind (wpAny_letGo (wpAny_pure ?_))) (by rw[hsz];exact Nat.le_trans g6 (by decide)) (by decide))
 have hg:(s.heap.update p.1 (Obj.mapSeq (λ_=>(#[]:Array Value)))).get? p.1=some ⟨.ref G.cls,some p.2,.seq #[] (if (#[]:Array Value).size==vs.size then n else n+1),#[]⟩:=by
  rw[Heap.get?_update_self _ g1 (by rfl)];rfl
 exact⟨ρ,mE (t:=s.toks) R hp hσ (Heap.SameBut.update ..).extBut (Nat.zero_le _) hg λ_=>RVs.nil,RV.none_⟩
theorem qY{k:Nat}{l:List V}{i:Int}{p:Addr×Addr}(R:Rel G σ ρ s)(hp:ρ.st[k]?=some p)(hσ:σ[k]?=some ⟨l,some i⟩) :
  codeAny (model G.prog G.w) A (.builtin "list.__len__" ⟨[.ref p.1],[]⟩) (wants (PE G ρ s σ (.int l.length)) No) s:=by
 refine byQ λQ kQ=>?_
 refine ei (a7 R hp hσ) λvs n d h_p=>?_;have g1:=h_p.1;have g2:=h_p.2.1;have g3:=h_p.2.2.1;have g4:=h_p.2.2.2.1;have g5:=h_p.2.2.2.2.1;have g6:=h_p.2.2.2.2.2
 have hsz:vs.size=l.length:=by have:=RVs.length g2;simpa using this
 refine kQ ?_
 refine codeAny_builtin F.entry_list_len ?_
 rw[Around.under_plainId (by decide +kernel) _]
 show wpAny _ A.in1 (do let n ← seqSize p.1;retInt n) _ _ s
 refine wpAny_bind ?_
 unfold seqSize
 refine wpAny_bind (wpAny_loadPart g1 (wpAny_pure ?_))
 show wpAny _ A.in1 (mkInt vs.size>>=λv=>ret v) _ _ s
 refine wpAny_bind (wpAny_mkInt (wpAny_pure ?_))
 refine⟨ρ,Step.toks R _,?_⟩
 refine(hsz)▸?_
 delta RV
 exact⟨_,rfl⟩
theorem qW{k:Nat}{l:List V}{v:V}{i:Int}{p:Addr×Addr}(R:Rel G σ ρ s)(hp:ρ.st[k]?=some p)(hσ:σ[k]?=some ⟨l++[v],some i⟩) :
  codeAny (model G.prog G.w) A (.builtin "list.pop" ⟨[.ref p.1],[]⟩) (wants (PE G ρ s (σ.set k ⟨l,some i⟩) v) No) s:=by
 refine ei (a7 R hp hσ) λvs n d h_p=>?_;have g1:=h_p.1;have g2:=h_p.2.1;have g3:=h_p.2.2.1;have g4:=h_p.2.2.2.1;have g5:=h_p.2.2.2.2.1;have g6:=h_p.2.2.2.2.2
 have hsz:vs.size=l.length+1:=by have:=RVs.length g2;simpa using this
 have hlast:(l++[v])[l.length]?=some v:=by simp
 refine a4 (RVs.get g2 hlast) λc h_p=>?_;have hc:=h_p.1;have hv:=h_p.2
 have hc':vs[l.length]?=some c:=by simpa using hc
 refine codeAny_builtin F.entry_list_pop ?_
 rw[Around.under_plainId (by decide +kernel) _]
 have hcc:checkCount "pop" 0 1 0=pure ():=by kernel_rfl
 have hs1:Builtin.List.listFitsIndex (-1)=true:=by decide
 show wpAny _ A.in1 (checkCount "pop" 0 1 0>>=λ_=>_) _ _ s
 refine wpAny_bind (wpAny_of_eq hcc ?_)
 dsimp only
 refine wpAny_bind (wpAny_pure ?_)
 rw[if_neg (by rw[hs1];decide)]
 refine wpAny_bind ?_
 unfold Builtin.List.listItems
 refine wpAny_bind (wpAny_seqItems g1 rfl (wpAny_pure ?_))
 have hne:vs.isEmpty=false:=by
  cases hv':vs.isEmpty with
  | false=>rfl
  | true=>rw[Array.isEmpty_iff.mp hv'] at hsz;simp at hsz
 rw[if_neg (by rw[hne];exact Bool.false_ne_true)]
 have hi:seqIndex? (-1) vs.size=some l.length:=by
  rw[hsz]
  dsimp only[seqIndex?]
  have e1:(if (-1:Int)<0 then (-1:Int)+((l.length+1:Nat):Int) else -1)=(l.length:Int):=by
   rw[if_pos (by decide)];lia
  simp only[e1]
  rw[if_pos (by simp;exact Int.ofNat_le.mpr (Nat.le_of_eq (Eq.refl (l.length+1))))]
  simp
 refine(hi)▸?_
 show wpAny _ _ (match Option.map (λx=>(l.length,x)) vs[l.length]? with
  | some (k,x)=>do
   Builtin.List.listUpdate (Value.ref p.fst) λx=>x.eraseIdxIfInBounds k
   ret x
  | none=>do
   rule "list.pop.out-of-range"
   raiseError "IndexError" "pop index out of range") _ _ _
 refine(hc')▸?_
 show wpAny _ A.in1 (updateSeq p.1 (λx=>x.eraseIdxIfInBounds l.length)>>=λ_=>ret c) _ _ s
 have hel:(vs.eraseIdxIfInBounds l.length).size<=sizeLine:=by
  have:(vs.eraseIdxIfInBounds l.length).size<=vs.size:=by
   unfold Array.eraseIdxIfInBounds
   split
   ·rw[Array.size_eraseIdx];exact Nat.sub_le _ _
   ·exact Nat.le_refl _
  rw[hsz] at this
  simp at g6
  exact Nat.le_trans this (Nat.le_trans g6 (by decide))
 refine wpAny_bind (wpAny_updateSeq g1 rfl (wpAny_pure ?_) (by rw[hsz];simp at g6;exact Nat.le_trans g6 (by decide)) (Nat.le_succ_of_le hel))
 have hg:(s.heap.update p.1 (Obj.mapSeq (λx=>x.eraseIdxIfInBounds l.length))).get? p.1=some ⟨.ref G.cls,some p.2,.seq (vs.eraseIdxIfInBounds l.length) (if (vs.eraseIdxIfInBounds l.length).size==vs.size then n else n+1),#[]⟩:=by
  rw[Heap.get?_update_self _ g1 (by rfl)];rfl
 have st:Step G ρ s ρ { s with heap:=s.heap.update p.1 (Obj.mapSeq λxs=>xs.eraseIdxIfInBounds l.length),toks:=s.toks } (σ.set k ⟨l,some i⟩) :=
  mE (t:=s.toks) R hp hσ (Heap.SameBut.update ..).extBut (by simp at g6;exact Nat.le_of_lt ‹_›) hg λK=>by
   have h5:(vs.eraseIdxIfInBounds l.length).toList=vs.toList.take l.length:=by
    have:vs.toList.length=l.length+1:=by exact hsz
    simp only[Array.eraseIdxIfInBounds]
    rw[dif_pos (by exact Nat.le_of_eq (Eq.symm ‹_›)),Array.toList_eraseIdx,List.eraseIdx_eq_take_drop_succ,List.drop_of_length_le (by exact Nat.le_of_eq ‹_›),List.append_nil]
   rw[h5]
   have:=RVs.take l.length (RVs.mono K _ _ g2)
   simpa using this
 exact⟨ρ,st,RV.mono (Step.keepV R st) _ _ hv⟩
end
noncomputable def g91(name:Str)(P:Nat->Pos)(i:Nat):Expr:=.Call (.Attribute (.Call (.Name "super" (P i)) [] [] (P (i+1))) name (P (i+2))) [] [] (P (i+3))
noncomputable def iR(name:Str)(body:List Stmt):Prop:=∃ P:Nat->Pos,body=[.Return (some (g91 name P 0)) (P 4)]/\((P 2).endLine==(P 3).line)=true
noncomputable def yV(C:Cx)(body:List Stmt):Prop:=∃ P:Nat->Pos,body=[.Expr (.Call (.Attribute (.Name "self" (P 0)) "append" (P 1)) [.Tuple [.Name "fws" (P 2),.Name "string" (P 3)] 0 (P 4)] [] (P 5)) (P 6)] /\
 (cE C "self" 0&&cE C "fws" 1&&cE C "string" 2&&(P 1).endLine==(P 5).line)=true
noncomputable def hh1(C:Cx)(body:List Stmt):Prop:=∃ P:Nat->Pos,body=[.If (.Compare (.Call (.Attribute (.Name "self" (P 0)) "part_count" (P 1)) [] [] (P 2)) [.Eq] [.Constant (.int 0) 0 (P 3)] (P 4))
  [.Return (some (.Tuple [.Constant (.str "") 0 (P 5),.Constant (.str "") 0 (P 6)] 0 (P 7))) (P 8)] [] (P 9),.Return (some (g91 "pop" P 10)) (P 14)] /\
 (cE C "self" 0&&(P 1).endLine==(P 2).line&&(P 12).endLine==(P 13).line)=true
section
variable {G:Wd} {A:Around} {C C':Cx} {env cenv:Env} {W W':List Addr} {η η' η₁ η₂ bj:ac} {σ σ' σ₁ σ₂ aq σ₄ bQ:List AO} {ρ ρ' aa:Rho} {s s' au aG:Shared} {m:Str->Option Value}
theorem EsAt.retSup(K:Acc G m)(U:Sup G){a:Addr}{fd:FuncData}{body:List Stmt}{ns:List Str}(D:DefM G a fd body C ns){x:Var}(V:SupD G fd C x){P:Nat->Pos}{q:Nat}{rp:Pos}{k:Nat}{l:List Mine.V}{i:Int}{v:Mine.V}{id dt mt:String}{name:Str}
  (hl:((P (q+2)).endLine==(P (q+3)).line)=true) (L:Lt name id dt mt) (hid:(id.cutAt '.').dropLast=["list"]) (hn:(name==("__class__":Str))=false) (hm:mt="method-wrapper"\/mt="builtin_function_or_method") (hfu:env.func=some a) (hco:env.code=fd.code) (hce:env.cells=fd.closure)
  (hη:η[x.slot]?=some (some (.ref k))) (hσ:σ[k]?=some ⟨l,some i⟩) (hq:∀ b,(Code.builtin id ⟨[.ref b],[]⟩).quiet=true)
  (hchk:∀ {ρ s} {b:Addr} {vs:Array Value} {n:Nat} {d:Addr},Rel G σ ρ s->s.heap.get? b=some ⟨.ref G.cls,some d,.seq vs n,#[]⟩->∀ {A':Around} {Q:Unit->Shared->Prop} {E:Value->Shared->Prop},Q () s->wpAny (model G.prog G.w) A' (checkBoundCall id ⟨[.ref b],[]⟩) Q E s)
  (hb:∀ A' ρ s p,Rel G σ ρ s->ρ.st[k]?=some p->0<s.toks->codeAny (model G.prog G.w) A' (.builtin id ⟨[.ref p.1],[]⟩) (wants (PE G ρ s σ' v) No) s) :
  EsAt G A C env W body (.Return (some (g91 name P q)) rp) σ η (.ret v) σ' η:=λρ s R N ht=>by
 exact ks_wpAt_Return_some (ks_wpAt_mono (rL K U D V L hid hn hm hfu hco hce hη hσ hl hq hchk hb R N ht) ((by rintro cv au ⟨aS,aa,am,aA⟩;exact⟨aS,aa,am.toW,N.mono R am,cv,rfl,aA⟩)) λ_ _ f=>f.elim)
theorem do1(K:Acc G m){a:Addr}{fd:FuncData}{body:List Stmt}{ns:List Str}{n k:Nat}{l:List V}{i:Int}{u w:V}(D:DefM G a fd body C ns)(hm:yV C body)(hns:ns.length=3)
  (hb:∀ cvs:List Value,cvs.length=3->bindArgs fd ⟨cvs,[]⟩=pure (ns.zip cvs)) (hga:m "__getattribute__"=none) (hgt:m "__getattr__"=none) (hap:m "append"=none) (hr:Room A (n+1)) (hσ:σ[k]?=some ⟨l,some i⟩) (hl:l.length<lim) :
  On G A (λcvs=>call (.ref a) cvs) σ [.ref k,u,w] .none (σ.set k ⟨l++[.tup [u,w]],some i⟩):=by
 refine byQ λQ kQ=>?_
 obtain ⟨P,rfl,hm⟩:=hm
 simp only[Bool.and_eq_true] at hm
 obtain ⟨⟨⟨h1,h2⟩,h3⟩,h5⟩:=hm
 refine kQ ?_
 refine On.defM (k:=0) (xs:=[]) (dv:=[]) D hr (by rw[hns];rfl) (λ_ _=>RVs.nil) (λs cvs _ hl=>BindsTo.of_eq (by rw[List.append_nil];exact hb cvs hl)) (.inr ⟨rfl,rfl⟩) λA' env W hA _ _ _ _=>EssAt.of (Ess.cons (Es.expr (v:=.none) rfl ?_) Ess.nil)
 exact Ev.accBi K nq rfl rfl (show 1<29 by decide) h5 hga hgt hap (by decide) (Ev.var h1 rfl) hσ
  (Evs.cons rfl (Ev.tup (Evs.cons rfl (Ev.var h2 rfl) (Evs.cons rfl (Ev.var h3 rfl) Evs.nil)) (show 2<=lim by decide)) Evs.nil) (ir K hσ hl)
theorem hV(KX:AccX G m)(U:Sup G){a:Addr}{fd:FuncData}{body:List Stmt}{ns:List Str}{n k:Nat}{l:List Mine.V}{i:Int}(D:DefM G a fd body C ns){x:Var}(V:SupD G fd C x)(hx0:x.slot=0)(hm:iR "__len__" body)(hns:ns.length=1)
  (hb:∀ cvs:List Value,cvs.length=1->bindArgs fd ⟨cvs,[]⟩=pure (ns.zip cvs)) (hr:Room A (n+1)) (hσ:σ[k]?=some ⟨l,some i⟩) :
  On G A (λcvs=>call (.ref a) cvs) σ [.ref k] (.int l.length) σ:=by
 refine byQ λQ kQ=>?_
 obtain ⟨P,rfl,hm⟩:=hm
 refine kQ ?_
 refine On.defM (k:=0) (xs:=[]) (dv:=[]) (η':=aU [.ref k] 0) D hr (by rw[hns];rfl) (λ_ _=>RVs.nil) (λs cvs _ hl=>BindsTo.of_eq (by rw[List.append_nil];exact hb cvs hl)) (.inl rfl) λA' env W hA h1 h2 h3 _=>EssAt.stop ?_
 exact EsAt.retSup KX.acc U D V hm fz1 cR1 (by decide) (.inl rfl) h1 h2 h3 (by rw[hx0];rfl) hσ (λb=>plainId_quiet (by decide +kernel) _) (λ_ _ _ _ _ hQ=>wpAny_of_eq (c31 _) hQ)
  λA' ρ s p R hp _=>qY R hp hσ
noncomputable def pz(l:List V):V×List V:=match l.getLast? with
 | some v=>(v,l.dropLast)
 | none=>(.tup [.str [],.str []],l)
theorem gZ1(KX:AccX G m)(U:Sup G){a apc:Addr}{fd fdpc:FuncData}{body bpc:List Stmt}{ns npc:List Str}{n k:Nat}{l:List Mine.V}{i:Int}{Cpc:Cx}(D:DefM G a fd body C ns){x:Var}(V:SupD G fd C x)(hx0:x.slot=0)(hm:hh1 C body)(hns:ns.length=1)
  (hb:∀ cvs:List Value,cvs.length=1->bindArgs fd ⟨cvs,[]⟩=pure (ns.zip cvs)) (hr:Room A (n+2)) (hσ:σ[k]?=some ⟨l,some i⟩)
  (hga:m "__getattribute__"=none) (hgt:m "__getattr__"=none) (hpc:m "part_count"=some (.ref apc))
  (D':DefM G apc fdpc bpc Cpc npc) {x':Var} (V':SupD G fdpc Cpc x') (hx0':x'.slot=0) (hm':iR "__len__" bpc) (hns':npc.length=1) (hb':∀ cvs:List Value,cvs.length=1->bindArgs fdpc ⟨cvs,[]⟩=pure (npc.zip cvs)) :
  On G A (λcvs=>call (.ref a) cvs) σ [.ref k] (pz l).1 (σ.set k ⟨(pz l).2,some i⟩):=by
 obtain ⟨P,rfl,hm⟩:=hm
 have q_1:=ao hm;have q_2:=ao q_1.1;have h1:=q_2.1;have h3:=q_2.2;have h6:=q_1.2
 refine On.defM (k:=0) (xs:=[]) (dv:=[]) (η':=aU [.ref k] 0) D hr (by rw[hns];rfl) (λ_ _=>RVs.nil) (λs cvs _ hl=>BindsTo.of_eq (by rw[List.append_nil];exact hb cvs hl)) (.inl rfl) λA' env W hA e1 e2 e3 _=>?_
 refine a4 (D'.obj) λo h_p=>?_;have hob:=h_p.1;have hfd:=h_p.2.1;have hfc:=h_p.2.2
 have test:Et G A' C env W (.Compare (.Call (.Attribute (.Name "self" (P 0)) "part_count" (P 1)) [] [] (P 2)) [.Eq] [.Constant (.int 0) 0 (P 3)] (P 4)) σ (aU [.ref k] 0) (decide ((l.length:Int)=0)) σ :=
  Et.cmp rfl (Ev.accDef KX.acc rfl rfl (by decide) h3 hga hgt hpc (by decide) hob D'.la hfd hfc (Ev.var h1 rfl) hσ Evs.nil (hV KX U D' V' hx0' hm' hns' hb' hA hσ)) Ev.int_ (bw (op:=.Eq) (by have:=hA.units;lia) (by rfl))
 have emp:∀ pp:Pos,Ev G A' C env W (.Constant (.str "") 0 pp) σ (aU [.ref k] 0) (.str []) σ:=λpp=>Ev.str_ (x:="") (by decide)
 by_cases h0:l=[]
 ·subst h0
  have e:pz []=((.tup [.str [],.str []]:Mine.V),([]:List Mine.V)):=rfl
  rw[e,rP hσ]
  exact EssAt.of (Ess.stop nofun (Es.if_ test (λ_=>Ess.stop nofun (Es.ret (Ev.tup (Evs.cons rfl (emp _) (Evs.cons rfl (emp _) Evs.nil)) (show 2<=lim by decide)))) nofun))
 ·obtain ⟨l',v,rfl⟩:∃ l' v,l=l'++[v]:=⟨l.dropLast,l.getLast h0,(List.dropLast_concat_getLast h0).symm⟩
  have e:pz (l'++[v])=(v,l'):=by unfold pz;simp
  rw[e]
  have hd:decide (((l'++[v]).length:Int)=0)=false:=by simp;lia
  rw[hd] at test
  refine EssAt.cons (EsAt.of (Es.if_ test nofun (λ_=>Ess.nil))) (EssAt.stop ?_)
  exact EsAt.retSup KX.acc U D V h6 fx1 cQ1 (by decide) (.inr rfl) e1 e2 e3 (by rw[hx0];rfl) hσ (λb=>plainId_quiet (by decide +kernel) _) (λR ho _ _ _ hQ=>c21 KX R ho rfl (λ_ e=>by cases e) hQ)
   λA' ρ s p R hp _=>qW R hp hσ
end
open Builtin Builtin.List
theorem nB:builtinKind "list.__getitem__"=some .method:=by kernel_rfl
theorem ll:splitId "list.__getitem__"=some ("list","__getitem__"):=by decide +kernel
theorem ny:builtinKind "list.__setitem__"=some .slot:=by kernel_rfl
theorem li:splitId "list.__setitem__"=some ("list","__setitem__"):=by decide +kernel
section
variable {G:Wd} {A:Around} {C C':Cx} {env cenv:Env} {W W':List Addr} {η η' η₁ η₂ bj:ac} {σ σ' σ₁ σ₂ aq σ₄ bQ:List AO} {ρ ρ' aa:Rho} {s s' au aG:Shared} {m:Str->Option Value}
theorem eO(K:Acc G m)(R:Rel G σ ρ s){a:Addr}{o:Obj}{name:Str}{id n:String}{b:Builtin}{rest:List Value}(ho:s.heap.get? a=some o)(hc:o.cls=.ref G.cls)(sl:Slot "list" name id)(hm:m name=none)
  (hk:builtinKind id=some .slot\/builtinKind id=some .method) (hsplit:splitId id=some ("list",n)) (ha:argsOk id ⟨.ref a::rest,[]⟩) (hb:entryFor table id=some b) {Q:Option Value->Shared->Prop} {E:Value->Shared->Prop}
  (h:wpAny (model G.prog G.w) A.in1 (b ⟨.ref a::rest,[]⟩) (λfin s'=>∃ v,fin=.done (.ret v)/\Q (some v) s') E s):wpAny (model G.prog G.w) A (callSpecial? (.ref a) name rest) Q E s:=by
 unfold callSpecial?
 refine wpAny_bind (br K R ho hc (.inr ⟨hm,sl.lookup⟩) ?_)
 refine wpAny_holding ?_
 rw[sl.bind]
 refine wpAny_bind (wpAny_pure (wpAny_bind ?_))
 refine wpAny_call (codeAny_call_builtin sl.plain hb (gj K R ho hc hk hsplit ha ?_))
 refine wpAny_mono h (λfin s' h'=>?_) λ_ _ h'=>h'
 obtain ⟨v,h_p⟩:=h';obtain rfl:=h_p.1;have hv:=h_p.2
 exact wpAny_pure hv
theorem eN(K:Acc G m)(R:Rel G σ ρ s){a:Addr}{o:Obj}{name:Str}{k:Value}(ho:s.heap.get? a=some o)(hc:o.cls=.ref G.cls){Q:Value->Shared->Prop}{E:Value->Shared->Prop}(h:Q k s):wpAny (model G.prog G.w) A (sequenceKey (.ref a) k name) Q E s:=by
 dsimp only[sequenceKey]
 refine wpAny_bind ?_
 unfold typeOf
 refine wpAny_bind (wpAny_load ho (wpAny_pure ?_))
 refine(hc)▸?_
 show wpAny _ _ ((seqItemTypes.anyM λn=>isSubtype (.ref G.cls) (.type n))>>=_) _ _ _
 dsimp only[seqItemTypes]
 dsimp only[List.anyM]
 refine wpAny_bind (wpAny_bind ((fy K R (c:=.type "collections.deque") (b:=false) (by rw[List.contains_cons,List.contains_cons,List.contains_cons];simp)).here (wpAny_pure ?_)))
 exact wpAny_pure h
theorem gP(K:Acc G m)(R:Rel G σ ρ s){x dx sl:Addr}{items:Array Value}{n:Nat}{vl vu vs:Value}{lo hi st:Option Int}{Q:Value->Shared->Prop}{E:Value->Shared->Prop}(hx:s.heap.get? x=some ⟨.ref G.cls,some dx,.seq items n,#[]⟩)(hgi:m "__getitem__"=none)
  (hs:s.heap.IsSliceOf sl vl vu vs) (pl:IsPart vl lo) (pu:IsPart vu hi) (ps:IsPart vs st) (h0:st≠some 0)
  (h:Q (.ref s.heap.objs.size) { s with heap:=s.heap.push { cls:=.type "list",data:=.seq (slicePick items lo hi st) } })
  (hsz:items.size<=sizeLine):wpAny (model G.prog G.w) A (getItem (.ref x) (.ref sl)) Q E s:=by
 refine a4 (id hs) λos h_p=>?_;have hos:=h_p.1;have hcs:=h_p.2.1;have hds:=h_p.2.2
 have hTs:s.TypeIs (.ref sl) "slice":=⟨os,hos,hcs⟩
 unfold getItem
 refine wpAny_holding ?_
 refine wpAny_bind (eN K R hx rfl ?_)
 refine wpAny_bind (eO K R hx rfl F.slot_list_getitem hgi (.inr nB) ll (F.args_list_getitem_2 _ _) F.entry_list_getitem ?_)
 show wpAny _ _ (Builtin.List.listSubscript? (.ref sl)>>=_) _ _ s
 refine wpAny_bind ?_
 dsimp only[Builtin.List.listSubscript?]
 refine wpAny_bind (wpAny_specialOf hTs slice_no_index ?_)
 dsimp only[Option.isNone_none,if_true]
 refine wpAny_pure ?_
 show wpAny _ _ (typeOf (.ref sl)>>=_) _ _ s
 refine wpAny_bind (wpAny_typeOf hTs ?_)
 rw[if_neg (by decide)]
 rw[listSliceParts_eq]
 have hstep:¬ ((rawPart st==rawInt 0)=true):=by
  cases st with
  | none=>exact Bool.false_ne_true
  | some c =>
   intro hh
   have:c=0:=by simpa [rawPart,rawInt] using hh
   exact h0 (by rw[this])
 refine wpAny_bind (wpAny_bind (wpAny_field hos hds (x:=vs) rfl (wpAny_bind (wpAny_listPart ps ?_))))
 refine(if_neg hstep)▸?_
 refine wpAny_bind (wpAny_field hos hds (x:=vl) rfl (wpAny_bind (wpAny_listPart pl ?_)))
 refine wpAny_bind (wpAny_field hos hds (x:=vu) rfl (wpAny_bind (wpAny_listPart pu (wpAny_pure ?_))))
 refine wpAny_bind (m:=Builtin.List.listItems (.ref x)) ?_
 unfold Builtin.List.listItems
 refine wpAny_bind (wpAny_seqItems hx rfl (wpAny_pure ?_))
 refine wpAny_bind (wpAny_of_eq (sliceIndices_raw lo hi st items.size h0) ?_)
 refine wpAny_bind (wpAny_newObj_type (wpAny_pure ⟨_,rfl,wpAny_pure h⟩) (Nat.le_trans (slicePick_size_le items lo hi st) hsz))
theorem zW(K:Acc G m)(R:Rel G σ ρ s){value slice:Expr}{x:Addr}{o:Obj}{i:Value}{Q:Value->Shared->Prop}{E:Value->Shared->Prop}(hx:s.heap.get? x=some o)(hc:o.cls=.ref G.cls)(hgi:m "__getitem__"=none)
  (h:wpAny (model G.prog G.w) A (getItem (.ref x) i) Q E s):wpAny (model G.prog G.w) A (subscriptTail value slice (.ref x) i) Q E s:=by
 unfold subscriptTail
 refine wpAny_bind ?_
 refine(getitemInPython_of_ne (o:=.ref x) nofun)▸?_
 refine wpAny_bind (br K R hx hc (.inr ⟨hgi,F.slot_list_getitem.lookup⟩) ?_)
 refine wpAny_pure ?_
 refine wpAny_bind ?_
 have fin:∀ vs:List Value,wpAny (model G.prog G.w) A (operate vs (getItem (.ref x) i)) (λr d9=>wpAny (model G.prog G.w) A (letTemporaryGo value (.ref x) r>>=λ_=>pure r) Q E d9) E s :=
  λvs=>wpAny_operating (wpAny_mono h (λr d9 hH=>wpAny_bind (wpAny_letTemporaryGo (wpAny_pure hH))) λ_ _ x=>x)
 exact a4 (vD slice (.ref x) i) λvs e=>e▸fin vs
theorem jv(i n:Nat):sliceBounds (some (i:Int)) none none n=(((min i n:Nat):Int),(n:Int),1):=by
 simp only[sliceBounds,Option.getD_none]
 have h1:¬ ((i:Int)<0):=by lia
 simp only[h1,if_false,show (1:Int)>0 by decide,if_true]
 congr 1
 omega
theorem mW{α:Type}(l:List α)(i:Nat):jL l (some (i:Int)) none none=l.drop i:=by
 unfold jL
 rw[jv]
 dsimp only
 rw[sliceRange_one]
 have:=pick_run l.toArray (min i l.length) (l.length - min i l.length)
 simp only[List.getElem?_toArray] at this
 rw[this,List.take_of_length_le (by simp)]
 by_cases h:i<=l.length
 ·rw[Nat.min_eq_left h]
 ·rw[Nat.min_eq_right (by exact Nat.le_of_lt (Nat.not_le.mp h)),List.drop_of_length_le (Nat.le_refl _),List.drop_of_length_le (by exact Nat.le_of_lt (Nat.not_le.mp h))]
theorem jK(items:Array Value)(i:Nat):(slicePick items (some (i:Int)) none none).toList=items.toList.drop i:=by
 have:=mW items.toList i
 unfold jL at this
 dsimp only[slicePick]
 simpa using this
theorem Ev.accSlice(K:Acc G m){value:Expr}{lower:Option Expr}{p pos:Pos}{k i:Nat}{l:List V}{j:Int}(hgi:m "__getitem__"=none)(dJ:Ev G A C env W value σ η (.ref k) σ₁)(cV:Ep G A C env W lower σ₁ η (.int i) σ₂)(hσ:σ₂[k]?=some ⟨l,some j⟩) :
  Ev G A C env W (.Subscript value (.Slice lower none none p) pos) σ η (.lst (l.drop i)) σ₂:=λρ s R N ht=>by
 refine Subscript_ (dJ.use R N ht λbz au aa am aR aS aA=>wpAny_Slice (cV.use am.rel aR aS λb7 aG aC aB cn c0 aL=>wpAny_pure (wpAny_pure ?_)))
 refine byQ λQ kQ=>?_
 have hk:∀ b o,aG.heap.get? b=some o->(aG.heap.push { cls:=.type "slice",data:=.fields #[b7,.none,.none] }).get? b=some o:=λb o e=>Heap.get?_push_of_some _ e
 have fN:Step G aC aG aC { aG with heap:=aG.heap.push { cls:=.type "slice",data:=.fields #[b7,.none,.none] } } σ₂:=Step.grow aB.rel hk ⟨_,_,rfl⟩
 have bn1:=RV.mono (Step.keepV am.rel (aB.trans fN)) _ _ aA
 refine a4 (RV.ref_iff bn1) λq h_p=>?_;have hq:=h_p.1;obtain rfl:=h_p.2
 obtain ⟨t,rfl⟩:=RV.int_iff aL
 refine uB (a7 fN.rel hq hσ) λvs n d g1 g2 g3 g4 g5 g6=>?_
 have hsz:vs.size=l.length:=by have:=RVs.length g2;simpa using this
 refine kQ ?_
 refine zW K fN.rel g1 rfl hgi (gP K fN.rel g1 hgi (Heap.IsSliceOf.new ..) (.int _ _) .none .none nofun ?_ (by rw[hsz];exact Nat.le_trans g6 (by decide)))
 have hk5:∀ b o,(aG.heap.push { cls:=.type "slice",data:=.fields #[.int i t,.none,.none] }).get? b=some o->((aG.heap.push { cls:=.type "slice",data:=.fields #[.int i t,.none,.none] }).push { cls:=.type "list",data:=.seq (slicePick vs (some (i:Int)) none none) }).get? b=some o :=
  λb o e=>Heap.get?_push_of_some _ e
 refine⟨aC,(am.trans (aB.trans fN)).trans (Step.grow fN.rel hk5 ⟨_,_,rfl⟩),?_⟩
 dsimp only[RV]
 refine⟨by rw[List.length_drop];exact Nat.le_trans (Nat.sub_le _ _) ‹_›,_,_,rfl,bM fN.rel,⟨_,Heap.get?_push_size _ rfl⟩,RVs.sameHeap hk5 ?_⟩
 rw[jK]
 exact RVs.drop i g2
end
noncomputable def eV(C:Cx)(body:List Stmt):Prop:=∃ P:Nat->Pos,body=[.Assign [.Name "popped" (P 0)] (.Subscript (.Name "self" (P 1)) (.Slice (some (.Name "i" (P 2))) none none (P 3)) (P 4)) (P 5),
  .Assign [.Subscript (.Name "self" (P 6)) (.Slice (some (.Name "i" (P 7))) none none (P 8)) (P 9)] (.List [] (P 10)) (P 11),.Return (some (.Name "popped" (P 12))) (P 13)] /\
 (cE C "self" 0&&cE C "i" 1&&f5 C "popped" 2)=true
section
variable {G:Wd} {A:Around} {C C':Cx} {env cenv:Env} {W W':List Addr} {η η' η₁ η₂ bj:ac} {σ σ' σ₁ σ₂ aq σ₄ bQ:List AO} {ρ ρ' aa:Rho} {s s' au aG:Shared} {m:Str->Option Value}
theorem lr(items:Array Value)(i:Nat):(items.extract 0 (((min i items.size:Nat):Int)).toNat++(#[]:Array Value)++items.extract (max ((min i items.size:Nat):Int) (items.size:Int)).toNat items.size).toList=items.toList.take i:=by
 have e1:(max ((min i items.size:Nat):Int) (items.size:Int)).toNat=items.size:=by lia
 rw[e1,Int.toNat_natCast]
 simp only[Array.append_empty,Array.toList_append,Array.toList_extract,List.extract_eq_take_drop]
 simp
theorem q7(K:Acc G m){k i:Nat}{l:List V}{j:Int}{p:Addr×Addr}{sl e:Addr}{t:Tok}(R:Rel G σ ρ s)(hp:ρ.st[k]?=some p)(hσ:σ[k]?=some ⟨l,some j⟩)(hsi:m "__setitem__"=none)
  (hs:s.heap.IsSliceOf sl (.int i t) .none .none) (he:s.heap.PlainList e #[]):wpAny (model G.prog G.w) A (setItem (.ref p.1) (.ref sl) (.ref e)) (λ_ s'=>∃ ρ',Step G ρ s ρ' s' (σ.set k ⟨l.take i,some j⟩)) No s:=by
 refine byQ λQ kQ=>?_
 refine uB (a7 R hp hσ) λvs n d g1 g2 g3 g4 g5 g6=>?_
 have hsz:vs.size=l.length:=by have:=RVs.length g2;simpa using this
 refine a4 (id hs) λos h_p=>?_;have hos:=h_p.1;have hcs:=h_p.2.1;have hds:=h_p.2.2
 refine a4 (id he) λen hen=>?_
 have hTs:s.TypeIs (.ref sl) "slice":=⟨os,hos,hcs⟩
 have hxe:p.1≠e:=by rintro rfl;replace hen:=(g1)▸hen;cases hen
 refine kQ ?_
 unfold setItem
 refine wpAny_holding ?_
 refine wpAny_bind (eN K R g1 rfl ?_)
 refine wpAny_bind (eO K R g1 rfl F.slot_list_setitem hsi (.inl ny) li (F.args_list_setitem_3 _ _ _) F.entry_list_setitem ?_)
 show wpAny _ _ (Builtin.List.listSubscript? (.ref sl)>>=_) _ _ s
 refine wpAny_bind ?_
 dsimp only[Builtin.List.listSubscript?]
 refine wpAny_bind (wpAny_specialOf hTs slice_no_index ?_)
 dsimp only[Option.isNone_none,if_true]
 refine wpAny_pure ?_
 show wpAny _ _ (typeOf (.ref sl)>>=_) _ _ s
 refine wpAny_bind (wpAny_typeOf hTs ?_)
 rw[if_neg (by decide)]
 rw[listSliceParts_eq]
 refine wpAny_bind (wpAny_bind (wpAny_field hos hds (x:=.none) rfl (wpAny_bind (wpAny_listPart .none ?_))))
 refine(if_neg (show ¬ ((rawPart none==rawInt 0)=true) from Bool.false_ne_true))▸?_
 refine wpAny_bind (wpAny_field hos hds (x:=.int i t) rfl (wpAny_bind (wpAny_listPart (.int _ _) ?_)))
 refine wpAny_bind (wpAny_field hos hds (x:=.none) rfl (wpAny_bind (wpAny_listPart .none (wpAny_pure ?_))))
 have hsame:Builtin.List.listSameRef (.ref p.1) (.ref e)=false:=by simp [Builtin.List.listSameRef,hxe]
 dsimp only
 refine(hsame)▸?_
 refine wpAny_bind ?_
 unfold Builtin.List.listAllItems
 refine wpAny_bind (wpAny_typeOf (T:="list") ⟨_,hen,rfl⟩ ?_)
 refine(if_pos (show (Value.type "list"==.type "list" || Value.type "list"==.type "tuple")=true by decide))▸?_
 unfold Builtin.List.listItems
 refine wpAny_bind (wpAny_seqItems hen rfl (wpAny_pure ?_))
 refine wpAny_bind ?_
 refine wpAny_bind (wpAny_seqItems g1 rfl (wpAny_pure ?_))
 refine wpAny_bind (wpAny_of_eq (sliceIndices_raw (some (i:Int)) none none vs.size nofun) ?_)
 rw[jv]
 dsimp only
 refine(if_pos (show ((1:Int)==1)=true by decide))▸?_
 refine wpAny_bind (wpAny_rule ?_)
 have hlong:Builtin.List.listTooLong (vs.size+(#[]:Array Value).size)=false:=by
  unfold Builtin.List.listTooLong
  have:sizeLine=16777216:=rfl
  unfold lim at g6
  simp;lia
 rw[hlong,if_neg Bool.false_ne_true]
 have hit:=lr vs i
 generalize hus:(vs.extract 0 (((min i vs.size:Nat):Int)).toNat++(#[]:Array Value)++vs.extract (max ((min i vs.size:Nat):Int) (vs.size:Int)).toNat vs.size)=us at hit
 have husz:us.size<=l.length:=by
  have e1:us.size=(vs.toList.take i).length:=by rw[← hit,Array.length_toList]
  rw[e1,List.length_take,Array.length_toList,hsz];exact Nat.min_le_right _ _
 have hu:∀ o:Obj,o=⟨.ref G.cls,some p.2,.seq vs n,#[]⟩->Obj.mapSeq (λxs=>xs.extract 0 (((min i vs.size:Nat):Int)).toNat++(#[]:Array Value)++xs.extract (max ((min i vs.size:Nat):Int) (vs.size:Int)).toNat) o=⟨.ref G.cls,some p.2,.seq us (if us.size==vs.size then n else n+1),#[]⟩:=by
  rintro o rfl
  rw[← hus];rfl
 show wpAny _ _ (updateSeq p.1 _>>=λ_=>_) _ _ s
 refine wpAny_bind (wpAny_updateSeq g1 rfl (wpAny_bind (wpAny_letGo (wpAny_pure ⟨_,rfl,wpAny_pure ?_⟩))) (by rw[hsz];exact Nat.le_trans g6 (by decide)) (by rw[hus];exact Nat.le_succ_of_le (Nat.le_trans husz (Nat.le_trans g6 (by decide)))))
 refine⟨ρ,mE (t:=s.toks) R hp hσ (Heap.SameBut.update ..).extBut (by rw[List.length_take];omega) (by rw[Heap.get?_update_self _ g1 (by rfl)];exact congrArg some (hu _ rfl)) λKK=>?_⟩
 rw[hit]
 exact RVs.take i (RVs.mono KK _ _ g2)
theorem Es.accCut(K:Acc G m){o lo:Expr}{p q lp pos:Pos}{k i:Nat}{l:List V}{j:Int}(hsi:m "__setitem__"=none)(dJ:Ev G A C env W o σ η (.ref k) σ)(cV:Ev G A C env W lo σ η (.int i) σ)(hσ:σ[k]?=some ⟨l,some j⟩) :
  Es G A C env W (.Assign [.Subscript o (.Slice (some lo) none none p) q] (.List [] lp) pos) σ η .next (σ.set k ⟨l.take i,some j⟩) η:=λρ s R N ht=>by
 have hnil:Ev G A C env W (.List [] lp) σ η (.lst []) σ:=Ev.lst Evs.nil (Nat.zero_le _)
 refine wpAny_Assign_Subscript (hnil.use R N ht λm61 s₀ fQ mO ng1 kT1 iA1=>dJ.use mO.rel ng1 kT1 λbz au aa am aR aS aA=>wpAny_Slice (cV.use am.rel aR aS λb7 aG aC aB cn c0 aL=>wpAny_pure (wpAny_pure ?_))) rfl
 have hk:∀ b o,aG.heap.get? b=some o->(aG.heap.push { cls:=.type "slice",data:=.fields #[b7,.none,.none] }).get? b=some o:=λb o e=>Heap.get?_push_of_some _ e
 have fN:Step G aC aG aC { aG with heap:=aG.heap.push { cls:=.type "slice",data:=.fields #[b7,.none,.none] } } σ:=Step.grow aB.rel hk ⟨_,_,rfl⟩
 have bn1:=RV.mono (Step.keepV am.rel (aB.trans fN)) _ _ aA
 have iz1:=RV.mono (Step.keepV mO.rel (am.trans (aB.trans fN))) _ _ iA1
 refine a4 (RV.ref_iff bn1) λq h_p=>?_;have hq:=h_p.1;obtain rfl:=h_p.2
 obtain ⟨t,rfl⟩:=RV.int_iff aL
 obtain ⟨_,ae,ve,h_p⟩:=RV.lst_iff iz1;obtain rfl:=h_p.1;have hpe:=h_p.2.2.1;have hre:=h_p.2.2.2
 have hve:ve=#[]:=by
  have:=RVs.nil_iff hre
  exact Array.toList_eq_nil_iff.mp this
 subst hve
 refine wpAny_mono (q7 K fN.rel hq hσ hsi (Heap.IsSliceOf.new ..) hpe) (λ_ d9 ⟨bA,bP⟩=>?_) λ_ _ f=>f.elim
 have T:=mO.trans (am.trans (aB.trans (fN.trans bP)))
 exact⟨bA,Step.toW T,N.mono R T,rfl⟩
theorem g8(K:Acc G m){body:List Stmt}{k i:Nat}{l:List V}{j:Int}(hm:eV C body)(hgi:m "__getitem__"=none)(hsi:m "__setitem__"=none)(hσ:σ[k]?=some ⟨l,some j⟩) :
  Ess G A C env W body σ (aU [.ref k,.int i] 1) (.ret (.lst (l.drop i))) (σ.set k ⟨l.take i,some j⟩) ((aU [.ref k,.int i] 1).set 2 (some (.lst (l.drop i)))):=by
 refine byQ λQ kQ=>?_
 obtain ⟨P,rfl,hm⟩:=hm
 simp only[Bool.and_eq_true] at hm
 have h1:=hm.1.1;have h2:=hm.1.2;have h3:=hm.2
 have h4:cE C "popped" 2=true:=by
  refine a4 (bv h3) λz h_p=>?_;have hz:=h_p.1;have e1:=h_p.2.1;have e2:=h_p.2.2.1
  unfold cE
  exact List.any_eq_true.mpr ⟨z,hz,by rw[e1,e2];rfl⟩
 refine a4 (bv h3) λz h_p=>?_;have hz:=h_p.1;have hzn:=h_p.2.1;have hzs:=h_p.2.2.1;have hzo:=h_p.2.2.2
 have a:=Es.asg (G:=G) (A:=A) (env:=env) (W:=W) (p:=P 0) (pos:=P 5) hz hzo rfl (Ev.accSlice (p:=P 3) (pos:=P 4) K (i:=i) (j:=j) (l:=l) hgi (Ev.var (p:=P 1) (σ:=σ) (η:=aU [.ref k,.int i] 1) h1 rfl) (.inr ⟨_,rfl,Ev.var (p:=P 2) h2 rfl⟩) hσ)
 rw[hzn,hzs] at a
 refine kQ ?_
 exact Ess.cons a (Ess.cons (Es.accCut K hsi (Ev.var h1 rfl) (Ev.var h2 rfl) hσ) (Ess.stop nofun (Es.ret (Ev.var h4 rfl))))
theorem uq(K:Acc G m){a:Addr}{fd:FuncData}{body:List Stmt}{ns:List Str}{n k i:Nat}{l:List V}{j:Int}(D:DefM G a fd body C ns)(hm:eV C body)(hns:ns.length=2)
  (hb:∀ (s:Shared) (cvs:List Value),(∀ b o,b ∉ G.loose->G.s₀.heap.get? b=some o->s.heap.get? b=some o)->cvs.length=2->BindsTo s fd ⟨cvs,[]⟩ (ns.zip cvs)) (hgi:m "__getitem__"=none) (hsi:m "__setitem__"=none) (hr:Room A (n+1)) (hσ:σ[k]?=some ⟨l,some j⟩) :
  On G A (λcvs=>call (.ref a) cvs) σ [.ref k,.int i] (.lst (l.drop i)) (σ.set k ⟨l.take i,some j⟩) :=
 On.defM (k:=1) (xs:=[]) (dv:=[]) D hr (by rw[hns];rfl) (λ_ _=>RVs.nil) (λs cvs hk hl=>(by rw[List.append_nil];exact hb s cvs hk hl)) (.inl rfl) λA' env W hA _ _ _ _=>EssAt.of (g8 K hm hgi hsi hσ)
theorem rc(K:Acc G m){a:Addr}{fd:FuncData}{body:List Stmt}{ns:List Str}{n k:Nat}{l:List V}{j:Int}{t:Tok}(D:DefM G a fd body C ns)(hm:eV C body)(hns:ns.length=2)
  (hb:∀ (s:Shared) (cvs:List Value),(∀ b o,b ∉ G.loose->G.s₀.heap.get? b=some o->s.heap.get? b=some o)->cvs.length=1->BindsTo s fd ⟨cvs,[]⟩ (ns.zip (cvs++[.int 0 t]))) (hgi:m "__getitem__"=none) (hsi:m "__setitem__"=none) (hr:Room A (n+1)) (hσ:σ[k]?=some ⟨l,some j⟩) :
  On G A (λcvs=>call (.ref a) cvs) σ [.ref k] (.lst l) (σ.set k ⟨[],some j⟩) :=
 On.defM (k:=1) (xs:=[.int 0]) (dv:=[.int 0 t]) D hr (by rw[hns];rfl) (λ_ _=>RVs.cons RV.int_ RVs.nil) hb (.inl rfl) λA' env W hA _ _ _ _=>EssAt.of (g8 (i:=0) K hm hgi hsi hσ)
end
noncomputable def zC(P:Nat->Pos):List Stmt:=[.Assign [.Attribute (.Name "self" (P 0)) "_initial_size" (P 1)] (.Name "initial_size" (P 2)) (P 3),.Expr (g91 "__init__" P 4) (P 8)]
noncomputable def zB(C:Cx)(body:List Stmt):Prop:=∃ P:Nat->Pos,body=zC P /\
 (cE C "self" 0&&cE C "initial_size" 1&&(P 6).endLine==(P 7).line)=true
theorem oZ(C:Addr)(i:Value):(Code.builtin "type.__call__" ⟨[.ref C,i],[]⟩).weight=1:=by kernel_rfl
theorem df:typeLookup (.type "list") "_initial_size"=pure none:=by rw[typeLookup_type,builtinLookup_eq_fast];kernel_rfl
section
variable {G:Wd} {A:Around} {C C':Cx} {env cenv:Env} {W W':List Addr} {η η' η₁ η₂ bj:ac} {σ σ' σ₁ σ₂ aq σ₄ bQ:List AO} {ρ ρ' aa:Rho} {s s' au aG:Shared} {m:Str->Option Value}
theorem zX(K:Acc G m)(R:Rel G σ ρ s){name:Str}{v:Value}(h:m name=some v){M:Model}:Looks M s.heap (typeLookup (.ref G.cls) name) (some v):=λA Q E s' k hQ=>by
 refine cC (cw K R) λo cd h_p=>?_;have h1:=h_p.1;have h2:=h_p.2.1;have h3:=h_p.2.2.1;have h4:=h_p.2.2.2
 have h1':=k _ _ h1
 have h4':=h4.keeps k
 rw[typeLookup_eq]
 refine wpAny_bind (m:=mroOf (.ref G.cls)) ?_
 show wpAny M A (do return (← classData G.cls).mro) _ E s'
 refine wpAny_bind ?_
 unfold classData
 refine wpAny_bind (wpAny_load h1' ?_)
 refine(h2)▸?_
 refine wpAny_pure (wpAny_pure ?_)
 rw[h3,lookupAlong_cons]
 refine wpAny_bind ?_
 show wpAny M A (do nsGet (← classData G.cls).ns name) _ E s'
 refine wpAny_bind ?_
 unfold classData
 refine wpAny_bind (wpAny_load h1' ?_)
 refine(h2)▸?_
 refine wpAny_pure (wpAny_nsGet h4' ?_)
 exact(h)▸(wpAny_pure hQ)
theorem rU{a L:Addr}{fd:FuncData}{body:List Stmt}{ns:List Str}(D:DefM G a fd body C ns){w:Var}{j:Nat}{c:Value}{cvs:List Value}{p:Pos}(hw:w∈C.vars)(hj:ns[j]?=some w.name)(hc:cvs[j]?=some c)
  (hns:s.heap.Ns L (λx=>List.lookup x (ns.zip cvs).reverse)) {Q:Value->Shared->Prop} {E:Value->Shared->Prop} (hQ:Q c s):wpAny (model G.prog G.w) A (eval (.Name w.name p) (callEnv fd L a)) Q E s :=
 bW1 (bq D.ok) λhCok hnd _ _=>wpAny_Name (wpAny_loadName_local (show fd.scope.kind=.function from D.scope▸(Cx.ok_parts hCok).1) (D.locs _ (List.mem_of_getElem? hj)) hns (cU ns cvs j hnd hj hc) hQ) ((Cx.ok_parts hCok).2 w hw).2.1
theorem rT{a:Addr}{fd:FuncData}{body:List Stmt}{ns:List Str}(D:DefM G a fd body C ns){w:Var}{j:Nat}(hw:w∈C.vars)(hj:w.slot=j)(hl:j<ns.length):ns[j]?=some w.name :=
 have e:=List.getElem?_eq_getElem hl
 e.trans (congrArg some (((bq D.ok).2.2.1 w hw).1 _ (hj▸e)))
theorem bU1{xA dA L:Addr}(h:Off ρ L)(h1:xA≠L)(h2:dA≠L):Off ⟨ρ.st++[(xA,dA)],ρ.hid⟩ L :=
 ⟨λp hp=>Or.elim (List.mem_append.mp hp) (h.1 p) λhp=>List.mem_singleton.mp hp▸⟨h1,h2⟩,h.2⟩
theorem zA(KX:AccX G m)(U:Sup G){a:Addr}{fd:FuncData}{P:Nat->Pos}{ns:List Str}{i:Int}{t:Tok}(D:DefM G a fd (zC P) C ns){x:Var}(V:SupD G fd C x)(hx0:x.slot=0)
  (hm:(cE C "self" 0&&cE C "initial_size" 1&&(P 6).endLine==(P 7).line)=true) (hns:ns.length=2) {xA dA L:Addr} {h₀:Heap} {tk:Nat} (R:Rel G σ ρ s) (hxA:s.heap.get? xA=none) (hdA:s.heap.get? dA=none) (hL:s.heap.get? L=none)
  (n1:dA≠xA) (n2:dA≠L) (n3:xA≠L) (k0:∀ b ob,s.heap.get? b=some ob->h₀.get? b=some ob) (hx:h₀.get? xA=some (dy G.cls dA)) (hd:h₀.get? dA=some emptyDict)
  (hnl:h₀.Ns L (λy=>List.lookup y (ns.zip [.ref xA,.int i t]).reverse)) (htk:0<tk) :
  PySem.wpAt (model G.prog G.w) A (.func (zC P) (callEnv fd L a)) (execs (zC P) (callEnv fd L a)) (λf s'=>f=.next/\PE G ρ s (σ++[⟨[],some i⟩]) (.ref σ.length) (.ref xA) s') No { s with heap:=h₀,toks:=tk }:=by
 have q:=ao hm
 have q1:=ao q.1
 refine pI (cp q1.1) λy hy hyn hys=>pI (cp q1.2) λz hz hzn hzs=>?_
 have ne1:Rel G σ ρ { s with heap:=h₀,toks:=tk }:=(Step.grow R k0 ⟨_,_,rfl⟩).rel
 have hdn:h₀.Ns1 dA (λ_=>none):=Heap.Ns1.of_empty ⟨_,#[],_,hd,rfl,λe he=>absurd he (by simp),λ_=>rfl⟩
 refine ks_wpAt_execs_cons (ks_wpAt_Assign_Attr (PySem.wpAt_of_wpAny (hzn▸rU (s:={ s with heap:=h₀,toks:=tk }) D hz (rT D hz hzs (hns▸by decide)) rfl hnl (hyn▸rU (s:={ s with heap:=h₀,toks:=tk }) D hy (rT D hy hys (hns▸by decide)) rfl hnl ?_))) (by rfl))
 refine qV (s:={ s with heap:=h₀,toks:=tk }) KX ne1 KX.hna df hx n1 hdn λh' tk' htk' hn' hk'=>?_
 have k1:∀ b ob,s.heap.get? b=some ob->h'.get? b=some ob:=λb ob e=>hk' b ob (λq=>son (e.symm.trans (q▸hdA))) (k0 b ob e)
 have T:Step G ρ s ⟨ρ.st++[(xA,dA)],ρ.hid⟩ { s with heap:=h',toks:=tk' } (σ++[⟨[],some i⟩]) :=
  Step.add R k1 ⟨_,_,rfl⟩ hxA hdA λ_=>by
   delta RO
   exact⟨Nat.zero_le _,#[],0,_,hk' _ _ n1.symm hx,RVs.nil,hn'.ns,⟨t,if_pos rfl⟩,λw hw=>if_neg hw⟩
 have hL':=cM R hL
 have hp0:(⟨ρ.st++[(xA,dA)],ρ.hid⟩:Rho).st[σ.length]?=some (xA,dA):=by
  show (ρ.st++[(xA,dA)])[σ.length]?=_
  rw[← R.len];simp
 have N:RE G C (callEnv fd L a) [L] (aU [.ref σ.length,.int i] 0) ⟨ρ.st++[(xA,dA)],ρ.hid⟩ { s with heap:=h',toks:=tk' } :=
  as1 D.ok D.scope D.glob D.blt D.cells ⟨bU1 hL'.1 n3 n2,hL'.2⟩ (wp hnl λoL es ep eL hd rest=>kk1 oL es ep (hk' L oL n2.symm eL) hd rest) (RVs.cons (by delta RV;exact⟨_,hp0,rfl⟩) (RVs.cons (by delta RV;exact⟨_,rfl⟩) RVs.nil)) hns.symm
 have i11:(σ++[⟨[],some i⟩])[σ.length]?=some ⟨[],some i⟩:=by simp
 refine ks_wpAt_execs_cons (ks_wpAt_Expr_any (ks_wpAt_mono (rL KX.acc U D V ch1 zP (by decide) (.inl rfl) rfl rfl rfl (by rw[hx0];rfl) i11 q.2 (λb=>plainId_quiet (by decide +kernel) _) (λ_ _ _ _ _ hQ=>wpAny_of_eq (zT _) hQ)
  (λA' ρ s p R hp _=>oG R hp i11) T.rel N (Nat.lt_of_lt_of_le htk htk')) (λcv d9 h=>?_) λ_ _ f=>f.elim) (eH N) (by rfl))
 obtain ⟨ka,bA,bP,gn⟩:=h
 refine PySem.wpAt_of_wpAny (wpAny_execs_nil ⟨rfl,bA,(rP i11)▸T.trans bP,?_⟩)
 refine a4 bP.ext λnew e=>?_
 delta RV
 exact⟨(xA,dA),by rw[e.1];exact(List.getElem?_append_left (List.getElem?_eq_some_iff.mp hp0).1).trans hp0,rfl⟩
theorem dp1(KX:AccX G m)(U:Sup G){a:Addr}{fd:FuncData}{body:List Stmt}{ns:List Str}{n:Nat}{i:Int}(D:DefM G a fd body C ns){x:Var}(V:SupD G fd C x)(hx0:x.slot=0)(hm:zB C body)(hns:ns.length=2)
  (hb:∀ (s:Shared) (cvs:List Value),(∀ b o,b ∉ G.loose->G.s₀.heap.get? b=some o->s.heap.get? b=some o)->cvs.length=2->BindsTo s fd ⟨cvs,[]⟩ (ns.zip cvs)) (hin:m "__init__"=some (.ref a)) (hr:Room A (n+2)) :
  On G A (λcvs=>call (.ref G.cls) cvs) σ [.int i] (.ref σ.length) (σ++[⟨[],some i⟩]):=λρ s cvs R r ht=>by
 obtain ⟨c,r',rfl,r1,r2⟩:=RVs.cons_iff r
 refine(RVs.nil_iff r2)▸?_
 obtain ⟨t,rfl⟩:=RV.int_iff r1
 obtain ⟨P,h_p⟩:=hm;obtain rfl:=h_p.1;have hm:=h_p.2
 refine pI D.obj λo hob hd hoc=>?_
 have ho:=R.keep a o D.la hob
 have hkf:fd.scope.kind=.function:=D.scope▸(Cx.ok_parts (bq D.ok).1).1
 have k0:∀ b ob,s.heap.get? b=some ob->((s.heap.push emptyDict).push (dy G.cls s.heap.objs.size)).get? b=some ob:=λb ob e=>Heap.get?_push_of_some _ (Heap.get?_push_of_some _ e)
 have hx0':((s.heap.push emptyDict).push (dy G.cls s.heap.objs.size)).get? (s.heap.objs.size+1)=some (dy G.cls s.heap.objs.size):=by heap_get
 have hd0:((s.heap.push emptyDict).push (dy G.cls s.heap.objs.size)).get? s.heap.objs.size=some emptyDict:=by heap_get
 have hsz1:((s.heap.push emptyDict).push (dy G.cls s.heap.objs.size)).objs.size=s.heap.objs.size+2:=by rw[Heap.size_push,Heap.size_push]
 have hcr:=j81 (D.rec_ R) λc oc us t e1 e2 e3 e4=>ki1 c oc us t e1 (k0 _ _ e2) e3 e4
 refine wpAny_call (zn rfl (aA1 KX R) (zX KX.acc R hin) ⟨o,ho,hoc⟩ ?_)
 generalize (s.heap.push emptyDict).push (dy G.cls s.heap.objs.size)=dJ at k0 hx0' hd0 hsz1 hcr
 refine ks_codeAny_call_defAt (body:=_) (binds:=ns.zip [.ref (s.heap.objs.size+1),.int i t]) ?_ (k0 _ _ ho) hd ((nk R D.nolimit D.ls).keeps k0) hcr D.body (hb _ _ (λb ob hl e=>k0 _ _ (R.keep b ob hl e)) rfl) D.cells (λx hx=>D.locs _ (List.of_mem_zip (a:=x.1) (b:=x.2) hx).1) (λh₀ fV1 tR=>?_) D.co D.gen hkf
 ·show A.depth+(Code.builtin "type.__call__" ⟨[.ref G.cls,.int i t],[]⟩).weight<recursionLimit
  rw[oZ]
  exact Nat.lt_of_le_of_lt (Nat.add_le_add_left (Nat.le_add_left 1 (n+1)) _) hr.depth
 ·have ne:∀ {b c:Nat},b<c->b≠c:=Nat.ne_of_lt
  refine ks_wpAt_mono (zA (s:=s) KX U D V hx0 hm hns (xA:=s.heap.objs.size+1) (dA:=s.heap.objs.size) (L:=dJ.objs.size) (h₀:=h₀) R (bL (Nat.le_succ _)) (bL (Nat.le_refl _)) (bL (by rw[hsz1];exact Nat.le_add_right _ 2)) (ne (Nat.lt_succ_self _)) (by rw[hsz1];exact ne (Nat.lt_add_of_pos_right (by decide)))
   (by rw[hsz1];exact ne (Nat.lt_succ_self _)) (λb ob e=>tR _ _ (k0 b ob e)) (tR _ _ hx0') (tR _ _ hd0) fV1 (Nat.lt_of_lt_of_le ht (Nat.le_add_right _ _))) (λf s' h=>?_) λ_ _ f=>f.elim
  refine(h.1)▸?_
  exact⟨rfl,h.2⟩
end
noncomputable def b3M(C:Cx)(body:List Stmt):Prop:=∃ P:Nat->Pos,body=[.Assign [.Name "r" (P 0)] (.Call (.Attribute (.Name "b3_exceptions" (P 1)) "get" (P 2)) [.Call (.Name "ord" (P 3)) [.Name "code" (P 4)] [] (P 5)] [] (P 6)) (P 7),
  .If (.Compare (.Name "r" (P 8)) [.IsNot] [.Constant .none 0 (P 9)] (P 10)) [.Return (some (.Name "r" (P 11))) (P 12)] [] (P 13),.Return (some (.Call (.Attribute (.Name "code" (P 14)) "lower" (P 15)) [] [] (P 16))) (P 17)] /\
 (f5 C "r" 1&&cE C "r" 1&&cE C "code" 0&&hJ C "b3_exceptions" "b3_exceptions"&&hJ C "ord" "ord"&&(P 2).endLine==(P 6).line&&(P 15).endLine==(P 16).line)=true
theorem w5(x:Str)(t:Tok):compareOp .IsNot (.str x t) .none=pure (.bool true):=by kernel_rfl
theorem tO:compareOp .IsNot .none .none=pure (.bool false):=by kernel_rfl
theorem zg:Mt "str" "lower" "str.lower":=⟨F.plainAttrs_str,F.slot_str_lower,by kernel_rfl⟩
section
variable {G:Wd} {A:Around} {σ σ' σ₁:List AO}
theorem jI1{a d:Addr}{fd:FuncData}{body:List Stmt}{C:Cx}{ns:List Str}{n c:Nat}{knd:KeyKind G.prog G.w Int}{f:Int->Option Value}{g:Nat->Option (List Nat)}(hns:ns.length=1)(hkn:∀ i t,knd.is i (.int i t)=true)(D:Def G a fd body C ns)(hm:b3M C body)
  (hr:Room A (n+1)) (ho:Gl G "ord" (.builtin "ord")) (gl:Gl G "b3_exceptions" (.ref d)) (hds:(d==sysModules)=false) (hno:∃ o,G.s₀.heap.get? d=some o/\o.cls=.type "dict"/\o.dict=none)
  (hM:∀ s:Shared,(∀ o,G.s₀.heap.get? d=some o->s.heap.get? d=some o)->s.heap.MapOf knd d f) (hd:d ∉ G.loose)
  (hv:∀ c:Nat,match g c with | some l=>l.length<=lim/\∃ t,f c=some (.str ⟨l.toArray⟩ t) | none=>f c=none) (hlow:(mN c).length<=lim) :
  On G A (λcvs=>call (.ref a) cvs) σ [.str [c]] (.str (match g c with | some l=>l | none=>mN c)) σ:=by
 refine byQ λQ kQ=>?_
 obtain ⟨P,rfl,hm⟩:=hm
 simp only[Bool.and_eq_true] at hm
 obtain ⟨⟨⟨⟨⟨⟨h1,h1'⟩,h6⟩,h2⟩,h5⟩,h4⟩,h11⟩:=hm
 refine a4 (bv h1) λr h_p=>?_;have hr1:=h_p.1;have hrn:=h_p.2.1;have hr2:=h_p.2.2.1;have hr3:=h_p.2.2.2
 have h_p:=bS h2;have k2:=h_p.2.1;have d2:=h_p.2.2
 have h_p:=bS h5;have k5:=h_p.2.1;have d5:=h_p.2.2
 have key:∀ (A':Around) (env:Env) (W:List Addr) (v:V),(∀ (h:Heap) ρ,RV h ρ v ((f (c:Int)).getD .none))->A'.handled=none ->
   Es G A' C env W (.Assign [.Name "r" (P 0)] (.Call (.Attribute (.Name "b3_exceptions" (P 1)) "get" (P 2)) [.Call (.Name "ord" (P 3)) [.Name "code" (P 4)] [] (P 5)] [] (P 6)) (P 7)) σ (aU [.str [c]] 1) .next σ ((aU [.str [c]] 1).set 1 (some v)):=λA' env W v hv' hh=>by
  have:=Es.asg (p:=P 0) (pos:=P 7) hr1 hr3 rfl (Ev.dictGet (A:=A') (env:=env) (W:=W) (η:=aU [.str [c]] 1) (σ:=σ) (σ₁:=σ) (p:=P 1) (apos:=P 2) (pos:=P 6) (f:=f) (v:=v) hkn k2 d2 gl hds hno hM hd hv' rfl h4 (Ev.callB (id:="ord") (p:=P 3) (pos:=P 5) k5 d5 ho rfl (Evs.cons rfl (Ev.var (p:=P 4) h6 rfl) Evs.nil) (jw (f:=.ord) hh (by rfl))))
  rw[hrn,hr2] at this
  exact this
 have hc:=hv c
 refine kQ ?_
 cases hg:g c with
 | some l =>
  rw[hg] at hc
  obtain ⟨hl,t,ht⟩:=hc
  have hv':∀ (h:Heap) ρ,RV h ρ (.str l) ((f (c:Int)).getD .none):=λh ρ=>by
   rw[ht]
   delta RV
   exact⟨hl,t,rfl⟩
  refine On.def (k:=1) (fl:=.ret (.str l)) (η':=(aU [.str [c]] 1).set 1 (some (.str l))) D hr (by rw[hns];rfl) (.inl rfl) λA' env W hA=>Ess.cons (key A' env W (.str l) hv' hA.handled) ?_
  refine Ess.stop nofun (Es.if_ (c:=true) (σ₁:=σ) (Et.cmp (σ₁:=σ) (σ₂:=σ) (v₁:=.str l) (v₂:=.none) rfl (Ev.var h1' rfl) Ev.none_ (On.two λρ s bz b7 R aA aL ht=>?_)) (λ_=>Ess.stop nofun (Es.ret (Ev.var h1' rfl))) nofun)
  obtain ⟨_,u,rfl⟩:=RV.str_iff aA
  rw[RV.none_iff aL]
  exact wpAny_of_eq (w5 _ _) (aK R)
 | none =>
  replace hc:=(hg)▸hc
  have hv':∀ (h:Heap) ρ,RV h ρ .none ((f (c:Int)).getD .none):=λh ρ=>by
   rw[hc]
   delta RV
   rfl
  refine On.def (k:=1) (fl:=.ret (.str (mN c))) (η':=(aU [.str [c]] 1).set 1 (some .none)) D hr (by rw[hns];rfl) (.inl rfl) λA' env W hA=>Ess.cons (key A' env W .none hv' hA.handled) ?_
  refine Ess.cons (Es.if_ (c:=false) (σ₁:=σ) (Et.cmp (σ₁:=σ) (σ₂:=σ) (v₁:=.none) (v₂:=.none) rfl (Ev.var h1' rfl) Ev.none_ (On.two λρ s bz b7 R aA aL ht=>?_)) nofun (λ_=>Ess.nil)) ?_
  ·rw[RV.none_iff aA,RV.none_iff aL]
   exact wpAny_of_eq tO (aK R)
  ·exact Ess.stop nofun (Es.ret (Ev.meth zg rfl rfl (by decide) h11 (Ev.var h6 rfl) rfl Evs.nil (pU hlow)))
end
noncomputable def fd1:rb:=λvs σ=>match vs with
 | [.int i]=>some (.ref σ.length,σ++[⟨[],some i⟩])
 | _=>none
noncomputable def td:rb:=λvs σ=>match vs with
 | [.ref k,a,b]=>match σ[k]? with
  | some ⟨l,some i⟩=>if l.length<lim then some (.none,σ.set k ⟨l++[.tup [a,b]],some i⟩) else none
  | _=>none
 | _=>none
noncomputable def eW:rb:=λvs σ=>match vs with
 | [.ref k]=>match σ[k]? with
  | some ⟨l,some i⟩=>some (.lst l,σ.set k ⟨[],some i⟩)
  | _=>none
 | [.ref k,.int j]=>match σ[k]? with
  | some ⟨l,some i⟩=>if 0<=j then some (.lst (l.drop j.toNat),σ.set k ⟨l.take j.toNat,some i⟩) else none
  | _=>none
 | _=>none
noncomputable def bP1:rb:=λvs σ=>match vs with
 | [.ref k]=>match σ[k]? with
  | some ⟨l,some i⟩=>some ((pz l).1,σ.set k ⟨(pz l).2,some i⟩)
  | _=>none
 | _=>none
noncomputable def pB1(S:Int->Bool):rb:=λvs σ=>match vs with
 | [.str [c]]=>some (.bool (S c),σ)
 | _=>none
noncomputable def pB3(g:Nat->Option (List Nat)):rb:=λvs σ=>match vs with
 | [.str [c]]=>if (mN c).length<=lim then some (.str (match g c with | some l=>l | none=>mN c),σ) else none
 | _=>none
theorem qX{β:Type}{o:Option AO}{f:List V->Int->Option β}{r:β}{P:Prop} (h:(match o with
  | some ⟨l,some i⟩=>f l i
  | _=>none)=some r) (q:∀ l i,o=some ⟨l,some i⟩->f l i=some r->P):P:=by
 cases o with
 | none=>exact nso h
 | some o =>
  obtain ⟨l,a⟩:=o
  cases a with
  | none=>exact nso h
  | some i=>exact q l i rfl h
section
variable {P:List V->Prop} {vs:List V} {σ:List AO} {r:V×List AO} {k:Nat}
theorem fc1(h:fd1 vs σ=some r)(q:∀ i,(V.ref σ.length,σ++[⟨[],some i⟩])=r->P [.int i]):P vs:=by
 cases vs with
 | nil=>exact nso h
 | cons x l =>
  cases x with
  | int i=>cases l with
   | nil=>exact q i (siX h)
   | cons y l=>exact nso h
  | _=>exact nso h
theorem bO1(h:td (.ref k::vs) σ=some r)(q:∀ a b l i,σ[k]?=some ⟨l,some i⟩->l.length<lim->(V.none,σ.set k ⟨l++[.tup [a,b]],some i⟩)=r->P [a,b]):P vs:=by
 cases vs with
 | nil=>exact nso h
 | cons a vs=>cases vs with
  | nil=>exact nso h
  | cons b vs=>cases vs with
   | nil=>exact qX h λl i e h=>q a b l i e (bg h).1 (siX (bg h).2)
   | cons c vs=>exact nso h
theorem th(h:eW (.ref k::vs) σ=some r)(q:∀ l i,σ[k]?=some ⟨l,some i⟩->(V.lst l,σ.set k ⟨[],some i⟩)=r->P [])
  (q2:∀ j l i,σ[k]?=some ⟨l,some i⟩->0<=j->(V.lst (l.drop j.toNat),σ.set k ⟨l.take j.toNat,some i⟩)=r->P [.int j]):P vs:=by
 cases vs with
 | nil=>exact qX h λl i e h=>q l i e (siX h)
 | cons a vs =>
  cases a with
  | int j=>cases vs with
   | nil=>exact qX h λl i e h=>q2 j l i e (bg h).1 (siX (bg h).2)
   | cons c vs=>exact nso h
  | _=>exact nso h
theorem fa1(h:bP1 (.ref k::vs) σ=some r)(q:∀ l i,σ[k]?=some ⟨l,some i⟩->((pz l).1,σ.set k ⟨(pz l).2,some i⟩)=r->P []):P vs:=by
 cases vs with
 | nil=>exact qX h λl i e h=>q l i e (siX h)
 | cons a vs=>exact nso h
theorem gy1{β:Type}{f:Nat->Option β}{r:β} (h:(match vs with
  | [.str [c]]=>f c
  | _=>none)=some r) (q:∀ c,f c=some r->P [.str [c]]):P vs:=by
 cases vs with
 | nil=>exact nso h
 | cons x l =>
  cases x with
  | str s=>cases l with
   | nil=>cases s with
    | nil=>exact nso h
    | cons c s=>cases s with
     | nil=>exact q c h
     | cons d s=>exact nso h
   | cons y l=>cases s with
    | nil=>exact nso h
    | cons c s=>cases s with
     | nil=>exact nso h
     | cons d s=>exact nso h
  | _=>exact nso h
end
structure MethsOk (G:Wd) (m:Str->Option Value):Prop where
 KX:AccX G m
 U:Sup G
 n1:m "__getattribute__"=none
 n2:m "__getattr__"=none
 n3:m "append"=none
 n4:m "__getitem__"=none
 n5:m "__setitem__"=none
 push:∃ a fd body C ns,m "push"=some (.ref a)/\DefM G a fd body C ns/\yV C body/\ns.length=3/\∀ cvs:List Value,cvs.length=3->bindArgs fd ⟨cvs,[]⟩=pure (ns.zip cvs)
 popFrom:∃ a fd body C ns,m "pop_from"=some (.ref a)/\DefM G a fd body C ns/\eV C body/\ns.length=2/\(∀ (s:Shared) (cvs:List Value),(∀ b o,b ∉ G.loose->G.s₀.heap.get? b=some o->s.heap.get? b=some o)->cvs.length=2->BindsTo s fd ⟨cvs,[]⟩ (ns.zip cvs)) /\
  ∃ t,∀ (s:Shared) (cvs:List Value),(∀ b o,b ∉ G.loose->G.s₀.heap.get? b=some o->s.heap.get? b=some o)->cvs.length=1->BindsTo s fd ⟨cvs,[]⟩ (ns.zip (cvs++[.int 0 t]))
 part:∃ a fd body C ns x,m "part_count"=some (.ref a)/\DefM G a fd body C ns/\SupD G fd C x/\x.slot=0/\iR "__len__" body/\ns.length=1/\∀ cvs:List Value,cvs.length=1->bindArgs fd ⟨cvs,[]⟩=pure (ns.zip cvs)
 pop:∃ a fd body C ns x,m "pop"=some (.ref a)/\DefM G a fd body C ns/\SupD G fd C x/\x.slot=0/\hh1 C body/\ns.length=1/\∀ cvs:List Value,cvs.length=1->bindArgs fd ⟨cvs,[]⟩=pure (ns.zip cvs)
 init:∃ a fd body C ns x,m "__init__"=some (.ref a)/\DefM G a fd body C ns/\SupD G fd C x/\x.slot=0/\zB C body/\ns.length=2/\∀ (s:Shared) (cvs:List Value),(∀ b o,b ∉ G.loose->G.s₀.heap.get? b=some o->s.heap.get? b=some o)->cvs.length=2->BindsTo s fd ⟨cvs,[]⟩ (ns.zip cvs)
section
variable {G:Wd} {A:Around} {C C':Cx} {env cenv:Env} {W W':List Addr} {η η' η₁ η₂ bj:ac} {σ σ' σ₁ σ₂ aq σ₄ bQ:List AO} {ρ ρ' aa:Rho} {s s' au aG:Shared} {m:Str->Option Value}
theorem om(KX:AccX G m)(R:Rel G σ ρ s){pos:Pos}{first:List Value}{args:List (Bool×Sem Value)}{Q:Value->Shared->Prop}{E:Value->Shared->Prop}(hplain:args.any (·.1)=false)
  (h:wpAny (model G.prog G.w) A (evalArgs (.ref G.cls) true args []) (λa au=>(∃ σ₁ aa,Rel G σ₁ aa au)/\wpAny (model G.prog G.w) A (call (.ref G.cls) (first++a.pos) a.kw) Q E au) E s) :
  wpAny (model G.prog G.w) A (callWith pos (.ref G.cls) first args []) Q E s:=by
 dsimp only[callWith]
 refine wpAny_bind (wpAny_holding (wpAny_mono h (λa au dJ=>wpAny_bind (wpAny_standAt ?_)) λ_ _ x=>x))
 refine byQ λQ kQ=>?_
 refine gq (dJ) λh_0 dJ=>?_;refine cC (h_0) λσ₁ aa gV1=>?_
 refine ei (KX.obj) λcd od sl h_p=>?_;have hC0:=h_p.1;have hmro:=h_p.2.1;have hhd:=h_p.2.2.1;have hab:=h_p.2.2.2.1;have hde:=h_p.2.2.2.2.1;have h4:=h_p.2.2.2.2.2
 have hC:=gV1.keep _ _ KX.acc.lc hC0
 have hcall:Looks (model G.prog G.w) au.heap (specialOf (.ref G.cls) "__call__") (some (.builtin "type.__call__")):=(aA1 KX gV1).call
 refine kQ ?_
 rw[show (args.any (·.1) || ([]:List (Option Str×Sem Value)).any (·.1.isNone))=false from by rw[hplain];rfl]
 refine wpAny_bind ?_
 unfold keeperOf
 refine wpAny_bind (wpAny_load hC ?_)
 dsimp only
 refine wpAny_bind (hcall.here (wpAny_pure ?_))
 have e:((some (Value.builtin "type.__call__"):Option Value)==some (.builtin "type.__call__"))=true:=rfl
 rw[e]
 exact wpAny_bind (wpAny_mono dJ (λr aG hr=>wpAny_bind (wpAny_holding (wpAny_point (wpAny_pure hr)))) λ_ _ x=>x)
theorem Ev.callC(KX:AccX G m){x:Str}{p pos:Pos}{args:List Expr}{vs:List V}{v:V}(hk:C.kind x=some .globalImplicit)(hd:(x==("__debug__":Str))=false)(g:Gl G x (.ref G.cls))(hn:aP args=true)
  (h:Evs G A C env W args σ η vs σ₁) (ho:On G A (λcvs=>call (.ref G.cls) cvs) σ₁ vs v σ₂):Ev G A C env W (.Call (.Name x p) args [] pos) σ η v σ₂:=λρ s R N ht=>by
 refine wpAny_Call_Name_kw (RE.global R N hk hd g ?_)
 refine om KX R (bK hn) (bU hn (h.use R N ht pos λcvs au aa am aR aS aA=>⟨⟨_,_,am.rel⟩,?_⟩))
 exact ho.use am.rel aA aS λcv aG aC aB c0 aL=>⟨aC,am.trans aB,aL⟩
theorem yQ(M:MethsOk G m){x:Str}(g:Gl G x (.ref G.cls)){n:Nat}(hr:Room A (n+4)):ff G A x fd1:=by
 intro C env W η σ σ₁ σ₂ q pos args vs v hk hd hn hE hp
 refine dw1 M.init λa fd body C' ns y h1 D V hy hm hns hb=>Ev.callC M.KX hk hd g hn hE (fc1 (P:=λvs=>On G A (λcvs=>call (.ref G.cls) cvs) σ₁ vs v σ₂) hp λi e=>?_)
 obtain ⟨rfl,rfl⟩:=Prod.mk.inj e
 exact dp1 M.KX M.U D V hy hm hns hb h1 (hr.less (Nat.add_le_add_left (by decide) n):Room A (n+2))
theorem vP(M:MethsOk G m){n:Nat}(hr:Room A (n+4)):gk G A "push" td:=by
 intro C env W η σ σ₁ σ₂ aq q pos o args vs v k l i h1 h2 h3 h4 hE hσ hA hp
 refine byQ λQ kQ=>?_
 refine lg1 (M.push) λa fd body C' ns e1 D hm hns hb=>?_
 refine a4 (D.obj) λob h_p=>?_;have hob:=h_p.1;have hfd:=h_p.2.1;have hfc:=h_p.2.2
 refine kQ ?_
 refine Ev.accDef M.KX.acc h1 h2 h3 h4 M.n1 M.n2 e1 (by decide) hob D.la hfd hfc hE hσ hA ?_
 refine bO1 (P:=λvs=>On G A (λcvs=>call (.ref a) cvs) σ₂ (.ref k::vs) v aq) hp λa b l i e hl q=>?_
 obtain ⟨rfl,rfl⟩:=Prod.mk.inj q
 exact do1 M.KX.acc D hm hns hb M.n1 M.n2 M.n3 (hr.less (Nat.add_le_add_left (by decide) n):Room A (n+1)) e hl
theorem yO(M:MethsOk G m){n:Nat}(hr:Room A (n+4)):gk G A "pop" bP1:=by
 intro C env W η σ σ₁ σ₂ aq q pos o args vs v k l i h1 h2 h3 h4 hE hσ hA hp
 refine byQ λQ kQ=>?_
 refine dw1 (M.pop) λa fd body C' ns x e1 D V hx hm hns hb=>?_
 refine dw1 (M.part) λa' fd' body' C'' ns' x' e1' D' V' hx' hm' hns' hb'=>?_
 refine a4 (D.obj) λob h_p=>?_;have hob:=h_p.1;have hfd:=h_p.2.1;have hfc:=h_p.2.2
 refine kQ ?_
 refine Ev.accDef M.KX.acc h1 h2 h3 h4 M.n1 M.n2 e1 (by decide) hob D.la hfd hfc hE hσ hA ?_
 refine fa1 (P:=λvs=>On G A (λcvs=>call (.ref a) cvs) σ₂ (.ref k::vs) v aq) hp λl i e q=>?_
 obtain ⟨rfl,rfl⟩:=Prod.mk.inj q
 exact gZ1 M.KX M.U D V hx hm hns hb (hr.less (Nat.add_le_add_left (by decide) n):Room A (n+2)) e M.n1 M.n2 e1' D' V' hx' hm' hns' hb'
theorem m6(M:MethsOk G m){n:Nat}(hr:Room A (n+4)):gk G A "pop_from" eW:=by
 intro C env W η σ σ₁ σ₂ aq q pos o args vs v k l i h1 h2 h3 h4 hE hσ hA hp
 obtain ⟨a,fd,body,C',ns,e1,D,hm,hns,hb,t,hb0⟩:=M.popFrom
 refine a4 (D.obj) λob h_p=>?_;have hob:=h_p.1;have hfd:=h_p.2.1;have hfc:=h_p.2.2
 refine Ev.accDef M.KX.acc h1 h2 h3 h4 M.n1 M.n2 e1 (by decide) hob D.la hfd hfc hE hσ hA ?_
 have hr1:Room A (n+1):=hr.less (Nat.add_le_add_left (by decide) n)
 refine th (P:=λvs=>On G A (λcvs=>call (.ref a) cvs) σ₂ (.ref k::vs) v aq) hp (λl i e q=>?_) λj l i e hj q=>?_
 ·obtain ⟨rfl,rfl⟩:=Prod.mk.inj q
  exact rc M.KX.acc D hm hns hb0 M.n4 M.n5 hr1 e
 ·obtain ⟨rfl,rfl⟩:=Prod.mk.inj q
  have:=uq (A:=A) (i:=j.toNat) M.KX.acc D hm hns hb M.n4 M.n5 hr1 e
  replace this:=(Int.toNat_of_nonneg hj)▸this
  exact this
theorem bp1{x:Str}{a d:Addr}{fd:FuncData}{body:List Stmt}{C':Cx}{knd:KeyKind G.prog G.w Int}{S:Int->Bool}{k n:Nat}(g:Gl G x (.ref a))(hkn:∀ i t,knd.is i (.int i t)=true)(D:Def G a fd body C' ["code"])(hm:b1M C' body)
  (hr:Room A (n+4)) (ho:Gl G "ord" (.builtin "ord")) (gy:Gl G "b1_set" (.ref d)) (hS:G.s₀.heap.SetOf knd d S k) (hd:d ∉ G.loose):ff G A x (pB1 S):=by
 intro C env W η σ σ₁ σ₂ q pos args vs v hk hdb hn hE hp
 refine aQ D.obj λo hob hfd=>Ev.callF hk hdb g hn hob D.la hfd hE (gy1 (P:=λvs=>On G A (λcvs=>call (.ref a) cvs) σ₁ vs v σ₂) (f:=λc=>some (V.bool (S c),σ₁)) hp λc e=>?_)
 obtain ⟨rfl,rfl⟩:=Prod.mk.inj (siX e)
 exact jJ1 (k:=0) hkn D hm (hr.less (Nat.add_le_add_left (by decide) n):Room A (n+1)) ho gy hS hd
theorem bo1{x:Str}{a d:Addr}{fd:FuncData}{body:List Stmt}{C':Cx}{ns:List Str}{knd:KeyKind G.prog G.w Int}{f:Int->Option Value}{gg:Nat->Option (List Nat)}{n:Nat}(g:Gl G x (.ref a))(hns:ns.length=1)(hkn:∀ i t,knd.is i (.int i t)=true)(D:Def G a fd body C' ns)(hm:b3M C' body)
  (hr:Room A (n+4)) (ho:Gl G "ord" (.builtin "ord")) (gl:Gl G "b3_exceptions" (.ref d)) (hds:(d==sysModules)=false) (hno:∃ o,G.s₀.heap.get? d=some o/\o.cls=.type "dict"/\o.dict=none)
  (hM:∀ s:Shared,(∀ o,G.s₀.heap.get? d=some o->s.heap.get? d=some o)->s.heap.MapOf knd d f) (hd:d ∉ G.loose)
  (hv:∀ c:Nat,match gg c with | some l=>l.length<=lim/\∃ t,f c=some (.str ⟨l.toArray⟩ t) | none=>f c=none):ff G A x (pB3 gg):=by
 intro C env W η σ σ₁ σ₂ q pos args vs v hk hdb hn hE hp
 refine aQ D.obj λo hob hfd=>Ev.callF hk hdb g hn hob D.la hfd hE (gy1 (P:=λvs=>On G A (λcvs=>call (.ref a) cvs) σ₁ vs v σ₂) (f:=λc=>if (mN c).length<=lim then some (V.str (match gg c with | some l=>l | none=>mN c),σ₁) else none) hp λc e=>?_)
 obtain ⟨rfl,rfl⟩:=Prod.mk.inj (siX (bg e).2)
 exact jI1 hns hkn D hm (hr.less (Nat.add_le_add_left (by decide) n):Room A (n+1)) ho gl hds hno hM hd hv (bg e).1
end
noncomputable def hJ1(h:Heap)(l:Addr)(o:Obj)(xs:Array Value):Prop:=h.get? l=some o/\∃ n,o.data=.seq xs n
section
variable {prog:Program} {w:World} {A:Around} {s:Shared} {E:Value->Shared->Prop} {I l:Addr} {i:Nat} {o:Obj} {xs:Array Value} {Q:Option Value->Shared->Prop}
theorem bc1{x:Value}(hit:s.heap.IsListIter I l i)(hl:hJ1 s.heap l o xs)(hx:xs[i]?=some x)
  (hQ:∀ h',h'.IsListIter I l (i+1)->Heap.SameBut I s.heap h'->Q (some x) { s with heap:=h' }):wpAny (model prog w) A (pyNext (.ref I)) Q E s :=
 pI hit λoi ho hc hd=>gq hl λhol hdl=>a4 hdl λn hdl=>by
  refine wpAny_bind (wpAny_attempt (wpAny_callSpecial?_slot (name:=Str.ofString "__next__") hit.typeIs slot_listiter_next (wpAny_call_entry slot_listiter_next hit.typeIs entry_listiter_next ?_ (args_listiter_next _))))
  show wpAny _ _ (field (.ref I) 0>>=_) _ _ s
  refine wpAny_bind (wpAny_field ho hd (x:=.ref l) rfl ?_)
  show wpAny _ _ (if (Value.ref l==Value.none)=true then _ else _) _ _ s
  refine(if_neg (show ¬ ((Value.ref l==Value.none)=true) from Bool.false_ne_true))▸?_
  refine wpAny_bind (wpAny_field ho hd (x:=.int i 0) rfl ?_)
  show wpAny _ _ (seqItems? (.ref l)>>=_) _ _ s
  refine wpAny_bind (wpAny_seqItems hol hdl ?_)
  simp only[Int.toNat_natCast,hx]
  refine wpAny_bind (wpAny_setField ho hd (by simp) (wpAny_pure ⟨x,rfl,wpAny_pure (hQ _ ?_ (Heap.SameBut.update ..))⟩))
  exact⟨_,Heap.get?_update_self _ ho (Obj.isFreed_of_fields (Obj.data_mapFields hd _)),(Obj.cls_mapFields ..).trans hc,by rw[Obj.data_mapFields hd];simp [rawInt]⟩
theorem d81(hh:A.handled=none)(hit:s.heap.IsListIter I l i)(hl:hJ1 s.heap l o xs)(hx:xs[i]?=none)
  (hQ:∀ h',Heap.ExtBut I s.heap h'->Q none { s with heap:=h' }):wpAny (model prog w) A (pyNext (.ref I)) Q E s :=
 pI hit λoi ho hc hd=>gq hl λhol hdl=>a4 hdl λn hdl=>by
  refine wpAny_bind (wpAny_attempt (wpAny_callSpecial?_slot (name:=Str.ofString "__next__") hit.typeIs slot_listiter_next (wpAny_call_entry slot_listiter_next hit.typeIs entry_listiter_next ?_ (args_listiter_next _))))
  show wpAny _ _ (field (.ref I) 0>>=_) _ _ s
  refine wpAny_bind (wpAny_field ho hd (x:=.ref l) rfl ?_)
  show wpAny _ _ (if (Value.ref l==Value.none)=true then _ else _) _ _ s
  refine(if_neg (show ¬ ((Value.ref l==Value.none)=true) from Bool.false_ne_true))▸?_
  refine wpAny_bind (wpAny_field ho hd (x:=.int i 0) rfl ?_)
  show wpAny _ _ (seqItems? (.ref l)>>=_) _ _ s
  refine wpAny_bind (wpAny_seqItems hol hdl ?_)
  simp only[Int.toNat_natCast,hx]
  refine wpAny_bind (wpAny_rule (wpAny_bind (wpAny_setField ho hd (by simp) (wpAny_bind ?_))))
  simp only[newExc,newTuple]
  refine wpAny_bind (wpAny_newObj_type ?_ (by size_fits))
  refine wpAny_bind (m:=firstArgMember _ _) (wpAny_of_eq (a:=Value.none) (by simp only[firstArgMember];rfl) (wpAny_newObj_type ?_ (by size_fits)))
  dsimp only[raiseNew]
  refine wpAny_bind (wpAny_handled ?_)
  rw[show A.in1.handled=none from hh]
  refine wpAny_bind (wpAny_pure (wpAny_throw ?_))
  refine wpAny_bind (wpAny_isInstance (T:="StopIteration") (b:=true) ⟨_,Heap.get?_push_size _ rfl,rfl⟩ isSubtype_stop (wpAny_pure (hQ _ ?_)))
  exact((Heap.SameBut.update ..).extBut.push _).push _
theorem vf(hh:A.handled=none)(hne:l≠I)(Ts:Nat->Addr)(vals:Nat->Array Value)(hit:∀ j,j<xs.size->xs[j]?=some (.ref (Ts j)))(hTI:∀ j,j<xs.size->Ts j≠I) :
  WalksU prog w A I (I::l::(List.range xs.size).map Ts) [I] xs.size (λj v=>j<xs.size/\v=vals j)
   (λj h=>h.IsListIter I l j/\hJ1 h l o xs/\∀ k,k<xs.size->h.IsTuple (Ts k) (vals k))
   (λj T h=>(j<xs.size/\T=Ts j)/\h.IsListIter I l (j+1)/\hJ1 h l o xs/\∀ k,k<xs.size->h.IsTuple (Ts k) (vals k)) where
 sub:=λb hb=>by simp at hb;simp [hb]
 frame:=λ_ _ _ st hk=>⟨st.1.at λo e=>hk I (by simp) o e,⟨hk l (by simp) _ st.2.1.1,st.2.1.2⟩,λk hk'=>(st.2.2 k hk').at λo e=>hk (Ts k) (List.mem_cons_of_mem _ (List.mem_cons_of_mem _ (List.mem_map.mpr ⟨k,List.mem_range.mpr hk',rfl⟩))) o e⟩
 item:=λi s Q E hi st hQ=>bc1 st.1 st.2.1 (hit i hi) λh' it hs =>
  have tup:∀ k,k<xs.size->h'.IsTuple (Ts k) (vals k):=λk hk=>(st.2.2 k hk).extBut hs.extBut (hTI k hk)
  hQ (Ts i) (vals i) h' s.toks ⟨hi,rfl⟩ (tup i hi) ⟨⟨hi,rfl⟩,it,⟨hs.extBut l _ hne st.2.1.1,st.2.1.2⟩,tup⟩ λb o hb e=>hs.extBut b o (λh=>hb (by simp [h])) e
 go:=λ_ _ _ _ _ s Q _ hm hQ=>wpAny_letOwnedTupleGo_listiter hm.2.1 (hQ s.heap hm.2 λ_ _ _ e=>e)
 apart:=λj T _ hm hmem=>hTI j hm.1.1 (hm.1.2▸List.mem_singleton.mp hmem)
 done:=λs Q E st hQ=>d81 hh st.1 st.2.1 (by simp) λh' he=>hQ h' s.toks λb o hb e=>he b o (λh=>hb (by simp [h])) e
 self:=λ_ _ _ _ st hQ=>wpAny_pyIter_listiter st.1 hQ
end
theorem nA:builtinKind "list.__getattribute__"=some .slot:=by kernel_rfl
theorem lj:splitId "list.__getattribute__"=some ("list","__getattribute__"):=by decide +kernel
theorem mC(a b:Value):argsOk "list.__getattribute__" ⟨[a,b],[]⟩:=by unfold argsOk;kernel_rfl
theorem jR:builtinKind "list.__iter__"=some .slot:=by kernel_rfl
theorem iM:splitId "list.__iter__"=some ("list","__iter__"):=by decide +kernel
section
variable {G:Wd} {A:Around} {σ:List AO} {ρ:Rho} {s:Shared} {m:Str->Option Value}
theorem qZ(KX:AccX G m)(R:Rel G σ ρ s)(hga:m "__getattribute__"=none)(hgt:m "__getattr__"=none){x dx:Addr}{us:Array Value}{n:Nat}{d:Str->Option Value}{i:Int}{ti:Tok}{Q:Value->Shared->Prop}{E:Value->Shared->Prop}
  (hx:s.heap.get? x=some ⟨.ref G.cls,some dx,.seq us n,#[]⟩) (hns:s.heap.Ns dx d) (hd:d "_initial_size"=some (.int i ti)) (hQ:Q (.int i ti) { s with toks:=s.toks+1 }) :
  wpAny (model G.prog G.w) A (getAttr (.ref x) "_initial_size" true) Q E s:=by
 have K:=KX.acc
 refine uB KX.obj λcd od sl hC0 hmro hhd hab hde h4=>?_
 have f3:=F.slot_list_getattribute.bind (.ref x)
 have look:∀ {A':Around} {t:Nat} {nm:Str} {r:Option Value} {Q:Option Value->Shared->Prop} {E:Value->Shared->Prop},(m nm=none/\typeLookup (.type "list") nm=pure r)->Q r { s with toks:=t }->wpAny (model G.prog G.w) A' (typeLookup (.ref G.cls) nm) Q E { s with toks:=t }:=λh1 hq=>gO K (Step.toks R _).rel (.inr h1) hq
 have chk:∀ {A':Around} {t:Nat} {tk:Tok} {Q:Unit->Shared->Prop} {E:Value->Shared->Prop},Q () { s with toks:=t }->wpAny (model G.prog G.w) A' (checkBuiltinCall "list.__getattribute__" ⟨[.ref x,.str "_initial_size" tk],[]⟩) Q E { s with toks:=t } :=
  λ{A' t tk _ _} hq=>gj K (Step.toks R t).rel hx rfl (.inl nA) lj (mC _ _) hq
 have hC:=R.keep _ _ K.lc hC0
 obtain ⟨h,g,dr,t,os⟩:=s
 unfold getAttr
 repeat (any_goals (first | assumption | (with_reducible refine wpAny_loadPart_at hx ?_) | (with_reducible refine look ⟨hga,F.slot_list_getattribute.lookup⟩ ?_) | (with_reducible refine look ⟨hgt,F.plainAttrs_list.noGetattr⟩ ?_) | wp_step))
 refine codeAny_call_builtin F.slot_list_getattribute.plain F.entry_list_ga (chk ?_)
 dsimp only at hx hns
 show wpAny _ _ (Builtin.«object.__getattribute__» ⟨[.ref x,.str "_initial_size" t],[]⟩) _ _ _
 dsimp only[Builtin.«object.__getattribute__»]
 repeat (any_goals (first | assumption | (with_reducible refine wpAny_loadPart_at hx ?_) | (with_reducible refine look ⟨KX.hna,df⟩ ?_) | (with_reducible refine wpAny_nsGet hns ?_) | wp_step))
 refine(show d (Str.ofString "_initial_size")=_ from hd)▸?_
 repeat (any_goals (first | assumption | wp_step))
theorem zY(K:Acc G m)(R:Rel G σ ρ s){a:Addr}{o:Obj}(ho:s.heap.get? a=some o)(hc:o.cls=.ref G.cls)(hm:m "__iter__"=none){Q:Value->Shared->Prop}{E:Value->Shared->Prop}
  (hQ:Q (.ref s.heap.objs.size) { s with heap:=s.heap.push { cls:=.type "list_iterator",data:=.fields #[.ref a,.int 0 0] } }):wpAny (model G.prog G.w) A (pyIter (.ref a)) Q E s:=by
 have look:∀ {A':Around} {Q:Option Value->Shared->Prop} {E:Value->Shared->Prop},Q (some (.builtin "list.__iter__")) s->wpAny (model G.prog G.w) A' (specialOf (.ref a) "__iter__") Q E s:=λhq=>br K R ho hc (.inr ⟨hm,slot_list_iter.lookup⟩) hq
 have fin:wpAny (model G.prog G.w) A (call (.builtin "list.__iter__") [.ref a]) (λit s'=>wpAny (model G.prog G.w) A (pure (some it)) (λr s''=>wpAny (model G.prog G.w) A (match r with
   | some it=>do
    match ← specialOf it "__next__" with
    | none=>rule "iter.non-iterator";raiseError "TypeError" s!"iter() returned non-iterator of type '{← typeNameOf it}'"
    | some _=>pure it
   | none=>pure .none) Q E s'') E s') E s:=by
  refine wpAny_call (codeAny_call_builtin slot_list_iter.plain entry_list_iter (gj K R ho hc (.inl jR) iM (args_list_iter _) ?_))
  show wpAny _ _ (do ret (← newFields "list_iterator" [.ref a,rawInt 0])) _ _ s
  refine wpAny_bind (wpAny_newObj_type (wpAny_pure (wpAny_pure ?_)))
  exact wpAny_bind (wpAny_specialOf (T:="list_iterator") ⟨_,Heap.get?_push_size _ rfl,rfl⟩ slot_listiter_next.lookup (wpAny_pure hQ))
 dsimp only[pyIter]
 refine wpAny_bind (look (wpAny_bind ?_))
 simp only[callSpecialIfBoundUnlessNone?,bindSpecialIfBound?]
 refine wpAny_holding (wpAny_bind (wpAny_bind (look ?_)))
 dsimp only[slot_list_iter.bind]
 refine wpAny_bind (wpAny_askSetting (wpAny_ite ?_))
 split
 ·refine wpAny_bind (wpAny_pure (wpAny_pure ?_))
  exact wpAny_bind fin
 ·refine wpAny_tryCatch (wpAny_bind (wpAny_pure (wpAny_pure ?_)))
  exact wpAny_bind fin
end
section
variable {G:Wd} {A:Around} {E:Value->Shared->Prop} {s:Shared} {env cenv:Env} {mc:Str->Option Value}
structure GF (G:Wd) (cenv:Env) (mc:Str->Option Value) (s:Shared):Prop where
 fn:cenv.scope.kind=.function
 glob:cenv.globals=mainGlobals
 blt:cenv.builtins=builtinsNs
 g:∀ m,G.s₀.heap.Ns mainGlobals m->s.heap.Ns mainGlobals m
 b:∀ m,G.s₀.heap.Ns builtinsNs m->s.heap.Ns builtinsNs m
 l:s.heap.Ns cenv.locals mc
theorem GF.keeps{s':Shared}(F:GF G cenv mc s)(h:∀ b o,s.heap.get? b=some o->s'.heap.get? b=some o):GF G cenv mc s':=⟨F.fn,F.glob,F.blt,λm k=>(F.g m k).keeps h,λm k=>(F.b m k).keeps h,F.l.keeps h⟩
theorem GF.global{x:Str}{p:Pos}{f:Value}{Q:Value->Shared->Prop}(F:GF G cenv mc s)(hk:cenv.kindOf x=some .globalImplicit)(hd:(x==("__debug__":Str))=false)(g:Gl G x f)(hQ:Q f s):wpAny (model G.prog G.w) A (eval (.Name x p) cenv) Q E s :=
 Name_function_global F.fn hk (aQ g.gm λm hm hx=>hx.elim (λhx=>loadGlobal_global (F.glob▸F.g m hm) hx hQ) λhx=>aQ hx.2 λb hb hbx=>loadGlobal_builtin (F.glob▸F.g m hm) hx.1 (F.blt▸F.b b hb) hbx hQ) hd
theorem v6{x:Str}{p:Pos}{v:Value}{Q:Value->Shared->Prop}(F:GF G cenv mc s)(hk:cenv.kindOf x=some .local)(hv:mc x=some v)(hd:(x==("__debug__":Str))=false)(hQ:Q v s):wpAny (model G.prog G.w) A (eval (.Name x p) cenv) Q E s :=
 wpAny_Name (wpAny_loadName_local F.fn hk F.l hv hQ) hd
theorem eR1{x:Str}{p q pos:Pos}{y:Str}{t:Tok}{Q:Value->Shared->Prop}(F:GF G cenv mc s)(hl:cenv.kindOf "len"=some .globalImplicit)(g:Gl G "len" (.builtin "len"))
  (hk:cenv.kindOf x=some .local) (hv:mc x=some (.str y t)) (hd:(x==("__debug__":Str))=false) (hf:y.length<=1000000) (hQ:Q (.int y.length (s.toks+1)) { s with toks:=s.toks+1+1 }) :
  wpAny (model G.prog G.w) A (eval (.Call (.Name "len" p) [.Name x q] [] pos) cenv) Q E s :=
 wpAny_Call_Name_kw (F.global hl (by decide) g (callWith_builtin rfl (evalArgs_plain (spliced_cons (v6 F hk hv hd (spliced_nil (PySem.P.len_str (by lia) hQ)))))))
theorem eQ1{xa xb:Str}{p1 p2 p3 p4 p5 p6 pos:Pos}{ya yb:Str}{ta tb:Tok}(F:GF G cenv mc s)(hl:cenv.kindOf "len"=some .globalImplicit)(g:Gl G "len" (.builtin "len"))
  (hka:cenv.kindOf xa=some .local) (hva:mc xa=some (.str ya ta)) (hda:(xa==("__debug__":Str))=false) (hkb:cenv.kindOf xb=some .local) (hvb:mc xb=some (.str yb tb)) (hdb:(xb==("__debug__":Str))=false)
  (hfa:ya.length<=1000000) (hfb:yb.length<=1000000) :
  wpAny (model G.prog G.w) A (eval (.BinOp (.Call (.Name "len" p1) [.Name xa p2] [] p3) .Add (.Call (.Name "len" p4) [.Name xb p5] [] p6) pos) cenv) (λy d9=>(∃ t,y=.int ((ya.length:Int)+yb.length) t)/\Keeps s d9) E s :=
 wpAny_BinOp (eR1 F hl g hka hva hda hfa (eR1 (F.keeps λ_ _ e=>e) hl g hkb hvb hdb hfb (wpAny_add_int ⟨⟨_,rfl⟩,s.heap,_,rfl,λ_ _ e=>e⟩)))
end
structure Grow (G:Wd) (s s':Shared):Prop where
 keep:∀ b o,b ∉ G.loose->s.heap.get? b=some o->s'.heap.get? b=some o
 lse:∀ b∈G.loose,∃ vs,s'.heap.get? b=some ⟨.none,none,.fields vs,#[]⟩/\aa1 G b vs
 same:∃ h tk gs,s'={ s with heap:=h,toks:=tk,gens:=gs }
 bare:AllBare s'.gens
section
variable {G:Wd} {A:Around} {C C':Cx} {env cenv:Env} {W W':List Addr} {η η' η₁ η₂ bj:ac} {σ σ' σ₁ σ₂ aq σ₄ bQ:List AO} {ρ ρ' aa:Rho} {s s' au aG:Shared} {m:Str->Option Value}
theorem i7(R:Rel G σ ρ s){b:Addr}(hb:b∈G.loose):sL ρ b:=λp hp =>
 aQ (R.lse b hb) λvs _ e=>zc e.2 λus more e _=>⟨λq=>nso ((R.fresh p hp).1.symm.trans (q▸e)),λq=>nso ((R.fresh p hp).2.symm.trans (q▸e))⟩
theorem Grow.step(R:Rel G σ ρ s)(g:Grow G s s'):Step G ρ s ρ s' σ:=by
 have K:KeepV s.heap ρ s'.heap ρ:=⟨⟨[],(List.append_nil _).symm,λ_ h=>nomatch h⟩,λ_ h=>.inl h,λb o e ho hs=>g.keep b o (λhb=>aQ (R.lse b hb) λvs e' _=>by
  obtain rfl:=siX (e.symm.trans e')
  rcases hs.1 with h | h | h <;> cases h) e⟩
 have off:∀ (k:Nat) (p:Addr×Addr),ρ.st[k]?=some p->p.1 ∉ G.loose/\p.2 ∉ G.loose:=λk p hp =>
  have hm:=List.mem_of_getElem? hp
  ⟨λh=>(i7 R h p hm).1 rfl,λh=>(i7 R h p hm).2 rfl⟩
 refine⟨⟨R.len,R.inj,λk p o h1 h2=>(R.obj k p o h1 h2).mono K (λx e=>g.keep _ x (off k p h1).1 e) (λx e=>g.keep _ x (off k p h1).2 e),R.fresh,λb o hl e=>g.keep b o hl (R.keep b o hl e),g.lse,?_,g.bare,λb hb=>?_⟩,⟨[],by simp,λ_ h=>nomatch h⟩,λb o e _ _ hl=>g.keep b o hl e,λ_ h=>nomatch h⟩
 ·exact ei R.same λh tk gs e=>ei g.same λh' tk' gs' e'=>dy1 h' tk' gs' (by rw[e',e])
 ·by_cases hl:b∈G.loose
  ·exact aQ (g.lse b hl) λvs e _=>e▸nofun
  ·exact gp (s.heap.get? b) (λe=>absurd e (R.hidden b hb)) λo e=>g.keep b o hl e▸nofun
theorem Grow.moved{wr:List Addr}{Gg:Array GenState->Array GenState->Prop}(R:Rel G σ ρ s)(g:Grow G s s')(hwr:∀ b∈wr,s.heap.objs.size<=b)(hl:∀ b∈G.loose,b ∉ wr)(hm:Moved wr Gg s' aG)(hb:∀ gs,Gg s'.gens gs->AllBare gs):Grow G s aG where
 keep:=λb o h e=>hm.heap b o (λhw=>absurd (Heap.lt_size e) (Nat.not_lt.mpr (hwr b hw))) (g.keep b o h e)
 lse:=λb h=>aQ (g.lse b h) λvs e q=>⟨vs,hm.heap b _ (hl b h) e,q⟩
 same:=ei g.same λh tk gs e=>⟨aG.heap,aG.toks,aG.gens,by
  have e1:=hm.drawn;have e2:=hm.os
  rw[e] at e1 e2
  obtain ⟨h2,g2,d2,t2,o2⟩:=aG
  dsimp only at e1 e2
  subst e1 e2
  rfl⟩
 bare:=hb _ hm.gens
theorem lN(R:Rel G σ ρ s){b:Addr}(hb:b∈G.loose):b<s.heap.objs.size:=aQ (R.lse b hb) λvs e _=>Heap.lt_size e
structure GenC (G:Wd) (fd:FuncData):Prop where
 code:∃ c P o vs file tf flags tg inF text tt,fd.code=.ref c/\c ∉ G.loose/\P∈G.loose/\G.s₀.heap.get? c=some o/\o.cls=.type "code"/\o.data=.fields vs/\vs[11]?=some (.ref P)/\vs.getD 18 .none=.str file tf/\vs.getD 7 .none=.int flags tg/\vs.getD 9 .none=.bool inF/\vs.getD 10 .none=.int text tt
 bm:∃ mg bm ob,BMod G.s₀.heap mainGlobals mg bm ob/\bm ∉ G.loose/\mainGlobals ∉ G.loose
theorem zK{M:Model}{fd:FuncData}(R:Rel G σ ρ s)(D:GenC G fd){cV:Heap}(hk:∀ b o,s.heap.get? b=some o->cV.get? b=some o)(hc:env.code=fd.code){pos:Pos}{qn:Str}{sc:Scope}{Q:Value->Shared->Prop}{E:Value->Shared->Prop}
  (hQ:∀ code P h' tk,P∈G.loose->Heap.ExtBut P cV h'->cV.objs.size<=h'.objs.size->(∃ vs,h'.get? P=some ⟨.none,none,.fields vs,#[]⟩/\aa1 G P vs)->Q code { s with heap:=h',toks:=tk }) :
  wpAny M A (genexprCode env pos qn sc) Q E { s with heap:=cV }:=by
 refine byQ λQ kQ=>?_
 obtain ⟨c,P,o,vs,file,tf,flags,tg,inF,text,tt,e1,hcl,hP,hco,hcls,hd,h11,h18,h7,h9,h10⟩:=D.code
 refine kQ ?_
 refine aQ (R.lse P hP) λps hps hgr=>?_
 have hcP:c≠P:=λe=>hcl (e▸hP)
 have g11:vs.getD 11 .none=.ref P:=by rw[Array.getD_eq_getD_getElem?,h11];rfl
 have hc2:cV.get? c=some o:=hk _ _ (R.keep c o hcl hco)
 have isC:cV.IsCode c P ps:=⟨o,vs,file,tf,flags,tg,inF,text,tt,_,hc2,hd,g11,h18,h7,h9,h10,hk _ _ hps,rfl,hgr.1,hcP⟩
 have tab:cV.TableAt c P ps:=⟨⟨o,vs,hc2,hcls,hd,h11⟩,hk _ _ hps⟩
 cases hf:codeAmong pos ps.toList with
 | some c'=>exact wpAny_genexprCode_hit (s:={ s with heap:=cV }) (hc.trans e1) isC hf (hQ c' P cV s.toks hP (Heap.ExtBut.refl _ _) (Nat.le_refl _) ⟨ps,hk _ _ hps,hgr⟩)
 | none =>
  refine wpAny_genexprCodeX (s:={ s with heap:=cV }) (hc.trans e1) isC tab hf λc' h' tk hx hge hlt hcode _ htab _=>hQ _ P h' tk hP hx (Nat.le_of_lt (Nat.lt_of_le_of_lt hge hlt)) ⟨_,htab.2,?_⟩
  refine byQ λQ kQ=>?_
  obtain ⟨_,_,_,_,_,_,_,_,_,_,_,_,_,_,_,_,_,_,_,ht,_⟩:=hcode
  refine kQ ?_
  exact zc hgr.2 λus more e e'=>⟨ht,us,more++#[rawInt pos.line,rawInt pos.col,.ref c'],e,by rw[e',Array.append_assoc]⟩
end
noncomputable def cS(p:List Nat×List Nat):V:=.tup [.str p.1,.str p.2]
noncomputable def zG(sc:Scope):Bool:=!sc.isCoroutine&&(match sc.kind with | .function=>true | _=>false)&&sc.names.all (λy=>!(y.2==NameKind.cell)&&!(y.2==NameKind.free))&&bp (sc.names.lookup (".0":Str)) .local&&bp (sc.names.lookup ("fws":Str)) .local&&bp (sc.names.lookup ("part":Str)) .local
theorem eI{sc:Scope}(h:zG sc=true):sc.isCoroutine=false/\sc.kind=.function/\(∀ x∈sc.names,x.2≠.cell)/\(∀ x∈sc.names,x.2≠.free)/\sc.names.lookup (".0":Str)=some .local/\sc.names.lookup ("fws":Str)=some .local/\sc.names.lookup ("part":Str)=some .local:=by
 have h1:=ao h;have h2:=ao h1.1;have h3:=ao h2.1;have h4:=ao h3.1;have h5:=ao h4.1
 have q:=λx hx=>ao (List.all_eq_true.mp h4.2 x hx)
 refine⟨?_,?_,λx hx e=>?_,λx hx e=>?_,beq_iff_eq.mp h3.2,beq_iff_eq.mp h2.2,beq_iff_eq.mp h1.2⟩
 ·have:=h5.1;simpa using this
 ·have:=h5.2;cases hk:sc.kind <;> rw[hk] at this <;> first | rfl | exact ftr this
 ·have:=(q x hx).1;rw[e] at this;exact ftr this
 ·have:=(q x hx).2;rw[e] at this;exact ftr this
noncomputable def ni1(G:Wd)(A:Around)(s:Shared)(n:Nat)(F:Nat->Value->Prop)(v:Value)(s':Shared):Prop :=
 ∃ a fp wr Gg P St,v=.ref a/\Grow G s s'/\WalksS G.prog G.w A.in4 a fp wr Gg n P St/\St 0 s'/\(∀ b∈fp,b<s'.heap.objs.size)/\(∀ b∈wr,s.heap.objs.size<=b)/\(∀ i v,P i v->F i v)/\(∀ gs,Gg s'.gens gs->AllBare gs)/\(∀ i u,St i u->u.TypeIs v "generator")/\a∈fp
structure PairsAt (h:Heap) (ps:List (List Nat×List Nat)) (vs:Array Value) (Ts:Nat->Addr) (vals:Nat->Array Value):Prop where
 len:vs.size=ps.length
 at_:∀ j,j<vs.size->vs[j]?=some (.ref (Ts j))
 tup:∀ j,j<vs.size->h.IsTuple (Ts j) (vals j)
 val:∀ j,j<vs.size->∃ p ta tb,ps[j]?=some p/\vals j=#[.str ⟨p.1.toArray⟩ ta,.str ⟨p.2.toArray⟩ tb]/\p.1.length<=lim/\p.2.length<=lim
theorem y6{h:Heap}{ρ:Rho}{ps:List (List Nat×List Nat)}{vs:Array Value}(r:RVs h ρ (ps.map cS) vs.toList):∃ Ts vals,PairsAt h ps vs Ts vals:=by
 have hl:vs.size=ps.length:=by have:=RVs.length r;simpa using this
 have key:∀ j,j<vs.size->∃ a items,vs[j]?=some (.ref a)/\h.IsTuple a items/\∃ p ta tb,ps[j]?=some p/\items=#[.str ⟨p.1.toArray⟩ ta,.str ⟨p.2.toArray⟩ tb]/\p.1.length<=lim/\p.2.length<=lim:=λj hj=>by
  have hp:ps[j]?=some ps[j]:=List.getElem?_eq_getElem (hl▸hj)
  refine aQ (RVs.get r (i:=j) (a:=cS ps[j]) (by rw[List.getElem?_map,hp];rfl)) λc hc hr=>?_
  refine gq (RV.tup_iff hr) λ_ h2=>fi1 h2 λa items e _ ht hrs=>?_
  refine oS (RVs.cons_iff hrs) λv1 r1 e1 q1 hrs=>oS (RVs.cons_iff hrs) λv2 r2 e2 q2 hrs=>?_
  refine gq (RV.str_iff q1) λl1 h3=>a4 h3 λt1 e3=>gq (RV.str_iff q2) λl2 h4=>a4 h4 λt2 e4=>?_
  have e5:r2=[]:=RVs.nil_iff hrs
  refine⟨a,items,by rw[← Array.getElem?_toList,hc,e],ht.isTuple,ps[j],t1,t2,hp,?_,l1,l2⟩
  rw[e2,e5,e3,e4] at e1
  exact Array.toList_inj.mp e1
 refine⟨λj=>if hj:j<vs.size then (key j hj).choose else 0,λj=>if hj:j<vs.size then (key j hj).choose_spec.choose else #[],hl,λj hj=>?_,λj hj=>?_,λj hj=>?_⟩
 ·rw[dif_pos hj];exact(key j hj).choose_spec.choose_spec.1
 ·rw[dif_pos hj,dif_pos hj];exact(key j hj).choose_spec.choose_spec.2.1
 ·exact(dif_pos hj)▸((key j hj).choose_spec.choose_spec.2.2)
section
variable {G:Wd} {A:Around} {C C':Cx} {env cenv:Env} {W W':List Addr} {η:ac} {σ:List AO} {ρ:Rho} {s:Shared} {m:Str->Option Value}
theorem pE(n:Nat):passing (λ_=>true) n 0=List.range n:=by unfold passing;exact(List.drop_zero)▸(List.filter_eq_self.mpr λ_ _=>rfl)
noncomputable def dt1(G:Wd)(A:Around)(env:Env)(sc:Scope)(ps:List (List Nat×List Nat))(elt:Expr)(F:Nat->Value->Prop):Prop :=
 ∀ (A':Around) (E':Value->Shared->Prop) (j:Nat) (p:List Nat×List Nat) (ta tb:Tok) (u:Shared) (mc:Str->Option Value) (L:Addr) (code:Value),A'.handled=none->A'.depth<=A.depth+1->A'.units<=A.units+8->ps[j]?=some p->p.1.length<=lim->p.2.length<=lim ->
  GF G (genEnv sc [] L code builtinsNs env) mc u->mc "fws"=some (.str ⟨p.1.toArray⟩ ta)->mc "part"=some (.str ⟨p.2.toArray⟩ tb)->wpAny (model G.prog G.w) A' (eval elt (genEnv sc [] L code builtinsNs env)) (λy d9=>F j y/\Keeps u d9) E' u
theorem sj(KX:AccX G m)(hit:m "__iter__"=none){fd:FuncData}(D:GenC G fd)(hnl:∃ mc,G.s₀.heap.Ns cStatics mc/\mc "sys.recursionlimit"=none)(hls:cStatics ∉ G.loose)(hbn:builtinsNs ∉ G.loose)
  (R:Rel G σ ρ s) (N:RE G C env W η ρ s) (hco:env.code=fd.code) (hv:cE C "self" 0=true) {k:Nat} {ps:List (List Nat×List Nat)} {i:Int} (hη:η[0]?=some (some (.ref k))) (hσ:σ[k]?=some ⟨ps.map cS,some i⟩)
  (hA:Room A 0) {sc:Scope} (hsc:zG sc=true) {elt:Expr} {F:Nat->Value->Prop} {pa pb pt pi pos:Pos} {kt:Nat} (hq:dt1 G A env sc ps elt F) :
  wpAny (model G.prog G.w) A (eval (.GeneratorExp elt [⟨.Tuple [.Name "fws" pa,.Name "part" pb] kt pt,.Name "self" pi,[],0⟩] sc pos) env) (ni1 G A s ps.length F) No s:=by
 have K:=KX.acc
 have h_p:=eI hsc;have z1:=h_p.1;have z2:=h_p.2.1;have z3:=h_p.2.2.1;have z4:=h_p.2.2.2.1;have z5:=h_p.2.2.2.2.1;have z6:=h_p.2.2.2.2.2.1;have z7:=h_p.2.2.2.2.2.2
 have hroom:A.depth<recursionLimit:=hA.depth
 refine wpAny_GeneratorExp_walksQTD hA.handled z1 (closureFor_none z4) z3 z5 z6 z7 (by decide) z2 hroom ?_ (λ_=>rfl)
 refine byQ λQ kQ=>?_
 refine pI (cp hv) λx hx hxn hxs=>?_
 refine kQ ?_
 refine wpAny_Name (hxn▸RE.load R N hx (hxs▸hη) λcv r=>?_) (by decide)
 refine aQ (RV.ref_iff r) λp hp e=>e▸?_
 refine uB (a7 R hp hσ) λvs n d g1 g2 g3 g4 g5 g6=>?_
 refine zY K R g1 rfl hit ?_
 refine cC (y6 g2) λTs vals X=>?_
 generalize hI:s.heap.objs.size=I
 generalize hio:({ cls:=.type "list_iterator",data:=.fields #[.ref p.1,.int 0 0] }:Obj)=io
 have lP:∀ b o,s.heap.get? b=some o->(s.heap.push io).get? b=some o:=λb o e=>Heap.get?_push_of_some _ e
 have fl1:(s.heap.push io).NoLimit:=(nk R hnl hls).keeps lP
 refine⟨fl1,zK R D lP hco λcode P hH tk hP zE fU1 hgr=>?_⟩
 have hz1:∀ b o,b ∉ G.loose->s.heap.get? b=some o->hH.get? b=some o:=λb o hb e=>zE b o (λq=>hb (q▸hP)) (lP b o e)
 have iV1:∀ b o,b ∉ G.loose->G.s₀.heap.get? b=some o->hH.get? b=some o:=λb o hb e=>hz1 b o hb (R.keep b o hb e)
 refine wp D.bm λmg bm ob B hbm hmg=>?_
 refine wpAny_builtinsFor (m:=mg) (by rw[N.glob];exact B.ns.at' λo e=>iV1 _ o hmg e) B.name B.ne (iV1 _ _ hbm B.obj) B.cls B.dict B.data ?_
 have hPI:P≠I:=λe=>absurd (lN R hP) (Nat.not_lt.mpr (e▸Nat.le_of_eq hI))
 have hsz:I<hH.objs.size:=Nat.lt_of_lt_of_le (by rw[Heap.size_push,hI];exact Nat.lt_succ_self _) fU1
 have hcs:cStatics<I:=hI▸(let ⟨_,hn,_⟩:=nk R hnl hls;hn.lt)
 have hpl:p.1<I:=hI▸Heap.lt_size g1
 have hTI:∀ j,j<vs.size->Ts j≠I:=λj hj=>Nat.ne_of_lt (hI▸(let ⟨_,e,_⟩:=X.tup j hj;Heap.lt_size e))
 have hpP:p.1 ∉ G.loose:=λh=>(i7 R h p (List.mem_of_getElem? hp)).1 rfl
 have hTP:∀ j,j<vs.size->Ts j ∉ G.loose:=λj hj h=>aQ (R.lse _ h) λus e _=>by
  refine a4 (X.tup j hj) λo h_p=>?_;have e':=h_p.1;have hc:=h_p.2.1
  replace e':=(e)▸e';replace hc:=(siX e')▸hc;cases hc
 refine⟨I,_,[I],vs.size,_,_,_,λ_=>true,F,hI▸rfl,λA' hA'=>vf (o:=⟨.ref G.cls,some p.2,.seq vs n,#[]⟩) hA' (Nat.ne_of_lt hpl) Ts vals X.at_ hTI,?_,⟨?_,⟨hz1 _ _ hpP g1,n,rfl⟩,λj hj=>(X.tup j hj).at λo e=>hz1 _ o (hTP j hj) e⟩,?_,?_,?_,?_,?_⟩
 ·rintro j v ⟨hj,rfl⟩
  exact zb (X.val j hj) λp ta tb _ e=>gq e λe _=>⟨_,_,e⟩
 ·refine⟨io,zE I io (Ne.symm hPI) (hI▸Heap.get?_push_size _ (hio▸rfl)),hio▸rfl,hio▸rfl⟩
 ·intro b hb
  rcases List.mem_cons.mp hb with rfl | hb
  ·exact hsz
  refine Or.elim (List.mem_cons.mp hb) (λh_l=>?_) (λhb=>?_)
  ·subst h_l
   exact Nat.lt_trans hpl hsz
  ·obtain ⟨j,hj,rfl⟩:=List.mem_map.mp hb
   exact Nat.lt_trans (hI▸(let ⟨_,e,_⟩:=X.tup j (List.mem_range.mp hj);Heap.lt_size e)) hsz
 ·exact fl1.extBut zE λe=>hls (e▸hP)
 ·intro h;exact absurd (List.mem_singleton.mp h) (Nat.ne_of_lt hcs)
 ·intro href hhref
  refine⟨λA' E' j va vb u mc _ _ _ _ _ _ _ _=>?_,λA' E' j va vb u mc hh hd hu hPt _ hn hva hvb hk=>?_⟩
  ·rw[List.forIn_nil]
   exact wpAny_pure ⟨rfl,u.heap,u.toks,rfl,λ_ _ e=>e⟩
  ·refine ei (X.val j hPt.1) λq ta tb e=>?_
   have e1:va=.str ⟨q.1.toArray⟩ ta/\vb=.str ⟨q.2.toArray⟩ tb:=by
    have:=hPt.2.trans e.2.1
    simpa using congrArg Array.toList this
   have ku:∀ b o,b ∉ G.loose->G.s₀.heap.get? b=some o->u.heap.get? b=some o:=λb o hb e=>by
    have e3:=R.keep b o hb e
    have hbI:b<I:=hI▸Heap.lt_size e3
    exact hk b (List.mem_range.mpr (Nat.lt_trans hbI hsz)) (λh=>Nat.ne_of_lt hbI (List.mem_singleton.mp h)) o (hhref b o (iV1 b o hb e))
   exact hq A' E' j q ta tb u mc hH.objs.size code hh hd hu e.1 e.2.2.1 e.2.2.2 ⟨z2,N.glob,rfl,λm' hm=>hm.at' λo e=>ku _ o hmg e,λm' hm=>hm.at' λo e=>ku _ o hbn e,hn⟩ (e1.1▸hva) (e1.2▸hvb)
 ·intro a xZ kX1 gs hgb hlt fT1 iU1 WS GA
  refine iO1 a _ _ _ _ _ rfl (⟨λb o hb e=>iU1 b o (hz1 b o hb e),λb hb=>?_,⟨_,_,_,rfl⟩,R.bare.push hgb⟩) (by rw[← X.len];rw[pE,List.length_range] at WS;exact WS) GA ?_ ?_ ?_ (λgs hm=>(R.bare.push hgb).moved hm) (λi u st=>st.1.typeIs) List.mem_cons_self
  ·by_cases hbP:b=P
   ·subst hbP
    exact aQ hgr λus e q=>⟨us,iU1 _ _ e,q⟩
   ·exact aQ (R.lse b hb) λus e q=>⟨us,iU1 _ _ (zE b _ hbP (lP _ _ e)),q⟩
  ·intro b hb
   show b<xZ.objs.size
   refine(fT1)▸?_
   rcases List.mem_cons.mp hb with rfl | hb
   ·exact Nat.lt_succ_self _
   refine Or.elim (List.mem_cons.mp hb) (λh_l=>?_) (λhb=>?_)
   ·subst h_l
    exact Nat.lt_succ_of_lt hlt
   ·exact Nat.lt_succ_of_lt (Nat.lt_trans (List.mem_range.mp hb) hlt)
  ·intro b hb
   rcases List.mem_cons.mp hb with rfl | hb
   ·exact hI▸Nat.le_of_lt hsz
   ·exact List.mem_singleton.mp hb▸Nat.le_of_eq hI
  ·rintro j v ⟨j',e,h⟩
   obtain ⟨_,e⟩:=List.getElem?_eq_some_iff.mp e
   rw[List.getElem_range] at e
   exact e▸h
end
theorem xP(a b:Value):argsOk "sum" ⟨[a,b],[]⟩:=by unfold argsOk;kernel_rfl
section
variable {prog:Program} {w:World} {A:Around} {I:Addr} {fp wr:List Addr} {Gg:Array GenState->Array GenState->Prop} {n:Nat} {P:Nat->Value->Prop} {St:Nat->Shared->Prop}
theorem o6(W:WalksS prog w A I fp wr Gg n P St):WalksS prog w A I fp wr Gg (n+1) (λi v=>∃ j,i=j+1/\P j v) (λi s=>∃ j,i=j+1/\St j s) where
 sub:=W.sub
 grefl:=W.grefl
 gtrans:=W.gtrans
 frame:=λi s h' tk ⟨j,e,st⟩ ht hk=>⟨j,e,W.frame j s h' tk st ht hk⟩
 item:=λi s Q E hi ⟨j,e,st⟩ hQ=>W.item j s Q E (by lia) st λv s' hP hst hm=>hQ v s' ⟨j,e,hP⟩ ⟨j+1,by rw[e],hst⟩ hm
 done:=(by rintro s Q E ⟨j,e,st⟩ hQ;exact W.done s Q E (Nat.succ.inj e▸st) hQ)
 self:=λi s Q E ⟨j,e,st⟩ hQ=>W.self j s Q E st hQ
noncomputable def shV(st:Int)(val:Nat->Int):Nat->Int
 | 0=>st
 | j+1=>val j
theorem iW(st:Int)(val:Nat->Int):∀ j,preSum (shV st val) (j+1)=st+preSum val j
 | 0=>by dsimp only[preSum,shV];lia
 | j+1=>by rw[preSum,iW st val j];show st+preSum val j+val j=st+(preSum val j+val j);lia
theorem vA{s:Shared}{st:Int}{t:Tok}{val:Nat->Int}{Q:Value->Shared->Prop}{E:Value->Shared->Prop}(W:WalksS prog w A.in1 I fp wr Gg n P St)(h0:St 0 s)(hfp:∀ b∈fp,b<s.heap.objs.size)(hv:∀ i v,P i v->∃ t,v=.int (val i) t)
  (hQ:∀ s' t',Moved wr Gg s s'->Q (.int (st+preSum val n) t') s'):wpAny (model prog w) A (call (.builtin "sum") [.ref I,.int st t]) Q E s:=by
 refine call_function_tree F.kind_sum F.plain_sum F.entry_sum (xP _ _) ?_
 dsimp only[Builtin.«sum»]
 dsimp only[List.length_cons,List.length_nil]
 rw[if_neg (by decide)]
 refine wpAny_bind (wpAny_of_eq (show Builtin.Builtins.bindParams "sum" ["start"] 0 ⟨[.int st t],[]⟩=pure [some (.int st t)] from rfl) ?_)
 refine wpAny_bind (W.self 0 s _ _ h0 ?_)
 have hSf:s.heap.objs.size ∉ fp:=λhm=>Nat.lt_irrefl _ (hfp _ hm)
 have loop:∀ (tA:Tok) (stage:Int) (tk:Nat),stage=0\/stage=2->s.toks<=tk->codeAny (model prog w) A (.builtin "sum.loop" ⟨[.ref I,.ref s.heap.objs.size,rawInt stage,rawInt 0],[]⟩) (λr s'=>match r with | .ok (.ret v)=>Q v s' | .ok _=>False | .error e=>E e s') { s with heap:=s.heap.push { cls:=.type "list",data:=.seq #[.int st tA] },toks:=tk }:=λtA stage tk hs htk =>
  codeAny_sum_loopAnyS (o6 W) (shV st val) (λi v h=>aQ h λj e h=>a4 (hv j v h) λt' e'=>⟨t',by rw[e,e'];rfl⟩) s.heap.objs.size hSf n 1 _ tA 0 stage hs (by solve_by_elim (maxDepth:=4) only [*,Nat.le_trans,Nat.lt_of_lt_of_le,Nat.lt_of_le_of_lt,Nat.le_of_lt,Nat.le_of_eq,Nat.le_refl,Eq.symm,Nat.le_add_right,Nat.le_add_left,Nat.le_succ,Nat.sub_le,Nat.succ_le_succ,Nat.lt_succ_of_le,Nat.le_of_lt_succ,Nat.zero_le,Nat.succ_pos,Int.ofNat_le.mpr,Int.ofNat_lt.mpr,Int.natCast_nonneg,Nat.not_le.mpr,Nat.not_lt.mpr,Nat.not_le.mp,Nat.not_lt.mp]) (by exact Nat.succ_pos _)
   ⟨0,rfl,W.frame 0 s _ _ h0 htk λb _ o e=>Heap.get?_push_of_some _ e⟩ (Heap.get?_push_size _ rfl |>.trans (by rw[iW];simp [preSum])) λs' t' hm=>by
    rw[iW]
    exact hQ s' t' (hm.drop_new htk)
 have tail:∀ (tA:Tok) (stage:Int) (tk:Nat),stage=0\/stage=2->s.toks<=tk->wpAny (model prog w) A.in1 (do
   for (ty,what,hint) in [("str","strings","''"),("bytes","bytes","b''"),("bytearray","bytearray","b''")] do
    if ← isInstance (.int st tA) (.type ty) then
     rule "sum.start-refused";raiseError "TypeError" s!"sum() can't sum {what} [use {hint}.join(seq) instead]"
   again (.builtin "sum.loop" ⟨[.ref I,← newList [.int st tA],rawInt stage,rawInt 0],[]⟩)) (λfin s'=>match fin with
    | .done f=>(match (Except.ok f:Result) with | .ok (.ret v)=>Q v s' | .ok _=>False | .error e=>E e s')
    | .again c'=>c'.quiet=true/\codeAny (model prog w) A c' (λr s'=>match r with | .ok (.ret v)=>Q v s' | .ok _=>False | .error e=>E e s') s') E { s with toks:=tk }:=λtA stage tk hs htk=>by
  dsimp only[List.forIn_cons,List.forIn_nil]
  refine wpAny_bind (wpAny_bind (wpAny_bind (wpAny_isInstance (T:="int") (b:=false) (typeIs_int _ _ _) PySem.sub_int_str ?_)))
  dsimp only[Bool.false_eq_true,if_false]
  refine wpAny_pure (wpAny_bind (wpAny_bind (wpAny_isInstance (T:="int") (b:=false) (typeIs_int _ _ _) PySem.sub_int_bytes ?_)))
  dsimp only[Bool.false_eq_true,if_false]
  refine wpAny_pure (wpAny_bind (wpAny_bind (wpAny_isInstance (T:="int") (b:=false) (typeIs_int _ _ _) PySem.sub_int_bytearray ?_)))
  dsimp only[Bool.false_eq_true,if_false]
  refine wpAny_pure (wpAny_pure (wpAny_bind (wpAny_newObj_type ?_)))
  exact wpAny_pure ⟨plainId_quiet F.plain_sum_loop _,loop tA stage tk hs htk⟩
 dsimp only
 split
 ·refine wpAny_bind (wpAny_rule (wpAny_bind (wpAny_mkInt (wpAny_bind (wpAny_pure ?_)))))
  exact tail s.toks 0 (s.toks+1) (.inl rfl) (Nat.le_succ _)
 ·refine wpAny_bind (wpAny_pure ?_)
  exact tail t 2 s.toks (.inr rfl) (Nat.le_refl _)
end
noncomputable def i51(elt:Expr)(sc:Scope)(P:Nat->Pos)(q:Nat):Expr:=.GeneratorExp elt [⟨.Tuple [.Name "fws" (P q),.Name "part" (P (q+1))] 0 (P (q+2)),.Name "self" (P (q+3)),[],0⟩] sc (P (q+4))
noncomputable def fC1(P:Nat->Pos):Expr:=.BinOp (.Call (.Name "len" (P 1)) [.Name "fws" (P 2)] [] (P 3)) .Add (.Call (.Name "len" (P 4)) [.Name "part" (P 5)] [] (P 6)) (P 7)
noncomputable def hx1(C:Cx)(body:List Stmt):Prop:=∃ P:Nat->Pos,∃ sc:Scope,body=[.Return (some (.Call (.Name "sum" (P 0)) [i51 (fC1 P) sc P 8,.Attribute (.Name "self" (P 13)) "_initial_size" (P 14)] [] (P 15))) (P 16)] /\
 (cE C "self" 0&&bp (C.kind "sum") .globalImplicit&&zG sc&&bp (sc.names.lookup ("len":Str)) .globalImplicit)=true
noncomputable def eh(ps:List (List Nat×List Nat)):Int:=(ps.map λp=>(p.1.length:Int)+p.2.length).sum
section
variable {G:Wd} {A:Around} {C C':Cx} {env cenv:Env} {W W':List Addr} {η:ac} {σ:List AO} {ρ:Rho} {s s':Shared} {m:Str->Option Value}
theorem iX{f:List Nat×List Nat->Int}{g:Nat->Int}{ps:List (List Nat×List Nat)}(h:∀ j p,ps[j]?=some p->g j=f p):∀ j,j<=ps.length->preSum g j=((ps.take j).map f).sum
 | 0,_=>rfl
 | j+1,hj=>by
  have e:ps[j]?=some ps[j]:=List.getElem?_eq_getElem hj
  rw[preSum,iX h j (Nat.le_of_lt hj),h j _ e,List.take_succ,e,List.map_append,List.sum_append]
  exact congrArg _ (Int.add_zero (f ps[j])).symm
theorem Grow.toks{t:Nat}(g:Grow G s s'):Grow G s { s' with toks:=t }:=⟨g.keep,g.lse,ei g.same λh tk gs e=>⟨h,t,gs,by rw[e]⟩,g.bare⟩
noncomputable def wR(ps:List (List Nat×List Nat))(j:Nat):Int:=((ps[j]?).map λp=>(p.1.length:Int)+p.2.length).getD 0
theorem ci1{sc:Scope}{ps:List (List Nat×List Nat)}{P:Nat->Pos}(g:Gl G "len" (.builtin "len"))(hl:sc.names.lookup ("len":Str)=some .globalImplicit)(h1:sc.names.lookup ("fws":Str)=some .local)(h2:sc.names.lookup ("part":Str)=some .local) :
  dt1 G A env sc ps (fC1 P) λj y=>∃ t,y=.int (wR ps j) t:=λA' E' j p ta tb u mc L code _ _ _ hp l1 l2 F va vb=>by
 have:=eQ1 (A:=A') (E:=E') (p1:=P 1) (p2:=P 2) (p3:=P 3) (p4:=P 4) (p5:=P 5) (p6:=P 6) (pos:=P 7) F hl g h1 va (by decide) h2 vb (by decide) (show p.1.toArray.size<=lim by exact l1) (show p.2.toArray.size<=lim by exact l2)
 refine wpAny_mono this (λy d9 q=>⟨a4 q.1 λt e=>⟨t,e.trans ?_⟩,q.2⟩) λ_ _ e=>e
 unfold wR
 refine(hp)▸?_
 rfl
theorem g01(KX:AccX G m)(hit:m "__iter__"=none)(hga:m "__getattribute__"=none)(hgt:m "__getattr__"=none){a:Addr}{fd:FuncData}{body:List Stmt}{ns:List Str}{n k:Nat}{ps:List (List Nat×List Nat)}{i:Int}(D:DefM G a fd body C ns)(DC:GenC G fd)
  (gl:Gl G "len" (.builtin "len")) (gs:Gl G "sum" (.builtin "sum")) (hm:hx1 C body) (hns:ns.length=1) (hb:∀ cvs:List Value,cvs.length=1->bindArgs fd ⟨cvs,[]⟩=pure (ns.zip cvs)) (hr:Room A (n+1)) (hσ:σ[k]?=some ⟨ps.map cS,some i⟩) :
  On G A (λcvs=>call (.ref a) cvs) σ [.ref k] (.int (i+eh ps)) σ:=by
 refine zc hm λP sc e hc=>?_
 subst e
 have h1:=ao hc;have h2:=ao h1.1;have h3:=ao h2.1
 refine On.defM (k:=0) (xs:=[]) (dv:=[]) (η':=aU [.ref k] 0) D hr (by rw[hns];rfl) (λ_ _=>RVs.nil) (λs cvs _ hl=>BindsTo.of_eq (by rw[List.append_nil];exact hb cvs hl)) (.inl rfl) λA' env W hA e1 e2 e3 e4=>EssAt.of (Ess.stop nofun (Es.ret λρ s R N ht=>?_))
 refine wpAny_Call_Name_kw (RE.global R N (beq_iff_eq.mp h3.2) (by decide) gs ?_)
 refine callWith_builtin rfl (evalArgs_plain (spliced_cons ?_))
 refine eo (sj KX hit DC D.nolimit D.ls gl.l2 R N e2 h3.1 (by rfl) hσ (hA.less (Nat.zero_le _)) h2.2 (ci1 gl (beq_iff_eq.mp h1.2) (eI h2.2).2.2.2.2.2.1 (eI h2.2).2.2.2.2.2.2)) λv au hle X=>?_
 refine byQ λQ kQ=>?_
 obtain ⟨x,fp,wr,Gg,Pv,St,rfl,gr,WS,h0,hfp,hwr,hPF,hbare,_⟩:=X
 have am:=gr.step R
 refine kQ ?_
 refine spliced_cons (Attribute_Name_ ?_)
 refine byQ λQ kQ=>?_
 refine a4 (cp h3.1) λy h_p=>?_;have hy:=h_p.1;have hyn:=h_p.2.1;have hys:=h_p.2.2
 refine kQ ?_
 refine wpAny_Name (hyn▸RE.load am.rel (N.mono R am) hy (v:=.ref k) (by rw[hys];rfl) λcv r=>?_) (by decide)
 refine aQ (RV.ref_iff r) λp hp e=>e▸?_
 refine uB (a7 am.rel hp hσ) λvs n d g1 g2 g3 g4 g5 g6=>?_
 refine a4 g4 λti g4=>?_
 refine qZ KX am.rel hga hgt g1 g3 g4 (spliced_nil ?_)
 refine vA (val:=wR ps) (s:={ au with toks:=au.toks+1 }) WS.in4_1 (WS.frame 0 au _ _ h0 (Nat.le_succ _) λ_ _ _ e=>e) hfp hPF λs' t' hmv=>?_
 have e:preSum (wR ps) ps.length=eh ps:=by
  rw[iX (f:=λp=>(p.1.length:Int)+p.2.length) (λj p hp=>by unfold wR;rw[hp];rfl) _ (Nat.le_refl _),List.take_length]
  rfl
 rw[e]
 exact⟨ρ,(Grow.moved R gr.toks hwr (λb hb hw=>absurd (lN R hb) (Nat.not_lt.mpr (hwr b hw))) hmv hbare).step R,_,rfl⟩
end
noncomputable def wj(v:V):Option (List Nat×List Nat):=match v with
 | .tup [.str a,.str b]=>some (a,b)
 | _=>none
noncomputable def eE:List V->Option (List (List Nat×List Nat))
 | []=>some []
 | x::r=>(wj x).bind λp=>(eE r).map (p::·)
theorem y7{v:V}{p:List Nat×List Nat}(h:wj v=some p):v=cS p:=by
 cases v with
 | tup l=>cases l with
  | nil=>exact nso h
  | cons x l=>cases x with
   | str a=>cases l with
    | nil=>exact nso h
    | cons y l=>cases y with
     | str b=>cases l with
      | nil=>rw[← siX h];rfl
      | cons z l=>exact nso h
     | _=>cases l <;> exact nso h
   | _=>cases l with
    | nil=>exact nso h
    | cons y l=>cases l <;> exact nso h
 | _=>exact nso h
theorem i3:∀ {l:List V} {ps:List (List Nat×List Nat)},eE l=some ps->l=ps.map cS
 | [],_,h=>by rw[← siX h];rfl
 | x::r,ps,h=>by
  refine aQ (Option.bind_eq_some_iff.mp h) λp h1 h2=>aQ (Option.map_eq_some_iff.mp h2) λq h3 h4=>?_
  rw[← h4,y7 h1,i3 h3]
  rfl
noncomputable def fb1:rb:=λvs σ=>match vs with
 | [.ref k]=>match σ[k]? with
  | some ⟨l,some i⟩=>(eE l).bind λps=>if 0<=i+eh ps/\i+eh ps<1000000000 then some (.int (i+eh ps),σ) else none
  | _=>none
 | _=>none
noncomputable def tj:rb:=λvs σ=>match vs with
 | [.ref k]=>match σ[k]? with
  | some ⟨l,some i⟩=>some (.int l.length,σ)
  | _=>none
 | _=>none
section
variable {P:List V->Prop} {vs:List V} {σ:List AO} {r:V×List AO} {k:Nat}
theorem eF1{β:Type}{f:Nat->Option β}{r:β} (h:(match vs with
  | [.ref k]=>f k
  | _=>none)=some r) (q:∀ k,f k=some r->P [.ref k]):P vs:=by
 cases vs with
 | nil=>exact nso h
 | cons x l=>cases x with
  | ref k=>cases l with
   | nil=>exact q k h
   | cons y l=>exact nso h
  | _=>cases l <;> exact nso h
theorem bQ1(h:tj (.ref k::vs) σ=some r)(q:∀ l i,σ[k]?=some ⟨l,some i⟩->(V.int l.length,σ)=r->P []):P vs:=by
 cases vs with
 | nil=>exact qX h λl i e h=>q l i e (siX h)
 | cons a vs=>exact nso h
end
structure LenOk (G:Wd) (m:Str->Option Value):Prop where
 hit:m "__iter__"=none
 gl:Gl G "len" (.builtin "len")
 gs:Gl G "sum" (.builtin "sum")
 len:∃ a fd body C ns,m "__len__"=some (.ref a)/\DefM G a fd body C ns/\GenC G fd/\hx1 C body/\ns.length=1/\∀ cvs:List Value,cvs.length=1->bindArgs fd ⟨cvs,[]⟩=pure (ns.zip cvs)
section
variable {G:Wd} {A:Around} {C C':Cx} {env cenv:Env} {W W':List Addr} {η:ac} {σ:List AO} {ρ:Rho} {s s':Shared} {m:Str->Option Value}
theorem Room.in1{n:Nat}(h:Room A (n+1)):Room A.in1 n:=⟨h.handled,Nat.lt_of_le_of_lt (by show A.depth+n<=A.depth+(n+1);exact Nat.le_succ _) h.depth,by have:=h.units;show A.units+1+4*n+12<cLine;lia⟩
theorem dq1(M:MethsOk G m)(L:LenOk G m){n k:Nat}{ps:List (List Nat×List Nat)}{i:Int}(hr:Room A (n+3))(hσ:σ[k]?=some ⟨ps.map cS,some i⟩)(h0:0<=i+eh ps/\i+eh ps<1000000000) :
  On G A (λcvs=>call (.builtin "len") cvs) σ [.ref k] (.int (i+eh ps)) σ:=λρ s cvs R r ht=>by
 refine oS (RVs.cons_iff r) λc r' e h1 h2=>?_
 rw[e,RVs.nil_iff h2]
 refine aQ (RV.ref_iff h1) λp hp e=>?_
 subst e
 refine uB (a7 R hp hσ) λvs nn d g1 g2 g3 g4 g5 g6=>?_
 refine hm1 L.len λa fd body C ns e1 D DC hm hns hb=>?_
 refine pI D.obj λo hob hfd hfc=>?_
 refine Calls.call_function_entry kind_len plain_len entry_len (args_len1 _) ?_
 dsimp only[Builtin.«len»]
 refine wpAny_bind (m:=oneArg "len" _) (wpAny_pure ?_)
 refine wpAny_bind (m:=callSpecial? (.ref p.1) (Str.ofString "__len__")) ?_
 dsimp only[callSpecial?]
 refine wpAny_bind (br M.KX.acc R g1 rfl (.inl ⟨_,e1,rfl⟩) ?_)
 refine wpAny_holding (wpAny_bind ?_)
 unfold bindSpecial
 refine wpAny_bind (m:=typeOf (.ref a)) ?_
 dsimp only[typeOf]
 refine wpAny_bind (wpAny_load (R.keep a o D.la hob) (wpAny_pure ?_))
 rw[hfc]
 refine(if_pos (show (Value.type "function"==.type "function" || Value.type "function"==.type "method_descriptor" || Value.type "function"==.type "wrapper_descriptor")=true from rfl))▸?_
 refine wpAny_pure (wpAny_bind ?_)
 refine wpAny_mono (g01 M.KX L.hit M.n1 M.n2 D DC L.gl L.gs hm hns hb (hr.in1:Room A.in1 (n+2)) hσ ρ s [.ref p.1] R (RVs.cons h1 RVs.nil) ht) (λv au ⟨aa,am,aA⟩=>?_) λ_ _ f=>f.elim
 obtain ⟨t,rfl⟩:=RV.int_iff aA
 refine wpAny_pure (wpAny_bind (wpAny_holding (wpAny_pure (wpAny_bind (wpAny_letGo ?_)))))
 show wpAny _ _ (if i+eh ps<0 then _ else _) _ _ _
 rw[if_neg (by omega)]
 show wpAny _ _ (if i+eh ps ≥ 2 ^ 63 then _ else _) _ _ _
 rw[if_neg (by omega)]
 exact wpAny_bind (wpAny_mkInt (wpAny_pure ⟨_,rfl,aa,am.trans (Step.toks am.rel _),RV.int_⟩))
theorem yP(M:MethsOk G m)(L:LenOk G m){n:Nat}(hr:Room A (n+4)):ff G A "len" fb1:=by
 intro C env W η σ σ₁ σ₂ q pos args vs v hk hd hn hE hp
 refine Ev.callB hk hd L.gl hn hE (eF1 (P:=λvs=>On G A (λcvs=>call (.builtin "len") cvs) σ₁ vs v σ₂) hp λk h=>?_)
 refine qX h λl i e h=>aQ (Option.bind_eq_some_iff.mp h) λps h1 h2=>?_
 obtain ⟨rfl,rfl⟩:=Prod.mk.inj (siX (bg h2).2)
 exact dq1 M L (hr.less (Nat.add_le_add_left (by decide) n):Room A (n+3)) (i3 h1▸e) (bg h2).1
theorem vQ(M:MethsOk G m){n:Nat}(hr:Room A (n+4)):gk G A "part_count" tj:=by
 intro C env W η σ σ₁ σ₂ aq q pos o args vs v k l i h1 h2 h3 h4 hE hσ hA hp
 refine dw1 (M.part) λa fd body C' ns x e1 D V hx hm hns hb=>?_
 refine pI (D.obj) λob hob hfd hfc=>?_
 refine Ev.accDef M.KX.acc h1 h2 h3 h4 M.n1 M.n2 e1 (by decide) hob D.la hfd hfc hE hσ hA ?_
 refine bQ1 (P:=λvs=>On G A (λcvs=>call (.ref a) cvs) σ₂ (.ref k::vs) v aq) hp λl i e q=>?_
 obtain ⟨rfl,rfl⟩:=Prod.mk.inj q
 exact hV M.KX M.U D V hx hm hns hb (hr.less (Nat.add_le_add_left (by decide) n):Room A (n+1)) e
end
noncomputable def ih1(P:Nat->Pos):Expr:=.Call (.Attribute (.Name "EMPTYSTRING" (P 2)) "join" (P 3)) [.Tuple [.Name "fws" (P 4),.Name "part" (P 5)] 0 (P 6)] [] (P 7)
noncomputable def hb1(C:Cx)(body:List Stmt):Prop:=∃ P:Nat->Pos,∃ sc:Scope,body=[.Return (some (.Call (.Attribute (.Name "EMPTYSTRING" (P 0)) "join" (P 1)) [i51 (ih1 P) sc P 8] [] (P 13))) (P 14)] /\
 (cE C "self" 0&&bp (C.kind "EMPTYSTRING") .globalImplicit&&zG sc&&bp (sc.names.lookup ("EMPTYSTRING":Str)) .globalImplicit&&((P 1).endLine==(P 13).line)&&((P 3).endLine==(P 7).line))=true
noncomputable def iC(ps:List (List Nat×List Nat)):List (List Nat):=ps.map λp=>p.1++p.2
section
variable {G:Wd} {A:Around} {C C':Cx} {env cenv:Env} {W W':List Addr} {η:ac} {σ:List AO} {ρ:Rho} {s s':Shared} {m mc:Str->Option Value} {E:Value->Shared->Prop}
theorem r9(x:List Nat)(ys:List (List Nat)):Txt.join (S' x) (ys.map S')=S' (bZ x ys):=by
 have h:=iB x ys
 unfold Txt.join
 rw[StrLaws.glued_eq_join]
 generalize Str.join (S' x) (ys.map S')=z at h
 have c:=z
 exact congrArg Str.mk (Array.toList_inj.mp h)
theorem bD1{p1 p2 p3 p4 p5 pos:Pos}{la lb:List Nat}{te ta tb:Tok}(F:GF G cenv mc s)(hE:cenv.kindOf "EMPTYSTRING"=some .globalImplicit)(g:Gl G "EMPTYSTRING" (.str (S' []) te))
  (hka:cenv.kindOf "fws"=some .local) (hva:mc "fws"=some (.str (S' la) ta)) (hkb:cenv.kindOf "part"=some .local) (hvb:mc "part"=some (.str (S' lb) tb)) (ha:la.length<=lim) (hb:lb.length<=lim) (hline:(p2.endLine==pos.line)=true) :
  wpAny (model G.prog G.w) A (eval (.Call (.Attribute (.Name "EMPTYSTRING" p1) "join" p2) [.Tuple [.Name "fws" p3,.Name "part" p4] 0 p5] [] pos) cenv) (λy d9=>(∃ t,y=.str (S' (la++lb)) t)/\Keeps s d9) E s:=by
 refine wpAny_Call_method_lateS rfl rfl hline (F.global hE (by decide) g ?_)
 refine fv1 "str" "str.join" fF.attrs fF.slot fF.ty (typeIs_str _ _ _) (λ_ e=>nomatch e) ?_
 refine callWith_builtin (bK (es:=[.Tuple [.Name "fws" p3,.Name "part" p4] 0 p5]) rfl) (bU rfl ?_)
 refine PyProof.Rows.args_cons ?_
 rw[arm_eval_Tuple]
 refine wpAny_bind (wpAny_standAt (wpAny_bind (PyProof.Rows.args_cons (v6 F hka hva (by decide) (PyProof.Rows.args_cons (v6 F hkb hvb (by decide) (PyProof.Rows.args_nil ?_)))))))
 refine wpAny_newTuple (PyProof.Rows.args_nil ?_) (show 2<=sizeLine by decide)
 refine join_tuple (D:=s.heap.objs.size) (items:=#[.str (S' la) ta,.str (S' lb) tb]) (ys:=[S' la,S' lb]) ⟨_,Heap.get?_push_size _ rfl,rfl,_,rfl⟩ (.cons _ _ (.cons _ _ .nil)) ?_ λt' k=>⟨⟨t',?_⟩,_,k,rfl,λb o e=>Heap.get?_push_of_some _ e⟩
 ·have h1:(S' la).length=la.length:=bi
  have h2:(S' lb).length=lb.length:=bi
  have h3:(S' []).length=0:=rfl
  show (S' la).length+((S' lb).length+0)+2*(S' []).length<=16777216
  unfold lim at ha hb
  lia
 ·rw[show ([S' la,S' lb]:List Str)=[la,lb].map S' from rfl,r9]
  show Value.str (S' (la++[]++lb)) t'=_
  rw[List.append_nil]
noncomputable def yv(ps:List (List Nat×List Nat))(j:Nat):List Nat:=((ps[j]?).map λp=>p.1++p.2).getD []
theorem ba1{sc:Scope}{ps:List (List Nat×List Nat)}{P:Nat->Pos}{te:Tok}(g:Gl G "EMPTYSTRING" (.str (S' []) te))(hl:sc.names.lookup ("EMPTYSTRING":Str)=some .globalImplicit)(h1:sc.names.lookup ("fws":Str)=some .local)(h2:sc.names.lookup ("part":Str)=some .local)(hline:((P 3).endLine==(P 7).line)=true) :
  dt1 G A env sc ps (ih1 P) λj y=>∃ t,y=.str (S' (yv ps j)) t:=λA' E' j p ta tb u mc L code _ _ _ hp l1 l2 F va vb=>by
 have:=bD1 (A:=A') (E:=E') (p1:=P 2) (p2:=P 3) (p3:=P 4) (p4:=P 5) (p5:=P 6) (pos:=P 7) F hl g h1 va h2 vb l1 l2 hline
 refine wpAny_mono this (λy d9 q=>⟨a4 q.1 λt e=>⟨t,e.trans ?_⟩,q.2⟩) λ_ _ e=>e
 unfold yv
 refine(hp)▸?_
 rfl
theorem yu(ps:List (List Nat×List Nat)):(List.range ps.length).map (yv ps)=iC ps:=by
 apply List.ext_getElem?
 intro j
 unfold iC yv
 rw[List.getElem?_map,List.getElem?_map]
 by_cases h:j<ps.length
 ·rw[List.getElem?_range h,List.getElem?_eq_getElem h,Option.map_some,Option.map_some,List.getElem?_eq_getElem h];rfl
 ·rw[List.getElem?_eq_none (by rw[List.length_range];omega),List.getElem?_eq_none (by omega)];rfl
theorem yo{l:List (Str×Tok)}{n:Nat}{f:Nat->List Nat}{Pv:Nat->Value->Prop}(hP:∀ j v,Pv j v->∃ t,v=.str (S' (f j)) t)(h:ItemsOf Pv (strValues l).toArray n):l.map (·.1)=((List.range n).map f).map S':=by
 apply List.ext_getElem?
 intro j
 have hsz:l.length=n:=by simpa [strValues] using h.1
 by_cases hj:j<n
 ·have hj':j<l.length:=hsz▸hj
  refine a4 (hP j _ (h.2 j (.str l[j].1 l[j].2) (by simp [strValues,List.getElem?_eq_getElem hj']))) λu hv=>?_
  injection hv with h1 _
  simp [List.getElem?_eq_getElem hj',hj,h1]
 ·rw[List.getElem?_eq_none (by simpa [hsz] using Nat.le_of_not_lt hj),List.getElem?_eq_none (by simpa using Nat.le_of_not_lt hj)]
theorem qk:∀ l:List (List Nat),bZ [] l=l.flatten
 | []=>rfl
 | [x]=>(List.append_nil x).symm
 | x::y::l=>by show x++[]++bZ [] (y::l)=x++(y::l).flatten;rw[List.append_nil,qk (y::l)]
theorem gY1(KX:AccX G m)(hit:m "__iter__"=none){a:Addr}{fd:FuncData}{body:List Stmt}{ns:List Str}{n k:Nat}{ps:List (List Nat×List Nat)}{i:Int}(D:DefM G a fd body C ns)(DC:GenC G fd){te:Tok}
  (ge:Gl G "EMPTYSTRING" (.str (S' []) te)) (hbn:builtinsNs ∉ G.loose) (hm:hb1 C body) (hns:ns.length=1) (hb:∀ cvs:List Value,cvs.length=1->bindArgs fd ⟨cvs,[]⟩=pure (ns.zip cvs)) (hr:Room A (n+1)) (hσ:σ[k]?=some ⟨ps.map cS,some i⟩)
  (hn:ps.length<=lim) (hl:bn (iC ps)<=lim) :
  On G A (λcvs=>call (.ref a) cvs) σ [.ref k] (.str (iC ps).flatten) σ:=by
 refine zc hm λP sc e hc=>?_
 subst e
 have h0:=ao hc;have h01:=ao h0.1;have h1:=ao h01.1;have h2:=ao h1.1;have h3:=ao h2.1
 refine On.defM (k:=0) (xs:=[]) (dv:=[]) (η':=aU [.ref k] 0) D hr (by rw[hns];rfl) (λ_ _=>RVs.nil) (λs cvs _ hl=>BindsTo.of_eq (by rw[List.append_nil];exact hb cvs hl)) (.inl rfl) λA' env W hA e1 e2 e3 e4=>EssAt.of (Ess.stop nofun (Es.ret λρ s R N ht=>?_))
 refine wpAny_Call_method_lateS rfl rfl h01.2 (RE.global R N (beq_iff_eq.mp h3.2) (by decide) ge ?_)
 refine fv1 "str" "str.join" fF.attrs fF.slot fF.ty (typeIs_str _ _ _) (λ_ e=>nomatch e) ?_
 refine callWith_builtin (bK (es:=[i51 (ih1 P) sc P 8]) rfl) (bU rfl (PyProof.Rows.args_cons ?_))
 refine eo (sj KX hit DC D.nolimit D.ls hbn R N e2 h3.1 (by rfl) hσ (hA.less (Nat.zero_le _)) h2.2 (ba1 ge (beq_iff_eq.mp h1.2) (eI h2.2).2.2.2.2.2.1 (eI h2.2).2.2.2.2.2.2 h0.2)) λv au hle X=>?_
 refine byQ λQ kQ=>?_
 obtain ⟨x,fp,wr,Gg,Pv,St,rfl,gr,WS,h0',hfp,hwr,hPF,hbare,hty,hmem⟩:=X
 refine kQ ?_
 refine PyProof.Rows.args_nil ?_
 refine SC.joinGen WS.in4_2 hty h0' hfp hmem (λj v hv=>a4 (hPF j v hv) λt e=>⟨_,t,e⟩) (λs' l hmv hit=>?_) (Nat.le_trans hn (by decide))
 have et:l.map (·.1)=(iC ps).map S':=(yo hPF hit).trans (by rw[yu])
 refine(et)▸?_
 refine⟨?_,λt' kk=>?_⟩
 ·refine joinOk_of ?_
  rw[List.map_map,List.length_map]
  have e5:((iC ps).map ((λp:Str=>p.length) ∘ S')).sum=bn (iC ps):=fV (iC ps)
  refine(show ((iC ps).map ((λx:Str=>x.length) ∘ S')).sum=bn (iC ps) from e5)▸?_
  show bn (iC ps)+(iC ps).length*0<=16777216
  unfold lim at hl
  lia
 ·rw[r9,qk]
  have hle:((iC ps).flatten).length<=lim:=by
   have:=cN [] (iC ps)
   rw[qk] at this
   exact Nat.le_trans this (by show _+_*0<=_;omega)
  exact⟨ρ,(Grow.moved R gr hwr (λb hb hw=>absurd (lN R hb) (Nat.not_lt.mpr (hwr b hw))) hmv hbare).toks.step R,RV.str' hle rfl⟩
end
section
variable {prog:Program} {w:World} {A:Around} {E:Value->Shared->Prop} {s:Shared} {Q:Value->Shared->Prop}
theorem yk{T newId:String}{args:List Value}(ft:TypeCalled T newId "object.__init__")(hne:(some newId != some "object.__new__")=true)(hct:checkTypeCall T ⟨args,[]⟩=pure ())(hok:∀ obj,argsOk "object.__init__" ⟨obj::args,[]⟩)
  (hn:codeAny (model prog w) A.in1 (.call (.builtin newId) ⟨.type T::args,[]⟩) (wants (λv au=>au.TypeIs v T/\Q v au) E) s):wpAny (model prog w) A (call (.type T) args) Q E s:=by
 refine cC (ft.mro) λc tl hmro=>?_
 have hmade:=ft.made
 have hsub:=ft.sub
 refine wpAny_call (codeAny_of_tree ?_)
 show wpAny _ _ (callAny (.type T) _) _ _ _
 refine wpAny_pure ⟨Code.quiet_builtin _ (by decide +kernel),codeAny_builtin F.entry_type_call ?_⟩
 rw[Around.under_plain (weight_type_call_type T args []) (units_type_call_type T args [])]
 have h1:=ft.notType
 have h2:=ft.canCreate
 repeat (any_goals (first | assumption | wp_step))
 refine codeAny_mono hn λr au hr=>?_
 cases r with
 | error e=>exact hr
 | ok fl =>
  cases fl with
  | ret obj =>
   refine gq (hr) λhT hq=>?_
   have hli:=ft.init.lookup
   have hbi:=ft.init.bind obj
   repeat (any_goals (first | assumption | wp_step))
   refine codeAny_mono (codeAny_call_builtin ft.init.plain F.entry_object_init (ft.init.check _ _ _ _ _ _ _ _ hT (hok obj) (object_init_meets ft.init.lookup ft.made hne prog w A.in1 (wants (λr aG=>r=.none/\Q obj aG) E) au ⟨hT,rfl,hq⟩))) λaL aG cz1=>?_
   cases aL with
   | error e=>exact cz1
   | ok jd1 =>
    cases jd1 with
    | ret r =>
     refine gq (cz1) λrfl hq=>?_
     repeat (any_goals (first | assumption | wp_step))
    | _=>exact cz1.elim
  | _=>exact hr.elim
theorem yt{v:Value}(h:wpAny (model prog w) A.in1.in1 (Builtin.Str.strOf v) (λv au=>au.TypeIs v "str"/\Q v au) E s):wpAny (model prog w) A (call (.type "str") [v]) Q E s:=by
 refine yk F.called_str (by decide) (F.typeCall_str_1 _) (λobj=>F.args_object_init_2 obj v) ?_
 refine codeAny_call_builtin F.called_str.plain F.entry_str_new (wpAny_of_eq (F.newCall_str_1 v) ?_)
 refine(str_new_tree v)▸?_
 refine wpAny_bind (wpAny_pure ?_)
 refine wpAny_bind (wpAny_of_eq isSubtype_str_str ?_)
 exact wpAny_bind (wpAny_mono h (λr s' h'=>wpAny_pure h') λ_ _ e=>e)
end
noncomputable def e91:rb:=λvs σ=>match vs with
 | [.ref k]=>match σ[k]? with
  | some ⟨l,some i⟩=>(eE l).bind λps=>if ps.length<=lim/\bn (iC ps)<=lim then some (.str (iC ps).flatten,σ) else none
  | _=>none
 | _=>none
structure StrOk (G:Wd) (m:Str->Option Value):Prop where
 hit:m "__iter__"=none
 gt:Gl G "str" (.type "str")
 ge:∃ te,Gl G "EMPTYSTRING" (.str (S' []) te)
 l2:builtinsNs ∉ G.loose
 str:∃ a fd body C ns,m "__str__"=some (.ref a)/\DefM G a fd body C ns/\GenC G fd/\hb1 C body/\ns.length=1/\∀ cvs:List Value,cvs.length=1->bindArgs fd ⟨cvs,[]⟩=pure (ns.zip cvs)
section
variable {G:Wd} {A:Around} {C C':Cx} {env cenv:Env} {W W':List Addr} {η:ac} {σ:List AO} {ρ:Rho} {s s':Shared} {m:Str->Option Value}
theorem dn1(M:MethsOk G m)(L:StrOk G m){n k:Nat}{ps:List (List Nat×List Nat)}{i:Int}(hr:Room A (n+4))(hσ:σ[k]?=some ⟨ps.map cS,some i⟩)(hn:ps.length<=lim)(hl:bn (iC ps)<=lim) :
  On G A (λcvs=>call (.type "str") cvs) σ [.ref k] (.str (iC ps).flatten) σ:=λρ s cvs R r ht=>by
 refine oS (RVs.cons_iff r) λc r' e h1 h2=>?_
 rw[e,RVs.nil_iff h2]
 refine aQ (RV.ref_iff h1) λp hp e=>?_
 subst e
 refine uB (a7 R hp hσ) λvs nn d g1 g2 g3 g4 g5 g6=>?_
 refine hm1 L.str λa fd body C ns e1 D DC hm hns hb=>?_
 refine pI D.obj λo hob hfd hfc=>?_
 refine a4 L.ge λte ge=>?_
 have hr1:Room A.in1 (n+3):=hr.in1
 have hr2:Room A.in1.in1 (n+2):=hr1.in1
 refine yt ?_
 dsimp only[Builtin.Str.strOf]
 show wpAny _ _ (if isExactStr (.ref p.1)=true then pure (.ref p.1) else _) _ _ _
 refine(if_neg (show ¬ isExactStr (.ref p.1)=true from Bool.false_ne_true))▸?_
 refine wpAny_bind (m:=cRoomFor "str" [.ref p.1]) ?_
 refine wpAny_cRoomFor (by have:=hr2.units;lia) ?_
 refine wpAny_bind (m:=callSpecial? (.ref p.1) (Str.ofString "__str__")) ?_
 dsimp only[callSpecial?]
 refine wpAny_bind (br M.KX.acc R g1 rfl (.inl ⟨_,e1,rfl⟩) ?_)
 refine wpAny_holding (wpAny_bind ?_)
 unfold bindSpecial
 refine wpAny_bind (m:=typeOf (.ref a)) ?_
 dsimp only[typeOf]
 refine wpAny_bind (wpAny_load (R.keep a o D.la hob) (wpAny_pure ?_))
 rw[hfc]
 refine(if_pos (show (Value.type "function"==.type "function" || Value.type "function"==.type "method_descriptor" || Value.type "function"==.type "wrapper_descriptor")=true from rfl))▸?_
 refine wpAny_pure (wpAny_bind ?_)
 refine wpAny_mono (gY1 M.KX L.hit D DC ge L.l2 hm hns hb (hr2:Room A.in1.in1 ((n+1)+1)) hσ hn hl ρ s [.ref p.1] R (RVs.cons h1 RVs.nil) ht) (λv au ⟨aa,am,aA⟩=>?_) λ_ _ f=>f.elim
 obtain ⟨_,t,rfl⟩:=RV.str_iff aA
 refine wpAny_pure (wpAny_bind (wpAny_pure (wpAny_pure ⟨typeIs_str _ _ _,aa,am,aA⟩)))
theorem yN(M:MethsOk G m)(L:StrOk G m){n:Nat}(hr:Room A (n+4)):ff G A "str" e91:=by
 intro C env W η σ σ₁ σ₂ q pos args vs v hk hd hn hE hp
 refine Ev.callT hk hd L.gt hn hE (eF1 (P:=λvs=>On G A (λcvs=>call (.type "str") cvs) σ₁ vs v σ₂) hp λk h=>?_)
 refine qX h λl i e h=>aQ (Option.bind_eq_some_iff.mp h) λps h1 h2=>?_
 obtain ⟨rfl,rfl⟩:=Prod.mk.inj (siX (bg h2).2)
 exact dn1 M L hr (i3 h1▸e) (bg h2).1.1 (bg h2).1.2
end
noncomputable def jJ:Ex:=.tup (.cons (.cst (.int 3)) (.cons (.cst (.int 2)) (.cons (.cst (.int 1)) (.cons (.cst (.int 0)) .nil))))
noncomputable def bl1:Sx:=(.seq (.ite (.cmp .NotEq (.idx (.loc 0) (.loc 3)) (.loc 1)) (.seq (.aug 2 .Add (.bin .Pow (.cst (.int 2)) (.loc 3)))
 .skip) .skip)
 (.seq (.asg 1 (.bin .Mod (.neg (.bin .Add (.idx (.loc 0) (.loc 3)) (.loc 1))) (.cst (.int 3))))
 .skip))
noncomputable def dM1:Ex:=.bin .FloorDiv (.loc 0) (.bin .Pow (.cst (.int 2)) (.bin .Add (.loc 3) (.cst (.int 1))))
noncomputable def s7:Sx:=(.seq (.asg 2 (.call 2 (.cons (.bin .Add (.bin .Add (.cst (.str [50,53,55,32,34])) (.loc 2)) (.idx (.tup (.cons (.cst (.str [34])) (.cons (.cst (.str [])) (.cons (.cst (.str [34,32,122])) .nil)))) (.bin .Mod (.loc 3) (.cst (.int 3))))) .nil)))
 (.seq (.ite (.cmp .NotEq (.loc 2) (.bin .Mult (.bin .Add (.bin .Mult (.cst (.str [34])) dM1) (.loc 1)) (.cst (.int 2)))) (.seq (.ret (.tup (.cons (.loc 3) (.cons (.loc 2) .nil))))
 .skip) .skip)
 .skip))
noncomputable def xK2:Ex:=.bf .chr (.cons (.ite (.cmp .Eq (.idx (.loc 0) (.loc 3)) (.cst (.str [107]))) (.cst (.int 13262)) (.cst (.int 13261))) .nil)
noncomputable def xKm:Ex:=.bin .Add (.call 5 (.cons (.cst (.str [107])) (.cons (.bin .FloorDiv (.loc 4) (.cst (.int 2))) .nil))) (.call 5 (.cons (.ite (.cmp .Eq (.idx (.loc 0) (.loc 3)) (.cst (.str [107]))) (.cst (.str [109])) (.cst (.str [107]))) (.cons (.bin .FloorDiv (.loc 4) (.cst (.int 3))) .nil)))
noncomputable def bm1:Sx:=(.seq (.asg 4 (.bin .FloorDiv (.idx (.loc 1) (.bin .Mod (.loc 3) (.cst (.int 7)))) (.bin .Add (.loc 3) (.cst (.int 1)))))
 (.seq (.ite (.cmp .Eq (.bin .Mod (.loc 4) (.cst (.int 2))) (.cst (.int 0))) (.seq (.aug 2 .Add xK2)
 .skip) (.seq (.aug 2 .Add xKm)
 .skip))
 .skip))
noncomputable def u2:Ex:=.comp [⟨"k",9,true⟩,⟨"peg",5,false⟩,⟨"places",3,false⟩] (.loc 9) (.loc 9) jJ (.cmp .Eq (.idx (.loc 3) (.loc 9)) (.loc 5))
noncomputable def h31:Ex:=.me .join (.cst (.str [])) (.cons (.comp [⟨"k",10,true⟩,⟨"typed",2,false⟩] (.loc 10) (.bin .Add (.cst (.str [32])) (.idx (.loc 2) (.loc 10))) (.loc 6) .nil) .nil)
noncomputable def xNm:Ex:=.me .join (.cst (.str [])) (.cons (.comp [⟨"k",11,true⟩] (.loc 11) (.idx (.cst (.str [97,98,99,100])) (.loc 11)) (.loc 6) .nil) .nil)
noncomputable def iw1:Sx:=(.seq (.asg 6 u2)
 (.seq (.asg 7 h31)
 (.seq (.asg 8 (.idx (.loc 0) (.loc 5)))
 (.seq (.ite (.cmp .NotEq (.tup (.cons (.call 13 (.cons (.loc 8) .nil)) (.cons (.call 12 (.cons (.loc 8) .nil)) (.cons (.meth 18 (.loc 8) .nil) .nil)))) (.tup (.cons (.loc 7) (.cons (.bin .Add (.idx (.loc 1) (.loc 5)) (.bf .len (.cons (.loc 7) .nil))) (.cons (.bf .len (.cons (.loc 6) .nil)) .nil))))) (.seq (.ret (.lst .nil))
 .skip) .skip)
 (.seq (.expr (.append (.loc 4) (.rep (.call 6 (.cons (.call 13 (.cons (.loc 8) .nil)) .nil)) [32] [])))
 (.seq (.ite (.cmp .NotEq (.idx (.loc 4) (.loc 5)) xNm) (.seq (.ret (.lst .nil))
 .skip) .skip)
 .skip))))))
noncomputable def sNo(c:Ex):Sx:=.ite c (.seq (.ret (.cst (.bool false))) .skip) .skip
noncomputable def jO1(a b:Ex):Ex:=.bin .Mult (.cst (.str [34])) (.bin .FloorDiv a (.bin .Pow (.cst (.int 2)) (.bin .Add b (.cst (.int 1)))))
noncomputable def dJ1:Ex:=.comp [⟨"name",38,true⟩,⟨"disc",15,false⟩] (.loc 38) (.call 1 (.cons (.bin .Add (.cst (.str [46,46,46])) (.idx (.cst (.str [97,98,99,100])) (.loc 15))) (.cons (.loc 38) .nil))) (.loc 13) .nil
noncomputable def dL1:Ex:=.comp [⟨"one",39,true⟩] (.loc 39) (.tup (.cons (.cmp .Is (.loc 39) (.cst (.bool true))) (.cons (.cmp .Is (.loc 39) (.cst (.bool false))) .nil))) (.loc 18) .nil
noncomputable def af1:Ex:=.comp [⟨"peg",40,true⟩,⟨"here",17,false⟩] (.loc 40) (.tup (.cons (.cmp .Eq (.loc 40) (.loc 17)) (.cons (.cmp .NotEq (.loc 40) (.loc 17)) .nil))) (.range (.cons (.cst (.int 3)) .nil)) .nil
noncomputable def u0:Ex:=.ite (.cmp .Eq (.bin .Mod (.loc 14) (.cst (.int 3))) (.cst (.int 0))) (.lst (.cons (.meth 17 (.loc 19) .nil) .nil)) (.meth 16 (.loc 19) (.cons (.bin .Sub (.meth 18 (.loc 19) .nil) (.cst (.int 1))) .nil))
noncomputable def xTy:Ex:=.idx (.loc 10) (.loc 15)
noncomputable def xTo:Ex:=.bin .Mod (.bin .Add (.loc 17) (.ite (.cmp .Eq (.idx (.loc 7) (.bin .Sub (.loc 14) (.cst (.int 1)))) (.cst (.str [107]))) (.loc 5) (.bin .Sub (.cst (.int 3)) (.loc 5)))) (.cst (.int 3))
noncomputable def dK1(a b:Ex):Ex:=.meth 15 (.idx (.loc 11) a) (.cons (.cst (.str [32])) (.cons b .nil))
noncomputable def uY:Ex:=.comp [⟨"k",41,true⟩,⟨"first",4,false⟩,⟨"move",14,false⟩,⟨"way",5,false⟩] (.loc 41) (.call 9 (.cons (.loc 41) (.cons (.loc 14) (.cons (.loc 4) (.cons (.loc 5) .nil))))) (.range (.cons (.cst (.int 4)) .nil)) .nil
noncomputable def u1:Ex:=.call 11 (.cons (.loc 11) (.cons (.loc 9) (.cons (.loc 10) (.cons (.loc 12) .nil))))
noncomputable def jP1:Ex:=.bin .Add (.bin .Add (.cst (.str [46,46,46])) (.me .join (.cst (.str [46,46,46])) (.cons (.loc 22) .nil))) (.cst (.str [46,46,46]))
noncomputable def vO:Sx:=(.seq (sNo (.cmp .IsNot (.call 1 (.cons (.loc 24) (.cons (.loc 22) .nil))) (.cmp .Eq (.loc 22) (.cst (.str []))))) .skip)
noncomputable def rC:Ex:=.tup (.cons (.bin .Add (.bin .Add (.loc 22) (.cst (.str [46,46,46]))) (.loc 23)) (.cons (.bin .Add (.bin .Add (.bin .Add (.cst (.str [46,46,46])) (.loc 23)) (.cst (.str [46,46,46]))) (.loc 23)) .nil))
noncomputable def uX:Ex:=.and (.cmp .Eq (.loc 22) (.cst (.str []))) (.cmp .NotEq (.meth 17 (.idx (.loc 11) (.loc 21)) .nil) (.tup (.cons (.cst (.str [])) (.cons (.cst (.str [])) .nil))))
noncomputable def bk1:Sx:=(.seq (.asg 22 (.idx (.loc 13) (.loc 21)))
 (.seq (.asg 23 (.slc (.loc 22) (.neg (.cst (.int 1))) .nil .nil))
 (.seq (sNo (.cmp .IsNot (.call 1 (.cons jP1 (.cons (.cst (.str [100,99,98,97])) .nil))) (.cst (.bool true))))
 (.seq (.for_ (.loc 24) rC vO)
 (.seq (sNo uX)
 .skip)))))
noncomputable def ap1:Sx:=.for_ (.loc 21) (.range (.cons (.bf .len (.cons (.loc 13) .nil)) .nil)) bk1
noncomputable def yK:Sx:=(.seq (.asgT [15,16] (.call 8 (.cons (.loc 14) (.cons (.loc 6) .nil))))
 (.seq (sNo (.or (.cmp .Eq (.loc 13) (.lst .nil)) (.cmp .NotEq (.loc 16) (jO1 (.loc 14) (.loc 15)))))
 (.seq (.asg 17 (.idx (.loc 12) (.loc 15)))
 (.seq (.asg 18 dJ1)
 (.seq (sNo (.cmp .NotEq dL1 af1))
 (.seq (.asg 19 (.idx (.loc 11) (.loc 17)))
 (.seq (.asg 20 u0)
 (.seq (sNo (.cmp .NotEq (.loc 20) (.lst (.cons (.tup (.cons (.cst (.str [32])) (.cons xTy .nil))) .nil))))
 (.seq (.expr (dK1 xTo xTy))
 (.seq (.asg 12 uY)
 (.seq (.asg 13 u1)
 (.seq ap1
 .skip))))))))))))
noncomputable def rE:Ex:=.range (.cons (.bin .Add (.loc 3) (.cst (.int 1))) (.cons (.bf .min (.cons (.bin .Add (.loc 3) (.cst (.int 4))) (.cons (.cst (.int 16)) .nil))) .nil))
noncomputable def a11:Ex:=.comp [⟨"peg",43,true⟩,⟨"places",12,false⟩] (.loc 43) (.me .join (.cst (.str [])) (.cons (.comp [⟨"k",44,true⟩,⟨"peg",43,false⟩,⟨"places",12,false⟩] (.loc 44) (.idx (.cst (.str [97,98,99,100])) (.loc 44)) jJ (.cmp .Eq (.idx (.loc 12) (.loc 44)) (.loc 43))) .nil)) (.range (.cons (.cst (.int 3)) .nil)) .nil
noncomputable def hZ1:Ex:=.comp [⟨"k",42,true⟩,⟨"worth",2,false⟩] (.loc 42) (.bin .Mod (.bin .FloorDiv (.idx (.loc 2) (.bin .Add (.cst (.int 3)) (.loc 42))) (.cst (.int 648))) (.cst (.int 3))) (.range (.cons (.cst (.int 4)) .nil)) .nil
noncomputable def g81:Ex:=.and (.cmp .NotEq (.loc 23) (.cst (.str []))) (.call 1 (.cons (.bin .Add (.bin .Add (.cst (.str [46,46,46])) (.me .join (.cst (.str [46,46,46])) (.cons (.bin .Add (.idx (.loc 27) (.loc 29)) (.loc 23)) .nil))) (.cst (.str [46,46,46]))) (.cons (.cst (.str [100,99,98,97])) .nil)))
noncomputable def ag1:Ex:=.call 10 (.cons (.bin .Add (.bin .Add (.slc (.loc 12) .nil (.loc 15) .nil) (.lst (.cons (.loc 29) .nil))) (.slc (.loc 12) (.bin .Add (.loc 15) (.cst (.int 1))) .nil .nil)) (.cons (.loc 25) .nil))
noncomputable def sGo:Sx:=(.seq (.asg 15 (.me .index (.cst (.str [97,98,99,100])) (.cons (.loc 23) .nil)))
 (.seq (.asg 30 ag1)
 (.seq (sNo (.cmp .Gt (.bf .abs (.cons (.bin .Sub (.loc 30) (.loc 26)) .nil)) (.cst (.int 1))))
 (.seq (.ite (.cmp .Lt (.loc 30) (.loc 26)) (.seq (.expr (.append (.loc 28) (.loc 15)))
 .skip) .skip)
 .skip))))
noncomputable def ey1:Sx:=(.seq (.asg 23 (.slc (.idx (.loc 27) (.loc 17)) (.neg (.cst (.int 1))) .nil .nil))
 (.seq (.ite g81 sGo .skip)
 .skip))
noncomputable def yh:Ex:=.tup (.cons (.tup (.cons (.cst (.int 0)) (.cons (.cst (.int 1)) .nil))) (.cons (.tup (.cons (.cst (.int 0)) (.cons (.cst (.int 2)) .nil))) (.cons (.tup (.cons (.cst (.int 1)) (.cons (.cst (.int 0)) .nil))) (.cons (.tup (.cons (.cst (.int 1)) (.cons (.cst (.int 2)) .nil))) (.cons (.tup (.cons (.cst (.int 2)) (.cons (.cst (.int 0)) .nil))) (.cons (.tup (.cons (.cst (.int 2)) (.cons (.cst (.int 1)) .nil))) .nil))))))
noncomputable def j21:Sx:=(.seq (.asg 25 (.call 9 (.cons (.cst (.int 3)) (.cons (.cst (.int 15)) (.cons (.loc 4) (.cons (.loc 5) .nil))))))
 (.seq (.asg 12 hZ1)
 (.seq (.asg 26 (.call 10 (.cons (.loc 12) (.cons (.loc 25) .nil))))
 (.seq (.asg 27 a11)
 (.seq (.asg 28 (.new .nil))
 (.seq (.for_ (.tup (.cons (.loc 17) (.cons (.loc 29) .nil))) yh ey1)
 (.seq (.ite (.or (.cmp .Eq (.loc 13) (.lst .nil)) (.cmp .Eq (.loc 26) (.cst (.int 0)))) (.seq (.ret (.and (.cmp .NotEq (.loc 13) (.lst .nil)) (.cmp .Eq (.loc 28) (.lst .nil))))
 .skip) .skip)
 (.seq (.asgT [15,16] (.call 8 (.cons (.loc 26) (.cons (.loc 6) .nil))))
 (.seq (.ret (.and (.cmp .Eq (.loc 28) (.lst (.cons (.loc 15) .nil))) (.cmp .Eq (.loc 16) (jO1 (.loc 26) (.loc 15)))))
 .skip)))))))))
noncomputable def oY:Ex:=.tup (.cons (.cst (.int 6)) (.cons (.cst (.int 1000)) (.cons (.cst (.int 27)) (.cons (.cst (.int 1933)) (.cons (.cst (.int 6010)) (.cons (.cst (.int 1081)) (.cons (.cst (.int 13002)) .nil)))))))
noncomputable def uW:Ex:=.comp [⟨"k",31,true⟩,⟨"script",0,false⟩,⟨"starts",1,false⟩] (.loc 31) (.bin .Mod (.bin .Add (.idx (.loc 1) (.loc 31)) (.bf .sum (.cons (.slc (.loc 0) (.loc 31) .nil (.cst (.int 7))) .nil))) (.cst (.int 1000000))) (.range (.cons (.cst (.int 7)) .nil)) .nil
noncomputable def a21:Ex:=.bin .Mod (.idx (.loc 2) (.cst (.int 0))) (.cst (.int 15))
noncomputable def u3:Ex:=.bin .Mod (.idx (.loc 2) (.cst (.int 1))) (.cst (.int 3))
noncomputable def hY1:Ex:=.bin .Add (.cst (.int 1)) (.bin .Mod (.bin .FloorDiv (.idx (.loc 2) (.cst (.int 1))) (.cst (.int 3))) (.cst (.int 2)))
noncomputable def a01:Ex:=.bf .chr (.cons (.bin .Add (.cst (.int 256)) (.bin .Mod (.bin .FloorDiv (.idx (.loc 2) (.cst (.int 1))) (.cst (.int 6))) (.cst (.int 50000)))) .nil)
noncomputable def yJ:Sx:=(.seq (.asg 7 (.call 7 (.cons (.loc 7) (.cons (.loc 2) .nil)))) .skip)
noncomputable def u4:Ex:=.me .join (.cst (.str [])) (.cons (.comp [⟨"n",32,true⟩] (.loc 32) (.idx (.cst (.str [107,109])) (.bin .Mod (.bf .len (.cons (.comp [⟨"k",33,true⟩,⟨"n",32,false⟩] (.loc 33) (.loc 33) (.tup (.cons (.cst (.int 2)) (.cons (.cst (.int 4)) (.cons (.cst (.int 8)) (.cons (.cst (.int 16)) .nil))))) (.cmp .Eq (.bin .Mod (.loc 32) (.loc 33)) (.cst (.int 0)))) .nil)) (.cst (.int 2)))) (.range (.cons (.cst (.int 1)) (.cons (.cst (.int 17)) .nil))) .nil) .nil)
noncomputable def ae1:Ex:=.comp [⟨"peg",34,true⟩,⟨"worth",2,false⟩] (.loc 34) (.bin .Mod (.bin .FloorDiv (.idx (.loc 2) (.cst (.int 2))) (.bin .Pow (.cst (.int 4)) (.loc 34))) (.cst (.int 4))) (.range (.cons (.cst (.int 3)) .nil)) .nil
noncomputable def ad1:Ex:=.comp [⟨"k",35,true⟩,⟨"worth",2,false⟩] (.loc 35) (.call 5 (.cons (.idx (.cst (.str [97,98,99,100])) (.loc 35)) (.cons (.idx (.loc 2) (.bin .Add (.cst (.int 3)) (.loc 35))) .nil))) (.range (.cons (.cst (.int 4)) .nil)) .nil
noncomputable def uZ:Ex:=.comp [⟨"room",36,true⟩] (.loc 36) (.call 0 (.cons (.loc 36) .nil)) (.loc 9) .nil
noncomputable def rD:Ex:=.comp [⟨"k",37,true⟩,⟨"done",3,false⟩,⟨"first",4,false⟩,⟨"way",5,false⟩] (.loc 37) (.call 9 (.cons (.loc 37) (.cons (.loc 3) (.cons (.loc 4) (.cons (.loc 5) .nil))))) (.range (.cons (.cst (.int 4)) .nil)) .nil
noncomputable def ix1:Sx:=(.seq (.expr (dK1 (.idx (.loc 12) (.loc 8)) (.idx (.loc 10) (.loc 8)))) .skip)
noncomputable def ez1:Sx:=(.seq (.asg 12 rD)
 (.seq (.for_ (.loc 8) jJ ix1)
 (.seq (.asg 13 u1)
 (.seq (.for_ (.loc 14) rE yK)
 j21))))
noncomputable def eA1:Sx:=(.seq (.asg 9 ae1)
 (.seq (.asg 10 ad1)
 (.seq (.asg 11 uZ)
 ez1)))
noncomputable def gR:List Var:=[⟨"resp",0,true⟩,⟨"dirname",1,true⟩,⟨"i",2,true⟩,⟨"n",3,true⟩,⟨"c",4,true⟩]
noncomputable def dC:List Str:=["resp"]
noncomputable def dB:Sx:=(.seq (.ite (.cmp .NotEq (.slc (.loc 0) .nil (.cst (.int 3)) .nil) (.cst (.str [50,53,55]))) (.seq .dead
 .skip) .skip)
 (.seq (.ite (.cmp .NotEq (.slc (.loc 0) (.cst (.int 3)) (.cst (.int 5)) .nil) (.cst (.str [32,34]))) (.seq (.ret (.cst (.str [])))
 .skip) .skip)
 (.seq (.asg 1 (.cst (.str [])))
 (.seq (.asg 2 (.cst (.int 5)))
 (.seq (.asg 3 (.bf .len (.cons (.loc 0) .nil)))
 (.seq (.whil 1000 (.cmp .Lt (.loc 2) (.loc 3)) (.seq (.asg 4 (.idx (.loc 0) (.loc 2)))
 (.seq (.asg 2 (.bin .Add (.loc 2) (.cst (.int 1))))
 (.seq (.ite (.cmp .Eq (.loc 4) (.cst (.str [34]))) (.seq (.ite (.or (.cmp .GtE (.loc 2) (.loc 3)) (.cmp .NotEq (.idx (.loc 0) (.loc 2)) (.cst (.str [34])))) (.seq .brk
 .skip) .skip)
 (.seq (.asg 2 (.bin .Add (.loc 2) (.cst (.int 1))))
 .skip)) .skip)
 (.seq (.asg 1 (.bin .Add (.loc 1) (.loc 4)))
 .skip)))))
 (.seq (.ret (.loc 1))
 .skip)))))))
noncomputable def ur:En:=.code 1 4 dB
noncomputable def b6:List Var:=[⟨"want",0,true⟩,⟨"got",1,true⟩,⟨"ws",2,true⟩,⟨"startpos",3,true⟩,⟨"endpos",4,true⟩,⟨"w",5,true⟩]
noncomputable def be:List Str:=["want","got"]
noncomputable def aZ:Sx:=(.seq (.ite (.cmp .NotIn (.glo [46,46,46]) (.loc 0)) (.seq (.ret (.cmp .Eq (.loc 0) (.loc 1)))
 .skip) .skip)
 (.seq (.asg 2 (.split (.loc 0) (.glo [46,46,46])))
 (.seq (.asrt (.cmp .GtE (.bf .len (.cons (.loc 2) .nil)) (.cst (.int 2))))
 (.seq (.asg2 3 4 (.tup (.cons (.cst (.int 0)) (.cons (.bf .len (.cons (.loc 1) .nil)) .nil))))
 (.seq (.asg 5 (.idx (.loc 2) (.cst (.int 0))))
 (.seq (.ite (.loc 5) (.seq (.ite (.me .startswith (.loc 1) (.cons (.loc 5) .nil)) (.seq (.asg 3 (.bf .len (.cons (.loc 5) .nil)))
 (.seq (.del (.loc 2) (0))
 .skip)) (.seq (.ret (.cst (.bool false)))
 .skip))
 .skip) .skip)
 (.seq (.asg 5 (.idx (.loc 2) (.neg (.cst (.int 1)))))
 (.seq (.ite (.loc 5) (.seq (.ite (.me .endswith (.loc 1) (.cons (.loc 5) .nil)) (.seq (.aug 4 .Sub (.bf .len (.cons (.loc 5) .nil)))
 (.seq (.del (.loc 2) (-1))
 .skip)) (.seq (.ret (.cst (.bool false)))
 .skip))
 .skip) .skip)
 (.seq (.ite (.cmp .Gt (.loc 3) (.loc 4)) (.seq (.ret (.cst (.bool false)))
 .skip) .skip)
 (.seq (.for_ (.loc 5) (.loc 2) (.seq (.asg 3 (.me .find3 (.loc 1) (.cons (.loc 5) (.cons (.loc 3) (.cons (.loc 4) .nil)))))
 (.seq (.ite (.cmp .Lt (.loc 3) (.cst (.int 0))) (.seq (.ret (.cst (.bool false)))
 .skip) .skip)
 (.seq (.aug 3 .Add (.bf .len (.cons (.loc 5) .nil)))
 .skip))))
 (.seq (.ret (.cst (.bool true)))
 .skip)))))))))))
noncomputable def iu:En:=.code 2 4 aZ
noncomputable def fK:List Var:=[⟨"letter",0,true⟩,⟨"x",1,true⟩,⟨"forms",2,true⟩,⟨"unseen",3,true⟩,⟨"typed",4,true⟩,⟨"k",5,true⟩]
noncomputable def cz:List Str:=["letter","x"]
noncomputable def cy:Sx:=(.seq (.asg 2 (.tup (.cons (.cst (.int 97)) (.cons (.cst (.int 65)) (.cons (.cst (.int 119808)) (.cons (.cst (.int 119860)) (.cons (.cst (.int 119912)) (.cons (.cst (.int 120016)) (.cons (.cst (.int 120172)) (.cons (.cst (.int 120224)) (.cons (.cst (.int 120276)) (.cons (.cst (.int 120328)) (.cons (.cst (.int 120380)) (.cons (.cst (.int 120432)) .nil))))))))))))))
 (.seq (.asg 3 (.tup (.cons (.cst (.int 173)) (.cons (.cst (.int 847)) (.cons (.cst (.int 6150)) (.cons (.cst (.int 6155)) (.cons (.cst (.int 6156)) (.cons (.cst (.int 6157)) (.cons (.cst (.int 8203)) (.cons (.cst (.int 8204)) (.cons (.cst (.int 8205)) (.cons (.cst (.int 8288)) (.cons (.cst (.int 65279)) .nil)))))))))))))
 (.seq (.asg 4 (.bf .chr (.cons (.bin .Sub (.bin .Add (.idx (.loc 2) (.bin .Mod (.loc 1) (.cst (.int 12)))) (.bf .ord (.cons (.loc 0) .nil))) (.cst (.int 97))) .nil)))
 (.seq (.asg 5 (.bin .Mod (.bin .FloorDiv (.loc 1) (.cst (.int 12))) (.cst (.int 54))))
 (.seq (.ite (.cmp .Lt (.loc 5) (.cst (.int 27))) (.seq (.asg 4 (.bin .Add (.bf .chr (.cons (.ite (.cmp .Lt (.loc 5) (.cst (.int 11))) (.idx (.loc 3) (.loc 5)) (.bin .Add (.cst (.int 65013)) (.loc 5))) .nil)) (.loc 4)))
 .skip) .skip)
 (.seq (.ret (.loc 4))
 .skip))))))
noncomputable def rf:En:=.code 2 4 cy
noncomputable def cZ:List Var:=[⟨"text",0,true⟩]
noncomputable def bD:List Str:=["text"]
noncomputable def bV:Sx:=(.seq (.ret (.me .join (.cst (.str [])) (.cons (.comp [⟨"sign",1,true⟩] (.loc 1) (.call 4 (.cons (.loc 1) .nil)) (.loc 0) (.not (.call 3 (.cons (.loc 1) .nil)))) .nil)))
 .skip)
noncomputable def j7:En:=.code 1 1 bV
noncomputable def eR:List Var:=[⟨"text",0,true⟩,⟨"worth",1,true⟩,⟨"typed",2,true⟩,⟨"k",3,true⟩,⟨"x",4,true⟩]
noncomputable def bX:List Str:=["text","worth"]
noncomputable def cQ:Sx:=(.seq (.asg 2 (.cst (.str []))) (.seq (.for_ (.loc 3) (.range (.cons (.bf .len (.cons (.loc 0) .nil)) .nil)) bm1) (.seq (.ret (.call 6 (.cons (.loc 2) .nil))) .skip)))
noncomputable def oO:En:=.code 2 3 cQ
noncomputable def gS:List Var:=[⟨"count",0,true⟩,⟨"sign",1,true⟩,⟨"told",2,true⟩,⟨"times",3,true⟩]
noncomputable def dF:List Str:=["count","sign"]
noncomputable def fb:Sx:=(.seq (.asg 2 (.bin .Mult (.bin .Add (.bin .Mult (.cst (.str [34])) (.loc 0)) (.loc 1)) (.cst (.int 2)))) (.seq (.for_ (.loc 3) (.range (.cons (.cst (.int 5)) .nil)) s7) (.seq (.ret (.tup (.cons (.cst (.int 5)) (.cons (.loc 2) .nil)))) .skip)))
noncomputable def ut:En:=.code 2 2 fb
noncomputable def fL:List Var:=[⟨"disc",0,true⟩,⟨"moves",1,true⟩,⟨"first",2,true⟩,⟨"way",3,true⟩,⟨"step",4,true⟩]
noncomputable def cA:List Str:=["disc","moves","first","way"]
noncomputable def d6:Sx:=(.seq (.asg 4 (.ite (.cmp .Eq (.bin .Mod (.loc 0) (.cst (.int 2))) (.cst (.int 0))) (.loc 3) (.bin .Sub (.cst (.int 3)) (.loc 3))))
 (.seq (.ret (.bin .Mod (.bin .Add (.loc 2) (.bin .Mult (.loc 4) (.bin .FloorDiv (.bin .Add (.loc 1) (.bin .Pow (.cst (.int 2)) (.loc 0))) (.bin .Pow (.cst (.int 2)) (.bin .Add (.loc 0) (.cst (.int 1))))))) (.cst (.int 3))))
 .skip))
noncomputable def rg:En:=.code 4 1 d6
noncomputable def gT:List Var:=[⟨"places",0,true⟩,⟨"goal",1,true⟩,⟨"left",2,true⟩,⟨"disc",3,true⟩]
noncomputable def dG:List Str:=["places","goal"]
noncomputable def fe:Sx:=(.seq (.asg 2 (.cst (.int 0))) (.seq (.for_ (.loc 3) jJ bl1) (.seq (.ret (.loc 2)) .skip)))
noncomputable def uu:En:=.code 2 2 fe
noncomputable def fM:List Var:=[⟨"piles",0,true⟩,⟨"rooms",1,true⟩,⟨"typed",2,true⟩,⟨"places",3,true⟩,⟨"names",4,true⟩,⟨"peg",5,true⟩,⟨"lying",6,true⟩,⟨"due",7,true⟩,⟨"pile",8,true⟩]
noncomputable def cB:List Str:=["piles","rooms","typed","places"]
noncomputable def d7:Sx:=(.seq (.asg 4 (.new .nil)) (.seq (.for_ (.loc 5) (.range (.cons (.cst (.int 3)) .nil)) iw1) (.seq (.ret (.loc 4)) .skip)))
noncomputable def rh:En:=.code 4 8 d7
noncomputable def dm1:List Var:=[⟨"script",0,true⟩,⟨"starts",1,true⟩,⟨"worth",2,true⟩,⟨"done",3,true⟩,⟨"first",4,true⟩,⟨"way",5,true⟩,⟨"sign",6,true⟩,⟨"text",7,true⟩,⟨"k",8,true⟩,⟨"rooms",9,true⟩,⟨"typed",10,true⟩,⟨"piles",11,true⟩,⟨"places",12,true⟩,⟨"names",13,true⟩,⟨"move",14,true⟩,⟨"disc",15,true⟩,⟨"told",16,true⟩,⟨"here",17,true⟩,⟨"tops",18,true⟩,⟨"pile",19,true⟩,⟨"pieces",20,true⟩,⟨"peg",21,true⟩,⟨"name",22,true⟩,⟨"top",23,true⟩,⟨"want",24,true⟩,⟨"goal",25,true⟩,⟨"left",26,true⟩,⟨"rows",27,true⟩,⟨"nearer",28,true⟩,⟨"there",29,true⟩,⟨"ahead",30,true⟩]
noncomputable def xW:List Str:=["script"]
noncomputable def z9:Sx:=(.seq (.asg 1 oY) (.seq (.asg 2 uW) (.seq (.asg 3 a21) (.seq (.asg 4 u3) (.seq (.asg 5 hY1) (.seq (.asg 6 a01) (.seq (.asg 7 (.cst (.str [107]))) (.seq (.for_ (.loc 8) (.range (.cons (.cst (.int 4)) .nil)) yJ) (.seq (sNo (.cmp .NotEq (.loc 7) u4)) eA1)))))))))
noncomputable def TB1:Tab:=⟨λi=>[("_Accumulator":Str),"_ellipsis_match","parse257","in_table_b1","map_table_b3","_law_typed","_law_prepared","_law_folded","_law_read","_law_place","_law_left","_law_names","len","str","law"][i]?,
 λi=>if i=15 then some "push" else if i=16 then some "pop_from" else if i=17 then some "pop" else if i=18 then some "part_count" else none,
 λx=>if x="ELLIPSIS_MARKER" then some [46,46,46] else none⟩
theorem hZ:mss TB1 aZ ⟨b6,af (stN 7)⟩ (aw (stN 7))=true:=by rfl'
theorem im:b5 ⟨b6,af (stN 7)⟩ be=true:=by rfl'
theorem tz:mss TB1 dB ⟨gR,af (stN 4)⟩ (aw (stN 4))=true:=by rfl'
theorem t6:b5 ⟨gR,af (stN 4)⟩ dC=true:=by rfl'
theorem pQ:mss TB1 cy ⟨fK,af (stN 17)⟩ (aw (stN 17))=true:=by rfl'
theorem qw:b5 ⟨fK,af (stN 17)⟩ cz=true:=by rfl'
theorem jO:mss TB1 bV ⟨cZ,af (stN 18)⟩ (aw (stN 18))=true:=by rfl'
theorem j0:b5 ⟨cZ,af (stN 18)⟩ bD=true:=by rfl'
theorem nr:mss TB1 cQ ⟨eR,af (stN 19)⟩ (aw (stN 19))=true:=by rfl'
theorem n6:b5 ⟨eR,af (stN 19)⟩ bX=true:=by rfl'
theorem tB:mss TB1 fb ⟨gS,af (stN 20)⟩ (aw (stN 20))=true:=by rfl'
theorem t7:b5 ⟨gS,af (stN 20)⟩ dF=true:=by rfl'
theorem pR:mss TB1 d6 ⟨fL,af (stN 21)⟩ (aw (stN 21))=true:=by rfl'
theorem qx:b5 ⟨fL,af (stN 21)⟩ cA=true:=by rfl'
theorem tC:mss TB1 fe ⟨gT,af (stN 22)⟩ (aw (stN 22))=true:=by rfl'
theorem t8:b5 ⟨gT,af (stN 22)⟩ dG=true:=by rfl'
theorem pS:mss TB1 d7 ⟨fM,af (stN 23)⟩ (aw (stN 23))=true:=by rfl'
theorem qy:b5 ⟨fM,af (stN 23)⟩ cB=true:=by rfl'
theorem iN1:mss TB1 z9 ⟨dm1,af (stN 24)⟩ (aw (stN 24))=true:=by rfl'
theorem jt1:b5 ⟨dm1,af (stN 24)⟩ xW=true:=by rfl'
set_option maxHeartbeats 0
noncomputable def ai(P:Params)(a:Nat):FuncData:=match (Hh P).get? a with | some ⟨_,_,.func fd,_⟩=>fd | _=>default
noncomputable def a6(P:Params)(a:Nat):Array Value:=match (Hh P).get? a with | some ⟨_,_,.fields vs,_⟩=>vs | _=>#[]
noncomputable def r6{α:Type}:Sem α->Option Addr | .load a none _=>some a | _=>none
noncomputable def eb1{α:Type}:Sem α->Obj->Sem α | .load _ _ k,o=>k o | t,_=>t
theorem mw{s:Shared}{fd:FuncData}{args:Args}{binds:List (Str×Value)}{T:Addr}{o:Obj}(h1:r6 (bindArgs fd args)=some T)(ho:s.heap.get? T=some o)(h2:eb1 (bindArgs fd args) o=pure binds):BindsTo s fd args binds :=
 λM A E Q hq=>by
  have key:∀ t:Sem (List (Str×Value)),r6 t=some T->t=load T>>=eb1 t:=λt ht=>by
   cases t with
   | load a part k=>cases part with
    | none=>obtain rfl:=siX ht;rfl
    | some v=>exact nso ht
   | _=>exact nso ht
  rw[key _ h1]
  exact wpAny_bind (wpAny_load ho (h2▸wpAny_pure hq))
noncomputable def fj:Option Value->Tok | some (.str _ t)=>t | some (.int _ t)=>t | _=>0
noncomputable def mtS(i:Nat):Stmt:=((xK (stN 10))[i]?).getD (.Pass default)
noncomputable abbrev GG(w:World)(s:Shared):Wd:=⟨prg,w,s,140,[102,109]⟩
theorem nl{a:Addr}(h:(([102,109]:List Addr).contains a)=false):a ∉ ([102,109]:List Addr):=λq=>by rw[List.contains_iff_mem.mpr q] at h;exact ftr h.symm
noncomputable abbrev Kp(w:World)(s:Shared):Prop:=∀ b o,(Hh w.params).get? b=some o->s.heap.get? b=some o
theorem vH(P:Params):(Hh P).isNs cStatics=true:=by rfl'
theorem yz(P:Params):(Hh P).nsMap cStatics "sys.recursionlimit"=none:=by rfl'
theorem yy(P:Params):(Hh P).nsMap cStatics "thirdparty.any"=none:=by rfl'
theorem aF{w:World}{s:Shared}(hk:Kp w s):∃ mc,s.heap.Ns cStatics mc/\mc "sys.recursionlimit"=none:=⟨_,(Heap.Ns.of_isNs (vH w.params)).keeps hk,yz _⟩
theorem pe{w:World}{s:Shared}(hk:Kp w s):∃ mc,s.heap.Ns cStatics mc/\mc "thirdparty.any"=none:=⟨_,(Heap.Ns.of_isNs (vH w.params)).keeps hk,yy _⟩
noncomputable def eK:Str:="/claim/cut.py"
theorem fH:((prg.main.file:Str)==eK)=true:=by rfl'
noncomputable def c51(P:Params):Obj:=⟨.type "cell",none,.cell (some (.ref 140)),#[]⟩
theorem qJ(P:Params):(Hh P).get? 64=some (c51 P):=by rfl'
theorem cC1{w:World}{s:Shared}(hk:Kp w s){x:Str}{f:Value}(h:(Hh w.params).nsMap mainGlobals x=some f):Gl (GG w s) x f:=⟨⟨_,(Heap.Ns.of_isNs (c6 w.params)).keeps hk,.inl h⟩,nl rfl,nl rfl⟩
theorem aH1{w:World}{s:Shared}(hk:Kp w s){x:Str}{f:Value}(h:(Hh w.params).nsMap mainGlobals x=none)(h':(Hh w.params).nsMap builtinsNs x=some f):Gl (GG w s) x f:=⟨⟨_,(Heap.Ns.of_isNs (c6 w.params)).keeps hk,.inr ⟨h,_,(Heap.Ns.of_isNs (c7 w.params)).keeps hk,h'⟩⟩,nl rfl,nl rfl⟩
theorem ik(P:Params):(Hh P).get? 60=some ⟨.type "function",none,.func (ai P 60),#[]⟩:=by rfl'
theorem ie(P:Params):(ai P 60).code=.ref 59:=by rfl'
theorem gG(P:Params):(Hh P).get? 59=some ⟨.type "code",none,.fields (a6 P 59),#[]⟩:=by rfl'
theorem gH(P:Params):(a6 P 59)[1]?=some (.str (ai P 60).qualname (fj ((a6 P 59)[1]?))):=by rfl'
theorem hY(P:Params):(ai P 60).body=.stmts (aw (stN 7))/\(ai P 60).scope=af (stN 7)/\(ai P 60).globals=mainGlobals/\(ai P 60).builtins=builtinsNs/\(ai P 60).scope.isCoroutine=false/\(ai P 60).scope.isGenerator=false:=⟨by rfl',by rfl',by rfl',by rfl',by rfl',by rfl'⟩
theorem gN(P:Params)(a b:Value):bindArgs (ai P 60) ⟨[a,b],[]⟩=pure (be.zip [a,b]):=by rfl'
theorem iq(P:Params)(cvs:List Value)(h:cvs.length=be.length):bindArgs (ai P 60) ⟨cvs,[]⟩=pure (be.zip cvs):=by
 exact l2_ (P:=λl=>bindArgs _ ⟨l,[]⟩=pure (_root_.List.zip _ l)) (gN P) cvs h
theorem gL(P:Params):(ai P 60).closure=[]:=by rfl'
theorem iv{w:World}{s:Shared}(hk:Kp w s):Def (GG w s) 60 (ai w.params 60) (aw (stN 7)) ⟨b6,af (stN 7)⟩ be :=
 have q:=hY w.params
 ⟨⟨_,hk _ _ (ik _),rfl⟩,nl rfl,aF hk,nl rfl,⟨59,_,_,_,ie _,nl rfl,hk _ _ (gG _),rfl,gH _⟩,q.1,gL _,q.2.1,q.2.2.1,q.2.2.2.1,q.2.2.2.2.1,q.2.2.2.2.2,iq _,im⟩
theorem tY(P:Params):(Hh P).get? 53=some ⟨.type "function",none,.func (ai P 53),#[]⟩:=by rfl'
theorem tK(P:Params):(ai P 53).code=.ref 52:=by rfl'
theorem p8(P:Params):(Hh P).get? 52=some ⟨.type "code",none,.fields (a6 P 52),#[]⟩:=by rfl'
theorem qh(P:Params):(a6 P 52)[1]?=some (.str (ai P 53).qualname (fj ((a6 P 52)[1]?))):=by rfl'
theorem sX(P:Params):(ai P 53).body=.stmts (aw (stN 4))/\(ai P 53).scope=af (stN 4)/\(ai P 53).globals=mainGlobals/\(ai P 53).builtins=builtinsNs/\(ai P 53).scope.isCoroutine=false/\(ai P 53).scope.isGenerator=false:=⟨by rfl',by rfl',by rfl',by rfl',by rfl',by rfl'⟩
theorem qQ(P:Params)(a:Value):bindArgs (ai P 53) ⟨[a],[]⟩=pure (dC.zip [a]):=by rfl'
theorem uf(P:Params)(cvs:List Value)(h:cvs.length=dC.length):bindArgs (ai P 53) ⟨cvs,[]⟩=pure (dC.zip cvs):=by
 exact l1_ (P:=λl=>bindArgs _ ⟨l,[]⟩=pure (_root_.List.zip _ l)) (qQ P) cvs h
theorem qF(P:Params):(ai P 53).closure=[]:=by rfl'
theorem uw{w:World}{s:Shared}(hk:Kp w s):Def (GG w s) 53 (ai w.params 53) (aw (stN 4)) ⟨gR,af (stN 4)⟩ dC :=
 have q:=sX w.params
 ⟨⟨_,hk _ _ (tY _),rfl⟩,nl rfl,aF hk,nl rfl,⟨52,_,_,_,tK _,nl rfl,hk _ _ (p8 _),rfl,qh _⟩,q.1,qF _,q.2.1,q.2.2.1,q.2.2.2.1,q.2.2.2.2.1,q.2.2.2.2.2,uf _,t6⟩
noncomputable def d8:List Var:=[⟨"code",0,true⟩]
noncomputable def bN:List Str:=["code"]
theorem mf:b5 ⟨d8,af (stN 13)⟩ bN=true:=by rfl'
theorem l7(P:Params):(Hh P).get? 162=some ⟨.type "function",none,.func (ai P 162),#[]⟩:=by rfl'
theorem lS(P:Params):(ai P 162).code=.ref 161:=by rfl'
theorem jS(P:Params):(Hh P).get? 161=some ⟨.type "code",none,.fields (a6 P 161),#[]⟩:=by rfl'
theorem jV(P:Params):(a6 P 161)[1]?=some (.str (ai P 162).qualname (fj ((a6 P 161)[1]?))):=by rfl'
theorem lB(P:Params):(ai P 162).body=.stmts (aw (stN 13))/\(ai P 162).scope=af (stN 13)/\(ai P 162).globals=mainGlobals/\(ai P 162).builtins=builtinsNs/\(ai P 162).scope.isCoroutine=false/\(ai P 162).scope.isGenerator=false:=⟨by rfl',by rfl',by rfl',by rfl',by rfl',by rfl'⟩
theorem j6(P:Params)(a:Value):bindArgs (ai P 162) ⟨[a],[]⟩=pure (bN.zip [a]):=by rfl'
theorem my(P:Params)(cvs:List Value)(h:cvs.length=bN.length):bindArgs (ai P 162) ⟨cvs,[]⟩=pure (bN.zip cvs):=by
 exact l1_ (P:=λl=>bindArgs _ ⟨l,[]⟩=pure (_root_.List.zip _ l)) (j6 P) cvs h
theorem j1(P:Params):(ai P 162).closure=[]:=by rfl'
theorem mI{w:World}{s:Shared}(hk:Kp w s):Def (GG w s) 162 (ai w.params 162) (aw (stN 13)) ⟨d8,af (stN 13)⟩ bN :=
 have q:=lB w.params
 ⟨⟨_,hk _ _ (l7 _),rfl⟩,nl rfl,aF hk,nl rfl,⟨161,_,_,_,lS _,nl rfl,hk _ _ (jS _),rfl,jV _⟩,q.1,j1 _,q.2.1,q.2.2.1,q.2.2.2.1,q.2.2.2.2.1,q.2.2.2.2.2,my _,mf⟩
noncomputable def cY:List Var:=[⟨"code",0,true⟩,⟨"r",1,true⟩]
noncomputable def bC:List Str:=["code"]
theorem jZ:b5 ⟨cY,af (stN 15)⟩ bC=true:=by rfl'
theorem jX(P:Params):(Hh P).get? 208=some ⟨.type "function",none,.func (ai P 208),#[]⟩:=by rfl'
theorem jT(P:Params):(ai P 208).code=.ref 207:=by rfl'
theorem jb(P:Params):(Hh P).get? 207=some ⟨.type "code",none,.fields (a6 P 207),#[]⟩:=by rfl'
theorem jd(P:Params):(a6 P 207)[1]?=some (.str (ai P 208).qualname (fj ((a6 P 207)[1]?))):=by rfl'
theorem jM(P:Params):(ai P 208).body=.stmts (aw (stN 15))/\(ai P 208).scope=af (stN 15)/\(ai P 208).globals=mainGlobals/\(ai P 208).builtins=builtinsNs/\(ai P 208).scope.isCoroutine=false/\(ai P 208).scope.isGenerator=false:=⟨by rfl',by rfl',by rfl',by rfl',by rfl',by rfl'⟩
theorem jx(P:Params)(a:Value):bindArgs (ai P 208) ⟨[a],[]⟩=pure (bC.zip [a]):=by rfl'
theorem j4(P:Params)(cvs:List Value)(h:cvs.length=bC.length):bindArgs (ai P 208) ⟨cvs,[]⟩=pure (bC.zip cvs):=by
 exact l1_ (P:=λl=>bindArgs _ ⟨l,[]⟩=pure (_root_.List.zip _ l)) (jx P) cvs h
theorem jr(P:Params):(ai P 208).closure=[]:=by rfl'
theorem j8{w:World}{s:Shared}(hk:Kp w s):Def (GG w s) 208 (ai w.params 208) (aw (stN 15)) ⟨cY,af (stN 15)⟩ bC :=
 have q:=jM w.params
 ⟨⟨_,hk _ _ (jX _),rfl⟩,nl rfl,aF hk,nl rfl,⟨207,_,_,_,jT _,nl rfl,hk _ _ (jb _),rfl,jd _⟩,q.1,jr _,q.2.1,q.2.2.1,q.2.2.2.1,q.2.2.2.2.1,q.2.2.2.2.2,j4 _,jZ⟩
theorem qo(P:Params):(Hh P).get? 215=some ⟨.type "function",none,.func (ai P 215),#[]⟩:=by rfl'
theorem qc(P:Params):(ai P 215).code=.ref 214:=by rfl'
theorem nC(P:Params):(Hh P).get? 214=some ⟨.type "code",none,.fields (a6 P 214),#[]⟩:=by rfl'
theorem nI(P:Params):(a6 P 214)[1]?=some (.str (ai P 215).qualname (fj ((a6 P 214)[1]?))):=by rfl'
theorem pn(P:Params):(ai P 215).body=.stmts (aw (stN 17))/\(ai P 215).scope=af (stN 17)/\(ai P 215).globals=mainGlobals/\(ai P 215).builtins=builtinsNs/\(ai P 215).scope.isCoroutine=false/\(ai P 215).scope.isGenerator=false:=⟨by rfl',by rfl',by rfl',by rfl',by rfl',by rfl'⟩
theorem oA(P:Params)(a b:Value):bindArgs (ai P 215) ⟨[a,b],[]⟩=pure (cz.zip [a,b]):=by rfl'
theorem qM(P:Params)(cvs:List Value)(h:cvs.length=cz.length):bindArgs (ai P 215) ⟨cvs,[]⟩=pure (cz.zip cvs):=by
 exact l2_ (P:=λl=>bindArgs _ ⟨l,[]⟩=pure (_root_.List.zip _ l)) (oA P) cvs h
theorem og(P:Params):(ai P 215).closure=[]:=by rfl'
theorem ri{w:World}{s:Shared}(hk:Kp w s):Def (GG w s) 215 (ai w.params 215) (aw (stN 17)) ⟨fK,af (stN 17)⟩ cz :=
 have q:=pn w.params
 ⟨⟨_,hk _ _ (qo _),rfl⟩,nl rfl,aF hk,nl rfl,⟨214,_,_,_,qc _,nl rfl,hk _ _ (nC _),rfl,nI _⟩,q.1,og _,q.2.1,q.2.2.1,q.2.2.2.1,q.2.2.2.2.1,q.2.2.2.2.2,qM _,qw⟩
theorem jY(P:Params):(Hh P).get? 220=some ⟨.type "function",none,.func (ai P 220),#[]⟩:=by rfl'
theorem jU(P:Params):(ai P 220).code=.ref 219:=by rfl'
theorem jc(P:Params):(Hh P).get? 219=some ⟨.type "code",none,.fields (a6 P 219),#[]⟩:=by rfl'
theorem je(P:Params):(a6 P 219)[1]?=some (.str (ai P 220).qualname (fj ((a6 P 219)[1]?))):=by rfl'
theorem jN(P:Params):(ai P 220).body=.stmts (aw (stN 18))/\(ai P 220).scope=af (stN 18)/\(ai P 220).globals=mainGlobals/\(ai P 220).builtins=builtinsNs/\(ai P 220).scope.isCoroutine=false/\(ai P 220).scope.isGenerator=false:=⟨by rfl',by rfl',by rfl',by rfl',by rfl',by rfl'⟩
theorem jy(P:Params)(a:Value):bindArgs (ai P 220) ⟨[a],[]⟩=pure (bD.zip [a]):=by rfl'
theorem j5(P:Params)(cvs:List Value)(h:cvs.length=bD.length):bindArgs (ai P 220) ⟨cvs,[]⟩=pure (bD.zip cvs):=by
 exact l1_ (P:=λl=>bindArgs _ ⟨l,[]⟩=pure (_root_.List.zip _ l)) (jy P) cvs h
theorem js(P:Params):(ai P 220).closure=[]:=by rfl'
theorem j9{w:World}{s:Shared}(hk:Kp w s):Def (GG w s) 220 (ai w.params 220) (aw (stN 18)) ⟨cZ,af (stN 18)⟩ bD :=
 have q:=jN w.params
 ⟨⟨_,hk _ _ (jY _),rfl⟩,nl rfl,aF hk,nl rfl,⟨219,_,_,_,jU _,nl rfl,hk _ _ (jc _),rfl,je _⟩,q.1,js _,q.2.1,q.2.2.1,q.2.2.2.1,q.2.2.2.2.1,q.2.2.2.2.2,j5 _,j0⟩
theorem nT(P:Params):(Hh P).get? 227=some ⟨.type "function",none,.func (ai P 227),#[]⟩:=by rfl'
theorem nH(P:Params):(ai P 227).code=.ref 226:=by rfl'
theorem lR(P:Params):(Hh P).get? 226=some ⟨.type "code",none,.fields (a6 P 226),#[]⟩:=by rfl'
theorem lV(P:Params):(a6 P 226)[1]?=some (.str (ai P 227).qualname (fj ((a6 P 226)[1]?))):=by rfl'
theorem m5(P:Params):(ai P 227).body=.stmts (aw (stN 19))/\(ai P 227).scope=af (stN 19)/\(ai P 227).globals=mainGlobals/\(ai P 227).builtins=builtinsNs/\(ai P 227).scope.isCoroutine=false/\(ai P 227).scope.isGenerator=false:=⟨by rfl',by rfl',by rfl',by rfl',by rfl',by rfl'⟩
theorem mA(P:Params)(a b:Value):bindArgs (ai P 227) ⟨[a,b],[]⟩=pure (bX.zip [a,b]):=by rfl'
theorem oy(P:Params)(cvs:List Value)(h:cvs.length=bX.length):bindArgs (ai P 227) ⟨cvs,[]⟩=pure (bX.zip cvs):=by
 exact l2_ (P:=λl=>bindArgs _ ⟨l,[]⟩=pure (_root_.List.zip _ l)) (mA P) cvs h
theorem ml(P:Params):(ai P 227).closure=[]:=by rfl'
theorem oQ{w:World}{s:Shared}(hk:Kp w s):Def (GG w s) 227 (ai w.params 227) (aw (stN 19)) ⟨eR,af (stN 19)⟩ bX :=
 have q:=m5 w.params
 ⟨⟨_,hk _ _ (nT _),rfl⟩,nl rfl,aF hk,nl rfl,⟨226,_,_,_,nH _,nl rfl,hk _ _ (lR _),rfl,lV _⟩,q.1,ml _,q.2.1,q.2.2.1,q.2.2.2.1,q.2.2.2.2.1,q.2.2.2.2.2,oy _,n6⟩
theorem tZ(P:Params):(Hh P).get? 234=some ⟨.type "function",none,.func (ai P 234),#[]⟩:=by rfl'
theorem tL(P:Params):(ai P 234).code=.ref 233:=by rfl'
theorem qa(P:Params):(Hh P).get? 233=some ⟨.type "code",none,.fields (a6 P 233),#[]⟩:=by rfl'
theorem qi(P:Params):(a6 P 233)[1]?=some (.str (ai P 234).qualname (fj ((a6 P 233)[1]?))):=by rfl'
theorem sY(P:Params):(ai P 234).body=.stmts (aw (stN 20))/\(ai P 234).scope=af (stN 20)/\(ai P 234).globals=mainGlobals/\(ai P 234).builtins=builtinsNs/\(ai P 234).scope.isCoroutine=false/\(ai P 234).scope.isGenerator=false:=⟨by rfl',by rfl',by rfl',by rfl',by rfl',by rfl'⟩
theorem qR(P:Params)(a b:Value):bindArgs (ai P 234) ⟨[a,b],[]⟩=pure (dF.zip [a,b]):=by rfl'
theorem ug(P:Params)(cvs:List Value)(h:cvs.length=dF.length):bindArgs (ai P 234) ⟨cvs,[]⟩=pure (dF.zip cvs):=by
 exact l2_ (P:=λl=>bindArgs _ ⟨l,[]⟩=pure (_root_.List.zip _ l)) (qR P) cvs h
theorem qG(P:Params):(ai P 234).closure=[]:=by rfl'
theorem ux{w:World}{s:Shared}(hk:Kp w s):Def (GG w s) 234 (ai w.params 234) (aw (stN 20)) ⟨gS,af (stN 20)⟩ dF :=
 have q:=sY w.params
 ⟨⟨_,hk _ _ (tZ _),rfl⟩,nl rfl,aF hk,nl rfl,⟨233,_,_,_,tL _,nl rfl,hk _ _ (qa _),rfl,qi _⟩,q.1,qG _,q.2.1,q.2.2.1,q.2.2.2.1,q.2.2.2.2.1,q.2.2.2.2.2,ug _,t7⟩
theorem qp(P:Params):(Hh P).get? 241=some ⟨.type "function",none,.func (ai P 241),#[]⟩:=by rfl'
theorem qd(P:Params):(ai P 241).code=.ref 240:=by rfl'
theorem nD(P:Params):(Hh P).get? 240=some ⟨.type "code",none,.fields (a6 P 240),#[]⟩:=by rfl'
theorem nJ(P:Params):(a6 P 240)[1]?=some (.str (ai P 241).qualname (fj ((a6 P 240)[1]?))):=by rfl'
theorem po(P:Params):(ai P 241).body=.stmts (aw (stN 21))/\(ai P 241).scope=af (stN 21)/\(ai P 241).globals=mainGlobals/\(ai P 241).builtins=builtinsNs/\(ai P 241).scope.isCoroutine=false/\(ai P 241).scope.isGenerator=false:=⟨by rfl',by rfl',by rfl',by rfl',by rfl',by rfl'⟩
theorem oC(P:Params)(a b c d:Value):bindArgs (ai P 241) ⟨[a,b,c,d],[]⟩=pure (cA.zip [a,b,c,d]):=by rfl'
theorem qN(P:Params)(cvs:List Value)(h:cvs.length=cA.length):bindArgs (ai P 241) ⟨cvs,[]⟩=pure (cA.zip cvs):=by
 exact l4_ (P:=λl=>bindArgs _ ⟨l,[]⟩=pure (_root_.List.zip _ l)) (oC P) cvs h
theorem oh(P:Params):(ai P 241).closure=[]:=by rfl'
theorem rj{w:World}{s:Shared}(hk:Kp w s):Def (GG w s) 241 (ai w.params 241) (aw (stN 21)) ⟨fL,af (stN 21)⟩ cA :=
 have q:=po w.params
 ⟨⟨_,hk _ _ (qp _),rfl⟩,nl rfl,aF hk,nl rfl,⟨240,_,_,_,qd _,nl rfl,hk _ _ (nD _),rfl,nJ _⟩,q.1,oh _,q.2.1,q.2.2.1,q.2.2.2.1,q.2.2.2.2.1,q.2.2.2.2.2,qN _,qx⟩
theorem t0(P:Params):(Hh P).get? 248=some ⟨.type "function",none,.func (ai P 248),#[]⟩:=by rfl'
theorem tM(P:Params):(ai P 248).code=.ref 247:=by rfl'
theorem qb(P:Params):(Hh P).get? 247=some ⟨.type "code",none,.fields (a6 P 247),#[]⟩:=by rfl'
theorem qj(P:Params):(a6 P 247)[1]?=some (.str (ai P 248).qualname (fj ((a6 P 247)[1]?))):=by rfl'
theorem sZ(P:Params):(ai P 248).body=.stmts (aw (stN 22))/\(ai P 248).scope=af (stN 22)/\(ai P 248).globals=mainGlobals/\(ai P 248).builtins=builtinsNs/\(ai P 248).scope.isCoroutine=false/\(ai P 248).scope.isGenerator=false:=⟨by rfl',by rfl',by rfl',by rfl',by rfl',by rfl'⟩
theorem qS(P:Params)(a b:Value):bindArgs (ai P 248) ⟨[a,b],[]⟩=pure (dG.zip [a,b]):=by rfl'
theorem uh(P:Params)(cvs:List Value)(h:cvs.length=dG.length):bindArgs (ai P 248) ⟨cvs,[]⟩=pure (dG.zip cvs):=by
 exact l2_ (P:=λl=>bindArgs _ ⟨l,[]⟩=pure (_root_.List.zip _ l)) (qS P) cvs h
theorem qH(P:Params):(ai P 248).closure=[]:=by rfl'
theorem uy{w:World}{s:Shared}(hk:Kp w s):Def (GG w s) 248 (ai w.params 248) (aw (stN 22)) ⟨gT,af (stN 22)⟩ dG :=
 have q:=sZ w.params
 ⟨⟨_,hk _ _ (t0 _),rfl⟩,nl rfl,aF hk,nl rfl,⟨247,_,_,_,tM _,nl rfl,hk _ _ (qb _),rfl,qj _⟩,q.1,qH _,q.2.1,q.2.2.1,q.2.2.2.1,q.2.2.2.2.1,q.2.2.2.2.2,uh _,t8⟩
theorem qq(P:Params):(Hh P).get? 253=some ⟨.type "function",none,.func (ai P 253),#[]⟩:=by rfl'
theorem qe(P:Params):(ai P 253).code=.ref 252:=by rfl'
theorem nF(P:Params):(Hh P).get? 252=some ⟨.type "code",none,.fields (a6 P 252),#[]⟩:=by rfl'
theorem nK(P:Params):(a6 P 252)[1]?=some (.str (ai P 253).qualname (fj ((a6 P 252)[1]?))):=by rfl'
theorem pq(P:Params):(ai P 253).body=.stmts (aw (stN 23))/\(ai P 253).scope=af (stN 23)/\(ai P 253).globals=mainGlobals/\(ai P 253).builtins=builtinsNs/\(ai P 253).scope.isCoroutine=false/\(ai P 253).scope.isGenerator=false:=⟨by rfl',by rfl',by rfl',by rfl',by rfl',by rfl'⟩
theorem oE(P:Params)(a b c d:Value):bindArgs (ai P 253) ⟨[a,b,c,d],[]⟩=pure (cB.zip [a,b,c,d]):=by rfl'
theorem qO(P:Params)(cvs:List Value)(h:cvs.length=cB.length):bindArgs (ai P 253) ⟨cvs,[]⟩=pure (cB.zip cvs):=by
 exact l4_ (P:=λl=>bindArgs _ ⟨l,[]⟩=pure (_root_.List.zip _ l)) (oE P) cvs h
theorem oj(P:Params):(ai P 253).closure=[]:=by rfl'
theorem rk{w:World}{s:Shared}(hk:Kp w s):Def (GG w s) 253 (ai w.params 253) (aw (stN 23)) ⟨fM,af (stN 23)⟩ cB :=
 have q:=pq w.params
 ⟨⟨_,hk _ _ (qq _),rfl⟩,nl rfl,aF hk,nl rfl,⟨252,_,_,_,qe _,nl rfl,hk _ _ (nF _),rfl,nK _⟩,q.1,oj _,q.2.1,q.2.2.1,q.2.2.2.1,q.2.2.2.2.1,q.2.2.2.2.2,qO _,qy⟩
theorem jh1(P:Params):(Hh P).get? 258=some ⟨.type "function",none,.func (ai P 258),#[]⟩:=by rfl'
theorem iX1(P:Params):(ai P 258).code=.ref 257:=by rfl'
theorem fH1(P:Params):(Hh P).get? 257=some ⟨.type "code",none,.fields (a6 P 257),#[]⟩:=by rfl'
theorem fM1(P:Params):(a6 P 257)[1]?=some (.str (ai P 258).qualname (fj ((a6 P 257)[1]?))):=by rfl'
theorem is1(P:Params):(ai P 258).body=.stmts (aw (stN 24))/\(ai P 258).scope=af (stN 24)/\(ai P 258).globals=mainGlobals/\(ai P 258).builtins=builtinsNs/\(ai P 258).scope.isCoroutine=false/\(ai P 258).scope.isGenerator=false:=⟨by rfl',by rfl',by rfl',by rfl',by rfl',by rfl'⟩
theorem gJ1(P:Params)(a:Value):bindArgs (ai P 258) ⟨[a],[]⟩=pure (xW.zip [a]):=by rfl'
theorem jC1(P:Params)(cvs:List Value)(h:cvs.length=xW.length):bindArgs (ai P 258) ⟨cvs,[]⟩=pure (xW.zip cvs):=by
 exact l1_ (P:=λl=>bindArgs _ ⟨l,[]⟩=pure (_root_.List.zip _ l)) (gJ1 P) cvs h
theorem gx1(P:Params):(ai P 258).closure=[]:=by rfl'
theorem jM1{w:World}{s:Shared}(hk:Kp w s):Def (GG w s) 258 (ai w.params 258) (aw (stN 24)) ⟨dm1,af (stN 24)⟩ xW :=
 have q:=is1 w.params
 ⟨⟨_,hk _ _ (jh1 _),rfl⟩,nl rfl,aF hk,nl rfl,⟨257,_,_,_,iX1 _,nl rfl,hk _ _ (fH1 _),rfl,fM1 _⟩,q.1,gx1 _,q.2.1,q.2.2.1,q.2.2.2.1,q.2.2.2.2.1,q.2.2.2.2.2,jC1 _,jt1⟩
noncomputable def bmD(P:Params):Array (Option Value):=match (Hh P).get? 4 with | some o=>o.slots | _=>#[]
theorem c91(P:Params):(Hh P).nsMap mainGlobals "__builtins__"=some (.ref 4):=by rfl'
theorem gB1(P:Params):(Hh P).get? 4=some ⟨.type "module",some builtinsNs,.plain,bmD P⟩:=by rfl'
theorem gA1{w:World}{s:Shared}(hk:Kp w s):∃ mg bm ob,BMod (GG w s).s₀.heap mainGlobals mg bm ob/\bm ∉ (GG w s).loose/\mainGlobals ∉ (GG w s).loose :=
 ⟨_,4,_,⟨(Heap.Ns.of_isNs (c6 w.params)).keeps hk,c91 _,by decide,hk _ _ (gB1 _),rfl,rfl,rfl⟩,nl rfl,nl rfl⟩
noncomputable def kP:List Var:=[⟨"self",0,true⟩,⟨"initial_size",1,true⟩]
noncomputable def kR:List Str:=["self","initial_size"]
theorem gn1:b5 ⟨kP,af (mtS 0)⟩ kR=true:=by rfl'
theorem gc1(P:Params):(Hh P).get? 77=some ⟨.type "function",none,.func (ai P 77),#[]⟩:=by rfl'
theorem fJ1(P:Params):(ai P 77).code=.ref 76:=by rfl'
theorem co1(P:Params):(Hh P).get? 76=some ⟨.type "code",none,.fields (a6 P 76),#[]⟩:=by rfl'
theorem cw1(P:Params):(a6 P 76)[1]?=some (.str (ai P 77).qualname (fj ((a6 P 76)[1]?))):=by rfl'
theorem cs1(P:Params):(a6 P 76)[2]?=some (.str eK (fj ((a6 P 76)[2]?))):=by rfl'
theorem ew1(P:Params):(ai P 77).body=.stmts (aw (mtS 0))/\(ai P 77).scope=af (mtS 0)/\(ai P 77).globals=mainGlobals/\(ai P 77).builtins=builtinsNs/\(ai P 77).scope.isCoroutine=false/\(ai P 77).scope.isGenerator=false:=⟨by rfl',by rfl',by rfl',by rfl',by rfl',by rfl'⟩
noncomputable def eF(P:Params):Addr:=match (ai P 77).defaults with | .ref a=>a | _=>0
noncomputable def bS1(P:Params):Array Value:=match (Hh P).get? (eF P) with | some ⟨_,_,.seq xs _,_⟩=>xs | _=>#[]
noncomputable def bR1(P:Params):Nat:=match (Hh P).get? (eF P) with | some ⟨_,_,.seq _ n,_⟩=>n | _=>0
noncomputable def bE1(P:Params):Tok:=fj (bS1 P)[0]?
noncomputable def lH(P:Params):Obj:=⟨.type "tuple",none,.seq #[.int 0 (bE1 P)] (bR1 P),#[]⟩
theorem bJ1(P:Params):eF P ∉ ([102,109]:List Addr):=(show eF P=69 by rfl')▸nl rfl
theorem bL1(P:Params):(Hh P).get? (eF P)=some (lH P):=by rfl'
theorem fF1(P:Params)(args:List Value):r6 (bindArgs (ai P 77) ⟨args,[]⟩)=some (eF P):=by rfl'
theorem cm1(P:Params)(a b:Value):eb1 (bindArgs (ai P 77) ⟨[a,b],[]⟩) (lH P)=pure (kR.zip [a,b]):=by rfl'
theorem gG1{w:World}{s₀:Shared}(hk:Kp w s₀)(s:Shared)(cvs:List Value)(h:∀ b o,b ∉ (GG w s₀).loose->(GG w s₀).s₀.heap.get? b=some o->s.heap.get? b=some o)(hl:cvs.length=2):BindsTo s (ai w.params 77) ⟨cvs,[]⟩ (kR.zip cvs):=by
 have h1:=fF1 w.params
 have h2:=cm1 w.params
 have h3:s.heap.get? (eF w.params)=some (lH w.params):=h _ _ (bJ1 w.params) (hk _ _ (bL1 w.params))
 generalize ai w.params 77=fd at h1 h2 ⊢
 generalize eF w.params=T at h1 h3
 generalize lH w.params=o at h2 h3
 exact l2_ (P:=λcvs=>BindsTo s fd ⟨cvs,[]⟩ (kR.zip cvs)) (λa b=>mw (h1 [a,b]) h3 (h2 a b)) cvs hl
theorem cV1(P:Params):hB (ai P 77).scope=true/\hU (ai P 77).scope kR=true:=⟨by rfl',by rfl'⟩
theorem g71{w:World}{s:Shared}(hk:Kp w s):DefM (GG w s) 77 (ai w.params 77) (aw (mtS 0)) ⟨kP,af (mtS 0)⟩ kR :=
 have q:=ew1 w.params
 have z:=cV1 w.params
 ⟨⟨_,hk _ _ (gc1 _),rfl,rfl⟩,nl rfl,aF hk,nl rfl,⟨76,_,_,_,eK,_,fJ1 _,nl rfl,hk _ _ (co1 _),rfl,cw1 _,cs1 _,fH⟩,q.1,q.2.1,q.2.2.1,q.2.2.2.1,q.2.2.2.2.1,q.2.2.2.2.2,
  dO z.1,dZ z.2,gn1⟩
theorem c11(P:Params):(ai P 77).closure.lookup ("__class__":Str)=some 64:=by rfl'
theorem bN1(P:Params):(((ai P 77).params.posonlyargs++(ai P 77).params.args).head?.map (·.arg))=some ("self":Str):=by rfl'
theorem wW:(⟨kP,af (mtS 0)⟩:Cx).kind "super"=some .globalImplicit/\(⟨kP,af (mtS 0)⟩:Cx).kind "__class__"=some .free:=⟨by rfl',by rfl'⟩
theorem gU1{w:World}{s:Shared}(hk:Kp w s):SupD (GG w s) (ai w.params 77) ⟨kP,af (mtS 0)⟩ ⟨"self",0,true⟩ :=
 ⟨List.mem_cons_self,Option.map_eq_some_iff.mp (bN1 w.params),⟨64,c11 _,nl rfl,⟨_,hk _ _ (qJ _),rfl⟩⟩,wW.1,wW.2⟩
noncomputable def sJ:List Var:=[⟨"self",0,true⟩,⟨"fws",1,true⟩,⟨"string",2,true⟩]
noncomputable def jF:List Str:=["self","fws","string"]
theorem gl1:b5 ⟨sJ,af (mtS 1)⟩ jF=true:=by rfl'
theorem ga1(P:Params):(Hh P).get? 84=some ⟨.type "function",none,.func (ai P 84),#[]⟩:=by rfl'
theorem fI1(P:Params):(ai P 84).code=.ref 83:=by rfl'
theorem cn1(P:Params):(Hh P).get? 83=some ⟨.type "code",none,.fields (a6 P 83),#[]⟩:=by rfl'
theorem cu1(P:Params):(a6 P 83)[1]?=some (.str (ai P 84).qualname (fj ((a6 P 83)[1]?))):=by rfl'
theorem cq1(P:Params):(a6 P 83)[2]?=some (.str eK (fj ((a6 P 83)[2]?))):=by rfl'
theorem eu1(P:Params):(ai P 84).body=.stmts (aw (mtS 1))/\(ai P 84).scope=af (mtS 1)/\(ai P 84).globals=mainGlobals/\(ai P 84).builtins=builtinsNs/\(ai P 84).scope.isCoroutine=false/\(ai P 84).scope.isGenerator=false:=⟨by rfl',by rfl',by rfl',by rfl',by rfl',by rfl'⟩
theorem dc1(P:Params)(a b c:Value):bindArgs (ai P 84) ⟨[a,b,c],[]⟩=pure (jF.zip [a,b,c]):=by rfl'
theorem gD1(P:Params)(cvs:List Value)(h:cvs.length=jF.length):bindArgs (ai P 84) ⟨cvs,[]⟩=pure (jF.zip cvs):=by
 exact l3_ (P:=λl=>bindArgs _ ⟨l,[]⟩=pure (_root_.List.zip _ l)) (dc1 P) cvs h
theorem cT1(P:Params):hB (ai P 84).scope=true/\hU (ai P 84).scope jF=true:=⟨by rfl',by rfl'⟩
theorem g51{w:World}{s:Shared}(hk:Kp w s):DefM (GG w s) 84 (ai w.params 84) (aw (mtS 1)) ⟨sJ,af (mtS 1)⟩ jF :=
 have q:=eu1 w.params
 have z:=cT1 w.params
 ⟨⟨_,hk _ _ (ga1 _),rfl,rfl⟩,nl rfl,aF hk,nl rfl,⟨83,_,_,_,eK,_,fI1 _,nl rfl,hk _ _ (cn1 _),rfl,cu1 _,cq1 _,fH⟩,q.1,q.2.1,q.2.2.1,q.2.2.2.1,q.2.2.2.2.1,q.2.2.2.2.2,
  dO z.1,dZ z.2,gl1⟩
noncomputable def gQ:List Var:=[⟨"self",0,true⟩,⟨"i",1,true⟩,⟨"popped",2,true⟩]
noncomputable def bx:List Str:=["self","i"]
theorem t5:b5 ⟨gQ,af (mtS 2)⟩ bx=true:=by rfl'
theorem tX(P:Params):(Hh P).get? 92=some ⟨.type "function",none,.func (ai P 92),#[]⟩:=by rfl'
theorem tJ(P:Params):(ai P 92).code=.ref 91:=by rfl'
theorem p7(P:Params):(Hh P).get? 91=some ⟨.type "code",none,.fields (a6 P 91),#[]⟩:=by rfl'
theorem qg(P:Params):(a6 P 91)[1]?=some (.str (ai P 92).qualname (fj ((a6 P 91)[1]?))):=by rfl'
theorem qf(P:Params):(a6 P 91)[2]?=some (.str eK (fj ((a6 P 91)[2]?))):=by rfl'
theorem sW(P:Params):(ai P 92).body=.stmts (aw (mtS 2))/\(ai P 92).scope=af (mtS 2)/\(ai P 92).globals=mainGlobals/\(ai P 92).builtins=builtinsNs/\(ai P 92).scope.isCoroutine=false/\(ai P 92).scope.isGenerator=false:=⟨by rfl',by rfl',by rfl',by rfl',by rfl',by rfl'⟩
noncomputable def a5(P:Params):Addr:=match (ai P 92).defaults with | .ref a=>a | _=>0
noncomputable def pH(P:Params):Array Value:=match (Hh P).get? (a5 P) with | some ⟨_,_,.seq xs _,_⟩=>xs | _=>#[]
noncomputable def pG(P:Params):Nat:=match (Hh P).get? (a5 P) with | some ⟨_,_,.seq _ n,_⟩=>n | _=>0
noncomputable def iV(P:Params):Tok:=fj (pH P)[0]?
noncomputable def bG(P:Params):Obj:=⟨.type "tuple",none,.seq #[.int 0 (iV P)] (pG P),#[]⟩
theorem iZ(P:Params):a5 P ∉ ([102,109]:List Addr):=(show a5 P=85 by rfl')▸nl rfl
theorem i0(P:Params):(Hh P).get? (a5 P)=some (bG P):=by rfl'
theorem kB(P:Params)(args:List Value):r6 (bindArgs (ai P 92) ⟨args,[]⟩)=some (a5 P):=by rfl'
theorem pW(P:Params)(a b:Value):eb1 (bindArgs (ai P 92) ⟨[a,b],[]⟩) (bG P)=pure (bx.zip [a,b]):=by rfl'
theorem pX(P:Params):∃ t,∀ a:Value,eb1 (bindArgs (ai P 92) ⟨[a],[]⟩) (bG P)=pure (bx.zip ([a]++[.int 0 t])):=⟨iV P,λa=>by rfl'⟩
theorem ue{w:World}{s₀:Shared}(hk:Kp w s₀)(s:Shared)(cvs:List Value)(h:∀ b o,b ∉ (GG w s₀).loose->(GG w s₀).s₀.heap.get? b=some o->s.heap.get? b=some o)(hl:cvs.length=2):BindsTo s (ai w.params 92) ⟨cvs,[]⟩ (bx.zip cvs):=by
 have h1:=kB w.params
 have h2:=pW w.params
 have h3:s.heap.get? (a5 w.params)=some (bG w.params):=h _ _ (iZ w.params) (hk _ _ (i0 w.params))
 generalize ai w.params 92=fd at h1 h2 ⊢
 generalize a5 w.params=T at h1 h3
 generalize bG w.params=o at h2 h3
 exact l2_ (P:=λcvs=>BindsTo s fd ⟨cvs,[]⟩ (bx.zip cvs)) (λa b=>mw (h1 [a,b]) h3 (h2 a b)) cvs hl
theorem qP{w:World}{s₀:Shared}(hk:Kp w s₀):∃ t,∀ (s:Shared) (cvs:List Value),(∀ b o,b ∉ (GG w s₀).loose->(GG w s₀).s₀.heap.get? b=some o->s.heap.get? b=some o)->cvs.length=1->BindsTo s (ai w.params 92) ⟨cvs,[]⟩ (bx.zip (cvs++[.int 0 t])):=by
 refine a4 (pX w.params) λt h2'=>?_
 refine⟨t,λs cvs h hl=>?_⟩
 have h1:=kB w.params
 have h2:=h2'
 have h3:s.heap.get? (a5 w.params)=some (bG w.params):=h _ _ (iZ w.params) (hk _ _ (i0 w.params))
 generalize ai w.params 92=fd at h1 h2 ⊢
 generalize a5 w.params=T at h1 h3
 generalize bG w.params=o at h2 h3
 exact l1_ (P:=λcvs=>BindsTo s fd ⟨cvs,[]⟩ (bx.zip (cvs++[.int 0 t]))) (λa=>mw (h1 [a]) h3 (h2 a)) cvs hl
theorem qz(P:Params):hB (ai P 92).scope=true/\hU (ai P 92).scope bx=true:=⟨by rfl',by rfl'⟩
theorem uv{w:World}{s:Shared}(hk:Kp w s):DefM (GG w s) 92 (ai w.params 92) (aw (mtS 2)) ⟨gQ,af (mtS 2)⟩ bx :=
 have q:=sW w.params
 have z:=qz w.params
 ⟨⟨_,hk _ _ (tX _),rfl,rfl⟩,nl rfl,aF hk,nl rfl,⟨91,_,_,_,eK,_,tJ _,nl rfl,hk _ _ (p7 _),rfl,qg _,qf _,fH⟩,q.1,q.2.1,q.2.2.1,q.2.2.2.1,q.2.2.2.2.1,q.2.2.2.2.2,
  dO z.1,dZ z.2,t5⟩
noncomputable def ra:List Var:=[⟨"self",0,true⟩]
noncomputable def re:List Str:=["self"]
theorem jr1:b5 ⟨ra,af (mtS 3)⟩ re=true:=by rfl'
theorem jg1(P:Params):(Hh P).get? 100=some ⟨.type "function",none,.func (ai P 100),#[]⟩:=by rfl'
theorem iW1(P:Params):(ai P 100).code=.ref 99:=by rfl'
theorem fG1(P:Params):(Hh P).get? 99=some ⟨.type "code",none,.fields (a6 P 99),#[]⟩:=by rfl'
theorem fL1(P:Params):(a6 P 99)[1]?=some (.str (ai P 100).qualname (fj ((a6 P 99)[1]?))):=by rfl'
theorem fK1(P:Params):(a6 P 99)[2]?=some (.str eK (fj ((a6 P 99)[2]?))):=by rfl'
theorem iq1(P:Params):(ai P 100).body=.stmts (aw (mtS 3))/\(ai P 100).scope=af (mtS 3)/\(ai P 100).globals=mainGlobals/\(ai P 100).builtins=builtinsNs/\(ai P 100).scope.isCoroutine=false/\(ai P 100).scope.isGenerator=false:=⟨by rfl',by rfl',by rfl',by rfl',by rfl',by rfl'⟩
theorem gI1(P:Params)(a:Value):bindArgs (ai P 100) ⟨[a],[]⟩=pure (re.zip [a]):=by rfl'
theorem jB1(P:Params)(cvs:List Value)(h:cvs.length=re.length):bindArgs (ai P 100) ⟨cvs,[]⟩=pure (re.zip cvs):=by
 exact l1_ (P:=λl=>bindArgs _ ⟨l,[]⟩=pure (_root_.List.zip _ l)) (gI1 P) cvs h
theorem gq1(P:Params):hB (ai P 100).scope=true/\hU (ai P 100).scope re=true:=⟨by rfl',by rfl'⟩
theorem jL1{w:World}{s:Shared}(hk:Kp w s):DefM (GG w s) 100 (ai w.params 100) (aw (mtS 3)) ⟨ra,af (mtS 3)⟩ re :=
 have q:=iq1 w.params
 have z:=gq1 w.params
 ⟨⟨_,hk _ _ (jg1 _),rfl,rfl⟩,nl rfl,aF hk,nl rfl,⟨99,_,_,_,eK,_,iW1 _,nl rfl,hk _ _ (fG1 _),rfl,fL1 _,fK1 _,fH⟩,q.1,q.2.1,q.2.2.1,q.2.2.2.1,q.2.2.2.2.1,q.2.2.2.2.2,
  dO z.1,dZ z.2,jr1⟩
theorem gw1(P:Params):(ai P 100).closure.lookup ("__class__":Str)=some 64:=by rfl'
theorem e41(P:Params):(((ai P 100).params.posonlyargs++(ai P 100).params.args).head?.map (·.arg))=some ("self":Str):=by rfl'
theorem aB1:(⟨ra,af (mtS 3)⟩:Cx).kind "super"=some .globalImplicit/\(⟨ra,af (mtS 3)⟩:Cx).kind "__class__"=some .free:=⟨by rfl',by rfl'⟩
theorem jG1{w:World}{s:Shared}(hk:Kp w s):SupD (GG w s) (ai w.params 100) ⟨ra,af (mtS 3)⟩ ⟨"self",0,true⟩ :=
 ⟨List.mem_cons_self,Option.map_eq_some_iff.mp (e41 w.params),⟨64,gw1 _,nl rfl,⟨_,hk _ _ (qJ _),rfl⟩⟩,aB1.1,aB1.2⟩
noncomputable def bI:List Var:=[⟨"self",0,true⟩]
noncomputable def bt:List Str:=["self"]
theorem n0:b5 ⟨bI,af (mtS 8)⟩ bt=true:=by rfl'
theorem nS(P:Params):(Hh P).get? 137=some ⟨.type "function",none,.func (ai P 137),#[]⟩:=by rfl'
theorem nG(P:Params):(ai P 137).code=.ref 136:=by rfl'
theorem lQ(P:Params):(Hh P).get? 136=some ⟨.type "code",none,.fields (a6 P 136),#[]⟩:=by rfl'
theorem lU(P:Params):(a6 P 136)[1]?=some (.str (ai P 137).qualname (fj ((a6 P 136)[1]?))):=by rfl'
theorem lT(P:Params):(a6 P 136)[2]?=some (.str eK (fj ((a6 P 136)[2]?))):=by rfl'
theorem mZ(P:Params):(ai P 137).body=.stmts (aw (mtS 8))/\(ai P 137).scope=af (mtS 8)/\(ai P 137).globals=mainGlobals/\(ai P 137).builtins=builtinsNs/\(ai P 137).scope.isCoroutine=false/\(ai P 137).scope.isGenerator=false:=⟨by rfl',by rfl',by rfl',by rfl',by rfl',by rfl'⟩
theorem mz(P:Params)(a:Value):bindArgs (ai P 137) ⟨[a],[]⟩=pure (bt.zip [a]):=by rfl'
theorem ox(P:Params)(cvs:List Value)(h:cvs.length=bt.length):bindArgs (ai P 137) ⟨cvs,[]⟩=pure (bt.zip cvs):=by
 exact l1_ (P:=λl=>bindArgs _ ⟨l,[]⟩=pure (_root_.List.zip _ l)) (mz P) cvs h
theorem mh(P:Params):hB (ai P 137).scope=true/\hU (ai P 137).scope bt=true:=⟨by rfl',by rfl'⟩
theorem oP{w:World}{s:Shared}(hk:Kp w s):DefM (GG w s) 137 (ai w.params 137) (aw (mtS 8)) ⟨bI,af (mtS 8)⟩ bt :=
 have q:=mZ w.params
 have z:=mh w.params
 ⟨⟨_,hk _ _ (nS _),rfl,rfl⟩,nl rfl,aF hk,nl rfl,⟨136,_,_,_,eK,_,nG _,nl rfl,hk _ _ (lQ _),rfl,lU _,lT _,fH⟩,q.1,q.2.1,q.2.2.1,q.2.2.2.1,q.2.2.2.2.1,q.2.2.2.2.2,
  dO z.1,dZ z.2,n0⟩
theorem mj(P:Params):(ai P 137).closure.lookup ("__class__":Str)=some 64:=by rfl'
theorem lG(P:Params):(((ai P 137).params.posonlyargs++(ai P 137).params.args).head?.map (·.arg))=some ("self":Str):=by rfl'
theorem f7:(⟨bI,af (mtS 8)⟩:Cx).kind "super"=some .globalImplicit/\(⟨bI,af (mtS 8)⟩:Cx).kind "__class__"=some .free:=⟨by rfl',by rfl'⟩
theorem oN{w:World}{s:Shared}(hk:Kp w s):SupD (GG w s) (ai w.params 137) ⟨bI,af (mtS 8)⟩ ⟨"self",0,true⟩ :=
 ⟨List.mem_cons_self,Option.map_eq_some_iff.mp (lG w.params),⟨64,mj _,nl rfl,⟨_,hk _ _ (qJ _),rfl⟩⟩,f7.1,f7.2⟩
noncomputable def sK:List Var:=[⟨"self",0,true⟩]
noncomputable def jG:List Str:=["self"]
theorem gm1:b5 ⟨sK,af (mtS 4)⟩ jG=true:=by rfl'
theorem gb1(P:Params):(Hh P).get? 107=some ⟨.type "function",none,.func (ai P 107),#[]⟩:=by rfl'
theorem aE1(P:Params):(ai P 107).code=.ref 106:=by rfl'
theorem p9(P:Params):(Hh P).get? 106=some ⟨.type "code",none,.fields (a6 P 106),#[]⟩:=by rfl'
theorem cv1(P:Params):(a6 P 106)[1]?=some (.str (ai P 107).qualname (fj ((a6 P 106)[1]?))):=by rfl'
theorem cr1(P:Params):(a6 P 106)[2]?=some (.str eK (fj ((a6 P 106)[2]?))):=by rfl'
theorem ev1(P:Params):(ai P 107).body=.stmts (aw (mtS 4))/\(ai P 107).scope=af (mtS 4)/\(ai P 107).globals=mainGlobals/\(ai P 107).builtins=builtinsNs/\(ai P 107).scope.isCoroutine=false/\(ai P 107).scope.isGenerator=false:=⟨by rfl',by rfl',by rfl',by rfl',by rfl',by rfl'⟩
theorem dd1(P:Params)(a:Value):bindArgs (ai P 107) ⟨[a],[]⟩=pure (jG.zip [a]):=by rfl'
theorem gF1(P:Params)(cvs:List Value)(h:cvs.length=jG.length):bindArgs (ai P 107) ⟨cvs,[]⟩=pure (jG.zip cvs):=by
 exact l1_ (P:=λl=>bindArgs _ ⟨l,[]⟩=pure (_root_.List.zip _ l)) (dd1 P) cvs h
theorem cU1(P:Params):hB (ai P 107).scope=true/\hU (ai P 107).scope jG=true:=⟨by rfl',by rfl'⟩
theorem g61{w:World}{s:Shared}(hk:Kp w s):DefM (GG w s) 107 (ai w.params 107) (aw (mtS 4)) ⟨sK,af (mtS 4)⟩ jG :=
 have q:=ev1 w.params
 have z:=cU1 w.params
 ⟨⟨_,hk _ _ (gb1 _),rfl,rfl⟩,nl rfl,aF hk,nl rfl,⟨106,_,_,_,eK,_,aE1 _,nl rfl,hk _ _ (p9 _),rfl,cv1 _,cr1 _,fH⟩,q.1,q.2.1,q.2.2.1,q.2.2.2.1,q.2.2.2.2.1,q.2.2.2.2.2,
  dO z.1,dZ z.2,gm1⟩
theorem wV(P:Params):(a6 P 106)[11]?=some (.ref 102)/\(∃ f t,(a6 P 106).getD 18 .none=.str f t)/\(a6 P 106).getD 7 .none=.int 3 0/\(a6 P 106).getD 9 .none=.bool true/\(a6 P 106).getD 10 .none=.int 181 0:=⟨by rfl',⟨eK,fj ((a6 P 106)[18]?),by rfl'⟩,by rfl',by rfl',by rfl'⟩
theorem ds1{w:World}{s:Shared}(hk:Kp w s):GenC (GG w s) (ai w.params 107):=by
 have q:=wV w.params
 have k:=aE1 w.params
 have c:=hk _ _ (p9 w.params)
 generalize ai w.params 107=fd at k ⊢
 generalize a6 w.params 106=vs at q c
 exact cC q.2.1 λf t e=>⟨⟨106,102,_,vs,f,t,3,0,true,181,0,k,nl rfl,List.contains_iff_mem.mp rfl,c,rfl,rfl,q.1,e,q.2.2.1,q.2.2.2.1,q.2.2.2.2⟩,gA1 hk⟩
noncomputable def sI:List Var:=[⟨"self",0,true⟩]
noncomputable def jE:List Str:=["self"]
theorem gk1:b5 ⟨sI,af (mtS 5)⟩ jE=true:=by rfl'
theorem f91(P:Params):(Hh P).get? 114=some ⟨.type "function",none,.func (ai P 114),#[]⟩:=by rfl'
theorem aD1(P:Params):(ai P 114).code=.ref 113:=by rfl'
theorem pZ(P:Params):(Hh P).get? 113=some ⟨.type "code",none,.fields (a6 P 113),#[]⟩:=by rfl'
theorem ct1(P:Params):(a6 P 113)[1]?=some (.str (ai P 114).qualname (fj ((a6 P 113)[1]?))):=by rfl'
theorem cp1(P:Params):(a6 P 113)[2]?=some (.str eK (fj ((a6 P 113)[2]?))):=by rfl'
theorem es1(P:Params):(ai P 114).body=.stmts (aw (mtS 5))/\(ai P 114).scope=af (mtS 5)/\(ai P 114).globals=mainGlobals/\(ai P 114).builtins=builtinsNs/\(ai P 114).scope.isCoroutine=false/\(ai P 114).scope.isGenerator=false:=⟨by rfl',by rfl',by rfl',by rfl',by rfl',by rfl'⟩
theorem db1(P:Params)(a:Value):bindArgs (ai P 114) ⟨[a],[]⟩=pure (jE.zip [a]):=by rfl'
theorem gC1(P:Params)(cvs:List Value)(h:cvs.length=jE.length):bindArgs (ai P 114) ⟨cvs,[]⟩=pure (jE.zip cvs):=by
 exact l1_ (P:=λl=>bindArgs _ ⟨l,[]⟩=pure (_root_.List.zip _ l)) (db1 P) cvs h
theorem cS1(P:Params):hB (ai P 114).scope=true/\hU (ai P 114).scope jE=true:=⟨by rfl',by rfl'⟩
theorem g41{w:World}{s:Shared}(hk:Kp w s):DefM (GG w s) 114 (ai w.params 114) (aw (mtS 5)) ⟨sI,af (mtS 5)⟩ jE :=
 have q:=es1 w.params
 have z:=cS1 w.params
 ⟨⟨_,hk _ _ (f91 _),rfl,rfl⟩,nl rfl,aF hk,nl rfl,⟨113,_,_,_,eK,_,aD1 _,nl rfl,hk _ _ (pZ _),rfl,ct1 _,cp1 _,fH⟩,q.1,q.2.1,q.2.2.1,q.2.2.2.1,q.2.2.2.2.1,q.2.2.2.2.2,
  dO z.1,dZ z.2,gk1⟩
theorem wU(P:Params):(a6 P 113)[11]?=some (.ref 109)/\(∃ f t,(a6 P 113).getD 18 .none=.str f t)/\(a6 P 113).getD 7 .none=.int 3 0/\(a6 P 113).getD 9 .none=.bool true/\(a6 P 113).getD 10 .none=.int 181 0:=⟨by rfl',⟨eK,fj ((a6 P 113)[18]?),by rfl'⟩,by rfl',by rfl',by rfl'⟩
theorem dr1{w:World}{s:Shared}(hk:Kp w s):GenC (GG w s) (ai w.params 114):=by
 have q:=wU w.params
 have k:=aD1 w.params
 have c:=hk _ _ (pZ w.params)
 generalize ai w.params 114=fd at k ⊢
 generalize a6 w.params 113=vs at q c
 exact cC q.2.1 λf t e=>⟨⟨113,109,_,vs,f,t,3,0,true,181,0,k,nl rfl,List.contains_iff_mem.mp rfl,c,rfl,rfl,q.1,e,q.2.2.1,q.2.2.2.1,q.2.2.2.2⟩,gA1 hk⟩
noncomputable def gh(P:Params):ClassData:=match (Hh P).get? 140 with | some ⟨_,_,.cls c,_⟩=>c | _=>default
noncomputable def ua(P:Params):Array (Option Value):=match (Hh P).get? 140 with | some o=>o.slots | _=>#[]
noncomputable def xJ(P:Params):Option Addr:=match (Hh P).get? 140 with | some o=>o.dict | _=>none
theorem qD(P:Params):(Hh P).get? 140=some ⟨.type "type",xJ P,.cls (gh P),ua P⟩:=by rfl'
theorem gu1(P:Params):(Hh P).isNs (gh P).ns=true:=by rfl'
noncomputable def mm(P:Params):Str->Option Value:=(Hh P).nsMap (gh P).ns
theorem c01(P:Params):(gh P).mro=[.ref 140,.type "list",.type "object"]/\(gh P).hasDict=true/\(gh P).abstract=false/\(gh P).hasDel=false/\((ua P).toList[4]?).join=some (.builtin "list.__new__")/\(gh P).qualname=("_Accumulator":Str):=⟨by rfl',by rfl',by rfl',by rfl',by rfl',by rfl'⟩
theorem fE(P:Params):mm P "__setattr__"=none/\mm P "_initial_size"=none/\mm P "__getattribute__"=none/\mm P "__getattr__"=none/\mm P "append"=none/\mm P "__getitem__"=none/\mm P "__setitem__"=none:=⟨by rfl',by rfl',by rfl',by rfl',by rfl',by rfl',by rfl'⟩
theorem vy(P:Params):(Hh P).nsMap mainGlobals "super"=none/\(Hh P).nsMap builtinsNs "super"=some (.type "super"):=⟨by rfl',by rfl'⟩
theorem vx:(prg.main.scope.names.lookup ("super":Str)).isSome=false:=by rfl'
theorem gv1(P:Params):(gh P).ns ∉ ([102,109]:List Addr):=(show (gh P).ns=139 by rfl')▸nl rfl
theorem gP1{w:World}{s:Shared}(hk:Kp w s):Acc (GG w s) (mm w.params) :=
 ⟨⟨_,_,hk _ _ (qD _),rfl,(c01 _).1,gv1 _,(Heap.Ns.of_isNs (gu1 w.params)).keeps hk⟩,nl rfl⟩
theorem gN1{w:World}{s:Shared}(hk:Kp w s):∀ o cd,s.heap.get? 140=some o->o.data=.cls cd->cd.qualname=("_Accumulator":Str):=λo cd h1 h2=>by
 have h3:s.heap.get? 140=some ⟨.type "type",xJ w.params,.cls (gh w.params),ua w.params⟩:=hk _ _ (qD w.params)
 have q6:=(c01 w.params).2.2.2.2.2
 generalize xJ w.params=x1 at h3
 generalize ua w.params=x2 at h3
 generalize gh w.params=x3 at h3 q6
 rw[h3] at h1
 cases h1;cases h2
 exact q6
theorem gO1{w:World}{s:Shared}(hk:Kp w s):∃ cd od sl,s.heap.get? 140=some ⟨.type "type",od,.cls cd,sl⟩/\cd.mro=[.ref 140,.type "list",.type "object"]/\cd.hasDict=true/\cd.abstract=false/\cd.hasDel=false/\(sl.toList[4]?).join=some (.builtin "list.__new__"):=by
 have q:=c01 w.params
 have h3:s.heap.get? 140=some ⟨.type "type",xJ w.params,.cls (gh w.params),ua w.params⟩:=hk _ _ (qD w.params)
 generalize xJ w.params=x1 at h3
 generalize ua w.params=x2 at h3 q
 generalize gh w.params=x3 at h3 q
 exact⟨x3,x1,x2,h3,q.1,q.2.1,q.2.2.1,q.2.2.2.1,q.2.2.2.2.1⟩
theorem dk1{w:World}{s:Shared}(hk:Kp w s):AccX (GG w s) (mm w.params) :=
 ⟨gP1 hk,gO1 hk,(fE w.params).1,(fE w.params).2.1,gN1 hk⟩
theorem dW1{w:World}{s:Shared}(hk:Kp w s):Sup (GG w s):=⟨aH1 hk (vy w.params).1 (vy w.params).2,pe hk,nl rfl,vx⟩
theorem ca1(P:Params):mm P "__init__"=some (.ref 77):=by rfl'
theorem b81(P:Params):mm P "push"=some (.ref 84):=by rfl'
theorem pM(P:Params):mm P "pop_from"=some (.ref 92):=by rfl'
theorem fs1(P:Params):mm P "pop"=some (.ref 100):=by rfl'
theorem lL(P:Params):mm P "part_count"=some (.ref 137):=by rfl'
theorem e81:zB ⟨kP,af (mtS 0)⟩ (aw (mtS 0)):=Exists.intro (λi=>([⟨61,8,61,12⟩,⟨61,8,61,26⟩,⟨61,29,61,41⟩,⟨61,8,61,41⟩,⟨62,8,62,13⟩,⟨62,8,62,15⟩,⟨62,8,62,24⟩,⟨62,8,62,26⟩,⟨62,8,62,26⟩]:List Pos).getD i default) ⟨by rfl',by rfl'⟩
theorem e61:yV ⟨sJ,af (mtS 1)⟩ (aw (mtS 1)):=Exists.intro (λi=>([⟨65,8,65,12⟩,⟨65,8,65,19⟩,⟨65,21,65,24⟩,⟨65,26,65,32⟩,⟨65,20,65,33⟩,⟨65,8,65,34⟩,⟨65,8,65,34⟩]:List Pos).getD i default) ⟨by rfl',by rfl'⟩
theorem tc:eV ⟨gQ,af (mtS 2)⟩ (aw (mtS 2)):=Exists.intro (λi=>([⟨68,8,68,14⟩,⟨68,17,68,21⟩,⟨68,22,68,23⟩,⟨68,22,68,24⟩,⟨68,17,68,25⟩,⟨68,8,68,25⟩,⟨69,8,69,12⟩,⟨69,13,69,14⟩,⟨69,13,69,15⟩,⟨69,8,69,16⟩,⟨69,19,69,21⟩,⟨69,8,69,21⟩,⟨70,15,70,21⟩,⟨70,8,70,21⟩]:List Pos).getD i default) ⟨by rfl',by rfl'⟩
theorem iG1:hh1 ⟨ra,af (mtS 3)⟩ (aw (mtS 3)):=Exists.intro (λi=>([⟨73,11,73,15⟩,⟨73,11,73,26⟩,⟨73,11,73,28⟩,⟨73,32,73,33⟩,⟨73,11,73,33⟩,⟨74,20,74,22⟩,⟨74,24,74,26⟩,⟨74,19,74,27⟩,⟨74,12,74,27⟩,⟨73,8,74,27⟩,⟨75,15,75,20⟩,⟨75,15,75,22⟩,⟨75,15,75,26⟩,⟨75,15,75,28⟩,⟨75,8,75,28⟩]:List Pos).getD i default) ⟨by rfl',by rfl'⟩
theorem ni:iR "__len__" (aw (mtS 8)):=Exists.intro (λi=>([⟨90,15,90,20⟩,⟨90,15,90,22⟩,⟨90,15,90,30⟩,⟨90,15,90,32⟩,⟨90,8,90,32⟩]:List Pos).getD i default) ⟨by rfl',by rfl'⟩
theorem b31{w:World}{s₀:Shared}(hk:Kp w s₀):∃ a fd body C ns,mm w.params "push"=some (.ref a)/\DefM (GG w s₀) a fd body C ns/\yV C body/\ns.length=3/\∀ cvs:List Value,cvs.length=3->bindArgs fd ⟨cvs,[]⟩=pure (ns.zip cvs) :=
 ⟨84,ai w.params 84,aw (mtS 1),⟨sJ,af (mtS 1)⟩,jF,b81 w.params,g51 hk,e61,rfl,gD1 w.params⟩
theorem tv{w:World}{s₀:Shared}(hk:Kp w s₀):∃ a fd body C ns,mm w.params "pop_from"=some (.ref a)/\DefM (GG w s₀) a fd body C ns/\eV C body/\ns.length=2/\(∀ (s:Shared) (cvs:List Value),(∀ b o,b ∉ (GG w s₀).loose->(GG w s₀).s₀.heap.get? b=some o->s.heap.get? b=some o)->cvs.length=2->BindsTo s fd ⟨cvs,[]⟩ (ns.zip cvs)) /\
  ∃ t,∀ (s:Shared) (cvs:List Value),(∀ b o,b ∉ (GG w s₀).loose->(GG w s₀).s₀.heap.get? b=some o->s.heap.get? b=some o)->cvs.length=1->BindsTo s fd ⟨cvs,[]⟩ (ns.zip (cvs++[.int 0 t])) :=
 by
 have h1:=@ue w s₀ hk
 have h2:=@qP w s₀ hk
 have h3:=@uv w s₀ hk
 have h4:=pM w.params
 generalize ai w.params 92=fd at h1 h2 h3
 exact⟨_,fd,_,_,_,h4,h3,tc,rfl,h1,h2⟩
theorem b41{w:World}{s₀:Shared}(hk:Kp w s₀):∃ a fd body C ns x,mm w.params "part_count"=some (.ref a)/\DefM (GG w s₀) a fd body C ns/\SupD (GG w s₀) fd C x/\x.slot=0/\iR "__len__" body/\ns.length=1/\∀ cvs:List Value,cvs.length=1->bindArgs fd ⟨cvs,[]⟩=pure (ns.zip cvs) :=
 ⟨137,ai w.params 137,aw (mtS 8),⟨bI,af (mtS 8)⟩,bt,⟨"self",0,true⟩,lL w.params,oP hk,oN hk,rfl,ni,rfl,ox w.params⟩
theorem fr1{w:World}{s₀:Shared}(hk:Kp w s₀):∃ a fd body C ns x,mm w.params "pop"=some (.ref a)/\DefM (GG w s₀) a fd body C ns/\SupD (GG w s₀) fd C x/\x.slot=0/\hh1 C body/\ns.length=1/\∀ cvs:List Value,cvs.length=1->bindArgs fd ⟨cvs,[]⟩=pure (ns.zip cvs) :=
 ⟨100,ai w.params 100,aw (mtS 3),⟨ra,af (mtS 3)⟩,re,⟨"self",0,true⟩,fs1 w.params,jL1 hk,jG1 hk,rfl,iG1,rfl,jB1 w.params⟩
theorem b61{w:World}{s₀:Shared}(hk:Kp w s₀):∃ a fd body C ns x,mm w.params "__init__"=some (.ref a)/\DefM (GG w s₀) a fd body C ns/\SupD (GG w s₀) fd C x/\x.slot=0/\zB C body/\ns.length=2/\∀ (s:Shared) (cvs:List Value),(∀ b o,b ∉ (GG w s₀).loose->(GG w s₀).s₀.heap.get? b=some o->s.heap.get? b=some o)->cvs.length=2->BindsTo s fd ⟨cvs,[]⟩ (ns.zip cvs) :=
 by
 have h1:=@gG1 w s₀ hk
 have h3:=@g71 w s₀ hk
 have h4:=ca1 w.params
 have h5:=@gU1 w s₀ hk
 generalize ai w.params 77=fd at h1 h3 h5
 exact⟨_,fd,_,_,_,_,h4,h3,h5,rfl,e81,rfl,h1⟩
theorem dP{w:World}{s₀:Shared}(hk:Kp w s₀):MethsOk (GG w s₀) (mm w.params) :=
 ⟨dk1 hk,dW1 hk,(fE w.params).2.2.1,(fE w.params).2.2.2.1,(fE w.params).2.2.2.2.1,(fE w.params).2.2.2.2.2.1,(fE w.params).2.2.2.2.2.2,b31 hk,tv hk,b41 hk,fr1 hk,b61 hk⟩
theorem b91(P:Params):mm P "__len__"=some (.ref 107):=by rfl'
noncomputable def bj1:Scope:=⟨.function,[(".0",.local),("fws",.local),("part",.local),("len",.globalImplicit)],true,false,[]⟩
theorem e71:hx1 ⟨sK,af (mtS 4)⟩ (aw (mtS 4)):=Exists.intro (λi=>([⟨78,15,78,18⟩,⟨78,20,78,23⟩,⟨78,24,78,27⟩,⟨78,20,78,28⟩,⟨78,31,78,34⟩,⟨78,35,78,39⟩,⟨78,31,78,40⟩,⟨78,20,78,40⟩,⟨78,45,78,48⟩,⟨78,50,78,54⟩,⟨78,45,78,54⟩,⟨78,58,78,62⟩,⟨78,19,78,63⟩,⟨78,65,78,69⟩,⟨78,65,78,83⟩,⟨78,15,78,84⟩,⟨78,8,78,84⟩]:List Pos).getD i default) (Exists.intro bj1 ⟨by rfl',by rfl'⟩)
theorem b51{w:World}{s₀:Shared}(hk:Kp w s₀):∃ a fd body C ns,mm w.params "__len__"=some (.ref a)/\DefM (GG w s₀) a fd body C ns/\GenC (GG w s₀) fd/\hx1 C body/\ns.length=1/\∀ cvs:List Value,cvs.length=1->bindArgs fd ⟨cvs,[]⟩=pure (ns.zip cvs) :=
 ⟨107,ai w.params 107,aw (mtS 4),⟨sK,af (mtS 4)⟩,jG,b91 w.params,g61 hk,ds1 hk,e71,rfl,gF1 w.params⟩
theorem b71(P:Params):mm P "__str__"=some (.ref 114):=by rfl'
noncomputable def bi1:Scope:=⟨.function,[(".0",.local),("fws",.local),("part",.local),("EMPTYSTRING",.globalImplicit)],true,false,[]⟩
theorem e51:hb1 ⟨sI,af (mtS 5)⟩ (aw (mtS 5)):=Exists.intro (λi=>([⟨81,15,81,26⟩,⟨81,15,81,31⟩,⟨81,33,81,44⟩,⟨81,33,81,49⟩,⟨81,51,81,54⟩,⟨81,56,81,60⟩,⟨81,50,81,61⟩,⟨81,33,81,62⟩,⟨81,67,81,70⟩,⟨81,72,81,76⟩,⟨81,67,81,76⟩,⟨81,80,81,84⟩,⟨81,32,81,85⟩,⟨81,15,81,86⟩,⟨81,8,81,86⟩]:List Pos).getD i default) (Exists.intro bi1 ⟨by rfl',by rfl'⟩)
theorem b21{w:World}{s₀:Shared}(hk:Kp w s₀):∃ a fd body C ns,mm w.params "__str__"=some (.ref a)/\DefM (GG w s₀) a fd body C ns/\GenC (GG w s₀) fd/\hb1 C body/\ns.length=1/\∀ cvs:List Value,cvs.length=1->bindArgs fd ⟨cvs,[]⟩=pure (ns.zip cvs) :=
 ⟨114,ai w.params 114,aw (mtS 5),⟨sI,af (mtS 5)⟩,jE,b71 w.params,g41 hk,dr1 hk,e51,rfl,gC1 w.params⟩
theorem wD(P:Params):mm P "__iter__"=none:=by rfl'
noncomputable def ig:Value->Int | .int i _=>i | _=>0
noncomputable def kD:Value->Bool | .int _ _=>true | _=>false
noncomputable def strOf:Value->List Nat | .str x _=>x.cps.toList | _=>[]
noncomputable def w8:Value->Bool | .str _ _=>true | _=>false
theorem wN{prog:Program}{w:World}{h:Heap}{a:Addr}{n:Nat}{es:Array DictEntry}(hg:h.get? a=some ⟨.type "dict",none,.dict es n,#[]⟩)(hk:es.toList.all (λe=>match e.key with | .int i _=>e.hash==hashInt i | _=>false)=true) :
  h.MapOf (intKind prog w) a (findBy Value.isInt es) :=
 by
 refine mR1 _ es n hg ⟨rfl,rfl,rfl⟩ rfl (λe he=>?_) (λk=>rfl)
 have:=List.all_eq_true.mp hk e (Array.mem_toList_iff.mpr he)
 split at this
 ·rename_i i t hke
  exact⟨i,by rw[hke];show Value.isInt i (.int i t)=true;simp [Value.isInt],beq_iff_eq.mp this⟩
 ·exact ftr this
theorem iA{v:Value}(h:kD v=true)(k:Int):Value.isInt k v=decide (ig v=k):=by
 cases v with
 | int i t =>
  show _=decide (i=k)
  simp only[Value.isInt]
  by_cases q:i=k <;> simp [q]
 | _=>exact ftr h
theorem tW(es:Array DictEntry)(l:List (Int×List Nat))(hk:es.toList.all (λe=>kD e.key&&w8 e.val)=true)(hm:es.toList.map (λe=>(ig e.key,strOf e.val))=l)(k:Int) :
  match l.lookup k with | some x=>∃ t,findBy Value.isInt es k=some (.str ⟨x.toArray⟩ t) | none=>findBy Value.isInt es k=none:=by
 obtain ⟨es⟩:=es
 subst hm
 simp only[findBy,List.find?_toArray]
 replace hk:es.all (λe=>kD e.key&&w8 e.val)=true:=hk
 show match (es.map (λe=>(ig e.key,strOf e.val))).lookup k with | some x=>∃ t,(es.find? λe=>Value.isInt k e.key).map (·.val)=some (.str ⟨x.toArray⟩ t) | none=>(es.find? λe=>Value.isInt k e.key).map (·.val)=none
 induction es with
 | nil=>rfl
 | cons e es ih =>
  rw[List.all_cons,Bool.and_eq_true] at hk
  obtain ⟨h1,h2⟩:=hk
  rw[Bool.and_eq_true] at h1
  rw[List.map_cons,List.lookup_cons,List.find?_cons,iA h1.1]
  by_cases q:ig e.key=k
  ·have q':(k==ig e.key)=true:=by simp [q]
   rw[q']
   simp only[q,decide_true,Option.map_some]
   have:=h1.2
   cases hv:e.val <;> rw[hv] at this <;> first | (exact ftr this;done) | skip
   rename_i x t
   exact⟨t,rfl⟩
  ·have q':(k==ig e.key)=false:=by simp;exact λh=>q h.symm
   rw[q']
   simp only[q,decide_false]
   exact ih h2
theorem vK{prog:Program}{w:World}{h:Heap}{a:Addr}{n:Nat}{es:Array (Int×Value)}{t:SetTable}(l:List Int)(hg:h.get? a=some ⟨.type "set",none,.set es n t,#[]⟩)(hk:es.toList.all (λe=>kD e.2&&(e.1==hashInt (ig e.2))&&e.2.scannable)=true)(hm:es.toList.map (λe=>ig e.2)=l)
  (hs:es.size<scanBound) (hf:t.fits es.size=true):h.SetOf (intKind prog w) a (λi=>l.contains i) es.size:=by
 refine mN1 _ es n t hg ⟨rfl,rfl,rfl⟩ rfl (λe he=>?_) (λk=>?_) hs hf rfl
 ·have:=List.all_eq_true.mp hk e he
  simp only[Bool.and_eq_true,beq_iff_eq] at this
  obtain ⟨⟨h1,h2⟩,h3⟩:=this
  refine⟨⟨ig e.2,?_,h2⟩,h3⟩
  show Value.isInt _ _=true
  rw[iA h1];simp
 ·subst hm
  rw[List.contains_iff_mem,List.mem_map]
  constructor
  ·rintro ⟨e,he,rfl⟩
   refine⟨e,he,?_⟩
   have:=List.all_eq_true.mp hk e he
   simp only[Bool.and_eq_true] at this
   show Value.isInt _ _=true
   rw[iA this.1.1];simp
  ·rintro ⟨e,he,hi⟩
   have:=List.all_eq_true.mp hk e he
   simp only[Bool.and_eq_true] at this
   have hi':Value.isInt k e.2=true:=hi
   rw[iA this.1.1] at hi'
   exact⟨e,he,by simpa using hi'⟩
noncomputable def b3N:List (Nat×List Nat):=b3.map λx=>(x.1.toNat,x.2.cps.toList)
noncomputable def b1Z:List Int:=[65024,65025,65026,65027,65028,65029,6150,65030,65031,65032,65033,6155,6156,6157,8203,8204,8205,65034,65035,65036,65037,65038,65039,173,847,8288,65279]
noncomputable def sE(P:Params):Array (Int×Value):=match (Hh P).get? 152 with | some ⟨_,_,.set es _ _,_⟩=>es | _=>#[]
noncomputable def sT(P:Params):SetTable:=match (Hh P).get? 152 with | some ⟨_,_,.set _ _ t,_⟩=>t | _=>default
noncomputable def sN(P:Params):Nat:=match (Hh P).get? 152 with | some ⟨_,_,.set _ n _,_⟩=>n | _=>0
theorem it1(P:Params):(Hh P).get? 152=some ⟨.type "set",none,.set (sE P) (sN P) (sT P),#[]⟩:=by rfl'
theorem iv1(P:Params):(sE P).toList.all (λe=>kD e.2&&(e.1==hashInt (ig e.2))&&e.2.scannable)=true:=by rfl'
theorem et1(P:Params):(sE P).size=27:=by rfl'
theorem iu1(P:Params):(sT P).fits 27=true:=by rfl'
theorem ir1(P:Params):(sE P).toList.map (λe=>ig e.2)=b1Z:=by rfl'
noncomputable def dE(P:Params):Array DictEntry:=match (Hh P).get? 163 with | some ⟨_,_,.dict es _,_⟩=>es | _=>#[]
noncomputable def dNx(P:Params):Nat:=match (Hh P).get? 163 with | some ⟨_,_,.dict _ n,_⟩=>n | _=>0
theorem ju1(P:Params):(Hh P).get? 163=some ⟨.type "dict",none,.dict (dE P) (dNx P),#[]⟩:=by rfl'
theorem jv1(P:Params):(dE P).toList.all (λe=>match e.key with | .int i _=>e.hash==hashInt i | _=>false)=true:=by rfl'
theorem go1(P:Params):(dE P).toList.all (λe=>kD e.key&&w8 e.val)=true:=by rfl'
theorem js1(P:Params):(dE P).toList.map (λe=>(ig e.key,strOf e.val))=b3N.map (λx=>((x.1:Int),x.2)):=by rfl'
set_option maxHeartbeats 100000
noncomputable def gB3(c:Nat):Option (List Nat):=b3N.lookup c
noncomputable def sB1(i:Int):Bool:=b1Z.contains i
noncomputable def jW1:List (Option En):=[some (.prim fd1),some iu,some ur,some (.prim (pB1 sB1)),some (.prim (pB3 gB3)),some rf,some j7,some oO,some ut,some rg,some uu,some rh,some (.prim fb1),some (.prim e91),none,some (.prim td),some (.prim eW),some (.prim bP1),some (.prim tj)]
noncomputable def ak1:Nat->Option En:=λf=>jW1.getD f none
theorem i8(c:Nat):∀ l:List (Nat×List Nat),(l.map (λx=>((x.1:Int),x.2))).lookup (c:Int)=l.lookup c
 | []=>rfl
 | (k,v)::l=>by
  rw[List.map_cons,List.lookup_cons,List.lookup_cons,i8 c l]
  by_cases h:c=k
  ·subst h;simp
  ·have h1:((c:Int)==(k:Int))=false:=by simp;lia
   have h2:(c==k)=false:=by simp;exact h
   rw[h1,h2]
theorem xO:b3N.all (λx=>decide (x.2.length<=lim))=true:=by decide +kernel
theorem kA{c:Nat}{v:List Nat}:∀ {l:List (Nat×List Nat)},l.lookup c=some v->(c,v)∈l
 | [],h=>by exact nso h
 | (k,u)::l,h=>by
  rw[List.lookup_cons] at h
  by_cases q:c=k
  ·subst q;simp at h;subst h;exact List.mem_cons_self
  ·have:(c==k)=false:=by simp;exact q
   rw[this] at h
   exact List.mem_cons_of_mem _ (kA h)
theorem f21(P:Params)(c:Nat):match gB3 c with | some l=>l.length<=lim/\∃ t,findBy Value.isInt (dE P) c=some (.str ⟨l.toArray⟩ t) | none=>findBy Value.isInt (dE P) c=none:=by
 have h:=tW (dE P) _ (go1 P) (js1 P) c
 rw[i8 c b3N] at h
 unfold gB3
 cases q:b3N.lookup c with
 | none=>rw[q] at h;exact h
 | some l =>
  rw[q] at h
  exact⟨of_decide_eq_true (List.all_eq_true.mp xO _ (kA q)),h⟩
noncomputable def glN:List (Str×Value):=[("_Accumulator",.ref 140),("_ellipsis_match",.ref 60),("parse257",.ref 53),("in_table_b1",.ref 162),("map_table_b3",.ref 208),("_law_typed",.ref 215),("_law_prepared",.ref 220),("_law_folded",.ref 227),("_law_read",.ref 234),("_law_place",.ref 241),("_law_left",.ref 248),("_law_names",.ref 253),("b1_set",.ref 152),("b3_exceptions",.ref 163)]
theorem f11(P:Params):(glN.map λx=>(Hh P).nsMap mainGlobals x.1)=glN.map λx=>some x.2:=by rfl'
theorem pP(F:Str->Option Value)(g:Str×Value->Option Value):∀ (l:List (Str×Value)),l.map (λx=>F x.1)=l.map g->∀ x∈l,F x.1=g x:=λl h=>by
 rw[List.map_inj_left] at h
 exact h
theorem gb{w:World}{s:Shared}(hk:Kp w s)(i:Nat){x:Str}{f:Value}(h:glN[i]?=some (x,f)):Gl (GG w s) x f :=
 cC1 (w:=w) (s:=s) hk (pP ((Hh w.params).nsMap mainGlobals) (λx=>some x.2) glN (f11 w.params) (x,f) (List.mem_of_getElem? h))
noncomputable def glB:List (Str×Value):=[("len",.builtin "len"),("chr",.builtin "chr"),("ord",.builtin "ord"),("abs",.builtin "abs"),("sum",.builtin "sum"),("max",.builtin "max"),("min",.builtin "min"),("range",.type "range"),("list",.type "list"),("str",.type "str")]
theorem cE1(P:Params):(glB.map λx=>(Hh P).nsMap mainGlobals x.1)=glB.map λx=>none:=by rfl'
theorem zI(P:Params):(glB.map λx=>(Hh P).nsMap builtinsNs x.1)=glB.map λx=>some x.2:=by rfl'
theorem hK{w:World}{s:Shared}(hk:Kp w s)(i:Nat){x:Str}{f:Value}(h:glB[i]?=some (x,f)):Gl (GG w s) x f :=
 aH1 (w:=w) (s:=s) hk (pP ((Hh w.params).nsMap mainGlobals) (λx=>none) glB (cE1 w.params) (x,f) (List.mem_of_getElem? h)) (pP ((Hh w.params).nsMap builtinsNs) (λx=>some x.2) glB (zI w.params) (x,f) (List.mem_of_getElem? h))
noncomputable def m41(P:Params):Tok:=fj ((Hh P).nsMap mainGlobals "ELLIPSIS_MARKER")
theorem jn1(P:Params):∃ t,(Hh P).nsMap mainGlobals "ELLIPSIS_MARKER"=some (.str ⟨[46,46,46].toArray⟩ t):=⟨m41 P,by rfl'⟩
noncomputable def m31(P:Params):Tok:=fj ((Hh P).nsMap mainGlobals "EMPTYSTRING")
theorem jm1(P:Params):∃ t,(Hh P).nsMap mainGlobals "EMPTYSTRING"=some (.str (S' []) t):=⟨m31 P,by rfl'⟩
theorem la1:b1M ⟨d8,af (stN 13)⟩ (aw (stN 13)):=Exists.intro (λi=>([⟨94,11,94,14⟩,⟨94,15,94,19⟩,⟨94,11,94,20⟩,⟨94,24,94,30⟩,⟨94,11,94,30⟩,⟨94,4,94,30⟩]:List Pos).getD i default) ⟨by rfl',by rfl'⟩
theorem k91:b3M ⟨cY,af (stN 15)⟩ (aw (stN 15)):=Exists.intro (λi=>([⟨97,4,97,5⟩,⟨97,8,97,21⟩,⟨97,8,97,25⟩,⟨97,26,97,29⟩,⟨97,30,97,34⟩,⟨97,26,97,35⟩,⟨97,8,97,36⟩,⟨97,4,97,36⟩,⟨98,7,98,8⟩,⟨98,16,98,20⟩,⟨98,7,98,20⟩,⟨99,15,99,16⟩,⟨99,8,99,16⟩,⟨98,4,99,16⟩,⟨100,11,100,15⟩,⟨100,11,100,21⟩,⟨100,11,100,23⟩,⟨100,4,100,23⟩]:List Pos).getD i default) ⟨by rfl',by rfl'⟩
theorem dT1:((163:Addr)==sysModules)=false:=by rfl'
theorem kF{prog:Program}{w:World}(i:Int)(t:Tok):(intKind prog w).is i (.int i t)=true:=by show Value.isInt i (.int i t)=true;simp [Value.isInt]
theorem d91{w:World}{s:Shared}(hk:Kp w s):(GG w s).s₀.heap.SetOf (intKind prg w) 152 sB1 27:=by
 have h1:=it1 w.params
 have h2:=iv1 w.params
 have h3:=et1 w.params
 have h4:=iu1 w.params
 have h5:=ir1 w.params
 have h6:s.heap.get? 152=some ⟨.type "set",none,.set (sE w.params) (sN w.params) (sT w.params),#[]⟩:=hk _ _ h1
 generalize sE w.params=es at h2 h3 h5 h6
 generalize sT w.params=t at h4 h6
 generalize sN w.params=n at h6
 have:=vK (prog:=prg) (w:=w) b1Z h6 h2 h5 (by rw[h3];decide) (by rw[h3];exact h4)
 rw[h3] at this
 exact this
theorem xw{w:World}{s:Shared}(hk:Kp w s):(∀ s':Shared,(∀ o,(GG w s).s₀.heap.get? 163=some o->s'.heap.get? 163=some o)->s'.heap.MapOf (intKind prg w) 163 (findBy Value.isInt (dE w.params)))/\∃ o,(GG w s).s₀.heap.get? 163=some o/\o.cls=.type "dict"/\o.dict=none:=by
 have h1:=ju1 w.params
 have h2:=jv1 w.params
 have h6:s.heap.get? 163=some ⟨.type "dict",none,.dict (dE w.params) (dNx w.params),#[]⟩:=hk _ _ h1
 generalize dE w.params=es at h2 h6
 generalize dNx w.params=n at h6
 exact⟨λs' h=>wN (h _ h6) h2,_,h6,rfl,rfl⟩
set_option maxHeartbeats 200000
theorem cD1{w:World}{s:Shared}(hk:Kp w s){x:Str}{l:List Nat}(h:TB1.gs x=some l):l.length<=lim/\∃ t,Gl (GG w s) x (.str ⟨l.toArray⟩ t):=by
 unfold TB1 at h
 dsimp only at h
 split at h
 ·rename_i e
  subst e
  obtain rfl:=siX h
  obtain ⟨t,ht⟩:=jn1 w.params
  exact⟨show 3<=lim by decide,t,cC1 (w:=w) (s:=s) hk ht⟩
 ·exact nso h
theorem dV{w:World}{s:Shared}{x:Str}{a:Addr}{fd:FuncData}{b:List Stmt}{C:Cx}{ns:List Str}{np more:Nat}{body:Sx}(g:Gl (GG w s) x (.ref a))(D:Def (GG w s) a fd b C ns)(hn:ns.length=np)(hm:mss TB1 body C b=true):g31 (GG w s) TB1 x (.code np more body) :=
 ⟨a,fd,b,C,ns,g,D,hn,hm⟩
theorem jl1{w:World}{s:Shared}(hk:Kp w s):g31 (GG w s) TB1 "in_table_b1" (.prim (pB1 sB1)):=λn A hr =>
 bp1 (G:=GG w s) (gb (w:=w) (s:=s) hk 3 rfl) kF (@mI w s hk) la1 hr (hK (w:=w) (s:=s) hk 2 rfl) (gb (w:=w) (s:=s) hk 12 rfl) (d91 (w:=w) (s:=s) hk) (nl rfl)
theorem jk1{w:World}{s:Shared}(hk:Kp w s):g31 (GG w s) TB1 "map_table_b3" (.prim (pB3 gB3)):=λn A hr =>
 bo1 (G:=GG w s) (gb (w:=w) (s:=s) hk 4 rfl) rfl kF (@j8 w s hk) k91 hr (hK (w:=w) (s:=s) hk 2 rfl) (gb (w:=w) (s:=s) hk 13 rfl) dT1 (xw (w:=w) (s:=s) hk).2 (xw (w:=w) (s:=s) hk).1 (nl rfl) (f21 w.params)
noncomputable def AllP(P:Str->En->Prop):List Str->List (Option En)->Prop
 | [],_=>True
 | _,[]=>True
 | _::ns,none::es=>AllP P ns es
 | n::ns,some e::es=>P n e/\AllP P ns es
theorem AllP.at{P:Str->En->Prop}:∀ {ns:List Str} {es:List (Option En)},AllP P ns es->∀ f x,ns[f]?=some x->∀ e,es.getD f none=some e->P x e
 | [],_,_,_,_,h,_,_=>nso h
 | _::_,[],_,_,_,_,_,h=>nso h
 | _::_,none::_,_,0,_,_,_,h=>nso h
 | _::_,some _::_,h,0,_,h1,_,h2=>siX h1▸siX h2▸h.1
 | _::ns,none::es,h,f+1,x,h1,e,h2=>AllP.at (ns:=ns) (es:=es) h f x h1 e h2
 | _::ns,some _::es,h,f+1,x,h1,e,h2=>AllP.at (ns:=ns) (es:=es) h.2 f x h1 e h2
theorem sr{P:En->Prop}{a:En}(h:P a)(e:En)(he:some a=some e):P e:=siX he▸h
theorem iM1{P:Nat->Str->Prop}(h15:P 15 "push")(h16:P 16 "pop_from")(h17:P 17 "pop")(h18:P 18 "part_count")(f:Nat)(n:Str)(h:TB1.meth f=some n):P f n:=by
 have h':(if f=15 then some ("push":Str) else if f=16 then some "pop_from" else if f=17 then some "pop" else if f=18 then some "part_count" else none)=some n:=h
 by_cases q:f=15
 ·rw[if_pos q] at h';exact q▸siX h'▸h15
 rw[if_neg q] at h'
 by_cases q:f=16
 ·rw[if_pos q] at h';exact q▸siX h'▸h16
 rw[if_neg q] at h'
 by_cases q:f=17
 ·rw[if_pos q] at h';exact q▸siX h'▸h17
 rw[if_neg q] at h'
 by_cases q:f=18
 ·rw[if_pos q] at h';exact q▸siX h'▸h18
 rw[if_neg q] at h'
 exact nso h'
noncomputable def Bf.ix:Bf->Nat
 | .len=>0 | .chr=>1 | .ord=>2 | .abs=>3 | .sum=>4 | .max=>5 | .min=>6
theorem jA1(f:Bf):glB[f.ix]?=some (Str.ofString f.id,.builtin f.id):=by cases f <;> rfl
theorem fD1{w:World}{s:Shared}(hk:Kp w s):LenOk (GG w s) (mm w.params):=⟨wD _,hK (w:=w) (s:=s) hk 0 rfl,hK (w:=w) (s:=s) hk 4 rfl,b51 hk⟩
theorem dZ1{w:World}{s:Shared}(hk:Kp w s):StrOk (GG w s) (mm w.params):=⟨wD _,hK (w:=w) (s:=s) hk 9 rfl,a4 (jm1 w.params) λt e=>⟨t,cC1 (w:=w) (s:=s) hk e⟩,nl rfl,b21 hk⟩
theorem yp{w:World}{s:Shared}(hk:Kp w s):AllP (g31 (GG w s) TB1) ["_Accumulator","_ellipsis_match","parse257","in_table_b1","map_table_b3","_law_typed","_law_prepared","_law_folded","_law_read","_law_place","_law_left","_law_names","len","str","law"] jW1 :=
 ⟨λn A hr=>yQ (G:=GG w s) (@dP w s hk) (gb (w:=w) (s:=s) hk 0 rfl) hr,
  dV (gb (w:=w) (s:=s) hk 1 rfl) (@iv w s hk) rfl hZ,
  dV (gb (w:=w) (s:=s) hk 2 rfl) (@uw w s hk) rfl tz,
  jl1 hk,
  jk1 hk,
  dV (gb (w:=w) (s:=s) hk 5 rfl) (@ri w s hk) rfl pQ,
  dV (gb (w:=w) (s:=s) hk 6 rfl) (@j9 w s hk) rfl jO,
  dV (gb (w:=w) (s:=s) hk 7 rfl) (@oQ w s hk) rfl nr,
  dV (gb (w:=w) (s:=s) hk 8 rfl) (@ux w s hk) rfl tB,
  dV (gb (w:=w) (s:=s) hk 9 rfl) (@rj w s hk) rfl pR,
  dV (gb (w:=w) (s:=s) hk 10 rfl) (@uy w s hk) rfl tC,
  dV (gb (w:=w) (s:=s) hk 11 rfl) (@rk w s hk) rfl pS,
  λn A hr=>yP (G:=GG w s) (@dP w s hk) (@fD1 w s hk) hr,
  λn A hr=>yN (G:=GG w s) (@dP w s hk) (@dZ1 w s hk) hr,trivial⟩
theorem dS1{w:World}{s:Shared}(hk:Kp w s):TabOk (GG w s) TB1 ak1 :=
 ⟨λf=>hK (w:=w) (s:=s) hk f.ix (jA1 f),hK (w:=w) (s:=s) hk 7 rfl,hK (w:=w) (s:=s) hk 8 rfl,λx l h=>cD1 hk h,(yp hk).at,
  iM1 (P:=λf n=>∀ e,ak1 f=some e->kE1 (GG w s) n e) (sr λm A hr=>vP (G:=GG w s) (@dP w s hk) hr) (sr λm A hr=>m6 (G:=GG w s) (@dP w s hk) hr) (sr λm A hr=>yO (G:=GG w s) (@dP w s hk) hr) (sr λm A hr=>vQ (G:=GG w s) (@dP w s hk) hr)⟩
noncomputable def gX1:Prop:=∀ ns:List Int,ns.length<=63->∃ σ',mK (lev ak1 5) 1 44 z9 [.raw (ns.map .int)] []=some (.bool true,σ')
theorem zz{h:Heap}{ρ:Rho}:∀ {vs:List Value} {ns:List Int},Ints vs ns->RVs h ρ (ns.map .int) vs
 | _,_,h=>by induction h with | nil=>exact RVs.nil | cons hI ih=>exact RVs.cons ⟨_,rfl⟩ ih
theorem pw:Room callerA 10:=⟨rfl,by decide +kernel,by decide +kernel⟩
theorem gX(P:Params):(Hh P).get? 102=some ⟨.none,none,.fields #[],#[]⟩:=by rfl'
theorem gW(P:Params):(Hh P).get? 109=some ⟨.none,none,.fields #[],#[]⟩:=by rfl'
theorem k8{w:World}{s:Shared}(hk:Kp w s):isCodeTable s.heap 102:=by
 have q:=(wV w.params).1
 have c:=hk _ _ (p9 w.params)
 generalize a6 w.params 106=vs at q c
 exact⟨106,_,vs,c,rfl,rfl,q⟩
theorem k7{w:World}{s:Shared}(hk:Kp w s):isCodeTable s.heap 109:=by
 have q:=(wU w.params).1
 have c:=hk _ _ (pZ w.params)
 generalize a6 w.params 113=vs at q c
 exact⟨113,_,vs,c,rfl,rfl,q⟩
theorem r5{Pq:Addr->Prop}(h1:Pq 102)(h2:Pq 109){b:Addr}(hb:b∈([102,109]:List Addr)):Pq b:=by
 rcases List.mem_cons.mp hb with e | hb
 ·exact e▸h1
 ·exact List.mem_singleton.mp hb▸h2
theorem bT1{w:World}{s s':Shared}{ρ':Rho}{σ':List AO}(hk:Kp w s)(S:Step (GG w s) ⟨[],[]⟩ s ρ' s' σ'):OldK s.heap s'.heap:=by
 have key:∀ b o,s.heap.get? b=some o->asItWas s.heap s'.heap b o:=λb o e=>by
  by_cases hb:b∈(GG w s).loose
  ·refine aQ (S.rel.lse b hb) λvs e1 hg=>zc hg.2 λus more e2 e3=>?_
   have e4:o=⟨.none,none,.fields us,#[]⟩:=siX (e.symm.trans e2)
   subst e4
   exact .inr (.inl ⟨r5 (Pq:=λb=>isCodeTable s.heap b) (k8 hk) (k7 hk) hb,rfl,us,more,rfl,e3▸e1⟩)
  ·exact .inl (S.keep b o e (λp hp=>nomatch hp) (λh=>nomatch h) hb)
 refine⟨key,λb o e=>?_⟩
 rcases key b o e with h | ⟨_,_,vs,more,_,h⟩ | ⟨_,_,⟨o',es,n,h,_⟩,_⟩
 ·exact⟨_,h⟩
 ·exact⟨_,h⟩
 ·exact⟨_,h⟩
theorem h51(P:gX1):jE1 prg Hh 258:=by
 intro w au l o vs n ns hk hg ht ho hc hd hI hlen hlay hl
 refine a4 (P ns hlen) λσ' hrun=>?_
 have R:Rel (GG w au) [] ⟨[],[]⟩ au:=by
  exact { len:=rfl,inj:=(λi j p q h=>by simp at h),obj:=(λk p o h=>by simp at h),fresh:=(λp hp=>by cases hp),keep:=(λb o _ e=>e),lse:=(λb hb=>r5 (Pq:=λb=>∃ vs,au.heap.get? b=some ⟨.none,none,.fields vs,#[]⟩/\aa1 (GG w au) b vs) ⟨#[],hk _ _ (gX _),trivial,#[],#[],hk _ _ (gX _),rfl⟩ ⟨#[],hk _ _ (gW _),trivial,#[],#[],hk _ _ (gW _),rfl⟩ hb),same:=⟨au.heap,au.toks,au.gens,rfl⟩,bare:=AllBare.of_eq hg,hidden:=(λb hb=>by cases hb) }
 have hOn:=km (G:=GG w au) (A:=callerA) (n:=9) (@jM1 w au hk) rfl iN1 pw (λA' hA=>fB1 (@dS1 w au hk) 5 A' hA) hrun
 have r:RVs au.heap ⟨[],[]⟩ [.raw (ns.map .int)] [.ref l]:=by
  refine RVs.cons ?_ RVs.nil
  dsimp only[RV]
  refine⟨by rw[List.length_map];exact Nat.le_trans hlen (by decide),l,vs,rfl,⟨(λp hp=>by cases hp),(λhb=>by cases hb)⟩,⟨o,ho,hc,n,hd⟩,zz hI⟩
 refine wpAny_mono (hOn ⟨[],[]⟩ au [.ref l] R r ht) (λcv s' ⟨ρ',S,r'⟩=>⟨RV.bool_iff r',bT1 hk S,?_,S.rel.bare⟩) λ_ _ f=>f
 refine ei (S.rel.same) λh tk gs e=>?_
 rw[e]
set_option linter.unusedSimpArgs false
section
variable {F:Fn} {σ σ₁ σ₂ aq:List AO} {η η₁ η₂:ac} {a b e es c lo hi st:Ex} {x y z v w:V} {vs:List V} {i j f:Nat} {r:V×List AO} {S R:Sx}
theorem aE{S R:Sx}(h:exs F S σ η=some (.next,σ₁,η₁)):exs F (.seq S R) σ η=exs F R σ₁ η₁:=by
 rw[fS,h]
theorem uC{β:Type}{o:Option (V×List AO)}{k:V->List AO->Option β}(h:o=some (x,σ)):(match (generalizing:=false) o with | some (x,σ)=>k x σ | none=>none)=k x σ:=by rw[h]
theorem cb1{β:Type}{o:Option (List V×List AO)}{k:List V->List AO->Option β}(h:o=some (vs,σ)):(match (generalizing:=false) o with | some (x,σ)=>k x σ | none=>none)=k vs σ:=by rw[h]
theorem dx1{o:Option V}(h:o=some v):(o.map λv=>(v,σ))=some (v,σ):=by rw[h];rfl
theorem aj:evx F (.cst v) σ η=some (v,σ):=rfl
theorem fR:evx F .nil σ η=some (.none,σ):=rfl
theorem ah(h:η[i]?=some (some v)):evx F (.loc i) σ η=some (v,σ):=by rw[ry,h]
theorem fg:evs F .nil σ η=some ([],σ):=rfl
theorem az(h:evx F e σ η=some (v,σ₁))(h':evs F es σ₁ η=some (vs,σ₂)):evs F (.cons e es) σ η=some (v::vs,σ₂):=(uC h).trans (cb1 h')
theorem bc(h:evs F es σ η=some (vs,σ₁))(h':F f vs σ₁=some r):evx F (.call f es) σ η=some r:=(cb1 h).trans h'
theorem uI{op:CmpOp}{k:Bool}(h:evx F a σ η=some (x,σ₁))(h':evx F b σ₁ η=some (y,σ₂))(h2:hR op σ₂ x y=some k):evx F (.cmp op a b) σ η=some (.bool k,σ₂) :=
 (uC h).trans ((uC h').trans (congrArg (Option.map λk=>(V.bool k,σ₂)) h2))
theorem aD{op:Operator}(h:evx F a σ η=some (x,σ₁))(h':evx F b σ₁ η=some (y,σ₂))(h2:qL op x y=some v):evx F (.bin op a b) σ η=some (v,σ₂):=(uC h).trans ((uC h').trans (dx1 h2))
theorem bu(h:evx F a σ η=some (x,σ₁))(h':evx F b σ₁ η=some (y,σ₂))(h2:dH σ₂ x y=some v):evx F (.idx a b) σ η=some (v,σ₂):=(uC h).trans ((uC h').trans (dx1 h2))
theorem uH{l h s:V}(h0:evx F a σ η=some (x,σ))(h1:evx F lo σ η=some (l,σ))(h2:evx F hi σ η=some (h,σ))(h3:evx F st σ η=some (s,σ))(h4:pk σ x l h s=some v):evx F (.slc a lo hi st) σ η=some (v,σ) :=
 (uC h0).trans ((uC h1).trans ((uC h2).trans ((uC h3).trans (dx1 h4))))
theorem mJ{g:Bf}(h:evs F es σ η=some (vs,σ₁))(h2:bfF g σ₁ vs=some v):evx F (.bf g es) σ η=some (v,σ₁):=(cb1 h).trans (dx1 h2)
theorem xY{g:Me}(h1:evx F a σ η=some (x,σ₁))(ht:mU σ₁ x=some g.T)(h2:evs F es σ₁ η=some (vs,σ₂))(h3:meF g σ₂ x vs=some v):evx F (.me g a es) σ η=some (v,σ₂) :=
 (uC h1).trans ((if_pos ht).trans ((cb1 h2).trans (dx1 h3)))
theorem gu(h:evs F es σ η=some (vs,σ₁))(hl:vs.length<=lim):evx F (.tup es) σ η=some (.tup vs,σ₁):=(cb1 h).trans (if_pos hl)
theorem mQ(h:evs F es σ η=some (vs,σ₁))(hl:vs.length<=lim):evx F (.lst es) σ η=some (.lst vs,σ₁):=(cb1 h).trans (if_pos hl)
theorem oU(h:evx F e σ η=some (v,σ₁)):exs F (.asg i e) σ η=some (.next,σ₁,η.set i (some v)):=by
 rw[rs,h]
theorem dC1(h:evx F e σ η=some (v,σ₁)):exs F (.expr e) σ η=some (.next,σ₁,η):=by
 rw[kS,h]
theorem hR1(h:evx F e σ η=some (v,σ₁)):exs F (.ret e) σ η=some (.ret v,σ₁,η):=by
 rw[rq,h]
theorem a9:exs F .skip σ η=some (.next,σ,η):=rfl
theorem iF{k:Bool}(h:evx F c σ η=some (x,σ₁))(h':aW x=some k):evt F c σ η=some (k,σ₁):=by
 rw[xt,h]
 dsimp only
 rw[h'];rfl
theorem oT{S':Sx}{k:Bool}(h:evt F c σ η=some (k,σ₁)):exs F (.ite c S S') σ η=if k then exs F S σ₁ η else exs F S' σ₁ η:=by
 rw[rr,h]
 cases k <;> rfl
theorem jI(h:evx F c σ η=some (.bool false,σ₁)):exs F (.seq (.ite c S .skip) R) σ η=exs F R σ₁ η:=by
 have:exs F (.ite c S .skip) σ η=some (.next,σ₁,η):=by
  rw[oT (iF (k:=false) h rfl),if_neg Bool.false_ne_true]
  exact a9
 exact aE this
theorem aI(h:evx F e σ η=some (v,σ)):evs F (.cons e .nil) σ η=some ([v],σ):=az h fg
theorem du1{k:Bool}(h:evx F c σ η=some (.bool k,σ₁)):evx F (.ite c a b) σ η=if k then evx F a σ₁ η else evx F b σ₁ η:=by
 rw[rz,h]
 cases k <;> rfl
theorem bF(h:evx F e σ η=some (v,σ₁)):exs F (.seq (.asg i e) R) σ η=exs F R σ₁ (η.set i (some v)):=aE (oU h)
theorem fY(h:evx F e σ η=some (v,σ₁)):exs F (.seq (.ret e) R) σ η=some (.ret v,σ₁,η):=by
 rw[fS,hR1 h]
theorem iC1{S S':Sx}{k:Bool}(h:evx F c σ η=some (.bool k,σ₁))(h':(if k then exs F S σ₁ η else exs F S' σ₁ η)=some (.next,σ₂,η₂)):exs F (.seq (.ite c S S') R) σ η=exs F R σ₂ η₂ :=
 aE ((oT (iF h rfl)).trans h')
theorem hS1{l p q:List Nat}(h:evx F e σ η=some (.str l,σ₁))(h2:meF .replace σ₁ (.str l) [.str p,.str q]=some v):evx F (.rep e p q) σ η=some (v,σ₁):=by
 rw[dG1,h]
 exact dx1 h2
theorem hT1{k:Bool}(h:evx F a σ η=some (.bool k,σ₁)):evx F (.not a) σ η=some (.bool (!k),σ₁):=by
 rw[ru,h];rfl
theorem rn{k:Nat}{l l':List V}(h:evx F a σ η=some (.ref k,σ₁))(hk:σ₁[k]?=some ⟨l',none⟩)(h':evx F b σ₁ η=some (v,σ₂))(hk':σ₂[k]?=some ⟨l,none⟩)(hl:l.length<lim):evx F (.append a b) σ η=some (.none,σ₂.set k ⟨l++[v],none⟩):=by
 rw[fU,h]
 dsimp only
 rw[hk]
 dsimp only
 rw[h']
 dsimp only
 rw[hk']
 exact if_pos hl
theorem iE{k:Nat}{i:Int}{l:List V}(h:evx F a σ η=some (.ref k,σ₁))(hk:σ₁[k]?=some ⟨l,some i⟩)(h':evs F es σ₁ η=some (vs,σ₂))(h2:F f (.ref k::vs) σ₂=some r):evx F (.meth f a es) σ η=some r:=by
 rw[kX,h]
 dsimp only
 rw[hk]
 exact(cb1 h').trans h2
theorem rQ(h:evx F e σ η=some (v,σ₁)):exs F (.seq (.expr e) R) σ η=exs F R σ₁ η:=aE (dC1 h)
theorem yc{tg:Ex}{st:ItS}(h:evx F e σ η=some (v,σ₁))(hs:bh v=some st):exs F (.for_ tg e S) σ η=foN tg (λσ η=>exs F S σ η) (st.fuel σ₁) st σ₁ η:=by
 rw[ac1,h]
 dsimp only
 rw[hs]
theorem eP1(h:evx F c σ η=some (x,σ₁))(h':aW x=some false):exs F (.seq (.ite c S .skip) R) σ η=exs F R σ₁ η :=
 aE ((oT (iF h h')).trans rfl)
theorem eS1(h:evx F c σ η=some (.bool true,σ₁)):exs F (.seq (.asrt c) R) σ η=exs F R σ₁ η:=aE (by
 rw[kT,iF h rfl])
theorem eU1(h:evx F e σ η=some (.tup [x,y],σ₁)):exs F (.seq (.asg2 i j e) R) σ η=exs F R σ₁ ((η.set j (some y)).set i (some x)):=aE (by
 rw[kV,h])
theorem cr{np more:Nat}(hl:vs.length=np)(h:exs F S σ (aU vs more)=some (.ret v,σ₁,η₁)):mK F np more S vs σ=some (v,σ₁):=by
 have:mK F np more S vs σ=(match exs F S σ (aU vs more) with
  | some (.ret v,σ₁,_)=>some (v,σ₁)
  | some (.next,σ₁,_)=>some (V.none,σ₁)
  | _=>none):=if_pos hl
 rw[this,h]
theorem a0{op:CmpOp}{k:Bool}(h:evx F a σ η=some (x,σ))(h':evx F b σ η=some (y,σ))(h2:hR op σ x y=some k):evx F (.cmp op a b) σ η=some (.bool k,σ):=uI h h' h2
end
theorem ci{tab:Nat->Option En}{n f np more:Nat}{body:Sx}{vs:List V}{σ:List AO}(h:tab f=some (.code np more body)):lev tab (n+1) f vs σ=mK (lev tab n) np more body vs σ:=by
 dsimp only[lev];rw[h]
theorem cf{tab:Nat->Option En}{n f:Nat}{p:rb}{vs:List V}{σ:List AO}(h:tab f=some (.prim p)):lev tab (n+1) f vs σ=p vs σ:=by
 dsimp only[lev];rw[h]
theorem bE{i:Int}{n:Nat}(h0:0<=i)(h1:i<n):seqIndex? i n=some i.toNat:=by
 dsimp only[seqIndex?]
 simp only[if_neg (Int.not_lt.mpr h0)]
 simp [h0,h1]
theorem g7{i:Int}{n:Nat}(h0:i<0)(h1:0<=i+n):seqIndex? i n=some (i+n).toNat:=by
 dsimp only[seqIndex?]
 simp only[if_pos h0]
 have:i+(n:Int)<n:=by lia
 simp [h1,this]
section
variable {σ:List AO} {x y i:Int} {a b l:List Nat} {u v:List V}
theorem id1{b:Bool}:aW (.bool b)=some b:=rfl
theorem ic1{i:Int}:aW (.int i)=some (i != 0):=rfl
theorem ia1{l:List Nat}:aW (.str l)=some (!l.isEmpty):=rfl
theorem ib1:aW .none=some false:=rfl
theorem dY:qL .Add (.int x) (.int y)=some (.int (x+y)):=rfl
theorem mx:qL .Sub (.int x) (.int y)=some (.int (x - y)):=rfl
theorem cX(h:1<=y):qL .Mod (.int x) (.int y)=some (.int (x % y)):=if_pos h
theorem cP(h:1<=y)(h':y<1000000000):qL .FloorDiv (.int x) (.int y)=some (.int (x / y)):=if_pos ⟨h,h'⟩
theorem bO:qL .Add (.str a) (.str b)=if a.length+b.length<=lim then some (.str (a++b)) else none:=rfl
theorem oz:qL .Add (.lst u) (.lst v)=if u.length+v.length<=lim then some (.lst (u++v)) else none:=rfl
theorem kO:qL .Mult (.str a) (.int x)=if x<=1000000/\-1000000<=x/\a.length*x.toNat<=lim then some (.str (uA a x.toNat)) else none:=rfl
theorem o7:veq (.int x) (.int y)=decide (x=y):=by
 show (x==y)=_
 rw[Bool.eq_iff_iff];simp
theorem ip:hR .Eq σ (.int x) (.int y)=some (decide (x=y)):=by
 show some (veq (.int x) (.int y))=_
 rw[o7]
theorem xM:hR .NotEq σ (.int x) (.int y)=some (!decide (x=y)):=by
 show (hR .Eq σ (.int x) (.int y)).map (!·)=_
 rw[ip];rfl
theorem mv:hR .Lt σ (.int x) (.int y)=some (decide (x<y)):=rfl
theorem c71:hR .LtE σ (.int x) (.int y)=some (decide (x<=y)):=rfl
theorem qK:hR .Gt σ (.int x) (.int y)=some (decide (y<x)):=rfl
theorem zU:hR .GtE σ (.int x) (.int y)=some (decide (y<=x)):=rfl
theorem oo:hR .Eq σ (.str a) (.str b)=some (a==b):=rfl
theorem j3:hR .NotEq σ (.str a) (.str b)=some (!(a==b)):=rfl
theorem c81:hR .Gt σ (.str a) (.str b)=some (decide (b<a)):=rfl
theorem l6:bfF .len σ [.str l]=some (.int l.length):=rfl
theorem sk:bfF .len σ [.lst u]=some (.int u.length):=rfl
theorem xr:bfF .len σ [.tup u]=some (.int u.length):=rfl
theorem nU(h:0<=i)(h':i<=1114111):bfF .chr σ [.int i]=some (.str [i.toNat]):=if_pos ⟨h,h'⟩
theorem zM{c:Nat}:bfF .ord σ [.str [c]]=some (.int c):=rfl
theorem ma:der σ (.str l)=.str l:=rfl
theorem md:der σ (.int i)=.int i:=rfl
theorem l9:der σ (.tup u)=.tup u:=rfl
theorem mb:der σ (.lst u)=.lst u:=rfl
theorem aX1(h0:0<=i)(h1:i<=1000000000)(h2:i<u.length):dH σ (.tup u) (.int i)=u[i.toNat]?:=by
 show (if _ then _ else _)=_
 rw[if_pos ⟨by lia,h1⟩]
 show (match seqIndex? i u.length with | some k=>u[k]? | none=>none)=_
 rw[bE h0 h2]
theorem uU(h0:0<=i)(h1:i<=1000000000)(h2:i<u.length):dH σ (.lst u) (.int i)=u[i.toNat]?:=by
 show (if _ then _ else _)=_
 rw[if_pos ⟨by lia,h1⟩]
 show (match seqIndex? i u.length with | some k=>u[k]? | none=>none)=_
 rw[bE h0 h2]
theorem aY1(h0:0<=i)(h1:i<=1000000000)(h2:i<l.length):dH σ (.str l) (.int i)=(l[i.toNat]?).map λc=>.str [c]:=by
 show (if _ then _ else _)=_
 rw[if_pos ⟨by lia,h1⟩]
 show (match seqIndex? i l.length with | some k=>(l[k]?).map λc=>V.str [c] | none=>none)=_
 rw[bE h0 h2]
end
noncomputable def dk:List Int:=[97,65,119808,119860,119912,120016,120172,120224,120276,120328,120380,120432]
noncomputable def bJ:List Int:=[173,847,6150,6155,6156,6157,8203,8204,8205,8288,65279]
noncomputable def mX(c r:Nat):List Nat:=[((dk.getD r 0)+(c:Int) - 97).toNat]
noncomputable def yX(q:Int):List Nat:=if q<27 then [(if q<11 then bJ.getD q.toNat 0 else 65013+q).toNat] else []
noncomputable def bB(c:Nat)(x:Int):List Nat:=yX (x / 12 % 54)++mX c (x % 12).toNat
theorem xn{r:Int}(h0:0<=r)(h1:r<12):∃ c,(dk.map V.int)[r.toNat]?=some (.int c)/\dk.getD r.toNat 0=c/\65<=c/\c<=120432:=by
 obtain ⟨k,rfl⟩:=Int.eq_ofNat_of_zero_le h0
 have hk:k<12:=by exact Int.ofNat_le.mp ‹_›
 have:∀ k<12,(dk.map V.int)[k]?.isSome=true/\65<=dk.getD k 0/\dk.getD k 0<=120432:=by decide
 have h_p:=this k hk;have h2:=h_p.2.1;have h3:=h_p.2.2
 refine⟨dk.getD k 0,?_,rfl,h2,h3⟩
 rw[Int.toNat_natCast,List.getElem?_map,List.getD_eq_getElem?_getD]
 have:k<dk.length:=hk
 rw[List.getElem?_eq_getElem this];rfl
theorem sM{r:Int}(h0:0<=r)(h1:r<11):∃ c,(bJ.map V.int)[r.toNat]?=some (.int c)/\bJ.getD r.toNat 0=c/\0<=c/\c<=120432:=by
 obtain ⟨k,rfl⟩:=Int.eq_ofNat_of_zero_le h0
 have hk:k<11:=by exact Int.ofNat_le.mp ‹_›
 have:∀ k<11,0<=bJ.getD k 0/\bJ.getD k 0<=120432:=by decide
 obtain ⟨h2,h3⟩:=this k hk
 refine⟨bJ.getD k 0,?_,rfl,h2,h3⟩
 rw[Int.toNat_natCast,List.getElem?_map,List.getD_eq_getElem?_getD]
 have:k<bJ.length:=hk
 rw[List.getElem?_eq_getElem this];rfl
theorem sO{F:Fn}{c:Nat}{x:Int}{σ:List AO}(hc:97<=c/\c<=122){o3 o4 o5:Option V} :
  evx F (.bf .chr (.cons (.bin .Sub (.bin .Add (.idx (.loc 2) (.bin .Mod (.loc 1) (.cst (.int 12)))) (.bf .ord (.cons (.loc 0) .nil))) (.cst (.int 97))) .nil)) σ
   [some (.str [c]),some (.int x),some (.tup (dk.map V.int)),o3,o4,o5]=some (.str (mX c (x % 12).toNat),σ):=by
 have r0:0<=x % 12:=Int.emod_nonneg _ (by decide)
 have r1:x % 12<12:=Int.emod_lt_of_pos _ (by decide)
 refine hu1 (xn r0 r1) λd hc1 hc2 hc3 hc4=>?_
 unfold mX
 refine(hc2)▸?_
 have e1:dH σ (.tup (dk.map V.int)) (.int (x % 12))=some (.int d):=(aX1 (u:=dk.map V.int) r0 (Int.le_trans (Int.le_of_lt r1) (by decide)) (show x % 12<((12:Nat):Int) from r1)).trans hc1
 exact mJ (aI (aD (aD (bu rfl (aD rfl rfl (cX (by decide))) e1) (mJ (aI (ah rfl)) zM) dY) rfl mx)) (nU (by omega) (by omega))
theorem vn{F:Fn}{q:Int}{σ:List AO}(q0:0<=q)(hq:q<27){s:List Nat}(hs:s.length<=1){o0 o1 o2:Option V} :
  evx F (.bin .Add (.bf .chr (.cons (.ite (.cmp .Lt (.loc 5) (.cst (.int 11))) (.idx (.loc 3) (.loc 5)) (.bin .Add (.cst (.int 65013)) (.loc 5))) .nil)) (.loc 4)) σ
   [o0,o1,o2,some (.tup (bJ.map V.int)),some (.str s),some (.int q)]=some (.str (yX q++s),σ):=by
 have key:∀ d:Int,0<=d->d<=1114111->(if q<11 then bJ.getD q.toNat 0 else 65013+q)=d ->
   evx F (.ite (.cmp .Lt (.loc 5) (.cst (.int 11))) (.idx (.loc 3) (.loc 5)) (.bin .Add (.cst (.int 65013)) (.loc 5))) σ [o0,o1,o2,some (.tup (bJ.map V.int)),some (.str s),some (.int q)]=some (.int d,σ) ->
   evx F (.bin .Add (.bf .chr (.cons (.ite (.cmp .Lt (.loc 5) (.cst (.int 11))) (.idx (.loc 3) (.loc 5)) (.bin .Add (.cst (.int 65013)) (.loc 5))) .nil)) (.loc 4)) σ [o0,o1,o2,some (.tup (bJ.map V.int)),some (.str s),some (.int q)]=some (.str (yX q++s),σ):=λd h0 h1 e h=>by
  unfold yX
  rw[if_pos hq,e]
  exact aD (mJ (aI h) (nU h0 h1)) rfl (bO.trans (if_pos (Nat.le_trans (Nat.add_le_add_left hs 1) (by decide))))
 by_cases h:q<11
 ·refine hu1 (sM q0 h) λd hd1 hd2 hd3 hd4=>key d hd3 (Int.le_trans hd4 (by decide)) ((if_pos h).trans hd2) ((du1 (a0 rfl rfl mv)).trans ?_)
  rw[decide_eq_true h]
  exact(if_pos rfl).trans (bu rfl rfl ((aX1 (u:=bJ.map V.int) q0 (Int.le_trans (Int.le_of_lt h) (by decide)) (show q<((11:Nat):Int) from h)).trans hd1))
 ·refine key (65013+q) (by lia) (by lia) (if_neg h) ((du1 (a0 rfl rfl mv)).trans ?_)
  refine(decide_eq_false h)▸?_
  exact(if_neg Bool.false_ne_true).trans (aD rfl rfl dY)
theorem vm(F:Fn)(c:Nat)(x:Int)(σ:List AO)(hc:97<=c/\c<=122):mK F 2 4 cy [.str [c],.int x] σ=some (.str (bB c x),σ):=by
 have main:∃ η,exs F cy σ [some (.str [c]),some (.int x),none,none,none,none]=some (.ret (.str (bB c x)),σ,η):=by
  refine⟨_,(bF (v:=.tup (dk.map V.int)) rfl).trans ((bF (v:=.tup (bJ.map V.int)) rfl).trans ((bF (sO hc)).trans ((bF (v:=.int (x / 12 % 54)) (aD (aD rfl rfl (cP (by decide) (by decide))) rfl (cX (by decide)))).trans
   ((iC1 (σ₂:=σ) (η₂:=[some (.str [c]),some (.int x),some (.tup (dk.map V.int)),some (.tup (bJ.map V.int)),some (.str (bB c x)),some (.int (x / 12 % 54))]) (a0 rfl rfl mv) ?_).trans (fY rfl)))))⟩
  by_cases hq:x / 12 % 54<27
  ·rw[decide_eq_true hq]
   exact(if_pos rfl).trans ((bF (vn (Int.emod_nonneg _ (by decide)) hq (s:=mX c (x % 12).toNat) (Nat.le_refl 1))).trans rfl)
  ·rw[decide_eq_false hq]
   unfold bB yX
   rw[if_neg hq]
   rfl
 exact a4 main λη e=>cr rfl e
section
variable {σ:List AO} {x y i j:Int} {a b l:List Nat} {u v:List V}
theorem k71{j:Nat}(h:j<=l.length):pk σ (.str l) .none (.int j) .none=some (.str (l.take j)):=by
 show some (V.str (Txt.slice ⟨l.toArray⟩ none (some (j:Int))).cps.toList)=_
 have:=slice_closes_to (x:=⟨l.toArray⟩) (j:=(j:Int)) ⟨by exact Int.natCast_nonneg _,by simpa using h⟩
 rw[beq_iff_eq] at this
 rw[this]
 simp
theorem yI{i j:Nat}(h:i<=j)(h':j<=l.length):pk σ (.str l) (.int i) (.int j) .none=some (.str ((l.drop i).take (j - i))):=by
 show some (V.str (Txt.slice ⟨l.toArray⟩ (some (i:Int)) (some (j:Int))).cps.toList)=_
 have:=slice_closes (x:=⟨l.toArray⟩) (i:=(i:Int)) (j:=(j:Int)) ⟨by exact Int.natCast_nonneg _,by exact Int.ofNat_le.mpr ‹_›,by simpa using h'⟩
 rw[beq_iff_eq] at this
 rw[this]
 simp
end
noncomputable def ct:List Nat->List Nat
 | []=>[]
 | c::r=>if c=34 then (match r with
  | d::r'=>if d=34 then 34::ct r' else []
  | []=>[]) else c::ct r
theorem lE(r:List Nat):ct (34::34::r)=34::ct r:=rfl
theorem vY:ct [34]=[]:=rfl
theorem kq{d:Nat}(r:List Nat)(h:d≠34):ct (34::d::r)=[]:=if_neg h
theorem vZ{c:Nat}(r:List Nat)(h:c≠34):ct (c::r)=c::ct r:=by cases r <;> exact if_neg h
noncomputable def pC(F:Fn):List AO->ac->Option (Bool×List AO):=λσ η=>evt F (.cmp .Lt (.loc 2) (.loc 3)) σ η
noncomputable def wl:Sx:=(.seq (.asg 4 (.idx (.loc 0) (.loc 2)))
 (.seq (.asg 2 (.bin .Add (.loc 2) (.cst (.int 1))))
 (.seq (.ite (.cmp .Eq (.loc 4) (.cst (.str [34]))) (.seq (.ite (.or (.cmp .GtE (.loc 2) (.loc 3)) (.cmp .NotEq (.idx (.loc 0) (.loc 2)) (.cst (.str [34])))) (.seq .brk
 .skip) .skip)
 (.seq (.asg 2 (.bin .Add (.loc 2) (.cst (.int 1))))
 .skip)) .skip)
 (.seq (.asg 1 (.bin .Add (.loc 1) (.loc 4)))
 .skip))))
theorem cF1(p:List Nat)(c:Nat)(r:List Nat):(p++c::r)[p.length]?=some c:=by simp
theorem dI1{σ:List AO}(p:List Nat)(c:Nat)(r:List Nat)(h:(p++c::r).length<=1000000):dH σ (.str (p++c::r)) (.int p.length)=some (.str [c]):=by
 rw[aY1 (by lia) (by simp at h;lia) (by simp;lia),Int.toNat_natCast,cF1];rfl
theorem u7{c:List AO->ac->Option (Bool×List AO)}{b:List AO->ac->Out}{n:Nat}{σ:List AO}{η:ac}:whN c b (n+1) σ η=match c σ η with
  | some (false,σ₁)=>some (.next,σ₁,η)
  | some (true,σ₁)=>match b σ₁ η with
   | some (.next,σ₂,η₂)=>whN c b n σ₂ η₂
   | some (.brk,σ₂,η₂)=>some (.next,σ₂,η₂)
   | r=>r
  | none=>none:=rfl
theorem u6{c:List AO->ac->Option (Bool×List AO)}{b:List AO->ac->Out}{n:Nat}{σ σ':List AO}{η:ac}(h:c σ η=some (false,σ')):whN c b (n+1) σ η=some (.next,σ',η):=by
 rw[u7,h]
theorem rF{c:List AO->ac->Option (Bool×List AO)}{b:List AO->ac->Out}{n:Nat}{σ σ' σ₂:List AO}{η η₂:ac}(h:c σ η=some (true,σ'))(hb:b σ' η=some (.next,σ₂,η₂)):whN c b (n+1) σ η=whN c b n σ₂ η₂:=by
 rw[u7,h]
 dsimp only
 rw[hb]
theorem u8{c:List AO->ac->Option (Bool×List AO)}{b:List AO->ac->Out}{n:Nat}{σ σ' σ₂:List AO}{η η₂:ac}(h:c σ η=some (true,σ'))(hb:b σ' η=some (.brk,σ₂,η₂)):whN c b (n+1) σ η=some (.next,σ₂,η₂):=by
 rw[u7,h]
 dsimp only
 rw[hb]
section
variable {F:Fn} {σ:List AO} {r d:List Nat} {c b:Nat} {i n:Int} {s4:Option V}
local macro_rules | `(tactic| simp only[sx,$xs,*] $[$l]?)=>`(tactic| simp only[uR,ry,uM,rt,kW,uK,uO,uN,uT,rx,ru,uS,gU,ye,rz,uP,uL,aW1,fT,aV1,fU,oX,kX,fS,rs,kU,kV,kS,rq,rr,uJ,oW,kT,oV,uQ,xt,dY,mx,cX,cP,bO,oz,kO,ip,xM,mv,c71,qK,zU,oo,j3,c81,id1,ic1,ia1,ib1,Option.map_some,l6,nU,zM,sk,xr,aU,List.map_cons,List.map_nil,List.length_cons,List.length_nil,List.cons_append,List.nil_append,List.replicate_succ,List.replicate_zero,List.getElem?_cons_zero,List.getElem?_cons_succ,List.set_cons_zero,List.set_cons_succ,ma,md,l9,mb,Nat.reduceAdd,Nat.reduceSub,Int.reduceLE,Int.reduceLT,and_self,if_true,Nat.reduceLeDiff,Bool.not_true,Bool.not_false,$xs,*] $[$l]?)
theorem ld1(e1:dH σ (.str r) (.int i)=some (.str [c]))(hc:([c]==[34])=false)(hd:d.length+1<=lim) :
  exs F wl σ [some (.str r),some (.str d),some (.int i),some (.int n),s4]=some (.next,σ,[some (.str r),some (.str (d++[c])),some (.int (i+1)),some (.int n),some (.str [c])]):=by
 simp only[sx,wl,e1,hc,if_pos hd]
theorem e01(e1:dH σ (.str r) (.int i)=some (.str [34]))(g:n<=i+1) :
  exs F wl σ [some (.str r),some (.str d),some (.int i),some (.int n),s4]=some (.brk,σ,[some (.str r),some (.str d),some (.int (i+1)),some (.int n),some (.str [34])]):=by
 simp only[sx,wl,e1,BEq.rfl,g,decide_true]
theorem bM1(e1:dH σ (.str r) (.int i)=some (.str [34]))(g:¬ n<=i+1)(e2:dH σ (.str r) (.int (i+1))=some (.str [b]))(hb:([b]==[34])=false) :
  exs F wl σ [some (.str r),some (.str d),some (.int i),some (.int n),s4]=some (.brk,σ,[some (.str r),some (.str d),some (.int (i+1)),some (.int n),some (.str [34])]):=by
 simp only[sx,wl,e1,e2,BEq.rfl,g,decide_true,decide_false,hb]
theorem e11(e1:dH σ (.str r) (.int i)=some (.str [34]))(g:¬ n<=i+1)(e2:dH σ (.str r) (.int (i+1))=some (.str [34]))(hd:d.length+1<=lim) :
  exs F wl σ [some (.str r),some (.str d),some (.int i),some (.int n),s4]=some (.next,σ,[some (.str r),some (.str (d++[34])),some (.int (i+1+1)),some (.int n),some (.str [34])]):=by
 simp only[sx,wl,e1,e2,BEq.rfl,g,decide_true,decide_false,if_pos hd]
theorem hi1(h:i<n):pC F σ [some (.str r),some (.str d),some (.int i),some (.int n),s4]=some (true,σ):=by
 simp only[sx,pC,h,decide_true]
theorem lc1(h:¬ i<n):pC F σ [some (.str r),some (.str d),some (.int i),some (.int n),s4]=some (false,σ):=by
 simp only[sx,pC,h,decide_false]
end
noncomputable def PLp(F:Fn)(σ:List AO)(k:Nat)(w:List Nat)(i n:Int)(d:List Nat)(s4:Option V)(g:List Nat):Prop :=
 ∃ i' c',whN (pC F) (λσ η=>exs F wl σ η) (k+1) σ [some (.str w),some (.str d),some (.int i),some (.int n),s4]=some (.next,σ,[some (.str w),some (.str g),some (.int i'),some (.int n),c'])
section
variable {F:Fn} {σ:List AO} {w d g:List Nat} {c b k:Nat} {i n:Int} {s4:Option V}
theorem PLp.stop(h:¬ i<n):PLp F σ k w i n d s4 d:=⟨i,s4,u6 (lc1 h)⟩
theorem PLp.fin(h:i<n)(e1:dH σ (.str w) (.int i)=some (.str [34]))(q:n<=i+1):PLp F σ k w i n d s4 d:=⟨_,_,u8 (hi1 h) (e01 e1 q)⟩
theorem PLp.more(h:i<n)(e1:dH σ (.str w) (.int i)=some (.str [34]))(q:¬ n<=i+1)(e2:dH σ (.str w) (.int (i+1))=some (.str [b]))(hb:([b]==[34])=false):PLp F σ k w i n d s4 d:=⟨_,_,u8 (hi1 h) (bM1 e1 q e2 hb)⟩
theorem PLp.step(h:i<n)(e1:dH σ (.str w) (.int i)=some (.str [c]))(hc:([c]==[34])=false)(hd:d.length+1<=lim)(ih:PLp F σ k w (i+1) n (d++[c]) (some (.str [c])) g):PLp F σ (k+1) w i n d s4 g :=
 ih.elim λi' x=>x.elim λc' e=>⟨i',c',(rF (hi1 h) (ld1 e1 hc hd)).trans e⟩
theorem PLp.dbl(h:i<n)(e1:dH σ (.str w) (.int i)=some (.str [34]))(q:¬ n<=i+1)(e2:dH σ (.str w) (.int (i+1))=some (.str [34]))(hd:d.length+1<=lim)(ih:PLp F σ k w (i+1+1) n (d++[34]) (some (.str [34])) g):PLp F σ (k+1) w i n d s4 g :=
 ih.elim λi' x=>x.elim λc' e=>⟨i',c',(rF (hi1 h) (e11 e1 q e2 hd)).trans e⟩
end
theorem fy1(p:List Nat)(c:Nat)(t:List Nat):(p.length:Int)<((p++c::t).length:Nat):=by rw[List.length_append,List.length_cons];exact Int.ofNat_le.mpr (Nat.succ_le_succ (Nat.le_add_right p.length t.length))
theorem gA(F:Fn)(σ:List AO)(N:Nat)(hN:N<=100000):∀ (k:Nat) (p t d:List Nat) (s4:Option V),t.length<=k->p.length+t.length<=N->d.length+t.length<=N->PLp F σ k (p++t) p.length (p++t).length d s4 (d++ct t)
 | k,p,[],d,s4,_,_,_=>by
  rw[show ct []=[] from rfl,List.append_nil,List.append_nil]
  exact .stop (Int.lt_irrefl _)
 | 0,p,c::t,d,s4,hk,_,_=>absurd hk (Nat.not_succ_le_zero _)
 | k+1,p,c::t,d,s4,hk,hz,hd=>by
  have hk':t.length<=k:=Nat.le_of_succ_le_succ hk
  have hz':p.length+t.length+1<=N:=hz
  have hd':d.length+t.length+1<=N:=hd
  have e1:dH σ (.str (p++c::t)) (.int p.length)=some (.str [c]):=dI1 p c t (by rw[List.length_append];exact Nat.le_trans hz (Nat.le_trans hN (by decide)))
  have hd2:d.length+1<=lim:=Nat.le_trans (Nat.le_trans (by lia) hN) (by decide)
  have lt:=fy1 p c t
  by_cases hc:c=34
  ·subst hc
   cases t with
   | nil =>
    rw[vY,List.append_nil]
    exact .fin lt e1 (by exact(List.length_append)▸(Int.le_refl _))
   | cons b t =>
    have q:¬ (((p++34::b::t).length:Nat):Int)<=(p.length:Int)+1:=by rw[List.length_append,List.length_cons,List.length_cons];lia
    have e2:dH σ (.str (p++34::b::t)) (.int ((p.length:Int)+1))=some (.str [b]):=by
     have h:=dI1 (σ:=σ) (p++[34]) b t (by rw[List.append_assoc,List.length_append];exact Nat.le_trans hz (Nat.le_trans hN (by decide)))
     rw[List.append_assoc,List.length_append] at h
     exact h
    by_cases hb:b=34
    ·subst hb
     have ih:=gA F σ N hN k (p++[34,34]) t (d++[34]) (some (.str [34])) (Nat.le_of_succ_le hk') (by rw[List.length_append];exact(show p.length+2+t.length<=N by rw[List.length_cons] at hz';lia)) (by rw[List.length_append];exact(show d.length+1+t.length<=N by rw[List.length_cons] at hd';lia))
     rw[List.append_assoc,List.length_append,List.append_assoc] at ih
     rw[lE]
     exact .dbl lt e1 q e2 hd2 ih
    ·rw[kq _ hb,List.append_nil]
     exact .more lt e1 q e2 (by simp [hb])
  ·have ih:=gA F σ N hN k (p++[c]) t (d++[c]) (some (.str [c])) hk' (by rw[List.length_append];exact(show p.length+1+t.length<=N by lia)) (by rw[List.length_append];exact(show d.length+1+t.length<=N by lia))
   rw[List.append_assoc,List.length_append,List.append_assoc] at ih
   refine(vZ _ hc)▸?_
   exact .step lt e1 (by simp [hc]) hd2 ih
theorem pF:dB=(.seq (.ite (.cmp .NotEq (.slc (.loc 0) .nil (.cst (.int 3)) .nil) (.cst (.str [50,53,55]))) (.seq .dead .skip) .skip)
 (.seq (.ite (.cmp .NotEq (.slc (.loc 0) (.cst (.int 3)) (.cst (.int 5)) .nil) (.cst (.str [32,34]))) (.seq (.ret (.cst (.str []))) .skip) .skip)
 (.seq (.asg 1 (.cst (.str [])))
 (.seq (.asg 2 (.cst (.int 5)))
 (.seq (.asg 3 (.bf .len (.cons (.loc 0) .nil)))
 (.seq (.whil 1000 (.cmp .Lt (.loc 2) (.loc 3)) wl)
 (.seq (.ret (.loc 1)) .skip))))))):=rfl
local macro_rules | `(tactic| simp only[sx,$xs,*] $[$l]?)=>`(tactic| simp only[uR,ry,uM,rt,kW,uK,uO,uN,uT,rx,ru,uS,gU,ye,rz,uP,uL,aW1,fT,aV1,fU,oX,kX,fS,rs,kU,kV,kS,rq,rr,uJ,oW,kT,oV,uQ,xt,dY,mx,cX,cP,bO,oz,kO,ip,xM,mv,c71,qK,zU,oo,j3,c81,id1,ic1,ia1,ib1,Option.map_some,l6,nU,zM,sk,xr,aU,List.map_cons,List.map_nil,List.length_cons,List.length_nil,List.cons_append,List.nil_append,List.replicate_succ,List.replicate_zero,List.getElem?_cons_zero,List.getElem?_cons_succ,List.set_cons_zero,List.set_cons_succ,ma,md,l9,mb,Nat.reduceAdd,Nat.reduceSub,Int.reduceLE,Int.reduceLT,and_self,if_true,Nat.reduceLeDiff,Bool.not_true,Bool.not_false,$xs,*] $[$l]?)
local macro_rules | `(tactic| dsimp only[sx] $[$l]?)=>`(tactic| dsimp only[uR,ry,uM,rt,kW,uK,uO,uN,uT,rx,ru,uS,gU,ye,rz,uP,uL,aW1,fT,aV1,fU,oX,kX,fS,rs,kU,kV,kS,rq,rr,uJ,oW,kT,oV,uQ,xt,dY,mx,cX,cP,bO,oz,kO,ip,xM,mv,c71,qK,zU,oo,j3,c81,id1,ic1,ia1,ib1,Option.map_some,l6,nU,zM,sk,xr,aU,List.map_cons,List.map_nil,List.length_cons,List.length_nil,List.cons_append,List.nil_append,List.replicate_succ,List.replicate_zero,List.getElem?_cons_zero,List.getElem?_cons_succ,List.set_cons_zero,List.set_cons_succ,ma,md,l9,mb,Nat.reduceAdd,Nat.reduceSub,Int.reduceLE,Int.reduceLT,and_self,if_true,Nat.reduceLeDiff,Bool.not_true,Bool.not_false] $[$l]?)
theorem wi(F:Fn)(σ:List AO)(t:List Nat)(ht:t.length<=900):mK F 1 4 dB [.str ([50,53,55,32,34]++t)] σ=some (.str (ct t),σ):=by
 obtain ⟨i',c',h⟩:=gA F σ 1000 (by exact Nat.le_add_left _ _) 999 [50,53,55,32,34] t [] none (by exact Nat.le_trans ‹_› (by decide)) (by show 5+t.length<=1000;omega) (by show 0+t.length<=1000;omega)
 have e1:pk σ (.str ([50,53,55,32,34]++t)) .none (.int 3) .none=some (.str [50,53,55]):=by
  have:=k71 (σ:=σ) (l:=[50,53,55,32,34]++t) (j:=3) (by simp)
  exact this
 have e2:pk σ (.str ([50,53,55,32,34]++t)) (.int 3) (.int 5) .none=some (.str [32,34]):=by
  have:=yI (σ:=σ) (l:=[50,53,55,32,34]++t) (i:=3) (j:=5) (by decide) (by simp)
  exact this
 have hp:(([50,53,55,32,34]:List Nat).length:Int)=5:=rfl
 rw[hp,List.nil_append] at h
 generalize hr:[50,53,55,32,34]++t=r at e1 e2 h ⊢
 have h':exs F (.whil 1000 (.cmp .Lt (.loc 2) (.loc 3)) wl) σ [some (.str r),some (.str []),some (.int 5),some (.int r.length),none]=some (.next,σ,[some (.str r),some (.str (ct t)),some (.int i'),some (.int r.length),c']):=h
 unfold mK
 rw[if_pos (by rfl),pF]
 have s0:aU [V.str r] 4=[some (.str r),none,none,none,none]:=rfl
 rw[s0,aE (σ₁:=σ) (η₁:=[some (.str r),none,none,none,none]) (by simp only[sx,e1,BEq.rfl]),
  aE (σ₁:=σ) (η₁:=[some (.str r),none,none,none,none]) (by simp only[sx,e2,BEq.rfl]),
  aE (σ₁:=σ) (η₁:=[some (.str r),some (.str []),none,none,none]) (by dsimp only[sx]),
  aE (σ₁:=σ) (η₁:=[some (.str r),some (.str []),some (.int 5),none,none]) (by dsimp only[sx]),
  aE (σ₁:=σ) (η₁:=[some (.str r),some (.str []),some (.int 5),some (.int r.length),none]) (by dsimp only[sx]),
  aE h']
 dsimp only[sx]
theorem kJ{cond:List AO->ac->Option (Bool×List AO)}{elt:List AO->ac->Option (V×List AO)}{i:Nat}{σ:List AO}{f:V->V}{p:V->Bool}:∀ (l:List V) (η:ac) (n:Nat),l.length<n ->
  (∀ x∈l,cond σ (η.set i (some x))=some (p x,σ))->(∀ x∈l,p x=true->elt σ (η.set i (some x))=some (f x,σ))->cW (.loc i) cond elt n (.seq l) σ η=some ((l.filter p).map f,σ)
 | [],η,0,h,_,_=>by simp at h
 | [],η,n+1,_,_,_=>rfl
 | x::l,η,0,h,_,_=>by simp at h
 | x::l,η,n+1,h,hc,he=>by
  have h':l.length<n:=by simpa using h
  have ih:=kJ (cond:=cond) (elt:=elt) (i:=i) (σ:=σ) (f:=f) (p:=p) l (η.set i (some x)) n h' (λy hy=>by rw[List.set_set];exact hc y (List.mem_cons_of_mem _ hy)) (λy hy hp=>by rw[List.set_set];exact he y (List.mem_cons_of_mem _ hy) hp)
  show (match asF (.loc i) x η with | none=>none | some η₁=>_)=_
  show (match cond σ (η.set i (some x)) with | none=>none | some (false,σ₁)=>cW (.loc i) cond elt n (.seq l) σ₁ (η.set i (some x)) | some (true,σ₁)=>match elt σ₁ (η.set i (some x)) with | none=>none | some (v,σ₂)=>match cW (.loc i) cond elt n (.seq l) σ₂ (η.set i (some x)) with | none=>none | some (out,aq)=>some (v::out,aq))=_
  refine(hc x List.mem_cons_self)▸?_
  cases hp:p x with
  | false =>
   rw[List.filter_cons,hp]
   exact ih
  | true =>
   dsimp only
   rw[he x List.mem_cons_self hp]
   dsimp only
   rw[ih,List.filter_cons,hp]
   rfl
section
variable {F:Fn} {σ:List AO} {η:ac} {vars:List Var} {i:Nat} {elt it cond:Ex} {x:V} {l:List V} {f:V->V} {p:V->Bool}
theorem aZ1(hit:evx F it σ η=some (x,σ))(hl:bh x=some (.seq l))(hc:∀ y∈l,evt F cond σ ((clr η vars).set i (some y))=some (p y,σ))(he:∀ y∈l,p y=true->evx F elt σ ((clr η vars).set i (some y))=some (f y,σ))(hn:l.length<=lim)(hnil:cond≠.nil) :
  evx F (.comp vars (.loc i) elt it cond) σ η=some (.lst ((l.filter p).map f),σ):=by
 rw[iG,hit]
 dsimp only
 refine(hl)▸?_
 dsimp only[ItS.fuel]
 rw[kJ (f:=f) (p:=p) l (clr η vars) (l.length+1) (Nat.lt_succ_self _) (λy hy=>?_) (λy hy hp=>he y hy hp)]
 ·dsimp only
  rw[List.length_map,if_pos (Nat.le_trans (List.length_filter_le _ _) hn)]
 ·have:=hc y hy
  unfold evt at this
  cases cond <;> first | exact this | exact absurd rfl hnil
end
theorem m8(n:Nat):(Builtin.Range.rangeSize 0 n 1).toNat=n:=by
 unfold Builtin.Range.rangeSize
 simp
 split <;> lia
noncomputable def j31(n:Nat):List V:=(List.range n).map λ(k:Nat)=>V.int (k:Int)
theorem v0(n:Nat):dc 0 n 1=j31 n:=by
 unfold dc j31
 rw[m8]
 simp
theorem bR{F:Fn}{σ:List AO}{η:ac}{e:Ex}{n:Nat}(h:evx F e σ η=some (.int n,σ))(hn:n<=1000000):evx F (.range (.cons e .nil)) σ η=some (.rng 0 n 1,σ):=by
 rw[fT,kW,h]
 dsimp only
 refine(rt)▸?_
 dsimp only
 show (if iQ 0 n 1 then some (V.rng 0 n 1) else none).map _=_
 have:iQ 0 n 1=true:=by unfold iQ;simp;exact Int.ofNat_le.mpr ‹_›
 rw[if_pos this];rfl
theorem ki:∀ l:List (List Nat),gZ (l.map V.str)=some l
 | []=>rfl
 | x::l=>by show (gZ (l.map V.str)).map (x::·)=_;rw[ki l];rfl
theorem nN:∀ l:List (List Nat),bZ [] l=l.flatten
 | []=>rfl
 | [x]=>(List.append_nil x).symm
 | x::y::l=>by show x++[]++bZ [] (y::l)=x++(y::l).flatten;rw[List.append_nil,nN (y::l)]
theorem fx:∀ l:List (List Nat),bn l=l.flatten.length
 | []=>rfl
 | x::l=>by rw[bn,fx l];simp
theorem rZ{σ:List AO}(l:List (List Nat))(h:l.flatten.length<=lim):meF .join σ (.str []) [.lst (l.map V.str)]=some (.str l.flatten):=by
 show (match gZ (l.map V.str) with | some ys=>if bn ys+ys.length*([]:List Nat).length<=lim then some (V.str (bZ [] ys)) else none | none=>none)=_
 rw[ki]
 dsimp only
 rw[fx,nN,if_pos (by exact h)]
noncomputable def ay1:List Nat:=[97,98,99,100,107,109]
noncomputable def b3v(c:Nat):List Nat:=match gB3 c with | some l=>l | none=>mN c
noncomputable def hX(c:Nat):Bool:=!sB1 (c:Int)
noncomputable def cF(t:List Nat):List Nat:=((t.filter hX).map b3v).flatten
theorem bW(a b:List Nat):cF (a++b)=cF a++cF b:=by unfold cF;simp
theorem rO:(ay1.all λk=>(List.range 12).all λr=>match mX k r with | [c]=>hX c&&(b3v c==[k])&&decide ((mN c).length<=lim) | _=>false)=true:=by decide +kernel
theorem v9:((List.range 54).all λq=>match yX (q:Nat) with | []=>true | [c]=>!hX c | _=>false)=true:=by decide +kernel
theorem gx{k:Nat}(hk:k∈ay1)(x:Int):cF (bB k x)=[k]:=by
 have r0:0<=x % 12:=Int.emod_nonneg _ (by decide)
 have r1:x % 12<12:=Int.emod_lt_of_pos _ (by decide)
 have q0:0<=x / 12 % 54:=Int.emod_nonneg _ (by decide)
 have q1:x / 12 % 54<54:=Int.emod_lt_of_pos _ (by decide)
 unfold bB
 obtain ⟨r,hr⟩:=Int.eq_ofNat_of_zero_le r0
 obtain ⟨q,hq⟩:=Int.eq_ofNat_of_zero_le q0
 rw[hr,hq,Int.toNat_natCast,bW]
 have h1:=List.all_eq_true.mp (List.all_eq_true.mp rO k hk) r (List.mem_range.mpr (by lia))
 have h2:=List.all_eq_true.mp v9 q (List.mem_range.mpr (by omega))
 have e1:cF (yX (q:Int))=[]:=by
  split at h2
  ·rename_i e;rw[e];rfl
  ·rename_i c e
   rw[e]
   simp only[Bool.not_eq_true'] at h2
   unfold cF
   rw[List.filter_cons,h2];rfl
  ·exact ftr h2
 have e2:cF (mX k r)=[k]:=by
  split at h1
  ·rename_i c e
   rw[e]
   simp only[Bool.and_eq_true,beq_iff_eq] at h1
   unfold cF
   rw[List.filter_cons,h1.1.1]
   simp [h1.1.2]
  ·exact ftr h1
 rw[e1,e2];rfl
theorem i6{k:Nat}(hk:k∈ay1)(x:Int):∀ c∈bB k x,hX c=true->(mN c).length<=lim:=by
 have r0:0<=x % 12:=Int.emod_nonneg _ (by decide)
 have r1:x % 12<12:=Int.emod_lt_of_pos _ (by decide)
 have q0:0<=x / 12 % 54:=Int.emod_nonneg _ (by decide)
 have q1:x / 12 % 54<54:=Int.emod_lt_of_pos _ (by decide)
 unfold bB
 obtain ⟨r,hr⟩:=Int.eq_ofNat_of_zero_le r0
 obtain ⟨q,hq⟩:=Int.eq_ofNat_of_zero_le q0
 rw[hr,hq,Int.toNat_natCast]
 have h1:=List.all_eq_true.mp (List.all_eq_true.mp rO k hk) r (List.mem_range.mpr (by lia))
 have h2:=List.all_eq_true.mp v9 q (List.mem_range.mpr (by omega))
 intro c hc hs
 refine Or.elim (List.mem_append.mp hc) (λhc=>?_) (λhc=>?_)
 ·split at h2
  ·rename_i e;replace hc:=(e)▸hc;cases hc
  ·rename_i d e
   rw[e,List.mem_singleton] at hc
   subst hc
   rw[hs] at h2;exact ftr h2
  ·exact ftr h2
 ·split at h1
  ·rename_i d e
   rw[e,List.mem_singleton] at hc
   subst hc
   simp only[Bool.and_eq_true,decide_eq_true_eq] at h1
   exact h1.2
  ·exact ftr h1
theorem dK(c:Nat)(x:Int):(bB c x).length<=2:=by
 unfold bB yX mX
 split <;> simp
structure FnOk (F:Fn):Prop where
 typed:∀ (σ:List AO) (c:Nat) (x:Int),97<=c->c<=122->F 5 [.str [c],.int x] σ=some (.str (bB c x),σ)
 parse:∀ (σ:List AO) (t:List Nat),t.length<=900->F 2 [.str ([50,53,55,32,34]++t)] σ=some (.str (ct t),σ)
 b1:∀ (σ:List AO) (c:Nat),F 3 [.str [c]] σ=some (.bool (sB1 c),σ)
 b3:∀ (σ:List AO) (c:Nat),(mN c).length<=lim->F 4 [.str [c]] σ=some (.str (b3v c),σ)
theorem zJ{ks:List Nat}{i:Nat}(h:i<ks.length):ks[i]?=some (ks.getD i 0):=by
 rw[List.getD_eq_getElem?_getD,List.getElem?_eq_getElem h];rfl
theorem nQ{ks:List Int}{i:Nat}(h:i<ks.length):ks[i]?=some (ks.getD i 0):=by
 rw[List.getD_eq_getElem?_getD,List.getElem?_eq_getElem h];rfl
theorem mR{σ:List AO}{ws:List Int}{i:Nat}(hi:i<ws.length)(hl:ws.length<=1000000):dH σ (.lst (ws.map V.int)) (.int i)=some (.int (ws.getD i 0)):=by
 rw[uU (by exact Int.natCast_nonneg _) (by lia) (by rw[List.length_map];exact Int.ofNat_le.mpr ‹_›),Int.toNat_natCast,List.getElem?_map,nQ hi];rfl
noncomputable def fB:V->V
 | .str [c]=>.str (b3v c)
 | _=>.none
noncomputable def pB:V->Bool
 | .str [c]=>hX c
 | _=>false
theorem aK1:∀ t:List Nat,((t.map λc=>V.str [c]).filter pB).map fB=((t.filter hX).map b3v).map V.str
 | []=>rfl
 | c::t=>by
  have ih:=aK1 t
  rw[List.map_cons,List.filter_cons,List.filter_cons]
  show (if hX c=true then _ else _:List V).map fB=_
  split
  ·rw[List.map_cons,ih,List.map_cons,List.map_cons];rfl
  ·exact ih
theorem bd1{α:Type}(l:List α)(n:Nat)(h:n<=l.length):jL l none (some (n:Int)) none=l.take n:=by
 unfold jL
 have e:sliceBounds none (some (n:Int)) none l.length=(((0:Nat):Int),(n:Int),1):=by
  simp only[sliceBounds,Option.getD_none]
  have h1:¬ ((n:Int)<0):=by lia
  simp only[h1,if_false,show (1:Int)>0 by decide,if_true]
  congr 2
  lia
 rw[e]
 dsimp only
 rw[sliceRange_one]
 have:=pick_run l.toArray 0 (n - 0)
 simp only[List.getElem?_toArray] at this
 rw[this]
 simp
noncomputable def ag(l:List Nat):List V:=l.map λ(k:Nat)=>V.int (k:Int)
theorem i5(n:Nat):∀ l:List Nat,okPs n (ag l)=true
 | []=>rfl
 | _::l=>i5 n l
theorem n8{α:Type}{elt:List AO->ac->Option (V×List AO)}{i:Nat}{σ:List AO}{g f:α->V}:∀ (l:List α) (η:ac) (n:Nat),l.length<n ->
  (∀ x∈l,elt σ (η.set i (some (g x)))=some (f x,σ))->cW (.loc i) (λσ η=>some (true,σ)) elt n (.seq (l.map g)) σ η=some (l.map f,σ)
 | l,η,0,h,_=>by simp at h
 | [],η,n+1,_,_=>rfl
 | x::l,η,n+1,h,he=>by
  have h':l.length<n:=by simpa using h
  have ih:=n8 (elt:=elt) (σ:=σ) (g:=g) (f:=f) l (η.set i (some (g x))) n h' (λy hy=>by rw[List.set_set];exact he y (List.mem_cons_of_mem _ hy))
  rw[List.map_cons]
  show (match elt σ (η.set i (some (g x))) with | none=>none | some (v,σ₂)=>match cW (.loc i) (λσ η=>some (true,σ)) elt n (.seq (l.map g)) σ₂ (η.set i (some (g x))) with | none=>none | some (out,aq)=>some (v::out,aq))=_
  rw[he x List.mem_cons_self]
  dsimp only
  rw[ih]
  rfl
theorem cq{F:Fn}{σ σ':List AO}{η:ac}{vars:List Var}{i:Nat}{elt it:Ex}{α:Type}{l:List α}{g f:α->V}{x:V}(hit:evx F it σ η=some (x,σ'))(hl:bh x=some (.seq (l.map g)))
  (he:∀ y∈l,evx F elt σ' ((clr η vars).set i (some (g y)))=some (f y,σ')) (hn:l.length<=lim):evx F (.comp vars (.loc i) elt it .nil) σ η=some (.lst (l.map f),σ'):=by
 rw[iG,hit]
 dsimp only
 refine(hl)▸?_
 dsimp only[ItS.fuel]
 rw[List.length_map,n8 (f:=f) l (clr η vars) (l.length+1) (Nat.lt_succ_self _) he]
 dsimp only
 rw[List.length_map,if_pos hn]
theorem dg(n:Nat):bh (.rng 0 n 1)=some (.seq ((List.range n).map λ(k:Nat)=>V.int (k:Int))):=by
 exact congrArg some (congrArg ItS.seq (v0 n))
theorem l3{tg:Ex}{b:List AO->ac->Out}{n:Nat}{st:ItS}{σ:List AO}{η:ac}(h:st.step σ=some none):foN tg b (n+1) st σ η=some (Fl.next,σ,η):=by
 show (match st.step σ with
  | none=>none
  | some none=>some (Fl.next,σ,η)
  | some (some (x,st'))=>match asF tg x η with
   | none=>none
   | some η₁=>match b σ η₁ with
    | some (Fl.next,σ₂,η₂)=>foN tg b n st' σ₂ η₂
    | some (Fl.brk,σ₂,η₂)=>some (Fl.next,σ₂,η₂)
    | r=>r)=_
 rw[h]
theorem e8{tg:Ex}{b:List AO->ac->Out}{n:Nat}{st st':ItS}{x:V}{σ:List AO}{η η₁:ac}(h:st.step σ=some (some (x,st')))(ha:asF tg x η=some η₁):foN tg b (n+1) st σ η=match b σ η₁ with
    | some (Fl.next,σ₂,η₂)=>foN tg b n st' σ₂ η₂
    | some (Fl.brk,σ₂,η₂)=>some (Fl.next,σ₂,η₂)
    | r=>r:=by
 show (match st.step σ with
  | none=>none
  | some none=>some (Fl.next,σ,η)
  | some (some (x,st'))=>match asF tg x η with
   | none=>none
   | some η₁=>match b σ η₁ with
    | some (Fl.next,σ₂,η₂)=>foN tg b n st' σ₂ η₂
    | some (Fl.brk,σ₂,η₂)=>some (Fl.next,σ₂,η₂)
    | r=>r)=_
 rw[h]
 dsimp only
 rw[ha]
theorem aI1{i:Nat}{b:List AO->ac->Out}(Inv:List V->List AO->ac->Prop)
  (h:∀ x l σ η,Inv (x::l) σ η->∃ σ' η',b σ (η.set i (some x))=some (.next,σ',η')/\Inv l σ' η') :
  ∀ (l:List V) (σ:List AO) (η:ac) (n:Nat),l.length<n->Inv l σ η->∃ σ' η',foN (.loc i) b n (.seq l) σ η=some (.next,σ',η')/\Inv [] σ' η'
 | l,σ,η,0,hn,_=>absurd hn (Nat.not_lt_zero _)
 | [],σ,η,n+1,_,hi=>⟨σ,η,rfl,hi⟩
 | x::l,σ,η,n+1,hn,hi=>by
  refine byQ λQ kQ=>?_
  refine cC (h x l σ η hi) λσ' η' h_p=>?_;have h1:=h_p.1;have h2:=h_p.2
  obtain ⟨hP1,hQ1,h_p⟩:=aI1 Inv h l σ' η' n (by simpa using hn) h2;have e:=h_p.1;have h3:=h_p.2
  refine kQ ?_
  refine fw1 hP1 hQ1 ?_ h3
  show (match b σ (η.set i (some x)) with | some (.next,σ₂,η₂)=>foN (.loc i) b n (.seq l) σ₂ η₂ | some (.brk,σ₂,η₂)=>some (.next,σ₂,η₂) | r=>r)=_
  refine(h1)▸?_
  exact e
theorem fG{F:Fn}{i:Nat}{it:Ex}{b:Sx}{σ σ₁:List AO}{η:ac}{x:V}{l:List V}(Inv:List V->List AO->ac->Prop)(hit:evx F it σ η=some (x,σ₁))(hl:bh x=some (.seq l))(hi:Inv l σ₁ η)
  (h:∀ x l σ η,Inv (x::l) σ η->∃ σ' η',exs F b σ (η.set i (some x))=some (.next,σ',η')/\Inv l σ' η') :
  ∃ σ' η',exs F (.for_ (.loc i) it b) σ η=some (.next,σ',η')/\Inv [] σ' η':=by
 rw[ac1,hit]
 dsimp only
 refine(hl)▸?_
 dsimp only[ItS.fuel]
 exact aI1 Inv h l σ₁ η (l.length+1) (Nat.lt_succ_self _) hi
theorem kE:∀ l:List Int,f8 (l.map V.int)=some l
 | []=>rfl
 | x::l=>by show (f8 (l.map V.int)).map (x::·)=_;rw[kE l];rfl
theorem jf1{σ:List AO}(l:List Int):bfF .sum σ [.lst (l.map V.int)]=some (.int l.sum):=by
 show (f8 (l.map V.int)).map _=_
 rw[kE];rfl
theorem yC{α β:Type}(f:α->β)(l:List α)(a b c:Option Int):jL (l.map f) a b c=(jL l a b c).map f:=by
 unfold jL
 rw[List.length_map,List.map_filterMap]
 congr 1
 funext i
 rw[List.getElem?_map]
theorem ip1{σ:List AO}{l:List Int}{k:Nat}{n:Int}(hn:n≠0):pk σ (.raw (l.map V.int)) (.int (k:Int)) .none (.int n)=some (.lst ((jL l (some (k:Int)) none (some n)).map V.int)):=by
 rw[← yC]
 show (if some n=some (0:Int) then none else some (V.lst (jL (l.map V.int) (some (k:Int)) none (some n))))=_
 rw[if_neg (by simpa using hn)]
theorem l5{α β:Type}(f:α->β):∀ l:List α,(l.map λx=>[f x]).flatten=l.map f
 | []=>rfl
 | x::l=>by rw[List.map_cons,List.flatten_cons,l5 f l];rfl
theorem tm{l:List Nat}{i:Nat}(h:i<l.length):(ag l)[i]?=some (.int (l.getD i 0:Nat)):=by
 unfold ag
 rw[List.getElem?_map,zJ h];rfl
theorem eS{σ:List AO}{l:List Nat}{i:Nat}(h:i<l.length)(hl:l.length<=1000000):dH σ (.lst (ag l)) (.int (i:Int))=some (.int (l.getD i 0:Nat)):=by
 have:(ag l).length=l.length:=by unfold ag;simp
 rw[uU (by exact Int.natCast_nonneg _) (by lia) (by rw[this];exact Int.ofNat_le.mpr ‹_›),Int.toNat_natCast,tm h]
theorem yW{F:Fn}(K:FnOk F)(σ:List AO){t:List Nat}(hl:t.length<=1000)(hlow:∀ c∈t,hX c=true->(mN c).length<=lim)(hp:(cF t).length<=lim) :
  mK F 1 1 bV [.str t] σ=some (.str (cF t),σ):=by
 refine cr rfl (fY (xY rfl rfl (aI (v:=.lst (((t.filter hX).map b3v).map V.str)) ?_) (rZ _ hp)))
 rw[← aK1]
 refine aZ1 (x:=.str t) (l:=t.map λc=>.str [c]) rfl rfl (λy hy=>aQ (List.mem_map.mp hy) λc hc e=>?_) (λy hy hpy=>aQ (List.mem_map.mp hy) λc hc e=>?_) (by rw[List.length_map];exact Nat.le_trans hl (by decide)) nofun
 ·subst e
  exact iF (hT1 (bc (aI (ah rfl)) (K.b1 σ c))) rfl
 ·subst e
  exact bc (aI (ah rfl)) (K.b3 σ c (hlow c hc hpy))
open PySem.Builtin.Str PySem.StrLaws
noncomputable def cD:List Nat:=[46,46,46]
theorem mT:∀ a b:List Nat,dv1 (ag a) (ag b)=(a==b)
 | [],[]=>rfl
 | [],_::_=>rfl
 | _::_,[]=>rfl
 | x::a,y::b=>by
  show (veq (.int (x:Int)) (.int (y:Int))&&dv1 (ag a) (ag b))=(x==y&&a==b)
  rw[mT a b,o7]
  congr 1
  rw[Bool.eq_iff_iff]
  simp only[decide_eq_true_eq,beq_iff_eq]
  lia
theorem cH1{σ:List AO}(a b:List Nat):hR .Eq σ (.lst (ag a)) (.lst (ag b))=some (a==b):=by
 show (if okP 4 (.lst (ag a))&&okP 4 (.lst (ag b)) then some (veq (.lst (ag a)) (.lst (ag b))) else none)=_
 have o1:okP 4 (.lst (ag a))=true:=i5 3 a
 have o2:okP 4 (.lst (ag b))=true:=i5 3 b
 rw[o1,o2]
 exact congrArg some (mT a b)
theorem dE1{F:Fn}{a b:Ex}{σ:List AO}{η:ac}{k l:Bool}(h:evx F a σ η=some (.bool k,σ))(h':evx F b σ η=some (.bool l,σ)):evx F (.and a b) σ η=some (.bool (k&&l),σ):=by
 rw[gU,h]
 dsimp only
 cases k with
 | true=>exact h'
 | false=>rfl
theorem jN1{F:Fn}{a b:Ex}{σ:List AO}{η:ac}{k l:Bool}(h:evx F a σ η=some (.bool k,σ))(h':evx F b σ η=some (.bool l,σ)):evx F (.or a b) σ η=some (.bool (k || l),σ):=by
 rw[ye,h]
 dsimp only
 cases k with
 | true=>rfl
 | false=>exact h'
theorem x9{F:Fn}{a:Ex}{σ:List AO}{η:ac}{i:Int}(h:evx F a σ η=some (.int i,σ)):evx F (.neg a) σ η=some (.int (-i),σ):=by
 rw[rx,h]
theorem dX{σ:List AO}{k:Nat}{l:List V}(h:σ[k]?=some ⟨l,none⟩):der σ (.ref k)=.lst l:=by
 show (match σ[k]? with | some ⟨items,none⟩=>V.lst items | _=>V.ref k)=_
 rw[h]
theorem yf{σ:List AO}{u:V}{i:Int}{l:List V}{j:Nat}(hi:-1000000000<=i/\i<=1000000000)(hd:der σ u=.lst l)(hj:seqIndex? i l.length=some j):dH σ u (.int i)=l[j]?:=by
 unfold dH
 dsimp only
 rw[if_pos hi,hd]
 dsimp only
 rw[hj]
noncomputable def eB:Sx:=(.seq (.asg 3 (.me .find3 (.loc 1) (.cons (.loc 5) (.cons (.loc 3) (.cons (.loc 4) .nil)))))
 (.seq (.ite (.cmp .Lt (.loc 3) (.cst (.int 0))) (.seq (.ret (.cst (.bool false)))
 .skip) .skip)
 (.seq (.aug 3 .Add (.bf .len (.cons (.loc 5) .nil)))
 .skip)))
theorem xz{σ:List AO}{k:Nat}{l:List V}(h:σ[k]?=some ⟨l,none⟩):bfF .len σ [.ref k]=some (.int l.length):=by
 show (match der σ (.ref k) with | .str l=>some (V.int l.length) | .tup l=>some (.int l.length) | .lst l=>some (.int l.length) | _=>none)=_
 rw[dX h]
theorem yd{F:Fn}{o y:Ex}{σ:List AO}{η:ac}:evx F (.split o y) σ η=(match evx F o σ η with
  | some (.str x,σ₁)=>match evx F y σ₁ η with
   | some (.str y,σ₂)=>if y≠[]/\(Txt.split (S' x) (S' y)).length<=lim/\(Txt.split (S' x) (S' y)).all (λz=>decide (z.cps.toList.length<=lim))=true then
     some (.ref σ₂.length,σ₂++[⟨(Txt.split (S' x) (S' y)).map λz=>.str z.cps.toList,none⟩]) else none
   | _=>none
  | _=>none):=rfl
theorem aU1{F:Fn}{o:Ex}{i:Int}{σ:List AO}{η:ac}:exs F (.del o i) σ η=(match evx F o σ η with
  | some (.ref k,σ₁)=>match σ₁[k]? with
   | some ⟨l,none⟩=>if -1000000000<=i/\i<=1000000000 then match seqIndex? i l.length with
    | some j=>some (.next,σ₁.set k ⟨l.eraseIdx j,none⟩,η)
    | none=>none
    else none
   | _=>none
  | _=>none):=rfl
section
variable {F:Fn} {σ σ₁ σ₂:List AO} {η η₂:ac} {e c o:Ex} {S S' R:Sx} {v u w x:V} {i:Nat}
theorem hU1{op:Operator}(h0:η[i]?=some (some u))(h:evx F e σ η=some (v,σ₁))(h2:cx1 op u v=some w):exs F (.aug i op e) σ η=some (.next,σ₁,η.set i (some w)):=by
 rw[dF1,h0]
 dsimp only
 rw[h]
 dsimp only
 rw[h2];rfl
theorem dD1{k j:Nat}{i:Int}{l:List V}(h:evx F o σ η=some (.ref k,σ₁))(hk:σ₁[k]?=some ⟨l,none⟩)(hi:-1000000000<=i/\i<=1000000000)(hj:seqIndex? i l.length=some j):exs F (.del o i) σ η=some (.next,σ₁.set k ⟨l.eraseIdx j,none⟩,η):=by
 rw[aU1,h]
 dsimp only
 refine(hk)▸?_
 dsimp only
 rw[if_pos hi,hj]
theorem fZ(h:evx F c σ η=some (x,σ₁))(h':aW x=some true)(hb:exs F S σ₁ η=some (.next,σ₂,η₂)):exs F (.seq (.ite c S S') R) σ η=exs F R σ₂ η₂:=aE ((oT (iF h h')).trans hb)
theorem kr(h:evx F c σ η=some (x,σ₁))(h':aW x=some true)(hb:exs F S σ₁ η=some (.ret v,σ₂,η₂)):exs F (.seq (.ite c S S') R) σ η=some (.ret v,σ₂,η₂):=by
 rw[fS,oT (iF h h'),if_pos rfl,hb]
theorem at1(h:evx F c σ η=some (x,σ₁))(h':aW x=some false)(hb:exs F S' σ₁ η=some (.ret v,σ₂,η₂)):exs F (.seq (.ite c S S') R) σ η=some (.ret v,σ₂,η₂):=by
 rw[fS,oT (iF h h'),if_neg Bool.false_ne_true,hb]
theorem v7{op:Operator}(h0:η[i]?=some (some u))(h:evx F e σ η=some (v,σ₁))(h2:cx1 op u v=some w):exs F (.seq (.aug i op e) R) σ η=exs F R σ₁ (η.set i (some w)):=aE (hU1 h0 h h2)
end
noncomputable def gη(P t:List Nat)(k p e:Nat)(w:V):ac:=[some (.str P),some (.str t),some (.ref k),some (.int (p:Int)),some (.int (e:Int)),some w]
noncomputable def gh1:Sx:=(.seq (.ite (.cmp .Gt (.loc 3) (.loc 4)) (.seq (.ret (.cst (.bool false))) .skip) .skip) (.seq (.for_ (.loc 5) (.loc 2) eB) (.seq (.ret (.cst (.bool true))) .skip)))
section
variable {F:Fn} {σ:List AO} {P t w:List Nat} {k p e:Nat}
theorem e21(h:Txt.contains (S' P) (S' cD)=true):hR .NotIn σ (.str cD) (.str P)=some false:=congrArg (λb=>some (!b)) h
theorem wg{W:List (List Nat)}(h:(Txt.split (S' P) (S' cD)).map (λz=>z.cps.toList)=W)(hl:W.length<=1000)(hw:∀ w∈W,w.length<=1000){η:ac}(h0:η[0]?=some (some (.str P))):evx F (.split (.loc 0) (.glo cD)) σ η=some (.ref σ.length,σ++[⟨W.map V.str,none⟩]):=by
 rw[yd,ah h0]
 show (if cD≠[]/\(Txt.split (S' P) (S' cD)).length<=lim/\(Txt.split (S' P) (S' cD)).all (λz=>decide (z.cps.toList.length<=lim))=true then
     some (V.ref σ.length,σ++[⟨(Txt.split (S' P) (S' cD)).map λz=>V.str z.cps.toList,none⟩]) else none)=_
 have e:(Txt.split (S' P) (S' cD)).length=W.length:=by rw[← h,List.length_map]
 rw[if_pos ⟨by decide,by rw[e];exact Nat.le_trans hl (by decide),List.all_eq_true.mpr λz hz=>decide_eq_true (Nat.le_trans (hw _ (h▸List.mem_map.mpr ⟨z,hz,rfl⟩)) (by decide))⟩,← h,List.map_map]
 rfl
end
theorem xu(t w:List Nat):Txt.endswith (S' t) (S' w)=(decide (w.length<=t.length)&&(t.drop (t.length - w.length)==w)):=by
 unfold Txt.endswith
 have h1:(S' w).length=w.length:=by show w.toArray.size=_;simp
 have h2:(S' t).length=t.length:=by show t.toArray.size=_;simp
 rw[subAt_eq,h1,h2]
 show (decide (0+w.length<=t.length)&&((t.drop (t.length - w.length)).take w.toArray.size==w))=_
 rw[Nat.zero_add,List.size_toArray]
 by_cases h:w.length<=t.length
 ·rw[decide_eq_true h,List.take_of_length_le (by rw[List.length_drop];lia)]
 ·rw[decide_eq_false h];rfl
theorem yl{w:List Nat}(h:w≠[]):aW (.str w)=some true:=by cases w with | nil=>exact absurd rfl h | cons a l=>rfl
section
variable {F:Fn} {σ:List AO} {P t w:List Nat} {X Y:V}
noncomputable def eσ(σ:List AO)(l:List V):List AO:=σ++[⟨l,none⟩]
theorem eg{l:List V}:(eσ σ l)[σ.length]?=some ⟨l,none⟩:=by unfold eσ;simp
theorem qr{l m:List V}:(eσ σ l).set σ.length ⟨m,none⟩=eσ σ m:=by unfold eσ;simp
theorem iZ1{l:List V}{x:V}:dH (eσ σ (x::l)) (.ref σ.length) (.int 0)=some x:=yf (j:=0) (by decide) (dX eg) (bE (by decide) (by simp))
theorem iY1{l:List V}{x:V}:dH (eσ σ (l++[x])) (.ref σ.length) (.int (-1))=some x:=(yf (j:=l.length) (by decide) (dX eg) ((g7 (by decide) (by rw[List.length_append,List.length_singleton];lia)).trans (congrArg some (by rw[List.length_append,List.length_singleton];lia)))).trans (by simp)
noncomputable def hη(P t:List Nat)(k:Nat):ac:=[some (.str P),some (.str t),some (.ref k),some (.int 0),some (.int (t.length:Nat)),none]
end
section
variable {F:Fn} {σ σ₁ σ₂:List AO} {η:ac} {e a b:Ex} {S R:Sx} {v w x y:V} {vs:List V} {i:Nat}
theorem ab1:evx F (.new .nil) σ η=some (.ref σ.length,σ++[⟨[],none⟩]):=rfl
theorem a8{i:Nat}{x:AO}{ex:List AO}(h:σ[i]?=some x):(σ++ex)[i]?=some x:=by rw[List.getElem?_append_left (List.getElem?_eq_some_iff.mp h).1];exact h
theorem bH{i j:Nat}{x y:AO}(h:σ[i]?=some x)(hij:j≠i):(σ.set j y)[i]?=some x:=by rw[List.getElem?_set_ne hij];exact h
theorem dj{i:Nat}{x y:AO}(h:σ[i]?=some x):(σ.set i y)[i]?=some y:=by rw[List.getElem?_set_self (List.getElem?_eq_some_iff.mp h).1]
end
noncomputable def fnd(t w:List Nat)(p e:Nat):Option Nat:=(occurrences (S' t) (S' w) p e 1).head?
noncomputable def wQ(t:List Nat)(e:Nat):List (List Nat)->Nat->Bool
 | [],_=>true
 | w::r,p=>match fnd t w p e with
  | some q=>wQ t e r (q+w.length)
  | none=>false
noncomputable def gg1(t:List Nat)(e:Nat)(W:List (List Nat))(p:Nat):Bool:=decide (p<=e)&&wQ t e W p
noncomputable def hB1(t:List Nat)(W:List (List Nat))(p:Nat):Bool:=if W.getLast?.getD []=[] then gg1 t t.length W p else if Txt.endswith (S' t) (S' (W.getLast?.getD []))=true then gg1 t (t.length - (W.getLast?.getD []).length) W.dropLast p else false
noncomputable def jo1(t:List Nat)(W:List (List Nat)):Bool:=if W.headD []=[] then hB1 t W 0 else if Txt.startswith (S' t) (S' (W.headD []))=true then hB1 t W.tail (W.headD []).length else false
theorem aJ1{σ:List AO}{t w:List Nat}{p e:Nat}(h:e<=t.length):meF .find3 σ (.str t) [.str w,.int (p:Int),.int (e:Int)]=some (.int (match fnd t w p e with | some q=>(q:Int) | none=>-1)):=by
 show (if (0:Int)<=(p:Int)/\(0:Int)<=(e:Int)/\(e:Int)<=(t.length:Nat) then some (V.int (match occurrences (S' t) (S' w) (p:Int).toNat (e:Int).toNat 1 with | k::_=>(k:Int) | []=>-1)) else none)=_
 rw[if_pos ⟨Int.natCast_nonneg _,Int.natCast_nonneg _,Int.ofNat_le.mpr h⟩,Int.toNat_natCast,Int.toNat_natCast]
 unfold fnd
 cases occurrences (S' t) (S' w) p e 1 <;> rfl
section
variable {F:Fn} {σ:List AO} {P t w:List Nat} {k p e:Nat} {u:V}
theorem gj1{q:Nat}(hf:fnd t w p e=some q)(h:e<=t.length):exs F eB σ (gη P t k p e (.str w))=some (.next,σ,gη P t k (q+w.length) e (.str w)):=by
 have f:=aJ1 (σ:=σ) (w:=w) (p:=p) h
 rw[hf] at f
 refine(bF (xY (ah rfl) rfl (az (ah rfl) (az (ah rfl) (az (ah rfl) fg))) f)).trans ?_
 refine(jI (a0 (ah rfl) aj (mv.trans (congrArg some (decide_eq_false (by dsimp only;lia)))))).trans ?_
 exact(v7 (w:=.int ((q+w.length:Nat):Int)) rfl (mJ (aI (ah rfl)) l6) rfl).trans a9
theorem cM1(hf:fnd t w p e=none)(h:e<=t.length):∃ η',exs F eB σ (gη P t k p e (.str w))=some (.ret (.bool false),σ,η'):=by
 have f:=aJ1 (σ:=σ) (w:=w) (p:=p) h
 rw[hf] at f
 exact⟨_,(bF (xY (ah rfl) rfl (az (ah rfl) (az (ah rfl) (az (ah rfl) fg))) f)).trans (kr (a0 (ah rfl) aj (mv.trans (congrArg some (decide_eq_true (by dsimp only;lia))))) rfl (fY aj))⟩
theorem r4{W:List (List Nat)}(hk:σ[k]?=some ⟨W.map V.str,none⟩)(h:e<=t.length):∀ (r:List (List Nat)) (j p:Nat) (u:V) (n:Nat),r.length<n->W.drop j=r ->
  ∃ x η',foN (.loc 5) (λσ η=>exs F eB σ η) n (.dyn k j) σ (gη P t k p e u)=some (x,σ,η')/\x=(if wQ t e r p=true then .next else .ret (.bool false))
 | r,j,p,u,0,h,_=>absurd h (Nat.not_lt_zero _)
 | [],j,p,u,n+1,_,hd=>by
  refine fw1 .next (gη P t k p e u) (l3 ?_) rfl
  rw[ItS.step_dyn,hk]
  dsimp only
  have:(W.map V.str)[j]?=none:=by rw[List.getElem?_eq_none_iff,List.length_map];exact List.drop_eq_nil_iff.mp hd
  rw[this]
 | w::r,j,p,u,n+1,hn,hd=>by
  have hj:W[j]?=some w:=by
   have:=congrArg (λl=>l[0]?) hd
   simpa using this
  have hd':W.drop (j+1)=r:=by
   have:=congrArg (List.drop 1) hd
   rw[List.drop_drop] at this
   exact this
  have st:(ItS.dyn k j).step σ=some (some (.str w,.dyn k (j+1))):=by
   rw[ItS.step_dyn,hk]
   dsimp only
   rw[List.getElem?_map,hj];rfl
  rw[e8 st (η₁:=gη P t k p e (.str w)) rfl]
  unfold wQ
  cases hf:fnd t w p e with
  | none =>
   refine a4 (cM1 (F:=F) (σ:=σ) (P:=P) (k:=k) hf h) λη' b=>?_
   refine(b)▸?_
   exact fw1 _ η' rfl rfl
  | some q =>
   refine(gj1 hf h)▸?_
   exact r4 hk h r (j+1) (q+w.length) (.str w) n (by simpa using hn) hd'
theorem gf1{W:List (List Nat)}(hk:σ[k]?=some ⟨W.map V.str,none⟩)(h:e<=t.length):∃ η',exs F gh1 σ (gη P t k p e u)=some (.ret (.bool (gg1 t e W p)),σ,η'):=by
 by_cases hp:p<=e
 ·refine byQ λQ kQ=>?_
  have fu:(ItS.dyn k 0).fuel σ=W.length+1:=by
   show (match σ[k]? with | some ⟨items,_⟩=>items.length+1 | none=>0)=_
   refine(hk)▸?_
   exact congrArg (·+1) (List.length_map _)
  refine zc (r4 (F:=F) (P:=P) (k:=k) (p:=p) (u:=u) hk h W 0 (W.length+1) (Nat.lt_succ_self _) rfl) λx η' e1 e2=>?_
  have fo:exs F (.for_ (.loc 5) (.loc 2) eB) σ (gη P t k p e u)=some (x,σ,η'):=(yc (ah rfl) rfl).trans (by exact(fu)▸(e1))
  refine kQ ?_
  unfold gg1
  rw[decide_eq_true hp,Bool.true_and]
  cases hl:wQ t e W p with
  | true =>
   rw[hl,if_pos rfl] at e2
   subst e2
   exact⟨η',(jI (a0 (ah rfl) (ah rfl) (qK.trans (congrArg some (decide_eq_false (by omega)))))).trans ((aE fo).trans (fY aj))⟩
  | false =>
   rw[hl,if_neg Bool.false_ne_true] at e2
   subst e2
   refine⟨η',(jI (a0 (ah rfl) (ah rfl) (qK.trans (congrArg some (decide_eq_false (by omega)))))).trans ?_⟩
   rw[fS,fo]
 ·unfold gg1
  rw[decide_eq_false hp,Bool.false_and]
  exact⟨_,kr (a0 (ah rfl) (ah rfl) (qK.trans (congrArg some (decide_eq_true (by omega))))) rfl (fY aj)⟩
noncomputable def gi1:Sx:=(.seq (.asg 5 (.idx (.loc 2) (.neg (.cst (.int 1)))))
 (.seq (.ite (.loc 5) (.seq (.ite (.me .endswith (.loc 1) (.cons (.loc 5) .nil)) (.seq (.aug 4 .Sub (.bf .len (.cons (.loc 5) .nil)))
 (.seq (.del (.loc 2) (-1))
 .skip)) (.seq (.ret (.cst (.bool false)))
 .skip))
 .skip) .skip)
 gh1))
noncomputable def kη(P t:List Nat)(k p e:Nat)(u:Option V):ac:=[some (.str P),some (.str t),some (.ref k),some (.int (p:Int)),some (.int (e:Int)),u]
theorem tG{W:List (List Nat)}(h:W≠[]):W=W.dropLast++[W.getLast?.getD []]:=by
 refine(List.getLast?_eq_some_getLast h)▸?_
 exact(List.dropLast_concat_getLast h).symm
theorem gp1{W:List (List Nat)}{u:Option V}(hW:W≠[]):∃ ex η',exs F gi1 (eσ σ (W.map V.str)) (kη P t σ.length p t.length u)=some (.ret (.bool (hB1 t W p)),σ++ex,η'):=by
 have ls:=tG hW
 generalize hw:W.getLast?.getD []=w at ls
 have lx:dH (eσ σ (W.map V.str)) (.ref σ.length) (.int (-1))=some (.str w):=by
  rw[ls,List.map_append]
  exact iY1 (l:=W.dropLast.map V.str) (x:=.str w)
 have a:exs F (.asg 5 (.idx (.loc 2) (.neg (.cst (.int 1))))) (eσ σ (W.map V.str)) (kη P t σ.length p t.length u)=some (.next,eσ σ (W.map V.str),gη P t σ.length p t.length (.str w)):=oU (bu (ah rfl) (x9 aj) lx)
 unfold hB1
 rw[hw]
 by_cases h0:w=[]
 ·rw[if_pos h0]
  refine a4 (gf1 (F:=F) (σ:=eσ σ (W.map V.str)) (P:=P) (t:=t) (k:=σ.length) (p:=p) (e:=t.length) (u:=.str w) eg (Nat.le_refl _)) λη' h=>?_
  exact cf1 _ η' ((aE a).trans ((eP1 (ah rfl) (by rw[h0];rfl)).trans h))
 ·rw[if_neg h0]
  have me:evx F (.me .endswith (.loc 1) (.cons (.loc 5) .nil)) (eσ σ (W.map V.str)) (gη P t σ.length p t.length (.str w))=some (.bool (Txt.endswith (S' t) (S' w)),eσ σ (W.map V.str)):=xY (ah rfl) rfl (aI (ah rfl)) rfl
  cases hb:Txt.endswith (S' t) (S' w) with
  | false =>
   rw[hb] at me
   rw[if_neg Bool.false_ne_true]
   exact cf1 _ _ ((aE a).trans (kr (ah rfl) (yl h0) (at1 me rfl (fY aj))))
  | true =>
   rw[hb] at me
   rw[if_pos rfl]
   have hle:w.length<=t.length:=by
    rw[xu] at hb
    exact of_decide_eq_true (ao hb).1
   have del:=dD1 (F:=F) (σ:=eσ σ (W.map V.str)) (η:=gη P t σ.length p (t.length - w.length) (.str w)) (o:=.loc 2) (i:=-1) (j:=W.dropLast.length) (l:=W.map V.str) (ah rfl) eg (by decide) (by
    rw[List.length_map]
    conv=>lhs;rw[ls]
    rw[List.length_append,List.length_singleton]
    exact(g7 (by decide) (by lia)).trans (congrArg some (by lia)))
   have er:(W.map V.str).eraseIdx W.dropLast.length=W.dropLast.map V.str:=by
    conv=>lhs;rw[ls]
    rw[List.map_append,← ls,List.eraseIdx_append_of_length_le (by rw[List.length_map];exact Nat.le_refl _),List.length_map,Nat.sub_self]
    exact List.append_nil _
   rw[er,qr] at del
   have sub:cx1 .Sub (.int (t.length:Nat)) (.int (w.length:Nat))=some (.int ((t.length - w.length:Nat):Int)):=by
    show some (V.int ((t.length:Int) - (w.length:Int)))=_
    rw[Int.ofNat_sub hle]
   refine a4 (gf1 (F:=F) (σ:=eσ σ (W.dropLast.map V.str)) (P:=P) (t:=t) (k:=σ.length) (p:=p) (e:=t.length - w.length) (u:=.str w) eg (Nat.sub_le _ _)) λη' h=>?_
   exact cf1 _ η' ((aE a).trans ((fZ (ah rfl) (yl h0) ((fZ me rfl ((v7 rfl (mJ (aI (ah rfl)) l6) sub).trans ((aE del).trans a9))).trans a9)).trans h))
theorem cL1{W:List (List Nat)}(hc:Txt.contains (S' P) (S' cD)=true)(hW:(Txt.split (S' P) (S' cD)).map (λz=>z.cps.toList)=W)(h2:2<=W.length)(hl:W.length<=1000)(hw:∀ w∈W,w.length<=1000) :
  ∃ ex,mK F 2 4 aZ [.str P,.str t] σ=some (.bool (jo1 t W),σ++ex):=by
 cases W with
 | nil=>exact absurd h2 (Nat.not_succ_le_zero 1)
 | cons w W =>
 have hW':W≠[]:=by
  intro e
  rw[e] at h2
  exact absurd h2 (show ¬ 2<=1 by decide)
 have head:∀ {x:Fl} {σ':List AO} {η':ac},exs F (.seq (.asg 5 (.idx (.loc 2) (.cst (.int 0))))
 (.seq (.ite (.loc 5) (.seq (.ite (.me .startswith (.loc 1) (.cons (.loc 5) .nil)) (.seq (.asg 3 (.bf .len (.cons (.loc 5) .nil)))
 (.seq (.del (.loc 2) (0))
 .skip)) (.seq (.ret (.cst (.bool false)))
 .skip))
 .skip) .skip)
 gi1)) (eσ σ ((w::W).map V.str)) (hη P t σ.length)=some (x,σ',η')->exs F aZ σ (aU [.str P,.str t] 4)=some (x,σ',η'):=λh =>
  (jI (a0 rfl (ah rfl) (e21 hc))).trans ((bF (wg hW hl hw rfl)).trans ((eS1 (uI (mJ (aI (ah rfl)) (xz eg)) aj (zU.trans (congrArg some (decide_eq_true (by rw[List.length_map];lia)))))).trans
  ((eU1 (gu (az aj (aI (mJ (aI (ah rfl)) l6))) (show 2<=lim by decide))).trans h)))
 have a:exs F (.asg 5 (.idx (.loc 2) (.cst (.int 0)))) (eσ σ ((w::W).map V.str)) (hη P t σ.length)=some (.next,eσ σ ((w::W).map V.str),gη P t σ.length 0 t.length (.str w)):=oU (bu (ah rfl) aj iZ1)
 unfold jo1
 rw[List.headD_cons,List.tail_cons]
 by_cases h0:w=[]
 ·rw[if_pos h0]
  refine cC (gp1 (F:=F) (σ:=σ) (P:=P) (t:=t) (p:=0) (W:=w::W) (u:=some (.str w)) (List.cons_ne_nil _ _)) λex η' h=>?_
  exact⟨ex,cr rfl (head ((aE a).trans ((eP1 (ah rfl) (by rw[h0];rfl)).trans h)))⟩
 ·rw[if_neg h0]
  have me:evx F (.me .startswith (.loc 1) (.cons (.loc 5) .nil)) (eσ σ ((w::W).map V.str)) (gη P t σ.length 0 t.length (.str w))=some (.bool (Txt.startswith (S' t) (S' w)),eσ σ ((w::W).map V.str)):=xY (ah rfl) rfl (aI (ah rfl)) rfl
  cases hb:Txt.startswith (S' t) (S' w) with
  | false =>
   replace me:=(hb)▸me
   refine(if_neg Bool.false_ne_true)▸?_
   exact⟨_,cr rfl (head ((aE a).trans (kr (ah rfl) (yl h0) (at1 me rfl (fY aj)))))⟩
  | true =>
   replace me:=(hb)▸me
   refine(if_pos rfl)▸?_
   have del:=dD1 (F:=F) (σ:=eσ σ ((w::W).map V.str)) (η:=gη P t σ.length w.length t.length (.str w)) (o:=.loc 2) (i:=0) (j:=0) (l:=(w::W).map V.str) (ah rfl) eg (by decide) (bE (by decide) (by simp))
   rw[show ((w::W).map V.str).eraseIdx 0=W.map V.str from rfl,qr] at del
   refine cC (gp1 (F:=F) (σ:=σ) (P:=P) (t:=t) (p:=w.length) (W:=W) (u:=some (.str w)) hW') λex η' h=>?_
   exact⟨ex,cr rfl (head ((aE a).trans ((fZ (ah rfl) (yl h0) ((fZ me rfl ((bF (mJ (aI (ah rfl)) l6)).trans ((aE del).trans a9))).trans a9)).trans h)))⟩
end
noncomputable def x7(P t:List Nat):Bool:=jo1 t ((Txt.split (S' P) (S' cD)).map λz=>z.cps.toList)
noncomputable def nZ(P:List Nat):Bool:=Txt.contains (S' P) (S' cD)&&(let W:=(Txt.split (S' P) (S' cD)).map λz=>z.cps.toList;decide (2<=W.length)&&decide (W.length<=1000)&&W.all λw=>decide (w.length<=1000))
theorem cK1{F:Fn}{σ:List AO}{P t:List Nat}(h:nZ P=true):∃ ex,mK F 2 4 aZ [.str P,.str t] σ=some (.bool (x7 P t),σ++ex):=by
 have h1:=ao h;have h2:=ao h1.2;have h3:=ao h2.1
 exact cL1 h1.1 rfl (of_decide_eq_true h3.1) (of_decide_eq_true h3.2) λw hw=>of_decide_eq_true (List.all_eq_true.mp h2.2 w hw)
noncomputable def da:List (List Nat):=[[],[97],[98],[98,97],[99],[99,97],[99,98],[99,98,97],[100],[100,97],[100,98],[100,98,97],[100,99],[100,99,97],[100,99,98],[100,99,98,97]]
noncomputable def sP:List Nat:=[100,99,98,97]
noncomputable def y8(n:List Nat):List Nat:=cD++bZ cD (n.map λc=>[c])++cD
noncomputable def cJ(n:List Nat):List Nat:=n.drop (n.length - 1)
theorem cc1:(da.all λn=>nZ (y8 n)&&x7 (y8 n) sP)=true:=by decide +kernel
theorem vp:(da.all λn=>(nZ (n++cD++cJ n)&&(x7 (n++cD++cJ n) n==n.isEmpty))&&(nZ (cD++cJ n++cD++cJ n)&&(x7 (cD++cJ n++cD++cJ n) n==n.isEmpty)))=true:=by decide +kernel
theorem ym:(da.all λn=>[97,98,99,100].all λc=>nZ (cD++[c])&&(x7 (cD++[c]) n==(n.getLast?==some c)))=true:=by decide +kernel
theorem zu:(da.all λn=>[97,98,99,100].all λc=>nZ (y8 (n++[c]))&&(x7 (y8 (n++[c])) sP==decide (c<n.getLast?.getD 1000)))=true:=by decide +kernel
section
variable {F:Fn} {σ:List AO}
theorem gE1{x y:Int}(h:x.natAbs<1000000000):qL .Mult (.int x) (.int y)=some (.int (x*y)):=if_pos h
theorem ou{k:Nat}(h:k<=1000):qL .Pow (.int 2) (.int (k:Int))=some (.int ((2:Int) ^ k)):=by
 show (if (2:Int).natAbs<1000000000/\0<=(k:Int)/\(k:Int)<=1000 then some (V.int ((2:Int) ^ (k:Int).toNat)) else none)=_
 rw[if_pos ⟨by decide,by lia,by lia⟩,Int.toNat_natCast]
noncomputable def nh(k m:Nat)(f y:Int):Int:=(f+(if k % 2=0 then y else 3 - y)*(((m:Int)+2 ^ k) / 2 ^ (k+1))) % 3
theorem we{k m:Nat}{f y:Int}(hk:k<=3)(hy:0<=y/\y<=3):mK F 4 1 d6 [.int (k:Int),.int (m:Int),.int f,.int y] σ=some (.int (nh k m f y),σ):=by
 have p1:(1:Int)<=2 ^ (k+1)/\(2:Int) ^ (k+1)<1000000000:=by
  have:k=0\/k=1\/k=2\/k=3:=by lia
  rcases this with rfl | rfl | rfl | rfl <;> decide
 have st:evx F (.ite (.cmp .Eq (.bin .Mod (.loc 0) (.cst (.int 2))) (.cst (.int 0))) (.loc 3) (.bin .Sub (.cst (.int 3)) (.loc 3))) σ [some (.int (k:Int)),some (.int (m:Int)),some (.int f),some (.int y),none]=some (.int (if k % 2=0 then y else 3 - y),σ):=by
  refine(du1 (a0 (aD (ah rfl) aj (cX (by decide))) aj ip)).trans ?_
  by_cases h:k % 2=0
  ·rw[decide_eq_true (by lia),if_pos rfl,if_pos h]
   exact ah rfl
  ·rw[decide_eq_false (by lia),if_neg Bool.false_ne_true,if_neg h]
   exact aD aj (ah rfl) mx
 generalize hs:(if k % 2=0 then y else 3 - y)=s at st
 have hs':s.natAbs<1000000000:=by
  refine(hs)▸?_
  split <;> lia
 refine cr rfl ((bF st).trans (fY ?_))
 unfold nh
 rw[hs]
 refine aD (aD (ah rfl) (aD (ah rfl) (aD (aD (ah rfl) (aD aj (ah rfl) (ou (by lia))) dY) (aD aj (aD (y:=.int 1) (ah rfl) aj rfl) (ou (k:=k+1) (by lia))) (cP p1.1 p1.2)) (gE1 hs')) dY) aj (cX (by decide))
noncomputable def lO(ps:List Nat)(st:Int×Int)(d:Nat):Int×Int:=(if (ps.getD d 0:Int)=st.2 then st.1 else st.1+2 ^ d,(-((ps.getD d 0:Int)+st.2)) % 3)
noncomputable def dQ(ps:List Nat)(g:Int):Int:=([3,2,1,0].foldl (lO ps) (0,g)).1
noncomputable def gc:List Nat:=[3,2,1,0]
theorem rB{η:ac}:evx F jJ σ η=some (.tup (gc.map λ(k:Nat)=>V.int (k:Int)),σ):=gu (az aj (az aj (az aj (az aj fg)))) (show 4<=lim by decide)
theorem aP1{x y:Int}:hR .NotEq σ (.int x) (.int y)=some (!decide (x=y)):=xM
theorem wS{ps:List Nat}{d:Nat}{st:Int×Int}(hp:ps.length=4)(hd:d<=3):exs F bl1 σ [some (.lst (ag ps)),some (.int st.2),some (.int st.1),some (.int (d:Int))]=some (.next,σ,[some (.lst (ag ps)),some (.int (lO ps st d).2),some (.int (lO ps st d).1),some (.int (d:Int))]):=by
 have ix:∀ {a b:Option V},evx F (.idx (.loc 0) (.loc 3)) σ [some (.lst (ag ps)),a,b,some (.int (d:Int))]=some (.int (ps.getD d 0:Nat),σ):=λ{a b}=>bu (ah rfl) (ah rfl) (eS (by lia) (by lia))
 have nx:∀ {b:Int},exs F (.seq (.asg 1 (.bin .Mod (.neg (.bin .Add (.idx (.loc 0) (.loc 3)) (.loc 1))) (.cst (.int 3)))) .skip) σ [some (.lst (ag ps)),some (.int st.2),some (.int b),some (.int (d:Int))]=some (.next,σ,[some (.lst (ag ps)),some (.int (lO ps st d).2),some (.int b),some (.int (d:Int))]):=λ{b} =>
  (bF (aD (x9 (aD ix (ah rfl) dY)) aj (cX (by decide)))).trans a9
 by_cases h:(ps.getD d 0:Int)=st.2
 ·rw[show (lO ps st d).1=st.1 from if_pos h]
  exact(jI (a0 ix (ah rfl) (aP1.trans (congrArg (λb=>some (!b)) (decide_eq_true h))))).trans nx
 ·rw[show (lO ps st d).1=st.1+2 ^ d from if_neg h]
  exact(fZ (a0 ix (ah rfl) (aP1.trans (congrArg (λb=>some (!b)) (decide_eq_false h)))) rfl ((v7 (w:=.int (st.1+2 ^ d)) rfl (aD aj (ah rfl) (ou (by lia))) rfl).trans a9)).trans nx
theorem zv{ps:List Nat}{g:Int}(hp:ps.length=4):mK F 2 2 fe [.lst (ag ps),.int g] σ=some (.int (dQ ps g),σ):=by
 refine byQ λQ kQ=>?_
 obtain ⟨σ',η',h2,q⟩:=fG (F:=F) (i:=3) (it:=jJ) (b:=bl1) (σ:=σ) (η:=[some (.lst (ag ps)),some (.int g),some (.int 0),none]) (l:=gc.map λ(k:Nat)=>V.int (k:Int))
  (λl σ' η'=>∃ (r:List Nat) (st:Int×Int) (u:Option V),(∀ d∈r,d<=3)/\l=r.map (λ(k:Nat)=>V.int (k:Int))/\r.foldl (lO ps) st=[3,2,1,0].foldl (lO ps) (0,g)/\σ'=σ/\η'=[some (.lst (ag ps)),some (.int st.2),some (.int st.1),u])
  rB rfl ⟨[3,2,1,0],(0,g),none,by decide,rfl,rfl,rfl,rfl⟩ (λx l σ' η' ⟨r,st,u,hr,el,ef,eσ,eη⟩=>by
   cases r with
   | nil=>cases el
   | cons d r =>
    rw[List.map_cons] at el
    injection el with e1 e2
    subst e1 eη eσ
    exact⟨_,_,wS hp (hr d List.mem_cons_self),r,lO ps st d,_,λi hi=>hr i (List.mem_cons_of_mem _ hi),e2,ef,rfl,rfl⟩)
 refine iJ1 (q) λr st u hr el ef eσ eη=>?_
 have hrn:r=[]:=by cases r with | nil=>rfl | cons _ _=>cases el
 subst hrn eσ eη
 refine kQ ?_
 refine cr rfl ((bF aj).trans ((aE h2).trans (fY ((ah (v:=.int st.1) rfl).trans ?_))))
 unfold dQ
 rw[← ef];rfl
end
noncomputable def mrk(n:Nat):List Nat:=List.replicate n 34
noncomputable def cR(n s:Nat):List Nat:=(mrk n++[s])++(mrk n++[s])
theorem px:∀ n:Nat,uA [34] n=mrk n
 | 0=>rfl
 | n+1=>by
  show [34]++uA [34] n=_
  rw[px n];rfl
theorem pv{s:Nat}(hs:s≠34)(l:List Nat):∀ c:Nat,ct (mrk (2*c)++s::l)=mrk c++s::ct l
 | 0=>vZ l hs
 | c+1=>by
  show ct (34::34::(mrk (2*c)++s::l))=34::(mrk c++s::ct l)
  rw[lE,pv hs l c]
theorem aq1{s:Nat}(hs:s≠34)(l:List Nat):∀ c:Nat,ct (mrk (2*c+1)++s::l)=mrk c
 | 0=>kq l hs
 | c+1=>by
  show ct (34::34::(mrk (2*c+1)++s::l))=34::mrk c
  rw[lE,aq1 hs l c]
noncomputable def ey(j:Nat):List Nat:=[[34],[],[34,32,122]].getD (j % 3) []
theorem sQ(j:Nat):ey j=[34]\/ey j=[]\/ey j=[34,32,122]:=by
 have:j % 3=0\/j % 3=1\/j % 3=2:=by lia
 unfold ey
 rcases this with e | e | e <;> refine(e)▸?_
 ·exact .inl rfl
 ·exact .inr (.inl rfl)
 ·exact .inr (.inr rfl)
theorem rJ(j:Nat):ct (ey j)=[]/\(ey j).length<=3:=by
 rcases sQ j with e | e | e <;> rw[e] <;> exact⟨rfl,by decide⟩
theorem vr{s:Nat}(hs:s≠34)(c j:Nat):ct (cR (2*c) s++ey j)=cR c s:=by
 unfold cR
 rw[show (mrk (2*c)++[s])++(mrk (2*c)++[s])++ey j=mrk (2*c)++s::(mrk (2*c)++s::ey j) by simp,pv hs,pv hs,(rJ j).1]
 simp
theorem yn{s:Nat}(hs:s≠34)(c j:Nat):ct (cR (2*c+1) s++ey j)=mrk c:=by
 unfold cR
 rw[show (mrk (2*c+1)++[s])++(mrk (2*c+1)++[s])++ey j=mrk (2*c+1)++s::(mrk (2*c+1)++s::ey j) by simp,aq1 hs]
theorem iJ(n s:Nat):(cR n s).length=2*n+2:=by
 unfold cR mrk
 simp only[List.length_append,List.length_replicate,List.length_singleton]
 lia
section
variable {F:Fn} {σ:List AO} {n s c j:Nat}
theorem vq{η:ac}{e:Ex}(he:evx F e σ η=some (.int (c:Int),σ))(h1:η[1]?=some (some (.str [s])))(hc:c<=100):evx F (.bin .Mult (.bin .Add (.bin .Mult (.cst (.str [34])) e) (.loc 1)) (.cst (.int 2))) σ η=some (.str (cR c s),σ):=by
 have a:qL .Mult (.str [34]) (.int (c:Int))=some (.str (mrk c)):=by
  rw[kO,if_pos ⟨by omega,by lia,by rw[Int.toNat_natCast];unfold lim;show 1*c<=1000000;lia⟩,Int.toNat_natCast,px]
 have lm:(mrk c).length=c:=List.length_replicate
 refine aD (aD (aD aj he a) (ah h1) (bO.trans (if_pos (by rw[lm];unfold lim;show c+1<=1000000;lia)))) aj ?_
 rw[kO,if_pos ⟨by decide,by decide,by rw[List.length_append,lm];unfold lim;show (c+1)*2<=1000000;lia⟩]
 show some (V.str ((mrk c++[s])++((mrk c++[s])++[])))=_
 rw[List.append_nil];rfl
noncomputable def rη(n s:Nat)(t:List Nat)(u:Option V):ac:=[some (.int (n:Int)),some (.str [s]),some (.str t),u]
theorem aG1{t:List Nat}(hj:j<=4):evx F dM1 σ (rη n s t (some (.int (j:Int))))=some (.int ((n / 2 ^ (j+1):Nat):Int),σ):=by
 have p1:(1:Int)<=2 ^ (j+1)/\(2:Int) ^ (j+1)<1000000000:=by
  have:j=0\/j=1\/j=2\/j=3\/j=4:=by lia
  rcases this with rfl | rfl | rfl | rfl | rfl <;> decide
 rw[Int.natCast_ediv,Int.natCast_pow]
 exact aD (ah rfl) (aD aj (aD (y:=.int 1) (ah rfl) aj rfl) (ou (k:=j+1) (by lia))) (cP p1.1 p1.2)
theorem wh(K:FnOk F){t:List Nat}(ht:t.length<=300):evx F (.call 2 (.cons (.bin .Add (.bin .Add (.cst (.str [50,53,55,32,34])) (.loc 2)) (.idx (.tup (.cons (.cst (.str [34])) (.cons (.cst (.str [])) (.cons (.cst (.str [34,32,122])) .nil)))) (.bin .Mod (.loc 3) (.cst (.int 3))))) .nil)) σ (rη n s t (some (.int (j:Int))))=some (.str (ct (t++ey j)),σ):=by
 have te:=rJ j
 have p:=K.parse σ (t++ey j) (by rw[List.length_append];omega)
 rw[← List.append_assoc] at p
 have ti:dH σ (.tup [.str [34],.str [],.str [34,32,122]]) (.int ((j:Int) % 3))=some (.str (ey j)):=by
  have:j % 3=0\/j % 3=1\/j % 3=2:=by lia
  refine(show (j:Int) % 3=((j % 3:Nat):Int) by lia)▸?_
  unfold ey
  rcases this with e | e | e <;> rw[e] <;> rfl
 refine bc (aI (aD (aD aj (ah rfl) (bO.trans (if_pos ?_))) (bu (gu (az aj (az aj (az aj fg))) (show 3<=lim by decide)) (aD (ah rfl) aj (cX (by decide))) ti) (bO.trans (if_pos ?_)))) p
 ·unfold lim;show 5+t.length<=1000000;lia
 ·rw[List.length_append];unfold lim;show 5+t.length+(ey j).length<=1000000;lia
theorem vX(K:FnOk F)(hs:s≠34)(hj:j<=4)(hn:n<=100)(h:n / 2 ^ j=2*c):exs F s7 σ (rη n s (cR (2*c) s) (some (.int (j:Int))))=some (.next,σ,rη n s (cR c s) (some (.int (j:Int)))):=by
 have hc:n / 2 ^ (j+1)=c:=by rw[Nat.pow_succ,← Nat.div_div_eq_div_mul,h];lia
 have hl:2*c<=n:=h▸Nat.div_le_self _ _
 have p:=wh (F:=F) (σ:=σ) (n:=n) (s:=s) (j:=j) K (t:=cR (2*c) s) (by rw[iJ];lia)
 rw[vr hs] at p
 have e:=aG1 (F:=F) (σ:=σ) (n:=n) (s:=s) (t:=cR c s) hj
 rw[hc] at e
 exact(bF p).trans ((jI (a0 (ah rfl) (vq e rfl (by lia)) (j3.trans (congrArg (λb=>some (!b)) BEq.rfl)))).trans a9)
theorem yU(K:FnOk F)(hs:s≠34)(hj:j<=4)(hn:n<=100)(h:n / 2 ^ j=2*c+1):∃ η',exs F s7 σ (rη n s (cR (2*c+1) s) (some (.int (j:Int))))=some (.ret (.tup [.int (j:Int),.str (mrk c)]),σ,η'):=by
 have hc:n / 2 ^ (j+1)=c:=by rw[Nat.pow_succ,← Nat.div_div_eq_div_mul,h];lia
 have hl:2*c+1<=n:=h▸Nat.div_le_self _ _
 have p:=wh (F:=F) (σ:=σ) (n:=n) (s:=s) (j:=j) K (t:=cR (2*c+1) s) (by rw[iJ];omega)
 rw[yn hs] at p
 have e:=aG1 (F:=F) (σ:=σ) (n:=n) (s:=s) (t:=mrk c) hj
 rw[hc] at e
 have ne:(mrk c==cR c s)=false:=by
  rw[beq_eq_false_iff_ne]
  intro q
  have:=congrArg List.length q
  rw[iJ] at this
  unfold mrk at this
  rw[List.length_replicate] at this
  lia
 exact⟨_,(bF p).trans (kr (a0 (ah rfl) (vq e rfl (by omega)) (j3.trans (congrArg (λb=>some (!b)) ne))) rfl (fY (gu (az (ah rfl) (aI (ah rfl))) (show 2<=lim by decide))))⟩
theorem m7(K:FnOk F)(hs:s≠34)(hn:n<=100){v:Nat}(e:n=2 ^ v*(2*c+1))(hv:v<=4):∀ (d j:Nat) (u:Option V) (m:Nat),j+d=v->5 - j<m ->
  ∃ η',foN (.loc 3) (λσ η=>exs F s7 σ η) m (.seq (((List.range 5).drop j).map λ(k:Nat)=>V.int (k:Int))) σ (rη n s (cR (2 ^ d*(2*c+1)) s) u)=some (.ret (.tup [.int (v:Int),.str (mrk c)]),σ,η')
 | d,j,u,0,_,h=>absurd h (Nat.not_lt_zero _)
 | 0,j,u,m+1,hj,h=>by
  have hd:n / 2 ^ j=2*c+1:=by
   rw[e,← hj,Nat.add_zero]
   exact Nat.mul_div_cancel_left _ (Nat.two_pow_pos j)
  refine a4 (yU (F:=F) (σ:=σ) (j:=j) K hs (by omega) hn hd) λη' b=>?_
  have dr:(List.range 5).drop j=j::(List.range 5).drop (j+1):=by rw[List.drop_eq_getElem_cons (by rw[List.length_range];omega),List.getElem_range]
  rw[dr,List.map_cons,e8 (η₁:=rη n s (cR (2 ^ 0*(2*c+1)) s) (some (.int (j:Int)))) rfl rfl,Nat.pow_zero,Nat.one_mul,b,← hj]
  exact⟨η',rfl⟩
 | d+1,j,u,m+1,hj,h=>by
  have hd:n / 2 ^ j=2*(2 ^ d*(2*c+1)):=by
   rw[e,← hj,Nat.pow_add,Nat.mul_assoc,Nat.mul_div_cancel_left _ (Nat.two_pow_pos j),Nat.pow_succ,Nat.mul_comm (2 ^ d) 2,Nat.mul_assoc]
  have b:=vX (F:=F) (σ:=σ) (j:=j) K hs (by omega) hn hd
  have dr:(List.range 5).drop j=j::(List.range 5).drop (j+1):=by rw[List.drop_eq_getElem_cons (by rw[List.length_range];omega),List.getElem_range]
  have e2:2 ^ (d+1)*(2*c+1)=2*(2 ^ d*(2*c+1)):=by rw[Nat.pow_succ,Nat.mul_comm (2 ^ d) 2,Nat.mul_assoc]
  rw[dr,List.map_cons,e8 (η₁:=rη n s (cR (2 ^ (d+1)*(2*c+1)) s) (some (.int (j:Int)))) rfl rfl,e2,b]
  exact m7 K hs hn e hv d (j+1) _ m (by lia) (by omega)
theorem yT(K:FnOk F)(hs:s≠34)(hn:n<=100){v:Nat}(e:n=2 ^ v*(2*c+1))(hv:v<=4):mK F 2 2 fb [.int (n:Int),.str [s]] σ=some (.tup [.int (v:Int),.str (mrk c)],σ):=by
 refine a4 (m7 (F:=F) (σ:=σ) K hs hn e hv v 0 none 6 (Nat.zero_add v) (by decide)) λη' h=>?_
 rw[← e] at h
 have a:evx F (.bin .Mult (.bin .Add (.bin .Mult (.cst (.str [34])) (.loc 0)) (.loc 1)) (.cst (.int 2))) σ (aU [.int (n:Int),.str [s]] 2)=some (.str (cR n s),σ):=vq (ah rfl) rfl hn
 have f:exs F (.for_ (.loc 3) (.range (.cons (.cst (.int 5)) .nil)) s7) σ (rη n s (cR n s) none)=some (.ret (.tup [.int (v:Int),.str (mrk c)]),σ,η'):=(yc (bR (n:=5) aj (by decide)) (dg 5)).trans h
 refine cr (η₁:=η') rfl ((bF a).trans ?_)
 rw[fS]
 show (match exs F (.for_ (.loc 3) (.range (.cons (.cst (.int 5)) .nil)) s7) σ (rη n s (cR n s) none) with
  | some (.next,σ,η)=>_
  | r=>r)=_
 rw[f]
end
noncomputable def nR(c:Nat):List Nat:=if c=107 then [107,109] else [107,107]
noncomputable def jl(t:List Nat):List Nat:=(t.map nR).flatten
noncomputable def Low(z:List Nat):Prop:=∀ c∈z,hX c=true->(mN c).length<=lim
theorem Low.app{a b:List Nat}(h1:Low a)(h2:Low b):Low (a++b):=λc hc=>(List.mem_append.mp hc).elim (h1 c) (h2 c)
theorem d71:([(13262,[107,109]),(13261,[107,107])].all λp=>hX p.1&&(b3v p.1==p.2)&&decide ((mN p.1).length<=lim))=true:=by decide +kernel
theorem d61{c:Nat}(hc:c=107\/c=109):cF [if c=107 then 13262 else 13261]=nR c/\Low [if c=107 then 13262 else 13261]:=by
 have key:∀ p∈[(13262,[107,109]),(13261,[107,107])],cF [p.1]=p.2/\Low [p.1]:=λp hp=>by
  have h:=ao (List.all_eq_true.mp d71 p hp)
  have h2:=ao h.1
  refine⟨?_,λc hc _=>by rw[List.mem_singleton.mp hc];exact of_decide_eq_true h.2⟩
  unfold cF
  rw[List.filter_cons,if_pos h2.1]
  show [b3v p.1].flatten=p.2
  refine(beq_iff_eq.mp h2.2)▸?_
  exact List.append_nil _
 refine Or.elim (hc) (λh_l=>?_) (λh_r=>?_)
 ·subst h_l
  exact key (13262,[107,109]) List.mem_cons_self
 ·subst h_r
  exact key (13261,[107,107]) (List.mem_cons_of_mem _ List.mem_cons_self)
structure CallOk (F:Fn):Prop where
 fn:FnOk F
 prep:∀ (σ:List AO) {t:List Nat},t.length<=1000->Low t->(cF t).length<=lim->F 6 [.str t] σ=some (.str (cF t),σ)
section
variable {F:Fn} {σ:List AO}
noncomputable def fη(t:List Nat)(ws:List Int)(z:List Nat)(k x:Option V):ac:=[some (.str t),some (.lst (ws.map V.int)),some (.str z),k,x]
theorem ko1{η:ac}{t:List Nat}{k c:Nat}{a b:V}(h0:η[0]?=some (some (.str t)))(h3:η[3]?=some (some (.int (k:Int))))(hk:k<t.length)(hl:t.length<=1000)(hc:t[k]?=some c):evx F (.ite (.cmp .Eq (.idx (.loc 0) (.loc 3)) (.cst (.str [107]))) (.cst a) (.cst b)) σ η=some (if c=107 then a else b,σ):=by
 have ix:dH σ (.str t) (.int (k:Int))=some (.str [c]):=by rw[aY1 (Int.natCast_nonneg _) (by lia) (by lia),Int.toNat_natCast,hc];rfl
 refine(du1 (a0 (bu (ah h0) (ah h3) ix) aj oo)).trans ?_
 by_cases q:c=107
 ·rw[show ([c]==[107])=true by rw[q];rfl,if_pos rfl,if_pos q];exact aj
 ·rw[show ([c]==[107])=false from beq_eq_false_iff_ne.mpr (λe=>q (by injection e)),if_neg Bool.false_ne_true,if_neg q];exact aj
theorem xo(K:CallOk F){t z:List Nat}{ws:List Int}{k c:Nat}{u:Option V}(hk:k<t.length)(hl:t.length<=16)(hc:t[k]?=some c)(h7:c=107\/c=109)(hw:ws.length=7)(hz:z.length<=64) :
  ∃ y x',exs F bm1 σ (fη t ws z (some (.int (k:Int))) u)=some (.next,σ,fη t ws (z++y) (some (.int (k:Int))) x')/\cF y=nR c/\Low y/\y.length<=4:=by
 have e7:k % 7<7:=Nat.mod_lt _ (by decide)
 have a:evx F (.bin .FloorDiv (.idx (.loc 1) (.bin .Mod (.loc 3) (.cst (.int 7)))) (.bin .Add (.loc 3) (.cst (.int 1)))) σ (fη t ws z (some (.int (k:Int))) u)=some (.int (ws.getD (k % 7) 0 / ((k:Int)+1)),σ) :=
  aD (bu (ah rfl) (aD (ah rfl) aj ((cX (by decide)).trans (by rw[show (k:Int) % 7=((k % 7:Nat):Int) by lia]))) (mR (by lia) (by lia))) (aD (ah rfl) aj dY) (cP (by lia) (by lia))
 generalize ws.getD (k % 7) 0 / ((k:Int)+1)=x at a
 have addS:∀ {w:List Nat},w.length<=4->cx1 .Add (.str z) (.str w)=some (.str (z++w)):=λ{w} hw=>by
  exact if_pos ⟨rfl,by unfold lim;lia⟩
 by_cases hx:x % 2=0
 ·have sq:=d61 h7
  have i2:=ko1 (F:=F) (σ:=σ) (η:=fη t ws z (some (.int (k:Int))) (some (.int x))) (a:=.int 13262) (b:=.int 13261) rfl rfl hk (by lia) hc
  have ch:evx F xK2 σ (fη t ws z (some (.int (k:Int))) (some (.int x)))=some (.str [if c=107 then 13262 else 13261],σ):=by
   by_cases q:c=107
   ·rw[if_pos q] at i2 ⊢;exact mJ (aI i2) (nU (by decide) (by decide))
   ·rw[if_neg q] at i2 ⊢;exact mJ (aI i2) (nU (by decide) (by decide))
  exact zr _ (some (.int x)) ((bF a).trans ((fZ (a0 (aD (ah rfl) aj (cX (by decide))) aj (ip.trans (congrArg some (decide_eq_true hx)))) rfl ((v7 rfl ch (addS (show 1<=4 by decide))).trans a9)).trans a9)) sq.1 sq.2 (show 1<=4 by decide)
 ·refine byQ λQ kQ=>?_
  have i2:=ko1 (F:=F) (σ:=σ) (η:=fη t ws z (some (.int (k:Int))) (some (.int x))) (a:=.str [109]) (b:=.str [107]) rfl rfl hk (by lia) hc
  have m1:(107:Nat)∈ay1:=by decide
  obtain ⟨d,hd,hdl,hdf⟩:∃ d:Nat,(if c=107 then V.str [109] else V.str [107])=V.str [d]/\(d=109\/d=107)/\[107]++[d]=nR c:=by
   unfold nR
   by_cases q:c=107
   ·rw[if_pos q,if_pos q];exact⟨109,rfl,.inl rfl,rfl⟩
   ·rw[if_neg q,if_neg q];exact⟨107,rfl,.inr rfl,rfl⟩
  rw[hd] at i2
  have dm:d∈ay1/\97<=d/\d<=122:=by rcases hdl with rfl | rfl <;> decide
  have l1:=dK 107 (x / 2)
  have l2:=dK d (x / 3)
  have ch:evx F xKm σ (fη t ws z (some (.int (k:Int))) (some (.int x)))=some (.str (bB 107 (x / 2)++bB d (x / 3)),σ) :=
   aD (bc (az aj (aI (aD (ah rfl) aj (cP (by decide) (by decide))))) (K.fn.typed σ 107 (x / 2) (by decide) (by decide))) (bc (az i2 (aI (aD (ah rfl) aj (cP (by decide) (by decide))))) (K.fn.typed σ d (x / 3) dm.2.1 dm.2.2)) (bO.trans (if_pos (by unfold lim;omega)))
  have ln:(bB 107 (x / 2)++bB d (x / 3)).length<=4:=by rw[List.length_append];omega
  refine kQ ?_
  refine zr _ (some (.int x)) ((bF a).trans ((aE ((oT (iF (a0 (aD (ah rfl) aj (cX (by decide))) aj (ip.trans (congrArg some (decide_eq_false hx)))) rfl)).trans ((if_neg Bool.false_ne_true).trans ((v7 rfl ch (addS ln)).trans a9)))).trans a9)) ?_ (Low.app (i6 m1 _) (i6 dm.1 _)) ln
  rw[bW,gx m1,gx dm.1,hdf]
theorem zL(K:CallOk F){t:List Nat}{ws:List Int}(hl:t.length<=16)(h7:∀ c∈t,c=107\/c=109)(hw:ws.length=7):mK F 2 3 cQ [.str t,.lst (ws.map V.int)] σ=some (.str (jl t),σ):=by
 refine byQ λQ kQ=>?_
 obtain ⟨σ',η',h2,q⟩:=fG (F:=F) (i:=3) (it:=.range (.cons (.bf .len (.cons (.loc 0) .nil)) .nil)) (b:=bm1) (σ:=σ) (η:=fη t ws [] none none) (l:=(List.range t.length).map λ(k:Nat)=>V.int (k:Int))
  (λl σ' η'=>∃ (p r:List Nat) (z:List Nat) (k' x':Option V),t=p++r/\l=((List.range t.length).drop p.length).map (λ(k:Nat)=>V.int (k:Int))/\cF z=jl p/\Low z/\z.length<=4*p.length/\σ'=σ/\η'=fη t ws z k' x')
  (bR (n:=t.length) (mJ (aI (ah rfl)) l6) (by lia)) (dg _) ⟨[],t,[],none,none,rfl,rfl,rfl,nofun,Nat.le_refl _,rfl,rfl⟩ (λx l σ' η' ⟨p,r,z,k',x',e,el,ep,lo,zl,eσ,eη⟩=>by
   cases r with
   | nil =>
    rw[List.append_nil] at e
    rw[List.drop_of_length_le (by rw[List.length_range,e];exact Nat.le_refl _)] at el
    cases el
   | cons c r =>
    have hp:p.length<t.length:=by rw[e,List.length_append,List.length_cons];lia
    have dr:(List.range t.length).drop p.length=p.length::(List.range t.length).drop (p.length+1):=by rw[List.drop_eq_getElem_cons (by rw[List.length_range];exact hp),List.getElem_range]
    rw[dr,List.map_cons] at el
    injection el with e1 e2
    subst e1 eη eσ
    obtain ⟨y,x2,s,y1,y2,y3⟩:=xo (F:=F) (σ:=σ') (t:=t) (z:=z) (ws:=ws) (k:=p.length) (c:=c) (u:=x') K hp hl (by rw[e];simp) (h7 c (by rw[e];simp)) hw (by lia)
    refine⟨σ',_,s,p++[c],r,z++y,_,_,by rw[List.append_assoc];exact e,by rw[List.length_append];exact e2,?_,lo.app y2,by rw[List.length_append,List.length_append,List.length_singleton];lia,rfl,rfl⟩
    rw[bW,ep,y1]
    unfold jl
    rw[List.map_append,List.flatten_append,List.map_singleton,List.flatten_singleton])
 refine j41 (q) λp r z k' x' e el ep lo zl eσ eη=>?_
 have hr:r=[]:=by
  cases r with
  | nil=>rfl
  | cons c r =>
   have hp:p.length<t.length:=by rw[e,List.length_append,List.length_cons];lia
   rw[List.drop_eq_getElem_cons (by rw[List.length_range];exact hp)] at el
   cases el
 rw[hr,List.append_nil] at e
 subst e eσ eη
 have fl:(jl t).length<=2*t.length:=by
  unfold jl
  have key:∀ t:List Nat,((t.map nR).flatten).length<=2*t.length:=λt=>by
   induction t with
   | nil=>exact Nat.le_refl _
   | cons c t ih =>
    rw[List.map_cons,List.flatten_cons,List.length_append,List.length_cons]
    have:(nR c).length=2:=by unfold nR;split <;> rfl
    lia
  exact key t
 have pr:=K.prep σ' (t:=z) (by lia) lo (by rw[ep];unfold lim;lia)
 rw[ep] at pr
 refine kQ ?_
 exact cr rfl ((bF aj).trans ((aE h2).trans (fY (bc (aI (ah rfl)) pr))))
end
theorem kK{α:Type}{cond:List AO->ac->Option (Bool×List AO)}{elt:List AO->ac->Option (V×List AO)}{i:Nat}{σ:List AO}{g f:α->V}{p:α->Bool}:∀ (l:List α) (η:ac) (n:Nat),l.length<n ->
  (∀ x∈l,cond σ (η.set i (some (g x)))=some (p x,σ))->(∀ x∈l,elt σ (η.set i (some (g x)))=some (f x,σ))->cW (.loc i) cond elt n (.seq (l.map g)) σ η=some ((l.filter p).map f,σ)
 | l,η,0,h,_,_=>absurd h (Nat.not_lt_zero _)
 | [],η,n+1,_,_,_=>rfl
 | x::l,η,n+1,h,hc,he=>by
  have ih:=kK (cond:=cond) (elt:=elt) (i:=i) (σ:=σ) (g:=g) (f:=f) (p:=p) l (η.set i (some (g x))) n (by simpa using h) (λy hy=>by rw[List.set_set];exact hc y (List.mem_cons_of_mem _ hy)) (λy hy=>by rw[List.set_set];exact he y (List.mem_cons_of_mem _ hy))
  refine(List.map_cons)▸?_
  show (match cond σ (η.set i (some (g x))) with
   | none=>none
   | some (false,σ₁)=>cW (.loc i) cond elt n (.seq (l.map g)) σ₁ (η.set i (some (g x)))
   | some (true,σ₁)=>match elt σ₁ (η.set i (some (g x))) with
    | none=>none
    | some (v,σ₂)=>match cW (.loc i) cond elt n (.seq (l.map g)) σ₂ (η.set i (some (g x))) with
     | none=>none
     | some (out,aq)=>some (v::out,aq))=_
  refine(hc x List.mem_cons_self)▸?_
  cases hp:p x with
  | false =>
   rw[List.filter_cons,hp]
   exact ih
  | true =>
   dsimp only
   rw[he x List.mem_cons_self]
   dsimp only
   rw[ih,List.filter_cons,hp];rfl
theorem uV{F:Fn}{σ:List AO}{η:ac}{vars:List Var}{i:Nat}{elt it cond:Ex}{α:Type}{l:List α}{g f:α->V}{p:α->Bool}{x:V}(hit:evx F it σ η=some (x,σ))(hl:bh x=some (.seq (l.map g)))(hnil:cond≠.nil)
  (hc:∀ y∈l,evt F cond σ ((clr η vars).set i (some (g y)))=some (p y,σ)) (he:∀ y∈l,evx F elt σ ((clr η vars).set i (some (g y)))=some (f y,σ)) (hn:l.length<=lim) :
  evx F (.comp vars (.loc i) elt it cond) σ η=some (.lst ((l.filter p).map f),σ):=by
 rw[iG,hit]
 dsimp only
 refine(hl)▸?_
 dsimp only[ItS.fuel]
 rw[List.length_map,kK (f:=f) (p:=p) l (clr η vars) (l.length+1) (Nat.lt_succ_self _) (λy hy=>by
  have h:=hc y hy
  unfold evt at h
  cases cond <;> first | exact h | exact absurd rfl hnil) he]
 dsimp only
 rw[List.length_map,if_pos (Nat.le_trans (List.length_filter_le _ _) hn)]
noncomputable def lying(pl:List Nat)(p:Nat):List Nat:=gc.filter λk=>pl.getD k 0==p
noncomputable def nmL(ks:List Nat):List Nat:=ks.map (97+·)
noncomputable def item(ty:List (List Nat))(k:Nat):List Nat×List Nat:=([32],ty.getD k [])
noncomputable def aV(ty:List (List Nat))(ks:List Nat):List V:=(ks.map (item ty)).map cS
noncomputable def fJ(ty:List (List Nat))(ks:List Nat):List Nat:=(ks.map λk=>32::ty.getD k []).flatten
noncomputable def vE:List (List Nat):=[[],[0],[1],[1,0],[2],[2,0],[2,1],[2,1,0],[3],[3,0],[3,1],[3,1,0],[3,2],[3,2,0],[3,2,1],[3,2,1,0]]
structure TyOk (ty:List (List Nat)):Prop where
 len:ty.length=4
 prep:∀ k,k<4->cF (ty.getD k [])=[97+k]
 low:∀ k,k<4->Low (ty.getD k [])
 two:∀ k,k<4->(ty.getD k []).length<=2
 ok:∀ k,k<4->∀ c∈ty.getD k [],c<1114112
theorem ca(pl:List Nat)(p:Nat):lying pl p∈vE:=by
 unfold lying gc
 rw[List.filter_cons,List.filter_cons,List.filter_cons,List.filter_cons,List.filter_nil]
 cases pl.getD 3 0==p <;> cases pl.getD 2 0==p <;> cases pl.getD 1 0==p <;> cases pl.getD 0 0==p <;> decide
theorem fW{ks:List Nat}(h:ks∈vE):(∀ k∈ks,k<4)/\ks.length<=4:=by
 have key:(vE.all λks=>ks.all (·<4)&&decide (ks.length<=4))=true:=by decide
 have q:=ao (List.all_eq_true.mp key ks h)
 exact⟨λk hk=>of_decide_eq_true (List.all_eq_true.mp q.1 k hk),of_decide_eq_true q.2⟩
theorem wq{ks:List Nat}(h:ks∈vE):nmL ks∈da:=by
 have key:(vE.all λks=>da.contains (nmL ks))=true:=by decide
 exact List.contains_iff_mem.mp (List.all_eq_true.mp key ks h)
noncomputable def ea(ks:List Nat):List Nat:=(ks.map λk=>[32,97+k]).flatten
theorem bt1:(vE.all λks=>(Txt.replace (S' (ea ks)) (S' [32]) (S' [])).cps.toList==nmL ks)=true:=by decide +kernel
theorem k41:(hX 32&&(b3v 32==[32])&&decide ((mN 32).length<=lim))=true:=by decide +kernel
theorem fD:∀ l:List (List Nat×List Nat),eE (l.map cS)=some l
 | []=>rfl
 | x::l=>by
  show (wj (cS x)).bind (λp=>(eE (l.map cS)).map (p::·))=_
  rw[fD l];rfl
theorem su(ty:List (List Nat))(k:Nat)(ks:List Nat):fJ ty (k::ks)=32::(ty.getD k []++fJ ty ks):=by
 unfold fJ
 rw[List.map_cons,List.flatten_cons];rfl
section
variable {ty:List (List Nat)} (T:TyOk ty)
include T
theorem eM:∀ {ks:List Nat},(∀ k∈ks,k<4)->cF (fJ ty ks)=ea ks/\Low (fJ ty ks)/\(fJ ty ks).length<=3*ks.length/\∀ c∈fJ ty ks,c<1114112
 | [],_=>⟨rfl,nofun,Nat.le_refl _,nofun⟩
 | k::ks,h=>by
  have ih:=eM (ks:=ks) λj hj=>h j (List.mem_cons_of_mem _ hj)
  have hk:=h k List.mem_cons_self
  have s:=ao k41
  have s2:=ao s.1
  have p32:cF [32]=[32]:=by
   unfold cF
   rw[List.filter_cons,if_pos s2.1]
   show [b3v 32].flatten=_
   rw[beq_iff_eq.mp s2.2];rfl
  have l32:Low [32]:=λc hc _=>by rw[List.mem_singleton.mp hc];exact of_decide_eq_true s.2
  rw[su,show 32::(ty.getD k []++fJ ty ks)=[32]++(ty.getD k []++fJ ty ks) from rfl]
  refine⟨?_,l32.app ((T.low k hk).app ih.2.1),?_,λc hc=>?_⟩
  ·rw[bW,bW,p32,T.prep k hk,ih.1]
   unfold ea
   rw[List.map_cons,List.flatten_cons];rfl
  ·have:=T.two k hk
   have:=ih.2.2.1
   rw[List.length_append,List.length_append,List.length_singleton,List.length_cons];lia
  ·refine Or.elim (List.mem_append.mp hc) (λhc=>?_) (λhc=>?_)
   ·rw[List.mem_singleton.mp hc];decide
   ·refine Or.elim (List.mem_append.mp hc) (λhc=>?_) (λhc=>?_)
    ·exact T.ok k hk c hc
    ·exact ih.2.2.2 c hc
end
theorem c61(ty:List (List Nat))(ks:List Nat):(iC (ks.map (item ty))).flatten=fJ ty ks:=by
 unfold iC fJ
 rw[List.map_map];rfl
theorem rN(ty:List (List Nat)):∀ ks:List Nat,eh (ks.map (item ty))=((fJ ty ks).length:Int)
 | []=>rfl
 | k::ks=>by
  have ih:=rN ty ks
  rw[su]
  unfold eh at ih ⊢
  rw[List.map_cons,List.map_cons,List.sum_cons,ih,List.length_cons,List.length_append]
  show ((1:Nat):Int)+((ty.getD k []).length:Int)+_=_
  push_cast
  lia
structure PileFn (F:Fn):Prop extends CallOk F where
 len_:∀ vs σ,F 12 vs σ=fb1 vs σ
 str_:∀ vs σ,F 13 vs σ=e91 vs σ
 part:∀ vs σ,F 18 vs σ=tj vs σ
noncomputable def ej(σ:List AO)(ty:List (List Nat))(rm pl:List Nat):Prop:=∀ p,p<3->σ[p]?=some ⟨aV ty (lying pl p),some (rm.getD p 0:Nat)⟩
noncomputable def aJ(pl:List Nat)(d:Nat):List V:=(List.range d).map λp=>V.str (nmL (lying pl p))
section
variable {F:Fn} {σ:List AO} {ty:List (List Nat)} {rm pl ks:List Nat} {p k:Nat} {i:Nat}
theorem ig1(T:TyOk ty)(h:ks∈vE)(hk:σ[k]?=some ⟨aV ty ks,some (i:Int)⟩):e91 [.ref k] σ=some (.str (fJ ty ks),σ):=by
 have s:=fW h
 have d:=eM T s.1
 show (match σ[k]? with
  | some ⟨l,some i⟩=>(eE l).bind λps=>if ps.length<=lim/\bn (iC ps)<=lim then some (V.str (iC ps).flatten,σ) else none
  | _=>none)=_
 rw[hk]
 dsimp only
 unfold aV
 rw[fD]
 show (if (ks.map (item ty)).length<=lim/\bn (iC (ks.map (item ty)))<=lim then some (V.str (iC (ks.map (item ty))).flatten,σ) else none)=_
 rw[fx,c61,if_pos ⟨by rw[List.length_map];unfold lim;omega,by unfold lim;omega⟩]
theorem iR1(T:TyOk ty)(h:ks∈vE)(hi:i<=1000)(hk:σ[k]?=some ⟨aV ty ks,some (i:Int)⟩):fb1 [.ref k] σ=some (.int ((i:Int)+(fJ ty ks).length),σ):=by
 have s:=fW h
 have d:=eM T s.1
 show (match σ[k]? with
  | some ⟨l,some i⟩=>(eE l).bind λps=>if 0<=i+eh ps/\i+eh ps<1000000000 then some (V.int (i+eh ps),σ) else none
  | _=>none)=_
 rw[hk]
 dsimp only
 unfold aV
 rw[fD]
 show (if 0<=(i:Int)+eh (ks.map (item ty))/\(i:Int)+eh (ks.map (item ty))<1000000000 then some (V.int ((i:Int)+eh (ks.map (item ty))),σ) else none)=_
 rw[rN,if_pos ⟨by lia,by lia⟩]
theorem e31(hk:σ[k]?=some ⟨aV ty ks,some (i:Int)⟩):tj [.ref k] σ=some (.int (ks.length:Nat),σ):=by
 show (match σ[k]? with
  | some ⟨l,some i⟩=>some (V.int l.length,σ)
  | _=>none)=_
 rw[hk]
 dsimp only
 unfold aV
 rw[List.length_map,List.length_map]
theorem iB1(h:ks∈vE):meF .replace σ (.str (ea ks)) [.str [32],.str []]=some (.str (nmL ks)):=by
 have e:=beq_iff_eq.mp (List.all_eq_true.mp bt1 ks h)
 have s:=fW h
 have l1:(ea ks).length<=2*ks.length:=by
  unfold ea
  clear e s h
  induction ks with
  | nil=>exact Nat.le_refl _
  | cons k ks ih=>rw[List.map_cons,List.flatten_cons,List.length_append];show 2+_<=2*(ks.length+1);lia
 show (if ([32]:List Nat)=[] then none else if (ea ks).length+((ea ks).length+1)*([]:List Nat).length<=16000000/\(Txt.replace (S' (ea ks)) (S' [32]) (S' [])).cps.toList.length<=lim then some (V.str (Txt.replace (S' (ea ks)) (S' [32]) (S' [])).cps.toList) else none)=_
 rw[e,if_neg (by decide),if_pos]
 refine⟨by show _+_*0<=_;lia,?_⟩
 unfold nmL lim
 rw[List.length_map];lia
noncomputable def nη(ty:List (List Nat))(rm pl:List Nat)(n:Nat)(pg ly du pi:Option V):ac:=[some (.lst [.ref 0,.ref 1,.ref 2]),some (.lst (ag rm)),some (.lst (ty.map V.str)),some (.lst (ag pl)),some (.ref n),pg,ly,du,pi,none,none,none]
theorem cg1{n:Nat}{ly du pi:Option V}(hp:pl.length=4):evx F u2 σ (nη ty rm pl n (some (.int (p:Int))) ly du pi)=some (.lst (ag (lying pl p)),σ):=by
 have h:=uV (F:=F) (σ:=σ) (η:=nη ty rm pl n (some (.int (p:Int))) ly du pi) (vars:=[⟨"k",9,true⟩,⟨"peg",5,false⟩,⟨"places",3,false⟩]) (i:=9) (elt:=.loc 9) (it:=jJ) (cond:=.cmp .Eq (.idx (.loc 3) (.loc 9)) (.loc 5)) (l:=gc) (g:=λ(k:Nat)=>V.int (k:Int)) (f:=λ(k:Nat)=>V.int (k:Int)) (p:=λk=>pl.getD k 0==p)
  rB rfl nofun (λk hk=>?_) (λk hk=>ah rfl) (by decide)
 ·exact h
 ·have hk4:k<4:=by
   have:(gc.all (·<4))=true:=by decide
   exact of_decide_eq_true (List.all_eq_true.mp this k hk)
  refine iF (a0 (bu (ah rfl) (ah rfl) (eS (by lia) (by lia))) (ah rfl) ip) (congrArg some ?_)
  rw[Bool.eq_iff_iff,decide_eq_true_eq,beq_iff_eq]
  lia
theorem kF1{η:ac}{e:Ex}(T:TyOk ty)(hk:k<4)(ha:evx F e σ η=some (.int (k:Int),σ))(h:η[2]?=some (some (.lst (ty.map V.str)))):evx F (.idx (.loc 2) e) σ η=some (.str (ty.getD k []),σ):=by
 refine bu (ah h) ha ?_
 rw[uU (Int.natCast_nonneg _) (by omega) (by rw[List.length_map,T.len];omega),Int.toNat_natCast,List.getElem?_map]
 have:ty[k]?=some (ty.getD k []):=by
  rw[List.getD_eq_getElem?_getD,List.getElem?_eq_getElem (by rw[T.len];exact hk)];rfl
 rw[this];rfl
theorem jp1{n:Nat}{pg du pi:Option V}(T:TyOk ty)(h:ks∈vE):evx F h31 σ (nη ty rm pl n pg (some (.lst (ag ks))) du pi)=some (.str (fJ ty ks),σ):=by
 have s:=fW h
 have d:=eM T s.1
 have c:=cq (F:=F) (σ:=σ) (η:=nη ty rm pl n pg (some (.lst (ag ks))) du pi) (vars:=[⟨"k",10,true⟩,⟨"typed",2,false⟩]) (i:=10) (elt:=.bin .Add (.cst (.str [32])) (.idx (.loc 2) (.loc 10))) (it:=.loc 6) (l:=ks) (g:=λ(k:Nat)=>V.int (k:Int)) (f:=λk=>V.str (32::ty.getD k []))
  (ah rfl) rfl (λk hk=>?_) (by unfold lim;lia)
 ·have e:ks.map (λk=>V.str (32::ty.getD k []))=(ks.map λk=>32::ty.getD k []).map V.str:=by rw[List.map_map];rfl
  rw[e] at c
  exact xY aj rfl (aI c) (rZ _ (by show (fJ ty ks).length<=lim;unfold lim;omega))
 ·have:=T.two k (s.1 k hk)
  exact aD aj (kF1 T (s.1 k hk) (ah rfl) rfl) (bO.trans (if_pos (by unfold lim;show 1+(ty.getD k []).length<=1000000;lia)))
theorem lr1{n:Nat}{pg du pi:Option V}(h:ks∈vE):evx F xNm σ (nη ty rm pl n pg (some (.lst (ag ks))) du pi)=some (.str (nmL ks),σ):=by
 have s:=fW h
 have c:=cq (F:=F) (σ:=σ) (η:=nη ty rm pl n pg (some (.lst (ag ks))) du pi) (vars:=[⟨"k",11,true⟩]) (i:=11) (elt:=.idx (.cst (.str [97,98,99,100])) (.loc 11)) (it:=.loc 6) (l:=ks) (g:=λ(k:Nat)=>V.int (k:Int)) (f:=λk=>V.str [97+k])
  (ah rfl) rfl (λk hk=>?_) (by unfold lim;lia)
 ·have e:ks.map (λk=>V.str [97+k])=(ks.map λk=>[97+k]).map V.str:=by rw[List.map_map];rfl
  have e2:(ks.map λk=>[97+k]).flatten=nmL ks:=l5 (97+·) ks
  rw[e] at c
  refine xY aj rfl (aI c) ((rZ _ ?_).trans (by rw[e2]))
  rw[e2]
  unfold nmL lim
  rw[List.length_map];lia
 ·have hk:=s.1 k hk
  have:k=0\/k=1\/k=2\/k=3:=by lia
  refine bu aj (ah rfl) ?_
  rcases this with rfl | rfl | rfl | rfl <;> rfl
end
theorem wn{d:List Nat}(h:∀ c∈d,c<1114112)(n:Nat):okP n (.str d)=true:=by
 have:d.all (·<0x110000)=true:=List.all_eq_true.mpr λc hc=>decide_eq_true (h c hc)
 cases n <;> exact this
theorem eu(d:List Nat):veq (.str d) (.str d)=true:=(a51 d d).trans BEq.rfl
theorem gV(a:Int):veq (.int a) (.int a)=true:=o7.trans (decide_eq_true rfl)
theorem bY1{σ:List AO}{d:List Nat}{a b:Int}(h:∀ c∈d,c<1114112):hR .NotEq σ (.tup [.str d,.int a,.int b]) (.tup [.str d,.int a,.int b])=some false:=by
 have o:okP 4 (.tup [.str d,.int a,.int b])=true:=by
  show (okP 3 (.str d)&&(true&&(true&&true)))=true
  rw[wn h];rfl
 have v:veq (.tup [.str d,.int a,.int b]) (.tup [.str d,.int a,.int b])=true:=by
  rw[vg,eq,eq,eq,rG,eu,gV,gV];rfl
 show ((if okP 4 (.tup [.str d,.int a,.int b])&&okP 4 (.tup [.str d,.int a,.int b]) then some (veq (.tup [.str d,.int a,.int b]) (.tup [.str d,.int a,.int b])) else none).map (!·))=_
 rw[o,v];rfl
section
variable {F:Fn} {σ:List AO} {ty:List (List Nat)} {rm pl:List Nat} {p:Nat}
theorem eX(pl:List Nat)(d:Nat):(aJ pl d).length=d:=by unfold aJ;rw[List.length_map,List.length_range]
theorem pL(pl:List Nat)(d:Nat):aJ pl (d+1)=aJ pl d++[.str (nmL (lying pl d))]:=by unfold aJ;rw[List.range_succ,List.map_append];rfl
theorem ky{pl:List Nat}{d p:Nat}(h:p<d):(aJ pl d)[p]?=some (.str (nmL (lying pl p))):=by
 unfold aJ
 rw[List.getElem?_map,List.getElem?_range h];rfl
theorem y5(K:PileFn F)(T:TyOk ty)(hpl:pl.length=4)(hrm:rm.length=3)(hb:∀ p,p<3->rm.getD p 0<=1000)(P:ej σ ty rm pl)(hp:p<3){ly du pi:Option V} :
  ∃ ly' du' pi',exs F iw1 (eσ σ (aJ pl p)) (nη ty rm pl σ.length (some (.int (p:Int))) ly du pi)=some (.next,eσ σ (aJ pl (p+1)),nη ty rm pl σ.length (some (.int (p:Int))) ly' du' pi'):=by
 have hin:=ca pl p
 have s:=fW hin
 have d:=eM T s.1
 have ak:∀ L,(eσ σ L)[p]?=some ⟨aV ty (lying pl p),some ((rm.getD p 0:Nat):Int)⟩:=λL=>a8 (P p hp)
 refine dy1 (some (.lst (ag (lying pl p)))) (some (.str (fJ ty (lying pl p)))) (some (.ref p)) ?_
 have pi8:dH (eσ σ (aJ pl p)) (.lst [.ref 0,.ref 1,.ref 2]) (.int (p:Int))=some (.ref p):=by
  have:p=0\/p=1\/p=2:=by lia
  rcases this with rfl | rfl | rfl <;> rfl
 have s1:exs F (.asg 6 u2) (eσ σ (aJ pl p)) (nη ty rm pl σ.length (some (.int (p:Int))) ly du pi)=some (.next,eσ σ (aJ pl p),nη ty rm pl σ.length (some (.int (p:Int))) (some (.lst (ag (lying pl p)))) du pi):=oU (cg1 hpl)
 have s2:exs F (.asg 7 h31) (eσ σ (aJ pl p)) (nη ty rm pl σ.length (some (.int (p:Int))) (some (.lst (ag (lying pl p)))) du pi)=some (.next,eσ σ (aJ pl p),nη ty rm pl σ.length (some (.int (p:Int))) (some (.lst (ag (lying pl p)))) (some (.str (fJ ty (lying pl p)))) pi):=oU (jp1 T hin)
 have s3:exs F (.asg 8 (.idx (.loc 0) (.loc 5))) (eσ σ (aJ pl p)) (nη ty rm pl σ.length (some (.int (p:Int))) (some (.lst (ag (lying pl p)))) (some (.str (fJ ty (lying pl p)))) pi)=some (.next,eσ σ (aJ pl p),nη ty rm pl σ.length (some (.int (p:Int))) (some (.lst (ag (lying pl p)))) (some (.str (fJ ty (lying pl p)))) (some (.ref p))):=oU (bu (ah rfl) (ah rfl) pi8)
 have x1:∀ L,F 13 [.ref p] (eσ σ L)=some (.str (fJ ty (lying pl p)),eσ σ L):=λL=>(K.str_ _ _).trans (ig1 T hin (ak L))
 have x2:∀ L,F 12 [.ref p] (eσ σ L)=some (.int (((rm.getD p 0:Nat):Int)+(fJ ty (lying pl p)).length),eσ σ L):=λL=>(K.len_ _ _).trans (iR1 T hin (hb p hp) (ak L))
 have x3:∀ L,F 18 [.ref p] (eσ σ L)=some (.int ((lying pl p).length:Nat),eσ σ L):=λL=>(K.part _ _).trans (e31 (ak L))
 have t1:evx F (.tup (.cons (.call 13 (.cons (.loc 8) .nil)) (.cons (.call 12 (.cons (.loc 8) .nil)) (.cons (.meth 18 (.loc 8) .nil) .nil)))) (eσ σ (aJ pl p)) (nη ty rm pl σ.length (some (.int (p:Int))) (some (.lst (ag (lying pl p)))) (some (.str (fJ ty (lying pl p)))) (some (.ref p)))=some (.tup [.str (fJ ty (lying pl p)),.int (((rm.getD p 0:Nat):Int)+(fJ ty (lying pl p)).length),.int ((lying pl p).length:Nat)],eσ σ (aJ pl p)) :=
  gu (az (bc (aI (ah rfl)) (x1 _)) (az (bc (aI (ah rfl)) (x2 _)) (aI (iE (ah rfl) (ak _) fg (x3 _))))) (show 3<=lim by decide)
 have t2:evx F (.tup (.cons (.loc 7) (.cons (.bin .Add (.idx (.loc 1) (.loc 5)) (.bf .len (.cons (.loc 7) .nil))) (.cons (.bf .len (.cons (.loc 6) .nil)) .nil)))) (eσ σ (aJ pl p)) (nη ty rm pl σ.length (some (.int (p:Int))) (some (.lst (ag (lying pl p)))) (some (.str (fJ ty (lying pl p)))) (some (.ref p)))=some (.tup [.str (fJ ty (lying pl p)),.int (((rm.getD p 0:Nat):Int)+(fJ ty (lying pl p)).length),.int ((lying pl p).length:Nat)],eσ σ (aJ pl p)):=by
  refine gu (az (ah rfl) (az (aD (bu (ah rfl) (ah rfl) (eS (by lia) (by lia))) (mJ (aI (ah rfl)) l6) dY) (aI (mJ (aI (ah rfl)) (sk.trans ?_))))) (show 3<=lim by decide)
  unfold ag
  rw[List.length_map]
 have pr:=K.prep (eσ σ (aJ pl p)) (t:=fJ ty (lying pl p)) (by lia) d.2.1 (by
  refine(d.1)▸?_
  have:∀ ks:List Nat,(ea ks).length=2*ks.length:=λks=>by
   unfold ea
   induction ks with
   | nil=>rfl
   | cons k ks ih=>rw[List.map_cons,List.flatten_cons,List.length_append,ih];show 2+_=2*(ks.length+1);lia
  rw[this];unfold lim;lia)
 rw[d.1] at pr
 have ap:=rn (F:=F) (a:=.loc 4) (b:=.rep (.call 6 (.cons (.call 13 (.cons (.loc 8) .nil)) .nil)) [32] []) (σ:=eσ σ (aJ pl p)) (η:=nη ty rm pl σ.length (some (.int (p:Int))) (some (.lst (ag (lying pl p)))) (some (.str (fJ ty (lying pl p)))) (some (.ref p))) (ah rfl) eg (hS1 (bc (aI (bc (aI (ah rfl)) (x1 _))) pr) (iB1 hin)) eg (by rw[eX];unfold lim;omega)
 rw[← pL,qr] at ap
 have i4:evx F (.idx (.loc 4) (.loc 5)) (eσ σ (aJ pl (p+1))) (nη ty rm pl σ.length (some (.int (p:Int))) (some (.lst (ag (lying pl p)))) (some (.str (fJ ty (lying pl p)))) (some (.ref p)))=some (.str (nmL (lying pl p)),eσ σ (aJ pl (p+1))) :=
  bu (ah rfl) (ah rfl) ((yf (j:=p) ⟨by lia,by omega⟩ (dX eg) ((bE (by lia) (by rw[eX];lia)).trans (by rw[Int.toNat_natCast]))).trans (ky (Nat.lt_succ_self p)))
 exact(aE s1).trans ((aE s2).trans ((aE s3).trans ((jI (a0 t1 t2 (bY1 d.2.2.2))).trans ((rQ ap).trans ((jI (a0 i4 (lr1 hin) (j3.trans (congrArg (λb=>some (!b)) BEq.rfl)))).trans a9)))))
theorem wz(K:PileFn F)(T:TyOk ty)(hpl:pl.length=4)(hrm:rm.length=3)(hb:∀ p,p<3->rm.getD p 0<=1000)(P:ej σ ty rm pl) :
  mK F 4 8 d7 [.lst [.ref 0,.ref 1,.ref 2],.lst (ag rm),.lst (ty.map V.str),.lst (ag pl)] σ=some (.ref σ.length,eσ σ (aJ pl 3)):=by
 refine byQ λQ kQ=>?_
 obtain ⟨σ',η',h2,q⟩:=fG (F:=F) (i:=5) (it:=.range (.cons (.cst (.int 3)) .nil)) (b:=iw1) (σ:=eσ σ []) (η:=nη ty rm pl σ.length none none none none) (l:=(List.range 3).map λ(k:Nat)=>V.int (k:Int))
  (λl σ' η'=>∃ d,d<=3/\l=((List.range 3).drop d).map (λ(k:Nat)=>V.int (k:Int))/\σ'=eσ σ (aJ pl d)/\∃ pg ly du pi,η'=nη ty rm pl σ.length pg ly du pi)
  (bR (n:=3) aj (by decide)) (dg 3) ⟨0,by decide,rfl,rfl,_,_,_,_,rfl⟩ (λx l σ' η' ⟨d,hd,el,ji1,pg,ly,du,pi,eη⟩=>by
   have hd2:d<3:=by
    refine Or.elim (Nat.lt_or_ge d 3) (λh=>?_) (λh=>?_)
    ·exact h
    ·rw[List.drop_of_length_le (by rw[List.length_range];exact h)] at el;cases el
   rw[List.drop_eq_getElem_cons (by rw[List.length_range];exact hd2),List.getElem_range,List.map_cons] at el
   injection el with e1 e2
   subst e1 eη
   rw[ji1]
   refine byQ λQ kQ=>?_
   refine ei (y5 (F:=F) (σ:=σ) (ly:=ly) (du:=du) (pi:=pi) K T hpl hrm hb P hd2) λly' du' pi' s=>?_
   refine kQ ?_
   exact⟨_,_,s,d+1,hd2,e2,rfl,_,_,_,_,rfl⟩)
 obtain ⟨d,hd,el,ji1,pg,ly,du,pi,eη⟩:=q
 have hd2:d=3:=by
  refine Or.elim (Nat.lt_or_ge d 3) (λh=>?_) (λh=>?_)
  ·rw[List.drop_eq_getElem_cons (by rw[List.length_range];exact h)] at el;cases el
  ·lia
 subst hd2 eη
 rw[ji1] at h2
 refine kQ ?_
 exact cr rfl ((bF ab1).trans ((aE h2).trans (fY (ah rfl))))
end
noncomputable def t16:List Nat:=jl (jl (jl (jl [107])))
noncomputable def f4(k m f y:Nat):Nat:=(nh k m f y).toNat
noncomputable def plN(m f y:Nat):List Nat:=[0,1,2,3].map λk=>f4 k m f y
theorem wf(k m f y:Nat):nh k m f y=(f4 k m f y:Nat):=(Int.toNat_of_nonneg (Int.emod_nonneg _ (by decide))).symm
noncomputable def vt(m:Nat):Nat:=if m % 2=1 then 0 else if m % 4=2 then 1 else if m % 8=4 then 2 else 3
structure Move (m f y:Nat):Prop where
 odd:m=2 ^ vt m*(2*(m / 2 ^ (vt m+1))+1)
 d3:vt m<=3
 h3:(plN (m - 1) f y).getD (vt m) 0<3
 t3:(plN m f y).getD (vt m) 0<3
 ne:(plN (m - 1) f y).getD (vt m) 0≠(plN m f y).getD (vt m) 0
 tops:∀ p,p<3->((nmL (lying (plN (m - 1) f y) p)).getLast?==some (97+vt m))=(p==(plN (m - 1) f y).getD (vt m) 0)
 off:lying (plN (m - 1) f y) ((plN (m - 1) f y).getD (vt m) 0)=lying (plN m f y) ((plN (m - 1) f y).getD (vt m) 0)++[vt m]
 on:lying (plN m f y) ((plN m f y).getD (vt m) 0)=lying (plN (m - 1) f y) ((plN m f y).getD (vt m) 0)++[vt m]
 rest:∀ p,p<3->p≠(plN (m - 1) f y).getD (vt m) 0->p≠(plN m f y).getD (vt m) 0->lying (plN (m - 1) f y) p=lying (plN m f y) p
 to:((plN (m - 1) f y).getD (vt m) 0+(if t16.getD (m - 1) 0=107 then y else 3 - y)) % 3=(plN m f y).getD (vt m) 0
 at_:t16[m - 1]?=some (t16.getD (m - 1) 0)
noncomputable def iL1(m f y:Nat):Bool :=
 let pl:=plN (m - 1) f y;let pl':=plN m f y;let d:=vt m;let h:=pl.getD d 0;let t:=pl'.getD d 0
 (((decide (m=2 ^ d*(2*(m / 2 ^ (d+1))+1))&&decide (d<=3))&&(decide (h<3)&&decide (t<3)))&&((decide (h≠t)&&(List.range 3).all λp=>((nmL (lying pl p)).getLast?==some (97+d))==(p==h))&&(decide (lying pl h=lying pl' h++[d])&&decide (lying pl' t=lying pl t++[d])))) &&
  (((List.range 3).all λp=>(p==h || (p==t || lying pl p==lying pl' p)))&&(decide ((h+(if t16.getD (m - 1) 0=107 then y else 3 - y)) % 3=t)&&decide (t16[m - 1]?=some (t16.getD (m - 1) 0))))
theorem zf:((List.range 15).all λm=>(List.range 3).all λf=>[1,2].all λy=>iL1 (m+1) f y)=true:=by decide +kernel
theorem wC{m f y:Nat}(h1:1<=m)(h2:m<=15)(hf:f<3)(hy:y=1\/y=2):Move m f y:=by
 have q:=List.all_eq_true.mp (List.all_eq_true.mp (List.all_eq_true.mp zf (m - 1) (List.mem_range.mpr (by omega))) f (List.mem_range.mpr hf)) y (by rcases hy with rfl | rfl <;> decide)
 rw[Nat.sub_add_cancel h1] at q
 have a:=ao q;have b:=ao a.1;have c:=ao b.1;have d:=ao c.1;have e:=ao c.2;have g:=ao b.2;have g1:=ao g.1;have g2:=ao g.2;have i:=ao a.2;have j:=ao i.2
 exact⟨of_decide_eq_true d.1,of_decide_eq_true d.2,of_decide_eq_true e.1,of_decide_eq_true e.2,of_decide_eq_true g1.1,λp hp=>beq_iff_eq.mp (List.all_eq_true.mp g1.2 p (List.mem_range.mpr hp)),of_decide_eq_true g2.1,of_decide_eq_true g2.2,λp hp n1 n2=>by
  have z:=List.all_eq_true.mp i.1 p (List.mem_range.mpr hp)
  rw[Bool.or_eq_true,Bool.or_eq_true,beq_iff_eq,beq_iff_eq,beq_iff_eq] at z
  exact(z.resolve_left n1).resolve_left n2,of_decide_eq_true j.1,of_decide_eq_true j.2⟩
noncomputable def fz(pl:List Nat)(p:Nat):List Nat:=nmL (lying pl p)
noncomputable def uz:List (Nat×Nat):=[(0,1),(0,2),(1,0),(1,2),(2,0),(2,1)]
noncomputable def aN1(pl:List Nat)(ht:Nat×Nat):Bool:=!(fz pl ht.1).isEmpty&&decide ((cJ (fz pl ht.1)).headD 0<(fz pl ht.2).getLast?.getD 1000)
noncomputable def fs(pl:List Nat)(ht:Nat×Nat):Nat:=(cJ (fz pl ht.1)).headD 0 - 97
noncomputable def sG(pl:List Nat)(g:Int)(ht:Nat×Nat):Int:=dQ (pl.take (fs pl ht)++[ht.2]++pl.drop (fs pl ht+1)) g
noncomputable def pJ(pl:List Nat)(g:Int)(ht:Nat×Nat):Bool:=aN1 pl ht&&decide (sG pl g ht<dQ pl g)
noncomputable def wu(pl:List Nat)(g:Int):List Nat:=(uz.filter (pJ pl g)).map (fs pl)
noncomputable def iS1:List (List Nat):=(List.range 81).map λc=>[c % 3,c / 3 % 3,c / 9 % 3,c / 27 % 3]
noncomputable def m21(pl:List Nat)(g:Int):Bool:=let l:=dQ pl g
 (decide (0<=l/\l<=15)&&uz.all λht=>(!aN1 pl ht || (decide ((sG pl g ht - l).natAbs<=1)&&(decide (fs pl ht<4)&&(cJ (fz pl ht.1)==[97+fs pl ht])))))&&(if l=0 then wu pl g==[] else wu pl g==[vt l.toNat])
theorem cJ1:(iS1.all λpl=>(List.range 3).all λg=>m21 pl (g:Int))=true:=by decide +kernel
structure LawOk (F:Fn):Prop extends PileFn F where
 acc:∀ vs σ,F 0 vs σ=fd1 vs σ
 push:∀ vs σ,F 15 vs σ=td vs σ
 pf:∀ vs σ,F 16 vs σ=eW vs σ
 pop:∀ vs σ,F 17 vs σ=bP1 vs σ
 ell:∀ (σ:List AO) {P t:List Nat},nZ P=true->∃ ex,F 1 [.str P,.str t] σ=some (.bool (x7 P t),σ++ex)
 fold:∀ (σ:List AO) {t:List Nat} {ws:List Int},t.length<=16->(∀ c∈t,c=107\/c=109)->ws.length=7->F 7 [.str t,.lst (ws.map V.int)] σ=some (.str (jl t),σ)
 read:∀ (σ:List AO) {n s v c:Nat},s≠34->n<=100->n=2 ^ v*(2*c+1)->v<=4->F 8 [.int (n:Int),.str [s]] σ=some (.tup [.int (v:Int),.str (mrk c)],σ)
 place:∀ (σ:List AO) {k m f y:Nat},k<=3->y<=3->F 9 [.int (k:Int),.int (m:Int),.int (f:Int),.int (y:Int)] σ=some (.int (f4 k m f y:Nat),σ)
 left:∀ (σ:List AO) {ps:List Nat} {g:Int},ps.length=4->F 10 [.lst (ag ps),.int g] σ=some (.int (dQ ps g),σ)
 names:∀ {σ:List AO} {ty:List (List Nat)} {rm pl:List Nat},TyOk ty->pl.length=4->rm.length=3->(∀ p,p<3->rm.getD p 0<=1000)->ej σ ty rm pl ->
  F 11 [.lst [.ref 0,.ref 1,.ref 2],.lst (ag rm),.lst (ty.map V.str),.lst (ag pl)] σ=some (.ref σ.length,eσ σ (aJ pl 3))
theorem kL{α:Type}{elt:List AO->ac->Option (V×List AO)}{i k:Nat}{g f:α->V}{L:List α}:∀ (l:List α) (j:Nat) (σ:List AO) (η:ac) (n:Nat),σ[k]?=some ⟨L.map g,none⟩->l.length<n->L.drop j=l ->
  (∀ x∈L,∀ σ',∃ ex,elt σ' (η.set i (some (g x)))=some (f x,σ'++ex))->∃ ex,cW (.loc i) (λσ η=>some (true,σ)) elt n (.dyn k j) σ η=some (l.map f,σ++ex)
 | l,j,σ,η,0,_,h,_,_=>by simp at h
 | [],j,σ,η,n+1,hk,_,hd,_=>by
  have st:(ItS.dyn k j).step σ=some none:=by
   rw[ItS.step_dyn,hk]
   dsimp only
   have:(L.map g)[j]?=none:=by rw[List.getElem?_eq_none_iff,List.length_map];exact List.drop_eq_nil_iff.mp hd
   rw[this]
  refine⟨[],?_⟩
  rw[List.append_nil]
  show (match (ItS.dyn k j).step σ with
   | none=>none
   | some none=>some ([],σ)
   | some (some (x,st'))=>match asF (.loc i) x η with
    | none=>none
    | some η₁=>_)=_
  rw[st];rfl
 | x::l,j,σ,η,n+1,hk,h,hd,he=>by
  have hj:L[j]?=some x:=by
   have:=congrArg (λl=>l[0]?) hd
   simpa using this
  have hd':L.drop (j+1)=l:=by
   have:=congrArg (List.drop 1) hd
   rw[List.drop_drop] at this
   exact this
  have st:(ItS.dyn k j).step σ=some (some (g x,.dyn k (j+1))):=by
   rw[ItS.step_dyn,hk]
   dsimp only
   rw[List.getElem?_map,hj];rfl
  obtain ⟨ex,h1⟩:=he x (List.mem_of_getElem? hj) σ
  obtain ⟨ex',ih⟩:=kL (elt:=elt) (i:=i) (f:=f) l (j+1) (σ++ex) (η.set i (some (g x))) n (a8 hk) (by simpa using h) hd' (λy hy=>by rw[List.set_set];exact he y hy)
  refine⟨ex++ex',?_⟩
  rw[← List.append_assoc]
  show (match (ItS.dyn k j).step σ with
   | none=>none
   | some none=>some ([],σ)
   | some (some (x,st'))=>match asF (.loc i) x η with
    | none=>none
    | some η₁=>match elt σ η₁ with
     | none=>none
     | some (v,σ₂)=>match cW (.loc i) (λσ η=>some (true,σ)) elt n st' σ₂ η₁ with
      | none=>none
      | some (out,aq)=>some (v::out,aq))=_
  rw[st]
  show (match elt σ (η.set i (some (g x))) with
     | none=>none
     | some (v,σ₂)=>match cW (.loc i) (λσ η=>some (true,σ)) elt n (.dyn k (j+1)) σ₂ (η.set i (some (g x))) with
      | none=>none
      | some (out,aq)=>some (v::out,aq))=_
  rw[h1]
  dsimp only
  rw[ih];rfl
theorem yg{F:Fn}{σ:List AO}{η:ac}{vars:List Var}{i k:Nat}{elt it:Ex}{α:Type}{L:List α}{g f:α->V}(hit:evx F it σ η=some (.ref k,σ))(hk:σ[k]?=some ⟨L.map g,none⟩)
  (he:∀ y∈L,∀ σ',∃ ex,evx F elt σ' ((clr η vars).set i (some (g y)))=some (f y,σ'++ex)) (hn:L.length<=lim):∃ ex,evx F (.comp vars (.loc i) elt it .nil) σ η=some (.lst (L.map f),σ++ex):=by
 have fu:(ItS.dyn k 0).fuel σ=L.length+1:=by
  show (match σ[k]? with | some ⟨items,_⟩=>items.length+1 | none=>0)=_
  refine(hk)▸?_
  exact congrArg (·+1) (List.length_map _)
 obtain ⟨ex,c⟩:=kL (elt:=λσ η=>evx F elt σ η) (i:=i) (f:=f) L 0 σ (clr η vars) (L.length+1) hk (Nat.lt_succ_self _) rfl he
 refine⟨ex,?_⟩
 rw[iG,hit]
 dsimp only
 show (match some (ItS.dyn k 0) with | some st=>_ | none=>none)=_
 dsimp only
 rw[fu,c]
 dsimp only
 rw[List.length_map,if_pos hn]
section
variable {F:Fn} {σ σ₁:List AO} {η:ac} {e a:Ex} {R:Sx} {vs:List V} {is:List Nat}
theorem eT1(h:evx F e σ η=some (.tup vs,σ₁))(hl:vs.length=is.length):exs F (.seq (.asgT is e) R) σ η=exs F R σ₁ (yE η is vs):=aE (by
 rw[kU,h]
 exact if_pos hl)
theorem xl{m d:Nat}{em ed:Ex}(hm:evx F em σ η=some (.int (m:Int),σ))(hd:evx F ed σ η=some (.int (d:Int),σ))(h4:d<=4)(h1:m<=100):evx F (.bin .Mult (.cst (.str [34])) (.bin .FloorDiv em (.bin .Pow (.cst (.int 2)) (.bin .Add ed (.cst (.int 1)))))) σ η=some (.str (mrk (m / 2 ^ (d+1))),σ):=by
 have p1:(1:Int)<=2 ^ (d+1)/\(2:Int) ^ (d+1)<1000000000:=by
  have:d=0\/d=1\/d=2\/d=3\/d=4:=by lia
  rcases this with rfl | rfl | rfl | rfl | rfl <;> decide
 have x:evx F (.bin .FloorDiv em (.bin .Pow (.cst (.int 2)) (.bin .Add ed (.cst (.int 1))))) σ η=some (.int ((m / 2 ^ (d+1):Nat):Int),σ):=by
  rw[Int.natCast_ediv,Int.natCast_pow]
  exact aD hm (aD aj (aD (y:=.int 1) hd aj rfl) (ou (k:=d+1) (by lia))) (cP p1.1 p1.2)
 have le:m / 2 ^ (d+1)<=100:=Nat.le_trans (Nat.div_le_self _ _) h1
 generalize m / 2 ^ (d+1)=c at *
 refine aD aj x ?_
 rw[kO,if_pos ⟨by omega,by lia,by rw[Int.toNat_natCast];unfold lim;show 1*c<=1000000;lia⟩,Int.toNat_natCast,px]
theorem kY{k:Nat}(hk:k<4):dH σ (.str [97,98,99,100]) (.int (k:Int))=some (.str [97+k]):=by
 have:k=0\/k=1\/k=2\/k=3:=by lia
 rcases this with rfl | rfl | rfl | rfl <;> rfl
theorem rA{p:Nat}(hp:p<3):dH σ (.lst [.ref 0,.ref 1,.ref 2]) (.int (p:Int))=some (.ref p):=by
 have:p=0\/p=1\/p=2:=by lia
 rcases this with rfl | rfl | rfl <;> rfl
end
section
variable {σ:List AO} {ty:List (List Nat)} {ks:List Nat} {k d:Nat} {i:Int}
theorem gI(ty:List (List Nat))(a b:List Nat):aV ty (a++b)=aV ty a++aV ty b:=by unfold aV;rw[List.map_append,List.map_append]
theorem eZ(ty:List (List Nat))(a:List Nat):(aV ty a).length=a.length:=by unfold aV;rw[List.length_map,List.length_map]
theorem iE1(hk:σ[k]?=some ⟨aV ty (ks++[d]),some i⟩):bP1 [.ref k] σ=some (cS (item ty d),σ.set k ⟨aV ty ks,some i⟩):=by
 show (match σ[k]? with
  | some ⟨l,some i⟩=>some ((pz l).1,σ.set k ⟨(pz l).2,some i⟩)
  | _=>none)=_
 refine(hk)▸?_
 dsimp only
 have e:pz (aV ty (ks++[d]))=(cS (item ty d),aV ty ks):=by
  rw[gI]
  unfold pz
  rw[show aV ty [d]=[cS (item ty d)] from rfl,List.getLast?_concat,List.dropLast_concat]
 rw[e]
theorem iF1(hk:σ[k]?=some ⟨[],some i⟩):bP1 [.ref k] σ=some (.tup [.str [],.str []],σ.set k ⟨[],some i⟩):=by
 show (match σ[k]? with
  | some ⟨l,some i⟩=>some ((pz l).1,σ.set k ⟨(pz l).2,some i⟩)
  | _=>none)=_
 rw[hk];rfl
theorem wb(hk:σ[k]?=some ⟨aV ty (ks++[d]),some i⟩):eW [.ref k,.int (ks.length:Nat)] σ=some (.lst [cS (item ty d)],σ.set k ⟨aV ty ks,some i⟩):=by
 show (match σ[k]? with
  | some ⟨l,some i⟩=>if 0<=((ks.length:Nat):Int) then some (V.lst (l.drop ((ks.length:Nat):Int).toNat),σ.set k ⟨l.take ((ks.length:Nat):Int).toNat,some i⟩) else none
  | _=>none)=_
 rw[hk]
 dsimp only
 rw[if_pos (Int.natCast_nonneg _),Int.toNat_natCast,gI,List.drop_left' (eZ ty ks),List.take_left' (eZ ty ks)]
 rfl
theorem au1(hl:ks.length<=100)(hk:σ[k]?=some ⟨aV ty ks,some i⟩):td [.ref k,.str [32],.str (ty.getD d [])] σ=some (.none,σ.set k ⟨aV ty (ks++[d]),some i⟩):=by
 show (match σ[k]? with
  | some ⟨l,some i⟩=>if l.length<lim then some (V.none,σ.set k ⟨l++[V.tup [.str [32],.str (ty.getD d [])]],some i⟩) else none
  | _=>none)=_
 rw[hk]
 dsimp only
 rw[if_pos (by rw[eZ];unfold lim;lia),gI]
 rfl
theorem zd(T:TyOk ty)(hd:d<4):hR .NotEq σ (.lst [cS (item ty d)]) (.lst [.tup [.str [32],.str (ty.getD d [])]])=some false:=by
 have o:okP 4 (.lst [.tup [.str [32],.str (ty.getD d [])]])=true:=by
  show ((okP 2 (.str [32])&&(okP 2 (.str (ty.getD d []))&&true))&&true)=true
  rw[wn (T.ok d hd)];rfl
 have v:veq (.lst [.tup [.str [32],.str (ty.getD d [])]]) (.lst [.tup [.str [32],.str (ty.getD d [])]])=true:=by
  show (veq (.tup [.str [32],.str (ty.getD d [])]) (.tup [.str [32],.str (ty.getD d [])])&&true)=true
  rw[vg,eq,eq,rG,eu,eu];rfl
 show ((if okP 4 (.lst [.tup [.str [32],.str (ty.getD d [])]])&&okP 4 (.lst [.tup [.str [32],.str (ty.getD d [])]]) then some (veq (.lst [.tup [.str [32],.str (ty.getD d [])]]) (.lst [.tup [.str [32],.str (ty.getD d [])]])) else none).map (!·))=_
 rw[o,v];rfl
theorem pK{pl:List Nat}{b:Nat}(hb:σ[b]?=some ⟨aJ pl 3,none⟩):hR .Eq σ (.ref b) (.lst [])=some false:=by
 have o:okP 4 (.lst (aJ pl 3))=true:=by
  have key:∀ p,okP 3 (.str (nmL (lying pl p)))=true:=λp=>wn (λc hc=>by
   obtain ⟨k,hk,rfl⟩:=List.mem_map.mp hc
   have:=(fW (ca pl p)).1 k hk
   lia) 3
  show (okP 3 (.str (nmL (lying pl 0)))&&(okP 3 (.str (nmL (lying pl 1)))&&(okP 3 (.str (nmL (lying pl 2)))&&true)))=true
  rw[key,key,key];rfl
 show (if okP 4 (der σ (.ref b))&&okP 4 (.lst []) then some (veq (der σ (.ref b)) (.lst [])) else none)=_
 rw[dX hb,o];rfl
end
structure TW where
 sc:Option V
 st:Option V
 ws:List Int
 dn:Nat
 f:Nat
 y:Nat
 s:Nat
 ty:List (List Nat)
 rm:List Nat
noncomputable def up(v:Nat->Option V)(i:Nat)(x:V):Nat->Option V:=λj=>bif Nat.beq j i then some x else v j
noncomputable def piV:V:=.lst [.ref 0,.ref 1,.ref 2]
noncomputable def LF(A:TW)(v:Nat->Option V):ac :=
 [A.sc,A.st,some (.lst (A.ws.map V.int)),some (.int (A.dn:Int)),some (.int (A.f:Int)),some (.int (A.y:Int)),some (.str [A.s]),some (.str t16),v 8,some (.lst (ag A.rm)),some (.lst (A.ty.map V.str)),some piV,v 12,v 13,v 14,v 15,v 16,v 17,v 18,v 19,v 20,v 21,v 22,v 23,v 24,v 25,v 26,v 27,v 28,v 29,v 30,none,none,none,none,none,none,none,none,none,none,none,none,none,none]
noncomputable def tvs(h:Nat):List V:=(List.range 3).map λp=>V.bool (p==h)
noncomputable def tv2(h:Nat):List V:=(List.range 3).map λp=>V.tup [.bool (p==h),.bool (!(p==h))]
section
variable {F:Fn} {σ σ₁:List AO} {A:TW} {v:Nat->Option V} {m d h b i:Nat} {pl:List Nat} {x:V} {e:Ex} {R:Sx}
theorem vl(hv:v i=some x)(h:(LF A v)[i]?=some (v i):=by rfl):evx F (.loc i) σ (LF A v)=some (x,σ):=ah (h.trans (congrArg some hv))
theorem av(h:evx F e σ (LF A v)=some (x,σ₁))(hs:(LF A v).set i (some x)=LF A (up v i x):=by rfl):exs F (.seq (.asg i e) R) σ (LF A v)=exs F R σ₁ (LF A (up v i x)):=hs▸bF h
theorem dQ1(K:LawOk F)(h15:v 15=some (.int (d:Int)))(h13:v 13=some (.ref b))(hd:d<4)(ht:∀ p,p<3->((nmL (lying pl p)).getLast?==some (97+d))=(p==h))(hb:σ[b]?=some ⟨aJ pl 3,none⟩) :
  ∃ ex,evx F dJ1 σ (LF A v)=some (.lst (tvs h),σ++ex):=by
 refine yg (F:=F) (σ:=σ) (i:=38) (L:=List.range 3) (g:=λp=>V.str (nmL (lying pl p))) (f:=λp=>V.bool (p==h)) (vl h13) hb (λp hp σ'=>?_) (by decide)
 have hp3:=List.mem_range.mp hp
 have fa:=ao (List.all_eq_true.mp (List.all_eq_true.mp ym _ (wq (ca pl p))) (97+d) (by
  have:d=0\/d=1\/d=2\/d=3:=by lia
  rcases this with rfl | rfl | rfl | rfl <;> decide))
 obtain ⟨ex,e⟩:=K.ell σ' (P:=cD++[97+d]) (t:=nmL (lying pl p)) fa.1
 rw[beq_iff_eq.mp fa.2,ht p hp3] at e
 exact⟨ex,bc (az (aD aj (bu aj (ah (congrArg some h15)) (kY hd)) (bO.trans (if_pos (show 3+1<=lim by decide)))) (aI (ah rfl))) e⟩
theorem fg1(h18:v 18=some (.lst (tvs h))):evx F dL1 σ (LF A v)=some (.lst (tv2 h),σ):=by
 refine cq (F:=F) (σ:=σ) (i:=39) (it:=.loc 18) (l:=List.range 3) (g:=λp=>V.bool (p==h)) (f:=λp=>V.tup [.bool (p==h),.bool (!(p==h))]) (vl h18) rfl (λp hp=>?_) (by decide)
 refine gu (az (a0 (ah rfl) aj ?_) (aI (a0 (ah rfl) aj ?_))) (show 2<=lim by decide)
 ·show some ((p==h)==true)=some (p==h)
  cases p==h <;> rfl
 ·show some ((p==h)==false)=some (!(p==h))
  cases p==h <;> rfl
theorem cB1(h17:v 17=some (.int (h:Int))):evx F af1 σ (LF A v)=some (.lst (tv2 h),σ):=by
 refine cq (F:=F) (σ:=σ) (i:=40) (l:=List.range 3) (g:=λ(p:Nat)=>V.int (p:Int)) (f:=λp=>V.tup [.bool (p==h),.bool (!(p==h))]) (bR (n:=3) aj (by decide)) (dg 3) (λp hp=>?_) (by decide)
 have e:decide ((p:Int)=(h:Int))=(p==h):=by rw[Bool.eq_iff_iff,decide_eq_true_eq,beq_iff_eq];lia
 exact gu (az (a0 (ah rfl) (ah (congrArg some h17)) (ip.trans (by rw[e]))) (aI (a0 (ah rfl) (ah (congrArg some h17)) (xM.trans (by rw[e]))))) (show 2<=lim by decide)
theorem fo1(hh:h<3):hR .NotEq σ (.lst (tv2 h)) (.lst (tv2 h))=some false:=by
 have:h=0\/h=1\/h=2:=by lia
 rcases this with rfl | rfl | rfl <;> rfl'
theorem y4(K:LawOk F){L:List Nat}{i:Int}(h14:v 14=some (.int (m:Int)))(h19:v 19=some (.ref h))(hk:σ[h]?=some ⟨aV A.ty (L++[d]),some i⟩):evx F u0 σ (LF A v)=some (.lst [cS (item A.ty d)],σ.set h ⟨aV A.ty L,some i⟩):=by
 refine(du1 (a0 (aD (vl h14) aj (cX (by decide))) aj ip)).trans ?_
 by_cases q:(m:Int) % 3=0
 ·rw[decide_eq_true q,if_pos rfl]
  exact mQ (az (iE (vl h19) hk fg ((K.pop _ _).trans (iE1 hk))) fg) (show 1<=lim by decide)
 ·rw[decide_eq_false q,if_neg Bool.false_ne_true]
  have sub:qL .Sub (.int ((L++[d]).length:Nat)) (.int 1)=some (.int (L.length:Nat)):=by
   rw[mx,List.length_append,List.length_singleton]
   exact congrArg (λz=>some (V.int z)) (by lia)
  have pc:F 18 [.ref h] σ=some (.int ((L++[d]).length:Nat),σ):=by
   rw[K.part]
   show (match σ[h]? with
    | some ⟨l,some i⟩=>some (V.int l.length,σ)
    | _=>none)=_
   rw[hk]
   dsimp only
   rw[eZ]
  exact iE (vl h19) hk (aI (aD (iE (vl h19) hk fg pc) aj sub)) ((K.pf _ _).trans (wb hk))
theorem h81{e:Ex}(T:TyOk A.ty)(hd:d<4)(he:evx F e σ (LF A v)=some (.int (d:Int),σ)):evx F (.idx (.loc 10) e) σ (LF A v)=some (.str (A.ty.getD d []),σ):=by
 refine bu (ah (v:=.lst (A.ty.map V.str)) rfl) he ?_
 rw[uU (Int.natCast_nonneg _) (by omega) (by rw[List.length_map,T.len];omega),Int.toNat_natCast,List.getElem?_map]
 have:A.ty[d]?=some (A.ty.getD d []):=by
  rw[List.getD_eq_getElem?_getD,List.getElem?_eq_getElem (by rw[T.len];exact hd)];rfl
 rw[this];rfl
theorem kW1{t c:Nat}(h14:v 14=some (.int (m:Int)))(h17:v 17=some (.int (h:Int)))(hm:1<=m)(hm2:m<=100)(hy:A.y<=3)(hc:t16[m - 1]?=some c)(ht:(h+(if c=107 then A.y else 3 - A.y)) % 3=t):evx F xTo σ (LF A v)=some (.int (t:Int),σ):=by
 have l16:t16.length=16:=by decide
 have hi:m - 1<t16.length:=(List.getElem?_eq_some_iff.mp hc).1
 have ix:dH σ (.str t16) (.int ((m:Int) - 1))=some (.str [c]):=by
  rw[show (m:Int) - 1=((m - 1:Nat):Int) by lia,aY1 (Int.natCast_nonneg _) (by omega) (by omega),Int.toNat_natCast,hc];rfl
 have it:evx F (.ite (.cmp .Eq (.idx (.loc 7) (.bin .Sub (.loc 14) (.cst (.int 1)))) (.cst (.str [107]))) (.loc 5) (.bin .Sub (.cst (.int 3)) (.loc 5))) σ (LF A v)=some (.int ((if c=107 then A.y else 3 - A.y:Nat):Int),σ):=by
  refine(du1 (a0 (bu (ah rfl) (aD (vl h14) aj mx) ix) aj oo)).trans ?_
  by_cases q:c=107
  ·rw[show ([c]==[107])=true by rw[q];rfl,if_pos rfl,if_pos q];exact ah rfl
  ·rw[show ([c]==[107])=false from beq_eq_false_iff_ne.mpr (λe=>q (by injection e)),if_neg Bool.false_ne_true,if_neg q]
   exact aD aj (ah rfl) (mx.trans (congrArg (λz=>some (V.int z)) (by omega)))
 refine aD (aD (vl h17) it dY) aj ((cX (by decide)).trans ?_)
 rw[← ht]
 exact congrArg (λz=>some (V.int z)) (by lia)
theorem yZ(K:LawOk F)(h14:v 14=some (.int (m:Int)))(hy:A.y<=3):evx F uY σ (LF A v)=some (.lst (ag (plN m A.f A.y)),σ):=by
 refine cq (F:=F) (σ:=σ) (i:=41) (l:=List.range 4) (g:=λ(k:Nat)=>V.int (k:Int)) (f:=λk=>V.int (f4 k m A.f A.y:Nat)) (bR (n:=4) aj (by decide)) (dg 4) (λk hk=>?_) (by decide)
 exact bc (az (ah rfl) (az (ah (congrArg some h14)) (az (ah rfl) (aI (ah rfl))))) (K.place σ (by have:=List.mem_range.mp hk;lia) hy)
theorem wy(K:LawOk F)(T:TyOk A.ty)(h12:v 12=some (.lst (ag pl)))(hp:pl.length=4)(hrm:A.rm.length=3)(hbd:∀ p,p<3->A.rm.getD p 0<=1000)(P:ej σ A.ty A.rm pl):evx F u1 σ (LF A v)=some (.ref σ.length,eσ σ (aJ pl 3)) :=
 bc (az (ah rfl) (az (ah rfl) (az (ah rfl) (aI (vl h12))))) (K.names T hp hrm hbd P)
end
theorem a91:(da.all λn=>(Txt.slice (S' n) (some (-1)) none).cps.toList==cJ n)=true:=by decide +kernel
theorem wF:(da.all λn=>decide (n.length<=4)&&(decide ((bZ cD (n.map λc=>[c])).length<=20)&&decide ((cJ n).length<=1)))=true:=by decide +kernel
theorem sh{n:List Nat}(hn:n∈da):n.length<=4/\(bZ cD (n.map λc=>[c])).length<=20/\(cJ n).length<=1:=by
 have h:=ao (List.all_eq_true.mp wF n hn)
 have h2:=ao h.2
 exact⟨of_decide_eq_true h.1,of_decide_eq_true h2.1,of_decide_eq_true h2.2⟩
theorem er1{σ:List AO}{n:List Nat}(hn:n∈da):pk σ (.str n) (.int (-1)) .none .none=some (.str (cJ n)):=by
 show some (V.str (Txt.slice (S' n) (some (-1)) none).cps.toList)=_
 rw[beq_iff_eq.mp (List.all_eq_true.mp a91 n hn)]
section
variable {F:Fn} {σ:List AO} {A:TW} {v:Nat->Option V} {b p:Nat} {n:List Nat} {pl:List Nat}
theorem ft1{η:ac}{e:Ex}(hn:n.length<=5)(hl:(bZ cD (n.map λc=>[c])).length<=25)(he:evx F e σ η=some (.str n,σ)):evx F (.bin .Add (.bin .Add (.cst (.str [46,46,46])) (.me .join (.cst (.str [46,46,46])) (.cons e .nil))) (.cst (.str [46,46,46]))) σ η=some (.str (y8 n),σ):=by
 have j:meF .join σ (.str [46,46,46]) [.str n]=some (.str (bZ cD (n.map λc=>[c]))):=by
  show (if n.length+n.length*3<=lim then some (V.str (bZ [46,46,46] (n.map λc=>[c]))) else none)=_
  rw[if_pos (by unfold lim;lia)];rfl
 exact aD (aD aj (xY aj rfl (aI he) j) (bO.trans (if_pos (by unfold lim;show 3+_<=1000000;omega)))) aj (bO.trans (if_pos (by rw[List.length_append];unfold lim;show 3+_+3<=1000000;omega)))
theorem w7{a:Bool}:hR .IsNot σ (.bool a) (.bool a)=some false:=by cases a <;> rfl
theorem gd1(n:List Nat):(n==[])=n.isEmpty:=by cases n <;> rfl
theorem mS(K:LawOk F){P:List Nat}(h22:v 22=some (.str n))(h24:v 24=some (.str P))(ok:nZ P=true)(e:x7 P n=n.isEmpty):∃ ex,exs F vO σ (LF A v)=some (.next,σ++ex,LF A v):=by
 refine a4 (K.ell σ (P:=P) (t:=n) ok) λex h=>?_
 rw[e] at h
 exact⟨ex,(jI (uI (bc (az (vl h24) (aI (vl h22))) h) (a0 (vl h22) aj (oo.trans (congrArg some (gd1 n)))) w7)).trans a9⟩
theorem wA(K:LawOk F)(P:ej σ A.ty A.rm pl)(h13:v 13=some (.ref b))(h21:v 21=some (.int (p:Int)))(hb:σ[b]?=some ⟨aJ pl 3,none⟩)(hb3:3<=b)(hp:p<3) :
  ∃ σ' v',exs F bk1 σ (LF A v)=some (.next,σ',LF A v')/\(v' 12=v 12/\v' 13=v 13)/\ej σ' A.ty A.rm pl/\σ'[b]?=some ⟨aJ pl 3,none⟩:=by
 refine byQ λQ kQ=>?_
 have hin:=ca pl p
 have hn:=wq hin
 generalize hnn:nmL (lying pl p)=n at hn
 have sn:=sh hn
 have ix:dH σ (.ref b) (.int (p:Int))=some (.str n):=(yf (j:=p) ⟨by lia,by omega⟩ (dX hb) ((bE (by lia) (by rw[eX];omega)).trans (by rw[Int.toNat_natCast]))).trans ((ky hp).trans (by rw[hnn]))
 have fm:=ao (List.all_eq_true.mp cc1 n hn)
 have ft:=ao (List.all_eq_true.mp vp n hn)
 have f1:=ao ft.1;have f2:=ao ft.2
 obtain ⟨ex1,e1⟩:=K.ell σ (P:=y8 n) (t:=sP) fm.1
 replace e1:=(fm.2)▸e1
 generalize hv2:up (up v 22 (.str n)) 23 (.str (cJ n))=v2
 have g22:v2 22=some (.str n):=by rw[← hv2];rfl
 have g23:v2 23=some (.str (cJ n)):=by rw[← hv2];rfl
 have k12:v2 12=v 12/\v2 13=v 13:=by rw[← hv2];exact⟨rfl,rfl⟩
 have k21:v2 21=some (.int (p:Int)):=by exact(hv2)▸(h21)
 obtain ⟨ex2,e2⟩:=mS (F:=F) (σ:=σ++ex1) (A:=A) (v:=up v2 24 (.str (n++cD++cJ n))) K g22 rfl f1.1 (beq_iff_eq.mp f1.2)
 obtain ⟨ex3,e3⟩:=mS (F:=F) (σ:=σ++ex1++ex2) (A:=A) (v:=up (up v2 24 (.str (n++cD++cJ n))) 24 (.str (cD++cJ n++cD++cJ n))) K g22 rfl f2.1 (beq_iff_eq.mp f2.2)
 have wx:evx F rC (σ++ex1) (LF A v2)=some (.tup [.str (n++cD++cJ n),.str (cD++cJ n++cD++cJ n)],σ++ex1):=by
  refine gu (az (aD (aD (vl g22) aj (bO.trans (if_pos ?_))) (vl g23) (bO.trans (if_pos ?_))) (aI (aD (aD (aD aj (vl g23) (bO.trans (if_pos ?_))) aj (bO.trans (if_pos ?_))) (vl g23) (bO.trans (if_pos ?_))))) (show 2<=lim by decide) <;>
   simp only[List.length_append,List.length_cons,List.length_nil] <;> unfold lim <;> lia
 generalize hv3:up (up v2 24 (.str (n++cD++cJ n))) 24 (.str (cD++cJ n++cD++cJ n))=v3 at e3
 have fo:exs F (.for_ (.loc 24) rC vO) (σ++ex1) (LF A v2)=some (.next,σ++ex1++ex2++ex3,LF A v3):=by
  refine(yc wx rfl).trans ?_
  show foN (.loc 24) (λσ η=>exs F vO σ η) 3 (.seq [.str (n++cD++cJ n),.str (cD++cJ n++cD++cJ n)]) (σ++ex1) _=_
  rw[e8 (η₁:=LF A (up v2 24 (.str (n++cD++cJ n)))) rfl rfl,e2]
  dsimp only
  rw[e8 (η₁:=LF A v3) rfl (by rw[← hv3];rfl),e3]
  exact l3 rfl
 have k3:v3 22=v2 22/\v3 21=v2 21/\v3 12=v2 12/\v3 13=v2 13:=by rw[← hv3];exact⟨rfl,rfl,rfl,rfl⟩
 generalize hs3:σ++ex1++ex2++ex3=σ3 at fo
 have P3:ej σ3 A.ty A.rm pl:=λq hq=>hs3▸a8 (a8 (a8 (P q hq)))
 have b3:σ3[b]?=some ⟨aJ pl 3,none⟩:=hs3▸a8 (a8 (a8 hb))
 have pre:∀ {R:Sx},exs F (.seq (.asg 22 (.idx (.loc 13) (.loc 21)))
 (.seq (.asg 23 (.slc (.loc 22) (.neg (.cst (.int 1))) .nil .nil))
 (.seq (sNo (.cmp .IsNot (.call 1 (.cons jP1 (.cons (.cst (.str [100,99,98,97])) .nil))) (.cst (.bool true))))
 (.seq (.for_ (.loc 24) rC vO) R)))) σ (LF A v)=exs F R σ3 (LF A v3):=λ{R} =>
  (av (bu (vl h13) (vl h21) ix)).trans ((av (uH (vl rfl) (x9 aj) fR fR (er1 hn))).trans (by
   rw[hv2]
   exact(jI (uI (bc (az (ft1 (by lia) (by lia) (vl g22)) (aI aj)) e1) aj w7)).trans (aE fo)))
 have kk:v3 12=v 12/\v3 13=v 13:=⟨k3.2.2.1.trans k12.1,k3.2.2.2.trans k12.2⟩
 have c22:evx F (.cmp .Eq (.loc 22) (.cst (.str []))) σ3 (LF A v3)=some (.bool (n==[]),σ3):=a0 (vl (k3.1.trans g22)) aj oo
 cases n with
 | cons c n =>
  have z:evx F uX σ3 (LF A v3)=some (.bool false,σ3):=by
   unfold uX
   rw[gU,c22]
   rfl
  exact kQ ⟨_,_,pre.trans ((jI z).trans a9),kk,P3,b3⟩
 | nil =>
  have kp:=P3 p hp
  replace kp:=(List.map_eq_nil_iff.mp hnn)▸kp
  have z:evx F uX σ3 (LF A v3)=some (.bool false,σ3.set p ⟨[],some ((A.rm.getD p 0:Nat):Int)⟩):=by
   unfold uX
   rw[gU,c22]
   exact uI (iE (bu (ah rfl) (vl (k3.2.1.trans k21)) (rA hp)) kp fg ((K.pop _ _).trans (iF1 kp))) (gu (az aj (aI aj)) (show 2<=lim by decide)) rfl
  refine kQ ⟨_,_,pre.trans ((jI z).trans a9),kk,λq hq=>?_,bH b3 (by lia)⟩
  by_cases e:p=q
  ·subst e
   rw[List.map_eq_nil_iff.mp hnn]
   exact dj kp
  ·exact bH (P3 q hq) e
theorem tq(K:LawOk F)(P:ej σ A.ty A.rm pl)(h13:v 13=some (.ref b))(hb:σ[b]?=some ⟨aJ pl 3,none⟩)(hb3:3<=b) :
  ∃ σ' v',exs F ap1 σ (LF A v)=some (.next,σ',LF A v')/\(v' 12=v 12/\v' 13=v 13)/\ej σ' A.ty A.rm pl/\σ'[b]?=some ⟨aJ pl 3,none⟩:=by
 refine byQ λQ kQ=>?_
 obtain ⟨σ',η',h2,q⟩:=fG (F:=F) (i:=21) (it:=.range (.cons (.bf .len (.cons (.loc 13) .nil)) .nil)) (b:=bk1) (σ:=σ) (η:=LF A v) (l:=(List.range 3).map λ(k:Nat)=>V.int (k:Int))
  (λl σ' η'=>∃ d v',d<=3/\l=((List.range 3).drop d).map (λ(k:Nat)=>V.int (k:Int))/\ej σ' A.ty A.rm pl/\σ'[b]?=some ⟨aJ pl 3,none⟩/\(v' 12=v 12/\v' 13=v 13)/\η'=LF A v')
  (bR (n:=3) (mJ (aI (vl h13)) ((xz hb).trans (by rw[eX]))) (by decide)) (dg 3) ⟨0,v,by decide,rfl,P,hb,⟨rfl,rfl⟩,rfl⟩ (λx l σ' η' ⟨d,v',hd,el,P',hb',kv,eη⟩=>by
   have hd2:d<3:=by
    refine Or.elim (Nat.lt_or_ge d 3) (λh=>?_) (λh=>?_)
    ·exact h
    ·rw[List.drop_of_length_le (by rw[List.length_range];exact h)] at el;cases el
   rw[List.drop_eq_getElem_cons (by rw[List.length_range];exact hd2),List.getElem_range,List.map_cons] at el
   injection el with e1 e2
   subst e1 eη
   refine cC (wA (F:=F) (σ:=σ') (A:=A) (v:=up v' 21 (.int (d:Int))) K P' (kv.2.trans h13) rfl hb' hb3 hd2) λσ2 v2 h_p=>?_;have s2:=h_p.1;have k2:=h_p.2.1;have P2:=h_p.2.2.1;have b2:=h_p.2.2.2
   exact⟨_,_,s2,d+1,v2,hd2,e2,P2,b2,⟨k2.1.trans kv.1,k2.2.trans kv.2⟩,rfl⟩)
 refine j91 (q) λd v' hd el P' hb' kv eη=>?_
 subst eη
 exact kQ ⟨σ',v',h2,kv,P',hb'⟩
end
theorem pD(m f y:Nat):(plN m f y).length=4:=rfl
structure AOk (A:TW):Prop where
 T:TyOk A.ty
 rm:A.rm.length=3
 bd:∀ p,p<3->A.rm.getD p 0<=1000
 f:A.f<3
 y:A.y=1\/A.y=2
 s:A.s≠34
 d:A.dn<15
theorem AOk.y3{A:TW}(O:AOk A):A.y<=3:=by rcases O.y with e | e <;> rw[e] <;> decide
section
variable {F:Fn} {σ:List AO} {A:TW} {v:Nat->Option V} {m b:Nat} {R:Sx}
theorem at_{v1 v2:V}{e:Ex}{σ₁:List AO}(h:evx F e σ (LF A v)=some (.tup [v1,v2],σ₁)):exs F (.seq (.asgT [15,16] e) R) σ (LF A v)=exs F R σ₁ (LF A (up (up v 15 v1) 16 v2)):=eT1 h rfl
theorem wB(K:LawOk F)(O:AOk A)(h1:1<=m)(h15:m<=15)(h12:v 12=some (.lst (ag (plN (m - 1) A.f A.y))))(h13:v 13=some (.ref b))(h14:v 14=some (.int (m:Int)))
  (P:ej σ A.ty A.rm (plN (m - 1) A.f A.y)) (hb:σ[b]?=some ⟨aJ (plN (m - 1) A.f A.y) 3,none⟩) :
  ∃ σ' b' v',exs F yK σ (LF A v)=some (.next,σ',LF A v')/\(v' 12=some (.lst (ag (plN m A.f A.y)))/\v' 13=some (.ref b'))/\ej σ' A.ty A.rm (plN m A.f A.y)/\σ'[b']?=some ⟨aJ (plN m A.f A.y) 3,none⟩:=by
 refine byQ λQ kQ=>?_
 obtain ⟨Modd,Md3,Mh3,Mt3,Mne,Mtops,Moff,Mon,Mrest,Mto,Mat⟩:=wC h1 h15 O.f O.y
 have l0:=pD (m - 1) A.f A.y
 have l1:=pD m A.f A.y
 have lt:=ca (plN (m - 1) A.f A.y)
 have rd:=K.read σ (n:=m) (s:=A.s) (v:=vt m) (c:=m / 2 ^ (vt m+1)) O.s (by lia) Modd (by lia)
 generalize plN (m - 1) A.f A.y=q0 at *
 generalize hq1:plN m A.f A.y=q1 at *
 generalize vt m=d at *
 have d4:d<4:=by lia
 generalize hh:q0.getD d 0=h at *
 generalize q1.getD d 0=t at *
 generalize hv1:up (up v 15 (.int (d:Int))) 16 (.str (mrk (m / 2 ^ (d+1))))=v1
 have g12:v1 12=some (.lst (ag q0)):=hv1▸h12
 have g13:v1 13=some (.ref b):=hv1▸h13
 have g14:v1 14=some (.int (m:Int)):=hv1▸h14
 have g15:v1 15=some (.int (d:Int)):=hv1▸rfl
 have g16:v1 16=some (.str (mrk (m / 2 ^ (d+1)))):=hv1▸rfl
 obtain ⟨ex,tx⟩:=dQ1 (F:=F) (σ:=σ) (A:=A) (v:=up v1 17 (.int (h:Int))) (h:=h) K g15 g13 d4 Mtops hb
 have P1:ej (σ++ex) A.ty A.rm q0:=λq hq=>a8 (P q hq)
 have kh:=P1 h Mh3
 rw[Moff] at kh
 have kt:=P1 t Mt3
 have kt1:((σ++ex).set h ⟨aV A.ty (lying q1 h),some ((A.rm.getD h 0:Nat):Int)⟩)[t]?=some ⟨aV A.ty (lying q0 t),some ((A.rm.getD t 0:Nat):Int)⟩:=bH kt Mne
 have pu:=(K.push _ _).trans (au1 (ty:=A.ty) (d:=d) (Nat.le_trans (fW (lt t)).2 (by decide)) kt1)
 replace pu:=(Mon)▸pu
 have P2:ej (((σ++ex).set h ⟨aV A.ty (lying q1 h),some ((A.rm.getD h 0:Nat):Int)⟩).set t ⟨aV A.ty (lying q1 t),some ((A.rm.getD t 0:Nat):Int)⟩) A.ty A.rm q1:=λq hq=>by
  by_cases e:q=t
  ·subst e;exact dj kt1
  ·by_cases e2:q=h
   ·subst e2;exact bH (dj kh) (Ne.symm e)
   ·exact(Mrest q hq e2 e)▸(bH (bH (P1 q hq) (Ne.symm e2)) (Ne.symm e))
 generalize ((σ++ex).set h ⟨aV A.ty (lying q1 h),some ((A.rm.getD h 0:Nat):Int)⟩).set t ⟨aV A.ty (lying q1 t),some ((A.rm.getD t 0:Nat):Int)⟩=σ2 at pu P2
 have P3:ej (eσ σ2 (aJ q1 3)) A.ty A.rm q1:=λq hq=>a8 (P2 q hq)
 generalize hv2:up (up (up (up v1 17 (.int (h:Int))) 18 (.lst (tvs h))) 19 (.ref h)) 20 (.lst [cS (item A.ty d)])=v2
 have k14:v2 14=some (.int (m:Int)):=hv2▸g14
 have k17:v2 17=some (.int (h:Int)):=hv2▸rfl
 have k15:v2 15=some (.int (d:Int)):=hv2▸g15
 have k20:v2 20=some (.lst [cS (item A.ty d)]):=hv2▸rfl
 obtain ⟨σ',v',h_p⟩:=tq (F:=F) (A:=A) (v:=up (up v2 12 (.lst (ag q1))) 13 (.ref σ2.length)) K P3 rfl eg (List.getElem?_eq_some_iff.mp (P2 2 (by decide))).1;have nl:=h_p.1;have kv:=h_p.2.1;have P4:=h_p.2.2.1;have b4:=h_p.2.2.2
 refine kQ ⟨σ',σ2.length,v',?_,kv,P4,b4⟩
 refine(at_ (bc (az (vl h14) (aI (ah rfl))) rd)).trans ?_
 rw[hv1]
 refine(jI (jN1 (k:=false) (l:=false) (a0 (vl g13) (mQ fg (Nat.zero_le _)) (pK hb)) (a0 (vl g16) (xl (vl g14) (vl g15) (by lia) (by omega)) (j3.trans (congrArg (λb=>some (!b)) BEq.rfl))))).trans ?_
 refine(av (bu (vl g12) (vl g15) ((eS (by lia) (by lia)).trans (by rw[hh])))).trans ((av tx).trans ((jI (a0 (fg1 rfl) (cB1 rfl) (fo1 Mh3))).trans ((av (bu (ah rfl) (vl rfl) (rA Mh3))).trans ((av (y4 (v:=up (up (up v1 17 (.int (h:Int))) 18 (.lst (tvs h))) 19 (.ref h)) K g14 rfl kh)).trans ?_))))
 rw[hv2]
 refine(jI (a0 (vl k20) (mQ (aI (gu (az aj (aI (h81 O.T d4 (vl k15)))) (show 2<=lim by decide))) (show 1<=lim by decide)) (zd O.T d4))).trans ?_
 refine(rQ (iE (bu (ah rfl) (kW1 k14 k17 h1 (by omega) O.y3 Mat Mto) (rA Mt3)) kt1 (az aj (aI (h81 O.T d4 (vl k15)))) pu)).trans ?_
 have pa:=yZ (F:=F) (σ:=σ2) K k14 O.y3
 rw[hq1] at pa
 exact(av pa).trans ((av (wy K O.T rfl l1 O.rm O.bd P2)).trans ((aE nl).trans a9))
theorem bs1:((List.range 15).all λD=>(List.range' (D+1) (min (D+4) 16 - (D+1))).length==(Builtin.Range.rangeSize ((D:Int)+1) (min ((D:Int)+4) 16) 1).toNat)=true:=by decide +kernel
theorem vW{D:Nat}(h:D<15):dc ((D:Int)+1) (min ((D:Int)+4) 16) 1=(List.range' (D+1) (min (D+4) 16 - (D+1))).map λ(k:Nat)=>V.int (k:Int):=by
 have e:=beq_iff_eq.mp (List.all_eq_true.mp bs1 D (List.mem_range.mpr h))
 unfold dc
 rw[← e,List.length_range',List.range'_eq_map_range,List.map_map]
 refine List.map_congr_left λk _=>?_
 show V.int _=V.int _
 congr 1
 push_cast
 lia
theorem dH1{η:ac}{e1 e2:Ex}{p q:Int}(h1:evx F e1 σ η=some (.int p,σ))(h2:evx F e2 σ η=some (.int q,σ))(ok:iQ p q 1=true):evx F (.range (.cons e1 (.cons e2 .nil))) σ η=some (.rng p q 1,σ):=by
 rw[fT,az h1 (az h2 fg)]
 show (if iQ p q 1 then some (V.rng p q 1) else none).map _=_
 rw[if_pos ok];rfl
theorem b11(hD:A.dn<15):evx F rE σ (LF A v)=some (.rng ((A.dn:Int)+1) (min ((A.dn:Int)+4) 16) 1,σ):=by
 have mn:bfF .min σ [.int ((A.dn:Int)+4),.int 16]=some (.int (min ((A.dn:Int)+4) 16)):=by
  show some (V.int (if (16:Int)<(A.dn:Int)+4 then 16 else (A.dn:Int)+4))=_
  congr 2
  split <;> lia
 exact dH1 (aD (ah rfl) aj dY) (mJ (az (aD (ah rfl) aj dY) (aI aj)) mn) (by unfold iQ;exact decide_eq_true (by lia))
theorem tu(K:LawOk F)(O:AOk A)(h12:v 12=some (.lst (ag (plN A.dn A.f A.y))))(h13:v 13=some (.ref b))
  (P:ej σ A.ty A.rm (plN A.dn A.f A.y)) (hb:σ[b]?=some ⟨aJ (plN A.dn A.f A.y) 3,none⟩) :
  ∃ σ' b' v' pl',exs F (.for_ (.loc 14) rE yK) σ (LF A v)=some (.next,σ',LF A v')/\v' 13=some (.ref b')/\σ'[b']?=some ⟨aJ pl' 3,none⟩:=by
 refine byQ λQ kQ=>?_
 have it:bh (.rng ((A.dn:Int)+1) (min ((A.dn:Int)+4) 16) 1)=some (.seq ((List.range' (A.dn+1) (min (A.dn+4) 16 - (A.dn+1))).map λ(k:Nat)=>V.int (k:Int))):=congrArg (λl=>some (ItS.seq l)) (vW O.d)
 obtain ⟨σ',η',h2,q⟩:=fG (F:=F) (i:=14) (it:=rE) (b:=yK) (σ:=σ) (η:=LF A v) (l:=(List.range' (A.dn+1) (min (A.dn+4) 16 - (A.dn+1))).map λ(k:Nat)=>V.int (k:Int))
  (λl σ' η'=>∃ (j n b':Nat) (v':Nat->Option V),l=(List.range' (j+1) n).map (λ(k:Nat)=>V.int (k:Int))/\j+n<=15/\(v' 12=some (.lst (ag (plN j A.f A.y)))/\v' 13=some (.ref b'))/\ej σ' A.ty A.rm (plN j A.f A.y)/\σ'[b']?=some ⟨aJ (plN j A.f A.y) 3,none⟩/\η'=LF A v')
  (b11 O.d) it ⟨A.dn,min (A.dn+4) 16 - (A.dn+1),b,v,rfl,by have:=O.d;omega,⟨h12,h13⟩,P,hb,rfl⟩ (λx l σ' η' ⟨j,n,b',v',el,hj,kv,P',hb',eη⟩=>by
   cases n with
   | zero=>cases el
   | succ n =>
    rw[List.range'_succ,List.map_cons] at el
    injection el with e1 e2
    subst e1 eη
    obtain ⟨σ2,b2,v2,h_p⟩:=wB (F:=F) (σ:=σ') (A:=A) (v:=up v' 14 (.int ((j+1:Nat):Int))) (m:=j+1) K O (Nat.succ_pos j) (by omega) kv.1 kv.2 rfl P' hb';have s2:=h_p.1;have k2:=h_p.2.1;have P2:=h_p.2.2.1;have hb2:=h_p.2.2.2
    exact⟨_,_,s2,j+1,n,b2,v2,e2,by omega,k2,P2,hb2,rfl⟩)
 refine j61 (q) λj n b' v' el hj kv P' hb' eη=>?_
 subst eη
 exact kQ ⟨σ',b',v',_,h2,kv.2,hb'⟩
end
theorem xp{tg:Ex}{b:List AO->ac->Out}(Inv:List V->List AO->ac->Prop)
  (h:∀ x l σ η,Inv (x::l) σ η->∃ η₁ σ' η',asF tg x η=some η₁/\b σ η₁=some (.next,σ',η')/\Inv l σ' η') :
  ∀ (l:List V) (σ:List AO) (η:ac) (n:Nat),l.length<n->Inv l σ η->∃ σ' η',foN tg b n (.seq l) σ η=some (.next,σ',η')/\Inv [] σ' η'
 | l,σ,η,0,hn,_=>absurd hn (Nat.not_lt_zero _)
 | [],σ,η,n+1,_,hi=>⟨σ,η,l3 rfl,hi⟩
 | x::l,σ,η,n+1,hn,hi=>by
  refine byQ λQ kQ=>?_
  refine ei (h x l σ η hi) λη₁ σ' η' h_p=>?_;have a:=h_p.1;have h1:=h_p.2.1;have h2:=h_p.2.2
  obtain ⟨hP1,hQ1,h_p⟩:=xp Inv h l σ' η' n (by simpa using hn) h2;have e:=h_p.1;have h3:=h_p.2
  refine kQ ?_
  refine fw1 hP1 hQ1 ?_ h3
  rw[e8 rfl a,h1]
  exact e
noncomputable def eY(ws:List Int)(k:Nat):Nat:=(ws.getD (3+k) 0 / 648 % 3).toNat
noncomputable def hy1(ws:List Int):List Nat:=(List.range 4).map (eY ws)
theorem cj1(ws:List Int):hy1 ws∈iS1:=by
 have h:∀ k,eY ws k<3:=λk=>by
  unfold eY
  have:=Int.emod_lt_of_pos (ws.getD (3+k) 0 / 648) (show (0:Int)<3 by decide)
  lia
 have h0:=h 0;have h1:=h 1;have h2:=h 2;have h3:=h 3
 refine List.mem_map.mpr ⟨eY ws 0+3*eY ws 1+9*eY ws 2+27*eY ws 3,List.mem_range.mpr (by lia),?_⟩
 show [_,_,_,_]=[eY ws 0,eY ws 1,eY ws 2,eY ws 3]
 have e0:(eY ws 0+3*eY ws 1+9*eY ws 2+27*eY ws 3) % 3=eY ws 0:=by lia
 have e1:(eY ws 0+3*eY ws 1+9*eY ws 2+27*eY ws 3) / 3 % 3=eY ws 1:=by lia
 have e2:(eY ws 0+3*eY ws 1+9*eY ws 2+27*eY ws 3) / 9 % 3=eY ws 2:=by lia
 have e3:(eY ws 0+3*eY ws 1+9*eY ws 2+27*eY ws 3) / 27 % 3=eY ws 3:=by lia
 rw[e0,e1,e2,e3]
structure EndOk (pl:List Nat) (g:Int):Prop where
 l0:0<=dQ pl g/\dQ pl g<=15
 way:∀ ht∈uz,aN1 pl ht=true->(sG pl g ht - dQ pl g).natAbs<=1/\fs pl ht<4/\cJ (fz pl ht.1)=[97+fs pl ht]
 none_:dQ pl g=0->wu pl g=[]
 one:dQ pl g≠0->wu pl g=[vt (dQ pl g).toNat]
theorem ge1{pl:List Nat}{g:Nat}(h:pl∈iS1)(hg:g<3):EndOk pl (g:Int):=by
 have q:=List.all_eq_true.mp (List.all_eq_true.mp cJ1 pl h) g (List.mem_range.mpr hg)
 have a:=ao q;have b:=ao a.1
 refine⟨of_decide_eq_true b.1,λht hm hc=>?_,λh0=>?_,λh0=>?_⟩
 ·have c:=List.all_eq_true.mp b.2 ht hm
  rw[hc] at c
  have d:=ao c;have e:=ao d.2
  exact⟨of_decide_eq_true d.1,of_decide_eq_true e.1,beq_iff_eq.mp e.2⟩
 ·have c:=a.2
  rw[if_pos h0] at c
  exact beq_iff_eq.mp c
 ·have c:=a.2
  rw[if_neg h0] at c
  exact beq_iff_eq.mp c
theorem bq1{n:List Nat}(hn:n∈da):n.isEmpty=true\/∃ c∈[97,98,99,100],cJ n=[c]:=by
 have key:(da.all λn=>n.isEmpty || [97,98,99,100].any λc=>cJ n==[c])=true:=by decide
 rcases (Bool.or_eq_true _ _).mp (List.all_eq_true.mp key n hn) with h | h
 ·exact .inl h
 ·refine a4 (List.any_eq_true.mp h) λc h_p=>?_;have hc:=h_p.1;have e:=h_p.2
  exact .inr ⟨c,hc,beq_iff_eq.mp e⟩
theorem cy1{σ:List AO}{k:Nat}(h:k<4):meF .index σ (.str [97,98,99,100]) [.str [97+k]]=some (.int (k:Int)):=by
 have:k=0\/k=1\/k=2\/k=3:=by lia
 rcases this with rfl | rfl | rfl | rfl <;> rfl'
noncomputable def h41(ht:Nat×Nat):V:=.tup [.int (ht.1:Int),.int (ht.2:Int)]
theorem a41:∀ ht∈uz,ht.1<3/\ht.2<3:=by
 have key:(uz.all λht=>decide (ht.1<3)&&decide (ht.2<3))=true:=by decide
 exact λht h=>⟨of_decide_eq_true (ao (List.all_eq_true.mp key ht h)).1,of_decide_eq_true (ao (List.all_eq_true.mp key ht h)).2⟩
theorem gC(a b:List Nat):ag (a++b)=ag a++ag b:=by unfold ag;rw[List.map_append]
theorem aL1{σ:List AO}{nb:Nat}{a b:List Nat}(h:σ[nb]?=some ⟨ag a,none⟩):hR .Eq σ (.ref nb) (.lst (ag b))=some (a==b):=by
 have e:=cH1 (σ:=σ) a b
 show (if okP 4 (der σ (.ref nb))&&okP 4 (.lst (ag b)) then some (veq (der σ (.ref nb)) (.lst (ag b))) else none)=_
 refine(dX h)▸?_
 exact e
theorem eD(k m f y:Nat):f4 k m f y<3:=by
 unfold f4 nh
 have:=Int.emod_lt_of_pos ((f:Int)+(if k % 2=0 then (y:Int) else 3 - y)*(((m:Int)+2 ^ k) / 2 ^ (k+1))) (show (0:Int)<3 by decide)
 omega
section
variable {F:Fn} {σ:List AO} {A:TW} {v:Nat->Option V} {d h t b nb g:Nat} {pl acc:List Nat}
noncomputable def s8(pl:List Nat):List V:=(List.range 3).map λp=>V.str (fz pl p)
theorem qt{k:Nat}(hk:k∈gc):k<4:=by
 have:(gc.all (·<4))=true:=by decide
 exact of_decide_eq_true (List.all_eq_true.mp this k hk)
theorem fE1(hw:A.ws.length=7):evx F hZ1 σ (LF A v)=some (.lst (ag (hy1 A.ws)),σ):=by
 refine cq (F:=F) (σ:=σ) (i:=42) (l:=List.range 4) (g:=λ(k:Nat)=>V.int (k:Int)) (f:=λk=>V.int (eY A.ws k:Nat)) (bR (n:=4) aj (by decide)) (dg 4) (λk hk=>?_) (by decide)
 have hk4:=List.mem_range.mp hk
 have e:V.int ((eY A.ws k:Nat):Int)=V.int (A.ws.getD (3+k) 0 / 648 % 3):=by
  unfold eY
  rw[Int.toNat_of_nonneg (Int.emod_nonneg _ (by decide))]
 refine(e)▸?_
 exact aD (aD (bu (ah rfl) (aD aj (ah rfl) dY) (mR (i:=3+k) (by lia) (by lia))) aj (cP (by decide) (by decide))) aj (cX (by decide))
theorem eB1(hp:pl.length=4)(h12:v 12=some (.lst (ag pl))):evx F a11 σ (LF A v)=some (.lst (s8 pl),σ):=by
 refine cq (F:=F) (σ:=σ) (i:=43) (l:=List.range 3) (g:=λ(k:Nat)=>V.int (k:Int)) (f:=λp=>V.str (fz pl p)) (bR (n:=3) aj (by decide)) (dg 3) (λp hp3=>?_) (by decide)
 have sl:=fW (ca pl p)
 have c:=uV (F:=F) (σ:=σ) (η:=(clr (LF A v) [⟨"peg",43,true⟩,⟨"places",12,false⟩]).set 43 (some (.int (p:Int)))) (vars:=[⟨"k",44,true⟩,⟨"peg",43,false⟩,⟨"places",12,false⟩]) (i:=44) (elt:=.idx (.cst (.str [97,98,99,100])) (.loc 44)) (it:=jJ) (cond:=.cmp .Eq (.idx (.loc 12) (.loc 44)) (.loc 43)) (l:=gc) (g:=λ(k:Nat)=>V.int (k:Int)) (f:=λ(k:Nat)=>V.str [97+k]) (p:=λk=>pl.getD k 0==p)
  rB rfl nofun (λk hk=>?_) (λk hk=>bu aj (ah rfl) (kY (qt hk))) (by decide)
 ·have e:(gc.filter λk=>pl.getD k 0==p).map (λk=>V.str [97+k])=((lying pl p).map λk=>[97+k]).map V.str:=by unfold lying;rw[List.map_map];rfl
  have e2:((lying pl p).map λk=>[97+k]).flatten=fz pl p:=l5 (97+·) _
  rw[e] at c
  refine xY aj rfl (aI c) ((rZ _ ?_).trans (by rw[e2]))
  rw[e2]
  unfold fz nmL lim
  rw[List.length_map];omega
 ·have hk4:=qt hk
  refine iF (a0 (bu (ah (congrArg some h12)) (ah rfl) (eS (by lia) (by lia))) (ah rfl) ip) (congrArg some ?_)
  rw[Bool.eq_iff_iff,decide_eq_true_eq,beq_iff_eq]
  lia
theorem eC1{p:Nat}(hp:p<3):dH σ (.lst (s8 pl)) (.int (p:Int))=some (.str (fz pl p)):=by
 unfold s8
 rw[uU (Int.natCast_nonneg _) (by omega) (by rw[List.length_map,List.length_range];omega),Int.toNat_natCast,List.getElem?_map,List.getElem?_range hp];rfl
theorem jx1(K:LawOk F)(h23:v 23=some (.str (cJ (fz pl h))))(h27:v 27=some (.lst (s8 pl)))(h29:v 29=some (.int (t:Int)))(hh:h<3)(ht:t<3):∃ ex,evx F g81 σ (LF A v)=some (.bool (aN1 pl (h,t)),σ++ex):=by
 have n1:=wq (ca pl h)
 have n2:=wq (ca pl t)
 have s2:=sh n2
 rcases bq1 n1 with e | ⟨c,hc,e⟩
 ·have e0:fz pl h=[]:=List.isEmpty_iff.mp e
  refine⟨[],?_⟩
  unfold g81 aN1
  rw[e0] at h23 ⊢
  rw[gU,a0 (vl h23) aj (j3 (b:=[])),List.append_nil]
  rfl
 ·have fa:=ao (List.all_eq_true.mp (List.all_eq_true.mp zu _ n2) c hc)
  have e':cJ (fz pl h)=[c]:=e
  refine a4 (K.ell σ (P:=y8 (fz pl t++[c])) (t:=sP) fa.1) λex hx=>?_
  refine⟨ex,?_⟩
  have ls:(bZ cD ((fz pl t++[c]).map λc=>[c])).length<=25:=by
   have key:(da.all λn=>[97,98,99,100].all λc=>decide ((bZ cD ((n++[c]).map λc=>[c])).length<=25))=true:=by decide
   exact of_decide_eq_true (List.all_eq_true.mp (List.all_eq_true.mp key _ n2) c hc)
  have l4:(fz pl t).length<=4:=s2.1
  have cb:aN1 pl (h,t)=x7 (y8 (fz pl t++[c])) sP:=by
   rw[show x7 (y8 (fz pl t++[c])) sP=decide (c<(fz pl t).getLast?.getD 1000) from beq_iff_eq.mp fa.2]
   unfold aN1
   dsimp only
   rw[e']
   cases hr:fz pl h with
   | nil=>rw[hr] at e';cases e'
   | cons a l=>rfl
  rw[e'] at h23
  refine(cb)▸?_
  unfold g81
  rw[gU,a0 (vl h23) aj (j3 (a:=[c]) (b:=[]))]
  exact bc (az (ft1 (by rw[List.length_append,List.length_singleton];omega) ls (aD (bu (vl h27) (vl h29) (eC1 ht)) (vl h23) (bO.trans (if_pos (by unfold lim;show _+1<=1000000;omega))))) (aI aj)) hx
theorem dh1(K:LawOk F)(hp:pl.length=4)(hd:d<4)(h12:v 12=some (.lst (ag pl)))(h15:v 15=some (.int (d:Int)))(h25:v 25=some (.int (g:Int)))(h29:v 29=some (.int (t:Int))):evx F ag1 σ (LF A v)=some (.int (dQ (pl.take d++[t]++pl.drop (d+1)) (g:Int)),σ):=by
 have lo:(ag pl).length=4:=by unfold ag;rw[List.length_map,hp]
 have a1:pk σ (.lst (ag pl)) .none (.int (d:Int)) .none=some (.lst (ag (pl.take d))):=by
  show some (V.lst (jL (ag pl) none (some (d:Int)) none))=_
  rw[bd1 (ag pl) d (by lia)]
  unfold ag
  rw[List.map_take]
 have a2:pk σ (.lst (ag pl)) (.int ((d:Int)+1)) .none .none=some (.lst (ag (pl.drop (d+1)))):=by
  show some (V.lst (jL (ag pl) (some ((d+1:Nat):Int)) none none))=_
  rw[mW (ag pl) (d+1)]
  unfold ag
  rw[List.map_drop]
 have lt:(ag (pl.take d)).length=d:=by unfold ag;rw[List.length_map,List.length_take];lia
 have ld:(ag (pl.drop (d+1))).length=3 - d:=by unfold ag;rw[List.length_map,List.length_drop];omega
 refine bc (az (aD (v:=.lst (ag (pl.take d++[t]++pl.drop (d+1)))) (aD (uH (vl h12) fR (vl h15) fR a1) (mQ (aI (vl h29)) (show 1<=lim by decide)) (oz.trans (if_pos ?_))) (uH (vl h12) (aD (vl h15) aj dY) fR fR a2) (oz.trans ((if_pos ?_).trans ?_))) (aI (vl h25))) (K.left σ ?_)
 ·rw[lt];unfold lim;show d+1<=1000000;lia
 ·rw[List.length_append,lt,ld];unfold lim;show d+1+_<=1000000;lia
 ·rw[gC,gC];rfl
 ·rw[List.length_append,List.length_append,List.length_take,List.length_drop];show min d pl.length+1+(pl.length - (d+1))=4;lia
structure Wv (v:Nat->Option V) (pl:List Nat) (g nb b:Nat):Prop where
 h12:v 12=some (.lst (ag pl))
 h13:v 13=some (.ref b)
 h25:v 25=some (.int (g:Int))
 h26:v 26=some (.int (dQ pl g))
 h27:v 27=some (.lst (s8 pl))
 h28:v 28=some (.ref nb)
theorem yi(K:LawOk F)(E:EndOk pl (g:Int))(hp:pl.length=4){ht:Nat×Nat}(hm:ht∈uz)(W:Wv v pl g nb b)(h17:v 17=some (.int (ht.1:Int)))(h29:v 29=some (.int (ht.2:Int)))(hn:σ[nb]?=some ⟨ag acc,none⟩)(hacc:acc.length<=100){a:AO}(hb:σ[b]?=some a)(hnb:b≠nb) :
  ∃ σ' v',exs F ey1 σ (LF A v)=some (.next,σ',LF A v')/\Wv v' pl g nb b/\σ'[nb]?=some ⟨ag (if pJ pl g ht=true then acc++[fs pl ht] else acc),none⟩/\σ'[b]?=some a:=by
 obtain ⟨h,t⟩:=ht
 have hl:=a41 _ hm
 have n1:=wq (ca pl h)
 obtain ⟨ex,cx⟩:=jx1 (F:=F) (σ:=σ) (A:=A) (v:=up v 23 (.str (cJ (fz pl h)))) (pl:=pl) (h:=h) (t:=t) K rfl W.h27 h29 hl.1 hl.2
 have s1:∀ {R:Sx},exs F (.seq (.asg 23 (.slc (.idx (.loc 27) (.loc 17)) (.neg (.cst (.int 1))) .nil .nil)) R) σ (LF A v)=exs F R σ (LF A (up v 23 (.str (cJ (fz pl h))))):=λ{R} =>
  av (uH (bu (vl W.h27) (vl h17) (eC1 hl.1)) (x9 aj) fR fR (er1 n1))
 cases hc:aN1 pl (h,t) with
 | false =>
  rw[hc] at cx
  have nf:pJ pl g (h,t)=false:=by unfold pJ;rw[hc];rfl
  rw[nf,if_neg Bool.false_ne_true]
  exact zr _ _ (s1.trans ((jI cx).trans a9)) ⟨W.h12,W.h13,W.h25,W.h26,W.h27,W.h28⟩ (a8 hn) (a8 hb)
 | true =>
  rw[hc] at cx
  refine gq (E.way _ hm hc) λwa h_p=>?_;have wd:=h_p.1;have wt:=h_p.2
  unfold pJ
  rw[hc,Bool.true_and]
  unfold sG at wa ⊢
  generalize fs pl (h,t)=d at *
  have ax:=dh1 (F:=F) (σ:=σ++ex) (A:=A) (v:=up (up v 23 (.str (cJ (fz pl h)))) 15 (.int (d:Int))) (t:=t) K hp wd W.h12 rfl W.h25 h29
  have w26:=W.h26
  generalize dQ (pl.take d++[t]++pl.drop (d+1)) (g:Int)=a2 at *
  generalize dQ pl g=lf at *
  have wv:Wv (up (up (up v 23 (.str (cJ (fz pl h)))) 15 (.int (d:Int))) 30 (.int a2)) pl g nb b:=⟨W.h12,W.h13,W.h25,W.h26,W.h27,W.h28⟩
  have s2:exs F (.asg 15 (.me .index (.cst (.str [97,98,99,100])) (.cons (.loc 23) .nil))) (σ++ex) (LF A (up v 23 (.str (cJ (fz pl h)))))=some (.next,σ++ex,LF A (up (up v 23 (.str (cJ (fz pl h)))) 15 (.int (d:Int)))) :=
   oU (xY aj rfl (aI (v:=.str [97+d]) (by rw[← show cJ (fz pl h)=[97+d] from wt];exact vl rfl)) (cy1 wd))
  have cg:evx F (.cmp .Gt (.bf .abs (.cons (.bin .Sub (.loc 30) (.loc 26)) .nil)) (.cst (.int 1))) (σ++ex) (LF A (up (up (up v 23 (.str (cJ (fz pl h)))) 15 (.int (d:Int))) 30 (.int a2)))=some (.bool false,σ++ex):=by
   have ab:bfF .abs (σ++ex) [.int (a2 - lf)]=some (.int (if a2 - lf<0 then -(a2 - lf) else a2 - lf)):=rfl
   refine a0 (mJ (aI (aD (vl rfl) (vl w26) mx)) ab) aj (qK.trans (congrArg some (decide_eq_false ?_)))
   split <;> omega
  have lx:evx F (.cmp .Lt (.loc 30) (.loc 26)) (σ++ex) (LF A (up (up (up v 23 (.str (cJ (fz pl h)))) 15 (.int (d:Int))) 30 (.int a2)))=some (.bool (decide (a2<lf)),σ++ex):=a0 (vl rfl) (vl w26) mv
  by_cases q:a2<lf
  ·rw[decide_eq_true q] at lx
   have ap:=rn (F:=F) (a:=.loc 28) (b:=.loc 15) (σ:=σ++ex) (η:=LF A (up (up (up v 23 (.str (cJ (fz pl h)))) 15 (.int (d:Int))) 30 (.int a2))) (v:=.int (d:Int)) (vl wv.h28) (a8 hn) (vl rfl) (a8 hn) (by unfold ag lim;rw[List.length_map];lia)
   rw[show ag acc++[V.int (d:Int)]=ag (acc++[d]) from (gC acc [d]).symm] at ap
   rw[decide_eq_true q,if_pos rfl]
   exact zr _ _ (s1.trans ((fZ cx rfl ((aE s2).trans ((av ax).trans ((jI cg).trans ((fZ lx rfl ((rQ ap).trans a9)).trans a9))))).trans a9)) wv (dj (a8 hn)) (bH (a8 hb) (Ne.symm hnb))
  ·replace lx:=(decide_eq_false q)▸lx
   rw[decide_eq_false q,if_neg Bool.false_ne_true]
   exact zr _ _ (s1.trans ((fZ cx rfl ((aE s2).trans ((av ax).trans ((jI cg).trans ((jI lx).trans a9))))).trans a9)) wv (a8 hn) (a8 hb)
theorem u9(K:LawOk F)(E:EndOk pl (g:Int))(hp:pl.length=4)(W:Wv v pl g nb b)(hn:σ[nb]?=some ⟨[],none⟩){A':AO}(hb:σ[b]?=some A')(hnb:b≠nb) :
  ∃ σ' v',exs F (.for_ (.tup (.cons (.loc 17) (.cons (.loc 29) .nil))) yh ey1) σ (LF A v)=some (.next,σ',LF A v')/\Wv v' pl g nb b/\σ'[nb]?=some ⟨ag (wu pl g),none⟩/\σ'[b]?=some A':=by
 refine byQ λQ kQ=>?_
 have wx:evx F yh σ (LF A v)=some (.tup (uz.map h41),σ):=by
  have p2:∀ {a b:Int} {η:ac},evx F (.tup (.cons (.cst (.int a)) (.cons (.cst (.int b)) .nil))) σ η=some (.tup [.int a,.int b],σ):=λ{a b η}=>gu (az aj (aI aj)) (show 2<=lim by decide)
  exact gu (az p2 (az p2 (az p2 (az p2 (az p2 (aI p2)))))) (show 6<=lim by decide)
 obtain ⟨σ',η',h2,q⟩:=xp (tg:=.tup (.cons (.loc 17) (.cons (.loc 29) .nil))) (b:=λσ η=>exs F ey1 σ η) (λl σ' η'=>∃ (a r:List (Nat×Nat)) (v':Nat->Option V),a++r=uz/\l=r.map h41/\σ'[nb]?=some ⟨ag ((a.filter (pJ pl g)).map (fs pl)),none⟩/\σ'[b]?=some A'/\Wv v' pl g nb b/\η'=LF A v')
  (λx l σ' η' ⟨a,r,v',e,el,g0,g1,W',eη⟩=>by
   cases r with
   | nil=>cases el
   | cons ht r =>
    rw[List.map_cons] at el
    injection el with e1 e2
    subst e1 eη
    have hm:ht∈uz:=e▸List.mem_append_right _ List.mem_cons_self
    have al:a.length<=6:=by
     have:=congrArg List.length e
     rw[List.length_append] at this
     have w6:uz.length=6:=rfl
     lia
    obtain ⟨σ2,v2,s2,W2,k1,k2⟩:=yi (F:=F) (σ:=σ') (A:=A) (v:=up (up v' 17 (.int (ht.1:Int))) 29 (.int (ht.2:Int))) K E hp hm ⟨W'.h12,W'.h13,W'.h25,W'.h26,W'.h27,W'.h28⟩ rfl rfl g0 (by rw[List.length_map];exact Nat.le_trans (List.length_filter_le _ _) (by lia)) g1 hnb
    refine⟨_,_,_,rfl,s2,a++[ht],r,v2,by rw[List.append_assoc];exact e,e2,?_,k2,W2,rfl⟩
    rw[k1,List.filter_append,List.map_append]
    cases hq:pJ pl g ht with
    | true=>rw[if_pos rfl,List.filter_cons_of_pos hq];rfl
    | false=>rw[if_neg Bool.false_ne_true,List.filter_cons_of_neg (by rw[hq];exact Bool.false_ne_true)];simp) (uz.map h41) σ (LF A v) 7 (by decide) ⟨[],uz,v,rfl,rfl,hn,hb,W,rfl⟩
 refine uB (q) λa r v' e el g0 g1 W' eη=>?_
 have hr:r=[]:=by cases r with | nil=>rfl | cons _ _=>cases el
 rw[hr,List.append_nil] at e
 subst e eη
 exact kQ ⟨σ',v',(yc wx rfl).trans h2,W',g0,g1⟩
theorem cI1(K:LawOk F)(O:AOk A)(hw:A.ws.length=7){pl0:List Nat}(h13:v 13=some (.ref b))(hb:σ[b]?=some ⟨aJ pl0 3,none⟩):∃ σ' η',exs F j21 σ (LF A v)=some (.ret (.bool true),σ',η'):=by
 refine byQ λQ kQ=>?_
 have hg:=eD 3 15 A.f A.y
 have pg:F 9 [.int 3,.int 15,.int (A.f:Int),.int (A.y:Int)] σ=some (.int (f4 3 15 A.f A.y:Nat),σ):=K.place σ (k:=3) (m:=15) (by decide) O.y3
 generalize f4 3 15 A.f A.y=g at hg pg
 have E:=ge1 (cj1 A.ws) hg
 have hp:(hy1 A.ws).length=4:=rfl
 have lx:=λ(v:Nat->Option V)=>fE1 (F:=F) (σ:=σ) (v:=v) hw
 generalize hy1 A.ws=q at *
 obtain ⟨σ',v',s6,h_p⟩:=u9 (F:=F) (σ:=σ++[⟨[],none⟩]) (A:=A) (v:=up (up (up (up (up v 25 (.int (g:Int))) 12 (.lst (ag q))) 26 (.int (dQ q g))) 27 (.lst (s8 q))) 28 (.ref σ.length)) (b:=b) K E hp ⟨rfl,h13,rfl,rfl,rfl,rfl⟩ (by simp) (a8 hb) (Nat.ne_of_lt (List.getElem?_eq_some_iff.mp hb).1);have W:=h_p.1;have kn:=h_p.2.1;have kb:=h_p.2.2
 have pre:∀ {R:Sx},exs F (.seq (.asg 25 (.call 9 (.cons (.cst (.int 3)) (.cons (.cst (.int 15)) (.cons (.loc 4) (.cons (.loc 5) .nil)))))) (.seq (.asg 12 hZ1) (.seq (.asg 26 (.call 10 (.cons (.loc 12) (.cons (.loc 25) .nil)))) (.seq (.asg 27 a11) (.seq (.asg 28 (.new .nil)) (.seq (.for_ (.tup (.cons (.loc 17) (.cons (.loc 29) .nil))) yh ey1) R)))))) σ (LF A v)=exs F R σ' (LF A v'):=λ{R} =>
  (av (bc (az aj (az aj (az (ah rfl) (aI (ah rfl))))) pg)).trans ((av (lx _)).trans ((av (bc (az (vl rfl) (aI (vl rfl))) (K.left σ hp))).trans ((av (eB1 hp rfl)).trans ((av ab1).trans (aE s6)))))
 have or_x:evx F (.or (.cmp .Eq (.loc 13) (.lst .nil)) (.cmp .Eq (.loc 26) (.cst (.int 0)))) σ' (LF A v')=some (.bool (false || decide (dQ q g=0)),σ') :=
  jN1 (a0 (vl W.h13) (mQ fg (Nat.zero_le _)) (pK kb)) (a0 (vl W.h26) aj ip)
 rw[Bool.false_or] at or_x
 by_cases h0:dQ q g=0
 ·rw[decide_eq_true h0] at or_x
  rw[E.none_ h0] at kn
  exact kQ ⟨σ',_,pre.trans (kr or_x rfl (fY (dE1 (k:=true) (l:=true) (a0 (vl W.h13) (mQ fg (Nat.zero_le _)) (congrArg (Option.map (!·)) (pK kb))) (a0 (vl W.h28) (mQ fg (Nat.zero_le _)) (aL1 (b:=[]) kn)))))⟩
 ·replace or_x:=(decide_eq_false h0)▸or_x
  rw[E.one h0] at kn
  have l0:=E.l0
  have w26:=W.h26
  have w28:=W.h28
  refine a4 (Int.eq_ofNat_of_zero_le l0.1) λn hn=>?_
  have n1:1<=n/\n<=15:=by lia
  have M:=wC (f:=0) (y:=1) n1.1 n1.2 (by decide) (.inl rfl)
  have rd:=K.read σ' (n:=n) (s:=A.s) (v:=vt n) (c:=n / 2 ^ (vt n+1)) O.s (by lia) M.odd (by have:=M.d3;lia)
  rw[hn,Int.toNat_natCast] at kn
  replace w26:=(hn)▸w26
  have vd:=M.d3
  generalize vt n=d at kn rd vd
  generalize hv2:up (up v' 15 (.int (d:Int))) 16 (.str (mrk (n / 2 ^ (d+1))))=v2
  have k15:v2 15=some (.int (d:Int)):=hv2▸rfl
  have k16:v2 16=some (.str (mrk (n / 2 ^ (d+1)))):=hv2▸rfl
  have k26:v2 26=some (.int (n:Int)):=hv2▸w26
  have k28:v2 28=some (.ref σ.length):=hv2▸w28
  refine kQ ⟨σ',LF A v2,pre.trans ((jI or_x).trans ((at_ (bc (az (vl w26) (aI (ah rfl))) rd)).trans ?_))⟩
  rw[hv2]
  exact fY (dE1 (k:=true) (l:=true) (a0 (vl k28) (mQ (aI (vl k15)) (show 1<=lim by decide)) ((aL1 (b:=[d]) kn).trans (congrArg some BEq.rfl))) (a0 (vl k16) (xl (vl k26) (vl k15) (by lia) (by lia)) (oo.trans (congrArg some BEq.rfl))))
end
noncomputable def ez:List Int:=[6,1000,27,1933,6010,1081,13002]
noncomputable def wor(ns:List Int)(k:Nat):Int:=(ez.getD k 0+(jL ns (some (k:Int)) none (some 7)).sum) % 1000000
noncomputable def dN1(ns:List Int):List Int:=(List.range 7).map (wor ns)
theorem wT:z9=(.seq (.asg 1 oY) (.seq (.asg 2 uW) (.seq (.asg 3 a21) (.seq (.asg 4 u3) (.seq (.asg 5 hY1) (.seq (.asg 6 a01) (.seq (.asg 7 (.cst (.str [107]))) (.seq (.for_ (.loc 8) (.range (.cons (.cst (.int 4)) .nil)) yJ) (.seq (sNo (.cmp .NotEq (.loc 7) u4)) eA1))))))))):=rfl
noncomputable def LF0(sc st wo dn fi wa si tx k rm ty pp:Option V):ac:=[sc,st,wo,dn,fi,wa,si,tx,k,rm,ty,pp,none,none,none,none,none,none,none,none,none,none,none,none,none,none,none,none,none,none,none,none,none,none,none,none,none,none,none,none,none,none,none,none,none]
section
variable {F:Fn} {σ:List AO} {ns ws:List Int} {sc st wo dn fi wa si tx k:Option V}
theorem yA{η:ac}:evx F oY σ η=some (.tup (ez.map V.int),σ):=by rfl'
theorem sS{k:Nat}(hk:k<7):dH σ (.tup (ez.map V.int)) (.int (k:Int))=some (.int (ez.getD k 0)):=by
 rw[aX1 (by exact Int.natCast_nonneg _) (by lia) (by show (k:Int)<(7:Nat);exact Int.ofNat_le.mpr ‹_›),Int.toNat_natCast,List.getElem?_map,nQ (by show k<7;exact hk)];rfl
theorem a31:evx F uW σ (LF0 (some (.raw (ns.map V.int))) (some (.tup (ez.map V.int))) none none none none none none none none none none)=some (.lst ((dN1 ns).map V.int),σ):=by
 have h:=cq (F:=F) (σ:=σ) (η:=LF0 (some (.raw (ns.map V.int))) (some (.tup (ez.map V.int))) none none none none none none none none none none) (vars:=[⟨"k",31,true⟩,⟨"script",0,false⟩,⟨"starts",1,false⟩]) (i:=31)
  (elt:=.bin .Mod (.bin .Add (.idx (.loc 1) (.loc 31)) (.bf .sum (.cons (.slc (.loc 0) (.loc 31) .nil (.cst (.int 7))) .nil))) (.cst (.int 1000000))) (l:=List.range 7) (g:=λ(k:Nat)=>V.int (k:Int)) (f:=λk=>V.int (wor ns k))
  (bR (n:=7) aj (by exact Nat.le_add_left _ _)) (dg 7) (λk hk=>?_) (by decide)
 ·have e:(dN1 ns).map V.int=(List.range 7).map λk=>V.int (wor ns k):=by unfold dN1;rw[List.map_map];rfl
  refine(e)▸?_
  exact h
 ·have hk8:k<7:=List.mem_range.mp hk
  exact aD (aD (bu (ah rfl) (ah rfl) (sS hk8)) (mJ (az (uH (ah rfl) (ah rfl) fR aj (ip1 (by decide))) fg) (jf1 _)) dY) aj (cX (by decide))
noncomputable def itF:Nat->List Nat
 | 0=>[107]
 | n+1=>jl (itF n)
theorem fN1:((List.range 4).all λn=>decide ((itF n).length<=16)&&(itF n).all λc=>decide (c=107\/c=109))=true:=by decide
theorem vw(K:LawOk F)(hw:ws.length=7):∃ k',exs F (.for_ (.loc 8) (.range (.cons (.cst (.int 4)) .nil)) yJ) σ (LF0 sc st (some (.lst (ws.map V.int))) dn fi wa si (some (.str [107])) k none none none)=some (.next,σ,LF0 sc st (some (.lst (ws.map V.int))) dn fi wa si (some (.str t16)) k' none none none):=by
 refine byQ λQ kQ=>?_
 obtain ⟨σ',η',h2,q⟩:=fG (F:=F) (i:=8) (it:=.range (.cons (.cst (.int 4)) .nil)) (b:=yJ) (σ:=σ) (η:=LF0 sc st (some (.lst (ws.map V.int))) dn fi wa si (some (.str [107])) k none none none) (l:=(List.range 4).map λ(k:Nat)=>V.int (k:Int))
  (λl σ' η'=>∃ d,d<=4/\l=((List.range 4).drop d).map (λ(k:Nat)=>V.int (k:Int))/\σ'=σ/\∃ k',η'=LF0 sc st (some (.lst (ws.map V.int))) dn fi wa si (some (.str (itF d))) k' none none none)
  (bR (n:=4) aj (by decide)) (dg 4) ⟨0,by decide,rfl,rfl,_,rfl⟩ (λx l σ' η' ⟨d,hd,el,eσ,k',eη⟩=>by
   have hd2:d<4:=by
    refine Or.elim (Nat.lt_or_ge d 4) (λh=>?_) (λh=>?_)
    ·exact h
    ·rw[List.drop_of_length_le (by rw[List.length_range];exact h)] at el;cases el
   rw[List.drop_eq_getElem_cons (by rw[List.length_range];exact hd2),List.getElem_range,List.map_cons] at el
   injection el with e1 e2
   subst e1 eη eσ
   have f:=ao (List.all_eq_true.mp fN1 d (List.mem_range.mpr hd2))
   have fo:=K.fold σ' (t:=itF d) (ws:=ws) (of_decide_eq_true f.1) (λc hc=>of_decide_eq_true (List.all_eq_true.mp f.2 c hc)) hw
   exact⟨σ',_,(bF (bc (az (ah rfl) (aI (ah rfl))) fo)).trans a9,d+1,hd2,e2,rfl,_,rfl⟩)
 obtain ⟨d,hd,el,eσ,k',eη⟩:=q
 have hd2:d=4:=by
  refine Or.elim (Nat.lt_or_ge d 4) (λh=>?_) (λh=>?_)
  ·rw[List.drop_eq_getElem_cons (by rw[List.length_range];exact h)] at el;cases el
  ·lia
 subst hd2 eη eσ
 refine kQ ?_
 exact⟨k',h2⟩
theorem c41:evx F u4 σ (LF0 sc st wo dn fi wa si tx k none none none)=some (.str t16,σ):=by rfl'
end
noncomputable def dL(ws:List Int)(p:Nat):Nat:=(ws.getD 2 0 / (4:Int) ^ p % 4).toNat
noncomputable def lC(ws:List Int):List Nat:=(List.range 3).map (dL ws)
noncomputable def tyL(ws:List Int):List (List Nat):=(List.range 4).map λk=>bB (97+k) (ws.getD (3+k) 0)
theorem pm:(ay1.all λc=>(List.range 12).all λr=>(mX c r).all (·<1114112))=true:=by decide +kernel
theorem v8:((List.range 54).all λq=>(yX (q:Nat)).all (·<1114112))=true:=by decide +kernel
theorem o8{c:Nat}(hc:c∈ay1)(x:Int):∀ d∈bB c x,d<1114112:=by
 have r0:0<=x % 12:=Int.emod_nonneg _ (by decide)
 have r1:x % 12<12:=Int.emod_lt_of_pos _ (by decide)
 have q0:0<=x / 12 % 54:=Int.emod_nonneg _ (by decide)
 have q1:x / 12 % 54<54:=Int.emod_lt_of_pos _ (by decide)
 unfold bB
 obtain ⟨r,hr⟩:=Int.eq_ofNat_of_zero_le r0
 obtain ⟨q,hq⟩:=Int.eq_ofNat_of_zero_le q0
 rw[hr,hq,Int.toNat_natCast]
 have h1:=List.all_eq_true.mp (List.all_eq_true.mp pm c hc) r (List.mem_range.mpr (by lia))
 have h2:=List.all_eq_true.mp v8 q (List.mem_range.mpr (by lia))
 intro d hd
 rcases List.mem_append.mp hd with h | h
 ·exact of_decide_eq_true (List.all_eq_true.mp h2 d h)
 ·exact of_decide_eq_true (List.all_eq_true.mp h1 d h)
theorem i9{k:Nat}(h:k<4):97+k∈ay1:=by
 have:k=0\/k=1\/k=2\/k=3:=by lia
 rcases this with rfl | rfl | rfl | rfl <;> decide
theorem k6(ws:List Int){k:Nat}(h:k<4):(tyL ws).getD k []=bB (97+k) (ws.getD (3+k) 0):=by
 unfold tyL
 rw[List.getD_eq_getElem?_getD,List.getElem?_map,List.getElem?_range h];rfl
theorem h91(ws:List Int):TyOk (tyL ws) where
 len:=by unfold tyL;rw[List.length_map,List.length_range]
 prep k h:=by exact(k6 ws h)▸(gx (i9 h) _)
 low k h:=by exact(k6 ws h)▸(i6 (i9 h) _)
 two k h:=by exact(k6 ws h)▸(dK _ _)
 ok k h:=by exact(k6 ws h)▸(o8 (i9 h) _)
section
variable {F:Fn} {σ:List AO} {ns ws:List Int} {sc st wo dn fi wa si tx k:Option V}
theorem br1(hw:ws.length=7):evx F ae1 σ (LF0 sc st (some (.lst (ws.map V.int))) dn fi wa si tx k none none none)=some (.lst (ag (lC ws)),σ):=by
 have h:=cq (F:=F) (σ:=σ) (η:=LF0 sc st (some (.lst (ws.map V.int))) dn fi wa si tx k none none none) (vars:=[⟨"peg",34,true⟩,⟨"worth",2,false⟩]) (i:=34) (elt:=.bin .Mod (.bin .FloorDiv (.idx (.loc 2) (.cst (.int 2))) (.bin .Pow (.cst (.int 4)) (.loc 34))) (.cst (.int 4))) (it:=.range (.cons (.cst (.int 3)) .nil)) (l:=List.range 3) (g:=λ(k:Nat)=>V.int (k:Int)) (f:=λp=>V.int (dL ws p:Nat))
  (bR (n:=3) aj (by decide)) (dg 3) (λp hp=>?_) (by decide)
 ·have e:ag (lC ws)=(List.range 3).map λp=>V.int (dL ws p:Nat):=by unfold ag lC;rw[List.map_map];rfl
  exact(e)▸(h)
 ·have hp3:=List.mem_range.mp hp
  have p1:(1:Int)<=4 ^ p/\(4:Int) ^ p<1000000000:=by
   have:p=0\/p=1\/p=2:=by lia
   rcases this with rfl | rfl | rfl <;> decide
  have e:V.int ((dL ws p:Nat):Int)=V.int (ws.getD 2 0 / (4:Int) ^ p % 4):=by
   unfold dL
   rw[Int.toNat_of_nonneg (Int.emod_nonneg _ (by decide))]
  refine(e)▸?_
  refine aD (aD (bu (ah rfl) aj (mR (i:=2) (by lia) (by lia))) (aD aj (ah rfl) (v:=.int ((4:Int) ^ p)) ?_) (cP p1.1 p1.2)) aj (cX (by decide))
  show (if (4:Int).natAbs<1000000000/\0<=(p:Int)/\(p:Int)<=1000 then some (V.int ((4:Int) ^ (p:Int).toNat)) else none)=_
  rw[if_pos ⟨by decide,by lia,by lia⟩,Int.toNat_natCast]
theorem a61(K:LawOk F)(hw:ws.length=7){r:Option V}:evx F ad1 σ (LF0 sc st (some (.lst (ws.map V.int))) dn fi wa si tx k r none none)=some (.lst ((tyL ws).map V.str),σ):=by
 have h:=cq (F:=F) (σ:=σ) (η:=LF0 sc st (some (.lst (ws.map V.int))) dn fi wa si tx k r none none) (vars:=[⟨"k",35,true⟩,⟨"worth",2,false⟩]) (i:=35) (elt:=.call 5 (.cons (.idx (.cst (.str [97,98,99,100])) (.loc 35)) (.cons (.idx (.loc 2) (.bin .Add (.cst (.int 3)) (.loc 35))) .nil))) (it:=.range (.cons (.cst (.int 4)) .nil)) (l:=List.range 4) (g:=λ(k:Nat)=>V.int (k:Int)) (f:=λk=>V.str (bB (97+k) (ws.getD (3+k) 0)))
  (bR (n:=4) aj (by decide)) (dg 4) (λk hk=>?_) (by decide)
 ·have e:(tyL ws).map V.str=(List.range 4).map λk=>V.str (bB (97+k) (ws.getD (3+k) 0)):=by unfold tyL;rw[List.map_map];rfl
  exact(e)▸(h)
 ·have hk4:=List.mem_range.mp hk
  exact bc (az (bu aj (ah rfl) (kY hk4)) (aI (bu (ah rfl) (aD aj (ah rfl) dY) (mR (i:=3+k) (by lia) (by lia))))) (K.fn.typed σ (97+k) _ (by lia) (by lia))
theorem xI{elt:List AO->ac->Option (V×List AO)}{i:Nat}(he:∀ (x:Int) (σ:List AO) (η:ac),i<η.length->elt σ (η.set i (some (.int x)))=some (.ref σ.length,σ++[⟨[],some x⟩]))(a b c:Int)(η:ac)(hi:i<η.length) :
  cW (.loc i) (λσ η=>some (true,σ)) elt 4 (.seq [.int a,.int b,.int c]) [] η=some ([.ref 0,.ref 1,.ref 2],[⟨[],some a⟩,⟨[],some b⟩,⟨[],some c⟩]):=by
 show (match elt [] (η.set i (some (.int a))) with | none=>none | some (v,σ₂)=>match cW (.loc i) (λσ η=>some (true,σ)) elt 3 (.seq [.int b,.int c]) σ₂ (η.set i (some (.int a))) with | none=>none | some (out,aq)=>some (v::out,aq))=_
 rw[he _ _ _ hi]
 show (match (match elt [⟨[],some a⟩] ((η.set i (some (.int a))).set i (some (.int b))) with | none=>none | some (v,σ₂)=>match cW (.loc i) (λσ η=>some (true,σ)) elt 2 (.seq [.int c]) σ₂ ((η.set i (some (.int a))).set i (some (.int b))) with | none=>none | some (out,aq)=>some (v::out,aq)) with | none=>none | some (out,aq)=>some (V.ref 0::out,aq))=_
 rw[he _ _ _ (by rw[List.length_set];exact hi)]
 show (match (match (match elt [⟨[],some a⟩,⟨[],some b⟩] (((η.set i (some (.int a))).set i (some (.int b))).set i (some (.int c))) with | none=>none | some (v,σ₂)=>match cW (.loc i) (λσ η=>some (true,σ)) elt 1 (.seq []) σ₂ (((η.set i (some (.int a))).set i (some (.int b))).set i (some (.int c))) with | none=>none | some (out,aq)=>some (v::out,aq)) with | none=>none | some (out,aq)=>some (V.ref 1::out,aq)) with | none=>none | some (out,aq)=>some (V.ref 0::out,aq))=_
 rw[he _ _ _ (by rw[List.length_set,List.length_set];exact hi)]
 rfl
theorem bK1(K:LawOk F){r t:Option V}(hr:r=some (.lst (ag (lC ws)))):evx F uZ [] (LF0 sc st wo dn fi wa si tx k r t none)=some (.lst [.ref 0,.ref 1,.ref 2],[⟨[],some (dL ws 0:Nat)⟩,⟨[],some (dL ws 1:Nat)⟩,⟨[],some (dL ws 2:Nat)⟩]):=by
 subst hr
 have c:=xI (elt:=λσ η=>evx F (.call 0 (.cons (.loc 36) .nil)) σ η) (i:=36) (λx σ η hi=>?_) (dL ws 0:Nat) (dL ws 1:Nat) (dL ws 2:Nat) (clr (LF0 sc st wo dn fi wa si tx k (some (.lst (ag (lC ws)))) t none) [⟨"room",36,true⟩]) (show 36<45 by decide)
 ·unfold uZ
  rw[iG,ah (v:=.lst (ag (lC ws))) rfl]
  show (match cW (.loc 36) (λσ η=>some (true,σ)) (λσ η=>evx F (.call 0 (.cons (.loc 36) .nil)) σ η) 4 (.seq [.int (dL ws 0:Nat),.int (dL ws 1:Nat),.int (dL ws 2:Nat)]) [] (clr (LF0 sc st wo dn fi wa si tx k (some (.lst (ag (lC ws)))) t none) [⟨"room",36,true⟩]) with
   | some (out,σ₂)=>if out.length<=lim then some (V.lst out,σ₂) else none
   | none=>none)=_
  rw[c]
  exact if_pos (show 3<=lim by decide)
 ·exact bc (aI (ah (List.getElem?_set_self hi))) (K.acc _ _)
theorem wc{A:TW}{v:Nat->Option V}(K:LawOk F)(hy:A.y<=3):evx F rD σ (LF A v)=some (.lst (ag (plN A.dn A.f A.y)),σ):=by
 refine cq (F:=F) (σ:=σ) (i:=37) (l:=List.range 4) (g:=λ(k:Nat)=>V.int (k:Int)) (f:=λk=>V.int (f4 k A.dn A.f A.y:Nat)) (bR (n:=4) aj (by decide)) (dg 4) (λk hk=>?_) (by decide)
 exact bc (az (ah rfl) (az (ah rfl) (az (ah rfl) (aI (ah rfl))))) (K.place σ (by have:=List.mem_range.mp hk;lia) hy)
theorem zw{A:TW}{v:Nat->Option V}(K:LawOk F)(T:TyOk A.ty){pl:List Nat}(hp:pl.length=4)(h3:∀ k,k<4->pl.getD k 0<3)(h12:v 12=some (.lst (ag pl)))(P0:∀ p,p<3->σ[p]?=some ⟨[],some (A.rm.getD p 0:Nat)⟩) :
  ∃ σ' v',exs F (.for_ (.loc 8) jJ ix1) σ (LF A v)=some (.next,σ',LF A v')/\v' 12=some (.lst (ag pl))/\ej σ' A.ty A.rm pl:=by
 refine byQ λQ kQ=>?_
 obtain ⟨σ',η',h2,q⟩:=fG (F:=F) (i:=8) (it:=jJ) (b:=ix1) (σ:=σ) (η:=LF A v) (l:=gc.map λ(k:Nat)=>V.int (k:Int))
  (λl σ' η'=>∃ (a r:List Nat) (v':Nat->Option V),a++r=gc/\l=r.map (λ(k:Nat)=>V.int (k:Int))/\(∀ p,p<3->σ'[p]?=some ⟨aV A.ty (a.filter λk=>pl.getD k 0==p),some (A.rm.getD p 0:Nat)⟩)/\v' 12=some (.lst (ag pl))/\η'=LF A v')
  rB rfl ⟨[],gc,v,rfl,rfl,P0,h12,rfl⟩ (λx l σ' η' ⟨a,r,v',e,el,P,g12,eη⟩=>by
   cases r with
   | nil=>cases el
   | cons d r =>
    rw[List.map_cons] at el
    injection el with e1 e2
    subst e1 eη
    have hd:d<4:=qt (e▸List.mem_append_right _ List.mem_cons_self)
    have al:a.length<=4:=by
     have:=congrArg List.length e
     rw[List.length_append] at this
     have w4:gc.length=4:=rfl
     lia
    have h0:=h3 d hd
    generalize hq:pl.getD d 0=p0 at h0
    have pu:=(K.push _ _).trans (au1 (ty:=A.ty) (d:=d) (Nat.le_trans (List.length_filter_le _ _) (by lia)) (P p0 h0))
    have ix:evx F (.idx (.loc 12) (.loc 8)) σ' (LF A (up v' 8 (.int (d:Int))))=some (.int (p0:Nat),σ'):=by
     refine(hq)▸?_
     exact bu (vl g12) (vl rfl) (eS (by lia) (by lia))
    refine⟨_,LF A (up v' 8 (.int (d:Int))),(rQ (iE (bu (ah rfl) ix (rA h0)) (P p0 h0) (az aj (aI (h81 T hd (vl rfl)))) pu)).trans a9,a++[d],r,up v' 8 (.int (d:Int)),by rw[List.append_assoc];exact e,e2,λp hp'=>?_,g12,rfl⟩
    rw[List.filter_append]
    by_cases z:p0=p
    ·subst z
     rw[List.filter_cons_of_pos (p:=λk=>pl.getD k 0==p0) (beq_iff_eq.mpr hq),List.filter_nil]
     exact dj (P p0 h0)
    ·rw[List.filter_cons_of_neg (p:=λk=>pl.getD k 0==p) (by rw[hq];exact λe=>z (beq_iff_eq.mp e)),List.filter_nil,List.append_nil]
     exact bH (P p hp') z)
 refine iJ1 (q) λa r v' e el P g12 eη=>?_
 have hr:r=[]:=by cases r with | nil=>rfl | cons _ _=>cases el
 rw[hr,List.append_nil] at e
 subst e eη
 exact kQ ⟨σ',v',h2,g12,P⟩
theorem yS{A:TW}{v:Nat->Option V}(K:LawOk F)(O:AOk A)(hw:A.ws.length=7)(P0:∀ p,p<3->σ[p]?=some ⟨[],some (A.rm.getD p 0:Nat)⟩) :
  ∃ σ' η',exs F ez1 σ (LF A v)=some (.ret (.bool true),σ',η'):=by
 refine byQ λQ kQ=>?_
 have hp:=pD A.dn A.f A.y
 have h3:∀ k,k<4->(plN A.dn A.f A.y).getD k 0<3:=λk hk=>by
  have:k=0\/k=1\/k=2\/k=3:=by lia
  rcases this with rfl | rfl | rfl | rfl
  ·exact eD 0 A.dn A.f A.y
  ·exact eD 1 A.dn A.f A.y
  ·exact eD 2 A.dn A.f A.y
  ·exact eD 3 A.dn A.f A.y
 refine cC (zw (F:=F) (A:=A) (v:=up v 12 (.lst (ag (plN A.dn A.f A.y)))) K O.T hp h3 rfl P0) λσ1 v1 h_p=>?_;have s2:=h_p.1;have g12:=h_p.2.1;have P1:=h_p.2.2
 refine hp1 (tu (F:=F) (A:=A) (v:=up v1 13 (.ref σ1.length)) K O g12 rfl (λp hp'=>a8 (P1 p hp')) eg) λσ2 b2 v2 pl2 s4 g13 hb2=>?_
 refine cC (cI1 (F:=F) K O hw g13 hb2) λσ3 η3 s5=>?_
 refine kQ ?_
 exact cf1 σ3 η3 ((av (wc K O.y3)).trans ((aE s2).trans ((av (wy K O.T g12 hp O.rm O.bd P1)).trans ((aE s4).trans s5))))
theorem ck1(K:LawOk F)(ns:List Int):∃ σ',mK F 1 44 z9 [.raw (ns.map V.int)] []=some (.bool true,σ'):=by
 refine byQ λQ kQ=>?_
 have hw:(dN1 ns).length=7:=rfl
 have x3:=a31 (F:=F) (σ:=[]) (ns:=ns)
 generalize dN1 ns=ws at hw x3
 have d0:=Int.emod_nonneg (ws.getD 0 0) (show (15:Int)≠0 by decide)
 have d1:=Int.emod_lt_of_pos (ws.getD 0 0) (show (0:Int)<15 by decide)
 obtain ⟨D,hD⟩:=Int.eq_ofNat_of_zero_le d0
 have f0:=Int.emod_nonneg (ws.getD 1 0) (show (3:Int)≠0 by decide)
 have f1:=Int.emod_lt_of_pos (ws.getD 1 0) (show (0:Int)<3 by decide)
 obtain ⟨f,hf⟩:=Int.eq_ofNat_of_zero_le f0
 have y0:=Int.emod_nonneg (ws.getD 1 0 / 3) (show (2:Int)≠0 by decide)
 have y1:=Int.emod_lt_of_pos (ws.getD 1 0 / 3) (show (0:Int)<2 by decide)
 obtain ⟨y',hy⟩:=Int.eq_ofNat_of_zero_le y0
 have s0:=Int.emod_nonneg (ws.getD 1 0 / 6) (show (50000:Int)≠0 by decide)
 have s1:=Int.emod_lt_of_pos (ws.getD 1 0 / 6) (show (0:Int)<50000 by decide)
 obtain ⟨z,hz⟩:=Int.eq_ofNat_of_zero_le s0
 have w1:∀ {η:ac} {i:Nat},i<7->η[2]?=some (some (.lst (ws.map V.int)))->evx F (.idx (.loc 2) (.cst (.int (i:Int)))) [] η=some (.int (ws.getD i 0),[]):=λhi h=>bu (ah h) aj (mR (by lia) (by lia))
 have xd:∀ {η:ac},η[2]?=some (some (.lst (ws.map V.int)))->evx F a21 [] η=some (.int (D:Int),[]):=λh=>by
  rw[show (D:Int)=ws.getD 0 0 % 15 from hD.symm]
  exact aD (w1 (i:=0) (by decide) h) aj (cX (by decide))
 have xf:∀ {η:ac},η[2]?=some (some (.lst (ws.map V.int)))->evx F u3 [] η=some (.int (f:Int),[]):=λh=>by
  rw[show (f:Int)=ws.getD 1 0 % 3 from hf.symm]
  exact aD (w1 (i:=1) (by decide) h) aj (cX (by decide))
 have xy:∀ {η:ac},η[2]?=some (some (.lst (ws.map V.int)))->evx F hY1 [] η=some (.int ((1+y':Nat):Int),[]):=λh=>by
  rw[show ((1+y':Nat):Int)=1+ws.getD 1 0 / 3 % 2 by rw[hy];lia]
  exact aD aj (aD (aD (w1 (i:=1) (by decide) h) aj (cP (by decide) (by decide))) aj (cX (by decide))) dY
 have xs:∀ {η:ac},η[2]?=some (some (.lst (ws.map V.int)))->evx F a01 [] η=some (.str [256+z],[]):=λh=>by
  have fc:=nU (σ:=([]:List AO)) (i:=256+ws.getD 1 0 / 6 % 50000) (by lia) (by lia)
  rw[show (256+ws.getD 1 0 / 6 % 50000).toNat=256+z by rw[hz];lia] at fc
  exact mJ (aI (aD aj (aD (aD (w1 (i:=1) (by decide) h) aj (cP (by decide) (by decide))) aj (cX (by decide))) dY)) fc
 refine a4 (vw (F:=F) (σ:=[]) (ws:=ws) (sc:=some (.raw (ns.map V.int))) (st:=some (.tup (ez.map V.int))) (dn:=some (.int (D:Int))) (fi:=some (.int (f:Int))) (wa:=some (.int ((1+y':Nat):Int))) (si:=some (.str [256+z])) (k:=none) K hw) λk' st=>?_
 have rmb:∀ p,p<3->(lC ws).getD p 0<=1000:=λp hp=>by
  have:p=0\/p=1\/p=2:=by lia
  have b:∀ p,dL ws p<=1000:=λp=>by
   unfold dL
   have:=Int.emod_lt_of_pos (ws.getD 2 0 / (4:Int) ^ p) (show (0:Int)<4 by decide)
   lia
  rcases this with rfl | rfl | rfl <;> exact b _
 obtain ⟨σ',η',hr⟩:=yS (F:=F) (σ:=[⟨[],some (dL ws 0:Nat)⟩,⟨[],some (dL ws 1:Nat)⟩,⟨[],some (dL ws 2:Nat)⟩]) (A:=⟨some (.raw (ns.map V.int)),some (.tup (ez.map V.int)),ws,D,f,1+y',256+z,tyL ws,lC ws⟩) (v:=λj=>bif Nat.beq j 8 then k' else none) K ⟨h91 ws,rfl,rmb,by show f<3;lia,by show 1+y'=1\/1+y'=2;lia,by show 256+z≠34;lia,by show D<15;lia⟩ hw (λp hp=>by
  have:p=0\/p=1\/p=2:=by lia
  rcases this with rfl | rfl | rfl <;> rfl)
 refine kQ ?_
 refine⟨σ',cr (η₁:=η') rfl ?_⟩
 have e0:aU [V.raw (ns.map V.int)] 44=LF0 (some (.raw (ns.map V.int))) none none none none none none none none none none none:=rfl
 rw[e0,wT]
 exact(bF yA).trans ((bF x3).trans ((bF (xd rfl)).trans ((bF (xf rfl)).trans ((bF (xy rfl)).trans ((bF (xs rfl)).trans ((bF aj).trans ((aE st).trans ((jI (a0 (ah rfl) c41 (j3.trans (congrArg (λb=>some (!b)) BEq.rfl)))).trans ((bF (br1 hw)).trans ((bF (a61 K hw)).trans ((bF (bK1 K rfl)).trans hr)))))))))))
end
theorem jc1(n:Nat):FnOk (lev ak1 (n+1)) where
 typed σ c x h0 h1:=by rw[ci (np:=2) (more:=4) (body:=cy) rfl,vm _ _ _ _ ⟨h0,h1⟩]
 parse σ t ht:=by rw[ci (np:=1) (more:=4) (body:=dB) rfl,wi _ _ _ ht]
 b1 σ c:=by rw[cf (p:=pB1 sB1) rfl];rfl
 b3 σ c h:=by
  rw[cf (p:=pB3 gB3) rfl]
  unfold pB3 b3v
  dsimp only
  rw[if_pos h] <;> (cases gB3 c <;> rfl)
theorem aO1(n:Nat):CallOk (lev ak1 (n+2)) where
 fn:=jc1 (n+1)
 prep σ t h1 h2 h3:=by rw[ci (np:=1) (more:=1) (body:=bV) rfl,yW (jc1 n) σ h1 h2 h3]
theorem av1(n:Nat):PileFn (lev ak1 (n+2)) where
 toCallOk:=aO1 n
 len_ vs σ:=cf (p:=fb1) rfl
 str_ vs σ:=cf (p:=e91) rfl
 part vs σ:=cf (p:=tj) rfl
theorem iT1(n:Nat):LawOk (lev ak1 (n+3)) where
 toPileFn:=av1 (n+1)
 acc vs σ:=cf (p:=fd1) rfl
 push vs σ:=cf (p:=td) rfl
 pf vs σ:=cf (p:=eW) rfl
 pop vs σ:=cf (p:=bP1) rfl
 ell σ P t h:=by
  obtain ⟨ex,e⟩:=cK1 (F:=lev ak1 (n+2)) (σ:=σ) (t:=t) h
  exact⟨ex,by rw[ci (np:=2) (more:=4) (body:=aZ) rfl,e]⟩
 fold σ t ws h1 h2 h3:=by rw[ci (np:=2) (more:=3) (body:=cQ) rfl,zL (aO1 n) h1 h2 h3]
 read σ m s v c h1 h2 h3 h4:=by rw[ci (np:=2) (more:=2) (body:=fb) rfl,yT (jc1 (n+1)) h1 h2 h3 h4]
 place σ k m f y h1 h2:=by
  rw[ci (np:=4) (more:=1) (body:=d6) rfl,we (f:=(f:Int)) (y:=(y:Int)) h1 (by lia),wf]
 left σ ps g h:=by rw[ci (np:=2) (more:=2) (body:=fe) rfl,zv h]
 names {σ ty rm pl} T h1 h2 h3 P:=by rw[ci (np:=4) (more:=8) (body:=d7) rfl,wz (av1 n) T h1 h2 h3 P]
theorem iD1:gX1:=λns _=>ck1 (iT1 2) ns
theorem law1_holds:PySem.Challenge.rw_wv0039_01.Holds:=i31 (h51 iD1)
end Mine
theorem PySem.Challenge.cw_wv0039_01_holds : PySem.Challenge.rw_wv0039_01.Holds :=
  Mine.law1_holds
