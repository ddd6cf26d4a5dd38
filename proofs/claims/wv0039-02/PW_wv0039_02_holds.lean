import PyProof.Rows.All
import Open.Tops
import Wide.FinOn
import OpenK.AllK
import Wide.All
import PySem.Challenge.RW_wv0039_02
local macro_rules | `(tactic| rfl') => `(tactic| kernel_rfl!)
namespace Mine
theorem siX {α:Type _} {a b:α} (h:some a=some b):a=b:=by injection h
theorem sm2{α β:Type}{a c:α}{b d:β}(h:some (a,b)=some (c,d)):a=c/\b=d:=Prod.mk.inj (siX h)
theorem son{α:Type}{a:α}{P:Prop}(h:some a=none):P:=nomatch h
theorem nso{α:Type}{a:α}{P:Prop}(h:none=some a):P:=nomatch h
theorem ftr{P:Prop}(h:false=true):P:=nomatch h
theorem trf{P:Prop}(h:true=false):P:=nomatch h
theorem ak{a b:Bool}(h:(a&&b)=true):a=true/\b=true:=Bool.and_eq_true_iff.mp h
theorem fE{α:Type}{P:Prop}(o:Option α)(h1:o=none->P)(h2:∀ a,o=some a->P):P:=by cases o with | none=>exact h1 rfl | some a=>exact h2 a rfl
theorem eK1{P:Prop}(b:Bool)(h1:b=true->P)(h2:b=false->P):P:=by cases b with | true=>exact h1 rfl | false=>exact h2 rfl
theorem kE1{α:Type}{P:Prop}(l:List α)(h1:l=[]->P)(h2:∀ a r,l=a::r->P):P:=by cases l with | nil=>exact h1 rfl | cons a r=>exact h2 a r rfl
theorem l1_{α:Type}{P:List α->Prop}(k:∀ a,P [a])(l:List α)(h:l.length=1):P l:=by
 cases l with
 | nil=>exact nomatch h
 | cons a r=>exact List.eq_nil_of_length_eq_zero (Nat.succ.inj h)▸k a
theorem l2_{α:Type}{P:List α->Prop}(k:∀ a b,P [a,b])(l:List α)(h:l.length=2):P l:=by
 cases l with
 | nil=>exact nomatch h
 | cons a r=>exact l1_ (P:=fun r=>P (a::r)) (k a) r (Nat.succ.inj h)
theorem l3_{α:Type}{P:List α->Prop}(k:∀ a b c,P [a,b,c])(l:List α)(h:l.length=3):P l:=by
 cases l with
 | nil=>exact nomatch h
 | cons a r=>exact l2_ (P:=fun r=>P (a::r)) (k a) r (Nat.succ.inj h)
noncomputable def ic1{α β:Type}(l:List α)(b:β):Option β:=@List.casesOn α (fun _=>Option β) l (some b) fun _ _=>none
theorem dH1{α β:Type}{l:List α}{a b:β}(h:ic1 l b=some a):l=[]/\a=b:=by
 cases l with
 | nil=>exact⟨rfl,(siX h).symm⟩
 | cons c r=>exact nso h
noncomputable def kZ{α:Type}(l:List α):Option α:=@List.casesOn α (fun _=>Option α) l none fun a r=>ic1 r a
theorem mQ{α:Type}{l:List α}{a:α}(h:kZ l=some a):l=[a]:=by
 cases l with
 | nil=>exact nso h
 | cons b r=>exact(dH1 h).1▸(dH1 h).2▸rfl
noncomputable def yF{α:Type}(l:List α):Option (α×α):=@List.casesOn α (fun _=>Option (α×α)) l none fun a r=>(kZ r).map fun b=>(a,b)
theorem tY{α:Type}{l:List α}{a:α×α}(h:yF l=some a):l=[a.1,a.2]:=by
 cases l with
 | nil=>exact nso h
 | cons b r=>exact Exists.elim (Option.map_eq_some_iff.mp h) fun c hc=>by rw[mQ hc.1,← hc.2]
theorem byQ{P:Prop}(h:∀ Q:Prop,(P->Q)->Q):P:=h P id
theorem gu{A0 A1 Q:Prop}(h:A0/\A1)(k:A0->A1->Q):Q:=k h.1 h.2
theorem dF1{Q:Prop}{A0 A1 A2:Prop}(h:A0/\A1/\A2)(k:A0->A1->A2->Q):Q:=gu h.2 (k h.1)
theorem av1{Q:Prop}{A0 A1 A2 A3:Prop}(h:A0/\A1/\A2/\A3)(k:A0->A1->A2->A3->Q):Q:=dF1 h.2 (k h.1)
theorem ia1{Q:Prop}{A0 A1 A2 A3 A4:Prop}(h:A0/\A1/\A2/\A3/\A4)(k:A0->A1->A2->A3->A4->Q):Q:=av1 h.2 (k h.1)
theorem fu1{Q:Prop}{A0 A1 A2 A3 A4 A5:Prop}(h:A0/\A1/\A2/\A3/\A4/\A5)(k:A0->A1->A2->A3->A4->A5->Q):Q:=ia1 h.2 (k h.1)
theorem jn1{Q:Prop}{A0 A1 A2 A3 A4 A5 A6:Prop}(h:A0/\A1/\A2/\A3/\A4/\A5/\A6)(k:A0->A1->A2->A3->A4->A5->A6->Q):Q:=fu1 h.2 (k h.1)
theorem a9{Q:Prop}{T0:Type}{A0:T0->Prop}(h:∃ x0,A0 x0)(k:∀ (x0:T0),A0 x0->Q):Q:=Exists.elim h k
theorem aI{Q:Prop}{T0:Type}{A0 A1:T0->Prop}(h:∃ x0,A0 x0/\A1 x0)(k:∀ (x0:T0),A0 x0->A1 x0->Q):Q:=Exists.elim h fun x h=>gu h (k x)
theorem qJ{Q:Prop}{T0:Type}{A0 A1 A2:T0->Prop}(h:∃ x0,A0 x0/\A1 x0/\A2 x0)(k:∀ (x0:T0),A0 x0->A1 x0->A2 x0->Q):Q:=Exists.elim h fun x h=>dF1 h (k x)
theorem ft1{Q:Prop}{T0:Type}{A0 A1 A2 A3:T0->Prop}(h:∃ x0,A0 x0/\A1 x0/\A2 x0/\A3 x0)(k:∀ (x0:T0),A0 x0->A1 x0->A2 x0->A3 x0->Q):Q:=Exists.elim h fun x h=>av1 h (k x)
theorem dE1{Q:Prop}{T0:Type}{A0 A1 A2 A3 A4:T0->Prop}(h:∃ x0,A0 x0/\A1 x0/\A2 x0/\A3 x0/\A4 x0)(k:∀ (x0:T0),A0 x0->A1 x0->A2 x0->A3 x0->A4 x0->Q):Q:=Exists.elim h fun x h=>ia1 h (k x)
theorem h91{Q:Prop}{T0:Type}{A0 A1 A2 A3 A4 A5:T0->Prop}(h:∃ x0,A0 x0/\A1 x0/\A2 x0/\A3 x0/\A4 x0/\A5 x0)(k:∀ (x0:T0),A0 x0->A1 x0->A2 x0->A3 x0->A4 x0->A5 x0->Q):Q:=Exists.elim h fun x h=>fu1 h (k x)
theorem jm1{Q:Prop}{T0:Type}{A0 A1 A2 A3 A4 A5 A6:T0->Prop}(h:∃ x0,A0 x0/\A1 x0/\A2 x0/\A3 x0/\A4 x0/\A5 x0/\A6 x0)(k:∀ (x0:T0),A0 x0->A1 x0->A2 x0->A3 x0->A4 x0->A5 x0->A6 x0->Q):Q:=Exists.elim h fun x h=>jn1 h (k x)
theorem cH{Q:Prop}{T0 T1:Type}{A0:T0->T1->Prop}(h:∃ x0 x1,A0 x0 x1)(k:∀ (x0:T0) (x1:T1),A0 x0 x1->Q):Q:=Exists.elim h fun x h=>a9 h (k x)
theorem au1{Q:Prop}{T0 T1:Type}{A0 A1:T0->T1->Prop}(h:∃ x0 x1,A0 x0 x1/\A1 x0 x1)(k:∀ (x0:T0) (x1:T1),A0 x0 x1->A1 x0 x1->Q):Q:=Exists.elim h fun x h=>aI h (k x)
theorem oM{Q:Prop}{T0 T1:Type}{A0 A1 A2:T0->T1->Prop}(h:∃ x0 x1,A0 x0 x1/\A1 x0 x1/\A2 x0 x1)(k:∀ (x0:T0) (x1:T1),A0 x0 x1->A1 x0 x1->A2 x0 x1->Q):Q:=Exists.elim h fun x h=>qJ h (k x)
theorem dD1{Q:Prop}{T0 T1:Type}{A0 A1 A2 A3:T0->T1->Prop}(h:∃ x0 x1,A0 x0 x1/\A1 x0 x1/\A2 x0 x1/\A3 x0 x1)(k:∀ (x0:T0) (x1:T1),A0 x0 x1->A1 x0 x1->A2 x0 x1->A3 x0 x1->Q):Q:=Exists.elim h fun x h=>ft1 h (k x)
theorem at1{Q:Prop}{T0 T1:Type}{A0 A1 A2 A3 A4:T0->T1->Prop}(h:∃ x0 x1,A0 x0 x1/\A1 x0 x1/\A2 x0 x1/\A3 x0 x1/\A4 x0 x1)(k:∀ (x0:T0) (x1:T1),A0 x0 x1->A1 x0 x1->A2 x0 x1->A3 x0 x1->A4 x0 x1->Q):Q:=Exists.elim h fun x h=>dE1 h (k x)
theorem jl1{Q:Prop}{T0 T1:Type}{A0 A1 A2 A3 A4 A5:T0->T1->Prop}(h:∃ x0 x1,A0 x0 x1/\A1 x0 x1/\A2 x0 x1/\A3 x0 x1/\A4 x0 x1/\A5 x0 x1)(k:∀ (x0:T0) (x1:T1),A0 x0 x1->A1 x0 x1->A2 x0 x1->A3 x0 x1->A4 x0 x1->A5 x0 x1->Q):Q:=Exists.elim h fun x h=>h91 h (k x)
theorem jk1{Q:Prop}{T0 T1:Type}{A0 A1 A2 A3 A4 A5 A6:T0->T1->Prop}(h:∃ x0 x1,A0 x0 x1/\A1 x0 x1/\A2 x0 x1/\A3 x0 x1/\A4 x0 x1/\A5 x0 x1/\A6 x0 x1)(k:∀ (x0:T0) (x1:T1),A0 x0 x1->A1 x0 x1->A2 x0 x1->A3 x0 x1->A4 x0 x1->A5 x0 x1->A6 x0 x1->Q):Q:=Exists.elim h fun x h=>jm1 h (k x)
theorem d7{Q:Prop}{T0 T1 T2:Type}{A0:T0->T1->T2->Prop}(h:∃ x0 x1 x2,A0 x0 x1 x2)(k:∀ (x0:T0) (x1:T1) (x2:T2),A0 x0 x1 x2->Q):Q:=Exists.elim h fun x h=>cH h (k x)
theorem rL{Q:Prop}{T0 T1 T2:Type}{A0 A1:T0->T1->T2->Prop}(h:∃ x0 x1 x2,A0 x0 x1 x2/\A1 x0 x1 x2)(k:∀ (x0:T0) (x1:T1) (x2:T2),A0 x0 x1 x2->A1 x0 x1 x2->Q):Q:=Exists.elim h fun x h=>au1 h (k x)
theorem uM{Q:Prop}{T0 T1 T2:Type}{A0 A1 A2:T0->T1->T2->Prop}(h:∃ x0 x1 x2,A0 x0 x1 x2/\A1 x0 x1 x2/\A2 x0 x1 x2)(k:∀ (x0:T0) (x1:T1) (x2:T2),A0 x0 x1 x2->A1 x0 x1 x2->A2 x0 x1 x2->Q):Q:=Exists.elim h fun x h=>oM h (k x)
theorem fs1{Q:Prop}{T0 T1 T2:Type}{A0 A1 A2 A3:T0->T1->T2->Prop}(h:∃ x0 x1 x2,A0 x0 x1 x2/\A1 x0 x1 x2/\A2 x0 x1 x2/\A3 x0 x1 x2)(k:∀ (x0:T0) (x1:T1) (x2:T2),A0 x0 x1 x2->A1 x0 x1 x2->A2 x0 x1 x2->A3 x0 x1 x2->Q):Q:=Exists.elim h fun x h=>dD1 h (k x)
theorem jj1{Q:Prop}{T0 T1 T2:Type}{A0 A1 A2 A3 A4:T0->T1->T2->Prop}(h:∃ x0 x1 x2,A0 x0 x1 x2/\A1 x0 x1 x2/\A2 x0 x1 x2/\A3 x0 x1 x2/\A4 x0 x1 x2)(k:∀ (x0:T0) (x1:T1) (x2:T2),A0 x0 x1 x2->A1 x0 x1 x2->A2 x0 x1 x2->A3 x0 x1 x2->A4 x0 x1 x2->Q):Q:=Exists.elim h fun x h=>at1 h (k x)
theorem wg{Q:Prop}{T0 T1 T2:Type}{A0 A1 A2 A3 A4 A5:T0->T1->T2->Prop}(h:∃ x0 x1 x2,A0 x0 x1 x2/\A1 x0 x1 x2/\A2 x0 x1 x2/\A3 x0 x1 x2/\A4 x0 x1 x2/\A5 x0 x1 x2)(k:∀ (x0:T0) (x1:T1) (x2:T2),A0 x0 x1 x2->A1 x0 x1 x2->A2 x0 x1 x2->A3 x0 x1 x2->A4 x0 x1 x2->A5 x0 x1 x2->Q):Q:=Exists.elim h fun x h=>jl1 h (k x)
theorem ji1{Q:Prop}{T0 T1 T2:Type}{A0 A1 A2 A3 A4 A5 A6:T0->T1->T2->Prop}(h:∃ x0 x1 x2,A0 x0 x1 x2/\A1 x0 x1 x2/\A2 x0 x1 x2/\A3 x0 x1 x2/\A4 x0 x1 x2/\A5 x0 x1 x2/\A6 x0 x1 x2)(k:∀ (x0:T0) (x1:T1) (x2:T2),A0 x0 x1 x2->A1 x0 x1 x2->A2 x0 x1 x2->A3 x0 x1 x2->A4 x0 x1 x2->A5 x0 x1 x2->A6 x0 x1 x2->Q):Q:=Exists.elim h fun x h=>jk1 h (k x)
theorem h81{Q:Prop}{T0 T1 T2 T3:Type}{A0:T0->T1->T2->T3->Prop}(h:∃ x0 x1 x2 x3,A0 x0 x1 x2 x3)(k:∀ (x0:T0) (x1:T1) (x2:T2) (x3:T3),A0 x0 x1 x2 x3->Q):Q:=Exists.elim h fun x h=>d7 h (k x)
theorem gu1{Q:Prop}{T0 T1 T2 T3:Type}{A0 A1:T0->T1->T2->T3->Prop}(h:∃ x0 x1 x2 x3,A0 x0 x1 x2 x3/\A1 x0 x1 x2 x3)(k:∀ (x0:T0) (x1:T1) (x2:T2) (x3:T3),A0 x0 x1 x2 x3->A1 x0 x1 x2 x3->Q):Q:=Exists.elim h fun x h=>rL h (k x)
theorem gt1{Q:Prop}{T0 T1 T2 T3:Type}{A0 A1 A2:T0->T1->T2->T3->Prop}(h:∃ x0 x1 x2 x3,A0 x0 x1 x2 x3/\A1 x0 x1 x2 x3/\A2 x0 x1 x2 x3)(k:∀ (x0:T0) (x1:T1) (x2:T2) (x3:T3),A0 x0 x1 x2 x3->A1 x0 x1 x2 x3->A2 x0 x1 x2 x3->Q):Q:=Exists.elim h fun x h=>uM h (k x)
theorem h71{Q:Prop}{T0 T1 T2 T3:Type}{A0 A1 A2 A3:T0->T1->T2->T3->Prop}(h:∃ x0 x1 x2 x3,A0 x0 x1 x2 x3/\A1 x0 x1 x2 x3/\A2 x0 x1 x2 x3/\A3 x0 x1 x2 x3)(k:∀ (x0:T0) (x1:T1) (x2:T2) (x3:T3),A0 x0 x1 x2 x3->A1 x0 x1 x2 x3->A2 x0 x1 x2 x3->A3 x0 x1 x2 x3->Q):Q:=Exists.elim h fun x h=>fs1 h (k x)
theorem h61{Q:Prop}{T0 T1 T2 T3:Type}{A0 A1 A2 A3 A4:T0->T1->T2->T3->Prop}(h:∃ x0 x1 x2 x3,A0 x0 x1 x2 x3/\A1 x0 x1 x2 x3/\A2 x0 x1 x2 x3/\A3 x0 x1 x2 x3/\A4 x0 x1 x2 x3)(k:∀ (x0:T0) (x1:T1) (x2:T2) (x3:T3),A0 x0 x1 x2 x3->A1 x0 x1 x2 x3->A2 x0 x1 x2 x3->A3 x0 x1 x2 x3->A4 x0 x1 x2 x3->Q):Q:=Exists.elim h fun x h=>jj1 h (k x)
theorem h51{Q:Prop}{T0 T1 T2 T3:Type}{A0 A1 A2 A3 A4 A5:T0->T1->T2->T3->Prop}(h:∃ x0 x1 x2 x3,A0 x0 x1 x2 x3/\A1 x0 x1 x2 x3/\A2 x0 x1 x2 x3/\A3 x0 x1 x2 x3/\A4 x0 x1 x2 x3/\A5 x0 x1 x2 x3)(k:∀ (x0:T0) (x1:T1) (x2:T2) (x3:T3),A0 x0 x1 x2 x3->A1 x0 x1 x2 x3->A2 x0 x1 x2 x3->A3 x0 x1 x2 x3->A4 x0 x1 x2 x3->A5 x0 x1 x2 x3->Q):Q:=Exists.elim h fun x h=>wg h (k x)
theorem jh1{Q:Prop}{T0 T1 T2 T3:Type}{A0 A1 A2 A3 A4 A5 A6:T0->T1->T2->T3->Prop}(h:∃ x0 x1 x2 x3,A0 x0 x1 x2 x3/\A1 x0 x1 x2 x3/\A2 x0 x1 x2 x3/\A3 x0 x1 x2 x3/\A4 x0 x1 x2 x3/\A5 x0 x1 x2 x3/\A6 x0 x1 x2 x3)(k:∀ (x0:T0) (x1:T1) (x2:T2) (x3:T3),A0 x0 x1 x2 x3->A1 x0 x1 x2 x3->A2 x0 x1 x2 x3->A3 x0 x1 x2 x3->A4 x0 x1 x2 x3->A5 x0 x1 x2 x3->A6 x0 x1 x2 x3->Q):Q:=Exists.elim h fun x h=>ji1 h (k x)
theorem jg1{Q:Prop}{T0 T1 T2 T3 T4:Type}{A0:T0->T1->T2->T3->T4->Prop}(h:∃ x0 x1 x2 x3 x4,A0 x0 x1 x2 x3 x4)(k:∀ (x0:T0) (x1:T1) (x2:T2) (x3:T3) (x4:T4),A0 x0 x1 x2 x3 x4->Q):Q:=Exists.elim h fun x h=>h81 h (k x)
theorem jf1{Q:Prop}{T0 T1 T2 T3 T4:Type}{A0 A1:T0->T1->T2->T3->T4->Prop}(h:∃ x0 x1 x2 x3 x4,A0 x0 x1 x2 x3 x4/\A1 x0 x1 x2 x3 x4)(k:∀ (x0:T0) (x1:T1) (x2:T2) (x3:T3) (x4:T4),A0 x0 x1 x2 x3 x4->A1 x0 x1 x2 x3 x4->Q):Q:=Exists.elim h fun x h=>gu1 h (k x)
theorem je1{Q:Prop}{T0 T1 T2 T3 T4:Type}{A0 A1 A2:T0->T1->T2->T3->T4->Prop}(h:∃ x0 x1 x2 x3 x4,A0 x0 x1 x2 x3 x4/\A1 x0 x1 x2 x3 x4/\A2 x0 x1 x2 x3 x4)(k:∀ (x0:T0) (x1:T1) (x2:T2) (x3:T3) (x4:T4),A0 x0 x1 x2 x3 x4->A1 x0 x1 x2 x3 x4->A2 x0 x1 x2 x3 x4->Q):Q:=Exists.elim h fun x h=>gt1 h (k x)
theorem h41{Q:Prop}{T0 T1 T2 T3 T4:Type}{A0 A1 A2 A3:T0->T1->T2->T3->T4->Prop}(h:∃ x0 x1 x2 x3 x4,A0 x0 x1 x2 x3 x4/\A1 x0 x1 x2 x3 x4/\A2 x0 x1 x2 x3 x4/\A3 x0 x1 x2 x3 x4)(k:∀ (x0:T0) (x1:T1) (x2:T2) (x3:T3) (x4:T4),A0 x0 x1 x2 x3 x4->A1 x0 x1 x2 x3 x4->A2 x0 x1 x2 x3 x4->A3 x0 x1 x2 x3 x4->Q):Q:=Exists.elim h fun x h=>h71 h (k x)
theorem jd1{Q:Prop}{T0 T1 T2 T3 T4:Type}{A0 A1 A2 A3 A4:T0->T1->T2->T3->T4->Prop}(h:∃ x0 x1 x2 x3 x4,A0 x0 x1 x2 x3 x4/\A1 x0 x1 x2 x3 x4/\A2 x0 x1 x2 x3 x4/\A3 x0 x1 x2 x3 x4/\A4 x0 x1 x2 x3 x4)(k:∀ (x0:T0) (x1:T1) (x2:T2) (x3:T3) (x4:T4),A0 x0 x1 x2 x3 x4->A1 x0 x1 x2 x3 x4->A2 x0 x1 x2 x3 x4->A3 x0 x1 x2 x3 x4->A4 x0 x1 x2 x3 x4->Q):Q:=Exists.elim h fun x h=>h61 h (k x)
theorem gs1{Q:Prop}{T0 T1 T2 T3 T4:Type}{A0 A1 A2 A3 A4 A5:T0->T1->T2->T3->T4->Prop}(h:∃ x0 x1 x2 x3 x4,A0 x0 x1 x2 x3 x4/\A1 x0 x1 x2 x3 x4/\A2 x0 x1 x2 x3 x4/\A3 x0 x1 x2 x3 x4/\A4 x0 x1 x2 x3 x4/\A5 x0 x1 x2 x3 x4)(k:∀ (x0:T0) (x1:T1) (x2:T2) (x3:T3) (x4:T4),A0 x0 x1 x2 x3 x4->A1 x0 x1 x2 x3 x4->A2 x0 x1 x2 x3 x4->A3 x0 x1 x2 x3 x4->A4 x0 x1 x2 x3 x4->A5 x0 x1 x2 x3 x4->Q):Q:=Exists.elim h fun x h=>h51 h (k x)
theorem jc1{Q:Prop}{T0 T1 T2 T3 T4:Type}{A0 A1 A2 A3 A4 A5 A6:T0->T1->T2->T3->T4->Prop}(h:∃ x0 x1 x2 x3 x4,A0 x0 x1 x2 x3 x4/\A1 x0 x1 x2 x3 x4/\A2 x0 x1 x2 x3 x4/\A3 x0 x1 x2 x3 x4/\A4 x0 x1 x2 x3 x4/\A5 x0 x1 x2 x3 x4/\A6 x0 x1 x2 x3 x4)(k:∀ (x0:T0) (x1:T1) (x2:T2) (x3:T3) (x4:T4),A0 x0 x1 x2 x3 x4->A1 x0 x1 x2 x3 x4->A2 x0 x1 x2 x3 x4->A3 x0 x1 x2 x3 x4->A4 x0 x1 x2 x3 x4->A5 x0 x1 x2 x3 x4->A6 x0 x1 x2 x3 x4->Q):Q:=Exists.elim h fun x h=>jh1 h (k x)
theorem jb1{Q:Prop}{T0 T1 T2 T3 T4 T5:Type}{A0 A1 A2:T0->T1->T2->T3->T4->T5->Prop}(h:∃ x0 x1 x2 x3 x4 x5,A0 x0 x1 x2 x3 x4 x5/\A1 x0 x1 x2 x3 x4 x5/\A2 x0 x1 x2 x3 x4 x5)(k:∀ (x0:T0) (x1:T1) (x2:T2) (x3:T3) (x4:T4) (x5:T5),A0 x0 x1 x2 x3 x4 x5->A1 x0 x1 x2 x3 x4 x5->A2 x0 x1 x2 x3 x4 x5->Q):Q:=Exists.elim h fun x h=>je1 h (k x)
theorem bV1{Q:Prop}{T0 T1 T2 T3 T4 T5:Type}{A0 A1 A2 A3 A4 A5 A6:T0->T1->T2->T3->T4->T5->Prop}(h:∃ x0 x1 x2 x3 x4 x5,A0 x0 x1 x2 x3 x4 x5/\A1 x0 x1 x2 x3 x4 x5/\A2 x0 x1 x2 x3 x4 x5/\A3 x0 x1 x2 x3 x4 x5/\A4 x0 x1 x2 x3 x4 x5/\A5 x0 x1 x2 x3 x4 x5/\A6 x0 x1 x2 x3 x4 x5)(k:∀ (x0:T0) (x1:T1) (x2:T2) (x3:T3) (x4:T4) (x5:T5),A0 x0 x1 x2 x3 x4 x5->A1 x0 x1 x2 x3 x4 x5->A2 x0 x1 x2 x3 x4 x5->A3 x0 x1 x2 x3 x4 x5->A4 x0 x1 x2 x3 x4 x5->A5 x0 x1 x2 x3 x4 x5->A6 x0 x1 x2 x3 x4 x5->Q):Q:=Exists.elim h fun x h=>jc1 h (k x)
theorem ja1{Q:Prop}{T0 T1 T2 T3 T4 T5 T6:Type}{A0 A1 A2:T0->T1->T2->T3->T4->T5->T6->Prop}(h:∃ x0 x1 x2 x3 x4 x5 x6,A0 x0 x1 x2 x3 x4 x5 x6/\A1 x0 x1 x2 x3 x4 x5 x6/\A2 x0 x1 x2 x3 x4 x5 x6)(k:∀ (x0:T0) (x1:T1) (x2:T2) (x3:T3) (x4:T4) (x5:T5) (x6:T6),A0 x0 x1 x2 x3 x4 x5 x6->A1 x0 x1 x2 x3 x4 x5 x6->A2 x0 x1 x2 x3 x4 x5 x6->Q):Q:=Exists.elim h fun x h=>jb1 h (k x)
theorem y0{T0 T1:Type}{A0:T0->T1->Prop}(x0:T0)(x1:T1)(h0:A0 x0 x1):∃ x0 x1,A0 x0 x1:=⟨x0,x1,h0⟩
theorem ik1{T0 T1:Type}{A0 A1:T0->T1->Prop}(x0:T0)(x1:T1)(h0:A0 x0 x1)(h1:A1 x0 x1):∃ x0 x1,A0 x0 x1/\A1 x0 x1:=⟨x0,x1,h0,h1⟩
theorem mU{T0 T1:Type}{A0 A1 A2:T0->T1->Prop}(x0:T0)(x1:T1)(h0:A0 x0 x1)(h1:A1 x0 x1)(h2:A2 x0 x1):∃ x0 x1,A0 x0 x1/\A1 x0 x1/\A2 x0 x1:=⟨x0,x1,h0,h1,h2⟩
theorem fw1{T0 T1:Type}{A0 A1 A2 A3:T0->T1->Prop}(x0:T0)(x1:T1)(h0:A0 x0 x1)(h1:A1 x0 x1)(h2:A2 x0 x1)(h3:A3 x0 x1):∃ x0 x1,A0 x0 x1/\A1 x0 x1/\A2 x0 x1/\A3 x0 x1:=⟨x0,x1,h0,h1,h2,h3⟩
theorem yZ{T0 T1:Type}{A0 A1 A2 A3 A4:T0->T1->Prop}(x0:T0)(x1:T1)(h0:A0 x0 x1)(h1:A1 x0 x1)(h2:A2 x0 x1)(h3:A3 x0 x1)(h4:A4 x0 x1):∃ x0 x1,A0 x0 x1/\A1 x0 x1/\A2 x0 x1/\A3 x0 x1/\A4 x0 x1:=⟨x0,x1,h0,h1,h2,h3,h4⟩
theorem gA1{T0 T1:Type}{A0 A1 A2 A3 A4 A5:T0->T1->Prop}(x0:T0)(x1:T1)(h0:A0 x0 x1)(h1:A1 x0 x1)(h2:A2 x0 x1)(h3:A3 x0 x1)(h4:A4 x0 x1)(h5:A5 x0 x1):∃ x0 x1,A0 x0 x1/\A1 x0 x1/\A2 x0 x1/\A3 x0 x1/\A4 x0 x1/\A5 x0 x1:=⟨x0,x1,h0,h1,h2,h3,h4,h5⟩
theorem dP1{T0 T1 T2:Type}{A0:T0->T1->T2->Prop}(x0:T0)(x1:T1)(x2:T2)(h0:A0 x0 x1 x2):∃ x0 x1 x2,A0 x0 x1 x2:=⟨x0,x1,x2,h0⟩
theorem fv1{T0 T1 T2:Type}{A0 A1:T0->T1->T2->Prop}(x0:T0)(x1:T1)(x2:T2)(h0:A0 x0 x1 x2)(h1:A1 x0 x1 x2):∃ x0 x1 x2,A0 x0 x1 x2/\A1 x0 x1 x2:=⟨x0,x1,x2,h0,h1⟩
theorem ij1{T0 T1 T2:Type}{A0 A1 A2:T0->T1->T2->Prop}(x0:T0)(x1:T1)(x2:T2)(h0:A0 x0 x1 x2)(h1:A1 x0 x1 x2)(h2:A2 x0 x1 x2):∃ x0 x1 x2,A0 x0 x1 x2/\A1 x0 x1 x2/\A2 x0 x1 x2:=⟨x0,x1,x2,h0,h1,h2⟩
theorem gz1{T0 T1 T2:Type}{A0 A1 A2 A3:T0->T1->T2->Prop}(x0:T0)(x1:T1)(x2:T2)(h0:A0 x0 x1 x2)(h1:A1 x0 x1 x2)(h2:A2 x0 x1 x2)(h3:A3 x0 x1 x2):∃ x0 x1 x2,A0 x0 x1 x2/\A1 x0 x1 x2/\A2 x0 x1 x2/\A3 x0 x1 x2:=⟨x0,x1,x2,h0,h1,h2,h3⟩
theorem kD1{T0 T1 T2:Type}{A0 A1 A2 A3 A4:T0->T1->T2->Prop}(x0:T0)(x1:T1)(x2:T2)(h0:A0 x0 x1 x2)(h1:A1 x0 x1 x2)(h2:A2 x0 x1 x2)(h3:A3 x0 x1 x2)(h4:A4 x0 x1 x2):∃ x0 x1 x2,A0 x0 x1 x2/\A1 x0 x1 x2/\A2 x0 x1 x2/\A3 x0 x1 x2/\A4 x0 x1 x2:=⟨x0,x1,x2,h0,h1,h2,h3,h4⟩
theorem ii1{T0 T1 T2:Type}{A0 A1 A2 A3 A4 A5:T0->T1->T2->Prop}(x0:T0)(x1:T1)(x2:T2)(h0:A0 x0 x1 x2)(h1:A1 x0 x1 x2)(h2:A2 x0 x1 x2)(h3:A3 x0 x1 x2)(h4:A4 x0 x1 x2)(h5:A5 x0 x1 x2):∃ x0 x1 x2,A0 x0 x1 x2/\A1 x0 x1 x2/\A2 x0 x1 x2/\A3 x0 x1 x2/\A4 x0 x1 x2/\A5 x0 x1 x2:=⟨x0,x1,x2,h0,h1,h2,h3,h4,h5⟩
theorem kC1{T0 T1 T2 T3:Type}{A0:T0->T1->T2->T3->Prop}(x0:T0)(x1:T1)(x2:T2)(x3:T3)(h0:A0 x0 x1 x2 x3):∃ x0 x1 x2 x3,A0 x0 x1 x2 x3:=⟨x0,x1,x2,x3,h0⟩
theorem kB1{T0 T1 T2 T3:Type}{A0 A1:T0->T1->T2->T3->Prop}(x0:T0)(x1:T1)(x2:T2)(x3:T3)(h0:A0 x0 x1 x2 x3)(h1:A1 x0 x1 x2 x3):∃ x0 x1 x2 x3,A0 x0 x1 x2 x3/\A1 x0 x1 x2 x3:=⟨x0,x1,x2,x3,h0,h1⟩
theorem kA1{T0 T1 T2 T3:Type}{A0 A1 A2:T0->T1->T2->T3->Prop}(x0:T0)(x1:T1)(x2:T2)(x3:T3)(h0:A0 x0 x1 x2 x3)(h1:A1 x0 x1 x2 x3)(h2:A2 x0 x1 x2 x3):∃ x0 x1 x2 x3,A0 x0 x1 x2 x3/\A1 x0 x1 x2 x3/\A2 x0 x1 x2 x3:=⟨x0,x1,x2,x3,h0,h1,h2⟩
theorem ih1{T0 T1 T2 T3:Type}{A0 A1 A2 A3:T0->T1->T2->T3->Prop}(x0:T0)(x1:T1)(x2:T2)(x3:T3)(h0:A0 x0 x1 x2 x3)(h1:A1 x0 x1 x2 x3)(h2:A2 x0 x1 x2 x3)(h3:A3 x0 x1 x2 x3):∃ x0 x1 x2 x3,A0 x0 x1 x2 x3/\A1 x0 x1 x2 x3/\A2 x0 x1 x2 x3/\A3 x0 x1 x2 x3:=⟨x0,x1,x2,x3,h0,h1,h2,h3⟩
theorem kz1{T0 T1 T2 T3:Type}{A0 A1 A2 A3 A4:T0->T1->T2->T3->Prop}(x0:T0)(x1:T1)(x2:T2)(x3:T3)(h0:A0 x0 x1 x2 x3)(h1:A1 x0 x1 x2 x3)(h2:A2 x0 x1 x2 x3)(h3:A3 x0 x1 x2 x3)(h4:A4 x0 x1 x2 x3):∃ x0 x1 x2 x3,A0 x0 x1 x2 x3/\A1 x0 x1 x2 x3/\A2 x0 x1 x2 x3/\A3 x0 x1 x2 x3/\A4 x0 x1 x2 x3:=⟨x0,x1,x2,x3,h0,h1,h2,h3,h4⟩
theorem ky1{T0 T1 T2 T3:Type}{A0 A1 A2 A3 A4 A5 A6 A7:T0->T1->T2->T3->Prop}(x0:T0)(x1:T1)(x2:T2)(x3:T3)(h0:A0 x0 x1 x2 x3)(h1:A1 x0 x1 x2 x3)(h2:A2 x0 x1 x2 x3)(h3:A3 x0 x1 x2 x3)(h4:A4 x0 x1 x2 x3)(h5:A5 x0 x1 x2 x3)(h6:A6 x0 x1 x2 x3)(h7:A7 x0 x1 x2 x3):∃ x0 x1 x2 x3,A0 x0 x1 x2 x3/\A1 x0 x1 x2 x3/\A2 x0 x1 x2 x3/\A3 x0 x1 x2 x3/\A4 x0 x1 x2 x3/\A5 x0 x1 x2 x3/\A6 x0 x1 x2 x3/\A7 x0 x1 x2 x3:=⟨x0,x1,x2,x3,h0,h1,h2,h3,h4,h5,h6,h7⟩
theorem ig1{T0 T1 T2 T3 T4:Type}{A0:T0->T1->T2->T3->T4->Prop}(x0:T0)(x1:T1)(x2:T2)(x3:T3)(x4:T4)(h0:A0 x0 x1 x2 x3 x4):∃ x0 x1 x2 x3 x4,A0 x0 x1 x2 x3 x4:=⟨x0,x1,x2,x3,x4,h0⟩
theorem gy1{T0 T1 T2 T3 T4 T5:Type}{A0 A1 A2 A3 A4 A5 A6 A7 A8 A9:T0->T1->T2->T3->T4->T5->Prop}(x0:T0)(x1:T1)(x2:T2)(x3:T3)(x4:T4)(x5:T5)(h0:A0 x0 x1 x2 x3 x4 x5)(h1:A1 x0 x1 x2 x3 x4 x5)(h2:A2 x0 x1 x2 x3 x4 x5)(h3:A3 x0 x1 x2 x3 x4 x5)(h4:A4 x0 x1 x2 x3 x4 x5)(h5:A5 x0 x1 x2 x3 x4 x5)(h6:A6 x0 x1 x2 x3 x4 x5)(h7:A7 x0 x1 x2 x3 x4 x5)(h8:A8 x0 x1 x2 x3 x4 x5)(h9:A9 x0 x1 x2 x3 x4 x5):∃ x0 x1 x2 x3 x4 x5,A0 x0 x1 x2 x3 x4 x5/\A1 x0 x1 x2 x3 x4 x5/\A2 x0 x1 x2 x3 x4 x5/\A3 x0 x1 x2 x3 x4 x5/\A4 x0 x1 x2 x3 x4 x5/\A5 x0 x1 x2 x3 x4 x5/\A6 x0 x1 x2 x3 x4 x5/\A7 x0 x1 x2 x3 x4 x5/\A8 x0 x1 x2 x3 x4 x5/\A9 x0 x1 x2 x3 x4 x5:=⟨x0,x1,x2,x3,x4,x5,h0,h1,h2,h3,h4,h5,h6,h7,h8,h9⟩
open PySem
set_option maxRecDepth 100000
set_option linter.unusedVariables false
set_option genInjectivity false in
set_option genSizeOf false in
structure Nd where
 tag:Nat
 a:Expr
 b:Expr
 c:Expr
 l:List Expr
 o:Operator
 u:UnaryOp
 cs:List CmpOp
 bo:BoolOp
 oa:Option Expr
 ob:Option Expr
 oc:Option Expr
 g:List Comprehension
 sc:Scope
 ks:List Keyword
 s:Str
 n:Nat
 v:Const
 ko:List (Option Expr)
 p:Pos
noncomputable def p00:Pos:=⟨0,0,0,0⟩
noncomputable def e00:Expr:=.List [] p00
noncomputable def dN:Nd:=⟨0,e00,e00,e00,[],.Add,.Not,[],.And,none,none,none,[],⟨.module,[],false,false,[]⟩,[],⟨#[]⟩,0,.none,[],p00⟩
noncomputable def un(e:Expr):Nd:=@Expr.casesOn (fun _=>Nd) e
  (fun o l p=>{ dN with tag:=7,bo:=o,l:=l,p:=p })
  (fun _ _ _=>dN)
  (fun l o r p=>{ dN with tag:=4,a:=l,o:=o,b:=r,p:=p })
  (fun o x p=>{ dN with tag:=5,u:=o,a:=x,p:=p })
  (fun _ _ _ _=>dN)
  (fun t x y p=>{ dN with tag:=8,a:=t,b:=x,c:=y,p:=p })
  (fun k v p=>{ dN with ko:=k,l:=v,p:=p })
  (fun _ _ _=>dN)
  (fun x g s p=>{ dN with tag:=11,a:=x,g:=g,sc:=s,p:=p })
  (fun _ _ _ _=>dN)
  (fun _ _ _ _ _=>dN)
  (fun _ _ _ _=>dN)
  (fun _ _=>dN)
  (fun _ _=>dN)
  (fun _ _=>dN)
  (fun l o r p=>{ dN with tag:=6,a:=l,cs:=o,l:=r,p:=p })
  (fun f l k p=>{ dN with tag:=12,a:=f,l:=l,ks:=k,p:=p })
  (fun _ _ _ _=>dN)
  (fun _ _=>dN)
  (fun v k p=>{ dN with tag:=14,v:=v,n:=k,p:=p })
  (fun x n p=>{ dN with tag:=13,a:=x,s:=n,p:=p })
  (fun x y p=>{ dN with tag:=9,a:=x,b:=y,p:=p })
  (fun _ _=>dN)
  (fun x p=>{ dN with tag:=1,s:=x,p:=p })
  (fun l p=>{ dN with tag:=3,l:=l,p:=p })
  (fun l k p=>{ dN with tag:=2,l:=l,n:=k,p:=p })
  (fun x y z p=>{ dN with tag:=10,oa:=x,ob:=y,oc:=z,p:=p })
noncomputable def bk(d:Nd):List Expr:=[e00,.Name d.s d.p,.Tuple d.l d.n d.p,.List d.l d.p,.BinOp d.a d.o d.b d.p,.UnaryOp d.u d.a d.p,.Compare d.a d.cs d.l d.p,.BoolOp d.bo d.l d.p,.IfExp d.a d.b d.c d.p,.Subscript d.a d.b d.p,
 .Slice d.oa d.ob d.oc d.p,.ListComp d.a d.g d.sc d.p,.Call d.a d.l d.ks d.p,.Attribute d.a d.s d.p,.Constant d.v d.n d.p]
noncomputable def Un(e:Expr):Prop:=(un e).tag=0\/e=(bk (un e)).getD (un e).tag e00
theorem iN1{e:Expr}(h:e=(bk (un e)).getD (un e).tag e00):Un e:=.inr h
theorem iM1{e:Expr}(h:(un e).tag=0):Un e:=.inl h
theorem cm1(e:Expr):Un e:=by cases e <;> first | exact iM1 rfl | exact iN1 rfl
theorem qq{e:Expr}{k:Nat}(h:(un e).tag=k+1):e=(bk (un e)).getD (k+1) e00 :=
 (cm1 e).elim (fun q=>absurd (q.symm.trans h) (Nat.succ_ne_zero k).symm) fun q=>h▸q
set_option genInjectivity false in
set_option genSizeOf false in
structure Sd where
 tag:Nat
 a:Expr
 b:Expr
 l:List Expr
 oe:Option Expr
 x:List Stmt
 y:List Stmt
 o:Operator
 ar:Arguments
 sc:Scope
 s:Str
 p:Pos
noncomputable def dS:Sd:=⟨0,e00,e00,[],none,[],[],.Add,⟨[],[],none,[],[],none,[]⟩,⟨.module,[],false,false,[]⟩,⟨#[]⟩,p00⟩
noncomputable def us(e:Stmt):Sd:=@Stmt.casesOn (fun _=>Sd) e
  (fun n a b _ _ _ s _ _ p=>{ dS with x:=b,ar:=a,sc:=s,s:=n,p:=p })
  (fun _ _ _ _ _ _ _ _ _ _=>dS)
  (fun _ _ _ b _ _ _ _ _ _ p=>{ dS with x:=b,p:=p })
  (fun e p=>{ dS with tag:=4,oe:=e,p:=p })
  (fun l p=>{ dS with tag:=9,l:=l,p:=p })
  (fun l e p=>{ dS with tag:=1,l:=l,a:=e,p:=p })
  (fun _ _ _ _ _ _ _=>dS)
  (fun t o e p=>{ dS with tag:=2,a:=t,o:=o,b:=e,p:=p })
  (fun _ _ _ _ _=>dS)
  (fun t i x y p=>{ dS with tag:=7,a:=t,b:=i,x:=x,y:=y,p:=p })
  (fun _ _ _ _ _=>dS)
  (fun t x y p=>{ dS with tag:=6,a:=t,x:=x,y:=y,p:=p })
  (fun t x y p=>{ dS with tag:=5,a:=t,x:=x,y:=y,p:=p })
  (fun _ _ _=>dS)
  (fun _ _ _=>dS)
  (fun _ _ _=>dS)
  (fun _ _ _=>dS)
  (fun _ _ _ _ _=>dS)
  (fun _ _ _ _ _=>dS)
  (fun t m p=>{ dS with tag:=8,a:=t,oe:=m,p:=p })
  (fun _ _=>dS)
  (fun _ _ _ _=>dS)
  (fun _ _=>dS)
  (fun _ _=>dS)
  (fun e p=>{ dS with tag:=3,a:=e,p:=p })
  (fun p=>{ dS with tag:=11,p:=p })
  (fun p=>{ dS with tag:=10,p:=p })
  (fun _=>dS)
noncomputable def bkS(d:Sd):List Stmt:=[.Pass p00,.Assign d.l d.a d.p,.AugAssign d.a d.o d.b d.p,.Expr d.a d.p,.Return d.oe d.p,.If d.a d.x d.y d.p,.While d.a d.x d.y d.p,.For d.a d.b d.x d.y d.p,.Assert d.a d.oe d.p,.Delete d.l d.p,.Break d.p,.Pass d.p]
noncomputable def Us(e:Stmt):Prop:=(us e).tag=0\/e=(bkS (us e)).getD (us e).tag (.Pass p00)
theorem iJ1{e:Stmt}(h:e=(bkS (us e)).getD (us e).tag (.Pass p00)):Us e:=.inr h
theorem iI1{e:Stmt}(h:(us e).tag=0):Us e:=.inl h
theorem cl1(e:Stmt):Us e:=by cases e <;> first | exact iI1 rfl | exact iJ1 rfl
theorem tV{e:Stmt}{k:Nat}(h:(us e).tag=k+1):e=(bkS (us e)).getD (k+1) (.Pass p00) :=
 (cl1 e).elim (fun q=>absurd (q.symm.trans h) (Nat.succ_ne_zero k).symm) fun q=>h▸q
noncomputable def eW1(s:Stmt):Arguments:=(us s).ar
noncomputable def ax(s:Stmt):List Stmt:=(us s).x
noncomputable def ag(s:Stmt):Scope:=(us s).sc
noncomputable def kJ1:Const->Int | .int i=>i | _=>0
noncomputable def iY1:Const->Str | .str x=>x | _=>⟨#[]⟩
noncomputable def kG1(e:Expr):List (Int×Str):=((un e).ko.zip (un e).l).map fun x=>(kJ1 (un (x.1.getD e00)).v,iY1 (un x.2).v)
open PySem PySem.W PyProof.Rows
section
variable {p:Program} {w:World} {n₀:Nat} {ann:Option Value} {q:Pos}
noncomputable def Steps(p:Program)(w:World)(n₀:Nat)(ann:Option Value)(s:Shared)(t:Thread)(s':Shared)(t':Thread):Prop :=
 ∃ n,segGo treeTable p w n₀ ann 1 n s t=some (s',t')
theorem mw{tb:String->Option Builtin}{b:Nat}:∀ {n m:Nat} {s s' s'':Shared} {t t' t'':Thread},segGo tb p w n₀ ann b n s t=some (s',t') ->
  segGo tb p w n₀ ann b m s' t'=some (s'',t'')->segGo tb p w n₀ ann b (n+m) s t=some (s'',t'')
 | 0,m,s,s',s'',t,t',t'',h,k=>by
  refine byQ fun Q kQ=>?_
  obtain ⟨rfl,rfl⟩:s=s'/\t=t':=by simpa [segGo] using h
  refine kQ ?_
  rw[Nat.zero_add];exact k
 | n+1,m,s,s',s'',t,t',t'',h,k=>by
  rw[show n+1+m=n+m+1 by exact Nat.add_right_comm _ _ _]
  dsimp only[segGo] at h ⊢
  cases he:endAt b t with
  | some f=>rw[he] at h;exact nso h
  | none =>
   rw[he] at h
   cases hk:stepOk n₀ ann t with
   | false=>replace h:=(hk)▸h;exact nso h
   | true =>
    replace h:=(hk)▸h
    cases hs:step (denote tb) p w s t with
    | halt o aA=>rw[hs] at h;exact nso h
    | go aA cU=>rw[hs] at h;exact mw h k
theorem Steps.refl(s:Shared)(t:Thread):Steps p w n₀ ann s t s t:=⟨0,rfl⟩
theorem Steps.trans{s s' s'':Shared}{t t' t'':Thread}(h:Steps p w n₀ ann s t s' t')(k:Steps p w n₀ ann s' t' s'' t''):Steps p w n₀ ann s t s'' t'' :=
 let ⟨_,h⟩:=h;let ⟨_,k⟩:=k;⟨_,mw h k⟩
noncomputable def Yld{α:Type}(p:Program)(w:World)(n₀:Nat)(ann:Option Value)(q:Pos)(x:Sem α)(pos:Pos)(s:Shared)(a:α)(pos':Pos)(s':Shared):Prop :=
 ∀ (K:α->Sem Fin) (H:Value->Sem Fin) (gd:Bool->Bool) (lv:List Value->List Value) (code:Code),
  Steps p w n₀ ann s ⟨x.wrap K H gd lv,code,pos,[topFrame q]⟩ s' ⟨K a,code,pos',[topFrame q]⟩
variable {α β:Type} {pos pos' pos'':Pos} {s s' s'':Shared}
theorem e11{a:α}:Yld p w n₀ ann q (Sem.pure a) pos s a pos s:=fun _ _ _ _ _=>Steps.refl _ _
theorem az{a:α}:Yld p w n₀ ann q (Pure.pure a:Sem α) pos s a pos s:=fun _ _ _ _ _=>Steps.refl _ _
theorem ao{x:Sem α}{f:α->Sem β}{a:α}{b:β}(h:Yld p w n₀ ann q x pos s a pos' s')(k:Yld p w n₀ ann q (f a) pos' s' b pos'' s'') :
  Yld p w n₀ ann q (x>>=f) pos s b pos'' s'':=fun K H gd lv code=>by
 rw[Sem.bind_eq_wrap',Sem.wrap_wrap]
 exact(h _ _ _ _ _).trans (k _ _ _ _ _)
theorem e41{x:Sem α}{vs:List Value}{a:α}(h:Yld p w n₀ ann q x pos s a pos' s'):Yld p w n₀ ann q (x.keep vs) pos s a pos' s':=fun K H gd lv code=>by
 rw[Sem.keep_eq_wrap,Sem.wrap_wrap]
 exact h _ _ _ _ _
theorem aN{x:Sem α}{vs:List Value}{a:α}(h:Yld p w n₀ ann q x pos s a pos' s'):Yld p w n₀ ann q (holding vs x) pos s a pos' s':=by
 unfold holding
 split
 ·exact h
 ·exact e41 h
theorem sP{x:Sem α}{f:Value->Sem α}{a:α}(h:Yld p w n₀ ann q x pos s a pos' s'):Yld p w n₀ ann q (x.tryCatch f) pos s a pos' s':=fun K H gd lv code=>by
 rw[Sem.tryCatch_eq_wrap,Sem.wrap_wrap]
 exact h _ _ _ _ _
theorem nU{x:Sem α}{f:Value->Sem Unit}{a:α}(h:Yld p w n₀ ann q x pos s a pos' s'):Yld p w n₀ ann q (x.onRaise f) pos s a pos' s':=fun K H gd lv code=>by
 rw[Sem.onRaise_eq_wrap,Sem.wrap_wrap]
 exact h _ _ _ _ _
theorem ek{x y:Sem α}{a:α}(e:x=y)(h:Yld p w n₀ ann q y pos s a pos' s'):Yld p w n₀ ann q x pos s a pos' s':=e▸h
theorem ze{tag:String}:Yld p w n₀ ann q (rule tag) pos s () pos s:=fun K H gd lv code=>⟨1,rfl⟩
theorem jc{pp:Pos}:Yld p w n₀ ann q (PySem.standAt pp) pos s () pp s:=fun K H gd lv code=>⟨1,rfl⟩
theorem v7:Yld p w n₀ ann q PySem.fresh pos s s.toks pos { s with toks:=s.toks+1 }:=fun K H gd lv code=>⟨1,rfl⟩
theorem hw1:Yld p w n₀ ann q PySem.ask pos s ⟨p,w.params⟩ pos s:=fun K H gd lv code=>⟨1,rfl⟩
theorem v9{o:Obj}:Yld p w n₀ ann q (PySem.alloc o) pos s s.heap.objs.size pos { s with heap:=s.heap.push o }:=fun K H gd lv code=>⟨1,rfl⟩
theorem dk{a:Addr}{part:Option Value}{o:Obj}(h:s.heap.get? a=some o):Yld p w n₀ ann q (PySem.loadPart a part) pos s o pos s:=fun K H gd lv code=>⟨1,by
 obtain ⟨heap,gens,drawn,toks,os⟩:=s
 show (match (match heap.get? a with | some o=>Step.go _ _ | none=>_:Step) with | .go s' t'=>some (s',t') | .halt _ _=>none)=_
 have h':heap.get? a=some o:=h
 rw[h'];rfl⟩
theorem nR{a:Addr}{part:Option Value}{f:Obj->Obj}{o:Obj}(h:s.heap.get? a=some o)(hn:n₀<=a) :
  Yld p w n₀ ann q (PySem.updatePart a part f) pos s () pos { s with heap:=s.heap.update a f }:=fun K H gd lv code=>⟨1,by
 obtain ⟨heap,gens,drawn,toks,os⟩:=s
 have hk:stepOk n₀ ann ⟨(PySem.updatePart a part f).wrap K H gd lv,code,pos,[topFrame q]⟩=true:=by
  show (true&&(Nat.ble n₀ a || _ || _ || _))=true
  rw[Nat.ble_eq.mpr hn];rfl
 have h':heap.get? a=some o:=h
 dsimp only[segGo]
 show (match stepOk n₀ ann ⟨(PySem.updatePart a part f).wrap K H gd lv,code,pos,[topFrame q]⟩ with | false=>none | true=>_)=_
 rw[hk]
 show (match (if (heap.get? a).isSome=true then Step.go _ _ else _:Step) with | .go s' t'=>some (s',t') | .halt _ _=>none)=_
 rw[h'];rfl⟩
end
section
variable {p:Program} {w:World} {n₀:Nat} {ann:Option Value} {q:Pos} {pos pos':Pos} {s s':Shared}
theorem sR{i:Int}{t:Tok}:Yld p w n₀ ann q (call (.builtin "int.__hash__") [.int i t]) pos s (.int (rawHash i) s.toks) pos { s with toks:=s.toks+1 } :=
 fun K H gd lv code=>⟨4,by
  obtain ⟨heap,gens,drawn,toks,os⟩:=s
  rfl'⟩
theorem sU{i:Int}{t:Tok}:Yld p w n₀ ann q (bindSpecialIfBound? (.int i t) "__hash__") pos s (some (.builtin "int.__hash__",[.int i t])) pos s:=by
 unfold bindSpecialIfBound?
 have e:specialOf (.int i t) "__hash__"=pure (some (.builtin "int.__hash__")):=by
  have:=slot_int_hash.lookup
  unfold specialOf
  exact this
 have e2:bindSpecial (.builtin "int.__hash__") (.int i t)=pure (.builtin "int.__hash__",[.int i t]):=by rfl'
 refine(e)▸?_
 refine ao az ?_
 show Yld p w n₀ ann q (ask>>=fun st=>if st.params.followText "special-get-raises"=true then _ else _) _ _ _ _ _
 refine ao hw1 ?_
 have b:Yld p w n₀ ann q (do return some (← bindSpecial (.builtin "int.__hash__") (.int i t)):Sem (Option (Value×List Value))) pos s (some (.builtin "int.__hash__",[.int i t])) pos s:=by
  exact(e2)▸(ao az az)
 split
 ·exact b
 ·exact sP b
theorem nT{i:Int}{t:Tok}(h0:-(2:Int)^63<=rawHash i)(h1:rawHash i<2^63) :
  Yld p w n₀ ann q (pyHash (.int i t)) pos s (if rawHash i==-1 then -2 else rawHash i) pos { s with toks:=s.toks+1 }:=by
 dsimp only[pyHash]
 show Yld p w n₀ ann q (pyHashByItsType (.int i t)) _ _ _ _ _
 unfold pyHashByItsType
 have e:specialOf (.int i t) "__hash__"=pure (some (.builtin "int.__hash__")):=by
  have:=slot_int_hash.lookup
  unfold specialOf
  exact this
 have e0:cRoomFor "hash" [Value.int i t]=pure ():=rfl
 refine ao (ek e0 az) (ao (ek e az) ?_)
 show Yld p w n₀ ann q (if (some (Value.builtin "int.__hash__")==some Value.none)=true then _ else _) _ _ _ _ _
 rw[if_neg (by decide)]
 refine ao (ek e az) ?_
 show Yld p w n₀ ann q (callSpecialIfBoundUnlessNone? (.int i t) "__hash__" _>>=_) _ _ _ _ _
 refine ao (a:=some (.int (rawHash i) s.toks)) (pos':=pos) (s':={ s with toks:=s.toks+1 }) ?_ ?_
 ·unfold callSpecialIfBoundUnlessNone?
  refine aN (ao sU ?_)
  show Yld p w n₀ ann q (if (Value.builtin "int.__hash__"==Value.none)=true then _ else _) _ _ _ _ _
  rw[if_neg (by decide)]
  exact ao sR az
 ·show Yld p w n₀ ann q (if (decide (-(2:Int) ^ 63<=rawHash i)&&decide (rawHash i<2 ^ 63))=true then _ else _) _ _ _ _ _
  rw[if_pos (by rw[decide_eq_true h0,decide_eq_true h1];rfl)]
  exact az
theorem cg{a:Addr}{part:Option Value}{o:Obj}{es:Array DictEntry}{n:Nat}(h:s.heap.get? a=some o)(hd:o.data=.dict es n) :
  Yld p w n₀ ann q (PySem.dictEntries a part) pos s es pos s:=by
 unfold PySem.dictEntries
 refine ao (dk h) ?_
 exact(hd)▸(az)
theorem je{a:Addr}{part:Option Value}{o:Obj}{es:Array DictEntry}{n:Nat}(h:s.heap.get? a=some o)(hd:o.data=.dict es n) :
  Yld p w n₀ ann q (PySem.dictEpoch a part) pos s n pos s:=by
 unfold PySem.dictEpoch
 refine ao (dk h) ?_
 exact(hd)▸(az)
noncomputable def aG(es:Array DictEntry)(n:Nat):Obj:={ cls:=.type "dict",data:=.dict es n }
theorem mdk{es:Array DictEntry}{n:Nat}{e:DictEntry}:Obj.mapDictKeys (fun x=>x.push e) (aG es n)=aG (es.push e) (n+1):=rfl
theorem jd{a:Addr}{part:Option Value}{es:Array DictEntry}{n:Nat}{e:DictEntry}(h:s.heap.get? a=some (aG es n))(hn:n₀<=a)(hz:es.size<=1000) :
  Yld p w n₀ ann q (updateDictKeys a (·.push e) part) pos s () pos { s with heap:=s.heap.update a (Obj.mapDictKeys (·.push e)) }:=by
 unfold updateDictKeys
 refine ao (dk h) ?_
 show Yld p w n₀ ann q (updatePart a part (Obj.mapDictKeys (·.push e))>>=fun _=>lookBehind a part) _ _ _ _ _
 refine ao (nR h hn) ?_
 unfold lookBehind
 have h':(s.heap.update a (Obj.mapDictKeys (·.push e))).get? a=some (aG (es.push e) (n+1)):=Heap.get?_update_self _ h rfl
 refine ao (dk h') ?_
 have:(aG (es.push e) (n+1)).data.pastItsLine=none:=by
  show (if (es.push e).size>sizeLine+1 then _ else none)=_
  rw[if_neg (by rw[Array.size_push,sizeLine_eq];lia)]
 exact(this)▸(az)
noncomputable def NotIn(h:Int)(es:Array DictEntry):Prop:=∀ e∈es.toList,e.hash≠h
theorem oF{h:Int}{es:Array DictEntry}(hn:NotIn h es):placesWithHash es.size (fun i=>es[i]?.map (·.hash)) h=[]:=by
 dsimp only[placesWithHash]
 rw[List.filter_eq_nil_iff]
 intro i hi
 have hi':i<es.size:=by simpa using hi
 have:es[i]?=some es[i]:=Array.getElem?_eq_getElem hi'
 simp only[this,Option.map_some,beq_iff_eq,Option.some.injEq]
 intro e
 exact hn es[i] (by simp) e
theorem eo{a:Addr}{i:Int}{t:Tok}{h:Int}{es:Array DictEntry}{n:Nat}(ho:s.heap.get? a=some (aG es n))(hn:NotIn h es) :
  Yld p w n₀ ann q (dictFind a (.int i t) h) pos s none pos s:=by
 unfold dictFind
 refine aN (ao (cg ho rfl) ?_)
 show Yld p w n₀ ann q (if (Value.int i t::(placesWithHash es.size (fun i=>es[i]?.map (·.hash)) h).filterMap fun i=>es[i]?.map (·.key)).all carriedByValue=true then _ else _) _ _ _ _ _
 refine(oF hn)▸?_
 show Yld p w n₀ ann q (dictWalkPlain a (.int i t) h es []) _ _ _ _ _
 exact e11
theorem v8{a:Addr}{i:Int}{t:Tok}{h:Int}{v:Value}{es:Array DictEntry}{n:Nat}(ho:s.heap.get? a=some (aG es n))(hn:NotIn h es)(ha:n₀<=a)(hz:es.size<=1000) :
  Yld p w n₀ ann q (PySem.dictPut a h (.int i t) v) pos s () pos { s with heap:=s.heap.update a (Obj.mapDictKeys (·.push ⟨h,.int i t,v⟩)) }:=by
 unfold PySem.dictPut
 exact ao (eo ho hn) (jd ho ha hz)
theorem nV{a:Addr}{i:Int}{t:Tok}{v:Value}{es:Array DictEntry}{n:Nat}(ho:s.heap.get? a=some (aG es n))(hi:0<=i)(hi':i<2^60)(hn:NotIn i es)(ha:n₀<=a)(hz:es.size<=1000) :
  Yld p w n₀ ann q (PySem.dictSet a (.int i t) v) pos s () pos { s with heap:=s.heap.update a (Obj.mapDictKeys (·.push ⟨i,.int i t,v⟩)),toks:=s.toks+1 }:=by
 have hr:rawHash i=i:=by
  dsimp only[rawHash]
  have h1:((i.natAbs:Int) % ((2 ^ 61 - 1:Nat):Int))=i:=by
   rw[← Int.natCast_emod,Nat.mod_eq_of_lt (by omega)];lia
  have h2:¬ i<0:=by lia
  have h3:(i==-1)=false:=by rw[beq_eq_false_iff_ne];lia
  simp only[h1,h2,if_false,h3,Bool.false_eq_true]
 unfold PySem.dictSet
 refine aN (ao (nT (by rw[hr];lia) (by rw[hr];omega)) ?_)
 rw[hr]
 have:(i==-1)=false:=by rw[beq_eq_false_iff_ne];lia
 refine(this)▸?_
 unfold dictSetHashed
 refine aN (ao (eo ho hn) (ao ze (jd ho ha hz)))
end
noncomputable def hx(hb:Heap)(l:List Obj):Heap:=⟨hb.objs++l.toArray,hb.life⟩
theorem ea1(hb:Heap):hx hb []=hb:=by obtain ⟨⟨o⟩,l⟩:=hb;simp [hx]
theorem vm(hb:Heap)(l:List Obj):(hx hb l).objs.size=hb.objs.size+l.length:=by simp [hx]
theorem vn(hb:Heap)(l:List Obj)(o:Obj):(hx hb l).push o=hx hb (l++[o]):=by
 have os:=hb.1;have lf:=hb.2
 simp [hx,Heap.push]
theorem qT(hb:Heap)(l:List Obj)(k:Nat)(o:Obj)(h:l[k]?=some o)(hf:∀ s d c,o≠⟨c,d,.freed,s⟩):(hx hb l).get? (hb.objs.size+k)=some o:=by
 have e:(hx hb l).objs[hb.objs.size+k]?=some o:=by
  dsimp only[hx]
  rw[Array.getElem?_append_right (by exact Nat.le_add_right _ _)]
  simpa using h
 unfold Heap.get?
 rw[e]
 obtain ⟨c,d,dt,sl⟩:=o
 cases dt <;> first | rfl | exact absurd rfl (hf _ _ _)
theorem iM(hb:Heap)(l:List Obj)(k:Nat)(f:Obj->Obj)(o:Obj)(h:l[k]?=some o):(hx hb l).update (hb.objs.size+k) f=hx hb (l.set k (f o)):=by
 obtain ⟨⟨os⟩,lf⟩:=hb
 unfold hx Heap.update
 simp only[Heap.mk.injEq,and_true]
 apply Array.ext'
 simp only[Array.toList_modify,List.append_toArray,List.size_toArray]
 apply List.ext_getElem?
 intro i
 rw[List.getElem?_modify]
 by_cases hi:i<os.length
 ·rw[List.getElem?_append_left hi,List.getElem?_append_left hi]
  have:¬ os.length+k=i:=by omega
  simp only[this,if_false]
  cases os[i]? <;> rfl
 ·rw[List.getElem?_append_right (by exact Nat.not_lt.mp ‹_›),List.getElem?_append_right (by exact Nat.not_lt.mp ‹_›),List.getElem?_set]
  by_cases hk:os.length+k=i
  ·have e:i - os.length=k:=by omega
   have hlt:k<l.length:=(List.getElem?_eq_some_iff.mp h).1
   rw[e,h]
   simp [hk,hlt]
  ·have:¬ k=i - os.length:=by omega
   simp only[hk,this,if_false]
   cases l[i - os.length]? <;> rfl
section
variable {p:Program} {w:World} {n₀:Nat} {ann:Option Value} {q:Pos} {pos pos':Pos} {s s':Shared}
theorem pZ{α:Type}{l:List α}{f:α->PUnit->Sem (ForInStep PUnit)}(S:Nat->Shared)(h:∀ k x,l[k]?=some x->Yld p w n₀ ann q (f x ⟨⟩) pos (S k) (.yield ⟨⟩) pos (S (k+1))) :
  Yld p w n₀ ann q (forIn l ⟨⟩ f) pos (S 0) ⟨⟩ pos (S l.length):=by
 induction l generalizing S with
 | nil=>rw[List.forIn_nil];exact az
 | cons x l ih =>
  rw[List.forIn_cons]
  refine ao (h 0 x rfl) ?_
  have:=ih (fun k=>S (k+1)) fun k y hy=>h (k+1) y (by exact hy)
  exact this
noncomputable def cA(t:Nat)(kvs:List (Int×Str)):List DictEntry:=kvs.zipIdx.map fun x=>⟨x.1.1,.int x.1.1 (t+3*x.2),.str x.1.2 (t+3*x.2+1)⟩
noncomputable def fZ(t:Nat)(kvs:List (Int×Str)):List DictEntry:=kvs.zipIdx.map fun x=>⟨x.1.1,.int x.1.1 (t+2*x.2),.str x.1.2 (t+2*x.2+1)⟩
theorem aR(t:Nat)(kvs:List (Int×Str)):(cA t kvs).length=kvs.length:=by simp [cA]
theorem bU(t:Nat)(kvs:List (Int×Str)):(fZ t kvs).length=kvs.length:=by simp [fZ]
theorem x8(t:Nat)(kvs:List (Int×Str))(k:Nat)(i:Int)(x:Str)(h:kvs[k]?=some (i,x)):(cA t kvs)[k]?=some ⟨i,.int i (t+3*k),.str x (t+3*k+1)⟩:=by
 simp [cA,List.getElem?_map,List.getElem?_zipIdx,h]
theorem qX(t:Nat)(kvs:List (Int×Str))(k:Nat)(i:Int)(x:Str)(h:kvs[k]?=some (i,x)):(fZ t kvs)[k]?=some ⟨i,.int i (t+2*k),.str x (t+2*k+1)⟩:=by
 simp [fZ,List.getElem?_map,List.getElem?_zipIdx,h]
theorem dX{α:Type}{l:List α}{k:Nat}{x:α}(h:l[k]?=some x):l.take (k+1)=l.take k++[x]:=by
 rw[List.take_add_one,h];rfl
noncomputable def aZ(es:List DictEntry):List Int:=es.map (·.hash)
theorem dK(t:Nat)(kvs:List (Int×Str)):aZ (cA t kvs)=kvs.map (·.1):=by
 apply List.ext_getElem?
 intro k
 simp only[aZ,cA,List.map_map,List.getElem?_map,List.getElem?_zipIdx]
 cases kvs[k]? <;> rfl
theorem iN(t:Nat)(kvs:List (Int×Str)):aZ (fZ t kvs)=kvs.map (·.1):=by
 apply List.ext_getElem?
 intro k
 simp only[aZ,fZ,List.map_map,List.getElem?_map,List.getElem?_zipIdx]
 cases kvs[k]? <;> rfl
theorem k7{es:List DictEntry}{i:Int}(h:i ∉ aZ es):NotIn i es.toArray:=fun e he hh=>h (by
 simp only[aZ,List.mem_map];exact⟨e,by simpa using he,hh⟩)
theorem d8{l:List Int}(hn:l.Nodup){k:Nat}{i:Int}(h:l[k]?=some i):i ∉ l.take k:=by
 intro hm
 have hd:i∈l.drop k:=by
  obtain ⟨hk,e⟩:=List.getElem?_eq_some_iff.mp h
  rw[List.mem_drop_iff_getElem]
  exact⟨0,by lia,by exact e⟩
 have hn':(l.take k++l.drop k).Nodup:=by rw[List.take_append_drop];exact hn
 exact(List.nodup_append.mp hn').2.2 i hm i hd rfl
noncomputable def y4(i:Int):Sem Value:=mkInt i
noncomputable def yD(pd:Pos)(x:Str):Sem Value:=do let v ← mkText x;standAt pd;pure v
theorem e31{i:Int}:Yld p w n₀ ann q (y4 i) pos s (.int i s.toks) pos { s with toks:=s.toks+1 }:=ao v7 az
theorem e01{pd:Pos}{x:Str}:Yld p w n₀ ann q (yD pd x) pos s (.str x s.toks) pd { s with toks:=s.toks+1 }:=ao (ao v7 az) (ao jc az)
noncomputable def GoodKeys(kvs:List (Int×Str)):Prop:=(kvs.map (·.1)).Nodup/\∀ x∈kvs,0<=x.1/\x.1<2 ^ 60
theorem nS{pd:Pos}{hb:Heap}{l:List Obj}{kvs:List (Int×Str)}(hk:GoodKeys kvs)(h15:15<kvs.length)(h1000:kvs.length<=1000)(hn:n₀<=hb.objs.size)(t:Nat) :
  Yld p w n₀ ann q (subDict (kvs.map fun x=>(y4 x.1,yD pd x.2))) pd { s with heap:=hx hb l,toks:=t } (hb.objs.size+l.length) pd
   { s with heap:=hx hb (l++[aG (cA t kvs).toArray kvs.length]),toks:=t+3*kvs.length }:=by
 dsimp only[subDict]
 refine ao v9 ?_
 rw[show (hx hb l).objs.size=hb.objs.size+l.length from vm _ _]
 rw[show ((hx hb l).push { cls:=.type "dict",data:=.dict #[] })=hx hb (l++[aG #[] 0]) from vn _ _ _]
 refine ao (a:=PUnit.unit) (aN ?_) az
 rw[if_neg (by simp;assumption)]
 refine ao ze ?_
 have loop:=pZ (p:=p) (w:=w) (n₀:=n₀) (ann:=ann) (q:=q) (pos:=pd) (l:=kvs.map fun x=>(y4 x.1,yD pd x.2))
  (f:=fun x _=>do
   let kv ← x.1
   let vv ← holding [kv] x.2
   holding [kv,vv] (dictSet (hb.objs.size+l.length) kv vv)
   pure (ForInStep.yield PUnit.unit))
  (fun k=>{ s with heap:=hx hb (l++[aG ((cA t kvs).take k).toArray k]),toks:=t+3*k }) (by
   intro k x hx'
   rw[List.getElem?_map] at hx'
   refine a9 (Option.map_eq_some_iff.mp hx') fun h_0 h_p=>?_;obtain ⟨i,v⟩:=h_0;have hkv:=h_p.1;obtain rfl:=h_p.2
   have hlt:k<kvs.length:=(List.getElem?_eq_some_iff.mp hkv).1
   have h_p:=hk.2 (i,v) (List.mem_of_getElem? hkv);have g0:=h_p.1;have g1:=h_p.2
   have hi:((kvs.map (·.1))[k]?)=some i:=by rw[List.getElem?_map,hkv];rfl
   have hget:(hx hb (l++[aG ((cA t kvs).take k).toArray k])).get? (hb.objs.size+l.length)=some (aG ((cA t kvs).take k).toArray k) :=
    qT _ _ _ _ (by simp) (by intro a b c;simp [aG])
   refine ao e31 (ao (aN e01) (ao (aN (nV (es:=((cA t kvs).take k).toArray) (n:=k) hget g0 g1 ?_ (by exact Nat.le_trans ‹_› (Nat.le_add_right _ _)) ?_)) ?_))
   ·refine k7 ?_
    have:aZ ((cA t kvs).take k)=(kvs.map (·.1)).take k:=by rw[← dK t kvs];simp [aZ,List.map_take]
    rw[this]
    exact d8 hk.1 hi
   ·simp [aR];lia
   ·have e:(hx hb (l++[aG ((cA t kvs).take k).toArray k])).update (hb.objs.size+l.length) (Obj.mapDictKeys fun x=>x.push ⟨i,Value.int i (t+3*k),Value.str v (t+3*k+1)⟩)
      = hx hb (l++[aG ((cA t kvs).take (k+1)).toArray (k+1)]):=by
     rw[iM _ _ _ _ (aG ((cA t kvs).take k).toArray k) (by simp)]
     congr 1
     rw[dX (x8 t kvs k i v hkv)]
     rw[mdk,List.push_toArray]
     simp
    show Yld p w n₀ ann q (pure (ForInStep.yield PUnit.unit)) pd { s with heap:=(hx hb (l++[aG ((cA t kvs).take k).toArray k])).update (hb.objs.size+l.length) (Obj.mapDictKeys fun x=>x.push ⟨i,Value.int i (t+3*k),Value.str v (t+3*k+1)⟩),toks:=t+3*k+1+1+1 } _ _ _
    rw[e]
    exact az)
 rw[List.length_map] at loop
 simp only[List.take_zero,Nat.mul_zero,Nat.add_zero] at loop
 rw[show (cA t kvs).take kvs.length=cA t kvs from by rw[← aR t kvs,List.take_length]] at loop
 exact ao loop az
theorem p7{pd:Pos}(kvs:List (Int×Str)):∀ (s:Shared),Yld p w n₀ ann q (evalPairs (kvs.map fun x=>(y4 x.1,yD pd x.2))) pd s
  ((fZ s.toks kvs).map fun e=>(e.key,e.val)) pd { s with toks:=s.toks+2*kvs.length }:=by
 induction kvs with
 | nil=>intro s;exact az
 | cons x r ih =>
  intro s
  obtain ⟨i,v⟩:=x
  show Yld p w n₀ ann q (evalPairs ((y4 i,yD pd v)::r.map fun x=>(y4 x.1,yD pd x.2))) _ _ _ _ _
  dsimp only[evalPairs]
  refine ao e31 (ao (aN e01) (ao (aN (ih _)) ?_))
  have e:((fZ s.toks ((i,v)::r)).map fun e=>(e.key,e.val))=(Value.int i s.toks,Value.str v (s.toks+1))::((fZ (s.toks+1+1) r).map fun e=>(e.key,e.val)):=by
   simp only[fZ,List.map_map,List.zipIdx_cons,List.map_cons,Function.comp_def,List.cons.injEq]
   refine⟨by simp,?_⟩
   apply List.ext_getElem?
   intro k
   simp only[List.getElem?_map,List.getElem?_zipIdx]
   cases r[k]? with
   | none=>rfl
   | some y =>
    simp only[Option.map_some]
    have h1:s.toks+2*(0+1+k)=s.toks+1+1+2*(0+k):=by lia
    rw[h1]
  refine(e)▸?_
  have e2:s.toks+2*((i,v)::r).length=s.toks+1+1+2*r.length:=by rw[List.length_cons];lia
  rw[e2]
  exact az
theorem sQ{pd:Pos}{hb:Heap}{l:List Obj}{kvs:List (Int×Str)}(hk:GoodKeys kvs)(h15:kvs.length<=15)(hn:n₀<=hb.objs.size)(t:Nat) :
  Yld p w n₀ ann q (subDict (kvs.map fun x=>(y4 x.1,yD pd x.2))) pd { s with heap:=hx hb l,toks:=t } (hb.objs.size+l.length) pd
   { s with heap:=hx hb (l++[aG (fZ t kvs).toArray kvs.length]),toks:=t+3*kvs.length }:=by
 dsimp only[subDict]
 refine ao v9 ?_
 rw[show (hx hb l).objs.size=hb.objs.size+l.length from vm _ _]
 rw[show ((hx hb l).push { cls:=.type "dict",data:=.dict #[] })=hx hb (l++[aG #[] 0]) from vn _ _ _]
 refine ao (a:=PUnit.unit) (aN ?_) az
 rw[if_pos (by simpa using h15)]
 refine ao (p7 kvs _) ?_
 refine aN ?_
 have loop:=pZ (p:=p) (w:=w) (n₀:=n₀) (ann:=ann) (q:=q) (pos:=pd) (l:=(fZ t kvs).map fun e=>(e.key,e.val))
  (f:=fun x _=>do
   dictSet (hb.objs.size+l.length) x.1 x.2
   pure (ForInStep.yield PUnit.unit))
  (fun k=>{ s with heap:=hx hb (l++[aG ((fZ t kvs).take k).toArray k]),toks:=t+2*kvs.length+k }) (by
   intro k x hx'
   replace hx':=(List.getElem?_map)▸hx'
   obtain ⟨e,h_p⟩:=Option.map_eq_some_iff.mp hx';have he:=h_p.1;obtain rfl:=h_p.2
   have hlt:k<kvs.length:=by have:=(List.getElem?_eq_some_iff.mp he).1;rwa [bU] at this
   obtain ⟨⟨i,v⟩,hkv⟩:∃ x,kvs[k]?=some x:=⟨_,List.getElem?_eq_getElem hlt⟩
   rw[qX t kvs k i v hkv] at he
   obtain rfl:=siX he
   have h_p:=hk.2 (i,v) (List.mem_of_getElem? hkv);have g0:=h_p.1;have g1:=h_p.2
   have hi:((kvs.map (·.1))[k]?)=some i:=by rw[List.getElem?_map,hkv];rfl
   have hget:(hx hb (l++[aG ((fZ t kvs).take k).toArray k])).get? (hb.objs.size+l.length)=some (aG ((fZ t kvs).take k).toArray k) :=
    qT _ _ _ _ (by simp) (by intro a b c;simp [aG])
   refine ao (nV (es:=((fZ t kvs).take k).toArray) (n:=k) hget g0 g1 ?_ (by exact Nat.le_trans ‹_› (Nat.le_add_right _ _)) ?_) ?_
   ·refine k7 ?_
    have:aZ ((fZ t kvs).take k)=(kvs.map (·.1)).take k:=by rw[← iN t kvs];simp [aZ,List.map_take]
    refine(this)▸?_
    exact d8 hk.1 hi
   ·simp [bU];lia
   ·have e:(hx hb (l++[aG ((fZ t kvs).take k).toArray k])).update (hb.objs.size+l.length) (Obj.mapDictKeys fun x=>x.push ⟨i,Value.int i (t+2*k),Value.str v (t+2*k+1)⟩)
      = hx hb (l++[aG ((fZ t kvs).take (k+1)).toArray (k+1)]):=by
     rw[iM _ _ _ _ (aG ((fZ t kvs).take k).toArray k) (by simp)]
     congr 1
     rw[dX (qX t kvs k i v hkv)]
     rw[mdk,List.push_toArray]
     simp
    dsimp only
    rw[e]
    exact az)
 rw[List.length_map,bU] at loop
 simp only[List.take_zero,Nat.add_zero] at loop
 rw[show (fZ t kvs).take kvs.length=fZ t kvs from by rw[← bU t kvs,List.take_length]] at loop
 rw[show t+2*kvs.length+kvs.length=t+3*kvs.length by lia] at loop
 exact ao loop az
theorem jM{a:Addr}{o:Obj}(h:s.heap.get? a=some o):Yld p w n₀ ann q (typeOf (.ref a)) pos s o.cls pos s:=ao (dk h) az
theorem xT{E M:List DictEntry}{k:Nat}(hd:(aZ (E++M)).Nodup)(hk:k<M.length):NotIn M[k].hash (E++M.take k).toArray:=k7 (by
 have e0:∀ a b:List DictEntry,aZ (a++b)=aZ a++aZ b:=fun a b=>List.map_append
 have e3:(aZ E).length=E.length:=List.length_map _
 have e1:(aZ (E++M))[E.length+k]?=some M[k].hash:=by
  rw[e0,List.getElem?_append_right (by rw[e3];exact Nat.le_add_right _ _),e3,Nat.add_sub_cancel_left]
  exact(List.getElem?_map).trans (congrArg (Option.map _) (List.getElem?_eq_getElem hk))
 have e2:aZ (E++M.take k)=(aZ (E++M)).take (E.length+k):=by
  rw[e0,e0,List.take_append,e3,Nat.add_sub_cancel_left,List.take_of_length_le (l:=aZ E) (by rw[e3];exact Nat.le_add_right _ _)]
  exact congrArg (aZ E++·) List.map_take
 rw[e2]
 exact d8 hd e1)
theorem yt{a b:Addr}{Hk:Nat->Heap}{E M:List DictEntry}{nE nM:Nat}(hE:E≠[])(hM:∀ e∈M,∃ i t,e.key=.int i t)(hd:(aZ (E++M)).Nodup)(hz:E.length+M.length<=1000)(hna:n₀<=a)(hb:sysModules<b)
  (getE:∀ k,(Hk k).get? a=some (aG (E++M.take k).toArray (nE+k))) (getM:∀ k,(Hk k).get? b=some (aG M.toArray nM))
  (hup:∀ k (h:k<M.length),(Hk k).update a (Obj.mapDictKeys fun x=>x.push ⟨M[k].hash,M[k].key,M[k].val⟩)=Hk (k+1)) (t:Nat) :
  Yld p w n₀ ann q (mergeMapping a (.ref b) false) pos { s with heap:=Hk 0,toks:=t } () pos { s with heap:=Hk M.length,toks:=t }:=by
 have g0:(Hk 0).get? a=some (aG E.toArray nE):=(getE 0).trans (by rw[List.take_zero,List.append_nil];rfl)
 unfold mergeMapping
 have isD:Yld p w n₀ ann q (isInstance (.ref b) (.type "dict")) pos { s with heap:=Hk 0,toks:=t } true pos { s with heap:=Hk 0,toks:=t }:=by
  unfold isInstance
  refine ao (jM (getM 0)) ?_
  show Yld p w n₀ ann q (isSubtype (.type "dict") (.type "dict")) _ _ _ _ _
  exact(isSubtype_dict_dict)▸(az)
 have sp:Yld p w n₀ ann q (specialOf (.ref b) "__iter__") pos { s with heap:=Hk 0,toks:=t } (some (.builtin "dict.__iter__")) pos { s with heap:=Hk 0,toks:=t }:=by
  unfold specialOf
  refine ao (jM (getM 0)) ?_
  show Yld p w n₀ ann q (typeLookup (.type "dict") "__iter__") _ _ _ _ _
  exact(F.slot_dict_iter.lookup)▸(az)
 refine ao isD ?_
 rw[if_pos rfl]
 refine ao sp ?_
 show Yld p w n₀ ann q (if (b==sysModules)=true then _ else _) _ _ _ _ _
 rw[if_neg (by rw[beq_eq_false_iff_ne.mpr (Nat.ne_of_gt hb)];exact Bool.false_ne_true)]
 refine ao (cg g0 rfl) ?_
 rw[if_neg (by simpa using hE)]
 refine ao (cg (getM 0) rfl) ?_
 refine ao (je (getM 0) rfl) ?_
 have loop:=pZ (p:=p) (w:=w) (n₀:=n₀) (ann:=ann) (q:=q) (pos:=pos) (l:=List.range M.length)
  (f:=fun i _=>do
   match (← dictEntries b)[i]? with
   | some e=>do
    holding [e.key,e.val] (dictPut a e.hash e.key e.val)
    let y ← dictEpoch b
    if (y != nM)=true then do
     unsupported "dict.changed-during-merge"
     pure (ForInStep.yield PUnit.unit)
    else pure (ForInStep.yield PUnit.unit)
   | x=>do
    unsupported "dict.changed-during-merge"
    pure (ForInStep.yield PUnit.unit))
  (fun k=>{ s with heap:=Hk k,toks:=t }) (by
   intro k x hx'
   obtain ⟨hlt,rfl⟩:k<M.length/\k=x:=by
    obtain ⟨h1,h2⟩:=List.getElem?_eq_some_iff.mp hx'
    exact⟨by simpa using h1,by simpa using h2⟩
   refine cH (hM M[k] (List.getElem_mem hlt)) fun i tk hkey=>?_
   refine ao (cg (getM _) rfl) ?_
   show Yld p w n₀ ann q (match (M.toArray)[k]? with | some e=>_ | x=>_) _ _ _ _ _
   rw[show (M.toArray)[k]?=some M[k] by simpa using List.getElem?_eq_getElem hlt]
   have hput:=v8 (p:=p) (w:=w) (n₀:=n₀) (ann:=ann) (q:=q) (pos:=pos) (i:=i) (t:=tk) (v:=M[k].val) (s:={ s with heap:=Hk k,toks:=t }) (getE k) (xT hd hlt) hna (by simp;lia)
   rw[← hkey] at hput
   dsimp only at hput
   rw[hup k hlt] at hput
   refine ao (aN hput) (ao (je (getM _) rfl) ?_)
   rw[if_neg (by simp)]
   exact az)
 rw[List.length_range] at loop
 exact ao loop az
theorem v6{hb:Heap}{l₀ l₁:List Obj}{E M:List DictEntry}{nE nM:Nat}(hE:E≠[])(hM:∀ e∈M,∃ i t,e.key=.int i t)
  (hd:(aZ (E++M)).Nodup) (hz:E.length+M.length<=1000) (hn:n₀<=hb.objs.size) (hsys:sysModules<hb.objs.size) (t:Nat) :
  Yld p w n₀ ann q (mergeMapping (hb.objs.size+l₀.length) (.ref (hb.objs.size+(l₀++[aG E.toArray nE]++l₁).length)) false) pos
   { s with heap:=hx hb (l₀++[aG E.toArray nE]++l₁++[aG M.toArray nM]),toks:=t } () pos
   { s with heap:=hx hb (l₀++[aG (E++M).toArray (nE+M.length)]++l₁++[aG M.toArray nM]),toks:=t }:=by
 have g:=yt (p:=p) (w:=w) (n₀:=n₀) (ann:=ann) (q:=q) (pos:=pos) (s:=s) (a:=hb.objs.size+l₀.length) (b:=hb.objs.size+(l₀++[aG E.toArray nE]++l₁).length)
  (Hk:=fun k=>hx hb (l₀++[aG (E++M.take k).toArray (nE+k)]++l₁++[aG M.toArray nM])) (nE:=nE) (nM:=nM) hE hM hd hz (Nat.le_trans hn (Nat.le_add_right _ _)) (Nat.lt_of_lt_of_le hsys (Nat.le_add_right _ _))
  (fun k=>qT _ _ _ _ (by simp) (by intro a b c;simp [aG])) (fun k=>qT _ _ _ _ (by rw[List.getElem?_append_right (by simp)];simp) (by intro a b c;simp [aG])) (fun k hlt=>by
   rw[iM _ _ _ _ (aG (E++M.take k).toArray (nE+k)) (by simp)]
   congr 1
   rw[mdk,List.push_toArray]
   simp [aG,Nat.add_assoc]
   exact(dX (List.getElem?_eq_getElem hlt)).symm) t
 simp only[List.take_zero,List.append_nil,Nat.add_zero,List.take_length] at g
 exact g
noncomputable abbrev Pr:=Sem Value×Sem Value
noncomputable def opt(c:List Pr):List (Option (Sem Value)×Sem Value):=c.map fun x=>(some x.1,x.2)
noncomputable def iR(fr:Addr->Addr->Value->Sem Unit)(run:List Pr)(main:Option Addr):Sem (Option Addr):=do
 if run.isEmpty then return main
 match main with
 | none=>return some (← subDict run)
 | some d =>
  let sub ← holding [.ref d] (subDict run)
  (holding [.ref d,.ref sub] (mergeMapping d (.ref sub) false)).onRaise (fr d sub)
  return some d
noncomputable abbrev DF:=(Option (Sem Value)×Sem Value)->(Option Addr×List Pr)->Sem (ForInStep (Option Addr×List Pr))
noncomputable def gX1(m:Option Addr):Sem Value:=match m with
 | some d=>pure (.ref d)
 | none=>newDict
noncomputable def wK(fr:Addr->Addr->Value->Sem Unit)(F:DF):Prop:=∀ (x:Pr) (m:Option Addr) (buf:List Pr),F (some x.1,x.2) (m,buf) =
 if ((buf++[x]).length==17)=true then iR fr (buf++[x]) m>>=fun m'=>pure (ForInStep.yield (m',([]:List Pr))) else pure (ForInStep.yield (m,buf++[x]))
theorem yc:∃ (F:DF) (G:(Option Addr×List Pr)->Sem Value) (fr:Addr->Addr->Value->Sem Unit),
  (∀ items,dictDisplay items=(forIn items ((none:Option Addr),([]:List Pr)) F>>=G))/\wK fr F/\(∀ m buf,G (m,buf)=iR fr buf m>>=gX1) :=
 ⟨_,_,fun d _ x=>do let _ ← holding [.ref d,x] (runValue (.builtin "proto.let_go" {})),fun _=>rfl,fun x m buf=>by rfl',fun m buf=>by rfl'⟩
theorem vO{fr:Addr->Addr->Value->Sem Unit}{F:DF}(hF:wK fr F)(m:Option Addr)(rest:List (Option (Sem Value)×Sem Value)):∀ (c buf:List Pr),buf.length+c.length<17->forIn (opt c++rest) (m,buf) F=forIn rest (m,buf++c) F
 | [],buf,_=>by rw[List.append_nil];rfl
 | x::c,buf,h=>by
  have h1:buf.length+1+c.length<17:=by rw[List.length_cons] at h;lia
  have hx:(buf++[x]).length=buf.length+1:=List.length_append
  have hn:¬ ((buf++[x]).length==17)=true:=fun e=>by replace e:=(hx)▸e;have:=beq_iff_eq.mp e;lia
  refine(List.forIn_cons ..).trans ?_
  rw[hF x m buf,if_neg hn,pure_bind]
  refine(vO hF m rest c (buf++[x]) (by rw[hx];exact h1)).trans ?_
  rw[List.append_assoc];rfl
theorem qZ{fr:Addr->Addr->Value->Sem Unit}{F:DF}(hF:wK fr F)(m:Option Addr)(rest:List (Option (Sem Value)×Sem Value))(c:List Pr)(hc:c.length=17):forIn (opt c++rest) (m,([]:List Pr)) F =
  (iR fr c m>>=fun m'=>pure (ForInStep.yield (m',([]:List Pr))))>>=fun r=>match r with | .done b=>pure b | .yield b=>forIn rest b F:=by
 have hne:c≠[]:=fun e=>by replace hc:=(e)▸hc;cases hc
 have e:=List.dropLast_concat_getLast hne
 generalize c.dropLast=c' at e
 generalize c.getLast hne=x at e
 subst e
 have h16:c'.length+1=17:=by rw[List.length_append] at hc;exact hc
 rw[show opt (c'++[x])++rest=opt c'++((some x.1,x.2)::rest) by simp [opt],vO hF m _ c' [] (by rw[List.length_nil];lia)]
 refine(List.forIn_cons ..).trans ?_
 rw[List.nil_append,hF x m c',if_pos (beq_iff_eq.mpr (by rw[List.length_append];exact h16))]
 exact bind_congr fun r=>by cases r <;> rfl
theorem j8{fr:Addr->Addr->Value->Sem Unit}{c:List Pr}(hc:c≠[])(d:Addr):iR fr c (some d)=(do
  let sub ← holding [.ref d] (subDict c)
  (holding [.ref d,.ref sub] (mergeMapping d (.ref sub) false)).onRaise (fr d sub)
  return some d:Sem (Option Addr)):=by
 match c,hc with
 | _::_,_=>rfl
theorem si{fr:Addr->Addr->Value->Sem Unit}{c:List Pr}(hc:c≠[]):iR fr c none=(do return some (← subDict c):Sem (Option Addr)):=by
 match c,hc with
 | _::_,_=>rfl
noncomputable def prT(pd:Pos)(kvs:List (Int×Str)):List Pr:=kvs.map fun x=>(y4 x.1,yD pd x.2)
theorem pv(t:Nat)(a b:List (Int×Str)):cA t (a++b)=cA t a++cA (t+3*a.length) b:=by
 apply List.ext_getElem?
 intro k
 rcases Nat.lt_or_ge k a.length with h | h
 ·rw[List.getElem?_append_left (by rw[aR];exact h)]
  simp only[cA,List.getElem?_map,List.getElem?_zipIdx]
  rw[List.getElem?_append_left h]
 ·rw[List.getElem?_append_right (by rw[aR];exact h),aR]
  simp only[cA,List.getElem?_map,List.getElem?_zipIdx]
  rw[List.getElem?_append_right h]
  cases b[k - a.length]? with
  | none=>rfl
  | some x =>
   simp only[Option.map_some]
   have h1:t+3*(0+k)=t+3*a.length+3*(0+(k - a.length)):=by lia
   rw[h1]
noncomputable def er1(t:Nat):Nat->List (Int×Str)->List (Int×Str)->List Obj->List Obj
 | 0,done,rest,subs=>aG (cA t done++fZ (t+3*done.length) rest).toArray (done.length+rest.length)::(subs++[aG (fZ (t+3*done.length) rest).toArray rest.length])
 | J+1,done,rest,subs=>er1 t J (done++rest.take 17) (rest.drop 17) (subs++[aG (cA (t+3*done.length) (rest.take 17)).toArray 17])
theorem GoodKeys.left{a b:List (Int×Str)}(h:GoodKeys (a++b)):GoodKeys a:=by
 refine gu (h) fun h1 h2=>?_
 rw[List.map_append] at h1
 exact⟨(List.nodup_append.mp h1).1,fun x hx=>h2 x (List.mem_append_left _ hx)⟩
theorem GoodKeys.right{a b:List (Int×Str)}(h:GoodKeys (a++b)):GoodKeys b:=by
 refine gu (h) fun h1 h2=>?_
 rw[List.map_append] at h1
 exact⟨(List.nodup_append.mp h1).2.1,fun x hx=>h2 x (List.mem_append_right _ hx)⟩
theorem rX(t:Nat)(kvs:List (Int×Str)):∀ e∈cA t kvs,∃ i tk,e.key=.int i tk:=fun e he=>by
 simp only[cA,List.mem_map] at he
 obtain ⟨x,h_p⟩:=he;obtain rfl:=h_p.2
 exact y0 _ _ rfl
theorem rW(t:Nat)(kvs:List (Int×Str)):∀ e∈fZ t kvs,∃ i tk,e.key=.int i tk:=fun e he=>by
 simp only[fZ,List.mem_map] at he
 obtain ⟨x,h_p⟩:=he;obtain rfl:=h_p.2
 exact y0 _ _ rfl
theorem fm(a b:List DictEntry):aZ (a++b)=aZ a++aZ b:=by simp [aZ]
theorem yV(pd:Pos)(a b:List (Int×Str)):opt (prT pd (a++b))=opt (prT pd a)++opt (prT pd b):=by simp [opt,prT]
theorem mN(pd:Pos)(a:List (Int×Str)):(prT pd a).length=a.length:=List.length_map _
theorem yu{fr:Addr->Addr->Value->Sem Unit}{F:DF}{G:(Option Addr×List Pr)->Sem Value}(hF:wK fr F)(hG:∀ m buf,G (m,buf)=iR fr buf m>>=gX1)
  {pd:Pos} {hb:Heap} (hn:n₀<=hb.objs.size) (hsys:sysModules<hb.objs.size) (t:Nat) :
  ∀ (J:Nat) (done rest:List (Int×Str)) (subs:List Obj),rest.length=17*J+4->GoodKeys (done++rest)->done≠[]->done.length+rest.length<=1000 ->
   Yld p w n₀ ann q (forIn (opt (prT pd rest)) (some hb.objs.size,([]:List Pr)) F>>=G) pd
    { s with heap:=hx hb (aG (cA t done).toArray done.length::subs),toks:=t+3*done.length } (.ref hb.objs.size) pd
    { s with heap:=hx hb (er1 t J done rest subs),toks:=t+3*done.length+3*rest.length }:=by
 intro J
 induction J with
 | zero =>
  intro done rest subs hl hk hne hz
  have hr:prT pd rest≠[]:=fun e=>by have:=congrArg List.length e;rw[mN,hl] at this;cases this
  have e:(forIn (opt (prT pd rest)) (some hb.objs.size,([]:List Pr)) F>>=G)=iR fr (prT pd rest) (some hb.objs.size)>>=gX1:=by
   have h:=vO hF (some hb.objs.size) [] (prT pd rest) [] (by rw[mN,hl];decide)
   rw[List.append_nil,List.nil_append] at h
   rw[h,List.forIn_nil,pure_bind,hG]
  refine ek e ?_
  rw[j8 hr]
  have sub:=sQ (p:=p) (w:=w) (n₀:=n₀) (ann:=ann) (q:=q) (s:=s) (pd:=pd) (hb:=hb) (l:=aG (cA t done).toArray done.length::subs) (kvs:=rest) hk.right (by rw[hl];decide) hn (t+3*done.length)
  have mg:=v6 (p:=p) (w:=w) (n₀:=n₀) (ann:=ann) (q:=q) (s:=s) (pos:=pd) (hb:=hb) (l₀:=[]) (l₁:=subs) (E:=cA t done) (M:=fZ (t+3*done.length) rest) (nE:=done.length) (nM:=rest.length)
   (by intro h0;have:=congrArg List.length h0;rw[aR] at this;exact hne (List.length_eq_zero_iff.mp this)) (rW _ _)
   (by rw[fm,dK,iN,← List.map_append];exact hk.1) (by rw[aR,bU];exact hz) hn hsys (t+3*done.length+3*rest.length)
  rw[bU] at mg
  refine ao (a:=some hb.objs.size) ?_ az
  refine ao (aN sub) (ao (a:=()) (nU (aN ?_)) az)
  rw[show hb.objs.size+(aG (cA t done).toArray done.length::subs).length=hb.objs.size+(([]:List Obj)++[aG (cA t done).toArray done.length]++subs).length by simp]
  exact mg
 | succ J ih =>
  intro done rest subs hl hk hne hz
  have hcl:(rest.take 17).length=17:=by rw[List.length_take,hl];rfl
  show Yld p w n₀ ann q _ pd _ _ pd { s with heap:=hx hb (er1 t J (done++rest.take 17) (rest.drop 17) (subs++[aG (cA (t+3*done.length) (rest.take 17)).toArray 17])),toks:=t+3*done.length+3*rest.length }
  have hrest:=List.take_append_drop 17 rest
  generalize rest.take 17=c at hcl hrest
  generalize rest.drop 17=r at hrest
  subst hrest
  have hk':GoodKeys (done++c):=by rw[← List.append_assoc] at hk;exact hk.left
  have hz':done.length+(17+r.length)<=1000:=by rw[List.length_append,hcl] at hz;exact hz
  have sub:=nS (p:=p) (w:=w) (n₀:=n₀) (ann:=ann) (q:=q) (s:=s) (pd:=pd) (hb:=hb) (l:=aG (cA t done).toArray done.length::subs) (kvs:=c) hk'.right (by rw[hcl];decide) (by rw[hcl];decide) hn (t+3*done.length)
  have mg:=v6 (p:=p) (w:=w) (n₀:=n₀) (ann:=ann) (q:=q) (s:=s) (pos:=pd) (hb:=hb) (l₀:=[]) (l₁:=subs) (E:=cA t done) (M:=cA (t+3*done.length) c) (nE:=done.length) (nM:=17)
   (by intro h0;have:=congrArg List.length h0;rw[aR] at this;exact hne (List.length_eq_zero_iff.mp this)) (rX _ _)
   (by rw[fm,dK,dK,← List.map_append];exact hk'.1) (by rw[aR,aR,hcl];lia) hn hsys (t+3*done.length+3*17)
  have nxt:=ih (done++c) r (subs++[aG (cA (t+3*done.length) c).toArray 17]) (by rw[List.length_append,hcl] at hl;lia) (by rw[List.append_assoc];exact hk) (fun e=>hne (List.append_eq_nil_iff.mp e).1) (by rw[List.length_append,hcl];lia)
  have e2:([]:List Obj)++[aG (cA t done++cA (t+3*done.length) c).toArray (done.length+(cA (t+3*done.length) c).length)]++subs++[aG (cA (t+3*done.length) c).toArray 17] =
    aG (cA t (done++c)).toArray (done++c).length::(subs++[aG (cA (t+3*done.length) c).toArray 17]):=by
   rw[pv,aR,List.length_append];simp
  rw[e2] at mg
  have e3:t+3*(done++c).length=t+3*done.length+3*17:=by rw[List.length_append,hcl];exact(Nat.add_assoc _ _ _).symm
  have e4:t+3*(done++c).length+3*r.length=t+3*done.length+3*(c++r).length:=by rw[List.length_append,List.length_append,hcl];lia
  rw[e4,e3] at nxt
  rw[yV]
  refine ek (congrArg (·>>=G) (qZ hF _ _ (prT pd c) ((mN pd c).trans hcl))) ?_
  rw[j8 (fun e=>by have:=congrArg List.length e;rw[mN,hcl] at this;cases this)]
  refine ek (bind_assoc _ _ _) ?_
  refine ao (a:=ForInStep.yield (some hb.objs.size,([]:List Pr))) ?_ nxt
  refine ao (a:=some hb.objs.size) ?_ az
  rw[hcl] at sub
  refine ao (aN sub) (ao (a:=()) (nU (aN ?_)) az)
  rw[show hb.objs.size+(aG (cA t done).toArray done.length::subs).length=hb.objs.size+(([]:List Obj)++[aG (cA t done).toArray done.length]++subs).length by simp]
  exact mg
theorem l6{pd:Pos}{hb:Heap}(hn:n₀<=hb.objs.size)(hsys:sysModules<hb.objs.size)(t J:Nat)(kvs:List (Int×Str))(hl:kvs.length=17*(J+1)+4)(hk:GoodKeys kvs)(hz:kvs.length<=1000) :
  Yld p w n₀ ann q (dictDisplay (opt (prT pd kvs))) pd { s with heap:=hb,toks:=t } (.ref hb.objs.size) pd
   { s with heap:=hx hb (er1 t J (kvs.take 17) (kvs.drop 17) []),toks:=t+3*kvs.length }:=by
 refine d7 (yc) fun F G fr h_p=>?_;have h1:=h_p.1;have hF:=h_p.2.1;have hG:=h_p.2.2
 have hcl:(kvs.take 17).length=17:=by rw[List.length_take,hl];rfl
 have hrest:=List.take_append_drop 17 kvs
 generalize kvs.take 17=c at hcl hrest
 generalize kvs.drop 17=r at hrest
 subst hrest
 have hrl:r.length=17*J+4:=by rw[List.length_append,hcl] at hl;lia
 have hrz:c.length+r.length<=1000:=by rw[List.length_append] at hz;exact hz
 have hc0:c≠[]:=fun e=>by replace hcl:=(e)▸hcl;cases hcl
 rw[h1,yV]
 refine ek (congrArg (·>>=G) (qZ hF _ _ (prT pd c) ((mN pd c).trans hcl))) ?_
 refine(si (c:=prT pd c) (fun e=>hc0 (List.map_eq_nil_iff.mp e)))▸?_
 have sub:=nS (p:=p) (w:=w) (n₀:=n₀) (ann:=ann) (q:=q) (s:=s) (pd:=pd) (hb:=hb) (l:=[]) (kvs:=c) hk.left (by rw[hcl];decide) (by rw[hcl];decide) hn t
 have nxt:=yu (p:=p) (w:=w) (n₀:=n₀) (ann:=ann) (q:=q) (s:=s) (pd:=pd) (hb:=hb) hF hG hn hsys t J c r [] hrl hk hc0 hrz
 rw[ea1] at sub
 rw[show t+3*c.length+3*r.length=t+3*(c++r).length by rw[List.length_append];lia] at nxt
 refine ek (bind_assoc _ _ _) ?_
 refine ao (a:=ForInStep.yield (some hb.objs.size,([]:List Pr))) ?_ nxt
 refine ao (a:=some hb.objs.size) ?_ az
 exact ao sub az
end
set_option maxHeartbeats 0
noncomputable abbrev prg:Program:=PySem.Challenge.pw_wv0039_02
noncomputable abbrev so(s:String):Str:=PySem.Str.ofString s
noncomputable abbrev de (P:Params) (s:String) (t:Nat) (v:Value):DictEntry:=⟨PyData.keyHash P (so s),.str (so s) t,v⟩
noncomputable abbrev ar{α:Type}(l:List α):Array α:=l.toArray
noncomputable def stN(i:Nat):Stmt:=(prg.main.body[i]?).getD (.Pass default)
noncomputable def dM(st:Stmt):FuncData:={ name:=(us st).s,qualname:=(us st).s,params:=(us st).ar,body:=.stmts (us st).x,scope:=(us st).sc,globals:=0,closure:=[],defaults:=.none,kwdefaults:=.none }
noncomputable def gT1(st:Stmt)(code mod:Value):FuncData:={ dM st with globals:=3,pyModule:=mod,code:=code }
noncomputable def vW(st:Stmt):List Stmt:=(us st).x
noncomputable def mtN(c i:Nat):Stmt:=((vW (stN c))[i]?).getD (.Pass default)
noncomputable def e0:Obj:=⟨(.type "tuple"),none,(.seq (ar []) 0),#[]⟩
noncomputable def e1:Obj:=⟨.none,none,(.fields (ar [])),#[]⟩
noncomputable def e2:Obj:=⟨(.type "builtin_function_or_method"),none,(.fields (ar [(.builtin "type.__prepare__"),(.type "type")])),#[]⟩
noncomputable def e3:Obj:=⟨(.type "tuple"),none,(.seq (ar [(.ref 25)]) 0),#[]⟩
noncomputable def b13(P:Params):Obj:=⟨(.type "code"),none,(.fields (ar [(.str (so "<module>") 182),(.str (so "<module>") 183),(.str (so "/claim/cut.py") 184),(.int 1 0),(.int 0 0),(.int 0 0),(.int 0 0),(.int 0 0),(.ref 11),(.bool false),(.int 181 0),(.ref 12),.none,.none,.none,.none,(.int 185 0),(.int 1 0),(.str (so "/claim/cut.py") 186)])),#[]⟩
noncomputable def b14(P:Params):Obj:=⟨(.type "frame"),none,.plain,ar [(some (.ref 13)),(some (.ref 3)),(some (.ref 3)),none,(some (.str (so "__main__") 164)),none,(some (.ref 0))]⟩
noncomputable def gS1(P:Params):Obj:=⟨.none,none,(.dict (ar [(de P "type.__subclasses__.Exception.0" 328 (.int 122 0)),(de P "type.__subclasses__.Exception.n" 329 (.int 1 0))]) 2),#[]⟩
noncomputable def gR1(P:Params):Obj:=⟨(.type "dict"),none,(.dict (ar [(de P "__name__" 165 (.str (so "cpy313.stringprep") 359)),(de P "__doc__" 166 .none),(de P "__package__" 167 .none),(de P "__loader__" 168 (.builtin "__main__.__loader__#opaque")),(de P "__spec__" 169 .none),(de P "__annotations__" 170 (.ref 6)),(de P "__builtins__" 171 (.ref 4)),(de P "__file__" 173 (.str (so "/claim/cut.py") 172)),(de P "__cached__" 174 .none),(de P "_wall" 193 (.ref 21)),(de P "EMPTYSTRING" 197 (.str (so "") 196)),(de P "_Accumulator" 293 (.ref 101)),(de P "ELLIPSIS_MARKER" 297 (.str (so "...") 296)),(de P "_ellipsis_match" 309 (.ref 112)),(de P "Error" 331 (.ref 122)),(de P "error_reply" 347 (.ref 135)),(de P "parse257" 358 (.ref 144))]) 17),#[]⟩
noncomputable def eq1(P:Params):Obj:=⟨.none,none,(.fields (ar [(.int 1 0),(.int 0 0),(.ref 20),(.int 6 0),(.int 0 0),(.ref 28),(.int 41 0),(.int 0 0),(.ref 111),(.int 70 0),(.int 0 0),(.ref 118),(.int 72 0),(.int 0 0),(.ref 131),(.int 74 0),(.int 0 0),(.ref 143)])),#[]⟩
noncomputable def n17(P:Params):Obj:=⟨(.type "tuple"),none,(.seq (ar [(.str (so "k") 190)]) 0),#[]⟩
noncomputable def n19(P:Params):Obj:=⟨.none,none,(.func (dM (stN 0))),#[]⟩
noncomputable def n20(P:Params):Obj:=⟨(.type "code"),none,(.fields (ar [(.str (so "_wall") 187),(.str (so "_wall") 188),(.str (so "/claim/cut.py") 189),(.int 1 0),(.int 1 0),(.int 0 0),(.int 0 0),(.int 3 0),(.ref 15),(.bool true),(.int 181 0),(.ref 16),.none,(.ref 17),(.ref 18),(.ref 19),(.int 191 0),(.int 1 0),(.str (so "/claim/cut.py") 192)])),#[]⟩
noncomputable def n21(P:Params):Obj:=⟨(.type "function"),none,(.func { dM (stN 0) with globals:=3,pyModule:=(.str (so "__main__") 164),code:=(.ref 20) }),#[]⟩
noncomputable def n22(P:Params):Obj:=⟨(.type "tuple"),none,(.seq (ar [(.type "list")]) 0),#[]⟩
noncomputable def n24(P:Params):Obj:=⟨(.type "dict"),none,(.dict (ar [(de P "__module__" 205 (.str (so "cpy313.email.header") 194)),(de P "__qualname__" 207 (.str (so "_Accumulator") 206)),(de P "__firstlineno__" 209 (.int 6 208)),(de P "__init__" 219 (.ref 38)),(de P "push" 228 (.ref 45)),(de P "pop_from" 238 (.ref 53)),(de P "pop" 246 (.ref 61)),(de P "__len__" 253 (.ref 68)),(de P "__str__" 260 (.ref 75)),(de P "reset" 268 (.ref 83)),(de P "is_onlyws" 275 (.ref 90)),(de P "part_count" 283 (.ref 98)),(de P "__static_attributes__" 285 (.ref 99)),(de P "__classcell__" 286 (.ref 25))]) 14),#[]⟩
noncomputable def n25(P:Params):Obj:=⟨(.type "cell"),none,(.cell (some (.ref 101))),#[]⟩
noncomputable def n27(P:Params):Obj:=⟨.none,none,(.fields (ar [(.int 8 0),(.int 4 0),(.ref 37),(.int 12 0),(.int 4 0),(.ref 44),(.int 15 0),(.int 4 0),(.ref 52),(.int 20 0),(.int 4 0),(.ref 60),(.int 25 0),(.int 4 0),(.ref 67),(.int 28 0),(.int 4 0),(.ref 74),(.int 31 0),(.int 4 0),(.ref 82),(.int 34 0),(.int 4 0),(.ref 89),(.int 37 0),(.int 4 0),(.ref 97)])),#[]⟩
noncomputable def n28(P:Params):Obj:=⟨(.type "code"),none,(.fields (ar [(.str (so "_Accumulator") 200),(.str (so "_Accumulator") 201),(.str (so "/claim/cut.py") 202),(.int 6 0),(.int 0 0),(.int 0 0),(.int 0 0),(.int 0 0),(.ref 26),(.bool false),(.int 181 0),(.ref 27),.none,.none,.none,.none,(.int 203 0),(.int 6 0),(.str (so "/claim/cut.py") 204)])),#[]⟩
noncomputable def n29(P:Params):Obj:=⟨(.type "frame"),none,.plain,ar [(some (.ref 28)),(some (.ref 3)),(some (.ref 24)),none,(some (.str (so "cpy313.email.header") 194)),none,(some (.ref 0))]⟩
noncomputable def n30(P:Params):Obj:=⟨(.type "tuple"),none,(.seq (ar [(.int 0 210)]) 0),#[]⟩
noncomputable def n32(P:Params):Obj:=⟨(.type "tuple"),none,(.seq (ar [(.str (so "__class__") 214)]) 0),#[]⟩
noncomputable def n34(P:Params):Obj:=⟨(.type "tuple"),none,(.seq (ar [(.str (so "self") 215),(.str (so "initial_size") 216)]) 0),#[]⟩
noncomputable def n36(P:Params):Obj:=⟨.none,none,(.func { dM (mtN 3 0) with qualname:=(so "_Accumulator.__init__") }),#[]⟩
noncomputable def n37(P:Params):Obj:=⟨(.type "code"),none,(.fields (ar [(.str (so "__init__") 211),(.str (so "_Accumulator.__init__") 212),(.str (so "/claim/cut.py") 213),(.int 8 0),(.int 2 0),(.int 0 0),(.int 0 0),(.int 3 0),(.ref 32),(.bool true),(.int 181 0),(.ref 33),.none,(.ref 34),(.ref 35),(.ref 36),(.int 217 0),(.int 8 0),(.str (so "/claim/cut.py") 218)])),#[]⟩
noncomputable def n38(P:Params):Obj:=⟨(.type "function"),none,(.func { dM (mtN 3 0) with qualname:=(so "_Accumulator.__init__"),globals:=3,closure:=[((so "__class__"),25)],defaults:=(.ref 30),pyModule:=(.str (so "cpy313.email.header") 194),code:=(.ref 37),closureTuple:=(.ref 31) }),#[]⟩
noncomputable def n41(P:Params):Obj:=⟨(.type "tuple"),none,(.seq (ar [(.str (so "self") 223),(.str (so "fws") 224),(.str (so "string") 225)]) 0),#[]⟩
noncomputable def n43(P:Params):Obj:=⟨.none,none,(.func { dM (mtN 3 1) with qualname:=(so "_Accumulator.push") }),#[]⟩
noncomputable def n44(P:Params):Obj:=⟨(.type "code"),none,(.fields (ar [(.str (so "push") 220),(.str (so "_Accumulator.push") 221),(.str (so "/claim/cut.py") 222),(.int 12 0),(.int 3 0),(.int 0 0),(.int 0 0),(.int 3 0),(.ref 39),(.bool true),(.int 181 0),(.ref 40),.none,(.ref 41),(.ref 42),(.ref 43),(.int 226 0),(.int 12 0),(.str (so "/claim/cut.py") 227)])),#[]⟩
noncomputable def n45(P:Params):Obj:=⟨(.type "function"),none,(.func { dM (mtN 3 1) with qualname:=(so "_Accumulator.push"),globals:=3,pyModule:=(.str (so "cpy313.email.header") 194),code:=(.ref 44) }),#[]⟩
noncomputable def n46(P:Params):Obj:=⟨(.type "tuple"),none,(.seq (ar [(.int 0 229)]) 0),#[]⟩
noncomputable def n49(P:Params):Obj:=⟨(.type "tuple"),none,(.seq (ar [(.str (so "self") 233),(.str (so "i") 234),(.str (so "popped") 235)]) 0),#[]⟩
noncomputable def n51(P:Params):Obj:=⟨.none,none,(.func { dM (mtN 3 2) with qualname:=(so "_Accumulator.pop_from") }),#[]⟩
noncomputable def n52(P:Params):Obj:=⟨(.type "code"),none,(.fields (ar [(.str (so "pop_from") 230),(.str (so "_Accumulator.pop_from") 231),(.str (so "/claim/cut.py") 232),(.int 15 0),(.int 2 0),(.int 0 0),(.int 0 0),(.int 3 0),(.ref 47),(.bool true),(.int 181 0),(.ref 48),.none,(.ref 49),(.ref 50),(.ref 51),(.int 236 0),(.int 15 0),(.str (so "/claim/cut.py") 237)])),#[]⟩
noncomputable def n53(P:Params):Obj:=⟨(.type "function"),none,(.func { dM (mtN 3 2) with qualname:=(so "_Accumulator.pop_from"),globals:=3,defaults:=(.ref 46),pyModule:=(.str (so "cpy313.email.header") 194),code:=(.ref 52) }),#[]⟩
noncomputable def n55(P:Params):Obj:=⟨(.type "tuple"),none,(.seq (ar [(.str (so "__class__") 242)]) 0),#[]⟩
noncomputable def n57(P:Params):Obj:=⟨(.type "tuple"),none,(.seq (ar [(.str (so "self") 243)]) 0),#[]⟩
noncomputable def n59(P:Params):Obj:=⟨.none,none,(.func { dM (mtN 3 3) with qualname:=(so "_Accumulator.pop") }),#[]⟩
noncomputable def n60(P:Params):Obj:=⟨(.type "code"),none,(.fields (ar [(.str (so "pop") 239),(.str (so "_Accumulator.pop") 240),(.str (so "/claim/cut.py") 241),(.int 20 0),(.int 1 0),(.int 0 0),(.int 0 0),(.int 3 0),(.ref 55),(.bool true),(.int 181 0),(.ref 56),.none,(.ref 57),(.ref 58),(.ref 59),(.int 244 0),(.int 20 0),(.str (so "/claim/cut.py") 245)])),#[]⟩
noncomputable def n61(P:Params):Obj:=⟨(.type "function"),none,(.func { dM (mtN 3 3) with qualname:=(so "_Accumulator.pop"),globals:=3,closure:=[((so "__class__"),25)],pyModule:=(.str (so "cpy313.email.header") 194),code:=(.ref 60),closureTuple:=(.ref 54) }),#[]⟩
noncomputable def n64(P:Params):Obj:=⟨(.type "tuple"),none,(.seq (ar [(.str (so "self") 250)]) 0),#[]⟩
noncomputable def n66(P:Params):Obj:=⟨.none,none,(.func { dM (mtN 3 4) with qualname:=(so "_Accumulator.__len__") }),#[]⟩
noncomputable def n67(P:Params):Obj:=⟨(.type "code"),none,(.fields (ar [(.str (so "__len__") 247),(.str (so "_Accumulator.__len__") 248),(.str (so "/claim/cut.py") 249),(.int 25 0),(.int 1 0),(.int 0 0),(.int 0 0),(.int 3 0),(.ref 62),(.bool true),(.int 181 0),(.ref 63),.none,(.ref 64),(.ref 65),(.ref 66),(.int 251 0),(.int 25 0),(.str (so "/claim/cut.py") 252)])),#[]⟩
noncomputable def n68(P:Params):Obj:=⟨(.type "function"),none,(.func { dM (mtN 3 4) with qualname:=(so "_Accumulator.__len__"),globals:=3,pyModule:=(.str (so "cpy313.email.header") 194),code:=(.ref 67) }),#[]⟩
noncomputable def n71(P:Params):Obj:=⟨(.type "tuple"),none,(.seq (ar [(.str (so "self") 257)]) 0),#[]⟩
noncomputable def n73(P:Params):Obj:=⟨.none,none,(.func { dM (mtN 3 5) with qualname:=(so "_Accumulator.__str__") }),#[]⟩
noncomputable def n74(P:Params):Obj:=⟨(.type "code"),none,(.fields (ar [(.str (so "__str__") 254),(.str (so "_Accumulator.__str__") 255),(.str (so "/claim/cut.py") 256),(.int 28 0),(.int 1 0),(.int 0 0),(.int 0 0),(.int 3 0),(.ref 69),(.bool true),(.int 181 0),(.ref 70),.none,(.ref 71),(.ref 72),(.ref 73),(.int 258 0),(.int 28 0),(.str (so "/claim/cut.py") 259)])),#[]⟩
noncomputable def n75(P:Params):Obj:=⟨(.type "function"),none,(.func { dM (mtN 3 5) with qualname:=(so "_Accumulator.__str__"),globals:=3,pyModule:=(.str (so "cpy313.email.header") 194),code:=(.ref 74) }),#[]⟩
noncomputable def n76(P:Params):Obj:=⟨(.type "tuple"),none,(.seq (ar [.none]) 0),#[]⟩
noncomputable def n79(P:Params):Obj:=⟨(.type "tuple"),none,(.seq (ar [(.str (so "self") 264),(.str (so "startval") 265)]) 0),#[]⟩
noncomputable def n81(P:Params):Obj:=⟨.none,none,(.func { dM (mtN 3 6) with qualname:=(so "_Accumulator.reset") }),#[]⟩
noncomputable def n82(P:Params):Obj:=⟨(.type "code"),none,(.fields (ar [(.str (so "reset") 261),(.str (so "_Accumulator.reset") 262),(.str (so "/claim/cut.py") 263),(.int 31 0),(.int 2 0),(.int 0 0),(.int 0 0),(.int 3 0),(.ref 77),(.bool true),(.int 181 0),(.ref 78),.none,(.ref 79),(.ref 80),(.ref 81),(.int 266 0),(.int 31 0),(.str (so "/claim/cut.py") 267)])),#[]⟩
noncomputable def n83(P:Params):Obj:=⟨(.type "function"),none,(.func { dM (mtN 3 6) with qualname:=(so "_Accumulator.reset"),globals:=3,defaults:=(.ref 76),pyModule:=(.str (so "cpy313.email.header") 194),code:=(.ref 82) }),#[]⟩
noncomputable def n86(P:Params):Obj:=⟨(.type "tuple"),none,(.seq (ar [(.str (so "self") 272)]) 0),#[]⟩
noncomputable def n88(P:Params):Obj:=⟨.none,none,(.func { dM (mtN 3 7) with qualname:=(so "_Accumulator.is_onlyws") }),#[]⟩
noncomputable def n89(P:Params):Obj:=⟨(.type "code"),none,(.fields (ar [(.str (so "is_onlyws") 269),(.str (so "_Accumulator.is_onlyws") 270),(.str (so "/claim/cut.py") 271),(.int 34 0),(.int 1 0),(.int 0 0),(.int 0 0),(.int 3 0),(.ref 84),(.bool true),(.int 181 0),(.ref 85),.none,(.ref 86),(.ref 87),(.ref 88),(.int 273 0),(.int 34 0),(.str (so "/claim/cut.py") 274)])),#[]⟩
noncomputable def n90(P:Params):Obj:=⟨(.type "function"),none,(.func { dM (mtN 3 7) with qualname:=(so "_Accumulator.is_onlyws"),globals:=3,pyModule:=(.str (so "cpy313.email.header") 194),code:=(.ref 89) }),#[]⟩
noncomputable def n92(P:Params):Obj:=⟨(.type "tuple"),none,(.seq (ar [(.str (so "__class__") 279)]) 0),#[]⟩
noncomputable def n94(P:Params):Obj:=⟨(.type "tuple"),none,(.seq (ar [(.str (so "self") 280)]) 0),#[]⟩
noncomputable def n96(P:Params):Obj:=⟨.none,none,(.func { dM (mtN 3 8) with qualname:=(so "_Accumulator.part_count") }),#[]⟩
noncomputable def n97(P:Params):Obj:=⟨(.type "code"),none,(.fields (ar [(.str (so "part_count") 276),(.str (so "_Accumulator.part_count") 277),(.str (so "/claim/cut.py") 278),(.int 37 0),(.int 1 0),(.int 0 0),(.int 0 0),(.int 3 0),(.ref 92),(.bool true),(.int 181 0),(.ref 93),.none,(.ref 94),(.ref 95),(.ref 96),(.int 281 0),(.int 37 0),(.str (so "/claim/cut.py") 282)])),#[]⟩
noncomputable def n98(P:Params):Obj:=⟨(.type "function"),none,(.func { dM (mtN 3 8) with qualname:=(so "_Accumulator.part_count"),globals:=3,closure:=[((so "__class__"),25)],pyModule:=(.str (so "cpy313.email.header") 194),code:=(.ref 97),closureTuple:=(.ref 91) }),#[]⟩
noncomputable def n99(P:Params):Obj:=⟨(.type "tuple"),none,(.seq (ar [(.str (so "_initial_size") 284)]) 0),#[]⟩
noncomputable def ku1(P:Params):Obj:=⟨(.type "dict"),none,(.dict (ar [(de P "__module__" 205 (.str (so "cpy313.email.header") 194)),(de P "__firstlineno__" 209 (.int 6 208)),(de P "__init__" 219 (.ref 38)),(de P "push" 228 (.ref 45)),(de P "pop_from" 238 (.ref 53)),(de P "pop" 246 (.ref 61)),(de P "__len__" 253 (.ref 68)),(de P "__str__" 260 (.ref 75)),(de P "reset" 268 (.ref 83)),(de P "is_onlyws" 275 (.ref 90)),(de P "part_count" 283 (.ref 98)),(de P "__static_attributes__" 285 (.ref 99)),(de P "__dict__" 288 (.ref 102)),(de P "__weakref__" 290 (.ref 103)),(de P "__doc__" 291 .none)]) 5),#[]⟩
noncomputable def kt1(P:Params):Obj:=⟨(.type "type"),none,(.cls { name:=(so "_Accumulator"),bases:=[(.type "list")],mro:=[(.ref 101),(.type "list"),(.type "object")],ns:=100,qualname:=(so "_Accumulator"),hasDict:=true,slotNames:=[],subclasses:=[],abstract:=false,collection:=none,hasDel:=false }),ar [(some (.ref 22)),none,(some (.str (so "_Accumulator") 198)),(some (.str (so "_Accumulator") 206)),(some (.builtin "list.__new__")),(some (.bool true))]⟩
noncomputable def ks1(P:Params):Obj:=⟨(.type "getset_descriptor"),none,(.fields (ar [(.str (so "__dict__") 287),(.ref 101),(.builtin "function.__dict__"),(.builtin "function.__dict__#set")])),#[]⟩
noncomputable def kr1(P:Params):Obj:=⟨(.type "getset_descriptor"),none,(.fields (ar [(.str (so "__weakref__") 289),(.ref 101),(.builtin "ExceptionGroup.__weakref__"),.none])),#[]⟩
noncomputable def kq1(P:Params):Obj:=⟨(.type "super"),none,(.fields (ar [(.ref 101),(.ref 101),(.ref 101)])),#[]⟩
noncomputable def kp1(P:Params):Obj:=⟨(.type "builtin_function_or_method"),none,(.fields (ar [(.builtin "object.__init_subclass__"),(.ref 101)])),#[]⟩
noncomputable def ko1(P:Params):Obj:=⟨(.type "tuple"),none,(.seq (ar [(.str (so "want") 301),(.str (so "got") 302),(.str (so "ws") 303),(.str (so "startpos") 304),(.str (so "endpos") 305),(.str (so "w") 306)]) 0),#[]⟩
noncomputable def kn1(P:Params):Obj:=⟨.none,none,(.func (dM (stN 6))),#[]⟩
noncomputable def km1(P:Params):Obj:=⟨(.type "code"),none,(.fields (ar [(.str (so "_ellipsis_match") 298),(.str (so "_ellipsis_match") 299),(.str (so "/claim/cut.py") 300),(.int 41 0),(.int 2 0),(.int 0 0),(.int 0 0),(.int 3 0),(.ref 106),(.bool true),(.int 181 0),(.ref 107),.none,(.ref 108),(.ref 109),(.ref 110),(.int 307 0),(.int 41 0),(.str (so "/claim/cut.py") 308)])),#[]⟩
noncomputable def kl1(P:Params):Obj:=⟨(.type "function"),none,(.func { dM (stN 6) with globals:=3,pyModule:=(.str (so "cpy313.doctest") 294),code:=(.ref 111) }),#[]⟩
noncomputable def kk1(P:Params):Obj:=⟨(.type "tuple"),none,(.seq (ar [(.type "Exception")]) 0),#[]⟩
noncomputable def kj1(P:Params):Obj:=⟨(.type "dict"),none,(.dict (ar [(de P "__module__" 319 (.str (so "cpy313.ftplib") 310)),(de P "__qualname__" 321 (.str (so "Error") 320)),(de P "__firstlineno__" 323 (.int 70 322)),(de P "__static_attributes__" 324 (.ref 120))]) 4),#[]⟩
noncomputable def ki1(P:Params):Obj:=⟨(.type "code"),none,(.fields (ar [(.str (so "Error") 314),(.str (so "Error") 315),(.str (so "/claim/cut.py") 316),(.int 70 0),(.int 0 0),(.int 0 0),(.int 0 0),(.int 0 0),(.ref 116),(.bool false),(.int 181 0),(.ref 117),.none,.none,.none,.none,(.int 317 0),(.int 70 0),(.str (so "/claim/cut.py") 318)])),#[]⟩
noncomputable def kh1(P:Params):Obj:=⟨(.type "frame"),none,.plain,ar [(some (.ref 118)),(some (.ref 3)),(some (.ref 115)),none,(some (.str (so "cpy313.ftplib") 310)),none,(some (.ref 0))]⟩
noncomputable def kg1(P:Params):Obj:=⟨(.type "dict"),none,(.dict (ar [(de P "__module__" 319 (.str (so "cpy313.ftplib") 310)),(de P "__firstlineno__" 323 (.int 70 322)),(de P "__static_attributes__" 324 (.ref 120)),(de P "__weakref__" 326 (.ref 123)),(de P "__doc__" 327 .none)]) 3),#[]⟩
noncomputable def kf1(P:Params):Obj:=⟨(.type "type"),none,(.cls { name:=(so "Error"),bases:=[(.type "Exception")],mro:=[(.ref 122),(.type "Exception"),(.type "BaseException"),(.type "object")],ns:=121,qualname:=(so "Error"),hasDict:=true,slotNames:=[],subclasses:=[(.ref 135)],abstract:=false,collection:=none,hasDel:=false }),ar [(some (.ref 113)),none,(some (.str (so "Error") 312)),(some (.str (so "Error") 320)),(some (.builtin "Exception.__new__")),(some (.bool true))]⟩
noncomputable def ke1(P:Params):Obj:=⟨(.type "getset_descriptor"),none,(.fields (ar [(.str (so "__weakref__") 325),(.ref 122),(.builtin "ExceptionGroup.__weakref__"),.none])),#[]⟩
noncomputable def kd1(P:Params):Obj:=⟨(.type "super"),none,(.fields (ar [(.ref 122),(.ref 122),(.ref 122)])),#[]⟩
noncomputable def kc1(P:Params):Obj:=⟨(.type "builtin_function_or_method"),none,(.fields (ar [(.builtin "object.__init_subclass__"),(.ref 122)])),#[]⟩
noncomputable def kb1(P:Params):Obj:=⟨(.type "tuple"),none,(.seq (ar [(.ref 122)]) 0),#[]⟩
noncomputable def ka1(P:Params):Obj:=⟨(.type "dict"),none,(.dict (ar [(de P "__module__" 339 (.str (so "cpy313.ftplib") 310)),(de P "__qualname__" 341 (.str (so "error_reply") 340)),(de P "__firstlineno__" 343 (.int 72 342)),(de P "__static_attributes__" 344 (.ref 133))]) 4),#[]⟩
noncomputable def j91(P:Params):Obj:=⟨(.type "code"),none,(.fields (ar [(.str (so "error_reply") 334),(.str (so "error_reply") 335),(.str (so "/claim/cut.py") 336),(.int 72 0),(.int 0 0),(.int 0 0),(.int 0 0),(.int 0 0),(.ref 129),(.bool false),(.int 181 0),(.ref 130),.none,.none,.none,.none,(.int 337 0),(.int 72 0),(.str (so "/claim/cut.py") 338)])),#[]⟩
noncomputable def j81(P:Params):Obj:=⟨(.type "frame"),none,.plain,ar [(some (.ref 131)),(some (.ref 3)),(some (.ref 128)),none,(some (.str (so "cpy313.ftplib") 310)),none,(some (.ref 0))]⟩
noncomputable def j71(P:Params):Obj:=⟨(.type "dict"),none,(.dict (ar [(de P "__module__" 339 (.str (so "cpy313.ftplib") 310)),(de P "__firstlineno__" 343 (.int 72 342)),(de P "__static_attributes__" 344 (.ref 133)),(de P "__doc__" 345 .none)]) 2),#[]⟩
noncomputable def j61(P:Params):Obj:=⟨(.type "type"),none,(.cls { name:=(so "error_reply"),bases:=[(.ref 122)],mro:=[(.ref 135),(.ref 122),(.type "Exception"),(.type "BaseException"),(.type "object")],ns:=134,qualname:=(so "error_reply"),hasDict:=true,slotNames:=[],subclasses:=[],abstract:=false,collection:=none,hasDel:=false }),ar [(some (.ref 126)),none,(some (.str (so "error_reply") 332)),(some (.str (so "error_reply") 340)),(some (.builtin "Exception.__new__")),(some (.bool true))]⟩
noncomputable def j51(P:Params):Obj:=⟨(.type "super"),none,(.fields (ar [(.ref 135),(.ref 135),(.ref 135)])),#[]⟩
noncomputable def j41(P:Params):Obj:=⟨(.type "builtin_function_or_method"),none,(.fields (ar [(.builtin "object.__init_subclass__"),(.ref 135)])),#[]⟩
noncomputable def j31(P:Params):Obj:=⟨(.type "tuple"),none,(.seq (ar [(.str (so "resp") 351),(.str (so "dirname") 352),(.str (so "i") 353),(.str (so "n") 354),(.str (so "c") 355)]) 0),#[]⟩
noncomputable def j21(P:Params):Obj:=⟨.none,none,(.func (dM (stN 10))),#[]⟩
noncomputable def j11(P:Params):Obj:=⟨(.type "code"),none,(.fields (ar [(.str (so "parse257") 348),(.str (so "parse257") 349),(.str (so "/claim/cut.py") 350),(.int 74 0),(.int 1 0),(.int 0 0),(.int 0 0),(.int 3 0),(.ref 138),(.bool true),(.int 181 0),(.ref 139),.none,(.ref 140),(.ref 141),(.ref 142),(.int 356 0),(.int 74 0),(.str (so "/claim/cut.py") 357)])),#[]⟩
noncomputable def j01(P:Params):Obj:=⟨(.type "function"),none,(.func { dM (stN 10) with globals:=3,pyModule:=(.str (so "cpy313.ftplib") 310),code:=(.ref 143) }),#[]⟩
noncomputable def jZ1(P:Params):Obj:=⟨(.type "list"),none,(.seq (ar [(.int 173 361),(.int 847 362),(.int 6150 363),(.int 6155 364),(.int 6156 365),(.int 6157 366),(.int 8203 367),(.int 8204 368),(.int 8205 369),(.int 8288 370),(.int 65279 371)]) 0),#[]⟩
noncomputable def jY1(P:Params):Obj:=⟨(.type "range"),none,(.fields (ar [(.int 65024 372),(.int 65040 373),(.int 1 374)])),#[]⟩
noncomputable def jX1(P:Params):Obj:=⟨(.type "list"),none,(.seq (ar [(.int 65024 377),(.int 65025 378),(.int 65026 379),(.int 65027 380),(.int 65028 381),(.int 65029 382),(.int 65030 383),(.int 65031 384),(.int 65032 385),(.int 65033 386),(.int 65034 387),(.int 65035 388),(.int 65036 389),(.int 65037 390),(.int 65038 391),(.int 65039 392)]) 18),#[]⟩
noncomputable def jW1(P:Params):Obj:=⟨(.type "range_iterator"),none,(.fields (ar [(.int 65040 0),(.int 0 0),(.int 1 0)])),#[]⟩
noncomputable def jV1(P:Params):Obj:=⟨(.type "StopIteration"),none,(.fields (ar [(.ref 149),.none,.none,.none,(.bool false),.none])),#[]⟩
noncomputable def jU1(P:Params):Obj:=⟨(.type "list"),none,(.seq (ar [(.int 173 361),(.int 847 362),(.int 6150 363),(.int 6155 364),(.int 6156 365),(.int 6157 366),(.int 8203 367),(.int 8204 368),(.int 8205 369),(.int 8288 370),(.int 65279 371),(.int 65024 377),(.int 65025 378),(.int 65026 379),(.int 65027 380),(.int 65028 381),(.int 65029 382),(.int 65030 383),(.int 65031 384),(.int 65032 385),(.int 65033 386),(.int 65034 387),(.int 65035 388),(.int 65036 389),(.int 65037 390),(.int 65038 391),(.int 65039 392)]) 0),#[]⟩
noncomputable def jT1(P:Params):Obj:=⟨(.type "set"),none,(.set (ar [(65024,(.int 65024 377)),(65025,(.int 65025 378)),(65026,(.int 65026 379)),(65027,(.int 65027 380)),(65028,(.int 65028 381)),(65029,(.int 65029 382)),(6150,(.int 6150 363)),(65030,(.int 65030 383)),(65031,(.int 65031 384)),(65032,(.int 65032 385)),(65033,(.int 65033 386)),(6155,(.int 6155 364)),(6156,(.int 6156 365)),(6157,(.int 6157 366)),(8203,(.int 8203 367)),(8204,(.int 8204 368)),(8205,(.int 8205 369)),(65034,(.int 65034 387)),(65035,(.int 65035 388)),(65036,(.int 65036 389)),(65037,(.int 65037 390)),(65038,(.int 65038 391)),(65039,(.int 65039 392)),(173,(.int 173 361)),(847,(.int 847 362)),(8288,(.int 8288 370)),(65279,(.int 65279 371))]) 29 ⟨127,ar [0,1,2,3,4,5,6,7,8,9,10,11,12,13,14,15,16,17,18,19,20,21,22,45,79,96,127],ar [],0,!P.followText "set-order",2,true⟩),#[]⟩
noncomputable def jS1(P:Params):Obj:=⟨(.type "list_iterator"),none,(.fields (ar [.none,(.int 27 0)])),#[]⟩
noncomputable def jR1(P:Params):Obj:=⟨(.type "StopIteration"),none,(.fields (ar [(.ref 154),.none,.none,.none,(.bool false),.none])),#[]⟩
noncomputable def jQ1(P:Params):Obj:=⟨(.type "tuple"),none,(.seq (ar [(.str (so "code") 424)]) 0),#[]⟩
noncomputable def jP1(P:Params):Obj:=⟨.none,none,(.func (dM (stN 13))),#[]⟩
noncomputable def jO1(P:Params):Obj:=⟨(.type "code"),none,(.fields (ar [(.str (so "in_table_b1") 421),(.str (so "in_table_b1") 422),(.str (so "/claim/cut.py") 423),(.int 93 0),(.int 1 0),(.int 0 0),(.int 0 0),(.int 3 0),(.ref 156),(.bool true),(.int 181 0),(.ref 157),.none,(.ref 158),(.ref 159),(.ref 160),(.int 425 0),(.int 93 0),(.str (so "/claim/cut.py") 426)])),#[]⟩
noncomputable def jN1(P:Params):Obj:=⟨(.type "function"),none,(.func { dM (stN 13) with globals:=3,pyModule:=(.str (so "cpy313.stringprep") 359),code:=(.ref 161) }),#[]⟩
noncomputable def jM1(P:Params):Obj:=⟨(.type "tuple"),none,(.seq (ar [(.str (so "code") 2382),(.str (so "r") 2383)]) 0),#[]⟩
noncomputable def jL1(P:Params):Obj:=⟨.none,none,(.func (dM (stN 15))),#[]⟩
noncomputable def jK1(P:Params):Obj:=⟨(.type "code"),none,(.fields (ar [(.str (so "map_table_b3") 2379),(.str (so "map_table_b3") 2380),(.str (so "/claim/cut.py") 2381),(.int 96 0),(.int 1 0),(.int 0 0),(.int 0 0),(.int 3 0),(.ref 202),(.bool true),(.int 181 0),(.ref 203),.none,(.ref 204),(.ref 205),(.ref 206),(.int 2384 0),(.int 96 0),(.str (so "/claim/cut.py") 2385)])),#[]⟩
noncomputable def jJ1(P:Params):Obj:=⟨(.type "function"),none,(.func { dM (stN 15) with globals:=3,pyModule:=(.str (so "cpy313.stringprep") 359),code:=(.ref 207) }),#[]⟩
noncomputable def jI1(P:Params):Obj:=⟨(.type "tuple"),none,(.seq (ar [(.str (so "kind") 2392),(.str (so "x") 2393),(.str (so "forms") 2394),(.str (so "unseen") 2395),(.str (so "typed") 2396),(.str (so "k") 2397)]) 0),#[]⟩
noncomputable def jH1(P:Params):Obj:=⟨.none,none,(.func (dM (stN 17))),#[]⟩
noncomputable def jG1(P:Params):Obj:=⟨(.type "code"),none,(.fields (ar [(.str (so "_law_typed") 2389),(.str (so "_law_typed") 2390),(.str (so "/claim/cut.py") 2391),(.int 102 0),(.int 2 0),(.int 0 0),(.int 0 0),(.int 3 0),(.ref 209),(.bool true),(.int 181 0),(.ref 210),.none,(.ref 211),(.ref 212),(.ref 213),(.int 2398 0),(.int 102 0),(.str (so "/claim/cut.py") 2399)])),#[]⟩
noncomputable def jF1(P:Params):Obj:=⟨(.type "function"),none,(.func { dM (stN 17) with globals:=3,pyModule:=(.str (so "law_wv0039_02") 2387),code:=(.ref 214) }),#[]⟩
noncomputable def jE1(P:Params):Obj:=⟨.none,none,(.func (dM (stN 18))),#[]⟩
noncomputable def jD1(P:Params):Obj:=⟨(.type "code"),none,(.fields (ar [(.str (so "_law_prepared") 2401),(.str (so "_law_prepared") 2402),(.str (so "/claim/cut.py") 2403),(.int 110 0),(.int 1 0),(.int 0 0),(.int 0 0),(.int 3 0),(.ref 216),(.bool true),(.int 181 0),(.ref 217),.none,.none,.none,(.ref 218),(.int 2404 0),(.int 110 0),(.str (so "/claim/cut.py") 2405)])),#[]⟩
noncomputable def jC1(P:Params):Obj:=⟨(.type "function"),none,(.func { dM (stN 18) with globals:=3,pyModule:=(.str (so "law_wv0039_02") 2387),code:=(.ref 219) }),#[]⟩
noncomputable def jB1(P:Params):Obj:=⟨.none,none,(.func (dM (stN 19))),#[]⟩
noncomputable def jA1(P:Params):Obj:=⟨(.type "code"),none,(.fields (ar [(.str (so "_law_dips") 2407),(.str (so "_law_dips") 2408),(.str (so "/claim/cut.py") 2409),(.int 112 0),(.int 1 0),(.int 0 0),(.int 0 0),(.int 3 0),(.ref 221),(.bool true),(.int 181 0),(.ref 222),.none,.none,.none,(.ref 223),(.int 2410 0),(.int 112 0),(.str (so "/claim/cut.py") 2411)])),#[]⟩
noncomputable def jz1(P:Params):Obj:=⟨(.type "function"),none,(.func { dM (stN 19) with globals:=3,pyModule:=(.str (so "law_wv0039_02") 2387),code:=(.ref 224) }),#[]⟩
noncomputable def jy1(P:Params):Obj:=⟨.none,none,(.func (dM (stN 20))),#[]⟩
noncomputable def jx1(P:Params):Obj:=⟨(.type "code"),none,(.fields (ar [(.str (so "_law_chosen") 2413),(.str (so "_law_chosen") 2414),(.str (so "/claim/cut.py") 2415),(.int 127 0),(.int 1 0),(.int 0 0),(.int 0 0),(.int 3 0),(.ref 226),(.bool true),(.int 181 0),(.ref 227),.none,.none,.none,(.ref 228),(.int 2416 0),(.int 127 0),(.str (so "/claim/cut.py") 2417)])),#[]⟩
noncomputable def jw1(P:Params):Obj:=⟨(.type "function"),none,(.func { dM (stN 20) with globals:=3,pyModule:=(.str (so "law_wv0039_02") 2387),code:=(.ref 229) }),#[]⟩
noncomputable def jv1(P:Params):Obj:=⟨.none,none,(.func (dM (stN 21))),#[]⟩
noncomputable def ju1(P:Params):Obj:=⟨(.type "code"),none,(.fields (ar [(.str (so "law") 2419),(.str (so "law") 2420),(.str (so "/claim/cut.py") 2421),(.int 129 0),(.int 1 0),(.int 0 0),(.int 0 0),(.int 3 0),(.ref 231),(.bool true),(.int 181 0),(.ref 232),.none,.none,.none,(.ref 233),(.int 2422 0),(.int 129 0),(.str (so "/claim/cut.py") 2423)])),#[]⟩
noncomputable def id1(P:Params):Obj:=⟨(.type "function"),none,(.func { dM (stN 21) with globals:=3,pyModule:=(.str (so "law_wv0039_02") 2387),code:=(.ref 234) }),#[]⟩
noncomputable def gQ1(P:Params):Obj:=⟨(.type "dict"),none,(.dict (ar [(de P "__name__" 165 (.str (so "cpy313.stringprep") 359)),(de P "__doc__" 166 .none),(de P "__package__" 167 .none),(de P "__loader__" 168 (.builtin "__main__.__loader__#opaque")),(de P "__spec__" 169 .none),(de P "__annotations__" 170 (.ref 6)),(de P "__builtins__" 171 (.ref 4)),(de P "__file__" 173 (.str (so "/claim/cut.py") 172)),(de P "__cached__" 174 .none),(de P "_wall" 193 (.ref 21)),(de P "EMPTYSTRING" 197 (.str (so "") 196)),(de P "_Accumulator" 293 (.ref 101)),(de P "ELLIPSIS_MARKER" 297 (.str (so "...") 296)),(de P "_ellipsis_match" 309 (.ref 112)),(de P "Error" 331 (.ref 122)),(de P "error_reply" 347 (.ref 135)),(de P "parse257" 358 (.ref 144)),(de P "b1_set" 420 (.ref 152))]) 18),#[]⟩
noncomputable def ep1(P:Params):Obj:=⟨.none,none,(.fields (ar [(.int 1 0),(.int 0 0),(.ref 20),(.int 6 0),(.int 0 0),(.ref 28),(.int 41 0),(.int 0 0),(.ref 111),(.int 70 0),(.int 0 0),(.ref 118),(.int 72 0),(.int 0 0),(.ref 131),(.int 74 0),(.int 0 0),(.ref 143)])),#[]⟩
noncomputable def gP1(P:Params):Obj:=⟨(.type "dict"),none,(.dict (ar [(de P "__name__" 165 (.str (so "cpy313.stringprep") 359)),(de P "__doc__" 166 .none),(de P "__package__" 167 .none),(de P "__loader__" 168 (.builtin "__main__.__loader__#opaque")),(de P "__spec__" 169 .none),(de P "__annotations__" 170 (.ref 6)),(de P "__builtins__" 171 (.ref 4)),(de P "__file__" 173 (.str (so "/claim/cut.py") 172)),(de P "__cached__" 174 .none),(de P "_wall" 193 (.ref 21)),(de P "EMPTYSTRING" 197 (.str (so "") 196)),(de P "_Accumulator" 293 (.ref 101)),(de P "ELLIPSIS_MARKER" 297 (.str (so "...") 296)),(de P "_ellipsis_match" 309 (.ref 112)),(de P "Error" 331 (.ref 122)),(de P "error_reply" 347 (.ref 135)),(de P "parse257" 358 (.ref 144)),(de P "b1_set" 420 (.ref 152)),(de P "in_table_b1" 427 (.ref 162))]) 19),#[]⟩
noncomputable def eo1(P:Params):Obj:=⟨.none,none,(.fields (ar [(.int 1 0),(.int 0 0),(.ref 20),(.int 6 0),(.int 0 0),(.ref 28),(.int 41 0),(.int 0 0),(.ref 111),(.int 70 0),(.int 0 0),(.ref 118),(.int 72 0),(.int 0 0),(.ref 131),(.int 74 0),(.int 0 0),(.ref 143),(.int 93 0),(.int 0 0),(.ref 161)])),#[]⟩
noncomputable def gO1(P:Params):Obj:=⟨(.type "dict"),none,(.dict (ar [(de P "__name__" 165 (.str (so "cpy313.stringprep") 359)),(de P "__doc__" 166 .none),(de P "__package__" 167 .none),(de P "__loader__" 168 (.builtin "__main__.__loader__#opaque")),(de P "__spec__" 169 .none),(de P "__annotations__" 170 (.ref 6)),(de P "__builtins__" 171 (.ref 4)),(de P "__file__" 173 (.str (so "/claim/cut.py") 172)),(de P "__cached__" 174 .none),(de P "_wall" 193 (.ref 21)),(de P "EMPTYSTRING" 197 (.str (so "") 196)),(de P "_Accumulator" 293 (.ref 101)),(de P "ELLIPSIS_MARKER" 297 (.str (so "...") 296)),(de P "_ellipsis_match" 309 (.ref 112)),(de P "Error" 331 (.ref 122)),(de P "error_reply" 347 (.ref 135)),(de P "parse257" 358 (.ref 144)),(de P "b1_set" 420 (.ref 152)),(de P "in_table_b1" 427 (.ref 162)),(de P "b3_exceptions" 2378 (.ref 163))]) 20),#[]⟩
noncomputable def en1(P:Params):Obj:=⟨.none,none,(.fields (ar [(.int 1 0),(.int 0 0),(.ref 20),(.int 6 0),(.int 0 0),(.ref 28),(.int 41 0),(.int 0 0),(.ref 111),(.int 70 0),(.int 0 0),(.ref 118),(.int 72 0),(.int 0 0),(.ref 131),(.int 74 0),(.int 0 0),(.ref 143),(.int 93 0),(.int 0 0),(.ref 161)])),#[]⟩
noncomputable def gN1(P:Params):Obj:=⟨(.type "dict"),none,(.dict (ar [(de P "__name__" 165 (.str (so "law_wv0039_02") 2387)),(de P "__doc__" 166 .none),(de P "__package__" 167 .none),(de P "__loader__" 168 (.builtin "__main__.__loader__#opaque")),(de P "__spec__" 169 .none),(de P "__annotations__" 170 (.ref 6)),(de P "__builtins__" 171 (.ref 4)),(de P "__file__" 173 (.str (so "/claim/cut.py") 172)),(de P "__cached__" 174 .none),(de P "_wall" 193 (.ref 21)),(de P "EMPTYSTRING" 197 (.str (so "") 196)),(de P "_Accumulator" 293 (.ref 101)),(de P "ELLIPSIS_MARKER" 297 (.str (so "...") 296)),(de P "_ellipsis_match" 309 (.ref 112)),(de P "Error" 331 (.ref 122)),(de P "error_reply" 347 (.ref 135)),(de P "parse257" 358 (.ref 144)),(de P "b1_set" 420 (.ref 152)),(de P "in_table_b1" 427 (.ref 162)),(de P "b3_exceptions" 2378 (.ref 163)),(de P "map_table_b3" 2386 (.ref 208)),(de P "_law_typed" 2400 (.ref 215)),(de P "_law_prepared" 2406 (.ref 220)),(de P "_law_dips" 2412 (.ref 225)),(de P "_law_chosen" 2418 (.ref 230)),(de P "law" 2424 (.ref 235))]) 26),#[]⟩
noncomputable def em1(P:Params):Obj:=⟨.none,none,(.fields (ar [(.int 1 0),(.int 0 0),(.ref 20),(.int 6 0),(.int 0 0),(.ref 28),(.int 41 0),(.int 0 0),(.ref 111),(.int 70 0),(.int 0 0),(.ref 118),(.int 72 0),(.int 0 0),(.ref 131),(.int 74 0),(.int 0 0),(.ref 143),(.int 93 0),(.int 0 0),(.ref 161),(.int 96 0),(.int 0 0),(.ref 207),(.int 102 0),(.int 0 0),(.ref 214),(.int 110 0),(.int 0 0),(.ref 219),(.int 112 0),(.int 0 0),(.ref 224),(.int 127 0),(.int 0 0),(.ref 229),(.int 129 0),(.int 0 0),(.ref 234)])),#[]⟩
noncomputable def b3:List (Int×Str):=kG1 (us (stN 14)).a
noncomputable def bX1(l:List (Nat×Obj))(t:BT):BT:=l.foldl (fun t x=>t.ins x.1 x.2) t
noncomputable def xU(t:BT)(a b:Obj):BT:=(t.set 3 fun _=>a).set 12 fun _=>b
noncomputable def sq:Env:={ scope:=prg.main.scope,locals:=mainNs,globals:=mainNs,cells:=[],code:=.ref 13,frame:=some 14 }
noncomputable def trb(P:Params):BT:=bX1 [(0,boot_o_0 P),(1,boot_o_1 P),(2,boot_o_2 P),(3,boot_o_3 P),(4,boot_o_4 P),(5,boot_o_5 P),(6,boot_o_6 P),(7,boot_o_7 P),(8,boot_o_8 P),(9,boot_o_9 P),(10,boot_o_10 P),(11,e0),(12,e1),(13,b13 P),(14,b14 P)] .nil
noncomputable def tr0(P:Params):BT:=bX1 [(15,e0),(16,e1),(17,n17 P),(18,e0),(19,n19 P),(20,n20 P),(21,n21 P),(22,n22 P),(23,e2),(24,n24 P),(25,n25 P),(26,e0),(27,n27 P),(28,n28 P),(29,n29 P),(30,n30 P),(31,e3),(32,n32 P),(33,e1),(34,n34 P),(35,e0),(36,n36 P),(37,n37 P),(38,n38 P),(39,e0),(40,e1),(41,n41 P),(42,e0),(43,n43 P),(44,n44 P),(45,n45 P),(46,n46 P),(47,e0),(48,e1),(49,n49 P),(50,e0),(51,n51 P),(52,n52 P),(53,n53 P),(54,e3),(55,n55 P),(56,e1),(57,n57 P),(58,e0),(59,n59 P),(60,n60 P),(61,n61 P),(62,e0),(63,e1),(64,n64 P),(65,e0),(66,n66 P),(67,n67 P),(68,n68 P),(69,e0),(70,e1),(71,n71 P),(72,e0),(73,n73 P),(74,n74 P),(75,n75 P),(76,n76 P),(77,e0),(78,e1),(79,n79 P),(80,e0),(81,n81 P),(82,n82 P),(83,n83 P),(84,e0),(85,e1),(86,n86 P),(87,e0),(88,n88 P),(89,n89 P),(90,n90 P),(91,e3),(92,n92 P),(93,e1),(94,n94 P),(95,e0),(96,n96 P),(97,n97 P),(98,n98 P),(99,n99 P),(100,ku1 P),(101,kt1 P),(102,ks1 P),(103,kr1 P),(104,kq1 P),(105,kp1 P),(106,e0),(107,e1),(108,ko1 P),(109,e0),(110,kn1 P),(111,km1 P),(112,kl1 P),(113,kk1 P),(114,e2),(115,kj1 P),(116,e0),(117,e1),(118,ki1 P),(119,kh1 P),(120,e0),(121,kg1 P),(122,kf1 P),(123,ke1 P),(124,kd1 P),(125,kc1 P),(126,kb1 P),(127,e2),(128,ka1 P),(129,e0),(130,e1),(131,j91 P),(132,j81 P),(133,e0),(134,j71 P),(135,j61 P),(136,j51 P),(137,j41 P),(138,e0),(139,e1),(140,j31 P),(141,e0),(142,j21 P),(143,j11 P),(144,j01 P)] (((((trb P).set 2 fun _=>gS1 P).set 3 fun _=>gR1 P).set 12 fun _=>eq1 P))
noncomputable def tr1(P:Params):BT:=bX1 [(145,jZ1 P),(146,jY1 P),(147,jX1 P),(148,jW1 P),(149,e0),(150,jV1 P),(151,jU1 P),(152,jT1 P),(153,jS1 P),(154,e0),(155,jR1 P)] (xU (tr0 P) (gQ1 P) (ep1 P))
noncomputable def tr2(P:Params):BT:=bX1 [(156,e0),(157,e1),(158,jQ1 P),(159,e0),(160,jP1 P),(161,jO1 P),(162,jN1 P)] (xU (tr1 P) (gP1 P) (eo1 P))
noncomputable def q0:Pos:=⟨0,0,0,0⟩
noncomputable def shT(t:BT)(n k:Nat)(os:OsState):SharedT:={ tree:=t,n:=n,life:={ },gens:={ toList:=[] },drawn:={ },toks:=k,os:=os }
noncomputable def Sb(w:World)(os:OsState):SharedT:=shT (trb w.params) 15 187 os
noncomputable def T0(w:World)(os:OsState):SharedT:=shT (tr0 w.params) 145 361 os
noncomputable def T1(w:World)(os:OsState):SharedT:=shT (tr1 w.params) 156 421 os
noncomputable def T2(w:World)(os:OsState):SharedT:=shT (tr2 w.params) 163 428 os
noncomputable abbrev cdB(b:List Stmt):Code:=Code.body b sq
theorem p0(p:Program)(b:List Stmt)(w:World)(os:OsState) :
  segRunT treeTable p w 11 (some (Value.ref 6)) 1 1300 (Sb w os) (piecesOf [stN 0,stN 1,stN 2,stN 3,stN 4,stN 5,stN 6,stN 7,stN 8,stN 9,stN 10,stN 11] sq (cdB b) q0 [topFrame q0])=some (.next,T0 w os,cdB b,⟨91,0,91,8⟩):=by
 rw[PySem.W.Fast.te10110043849684766642,PySem.W.Fast.te14364793385576792824]
 rfl'
noncomputable def P1(w:World):Prop:=∀ (p:Program) (b:List Stmt) (os:OsState),
  segRunT treeTable p w 11 (some (Value.ref 6)) 1 999 (T0 w os) (piecesOf [stN 12] sq (cdB b) ⟨91,0,91,8⟩ [topFrame q0])=some (.next,T1 w os,cdB b,⟨92,0,92,6⟩)
theorem p1:∀ w,P1 w:=byRow2 "set-order" (byRow2 "special-get-raises" (fun w p b os=>by
  rw[PySem.W.Fast.te10110043849684766642,PySem.W.Fast.te14364793385576792824];rfl') (fun w p b os=>by
  rw[PySem.W.Fast.te10110043849684766642,PySem.W.Fast.te14364793385576792824];rfl')) (byRow2 "special-get-raises" (fun w p b os=>by
  rw[PySem.W.Fast.te10110043849684766642,PySem.W.Fast.te14364793385576792824];rfl') (fun w p b os=>by
  rw[PySem.W.Fast.te10110043849684766642,PySem.W.Fast.te14364793385576792824];rfl'))
theorem p2(p:Program)(b:List Stmt)(w:World)(os:OsState) :
  segRunT treeTable p w 11 (some (Value.ref 6)) 1 31 (T1 w os) (piecesOf [stN 13] sq (cdB b) ⟨92,0,92,6⟩ [topFrame q0])=some (.next,T2 w os,cdB b,⟨93,0,94,30⟩):=by
 rw[PySem.W.Fast.te10110043849684766642,PySem.W.Fast.te14364793385576792824]
 rfl'
noncomputable def vP(st:Stmt):Pos:=(un (us st).a).p
noncomputable def fk1(st:Stmt):Pos:=(us st).p
noncomputable def jt1(st:Stmt):Pos:=(un ((us st).l.headD e00)).p
noncomputable abbrev fv(env:Env):Value->Sem Flow:=fun v=>standAt (jt1 (stN 14))>>=fun _=>bindName env (so "b3_exceptions") v>>=fun _=>pure .next
theorem e14:exec (stN 14) sq=(standAt (fk1 (stN 14))>>=fun _=>(standAt (vP (stN 14))>>=fun _=>dictDisplay (opt (prT (vP (stN 14)) b3)))>>=fv sq):=by rfl'
theorem rf:b3.length=17*(37+1)+4:=by decide +kernel
theorem bE1:GoodKeys b3:=by
 constructor
 ·have h:(b3.map (·.1)).Pairwise (· < ·):=by
   have:(List.range 649).all (fun i=>decide ((b3.map (·.1)).getD i 0<(b3.map (·.1)).getD (i+1) 0))=true:=by decide +kernel
   rw[List.pairwise_iff_getElem]
   have key:∀ j i,i<j->∀ hj:j<650,(b3.map (·.1)).getD i 0<(b3.map (·.1)).getD j 0:=by
    intro j
    induction j with
    | zero=>intro i hi;omega
    | succ j ih =>
     intro i hi hj
     have st:=of_decide_eq_true (List.all_eq_true.mp this j (List.mem_range.mpr (by omega)))
     rcases Nat.lt_or_ge i j with q | q
     ·exact Int.lt_trans (ih i q (by omega)) st
     ·obtain rfl:i=j:=by omega
      exact st
   intro i j hi hj hij
   have hl:(b3.map (·.1)).length=650:=by rw[List.length_map,rf]
   have:=key j i hij (by omega)
   simp only[List.getD_eq_getElem?_getD,List.getElem?_eq_getElem hi,List.getElem?_eq_getElem hj,Option.getD_some] at this
   exact this
  exact h.imp (fun h=>Int.ne_of_lt h)
 ·have:b3.all (fun x=>decide (0<=x.1)&&decide (x.1<2 ^ 60))=true:=by decide +kernel
  intro x hx
  have:=List.all_eq_true.mp this x hx
  simpa using this
noncomputable def bj1:List Obj:=er1 428 37 (b3.take 17) (b3.drop 17) []
noncomputable def hP1(P:Params):BT:=bX1 ((List.range' 163 39).zip bj1) (tr2 P)
noncomputable def T2b(w:World)(os:OsState):SharedT:=shT (hP1 w.params) 202 2378 os
noncomputable def tr3(P:Params):BT:=xU (hP1 P) (gO1 P) (en1 P)
noncomputable def T3(w:World)(os:OsState):SharedT:=shT (tr3 w.params) 202 2379 os
theorem ei1(w:World)(os:OsState):hx (T2 w os).abs.heap bj1=(T2b w os).abs.heap:=by rfl'
theorem dA1(p:Program)(b:List Stmt)(w:World)(os:OsState) :
  segRunT treeTable p w 11 (some (Value.ref 6)) 1 12 (T2b w os) ⟨(fv sq (.ref 163)).wrap doneF deadEnd id id,cdB b,vP (stN 14),[topFrame q0]⟩=some (.next,T3 w os,cdB b,⟨95,0,95,13⟩):=by
 rw[PySem.W.Fast.te10110043849684766642,PySem.W.Fast.te14364793385576792824]
 rfl'
theorem p3(p:Program)(b:List Stmt)(w:World)(os:OsState):∃ n,segRun treeTable p w 11 (some (Value.ref 6)) 1 n (T2 w os).abs (pieceOf (stN 14) sq (cdB b) ⟨93,0,94,30⟩ [topFrame q0]) =
  some (.next,(T3 w os).abs,cdB b,⟨95,0,95,13⟩):=by
 have sz:(T2 w os).abs.heap.objs.size=163:=absHeap_size _ _ _
 have Y:Yld p w 11 (some (Value.ref 6)) q0 (standAt (fk1 (stN 14))>>=fun _=>(standAt (vP (stN 14))>>=fun _=>dictDisplay (opt (prT (vP (stN 14)) b3)))) ⟨93,0,94,30⟩ (T2 w os).abs (.ref 163) (vP (stN 14)) (T2b w os).abs:=by
  refine ao jc (ao jc ?_)
  have:=l6 (p:=p) (w:=w) (n₀:=11) (ann:=some (Value.ref 6)) (q:=q0) (s:=(T2 w os).abs) (pd:=vP (stN 14)) (hb:=(T2 w os).abs.heap) (by rw[sz];decide) (by rw[sz];decide) 428 37 b3 rf bE1 (by rw[rf];decide)
  rw[rf,sz] at this
  have e:=ei1 w os
  unfold bj1 at e
  rw[e] at this
  exact this
 obtain ⟨n,hn⟩:=Y (fun a=>(fv sq a).wrap doneF deadEnd id id) deadEnd id id (cdB b)
 refine⟨n+12,seg_go ?_ (segRun_of (dA1 p b w os))⟩
 unfold pieceOf
 rw[e14]
 have e:((standAt (fk1 (stN 14))>>=fun _=>(standAt (vP (stN 14))>>=fun _=>dictDisplay (opt (prT (vP (stN 14)) b3)))>>=fv sq):Sem Flow) =
   (standAt (fk1 (stN 14))>>=fun _=>(standAt (vP (stN 14))>>=fun _=>dictDisplay (opt (prT (vP (stN 14)) b3))))>>=fv sq:=by
  simp only[bind_assoc]
 rw[e,Sem.bind_eq_wrap',Sem.wrap_wrap]
 exact hn
noncomputable def tr4(P:Params):BT:=bX1 [(202,e0),(203,e1),(204,jM1 P),(205,e0),(206,jL1 P),(207,jK1 P),(208,jJ1 P),(209,e0),(210,e1),(211,jI1 P),(212,e0),(213,jH1 P),(214,jG1 P),(215,jF1 P),(216,e0),(217,e1),(218,jE1 P),(219,jD1 P),(220,jC1 P),(221,e0),(222,e1),(223,jB1 P),(224,jA1 P),(225,jz1 P),(226,e0),(227,e1),(228,jy1 P),(229,jx1 P),(230,jw1 P),(231,e0),(232,e1),(233,jv1 P),(234,ju1 P),(235,id1 P)] (xU (tr3 P) (gN1 P) (em1 P))
noncomputable def T4(w:World)(os:OsState):SharedT:=shT (tr4 w.params) 236 2425 os
theorem p4(p:Program)(b:List Stmt)(w:World)(os:OsState) :
  segRunT treeTable p w 11 (some (Value.ref 6)) 1 300 (T3 w os) (piecesOf [stN 15,stN 16,stN 17,stN 18,stN 19,stN 20,stN 21] sq (cdB b) ⟨95,0,95,13⟩ [topFrame q0])=some (.next,T4 w os,cdB b,⟨129,0,178,15⟩):=by
 rw[PySem.W.Fast.te10110043849684766642,PySem.W.Fast.te14364793385576792824]
 rfl'
noncomputable abbrev bd:List Stmt:=behindTheImports prg
noncomputable def S0(w:World)(os:OsState):Shared:=⟨boot_heap w.params,Array.mk [],boot_drawn,boot_toks,os⟩
theorem pre(w:World)(os:OsState):topGo treeTable prg w 11 (some (Value.ref 6)) 12 (S0 w os) (topStub prg)=some ((Sb w os).abs,⟨denote treeTable (cdB bd),cdB bd,q0,[topFrame q0]⟩):=by
 rfl'
theorem blk(w:World)(os:OsState):segRun treeTable prg w 11 (some (Value.ref 6)) 1 1 (Sb w os).abs (blockOf bd sq (cdB bd) q0 [topFrame q0])=some (.next,(Sb w os).abs,cdB bd,q0):=by
 rfl'
theorem eL1:[stN 0,stN 1,stN 2,stN 3,stN 4,stN 5,stN 6,stN 7,stN 8,stN 9,stN 10,stN 11]++([stN 12]++([stN 13]++(stN 14::([stN 15,stN 16,stN 17,stN 18,stN 19,stN 20,stN 21]++[]))))=bd:=by rfl'
noncomputable def S4(w:World)(os:OsState):Shared:=(T4 w os).abs
theorem fin(w:World)(os:OsState):topRun treeTable prg w 11 (some (Value.ref 6)) 5 (T4 w os).abs ⟨doneF .next,cdB bd,⟨129,0,178,15⟩,[topFrame q0]⟩=some (S4 w os):=by
 rfl'
theorem co1(w:World)(os:OsState):∃ n,topRun treeTable prg w 11 (some (Value.ref 6)) n (S0 w os) (topStub prg)=some (S4 w os):=by
 have k4:=piece_app (rest:=[]) (segRun_of (p4 prg bd w os)) (piece_nil (fin w os))
 obtain ⟨n3,h3⟩:=p3 prg bd w os
 have k3:=piece_cons h3 k4
 have k2:=piece_app (segRun_of (p2 prg bd w os)) k3
 have k1:=piece_app (segRun_of (p1 w prg bd os)) k2
 have k0:=piece_app (segRun_of (p0 prg bd w os)) k1
 rw[eL1] at k0
 have kb:=piece_block (blk w os) k0
 exact⟨_,go_top (pre w os) kb⟩
open PySem PySem.W PySem.Calls PyProof.Rows
set_option maxHeartbeats 0
abbrev rw3:OpenLaw:=PySem.Challenge.rw_wv0039_02
theorem uL:opening prg=plainProg prg.main.scope.names:=by rfl'
theorem ba1(s:Shared):fenceModules? prg s=some s:=by rfl'
theorem d71:importedModules prg.main.body=[]:=by rfl'
noncomputable abbrev Hh(P:Params):Heap:=absHeap (tr4 P) 236 {}
theorem hA1(w:World)(os:OsState):S4 w os=⟨Hh w.params,⟨[]⟩,{},2425,os⟩:=by rfl'
theorem fH1(w:World)(os:OsState):(S4 w os).heap=Hh w.params:=by rfl'
theorem iz1(w:World)(os:OsState):(S4 w os).gens=⟨[]⟩:=by rfl'
theorem wa(w:World)(os:OsState):(S4 w os).asleep:=⟨by rfl',by rfl'⟩
theorem sd(w:World)(os:OsState):gensDone (S4 w os)=true:=by rfl'
theorem c1(P:Params):staticsOk [] (boot_heap P) (Hh P)=true:=by rfl'
theorem c2(P:Params):namesBound prg (Hh P)=true:=by rfl'
theorem c4(P:Params):laidKept (boot_heap P) (Hh P)=true:=by rfl'
theorem c5(P:Params):(Hh P).accountedOkI []=true:=by rfl'
theorem c6(P:Params):(Hh P).isNs mainGlobals=true:=by rfl'
theorem c7(P:Params):(Hh P).isNs builtinsNs=true:=by rfl'
theorem c8(P:Params):(Hh P).bltView=bltViewBooted:=by rfl'
theorem c9(P:Params):(Hh P).bmainOk=true:=by rfl'
theorem wb(w:World)(os:OsState):(S0 w os).asleep:=⟨by rfl',by rfl'⟩
theorem vZ(w:World):(∃ s,AfterRun (opening prg) w s)/\∀ s,AfterRun (opening prg) w s->∃ s₀,fenceModules? prg s=some s₀/\s₀.gens=#[]/\∃ os,TopRan prg w s₀ (S4 w os):=by
 have h:=boot_open (p:=prg) (N:=600) uL rfl ba1 w
 rw[← table_eq_tree] at h
 obtain ⟨s₀,h2,h3⟩:=Option.map_eq_some_iff.mp h
 obtain ⟨s,h4,h5⟩:=Option.bind_eq_some_iff.mp h2
 have A:=AfterImport.of_importEnds h4
 refine⟨⟨s,A⟩,fun s' hs'=>?_⟩
 obtain rfl:s'=s:=AfterImport.unique hs' A
 obtain ⟨hp,gs,dr,tk,os⟩:=s₀
 obtain ⟨e1,e2,e3,e4⟩:hp=boot_heap w.params/\gs=Array.mk []/\dr=boot_drawn/\tk=boot_toks:=by simpa using h3
 subst e1 e2 e3 e4
 refine⟨_,h5,rfl,os,?_⟩
 obtain ⟨n,hr⟩:=co1 w os
 rw[← table_eq_tree] at hr
 obtain ⟨a,l,o,fr⟩:=topRun_spec n _ _ _ (wb w os) hr
 have hheap:=fH1 w os
 have hg:=c6 w.params
 have hg0:(boot_heap w.params).isNs mainGlobals=true:=by rfl'
 refine⟨a,l,Shared.rest_eq o,fun b ob hb hn=>fr b ob ?_ (fun q=>hn (.inl q)) (fun q=>hn (.inr (.inl q))) (fun q=>hn (.inr (.inr ((Pin.globalOf_eq hg0 _).trans ?_)))) hb,?_,?_,?_,?_,?_,gens_of_done (sd w os),?_,?_⟩
 ·have:=Heap.lt_size hb
  have e:(boot_heap w.params).objs.size=11:=by rfl'
  exact e▸this
 ·have e:(boot_heap w.params).nsMap mainGlobals "__annotations__"=some (.ref 6):=by rfl'
  exact e.trans q
 ·rw[hheap,d71];exact Heap.accountedI_of_ok (c5 _)
 ·rw[hheap,d71];exact statics_of_ok (c1 _)
 ·rw[hheap];exact Pin.keysAreStrs_of hg
 ·rw[hheap];exact fun x hx=>(Pin.builtinOf_eq (c7 _) x).trans (Heap.of_bltView (c7 _) (c8 _) x hx)
 ·rw[hheap]
  obtain ⟨bm,ob,a,_,c,d,f,_⟩:=Heap.bmainOk_spec (c9 w.params)
  exact⟨bm,ob,(Pin.globalOf_eq hg _).trans a,c,d,f⟩
 ·rw[hheap];exact names_of_bound (c2 _)
 ·rw[hheap];exact laid_of_kept (c4 _)
inductive Ints:List Value->List Int->Prop
 | nil:Ints [] []
 | cons {i:Int} {t:Tok} {vs:List Value} {ns:List Int}:Ints vs ns->Ints (.int i t::vs) (i::ns)
noncomputable def hx1(prog:Program)(H:Params->Heap)(fa:Addr):Prop :=
 ∀ (w:World) (am:Shared) (l:Addr) (o:Obj) (vs:Array Value) (n:Nat) (ns:List Int),
  (∀ b o,(H w.params).get? b=some o->am.heap.get? b=some o)->am.gens=#[]->0<am.toks->am.heap.get? l=some o->o.cls=.type "list"->o.data=.seq vs n ->
  Ints vs.toList ns->ns.length<=63->WData.layableAll [.list (ns.map .int)]=true->(H w.params).objs.size<=l ->
  wpAny (model prog w) callerA (PySem.call (.ref fa) [.ref l])
   (fun v s'=>v=.bool true/\OldK am.heap s'.heap/\s'.os=am.os/\AllBare s'.gens) (fun _ _=>False) am
theorem g61(P:Params):isTheDefsW prg (Hh P) "law" :=
 ⟨235,id1 P,gT1 (stN 21) (.ref 234) (.str (so "law_wv0039_02") 2387),eW1 (stN 21),ax (stN 21),ag (stN 21),(Pin.globalOf_eq (c6 P) _).trans (by rfl'),by rfl',by rfl',by rfl',by rfl',
  by rfl',by rfl',by rfl',by rfl',by rfl',by rfl',by rfl',.inl ⟨by rfl',by rfl'⟩,[],by rfl',.inl ⟨rfl,by rfl'⟩⟩
noncomputable def k11(R:WRecords)(cl:Str->Option Addr)(h:Heap)(v:Value):WData->List Addr->Prop
 | .int i,_=>∃ t,v=.int i t
 | .list xs,as=>∃ a o vs n as',v=.ref a/\as=a::as'/\h.get? a=some o/\o.cls=.type "list"/\o.data=.seq vs n/\ReadsAllW R cl h vs.toList xs as'
 | _,_=>True
theorem ip1{R:WRecords}{cl:Str->Option Addr}{h:Heap}{v:Value}{d:WData}{as:List Addr}(H:ReadsW R cl h v d as):k11 R cl h v d as:=by
 cases H with
 | int i t=>exact⟨t,rfl⟩
 | list ho hc hd hi=>exact⟨_,_,_,_,_,rfl,rfl,ho,hc,hd,hi⟩
 | _=>trivial
theorem qS{R:WRecords}{cl:Str->Option Addr}{h:Heap}{vs:List Value}{d:WData}{ds:List WData}{as:List Addr}{Q:Prop}(H:ReadsAllW R cl h vs (d::ds) as)
  (k:∀ v vs' a b,vs=v::vs'->as=a++b->ReadsW R cl h v d a->ReadsAllW R cl h vs' ds b->Q):Q:=by
 cases H with | cons hv hr=>exact k _ _ _ _ rfl rfl hv hr
theorem vh{R:WRecords}{cl:Str->Option Addr}{h:Heap}{vs:List Value}{as:List Addr}(H:ReadsAllW R cl h vs [] as):vs=[]:=by cases H;rfl
theorem iq1{R:WRecords}(x:WData):(WShape.has R x .int=true->∃ i,x=.int i)/\(WShape.has R x (.list .int)=true->∃ xs,x=.list xs/\WShape.hasItems R xs .int=true):=by
 cases x with
 | int i=>exact⟨fun _=>⟨i,rfl⟩,fun h=>ftr h⟩
 | list xs=>exact⟨fun h=>ftr h,fun h=>⟨xs,rfl,(Bool.or_eq_true_iff.mp h).elim id ftr⟩⟩
 | _=>exact⟨fun h=>ftr h,fun h=>ftr h⟩
theorem vk{R:WRecords}{cl:Str->Option Addr}{h:Heap}:∀ {xs:List WData} {vs:List Value} {as:List Addr},ReadsAllW R cl h vs xs as->WShape.hasItems R xs .int=true->∃ ns,xs=ns.map WData.int/\Ints vs ns
 | [],vs,as,H,_=>⟨[],rfl,vh H▸.nil⟩
 | x::xs,vs,as,H,hs=>by
  obtain ⟨i,rfl⟩:=(iq1 x).1 (ak hs).1
  refine qS H fun v vs' a b e _ hv hr=>?_
  obtain ⟨ns,e2,hI⟩:=vk hr (ak hs).2
  obtain ⟨t,e3⟩:=ip1 hv
  subst e2 e e3
  exact⟨i::ns,rfl,.cons hI⟩
theorem bJ1{R:WRecords}{cl:Str->Option Addr}{h:Heap}{args:List WData}{vs:List Value}{as:List Addr}{Q:Prop}(hs:WShape.hasAll R args [.list .int]=true)(H:ReadsAllW R cl h vs args as)
  (k:∀ ns l o va n,args=[.list (List.map .int ns)]->vs=[.ref l]->l∈as->h.get? l=some o->o.cls=.type "list"->o.data=.seq va n->Ints va.toList ns->Q):Q:=by
 match args,hs,H with
 | [],hs,_=>exact ftr hs
 | x::y::r,hs,_=>exact ftr (ak hs).2
 | [x],hs,H =>
  obtain ⟨xs,rfl,hi⟩:=(iq1 x).2 (ak hs).1
  refine qS H fun v vs' a b e1 e2 hv hr=>gs1 (ip1 hv) fun l o va n as' e3 e4 ho hc hd hI=>aI (vk hI hi) fun ns e5 hN=>?_
  exact k ns l o va n (congrArg (fun z=>[WData.list z]) e5) (e1.trans (e3▸vh hr▸rfl)) (e2▸List.mem_append_left _ (e4▸List.mem_cons_self)) ho hc hd hN
theorem ac1{R:WRecords}{ns:List Int}(h:WTm.holds R (.and (.not (.lt (.lit (.int 63)) (.len (.arg 0)))) (.lit (.bool true))) { args:=[WData.list (ns.map WData.int)] }=true):ns.length<=63:=by
 rcases Nat.lt_or_ge 63 ns.length with q | q
 ·have hq:decide ((63:Int)<((ns.map WData.int).length:Nat))=true:=by rw[List.length_map];exact decide_eq_true (by exact Int.ofNat_le.mpr ‹_›)
  have hl:less? (WData.int 63) (WData.int ((ns.map WData.int).length:Nat))=some true:=congrArg some hq
  have e:WTm.value R (.and (.not (.lt (.lit (.int 63)) (.len (.arg 0)))) (.lit (.bool true))) { args:=[WData.list (ns.map WData.int)] }=some (.bool false):=by
   simp only[WTm.value,List.getElem?_cons_zero,hl,Option.map_some,Bool.not_true]
  unfold WTm.holds at h
  rw[e] at h
  exact ftr h
 ·exact q
theorem hi1(walk:hx1 prg Hh 235){w:World}{os:OsState}{args:List WData}{vs:List Value}{as:List Addr}{am:Shared}{Q:Fin->Shared->Prop}{E:Value->Shared->Prop}{R:WRecords}
  (hs:WShape.hasAll R args [.list .int]=true) (hp:WTm.holds R (.and (.not (.lt (.lit (.int 63)) (.len (.arg 0)))) (.lit (.bool true))) { args:=args }=true) (hlay:WData.layableAll args=true)
  (H:ReadsAllW R (classAt (S4 w os).heap) am.heap vs args as) (hin:∀ a∈as,(Hh w.params).objs.size<=a) (keeps:∀ b o,(Hh w.params).get? b=some o->am.heap.get? b=some o) (hg:am.gens=#[]) (ht:0<am.toks)
  (k:∀ s',OldK am.heap s'.heap->s'.os=am.os->AllBare s'.gens->Q (.done (.ret (.bool true))) s') :
  wpAny (model prg w) callerA (do match ← nsGet mainNs "law" with
    | some f=>do ret (← PySem.call f vs)
    | none=>unsupported "claim.caller:no-such-global") Q E am:=by
 refine bJ1 hs H fun ns l o va n e1 e2 hl ho hc hd hI=>?_
 subst e1 e2
 refine wpAny_bind (wpAny_nsGet ((Heap.Ns.of_isNs (c6 w.params)).keeps keeps) ?_)
 rw[show (Hh w.params).nsMap mainGlobals "law"=some (.ref 235) by rfl']
 refine wpAny_bind (wpAny_mono (walk w am l o va n ns keeps hg ht ho hc hd hI (ac1 hp) hlay (hin l hl)) (fun v s' q=>wpAny_pure ?_) fun _ _ x=>x.elim)
 rw[q.1]
 exact k s' q.2.1 q.2.2.1 q.2.2.2
theorem gM1{w:World}{os:OsState}{args:List WData}{am s':Shared}(k1:OldK am.heap s'.heap)(k2:s'.os=am.os)(k3:AllBare s'.gens) :
  GoodWG rw3.row.claim (classAt (S4 w os).heap) (ExcName.means (S4 w os).heap) args am (.ok (.ret (.bool true))) s' :=
 ⟨.inl ⟨.bool true,.bool true,[],rfl,fun cls=>rfl,.bool true,by rfl',fun _=>⟨.nil,fun a ha=>(nomatch ha)⟩⟩,k1,k2,k3⟩
theorem gL1(walk:hx1 prg Hh 235):rw3.Holds:=by
 w_on
 refine holds_law (by rfl') fun said=>?_
 refine⟨said,?_,?_⟩
 ·w_witness2
 ·have fr:frees rw3.row.toRowW=true:=by decide +kernel
  obtain ⟨hsame,hu,ha,hap,hm⟩:=frees_parts fr
  refine⟨⟨⟨by rfl',by rfl',by rfl',by rfl',by rfl',by decide +kernel⟩,by decide +kernel,by rfl'⟩,⟨[.list []],by decide +kernel,by decide +kernel⟩,fun w=>⟨(vZ w).1,fun s' hs'=>?_⟩⟩
  obtain ⟨s₀,hf,hg0,os,hT⟩:=(vZ w).2 s' hs'
  refine⟨s₀,hf,hg0,S4 w os,hT,fun n hn=>?_,fun x hx=>(nomatch hx),fun x hx=>(nomatch hx),?_⟩
  ·obtain rfl:n="law":=by
    have e:(if rw3.row.pinned=true then [rw3.row.name] else [])=[("law":Str)]:=by rfl'
    rw[e] at hn
    simpa using hn
   have:=g61 w.params
   rw[← fH1 w os] at this
   exact this
  ·refine ClaimW.callFrom_of_specG (c:=rw3.row.claim) (tree:=fun vs=>do match ← nsGet mainNs rw3.row.name with
    | some f=>do ret (← PySem.call f vs)
    | none=>unsupported "claim.caller:no-such-global") (wa w os) (iz1 w os) fun args hpre hlay ord hord=>?_
   obtain ⟨⟨vs,am⟩,hlaid⟩:=Option.isSome_iff_exists.mp (layAllW_isSome (R:=rw3.row.claim.records) (cl:=classAt (S4 w os).heap) (P:=w.params) (ord:=ord) (fun c hc=>by cases hc) args rw3.row.args (S4 w os) (pre_splitW hpre).1)
   have keeps:=layAllW_keeps _ _ _ hlaid
   have hal:=layAllW_rest _ _ _ hlaid
   obtain ⟨as,hrd,hin,hold⟩:=reads_layAllW hord _ _ _ hlaid hlay am.heap (fun _ _ e=>e)
   have L:Laid rw3.row.claim.records w (S4 w os) am args vs as:=⟨⟨ord,hord,hlaid⟩,hrd,hin,hold,keeps,hal.1.trans (iz1 w os),hal.2.2.1⟩
   have hi:=ident_freeW hu ha hap
   have hsh:=pre_splitW hpre
   refine⟨vs,am,hlaid,hi1 walk (os:=os) hsh.1 hsh.2 hlay hrd (fun a ha=>?_) (by rw[← fH1 w os];exact keeps) L.gens ?_ fun s' k1 k2 k3=>?_⟩
   ·have:=(hin.2.2 _ ha).1
    rw[fH1] at this
    exact this
   ·have h:=(layAllW_grows _ _ _ hlaid).toks
    rw[hA1] at h
    exact Nat.lt_of_lt_of_le (show 0<2425 by decide) h
   ·have z:=GoodWG.laid (c:=rw3.row.claim) hsame (by rfl') hi L (gM1 k1 k2 k3)
    exact⟨_,rfl,z.1,z.2.1,z.2.2,fun q=>ftr q⟩
inductive V where
 | none | bool (b:Bool) | int (i:Int) | str (l:List Nat)
 | tup (l:List V) | lst (l:List V) | raw (l:List V) | rng (a b c:Int) | ref (k:Nat)
set_option genInjectivity false in
set_option genSizeOf false in
structure AO where
 items:List V
 acc:Option Int
set_option genInjectivity false in
set_option genSizeOf false in
structure Wd where
 prog:Program
 w:World
 s₀:Shared
 cls:Addr
 loose:List Addr
set_option genInjectivity false in
set_option genSizeOf false in
structure Rho where
 st:List (Addr×Addr)
 hid:List Addr
noncomputable def rn(ρ:Rho)(b:Addr):Prop:=∀ p∈ρ.st,p.1≠b/\p.2≠b
noncomputable def Off(ρ:Rho)(b:Addr):Prop:=rn ρ b/\b ∉ ρ.hid
noncomputable def e9(a b c:Int):Bool:=decide (-1000000<=a/\a<=1000000/\-1000000<=b/\b<=1000000/\1<=c/\c<=1000000)
noncomputable def PlainTuple(h:Heap)(a:Addr)(items:Array Value):Prop:=∃ n,h.get? a=some { cls:=.type "tuple",data:=.seq items n }
theorem PlainTuple.isTuple{h:Heap}{a:Addr}{items:Array Value}(x:PlainTuple h a items):h.IsTuple a items:=let ⟨n,e⟩:=x;⟨_,e,rfl,n,rfl⟩
noncomputable def lim:Nat:=1000000
mutual
noncomputable def RV(h:Heap)(ρ:Rho):V->Value->Prop
 | .none,v=>v=.none
 | .bool b,v=>v=.bool b
 | .int i,v=>∃ t,v=.int i t
 | .str l,v=>l.length<=lim/\∃ t,v=.str ⟨l.toArray⟩ t
 | .tup l,v=>l.length<=lim/\∃ a vs,v=.ref a/\Off ρ a/\PlainTuple h a vs/\RVs h ρ l vs.toList
 | .lst l,v=>l.length<=lim/\∃ a vs,v=.ref a/\Off ρ a/\h.PlainList a vs/\RVs h ρ l vs.toList
 | .raw l,v=>l.length<=lim/\∃ a vs,v=.ref a/\Off ρ a/\h.IsList a vs/\RVs h ρ l vs.toList
 | .rng a b c,v=>e9 a b c=true/\∃ r t u w,v=.ref r/\Off ρ r/\IsRange h r a b c t u w
 | .ref k,v=>∃ p,ρ.st[k]?=some p/\v=.ref p.1
noncomputable def RVs(h:Heap)(ρ:Rho):List V->List Value->Prop
 | [],vs=>vs=[]
 | x::xs,vs=>∃ v r,vs=v::r/\RV h ρ x v/\RVs h ρ xs r
end
noncomputable def RO(G:Wd)(h:Heap)(ρ:Rho)(p:Addr×Addr)(o:AO):Prop :=
 o.items.length<=lim/\match o.acc with
 | none=>p.2=p.1/\∃ vs,h.PlainList p.1 vs/\RVs h ρ o.items vs.toList
 | some i=>∃ vs n m,h.get? p.1=some ⟨.ref G.cls,some p.2,.seq vs n,#[]⟩/\RVs h ρ o.items vs.toList/\h.Ns p.2 m/\(∃ t,m "_initial_size"=some (.int i t))/\(∀ x:Str,x≠"_initial_size"->m x=none)
noncomputable def bT1(G:Wd)(b:Addr)(vs:Array Value):Prop:=TriplesOk vs.toList/\∃ us more,G.s₀.heap.get? b=some ⟨.none,none,.fields us,#[]⟩/\vs=us++more
structure Rel (G:Wd) (σ:List AO) (ρ:Rho) (s:Shared):Prop where
 len:ρ.st.length=σ.length
 inj:∀ (i j:Nat) (p q:Addr×Addr),ρ.st[i]?=some p->ρ.st[j]?=some q->p.1=q.1->i=j
 obj:∀ (k:Nat) (p:Addr×Addr) (o:AO),ρ.st[k]?=some p->σ[k]?=some o->RO G s.heap ρ p o
 fresh:∀ p∈ρ.st,G.s₀.heap.get? p.1=none/\G.s₀.heap.get? p.2=none
 keep:∀ b o,b ∉ G.loose->G.s₀.heap.get? b=some o->s.heap.get? b=some o
 lse:∀ b∈G.loose,∃ vs,s.heap.get? b=some ⟨.none,none,.fields vs,#[]⟩/\bT1 G b vs
 same:∃ h tk gs,s={ G.s₀ with heap:=h,toks:=tk,gens:=gs }
 bare:AllBare s.gens
 hidden:∀ b∈ρ.hid,s.heap.get? b≠none
noncomputable def Solid(o:Obj):Prop:=(o.cls=.type "tuple"\/o.cls=.type "list"\/o.cls=.type "range")/\(∀ es ep,o.data≠.dict es ep)/\∀ c,o.data≠.cell c
structure StepW (G:Wd) (W:List Addr) (ρ:Rho) (s:Shared) (ρ':Rho) (s':Shared) (σ':List AO):Prop where
 rel:Rel G σ' ρ' s'
 ext:∃ new,ρ'=⟨ρ.st++new,ρ.hid⟩/\∀ p∈new,s.heap.get? p.1=none/\s.heap.get? p.2=none
 keep:∀ b o,s.heap.get? b=some o->rn ρ b->b ∉ W->b ∉ G.loose->s'.heap.get? b=some o
 wal:∀ b∈W,s.heap.get? b≠none->s'.heap.get? b≠none
noncomputable abbrev Step(G:Wd):=StepW G []
theorem IsTuple.solid{h:Heap}{a vs o}(x:h.IsTuple a vs)(e:h.get? a=some o):Solid o:=by
 obtain ⟨o',ho,hc,n,hd⟩:=x
 rw[ho] at e;obtain rfl:=siX e
 exact⟨by rw[hc];simp,fun _ _ z=>(by replace z:=(hd)▸z;cases z),fun _ z=>(by replace z:=(hd)▸z;cases z)⟩
theorem IsList.solid{h:Heap}{a vs o}(x:h.IsList a vs)(e:h.get? a=some o):Solid o:=by
 obtain ⟨o',ho,hc,n,hd⟩:=x
 rw[ho] at e;obtain rfl:=siX e
 exact⟨by rw[hc];simp,fun _ _ z=>(by replace z:=(hd)▸z;cases z),fun _ z=>(by replace z:=(hd)▸z;cases z)⟩
structure KeepV (h:Heap) (ρ:Rho) (h':Heap) (ρ':Rho):Prop where
 ext:∃ new,ρ'.st=ρ.st++new/\∀ p∈new,h.get? p.1=none/\h.get? p.2=none
 hide:∀ b∈ρ'.hid,b∈ρ.hid\/h.get? b=none
 keep:∀ b o,h.get? b=some o->Off ρ b->Solid o->h'.get? b=some o
theorem KeepV.off{h h':Heap}{ρ ρ':Rho}(K:KeepV h ρ h' ρ'){a:Addr}(hn:h.get? a≠none)(ho:Off ρ a):Off ρ' a:=by
 refine aI (K.ext) fun new e hf=>?_
 refine⟨fun p hp=>?_,fun q=>?_⟩
 ·rw[e] at hp
  rcases List.mem_append.mp hp with hp | hp
  ·exact ho.1 p hp
  ·exact⟨fun e=>hn (e▸(hf p hp).1),fun e=>hn (e▸(hf p hp).2)⟩
 ·refine Or.elim (K.hide a q) (fun q=>?_) (fun q=>?_)
  ·exact ho.2 q
  ·exact hn q
structure KeepG (h:Heap) (ρ:Rho) (h':Heap) (ρ':Rho):Prop where
 off:∀ a,h.get? a≠none->Off ρ a->Off ρ' a
 keep:∀ b o,h.get? b=some o->Off ρ b->Solid o->h'.get? b=some o
 st:∀ (k:Nat) (p:Addr×Addr),ρ.st[k]?=some p->ρ'.st[k]?=some p
theorem KeepG.ref{h h':Heap}{ρ ρ':Rho}(K:KeepG h ρ h' ρ'){P:Heap->Addr->Array Value->Prop}(hP:∀ a vs,P h a vs->∃ o,h.get? a=some o/\Solid o/\(h'.get? a=some o->P h' a vs)){l:List V}
  (hr:∀ vs,RVs h ρ l vs->RVs h' ρ' l vs) {v:Value} (e:l.length<=lim/\∃ a vs,v=.ref a/\Off ρ a/\P h a vs/\RVs h ρ l vs.toList):l.length<=lim/\∃ a vs,v=.ref a/\Off ρ' a/\P h' a vs/\RVs h' ρ' l vs.toList :=
 ⟨e.1,dD1 e.2 fun a vs e ho hp r=>qJ (hP a vs hp) fun o g S q=>fw1 a vs e (K.off a (fun z=>nso (z.symm.trans g)) ho) (q (K.keep a o g ho S)) (hr _ r)⟩
mutual
theorem RV.keepG{h h':Heap}{ρ ρ':Rho}(K:KeepG h ρ h' ρ'):∀ (x:V) (v:Value),RV h ρ x v->RV h' ρ' x v
 | .none=>fun _ e=>e
 | .bool _=>fun _ e=>e
 | .int _=>fun _ e=>e
 | .str _=>fun _ e=>e
 | .tup l=>fun _=>K.ref (P:=PlainTuple) (fun a vs p=>p.elim fun n g=>⟨_,g,IsTuple.solid (PlainTuple.isTuple p) g,fun g=>⟨n,g⟩⟩) (RVs.keepG K l)
 | .lst l=>fun _=>K.ref (P:=Heap.PlainList) (fun a vs p=>p.elim fun n g=>⟨_,g,IsList.solid (Heap.PlainList.isList p) g,fun g=>⟨n,g⟩⟩) (RVs.keepG K l)
 | .raw l=>fun _=>K.ref (P:=Heap.IsList) (fun a vs p=>p.elim fun o q=>⟨o,q.1,IsList.solid p q.1,fun g=>⟨o,g,q.2⟩⟩) (RVs.keepG K l)
 | .rng a b c=>fun v e=>⟨e.1,gt1 e.2 fun r t u w e ho hr=>kA1 r t u w e (K.off r (fun z=>nso (z.symm.trans hr)) ho) (K.keep r _ hr ho ⟨.inr (.inr rfl),nofun,nofun⟩)⟩
 | .ref k=>fun v e=>e.elim fun p q=>⟨p,K.st k p q.1,q.2⟩
theorem RVs.keepG{h h':Heap}{ρ ρ':Rho}(K:KeepG h ρ h' ρ'):∀ (x:List V) (v:List Value),RVs h ρ x v->RVs h' ρ' x v
 | []=>fun _ e=>e
 | x::xs=>fun vs e=>oM e fun v r e h1 h2=>mU v r e (RV.keepG K x v h1) (RVs.keepG K xs r h2)
end
theorem KeepV.g{h h':Heap}{ρ ρ':Rho}(K:KeepV h ρ h' ρ'):KeepG h ρ h' ρ':=⟨fun a=>K.off,K.keep,fun k p hp=>aI K.ext fun new e' _=>by rw[e',List.getElem?_append_left (List.getElem?_eq_some_iff.mp hp).1];exact hp⟩
theorem RV.mono{h h':Heap}{ρ ρ':Rho}(K:KeepV h ρ h' ρ'):∀ (x:V) (v:Value),RV h ρ x v->RV h' ρ' x v:=RV.keepG K.g
theorem RVs.mono{h h':Heap}{ρ ρ':Rho}(K:KeepV h ρ h' ρ'):∀ (x:List V) (v:List Value),RVs h ρ x v->RVs h' ρ' x v:=RVs.keepG K.g
theorem RVs.length{h:Heap}{ρ:Rho}:∀ {x:List V} {v:List Value},RVs h ρ x v->v.length=x.length
 | [],_,e=>by delta RVs at e;rw[e];rfl
 | x::xs,vs,e=>by
  dsimp only[RVs] at e
  obtain ⟨v,r,rfl,h1,h2⟩:=e
  rw[List.length_cons,List.length_cons,RVs.length h2]
theorem RVs.get{h:Heap}{ρ:Rho}:∀ {x:List V} {v:List Value},RVs h ρ x v->∀ {i:Nat} {a:V},x[i]?=some a->∃ c,v[i]?=some c/\RV h ρ a c
 | [],_,_,i,a,q=>by exact nso q
 | x::xs,vs,e,i,a,q=>by
  dsimp only[RVs] at e
  obtain ⟨v,r,h_p⟩:=e;obtain rfl:=h_p.1;have h1:=h_p.2.1;have h2:=h_p.2.2
  cases i with
  | zero=>simp at q;subst q;exact⟨v,rfl,h1⟩
  | succ i=>exact RVs.get h2 (by simpa using q)
theorem RVs.append{h:Heap}{ρ:Rho}:∀ {x y:List V} {v u:List Value},RVs h ρ x v->RVs h ρ y u->RVs h ρ (x++y) (v++u)
 | [],_,_,_,e,q=>by delta RVs at e;exact(e)▸(q)
 | x::xs,y,vs,u,e,q=>by
  dsimp only[RVs] at e
  obtain ⟨v,r,rfl,h1,h2⟩:=e
  show RVs h ρ (x::(xs++y)) _
  dsimp only[RVs]
  exact mU v (r++u) rfl h1 (RVs.append h2 q)
theorem RVs.nil{h:Heap}{ρ:Rho}:RVs h ρ [] []:=by delta RVs;rfl
theorem RVs.cons{h:Heap}{ρ:Rho}{x:V}{xs:List V}{v:Value}{vs:List Value}(a:RV h ρ x v)(b:RVs h ρ xs vs):RVs h ρ (x::xs) (v::vs):=by
 dsimp only[RVs];exact mU v vs rfl a b
theorem RVs.cons_iff{h:Heap}{ρ:Rho}{x:V}{xs:List V}{vs:List Value}(e:RVs h ρ (x::xs) vs):∃ v r,vs=v::r/\RV h ρ x v/\RVs h ρ xs r:=by
 dsimp only[RVs] at e;exact e
theorem RVs.nil_iff{h:Heap}{ρ:Rho}{vs:List Value}(e:RVs h ρ [] vs):vs=[]:=by
 delta RVs at e;exact e
theorem RVs.drop{h:Heap}{ρ:Rho}:∀ (n:Nat) {x:List V} {v:List Value},RVs h ρ x v->RVs h ρ (x.drop n) (v.drop n)
 | 0,_,_,e=>e
 | n+1,[],vs,e=>by exact(RVs.nil_iff e)▸(RVs.nil)
 | n+1,x::xs,vs,e=>by
  obtain ⟨v,r,rfl,h1,h2⟩:=RVs.cons_iff e
  exact RVs.drop n h2
theorem RVs.take{h:Heap}{ρ:Rho}:∀ (n:Nat) {x:List V} {v:List Value},RVs h ρ x v->RVs h ρ (x.take n) (v.take n)
 | 0,_,_,e=>RVs.nil
 | n+1,[],vs,e=>by exact(RVs.nil_iff e)▸(RVs.nil)
 | n+1,x::xs,vs,e=>by
  obtain ⟨v,r,rfl,h1,h2⟩:=RVs.cons_iff e
  exact RVs.cons h1 (RVs.take n h2)
theorem RVs.filterMap_get{h:Heap}{ρ:Rho}{x:List V}{v:List Value}(e:RVs h ρ x v):∀ (is:List Nat),RVs h ρ (is.filterMap (x[·]?)) (is.filterMap (v[·]?))
 | []=>RVs.nil
 | i::is=>by
  rw[List.filterMap_cons,List.filterMap_cons]
  cases q:x[i]? with
  | none =>
   have:v[i]?=none:=by
    rw[List.getElem?_eq_none_iff] at q ⊢
    rw[RVs.length e];exact q
   rw[this];exact RVs.filterMap_get e is
  | some a =>
   refine a9 (RVs.get e q) fun c h_p=>?_;have hc:=h_p.1;have hr:=h_p.2
   exact(hc)▸(RVs.cons hr (RVs.filterMap_get e is))
theorem RVs.mapGet{h:Heap}{ρ:Rho}{x:List V}{v:List Value}(hl:v.length=x.length)(H:∀ (i:Nat) (a:V),x[i]?=some a->∃ c,v[i]?=some c/\RV h ρ a c):RVs h ρ x v:=by
 induction x generalizing v with
 | nil=>rw[List.length_nil,List.length_eq_zero_iff] at hl;exact(hl)▸(RVs.nil)
 | cons x xs ih =>
  cases v with
  | nil=>simp at hl
  | cons v vs =>
   refine RVs.cons ?_ (ih (by simpa using hl) fun i a q=>?_)
   ·refine aI (H 0 x rfl) fun c hc hr=>?_;simp at hc;subst hc;exact hr
   ·have:=H (i+1) a (by exact q);simpa using this
theorem RO.mono{G:Wd}{h h':Heap}{ρ ρ':Rho}{p:Addr×Addr}{o:AO}(K:KeepV h ρ h' ρ')(h1:∀ x,h.get? p.1=some x->h'.get? p.1=some x)
  (h2:∀ x,h.get? p.2=some x->h'.get? p.2=some x) (r:RO G h ρ p o):RO G h' ρ' p o:=by
 unfold RO at r ⊢
 have hl:=r.1;have r:=r.2
 refine⟨hl,?_⟩
 cases ha:o.acc with
 | none =>
  refine byQ fun Q kQ=>?_
  replace r:=(ha)▸r
  obtain ⟨e,vs,⟨n,hx⟩,hr⟩:=r
  refine kQ ?_
  exact⟨e,vs,⟨n,h1 _ hx⟩,RVs.mono K _ _ hr⟩
 | some i =>
  refine byQ fun Q kQ=>?_
  rw[ha] at r
  refine fs1 (r) fun vs n m hx hr h_5 r2=>?_;refine rL (h_5) fun x es ep hns r1=>?_
  refine kQ ?_
  exact gz1 vs n m (h1 _ hx) (RVs.mono K _ _ hr) ⟨x,es,ep,h2 x hns,r1⟩ r2
theorem RO.alive{G:Wd}{h:Heap}{ρ:Rho}{p:Addr×Addr}{o:AO}(r:RO G h ρ p o):h.get? p.1≠none/\h.get? p.2≠none:=by
 unfold RO at r
 refine gu (r) fun hl r=>?_
 refine fE (o.acc) (fun ha=>?_) (fun i ha=>?_)
 ·
  replace r:=(ha)▸r
  obtain ⟨e,vs,⟨n,hx⟩,hr⟩:=r
  rw[e,hx];exact⟨nofun,nofun⟩
 ·
  rw[ha] at r
  refine fs1 (r) fun vs n m hx hr h_5 r2=>?_;refine rL (h_5) fun x es ep hns r1=>?_
  rw[hx,hns];exact⟨nofun,nofun⟩
theorem Rel.alive{G:Wd}{σ:List AO}{ρ:Rho}{s:Shared}(R:Rel G σ ρ s){b:Addr}(h:¬ rn ρ b):s.heap.get? b≠none:=by
 unfold rn at h
 obtain ⟨p,hp,hb⟩:∃ p∈ρ.st,p.1=b\/p.2=b:=by
  apply Classical.byContradiction
  intro q
  exact h fun p hp=>⟨fun e=>q ⟨p,hp,.inl e⟩,fun e=>q ⟨p,hp,.inr e⟩⟩
 obtain ⟨k,hk,rfl⟩:=List.mem_iff_getElem.mp hp
 have hk':k<σ.length:=R.len▸hk
 have:=(R.obj k ρ.st[k] σ[k] (List.getElem?_eq_getElem hk) (List.getElem?_eq_getElem hk')).alive
 rcases hb with rfl | rfl
 ·exact this.1
 ·exact this.2
theorem StepW.alive{G:Wd}{W:List Addr}{ρ ρ':Rho}{s s':Shared}{σ':List AO}(S:StepW G W ρ s ρ' s' σ'){b:Addr}(h:s.heap.get? b≠none):s'.heap.get? b≠none:=by
 by_cases hw:b∈W
 ·exact S.wal b hw h
 ·by_cases hl:b∈G.loose
  ·refine aI (S.rel.lse b hl) fun vs e etr=>?_
   rw[e];exact nofun
  ·by_cases ho:rn ρ b
   ·refine fE (s.heap.get? b) (fun e=>?_) (fun o e=>?_)
    ·exact absurd e h
    ·rw[S.keep b o e ho hw hl];exact nofun
   ·refine S.rel.alive fun q=>ho fun p hp=>q p ?_
    obtain ⟨new,rfl,_⟩:=S.ext
    exact List.mem_append_left _ hp
theorem StepW.off{G:Wd}{W:List Addr}{ρ ρ':Rho}{s s':Shared}{σ':List AO}(S:StepW G W ρ s ρ' s' σ'){b:Addr}(h:s.heap.get? b≠none)(ho:rn ρ b):rn ρ' b:=by
 obtain ⟨new,rfl,hf⟩:=S.ext
 intro p hp
 rcases List.mem_append.mp hp with hp | hp
 ·exact ho p hp
 ·exact⟨fun e=>h (e▸(hf p hp).1),fun e=>h (e▸(hf p hp).2)⟩
theorem StepW.trans{G:Wd}{W:List Addr}{ρ aa au:Rho}{s am aA:Shared}{σ₁ σ₂:List AO}(S:StepW G W ρ s aa am σ₁)(T:StepW G W aa am au aA σ₂):StepW G W ρ s au aA σ₂ where
 rel:=T.rel
 ext:=by
  refine aI (S.ext) fun n1 e1 h1=>?_
  refine a9 (T.ext) fun n2 h_p=>?_;have e2:=h_p.1;have h2:=h_p.2
  refine⟨n1++n2,by rw[e2,e1];simp [List.append_assoc],fun p hp=>?_⟩
  refine Or.elim (List.mem_append.mp hp) (fun hp=>?_) (fun hp=>?_)
  ·exact h1 p hp
  ·constructor
   ·exact Classical.byContradiction fun q=>S.alive q (h2 p hp).1
   ·exact Classical.byContradiction fun q=>S.alive q (h2 p hp).2
 keep:=fun b o e ho hw hl=>T.keep b o (S.keep b o e ho hw hl) (S.off (by rw[e];exact nofun) ho) hw hl
 wal:=fun b hb h=>T.wal b hb (S.wal b hb h)
theorem StepW.weaken{G:Wd}{W W':List Addr}{ρ ρ':Rho}{s s':Shared}{σ':List AO}(S:StepW G W ρ s ρ' s' σ')(h:∀ b∈W,b∈W'):StepW G W' ρ s ρ' s' σ' where
 rel:=S.rel
 ext:=S.ext
 keep:=fun b o e ho hw hl=>S.keep b o e ho (fun q=>hw (h b q)) hl
 wal:=fun b _ q=>S.alive q
noncomputable def WOk(W:List Addr)(h:Heap):Prop:=∀ b∈W,∃ o,h.get? b=some o/\¬ Solid o
theorem Solid.no_dict{o:Obj}{es ep}(h:o.data=.dict es ep):¬ Solid o:=fun x=>x.2.1 _ _ h
theorem Solid.no_cell{o:Obj}{c}(h:o.data=.cell c):¬ Solid o:=fun x=>x.2.2 _ h
theorem StepW.keepV{G:Wd}{W:List Addr}{ρ ρ':Rho}{s s':Shared}{σ σ':List AO}(R:Rel G σ ρ s)(hW:WOk W s.heap)(S:StepW G W ρ s ρ' s' σ'):KeepV s.heap ρ s'.heap ρ' where
 ext:=let ⟨new,e,h⟩:=S.ext;⟨new,by rw[e],h⟩
 hide:=fun b hb=>by
  refine a9 (S.ext) fun new h_p=>?_;have e:=h_p.1
  rw[e] at hb;exact .inl hb
 keep:=fun b o e ho hs=>by
  refine S.keep b o e ho.1 (fun hb=>?_) fun hb=>?_
  ·refine aI (hW b hb) fun o' e' hd=>?_
   rw[e] at e';obtain rfl:=siX e'
   exact hd hs
  ·refine aI (R.lse b hb) fun vs e' etr=>?_
   rw[e] at e';obtain rfl:=siX e'
   rcases hs.1 with h | h | h <;> cases h
theorem WOk.nil(h:Heap):WOk [] h:=fun _ h=>nomatch h
theorem Step.keepV{G:Wd}{ρ ρ':Rho}{s s':Shared}{σ σ':List AO}(R:Rel G σ ρ s)(S:Step G ρ s ρ' s' σ'):KeepV s.heap ρ s'.heap ρ':=StepW.keepV R (WOk.nil _) S
theorem Step.refl{G:Wd}{ρ:Rho}{s:Shared}{σ:List AO}(R:Rel G σ ρ s):Step G ρ s ρ s σ :=
 ⟨R,⟨[],by simp,fun _ h=>nomatch h⟩,fun _ _ e _ _ _=>e,fun _ h=>nomatch h⟩
theorem Step.grow{G:Wd}{ρ:Rho}{s s':Shared}{σ:List AO}(R:Rel G σ ρ s)(hk:∀ b o,s.heap.get? b=some o->s'.heap.get? b=some o)
  (hs:∃ h tk,s'={ s with heap:=h,toks:=tk }):Step G ρ s ρ s' σ:=by
 have K:KeepV s.heap ρ s'.heap ρ:=⟨⟨[],(List.append_nil _).symm,fun _ h=>nomatch h⟩,fun _ h=>.inl h,fun b o e _ _=>hk b o e⟩
 refine⟨⟨R.len,R.inj,fun k p o h1 h2=>(R.obj k p o h1 h2).mono K (hk _) (hk _),R.fresh,fun b o hl e=>hk b o (R.keep b o hl e),fun b hb=>?_,?_,?_,fun b hb=>?_⟩,⟨[],by simp,fun _ h=>nomatch h⟩,fun b o e _ _ _=>hk b o e,fun _ h=>nomatch h⟩
 ·refine a9 (R.lse b hb) fun vs h_p=>?_;have e:=h_p.1;have etr:=h_p.2
  exact⟨vs,hk _ _ e,etr⟩
 ·refine byQ fun Q kQ=>?_
  refine d7 (R.same) fun h tk gs e=>?_
  refine cH (hs) fun h' tk' e'=>?_
  refine kQ ?_
  exact dP1 h' tk' gs (by rw[e',e])
 ·refine cH (hs) fun h' tk' e'=>?_
  rw[e'];exact R.bare
 ·refine fE (s.heap.get? b) (fun e=>?_) (fun o e=>?_)
  ·exact absurd e (R.hidden b hb)
  ·exact(hk b o e)▸(nofun)
theorem Step.toks{G:Wd}{ρ:Rho}{s:Shared}{σ:List AO}(R:Rel G σ ρ s)(t:Nat):Step G ρ s ρ { s with toks:=t } σ:=Step.grow R (fun _ _ e=>e) ⟨_,_,rfl⟩
section
variable {G:Wd} {W:List Addr} {ρ ρ':Rho} {s s':Shared} {σ σ':List AO}
theorem c31{h:Heap}{p:Addr×Addr}{o:AO}(r:RO G h ρ p o):∃ cls d vs n sl,h.get? p.1=some ⟨cls,d,.seq vs n,sl⟩:=by
 delta RO at r
 refine fE o.acc (fun e=>?_) fun i e=>?_ <;> (have r:=r.2;rw[e] at r)
 ·obtain ⟨_,vs,⟨n,hy⟩,_⟩:=r
  exact ig1 _ _ _ _ _ hy
 ·refine d7 (r) fun vs n m h_p=>?_;have hy:=h_p.1
  exact ig1 _ _ _ _ _ hy
theorem c21{h:Heap}{p:Addr×Addr}{o:AO}(r:RO G h ρ p o):p.2=p.1\/∃ z es ep,h.get? p.2=some z/\z.data=.dict es ep:=by
 delta RO at r
 refine fE o.acc (fun e=>?_) fun i e=>?_ <;> (have r:=r.2;rw[e] at r)
 ·exact .inl r.1
 ·exact .inr (fs1 r fun vs n m _ _ h _=>uM h fun z es ep hz hd _=>⟨z,es,ep,hz,hd⟩)
theorem Step.write(R:Rel G σ ρ s){k:Nat}{p:Addr×Addr}{o o':AO}{h':Heap}{t:Nat}(hp:ρ.st[k]?=some p)(ho:σ[k]?=some o)
  (hsb:Heap.ExtBut p.1 s.heap h')
  (hro:KeepV s.heap ρ h' ρ->RO G h' ρ p o') :
  Step G ρ s ρ { s with heap:=h',toks:=t } (σ.set k o'):=by
 refine byQ fun Q kQ=>?_
 have hmem:p∈ρ.st:=List.mem_of_getElem? hp
 have K:KeepV s.heap ρ h' ρ:=⟨⟨[],(List.append_nil _).symm,fun _ h=>nomatch h⟩,fun _ h=>.inl h,fun b x e hoff _=>hsb b x (hoff.1 p hmem).1.symm e⟩
 have hk:k<σ.length:=(List.getElem?_eq_some_iff.mp ho).1
 refine jg1 (c31 (R.obj k p o hp ho)) fun cls d vs n sl hseq=>?_
 have notp:∀ {b x},s.heap.get? b=some x->(∀ us m,x.data≠.seq us m)->b≠p.1:=fun e hd q=>hd vs n (siX ((q▸e).symm.trans hseq)▸rfl)
 refine kQ ?_
 refine⟨⟨by rw[List.length_set];exact R.len,R.inj,fun j q x hq hx=>(Decidable.em (j=k)).elim (fun hj=>?_) fun hj=>?_,R.fresh,fun b x hl e=>hsb b x (fun e'=>nso ((R.fresh p hmem).1.symm.trans (e'▸e))) (R.keep b x hl e),fun b hb=>aI (R.lse b hb) fun vs e etr=>⟨vs,hsb b _ (notp e nofun) e,etr⟩,
  d7 R.same fun h tk gs e=>dP1 h' t gs (by rw[e]),R.bare,fun b hb=>(Decidable.em (b=p.1)).elim (fun q=>q▸(hro K).alive.1) fun q=>fE (s.heap.get? b) (fun e=>absurd e (R.hidden b hb)) fun x e e'=>son ((hsb b x q e).symm.trans e')⟩,
  ⟨[],by simp,fun _ h=>nomatch h⟩,fun b x e hoff _ _=>hsb b x (hoff p hmem).1.symm e,fun _ h=>nomatch h⟩
 ·subst hj
  rw[List.getElem?_set_self hk] at hx
  exact siX hx▸siX (hp.symm.trans hq)▸hro K
 ·rw[List.getElem?_set_ne (Ne.symm hj)] at hx
  have r:=R.obj j q x hq hx
  have hne:q.1≠p.1:=fun e=>hj (R.inj j k q p hq hp e)
  exact r.mono K (fun y e=>hsb _ y hne e) fun y e=>hsb _ y (fun h2=>Or.elim (c21 r) (fun q'=>hne (q'.symm.trans h2)) fun h=>rL h fun z es ep hz hd=>notp hz (fun us m q=>nomatch hd.symm.trans q) h2) e
theorem Step.add(R:Rel G σ ρ s)(hk:∀ b o,s.heap.get? b=some o->s'.heap.get? b=some o)(hs:∃ h tk,s'={ s with heap:=h,toks:=tk })
  {p:Addr×Addr} {o:AO} (hn1:s.heap.get? p.1=none) (hn2:s.heap.get? p.2=none)
  (hro:KeepV s.heap ρ s'.heap ⟨ρ.st++[p],ρ.hid⟩->RO G s'.heap ⟨ρ.st++[p],ρ.hid⟩ p o):Step G ρ s ⟨ρ.st++[p],ρ.hid⟩ s' (σ++[o]):=by
 have ext:∃ new,(⟨ρ.st++[p],ρ.hid⟩:Rho)=⟨ρ.st++new,ρ.hid⟩/\∀ q∈new,s.heap.get? q.1=none/\s.heap.get? q.2=none :=
  ⟨[p],rfl,fun q hq=>by rw[List.mem_singleton.mp hq];exact⟨hn1,hn2⟩⟩
 have K:KeepV s.heap ρ s'.heap ⟨ρ.st++[p],ρ.hid⟩:=⟨⟨[p],rfl,fun q hq=>by rw[List.mem_singleton.mp hq];exact⟨hn1,hn2⟩⟩,fun _ h=>.inl h,fun b o e _ _=>hk b o e⟩
 have base:∀ b,s.heap.get? b=none->G.s₀.heap.get? b=none:=by
  intro b hb
  cases e:G.s₀.heap.get? b with
  | none=>rfl
  | some x =>
   by_cases hl:b∈G.loose
   ·refine aI (R.lse _ hl) fun vs e' etr=>?_
    rw[hb] at e';exact nso e'
   ·rw[R.keep _ _ hl e] at hb;exact son hb
 have S:=Step.grow R hk hs
 refine⟨⟨?_,fun i j a b ha hb hab=>?_,fun k q x hq hx=>?_,fun q hq=>?_,S.rel.keep,S.rel.lse,S.rel.same,S.rel.bare,S.rel.hidden⟩,ext,fun b o e _ _ _=>hk b o e,fun _ h=>nomatch h⟩
 ·show (ρ.st++[p]).length=_
  rw[List.length_append,List.length_append,R.len];rfl
 ·have old:∀ (i:Nat) (a:Addr×Addr),(ρ.st++[p])[i]?=some a->(ρ.st[i]?=some a/\s.heap.get? a.1≠none)\/(i=ρ.st.length/\a=p):=by
   intro i a ha
   by_cases hi:i<ρ.st.length
   ·replace ha:=(List.getElem?_append_left hi)▸ha
    refine .inl ⟨ha,?_⟩
    obtain ⟨x,hx⟩:∃ x,σ[i]?=some x:=⟨σ[i]'(R.len▸hi),List.getElem?_eq_getElem _⟩
    exact(R.obj i a x ha hx).alive.1
   ·replace ha:=(List.getElem?_append_right (Nat.le_of_not_lt hi))▸ha
    have:i - ρ.st.length=0:=by
     have:=(List.getElem?_eq_some_iff.mp ha).1
     simpa using this
    rw[this] at ha
    simp at ha
    exact .inr ⟨by omega,ha.symm⟩
  rcases old i a ha with ⟨h1,n1⟩ | ⟨h1,e1⟩ <;> rcases old j b hb with ⟨h2,n2⟩ | ⟨h2,e2⟩
  ·exact R.inj i j a b h1 h2 hab
  ·exact absurd (by rw[hab,e2];exact hn1) n1
  ·exact absurd (by rw[← hab,e1];exact hn1) n2
  ·rw[h1,h2]
 ·replace hq:(ρ.st++[p])[k]?=some q:=hq
  by_cases hi:k<ρ.st.length
  ·replace hq:=(List.getElem?_append_left hi)▸hq
   rw[List.getElem?_append_left (R.len▸hi)] at hx
   exact(R.obj k q x hq hx).mono K (hk _) (hk _)
  ·have hi':=Nat.le_of_not_lt hi
   replace hq:=(List.getElem?_append_right hi')▸hq
   rw[List.getElem?_append_right (R.len▸hi')] at hx
   have:k - ρ.st.length=0:=by
    have:=(List.getElem?_eq_some_iff.mp hq).1
    simpa using this
   rw[this] at hq
   rw[← R.len,this] at hx
   simp at hq hx
   subst hq hx
   exact hro K
 ·rcases List.mem_append.mp hq with hq | hq
  ·exact R.fresh q hq
  ·rw[List.mem_singleton.mp hq];exact⟨base _ hn1,base _ hn2⟩
theorem kH{D:Addr}{W:List Addr}{h':Heap}{t:Nat}(R:Rel G σ ρ s)(hW:D∈W)(hoff:rn ρ D)(hbase:G.s₀.heap.get? D=none)(hloose:D ∉ G.loose)(hk:∀ o,s.heap.get? D=some o->Off ρ D->¬ Solid o)(hs:Heap.ExtBut D s.heap h')(hal:h'.get? D≠none) :
  StepW G W ρ s ρ { s with heap:=h',toks:=t } σ/\KeepV s.heap ρ h' ρ :=
 have K:KeepV s.heap ρ h' ρ:=⟨⟨[],(List.append_nil _).symm,fun _ h=>nomatch h⟩,fun _ h=>.inl h,fun b o e hb hsol=>hs b o (fun q=>hk o (q▸e) (q▸hb) hsol) e⟩
 have al:∀ b,s.heap.get? b≠none->h'.get? b≠none:=fun b hne=>(Decidable.em (b=D)).elim (fun q=>q▸hal) fun q=>fE (s.heap.get? b) (fun e=>absurd e hne) fun x e e'=>son ((hs b x q e).symm.trans e')
 ⟨⟨⟨R.len,R.inj,fun j p o hp hx'=>have hp':=hoff p (List.mem_of_getElem? hp)
   (R.obj j p o hp hx').mono K (fun y e=>hs _ y hp'.1 e) fun y e=>hs _ y hp'.2 e,
  R.fresh,fun b o hl e=>hs b o (fun q=>nso (hbase.symm.trans (q▸e))) (R.keep b o hl e),fun b hb=>aI (R.lse b hb) fun vs e etr=>⟨vs,hs b _ (fun q=>hloose (q▸hb)) e,etr⟩,
  d7 R.same fun h tk gs e=>dP1 h' t gs (by rw[e]),R.bare,fun b hb=>al b (R.hidden b hb)⟩,⟨[],by simp,fun _ h=>nomatch h⟩,fun b o e _ hw _=>hs b o (fun q=>hw (q▸hW)) e,fun b hb hne=>al b hne⟩,K⟩
end
set_option genInjectivity false in
set_option genSizeOf false in
structure Var where
 name:Str
 slot:Nat
 own:Bool
deriving DecidableEq
set_option genInjectivity false in
set_option genSizeOf false in
structure Cx where
 vars:List Var
 scope:Scope
noncomputable abbrev ab:=List (Option V)
noncomputable def Cx.kind(C:Cx)(x:Str):Option NameKind:=C.scope.names.lookup x
noncomputable def Cx.ok(C:Cx):Bool :=
 (match C.scope.kind with | .function=>true | _=>false)&&C.vars.all fun x=>(match C.kind x.name with | some .local=>true | some .cell=>true | _=>false)&&!(x.name==("__debug__":Str)) &&
  C.vars.all fun y=>(x.name==y.name)==(x.slot==y.slot)
theorem Cx.ok_parts{C:Cx}(h:C.ok=true):C.scope.kind=.function/\∀ x∈C.vars,(C.kind x.name=some .local\/C.kind x.name=some .cell)/\(x.name==("__debug__":Str))=false /\
  ∀ y∈C.vars,(x.name=y.name↔x.slot=y.slot):=by
 unfold Cx.ok at h
 refine gu (Bool.and_eq_true_iff.mp h) fun h1 h2=>?_
 refine⟨by revert h1;cases C.scope.kind <;> simp,fun x hx=>?_⟩
 have:=List.all_eq_true.mp h2 x hx
 refine gu (Bool.and_eq_true_iff.mp this) fun h3 h4=>?_
 have h_p:=Bool.and_eq_true_iff.mp h3;have h5:=h_p.1;have h6:=h_p.2
 refine⟨?_,by simpa using h6,fun y hy=>?_⟩
 ·revert h5;cases C.kind x.name with
  | none=>simp
  | some k=>cases k <;> simp
 ·have:=List.all_eq_true.mp h4 y hy
  rw[beq_iff_eq] at this
  constructor
  ·intro e;rw[e,beq_self_eq_true] at this;exact beq_iff_eq.mp this.symm
  ·intro e;rw[e,beq_self_eq_true] at this;exact beq_iff_eq.mp this
structure RE (G:Wd) (C:Cx) (env:Env) (W:List Addr) (η:ab) (ρ:Rho) (s:Shared):Prop where
 ok:C.ok=true
 sc:env.scope=C.scope
 glob:env.globals=mainGlobals
 blt:env.builtins=builtinsNs
 lmem:env.locals∈W
 wok:∀ b∈W,Off ρ b/\G.s₀.heap.get? b=none/\b ∉ G.loose
 wk:WOk W s.heap
 loc:∃ m,s.heap.Ns env.locals m/\∀ x∈C.vars,C.kind x.name=some .local->∀ v,η[x.slot]?=some (some v)->∃ cv,m x.name=some cv/\RV s.heap ρ v cv
 cel:∀ x∈C.vars,C.kind x.name=some .cell->∃ c ov,env.cells.lookup x.name=some c/\s.heap.IsCell c ov/\(x.own=true->c∈W)/\Off ρ c /\
  ∀ v,η[x.slot]?=some (some v)->∃ cv,ov=some cv/\RV s.heap ρ v cv
 apart:∀ x∈C.vars,∀ y∈C.vars,C.kind x.name=some .cell->C.kind y.name=some .cell->∀ c,env.cells.lookup x.name=some c->env.cells.lookup y.name=some c->x.name=y.name
theorem cM{G:Wd}{σ:List AO}{ρ:Rho}{s:Shared}(R:Rel G σ ρ s){a:Addr}{o:Obj}{c}(h:s.heap.get? a=some o)(hd:o.data=.cell c):a ∉ G.loose:=by
 intro hb
 refine aI (R.lse a hb) fun vs e etr=>?_
 rw[h] at e;obtain rfl:=siX e;cases hd
theorem bL{h:Heap}{b:Addr}(hb:h.objs.size<=b):h.get? b=none:=fE (h.get? b) id fun o e=>absurd (Heap.lt_size e) (Nat.not_lt.mpr hb)
theorem cI{G:Wd}{σ:List AO}{ρ:Rho}{s:Shared}(R:Rel G σ ρ s){b:Addr}(hn:s.heap.get? b=none):Off ρ b/\G.s₀.heap.get? b=none/\b ∉ G.loose :=
 have hl:b ∉ G.loose:=fun h=>aI (R.lse b h) fun vs e _=>son (e.symm.trans hn)
 ⟨⟨Classical.byContradiction fun h=>R.alive h hn,fun h=>R.hidden b h hn⟩,fE (G.s₀.heap.get? b) id fun o e=>son ((R.keep b o hl e).symm.trans hn),hl⟩
theorem RE.mono{G:Wd}{C:Cx}{env:Env}{W:List Addr}{η:ab}{σ σ':List AO}{ρ ρ':Rho}{s s':Shared}(E:RE G C env W η ρ s)(R:Rel G σ ρ s)(S:Step G ρ s ρ' s' σ'):RE G C env W η ρ' s':=by
 have K:=Step.keepV R S
 have keepW:∀ b∈W,∀ o,s.heap.get? b=some o->s'.heap.get? b=some o:=by
  intro b hb o e
  refine byQ fun Q kQ=>?_
  refine aI (E.wk b hb) fun o' e' hd=>?_
  rw[e] at e';obtain rfl:=siX e'
  refine kQ ?_
  exact S.keep b o e (E.wok b hb).1.1 (fun h=>nomatch h) (E.wok b hb).2.2
 refine⟨E.ok,E.sc,E.glob,E.blt,E.lmem,fun b hb=>⟨?_,(E.wok b hb).2⟩,fun b hb=>?_,?_,fun x hx hk=>?_,E.apart⟩
 ·refine aI (E.wk b hb) fun o' e' hd=>?_
  exact K.off (by rw[e'];exact nofun) (E.wok b hb).1
 ·refine aI (E.wk b hb) fun o' e' hd=>?_
  exact⟨o',keepW b hb _ e',hd⟩
 ·refine byQ fun Q kQ=>?_
  refine aI (E.loc) fun m h_1 h=>?_;refine rL (h_1) fun o es ep ho r=>?_
  refine kQ ?_
  refine⟨m,⟨o,es,ep,keepW _ E.lmem _ ho,r⟩,fun x hx hk v hv=>?_⟩
  refine a9 (h x hx hk v hv) fun cv h_p=>?_;have h1:=h_p.1;have h2:=h_p.2
  exact⟨cv,h1,RV.mono K _ _ h2⟩
 ·refine byQ fun Q kQ=>?_
  refine at1 (E.cel x hx hk) fun c ov h1 h_3 h3 h4 h5=>?_;refine aI (h_3) fun o ho hd=>?_
  refine kQ ?_
  refine yZ c ov h1 ⟨o,S.keep c o ho h4.1 (fun h=>nomatch h) (cM R ho hd),hd⟩ h3 (K.off (by rw[ho];exact nofun) h4) (fun v hv=>?_)
  refine a9 (h5 v hv) fun cv h_p=>?_;have e1:=h_p.1;have e2:=h_p.2
  exact⟨cv,e1,RV.mono K _ _ e2⟩
section
variable {G:Wd} {A:Around} {C:Cx} {env:Env} {W:List Addr} {η:ab} {σ σ' σ₁ σ₂ aj:List AO} {ρ ρ':Rho} {s s':Shared}
noncomputable abbrev No:Value->Shared->Prop:=fun _ _=>False
inductive PE (G:Wd) (ρ:Rho) (s:Shared) (σ':List AO) (v:V) (cv:Value) (s':Shared):Prop
 | mk (ρ':Rho) (S:Step G ρ s ρ' s' σ') (r:RV s'.heap ρ' v cv)
inductive PT (G:Wd) (ρ:Rho) (s:Shared) (σ':List AO) (b t:Bool) (s':Shared):Prop
 | mk (h:t=b) (ρ':Rho) (S:Step G ρ s ρ' s' σ')
inductive PEs (G:Wd) (ρ:Rho) (s:Shared) (σ':List AO) (vs:List V) (cvs:List Value) (s':Shared):Prop
 | mk (ρ':Rho) (S:Step G ρ s ρ' s' σ') (r:RVs s'.heap ρ' vs cvs)
noncomputable def Ev(G:Wd)(A:Around)(C:Cx)(env:Env)(W:List Addr)(e:Expr)(σ:List AO)(η:ab)(v:V)(σ':List AO):Prop :=
 ∀ ρ s,Rel G σ ρ s->RE G C env W η ρ s->0<s.toks->wpAny (model G.prog G.w) A (eval e env) (PE G ρ s σ' v) No s
noncomputable def Et(G:Wd)(A:Around)(C:Cx)(env:Env)(W:List Addr)(e:Expr)(σ:List AO)(η:ab)(b:Bool)(σ':List AO):Prop :=
 ∀ ρ s,Rel G σ ρ s->RE G C env W η ρ s->0<s.toks->wpAny (model G.prog G.w) A (isTrue e env (eval e env)) (PT G ρ s σ' b) No s
noncomputable def Evs(G:Wd)(A:Around)(C:Cx)(env:Env)(W:List Addr)(es:List Expr)(σ:List AO)(η:ab)(vs:List V)(σ':List AO):Prop :=
 ∀ ρ s,Rel G σ ρ s->RE G C env W η ρ s->0<s.toks->∀ pos:Pos,wpAny (model G.prog G.w) A (spliced (backTo pos (starEach es env))) (PEs G ρ s σ' vs) No s
noncomputable def On(G:Wd)(A:Around)(f:List Value->Sem Value)(σ:List AO)(vs:List V)(v:V)(σ':List AO):Prop :=
 ∀ ρ s cvs,Rel G σ ρ s->RVs s.heap ρ vs cvs->0<s.toks->wpAny (model G.prog G.w) A (f cvs) (PE G ρ s σ' v) No s
theorem eI{α:Type}{M:Model}{t:Sem α}{P Q:α->Shared->Prop}{E:Value->Shared->Prop}(h:wpAny M A t P No s)(k:∀ a s',s.toks<=s'.toks->P a s'->Q a s'):wpAny M A t Q E s :=
 wpAny_with_toks (Nat.le_refl _) (wpAny_mono h (fun a s' p ht=>k a s' ht p) fun _ _ f=>f.elim)
theorem Ev.use{e:Expr}{v:V}{Q:Value->Shared->Prop}{E:Value->Shared->Prop}(H:Ev G A C env W e σ η v σ')(R:Rel G σ ρ s)(N:RE G C env W η ρ s)(ht:0<s.toks)
  (k:∀ cv s' ρ',Step G ρ s ρ' s' σ'->RE G C env W η ρ' s'->0<s'.toks->RV s'.heap ρ' v cv->Q cv s'):wpAny (model G.prog G.w) A (eval e env) Q E s :=
 eI (H ρ s R N ht) (by rintro cv s' hle ⟨ρ',S,r⟩;exact k cv s' ρ' S (N.mono R S) (Nat.lt_of_lt_of_le ht hle) r)
theorem Et.use{e:Expr}{b:Bool}{Q:Bool->Shared->Prop}{E:Value->Shared->Prop}(H:Et G A C env W e σ η b σ')(R:Rel G σ ρ s)(N:RE G C env W η ρ s)(ht:0<s.toks)
  (k:∀ s' ρ',Step G ρ s ρ' s' σ'->RE G C env W η ρ' s'->0<s'.toks->Q b s'):wpAny (model G.prog G.w) A (isTrue e env (eval e env)) Q E s :=
 eI (H ρ s R N ht) (by rintro t s' hle ⟨hb,ρ',S⟩;exact hb▸k s' ρ' S (N.mono R S) (Nat.lt_of_lt_of_le ht hle))
theorem Evs.use{es:List Expr}{vs:List V}{Q:List Value->Shared->Prop}{E:Value->Shared->Prop}(H:Evs G A C env W es σ η vs σ')(R:Rel G σ ρ s)(N:RE G C env W η ρ s)(ht:0<s.toks)(pos:Pos)
  (k:∀ cvs s' ρ',Step G ρ s ρ' s' σ'->RE G C env W η ρ' s'->0<s'.toks->RVs s'.heap ρ' vs cvs->Q cvs s'):wpAny (model G.prog G.w) A (spliced (backTo pos (starEach es env))) Q E s :=
 eI (H ρ s R N ht pos) (by rintro cv s' hle ⟨ρ',S,r⟩;exact k cv s' ρ' S (N.mono R S) (Nat.lt_of_lt_of_le ht hle) r)
theorem On.use{f:List Value->Sem Value}{vs:List V}{v:V}{cvs:List Value}{Q:Value->Shared->Prop}{E:Value->Shared->Prop}(H:On G A f σ vs v σ')(R:Rel G σ ρ s)(r:RVs s.heap ρ vs cvs)(ht:0<s.toks)
  (k:∀ cv s' ρ',Step G ρ s ρ' s' σ'->0<s'.toks->RV s'.heap ρ' v cv->Q cv s'):wpAny (model G.prog G.w) A (f cvs) Q E s :=
 eI (H ρ s cvs R r ht) (by rintro cv s' hle ⟨ρ',S,r⟩;exact k cv s' ρ' S (Nat.lt_of_lt_of_le ht hle) r)
theorem RE.load(R:Rel G σ ρ s)(N:RE G C env W η ρ s){x:Var}{v:V}(hx:x∈C.vars)(hv:η[x.slot]?=some (some v)){Q:Value->Shared->Prop}{E:Value->Shared->Prop}
  (k:∀ cv,RV s.heap ρ v cv->Q cv s):wpAny (model G.prog G.w) A (loadName env x.name) Q E s:=by
 refine gu (Cx.ok_parts N.ok) fun hf hvars=>?_
 have hk:env.scope.kind=.function:=by rw[N.sc];exact hf
 rcases (hvars x hx).1 with h | h
 ·refine byQ fun Q kQ=>?_
  refine aI (N.loc) fun m hn hm=>?_
  refine aI (hm x hx h v hv) fun cv h1 h2=>?_
  refine kQ ?_
  exact wpAny_loadName_local hk (by unfold Env.kindOf;rw[N.sc];exact h) hn h1 (k cv h2)
 ·refine byQ fun Q kQ=>?_
  refine cH (N.cel x hx h) fun c ov h_p=>?_;have h1:=h_p.1;have h2:=h_p.2.1;have h5:=h_p.2.2.2.2
  refine a9 (h5 v hv) fun cv h_p=>?_;obtain rfl:=h_p.1;have h6:=h_p.2
  refine kQ ?_
  exact wpAny_loadName_cell hk (by unfold Env.kindOf;rw[N.sc];exact h) h1 h2 (k cv h6)
theorem RE.put(R:Rel G σ ρ s)(N:RE G C env W η ρ s){a:Addr}{h':Heap}{t:Nat}(ha:a∈W)(hs:Heap.SameBut a s.heap h')(hnew:∃ o,h'.get? a=some o/\¬ Solid o):StepW G W ρ s ρ { s with heap:=h',toks:=t } σ/\KeepV s.heap ρ h' ρ/\WOk W h' :=
 have q:=kH (t:=t) R ha (N.wok a ha).1.1 (N.wok a ha).2.1 (N.wok a ha).2.2 (fun o e _=>aI (N.wk a ha) fun oa h1 h2=>siX (h1.symm.trans e)▸h2) hs.extBut (aI hnew fun o e _ e'=>son (e.symm.trans e'))
 ⟨q.1,q.2,fun b hb=>(Decidable.em (b=a)).elim (fun q=>q▸hnew) fun q=>(hs.2 b q)▸N.wk b hb⟩
theorem qP{x y:Str}{a b:NameKind}(h1:C.kind y=some a)(h2:C.kind x=some b)(hab:a≠b):y≠x:=fun e=>hab (siX ((e▸h1).symm.trans h2))
theorem ui{i:Nat}{u v:V}(h:(η.set i (some v))[i]?=some (some u)):u=v:=by
 rw[List.getElem?_set_self'] at h
 exact aI (Option.map_eq_some_iff.mp h) fun _ _ e=>(siX e).symm
theorem kN{x y:Var}{u v:V}(hxy:x.name=y.name↔x.slot=y.slot)(ne:y.name≠x.name)(h:(η.set x.slot (some v))[y.slot]?=some (some u)):η[y.slot]?=some (some u) :=
 (List.getElem?_set_ne fun e=>ne (hxy.mpr e).symm).symm.trans h
theorem mV{m:Str->Option Value}{c:Addr}{ov:Option Value}{L:Addr}{h:Heap}(hn:h.Ns L m)(hc:h.IsCell c ov):c≠L:=fun e=>aI hc fun o ho hd=>uM hn fun o' es ep ho' hd' _ =>
 nomatch hd.symm.trans ((congrArg Obj.data (siX (ho.symm.trans (e.symm▸ho')))).trans hd')
theorem RE.storeL(R:Rel G σ ρ s)(N:RE G C env W η ρ s){x:Var}{v:V}{cv:Value}(hx:x∈C.vars)(h:C.kind x.name=some .local)(hr:RV s.heap ρ v cv){Q:Unit->Shared->Prop}{E:Value->Shared->Prop}
  (k:∀ s',StepW G W ρ s ρ s' σ->RE G C env W (η.set x.slot (some v)) ρ s'->Q () s'):wpAny (model G.prog G.w) A (storeName env x.name cv) Q E s:=by
 refine gu (Cx.ok_parts N.ok) fun hf hvars=>aI N.loc fun m hn hm=>?_
 refine wpAny_storeName_local (by unfold Env.kindOf;rw[N.sc];exact h) hn (fun h' hn' hs=>?_) (by rw[N.sc,hf];rfl)
 refine dF1 (N.put (t:=s.toks+1) R N.lmem hs (uM hn' fun o es ep ho hd _=>⟨o,ho,Solid.no_dict hd⟩)) fun S K hwk=>?_
 refine k _ S ⟨N.ok,N.sc,N.glob,N.blt,N.lmem,N.wok,hwk,⟨_,hn',fun y hy hyk u hu=>(Decidable.em (y.name=x.name)).elim (fun e=>?_) fun e=>?_⟩,fun y hy hyk=>at1 (N.cel y hy hyk) fun c ov h1 h2 h3 h4 h5=>?_,N.apart⟩
 ·have hs:=((hvars x hx).2.2 y hy).mp e.symm
  have hu':=ui (i:=y.slot) (v:=v) (hs▸hu)
  rw[hu',if_pos e]
  exact⟨cv,rfl,RV.mono K _ _ hr⟩
 ·refine(if_neg e)▸?_
  exact aI (hm y hy hyk u (kN ((hvars x hx).2.2 y hy) e hu)) fun cv' h1 h2=>⟨cv',h1,RV.mono K _ _ h2⟩
 ·exact yZ c ov h1 (h2.sameBut hs (mV hn h2)) h3 h4 fun u hu=>aI (h5 u (kN ((hvars x hx).2.2 y hy) (qP hyk h nofun) hu)) fun cv' e1 e2=>⟨cv',e1,RV.mono K _ _ e2⟩
theorem RE.storeC(R:Rel G σ ρ s)(N:RE G C env W η ρ s){x:Var}{v:V}{cv:Value}(hx:x∈C.vars)(ho:x.own=true)(h:C.kind x.name=some .cell)(hr:RV s.heap ρ v cv){Q:Unit->Shared->Prop}{E:Value->Shared->Prop}
  (k:∀ s',StepW G W ρ s ρ s' σ->RE G C env W (η.set x.slot (some v)) ρ s'->Q () s'):wpAny (model G.prog G.w) A (storeName env x.name cv) Q E s:=by
 refine gu (Cx.ok_parts N.ok) fun hf hvars=>aI N.loc fun m hn hm=>at1 (N.cel x hx h) fun c ov h1 h2 h3 h4 h5=>?_
 refine wpAny_storeName_cell (by rw[N.sc];exact hf) (by unfold Env.kindOf;rw[N.sc];exact h) h1 h2 fun h' hc' hs=>?_
 refine dF1 (N.put (t:=s.toks) R (h3 ho) hs (aI hc' fun o ho hd=>⟨o,ho,Solid.no_cell hd⟩)) fun S K hwk=>?_
 refine k _ S ⟨N.ok,N.sc,N.glob,N.blt,N.lmem,N.wok,hwk,⟨m,hn.sameBut hs (mV hn h2).symm,fun y hy hyk u hu=>?_⟩,fun y hy hyk=>(Decidable.em (y.name=x.name)).elim (fun e=>?_) fun e=>at1 (N.cel y hy hyk) fun c' ov' g1 g2 g3 g4 g5=>?_,N.apart⟩
 ·exact aI (hm y hy hyk u (kN ((hvars x hx).2.2 y hy) (qP hyk h nofun) hu)) fun cv' e1 e2=>⟨cv',e1,RV.mono K _ _ e2⟩
 ·refine yZ c (some cv) (e▸h1) hc' (fun _=>h3 ho) h4 fun u hu=>⟨cv,rfl,?_⟩
  have hs:=((hvars x hx).2.2 y hy).mp e.symm
  have hu':u=v:=ui (i:=y.slot) (hs▸hu)
  rw[hu']
  exact RV.mono K _ _ hr
 ·exact yZ c' ov' g1 (g2.sameBut hs fun q=>e (N.apart y hy x hx hyk h c (q▸g1) h1)) g3 g4 fun u hu=>aI (g5 u (kN ((hvars x hx).2.2 y hy) e hu)) fun cv' e1 e2=>⟨cv',e1,RV.mono K _ _ e2⟩
theorem RE.store(R:Rel G σ ρ s)(N:RE G C env W η ρ s){x:Var}{v:V}{cv:Value}(hx:x∈C.vars)(ho:x.own=true)(hr:RV s.heap ρ v cv){Q:Unit->Shared->Prop}{E:Value->Shared->Prop}
  (k:∀ s',StepW G W ρ s ρ s' σ->RE G C env W (η.set x.slot (some v)) ρ s'->Q () s'):wpAny (model G.prog G.w) A (storeName env x.name cv) Q E s :=
 Or.elim ((Cx.ok_parts N.ok).2 x hx).1 (fun h=>N.storeL R hx h hr k) fun h=>N.storeC R hx ho h hr k
theorem RV.none_{h:Heap}{ρ:Rho}:RV h ρ .none .none:=by delta RV;rfl
theorem RV.bool_{h:Heap}{ρ:Rho}{b:Bool}:RV h ρ (.bool b) (.bool b):=by delta RV;rfl
theorem RV.int_{h:Heap}{ρ:Rho}{i:Int}{t:Tok}:RV h ρ (.int i) (.int i t):=by delta RV;exact⟨t,rfl⟩
theorem RV.str_{h:Heap}{ρ:Rho}{l:List Nat}{t:Tok}(hl:l.length<=lim):RV h ρ (.str l) (.str ⟨l.toArray⟩ t):=by delta RV;exact⟨hl,t,rfl⟩
theorem RV.str'{h:Heap}{ρ:Rho}{l:List Nat}{x:Str}{t:Tok}(hl:l.length<=lim)(e:x.cps.toList=l):RV h ρ (.str l) (.str x t):=by
 delta RV;refine⟨hl,t,?_⟩;rw[← e]
theorem RV.bool_iff{h:Heap}{ρ:Rho}{b:Bool}{v:Value}(r:RV h ρ (.bool b) v):v=.bool b:=by delta RV at r;exact r
theorem RV.none_iff{h:Heap}{ρ:Rho}{v:Value}(r:RV h ρ .none v):v=.none:=by delta RV at r;exact r
theorem RV.int_iff{h:Heap}{ρ:Rho}{i:Int}{v:Value}(r:RV h ρ (.int i) v):∃ t,v=.int i t:=by delta RV at r;exact r
theorem RV.str_iff{h:Heap}{ρ:Rho}{l:List Nat}{v:Value}(r:RV h ρ (.str l) v):l.length<=lim/\∃ t,v=.str ⟨l.toArray⟩ t:=by delta RV at r;exact r
theorem RV.tup_iff{h:Heap}{ρ:Rho}{l:List V}{v:Value}(r:RV h ρ (.tup l) v):l.length<=lim/\∃ a vs,v=.ref a/\Off ρ a/\PlainTuple h a vs/\RVs h ρ l vs.toList:=by dsimp only[RV] at r;exact r
theorem RV.lst_iff{h:Heap}{ρ:Rho}{l:List V}{v:Value}(r:RV h ρ (.lst l) v):l.length<=lim/\∃ a vs,v=.ref a/\Off ρ a/\h.PlainList a vs/\RVs h ρ l vs.toList:=by dsimp only[RV] at r;exact r
theorem RV.raw_iff{h:Heap}{ρ:Rho}{l:List V}{v:Value}(r:RV h ρ (.raw l) v):l.length<=lim/\∃ a vs,v=.ref a/\Off ρ a/\h.IsList a vs/\RVs h ρ l vs.toList:=by dsimp only[RV] at r;exact r
theorem RV.rng_iff{h:Heap}{ρ:Rho}{a b c:Int}{v:Value}(r:RV h ρ (.rng a b c) v):e9 a b c=true/\∃ r t u w,v=.ref r/\Off ρ r/\IsRange h r a b c t u w:=by delta RV at r;exact r
theorem RV.ref_iff{h:Heap}{ρ:Rho}{k:Nat}{v:Value}(r:RV h ρ (.ref k) v):∃ p,ρ.st[k]?=some p/\v=.ref p.1:=by delta RV at r;exact r
theorem sg(R:Rel G σ ρ s):rn ρ s.heap.objs.size:=by
 intro p hp
 have al:∀ b,s.heap.get? b≠none->b≠s.heap.objs.size:=by
  intro b hb e
  refine fE (s.heap.get? b) (fun q=>?_) (fun o q=>?_)
  ·exact hb q
  ·exact absurd (Heap.lt_size q) (by exact(e)▸(Nat.lt_irrefl _))
 obtain ⟨k,hk,rfl⟩:=List.mem_iff_getElem.mp hp
 have hk':k<σ.length:=R.len▸hk
 have:=(R.obj k ρ.st[k] σ[k] (List.getElem?_eq_getElem hk) (List.getElem?_eq_getElem hk')).alive
 exact⟨al _ this.1,al _ this.2⟩
theorem aE(h:Heap):h.get? h.objs.size=none:=by
 cases q:h.get? h.objs.size with
 | none=>rfl
 | some o=>exact absurd (Heap.lt_size q) (Nat.lt_irrefl _)
theorem RVs.sameHeap{h h':Heap}{ρ:Rho}{l:List V}{vs:List Value}(hk:∀ b o,h.get? b=some o->h'.get? b=some o)(r:RVs h ρ l vs):RVs h' ρ l vs :=
 RVs.mono ⟨⟨[],(List.append_nil _).symm,fun _ h=>nomatch h⟩,fun _ h=>.inl h,fun b o e _ _=>hk b o e⟩ _ _ r
theorem bM(R:Rel G σ ρ s):Off ρ s.heap.objs.size:=⟨sg R,fun h=>R.hidden _ h (aE _)⟩
theorem rQ{vs:List Value}{l:List V}(R:Rel G σ ρ s)(r:RVs s.heap ρ l vs)(hl:l.length<=lim){Q:Value->Shared->Prop}{E:Value->Shared->Prop}{M:Model}
  (k:∀ cv s',PE G ρ s σ (.tup l) cv s'->Q cv s'):wpAny M A (newTuple vs) Q E s:=by
 have hlen:vs.length=l.length:=RVs.length r
 refine wpAny_newTuple (k _ _ ⟨ρ,Step.grow R (fun b o e=>Heap.get?_push_of_some _ e) ⟨_,_,rfl⟩,?_⟩) (by exact(hlen)▸(Nat.le_trans hl (by decide)))
 dsimp only[RV]
 exact⟨hl,_,_,rfl,bM R,⟨_,Heap.get?_push_size _ rfl⟩,RVs.sameHeap (fun b o e=>Heap.get?_push_of_some _ e) (by exact r)⟩
theorem uX{vs:List Value}{l:List V}(R:Rel G σ ρ s)(r:RVs s.heap ρ l vs)(hl:l.length<=lim){Q:Value->Shared->Prop}{E:Value->Shared->Prop}{M:Model}
  (k:∀ cv s',PE G ρ s σ (.lst l) cv s'->Q cv s'):wpAny M A (newList vs) Q E s:=by
 have hlen:vs.length=l.length:=RVs.length r
 refine wpAny_newList (k _ _ ⟨ρ,Step.grow R (fun b o e=>Heap.get?_push_of_some _ e) ⟨_,_,rfl⟩,?_⟩) (by exact(hlen)▸(Nat.le_trans hl (by decide)))
 dsimp only[RV]
 exact⟨hl,_,_,rfl,bM R,⟨_,Heap.get?_push_size _ rfl⟩,RVs.sameHeap (fun b o e=>Heap.get?_push_of_some _ e) (by exact r)⟩
theorem xD{vs:List Value}{l:List V}(R:Rel G σ ρ s)(r:RVs s.heap ρ l vs)(hl:l.length<=lim){Q:Value->Shared->Prop}{E:Value->Shared->Prop}{M:Model}
  (k:∀ cv s',PE G ρ s (σ++[⟨l,none⟩]) (.ref σ.length) cv s'->Q cv s'):wpAny M A (newList vs) Q E s:=by
 have hlen:vs.length=l.length:=RVs.length r
 refine wpAny_newList (k _ _ ⟨⟨ρ.st++[(s.heap.objs.size,s.heap.objs.size)],ρ.hid⟩,Step.add R (fun b o e=>Heap.get?_push_of_some _ e) ⟨_,_,rfl⟩ (aE _) (aE _) fun K=>?_,?_⟩) (by exact(hlen)▸(Nat.le_trans hl (by decide)))
 ·dsimp only[RO]
  exact⟨hl,rfl,_,⟨_,Heap.get?_push_size _ rfl⟩,RVs.mono K _ _ (by exact r)⟩
 ·delta RV
  exact⟨(s.heap.objs.size,s.heap.objs.size),by rw[← R.len];simp,rfl⟩
theorem Ev.none_{k pos}:Ev G A C env W (.Constant .none k pos) σ η .none σ:=fun ρ s R N ht=>Constant_none ⟨ρ,Step.refl R,RV.none_⟩
theorem Ev.bool_{b k pos}:Ev G A C env W (.Constant (.bool b) k pos) σ η (.bool b) σ:=fun ρ s R N ht=>Constant_bool ⟨ρ,Step.refl R,RV.bool_⟩
theorem Ev.int_{i k pos}:Ev G A C env W (.Constant (.int i) k pos) σ η (.int i) σ:=fun ρ s R N ht=>wpAny_Constant_int ⟨ρ,Step.toks R _,RV.int_⟩
theorem Ev.str_{x:Str}{k pos}(hl:x.cps.toList.length<=lim):Ev G A C env W (.Constant (.str x) k pos) σ η (.str x.cps.toList) σ:=fun ρ s R N ht=>Constant_str ⟨ρ,Step.toks R _,RV.str' hl rfl⟩
theorem Ev.loc{x:Var}{pos:Pos}{v:V}(hx:x∈C.vars)(hv:η[x.slot]?=some (some v)):Ev G A C env W (.Name x.name pos) σ η v σ:=fun ρ s R N ht =>
 wpAny_Name (RE.load R N hx hv fun cv r=>⟨ρ,Step.refl R,r⟩) ((Cx.ok_parts N.ok).2 x hx).2.1
theorem Ev.bin{l r:Expr}{op:Operator}{pos:Pos}{v₁ v₂ v:V}(dB:Ev G A C env W l σ η v₁ σ₁)(cP:Ev G A C env W r σ₁ η v₂ σ₂)
  (ho:On G A (fun | [a,b]=>binaryOp op a b | _=>pure .none) σ₂ [v₁,v₂] v aj):Ev G A C env W (.BinOp l op r pos) σ η v aj:=fun ρ s R N ht =>
 wpAny_BinOp (dB.use R N ht fun bz am aa ah aJ aK av=>cP.use ah.rel aJ aK fun b6 aA au aq ci cU aF =>
  ho.use aq.rel (RVs.cons (RV.mono (Step.keepV ah.rel aq) _ _ av) (RVs.cons aF RVs.nil)) cU fun cv dY bA bQ jK fD=>⟨bA,ah.trans (aq.trans bQ),fD⟩)
theorem Ev.cmp{l r:Expr}{op:CmpOp}{pos:Pos}{v₁ v₂ v:V}(hm:behindInMarks op r=false)(dB:Ev G A C env W l σ η v₁ σ₁)(cP:Ev G A C env W r σ₁ η v₂ σ₂)
  (ho:On G A (fun | [a,b]=>compareOp op a b | _=>pure .none) σ₂ [v₁,v₂] v aj):Ev G A C env W (.Compare l [op] [r] pos) σ η v aj:=fun ρ s R N ht =>
 wpAny_Compare1 (dB.use R N ht fun bz am aa ah aJ aK av=>cP.use ah.rel aJ aK fun b6 aA au aq ci cU aF =>
  ho.use aq.rel (RVs.cons (RV.mono (Step.keepV ah.rel aq) _ _ av) (RVs.cons aF RVs.nil)) cU fun cv dY bA bQ jK fD=>⟨bA,ah.trans (aq.trans bQ),fD⟩) hm
theorem Et.cmp{l r:Expr}{op:CmpOp}{pos:Pos}{v₁ v₂:V}{b:Bool}(hm:behindInMarks op r=false)(dB:Ev G A C env W l σ η v₁ σ₁)(cP:Ev G A C env W r σ₁ η v₂ σ₂)
  (ho:On G A (fun | [a,b]=>compareOp op a b | _=>pure .none) σ₂ [v₁,v₂] (.bool b) aj):Et G A C env W (.Compare l [op] [r] pos) σ η b aj:=fun ρ s R N ht =>
 wpAny_isTrue_Compare1 (dB.use R N ht fun bz am aa ah aJ aK av=>cP.use ah.rel aJ aK fun b6 aA au aq ci cU aF =>
  ho.use aq.rel (RVs.cons (RV.mono (Step.keepV ah.rel aq) _ _ av) (RVs.cons aF RVs.nil)) cU fun cv dY bA bQ jK fD=>by
   rw[RV.bool_iff fD];exact wpAny_truthy_bool ⟨rfl,bA,ah.trans (aq.trans bQ)⟩) hm
theorem Ev.chain{l av aF:Expr}{bS bO:CmpOp}{pos:Pos}{v₁ v₂ v₃ v:V}{b:Bool}{σ₄ bR:List AO}(hm:lastMarks [bS,bO] [av,aF]=false)(dB:Ev G A C env W l σ η v₁ σ₁)(cP:Ev G A C env W av σ₁ η v₂ σ₂)
  (ho:On G A (fun | [a,b]=>compareOp bS a b | _=>pure .none) σ₂ [v₁,v₂] (.bool b) aj)
  (gw:b=true->Ev G A C env W aF aj η v₃ σ₄) (a51:b=true->On G A (fun | [a,b]=>compareOp bO a b | _=>pure .none) σ₄ [v₂,v₃] v bR) (hf:b=false->v=.bool false/\bR=aj) :
  Ev G A C env W (.Compare l [bS,bO] [av,aF] pos) σ η v bR:=fun ρ s R N ht =>
 Compare_chain (dB.use R N ht fun bz am aa ah aJ aK av=>chain_link (cP.use ah.rel aJ aK fun b6 aA au aq ci cU aF =>
  ho.use aq.rel (RVs.cons (RV.mono (Step.keepV ah.rel aq) _ _ av) (RVs.cons aF RVs.nil)) cU fun cv dY bA bQ jK fD=>by
   refine(RV.bool_iff fD)▸?_
   refine wpAny_truthy_bool ?_
   cases b with
   | false =>
    obtain ⟨e1,e2⟩:=hf rfl
    rw[e1,e2]
    exact⟨bA,ah.trans (aq.trans bQ),RV.bool_⟩
   | true =>
    show wpAny _ _ (compareChain pos b6 [bO] [eval _ env]) _ _ _
    delta compareChain
    refine wpAny_bind (wpAny_holding ?_)
    refine(gw rfl).use bQ.rel (ci.mono aq.rel bQ) jK fun vQ kF gX jf l7 yE wZ=>?_
    refine wpAny_bind (wpAny_standAt (wpAny_operating ?_))
    exact(a51 rfl).use jf.rel (RVs.cons (RV.mono (Step.keepV bQ.rel jf) _ _ (RV.mono (Step.keepV aq.rel bQ) _ _ aF)) (RVs.cons wZ RVs.nil)) yE fun cv n8 eU eT wC wY =>
     ⟨eU,ah.trans (aq.trans (bQ.trans (jf.trans eT))),wY⟩)) hm
theorem Et.chain{l av aF:Expr}{bS bO:CmpOp}{pos:Pos}{v₁ v₂ v₃:V}{b d:Bool}{σ₄ bR:List AO}(hm:lastMarks [bS,bO] [av,aF]=false)(dB:Ev G A C env W l σ η v₁ σ₁)(cP:Ev G A C env W av σ₁ η v₂ σ₂)
  (ho:On G A (fun | [a,b]=>compareOp bS a b | _=>pure .none) σ₂ [v₁,v₂] (.bool b) aj)
  (gw:b=true->Ev G A C env W aF aj η v₃ σ₄) (a51:b=true->On G A (fun | [a,b]=>compareOp bO a b | _=>pure .none) σ₄ [v₂,v₃] (.bool d) bR) (hf:b=false->d=false/\bR=aj) :
  Et G A C env W (.Compare l [bS,bO] [av,aF] pos) σ η d bR:=fun ρ s R N ht =>
 isTrue_chain (dB.use R N ht fun bz am aa ah aJ aK av=>test_link (cP.use ah.rel aJ aK fun b6 aA au aq ci cU aF =>
  ho.use aq.rel (RVs.cons (RV.mono (Step.keepV ah.rel aq) _ _ av) (RVs.cons aF RVs.nil)) cU fun cv dY bA bQ jK fD=>by
   refine(RV.bool_iff fD)▸?_
   refine wpAny_truthy_bool ?_
   cases b with
   | false =>
    obtain ⟨e1,e2⟩:=hf rfl
    rw[e1,e2]
    exact⟨rfl,bA,ah.trans (aq.trans bQ)⟩
   | true =>
    refine test_last ?_
    refine(gw rfl).use bQ.rel (ci.mono aq.rel bQ) jK fun vQ kF gX jf l7 yE wZ=>?_
    exact(a51 rfl).use jf.rel (RVs.cons (RV.mono (Step.keepV bQ.rel jf) _ _ (RV.mono (Step.keepV aq.rel bQ) _ _ aF)) (RVs.cons wZ RVs.nil)) yE fun cv n8 eU eT wC wY=>by
     refine(RV.bool_iff wY)▸?_
     exact wpAny_truthy_bool ⟨rfl,eU,ah.trans (aq.trans (bQ.trans (jf.trans eT)))⟩)) hm
theorem Ev.ifexp{t b o:Expr}{pos:Pos}{c:Bool}{v:V}(h:Et G A C env W t σ η c σ₁)(hb:c=true->Ev G A C env W b σ₁ η v σ₂)(ho:c=false->Ev G A C env W o σ₁ η v σ₂) :
  Ev G A C env W (.IfExp t b o pos) σ η v σ₂:=fun ρ s R N ht =>
 IfExp_ (h.use R N ht fun am aa ah aJ aK=>by
  cases c with
  | true=>exact(hb rfl).use ah.rel aJ aK fun cv aA au aq _ _ aF=>⟨au,ah.trans aq,aF⟩
  | false=>exact(ho rfl).use ah.rel aJ aK fun cv aA au aq _ _ aF=>⟨au,ah.trans aq,aF⟩)
theorem Et.ifexp{t b o:Expr}{pos:Pos}{c d:Bool}(h:Et G A C env W t σ η c σ₁)(hb:c=true->Et G A C env W b σ₁ η d σ₂)(ho:c=false->Et G A C env W o σ₁ η d σ₂) :
  Et G A C env W (.IfExp t b o pos) σ η d σ₂:=fun ρ s R N ht =>
 isTrue_IfExp (h.use R N ht fun am aa ah aJ aK=>by
  cases c with
  | true=>exact(hb rfl).use ah.rel aJ aK fun aA au aq _ _=>⟨rfl,au,ah.trans aq⟩
  | false=>exact(ho rfl).use ah.rel aJ aK fun aA au aq _ _=>⟨rfl,au,ah.trans aq⟩)
theorem Et.not_{x:Expr}{pos:Pos}{b:Bool}(h:Et G A C env W x σ η b σ₁):Et G A C env W (.UnaryOp .Not x pos) σ η (!b) σ₁:=fun ρ s R N ht =>
 isTrue_not (h.use R N ht fun am aa ah aJ aK=>⟨rfl,aa,ah⟩)
theorem Et.and_{x y:Expr}{pos:Pos}{b c:Bool}(h:Et G A C env W x σ η b σ₁)(hy:b=true->Et G A C env W y σ₁ η c σ₂)(hn:b=false->c=false/\σ₂=σ₁) :
  Et G A C env W (.BoolOp .And [x,y] pos) σ η c σ₂:=fun ρ s R N ht =>
 isTrue_and (h.use R N ht fun am aa ah aJ aK=>by
  cases b with
  | false=>obtain ⟨e1,e2⟩:=hn rfl;rw[e1,e2];exact⟨rfl,aa,ah⟩
  | true=>exact isTrue_and ((hy rfl).use ah.rel aJ aK fun aA au aq ci cU=>by
    cases c with
    | false=>exact⟨rfl,au,ah.trans aq⟩
    | true=>exact isTrue_and_nil ⟨rfl,au,ah.trans aq⟩))
theorem Et.or_{x y:Expr}{pos:Pos}{b c:Bool}(h:Et G A C env W x σ η b σ₁)(hy:b=false->Et G A C env W y σ₁ η c σ₂)(hn:b=true->c=true/\σ₂=σ₁) :
  Et G A C env W (.BoolOp .Or [x,y] pos) σ η c σ₂:=fun ρ s R N ht =>
 isTrue_or (h.use R N ht fun am aa ah aJ aK=>by
  cases b with
  | true=>obtain ⟨e1,e2⟩:=hn rfl;rw[e1,e2];exact⟨rfl,aa,ah⟩
  | false=>exact isTrue_or ((hy rfl).use ah.rel aJ aK fun aA au aq ci cU=>by
    cases c with
    | true=>exact⟨rfl,au,ah.trans aq⟩
    | false=>exact isTrue_or_nil ⟨rfl,au,ah.trans aq⟩))
noncomputable def aM:V->Option Bool
 | .none=>some false
 | .bool b=>some b
 | .int i=>some (i != 0)
 | .str l=>some (!l.isEmpty)
 | _=>none
theorem cE{v:V}{b:Bool}{cv:Value}(e:aM v=some b)(R:Rel G σ ρ s)(r:RV s.heap ρ v cv){Q:Bool->Shared->Prop}{E:Value->Shared->Prop}
  (k:∀ s',Step G ρ s ρ s' σ->Q b s'):wpAny (model G.prog G.w) A (truthy cv) Q E s:=by
 cases v with
 | none=>obtain rfl:=siX e;exact(RV.none_iff r)▸(truthy_none (k s (Step.refl R)))
 | bool c=>obtain rfl:=siX e;rw[RV.bool_iff r];exact wpAny_truthy_bool (k s (Step.refl R))
 | int i =>
  obtain rfl:=siX e
  obtain ⟨t,rfl⟩:=RV.int_iff r
  exact PyProof.Rows.truthy_int (k s (Step.refl R))
 | str l =>
  obtain rfl:=siX e
  obtain ⟨hl,t,rfl⟩:=RV.str_iff r
  have hlen:(⟨l.toArray⟩:Str).length=l.length:=rfl
  refine PySem.P.truthy_str ?_ ?_
  ·rw[hlen];unfold lim at hl;lia
  ·have:=k _ (Step.toks R (s.toks+1+1))
   refine(hlen)▸?_
   have e:((l.length:Int) != 0)=!l.isEmpty:=by cases l <;> simp <;> lia
   exact(e)▸(this)
 | _=>exact nso e
theorem Ev.not_{x:Expr}{pos:Pos}{v:V}{b:Bool}(h:Ev G A C env W x σ η v σ₁)(hb:aM v=some b):Ev G A C env W (.UnaryOp .Not x pos) σ η (.bool (!b)) σ₁:=fun ρ s R N ht =>
 UnaryOp_ (h.use R N ht fun bz am aa ah aJ aK av=>not_of (cE hb ah.rel av fun aA aq=>⟨aa,ah.trans aq,RV.bool_⟩))
theorem Ev.neg{x:Expr}{pos:Pos}{v u:V}(h:Ev G A C env W x σ η v σ₁)(ho:On G A (fun | [a]=>unaryOp .USub a | _=>pure .none) σ₁ [v] u σ₂):Ev G A C env W (.UnaryOp .USub x pos) σ η u σ₂:=fun ρ s R N ht =>
 UnaryOp_ (h.use R N ht fun bz am aa ah aJ aK av=>ho.use ah.rel (RVs.cons av RVs.nil) aK fun cv aA au aq cU aF=>⟨au,ah.trans aq,aF⟩)
theorem Ev.and_{x y:Expr}{pos:Pos}{u v:V}{b:Bool}(h:Ev G A C env W x σ η u σ₁)(hb:aM u=some b)(hy:b=true->Ev G A C env W y σ₁ η v σ₂)(hn:b=false->v=u/\σ₂=σ₁) :
  Ev G A C env W (.BoolOp .And [x,y] pos) σ η v σ₂:=fun ρ s R N ht =>
 BoolOp_and (h.use R N ht fun bz am aa ah aJ aK av=>wpAny_with_toks (Nat.le_refl _) (cE hb ah.rel av fun aA aq hle=>by
  cases b with
  | true=>exact BoolOp_one ((hy rfl).use aq.rel (aJ.mono ah.rel aq) (Nat.lt_of_lt_of_le aK hle) fun cv dY bA bQ _ _ fD=>⟨bA,ah.trans (aq.trans bQ),fD⟩)
  | false=>obtain ⟨e1,e2⟩:=hn rfl;rw[e1,e2];exact⟨aa,ah.trans aq,RV.mono (Step.keepV ah.rel aq) _ _ av⟩))
theorem Ev.or_{x y:Expr}{pos:Pos}{u v:V}{b:Bool}(h:Ev G A C env W x σ η u σ₁)(hb:aM u=some b)(hy:b=false->Ev G A C env W y σ₁ η v σ₂)(hn:b=true->v=u/\σ₂=σ₁) :
  Ev G A C env W (.BoolOp .Or [x,y] pos) σ η v σ₂:=fun ρ s R N ht =>
 BoolOp_or (h.use R N ht fun bz am aa ah aJ aK av=>wpAny_with_toks (Nat.le_refl _) (cE hb ah.rel av fun aA aq hle=>by
  cases b with
  | false=>exact BoolOp_one ((hy rfl).use aq.rel (aJ.mono ah.rel aq) (Nat.lt_of_lt_of_le aK hle) fun cv dY bA bQ _ _ fD=>⟨bA,ah.trans (aq.trans bQ),fD⟩)
  | true=>obtain ⟨e1,e2⟩:=hn rfl;rw[e1,e2];exact⟨aa,ah.trans aq,RV.mono (Step.keepV ah.rel aq) _ _ av⟩))
noncomputable def cV(e:Expr):Bool:=!(e.ctorIdx==0 || e.ctorIdx==5 || e.ctorIdx==15)&&!((un e).tag==5&&decide ((un e).u=.Not))
theorem iI{e:Expr}(h:cV e=true)(whole:Sem Value):isTrue e env whole=(do let v ← whole;standAt e.pos;holding [v] (truthy v)):=by
 cases e <;> first
  | rfl
  | exact ftr h
  | (rename_i op _ _;cases op <;> first | rfl | exact ftr h)
theorem Et.plain{e:Expr}{v:V}{b:Bool}(hp:cV e=true)(h:Ev G A C env W e σ η v σ₁)(hb:aM v=some b):Et G A C env W e σ η b σ₁:=fun ρ s R N ht =>
 isTrue_plain (h.use R N ht fun bz am aa ah aJ aK av=>cE hb ah.rel av fun aA aq=>⟨rfl,aa,ah.trans aq⟩) (iI hp _)
noncomputable def fQ(e:Expr):Bool:=!(e.ctorIdx==22)
theorem a8{e:Expr}{es:List Expr}(h:fQ e=true):starEach (e::es) env=(false,eval e env)::starEach es env:=by
 cases e <;> first | rfl | exact ftr h
theorem Evs.nil:Evs G A C env W [] σ η [] σ:=fun ρ s R N ht pos=>spliced_nil ⟨ρ,Step.refl R,RVs.nil⟩
theorem Evs.cons{e:Expr}{es:List Expr}{v:V}{vs:List V}(hs:fQ e=true)(h:Ev G A C env W e σ η v σ₁)(hr:Evs G A C env W es σ₁ η vs σ₂):Evs G A C env W (e::es) σ η (v::vs) σ₂:=fun ρ s R N ht pos=>by
 refine(a8 hs)▸?_
 exact spliced_cons (h.use R N ht fun bz am aa ah aJ aK av=>hr.use ah.rel aJ aK pos fun cvs aA au aq ci cU aF=>⟨au,ah.trans aq,RVs.cons (RV.mono (Step.keepV ah.rel aq) _ _ av) aF⟩)
theorem Ev.tup{es:List Expr}{x}{pos:Pos}{vs:List V}(h:Evs G A C env W es σ η vs σ₁)(hl:vs.length<=lim):Ev G A C env W (.Tuple es x pos) σ η (.tup vs) σ₁:=fun ρ s R N ht=>by
 rw[arm_eval_Tuple]
 exact wpAny_bind (wpAny_standAt (wpAny_bind (h.use R N ht pos fun cvs am aa ah aJ aK av=>rQ ah.rel av hl (by rintro cv aA ⟨au,aq,aF⟩;exact⟨au,ah.trans aq,aF⟩))))
theorem Ev.lst{es:List Expr}{pos:Pos}{vs:List V}(h:Evs G A C env W es σ η vs σ₁)(hl:vs.length<=lim):Ev G A C env W (.List es pos) σ η (.lst vs) σ₁:=fun ρ s R N ht=>by
 rw[arm_eval_List]
 exact wpAny_bind (wpAny_standAt (wpAny_bind (h.use R N ht pos fun cvs am aa ah aJ aK av=>uX ah.rel av hl (by rintro cv aA ⟨au,aq,aF⟩;exact⟨au,ah.trans aq,aF⟩))))
theorem Ev.new{es:List Expr}{pos:Pos}{vs:List V}(h:Evs G A C env W es σ η vs σ₁)(hl:vs.length<=lim):Ev G A C env W (.List es pos) σ η (.ref σ₁.length) (σ₁++[⟨vs,none⟩]):=fun ρ s R N ht=>by
 rw[arm_eval_List]
 exact wpAny_bind (wpAny_standAt (wpAny_bind (h.use R N ht pos fun cvs am aa ah aJ aK av=>xD ah.rel av hl (by rintro cv aA ⟨au,aq,aF⟩;exact⟨au,ah.trans aq,aF⟩))))
end
set_option genInjectivity false in
set_option genSizeOf false in
inductive ItS where
 | seq (l:List V)
 | dyn (k i:Nat)
noncomputable def ItS.step:ItS->List AO->Option (Option (V×ItS))
 | .seq [],_=>some none
 | .seq (x::l),_=>some (some (x,.seq l))
 | .dyn k i,σ=>match σ[k]? with
  | some ⟨items,none⟩=>match items[i]? with
   | some x=>some (some (x,.dyn k (i+1)))
   | none=>some none
  | _=>none
theorem ItS.step_dyn(k i:Nat)(σ:List AO):(ItS.dyn k i).step σ=match σ[k]? with
  | some ⟨items,none⟩=>match items[i]? with
   | some x=>some (some (x,.dyn k (i+1)))
   | none=>some none
  | _=>none:=rfl
noncomputable def bP(a b c:Int):List V:=(List.range (Builtin.Range.rangeSize a b c).toNat).map fun (j:Nat)=>.int (a+j*c)
noncomputable def ba:V->Option ItS
 | .str l=>some (.seq (l.map fun c=>.str [c]))
 | .tup l=>some (.seq l)
 | .lst l=>some (.seq l)
 | .rng a b c=>some (.seq (bP a b c))
 | .ref k=>some (.dyn k 0)
 | _=>none
inductive JI (h:Heap) (ρ:Rho) (I:Addr):ItS->Prop
 | lst {l a i vs}:h.IsListIter I a i->Off ρ a->h.IsList a vs->RVs h ρ l vs.toList->JI h ρ I (.seq (l.drop i))
 | tup {l a i vs}:h.IsTupleIter I a i->Off ρ a->h.IsTuple a vs->RVs h ρ l vs.toList->JI h ρ I (.seq (l.drop i))
 | ascii {x t i}:h.IsStrIter I "str_ascii_iterator" x t i->JI h ρ I (.seq ((x.cps.toList.drop i).map fun c=>.str [c]))
 | wide {x t i}:h.IsStrIter I "str_iterator" x t i->JI h ρ I (.seq ((x.cps.toList.drop i).map fun c=>.str [c]))
 | rng {x c:Int} {n:Nat}:IsRangeIter h I x n c->JI h ρ I (.seq ((List.range n).map fun (j:Nat)=>.int (x+j*c)))
 | dyn {k p i}:ρ.st[k]?=some p->h.IsListIter I p.1 i->JI h ρ I (.dyn k i)
noncomputable def nb:List String:=["list_iterator","tuple_iterator","str_ascii_iterator","str_iterator","range_iterator"]
theorem JI.cls{h:Heap}{ρ:Rho}{I:Addr}{st:ItS}(x:JI h ρ I st):∃ o T,h.get? I=some o/\o.cls=.type T/\T∈nb:=by
 cases x with
 | lst a=>obtain ⟨o,ho,hc,_⟩:=a;exact mU o _ ho hc (by decide)
 | tup a=>obtain ⟨o,ho,hc,_⟩:=a;exact mU o _ ho hc (by decide)
 | ascii a=>obtain ⟨o,ho,hc,_⟩:=a;exact mU o _ ho hc (by decide)
 | wide a=>obtain ⟨o,ho,hc,_⟩:=a;exact mU o _ ho hc (by decide)
 | rng a=>exact mU _ _ a rfl (by decide)
 | dyn _ a=>obtain ⟨o,ho,hc,_⟩:=a;exact mU o _ ho hc (by decide)
theorem JI.not_solid{h:Heap}{ρ:Rho}{I:Addr}{st:ItS}(x:JI h ρ I st):∃ o,h.get? I=some o/\¬ Solid o:=by
 refine byQ fun Q kQ=>?_
 refine oM (x.cls) fun o T ho hc hT=>?_
 refine kQ ?_
 refine⟨o,ho,fun hs=>?_⟩
 rcases hs.1 with e | e | e <;> (replace e:=(hc)▸e;cases e;revert hT;decide)
theorem JI.keep{h h':Heap}{ρ ρ':Rho}{I:Addr}{st:ItS}(x:JI h ρ I st)(K:KeepV h ρ h' ρ')(hI:∀ o,h.get? I=some o->h'.get? I=some o):JI h' ρ' I st:=by
 cases x with
 | lst a ho hl hr =>
  obtain ⟨o,e,r⟩:=a
  obtain ⟨ol,el,rl⟩:=id hl
  exact .lst ⟨o,hI o e,r⟩ (K.off (by rw[el];exact nofun) ho) ⟨ol,K.keep _ _ el ho (IsList.solid hl el),rl⟩ (RVs.mono K _ _ hr)
 | tup a ho hl hr =>
  obtain ⟨o,e,r⟩:=a
  obtain ⟨ol,el,rl⟩:=id hl
  exact .tup ⟨o,hI o e,r⟩ (K.off (by rw[el];exact nofun) ho) ⟨ol,K.keep _ _ el ho (IsTuple.solid hl el),rl⟩ (RVs.mono K _ _ hr)
 | ascii a=>refine aI (a) fun o e r=>?_;exact .ascii ⟨o,hI o e,r⟩
 | wide a=>refine aI (a) fun o e r=>?_;exact .wide ⟨o,hI o e,r⟩
 | rng a=>exact .rng (hI _ a)
 | dyn hp a =>
  refine byQ fun Q kQ=>?_
  refine aI (a) fun o e r=>?_
  refine a9 (K.ext) fun new h_p=>?_;have e':=h_p.1
  refine kQ ?_
  exact .dyn (by rw[e',List.getElem?_append_left (List.getElem?_eq_some_iff.mp hp).1];exact hp) ⟨o,hI o e,r⟩
section
variable {G:Wd} {A:Around} {C:Cx} {env:Env} {W:List Addr} {η:ab} {σ σ' σ₁ σ₂ aj:List AO} {ρ ρ':Rho} {s s':Shared}
theorem u7{I:Addr}{h':Heap}{t:Nat}(R:Rel G σ ρ s)(hoff:Off ρ I)(hbase:G.s₀.heap.get? I=none)(hloose:I ∉ G.loose)(hns:∃ o,s.heap.get? I=some o/\¬ Solid o)
  (hs:Heap.ExtBut I s.heap h') (hal:h'.get? I≠none):StepW G [I] ρ s ρ { s with heap:=h',toks:=t } σ/\KeepV s.heap ρ h' ρ :=
 kH R (List.mem_singleton.mpr rfl) hoff.1 hbase hloose (fun o e _=>aI hns fun oi hoi hni=>siX (hoi.symm.trans e)▸hni) hs hal
theorem gR{L:List V}{x:V}{st':ItS}(h:(ItS.seq L).step σ=some (some (x,st'))):∃ r,L=x::r/\st'=.seq r:=by
 cases L with
 | nil=>exact nso (siX h)
 | cons y r=>exact have e:=sm2 (siX h▸rfl:some (x,st')=some (y,ItS.seq r));⟨r,e.1▸rfl,e.2⟩
theorem cF{L:List V}(h:(ItS.seq L).step σ=some none):L=[]:=by
 cases L with
 | nil=>rfl
 | cons y r=>exact son (siX h)
theorem wJ{k i:Nat}{u:Option (V×ItS)}(h:(ItS.dyn k i).step σ=some u):∃ items,σ[k]?=some ⟨items,none⟩/\u=(items[i]?).map fun x=>(x,.dyn k (i+1)):=by
 rw[ItS.step_dyn] at h
 refine fE (σ[k]?) (fun e=>nso (e▸h)) fun o e=>?_
 obtain ⟨items,acc⟩:=o
 replace h:=(e)▸h
 cases acc with
 | some z=>exact nso h
 | none =>
  have h':(match items[i]? with
   | some x=>some (some (x,ItS.dyn k (i+1)))
   | none=>some none)=some u:=h
  refine⟨items,e,fE (items[i]?) (fun q=>?_) fun y q=>?_⟩ <;> (rw[q] at h' ⊢;exact(siX h').symm)
theorem iS{α:Type}{l:List α}{i:Nat}{x:α}{r:List α}(h:l.drop i=x::r):l[i]?=some x/\r=l.drop (i+1) :=
 ⟨by rw[← Nat.add_zero i,← List.getElem?_drop,h];rfl,by rw[← List.tail_drop,h];rfl⟩
theorem xx{α β:Type}{f:α->β}{l:List α}{x:β}{r:List β}(h:l.map f=x::r):∃ y l',l=y::l'/\x=f y/\r=l'.map f:=by
 cases l with
 | nil=>exact nomatch h
 | cons y l'=>exact mU y l' rfl ((List.cons.inj h).1.symm) ((List.cons.inj h).2.symm)
noncomputable def PnK(ρ:Rho)(s:Shared)(I:Addr)(x:V)(st':ItS)(Q:Option Value->Shared->Prop):Prop :=
 ∀ (h':Heap) (t:Nat) (cv:Value),Heap.SameBut I s.heap h'->(KeepV s.heap ρ h' ρ->JI h' ρ I st'/\RV h' ρ x cv)->Q (some cv) { s with heap:=h',toks:=t }
theorem pnk{I:Addr}{st':ItS}{x:V}(R:Rel G σ ρ s)(hns:∃ o,s.heap.get? I=some o/\¬ Solid o)(hoff:Off ρ I)(hbase:G.s₀.heap.get? I=none)(hloose:I ∉ G.loose){Q:Option Value->Shared->Prop}
  (k:∀ cv s',StepW G [I] ρ s ρ s' σ->KeepV s.heap ρ s'.heap ρ->RV s'.heap ρ x cv->JI s'.heap ρ I st'->Q (some cv) s'):PnK ρ s I x st' Q:=fun h' t cv hs hj=>by
 have K:KeepV s.heap ρ h' ρ:=⟨⟨[],(List.append_nil _).symm,fun _ h=>nomatch h⟩,fun _ h=>.inl h,fun b o e _ hsol=>hs.extBut b o (fun q=>aI hns fun oi hoi hni=>hni (siX (hoi.symm.trans (q▸e))▸hsol)) e⟩
 have j:=hj K
 exact k cv _ (u7 R hoff hbase hloose hns hs.extBut (oM j.1.cls fun o _ e _ _ q=>son (e.symm.trans q))).1 K j.2 j.1
section
variable {I:Addr} {st':ItS} {x:V} {Q:Option Value->Shared->Prop} {E:Value->Shared->Prop}
theorem dm1{l:List V}{a:Addr}{i:Nat}{vs:Array Value}(P:PnK ρ s I x st' Q)(hst:(ItS.seq (l.drop i)).step σ=some (some (x,st')))(hit:s.heap.IsListIter I a i)(ho:Off ρ a)(hl:s.heap.IsList a vs)(hr:RVs s.heap ρ l vs.toList)(hne:a≠I) :
  wpAny (model G.prog G.w) A (pyNext (.ref I)) Q E s :=
 aI (gR hst) fun r hd e=>have d:=iS hd
 aI (RVs.get hr d.1) fun c hc hx=>wpAny_pyNext_list_item hit hl (Array.getElem?_toList▸hc) fun h' hit' hs=>P h' s.toks c hs fun K=>⟨e.symm▸d.2▸.lst hit' ho (hl.extBut hs.extBut hne) (RVs.mono K _ _ hr),RV.mono K _ _ hx⟩
theorem dk1{l:List V}{a:Addr}{i:Nat}{vs:Array Value}(P:PnK ρ s I x st' Q)(hst:(ItS.seq (l.drop i)).step σ=some (some (x,st')))(hit:s.heap.IsTupleIter I a i)(ho:Off ρ a)(hl:s.heap.IsTuple a vs)(hr:RVs s.heap ρ l vs.toList)(hne:a≠I) :
  wpAny (model G.prog G.w) A (pyNext (.ref I)) Q E s :=
 aI (gR hst) fun r hd e=>have d:=iS hd
 aI (RVs.get hr d.1) fun c hc hx=>wpAny_pyNext_tuple_item hit hl (Array.getElem?_toList▸hc) fun h' hit' hs=>P h' s.toks c hs fun K=>⟨e.symm▸d.2▸.tup hit' ho (hl.extBut hs.extBut hne) (RVs.mono K _ _ hr),RV.mono K _ _ hx⟩
theorem qw{y:Str}{i:Nat}(hst:(ItS.seq ((y.cps.toList.drop i).map fun c=>.str [c])).step σ=some (some (x,st'))):∃ c,y.cps[i]?=some c/\x=.str [c]/\st'=.seq ((y.cps.toList.drop (i+1)).map fun c=>.str [c]) :=
 aI (gR hst) fun r hm e=>oM (xx hm) fun c l' hd e1 e2=>have d:=iS hd
 ⟨c,Array.getElem?_toList▸d.1,e1,e.trans (e2▸d.2▸rfl)⟩
theorem xi{y:Str}{t:Tok}{i:Nat}(P:PnK ρ s I x st' Q)(hst:(ItS.seq ((y.cps.toList.drop i).map fun c=>.str [c])).step σ=some (some (x,st')))(hit:s.heap.IsStrIter I "str_ascii_iterator" y t i):wpAny (model G.prog G.w) A (pyNext (.ref I)) Q E s :=
 qJ (qw hst) fun c hc e1 e2=>wpAny_pyNext_ascii_item hit hc fun h' hit' hs=>P h' (s.toks+1) _ hs fun K=>⟨e2▸.ascii hit',e1▸RV.str_ (show 1<=lim by decide)⟩
theorem ae1{y:Str}{t:Tok}{i:Nat}(P:PnK ρ s I x st' Q)(hst:(ItS.seq ((y.cps.toList.drop i).map fun c=>.str [c])).step σ=some (some (x,st')))(hit:s.heap.IsStrIter I "str_iterator" y t i):wpAny (model G.prog G.w) A (pyNext (.ref I)) Q E s :=
 qJ (qw hst) fun c hc e1 e2=>wpAny_pyNext_wide_item hit hc fun h' hit' hs=>P h' (s.toks+1) _ hs fun K=>⟨e2▸.wide hit',e1▸RV.str_ (show 1<=lim by decide)⟩
theorem w7(y c:Int)(n:Nat):((List.range (n+1)).map fun (j:Nat)=>V.int (y+j*c))=V.int y::(List.range n).map fun (j:Nat)=>.int (y+c+j*c):=by
 rw[List.range_succ_eq_map,List.map_cons,List.map_map]
 refine congr (congrArg _ (congrArg V.int (by rw[Int.natCast_zero,Int.zero_mul,Int.add_zero]))) (List.map_congr_left fun j _=>congrArg V.int ?_)
 show y+((j+1:Nat):Int)*c=_
 rw[Int.natCast_add,Int.natCast_one,Int.add_mul,Int.one_mul];lia
theorem dl1{y c:Int}{n:Nat}(P:PnK ρ s I x st' Q)(hst:(ItS.seq ((List.range n).map fun (j:Nat)=>V.int (y+j*c))).step σ=some (some (x,st')))(hit:IsRangeIter s.heap I y n c):wpAny (model G.prog G.w) A (pyNext (.ref I)) Q E s:=by
 cases n with
 | zero=>exact son (siX hst).symm
 | succ n =>
  rw[w7] at hst
  refine aI (gR hst) fun r hd e=>?_
  have q:=List.cons.inj hd
  refine wpAny_pyNext_range_item hit (by exact Int.ofNat_le.mpr (Nat.le_add_left (0+1) n)) fun h' hit' hs=>P h' (s.toks+1) _ hs fun K=>⟨?_,q.1▸RV.int_⟩
  rw[e,← q.2]
  exact .rng (by rw[show ((n+1:Nat):Int) - 1=n by lia] at hit';exact hit')
theorem uu{k i:Nat}{p:Addr×Addr}{u:Option (V×ItS)}(R:Rel G σ ρ s)(hp:ρ.st[k]?=some p)(hst:(ItS.dyn k i).step σ=some u):∃ items vs,u=(items[i]?).map (fun x=>(x,ItS.dyn k (i+1)))/\s.heap.PlainList p.1 vs/\RVs s.heap ρ items vs.toList :=
 aI (wJ hst) fun items hσ hu=>by
  have ro:=R.obj k p _ hp hσ
  dsimp only[RO] at ro
  exact ro.2.2.elim fun vs h=>⟨items,vs,hu,h⟩
theorem dn1{k i:Nat}{p:Addr×Addr}(R:Rel G σ ρ s)(P:PnK ρ s I x st' Q)(hst:(ItS.dyn k i).step σ=some (some (x,st')))(hp:ρ.st[k]?=some p)(hit:s.heap.IsListIter I p.1 i):wpAny (model G.prog G.w) A (pyNext (.ref I)) Q E s :=
 oM (uu R hp hst) fun items vs hu hpl hr=>aI (Option.map_eq_some_iff.mp hu.symm) fun y hy e=>aI (RVs.get hr hy) fun c hc hv=>by
  have q:=Prod.mk.inj e
  exact wpAny_pyNext_list_item hit hpl.isList (Array.getElem?_toList▸hc) fun h' hit' hs=>P h' s.toks c hs fun K=>⟨q.2▸.dyn hp hit',q.1▸RV.mono K _ _ hv⟩
end
theorem ik{I:Addr}{st st':ItS}{x:V}(hst:st.step σ=some (some (x,st')))(R:Rel G σ ρ s)(J:JI s.heap ρ I st)
  (hoff:Off ρ I) (hbase:G.s₀.heap.get? I=none) (hloose:I ∉ G.loose) {Q:Option Value->Shared->Prop} {E:Value->Shared->Prop}
  (k:∀ cv s',StepW G [I] ρ s ρ s' σ->KeepV s.heap ρ s'.heap ρ->RV s'.heap ρ x cv->JI s'.heap ρ I st'->Q (some cv) s'):wpAny (model G.prog G.w) A (pyNext (.ref I)) Q E s:=by
 have hns:=J.not_solid
 have P:=pnk R hns hoff hbase hloose k
 cases J with
 | lst hit ho hl hr=>exact dm1 P hst hit ho hl hr fun e=>aI hns fun oi hoi hni=>hni (IsList.solid (e▸hl) hoi)
 | tup hit ho hl hr=>exact dk1 P hst hit ho hl hr fun e=>aI hns fun oi hoi hni=>hni (IsTuple.solid (e▸hl) hoi)
 | ascii hit=>exact xi P hst hit
 | wide hit=>exact ae1 P hst hit
 | rng hit=>exact dl1 P hst hit
 | dyn hp hit=>exact dn1 R P hst hp hit
theorem vC{l:List V}{i:Nat}{h:Heap}{vs:Array Value}(hr:RVs h ρ l vs.toList)(hi:l.length<=i):vs[i]?=none :=
 Array.getElem?_eq_none_iff.mpr (by have:=RVs.length hr;rw[Array.length_toList] at this;exact this▸hi)
theorem uf{y:Str}{i:Nat}(hst:(ItS.seq ((y.cps.toList.drop i).map fun c=>.str [c])).step σ=some none):y.cps[i]?=none :=
 Array.getElem?_eq_none_iff.mpr (List.drop_eq_nil_iff.mp (List.map_eq_nil_iff.mp (cF hst)))
theorem ij{I:Addr}{st:ItS}(hh:A.handled=none)(hst:st.step σ=some none)(R:Rel G σ ρ s)(J:JI s.heap ρ I st)
  (hoff:Off ρ I) (hbase:G.s₀.heap.get? I=none) (hloose:I ∉ G.loose) {Q:Option Value->Shared->Prop} {E:Value->Shared->Prop}
  (k:∀ s',(∃ h',s'={ s with heap:=h' }/\Heap.ExtBut I s.heap h')->Q none s'):wpAny (model G.prog G.w) A (pyNext (.ref I)) Q E s:=by
 have k':∀ h',Heap.ExtBut I s.heap h'->Q none { s with heap:=h' }:=fun h' hs=>k _ ⟨h',rfl,hs⟩
 cases J with
 | lst hit ho hl hr=>exact wpAny_pyNext_list_end hh hit hl (vC hr (List.drop_eq_nil_iff.mp (cF hst))) k'
 | tup hit ho hl hr=>exact wpAny_pyNext_tuple_end hh hit hl (vC hr (List.drop_eq_nil_iff.mp (cF hst))) k'
 | ascii hit=>exact wpAny_pyNext_ascii_end hh hit (uf hst) k'
 | wide hit=>exact wpAny_pyNext_wide_end hh hit (uf hst) k'
 | @rng y c n hit=>exact wpAny_pyNext_range_end hh hit (by have:=congrArg List.length (cF hst);rw[List.length_map,List.length_range] at this;have:n=0:=this;solve_by_elim (maxDepth:=4) only [*,Nat.le_trans,Nat.lt_of_lt_of_le,Nat.lt_of_le_of_lt,Nat.le_of_lt,Nat.le_of_eq,Nat.le_refl,Eq.symm,Nat.le_add_right,Nat.le_add_left,Nat.le_succ,Nat.sub_le,Nat.succ_le_succ,Nat.lt_succ_of_le,Nat.le_of_lt_succ,Nat.zero_le,Nat.succ_pos,Int.ofNat_le.mpr,Int.ofNat_lt.mpr,Int.natCast_nonneg,Nat.not_le.mpr,Nat.not_lt.mpr,Nat.not_le.mp,Nat.not_lt.mp]) k'
 | dyn hp hit=>exact oM (uu R hp hst) fun items vs hu hpl hr=>wpAny_pyNext_list_end hh hit hpl.isList (vC hr (List.getElem?_eq_none_iff.mp (Option.map_eq_none_iff.mp hu.symm))) k'
theorem xz{l:List Nat}{cv:Value}{Q:Value->Shared->Prop}{E:Value->Shared->Prop}(r:RV s.heap ρ (.str l) cv)(k:∀ o:Obj,JI (s.heap.push o) ρ s.heap.objs.size (.seq (l.map fun c=>.str [c]))->Q (.ref s.heap.objs.size) { s with heap:=s.heap.push o }):wpAny (model G.prog G.w) A (pyIter cv) Q E s:=by
 obtain ⟨hl,t,rfl⟩:=RV.str_iff r
 refine eK1 ((⟨l.toArray⟩:Str).cps.all (·<128)) (fun ha=>wpAny_pyIter_ascii ha (k _ ?_)) fun ha=>wpAny_pyIter_wide ha (k _ ?_)
 ·exact JI.ascii (x:=⟨l.toArray⟩) (t:=t) (i:=0) ⟨_,Heap.get?_push_size _ rfl,rfl,rfl⟩
 ·exact JI.wide (x:=⟨l.toArray⟩) (t:=t) (i:=0) ⟨_,Heap.get?_push_size _ rfl,rfl,rfl⟩
theorem uv{a b c:Int}(h:-1000000<=a/\a<=1000000/\-1000000<=b/\b<=1000000/\1<=c/\c<=1000000):(0<=Builtin.Range.rangeSize a b c/\Builtin.Range.rangeSize a b c<=3000000):=by
 refine fu1 h fun a1 a2 b1 b2 c1 c2=>?_
 have e:Builtin.Range.rangeSize a b c=if a<b then (b - a - 1) / c+1 else 0:=if_pos c1
 rw[e]
 by_cases q:a<b
 ·have h0:0<=b - a - 1:=Int.sub_nonneg_of_le (Int.le_sub_left_of_add_le q)
  have h1:0<=(b - a - 1) / c:=Int.ediv_nonneg h0 (Int.le_trans (by decide) c1)
  have h2:(b - a - 1) / c<=b - a - 1:=Int.ediv_le_self _ h0
  rw[if_pos q]
  exact⟨Int.le_add_one h1,by lia⟩
 ·rw[if_neg q];exact⟨Int.le_refl _,by decide⟩
theorem ec{i:Int}(h1:-9000000<=i)(h2:i<=9000000):Builtin.Range.rangeFitsLong i=true :=
 Bool.and_eq_true_iff.mpr ⟨decide_eq_true (Int.le_trans (by decide) h1),decide_eq_true (Int.lt_of_le_of_lt h2 (by decide))⟩
theorem yN{a b c:Int}(h:-1000000<=a/\a<=1000000/\-1000000<=b/\b<=1000000/\1<=c/\c<=1000000):Builtin.Range.small a b c=true:=by
 have z:=uv h
 refine fu1 h fun a1 a2 b1 b2 c1 c2=>?_
 have e:(if c>0 then Builtin.Range.rangeFitsLong (b+(c - 1)) else Builtin.Range.rangeFitsLong (b+(c+1)))=true:=by rw[if_pos (show c>0 from c1)];exact ec (by lia) (by lia)
 have up:∀ {i:Int},i<=1000000->i<=9000000:=fun h=>Int.le_trans h (by decide)
 have dn:∀ {i:Int},-1000000<=i->-9000000<=i:=fun h=>Int.le_trans (by decide) h
 show (_&&_&&_&&_&&(_ || _))=true
 rw[e,Bool.or_true,ec (dn a1) (up a2),ec (dn b1) (up b2),ec (Int.le_trans (by decide) c1) (up c2),ec (Int.le_trans (by decide) z.1) (Int.le_trans z.2 (by decide))]
 rfl
theorem xC{a b c:Int}{cv:Value}{Q:Value->Shared->Prop}{E:Value->Shared->Prop}(r:RV s.heap ρ (.rng a b c) cv)(k:∀ o:Obj,JI (s.heap.push o) ρ s.heap.objs.size (.seq (bP a b c))->Q (.ref s.heap.objs.size) { s with heap:=s.heap.push o }):wpAny (model G.prog G.w) A (pyIter cv) Q E s:=by
 refine byQ fun Q kQ=>?_
 obtain ⟨hk,p,t,u,w,rfl,ho,hr⟩:=RV.rng_iff r
 have hk':=of_decide_eq_true hk
 refine kQ ?_
 refine wpAny_pyIter_range hr (yN hk') (k _ ?_)
 exact JI.rng (x:=a) (c:=c) (n:=(Builtin.Range.rangeSize a b c).toNat) (by exact(Int.toNat_of_nonneg (uv hk').1)▸(Heap.get?_push_size _ rfl))
theorem im{v:V}{st:ItS}{cv:Value}(e:ba v=some st)(hst:st.step σ≠none)(R:Rel G σ ρ s)(r:RV s.heap ρ v cv){Q:Value->Shared->Prop}{E:Value->Shared->Prop}
  (k:∀ s',Step G ρ s ρ s' σ->(∀ b o,s.heap.get? b=some o->s'.heap.get? b=some o)->Off ρ s.heap.objs.size->JI s'.heap ρ s.heap.objs.size st->Q (.ref s.heap.objs.size) s'):wpAny (model G.prog G.w) A (pyIter cv) Q E s:=by
 have keep:∀ o:Obj,∀ b x,s.heap.get? b=some x->(s.heap.push o).get? b=some x:=fun o b x e=>Heap.get?_push_of_some _ e
 have k':∀ o:Obj,JI (s.heap.push o) ρ s.heap.objs.size st->Q (.ref s.heap.objs.size) { s with heap:=s.heap.push o }:=fun o=>k _ (Step.grow R (keep o) ⟨_,_,rfl⟩) (keep o) (bM R)
 cases v with
 | str l=>exact xz r ((siX e).symm▸k')
 | tup l =>
  obtain ⟨hl,a,vs,rfl,ho,ht,hr⟩:=RV.tup_iff r
  exact wpAny_pyIter_tuple ht.isTuple (k' _ (siX e▸JI.tup (i:=0) ⟨_,Heap.get?_push_size _ rfl,rfl,rfl⟩ ho (ht.isTuple.push _) (RVs.sameHeap (keep _) hr)))
 | lst l =>
  obtain ⟨hl,a,vs,rfl,ho,ht,hr⟩:=RV.lst_iff r
  exact wpAny_pyIter_list ht.isList (k' _ (siX e▸JI.lst (i:=0) ⟨_,Heap.get?_push_size _ rfl,rfl,rfl⟩ ho (ht.isList.push _) (RVs.sameHeap (keep _) hr)))
 | rng a b c=>exact xC r ((siX e).symm▸k')
 | ref kk =>
  obtain rfl:=siX e
  obtain ⟨p,hp,rfl⟩:=RV.ref_iff r
  refine fE ((ItS.dyn kk 0).step σ) (fun q=>absurd q hst) fun u hu=>oM (uu R hp hu) fun items vs _ hpl hr=>?_
  exact wpAny_pyIter_list hpl.isList (k' _ (JI.dyn hp ⟨_,Heap.get?_push_size _ rfl,rfl,rfl⟩))
 | _=>exact nso e
end
theorem JI.no_cell{h:Heap}{ρ:Rho}{I:Addr}{st:ItS}(x:JI h ρ I st):∃ o,h.get? I=some o/\∀ v,o.data≠.cell v:=by
 cases x with
 | lst a=>obtain ⟨o,ho,hc,hd⟩:=a;exact⟨o,ho,fun v e=>by rw[hd] at e;cases e⟩
 | tup a=>obtain ⟨o,ho,hc,hd⟩:=a;exact⟨o,ho,fun v e=>by rw[hd] at e;cases e⟩
 | ascii a=>obtain ⟨o,ho,hc,hd⟩:=a;exact⟨o,ho,fun v e=>by rw[hd] at e;cases e⟩
 | wide a=>obtain ⟨o,ho,hc,hd⟩:=a;exact⟨o,ho,fun v e=>by rw[hd] at e;cases e⟩
 | rng a=>exact⟨_,a,fun v e=>by cases e⟩
 | dyn _ a=>obtain ⟨o,ho,hc,hd⟩:=a;exact⟨o,ho,fun v e=>by rw[hd] at e;cases e⟩
section
variable {G:Wd} {A:Around} {C:Cx} {env:Env} {W:List Addr} {η η' η₁ η₂ bi:ab} {σ σ' σ₁ σ₂ aj:List AO} {ρ ρ' aa:Rho} {s s' am aA:Shared}
theorem RE.keepAll(N:RE G C env W η ρ s)(K:KeepV s.heap ρ s'.heap ρ')(h1:∀ b∈W,∀ o,s.heap.get? b=some o->s'.heap.get? b=some o)
  (h2:∀ c o v,s.heap.get? c=some o->o.data=.cell v->Off ρ c->s'.heap.get? c=some o):RE G C env W η ρ' s':=by
 refine⟨N.ok,N.sc,N.glob,N.blt,N.lmem,fun b hb=>⟨?_,(N.wok b hb).2⟩,fun b hb=>?_,?_,fun x hx hk=>?_,N.apart⟩
 ·refine aI (N.wk b hb) fun o' e' hd=>?_
  exact K.off (by rw[e'];exact nofun) (N.wok b hb).1
 ·refine aI (N.wk b hb) fun o' e' hd=>?_
  exact⟨o',h1 b hb _ e',hd⟩
 ·refine byQ fun Q kQ=>?_
  refine aI (N.loc) fun m h_1 h=>?_;refine rL (h_1) fun o es ep ho r=>?_
  refine kQ ?_
  refine⟨m,⟨o,es,ep,h1 _ N.lmem _ ho,r⟩,fun x hx hk v hv=>?_⟩
  refine a9 (h x hx hk v hv) fun cv h_p=>?_;have e1:=h_p.1;have e2:=h_p.2
  exact⟨cv,e1,RV.mono K _ _ e2⟩
 ·refine byQ fun Q kQ=>?_
  refine at1 (N.cel x hx hk) fun c ov e1 h_3 h3 h4 h5=>?_;refine aI (h_3) fun o ho hd=>?_
  refine kQ ?_
  refine yZ c ov e1 ⟨o,h2 c o _ ho hd h4,hd⟩ h3 (K.off (by rw[ho];exact nofun) h4) (fun v hv=>?_)
  refine a9 (h5 v hv) fun cv h_p=>?_;have e1:=h_p.1;have e2:=h_p.2
  exact⟨cv,e1,RV.mono K _ _ e2⟩
theorem Step.toW(S:Step G ρ s ρ' s' σ'):StepW G W ρ s ρ' s' σ':=StepW.weaken S fun _ h=>nomatch h
theorem StepW.drop{W':List Addr}(S:StepW G W ρ s ρ' s' σ')(h:∀ b∈W,s.heap.get? b≠none->b∈W'):StepW G W' ρ s ρ' s' σ' where
 rel:=S.rel
 ext:=S.ext
 keep:=fun b o e ho hw hl=>S.keep b o e ho (fun q=>hw (h b q (by rw[e];exact nofun))) hl
 wal:=fun b _ q=>S.alive q
noncomputable def As(G:Wd)(A:Around)(C:Cx)(env:Env)(W:List Addr)(tg:Expr)(v:V)(η η':ab):Prop :=
 ∀ σ ρ s cv,Rel G σ ρ s->RE G C env W η ρ s->RV s.heap ρ v cv->wpAny (model G.prog G.w) A (assign tg env cv) (fun _ s'=>StepW G W ρ s ρ s' σ/\RE G C env W η' ρ s') No s
theorem As.name{x:Var}{pos:Pos}{v:V}(hx:x∈C.vars)(ho:x.own=true):As G A C env W (.Name x.name pos) v η (η.set x.slot (some v)):=fun σ ρ s cv R N r =>
 wpAny_assign_Name (RE.store R N hx ho r fun s' S N'=>⟨S,N'⟩)
noncomputable def jS:ab->List Var->List V->ab
 | η,x::xs,v::vs=>jS (η.set x.slot (some v)) xs vs
 | η,_,_=>η
noncomputable def Names(C:Cx):List Expr->List Var->Prop
 | [],xs=>xs=[]
 | e::es,xs=>∃ x r p,xs=x::r/\e=.Name x.name p/\x∈C.vars/\x.own=true/\Names C es r
theorem Names.length:∀ {es:List Expr} {xs:List Var},Names C es xs->xs.length=es.length
 | [],_,h=>by delta Names at h;rw[h];rfl
 | e::es,xs,h=>by dsimp only[Names] at h;obtain ⟨x,r,p,rfl,_,_,_,h⟩:=h;rw[List.length_cons,List.length_cons,h.length]
theorem Names.each(env:Env):∀ {es:List Expr} {xs:List Var},Names C es xs->(assignEach es env).length=es.length/\(assignEach es env).findIdx? (·.1)=none
 | [],_,h=>⟨rfl,rfl⟩
 | e::es,xs,h=>by
  dsimp only[Names] at h
  obtain ⟨x,r,p,h_p⟩:=h;obtain rfl:=h_p.1;obtain rfl:=h_p.2.1;have h:=h_p.2.2.2.2
  have:=Names.each env h
  have e1:assignEach (.Name x.name p::es) env=(false,assign (.Name x.name p) env)::assignEach es env:=rfl
  refine(e1)▸?_
  exact⟨by rw[List.length_cons,List.length_cons,this.1],by rw[List.findIdx?_cons,this.2];rfl⟩
theorem aio{t:Value->Sem Unit}{ts x xs}:assignInOrder (t::ts) (x::xs)=(holding xs (t x)>>=fun _=>assignInOrder ts xs):=rfl
theorem yG:∀ {es:List Expr} {xs:List Var} {vs:List V} {cvs:List Value} {η:ab} {s:Shared},Names C es xs->vs.length=xs.length->Rel G σ ρ s->RE G C env W η ρ s->RVs s.heap ρ vs cvs ->
  wpAny (model G.prog G.w) A (assignInOrder ((assignEach es env).map (·.2)) cvs) (fun _ s'=>StepW G W ρ s ρ s' σ/\RE G C env W (jS η xs vs) ρ s') No s
 | [],xs,vs,cvs,η,s,h,hl,R,N,r=>by
  delta Names at h;subst h
  have:vs=[]:=List.eq_nil_of_length_eq_zero hl
  subst this
  rw[RVs.nil_iff r]
  exact wpAny_pure ⟨(Step.refl R).toW,N⟩
 | e::es,xs,vs,cvs,η,s,h,hl,R,N,r=>by
  dsimp only[Names] at h
  refine d7 (h) fun x r' p h_p=>?_;obtain rfl:=h_p.1;obtain rfl:=h_p.2.1;have hx:=h_p.2.2.1;have ho:=h_p.2.2.2.1;have h:=h_p.2.2.2.2
  cases vs with
  | nil=>cases hl
  | cons v vs =>
   refine cH (RVs.cons_iff r) fun c cs h_p=>?_;obtain rfl:=h_p.1;have hv:=h_p.2.1;have hvs:=h_p.2.2
   show wpAny _ _ (assignInOrder (assign (.Name x.name p) env::(assignEach es env).map (·.2)) (c::cs)) _ _ s
   rw[aio]
   refine wpAny_bind (wpAny_holding (wpAny_mono (As.name hx ho σ ρ s c R N hv) (fun _ am ⟨ah,aJ⟩=>?_) fun _ _ f=>f.elim))
   refine wpAny_mono (yG h (by simpa using hl) ah.rel aJ (RVs.mono (StepW.keepV R N.wk ah) _ _ hvs)) ((by rintro _ aA ⟨aq,ci⟩;exact⟨ah.trans aq,ci⟩)) fun _ _ f=>f.elim
theorem As.tup{es:List Expr}{xs:List Var}{k}{pos:Pos}{vs:List V}(hh:A.handled=none)(h:Names C es xs)(hl:vs.length=xs.length):As G A C env W (.Tuple es k pos) (.tup vs) η (jS η xs vs):=fun σ ρ s cv R N r=>by
 obtain ⟨hlim,a,cvs,h_p⟩:=RV.tup_iff r;obtain rfl:=h_p.1;have ho:=h_p.2.1;have ht:=h_p.2.2.1;have hr:=h_p.2.2.2
 have hsz:cvs.size=vs.length:=by have:=RVs.length hr;simpa using this
 refine wpAny_assign_Tuple hh ht.isTuple (by rw[(h.each env).1,hsz,hl,h.length]) (h.each env).2 fun h' he=>?_
 have hk:∀ b o,s.heap.get? b=some o->h'.get? b=some o:=fun b o e=>he b o (Nat.ne_of_lt (Heap.lt_size e)) e
 have S:Step G ρ s ρ { s with heap:=h' } σ:=Step.grow R hk ⟨_,_,rfl⟩
 exact wpAny_mono (yG h hl S.rel (N.mono R S) (RVs.sameHeap hk hr)) ((by rintro _ aA ⟨aq,ci⟩;exact⟨S.toW.trans aq,ci⟩)) fun _ _ f=>f.elim
set_option genInjectivity false in
set_option genSizeOf false in
inductive Fl where
 | next | brk | ret (v:V)
noncomputable def RF(h:Heap)(ρ:Rho):Fl->Flow->Prop
 | .next,f=>f=.next
 | .brk,f=>f=.brk
 | .ret v,f=>∃ cv,f=.ret cv/\RV h ρ v cv
inductive PS (G:Wd) (C:Cx) (env:Env) (W:List Addr) (ρ:Rho) (s:Shared) (σ':List AO) (η':ab) (fl:Fl) (f:Flow) (s':Shared):Prop
 | mk (ρ':Rho) (S:StepW G W ρ s ρ' s' σ') (N:RE G C env W η' ρ' s') (r:RF s'.heap ρ' fl f)
noncomputable def Es(G:Wd)(A:Around)(C:Cx)(env:Env)(W:List Addr)(st:Stmt)(σ:List AO)(η:ab)(fl:Fl)(σ':List AO)(η':ab):Prop :=
 ∀ ρ s,Rel G σ ρ s->RE G C env W η ρ s->0<s.toks->wpAny (model G.prog G.w) A (exec st env) (PS G C env W ρ s σ' η' fl) No s
noncomputable def Ess(G:Wd)(A:Around)(C:Cx)(env:Env)(W:List Addr)(st:List Stmt)(σ:List AO)(η:ab)(fl:Fl)(σ':List AO)(η':ab):Prop :=
 ∀ ρ s,Rel G σ ρ s->RE G C env W η ρ s->0<s.toks->wpAny (model G.prog G.w) A (execs st env) (PS G C env W ρ s σ' η' fl) No s
theorem Es.use{st:Stmt}{fl:Fl}{Q:Flow->Shared->Prop}{E:Value->Shared->Prop}(H:Es G A C env W st σ η fl σ' η')(R:Rel G σ ρ s)(N:RE G C env W η ρ s)(ht:0<s.toks)
  (k:∀ f s' ρ',StepW G W ρ s ρ' s' σ'->RE G C env W η' ρ' s'->0<s'.toks->RF s'.heap ρ' fl f->Q f s'):wpAny (model G.prog G.w) A (exec st env) Q E s :=
 eI (H ρ s R N ht) (by rintro cv s' hle ⟨ρ',S,N',r⟩;exact k cv s' ρ' S N' (Nat.lt_of_lt_of_le ht hle) r)
theorem Ess.use{st:List Stmt}{fl:Fl}{Q:Flow->Shared->Prop}{E:Value->Shared->Prop}(H:Ess G A C env W st σ η fl σ' η')(R:Rel G σ ρ s)(N:RE G C env W η ρ s)(ht:0<s.toks)
  (k:∀ f s' ρ',StepW G W ρ s ρ' s' σ'->RE G C env W η' ρ' s'->0<s'.toks->RF s'.heap ρ' fl f->Q f s'):wpAny (model G.prog G.w) A (execs st env) Q E s :=
 eI (H ρ s R N ht) (by rintro cv s' hle ⟨ρ',S,N',r⟩;exact k cv s' ρ' S N' (Nat.lt_of_lt_of_le ht hle) r)
theorem Ess.nil:Ess G A C env W [] σ η .next σ η:=fun ρ s R N ht=>wpAny_execs_nil ⟨ρ,(Step.refl R).toW,N,rfl⟩
theorem Ess.cons{st:Stmt}{rest:List Stmt}{fl:Fl}(h:Es G A C env W st σ η .next σ₁ η₁)(hr:Ess G A C env W rest σ₁ η₁ fl σ₂ η₂):Ess G A C env W (st::rest) σ η fl σ₂ η₂:=fun ρ s R N ht =>
 wpAny_execs_cons (h.use R N ht fun f am aa ah aJ aK av=>by
  have e:f=.next:=av
  subst e
  exact hr.use ah.rel aJ aK fun f aA au aq ci cU aF=>⟨au,ah.trans aq,ci,aF⟩)
theorem Ess.stop{st:Stmt}{rest:List Stmt}{fl:Fl}(hf:fl≠.next)(h:Es G A C env W st σ η fl σ₁ η₁):Ess G A C env W (st::rest) σ η fl σ₁ η₁:=fun ρ s R N ht =>
 wpAny_execs_cons (h.use R N ht fun f am aa ah aJ aK av=>by
  cases fl with
  | next=>exact absurd rfl hf
  | brk=>have e:f=.brk:=av;subst e;exact⟨aa,ah,aJ,rfl⟩
  | ret v=>obtain ⟨cv,rfl,hv⟩:=av;exact⟨aa,ah,aJ,cv,rfl,hv⟩)
noncomputable def dG(e:Expr):Bool:=!(e.ctorIdx==8 || e.ctorIdx==9 || e.ctorIdx==10)
theorem eu{e:Expr}(h:dG e=true)(t:Option Expr)(l:Nat):swapsWith e t l env=pure false:=by
 cases e <;> first | rfl | exact ftr h
theorem Es.asg{x:Var}{e:Expr}{p pos:Pos}{v:V}(hx:x∈C.vars)(ho:x.own=true)(hc:dG e=true)(h:Ev G A C env W e σ η v σ₁):Es G A C env W (.Assign [.Name x.name p] e pos) σ η .next σ₁ (η.set x.slot (some v)):=fun ρ s R N ht =>
 wpAny_Assign_Name (h.use R N ht fun cv am aa ah aJ aK av=>RE.store ah.rel aJ hx ho av fun aA aq ci=>⟨aa,ah.toW.trans aq,ci,rfl⟩) (eu hc _ _)
noncomputable def hX1{α:Type}:Sem α->Option α
 | .pure a=>some a
 | _=>none
theorem cG1{α:Type}{x:Sem α}{a:α}(h:hX1 x=some a):x=Pure.pure a:=by cases x <;> first | exact nso h | exact congrArg Sem.pure (siX h)
noncomputable def is1(C:Cx):Env:={ scope:=C.scope,locals:=0,globals:=0,cells:=[] }
noncomputable def mr(C:Cx)(ts:List Expr)(value:Expr):Option (Option (List Str)):=hX1 (swappedStores [.Tuple ts 0 ⟨0,0,0,0⟩] value (is1 C))
theorem wI{ts:List Expr}{k}{p:Pos}{value:Expr}(hs:env.scope=C.scope):swappedStores [.Tuple ts k p] value env=swappedStores [.Tuple ts 0 ⟨0,0,0,0⟩] value (is1 C):=by
 obtain ⟨sc,lo,gl,ce,qu,fu,co,fr,bl⟩:=env
 have e:sc=C.scope:=hs
 subst e
 cases value <;> rfl
theorem gn{ts:List Expr}{k}{p:Pos}{value:Expr}{r:Option (List Str)}(hs:env.scope=C.scope)(hf:C.scope.kind=.function)(h:mr C ts value=some r) :
  swappedStores [.Tuple ts k p] value env=pure r:=(wI hs).trans (cG1 h)
theorem Es.asgT{ts:List Expr}{xs:List Var}{k}{e:Expr}{p pos:Pos}{vs:List V}(hh:A.handled=none)(hc:dG e=true)(hw:mr C ts e=some none)(hn:Names C ts xs)(hl:vs.length=xs.length)
  (h:Ev G A C env W e σ η (.tup vs) σ₁):Es G A C env W (.Assign [.Tuple ts k p] e pos) σ η .next σ₁ (jS η xs vs):=fun ρ s R N ht =>
 Assign_Tuple (h.use R N ht fun cv am aa ah aJ aK av=>wpAny_mono (As.tup hh hn hl σ₁ aa am cv ah.rel aJ av) ((by rintro _ aA ⟨aq,ci⟩;exact⟨aa,ah.toW.trans aq,ci,rfl⟩)) fun _ _ f=>f.elim)
  (show swapsWith e (some (.Tuple ts k p)) pos.line env=pure false from eu hc _ _) (gn N.sc (Cx.ok_parts N.ok).1 hw)
theorem Es.asg2{x y:Var}{ts:List Expr}{k}{e:Expr}{p pos:Pos}{u v:V}(hh:A.handled=none)(hc:dG e=true)(hw:mr C ts e=some (some [x.name,y.name]))
  (hx:x∈C.vars) (hxo:x.own=true) (hy:y∈C.vars) (hyo:y.own=true)
  (h:Ev G A C env W e σ η (.tup [u,v]) σ₁):Es G A C env W (.Assign [.Tuple ts k p] e pos) σ η .next σ₁ ((η.set y.slot (some v)).set x.slot (some u)):=fun ρ s R N ht =>
 Assign_Tuple_swapped (names:=[x.name,y.name]) (h.use R N ht fun cv am aa ah aJ aK av=>by
  obtain ⟨hlim,a,cvs,h_p⟩:=RV.tup_iff av;obtain rfl:=h_p.1;have ho:=h_p.2.1;have hpl:=h_p.2.2.1;have hr:=h_p.2.2.2
  have hsz:cvs.size=2:=by have:=RVs.length hr;exact this
  rw[show [x.name,y.name].length=cvs.size by rw[hsz];rfl]
  refine wpAny_unpackItems_tuple hh hpl.isTuple fun h' he=>?_
  refine byQ fun Q kQ=>?_
  have hk:∀ b o,am.heap.get? b=some o->h'.get? b=some o:=fun b o e=>he b o (Nat.ne_of_lt (Heap.lt_size e)) e
  have S:Step G aa am aa { am with heap:=h' } σ₁:=Step.grow ah.rel hk ⟨_,_,rfl⟩
  have ci:=aJ.mono ah.rel S
  refine cH (RVs.cons_iff (RVs.sameHeap hk hr)) fun bz r' h_p=>?_;have e1:=h_p.1;have q1:=h_p.2.1;have q2:=h_p.2.2
  refine cH (RVs.cons_iff q2) fun b6 r'' h_p=>?_;have e2:=h_p.1;have q3:=h_p.2.1;have q4:=h_p.2.2
  rw[RVs.nil_iff q4] at e2
  refine kQ ?_
  rw[e1,e2]
  show wpAny _ _ (assignInOrder [bindName env y.name,bindName env x.name] [b6,bz]) _ _ _
  rw[aio]
  refine wpAny_bind (wpAny_holding (wpAny_bindName (RE.store S.rel ci hy hyo q3 fun aA aq md=>?_)))
  rw[aio]
  refine wpAny_bind (wpAny_holding (wpAny_bindName (RE.store aq.rel md hx hxo (RV.mono (StepW.keepV S.rel ci.wk aq) _ _ q1) fun dY bQ l7=>?_)))
  exact wpAny_pure ⟨aa,ah.toW.trans (S.toW.trans (aq.trans bQ)),l7,rfl⟩)
  (show swapsWith e (some (.Tuple ts k p)) pos.line env=pure false from eu hc _ _) (gn N.sc (Cx.ok_parts N.ok).1 hw)
theorem Es.aug{x:Var}{e:Expr}{op:Operator}{p pos:Pos}{u v w:V}(hx:x∈C.vars)(ho:x.own=true)(hu:η[x.slot]?=some (some u))(h:Ev G A C env W e σ η v σ₁)
  (hop:On G A (fun | [a,b]=>inplaceOp op a b | _=>pure .none) σ₁ [u,v] w σ₂):Es G A C env W (.AugAssign (.Name x.name p) op e pos) σ η .next σ₂ (η.set x.slot (some w)):=fun ρ s R N ht =>
 wpAny_AugAssign_Name (RE.load R N hx hu fun kQ1 gm1=>h.use R N ht fun cv am aa ah aJ aK av =>
  hop.use ah.rel (RVs.cons (RV.mono (Step.keepV R ah) _ _ gm1) (RVs.cons av RVs.nil)) aK fun b6 aA au aq cU aF =>
   RE.store aq.rel (aJ.mono ah.rel aq) hx ho aF fun dY bQ md=>⟨au,ah.toW.trans (aq.toW.trans bQ),md,rfl⟩)
theorem d9(N:RE G C env W η ρ s):interactive env=false:=by
 dsimp only[interactive]
 rw[N.sc,(Cx.ok_parts N.ok).1];rfl
theorem Es.expr{e:Expr}{pos:Pos}{v:V}(hc:dG e=true)(h:Ev G A C env W e σ η v σ₁):Es G A C env W (.Expr e pos) σ η .next σ₁ η:=fun ρ s R N ht =>
 wpAny_Expr_any (h.use R N ht fun cv am aa ah aJ aK av=>⟨aa,ah.toW,aJ,rfl⟩) (d9 N) (eu hc _ _)
theorem Es.ret{e:Expr}{pos:Pos}{v:V}(h:Ev G A C env W e σ η v σ₁):Es G A C env W (.Return (some e) pos) σ η (.ret v) σ₁ η:=fun ρ s R N ht =>
 wpAny_Return_some (h.use R N ht fun cv am aa ah aJ aK av=>⟨aa,ah.toW,aJ,cv,rfl,av⟩)
theorem Es.brk{pos:Pos}:Es G A C env W (.Break pos) σ η .brk σ η:=fun ρ s R N ht=>wpAny_Break ⟨ρ,(Step.refl R).toW,N,rfl⟩
theorem Es.pass{pos:Pos}:Es G A C env W (.Pass pos) σ η .next σ η:=fun ρ s R N ht=>wpAny_Pass ⟨ρ,(Step.refl R).toW,N,rfl⟩
theorem Es.assert{e:Expr}{pos:Pos}(hh:A.handled=none)(h:Et G A C env W e σ η true σ₁):Es G A C env W (.Assert e none pos) σ η .next σ₁ η:=fun ρ s R N ht =>
 wpAny_Assert_new hh (h.use R N ht fun am aa ah aJ aK=>by
  rw[if_pos rfl]
  exact⟨aa,ah.toW,aJ,rfl⟩)
theorem Es.if_{e:Expr}{b o:List Stmt}{pos:Pos}{c:Bool}{fl:Fl}(h:Et G A C env W e σ η c σ₁)(hb:c=true->Ess G A C env W b σ₁ η fl σ₂ η₂)(ho:c=false->Ess G A C env W o σ₁ η fl σ₂ η₂) :
  Es G A C env W (.If e b o pos) σ η fl σ₂ η₂:=fun ρ s R N ht =>
 wpAny_If (h.use R N ht fun am aa ah aJ aK=>by
  cases c with
  | true=>rw[if_pos rfl];exact(hb rfl).use ah.rel aJ aK fun f aA au aq ci cU aF=>⟨au,ah.toW.trans aq,ci,aF⟩
  | false=>rw[if_neg (by decide)];exact(ho rfl).use ah.rel aJ aK fun f aA au aq ci cU aF=>⟨au,ah.toW.trans aq,ci,aF⟩)
noncomputable def Od(G:Wd)(A:Around)(σ:List AO)(u v:V)(σ':List AO):Prop :=
 ∀ ρ s bz b6,Rel G σ ρ s->RV s.heap ρ u bz->RV s.heap ρ v b6->0<s.toks->wpAny (model G.prog G.w) A (delItem bz b6) (fun _ s'=>∃ ρ',Step G ρ s ρ' s' σ') No s
theorem Es.del{o i:Expr}{p pos:Pos}{u v:V}(dB:Ev G A C env W o σ η u σ₁)(cP:Ev G A C env W i σ₁ η v σ₂)
  (hop:Od G A σ₂ u v aj):Es G A C env W (.Delete [.Subscript o i p] pos) σ η .next aj η:=fun ρ s R N ht=>by
 refine wpAny_Delete ?_
 rw[arm_deleteEach_cons]
 refine wpAny_bind ?_
 rw[arm_delete_Subscript]
 refine wpAny_bind (dB.use R N ht fun bz am aa ah aJ aK av=>wpAny_bind (wpAny_holding (cP.use ah.rel aJ aK fun b6 aA au aq ci cU aF=>?_)))
 refine wpAny_bind (wpAny_standAt (wpAny_bind (wpAny_holding (wpAny_mono (hop au aA bz b6 aq.rel (RV.mono (Step.keepV ah.rel aq) _ _ av) aF cU) (fun _ dY ⟨bA,bQ⟩=>?_) fun _ _ f=>f.elim))))
 exact wpAny_release (wpAny_deleteEach_nil ⟨bA,Step.toW (ah.trans (aq.trans bQ)),ci.mono aq.rel bQ,rfl⟩)
end
noncomputable def WhR(G:Wd)(A:Around)(C:Cx)(env:Env)(W:List Addr)(test:Expr)(body:List Stmt):Nat->List AO->ab->Fl->List AO->ab->Prop
 | 0,σ,η,fl,σ',η'=>(Et G A C env W test σ η false σ'/\fl=.next/\η'=η)\/∃ σ₁,Et G A C env W test σ η true σ₁/\((fl=.next/\Ess G A C env W body σ₁ η .brk σ' η')\/∃ v,fl=.ret v/\Ess G A C env W body σ₁ η (.ret v) σ' η')
 | n+1,σ,η,fl,σ',η'=>∃ σ₁ σ₂ η₂,Et G A C env W test σ η true σ₁/\Ess G A C env W body σ₁ η .next σ₂ η₂/\WhR G A C env W test body n σ₂ η₂ fl σ' η'
noncomputable def FoR(G:Wd)(A:Around)(C:Cx)(env:Env)(W:List Addr)(tg:Expr)(body:List Stmt):Nat->ItS->List AO->ab->Fl->List AO->ab->Prop
 | 0,st,σ,η,fl,σ',η'=>(st.step σ=some none/\fl=.next/\σ'=σ/\η'=η)\/∃ x st' η₁,st.step σ=some (some (x,st'))/\As G A C env W tg x η η₁/\((fl=.next/\Ess G A C env W body σ η₁ .brk σ' η')\/∃ v,fl=.ret v/\Ess G A C env W body σ η₁ (.ret v) σ' η')
 | n+1,st,σ,η,fl,σ',η'=>∃ x st' η₁ σ₂ η₂,st.step σ=some (some (x,st'))/\As G A C env W tg x η η₁/\Ess G A C env W body σ η₁ .next σ₂ η₂/\FoR G A C env W tg body n st' σ₂ η₂ fl σ' η'
section
variable {G:Wd} {A:Around} {C:Cx} {env:Env} {W W':List Addr} {η η' η₁ η₂ bi:ab} {σ σ' σ₁ σ₂ aj:List AO} {ρ ρ' aa:Rho} {s s' am aA:Shared}
section
variable {test tg:Expr} {body:List Stmt} {n:Nat} {fl:Fl} {v x:V} {st st':ItS}
theorem WhR.stop(h:Et G A C env W test σ η false σ₁):WhR G A C env W test body 0 σ η .next σ₁ η:=.inl ⟨h,rfl,rfl⟩
theorem WhR.turn(h:Et G A C env W test σ η true σ₁)(hb:Ess G A C env W body σ₁ η .next σ₂ η₂)(hr:WhR G A C env W test body n σ₂ η₂ fl aj bi):WhR G A C env W test body (n+1) σ η fl aj bi:=⟨_,_,_,h,hb,hr⟩
theorem WhR.brk(h:Et G A C env W test σ η true σ₁)(hb:Ess G A C env W body σ₁ η .brk σ₂ η₂):WhR G A C env W test body 0 σ η .next σ₂ η₂:=.inr ⟨_,h,.inl ⟨rfl,hb⟩⟩
theorem WhR.ret(h:Et G A C env W test σ η true σ₁)(hb:Ess G A C env W body σ₁ η (.ret v) σ₂ η₂):WhR G A C env W test body 0 σ η (.ret v) σ₂ η₂:=.inr ⟨_,h,.inr ⟨v,rfl,hb⟩⟩
theorem FoR.stop(h:st.step σ=some none):FoR G A C env W tg body 0 st σ η .next σ η:=.inl ⟨h,rfl,rfl,rfl⟩
theorem FoR.turn(h:st.step σ=some (some (x,st')))(ha:As G A C env W tg x η η₁)(hb:Ess G A C env W body σ η₁ .next σ₂ η₂)(hr:FoR G A C env W tg body n st' σ₂ η₂ fl aj bi):FoR G A C env W tg body (n+1) st σ η fl aj bi:=⟨_,_,_,_,_,h,ha,hb,hr⟩
theorem FoR.brk(h:st.step σ=some (some (x,st')))(ha:As G A C env W tg x η η₁)(hb:Ess G A C env W body σ η₁ .brk σ₂ η₂):FoR G A C env W tg body 0 st σ η .next σ₂ η₂:=.inr ⟨_,_,_,h,ha,.inl ⟨rfl,hb⟩⟩
theorem FoR.ret(h:st.step σ=some (some (x,st')))(ha:As G A C env W tg x η η₁)(hb:Ess G A C env W body σ η₁ (.ret v) σ₂ η₂):FoR G A C env W tg body 0 st σ η (.ret v) σ₂ η₂:=.inr ⟨_,_,_,h,ha,.inr ⟨v,rfl,hb⟩⟩
end
inductive WInv (G:Wd) (A:Around) (C:Cx) (env:Env) (W:List Addr) (test:Expr) (body:List Stmt) (fl:Fl) (σ':List AO) (η':ab) (ρ:Rho) (s:Shared) (m:Nat) (s':Shared):Prop
 | mk (σ₁:List AO) (η₁:ab) (aa:Rho) (H:WhR G A C env W test body m σ₁ η₁ fl σ' η') (S:StepW G W ρ s aa s' σ₁) (N:RE G C env W η₁ aa s') (t:0<s'.toks)
theorem Es.while{test:Expr}{body:List Stmt}{pos:Pos}{n:Nat}{fl:Fl}(H:WhR G A C env W test body n σ η fl σ' η'):Es G A C env W (.While test body [] pos) σ η fl σ' η':=fun ρ s R N ht=>by
 refine wpAny_While ?_
 refine codeAny_whileLoop (I:=WInv G A C env W test body fl σ' η' ρ s) ?_ n ⟨σ,η,ρ,H,(Step.refl R).toW,N,ht⟩
 rintro m am ⟨σ₁,η₁,aa,wd,ah,aJ,aK⟩
 cases m with
 | succ m =>
  refine byQ fun Q kQ=>?_
  refine d7 (wd) fun _ _ _ h_p=>?_;have h:=h_p.1;have hb:=h_p.2.1;have hr:=h_p.2.2
  refine kQ ?_
  refine h.use ah.rel aJ aK fun aA au aq ci cU=>?_
  rw[if_pos rfl]
  refine hb.use aq.rel ci cU fun f dY bA bQ md jK fD=>?_
  have e:f=.next:=fD
  subst e
  exact⟨_,Nat.lt_succ_self _,⟨_,_,bA,hr,ah.trans (aq.toW.trans bQ),md,jK⟩⟩
 | zero =>
  refine Or.elim (wd) (fun h_l=>?_) (fun h_r=>?_)
  ·obtain ⟨h,rfl,rfl⟩:=h_l
   refine h.use ah.rel aJ aK fun aA au aq ci cU=>?_
   rw[if_neg (by decide)]
   exact wpAny_execs_nil ⟨au,ah.trans aq.toW,ci,rfl⟩
  ·obtain ⟨_,h,wd⟩:=h_r
   refine h.use ah.rel aJ aK fun aA au aq ci cU=>?_
   rw[if_pos rfl]
   rcases wd with ⟨rfl,hb⟩ | ⟨v,rfl,hb⟩
   ·refine hb.use aq.rel ci cU fun f dY bA bQ md jK fD=>?_
    have e:f=.brk:=fD
    subst e
    exact⟨bA,ah.trans (aq.toW.trans bQ),md,rfl⟩
   ·refine hb.use aq.rel ci cU fun f dY bA bQ md jK fD=>?_
    obtain ⟨cv,h_p⟩:=fD;obtain rfl:=h_p.1;have hv:=h_p.2
    exact⟨bA,ah.trans (aq.toW.trans bQ),md,cv,rfl,hv⟩
theorem FoR.step_ok{tg:Expr}{body:List Stmt}{n:Nat}{st:ItS}{fl:Fl}(H:FoR G A C env W tg body n st σ η fl σ' η'):st.step σ≠none:=by
 cases n with
 | zero=>exact H.elim (fun h e=>nomatch h.1.symm.trans e) (by rintro ⟨_,_,_,h,_⟩ e;exact nomatch h.symm.trans e)
 | succ n=>refine jf1 (H) fun _ _ _ _ _ h _=>?_;exact fun e=>nomatch h.symm.trans e
theorem JI.letOwned{tg:Expr}{I:Addr}{cv:Value}{st:ItS}(J:JI s.heap ρ I st){Q:Unit->Shared->Prop}{E:Value->Shared->Prop}(h:Q () s):wpAny (model G.prog G.w) A (letOwnedTupleGo tg (.ref I) cv) Q E s:=by
 refine oM (J.cls) fun o T ho hc hT=>?_
 have hno:["enumerate","zip","dict_itemiterator","dict_reverseitemiterator","odict_iterator","itertools.zip_longest","itertools.pairwise"].contains T=false:=by
  revert hT;unfold nb;intro hT
  simp only[List.mem_cons,List.not_mem_nil,or_false] at hT
  rcases hT with rfl | rfl | rfl | rfl | rfl <;> decide
 have main:∀ a:Addr,wpAny (model G.prog G.w) A (do
   let o ← load I
   match o.cls,o.data with
   | .type n,.fields vs =>
    if ["enumerate","zip","dict_itemiterator","dict_reverseitemiterator","odict_iterator","itertools.zip_longest","itertools.pairwise"].contains n&&vs[0]?==some (rawInt a) then
     rule "for.unpacks-the-owned-tuple"
     updateField I 0 .none
   | _,_=>pure ()) Q E s:=by
  intro a
  refine wpAny_bind (wpAny_load ho ?_)
  refine(hc)▸?_
  cases o.data <;> first
   | exact wpAny_pure h
   | (dsimp only;rw[hno,Bool.false_and];exact wpAny_pure h)
 unfold letOwnedTupleGo
 cases tg <;> first
  | exact wpAny_pure h
  | (cases cv <;> first | exact wpAny_pure h | exact main _)
theorem StepW.ofNew{I:Addr}(S:StepW G (I::W) ρ s ρ' s' σ')(h:s.heap.get? I=none):StepW G W ρ s ρ' s' σ' :=
 S.drop fun b hb hne=>by
  rcases List.mem_cons.mp hb with e | hb
  ·rw[e] at hne;exact absurd h hne
  ·exact hb
theorem RE.iterStep{I:Addr}{st:ItS}(N:RE G C env W η ρ s)(J:JI s.heap ρ I st)(hI:I ∉ W)(K:KeepV s.heap ρ s'.heap ρ)(hs:Heap.ExtBut I s.heap s'.heap):RE G C env W η ρ s' :=
 N.keepAll K (fun b hb o e=>hs b o (by rintro rfl;exact hI hb) e) fun c o v e hd _=>hs c o (by
  rintro rfl
  refine aI (J.no_cell) fun o' e' hno=>?_
  rw[e] at e';obtain rfl:=siX e'
  exact hno v hd) e
theorem mL{I:Addr}{st st':ItS}{x:V}(hst:st.step σ=some (some (x,st')))(R:Rel G σ ρ s)(J:JI s.heap ρ I st)(N:RE G C env W η ρ s)(hI:I ∉ W)
  (hoff:Off ρ I) (hbase:G.s₀.heap.get? I=none) (hloose:I ∉ G.loose) {Q:Option Value->Shared->Prop} {E:Value->Shared->Prop}
  (k:∀ cv s',StepW G (I::W) ρ s ρ s' σ->RE G C env W η ρ s'->RV s'.heap ρ x cv->JI s'.heap ρ I st'->Q (some cv) s'):wpAny (model G.prog G.w) A (pyNext (.ref I)) Q E s :=
 ik hst R J hoff hbase hloose fun cv s' S K r J'=>by
  refine k cv s' (S.weaken fun b hb=>by rw[List.mem_singleton.mp hb];exact List.mem_cons_self) ?_ r J'
  refine N.keepAll K (fun b hb o e=>S.keep b o e (N.wok b hb).1.1 (by rw[List.mem_singleton];rintro rfl;exact hI hb) (N.wok b hb).2.2) fun c o v e hd ho=>?_
  refine S.keep c o e ho.1 (by
   rw[List.mem_singleton];rintro rfl
   refine aI (J.no_cell) fun o' e' hno=>?_
   rw[e] at e';obtain rfl:=siX e'
   exact hno v hd) (cM R e hd)
theorem StepW.closeNew{I:Addr}{eV:Rho}{s₀:Shared}{h':Heap}{t:Nat}(mb:StepW G (I::W) eV s₀ ρ s σ)(hnew:s₀.heap.get? I=none)(hns:∃ o,s.heap.get? I=some o/\¬ Solid o)(hs:Heap.ExtBut I s.heap h')
  (hoff:Off ρ I) (hbase:G.s₀.heap.get? I=none) (hloose:I ∉ G.loose):StepW G W eV s₀ ρ { s with heap:=h',toks:=t } σ/\KeepV s.heap ρ h' ρ:=by
 refine byQ fun Q kQ=>?_
 obtain ⟨oi,hoi,hni⟩:=hns
 have R:=mb.rel
 have K:KeepV s.heap ρ h' ρ:=⟨⟨[],(List.append_nil _).symm,fun _ h=>nomatch h⟩,fun _ h=>.inl h,fun b o e _ hsol=>hs b o (by rintro rfl;rw[hoi] at e;obtain rfl:=siX e;exact hni hsol) e⟩
 have R':Rel G σ ρ { s with heap:=h',toks:=t }:=by
  refine⟨R.len,R.inj,fun j p o hp hx'=>?_,R.fresh,fun b o hl e=>?_,fun b hb=>?_,?_,R.bare,fun b hb=>?_⟩
  ·have hp':=hoff.1 p (List.mem_of_getElem? hp)
   exact(R.obj j p o hp hx').mono K (fun y e=>hs _ y hp'.1 e) fun y e=>hs _ y hp'.2 e
  ·exact hs b o (by rintro rfl;rw[hbase] at e;exact nso e) (R.keep b o hl e)
  ·obtain ⟨vs,h_p⟩:=R.lse b hb;have e:=h_p.1;have etr:=h_p.2
   exact⟨vs,hs b _ (by rintro rfl;exact hloose hb) e,etr⟩
  ·refine d7 (R.same) fun h tk gs e=>?_
   exact dP1 h' t gs (by rw[e])
  ·show h'.get? b≠none
   refine fE (s.heap.get? b) (fun e=>?_) (fun x e=>?_)
   ·exact absurd e (R.hidden b hb)
   ·rw[hs b x (by rintro rfl;exact hoff.2 hb) e];exact nofun
 refine kQ ?_
 refine⟨⟨R',mb.ext,fun b o e ho hw hl=>?_,fun b hb hne=>?_⟩,K⟩
 ·have hbI:b≠I:=by rintro rfl;rw[hnew] at e;exact nso e
  exact hs b o hbI (mb.keep b o e ho (by rw[List.mem_cons];rintro (h | h);exact hbI h;exact hw h) hl)
 ·have hbI:b≠I:=by rintro rfl;exact hne hnew
  have:=mb.wal b (List.mem_cons_of_mem _ hb) hne
  show h'.get? b≠none
  refine fE (s.heap.get? b) (fun e=>?_) (fun x e=>?_)
  ·exact absurd e this
  ·rw[hs b x hbI e];exact nofun
theorem mK{I:Addr}{st:ItS}{eV:Rho}{s₀:Shared}(hh:A.handled=none)(hst:st.step σ=some none)(mb:StepW G (I::W') eV s₀ ρ s σ)(hnew:s₀.heap.get? I=none)(J:JI s.heap ρ I st)(N:RE G C env W η ρ s)(hI:I ∉ W)
  (hoff:Off ρ I) (hbase:G.s₀.heap.get? I=none) (hloose:I ∉ G.loose) {Q:Option Value->Shared->Prop} {E:Value->Shared->Prop}
  (k:∀ s',StepW G W' eV s₀ ρ s' σ->RE G C env W η ρ s'->KeepV s.heap ρ s'.heap ρ->Heap.ExtBut I s.heap s'.heap->Q none s'):wpAny (model G.prog G.w) A (pyNext (.ref I)) Q E s :=
 ij hh hst mb.rel J hoff hbase hloose fun s' ⟨h',e,hs⟩=>by
  subst e
  refine gu (mb.closeNew (t:=s.toks) hnew J.not_solid hs hoff hbase hloose) fun S K=>?_
  exact k _ S (N.iterStep J hI K hs) K hs
noncomputable def gv(e:Expr):Bool:=!(e.ctorIdx==7)
theorem dL{e:Expr}(h:gv e=true)(x:Value):foldedSetIterable e env x=pure x:=by
 cases e <;> first | rfl | exact ftr h
structure NewI (G:Wd) (W:List Addr) (ρ:Rho) (s:Shared) (I:Addr):Prop where
 new:s.heap.get? I=none
 base:G.s₀.heap.get? I=none
 loose:I ∉ G.loose
 notW:I ∉ W
theorem jq1(R:Rel G σ ρ s)(N:RE G C env W η ρ s):NewI G W ρ s s.heap.objs.size where
 new:=aE _
 base:=by
  cases e:G.s₀.heap.get? s.heap.objs.size with
  | none=>rfl
  | some x =>
   by_cases hl:s.heap.objs.size∈G.loose
   ·refine aI (R.lse _ hl) fun vs e' etr=>?_
    rw[aE] at e';exact nso e'
   ·have:=R.keep _ _ hl e
    rw[aE] at this;exact nso this
 loose:=fun hl=>by
  refine aI (R.lse _ hl) fun vs e' etr=>?_
  rw[aE] at e';exact nso e'
 notW:=fun hw=>by
  refine a9 (N.wk _ hw) fun o h_p=>?_;have e:=h_p.1
  rw[aE] at e;exact nso e
theorem StepW.offI{I:Addr}(S:StepW G W' ρ s ρ' s' σ')(h:s.heap.get? I≠none)(ho:Off ρ I):Off ρ' I :=
 ⟨S.off h ho.1,by refine aI (S.ext) fun new e _=>?_;rw[e];exact ho.2⟩
theorem ly{tg:Expr}{body:List Stmt}{I:Addr}{st st':ItS}{x:V}{fl:Fl}{E:Value->Shared->Prop}{e71:Shared->Prop}{Q:Flow->Shared->Prop}{eV:Rho}{s₀:Shared}(Z:NewI G W eV s₀ I)(R:Rel G σ ρ s)(N:RE G C env W η ρ s)(J:JI s.heap ρ I st)(ho:Off ρ I)(t:0<s.toks)
  (hst:st.step σ=some (some (x,st'))) (ha:As G A C env W tg x η η₁) (hb:Ess G A C env W body σ η₁ fl σ' η')
  (k:∀ f s' ρ',StepW G (I::W) ρ s ρ' s' σ'->RE G C env W η' ρ' s'->JI s'.heap ρ' I st'->Off ρ' I->0<s'.toks->RF s'.heap ρ' fl f->Q f s') :
  wpAny (model G.prog G.w) A (pyNext (.ref I)) (fun r am=>match r with
    | none=>e71 am
    | some v=>wpAny (model G.prog G.w) A (letOwnedTupleGo tg (.ref I) v) (fun _ wH =>
      wpAny (model G.prog G.w) A (assign tg env v) (fun _ aA=>wpAny (model G.prog G.w) A (execs body env) Q E aA) E wH) E am) E s:=by
 refine wpAny_with_toks (Nat.le_refl _) (mL hst R J N Z.notW ho Z.base Z.loose fun cv kF jf l7 wZ fb1 ef1=>?_)
 have keepI:∀ {ρa ρb:Rho} {sa sb:Shared} {σb:List AO},StepW G W ρa sa ρb sb σb->WOk W sa.heap->Rel G σ ρa sa->JI sa.heap ρa I st'->Off ρa I->JI sb.heap ρb I st'/\Off ρb I:=fun S hwk Ra Ja ho =>
  ⟨Ja.keep (StepW.keepV Ra hwk S) fun o e=>S.keep I o e ho.1 Z.notW Z.loose,S.offI (by
   refine cH (Ja.cls) fun o _ h_p=>?_;have e:=h_p.1
   rw[e];exact nofun) ho⟩
 refine fb1.letOwned (eI (ha σ ρ kF cv jf.rel l7 wZ) fun _ n8 ee1 wj=>?_)
 have b01:=keepI wj.1 l7.wk jf.rel fb1 ho
 refine hb.use wj.1.rel wj.2 (Nat.lt_of_lt_of_le (Nat.lt_of_lt_of_le t ef1) ee1) fun f hS1 zh bZ1 hE1 fY1 gk1=>?_
 have iC1:=keepI bZ1 wj.2.wk wj.1.rel b01.1 b01.2
 exact k f hS1 zh (jf.trans ((wj.1.trans bZ1).weaken fun b hb=>List.mem_cons_of_mem _ hb)) hE1 iC1.1 iC1.2 fY1 gk1
inductive FInv (G:Wd) (A:Around) (C:Cx) (env:Env) (W:List Addr) (tg:Expr) (body:List Stmt) (fl:Fl) (σ':List AO) (η':ab) (I:Addr) (ρ:Rho) (s:Shared) (m:Nat) (s':Shared):Prop
 | mk (st:ItS) (σ₁:List AO) (η₁:ab) (aa:Rho) (H:FoR G A C env W tg body m st σ₁ η₁ fl σ' η') (S:StepW G (I::W) ρ s aa s' σ₁) (N:RE G C env W η₁ aa s') (J:JI s'.heap aa I st) (o:Off aa I) (t:0<s'.toks)
theorem Es.for_{tg iter:Expr}{body:List Stmt}{pos:Pos}{n:Nat}{v:V}{st:ItS}{fl:Fl}(hh:A.handled=none)(hs:gv iter=true)(h:Ev G A C env W iter σ η v σ₁)(hi:ba v=some st)
  (H:FoR G A C env W tg body n st σ₁ η fl σ' η'):Es G A C env W (.For tg iter body [] pos) σ η fl σ' η':=fun ρ s R N ht=>by
 refine wpAny_For (h.use R N ht fun cv am aa ah aJ aK av=>?_) (fun x=>dL hs x)
 refine wpAny_with_toks (Nat.le_refl _) (im hi H.step_ok ah.rel av fun aA aq hk hoff J hle=>?_)
 have NI:=jq1 ah.rel aJ
 generalize am.heap.objs.size=I at *
 -- the loop,told from am
 refine codeAny_forLoop_any (I:=FInv G A C env W tg body fl σ' η' I aa am) ?_ n
  ⟨st,σ₁,η,aa,H,aq.toW,aJ.mono ah.rel aq,J,hoff,Nat.lt_of_lt_of_le aK hle⟩
 rintro m dY ⟨st',aj,bi,bA,fL1,bQ,md,fJ1,lw,jK⟩
 have close:∀ {f:Flow} {gX:Rho} {kF:Shared},StepW G (I::W) aa am gX kF σ'->RE G C env W η' gX kF->RF kF.heap gX fl f->PS G C env W ρ s σ' η' fl f kF :=
  fun jf l7 r=>⟨_,ah.toW.trans (jf.ofNew NI.new),l7,r⟩
 cases m with
 | succ m =>
  refine byQ fun Q kQ=>?_
  refine h41 (fL1) fun _ _ _ _ _ hst ha hb hr=>?_
  refine kQ ?_
  refine ly NI bQ.rel md fJ1 lw jK hst ha hb fun f n8 eU eT wm b01 pk wC wY=>?_
  have e:f=.next:=wY
  subst e
  exact⟨_,Nat.lt_succ_self _,⟨_,_,_,eU,hr,bQ.trans eT,wm,b01,pk,wC⟩⟩
 | zero =>
  rcases fL1 with ⟨hst,rfl,rfl,rfl⟩ | ⟨_,_,_,hst,ha,fL1⟩
  ·refine mK hh hst bQ NI.new fJ1 md NI.notW lw NI.base NI.loose fun kF jf l7 _ _=>?_
   exact wpAny_execs_nil ⟨bA,ah.toW.trans jf,l7,rfl⟩
  ·rcases fL1 with ⟨rfl,hb⟩ | ⟨v,rfl,hb⟩
   ·refine ly NI bQ.rel md fJ1 lw jK hst ha hb fun f n8 eU eT wm b01 pk wC wY=>?_
    have e:f=.brk:=wY
    subst e
    exact close (bQ.trans eT) wm rfl
   ·refine ly NI bQ.rel md fJ1 lw jK hst ha hb fun f n8 eU eT wm b01 pk wC wY=>?_
    obtain ⟨cv,h_p⟩:=wY;obtain rfl:=h_p.1;have hv:=h_p.2
    exact close (bQ.trans eT) wm ⟨cv,rfl,hv⟩
end
noncomputable def Tc(G:Wd)(A:Around)(C:Cx)(env:Env)(W:List Addr)(ifs:List Expr)(σ:List AO)(η:ab)(b:Bool)(σ':List AO):Prop :=
 (ifs=[]/\b=true/\σ'=σ)\/∃ c,ifs=[c]/\Et G A C env W c σ η b σ'
noncomputable def CoR(G:Wd)(A:Around)(C:Cx)(env:Env)(W:List Addr)(tg elt:Expr)(ifs:List Expr):Nat->ItS->List AO->ab->List V->List AO->Prop
 | 0,st,σ,η,out,σ'=>st.step σ=some none/\out=[]/\σ'=σ
 | n+1,st,σ,η,out,σ'=>∃ x st' η₁ σ₁,st.step σ=some (some (x,st'))/\As G A C env W tg x η η₁/\((Tc G A C env W ifs σ η₁ false σ₁/\CoR G A C env W tg elt ifs n st' σ₁ η₁ out σ') \/
   ∃ v σ₂ o,Tc G A C env W ifs σ η₁ true σ₁/\Ev G A C env W elt σ₁ η₁ v σ₂/\CoR G A C env W tg elt ifs n st' σ₂ η₁ o σ'/\out=v::o)
section
variable {G:Wd} {A:Around} {C C':Cx} {env cenv:Env} {W W':List Addr} {η η' η₁ η₂ bi:ab} {σ σ' σ₁ σ₂ aj:List AO} {ρ ρ' aa:Rho} {s s' am aA:Shared}
section
variable {tg elt:Expr} {ifs:List Expr} {n:Nat} {st st':ItS} {x v:V} {out:List V}
theorem CoR.stop(h:st.step σ=some none):CoR G A C env W tg elt ifs 0 st σ η [] σ:=⟨h,rfl,rfl⟩
theorem CoR.skip(h:st.step σ=some (some (x,st')))(ha:As G A C env W tg x η η₁)(hc:Tc G A C env W ifs σ η₁ false σ₁)(hr:CoR G A C env W tg elt ifs n st' σ₁ η₁ out σ'):CoR G A C env W tg elt ifs (n+1) st σ η out σ':=⟨_,_,_,_,h,ha,.inl ⟨hc,hr⟩⟩
theorem CoR.item(h:st.step σ=some (some (x,st')))(ha:As G A C env W tg x η η₁)(hc:Tc G A C env W ifs σ η₁ true σ₁)(he:Ev G A C env W elt σ₁ η₁ v σ₂)(hr:CoR G A C env W tg elt ifs n st' σ₂ η₁ out σ'):CoR G A C env W tg elt ifs (n+1) st σ η (v::out) σ' :=
 ⟨_,_,_,_,h,ha,.inr ⟨_,_,_,hc,he,hr,rfl⟩⟩
theorem CoR.step_ok(H:CoR G A C env W tg elt ifs n st σ η out σ'):st.step σ≠none:=by
 cases n with
 | zero=>exact fun e=>nomatch H.1.symm.trans e
 | succ n=>refine gu1 (H) fun _ _ _ _ h _=>?_;exact fun e=>nomatch h.symm.trans e
end
theorem Tc.use{ifs:List Expr}{b:Bool}{Q:Bool->Shared->Prop}{E:Value->Shared->Prop}(H:Tc G A C env W ifs σ η b σ')(R:Rel G σ ρ s)(N:RE G C env W η ρ s)(ht:0<s.toks)
  (k:∀ s' ρ',Step G ρ s ρ' s' σ'->RE G C env W η ρ' s'->0<s'.toks->Q b s') :
  wpAny (model G.prog G.w) A (forIn ifs true fun c r=>if r=true then do let ok ← isTrue c env (eval c env);pure (ForInStep.yield ok) else pure (ForInStep.yield r)) Q E s:=by
 rcases H with ⟨rfl,rfl,rfl⟩ | ⟨c,rfl,H⟩
 ·exact wpAny_tests_nil (k s ρ (Step.refl R) N ht)
 ·exact wpAny_tests_one (H.use R N ht k)
noncomputable def zf(M:Model)(A:Around)(target:Expr)(it:Value)(env:Env)(ifs:List Expr)(E:Value->Shared->Prop)(Q:Bool->Shared->Prop)(v:Value)(s:Shared):Prop :=
 wpAny M A (letOwnedTupleGo target it v) (fun _ wH=>wpAny M A (assign target env v) (fun _ aA =>
  wpAny M A (forIn ifs true fun c r=>if r=true then do let ok ← isTrue c env (eval c env);pure (ForInStep.yield ok) else pure (ForInStep.yield r)) Q E aA) E wH) E s
noncomputable def NB(M:Model)(A:Around)(env:Env)(R:Result->Shared->Prop):Value->Shared->Prop:=notedBy M A env fun e s'=>R (.error e) s'
noncomputable def zg(M:Model)(A:Around)(it:Value)(E:Value->Shared->Prop)(e71:Shared->Prop)(Q:Value->Shared->Prop)(s:Shared):Prop:=wpAny M A (pyNext it) (fun r am=>match r with
 | none=>e71 am
 | some v=>Q v am) E s
theorem nB{prog:Program}{w:World}{A:Around}{R:Result->Shared->Prop}{s:Shared}{elt target iter:Expr}{ifs:List Expr}{scope:Scope}{pos:Pos}{it acc:Value}{env:Env}(I:Nat->Shared->Prop)
  (turn:∀ n s,I n s->zg (model prog w) A it (NB (model prog w) A env R) (R (.ok .next)) (zf (model prog w) A target it env ifs (NB (model prog w) A env R) fun ok dY =>
      if ok=true then wpAny (model prog w) A (eval elt env) (fun x kF =>
       wpAny (model prog w) A (call (.builtin "list.append") [acc,x]) (fun _ n8=>∃ m,m<n/\I m n8) (NB (model prog w) A env R) kF) (NB (model prog w) A env R) dY
      else ∃ m,m<n/\I m dY) s)
  (n:Nat) (h:I n s) :
  codeAny (model prog w) A (.compLoop (.ListComp elt [⟨target,iter,ifs,0⟩] scope pos) 0 it acc env) R s:=by
 refine codeAny_loop rfl I (fun n s hI=>?_) n h
 show wpAny _ A ((compTurn (.ListComp elt [⟨target,iter,ifs,0⟩] scope pos) 0 it acc env).onRaise (fun x=>do noteFrame x env;theTreesLotGoes x)) _ _ s
 refine wpAny_noted ?_
 rw[compTurn_list]
 refine wpAny_bind (wpAny_standAt (wpAny_bind (wpAny_mono (turn n s hI) (fun r am dB=>?_) fun _ _ h'=>h')))
 cases r with
 | none=>exact wpAny_pure dB
 | some v =>
  refine wpAny_bind (wpAny_mono dB (fun _ wH gI1=>?_) fun _ _ h'=>h')
  refine wpAny_bind (wpAny_mono gI1 (fun _ aA cP=>wpAny_bind (wpAny_mono cP (fun ok dY gw=>?_) fun _ _ h'=>h')) fun _ _ h'=>h')
  cases ok with
  | false=>exact wpAny_pure ⟨rfl,gw⟩
  | true =>
   exact wpAny_bind (wpAny_bind (wpAny_mono gw (fun x kF d81=>wpAny_bind (wpAny_mono d81 (fun _ n8 wj=>wpAny_pure (wpAny_pure ⟨rfl,wj⟩)) fun _ _ h'=>h')) fun _ _ h'=>h'))
theorem vq{D:Addr}{h':Heap}{t:Nat}(R:Rel G σ ρ s)(hD:D∈ρ.hid)(ho:rn ρ D)(hbase:G.s₀.heap.get? D=none)(hloose:D ∉ G.loose)(hs:Heap.ExtBut D s.heap h')(hal:h'.get? D≠none) :
  StepW G [D] ρ s ρ { s with heap:=h',toks:=t } σ/\KeepV s.heap ρ h' ρ:=kH R (List.mem_singleton.mpr rfl) ho hbase hloose (fun _ _ h=>absurd hD h.2) hs hal
theorem JI.pyIter_self{I:Addr}{st:ItS}(J:JI s.heap ρ I st){Q:Value->Shared->Prop}{E:Value->Shared->Prop}(h:Q (.ref I) s):wpAny (model G.prog G.w) A (pyIter (.ref I)) Q E s:=by
 cases J with
 | lst a=>exact wpAny_pyIter_listiter a h
 | tup a=>exact wpAny_pyIter_tupleiter a h
 | ascii a=>exact wpAny_pyIter_striter_ascii a h
 | wide a=>exact wpAny_pyIter_striter_wide a h
 | rng a=>exact wpAny_pyIter_rangeiter a h
 | dyn _ a=>exact wpAny_pyIter_listiter a h
structure CS (G:Wd) (W:List Addr) (I D:Addr):Prop where
 iw:I ∉ W
 ib:G.s₀.heap.get? I=none
 il:I ∉ G.loose
 db:G.s₀.heap.get? D=none
 dl:D ∉ G.loose
 dw:D ∉ W
 di:D≠I
structure CI (ρ:Rho) (s:Shared) (I D:Addr) (st:ItS) (items:Array Value) (done:List V):Prop where
 j:JI s.heap ρ I st
 io:Off ρ I
 pl:s.heap.PlainList D items
 rv:RVs s.heap ρ done items.toList
 hd:D∈ρ.hid
 off:rn ρ D
theorem CI.keep{I D:Addr}{st:ItS}{items:Array Value}{done:List V}(Z:CS G W I D)(R:Rel G σ ρ s)(S:StepW G W ρ s ρ' s' σ')(N:RE G C cenv W η ρ s)(c:CI ρ s I D st items done):CI ρ' s' I D st items done:=by
 have K:=StepW.keepV R N.wk S
 refine⟨c.j.keep K fun o e=>S.keep I o e c.io.1 Z.iw Z.il,S.offI ?_ c.io,c.pl.at fun o e=>S.keep D o e c.off Z.dw Z.dl,RVs.mono K _ _ c.rv,?_,S.off ?_ c.off⟩
 ·refine cH (c.j.cls) fun o _ h_p=>?_;have e:=h_p.1
  exact(e)▸(nofun)
 ·refine a9 (S.ext) fun new h_p=>?_;have e:=h_p.1
  exact(e)▸(c.hd)
 ·refine a9 (c.pl) fun _ e=>?_
  exact(e)▸(nofun)
theorem nx{tg:Expr}{ifs:List Expr}{st st':ItS}{I D:Addr}{items:Array Value}{done:List V}{x:V}{b:Bool}{E:Value->Shared->Prop}{e71:Shared->Prop}{Q:Bool->Shared->Prop}(Z:CS G W I D)(R:Rel G σ ρ s)(N:RE G C cenv W η ρ s)(c:CI ρ s I D st items done)(aK:0<s.toks)
  (hst:st.step σ=some (some (x,st'))) (ha:As G A C cenv W tg x η η₁) (hc:Tc G A C cenv W ifs σ η₁ b σ')
  (k:∀ n8 eU,StepW G (I::W) ρ s eU n8 σ'->RE G C cenv W η₁ eU n8->CI eU n8 I D st' items done->0<n8.toks->Q b n8):zg (model G.prog G.w) A (.ref I) E e71 (zf (model G.prog G.w) A tg (.ref I) cenv ifs E Q) s:=by
 refine wpAny_with_toks (Nat.le_refl _) (ik (G:=G) hst R c.j c.io Z.ib Z.il fun cv aA aq iB1 aF fK1 vo=>?_)
 have ci:RE G C cenv W η ρ aA:=N.keepAll iB1 (fun b hb o e=>aq.keep b o e (N.wok b hb).1.1 (fun h=>Z.iw (List.mem_singleton.mp h▸hb)) (N.wok b hb).2.2) fun a o v e hd ho=>by
  refine aq.keep a o e ho.1 (fun h=>?_) (cM R e hd)
  refine aI (c.j.no_cell) fun o' e' hno=>?_
  rw[List.mem_singleton.mp h,e'] at e;obtain rfl:=siX e
  exact hno v hd
 have b6:CI ρ aA I D st' items done:=⟨fK1,c.io,c.pl.at fun o e=>aq.keep D o e c.off (fun h=>Z.di (List.mem_singleton.mp h)) Z.dl,RVs.mono iB1 _ _ c.rv,c.hd,c.off⟩
 refine fK1.letOwned (eI (ha σ ρ aA cv aq.rel ci aF) fun _ dY eg1 gw=>?_)
 have vQ:=b6.keep Z aq.rel gw.1 ci
 refine hc.use gw.1.rel gw.2 (Nat.lt_of_lt_of_le (Nat.lt_of_lt_of_le aK vo) eg1) fun kF gX jf l7 yE=>?_
 exact k kF gX ((aq.weaken fun b hb=>List.mem_singleton.mp hb▸List.mem_cons_self).trans ((gw.1.trans jf.toW).weaken fun b hb=>List.mem_cons_of_mem _ hb)) l7 (vQ.keep Z gw.1.rel jf.toW gw.2) yE
theorem yi{I D:Addr}{st:ItS}{items:Array Value}{done:List V}{v:V}{cv:Value}{E:Value->Shared->Prop}{Q:Value->Shared->Prop}(Z:CS G W I D)(R:Rel G σ ρ s)(N:RE G C cenv W η ρ s)(c:CI ρ s I D st items done)(t:0<s.toks)(r:RV s.heap ρ v cv)(hl:items.size<=lim)
  (k:∀ u s',StepW G (D::W) ρ s ρ s' σ->RE G C cenv W η ρ s'->CI ρ s' I D st (items.push cv) (done++[v])->0<s'.toks->Q u s'):wpAny (model G.prog G.w) A (call (.builtin "list.append") [.ref D,cv]) Q E s:=by
 refine wpAny_with_toks (Nat.le_refl _) (wpAny_list_append_plain c.pl (fun h' hp' hs' hle=>?_) (Nat.le_trans hl (by decide)))
 obtain ⟨hy1,fI1⟩:=vq (t:=s.toks) R c.hd c.off Z.db Z.dl hs'.extBut (by obtain ⟨_,e⟩:=hp';exact(e)▸(nofun))
 refine k _ _ (hy1.weaken fun b hb=>List.mem_singleton.mp hb▸List.mem_cons_self) (N.keepAll fI1 (fun b hb o e=>hs'.extBut b o (fun h=>Z.dw (h▸hb)) e) fun a o v e hd ho=>hs'.extBut a o (fun h=>ho.2 (h▸c.hd)) e)
  ⟨c.j.keep (h':=h') fI1 fun o e=>hs'.extBut I o (Ne.symm Z.di) e,c.io,hp',?_,c.hd,c.off⟩ (Nat.lt_of_lt_of_le t hle)
 rw[Array.toList_push]
 exact RVs.append (RVs.mono fI1 _ _ c.rv) (RVs.cons (RV.mono fI1 _ _ r) RVs.nil)
inductive CInv (G:Wd) (A:Around) (C:Cx) (cenv:Env) (W:List Addr) (tg elt:Expr) (ifs:List Expr) (out:List V) (σ':List AO) (I D:Addr) (eV:Rho) (s₀:Shared) (m:Nat) (s:Shared):Prop
 | mk (st:ItS) (σ:List AO) (η:ab) (ρ:Rho) (done:List V) (items:Array Value) (o:List V) (H:CoR G A C cenv W tg elt ifs m st σ η o σ') (S:StepW G (D::I::W) eV s₀ ρ s σ) (N:RE G C cenv W η ρ s) (c:CI ρ s I D st items done) (h:done++o=out) (t:0<s.toks)
theorem vT{tg elt iter:Expr}{ifs:List Expr}{scope:Scope}{pos:Pos}{n:Nat}{st:ItS}{out:List V}{D I:Addr}{RR:Result->Shared->Prop}{eV:Rho}{s₀:Shared}(hh:A.handled=none)
  (H:CoR G A C cenv W tg elt ifs n st σ η out σ') (mb:StepW G (D::I::W) eV s₀ ρ s σ) (hIn:s₀.heap.get? I=none) (N:RE G C cenv W η ρ s) (J:JI s.heap ρ I st) (ht:0<s.toks) (hl:out.length<=lim)
  (hI:I ∉ W) (hIo:Off ρ I) (hIb:G.s₀.heap.get? I=none) (hIl:I ∉ G.loose)
  (hD:D∈ρ.hid) (hDo:rn ρ D) (hDb:G.s₀.heap.get? D=none) (hDl:D ∉ G.loose) (hDW:D ∉ W) (hDI:D≠I) (hpl:s.heap.PlainList D #[])
  (k:∀ s' ρ' items η',StepW G (D::W) eV s₀ ρ' s' σ'->RE G C cenv W η' ρ' s'->s'.heap.PlainList D items->RVs s'.heap ρ' out items.toList->D∈ρ'.hid->rn ρ' D->RR (.ok .next) s') :
  codeAny (model G.prog G.w) A (.compLoop (.ListComp elt [⟨tg,iter,ifs,0⟩] scope pos) 0 (.ref I) (.ref D) cenv) RR s:=by
 have Z:CS G W I D:=⟨hI,hIb,hIl,hDb,hDl,hDW,hDI⟩
 refine nB (I:=CInv G A C cenv W tg elt ifs out σ' I D eV s₀) ?_ n ⟨st,σ,η,ρ,[],#[],out,H,mb,N,⟨J,hIo,hpl,RVs.nil,hD,hDo⟩,rfl,ht⟩
 rintro m am ⟨iX1,σ₁,η₁,aa,done,items,dB1,wd,ah,aJ,bz,hout,aK⟩
 have up:∀ b∈I::W,b∈D::I::W:=fun b hb=>List.mem_cons_of_mem _ hb
 cases m with
 | zero =>
  have hst:=wd.1;obtain rfl:=wd.2.1;obtain rfl:=wd.2.2
  have e:done=out:=by simpa using hout
  subst e
  refine ij hh hst ah.rel bz.j bz.io hIb hIl fun aA h_p=>?_
  refine aI (h_p) fun h' e hs=>?_
  subst e
  obtain ⟨aq,K⟩:=StepW.closeNew (W:=D::W) (t:=am.toks) (ah.weaken fun b hb=>by
   rcases List.mem_cons.mp hb with h | hb
   ·rw[h];exact List.mem_cons_of_mem _ List.mem_cons_self
   ·rcases List.mem_cons.mp hb with h | hb
    ·rw[h];exact List.mem_cons_self
    ·exact List.mem_cons_of_mem _ (List.mem_cons_of_mem _ hb)) hIn bz.j.not_solid hs bz.io hIb hIl
  exact k _ aa items η₁ aq (aJ.iterStep bz.j hI K hs) (bz.pl.at fun o e=>hs D o hDI e) (RVs.mono K _ _ bz.rv) bz.hd bz.off
 | succ m =>
  refine gt1 (wd) fun _ _ _ _ hst ha wd=>?_
  rcases wd with ⟨hc,hr⟩ | ⟨_,_,_,hc,he,hr,rfl⟩
  ·refine nx Z ah.rel aJ bz aK hst ha hc fun n8 eU eT wm hg1 wC=>?_
   rw[if_neg (by decide)]
   exact⟨_,Nat.lt_succ_self _,⟨_,_,_,eU,done,items,dB1,hr,ah.trans (eT.weaken up),wm,hg1,hout,wC⟩⟩
  ·refine nx Z ah.rel aJ bz aK hst ha hc fun n8 eU eT wm hg1 wC=>?_
   rw[if_pos rfl]
   refine he.use eT.rel wm wC fun cv hS1 zh bZ1 hE1 fY1 gk1=>?_
   have iu1:=hg1.keep Z eT.rel bZ1.toW wm
   have hlen:items.size<=lim:=by
    have h1:=RVs.length iu1.rv
    have h2:done.length<=out.length:=by rw[← hout,List.length_append];exact Nat.le_add_right _ _
    simp at h1;lia
   refine yi Z bZ1.rel hE1 iu1 fY1 gk1 hlen fun _ k31 hy1 kZ1 kP1 iR1=>⟨_,Nat.lt_succ_self _,⟨_,_,_,zh,_,_,_,hr,ah.trans ((eT.weaken up).trans (bZ1.toW.trans (hy1.weaken fun b hb=>?_))),kZ1,kP1,?_,iR1⟩⟩
   ·rcases List.mem_cons.mp hb with h | h
    ·rw[h];exact List.mem_cons_self
    ·exact List.mem_cons_of_mem _ (List.mem_cons_of_mem _ h)
   ·rw[List.append_assoc];exact hout
end
noncomputable def aD(scope:Scope)(C:Cx):Scope :=
 { scope with names:=scope.names.map fun (n,k)=>if (k==.free&&C.scope.kind==.function&&C.kind n==some .cell) then (n,.cell) else (n,k) }
theorem rF{C:Cx}{env:Env}(h:env.scope=C.scope)(scope:Scope):relabel scope env=aD scope C:=by
 unfold relabel aD Env.kindOf Cx.kind;rw[h]
noncomputable def rb(cells:List (Str×Addr)):List (Str×NameKind)->List (Str×Addr)->List (Str×Addr)
 | [],acc=>acc
 | (n,k)::r,acc=>rb cells r (if k==.free then (match cells.lookup n with | some c=>(n,c)::acc | none=>acc) else acc)
theorem iW{cells:List (Str×Addr)}{n:Str}{c:Addr}(hc:cells.lookup n=some c):∀ (names:List (Str×NameKind)) (acc:List (Str×Addr)),(acc.lookup n=some c\/(n,NameKind.free)∈names)->(rb cells names acc).lookup n=some c
 | [],acc,h=>by
  refine Or.elim (h) (fun h=>?_) (fun h=>?_)
  ·exact h
  ·cases h
 | (m,k)::r,acc,h=>by
  dsimp only[rb]
  refine iW hc r _ ?_
  rcases h with h | h
  ·left
   split
   ·cases hm:cells.lookup m with
    | none=>exact h
    | some d =>
     show List.lookup n ((m,d)::acc)=some c
     rw[List.lookup_cons]
     cases hb:n==m with
     | true=>rw[← beq_iff_eq.mp hb,hc] at hm;obtain rfl:=siX hm;rfl
     | false=>exact h
   ·exact h
  ·refine Or.elim (List.mem_cons.mp h) (fun e=>?_) (fun h=>?_)
   ·cases e
    left
    rw[if_pos (by decide),hc]
    show List.lookup n ((n,c)::acc)=some c
    rw[List.lookup_cons,beq_self_eq_true]
   ·exact .inr h
theorem iV{env:Env}{scope:Scope}(h:∀ x∈scope.names,x.2=.free->∃ c,env.cells.lookup x.1=some c):closureFor scope env=pure (rb env.cells scope.names []):=by
 unfold closureFor
 have main:∀ (names:List (Str×NameKind)) (acc:List (Str×Addr)),(∀ x∈names,x.2=.free->∃ c,env.cells.lookup x.1=some c) ->
   (forIn names acc fun (x:Str×NameKind) (cs:List (Str×Addr))=>(match x with
    | (name,kind)=>if kind==.free then do let a ← cellOf env name;pure (ForInStep.yield ((name,a)::cs)) else pure (ForInStep.yield cs):Sem (ForInStep (List (Str×Addr)))))=pure (rb env.cells names acc):=by
  intro names
  induction names with
  | nil=>intro acc _;rfl
  | cons x r ih =>
   intro acc hx
   obtain ⟨n,k⟩:=x
   rw[List.forIn_cons]
   dsimp only[rb]
   have hr:=ih (acc:=if k==.free then (match env.cells.lookup n with | some c=>(n,c)::acc | none=>acc) else acc) fun y hy=>hx y (List.mem_cons_of_mem _ hy)
   by_cases hk:k=.free
   ·subst hk
    obtain ⟨c,hc⟩:=hx (n,.free) List.mem_cons_self rfl
    have e:(NameKind.free==NameKind.free)=true:=rfl
    dsimp only[e,if_true] at hr ⊢
    unfold cellOf
    rw[hc] at hr ⊢
    exact hr
   ·have e:(k==NameKind.free)=false:=by simpa using hk
    simp only[e,Bool.false_eq_true,if_false] at hr ⊢
    exact hr
 have:=main scope.names [] h
 exact congrArg (fun m:Sem (List (Str×Addr))=>m>>=fun cs=>pure cs) this
theorem fx:∀ (names:List (Str×NameKind)) (n:Nat) (acc:List (Str×Addr)),cellsFrom n names acc=cellsFrom n names []++acc
 | [],_,_=>rfl
 | (m,k)::r,n,acc=>by
  dsimp only[cellsFrom]
  split
  ·rw[fx r (n+1) ((m,n)::acc),fx r (n+1) [(m,n)],List.append_assoc];rfl
  ·exact fx r n acc
theorem pK{x:Str}:∀ (names:List (Str×NameKind)) (n:Nat) (acc:List (Str×Addr)),(x,NameKind.cell) ∉ names->(cellsFrom n names acc).lookup x=acc.lookup x
 | [],_,_,_=>rfl
 | (m,k)::r,n,acc,h=>by
  dsimp only[cellsFrom]
  split
  ·rename_i hk
   rw[pK r _ _ fun q=>h (List.mem_cons_of_mem _ q),List.lookup_cons]
   cases hb:x==m with
   | false=>rfl
   | true =>
    exfalso
    apply h
    rw[beq_iff_eq.mp hb,beq_iff_eq.mp hk]
    exact List.mem_cons_self
  ·exact pK r _ _ fun q=>h (List.mem_cons_of_mem _ q)
theorem i2{x:Str}:∀ (names:List (Str×NameKind)) (n:Nat) (acc:List (Str×Addr)),((x,NameKind.cell)∈names\/∃ c,acc.lookup x=some c)->∃ c,(cellsFrom n names acc).lookup x=some c
 | [],_,_,h=>by
  refine Or.elim (h) (fun h=>?_) (fun h=>?_)
  ·cases h
  ·exact h
 | (m,k)::r,n,acc,h=>by
  dsimp only[cellsFrom]
  split
  ·rename_i hk
   refine i2 r _ _ ?_
   rcases h with h | ⟨c,h⟩
   ·rcases List.mem_cons.mp h with e | h
    ·cases e;right;exact⟨n,by rw[List.lookup_cons,beq_self_eq_true]⟩
    ·exact .inl h
   ·right
    rw[List.lookup_cons]
    cases x==m with
    | true=>exact⟨n,rfl⟩
    | false=>exact⟨c,h⟩
  ·rename_i hk
   refine i2 r _ _ ?_
   rcases h with h | h
   ·rcases List.mem_cons.mp h with e | h
    ·cases e;exact absurd rfl hk
    ·exact .inl h
   ·exact .inr h
noncomputable def clr:ab->List Var->ab
 | η,[]=>η
 | η,x::xs=>clr (if x.own then η.set x.slot none else η) xs
theorem ra{i:Nat}:∀ (xs:List Var) (η:ab),(∀ v,η[i]?≠some (some v))->∀ v,(clr η xs)[i]?≠some (some v)
 | [],_,h=>h
 | x::xs,η,h=>by
  dsimp only[clr]
  refine ra xs _ fun v=>?_
  split
  ·rw[List.getElem?_set]
   split
   ·split <;> exact nofun
   ·exact h v
  ·exact h v
theorem pH{x:Var}(ho:x.own=true):∀ (xs:List Var) (η:ab),x∈xs->∀ v,(clr η xs)[x.slot]?≠some (some v)
 | [],_,h=>by cases h
 | y::xs,η,h=>by
  dsimp only[clr]
  refine Or.elim (List.mem_cons.mp h) (fun h_l=>?_) (fun h=>?_)
  ·subst h_l
   refine ra xs _ fun v=>?_
   rw[if_pos ho,List.getElem?_set]
   split
   ·split <;> exact nofun
   ·rename_i hne;exact absurd rfl hne
  ·exact pH ho xs _ h
theorem vX{i:Nat}{v:V}:∀ (xs:List Var) (η:ab),(clr η xs)[i]?=some (some v)->η[i]?=some (some v)
 | [],_,h=>h
 | x::xs,η,h=>by
  dsimp only[clr] at h
  have:=vX xs _ h
  split at this
  ·replace this:=(List.getElem?_set)▸this
   split at this
   ·split at this <;> cases this
   ·exact this
  ·exact this
noncomputable def bB(k:Option NameKind)(l:NameKind):Bool:=k==some l
noncomputable def vU(C:Cx)(vars:List Var)(scope:Scope):Bool :=
 let C':Cx:=⟨vars,aD scope C⟩
 C'.ok&&(match scope.kind with | .function=>true | _=>false) &&
 scope.names.all (fun x=>(x.2 != .free || C.vars.any fun y=>y.name==x.1&&bB (C.kind x.1) .cell)&&(x.2 != .local || bB (scope.names.lookup x.1) .local)) &&
 vars.all fun x=>if x.own then (bB (C'.kind x.name) .local) || (bB (C'.kind x.name) .cell&&scope.names.contains (x.name,NameKind.cell))
  else bB (C'.kind x.name) .cell&&scope.names.contains (x.name,NameKind.free)&&!scope.names.contains (x.name,NameKind.cell)&&C.vars.any fun y=>y.name==x.name&&y.slot==x.slot&&bB (C.kind x.name) .cell
structure CompOk (C:Cx) (vars:List Var) (scope:Scope):Prop where
 ok:(⟨vars,aD scope C⟩:Cx).ok=true
 fn:scope.kind=.function
 free:∀ x∈scope.names,x.2=.free->∃ y∈C.vars,y.name=x.1/\C.kind x.1=some .cell
 loc:∀ x∈scope.names,x.2=.local->scope.names.lookup x.1=some .local
 own:∀ x∈vars,x.own=true->(⟨vars,aD scope C⟩:Cx).kind x.name=some .local\/((⟨vars,aD scope C⟩:Cx).kind x.name=some .cell/\(x.name,NameKind.cell)∈scope.names)
 cap:∀ x∈vars,x.own=false->(⟨vars,aD scope C⟩:Cx).kind x.name=some .cell/\(x.name,NameKind.free)∈scope.names/\(x.name,NameKind.cell) ∉ scope.names/\∃ y∈C.vars,y.name=x.name/\y.slot=x.slot/\C.kind x.name=some .cell
theorem pE{C:Cx}{vars:List Var}{scope:Scope}(h:vU C vars scope=true):CompOk C vars scope:=by
 dsimp only[vU] at h
 have q_1:=ak h;have q_2:=ak q_1.1;have q_3:=ak q_2.1;have h1:=q_3.1;have h2:=q_3.2;have h3:=q_2.2;have h4:=q_1.2
 have h3':=List.all_eq_true.mp h3
 have h4':=List.all_eq_true.mp h4
 refine⟨h1,by revert h2;cases scope.kind <;> simp,fun x hx hk=>?_,fun x hx hk=>?_,fun x hx ho=>?_,fun x hx ho=>?_⟩
 ·have:=h3' x hx
  simp only[Bool.and_eq_true,Bool.or_eq_true,hk,List.any_eq_true,bB,beq_iff_eq] at this
  rcases this.1 with h | ⟨y,hy,e1,e2⟩
  ·exact absurd h (by decide)
  ·exact⟨y,hy,e1,e2⟩
 ·have:=h3' x hx
  simp only[Bool.and_eq_true,Bool.or_eq_true,hk,bB,beq_iff_eq] at this
  rcases this.2 with h | h
  ·exact absurd h (by decide)
  ·exact h
 ·have:=h4' x hx
  simp only[ho,if_true,Bool.or_eq_true,Bool.and_eq_true,bB,beq_iff_eq,List.contains_iff_mem] at this
  exact this
 ·refine byQ fun Q kQ=>?_
  have:=h4' x hx
  simp only[ho,Bool.false_eq_true,if_false,Bool.and_eq_true,bB,beq_iff_eq,List.contains_iff_mem,List.any_eq_true,Bool.not_eq_true',← Bool.not_eq_true] at this
  obtain ⟨⟨⟨e1,e2⟩,e3⟩,y,hy,⟨e4,e5⟩,e6⟩:=this
  refine kQ ?_
  exact⟨e1,e2,e3,y,hy,e4,e5,e6⟩
noncomputable def hl1(scope:Scope)(L:Addr)(cells:List (Str×Addr))(env:Env):Env :=
 { scope:=scope,locals:=L,globals:=env.globals,cells:=cells,qual:=env.qual,func:=none,code:=env.code,frame:=env.frame,builtins:=env.builtins }
section
variable {M:Model} {A:Around} {E:Value->Shared->Prop} {s:Shared} {env:Env}
theorem kA{scope:Scope}{cl:List (Str×Addr)}{Q:Env->Shared->Prop}
  (h:Q (hl1 scope s.heap.objs.size (cellsFrom (s.heap.objs.size+1) scope.names cl) env) { s with heap:=pushCells (s.heap.push { cls:=.type "dict",data:=.dict #[] }) scope.names }) :
  wpAny M A (newFunctionEnv scope env.globals cl [] env.qual none .none (some env)) Q E s:=by
 simp only[newFunctionEnv,Option.isSome_some,if_true]
 refine wpAny_bind (wpAny_alloc ?_)
 refine wpAny_bind (wpAny_layCells _ (fun name kind cells=>by cases kind==NameKind.cell <;> simp) _ _ _ _ ?_)
 rw[show ({ s with heap:=s.heap.push { cls:=.type "dict",data:=.dict #[] } }:Shared).heap.objs.size=s.heap.objs.size+1 from Heap.size_push ..]
 refine wpAny_bind ?_
 rw[List.forIn_nil]
 exact wpAny_pure (wpAny_pure h)
end
section
variable {G:Wd} {A:Around} {C C':Cx} {env cenv:Env} {W W':List Addr} {η η' η₁ η₂ bi:ab} {σ σ' σ₁ σ₂ aj:List AO} {ρ ρ' aa:Rho} {s s' am aA:Shared}
theorem jq{α:Type}(l₁ td:List (Str×α))(x:Str):(l₁++td).lookup x=(l₁.lookup x).or (td.lookup x):=by
 induction l₁ with
 | nil=>rfl
 | cons a l ih =>
  rw[List.cons_append,List.lookup_cons,List.lookup_cons]
  cases x==a.1 with
  | true=>rfl
  | false=>exact ih
theorem rc{x:Str}{names:List (Str×NameKind)}{n:Nat}{acc:List (Str×Addr)}(hx:(x,NameKind.cell)∈names):∃ c,(cellsFrom n names acc).lookup x=some c/\(x,c)∈cellsFrom n names [] :=
 a9 (i2 names n [] (.inl hx)) fun c hc=>⟨c,by rw[fx,jq,hc];rfl,mem_of_lookup hc⟩
structure CapC (C:Cx) (env:Env) (η:ab) (ρ:Rho) (h:Heap) (cs:List (Str×Addr)) (x y:Var) (c:Addr) (ov:Option Value):Prop where
 hy:y∈C.vars
 nm:y.name=x.name
 sl:y.slot=x.slot
 kd:C.kind y.name=some .cell
 lk:env.cells.lookup y.name=some c
 ic:h.IsCell c ov
 off:Off ρ c
 vl:∀ v,η[y.slot]?=some (some v)->∃ cv,ov=some cv/\RV h ρ v cv
 me:cs.lookup x.name=some c
theorem rd{scope:Scope}{vars:List Var}{n:Nat}{x:Var}(K:CompOk C vars scope)(N:RE G C env W η ρ s)(hx:x∈vars)(ho:x.own=false):∃ y c ov,CapC C env η ρ s.heap (cellsFrom n scope.names (rb env.cells scope.names [])) x y c ov :=
 av1 (K.cap x hx ho) fun _ h2 h3 h=>ft1 h fun y hy e1 e2 e3=>at1 (N.cel y hy (e1.symm▸e3)) fun c ov q1 q2 q3 q4 q5 =>
  ⟨y,c,ov,hy,e1,e2,e1.symm▸e3,q1,q2,q4,q5,(pK _ _ _ h3).trans (iW (e1▸q1) _ _ (.inr h2))⟩
theorem qI{scope:Scope}{vars:List Var}{x:Var}(K:CompOk C vars scope)(hx:x∈vars)(ho:x.own=true)(hk:(⟨vars,aD scope C⟩:Cx).kind x.name=some .cell):(x.name,NameKind.cell)∈scope.names :=
 Or.elim (K.own x hx ho) (fun h=>nomatch (siX (h.symm.trans hk))) And.right
theorem lQ{scope:Scope}{vars:List Var}{n:Nat}{x:Var}{c:Addr}(K:CompOk C vars scope)(N:RE G C env W η ρ s)(hx:x∈vars)(hk:(⟨vars,aD scope C⟩:Cx).kind x.name=some .cell)(e:(cellsFrom n scope.names (rb env.cells scope.names [])).lookup x.name=some c) :
  (x.name,c)∈cellsFrom n scope.names []\/∃ y,y∈C.vars/\y.name=x.name/\C.kind y.name=some .cell/\env.cells.lookup y.name=some c/\c<s.heap.objs.size :=
 eK1 x.own (fun ho=>.inl (aI (rc (qI K hx ho hk)) fun c' h1 h2=>siX (h1.symm.trans e)▸h2))
  fun ho=>.inr (d7 (rd K N hx ho) fun y c' ov P=>⟨y,P.hy,P.nm,P.kd,(siX (P.me.symm.trans e))▸P.lk,(siX (P.me.symm.trans e))▸P.ic.lt⟩)
theorem bq1{scope:Scope}{vars:List Var}{L:Addr}{h':Heap}{ow:List (Str×Addr)}(K:CompOk C vars scope)(R:Rel G σ ρ s)(N:RE G C env W η ρ s)(hL:s.heap.objs.size=L)(keep:∀ b o,s.heap.get? b=some o->h'.get? b=some o)
  (hns:h'.Ns L fun _=>none) (ok:CellsOk h' (L+1) ow) (how:ow=cellsFrom (L+1) scope.names []) :
  (∀ b∈L::ow.map (·.2),L<=b)/\RE G ⟨vars,aD scope C⟩ (hl1 (aD scope C) L (cellsFrom (L+1) scope.names (rb env.cells scope.names [])) env) (L::ow.map (·.2)) (clr η vars) ρ { s with heap:=h' }:=by
 have inW:∀ b∈L::ow.map (·.2),L<=b:=fun b hb=>Or.elim (List.mem_cons.mp hb) (fun e=>Nat.le_of_eq e.symm) fun hb=>aI (List.mem_map.mp hb) fun x hx e=>e▸Nat.le_of_lt (ok.empty x.1 x.2 hx).2
 have new:∀ b,L<=b->Off ρ b/\G.s₀.heap.get? b=none/\b ∉ G.loose:=fun b hb=>cI R (bL (hL▸hb))
 have S:KeepV s.heap ρ h' ρ:=⟨⟨[],(List.append_nil _).symm,fun _ h=>nomatch h⟩,fun _ h=>.inl h,fun b o e _ _=>keep b o e⟩
 refine⟨inW,K.ok,rfl,N.glob,N.blt,List.mem_cons_self,fun b hb=>new b (inW b hb),fun b hb=>Or.elim (List.mem_cons.mp hb) (fun e=>?_) fun hb=>aI (List.mem_map.mp hb) fun x hx e=>?_,⟨_,hns,fun x hx hk v hv=>?_⟩,fun x hx hk=>?_,fun x hx y hy hkx hky c e1 e2=>?_⟩
 ·exact uM hns fun o es ep ho hd _=>⟨o,e▸ho,Solid.no_dict hd⟩
 ·exact aI (ok.empty x.1 x.2 hx).1 fun o ho hd=>⟨o,e▸ho,Solid.no_cell hd⟩
 ·exact eK1 x.own (fun ho=>absurd hv (pH ho vars η hx v)) fun ho=>nomatch siX (hk.symm.trans (K.cap x hx ho).1)
 ·refine eK1 x.own (fun ho=>aI (rc (n:=L+1) (acc:=rb env.cells scope.names []) (qI K hx ho hk)) fun c hc hm=>?_) fun ho=>d7 (rd (n:=L+1) K N hx ho) fun y c ov P=>?_
  ·have hm':(x.name,c)∈ow:=how▸hm
   have q:=ok.empty x.name c hm'
   exact yZ c none hc q.1 (fun _=>List.mem_cons_of_mem _ (List.mem_map.mpr ⟨_,hm',rfl⟩)) (new c (Nat.le_of_lt q.2)).1 fun v hv=>absurd hv (pH ho vars η hx v)
  ·exact yZ c ov P.me (P.ic.keeps keep) (fun h=>trf (h.symm.trans ho)) P.off fun v hv=>aI (P.vl v (P.sl.symm▸vX _ _ hv)) fun cv r1 r2=>⟨cv,r1,RV.mono S _ _ r2⟩
 ·subst how
  have far:∀ {n c},(n,c)∈cellsFrom (L+1) scope.names []->c<s.heap.objs.size->False:=fun h1 h2=>absurd (hL▸h2) (Nat.not_lt.mpr (Nat.le_of_lt (ok.empty _ _ h1).2))
  refine Or.elim (lQ K N hx hkx e1) (fun a=>Or.elim (lQ K N hy hky e2) (fun b=>name_of_addr ok.apart a b) fun h=>dE1 h fun z _ _ _ _ lt=>(far a lt).elim) fun h=>dE1 h fun u hu nu ku lu lt=>?_
  exact Or.elim (lQ K N hy hky e2) (fun b=>(far b lt).elim) fun h=>dE1 h fun z hz nz kz lz _=>nu▸nz▸N.apart u hu z hz ku kz c lu lz
theorem sA{scope:Scope}{vars:List Var}{D:Addr}(K:CompOk C vars scope)(R:Rel G σ ρ s)(N:RE G C env W η ρ s)(hD:D<s.heap.objs.size)(hDn:G.s₀.heap.get? D=none) :
  let L:=s.heap.objs.size
  let h':=pushCells (s.heap.push { cls:=.type "dict",data:=.dict #[] }) scope.names
  ∃ W',(∀ b∈W',s.heap.get? b=none/\b≠D)/\D ∉ W'/\L∈W'/\(∀ b o,s.heap.get? b=some o->h'.get? b=some o) /\
   RE G ⟨vars,aD scope C⟩ (hl1 (aD scope C) L (cellsFrom (L+1) scope.names (rb env.cells scope.names [])) env) W' (clr η vars) ρ { s with heap:=h' }:=by
 intro L h'
 have ok:=cellsFrom_ok scope.names (s.heap.push { cls:=.type "dict",data:=.dict #[] }) (L+1) [] ⟨fun _ _ hm=>(nomatch hm),List.Pairwise.nil⟩ (by rw[Heap.size_push];exact Nat.le_refl _)
 rw[Heap.size_push] at ok
 have keep:∀ b o,s.heap.get? b=some o->h'.get? b=some o:=fun b o e=>pushCells_keeps _ _ b o (Heap.get?_push_of_some _ e)
 have q:=bq1 K R N (L:=L) rfl keep ((Heap.Ns.new s.heap (.type "dict")).keeps (pushCells_keeps _ _)) ok rfl
 have ne:∀ b∈L::(cellsFrom (L+1) scope.names []).map (·.2),b≠D:=fun b hb e=>Nat.lt_irrefl _ (Nat.lt_of_lt_of_le hD (e▸q.1 b hb))
 exact⟨_,fun b hb=>⟨bL (q.1 b hb),ne b hb⟩,fun h=>ne D h rfl,List.mem_cons_self,keep,q.2⟩
theorem RV.unhide{h:Heap}{ρ ρ':Rho}(hs:ρ'.st=ρ.st)(hh:∀ b∈ρ'.hid,b∈ρ.hid):KeepV h ρ h ρ' :=
 ⟨⟨[],by rw[hs,List.append_nil],fun _ h=>nomatch h⟩,fun b hb=>.inl (hh b hb),fun _ _ e _ _=>e⟩
theorem Rel.unhide{ρ':Rho}(R:Rel G σ ρ s)(hs:ρ'.st=ρ.st)(hh:∀ b∈ρ'.hid,b∈ρ.hid):Rel G σ ρ' s where
 len:=by exact(hs)▸(R.len)
 inj:=by exact(hs)▸(R.inj)
 obj:=fun k p o h1 h2=>(R.obj k p o (by rw[← hs];exact h1) h2).mono (RV.unhide hs hh) (fun _ e=>e) fun _ e=>e
 fresh:=by exact(hs)▸(R.fresh)
 keep:=R.keep
 lse:=R.lse
 same:=R.same
 bare:=R.bare
 hidden:=fun b hb=>R.hidden b (hh b hb)
structure CompEnd (G:Wd) (σ':List AO) (out:List V) (aa:Rho) (am:Shared) (D L:Addr) (s':Shared):Prop where
 hx:∃ new items m,StepW G [L] ⟨aa.st,D::aa.hid⟩ am ⟨aa.st++new,D::aa.hid⟩ s' σ'/\(∀ p∈new,am.heap.get? p.1=none/\am.heap.get? p.2=none)/\s'.heap.PlainList D items/\RVs s'.heap ⟨aa.st++new,D::aa.hid⟩ out items.toList/\s'.heap.Ns L m/\Off ⟨aa.st++new,aa.hid⟩ D/\Off ⟨aa.st++new,D::aa.hid⟩ L
 newD:am.heap.get? D=none
 newL:am.heap.get? L=none
 baseL:G.s₀.heap.get? L=none
 looseL:L ∉ G.loose
 ne:D≠L
theorem CompEnd.ex{out:List V}{D L:Addr}(X:CompEnd G σ' out aa am D L s'):∃ ρ' items m,StepW G [L] aa am ρ' s' σ'/\s'.heap.PlainList D items/\RVs s'.heap ρ' out items.toList/\s'.heap.Ns L m/\Off ρ' D/\Off ρ' L:=by
 refine byQ fun Q kQ=>?_
 refine d7 (X.hx) fun new items m h_p=>?_;have S:=h_p.1;have hnew:=h_p.2.1;have pl:=h_p.2.2.1;have r:=h_p.2.2.2.1;have hn:=h_p.2.2.2.2.1;have hDo:=h_p.2.2.2.2.2.1;have hLo:=h_p.2.2.2.2.2.2
 refine kQ ?_
 exact ii1 ⟨aa.st++new,aa.hid⟩ items m (⟨S.rel.unhide (ρ':=⟨aa.st++new,aa.hid⟩) rfl (fun b hb=>List.mem_cons_of_mem D hb),⟨new,rfl,hnew⟩,S.keep,S.wal⟩) pl (RVs.mono (RV.unhide (ρ:=⟨aa.st++new,D::aa.hid⟩) (ρ':=⟨aa.st++new,aa.hid⟩) rfl (fun b hb=>List.mem_cons_of_mem D hb)) _ _ r) hn hDo ⟨hLo.1,fun hm=>hLo.2 (List.mem_cons_of_mem _ hm)⟩
theorem qU{D:Addr}(R:Rel G σ ρ s)(R':Rel G σ ρ s')(hk:∀ b o,s.heap.get? b=some o->s'.heap.get? b=some o)(hD:s.heap.get? D=none)(al:s'.heap.get? D≠none) :
  KeepV s.heap ρ s'.heap ⟨ρ.st,D::ρ.hid⟩/\Rel G σ ⟨ρ.st,D::ρ.hid⟩ s' :=
 have KV:KeepV s.heap ρ s'.heap ⟨ρ.st,D::ρ.hid⟩:=⟨⟨[],(List.append_nil _).symm,fun _ h=>nomatch h⟩,fun b hb=>Or.elim (List.mem_cons.mp hb) (fun e=>.inr (e▸hD)) .inl,fun b o e _ _=>hk b o e⟩
 ⟨KV,R.len,R.inj,fun kk p o h1 h2=>(R.obj kk p o h1 h2).mono KV (fun _ e=>hk _ _ e) fun _ e=>hk _ _ e,R.fresh,R'.keep,R'.lse,R'.same,R'.bare,fun b hb=>Or.elim (List.mem_cons.mp hb) (fun e=>e▸al) (R'.hidden b)⟩
theorem qQ{b:Addr}(hk:∀ b o,s.heap.get? b=some o->s'.heap.get? b=some o)(h:s.heap.get? b≠none):s'.heap.get? b≠none:=fun e=>h (fE (s.heap.get? b) id fun o q=>son ((hk b o q).symm.trans e))
theorem j2{b:Addr}(hk:∀ b o,s.heap.get? b=some o->s'.heap.get? b=some o)(h:s'.heap.get? b=none):s.heap.get? b=none:=fE (s.heap.get? b) id fun o q=>son ((hk b o q).symm.trans h)
theorem qF{D:Addr}{h:Heap}{xs:Array Value}(p:h.PlainList D xs):h.get? D≠none:=a9 p fun _ e q=>son (e.symm.trans q)
theorem yh{tg elt iter:Expr}{ifs:List Expr}{scope:Scope}{pos:Pos}{n:Nat}{st:ItS}{out:List V}{I D:Addr}{RR:Result->Shared->Prop}(hh:A.handled=none)(H:CoR G A C' cenv W' tg elt ifs n st σ₁ η₁ out σ')(hl:out.length<=lim)
  (R:Rel G σ₁ aa am) (kX1:Rel G σ₁ aa aA) (hk:∀ b o,am.heap.get? b=some o->aA.heap.get? b=some o) (hI:am.heap.get? I=none) (hD:am.heap.get? D=none) (hID:I≠D) (hW:∀ b∈W',am.heap.get? b=none/\b≠D/\b≠I)
  (l7:RE G C' cenv W' η₁ ⟨aa.st,D::aa.hid⟩ aA) (fb1:JI aA.heap ⟨aa.st,D::aa.hid⟩ I st) (do1:aA.heap.PlainList D #[]) (yE:0<aA.toks) (k:∀ s',CompEnd G σ' out aa am D cenv.locals s'->RR (.ok .next) s') :
  codeAny (model G.prog G.w) A (.compStart (.ListComp elt [⟨tg,iter,ifs,0⟩] scope pos) 0 (.ref I) (.ref D) cenv) RR aA:=by
 have dI:=cI R hI
 have dD:=cI R hD
 have mb:StepW G (D::I::W') ⟨aa.st,D::aa.hid⟩ am ⟨aa.st,D::aa.hid⟩ aA σ₁ :=
  ⟨(qU R kX1 hk hD (qF do1)).2,⟨[],by simp,fun _ h=>nomatch h⟩,fun b o e _ _ _=>hk b o e,fun b _ hne=>qQ hk hne⟩
 have loop:=vT (iter:=iter) (scope:=scope) (pos:=pos) (RR:=RR) hh H mb hI l7 fb1 yE hl (fun h=>(hW I h).2.2 rfl) ⟨dI.1.1,fun h=>Or.elim (List.mem_cons.mp h) hID dI.1.2⟩ dI.2.1 dI.2.2 List.mem_cons_self dD.1.1 dD.2.1 dD.2.2 (fun h=>(hW D h).2.1 rfl) (Ne.symm hID) do1
  fun s' ρ' items η' S' N' pl' r' hDh hDo=>?_
 ·exact codeAny_compStart_list loop (fb1.pyIter_self loop)
 ·have wL:=hW _ l7.lmem
  have oL:=N'.wok _ l7.lmem
  refine aI (S'.ext) fun new kL1 hnew=>aI N'.loc fun m hn _=>?_
  subst kL1
  refine k s' ⟨⟨new,items,m,⟨S'.rel,⟨new,rfl,hnew⟩,fun b o e ho hw hl=>S'.keep b o e ho (fun h=>Or.elim (List.mem_cons.mp h) (fun q=>son (e.symm.trans (q▸hD))) fun h=>son (e.symm.trans (hW b h).1)) hl,fun b hb hne=>?_⟩,hnew,pl',r',hn,⟨hDo,dD.1.2⟩,oL.1⟩,hD,wL.1,oL.2.1,oL.2.2,Ne.symm wL.2.1⟩
  exact absurd (List.mem_singleton.mp hb▸wL.1) hne
theorem br1{tg elt iter:Expr}{ifs:List Expr}{scope:Scope}{vars:List Var}{pos:Pos}{n:Nat}{st:ItS}{out:List V}{I D:Addr}(hh:A.handled=none)(K:CompOk C vars scope)
  (H:∀ cenv W',CoR G A ⟨vars,aD scope C⟩ cenv W' tg elt ifs n st σ₁ (clr η vars) out σ') (hl:out.length<=lim) (R:Rel G σ₁ aa am) (N:RE G C env W η aa am) (iA1:Rel G σ₁ aa aA)
  (hI:am.heap.get? I=none) (J:JI s.heap aa I st) (k0:∀ b o,s.heap.get? b=some o->aA.heap.get? b=some o) (hk0:∀ b o,am.heap.get? b=some o->s.heap.get? b=some o) (hD0:s.heap.get? D=none) (af1:aA.heap.PlainList D #[]) (jK:0<aA.toks)
  {E:Value->Shared->Prop} {RR:Value->Addr->Result->Shared->Prop} (k:∀ L s',CompEnd G σ' out aa am D L s'->RR (.ref D) L (.ok .next) s') :
  wpAny (model G.prog G.w) A (newFunctionEnv scope env.globals (rb env.cells scope.names []) [] env.qual none .none (some env)) (fun cenv kF =>
    codeAny (model G.prog G.w) A (.compStart (.ListComp elt [⟨tg,iter,ifs,0⟩] scope pos) 0 (.ref I) (.ref D) { cenv with scope:=relabel scope env }) (RR (.ref D) cenv.locals) kF) E aA:=by
 have hD:=j2 hk0 hD0
 have hk:∀ b o,am.heap.get? b=some o->aA.heap.get? b=some o:=fun b o e=>k0 b o (hk0 b o e)
 have Ial:s.heap.get? I≠none:=au1 J.cls fun o _ e _ q=>son (e.symm.trans q)
 have q:=qU R iA1 hk hD (qF af1)
 have md:RE G C env W η ⟨aa.st,D::aa.hid⟩ aA:=N.keepAll q.1 (fun b _ o e=>hk b o e) fun c o _ e _ _=>hk c o e
 refine kA ?_
 rw[rF N.sc]
 refine dE1 (sA K q.2 md (a9 af1 fun _ e=>Heap.lt_size e) (cI R hD).2.1) fun W' hW1 _ _ vp l7=>?_
 have jf:Step G aa aA aa { aA with heap:=pushCells (aA.heap.push { cls:=.type "dict",data:=.dict #[] }) scope.names } σ₁:=Step.grow iA1 vp ⟨_,_,rfl⟩
 exact yh hh (H _ W') hl R jf.rel (fun b o e=>vp b o (hk b o e)) hI hD (fun e=>Ial (e▸hD0)) (fun b hb=>⟨j2 hk (hW1 b hb).1,(hW1 b hb).2,fun e=>qQ k0 Ial (e▸(hW1 b hb).1)⟩) l7
  (J.keep ⟨⟨[],(List.append_nil _).symm,fun _ h=>nomatch h⟩,fun b hb=>Or.elim (List.mem_cons.mp hb) (fun e=>.inr (e▸hD0)) .inl,fun b o e _ _=>vp _ _ (k0 b o e)⟩ fun o e=>vp _ _ (k0 _ o e)) (af1.at fun o e=>vp _ _ e) jK fun s' h=>k _ s' h
theorem iT{tg elt iter:Expr}{ifs:List Expr}{scope:Scope}{vars:List Var}{pos:Pos}{n:Nat}{st:ItS}{v:V}{cv:Value}{out:List V}(hh:A.handled=none)(K:CompOk C vars scope)
  (H:∀ cenv W',CoR G A ⟨vars,aD scope C⟩ cenv W' tg elt ifs n st σ₁ (clr η vars) out σ') (hl:out.length<=lim) (hi:ba v=some st)
  (R:Rel G σ₁ aa am) (N:RE G C env W η aa am) (ht:0<am.toks) (r:RV am.heap aa v cv) {E:Value->Shared->Prop} {RR:Value->Addr->Result->Shared->Prop}
  (k:∀ D L s',CompEnd G σ' out aa am D L s'->RR (.ref D) L (.ok .next) s') :
  wpAny (model G.prog G.w) A (pyIter cv) (fun it aA=>wpAny (model G.prog G.w) A (newList []) (fun acc dY =>
   wpAny (model G.prog G.w) A (newFunctionEnv scope env.globals (rb env.cells scope.names []) [] env.qual none .none (some env)) (fun cenv kF =>
    codeAny (model G.prog G.w) A (.compStart (.ListComp elt [⟨tg,iter,ifs,0⟩] scope pos) 0 it acc { cenv with scope:=relabel scope env }) (RR acc cenv.locals) kF) E dY) E aA) E am:=by
 refine wpAny_with_toks (Nat.le_refl _) (im hi (H default []).step_ok R r fun aA aq gK1 _ fK1 vo=>wpAny_newList ?_ (Nat.zero_le _))
 have eh1:∀ b o,aA.heap.get? b=some o->(aA.heap.push { cls:=.type "list",data:=.seq ([]:List Value).toArray }).get? b=some o:=fun b o e=>Heap.get?_push_of_some _ e
 exact br1 hh K H hl R N (Step.grow aq.rel eh1 ⟨_,_,rfl⟩).rel (bL (Nat.le_refl _)) fK1 eh1 gK1 (bL (Nat.le_refl _)) ⟨_,Heap.get?_push_size _ rfl⟩ (Nat.lt_of_lt_of_le ht vo) fun L s' h=>k _ L s' h
theorem CompEnd.fin{out:List V}{D L:Addr}{h':Heap}(X:CompEnd G σ' out aa am D L s')(hl:out.length<=lim)(hs:Heap.SameBut L s'.heap h') :
  PE G aa am σ' (.lst out) (.ref D) { s' with heap:=h' }:=by
 refine byQ fun Q kQ=>?_
 refine d7 (X.ex) fun ρ' items m h_p=>?_;have S:=h_p.1;have pl:=h_p.2.1;have r:=h_p.2.2.1;have hn:=h_p.2.2.2.1;have hDo:=h_p.2.2.2.2.1;have hLo:=h_p.2.2.2.2.2
 refine d7 (id hn) fun o es ep h_p=>?_;have ho:=h_p.1;have hd:=h_p.2.1;have hr:=h_p.2.2
 refine gu (StepW.closeNew (W:=[]) (t:=s'.toks) S X.newL ⟨o,ho,Solid.no_dict hd⟩ hs.extBut hLo X.baseL X.looseL) fun T K=>?_
 refine kQ ?_
 refine⟨ρ',T,?_⟩
 dsimp only[RV]
 exact⟨hl,D,items,rfl,hDo,pl.at fun o e=>hs.extBut D o X.ne e,RVs.mono K _ _ r⟩
theorem xn{st:List (Addr×Addr)}{D a:Addr}{hid:List Addr}(h:Off ⟨st,D::hid⟩ a):Off ⟨st++[(D,D)],hid⟩ a:=by
 have hD:D≠a:=fun e=>h.2 (by exact(e)▸(List.mem_cons_self))
 refine⟨fun p hp=>?_,fun hm=>h.2 (List.mem_cons_of_mem _ hm)⟩
 replace hp:p∈st++[(D,D)]:=hp
 rcases List.mem_append.mp hp with hp | hp
 ·exact h.1 p hp
 ·exact(List.mem_singleton.mp hp)▸(⟨hD,hD⟩)
theorem ct1{h:Heap}{st:List (Addr×Addr)}{D:Addr}{hid:List Addr}:KeepG h ⟨st,D::hid⟩ h ⟨st++[(D,D)],hid⟩ :=
 ⟨fun _ _=>xn,fun _ _ e _ _=>e,fun k p hp=>(List.getElem?_append_left (List.getElem?_eq_some_iff.mp hp).1).trans hp⟩
theorem RVs.swap{h:Heap}{st:List (Addr×Addr)}{D:Addr}{hid:List Addr}(xs:List V)(vs:List Value)(r:RVs h ⟨st,D::hid⟩ xs vs):RVs h ⟨st++[(D,D)],hid⟩ xs vs:=RVs.keepG ct1 xs vs r
theorem RO.swap{h:Heap}{st:List (Addr×Addr)}{D:Addr}{hid:List Addr}{p:Addr×Addr}{o:AO}(x:RO G h ⟨st,D::hid⟩ p o):RO G h ⟨st++[(D,D)],hid⟩ p o:=by
 obtain ⟨items,acc⟩:=o
 dsimp only[RO] at x ⊢
 refine⟨x.1,?_⟩
 cases acc with
 | none =>
  obtain ⟨h1,vs,h_p⟩:=x.2;have h2:=h_p.1;have h3:=h_p.2
  exact⟨h1,vs,h2,RVs.swap _ _ h3⟩
 | some i =>
  refine byQ fun Q kQ=>?_
  refine d7 (x.2) fun vs n m h_p=>?_;have h1:=h_p.1;have h2:=h_p.2.1;have h3:=h_p.2.2
  refine kQ ?_
  exact ij1 vs n m h1 (RVs.swap _ _ h2) h3
theorem CompEnd.finM{out:List V}{D L:Addr}{h':Heap}(X:CompEnd G σ' out aa am D L s')(R:Rel G σ₁ aa am)(hl:out.length<=lim)(hs:Heap.SameBut L s'.heap h') :
  PE G aa am (σ'++[⟨out,none⟩]) (.ref σ'.length) (.ref D) { s' with heap:=h' }:=by
 refine byQ fun Q kQ=>?_
 refine d7 (X.hx) fun new items m h_p=>?_;have S:=h_p.1;have hnew:=h_p.2.1;have pl:=h_p.2.2.1;have r:=h_p.2.2.2.1;have hn:=h_p.2.2.2.2.1;have hDo:=h_p.2.2.2.2.2.1;have hLo:=h_p.2.2.2.2.2.2
 refine d7 (id hn) fun o es ep h_p=>?_;have ho:=h_p.1;have hd:=h_p.2.1;have hr:=h_p.2.2
 refine gu (StepW.closeNew (W:=[]) (t:=s'.toks) S X.newL ⟨o,ho,Solid.no_dict hd⟩ hs.extBut hLo X.baseL X.looseL) fun T K=>?_
 have r2:=RVs.mono K _ _ r
 have pl2:h'.PlainList D items:=pl.at fun o e=>hs.extBut D o X.ne e
 have base:G.s₀.heap.get? D=none:=by
  cases e:G.s₀.heap.get? D with
  | none=>rfl
  | some x =>
   by_cases hl:D∈G.loose
   ·refine aI (R.lse _ hl) fun vs e' etr=>?_
    rw[X.newD] at e';exact nso e'
   ·have:=R.keep _ _ hl e
    rw[X.newD] at this;exact nso this
 have hlen:(aa.st++new).length=σ'.length:=T.rel.len
 refine kQ ?_
 refine⟨⟨(aa.st++new)++[(D,D)],aa.hid⟩,⟨⟨?_,fun i j a b ha hb hab=>?_,fun k q x hq hx=>?_,fun q hq=>?_,T.rel.keep,T.rel.lse,T.rel.same,T.rel.bare,fun b hb=>T.rel.hidden b (List.mem_cons_of_mem _ hb)⟩,
  ⟨new++[(D,D)],by rw[List.append_assoc],fun q hq=>?_⟩,T.keep,fun _ h=>nomatch h⟩,?_⟩
 ·show ((aa.st++new)++[(D,D)]).length=_
  simp only[List.length_append,List.length_singleton] at hlen ⊢
  lia
 ·have old:∀ (i:Nat) (a:Addr×Addr),((aa.st++new)++[(D,D)])[i]?=some a->((aa.st++new)[i]?=some a/\a.1≠D)\/(i=(aa.st++new).length/\a=(D,D)):=by
   intro i a ha
   by_cases hi:i<(aa.st++new).length
   ·rw[List.getElem?_append_left hi] at ha
    exact .inl ⟨ha,(hDo.1 a (List.mem_of_getElem? ha)).1⟩
   ·rw[List.getElem?_append_right (Nat.le_of_not_lt hi)] at ha
    have:i - (aa.st++new).length=0:=by
     have:=(List.getElem?_eq_some_iff.mp ha).1
     simpa using this
    rw[this] at ha
    simp at ha
    exact .inr ⟨by lia,ha.symm⟩
  rcases old i a ha with ⟨h1,n1⟩ | ⟨h1,e1⟩ <;> rcases old j b hb with ⟨h2,n2⟩ | ⟨h2,e2⟩
  ·exact T.rel.inj i j a b h1 h2 hab
  ·exact absurd (by rw[hab,e2]) n1
  ·exact absurd (by rw[← hab,e1]) n2
  ·rw[h1,h2]
 ·replace hq:((aa.st++new)++[(D,D)])[k]?=some q:=hq
  by_cases hi:k<(aa.st++new).length
  ·replace hq:=(List.getElem?_append_left hi)▸hq
   rw[List.getElem?_append_left (by lia)] at hx
   exact RO.swap (T.rel.obj k q x hq hx)
  ·have hk:k=(aa.st++new).length:=by
    have:=(List.getElem?_eq_some_iff.mp hq).1
    simp only[List.length_append,List.length_singleton] at this hi ⊢
    lia
   rw[hk,List.getElem?_append_right (Nat.le_refl _),Nat.sub_self] at hq
   rw[hk,hlen,List.getElem?_append_right (Nat.le_refl _),Nat.sub_self] at hx
   simp at hq hx
   subst hq hx
   exact⟨hl,rfl,items,pl2,RVs.swap _ _ r2⟩
 ·replace hq:q∈(aa.st++new)++[(D,D)]:=hq
  rcases List.mem_append.mp hq with hq | hq
  ·exact T.rel.fresh q hq
  ·exact(List.mem_singleton.mp hq)▸(⟨base,base⟩)
 ·rcases List.mem_append.mp hq with hq | hq
  ·exact hnew q hq
  ·rw[List.mem_singleton.mp hq];exact⟨X.newD,X.newD⟩
 ·delta RV
  refine⟨(D,D),?_,rfl⟩
  show ((aa.st++new)++[(D,D)])[σ'.length]?=_
  rw[← hlen,List.getElem?_append_right (Nat.le_refl _),Nat.sub_self];rfl
theorem f7{scope:Scope}{vars:List Var}(K:CompOk C vars scope)(N:RE G C env W η ρ s):closureFor scope env=pure (rb env.cells scope.names []) :=
 iV fun x hx hk=>by
  refine a9 (K.free x hx hk) fun y h_p=>?_;have hy:=h_p.1;have e1:=h_p.2.1;have e2:=h_p.2.2
  obtain ⟨c,ov,h_p⟩:=N.cel y hy (by exact(e1)▸(e2));have h:=h_p.1
  exact⟨c,e1▸h⟩
theorem Ev.comp{tg elt iter:Expr}{ifs:List Expr}{scope:Scope}{vars:List Var}{pos:Pos}{n:Nat}{st:ItS}{v:V}{out:List V}(hh:A.handled=none)(K:CompOk C vars scope)(hs:gv iter=true)
  (h:Ev G A C env W iter σ η v σ₁) (hi:ba v=some st) (H:∀ cenv W',CoR G A ⟨vars,aD scope C⟩ cenv W' tg elt ifs n st σ₁ (clr η vars) out σ') (hl:out.length<=lim) :
  Ev G A C env W (.ListComp elt [⟨tg,iter,ifs,0⟩] scope pos) σ η (.lst out) σ':=fun ρ s R N ht=>by
 rw[eval_ListComp]
 refine wpAny_comprehension_free (use:=none) rfl (fun x=>dL hs x) (f7 K N) K.fn K.loc ?_
 show wpAny _ A (eval iter env) _ _ s
 refine h.use R N ht fun cv am aa ah aJ aK av=>?_
 refine iT (RR:=fun acc C=>compPost (model G.prog G.w) A No none _ acc C) hh K H hl hi ah.rel aJ aK av fun D L s' X=>?_
 refine byQ fun Q kQ=>?_
 refine d7 (X.ex) fun ρ' items m h_p=>?_;have S:=h_p.1;have pl:=h_p.2.1;have r:=h_p.2.2.1;have hn:=h_p.2.2.2.1;have hDo:=h_p.2.2.2.2.1;have hLo:=h_p.2.2.2.2.2
 refine kQ ?_
 refine⟨m,hn,fun h' hs'=>?_⟩
 obtain ⟨ρ',T,r⟩:=X.fin hl hs'
 exact⟨ρ',ah.trans T,r⟩
theorem Ev.compM{tg elt iter:Expr}{ifs:List Expr}{scope:Scope}{vars:List Var}{pos:Pos}{n:Nat}{st:ItS}{v:V}{out:List V}(hh:A.handled=none)(K:CompOk C vars scope)(hs:gv iter=true)
  (h:Ev G A C env W iter σ η v σ₁) (hi:ba v=some st) (H:∀ cenv W',CoR G A ⟨vars,aD scope C⟩ cenv W' tg elt ifs n st σ₁ (clr η vars) out σ') (hl:out.length<=lim) :
  Ev G A C env W (.ListComp elt [⟨tg,iter,ifs,0⟩] scope pos) σ η (.ref σ'.length) (σ'++[⟨out,none⟩]):=fun ρ s R N ht=>by
 rw[eval_ListComp]
 refine wpAny_comprehension_free (use:=none) rfl (fun x=>dL hs x) (f7 K N) K.fn K.loc ?_
 show wpAny _ A (eval iter env) _ _ s
 refine h.use R N ht fun cv am aa ah aJ aK av=>?_
 refine iT (RR:=fun acc C=>compPost (model G.prog G.w) A No none _ acc C) hh K H hl hi ah.rel aJ aK av fun D L s' X=>?_
 refine byQ fun Q kQ=>?_
 refine d7 (X.ex) fun ρ' items m h_p=>?_;have S:=h_p.1;have pl:=h_p.2.1;have r:=h_p.2.2.1;have hn:=h_p.2.2.2.1;have hDo:=h_p.2.2.2.2.1;have hLo:=h_p.2.2.2.2.2
 refine kQ ?_
 refine⟨m,hn,fun h' hs'=>?_⟩
 obtain ⟨ρ',T,r⟩:=X.finM ah.rel hl hs'
 exact⟨ρ',ah.trans T,r⟩
theorem Es.asgComp{x:Var}{p spos:Pos}{tg elt iter:Expr}{ifs:List Expr}{scope:Scope}{vars:List Var}{pos:Pos}{n:Nat}{st:ItS}{v:V}{out:List V}(hh:A.handled=none)(K:CompOk C vars scope)(hs:gv iter=true)
  (hx:x∈C.vars) (ho:x.own=true) (hxk:C.kind x.name=some .local) (hline:p.line=pos.line) (hnot:(scope.names.any fun y=>y.1==x.name&&(y.2==.local || y.2==.cell))=false)
  (h:Ev G A C env W iter σ η v σ₁) (hi:ba v=some st) (H:∀ cenv W',CoR G A ⟨vars,aD scope C⟩ cenv W' tg elt ifs n st σ₁ (clr η vars) out σ') (hl:out.length<=lim) :
  Es G A C env W (.Assign [.Name x.name p] (.ListComp elt [⟨tg,iter,ifs,0⟩] scope pos) spos) σ η .next σ' (η.set x.slot (some (.lst out))):=fun ρ s R N ht=>by
 have hfn:=(Cx.ok_parts N.ok).1
 have hsw:swapsWith (.ListComp elt [⟨tg,iter,ifs,0⟩] scope pos) (some (.Name x.name p)) spos.line env=pure true:=by
  show (pure (env.blockKind==.function&&env.kindOf x.name==some .local&&p.line==pos.line&&!(scope.names.any fun (n,k)=>n==x.name&&(k==.local || k==.cell))):Sem Bool)=pure true
  have h1:env.blockKind=.function:=by unfold Env.blockKind;rw[N.sc,hfn];rfl
  have h2:env.kindOf x.name=some .local:=by unfold Env.kindOf;exact(N.sc)▸(hxk)
  have h3:(scope.names.any fun (n,k)=>n==x.name&&(k==.local || k==.cell))=false:=hnot
  rw[h1,h2,h3,hline]
  simp
 refine(exec_Assign_Name_used _ _ _ _ hsw)▸?_
 refine wpAny_bind (wpAny_standAt (wpAny_bind ?_))
 show wpAny _ A (do let _ ← comprehension (.ListComp elt [⟨tg,iter,ifs,0⟩] scope pos) scope env _ (newList []) false (eval iter env) (some (assign (.Name x.name p) env))) _ _ s
 refine wpAny_bind (wpAny_mono (wpAny_comprehension_free (E:=No) (use:=some (assign (.Name x.name p) env)) (Q:=fun _ s'=>PS G C env W ρ s σ' (η.set x.slot (some (.lst out))) .next .next s')
  rfl (fun y=>dL hs y) (f7 K N) K.fn K.loc ?_) (fun _ s' hq=>wpAny_pure (wpAny_pure hq)) fun _ _ f=>f.elim)
 show wpAny _ A (eval iter env) _ _ s
 refine h.use R N ht fun cv am aa ah aJ aK av=>?_
 refine iT (RR:=fun acc C=>compPost (model G.prog G.w) A No (some (assign (.Name x.name p) env)) _ acc C) hh K H hl hi ah.rel aJ aK av fun D L s' X=>?_
 refine d7 (X.ex) fun ρ' items m h_p=>?_;have S:=h_p.1;have pl:=h_p.2.1;have r:=h_p.2.2.1;have hn:=h_p.2.2.2.1;have hDo:=h_p.2.2.2.2.1;have hLo:=h_p.2.2.2.2.2
 -- at the comprehension's end,seen as a step from am
 have S':Step G aa am ρ' s' σ':=S.drop fun b hb hne=>by rw[List.mem_singleton.mp hb] at hne;exact absurd X.newL hne
 have N':=aJ.mono ah.rel S'
 have rl:RV s'.heap ρ' (.lst out) (.ref D):=by dsimp only[RV];exact⟨hl,D,items,rfl,hDo,pl,r⟩
 have hLW:L ∉ W:=fun hm=>by
  refine a9 (aJ.wk L hm) fun o h_p=>?_;have e:=h_p.1
  rw[X.newL] at e;exact nso e
 show wpAny _ A (assign (.Name x.name p) env (.ref D)) _ _ s'
 refine wpAny_assign_Name (RE.store S'.rel N' hx ho rl fun s'' S'' N''=>?_)
 have hn'':s''.heap.Ns L m:=by
  refine rL (hn) fun o es ep e q=>?_
  exact fv1 o es ep (S''.keep L o e hLo.1 hLW X.looseL) q
 refine⟨m,hn'',fun h' hs'=>?_⟩
 refine uM (id hn'') fun o es ep e hd q=>?_
 -- the last write at L
 have T:StepW G (L::W) aa am ρ' s'' σ':=(S'.toW.trans S'').weaken fun b hb=>List.mem_cons_of_mem _ hb
 refine gu (T.closeNew (t:=s''.toks) X.newL ⟨o,e,Solid.no_dict hd⟩ hs'.extBut hLo X.baseL X.looseL) fun T' K'=>?_
 refine⟨ρ',ah.toW.trans T',N''.keepAll K' (fun b hb o e=>hs'.extBut b o (by rintro rfl;exact hLW hb) e) fun c oc vc e' hdc _=>hs'.extBut c oc (by
  rintro rfl
  rw[e] at e';obtain rfl:=siX e'
  replace hdc:=(hd)▸hdc;cases hdc) e',rfl⟩
end
noncomputable def oE(l:List Nat):Nat->List Nat
 | 0=>[]
 | n+1=>l++oE l n
theorem eQ(l:List Nat):∀ n,(oE l n).length=l.length*n
 | 0=>rfl
 | n+1=>by show (l++oE l n).length=_;rw[List.length_append,eQ l n,Nat.mul_succ,Nat.add_comm]
noncomputable def wf(l:List V):Nat->List V
 | 0=>[]
 | n+1=>l++wf l n
noncomputable def vI:V->Option Int
 | .int i=>some i
 | _=>none
noncomputable def vS:V->Option (List Nat)
 | .str i=>some i
 | _=>none
noncomputable def vL:V->Option (List V)
 | .lst i=>some i
 | _=>none
theorem iH1{v:V}{i:Int}(h:vI v=some i):v=.int i:=by cases v <;> first | (obtain rfl:=siX h;rfl) | exact nso h
theorem fX1{v:V}{i:List Nat}(h:vS v=some i):v=.str i:=by cases v <;> first | (obtain rfl:=siX h;rfl) | exact nso h
theorem iG1{v:V}{i:List V}(h:vL v=some i):v=.lst i:=by cases v <;> first | (obtain rfl:=siX h;rfl) | exact nso h
section
variable {α β:Type} {P:Prop} {r:β}
theorem ji{o:Option α}{f:α->Option β}(h:o.bind f=some r)(q:∀ x,o=some x->f x=some r->P):P:=(Option.bind_eq_some_iff.mp h).elim fun x h=>q x h.1 h.2
theorem tj{v:V}{f:Int->Option β}(h:(vI v).bind f=some r)(q:∀ x,v=.int x->f x=some r->P):P:=ji h fun x hx=>q x (iH1 hx)
theorem th{v:V}{f:List Nat->Option β}(h:(vS v).bind f=some r)(q:∀ x,v=.str x->f x=some r->P):P:=ji h fun x hx=>q x (fX1 hx)
theorem fE1{v:V}{f:List V->Option β}(h:(vL v).bind f=some r)(q:∀ x,v=.lst x->f x=some r->P):P:=ji h fun x hx=>q x (iG1 hx)
theorem bh{c:Prop}[Decidable c]{o:Option β}(h:(if c then o else none)=some r):c/\o=some r:=by
 by_cases hc:c
 ·exact⟨hc,(if_pos hc).symm.trans h⟩
 ·exact nomatch (if_neg hc).symm.trans h
end
noncomputable def ii{β:Type}(f:Int->Int->Option β)(a b:V):Option β:=(vI a).bind fun x=>(vI b).bind fun y=>f x y
theorem y6{β:Type}{P:V->V->Prop}{f:Int->Int->Option β}{a b:V}{r:β}(h:ii f a b=some r)(q:∀ x y,f x y=some r->P (.int x) (.int y)):P a b :=
 tj h fun x hx h=>tj h fun y hy h=>by rw[hx,hy];exact q x y h
noncomputable def iw1(a b:V):Option V:=match a with
 | .int x=>(vI b).bind fun y=>some (.int (x+y))
 | .str x=>(vS b).bind fun y=>if x.length+y.length<=lim then some (.str (x++y)) else none
 | .lst x=>(vL b).bind fun y=>if x.length+y.length<=lim then some (.lst (x++y)) else none
 | _=>none
noncomputable def ie1(a b:V):Option V:=match a with
 | .int x=>(vI b).bind fun y=>if x.natAbs<1000000000 then some (.int (x*y)) else none
 | .str x=>(vI b).bind fun n=>if n<=1000000/\-1000000<=n/\x.length*n.toNat<=lim then some (.str (oE x n.toNat)) else none
 | .lst x=>(vI b).bind fun n=>if n<=1000000/\-1000000<=n/\x.length*n.toNat<=lim then some (.lst (wf x n.toNat)) else none
 | _=>none
noncomputable def te(op:Operator)(a b:V):Option V :=
 match op with
 | .Add=>iw1 a b
 | .Sub=>ii (fun x y=>some (.int (x - y))) a b
 | .Mult=>ie1 a b
 | .FloorDiv=>ii (fun x y=>if 1<=y/\y<1000000000 then some (.int (x / y)) else none) a b
 | .Mod=>ii (fun x y=>if 1<=y then some (.int (x % y)) else none) a b
 | .Pow=>ii (fun x y=>if x.natAbs<1000000000/\0<=y/\y<=1000 then some (.int (x ^ y.toNat)) else none) a b
 | _=>none
theorem eP(l:List V):∀ n,(wf l n).length=l.length*n
 | 0=>rfl
 | n+1=>by show (l++wf l n).length=_;rw[List.length_append,eP l n,Nat.mul_succ,Nat.add_comm]
section
variable {G:Wd} {A:Around} {C C':Cx} {env cenv:Env} {W W':List Addr} {η η' η₁ η₂ bi:ab} {σ σ' σ₁ σ₂ aj:List AO} {ρ ρ' aa:Rho} {s s' am aA:Shared}
theorem On.two{f:Value->Value->Sem Value}{u v w:V}(h:∀ ρ s bz b6,Rel G σ ρ s->RV s.heap ρ u bz->RV s.heap ρ v b6->0<s.toks->wpAny (model G.prog G.w) A (f bz b6) (PE G ρ s σ' w) No s) :
  On G A (fun | [a,b]=>f a b | _=>pure .none) σ [u,v] w σ':=fun ρ s cvs R r ht=>by
 obtain ⟨bz,av,rfl,h1,h2⟩:=RVs.cons_iff r
 refine cH (RVs.cons_iff h2) fun b6 aF h_p=>?_;obtain rfl:=h_p.1;have h3:=h_p.2.1;have h4:=h_p.2.2
 refine(RVs.nil_iff h4)▸?_
 exact h ρ s bz b6 R h1 h3 ht
theorem On.one{f:Value->Sem Value}{u w:V}(h:∀ ρ s bz,Rel G σ ρ s->RV s.heap ρ u bz->0<s.toks->wpAny (model G.prog G.w) A (f bz) (PE G ρ s σ' w) No s) :
  On G A (fun | [a]=>f a | _=>pure .none) σ [u] w σ':=fun ρ s cvs R r ht=>by
 refine cH (RVs.cons_iff r) fun bz av h_p=>?_;obtain rfl:=h_p.1;have h1:=h_p.2.1;have h2:=h_p.2.2
 refine(RVs.nil_iff h2)▸?_
 exact h ρ s bz R h1 ht
theorem aS(R:Rel G σ ρ s){i:Int}{t k:Tok}:PE G ρ s σ (.int i) (.int i t) { s with toks:=k }:=⟨ρ,Step.toks R k,RV.int_⟩
theorem cG(R:Rel G σ ρ s){l:List Nat}{x:Str}{t k:Tok}(hl:l.length<=lim)(e:x.cps.toList=l):PE G ρ s σ (.str l) (.str x t) { s with toks:=k }:=⟨ρ,Step.toks R k,RV.str' hl e⟩
theorem aC(R:Rel G σ ρ s){b:Bool}:PE G ρ s σ (.bool b) (.bool b) s:=⟨ρ,Step.refl R,RV.bool_⟩
theorem bx{l:List Nat}:(⟨l.toArray⟩:Str).length=l.length:=rfl
theorem foldl_append(l:List Nat):∀ (n:Nat) (acc:Array Nat),((List.replicate n l.toArray).foldl (·++·) acc).toList=acc.toList++oE l n
 | 0,acc=>(List.append_nil _).symm
 | n+1,acc=>by
  rw[List.replicate_succ,List.foldl_cons,foldl_append l n]
  exact(congrArg (·++oE l n) Array.toList_append).trans (List.append_assoc _ _ _)
theorem zC{l:List Nat}{n:Int}:(Txt.mul ⟨l.toArray⟩ n).cps.toList=oE l n.toNat:=by
 dsimp only[Txt.mul]
 by_cases h:n<1
 ·rw[if_pos h]
  have:n.toNat=0:=by lia
  rw[this];rfl
 ·rw[if_neg h]
  split
  ·rename_i h1
   simp only[Bool.or_eq_true,beq_iff_eq,bx] at h1
   rcases h1 with h1 | h1
   ·rw[h1];show l=l++[];rw[List.append_nil]
   ·have:l=[]:=List.eq_nil_of_length_eq_zero h1
    subst this
    have:∀ k,oE [] k=[]:=fun k=>List.eq_nil_of_length_eq_zero (by rw[eQ];simp)
    rw[this]
  ·rw[foldl_append];simp
theorem bI1(vs:Array Value):∀ k:Nat,(List.foldl (fun x1 x2=>x1++x2) #[] (List.replicate k vs)).toList=(List.replicate k vs.toList).flatten:=fun k=>by
 have key:∀ (k:Nat) (acc:Array Value),(List.foldl (fun x1 x2=>x1++x2) acc (List.replicate k vs)).toList=acc.toList++(List.replicate k vs.toList).flatten:=by
  intro k
  induction k with
  | zero=>intro acc;simp
  | succ k ih=>intro acc;rw[List.replicate_succ,List.foldl_cons,ih,List.replicate_succ,List.flatten_cons,Array.toList_append,List.append_assoc]
 exact key k #[]
theorem RVs.rep{h:Heap}{x:List V}{vl:List Value}(r:RVs h ρ x vl):∀ k:Nat,RVs h ρ (wf x k) (List.replicate k vl).flatten
 | 0=>RVs.nil
 | k+1=>by
  rw[List.replicate_succ,List.flatten_cons]
  exact RVs.append r (RVs.rep r k)
theorem On.ints{f:Value->Value->Sem Value}{x y:Int}{w:V}(h:∀ ρ s t u,Rel G σ ρ s->wpAny (model G.prog G.w) A (f (.int x t) (.int y u)) (PE G ρ s σ' w) No s) :
  On G A (fun | [a,b]=>f a b | _=>pure .none) σ [.int x,.int y] w σ':=On.two fun ρ s bz b6 R av aF ht=>by
 obtain ⟨t,rfl⟩:=RV.int_iff av;obtain ⟨u,rfl⟩:=RV.int_iff aF
 exact h ρ s t u R
theorem On.strs{f:Value->Value->Sem Value}{x y:List Nat}{w:V}(h:∀ ρ s t u,Rel G σ ρ s->wpAny (model G.prog G.w) A (f (.str ⟨x.toArray⟩ t) (.str ⟨y.toArray⟩ u)) (PE G ρ s σ' w) No s) :
  On G A (fun | [a,b]=>f a b | _=>pure .none) σ [.str x,.str y] w σ':=On.two fun ρ s bz b6 R av aF ht=>by
 obtain ⟨_,t,rfl⟩:=RV.str_iff av;obtain ⟨_,u,rfl⟩:=RV.str_iff aF
 exact h ρ s t u R
theorem az1{x y:Int}(h:x.natAbs<1000000000):On G A (fun | [x,y]=>binaryOp .Mult x y | _=>pure .none) σ [.int x,.int y] (.int (x*y)) σ:=On.ints fun ρ s t u R=>by
 refine mul_int (aS R) (IntMulOk.of_left ?_)
 unfold Builtin.Int.intBits
 split
 ·exact Nat.zero_le _
 ·rename_i h0
  have h0':x.natAbs≠0:=fun e=>h0 (by rw[Int.natAbs_eq_zero.mp e];rfl)
  have:=(Nat.log2_lt (k:=63) h0').mpr (Nat.lt_of_lt_of_le h (by decide))
  exact Nat.le_succ_of_le ‹_›
theorem bL1{x y:List Nat}(h:x.length+y.length<=lim):On G A (fun | [x,y]=>binaryOp .Add x y | _=>pure .none) σ [.str x,.str y] (.str (x++y)) σ:=On.strs fun ρ s t u R=>by
 refine SB.add (fun t' k=>cG R (by rw[List.length_append];exact h) ?_) (by rw[bx,bx];exact Nat.le_trans h (by decide))
 show (_++_:Array Nat).toList=_
 simp
theorem ay1{k:Nat}{n:Int}(h:n<=1000000/\-1000000<=n/\k*n.toNat<=lim):decide (n < -1000000)=false/\(1<=n->(k:Int)<=(2 ^ 63 - 1) / n)/\k*n.toNat<=1000000:=by
 have h2:=h.2.2
 unfold lim at h2
 refine⟨by simp;omega,fun h1=>?_,h2⟩
 have hx:(k:Int)<=1000000:=by
  have h3:k*1<=k*n.toNat:=Nat.mul_le_mul_left _ (by lia)
  lia
 have:(1000000:Int)<=(2 ^ 63 - 1) / n:=by
  refine Int.le_ediv_of_mul_le (by assumption) ?_
  have:(1000000:Int)*n<=1000000*1000000:=Int.mul_le_mul_of_nonneg_left h.1 (by decide)
  omega
 lia
theorem dJ1{x:List Nat}{n:Int}(h:n<=1000000/\-1000000<=n/\x.length*n.toNat<=lim):On G A (fun | [x,y]=>binaryOp .Mult x y | _=>pure .none) σ [.str x,.int n] (.str (oE x n.toNat)) σ:=On.two fun ρ s bz b6 R av aF ht=>by
 obtain ⟨_,t,rfl⟩:=RV.str_iff av;obtain ⟨u,rfl⟩:=RV.int_iff aF
 refine SB.mul ⟨?_,fun h1 _=>?_,fun h1 _=>?_⟩ (fun t' k=>cG R (by rw[eQ];exact h.2.2) zC)
 ·simp only[Bool.or_eq_false_iff,decide_eq_false_iff_not];omega
 ·rw[bx];exact Int.not_lt.mpr ((ay1 h).2.1 (by exact Int.not_lt.mp ‹_›))
 ·rw[bx]
  unfold Builtin.Str.tooLong
  refine decide_eq_false ?_
  have:=(ay1 h).2.2
  have h4:sizeLine=16777216:=rfl
  lia
theorem bM1{x y:List V}(h:x.length+y.length<=lim):On G A (fun | [x,y]=>binaryOp .Add x y | _=>pure .none) σ [.lst x,.lst y] (.lst (x++y)) σ:=On.two fun ρ s bz b6 R av aF ht=>by
 refine byQ fun Q kQ=>?_
 obtain ⟨_,l,vs,rfl,ho,⟨n,hl⟩,hr⟩:=RV.lst_iff av;obtain ⟨_,b,us,rfl,ho',⟨m,hb⟩,hr'⟩:=RV.lst_iff aF
 have hlen:(vs++us).size<=sizeLine:=by
  have h1:=RVs.length hr
  have h2:=RVs.length hr'
  simp at h1 h2
  rw[Array.size_append,h1,h2]
  exact Nat.le_trans h (by decide)
 refine kQ ?_
 exact PySem.P.add_list hl hb ⟨ρ,Step.grow R (fun b o e=>Heap.get?_push_of_some _ e) ⟨_,_,rfl⟩,by
  dsimp only[RV]
  exact⟨by rw[List.length_append];exact h,_,_,rfl,bM R,⟨_,Heap.get?_push_size _ rfl⟩,by
   rw[Array.toList_append]
   exact RVs.append (RVs.sameHeap (fun b o e=>Heap.get?_push_of_some _ e) hr) (RVs.sameHeap (fun b o e=>Heap.get?_push_of_some _ e) hr')⟩⟩ (by rwa [Array.size_append] at hlen)
theorem dK1{x:List V}{n:Int}(h:n<=1000000/\-1000000<=n/\x.length*n.toNat<=lim):On G A (fun | [x,y]=>binaryOp .Mult x y | _=>pure .none) σ [.lst x,.int n] (.lst (wf x n.toNat)) σ:=On.two fun ρ s bz b6 R av aF ht=>by
 obtain ⟨hx,l,vs,rfl,ho,⟨k,hl⟩,hr⟩:=RV.lst_iff av;obtain ⟨u,rfl⟩:=RV.int_iff aF
 have hsz:vs.size=x.length:=by have:=RVs.length hr;simpa using this
 have hlm:=(ay1 h).2.2
 have hll:sizeLine=16777216:=rfl
 refine wpAny_binaryOp_repeat_ref (T:="list") (U:="int") (by decide) ⟨_,hl,rfl⟩ (fun s'=>typeIs_int s' n u) noFill_list_mul F.fills_int_mul F.slot_int_rmul repeat_list F.slot_int_index.lookup
  (call_meets F.slot_int_rmul (typeIs_int s n u) F.entry_int_rmul (F.args_int_rmul_2 _ _) (int___rmul___int_list n u l vs k) ⟨hl,rfl,⟨_,hl,rfl⟩,call_meets F.slot_list_mul ⟨_,hl,rfl⟩ F.entry_list_mul (F.args_list_mul_2 _ _)
   (AutoListH.list___mul___list_int_3 l vs k n u (by simp [Builtin.List.listFitsIndex];omega) (by rw[hsz];lia) (by rw[hsz];simp [Builtin.List.listTooLong];exact Nat.le_trans ‹_› (by decide))) ⟨hl,?_⟩⟩)
 refine⟨ρ,Step.grow R (fun b o e=>Heap.get?_push_of_some _ e) ⟨_,_,rfl⟩,?_⟩
 dsimp only[RV]
 refine⟨by rw[eP];exact h.2.2,_,_,rfl,bM R,⟨_,Heap.get?_push_size _ rfl⟩,RVs.sameHeap (fun b o e=>Heap.get?_push_of_some _ e) ?_⟩
 rw[bI1]
 by_cases he:vs.isEmpty=true
 ·rw[if_pos he]
  have:x=[]:=List.eq_nil_of_length_eq_zero (by rw[← hsz,Array.isEmpty_iff.mp he];rfl)
  subst this
  have:wf [] n.toNat=[]:=List.eq_nil_of_length_eq_zero (by rw[eP];simp)
  rw[this]
  exact RVs.nil
 ·rw[if_neg he]
  exact RVs.rep hr _
noncomputable def OnB(G:Wd)(A:Around)(σ:List AO)(op:Operator)(v a b:V):Prop:=On G A (fun | [x,y]=>binaryOp op x y | _=>pure .none) σ [a,b] v σ
theorem OnB.of{op:Operator}{u v a b:V}(h:some u=some v)(k:OnB G A σ op u a b):OnB G A σ op v a b:=siX h▸k
theorem sM{a b v:V}(e:iw1 a b=some v):OnB G A σ .Add v a b:=by
 cases a with
 | int x=>exact tj e fun y hy e=>by rw[hy];exact OnB.of e (On.ints fun ρ s t u R=>add_int (aS R))
 | str x=>exact th e fun y hy e=>by rw[hy];exact OnB.of (bh e).2 (bL1 (bh e).1)
 | lst x=>exact fE1 e fun y hy e=>by rw[hy];exact OnB.of (bh e).2 (bM1 (bh e).1)
 | _=>exact nso e
theorem rN{a b v:V}(e:ie1 a b=some v):OnB G A σ .Mult v a b:=by
 cases a with
 | int x=>exact tj e fun y hy e=>by rw[hy];exact OnB.of (bh e).2 (az1 (bh e).1)
 | str x=>exact tj e fun y hy e=>by rw[hy];exact OnB.of (bh e).2 (dJ1 (bh e).1)
 | lst x=>exact tj e fun y hy e=>by rw[hy];exact OnB.of (bh e).2 (dK1 (bh e).1)
 | _=>exact nso e
theorem sI{op:Operator}{a b v:V}(e:te op a b=some v):OnB G A σ op v a b:=by
 cases op with
 | Add=>exact sM e
 | Sub=>exact y6 (P:=OnB G A σ .Sub v) e fun x y e=>OnB.of e (On.ints fun ρ s t u R=>sub_int (aS R))
 | Mult=>exact rN e
 | FloorDiv=>exact y6 (P:=OnB G A σ .FloorDiv v) e fun x y e=>OnB.of (bh e).2 (On.ints fun ρ s t u R=>by
   have h:=(bh e).1
   refine floordiv_int (by omega) ?_ (.inl (PyProof.noPylong_small (by omega)))
   rw[Int.fdiv_eq_ediv_of_nonneg _ (by omega)]
   exact aS R)
 | Mod=>exact y6 (P:=OnB G A σ .Mod v) e fun x y e=>OnB.of (bh e).2 (On.ints fun ρ s t u R=>by
   have h:=(bh e).1
   refine mod_int' (by omega) ?_
   rw[Int.fmod_eq_emod_of_nonneg _ (by omega)]
   exact aS R)
 | Pow=>exact y6 (P:=OnB G A σ .Pow v) e fun x y e=>OnB.of (bh e).2 (On.ints fun ρ s t u R =>
   have h:=(bh e).1
   pow_int_small h.2.1 (by omega) (Nat.lt_of_lt_of_le h.1 (by decide)) (aS R))
 | _=>exact nso e
end
mutual
noncomputable def okP:Nat->V->Bool
 | _,.none=>true
 | _,.bool _=>true
 | _,.int _=>true
 | _,.str l=>l.all (·<0x110000)
 | n+1,.tup l=>okPs n l
 | n+1,.lst l=>okPs n l
 | _,_=>false
noncomputable def okPs:Nat->List V->Bool
 | _,[]=>true
 | n,x::xs=>okP n x&&okPs n xs
end
mutual
noncomputable def toP:V->PyData
 | .none=>.none
 | .bool b=>.bool b
 | .int i=>.int i
 | .str l=>.str ⟨l.toArray⟩
 | .tup l=>.tuple (toPs l)
 | .lst l=>.list (toPs l)
 | _=>.none
noncomputable def toPs:List V->List PyData
 | []=>[]
 | x::xs=>toP x::toPs xs
end
mutual
theorem k6:∀ (n:Nat) (x:V),okP n x=true->(toP x).canLay0=true/\(toP x).depth<=n
 | n,.none=>fun _=>⟨rfl,Nat.zero_le _⟩
 | n,.bool b=>fun _=>⟨rfl,Nat.zero_le _⟩
 | n,.int i=>fun _=>⟨rfl,Nat.zero_le _⟩
 | n,.str l=>fun h=>⟨(show PyData.strOk ⟨l.toArray⟩=true by dsimp only[PyData.strOk];simpa using (show l.all (·<0x110000)=true from h)),Nat.zero_le _⟩
 | n,.tup l=>@Nat.casesOn (fun n=>okP n (.tup l)=true->(toP (.tup l)).canLay0=true/\(toP (.tup l)).depth<=n) n ftr fun n h=>have:=okPs_can n l h;⟨this.1,Nat.succ_le_succ this.2⟩
 | n,.lst l=>@Nat.casesOn (fun n=>okP n (.lst l)=true->(toP (.lst l)).canLay0=true/\(toP (.lst l)).depth<=n) n ftr fun n h=>have:=okPs_can n l h;⟨this.1,Nat.succ_le_succ this.2⟩
 | n,.raw l=>fun h=>by cases n <;> exact ftr h
 | n,.rng a b c=>fun h=>by cases n <;> exact ftr h
 | n,.ref k=>fun h=>by cases n <;> exact ftr h
theorem okPs_can:∀ (n:Nat) (x:List V),okPs n x=true->PyData.canLayAll0 (toPs x)=true/\PyData.depthAll (toPs x)<=n
 | n,[],h=>⟨rfl,Nat.zero_le _⟩
 | n,x::xs,h =>
  have q:=ak h
  have a:=k6 n x q.1
  have b:=okPs_can n xs q.2
  ⟨Bool.and_eq_true_iff.mpr ⟨a.1,b.1⟩,Nat.max_le.mpr ⟨a.2,b.2⟩⟩
end
mutual
theorem RV.reads{h:Heap}{ρ:Rho}:∀ (n:Nat) (x:V) (v:Value),okP n x=true->RV h ρ x v->∃ as,Reads h v (toP x) as
 | n,.none=>fun v k r=>RV.none_iff r▸⟨_,.none⟩
 | n,.bool b=>fun v k r=>RV.bool_iff r▸⟨_,.bool b⟩
 | n,.int i=>fun v k r=>a9 (RV.int_iff r) fun t e=>e▸⟨_,.int i t⟩
 | n,.str l=>fun v k r=>gu (RV.str_iff r) fun _ h=>a9 h fun t e=>e▸⟨_,.str _ t⟩
 | n,.tup l=>@Nat.casesOn (fun n=>∀ v,okP n (.tup l)=true->RV h ρ (.tup l) v->∃ as,Reads h v (toP (.tup l)) as) n (fun _ k _=>ftr k) fun n v k r=>gu (RV.tup_iff r) fun _ q=>dD1 q fun a vs e _ ht hr=>ht.elim fun m g=>(RVs.reads n l _ k hr).elim fun as h=>e▸⟨_,.tuple g rfl rfl h⟩
 | n,.lst l=>@Nat.casesOn (fun n=>∀ v,okP n (.lst l)=true->RV h ρ (.lst l) v->∃ as,Reads h v (toP (.lst l)) as) n (fun _ k _=>ftr k) fun n v k r=>gu (RV.lst_iff r) fun _ q=>dD1 q fun a vs e _ ht hr=>ht.elim fun m g=>(RVs.reads n l _ k hr).elim fun as h=>e▸⟨_,.list g rfl rfl h⟩
 | n,.raw l=>fun _ k _=>by cases n <;> exact ftr k
 | n,.rng a b c=>fun _ k _=>by cases n <;> exact ftr k
 | n,.ref i=>fun _ k _=>by cases n <;> exact ftr k
theorem RVs.reads{h:Heap}{ρ:Rho}:∀ (n:Nat) (x:List V) (v:List Value),okPs n x=true->RVs h ρ x v->∃ as,ReadsAll h v (toPs x) as
 | n,[],v,k,r=>RVs.nil_iff r▸⟨_,.nil⟩
 | n,x::xs,v,k,r=>oM (RVs.cons_iff r) fun c cs e r1 r2=>a9 (RV.reads n x c (ak k).1 r1) fun a q1=>a9 (RVs.reads n xs cs (ak k).2 r2) fun b q2=>e▸⟨_,.cons q1 q2⟩
end
noncomputable def veq(x y:V):Bool:=PyData.eqv (toP x) (toP y)
noncomputable def ck1(x y:List V):Bool:=PyData.eqvAll (toPs x) (toPs y)
theorem zE(a b:List Nat):((⟨a.toArray⟩:Str)==⟨b.toArray⟩)=(a==b):=by
 rw[Bool.eq_iff_iff,beq_iff_eq,beq_iff_eq]
 constructor
 ·intro h;injection h with h;simpa using congrArg Array.toList h
 ·rintro rfl;rfl
theorem tU(n:Nat)(x y:V)(_:okP n x=true)(_:okP n y=true):PyData.eqv (toP x) (toP y)=veq x y:=rfl
noncomputable def der(σ:List AO)(v:V):V :=
 match v with
 | .ref k=>match σ[k]? with
  | some ⟨items,none⟩=>.lst items
  | _=>v
 | _=>v
noncomputable def hT1(y x:List Nat):Bool:=Txt.contains ⟨x.toArray⟩ ⟨y.toArray⟩
noncomputable def inF(σ:List AO)(a b:V):Option Bool :=
 match der σ b with
 | .str y=>(vS a).bind fun x=>some (hT1 x y)
 | .lst l=>if okP 3 a&&okPs 3 l then some (l.any fun y=>veq y a) else none
 | _=>none
noncomputable def eqG(σ:List AO)(a b:V):Option Bool:=if okP 4 (der σ a)&&okP 4 (der σ b) then some (veq (der σ a) (der σ b)) else none
noncomputable def eqF(σ:List AO)(a b:V):Option Bool :=
 match vS a with
 | some x=>match vS b with
  | some y=>some (x==y)
  | none=>eqG σ a b
 | none=>eqG σ a b
noncomputable def ltF(a b:V):Option Bool:=match a with
 | .int x=>(vI b).bind fun y=>some (decide (x<y))
 | .str x=>(vS b).bind fun y=>some (decide (x<y))
 | _=>none
noncomputable def gtF(a b:V):Option Bool:=match a with
 | .int x=>(vI b).bind fun y=>some (decide (y<x))
 | .str x=>(vS b).bind fun y=>some (decide (y<x))
 | _=>none
noncomputable def vB:V->Option Bool
 | .bool b=>some b
 | _=>none
theorem hL1{v:V}{i:Bool}(h:vB v=some i):v=.bool i:=by cases v <;> first | (obtain rfl:=siX h;rfl) | exact nso h
noncomputable def isF(f:Bool->Bool->Bool)(a b:V):Option Bool:=(vB a).bind fun x=>(vB b).bind fun y=>some (f x y)
noncomputable def f6(op:CmpOp)(σ:List AO)(a b:V):Option Bool :=
 match op with
 | .Eq=>eqF σ a b
 | .NotEq=>(eqF σ a b).map (!·)
 | .Lt=>ltF a b
 | .LtE=>ii (fun x y=>some (decide (x<=y))) a b
 | .Gt=>gtF a b
 | .GtE=>ii (fun x y=>some (decide (y<=x))) a b
 | .Is=>isF (fun x y=>x==y) a b
 | .IsNot=>isF (fun x y=>x != y) a b
 | .In=>inF σ a b
 | .NotIn=>(inF σ a b).map (!·)
section
variable {G:Wd} {A:Around} {C C':Cx} {env cenv:Env} {W W':List Addr} {η η' η₁ η₂ bi:ab} {σ σ' σ₁ σ₂ aj:List AO} {ρ ρ' aa:Rho} {s s' am aA:Shared}
theorem dg{n:Nat}{v:V}{cv:Value}(R:Rel G σ ρ s)(r:RV s.heap ρ v cv)(k:okP n (der σ v)=true):∃ as,Reads s.heap cv (toP (der σ v)) as:=by
 cases v with
 | ref i =>
  obtain ⟨p,hp,rfl⟩:=RV.ref_iff r
  refine fE (σ[i]?) (fun hσ=>?_) (fun o hσ=>?_)
  ·
   have e:der σ (.ref i)=.ref i:=by show (match σ[i]? with | some ⟨items,none⟩=>V.lst items | _=>.ref i)=_;rw[hσ]
   replace k:=(e)▸k;cases n <;> (delta okP at k;exact ftr k)
  ·
   obtain ⟨items,acc⟩:=o
   cases acc with
   | some z =>
    have e:der σ (.ref i)=.ref i:=by show (match σ[i]? with | some ⟨items,none⟩=>V.lst items | _=>.ref i)=_;rw[hσ]
    replace k:=(e)▸k;cases n <;> (delta okP at k;exact ftr k)
   | none =>
    have e:der σ (.ref i)=.lst items:=by show (match σ[i]? with | some ⟨items,none⟩=>V.lst items | _=>.ref i)=_;rw[hσ]
    rw[e] at k ⊢
    cases n with
    | zero=>delta okP at k;exact ftr k
    | succ n =>
     refine byQ fun Q kQ=>?_
     dsimp only[okP] at k
     have ro:=R.obj i p _ hp hσ
     dsimp only[RO] at ro
     obtain ⟨hlim,e2,vs,⟨m,hpl⟩,hr⟩:=ro
     obtain ⟨as,h⟩:=RVs.reads n items _ k hr
     refine kQ ?_
     dsimp only[toP];exact⟨_,.list hpl rfl rfl h⟩
 | _=>exact RV.reads n _ cv k r
theorem l3{n:Nat}{x:V}(hx:okP n x=true):∀ {l:List V},okPs n l=true->((toPs l).any fun y=>PyData.eqv y (toP x))=l.any fun y=>veq y x
 | [],_=>rfl
 | y::ys,h=>congrArg (veq y x || ·) (l3 hx (ak h).2)
noncomputable def OnC(G:Wd)(A:Around)(σ:List AO)(op:CmpOp)(k:Bool)(a b:V):Prop:=On G A (fun | [x,y]=>compareOp op x y | _=>pure .none) σ [a,b] (.bool k) σ
theorem OnC.of{op:CmpOp}{u k:Bool}{a b:V}(h:some u=some k)(q:OnC G A σ op u a b):OnC G A σ op k a b:=siX h▸q
theorem ni{a b:V}{k:Bool}(hu:A.units+10<cLine)(e:eqG σ a b=some k):OnC G A σ .Eq k a b/\OnC G A σ .NotEq (!k) a b:=by
 have h:=Bool.and_eq_true_iff.mp (bh e).1
 refine(siX (bh e).2)▸?_
 have c1:=k6 4 _ h.1
 have c2:=k6 4 _ h.2
 refine⟨On.two fun ρ s fT1 fS1 R av aF ht=>?_,On.two fun ρ s fT1 fS1 R av aF ht=>?_⟩
 ·obtain ⟨as,q1⟩:=dg R av h.1
  obtain ⟨bs,q2⟩:=dg R aF h.2
  refine PySem.SeqAt.compareEq_reads q1 q2 c1.1 c2.1 (by have:=c1.2;have:=Nat.min_le_left (toP (der σ a)).depth (toP (der σ b)).depth;omega) ?_
  rw[tU 4 _ _ h.1 h.2];exact aC R
 ·obtain ⟨as,q1⟩:=dg R av h.1
  obtain ⟨bs,q2⟩:=dg R aF h.2
  refine PySem.SeqAt.compareNe_reads q1 q2 c1.1 c2.1 (by have:=c1.2;have:=Nat.min_le_left (toP (der σ a)).depth (toP (der σ b)).depth;omega) ?_
  rw[tU 4 _ _ h.1 h.2];exact aC R
theorem nj{a b:V}{k:Bool}(hu:A.units+10<cLine)(e:eqF σ a b=some k):OnC G A σ .Eq k a b/\OnC G A σ .NotEq (!k) a b:=by
 refine fE (vS a) (fun hx=>?_) (fun x hx=>?_)
 ·exact ni hu (by rw[← e,eqF,hx])
 ·refine fE (vS b) (fun hy=>?_) (fun y hy=>?_)
  ·exact ni hu (by rw[← e,eqF,hx,hy])
  ·
   have e:some (x==y)=some k:=by rw[← e,eqF,hx,hy]
   rw[fX1 hx,fX1 hy,← siX e]
   exact⟨On.strs fun ρ s t u R=>PySem.P.eq_str (aC R),On.strs fun ρ s t u R=>PySem.P.ne_str (aC R)⟩
theorem vJ{v:V}(h:∀ l,der σ v≠.lst l):der σ v=v:=by
 cases v with
 | ref i =>
  have key:∀ o:Option AO,(∀ l:List V,(match o with | some ⟨items,none⟩=>V.lst items | _=>V.ref i)≠V.lst l)->(match o with | some ⟨items,none⟩=>V.lst items | _=>V.ref i)=V.ref i:=by
   intro o h
   cases o with
   | none=>rfl
   | some a=>obtain ⟨x,y⟩:=a;cases y with
    | none=>exact absurd rfl (h x)
    | some _=>rfl
  exact key _ h
 | _=>rfl
theorem dP{v:V}{l:List Nat}(hd:der σ v=.str l):v=.str l:=(vJ fun x e=>nomatch hd.symm.trans e).symm.trans hd
theorem nc{a b:V}{k:Bool}(hu:A.units+10<cLine)(e:inF σ a b=some k):OnC G A σ .In k a b/\OnC G A σ .NotIn (!k) a b:=by
 cases hd:der σ b with
 | str y =>
  refine byQ fun Q kQ=>?_
  have e:(vS a).bind (fun x=>some (hT1 x y))=some k:=by rw[← e,inF,hd]
  refine kQ ?_
  refine th e fun x hx e=>?_
  rw[hx,dP hd,← siX e]
  exact⟨On.strs fun ρ s t u R=>SB.contains (aC R),On.strs fun ρ s t u R=>SB.notContains (aC R)⟩
 | lst l =>
  have e:(if okP 3 a&&okPs 3 l then some (l.any fun y=>veq y a) else none)=some k:=by rw[← e,inF,hd]
  have h:=Bool.and_eq_true_iff.mp (bh e).1
  refine(siX (bh e).2)▸?_
  have c1:=k6 3 _ h.1
  have c2:=okPs_can 3 _ h.2
  have hl4:okP 4 (der σ b)=true:=by exact(hd)▸(h.2)
  have tl:toP (der σ b)=.list (toPs l):=by rw[hd];rfl
  refine⟨On.two fun ρ s fT1 fS1 R av aF ht=>?_,On.two fun ρ s fT1 fS1 R av aF ht=>?_⟩
  ·obtain ⟨as,q1⟩:=RV.reads 3 _ _ h.1 av
   obtain ⟨bs,q2⟩:=dg R aF hl4
   rw[tl] at q2
   refine PySem.SeqAt.in_list_reads q2 q1 c2.1 c1.1 (by have:=c1.2;have:=Nat.min_le_right (PyData.depthAll (toPs l)) (toP a).depth;omega) ?_
   rw[l3 h.1 h.2];exact aC R
  ·obtain ⟨as,q1⟩:=RV.reads 3 _ _ h.1 av
   obtain ⟨bs,q2⟩:=dg R aF hl4
   rw[tl] at q2
   refine PySem.SeqAt.notIn_list_reads q2 q1 c2.1 c1.1 (by have:=c1.2;have:=Nat.min_le_right (PyData.depthAll (toPs l)) (toP a).depth;omega) ?_
   rw[l3 h.1 h.2];exact aC R
 | _=>exact nomatch (show none=some k by rw[← e,inF,hd])
theorem dN1{o:Option Bool}{k:Bool}{P:Prop}(h:o.map (!·)=some k)(q:∀ j,o=some j->(!j)=k->P):P:=(Option.map_eq_some_iff.mp h).elim fun j h=>q j h.1 h.2
theorem d61{f:Bool->Bool->Bool}{a b:V}{k:Bool}{P:V->V->Bool->Prop}(h:isF f a b=some k)(q:∀ x y,P (.bool x) (.bool y) (f x y)):P a b k :=
 ji h fun x hx h=>ji h fun y hy h=>by rw[hL1 hx,hL1 hy,← siX h];exact q x y
theorem uY{a b:V}{k:Bool}(e:ltF a b=some k):OnC G A σ .Lt k a b:=by
 cases a with
 | int x=>exact tj e fun y hy e=>by rw[hy];exact OnC.of e (On.ints fun ρ s t u R=>lt_int (aC R))
 | str x=>exact th e fun y hy e=>by rw[hy];exact OnC.of e (On.strs fun ρ s t u R=>PySem.P.lt_str (aC R))
 | _=>exact nso e
theorem vr{a b:V}{k:Bool}(e:gtF a b=some k):OnC G A σ .Gt k a b:=by
 cases a with
 | int x=>exact tj e fun y hy e=>by rw[hy];exact OnC.of e (On.ints fun ρ s t u R=>gt_int (aC R))
 | str x=>exact th e fun y hy e=>by rw[hy];exact OnC.of e (On.strs fun ρ s t u R=>PySem.P.gt_str (aC R))
 | _=>exact nso e
theorem bv{op:CmpOp}{a b:V}{k:Bool}(hu:A.units+10<cLine)(e:f6 op σ a b=some k):OnC G A σ op k a b:=by
 cases op with
 | Eq=>exact(nj hu e).1
 | NotEq=>exact dN1 e fun j h hk=>hk▸(nj hu h).2
 | Lt=>exact uY e
 | LtE=>exact y6 (P:=OnC G A σ .LtE k) e fun x y e=>OnC.of e (On.ints fun ρ s t u R=>le_int (aC R))
 | Gt=>exact vr e
 | GtE=>exact y6 (P:=OnC G A σ .GtE k) e fun x y e=>OnC.of e (On.ints fun ρ s t u R=>ge_int (aC R))
 | Is=>exact d61 (P:=fun a b k=>OnC G A σ .Is k a b) e fun x y=>On.two fun ρ s bz b6 R av aF ht=>RV.bool_iff av▸RV.bool_iff aF▸is_bool (aC R)
 | IsNot=>exact d61 (P:=fun a b k=>OnC G A σ .IsNot k a b) e fun x y=>On.two fun ρ s bz b6 R av aF ht=>RV.bool_iff av▸RV.bool_iff aF▸isnot_bool (aC R)
 | In=>exact(nc hu e).1
 | NotIn=>exact dN1 e fun j h hk=>hk▸(nc hu h).2
theorem rM{i:Int}:On G A (fun | [x]=>unaryOp .USub x | _=>pure .none) σ [.int i] (.int (-i)) σ:=On.one fun ρ s bz R av ht=>by
 obtain ⟨t,rfl⟩:=RV.int_iff av;exact neg_int (aS R)
end
noncomputable def dW(σ:List AO)(a i:V):Option V :=
 match i with
 | .int i=>if -1000000000<=i/\i<=1000000000 then
   match der σ a with
   | .str l=>match seqIndex? i l.length with | some k=>(l[k]?).map fun c=>.str [c] | none=>none
   | .tup l=>match seqIndex? i l.length with | some k=>l[k]? | none=>none
   | .lst l=>match seqIndex? i l.length with | some k=>l[k]? | none=>none
   | _=>none
  else none
 | _=>none
noncomputable def eJ:V->Option (Option Int)
 | .none=>some none
 | .int i=>some (some i)
 | _=>none
noncomputable def jR{α:Type}(l:List α)(lo hi st:Option Int):List α :=
 (sliceRange (sliceBounds lo hi st l.length).1 (sliceBounds lo hi st l.length).2.1 (sliceBounds lo hi st l.length).2.2).filterMap (l[·]?)
noncomputable def rB(σ:List AO)(a lo hi st:V):Option V :=
 match eJ lo,eJ hi,eJ st with
 | some l,some h,some s =>
  if s=some 0 then none else
  match der σ a with
  | .str x=>if s=none then some (.str (Txt.slice ⟨x.toArray⟩ l h).cps.toList) else none
  | .lst x=>some (.lst (jR x l h s))
  | .raw x=>some (.lst (jR x l h s))
  | _=>none
 | _,_,_=>none
section
variable {G:Wd} {A:Around} {C C':Cx} {env cenv:Env} {W W':List Addr} {η η' η₁ η₂ bi:ab} {σ σ' σ₁ σ₂ aj σ₄ bR:List AO} {ρ ρ' aa:Rho} {s s' am aA:Shared}
noncomputable def iy1(o i:Value)(slice:Expr):Prop:=∃ vs,subscripted slice false o i=operate vs (getItem o i)
theorem cx1{o i:Value}{slice:Expr}{vs:List Value}(h:subscripted slice false o i=operate vs (getItem o i)):iy1 o i slice:=⟨vs,h⟩
theorem ue(slice:Expr)(o i:Value):iy1 o i slice:=by
 cases slice with
 | Slice a b c p=>cases c <;> exact cx1 rfl
 | _=>exact cx1 rfl
theorem qt{value slice:Expr}{o i:Value}{Q:Value->Shared->Prop}{E:Value->Shared->Prop}(h:ItemOn (model G.prog G.w) A E o i Q s):wpAny (model G.prog G.w) A (subscriptTail value slice o i) Q E s:=by
 refine cH (h) fun T id h_p=>?_;have hl:=h_p.1;have hT:=h_p.2.1;have hg:=h_p.2.2
 unfold subscriptTail
 refine wpAny_bind ?_
 refine(getitemInPython_of_ne hT.not_modules)▸?_
 refine wpAny_bind (wpAny_specialOf hT hl ?_)
 refine wpAny_pure ?_
 refine wpAny_bind ?_
 have fin:∀ vs:List Value,wpAny (model G.prog G.w) A (operate vs (getItem o i)) (fun r dY=>wpAny (model G.prog G.w) A (letTemporaryGo value o r>>=fun _=>pure r) Q E dY) E s :=
  fun vs=>wpAny_operating (wpAny_mono hg (fun r dY gw=>wpAny_bind (wpAny_letTemporaryGo (wpAny_pure gw))) fun _ _ x=>x)
 exact a9 (ue slice o i) fun vs e=>e▸fin vs
theorem bg1{k:Nat}{l:List V}{cv:Value}(hd:der σ (.ref k)=.lst l)(R:Rel G σ ρ s)(r:RV s.heap ρ (.ref k) cv):∃ a vs,cv=.ref a/\s.heap.PlainList a vs/\RVs s.heap ρ l vs.toList/\l.length<=lim:=by
 refine aI (RV.ref_iff r) fun p hp rfl=>?_
 have hd':(match σ[k]? with | some ⟨items,none⟩=>V.lst items | _=>.ref k)=.lst l:=hd
 refine fE (σ[k]?) (fun hσ=>?_) (fun o hσ=>?_)
 ·replace hd':=(hσ)▸hd';cases hd'
 ·
  obtain ⟨items,acc⟩:=o
  cases acc with
  | some z=>replace hd':=(hσ)▸hd';cases hd'
  | none =>
   refine byQ fun Q kQ=>?_
   replace hd':=(hσ)▸hd';cases hd'
   have ro:=R.obj k p _ hp hσ
   dsimp only[RO] at ro
   obtain ⟨hlim,e2,vs,h_p⟩:=ro;have hpl:=h_p.1;have hr:=h_p.2
   refine kQ ?_
   exact fw1 p.1 vs rfl hpl hr hlim
theorem cf{v:V}{l:List V}{cv:Value}(hd:der σ v=.lst l)(R:Rel G σ ρ s)(r:RV s.heap ρ v cv):∃ a vs,cv=.ref a/\s.heap.PlainList a vs/\RVs s.heap ρ l vs.toList/\l.length<=lim:=by
 cases v with
 | ref k=>exact bg1 hd R r
 | lst x =>
  refine byQ fun Q kQ=>?_
  have:V.lst x=.lst l:=hd
  cases this
  obtain ⟨hl,a,vs,h_p⟩:=RV.lst_iff r;obtain rfl:=h_p.1;have hp:=h_p.2.2.1;have hr:=h_p.2.2.2
  refine kQ ?_
  exact fw1 a vs rfl hp hr hl
 | _=>cases hd
theorem pw{v:V}{l:List V}(hd:der σ v=.tup l):v=.tup l:=(vJ fun x e=>nomatch hd.symm.trans e).symm.trans hd
theorem bh1{v:V}{l:List V}(hd:der σ v=.raw l):v=.raw l:=(vJ fun x e=>nomatch hd.symm.trans e).symm.trans hd
theorem u8{a:Addr}{vs:Array Value}{i:Int}{t:Tok}{k:Nat}{c:Value}{Q:Value->Shared->Prop}{E:Value->Shared->Prop}(hp:s.heap.PlainList a vs)(hi:-1000000000<=i/\i<=1000000000)
  (hk:seqIndex? i vs.size=some k) (hc:vs[k]?=some c) (h:Q c s):ItemOn (model G.prog G.w) A E (.ref a) (.int i t) Q s:=by
 refine mU ("list") _ list_getitem_lookup hp.isList.typeIs ?_
 by_cases h0:0<=i
 ·refine wpAny_getItem_list hp.isList h0 (by omega) ?_ h
  unfold seqIndex? at hk
  simp only[show ¬ i<0 by exact Int.not_lt.mpr ‹_›,if_false] at hk
  split at hk
  ·obtain rfl:=siX hk;exact hc
  ·exact nso hk
 ·unfold seqIndex? at hk
  simp only[show i<0 by exact Int.not_le.mp ‹_›,if_true] at hk
  split at hk
  ·rename_i hh
   simp only[Bool.and_eq_true,decide_eq_true_eq] at hh
   obtain rfl:=siX hk
   exact wpAny_getItem_list_neg hp.isList (by exact Int.not_le.mp ‹_›) (by omega) (by omega) hc h
  ·exact nso hk
theorem yI{l:List V}{i:Int}{v:V}(e:(match seqIndex? i l.length with | some k=>l[k]? | none=>none)=some v):∃ k,seqIndex? i l.length=some k/\l[k]?=some v:=by
 cases hk:seqIndex? i l.length with
 | none=>replace e:=(hk)▸e;exact nso e
 | some k=>rw[hk] at e;exact⟨k,rfl,e⟩
theorem xP{a i v:V}{bz b6:Value}{Q:Value->Shared->Prop}(R:Rel G σ ρ s)(e:dW σ a i=some v)(av:RV s.heap ρ a bz)(aF:RV s.heap ρ i b6)(k:∀ cv s',Step G ρ s ρ s' σ->RV s'.heap ρ v cv->Q cv s'):ItemOn (model G.prog G.w) A No bz b6 Q s:=by
 cases i <;> first | (exact nso e;done) | skip
 rename_i i
 obtain ⟨u,rfl⟩:=RV.int_iff aF
 have hi:=(bh e).1
 have e:=(bh e).2
 cases hd:der σ a with
 | str l =>
  refine byQ fun Q kQ=>?_
  replace e:=(hd)▸e
  dsimp only at e
  replace av:=(dP hd)▸av
  obtain ⟨_,t,rfl⟩:=RV.str_iff av
  refine kQ ?_
  refine fE (seqIndex? i l.length) (fun hk=>?_) (fun n hk=>?_)
  ·replace e:=(hk)▸e;exact nso e
  ·
   refine byQ fun Q kQ=>?_
   replace e:=(hk)▸e
   obtain ⟨c,h_p⟩:=Option.map_eq_some_iff.mp e;have hc:=h_p.1;obtain rfl:=h_p.2
   have hch:Txt.charAt ⟨l.toArray⟩ i=some c:=by
    dsimp only[Txt.charAt]
    rw[bx,hk]
    simpa using hc
   refine kQ ?_
   refine SB.item ?_ (by rw[hch];rfl) ?_
   ·simp only[fitsSsize,Bool.not_eq_true',Bool.or_eq_false_iff,decide_eq_false_iff_not]
    omega
   ·refine k _ _ (Step.toks R _) (RV.str' (show 1<=lim by decide) ?_)
    dsimp only[Txt.item]
    rw[hch];rfl
 | tup l =>
  refine byQ fun Q kQ=>?_
  replace e:=(hd)▸e
  replace av:=(pw hd)▸av
  obtain ⟨_,ad,vs,rfl,_,⟨n,hp⟩,hr⟩:=RV.tup_iff av
  obtain ⟨m,h_p⟩:=yI e;have hk:=h_p.1;have e:=h_p.2
  obtain ⟨c,h_p⟩:=RVs.get hr e;have hc:=h_p.1;have hv:=h_p.2
  have hlen:vs.size=l.length:=by have:=RVs.length hr;simpa using this
  refine kQ ?_
  exact mU ("tuple") _ F.slot_tuple_getitem.lookup ⟨_,hp,rfl⟩ (PySem.P.getItem_tuple hp (by omega) (by omega) (by rw[hlen];exact hk) (by simpa using hc) (k _ _ (Step.refl R) hv))
 | lst l =>
  refine byQ fun Q kQ=>?_
  replace e:=(hd)▸e
  obtain ⟨ad,vs,rfl,h_p⟩:=cf hd R av;have hp:=h_p.1;have hr:=h_p.2.1;have hlim:=h_p.2.2
  obtain ⟨m,h_p⟩:=yI e;have hk:=h_p.1;have e:=h_p.2
  refine aI (RVs.get hr e) fun c hc hv=>?_
  have hlen:vs.size=l.length:=by have:=RVs.length hr;simpa using this
  refine kQ ?_
  exact u8 hp hi (by rw[hlen];exact hk) (by simpa using hc) (k _ _ (Step.refl R) hv)
 | _=>replace e:=(hd)▸e;exact nso e
theorem Ev.idx{value slice:Expr}{pos:Pos}{a i v:V}(dB:Ev G A C env W value σ η a σ₁)(cP:Ev G A C env W slice σ₁ η i σ₂)(e:dW σ₂ a i=some v):Ev G A C env W (.Subscript value slice pos) σ η v σ₂:=fun ρ s R N ht =>
 Subscript_ (dB.use R N ht fun bz am aa ah aJ aK av=>cP.use ah.rel aJ aK fun b6 aA au aq ci cU aF=>qt (xP aq.rel e (RV.mono (Step.keepV ah.rel aq) _ _ av) aF fun cv s' S r=>⟨au,(ah.trans aq).trans S,r⟩))
noncomputable def Ep(G:Wd)(A:Around)(C:Cx)(env:Env)(W:List Addr)(e:Option Expr)(σ:List AO)(η:ab)(v:V)(σ':List AO):Prop :=
 (e=none/\v=.none/\σ'=σ)\/∃ x,e=some x/\Ev G A C env W x σ η v σ'
theorem Ep.use{e:Option Expr}{v:V}{Q:Value->Shared->Prop}{E:Value->Shared->Prop}(H:Ep G A C env W e σ η v σ')(R:Rel G σ ρ s)(N:RE G C env W η ρ s)(ht:0<s.toks)
  (k:∀ cv s' ρ',Step G ρ s ρ' s' σ'->RE G C env W η ρ' s'->0<s'.toks->RV s'.heap ρ' v cv->Q cv s'):wpAny (model G.prog G.w) A (evalPart e env) Q E s:=by
 rcases H with ⟨rfl,rfl,rfl⟩ | ⟨x,rfl,H⟩
 ·exact wpAny_pure (k _ _ _ (Step.refl R) N ht RV.none_)
 ·exact H.use R N ht k
theorem iJ{h:Heap}{ρ:Rho}{v:V}{cv:Value}{l:Option Int}(e:eJ v=some l)(r:RV h ρ v cv):IsPart cv l/\∃ p:Option (Int×Tok),cv=partValue p/\p.map (·.1)=l:=by
 cases v with
 | none=>obtain rfl:=siX e;exact(RV.none_iff r)▸(⟨.none,none,rfl,rfl⟩)
 | int i=>obtain rfl:=siX e;obtain ⟨t,rfl⟩:=RV.int_iff r;exact⟨.int i t,some (i,t),rfl,rfl⟩
 | _=>exact nso e
theorem oz{α:Type}(l:List α)(lo hi st:Option Int):(jR l lo hi st).length<=l.length:=by
 unfold jR
 refine Nat.le_trans (List.length_filterMap_le ..) (sliceRange_length_le _ _ _ _ (fun hc=>?_) fun hc=>?_)
 ·simp only[sliceBounds] at hc ⊢
  simp only[hc,if_true]
  constructor
  ·cases lo with
   | none=>simp
   | some i=>dsimp only;omega
  ·cases hi with
   | none=>simp
   | some i=>dsimp only;omega
 ·simp only[sliceBounds] at hc ⊢
  simp only[hc,if_false]
  constructor
  ·cases lo with
   | none=>simp
   | some i=>dsimp only;omega
  ·cases hi with
   | none=>simp
   | some i=>dsimp only;omega
theorem jQ{ad sl:Addr}{vs:Array Value}{x:List V}{b6 vQ zb:Value}{l h st:Option Int}{Q:Value->Shared->Prop}(R:Rel G σ ρ s)(hs:s.heap.IsSliceOf sl b6 vQ zb)(p2:IsPart b6 l)(p3:IsPart vQ h)(p4:IsPart zb st)(h0:st≠some 0)
  (hil:s.heap.IsList ad vs) (hr:RVs s.heap ρ x vs.toList) (hx:x.length<=lim) (k:∀ cv s',Step G ρ s ρ s' σ->RV s'.heap ρ (.lst (jR x l h st)) cv->Q cv s'):ItemOn (model G.prog G.w) A No (.ref ad) (.ref sl) Q s:=by
 have hlen:vs.size=x.length:=by have:=RVs.length hr;simpa using this
 refine mU ("list") _ list_getitem_lookup hil.typeIs (wpAny_getItem_list_slice hil hs p2 p3 p4 h0 (k _ _ (Step.grow R (fun b o e=>Heap.get?_push_of_some _ e) ⟨_,_,rfl⟩) ?_) (by rw[hlen];exact Nat.le_trans hx (by decide)))
 dsimp only[RV]
 refine⟨Nat.le_trans (oz _ _ _ _) hx,_,_,rfl,bM R,⟨_,Heap.get?_push_size _ rfl⟩,RVs.sameHeap (fun b o e=>Heap.get?_push_of_some _ e) ?_⟩
 unfold slicePick jR
 rw[hlen]
 have:=RVs.filterMap_get hr (sliceRange (sliceBounds l h st x.length).1 (sliceBounds l h st x.length).2.1 (sliceBounds l h st x.length).2.2)
 simpa using this
theorem f81{P:Prop}{a lo hi st v:V}(e:rB σ a lo hi st=some v) (q:∀ l h s,eJ lo=some l->eJ hi=some h->eJ st=some s->s≠some 0 ->
  (match der σ a with | .str x=>if s=none then some (.str (Txt.slice ⟨x.toArray⟩ l h).cps.toList) else none | .lst x=>some (.lst (jR x l h s)) | .raw x=>some (.lst (jR x l h s)) | _=>none)=some v->P):P:=by
 unfold rB at e
 refine fE (eJ lo) (fun h1=>?_) (fun l h1=>?_)
 ·replace e:=(h1)▸e;exact nso e
 ·refine fE (eJ hi) (fun h2=>?_) (fun h h2=>?_)
  ·rw[h1,h2] at e;exact nso e
  ·refine fE (eJ st) (fun h3=>?_) (fun s h3=>?_)
   ·rw[h1,h2,h3] at e;exact nso e
   ·
    rw[h1,h2,h3] at e
    by_cases h0:s=some 0
    ·exact nomatch (if_pos h0).symm.trans e
    ·exact q l h s h1 h2 h3 h0 ((if_neg h0).symm.trans e)
theorem rA{a lo hi st v:V}{bz b6 vQ zb:Value}{sl:Addr}{cP gw d81:Heap}{au bA gX:Rho}{Q:Value->Shared->Prop}(R:Rel G σ ρ s)(e:rB σ a lo hi st=some v)(av:RV s.heap ρ a bz)(aF:RV cP au lo b6)(fD:RV gw bA hi vQ)(wZ:RV d81 gX st zb)
  (hs:s.heap.IsSliceOf sl b6 vQ zb) (k:∀ cv s',Step G ρ s ρ s' σ->RV s'.heap ρ v cv->Q cv s'):ItemOn (model G.prog G.w) A No bz (.ref sl) Q s:=f81 e fun l h s0 hl hh hst h0 e=>by
 obtain ⟨p2,q2,e2,m2⟩:=iJ hl aF
 obtain ⟨p3,q3,e3,m3⟩:=iJ hh fD
 obtain ⟨p4,q4,e4,m4⟩:=iJ hst wZ
 cases hd:der σ a with
 | str x =>
  replace e:=(hd)▸e
  have hs0:=(bh e).1
  rw[← siX (bh e).2] at k
  rw[dP hd] at av
  obtain ⟨hx,t,rfl⟩:=RV.str_iff av
  subst hs0
  refine mU ("str") _ F.slot_str_getitem.lookup (typeIs_str _ _ _) ?_
  refine byQ fun Q kQ=>?_
  have e4':zb=.none:=by
   cases q4 with
   | none=>exact e4
   | some q=>exact son m4
  subst e2 e3 e4'
  refine kQ ?_
  refine wpAny_getItem_str_slice (l:=q2) (u:=q3) (st:=none) hs rfl ?_
  rw[← m2,← m3] at k
  have hle:=Txt.slice_le ⟨x.toArray⟩ (q2.map (·.1)) (q3.map (·.1))
  rw[bx] at hle
  refine post_val_or_str ⟨Nat.le_trans hle (Nat.le_trans hx (by decide)),fun t' tk=>k _ _ (Step.toks R _) (RV.str' ?_ rfl)⟩
  have e5:(Txt.slice ⟨x.toArray⟩ (q2.map (·.1)) (q3.map (·.1))).cps.toList.length=(Txt.slice ⟨x.toArray⟩ (q2.map (·.1)) (q3.map (·.1))).length:=rfl
  rw[e5];exact Nat.le_trans hle hx
 | lst x =>
  rw[hd] at e
  rw[← siX e] at k
  obtain ⟨ad,vs,rfl,h_p⟩:=cf hd R av;have hp:=h_p.1;have hr:=h_p.2.1;have hx:=h_p.2.2
  exact jQ R hs p2 p3 p4 h0 hp.isList hr hx k
 | raw x =>
  rw[hd] at e
  rw[← siX e] at k
  rw[bh1 hd] at av
  obtain ⟨hx,ad,vs,h_p⟩:=RV.raw_iff av;obtain rfl:=h_p.1;have hil:=h_p.2.2.1;have hr:=h_p.2.2.2
  exact jQ R hs p2 p3 p4 h0 hil hr hx k
 | _=>replace e:=(hd)▸e;exact nso e
theorem Ev.slice{value:Expr}{lower upper step:Option Expr}{p pos:Pos}{a lo hi st v:V}(dB:Ev G A C env W value σ η a σ₁)(cP:Ep G A C env W lower σ₁ η lo σ₂)(gw:Ep G A C env W upper σ₂ η hi aj)(d81:Ep G A C env W step aj η st σ₄)
  (e:rB σ₄ a lo hi st=some v):Ev G A C env W (.Subscript value (.Slice lower upper step p) pos) σ η v σ₄:=fun ρ s R N ht =>
 Subscript_ (dB.use R N ht fun bz am aa ah aJ aK av=>wpAny_Slice (cP.use ah.rel aJ aK fun b6 aA au aq ci cU aF=>gw.use aq.rel ci cU fun vQ dY bA bQ md jK fD=>d81.use bQ.rel md jK fun zb kF gX jf l7 yE wZ =>
  have eT:=Step.grow jf.rel (fun b o e=>Heap.get?_push_of_some { cls:=.type "slice",data:=.fields #[b6,vQ,zb] } e) ⟨_,_,rfl⟩
  have T:=aq.trans (bQ.trans (jf.trans eT))
  qt (rA eT.rel e (RV.mono (Step.keepV ah.rel T) _ _ av) aF fD wZ (Heap.IsSliceOf.new ..) fun cv s' S r=>⟨gX,(ah.trans T).trans S,r⟩)))
end
structure Gl (G:Wd) (x:Str) (f:Value):Prop where
 gm:∃ m,G.s₀.heap.Ns mainGlobals m/\(m x=some f\/(m x=none/\∃ b,G.s₀.heap.Ns builtinsNs b/\b x=some f))
 l1:mainGlobals ∉ G.loose
 l2:builtinsNs ∉ G.loose
section
variable {G:Wd} {A:Around} {C C':Cx} {env cenv:Env} {W W':List Addr} {η η' η₁ η₂ bi:ab} {σ σ' σ₁ σ₂ aj σ₄ bR:List AO} {ρ ρ' aa:Rho} {s s' am aA:Shared}
theorem Ns.of_base{a:Addr}{m:Str->Option Value}(R:Rel G σ ρ s)(h:G.s₀.heap.Ns a m)(hl:a ∉ G.loose):s.heap.Ns a m:=by
 refine rL (h) fun o es ep e r=>?_
 exact fv1 o es ep (R.keep a o hl e) r
theorem RE.global{x:Str}{p:Pos}{f:Value}(R:Rel G σ ρ s)(N:RE G C env W η ρ s)(hk:C.kind x=some .globalImplicit)(hd:(x==("__debug__":Str))=false)(g:Gl G x f){Q:Value->Shared->Prop}{E:Value->Shared->Prop}(h:Q f s) :
  wpAny (model G.prog G.w) A (eval (.Name x p) env) Q E s:=by
 have hf:env.scope.kind=.function:=by rw[N.sc];exact(Cx.ok_parts N.ok).1
 refine Name_function_global hf (by unfold Env.kindOf;rw[N.sc];exact hk) ?_ hd
 refine a9 (g.gm) fun m h_p=>?_;have hm:=h_p.1;have hx:=h_p.2
 have hm':s.heap.Ns env.globals m:=by rw[N.glob];exact Ns.of_base R hm g.l1
 rcases hx with hx | ⟨hx,b,hb,hbx⟩
 ·exact loadGlobal_global hm' hx h
 ·have hb':s.heap.Ns env.builtins b:=by rw[N.blt];exact Ns.of_base R hb g.l2
  exact loadGlobal_builtin hm' hx hb' hbx h
noncomputable def aH:List Expr->Bool
 | []=>true
 | e::es=>fQ e&&aH es
theorem cp{pos:Pos}:∀ {es:List Expr},aH es=true->(backTo pos (starEach es env)).any (·.1)=false
 | [],_=>rfl
 | e::es,h=>by
  dsimp only[aH] at h
  obtain ⟨h1,h2⟩:=Bool.and_eq_true_iff.mp h
  rw[a8 h1]
  show (false || (backTo pos (starEach es env)).any (·.1))=false
  rw[cp h2];rfl
theorem dZ{pos:Pos}:∀ {es:List Expr},aH es=true->(backTo pos (starEach es env)).all (fun x=>!x.1)=true
 | [],_=>rfl
 | e::es,h=>by
  dsimp only[aH] at h
  obtain ⟨h1,h2⟩:=Bool.and_eq_true_iff.mp h
  rw[a8 h1]
  show (true&&(backTo pos (starEach es env)).all (fun x=>!x.1))=true
  rw[dZ h2];rfl
theorem cJ{f:Value}{es:List Expr}{pos:Pos}{Q:Args->Shared->Prop}{E:Value->Shared->Prop}(hn:aH es=true)
  (h:wpAny (model G.prog G.w) A (spliced (backTo pos (starEach es env))) (fun vs s'=>Q ⟨vs,[]⟩ s') E s):wpAny (model G.prog G.w) A (evalArgs f true (backTo pos (starEach es env)) []) Q E s:=by
 cases es with
 | nil=>exact evalArgs_kw_nil (keywords:=[]) rfl (fun Γ p hΓ=>h Γ p hΓ)
 | cons e es =>
  delta aH at hn
  obtain ⟨h1,h2⟩:=Bool.and_eq_true_iff.mp hn
  rw[a8 h1] at h ⊢
  exact Calls.evalArgs_plain h
theorem Ev.callB{x:Str}{p pos:Pos}{args:List Expr}{id:String}{vs:List V}{v:V}(hk:C.kind x=some .globalImplicit)(hd:(x==("__debug__":Str))=false)(g:Gl G x (.builtin id))(hn:aH args=true)
  (h:Evs G A C env W args σ η vs σ₁) (ho:On G A (fun cvs=>call (.builtin id) cvs) σ₁ vs v σ₂):Ev G A C env W (.Call (.Name x p) args [] pos) σ η v σ₂:=fun ρ s R N ht=>by
 refine wpAny_Call_Name_kw (RE.global R N hk hd g ?_)
 refine callWith_builtin (cp hn) (cJ hn (h.use R N ht pos fun cvs am aa ah aJ aK av=>?_))
 exact ho.use ah.rel av aK fun cv aA au aq cU aF=>⟨au,ah.trans aq,aF⟩
theorem Ev.callT{x:Str}{p pos:Pos}{args:List Expr}{T:String}{vs:List V}{v:V}(hk:C.kind x=some .globalImplicit)(hd:(x==("__debug__":Str))=false)(g:Gl G x (.type T))(hn:aH args=true)
  (h:Evs G A C env W args σ η vs σ₁) (ho:On G A (fun cvs=>call (.type T) cvs) σ₁ vs v σ₂):Ev G A C env W (.Call (.Name x p) args [] pos) σ η v σ₂:=fun ρ s R N ht=>by
 refine wpAny_Call_Name_kw (RE.global R N hk hd g ?_)
 refine PySem.callWith_type (cp hn) (cJ hn (h.use R N ht pos fun cvs am aa ah aJ aK av=>?_))
 exact ho.use ah.rel av aK fun cv aA au aq cU aF=>⟨au,ah.trans aq,aF⟩
theorem Ev.callF{x:Str}{p pos:Pos}{args:List Expr}{a:Addr}{o:Obj}{fd:FuncData}{vs:List V}{v:V}(hk:C.kind x=some .globalImplicit)(hd:(x==("__debug__":Str))=false)(g:Gl G x (.ref a))(hn:aH args=true)
  (hb:G.s₀.heap.get? a=some o) (hl:a ∉ G.loose) (hf:o.data=.func fd)
  (h:Evs G A C env W args σ η vs σ₁) (ho:On G A (fun cvs=>call (.ref a) cvs) σ₁ vs v σ₂):Ev G A C env W (.Call (.Name x p) args [] pos) σ η v σ₂:=fun ρ s R N ht=>by
 refine wpAny_Call_Name_kw (RE.global R N hk hd g ?_)
 refine callWith_function (o:=o) (fd:=fd) (cJ hn (h.use R N ht pos fun cvs am aa ah aJ aK av=>⟨⟨ah.rel.keep a o hl hb,hf⟩,?_⟩))
 exact ho.use ah.rel av aK fun cv aA au aq cU aF=>⟨au,ah.trans aq,aF⟩
noncomputable def b9(e:Expr):Bool:=!((un e).tag==12&&(un (un e).a).tag==1&&(un e).l.isEmpty&&(un e).ks.isEmpty)
theorem eD{o:Expr}{name:Str}(h:b9 o=true)(w:Sem Value):attributeBase o name env w=w:=by
 cases o with
 | Call f l ks p =>
  cases f with
  | Name x q =>
   cases l with
   | nil=>cases ks with
    | nil=>exact ftr h
    | cons a ks=>rfl
   | cons a l=>cases ks <;> rfl
  | _=>rfl
 | _=>rfl
structure Mt (T:String) (name:Str) (id:String):Prop where
 attrs:PlainAttrs T
 slot:Slot T name id
 ty:typeOf (.builtin id)=pure (.type "method_descriptor")
noncomputable def mq(σ:List AO)(v:V):Option String :=
 match der σ v with
 | .str _=>some "str"
 | .lst _=>some "list"
 | .tup _=>some "tuple"
 | _=>none
theorem hJ{v:V}{T:String}{cv:Value}(e:mq σ v=some T)(R:Rel G σ ρ s)(r:RV s.heap ρ v cv):s.TypeIs cv T/\∀ a,cv=.ref a->∃ ob,s.heap.get? a=some ob/\ob.dict=none:=by
 delta mq at e
 generalize hd:der σ v=w at e
 cases w with
 | str l =>
  obtain rfl:=siX e
  rw[dP hd] at r
  obtain ⟨_,t,rfl⟩:=RV.str_iff r
  exact⟨typeIs_str _ _ _,fun _ e=>nomatch e⟩
 | lst l =>
  obtain rfl:=siX e
  obtain ⟨a,vs,rfl,⟨n,hp⟩,_,_⟩:=cf hd R r
  exact⟨⟨_,hp,rfl⟩,fun b e=>by cases e;exact⟨_,hp,rfl⟩⟩
 | tup l =>
  obtain rfl:=siX e
  rw[pw hd] at r
  obtain ⟨_,a,vs,rfl,_,⟨n,hp⟩,_⟩:=RV.tup_iff r
  exact⟨⟨_,hp,rfl⟩,fun b e=>by cases e;exact⟨_,hp,rfl⟩⟩
 | _=>exact nso e
theorem Ev.meth{o:Expr}{name:Str}{apos pos:Pos}{args:List Expr}{T id:String}{u v:V}{vs:List V}(m:Mt T name id)(hs:b9 o=true)(hn:aH args=true)(hfew:args.length<29)(hline:(apos.endLine==pos.line)=true)
  (dB:Ev G A C env W o σ η u σ₁) (hT:mq σ₁ u=some T) (cP:Evs G A C env W args σ₁ η vs σ₂) (ho:On G A (fun cvs=>call (.builtin id) cvs) σ₂ (u::vs) v aj) :
  Ev G A C env W (.Call (.Attribute o name apos) args [] pos) σ η v aj:=fun ρ s R N ht=>by
 refine wpAny_Call_method_lateS (eD hs _) ?_ hline ?_
 ·rw[dZ hn]
  show (true&&true&&decide (args.length+0+0<30))=true
  simp;exact Nat.le_succ_of_le ‹_›
 ·refine dB.use R N ht fun bz am aa ah aJ aK av=>?_
  refine gu (hJ hT ah.rel av) fun hT' hd=>?_
  refine gA1 T id m.attrs m.slot m.ty hT' hd ?_
  refine callWith_builtin (cp hn) (cJ hn (cP.use ah.rel aJ aK pos fun cvs aA au aq ci cU aF=>?_))
  exact ho.use aq.rel (RVs.cons (RV.mono (Step.keepV ah.rel aq) _ _ av) aF) cU fun cv dY bA bQ jK fD=>⟨bA,ah.trans (aq.trans bQ),fD⟩
end
noncomputable def fk:List V->Option (List Int)
 | []=>some []
 | v::r=>(vI v).bind fun i=>(fk r).map (i::·)
theorem cZ{l:List V}:∀ {ns:List Int},fk l=some ns->l=ns.map V.int:=by
 induction l with
 | nil=>intro ns h;obtain rfl:=siX h;rfl
 | cons v r ih =>
  intro ns h
  exact tj h fun i hi h=>(Option.map_eq_some_iff.mp h).elim fun ms hm=>by rw[hi,ih hm.1,← hm.2];rfl
noncomputable def xw:Int->List Int->Int
 | m,[]=>m
 | m,x::r=>xw (if x>m then x else m) r
set_option genInjectivity false in
set_option genSizeOf false in
inductive Bf where
 | len | chr | ord | abs | sum | max | min
deriving DecidableEq
noncomputable def Bf.id:Bf->String
 | .len=>"len" | .chr=>"chr" | .ord=>"ord" | .abs=>"abs" | .sum=>"sum" | .max=>"max" | .min=>"min"
noncomputable abbrev a1(l:List V):Option V:=kZ l
theorem yr{l:List V}{a:V}(h:a1 l=some a):l=[a]:=mQ h
noncomputable abbrev hd?(l:List Nat):Option Nat:=kZ l
theorem kM1{l:List Nat}{a:Nat}(h:hd? l=some a):l=[a]:=mQ h
noncomputable abbrev a2(l:List V):Option (V×V):=yF l
theorem kW1{l:List V}{a:V×V}(h:a2 l=some a):l=[a.1,a.2]:=tY h
theorem ix1{β:Type}{P:List V->Prop}{l:List V}{f:Int->Option β}{r:β}(h:(a1 l).bind (fun v=>(vI v).bind f)=some r)(q:∀ x,f x=some r->P [.int x]):P l :=
 ji h fun v hv h=>tj h fun x hx h=>by rw[yr hv,hx];exact q x h
noncomputable def im1(v:V):Option V:=match v with
 | .str l=>some (.int l.length)
 | .tup l=>some (.int l.length)
 | .lst l=>some (.int l.length)
 | _=>none
noncomputable def kx1:List Int->Option V
 | n::ns=>some (.int (xw n ns))
 | []=>none
noncomputable def bfF(f:Bf)(σ:List AO)(vs:List V):Option V :=
 match f with
 | .len=>(a1 vs).bind fun v=>im1 (der σ v)
 | .chr=>(a1 vs).bind fun v=>(vI v).bind fun i=>if 0<=i/\i<=1114111 then some (.str [i.toNat]) else none
 | .ord=>(a1 vs).bind fun v=>(vS v).bind fun l=>(hd? l).bind fun c=>some (.int c)
 | .abs=>(a1 vs).bind fun v=>(vI v).bind fun i=>some (.int (if i<0 then -i else i))
 | .sum=>(a1 vs).bind fun v=>(vL (der σ v)).bind fun l=>(fk l).map fun ns=>.int ns.sum
 | .max=>(a1 vs).bind fun v=>(vL (der σ v)).bind fun l=>(fk l).bind kx1
 | .min=>(a2 vs).bind fun p=>ii (fun a b=>some (.int (if b<a then b else a))) p.1 p.2
section
variable {G:Wd} {A:Around} {C C':Cx} {env cenv:Env} {W W':List Addr} {η η' η₁ η₂ bi:ab} {σ σ' σ₁ σ₂ aj σ₄ bR:List AO} {ρ ρ' aa:Rho} {s s' am aA:Shared}
theorem iu{v:V}{cv:Value}{h':Heap}{tk:Nat}(R:Rel G σ ρ s)(hk:∀ b o,s.heap.get? b=some o->h'.get? b=some o)(r:RV h' ρ v cv):PE G ρ s σ v cv { s with heap:=h',toks:=tk } :=
 ⟨ρ,Step.grow R hk ⟨h',tk,rfl⟩,r⟩
theorem mM(ns:List Int):∀ k,k<=ns.length->preSum (fun i=>ns[i]?.getD 0) k=(ns.take k).sum
 | 0,_=>by simp [preSum]
 | k+1,h=>by
  have:ns[k]?=some ns[k]:=List.getElem?_eq_getElem (by assumption)
  rw[preSum,mM ns k (by exact Nat.le_of_lt ‹_›),List.take_add_one,this]
  simp only[Option.getD_some,Option.toList_some,List.sum_append,List.sum_cons,List.sum_nil,Int.add_zero]
theorem iK{h:Heap}{ρ:Rho}{ns:List Int}{vs:List Value}(r:RVs h ρ (ns.map V.int) vs){i:Nat}{c:Value}(hc:vs[i]?=some c):∃ n t,ns[i]?=some n/\c=.int n t:=by
 have hl:=RVs.length r
 have hi:i<ns.length:=by
  have:=(List.getElem?_eq_some_iff.mp hc).1
  rw[hl,List.length_map] at this;exact this
 have e:(ns.map V.int)[i]?=some (V.int ns[i]):=by simp [hi]
 refine aI (RVs.get r e) fun c' h1 h2=>?_
 rw[hc] at h1;obtain rfl:=siX h1
 refine a9 (RV.int_iff h2) fun t rfl=>?_
 exact ik1 (ns[i]) t (List.getElem?_eq_getElem hi) rfl
theorem ud{a:Addr}{vs:Array Value}{ns:List Int}(hh:A.handled=none)(R:Rel G σ ρ s)(hp:s.heap.PlainList a vs)(r:RVs s.heap ρ (ns.map V.int) vs.toList) :
  wpAny (model G.prog G.w) A (call (.builtin "sum") [.ref a]) (PE G ρ s σ (.int ns.sum)) No s:=by
 have hsz:vs.size=ns.length:=by have:=RVs.length r;simpa using this
 refine call_sum_walkAnyS (wpAny_pyIter_list hp.isList ⟨s.heap.objs.size,[s.heap.objs.size,a],[s.heap.objs.size],fun x y=>y=x,vs.size,fun i v=>vs[i]?=some v,_,fun i=>ns[i]?.getD 0,rfl,
  (Walks.list (A:=A.in1) hh s.heap.objs.size a ?_ vs).toS,⟨⟨_,Heap.get?_push_size _ rfl,rfl,rfl⟩,hp.isList.push _⟩,?_,?_,?_⟩)
 ·refine a9 (hp) fun n e=>?_;exact Nat.ne_of_lt (Heap.lt_size e)
 ·intro b hb
  have hlt:a<s.heap.objs.size:=by refine a9 (hp) fun n e=>?_;exact Heap.lt_size e
  rw[Heap.size_push]
  simp only[List.mem_cons,List.not_mem_nil,or_false] at hb
  rcases hb with rfl | rfl
  ·exact Nat.lt_succ_self _
  ·exact Nat.lt_succ_of_lt hlt
 ·intro i v hv
  refine byQ fun Q kQ=>?_
  obtain ⟨n,t,h1,rfl⟩:=iK r (by simpa using hv)
  refine kQ ?_
  exact⟨t,by show _=Value.int (ns[i]?.getD 0) t;rw[h1];rfl⟩
 ·intro s' t' hm
  have e:=hm.eq_with
  rw[mM ns vs.size (by exact Nat.le_of_eq ‹_›),List.take_of_length_le (by exact Nat.le_of_eq (Eq.symm ‹_›))]
  refine⟨ρ,Step.grow R (fun b o eb=>hm.heap b o ?_ (Heap.get?_push_of_some _ eb)) ⟨s'.heap,s'.toks,e⟩,RV.int_⟩
  rw[List.mem_singleton]
  exact Nat.ne_of_lt (Heap.lt_size eb)
theorem uU(ns:List Int)(n:Int):∀ k,k<(n::ns).length->∃ j,j<=k/\argBest (fun i j=>decide ((n::ns).getD i 0>(n::ns).getD j 0)) k=j/\(n::ns)[j]?=some (xw n (ns.take k)):=by
 intro k
 induction k with
 | zero=>intro _;exact⟨0,Nat.le_refl _,rfl,rfl⟩
 | succ k ih =>
  intro hk
  obtain ⟨j,hj,h_p⟩:=ih (by exact Nat.le_of_lt ‹_›);have e:=h_p.1;have hv:=h_p.2
  have hk':k<ns.length:=by simpa using hk
  have hmax:∀ (l:List Int) (m x:Int),xw m (l++[x])=if x>xw m l then x else xw m l:=by
   intro l
   induction l with
   | nil=>intro m x;rfl
   | cons y l ihl=>intro m x;exact ihl _ x
  have ht:ns.take (k+1)=ns.take k++[ns[k]]:=by
   rw[List.take_add_one,List.getElem?_eq_getElem hk'];rfl
  rw[ht,hmax]
  have g1:(n::ns).getD (k+1) 0=ns[k]:=by simp [List.getD,hk']
  have g2:(n::ns).getD j 0=xw n (ns.take k):=by rw[List.getD,hv];rfl
  unfold argBest
  rw[e,g1,g2]
  by_cases h:ns[k]>xw n (ns.take k)
  ·rw[if_pos h,if_pos (by simpa using h)]
   exact⟨k+1,Nat.le_refl _,rfl,by simp [hk']⟩
  ·rw[if_neg h,if_neg (by simpa using h)]
   exact⟨j,by exact Nat.le_succ_of_le ‹_›,rfl,hv⟩
theorem bu1{A:Around}{vs:Array Value}{ns:List Int}{h:Heap}{ρ:Rho}{prog:Program}{w:World}(r:RVs h ρ (ns.map V.int) vs.toList) :
  CmpOf prog w A .Gt (fun i v=>vs[i]?=some v) (fun i j=>decide (ns.getD i 0>ns.getD j 0)):=by
 intro i j vi vj s Q E hi hj hQ
 obtain ⟨n,t,h1,rfl⟩:=iK r (by simpa using hi)
 obtain ⟨m,u,h2,rfl⟩:=iK r (by simpa using hj)
 have e1:ns.getD i 0=n:=by rw[List.getD,h1];rfl
 have e2:ns.getD j 0=m:=by rw[List.getD,h2];rfl
 dsimp only at hQ
 rw[e1,e2] at hQ
 exact gt_int hQ
theorem uT{a:Addr}{vs:Array Value}{n:Int}{ns:List Int}(hh:A.handled=none)(R:Rel G σ ρ s)(hp:s.heap.PlainList a vs)(r:RVs s.heap ρ ((n::ns).map V.int) vs.toList) :
  wpAny (model G.prog G.w) A (call (.builtin "max") [.ref a]) (PE G ρ s σ (.int (xw n ns))) No s:=by
 have hsz:vs.size=(n::ns).length:=by have:=RVs.length r;simpa using this
 refine call_max_walk (wpAny_pyIter_list hp.isList ⟨s.heap.objs.size,[s.heap.objs.size,a],[s.heap.objs.size],vs.size,fun i v=>vs[i]?=some v,_,fun i j=>decide ((n::ns).getD i 0>(n::ns).getD j 0),rfl,
  Walks.list (A:=A.in1) hh s.heap.objs.size a ?_ vs,⟨⟨_,Heap.get?_push_size _ rfl,rfl,rfl⟩,hp.isList.push _⟩,?_,?_,bu1 r,?_⟩)
 ·refine a9 (hp) fun n e=>?_;exact Nat.ne_of_lt (Heap.lt_size e)
 ·intro b hb
  have hlt:a<s.heap.objs.size:=by refine a9 (hp) fun n e=>?_;exact Heap.lt_size e
  rw[Heap.size_push]
  simp only[List.mem_cons,List.not_mem_nil,or_false] at hb
  rcases hb with rfl | rfl
  ·exact Nat.lt_succ_self _
  ·exact Nat.lt_succ_of_lt hlt
 ·rw[hsz];simp
 ·intro v h' tk hv hk
  obtain ⟨j,_,e,hj⟩:=uU ns n (vs.size - 1) (by rw[hsz];simp)
  rw[e] at hv
  obtain ⟨m,t,h1,rfl⟩:=iK r (by simpa using hv)
  rw[hj] at h1
  obtain rfl:=siX h1
  rw[List.take_of_length_le (by rw[hsz];simp)]
  refine⟨ρ,Step.grow R (fun b o eb=>hk b o ?_ (Heap.get?_push_of_some _ eb)) ⟨_,_,rfl⟩,RV.int_⟩
  rw[List.mem_singleton]
  exact Nat.ne_of_lt (Heap.lt_size eb)
noncomputable def OnF(G:Wd)(A:Around)(σ:List AO)(id:String)(v:V)(vs:List V):Prop:=On G A (fun cvs=>call (.builtin id) cvs) σ vs v σ
theorem OnF.of{id:String}{u v:V}{vs:List V}(h:some u=some v)(q:OnF G A σ id u vs):OnF G A σ id v vs:=siX h▸q
theorem OnF.one{id:String}{u v:V}(h:∀ ρ s c,Rel G σ ρ s->RV s.heap ρ u c->wpAny (model G.prog G.w) A (call (.builtin id) [c]) (PE G ρ s σ v) No s):OnF G A σ id v [u]:=fun ρ s cvs R r ht=>by
 refine cH (RVs.cons_iff r) fun c r' h_p=>?_;obtain rfl:=h_p.1;have h1:=h_p.2.1;have h2:=h_p.2.2
 refine(RVs.nil_iff h2)▸?_
 exact h ρ s c R h1
theorem OnF.int{id:String}{i:Int}{v:V}(h:∀ ρ s t,Rel G σ ρ s->wpAny (model G.prog G.w) A (call (.builtin id) [.int i t]) (PE G ρ s σ v) No s):OnF G A σ id v [.int i]:=OnF.one fun ρ s c R r=>by
 obtain ⟨t,rfl⟩:=RV.int_iff r
 exact h ρ s t R
theorem rV{u v:V}(e:im1 (der σ u)=some v):OnF G A σ "len" v [u]:=OnF.one fun ρ s c R r=>by
 cases hd:der σ u with
 | str l =>
  rw[hd] at e;rw[← siX e]
  rw[dP hd] at r
  obtain ⟨hl,t,rfl⟩:=RV.str_iff r
  refine PySem.P.len_str ?_ ?_
  ·rw[bx];unfold lim at hl;lia
  ·exact(bx)▸(aS R)
 | tup l =>
  rw[hd] at e;rw[← siX e]
  rw[pw hd] at r
  obtain ⟨hl,a,us,rfl,_,⟨n,hp⟩,hr⟩:=RV.tup_iff r
  have hsz:us.size=l.length:=by have:=RVs.length hr;simpa using this
  refine PySem.P.len_tuple hp ?_ ?_
  ·rw[hsz];unfold lim at hl;lia
  ·exact(hsz)▸(aS R)
 | lst l =>
  rw[hd] at e;rw[← siX e]
  obtain ⟨a,us,rfl,h_p⟩:=cf hd R r;have hp:=h_p.1;have hr:=h_p.2.1;have hl:=h_p.2.2
  have hsz:us.size=l.length:=by have:=RVs.length hr;simpa using this
  refine call_len_list hp.isList ?_ ?_
  ·rw[hsz];unfold lim at hl;lia
  ·exact(hsz)▸(aS R)
 | _=>replace e:=(hd)▸e;exact nso e
theorem i7{f:Bf}{vs:List V}{v:V}(hh:A.handled=none)(e:bfF f σ vs=some v):OnF G A σ f.id v vs:=by
 cases f with
 | len=>exact ji e fun u hu e=>by rw[yr hu];exact rV e
 | chr=>exact ix1 (P:=OnF G A σ "chr" v) e fun i e=>OnF.of (bh e).2 (OnF.int fun ρ s t R=>chr_of_range (bh e).1.1 (bh e).1.2 (cG R (show 1<=lim by decide) rfl))
 | ord =>
  exact ji e fun u hu e=>th e fun l hl e=>ji e fun c hc e=>by
   rw[yr hu,hl,kM1 hc]
   refine OnF.of e (OnF.one fun ρ s c R r=>?_)
   obtain ⟨_,t,rfl⟩:=RV.str_iff r
   exact ord_of_one rfl (aS R)
 | abs=>exact ix1 (P:=OnF G A σ "abs" v) e fun i e=>OnF.of e (OnF.int fun ρ s t R=>call_abs_int fun u tk=>aS R)
 | sum =>
  exact ji e fun u hu e=>fE1 e fun l hl e=>(Option.map_eq_some_iff.mp e).elim fun ns hn=>by
   rw[yr hu,← hn.2]
   refine OnF.one fun ρ s c R r=>?_
   refine cH (cf hl R r) fun a us h_p=>?_;obtain rfl:=h_p.1;have hp:=h_p.2.1;have hr:=h_p.2.2.1
   rw[cZ hn.1] at hr
   exact ud hh R hp hr
 | max =>
  exact ji e fun u hu e=>fE1 e fun l hl e=>ji e fun ns hn e=>by
   rw[yr hu]
   cases ns with
   | nil=>exact nso e
   | cons n ns =>
    refine OnF.of e (OnF.one fun ρ s c R r=>?_)
    refine cH (cf hl R r) fun a us h_p=>?_;obtain rfl:=h_p.1;have hp:=h_p.2.1;have hr:=h_p.2.2.1
    rw[cZ hn] at hr
    exact uT hh R hp hr
 | min =>
  exact ji e fun p hp e=>by
   rw[kW1 hp]
   refine y6 (P:=fun a b=>OnF G A σ "min" v [a,b]) e fun a b e=>OnF.of e fun ρ s cvs R r ht=>?_
   obtain ⟨c,r',rfl,h1,h2⟩:=RVs.cons_iff r
   obtain ⟨c2,r'',rfl,h3,h4⟩:=RVs.cons_iff h2
   refine(RVs.nil_iff h4)▸?_
   obtain ⟨t,rfl⟩:=RV.int_iff h1
   obtain ⟨u,rfl⟩:=RV.int_iff h3
   refine PySem.min_two_ints hh fun h' tk hk=>iu R hk ?_
   by_cases hc:b<a
   ·rw[if_pos hc,if_pos hc];exact RV.int_
   ·rw[if_neg hc,if_neg hc];exact RV.int_
end
noncomputable def rgV(a b c:Int):Option V:=if e9 a b c then some (.rng a b c) else none
noncomputable def c51:List Int->Option V
 | [n]=>rgV 0 n 1
 | [a,b]=>rgV a b 1
 | [a,b,c]=>rgV a b c
 | _=>none
noncomputable def uA(vs:List V):Option V:=(fk vs).bind c51
noncomputable def vR:V->Option (Int×Int×Int)
 | .rng a b c=>some (a,b,c)
 | _=>none
theorem iF1{v:V}{a:Int×Int×Int}(h:vR v=some a):v=.rng a.1 a.2.1 a.2.2:=by cases v <;> first | (obtain rfl:=siX h;rfl) | exact nso h
noncomputable def aO1(vs:List V):Option V:=(a1 vs).bind fun v=>(vR v).bind fun a=>if (bP a.1 a.2.1 a.2.2).length<=lim then some (.lst (bP a.1 a.2.1 a.2.2)) else none
section
variable {G:Wd} {A:Around} {C C':Cx} {env cenv:Env} {W W':List Addr} {η η' η₁ η₂ bi:ab} {σ σ' σ₁ σ₂ aj σ₄ bR:List AO} {ρ ρ' aa:Rho} {s s' am aA:Shared}
theorem fM{a b c:Int}{t u v:Tok}{k:Nat}(R:Rel G σ ρ s)(h:e9 a b c=true) :
  PE G ρ s σ (.rng a b c) (.ref s.heap.objs.size) { s with heap:=s.heap.push { cls:=.type "range",data:=.fields #[.int a t,.int b u,.int c v] },toks:=k }:=by
 refine iu R (fun b o e=>Heap.get?_push_of_some _ e) ?_
 delta RV
 exact⟨h,_,t,u,v,rfl,bM R,Heap.get?_push_size _ rfl⟩
theorem fK{h:Heap}{a:Int}{l:List V}{cvs:List Value}(r:RVs h ρ (.int a::l) cvs):∃ t r',cvs=.int a t::r'/\RVs h ρ l r' :=
 oM (RVs.cons_iff r) fun c r' e h1 h2=>a9 (RV.int_iff h1) fun t q=>⟨t,r',q▸e,h2⟩
theorem mH{vs:List V}{v:V}(e:uA vs=some v):On G A (fun cvs=>call (.type "range") cvs) σ vs v σ:=fun ρ s cvs R r ht=>ji e fun l hl e=>by
 replace r:=(cZ hl)▸r
 match l,r,e with
 | [],r,e=>exact nso e
 | [n],r,e =>
  refine byQ fun Q kQ=>?_
  obtain ⟨t,r1,rfl,h1⟩:=fK r
  refine kQ ?_
  rw[RVs.nil_iff h1,← siX (bh e).2]
  exact call_range_1 (fM R (bh e).1)
 | [a,b],r,e =>
  obtain ⟨t,r1,rfl,h1⟩:=fK r
  refine cH (fK h1) fun u r2 h_p=>?_;obtain rfl:=h_p.1;have h2:=h_p.2
  rw[RVs.nil_iff h2,← siX (bh e).2]
  exact call_range_2 (fM R (bh e).1)
 | [a,b,c],r,e =>
  obtain ⟨t,r1,rfl,h1⟩:=fK r
  obtain ⟨u,r2,rfl,h2⟩:=fK h1
  refine cH (fK h2) fun x r3 h_p=>?_;obtain rfl:=h_p.1;have h3:=h_p.2
  rw[RVs.nil_iff h3,← siX (bh e).2]
  have hk:=of_decide_eq_true (bh e).1
  exact call_range_3 (by lia) (fM R (bh e).1) (.inl (PyProof.noPylong_small (by lia)))
 | _::_::_::_::_,r,e=>exact nso e
theorem uw{a b c:Int}(hk:e9 a b c=true):Builtin.Range.small a b c=true/\0<=Builtin.Range.rangeSize a b c/\Builtin.Range.rangeSize a b c<=3000000:=⟨yN (of_decide_eq_true hk),uv (of_decide_eq_true hk)⟩
theorem xE{a b c:Int}{cv:Value}(hh:A.handled=none)(hl:(bP a b c).length<=lim)(R:Rel G σ ρ s)(h1:RV s.heap ρ (.rng a b c) cv):wpAny (model G.prog G.w) A (call (.type "list") [cv]) (PE G ρ s σ (.lst (bP a b c))) No s:=by
 refine byQ fun Q kQ=>?_
 obtain ⟨hk,ad,t,u,w,rfl,ho,hr⟩:=RV.rng_iff h1
 refine dF1 (uw hk) fun hsm h0 h3=>?_
 obtain ⟨n,hn⟩:∃ n:Nat,Builtin.Range.rangeSize a b c=n:=⟨_,(Int.toNat_of_nonneg h0).symm⟩
 refine kQ ?_
 refine call_list_range hh hr hsm hn (by lia) fun h' tk acc' c' hkeep hD hit=>iu R hkeep ?_
 dsimp only[RV]
 refine⟨hl,_,acc',rfl,bM R,⟨c',hD⟩,?_⟩
 have hlen:acc'.toList.length=(bP a b c).length:=by
  unfold bP
  rw[List.length_map,List.length_range,hn,Array.length_toList,hit.1];rfl
 refine RVs.mapGet hlen fun i x hx=>?_
 unfold bP at hx
 rw[List.getElem?_map] at hx
 refine fE ((List.range (Builtin.Range.rangeSize a b c).toNat)[i]?) (fun hq=>?_) (fun j hq=>?_)
 ·rw[hq] at hx;exact nso hx
 ·
  rw[hq] at hx
  obtain ⟨hj1,hj2⟩:=List.getElem?_eq_some_iff.mp hq
  rw[List.getElem_range] at hj2
  subst hj2
  obtain rfl:=siX hx
  have hi:i<acc'.size:=by
   rw[hit.1]
   rw[List.length_range,hn] at hj1
   simpa using hj1
  obtain ⟨t',ht'⟩:=hit.2 i acc'[i] (Array.getElem?_eq_getElem hi)
  refine⟨acc'[i],by simp [hi],?_⟩
  rw[ht'];exact RV.int_
theorem oU{vs:List V}{v:V}(hh:A.handled=none)(e:aO1 vs=some v):On G A (fun cvs=>call (.type "list") cvs) σ vs v σ:=fun ρ s cvs R r ht =>
 ji e fun w0 hw0 e=>ji e fun w hw e=>by
  rw[yr hw0,iF1 hw] at r
  rw[← siX (bh e).2]
  exact oM (RVs.cons_iff r) fun cv r' e1 h1 h2=>by rw[e1,RVs.nil_iff h2];exact xE hh (bh e).1 R h1
end
open Builtin Builtin.Str Builtin.Int
theorem lq(sep:Str)(t:Tok)(y:Str)(u:Tok):«str.join» ⟨[.str sep t,.str y u],[]⟩=(do
  let ty ← typeOf (.str y u)
  if (ty==.type "list" || ty==.type "tuple")=true then (do
   match ← seqItems? (.str y u) with
   | some xs=>joinTail sep xs.toList
   | none=>unsupported "internal:str.join")
  else (do
   let it ← (pyIter (.str y u)).tryCatch fun e=>do
    if ← isInstance e (.type "TypeError") then rule "str.join.not-iterable";raiseError "TypeError" "can only join an iterable" else throw e
   let items ← collect it
   joinTail sep items)):=rfl
section
variable {prog:Program} {w:World} {A:Around} {E:Value->Shared->Prop} {s:Shared} {x y:Str} {t u:Tok} {Q:Value->Shared->Prop}
theorem m9(hh:A.handled=none)(hsz:y.cps.size<=sizeLine)
  (hq:∀ (s':Shared) (l:List (Str×Tok)),(∀ b o,s.heap.get? b=some o->s'.heap.get? b=some o)->s'.gens=s.gens->s'.drawn=s.drawn->s'.os=s.os->ItemsOf (SignAt y) (strValues l).toArray y.cps.size ->
   JoinOk x (l.map (·.1))=true/\∀ t' k,Q (.str (Txt.join x (l.map (·.1))) t') { s' with toks:=k }) :
  wpAny (model prog w) A (call (.builtin "str.join") [.str x t,.str y u]) Q E s:=by
 refine wpAny_call (codeAny_call_builtin F.slot_str_join.plain F.entry_str_join (F.slot_str_join.check _ _ _ _ _ _ _ _ (typeIs_str _ _ _) (F.args_str_join_2 _ _) ?_))
 rw[lq]
 refine wpAny_bind (wpAny_typeOf (typeIs_str _ _ _) ?_)
 show wpAny _ A.in1 ((pyIter (.str y u)).tryCatch _>>=fun it=>collect it>>=fun items=>joinTail x items) _ _ s
 refine wpAny_bind (wpAny_tryCatch ?_)
 have main:∀ (ty:String) (o:Obj),(ty="str_ascii_iterator"\/ty="str_iterator")->(s.heap.push o).IsStrIter s.heap.objs.size ty y u 0 ->
   wpAny (model prog w) A.in1 (collect (.ref s.heap.objs.size)>>=fun items=>joinTail x items) (fun fin s'=>match fin with | .done f=>wants Q E (.ok f) s' | .again c'=>c'.quiet=true/\codeAny (model prog w) A c' (wants Q E) s') (fun e s'=>wants Q E (.error e) s') { s with heap:=s.heap.push o }:=by
  intro ty o hty hit
  refine wpAny_bind (wpAny_collect_strIter (A:=A.in1) hh hty hit (fun s' acc h1 h2 h3 h4 hacc=>?_) hsz)
  obtain ⟨l,hl⟩:=exists_strValues acc.toList fun v hv=>by
   obtain ⟨j,hj,rfl⟩:=Array.mem_iff_getElem.mp (Array.mem_toList_iff.mp hv)
   refine cH (hacc.2 j _ (Array.getElem?_eq_getElem hj)) fun c u' h_p=>?_;have e:=h_p.2
   exact y0 _ _ e
  refine(hl)▸?_
  have hacc':ItemsOf (SignAt y) (strValues l).toArray y.cps.size:=by exact(hl)▸(hacc)
  obtain ⟨hok,hpost⟩:=hq s' l (fun b ob e=>h1 b ob (by rintro rfl;rw[aE] at e;exact nso e) (Heap.get?_push_of_some _ e)) h2 h3 h4 hacc'
  unfold JoinOk at hok
  rw[Bool.not_eq_true'] at hok
  have g:Gives (joinTail x (strValues l)) (joinMade x l):=by
   have g0:=gives_joinTail x l hok
   cases l with
   | nil=>exact g0
   | cons p r=>cases r with
    | nil=>exact g0
    | cons q r'=>exact g0
  exact g prog w A (wants Q E) s' (post_join l ⟨joinFit_length hok,hpost⟩)
 cases ha:y.cps.all (·<128) with
 | true=>exact wpAny_pyIter_ascii ha (main "str_ascii_iterator" _ (.inl rfl) ⟨_,Heap.get?_push_size _ rfl,rfl,rfl⟩)
 | false=>exact wpAny_pyIter_wide ha (main "str_iterator" _ (.inr rfl) ⟨_,Heap.get?_push_size _ rfl,rfl,rfl⟩)
end
inductive Me where
 | join | replace | split | startswith | endswith | find3 | index | lstripC | count | lindex | lcount
deriving DecidableEq
noncomputable def Me.T:Me->String
 | .lindex | .lcount=>"list"
 | _=>"str"
noncomputable def Me.name:Me->String
 | .join=>"join" | .replace=>"replace" | .split=>"split" | .startswith=>"startswith" | .endswith=>"endswith" | .find3=>"find" | .index=>"index" | .lstripC=>"lstrip" | .count=>"count" | .lindex=>"index" | .lcount=>"count"
noncomputable def Me.id:Me->String
 | .join=>"str.join" | .replace=>"str.replace" | .split=>"str.split" | .startswith=>"str.startswith" | .endswith=>"str.endswith" | .find3=>"str.find" | .index=>"str.index" | .lstripC=>"str.lstrip" | .count=>"str.count" | .lindex=>"list.index" | .lcount=>"list.count"
noncomputable def gp:List V->Option (List (List Nat))
 | []=>some []
 | v::r=>(vS v).bind fun i=>(gp r).map (i::·)
noncomputable def fj(x:List Nat):List (List Nat)->List Nat
 | []=>[]
 | [y]=>y
 | y::z::r=>y++x++fj x (z::r)
noncomputable abbrev S'(l:List Nat):Str:=⟨l.toArray⟩
noncomputable def cn:List (List Nat)->Nat
 | []=>0
 | x::r=>x.length+cn r
noncomputable def u6(σ:List AO)(x:List Nat)(v:V):Option V:=match der σ v with
 | .lst l=>match gp l with
  | some ys=>if cn ys+ys.length*x.length<=lim then some (.str (fj x ys)) else none
  | none=>none
 | .str y=>if y.length+y.length*x.length<=lim then some (.str (fj x (y.map fun c=>[c]))) else none
 | _=>none
noncomputable def fz1(x y:List Nat):Option V:=match Builtin.Str.occurrences (S' x) (S' y) 0 x.length 1 with
 | i::_=>some (.int i)
 | []=>none
noncomputable def a3:List V->Option (V×V×V)
 | [a,b,c]=>some (a,b,c)
 | _=>none
theorem kV1{l:List V}{a:V×V×V}(h:a3 l=some a):l=[a.1,a.2.1,a.2.2]:=by
 match l,h with
 | [b,c,d],h=>obtain rfl:=siX h;rfl
noncomputable def ss(σ:List AO)(u:V)(vs:List V)(f:List Nat->List Nat->Option V):Option V:=(vS (der σ u)).bind fun x=>(a1 vs).bind fun v=>(vS v).bind fun y=>f x y
noncomputable def il1(l:List V)(v:V):Option V:=(vI v).bind fun i=>(fk l).bind fun ns=>(ns.findIdx? (·==i)).bind fun k=>some (.int k)
noncomputable def meF(f:Me)(σ:List AO)(u:V)(vs:List V):Option V :=
 match f with
 | .join=>(vS (der σ u)).bind fun x=>(a1 vs).bind fun v=>u6 σ x v
 | .startswith=>ss σ u vs fun x y=>some (.bool (Txt.startswith (S' x) (S' y)))
 | .endswith=>ss σ u vs fun x y=>some (.bool (Txt.endswith (S' x) (S' y)))
 | .find3=>(vS (der σ u)).bind fun x=>(a3 vs).bind fun p=>(vS p.1).bind fun y=>ii (fun i j=>if 0<=i/\0<=j/\j<=x.length then some (.int (match Builtin.Str.occurrences (S' x) (S' y) i.toNat j.toNat 1 with | k::_=>(k:Int) | []=>-1)) else none) p.2.1 p.2.2
 | .index=>ss σ u vs fz1
 | .lstripC=>ss σ u vs fun x y=>some (.str (Txt.lstripChars (S' x) (S' y)).cps.toList)
 | .count=>ss σ u vs fun x y=>some (.int (Txt.count (S' x) (S' y)))
 | .replace=>(vS (der σ u)).bind fun x=>(a2 vs).bind fun p=>(vS p.1).bind fun y=>(vS p.2).bind fun z=>if y=z then none else if x.length+(x.length+1)*z.length<=16000000/\(Txt.replace (S' x) (S' y) (S' z)).cps.toList.length<=lim then some (.str (Txt.replace (S' x) (S' y) (S' z)).cps.toList) else none
 | .lindex=>(vL (der σ u)).bind fun l=>(a1 vs).bind fun v=>il1 l v
 | _=>none
theorem aL1:Mt "str" "join" "str.join":=⟨F.plainAttrs_str,F.slot_str_join,F.type_str_join⟩
theorem fR:Mt "str" "replace" "str.replace":=⟨F.plainAttrs_str,F.slot_str_replace,F.type_str_replace⟩
theorem qM:Mt "str" "split" "str.split":=⟨F.plainAttrs_str,F.slot_str_split,F.type_str_split⟩
theorem k9:Mt "str" "startswith" "str.startswith":=⟨F.plainAttrs_str,F.slot_str_startswith,F.type_str_startswith⟩
theorem oO:Mt "str" "endswith" "str.endswith":=⟨F.plainAttrs_str,F.slot_str_endswith,F.type_str_endswith⟩
theorem aM1:Mt "str" "find" "str.find":=⟨F.plainAttrs_str,F.slot_str_find,F.type_str_find⟩
theorem xr:Mt "str" "index" "str.index":=⟨F.plainAttrs_str,F.slot_str_index,F.type_str_index⟩
theorem uP:Mt "str" "lstrip" "str.lstrip":=⟨F.plainAttrs_str,F.slot_str_lstrip,F.type_str_lstrip⟩
theorem xu:Mt "str" "count" "str.count":=⟨F.plainAttrs_str,F.slot_str_count,F.type_str_count⟩
theorem uQ:Mt "list" "index" "list.index":=⟨F.plainAttrs_list,F.slot_list_index,F.type_list_index⟩
theorem mS:Mt "list" "append" "list.append":=⟨F.plainAttrs_list,F.slot_list_append,F.type_list_append⟩
theorem aK1:Mt "list" "pop" "list.pop":=⟨F.plainAttrs_list,F.slot_list_pop,F.type_list_pop⟩
theorem rx{l:List V}:∀ {ns:List (List Nat)},gp l=some ns->l=ns.map V.str:=by
 induction l with
 | nil=>intro ns h;obtain rfl:=siX h;rfl
 | cons v r ih =>
  intro ns h
  exact th h fun i hi h=>(Option.map_eq_some_iff.mp h).elim fun ms hm=>by rw[hi,ih hm.1,← hm.2];rfl
theorem hU{h:Heap}{ρ:Rho}:∀ {ys:List (List Nat)} {vs:List Value},RVs h ρ (ys.map V.str) vs->∃ l:List (Str×Tok),strValues l=vs/\l.map (·.1)=ys.map S'
 | [],vs,r=>by exact(RVs.nil_iff r)▸(⟨[],rfl,rfl⟩)
 | y::ys,vs,r=>by
  obtain ⟨c,cs,rfl,h1,h2⟩:=RVs.cons_iff r
  obtain ⟨_,t,rfl⟩:=RV.str_iff h1
  obtain ⟨l,h_p⟩:=hU h2;have e1:=h_p.1;have e2:=h_p.2
  exact⟨(S' y,t)::l,by rw[← e1];rfl,by rw[List.map_cons,e2];rfl⟩
theorem lx(x:List Nat):∀ ys:List (List Nat),(Str.join (S' x) (ys.map S')).cps.toList=fj x ys
 | []=>rfl
 | [y]=>by
  show ((S' y).cps.toList:List Nat)=y
  simp
 | y::z::r=>by
  have ih:=lx x (z::r)
  show ((S' y++S' x++Str.join (S' x) ((z::r).map S')).cps.toList:List Nat)=y++x++fj x (z::r)
  refine(ih)▸?_
  show ((_++_++_:Array Nat)).toList=_
  simp
section
variable {G:Wd} {A:Around} {C C':Cx} {env cenv:Env} {W W':List Addr} {η η' η₁ η₂ bi:ab} {σ σ' σ₁ σ₂ aj σ₄ bR:List AO} {ρ ρ' aa:Rho} {s s' am aA:Shared}
open PySem.Builtin PySem.Builtin.Str in
theorem gI(x y:Str)(i j:Int)(t u v w:Tok)(hi:0<=i)(hj:0<=j)(hj2:j<=x.length) :
  Gives (Builtin.«str.find» ⟨[.str x t,.str y u,.int i v,.int j w],[]⟩) (.int (match Builtin.Str.occurrences x y i.toNat j.toNat 1 with | k::_=>(k:Int) | []=>-1)):=by
 show Gives (match Builtin.Str.occurrences x y (max 0 (if i<0 then i+x.length else i)).toNat (min (max 0 (if j<0 then j+x.length else j)).toNat x.length) 1 with | k::_=>retInt k | []=>(do rule "str.find.not-found";retInt (-1))) _
 rw[if_neg (by exact Int.not_lt.mpr ‹_›),if_neg (by exact Int.not_lt.mpr ‹_›),Int.max_eq_right hi,Int.max_eq_right hj,Nat.min_eq_left (by lia)]
 cases Builtin.Str.occurrences x y i.toNat j.toNat 1 with
 | nil=>exact .rule (.of_eq rfl)
 | cons k _=>exact .of_eq rfl
theorem ea(x:List Nat):∀ ys:List (List Nat),(fj x ys).length<=cn ys+ys.length*x.length
 | []=>Nat.zero_le _
 | [y]=>by show y.length<=(y.length+0)+1*x.length;exact Nat.le_add_right _ _
 | y::z::r=>by
  have ih:=ea x (z::r)
  show (y++x++fj x (z::r)).length<=(y.length+cn (z::r))+(r.length+1+1)*x.length
  rw[List.length_append,List.length_append]
  have:(r.length+1+1)*x.length=(z::r).length*x.length+x.length:=by rw[Nat.succ_mul];rfl
  lia
theorem hR:∀ ys:List (List Nat),(ys.map fun y=>(S' y).length).sum=cn ys
 | []=>rfl
 | y::r=>by
  rw[List.map_cons,List.sum_cons,hR r,bx];rfl
theorem r5{x:List Nat}{ys:List (List Nat)}{a:Addr}{t:Tok}{vs:Array Value}(R:Rel G σ ρ s)(hp:s.heap.PlainList a vs)(r:RVs s.heap ρ (ys.map V.str) vs.toList)(hl:cn ys+ys.length*x.length<=lim) :
  wpAny (model G.prog G.w) A (call (.builtin "str.join") [.str (S' x) t,.ref a]) (PE G ρ s σ (.str (fj x ys))) No s:=by
 refine a9 (hU r) fun l h_p=>?_;have e1:=h_p.1;have e2:=h_p.2
 refine SC.join (l:=l) (texts:=ys.map S') ?_ e2 ?_ fun t' k=>cG R (Nat.le_trans (ea x ys) hl) ?_
 ·exact(e1)▸(hp.isList)
 ·unfold JoinOk Builtin.Str.tooLong
  rw[StrLaws.joinTotal,List.map_map,List.length_map,bx,Bool.not_eq_true',decide_eq_false_iff_not]
  have:((ys.map ((fun p:Str=>p.length) ∘ S')).sum)=cn ys:=hR ys
  have h4:sizeLine=16777216:=rfl
  unfold lim at hl
  lia
 ·unfold Txt.join
  rw[StrLaws.glued_eq_join]
  exact lx x ys
theorem ot(y:List Nat):cn (y.map fun c=>[c])=y.length:=by
 induction y with
 | nil=>rfl
 | cons c y ih=>show 1+cn (y.map fun c=>[c])=_;rw[ih,List.length_cons];exact Nat.add_comm _ _
theorem wS{y:List Nat}:∀ {l:List (Str×Tok)},ItemsOf (SignAt (S' y)) (strValues l).toArray (S' y).cps.size->l.map (·.1)=(y.map fun c=>[c]).map S':=by
 intro l ⟨h1,h2⟩
 have hlen:l.length=y.length:=by simpa [strValues,S'] using h1
 apply List.ext_getElem
 ·simp [hlen]
 ·intro j g1 g2
  have hj:j<l.length:=by simpa using g1
  obtain ⟨c,u,h_p⟩:=h2 j (.str l[j].1 l[j].2) (by simp [strValues,hj]);have e1:=h_p.1;have e2:=h_p.2
  have e3:l[j].1={ cps:=#[c] }:=by injection e2
  have e4:y[j]?=some c:=by simpa [S'] using e1
  have hy:j<y.length:=by lia
  rw[List.getElem?_eq_getElem hy] at e4
  simp only[List.getElem_map]
  rw[e3]
  have:y[j]=c:=by simpa using e4
  rw[this]
theorem jx{x y:List Nat}{t u:Tok}(hh:A.handled=none)(hy:y.length<=lim)(R:Rel G σ ρ s)(hl:y.length+y.length*x.length<=lim) :
  wpAny (model G.prog G.w) A (call (.builtin "str.join") [.str (S' x) t,.str (S' y) u]) (PE G ρ s σ (.str (fj x (y.map fun c=>[c])))) No s:=by
 have hsz:(S' y).cps.size<=sizeLine:=by
  have:(S' y).cps.size=y.length:=rfl
  exact(this)▸(Nat.le_trans hy (by decide))
 refine m9 hh hsz fun s' l hk h2 h3 h4 hi=>?_
 have e:=wS hi
 have hle:cn (y.map fun c=>[c])+(y.map fun c=>[c]).length*x.length<=lim:=by rw[ot,List.length_map];exact hl
 refine(e)▸?_
 refine⟨?_,fun t' k=>?_⟩
 ·unfold JoinOk Builtin.Str.tooLong
  rw[StrLaws.joinTotal,List.map_map,List.length_map,bx,Bool.not_eq_true',decide_eq_false_iff_not]
  have:(((y.map fun c=>[c]).map ((fun p:Str=>p.length) ∘ S')).sum)=cn (y.map fun c=>[c]):=hR _
  have h4:sizeLine=16777216:=rfl
  unfold lim at hle
  lia
 ·refine⟨ρ,Step.grow R hk ⟨s'.heap,k,by cases s';cases s;simp_all⟩,RV.str' (Nat.le_trans (ea x _) hle) ?_⟩
  unfold Txt.join
  rw[StrLaws.glued_eq_join]
  exact lx x _
theorem cD1{id:String}{u v:V}{vs:List V}{f:List Nat->List Nat->Option V}(h:ss σ u vs f=some v) (q:∀ x y,f x y=some v->x.length<=lim->∀ ρ s t u,Rel G σ ρ s ->
  wpAny (model G.prog G.w) A (call (.builtin id) [.str (S' x) t,.str (S' y) u]) (PE G ρ s σ v) No s):OnF G A σ id v (u::vs) :=
 th h fun x hx h=>ji h fun w hw h=>th h fun y hy h=>by
  rw[yr hw,hy]
  intro ρ s cvs R r ht
  obtain ⟨c,r',rfl,h1,h2⟩:=RVs.cons_iff r
  obtain ⟨c2,r2,rfl,h3,h4⟩:=RVs.cons_iff h2
  refine(RVs.nil_iff h4)▸?_
  replace h1:=(dP hx)▸h1
  obtain ⟨hl,t,rfl⟩:=RV.str_iff h1
  obtain ⟨_,u,rfl⟩:=RV.str_iff h3
  exact q x y h hl ρ s t u R
theorem pj{x:List Nat}{w v:V}{c:Value}{t:Tok}(hh:A.handled=none)(e:u6 σ x w=some v)(R:Rel G σ ρ s)(r:RV s.heap ρ w c) :
  wpAny (model G.prog G.w) A (call (.builtin "str.join") [.str (S' x) t,c]) (PE G ρ s σ v) No s:=by
 cases hd:der σ w with
 | lst l =>
  refine byQ fun Q kQ=>?_
  have e:(match gp l with | some ys=>if cn ys+ys.length*x.length<=lim then some (V.str (fj x ys)) else none | none=>none)=some v:=by rw[← e,u6,hd]
  refine cH (cf hd R r) fun a us h_p=>?_;obtain rfl:=h_p.1;have hp:=h_p.2.1;have hr:=h_p.2.2.1
  refine kQ ?_
  refine fE (gp l) (fun hi=>?_) (fun ys hi=>?_)
  ·replace e:=(hi)▸e;exact nso e
  ·
   rw[hi] at e
   have e:=bh e
   refine(siX e.2)▸?_
   rw[rx hi] at hr
   exact r5 R hp hr e.1
 | str y =>
  have e:=bh (show (if y.length+y.length*x.length<=lim then some (V.str (fj x (y.map fun c=>[c]))) else none)=some v by rw[← e,u6,hd])
  refine(siX e.2)▸?_
  replace r:=(dP hd)▸r
  obtain ⟨hy,u,rfl⟩:=RV.str_iff r
  exact jx hh hy R e.1
 | _=>exact nomatch (show none=some v by rw[← e,u6,hd])
theorem rU{a:Addr}{us:Array Value}{l:List V}{w v:V}{c:Value}(e:il1 l w=some v)(R:Rel G σ ρ s)(hp:s.heap.PlainList a us)(hr:RVs s.heap ρ l us.toList)(hl:l.length<=lim)(r:RV s.heap ρ w c) :
  wpAny (model G.prog G.w) A (call (.builtin "list.index") [.ref a,c]) (PE G ρ s σ v) No s :=
 tj e fun i hw e=>ji e fun ns hi e=>ji e fun k hk e=>by
  refine(siX e)▸?_
  replace r:=(hw)▸r
  obtain ⟨t,rfl⟩:=RV.int_iff r
  obtain ⟨n,hp⟩:=hp
  replace hr:=(cZ hi)▸hr
  have hsz:us.size=ns.length:=by have:=RVs.length hr;simpa using this
  rw[cZ hi,List.length_map] at hl
  obtain ⟨hk1,h_p⟩:=List.findIdx?_eq_some_iff_getElem.mp hk;have hk2:=h_p.1;have hk3:=h_p.2
  have ev:∀ m (hm:m<us.size) (hm':m<ns.length),∃ t,us[m]=.int ns[m] t:=fun m hm hm'=>by
   refine byQ fun Q kQ=>?_
   refine au1 (iK hr (i:=m) (c:=us[m]) (by simp [hm])) fun n' t' q1 q2=>?_
   rw[List.getElem?_eq_getElem hm'] at q1
   obtain rfl:=siX q1
   refine kQ ?_
   exact⟨t',q2⟩
  refine call_meets F.slot_list_index ⟨_,hp,rfl⟩ F.entry_list_index (F.args_list_index_2 _ _)
   (PySem.SeqAt.list_indexAt a us n none #[] (.int i t) (fun y=>match y with | .int j _=>j==i | _=>false) k (by omega) (by unfold lim at hl;lia) ?_ ?_) ⟨hp,fun y hy=>?_,aS R⟩
  ·obtain ⟨t',et⟩:=ev k (by omega) hk1
   exact(et)▸(hk2)
  ·intro m hm hmk
   obtain ⟨t',et⟩:=ev m hm (by omega)
   rw[et]
   simpa using hk3 m hmk
  ·obtain ⟨m,hm,rfl⟩:=Array.mem_iff_getElem.mp hy
   obtain ⟨t',et⟩:=ev m hm (by omega)
   rw[et]
   exact PySem.SeqAt.EqAt.int_int _ _ _ _
theorem sh{x y:List Nat}{v:V}{t u:Tok}(e:fz1 x y=some v)(R:Rel G σ ρ s):wpAny (model G.prog G.w) A (call (.builtin "str.index") [.str (S' x) t,.str (S' y) u]) (PE G ρ s σ v) No s:=by
 refine kE1 (Builtin.Str.occurrences (S' x) (S' y) 0 x.length 1) (fun ho=>?_) (fun i rest ho=>?_)
 ·rw[fz1,ho] at e;exact nso e
 ·
  rw[fz1,ho] at e
  refine(siX e)▸?_
  exact SC.index (by rw[bx];exact ho) (aS R)
theorem uR{f:Me}{u v:V}{vs:List V}(hh:A.handled=none)(hf:f≠.replace)(e:meF f σ u vs=some v):OnF G A σ f.id v (u::vs):=by
 cases f with
 | join =>
  exact th e fun x hx e=>ji e fun w hw e=>by
   rw[yr hw]
   intro ρ s cvs R r ht
   obtain ⟨c,r',rfl,h1,h2⟩:=RVs.cons_iff r
   obtain ⟨c2,r2,rfl,h3,h4⟩:=RVs.cons_iff h2
   rw[RVs.nil_iff h4]
   rw[dP hx] at h1
   obtain ⟨_,t,rfl⟩:=RV.str_iff h1
   exact pj hh e R h3
 | startswith=>exact cD1 e fun x y e _ ρ s t u R=>siX e▸SC.startswith (aC R)
 | endswith=>exact cD1 e fun x y e _ ρ s t u R=>siX e▸SC.endswith (aC R)
 | find3 =>
  exact th e fun x hx e=>ji e fun p hp e=>th e fun y hy e=>by
   rw[kV1 hp,hy]
   refine y6 (P:=fun a b=>OnF G A σ Me.find3.id v (u::[.str y,a,b])) e fun i j e=>OnF.of (bh e).2 fun ρ s cvs R r ht=>?_
   have h:=(bh e).1
   obtain ⟨c,r',rfl,h1,h2⟩:=RVs.cons_iff r
   replace h1:=(dP hx)▸h1
   obtain ⟨_,t,rfl⟩:=RV.str_iff h1
   obtain ⟨c,r',rfl,h1,h2⟩:=RVs.cons_iff h2
   obtain ⟨c2,r2,rfl,h3,h4⟩:=RVs.cons_iff h2
   obtain ⟨c3,r3,rfl,h5,h6⟩:=RVs.cons_iff h4
   refine(RVs.nil_iff h6)▸?_
   obtain ⟨_,w,rfl⟩:=RV.str_iff h1
   obtain ⟨w2,rfl⟩:=RV.int_iff h3
   obtain ⟨w3,rfl⟩:=RV.int_iff h5
   exact call_gives F.slot_str_find (typeIs_str _ _ _) F.entry_str_find (F.args_str_find_4 _ _ _ _) (gI _ _ i j _ _ _ _ h.1 h.2.1 (by rw[bx];exact h.2.2)) (aS R)
 | index=>exact cD1 e fun x y e _ ρ s t u R=>sh e R
 | lstripC =>
  exact cD1 e fun x y e hxl ρ s t u R=>siX e▸SC.lstripChars (fun t' k=>cG R (by
   have:=len_lstripChars (S' x) (S' y)
   rw[bx] at this
   exact Nat.le_trans (Nat.le_of_eq (Array.length_toList)) (Nat.le_trans this hxl)) rfl) (by rw[bx];exact Nat.le_trans hxl (by decide))
 | count=>exact cD1 e fun x y e _ ρ s t u R=>siX e▸SC.count (aS R)
 | replace=>exact absurd rfl hf
 | lindex =>
  exact fE1 e fun l hd e=>ji e fun w hw e=>by
   rw[yr hw]
   intro ρ s cvs R r ht
   obtain ⟨c,r',rfl,h1,h2⟩:=RVs.cons_iff r
   obtain ⟨c2,r2,rfl,h3,h4⟩:=RVs.cons_iff h2
   rw[RVs.nil_iff h4]
   refine cH (cf hd R h1) fun a us h_p=>?_;obtain rfl:=h_p.1;have hp:=h_p.2.1;have hr:=h_p.2.2.1;have hl:=h_p.2.2.2
   exact rU e R hp hr hl h3
 | _=>exact nso e
end
theorem eK:typeLookup (.type "list") (dunderI "add")=pure (some (.builtin "list.__iadd__")):=F.slot_list_iadd.lookup
theorem fg:isSeqSlot (some (.builtin "list.__iadd__"))=true:=by decide +kernel
theorem mW:fillsInplaceSlot (.type "list") "add" true=pure false:=by
 show (typeLookup (.type "list") (dunderI "add")>>=fun fi=>pure (fi.isSome&&!isSeqSlot fi))=_
 rw[eK,pure_bind,fg];rfl
theorem jr:seqSlot? (.type "list") (dunderI "add")=pure (some (.builtin "list.__iadd__")):=PySem.seqSlot_of eK fg
noncomputable def opI(op:Operator)(x y:Int):Option V:=if op=.Add then some (.int (x+y)) else if op=.Sub then some (.int (x - y)) else none
noncomputable def opS(op:Operator)(x y:List Nat):Option V:=if op=.Add/\x.length+y.length<=lim then some (.str (x++y)) else none
noncomputable def bY1(op:Operator)(a b:V):Option V:=match a with
 | .int x=>(vI b).bind (opI op x)
 | .str x=>(vS b).bind (opS op x)
 | _=>none
section
variable {G:Wd} {A:Around} {C C':Cx} {env cenv:Env} {W W':List Addr} {η η' η₁ η₂ bi:ab} {σ σ' σ₁ σ₂ aj σ₄ bR:List AO} {ρ ρ' aa:Rho} {s s' am aA:Shared}
theorem r8{op:Operator}{a b v:V}(e:bY1 op a b=some v):On G A (fun | [x,y]=>inplaceOp op x y | _=>pure .none) σ [a,b] v σ:=On.two fun ρ s bz b6 R av aF ht=>by
 cases a with
 | int x =>
  refine tj e fun y hy e=>?_
  subst hy
  obtain ⟨t,rfl⟩:=RV.int_iff av
  obtain ⟨u,rfl⟩:=RV.int_iff aF
  by_cases h1:op=.Add
  ·replace e:=(if_pos h1).symm.trans e
   exact h1▸siX e▸PyProof.Rows.iadd_int (aS R)
  ·have h:=bh ((if_neg h1).symm.trans e)
   exact h.1▸siX h.2▸PyProof.Rows.isub_int (aS R)
 | str x =>
  refine th e fun y hy e=>?_
  subst hy
  have h:=bh e
  rw[← siX h.2,h.1.1]
  obtain ⟨_,t,rfl⟩:=RV.str_iff av
  obtain ⟨_,u,rfl⟩:=RV.str_iff aF
  refine SB.iadd (fun t' k=>cG R (by rw[List.length_append];exact h.1.2) ?_) (by rw[bx,bx];exact Nat.le_trans h.1.2 (by decide))
  show (_++_:Array Nat).toList=_
  simp
 | _=>exact nso e
theorem ey{k:Nat}{l:List V}{p:Addr×Addr}(R:Rel G σ ρ s)(hp:ρ.st[k]?=some p)(hσ:σ[k]?=some ⟨l,none⟩):∃ vs n,s.heap.get? p.1=some { cls:=.type "list",data:=.seq vs n }/\RVs s.heap ρ l vs.toList/\l.length<=lim:=by
 refine byQ fun Q kQ=>?_
 have ro:=R.obj k p _ hp hσ
 dsimp only[RO] at ro
 obtain ⟨hlim,e2,vs,⟨n,hpl⟩,hr⟩:=ro
 refine kQ ?_
 exact mU vs n hpl hr hlim
theorem e8{k:Nat}{l l':List V}{p:Addr×Addr}{h':Heap}{t:Nat}{us:Array Value}(R:Rel G σ ρ s)(hp:ρ.st[k]?=some p)(hσ:σ[k]?=some ⟨l,none⟩)(hs:Heap.ExtBut p.1 s.heap h')(hl:l'.length<=lim)
  (hpl:h'.PlainList p.1 us) (hr:KeepV s.heap ρ h' ρ->RVs h' ρ l' us.toList):Step G ρ s ρ { s with heap:=h',toks:=t } (σ.set k ⟨l',none⟩) :=
 Step.write R hp hσ hs fun K=>by
  have ro:=R.obj k p _ hp hσ
  dsimp only[RO] at ro ⊢
  exact⟨hl,ro.2.1,us,hpl,hr K⟩
theorem nO{k:Nat}{l:List V}{v:V}(hσ:σ[k]?=some ⟨l,none⟩)(hl:l.length<lim):On G A (fun cvs=>call (.builtin "list.append") cvs) σ [.ref k,v] .none (σ.set k ⟨l++[v],none⟩):=fun ρ s cvs R r ht=>by
 obtain ⟨c,r',rfl,h1,h2⟩:=RVs.cons_iff r
 refine cH (RVs.cons_iff h2) fun c2 r2 h_p=>?_;obtain rfl:=h_p.1;have h3:=h_p.2.1;have h4:=h_p.2.2
 refine(RVs.nil_iff h4)▸?_
 refine a9 (RV.ref_iff h1) fun p h_p=>?_;have hp:=h_p.1;obtain rfl:=h_p.2
 refine cH (ey R hp hσ) fun vs n h_p=>?_;have hpl:=h_p.1;have hr:=h_p.2.1;have hlim:=h_p.2.2
 have hsz:vs.size=l.length:=by have:=RVs.length hr;simpa using this
 refine wpAny_list_append_plain ⟨n,hpl⟩ (fun h' hp' hs'=>⟨ρ,e8 R hp hσ hs'.extBut (by rw[List.length_append];exact hl) hp' fun K=>?_,RV.none_⟩) (by rw[hsz];exact Nat.le_trans hlim (by decide))
 rw[Array.toList_push]
 exact RVs.append (RVs.mono K _ _ hr) (RVs.cons (RV.mono K _ _ h3) RVs.nil)
theorem rT{k:Nat}{l:List V}{v:V}(hσ:σ[k]?=some ⟨l++[v],none⟩):On G A (fun cvs=>call (.builtin "list.pop") cvs) σ [.ref k] v (σ.set k ⟨l,none⟩):=fun ρ s cvs R r ht=>by
 obtain ⟨c,r',rfl,h1,h2⟩:=RVs.cons_iff r
 refine(RVs.nil_iff h2)▸?_
 refine byQ fun Q kQ=>?_
 obtain ⟨p,hp,rfl⟩:=RV.ref_iff h1
 refine cH (ey R hp hσ) fun vs n h_p=>?_;have hpl:=h_p.1;have hr:=h_p.2.1;have hlim:=h_p.2.2
 have hsz:vs.size=l.length+1:=by have:=RVs.length hr;simpa using this
 have hlast:(l++[v])[l.length]?=some v:=by simp
 obtain ⟨c,h_p⟩:=RVs.get hr hlast;have hc:=h_p.1;have hv:=h_p.2
 have hy:vs[vs.size - 1]?=some c:=by rw[hsz];simpa using hc
 have hu:(Obj.mapSeq (fun xs=>xs.eraseIdxIfInBounds (vs.size - 1)) { cls:=.type "list",data:=.seq vs n })={ cls:=.type "list",data:=.seq (vs.eraseIdxIfInBounds (vs.size - 1)) (if (vs.eraseIdxIfInBounds (vs.size - 1)).size==vs.size then n else n+1) }:=rfl
 refine kQ ?_
 refine call_meets F.slot_list_pop ⟨_,hpl,rfl⟩ F.entry_list_pop (F.args_list_pop_1 _) (PySem.MeetsSeq.list_pop_last p.1 vs n c hy (by rw[hsz];simp at hlim;exact Nat.le_trans hlim (by decide))) ⟨hpl,?_⟩
 have hg:(s.heap.update p.1 (Obj.mapSeq fun xs=>xs.eraseIdxIfInBounds (vs.size - 1))).get? p.1=some { cls:=.type "list",data:=.seq (vs.eraseIdxIfInBounds (vs.size - 1)) (if (vs.eraseIdxIfInBounds (vs.size - 1)).size==vs.size then n else n+1) }:=by
  rw[Heap.get?_update_self _ hpl (by rw[hu];rfl),hu]
 have st:∀ t,Step G ρ s ρ { s with heap:=s.heap.update p.1 (Obj.mapSeq fun xs=>xs.eraseIdxIfInBounds (vs.size - 1)),toks:=t } (σ.set k ⟨l,none⟩):=fun t =>
  e8 (t:=t) R hp hσ (Heap.SameBut.update ..).extBut (by simp at hlim;exact Nat.le_of_lt ‹_›) ⟨_,hg⟩ fun K=>by
   have h5:(vs.eraseIdxIfInBounds (vs.size - 1)).toList=vs.toList.take l.length:=by
    rw[hsz]
    have:vs.toList.length=l.length+1:=by exact hsz
    simp only[Nat.add_sub_cancel,Array.eraseIdxIfInBounds]
    rw[dif_pos (by exact Nat.le_of_eq (Eq.symm ‹_›)),Array.toList_eraseIdx,List.eraseIdx_eq_take_drop_succ,List.drop_of_length_le (by exact Nat.le_of_eq ‹_›),List.append_nil]
   rw[h5]
   have:=RVs.take l.length (RVs.mono K _ _ hr)
   simpa using this
 have K:=Step.keepV R (st s.toks)
 exact⟨ρ,st s.toks,RV.mono K _ _ hv⟩
theorem vM{k:Nat}{l l':List V}{i:Int}{j:Nat}(hσ:σ[k]?=some ⟨l,none⟩)(hi:-1000000000<=i/\i<=1000000000)(hj:seqIndex? i l.length=some j)(hl':l'=l.eraseIdx j):Od G A σ (.ref k) (.int i) (σ.set k ⟨l',none⟩):=fun ρ s bz b6 R av aF ht=>by
 subst hl'
 obtain ⟨p,hp,rfl⟩:=RV.ref_iff av
 obtain ⟨t,rfl⟩:=RV.int_iff aF
 refine cH (ey R hp hσ) fun vs n h_p=>?_;have hpl:=h_p.1;have hr:=h_p.2.1;have hlim:=h_p.2.2
 have hsz:vs.size=l.length:=by have:=RVs.length hr;simpa using this
 refine PySem.wpAny_delItem_plain ⟨n,hpl⟩ ?_ (by rw[hsz];exact hj) (fun h' hp' hs'=>⟨ρ,e8 R hp hσ hs'.extBut (Nat.le_trans (List.length_eraseIdx_le l j) hlim) hp' fun K=>?_⟩) (by rw[hsz];exact Nat.le_trans hlim (by decide))
 ·by_cases h0:0<=i
  ·exact fitsIndex_of h0 (by omega)
  ·exact fitsIndex_neg (by exact Int.not_le.mp ‹_›) (by omega)
 ·have hj':j<vs.size:=by
   dsimp only[seqIndex?] at hj
   by_cases h0:i<0
   ·simp only[h0,if_true] at hj
    split at hj
    ·rename_i hh
     simp only[Bool.and_eq_true,decide_eq_true_eq] at hh
     obtain rfl:=siX hj;omega
    ·exact nso hj
   ·simp only[h0,if_false] at hj
    split at hj
    ·rename_i hh
     simp only[Bool.and_eq_true,decide_eq_true_eq] at hh
     obtain rfl:=siX hj;omega
    ·exact nso hj
  have h5:(vs.eraseIdxIfInBounds j).toList=vs.toList.eraseIdx j:=by
   simp only[Array.eraseIdxIfInBounds]
   rw[dif_pos hj',Array.toList_eraseIdx]
  rw[h5,List.eraseIdx_eq_take_drop_succ,List.eraseIdx_eq_take_drop_succ]
  have q:=RVs.mono K _ _ hr
  exact RVs.append (RVs.take j q) (RVs.drop (j+1) q)
theorem iL{k:Nat}{l l2:List V}{v:V}(hσ:σ[k]?=some ⟨l,none⟩)(hv:der σ v=.lst l2)(hl:l.length+l2.length<=lim):On G A (fun | [x,y]=>inplaceOp .Add x y | _=>pure .none) σ [.ref k,v] (.ref k) (σ.set k ⟨l++l2,none⟩):=On.two fun ρ s bz b6 R av aF ht=>by
 refine byQ fun Q kQ=>?_
 obtain ⟨p,hp,rfl⟩:=RV.ref_iff av
 refine cH (ey R hp hσ) fun vs n h_p=>?_;have hpl:=h_p.1;have hr:=h_p.2.1;have hlim:=h_p.2.2
 obtain ⟨b,us,rfl,⟨n2,hb⟩,hr2,hl2⟩:=cf hv R aF
 have hsz:vs.size=l.length:=by have:=RVs.length hr;simpa using this
 have hsz2:us.size=l2.length:=by have:=RVs.length hr2;simpa using this
 have h4:sizeLine=16777216:=rfl
 unfold lim at hl
 refine kQ ?_
 dsimp only[inplaceOp]
 refine wpAny_holding ?_
 refine wpAny_bind (wpAny_typeOf ⟨_,hpl,rfl⟩ (wpAny_bind (wpAny_of_eq mW ?_)))
 show wpAny _ A (if false=true then _ else _) _ _ s
 refine(if_neg Bool.false_ne_true)▸?_
 refine wpAny_bind (wpAny_binaryOp1_none (nm:="add") ⟨_,hpl,rfl⟩ ⟨_,hb,rfl⟩ noFill_list_add ?_)
 refine wpAny_bind (wpAny_of_eq jr ?_)
 refine wpAny_bind (wpAny_rule ?_)
 refine call_meets F.slot_list_iadd (show s.TypeIs (.ref p.1) "list" from ⟨_,hpl,rfl⟩) F.entry_list_iadd (F.args_list_iadd_2 _ _) (AutoSeq1.list___iadd___list_list_0 p.1 vs n b us n2 ?_ (by omega) (by omega)) ⟨hpl,hb,?_⟩
 ·simp only[Bool.and_eq_true,Bool.not_eq_true',Builtin.List.listTooLong,decide_eq_true_eq]
  omega
 have hu:(Obj.mapSeq (fun xs=>xs++us) { cls:=.type "list",data:=.seq vs n })={ cls:=.type "list",data:=.seq (vs++us) (if (vs++us).size==vs.size then n else n+1) }:=rfl
 have hg:(s.heap.update p.1 (Obj.mapSeq fun xs=>xs++us)).get? p.1=some { cls:=.type "list",data:=.seq (vs++us) (if (vs++us).size==vs.size then n else n+1) }:=by
  rw[Heap.get?_update_self _ hpl (by rw[hu];rfl),hu]
 have st:∀ t,Step G ρ s ρ { s with heap:=s.heap.update p.1 (Obj.mapSeq fun xs=>xs++us),toks:=t } (σ.set k ⟨l++l2,none⟩):=fun t =>
  e8 (t:=t) R hp hσ (Heap.SameBut.update ..).extBut (by rw[List.length_append];unfold lim;exact hl) ⟨_,hg⟩ fun K=>by
   rw[Array.toList_append]
   exact RVs.append (RVs.mono K _ _ hr) (RVs.mono K _ _ hr2)
 exact⟨ρ,st s.toks,by delta RV;exact⟨p,hp,rfl⟩⟩
theorem hV{h:Heap}{ρ:Rho}:∀ (zs:List Str) (tk:Nat),(∀ z∈zs,z.cps.toList.length<=lim)->RVs h ρ (zs.map fun z=>.str z.cps.toList) (strsFrom tk zs)
 | [],_,_=>RVs.nil
 | z::r,tk,hz=>RVs.cons (RV.str' (hz z List.mem_cons_self) rfl) (hV r (tk+1) fun y hy=>hz y (List.mem_cons_of_mem _ hy))
theorem qD{l:List V}{vs:List Value}{k:Nat}(R:Rel G σ ρ s)(r:RVs s.heap ρ l vs)(hl:l.length<=lim) :
  PE G ρ s (σ++[⟨l,none⟩]) (.ref σ.length) (.ref s.heap.objs.size) { s with heap:=s.heap.push { cls:=.type "list",data:=.seq vs.toArray },toks:=k }:=by
 refine⟨⟨ρ.st++[(s.heap.objs.size,s.heap.objs.size)],ρ.hid⟩,Step.add R (fun b o e=>Heap.get?_push_of_some _ e) ⟨_,_,rfl⟩ (aE _) (aE _) fun K=>?_,?_⟩
 ·dsimp only[RO]
  exact⟨hl,rfl,_,⟨_,Heap.get?_push_size _ rfl⟩,RVs.mono K _ _ (by exact r)⟩
 ·delta RV
  exact⟨(s.heap.objs.size,s.heap.objs.size),by rw[← R.len];simp,rfl⟩
theorem oy{x y:List Nat}(hy:y≠[])(hl:(Txt.split (S' x) (S' y)).length<=lim)(hc:∀ z∈Txt.split (S' x) (S' y),z.cps.toList.length<=lim) :
  On G A (fun cvs=>call (.builtin "str.split") cvs) σ [.str x,.str y] (.ref σ.length) (σ++[⟨(Txt.split (S' x) (S' y)).map fun z=>.str z.cps.toList,none⟩]):=fun ρ s cvs R r ht=>by
 obtain ⟨c,r',rfl,h1,h2⟩:=RVs.cons_iff r
 obtain ⟨c2,r2,rfl,h3,h4⟩:=RVs.cons_iff h2
 refine(RVs.nil_iff h4)▸?_
 obtain ⟨hxl,t,rfl⟩:=RV.str_iff h1
 obtain ⟨_,u,rfl⟩:=RV.str_iff h3
 have hy':((S' y).length==0)=false:=by rw[bx];cases y with
  | nil=>exact absurd rfl hy
  | cons a b=>rfl
 have hone:∀ (hx:Txt.split (S' x) (S' y)=[S' x]) (k:Nat),PE G ρ s (σ++[⟨(Txt.split (S' x) (S' y)).map fun z=>.str z.cps.toList,none⟩]) (.ref σ.length) (.ref s.heap.objs.size) { s with heap:=s.heap.push { cls:=.type "list",data:=.seq [Value.str (S' x) t].toArray },toks:=k }:=fun hx k=>by
  refine qD R ?_ (by rw[List.length_map];exact hl)
  refine(hx)▸?_
  exact RVs.cons (RV.str' (by exact hxl) rfl) RVs.nil
 cases h5:(decide ((S' x).length<(S' y).length) || decide (strKind (S' x)<strKind (S' y)))
 ·cases hf:(occurrences (S' x) (S' y) 0 (S' x).length ((S' x).length+1)).isEmpty
  ·have es:Txt.split (S' x) (S' y)=partsBetween (S' x) (occurrences (S' x) (S' y) 0 (S' x).length ((S' x).length+1)) (S' y).length:=by
    unfold Txt.split
    rw[if_neg (ne_true_of_eq_false h5),if_neg (ne_true_of_eq_false hf)]
   refine call_meets F.slot_str_split (typeIs_str _ _ _) F.entry_str_split (F.args_str_split_2 _ _) (meets_str_split_sep (S' x) (S' y) t u h5 hy' hf (by rw[bx];exact Nat.le_trans hxl (by decide)) (by rw[← es];exact Nat.le_trans hl (by decide))) ?_
   have:=qD (k:=s.toks+(partsBetween (S' x) (occurrences (S' x) (S' y) 0 (S' x).length ((S' x).length+1)) (S' y).length).length) R (hV (h:=s.heap) (ρ:=ρ) _ s.toks hc) (by rw[List.length_map];exact hl)
   rw[es] at this ⊢
   exact this
  ·have es:Txt.split (S' x) (S' y)=[S' x]:=by
    unfold Txt.split
    rw[if_neg (ne_true_of_eq_false h5),if_pos hf]
   exact call_meets F.slot_str_split (typeIs_str _ _ _) F.entry_str_split (F.args_str_split_2 _ _) (meets_str_split_not_found (S' x) (S' y) t u h5 hy' hf) (hone es s.toks)
 ·refine byQ fun Q kQ=>?_
  have es:Txt.split (S' x) (S' y)=[S' x]:=by
   unfold Txt.split
   rw[if_pos h5]
  refine kQ ?_
  exact call_meets F.slot_str_split (typeIs_str _ _ _) F.entry_str_split (F.args_str_split_2 _ _) (meets_str_split_cannot_occur (S' x) (S' y) t u h5) (hone es s.toks)
theorem kR{x y z:List Nat}{u v:Tok}{t:Tok}(hu:u≠0)(hv:v≠0)(huv:u≠v)(hyz:y≠z)(hb:x.length+(x.length+1)*z.length<=16000000)(hl:(Txt.replace (S' x) (S' y) (S' z)).cps.toList.length<=lim)(R:Rel G σ ρ s) :
  wpAny (model G.prog G.w) A (call (.builtin "str.replace") [.str (S' x) t,.str (S' y) u,.str (S' z) v]) (PE G ρ s σ (.str (Txt.replace (S' x) (S' y) (S' z)).cps.toList)) No s:=by
 refine SC.replace hu hv huv ?_ (by rw[bx,bx];exact Nat.le_trans ‹_› (by decide)) fun t' k=>cG R hl rfl
 rw[zE]
 exact beq_false_of_ne hyz
end
structure Room (A:Around) (n:Nat):Prop where
 handled:A.handled=none
 depth:A.depth+n<recursionLimit
 units:A.units+4*n+12<cLine
theorem Room.deeper{A:Around}{n:Nat}(h:Room A (n+1))(env:Env):Room (A.deeper env) n :=
 ⟨h.handled,by have:=h.depth;show A.depth+1+n<recursionLimit;lia,by have:=h.units;show A.units+3+4*n+12<cLine;lia⟩
theorem Room.less{A:Around}{n m:Nat}(h:Room A n)(hm:m<=n):Room A m:=⟨h.handled,by have:=h.depth;lia,by have:=h.units;lia⟩
theorem ki{kindOf:Str->Option NameKind}{n:Str}:∀ (binds:List (Str×Value)) (m:Str->Option Value),(∀ c,(n,c) ∉ binds)->bindL kindOf binds m n=m n
 | [],_,_=>rfl
 | (k,v)::r,m,h=>by
  dsimp only[bindL]
  refine(ki r _ fun c hc=>h c (List.mem_cons_of_mem _ hc))▸?_
  split
  ·have:n≠k:=by rintro rfl;exact h v List.mem_cons_self
   exact if_neg this
  ·rfl
theorem kj{kindOf:Str->Option NameKind}{n:Str}:∀ (binds:List (Str×Value)) (m:Str->Option Value),(∀ c,(n,c) ∉ binds)->bindC kindOf binds m n=m n
 | [],_,_=>rfl
 | (k,v)::r,m,h=>by
  dsimp only[bindC]
  refine(kj r _ fun c hc=>h c (List.mem_cons_of_mem _ hc))▸?_
  split
  ·rfl
  ·have:n≠k:=by rintro rfl;exact h v List.mem_cons_self
   exact if_neg this
theorem eN{n:Str}:∀ (ns:List Str) (cvs:List Value),n ∉ ns->∀ c,(n,c) ∉ ns.zip cvs
 | [],_,_,_=>by simp
 | _::_,[],_,_=>by simp
 | k::ns,v::cvs,h,c=>by
  rw[List.zip_cons_cons,List.mem_cons]
  rintro (e | hm)
  ·cases e;exact h List.mem_cons_self
  ·exact eN ns cvs (fun q=>h (List.mem_cons_of_mem _ q)) c hm
noncomputable def dU:List Str->Bool
 | []=>true
 | x::r=>!r.contains x&&dU r
theorem nH{kindOf:Str->Option NameKind}{n:Str}{c:Value}(hk:kindOf n=some .local):∀ (ns:List Str) (cvs:List Value) (m:Str->Option Value) (j:Nat),dU ns=true->ns[j]?=some n->cvs[j]?=some c->bindL kindOf (ns.zip cvs) m n=some c
 | [],_,_,j,_,h,_=>by exact nso h
 | _::_,[],_,j,_,_,h=>by exact nso h
 | k::ns,v::cvs,m,0,hd,hn,hc=>by
  simp at hn hc
  subst hn hc
  obtain ⟨h1,h2⟩:=Bool.and_eq_true_iff.mp (show (!ns.contains k&&dU ns)=true from hd)
  rw[List.zip_cons_cons]
  dsimp only[bindL]
  rw[ki _ _ (eN ns cvs (by simpa using h1)),if_pos hk]
  simp
 | k::ns,v::cvs,m,j+1,hd,hn,hc=>by
  obtain ⟨h1,h2⟩:=Bool.and_eq_true_iff.mp (show (!ns.contains k&&dU ns)=true from hd)
  rw[List.zip_cons_cons]
  dsimp only[bindL]
  exact nH hk ns cvs _ j h2 (by simpa using hn) (by simpa using hc)
theorem nI{kindOf:Str->Option NameKind}{n:Str}{c:Value}(hk:kindOf n≠some .local):∀ (ns:List Str) (cvs:List Value) (m:Str->Option Value) (j:Nat),dU ns=true->ns[j]?=some n->cvs[j]?=some c->bindC kindOf (ns.zip cvs) m n=some c
 | [],_,_,j,_,h,_=>by exact nso h
 | _::_,[],_,j,_,_,h=>by exact nso h
 | k::ns,v::cvs,m,0,hd,hn,hc=>by
  simp at hn hc
  subst hn hc
  obtain ⟨h1,h2⟩:=Bool.and_eq_true_iff.mp (show (!ns.contains k&&dU ns)=true from hd)
  rw[List.zip_cons_cons]
  dsimp only[bindC]
  rw[kj _ _ (eN ns cvs (by simpa using h1)),if_neg hk]
  simp
 | k::ns,v::cvs,m,j+1,hd,hn,hc=>by
  obtain ⟨h1,h2⟩:=Bool.and_eq_true_iff.mp (show (!ns.contains k&&dU ns)=true from hd)
  rw[List.zip_cons_cons]
  dsimp only[bindC]
  exact nI hk ns cvs _ j h2 (by simpa using hn) (by simpa using hc)
noncomputable def cQ(C:Cx)(ns:List Str):Bool :=
 C.ok&&dU ns&&(C.vars.all fun x=>x.own&&(match ns[x.slot]? with | some n=>n==x.name | none=>true)&&((match C.kind x.name with | some .cell=>C.scope.names.contains (x.name,NameKind.cell) | _=>true))) &&
  (ns.all fun n=>C.vars.any fun x=>x.name==n)
noncomputable def aO(vs:List V)(k:Nat):ab:=vs.map some++List.replicate k none
theorem rz{vs:List V}{k i:Nat}{v:V}(h:(aO vs k)[i]?=some (some v)):vs[i]?=some v:=by
 unfold aO at h
 by_cases hi:i<vs.length
 ·rw[List.getElem?_append_left (by simpa using hi),List.getElem?_map] at h
  cases hv:vs[i]? with
  | none=>replace h:=(hv)▸h;exact nso h
  | some w=>replace h:=(hv)▸h;cases h;rfl
 ·refine byQ fun Q kQ=>?_
  rw[List.getElem?_append_right (by simpa using hi)] at h
  replace h:=(List.getElem?_replicate)▸h
  refine kQ ?_
  split at h <;> cases h
structure Def (G:Wd) (a:Addr) (fd:FuncData) (body:List Stmt) (C:Cx) (ns:List Str):Prop where
 obj:∃ o,G.s₀.heap.get? a=some o/\o.data=.func fd
 la:a ∉ G.loose
 nolimit:∃ mc,G.s₀.heap.Ns cStatics mc/\mc "sys.recursionlimit"=none
 ls:cStatics ∉ G.loose
 code:∃ c o vs t,fd.code=.ref c/\c ∉ G.loose/\G.s₀.heap.get? c=some o/\o.data=.fields vs/\vs[1]?=some (.str fd.qualname t)
 body:fd.body=.stmts body
 clo:fd.closure=[]
 scope:fd.scope=C.scope
 glob:fd.globals=mainGlobals
 blt:fd.builtins=builtinsNs
 co:fd.scope.isCoroutine=false
 gen:fd.scope.isGenerator=false
 bind:∀ cvs:List Value,cvs.length=ns.length->bindArgs fd ⟨cvs,[]⟩=pure (ns.zip cvs)
 ok:cQ C ns=true
section
variable {G:Wd} {A:Around} {C C':Cx} {env cenv:Env} {W W':List Addr} {η η' η₁ η₂ bi:ab} {σ σ' σ₁ σ₂ aj σ₄ bR:List AO} {ρ ρ' aa:Rho} {s s' am aA:Shared}
theorem br{C:Cx}{ns:List Str}(h:cQ C ns=true):C.ok=true/\dU ns=true /\
  (∀ y∈C.vars,(∀ n,ns[y.slot]?=some n->n=y.name)/\(C.kind y.name=some .cell->(y.name,NameKind.cell)∈C.scope.names))/\∀ n∈ns,∃ y,y∈C.vars/\y.name=n:=by
 have h1:=ak h
 have h2:=ak h1.1
 have h3:=ak h2.1
 refine⟨h3.1,h3.2,fun y hy=>?_,fun n hn=>aI (List.any_eq_true.mp (List.all_eq_true.mp h1.2 n hn)) fun y hy e=>⟨y,hy,beq_iff_eq.mp e⟩⟩
 have q:=ak (List.all_eq_true.mp h2.2 y hy)
 refine⟨fun n hn=>?_,fun hk=>?_⟩
 ·have:=(ak q.1).2
  rw[hn] at this
  exact beq_iff_eq.mp this
 ·have:=q.2
  rw[hk] at this
  exact List.contains_iff_mem.mp this
theorem kL{ns:List Str}{vs:List V}{k:Nat}{v:V}{y:Var}(hP:∀ n,ns[y.slot]?=some n->n=y.name)(hlen:vs.length=ns.length)(hv:(aO vs k)[y.slot]?=some (some v)):vs[y.slot]?=some v/\ns[y.slot]?=some y.name :=
 have hv':=rz hv
 have e:=List.getElem?_eq_getElem (l:=ns) (hlen▸(List.getElem?_eq_some_iff.mp hv').1)
 ⟨hv',e.trans (congrArg some (hP _ e))⟩
theorem mR(R:Rel G σ ρ s)(h:∃ mc,G.s₀.heap.Ns cStatics mc/\mc "sys.recursionlimit"=none)(hl:cStatics ∉ G.loose):s.heap.NoLimit:=aI h fun mc hm hn=>⟨mc,Ns.of_base R hm hl,hn⟩
theorem q9(R:Rel G σ ρ s){fd:FuncData}(h:∃ c o vs t,fd.code=.ref c/\c ∉ G.loose/\G.s₀.heap.get? c=some o/\o.data=.fields vs/\vs[1]?=some (.str fd.qualname t)):s.heap.CodeRec fd.code fd.qualname :=
 h61 h fun c oc us t e1 e2 e3 e4 e5=>ih1 c oc us t e1 (R.keep c oc e2 e3) e4 e5
noncomputable def Wn(C:Cx)(env:Env):List Addr:=env.locals::C.vars.filterMap fun y=>env.cells.lookup y.name
structure EnvIs (C:Cx) (env:Env) (L:Addr):Prop where
 sc:env.scope=C.scope
 glob:env.globals=mainGlobals
 blt:env.builtins=builtinsNs
 lo:env.locals=L
 ce:env.cells=cellsFrom (L+1) C.scope.names []
 kd:∀ y,env.kindOf y=C.kind y
theorem c41{ns:List Str}{vs:List V}{k:Nat}{cvs:List Value}{m cm:Str->Option Value}(P:cQ C ns=true)(he:EnvIs C env s.heap.objs.size)(hlen:vs.length=ns.length)(R:Rel G σ ρ s)(r:RVs am.heap ρ vs cvs)
  (hm:m=bindL env.kindOf (ns.zip cvs) fun _=>none) (hcm:cm=bindC env.kindOf (ns.zip cvs) fun _=>none)
  (x:InCallC s env.locals m env.cells cm am):(∀ b∈Wn C env,s.heap.get? b=none)/\RE G C env (Wn C env) (aO vs k) ρ am:=by
 refine av1 (br P) fun hCok hnd hvars _=>?_
 have cellOf:∀ y∈C.vars,C.kind y.name=some .cell->∃ c,env.cells.lookup y.name=some c:=fun y hy hk=>he.ce▸i2 _ _ [] (.inl ((hvars y hy).2 hk))
 have up:∀ {n c},env.cells.lookup n=some c->s.heap.get? c=none:=fun h=>bL (he.lo▸Nat.le_of_lt (x.above _ _ (mem_of_lookup h)))
 have inW:∀ b∈Wn C env,s.heap.get? b=none:=fun b hb=>Or.elim (List.mem_cons.mp hb) (fun e=>bL (e▸Nat.le_of_eq he.lo.symm)) fun hb=>aI (List.mem_filterMap.mp hb) fun y _ h=>up h
 refine⟨inW,hCok,he.sc,he.glob,he.blt,List.mem_cons_self,fun b hb=>cI R (inW b hb),fun b hb=>Or.elim (List.mem_cons.mp hb) (fun e=>?_) fun hb=>aI (List.mem_filterMap.mp hb) fun y _ h=>?_,⟨m,x.toInCall.ns,fun y hy hk v hv=>?_⟩,
  fun y hy hk=>a9 (cellOf y hy hk) fun c hc=>?_,fun y hy z hz _ _ c h1 h2=>name_of_addr x.apart (mem_of_lookup h1) (mem_of_lookup h2)⟩
 ·exact uM x.toInCall.ns fun o es ep ho hd _=>⟨o,e▸ho,Solid.no_dict hd⟩
 ·exact aI (x.cell y.name b h) fun o ho hd=>⟨o,ho,Solid.no_cell hd⟩
 ·have q:=kL (hvars y hy).1 hlen hv
  exact aI (RVs.get r q.1) fun c hc hr=>⟨c,hm▸nH (by rw[he.kd];exact hk) ns cvs _ y.slot hnd q.2 hc,hr⟩
 ·refine yZ c _ hc (x.cell y.name c hc) (fun _=>List.mem_cons_of_mem _ (List.mem_filterMap.mpr ⟨y,hy,hc⟩)) (cI R (up hc)).1 fun v hv=>?_
  have q:=kL (hvars y hy).1 hlen hv
  exact aI (RVs.get r q.1) fun c' hc' hr=>⟨c',hcm▸nI (by rw[he.kd,hk];decide) ns cvs _ y.slot hnd q.2 hc',hr⟩
theorem vN{ns:List Str}{cvs:List Value}{n:Nat}{sc:Scope}(P:cQ C ns=true)(hs:sc=C.scope):∀ x∈ns.zip cvs,sc.names.lookup x.1=some .local\/(sc.names.lookup x.1=some .cell/\((cellsFrom n sc.names []).lookup x.1).isSome=true):=fun x hx=>by
 subst hs
 refine av1 (br P) fun hCok _ hvars hpar=>aI (hpar x.1 (List.of_mem_zip (a:=x.1) (b:=x.2) hx).1) fun y hy e=>?_
 refine e▸Or.elim ((Cx.ok_parts hCok).2 y hy).1 .inl fun h=>.inr ⟨h,?_⟩
 exact a9 (i2 C.scope.names n [] (.inl ((hvars y hy).2 h))) fun c hc=>hc▸rfl
theorem On.def{a:Addr}{fd:FuncData}{body:List Stmt}{C:Cx}{ns:List Str}{vs:List V}{k n:Nat}{fl:Fl}{v:V}{η':ab}(D:Def G a fd body C ns)(hr:Room A (n+1))(hlen:vs.length=ns.length)
  (hf:(fl=.ret v)\/(fl=.next/\v=.none))
  (H:∀ A' env W,Room A' n->Ess G A' C env W body σ (aO vs k) fl σ' η'):On G A (fun cvs=>call (.ref a) cvs) σ vs v σ':=fun ρ s cvs R r ht=>by
 refine aI D.obj fun o hob hd=>?_
 have hcl:cvs.length=ns.length:=(RVs.length r).trans hlen
 have hkf:fd.scope.kind=.function:=D.scope▸(Cx.ok_parts (br D.ok).1).1
 refine wpAny_call (codeAny_call_function (Nat.lt_of_le_of_lt (Nat.le_add_right _ _) hr.depth) (R.keep a o D.la hob) hd D.co D.gen D.body (q9 R D.code) ?_)
 rw[D.bind cvs hcl,D.clo]
 refine wpAny_pure (wpAny_with_toks (n:=s.toks) (Nat.le_refl _) (wpAny_newFunctionEnv_cells hkf (vN D.ok D.scope) fun env he am x hle=>⟨(mR R D.nolimit D.ls).keeps x.toInCall.keep,codeAny_func ?_⟩))
 have hE:EnvIs C env s.heap.objs.size:=by subst he;exact⟨D.scope,D.glob,D.blt,rfl,D.scope▸rfl,fun y=>show fd.scope.names.lookup y=C.scope.names.lookup y by rw[D.scope]⟩
 have N:=c41 (k:=k) D.ok hE hlen R (RVs.sameHeap x.toInCall.keep r) rfl rfl x
 have e61:Step G ρ s ρ am σ:=Step.grow R x.toInCall.keep x.toInCall.same
 refine(H _ _ _ (hr.deeper _)).use e61.rel N.2 (Nat.lt_of_lt_of_le ht hle) fun f aA au aq ci cU aF=>?_
 have S:Step G ρ s au aA σ':=(e61.toW.trans aq).drop fun b hb hne=>absurd (N.1 b hb) hne
 rcases hf with rfl | ⟨rfl,rfl⟩
 ·obtain ⟨cv,rfl,hv⟩:=aF
  exact⟨au,S,hv⟩
 ·have e:f=.next:=aF
  subst e
  exact⟨au,S,RV.none_⟩
end
structure Acc (G:Wd) (m:Str->Option Value):Prop where
 cls:∃ o cd,G.s₀.heap.get? G.cls=some o/\o.data=.cls cd/\cd.mro=[.ref G.cls,.type "list",.type "object"]/\cd.ns ∉ G.loose/\G.s₀.heap.Ns cd.ns m
 lc:G.cls ∉ G.loose
section
variable {G:Wd} {A:Around} {C C':Cx} {env cenv:Env} {W W':List Addr} {η η' η₁ η₂ bi:ab} {σ σ' σ₁ σ₂ aj σ₄ bR:List AO} {ρ ρ' aa:Rho} {s s' am aA:Shared} {m:Str->Option Value}
theorem ct(K:Acc G m)(R:Rel G σ ρ s):∃ o cd,s.heap.get? G.cls=some o/\o.data=.cls cd/\cd.mro=[.ref G.cls,.type "list",.type "object"]/\s.heap.Ns cd.ns m:=by
 refine cH (K.cls) fun o cd h_p=>?_;have h1:=h_p.1;have h2:=h_p.2.1;have h3:=h_p.2.2.1;have h4:=h_p.2.2.2.1;have h5:=h_p.2.2.2.2
 exact fw1 o cd (R.keep _ _ K.lc h1) h2 h3 (Ns.of_base R h5 h4)
theorem qL:mroOf (.type "list")=pure [.type "list",.type "object"]:=by
 have:builtinMro "list"=some [.type "list",.type "object"]:=by kernel_rfl
 unfold mroOf
 dsimp only
 rw[this]
theorem gf(K:Acc G m)(R:Rel G σ ρ s){name:Str}{r:Option Value}(h:(∃ v,m name=some v/\r=some v)\/(m name=none/\typeLookup (.type "list") name=pure r)){Q:Option Value->Shared->Prop}{E:Value->Shared->Prop}{M:Model}
  (hQ:Q r s):wpAny M A (typeLookup (.ref G.cls) name) Q E s:=by
 refine cH (ct K R) fun o cd h_p=>?_;have h1:=h_p.1;have h2:=h_p.2.1;have h3:=h_p.2.2.1;have h4:=h_p.2.2.2
 rw[typeLookup_eq]
 refine wpAny_bind (m:=mroOf (.ref G.cls)) ?_
 show wpAny M A (do return (← classData G.cls).mro) _ E s
 refine wpAny_bind ?_
 unfold classData
 refine wpAny_bind (wpAny_load h1 ?_)
 refine(h2)▸?_
 refine wpAny_pure (wpAny_pure ?_)
 rw[h3,lookupAlong_cons]
 refine wpAny_bind ?_
 show wpAny M A (do nsGet (← classData G.cls).ns name) _ E s
 refine wpAny_bind ?_
 unfold classData
 refine wpAny_bind (wpAny_load h1 ?_)
 refine(h2)▸?_
 refine wpAny_pure (wpAny_nsGet h4 ?_)
 rcases h with ⟨v,hv,rfl⟩ | ⟨hv,hl⟩
 ·exact(hv)▸(wpAny_pure hQ)
 ·refine(hv)▸?_
  have:lookupAlong [.type "list",.type "object"] name=pure r:=by rw[typeLookup_eq,qL] at hl;exact hl
  show wpAny M A (lookupAlong [.type "list",.type "object"] name) Q E s
  exact(this)▸(wpAny_pure hQ)
theorem bc{k:Nat}{l:List V}{i:Int}{p:Addr×Addr}(R:Rel G σ ρ s)(hp:ρ.st[k]?=some p)(hσ:σ[k]?=some ⟨l,some i⟩) :
  ∃ vs n d,s.heap.get? p.1=some ⟨.ref G.cls,some p.2,.seq vs n,#[]⟩/\RVs s.heap ρ l vs.toList/\s.heap.Ns p.2 d/\(∃ t,d "_initial_size"=some (.int i t))/\(∀ x:Str,x≠"_initial_size"->d x=none)/\l.length<=lim:=by
 refine byQ fun Q kQ=>?_
 have ro:=R.obj k p _ hp hσ
 dsimp only[RO] at ro
 obtain ⟨hlim,vs,n,d,h1,h2,h3,h4,h5⟩:=ro
 refine kQ ?_
 exact ii1 vs n d h1 h2 h3 h4 h5 hlim
theorem bG(K:Acc G m)(R:Rel G σ ρ s){a:Addr}{o:Obj}(ho:s.heap.get? a=some o)(hc:o.cls=.ref G.cls){name:Str}{r:Option Value}(h:(∃ v,m name=some v/\r=some v)\/(m name=none/\typeLookup (.type "list") name=pure r)){Q:Option Value->Shared->Prop}{E:Value->Shared->Prop}{M:Model}
  (hQ:Q r s):wpAny M A (specialOf (.ref a) name) Q E s:=by
 unfold specialOf
 refine wpAny_bind ?_
 show wpAny M A (typeOf (.ref a)) _ E s
 unfold typeOf
 refine wpAny_bind (wpAny_load ho (wpAny_pure ?_))
 refine(hc)▸?_
 exact gf K R h hQ
theorem l5(K:Acc G m)(R:Rel G σ ρ s){k:Nat}{l:List V}{i:Int}{p:Addr×Addr}(hp:ρ.st[k]?=some p)(hσ:σ[k]?=some ⟨l,some i⟩){name:Str}{f:Value}{tf:Value}{pl:Sem Bool}
  (hga:m "__getattribute__"=none) (hgt:m "__getattr__"=none) (h:(m name=some f)\/(m name=none/\typeLookup (.type "list") name=pure (some f)))
  (hn:name≠"_initial_size") (ht:∀ {Q:Value->Shared->Prop} {E:Value->Shared->Prop},Q tf s->wpAny (model G.prog G.w) A (typeOf f) Q E s) (htf:tf=.type "function"\/tf=.type "method_descriptor"\/tf=.type "wrapper_descriptor")
  {Q:Value×List Value->Shared->Prop} {E:Value->Shared->Prop} (hQ:Q (f,[.ref p.1]) s):wpAny (model G.prog G.w) A (getMethod (.ref p.1) name pl) Q E s:=by
 refine wg (bc R hp hσ) fun vs n d h1 h2 h3 h4 h5 h6=>?_
 refine a9 (F.plainAttrs_list.ga) fun g h_p=>?_;have hg:=h_p.1;have hcan:=h_p.2
 dsimp only[getMethod]
 refine wpAny_bind (bG K R h1 rfl (.inr ⟨hga,hg⟩) ?_)
 show wpAny _ A (if (Manifest.canonical g != "object.__getattribute__")=true then _ else _) Q E s
 rw[hcan,if_neg Bool.false_ne_true]
 refine wpAny_bind (bG K R h1 rfl (.inr ⟨hgt,F.plainAttrs_list.noGetattr⟩) ?_)
 show wpAny _ A (if (Option.isSome (none:Option Value))=true then _ else _) Q E s
 rw[if_neg (by decide)]
 refine wpAny_bind (bG K R h1 rfl (r:=some f) (by rcases h with h | h;exact .inl ⟨f,h,rfl⟩;exact .inr h) ?_)
 refine wpAny_bind (ht ?_)
 rw[if_neg (by rcases htf with rfl | rfl | rfl <;> decide)]
 refine wpAny_bind (wpAny_loadPart h1 ?_)
 show wpAny _ A (nsGet p.2 name>>=_) Q E s
 refine wpAny_bind (wpAny_nsGet h3 ?_)
 refine(h5 name hn)▸?_
 exact wpAny_bind (wpAny_rule (wpAny_pure hQ))
theorem ri(K:Acc G m){o:Expr}{name:Str}{apos pos:Pos}{args:List Expr}{k:Nat}{l:List V}{i:Int}{v:V}{vs:List V}{f tf:Value}(hs:b9 o=true)(hn:aH args=true)(hfew:args.length<29)(hline:(apos.endLine==pos.line)=true)
  (hga:m "__getattribute__"=none) (hgt:m "__getattr__"=none) (hf:(m name=some f)\/(m name=none/\typeLookup (.type "list") name=pure (some f)))
  (hni:name≠"_initial_size") (ht:∀ {s:Shared} {Q:Value->Shared->Prop} {E:Value->Shared->Prop},(∀ b o,b ∉ G.loose->G.s₀.heap.get? b=some o->s.heap.get? b=some o)->Q tf s->wpAny (model G.prog G.w) A (typeOf f) Q E s) (htf:tf=.type "function"\/tf=.type "method_descriptor"\/tf=.type "wrapper_descriptor")
  (dB:Ev G A C env W o σ η (.ref k) σ₁) (hσ:σ₁[k]?=some ⟨l,some i⟩) (cP:Evs G A C env W args σ₁ η vs σ₂)
  (hc:∀ ρ s c,Rel G σ₁ ρ s->RE G C env W η ρ s->0<s.toks->RV s.heap ρ (.ref k) c->wpAny (model G.prog G.w) A (callWith pos f [c] (backTo pos (starEach args env)) []) (PE G ρ s aj v) No s) :
  Ev G A C env W (.Call (.Attribute o name apos) args [] pos) σ η v aj:=fun ρ s R N htk=>by
 rw[arm_eval_Call,eD hs]
 refine wpAny_bind (dB.use R N htk fun bz am aa ah aJ aK av=>?_)
 refine a9 (RV.ref_iff av) fun p h_p=>?_;have hp:=h_p.1;obtain rfl:=h_p.2
 refine wpAny_bind (wpAny_standAt ?_)
 have hform:methodCallForm (args.length+([]:List Keyword).length) (backTo pos (starEach args env)) (backToKw pos (keywordEach [] env))=true:=by
  unfold methodCallForm
  rw[dZ hn]
  show (true&&true&&decide (args.length+0+0<30))=true
  simp;exact Nat.le_succ_of_le ‹_›
 have hpos:methodCallPos true o env apos pos=pure pos:=by unfold methodCallPos;simp [hline]
 dsimp only[methodCall]
 refine(hform)▸?_
 refine wpAny_bind (wpAny_holding ?_)
 show wpAny _ A (getMethod (.ref p.1) name _) _ _ am
 refine l5 K ah.rel hp hσ hga hgt hf hni (fun hq=>ht ah.rel.keep hq) htf ?_
 refine wpAny_bind (wpAny_of_eq hpos ?_)
 exact wpAny_mono (hc aa am _ ah.rel aJ aK av) ((by rintro cv aA ⟨au,aq,aF⟩;exact⟨au,ah.trans aq,aF⟩)) fun _ _ f=>f.elim
theorem Ev.accDef(K:Acc G m){o:Expr}{name:Str}{apos pos:Pos}{args:List Expr}{k:Nat}{l:List V}{i:Int}{v:V}{vs:List V}{fa:Addr}{fo:Obj}{fd:FuncData}(hs:b9 o=true)(hn:aH args=true)(hfew:args.length<29)(hline:(apos.endLine==pos.line)=true)
  (hga:m "__getattribute__"=none) (hgt:m "__getattr__"=none) (hf:m name=some (.ref fa)) (hni:name≠"_initial_size")
  (hb:G.s₀.heap.get? fa=some fo) (hl:fa ∉ G.loose) (hfd:fo.data=.func fd) (hfc:fo.cls=.type "function")
  (dB:Ev G A C env W o σ η (.ref k) σ₁) (hσ:σ₁[k]?=some ⟨l,some i⟩) (cP:Evs G A C env W args σ₁ η vs σ₂)
  (ho:On G A (fun cvs=>call (.ref fa) cvs) σ₂ (.ref k::vs) v aj):Ev G A C env W (.Call (.Attribute o name apos) args [] pos) σ η v aj:=by
 refine ri K hs hn hfew hline hga hgt (.inl hf) hni (tf:=.type "function") (fun hk hq=>?_) (.inl rfl) dB hσ cP fun ρ s c R N ht r=>?_
 ·unfold typeOf
  refine wpAny_bind (wpAny_load (hk fa fo hl hb) (wpAny_pure ?_))
  exact(hfc)▸(hq)
 ·refine callWith_function (o:=fo) (fd:=fd) (cJ hn (cP.use R N ht pos fun cvs am aa ah aJ aK av=>⟨⟨ah.rel.keep fa fo hl hb,hfd⟩,?_⟩))
  exact ho.use ah.rel (RVs.cons (RV.mono (Step.keepV R ah) _ _ r) av) aK fun cv aA au aq cU aF=>⟨au,ah.trans aq,aF⟩
theorem Ev.accBi(K:Acc G m){o:Expr}{name:Str}{apos pos:Pos}{args:List Expr}{k:Nat}{l:List V}{i:Int}{v:V}{vs:List V}{id:String}(M:Mt "list" name id)(hs:b9 o=true)(hn:aH args=true)(hfew:args.length<29)(hline:(apos.endLine==pos.line)=true)
  (hga:m "__getattribute__"=none) (hgt:m "__getattr__"=none) (hf:m name=none) (hni:name≠"_initial_size")
  (dB:Ev G A C env W o σ η (.ref k) σ₁) (hσ:σ₁[k]?=some ⟨l,some i⟩) (cP:Evs G A C env W args σ₁ η vs σ₂)
  (ho:On G A (fun cvs=>call (.builtin id) cvs) σ₂ (.ref k::vs) v aj):Ev G A C env W (.Call (.Attribute o name apos) args [] pos) σ η v aj:=by
 refine ri K hs hn hfew hline hga hgt (.inr ⟨hf,M.slot.lookup⟩) hni (tf:=.type "method_descriptor") (fun hk hq=>wpAny_of_eq M.ty hq) (.inr (.inl rfl)) dB hσ cP fun ρ s c R N ht r=>?_
 refine callWith_builtin (cp hn) (cJ hn (cP.use R N ht pos fun cvs am aa ah aJ aK av=>?_))
 exact ho.use ah.rel (RVs.cons (RV.mono (Step.keepV R ah) _ _ r) av) aK fun cv aA au aq cU aF=>⟨au,ah.trans aq,aF⟩
theorem eM(K:Acc G m)(R:Rel G σ ρ s){a:Addr}{o:Obj}(ho:s.heap.get? a=some o)(hc:o.cls=.ref G.cls){Q:Bool->Shared->Prop}{E:Value->Shared->Prop}{M:Model}(hQ:Q true s):wpAny M A (isInstance (.ref a) (.type "list")) Q E s:=by
 refine cH (ct K R) fun oc cd h_p=>?_;have h1:=h_p.1;have h2:=h_p.2.1;have h3:=h_p.2.2.1;have h4:=h_p.2.2.2
 unfold isInstance
 refine wpAny_bind (m:=typeOf (.ref a)) ?_
 unfold typeOf
 refine wpAny_bind (wpAny_load ho (wpAny_pure ?_))
 refine(hc)▸?_
 unfold isSubtype
 refine wpAny_bind (m:=mroOf (.ref G.cls)) ?_
 show wpAny M A (do return (← classData G.cls).mro) _ E s
 refine wpAny_bind ?_
 unfold classData
 refine wpAny_bind (wpAny_load h1 ?_)
 refine(h2)▸?_
 refine wpAny_pure (wpAny_pure ?_)
 refine(h3)▸?_
 dsimp only
 rw[if_neg (show ¬ (([Value.ref G.cls,.type "list",.type "object"]:List Value).isEmpty=true) from Bool.false_ne_true)]
 have e:([Value.ref G.cls,.type "list",.type "object"]:List Value).contains (.type "list")=true:=by
  rw[List.contains_cons,List.contains_cons];simp
 refine(e)▸?_
 exact wpAny_pure hQ
theorem fz(K:Acc G m)(R:Rel G σ ρ s){a:Addr}{o:Obj}(ho:s.heap.get? a=some o)(hc:o.cls=.ref G.cls){id n:String}{rest:List Value}(hk:builtinKind id=some .slot\/builtinKind id=some .method)(hsplit:splitId id=some ("list",n))
  (ha:argsOk id ⟨.ref a::rest,[]⟩) {Q:Unit->Shared->Prop} {E:Value->Shared->Prop} {M:Model} (hQ:Q () s):wpAny M A (checkBuiltinCall id ⟨.ref a::rest,[]⟩) Q E s:=by
 rcases hk with h | h <;>
 ·simp only[checkBuiltinCall,h,hsplit]
  refine wpAny_bind (eM K R ho hc ?_)
  simp only[Bool.not_true,Bool.false_eq_true,if_false]
  cases hsig:Manifest.signature? id with
  | none=>exact wpAny_pure hQ
  | some sig =>
   simp only[argsOk,hsig] at ha
   have h2:Bind.checkArgs id sig ⟨.ref a::rest,[]⟩=pure ():=ha
   show wpAny M A (Bind.checkArgs id sig ⟨.ref a::rest,[]⟩) Q E s
   exact(h2)▸(wpAny_pure hQ)
theorem gF:builtinKind "list.append"=some .method:=by kernel_rfl
theorem fG:splitId "list.append"=some ("list","append"):=by decide +kernel
theorem l4{k:Nat}{l l':List V}{i:Int}{p:Addr×Addr}{h':Heap}{t:Nat}{us:Array Value}{n:Nat}(R:Rel G σ ρ s)(hp:ρ.st[k]?=some p)(hσ:σ[k]?=some ⟨l,some i⟩)(hs:Heap.ExtBut p.1 s.heap h')(hl:l'.length<=lim)
  (hpl:h'.get? p.1=some ⟨.ref G.cls,some p.2,.seq us n,#[]⟩) (hr:KeepV s.heap ρ h' ρ->RVs h' ρ l' us.toList):Step G ρ s ρ { s with heap:=h',toks:=t } (σ.set k ⟨l',some i⟩) :=
 Step.write R hp hσ hs fun K=>by
  refine byQ fun Q kQ=>?_
  refine wg (bc R hp hσ) fun vs n' d h1 h2 h3 h4 h5 h6=>?_
  refine kQ ?_
  dsimp only[RO]
  refine⟨hl,us,n,d,hpl,hr K,?_,h4,h5⟩
  refine h3.extBut hs ?_
  intro e
  refine uM (h3) fun o es ep ho hd _=>?_
  rw[e,h1] at ho;obtain rfl:=siX ho;cases hd
theorem gN(K:Acc G m){k:Nat}{l:List V}{i:Int}{v:V}(hσ:σ[k]?=some ⟨l,some i⟩)(hl:l.length<lim):On G A (fun cvs=>call (.builtin "list.append") cvs) σ [.ref k,v] .none (σ.set k ⟨l++[v],some i⟩):=fun ρ s cvs R r ht=>by
 obtain ⟨c,r',rfl,h1,h2⟩:=RVs.cons_iff r
 refine cH (RVs.cons_iff h2) fun c2 r2 h_p=>?_;obtain rfl:=h_p.1;have h3:=h_p.2.1;have h4:=h_p.2.2
 refine(RVs.nil_iff h4)▸?_
 refine a9 (RV.ref_iff h1) fun p h_p=>?_;have hp:=h_p.1;obtain rfl:=h_p.2
 refine byQ fun Q kQ=>?_
 refine d7 (bc R hp hσ) fun vs n d h_p=>?_;have g1:=h_p.1;have g2:=h_p.2.1;have g3:=h_p.2.2.1;have g4:=h_p.2.2.2.1;have g5:=h_p.2.2.2.2.1;have g6:=h_p.2.2.2.2.2
 have hsz:vs.size=l.length:=by have:=RVs.length g2;simpa using this
 refine kQ ?_
 refine wpAny_call (codeAny_call_builtin slot_list_append.plain entry_list_append (fz K R g1 rfl (.inr gF) fG (args_list_append _ _) ?_))
 show wpAny _ _ (updateSeq p.1 (·.push c2)>>=fun _=>ret .none) _ _ s
 have hu:(Obj.mapSeq (·.push c2) ⟨.ref G.cls,some p.2,.seq vs n,#[]⟩)=⟨.ref G.cls,some p.2,.seq (vs.push c2) (if (vs.push c2).size==vs.size then n else n+1),#[]⟩:=rfl
 refine wpAny_bind (wpAny_updateSeq g1 rfl (wpAny_pure ?_) (by rw[hsz];exact Nat.le_trans g6 (by decide)) (by rw[Array.size_push,hsz];exact Nat.succ_le_succ (Nat.le_trans g6 (by decide))))
 have hg:(s.heap.update p.1 (Obj.mapSeq (·.push c2))).get? p.1=some ⟨.ref G.cls,some p.2,.seq (vs.push c2) (if (vs.push c2).size==vs.size then n else n+1),#[]⟩:=by
  rw[Heap.get?_update_self _ g1 (by rw[hu];rfl),hu]
 refine⟨ρ,l4 (t:=s.toks) R hp hσ (Heap.SameBut.update ..).extBut (by rw[List.length_append];exact hl) hg fun KK=>?_,RV.none_⟩
 ·rw[Array.toList_push]
  exact RVs.append (RVs.mono KK _ _ g2) (RVs.cons (RV.mono KK _ _ h3) RVs.nil)
end
theorem lD{α:Type}{l:List α}(h:l.isEmpty=true):l=[]:=List.isEmpty_iff.mp h
noncomputable def oB{α:Type}(o:Option α)(f:α->Bool):Bool:=o.elim false f
theorem rK{α:Type}{o:Option α}{f:α->Bool}(h:oB o f=true):∃ a,o=some a/\f a=true:=by
 cases o with
 | none=>exact ftr h
 | some a=>exact⟨a,rfl,h⟩
set_option genInjectivity false in
set_option genSizeOf false in
inductive Ex where
 | cst (v:V) | glo (l:List Nat) | loc (i:Nat) | nil | cons (e es:Ex)
 | tup (es:Ex) | lst (es:Ex) | new (es:Ex)
 | bin (op:Operator) (a b:Ex) | neg (a:Ex) | not (a:Ex)
 | cmp (op:CmpOp) (a b:Ex) | chain (bS bO:CmpOp) (a b c:Ex)
 | and (a b:Ex) | or (a b:Ex) | ite (c a b:Ex)
 | idx (a i:Ex) | slc (a lo hi st:Ex)
 | comp (vars:List Var) (tg elt it cond:Ex)
 | bf (f:Bf) (args:Ex) | range (args:Ex) | list (args:Ex)
 | me (f:Me) (o args:Ex) | rep (o:Ex) (y z:List Nat) | split (o:Ex) (y:Ex)
 | append (o x:Ex) | pop (o:Ex)
 | call (f:Nat) (args:Ex) | meth (f:Nat) (o args:Ex)
noncomputable abbrev Fn:=Nat->List V->List AO->Option (V×List AO)
noncomputable def ItS.fuel:ItS->List AO->Nat
 | .seq l,_=>l.length+1
 | .dyn k i,σ=>match σ[k]? with
  | some ⟨items,_⟩=>items.length+1
  | none=>0
noncomputable def yH:ab->List Nat->List V->ab
 | η,i::is,v::vs=>yH (η.set i (some v)) is vs
 | η,_,_=>η
noncomputable def hZ:Ex->Option (List Nat)
 | .nil=>some []
 | .cons (.loc i) es=>(hZ es).map (i::·)
 | _=>none
noncomputable def asF(tg:Ex)(v:V)(η:ab):Option ab :=
 match tg,v with
 | .loc i,v=>some (η.set i (some v))
 | .tup es,.tup vs=>match hZ es with
  | some is=>if vs.length=is.length then some (yH η is vs) else none
  | none=>none
 | _,_=>none
noncomputable def cR(tg:Ex)(cond:List AO->ab->Option (Bool×List AO))(elt:List AO->ab->Option (V×List AO)):Nat->ItS->List AO->ab->Option (List V×List AO)
 | 0,_,_,_=>none
 | n+1,st,σ,η=>match st.step σ with
  | none=>none
  | some none=>some ([],σ)
  | some (some (x,st'))=>match asF tg x η with
   | none=>none
   | some η₁=>match cond σ η₁ with
    | none=>none
    | some (false,σ₁)=>cR tg cond elt n st' σ₁ η₁
    | some (true,σ₁)=>match elt σ₁ η₁ with
     | none=>none
     | some (v,σ₂)=>match cR tg cond elt n st' σ₂ η₁ with
      | none=>none
      | some (out,aj)=>some (v::out,aj)
mutual
noncomputable def evx(F:Fn):Ex->List AO->ab->Option (V×List AO)
 | .cst v,σ,_=>some (v,σ)
 | .glo l,σ,_=>some (.str l,σ)
 | .loc i,σ,η=>match η[i]? with
  | some (some v)=>some (v,σ)
  | _=>none
 | .nil,σ,_=>some (.none,σ)
 | .cons _ _,_,_=>none
 | .tup es,σ,η=>match evs F es σ η with
  | some (vs,σ₁)=>if vs.length<=lim then some (.tup vs,σ₁) else none
  | none=>none
 | .lst es,σ,η=>match evs F es σ η with
  | some (vs,σ₁)=>if vs.length<=lim then some (.lst vs,σ₁) else none
  | none=>none
 | .new es,σ,η=>match evs F es σ η with
  | some (vs,σ₁)=>if vs.length<=lim then some (.ref σ₁.length,σ₁++[⟨vs,none⟩]) else none
  | none=>none
 | .bin op a b,σ,η=>match evx F a σ η with
  | some (x,σ₁)=>match evx F b σ₁ η with
   | some (y,σ₂)=>(te op x y).map fun v=>(v,σ₂)
   | none=>none
  | none=>none
 | .neg a,σ,η=>match evx F a σ η with
  | some (.int i,σ₁)=>some (.int (-i),σ₁)
  | _=>none
 | .not a,σ,η=>match evx F a σ η with
  | some (x,σ₁)=>(aM x).map fun b=>(.bool (!b),σ₁)
  | none=>none
 | .cmp op a b,σ,η=>match evx F a σ η with
  | some (x,σ₁)=>match evx F b σ₁ η with
   | some (y,σ₂)=>(f6 op σ₂ x y).map fun k=>(.bool k,σ₂)
   | none=>none
  | none=>none
 | .chain bS bO a b c,σ,η=>match evx F a σ η with
  | some (x,σ₁)=>match evx F b σ₁ η with
   | some (y,σ₂)=>match f6 bS σ₂ x y with
    | some false=>some (.bool false,σ₂)
    | some true=>match evx F c σ₂ η with
     | some (z,aj)=>(f6 bO aj y z).map fun k=>(.bool k,aj)
     | none=>none
    | none=>none
   | none=>none
  | none=>none
 | .and a b,σ,η=>match evx F a σ η with
  | some (x,σ₁)=>match aM x with
   | some true=>evx F b σ₁ η
   | some false=>some (x,σ₁)
   | none=>none
  | none=>none
 | .or a b,σ,η=>match evx F a σ η with
  | some (x,σ₁)=>match aM x with
   | some false=>evx F b σ₁ η
   | some true=>some (x,σ₁)
   | none=>none
  | none=>none
 | .ite c a b,σ,η=>match evx F c σ η with
  | some (x,σ₁)=>match aM x with
   | some true=>evx F a σ₁ η
   | some false=>evx F b σ₁ η
   | none=>none
  | none=>none
 | .idx a i,σ,η=>match evx F a σ η with
  | some (x,σ₁)=>match evx F i σ₁ η with
   | some (y,σ₂)=>(dW σ₂ x y).map fun v=>(v,σ₂)
   | none=>none
  | none=>none
 | .slc a lo hi st,σ,η=>match evx F a σ η with
  | some (x,σ₁)=>match evx F lo σ₁ η with
   | some (l,σ₂)=>match evx F hi σ₂ η with
    | some (h,aj)=>match evx F st aj η with
     | some (s,σ₄)=>(rB σ₄ x l h s).map fun v=>(v,σ₄)
     | none=>none
    | none=>none
   | none=>none
  | none=>none
 | .comp vars tg elt it cond,σ,η=>match evx F it σ η with
  | some (x,σ₁)=>match ba x with
   | some st=>match cR tg (fun σ η=>match cond with
     | .nil=>some (true,σ)
     | c=>match evx F cond σ η with
      | some (y,σ')=>(aM y).map fun b=>(b,σ')
      | none=>none) (fun σ η=>evx F elt σ η) (st.fuel σ₁) st σ₁ (clr η vars) with
    | some (out,σ₂)=>if out.length<=lim then some (.lst out,σ₂) else none
    | none=>none
   | none=>none
  | none=>none
 | .bf f args,σ,η=>match evs F args σ η with
  | some (vs,σ₁)=>(bfF f σ₁ vs).map fun v=>(v,σ₁)
  | none=>none
 | .range args,σ,η=>match evs F args σ η with
  | some (vs,σ₁)=>(uA vs).map fun v=>(v,σ₁)
  | none=>none
 | .list args,σ,η=>match evs F args σ η with
  | some (vs,σ₁)=>(aO1 vs).map fun v=>(v,σ₁)
  | none=>none
 | .me f o args,σ,η=>match evx F o σ η with
  | some (x,σ₁)=>if mq σ₁ x=some f.T then match evs F args σ₁ η with
   | some (vs,σ₂)=>(meF f σ₂ x vs).map fun v=>(v,σ₂)
   | none=>none
   else none
  | none=>none
 | .rep o y z,σ,η=>match evx F o σ η with
  | some (.str x,σ₁)=>(meF .replace σ₁ (.str x) [.str y,.str z]).map fun v=>(v,σ₁)
  | _=>none
 | .split o y,σ,η=>match evx F o σ η with
  | some (.str x,σ₁)=>match evx F y σ₁ η with
   | some (.str y,σ₂)=>if y≠[]/\(Txt.split (S' x) (S' y)).length<=lim/\(Txt.split (S' x) (S' y)).all (fun z=>decide (z.cps.toList.length<=lim))=true then
     some (.ref σ₂.length,σ₂++[⟨(Txt.split (S' x) (S' y)).map fun z=>.str z.cps.toList,none⟩]) else none
   | _=>none
  | _=>none
 | .append o x,σ,η=>match evx F o σ η with
  | some (.ref k,σ₁)=>match σ₁[k]? with
   | some ⟨_,none⟩=>match evx F x σ₁ η with
    | some (v,σ₂)=>match σ₂[k]? with
     | some ⟨l,none⟩=>if l.length<lim then some (.none,σ₂.set k ⟨l++[v],none⟩) else none
     | _=>none
    | none=>none
   | _=>none
  | _=>none
 | .pop o,σ,η=>match evx F o σ η with
  | some (.ref k,σ₁)=>match σ₁[k]? with
   | some ⟨l,none⟩=>match l.getLast? with
    | some v=>some (v,σ₁.set k ⟨l.dropLast,none⟩)
    | none=>none
   | _=>none
  | _=>none
 | .call f args,σ,η=>match evs F args σ η with
  | some (vs,σ₁)=>F f vs σ₁
  | none=>none
 | .meth f o args,σ,η=>match evx F o σ η with
  | some (.ref k,σ₁)=>match σ₁[k]? with
   | some ⟨_,some _⟩=>match evs F args σ₁ η with
    | some (vs,σ₂)=>F f (.ref k::vs) σ₂
    | none=>none
   | _=>none
  | _=>none
/-- a list of parts -/
noncomputable def evs(F:Fn):Ex->List AO->ab->Option (List V×List AO)
 | .nil,σ,_=>some ([],σ)
 | .cons e es,σ,η=>match evx F e σ η with
  | some (v,σ₁)=>match evs F es σ₁ η with
   | some (vs,σ₂)=>some (v::vs,σ₂)
   | none=>none
  | none=>none
 | _,_,_=>none
end
set_option genInjectivity false in
set_option genSizeOf false in
inductive Sx where
 | skip | seq (a b:Sx)
 | asg (i:Nat) (e:Ex) | asgM (i:Nat) (e:Ex) | asgT (is:List Nat) (e:Ex) | asg2 (i j:Nat) (e:Ex)
 | aug (i:Nat) (op:Operator) (e:Ex) | augL (i:Nat) (e:Ex)
 | expr (e:Ex) | ret (e:Ex) | ite (c:Ex) (a b:Sx)
 | whil (fuel:Nat) (c:Ex) (b:Sx) | for_ (tg it:Ex) (b:Sx)
 | brk | pass | dead | asrt (c:Ex) | del (o:Ex) (i:Int)
noncomputable abbrev Out:=Option (Fl×List AO×ab)
noncomputable def whN(c:List AO->ab->Option (Bool×List AO))(b:List AO->ab->Out):Nat->List AO->ab->Out
 | 0,_,_=>none
 | n+1,σ,η=>match c σ η with
  | some (false,σ₁)=>some (.next,σ₁,η)
  | some (true,σ₁)=>match b σ₁ η with
   | some (.next,σ₂,η₂)=>whN c b n σ₂ η₂
   | some (.brk,σ₂,η₂)=>some (.next,σ₂,η₂)
   | r=>r
  | none=>none
noncomputable def foN(tg:Ex)(b:List AO->ab->Out):Nat->ItS->List AO->ab->Out
 | 0,_,_,_=>none
 | n+1,st,σ,η=>match st.step σ with
  | none=>none
  | some none=>some (.next,σ,η)
  | some (some (x,st'))=>match asF tg x η with
   | none=>none
   | some η₁=>match b σ η₁ with
    | some (.next,σ₂,η₂)=>foN tg b n st' σ₂ η₂
    | some (.brk,σ₂,η₂)=>some (.next,σ₂,η₂)
    | r=>r
noncomputable def evt(F:Fn)(c:Ex)(σ:List AO)(η:ab):Option (Bool×List AO) :=
 match evx F c σ η with
 | some (x,σ₁)=>(aM x).map fun b=>(b,σ₁)
 | none=>none
noncomputable def exs(F:Fn):Sx->List AO->ab->Out
 | .skip,σ,η=>some (.next,σ,η)
 | .seq a b,σ,η=>match exs F a σ η with
  | some (.next,σ₁,η₁)=>exs F b σ₁ η₁
  | r=>r
 | .asg i e,σ,η=>match evx F e σ η with
  | some (v,σ₁)=>some (.next,σ₁,η.set i (some v))
  | none=>none
 | .asgM i e,σ,η=>match evx F e σ η with
  | some (.lst vs,σ₁)=>some (.next,σ₁++[⟨vs,none⟩],η.set i (some (.ref σ₁.length)))
  | _=>none
 | .asgT is e,σ,η=>match evx F e σ η with
  | some (.tup vs,σ₁)=>if vs.length=is.length then some (.next,σ₁,yH η is vs) else none
  | _=>none
 | .asg2 i j e,σ,η=>match evx F e σ η with
  | some (.tup [u,v],σ₁)=>some (.next,σ₁,(η.set j (some v)).set i (some u))
  | _=>none
 | .aug i op e,σ,η=>match η[i]? with
  | some (some u)=>match evx F e σ η with
   | some (v,σ₁)=>(bY1 op u v).map fun w=>(.next,σ₁,η.set i (some w))
   | none=>none
  | _=>none
 | .augL i e,σ,η=>match η[i]? with
  | some (some (.ref k))=>match evx F e σ η with
   | some (v,σ₁)=>match σ₁[k]?,der σ₁ v with
    | some ⟨l,none⟩,.lst td=>if l.length+td.length<=lim then some (.next,σ₁.set k ⟨l++td,none⟩,η.set i (some (.ref k))) else none
    | _,_=>none
   | none=>none
  | _=>none
 | .expr e,σ,η=>match evx F e σ η with
  | some (v,σ₁)=>some (.next,σ₁,η)
  | none=>none
 | .ret e,σ,η=>match evx F e σ η with
  | some (v,σ₁)=>some (.ret v,σ₁,η)
  | none=>none
 | .ite c a b,σ,η=>match evt F c σ η with
  | some (true,σ₁)=>exs F a σ₁ η
  | some (false,σ₁)=>exs F b σ₁ η
  | none=>none
 | .whil n c b,σ,η=>whN (fun σ η=>evt F c σ η) (fun σ η=>exs F b σ η) n σ η
 | .for_ tg it b,σ,η=>match evx F it σ η with
  | some (x,σ₁)=>match ba x with
   | some st=>foN tg (fun σ η=>exs F b σ η) (st.fuel σ₁) st σ₁ η
   | none=>none
  | none=>none
 | .brk,σ,η=>some (.brk,σ,η)
 | .pass,σ,η=>some (.next,σ,η)
 | .dead,_,_=>none
 | .asrt c,σ,η=>match evt F c σ η with
  | some (true,σ₁)=>some (.next,σ₁,η)
  | _=>none
 | .del o i,σ,η=>match evx F o σ η with
  | some (.ref k,σ₁)=>match σ₁[k]? with
   | some ⟨l,none⟩=>if -1000000000<=i/\i<=1000000000 then match seqIndex? i l.length with
    | some j=>some (.next,σ₁.set k ⟨l.eraseIdx j,none⟩,η)
    | none=>none
    else none
   | _=>none
  | _=>none
structure FnX where
 nvars:Nat
 body:Sx
set_option genInjectivity false in
set_option genSizeOf false in
structure Tab where
 name:Nat->Option Str
 meth:Nat->Option Str
 gs:Str->Option (List Nat)
noncomputable def lr(v:V)(e:Expr):Bool:=(un e).tag==14&&match v with
 | .none=>decide ((un e).v=.none)
 | .bool b=>decide ((un e).v=.bool b)
 | .int i=>decide ((un e).v=.int i)
 | .str l=>decide ((un e).v=.str ⟨l.toArray⟩)&&decide (l.length<=lim)
 | _=>false
noncomputable def gx(C:Cx)(x y:Str):Bool:=x==y&&bB (C.kind x) .globalImplicit&&!(x==("__debug__":Str))
noncomputable def r7(x:Ex):Bool:=x.ctorIdx==3
noncomputable def fq1(x:Ex)(f:Expr->Bool):Option Expr->Bool
 | none=>r7 x
 | some e=>!r7 x&&f e
noncomputable def cL(C:Cx)(x:Str)(i:Nat):Bool:=C.vars.any fun y=>y.name==x&&y.slot==i
noncomputable def fe(C:Cx)(x:Str)(i:Nat):Bool:=C.vars.any fun y=>y.name==x&&y.slot==i&&y.own
noncomputable def mtI(C:Cx):List Nat->List Expr->Bool
 | [],xs=>xs.isEmpty
 | i::is,xs=>match xs with
  | e::xs=>(un e).tag==1&&fe C (un e).s i&&mtI C is xs
  | []=>false
noncomputable def mtg(C:Cx):Ex->Expr->Bool
 | .loc i,e=>(un e).tag==1&&fe C (un e).s i
 | .tup es,e=>(un e).tag==2&&oB (hZ es) fun is=>mtI C is (un e).l
 | _,_=>false
noncomputable def eC1(c:Ex)(f:Expr->Bool):List Expr->Bool
 | []=>r7 c
 | e::l=>!r7 c&&f e&&l.isEmpty
noncomputable def lT(q:Nd)(n:Str)(a:Nd):Bool:=q.tag==12&&a.tag==13&&a.s==n&&b9 a.a&&aH q.l&&decide (q.l.length<29)&&a.p.endLine==q.p.line&&q.ks.isEmpty
noncomputable def sF(C:Cx)(q:Nd)(n:Str)(a:Nd):Bool:=q.tag==12&&a.tag==1&&a.s==n&&gx C a.s a.s&&aH q.l&&q.ks.isEmpty
noncomputable def uS(nm:Option Str)(q a:Nd):Bool:=match nm with | some n=>lT q n a | none=>false
noncomputable def uN(C:Cx)(nm:Option Str)(q a:Nd):Bool:=match nm with | some n=>sF C q n a | none=>false
mutual
noncomputable def mt(T:Tab):Ex->Cx->Expr->Bool
 | .cst v,_,e=>lr v e
 | .glo l,C,e=>(un e).tag==1&&T.gs (un e).s==some l&&gx C (un e).s (un e).s
 | .loc i,C,e=>(un e).tag==1&&cL C (un e).s i
 | .tup es,C,e=>(un e).tag==2&&mts T es C (un e).l
 | .lst es,C,e=>(un e).tag==3&&mts T es C (un e).l
 | .new es,C,e=>(un e).tag==3&&mts T es C (un e).l
 | .bin op a b,C,e=>(un e).tag==4&&decide (op=(un e).o)&&mt T a C (un e).a&&mt T b C (un e).b
 | .neg a,C,e=>(un e).tag==5&&decide ((un e).u=.USub)&&mt T a C (un e).a
 | .not a,C,e=>(un e).tag==5&&decide ((un e).u=.Not)&&mt T a C (un e).a
 | .cmp op a b,C,e=>(un e).tag==6&&oB (kZ (un e).l) fun r=>decide ((un e).cs=[op])&&mt T a C (un e).a&&mt T b C r&&!behindInMarks op r
 | .chain bS bO a b c,C,e=>(un e).tag==6&&oB (yF (un e).l) fun r=>decide ((un e).cs=[bS,bO])&&mt T a C (un e).a&&mt T b C r.1&&mt T c C r.2&&!lastMarks [bS,bO] [r.1,r.2]
 | .and a b,C,e=>(un e).tag==7&&oB (yF (un e).l) fun r=>decide ((un e).bo=.And)&&mt T a C r.1&&mt T b C r.2
 | .or a b,C,e=>(un e).tag==7&&oB (yF (un e).l) fun r=>decide ((un e).bo=.Or)&&mt T a C r.1&&mt T b C r.2
 | .ite c a b,C,e=>(un e).tag==8&&mt T c C (un e).a&&mt T a C (un e).b&&mt T b C (un e).c
 | .idx a i,C,e=>(un e).tag==9&&mt T a C (un e).a&&mt T i C (un e).b
 | .slc a lo hi st,C,e=>(un e).tag==9&&(un (un e).b).tag==10&&mt T a C (un e).a&&fq1 lo (fun e=>mt T lo C e) (un (un e).b).oa&&fq1 hi (fun e=>mt T hi C e) (un (un e).b).ob&&fq1 st (fun e=>mt T st C e) (un (un e).b).oc
 | .comp vars tg elt it cond,C,e=>(un e).tag==11&&oB (kZ (un e).g) fun g=>decide (g.is_async=0)&&vU C vars (un e).sc&&mtg ⟨vars,aD (un e).sc C⟩ tg g.target&&mt T elt ⟨vars,aD (un e).sc C⟩ (un e).a&&mt T it C g.iter&&gv g.iter &&
   eC1 cond (fun x=>mt T cond ⟨vars,aD (un e).sc C⟩ x) g.ifs
 | .bf f args,C,e=>sF C (un e) (Str.ofString f.id) (un (un e).a)&&mts T args C (un e).l
 | .range args,C,e=>sF C (un e) "range" (un (un e).a)&&mts T args C (un e).l
 | .list args,C,e=>sF C (un e) "list" (un (un e).a)&&mts T args C (un e).l
 | .me f o args,C,e=>lT (un e) (Str.ofString f.name) (un (un e).a)&&decide (f≠.replace)&&mt T o C (un (un e).a).a&&mts T args C (un e).l
 | .rep o y z,C,e=>lT (un e) "replace" (un (un e).a)&&mt T o C (un (un e).a).a&&oB (yF (un e).l) fun r=>lr (.str y) r.1&&lr (.str z) r.2
 | .split o y,C,e=>lT (un e) "split" (un (un e).a)&&mt T o C (un (un e).a).a&&oB (kZ (un e).l) fun r=>mt T y C r
 | .append o y,C,e=>lT (un e) "append" (un (un e).a)&&mt T o C (un (un e).a).a&&oB (kZ (un e).l) fun r=>mt T y C r
 | .pop o,C,e=>lT (un e) "pop" (un (un e).a)&&mt T o C (un (un e).a).a&&(un e).l.isEmpty
 | .call f args,C,e=>uN C (T.name f) (un e) (un (un e).a)&&mts T args C (un e).l
 | .meth f o args,C,e=>uS (T.meth f) (un e) (un (un e).a)&&mt T o C (un (un e).a).a&&mts T args C (un e).l
 | .nil,_,_=>false
 | .cons _ _,_,_=>false
noncomputable def mts(T:Tab):Ex->Cx->List Expr->Bool
 | .nil,_,l=>l.isEmpty
 | .cons e es,C,l=>match l with
  | x::xs=>mt T e C x&&fQ x&&mts T es C xs
  | []=>false
 | .cst _,_,_=>false
 | .glo _,_,_=>false
 | .loc _,_,_=>false
 | .tup _,_,_=>false
 | .lst _,_,_=>false
 | .new _,_,_=>false
 | .bin _ _ _,_,_=>false
 | .neg _,_,_=>false
 | .not _,_,_=>false
 | .cmp _ _ _,_,_=>false
 | .chain _ _ _ _ _,_,_=>false
 | .and _ _,_,_=>false
 | .or _ _,_,_=>false
 | .ite _ _ _,_,_=>false
 | .idx _ _,_,_=>false
 | .slc _ _ _ _,_,_=>false
 | .comp _ _ _ _ _,_,_=>false
 | .bf _ _,_,_=>false
 | .range _,_,_=>false
 | .list _,_,_=>false
 | .me _ _ _,_,_=>false
 | .rep _ _ _,_,_=>false
 | .split _ _,_,_=>false
 | .append _ _,_,_=>false
 | .pop _,_,_=>false
 | .call _ _,_,_=>false
 | .meth _ _ _,_,_=>false
end
structure Ok (G:Wd) (A:Around) (T:Tab) (F:Fn):Prop where
 hh:A.handled=none
 hu:A.units+10<cLine
 bf:∀ f:Bf,Gl G (Str.ofString f.id) (.builtin f.id)
 rng:Gl G "range" (.type "range")
 lst:Gl G "list" (.type "list")
 gs:∀ x l,T.gs x=some l->l.length<=lim/\∃ t,Gl G x (.str ⟨l.toArray⟩ t)
 call:∀ f x,T.name f=some x->∀ {C env W η σ σ₁ σ₂ p pos} {args:List Expr} {vs:List V} {v:V},C.kind x=some .globalImplicit->(x==("__debug__":Str))=false->aH args=true ->
  Evs G A C env W args σ η vs σ₁->F f vs σ₁=some (v,σ₂)->Ev G A C env W (.Call (.Name x p) args [] pos) σ η v σ₂
 meth:∀ f n,T.meth f=some n->∀ {C env W η σ σ₁ σ₂ aj p pos} {o:Expr} {args:List Expr} {vs:List V} {v:V} {k l i},b9 o=true->aH args=true->args.length<29->(p.endLine==pos.line)=true ->
  Ev G A C env W o σ η (.ref k) σ₁->σ₁[k]?=some ⟨l,some i⟩->Evs G A C env W args σ₁ η vs σ₂->F f (.ref k::vs) σ₂=some (v,aj)->Ev G A C env W (.Call (.Attribute o n p) args [] pos) σ η v aj
section
variable {G:Wd} {A:Around} {C C':Cx} {env cenv:Env} {W W':List Addr} {η η' η₁ η₂ bi:ab} {σ σ' σ₁ σ₂ aj:List AO} {T:Tab} {F:Fn}
noncomputable def SE(G:Wd)(A:Around)(T:Tab)(F:Fn)(x:Ex):Prop:=∀ C e,mt T x C e=true->∀ env W σ η v σ',evx F x σ η=some (v,σ')->Ev G A C env W e σ η v σ'
noncomputable def SS(G:Wd)(A:Around)(T:Tab)(F:Fn)(x:Ex):Prop:=∀ C l,mts T x C l=true->∀ env W σ η vs σ',evs F x σ η=some (vs,σ')->Evs G A C env W l σ η vs σ'
noncomputable def ST(G:Wd)(A:Around)(T:Tab)(F:Fn)(x:Ex):Prop:=∀ C e,mt T x C e=true->∀ env W σ η b σ',evt F x σ η=some (b,σ')->Et G A C env W e σ η b σ'
theorem Ev.of_eq{e e':Expr}{v:V}(h:e=e')(x:Ev G A C env W e' σ η v σ'):Ev G A C env W e σ η v σ':=by exact(h)▸(x)
theorem Et.of_eq{e e':Expr}{b:Bool}(h:e=e')(x:Et G A C env W e' σ η b σ'):Et G A C env W e σ η b σ':=by exact(h)▸(x)
section
variable {α β γ:Type} {P:Prop}
theorem dV{o:Option (V×List AO)}{k:V->List AO->Option β}{r:β}(h:(match o with | some (x,σ)=>k x σ | none=>none)=some r)(q:∀ x σ,o=some (x,σ)->k x σ=some r->P):P:=by
 cases o with
 | none=>exact nso h
 | some a=>exact q a.1 a.2 rfl h
theorem uO{o:Option (List V×List AO)}{k:List V->List AO->Option β}{r:β}(h:(match o with | some (x,σ)=>k x σ | none=>none)=some r)(q:∀ x σ,o=some (x,σ)->k x σ=some r->P):P:=by
 cases o with
 | none=>exact nso h
 | some a=>exact q a.1 a.2 rfl h
theorem ad1{a c:α}{b d:γ}(h:some (a,b)=some (c,d)):a=c/\b=d:=Prod.mk.inj (siX h)
theorem ma{Q:α->γ->Prop}{a c:α}{b d:γ}(h:some (a,b)=some (c,d))(q:Q a b):Q c d:=(ad1 h).1▸(ad1 h).2▸q
theorem gv1{o:Option α}{f:α->β}{σ:γ}{r:β×γ}(h:(o.map fun v=>(f v,σ))=some r):∃ v,o=some v/\(f v,σ)=r:=Option.map_eq_some_iff.mp h
theorem tc{Q:β->γ->Prop}{o:Option α}{f:α->β}{σ σ':γ}{u:β}(h:(o.map fun v=>(f v,σ))=some (u,σ'))(q:∀ v,o=some v->Q (f v) σ):Q u σ':=by
 cases o with
 | none=>exact nso h
 | some a=>exact ma (Q:=Q) h (q a rfl)
theorem fD1{o:Option Bool}{iD lg:Option β}{r:β}(h:(match o with | some true=>iD | some false=>lg | none=>none)=some r)(kU:o=some true->iD=some r->P)(l9:o=some false->lg=some r->P):P:=by
 cases o with
 | none=>exact nso h
 | some b =>
  cases b
  ·exact l9 rfl h
  ·exact kU rfl h
theorem fC1{o:Option Bool}{iD lg:Option β}{r:β}(h:(match o with | some false=>iD | some true=>lg | none=>none)=some r)(kU:o=some false->iD=some r->P)(l9:o=some true->lg=some r->P):P:=by
 cases o with
 | none=>exact nso h
 | some b =>
  cases b
  ·exact kU rfl h
  ·exact l9 rfl h
theorem hV1{o:Option (Option V)}{k:V->Option β}{r:β}(h:(match o with | some (some v)=>k v | _=>none)=some r)(q:∀ v,o=some (some v)->k v=some r->P):P:=by
 cases o with
 | none=>exact nso h
 | some a=>cases a with
  | none=>exact nso h
  | some v=>exact q v rfl h
theorem kK1{o:Option (V×List AO)}{k:Int->List AO->Option β}{r:β}(h:(match o with | some (.int i,σ)=>k i σ | _=>none)=some r)(q:∀ i σ,o=some (.int i,σ)->k i σ=some r->P):P:=by
 cases o with
 | none=>exact nso h
 | some a=>obtain ⟨a,c⟩:=a;cases a <;> first | exact q _ _ rfl h | exact nso h
theorem f71{o:Option (V×List AO)}{k:List Nat->List AO->Option β}{r:β}(h:(match o with | some (.str i,σ)=>k i σ | _=>none)=some r)(q:∀ i σ,o=some (.str i,σ)->k i σ=some r->P):P:=by
 cases o with
 | none=>exact nso h
 | some a=>obtain ⟨a,c⟩:=a;cases a <;> first | exact q _ _ rfl h | exact nso h
theorem fm1{o:Option (V×List AO)}{k:Nat->List AO->Option β}{r:β}(h:(match o with | some (.ref i,σ)=>k i σ | _=>none)=some r)(q:∀ i σ,o=some (.ref i,σ)->k i σ=some r->P):P:=by
 cases o with
 | none=>exact nso h
 | some a=>obtain ⟨a,c⟩:=a;cases a <;> first | exact q _ _ rfl h | exact nso h
theorem kF1{o:Option (V×List AO)}{k:List V->List AO->Option β}{r:β}(h:(match o with | some (.lst i,σ)=>k i σ | _=>none)=some r)(q:∀ i σ,o=some (.lst i,σ)->k i σ=some r->P):P:=by
 cases o with
 | none=>exact nso h
 | some a=>obtain ⟨a,c⟩:=a;cases a <;> first | exact q _ _ rfl h | exact nso h
theorem iT1{o:Option (V×List AO)}{k:List V->List AO->Option β}{r:β}(h:(match o with | some (.tup i,σ)=>k i σ | _=>none)=some r)(q:∀ i σ,o=some (.tup i,σ)->k i σ=some r->P):P:=by
 cases o with
 | none=>exact nso h
 | some a=>obtain ⟨a,c⟩:=a;cases a <;> first | exact q _ _ rfl h | exact nso h
theorem fF1{o:Option AO}{k:List V->Option β}{r:β}(h:(match o with | some ⟨l,none⟩=>k l | _=>none)=some r)(q:∀ l,o=some ⟨l,none⟩->k l=some r->P):P:=by
 cases o with
 | none=>exact nso h
 | some a=>obtain ⟨l,c⟩:=a;cases c <;> first | exact q _ rfl h | exact nso h
theorem kT1{o:Option AO}{k:List V->Int->Option β}{r:β}(h:(match o with | some ⟨l,some i⟩=>k l i | _=>none)=some r)(q:∀ l i,o=some ⟨l,some i⟩->k l i=some r->P):P:=by
 cases o with
 | none=>exact nso h
 | some a=>obtain ⟨l,c⟩:=a;cases c <;> first | exact q _ _ rfl h | exact nso h
end
theorem cj{x:Str}{i:Nat}(h:cL C x i=true):∃ y∈C.vars,y.name=x/\y.slot=i:=by
 unfold cL at h
 refine a9 (List.any_eq_true.mp h) fun y h_p=>?_;have hy:=h_p.1;have h:=h_p.2
 simp only[Bool.and_eq_true,beq_iff_eq] at h
 exact⟨y,hy,h.1,h.2⟩
theorem bu{x:Str}{i:Nat}(h:fe C x i=true):∃ y∈C.vars,y.name=x/\y.slot=i/\y.own=true:=by
 unfold fe at h
 refine a9 (List.any_eq_true.mp h) fun y h_p=>?_;have hy:=h_p.1;have h:=h_p.2
 simp only[Bool.and_eq_true,beq_iff_eq] at h
 exact⟨y,hy,h.1.1,h.1.2,h.2⟩
theorem oX{o:Option NameKind}(h:bB o .globalImplicit=true):o=some .globalImplicit:=by
 revert h;cases o with
 | none=>intro h;exact ftr h
 | some k=>cases k <;> intro h <;> first | rfl | exact ftr h
theorem bT{x y:Str}(h:gx C x y=true):x=y/\C.kind x=some .globalImplicit/\(x==("__debug__":Str))=false:=by
 unfold gx at h
 simp only[Bool.and_eq_true,beq_iff_eq] at h
 exact⟨h.1.1,oX h.1.2,by simpa using h.2⟩
section
variable {e:Expr}
theorem un1(h:((un e).tag==1)=true):e=.Name (un e).s (un e).p:=qq (k:=0) (beq_iff_eq.mp h)
theorem un2(h:((un e).tag==2)=true):e=.Tuple (un e).l (un e).n (un e).p:=qq (k:=1) (beq_iff_eq.mp h)
theorem un3(h:((un e).tag==3)=true):e=.List (un e).l (un e).p:=qq (k:=2) (beq_iff_eq.mp h)
theorem un4(h:((un e).tag==4)=true):e=.BinOp (un e).a (un e).o (un e).b (un e).p:=qq (k:=3) (beq_iff_eq.mp h)
theorem un5(h:((un e).tag==5)=true){u:UnaryOp}(hu:(un e).u=u):e=.UnaryOp u (un e).a (un e).p:=hu▸qq (k:=4) (beq_iff_eq.mp h)
theorem un6(h:((un e).tag==6)=true){cs:List CmpOp}{l:List Expr}(hc:(un e).cs=cs)(hl:(un e).l=l):e=.Compare (un e).a cs l (un e).p:=hc▸hl▸qq (k:=5) (beq_iff_eq.mp h)
theorem un7(h:((un e).tag==7)=true){b:BoolOp}{l:List Expr}(hb:(un e).bo=b)(hl:(un e).l=l):e=.BoolOp b l (un e).p:=hb▸hl▸qq (k:=6) (beq_iff_eq.mp h)
theorem un8(h:((un e).tag==8)=true):e=.IfExp (un e).a (un e).b (un e).c (un e).p:=qq (k:=7) (beq_iff_eq.mp h)
theorem un9(h:((un e).tag==9)=true):e=.Subscript (un e).a (un e).b (un e).p:=qq (k:=8) (beq_iff_eq.mp h)
theorem iQ1(h:((un e).tag==10)=true):e=.Slice (un e).oa (un e).ob (un e).oc (un e).p:=qq (k:=9) (beq_iff_eq.mp h)
theorem hO1(h:((un e).tag==11)=true):e=.ListComp (un e).a (un e).g (un e).sc (un e).p:=qq (k:=10) (beq_iff_eq.mp h)
theorem hN1(h:((un e).tag==12)=true):e=.Call (un e).a (un e).l (un e).ks (un e).p:=qq (k:=11) (beq_iff_eq.mp h)
theorem iP1(h:((un e).tag==13)=true):e=.Attribute (un e).a (un e).s (un e).p:=qq (k:=12) (beq_iff_eq.mp h)
theorem hM1(h:((un e).tag==14)=true):e=.Constant (un e).v (un e).n (un e).p:=qq (k:=13) (beq_iff_eq.mp h)
theorem iO1(h:((un e).tag==4)=true){o:Operator}(ho:o=(un e).o):e=.BinOp (un e).a o (un e).b (un e).p:=ho▸un4 h
structure CallM (e:Expr) (n:Str):Prop where
 q:e=.Call (.Attribute (un (un e).a).a n (un (un e).a).p) (un e).l [] (un e).p
 s:b9 (un (un e).a).a=true
 n:aH (un e).l=true
 l:(un e).l.length<29
 p:((un (un e).a).p.endLine==(un e).p.line)=true
theorem i3{n:Str}(h:lT (un e) n (un (un e).a)=true):CallM e n :=
 have h7:=ak h
 have h6:=ak h7.1
 have h5:=ak h6.1
 have h4:=ak h5.1
 have h3:=ak h4.1
 have h2:=ak h3.1
 have h1:=ak h2.1
 ⟨(lD h7.2▸hN1 h1.1).trans (congrArg (fun z=>Expr.Call z (un e).l [] (un e).p) (beq_iff_eq.mp h2.2▸iP1 h1.2)),h3.2,h4.2,of_decide_eq_true h5.2,h6.2⟩
structure CallN (C:Cx) (e:Expr) (n:Str):Prop where
 q:e=.Call (.Name n (un (un e).a).p) (un e).l [] (un e).p
 k:C.kind n=some .globalImplicit
 d:(n==("__debug__":Str))=false
 n:aH (un e).l=true
theorem lS{n:Str}(h:sF C (un e) n (un (un e).a)=true):CallN C e n :=
 have h5:=ak h
 have h4:=ak h5.1
 have h3:=ak h4.1
 have h2:=ak h3.1
 have h1:=ak h2.1
 have hn:=beq_iff_eq.mp h2.2
 have g:=bT h3.2
 ⟨(lD h5.2▸hN1 h1.1).trans (congrArg (fun z=>Expr.Call z (un e).l [] (un e).p) (hn▸un1 h1.2)),hn▸g.2.1,hn▸g.2.2,h4.2⟩
theorem xv{o:Option Str}(h:uS o (un e) (un (un e).a)=true):∃ n,o=some n/\CallM e n:=by
 cases o with
 | none=>exact ftr h
 | some n=>exact⟨n,rfl,i3 h⟩
theorem xp{o:Option Str}(h:uN C o (un e) (un (un e).a)=true):∃ n,o=some n/\CallN C e n:=by
 cases o with
 | none=>exact ftr h
 | some n=>exact⟨n,rfl,lS h⟩
end
theorem cT1{v:V}:SE G A T F (.cst v):=fun C e hm env W σ η u σ' he=>ma (Q:=Ev G A C env W e σ η) he <| Ev.of_eq (hM1 (ak hm).1) (by
 have hm:=(ak hm).2
 cases v with
 | none=>exact(of_decide_eq_true hm)▸(Ev.none_)
 | bool b=>exact(of_decide_eq_true hm)▸(Ev.bool_)
 | int i=>exact(of_decide_eq_true hm)▸(Ev.int_)
 | str l =>
  refine(of_decide_eq_true (ak hm).1)▸?_
  exact Ev.str_ (x:=⟨l.toArray⟩) (of_decide_eq_true (ak hm).2)
 | _=>exact ftr hm)
theorem cS1(K:Ok G A T F){l:List Nat}:SE G A T F (.glo l):=fun C e hm env W σ η u σ' he =>
 have h2:=ak hm
 have h1:=ak h2.1
 have g:=bT h2.2
 have q:=K.gs _ _ (beq_iff_eq.mp h1.2)
 ma (Q:=Ev G A C env W e σ η) he <| Ev.of_eq (un1 h1.1) fun ρ s R N ht=>q.2.elim fun t gl =>
  RE.global R N g.2.1 g.2.2 gl ⟨ρ,Step.refl R,RV.str' q.1 (by simp)⟩
theorem Ev.locN{x:Str}{p:Pos}{y:Var}{i:Nat}{v:V}(hy:y∈C.vars)(hn:y.name=x)(hi:y.slot=i)(hv:η[i]?=some (some v)):Ev G A C env W (.Name x p) σ η v σ:=by
 subst hn;subst hi;exact Ev.loc hy hv
theorem cP1{i:Nat}:SE G A T F (.loc i):=fun C e hm env W σ η u σ' he =>
 have h:=ak hm
 Ev.of_eq (un1 h.1) <| (cj h.2).elim fun y hy=>hV1 he fun v hv he=>ma (Q:=Ev G A C env W (.Name (un e).s (un e).p) σ η) he <| Ev.locN hy.1 hy.2.1 hy.2.2 hv
theorem cI1{es:Ex}(h:SS G A T F es):SE G A T F (.tup es):=fun C e hm env W σ η u σ' he =>
 uO he fun vs σ₁ e1 he=>ma (Q:=Ev G A C env W e σ η) (bh he).2 <| Ev.of_eq (un2 (ak hm).1) (Ev.tup (h _ _ (ak hm).2 _ _ _ _ _ _ e1) (bh he).1)
theorem cO1{es:Ex}(h:SS G A T F es):SE G A T F (.lst es):=fun C e hm env W σ η u σ' he =>
 uO he fun vs σ₁ e1 he=>ma (Q:=Ev G A C env W e σ η) (bh he).2 <| Ev.of_eq (un3 (ak hm).1) (Ev.lst (h _ _ (ak hm).2 _ _ _ _ _ _ e1) (bh he).1)
theorem cN1{es:Ex}(h:SS G A T F es):SE G A T F (.new es):=fun C e hm env W σ η u σ' he =>
 uO he fun vs σ₁ e1 he=>ma (Q:=Ev G A C env W e σ η) (bh he).2 <| Ev.of_eq (un3 (ak hm).1) (Ev.new (h _ _ (ak hm).2 _ _ _ _ _ _ e1) (bh he).1)
theorem cV1{op:Operator}{a b:Ex}(ha:SE G A T F a)(hb:SE G A T F b):SE G A T F (.bin op a b):=fun C e hm env W σ η u σ' he =>
 have h1:=ak hm
 have h2:=ak h1.1
 have h3:=ak h2.1
 Ev.of_eq (iO1 h3.1 (of_decide_eq_true h3.2)) <| dV he fun x σ₁ e1 he=>dV he fun y σ₂ e2 he=>tc (Q:=Ev G A C env W _ σ η) he fun v e3=>Ev.bin (ha _ _ h2.2 _ _ _ _ _ _ e1) (hb _ _ h1.2 _ _ _ _ _ _ e2) (sI e3)
theorem yL{a:Ex}(ha:SE G A T F a):SE G A T F (.neg a):=fun C e hm env W σ η u σ' he =>
 have h:=ak hm
 have h0:=ak h.1
 Ev.of_eq (un5 h0.1 (of_decide_eq_true h0.2)) <| kK1 he fun i σ₁ e1 he=>ma (Q:=Ev G A C env W _ σ η) he <| Ev.neg (ha _ _ h.2 _ _ _ _ _ _ e1) rM
theorem cM1{a:Ex}(ha:SE G A T F a):SE G A T F (.not a):=fun C e hm env W σ η u σ' he =>
 have h:=ak hm
 have h0:=ak h.1
 Ev.of_eq (un5 h0.1 (of_decide_eq_true h0.2)) <| dV he fun i σ₁ e1 he=>tc (Q:=Ev G A C env W _ σ η) he fun v e3=>Ev.not_ (ha _ _ h.2 _ _ _ _ _ _ e1) e3
structure CmpL (e r:Expr) (T:Tab) (C:Cx) (op:CmpOp) (a b:Ex):Prop where
 q:e=.Compare (un e).a [op] [r] (un e).p
 a:mt T a C (un e).a=true
 b:mt T b C r=true
 n:behindInMarks op r=false
theorem eE1{e:Expr}{op:CmpOp}{a b:Ex}(hm:mt T (.cmp op a b) C e=true):∃ r,CmpL e r T C op a b :=
 have h:=ak hm
 (rK h.2).elim fun r hr =>
 have h3:=ak hr.2
 have h2:=ak h3.1
 have h1:=ak h2.1
 ⟨r,un6 h.1 (of_decide_eq_true h1.1) (mQ hr.1),h1.2,h2.2,(Bool.not_eq_true' _).mp h3.2⟩
theorem cU1(K:Ok G A T F){op:CmpOp}{a b:Ex}(ha:SE G A T F a)(hb:SE G A T F b):SE G A T F (.cmp op a b):=fun C e hm env W σ η u σ' he =>
 (eE1 hm).elim fun r h=>Ev.of_eq h.q <| dV he fun x σ₁ e1 he=>dV he fun y σ₂ e2 he=>tc (Q:=Ev G A C env W _ σ η) he fun v e3=>Ev.cmp h.n (ha _ _ h.a _ _ _ _ _ _ e1) (hb _ _ h.b _ _ _ _ _ _ e2) (bv K.hu e3)
structure ChL (e:Expr) (r:Expr×Expr) (T:Tab) (C:Cx) (bS bO:CmpOp) (a b c:Ex):Prop where
 q:e=.Compare (un e).a [bS,bO] [r.1,r.2] (un e).p
 a:mt T a C (un e).a=true
 b:mt T b C r.1=true
 c:mt T c C r.2=true
 n:lastMarks [bS,bO] [r.1,r.2]=false
theorem iv1{e:Expr}{bS bO:CmpOp}{a b c:Ex}(hm:mt T (.chain bS bO a b c) C e=true):∃ r,ChL e r T C bS bO a b c :=
 have h:=ak hm
 (rK h.2).elim fun r hr =>
 have h4:=ak hr.2
 have h3:=ak h4.1
 have h2:=ak h3.1
 have h1:=ak h2.1
 ⟨r,un6 h.1 (of_decide_eq_true h1.1) (tY hr.1),h1.2,h2.2,h3.2,(Bool.not_eq_true' _).mp h4.2⟩
theorem wV(K:Ok G A T F){bS bO:CmpOp}{a b c:Ex}(ha:SE G A T F a)(hb:SE G A T F b)(hc:SE G A T F c):SE G A T F (.chain bS bO a b c):=fun C e hm env W σ η u σ' he =>
 (iv1 hm).elim fun r h=>Ev.of_eq h.q <| dV he fun x σ₁ e1 he=>dV he fun y σ₂ e2 he=>fC1 he
  (fun e3 he=>ma (Q:=Ev G A C env W _ σ η) he <| Ev.chain (v₃:=.none) (σ₄:=[]) h.n (ha _ _ h.a _ _ _ _ _ _ e1) (hb _ _ h.b _ _ _ _ _ _ e2) (bv K.hu e3) nofun nofun fun _=>⟨rfl,rfl⟩)
  (fun e3 he=>dV he fun z aj e4 he=>tc (Q:=Ev G A C env W _ σ η) he fun v e5=>Ev.chain h.n (ha _ _ h.a _ _ _ _ _ _ e1) (hb _ _ h.b _ _ _ _ _ _ e2) (bv K.hu e3) (fun _=>hc _ _ h.c _ _ _ _ _ _ e4) (fun _=>bv K.hu e5) nofun)
structure BoL (e:Expr) (r:Expr×Expr) (T:Tab) (C:Cx) (o:BoolOp) (a b:Ex):Prop where
 q:e=.BoolOp o [r.1,r.2] (un e).p
 a:mt T a C r.1=true
 b:mt T b C r.2=true
theorem fB1{e:Expr}{o:BoolOp}{a b:Ex}(hm:((un e).tag==7&&oB (yF (un e).l) fun r=>decide ((un e).bo=o)&&mt T a C r.1&&mt T b C r.2)=true):∃ r,BoL e r T C o a b :=
 have h:=ak hm
 (rK h.2).elim fun r hr =>
 have h2:=ak hr.2
 have h1:=ak h2.1
 ⟨r,un7 h.1 (of_decide_eq_true h1.1) (tY hr.1),h1.2,h2.2⟩
theorem cW1{a b:Ex}(ha:SE G A T F a)(hb:SE G A T F b):SE G A T F (.and a b):=fun C e hm env W σ η u σ' he =>
 (fB1 hm).elim fun r h=>Ev.of_eq h.q <| dV he fun x σ₁ e1 he=>fD1 he
  (fun e2 he=>Ev.and_ (ha _ _ h.a _ _ _ _ _ _ e1) e2 (fun _=>hb _ _ h.b _ _ _ _ _ _ he) nofun)
  (fun e2 he=>ma (Q:=Ev G A C env W _ σ η) he <| Ev.and_ (ha _ _ h.a _ _ _ _ _ _ e1) e2 nofun fun _=>⟨rfl,rfl⟩)
theorem f91{a b:Ex}(ha:SE G A T F a)(hb:SE G A T F b):SE G A T F (.or a b):=fun C e hm env W σ η u σ' he =>
 (fB1 hm).elim fun r h=>Ev.of_eq h.q <| dV he fun x σ₁ e1 he=>fC1 he
  (fun e2 he=>Ev.or_ (ha _ _ h.a _ _ _ _ _ _ e1) e2 (fun _=>hb _ _ h.b _ _ _ _ _ _ he) nofun)
  (fun e2 he=>ma (Q:=Ev G A C env W _ σ η) he <| Ev.or_ (ha _ _ h.a _ _ _ _ _ _ e1) e2 nofun fun _=>⟨rfl,rfl⟩)
theorem dd{c:Ex}{b:Bool}{v:V}(h:evx F c σ η=some (v,σ'))(ht:aM v=some b):evt F c σ η=some (b,σ'):=by
 unfold evt;rw[h];dsimp only;rw[ht];rfl
theorem cQ1{c a b:Ex}(hc:ST G A T F c)(ha:SE G A T F a)(hb:SE G A T F b):SE G A T F (.ite c a b):=fun C e hm env W σ η u σ' he =>
 have h3:=ak hm
 have h2:=ak h3.1
 have h1:=ak h2.1
 Ev.of_eq (un8 h1.1) <| dV he fun x σ₁ e1 he=>fD1 he
  (fun e2 he=>Ev.ifexp (hc _ _ h1.2 _ _ _ _ true σ₁ (dd e1 e2)) (fun _=>ha _ _ h2.2 _ _ _ _ _ _ he) nofun)
  (fun e2 he=>Ev.ifexp (hc _ _ h1.2 _ _ _ _ false σ₁ (dd e1 e2)) nofun (fun _=>hb _ _ h3.2 _ _ _ _ _ _ he))
theorem cR1{a b:Ex}(ha:SE G A T F a)(hb:SE G A T F b):SE G A T F (.idx a b):=fun C e hm env W σ η u σ' he =>
 have h2:=ak hm
 have h1:=ak h2.1
 Ev.of_eq (un9 h1.1) <| dV he fun x σ₁ e1 he=>dV he fun y σ₂ e2 he=>tc (Q:=Ev G A C env W _ σ η) he fun v e3=>Ev.idx (ha _ _ h1.2 _ _ _ _ _ _ e1) (hb _ _ h2.2 _ _ _ _ _ _ e2) e3
theorem vg{x:Ex}(h:r7 x=true):x=.nil:=by
 cases x <;> first | rfl | exact ftr h
theorem fP{x:Ex}(hx:SE G A T F x){o:Option Expr}{v:V}(h:fq1 x (fun e=>mt T x C e) o=true)(e:evx F x σ η=some (v,σ')):Ep G A C env W o σ η v σ':=by
 cases o with
 | none =>
  cases vg h
  exact .inl ⟨rfl,(ad1 e).1.symm,(ad1 e).2.symm⟩
 | some w=>exact .inr ⟨w,rfl,hx _ _ (ak h).2 _ _ _ _ _ _ e⟩
theorem cJ1{a lo hi st:Ex}(ha:SE G A T F a)(h1:SE G A T F lo)(h2:SE G A T F hi)(h3:SE G A T F st):SE G A T F (.slc a lo hi st):=fun C e hm env W σ η u σ' he =>
 have m4:=ak hm
 have m3:=ak m4.1
 have m2:=ak m3.1
 have m1:=ak m2.1
 have m0:=ak m1.1
 Ev.of_eq ((un9 m0.1).trans (congrArg (fun z=>Expr.Subscript (un e).a z (un e).p) (iQ1 m0.2))) <|
  dV he fun x σ₁ e1 he=>dV he fun y σ₂ e2 he=>dV he fun z aj e3 he=>dV he fun w σ₄ e4 he=>tc (Q:=Ev G A C env W _ σ η) he fun v e5 =>
   Ev.slice (ha _ _ m1.2 _ _ _ _ _ _ e1) (fP h1 m2.2 e2) (fP h2 m3.2 e3) (fP h3 m4.2 e4) e5
theorem gb1(K:Ok G A T F){f:Bf}{a:Ex}(ha:SS G A T F a):SE G A T F (.bf f a):=fun C e hm env W σ η u σ' he =>
 have h:=lS (ak hm).1
 Ev.of_eq h.q <| uO he fun vs σ₁ e1 he=>tc (Q:=Ev G A C env W _ σ η) he fun v e3=>Ev.callB h.k h.d (K.bf f) h.n (ha _ _ (ak hm).2 _ _ _ _ _ _ e1) (i7 K.hh e3)
theorem wU(K:Ok G A T F){a:Ex}(ha:SS G A T F a):SE G A T F (.range a):=fun C e hm env W σ η u σ' he =>
 have h:=lS (ak hm).1
 Ev.of_eq h.q <| uO he fun vs σ₁ e1 he=>tc (Q:=Ev G A C env W _ σ η) he fun v e3=>Ev.callT h.k h.d K.rng h.n (ha _ _ (ak hm).2 _ _ _ _ _ _ e1) (mH e3)
theorem zO(K:Ok G A T F){a:Ex}(ha:SS G A T F a):SE G A T F (.list a):=fun C e hm env W σ η u σ' he =>
 have h:=lS (ak hm).1
 Ev.of_eq h.q <| uO he fun vs σ₁ e1 he=>tc (Q:=Ev G A C env W _ σ η) he fun v e3=>Ev.callT h.k h.d K.lst h.n (ha _ _ (ak hm).2 _ _ _ _ _ _ e1) (oU K.hh e3)
theorem Me.mt(f:Me)(hf:f≠.replace):Mt f.T (Str.ofString f.name) f.id:=by
 cases f with
 | join=>exact aL1
 | replace=>exact absurd rfl hf
 | split=>exact qM
 | startswith=>exact k9
 | endswith=>exact oO
 | find3=>exact aM1
 | index=>exact xr
 | lstripC=>exact uP
 | count=>exact xu
 | lindex=>exact uQ
 | lcount=>exact⟨F.plainAttrs_list,F.slot_list_count,F.type_list_count⟩
theorem ga1(K:Ok G A T F){f:Me}{o a:Ex}(ho:SE G A T F o)(ha:SS G A T F a):SE G A T F (.me f o a):=fun C e hm env W σ η u σ' he =>
 have h3:=ak hm
 have h2:=ak h3.1
 have h1:=ak h2.1
 have h:=i3 h1.1
 have h0:=of_decide_eq_true h1.2
 Ev.of_eq h.q <| dV he fun x σ₁ e1 he=>uO (bh he).2 fun vs σ₂ e2 he'=>tc (Q:=Ev G A C env W _ σ η) he' fun v e3 =>
  Ev.meth (Me.mt f h0) h.s h.n h.l h.p (ho _ _ h2.2 _ _ _ _ _ _ e1) (bh he).1 (ha _ _ h3.2 _ _ _ _ _ _ e2) (uR K.hh h0 e3)
theorem zQ(K:Ok G A T F){f:Nat}{a:Ex}(ha:SS G A T F a):SE G A T F (.call f a):=fun C e hm env W σ η u σ' he =>
 (xp (ak hm).1).elim fun n h=>Ev.of_eq h.2.q <| uO he fun vs σ₁ e1 he=>K.call f _ h.1 h.2.k h.2.d h.2.n (ha _ _ (ak hm).2 _ _ _ _ _ _ e1) he
theorem zN(K:Ok G A T F){f:Nat}{o a:Ex}(ho:SE G A T F o)(ha:SS G A T F a):SE G A T F (.meth f o a):=fun C e hm env W σ η u σ' he =>
 have h2:=ak hm
 have h1:=ak h2.1
 (xv h1.1).elim fun n h=>Ev.of_eq h.2.q <| fm1 he fun k σ₁ e1 he=>kT1 he fun l i hσ he=>uO he fun vs σ₂ e2 he =>
  K.meth f _ h.1 h.2.s h.2.n h.2.l h.2.p (ho _ _ h1.2 _ _ _ _ _ _ e1) hσ (ha _ _ h2.2 _ _ _ _ _ _ e2) he
theorem jL{k:Nat}{l:List V}(h:σ[k]?=some ⟨l,none⟩):mq σ (.ref k)=some "list":=by
 have:der σ (.ref k)=.lst l:=by unfold der;dsimp only;rw[h]
 unfold mq;rw[this]
theorem jY{a:Expr}(h:aH [a]=true):fQ a=true:=by
 dsimp only[aH] at h
 exact(Bool.and_eq_true_iff.mp h).1
theorem dC1{e:Expr}{n:Str}{o y:Ex}(hm:(lT (un e) n (un (un e).a)&&mt T o C (un (un e).a).a&&oB (kZ (un e).l) fun r=>mt T y C r)=true) :
  ∃ r,(e=.Call (.Attribute (un (un e).a).a n (un (un e).a).p) [r] [] (un e).p/\aH [r]=true)/\CallM e n/\mt T o C (un (un e).a).a=true/\mt T y C r=true :=
 have h2:=ak hm
 have h1:=ak h2.1
 have h:=i3 h1.1
 (rK h2.2).elim fun r hr=>⟨r,mQ hr.1▸⟨h.q,h.n⟩,h,h1.2,hr.2⟩
theorem um{o y:Ex}(ho:SE G A T F o)(hy:SE G A T F y):SE G A T F (.append o y):=fun C e hm env W σ η u σ' he =>
 (dC1 hm).elim fun r ⟨h,hc,h1,h2⟩=>Ev.of_eq h.1 <| fm1 he fun k σ₁ e1 he=>fF1 he fun l hσ he=>dV he fun v σ₂ e2 he=>fF1 he fun td d91 he =>
  ma (Q:=Ev G A C env W _ σ η) (bh he).2 <| Ev.meth mS hc.s h.2 (show 1<29 by decide) hc.p (ho _ _ h1 _ _ _ _ _ _ e1) (jL hσ) (Evs.cons (jY h.2) (hy _ _ h2 _ _ _ _ _ _ e2) Evs.nil) (nO d91 (bh he).1)
theorem kv1{β:Type}{P:Prop}{o:Option V}{k:V->Option β}{r:β}(h:(match o with | some x=>k x | none=>none)=some r)(q:∀ x,o=some x->k x=some r->P):P:=by
 cases o with
 | none=>exact nso h
 | some a=>exact q a rfl h
theorem aR1{l:List V}{v:V}(h:l.getLast?=some v):l=l.dropLast++[v]:=by
 have hne:l≠[]:=by rintro rfl;exact nso h
 have:=List.dropLast_concat_getLast hne
 rw[List.getLast?_eq_some_getLast hne] at h
 obtain rfl:=siX h
 exact this.symm
theorem cL1{o:Ex}(ho:SE G A T F o):SE G A T F (.pop o):=fun C e hm env W σ η u σ' he =>
 have h2:=ak hm
 have h1:=ak h2.1
 have h:=i3 h1.1
 Ev.of_eq (lD h2.2▸h.q) <| fm1 he fun k σ₁ e1 he=>fF1 he fun l hσ he=>kv1 he fun v hv he =>
  ma (Q:=Ev G A C env W _ σ η) he <| Ev.meth aK1 h.s rfl (by decide) h.p (ho _ _ h1.2 _ _ _ _ _ _ e1) (jL hσ) Evs.nil (rT (l:=l.dropLast) (by exact(aR1 hv)▸(hσ)))
theorem wT{o y:Ex}(ho:SE G A T F o)(hy:SE G A T F y):SE G A T F (.split o y):=fun C e hm env W σ η u σ' he =>
 (dC1 hm).elim fun r ⟨h,hc,h1,h2⟩=>Ev.of_eq h.1 <| f71 he fun x σ₁ e1 he=>f71 he fun z σ₂ e2 he =>
  have hq:=(bh he).1
  ma (Q:=Ev G A C env W _ σ η) (bh he).2 <| Ev.meth qM hc.s h.2 (show 1<29 by decide) hc.p (ho _ _ h1 _ _ _ _ _ _ e1) rfl (Evs.cons (jY h.2) (hy _ _ h2 _ _ _ _ _ _ e2) Evs.nil)
   (oy hq.1 hq.2.1 fun w hw=>of_decide_eq_true (List.all_eq_true.mp hq.2.2 w hw))
theorem cC1:SS G A T F .nil:=fun C l hm env W σ η u σ' he=>by
 cases lD hm
 exact ma (Q:=Evs G A C env W [] σ η) he Evs.nil
theorem zG{a b:Ex}(ha:SE G A T F a)(hb:SS G A T F b):SS G A T F (.cons a b):=fun C l hm env W σ η u σ' he=>by
 cases l with
 | nil=>exact ftr hm
 | cons x l =>
  have h2:=ak hm
  have h1:=ak h2.1
  exact dV he fun v σ₁ e1 he=>uO he fun vs σ₂ e2 he=>ma (Q:=Evs G A C env W _ σ η) he (Evs.cons h1.2 (ha _ _ h1.1 _ _ _ _ _ _ e1) (hb _ _ h2.2 _ _ _ _ _ _ e2))
end
section
variable {x:Str} {i:Nat} {G:Wd} {A:Around} {C C':Cx} {env cenv:Env} {W W':List Addr} {η η' η₁ η₂ bi:ab} {σ σ' σ₁ σ₂ aj:List AO} {T:Tab} {F:Fn}
theorem qK:∀ {is:List Nat} {xs:List Expr},mtI C is xs=true->∃ vars,Names C xs vars/\is=vars.map (·.slot):=by
 intro is
 induction is with
 | nil =>
  intro xs h
  cases lD h
  exact⟨[],rfl,rfl⟩
 | cons i is ih =>
  intro xs h
  cases xs with
  | nil=>exact ftr h
  | cons e xs' =>
   have h2:=ak h
   have h1:=ak h2.1
   exact(bu h1.2).elim fun y hy=>(ih h2.2).elim fun vars hv =>
    ⟨y::vars,⟨y,vars,(un e).p,rfl,hy.2.1.symm▸un1 h1.1,hy.1,hy.2.2.2,hv.1⟩,(congr (congrArg List.cons hy.2.2.1.symm) hv.2)⟩
theorem kO:∀ (xs:List Var) (vs:List V) (η:ab),yH η (xs.map (·.slot)) vs=jS η xs vs
 | [],_,_=>rfl
 | _::_,[],_=>rfl
 | x::xs,v::vs,η=>by
  show yH (η.set x.slot (some v)) (xs.map (·.slot)) vs=jS (η.set x.slot (some v)) xs vs
  exact kO xs vs _
theorem As.nameN(hn:∃ y∈C.vars,y.name=x/\y.slot=i/\y.own=true){p:Pos}{v:V}:As G A C env W (.Name x p) v η (η.set i (some v)):=by
 obtain ⟨y,h_p⟩:=hn;have hy:=h_p.1;obtain rfl:=h_p.2.1;obtain rfl:=h_p.2.2.1;have ho:=h_p.2.2.2
 exact As.name hy ho
theorem bH1{es:Ex}{is:List Nat}(hs:hZ es=some is){v:V}(h:asF (.tup es) v η=some η'):∃ vs,v=.tup vs/\vs.length=is.length/\η'=yH η is vs:=by
 cases v <;> first | (exact nso h;done) | skip
 rename_i vs
 replace h:(match hZ es with
   | some is=>if vs.length=is.length then some (yH η is vs) else none
   | none=>none)=some η':=h
 replace h:=(hs)▸h
 have h:=bh h
 exact⟨vs,rfl,h.1,(siX h.2).symm⟩
theorem ja(hh:A.handled=none){tg:Ex}{t:Expr}(hm:mtg C tg t=true){v:V}(h:asF tg v η=some η')(env:Env)(W:List Addr):As G A C env W t v η η':=by
 cases tg <;> first | (exact ftr hm;done) | skip
 ·have hm:=ak hm
  rw[un1 hm.1]
  obtain rfl:=siX h
  exact As.nameN (bu hm.2)
 ·have hm:=ak hm
  refine aI (rK hm.2) fun is hs hm2=>?_
  obtain ⟨vs,rfl,hl,rfl⟩:=bH1 hs h
  obtain ⟨vars,hn,rfl⟩:=qK hm2
  rw[kO,un2 hm.1]
  exact As.tup hh hn (by simpa using hl)
theorem hU1{β:Type}{P:Prop}{o:Option (Option (V×ItS))}{iD:Option β}{k:V->ItS->Option β}{r:β}(h:(match o with | none=>none | some none=>iD | some (some (x,st))=>k x st)=some r)(kU:o=some none->iD=some r->P)(l9:∀ x st,o=some (some (x,st))->k x st=some r->P):P:=by
 cases o with
 | none=>exact nso h
 | some o=>cases o with
  | none=>exact kU rfl h
  | some a=>exact l9 a.1 a.2 rfl h
theorem ib1{β:Type}{P:Prop}{o:Option ab}{k:ab->Option β}{r:β}(h:(match o with | none=>none | some x=>k x)=some r)(q:∀ x,o=some x->k x=some r->P):P:=by
 cases o with
 | none=>exact nso h
 | some a=>exact q a rfl h
theorem jo1{β:Type}{P:Prop}{o:Option (V×List AO)}{k:V->List AO->Option β}{r:β}(h:(match o with | none=>none | some (x,σ)=>k x σ)=some r)(q:∀ x σ,o=some (x,σ)->k x σ=some r->P):P:=by
 cases o with
 | none=>exact nso h
 | some a=>exact q a.1 a.2 rfl h
theorem jp1{β:Type}{P:Prop}{o:Option (List V×List AO)}{k:List V->List AO->Option β}{r:β}(h:(match o with | none=>none | some (x,σ)=>k x σ)=some r)(q:∀ x σ,o=some (x,σ)->k x σ=some r->P):P:=by
 cases o with
 | none=>exact nso h
 | some a=>exact q a.1 a.2 rfl h
theorem js1{β:Type}{P:Prop}{o:Option (Bool×List AO)}{iD lg:List AO->Option β}{r:β}(h:(match o with | none=>none | some (false,σ)=>iD σ | some (true,σ)=>lg σ)=some r)(kU:∀ σ,o=some (false,σ)->iD σ=some r->P)(l9:∀ σ,o=some (true,σ)->lg σ=some r->P):P:=by
 cases o with
 | none=>exact nso h
 | some a =>
  obtain ⟨b,c⟩:=a
  cases b
  ·exact kU c rfl h
  ·exact l9 c rfl h
theorem pF{tg:Ex}{t el:Expr}{ifs:List Expr}{cond:List AO->ab->Option (Bool×List AO)}{ee:List AO->ab->Option (V×List AO)}(hh:A.handled=none)(hm:mtg C tg t=true)
  (hc:∀ env W σ η b σ',cond σ η=some (b,σ')->Tc G A C env W ifs σ η b σ') (he:∀ env W σ η v σ',ee σ η=some (v,σ')->Ev G A C env W el σ η v σ') :
  ∀ (n:Nat) (st:ItS) (σ:List AO) (η:ab) (out:List V) (σ':List AO),cR tg cond ee n st σ η=some (out,σ')->∃ m,∀ env W,CoR G A C env W t el ifs m st σ η out σ':=by
 intro n
 induction n with
 | zero=>intro _ _ _ _ _ h;exact nso h
 | succ n ih =>
  intro st σ η out σ' h
  exact hU1 h (fun hst h=>⟨0,fun _ _=>ma (Q:=CoR G A C _ _ t el ifs 0 st σ η) h (.stop hst)⟩) fun x st' hst h=>ib1 h fun η₁ ha h=>js1 h
   (fun σ₁ e1 h=>(ih _ _ _ _ _ h).elim fun m hr=>⟨m+1,fun env W=>.skip hst (ja hh hm ha env W) (hc env W _ _ _ _ e1) (hr env W)⟩)
   fun σ₁ e1 h=>jo1 h fun v σ₂ e2 h=>jp1 h fun out' aj e3 h=>(ih _ _ _ _ _ e3).elim fun m hr =>
    ⟨m+1,fun env W=>ma (Q:=CoR G A C _ _ t el ifs (m+1) st σ η) h (.item hst (ja hh hm ha env W) (hc env W _ _ _ _ e1) (he env W _ _ _ _ e2) (hr env W))⟩
noncomputable def bp1(F:Fn)(cond:Ex)(σ:List AO)(η:ab):Option (Bool×List AO) :=
 match cond with
 | .nil=>some (true,σ)
 | c=>match evx F cond σ η with
  | some (y,σ')=>(aM y).map fun b=>(b,σ')
  | none=>none
theorem yg{cond:Ex}(h:r7 cond=false):bp1 F cond σ η=evt F cond σ η:=by
 cases cond <;> first | rfl | exact trf h
theorem pD{cond:Ex}(hc:ST G A T F cond){ifs:List Expr}(hm:eC1 cond (fun e=>mt T cond C e) ifs=true){b:Bool}(h:bp1 F cond σ η=some (b,σ')):Tc G A C env W ifs σ η b σ':=by
 cases ifs with
 | nil =>
  cases vg hm
  exact .inl ⟨rfl,(ad1 h).1.symm,(ad1 h).2.symm⟩
 | cons e l =>
  have h2:=ak hm
  have h1:=ak h2.1
  refine(lD h2.2)▸?_
  exact .inr ⟨e,rfl,hc _ _ h1.2 _ _ _ _ _ _ ((yg ((Bool.not_eq_true' _).mp h1.1)).symm.trans h)⟩
structure CompR (G:Wd) (A:Around) (C:Cx) (env:Env) (W:List Addr) (el t i:Expr) (ifs:List Expr) (scope:Scope) (vars:List Var) (σ:List AO) (η:ab) (out:List V) (σ':List AO):Prop where
 ex:∃ n v st σ₁,CompOk C vars scope/\gv i=true/\Ev G A C env W i σ η v σ₁/\ba v=some st/\(∀ cenv W',CoR G A ⟨vars,aD scope C⟩ cenv W' t el ifs n st σ₁ (clr η vars) out σ')/\out.length<=lim
theorem eD1{g:Comprehension}(h:g.is_async=0):g=⟨g.target,g.iter,g.ifs,0⟩:=by
 cases g;subst h;rfl
theorem io1{β:Type}{P:Prop}{o:Option ItS}{k:ItS->Option β}{r:β}(h:(match o with | some x=>k x | none=>none)=some r)(q:∀ x,o=some x->k x=some r->P):P:=by
 cases o with
 | none=>exact nso h
 | some a=>exact q a rfl h
theorem ke(K:Ok G A T F){vars:List Var}{tg elt it cond:Ex}(he:SE G A T F elt)(hi:SE G A T F it)(hc:ST G A T F cond){e:Expr}(hm:mt T (.comp vars tg elt it cond) C e=true){u:V}(h:evx F (.comp vars tg elt it cond) σ η=some (u,σ')) :
  ∃ el t i ifs scope pos out,e=.ListComp el [⟨t,i,ifs,0⟩] scope pos/\u=.lst out/\CompR G A C env W el t i ifs scope vars σ η out σ' :=
 have h0:=ak hm
 (rK h0.2).elim fun g hg =>
 have h6:=ak hg.2
 have h5:=ak h6.1
 have h4:=ak h5.1
 have h3:=ak h4.1
 have h2:=ak h3.1
 have h1:=ak h2.1
 dV h fun x σ₁ e1 h=>io1 h fun st hst h=>uO h fun out σ₂ e2 h =>
 (pF (C:=⟨vars,aD (un e).sc C⟩) (ee:=fun σ η=>evx F elt σ η) (cond:=bp1 F cond) K.hh h2.2 (fun env W σ η b σ' hq=>pD hc h6.2 hq) (fun env W σ η v σ' hq=>he _ _ h3.2 _ _ _ _ _ _ hq) _ _ _ _ _ _ e2).elim fun m hr =>
 have hp:=ad1 (bh h).2
 ⟨_,g.target,g.iter,g.ifs,_,_,out,(hO1 h0.1).trans (by rw[mQ hg.1,← eD1 (of_decide_eq_true h1.1)]),hp.1.symm,⟨m,x,st,σ₁,pE h1.2,h5.2,hi _ _ h4.2 _ _ _ _ _ _ e1,hst,hp.2▸hr,(bh h).1⟩⟩
theorem zP(K:Ok G A T F){vars:List Var}{tg elt it cond:Ex}(he:SE G A T F elt)(hi:SE G A T F it)(hc:ST G A T F cond):SE G A T F (.comp vars tg elt it cond):=by
 intro C e hm env W σ η u σ' h
 refine byQ fun Q kQ=>?_
 obtain ⟨el,t,i,ifs,scope,pos,out,rfl,rfl,⟨n,v,st,σ₁,K1,h1,h2,h3,h4,h5⟩⟩:=ke (env:=env) (W:=W) K he hi hc hm h
 refine kQ ?_
 exact Ev.comp K.hh K1 h1 h2 h3 h4 h5
end
section
variable {G:Wd} {A:Around} {C C':Cx} {env cenv:Env} {W W':List Addr} {η η' η₁ η₂ bi:ab} {σ σ' σ₁ σ₂ aj:List AO} {T:Tab} {F:Fn}
theorem ka{y:List Nat}{a:Expr}(h:lr (.str y) a=true):a=.Constant (.str ⟨y.toArray⟩) (un a).n (un a).p/\y.length<=lim :=
 have h0:=ak h
 have h1:=ak h0.2
 ⟨(of_decide_eq_true h1.1)▸hM1 h0.1,of_decide_eq_true h1.2⟩
theorem oP{x y z:List Nat}:meF .replace σ (.str x) [.str y,.str z]=if y=z then none else if x.length+(x.length+1)*z.length<=16000000/\(Txt.replace (S' x) (S' y) (S' z)).cps.toList.length<=lim then some (.str (Txt.replace (S' x) (S' y) (S' z)).cps.toList) else none:=rfl
theorem cK1(K:Ok G A T F){o:Ex}{y z:List Nat}(ho:SE G A T F o):SE G A T F (.rep o y z):=by
 intro C e hm env W σ η u σ' he
 have h2:=ak hm
 have h1:=ak h2.1
 have h:=i3 h1.1
 refine a9 (rK h2.2) fun r h_p=>?_;have hr:=h_p.1;have h5:=h_p.2
 have hy:=ka (ak h5).1
 have hz:=ka (ak h5).2
 have hc:=h.q
 have hn:=h.n
 rw[tY hr,hy.1,hz.1] at hc hn
 refine Ev.of_eq hc (f71 he fun l σ₁ e1 he=>tc (Q:=Ev G A C env W _ σ η) he fun w e3=>?_)
 rw[oP] at e3
 by_cases hyz:y=z
 ·replace e3:=(if_pos hyz)▸e3;exact nso e3
 ·rw[if_neg hyz] at e3
  have hb:=(bh e3).1
  rw[← siX (bh e3).2]
  intro ρ s R N ht
  refine wpAny_Call_method_lateS (eD h.s _) ?_ h.p ?_
  ·rw[dZ hn];rfl
  ·refine(ho _ _ h1.2 _ _ _ _ _ _ e1).use R N ht fun bz am aa ah aJ aK av=>?_
   have hT:=hJ (T:="str") rfl ah.rel av
   refine gA1 ("str") ("str.replace") fR.attrs fR.slot fR.ty hT.1 hT.2 ?_
   refine callWith_builtin (cp hn) (cJ hn ?_)
   rw[a8 rfl]
   refine spliced_cons (Constant_str (k:=(un r.1).n) (pos:=(un r.1).p) ?_)
   rw[a8 rfl]
   refine spliced_cons (Constant_str (k:=(un r.2).n) (pos:=(un r.2).p) (spliced_nil ?_))
   obtain ⟨_,t,rfl⟩:=RV.str_iff av
   have aq:=Step.toks ah.rel (am.toks+1+1)
   exact wpAny_mono (kR (A:=A) (u:=am.toks) (v:=am.toks+1) (t:=t) (Nat.ne_of_gt aK) (Nat.succ_ne_zero _) (Nat.ne_of_lt (Nat.lt_succ_self _)) hyz hb.1 hb.2 aq.rel) ((by rintro cv s' ⟨ρ',bQ,fD⟩;exact⟨ρ',ah.trans (aq.trans bQ),fD⟩)) fun _ _ f=>f.elim
theorem dO{c:Ex}{b:Bool}(h:evt F c σ η=some (b,σ')):∃ v,evx F c σ η=some (v,σ')/\aM v=some b :=
 dV h fun v σ₁ e1 he=>tc (Q:=fun b σ'=>∃ v,evx F c σ η=some (v,σ')/\aM v=some b) he fun w e3=>⟨v,e1,e3⟩
theorem gS{x:Ex}(h:SE G A T F x)(hp:∀ C e,mt T x C e=true->cV e=true):ST G A T F x:=fun C e hm env W σ η b σ' he =>
 (dO he).elim fun v hv=>Et.plain (hp _ _ hm) (h _ _ hm _ _ _ _ _ _ hv.1) hv.2
theorem cA1(K:Ok G A T F){op:CmpOp}{a b:Ex}(ha:SE G A T F a)(hb:SE G A T F b):ST G A T F (.cmp op a b):=fun C e hm env W σ η k σ' he =>
 (dO he).elim fun v ⟨he,hv⟩=>(eE1 hm).elim fun r h=>Et.of_eq h.q <| dV he fun x σ₁ e1 he=>dV he fun y σ₂ e2 he=>by
  refine aI (gv1 he) fun w e3 e4=>?_
  cases e4;obtain rfl:=siX hv
  exact Et.cmp h.n (ha _ _ h.a _ _ _ _ _ _ e1) (hb _ _ h.b _ _ _ _ _ _ e2) (bv K.hu e3)
theorem wP(K:Ok G A T F){bS bO:CmpOp}{a b c:Ex}(ha:SE G A T F a)(hb:SE G A T F b)(hc:SE G A T F c):ST G A T F (.chain bS bO a b c):=fun C e hm env W σ η k σ' he =>
 (dO he).elim fun v ⟨he,hv⟩=>(iv1 hm).elim fun r h=>Et.of_eq h.q <| dV he fun x σ₁ e1 he=>dV he fun y σ₂ e2 he=>fC1 he
  (fun e3 he=>by
   refine byQ fun Q kQ=>?_
   obtain ⟨rfl,rfl⟩:=sm2 he;obtain rfl:=siX hv
   refine kQ ?_
   exact Et.chain (v₃:=.none) (σ₄:=[]) h.n (ha _ _ h.a _ _ _ _ _ _ e1) (hb _ _ h.b _ _ _ _ _ _ e2) (bv K.hu e3) nofun nofun fun _=>⟨rfl,rfl⟩)
  (fun e3 he=>dV he fun z aj e4 he=>by
   refine aI (gv1 he) fun w e5 e6=>?_
   cases e6;obtain rfl:=siX hv
   exact Et.chain h.n (ha _ _ h.a _ _ _ _ _ _ e1) (hb _ _ h.b _ _ _ _ _ _ e2) (bv K.hu e3) (fun _=>hc _ _ h.c _ _ _ _ _ _ e4) (fun _=>bv K.hu e5) nofun)
theorem cy1{a:Ex}(ha:ST G A T F a):ST G A T F (.not a):=fun C e hm env W σ η k σ' he =>
 have h:=ak hm
 have h0:=ak h.1
 (dO he).elim fun v ⟨he,hv⟩=>Et.of_eq (un5 h0.1 (of_decide_eq_true h0.2)) <| dV he fun x σ₁ e1 he=>by
  refine aI (gv1 he) fun w e3 e4=>?_
  cases e4;obtain rfl:=siX hv
  exact Et.not_ (ha _ _ h.2 _ _ _ _ _ _ (dd e1 e3))
theorem cB1{a b:Ex}(ha:ST G A T F a)(hb:ST G A T F b):ST G A T F (.and a b):=fun C e hm env W σ η k σ' he =>
 (dO he).elim fun v ⟨he,hv⟩=>(fB1 hm).elim fun r h=>Et.of_eq h.q <| dV he fun x σ₁ e1 he=>fD1 he
  (fun e2 he=>Et.and_ (ha _ _ h.a _ _ _ _ _ _ (dd e1 e2)) (fun _=>hb _ _ h.b _ _ _ _ _ _ (dd he hv)) nofun)
  (fun e2 he=>by
   obtain ⟨rfl,rfl⟩:=sm2 he
   rw[e2] at hv;obtain rfl:=siX hv
   exact Et.and_ (ha _ _ h.a _ _ _ _ _ _ (dd e1 e2)) nofun fun _=>⟨rfl,rfl⟩)
theorem f61{a b:Ex}(ha:ST G A T F a)(hb:ST G A T F b):ST G A T F (.or a b):=fun C e hm env W σ η k σ' he =>
 (dO he).elim fun v ⟨he,hv⟩=>(fB1 hm).elim fun r h=>Et.of_eq h.q <| dV he fun x σ₁ e1 he=>fC1 he
  (fun e2 he=>Et.or_ (ha _ _ h.a _ _ _ _ _ _ (dd e1 e2)) (fun _=>hb _ _ h.b _ _ _ _ _ _ (dd he hv)) nofun)
  (fun e2 he=>by
   obtain ⟨rfl,rfl⟩:=sm2 he
   rw[e2] at hv;obtain rfl:=siX hv
   exact Et.or_ (ha _ _ h.a _ _ _ _ _ _ (dd e1 e2)) nofun fun _=>⟨rfl,rfl⟩)
theorem cz1{c a b:Ex}(hc:ST G A T F c)(ha:ST G A T F a)(hb:ST G A T F b):ST G A T F (.ite c a b):=fun C e hm env W σ η k σ' he =>
 have h3:=ak hm
 have h2:=ak h3.1
 have h1:=ak h2.1
 (dO he).elim fun v ⟨he,hv⟩=>Et.of_eq (un8 h1.1) <| dV he fun x σ₁ e1 he=>fD1 he
  (fun e2 he=>Et.ifexp (hc _ _ h1.2 _ _ _ _ true σ₁ (dd e1 e2)) (fun _=>ha _ _ h2.2 _ _ _ _ _ _ (dd he hv)) nofun)
  (fun e2 he=>Et.ifexp (hc _ _ h1.2 _ _ _ _ false σ₁ (dd e1 e2)) nofun (fun _=>hb _ _ h3.2 _ _ _ _ _ _ (dd he hv)))
theorem yK:SE G A T F .nil:=fun _ _ h=>nomatch (show false=true from h)
theorem ul{a b:Ex}:SE G A T F (.cons a b):=fun _ _ h=>nomatch (show false=true from h)
structure Snd (G:Wd) (A:Around) (T:Tab) (F:Fn) (x:Ex):Prop where
 e:SE G A T F x
 s:SS G A T F x
 t:ST G A T F x
noncomputable def plT:List Nat:=[1,2,3,4,9,11,12,14]
theorem i71{e:Expr}{k:Nat}(h:((un e).tag==k)=true)(hk:plT.contains k=true):cV e=true:=by
 have:=beq_iff_eq.mp h
 subst this
 cases e <;> first | rfl | exact ftr hk
noncomputable def gC1(x:Ex):Bool:=!(x.ctorIdx==3 || x.ctorIdx==4)
theorem y1{x:Ex}(h:gC1 x=true):SS G A T F x:=by
 intro C l hm
 cases x <;> first | (exact ftr h;done) | exact ftr hm
noncomputable def f51(x:Ex):Nat:=[14,1,1,0,0,2,3,3,4,0,0,0,0,0,0,0,9,9,11,12,12,12,12,12,12,12,12,12,12].getD x.ctorIdx 0
theorem cr{a b:Bool}(h:(a&&b)=true):a=true:=(Bool.and_eq_true_iff.mp h).1
theorem f9{q a:Nd}{n:Str}(h:lT q n a=true):(q.tag==12)=true:=cr (cr (cr (cr (cr (cr (cr h))))))
theorem lR{q a:Nd}{n:Str}(h:sF C q n a=true):(q.tag==12)=true:=cr (cr (cr (cr (cr h))))
theorem jr1{o:Option Str}{q a:Nd}(h:uN C o q a=true):(q.tag==12)=true:=by
 cases o with
 | none=>exact ftr h
 | some n=>exact lR h
theorem kw1{o:Option Str}{q a:Nd}(h:uS o q a=true):(q.tag==12)=true:=by
 cases o with
 | none=>exact ftr h
 | some n=>exact f9 h
theorem f41{x:Ex}{e:Expr}(h:mt T x C e=true)(hx:plT.contains (f51 x)=true):((un e).tag==f51 x)=true:=by
 cases x with
 | cst v=>exact cr h
 | glo l=>exact cr (cr h)
 | loc i=>exact cr h
 | tup es=>exact cr h
 | lst es=>exact cr h
 | new es=>exact cr h
 | bin op a b=>exact cr (cr (cr h))
 | idx a i=>exact cr (cr h)
 | slc a lo hi st=>exact cr (cr (cr (cr (cr h))))
 | comp vars tg elt it cond=>exact cr h
 | bf f a=>exact lR (cr h)
 | range a=>exact lR (cr h)
 | list a=>exact lR (cr h)
 | me f o a=>exact f9 (cr (cr (cr h)))
 | rep o y z=>exact f9 (cr (cr h))
 | split o y=>exact f9 (cr (cr h))
 | append o y=>exact f9 (cr (cr h))
 | pop o=>exact f9 (cr (cr h))
 | call f a=>exact jr1 (cr h)
 | meth f o a=>exact kw1 (cr (cr h))
 | _=>exact ftr hx
theorem pt{x:Ex}(h:plT.contains (f51 x)=true)(hl:gC1 x=true)(he:SE G A T F x):Snd G A T F x :=
 ⟨he,y1 hl,gS he fun _ _ hm=>i71 (f41 hm h) h⟩
theorem nt{x:Ex}(hl:gC1 x=true)(ht:ST G A T F x)(he:SE G A T F x):Snd G A T F x :=
 ⟨he,y1 hl,ht⟩
theorem dI1{a:Ex}{e:Expr}(h:mt T (.neg a) C e=true):cV e=true:=by
 have h:=ak (ak h).1
 refine(un5 h.1 (of_decide_eq_true h.2))▸?_
 rfl
theorem snd(K:Ok G A T F)(x:Ex):Snd G A T F x:=by
 induction x with
 | cst v=>exact pt rfl rfl cT1
 | glo l=>exact pt rfl rfl (cS1 K)
 | loc i=>exact pt rfl rfl cP1
 | nil=>exact⟨yK,cC1,gS yK fun C e hm=>nomatch (show false=true from hm)⟩
 | cons a b ha hb=>exact⟨ul,zG ha.e hb.s,gS ul fun C e hm=>nomatch (show false=true from hm)⟩
 | tup es h=>exact pt rfl rfl (cI1 h.s)
 | lst es h=>exact pt rfl rfl (cO1 h.s)
 | new es h=>exact pt rfl rfl (cN1 h.s)
 | bin op a b ha hb=>exact pt rfl rfl (cV1 ha.e hb.e)
 | neg a ha=>exact nt rfl (gS (yL ha.e) fun C e hm=>dI1 hm) (yL ha.e)
 | not a ha=>exact nt rfl (cy1 ha.t) (cM1 ha.e)
 | cmp op a b ha hb=>exact nt rfl (cA1 K ha.e hb.e) (cU1 K ha.e hb.e)
 | chain bS bO a b c ha hb hc=>exact nt rfl (wP K ha.e hb.e hc.e) (wV K ha.e hb.e hc.e)
 | and a b ha hb=>exact nt rfl (cB1 ha.t hb.t) (cW1 ha.e hb.e)
 | or a b ha hb=>exact nt rfl (f61 ha.t hb.t) (f91 ha.e hb.e)
 | ite c a b hc ha hb=>exact nt rfl (cz1 hc.t ha.t hb.t) (cQ1 hc.t ha.e hb.e)
 | idx a i ha hi=>exact pt rfl rfl (cR1 ha.e hi.e)
 | slc a lo hi st ha h1 h2 h3=>exact pt rfl rfl (cJ1 ha.e h1.e h2.e h3.e)
 | comp vars tg elt it cond _ he hi hc=>exact pt rfl rfl (zP K he.e hi.e hc.t)
 | bf f a ha=>exact pt rfl rfl (gb1 K ha.s)
 | range a ha=>exact pt rfl rfl (wU K ha.s)
 | list a ha=>exact pt rfl rfl (zO K ha.s)
 | me f o a ho ha=>exact pt rfl rfl (ga1 K ho.e ha.s)
 | rep o y z ho=>exact pt rfl rfl (cK1 K ho.e)
 | split o y ho hy=>exact pt rfl rfl (wT ho.e hy.e)
 | append o y ho hy=>exact pt rfl rfl (um ho.e hy.e)
 | pop o ho=>exact pt rfl rfl (cL1 ho.e)
 | call f a ha=>exact pt rfl rfl (zQ K ha.s)
 | meth f o a ho ha=>exact pt rfl rfl (zN K ho.e ha.s)
end
noncomputable def qR(x:Ex):Bool:=x.ctorIdx==18
noncomputable def cu1(C:Cx)(e:Ex)(x:Str)(p:Pos)(e':Expr):Bool :=
 if (un e').tag==11 then bB (C.kind x) .cell || (qR e&&bB (C.kind x) .local&&p.line==(un e').p.line&&!((un e').sc.names.any fun y=>y.1==x&&(y.2==.local || y.2==.cell))) else dG e'
noncomputable def ixE(i:Int):Ex:=if i<0 then .neg (.cst (.int (-i))) else .cst (.int i)
mutual
noncomputable def mst(T:Tab):Sx->Cx->Stmt->Bool
 | .skip,_,_=>false
 | .seq _ _,_,_=>false
 | .asg i e,C,st=>(us st).tag==1&&oB (kZ (us st).l) fun t=>(un t).tag==1&&fe C (un t).s i&&mt T e C (us st).a&&cu1 C e (un t).s (un t).p (us st).a
 | .asgM i e,C,st=>(us st).tag==1&&oB (kZ (us st).l) fun t=>(un t).tag==1&&fe C (un t).s i&&mt T e C (us st).a&&(un (us st).a).tag==11&&qR e&&bB (C.kind (un t).s) .cell
 | .asgT is e,C,st=>(us st).tag==1&&oB (kZ (us st).l) fun t=>(un t).tag==2&&mtI C is (un t).l&&mt T e C (us st).a&&dG (us st).a&&(mr C (un t).l (us st).a==some none)
 | .asg2 i j e,C,st=>(us st).tag==1&&oB (kZ (us st).l) fun t=>(un t).tag==2&&oB (yF (un t).l) fun r=>(un r.1).tag==1&&(un r.2).tag==1&&fe C (un r.1).s i&&fe C (un r.2).s j&&mt T e C (us st).a&&dG (us st).a &&
   (mr C [r.1,r.2] (us st).a==some (some [(un r.1).s,(un r.2).s]))
 | .aug i op e,C,st=>(us st).tag==2&&(un (us st).a).tag==1&&decide ((us st).o=op)&&fe C (un (us st).a).s i&&mt T e C (us st).b
 | .augL i e,C,st=>(us st).tag==2&&(un (us st).a).tag==1&&decide ((us st).o=.Add)&&fe C (un (us st).a).s i&&mt T e C (us st).b
 | .expr e,C,st=>(us st).tag==3&&mt T e C (us st).a&&dG (us st).a
 | .ret e,C,st=>(us st).tag==4&&oB (us st).oe fun e'=>mt T e C e'
 | .ite c a b,C,st=>(us st).tag==5&&mt T c C (us st).a&&mss T a C (us st).x&&mss T b C (us st).y
 | .whil _ c b,C,st=>(us st).tag==6&&(us st).y.isEmpty&&mt T c C (us st).a&&mss T b C (us st).x
 | .for_ tg it b,C,st=>(us st).tag==7&&(us st).y.isEmpty&&mtg C tg (us st).a&&mt T it C (us st).b&&gv (us st).b&&mss T b C (us st).x
 | .dead,_,_=>true
 | .brk,_,st=>(us st).tag==10
 | .pass,_,st=>(us st).tag==11
 | .asrt c,C,st=>(us st).tag==8&&(us st).oe.isNone&&mt T c C (us st).a
 | .del o i,C,st=>(us st).tag==9&&oB (kZ (us st).l) fun t=>(un t).tag==9&&mt T o C (un t).a&&mt T (ixE i) C (un t).b
noncomputable def mss(T:Tab):Sx->Cx->List Stmt->Bool
 | .skip,_,l=>l.isEmpty
 | .seq a b,C,l=>match l with
  | st::rest=>mst T a C st&&mss T b C rest
  | []=>false
 | .asg _ _,_,_=>false
 | .asgM _ _,_,_=>false
 | .asgT _ _,_,_=>false
 | .asg2 _ _ _,_,_=>false
 | .aug _ _ _,_,_=>false
 | .augL _ _,_,_=>false
 | .expr _,_,_=>false
 | .ret _,_,_=>false
 | .ite _ _ _,_,_=>false
 | .whil _ _ _,_,_=>false
 | .for_ _ _ _,_,_=>false
 | .brk,_,_=>false
 | .dead,_,_=>false
 | .pass,_,_=>false
 | .asrt _,_,_=>false
 | .del _ _,_,_=>false
end
section
variable {G:Wd} {A:Around} {C C':Cx} {env cenv:Env} {W W':List Addr} {η η' η₁ η₂ bi:ab} {σ σ' σ₁ σ₂ aj:List AO} {T:Tab} {F:Fn}
noncomputable def QE(G:Wd)(A:Around)(T:Tab)(F:Fn)(x:Sx):Prop:=∀ C st,mst T x C st=true->∀ env W σ η fl σ' η',exs F x σ η=some (fl,σ',η')->Es G A C env W st σ η fl σ' η'
noncomputable def QS(G:Wd)(A:Around)(T:Tab)(F:Fn)(x:Sx):Prop:=∀ C l,mss T x C l=true->∀ env W σ η fl σ' η',exs F x σ η=some (fl,σ',η')->Ess G A C env W l σ η fl σ' η'
theorem fS{o:Option NameKind}{k:NameKind}(h:bB o k=true):o=some k:=by
 revert h;cases o with
 | none=>intro h;exact ftr h
 | some j=>cases j <;> cases k <;> intro h <;> first | rfl | exact ftr h
theorem Es.of_eq{st st':Stmt}{fl:Fl}(h:st=st')(x:Es G A C env W st' σ η fl σ' η'):Es G A C env W st σ η fl σ' η':=by exact(h)▸(x)
section
variable {st:Stmt}
theorem us1(h:((us st).tag==1)=true){t:Expr}(ho:kZ (us st).l=some t):st=.Assign [t] (us st).a (us st).p:=(tV (k:=0) (beq_iff_eq.mp h)).trans (congrArg (fun l=>Stmt.Assign l _ _) (mQ ho))
theorem us2(h:((us st).tag==2)=true){o:Operator}(ho:(us st).o=o):st=.AugAssign (us st).a o (us st).b (us st).p:=ho▸tV (k:=1) (beq_iff_eq.mp h)
theorem us3(h:((us st).tag==3)=true):st=.Expr (us st).a (us st).p:=tV (k:=2) (beq_iff_eq.mp h)
theorem us4(h:((us st).tag==4)=true){e:Expr}(ho:(us st).oe=some e):st=.Return (some e) (us st).p:=ho▸tV (k:=3) (beq_iff_eq.mp h)
theorem us5(h:((us st).tag==5)=true):st=.If (us st).a (us st).x (us st).y (us st).p:=tV (k:=4) (beq_iff_eq.mp h)
theorem us6(h:((us st).tag==6)=true)(hy:(us st).y.isEmpty=true):st=.While (us st).a (us st).x [] (us st).p:=lD hy▸tV (k:=5) (beq_iff_eq.mp h)
theorem us7(h:((us st).tag==7)=true)(hy:(us st).y.isEmpty=true):st=.For (us st).a (us st).b (us st).x [] (us st).p:=lD hy▸tV (k:=6) (beq_iff_eq.mp h)
theorem us8(h:((us st).tag==8)=true)(hy:(us st).oe.isNone=true):st=.Assert (us st).a none (us st).p:=Option.isNone_iff_eq_none.mp hy▸tV (k:=7) (beq_iff_eq.mp h)
theorem us9(h:((us st).tag==9)=true){t:Expr}(ho:kZ (us st).l=some t):st=.Delete [t] (us st).p:=(tV (k:=8) (beq_iff_eq.mp h)).trans (congrArg (fun l=>Stmt.Delete l _) (mQ ho))
theorem iL1(h:((us st).tag==10)=true):st=.Break (us st).p:=tV (k:=9) (beq_iff_eq.mp h)
theorem iK1(h:((us st).tag==11)=true):st=.Pass (us st).p:=tV (k:=10) (beq_iff_eq.mp h)
end
theorem xm{t t':Expr}{l:List Expr}(h:kZ l=some t)(e:t=t'):kZ l=some t':=e▸h
theorem Es.asgF{x:Var}{e:Expr}{p pos:Pos}{v:V}(hx:x∈C.vars)(ho:x.own=true)(hc:∀ env:Env,env.scope=C.scope->swapsWith e (some (.Name x.name p)) pos.line env=pure false)(h:Ev G A C env W e σ η v σ₁):Es G A C env W (.Assign [.Name x.name p] e pos) σ η .next σ₁ (η.set x.slot (some v)):=fun ρ s R N ht =>
 wpAny_Assign_Name (h.use R N ht fun cv am aa ah aJ aK av=>RE.store ah.rel aJ hx ho av fun aA aq ci=>⟨aa,ah.toW.trans aq,ci,rfl⟩) (hc env N.sc)
theorem jN{x:Str}{p spos cpos:Pos}{el:Expr}{gs:List Comprehension}{scope:Scope}(hk:C.kind x=some .cell)(env:Env)(he:env.scope=C.scope):swapsWith (.ListComp el gs scope cpos) (some (.Name x p)) spos.line env=pure false:=by
 show (pure (env.blockKind==.function&&env.kindOf x==some .local&&p.line==cpos.line&&!(scope.names.any fun (n,k)=>n==x&&(k==.local || k==.cell))):Sem Bool)=pure false
 have h2:env.kindOf x=some .cell:=by unfold Env.kindOf;exact(he)▸(hk)
 rw[h2,show ((some NameKind.cell:Option NameKind)==some NameKind.local)=false by decide]
 simp
theorem xK{e:Ex}(h:qR e=true):∃ vars tg elt it cond,e=.comp vars tg elt it cond:=by
 cases e <;> first | exact⟨_,_,_,_,_,rfl⟩ | exact ftr h
theorem uB(K:Ok G A T F){e:Ex}{e':Expr}(h:mt T e C e'=true)(ht:qR e=true){v:V}(e1:evx F e σ η=some (v,σ')) :
  ∃ el t i ifs scope pos out,e'=.ListComp el [⟨t,i,ifs,0⟩] scope pos/\v=.lst out/\∃ vars,CompR G A C env W el t i ifs scope vars σ η out σ':=by
 refine byQ fun Q kQ=>?_
 obtain ⟨vars,tg,elt,it,cond,rfl⟩:=xK ht
 refine ja1 (ke (env:=env) (W:=W) K (snd K elt).e (snd K it).e (snd K cond).t h e1) fun el t i ifs scope pos out h1 h2 h3=>?_
 refine kQ ?_
 exact⟨el,t,i,ifs,scope,pos,out,h1,h2,vars,h3⟩
section
variable {r:Fl×List AO×ab} {fl:Fl} {P:Prop}
theorem qr{Q:Fl->List AO->ab->Prop}{a:Fl}(h:some (a,σ,η)=some (fl,σ',η'))(q:Q a σ η):Q fl σ' η':=by
 cases h;exact q
theorem if1{o:Option (V×List AO)}{k:V->List AO->Out}(h:(match o with | some (x,σ)=>k x σ | none=>none)=some r)(q:∀ x σ,o=some (x,σ)->k x σ=some r->P):P:=dV h q
theorem iW1{o:Option (V×List AO)}{k:V->V->List AO->Out}(h:(match o with | some (.tup [u,v],σ)=>k u v σ | _=>none)=some r)(q:∀ u v σ,o=some (.tup [u,v],σ)->k u v σ=some r->P):P:=by
 cases o with
 | none=>exact nso h
 | some a =>
  obtain ⟨a,c⟩:=a
  cases a <;> first | (exact nso h;done) | skip
  rename_i l
  cases l with
  | nil=>exact nso h
  | cons u l=>cases l with
   | nil=>exact nso h
   | cons v l=>cases l with
    | nil=>exact q u v c rfl h
    | cons=>exact nso h
theorem iZ1{o:Option (Option V)}{k:Nat->Out}(h:(match o with | some (some (.ref i))=>k i | _=>none)=some r)(q:∀ i,o=some (some (.ref i))->k i=some r->P):P:=by
 cases o with
 | none=>exact nso h
 | some a=>cases a with
  | none=>exact nso h
  | some v=>cases v <;> first | exact q _ rfl h | exact nso h
theorem kU1{o:Option AO}{v:V}{k:List V->List V->Out}(h:(match o,v with | some ⟨l,none⟩,.lst td=>k l td | _,_=>none)=some r)(q:∀ l td,o=some ⟨l,none⟩->v=.lst td->k l td=some r->P):P:=by
 cases o with
 | none=>exact nso h
 | some a =>
  obtain ⟨l,c⟩:=a
  cases c <;> first | (exact nso h;done) | skip
  cases v <;> first | exact q _ _ rfl rfl h | exact nso h
theorem kS1{o:Option (Bool×List AO)}{iD lg:List AO->Out}(h:(match o with | some (true,σ)=>iD σ | some (false,σ)=>lg σ | none=>none)=some r)(kU:∀ σ,o=some (true,σ)->iD σ=some r->P)(l9:∀ σ,o=some (false,σ)->lg σ=some r->P):P:=by
 cases o with
 | none=>exact nso h
 | some a =>
  obtain ⟨b,c⟩:=a
  cases b
  ·exact l9 c rfl h
  ·exact kU c rfl h
theorem kR1{o:Option (Bool×List AO)}{iD lg:List AO->Out}(h:(match o with | some (false,σ)=>lg σ | some (true,σ)=>iD σ | none=>none)=some r)(kU:∀ σ,o=some (true,σ)->iD σ=some r->P)(l9:∀ σ,o=some (false,σ)->lg σ=some r->P):P:=by
 cases o with
 | none=>exact nso h
 | some a =>
  obtain ⟨b,c⟩:=a
  cases b
  ·exact l9 c rfl h
  ·exact kU c rfl h
theorem iU1{o:Option (Bool×List AO)}{iD:List AO->Out}(h:(match o with | some (true,σ)=>iD σ | _=>none)=some r)(kU:∀ σ,o=some (true,σ)->iD σ=some r->P):P:=by
 cases o with
 | none=>exact nso h
 | some a =>
  obtain ⟨b,c⟩:=a
  cases b
  ·exact nso h
  ·exact kU c rfl h
theorem kH1{o:Option Nat}{k:Nat->Out}(h:(match o with | some j=>k j | none=>none)=some r)(q:∀ j,o=some j->k j=some r->P):P:=by
 cases o with
 | none=>exact nso h
 | some j=>exact q j rfl h
theorem kI1{o:Option ItS}{k:ItS->Out}(h:(match o with | some j=>k j | none=>none)=some r)(q:∀ j,o=some j->k j=some r->P):P:=io1 h q
theorem i01{o:Out}{k:List AO->ab->Out}(h:(match o with | some (.next,σ,η)=>k σ η | r=>r)=some (fl,σ',η'))(kU:∀ σ η,o=some (.next,σ,η)->k σ η=some (fl,σ',η')->P)(l9:fl≠.next->o=some (fl,σ',η')->P):P:=by
 cases o with
 | none=>exact nso h
 | some a =>
  obtain ⟨f,h_p⟩:=a;have s:=h_p.1;have e:=h_p.2
  cases f with
  | next=>exact kU _ _ rfl h
  | brk=>cases h;exact l9 nofun rfl
  | ret v=>cases h;exact l9 nofun rfl
theorem hQ1{o:Out}{k:List AO->ab->Out}(h:(match o with | some (.next,σ,η)=>k σ η | some (.brk,σ,η)=>some (.next,σ,η) | r=>r)=some (fl,σ',η'))(kU:∀ σ η,o=some (.next,σ,η)->k σ η=some (fl,σ',η')->P)
  (l9:fl=.next->o=some (.brk,σ',η')->P) (i31:∀ v,fl=.ret v->o=some (.ret v,σ',η')->P):P:=by
 cases o with
 | none=>exact nso h
 | some a =>
  obtain ⟨f,h_p⟩:=a;have s:=h_p.1;have e:=h_p.2
  cases f with
  | next=>exact kU _ _ rfl h
  | brk=>cases h;exact l9 rfl rfl
  | ret v=>cases h;exact i31 v rfl rfl
end
theorem eV1{st:Stmt}{i:Nat}{f:Expr->Bool}(hm:((us st).tag==1&&oB (kZ (us st).l) f)=true)(h1:∀ t,f t=true->((un t).tag==1)=true/\fe C (un t).s i=true) :
  ∃ t y,f t=true/\y∈C.vars/\y.name=(un t).s/\y.slot=i/\y.own=true/\st=.Assign [.Name y.name (un t).p] (us st).a (us st).p :=
 have h:=ak hm
 (rK h.2).elim fun t ht=>have g:=h1 t ht.2
 (bu g.2).elim fun y hy=>⟨t,y,ht.2,hy.1,hy.2.1,hy.2.2.1,hy.2.2.2,hy.2.1.symm▸us1 h.1 (xm ht.1 (un1 g.1))⟩
theorem dc1(K:Ok G A T F){i:Nat}{e:Ex}:QE G A T F (.asg i e):=fun C st hm env W σ η fl σ' η' he =>
 (eV1 (i:=i) hm fun t h=>ak (ak (ak h).1).1).elim fun t ⟨y,hm,hy,hyn,hi,ho,hs⟩=>Es.of_eq hs <| if1 he fun v σ₁ e1 he=>by
  have h3:=(ak hm).2
  have h2:=(ak (ak hm).1).2
  have hev:=(snd K e).e _ _ h2 env W _ _ _ _ e1
  refine qr (Q:=Es G A C env W _ σ η) he ?_
  subst hi
  replace h3:=(hyn)▸h3
  unfold cu1 at h3
  by_cases hlc:((un (us st).a).tag==11)=true
  ·rw[if_pos hlc] at h3
   rcases Bool.or_eq_true_iff.mp h3 with hk | h3
   ·rw[hO1 hlc] at hev ⊢
    exact Es.asgF hy ho (fun env he=>jN (fS hk) env he) hev
   ·refine byQ fun Q kQ=>?_
    have g3:=ak h3
    have g2:=ak g3.1
    have g1:=ak g2.1
    obtain ⟨el,t,ii,ifs,scope,pos,out,he1,rfl,vars,⟨n,v,st,σ₂,K1,q1,q2,q3,q4,q5⟩⟩:=uB (env:=env) (W:=W) K h2 g1.1 e1
    have g4:=(Bool.not_eq_true' _).mp g3.2
    have g5:=beq_iff_eq.mp g2.2
    refine kQ ?_
    rw[he1] at g4 g5 ⊢
    exact Es.asgComp K.hh K1 q1 hy ho (fS g1.2) g5 g4 q2 q3 q4 q5
  ·rw[if_neg hlc] at h3
   exact Es.asg hy ho h3 hev
theorem z8(K:Ok G A T F){i:Nat}{e:Ex}:QE G A T F (.asgM i e):=fun C st hm env W σ η fl σ' η' he =>
 (eV1 (i:=i) hm fun t h=>ak (ak (ak (ak (ak h).1).1).1).1).elim fun t h_i=>h91 h_i fun y hm hy hyn hi ho hs=>Es.of_eq hs <| kF1 he fun vs σ₁ e1 he=>by
  refine byQ fun Q kQ=>?_
  have h4:=ak hm
  have h3:=ak h4.1
  have h2:=(ak (ak h3.1).1).2
  obtain ⟨el,t',ii,ifs,scope,pos,out,he1,ho1,vars,⟨n,v,st',σ₂,K1,q1,q2,q3,q4,q5⟩⟩:=uB (env:=env) (W:=W) K h2 h3.2 e1
  cases ho1
  refine kQ ?_
  refine qr (Q:=Es G A C env W _ σ η) he ?_
  refine(he1)▸?_
  subst hi
  exact Es.asgF hy ho (fun env he=>jN (fS (hyn▸h4.2)) env he) (Ev.compM K.hh K1 q1 q2 q3 q4 q5)
theorem z0(K:Ok G A T F){is:List Nat}{e:Ex}:QE G A T F (.asgT is e):=fun C st hm env W σ η fl σ' η' he =>
 have h0:=ak hm
 (rK h0.2).elim fun t ht =>
 have h4:=ak ht.2
 have h3:=ak h4.1
 have h2:=ak h3.1
 have h1:=ak h2.1
 Es.of_eq (us1 h0.1 (xm ht.1 (un2 h1.1))) <| iT1 he fun vs σ₁ e1 he=>by
  have hl:=bh he
  obtain ⟨vars,hn,rfl⟩:=qK h1.2
  refine qr (Q:=Es G A C env W _ σ η) hl.2 ?_
  rw[kO]
  exact Es.asgT K.hh h3.2 (beq_iff_eq.mp h4.2) hn (by simpa using hl.1) ((snd K e).e _ _ h2.2 env W _ _ _ _ e1)
theorem z9(K:Ok G A T F){i j:Nat}{e:Ex}:QE G A T F (.asg2 i j e):=fun C st hm env W σ η fl σ' η' he =>
 have h0:=ak hm
 (rK h0.2).elim fun t ht =>
 have ht2:=ak ht.2
 (rK ht2.2).elim fun r hr =>
 have h5:=ak hr.2
 have h4:=ak h5.1
 have h3:=ak h4.1
 have h2:=ak h3.1
 have h1:=ak h2.1
 have h10:=ak h1.1
 iW1 he fun u v σ₁ e1 he=>by
  refine byQ fun Q kQ=>?_
  obtain ⟨x,hx,hxn,rfl,hxo⟩:=bu h1.2
  obtain ⟨y,hy,hyn,rfl,hyo⟩:=bu h2.2
  have e1x:=un1 h10.1
  have e2x:=un1 h10.2
  have h5:=beq_iff_eq.mp h5.2
  have hs:=us1 h0.1 (xm ht.1 (un2 ht2.1))
  rw[tY hr.1] at hs
  rw[← hxn] at h5 e1x
  rw[← hyn] at h5 e2x
  rw[e1x,e2x] at h5 hs
  refine kQ ?_
  exact Es.of_eq hs (qr (Q:=Es G A C env W _ σ η) he (Es.asg2 K.hh h4.2 h5 hx hxo hy hyo ((snd K e).e _ _ h3.2 env W _ _ _ _ e1)))
theorem eU1{st:Stmt}{op:Operator}{i:Nat}{b:Bool}(hm:((us st).tag==2&&(un (us st).a).tag==1&&decide ((us st).o=op)&&fe C (un (us st).a).s i&&b)=true) :
  ∃ x,x∈C.vars/\x.slot=i/\x.own=true/\st=.AugAssign (.Name x.name (un (us st).a).p) op (us st).b (us st).p :=
 have h1:=ak (ak hm).1
 have h2:=ak h1.1
 have h3:=ak h2.1
 (bu h1.2).elim fun x hx=>⟨x,hx.1,hx.2.2.1,hx.2.2.2,(us2 h3.1 (of_decide_eq_true h2.2)).trans (congrArg (fun z=>Stmt.AugAssign z op _ _) (hx.2.1.symm▸un1 h3.2))⟩
theorem db1(K:Ok G A T F){i:Nat}{op:Operator}{e:Ex}:QE G A T F (.aug i op e):=fun C st hm env W σ η fl σ' η' he =>
 (eU1 hm).elim fun x ⟨hx,hi,hxo,hs⟩=>Es.of_eq hs <| hV1 he fun u hu he=>dV he fun v σ₁ e1 he=>by
  refine byQ fun Q kQ=>?_
  refine aI (Option.map_eq_some_iff.mp he) fun w e3 e4=>?_
  subst hi
  cases e4
  refine kQ ?_
  exact Es.aug hx hxo hu ((snd K e).e _ _ (ak hm).2 env W _ _ _ _ e1) (r8 e3)
theorem zY(K:Ok G A T F){i:Nat}{e:Ex}:QE G A T F (.augL i e):=fun C st hm env W σ η fl σ' η' he =>
 (eU1 hm).elim fun x ⟨hx,hi,hxo,hs⟩=>Es.of_eq hs <| iZ1 he fun k hu he=>dV he fun v σ₁ e1 he=>kU1 he fun l td hσ hd he=>by
  subst hi
  exact qr (Q:=Es G A C env W _ σ η) (bh he).2 (Es.aug hx hxo hu ((snd K e).e _ _ (ak hm).2 env W _ _ _ _ e1) (iL hσ hd (bh he).1))
theorem zX(K:Ok G A T F){e:Ex}:QE G A T F (.expr e):=fun C st hm env W σ η fl σ' η' he =>
 have h2:=ak hm
 have h1:=ak h2.1
 Es.of_eq (us3 h1.1) <| dV he fun v σ₁ e1 he=>qr (Q:=Es G A C env W _ σ η) he (Es.expr h2.2 ((snd K e).e _ _ h1.2 env W _ _ _ _ e1))
theorem c61(K:Ok G A T F){e:Ex}:QE G A T F (.ret e):=fun C st hm env W σ η fl σ' η' he =>
 have h:=ak hm
 (rK h.2).elim fun r hr=>Es.of_eq (us4 h.1 hr.1) <| dV he fun v σ₁ e1 he=>qr (Q:=Es G A C env W _ σ η) he (Es.ret ((snd K e).e _ _ hr.2 env W _ _ _ _ e1))
theorem c71(K:Ok G A T F){c:Ex}{a b:Sx}(ha:QS G A T F a)(hb:QS G A T F b):QE G A T F (.ite c a b):=fun C st hm env W σ η fl σ' η' he =>
 have h3:=ak hm
 have h2:=ak h3.1
 have h1:=ak h2.1
 Es.of_eq (us5 h1.1) <| kS1 he
  (fun σ₁ e1 he=>Es.if_ ((snd K c).t _ _ h1.2 env W _ _ _ _ e1) (fun _=>ha _ _ h2.2 _ _ _ _ _ _ _ he) nofun)
  (fun σ₁ e1 he=>Es.if_ ((snd K c).t _ _ h1.2 env W _ _ _ _ e1) nofun (fun _=>hb _ _ h3.2 _ _ _ _ _ _ _ he))
theorem zZ(K:Ok G A T F){c:Ex}:QE G A T F (.asrt c):=fun C st hm env W σ η fl σ' η' he =>
 have h2:=ak hm
 have h1:=ak h2.1
 Es.of_eq (us8 h1.1 h1.2) <| iU1 he fun σ₁ e1 he=>qr (Q:=Es G A C env W _ σ η) he (Es.assert K.hh ((snd K c).t _ _ h2.2 env W _ _ _ _ e1))
theorem da1:QE G A T F .brk:=fun C st hm env W σ η fl σ' η' he=>qr (Q:=Es G A C env W _ σ η) he (Es.of_eq (iL1 hm) Es.brk)
theorem zW:QE G A T F .pass:=fun C st hm env W σ η fl σ' η' he=>qr (Q:=Es G A C env W _ σ η) he (Es.of_eq (iK1 hm) Es.pass)
theorem xJ(i:Int):evx F (ixE i) σ η=some (.int i,σ):=by
 unfold ixE
 by_cases h:i<0
 ·rw[if_pos h]
  exact congrArg (fun z=>some (V.int z,σ)) (Int.neg_neg i)
 ·rw[if_neg h];rfl
theorem c91(K:Ok G A T F){o:Ex}{i:Int}:QE G A T F (.del o i):=fun C st hm env W σ η fl σ' η' he =>
 have h:=ak hm
 (rK h.2).elim fun t ht =>
 have h2:=ak ht.2
 have h1:=ak h2.1
 Es.of_eq (us9 h.1 (xm ht.1 (un9 h1.1))) <| fm1 he fun k σ₁ e1 he=>fF1 he fun l hσ he=>kH1 (bh he).2 fun j hj he'=>qr (Q:=Es G A C env W _ σ η) he'
  (Es.del ((snd K o).e _ _ h1.2 env W _ _ _ _ e1) ((snd K _).e _ _ h2.2 env W _ _ _ _ (xJ i)) (vM hσ (bh he).1 hj rfl))
theorem tQ{test:Expr}{body:List Stmt}{c:List AO->ab->Option (Bool×List AO)}{b:List AO->ab->Out}(hc:∀ σ η k σ',c σ η=some (k,σ')->Et G A C env W test σ η k σ')
  (hb:∀ σ η fl σ' η',b σ η=some (fl,σ',η')->Ess G A C env W body σ η fl σ' η'):∀ (n:Nat) (σ:List AO) (η:ab) (fl:Fl) (σ':List AO) (η':ab),whN c b n σ η=some (fl,σ',η')->∃ m,WhR G A C env W test body m σ η fl σ' η':=by
 intro n
 induction n with
 | zero=>intro _ _ _ _ _ h;exact nso h
 | succ n ih =>
  intro σ η fl σ' η' h
  exact kR1 h (fun σ₁ e1 h=>hQ1 h (fun σ₂ η₂ e2 h=>(ih _ _ _ _ _ h).elim fun m hr=>⟨m+1,.turn (hc _ _ _ _ e1) (hb _ _ _ _ _ e2) hr⟩)
   (fun hf e2=>⟨0,hf▸.brk (hc _ _ _ _ e1) (hb _ _ _ _ _ e2)⟩) fun v hf e2=>⟨0,hf▸.ret (hc _ _ _ _ e1) (hb _ _ _ _ _ e2)⟩)
   fun σ₁ e1 h=>⟨0,qr (Q:=WhR G A C env W test body 0 σ η) h (.stop (hc _ _ _ _ e1))⟩
theorem i11{P:Prop}{fl:Fl}{o:Option (Option (V×ItS))}{iD:Out}{k:V->ItS->Out}(h:(match o with | none=>none | some none=>iD | some (some (x,st))=>k x st)=some (fl,σ',η'))(kU:o=some none->iD=some (fl,σ',η')->P)(l9:∀ x st,o=some (some (x,st))->k x st=some (fl,σ',η')->P):P:=hU1 h kU l9
theorem vx{tg:Ex}{t:Expr}{body:List Stmt}{b:List AO->ab->Out}(hh:A.handled=none)(hm:mtg C tg t=true)
  (hb:∀ σ η fl σ' η',b σ η=some (fl,σ',η')->Ess G A C env W body σ η fl σ' η'):∀ (n:Nat) (st:ItS) (σ:List AO) (η:ab) (fl:Fl) (σ':List AO) (η':ab),foN tg b n st σ η=some (fl,σ',η')->∃ m,FoR G A C env W t body m st σ η fl σ' η':=by
 intro n
 induction n with
 | zero=>intro _ _ _ _ _ _ h;exact nso h
 | succ n ih =>
  intro st σ η fl σ' η' h
  exact i11 h (fun hst h=>⟨0,qr (Q:=FoR G A C env W t body 0 st σ η) h (.stop hst)⟩) fun x st' hst h=>ib1 h fun η₁ ha h =>
   have a:=ja hh hm ha env W
   hQ1 h (fun σ₂ η₂ e2 h=>(ih _ _ _ _ _ _ h).elim fun m hr=>⟨m+1,.turn hst a (hb _ _ _ _ _ e2) hr⟩)
    (fun hf e2=>⟨0,hf▸.brk hst a (hb _ _ _ _ _ e2)⟩) fun v hf e2=>⟨0,hf▸.ret hst a (hb _ _ _ _ _ e2)⟩
theorem zV(K:Ok G A T F){n:Nat}{c:Ex}{b:Sx}(hb:QS G A T F b):QE G A T F (.whil n c b):=fun C st hm env W σ η fl σ' η' he =>
 have h3:=ak hm
 have h2:=ak h3.1
 have h1:=ak h2.1
 (tQ (fun σ η k σ' e=>(snd K c).t _ _ h2.2 env W _ _ _ _ e) (fun σ η fl σ' η' e=>hb _ _ h3.2 env W _ _ _ _ _ e) _ _ _ _ _ _ he).elim fun m hr=>Es.of_eq (us6 h1.1 h1.2) (Es.while hr)
theorem c81(K:Ok G A T F){tg it:Ex}{b:Sx}(hb:QS G A T F b):QE G A T F (.for_ tg it b):=fun C st hm env W σ η fl σ' η' he =>
 have h5:=ak hm
 have h4:=ak h5.1
 have h3:=ak h4.1
 have h2:=ak h3.1
 have h1:=ak h2.1
 Es.of_eq (us7 h1.1 h1.2) <| if1 he fun x σ₁ e1 he=>kI1 he fun s hst he =>
  (vx K.hh h2.2 (fun σ η fl σ' η' e=>hb _ _ h5.2 env W _ _ _ _ _ e) _ _ _ _ _ _ _ he).elim fun m hr=>Es.for_ K.hh h4.2 ((snd K it).e _ _ h3.2 env W _ _ _ _ e1) hst hr
structure SndS (G:Wd) (A:Around) (T:Tab) (F:Fn) (x:Sx):Prop where
 e:QE G A T F x
 s:QS G A T F x
noncomputable def gB1(x:Sx):Bool:=!(x.ctorIdx==0 || x.ctorIdx==1)
theorem eH{x:Sx}(h:QE G A T F x)(hs:gB1 x=true):SndS G A T F x:=⟨h,fun C l hm=>by
 cases x <;> first | (exact ftr hs;done) | cases hm⟩
theorem i21(K:Ok G A T F)(x:Sx):SndS G A T F x:=by
 induction x with
 | skip=>exact⟨fun C st hm=>(nomatch (show false=true from hm)),fun C l hm env W σ η fl σ' η' he=>lD hm▸qr (Q:=Ess G A C env W [] σ η) he Ess.nil⟩
 | seq a b ha hb =>
  refine⟨fun C st hm=>(nomatch (show false=true from hm)),fun C l hm env W σ η fl σ' η' he=>?_⟩
  cases l with
  | nil=>exact ftr hm
  | cons st l =>
   have h:=ak hm
   exact i01 he (fun σ₁ η₁ e1 he=>Ess.cons (ha.e _ _ h.1 env W _ _ _ _ _ e1) (hb.s _ _ h.2 env W _ _ _ _ _ he)) fun hf he=>Ess.stop hf (ha.e _ _ h.1 env W _ _ _ _ _ he)
 | asg i e=>exact eH (dc1 K) rfl
 | asgM i e=>exact eH (z8 K) rfl
 | asgT is e=>exact eH (z0 K) rfl
 | asg2 i j e=>exact eH (z9 K) rfl
 | aug i op e=>exact eH (db1 K) rfl
 | augL i e=>exact eH (zY K) rfl
 | expr e=>exact eH (zX K) rfl
 | ret e=>exact eH (c61 K) rfl
 | ite c a b ha hb=>exact eH (c71 K ha.s hb.s) rfl
 | whil n c b hb=>exact eH (zV K hb.s) rfl
 | for_ tg it b hb=>exact eH (c81 K hb.s) rfl
 | dead=>exact eH (fun C st hm env W σ η fl σ' η' he=>nomatch (show none=some _ from he)) rfl
 | brk=>exact eH da1 rfl
 | pass=>exact eH zW rfl
 | asrt c=>exact eH (zZ K) rfl
 | del o i=>exact eH (c91 K) rfl
end
noncomputable abbrev rm:=List V->List AO->Option (V×List AO)
set_option genInjectivity false in
set_option genSizeOf false in
inductive En where
 | code (np more:Nat) (body:Sx)
 | prim (p:rm)
noncomputable def n9(F:Fn)(np more:Nat)(body:Sx):rm:=fun vs σ =>
 if vs.length=np then match exs F body σ (aO vs more) with
  | some (.ret v,σ₁,_)=>some (v,σ₁)
  | some (.next,σ₁,_)=>some (.none,σ₁)
  | _=>none
 else none
noncomputable def lev(tab:Nat->Option En):Nat->Fn
 | 0,_,_,_=>none
 | n+1,f,vs,σ=>match tab f with
  | some (.code np more body)=>n9 (lev tab n) np more body vs σ
  | some (.prim p)=>p vs σ
  | none=>none
noncomputable def fC(G:Wd)(A:Around)(x:Str)(p:rm):Prop:=∀ {C env W η σ σ₁ σ₂ q pos} {args:List Expr} {vs:List V} {v:V},C.kind x=some .globalImplicit->(x==("__debug__":Str))=false->aH args=true ->
  Evs G A C env W args σ η vs σ₁->p vs σ₁=some (v,σ₂)->Ev G A C env W (.Call (.Name x q) args [] pos) σ η v σ₂
noncomputable def fA(G:Wd)(A:Around)(n:Str)(p:rm):Prop:=∀ {C env W η σ σ₁ σ₂ aj q pos} {o:Expr} {args:List Expr} {vs:List V} {v:V} {k l i},b9 o=true->aH args=true->args.length<29->(q.endLine==pos.line)=true ->
  Ev G A C env W o σ η (.ref k) σ₁->σ₁[k]?=some ⟨l,some i⟩->Evs G A C env W args σ₁ η vs σ₂->p (.ref k::vs) σ₂=some (v,aj)->Ev G A C env W (.Call (.Attribute o n q) args [] pos) σ η v aj
noncomputable def fc1(G:Wd)(T:Tab)(x:Str):En->Prop
 | .code np more body=>∃ a fd b C ns,Gl G x (.ref a)/\Def G a fd b C ns/\ns.length=np/\mss T body C b=true
 | .prim p=>∀ n A,Room A (n+4)->fC G A x p
noncomputable def iD1(G:Wd)(n:Str):En->Prop
 | .code _ _ _=>False
 | .prim p=>∀ m A,Room A (m+4)->fA G A n p
structure TabOk (G:Wd) (T:Tab) (tab:Nat->Option En):Prop where
 bf:∀ f:Bf,Gl G (Str.ofString f.id) (.builtin f.id)
 rng:Gl G "range" (.type "range")
 lst:Gl G "list" (.type "list")
 gs:∀ x l,T.gs x=some l->l.length<=lim/\∃ t,Gl G x (.str ⟨l.toArray⟩ t)
 call:∀ f x,T.name f=some x->∀ e,tab f=some e->fc1 G T x e
 meth:∀ f n,T.meth f=some n->∀ e,tab f=some e->iD1 G n e
theorem gr1{o:Option (Fl×List AO×ab)}{r:V×List AO}{P:Prop} (h:(match o with
  | some (.ret v,σ₁,_)=>some (v,σ₁)
  | some (.next,σ₁,_)=>some (V.none,σ₁)
  | _=>none)=some r) (q:∀ fl η,o=some (fl,r.2,η)->(fl=.ret r.1\/fl=.next/\r.1=.none)->P):P:=by
 cases o with
 | none=>exact nso h
 | some o =>
  obtain ⟨fl,σ₁,η⟩:=o
  cases fl with
  | ret v=>obtain rfl:=siX h;exact q _ η rfl (.inl rfl)
  | next=>obtain rfl:=siX h;exact q _ η rfl (.inr ⟨rfl,rfl⟩)
  | brk=>exact nso h
theorem it1{β:Type}{o:Option En}{f:Nat->Nat->Sx->Option β}{g:rm->Option β}{r:β}{P:Prop} (h:(match o with
  | some (.code np more body)=>f np more body
  | some (.prim p)=>g p
  | none=>none)=some r) (q:∀ np more body,o=some (.code np more body)->f np more body=some r->P) (q2:∀ p,o=some (.prim p)->g p=some r->P):P:=by
 cases o with
 | none=>exact nso h
 | some e=>cases e with
  | code a b c=>exact q a b c rfl h
  | prim p=>exact q2 p rfl h
theorem jT{G:Wd}{A:Around}{T:Tab}{F:Fn}{a:Addr}{fd:FuncData}{b:List Stmt}{C:Cx}{ns:List Str}{np more n:Nat}{body:Sx}{vs:List V}{v:V}{σ σ':List AO}
  (D:Def G a fd b C ns) (hn:ns.length=np) (hm:mss T body C b=true) (hr:Room A (n+1)) (K:∀ A',Room A' n->Ok G A' T F) (h:n9 F np more body vs σ=some (v,σ')):On G A (fun cvs=>PySem.call (.ref a) cvs) σ vs v σ':=by
 have h':=bh h
 refine gr1 h'.2 fun fl η e1 hf=>?_
 exact On.def D hr (h'.1.trans hn.symm) hf fun A' env W hA=>(i21 (K A' hA) body).s _ _ hm env W _ _ _ _ _ e1
theorem dT1{G:Wd}{T:Tab}{tab:Nat->Option En}(H:TabOk G T tab)(n:Nat):∀ (A:Around),Room A (n+4)->Ok G A T (lev tab n):=by
 induction n with
 | zero=>exact fun A hr=>⟨hr.handled,by have:=hr.units;lia,H.bf,H.rng,H.lst,H.gs,fun _ _ _ {_ _ _ _ _ _ _ _ _ _ _ _} _ _ _ _ hF=>nso hF,fun _ _ _ {_ _ _ _ _ _ _ _ _ _ _ _ _ _ _ _ _} _ _ _ _ _ _ _ hF=>nso hF⟩
 | succ n ih =>
  refine fun A hr=>⟨hr.handled,by have:=hr.units;lia,H.bf,H.rng,H.lst,H.gs,?_,?_⟩
  ·intro f x hx C env W η σ σ₁ σ₂ p pos args vs v hk hd hns hE hF
   refine it1 (g:=fun p=>p vs σ₁) hF (fun np more body ht h=>?_) fun q ht h=>H.call f x hx _ ht (n+1) A hr hk hd hns hE h
   exact h41 (H.call f x hx _ ht) fun a fd b C' ns g D hl hm=>aI D.obj fun o ho hfd=>Ev.callF hk hd g hns ho D.la hfd hE (jT (n:=n+4) D hl hm hr ih h)
  ·intro f x hx C env W η σ σ₁ σ₂ aj p pos o args vs v k l i h1 h2 h3 h4 h5 h6 h7 hF
   exact it1 (g:=fun p=>p (.ref k::vs) σ₂) hF (fun np more body ht h=>(H.meth f x hx _ ht).elim) fun q ht h=>H.meth f x hx _ ht (n+1) A hr h1 h2 h3 h4 h5 h6 h7 h
section
variable {F:Fn} {σ:List AO} {η:ab}
theorem tG{v:V}:evx F (.cst v) σ η=(some (v,σ)):=rfl
theorem tF{l:List Nat}:evx F (.glo l) σ η=(some (.str l,σ)):=rfl
theorem ql{i:Nat}:evx F (.loc i) σ η=(match η[i]? with
  | some (some v)=>some (v,σ)
  | _=>none):=rfl
theorem tB :evx F (.nil) σ η=(some (.none,σ)):=rfl
theorem tv{es:Ex}:evx F (.tup es) σ η=(match evs F es σ η with
  | some (vs,σ₁)=>if vs.length<=lim then some (.tup vs,σ₁) else none
  | none=>none):=rfl
theorem tD{es:Ex}:evx F (.lst es) σ η=(match evs F es σ η with
  | some (vs,σ₁)=>if vs.length<=lim then some (.lst vs,σ₁) else none
  | none=>none):=rfl
theorem tC{es:Ex}:evx F (.new es) σ η=(match evs F es σ η with
  | some (vs,σ₁)=>if vs.length<=lim then some (.ref σ₁.length,σ₁++[⟨vs,none⟩]) else none
  | none=>none):=rfl
theorem tI{op:Operator}{a:Ex}{b:Ex}:evx F (.bin op a b) σ η=(match evx F a σ η with
  | some (x,σ₁)=>match evx F b σ₁ η with
   | some (y,σ₂)=>(te op x y).map fun v=>(v,σ₂)
   | none=>none
  | none=>none):=rfl
theorem qk{a:Ex}:evx F (.neg a) σ η=(match evx F a σ η with
  | some (.int i,σ₁)=>some (.int (-i),σ₁)
  | _=>none):=rfl
theorem qj{a:Ex}:evx F (.not a) σ η=(match evx F a σ η with
  | some (x,σ₁)=>(aM x).map fun b=>(.bool (!b),σ₁)
  | none=>none):=rfl
theorem tH{op:CmpOp}{a:Ex}{b:Ex}:evx F (.cmp op a b) σ η=(match evx F a σ η with
  | some (x,σ₁)=>match evx F b σ₁ η with
   | some (y,σ₂)=>(f6 op σ₂ x y).map fun k=>(.bool k,σ₂)
   | none=>none
  | none=>none):=rfl
theorem qo{bS:CmpOp}{bO:CmpOp}{a:Ex}{b:Ex}{c:Ex}:evx F (.chain bS bO a b c) σ η=(match evx F a σ η with
  | some (x,σ₁)=>match evx F b σ₁ η with
   | some (y,σ₂)=>match f6 bS σ₂ x y with
    | some false=>some (.bool false,σ₂)
    | some true=>match evx F c σ₂ η with
     | some (z,aj)=>(f6 bO aj y z).map fun k=>(.bool k,aj)
     | none=>none
    | none=>none
   | none=>none
  | none=>none):=rfl
theorem qp{a:Ex}{b:Ex}:evx F (.and a b) σ η=(match evx F a σ η with
  | some (x,σ₁)=>match aM x with
   | some true=>evx F b σ₁ η
   | some false=>some (x,σ₁)
   | none=>none
  | none=>none):=rfl
theorem wv{a:Ex}{b:Ex}:evx F (.or a b) σ η=(match evx F a σ η with
  | some (x,σ₁)=>match aM x with
   | some false=>evx F b σ₁ η
   | some true=>some (x,σ₁)
   | none=>none
  | none=>none):=rfl
theorem qm{c:Ex}{a:Ex}{b:Ex}:evx F (.ite c a b) σ η=(match evx F c σ η with
  | some (x,σ₁)=>match aM x with
   | some true=>evx F a σ₁ η
   | some false=>evx F b σ₁ η
   | none=>none
  | none=>none):=rfl
theorem tE{a:Ex}{i:Ex}:evx F (.idx a i) σ η=(match evx F a σ η with
  | some (x,σ₁)=>match evx F i σ₁ η with
   | some (y,σ₂)=>(dW σ₂ x y).map fun v=>(v,σ₂)
   | none=>none
  | none=>none):=rfl
theorem tz{a:Ex}{lo:Ex}{hi:Ex}{st:Ex}:evx F (.slc a lo hi st) σ η=(match evx F a σ η with
  | some (x,σ₁)=>match evx F lo σ₁ η with
   | some (l,σ₂)=>match evx F hi σ₂ η with
    | some (h,aj)=>match evx F st aj η with
     | some (s,σ₄)=>(rB σ₄ x l h s).map fun v=>(v,σ₄)
     | none=>none
    | none=>none
   | none=>none
  | none=>none):=rfl
theorem g7{vars:List Var}{tg:Ex}{elt:Ex}{it:Ex}{cond:Ex}:evx F (.comp vars tg elt it cond) σ η=(match evx F it σ η with
  | some (x,σ₁)=>match ba x with
   | some st=>match cR tg (fun σ η=>match cond with
     | .nil=>some (true,σ)
     | c=>match evx F cond σ η with
      | some (y,σ')=>(aM y).map fun b=>(b,σ')
      | none=>none) (fun σ η=>evx F elt σ η) (st.fuel σ₁) st σ₁ (clr η vars) with
    | some (out,σ₂)=>if out.length<=lim then some (.lst out,σ₂) else none
    | none=>none
   | none=>none
  | none=>none):=rfl
theorem zo{f:Bf}{args:Ex}:evx F (.bf f args) σ η=(match evs F args σ η with
  | some (vs,σ₁)=>(bfF f σ₁ vs).map fun v=>(v,σ₁)
  | none=>none):=rfl
theorem er{args:Ex}:evx F (.range args) σ η=(match evs F args σ η with
  | some (vs,σ₁)=>(uA vs).map fun v=>(v,σ₁)
  | none=>none):=rfl
theorem zn{args:Ex}:evx F (.list args) σ η=(match evs F args σ η with
  | some (vs,σ₁)=>(aO1 vs).map fun v=>(v,σ₁)
  | none=>none):=rfl
theorem zm{f:Me}{o:Ex}{args:Ex}:evx F (.me f o args) σ η=(match evx F o σ η with
  | some (x,σ₁)=>if mq σ₁ x=some f.T then match evs F args σ₁ η with
   | some (vs,σ₂)=>(meF f σ₂ x vs).map fun v=>(v,σ₂)
   | none=>none
   else none
  | none=>none):=rfl
theorem b71{o:Ex}{y:List Nat}{z:List Nat}:evx F (.rep o y z) σ η=(match evx F o σ η with
  | some (.str x,σ₁)=>(meF .replace σ₁ (.str x) [.str y,.str z]).map fun v=>(v,σ₁)
  | _=>none):=rfl
theorem eX{o:Ex}{x:Ex}:evx F (.append o x) σ η=(match evx F o σ η with
  | some (.ref k,σ₁)=>match σ₁[k]? with
   | some ⟨_,none⟩=>match evx F x σ₁ η with
    | some (v,σ₂)=>match σ₂[k]? with
     | some ⟨l,none⟩=>if l.length<lim then some (.none,σ₂.set k ⟨l++[v],none⟩) else none
     | _=>none
    | none=>none
   | _=>none
  | _=>none):=rfl
theorem b81{o:Ex}:evx F (.pop o) σ η=(match evx F o σ η with
  | some (.ref k,σ₁)=>match σ₁[k]? with
   | some ⟨l,none⟩=>match l.getLast? with
    | some v=>some (v,σ₁.set k ⟨l.dropLast,none⟩)
    | none=>none
   | _=>none
  | _=>none):=rfl
theorem om{f:Nat}{args:Ex}:evx F (.call f args) σ η=(match evs F args σ η with
  | some (vs,σ₁)=>F f vs σ₁
  | none=>none):=rfl
theorem ky{f:Nat}{o:Ex}{args:Ex}:evx F (.meth f o args) σ η=(match evx F o σ η with
  | some (.ref k,σ₁)=>match σ₁[k]? with
   | some ⟨_,some _⟩=>match evs F args σ₁ η with
    | some (vs,σ₂)=>F f (.ref k::vs) σ₂
    | none=>none
   | _=>none
  | _=>none):=rfl
theorem qi :evs F (.nil) σ η=(some ([],σ)):=rfl
theorem kx{e:Ex}{es:Ex}:evs F (.cons e es) σ η=(match evx F e σ η with
  | some (v,σ₁)=>match evs F es σ₁ η with
   | some (vs,σ₂)=>some (v::vs,σ₂)
   | none=>none
  | none=>none):=rfl
theorem og :exs F (.skip) σ η=(some (.next,σ,η)):=rfl
theorem gZ{a:Sx}{b:Sx}:exs F (.seq a b) σ η=(match exs F a σ η with
  | some (.next,σ₁,η₁)=>exs F b σ₁ η₁
  | r=>r):=rfl
theorem qh{i:Nat}{e:Ex}:exs F (.asg i e) σ η=(match evx F e σ η with
  | some (v,σ₁)=>some (.next,σ₁,η.set i (some v))
  | none=>none):=rfl
theorem zl{i:Nat}{e:Ex}:exs F (.asgM i e) σ η=(match evx F e σ η with
  | some (.lst vs,σ₁)=>some (.next,σ₁++[⟨vs,none⟩],η.set i (some (.ref σ₁.length)))
  | _=>none):=rfl
theorem oj{is:List Nat}{e:Ex}:exs F (.asgT is e) σ η=(match evx F e σ η with
  | some (.tup vs,σ₁)=>if vs.length=is.length then some (.next,σ₁,yH η is vs) else none
  | _=>none):=rfl
theorem kr{i:Nat}{j:Nat}{e:Ex}:exs F (.asg2 i j e) σ η=(match evx F e σ η with
  | some (.tup [u,v],σ₁)=>some (.next,σ₁,(η.set j (some v)).set i (some u))
  | _=>none):=rfl
theorem b61{i:Nat}{op:Operator}{e:Ex}:exs F (.aug i op e) σ η=(match η[i]? with
  | some (some u)=>match evx F e σ η with
   | some (v,σ₁)=>(bY1 op u v).map fun w=>(.next,σ₁,η.set i (some w))
   | none=>none
  | _=>none):=rfl
theorem kp{e:Ex}:exs F (.expr e) σ η=(match evx F e σ η with
  | some (v,σ₁)=>some (.next,σ₁,η)
  | none=>none):=rfl
theorem qf{e:Ex}:exs F (.ret e) σ η=(match evx F e σ η with
  | some (v,σ₁)=>some (.ret v,σ₁,η)
  | none=>none):=rfl
theorem qg{c:Ex}{a:Sx}{b:Sx}:exs F (.ite c a b) σ η=(match evt F c σ η with
  | some (true,σ₁)=>exs F a σ₁ η
  | some (false,σ₁)=>exs F b σ₁ η
  | none=>none):=rfl
theorem zj{n:Nat}{c:Ex}{b:Sx}:exs F (.whil n c b) σ η=(whN (fun σ η=>evt F c σ η) (fun σ η=>exs F b σ η) n σ η):=rfl
theorem yw{tg:Ex}{it:Ex}{b:Sx}:exs F (.for_ tg it b) σ η=(match evx F it σ η with
  | some (x,σ₁)=>match ba x with
   | some st=>foN tg (fun σ η=>exs F b σ η) (st.fuel σ₁) st σ₁ η
   | none=>none
  | none=>none):=rfl
theorem tu :exs F (.brk) σ η=(some (.brk,σ,η)):=rfl
theorem oh :exs F (.pass) σ η=(some (.next,σ,η)):=rfl
theorem kq{c:Ex}:exs F (.asrt c) σ η=(match evt F c σ η with
  | some (true,σ₁)=>some (.next,σ₁,η)
  | _=>none):=rfl
theorem xt{c:Ex}:evt F c σ η=(match evx F c σ η with
 | some (x,σ₁)=>(aM x).map fun b=>(b,σ₁)
 | none=>none):=rfl
end
section
variable {G:Wd} {A:Around} {C C':Cx} {env cenv:Env} {W W':List Addr} {η η' η₁ η₂ bi:ab} {σ σ' σ₁ σ₂ aj:List AO}
theorem sV{prog:Program}{w:World}{knd:KeyKind prog w Int}{S:Int->Bool}{n:Nat}{a:Addr}{h h':Heap}(hS:h.SetOf knd a S n)(hk:∀ o,h.get? a=some o->h'.get? a=some o):h'.SetOf knd a S n:=by
 refine byQ fun Q kQ=>?_
 refine gu1 (hS) fun o es ep t ho r=>?_
 refine kQ ?_
 exact kB1 o es ep t (hk o ho) r
theorem Ev.inSet{knd:KeyKind G.prog G.w Int}(hkn:∀ i t,knd.is i (.int i t)=true){l:Expr}{x:Str}{p pos:Pos}{i:Int}{S:Int->Bool}{n:Nat}{a:Addr}(hk:C.kind x=some .globalImplicit)(hd:(x==("__debug__":Str))=false)(g:Gl G x (.ref a))
  (hS:G.s₀.heap.SetOf knd a S n) (ha:a ∉ G.loose) (dB:Ev G A C env W l σ η (.int i) σ₁):Ev G A C env W (.Compare l [.In] [.Name x p] pos) σ η (.bool (S i)) σ₁:=fun ρ s R N ht=>by
 refine wpAny_Compare1 (dB.use R N ht fun bz am aa ah aJ aK av=>RE.global ah.rel aJ hk hd g ?_) rfl
 obtain ⟨t,rfl⟩:=RV.int_iff av
 refine wpAny_inSet_of (hkn i t) rfl (sV hS fun o ho=>ah.rel.keep a o ha ho) ?_
 exact⟨aa,ah.trans (Step.toks ah.rel _),RV.bool_⟩
theorem Ev.dictGet{knd:KeyKind G.prog G.w Int}(hkn:∀ i t,knd.is i (.int i t)=true){arg:Expr}{x:Str}{p apos pos:Pos}{i:Int}{f:Int->Option Value}{v:V}{d:Addr}(hk:C.kind x=some .globalImplicit)(hd:(x==("__debug__":Str))=false)(g:Gl G x (.ref d))
  (hds:(d==sysModules)=false) (hno:∃ o,G.s₀.heap.get? d=some o/\o.cls=.type "dict"/\o.dict=none) (hM:∀ s:Shared,(∀ o,G.s₀.heap.get? d=some o->s.heap.get? d=some o)->s.heap.MapOf knd d f) (ha:d ∉ G.loose) (hv:∀ (h:Heap) ρ,RV h ρ v ((f i).getD .none)) (hn:fQ arg=true) (hline:(apos.endLine==pos.line)=true)
  (dB:Ev G A C env W arg σ η (.int i) σ₁):Ev G A C env W (.Call (.Attribute (.Name x p) "get" apos) [arg] [] pos) σ η v σ₁:=fun ρ s R N ht=>by
 have hn':aH [arg]=true:=by dsimp only[aH];rw[hn];rfl
 refine wpAny_Call_method_lateS (eD rfl _) ?_ hline ?_
 ·rw[dZ hn'];rfl
 ·refine RE.global R N hk hd g ?_
  refine a9 (hno) fun o h_p=>?_;have ho:=h_p.1;have hc:=h_p.2.1;have hdn:=h_p.2.2
  have hos:=R.keep d o ha ho
  refine gA1 ("dict") ("dict.get") F.plainAttrs_dict F.slot_dict_get F.type_dict_get ⟨o,hos,hc⟩ (fun b e=>by cases e;exact⟨o,hos,hdn⟩) ?_
  refine(a8 hn)▸?_
  refine wpAny_dict_get1 (knd:=knd) hds (dB.use R N ht fun bz am aa ah aJ aK av=>?_)
  obtain ⟨t,rfl⟩:=RV.int_iff av
  exact⟨i,f,hkn i t,hM am fun o ho=>ah.rel.keep d o ha ho,aa,ah.trans (Step.toks ah.rel _),hv _ _⟩
end
section
variable {G:Wd} {A:Around} {σ σ' σ₁:List AO}
section
variable {C:Cx} {env:Env} {W:List Addr} {η:ab}
theorem Ev.var{n:Str}{i:Nat}{v:V}{p:Pos}(h:cL C n i=true)(hv:η[i]?=some (some v)):Ev G A C env W (.Name n p) σ η v σ:=by
 refine byQ fun Q kQ=>?_
 obtain ⟨y,hy,rfl,rfl⟩:=cj h
 refine kQ ?_
 exact Ev.loc hy hv
end
noncomputable def eR1(P:Nat->Pos):List Stmt:=[.Return (some (.Compare (.Call (.Name "ord" (P 0)) [.Name "code" (P 1)] [] (P 2)) [.In] [.Name "b1_set" (P 3)] (P 4))) (P 5)]
noncomputable def b1M(C:Cx)(body:List Stmt):Prop:=∃ P:Nat->Pos,body=eR1 P/\(gx C "ord" "ord"&&cL C "code" 0&&gx C "b1_set" "b1_set")=true
theorem hC1{a d:Addr}{fd:FuncData}{body:List Stmt}{C:Cx}{n m k:Nat}{knd:KeyKind G.prog G.w Int}{S:Int->Bool}{c:Nat}(hkn:∀ i t,knd.is i (.int i t)=true)(D:Def G a fd body C ["code"])(hm:b1M C body)
  (hr:Room A (n+1)) (ho:Gl G "ord" (.builtin "ord")) (g:Gl G "b1_set" (.ref d)) (hS:G.s₀.heap.SetOf knd d S m) (hd:d ∉ G.loose) :
  On G A (fun cvs=>call (.ref a) cvs) σ [.str [c]] (.bool (S c)) σ:=by
 refine byQ fun Q kQ=>?_
 obtain ⟨P,rfl,hm⟩:=hm
 have q_1:=ak hm;have q_2:=ak q_1.1;have h1:=q_2.1;have h2:=q_2.2;have h4:=q_1.2
 have h_p:=bT h1;have k1:=h_p.2.1;have d1:=h_p.2.2
 have h_p:=bT h4;have k2:=h_p.2.1;have d2:=h_p.2.2
 refine kQ ?_
 refine On.def (k:=0) D hr rfl (.inl rfl) fun A' env W hA=>Ess.stop nofun (Es.ret (Ev.inSet hkn k2 d2 g hS hd (Ev.callB (id:="ord") k1 d1 ho rfl (Evs.cons rfl (Ev.var h2 rfl) Evs.nil) (i7 (f:=.ord) hA.handled (by rfl)))))
end
open Builtin Builtin.Str
section
variable {G:Wd} {A:Around} {σ σ' σ₁:List AO}
noncomputable def jp(c:Nat):List Nat:=(placed ⟨#[c]⟩ fun i _=>Unicode.lowerAt #[c] i).toList
theorem oT{c:Nat}(h:(jp c).length<=lim):On G A (fun cvs=>call (.builtin "str.lower") cvs) σ [.str [c]] (.str (jp c)) σ:=fun ρ s cvs R r ht=>by
 obtain ⟨bz,r',rfl,av,aF⟩:=RVs.cons_iff r
 refine(RVs.nil_iff aF)▸?_
 obtain ⟨_,t,rfl⟩:=RV.str_iff av
 have hsz:(placed ⟨#[c]⟩ fun i _=>Unicode.lowerAt #[c] i).size<=lim:=by unfold jp at h;simpa using h
 have hl:tooLong (placed ⟨#[c]⟩ fun i _=>Unicode.lowerAt #[c] i).size=false:=by
  unfold tooLong
  have:sizeLine=16777216:=rfl
  unfold lim at hsz
  simp;exact Nat.le_trans ‹_› (by decide)
 refine call_gives F.slot_str_lower (typeIs_str _ _ _) F.entry_str_lower (F.args_str_lower_1 _) (gives_str_lower ⟨#[c]⟩ t hl) ?_
 dsimp only[Made.post]
 exact⟨Nat.le_trans hsz (by decide),cG (x:=⟨placed ⟨#[c]⟩ fun i _=>Unicode.lowerAt #[c] i⟩) R h rfl⟩
end
theorem cN{n:Str}{c:Value}:∀ (ns:List Str) (cvs:List Value) (j:Nat),dU ns=true->ns[j]?=some n->cvs[j]?=some c->(ns.zip cvs).reverse.lookup n=some c
 | [],_,j,_,h,_=>by exact nso h
 | _::_,[],j,_,_,h=>by exact nso h
 | k::ns,v::cvs,0,hd,hn,hc=>by
  simp at hn hc
  subst hn hc
  dsimp only[dU] at hd
  obtain ⟨h1,h2⟩:=Bool.and_eq_true_iff.mp hd
  rw[List.zip_cons_cons,List.reverse_cons,List.lookup_append]
  have:(ns.zip cvs).reverse.lookup k=none:=by
   rw[List.lookup_eq_none_iff]
   intro p hp
   rw[List.mem_reverse] at hp
   have:=(List.of_mem_zip (a:=p.1) (b:=p.2) hp).1
   simp only[Bool.not_eq_true',List.contains_eq_mem,decide_eq_false_iff_not] at h1
   simp
   rintro rfl
   exact h1 this
  refine(this)▸?_
  simp [List.lookup]
 | k::ns,v::cvs,j+1,hd,hn,hc=>by
  dsimp only[dU] at hd
  obtain ⟨h1,h2⟩:=Bool.and_eq_true_iff.mp hd
  rw[List.zip_cons_cons,List.reverse_cons,List.lookup_append,cN ns cvs j h2 (by simpa using hn) (by simpa using hc)]
  rfl
noncomputable def iz(s:Scope):Bool:=s.names.all fun x=>!(x.2==NameKind.cell)
noncomputable def jb(s:Scope)(ns:List Str):Bool:=ns.all fun y=>s.names.lookup y==some NameKind.local
theorem eA{s:Scope}(h:iz s=true):∀ x∈s.names,x.2≠.cell:=fun x hx e=>by
 have q:=List.all_eq_true.mp h x hx
 replace q:=(e)▸q
 exact ftr q
theorem eE{s:Scope}{ns:List Str}(h:jb s ns=true):∀ y∈ns,s.names.lookup y=some .local:=fun y hy=>eq_of_beq (List.all_eq_true.mp h y hy)
structure DefM (G:Wd) (a:Addr) (fd:FuncData) (body:List Stmt) (C:Cx) (ns:List Str):Prop where
 obj:∃ o,G.s₀.heap.get? a=some o/\o.data=.func fd/\o.cls=.type "function"
 la:a ∉ G.loose
 nolimit:∃ mc,G.s₀.heap.Ns cStatics mc/\mc "sys.recursionlimit"=none
 ls:cStatics ∉ G.loose
 code:∃ c o vs t file tf,fd.code=.ref c/\c ∉ G.loose/\G.s₀.heap.get? c=some o/\o.data=.fields vs/\vs[1]?=some (.str fd.qualname t)/\vs[2]?=some (.str file tf)/\((G.prog.main.file:Str)==file)=true
 body:fd.body=.stmts body
 scope:fd.scope=C.scope
 glob:fd.globals=mainGlobals
 blt:fd.builtins=builtinsNs
 co:fd.scope.isCoroutine=false
 gen:fd.scope.isGenerator=false
 cells:∀ x∈fd.scope.names,x.2≠.cell
 locs:∀ n∈ns,fd.scope.names.lookup n=some .local
 ok:cQ C ns=true
section
variable {G:Wd} {A:Around} {C C':Cx} {env cenv:Env} {W W':List Addr} {η η' η₁ η₂ bi:ab} {σ σ' σ₁ σ₂ aj σ₄ bR:List AO} {ρ ρ' aa:Rho} {s s' am aA:Shared}
noncomputable def EssAt(G:Wd)(A:Around)(C:Cx)(env:Env)(W:List Addr)(body st:List Stmt)(σ:List AO)(η:ab)(fl:Fl)(σ':List AO)(η':ab):Prop :=
 ∀ ρ s,Rel G σ ρ s->RE G C env W η ρ s->0<s.toks->PySem.wpAt (model G.prog G.w) A (.func body env) (execs st env) (fun f s'=>0<s'.toks/\∃ ρ',StepW G W ρ s ρ' s' σ'/\RE G C env W η' ρ' s'/\RF s'.heap ρ' fl f) No s
noncomputable def EsAt(G:Wd)(A:Around)(C:Cx)(env:Env)(W:List Addr)(body:List Stmt)(st:Stmt)(σ:List AO)(η:ab)(fl:Fl)(σ':List AO)(η':ab):Prop :=
 ∀ ρ s,Rel G σ ρ s->RE G C env W η ρ s->0<s.toks->PySem.wpAt (model G.prog G.w) A (.func body env) (exec st env) (fun f s'=>0<s'.toks/\∃ ρ',StepW G W ρ s ρ' s' σ'/\RE G C env W η' ρ' s'/\RF s'.heap ρ' fl f) No s
theorem EsAt.of{body:List Stmt}{st:Stmt}{fl:Fl}(h:Es G A C env W st σ η fl σ' η'):EsAt G A C env W body st σ η fl σ' η':=fun ρ s R N ht =>
 wpAt_of_wpAny (h.use R N ht fun f am aa ah aJ aK av=>⟨aK,aa,ah,aJ,av⟩)
theorem EssAt.of{body st:List Stmt}{fl:Fl}(h:Ess G A C env W st σ η fl σ' η'):EssAt G A C env W body st σ η fl σ' η':=fun ρ s R N ht =>
 wpAt_of_wpAny (h.use R N ht fun f am aa ah aJ aK av=>⟨aK,aa,ah,aJ,av⟩)
theorem EssAt.cons{body rest:List Stmt}{st:Stmt}{fl:Fl}(h:EsAt G A C env W body st σ η .next σ₁ η₁)(hr:EssAt G A C env W body rest σ₁ η₁ fl σ₂ η₂):EssAt G A C env W body (st::rest) σ η fl σ₂ η₂:=fun ρ s R N ht =>
 ks_wpAt_execs_cons (ks_wpAt_mono (h ρ s R N ht) (fun f am ⟨aK,aa,ah,aJ,av⟩=>by
  have e:f=.next:=av
  subst e
  exact ks_wpAt_mono (hr aa am ah.rel aJ aK) ((by rintro f aA ⟨cU,au,aq,ci,aF⟩;exact⟨cU,au,ah.trans aq,ci,aF⟩)) fun _ _ f=>f.elim) fun _ _ f=>f.elim)
theorem EssAt.stop{body rest:List Stmt}{st:Stmt}{v:V}(h:EsAt G A C env W body st σ η (.ret v) σ₁ η₁):EssAt G A C env W body (st::rest) σ η (.ret v) σ₁ η₁:=fun ρ s R N ht =>
 ks_wpAt_execs_cons (ks_wpAt_mono (h ρ s R N ht) (fun f am ⟨aK,aa,ah,aJ,av⟩=>by
  obtain ⟨cv,h_p⟩:=av;obtain rfl:=h_p.1;have hv:=h_p.2
  exact⟨aK,aa,ah,aJ,cv,rfl,hv⟩) fun _ _ f=>f.elim)
theorem yO{fd:FuncData}{a L:Addr}{ns:List Str}{vs:List V}{cvs:List Value}{k:Nat}(P:cQ C ns=true)(hs:fd.scope=C.scope)(hg:fd.globals=mainGlobals)(hb:fd.builtins=builtinsNs)(hc:∀ x∈fd.scope.names,x.2≠.cell)
  (hL:Off ρ L/\G.s₀.heap.get? L=none/\L ∉ G.loose) (hns:s.heap.Ns L (fun x=>List.lookup x (ns.zip cvs).reverse)) (r:RVs s.heap ρ vs cvs) (hlen:vs.length=ns.length):RE G C (callEnv fd L a) [L] (aO vs k) ρ s:=by
 refine av1 (br P) fun hCok hnd hvars _=>?_
 have nocell:∀ y∈C.vars,C.kind y.name=some .cell->False:=fun y hy hk=>hc _ (hs▸(hvars y hy).2 hk) rfl
 refine⟨hCok,hs,hg,hb,List.mem_cons_self,fun b hb=>List.mem_singleton.mp hb▸hL,fun b hb=>?_,⟨_,hns,fun y hy hk v hv=>?_⟩,fun y hy hk=>(nocell y hy hk).elim,fun y hy z hz hky hkz c h1 h2=>(nocell y hy hky).elim⟩
 ·exact uM hns fun o es ep ho hd _=>⟨o,List.mem_singleton.mp hb▸ho,Solid.no_dict hd⟩
 ·have q:=kL (hvars y hy).1 hlen hv
  exact aI (RVs.get r q.1) fun c hc hr=>⟨c,cN ns _ y.slot hnd q.2 hc,hr⟩
theorem DefM.rec_{fd:FuncData}{a:Addr}{body:List Stmt}{ns:List Str}(D:DefM G a fd body C ns)(R:Rel G σ ρ s):s.heap.CodeRec fd.code fd.qualname:=q9 R (bV1 D.code fun c oc us t _ _ e1 e2 e3 e4 e5 _ _=>kz1 c oc us t e1 e2 e3 e4 e5)
theorem On.defM{a:Addr}{fd:FuncData}{body:List Stmt}{C:Cx}{ns:List Str}{vs xs:List V}{dv:List Value}{k n:Nat}{fl:Fl}{v:V}{η':ab}(D:DefM G a fd body C ns)(hr:Room A (n+1))(hlen:vs.length+xs.length=ns.length)
  (hdv:∀ (h:Heap) (ρ:Rho),RVs h ρ xs dv)
  (HB:∀ (s:Shared) (cvs:List Value),(∀ b o,b ∉ G.loose->G.s₀.heap.get? b=some o->s.heap.get? b=some o)->cvs.length=vs.length->BindsTo s fd ⟨cvs,[]⟩ (ns.zip (cvs++dv)))
  (hf:(fl=.ret v)\/(fl=.next/\v=.none))
  (H:∀ A' env W,Room A' n->env.func=some a->env.code=fd.code->env.cells=fd.closure->env.scope=fd.scope->EssAt G A' C env W body body σ (aO (vs++xs) k) fl σ' η'):On G A (fun cvs=>call (.ref a) cvs) σ vs v σ':=fun ρ s cvs R r ht=>by
 refine qJ D.obj fun o hob hd _=>?_
 have hkf:fd.scope.kind=.function:=D.scope▸(Cx.ok_parts (br D.ok).1).1
 refine wpAny_call (ks_codeAny_call_defAt (body:=body) (binds:=ns.zip (cvs++dv)) (Nat.lt_of_le_of_lt (Nat.le_add_right _ _) hr.depth) (R.keep a o D.la hob) hd (mR R D.nolimit D.ls) (D.rec_ R) D.body (HB s cvs R.keep (RVs.length r)) D.cells
  (fun x hx=>D.locs _ (List.of_mem_zip (a:=x.1) (b:=x.2) hx).1) (fun h₀ hns r9=>?_) D.co D.gen hkf)
 have mb:Step G ρ s ρ { s with heap:=h₀,toks:=s.toks+(ns.zip (cvs++dv)).length } σ:=Step.grow R r9 ⟨_,_,rfl⟩
 have N:=yO (k:=k) (a:=a) (s:={ s with heap:=h₀,toks:=s.toks+(ns.zip (cvs++dv)).length }) D.ok D.scope D.glob D.blt D.cells (cI R (bL (Nat.le_refl _))) hns (RVs.append (RVs.sameHeap r9 r) (hdv h₀ ρ)) (List.length_append.trans hlen)
 refine ks_wpAt_mono (H _ _ _ (hr.deeper _) rfl rfl rfl rfl ρ _ mb.rel N (Nat.lt_of_lt_of_le ht (Nat.le_add_right _ _))) (fun f aA h=>qJ h.2 fun au aq _ aF=>?_) fun _ _ f=>f.elim
 have S:Step G ρ s au aA σ':=(mb.toW.trans aq).drop fun b hb hne=>absurd (bL (Nat.le_of_eq (List.mem_singleton.mp hb).symm)) hne
 rcases hf with rfl | ⟨rfl,rfl⟩
 ·obtain ⟨cv,rfl,hv⟩:=aF
  exact⟨au,S,hv⟩
 ·have e:f=.next:=aF
  subst e
  exact⟨au,S,RV.none_⟩
end
theorem ia:Slot "wrapper_descriptor" "__get__" "wrapper_descriptor.__get__":=.of (owner:="wrapper_descriptor") (n:="__get__") (by rw[typeLookup_type,builtinLookup_eq_fast];kernel_rfl) (by decide +kernel) (by decide +kernel) (by decide +kernel)
 (by first | exact .inl (by decide +kernel) | exact .inr (by decide +kernel)) (by rw[isSubtype_type];kernel_rfl)
theorem nk:entryFor table "wrapper_descriptor.__get__"=some Builtin.«wrapper_descriptor.__get__»:=entryFor_of_tree (by kernel_rfl)
theorem pS(a b c:Value):argsOk "wrapper_descriptor.__get__" ⟨[a,b,c],[]⟩:=by unfold argsOk;kernel_rfl
theorem ie:Slot "method_descriptor" "__get__" "method_descriptor.__get__":=.of (owner:="method_descriptor") (n:="__get__") (by rw[typeLookup_type,builtinLookup_eq_fast];kernel_rfl) (by decide +kernel) (by decide +kernel) (by decide +kernel)
 (by first | exact .inl (by decide +kernel) | exact .inr (by decide +kernel)) (by rw[isSubtype_type];kernel_rfl)
theorem nq:entryFor table "method_descriptor.__get__"=some Builtin.«method_descriptor.__get__»:=entryFor_of_tree (by kernel_rfl)
theorem pT(a b c:Value):argsOk "method_descriptor.__get__" ⟨[a,b,c],[]⟩:=by unfold argsOk;kernel_rfl
structure Lt (name:Str) (id dt mt:String):Prop where
 own:builtinOwn "list" name=some (.builtin id)
 ty:typeOf (.builtin id)=pure (.type dt)
 cases:(dt="wrapper_descriptor"/\mt="method-wrapper")\/(dt="method_descriptor"/\mt="builtin_function_or_method")
 told:Manifest.toldItsClass.contains id=false
theorem lM{a:Addr}:([Value.ref a,.type "list",.type "object"]:List Value).contains (.type "list")=true:=by
 rw[List.contains_cons,List.contains_cons];simp
theorem q8{a:Addr}:([Value.ref a,.type "list",.type "object"]:List Value).contains (.ref a)=true:=by
 rw[List.contains_cons];simp
section
variable {G:Wd} {A:Around} {C C':Cx} {env cenv:Env} {W W':List Addr} {η η' η₁ η₂ bi:ab} {σ σ' σ₁ σ₂ aj σ₄ bR:List AO} {ρ ρ' aa:Rho} {s s' am aA:Shared} {m:Str->Option Value}
theorem eO(K:Acc G m)(R:Rel G σ ρ s){c:Value}{b:Bool}(hb:([Value.ref G.cls,.type "list",.type "object"]:List Value).contains c=b){M:Model}:Looks M s.heap (isSubtype (.ref G.cls) c) b:=fun A Q E s' hk hQ=>by
 refine cH (ct K R) fun oc cd h_p=>?_;have h1:=h_p.1;have h2:=h_p.2.1;have h3:=h_p.2.2.1;have h4:=h_p.2.2.2
 unfold isSubtype
 refine wpAny_bind (m:=mroOf (.ref G.cls)) ?_
 show wpAny M A (do return (← classData G.cls).mro) _ E s'
 refine wpAny_bind ?_
 unfold classData
 refine wpAny_bind (wpAny_load (hk _ _ h1) ?_)
 refine(h2)▸?_
 refine wpAny_pure (wpAny_pure ?_)
 refine(h3)▸?_
 dsimp only
 rw[if_neg (show ¬ (([Value.ref G.cls,.type "list",.type "object"]:List Value).isEmpty=true) from Bool.false_ne_true),hb]
 exact wpAny_pure hQ
theorem ym{id dt mt:String}{name:Str}(L:Lt name id dt mt)(hid:(id.cutAt '.').dropLast=["list"])(K:Acc G m)(R:Rel G σ ρ s){x:Addr}{o:Obj}(ho:s.heap.get? x=some o)(hc:o.cls=.ref G.cls){Q:Value->Shared->Prop}{E:Value->Shared->Prop}
  (hQ:Q (.ref s.heap.objs.size) { s with heap:=s.heap.push { cls:=.type mt,data:=.fields #[.builtin id,.ref x] } }) :
  wpAny (model G.prog G.w) A (call (.builtin (dt++".__get__")) [.builtin id,.ref x,.ref G.cls]) Q E s:=by
 have hi:∀ {A':Around} {Q:Bool->Shared->Prop} {E:Value->Shared->Prop},Q true s->wpAny (model G.prog G.w) A' (isInstance (.ref x) (.type "list")) Q E s:=fun hQ=>eM K R ho hc hQ
 have hj:".".intercalate ["list"]="list":=by decide +kernel
 refine Or.elim (L.cases) (fun h_l=>?_) (fun h_r=>?_)
 ·obtain ⟨rfl,rfl⟩:=h_l
  refine wpAny_call_entry ia (show s.TypeIs (.builtin id) "wrapper_descriptor" from L.ty) nk ?_ (pS _ _ _)
  obtain ⟨hp,g,d,tk,os⟩:=s
  unfold Builtin.«wrapper_descriptor.__get__»
  repeat (first | (with_reducible refine hi ?_) | wp_step)
  rw[hid,hj,hc]
  refine Looks.here (eO K R lM) ?_
  repeat wp_step
  exact⟨_,rfl,hQ⟩
 ·obtain ⟨rfl,rfl⟩:=h_r
  refine wpAny_call_entry ie (show s.TypeIs (.builtin id) "method_descriptor" from L.ty) nq ?_ (pT _ _ _)
  have hT:=L.told
  obtain ⟨hp,g,d,tk,os⟩:=s
  unfold Builtin.«method_descriptor.__get__»
  repeat (first | (with_reducible refine hi ?_) | wp_step)
  rw[if_neg (by rw[hT];exact Bool.false_ne_true)]
  repeat (first | (with_reducible refine hi ?_) | wp_step)
  rw[hid,hj,hc]
  refine Looks.here (eO K R lM) ?_
  repeat wp_step
  exact⟨_,rfl,hQ⟩
noncomputable abbrev ub(D x C:Addr):Obj:={ cls:=.type "super",dict:=none,data:=.fields #[.ref D,.ref x,.ref C],slots:=#[] }
theorem cw1{so x:Addr}{o:Obj}{id dt mt:String}{name:Str}{tk:Tok}{Q:Fin->Shared->Prop}{E:Value->Shared->Prop}(L:Lt name id dt mt)(hid:(id.cutAt '.').dropLast=["list"])(K:Acc G m)(R:Rel G σ ρ s)
  (hso:s.heap.get? so=some (ub G.cls x G.cls)) (ho:s.heap.get? x=some o) (hc:o.cls=.ref G.cls) (hxC:x≠G.cls) (hn:(name==("__class__":Str))=false) (hop:Looks (model G.prog G.w) s.heap (opaqueClassAbove (.ref G.cls)) none)
  (hq:Q (.done (.ret (.ref s.heap.objs.size))) { s with heap:=s.heap.push { cls:=.type mt,data:=.fields #[.builtin id,.ref x] } }) :
  wpAny (model G.prog G.w) A (Builtin.«super.__getattribute__» ⟨[.ref so,.str name tk],[]⟩) Q E s:=by
 have hne:(Value.ref x==Value.ref G.cls)=false:=by simp [hxC]
 have hdt:(ub G.cls x G.cls).data=.fields #[.ref G.cls,.ref x,.ref G.cls]:=rfl
 have f0:(#[.ref G.cls,.ref x,.ref G.cls]:Array Value)[0]?=some (.ref G.cls):=rfl
 have f1:(#[.ref G.cls,.ref x,.ref G.cls]:Array Value)[1]?=some (.ref x):=rfl
 have f2:(#[.ref G.cls,.ref x,.ref G.cls]:Array Value)[2]?=some (.ref G.cls):=rfl
 have hmro:∀ {A':Around} {Q:List Value->Shared->Prop} {E:Value->Shared->Prop},Q [.ref G.cls,.type "list",.type "object"] s->wpAny (model G.prog G.w) A' (mroOf (.ref G.cls)) Q E s:=fun hQ=>by
  refine byQ fun Q kQ=>?_
  refine cH (ct K R) fun oc cd h_p=>?_;have h1:=h_p.1;have h2:=h_p.2.1;have h3:=h_p.2.2.1;have h4:=h_p.2.2.2
  refine kQ ?_
  show wpAny _ _ (do return (← classData G.cls).mro) _ _ s
  refine wpAny_bind ?_
  unfold classData
  refine wpAny_bind (wpAny_load h1 ?_)
  refine(h2)▸?_
  refine wpAny_pure (wpAny_pure ?_)
  rw[h3];exact hQ
 have hg:typeLookup (.type dt) "__get__"=pure (some (.builtin (dt++".__get__"))):=by
  refine Or.elim (L.cases) (fun h_l=>?_) (fun h_r=>?_)
  ·obtain ⟨rfl,rfl⟩:=h_l
   exact ia.lookup
  ·obtain ⟨rfl,rfl⟩:=h_r
   exact ie.lookup
 have hty:=L.ty
 have hcl:classOwn (.type "list") name=pure (some (.builtin id)):=by
  show pure _=_
  rw[L.own]
 have hdrop:List.drop 1 (List.dropWhile (fun x=>x != Value.ref G.cls) [Value.ref G.cls,Value.type "list",Value.type "object"])=[Value.type "list",Value.type "object"]:=by simp
 have hb:=fun {Q:Value->Shared->Prop} {E:Value->Shared->Prop}=>@ym G A σ ρ s m id dt mt name L hid K R x o ho hc Q E
 obtain ⟨hp,g,d,t,os⟩:=s
 dsimp only[Builtin.«super.__getattribute__»]
 repeat (first
  | (with_reducible refine wpAny_field hso hdt f0 ?_) | (with_reducible refine wpAny_field hso hdt f1 ?_) | (with_reducible refine wpAny_field hso hdt f2 ?_)
  | (with_reducible refine ks_wpAny_notOpaque hop ?_)
  | (with_reducible refine hmro ?_;rw[hdrop])
  | rw[List.forIn_cons]
  | (with_reducible refine hb ?_)
  | (simp only[hn,hne,Bool.or_false,Bool.false_eq_true,if_false])
  | wp_step
  | dsimp only)
 exact hq
theorem kG{so x:Addr}{o:Obj}{id dt mt:String}{name:Str}{pl:Sem Bool}{Q:Value×List Value->Shared->Prop}{E:Value->Shared->Prop}(L:Lt name id dt mt)(hid:(id.cutAt '.').dropLast=["list"])(K:Acc G m)(R:Rel G σ ρ s)
  (hso:s.heap.get? so=some (ub G.cls x G.cls)) (ho:s.heap.get? x=some o) (hc:o.cls=.ref G.cls) (hxC:x≠G.cls) (hn:(name==("__class__":Str))=false) (hop:Looks (model G.prog G.w) s.heap (opaqueClassAbove (.ref G.cls)) none)
  (hq:Q (.ref s.heap.objs.size,[]) { s with heap:=s.heap.push { cls:=.type mt,data:=.fields #[.builtin id,.ref x] },toks:=s.toks+1 }) :
  wpAny (model G.prog G.w) A (getMethod (.ref so) name pl) Q E s:=by
 have hlk:=F.ks_slot_super_ga.lookup
 have hcan:=F.ks_canon_super_ga
 have R':Rel G σ ρ { s with toks:=s.toks+1 }:=(Step.toks R _).rel
 obtain ⟨h,g,d,t,os⟩:=s
 have hT:∀ t',(⟨h,g,d,t',os⟩:Shared).TypeIs (.ref so) "super":=fun _=>⟨_,hso,rfl⟩
 dsimp only[getMethod]
 refine wpAny_bind (wpAny_specialOf (hT _) hlk ?_)
 show wpAny _ _ (if (Manifest.canonical "super.__getattribute__" != "object.__getattribute__")=true then _ else _) _ _ _
 refine(if_pos hcan)▸?_
 unfold getAttr getAttrBy
 refine wpAny_bind (wpAny_bind (wpAny_mkText (wpAny_holding (wpAny_bind (wpAny_typeOf (hT _) (wpAny_bind (wpAny_of_eq hlk ?_)))))))
 show wpAny _ _ (getAttrByItsOwn (.ref so) (.str name t) (.type "super") (.builtin "super.__getattribute__") true false) _ _ _
 unfold getAttrByItsOwn hookBefore callGetattribute boundAndCalled
 refine wpAny_bind (wpAny_of_eq (show (if onTheHeap (.type "super") then typeLookup (.type "super") "__getattr__" else pure none)=pure none from rfl) ?_)
 refine wpAny_bind (wpAny_attempt (wpAny_holding ?_))
 show wpAny _ _ (bindSpecial (.builtin "super.__getattribute__") (.ref so)>>=_) _ _ _
 refine wpAny_bind (wpAny_of_eq (F.ks_slot_super_ga.bind _) ?_)
 refine wpAny_mono (Q:=fun v s'=>v=.ref h.objs.size/\s'=⟨h.push { cls:=.type mt,data:=.fields #[.builtin id,.ref x] },g,d,t+1,os⟩) (E:=fun _ _=>False)
  (wpAny_call_entry F.ks_slot_super_ga (hT _) F.ks_entry_super_ga (cw1 L hid K R' hso ho hc hxC hn hop ⟨_,rfl,rfl,rfl⟩) (F.ks_gaArgs_super _ _)) (fun v s' hv=>?_) fun _ _ z=>z.elim
 obtain ⟨rfl,rfl⟩:=hv
 exact wpAny_pure (wpAny_pure hq)
theorem sH{b x:Addr}{id mt:String}{R:Result->Shared->Prop}(hm:mt="method-wrapper"\/mt="builtin_function_or_method")(hb:s.heap.get? b=some { cls:=.type mt,data:=.fields #[.builtin id,.ref x] })
  (hq:(Code.builtin id ⟨[.ref x],[]⟩).quiet=true) (hchk:∀ {A':Around} {Q:Unit->Shared->Prop} {E:Value->Shared->Prop},Q () s->wpAny (model G.prog G.w) A' (checkBoundCall id ⟨[.ref x],[]⟩) Q E s)
  (h:codeAny (model G.prog G.w) A (.builtin id ⟨[.ref x],[]⟩) R s):codeAny (model G.prog G.w) A (.call (.ref b) ⟨[],[]⟩) R s:=by
 refine codeAny_of_tree ?_
 show wpAny _ A.in1 (callAny (.ref b) ⟨[],[]⟩) _ _ _
 dsimp only[callAny]
 refine wpAny_bind (wpAny_load hb ?_)
 rcases hm with rfl | rfl
 ·show wpAny _ _ (checkBoundCall id ⟨[.ref x],[]⟩>>=fun _=>again (.builtin id ⟨[.ref x],[]⟩)>>=_) _ _ _
  exact wpAny_bind (hchk (wpAny_pure ⟨hq,h⟩))
 ·show wpAny _ _ (checkBoundCall id ⟨[.ref x],[]⟩>>=fun _=>again (.builtin id ⟨[.ref x],[]⟩)>>=_) _ _ _
  exact wpAny_bind (hchk (wpAny_pure ⟨hq,h⟩))
theorem jD{b x:Addr}{id mt:String}{pos:Pos}{Q:Value->Shared->Prop}{E:Value->Shared->Prop}(hm:mt="method-wrapper"\/mt="builtin_function_or_method")(hb:s.heap.get? b=some { cls:=.type mt,data:=.fields #[.builtin id,.ref x] })
  (h:wpAny (model G.prog G.w) A (call (.ref b) []) Q E s):wpAny (model G.prog G.w) A (callWith pos (.ref b) [] (backTo pos (starEach [] env)) []) Q E s:=by
 dsimp only[callWith]
 refine wpAny_bind (wpAny_holding (evalArgs_kw_nil (keywords:=[]) rfl (wpAny_pure (wpAny_bind (wpAny_standAt ?_)))))
 show wpAny _ _ (keeperOf (.ref b)>>=_) _ _ _
 have hk:∀ {Q:Keeper->Shared->Prop} {E:Value->Shared->Prop},Q .machine s->wpAny (model G.prog G.w) A (keeperOf (.ref b)) Q E s:=fun hQ=>by
  unfold keeperOf
  refine wpAny_bind (wpAny_load hb ?_)
  rcases hm with rfl | rfl <;> exact wpAny_pure hQ
 refine wpAny_bind (hk ?_)
 exact wpAny_bind (wpAny_mono h (fun r aA hr=>wpAny_bind (wpAny_holding (wpAny_point (wpAny_pure hr)))) fun _ _ x=>x)
end
structure Sup (G:Wd):Prop where
 sup:Gl G "super" (.type "super")
 noT:∃ mc,G.s₀.heap.Ns cStatics mc/\mc "thirdparty.any"=none
 ls:cStatics ∉ G.loose
 top:(G.prog.main.scope.names.lookup ("super":Str)).isSome=false
structure SupD (G:Wd) (fd:FuncData) (C:Cx) (x:Var):Prop where
 hx:x∈C.vars
 par:∃ ar,(fd.params.posonlyargs++fd.params.args).head?=some ar/\ar.arg=x.name
 cell:∃ cc,fd.closure.lookup ("__class__":Str)=some cc/\cc ∉ G.loose/\G.s₀.heap.IsCell cc (some (.ref G.cls))
 ks:C.kind "super"=some .globalImplicit
 kc:C.kind "__class__"=some .free
section
variable {G:Wd} {A:Around} {C C':Cx} {env cenv:Env} {W W':List Addr} {η η' η₁ η₂ bi:ab} {σ σ' σ₁ σ₂ aj σ₄ bR:List AO} {ρ ρ' aa:Rho} {s s' am aA:Shared} {m:Str->Option Value}
theorem Gl.load{x:Str}{f:Value}(g:Gl G x f)(R:Rel G σ ρ s)(N:RE G C env W η ρ s)(hk:C.kind x=some .globalImplicit){Q:Value->Shared->Prop}{E:Value->Shared->Prop}(h:Q f s):wpAny (model G.prog G.w) A (loadName env x) Q E s:=by
 have hf:env.scope.kind=.function:=by rw[N.sc];exact(Cx.ok_parts N.ok).1
 refine ks_loadName_global hf (by unfold Env.kindOf;rw[N.sc];exact hk) ?_
 refine a9 (g.gm) fun m h_p=>?_;have hm:=h_p.1;have hx:=h_p.2
 have hm':s.heap.Ns env.globals m:=by rw[N.glob];exact Ns.of_base R hm g.l1
 rcases hx with hx | ⟨hx,b,hb,hbx⟩
 ·exact loadGlobal_global hm' hx h
 ·have hb':s.heap.Ns env.builtins b:=by rw[N.blt];exact Ns.of_base R hb g.l2
  exact loadGlobal_builtin hm' hx hb' hbx h
theorem Sup.opaque(U:Sup G)(R:Rel G σ ρ s){c:Addr}{M:Model}:Looks M s.heap (opaqueClassAbove (.ref c)) none:=by
 refine a9 (U.noT) fun mc h_p=>?_;have hm:=h_p.1;have hn:=h_p.2
 have hm':=Ns.of_base R hm U.ls
 have h1:Looks M s.heap (nsGet cStatics "thirdparty.any") none:=fun A Q E s' k q=>wpAny_nsGet (hm'.keeps k) (by exact(hn)▸(q))
 exact Looks.andThen (a:=false) (h1.andThen .now) (by show Looks M s.heap (if (!false)=true then pure none else _) none;exact(if_pos (show (!false)=true from rfl))▸(.now))
theorem qv(K:Acc G m)(U:Sup G){a:Addr}{fd:FuncData}{body:List Stmt}{ns:List Str}(D:DefM G a fd body C ns){x:Var}(V:SupD G fd C x){p0 p1 apos pos:Pos}{k:Nat}{l:List Mine.V}{i:Int}{v:Mine.V}{id dt mt:String}{name:Str}
  (L:Lt name id dt mt) (hid:(id.cutAt '.').dropLast=["list"]) (hn:(name==("__class__":Str))=false) (hm:mt="method-wrapper"\/mt="builtin_function_or_method") (hfu:env.func=some a) (hco:env.code=fd.code) (hce:env.cells=fd.closure)
  (hη:η[x.slot]?=some (some (.ref k))) (hσ:σ[k]?=some ⟨l,some i⟩)
  (hline:(apos.endLine==pos.line)=true) (hq:∀ b,(Code.builtin id ⟨[.ref b],[]⟩).quiet=true)
  (hchk:∀ {ρ s} {b:Addr} {vs:Array Value} {n:Nat} {d:Addr},Rel G σ ρ s->s.heap.get? b=some ⟨.ref G.cls,some d,.seq vs n,#[]⟩->∀ {A':Around} {Q:Unit->Shared->Prop} {E:Value->Shared->Prop},Q () s->wpAny (model G.prog G.w) A' (checkBoundCall id ⟨[.ref b],[]⟩) Q E s)
  (hb:∀ A' ρ s p,Rel G σ ρ s->ρ.st[k]?=some p->0<s.toks->codeAny (model G.prog G.w) A' (.builtin id ⟨[.ref p.1],[]⟩) (wants (PE G ρ s σ' v) No) s)
  (R:Rel G σ ρ s) (N:RE G C env W η ρ s) (ht:0<s.toks) :
  PySem.wpAt (model G.prog G.w) A (.func body env) (eval (.Call (.Attribute (.Call (.Name "super" p0) [] [] p1) name apos) [] [] pos) env) (fun cv s'=>0<s'.toks/\PE G ρ s σ' v cv s') No s:=by
 refine byQ fun Q kQ=>?_
 obtain ⟨o,h_p⟩:=D.obj;have hob:=h_p.1;have hfd:=h_p.2.1
 refine bV1 (D.code) fun c oc us t file tf e1 e2 e3 e4 e5 e6 e7=>?_
 refine a9 (V.par) fun ar h_p=>?_;have ha1:=h_p.1;have ha2:=h_p.2
 refine a9 (V.cell) fun cc h_p=>?_;have hc1:=h_p.1;have hc2:=h_p.2.1;have hc3:=h_p.2.2
 have hf:env.scope.kind=.function:=by rw[N.sc];exact(Cx.ok_parts N.ok).1
 refine cH (ct K R) fun oD cd h_p=>?_;have hD1:=h_p.1;have hD2:=h_p.2.1;have hD3:=h_p.2.2.1
 have kindE:∀ y,env.kindOf y=C.kind y:=fun y=>by unfold Env.kindOf;rw[N.sc];rfl
 refine kQ ?_
 rw[arm_eval_Call]
 refine PySem.wpAt_bind ?_
 refine ks_wpAt_super_base (by rw[kindE];exact V.ks) (by rw[kindE];exact V.kc) hn hfu (R.keep a o D.la hob) hfd ha1 (hco.trans e1) (R.keep c oc e2 e3) e4 e6 e7 U.top ?_
 refine U.sup.load R N V.ks ⟨rfl,?_⟩
 have hcell:s.heap.IsCell cc (some (.ref G.cls)):=by
  refine aI (hc3) fun oc ho hd=>?_
  exact⟨oc,R.keep cc oc hc2 ho,hd⟩
 refine wpAny_loadName_free hf (by rw[kindE];exact V.kc) (by rw[hce];exact hc1) hcell ?_
 refine(ha2)▸?_
 refine RE.load R N V.hx hη fun cv hcv=>?_
 obtain ⟨p,hp,rfl⟩:=RV.ref_iff hcv
 refine ks_wpAny_isType_cls (h:=s.heap) hD1 hD2 ⟨rfl,?_⟩
 refine byQ fun Q kQ=>?_
 refine d7 (bc R hp hσ) fun vs n d h_p=>?_;have g1:=h_p.1;have g2:=h_p.2.1;have g3:=h_p.2.2.1;have g4:=h_p.2.2.2.1;have g5:=h_p.2.2.2.2.1;have g6:=h_p.2.2.2.2.2
 have hxC:p.1≠G.cls:=by
  intro e
  rw[e,hD1] at g1
  obtain rfl:=siX g1
  cases hD2
 refine kQ ?_
 refine ks_wpAny_call_super (h:=s.heap) hD1 hD2 g1 rfl (fun c e=>by cases e) (eO K R q8) fun h' hso hk=>?_
 have ah:Step G ρ s ρ { s with heap:=h' } σ:=Step.grow R hk ⟨_,_,rfl⟩
 refine PySem.wpAt_of_wpAny (wpAny_bind (wpAny_standAt ?_))
 have hform:methodCallForm (([]:List Expr).length+([]:List Keyword).length) (backTo pos (starEach [] env)) (backToKw pos (keywordEach [] env))=true:=rfl
 have hpos:methodCallPos true (.Call (.Name "super" p0) [] [] p1) env apos pos=pure pos:=by dsimp only[methodCallPos];simp [hline]
 dsimp only[methodCall]
 refine(hform)▸?_
 refine wpAny_bind (wpAny_holding ?_)
 refine kG (s:={ s with heap:=h' }) L hid K ah.rel hso (hk _ _ g1) rfl hxC hn (U.opaque ah.rel) ?_
 have hk2:∀ b o,h'.get? b=some o->(h'.push { cls:=.type mt,data:=.fields #[.builtin id,.ref p.1] }).get? b=some o:=fun b o e=>Heap.get?_push_of_some _ e
 have aq:Step G ρ { s with heap:=h' } ρ { s with heap:=h'.push { cls:=.type mt,data:=.fields #[.builtin id,.ref p.1] },toks:=s.toks+1 } σ:=Step.grow ah.rel hk2 ⟨_,_,rfl⟩
 refine wpAny_bind (wpAny_of_eq hpos ?_)
 refine jD hm (Heap.get?_push_size _ rfl) ?_
 have HC:wpAny (model G.prog G.w) A (call (.ref h'.objs.size) []) (PE G ρ { s with heap:=h'.push { cls:=.type mt,data:=.fields #[.builtin id,.ref p.1] },toks:=s.toks+1 } σ' v) No { s with heap:=h'.push { cls:=.type mt,data:=.fields #[.builtin id,.ref p.1] },toks:=s.toks+1 } :=
  wpAny_call (sH hm (Heap.get?_push_size _ rfl) (hq _) (fun hQ=>hchk aq.rel (hk2 _ _ (hk _ _ g1)) hQ) (hb A ρ _ p aq.rel hp (show 0<s.toks+1 from Nat.succ_pos _)))
 exact eI HC (by rintro cv s' hle ⟨ρ',S,r⟩;exact⟨Nat.lt_of_lt_of_le (Nat.succ_pos _) hle,ρ',ah.trans (aq.trans S),r⟩)
end
open Builtin Builtin.ObjectAttr
theorem d3:StoreFacts "list" [.type "list",.type "object"] "object.__setattr__" "object" :=
 ⟨qL,F.slot_list_setattr,entryFor_of_tree (by kernel_rfl),by decide +kernel,by decide +kernel,by rw[List.contains_cons,List.contains_cons];simp,fun a b c=>by unfold argsOk;kernel_rfl,fun self=>by kernel_rfl⟩
structure AccX (G:Wd) (m:Str->Option Value):Prop where
 acc:Acc G m
 obj:∃ cd od sl,G.s₀.heap.get? G.cls=some ⟨.type "type",od,.cls cd,sl⟩/\cd.mro=[.ref G.cls,.type "list",.type "object"]/\cd.hasDict=true/\cd.abstract=false/\cd.hasDel=false/\(sl.toList[4]?).join=some (.builtin "list.__new__")
 hsa:m "__setattr__"=none
 hna:m "_initial_size"=none
 qn:∀ o cd,G.s₀.heap.get? G.cls=some o->o.data=.cls cd->cd.qualname=("_Accumulator":Str)
section
variable {G:Wd} {A:Around} {C C':Cx} {env cenv:Env} {W W':List Addr} {η η' η₁ η₂ bi:ab} {σ σ' σ₁ σ₂ aj σ₄ bR:List AO} {ρ ρ' aa:Rho} {s s' am aA:Shared} {m:Str->Option Value}
theorem bO1(K:Acc G m)(R:Rel G σ ρ s){M:Model}{Q:List Value->Shared->Prop}{E:Value->Shared->Prop}(hQ:Q [.ref G.cls,.type "list",.type "object"] s):wpAny M A (mroOf (.ref G.cls)) Q E s:=by
 refine cH (ct K R) fun oc cd h_p=>?_;have h1:=h_p.1;have h2:=h_p.2.1;have h3:=h_p.2.2.1;have h4:=h_p.2.2.2
 show wpAny _ _ (do return (← classData G.cls).mro) _ _ s
 refine wpAny_bind ?_
 unfold classData
 refine wpAny_bind (wpAny_load h1 ?_)
 refine(h2)▸?_
 refine wpAny_pure (wpAny_pure ?_)
 exact(h3)▸(hQ)
theorem pU(KX:AccX G m)(R:Rel G σ ρ s){x dx:Addr}{us:Array Value}{n:Nat}{name:Str}{v:Value}{Q:Unit->Shared->Prop}{E:Value->Shared->Prop}(hna:m name=none)(hl:typeLookup (.type "list") name=pure none)
  (hx:s.heap.get? x=some ⟨.ref G.cls,some dx,.seq us n,#[]⟩) (hne:dx≠x) (hns:s.heap.Ns1 dx (fun _=>none))
  (hQ:∀ h' tk',s.toks<=tk'->h'.Ns1 dx (fun y=>if y=name then some v else none)->(∀ b o,b≠dx->s.heap.get? b=some o->h'.get? b=some o)->Q () { s with heap:=h',toks:=tk' }) :
  wpAny (model G.prog G.w) A (setAttr (.ref x) name v) Q E s:=by
 have K:=KX.acc
 have hsa:=KX.hsa
 refine d7 (KX.obj) fun cd od sl h_p=>?_;have hC0:=h_p.1;have hmro:=h_p.2.1;have hhd:=h_p.2.2.1;have hab:=h_p.2.2.2.1;have hde:=h_p.2.2.2.2.1;have h4:=h_p.2.2.2.2.2
 have f3:=d3.slot.bind (.ref x)
 have look:∀ {A':Around} {t:Nat} {nm:Str} {r:Option Value} {Q:Option Value->Shared->Prop} {E:Value->Shared->Prop},(m nm=none/\typeLookup (.type "list") nm=pure r)->Q r { s with toks:=t }->wpAny (model G.prog G.w) A' (typeLookup (.ref G.cls) nm) Q E { s with toks:=t }:=fun h1 hq=>gf K (Step.toks R _).rel (.inr h1) hq
 have mro:∀ {A':Around} {t:Nat} {Q:List Value->Shared->Prop} {E:Value->Shared->Prop},Q [.ref G.cls,.type "list",.type "object"] { s with toks:=t }->wpAny (model G.prog G.w) A' (mroOf (.ref G.cls)) Q E { s with toks:=t }:=fun hq=>bO1 K (Step.toks R _).rel hq
 have chk:∀ {t:Nat} {tk:Tok} {Q:Unit->Shared->Prop} {E:Value->Shared->Prop},Q () { s with toks:=t }->wpAny (model G.prog G.w) A.in1 (checkBuiltinCall "object.__setattr__" ⟨[.ref x,.str name tk,v],[]⟩) Q E { s with toks:=t }:=fun {t tk _ _} hq=>by
  have ha:=d3.args (.ref x) (.str name tk) v
  simp only[checkBuiltinCall,d3.kind,d3.split]
  refine wpAny_bind ?_
  unfold isInstance
  refine wpAny_bind (m:=typeOf (.ref x)) ?_
  unfold typeOf
  refine wpAny_bind (wpAny_load (s:={ s with toks:=t }) hx (wpAny_pure ?_))
  refine Looks.here (eO K (Step.toks R t).rel (b:=true) (by rw[List.contains_cons,List.contains_cons,List.contains_cons];simp)) ?_
  simp only[Bool.not_true,Bool.false_eq_true,if_false]
  cases hsig:Manifest.signature? "object.__setattr__" with
  | none=>exact wpAny_pure hq
  | some sig =>
   simp only[argsOk,hsig] at ha
   have h2:Bind.checkArgs "object.__setattr__" sig ⟨[.ref x,.str name tk,v],[]⟩=pure ():=ha
   show wpAny _ _ (Bind.checkArgs "object.__setattr__" sig ⟨[.ref x,.str name tk,v],[]⟩) _ _ _
   exact(h2)▸(wpAny_pure hq)
 obtain ⟨h,g,d,t,os⟩:=s
 unfold setAttr callSpecial? specialOf
 repeat (any_goals (first | assumption | (with_reducible refine wpAny_loadPart_at hx ?_) | (with_reducible refine look ⟨hsa,d3.slot.lookup⟩ ?_) | wp_step))
 refine codeAny_call_builtin d3.slot.plain d3.entry (chk ?_)
 have hpass:=d3.passes (.ref x)
 dsimp only at hx hns
 show wpAny _ _ (Builtin.«object.__setattr__» ⟨[.ref x,.str name t,v],[]⟩) _ _ _
 dsimp only[Builtin.«object.__setattr__»]
 repeat (first | rw[refuse_eq] | (rw[refuseLoop_ref,hpass]) | (with_reducible refine wpAny_loadPart_at hx ?_) | (with_reducible refine mro ?_) | (with_reducible refine look ⟨hna,hl⟩ ?_) | wp_step)
 have hC:=R.keep _ _ K.lc hC0
 refine wpAny_load (s:=⟨h,g,d,t+1,os⟩) hC (wpAny_pure ?_)
 rw[if_neg (by rw[hhd];exact Bool.false_ne_true)]
 refine wpAny_pure ?_
 show wpAny _ _ (storeInDict dx (.str name t) name v) _ _ _
 unfold storeInDict newKeyGuard
 refine wpAny_bind (wpAny_pure (wpAny_bind (wpAny_nsSet1 hns fun h' hn' hs=>?_)))
 refine d7 (hn'.count (Within.cons name v Within.nil)) fun oD esD epD h_p=>?_;have hoD:=h_p.1;have hdD:=h_p.2.1;have hcD:=h_p.2.2
 refine wpAny_bind (wpAny_lookBehind hoD (by rw[hdD];exact pastItsLine_dict (Nat.le_trans hcD (by rw[List.length_cons,List.length_nil,sizeLine_eq];exact Nat.succ_pos _))) ?_)
 wp_walk
 exact hQ h' _ (by simp;exact Nat.le_trans (Nat.le_succ t) (Nat.le_add_right t.succ 1)) hn' fun b o hb e=>(hs.2 b hb).trans e
end
theorem hK:typeLookup (.type "type") "__call__"=pure (some (.builtin "type.__call__")):=by rw[typeLookup_type,builtinLookup_eq_fast];kernel_rfl
theorem zB:isSubtype (.type "type") (.type "type")=pure true:=by rw[isSubtype_type];kernel_rfl
theorem lZ(a b:Value):argsOk "list.__new__" ⟨[a,b],[]⟩:=by unfold argsOk;kernel_rfl
noncomputable abbrev dj(C dx:Addr):Obj:={ cls:=.ref C,dict:=some dx,data:=.seq #[] }
structure LMakes (M:Model) (h:Heap) (C:Addr):Prop where
 obj:∃ od cd sl,h.get? C=some ⟨.type "type",od,.cls cd,sl⟩/\cd.abstract=false/\cd.hasDel=false/\cd.mro=[.ref C,.type "list",.type "object"]
 made:Looks M h (Bind.madeBy (.ref C)) (some "list.__new__")
 base:Looks M h (Bind.staticBase (.ref C)) (.ref C)
 mro:Looks M h (mroOf (.ref C)) [.ref C,.type "list",.type "object"]
 sub:∀ c b,([Value.ref C,.type "list",.type "object"]:List Value).contains c=b->Looks M h (isSubtype (.ref C) c) b
 call:Looks M h (specialOf (.ref C) "__call__") (some (.builtin "type.__call__"))
 typ:Looks M h (isInstance (.ref C) (.type "type")) true
 ist:Looks M h (isType (.ref C)) true
section
variable {G:Wd} {A:Around} {C C':Cx} {env cenv:Env} {W W':List Addr} {η η' η₁ η₂ bi:ab} {σ σ' σ₁ σ₂ aj σ₄ bR:List AO} {ρ ρ' aa:Rho} {s s' am aA:Shared} {m:Str->Option Value}
theorem y2(KX:AccX G m)(R:Rel G σ ρ s){M:Model}:LMakes M s.heap G.cls:=by
 refine byQ fun Q kQ=>?_
 refine wg (KX.obj) fun cd od sl hC0 hmro hhd hab hde h4=>?_
 have hC:=R.keep _ _ KX.acc.lc hC0
 have mro:Looks M s.heap (mroOf (.ref G.cls)) [.ref G.cls,.type "list",.type "object"]:=by
  intro A Q E s' k q
  show wpAny _ _ (do return (← classData G.cls).mro) _ _ s'
  refine wpAny_bind ?_
  unfold classData
  refine wpAny_bind (wpAny_load (k _ _ hC) (wpAny_pure (wpAny_pure ?_)))
  exact(hmro)▸(q)
 have made:Looks M s.heap (Bind.madeBy (.ref G.cls)) (some "list.__new__"):=by
  intro A Q E s' k q
  dsimp only[Bind.madeBy]
  refine wpAny_bind (mro A _ E s' k ?_)
  rw[List.forIn_cons]
  refine wpAny_bind (wpAny_bind (wpAny_bind (wpAny_bind (wpAny_loadPart (k _ _ hC) (wpAny_pure ?_)))))
  dsimp only
  rw[← Array.getElem?_toList,h4]
  exact wpAny_pure (wpAny_pure (wpAny_pure q))
 have ty:Looks M s.heap (typeOf (.ref G.cls)) (.type "type"):=fun A Q E s' k q=>by
  unfold typeOf
  exact wpAny_bind (wpAny_load (k _ _ hC) (wpAny_pure q))
 refine kQ ?_
 refine⟨⟨od,cd,sl,hC,hab,hde,hmro⟩,made,?_,mro,fun c b hb=>eO KX.acc R hb,?_,?_,?_⟩
 ·intro A Q E s' k q
  unfold Bind.staticBase
  refine wpAny_bind (mro A _ E s' k ?_)
  rw[List.forIn_cons]
  exact wpAny_bind (wpAny_bind (wpAny_bind (made A _ E s' k (wpAny_pure (wpAny_pure (wpAny_pure q))))))
 ·exact ty.andThen (Looks.of_pure hK)
 ·exact ty.andThen (Looks.of_pure zB)
 ·intro A Q E s' k q
  unfold isType loadHead
  refine wpAny_bind (wpAny_loadPart (k _ _ hC) ?_)
  exact wpAny_pure q
end
section
variable {prog:Program} {w:World} {A:Around} {C:Addr} {R:Result->Shared->Prop} {h:Heap} {g:Array GenState} {d:Drawn} {t:Nat} {os:OsState}
theorem aw1{i:Value}(Y:LMakes (model prog w) h C)
  (hq:R (.ok (.ret (.ref (h.objs.size+1)))) ⟨(h.push emptyDict).push (dj C h.objs.size),g,d,t,os⟩) :
  codeAny (model prog w) A (.call (.builtin "list.__new__") ⟨[.ref C,i],[]⟩) R ⟨h,g,d,t,os⟩:=by
 refine byQ fun Q kQ=>?_
 obtain ⟨⟨od,cd,sl,hC,hab,hde,hmro⟩,made,base,mro,sub,call,typ,ist⟩:=Y
 have sl1:=sub (.type "list") true lM
 refine kQ ?_
 refine codeAny_call_builtin_code (plainId_quiet F.plain_list_new _) ?_
 have ha:=lZ (.ref C) i
 dsimp only[checkBuiltinCall]
 repeat (first | dsimp only[bne_self_eq_false,Bool.false_eq_true,if_false] | lk)
 have fin:codeAny (model prog w) A (.builtin "list.__new__" ⟨[.ref C,i],[]⟩) R ⟨h,g,d,t,os⟩:=by
  refine codeAny_builtin_stack F.entry_list_new rfl fun p st=>?_
  refine(Around.under_plainId F.plain_list_new _)▸?_
  have hown:=owner_list_new
  simp only[hown]
  repeat lk
  refine wpAny_load (s:=⟨_,g,d,t,os⟩) (Heap.get?_push_of_some _ (Heap.get?_push_of_some _ hC)) (wpAny_pure ?_)
  refine(hde)▸?_
  refine wpAny_pure (wpAny_pure ?_)
  show R _ _
  rw[Heap.size_push]
  exact hq
 exact fin
theorem xy{i:Value}{fI:Addr}{init:Value}(hinit:init=.ref fI)(Y:LMakes (model prog w) h C)(hi:Looks (model prog w) h (typeLookup (.ref C) "__init__") (some init))(hf:∃ o,h.get? fI=some o/\o.cls=.type "function")
  (hq:codeAny (model prog w) (A.under (.builtin "type.__call__" ⟨[.ref C,i],[]⟩)) (.call init ⟨[.ref (h.objs.size+1),i],[]⟩) (InitBack (h.objs.size+1) R) ⟨(h.push emptyDict).push (dj C h.objs.size),g,d,t,os⟩) :
  codeAny (model prog w) A (.call (.ref C) ⟨[i],[]⟩) R ⟨h,g,d,t,os⟩:=by
 refine byQ fun Q kQ=>?_
 have Y':=Y
 obtain ⟨⟨od,cd,sl,hC,hab,hde,hmro⟩,made,base,mro,sub,call,typ,ist⟩:=Y
 refine kQ ?_
 refine codeAny_of_tree ?_
 show wpAny _ _ (callAny (.ref C) _) _ _ _
 refine nd_load hC ?_
 show wpAny _ _ (callAny.viaDunder (.ref C) _) _ _ _
 dsimp only[callAny.viaDunder]
 refine wpAny_bind (call.at ?_)
 dsimp only
 rw[tc_bind]
 refine wpAny_bind (wpAny_pure (wpAny_bind (wpAny_pure ?_)))
 refine wpAny_pure (a:=Fin.again (.call (.builtin "type.__call__") ⟨[.ref C,i],[]⟩)) (And.intro rfl ?_)
 refine codeAny_call_builtin_at (Code.quiet_builtin _ (by decide +kernel)) entry_typeCall (check_slot tc_kind tc_split typ (tc_args _ _ _) ?_)
 dsimp only[Builtin.«type.__call__»]
 have e4:([Value.ref C,.type "list",.type "object"]:List Value).isEmpty=false:=rfl
 repeat (first | dsimp only[e4,Bool.false_eq_true,if_false] | with_reducible refine wpAny_call ?_ | lk)
 refine aw1 Y' ?_
 have k:∀ b o,h.get? b=some o->((h.push emptyDict).push (dj C h.objs.size)).get? b=some o:=fun b o e=>Heap.get?_push_of_some _ (Heap.get?_push_of_some _ e)
 have hx:((h.push emptyDict).push (dj C h.objs.size)).get? (h.objs.size+1)=some (dj C h.objs.size):=by heap_get
 have t1:Looks (model prog w) ((h.push emptyDict).push (dj C h.objs.size)) (typeOf (.ref (h.objs.size+1))) (.ref C):=(Looks.ld hx).andThen .now
 have s1:=(sub (.ref C) true q8).keeps k
 have i1:=hi.keeps k
 have b0:Looks (model prog w) h (bindSpecial init (.ref (h.objs.size+1))) (init,[.ref (h.objs.size+1)]):=by
  subst hinit
  obtain ⟨o,h_p⟩:=hf;have ho:=h_p.1;have hc:=h_p.2
  unfold bindSpecial
  refine Looks.andThen (a:=.type "function") ((Looks.ld ho).andThen ?_) (Looks.of_pure (by kernel_rfl))
  exact(hc)▸(.now)
 have b1:=b0.keeps k
 unfold isInstance callSpecial? specialOf
 repeat (first | with_reducible refine wpAny_call ?_ | lk)
 refine codeAny_mono hq fun r s' z=>?_
 rcases r with e | (v | _ | _ | _) <;> first | exact z | exact z.elim | skip
 obtain ⟨rfl,z⟩:=z
 exact wpAny_pure (wpAny_pure z)
end
theorem aN1:Lt "__init__" "list.__init__" "wrapper_descriptor" "method-wrapper":=⟨by kernel_rfl,by kernel_rfl,.inl ⟨rfl,rfl⟩,by decide +kernel⟩
theorem dS1:Lt "__len__" "list.__len__" "wrapper_descriptor" "method-wrapper":=⟨by kernel_rfl,by kernel_rfl,.inl ⟨rfl,rfl⟩,by decide +kernel⟩
theorem dQ1:Lt "pop" "list.pop" "method_descriptor" "builtin_function_or_method":=⟨by kernel_rfl,by kernel_rfl,.inr ⟨rfl,rfl⟩,by decide +kernel⟩
theorem yf:(("list.__init__":String).cutAt '.').dropLast=["list"]:=by decide +kernel
theorem bl1:(("list.__len__":String).cutAt '.').dropLast=["list"]:=by decide +kernel
theorem bk1:(("list.pop":String).cutAt '.').dropLast=["list"]:=by decide +kernel
theorem cbc{id:String}{sig}{self:Value}{rest kw}{a:Addr}(h1:Manifest.signature? id=some sig)(h2:builtinKind id=some .method)(hv:Manifest.varargsMethods.contains id=false) :
  ∃ (K1 K2:Bool->Sem Unit) (K3:Value->Sem Unit) (K4:ClassData->Sem Unit) (K5:ClassData->Value->Sem Unit),checkBoundCall id ⟨self::rest,kw⟩=(isInstance self (.type "module")>>=K1)/\K1 false=(isType self>>=K2) /\
   K2 false=(typeOf self>>=K3)/\K3 (.ref a)=(classData a>>=K4)/\(∀ cd,K4 cd=(typeOf (.ref a)>>=K5 cd)) /\
   ∀ cd,K5 cd (.type "type")=Bind.checkArgs id { sig with full:=s!"{cd.qualname.toString}.{Bind.lastOf id}" } ⟨self::rest,kw⟩:=by
 unfold checkBoundCall
 rw[h1]
 dsimp only
 rw[h2]
 dsimp only
 rw[if_neg (by decide)]
 iterate 5 apply Exists.intro
 apply And.intro;rfl
 apply And.intro;exact(congrArg (fun b=>ite ((b || false)=true) _ _) hv).trans rfl
 apply And.intro;rfl
 apply And.intro;rfl
 apply And.intro;exact fun _=>rfl
 exact fun _=>rfl
theorem yj(a:Value):checkBoundCall "list.__init__" ⟨[a],[]⟩=pure ():=by kernel_rfl
theorem by1(a:Value):checkBoundCall "list.__len__" ⟨[a],[]⟩=pure ():=by kernel_rfl
section
variable {G:Wd} {A:Around} {C C':Cx} {env cenv:Env} {W W':List Addr} {η η' η₁ η₂ bi:ab} {σ σ' σ₁ σ₂ aj σ₄ bR:List AO} {ρ ρ' aa:Rho} {s s' am aA:Shared} {m:Str->Option Value}
theorem bx1(KX:AccX G m)(R:Rel G σ ρ s){b:Addr}{o:Obj}(ho:s.heap.get? b=some o)(hc:o.cls=.ref G.cls)(hnc:∀ c,o.data≠.cls c){Q:Unit->Shared->Prop}{E:Value->Shared->Prop}(hQ:Q () s):wpAny (model G.prog G.w) A (checkBoundCall "list.pop" ⟨[.ref b],[]⟩) Q E s:=by
 refine byQ fun Q kQ=>?_
 refine d7 (KX.obj) fun cd od sl h_p=>?_;have hC0:=h_p.1;have hmro:=h_p.2.1;have hhd:=h_p.2.2.1;have hab:=h_p.2.2.2.1;have hde:=h_p.2.2.2.2.1;have h4:=h_p.2.2.2.2.2
 have hqn:=KX.qn _ _ hC0 rfl
 have hC:=R.keep _ _ KX.acc.lc hC0
 have hsub:=eO KX.acc R (c:=.type "module") (b:=false) (by rw[List.contains_cons,List.contains_cons,List.contains_cons];simp) (M:=model G.prog G.w)
 have hsig:Manifest.signature? "list.pop"=some ⟨.positional,"list.pop","pop",.self,[⟨"index",.posOnly,false⟩]⟩:=by kernel_rfl
 have hck:Bind.checkArgs "list.pop" ⟨.positional,"_Accumulator.pop","pop",.self,[⟨"index",.posOnly,false⟩]⟩ ⟨[.ref b],[]⟩=pure ():=by kernel_rfl
 have hk:builtinKind "list.pop"=some .method:=by kernel_rfl
 have hv:Manifest.varargsMethods.contains "list.pop"=false:=by decide +kernel
 have hl:Bind.lastOf "list.pop"="pop":=by decide +kernel
 have tob:Looks (model G.prog G.w) s.heap (typeOf (.ref b)) (.ref G.cls):=by
  refine(Looks.ld ho).andThen ?_
  exact(hc)▸(.now)
 have ins:Looks (model G.prog G.w) s.heap (isInstance (.ref b) (.type "module")) false:=tob.andThen hsub
 have ist:Looks (model G.prog G.w) s.heap (isType (.ref b)) false:=fun A Q E s' k q=>by
  unfold isType loadHead
  refine wpAny_bind (wpAny_loadPart (k _ _ ho) ?_)
  obtain ⟨oc,od,odt,osl⟩:=o
  cases odt <;> first | exact wpAny_pure q | exact absurd rfl (hnc _)
 have toc:Looks (model G.prog G.w) s.heap (typeOf (.ref G.cls)) (.type "type"):=(Looks.ld hC).andThen .now
 have e0:(s!"{("_Accumulator" : Str).toString}.{"pop"}":String)="_Accumulator.pop":=by decide +kernel
 refine kQ ?_
 refine gs1 (cbc (a:=G.cls) (self:=.ref b) (rest:=[]) (kw:=[]) hsig hk hv) fun K1 K2 K3 K4 K5 e1 e2 e3 e4 e5 e6=>?_
 rw[e1]
 refine wpAny_bind (ins.here ?_)
 rw[e2]
 refine wpAny_bind (ist.here ?_)
 rw[e3]
 refine wpAny_bind (tob.here ?_)
 rw[e4]
 refine wpAny_bind ?_
 unfold classData
 refine wpAny_bind (wpAny_load hC (wpAny_pure ?_))
 rw[e5]
 refine wpAny_bind (toc.here ?_)
 rw[e6,hqn,hl,e0]
 exact wpAny_of_eq hck hQ
theorem qy{k:Nat}{o:AO}(h:σ[k]?=some o):σ.set k o=σ:=by
 apply List.ext_getElem?
 intro j
 refine(List.getElem?_set)▸?_
 split
 ·subst j
  split
  ·exact h.symm
  ·rename_i q
   exact absurd (List.getElem?_eq_some_iff.mp h).1 q
 ·rfl
theorem nQ{k:Nat}{l:List V}{i:Int}{p:Addr×Addr}(R:Rel G σ ρ s)(hp:ρ.st[k]?=some p)(hσ:σ[k]?=some ⟨l,some i⟩) :
  codeAny (model G.prog G.w) A (.builtin "list.__init__" ⟨[.ref p.1],[]⟩) (wants (PE G ρ s (σ.set k ⟨[],some i⟩) .none) No) s:=by
 refine byQ fun Q kQ=>?_
 refine d7 (bc R hp hσ) fun vs n d h_p=>?_;have g1:=h_p.1;have g2:=h_p.2.1;have g3:=h_p.2.2.1;have g4:=h_p.2.2.2.1;have g5:=h_p.2.2.2.2.1;have g6:=h_p.2.2.2.2.2
 have hsz:vs.size=l.length:=by have:=RVs.length g2;simpa using this
 refine kQ ?_
 refine codeAny_builtin F.entry_list_init ?_
 rw[Around.under_plainId (by decide +kernel) _]
 show wpAny _ A.in1 (do let old ← Builtin.List.listItems (.ref p.1);Builtin.List.listUpdate (.ref p.1) (fun _=>#[]);letGo old.toList.reverse;ret .none) _ _ s
 refine wpAny_bind ?_
 unfold Builtin.List.listItems
 refine wpAny_bind (wpAny_seqItems g1 rfl (wpAny_pure ?_))
 show wpAny _ A.in1 (updateSeq p.1 (fun _=>#[])>>=fun _=>letGo vs.toList.reverse>>=fun _=>ret .none) _ _ s
 refine wpAny_bind (wpAny_updateSeq g1 rfl (wpAny_bind (wpAny_letGo (wpAny_pure ?_))) (by rw[hsz];exact Nat.le_trans g6 (by decide)) (by decide))
 have hg:(s.heap.update p.1 (Obj.mapSeq (fun _=>(#[]:Array Value)))).get? p.1=some ⟨.ref G.cls,some p.2,.seq #[] (if (#[]:Array Value).size==vs.size then n else n+1),#[]⟩:=by
  rw[Heap.get?_update_self _ g1 (by rfl)];rfl
 exact⟨ρ,l4 (t:=s.toks) R hp hσ (Heap.SameBut.update ..).extBut (Nat.zero_le _) hg fun _=>RVs.nil,RV.none_⟩
theorem pW{k:Nat}{l:List V}{i:Int}{p:Addr×Addr}(R:Rel G σ ρ s)(hp:ρ.st[k]?=some p)(hσ:σ[k]?=some ⟨l,some i⟩) :
  codeAny (model G.prog G.w) A (.builtin "list.__len__" ⟨[.ref p.1],[]⟩) (wants (PE G ρ s σ (.int l.length)) No) s:=by
 refine byQ fun Q kQ=>?_
 refine d7 (bc R hp hσ) fun vs n d h_p=>?_;have g1:=h_p.1;have g2:=h_p.2.1;have g3:=h_p.2.2.1;have g4:=h_p.2.2.2.1;have g5:=h_p.2.2.2.2.1;have g6:=h_p.2.2.2.2.2
 have hsz:vs.size=l.length:=by have:=RVs.length g2;simpa using this
 refine kQ ?_
 refine codeAny_builtin F.entry_list_len ?_
 rw[Around.under_plainId (by decide +kernel) _]
 show wpAny _ A.in1 (do let n ← seqSize p.1;retInt n) _ _ s
 refine wpAny_bind ?_
 unfold seqSize
 refine wpAny_bind (wpAny_loadPart g1 (wpAny_pure ?_))
 show wpAny _ A.in1 (mkInt vs.size>>=fun v=>ret v) _ _ s
 refine wpAny_bind (wpAny_mkInt (wpAny_pure ?_))
 refine⟨ρ,Step.toks R _,?_⟩
 refine(hsz)▸?_
 delta RV
 exact⟨_,rfl⟩
theorem pV{k:Nat}{l:List V}{v:V}{i:Int}{p:Addr×Addr}(R:Rel G σ ρ s)(hp:ρ.st[k]?=some p)(hσ:σ[k]?=some ⟨l++[v],some i⟩) :
  codeAny (model G.prog G.w) A (.builtin "list.pop" ⟨[.ref p.1],[]⟩) (wants (PE G ρ s (σ.set k ⟨l,some i⟩) v) No) s:=by
 refine d7 (bc R hp hσ) fun vs n d h_p=>?_;have g1:=h_p.1;have g2:=h_p.2.1;have g3:=h_p.2.2.1;have g4:=h_p.2.2.2.1;have g5:=h_p.2.2.2.2.1;have g6:=h_p.2.2.2.2.2
 have hsz:vs.size=l.length+1:=by have:=RVs.length g2;simpa using this
 have hlast:(l++[v])[l.length]?=some v:=by simp
 refine a9 (RVs.get g2 hlast) fun c h_p=>?_;have hc:=h_p.1;have hv:=h_p.2
 have hc':vs[l.length]?=some c:=by simpa using hc
 refine codeAny_builtin F.entry_list_pop ?_
 rw[Around.under_plainId (by decide +kernel) _]
 have hcc:checkCount "pop" 0 1 0=pure ():=by kernel_rfl
 have hs1:Builtin.List.listFitsIndex (-1)=true:=by decide
 show wpAny _ A.in1 (checkCount "pop" 0 1 0>>=fun _=>_) _ _ s
 refine wpAny_bind (wpAny_of_eq hcc ?_)
 dsimp only
 refine wpAny_bind (wpAny_pure ?_)
 rw[if_neg (by rw[hs1];decide)]
 refine wpAny_bind ?_
 unfold Builtin.List.listItems
 refine wpAny_bind (wpAny_seqItems g1 rfl (wpAny_pure ?_))
 have hne:vs.isEmpty=false:=by
  cases hv':vs.isEmpty with
  | false=>rfl
  | true=>rw[Array.isEmpty_iff.mp hv'] at hsz;simp at hsz
 rw[if_neg (by rw[hne];exact Bool.false_ne_true)]
 have hi:seqIndex? (-1) vs.size=some l.length:=by
  rw[hsz]
  dsimp only[seqIndex?]
  have e1:(if (-1:Int)<0 then (-1:Int)+((l.length+1:Nat):Int) else -1)=(l.length:Int):=by
   rw[if_pos (by decide)];lia
  simp only[e1]
  rw[if_pos (by simp;exact Int.ofNat_le.mpr (Nat.le_of_eq (Eq.refl (l.length+1))))]
  simp
 refine(hi)▸?_
 show wpAny _ _ (match Option.map (fun x=>(l.length,x)) vs[l.length]? with
  | some (k,x)=>do
   Builtin.List.listUpdate (Value.ref p.fst) fun x=>x.eraseIdxIfInBounds k
   ret x
  | none=>do
   rule "list.pop.out-of-range"
   raiseError "IndexError" "pop index out of range") _ _ _
 refine(hc')▸?_
 show wpAny _ A.in1 (updateSeq p.1 (fun x=>x.eraseIdxIfInBounds l.length)>>=fun _=>ret c) _ _ s
 have hel:(vs.eraseIdxIfInBounds l.length).size<=sizeLine:=by
  have:(vs.eraseIdxIfInBounds l.length).size<=vs.size:=by
   unfold Array.eraseIdxIfInBounds
   split
   ·rw[Array.size_eraseIdx];exact Nat.sub_le _ _
   ·exact Nat.le_refl _
  rw[hsz] at this
  simp at g6
  exact Nat.le_trans this (Nat.le_trans g6 (by decide))
 refine wpAny_bind (wpAny_updateSeq g1 rfl (wpAny_pure ?_) (by rw[hsz];simp at g6;exact Nat.le_trans g6 (by decide)) (Nat.le_succ_of_le hel))
 have hg:(s.heap.update p.1 (Obj.mapSeq (fun x=>x.eraseIdxIfInBounds l.length))).get? p.1=some ⟨.ref G.cls,some p.2,.seq (vs.eraseIdxIfInBounds l.length) (if (vs.eraseIdxIfInBounds l.length).size==vs.size then n else n+1),#[]⟩:=by
  rw[Heap.get?_update_self _ g1 (by rfl)];rfl
 have st:Step G ρ s ρ { s with heap:=s.heap.update p.1 (Obj.mapSeq fun xs=>xs.eraseIdxIfInBounds l.length),toks:=s.toks } (σ.set k ⟨l,some i⟩) :=
  l4 (t:=s.toks) R hp hσ (Heap.SameBut.update ..).extBut (by simp at g6;exact Nat.le_of_lt ‹_›) hg fun K=>by
   have h5:(vs.eraseIdxIfInBounds l.length).toList=vs.toList.take l.length:=by
    have:vs.toList.length=l.length+1:=by exact hsz
    simp only[Array.eraseIdxIfInBounds]
    rw[dif_pos (by exact Nat.le_of_eq (Eq.symm ‹_›)),Array.toList_eraseIdx,List.eraseIdx_eq_take_drop_succ,List.drop_of_length_le (by exact Nat.le_of_eq ‹_›),List.append_nil]
   rw[h5]
   have:=RVs.take l.length (RVs.mono K _ _ g2)
   simpa using this
 exact⟨ρ,st,RV.mono (Step.keepV R st) _ _ hv⟩
end
noncomputable def fi1(name:Str)(P:Nat->Pos)(i:Nat):Expr:=.Call (.Attribute (.Call (.Name "super" (P i)) [] [] (P (i+1))) name (P (i+2))) [] [] (P (i+3))
noncomputable def ig(name:Str)(body:List Stmt):Prop:=∃ P:Nat->Pos,body=[.Return (some (fi1 name P 0)) (P 4)]/\((P 2).endLine==(P 3).line)=true
noncomputable def xe(C:Cx)(body:List Stmt):Prop:=∃ P:Nat->Pos,body=[.Expr (.Call (.Attribute (.Name "self" (P 0)) "append" (P 1)) [.Tuple [.Name "fws" (P 2),.Name "string" (P 3)] 0 (P 4)] [] (P 5)) (P 6)] /\
 (cL C "self" 0&&cL C "fws" 1&&cL C "string" 2&&(P 1).endLine==(P 5).line)=true
noncomputable def fn1(C:Cx)(body:List Stmt):Prop:=∃ P:Nat->Pos,body=[.If (.Compare (.Call (.Attribute (.Name "self" (P 0)) "part_count" (P 1)) [] [] (P 2)) [.Eq] [.Constant (.int 0) 0 (P 3)] (P 4))
  [.Return (some (.Tuple [.Constant (.str "") 0 (P 5),.Constant (.str "") 0 (P 6)] 0 (P 7))) (P 8)] [] (P 9),.Return (some (fi1 "pop" P 10)) (P 14)] /\
 (cL C "self" 0&&(P 1).endLine==(P 2).line&&(P 12).endLine==(P 13).line)=true
section
variable {G:Wd} {A:Around} {C C':Cx} {env cenv:Env} {W W':List Addr} {η η' η₁ η₂ bi:ab} {σ σ' σ₁ σ₂ aj σ₄ bR:List AO} {ρ ρ' aa:Rho} {s s' am aA:Shared} {m:Str->Option Value}
theorem EsAt.retSup(K:Acc G m)(U:Sup G){a:Addr}{fd:FuncData}{body:List Stmt}{ns:List Str}(D:DefM G a fd body C ns){x:Var}(V:SupD G fd C x){P:Nat->Pos}{q:Nat}{rp:Pos}{k:Nat}{l:List Mine.V}{i:Int}{v:Mine.V}{id dt mt:String}{name:Str}
  (hl:((P (q+2)).endLine==(P (q+3)).line)=true) (L:Lt name id dt mt) (hid:(id.cutAt '.').dropLast=["list"]) (hn:(name==("__class__":Str))=false) (hm:mt="method-wrapper"\/mt="builtin_function_or_method") (hfu:env.func=some a) (hco:env.code=fd.code) (hce:env.cells=fd.closure)
  (hη:η[x.slot]?=some (some (.ref k))) (hσ:σ[k]?=some ⟨l,some i⟩) (hq:∀ b,(Code.builtin id ⟨[.ref b],[]⟩).quiet=true)
  (hchk:∀ {ρ s} {b:Addr} {vs:Array Value} {n:Nat} {d:Addr},Rel G σ ρ s->s.heap.get? b=some ⟨.ref G.cls,some d,.seq vs n,#[]⟩->∀ {A':Around} {Q:Unit->Shared->Prop} {E:Value->Shared->Prop},Q () s->wpAny (model G.prog G.w) A' (checkBoundCall id ⟨[.ref b],[]⟩) Q E s)
  (hb:∀ A' ρ s p,Rel G σ ρ s->ρ.st[k]?=some p->0<s.toks->codeAny (model G.prog G.w) A' (.builtin id ⟨[.ref p.1],[]⟩) (wants (PE G ρ s σ' v) No) s) :
  EsAt G A C env W body (.Return (some (fi1 name P q)) rp) σ η (.ret v) σ' η:=fun ρ s R N ht=>by
 exact ks_wpAt_Return_some (ks_wpAt_mono (qv K U D V L hid hn hm hfu hco hce hη hσ hl hq hchk hb R N ht) ((by rintro cv am ⟨aK,aa,ah,av⟩;exact⟨aK,aa,ah.toW,N.mono R ah,cv,rfl,av⟩)) fun _ _ f=>f.elim)
theorem bQ1(K:Acc G m){a:Addr}{fd:FuncData}{body:List Stmt}{ns:List Str}{n k:Nat}{l:List V}{i:Int}{u w:V}(D:DefM G a fd body C ns)(hm:xe C body)(hns:ns.length=3)
  (hb:∀ cvs:List Value,cvs.length=3->bindArgs fd ⟨cvs,[]⟩=pure (ns.zip cvs)) (hga:m "__getattribute__"=none) (hgt:m "__getattr__"=none) (hap:m "append"=none) (hr:Room A (n+1)) (hσ:σ[k]?=some ⟨l,some i⟩) (hl:l.length<lim) :
  On G A (fun cvs=>call (.ref a) cvs) σ [.ref k,u,w] .none (σ.set k ⟨l++[.tup [u,w]],some i⟩):=by
 refine byQ fun Q kQ=>?_
 obtain ⟨P,rfl,hm⟩:=hm
 simp only[Bool.and_eq_true] at hm
 obtain ⟨⟨⟨h1,h2⟩,h3⟩,h5⟩:=hm
 refine kQ ?_
 refine On.defM (k:=0) (xs:=[]) (dv:=[]) D hr (by rw[hns];rfl) (fun _ _=>RVs.nil) (fun s cvs _ hl=>BindsTo.of_eq (by rw[List.append_nil];exact hb cvs hl)) (.inr ⟨rfl,rfl⟩) fun A' env W hA _ _ _ _=>EssAt.of (Ess.cons (Es.expr (v:=.none) rfl ?_) Ess.nil)
 exact Ev.accBi K mS rfl rfl (show 1<29 by decide) h5 hga hgt hap (by decide) (Ev.var h1 rfl) hσ
  (Evs.cons rfl (Ev.tup (Evs.cons rfl (Ev.var h2 rfl) (Evs.cons rfl (Ev.var h3 rfl) Evs.nil)) (show 2<=lim by decide)) Evs.nil) (gN K hσ hl)
theorem gA(KX:AccX G m)(U:Sup G){a:Addr}{fd:FuncData}{body:List Stmt}{ns:List Str}{n k:Nat}{l:List Mine.V}{i:Int}(D:DefM G a fd body C ns){x:Var}(V:SupD G fd C x)(hx0:x.slot=0)(hm:ig "__len__" body)(hns:ns.length=1)
  (hb:∀ cvs:List Value,cvs.length=1->bindArgs fd ⟨cvs,[]⟩=pure (ns.zip cvs)) (hr:Room A (n+1)) (hσ:σ[k]?=some ⟨l,some i⟩) :
  On G A (fun cvs=>call (.ref a) cvs) σ [.ref k] (.int l.length) σ:=by
 refine byQ fun Q kQ=>?_
 obtain ⟨P,rfl,hm⟩:=hm
 refine kQ ?_
 refine On.defM (k:=0) (xs:=[]) (dv:=[]) (η':=aO [.ref k] 0) D hr (by rw[hns];rfl) (fun _ _=>RVs.nil) (fun s cvs _ hl=>BindsTo.of_eq (by rw[List.append_nil];exact hb cvs hl)) (.inl rfl) fun A' env W hA h1 h2 h3 _=>EssAt.stop ?_
 exact EsAt.retSup KX.acc U D V hm dS1 bl1 (by decide) (.inl rfl) h1 h2 h3 (by rw[hx0];rfl) hσ (fun b=>plainId_quiet (by decide +kernel) _) (fun _ _ _ _ _ hQ=>wpAny_of_eq (by1 _) hQ)
  fun A' ρ s p R hp _=>pW R hp hσ
noncomputable def xh(l:List V):V×List V:=match l.getLast? with
 | some v=>(v,l.dropLast)
 | none=>(.tup [.str [],.str []],l)
theorem e91(KX:AccX G m)(U:Sup G){a apc:Addr}{fd fdpc:FuncData}{body bpc:List Stmt}{ns npc:List Str}{n k:Nat}{l:List Mine.V}{i:Int}{Cpc:Cx}(D:DefM G a fd body C ns){x:Var}(V:SupD G fd C x)(hx0:x.slot=0)(hm:fn1 C body)(hns:ns.length=1)
  (hb:∀ cvs:List Value,cvs.length=1->bindArgs fd ⟨cvs,[]⟩=pure (ns.zip cvs)) (hr:Room A (n+2)) (hσ:σ[k]?=some ⟨l,some i⟩)
  (hga:m "__getattribute__"=none) (hgt:m "__getattr__"=none) (hpc:m "part_count"=some (.ref apc))
  (D':DefM G apc fdpc bpc Cpc npc) {x':Var} (V':SupD G fdpc Cpc x') (hx0':x'.slot=0) (hm':ig "__len__" bpc) (hns':npc.length=1) (hb':∀ cvs:List Value,cvs.length=1->bindArgs fdpc ⟨cvs,[]⟩=pure (npc.zip cvs)) :
  On G A (fun cvs=>call (.ref a) cvs) σ [.ref k] (xh l).1 (σ.set k ⟨(xh l).2,some i⟩):=by
 obtain ⟨P,rfl,hm⟩:=hm
 have q_1:=ak hm;have q_2:=ak q_1.1;have h1:=q_2.1;have h3:=q_2.2;have h6:=q_1.2
 refine On.defM (k:=0) (xs:=[]) (dv:=[]) (η':=aO [.ref k] 0) D hr (by rw[hns];rfl) (fun _ _=>RVs.nil) (fun s cvs _ hl=>BindsTo.of_eq (by rw[List.append_nil];exact hb cvs hl)) (.inl rfl) fun A' env W hA e1 e2 e3 _=>?_
 refine a9 (D'.obj) fun o h_p=>?_;have hob:=h_p.1;have hfd:=h_p.2.1;have hfc:=h_p.2.2
 have test:Et G A' C env W (.Compare (.Call (.Attribute (.Name "self" (P 0)) "part_count" (P 1)) [] [] (P 2)) [.Eq] [.Constant (.int 0) 0 (P 3)] (P 4)) σ (aO [.ref k] 0) (decide ((l.length:Int)=0)) σ :=
  Et.cmp rfl (Ev.accDef KX.acc rfl rfl (by decide) h3 hga hgt hpc (by decide) hob D'.la hfd hfc (Ev.var h1 rfl) hσ Evs.nil (gA KX U D' V' hx0' hm' hns' hb' hA hσ)) Ev.int_ (bv (op:=.Eq) (by have:=hA.units;lia) (by rfl))
 have emp:∀ pp:Pos,Ev G A' C env W (.Constant (.str "") 0 pp) σ (aO [.ref k] 0) (.str []) σ:=fun pp=>Ev.str_ (x:="") (by decide)
 by_cases h0:l=[]
 ·subst h0
  have e:xh []=((.tup [.str [],.str []]:Mine.V),([]:List Mine.V)):=rfl
  rw[e,qy hσ]
  exact EssAt.of (Ess.stop nofun (Es.if_ test (fun _=>Ess.stop nofun (Es.ret (Ev.tup (Evs.cons rfl (emp _) (Evs.cons rfl (emp _) Evs.nil)) (show 2<=lim by decide)))) nofun))
 ·obtain ⟨l',v,rfl⟩:∃ l' v,l=l'++[v]:=⟨l.dropLast,l.getLast h0,(List.dropLast_concat_getLast h0).symm⟩
  have e:xh (l'++[v])=(v,l'):=by unfold xh;simp
  rw[e]
  have hd:decide (((l'++[v]).length:Int)=0)=false:=by simp;lia
  rw[hd] at test
  refine EssAt.cons (EsAt.of (Es.if_ test nofun (fun _=>Ess.nil))) (EssAt.stop ?_)
  exact EsAt.retSup KX.acc U D V h6 dQ1 bk1 (by decide) (.inr rfl) e1 e2 e3 (by rw[hx0];rfl) hσ (fun b=>plainId_quiet (by decide +kernel) _) (fun R ho _ _ _ hQ=>bx1 KX R ho rfl (fun _ e=>by cases e) hQ)
   fun A' ρ s p R hp _=>pV R hp hσ
end
open Builtin Builtin.List
theorem mZ:builtinKind "list.__getitem__"=some .method:=by kernel_rfl
theorem kK:splitId "list.__getitem__"=some ("list","__getitem__"):=by decide +kernel
theorem mX:builtinKind "list.__setitem__"=some .slot:=by kernel_rfl
theorem kI:splitId "list.__setitem__"=some ("list","__setitem__"):=by decide +kernel
section
variable {G:Wd} {A:Around} {C C':Cx} {env cenv:Env} {W W':List Addr} {η η' η₁ η₂ bi:ab} {σ σ' σ₁ σ₂ aj σ₄ bR:List AO} {ρ ρ' aa:Rho} {s s' am aA:Shared} {m:Str->Option Value}
theorem ej(K:Acc G m)(R:Rel G σ ρ s){a:Addr}{o:Obj}{name:Str}{id n:String}{b:Builtin}{rest:List Value}(ho:s.heap.get? a=some o)(hc:o.cls=.ref G.cls)(sl:Slot "list" name id)(hm:m name=none)
  (hk:builtinKind id=some .slot\/builtinKind id=some .method) (hsplit:splitId id=some ("list",n)) (ha:argsOk id ⟨.ref a::rest,[]⟩) (hb:entryFor table id=some b) {Q:Option Value->Shared->Prop} {E:Value->Shared->Prop}
  (h:wpAny (model G.prog G.w) A.in1 (b ⟨.ref a::rest,[]⟩) (fun fin s'=>∃ v,fin=.done (.ret v)/\Q (some v) s') E s):wpAny (model G.prog G.w) A (callSpecial? (.ref a) name rest) Q E s:=by
 unfold callSpecial?
 refine wpAny_bind (bG K R ho hc (.inr ⟨hm,sl.lookup⟩) ?_)
 refine wpAny_holding ?_
 rw[sl.bind]
 refine wpAny_bind (wpAny_pure (wpAny_bind ?_))
 refine wpAny_call (codeAny_call_builtin sl.plain hb (fz K R ho hc hk hsplit ha ?_))
 refine wpAny_mono h (fun fin s' h'=>?_) fun _ _ h'=>h'
 obtain ⟨v,h_p⟩:=h';obtain rfl:=h_p.1;have hv:=h_p.2
 exact wpAny_pure hv
theorem ei(K:Acc G m)(R:Rel G σ ρ s){a:Addr}{o:Obj}{name:Str}{k:Value}(ho:s.heap.get? a=some o)(hc:o.cls=.ref G.cls){Q:Value->Shared->Prop}{E:Value->Shared->Prop}(h:Q k s):wpAny (model G.prog G.w) A (sequenceKey (.ref a) k name) Q E s:=by
 dsimp only[sequenceKey]
 refine wpAny_bind ?_
 unfold typeOf
 refine wpAny_bind (wpAny_load ho (wpAny_pure ?_))
 refine(hc)▸?_
 show wpAny _ _ ((seqItemTypes.anyM fun n=>isSubtype (.ref G.cls) (.type n))>>=_) _ _ _
 dsimp only[seqItemTypes]
 dsimp only[List.anyM]
 refine wpAny_bind (wpAny_bind ((eO K R (c:=.type "collections.deque") (b:=false) (by rw[List.contains_cons,List.contains_cons,List.contains_cons];simp)).here (wpAny_pure ?_)))
 exact wpAny_pure h
theorem gh(K:Acc G m)(R:Rel G σ ρ s){x dx sl:Addr}{items:Array Value}{n:Nat}{vl vu vs:Value}{lo hi st:Option Int}{Q:Value->Shared->Prop}{E:Value->Shared->Prop}(hx:s.heap.get? x=some ⟨.ref G.cls,some dx,.seq items n,#[]⟩)(hgi:m "__getitem__"=none)
  (hs:s.heap.IsSliceOf sl vl vu vs) (pl:IsPart vl lo) (pu:IsPart vu hi) (ps:IsPart vs st) (h0:st≠some 0)
  (h:Q (.ref s.heap.objs.size) { s with heap:=s.heap.push { cls:=.type "list",data:=.seq (slicePick items lo hi st) } })
  (hsz:items.size<=sizeLine):wpAny (model G.prog G.w) A (getItem (.ref x) (.ref sl)) Q E s:=by
 refine a9 (id hs) fun os h_p=>?_;have hos:=h_p.1;have hcs:=h_p.2.1;have hds:=h_p.2.2
 have hTs:s.TypeIs (.ref sl) "slice":=⟨os,hos,hcs⟩
 unfold getItem
 refine wpAny_holding ?_
 refine wpAny_bind (ei K R hx rfl ?_)
 refine wpAny_bind (ej K R hx rfl F.slot_list_getitem hgi (.inr mZ) kK (F.args_list_getitem_2 _ _) F.entry_list_getitem ?_)
 show wpAny _ _ (Builtin.List.listSubscript? (.ref sl)>>=_) _ _ s
 refine wpAny_bind ?_
 dsimp only[Builtin.List.listSubscript?]
 refine wpAny_bind (wpAny_specialOf hTs slice_no_index ?_)
 dsimp only[Option.isNone_none,if_true]
 refine wpAny_pure ?_
 show wpAny _ _ (typeOf (.ref sl)>>=_) _ _ s
 refine wpAny_bind (wpAny_typeOf hTs ?_)
 rw[if_neg (by decide)]
 rw[listSliceParts_eq]
 have hstep:¬ ((rawPart st==rawInt 0)=true):=by
  cases st with
  | none=>exact Bool.false_ne_true
  | some c =>
   intro hh
   have:c=0:=by simpa [rawPart,rawInt] using hh
   exact h0 (by rw[this])
 refine wpAny_bind (wpAny_bind (wpAny_field hos hds (x:=vs) rfl (wpAny_bind (wpAny_listPart ps ?_))))
 refine(if_neg hstep)▸?_
 refine wpAny_bind (wpAny_field hos hds (x:=vl) rfl (wpAny_bind (wpAny_listPart pl ?_)))
 refine wpAny_bind (wpAny_field hos hds (x:=vu) rfl (wpAny_bind (wpAny_listPart pu (wpAny_pure ?_))))
 refine wpAny_bind (m:=Builtin.List.listItems (.ref x)) ?_
 unfold Builtin.List.listItems
 refine wpAny_bind (wpAny_seqItems hx rfl (wpAny_pure ?_))
 refine wpAny_bind (wpAny_of_eq (sliceIndices_raw lo hi st items.size h0) ?_)
 refine wpAny_bind (wpAny_newObj_type (wpAny_pure ⟨_,rfl,wpAny_pure h⟩) (Nat.le_trans (slicePick_size_le items lo hi st) hsz))
theorem yn(K:Acc G m)(R:Rel G σ ρ s){value slice:Expr}{x:Addr}{o:Obj}{i:Value}{Q:Value->Shared->Prop}{E:Value->Shared->Prop}(hx:s.heap.get? x=some o)(hc:o.cls=.ref G.cls)(hgi:m "__getitem__"=none)
  (h:wpAny (model G.prog G.w) A (getItem (.ref x) i) Q E s):wpAny (model G.prog G.w) A (subscriptTail value slice (.ref x) i) Q E s:=by
 unfold subscriptTail
 refine wpAny_bind ?_
 refine(getitemInPython_of_ne (o:=.ref x) nofun)▸?_
 refine wpAny_bind (bG K R hx hc (.inr ⟨hgi,F.slot_list_getitem.lookup⟩) ?_)
 refine wpAny_pure ?_
 refine wpAny_bind ?_
 have fin:∀ vs:List Value,wpAny (model G.prog G.w) A (operate vs (getItem (.ref x) i)) (fun r dY=>wpAny (model G.prog G.w) A (letTemporaryGo value (.ref x) r>>=fun _=>pure r) Q E dY) E s :=
  fun vs=>wpAny_operating (wpAny_mono h (fun r dY gw=>wpAny_bind (wpAny_letTemporaryGo (wpAny_pure gw))) fun _ _ x=>x)
 exact a9 (ue slice (.ref x) i) fun vs e=>e▸fin vs
theorem i4(i n:Nat):sliceBounds (some (i:Int)) none none n=(((min i n:Nat):Int),(n:Int),1):=by
 simp only[sliceBounds,Option.getD_none]
 have h1:¬ ((i:Int)<0):=by lia
 simp only[h1,if_false,show (1:Int)>0 by decide,if_true]
 congr 1
 omega
theorem mu{α:Type}(l:List α)(i:Nat):jR l (some (i:Int)) none none=l.drop i:=by
 unfold jR
 rw[i4]
 dsimp only
 rw[sliceRange_one]
 have:=pick_run l.toArray (min i l.length) (l.length - min i l.length)
 simp only[List.getElem?_toArray] at this
 rw[this,List.take_of_length_le (by simp)]
 by_cases h:i<=l.length
 ·rw[Nat.min_eq_left h]
 ·rw[Nat.min_eq_right (by exact Nat.le_of_lt (Nat.not_le.mp h)),List.drop_of_length_le (Nat.le_refl _),List.drop_of_length_le (by exact Nat.le_of_lt (Nat.not_le.mp h))]
theorem jj(items:Array Value)(i:Nat):(slicePick items (some (i:Int)) none none).toList=items.toList.drop i:=by
 have:=mu items.toList i
 unfold jR at this
 dsimp only[slicePick]
 simpa using this
theorem Ev.accSlice(K:Acc G m){value:Expr}{lower:Option Expr}{p pos:Pos}{k i:Nat}{l:List V}{j:Int}(hgi:m "__getitem__"=none)(dB:Ev G A C env W value σ η (.ref k) σ₁)(cP:Ep G A C env W lower σ₁ η (.int i) σ₂)(hσ:σ₂[k]?=some ⟨l,some j⟩) :
  Ev G A C env W (.Subscript value (.Slice lower none none p) pos) σ η (.lst (l.drop i)) σ₂:=fun ρ s R N ht=>by
 refine Subscript_ (dB.use R N ht fun bz am aa ah aJ aK av=>wpAny_Slice (cP.use ah.rel aJ aK fun b6 aA au aq ci cU aF=>wpAny_pure (wpAny_pure ?_)))
 refine byQ fun Q kQ=>?_
 have hk:∀ b o,aA.heap.get? b=some o->(aA.heap.push { cls:=.type "slice",data:=.fields #[b6,.none,.none] }).get? b=some o:=fun b o e=>Heap.get?_push_of_some _ e
 have eT:Step G au aA au { aA with heap:=aA.heap.push { cls:=.type "slice",data:=.fields #[b6,.none,.none] } } σ₂:=Step.grow aq.rel hk ⟨_,_,rfl⟩
 have zS:=RV.mono (Step.keepV ah.rel (aq.trans eT)) _ _ av
 refine a9 (RV.ref_iff zS) fun q h_p=>?_;have hq:=h_p.1;obtain rfl:=h_p.2
 obtain ⟨t,rfl⟩:=RV.int_iff aF
 refine wg (bc eT.rel hq hσ) fun vs n d g1 g2 g3 g4 g5 g6=>?_
 have hsz:vs.size=l.length:=by have:=RVs.length g2;simpa using this
 refine kQ ?_
 refine yn K eT.rel g1 rfl hgi (gh K eT.rel g1 hgi (Heap.IsSliceOf.new ..) (.int _ _) .none .none nofun ?_ (by rw[hsz];exact Nat.le_trans g6 (by decide)))
 have hk5:∀ b o,(aA.heap.push { cls:=.type "slice",data:=.fields #[.int i t,.none,.none] }).get? b=some o->((aA.heap.push { cls:=.type "slice",data:=.fields #[.int i t,.none,.none] }).push { cls:=.type "list",data:=.seq (slicePick vs (some (i:Int)) none none) }).get? b=some o :=
  fun b o e=>Heap.get?_push_of_some _ e
 refine⟨au,(ah.trans (aq.trans eT)).trans (Step.grow eT.rel hk5 ⟨_,_,rfl⟩),?_⟩
 dsimp only[RV]
 refine⟨by rw[List.length_drop];exact Nat.le_trans (Nat.sub_le _ _) ‹_›,_,_,rfl,bM eT.rel,⟨_,Heap.get?_push_size _ rfl⟩,RVs.sameHeap hk5 ?_⟩
 rw[jj]
 exact RVs.drop i g2
end
noncomputable def ez(C:Cx)(body:List Stmt):Prop:=∃ P:Nat->Pos,body=[.Assign [.Name "popped" (P 0)] (.Subscript (.Name "self" (P 1)) (.Slice (some (.Name "i" (P 2))) none none (P 3)) (P 4)) (P 5),
  .Assign [.Subscript (.Name "self" (P 6)) (.Slice (some (.Name "i" (P 7))) none none (P 8)) (P 9)] (.List [] (P 10)) (P 11),.Return (some (.Name "popped" (P 12))) (P 13)] /\
 (cL C "self" 0&&cL C "i" 1&&fe C "popped" 2)=true
section
variable {G:Wd} {A:Around} {C C':Cx} {env cenv:Env} {W W':List Addr} {η η' η₁ η₂ bi:ab} {σ σ' σ₁ σ₂ aj σ₄ bR:List AO} {ρ ρ' aa:Rho} {s s' am aA:Shared} {m:Str->Option Value}
theorem kM(items:Array Value)(i:Nat):(items.extract 0 (((min i items.size:Nat):Int)).toNat++(#[]:Array Value)++items.extract (max ((min i items.size:Nat):Int) (items.size:Int)).toNat items.size).toList=items.toList.take i:=by
 have e1:(max ((min i items.size:Nat):Int) (items.size:Int)).toNat=items.size:=by lia
 rw[e1,Int.toNat_natCast]
 simp only[Array.append_empty,Array.toList_append,Array.toList_extract,List.extract_eq_take_drop]
 simp
theorem pY(K:Acc G m){k i:Nat}{l:List V}{j:Int}{p:Addr×Addr}{sl e:Addr}{t:Tok}(R:Rel G σ ρ s)(hp:ρ.st[k]?=some p)(hσ:σ[k]?=some ⟨l,some j⟩)(hsi:m "__setitem__"=none)
  (hs:s.heap.IsSliceOf sl (.int i t) .none .none) (he:s.heap.PlainList e #[]):wpAny (model G.prog G.w) A (setItem (.ref p.1) (.ref sl) (.ref e)) (fun _ s'=>∃ ρ',Step G ρ s ρ' s' (σ.set k ⟨l.take i,some j⟩)) No s:=by
 refine byQ fun Q kQ=>?_
 refine wg (bc R hp hσ) fun vs n d g1 g2 g3 g4 g5 g6=>?_
 have hsz:vs.size=l.length:=by have:=RVs.length g2;simpa using this
 refine a9 (id hs) fun os h_p=>?_;have hos:=h_p.1;have hcs:=h_p.2.1;have hds:=h_p.2.2
 refine a9 (id he) fun en hen=>?_
 have hTs:s.TypeIs (.ref sl) "slice":=⟨os,hos,hcs⟩
 have hxe:p.1≠e:=by rintro rfl;replace hen:=(g1)▸hen;cases hen
 refine kQ ?_
 unfold setItem
 refine wpAny_holding ?_
 refine wpAny_bind (ei K R g1 rfl ?_)
 refine wpAny_bind (ej K R g1 rfl F.slot_list_setitem hsi (.inl mX) kI (F.args_list_setitem_3 _ _ _) F.entry_list_setitem ?_)
 show wpAny _ _ (Builtin.List.listSubscript? (.ref sl)>>=_) _ _ s
 refine wpAny_bind ?_
 dsimp only[Builtin.List.listSubscript?]
 refine wpAny_bind (wpAny_specialOf hTs slice_no_index ?_)
 dsimp only[Option.isNone_none,if_true]
 refine wpAny_pure ?_
 show wpAny _ _ (typeOf (.ref sl)>>=_) _ _ s
 refine wpAny_bind (wpAny_typeOf hTs ?_)
 rw[if_neg (by decide)]
 rw[listSliceParts_eq]
 refine wpAny_bind (wpAny_bind (wpAny_field hos hds (x:=.none) rfl (wpAny_bind (wpAny_listPart .none ?_))))
 refine(if_neg (show ¬ ((rawPart none==rawInt 0)=true) from Bool.false_ne_true))▸?_
 refine wpAny_bind (wpAny_field hos hds (x:=.int i t) rfl (wpAny_bind (wpAny_listPart (.int _ _) ?_)))
 refine wpAny_bind (wpAny_field hos hds (x:=.none) rfl (wpAny_bind (wpAny_listPart .none (wpAny_pure ?_))))
 have hsame:Builtin.List.listSameRef (.ref p.1) (.ref e)=false:=by simp [Builtin.List.listSameRef,hxe]
 dsimp only
 refine(hsame)▸?_
 refine wpAny_bind ?_
 unfold Builtin.List.listAllItems
 refine wpAny_bind (wpAny_typeOf (T:="list") ⟨_,hen,rfl⟩ ?_)
 refine(if_pos (show (Value.type "list"==.type "list" || Value.type "list"==.type "tuple")=true by decide))▸?_
 unfold Builtin.List.listItems
 refine wpAny_bind (wpAny_seqItems hen rfl (wpAny_pure ?_))
 refine wpAny_bind ?_
 refine wpAny_bind (wpAny_seqItems g1 rfl (wpAny_pure ?_))
 refine wpAny_bind (wpAny_of_eq (sliceIndices_raw (some (i:Int)) none none vs.size nofun) ?_)
 rw[i4]
 dsimp only
 refine(if_pos (show ((1:Int)==1)=true by decide))▸?_
 refine wpAny_bind (wpAny_rule ?_)
 have hlong:Builtin.List.listTooLong (vs.size+(#[]:Array Value).size)=false:=by
  unfold Builtin.List.listTooLong
  have:sizeLine=16777216:=rfl
  unfold lim at g6
  simp;lia
 rw[hlong,if_neg Bool.false_ne_true]
 have hit:=kM vs i
 generalize hus:(vs.extract 0 (((min i vs.size:Nat):Int)).toNat++(#[]:Array Value)++vs.extract (max ((min i vs.size:Nat):Int) (vs.size:Int)).toNat vs.size)=us at hit
 have husz:us.size<=l.length:=by
  have e1:us.size=(vs.toList.take i).length:=by rw[← hit,Array.length_toList]
  rw[e1,List.length_take,Array.length_toList,hsz];exact Nat.min_le_right _ _
 have hu:∀ o:Obj,o=⟨.ref G.cls,some p.2,.seq vs n,#[]⟩->Obj.mapSeq (fun xs=>xs.extract 0 (((min i vs.size:Nat):Int)).toNat++(#[]:Array Value)++xs.extract (max ((min i vs.size:Nat):Int) (vs.size:Int)).toNat) o=⟨.ref G.cls,some p.2,.seq us (if us.size==vs.size then n else n+1),#[]⟩:=by
  rintro o rfl
  rw[← hus];rfl
 show wpAny _ _ (updateSeq p.1 _>>=fun _=>_) _ _ s
 refine wpAny_bind (wpAny_updateSeq g1 rfl (wpAny_bind (wpAny_letGo (wpAny_pure ⟨_,rfl,wpAny_pure ?_⟩))) (by rw[hsz];exact Nat.le_trans g6 (by decide)) (by rw[hus];exact Nat.le_succ_of_le (Nat.le_trans husz (Nat.le_trans g6 (by decide)))))
 refine⟨ρ,l4 (t:=s.toks) R hp hσ (Heap.SameBut.update ..).extBut (by rw[List.length_take];omega) (by rw[Heap.get?_update_self _ g1 (by rfl)];exact congrArg some (hu _ rfl)) fun KK=>?_⟩
 rw[hit]
 exact RVs.take i (RVs.mono KK _ _ g2)
theorem Es.accCut(K:Acc G m){o lo:Expr}{p q lp pos:Pos}{k i:Nat}{l:List V}{j:Int}(hsi:m "__setitem__"=none)(dB:Ev G A C env W o σ η (.ref k) σ)(cP:Ev G A C env W lo σ η (.int i) σ)(hσ:σ[k]?=some ⟨l,some j⟩) :
  Es G A C env W (.Assign [.Subscript o (.Slice (some lo) none none p) q] (.List [] lp) pos) σ η .next (σ.set k ⟨l.take i,some j⟩) η:=fun ρ s R N ht=>by
 have hnil:Ev G A C env W (.List [] lp) σ η (.lst []) σ:=Ev.lst Evs.nil (Nat.zero_le _)
 refine wpAny_Assign_Subscript (hnil.use R N ht fun kQ1 s₀ eV mb k01 iS1 gm1=>dB.use mb.rel k01 iS1 fun bz am aa ah aJ aK av=>wpAny_Slice (cP.use ah.rel aJ aK fun b6 aA au aq ci cU aF=>wpAny_pure (wpAny_pure ?_))) rfl
 have hk:∀ b o,aA.heap.get? b=some o->(aA.heap.push { cls:=.type "slice",data:=.fields #[b6,.none,.none] }).get? b=some o:=fun b o e=>Heap.get?_push_of_some _ e
 have eT:Step G au aA au { aA with heap:=aA.heap.push { cls:=.type "slice",data:=.fields #[b6,.none,.none] } } σ:=Step.grow aq.rel hk ⟨_,_,rfl⟩
 have zS:=RV.mono (Step.keepV ah.rel (aq.trans eT)) _ _ av
 have gl1:=RV.mono (Step.keepV mb.rel (ah.trans (aq.trans eT))) _ _ gm1
 refine a9 (RV.ref_iff zS) fun q h_p=>?_;have hq:=h_p.1;obtain rfl:=h_p.2
 obtain ⟨t,rfl⟩:=RV.int_iff aF
 obtain ⟨_,ae,ve,h_p⟩:=RV.lst_iff gl1;obtain rfl:=h_p.1;have hpe:=h_p.2.2.1;have hre:=h_p.2.2.2
 have hve:ve=#[]:=by
  have:=RVs.nil_iff hre
  exact Array.toList_eq_nil_iff.mp this
 subst hve
 refine wpAny_mono (pY K eT.rel hq hσ hsi (Heap.IsSliceOf.new ..) hpe) (fun _ dY ⟨bA,bQ⟩=>?_) fun _ _ f=>f.elim
 have T:=mb.trans (ah.trans (aq.trans (eT.trans bQ)))
 exact⟨bA,Step.toW T,N.mono R T,rfl⟩
theorem gt(K:Acc G m){body:List Stmt}{k i:Nat}{l:List V}{j:Int}(hm:ez C body)(hgi:m "__getitem__"=none)(hsi:m "__setitem__"=none)(hσ:σ[k]?=some ⟨l,some j⟩) :
  Ess G A C env W body σ (aO [.ref k,.int i] 1) (.ret (.lst (l.drop i))) (σ.set k ⟨l.take i,some j⟩) ((aO [.ref k,.int i] 1).set 2 (some (.lst (l.drop i)))):=by
 refine byQ fun Q kQ=>?_
 obtain ⟨P,rfl,hm⟩:=hm
 simp only[Bool.and_eq_true] at hm
 have h1:=hm.1.1;have h2:=hm.1.2;have h3:=hm.2
 have h4:cL C "popped" 2=true:=by
  refine a9 (bu h3) fun z h_p=>?_;have hz:=h_p.1;have e1:=h_p.2.1;have e2:=h_p.2.2.1
  unfold cL
  exact List.any_eq_true.mpr ⟨z,hz,by rw[e1,e2];rfl⟩
 refine a9 (bu h3) fun z h_p=>?_;have hz:=h_p.1;have hzn:=h_p.2.1;have hzs:=h_p.2.2.1;have hzo:=h_p.2.2.2
 have a:=Es.asg (G:=G) (A:=A) (env:=env) (W:=W) (p:=P 0) (pos:=P 5) hz hzo rfl (Ev.accSlice (p:=P 3) (pos:=P 4) K (i:=i) (j:=j) (l:=l) hgi (Ev.var (p:=P 1) (σ:=σ) (η:=aO [.ref k,.int i] 1) h1 rfl) (.inr ⟨_,rfl,Ev.var (p:=P 2) h2 rfl⟩) hσ)
 rw[hzn,hzs] at a
 refine kQ ?_
 exact Ess.cons a (Ess.cons (Es.accCut K hsi (Ev.var h1 rfl) (Ev.var h2 rfl) hσ) (Ess.stop nofun (Es.ret (Ev.var h4 rfl))))
theorem sW(K:Acc G m){a:Addr}{fd:FuncData}{body:List Stmt}{ns:List Str}{n k i:Nat}{l:List V}{j:Int}(D:DefM G a fd body C ns)(hm:ez C body)(hns:ns.length=2)
  (hb:∀ (s:Shared) (cvs:List Value),(∀ b o,b ∉ G.loose->G.s₀.heap.get? b=some o->s.heap.get? b=some o)->cvs.length=2->BindsTo s fd ⟨cvs,[]⟩ (ns.zip cvs)) (hgi:m "__getitem__"=none) (hsi:m "__setitem__"=none) (hr:Room A (n+1)) (hσ:σ[k]?=some ⟨l,some j⟩) :
  On G A (fun cvs=>call (.ref a) cvs) σ [.ref k,.int i] (.lst (l.drop i)) (σ.set k ⟨l.take i,some j⟩) :=
 On.defM (k:=1) (xs:=[]) (dv:=[]) D hr (by rw[hns];rfl) (fun _ _=>RVs.nil) (fun s cvs hk hl=>(by rw[List.append_nil];exact hb s cvs hk hl)) (.inl rfl) fun A' env W hA _ _ _ _=>EssAt.of (gt K hm hgi hsi hσ)
theorem p9(K:Acc G m){a:Addr}{fd:FuncData}{body:List Stmt}{ns:List Str}{n k:Nat}{l:List V}{j:Int}{t:Tok}(D:DefM G a fd body C ns)(hm:ez C body)(hns:ns.length=2)
  (hb:∀ (s:Shared) (cvs:List Value),(∀ b o,b ∉ G.loose->G.s₀.heap.get? b=some o->s.heap.get? b=some o)->cvs.length=1->BindsTo s fd ⟨cvs,[]⟩ (ns.zip (cvs++[.int 0 t]))) (hgi:m "__getitem__"=none) (hsi:m "__setitem__"=none) (hr:Room A (n+1)) (hσ:σ[k]?=some ⟨l,some j⟩) :
  On G A (fun cvs=>call (.ref a) cvs) σ [.ref k] (.lst l) (σ.set k ⟨[],some j⟩) :=
 On.defM (k:=1) (xs:=[.int 0]) (dv:=[.int 0 t]) D hr (by rw[hns];rfl) (fun _ _=>RVs.cons RV.int_ RVs.nil) hb (.inl rfl) fun A' env W hA _ _ _ _=>EssAt.of (gt (i:=0) K hm hgi hsi hσ)
end
noncomputable def xO(P:Nat->Pos):List Stmt:=[.Assign [.Attribute (.Name "self" (P 0)) "_initial_size" (P 1)] (.Name "initial_size" (P 2)) (P 3),.Expr (fi1 "__init__" P 4) (P 8)]
noncomputable def xN(C:Cx)(body:List Stmt):Prop:=∃ P:Nat->Pos,body=xO P /\
 (cL C "self" 0&&cL C "initial_size" 1&&(P 6).endLine==(P 7).line)=true
theorem oo(C:Addr)(i:Value):(Code.builtin "type.__call__" ⟨[.ref C,i],[]⟩).weight=1:=by kernel_rfl
theorem cX:typeLookup (.type "list") "_initial_size"=pure none:=by rw[typeLookup_type,builtinLookup_eq_fast];kernel_rfl
section
variable {G:Wd} {A:Around} {C C':Cx} {env cenv:Env} {W W':List Addr} {η η' η₁ η₂ bi:ab} {σ σ' σ₁ σ₂ aj σ₄ bR:List AO} {ρ ρ' aa:Rho} {s s' am aA:Shared} {m:Str->Option Value}
theorem yo(K:Acc G m)(R:Rel G σ ρ s){name:Str}{v:Value}(h:m name=some v){M:Model}:Looks M s.heap (typeLookup (.ref G.cls) name) (some v):=fun A Q E s' k hQ=>by
 refine cH (ct K R) fun o cd h_p=>?_;have h1:=h_p.1;have h2:=h_p.2.1;have h3:=h_p.2.2.1;have h4:=h_p.2.2.2
 have h1':=k _ _ h1
 have h4':=h4.keeps k
 rw[typeLookup_eq]
 refine wpAny_bind (m:=mroOf (.ref G.cls)) ?_
 show wpAny M A (do return (← classData G.cls).mro) _ E s'
 refine wpAny_bind ?_
 unfold classData
 refine wpAny_bind (wpAny_load h1' ?_)
 refine(h2)▸?_
 refine wpAny_pure (wpAny_pure ?_)
 rw[h3,lookupAlong_cons]
 refine wpAny_bind ?_
 show wpAny M A (do nsGet (← classData G.cls).ns name) _ E s'
 refine wpAny_bind ?_
 unfold classData
 refine wpAny_bind (wpAny_load h1' ?_)
 refine(h2)▸?_
 refine wpAny_pure (wpAny_nsGet h4' ?_)
 exact(h)▸(wpAny_pure hQ)
theorem qH{a L:Addr}{fd:FuncData}{body:List Stmt}{ns:List Str}(D:DefM G a fd body C ns){w:Var}{j:Nat}{c:Value}{cvs:List Value}{p:Pos}(hw:w∈C.vars)(hj:ns[j]?=some w.name)(hc:cvs[j]?=some c)
  (hns:s.heap.Ns L (fun x=>List.lookup x (ns.zip cvs).reverse)) {Q:Value->Shared->Prop} {E:Value->Shared->Prop} (hQ:Q c s):wpAny (model G.prog G.w) A (eval (.Name w.name p) (callEnv fd L a)) Q E s :=
 av1 (br D.ok) fun hCok hnd _ _=>wpAny_Name (wpAny_loadName_local (show fd.scope.kind=.function from D.scope▸(Cx.ok_parts hCok).1) (D.locs _ (List.mem_of_getElem? hj)) hns (cN ns cvs j hnd hj hc) hQ) ((Cx.ok_parts hCok).2 w hw).2.1
theorem qG{a:Addr}{fd:FuncData}{body:List Stmt}{ns:List Str}(D:DefM G a fd body C ns){w:Var}{j:Nat}(hw:w∈C.vars)(hj:w.slot=j)(hl:j<ns.length):ns[j]?=some w.name :=
 have e:=List.getElem?_eq_getElem hl
 e.trans (congrArg some (((br D.ok).2.2.1 w hw).1 _ (hj▸e)))
theorem as1{xA dA L:Addr}(h:Off ρ L)(h1:xA≠L)(h2:dA≠L):Off ⟨ρ.st++[(xA,dA)],ρ.hid⟩ L :=
 ⟨fun p hp=>Or.elim (List.mem_append.mp hp) (h.1 p) fun hp=>List.mem_singleton.mp hp▸⟨h1,h2⟩,h.2⟩
theorem xM(KX:AccX G m)(U:Sup G){a:Addr}{fd:FuncData}{P:Nat->Pos}{ns:List Str}{i:Int}{t:Tok}(D:DefM G a fd (xO P) C ns){x:Var}(V:SupD G fd C x)(hx0:x.slot=0)
  (hm:(cL C "self" 0&&cL C "initial_size" 1&&(P 6).endLine==(P 7).line)=true) (hns:ns.length=2) {xA dA L:Addr} {h₀:Heap} {tk:Nat} (R:Rel G σ ρ s) (hxA:s.heap.get? xA=none) (hdA:s.heap.get? dA=none) (hL:s.heap.get? L=none)
  (n1:dA≠xA) (n2:dA≠L) (n3:xA≠L) (k0:∀ b ob,s.heap.get? b=some ob->h₀.get? b=some ob) (hx:h₀.get? xA=some (dj G.cls dA)) (hd:h₀.get? dA=some emptyDict)
  (hnl:h₀.Ns L (fun y=>List.lookup y (ns.zip [.ref xA,.int i t]).reverse)) (htk:0<tk) :
  PySem.wpAt (model G.prog G.w) A (.func (xO P) (callEnv fd L a)) (execs (xO P) (callEnv fd L a)) (fun f s'=>f=.next/\PE G ρ s (σ++[⟨[],some i⟩]) (.ref σ.length) (.ref xA) s') No { s with heap:=h₀,toks:=tk }:=by
 have q:=ak hm
 have q1:=ak q.1
 refine qJ (cj q1.1) fun y hy hyn hys=>qJ (cj q1.2) fun z hz hzn hzs=>?_
 have kY1:Rel G σ ρ { s with heap:=h₀,toks:=tk }:=(Step.grow R k0 ⟨_,_,rfl⟩).rel
 have hdn:h₀.Ns1 dA (fun _=>none):=Heap.Ns1.of_empty ⟨_,#[],_,hd,rfl,fun e he=>absurd he (by simp),fun _=>rfl⟩
 refine ks_wpAt_execs_cons (ks_wpAt_Assign_Attr (PySem.wpAt_of_wpAny (hzn▸qH (s:={ s with heap:=h₀,toks:=tk }) D hz (qG D hz hzs (hns▸by decide)) rfl hnl (hyn▸qH (s:={ s with heap:=h₀,toks:=tk }) D hy (qG D hy hys (hns▸by decide)) rfl hnl ?_))) (by rfl))
 refine pU (s:={ s with heap:=h₀,toks:=tk }) KX kY1 KX.hna cX hx n1 hdn fun h' tk' htk' hn' hk'=>?_
 have k1:∀ b ob,s.heap.get? b=some ob->h'.get? b=some ob:=fun b ob e=>hk' b ob (fun q=>son (e.symm.trans (q▸hdA))) (k0 b ob e)
 have T:Step G ρ s ⟨ρ.st++[(xA,dA)],ρ.hid⟩ { s with heap:=h',toks:=tk' } (σ++[⟨[],some i⟩]) :=
  Step.add R k1 ⟨_,_,rfl⟩ hxA hdA fun _=>by
   delta RO
   exact⟨Nat.zero_le _,#[],0,_,hk' _ _ n1.symm hx,RVs.nil,hn'.ns,⟨t,if_pos rfl⟩,fun w hw=>if_neg hw⟩
 have hL':=cI R hL
 have hp0:(⟨ρ.st++[(xA,dA)],ρ.hid⟩:Rho).st[σ.length]?=some (xA,dA):=by
  show (ρ.st++[(xA,dA)])[σ.length]?=_
  rw[← R.len];simp
 have N:RE G C (callEnv fd L a) [L] (aO [.ref σ.length,.int i] 0) ⟨ρ.st++[(xA,dA)],ρ.hid⟩ { s with heap:=h',toks:=tk' } :=
  yO D.ok D.scope D.glob D.blt D.cells ⟨as1 hL'.1 n3 n2,hL'.2⟩ (uM hnl fun oL es ep eL hd rest=>ij1 oL es ep (hk' L oL n2.symm eL) hd rest) (RVs.cons (by delta RV;exact⟨_,hp0,rfl⟩) (RVs.cons (by delta RV;exact⟨_,rfl⟩) RVs.nil)) hns.symm
 have gJ1:(σ++[⟨[],some i⟩])[σ.length]?=some ⟨[],some i⟩:=by simp
 refine ks_wpAt_execs_cons (ks_wpAt_Expr_any (ks_wpAt_mono (qv KX.acc U D V aN1 yf (by decide) (.inl rfl) rfl rfl rfl (by rw[hx0];rfl) gJ1 q.2 (fun b=>plainId_quiet (by decide +kernel) _) (fun _ _ _ _ _ hQ=>wpAny_of_eq (yj _) hQ)
  (fun A' ρ s p R hp _=>nQ R hp gJ1) T.rel N (Nat.lt_of_lt_of_le htk htk')) (fun cv dY h=>?_) fun _ _ f=>f.elim) (d9 N) (by rfl))
 obtain ⟨jK,bA,bQ,fD⟩:=h
 refine PySem.wpAt_of_wpAny (wpAny_execs_nil ⟨rfl,bA,(qy gJ1)▸T.trans bQ,?_⟩)
 refine a9 bQ.ext fun new e=>?_
 delta RV
 exact⟨(xA,dA),by rw[e.1];exact(List.getElem?_append_left (List.getElem?_eq_some_iff.mp hp0).1).trans hp0,rfl⟩
theorem bR1(KX:AccX G m)(U:Sup G){a:Addr}{fd:FuncData}{body:List Stmt}{ns:List Str}{n:Nat}{i:Int}(D:DefM G a fd body C ns){x:Var}(V:SupD G fd C x)(hx0:x.slot=0)(hm:xN C body)(hns:ns.length=2)
  (hb:∀ (s:Shared) (cvs:List Value),(∀ b o,b ∉ G.loose->G.s₀.heap.get? b=some o->s.heap.get? b=some o)->cvs.length=2->BindsTo s fd ⟨cvs,[]⟩ (ns.zip cvs)) (hin:m "__init__"=some (.ref a)) (hr:Room A (n+2)) :
  On G A (fun cvs=>call (.ref G.cls) cvs) σ [.int i] (.ref σ.length) (σ++[⟨[],some i⟩]):=fun ρ s cvs R r ht=>by
 obtain ⟨c,r',rfl,r1,r2⟩:=RVs.cons_iff r
 refine(RVs.nil_iff r2)▸?_
 obtain ⟨t,rfl⟩:=RV.int_iff r1
 obtain ⟨P,h_p⟩:=hm;obtain rfl:=h_p.1;have hm:=h_p.2
 refine qJ D.obj fun o hob hd hoc=>?_
 have ho:=R.keep a o D.la hob
 have hkf:fd.scope.kind=.function:=D.scope▸(Cx.ok_parts (br D.ok).1).1
 have k0:∀ b ob,s.heap.get? b=some ob->((s.heap.push emptyDict).push (dj G.cls s.heap.objs.size)).get? b=some ob:=fun b ob e=>Heap.get?_push_of_some _ (Heap.get?_push_of_some _ e)
 have hx0':((s.heap.push emptyDict).push (dj G.cls s.heap.objs.size)).get? (s.heap.objs.size+1)=some (dj G.cls s.heap.objs.size):=by heap_get
 have hd0:((s.heap.push emptyDict).push (dj G.cls s.heap.objs.size)).get? s.heap.objs.size=some emptyDict:=by heap_get
 have hsz1:((s.heap.push emptyDict).push (dj G.cls s.heap.objs.size)).objs.size=s.heap.objs.size+2:=by rw[Heap.size_push,Heap.size_push]
 have hcr:=h71 (D.rec_ R) fun c oc us t e1 e2 e3 e4=>ih1 c oc us t e1 (k0 _ _ e2) e3 e4
 refine wpAny_call (xy rfl (y2 KX R) (yo KX.acc R hin) ⟨o,ho,hoc⟩ ?_)
 generalize (s.heap.push emptyDict).push (dj G.cls s.heap.objs.size)=dB at k0 hx0' hd0 hsz1 hcr
 refine ks_codeAny_call_defAt (body:=_) (binds:=ns.zip [.ref (s.heap.objs.size+1),.int i t]) ?_ (k0 _ _ ho) hd ((mR R D.nolimit D.ls).keeps k0) hcr D.body (hb _ _ (fun b ob hl e=>k0 _ _ (R.keep b ob hl e)) rfl) D.cells (fun x hx=>D.locs _ (List.of_mem_zip (a:=x.1) (b:=x.2) hx).1) (fun h₀ ed1 r9=>?_) D.co D.gen hkf
 ·show A.depth+(Code.builtin "type.__call__" ⟨[.ref G.cls,.int i t],[]⟩).weight<recursionLimit
  rw[oo]
  exact Nat.lt_of_le_of_lt (Nat.add_le_add_left (Nat.le_add_left 1 (n+1)) _) hr.depth
 ·have ne:∀ {b c:Nat},b<c->b≠c:=Nat.ne_of_lt
  refine ks_wpAt_mono (xM (s:=s) KX U D V hx0 hm hns (xA:=s.heap.objs.size+1) (dA:=s.heap.objs.size) (L:=dB.objs.size) (h₀:=h₀) R (bL (Nat.le_succ _)) (bL (Nat.le_refl _)) (bL (by rw[hsz1];exact Nat.le_add_right _ 2)) (ne (Nat.lt_succ_self _)) (by rw[hsz1];exact ne (Nat.lt_add_of_pos_right (by decide)))
   (by rw[hsz1];exact ne (Nat.lt_succ_self _)) (fun b ob e=>r9 _ _ (k0 b ob e)) (r9 _ _ hx0') (r9 _ _ hd0) ed1 (Nat.lt_of_lt_of_le ht (Nat.le_add_right _ _))) (fun f s' h=>?_) fun _ _ f=>f.elim
  refine(h.1)▸?_
  exact⟨rfl,h.2⟩
end
noncomputable def b3M(C:Cx)(body:List Stmt):Prop:=∃ P:Nat->Pos,body=[.Assign [.Name "r" (P 0)] (.Call (.Attribute (.Name "b3_exceptions" (P 1)) "get" (P 2)) [.Call (.Name "ord" (P 3)) [.Name "code" (P 4)] [] (P 5)] [] (P 6)) (P 7),
  .If (.Compare (.Name "r" (P 8)) [.IsNot] [.Constant .none 0 (P 9)] (P 10)) [.Return (some (.Name "r" (P 11))) (P 12)] [] (P 13),.Return (some (.Call (.Attribute (.Name "code" (P 14)) "lower" (P 15)) [] [] (P 16))) (P 17)] /\
 (fe C "r" 1&&cL C "r" 1&&cL C "code" 0&&gx C "b3_exceptions" "b3_exceptions"&&gx C "ord" "ord"&&(P 2).endLine==(P 6).line&&(P 15).endLine==(P 16).line)=true
theorem vd(x:Str)(t:Tok):compareOp .IsNot (.str x t) .none=pure (.bool true):=by kernel_rfl
theorem r6:compareOp .IsNot .none .none=pure (.bool false):=by kernel_rfl
theorem xq:Mt "str" "lower" "str.lower":=⟨F.plainAttrs_str,F.slot_str_lower,by kernel_rfl⟩
section
variable {G:Wd} {A:Around} {σ σ' σ₁:List AO}
theorem hB1{a d:Addr}{fd:FuncData}{body:List Stmt}{C:Cx}{ns:List Str}{n c:Nat}{knd:KeyKind G.prog G.w Int}{f:Int->Option Value}{g:Nat->Option (List Nat)}(hns:ns.length=1)(hkn:∀ i t,knd.is i (.int i t)=true)(D:Def G a fd body C ns)(hm:b3M C body)
  (hr:Room A (n+1)) (ho:Gl G "ord" (.builtin "ord")) (gl:Gl G "b3_exceptions" (.ref d)) (hds:(d==sysModules)=false) (hno:∃ o,G.s₀.heap.get? d=some o/\o.cls=.type "dict"/\o.dict=none)
  (hM:∀ s:Shared,(∀ o,G.s₀.heap.get? d=some o->s.heap.get? d=some o)->s.heap.MapOf knd d f) (hd:d ∉ G.loose)
  (hv:∀ c:Nat,match g c with | some l=>l.length<=lim/\∃ t,f c=some (.str ⟨l.toArray⟩ t) | none=>f c=none) (hlow:(jp c).length<=lim) :
  On G A (fun cvs=>call (.ref a) cvs) σ [.str [c]] (.str (match g c with | some l=>l | none=>jp c)) σ:=by
 refine byQ fun Q kQ=>?_
 obtain ⟨P,rfl,hm⟩:=hm
 simp only[Bool.and_eq_true] at hm
 obtain ⟨⟨⟨⟨⟨⟨h1,h1'⟩,h6⟩,h2⟩,h5⟩,h4⟩,h11⟩:=hm
 refine a9 (bu h1) fun r h_p=>?_;have hr1:=h_p.1;have hrn:=h_p.2.1;have hr2:=h_p.2.2.1;have hr3:=h_p.2.2.2
 have h_p:=bT h2;have k2:=h_p.2.1;have d2:=h_p.2.2
 have h_p:=bT h5;have k5:=h_p.2.1;have d5:=h_p.2.2
 have key:∀ (A':Around) (env:Env) (W:List Addr) (v:V),(∀ (h:Heap) ρ,RV h ρ v ((f (c:Int)).getD .none))->A'.handled=none ->
   Es G A' C env W (.Assign [.Name "r" (P 0)] (.Call (.Attribute (.Name "b3_exceptions" (P 1)) "get" (P 2)) [.Call (.Name "ord" (P 3)) [.Name "code" (P 4)] [] (P 5)] [] (P 6)) (P 7)) σ (aO [.str [c]] 1) .next σ ((aO [.str [c]] 1).set 1 (some v)):=fun A' env W v hv' hh=>by
  have:=Es.asg (p:=P 0) (pos:=P 7) hr1 hr3 rfl (Ev.dictGet (A:=A') (env:=env) (W:=W) (η:=aO [.str [c]] 1) (σ:=σ) (σ₁:=σ) (p:=P 1) (apos:=P 2) (pos:=P 6) (f:=f) (v:=v) hkn k2 d2 gl hds hno hM hd hv' rfl h4 (Ev.callB (id:="ord") (p:=P 3) (pos:=P 5) k5 d5 ho rfl (Evs.cons rfl (Ev.var (p:=P 4) h6 rfl) Evs.nil) (i7 (f:=.ord) hh (by rfl))))
  rw[hrn,hr2] at this
  exact this
 have hc:=hv c
 refine kQ ?_
 cases hg:g c with
 | some l =>
  rw[hg] at hc
  obtain ⟨hl,t,ht⟩:=hc
  have hv':∀ (h:Heap) ρ,RV h ρ (.str l) ((f (c:Int)).getD .none):=fun h ρ=>by
   rw[ht]
   delta RV
   exact⟨hl,t,rfl⟩
  refine On.def (k:=1) (fl:=.ret (.str l)) (η':=(aO [.str [c]] 1).set 1 (some (.str l))) D hr (by rw[hns];rfl) (.inl rfl) fun A' env W hA=>Ess.cons (key A' env W (.str l) hv' hA.handled) ?_
  refine Ess.stop nofun (Es.if_ (c:=true) (σ₁:=σ) (Et.cmp (σ₁:=σ) (σ₂:=σ) (v₁:=.str l) (v₂:=.none) rfl (Ev.var h1' rfl) Ev.none_ (On.two fun ρ s bz b6 R av aF ht=>?_)) (fun _=>Ess.stop nofun (Es.ret (Ev.var h1' rfl))) nofun)
  obtain ⟨_,u,rfl⟩:=RV.str_iff av
  rw[RV.none_iff aF]
  exact wpAny_of_eq (vd _ _) (aC R)
 | none =>
  replace hc:=(hg)▸hc
  have hv':∀ (h:Heap) ρ,RV h ρ .none ((f (c:Int)).getD .none):=fun h ρ=>by
   rw[hc]
   delta RV
   rfl
  refine On.def (k:=1) (fl:=.ret (.str (jp c))) (η':=(aO [.str [c]] 1).set 1 (some .none)) D hr (by rw[hns];rfl) (.inl rfl) fun A' env W hA=>Ess.cons (key A' env W .none hv' hA.handled) ?_
  refine Ess.cons (Es.if_ (c:=false) (σ₁:=σ) (Et.cmp (σ₁:=σ) (σ₂:=σ) (v₁:=.none) (v₂:=.none) rfl (Ev.var h1' rfl) Ev.none_ (On.two fun ρ s bz b6 R av aF ht=>?_)) nofun (fun _=>Ess.nil)) ?_
  ·rw[RV.none_iff av,RV.none_iff aF]
   exact wpAny_of_eq r6 (aC R)
  ·exact Ess.stop nofun (Es.ret (Ev.meth xq rfl rfl (by decide) h11 (Ev.var h6 rfl) rfl Evs.nil (oT hlow)))
end
noncomputable def dz1:rm:=fun vs σ=>match vs with
 | [.int i]=>some (.ref σ.length,σ++[⟨[],some i⟩])
 | _=>none
noncomputable def uI:rm:=fun vs σ=>match vs with
 | [.ref k,a,b]=>match σ[k]? with
  | some ⟨l,some i⟩=>if l.length<lim then some (.none,σ.set k ⟨l++[.tup [a,b]],some i⟩) else none
  | _=>none
 | _=>none
noncomputable def fc:rm:=fun vs σ=>match vs with
 | [.ref k]=>match σ[k]? with
  | some ⟨l,some i⟩=>some (.lst l,σ.set k ⟨[],some i⟩)
  | _=>none
 | [.ref k,.int j]=>match σ[k]? with
  | some ⟨l,some i⟩=>if 0<=j then some (.lst (l.drop j.toNat),σ.set k ⟨l.take j.toNat,some i⟩) else none
  | _=>none
 | _=>none
noncomputable def gq1:rm:=fun vs σ=>match vs with
 | [.ref k]=>match σ[k]? with
  | some ⟨l,some i⟩=>some ((xh l).1,σ.set k ⟨(xh l).2,some i⟩)
  | _=>none
 | _=>none
noncomputable def pB1(S:Int->Bool):rm:=fun vs σ=>match vs with
 | [.str [c]]=>some (.bool (S c),σ)
 | _=>none
noncomputable def pB3(g:Nat->Option (List Nat)):rm:=fun vs σ=>match vs with
 | [.str [c]]=>if (jp c).length<=lim then some (.str (match g c with | some l=>l | none=>jp c),σ) else none
 | _=>none
theorem sO{β:Type}{o:Option AO}{f:List V->Int->Option β}{r:β}{P:Prop} (h:(match o with
  | some ⟨l,some i⟩=>f l i
  | _=>none)=some r) (q:∀ l i,o=some ⟨l,some i⟩->f l i=some r->P):P:=by
 cases o with
 | none=>exact nso h
 | some o =>
  obtain ⟨l,a⟩:=o
  cases a with
  | none=>exact nso h
  | some i=>exact q l i rfl h
section
variable {P:List V->Prop} {vs:List V} {σ:List AO} {r:V×List AO} {k:Nat}
theorem dy1(h:dz1 vs σ=some r)(q:∀ i,(V.ref σ.length,σ++[⟨[],some i⟩])=r->P [.int i]):P vs:=by
 cases vs with
 | nil=>exact nso h
 | cons x l =>
  cases x with
  | int i=>cases l with
   | nil=>exact q i (siX h)
   | cons y l=>exact nso h
  | _=>exact nso h
theorem ak1(h:uI (.ref k::vs) σ=some r)(q:∀ a b l i,σ[k]?=some ⟨l,some i⟩->l.length<lim->(V.none,σ.set k ⟨l++[.tup [a,b]],some i⟩)=r->P [a,b]):P vs:=by
 cases vs with
 | nil=>exact nso h
 | cons a vs=>cases vs with
  | nil=>exact nso h
  | cons b vs=>cases vs with
   | nil=>exact sO h fun l i e h=>q a b l i e (bh h).1 (siX (bh h).2)
   | cons c vs=>exact nso h
theorem rJ(h:fc (.ref k::vs) σ=some r)(q:∀ l i,σ[k]?=some ⟨l,some i⟩->(V.lst l,σ.set k ⟨[],some i⟩)=r->P [])
  (q2:∀ j l i,σ[k]?=some ⟨l,some i⟩->0<=j->(V.lst (l.drop j.toNat),σ.set k ⟨l.take j.toNat,some i⟩)=r->P [.int j]):P vs:=by
 cases vs with
 | nil=>exact sO h fun l i e h=>q l i e (siX h)
 | cons a vs =>
  cases a with
  | int j=>cases vs with
   | nil=>exact sO h fun l i e h=>q2 j l i e (bh h).1 (siX (bh h).2)
   | cons c vs=>exact nso h
  | _=>exact nso h
theorem dx1(h:gq1 (.ref k::vs) σ=some r)(q:∀ l i,σ[k]?=some ⟨l,some i⟩->((xh l).1,σ.set k ⟨(xh l).2,some i⟩)=r->P []):P vs:=by
 cases vs with
 | nil=>exact sO h fun l i e h=>q l i e (siX h)
 | cons a vs=>exact nso h
theorem eJ1{β:Type}{f:Nat->Option β}{r:β} (h:(match vs with
  | [.str [c]]=>f c
  | _=>none)=some r) (q:∀ c,f c=some r->P [.str [c]]):P vs:=by
 cases vs with
 | nil=>exact nso h
 | cons x l =>
  cases x with
  | str s=>cases l with
   | nil=>cases s with
    | nil=>exact nso h
    | cons c s=>cases s with
     | nil=>exact q c h
     | cons d s=>exact nso h
   | cons y l=>cases s with
    | nil=>exact nso h
    | cons c s=>cases s with
     | nil=>exact nso h
     | cons d s=>exact nso h
  | _=>exact nso h
end
structure MethsOk (G:Wd) (m:Str->Option Value):Prop where
 KX:AccX G m
 U:Sup G
 n1:m "__getattribute__"=none
 n2:m "__getattr__"=none
 n3:m "append"=none
 n4:m "__getitem__"=none
 n5:m "__setitem__"=none
 push:∃ a fd body C ns,m "push"=some (.ref a)/\DefM G a fd body C ns/\xe C body/\ns.length=3/\∀ cvs:List Value,cvs.length=3->bindArgs fd ⟨cvs,[]⟩=pure (ns.zip cvs)
 popFrom:∃ a fd body C ns,m "pop_from"=some (.ref a)/\DefM G a fd body C ns/\ez C body/\ns.length=2/\(∀ (s:Shared) (cvs:List Value),(∀ b o,b ∉ G.loose->G.s₀.heap.get? b=some o->s.heap.get? b=some o)->cvs.length=2->BindsTo s fd ⟨cvs,[]⟩ (ns.zip cvs)) /\
  ∃ t,∀ (s:Shared) (cvs:List Value),(∀ b o,b ∉ G.loose->G.s₀.heap.get? b=some o->s.heap.get? b=some o)->cvs.length=1->BindsTo s fd ⟨cvs,[]⟩ (ns.zip (cvs++[.int 0 t]))
 part:∃ a fd body C ns x,m "part_count"=some (.ref a)/\DefM G a fd body C ns/\SupD G fd C x/\x.slot=0/\ig "__len__" body/\ns.length=1/\∀ cvs:List Value,cvs.length=1->bindArgs fd ⟨cvs,[]⟩=pure (ns.zip cvs)
 pop:∃ a fd body C ns x,m "pop"=some (.ref a)/\DefM G a fd body C ns/\SupD G fd C x/\x.slot=0/\fn1 C body/\ns.length=1/\∀ cvs:List Value,cvs.length=1->bindArgs fd ⟨cvs,[]⟩=pure (ns.zip cvs)
 init:∃ a fd body C ns x,m "__init__"=some (.ref a)/\DefM G a fd body C ns/\SupD G fd C x/\x.slot=0/\xN C body/\ns.length=2/\∀ (s:Shared) (cvs:List Value),(∀ b o,b ∉ G.loose->G.s₀.heap.get? b=some o->s.heap.get? b=some o)->cvs.length=2->BindsTo s fd ⟨cvs,[]⟩ (ns.zip cvs)
section
variable {G:Wd} {A:Around} {C C':Cx} {env cenv:Env} {W W':List Addr} {η η' η₁ η₂ bi:ab} {σ σ' σ₁ σ₂ aj σ₄ bR:List AO} {ρ ρ' aa:Rho} {s s' am aA:Shared} {m:Str->Option Value}
theorem nD(KX:AccX G m)(R:Rel G σ ρ s){pos:Pos}{first:List Value}{args:List (Bool×Sem Value)}{Q:Value->Shared->Prop}{E:Value->Shared->Prop}(hplain:args.any (·.1)=false)
  (h:wpAny (model G.prog G.w) A (evalArgs (.ref G.cls) true args []) (fun a am=>(∃ σ₁ aa,Rel G σ₁ aa am)/\wpAny (model G.prog G.w) A (call (.ref G.cls) (first++a.pos) a.kw) Q E am) E s) :
  wpAny (model G.prog G.w) A (callWith pos (.ref G.cls) first args []) Q E s:=by
 dsimp only[callWith]
 refine wpAny_bind (wpAny_holding (wpAny_mono h (fun a am dB=>wpAny_bind (wpAny_standAt ?_)) fun _ _ x=>x))
 refine byQ fun Q kQ=>?_
 refine gu (dB) fun h_0 dB=>?_;refine cH (h_0) fun σ₁ aa e61=>?_
 refine d7 (KX.obj) fun cd od sl h_p=>?_;have hC0:=h_p.1;have hmro:=h_p.2.1;have hhd:=h_p.2.2.1;have hab:=h_p.2.2.2.1;have hde:=h_p.2.2.2.2.1;have h4:=h_p.2.2.2.2.2
 have hC:=e61.keep _ _ KX.acc.lc hC0
 have hcall:Looks (model G.prog G.w) am.heap (specialOf (.ref G.cls) "__call__") (some (.builtin "type.__call__")):=(y2 KX e61).call
 refine kQ ?_
 rw[show (args.any (·.1) || ([]:List (Option Str×Sem Value)).any (·.1.isNone))=false from by rw[hplain];rfl]
 refine wpAny_bind ?_
 unfold keeperOf
 refine wpAny_bind (wpAny_load hC ?_)
 dsimp only
 refine wpAny_bind (hcall.here (wpAny_pure ?_))
 have e:((some (Value.builtin "type.__call__"):Option Value)==some (.builtin "type.__call__"))=true:=rfl
 rw[e]
 exact wpAny_bind (wpAny_mono dB (fun r aA hr=>wpAny_bind (wpAny_holding (wpAny_point (wpAny_pure hr)))) fun _ _ x=>x)
theorem Ev.callC(KX:AccX G m){x:Str}{p pos:Pos}{args:List Expr}{vs:List V}{v:V}(hk:C.kind x=some .globalImplicit)(hd:(x==("__debug__":Str))=false)(g:Gl G x (.ref G.cls))(hn:aH args=true)
  (h:Evs G A C env W args σ η vs σ₁) (ho:On G A (fun cvs=>call (.ref G.cls) cvs) σ₁ vs v σ₂):Ev G A C env W (.Call (.Name x p) args [] pos) σ η v σ₂:=fun ρ s R N ht=>by
 refine wpAny_Call_Name_kw (RE.global R N hk hd g ?_)
 refine nD KX R (cp hn) (cJ hn (h.use R N ht pos fun cvs am aa ah aJ aK av=>⟨⟨_,_,ah.rel⟩,?_⟩))
 exact ho.use ah.rel av aK fun cv aA au aq cU aF=>⟨au,ah.trans aq,aF⟩
theorem w6(M:MethsOk G m){x:Str}(g:Gl G x (.ref G.cls)){n:Nat}(hr:Room A (n+4)):fC G A x dz1:=by
 intro C env W η σ σ₁ σ₂ q pos args vs v hk hd hn hE hp
 refine bV1 M.init fun a fd body C' ns y h1 D V hy hm hns hb=>Ev.callC M.KX hk hd g hn hE (dy1 (P:=fun vs=>On G A (fun cvs=>call (.ref G.cls) cvs) σ₁ vs v σ₂) hp fun i e=>?_)
 obtain ⟨rfl,rfl⟩:=Prod.mk.inj e
 exact bR1 M.KX M.U D V hy hm hns hb h1 (hr.less (Nat.add_le_add_left (by decide) n):Room A (n+2))
theorem ur(M:MethsOk G m){n:Nat}(hr:Room A (n+4)):fA G A "push" uI:=by
 intro C env W η σ σ₁ σ₂ aj q pos o args vs v k l i h1 h2 h3 h4 hE hσ hA hp
 refine byQ fun Q kQ=>?_
 refine jd1 (M.push) fun a fd body C' ns e1 D hm hns hb=>?_
 refine a9 (D.obj) fun ob h_p=>?_;have hob:=h_p.1;have hfd:=h_p.2.1;have hfc:=h_p.2.2
 refine kQ ?_
 refine Ev.accDef M.KX.acc h1 h2 h3 h4 M.n1 M.n2 e1 (by decide) hob D.la hfd hfc hE hσ hA ?_
 refine ak1 (P:=fun vs=>On G A (fun cvs=>call (.ref a) cvs) σ₂ (.ref k::vs) v aj) hp fun a b l i e hl q=>?_
 obtain ⟨rfl,rfl⟩:=Prod.mk.inj q
 exact bQ1 M.KX.acc D hm hns hb M.n1 M.n2 M.n3 (hr.less (Nat.add_le_add_left (by decide) n):Room A (n+1)) e hl
theorem w4(M:MethsOk G m){n:Nat}(hr:Room A (n+4)):fA G A "pop" gq1:=by
 intro C env W η σ σ₁ σ₂ aj q pos o args vs v k l i h1 h2 h3 h4 hE hσ hA hp
 refine byQ fun Q kQ=>?_
 refine bV1 (M.pop) fun a fd body C' ns x e1 D V hx hm hns hb=>?_
 refine bV1 (M.part) fun a' fd' body' C'' ns' x' e1' D' V' hx' hm' hns' hb'=>?_
 refine a9 (D.obj) fun ob h_p=>?_;have hob:=h_p.1;have hfd:=h_p.2.1;have hfc:=h_p.2.2
 refine kQ ?_
 refine Ev.accDef M.KX.acc h1 h2 h3 h4 M.n1 M.n2 e1 (by decide) hob D.la hfd hfc hE hσ hA ?_
 refine dx1 (P:=fun vs=>On G A (fun cvs=>call (.ref a) cvs) σ₂ (.ref k::vs) v aj) hp fun l i e q=>?_
 obtain ⟨rfl,rfl⟩:=Prod.mk.inj q
 exact e91 M.KX M.U D V hx hm hns hb (hr.less (Nat.add_le_add_left (by decide) n):Room A (n+2)) e M.n1 M.n2 e1' D' V' hx' hm' hns' hb'
theorem mB(M:MethsOk G m){n:Nat}(hr:Room A (n+4)):fA G A "pop_from" fc:=by
 intro C env W η σ σ₁ σ₂ aj q pos o args vs v k l i h1 h2 h3 h4 hE hσ hA hp
 obtain ⟨a,fd,body,C',ns,e1,D,hm,hns,hb,t,hb0⟩:=M.popFrom
 refine a9 (D.obj) fun ob h_p=>?_;have hob:=h_p.1;have hfd:=h_p.2.1;have hfc:=h_p.2.2
 refine Ev.accDef M.KX.acc h1 h2 h3 h4 M.n1 M.n2 e1 (by decide) hob D.la hfd hfc hE hσ hA ?_
 have hr1:Room A (n+1):=hr.less (Nat.add_le_add_left (by decide) n)
 refine rJ (P:=fun vs=>On G A (fun cvs=>call (.ref a) cvs) σ₂ (.ref k::vs) v aj) hp (fun l i e q=>?_) fun j l i e hj q=>?_
 ·obtain ⟨rfl,rfl⟩:=Prod.mk.inj q
  exact p9 M.KX.acc D hm hns hb0 M.n4 M.n5 hr1 e
 ·obtain ⟨rfl,rfl⟩:=Prod.mk.inj q
  have:=sW (A:=A) (i:=j.toNat) M.KX.acc D hm hns hb M.n4 M.n5 hr1 e
  replace this:=(Int.toNat_of_nonneg hj)▸this
  exact this
theorem zU{x:Str}{a d:Addr}{fd:FuncData}{body:List Stmt}{C':Cx}{knd:KeyKind G.prog G.w Int}{S:Int->Bool}{k n:Nat}(g:Gl G x (.ref a))(hkn:∀ i t,knd.is i (.int i t)=true)(D:Def G a fd body C' ["code"])(hm:b1M C' body)
  (hr:Room A (n+4)) (ho:Gl G "ord" (.builtin "ord")) (gy:Gl G "b1_set" (.ref d)) (hS:G.s₀.heap.SetOf knd d S k) (hd:d ∉ G.loose):fC G A x (pB1 S):=by
 intro C env W η σ σ₁ σ₂ q pos args vs v hk hdb hn hE hp
 refine aI D.obj fun o hob hfd=>Ev.callF hk hdb g hn hob D.la hfd hE (eJ1 (P:=fun vs=>On G A (fun cvs=>call (.ref a) cvs) σ₁ vs v σ₂) (f:=fun c=>some (V.bool (S c),σ₁)) hp fun c e=>?_)
 obtain ⟨rfl,rfl⟩:=Prod.mk.inj (siX e)
 exact hC1 (k:=0) hkn D hm (hr.less (Nat.add_le_add_left (by decide) n):Room A (n+1)) ho gy hS hd
theorem zT{x:Str}{a d:Addr}{fd:FuncData}{body:List Stmt}{C':Cx}{ns:List Str}{knd:KeyKind G.prog G.w Int}{f:Int->Option Value}{gg:Nat->Option (List Nat)}{n:Nat}(g:Gl G x (.ref a))(hns:ns.length=1)(hkn:∀ i t,knd.is i (.int i t)=true)(D:Def G a fd body C' ns)(hm:b3M C' body)
  (hr:Room A (n+4)) (ho:Gl G "ord" (.builtin "ord")) (gl:Gl G "b3_exceptions" (.ref d)) (hds:(d==sysModules)=false) (hno:∃ o,G.s₀.heap.get? d=some o/\o.cls=.type "dict"/\o.dict=none)
  (hM:∀ s:Shared,(∀ o,G.s₀.heap.get? d=some o->s.heap.get? d=some o)->s.heap.MapOf knd d f) (hd:d ∉ G.loose)
  (hv:∀ c:Nat,match gg c with | some l=>l.length<=lim/\∃ t,f c=some (.str ⟨l.toArray⟩ t) | none=>f c=none):fC G A x (pB3 gg):=by
 intro C env W η σ σ₁ σ₂ q pos args vs v hk hdb hn hE hp
 refine aI D.obj fun o hob hfd=>Ev.callF hk hdb g hn hob D.la hfd hE (eJ1 (P:=fun vs=>On G A (fun cvs=>call (.ref a) cvs) σ₁ vs v σ₂) (f:=fun c=>if (jp c).length<=lim then some (V.str (match gg c with | some l=>l | none=>jp c),σ₁) else none) hp fun c e=>?_)
 obtain ⟨rfl,rfl⟩:=Prod.mk.inj (siX (bh e).2)
 exact hB1 hns hkn D hm (hr.less (Nat.add_le_add_left (by decide) n):Room A (n+1)) ho gl hds hno hM hd hv (bh e).1
end
noncomputable def fG1(h:Heap)(l:Addr)(o:Obj)(xs:Array Value):Prop:=h.get? l=some o/\∃ n,o.data=.seq xs n
section
variable {prog:Program} {w:World} {A:Around} {s:Shared} {E:Value->Shared->Prop} {I l:Addr} {i:Nat} {o:Obj} {xs:Array Value} {Q:Option Value->Shared->Prop}
theorem zJ{x:Value}(hit:s.heap.IsListIter I l i)(hl:fG1 s.heap l o xs)(hx:xs[i]?=some x)
  (hQ:∀ h',h'.IsListIter I l (i+1)->Heap.SameBut I s.heap h'->Q (some x) { s with heap:=h' }):wpAny (model prog w) A (pyNext (.ref I)) Q E s :=
 qJ hit fun oi ho hc hd=>gu hl fun hol hdl=>a9 hdl fun n hdl=>by
  refine wpAny_bind (wpAny_attempt (wpAny_callSpecial?_slot (name:=Str.ofString "__next__") hit.typeIs slot_listiter_next (wpAny_call_entry slot_listiter_next hit.typeIs entry_listiter_next ?_ (args_listiter_next _))))
  show wpAny _ _ (field (.ref I) 0>>=_) _ _ s
  refine wpAny_bind (wpAny_field ho hd (x:=.ref l) rfl ?_)
  show wpAny _ _ (if (Value.ref l==Value.none)=true then _ else _) _ _ s
  refine(if_neg (show ¬ ((Value.ref l==Value.none)=true) from Bool.false_ne_true))▸?_
  refine wpAny_bind (wpAny_field ho hd (x:=.int i 0) rfl ?_)
  show wpAny _ _ (seqItems? (.ref l)>>=_) _ _ s
  refine wpAny_bind (wpAny_seqItems hol hdl ?_)
  simp only[Int.toNat_natCast,hx]
  refine wpAny_bind (wpAny_setField ho hd (by simp) (wpAny_pure ⟨x,rfl,wpAny_pure (hQ _ ?_ (Heap.SameBut.update ..))⟩))
  exact⟨_,Heap.get?_update_self _ ho (Obj.isFreed_of_fields (Obj.data_mapFields hd _)),(Obj.cls_mapFields ..).trans hc,by rw[Obj.data_mapFields hd];simp [rawInt]⟩
theorem cE1(hh:A.handled=none)(hit:s.heap.IsListIter I l i)(hl:fG1 s.heap l o xs)(hx:xs[i]?=none)
  (hQ:∀ h',Heap.ExtBut I s.heap h'->Q none { s with heap:=h' }):wpAny (model prog w) A (pyNext (.ref I)) Q E s :=
 qJ hit fun oi ho hc hd=>gu hl fun hol hdl=>a9 hdl fun n hdl=>by
  refine wpAny_bind (wpAny_attempt (wpAny_callSpecial?_slot (name:=Str.ofString "__next__") hit.typeIs slot_listiter_next (wpAny_call_entry slot_listiter_next hit.typeIs entry_listiter_next ?_ (args_listiter_next _))))
  show wpAny _ _ (field (.ref I) 0>>=_) _ _ s
  refine wpAny_bind (wpAny_field ho hd (x:=.ref l) rfl ?_)
  show wpAny _ _ (if (Value.ref l==Value.none)=true then _ else _) _ _ s
  refine(if_neg (show ¬ ((Value.ref l==Value.none)=true) from Bool.false_ne_true))▸?_
  refine wpAny_bind (wpAny_field ho hd (x:=.int i 0) rfl ?_)
  show wpAny _ _ (seqItems? (.ref l)>>=_) _ _ s
  refine wpAny_bind (wpAny_seqItems hol hdl ?_)
  simp only[Int.toNat_natCast,hx]
  refine wpAny_bind (wpAny_rule (wpAny_bind (wpAny_setField ho hd (by simp) (wpAny_bind ?_))))
  simp only[newExc,newTuple]
  refine wpAny_bind (wpAny_newObj_type ?_ (by size_fits))
  refine wpAny_bind (m:=firstArgMember _ _) (wpAny_of_eq (a:=Value.none) (by simp only[firstArgMember];rfl) (wpAny_newObj_type ?_ (by size_fits)))
  dsimp only[raiseNew]
  refine wpAny_bind (wpAny_handled ?_)
  rw[show A.in1.handled=none from hh]
  refine wpAny_bind (wpAny_pure (wpAny_throw ?_))
  refine wpAny_bind (wpAny_isInstance (T:="StopIteration") (b:=true) ⟨_,Heap.get?_push_size _ rfl,rfl⟩ isSubtype_stop (wpAny_pure (hQ _ ?_)))
  exact((Heap.SameBut.update ..).extBut.push _).push _
theorem tT(hh:A.handled=none)(hne:l≠I)(Ts:Nat->Addr)(vals:Nat->Array Value)(hit:∀ j,j<xs.size->xs[j]?=some (.ref (Ts j)))(hTI:∀ j,j<xs.size->Ts j≠I) :
  WalksU prog w A I (I::l::(List.range xs.size).map Ts) [I] xs.size (fun j v=>j<xs.size/\v=vals j)
   (fun j h=>h.IsListIter I l j/\fG1 h l o xs/\∀ k,k<xs.size->h.IsTuple (Ts k) (vals k))
   (fun j T h=>(j<xs.size/\T=Ts j)/\h.IsListIter I l (j+1)/\fG1 h l o xs/\∀ k,k<xs.size->h.IsTuple (Ts k) (vals k)) where
 sub:=fun b hb=>by simp at hb;simp [hb]
 frame:=fun _ _ _ st hk=>⟨st.1.at fun o e=>hk I (by simp) o e,⟨hk l (by simp) _ st.2.1.1,st.2.1.2⟩,fun k hk'=>(st.2.2 k hk').at fun o e=>hk (Ts k) (List.mem_cons_of_mem _ (List.mem_cons_of_mem _ (List.mem_map.mpr ⟨k,List.mem_range.mpr hk',rfl⟩))) o e⟩
 item:=fun i s Q E hi st hQ=>zJ st.1 st.2.1 (hit i hi) fun h' it hs =>
  have tup:∀ k,k<xs.size->h'.IsTuple (Ts k) (vals k):=fun k hk=>(st.2.2 k hk).extBut hs.extBut (hTI k hk)
  hQ (Ts i) (vals i) h' s.toks ⟨hi,rfl⟩ (tup i hi) ⟨⟨hi,rfl⟩,it,⟨hs.extBut l _ hne st.2.1.1,st.2.1.2⟩,tup⟩ fun b o hb e=>hs.extBut b o (fun h=>hb (by simp [h])) e
 go:=fun _ _ _ _ _ s Q _ hm hQ=>wpAny_letOwnedTupleGo_listiter hm.2.1 (hQ s.heap hm.2 fun _ _ _ e=>e)
 apart:=fun j T _ hm hmem=>hTI j hm.1.1 (hm.1.2▸List.mem_singleton.mp hmem)
 done:=fun s Q E st hQ=>cE1 hh st.1 st.2.1 (by simp) fun h' he=>hQ h' s.toks fun b o hb e=>he b o (fun h=>hb (by simp [h])) e
 self:=fun _ _ _ _ st hQ=>wpAny_pyIter_listiter st.1 hQ
end
theorem mY:builtinKind "list.__getattribute__"=some .slot:=by kernel_rfl
theorem kJ:splitId "list.__getattribute__"=some ("list","__getattribute__"):=by decide +kernel
theorem l0(a b:Value):argsOk "list.__getattribute__" ⟨[a,b],[]⟩:=by unfold argsOk;kernel_rfl
theorem js:builtinKind "list.__iter__"=some .slot:=by kernel_rfl
theorem hY:splitId "list.__iter__"=some ("list","__iter__"):=by decide +kernel
section
variable {G:Wd} {A:Around} {σ:List AO} {ρ:Rho} {s:Shared} {m:Str->Option Value}
theorem pX(KX:AccX G m)(R:Rel G σ ρ s)(hga:m "__getattribute__"=none)(hgt:m "__getattr__"=none){x dx:Addr}{us:Array Value}{n:Nat}{d:Str->Option Value}{i:Int}{ti:Tok}{Q:Value->Shared->Prop}{E:Value->Shared->Prop}
  (hx:s.heap.get? x=some ⟨.ref G.cls,some dx,.seq us n,#[]⟩) (hns:s.heap.Ns dx d) (hd:d "_initial_size"=some (.int i ti)) (hQ:Q (.int i ti) { s with toks:=s.toks+1 }) :
  wpAny (model G.prog G.w) A (getAttr (.ref x) "_initial_size" true) Q E s:=by
 have K:=KX.acc
 refine wg KX.obj fun cd od sl hC0 hmro hhd hab hde h4=>?_
 have f3:=F.slot_list_getattribute.bind (.ref x)
 have look:∀ {A':Around} {t:Nat} {nm:Str} {r:Option Value} {Q:Option Value->Shared->Prop} {E:Value->Shared->Prop},(m nm=none/\typeLookup (.type "list") nm=pure r)->Q r { s with toks:=t }->wpAny (model G.prog G.w) A' (typeLookup (.ref G.cls) nm) Q E { s with toks:=t }:=fun h1 hq=>gf K (Step.toks R _).rel (.inr h1) hq
 have chk:∀ {A':Around} {t:Nat} {tk:Tok} {Q:Unit->Shared->Prop} {E:Value->Shared->Prop},Q () { s with toks:=t }->wpAny (model G.prog G.w) A' (checkBuiltinCall "list.__getattribute__" ⟨[.ref x,.str "_initial_size" tk],[]⟩) Q E { s with toks:=t } :=
  fun {A' t tk _ _} hq=>fz K (Step.toks R t).rel hx rfl (.inl mY) kJ (l0 _ _) hq
 have hC:=R.keep _ _ K.lc hC0
 obtain ⟨h,g,dr,t,os⟩:=s
 unfold getAttr
 repeat (any_goals (first | assumption | (with_reducible refine wpAny_loadPart_at hx ?_) | (with_reducible refine look ⟨hga,F.slot_list_getattribute.lookup⟩ ?_) | (with_reducible refine look ⟨hgt,F.plainAttrs_list.noGetattr⟩ ?_) | wp_step))
 refine codeAny_call_builtin F.slot_list_getattribute.plain F.entry_list_ga (chk ?_)
 dsimp only at hx hns
 show wpAny _ _ (Builtin.«object.__getattribute__» ⟨[.ref x,.str "_initial_size" t],[]⟩) _ _ _
 dsimp only[Builtin.«object.__getattribute__»]
 repeat (any_goals (first | assumption | (with_reducible refine wpAny_loadPart_at hx ?_) | (with_reducible refine look ⟨KX.hna,cX⟩ ?_) | (with_reducible refine wpAny_nsGet hns ?_) | wp_step))
 refine(show d (Str.ofString "_initial_size")=_ from hd)▸?_
 repeat (any_goals (first | assumption | wp_step))
theorem yp(K:Acc G m)(R:Rel G σ ρ s){a:Addr}{o:Obj}(ho:s.heap.get? a=some o)(hc:o.cls=.ref G.cls)(hm:m "__iter__"=none){Q:Value->Shared->Prop}{E:Value->Shared->Prop}
  (hQ:Q (.ref s.heap.objs.size) { s with heap:=s.heap.push { cls:=.type "list_iterator",data:=.fields #[.ref a,.int 0 0] } }):wpAny (model G.prog G.w) A (pyIter (.ref a)) Q E s:=by
 have look:∀ {A':Around} {Q:Option Value->Shared->Prop} {E:Value->Shared->Prop},Q (some (.builtin "list.__iter__")) s->wpAny (model G.prog G.w) A' (specialOf (.ref a) "__iter__") Q E s:=fun hq=>bG K R ho hc (.inr ⟨hm,slot_list_iter.lookup⟩) hq
 have fin:wpAny (model G.prog G.w) A (call (.builtin "list.__iter__") [.ref a]) (fun it s'=>wpAny (model G.prog G.w) A (pure (some it)) (fun r s''=>wpAny (model G.prog G.w) A (match r with
   | some it=>do
    match ← specialOf it "__next__" with
    | none=>rule "iter.non-iterator";raiseError "TypeError" s!"iter() returned non-iterator of type '{← typeNameOf it}'"
    | some _=>pure it
   | none=>pure .none) Q E s'') E s') E s:=by
  refine wpAny_call (codeAny_call_builtin slot_list_iter.plain entry_list_iter (fz K R ho hc (.inl js) hY (args_list_iter _) ?_))
  show wpAny _ _ (do ret (← newFields "list_iterator" [.ref a,rawInt 0])) _ _ s
  refine wpAny_bind (wpAny_newObj_type (wpAny_pure (wpAny_pure ?_)))
  exact wpAny_bind (wpAny_specialOf (T:="list_iterator") ⟨_,Heap.get?_push_size _ rfl,rfl⟩ slot_listiter_next.lookup (wpAny_pure hQ))
 dsimp only[pyIter]
 refine wpAny_bind (look (wpAny_bind ?_))
 simp only[callSpecialIfBoundUnlessNone?,bindSpecialIfBound?]
 refine wpAny_holding (wpAny_bind (wpAny_bind (look ?_)))
 dsimp only[slot_list_iter.bind]
 refine wpAny_bind (wpAny_askSetting (wpAny_ite ?_))
 split
 ·refine wpAny_bind (wpAny_pure (wpAny_pure ?_))
  exact wpAny_bind fin
 ·refine wpAny_tryCatch (wpAny_bind (wpAny_pure (wpAny_pure ?_)))
  exact wpAny_bind fin
end
section
variable {G:Wd} {A:Around} {E:Value->Shared->Prop} {s:Shared} {env cenv:Env} {mc:Str->Option Value}
structure GF (G:Wd) (cenv:Env) (mc:Str->Option Value) (s:Shared):Prop where
 fn:cenv.scope.kind=.function
 glob:cenv.globals=mainGlobals
 blt:cenv.builtins=builtinsNs
 g:∀ m,G.s₀.heap.Ns mainGlobals m->s.heap.Ns mainGlobals m
 b:∀ m,G.s₀.heap.Ns builtinsNs m->s.heap.Ns builtinsNs m
 l:s.heap.Ns cenv.locals mc
theorem GF.keeps{s':Shared}(F:GF G cenv mc s)(h:∀ b o,s.heap.get? b=some o->s'.heap.get? b=some o):GF G cenv mc s':=⟨F.fn,F.glob,F.blt,fun m k=>(F.g m k).keeps h,fun m k=>(F.b m k).keeps h,F.l.keeps h⟩
theorem GF.global{x:Str}{p:Pos}{f:Value}{Q:Value->Shared->Prop}(F:GF G cenv mc s)(hk:cenv.kindOf x=some .globalImplicit)(hd:(x==("__debug__":Str))=false)(g:Gl G x f)(hQ:Q f s):wpAny (model G.prog G.w) A (eval (.Name x p) cenv) Q E s :=
 Name_function_global F.fn hk (aI g.gm fun m hm hx=>hx.elim (fun hx=>loadGlobal_global (F.glob▸F.g m hm) hx hQ) fun hx=>aI hx.2 fun b hb hbx=>loadGlobal_builtin (F.glob▸F.g m hm) hx.1 (F.blt▸F.b b hb) hbx hQ) hd
theorem dd1{x:Str}{p:Pos}{v:Value}{Q:Value->Shared->Prop}(F:GF G cenv mc s)(hk:cenv.kindOf x=some .local)(hv:mc x=some v)(hd:(x==("__debug__":Str))=false)(hQ:Q v s):wpAny (model G.prog G.w) A (eval (.Name x p) cenv) Q E s :=
 wpAny_Name (wpAny_loadName_local F.fn hk F.l hv hQ) hd
theorem df1{x:Str}{p q pos:Pos}{y:Str}{t:Tok}{Q:Value->Shared->Prop}(F:GF G cenv mc s)(hl:cenv.kindOf "len"=some .globalImplicit)(g:Gl G "len" (.builtin "len"))
  (hk:cenv.kindOf x=some .local) (hv:mc x=some (.str y t)) (hd:(x==("__debug__":Str))=false) (hf:y.length<=1000000) (hQ:Q (.int y.length (s.toks+1)) { s with toks:=s.toks+1+1 }) :
  wpAny (model G.prog G.w) A (eval (.Call (.Name "len" p) [.Name x q] [] pos) cenv) Q E s :=
 wpAny_Call_Name_kw (F.global hl (by decide) g (callWith_builtin rfl (evalArgs_plain (spliced_cons (dd1 F hk hv hd (spliced_nil (PySem.P.len_str (by lia) hQ)))))))
theorem de1{xa xb:Str}{p1 p2 p3 p4 p5 p6 pos:Pos}{ya yb:Str}{ta tb:Tok}(F:GF G cenv mc s)(hl:cenv.kindOf "len"=some .globalImplicit)(g:Gl G "len" (.builtin "len"))
  (hka:cenv.kindOf xa=some .local) (hva:mc xa=some (.str ya ta)) (hda:(xa==("__debug__":Str))=false) (hkb:cenv.kindOf xb=some .local) (hvb:mc xb=some (.str yb tb)) (hdb:(xb==("__debug__":Str))=false)
  (hfa:ya.length<=1000000) (hfb:yb.length<=1000000) :
  wpAny (model G.prog G.w) A (eval (.BinOp (.Call (.Name "len" p1) [.Name xa p2] [] p3) .Add (.Call (.Name "len" p4) [.Name xb p5] [] p6) pos) cenv) (fun y dY=>(∃ t,y=.int ((ya.length:Int)+yb.length) t)/\Keeps s dY) E s :=
 wpAny_BinOp (df1 F hl g hka hva hda hfa (df1 (F.keeps fun _ _ e=>e) hl g hkb hvb hdb hfb (wpAny_add_int ⟨⟨_,rfl⟩,s.heap,_,rfl,fun _ _ e=>e⟩)))
end
structure Grow (G:Wd) (s s':Shared):Prop where
 keep:∀ b o,b ∉ G.loose->s.heap.get? b=some o->s'.heap.get? b=some o
 lse:∀ b∈G.loose,∃ vs,s'.heap.get? b=some ⟨.none,none,.fields vs,#[]⟩/\bT1 G b vs
 same:∃ h tk gs,s'={ s with heap:=h,toks:=tk,gens:=gs }
 bare:AllBare s'.gens
section
variable {G:Wd} {A:Around} {C C':Cx} {env cenv:Env} {W W':List Addr} {η η' η₁ η₂ bi:ab} {σ σ' σ₁ σ₂ aj σ₄ bR:List AO} {ρ ρ' aa:Rho} {s s' am aA:Shared} {m:Str->Option Value}
theorem iB(R:Rel G σ ρ s){b:Addr}(hb:b∈G.loose):rn ρ b:=fun p hp =>
 aI (R.lse b hb) fun vs _ e=>au1 e.2 fun us more e _=>⟨fun q=>nso ((R.fresh p hp).1.symm.trans (q▸e)),fun q=>nso ((R.fresh p hp).2.symm.trans (q▸e))⟩
theorem Grow.step(R:Rel G σ ρ s)(g:Grow G s s'):Step G ρ s ρ s' σ:=by
 have K:KeepV s.heap ρ s'.heap ρ:=⟨⟨[],(List.append_nil _).symm,fun _ h=>nomatch h⟩,fun _ h=>.inl h,fun b o e ho hs=>g.keep b o (fun hb=>aI (R.lse b hb) fun vs e' _=>by
  obtain rfl:=siX (e.symm.trans e')
  rcases hs.1 with h | h | h <;> cases h) e⟩
 have off:∀ (k:Nat) (p:Addr×Addr),ρ.st[k]?=some p->p.1 ∉ G.loose/\p.2 ∉ G.loose:=fun k p hp =>
  have hm:=List.mem_of_getElem? hp
  ⟨fun h=>(iB R h p hm).1 rfl,fun h=>(iB R h p hm).2 rfl⟩
 refine⟨⟨R.len,R.inj,fun k p o h1 h2=>(R.obj k p o h1 h2).mono K (fun x e=>g.keep _ x (off k p h1).1 e) (fun x e=>g.keep _ x (off k p h1).2 e),R.fresh,fun b o hl e=>g.keep b o hl (R.keep b o hl e),g.lse,?_,g.bare,fun b hb=>?_⟩,⟨[],by simp,fun _ h=>nomatch h⟩,fun b o e _ _ hl=>g.keep b o hl e,fun _ h=>nomatch h⟩
 ·exact d7 R.same fun h tk gs e=>d7 g.same fun h' tk' gs' e'=>dP1 h' tk' gs' (by rw[e',e])
 ·by_cases hl:b∈G.loose
  ·exact aI (g.lse b hl) fun vs e _=>e▸nofun
  ·exact fE (s.heap.get? b) (fun e=>absurd e (R.hidden b hb)) fun o e=>g.keep b o hl e▸nofun
theorem Grow.moved{wr:List Addr}{Gg:Array GenState->Array GenState->Prop}(R:Rel G σ ρ s)(g:Grow G s s')(hwr:∀ b∈wr,s.heap.objs.size<=b)(hl:∀ b∈G.loose,b ∉ wr)(hm:Moved wr Gg s' aA)(hb:∀ gs,Gg s'.gens gs->AllBare gs):Grow G s aA where
 keep:=fun b o h e=>hm.heap b o (fun hw=>absurd (Heap.lt_size e) (Nat.not_lt.mpr (hwr b hw))) (g.keep b o h e)
 lse:=fun b h=>aI (g.lse b h) fun vs e q=>⟨vs,hm.heap b _ (hl b h) e,q⟩
 same:=d7 g.same fun h tk gs e=>⟨aA.heap,aA.toks,aA.gens,by
  have e1:=hm.drawn;have e2:=hm.os
  rw[e] at e1 e2
  obtain ⟨h2,g2,d2,t2,o2⟩:=aA
  dsimp only at e1 e2
  subst e1 e2
  rfl⟩
 bare:=hb _ hm.gens
theorem qN(R:Rel G σ ρ s){b:Addr}(hb:b∈G.loose):b<s.heap.objs.size:=aI (R.lse b hb) fun vs e _=>Heap.lt_size e
structure GenC (G:Wd) (fd:FuncData):Prop where
 code:∃ c P o vs file tf flags tg inF text tt,fd.code=.ref c/\c ∉ G.loose/\P∈G.loose/\G.s₀.heap.get? c=some o/\o.cls=.type "code"/\o.data=.fields vs/\vs[11]?=some (.ref P)/\vs.getD 18 .none=.str file tf/\vs.getD 7 .none=.int flags tg/\vs.getD 9 .none=.bool inF/\vs.getD 10 .none=.int text tt
 bm:∃ mg bm ob,BMod G.s₀.heap mainGlobals mg bm ob/\bm ∉ G.loose/\mainGlobals ∉ G.loose
theorem xX{M:Model}{fd:FuncData}(R:Rel G σ ρ s)(D:GenC G fd){cP:Heap}(hk:∀ b o,s.heap.get? b=some o->cP.get? b=some o)(hc:env.code=fd.code){pos:Pos}{qn:Str}{sc:Scope}{Q:Value->Shared->Prop}{E:Value->Shared->Prop}
  (hQ:∀ code P h' tk,P∈G.loose->Heap.ExtBut P cP h'->cP.objs.size<=h'.objs.size->(∃ vs,h'.get? P=some ⟨.none,none,.fields vs,#[]⟩/\bT1 G P vs)->Q code { s with heap:=h',toks:=tk }) :
  wpAny M A (genexprCode env pos qn sc) Q E { s with heap:=cP }:=by
 refine byQ fun Q kQ=>?_
 obtain ⟨c,P,o,vs,file,tf,flags,tg,inF,text,tt,e1,hcl,hP,hco,hcls,hd,h11,h18,h7,h9,h10⟩:=D.code
 refine kQ ?_
 refine aI (R.lse P hP) fun ps hps hgr=>?_
 have hcP:c≠P:=fun e=>hcl (e▸hP)
 have g11:vs.getD 11 .none=.ref P:=by rw[Array.getD_eq_getD_getElem?,h11];rfl
 have hc2:cP.get? c=some o:=hk _ _ (R.keep c o hcl hco)
 have isC:cP.IsCode c P ps:=⟨o,vs,file,tf,flags,tg,inF,text,tt,_,hc2,hd,g11,h18,h7,h9,h10,hk _ _ hps,rfl,hgr.1,hcP⟩
 have tab:cP.TableAt c P ps:=⟨⟨o,vs,hc2,hcls,hd,h11⟩,hk _ _ hps⟩
 cases hf:codeAmong pos ps.toList with
 | some c'=>exact wpAny_genexprCode_hit (s:={ s with heap:=cP }) (hc.trans e1) isC hf (hQ c' P cP s.toks hP (Heap.ExtBut.refl _ _) (Nat.le_refl _) ⟨ps,hk _ _ hps,hgr⟩)
 | none =>
  refine wpAny_genexprCodeX (s:={ s with heap:=cP }) (hc.trans e1) isC tab hf fun c' h' tk hx hge hlt hcode _ htab _=>hQ _ P h' tk hP hx (Nat.le_of_lt (Nat.lt_of_le_of_lt hge hlt)) ⟨_,htab.2,?_⟩
  refine byQ fun Q kQ=>?_
  obtain ⟨_,_,_,_,_,_,_,_,_,_,_,_,_,_,_,_,_,_,_,ht,_⟩:=hcode
  refine kQ ?_
  exact au1 hgr.2 fun us more e e'=>⟨ht,us,more++#[rawInt pos.line,rawInt pos.col,.ref c'],e,by rw[e',Array.append_assoc]⟩
end
noncomputable def oI(p:List Nat×List Nat):V:=.tup [.str p.1,.str p.2]
noncomputable def a61(sc:Scope):Bool:=!sc.isCoroutine&&(match sc.kind with | .function=>true | _=>false)&&sc.names.all (fun y=>!(y.2==NameKind.cell)&&!(y.2==NameKind.free))&&bB (sc.names.lookup (".0":Str)) .local&&bB (sc.names.lookup ("fws":Str)) .local&&bB (sc.names.lookup ("part":Str)) .local
theorem iO{sc:Scope}(h:a61 sc=true):sc.isCoroutine=false/\sc.kind=.function/\(∀ x∈sc.names,x.2≠.cell)/\(∀ x∈sc.names,x.2≠.free)/\sc.names.lookup (".0":Str)=some .local/\sc.names.lookup ("fws":Str)=some .local/\sc.names.lookup ("part":Str)=some .local:=by
 have h1:=ak h;have h2:=ak h1.1;have h3:=ak h2.1;have h4:=ak h3.1;have h5:=ak h4.1
 have q:=fun x hx=>ak (List.all_eq_true.mp h4.2 x hx)
 refine⟨?_,?_,fun x hx e=>?_,fun x hx e=>?_,beq_iff_eq.mp h3.2,beq_iff_eq.mp h2.2,beq_iff_eq.mp h1.2⟩
 ·have:=h5.1;simpa using this
 ·have:=h5.2;cases hk:sc.kind <;> rw[hk] at this <;> first | rfl | exact ftr this
 ·have:=(q x hx).1;rw[e] at this;exact ftr this
 ·have:=(q x hx).2;rw[e] at this;exact ftr this
noncomputable def k21(G:Wd)(A:Around)(s:Shared)(n:Nat)(F:Nat->Value->Prop)(v:Value)(s':Shared):Prop :=
 ∃ a fp wr Gg P St,v=.ref a/\Grow G s s'/\WalksS G.prog G.w A.in4 a fp wr Gg n P St/\St 0 s'/\(∀ b∈fp,b<s'.heap.objs.size)/\(∀ b∈wr,s.heap.objs.size<=b)/\(∀ i v,P i v->F i v)/\(∀ gs,Gg s'.gens gs->AllBare gs)/\(∀ i u,St i u->u.TypeIs v "generator")/\a∈fp
structure PairsAt (h:Heap) (ps:List (List Nat×List Nat)) (vs:Array Value) (Ts:Nat->Addr) (vals:Nat->Array Value):Prop where
 len:vs.size=ps.length
 at_:∀ j,j<vs.size->vs[j]?=some (.ref (Ts j))
 tup:∀ j,j<vs.size->h.IsTuple (Ts j) (vals j)
 val:∀ j,j<vs.size->∃ p ta tb,ps[j]?=some p/\vals j=#[.str ⟨p.1.toArray⟩ ta,.str ⟨p.2.toArray⟩ tb]/\p.1.length<=lim/\p.2.length<=lim
theorem xk{h:Heap}{ρ:Rho}{ps:List (List Nat×List Nat)}{vs:Array Value}(r:RVs h ρ (ps.map oI) vs.toList):∃ Ts vals,PairsAt h ps vs Ts vals:=by
 have hl:vs.size=ps.length:=by have:=RVs.length r;simpa using this
 have key:∀ j,j<vs.size->∃ a items,vs[j]?=some (.ref a)/\h.IsTuple a items/\∃ p ta tb,ps[j]?=some p/\items=#[.str ⟨p.1.toArray⟩ ta,.str ⟨p.2.toArray⟩ tb]/\p.1.length<=lim/\p.2.length<=lim:=fun j hj=>by
  have hp:ps[j]?=some ps[j]:=List.getElem?_eq_getElem (hl▸hj)
  refine aI (RVs.get r (i:=j) (a:=oI ps[j]) (by rw[List.getElem?_map,hp];rfl)) fun c hc hr=>?_
  refine gu (RV.tup_iff hr) fun _ h2=>dD1 h2 fun a items e _ ht hrs=>?_
  refine oM (RVs.cons_iff hrs) fun v1 r1 e1 q1 hrs=>oM (RVs.cons_iff hrs) fun v2 r2 e2 q2 hrs=>?_
  refine gu (RV.str_iff q1) fun l1 h3=>a9 h3 fun t1 e3=>gu (RV.str_iff q2) fun l2 h4=>a9 h4 fun t2 e4=>?_
  have e5:r2=[]:=RVs.nil_iff hrs
  refine⟨a,items,by rw[← Array.getElem?_toList,hc,e],ht.isTuple,ps[j],t1,t2,hp,?_,l1,l2⟩
  rw[e2,e5,e3,e4] at e1
  exact Array.toList_inj.mp e1
 refine⟨fun j=>if hj:j<vs.size then (key j hj).choose else 0,fun j=>if hj:j<vs.size then (key j hj).choose_spec.choose else #[],hl,fun j hj=>?_,fun j hj=>?_,fun j hj=>?_⟩
 ·rw[dif_pos hj];exact(key j hj).choose_spec.choose_spec.1
 ·rw[dif_pos hj,dif_pos hj];exact(key j hj).choose_spec.choose_spec.2.1
 ·exact(dif_pos hj)▸((key j hj).choose_spec.choose_spec.2.2)
section
variable {G:Wd} {A:Around} {C C':Cx} {env cenv:Env} {W W':List Addr} {η:ab} {σ:List AO} {ρ:Rho} {s:Shared} {m:Str->Option Value}
theorem oG(n:Nat):passing (fun _=>true) n 0=List.range n:=by unfold passing;exact(List.drop_zero)▸(List.filter_eq_self.mpr fun _ _=>rfl)
noncomputable def fd1(G:Wd)(A:Around)(env:Env)(sc:Scope)(ps:List (List Nat×List Nat))(elt:Expr)(F:Nat->Value->Prop):Prop :=
 ∀ (A':Around) (E':Value->Shared->Prop) (j:Nat) (p:List Nat×List Nat) (ta tb:Tok) (u:Shared) (mc:Str->Option Value) (L:Addr) (code:Value),A'.handled=none->A'.depth<=A.depth+1->A'.units<=A.units+8->ps[j]?=some p->p.1.length<=lim->p.2.length<=lim ->
  GF G (genEnv sc [] L code builtinsNs env) mc u->mc "fws"=some (.str ⟨p.1.toArray⟩ ta)->mc "part"=some (.str ⟨p.2.toArray⟩ tb)->wpAny (model G.prog G.w) A' (eval elt (genEnv sc [] L code builtinsNs env)) (fun y dY=>F j y/\Keeps u dY) E' u
theorem xW(KX:AccX G m)(hit:m "__iter__"=none){fd:FuncData}(D:GenC G fd)(hnl:∃ mc,G.s₀.heap.Ns cStatics mc/\mc "sys.recursionlimit"=none)(hls:cStatics ∉ G.loose)(hbn:builtinsNs ∉ G.loose)
  (R:Rel G σ ρ s) (N:RE G C env W η ρ s) (hco:env.code=fd.code) (hv:cL C "self" 0=true) {k:Nat} {ps:List (List Nat×List Nat)} {i:Int} (hη:η[0]?=some (some (.ref k))) (hσ:σ[k]?=some ⟨ps.map oI,some i⟩)
  (hA:Room A 0) {sc:Scope} (hsc:a61 sc=true) {elt:Expr} {F:Nat->Value->Prop} {pa pb pt pi pos:Pos} {kt:Nat} (hq:fd1 G A env sc ps elt F) :
  wpAny (model G.prog G.w) A (eval (.GeneratorExp elt [⟨.Tuple [.Name "fws" pa,.Name "part" pb] kt pt,.Name "self" pi,[],0⟩] sc pos) env) (k21 G A s ps.length F) No s:=by
 have K:=KX.acc
 have h_p:=iO hsc;have z1:=h_p.1;have z2:=h_p.2.1;have z3:=h_p.2.2.1;have z4:=h_p.2.2.2.1;have z5:=h_p.2.2.2.2.1;have z6:=h_p.2.2.2.2.2.1;have z7:=h_p.2.2.2.2.2.2
 have hroom:A.depth<recursionLimit:=hA.depth
 refine wpAny_GeneratorExp_walksQTD hA.handled z1 (closureFor_none z4) z3 z5 z6 z7 (by decide) z2 hroom ?_ (fun _=>rfl)
 refine byQ fun Q kQ=>?_
 refine qJ (cj hv) fun x hx hxn hxs=>?_
 refine kQ ?_
 refine wpAny_Name (hxn▸RE.load R N hx (hxs▸hη) fun cv r=>?_) (by decide)
 refine aI (RV.ref_iff r) fun p hp e=>e▸?_
 refine wg (bc R hp hσ) fun vs n d g1 g2 g3 g4 g5 g6=>?_
 refine yp K R g1 rfl hit ?_
 refine cH (xk g2) fun Ts vals X=>?_
 generalize hI:s.heap.objs.size=I
 generalize hio:({ cls:=.type "list_iterator",data:=.fields #[.ref p.1,.int 0 0] }:Obj)=io
 have lg:∀ b o,s.heap.get? b=some o->(s.heap.push io).get? b=some o:=fun b o e=>Heap.get?_push_of_some _ e
 have dG1:(s.heap.push io).NoLimit:=(mR R hnl hls).keeps lg
 refine⟨dG1,xX R D lg hco fun code P gw tk hP xR ec1 hgr=>?_⟩
 have fy1:∀ b o,b ∉ G.loose->s.heap.get? b=some o->gw.get? b=some o:=fun b o hb e=>xR b o (fun q=>hb (q▸hP)) (lg b o e)
 have gF1:∀ b o,b ∉ G.loose->G.s₀.heap.get? b=some o->gw.get? b=some o:=fun b o hb e=>fy1 b o hb (R.keep b o hb e)
 refine uM D.bm fun mg bm ob B hbm hmg=>?_
 refine wpAny_builtinsFor (m:=mg) (by rw[N.glob];exact B.ns.at' fun o e=>gF1 _ o hmg e) B.name B.ne (gF1 _ _ hbm B.obj) B.cls B.dict B.data ?_
 have hPI:P≠I:=fun e=>absurd (qN R hP) (Nat.not_lt.mpr (e▸Nat.le_of_eq hI))
 have hsz:I<gw.objs.size:=Nat.lt_of_lt_of_le (by rw[Heap.size_push,hI];exact Nat.lt_succ_self _) ec1
 have hcs:cStatics<I:=hI▸(let ⟨_,hn,_⟩:=mR R hnl hls;hn.lt)
 have hpl:p.1<I:=hI▸Heap.lt_size g1
 have hTI:∀ j,j<vs.size->Ts j≠I:=fun j hj=>Nat.ne_of_lt (hI▸(let ⟨_,e,_⟩:=X.tup j hj;Heap.lt_size e))
 have hpP:p.1 ∉ G.loose:=fun h=>(iB R h p (List.mem_of_getElem? hp)).1 rfl
 have hTP:∀ j,j<vs.size->Ts j ∉ G.loose:=fun j hj h=>aI (R.lse _ h) fun us e _=>by
  refine a9 (X.tup j hj) fun o h_p=>?_;have e':=h_p.1;have hc:=h_p.2.1
  replace e':=(e)▸e';replace hc:=(siX e')▸hc;cases hc
 refine⟨I,_,[I],vs.size,_,_,_,fun _=>true,F,hI▸rfl,fun A' hA'=>tT (o:=⟨.ref G.cls,some p.2,.seq vs n,#[]⟩) hA' (Nat.ne_of_lt hpl) Ts vals X.at_ hTI,?_,⟨?_,⟨fy1 _ _ hpP g1,n,rfl⟩,fun j hj=>(X.tup j hj).at fun o e=>fy1 _ o (hTP j hj) e⟩,?_,?_,?_,?_,?_⟩
 ·rintro j v ⟨hj,rfl⟩
  exact rL (X.val j hj) fun p ta tb _ e=>gu e fun e _=>⟨_,_,e⟩
 ·refine⟨io,xR I io (Ne.symm hPI) (hI▸Heap.get?_push_size _ (hio▸rfl)),hio▸rfl,hio▸rfl⟩
 ·intro b hb
  rcases List.mem_cons.mp hb with rfl | hb
  ·exact hsz
  refine Or.elim (List.mem_cons.mp hb) (fun h_l=>?_) (fun hb=>?_)
  ·subst h_l
   exact Nat.lt_trans hpl hsz
  ·obtain ⟨j,hj,rfl⟩:=List.mem_map.mp hb
   exact Nat.lt_trans (hI▸(let ⟨_,e,_⟩:=X.tup j (List.mem_range.mp hj);Heap.lt_size e)) hsz
 ·exact dG1.extBut xR fun e=>hls (e▸hP)
 ·intro h;exact absurd (List.mem_singleton.mp h) (Nat.ne_of_lt hcs)
 ·intro href hhref
  refine⟨fun A' E' j va vb u mc _ _ _ _ _ _ _ _=>?_,fun A' E' j va vb u mc hh hd hu hPt _ hn hva hvb hk=>?_⟩
  ·rw[List.forIn_nil]
   exact wpAny_pure ⟨rfl,u.heap,u.toks,rfl,fun _ _ e=>e⟩
  ·refine d7 (X.val j hPt.1) fun q ta tb e=>?_
   have e1:va=.str ⟨q.1.toArray⟩ ta/\vb=.str ⟨q.2.toArray⟩ tb:=by
    have:=hPt.2.trans e.2.1
    simpa using congrArg Array.toList this
   have ku:∀ b o,b ∉ G.loose->G.s₀.heap.get? b=some o->u.heap.get? b=some o:=fun b o hb e=>by
    have e3:=R.keep b o hb e
    have hbI:b<I:=hI▸Heap.lt_size e3
    exact hk b (List.mem_range.mpr (Nat.lt_trans hbI hsz)) (fun h=>Nat.ne_of_lt hbI (List.mem_singleton.mp h)) o (hhref b o (gF1 b o hb e))
   exact hq A' E' j q ta tb u mc gw.objs.size code hh hd hu e.1 e.2.2.1 e.2.2.2 ⟨z2,N.glob,rfl,fun m' hm=>hm.at' fun o e=>ku _ o hmg e,fun m' hm=>hm.at' fun o e=>ku _ o hbn e,hn⟩ (e1.1▸hva) (e1.2▸hvb)
 ·intro a wj iV1 gs hgb hlt eb1 gE1 WS GA
  refine gy1 a _ _ _ _ _ rfl (⟨fun b o hb e=>gE1 b o (fy1 b o hb e),fun b hb=>?_,⟨_,_,_,rfl⟩,R.bare.push hgb⟩) (by rw[← X.len];rw[oG,List.length_range] at WS;exact WS) GA ?_ ?_ ?_ (fun gs hm=>(R.bare.push hgb).moved hm) (fun i u st=>st.1.typeIs) List.mem_cons_self
  ·by_cases hbP:b=P
   ·subst hbP
    exact aI hgr fun us e q=>⟨us,gE1 _ _ e,q⟩
   ·exact aI (R.lse b hb) fun us e q=>⟨us,gE1 _ _ (xR b _ hbP (lg _ _ e)),q⟩
  ·intro b hb
   show b<wj.objs.size
   refine(eb1)▸?_
   rcases List.mem_cons.mp hb with rfl | hb
   ·exact Nat.lt_succ_self _
   refine Or.elim (List.mem_cons.mp hb) (fun h_l=>?_) (fun hb=>?_)
   ·subst h_l
    exact Nat.lt_succ_of_lt hlt
   ·exact Nat.lt_succ_of_lt (Nat.lt_trans (List.mem_range.mp hb) hlt)
  ·intro b hb
   rcases List.mem_cons.mp hb with rfl | hb
   ·exact hI▸Nat.le_of_lt hsz
   ·exact List.mem_singleton.mp hb▸Nat.le_of_eq hI
  ·rintro j v ⟨j',e,h⟩
   obtain ⟨_,e⟩:=List.getElem?_eq_some_iff.mp e
   rw[List.getElem_range] at e
   exact e▸h
end
theorem v3(a b:Value):argsOk "sum" ⟨[a,b],[]⟩:=by unfold argsOk;kernel_rfl
section
variable {prog:Program} {w:World} {A:Around} {I:Addr} {fp wr:List Addr} {Gg:Array GenState->Array GenState->Prop} {n:Nat} {P:Nat->Value->Prop} {St:Nat->Shared->Prop}
theorem oq(W:WalksS prog w A I fp wr Gg n P St):WalksS prog w A I fp wr Gg (n+1) (fun i v=>∃ j,i=j+1/\P j v) (fun i s=>∃ j,i=j+1/\St j s) where
 sub:=W.sub
 grefl:=W.grefl
 gtrans:=W.gtrans
 frame:=fun i s h' tk ⟨j,e,st⟩ ht hk=>⟨j,e,W.frame j s h' tk st ht hk⟩
 item:=fun i s Q E hi ⟨j,e,st⟩ hQ=>W.item j s Q E (by lia) st fun v s' hP hst hm=>hQ v s' ⟨j,e,hP⟩ ⟨j+1,by rw[e],hst⟩ hm
 done:=(by rintro s Q E ⟨j,e,st⟩ hQ;exact W.done s Q E (Nat.succ.inj e▸st) hQ)
 self:=fun i s Q E ⟨j,e,st⟩ hQ=>W.self j s Q E st hQ
noncomputable def shV(st:Int)(val:Nat->Int):Nat->Int
 | 0=>st
 | j+1=>val j
theorem iq(st:Int)(val:Nat->Int):∀ j,preSum (shV st val) (j+1)=st+preSum val j
 | 0=>by dsimp only[preSum,shV];lia
 | j+1=>by rw[preSum,iq st val j];show st+preSum val j+val j=st+(preSum val j+val j);lia
theorem uc{s:Shared}{st:Int}{t:Tok}{val:Nat->Int}{Q:Value->Shared->Prop}{E:Value->Shared->Prop}(W:WalksS prog w A.in1 I fp wr Gg n P St)(h0:St 0 s)(hfp:∀ b∈fp,b<s.heap.objs.size)(hv:∀ i v,P i v->∃ t,v=.int (val i) t)
  (hQ:∀ s' t',Moved wr Gg s s'->Q (.int (st+preSum val n) t') s'):wpAny (model prog w) A (call (.builtin "sum") [.ref I,.int st t]) Q E s:=by
 refine call_function_tree F.kind_sum F.plain_sum F.entry_sum (v3 _ _) ?_
 dsimp only[Builtin.«sum»]
 dsimp only[List.length_cons,List.length_nil]
 rw[if_neg (by decide)]
 refine wpAny_bind (wpAny_of_eq (show Builtin.Builtins.bindParams "sum" ["start"] 0 ⟨[.int st t],[]⟩=pure [some (.int st t)] from rfl) ?_)
 refine wpAny_bind (W.self 0 s _ _ h0 ?_)
 have hSf:s.heap.objs.size ∉ fp:=fun hm=>Nat.lt_irrefl _ (hfp _ hm)
 have loop:∀ (tA:Tok) (stage:Int) (tk:Nat),stage=0\/stage=2->s.toks<=tk->codeAny (model prog w) A (.builtin "sum.loop" ⟨[.ref I,.ref s.heap.objs.size,rawInt stage,rawInt 0],[]⟩) (fun r s'=>match r with | .ok (.ret v)=>Q v s' | .ok _=>False | .error e=>E e s') { s with heap:=s.heap.push { cls:=.type "list",data:=.seq #[.int st tA] },toks:=tk }:=fun tA stage tk hs htk =>
  codeAny_sum_loopAnyS (oq W) (shV st val) (fun i v h=>aI h fun j e h=>a9 (hv j v h) fun t' e'=>⟨t',by rw[e,e'];rfl⟩) s.heap.objs.size hSf n 1 _ tA 0 stage hs (by solve_by_elim (maxDepth:=4) only [*,Nat.le_trans,Nat.lt_of_lt_of_le,Nat.lt_of_le_of_lt,Nat.le_of_lt,Nat.le_of_eq,Nat.le_refl,Eq.symm,Nat.le_add_right,Nat.le_add_left,Nat.le_succ,Nat.sub_le,Nat.succ_le_succ,Nat.lt_succ_of_le,Nat.le_of_lt_succ,Nat.zero_le,Nat.succ_pos,Int.ofNat_le.mpr,Int.ofNat_lt.mpr,Int.natCast_nonneg,Nat.not_le.mpr,Nat.not_lt.mpr,Nat.not_le.mp,Nat.not_lt.mp]) (by exact Nat.succ_pos _)
   ⟨0,rfl,W.frame 0 s _ _ h0 htk fun b _ o e=>Heap.get?_push_of_some _ e⟩ (Heap.get?_push_size _ rfl |>.trans (by rw[iq];simp [preSum])) fun s' t' hm=>by
    rw[iq]
    exact hQ s' t' (hm.drop_new htk)
 have tail:∀ (tA:Tok) (stage:Int) (tk:Nat),stage=0\/stage=2->s.toks<=tk->wpAny (model prog w) A.in1 (do
   for (ty,what,hint) in [("str","strings","''"),("bytes","bytes","b''"),("bytearray","bytearray","b''")] do
    if ← isInstance (.int st tA) (.type ty) then
     rule "sum.start-refused";raiseError "TypeError" s!"sum() can't sum {what} [use {hint}.join(seq) instead]"
   again (.builtin "sum.loop" ⟨[.ref I,← newList [.int st tA],rawInt stage,rawInt 0],[]⟩)) (fun fin s'=>match fin with
    | .done f=>(match (Except.ok f:Result) with | .ok (.ret v)=>Q v s' | .ok _=>False | .error e=>E e s')
    | .again c'=>c'.quiet=true/\codeAny (model prog w) A c' (fun r s'=>match r with | .ok (.ret v)=>Q v s' | .ok _=>False | .error e=>E e s') s') E { s with toks:=tk }:=fun tA stage tk hs htk=>by
  dsimp only[List.forIn_cons,List.forIn_nil]
  refine wpAny_bind (wpAny_bind (wpAny_bind (wpAny_isInstance (T:="int") (b:=false) (typeIs_int _ _ _) PySem.sub_int_str ?_)))
  dsimp only[Bool.false_eq_true,if_false]
  refine wpAny_pure (wpAny_bind (wpAny_bind (wpAny_isInstance (T:="int") (b:=false) (typeIs_int _ _ _) PySem.sub_int_bytes ?_)))
  dsimp only[Bool.false_eq_true,if_false]
  refine wpAny_pure (wpAny_bind (wpAny_bind (wpAny_isInstance (T:="int") (b:=false) (typeIs_int _ _ _) PySem.sub_int_bytearray ?_)))
  dsimp only[Bool.false_eq_true,if_false]
  refine wpAny_pure (wpAny_pure (wpAny_bind (wpAny_newObj_type ?_)))
  exact wpAny_pure ⟨plainId_quiet F.plain_sum_loop _,loop tA stage tk hs htk⟩
 dsimp only
 split
 ·refine wpAny_bind (wpAny_rule (wpAny_bind (wpAny_mkInt (wpAny_bind (wpAny_pure ?_)))))
  exact tail s.toks 0 (s.toks+1) (.inl rfl) (Nat.le_succ _)
 ·refine wpAny_bind (wpAny_pure ?_)
  exact tail t 2 s.toks (.inr rfl) (Nat.le_refl _)
end
noncomputable def kN1(elt:Expr)(sc:Scope)(P:Nat->Pos)(q:Nat):Expr:=.GeneratorExp elt [⟨.Tuple [.Name "fws" (P q),.Name "part" (P (q+1))] 0 (P (q+2)),.Name "self" (P (q+3)),[],0⟩] sc (P (q+4))
noncomputable def dU1(P:Nat->Pos):Expr:=.BinOp (.Call (.Name "len" (P 1)) [.Name "fws" (P 2)] [] (P 3)) .Add (.Call (.Name "len" (P 4)) [.Name "part" (P 5)] [] (P 6)) (P 7)
noncomputable def fx1(C:Cx)(body:List Stmt):Prop:=∃ P:Nat->Pos,∃ sc:Scope,body=[.Return (some (.Call (.Name "sum" (P 0)) [kN1 (dU1 P) sc P 8,.Attribute (.Name "self" (P 13)) "_initial_size" (P 14)] [] (P 15))) (P 16)] /\
 (cL C "self" 0&&bB (C.kind "sum") .globalImplicit&&a61 sc&&bB (sc.names.lookup ("len":Str)) .globalImplicit)=true
noncomputable def fH(ps:List (List Nat×List Nat)):Int:=(ps.map fun p=>(p.1.length:Int)+p.2.length).sum
section
variable {G:Wd} {A:Around} {C C':Cx} {env cenv:Env} {W W':List Addr} {η:ab} {σ:List AO} {ρ:Rho} {s s':Shared} {m:Str->Option Value}
theorem ir{f:List Nat×List Nat->Int}{g:Nat->Int}{ps:List (List Nat×List Nat)}(h:∀ j p,ps[j]?=some p->g j=f p):∀ j,j<=ps.length->preSum g j=((ps.take j).map f).sum
 | 0,_=>rfl
 | j+1,hj=>by
  have e:ps[j]?=some ps[j]:=List.getElem?_eq_getElem hj
  rw[preSum,ir h j (Nat.le_of_lt hj),h j _ e,List.take_succ,e,List.map_append,List.sum_append]
  exact congrArg _ (Int.add_zero (f ps[j])).symm
theorem Grow.toks{t:Nat}(g:Grow G s s'):Grow G s { s' with toks:=t }:=⟨g.keep,g.lse,d7 g.same fun h tk gs e=>⟨h,t,gs,by rw[e]⟩,g.bare⟩
noncomputable def u0(ps:List (List Nat×List Nat))(j:Nat):Int:=((ps[j]?).map fun p=>(p.1.length:Int)+p.2.length).getD 0
theorem aP1{sc:Scope}{ps:List (List Nat×List Nat)}{P:Nat->Pos}(g:Gl G "len" (.builtin "len"))(hl:sc.names.lookup ("len":Str)=some .globalImplicit)(h1:sc.names.lookup ("fws":Str)=some .local)(h2:sc.names.lookup ("part":Str)=some .local) :
  fd1 G A env sc ps (dU1 P) fun j y=>∃ t,y=.int (u0 ps j) t:=fun A' E' j p ta tb u mc L code _ _ _ hp l1 l2 F va vb=>by
 have:=de1 (A:=A') (E:=E') (p1:=P 1) (p2:=P 2) (p3:=P 3) (p4:=P 4) (p5:=P 5) (p6:=P 6) (pos:=P 7) F hl g h1 va (by decide) h2 vb (by decide) (show p.1.toArray.size<=lim by exact l1) (show p.2.toArray.size<=lim by exact l2)
 refine wpAny_mono this (fun y dY q=>⟨a9 q.1 fun t e=>⟨t,e.trans ?_⟩,q.2⟩) fun _ _ e=>e
 unfold u0
 refine(hp)▸?_
 rfl
theorem fa1(KX:AccX G m)(hit:m "__iter__"=none)(hga:m "__getattribute__"=none)(hgt:m "__getattr__"=none){a:Addr}{fd:FuncData}{body:List Stmt}{ns:List Str}{n k:Nat}{ps:List (List Nat×List Nat)}{i:Int}(D:DefM G a fd body C ns)(DC:GenC G fd)
  (gl:Gl G "len" (.builtin "len")) (gs:Gl G "sum" (.builtin "sum")) (hm:fx1 C body) (hns:ns.length=1) (hb:∀ cvs:List Value,cvs.length=1->bindArgs fd ⟨cvs,[]⟩=pure (ns.zip cvs)) (hr:Room A (n+1)) (hσ:σ[k]?=some ⟨ps.map oI,some i⟩) :
  On G A (fun cvs=>call (.ref a) cvs) σ [.ref k] (.int (i+fH ps)) σ:=by
 refine au1 hm fun P sc e hc=>?_
 subst e
 have h1:=ak hc;have h2:=ak h1.1;have h3:=ak h2.1
 refine On.defM (k:=0) (xs:=[]) (dv:=[]) (η':=aO [.ref k] 0) D hr (by rw[hns];rfl) (fun _ _=>RVs.nil) (fun s cvs _ hl=>BindsTo.of_eq (by rw[List.append_nil];exact hb cvs hl)) (.inl rfl) fun A' env W hA e1 e2 e3 e4=>EssAt.of (Ess.stop nofun (Es.ret fun ρ s R N ht=>?_))
 refine wpAny_Call_Name_kw (RE.global R N (beq_iff_eq.mp h3.2) (by decide) gs ?_)
 refine callWith_builtin rfl (evalArgs_plain (spliced_cons ?_))
 refine eI (xW KX hit DC D.nolimit D.ls gl.l2 R N e2 h3.1 (by rfl) hσ (hA.less (Nat.zero_le _)) h2.2 (aP1 gl (beq_iff_eq.mp h1.2) (iO h2.2).2.2.2.2.2.1 (iO h2.2).2.2.2.2.2.2)) fun v am hle X=>?_
 refine byQ fun Q kQ=>?_
 obtain ⟨x,fp,wr,Gg,Pv,St,rfl,gr,WS,h0,hfp,hwr,hPF,hbare,_⟩:=X
 have ah:=gr.step R
 refine kQ ?_
 refine spliced_cons (Attribute_Name_ ?_)
 refine byQ fun Q kQ=>?_
 refine a9 (cj h3.1) fun y h_p=>?_;have hy:=h_p.1;have hyn:=h_p.2.1;have hys:=h_p.2.2
 refine kQ ?_
 refine wpAny_Name (hyn▸RE.load ah.rel (N.mono R ah) hy (v:=.ref k) (by rw[hys];rfl) fun cv r=>?_) (by decide)
 refine aI (RV.ref_iff r) fun p hp e=>e▸?_
 refine wg (bc ah.rel hp hσ) fun vs n d g1 g2 g3 g4 g5 g6=>?_
 refine a9 g4 fun ti g4=>?_
 refine pX KX ah.rel hga hgt g1 g3 g4 (spliced_nil ?_)
 refine uc (val:=u0 ps) (s:={ am with toks:=am.toks+1 }) WS.in4_1 (WS.frame 0 am _ _ h0 (Nat.le_succ _) fun _ _ _ e=>e) hfp hPF fun s' t' hmv=>?_
 have e:preSum (u0 ps) ps.length=fH ps:=by
  rw[ir (f:=fun p=>(p.1.length:Int)+p.2.length) (fun j p hp=>by unfold u0;rw[hp];rfl) _ (Nat.le_refl _),List.take_length]
  rfl
 rw[e]
 exact⟨ρ,(Grow.moved R gr.toks hwr (fun b hb hw=>absurd (qN R hb) (Nat.not_lt.mpr (hwr b hw))) hmv hbare).step R,_,rfl⟩
end
noncomputable def yU(v:V):Option (List Nat×List Nat):=match v with
 | .tup [.str a,.str b]=>some (a,b)
 | _=>none
noncomputable def kV:List V->Option (List (List Nat×List Nat))
 | []=>some []
 | x::r=>(yU x).bind fun p=>(kV r).map (p::·)
theorem xl{v:V}{p:List Nat×List Nat}(h:yU v=some p):v=oI p:=by
 cases v with
 | tup l=>cases l with
  | nil=>exact nso h
  | cons x l=>cases x with
   | str a=>cases l with
    | nil=>exact nso h
    | cons y l=>cases y with
     | str b=>cases l with
      | nil=>rw[← siX h];rfl
      | cons z l=>exact nso h
     | _=>cases l <;> exact nso h
   | _=>cases l with
    | nil=>exact nso h
    | cons y l=>cases l <;> exact nso h
 | _=>exact nso h
theorem mO:∀ {l:List V} {ps:List (List Nat×List Nat)},kV l=some ps->l=ps.map oI
 | [],_,h=>by rw[← siX h];rfl
 | x::r,ps,h=>by
  refine aI (Option.bind_eq_some_iff.mp h) fun p h1 h2=>aI (Option.map_eq_some_iff.mp h2) fun q h3 h4=>?_
  rw[← h4,xl h1,mO h3]
  rfl
noncomputable def fp1:rm:=fun vs σ=>match vs with
 | [.ref k]=>match σ[k]? with
  | some ⟨l,some i⟩=>(kV l).bind fun ps=>if 0<=i+fH ps/\i+fH ps<1000000000 then some (.int (i+fH ps),σ) else none
  | _=>none
 | _=>none
noncomputable def uJ:rm:=fun vs σ=>match vs with
 | [.ref k]=>match σ[k]? with
  | some ⟨l,some i⟩=>some (.int l.length,σ)
  | _=>none
 | _=>none
section
variable {P:List V->Prop} {vs:List V} {σ:List AO} {r:V×List AO} {k:Nat}
theorem gn1{β:Type}{f:Nat->Option β}{r:β} (h:(match vs with
  | [.ref k]=>f k
  | _=>none)=some r) (q:∀ k,f k=some r->P [.ref k]):P vs:=by
 cases vs with
 | nil=>exact nso h
 | cons x l=>cases x with
  | ref k=>cases l with
   | nil=>exact q k h
   | cons y l=>exact nso h
  | _=>cases l <;> exact nso h
theorem al1(h:uJ (.ref k::vs) σ=some r)(q:∀ l i,σ[k]?=some ⟨l,some i⟩->(V.int l.length,σ)=r->P []):P vs:=by
 cases vs with
 | nil=>exact sO h fun l i e h=>q l i e (siX h)
 | cons a vs=>exact nso h
end
structure LenOk (G:Wd) (m:Str->Option Value):Prop where
 hit:m "__iter__"=none
 gl:Gl G "len" (.builtin "len")
 gs:Gl G "sum" (.builtin "sum")
 len:∃ a fd body C ns,m "__len__"=some (.ref a)/\DefM G a fd body C ns/\GenC G fd/\fx1 C body/\ns.length=1/\∀ cvs:List Value,cvs.length=1->bindArgs fd ⟨cvs,[]⟩=pure (ns.zip cvs)
section
variable {G:Wd} {A:Around} {C C':Cx} {env cenv:Env} {W W':List Addr} {η:ab} {σ:List AO} {ρ:Rho} {s s':Shared} {m:Str->Option Value}
theorem Room.in1{n:Nat}(h:Room A (n+1)):Room A.in1 n:=⟨h.handled,Nat.lt_of_le_of_lt (by show A.depth+n<=A.depth+(n+1);exact Nat.le_succ _) h.depth,by have:=h.units;show A.units+1+4*n+12<cLine;lia⟩
theorem bS1(M:MethsOk G m)(L:LenOk G m){n k:Nat}{ps:List (List Nat×List Nat)}{i:Int}(hr:Room A (n+3))(hσ:σ[k]?=some ⟨ps.map oI,some i⟩)(h0:0<=i+fH ps/\i+fH ps<1000000000) :
  On G A (fun cvs=>call (.builtin "len") cvs) σ [.ref k] (.int (i+fH ps)) σ:=fun ρ s cvs R r ht=>by
 refine oM (RVs.cons_iff r) fun c r' e h1 h2=>?_
 rw[e,RVs.nil_iff h2]
 refine aI (RV.ref_iff h1) fun p hp e=>?_
 subst e
 refine wg (bc R hp hσ) fun vs nn d g1 g2 g3 g4 g5 g6=>?_
 refine gs1 L.len fun a fd body C ns e1 D DC hm hns hb=>?_
 refine qJ D.obj fun o hob hfd hfc=>?_
 refine Calls.call_function_entry kind_len plain_len entry_len (args_len1 _) ?_
 dsimp only[Builtin.«len»]
 refine wpAny_bind (m:=oneArg "len" _) (wpAny_pure ?_)
 refine wpAny_bind (m:=callSpecial? (.ref p.1) (Str.ofString "__len__")) ?_
 dsimp only[callSpecial?]
 refine wpAny_bind (bG M.KX.acc R g1 rfl (.inl ⟨_,e1,rfl⟩) ?_)
 refine wpAny_holding (wpAny_bind ?_)
 unfold bindSpecial
 refine wpAny_bind (m:=typeOf (.ref a)) ?_
 dsimp only[typeOf]
 refine wpAny_bind (wpAny_load (R.keep a o D.la hob) (wpAny_pure ?_))
 rw[hfc]
 refine(if_pos (show (Value.type "function"==.type "function" || Value.type "function"==.type "method_descriptor" || Value.type "function"==.type "wrapper_descriptor")=true from rfl))▸?_
 refine wpAny_pure (wpAny_bind ?_)
 refine wpAny_mono (fa1 M.KX L.hit M.n1 M.n2 D DC L.gl L.gs hm hns hb (hr.in1:Room A.in1 (n+2)) hσ ρ s [.ref p.1] R (RVs.cons h1 RVs.nil) ht) (fun v am ⟨aa,ah,av⟩=>?_) fun _ _ f=>f.elim
 obtain ⟨t,rfl⟩:=RV.int_iff av
 refine wpAny_pure (wpAny_bind (wpAny_holding (wpAny_pure (wpAny_bind (wpAny_letGo ?_)))))
 show wpAny _ _ (if i+fH ps<0 then _ else _) _ _ _
 rw[if_neg (by omega)]
 show wpAny _ _ (if i+fH ps ≥ 2 ^ 63 then _ else _) _ _ _
 rw[if_neg (by omega)]
 exact wpAny_bind (wpAny_mkInt (wpAny_pure ⟨_,rfl,aa,ah.trans (Step.toks ah.rel _),RV.int_⟩))
theorem w5(M:MethsOk G m)(L:LenOk G m){n:Nat}(hr:Room A (n+4)):fC G A "len" fp1:=by
 intro C env W η σ σ₁ σ₂ q pos args vs v hk hd hn hE hp
 refine Ev.callB hk hd L.gl hn hE (gn1 (P:=fun vs=>On G A (fun cvs=>call (.builtin "len") cvs) σ₁ vs v σ₂) hp fun k h=>?_)
 refine sO h fun l i e h=>aI (Option.bind_eq_some_iff.mp h) fun ps h1 h2=>?_
 obtain ⟨rfl,rfl⟩:=Prod.mk.inj (siX (bh h2).2)
 exact bS1 M L (hr.less (Nat.add_le_add_left (by decide) n):Room A (n+3)) (mO h1▸e) (bh h2).1
theorem ut(M:MethsOk G m){n:Nat}(hr:Room A (n+4)):fA G A "part_count" uJ:=by
 intro C env W η σ σ₁ σ₂ aj q pos o args vs v k l i h1 h2 h3 h4 hE hσ hA hp
 refine bV1 (M.part) fun a fd body C' ns x e1 D V hx hm hns hb=>?_
 refine qJ (D.obj) fun ob hob hfd hfc=>?_
 refine Ev.accDef M.KX.acc h1 h2 h3 h4 M.n1 M.n2 e1 (by decide) hob D.la hfd hfc hE hσ hA ?_
 refine al1 (P:=fun vs=>On G A (fun cvs=>call (.ref a) cvs) σ₂ (.ref k::vs) v aj) hp fun l i e q=>?_
 obtain ⟨rfl,rfl⟩:=Prod.mk.inj q
 exact gA M.KX M.U D V hx hm hns hb (hr.less (Nat.add_le_add_left (by decide) n):Room A (n+1)) e
end
noncomputable def bZ:List Var:=[⟨"want",0,true⟩,⟨"got",1,true⟩,⟨"ws",2,true⟩,⟨"startpos",3,true⟩,⟨"endpos",4,true⟩,⟨"w",5,true⟩]
noncomputable def be:List Str:=["want","got"]
noncomputable def aL:Sx:=(.seq (.ite (.cmp .NotIn (.glo [46,46,46]) (.loc 0)) (.seq (.ret (.cmp .Eq (.loc 0) (.loc 1)))
 .skip) .skip)
 (.seq (.asg 2 (.split (.loc 0) (.glo [46,46,46])))
 (.seq (.asrt (.cmp .GtE (.bf .len (.cons (.loc 2) .nil)) (.cst (.int 2))))
 (.seq (.asg2 3 4 (.tup (.cons (.cst (.int 0)) (.cons (.bf .len (.cons (.loc 1) .nil)) .nil))))
 (.seq (.asg 5 (.idx (.loc 2) (.cst (.int 0))))
 (.seq (.ite (.loc 5) (.seq (.ite (.me .startswith (.loc 1) (.cons (.loc 5) .nil)) (.seq (.asg 3 (.bf .len (.cons (.loc 5) .nil)))
 (.seq (.del (.loc 2) (0))
 .skip)) (.seq (.ret (.cst (.bool false)))
 .skip))
 .skip) .skip)
 (.seq (.asg 5 (.idx (.loc 2) (.neg (.cst (.int 1)))))
 (.seq (.ite (.loc 5) (.seq (.ite (.me .endswith (.loc 1) (.cons (.loc 5) .nil)) (.seq (.aug 4 .Sub (.bf .len (.cons (.loc 5) .nil)))
 (.seq (.del (.loc 2) (-1))
 .skip)) (.seq (.ret (.cst (.bool false)))
 .skip))
 .skip) .skip)
 (.seq (.ite (.cmp .Gt (.loc 3) (.loc 4)) (.seq (.ret (.cst (.bool false)))
 .skip) .skip)
 (.seq (.for_ (.loc 5) (.loc 2) (.seq (.asg 3 (.me .find3 (.loc 1) (.cons (.loc 5) (.cons (.loc 3) (.cons (.loc 4) .nil)))))
 (.seq (.ite (.cmp .Lt (.loc 3) (.cst (.int 0))) (.seq (.ret (.cst (.bool false)))
 .skip) .skip)
 (.seq (.aug 3 .Add (.bf .len (.cons (.loc 5) .nil)))
 .skip))))
 (.seq (.ret (.cst (.bool true)))
 .skip)))))))))))
noncomputable def gO:En:=.code 2 4 aL
noncomputable def gj:List Var:=[⟨"resp",0,true⟩,⟨"dirname",1,true⟩,⟨"i",2,true⟩,⟨"n",3,true⟩,⟨"c",4,true⟩]
noncomputable def dy:List Str:=["resp"]
noncomputable def dm:Sx:=(.seq (.ite (.cmp .NotEq (.slc (.loc 0) .nil (.cst (.int 3)) .nil) (.cst (.str [50,53,55]))) (.seq .dead
 .skip) .skip)
 (.seq (.ite (.cmp .NotEq (.slc (.loc 0) (.cst (.int 3)) (.cst (.int 5)) .nil) (.cst (.str [32,34]))) (.seq (.ret (.cst (.str [])))
 .skip) .skip)
 (.seq (.asg 1 (.cst (.str [])))
 (.seq (.asg 2 (.cst (.int 5)))
 (.seq (.asg 3 (.bf .len (.cons (.loc 0) .nil)))
 (.seq (.whil 1000 (.cmp .Lt (.loc 2) (.loc 3)) (.seq (.asg 4 (.idx (.loc 0) (.loc 2)))
 (.seq (.asg 2 (.bin .Add (.loc 2) (.cst (.int 1))))
 (.seq (.ite (.cmp .Eq (.loc 4) (.cst (.str [34]))) (.seq (.ite (.or (.cmp .GtE (.loc 2) (.loc 3)) (.cmp .NotEq (.idx (.loc 0) (.loc 2)) (.cst (.str [34])))) (.seq .brk
 .skip) .skip)
 (.seq (.asg 2 (.bin .Add (.loc 2) (.cst (.int 1))))
 .skip)) .skip)
 (.seq (.asg 1 (.bin .Add (.loc 1) (.loc 4)))
 .skip)))))
 (.seq (.ret (.loc 1))
 .skip)))))))
noncomputable def sX:En:=.code 1 4 dm
noncomputable def eS:List Var:=[⟨"kind",0,true⟩,⟨"x",1,true⟩,⟨"forms",2,true⟩,⟨"unseen",3,true⟩,⟨"typed",4,true⟩,⟨"k",5,true⟩]
noncomputable def cz:List Str:=["kind","x"]
noncomputable def cw:Sx:=(.seq (.asg 2 (.tup (.cons (.cst (.int 97)) (.cons (.cst (.int 65)) (.cons (.cst (.int 119808)) (.cons (.cst (.int 119860)) (.cons (.cst (.int 119912)) (.cons (.cst (.int 120016)) (.cons (.cst (.int 120172)) (.cons (.cst (.int 120224)) (.cons (.cst (.int 120276)) (.cons (.cst (.int 120328)) (.cons (.cst (.int 120380)) (.cons (.cst (.int 120432)) .nil))))))))))))))
 (.seq (.asg 3 (.tup (.cons (.cst (.int 173)) (.cons (.cst (.int 847)) (.cons (.cst (.int 6150)) (.cons (.cst (.int 6155)) (.cons (.cst (.int 6156)) (.cons (.cst (.int 6157)) (.cons (.cst (.int 8203)) (.cons (.cst (.int 8204)) (.cons (.cst (.int 8205)) (.cons (.cst (.int 8288)) (.cons (.cst (.int 65279)) .nil)))))))))))))
 (.seq (.asg 4 (.ite (.cmp .Eq (.loc 0) (.cst (.int 0))) (.cst (.str [34])) (.bf .chr (.cons (.bin .Sub (.bin .Add (.idx (.loc 2) (.bin .Mod (.loc 1) (.cst (.int 12)))) (.loc 0)) (.cst (.int 1))) .nil))))
 (.seq (.asg 5 (.bin .Mod (.bin .FloorDiv (.loc 1) (.cst (.int 12))) (.cst (.int 54))))
 (.seq (.ite (.cmp .Lt (.loc 5) (.cst (.int 27))) (.seq (.asg 4 (.bin .Add (.bf .chr (.cons (.ite (.cmp .Lt (.loc 5) (.cst (.int 11))) (.idx (.loc 3) (.loc 5)) (.bin .Add (.cst (.int 65013)) (.loc 5))) .nil)) (.loc 4)))
 .skip) .skip)
 (.seq (.ret (.loc 4))
 .skip))))))
noncomputable def qc:En:=.code 2 4 cw
noncomputable def cT:List Var:=[⟨"text",0,true⟩]
noncomputable def bE:List Str:=["text"]
noncomputable def bV:Sx:=(.seq (.ret (.me .join (.cst (.str [])) (.cons (.comp [⟨"sign",1,true⟩] (.loc 1) (.call 4 (.cons (.loc 1) .nil)) (.loc 0) (.not (.call 3 (.cons (.loc 1) .nil)))) .nil)))
 .skip)
noncomputable def jH:En:=.code 1 1 bV
noncomputable def gk:List Var:=[⟨"text",0,true⟩,⟨"pile",1,true⟩,⟨"begun",2,true⟩,⟨"last",3,true⟩,⟨"letter",4,true⟩,⟨"dips",5,true⟩,⟨"start",6,true⟩,⟨"pieces",7,true⟩]
noncomputable def dz:List Str:=["text"]
noncomputable def dq:Sx:=(.seq (.asg 1 (.call 0 (.cons (.cst (.int 2)) .nil)))
 (.seq (.asg 2 (.new (.cons (.cst (.int 0)) .nil)))
 (.seq (.asg 3 (.cst (.str [])))
 (.seq (.for_ (.loc 4) (.loc 0) (.seq (.expr (.meth 11 (.loc 1) (.cons (.cst (.str [32])) (.cons (.loc 4) .nil))))
 (.seq (.asg 3 (.ite (.chain .NotEq .Lt (.cst (.str [])) (.loc 3) (.loc 4)) (.cst (.str [])) (.loc 4)))
 (.seq (.ite (.cmp .Eq (.loc 3) (.cst (.str []))) (.seq (.expr (.append (.loc 2) (.meth 14 (.loc 1) .nil)))
 .skip) .skip)
 .skip))))
 (.seq (.asg 5 (.lst .nil))
 (.seq (.whil 1000 (.cmp .NotEq (.loc 2) (.lst .nil)) (.seq (.asg 6 (.pop (.loc 2)))
 (.seq (.asg 7 (.ite (.cmp .Gt (.loc 6) (.cst (.int 0))) (.meth 12 (.loc 1) (.cons (.loc 6) .nil)) (.meth 12 (.loc 1) .nil)))
 (.seq (.asg 5 (.bin .Add (.lst (.cons (.me .join (.cst (.str [])) (.cons (.comp [⟨"lead",8,true⟩,⟨"part",9,true⟩] (.tup (.cons (.loc 8) (.cons (.loc 9) .nil))) (.loc 9) (.loc 7) (.cmp .Eq (.loc 8) (.cst (.str [32])))) .nil)) .nil)) (.loc 5)))
 .skip))))
 (.seq (.ret (.ite (.cmp .Eq (.call 9 (.cons (.loc 1) .nil)) (.cst (.int 2))) (.loc 5) (.lst (.cons (.cst (.str [32])) .nil))))
 .skip)))))))
noncomputable def sY:En:=.code 1 9 dq
noncomputable def eq:List Var:=[⟨"dips",0,true⟩]
noncomputable def bY:List Str:=["dips"]
noncomputable def cK:Sx:=(.seq (.ret (.and (.cmp .Eq (.idx (.loc 0) (.neg (.cst (.int 1)))) (.cst (.str []))) (.cmp .Eq (.comp [⟨"dip",1,true⟩] (.loc 1) (.bin .Mod (.bf .len (.cons (.loc 1) .nil)) (.cst (.int 2))) (.loc 0) .nil) (.bin .Add (.lst (.cons (.cst (.int 1)) .nil)) (.bin .Mult (.lst (.cons (.cst (.int 0)) .nil)) (.bin .Sub (.bf .len (.cons (.loc 0) .nil)) (.cst (.int 1))))))))
 .skip)
noncomputable def nY:En:=.code 1 1 cK
noncomputable def bP1:List Var:=[⟨"script",0,true⟩,⟨"starts",1,true⟩,⟨"worth",2,true⟩,⟨"size",3,true⟩,⟨"words",4,true⟩,⟨"spelled",5,true⟩,⟨"ring",6,true⟩,⟨"kinds",7,true⟩,⟨"typed",8,true⟩,⟨"told",9,true⟩,⟨"letters",10,true⟩,⟨"begins",11,true⟩,⟨"k",12,true⟩,⟨"dips",13,true⟩,⟨"text",14,true⟩,⟨"wire",15,true⟩,⟨"cut",16,true⟩,⟨"spent",17,true⟩,⟨"due",18,true⟩,⟨"heard",19,true⟩,⟨"whole",20,true⟩,⟨"stretch",21,true⟩,⟨"front",22,true⟩,⟨"end",23,true⟩]
noncomputable def wc:List Str:=["script"]
noncomputable def yv:Sx:=(.seq (.asg 1 (.tup (.cons (.cst (.int 596)) (.cons (.cst (.int 9619)) (.cons (.cst (.int 4010)) (.cons (.cst (.int 220)) (.cons (.cst (.int 2700)) (.cons (.cst (.int 1933)) (.cons (.cst (.int 13002)) (.cons (.cst (.int 7)) (.cons (.cst (.int 2)) .nil)))))))))))
 (.seq (.asg 2 (.comp [⟨"k",24,true⟩,⟨"script",0,false⟩,⟨"starts",1,false⟩] (.loc 24) (.bin .Mod (.bin .Add (.idx (.loc 1) (.loc 24)) (.bf .sum (.cons (.slc (.loc 0) (.loc 24) .nil (.cst (.int 9))) .nil))) (.cst (.int 1000000))) (.range (.cons (.cst (.int 9)) .nil)) .nil))
 (.seq (.asg 3 (.bin .Add (.cst (.int 3)) (.bin .Mult (.bin .Mod (.idx (.loc 2) (.cst (.int 7))) (.cst (.int 3))) (.cst (.int 2)))))
 (.seq (.asg 4 (.new .nil))
 (.seq (.asg 5 (.new .nil))
 (.seq (.for_ (.loc 6) (.range (.cons (.cst (.int 2)) .nil)) (.seq (.asgM 7 (.comp [⟨"k",25,true⟩,⟨"ring",6,false⟩,⟨"worth",2,false⟩] (.loc 25) (.bin .Mod (.bin .FloorDiv (.idx (.loc 2) (.loc 25)) (.bin .Pow (.cst (.int 4)) (.loc 6))) (.cst (.int 4))) (.range (.cons (.bin .Sub (.loc 3) (.cst (.int 1))) .nil)) .nil))
 (.seq (.expr (.append (.loc 7) (.bin .Mod (.bin .Add (.bin .Add (.idx (.loc 7) (.cst (.int 0))) (.cst (.int 1))) (.bin .Mod (.bin .FloorDiv (.idx (.loc 2) (.bin .Sub (.loc 3) (.cst (.int 1)))) (.bin .Pow (.cst (.int 4)) (.loc 6))) (.cst (.int 3)))) (.cst (.int 4)))))
 (.seq (.asg 8 (.comp [⟨"k",26,true⟩,⟨"kinds",7,false⟩,⟨"ring",6,false⟩,⟨"worth",2,false⟩] (.loc 26) (.call 5 (.cons (.idx (.loc 7) (.loc 26)) (.cons (.bin .FloorDiv (.idx (.loc 2) (.loc 26)) (.bin .Add (.cst (.int 16)) (.loc 6))) .nil))) (.range (.cons (.loc 3) .nil)) .nil))
 (.seq (.asg 9 (.call 2 (.cons (.bin .Add (.bin .Add (.cst (.str [50,53,55,32,34])) (.rep (.me .join (.cst (.str [])) (.cons (.loc 8) .nil)) [34] [34,34])) (.bin .Mult (.cst (.str [34])) (.loc 6))) .nil)))
 (.seq (.asg 10 (.call 6 (.cons (.loc 9) .nil)))
 (.seq (.ite (.or (.cmp .NotEq (.loc 9) (.me .join (.cst (.str [])) (.cons (.loc 8) .nil))) (.cmp .NotEq (.loc 10) (.me .join (.cst (.str [])) (.cons (.comp [⟨"kind",27,true⟩] (.loc 27) (.idx (.cst (.str [34,97,98,99])) (.loc 27)) (.loc 7) .nil) .nil)))) (.seq (.ret (.cst (.bool false)))
 .skip) .skip)
 (.seq (.asg 11 (.new .nil))
 (.seq (.for_ (.loc 12) (.range (.cons (.loc 3) .nil)) (.seq (.asg 13 (.call 7 (.cons (.bin .Add (.slc (.loc 10) (.loc 12) .nil .nil) (.slc (.loc 10) .nil (.loc 12) .nil)) .nil)))
 (.seq (.ite (.cmp .NotEq (.me .join (.cst (.str [])) (.cons (.loc 13) .nil)) (.bin .Add (.slc (.loc 10) (.loc 12) .nil .nil) (.slc (.loc 10) .nil (.loc 12) .nil))) (.seq (.ret (.cst (.bool false)))
 .skip) .skip)
 (.seq (.ite (.call 8 (.cons (.loc 13) .nil)) (.seq (.expr (.append (.loc 11) (.loc 12)))
 .skip) .skip)
 .skip))))
 (.seq (.ite (.cmp .NotEq (.bf .len (.cons (.loc 11) .nil)) (.cst (.int 1))) (.seq (.ret (.cst (.bool false)))
 .skip) .skip)
 (.seq (.expr (.append (.loc 4) (.bin .Add (.slc (.loc 10) (.idx (.loc 11) (.cst (.int 0))) .nil .nil) (.slc (.loc 10) .nil (.idx (.loc 11) (.cst (.int 0))) .nil))))
 (.seq (.expr (.append (.loc 5) (.me .join (.cst (.str [])) (.cons (.bin .Add (.slc (.loc 8) (.idx (.loc 11) (.cst (.int 0))) .nil .nil) (.slc (.loc 8) .nil (.idx (.loc 11) (.cst (.int 0))) .nil)) .nil))))
 .skip))))))))))))
 (.seq (.asg 14 (.me .join (.cst (.str [])) (.cons (.comp [⟨"k",28,true⟩,⟨"spelled",5,false⟩,⟨"worth",2,false⟩] (.loc 28) (.idx (.loc 5) (.bin .Mod (.bin .FloorDiv (.idx (.loc 2) (.cst (.int 8))) (.bin .Pow (.cst (.int 2)) (.loc 28))) (.cst (.int 2)))) (.range (.cons (.cst (.int 3)) .nil)) .nil) .nil)))
 (.seq (.asg 15 (.rep (.loc 14) [34] [34,34]))
 (.seq (.asg 16 (.bin .Mod (.bin .FloorDiv (.idx (.loc 2) (.cst (.int 7))) (.cst (.int 3))) (.bf .len (.cons (.loc 15) .nil))))
 (.seq (.asg 17 (.cst (.int 0)))
 (.seq (.asg 12 (.cst (.int 0)))
 (.seq (.whil 1000 (.cmp .Lt (.loc 17) (.loc 16)) (.seq (.aug 17 .Add (.ite (.cmp .Eq (.idx (.loc 14) (.loc 12)) (.cst (.str [34]))) (.cst (.int 2)) (.cst (.int 1))))
 (.seq (.aug 12 .Add (.cst (.int 1)))
 .skip)))
 (.seq (.asg 18 (.slc (.loc 14) (.loc 12) .nil .nil))
 (.seq (.ite (.cmp .Gt (.loc 17) (.loc 16)) (.seq (.asg 18 (.slc (.loc 18) .nil (.bin .Sub (.bf .len (.cons (.loc 18) .nil)) (.bf .len (.cons (.me .lstripC (.loc 18) (.cons (.cst (.str [34])) .nil)) .nil))) .nil))
 .skip) .skip)
 (.seq (.asg 9 (.call 2 (.cons (.bin .Add (.bin .Add (.cst (.str [50,53,55,32,34])) (.slc (.loc 15) (.loc 16) .nil .nil)) (.cst (.str [34,32,122]))) .nil)))
 (.seq (.ite (.cmp .NotEq (.loc 9) (.loc 18)) (.seq (.ret (.cst (.bool false)))
 .skip) .skip)
 (.seq (.asg 19 (.call 6 (.cons (.loc 9) .nil)))
 (.seq (.asg 20 (.list (.cons (.range (.cons (.bin .Mod (.bf .len (.cons (.loc 19) .nil)) (.loc 3)) (.cons (.bin .Add (.bin .Sub (.bf .len (.cons (.loc 19) .nil)) (.loc 3)) (.cst (.int 1))) (.cons (.loc 3) .nil)))) .nil)))
 (.seq (.ite (.cmp .NotEq (.comp [⟨"k",29,true⟩,⟨"heard",19,false⟩,⟨"size",3,false⟩] (.loc 29) (.loc 29) (.range (.cons (.bin .Add (.bin .Sub (.bf .len (.cons (.loc 19) .nil)) (.loc 3)) (.cst (.int 1))) .nil)) (.call 8 (.cons (.call 7 (.cons (.slc (.loc 19) (.loc 29) (.bin .Add (.loc 29) (.loc 3)) .nil) .nil)) .nil))) (.loc 20)) (.seq (.ret (.cst (.bool false)))
 .skip) .skip)
 (.seq (.for_ (.loc 12) (.range (.cons (.bin .Add (.bin .Sub (.bf .len (.cons (.loc 19) .nil)) (.loc 3)) (.cst (.int 1))) .nil)) (.seq (.asg 21 (.slc (.loc 19) (.loc 12) (.bin .Add (.loc 12) (.loc 3)) .nil))
 (.seq (.asg 22 (.call 1 (.cons (.bin .Add (.idx (.loc 4) (.cst (.int 0))) (.cst (.str [46,46,46]))) (.cons (.slc (.loc 19) (.loc 12) .nil .nil) .nil))))
 (.seq (.asg 23 (.call 1 (.cons (.bin .Add (.cst (.str [46,46,46])) (.idx (.loc 4) (.cst (.int 1)))) (.cons (.slc (.loc 19) .nil (.bin .Add (.loc 12) (.loc 3)) .nil) .nil))))
 (.seq (.ite (.or (.cmp .IsNot (.loc 22) (.and (.cmp .In (.loc 12) (.loc 20)) (.cmp .Eq (.loc 21) (.idx (.loc 4) (.cst (.int 0)))))) (.cmp .IsNot (.loc 23) (.and (.cmp .In (.loc 12) (.loc 20)) (.cmp .Eq (.loc 21) (.idx (.loc 4) (.cst (.int 1))))))) (.seq (.ret (.cst (.bool false)))
 .skip) .skip)
 .skip)))))
 (.seq (.ret (.cst (.bool true)))
 .skip)))))))))))))))))))))
noncomputable def TB2:Tab:=⟨fun i=>[("_Accumulator":Str),"_ellipsis_match","parse257","in_table_b1","map_table_b3","_law_typed","_law_prepared","_law_dips","_law_chosen","len","law"][i]?,
 fun i=>if i=11 then some "push" else if i=12 then some "pop_from" else if i=13 then some "pop" else if i=14 then some "part_count" else none,
 fun x=>if x="ELLIPSIS_MARKER" then some [46,46,46] else none⟩
theorem gE:mss TB2 aL ⟨bZ,ag (stN 6)⟩ (ax (stN 6))=true:=by rfl'
theorem gK:cQ ⟨bZ,ag (stN 6)⟩ be=true:=by rfl'
theorem rR:mss TB2 dm ⟨gj,ag (stN 10)⟩ (ax (stN 10))=true:=by rfl'
theorem sw:cQ ⟨gj,ag (stN 10)⟩ dy=true:=by rfl'
theorem oR:mss TB2 cw ⟨eS,ag (stN 17)⟩ (ax (stN 17))=true:=by rfl'
theorem pz:cQ ⟨eS,ag (stN 17)⟩ cz=true:=by rfl'
theorem jo:mss TB2 bV ⟨cT,ag (stN 18)⟩ (ax (stN 18))=true:=by rfl'
theorem jB:cQ ⟨cT,ag (stN 18)⟩ bE=true:=by rfl'
theorem rS:mss TB2 dq ⟨gk,ag (stN 19)⟩ (ax (stN 19))=true:=by rfl'
theorem sy:cQ ⟨gk,ag (stN 19)⟩ dz=true:=by rfl'
theorem mT:mss TB2 cK ⟨eq,ag (stN 20)⟩ (ax (stN 20))=true:=by rfl'
theorem nw:cQ ⟨eq,ag (stN 20)⟩ bY=true:=by rfl'
theorem gx1:mss TB2 yv ⟨bP1,ag (stN 21)⟩ (ax (stN 21))=true:=by rfl'
theorem g91:cQ ⟨bP1,ag (stN 21)⟩ wc=true:=by rfl'
set_option maxHeartbeats 0
noncomputable def ai(P:Params)(a:Nat):FuncData:=match (Hh P).get? a with | some ⟨_,_,.func fd,_⟩=>fd | _=>default
noncomputable def bC(P:Params)(a:Nat):Array Value:=match (Hh P).get? a with | some ⟨_,_,.fields vs,_⟩=>vs | _=>#[]
noncomputable def qO{α:Type}:Sem α->Option Addr | .load a none _=>some a | _=>none
noncomputable def cH1{α:Type}:Sem α->Obj->Sem α | .load _ _ k,o=>k o | t,_=>t
theorem lV{s:Shared}{fd:FuncData}{args:Args}{binds:List (Str×Value)}{T:Addr}{o:Obj}(h1:qO (bindArgs fd args)=some T)(ho:s.heap.get? T=some o)(h2:cH1 (bindArgs fd args) o=pure binds):BindsTo s fd args binds :=
 fun M A E Q hq=>by
  have key:∀ t:Sem (List (Str×Value)),qO t=some T->t=load T>>=cH1 t:=fun t ht=>by
   cases t with
   | load a part k=>cases part with
    | none=>obtain rfl:=siX ht;rfl
    | some v=>exact nso ht
   | _=>exact nso ht
  rw[key _ h1]
  exact wpAny_bind (wpAny_load ho (h2▸wpAny_pure hq))
noncomputable def gC:Option Value->Tok | some (.str _ t)=>t | some (.int _ t)=>t | _=>0
noncomputable def mtS(i:Nat):Stmt:=((vW (stN 3))[i]?).getD (.Pass default)
noncomputable abbrev GG(w:World)(s:Shared):Wd:=⟨prg,w,s,101,[63]⟩
theorem nl{a:Addr}(h:(([63]:List Addr).contains a)=false):a ∉ ([63]:List Addr):=fun q=>by rw[List.contains_iff_mem.mpr q] at h;exact ftr h.symm
noncomputable abbrev Kp(w:World)(s:Shared):Prop:=∀ b o,(Hh w.params).get? b=some o->s.heap.get? b=some o
theorem ug(P:Params):(Hh P).isNs cStatics=true:=by rfl'
theorem wN(P:Params):(Hh P).nsMap cStatics "sys.recursionlimit"=none:=by rfl'
theorem wM(P:Params):(Hh P).nsMap cStatics "thirdparty.any"=none:=by rfl'
theorem aB{w:World}{s:Shared}(hk:Kp w s):∃ mc,s.heap.Ns cStatics mc/\mc "sys.recursionlimit"=none:=⟨_,(Heap.Ns.of_isNs (ug w.params)).keeps hk,wN _⟩
theorem ou{w:World}{s:Shared}(hk:Kp w s):∃ mc,s.heap.Ns cStatics mc/\mc "thirdparty.any"=none:=⟨_,(Heap.Ns.of_isNs (ug w.params)).keeps hk,wM _⟩
noncomputable def fq:Str:="/claim/cut.py"
theorem fX:((prg.main.file:Str)==fq)=true:=by rfl'
noncomputable def bA1(P:Params):Obj:=⟨.type "cell",none,.cell (some (.ref 101)),#[]⟩
theorem pL(P:Params):(Hh P).get? 25=some (bA1 P):=by rfl'
theorem ej1{w:World}{s:Shared}(hk:Kp w s){x:Str}{f:Value}(h:(Hh w.params).nsMap mainGlobals x=some f):Gl (GG w s) x f:=⟨⟨_,(Heap.Ns.of_isNs (c6 w.params)).keeps hk,.inl h⟩,(nl rfl),(nl rfl)⟩
theorem y7{w:World}{s:Shared}(hk:Kp w s){x:Str}{f:Value}(h:(Hh w.params).nsMap mainGlobals x=none)(h':(Hh w.params).nsMap builtinsNs x=some f):Gl (GG w s) x f:=⟨⟨_,(Heap.Ns.of_isNs (c6 w.params)).keeps hk,.inr ⟨h,_,(Heap.Ns.of_isNs (c7 w.params)).keeps hk,h'⟩⟩,(nl rfl),(nl rfl)⟩
theorem gJ(P:Params):(Hh P).get? 112=some ⟨.type "function",none,.func (ai P 112),#[]⟩:=by rfl'
theorem gG(P:Params):(ai P 112).code=.ref 111:=by rfl'
theorem fU(P:Params):(Hh P).get? 111=some ⟨.type "code",none,.fields (bC P 111),#[]⟩:=by rfl'
theorem fV(P:Params):(bC P 111)[1]?=some (.str (ai P 112).qualname (gC ((bC P 111)[1]?))):=by rfl'
theorem gD(P:Params):(ai P 112).body=.stmts (ax (stN 6))/\(ai P 112).scope=ag (stN 6)/\(ai P 112).globals=mainGlobals/\(ai P 112).builtins=builtinsNs/\(ai P 112).scope.isCoroutine=false/\(ai P 112).scope.isGenerator=false:=⟨by rfl',by rfl',by rfl',by rfl',by rfl',by rfl'⟩
theorem ge(P:Params)(a b:Value):bindArgs (ai P 112) ⟨[a,b],[]⟩=pure (be.zip [a,b]):=by rfl'
theorem gM(P:Params)(cvs:List Value)(h:cvs.length=be.length):bindArgs (ai P 112) ⟨cvs,[]⟩=pure (be.zip cvs):=by
 exact l2_ (P:=fun l=>bindArgs _ ⟨l,[]⟩=pure (_root_.List.zip _ l)) (ge P) cvs h
theorem f8(P:Params):(ai P 112).closure=[]:=by rfl'
theorem gP{w:World}{s:Shared}(hk:Kp w s):Def (GG w s) 112 (ai w.params 112) (ax (stN 6)) ⟨bZ,ag (stN 6)⟩ be :=
 have q:=gD w.params
 ⟨⟨_,hk _ _ (gJ _),rfl⟩,(nl rfl),aB hk,(nl rfl),⟨111,_,_,_,gG _,(nl rfl),hk _ _ (fU _),rfl,fV _⟩,q.1,f8 _,q.2.1,q.2.2.1,q.2.2.2.1,q.2.2.2.2.1,q.2.2.2.2.2,gM _,gK⟩
theorem sm(P:Params):(Hh P).get? 144=some ⟨.type "function",none,.func (ai P 144),#[]⟩:=by rfl'
theorem rZ(P:Params):(ai P 144).code=.ref 143:=by rfl'
theorem oZ(P:Params):(Hh P).get? 143=some ⟨.type "code",none,.fields (bC P 143),#[]⟩:=by rfl'
theorem pg(P:Params):(bC P 143)[1]?=some (.str (ai P 144).qualname (gC ((bC P 143)[1]?))):=by rfl'
theorem rD(P:Params):(ai P 144).body=.stmts (ax (stN 10))/\(ai P 144).scope=ag (stN 10)/\(ai P 144).globals=mainGlobals/\(ai P 144).builtins=builtinsNs/\(ai P 144).scope.isCoroutine=false/\(ai P 144).scope.isGenerator=false:=⟨by rfl',by rfl',by rfl',by rfl',by rfl',by rfl'⟩
theorem pQ(P:Params)(a:Value):bindArgs (ai P 144) ⟨[a],[]⟩=pure (dy.zip [a]):=by rfl'
theorem sK(P:Params)(cvs:List Value)(h:cvs.length=dy.length):bindArgs (ai P 144) ⟨cvs,[]⟩=pure (dy.zip cvs):=by
 exact l1_ (P:=fun l=>bindArgs _ ⟨l,[]⟩=pure (_root_.List.zip _ l)) (pQ P) cvs h
theorem pI(P:Params):(ai P 144).closure=[]:=by rfl'
theorem s5{w:World}{s:Shared}(hk:Kp w s):Def (GG w s) 144 (ai w.params 144) (ax (stN 10)) ⟨gj,ag (stN 10)⟩ dy :=
 have q:=rD w.params
 ⟨⟨_,hk _ _ (sm _),rfl⟩,(nl rfl),aB hk,(nl rfl),⟨143,_,_,_,rZ _,(nl rfl),hk _ _ (oZ _),rfl,pg _⟩,q.1,pI _,q.2.1,q.2.2.1,q.2.2.2.1,q.2.2.2.2.1,q.2.2.2.2.2,sK _,sw⟩
noncomputable def dT:List Var:=[⟨"code",0,true⟩]
noncomputable def bN:List Str:=["code"]
theorem lK:cQ ⟨dT,ag (stN 13)⟩ bN=true:=by rfl'
theorem lC(P:Params):(Hh P).get? 162=some ⟨.type "function",none,.func (ai P 162),#[]⟩:=by rfl'
theorem lj(P:Params):(ai P 162).code=.ref 161:=by rfl'
theorem jt(P:Params):(Hh P).get? 161=some ⟨.type "code",none,.fields (bC P 161),#[]⟩:=by rfl'
theorem jw(P:Params):(bC P 161)[1]?=some (.str (ai P 162).qualname (gC ((bC P 161)[1]?))):=by rfl'
theorem kP(P:Params):(ai P 162).body=.stmts (ax (stN 13))/\(ai P 162).scope=ag (stN 13)/\(ai P 162).globals=mainGlobals/\(ai P 162).builtins=builtinsNs/\(ai P 162).scope.isCoroutine=false/\(ai P 162).scope.isGenerator=false:=⟨by rfl',by rfl',by rfl',by rfl',by rfl',by rfl'⟩
theorem jG(P:Params)(a:Value):bindArgs (ai P 162) ⟨[a],[]⟩=pure (bN.zip [a]):=by rfl'
theorem lW(P:Params)(cvs:List Value)(h:cvs.length=bN.length):bindArgs (ai P 162) ⟨cvs,[]⟩=pure (bN.zip cvs):=by
 exact l1_ (P:=fun l=>bindArgs _ ⟨l,[]⟩=pure (_root_.List.zip _ l)) (jG P) cvs h
theorem jC(P:Params):(ai P 162).closure=[]:=by rfl'
theorem l8{w:World}{s:Shared}(hk:Kp w s):Def (GG w s) 162 (ai w.params 162) (ax (stN 13)) ⟨dT,ag (stN 13)⟩ bN :=
 have q:=kP w.params
 ⟨⟨_,hk _ _ (lC _),rfl⟩,(nl rfl),aB hk,(nl rfl),⟨161,_,_,_,lj _,(nl rfl),hk _ _ (jt _),rfl,jw _⟩,q.1,jC _,q.2.1,q.2.2.1,q.2.2.2.1,q.2.2.2.2.1,q.2.2.2.2.2,lW _,lK⟩
noncomputable def cS:List Var:=[⟨"code",0,true⟩,⟨"r",1,true⟩]
noncomputable def bD:List Str:=["code"]
theorem jA:cQ ⟨cS,ag (stN 15)⟩ bD=true:=by rfl'
theorem jy(P:Params):(Hh P).get? 208=some ⟨.type "function",none,.func (ai P 208),#[]⟩:=by rfl'
theorem ju(P:Params):(ai P 208).code=.ref 207:=by rfl'
theorem iE(P:Params):(Hh P).get? 207=some ⟨.type "code",none,.fields (bC P 207),#[]⟩:=by rfl'
theorem iG(P:Params):(bC P 207)[1]?=some (.str (ai P 208).qualname (gC ((bC P 207)[1]?))):=by rfl'
theorem jk(P:Params):(ai P 208).body=.stmts (ax (stN 15))/\(ai P 208).scope=ag (stN 15)/\(ai P 208).globals=mainGlobals/\(ai P 208).builtins=builtinsNs/\(ai P 208).scope.isCoroutine=false/\(ai P 208).scope.isGenerator=false:=⟨by rfl',by rfl',by rfl',by rfl',by rfl',by rfl'⟩
theorem i8(P:Params)(a:Value):bindArgs (ai P 208) ⟨[a],[]⟩=pure (bD.zip [a]):=by rfl'
theorem jE(P:Params)(cvs:List Value)(h:cvs.length=bD.length):bindArgs (ai P 208) ⟨cvs,[]⟩=pure (bD.zip cvs):=by
 exact l1_ (P:=fun l=>bindArgs _ ⟨l,[]⟩=pure (_root_.List.zip _ l)) (i8 P) cvs h
theorem iX(P:Params):(ai P 208).closure=[]:=by rfl'
theorem jI{w:World}{s:Shared}(hk:Kp w s):Def (GG w s) 208 (ai w.params 208) (ax (stN 15)) ⟨cS,ag (stN 15)⟩ bD :=
 have q:=jk w.params
 ⟨⟨_,hk _ _ (jy _),rfl⟩,(nl rfl),aB hk,(nl rfl),⟨207,_,_,_,ju _,(nl rfl),hk _ _ (iE _),rfl,iG _⟩,q.1,iX _,q.2.1,q.2.2.1,q.2.2.2.1,q.2.2.2.2.1,q.2.2.2.2.2,jE _,jA⟩
theorem po(P:Params):(Hh P).get? 215=some ⟨.type "function",none,.func (ai P 215),#[]⟩:=by rfl'
theorem o8(P:Params):(ai P 215).code=.ref 214:=by rfl'
theorem m5(P:Params):(Hh P).get? 214=some ⟨.type "code",none,.fields (bC P 214),#[]⟩:=by rfl'
theorem m8(P:Params):(bC P 214)[1]?=some (.str (ai P 215).qualname (gC ((bC P 214)[1]?))):=by rfl'
theorem oA(P:Params):(ai P 215).body=.stmts (ax (stN 17))/\(ai P 215).scope=ag (stN 17)/\(ai P 215).globals=mainGlobals/\(ai P 215).builtins=builtinsNs/\(ai P 215).scope.isCoroutine=false/\(ai P 215).scope.isGenerator=false:=⟨by rfl',by rfl',by rfl',by rfl',by rfl',by rfl'⟩
theorem nN(P:Params)(a b:Value):bindArgs (ai P 215) ⟨[a,b],[]⟩=pure (cz.zip [a,b]):=by rfl'
theorem pO(P:Params)(cvs:List Value)(h:cvs.length=cz.length):bindArgs (ai P 215) ⟨cvs,[]⟩=pure (cz.zip cvs):=by
 exact l2_ (P:=fun l=>bindArgs _ ⟨l,[]⟩=pure (_root_.List.zip _ l)) (nN P) cvs h
theorem nC(P:Params):(ai P 215).closure=[]:=by rfl'
theorem qd{w:World}{s:Shared}(hk:Kp w s):Def (GG w s) 215 (ai w.params 215) (ax (stN 17)) ⟨eS,ag (stN 17)⟩ cz :=
 have q:=oA w.params
 ⟨⟨_,hk _ _ (po _),rfl⟩,(nl rfl),aB hk,(nl rfl),⟨214,_,_,_,o8 _,(nl rfl),hk _ _ (m5 _),rfl,m8 _⟩,q.1,nC _,q.2.1,q.2.2.1,q.2.2.2.1,q.2.2.2.2.1,q.2.2.2.2.2,pO _,pz⟩
theorem jz(P:Params):(Hh P).get? 220=some ⟨.type "function",none,.func (ai P 220),#[]⟩:=by rfl'
theorem jv(P:Params):(ai P 220).code=.ref 219:=by rfl'
theorem iF(P:Params):(Hh P).get? 219=some ⟨.type "code",none,.fields (bC P 219),#[]⟩:=by rfl'
theorem iH(P:Params):(bC P 219)[1]?=some (.str (ai P 220).qualname (gC ((bC P 219)[1]?))):=by rfl'
theorem jl(P:Params):(ai P 220).body=.stmts (ax (stN 18))/\(ai P 220).scope=ag (stN 18)/\(ai P 220).globals=mainGlobals/\(ai P 220).builtins=builtinsNs/\(ai P 220).scope.isCoroutine=false/\(ai P 220).scope.isGenerator=false:=⟨by rfl',by rfl',by rfl',by rfl',by rfl',by rfl'⟩
theorem i9(P:Params)(a:Value):bindArgs (ai P 220) ⟨[a],[]⟩=pure (bE.zip [a]):=by rfl'
theorem jF(P:Params)(cvs:List Value)(h:cvs.length=bE.length):bindArgs (ai P 220) ⟨cvs,[]⟩=pure (bE.zip cvs):=by
 exact l1_ (P:=fun l=>bindArgs _ ⟨l,[]⟩=pure (_root_.List.zip _ l)) (i9 P) cvs h
theorem iY(P:Params):(ai P 220).closure=[]:=by rfl'
theorem jJ{w:World}{s:Shared}(hk:Kp w s):Def (GG w s) 220 (ai w.params 220) (ax (stN 18)) ⟨cT,ag (stN 18)⟩ bE :=
 have q:=jl w.params
 ⟨⟨_,hk _ _ (jz _),rfl⟩,(nl rfl),aB hk,(nl rfl),⟨219,_,_,_,jv _,(nl rfl),hk _ _ (iF _),rfl,iH _⟩,q.1,iY _,q.2.1,q.2.2.1,q.2.2.2.1,q.2.2.2.2.1,q.2.2.2.2.2,jF _,jB⟩
theorem sn(P:Params):(Hh P).get? 225=some ⟨.type "function",none,.func (ai P 225),#[]⟩:=by rfl'
theorem r4(P:Params):(ai P 225).code=.ref 224:=by rfl'
theorem o7(P:Params):(Hh P).get? 224=some ⟨.type "code",none,.fields (bC P 224),#[]⟩:=by rfl'
theorem ph(P:Params):(bC P 224)[1]?=some (.str (ai P 225).qualname (gC ((bC P 224)[1]?))):=by rfl'
theorem rE(P:Params):(ai P 225).body=.stmts (ax (stN 19))/\(ai P 225).scope=ag (stN 19)/\(ai P 225).globals=mainGlobals/\(ai P 225).builtins=builtinsNs/\(ai P 225).scope.isCoroutine=false/\(ai P 225).scope.isGenerator=false:=⟨by rfl',by rfl',by rfl',by rfl',by rfl',by rfl'⟩
theorem pR(P:Params)(a:Value):bindArgs (ai P 225) ⟨[a],[]⟩=pure (dz.zip [a]):=by rfl'
theorem sL(P:Params)(cvs:List Value)(h:cvs.length=dz.length):bindArgs (ai P 225) ⟨cvs,[]⟩=pure (dz.zip cvs):=by
 exact l1_ (P:=fun l=>bindArgs _ ⟨l,[]⟩=pure (_root_.List.zip _ l)) (pR P) cvs h
theorem pJ(P:Params):(ai P 225).closure=[]:=by rfl'
theorem s6{w:World}{s:Shared}(hk:Kp w s):Def (GG w s) 225 (ai w.params 225) (ax (stN 19)) ⟨gk,ag (stN 19)⟩ dz :=
 have q:=rE w.params
 ⟨⟨_,hk _ _ (sn _),rfl⟩,(nl rfl),aB hk,(nl rfl),⟨224,_,_,_,r4 _,(nl rfl),hk _ _ (o7 _),rfl,ph _⟩,q.1,pJ _,q.2.1,q.2.2.1,q.2.2.2.1,q.2.2.2.2.1,q.2.2.2.2.2,sL _,sy⟩
theorem nh(P:Params):(Hh P).get? 230=some ⟨.type "function",none,.func (ai P 230),#[]⟩:=by rfl'
theorem m7(P:Params):(ai P 230).code=.ref 229:=by rfl'
theorem li(P:Params):(Hh P).get? 229=some ⟨.type "code",none,.fields (bC P 229),#[]⟩:=by rfl'
theorem ln(P:Params):(bC P 229)[1]?=some (.str (ai P 230).qualname (gC ((bC P 229)[1]?))):=by rfl'
theorem mA(P:Params):(ai P 230).body=.stmts (ax (stN 20))/\(ai P 230).scope=ag (stN 20)/\(ai P 230).globals=mainGlobals/\(ai P 230).builtins=builtinsNs/\(ai P 230).scope.isCoroutine=false/\(ai P 230).scope.isGenerator=false:=⟨by rfl',by rfl',by rfl',by rfl',by rfl',by rfl'⟩
theorem lY(P:Params)(a:Value):bindArgs (ai P 230) ⟨[a],[]⟩=pure (bY.zip [a]):=by rfl'
theorem nL(P:Params)(cvs:List Value)(h:cvs.length=bY.length):bindArgs (ai P 230) ⟨cvs,[]⟩=pure (bY.zip cvs):=by
 exact l1_ (P:=fun l=>bindArgs _ ⟨l,[]⟩=pure (_root_.List.zip _ l)) (lY P) cvs h
theorem lO(P:Params):(ai P 230).closure=[]:=by rfl'
theorem n6{w:World}{s:Shared}(hk:Kp w s):Def (GG w s) 230 (ai w.params 230) (ax (stN 20)) ⟨eq,ag (stN 20)⟩ bY :=
 have q:=mA w.params
 ⟨⟨_,hk _ _ (nh _),rfl⟩,(nl rfl),aB hk,(nl rfl),⟨229,_,_,_,m7 _,(nl rfl),hk _ _ (li _),rfl,ln _⟩,q.1,lO _,q.2.1,q.2.2.1,q.2.2.2.1,q.2.2.2.2.1,q.2.2.2.2.2,nL _,nw⟩
theorem gW1(P:Params):(Hh P).get? 235=some ⟨.type "function",none,.func (ai P 235),#[]⟩:=by rfl'
theorem gH1(P:Params):(ai P 235).code=.ref 234:=by rfl'
theorem dZ1(P:Params):(Hh P).get? 234=some ⟨.type "code",none,.fields (bC P 234),#[]⟩:=by rfl'
theorem d41(P:Params):(bC P 234)[1]?=some (.str (ai P 235).qualname (gC ((bC P 234)[1]?))):=by rfl'
theorem gf1(P:Params):(ai P 235).body=.stmts (ax (stN 21))/\(ai P 235).scope=ag (stN 21)/\(ai P 235).globals=mainGlobals/\(ai P 235).builtins=builtinsNs/\(ai P 235).scope.isCoroutine=false/\(ai P 235).scope.isGenerator=false:=⟨by rfl',by rfl',by rfl',by rfl',by rfl',by rfl'⟩
theorem eT1(P:Params)(a:Value):bindArgs (ai P 235) ⟨[a],[]⟩=pure (wc.zip [a]):=by rfl'
theorem hu1(P:Params)(cvs:List Value)(h:cvs.length=wc.length):bindArgs (ai P 235) ⟨cvs,[]⟩=pure (wc.zip cvs):=by
 exact l1_ (P:=fun l=>bindArgs _ ⟨l,[]⟩=pure (_root_.List.zip _ l)) (eT1 P) cvs h
theorem eI1(P:Params):(ai P 235).closure=[]:=by rfl'
theorem hG1{w:World}{s:Shared}(hk:Kp w s):Def (GG w s) 235 (ai w.params 235) (ax (stN 21)) ⟨bP1,ag (stN 21)⟩ wc :=
 have q:=gf1 w.params
 ⟨⟨_,hk _ _ (gW1 _),rfl⟩,(nl rfl),aB hk,(nl rfl),⟨234,_,_,_,gH1 _,(nl rfl),hk _ _ (dZ1 _),rfl,d41 _⟩,q.1,eI1 _,q.2.1,q.2.2.1,q.2.2.2.1,q.2.2.2.2.1,q.2.2.2.2.2,hu1 _,g91⟩
noncomputable def bmD(P:Params):Array (Option Value):=match (Hh P).get? 4 with | some o=>o.slots | _=>#[]
theorem bD1(P:Params):(Hh P).nsMap mainGlobals "__builtins__"=some (.ref 4):=by rfl'
theorem eM1(P:Params):(Hh P).get? 4=some ⟨.type "module",some builtinsNs,.plain,bmD P⟩:=by rfl'
theorem hm1{w:World}{s:Shared}(hk:Kp w s):∃ mg bm ob,BMod (GG w s).s₀.heap mainGlobals mg bm ob/\bm ∉ (GG w s).loose/\mainGlobals ∉ (GG w s).loose :=
 ⟨_,4,_,⟨(Heap.Ns.of_isNs (c6 w.params)).keeps hk,bD1 _,by decide,hk _ _ (eM1 _),rfl,rfl,rfl⟩,nl rfl,nl rfl⟩
noncomputable def km:List Var:=[⟨"self",0,true⟩,⟨"initial_size",1,true⟩]
noncomputable def kn:List Str:=["self","initial_size"]
theorem ez1:cQ ⟨km,ag (mtS 0)⟩ kn=true:=by rfl'
theorem eu1(P:Params):(Hh P).get? 38=some ⟨.type "function",none,.func (ai P 38),#[]⟩:=by rfl'
theorem d11(P:Params):(ai P 38).code=.ref 37:=by rfl'
theorem aV1(P:Params):(Hh P).get? 37=some ⟨.type "code",none,.fields (bC P 37),#[]⟩:=by rfl'
theorem a11(P:Params):(bC P 37)[1]?=some (.str (ai P 38).qualname (gC ((bC P 37)[1]?))):=by rfl'
theorem aY1(P:Params):(bC P 37)[2]?=some (.str fq (gC ((bC P 37)[2]?))):=by rfl'
theorem c01(P:Params):(ai P 38).body=.stmts (ax (mtS 0))/\(ai P 38).scope=ag (mtS 0)/\(ai P 38).globals=mainGlobals/\(ai P 38).builtins=builtinsNs/\(ai P 38).scope.isCoroutine=false/\(ai P 38).scope.isGenerator=false:=⟨by rfl',by rfl',by rfl',by rfl',by rfl',by rfl'⟩
noncomputable def d6(P:Params):Addr:=match (ai P 38).defaults with | .ref a=>a | _=>0
noncomputable def an1(P:Params):Array Value:=match (Hh P).get? (d6 P) with | some ⟨_,_,.seq xs _,_⟩=>xs | _=>#[]
noncomputable def am1(P:Params):Nat:=match (Hh P).get? (d6 P) with | some ⟨_,_,.seq _ n,_⟩=>n | _=>0
noncomputable def ab1(P:Params):Tok:=gC (an1 P)[0]?
noncomputable def kX(P:Params):Obj:=⟨.type "tuple",none,.seq #[.int 0 (ab1 P)] (am1 P),#[]⟩
theorem ag1(P:Params):d6 P ∉ ([63]:List Addr):=(show d6 P=30 by rfl')▸nl rfl
theorem ah1(P:Params):(Hh P).get? (d6 P)=some (kX P):=by rfl'
theorem dX1(P:Params)(args:List Value):qO (bindArgs (ai P 38) ⟨args,[]⟩)=some (d6 P):=by rfl'
theorem aS1(P:Params)(a b:Value):cH1 (bindArgs (ai P 38) ⟨[a,b],[]⟩) (kX P)=pure (kn.zip [a,b]):=by rfl'
theorem eQ1{w:World}{s₀:Shared}(hk:Kp w s₀)(s:Shared)(cvs:List Value)(h:∀ b o,b ∉ (GG w s₀).loose->(GG w s₀).s₀.heap.get? b=some o->s.heap.get? b=some o)(hl:cvs.length=2):BindsTo s (ai w.params 38) ⟨cvs,[]⟩ (kn.zip cvs):=by
 have h1:=dX1 w.params
 have h2:=aS1 w.params
 have h3:s.heap.get? (d6 w.params)=some (kX w.params):=h _ _ (ag1 w.params) (hk _ _ (ah1 w.params))
 generalize ai w.params 38=fd at h1 h2 ⊢
 generalize d6 w.params=T at h1 h3
 generalize kX w.params=o at h2 h3
 exact l2_ (P:=fun cvs=>BindsTo s fd ⟨cvs,[]⟩ (kn.zip cvs)) (fun a b=>lV (h1 [a,b]) h3 (h2 a b)) cvs hl
theorem bo1(P:Params):iz (ai P 38).scope=true/\jb (ai P 38).scope kn=true:=⟨by rfl',by rfl'⟩
theorem fg1{w:World}{s:Shared}(hk:Kp w s):DefM (GG w s) 38 (ai w.params 38) (ax (mtS 0)) ⟨km,ag (mtS 0)⟩ kn :=
 have q:=c01 w.params
 have z:=bo1 w.params
 ⟨⟨_,hk _ _ (eu1 _),rfl,rfl⟩,(nl rfl),aB hk,(nl rfl),⟨37,_,_,_,fq,_,d11 _,(nl rfl),hk _ _ (aV1 _),rfl,a11 _,aY1 _,fX⟩,q.1,q.2.1,q.2.2.1,q.2.2.2.1,q.2.2.2.2.1,q.2.2.2.2.2,
  eA z.1,eE z.2,ez1⟩
theorem bw1(P:Params):(ai P 38).closure.lookup ("__class__":Str)=some 25:=by rfl'
theorem aj1(P:Params):(((ai P 38).params.posonlyargs++(ai P 38).params.args).head?.map (·.arg))=some ("self":Str):=by rfl'
theorem u4:(⟨km,ag (mtS 0)⟩:Cx).kind "super"=some .globalImplicit/\(⟨km,ag (mtS 0)⟩:Cx).kind "__class__"=some .free:=⟨by rfl',by rfl'⟩
theorem e51{w:World}{s:Shared}(hk:Kp w s):SupD (GG w s) (ai w.params 38) ⟨km,ag (mtS 0)⟩ ⟨"self",0,true⟩ :=
 ⟨List.mem_cons_self,(Option.map_eq_some_iff.mp (aj1 w.params)),⟨25,bw1 _,(nl rfl),⟨_,hk _ _ (pL _),rfl⟩⟩,u4.1,u4.2⟩
noncomputable def rj:List Var:=[⟨"self",0,true⟩,⟨"fws",1,true⟩,⟨"string",2,true⟩]
noncomputable def jg:List Str:=["self","fws","string"]
theorem ew1:cQ ⟨rj,ag (mtS 1)⟩ jg=true:=by rfl'
theorem es1(P:Params):(Hh P).get? 45=some ⟨.type "function",none,.func (ai P 45),#[]⟩:=by rfl'
theorem d01(P:Params):(ai P 45).code=.ref 44:=by rfl'
theorem aU1(P:Params):(Hh P).get? 44=some ⟨.type "code",none,.fields (bC P 44),#[]⟩:=by rfl'
theorem aZ1(P:Params):(bC P 44)[1]?=some (.str (ai P 45).qualname (gC ((bC P 44)[1]?))):=by rfl'
theorem aW1(P:Params):(bC P 44)[2]?=some (.str fq (gC ((bC P 44)[2]?))):=by rfl'
theorem cY1(P:Params):(ai P 45).body=.stmts (ax (mtS 1))/\(ai P 45).scope=ag (mtS 1)/\(ai P 45).globals=mainGlobals/\(ai P 45).builtins=builtinsNs/\(ai P 45).scope.isCoroutine=false/\(ai P 45).scope.isGenerator=false:=⟨by rfl',by rfl',by rfl',by rfl',by rfl',by rfl'⟩
theorem bF1(P:Params)(a b c:Value):bindArgs (ai P 45) ⟨[a,b,c],[]⟩=pure (jg.zip [a,b,c]):=by rfl'
theorem eN1(P:Params)(cvs:List Value)(h:cvs.length=jg.length):bindArgs (ai P 45) ⟨cvs,[]⟩=pure (jg.zip cvs):=by
 exact l3_ (P:=fun l=>bindArgs _ ⟨l,[]⟩=pure (_root_.List.zip _ l)) (bF1 P) cvs h
theorem bm1(P:Params):iz (ai P 45).scope=true/\jb (ai P 45).scope jg=true:=⟨by rfl',by rfl'⟩
theorem fe1{w:World}{s:Shared}(hk:Kp w s):DefM (GG w s) 45 (ai w.params 45) (ax (mtS 1)) ⟨rj,ag (mtS 1)⟩ jg :=
 have q:=cY1 w.params
 have z:=bm1 w.params
 ⟨⟨_,hk _ _ (es1 _),rfl,rfl⟩,(nl rfl),aB hk,(nl rfl),⟨44,_,_,_,fq,_,d01 _,(nl rfl),hk _ _ (aU1 _),rfl,aZ1 _,aW1 _,fX⟩,q.1,q.2.1,q.2.2.1,q.2.2.2.1,q.2.2.2.2.1,q.2.2.2.2.2,
  eA z.1,eE z.2,ew1⟩
noncomputable def gi:List Var:=[⟨"self",0,true⟩,⟨"i",1,true⟩,⟨"popped",2,true⟩]
noncomputable def bw:List Str:=["self","i"]
theorem sv:cQ ⟨gi,ag (mtS 2)⟩ bw=true:=by rfl'
theorem sk(P:Params):(Hh P).get? 53=some ⟨.type "function",none,.func (ai P 53),#[]⟩:=by rfl'
theorem rY(P:Params):(ai P 53).code=.ref 52:=by rfl'
theorem oY(P:Params):(Hh P).get? 52=some ⟨.type "code",none,.fields (bC P 52),#[]⟩:=by rfl'
theorem pe(P:Params):(bC P 52)[1]?=some (.str (ai P 53).qualname (gC ((bC P 52)[1]?))):=by rfl'
theorem o9(P:Params):(bC P 52)[2]?=some (.str fq (gC ((bC P 52)[2]?))):=by rfl'
theorem rC(P:Params):(ai P 53).body=.stmts (ax (mtS 2))/\(ai P 53).scope=ag (mtS 2)/\(ai P 53).globals=mainGlobals/\(ai P 53).builtins=builtinsNs/\(ai P 53).scope.isCoroutine=false/\(ai P 53).scope.isGenerator=false:=⟨by rfl',by rfl',by rfl',by rfl',by rfl',by rfl'⟩
noncomputable def aU(P:Params):Addr:=match (ai P 53).defaults with | .ref a=>a | _=>0
noncomputable def oK(P:Params):Array Value:=match (Hh P).get? (aU P) with | some ⟨_,_,.seq xs _,_⟩=>xs | _=>#[]
noncomputable def oJ(P:Params):Nat:=match (Hh P).get? (aU P) with | some ⟨_,_,.seq _ n,_⟩=>n | _=>0
noncomputable def ip(P:Params):Tok:=gC (oK P)[0]?
noncomputable def bF(P:Params):Obj:=⟨.type "tuple",none,.seq #[.int 0 (ip P)] (oJ P),#[]⟩
theorem iv(P:Params):aU P ∉ ([63]:List Addr):=(show aU P=46 by rfl')▸nl rfl
theorem iy(P:Params):(Hh P).get? (aU P)=some (bF P):=by rfl'
theorem j1(P:Params)(args:List Value):qO (bindArgs (ai P 53) ⟨args,[]⟩)=some (aU P):=by rfl'
theorem oV(P:Params)(a b:Value):cH1 (bindArgs (ai P 53) ⟨[a,b],[]⟩) (bF P)=pure (bw.zip [a,b]):=by rfl'
theorem oW(P:Params):∃ t,∀ a:Value,cH1 (bindArgs (ai P 53) ⟨[a],[]⟩) (bF P)=pure (bw.zip ([a]++[.int 0 t])):=⟨ip P,fun a=>by rfl'⟩
theorem sJ{w:World}{s₀:Shared}(hk:Kp w s₀)(s:Shared)(cvs:List Value)(h:∀ b o,b ∉ (GG w s₀).loose->(GG w s₀).s₀.heap.get? b=some o->s.heap.get? b=some o)(hl:cvs.length=2):BindsTo s (ai w.params 53) ⟨cvs,[]⟩ (bw.zip cvs):=by
 have h1:=j1 w.params
 have h2:=oV w.params
 have h3:s.heap.get? (aU w.params)=some (bF w.params):=h _ _ (iv w.params) (hk _ _ (iy w.params))
 generalize ai w.params 53=fd at h1 h2 ⊢
 generalize aU w.params=T at h1 h3
 generalize bF w.params=o at h2 h3
 exact l2_ (P:=fun cvs=>BindsTo s fd ⟨cvs,[]⟩ (bw.zip cvs)) (fun a b=>lV (h1 [a,b]) h3 (h2 a b)) cvs hl
theorem pP{w:World}{s₀:Shared}(hk:Kp w s₀):∃ t,∀ (s:Shared) (cvs:List Value),(∀ b o,b ∉ (GG w s₀).loose->(GG w s₀).s₀.heap.get? b=some o->s.heap.get? b=some o)->cvs.length=1->BindsTo s (ai w.params 53) ⟨cvs,[]⟩ (bw.zip (cvs++[.int 0 t])):=by
 refine a9 (oW w.params) fun t h2'=>?_
 refine⟨t,fun s cvs h hl=>?_⟩
 have h1:=j1 w.params
 have h2:=h2'
 have h3:s.heap.get? (aU w.params)=some (bF w.params):=h _ _ (iv w.params) (hk _ _ (iy w.params))
 generalize ai w.params 53=fd at h1 h2 ⊢
 generalize aU w.params=T at h1 h3
 generalize bF w.params=o at h2 h3
 exact l1_ (P:=fun cvs=>BindsTo s fd ⟨cvs,[]⟩ (bw.zip (cvs++[.int 0 t]))) (fun a=>lV (h1 [a]) h3 (h2 a)) cvs hl
theorem pA(P:Params):iz (ai P 53).scope=true/\jb (ai P 53).scope bw=true:=⟨by rfl',by rfl'⟩
theorem sZ{w:World}{s:Shared}(hk:Kp w s):DefM (GG w s) 53 (ai w.params 53) (ax (mtS 2)) ⟨gi,ag (mtS 2)⟩ bw :=
 have q:=rC w.params
 have z:=pA w.params
 ⟨⟨_,hk _ _ (sk _),rfl,rfl⟩,(nl rfl),aB hk,(nl rfl),⟨52,_,_,_,fq,_,rY _,(nl rfl),hk _ _ (oY _),rfl,pe _,o9 _,fX⟩,q.1,q.2.1,q.2.2.1,q.2.2.2.1,q.2.2.2.2.1,q.2.2.2.2.2,
  eA z.1,eE z.2,sv⟩
noncomputable def p8:List Var:=[⟨"self",0,true⟩]
noncomputable def qa:List Str:=["self"]
theorem g71:cQ ⟨p8,ag (mtS 3)⟩ qa=true:=by rfl'
theorem gV1(P:Params):(Hh P).get? 61=some ⟨.type "function",none,.func (ai P 61),#[]⟩:=by rfl'
theorem gG1(P:Params):(ai P 61).code=.ref 60:=by rfl'
theorem dY1(P:Params):(Hh P).get? 60=some ⟨.type "code",none,.fields (bC P 60),#[]⟩:=by rfl'
theorem d31(P:Params):(bC P 60)[1]?=some (.str (ai P 61).qualname (gC ((bC P 60)[1]?))):=by rfl'
theorem d21(P:Params):(bC P 60)[2]?=some (.str fq (gC ((bC P 60)[2]?))):=by rfl'
theorem gd1(P:Params):(ai P 61).body=.stmts (ax (mtS 3))/\(ai P 61).scope=ag (mtS 3)/\(ai P 61).globals=mainGlobals/\(ai P 61).builtins=builtinsNs/\(ai P 61).scope.isCoroutine=false/\(ai P 61).scope.isGenerator=false:=⟨by rfl',by rfl',by rfl',by rfl',by rfl',by rfl'⟩
theorem eS1(P:Params)(a:Value):bindArgs (ai P 61) ⟨[a],[]⟩=pure (qa.zip [a]):=by rfl'
theorem ht1(P:Params)(cvs:List Value)(h:cvs.length=qa.length):bindArgs (ai P 61) ⟨cvs,[]⟩=pure (qa.zip cvs):=by
 exact l1_ (P:=fun l=>bindArgs _ ⟨l,[]⟩=pure (_root_.List.zip _ l)) (eS1 P) cvs h
theorem eB1(P:Params):iz (ai P 61).scope=true/\jb (ai P 61).scope qa=true:=⟨by rfl',by rfl'⟩
theorem hF1{w:World}{s:Shared}(hk:Kp w s):DefM (GG w s) 61 (ai w.params 61) (ax (mtS 3)) ⟨p8,ag (mtS 3)⟩ qa :=
 have q:=gd1 w.params
 have z:=eB1 w.params
 ⟨⟨_,hk _ _ (gV1 _),rfl,rfl⟩,(nl rfl),aB hk,(nl rfl),⟨60,_,_,_,fq,_,gG1 _,(nl rfl),hk _ _ (dY1 _),rfl,d31 _,d21 _,fX⟩,q.1,q.2.1,q.2.2.1,q.2.2.2.1,q.2.2.2.2.1,q.2.2.2.2.2,
  eA z.1,eE z.2,g71⟩
theorem eH1(P:Params):(ai P 61).closure.lookup ("__class__":Str)=some 25:=by rfl'
theorem dt1(P:Params):(((ai P 61).params.posonlyargs++(ai P 61).params.args).head?.map (·.arg))=some ("self":Str):=by rfl'
theorem y3:(⟨p8,ag (mtS 3)⟩:Cx).kind "super"=some .globalImplicit/\(⟨p8,ag (mtS 3)⟩:Cx).kind "__class__"=some .free:=⟨by rfl',by rfl'⟩
theorem hz1{w:World}{s:Shared}(hk:Kp w s):SupD (GG w s) (ai w.params 61) ⟨p8,ag (mtS 3)⟩ ⟨"self",0,true⟩ :=
 ⟨List.mem_cons_self,(Option.map_eq_some_iff.mp (dt1 w.params)),⟨25,eH1 _,(nl rfl),⟨_,hk _ _ (pL _),rfl⟩⟩,y3.1,y3.2⟩
noncomputable def bI:List Var:=[⟨"self",0,true⟩]
noncomputable def bt:List Str:=["self"]
theorem nv:cQ ⟨bI,ag (mtS 8)⟩ bt=true:=by rfl'
theorem ng(P:Params):(Hh P).get? 98=some ⟨.type "function",none,.func (ai P 98),#[]⟩:=by rfl'
theorem m6(P:Params):(ai P 98).code=.ref 97:=by rfl'
theorem lh(P:Params):(Hh P).get? 97=some ⟨.type "code",none,.fields (bC P 97),#[]⟩:=by rfl'
theorem lm(P:Params):(bC P 97)[1]?=some (.str (ai P 98).qualname (gC ((bC P 97)[1]?))):=by rfl'
theorem ll(P:Params):(bC P 97)[2]?=some (.str fq (gC ((bC P 97)[2]?))):=by rfl'
theorem mz(P:Params):(ai P 98).body=.stmts (ax (mtS 8))/\(ai P 98).scope=ag (mtS 8)/\(ai P 98).globals=mainGlobals/\(ai P 98).builtins=builtinsNs/\(ai P 98).scope.isCoroutine=false/\(ai P 98).scope.isGenerator=false:=⟨by rfl',by rfl',by rfl',by rfl',by rfl',by rfl'⟩
theorem lX(P:Params)(a:Value):bindArgs (ai P 98) ⟨[a],[]⟩=pure (bt.zip [a]):=by rfl'
theorem nK(P:Params)(cvs:List Value)(h:cvs.length=bt.length):bindArgs (ai P 98) ⟨cvs,[]⟩=pure (bt.zip cvs):=by
 exact l1_ (P:=fun l=>bindArgs _ ⟨l,[]⟩=pure (_root_.List.zip _ l)) (lX P) cvs h
theorem lL(P:Params):iz (ai P 98).scope=true/\jb (ai P 98).scope bt=true:=⟨by rfl',by rfl'⟩
theorem nZ{w:World}{s:Shared}(hk:Kp w s):DefM (GG w s) 98 (ai w.params 98) (ax (mtS 8)) ⟨bI,ag (mtS 8)⟩ bt :=
 have q:=mz w.params
 have z:=lL w.params
 ⟨⟨_,hk _ _ (ng _),rfl,rfl⟩,(nl rfl),aB hk,(nl rfl),⟨97,_,_,_,fq,_,m6 _,(nl rfl),hk _ _ (lh _),rfl,lm _,ll _,fX⟩,q.1,q.2.1,q.2.2.1,q.2.2.2.1,q.2.2.2.2.1,q.2.2.2.2.2,
  eA z.1,eE z.2,nv⟩
theorem lN(P:Params):(ai P 98).closure.lookup ("__class__":Str)=some 25:=by rfl'
theorem kW(P:Params):(((ai P 98).params.posonlyargs++(ai P 98).params.args).head?.map (·.arg))=some ("self":Str):=by rfl'
theorem fh:(⟨bI,ag (mtS 8)⟩:Cx).kind "super"=some .globalImplicit/\(⟨bI,ag (mtS 8)⟩:Cx).kind "__class__"=some .free:=⟨by rfl',by rfl'⟩
theorem nW{w:World}{s:Shared}(hk:Kp w s):SupD (GG w s) (ai w.params 98) ⟨bI,ag (mtS 8)⟩ ⟨"self",0,true⟩ :=
 ⟨List.mem_cons_self,(Option.map_eq_some_iff.mp (kW w.params)),⟨25,lN _,(nl rfl),⟨_,hk _ _ (pL _),rfl⟩⟩,fh.1,fh.2⟩
noncomputable def rk:List Var:=[⟨"self",0,true⟩]
noncomputable def jh:List Str:=["self"]
theorem ey1:cQ ⟨rk,ag (mtS 4)⟩ jh=true:=by rfl'
theorem et1(P:Params):(Hh P).get? 68=some ⟨.type "function",none,.func (ai P 68),#[]⟩:=by rfl'
theorem y5(P:Params):(ai P 68).code=.ref 67:=by rfl'
theorem o6(P:Params):(Hh P).get? 67=some ⟨.type "code",none,.fields (bC P 67),#[]⟩:=by rfl'
theorem a01(P:Params):(bC P 67)[1]?=some (.str (ai P 68).qualname (gC ((bC P 67)[1]?))):=by rfl'
theorem aX1(P:Params):(bC P 67)[2]?=some (.str fq (gC ((bC P 67)[2]?))):=by rfl'
theorem cZ1(P:Params):(ai P 68).body=.stmts (ax (mtS 4))/\(ai P 68).scope=ag (mtS 4)/\(ai P 68).globals=mainGlobals/\(ai P 68).builtins=builtinsNs/\(ai P 68).scope.isCoroutine=false/\(ai P 68).scope.isGenerator=false:=⟨by rfl',by rfl',by rfl',by rfl',by rfl',by rfl'⟩
theorem bG1(P:Params)(a:Value):bindArgs (ai P 68) ⟨[a],[]⟩=pure (jh.zip [a]):=by rfl'
theorem eP1(P:Params)(cvs:List Value)(h:cvs.length=jh.length):bindArgs (ai P 68) ⟨cvs,[]⟩=pure (jh.zip cvs):=by
 exact l1_ (P:=fun l=>bindArgs _ ⟨l,[]⟩=pure (_root_.List.zip _ l)) (bG1 P) cvs h
theorem bn1(P:Params):iz (ai P 68).scope=true/\jb (ai P 68).scope jh=true:=⟨by rfl',by rfl'⟩
theorem ff1{w:World}{s:Shared}(hk:Kp w s):DefM (GG w s) 68 (ai w.params 68) (ax (mtS 4)) ⟨rk,ag (mtS 4)⟩ jh :=
 have q:=cZ1 w.params
 have z:=bn1 w.params
 ⟨⟨_,hk _ _ (et1 _),rfl,rfl⟩,(nl rfl),aB hk,(nl rfl),⟨67,_,_,_,fq,_,y5 _,(nl rfl),hk _ _ (o6 _),rfl,a01 _,aX1 _,fX⟩,q.1,q.2.1,q.2.2.1,q.2.2.2.1,q.2.2.2.2.1,q.2.2.2.2.2,
  eA z.1,eE z.2,ey1⟩
theorem u3(P:Params):(bC P 67)[11]?=some (.ref 63)/\(∃ f t,(bC P 67).getD 18 .none=.str f t)/\(bC P 67).getD 7 .none=.int 3 0/\(bC P 67).getD 9 .none=.bool true/\(bC P 67).getD 10 .none=.int 181 0:=⟨by rfl',⟨fq,gC ((bC P 67)[18]?),by rfl'⟩,by rfl',by rfl',by rfl'⟩
theorem bU1{w:World}{s:Shared}(hk:Kp w s):GenC (GG w s) (ai w.params 68):=by
 have q:=u3 w.params
 have k:=y5 w.params
 have c:=hk _ _ (o6 w.params)
 generalize ai w.params 68=fd at k ⊢
 generalize bC w.params 67=vs at q c
 exact cH q.2.1 fun f t e=>⟨⟨67,63,_,vs,f,t,3,0,true,181,0,k,nl rfl,List.contains_iff_mem.mp rfl,c,rfl,rfl,q.1,e,q.2.2.1,q.2.2.2.1,q.2.2.2.2⟩,hm1 hk⟩
noncomputable def fw(P:Params):ClassData:=match (Hh P).get? 101 with | some ⟨_,_,.cls c,_⟩=>c | _=>default
noncomputable def sC(P:Params):Array (Option Value):=match (Hh P).get? 101 with | some o=>o.slots | _=>#[]
noncomputable def vV(P:Params):Option Addr:=match (Hh P).get? 101 with | some o=>o.dict | _=>none
theorem pG(P:Params):(Hh P).get? 101=some ⟨.type "type",vV P,.cls (fw P),sC P⟩:=by rfl'
theorem eF1(P:Params):(Hh P).isNs (fw P).ns=true:=by rfl'
noncomputable def mm(P:Params):Str->Option Value:=(Hh P).nsMap (fw P).ns
theorem bv1(P:Params):(fw P).mro=[.ref 101,.type "list",.type "object"]/\(fw P).hasDict=true/\(fw P).abstract=false/\(fw P).hasDel=false/\((sC P).toList[4]?).join=some (.builtin "list.__new__")/\(fw P).qualname=("_Accumulator":Str):=⟨by rfl',by rfl',by rfl',by rfl',by rfl',by rfl'⟩
theorem eR(P:Params):mm P "__setattr__"=none/\mm P "_initial_size"=none/\mm P "__getattribute__"=none/\mm P "__getattr__"=none/\mm P "append"=none/\mm P "__getitem__"=none/\mm P "__setitem__"=none:=⟨by rfl',by rfl',by rfl',by rfl',by rfl',by rfl',by rfl'⟩
theorem ua(P:Params):(Hh P).nsMap mainGlobals "super"=none/\(Hh P).nsMap builtinsNs "super"=some (.type "super"):=⟨by rfl',by rfl'⟩
theorem t9:(prg.main.scope.names.lookup ("super":Str)).isSome=false:=by rfl'
theorem eG1(P:Params):(fw P).ns ∉ ([63]:List Addr):=(show (fw P).ns=100 by rfl')▸nl rfl
theorem eZ1{w:World}{s:Shared}(hk:Kp w s):Acc (GG w s) (mm w.params) :=
 ⟨⟨_,_,hk _ _ (pG _),rfl,(bv1 _).1,eG1 _,(Heap.Ns.of_isNs (eF1 w.params)).keeps hk⟩,(nl rfl)⟩
theorem eX1{w:World}{s:Shared}(hk:Kp w s):∀ o cd,s.heap.get? 101=some o->o.data=.cls cd->cd.qualname=("_Accumulator":Str):=fun o cd h1 h2=>by
 have h3:s.heap.get? 101=some ⟨.type "type",vV w.params,.cls (fw w.params),sC w.params⟩:=hk _ _ (pG w.params)
 have q6:=(bv1 w.params).2.2.2.2.2
 generalize vV w.params=x1 at h3
 generalize sC w.params=x2 at h3
 generalize fw w.params=x3 at h3 q6
 rw[h3] at h1
 cases h1;cases h2
 exact q6
theorem eY1{w:World}{s:Shared}(hk:Kp w s):∃ cd od sl,s.heap.get? 101=some ⟨.type "type",od,.cls cd,sl⟩/\cd.mro=[.ref 101,.type "list",.type "object"]/\cd.hasDict=true/\cd.abstract=false/\cd.hasDel=false/\(sl.toList[4]?).join=some (.builtin "list.__new__"):=by
 have q:=bv1 w.params
 have h3:s.heap.get? 101=some ⟨.type "type",vV w.params,.cls (fw w.params),sC w.params⟩:=hk _ _ (pG w.params)
 generalize vV w.params=x1 at h3
 generalize sC w.params=x2 at h3 q
 generalize fw w.params=x3 at h3 q
 exact⟨x3,x1,x2,h3,q.1,q.2.1,q.2.2.1,q.2.2.2.1,q.2.2.2.2.1⟩
theorem bN1{w:World}{s:Shared}(hk:Kp w s):AccX (GG w s) (mm w.params) :=
 ⟨eZ1 hk,eY1 hk,(eR w.params).1,(eR w.params).2.1,eX1 hk⟩
theorem cv1{w:World}{s:Shared}(hk:Kp w s):Sup (GG w s):=⟨y7 hk (ua w.params).1 (ua w.params).2,ou hk,(nl rfl),t9⟩
theorem aH1(P:Params):mm P "__init__"=some (.ref 38):=by rfl'
theorem aE1(P:Params):mm P "push"=some (.ref 45):=by rfl'
theorem oN(P:Params):mm P "pop_from"=some (.ref 53):=by rfl'
theorem dM1(P:Params):mm P "pop"=some (.ref 61):=by rfl'
theorem k8(P:Params):mm P "part_count"=some (.ref 98):=by rfl'
theorem dw1:xN ⟨km,ag (mtS 0)⟩ (ax (mtS 0)):=Exists.intro (fun i=>([⟨9,8,9,12⟩,⟨9,8,9,26⟩,⟨9,29,9,41⟩,⟨9,8,9,41⟩,⟨10,8,10,13⟩,⟨10,8,10,15⟩,⟨10,8,10,24⟩,⟨10,8,10,26⟩,⟨10,8,10,26⟩]:List Pos).getD i default) ⟨by rfl',by rfl'⟩
theorem du1:xe ⟨rj,ag (mtS 1)⟩ (ax (mtS 1)):=Exists.intro (fun i=>([⟨13,8,13,12⟩,⟨13,8,13,19⟩,⟨13,21,13,24⟩,⟨13,26,13,32⟩,⟨13,20,13,33⟩,⟨13,8,13,34⟩,⟨13,8,13,34⟩]:List Pos).getD i default) ⟨by rfl',by rfl'⟩
theorem rI:ez ⟨gi,ag (mtS 2)⟩ (ax (mtS 2)):=Exists.intro (fun i=>([⟨16,8,16,14⟩,⟨16,17,16,21⟩,⟨16,22,16,23⟩,⟨16,22,16,24⟩,⟨16,17,16,25⟩,⟨16,8,16,25⟩,⟨17,8,17,12⟩,⟨17,13,17,14⟩,⟨17,13,17,15⟩,⟨17,8,17,16⟩,⟨17,19,17,21⟩,⟨17,8,17,21⟩,⟨18,15,18,21⟩,⟨18,8,18,21⟩]:List Pos).getD i default) ⟨by rfl',by rfl'⟩
theorem gp1:fn1 ⟨p8,ag (mtS 3)⟩ (ax (mtS 3)):=Exists.intro (fun i=>([⟨21,11,21,15⟩,⟨21,11,21,26⟩,⟨21,11,21,28⟩,⟨21,32,21,33⟩,⟨21,11,21,33⟩,⟨22,20,22,22⟩,⟨22,24,22,26⟩,⟨22,19,22,27⟩,⟨22,12,22,27⟩,⟨21,8,22,27⟩,⟨23,15,23,20⟩,⟨23,15,23,22⟩,⟨23,15,23,26⟩,⟨23,15,23,28⟩,⟨23,8,23,28⟩]:List Pos).getD i default) ⟨by rfl',by rfl'⟩
theorem mP:ig "__len__" (ax (mtS 8)):=Exists.intro (fun i=>([⟨38,15,38,20⟩,⟨38,15,38,22⟩,⟨38,15,38,30⟩,⟨38,15,38,32⟩,⟨38,8,38,32⟩]:List Pos).getD i default) ⟨by rfl',by rfl'⟩
theorem aA1{w:World}{s₀:Shared}(hk:Kp w s₀):∃ a fd body C ns,mm w.params "push"=some (.ref a)/\DefM (GG w s₀) a fd body C ns/\xe C body/\ns.length=3/\∀ cvs:List Value,cvs.length=3->bindArgs fd ⟨cvs,[]⟩=pure (ns.zip cvs) :=
 ⟨45,ai w.params 45,ax (mtS 1),⟨rj,ag (mtS 1)⟩,jg,aE1 w.params,fe1 hk,du1,rfl,eN1 w.params⟩
theorem rO{w:World}{s₀:Shared}(hk:Kp w s₀):∃ a fd body C ns,mm w.params "pop_from"=some (.ref a)/\DefM (GG w s₀) a fd body C ns/\ez C body/\ns.length=2/\(∀ (s:Shared) (cvs:List Value),(∀ b o,b ∉ (GG w s₀).loose->(GG w s₀).s₀.heap.get? b=some o->s.heap.get? b=some o)->cvs.length=2->BindsTo s fd ⟨cvs,[]⟩ (ns.zip cvs)) /\
  ∃ t,∀ (s:Shared) (cvs:List Value),(∀ b o,b ∉ (GG w s₀).loose->(GG w s₀).s₀.heap.get? b=some o->s.heap.get? b=some o)->cvs.length=1->BindsTo s fd ⟨cvs,[]⟩ (ns.zip (cvs++[.int 0 t])) :=
 by
 have h1:=@sJ w s₀ hk
 have h2:=@pP w s₀ hk
 have h3:=@sZ w s₀ hk
 have h4:=oN w.params
 generalize ai w.params 53=fd at h1 h2 h3
 exact⟨_,fd,_,_,_,h4,h3,rI,rfl,h1,h2⟩
theorem aB1{w:World}{s₀:Shared}(hk:Kp w s₀):∃ a fd body C ns x,mm w.params "part_count"=some (.ref a)/\DefM (GG w s₀) a fd body C ns/\SupD (GG w s₀) fd C x/\x.slot=0/\ig "__len__" body/\ns.length=1/\∀ cvs:List Value,cvs.length=1->bindArgs fd ⟨cvs,[]⟩=pure (ns.zip cvs) :=
 ⟨98,ai w.params 98,ax (mtS 8),⟨bI,ag (mtS 8)⟩,bt,⟨"self",0,true⟩,k8 w.params,nZ hk,nW hk,rfl,mP,rfl,nK w.params⟩
theorem dL1{w:World}{s₀:Shared}(hk:Kp w s₀):∃ a fd body C ns x,mm w.params "pop"=some (.ref a)/\DefM (GG w s₀) a fd body C ns/\SupD (GG w s₀) fd C x/\x.slot=0/\fn1 C body/\ns.length=1/\∀ cvs:List Value,cvs.length=1->bindArgs fd ⟨cvs,[]⟩=pure (ns.zip cvs) :=
 ⟨61,ai w.params 61,ax (mtS 3),⟨p8,ag (mtS 3)⟩,qa,⟨"self",0,true⟩,dM1 w.params,hF1 hk,hz1 hk,rfl,gp1,rfl,ht1 w.params⟩
theorem aD1{w:World}{s₀:Shared}(hk:Kp w s₀):∃ a fd body C ns x,mm w.params "__init__"=some (.ref a)/\DefM (GG w s₀) a fd body C ns/\SupD (GG w s₀) fd C x/\x.slot=0/\xN C body/\ns.length=2/\∀ (s:Shared) (cvs:List Value),(∀ b o,b ∉ (GG w s₀).loose->(GG w s₀).s₀.heap.get? b=some o->s.heap.get? b=some o)->cvs.length=2->BindsTo s fd ⟨cvs,[]⟩ (ns.zip cvs) :=
 by
 have h1:=@eQ1 w s₀ hk
 have h3:=@fg1 w s₀ hk
 have h4:=aH1 w.params
 have h5:=@e51 w s₀ hk
 generalize ai w.params 38=fd at h1 h3 h5
 exact⟨_,fd,_,_,_,_,h4,h3,h5,rfl,dw1,rfl,h1⟩
theorem eC{w:World}{s₀:Shared}(hk:Kp w s₀):MethsOk (GG w s₀) (mm w.params) :=
 ⟨bN1 hk,cv1 hk,(eR w.params).2.2.1,(eR w.params).2.2.2.1,(eR w.params).2.2.2.2.1,(eR w.params).2.2.2.2.2.1,(eR w.params).2.2.2.2.2.2,aA1 hk,rO hk,aB1 hk,dL1 hk,aD1 hk⟩
theorem aF1(P:Params):mm P "__len__"=some (.ref 68):=by rfl'
noncomputable def zR:Scope:=⟨.function,[(".0",.local),("fws",.local),("part",.local),("len",.globalImplicit)],true,false,[]⟩
theorem dv1:fx1 ⟨rk,ag (mtS 4)⟩ (ax (mtS 4)):=Exists.intro (fun i=>([⟨26,15,26,18⟩,⟨26,20,26,23⟩,⟨26,24,26,27⟩,⟨26,20,26,28⟩,⟨26,31,26,34⟩,⟨26,35,26,39⟩,⟨26,31,26,40⟩,⟨26,20,26,40⟩,⟨26,45,26,48⟩,⟨26,50,26,54⟩,⟨26,45,26,54⟩,⟨26,58,26,62⟩,⟨26,19,26,63⟩,⟨26,65,26,69⟩,⟨26,65,26,83⟩,⟨26,15,26,84⟩,⟨26,8,26,84⟩]:List Pos).getD i default) (Exists.intro zR ⟨by rfl',by rfl'⟩)
theorem aC1{w:World}{s₀:Shared}(hk:Kp w s₀):∃ a fd body C ns,mm w.params "__len__"=some (.ref a)/\DefM (GG w s₀) a fd body C ns/\GenC (GG w s₀) fd/\fx1 C body/\ns.length=1/\∀ cvs:List Value,cvs.length=1->bindArgs fd ⟨cvs,[]⟩=pure (ns.zip cvs) :=
 ⟨68,ai w.params 68,ax (mtS 4),⟨rk,ag (mtS 4)⟩,jh,aF1 w.params,ff1 hk,bU1 hk,dv1,rfl,eP1 w.params⟩
theorem aG1(P:Params):mm P "__iter__"=none:=by rfl'
noncomputable def gH:Value->Int | .int i _=>i | _=>0
noncomputable def j5:Value->Bool | .int _ _=>true | _=>false
noncomputable def zF:Value->List Nat | .str x _=>x.cps.toList | _=>[]
noncomputable def vf:Value->Bool | .str _ _=>true | _=>false
theorem uW{prog:Program}{w:World}{h:Heap}{a:Addr}{n:Nat}{es:Array DictEntry}(hg:h.get? a=some ⟨.type "dict",none,.dict es n,#[]⟩)(hk:es.toList.all (fun e=>match e.key with | .int i _=>e.hash==hashInt i | _=>false)=true) :
  h.MapOf (intKind prog w) a (findBy Value.isInt es) :=
 by
 refine kD1 _ es n hg ⟨rfl,rfl,rfl⟩ rfl (fun e he=>?_) (fun k=>rfl)
 have:=List.all_eq_true.mp hk e (Array.mem_toList_iff.mpr he)
 split at this
 ·rename_i i t hke
  exact⟨i,by rw[hke];show Value.isInt i (.int i t)=true;simp [Value.isInt],beq_iff_eq.mp this⟩
 ·exact ftr this
theorem gU{v:Value}(h:j5 v=true)(k:Int):Value.isInt k v=decide (gH v=k):=by
 cases v with
 | int i t =>
  show _=decide (i=k)
  simp only[Value.isInt]
  by_cases q:i=k <;> simp [q]
 | _=>exact ftr h
theorem sj(es:Array DictEntry)(l:List (Int×List Nat))(hk:es.toList.all (fun e=>j5 e.key&&vf e.val)=true)(hm:es.toList.map (fun e=>(gH e.key,zF e.val))=l)(k:Int) :
  match l.lookup k with | some x=>∃ t,findBy Value.isInt es k=some (.str ⟨x.toArray⟩ t) | none=>findBy Value.isInt es k=none:=by
 obtain ⟨es⟩:=es
 subst hm
 simp only[findBy,List.find?_toArray]
 replace hk:es.all (fun e=>j5 e.key&&vf e.val)=true:=hk
 show match (es.map (fun e=>(gH e.key,zF e.val))).lookup k with | some x=>∃ t,(es.find? fun e=>Value.isInt k e.key).map (·.val)=some (.str ⟨x.toArray⟩ t) | none=>(es.find? fun e=>Value.isInt k e.key).map (·.val)=none
 induction es with
 | nil=>rfl
 | cons e es ih =>
  rw[List.all_cons,Bool.and_eq_true] at hk
  obtain ⟨h1,h2⟩:=hk
  rw[Bool.and_eq_true] at h1
  rw[List.map_cons,List.lookup_cons,List.find?_cons,gU h1.1]
  by_cases q:gH e.key=k
  ·have q':(k==gH e.key)=true:=by simp [q]
   rw[q']
   simp only[q,decide_true,Option.map_some]
   have:=h1.2
   cases hv:e.val <;> rw[hv] at this <;> first | (exact ftr this;done) | skip
   rename_i x t
   exact⟨t,rfl⟩
  ·have q':(k==gH e.key)=false:=by simp;exact fun h=>q h.symm
   rw[q']
   simp only[q,decide_false]
   exact ih h2
theorem uk{prog:Program}{w:World}{h:Heap}{a:Addr}{n:Nat}{es:Array (Int×Value)}{t:SetTable}(l:List Int)(hg:h.get? a=some ⟨.type "set",none,.set es n t,#[]⟩)(hk:es.toList.all (fun e=>j5 e.2&&(e.1==hashInt (gH e.2))&&e.2.scannable)=true)(hm:es.toList.map (fun e=>gH e.2)=l)
  (hs:es.size<scanBound) (hf:t.fits es.size=true):h.SetOf (intKind prog w) a (fun i=>l.contains i) es.size:=by
 refine ky1 _ es n t hg ⟨rfl,rfl,rfl⟩ rfl (fun e he=>?_) (fun k=>?_) hs hf rfl
 ·have:=List.all_eq_true.mp hk e he
  simp only[Bool.and_eq_true,beq_iff_eq] at this
  obtain ⟨⟨h1,h2⟩,h3⟩:=this
  refine⟨⟨gH e.2,?_,h2⟩,h3⟩
  show Value.isInt _ _=true
  rw[gU h1];simp
 ·subst hm
  rw[List.contains_iff_mem,List.mem_map]
  constructor
  ·rintro ⟨e,he,rfl⟩
   refine⟨e,he,?_⟩
   have:=List.all_eq_true.mp hk e he
   simp only[Bool.and_eq_true] at this
   show Value.isInt _ _=true
   rw[gU this.1.1];simp
  ·rintro ⟨e,he,hi⟩
   have:=List.all_eq_true.mp hk e he
   simp only[Bool.and_eq_true] at this
   have hi':Value.isInt k e.2=true:=hi
   rw[gU this.1.1] at hi'
   exact⟨e,he,by simpa using hi'⟩
noncomputable def b3N:List (Nat×List Nat):=b3.map fun x=>(x.1.toNat,x.2.cps.toList)
noncomputable def b1Z:List Int:=[65024,65025,65026,65027,65028,65029,6150,65030,65031,65032,65033,6155,6156,6157,8203,8204,8205,65034,65035,65036,65037,65038,65039,173,847,8288,65279]
noncomputable def sE(P:Params):Array (Int×Value):=match (Hh P).get? 152 with | some ⟨_,_,.set es _ _,_⟩=>es | _=>#[]
noncomputable def sT(P:Params):SetTable:=match (Hh P).get? 152 with | some ⟨_,_,.set _ _ t,_⟩=>t | _=>default
noncomputable def sN(P:Params):Nat:=match (Hh P).get? 152 with | some ⟨_,_,.set _ n _,_⟩=>n | _=>0
theorem gg1(P:Params):(Hh P).get? 152=some ⟨.type "set",none,.set (sE P) (sN P) (sT P),#[]⟩:=by rfl'
theorem gi1(P:Params):(sE P).toList.all (fun e=>j5 e.2&&(e.1==hashInt (gH e.2))&&e.2.scannable)=true:=by rfl'
theorem cX1(P:Params):(sE P).size=27:=by rfl'
theorem gh1(P:Params):(sT P).fits 27=true:=by rfl'
theorem ge1(P:Params):(sE P).toList.map (fun e=>gH e.2)=b1Z:=by rfl'
noncomputable def dE(P:Params):Array DictEntry:=match (Hh P).get? 163 with | some ⟨_,_,.dict es _,_⟩=>es | _=>#[]
noncomputable def dNx(P:Params):Nat:=match (Hh P).get? 163 with | some ⟨_,_,.dict _ n,_⟩=>n | _=>0
theorem hb1(P:Params):(Hh P).get? 163=some ⟨.type "dict",none,.dict (dE P) (dNx P),#[]⟩:=by rfl'
theorem hf1(P:Params):(dE P).toList.all (fun e=>match e.key with | .int i _=>e.hash==hashInt i | _=>false)=true:=by rfl'
theorem eA1(P:Params):(dE P).toList.all (fun e=>j5 e.key&&vf e.val)=true:=by rfl'
theorem g81(P:Params):(dE P).toList.map (fun e=>(gH e.key,zF e.val))=b3N.map (fun x=>((x.1:Int),x.2)):=by rfl'
set_option maxHeartbeats 100000
noncomputable def gB3(c:Nat):Option (List Nat):=b3N.lookup c
noncomputable def sB1(i:Int):Bool:=b1Z.contains i
noncomputable def hR1:List (Option En):=[some (.prim dz1),some gO,some sX,some (.prim (pB1 sB1)),some (.prim (pB3 gB3)),some qc,some jH,some sY,some nY,some (.prim fp1),none,some (.prim uI),some (.prim fc),some (.prim gq1),some (.prim uJ)]
noncomputable def wG:Nat->Option En:=fun f=>hR1.getD f none
theorem iC(c:Nat):∀ l:List (Nat×List Nat),(l.map (fun x=>((x.1:Int),x.2))).lookup (c:Int)=l.lookup c
 | []=>rfl
 | (k,v)::l=>by
  rw[List.map_cons,List.lookup_cons,List.lookup_cons,iC c l]
  by_cases h:c=k
  ·subst h;simp
  ·have h1:((c:Int)==(k:Int))=false:=by simp;lia
   have h2:(c==k)=false:=by simp;exact h
   rw[h1,h2]
theorem v0:b3N.all (fun x=>decide (x.2.length<=lim))=true:=by decide +kernel
theorem jZ{c:Nat}{v:List Nat}:∀ {l:List (Nat×List Nat)},l.lookup c=some v->(c,v)∈l
 | [],h=>by exact nso h
 | (k,u)::l,h=>by
  rw[List.lookup_cons] at h
  by_cases q:c=k
  ·subst q;simp at h;subst h;exact List.mem_cons_self
  ·have:(c==k)=false:=by simp;exact q
   rw[this] at h
   exact List.mem_cons_of_mem _ (jZ h)
theorem el1(P:Params)(c:Nat):match gB3 c with | some l=>l.length<=lim/\∃ t,findBy Value.isInt (dE P) c=some (.str ⟨l.toArray⟩ t) | none=>findBy Value.isInt (dE P) c=none:=by
 have h:=sj (dE P) _ (eA1 P) (g81 P) c
 rw[iC c b3N] at h
 unfold gB3
 cases q:b3N.lookup c with
 | none=>rw[q] at h;exact h
 | some l =>
  rw[q] at h
  exact⟨of_decide_eq_true (List.all_eq_true.mp v0 _ (jZ q)),h⟩
noncomputable def glN:List (Str×Value):=[("_Accumulator",.ref 101),("_ellipsis_match",.ref 112),("parse257",.ref 144),("in_table_b1",.ref 162),("map_table_b3",.ref 208),("_law_typed",.ref 215),("_law_prepared",.ref 220),("_law_dips",.ref 225),("_law_chosen",.ref 230),("b1_set",.ref 152),("b3_exceptions",.ref 163)]
theorem ek1(P:Params):(glN.map fun x=>(Hh P).nsMap mainGlobals x.1)=glN.map fun x=>some x.2:=by rfl'
theorem oQ(F:Str->Option Value)(g:Str×Value->Option Value):∀ (l:List (Str×Value)),l.map (fun x=>F x.1)=l.map g->∀ x∈l,F x.1=g x:=fun l h=>by
 rw[List.map_inj_left] at h
 exact h
theorem iP{w:World}{s:Shared}(hk:Kp w s)(i:Nat){x:Str}{f:Value}(h:glN[i]?=some (x,f)):Gl (GG w s) x f :=
 ej1 (w:=w) (s:=s) hk (oQ ((Hh w.params).nsMap mainGlobals) (fun x=>some x.2) glN (ek1 w.params) (x,f) (List.mem_of_getElem? h))
noncomputable def glB:List (Str×Value):=[("len",.builtin "len"),("chr",.builtin "chr"),("ord",.builtin "ord"),("abs",.builtin "abs"),("sum",.builtin "sum"),("max",.builtin "max"),("min",.builtin "min"),("range",.type "range"),("list",.type "list")]
theorem a81(P:Params):(glB.map fun x=>(Hh P).nsMap mainGlobals x.1)=glB.map fun x=>none:=by rfl'
theorem xV(P:Params):(glB.map fun x=>(Hh P).nsMap builtinsNs x.1)=glB.map fun x=>some x.2:=by rfl'
theorem iQ{w:World}{s:Shared}(hk:Kp w s)(i:Nat){x:Str}{f:Value}(h:glB[i]?=some (x,f)):Gl (GG w s) x f :=
 y7 (w:=w) (s:=s) hk (oQ ((Hh w.params).nsMap mainGlobals) (fun x=>none) glB (a81 w.params) (x,f) (List.mem_of_getElem? h)) (oQ ((Hh w.params).nsMap builtinsNs) (fun x=>some x.2) glB (xV w.params) (x,f) (List.mem_of_getElem? h))
noncomputable def kO1(P:Params):Tok:=gC ((Hh P).nsMap mainGlobals "ELLIPSIS_MARKER")
theorem g01(P:Params):∃ t,(Hh P).nsMap mainGlobals "ELLIPSIS_MARKER"=some (.str ⟨[46,46,46].toArray⟩ t):=⟨kO1 P,by rfl'⟩
theorem i51:b1M ⟨dT,ag (stN 13)⟩ (ax (stN 13)):=Exists.intro (fun i=>([⟨94,11,94,14⟩,⟨94,15,94,19⟩,⟨94,11,94,20⟩,⟨94,24,94,30⟩,⟨94,11,94,30⟩,⟨94,4,94,30⟩]:List Pos).getD i default) ⟨by rfl',by rfl'⟩
theorem i41:b3M ⟨cS,ag (stN 15)⟩ (ax (stN 15)):=Exists.intro (fun i=>([⟨97,4,97,5⟩,⟨97,8,97,21⟩,⟨97,8,97,25⟩,⟨97,26,97,29⟩,⟨97,30,97,34⟩,⟨97,26,97,35⟩,⟨97,8,97,36⟩,⟨97,4,97,36⟩,⟨98,7,98,8⟩,⟨98,16,98,20⟩,⟨98,7,98,20⟩,⟨99,15,99,16⟩,⟨99,8,99,16⟩,⟨98,4,99,16⟩,⟨100,11,100,15⟩,⟨100,11,100,21⟩,⟨100,11,100,23⟩,⟨100,4,100,23⟩]:List Pos).getD i default) ⟨by rfl',by rfl'⟩
theorem cs1:((163:Addr)==sysModules)=false:=by rfl'
theorem j7{prog:Program}{w:World}(i:Int)(t:Tok):(intKind prog w).is i (.int i t)=true:=by show Value.isInt i (.int i t)=true;simp [Value.isInt]
theorem cF1{w:World}{s:Shared}(hk:Kp w s):(GG w s).s₀.heap.SetOf (intKind prg w) 152 sB1 27:=by
 have h1:=gg1 w.params
 have h2:=gi1 w.params
 have h3:=cX1 w.params
 have h4:=gh1 w.params
 have h5:=ge1 w.params
 have h6:s.heap.get? 152=some ⟨.type "set",none,.set (sE w.params) (sN w.params) (sT w.params),#[]⟩:=hk _ _ h1
 generalize sE w.params=es at h2 h3 h5 h6
 generalize sT w.params=t at h4 h6
 generalize sN w.params=n at h6
 have:=uk (prog:=prg) (w:=w) b1Z h6 h2 h5 (by rw[h3];decide) (by rw[h3];exact h4)
 rw[h3] at this
 exact this
theorem vH{w:World}{s:Shared}(hk:Kp w s):(∀ s':Shared,(∀ o,(GG w s).s₀.heap.get? 163=some o->s'.heap.get? 163=some o)->s'.heap.MapOf (intKind prg w) 163 (findBy Value.isInt (dE w.params)))/\∃ o,(GG w s).s₀.heap.get? 163=some o/\o.cls=.type "dict"/\o.dict=none:=by
 have h1:=hb1 w.params
 have h2:=hf1 w.params
 have h6:s.heap.get? 163=some ⟨.type "dict",none,.dict (dE w.params) (dNx w.params),#[]⟩:=hk _ _ h1
 generalize dE w.params=es at h2 h6
 generalize dNx w.params=n at h6
 exact⟨fun s' h=>uW (h _ h6) h2,_,h6,rfl,rfl⟩
set_option maxHeartbeats 200000
theorem a71{w:World}{s:Shared}(hk:Kp w s){x:Str}{l:List Nat}(h:TB2.gs x=some l):l.length<=lim/\∃ t,Gl (GG w s) x (.str ⟨l.toArray⟩ t):=by
 unfold TB2 at h
 dsimp only at h
 split at h
 ·rename_i e
  subst e
  obtain rfl:=siX h
  obtain ⟨t,ht⟩:=g01 w.params
  exact⟨show 3<=lim by decide,t,ej1 (w:=w) (s:=s) hk ht⟩
 ·exact nso h
theorem f4{w:World}{s:Shared}{x:Str}{a:Addr}{fd:FuncData}{b:List Stmt}{C:Cx}{ns:List Str}{np more:Nat}{body:Sx}(g:Gl (GG w s) x (.ref a))(D:Def (GG w s) a fd b C ns)(hn:ns.length=np)(hm:mss TB2 body C b=true):fc1 (GG w s) TB2 x (.code np more body) :=
 ⟨a,fd,b,C,ns,g,D,hn,hm⟩
theorem gZ1{w:World}{s:Shared}(hk:Kp w s):fc1 (GG w s) TB2 "in_table_b1" (.prim (pB1 sB1)):=fun n A hr =>
 zU (G:=GG w s) (iP (w:=w) (s:=s) hk 3 rfl) j7 (@l8 w s hk) i51 hr (iQ (w:=w) (s:=s) hk 2 rfl) (iP (w:=w) (s:=s) hk 9 rfl) (cF1 (w:=w) (s:=s) hk) (nl rfl)
theorem gY1{w:World}{s:Shared}(hk:Kp w s):fc1 (GG w s) TB2 "map_table_b3" (.prim (pB3 gB3)):=fun n A hr =>
 zT (G:=GG w s) (iP (w:=w) (s:=s) hk 4 rfl) rfl j7 (@jI w s hk) i41 hr (iQ (w:=w) (s:=s) hk 2 rfl) (iP (w:=w) (s:=s) hk 10 rfl) cs1 (vH (w:=w) (s:=s) hk).2 (vH (w:=w) (s:=s) hk).1 (nl rfl) (el1 w.params)
noncomputable def AllP(P:Str->En->Prop):List Str->List (Option En)->Prop
 | [],_=>True
 | _,[]=>True
 | _::ns,none::es=>AllP P ns es
 | n::ns,some e::es=>P n e/\AllP P ns es
theorem AllP.at{P:Str->En->Prop}:∀ {ns:List Str} {es:List (Option En)},AllP P ns es->∀ f x,ns[f]?=some x->∀ e,es.getD f none=some e->P x e
 | [],_,_,_,_,h,_,_=>nso h
 | _::_,[],_,_,_,_,_,h=>nso h
 | _::_,none::_,_,0,_,_,_,h=>nso h
 | _::_,some _::_,h,0,_,h1,_,h2=>siX h1▸siX h2▸h.1
 | _::ns,none::es,h,f+1,x,h1,e,h2=>AllP.at (ns:=ns) (es:=es) h f x h1 e h2
 | _::ns,some _::es,h,f+1,x,h1,e,h2=>AllP.at (ns:=ns) (es:=es) h.2 f x h1 e h2
theorem qY{P:En->Prop}{a:En}(h:P a)(e:En)(he:some a=some e):P e:=siX he▸h
theorem gw1{P:Nat->Str->Prop}(h11:P 11 "push")(h12:P 12 "pop_from")(h13:P 13 "pop")(h14:P 14 "part_count")(f:Nat)(n:Str)(h:TB2.meth f=some n):P f n:=by
 have h':(if f=11 then some ("push":Str) else if f=12 then some "pop_from" else if f=13 then some "pop" else if f=14 then some "part_count" else none)=some n:=h
 by_cases q:f=11
 ·rw[if_pos q] at h';exact q▸siX h'▸h11
 rw[if_neg q] at h'
 by_cases q:f=12
 ·rw[if_pos q] at h';exact q▸siX h'▸h12
 rw[if_neg q] at h'
 by_cases q:f=13
 ·rw[if_pos q] at h';exact q▸siX h'▸h13
 rw[if_neg q] at h'
 by_cases q:f=14
 ·rw[if_pos q] at h';exact q▸siX h'▸h14
 rw[if_neg q] at h'
 exact nso h'
noncomputable def Bf.ix:Bf->Nat
 | .len=>0 | .chr=>1 | .ord=>2 | .abs=>3 | .sum=>4 | .max=>5 | .min=>6
theorem hp1(f:Bf):glB[f.ix]?=some (Str.ofString f.id,.builtin f.id):=by cases f <;> rfl
theorem dV1{w:World}{s:Shared}(hk:Kp w s):LenOk (GG w s) (mm w.params):=⟨aG1 _,iQ (w:=w) (s:=s) hk 0 rfl,iQ (w:=w) (s:=s) hk 4 rfl,aC1 hk⟩
theorem wF{w:World}{s:Shared}(hk:Kp w s):AllP (fc1 (GG w s) TB2) ["_Accumulator","_ellipsis_match","parse257","in_table_b1","map_table_b3","_law_typed","_law_prepared","_law_dips","_law_chosen","len","law"] hR1 :=
 ⟨fun n A hr=>w6 (G:=GG w s) (@eC w s hk) (iP (w:=w) (s:=s) hk 0 rfl) hr,
  f4 (iP (w:=w) (s:=s) hk 1 rfl) (@gP w s hk) rfl gE,
  f4 (iP (w:=w) (s:=s) hk 2 rfl) (@s5 w s hk) rfl rR,
  gZ1 hk,
  gY1 hk,
  f4 (iP (w:=w) (s:=s) hk 5 rfl) (@qd w s hk) rfl oR,
  f4 (iP (w:=w) (s:=s) hk 6 rfl) (@jJ w s hk) rfl jo,
  f4 (iP (w:=w) (s:=s) hk 7 rfl) (@s6 w s hk) rfl rS,
  f4 (iP (w:=w) (s:=s) hk 8 rfl) (@n6 w s hk) rfl mT,
  fun n A hr=>w5 (G:=GG w s) (@eC w s hk) (@dV1 w s hk) hr,trivial⟩
theorem cr1{w:World}{s:Shared}(hk:Kp w s):TabOk (GG w s) TB2 wG :=
 ⟨fun f=>iQ (w:=w) (s:=s) hk f.ix (hp1 f),iQ (w:=w) (s:=s) hk 7 rfl,iQ (w:=w) (s:=s) hk 8 rfl,fun x l h=>a71 hk h,(wF hk).at,
  gw1 (P:=fun f n=>∀ e,wG f=some e->iD1 (GG w s) n e) (qY fun m A hr=>ur (G:=GG w s) (@eC w s hk) hr) (qY fun m A hr=>mB (G:=GG w s) (@eC w s hk) hr) (qY fun m A hr=>w4 (G:=GG w s) (@eC w s hk) hr) (qY fun m A hr=>ut (G:=GG w s) (@eC w s hk) hr)⟩
noncomputable def e81:Prop:=∀ ns:List Int,ns.length<=63->∃ σ',n9 (lev wG 5) 1 29 yv [.raw (ns.map .int)] []=some (.bool true,σ')
theorem xL{h:Heap}{ρ:Rho}:∀ {vs:List Value} {ns:List Int},Ints vs ns->RVs h ρ (ns.map .int) vs
 | _,_,h=>by induction h with | nil=>exact RVs.nil | cons hI ih=>exact RVs.cons ⟨_,rfl⟩ ih
theorem oC:Room callerA 10:=⟨rfl,by decide +kernel,by decide +kernel⟩
theorem t8(P:Params):(Hh P).get? 63=some ⟨.none,none,.fields #[],#[]⟩:=by rfl'
theorem wE{w:World}{s:Shared}(hk:Kp w s):isCodeTable s.heap 63:=by
 have q:=(u3 w.params).1
 have c:=hk _ _ (o6 w.params)
 generalize bC w.params 67=vs at q c
 exact gz1 67 _ vs c rfl rfl q
theorem ar1{w:World}{s s':Shared}{ρ':Rho}{σ':List AO}(hk:Kp w s)(S:Step (GG w s) ⟨[],[]⟩ s ρ' s' σ'):OldK s.heap s'.heap:=by
 have key:∀ b o,s.heap.get? b=some o->asItWas s.heap s'.heap b o:=fun b o e=>by
  by_cases hb:b∈(GG w s).loose
  ·refine aI (S.rel.lse b hb) fun vs e1 hg=>au1 hg.2 fun us more e2 e3=>?_
   have e4:o=⟨.none,none,.fields us,#[]⟩:=siX (e.symm.trans e2)
   subst e4
   exact .inr (.inl ⟨List.mem_singleton.mp hb▸wE hk,rfl,us,more,rfl,e3▸e1⟩)
  ·exact .inl (S.keep b o e (fun p hp=>nomatch hp) (fun h=>nomatch h) hb)
 refine⟨key,fun b o e=>?_⟩
 rcases key b o e with h | ⟨_,_,vs,more,_,h⟩ | ⟨_,_,⟨o',es,n,h,_⟩,_⟩
 ·exact⟨_,h⟩
 ·exact⟨_,h⟩
 ·exact⟨_,h⟩
theorem fW1(P:e81):hx1 prg Hh 235:=by
 intro w am l o vs n ns hk hg ht ho hc hd hI hlen hlay hl
 refine a9 (P ns hlen) fun σ' hrun=>?_
 have R:Rel (GG w am) [] ⟨[],[]⟩ am:=by
  exact { len:=rfl,inj:=(fun i j p q h=>by simp at h),obj:=(fun k p o h=>by simp at h),fresh:=(fun p hp=>by cases hp),keep:=(fun b o _ e=>e),lse:=(fun b hb=>List.mem_singleton.mp hb▸⟨#[],hk _ _ (t8 _),trivial,#[],#[],hk _ _ (t8 _),rfl⟩),same:=⟨am.heap,am.toks,am.gens,rfl⟩,bare:=AllBare.of_eq hg,hidden:=(fun b hb=>by cases hb) }
 have hOn:=jT (G:=GG w am) (A:=callerA) (n:=9) (@hG1 w am hk) rfl gx1 oC (fun A' hA=>dT1 (@cr1 w am hk) 5 A' hA) hrun
 have r:RVs am.heap ⟨[],[]⟩ [.raw (ns.map .int)] [.ref l]:=by
  refine RVs.cons ?_ RVs.nil
  dsimp only[RV]
  refine⟨by rw[List.length_map];exact Nat.le_trans hlen (by decide),l,vs,rfl,⟨(fun p hp=>by cases hp),(fun hb=>by cases hb)⟩,⟨o,ho,hc,n,hd⟩,xL hI⟩
 refine wpAny_mono (hOn ⟨[],[]⟩ am [.ref l] R r ht) (fun cv s' ⟨ρ',S,r'⟩=>⟨RV.bool_iff r',ar1 hk S,?_,S.rel.bare⟩) fun _ _ f=>f
 refine d7 (S.rel.same) fun h tk gs e=>?_
 rw[e]
set_option linter.unusedSimpArgs false
section
variable {F:Fn} {σ σ₁ σ₂ aj:List AO} {η η₁ η₂:ab} {a b e es c lo hi st:Ex} {x y z v w:V} {vs:List V} {i j f:Nat} {r:V×List AO} {S R:Sx}
theorem ay{S R:Sx}(h:exs F S σ η=some (.next,σ₁,η₁)):exs F (.seq S R) σ η=exs F R σ₁ η₁:=by
 rw[gZ,h]
theorem s9{β:Type}{o:Option (V×List AO)}{k:V->List AO->Option β}(h:o=some (x,σ)):(match (generalizing:=false) o with | some (x,σ)=>k x σ | none=>none)=k x σ:=by rw[h]
theorem aI1{β:Type}{o:Option (List V×List AO)}{k:List V->List AO->Option β}(h:o=some (vs,σ)):(match (generalizing:=false) o with | some (x,σ)=>k x σ | none=>none)=k vs σ:=by rw[h]
theorem bW1{o:Option V}(h:o=some v):(o.map fun v=>(v,σ))=some (v,σ):=by rw[h];rfl
theorem aw:evx F (.cst v) σ η=some (v,σ):=rfl
theorem bH:evx F .nil σ η=some (.none,σ):=rfl
theorem af(h:η[i]?=some (some v)):evx F (.loc i) σ η=some (v,σ):=by rw[ql,h]
theorem gB:evs F .nil σ η=some ([],σ):=rfl
theorem b4(h:evx F e σ η=some (v,σ₁))(h':evs F es σ₁ η=some (vs,σ₂)):evs F (.cons e es) σ η=some (v::vs,σ₂):=(s9 h).trans (aI1 h')
theorem ck(h:evs F es σ η=some (vs,σ₁))(h':F f vs σ₁=some r):evx F (.call f es) σ η=some r:=(aI1 h).trans h'
theorem tq{op:CmpOp}{k:Bool}(h:evx F a σ η=some (x,σ₁))(h':evx F b σ₁ η=some (y,σ₂))(h2:f6 op σ₂ x y=some k):evx F (.cmp op a b) σ η=some (.bool k,σ₂) :=
 (s9 h).trans ((s9 h').trans (congrArg (Option.map fun k=>(V.bool k,σ₂)) h2))
theorem aQ{op:Operator}(h:evx F a σ η=some (x,σ₁))(h':evx F b σ₁ η=some (y,σ₂))(h2:te op x y=some v):evx F (.bin op a b) σ η=some (v,σ₂):=(s9 h).trans ((s9 h').trans (bW1 h2))
theorem b7(h:evx F a σ η=some (x,σ₁))(h':evx F b σ₁ η=some (y,σ₂))(h2:dW σ₂ x y=some v):evx F (.idx a b) σ η=some (v,σ₂):=(s9 h).trans ((s9 h').trans (bW1 h2))
theorem gY{l h s:V}(h0:evx F a σ η=some (x,σ))(h1:evx F lo σ η=some (l,σ))(h2:evx F hi σ η=some (h,σ))(h3:evx F st σ η=some (s,σ))(h4:rB σ x l h s=some v):evx F (.slc a lo hi st) σ η=some (v,σ) :=
 (s9 h0).trans ((s9 h1).trans ((s9 h2).trans ((s9 h3).trans (bW1 h4))))
theorem n7{g:Bf}(h:evs F es σ η=some (vs,σ₁))(h2:bfF g σ₁ vs=some v):evx F (.bf g es) σ η=some (v,σ₁):=(aI1 h).trans (bW1 h2)
theorem tp{g:Me}(h1:evx F a σ η=some (x,σ₁))(ht:mq σ₁ x=some g.T)(h2:evs F es σ₁ η=some (vs,σ₂))(h3:meF g σ₂ x vs=some v):evx F (.me g a es) σ η=some (v,σ₂) :=
 (s9 h1).trans ((if_pos ht).trans ((aI1 h2).trans (bW1 h3)))
theorem fM1(h:evs F es σ η=some (vs,σ₁))(hl:vs.length<=lim):evx F (.tup es) σ η=some (.tup vs,σ₁):=(aI1 h).trans (if_pos hl)
theorem rr(h:evs F es σ η=some (vs,σ₁))(hl:vs.length<=lim):evx F (.lst es) σ η=some (.lst vs,σ₁):=(aI1 h).trans (if_pos hl)
theorem mh(h:evx F e σ η=some (v,σ₁)):exs F (.asg i e) σ η=some (.next,σ₁,η.set i (some v)):=by
 rw[qh,h]
theorem b31(h:evx F e σ η=some (v,σ₁)):exs F (.expr e) σ η=some (.next,σ₁,η):=by
 rw[kp,h]
theorem fN1(h:evx F e σ η=some (v,σ₁)):exs F (.ret e) σ η=some (.ret v,σ₁,η):=by
 rw[qf,h]
theorem bW:exs F .skip σ η=some (.next,σ,η):=rfl
theorem eF{k:Bool}(h:evx F c σ η=some (x,σ₁))(h':aM x=some k):evt F c σ η=some (k,σ₁):=by
 rw[xt,h]
 dsimp only
 rw[h'];rfl
theorem mf{S':Sx}{k:Bool}(h:evt F c σ η=some (k,σ₁)):exs F (.ite c S S') σ η=if k then exs F S σ₁ η else exs F S' σ₁ η:=by
 rw[qg,h]
 cases k <;> rfl
theorem s8(h:evx F c σ η=some (.bool false,σ₁)):exs F (.seq (.ite c S .skip) R) σ η=exs F R σ₁ η:=by
 have:exs F (.ite c S .skip) σ η=some (.next,σ₁,η):=by
  rw[mf (eF (k:=false) h rfl),if_neg Bool.false_ne_true]
  exact bW
 exact ay this
theorem aT(h:evx F e σ η=some (v,σ)):evs F (.cons e .nil) σ η=some ([v],σ):=b4 h gB
theorem b21{k:Bool}(h:evx F c σ η=some (.bool k,σ₁)):evx F (.ite c a b) σ η=if k then evx F a σ₁ η else evx F b σ₁ η:=by
 rw[qm,h]
 cases k <;> rfl
theorem aX(h:evx F e σ η=some (v,σ₁)):exs F (.seq (.asg i e) R) σ η=exs F R σ₁ (η.set i (some v)):=ay (mh h)
theorem mI(h:evx F e σ η=some (v,σ₁)):exs F (.seq (.ret e) R) σ η=some (.ret v,σ₁,η):=by
 rw[gZ,fN1 h]
theorem dg1{S S':Sx}{k:Bool}(h:evx F c σ η=some (.bool k,σ₁))(h':(if k then exs F S σ₁ η else exs F S' σ₁ η)=some (.next,σ₂,η₂)):exs F (.seq (.ite c S S') R) σ η=exs F R σ₂ η₂ :=
 ay ((mf (eF h rfl)).trans h')
theorem b11{l p q:List Nat}(h:evx F e σ η=some (.str l,σ₁))(h2:meF .replace σ₁ (.str l) [.str p,.str q]=some v):evx F (.rep e p q) σ η=some (v,σ₁):=by
 rw[b71,h]
 exact bW1 h2
theorem fP1{k:Bool}(h:evx F a σ η=some (.bool k,σ₁)):evx F (.not a) σ η=some (.bool (!k),σ₁):=by
 rw[qj,h];rfl
theorem eW{k:Nat}{l l':List V}(h:evx F a σ η=some (.ref k,σ₁))(hk:σ₁[k]?=some ⟨l',none⟩)(h':evx F b σ₁ η=some (v,σ₂))(hk':σ₂[k]?=some ⟨l,none⟩)(hl:l.length<lim):evx F (.append a b) σ η=some (.none,σ₂.set k ⟨l++[v],none⟩):=by
 rw[eX,h]
 dsimp only
 rw[hk]
 dsimp only
 rw[h']
 dsimp only
 rw[hk']
 exact if_pos hl
theorem qe{k:Nat}{i:Int}{l:List V}(h:evx F a σ η=some (.ref k,σ₁))(hk:σ₁[k]?=some ⟨l,some i⟩)(h':evs F es σ₁ η=some (vs,σ₂))(h2:F f (.ref k::vs) σ₂=some r):evx F (.meth f a es) σ η=some r:=by
 rw[ky,h]
 dsimp only
 rw[hk]
 exact(aI1 h').trans h2
theorem jU(h:evx F e σ η=some (v,σ₁)):exs F (.seq (.expr e) R) σ η=exs F R σ₁ η:=ay (b31 h)
theorem fQ1{tg:Ex}{st:ItS}(h:evx F e σ η=some (v,σ₁))(hs:ba v=some st):exs F (.for_ tg e S) σ η=foN tg (fun σ η=>exs F S σ η) (st.fuel σ₁) st σ₁ η:=by
 rw[yw,h]
 dsimp only
 rw[hs]
theorem aa1(h:evx F c σ η=some (x,σ₁))(h':aM x=some false):exs F (.seq (.ite c S .skip) R) σ η=exs F R σ₁ η :=
 ay ((mf (eF h h')).trans rfl)
theorem dh1(h:evx F c σ η=some (.bool true,σ₁)):exs F (.seq (.asrt c) R) σ η=exs F R σ₁ η:=ay (by
 rw[kq,eF h rfl])
theorem dj1(h:evx F e σ η=some (.tup [x,y],σ₁)):exs F (.seq (.asg2 i j e) R) σ η=exs F R σ₁ ((η.set j (some y)).set i (some x)):=ay (by
 rw[kr,h])
theorem fJ{np more:Nat}(hl:vs.length=np)(h:exs F S σ (aO vs more)=some (.ret v,σ₁,η₁)):n9 F np more S vs σ=some (v,σ₁):=by
 have:n9 F np more S vs σ=(match exs F S σ (aO vs more) with
  | some (.ret v,σ₁,_)=>some (v,σ₁)
  | some (.next,σ₁,_)=>some (V.none,σ₁)
  | _=>none):=if_pos hl
 rw[this,h]
theorem bJ{op:CmpOp}{k:Bool}(h:evx F a σ η=some (x,σ))(h':evx F b σ η=some (y,σ))(h2:f6 op σ x y=some k):evx F (.cmp op a b) σ η=some (.bool k,σ):=tq h h' h2
end
theorem dJ{tab:Nat->Option En}{n f np more:Nat}{body:Sx}{vs:List V}{σ:List AO}(h:tab f=some (.code np more body)):lev tab (n+1) f vs σ=n9 (lev tab n) np more body vs σ:=by
 dsimp only[lev];rw[h]
theorem dH{tab:Nat->Option En}{n f:Nat}{p:rm}{vs:List V}{σ:List AO}(h:tab f=some (.prim p)):lev tab (n+1) f vs σ=p vs σ:=by
 dsimp only[lev];rw[h]
theorem bp{i:Int}{n:Nat}(h0:0<=i)(h1:i<n):seqIndex? i n=some i.toNat:=by
 dsimp only[seqIndex?]
 simp only[if_neg (Int.not_lt.mpr h0)]
 simp [h0,h1]
theorem gq{i:Int}{n:Nat}(h0:i<0)(h1:0<=i+n):seqIndex? i n=some (i+n).toNat:=by
 dsimp only[seqIndex?]
 simp only[if_pos h0]
 have:i+(n:Int)<n:=by lia
 simp [h1,this]
section
variable {σ:List AO} {x y i:Int} {a b l:List Nat} {u v:List V}
theorem f31{b:Bool}:aM (.bool b)=some b:=rfl
theorem f21{i:Int}:aM (.int i)=some (i != 0):=rfl
theorem f01{l:List Nat}:aM (.str l)=some (!l.isEmpty):=rfl
theorem f11:aM .none=some false:=rfl
theorem gc:te .Add (.int x) (.int y)=some (.int (x+y)):=rfl
theorem nJ:te .Sub (.int x) (.int y)=some (.int (x - y)):=rfl
theorem fy(h:1<=y):te .Mod (.int x) (.int y)=some (.int (x % y)):=if_pos h
theorem gz(h:1<=y)(h':y<1000000000):te .FloorDiv (.int x) (.int y)=some (.int (x / y)):=if_pos ⟨h,h'⟩
theorem eh:te .Add (.str a) (.str b)=if a.length+b.length<=lim then some (.str (a++b)) else none:=rfl
theorem kl:te .Add (.lst u) (.lst v)=if u.length+v.length<=lim then some (.lst (u++v)) else none:=rfl
theorem re:te .Mult (.str a) (.int x)=if x<=1000000/\-1000000<=x/\a.length*x.toNat<=lim then some (.str (oE a x.toNat)) else none:=rfl
theorem kB:veq (.int x) (.int y)=decide (x=y):=by
 show (x==y)=_
 rw[Bool.eq_iff_iff];simp
theorem sG:f6 .Eq σ (.int x) (.int y)=some (decide (x=y)):=by
 show some (veq (.int x) (.int y))=_
 rw[kB]
theorem yk:f6 .NotEq σ (.int x) (.int y)=some (!decide (x=y)):=by
 show (f6 .Eq σ (.int x) (.int y)).map (!·)=_
 rw[sG];rfl
theorem lU:f6 .Lt σ (.int x) (.int y)=some (decide (x<y)):=rfl
theorem bB1:f6 .LtE σ (.int x) (.int y)=some (decide (x<=y)):=rfl
theorem nF:f6 .Gt σ (.int x) (.int y)=some (decide (y<x)):=rfl
theorem yl:f6 .GtE σ (.int x) (.int y)=some (decide (y<=x)):=rfl
theorem pN:f6 .Eq σ (.str a) (.str b)=some (a==b):=rfl
theorem pM:f6 .NotEq σ (.str a) (.str b)=some (!(a==b)):=rfl
theorem bC1:f6 .Gt σ (.str a) (.str b)=some (decide (b<a)):=rfl
theorem fY:bfF .len σ [.str l]=some (.int l.length):=rfl
theorem qW:bfF .len σ [.lst u]=some (.int u.length):=rfl
theorem vy:bfF .len σ [.tup u]=some (.int u.length):=rfl
theorem vz(h:0<=i)(h':i<=1114111):bfF .chr σ [.int i]=some (.str [i.toNat]):=if_pos ⟨h,h'⟩
theorem bb1{c:Nat}:bfF .ord σ [.str [c]]=some (.int c):=rfl
theorem lG:der σ (.str l)=.str l:=rfl
theorem lI:der σ (.int i)=.int i:=rfl
theorem lF:der σ (.tup u)=.tup u:=rfl
theorem lH:der σ (.lst u)=.lst u:=rfl
theorem zp(h0:0<=i)(h1:i<=1000000000)(h2:i<u.length):dW σ (.tup u) (.int i)=u[i.toNat]?:=by
 show (if _ then _ else _)=_
 rw[if_pos ⟨by lia,h1⟩]
 show (match seqIndex? i u.length with | some k=>u[k]? | none=>none)=_
 rw[bp h0 h2]
theorem fU1(h0:0<=i)(h1:i<=1000000000)(h2:i<u.length):dW σ (.lst u) (.int i)=u[i.toNat]?:=by
 show (if _ then _ else _)=_
 rw[if_pos ⟨by lia,h1⟩]
 show (match seqIndex? i u.length with | some k=>u[k]? | none=>none)=_
 rw[bp h0 h2]
theorem ca1(h0:0<=i)(h1:i<=1000000000)(h2:i<l.length):dW σ (.str l) (.int i)=(l[i.toNat]?).map fun c=>.str [c]:=by
 show (if _ then _ else _)=_
 rw[if_pos ⟨by lia,h1⟩]
 show (match seqIndex? i l.length with | some k=>(l[k]?).map fun c=>V.str [c] | none=>none)=_
 rw[bp h0 h2]
end
noncomputable def dc:List Int:=[97,65,119808,119860,119912,120016,120172,120224,120276,120328,120380,120432]
noncomputable def bK:List Int:=[173,847,6150,6155,6156,6157,8203,8204,8205,8288,65279]
noncomputable def mv(kind:Int)(r:Nat):List Nat:=if kind=0 then [34] else [((dc.getD r 0)+kind - 1).toNat]
noncomputable def yS(q:Int):List Nat:=if q<27 then [(if q<11 then bK.getD q.toNat 0 else 65013+q).toNat] else []
noncomputable def cD(kind x:Int):List Nat:=yS (x / 12 % 54)++mv kind (x % 12).toNat
theorem vw{r:Int}(h0:0<=r)(h1:r<12):∃ c,(dc.map V.int)[r.toNat]?=some (.int c)/\dc.getD r.toNat 0=c/\65<=c/\c<=120432:=by
 obtain ⟨k,rfl⟩:=Int.eq_ofNat_of_zero_le h0
 have hk:k<12:=by exact Int.ofNat_le.mp ‹_›
 have:∀ k<12,(dc.map V.int)[k]?.isSome=true/\65<=dc.getD k 0/\dc.getD k 0<=120432:=by decide
 have h_p:=this k hk;have h2:=h_p.2.1;have h3:=h_p.2.2
 refine⟨dc.getD k 0,?_,rfl,h2,h3⟩
 rw[Int.toNat_natCast,List.getElem?_map,List.getD_eq_getElem?_getD]
 have:k<dc.length:=hk
 rw[List.getElem?_eq_getElem this];rfl
theorem rt{r:Int}(h0:0<=r)(h1:r<11):∃ c,(bK.map V.int)[r.toNat]?=some (.int c)/\bK.getD r.toNat 0=c/\0<=c/\c<=120432:=by
 obtain ⟨k,rfl⟩:=Int.eq_ofNat_of_zero_le h0
 have hk:k<11:=by exact Int.ofNat_le.mp ‹_›
 have:∀ k<11,0<=bK.getD k 0/\bK.getD k 0<=120432:=by decide
 obtain ⟨h2,h3⟩:=this k hk
 refine⟨bK.getD k 0,?_,rfl,h2,h3⟩
 rw[Int.toNat_natCast,List.getElem?_map,List.getD_eq_getElem?_getD]
 have:k<bK.length:=hk
 rw[List.getElem?_eq_getElem this];rfl
theorem ru{F:Fn}{kind x:Int}{σ:List AO}(hk:0<=kind/\kind<=3){o3 o4 o5:Option V} :
  evx F (.ite (.cmp .Eq (.loc 0) (.cst (.int 0))) (.cst (.str [34])) (.bf .chr (.cons (.bin .Sub (.bin .Add (.idx (.loc 2) (.bin .Mod (.loc 1) (.cst (.int 12)))) (.loc 0)) (.cst (.int 1))) .nil))) σ
   [some (.int kind),some (.int x),some (.tup (dc.map V.int)),o3,o4,o5]=some (.str (mv kind (x % 12).toNat),σ):=by
 have r0:0<=x % 12:=Int.emod_nonneg _ (by decide)
 have r1:x % 12<12:=Int.emod_lt_of_pos _ (by decide)
 refine ft1 (vw r0 r1) fun c hc1 hc2 hc3 hc4=>(b21 (bJ rfl rfl sG)).trans ?_
 unfold mv
 by_cases h0:kind=0
 ·rw[decide_eq_true h0,if_pos h0];rfl
 ·rw[decide_eq_false h0,if_neg h0,hc2]
  have e1:dW σ (.tup (dc.map V.int)) (.int (x % 12))=some (.int c):=(zp (u:=dc.map V.int) r0 (Int.le_trans (Int.le_of_lt r1) (by decide)) (show x % 12<((12:Nat):Int) from r1)).trans hc1
  exact(if_neg Bool.false_ne_true).trans (n7 (aT (aQ (aQ (b7 rfl (aQ rfl rfl (fy (by decide))) e1) rfl gc) rfl nJ)) (vz (by lia) (by lia)))
theorem tX{F:Fn}{q:Int}{σ:List AO}(q0:0<=q)(hq:q<27){s:List Nat}(hs:s.length<=1){o0 o1 o2:Option V} :
  evx F (.bin .Add (.bf .chr (.cons (.ite (.cmp .Lt (.loc 5) (.cst (.int 11))) (.idx (.loc 3) (.loc 5)) (.bin .Add (.cst (.int 65013)) (.loc 5))) .nil)) (.loc 4)) σ
   [o0,o1,o2,some (.tup (bK.map V.int)),some (.str s),some (.int q)]=some (.str (yS q++s),σ):=by
 have key:∀ d:Int,0<=d->d<=1114111->(if q<11 then bK.getD q.toNat 0 else 65013+q)=d ->
   evx F (.ite (.cmp .Lt (.loc 5) (.cst (.int 11))) (.idx (.loc 3) (.loc 5)) (.bin .Add (.cst (.int 65013)) (.loc 5))) σ [o0,o1,o2,some (.tup (bK.map V.int)),some (.str s),some (.int q)]=some (.int d,σ) ->
   evx F (.bin .Add (.bf .chr (.cons (.ite (.cmp .Lt (.loc 5) (.cst (.int 11))) (.idx (.loc 3) (.loc 5)) (.bin .Add (.cst (.int 65013)) (.loc 5))) .nil)) (.loc 4)) σ [o0,o1,o2,some (.tup (bK.map V.int)),some (.str s),some (.int q)]=some (.str (yS q++s),σ):=fun d h0 h1 e h=>by
  unfold yS
  rw[if_pos hq,e]
  exact aQ (n7 (aT h) (vz h0 h1)) rfl (eh.trans (if_pos (Nat.le_trans (Nat.add_le_add_left hs 1) (by decide))))
 by_cases h:q<11
 ·refine ft1 (rt q0 h) fun d hd1 hd2 hd3 hd4=>key d hd3 (Int.le_trans hd4 (by decide)) ((if_pos h).trans hd2) ((b21 (bJ rfl rfl lU)).trans ?_)
  rw[decide_eq_true h]
  exact(if_pos rfl).trans (b7 rfl rfl ((zp (u:=bK.map V.int) q0 (Int.le_trans (Int.le_of_lt h) (by decide)) (show q<((11:Nat):Int) from h)).trans hd1))
 ·refine key (65013+q) (by lia) (by lia) (if_neg h) ((b21 (bJ rfl rfl lU)).trans ?_)
  rw[decide_eq_false h]
  exact(if_neg Bool.false_ne_true).trans (aQ rfl rfl gc)
theorem uh(kind:Int)(r:Nat):(mv kind r).length<=1:=by
 unfold mv
 split <;> exact Nat.le_refl 1
theorem tW(F:Fn)(kind x:Int)(σ:List AO)(hk:0<=kind/\kind<=3):n9 F 2 4 cw [.int kind,.int x] σ=some (.str (cD kind x),σ):=by
 have main:∃ η,exs F cw σ [some (.int kind),some (.int x),none,none,none,none]=some (.ret (.str (cD kind x)),σ,η):=by
  refine⟨_,(aX (v:=.tup (dc.map V.int)) rfl).trans ((aX (v:=.tup (bK.map V.int)) rfl).trans ((aX (ru hk)).trans ((aX (v:=.int (x / 12 % 54)) (aQ (aQ rfl rfl (gz (by decide) (by decide))) rfl (fy (by decide)))).trans
   ((dg1 (σ₂:=σ) (η₂:=[some (.int kind),some (.int x),some (.tup (dc.map V.int)),some (.tup (bK.map V.int)),some (.str (cD kind x)),some (.int (x / 12 % 54))]) (bJ rfl rfl lU) ?_).trans (mI rfl)))))⟩
  by_cases hq:x / 12 % 54<27
  ·rw[decide_eq_true hq]
   exact(if_pos rfl).trans ((aX (tX (Int.emod_nonneg _ (by decide)) hq (uh _ _))).trans rfl)
  ·rw[decide_eq_false hq]
   unfold cD yS
   rw[if_neg hq]
   rfl
 exact a9 main fun η e=>fJ rfl e
section
variable {σ:List AO} {x y i j:Int} {a b l:List Nat} {u v:List V}
theorem fj1{j:Nat}(h:j<=l.length):rB σ (.str l) .none (.int j) .none=some (.str (l.take j)):=by
 show some (V.str (Txt.slice ⟨l.toArray⟩ none (some (j:Int))).cps.toList)=_
 have:=slice_closes_to (x:=⟨l.toArray⟩) (j:=(j:Int)) ⟨by exact Int.natCast_nonneg _,by simpa using h⟩
 rw[beq_iff_eq] at this
 rw[this]
 simp
theorem qz{i j:Nat}(h:i<=j)(h':j<=l.length):rB σ (.str l) (.int i) (.int j) .none=some (.str ((l.drop i).take (j - i))):=by
 show some (V.str (Txt.slice ⟨l.toArray⟩ (some (i:Int)) (some (j:Int))).cps.toList)=_
 have:=slice_closes (x:=⟨l.toArray⟩) (i:=(i:Int)) (j:=(j:Int)) ⟨by exact Int.natCast_nonneg _,by exact Int.ofNat_le.mpr ‹_›,by simpa using h'⟩
 rw[beq_iff_eq] at this
 rw[this]
 simp
end
noncomputable def b8:List Nat->List Nat
 | []=>[]
 | c::r=>if c=34 then (match r with
  | d::r'=>if d=34 then 34::b8 r' else []
  | []=>[]) else c::b8 r
theorem kT(r:List Nat):b8 (34::34::r)=34::b8 r:=rfl
theorem uz:b8 [34]=[]:=rfl
theorem fL{d:Nat}(r:List Nat)(h:d≠34):b8 (34::d::r)=[]:=if_neg h
theorem kS{c:Nat}(r:List Nat)(h:c≠34):b8 (c::r)=c::b8 r:=by cases r <;> exact if_neg h
noncomputable def pC(F:Fn):List AO->ab->Option (Bool×List AO):=fun σ η=>evt F (.cmp .Lt (.loc 2) (.loc 3)) σ η
noncomputable def uK:Sx:=(.seq (.asg 4 (.idx (.loc 0) (.loc 2)))
 (.seq (.asg 2 (.bin .Add (.loc 2) (.cst (.int 1))))
 (.seq (.ite (.cmp .Eq (.loc 4) (.cst (.str [34]))) (.seq (.ite (.or (.cmp .GtE (.loc 2) (.loc 3)) (.cmp .NotEq (.idx (.loc 0) (.loc 2)) (.cst (.str [34])))) (.seq .brk
 .skip) .skip)
 (.seq (.asg 2 (.bin .Add (.loc 2) (.cst (.int 1))))
 .skip)) .skip)
 (.seq (.asg 1 (.bin .Add (.loc 1) (.loc 4)))
 .skip))))
theorem a91(p:List Nat)(c:Nat)(r:List Nat):(p++c::r)[p.length]?=some c:=by simp
theorem zq{σ:List AO}(p:List Nat)(c:Nat)(r:List Nat)(h:(p++c::r).length<=1000000):dW σ (.str (p++c::r)) (.int p.length)=some (.str [c]):=by
 rw[ca1 (by lia) (by simp at h;lia) (by simp;lia),Int.toNat_natCast,a91];rfl
theorem tR{c:List AO->ab->Option (Bool×List AO)}{b:List AO->ab->Out}{n:Nat}{σ:List AO}{η:ab}:whN c b (n+1) σ η=match c σ η with
  | some (false,σ₁)=>some (.next,σ₁,η)
  | some (true,σ₁)=>match b σ₁ η with
   | some (.next,σ₂,η₂)=>whN c b n σ₂ η₂
   | some (.brk,σ₂,η₂)=>some (.next,σ₂,η₂)
   | r=>r
  | none=>none:=rfl
theorem g9{c:List AO->ab->Option (Bool×List AO)}{b:List AO->ab->Out}{n:Nat}{σ σ':List AO}{η:ab}(h:c σ η=some (false,σ')):whN c b (n+1) σ η=some (.next,σ',η):=by
 rw[tR,h]
theorem gQ{c:List AO->ab->Option (Bool×List AO)}{b:List AO->ab->Out}{n:Nat}{σ σ' σ₂:List AO}{η η₂:ab}(h:c σ η=some (true,σ'))(hb:b σ' η=some (.next,σ₂,η₂)):whN c b (n+1) σ η=whN c b n σ₂ η₂:=by
 rw[tR,h]
 dsimp only
 rw[hb]
theorem tS{c:List AO->ab->Option (Bool×List AO)}{b:List AO->ab->Out}{n:Nat}{σ σ' σ₂:List AO}{η η₂:ab}(h:c σ η=some (true,σ'))(hb:b σ' η=some (.brk,σ₂,η₂)):whN c b (n+1) σ η=some (.next,σ₂,η₂):=by
 rw[tR,h]
 dsimp only
 rw[hb]
section
variable {F:Fn} {σ:List AO} {r d:List Nat} {c b:Nat} {i n:Int} {s4:Option V}
local macro_rules | `(tactic| simp only[sx,$xs,*] $[$l]?)=>`(tactic| simp only[tG,ql,tB,qi,kx,tv,tD,tC,tI,qk,qj,tH,qp,wv,qm,tE,tz,zo,er,zm,eX,om,ky,gZ,qh,oj,kr,kp,qf,qg,tu,oh,kq,og,tF,xt,gc,nJ,fy,gz,eh,kl,re,sG,yk,lU,bB1,nF,yl,pN,pM,bC1,f31,f21,f01,f11,Option.map_some,fY,vz,bb1,qW,vy,aO,List.map_cons,List.map_nil,List.length_cons,List.length_nil,List.cons_append,List.nil_append,List.replicate_succ,List.replicate_zero,List.getElem?_cons_zero,List.getElem?_cons_succ,List.set_cons_zero,List.set_cons_succ,lG,lI,lF,lH,Nat.reduceAdd,Nat.reduceSub,Int.reduceLE,Int.reduceLT,and_self,if_true,Nat.reduceLeDiff,Bool.not_true,Bool.not_false,$xs,*] $[$l]?)
theorem i91(e1:dW σ (.str r) (.int i)=some (.str [c]))(hc:([c]==[34])=false)(hd:d.length+1<=lim) :
  exs F uK σ [some (.str r),some (.str d),some (.int i),some (.int n),s4]=some (.next,σ,[some (.str r),some (.str (d++[c])),some (.int (i+1)),some (.int n),some (.str [c])]):=by
 simp only[sx,uK,e1,hc,if_pos hd]
theorem dp1(e1:dW σ (.str r) (.int i)=some (.str [34]))(g:n<=i+1) :
  exs F uK σ [some (.str r),some (.str d),some (.int i),some (.int n),s4]=some (.brk,σ,[some (.str r),some (.str d),some (.int (i+1)),some (.int n),some (.str [34])]):=by
 simp only[sx,uK,e1,BEq.rfl,g,decide_true]
theorem ai1(e1:dW σ (.str r) (.int i)=some (.str [34]))(g:¬ n<=i+1)(e2:dW σ (.str r) (.int (i+1))=some (.str [b]))(hb:([b]==[34])=false) :
  exs F uK σ [some (.str r),some (.str d),some (.int i),some (.int n),s4]=some (.brk,σ,[some (.str r),some (.str d),some (.int (i+1)),some (.int n),some (.str [34])]):=by
 simp only[sx,uK,e1,e2,BEq.rfl,g,decide_true,decide_false,hb]
theorem dq1(e1:dW σ (.str r) (.int i)=some (.str [34]))(g:¬ n<=i+1)(e2:dW σ (.str r) (.int (i+1))=some (.str [34]))(hd:d.length+1<=lim) :
  exs F uK σ [some (.str r),some (.str d),some (.int i),some (.int n),s4]=some (.next,σ,[some (.str r),some (.str (d++[34])),some (.int (i+1+1)),some (.int n),some (.str [34])]):=by
 simp only[sx,uK,e1,e2,BEq.rfl,g,decide_true,decide_false,if_pos hd]
theorem fo1(h:i<n):pC F σ [some (.str r),some (.str d),some (.int i),some (.int n),s4]=some (true,σ):=by
 simp only[sx,pC,h,decide_true]
theorem i81(h:¬ i<n):pC F σ [some (.str r),some (.str d),some (.int i),some (.int n),s4]=some (false,σ):=by
 simp only[sx,pC,h,decide_false]
end
noncomputable def PLp(F:Fn)(σ:List AO)(k:Nat)(w:List Nat)(i n:Int)(d:List Nat)(s4:Option V)(g:List Nat):Prop :=
 ∃ i' c',whN (pC F) (fun σ η=>exs F uK σ η) (k+1) σ [some (.str w),some (.str d),some (.int i),some (.int n),s4]=some (.next,σ,[some (.str w),some (.str g),some (.int i'),some (.int n),c'])
section
variable {F:Fn} {σ:List AO} {w d g:List Nat} {c b k:Nat} {i n:Int} {s4:Option V}
theorem PLp.stop(h:¬ i<n):PLp F σ k w i n d s4 d:=⟨i,s4,g9 (i81 h)⟩
theorem PLp.fin(h:i<n)(e1:dW σ (.str w) (.int i)=some (.str [34]))(q:n<=i+1):PLp F σ k w i n d s4 d:=⟨_,_,tS (fo1 h) (dp1 e1 q)⟩
theorem PLp.more(h:i<n)(e1:dW σ (.str w) (.int i)=some (.str [34]))(q:¬ n<=i+1)(e2:dW σ (.str w) (.int (i+1))=some (.str [b]))(hb:([b]==[34])=false):PLp F σ k w i n d s4 d:=⟨_,_,tS (fo1 h) (ai1 e1 q e2 hb)⟩
theorem PLp.step(h:i<n)(e1:dW σ (.str w) (.int i)=some (.str [c]))(hc:([c]==[34])=false)(hd:d.length+1<=lim)(ih:PLp F σ k w (i+1) n (d++[c]) (some (.str [c])) g):PLp F σ (k+1) w i n d s4 g :=
 ih.elim fun i' x=>x.elim fun c' e=>⟨i',c',(gQ (fo1 h) (i91 e1 hc hd)).trans e⟩
theorem PLp.dbl(h:i<n)(e1:dW σ (.str w) (.int i)=some (.str [34]))(q:¬ n<=i+1)(e2:dW σ (.str w) (.int (i+1))=some (.str [34]))(hd:d.length+1<=lim)(ih:PLp F σ k w (i+1+1) n (d++[34]) (some (.str [34])) g):PLp F σ (k+1) w i n d s4 g :=
 ih.elim fun i' x=>x.elim fun c' e=>⟨i',c',(gQ (fo1 h) (dq1 e1 q e2 hd)).trans e⟩
end
theorem dR1(p:List Nat)(c:Nat)(t:List Nat):(p.length:Int)<((p++c::t).length:Nat):=by rw[List.length_append,List.length_cons];exact Int.ofNat_le.mpr (Nat.succ_le_succ (Nat.le_add_right p.length t.length))
theorem fN(F:Fn)(σ:List AO)(N:Nat)(hN:N<=100000):∀ (k:Nat) (p t d:List Nat) (s4:Option V),t.length<=k->p.length+t.length<=N->d.length+t.length<=N->PLp F σ k (p++t) p.length (p++t).length d s4 (d++b8 t)
 | k,p,[],d,s4,_,_,_=>by
  rw[show b8 []=[] from rfl,List.append_nil,List.append_nil]
  exact .stop (Int.lt_irrefl _)
 | 0,p,c::t,d,s4,hk,_,_=>absurd hk (Nat.not_succ_le_zero _)
 | k+1,p,c::t,d,s4,hk,hz,hd=>by
  have hk':t.length<=k:=Nat.le_of_succ_le_succ hk
  have hz':p.length+t.length+1<=N:=hz
  have hd':d.length+t.length+1<=N:=hd
  have e1:dW σ (.str (p++c::t)) (.int p.length)=some (.str [c]):=zq p c t (by rw[List.length_append];exact Nat.le_trans hz (Nat.le_trans hN (by decide)))
  have hd2:d.length+1<=lim:=Nat.le_trans (Nat.le_trans (by lia) hN) (by decide)
  have lt:=dR1 p c t
  by_cases hc:c=34
  ·subst hc
   cases t with
   | nil =>
    rw[uz,List.append_nil]
    exact .fin lt e1 (by exact(List.length_append)▸(Int.le_refl _))
   | cons b t =>
    have q:¬ (((p++34::b::t).length:Nat):Int)<=(p.length:Int)+1:=by rw[List.length_append,List.length_cons,List.length_cons];lia
    have e2:dW σ (.str (p++34::b::t)) (.int ((p.length:Int)+1))=some (.str [b]):=by
     have h:=zq (σ:=σ) (p++[34]) b t (by rw[List.append_assoc,List.length_append];exact Nat.le_trans hz (Nat.le_trans hN (by decide)))
     rw[List.append_assoc,List.length_append] at h
     exact h
    by_cases hb:b=34
    ·subst hb
     have ih:=fN F σ N hN k (p++[34,34]) t (d++[34]) (some (.str [34])) (Nat.le_of_succ_le hk') (by rw[List.length_append];exact(show p.length+2+t.length<=N by rw[List.length_cons] at hz';lia)) (by rw[List.length_append];exact(show d.length+1+t.length<=N by rw[List.length_cons] at hd';lia))
     rw[List.append_assoc,List.length_append,List.append_assoc] at ih
     rw[kT]
     exact .dbl lt e1 q e2 hd2 ih
    ·rw[fL _ hb,List.append_nil]
     exact .more lt e1 q e2 (by simp [hb])
  ·have ih:=fN F σ N hN k (p++[c]) t (d++[c]) (some (.str [c])) hk' (by rw[List.length_append];exact(show p.length+1+t.length<=N by lia)) (by rw[List.length_append];exact(show d.length+1+t.length<=N by lia))
   rw[List.append_assoc,List.length_append,List.append_assoc] at ih
   refine(kS _ hc)▸?_
   exact .step lt e1 (by simp [hc]) hd2 ih
theorem oH:dm=(.seq (.ite (.cmp .NotEq (.slc (.loc 0) .nil (.cst (.int 3)) .nil) (.cst (.str [50,53,55]))) (.seq .dead .skip) .skip)
 (.seq (.ite (.cmp .NotEq (.slc (.loc 0) (.cst (.int 3)) (.cst (.int 5)) .nil) (.cst (.str [32,34]))) (.seq (.ret (.cst (.str []))) .skip) .skip)
 (.seq (.asg 1 (.cst (.str [])))
 (.seq (.asg 2 (.cst (.int 5)))
 (.seq (.asg 3 (.bf .len (.cons (.loc 0) .nil)))
 (.seq (.whil 1000 (.cmp .Lt (.loc 2) (.loc 3)) uK)
 (.seq (.ret (.loc 1)) .skip))))))):=rfl
local macro_rules | `(tactic| simp only[sx,$xs,*] $[$l]?)=>`(tactic| simp only[tG,ql,tB,qi,kx,tv,tD,tC,tI,qk,qj,tH,qp,wv,qm,tE,tz,zo,er,zm,eX,om,ky,gZ,qh,oj,kr,kp,qf,qg,tu,oh,kq,og,tF,xt,gc,nJ,fy,gz,eh,kl,re,sG,yk,lU,bB1,nF,yl,pN,pM,bC1,f31,f21,f01,f11,Option.map_some,fY,vz,bb1,qW,vy,aO,List.map_cons,List.map_nil,List.length_cons,List.length_nil,List.cons_append,List.nil_append,List.replicate_succ,List.replicate_zero,List.getElem?_cons_zero,List.getElem?_cons_succ,List.set_cons_zero,List.set_cons_succ,lG,lI,lF,lH,Nat.reduceAdd,Nat.reduceSub,Int.reduceLE,Int.reduceLT,and_self,if_true,Nat.reduceLeDiff,Bool.not_true,Bool.not_false,$xs,*] $[$l]?)
local macro_rules | `(tactic| dsimp only[sx] $[$l]?)=>`(tactic| dsimp only[tG,ql,tB,qi,kx,tv,tD,tC,tI,qk,qj,tH,qp,wv,qm,tE,tz,zo,er,zm,eX,om,ky,gZ,qh,oj,kr,kp,qf,qg,tu,oh,kq,og,tF,xt,gc,nJ,fy,gz,eh,kl,re,sG,yk,lU,bB1,nF,yl,pN,pM,bC1,f31,f21,f01,f11,Option.map_some,fY,vz,bb1,qW,vy,aO,List.map_cons,List.map_nil,List.length_cons,List.length_nil,List.cons_append,List.nil_append,List.replicate_succ,List.replicate_zero,List.getElem?_cons_zero,List.getElem?_cons_succ,List.set_cons_zero,List.set_cons_succ,lG,lI,lF,lH,Nat.reduceAdd,Nat.reduceSub,Int.reduceLE,Int.reduceLT,and_self,if_true,Nat.reduceLeDiff,Bool.not_true,Bool.not_false] $[$l]?)
theorem uH(F:Fn)(σ:List AO)(t:List Nat)(ht:t.length<=900):n9 F 1 4 dm [.str ([50,53,55,32,34]++t)] σ=some (.str (b8 t),σ):=by
 obtain ⟨i',c',h⟩:=fN F σ 1000 (by exact Nat.le_add_left _ _) 999 [50,53,55,32,34] t [] none (by exact Nat.le_trans ‹_› (by decide)) (by show 5+t.length<=1000;omega) (by show 0+t.length<=1000;omega)
 have e1:rB σ (.str ([50,53,55,32,34]++t)) .none (.int 3) .none=some (.str [50,53,55]):=by
  have:=fj1 (σ:=σ) (l:=[50,53,55,32,34]++t) (j:=3) (by simp)
  exact this
 have e2:rB σ (.str ([50,53,55,32,34]++t)) (.int 3) (.int 5) .none=some (.str [32,34]):=by
  have:=qz (σ:=σ) (l:=[50,53,55,32,34]++t) (i:=3) (j:=5) (by decide) (by simp)
  exact this
 have hp:(([50,53,55,32,34]:List Nat).length:Int)=5:=rfl
 rw[hp,List.nil_append] at h
 generalize hr:[50,53,55,32,34]++t=r at e1 e2 h ⊢
 have h':exs F (.whil 1000 (.cmp .Lt (.loc 2) (.loc 3)) uK) σ [some (.str r),some (.str []),some (.int 5),some (.int r.length),none]=some (.next,σ,[some (.str r),some (.str (b8 t)),some (.int i'),some (.int r.length),c']):=h
 unfold n9
 rw[if_pos (by rfl),oH]
 have s0:aO [V.str r] 4=[some (.str r),none,none,none,none]:=rfl
 rw[s0,ay (σ₁:=σ) (η₁:=[some (.str r),none,none,none,none]) (by simp only[sx,e1,BEq.rfl]),
  ay (σ₁:=σ) (η₁:=[some (.str r),none,none,none,none]) (by simp only[sx,e2,BEq.rfl]),
  ay (σ₁:=σ) (η₁:=[some (.str r),some (.str []),none,none,none]) (by dsimp only[sx]),
  ay (σ₁:=σ) (η₁:=[some (.str r),some (.str []),some (.int 5),none,none]) (by dsimp only[sx]),
  ay (σ₁:=σ) (η₁:=[some (.str r),some (.str []),some (.int 5),some (.int r.length),none]) (by dsimp only[sx]),
  ay h']
 dsimp only[sx]
theorem kf{cond:List AO->ab->Option (Bool×List AO)}{elt:List AO->ab->Option (V×List AO)}{i:Nat}{σ:List AO}{f:V->V}{p:V->Bool}:∀ (l:List V) (η:ab) (n:Nat),l.length<n ->
  (∀ x∈l,cond σ (η.set i (some x))=some (p x,σ))->(∀ x∈l,p x=true->elt σ (η.set i (some x))=some (f x,σ))->cR (.loc i) cond elt n (.seq l) σ η=some ((l.filter p).map f,σ)
 | [],η,0,h,_,_=>by simp at h
 | [],η,n+1,_,_,_=>rfl
 | x::l,η,0,h,_,_=>by simp at h
 | x::l,η,n+1,h,hc,he=>by
  have h':l.length<n:=by simpa using h
  have ih:=kf (cond:=cond) (elt:=elt) (i:=i) (σ:=σ) (f:=f) (p:=p) l (η.set i (some x)) n h' (fun y hy=>by rw[List.set_set];exact hc y (List.mem_cons_of_mem _ hy)) (fun y hy hp=>by rw[List.set_set];exact he y (List.mem_cons_of_mem _ hy) hp)
  show (match asF (.loc i) x η with | none=>none | some η₁=>_)=_
  show (match cond σ (η.set i (some x)) with | none=>none | some (false,σ₁)=>cR (.loc i) cond elt n (.seq l) σ₁ (η.set i (some x)) | some (true,σ₁)=>match elt σ₁ (η.set i (some x)) with | none=>none | some (v,σ₂)=>match cR (.loc i) cond elt n (.seq l) σ₂ (η.set i (some x)) with | none=>none | some (out,aj)=>some (v::out,aj))=_
  refine(hc x List.mem_cons_self)▸?_
  cases hp:p x with
  | false =>
   rw[List.filter_cons,hp]
   exact ih
  | true =>
   dsimp only
   rw[he x List.mem_cons_self hp]
   dsimp only
   rw[ih,List.filter_cons,hp]
   rfl
section
variable {F:Fn} {σ:List AO} {η:ab} {vars:List Var} {i:Nat} {elt it cond:Ex} {x:V} {l:List V} {f:V->V} {p:V->Bool}
theorem zr(hit:evx F it σ η=some (x,σ))(hl:ba x=some (.seq l))(hc:∀ y∈l,evt F cond σ ((clr η vars).set i (some y))=some (p y,σ))(he:∀ y∈l,p y=true->evx F elt σ ((clr η vars).set i (some y))=some (f y,σ))(hn:l.length<=lim)(hnil:cond≠.nil) :
  evx F (.comp vars (.loc i) elt it cond) σ η=some (.lst ((l.filter p).map f),σ):=by
 rw[g7,hit]
 dsimp only
 refine(hl)▸?_
 dsimp only[ItS.fuel]
 rw[kf (f:=f) (p:=p) l (clr η vars) (l.length+1) (Nat.lt_succ_self _) (fun y hy=>?_) (fun y hy hp=>he y hy hp)]
 ·dsimp only
  rw[List.length_map,if_pos (Nat.le_trans (List.length_filter_le _ _) hn)]
 ·have:=hc y hy
  unfold evt at this
  cases cond <;> first | exact this | exact absurd rfl hnil
end
theorem mG(n:Nat):(Builtin.Range.rangeSize 0 n 1).toNat=n:=by
 unfold Builtin.Range.rangeSize
 simp
 split <;> lia
noncomputable def h31(n:Nat):List V:=(List.range n).map fun (k:Nat)=>V.int (k:Int)
theorem mF(n:Nat):bP 0 n 1=h31 n:=by
 unfold bP h31
 rw[mG]
 simp
theorem fF{F:Fn}{σ:List AO}{η:ab}{e:Ex}{n:Nat}(h:evx F e σ η=some (.int n,σ))(hn:n<=1000000):evx F (.range (.cons e .nil)) σ η=some (.rng 0 n 1,σ):=by
 rw[er,kx,h]
 dsimp only
 refine(qi)▸?_
 dsimp only
 show (if e9 0 n 1 then some (V.rng 0 n 1) else none).map _=_
 have:e9 0 n 1=true:=by unfold e9;simp;exact Int.ofNat_le.mpr ‹_›
 rw[if_pos this];rfl
theorem jO:∀ l:List (List Nat),gp (l.map V.str)=some l
 | []=>rfl
 | x::l=>by show (gp (l.map V.str)).map (x::·)=_;rw[jO l];rfl
theorem na:∀ l:List (List Nat),fj [] l=l.flatten
 | []=>rfl
 | [x]=>(List.append_nil x).symm
 | x::y::l=>by show x++[]++fj [] (y::l)=x++(y::l).flatten;rw[List.append_nil,na (y::l)]
theorem hO:∀ l:List (List Nat),cn l=l.flatten.length
 | []=>rfl
 | x::l=>by rw[cn,hO l];simp
theorem iA{σ:List AO}(l:List (List Nat))(h:l.flatten.length<=lim):meF .join σ (.str []) [.lst (l.map V.str)]=some (.str l.flatten):=by
 show (match gp (l.map V.str) with | some ys=>if cn ys+ys.length*([]:List Nat).length<=lim then some (V.str (fj [] ys)) else none | none=>none)=_
 rw[jO]
 dsimp only
 rw[hO,na,if_pos (by exact h)]
noncomputable abbrev dbq(l:List Nat):List Nat:=StrLaws.dbl 34 l
theorem f5:∀ l:List Nat,(dbq l).length<=2*l.length
 | []=>Nat.zero_le _
 | k::r=>by
  have ih:=f5 r
  show (if k=34 then k::k::dbq r else k::dbq r).length<=_
  split <;> simp <;> solve_by_elim (maxDepth:=4) only [*,Nat.le_trans,Nat.lt_of_lt_of_le,Nat.lt_of_le_of_lt,Nat.le_of_lt,Nat.le_of_eq,Nat.le_refl,Eq.symm,Nat.le_add_right,Nat.le_add_left,Nat.le_succ,Nat.sub_le,Nat.succ_le_succ,Nat.lt_succ_of_le,Nat.le_of_lt_succ,Nat.zero_le,Nat.succ_pos,Int.ofNat_le.mpr,Int.ofNat_lt.mpr,Int.natCast_nonneg,Nat.not_le.mpr,Nat.not_lt.mpr,Nat.not_le.mp,Nat.not_lt.mp]
theorem dO1{σ:List AO}(l:List Nat)(h:l.length<=100000):meF .replace σ (.str l) [.str [34],.str [34,34]]=some (.str (dbq l)):=by
 have e:(Txt.replace (S' l) (S' [34]) (S' [34,34])).cps.toList=dbq l:=by
  have:=StrLaws.replace_double ⟨l.toArray⟩ 34
  simpa using this
 show (if ([34]:List Nat)=[34,34] then none else if l.length+(l.length+1)*([34,34]:List Nat).length<=16000000/\(Txt.replace (S' l) (S' [34]) (S' [34,34])).cps.toList.length<=lim then some (V.str (Txt.replace (S' l) (S' [34]) (S' [34,34])).cps.toList) else none)=_
 rw[if_neg (by decide),e,if_pos]
 have:=f5 l
 refine⟨?_,?_⟩
 ·simp;lia
 ·unfold lim;lia
theorem mE(z:List Nat):∀ l:List Nat,b8 (dbq l++34::32::z)=l
 | []=>fL z (by decide)
 | k::r=>by
  have ih:=mE z r
  show b8 ((if k=34 then k::k::dbq r else k::dbq r)++34::32::z)=_
  split
  ·rename_i h
   subst h
   show b8 (34::34::(dbq r++34::32::z))=_
   rw[kT,ih]
  ·rename_i h
   show b8 (k::(dbq r++34::32::z))=_
   rw[kS _ h,ih]
set_option genInjectivity false in
set_option genSizeOf false in
structure DS where
 X:List (List Nat)
 cur:List Nat
 last:List Nat
noncomputable def aP(s:DS)(c:Nat):DS:=if s.last.any (fun p=>decide (p<c)) then ⟨s.X++[s.cur++[c]],[],[]⟩ else ⟨s.X,s.cur++[c],[c]⟩
noncomputable def ds0:DS:=⟨[],[],[]⟩
noncomputable def cB(l:List Nat):List (List Nat):=(l.foldl aP ds0).X++[(l.foldl aP ds0).cur]
noncomputable def jm(D:List (List Nat)):List Nat:=D.map fun d=>d.length % 2
noncomputable def lP(D:List (List Nat)):Bool:=(D.getLast?.getD [0]).isEmpty&&(jm D==1::List.replicate (D.length - 1) 0)
noncomputable def ch(l:List Nat):Bool:=lP (cB l)
theorem fs:∀ (l:List Nat) (s:DS),((l.foldl aP s).X++[(l.foldl aP s).cur]).flatten=(s.X++[s.cur]).flatten++l
 | [],s=>(List.append_nil _).symm
 | c::l,s=>by
  rw[List.foldl_cons,fs l]
  unfold aP
  split <;> simp
theorem eg(l:List Nat):(cB l).flatten=l:=fs l ds0
noncomputable def gL(s:Nat×Bool×Bool)(b:Bool):Nat×Bool×Bool :=
 if !s.2.2&&b then ((if s.1=0 then (if s.2.1 then 2 else 1) else if s.1=1 then (if s.2.1 then 1 else 2) else 2),false,true) else (s.1,!s.2.1,false)
noncomputable def chB(bs:List Bool):Bool:=let s:=bs.foldl gL (0,false,true);s.1==1&&s.2.2
noncomputable def cC(p:Nat):List Nat->List Bool
 | []=>[]
 | c::l=>decide (p<c)::cC c l
noncomputable def stX(X:List (List Nat)):Nat:=if X.isEmpty then 0 else if jm X==1::List.replicate (X.length - 1) 0 then 1 else 2
noncomputable def v5(s:DS):Nat×Bool×Bool:=(stX s.X,s.cur.length % 2==1,s.last.isEmpty)
theorem mC(a:Nat)(n:Nat):List.replicate (n+1) a=List.replicate n a++[a]:=List.replicate_succ'
theorem wQ(X:List (List Nat))(d:List Nat):stX (X++[d])=if stX X=0 then (if d.length % 2=1 then 1 else 2) else if stX X=1 then (if d.length % 2=0 then 1 else 2) else 2:=by
 cases X with
 | nil =>
  show (if (([d.length % 2]:List Nat)==[1])=true then 1 else 2)=if d.length % 2=1 then 1 else 2
  by_cases h:d.length % 2=1 <;> simp [h]
 | cons x r =>
  have e1:stX (x::r++[d])=if (x.length % 2::(jm r++[d.length % 2])==1::List.replicate (r.length+1) 0)=true then 1 else 2:=by
   unfold stX jm
   simp
  have e2:stX (x::r)=if (x.length % 2::jm r==1::List.replicate r.length 0)=true then 1 else 2:=by
   unfold stX jm
   simp
  have hl:(jm r).length=(List.replicate r.length 0).length:=by unfold jm;simp
  rw[e1,e2,mC]
  by_cases h1:(x.length % 2::jm r==1::List.replicate r.length 0)=true
  ·rw[if_pos h1]
   have h2:=beq_iff_eq.mp h1
   injection h2 with h3 h4
   rw[h3,h4]
   by_cases h5:d.length % 2=0 <;> simp [h5]
  ·rw[if_neg h1]
   rw[if_neg (fun h=>h1 ?_)]
   ·rfl
   ·have h2:=beq_iff_eq.mp h
    injection h2 with h3 h4
    have h5:=(List.append_inj h4 hl).1
    rw[h3,h5]
    exact BEq.rfl
theorem xj(l:List Nat)(c:Nat):((l++[c]).length % 2==1)=!(l.length % 2==1):=by
 rw[List.length_append,List.length_singleton]
 have:=Nat.mod_two_eq_zero_or_one l.length
 refine Or.elim (this) (fun h=>?_) (fun h=>?_)
 ·have e:(l.length+1) % 2=1:=by omega
  rw[e,h];rfl
 ·have e:(l.length+1) % 2=0:=by omega
  rw[e,h];rfl
theorem yq(s:DS)(c:Nat)(b:Bool)(h:s.last=[]\/∃ p,s.last=[p]/\b=decide (p<c)):v5 (aP s c)=gL (v5 s) b:=by
 have noCut:v5 ⟨s.X,s.cur++[c],[c]⟩=(stX s.X,!(s.cur.length % 2==1),false):=by
  dsimp only[v5]
  rw[xj];rfl
 rcases h with h | ⟨p,h,rfl⟩
 ·have e:aP s c=⟨s.X,s.cur++[c],[c]⟩:=by unfold aP;rw[h];rfl
  rw[e,noCut]
  unfold gL v5
  rw[h];rfl
 ·by_cases q:p<c
  ·have e:aP s c=⟨s.X++[s.cur++[c]],[],[]⟩:=by unfold aP;rw[h];simp [q]
   rw[e]
   unfold v5 gL
   rw[h]
   show (stX (s.X++[s.cur++[c]]),false,true)=_
   rw[wQ,List.length_append,List.length_singleton,decide_eq_true q]
   refine Or.elim (Nat.mod_two_eq_zero_or_one s.cur.length) (fun z=>?_) (fun z=>?_)
   ·have e1:(s.cur.length+1) % 2=1:=by omega
    rw[e1,z];rfl
   ·have e1:(s.cur.length+1) % 2=0:=by omega
    rw[e1,z];rfl
  ·have e:aP s c=⟨s.X,s.cur++[c],[c]⟩:=by unfold aP;rw[h];simp [q]
   rw[e,noCut]
   unfold gL v5
   rw[h,decide_eq_false q];rfl
theorem j9(s:DS)(c:Nat):((aP s c).last=[]\/(aP s c).last=[c])/\(aP s c).last.isEmpty=(aP s c).cur.isEmpty:=by
 unfold aP
 split
 ·exact⟨.inl rfl,rfl⟩
 ·exact⟨.inr rfl,by simp⟩
theorem v4:∀ (l:List Nat) (p:Nat) (s:DS),(s.last=[]\/s.last=[p])->s.last.isEmpty=s.cur.isEmpty->v5 (l.foldl aP s)=(cC p l).foldl gL (v5 s)/\(l.foldl aP s).last.isEmpty=(l.foldl aP s).cur.isEmpty
 | [],_,_,_,h=>⟨rfl,h⟩
 | c::l,p,s,h,_=>by
  have q:=j9 s c
  have ih:=v4 l c (aP s c) q.1 q.2
  refine(List.foldl_cons)▸?_
  refine⟨ih.1.trans ?_,ih.2⟩
  show _=(cC c l).foldl gL (gL (v5 s) (decide (p<c)))
  rw[yq s c (decide (p<c)) (h.imp id fun h=>⟨p,h,rfl⟩)]
theorem iZ(p:Nat)(l:List Nat):ch l=chB (cC p l):=by
 have h:=v4 l p ds0 (.inl rfl) rfl
 unfold ch lP chB cB
 have h0:v5 ds0=(0,false,true):=rfl
 rw[h0] at h
 generalize l.foldl aP ds0=s at h
 dsimp only
 refine(h.1)▸?_
 show _=(stX s.X==1&&s.last.isEmpty)
 refine(h.2)▸?_
 have e1:((s.X++[s.cur]).getLast?.getD [0])=s.cur:=by simp
 rw[e1]
 cases hc:s.cur with
 | cons a r=>simp
 | nil =>
  have e2:jm (s.X++[[]])=jm s.X++[0]:=by unfold jm;simp
  have e3:(s.X++[([]:List Nat)]).length - 1=s.X.length:=by simp
  rw[e2,e3]
  cases hX:s.X with
  | nil=>rfl
  | cons x r =>
   have hl:(jm r).length=(List.replicate r.length 0).length:=by unfold jm;simp
   show (true&&(x.length % 2::(jm r++[0])==1::List.replicate (r.length+1) 0))=_
   have e4:stX (x::r)=if (x.length % 2::jm r==1::List.replicate r.length 0)=true then 1 else 2:=by
    unfold stX jm
    simp
   rw[e4,mC]
   by_cases h1:(x.length % 2::jm r==1::List.replicate r.length 0)=true
   ·rw[if_pos h1]
    have h2:=beq_iff_eq.mp h1
    injection h2 with h3 h4
    rw[h3,h4]
    simp
   ·rw[if_neg h1]
    have:(x.length % 2::(jm r++[0])==1::(List.replicate r.length 0++[0]))=false:=by
     rw[Bool.eq_false_iff]
     intro h
     have h2:=beq_iff_eq.mp h
     injection h2 with h3 h4
     have h5:=(List.append_inj h4 hl).1
     exact h1 (by rw[h3,h5];exact BEq.rfl)
    rw[this];rfl
noncomputable def zd:Nat->List (List Bool)
 | 0=>[[]]
 | n+1=>(zd n).map (true::·)++(zd n).map (false::·)
theorem ff:∀ l:List Bool,l∈zd l.length
 | []=>List.mem_singleton.mpr rfl
 | true::l=>List.mem_append_left _ (List.mem_map.mpr ⟨l,ff l,rfl⟩)
 | false::l=>List.mem_append_right _ (List.mem_map.mpr ⟨l,ff l,rfl⟩)
noncomputable def fr1(n:Nat):Bool:=(zd n).all fun C=>C.all id || C.all not || ((List.range n).filter fun k=>chB (C.drop k++C.take k)).length==1
noncomputable def fA1(n:Nat):Bool:=((zd n).filter chB).all fun x=>((zd n).filter chB).all fun y=>(List.range (n - 1)).all fun k=>!chB (((x++y).drop (k+1)).take n)
theorem ao1:(fr1 3&&fr1 5&&fr1 7)=true:=by decide +kernel
theorem bs1:(fA1 3&&fA1 5&&fA1 7)=true:=by decide +kernel
noncomputable def Sz(n:Nat):Prop:=n=3\/n=5\/n=7
theorem aq1{n:Nat}(h:Sz n):fr1 n=true:=by
 have q:=ak ao1;have r:=ak q.1
 rcases h with rfl | rfl | rfl
 ·exact r.1
 ·exact r.2
 ·exact q.2
theorem bt1{n:Nat}(h:Sz n):fA1 n=true:=by
 have q:=ak bs1;have r:=ak q.1
 rcases h with rfl | rfl | rfl
 ·exact r.1
 ·exact r.2
 ·exact q.2
theorem gW:∀ (l:List Nat) (p:Nat),(cC p l).length=l.length
 | [],_=>rfl
 | c::l,p=>congrArg (·+1) (gW l c)
theorem i5:∀ (n:Nat) (l:List Nat) (p:Nat),(cC p l).take n=cC p (l.take n)
 | 0,_,_=>rfl
 | n+1,[],_=>rfl
 | n+1,c::l,p=>congrArg (_::·) (i5 n l c)
theorem i6:∀ (n:Nat) (l:List Nat) (p:Nat),∃ q,(cC p l).drop n=cC q (l.drop n)
 | 0,_,p=>⟨p,rfl⟩
 | n+1,[],p=>⟨p,rfl⟩
 | n+1,c::l,p=>i6 n l c
noncomputable def bX(p:Nat)(l:List Nat):Nat:=l.getLast?.getD p
theorem j0(p c:Nat)(l:List Nat):bX p (c::l)=bX c l:=by
 unfold bX
 rw[List.getLast?_cons];rfl
theorem dR:∀ (a b:List Nat) (p:Nat),cC p (a++b)=cC p a++cC (bX p a) b
 | [],_,_=>rfl
 | c::a,b,p=>by
  rw[j0]
  exact congrArg (_::·) (dR a b c)
theorem kh:∀ (l:List Nat) (p:Nat),(cC p l).all not=true->(∀ x∈l,x<=p)/\∀ x∈l,bX p l<=x
 | [],_,_=>⟨nofun,nofun⟩
 | c::l,p,h=>by
  have h1:=ak h
  have h2:¬ p<c:=of_decide_eq_false (by simpa using h1.1)
  have ih:=kh l c h1.2
  rw[j0]
  refine⟨fun x hx=>?_,fun x hx=>?_⟩
  ·refine Or.elim (List.mem_cons.mp hx) (fun h_l=>?_) (fun hx=>?_)
   ·subst h_l
    exact Nat.not_lt.mp ‹_›
   ·have:=ih.1 x hx;omega
  ·refine Or.elim (List.mem_cons.mp hx) (fun h_l=>?_) (fun hx=>?_)
   ·subst h_l
    cases l with
    | nil=>exact Nat.le_refl _
    | cons d l =>
     have a:=ih.2 d List.mem_cons_self
     have b:=ih.1 d List.mem_cons_self
     exact Nat.le_trans ‹_› ‹_›
   ·exact ih.2 x hx
theorem nG:∀ (l:List Nat) (p:Nat),(cC p l).all id=true->∀ x∈l,p<x
 | [],_,_=>nofun
 | c::l,p,h=>by
  have h1:=ak h
  have h2:p<c:=of_decide_eq_true h1.1
  have ih:=nG l c h1.2
  intro x hx
  refine Or.elim (List.mem_cons.mp hx) (fun h_l=>?_) (fun hx=>?_)
  ·subst h_l
   exact h2
  ·exact Nat.lt_trans h2 (ih x hx)
theorem xH{l:List Nat}{p:Nat}(h:l≠[]):bX p l∈l:=by
 unfold bX
 refine(List.getLast?_eq_some_getLast h)▸?_
 exact List.getLast_mem h
theorem u2{l:List Nat}{p q k:Nat}(h:k<l.length):bX q (l.drop k)=bX p l:=by
 unfold bX
 rw[List.getLast?_drop,if_neg (by exact Nat.not_le.mpr ‹_›)]
 have:l≠[]:=by rintro rfl;exact Nat.not_lt_zero _ h
 rw[List.getLast?_eq_some_getLast this];rfl
theorem w9{n:Nat}(hn:Sz n){c:Nat}{r:List Nat}(hl:(c::r).length=n)(hne:bX 0 (c::r)≠c):((List.range n).filter fun k=>ch ((c::r).drop k++(c::r).take k)).length=1:=by
 generalize hL:c::r=l at hl hne ⊢
 have hl0:l≠[]:=by exact(hL)▸(nofun)
 have hcl:c∈l:=by exact(hL)▸(List.mem_cons_self)
 have h:=List.all_eq_true.mp (aq1 hn) (cC (bX 0 l) l) (by have:=ff (cC (bX 0 l) l);rw[gW,hl] at this;exact this)
 have e1:(cC (bX 0 l) l).all id=false:=Bool.eq_false_iff.mpr fun q=>absurd (nG l _ q _ (xH hl0)) (Nat.lt_irrefl _)
 have e2:(cC (bX 0 l) l).all not=false:=Bool.eq_false_iff.mpr fun q=>by
  have z:=kh l _ q
  have a:=z.1 c hcl
  have b:=z.2 c hcl
  have e:bX (bX 0 l) l=bX 0 l:=by
   unfold bX
   rw[List.getLast?_eq_some_getLast hl0];rfl
  rw[e] at b
  exact hne (Nat.le_antisymm b a)
 rw[e1,e2] at h
 rw[← beq_iff_eq (a:=List.length _)]
 refine Eq.trans ?_ h
 show _=(List.length _==1)
 congr 2
 refine List.filter_congr fun k hk=>?_
 have hk':k<l.length:=hl▸List.mem_range.mp hk
 obtain ⟨q,hq⟩:=i6 k l (bX 0 l)
 rw[iZ q,dR,hq,i5,u2 (p:=0) hk']
theorem hh1{n:Nat}(hn:Sz n){x y:List Nat}(hx:x.length=n)(hy:y.length=n)(cx:ch x=true)(cy:ch y=true){k:Nat}(h0:0<k)(hk:k<n):ch (((x++y).drop k).take n)=false:=by
 have mx:cC 0 x∈(zd n).filter chB:=List.mem_filter.mpr ⟨by have:=ff (cC 0 x);rw[gW,hx] at this;exact this,by rw[← iZ];exact cx⟩
 have my:cC (bX 0 x) y∈(zd n).filter chB:=List.mem_filter.mpr ⟨by have:=ff (cC (bX 0 x) y);rw[gW,hy] at this;exact this,by rw[← iZ];exact cy⟩
 have h:=List.all_eq_true.mp (List.all_eq_true.mp (List.all_eq_true.mp (bt1 hn) _ mx) _ my) (k - 1) (List.mem_range.mpr (by lia))
 rw[show k - 1+1=k by lia,← dR] at h
 refine a9 (i6 k (x++y) 0) fun q hq=>?_
 rw[hq,i5,← iZ] at h
 simpa using h
theorem bz1{l:List Nat}(h:ch l=true):∃ a p c,l=a++[p,c]/\p<c:=by
 rw[iZ 0] at h
 have h2:=(ak h).2
 have key:∀ (bs:List Bool) (b:Bool) (s:Nat×Bool×Bool),((bs++[b]).foldl gL s).2.2=true->b=true:=fun bs b s q=>by
  rw[List.foldl_append] at q
  generalize bs.foldl gL s=t at q
  replace q:(gL t b).2.2=true:=q
  unfold gL at q
  cases b with
  | true=>rfl
  | false=>rw[Bool.and_false] at q;exact ftr q
 refine Or.elim (List.eq_nil_or_concat l) (fun h_l=>?_) (fun h_r=>?_)
 ·subst h_l
  exact ftr (show false=true from h)
 ·obtain ⟨a,c,e⟩:=h_r
  subst e
  rw[List.concat_eq_append] at h h2 ⊢
  rw[dR] at h2
  have:=key _ _ _ h2
  refine Or.elim (List.eq_nil_or_concat a) (fun h_l=>?_) (fun h_r=>?_)
  ·subst h_l
   exact ftr (show false=true from h)
  ·refine cH (h_r) fun a' p e'=>?_
   subst e'
   rw[List.concat_eq_append] at this ⊢
   refine fv1 a' p c (by simp) ?_
   have e3:bX 0 (a'++[p])=p:=by unfold bX;simp
   rw[e3] at this
   exact of_decide_eq_true this
noncomputable def cY(k:Nat):Nat:=if k=0 then 34 else 96+k
noncomputable def b3v(c:Nat):List Nat:=match gB3 c with | some l=>l | none=>jp c
noncomputable def eG(c:Nat):Bool:=!sB1 (c:Int)
noncomputable def bq(t:List Nat):List Nat:=((t.filter eG).map b3v).flatten
theorem aY(a b:List Nat):bq (a++b)=bq a++bq b:=by unfold bq;simp
theorem qx:((List.range 4).all fun k=>(List.range 12).all fun r=>match mv (k:Nat) r with | [c]=>eG c&&(b3v c==[cY k])&&decide ((jp c).length<=lim) | _=>false)=true:=by decide +kernel
theorem uE:((List.range 54).all fun q=>match yS (q:Nat) with | []=>true | [c]=>!eG c | _=>false)=true:=by decide +kernel
theorem rH{k:Nat}(hk:k<4)(x:Int):bq (cD (k:Nat) x)=[cY k]:=by
 have r0:0<=x % 12:=Int.emod_nonneg _ (by decide)
 have r1:x % 12<12:=Int.emod_lt_of_pos _ (by decide)
 have q0:0<=x / 12 % 54:=Int.emod_nonneg _ (by decide)
 have q1:x / 12 % 54<54:=Int.emod_lt_of_pos _ (by decide)
 unfold cD
 obtain ⟨r,hr⟩:=Int.eq_ofNat_of_zero_le r0
 obtain ⟨q,hq⟩:=Int.eq_ofNat_of_zero_le q0
 rw[hr,hq,Int.toNat_natCast,aY]
 have h1:=List.all_eq_true.mp (List.all_eq_true.mp qx k (List.mem_range.mpr hk)) r (List.mem_range.mpr (by lia))
 have h2:=List.all_eq_true.mp uE q (List.mem_range.mpr (by omega))
 have e1:bq (yS (q:Int))=[]:=by
  split at h2
  ·rename_i e;rw[e];rfl
  ·rename_i c e
   rw[e]
   simp only[Bool.not_eq_true'] at h2
   unfold bq
   rw[List.filter_cons,h2];rfl
  ·exact ftr h2
 have e2:bq (mv (k:Int) r)=[cY k]:=by
  split at h1
  ·rename_i c e
   rw[e]
   simp only[Bool.and_eq_true,beq_iff_eq] at h1
   unfold bq
   rw[List.filter_cons,h1.1.1]
   simp [h1.1.2]
  ·exact ftr h1
 rw[e1,e2];rfl
theorem uZ{k:Nat}(hk:k<4)(x:Int):∀ c∈cD (k:Nat) x,eG c=true->(jp c).length<=lim:=by
 have r0:0<=x % 12:=Int.emod_nonneg _ (by decide)
 have r1:x % 12<12:=Int.emod_lt_of_pos _ (by decide)
 have q0:0<=x / 12 % 54:=Int.emod_nonneg _ (by decide)
 have q1:x / 12 % 54<54:=Int.emod_lt_of_pos _ (by decide)
 unfold cD
 obtain ⟨r,hr⟩:=Int.eq_ofNat_of_zero_le r0
 obtain ⟨q,hq⟩:=Int.eq_ofNat_of_zero_le q0
 rw[hr,hq,Int.toNat_natCast]
 have h1:=List.all_eq_true.mp (List.all_eq_true.mp qx k (List.mem_range.mpr hk)) r (List.mem_range.mpr (by lia))
 have h2:=List.all_eq_true.mp uE q (List.mem_range.mpr (by omega))
 intro c hc hs
 refine Or.elim (List.mem_append.mp hc) (fun hc=>?_) (fun hc=>?_)
 ·split at h2
  ·rename_i e;replace hc:=(e)▸hc;cases hc
  ·rename_i d e
   rw[e,List.mem_singleton] at hc
   subst hc
   rw[hs] at h2;exact ftr h2
  ·exact ftr h2
 ·split at h1
  ·rename_i d e
   rw[e,List.mem_singleton] at hc
   subst hc
   simp only[Bool.and_eq_true,decide_eq_true_eq] at h1
   exact h1.2
  ·exact ftr h1
theorem kC(kind x:Int):(cD kind x).length<=2:=by
 unfold cD yS mv
 split <;> split <;> (try split) <;> simp
structure FnOk (F:Fn):Prop where
 typed:∀ (σ:List AO) (kind x:Int),0<=kind->kind<=3->F 5 [.int kind,.int x] σ=some (.str (cD kind x),σ)
 parse:∀ (σ:List AO) (t:List Nat),t.length<=900->F 2 [.str ([50,53,55,32,34]++t)] σ=some (.str (b8 t),σ)
 b1:∀ (σ:List AO) (c:Nat),F 3 [.str [c]] σ=some (.bool (sB1 c),σ)
 b3:∀ (σ:List AO) (c:Nat),(jp c).length<=lim->F 4 [.str [c]] σ=some (.str (b3v c),σ)
theorem qV{ks:List Nat}{i:Nat}(h:i<ks.length):ks[i]?=some (ks.getD i 0):=by
 rw[List.getD_eq_getElem?_getD,List.getElem?_eq_getElem h];rfl
theorem nf{ks:List Int}{i:Nat}(h:i<ks.length):ks[i]?=some (ks.getD i 0):=by
 rw[List.getD_eq_getElem?_getD,List.getElem?_eq_getElem h];rfl
theorem b91{σ:List AO}{ks:List Nat}{i:Nat}(hi:i<ks.length)(hl:ks.length<=1000000):dW σ (.str (ks.map cY)) (.int i)=some (.str [cY (ks.getD i 0)]):=by
 rw[ca1 (by exact Int.natCast_nonneg _) (by lia) (by rw[List.length_map];exact Int.ofNat_le.mpr ‹_›),Int.toNat_natCast,List.getElem?_map,qV hi];rfl
theorem mi{σ:List AO}{ws:List Int}{i:Nat}(hi:i<ws.length)(hl:ws.length<=1000000):dW σ (.lst (ws.map V.int)) (.int i)=some (.int (ws.getD i 0)):=by
 rw[fU1 (by exact Int.natCast_nonneg _) (by lia) (by rw[List.length_map];exact Int.ofNat_le.mpr ‹_›),Int.toNat_natCast,List.getElem?_map,nf hi];rfl
noncomputable def fB:V->V
 | .str [c]=>.str (b3v c)
 | _=>.none
noncomputable def pB:V->Bool
 | .str [c]=>eG c
 | _=>false
theorem y9:∀ t:List Nat,((t.map fun c=>V.str [c]).filter pB).map fB=((t.filter eG).map b3v).map V.str
 | []=>rfl
 | c::t=>by
  have ih:=y9 t
  rw[List.map_cons,List.filter_cons,List.filter_cons]
  show (if eG c=true then _ else _:List V).map fB=_
  split
  ·rw[List.map_cons,ih,List.map_cons,List.map_cons];rfl
  ·exact ih
theorem zK{α:Type}(l:List α)(n:Nat)(h:n<=l.length):jR l none (some (n:Int)) none=l.take n:=by
 unfold jR
 have e:sliceBounds none (some (n:Int)) none l.length=(((0:Nat):Int),(n:Int),1):=by
  simp only[sliceBounds,Option.getD_none]
  have h1:¬ ((n:Int)<0):=by lia
  simp only[h1,if_false,show (1:Int)>0 by decide,if_true]
  congr 2
  lia
 rw[e]
 dsimp only
 rw[sliceRange_one]
 have:=pick_run l.toArray 0 (n - 0)
 simp only[List.getElem?_toArray] at this
 rw[this]
 simp
noncomputable def ac(l:List Nat):List V:=l.map fun (k:Nat)=>V.int (k:Int)
theorem cW(n:Nat):∀ l:List Nat,okPs n (ac l)=true
 | []=>rfl
 | _::l=>cW n l
theorem rh(k:Nat):∀ l:List Nat,(ac l).any (fun y=>veq y (.int (k:Int)))=decide (k∈l)
 | []=>rfl
 | j::l=>by
  have ih:=rh k l
  unfold ac at ih ⊢
  rw[List.map_cons,List.any_cons,ih,kB]
  by_cases h:j=k
  ·subst h;simp
  ·have h1:¬ ((j:Int)=(k:Int)):=by lia
   have h2:¬ k=j:=fun e=>h e.symm
   simp [h1,h2]
theorem a21{σ:List AO}{u:V}{k:Nat}{l:List Nat}(hd:der σ u=.lst (ac l)):f6 .In σ (.int (k:Int)) u=some (decide (k∈l)):=by
 show inF σ (.int (k:Int)) u=_
 unfold inF
 rw[hd]
 dsimp only
 rw[cW,rh]
 exact if_pos rfl
theorem uj{η:ab}{i j:Nat}{a b a' b':Option V}(h:i≠j):(((η.set i a).set j b).set i a').set j b'=(η.set i a').set j b':=by
 rw[List.set_comm _ _ (Ne.symm h),List.set_set,List.set_set]
theorem ny{α:Type}{elt:List AO->ab->Option (V×List AO)}{i:Nat}{σ:List AO}{g f:α->V}:∀ (l:List α) (η:ab) (n:Nat),l.length<n ->
  (∀ x∈l,elt σ (η.set i (some (g x)))=some (f x,σ))->cR (.loc i) (fun σ η=>some (true,σ)) elt n (.seq (l.map g)) σ η=some (l.map f,σ)
 | l,η,0,h,_=>by simp at h
 | [],η,n+1,_,_=>rfl
 | x::l,η,n+1,h,he=>by
  have h':l.length<n:=by simpa using h
  have ih:=ny (elt:=elt) (σ:=σ) (g:=g) (f:=f) l (η.set i (some (g x))) n h' (fun y hy=>by rw[List.set_set];exact he y (List.mem_cons_of_mem _ hy))
  rw[List.map_cons]
  show (match elt σ (η.set i (some (g x))) with | none=>none | some (v,σ₂)=>match cR (.loc i) (fun σ η=>some (true,σ)) elt n (.seq (l.map g)) σ₂ (η.set i (some (g x))) with | none=>none | some (out,aj)=>some (v::out,aj))=_
  rw[he x List.mem_cons_self]
  dsimp only
  rw[ih]
  rfl
theorem g8{F:Fn}{σ σ':List AO}{η:ab}{vars:List Var}{i:Nat}{elt it:Ex}{α:Type}{l:List α}{g f:α->V}{x:V}(hit:evx F it σ η=some (x,σ'))(hl:ba x=some (.seq (l.map g)))
  (he:∀ y∈l,evx F elt σ' ((clr η vars).set i (some (g y)))=some (f y,σ')) (hn:l.length<=lim):evx F (.comp vars (.loc i) elt it .nil) σ η=some (.lst (l.map f),σ'):=by
 rw[g7,hit]
 dsimp only
 refine(hl)▸?_
 dsimp only[ItS.fuel]
 rw[List.length_map,ny (f:=f) l (clr η vars) (l.length+1) (Nat.lt_succ_self _) he]
 dsimp only
 rw[List.length_map,if_pos hn]
theorem j4(n:Nat):ba (.rng 0 n 1)=some (.seq ((List.range n).map fun (k:Nat)=>V.int (k:Int))):=by
 exact congrArg some (congrArg ItS.seq (mF n))
theorem fV1{σ:List AO}{k:Nat}(h:k<4):dW σ (.str [34,97,98,99]) (.int (k:Int))=some (.str [cY k]):=by
 have:=b91 (σ:=σ) (ks:=[0,1,2,3]) (i:=k) h (by decide)
 have e:[0,1,2,3].getD k 0=k:=by
  have h':k=0\/k=1\/k=2\/k=3:=by lia
  rcases h' with rfl | rfl | rfl | rfl <;> rfl
 replace this:=(e)▸this
 exact this
theorem xY{tg:Ex}{b:List AO->ab->Out}{n:Nat}{st:ItS}{σ:List AO}{η:ab}(h:st.step σ=some none):foN tg b (n+1) st σ η=some (Fl.next,σ,η):=by
 show (match st.step σ with
  | none=>none
  | some none=>some (Fl.next,σ,η)
  | some (some (x,st'))=>match asF tg x η with
   | none=>none
   | some η₁=>match b σ η₁ with
    | some (Fl.next,σ₂,η₂)=>foN tg b n st' σ₂ η₂
    | some (Fl.brk,σ₂,η₂)=>some (Fl.next,σ₂,η₂)
    | r=>r)=_
 rw[h]
theorem xZ{tg:Ex}{b:List AO->ab->Out}{n:Nat}{st st':ItS}{x:V}{σ:List AO}{η η₁:ab}(h:st.step σ=some (some (x,st')))(ha:asF tg x η=some η₁):foN tg b (n+1) st σ η=match b σ η₁ with
    | some (Fl.next,σ₂,η₂)=>foN tg b n st' σ₂ η₂
    | some (Fl.brk,σ₂,η₂)=>some (Fl.next,σ₂,η₂)
    | r=>r:=by
 show (match st.step σ with
  | none=>none
  | some none=>some (Fl.next,σ,η)
  | some (some (x,st'))=>match asF tg x η with
   | none=>none
   | some η₁=>match b σ η₁ with
    | some (Fl.next,σ₂,η₂)=>foN tg b n st' σ₂ η₂
    | some (Fl.brk,σ₂,η₂)=>some (Fl.next,σ₂,η₂)
    | r=>r)=_
 rw[h]
 dsimp only
 rw[ha]
theorem y8{i:Nat}{b:List AO->ab->Out}(Inv:List V->List AO->ab->Prop)
  (h:∀ x l σ η,Inv (x::l) σ η->∃ σ' η',b σ (η.set i (some x))=some (.next,σ',η')/\Inv l σ' η') :
  ∀ (l:List V) (σ:List AO) (η:ab) (n:Nat),l.length<n->Inv l σ η->∃ σ' η',foN (.loc i) b n (.seq l) σ η=some (.next,σ',η')/\Inv [] σ' η'
 | l,σ,η,0,hn,_=>absurd hn (Nat.not_lt_zero _)
 | [],σ,η,n+1,_,hi=>⟨σ,η,rfl,hi⟩
 | x::l,σ,η,n+1,hn,hi=>by
  refine byQ fun Q kQ=>?_
  refine cH (h x l σ η hi) fun σ' η' h_p=>?_;have h1:=h_p.1;have h2:=h_p.2
  obtain ⟨fh1,iE1,h_p⟩:=y8 Inv h l σ' η' n (by simpa using hn) h2;have e:=h_p.1;have h3:=h_p.2
  refine kQ ?_
  refine ik1 fh1 iE1 ?_ h3
  show (match b σ (η.set i (some x)) with | some (.next,σ₂,η₂)=>foN (.loc i) b n (.seq l) σ₂ η₂ | some (.brk,σ₂,η₂)=>some (.next,σ₂,η₂) | r=>r)=_
  refine(h1)▸?_
  exact e
theorem lA{F:Fn}{i:Nat}{it:Ex}{b:Sx}{σ σ₁:List AO}{η:ab}{x:V}{l:List V}(Inv:List V->List AO->ab->Prop)(hit:evx F it σ η=some (x,σ₁))(hl:ba x=some (.seq l))(hi:Inv l σ₁ η)
  (h:∀ x l σ η,Inv (x::l) σ η->∃ σ' η',exs F b σ (η.set i (some x))=some (.next,σ',η')/\Inv l σ' η') :
  ∃ σ' η',exs F (.for_ (.loc i) it b) σ η=some (.next,σ',η')/\Inv [] σ' η':=by
 rw[yw,hit]
 dsimp only
 refine(hl)▸?_
 dsimp only[ItS.fuel]
 exact y8 Inv h l σ₁ η (l.length+1) (Nat.lt_succ_self _) hi
theorem j6:∀ l:List Int,fk (l.map V.int)=some l
 | []=>rfl
 | x::l=>by show (fk (l.map V.int)).map (x::·)=_;rw[j6 l];rfl
theorem gU1{σ:List AO}(l:List Int):bfF .sum σ [.lst (l.map V.int)]=some (.int l.sum):=by
 show (fk (l.map V.int)).map _=_
 rw[j6];rfl
theorem wR{α β:Type}(f:α->β)(l:List α)(a b c:Option Int):jR (l.map f) a b c=(jR l a b c).map f:=by
 unfold jR
 rw[List.length_map,List.map_filterMap]
 congr 1
 funext i
 rw[List.getElem?_map]
theorem gc1{σ:List AO}{l:List Int}{k:Nat}{n:Int}(hn:n≠0):rB σ (.raw (l.map V.int)) (.int (k:Int)) .none (.int n)=some (.lst ((jR l (some (k:Int)) none (some n)).map V.int)):=by
 rw[← wR]
 show (if some n=some (0:Int) then none else some (V.lst (jR (l.map V.int) (some (k:Int)) none (some n))))=_
 rw[if_neg (by simpa using hn)]
theorem lB{α β:Type}(f:α->β):∀ l:List α,(l.map fun x=>[f x]).flatten=l.map f
 | []=>rfl
 | x::l=>by rw[List.map_cons,List.flatten_cons,lB f l];rfl
theorem mn:∀ l:List Nat,ck1 (ac l) (ac l)=true
 | []=>rfl
 | x::l=>by
  show (veq (.int (x:Int)) (.int (x:Int))&&ck1 (ac l) (ac l))=true
  rw[mn l,kB]
  simp
theorem ax1{σ:List AO}(l:List Nat):f6 .NotEq σ (.lst (ac l)) (.lst (ac l))=some false:=by
 show (eqF σ (.lst (ac l)) (.lst (ac l))).map (!·)=_
 have:eqF σ (.lst (ac l)) (.lst (ac l))=some true:=by
  show (if okP 4 (.lst (ac l))&&okP 4 (.lst (ac l)) then some (veq (.lst (ac l)) (.lst (ac l))) else none)=_
  have o:okP 4 (.lst (ac l))=true:=cW 3 l
  rw[o]
  show some (ck1 (ac l) (ac l))=_
  rw[mn]
 rw[this];rfl
theorem jX{l:List Nat}{i:Nat}(h:i<l.length):(ac l)[i]?=some (.int (l.getD i 0:Nat)):=by
 unfold ac
 rw[List.getElem?_map,qV h];rfl
theorem wz{n p:Nat}{a b c:List Nat}(h:p+n<=a.length+b.length)(hp:p<=a.length+b.length):((a++(b++c)).drop p).take n=((a++b).drop p).take n:=by
 rw[← List.append_assoc,List.drop_append_of_le_length (by rw[List.length_append];exact hp),List.take_append_of_le_length (by rw[List.length_drop,List.length_append];omega)]
theorem ml{n p:Nat}{a b:List Nat}(h:a.length<=p):((a++b).drop p).take n=(b.drop (p - a.length)).take n:=by
 rw[List.drop_append,List.drop_of_length_le h,List.nil_append]
theorem mj{n:Nat}(hn:Sz n){a b c:List Nat}(la:a.length=n)(lb:b.length=n)(lc:c.length=n)(ca:ch a=true)(cb:ch b=true)(cc:ch c=true){p:Nat}(hp:p+n<=3*n) :
  ch (((a++(b++c)).drop p).take n)=decide (p % n=0):=by
 have n0:0<n:=by rcases hn with rfl | rfl | rfl <;> decide
 have two:∀ {x y:List Nat} {q:Nat},x.length=n->y.length=n->ch x=true->ch y=true->q<n->ch (((x++y).drop q).take n)=decide (q=0):=fun {x y q} hx hy cx cy hq=>by
  refine Or.elim (Nat.eq_zero_or_pos q) (fun h_l=>?_) (fun h0=>?_)
  ·subst h_l
   rw[List.drop_zero,List.take_append_of_le_length (Nat.le_of_eq hx.symm),List.take_of_length_le (Nat.le_of_eq hx),cx];rfl
  ·rw[hh1 hn hx hy cx cy h0 hq,decide_eq_false (by exact Nat.ne_of_gt ‹_›)]
 rcases Nat.lt_or_ge p n with h | h
 ·rw[wz (by omega) (by omega),two la lb ca cb h,Nat.mod_eq_of_lt h]
 ·rw[ml (by lia),la]
  refine Or.elim (Nat.lt_or_ge (p - n) n) (fun h2=>?_) (fun h2=>?_)
  ·rw[two lb lc cb cc h2]
   congr 1
   rw[Nat.mod_eq_sub_mod h,Nat.mod_eq_of_lt h2]
  ·have e:p=n+n:=by lia
   subst e
   rw[show n+n - n=n by lia,List.drop_left' lb,List.take_of_length_le (Nat.le_of_eq lc),cc,Nat.add_mod_left,Nat.mod_self]
   rfl
noncomputable def nX(n:Nat)(h:List Nat):Prop:=∀ k,k+n<=h.length->ch ((h.drop k).take n)=decide (k % n=h.length % n)
theorem nd{n:Nat}(hn:Sz n){a b c:List Nat}(la:a.length=n)(lb:b.length=n)(lc:c.length=n)(ca:ch a=true)(cb:ch b=true)(cc:ch c=true){q h:List Nat}(e:a++(b++c)=q++h):nX n h:=by
 intro k hk
 have hl:q.length+h.length=3*n:=by
  have:=congrArg List.length e
  simp only[List.length_append] at this
  lia
 have:=mj hn la lb lc ca cb cc (p:=q.length+k) (by lia)
 rw[e,ml (by exact Nat.le_add_right _ _),show q.length+k - q.length=k by lia] at this
 refine(this)▸?_
 congr 1
 rw[eq_iff_iff]
 rcases hn with rfl | rfl | rfl <;> lia
theorem pn{n:Nat}{h:List Nat}(hl:h.length<n):nX n h:=fun k hk=>absurd hk (by lia)
noncomputable def aV(n m:Nat):List Nat:=(List.range (m+1 - n)).filter fun k=>decide (k % n=m % n)
theorem tP:([3,5,7].all fun (n:Nat)=>(List.range 22).all fun (m:Nat) =>
  (List.range (Builtin.Range.rangeSize ((m % n:Nat):Int) ((m:Int) - n+1) (n:Int)).toNat).map (fun (j:Nat)=>((m % n:Nat):Int)+j*(n:Int))==(aV n m).map fun (k:Nat)=>(k:Int))=true:=by decide +kernel
theorem wB{n m:Nat}(hn:Sz n)(hm:m<22):bP ((m % n:Nat):Int) ((m:Int) - n+1) (n:Int)=ac (aV n m):=by
 have h:=List.all_eq_true.mp (List.all_eq_true.mp tP n (by rcases hn with rfl | rfl | rfl <;> decide)) m (List.mem_range.mpr hm)
 have h2:=congrArg (List.map V.int) (beq_iff_eq.mp h)
 rw[List.map_map,List.map_map] at h2
 exact h2
theorem dh(a b:List Nat):dbq (a++b)=dbq a++dbq b:=by
 induction a with
 | nil=>rfl
 | cons c a ih =>
  show (if c=34 then c::c::dbq (a++b) else c::dbq (a++b))=(if c=34 then c::c::dbq a else c::dbq a)++dbq b
  refine(ih)▸?_
  split <;> rfl
theorem d4:∀ l:List Nat,b8 (dbq l)=l/\b8 (dbq l++[34])=l
 | []=>⟨rfl,rfl⟩
 | c::l=>by
  have ih:=d4 l
  by_cases h:c=34
  ·subst h
   exact⟨congrArg (34::·) ih.1,congrArg (34::·) ih.2⟩
  ·have e:dbq (c::l)=c::dbq l:=if_neg h
   refine(e)▸?_
   exact⟨by rw[kS _ h,ih.1],by rw[List.cons_append,kS _ h,ih.2]⟩
theorem mD(z:List Nat):∀ l:List Nat,l.any (fun c=>c != 34)=true->b8 (34::dbq l++z)=l.takeWhile (fun c=>c==34)
 | [],h=>ftr h
 | c::l,h=>by
  by_cases q:c=34
  ·subst q
   have ih:=mD z l (by exact h)
   show b8 (34::34::(34::dbq l++z))=_
   rw[kT,ih]
   rfl
  ·have e:dbq (c::l)=c::dbq l:=if_neg q
   rw[e,List.cons_append,List.cons_append,fL _ q,List.takeWhile_cons_of_neg (by simpa using q)]
open PySem.Builtin.Str PySem.StrLaws
structure Ring (n:Nat) (w s:List Nat):Prop where
 len:w.length=n
 cho:ch w=true
 abc:∀ c∈w,34<=c/\c≠46
 prep:bq s=w
 short:s.length<=2*n
 low:∀ c∈s,eG c=true->(jp c).length<=lim
theorem yJ:eG 34=true/\b3v 34=[34]:=by decide +kernel
theorem yR:bq [34]=[34]:=by
 unfold bq
 rw[List.filter_cons,if_pos yJ.1]
 show (List.map b3v [34]).flatten=_
 rw[List.map_cons,yJ.2];rfl
theorem jV:∀ k:Nat,bq (List.replicate k 34)=List.replicate k 34
 | 0=>rfl
 | k+1=>by
  rw[show List.replicate (k+1) 34=[34]++List.replicate k 34 from rfl,aY,yR,jV k]
section
variable {n:Nat} {w s a b c:List Nat}
theorem Ring.last(R:Ring n w s):∃ x p e,w=x++[p,e]/\e≠34:=by
 refine byQ fun Q kQ=>?_
 refine rL (bz1 R.cho) fun x p e h hlt=>?_
 refine kQ ?_
 refine fv1 x p e h (fun q=>?_)
 have:=(R.abc p (by rw[h];simp)).1
 lia
theorem Ring.end_(R:Ring n w s):w[n - 1]?≠some 34:=by
 refine byQ fun Q kQ=>?_
 refine rL (R.last) fun x p e h he=>?_
 have hl:=R.len
 rw[h,List.length_append] at hl
 have e1:n - 1=x.length+1:=by simp at hl;lia
 refine kQ ?_
 rw[h,e1,List.getElem?_append_right (Nat.le_add_right _ _),Nat.add_sub_cancel_left]
 exact fun q=>he (siX q)
theorem Ring.send(R:Ring n w s):∀ z:List Nat,s≠z++[34]:=fun z h=>by
 refine rL (R.last) fun x p e hw he=>?_
 have:=R.prep
 rw[h,aY,yR,hw,show x++[p,e]=(x++[p])++[e] by simp] at this
 exact he (List.cons.inj (List.append_inj_right' this rfl)).1.symm
theorem Ring.ne(R:Ring n w s):s≠[]:=fun h=>by
 refine rL (R.last) fun x p e hw he=>?_
 have:=R.prep
 rw[h,hw] at this
 have:=congrArg List.length this
 simp [bq] at this
theorem t7{w1 w2 w3:List Nat}{i:Nat}(h1:w1.length=n)(h2:w2.length=n)(h3:w3.length=n)(e1:w1[n - 1]?≠some 34)(e2:w2[n - 1]?≠some 34)(e3:w3[n - 1]?≠some 34)(n0:0<n)(hi:i<3*n)(hm:i % n=n - 1) :
  (w1++(w2++w3))[i]?≠some 34:=by
 have k:i=n*(i / n)+(n - 1):=by have:=Nat.div_add_mod i n;lia
 have hq:i / n<3:=Nat.div_lt_of_lt_mul (by lia)
 generalize i / n=q at k hq
 have hq3:q=0\/q=1\/q=2:=by lia
 rcases hq3 with rfl | rfl | rfl
 ·rw[k,Nat.mul_zero,Nat.zero_add,List.getElem?_append_left (by omega)];exact e1
 ·rw[k,List.getElem?_append_right (by lia),List.getElem?_append_left (by omega),h1,show n*1+(n - 1) - n=n - 1 by omega];exact e2
 ·rw[k,List.getElem?_append_right (by lia),List.getElem?_append_right (by lia),h1,h2,show n*2+(n - 1) - n - n=n - 1 by omega];exact e3
theorem uq{w1 w2 w3 A B:List Nat}{q:Nat}(h1:w1.length=n)(h2:w2.length=n)(h3:w3.length=n)(e1:w1[n - 1]?≠some 34)(e2:w2[n - 1]?≠some 34)(e3:w3[n - 1]?≠some 34)(n0:0<n)(e:w1++(w2++w3)=A++(List.replicate q 34++B)):q<n:=by
 refine Or.elim (Nat.lt_or_ge q n) (fun h=>?_) (fun h=>?_)
 ·exact h
 ·have hl:=congrArg List.length e
  simp only[List.length_append,List.length_replicate] at hl
  have hlt:=Nat.mod_lt A.length n0
  have hdm:=Nat.div_add_mod A.length n
  have hi:A.length - A.length % n+(n - 1)<3*n:=by
   have:A.length / n<3:=by
    refine Or.elim (Nat.lt_or_ge (A.length / n) 3) (fun h=>?_) (fun h=>?_)
    ·exact h
    ·have:=Nat.mul_le_mul_left n h;lia
   have:=Nat.mul_le_mul_left n (Nat.le_of_lt_succ this)
   omega
  refine absurd ?_ (t7 (i:=A.length - A.length % n+(n - 1)) h1 h2 h3 e1 e2 e3 n0 hi ?_)
  ·rw[e,List.getElem?_append_right (by omega),List.getElem?_append_left (by rw[List.length_replicate];omega),List.getElem?_replicate,if_pos (by omega)]
  ·rw[show A.length - A.length % n=n*(A.length / n) by omega,Nat.mul_add_mod,Nat.mod_eq_of_lt (by lia)]
end
theorem t3:∀ l:List Nat,l.takeWhile (fun c=>c==34)=List.replicate (l.takeWhile (fun c=>c==34)).length 34
 | []=>rfl
 | c::l=>by
  by_cases h:c=34
  ·subst h
   rw[List.takeWhile_cons_of_pos rfl]
   exact congrArg (34::·) (t3 l)
  ·rw[List.takeWhile_cons_of_neg (by simpa using h)];rfl
theorem oS{σ:List AO}(d:List Nat):meF .lstripC σ (.str d) [.str [34]]=some (.str (d.drop (d.takeWhile (fun c=>c==34)).length)):=by
 show some (V.str (Txt.lstripChars (S' d) (S' [34])).cps.toList)=_
 have h2:(S' d).length=d.length:=by show d.toArray.size=_;simp
 have lo:stripLo (S' [34]).cps.contains true (S' d)=(d.takeWhile (fun c=>c==34)).length:=by
  simp only[stripLo,if_true]
  congr 2
  funext c
  show ([34]:List Nat).toArray.contains c=_
  rw[Bool.eq_iff_iff];simp
 have hi:stripHi (S' [34]).cps.contains false (S' d) (stripLo (S' [34]).cps.contains true (S' d))=d.length:=by
  simp [stripHi,h2]
 unfold Txt.lstripChars
 rw[PyProof.Rows.stripBy_eq,strSub_toList,hi,lo]
 congr 2
 show (d.drop _).take _=_
 rw[List.take_of_length_le (by rw[List.length_drop];exact Nat.le_refl _)]
theorem xf{F:Fn}(K:FnOk F)(σ:List AO){t:List Nat}(hl:t.length<=1000)(hlow:∀ c∈t,eG c=true->(jp c).length<=lim)(hp:(bq t).length<=lim) :
  n9 F 1 1 bV [.str t] σ=some (.str (bq t),σ):=by
 refine fJ rfl (mI (tp rfl rfl (aT (v:=.lst (((t.filter eG).map b3v).map V.str)) ?_) (iA _ hp)))
 rw[← y9]
 refine zr (x:=.str t) (l:=t.map fun c=>.str [c]) rfl rfl (fun y hy=>aI (List.mem_map.mp hy) fun c hc e=>?_) (fun y hy hpy=>aI (List.mem_map.mp hy) fun c hc e=>?_) (by rw[List.length_map];exact Nat.le_trans hl (by decide)) nofun
 ·subst e
  exact eF (fP1 (ck (aT (af rfl)) (K.b1 σ c))) rfl
 ·subst e
  exact ck (aT (af rfl)) (K.b3 σ c (hlow c hc hpy))
theorem iU{α:Type}{cond:List AO->ab->Option (Bool×List AO)}{elt:List AO->ab->Option (V×List AO)}{i j:Nat}{σ:List AO}{fa fb f:α->V}(hij:i≠j):∀ (l:List α) (η:ab) (n:Nat),l.length<n ->
  (∀ x∈l,cond σ ((η.set i (some (fa x))).set j (some (fb x)))=some (true,σ)/\elt σ ((η.set i (some (fa x))).set j (some (fb x)))=some (f x,σ))->cR (.tup (.cons (.loc i) (.cons (.loc j) .nil))) cond elt n (.seq (l.map fun x=>.tup [fa x,fb x])) σ η=some (l.map f,σ)
 | l,η,0,h,_=>by simp at h
 | [],η,n+1,_,_=>rfl
 | x::l,η,n+1,h,he=>by
  have ih:=iU (cond:=cond) (elt:=elt) (σ:=σ) (fa:=fa) (fb:=fb) (f:=f) hij l ((η.set i (some (fa x))).set j (some (fb x))) n (by simpa using h) (fun y hy=>by rw[uj hij];exact he y (List.mem_cons_of_mem _ hy))
  rw[List.map_cons]
  show (match cond σ ((η.set i (some (fa x))).set j (some (fb x))) with
   | none=>none
   | some (false,σ₁)=>cR (.tup (.cons (.loc i) (.cons (.loc j) .nil))) cond elt n (.seq (l.map fun x=>.tup [fa x,fb x])) σ₁ ((η.set i (some (fa x))).set j (some (fb x)))
   | some (true,σ₁)=>match elt σ₁ ((η.set i (some (fa x))).set j (some (fb x))) with
    | none=>none
    | some (v,σ₂)=>match cR (.tup (.cons (.loc i) (.cons (.loc j) .nil))) cond elt n (.seq (l.map fun x=>.tup [fa x,fb x])) σ₂ ((η.set i (some (fa x))).set j (some (fb x))) with
     | none=>none
     | some (out,aj)=>some (v::out,aj))=_
  rw[(he x List.mem_cons_self).1]
  dsimp only
  rw[(he x List.mem_cons_self).2]
  dsimp only
  rw[ih]
  rfl
theorem wx{F:Fn}{σ σ':List AO}{η:ab}{vars:List Var}{i j:Nat}{elt it cond:Ex}{α:Type}{l:List α}{fa fb f:α->V}(hit:evx F it σ η=some (.lst (l.map fun x=>.tup [fa x,fb x]),σ'))(hij:i≠j)(hnil:cond≠.nil)
  (hc:∀ y∈l,evt F cond σ' (((clr η vars).set i (some (fa y))).set j (some (fb y)))=some (true,σ')) (he:∀ y∈l,evx F elt σ' (((clr η vars).set i (some (fa y))).set j (some (fb y)))=some (f y,σ')) (hn:l.length<=lim):evx F (.comp vars (.tup (.cons (.loc i) (.cons (.loc j) .nil))) elt it cond) σ η=some (.lst (l.map f),σ'):=by
 rw[g7,hit]
 dsimp only[ba,ItS.fuel]
 rw[List.length_map,iU (f:=f) hij l (clr η vars) (l.length+1) (Nat.lt_succ_self _) (fun x hx=>⟨?_,he x hx⟩)]
 ·dsimp only
  rw[List.length_map,if_pos hn]
 ·have:=hc x hx
  unfold evt at this
  cases cond <;> first | exact this | exact absurd rfl hnil
structure DipOk (F:Fn):Prop where
 acc:∀ vs σ,F 0 vs σ=dz1 vs σ
 push:∀ vs σ,F 11 vs σ=uI vs σ
 pf:∀ vs σ,F 12 vs σ=fc vs σ
 part:∀ vs σ,F 14 vs σ=uJ vs σ
 len:∀ vs σ,F 9 vs σ=fp1 vs σ
noncomputable def starts:Nat->List (List Nat)->List Nat
 | _,[]=>[]
 | n,d::D=>n::starts (n+d.length) D
theorem bn:∀ (D:List (List Nat)) (n:Nat) (q:List Nat),starts n (D++[q])=starts n D++[n+D.flatten.length]
 | [],n,q=>rfl
 | d::D,n,q=>by
  show n::starts (n+d.length) (D++[q])=n::(starts (n+d.length) D++[n+(d++D.flatten).length])
  rw[bn D,List.length_append,Nat.add_assoc]
noncomputable def pc(c:Nat):V:=.tup [.str [32],.str [c]]
noncomputable def dσ(σ:List AO)(items begun:List Nat):List AO:=σ++[⟨items.map pc,some 2⟩,⟨ac begun,none⟩]
section
variable {F:Fn} {σ:List AO} {I B:List Nat}
theorem lE:(dσ σ I B)[σ.length]?=some ⟨I.map pc,some 2⟩:=by
 unfold dσ
 rw[List.getElem?_append_right (Nat.le_refl _),Nat.sub_self];rfl
theorem vE:(dσ σ I B)[σ.length+1]?=some ⟨ac B,none⟩:=by
 unfold dσ
 rw[List.getElem?_append_right (Nat.le_succ _),show σ.length.succ - σ.length=1 by lia];rfl
theorem vD{J:List Nat}:(dσ σ I B).set σ.length ⟨J.map pc,some 2⟩=dσ σ J B:=by
 unfold dσ
 rw[List.set_append_right _ _ (Nat.le_refl _),Nat.sub_self];rfl
theorem za{J:List Nat}:(dσ σ I B).set (σ.length+1) ⟨ac J,none⟩=dσ σ I J:=by
 unfold dσ
 rw[List.set_append_right _ _ (Nat.le_succ _),show σ.length.succ - σ.length=1 by lia];rfl
noncomputable def dη(t:List Nat)(k:Nat)(last:List Nat)(l d s p:Option V):ab:=[some (.str t),some (.ref k),some (.ref (k+1)),some (.str last),l,d,s,p,none,none]
noncomputable def wX:Sx:=(.seq (.expr (.meth 11 (.loc 1) (.cons (.cst (.str [32])) (.cons (.loc 4) .nil))))
 (.seq (.asg 3 (.ite (.chain .NotEq .Lt (.cst (.str [])) (.loc 3) (.loc 4)) (.cst (.str [])) (.loc 4)))
 (.seq (.ite (.cmp .Eq (.loc 3) (.cst (.str []))) (.seq (.expr (.append (.loc 2) (.meth 14 (.loc 1) .nil)))
 .skip) .skip)
 .skip)))
theorem wq{o1 o2:CmpOp}{a b c:Ex}{η:ab}{x y z:V}{k:Bool}(h1:evx F a σ η=some (x,σ))(h2:evx F b σ η=some (y,σ))(h3:evx F c σ η=some (z,σ))(q1:f6 o1 σ x y=some true)(q2:f6 o2 σ y z=some k):evx F (.chain o1 o2 a b c) σ η=some (.bool k,σ):=by
 rw[qo,h1]
 dsimp only
 refine(h2)▸?_
 dsimp only
 refine(q1)▸?_
 dsimp only
 rw[h3]
 dsimp only
 rw[q2];rfl
theorem wt{o1 o2:CmpOp}{a b c:Ex}{η:ab}{x y:V}(h1:evx F a σ η=some (x,σ))(h2:evx F b σ η=some (y,σ))(q1:f6 o1 σ x y=some false):evx F (.chain o1 o2 a b c) σ η=some (.bool false,σ):=by
 rw[qo,h1]
 dsimp only
 refine(h2)▸?_
 dsimp only
 rw[q1]
theorem bK1(last:List Nat)(c:Nat)(h:last.length<=1){η:ab}(e3:η[3]?=some (some (.str last)))(e4:η[4]?=some (some (.str [c]))) :
  evx F (.chain .NotEq .Lt (.cst (.str [])) (.loc 3) (.loc 4)) σ η=some (.bool (last.any fun p=>decide (p<c)),σ):=by
 cases last with
 | nil=>exact wt aw (af e3) rfl
 | cons p r =>
  cases r with
  | cons q r=>simp at h
  | nil =>
   refine wq aw (af e3) (af e4) rfl ?_
   show some (decide ([p] < [c]))=_
   have:([p] < [c])↔p<c:=by rw[List.cons_lt_cons_iff];simp
   simp [this]
end
theorem wp{F:Fn}{c a b:Ex}{σ σ₁:List AO}{η:ab}{r:Option (V×List AO)}(h:evx F c σ η=some (.bool true,σ₁))(h':evx F a σ₁ η=r):evx F (.ite c a b) σ η=r:=(b21 h).trans ((if_pos rfl).trans h')
theorem zi{F:Fn}{c a b:Ex}{σ σ₁:List AO}{η:ab}{r:Option (V×List AO)}(h:evx F c σ η=some (.bool false,σ₁))(h':evx F b σ₁ η=r):evx F (.ite c a b) σ η=r:=(b21 h).trans ((if_neg Bool.false_ne_true).trans h')
noncomputable def sS(s:DS):List Nat:=(s.X++[s.cur]).flatten
noncomputable def sB(s:DS):List Nat:=starts 0 (s.X++[s.cur])
section
variable {F:Fn} {σ:List AO} {I B t:List Nat} {lt d st p:Option V}
theorem uD(K:DipOk F){c:Nat}(h:I.length<1000):F 11 [.ref σ.length,.str [32],.str [c]] (dσ σ I B)=some (.none,dσ σ (I++[c]) B):=by
 rw[K.push]
 show (match (dσ σ I B)[σ.length]? with
  | some ⟨l,some i⟩=>if l.length<lim then some (V.none,(dσ σ I B).set σ.length ⟨l++[V.tup [.str [32],.str [c]]],some i⟩) else none
  | _=>none)=_
 rw[lE]
 dsimp only
 rw[if_pos (by rw[List.length_map];exact Nat.lt_of_lt_of_le h (by decide)),show I.map pc++[V.tup [.str [32],.str [c]]]=(I++[c]).map pc by rw[List.map_append];rfl,vD]
theorem uG(K:DipOk F):F 14 [.ref σ.length] (dσ σ I B)=some (.int I.length,dσ σ I B):=by
 rw[K.part]
 show (match (dσ σ I B)[σ.length]? with
  | some ⟨l,some i⟩=>some (V.int l.length,dσ σ I B)
  | _=>none)=_
 rw[lE]
 dsimp only
 rw[List.length_map]
theorem cq(n:Nat):ac (B++[n])=ac B++[.int n]:=by unfold ac;rw[List.map_append];rfl
theorem uC(K:DipOk F){s:DS}{c:Nat}(hs:s.last.length<=1)(hl:(sS s).length<1000)(hb:(sB s).length<1000) :
  exs F wX (dσ σ (sS s) (sB s)) (dη t σ.length s.last (some (.str [c])) d st p)=some (.next,dσ σ (sS (aP s c)) (sB (aP s c)),dη t σ.length (aP s c).last (some (.str [c])) d st p):=by
 refine(jU (qe (af rfl) lE (b4 aw (b4 (af rfl) gB)) (uD K hl))).trans ?_
 have hc:=bK1 (F:=F) (σ:=dσ σ (sS s++[c]) (sB s)) s.last c hs (η:=dη t σ.length s.last (some (.str [c])) d st p) rfl rfl
 refine eK1 (s.last.any (fun p=>decide (p<c))) (fun hcut=>?_) (fun hcut=>?_)
 ·
  rw[hcut] at hc
  have e:aP s c=⟨s.X++[s.cur++[c]],[],[]⟩:=if_pos hcut
  have e1:sS (aP s c)=sS s++[c]:=by rw[e];dsimp only[sS];simp
  have e2:sB (aP s c)=sB s++[(sS s++[c]).length]:=by
   rw[e]
   dsimp only[sB]
   rw[bn,bn,bn]
   unfold sS
   simp
  rw[e1,e2,e]
  refine(aX (v:=.str []) (wp hc aw)).trans ?_
  refine(dg1 (k:=true) (bJ (af rfl) aw rfl) ?_).trans bW
  refine(jU (v:=.none) (σ₁:=dσ σ (sS s++[c]) (sB s++[(sS s++[c]).length])) ?_).trans bW
  have a:=eW (F:=F) (a:=.loc 2) (b:=.meth 14 (.loc 1) .nil) (σ:=dσ σ (sS s++[c]) (sB s)) (η:=dη t σ.length [] (some (.str [c])) d st p) (af rfl) vE (qe (af rfl) lE gB (uG K)) vE (by unfold ac;rw[List.length_map];exact Nat.lt_of_lt_of_le hb (by decide))
  rw[← cq,za] at a
  exact a
 ·
  rw[hcut] at hc
  have e:aP s c=⟨s.X,s.cur++[c],[c]⟩:=if_neg (by exact(hcut)▸(Bool.false_ne_true))
  have e1:sS (aP s c)=sS s++[c]:=by rw[e];dsimp only[sS];simp
  have e2:sB (aP s c)=sB s:=by
   rw[e]
   dsimp only[sB]
   rw[bn,bn]
  rw[e1,e2,e]
  refine(aX (v:=.str [c]) (zi hc (af rfl))).trans ?_
  exact(s8 (bJ (af rfl) aw rfl)).trans bW
theorem c11(s:DS):(sB s).length=s.X.length+1:=by
 have:∀ (D:List (List Nat)) (n:Nat),(starts n D).length=D.length:=by
  intro D
  induction D with
  | nil=>intro n;rfl
  | cons d D ih=>intro n;exact congrArg (·+1) (ih _)
 unfold sB
 rw[this,List.length_append];rfl
theorem nr(p:List Nat):(p.foldl aP ds0).last.length<=1/\sS (p.foldl aP ds0)=p/\(p.foldl aP ds0).X.length<=p.length:=by
 refine⟨?_,eg p,?_⟩
 ·refine Or.elim (List.eq_nil_or_concat p) (fun h_l=>?_) (fun h_r=>?_)
  ·subst h_l
   exact Nat.zero_le _
  ·obtain ⟨a,c,rfl⟩:=h_r
   rw[List.concat_eq_append,List.foldl_append]
   show (aP _ c).last.length<=1
   rcases (j9 (a.foldl aP ds0) c).1 with h | h <;> rw[h]
   ·exact Nat.zero_le _
   ·exact Nat.le_refl _
 ·have:∀ (p:List Nat) (s:DS),(p.foldl aP s).X.length<=s.X.length+p.length:=by
   intro p
   induction p with
   | nil=>intro s;exact Nat.le_refl _
   | cons c p ih =>
    intro s
    rw[List.foldl_cons,List.length_cons]
    refine Nat.le_trans (ih _) ?_
    unfold aP
    split
    ·rw[List.length_append,List.length_singleton];lia
    ·show s.X.length+p.length<=_;exact Nat.le_succ _
  have:=this p ds0
  exact Nat.le_trans this (by show 0+p.length<=p.length;lia)
theorem xd(K:DipOk F)(ht:t.length<=900):∃ l,exs F (.for_ (.loc 4) (.loc 0) wX) (dσ σ [] [0]) (dη t σ.length [] none none none none)=some (.next,dσ σ t (starts 0 (cB t)),dη t σ.length (t.foldl aP ds0).last l none none none):=by
 refine byQ fun Q kQ=>?_
 obtain ⟨σ',η',h1,q⟩:=lA (F:=F) (i:=4) (it:=.loc 0) (b:=wX) (σ:=dσ σ [] [0]) (η:=dη t σ.length [] none none none none) (l:=t.map fun c=>V.str [c])
  (fun l σ' η'=>∃ (a b:List Nat) (u:Option V),a++b=t/\l=b.map (fun c=>V.str [c])/\σ'=dσ σ a (sB (a.foldl aP ds0))/\η'=dη t σ.length (a.foldl aP ds0).last u none none none) (af rfl) rfl
  ⟨[],t,none,rfl,rfl,rfl,rfl⟩ (fun x l σ' η' ⟨a,b,u,e,el,eσ,eη⟩=>by
   cases b with
   | nil=>cases el
   | cons c b =>
    rw[List.map_cons] at el
    injection el with e1 e2
    subst e1 eσ eη
    have q:=nr a
    have hla:a.length<1000:=by rw[← e,List.length_append] at ht;omega
    have z:=uC (σ:=σ) (t:=t) (d:=none) (st:=none) (p:=none) K (s:=a.foldl aP ds0) (c:=c) q.1 (by rw[q.2.1];exact hla) (by rw[c11];rw[← e,List.length_append,List.length_cons] at ht;have:=q.2.2;omega)
    have q2:=nr (a++[c])
    have e3:(a++[c]).foldl aP ds0=aP (a.foldl aP ds0) c:=by rw[List.foldl_append];rfl
    rw[← e3,q.2.1,q2.2.1] at z
    exact⟨_,_,z,a++[c],b,some (.str [c]),by rw[List.append_assoc];exact e,e2,rfl,rfl⟩)
 obtain ⟨a,b,u,e,el,eσ,eη⟩:=q
 have hb:b=[]:=by cases b with | nil=>rfl | cons _ _=>cases el
 rw[hb,List.append_nil] at e
 subst e eσ eη
 refine kQ ?_
 exact⟨u,h1⟩
end
noncomputable def wy:Ex:=.cmp .NotEq (.loc 2) (.lst .nil)
noncomputable def ch1:Ex:=.me .join (.cst (.str [])) (.cons (.comp [⟨"lead",8,true⟩,⟨"part",9,true⟩] (.tup (.cons (.loc 8) (.cons (.loc 9) .nil))) (.loc 9) (.loc 7) (.cmp .Eq (.loc 8) (.cst (.str [32])))) .nil)
noncomputable def fl1:Sx:=(.seq (.asg 6 (.pop (.loc 2)))
 (.seq (.asg 7 (.ite (.cmp .Gt (.loc 6) (.cst (.int 0))) (.meth 12 (.loc 1) (.cons (.loc 6) .nil)) (.meth 12 (.loc 1) .nil)))
 (.seq (.asg 5 (.bin .Add (.lst (.cons ch1 .nil)) (.loc 5)))
 .skip)))
section
variable {F:Fn} {σ:List AO} {I B t:List Nat} {lt d st p:Option V}
theorem bi1{k:Nat}{l:List V}(h:σ[k]?=some ⟨l,none⟩):der σ (.ref k)=.lst l:=by
 show (match σ[k]? with | some ⟨l,none⟩=>V.lst l | _=>.ref k)=_
 rw[h]
theorem yW{k:Nat}(h:σ[k]?=some ⟨ac B,none⟩):f6 .NotEq σ (.ref k) (.lst [])=some (!B.isEmpty):=by
 show (eqG σ (.ref k) (.lst [])).map (!·)=_
 unfold eqG
 refine(bi1 h)▸?_
 show Option.map _ (if okP 4 (.lst (ac B))&&okP 4 (.lst []) then some (veq (.lst (ac B)) (.lst [])) else none)=_
 have o:okP 4 (.lst (ac B))=true:=cW 3 B
 rw[o,if_pos (show (true&&okP 4 (.lst []))=true from rfl)]
 cases B <;> rfl
theorem fO1{a:Ex}{η:ab}{σ₁:List AO}{k:Nat}{l:List V}{v:V}(h:evx F a σ η=some (.ref k,σ₁))(hk:σ₁[k]?=some ⟨l,none⟩)(hl:l.getLast?=some v):evx F (.pop a) σ η=some (v,σ₁.set k ⟨l.dropLast,none⟩):=by
 rw[b81,h]
 dsimp only
 rw[hk]
 dsimp only
 rw[hl]
theorem pf0(K:DipOk F):F 12 [.ref σ.length] (dσ σ I B)=some (.lst (I.map pc),dσ σ [] B):=by
 rw[K.pf]
 show (match (dσ σ I B)[σ.length]? with
  | some ⟨l,some i⟩=>some (V.lst l,(dσ σ I B).set σ.length ⟨[],some i⟩)
  | _=>none)=_
 refine(lE)▸?_
 exact congrArg (fun z=>some (V.lst (I.map pc),z)) (vD (J:=[]))
theorem pf1(K:DipOk F){j:Nat}:F 12 [.ref σ.length,.int (j:Int)] (dσ σ I B)=some (.lst ((I.drop j).map pc),dσ σ (I.take j) B):=by
 rw[K.pf]
 show (match (dσ σ I B)[σ.length]? with
  | some ⟨l,some i⟩=>if (0:Int)<=j then some (V.lst (l.drop (j:Int).toNat),(dσ σ I B).set σ.length ⟨l.take (j:Int).toNat,some i⟩) else none
  | _=>none)=_
 rw[lE]
 dsimp only
 rw[if_pos (Int.natCast_nonneg j),Int.toNat_natCast,← List.map_take,vD,← List.map_drop]
theorem ds1{q:List Nat}(hq:q.length<=1000){l d s:Option V}{last:List Nat}{k:Nat}:evx F ch1 σ (dη t k last l d s (some (.lst (q.map pc))))=some (.str q,σ):=by
 have h:=wx (F:=F) (σ:=σ) (σ':=σ) (η:=dη t k last l d s (some (.lst (q.map pc)))) (vars:=[⟨"lead",8,true⟩,⟨"part",9,true⟩]) (i:=8) (j:=9) (elt:=.loc 9) (it:=.loc 7) (cond:=.cmp .Eq (.loc 8) (.cst (.str [32]))) (l:=q)
  (fa:=fun _=>.str [32]) (fb:=fun c=>.str [c]) (f:=fun c=>.str [c]) (af rfl) (by decide) nofun (fun c _=>eF (bJ (af rfl) aw rfl) rfl) (fun c _=>af rfl) (Nat.le_trans hq (by decide))
 have e:q.map (fun c=>V.str [c])=(q.map fun c=>[c]).map V.str:=by rw[List.map_map];rfl
 replace h:=(e)▸h
 have e2:(q.map fun c=>[c]).flatten=q:=by rw[lB,List.map_id']
 exact tp aw rfl (aT h) ((iA _ (by rw[e2];exact Nat.le_trans hq (by decide))).trans (by rw[e2]))
theorem xg(K:DipOk F){D acc:List (List Nat)}{q:List Nat}{last:List Nat}{l s p:Option V}(h1:(D++[q]).flatten.length<=1000)(h2:acc.length<1000) :
  exs F fl1 (dσ σ (D++[q]).flatten (starts 0 (D++[q]))) (dη t σ.length last l (some (.lst (acc.map V.str))) s p) =
   some (.next,dσ σ D.flatten (starts 0 D),dη t σ.length last l (some (.lst ((q::acc).map V.str))) (some (.int (D.flatten.length:Nat))) (some (.lst (q.map pc)))):=by
 have ef:(D++[q]).flatten=D.flatten++q:=by simp
 have hq:q.length<=1000:=by rw[ef,List.length_append] at h1;exact Nat.le_trans (Nat.le_add_left _ _) ‹_›
 have es:starts 0 (D++[q])=starts 0 D++[D.flatten.length]:=by rw[bn,Nat.zero_add]
 rw[ef,es]
 have e1:(ac (starts 0 D++[D.flatten.length])).getLast?=some (.int (D.flatten.length:Nat)):=by rw[cq];simp
 have e2:(ac (starts 0 D++[D.flatten.length])).dropLast=ac (starts 0 D):=by rw[cq];simp
 have a:=fO1 (F:=F) (σ:=dσ σ (D.flatten++q) (starts 0 D++[D.flatten.length])) (η:=dη t σ.length last l (some (.lst (acc.map V.str))) s p) (a:=.loc 2) (af rfl) vE e1
 rw[e2,za] at a
 refine(aX a).trans ?_
 have b:evx F (.ite (.cmp .Gt (.loc 6) (.cst (.int 0))) (.meth 12 (.loc 1) (.cons (.loc 6) .nil)) (.meth 12 (.loc 1) .nil)) (dσ σ (D.flatten++q) (starts 0 D)) (dη t σ.length last l (some (.lst (acc.map V.str))) (some (.int (D.flatten.length:Nat))) p)=some (.lst (q.map pc),dσ σ D.flatten (starts 0 D)):=by
  by_cases h0:D.flatten.length=0
  ·have e0:D.flatten=[]:=List.length_eq_zero_iff.mp h0
   refine zi (bJ (af rfl) aw (nF.trans (by rw[h0];rfl))) ?_
   rw[e0]
   exact qe (af rfl) lE gB (pf0 K)
  ·refine wp (bJ (af rfl) aw (nF.trans (congrArg some (decide_eq_true (by lia))))) ?_
   have:=pf1 (σ:=σ) (I:=D.flatten++q) (B:=starts 0 D) K (j:=D.flatten.length)
   rw[List.drop_left,List.take_left] at this
   exact qe (af rfl) lE (aT (af rfl)) this
 refine(aX b).trans ?_
 refine(aX (v:=.lst ((q::acc).map V.str)) (aQ (rr (aT (ds1 hq)) (show 1<=lim by decide)) (af rfl) (kl.trans (if_pos ?_)))).trans bW
 rw[List.length_map]
 exact Nat.le_trans (by show 1+acc.length<=1000;lia) (by decide)
theorem qE(K:DipOk F){last:List Nat}{l:Option V}:∀ (n:Nat) (D acc:List (List Nat)) (s p:Option V),D.length<n->D.flatten.length<=1000->D.length+acc.length<=1000 ->
  ∃ s' p',whN (fun σ η=>evt F wy σ η) (fun σ η=>exs F fl1 σ η) n (dσ σ D.flatten (starts 0 D)) (dη t σ.length last l (some (.lst (acc.map V.str))) s p)=some (.next,dσ σ [] [],dη t σ.length last l (some (.lst ((D++acc).map V.str))) s' p')
 | 0,D,acc,s,p,h,_,_=>absurd h (Nat.not_lt_zero _)
 | n+1,D,acc,s,p,h,h1,h2=>by
  refine Or.elim (List.eq_nil_or_concat D) (fun h_l=>?_) (fun h_r=>?_)
  ·subst h_l
   exact y0 s p (g9 (eF (tq (af rfl) (rr gB (by decide)) (yW vE)) rfl))
  ·obtain ⟨D',q,rfl⟩:=h_r
   rw[List.concat_eq_append] at h h1 h2 ⊢
   refine byQ fun Q kQ=>?_
   rw[List.length_append,List.length_singleton] at h h2
   have es:starts 0 (D'++[q])=starts 0 D'++[D'.flatten.length]:=by rw[bn,Nat.zero_add]
   have c:evt F wy (dσ σ (D'++[q]).flatten (starts 0 (D'++[q]))) (dη t σ.length last l (some (.lst (acc.map V.str))) s p)=some (true,dσ σ (D'++[q]).flatten (starts 0 (D'++[q]))) :=
    eF (tq (af rfl) (rr gB (by decide)) ((yW vE).trans (by rw[es];simp))) rfl
   have f1:(D'++[q]).flatten=D'.flatten++q:=by simp
   obtain ⟨s',p',ih⟩:=qE K (last:=last) (l:=l) n D' (q::acc) (some (.int (D'.flatten.length:Nat))) (some (.lst (q.map pc))) (by exact Nat.le_of_lt_succ ‹_›) (by rw[f1,List.length_append] at h1;exact Nat.le_trans (Nat.le_add_right _ _) ‹_›) (by rw[List.length_cons];omega)
   refine kQ ?_
   refine y0 s' p' ((gQ c (xg K h1 (by omega))).trans (ih.trans ?_))
   rw[List.append_assoc];rfl
theorem sr:dq=(.seq (.asg 1 (.call 0 (.cons (.cst (.int 2)) .nil)))
 (.seq (.asg 2 (.new (.cons (.cst (.int 0)) .nil)))
 (.seq (.asg 3 (.cst (.str [])))
 (.seq (.for_ (.loc 4) (.loc 0) wX)
 (.seq (.asg 5 (.lst .nil))
 (.seq (.whil 1000 wy fl1)
 (.seq (.ret (.ite (.cmp .Eq (.call 9 (.cons (.loc 1) .nil)) (.cst (.int 2))) (.loc 5) (.lst (.cons (.cst (.str [32])) .nil))))
 .skip))))))):=rfl
theorem x9(K:DipOk F)(ht:t.length<=900):∃ ex,n9 F 1 9 dq [.str t] σ=some (.lst ((cB t).map V.str),σ++ex):=by
 refine byQ fun Q kQ=>?_
 obtain ⟨l,h1⟩:=xd (F:=F) (σ:=σ) K ht
 have hX:(cB t).length<=901:=by
  have:=(nr t).2.2
  show (_++[_]).length<=_
  rw[List.length_append,List.length_singleton]
  lia
 obtain ⟨s',p',h2⟩:=qE (F:=F) (σ:=σ) (t:=t) K (last:=(t.foldl aP ds0).last) (l:=l) 1000 (cB t) [] none none (by exact Nat.lt_of_le_of_lt ‹_› (by decide)) (by rw[eg];exact Nat.le_trans ‹_› (by decide)) (by rw[List.length_nil];exact Nat.le_trans ‹_› (by decide))
 rw[eg,List.append_nil] at h2
 refine kQ ?_
 refine⟨[⟨[],some 2⟩,⟨[],none⟩],?_⟩
 have h3:exs F (.whil 1000 wy fl1) (dσ σ t (starts 0 (cB t))) (dη t σ.length (t.foldl aP ds0).last l (some (.lst [])) none none)=some (.next,dσ σ [] [],dη t σ.length (t.foldl aP ds0).last l (some (.lst ((cB t).map V.str))) s' p'):=h2
 refine(sr)▸?_
 have a:F 0 [.int 2] σ=some (.ref σ.length,σ++[⟨[],some 2⟩]):=K.acc _ _
 have n:evx F (.new (.cons (.cst (.int 0)) .nil)) (σ++[⟨[],some 2⟩]) [some (.str t),some (.ref σ.length),none,none,none,none,none,none,none,none]=some (.ref (σ.length+1),dσ σ [] [0]):=by
  show some (V.ref (σ++[(⟨[],some 2⟩:AO)]).length,σ++[(⟨[],some 2⟩:AO)]++[(⟨[.int 0],none⟩:AO)])=_
  rw[List.length_append,List.append_assoc];rfl
 refine fJ rfl ((aX (ck (aT aw) a)).trans ((aX n).trans ((aX aw).trans ((ay h1).trans ((aX (rr gB (by decide))).trans ((ay h3).trans (mI (wp (bJ (σ:=dσ σ [] []) (ck (aT (af rfl)) ?_) aw (sG.trans (congrArg some (decide_eq_true (rfl:(2:Int)=2))))) (af rfl)))))))))
 rw[K.len]
 show (match (dσ σ [] [])[σ.length]? with
  | some ⟨l,some i⟩=>(kV l).bind fun ps=>if 0<=i+fH ps/\i+fH ps<1000000000 then some (V.int (i+fH ps),dσ σ [] []) else none
  | _=>none)=_
 refine(lE)▸?_
 rfl
end
theorem mo:∀ a b:List Nat,ck1 (ac a) (ac b)=(a==b)
 | [],[]=>rfl
 | [],_::_=>rfl
 | _::_,[]=>rfl
 | x::a,y::b=>by
  show (veq (.int (x:Int)) (.int (y:Int))&&ck1 (ac a) (ac b))=(x==y&&a==b)
  rw[mo a b,kB]
  congr 1
  rw[Bool.eq_iff_iff]
  simp only[decide_eq_true_eq,beq_iff_eq]
  lia
theorem bc1{σ:List AO}(a b:List Nat):f6 .Eq σ (.lst (ac a)) (.lst (ac b))=some (a==b):=by
 show (if okP 4 (.lst (ac a))&&okP 4 (.lst (ac b)) then some (veq (.lst (ac a)) (.lst (ac b))) else none)=_
 have o1:okP 4 (.lst (ac a))=true:=cW 3 a
 have o2:okP 4 (.lst (ac b))=true:=cW 3 b
 rw[o1,o2]
 exact congrArg some (mo a b)
theorem ww{σ:List AO}{u:List V}{i:Int}(h0:i<0)(h1:-1000000000<=i)(h2:0<=i+u.length):dW σ (.lst u) (.int i)=u[(i+u.length).toNat]?:=by
 show (if _ then _ else _)=_
 rw[if_pos ⟨h1,by lia⟩]
 show (match seqIndex? i u.length with | some k=>u[k]? | none=>none)=_
 rw[gq h0 h2]
theorem cc1{σ:List AO}{u:List V}(h:u≠[]):dW σ (.lst u) (.int (-1))=u.getLast?:=by
 have h0:0<u.length:=List.length_pos_iff.mpr h
 rw[ww (by decide) (by decide) (by lia),show (-1+(u.length:Int)).toNat=u.length - 1 by lia,List.getLast?_eq_getElem?]
theorem qC:∀ n:Nat,wf [.int 0] n=ac (List.replicate n 0)
 | 0=>rfl
 | n+1=>by
  show [V.int 0]++wf [.int 0] n=_
  rw[qC n];rfl
theorem b51{F:Fn}{a b:Ex}{σ:List AO}{η:ab}{k l:Bool}(h:evx F a σ η=some (.bool k,σ))(h':evx F b σ η=some (.bool l,σ)):evx F (.and a b) σ η=some (.bool (k&&l),σ):=by
 rw[qp,h]
 dsimp only
 cases k with
 | true=>exact h'
 | false=>rfl
theorem hH1{F:Fn}{a b:Ex}{σ:List AO}{η:ab}{k l:Bool}(h:evx F a σ η=some (.bool k,σ))(h':evx F b σ η=some (.bool l,σ)):evx F (.or a b) σ η=some (.bool (k || l),σ):=by
 rw[wv,h]
 dsimp only
 cases k with
 | true=>rfl
 | false=>exact h'
theorem wn{F:Fn}{a:Ex}{σ:List AO}{η:ab}{i:Int}(h:evx F a σ η=some (.int i,σ)):evx F (.neg a) σ η=some (.int (-i),σ):=by
 rw[qk,h]
theorem sD{F:Fn}{σ:List AO}{D:List (List Nat)}(h0:D≠[])(hl:D.length<=1000):n9 F 1 1 cK [.lst (D.map V.str)] σ=some (.bool (lP D),σ):=by
 have hl':(D.map V.str).length<=1000000:=by rw[List.length_map];lia
 have e1:(D.map V.str).getLast?=some (.str (D.getLast?.getD [0])):=by
  rw[List.getLast?_map,List.getLast?_eq_some_getLast h0];rfl
 have a:evx F (.cmp .Eq (.idx (.loc 0) (.neg (.cst (.int 1)))) (.cst (.str []))) σ (aO [.lst (D.map V.str)] 1)=some (.bool (D.getLast?.getD [0]).isEmpty,σ):=by
  refine bJ (b7 (af rfl) (wn aw) ((cc1 (by simpa using h0)).trans e1)) aw (pN.trans (congrArg some ?_))
  cases D.getLast?.getD [0] <;> rfl
 have b:=g8 (F:=F) (σ:=σ) (η:=aO [.lst (D.map V.str)] 1) (vars:=[⟨"dip",1,true⟩]) (i:=1) (elt:=.bin .Mod (.bf .len (.cons (.loc 1) .nil)) (.cst (.int 2))) (it:=.loc 0) (l:=D) (g:=V.str) (f:=fun d=>V.int ((d.length % 2:Nat):Int))
  (af rfl) rfl (fun d _=>aQ (n7 (aT (af rfl)) fY) aw (fy (by decide))) (Nat.le_trans hl (by decide))
 have eb:D.map (fun d=>V.int ((d.length % 2:Nat):Int))=ac (jm D):=by unfold ac jm;rw[List.map_map];rfl
 replace b:=(eb)▸b
 have n1:1<=D.length:=List.length_pos_iff.mpr h0
 have c:evx F (.bin .Add (.lst (.cons (.cst (.int 1)) .nil)) (.bin .Mult (.lst (.cons (.cst (.int 0)) .nil)) (.bin .Sub (.bf .len (.cons (.loc 0) .nil)) (.cst (.int 1))))) σ (aO [.lst (D.map V.str)] 1)=some (.lst (ac (1::List.replicate (D.length - 1) 0)),σ):=by
  refine aQ (rr (aT aw) (show 1<=lim by decide)) (y:=.lst (ac (List.replicate (D.length - 1) 0))) (aQ (rr (aT aw) (show 1<=lim by decide)) (y:=.int ((D.length - 1:Nat):Int)) (aQ (n7 (aT (af rfl)) qW) aw ?_) ?_) ?_
  ·rw[nJ,List.length_map]
   exact congrArg (fun z=>some (V.int z)) (by omega)
  ·show (if ((D.length - 1:Nat):Int)<=1000000/\-1000000<=((D.length - 1:Nat):Int)/\1*((D.length - 1:Nat):Int).toNat<=lim then some (V.lst (wf [.int 0] ((D.length - 1:Nat):Int).toNat)) else none)=_
   rw[if_pos ⟨by omega,by lia,by unfold lim;omega⟩,Int.toNat_natCast,qC]
  ·refine kl.trans (if_pos ?_)
   unfold ac lim
   rw[List.length_map,List.length_replicate]
   show 1+(D.length - 1)<=1000000
   omega
 exact fJ rfl (mI (b51 a (bJ b c (bc1 _ _))))
noncomputable def kY(s sub:Str)(hi limit:Nat)(st:Array Nat×Nat)(i:Nat):Array Nat×Nat:=if ((st.fst.size<limit/\st.snd<=i)/\i+sub.length<=hi)/\subAt s sub i=true then (st.fst.push i,i+sub.length) else st
theorem gT(s sub:Str)(hi limit:Nat):∀ (l:List Nat) (st:Array Nat×Nat),(forIn l st (occBody s sub hi limit)).run=l.foldl (kY s sub hi limit) st
 | [],_=>rfl
 | a::l,st=>by
  rw[List.forIn_cons,List.foldl_cons]
  dsimp only[occBody]
  by_cases h:((st.fst.size<limit/\st.snd<=a)/\a+sub.length<=hi)/\subAt s sub a=true
  ·rw[if_pos h,show kY s sub hi limit st a=(st.fst.push a,a+sub.length) from if_pos h]
   exact gT s sub hi limit l _
  ·rw[if_neg h,show kY s sub hi limit st a=st from if_neg h]
   exact gT s sub hi limit l _
theorem fO{s sub:Str}{hi limit:Nat}:∀ (l:List Nat) (st:Array Nat×Nat),(∀ i∈l,¬ (i+sub.length<=hi/\subAt s sub i=true))->l.foldl (kY s sub hi limit) st=st
 | [],_,_=>rfl
 | a::l,st,h=>by
  rw[List.foldl_cons,show kY s sub hi limit st a=st from if_neg fun q=>h a List.mem_cons_self ⟨q.1.2,q.2⟩]
  exact fO l st fun i hi=>h i (List.mem_cons_of_mem _ hi)
theorem xo{s sub:Str}{hi limit i0:Nat}(h1:1<=limit)(h0:i0+sub.length<=hi)(hit:subAt s sub i0=true)(uniq:∀ i,i+sub.length<=hi->subAt s sub i=true->i=i0):occurrences s sub 0 hi limit=[i0]:=by
 rw[occ_eq,gT]
 have e:List.range' 0 (hi+1 - 0)=List.range' 0 i0++i0::List.range' (i0+1) (hi - i0):=by
  have a:=List.range'_append (s:=0) (m:=i0) (n:=hi+1 - i0) (step:=1)
  rw[show 0+1*i0=i0 by lia,show hi+1 - i0=(hi - i0)+1 by lia,List.range'_succ] at a
  rw[show hi+1 - 0=i0+(hi - i0+1) by lia,← a]
 have s1:=fO (s:=s) (sub:=sub) (hi:=hi) (limit:=limit) (List.range' 0 i0) (#[],0) (fun i hi q=>by have:=uniq i q.1 q.2;have:=(List.mem_range'_1.mp hi).2;lia)
 have s2:=fO (s:=s) (sub:=sub) (hi:=hi) (limit:=limit) (List.range' (i0+1) (hi - i0)) (#[i0],i0+sub.length) (fun i hi q=>by have:=uniq i q.1 q.2;have:=(List.mem_range'_1.mp hi).1;lia)
 rw[e,List.foldl_append,s1,List.foldl_cons,show kY s sub hi limit (#[],0) i0=(#[i0],i0+sub.length) from if_pos ⟨⟨⟨h1,Nat.zero_le _⟩,h0⟩,hit⟩,s2]
noncomputable def b5:List Nat:=[46,46,46]
theorem xI(x:Str):PySem.Builtin.Str.strKind x<PySem.Builtin.Str.strKind (S' b5)↔False:=by
 have e:PySem.Builtin.Str.strKind (S' b5)=1:=by decide +kernel
 refine(e)▸?_
 unfold PySem.Builtin.Str.strKind
 split
 ·simp
 ·split <;> simp
theorem jP{x:List Nat}{i0:Nat}(h0:i0+3<=x.length)(hit:(x.drop i0).take 3=b5)(uniq:∀ i,i+3<=x.length->(x.drop i).take 3=b5->i=i0) :
  (Txt.split (S' x) (S' b5)).map (fun z=>z.cps.toList)=[x.take i0,x.drop (i0+3)]/\Txt.contains (S' x) (S' b5)=true:=by
 have hl:(S' x).length=x.length:=by show x.toArray.size=_;simp
 have hd:(S' b5).length=3:=rfl
 have at_:∀ i,subAt (S' x) (S' b5) i=((x.drop i).take 3==b5):=fun i=>by rw[subAt_eq];rfl
 have oc:∀ limit,1<=limit->occurrences (S' x) (S' b5) 0 (S' x).length limit=[i0]:=fun limit h=>xo h (by rw[hl,hd];exact h0) (by rw[at_,hit];exact BEq.rfl) (fun i h q=>uniq i (by rw[hl,hd] at h;exact h) (by rw[at_] at q;exact beq_iff_eq.mp q))
 constructor
 ·unfold Txt.split
  rw[oc _ (Nat.le_add_left _ _),if_neg (by
   rw[Bool.or_eq_true,decide_eq_true_eq,decide_eq_true_eq,hl,hd]
   rintro (h | h)
   ·lia
   ·exact(xI _).mp h),if_neg (by simp),partsBetween_eq]
  show [(strSub (S' x) 0 i0).cps.toList,(strSub (S' x) (i0+3) (S' x).length).cps.toList]=_
  rw[strSub_toList,strSub_toList,hl]
  show [(x.drop 0).take (i0 - 0),(x.drop (i0+3)).take (x.length - (i0+3))]=_
  rw[List.take_of_length_le (i:=x.length - (i0+3)) (by rw[List.length_drop];exact Nat.le_refl _)];rfl
 ·unfold Txt.contains
  rw[oc 1 (Nat.le_refl _)];rfl
theorem zI{w:List Nat}(h:∀ c∈w,c≠46):(Txt.split (S' (w++b5)) (S' b5)).map (fun z=>z.cps.toList)=[w,[]]/\Txt.contains (S' (w++b5)) (S' b5)=true:=by
 have:=jP (x:=w++b5) (i0:=w.length) (by simp [b5]) (by simp [b5]) (fun i hi e=>by
  refine Or.elim (Nat.lt_or_ge i w.length) (fun q=>?_) (fun q=>?_)
  ·have e2:=congrArg (fun l=>l[0]?) e
   simp only[List.getElem?_take,List.getElem?_drop,Nat.add_zero] at e2
   rw[List.getElem?_append_left q,List.getElem?_eq_getElem q] at e2
   exact absurd (siX e2) (h _ (List.getElem_mem q))
  ·rw[List.length_append] at hi
   have:b5.length=3:=rfl
   lia)
 simpa [b5] using this
theorem zH{w:List Nat}(h:∀ c∈w,c≠46):(Txt.split (S' (b5++w)) (S' b5)).map (fun z=>z.cps.toList)=[[],w]/\Txt.contains (S' (b5++w)) (S' b5)=true:=by
 have:=jP (x:=b5++w) (i0:=0) (by simp [b5]) rfl (fun i hi e=>by
  refine Or.elim (Nat.eq_zero_or_pos i) (fun q=>?_) (fun q=>?_)
  ·exact q
  ·have e2:=congrArg (fun l=>l[2]?) e
   have hd:b5.length=3:=rfl
   rw[List.length_append,hd] at hi
   simp only[List.getElem?_take,List.getElem?_drop] at e2
   have q2:i - 1<w.length:=by omega
   rw[List.getElem?_append_right (by solve_by_elim (maxDepth:=4) only [*,Nat.le_trans,Nat.lt_of_lt_of_le,Nat.lt_of_le_of_lt,Nat.le_of_lt,Nat.le_of_eq,Nat.le_refl,Eq.symm,Nat.le_add_right,Nat.le_add_left,Nat.le_succ,Nat.sub_le,Nat.succ_le_succ,Nat.lt_succ_of_le,Nat.le_of_lt_succ,Nat.zero_le,Nat.succ_pos,Int.ofNat_le.mpr,Int.ofNat_lt.mpr,Int.natCast_nonneg,Nat.not_le.mpr,Nat.not_lt.mpr,Nat.not_le.mp,Nat.not_lt.mp]),show i+2 - b5.length=i - 1 by solve_by_elim (maxDepth:=4) only [*,Nat.le_trans,Nat.lt_of_lt_of_le,Nat.lt_of_le_of_lt,Nat.le_of_lt,Nat.le_of_eq,Nat.le_refl,Eq.symm,Nat.le_add_right,Nat.le_add_left,Nat.le_succ,Nat.sub_le,Nat.succ_le_succ,Nat.lt_succ_of_le,Nat.le_of_lt_succ,Nat.zero_le,Nat.succ_pos,Int.ofNat_le.mpr,Int.ofNat_lt.mpr,Int.natCast_nonneg,Nat.not_le.mpr,Nat.not_lt.mpr,Nat.not_le.mp,Nat.not_lt.mp],List.getElem?_eq_getElem q2] at e2
   exact absurd (siX e2) (h _ (List.getElem_mem q2)))
 exact this
theorem dQ{σ:List AO}{k:Nat}{l:List V}(h:σ[k]?=some ⟨l,none⟩):der σ (.ref k)=.lst l:=by
 show (match σ[k]? with | some ⟨items,none⟩=>V.lst items | _=>V.ref k)=_
 rw[h]
theorem rs{σ:List AO}{u:V}{i:Int}{l:List V}{j:Nat}(hi:-1000000000<=i/\i<=1000000000)(hd:der σ u=.lst l)(hj:seqIndex? i l.length=some j):dW σ u (.int i)=l[j]?:=by
 unfold dW
 dsimp only
 rw[if_pos hi,hd]
 dsimp only
 rw[hj]
noncomputable def eB:Sx:=(.seq (.asg 3 (.me .find3 (.loc 1) (.cons (.loc 5) (.cons (.loc 3) (.cons (.loc 4) .nil)))))
 (.seq (.ite (.cmp .Lt (.loc 3) (.cst (.int 0))) (.seq (.ret (.cst (.bool false)))
 .skip) .skip)
 (.seq (.aug 3 .Add (.bf .len (.cons (.loc 5) .nil)))
 .skip)))
theorem vK{σ:List AO}{k:Nat}{l:List V}(h:σ[k]?=some ⟨l,none⟩):bfF .len σ [.ref k]=some (.int l.length):=by
 show (match der σ (.ref k) with | .str l=>some (V.int l.length) | .tup l=>some (.int l.length) | .lst l=>some (.int l.length) | _=>none)=_
 rw[dQ h]
theorem wu{F:Fn}{o y:Ex}{σ:List AO}{η:ab}:evx F (.split o y) σ η=(match evx F o σ η with
  | some (.str x,σ₁)=>match evx F y σ₁ η with
   | some (.str y,σ₂)=>if y≠[]/\(Txt.split (S' x) (S' y)).length<=lim/\(Txt.split (S' x) (S' y)).all (fun z=>decide (z.cps.toList.length<=lim))=true then
     some (.ref σ₂.length,σ₂++[⟨(Txt.split (S' x) (S' y)).map fun z=>.str z.cps.toList,none⟩]) else none
   | _=>none
  | _=>none):=rfl
theorem zk{F:Fn}{o:Ex}{i:Int}{σ:List AO}{η:ab}:exs F (.del o i) σ η=(match evx F o σ η with
  | some (.ref k,σ₁)=>match σ₁[k]? with
   | some ⟨l,none⟩=>if -1000000000<=i/\i<=1000000000 then match seqIndex? i l.length with
    | some j=>some (.next,σ₁.set k ⟨l.eraseIdx j,none⟩,η)
    | none=>none
    else none
   | _=>none
  | _=>none):=rfl
section
variable {F:Fn} {σ σ₁ σ₂:List AO} {η η₂:ab} {e c o:Ex} {S S' R:Sx} {v u w x:V} {i:Nat}
theorem fR1{op:Operator}(h0:η[i]?=some (some u))(h:evx F e σ η=some (v,σ₁))(h2:bY1 op u v=some w):exs F (.aug i op e) σ η=some (.next,σ₁,η.set i (some w)):=by
 rw[b61,h0]
 dsimp only
 rw[h]
 dsimp only
 rw[h2];rfl
theorem b41{k j:Nat}{i:Int}{l:List V}(h:evx F o σ η=some (.ref k,σ₁))(hk:σ₁[k]?=some ⟨l,none⟩)(hi:-1000000000<=i/\i<=1000000000)(hj:seqIndex? i l.length=some j):exs F (.del o i) σ η=some (.next,σ₁.set k ⟨l.eraseIdx j,none⟩,η):=by
 rw[zk,h]
 dsimp only
 refine(hk)▸?_
 dsimp only
 rw[if_pos hi,hj]
theorem mJ(h:evx F c σ η=some (x,σ₁))(h':aM x=some true)(hb:exs F S σ₁ η=some (.next,σ₂,η₂)):exs F (.seq (.ite c S S') R) σ η=exs F R σ₂ η₂:=ay ((mf (eF h h')).trans hb)
theorem yP(h:evx F c σ η=some (x,σ₁))(h':aM x=some true)(hb:exs F S σ₁ η=some (.ret v,σ₂,η₂)):exs F (.seq (.ite c S S') R) σ η=some (.ret v,σ₂,η₂):=by
 rw[gZ,mf (eF h h'),if_pos rfl,hb]
theorem yQ(h:evx F c σ η=some (x,σ₁))(h':aM x=some false)(hb:exs F S' σ₁ η=some (.ret v,σ₂,η₂)):exs F (.seq (.ite c S S') R) σ η=some (.ret v,σ₂,η₂):=by
 rw[gZ,mf (eF h h'),if_neg Bool.false_ne_true,hb]
theorem xc{op:Operator}(h0:η[i]?=some (some u))(h:evx F e σ η=some (v,σ₁))(h2:bY1 op u v=some w):exs F (.seq (.aug i op e) R) σ η=exs F R σ₁ (η.set i (some w)):=ay (fR1 h0 h h2)
end
theorem jW{s sub:Str}{hi:Nat}:∀ (l:List Nat) (st:Array Nat×Nat),1<=st.fst.size->l.foldl (kY s sub hi 1) st=st
 | [],_,_=>rfl
 | a::l,st,h=>by
  rw[List.foldl_cons,show kY s sub hi 1 st a=st from if_neg fun q=>absurd q.1.1.1 (by lia)]
  exact jW l st h
theorem x7{σ:List AO}(t:List Nat)(p e:Nat)(h:p<=e)(h':e<=t.length):meF .find3 σ (.str t) [.str [],.int (p:Int),.int (e:Int)]=some (.int (p:Int)):=by
 have o:occurrences (S' t) (S' []) p e 1=[p]:=by
  rw[occ_eq,gT,show e+1 - p=(e - p)+1 by lia,List.range'_succ,List.foldl_cons]
  have hit:subAt (S' t) (S' []) p=true:=by rw[subAt_eq];rfl
  rw[show kY (S' t) (S' []) e 1 (#[],p) p=(#[p],p+0) from if_pos ⟨⟨⟨Nat.zero_lt_one,Nat.le_refl _⟩,h⟩,hit⟩,jW _ _ (Nat.le_refl _)]
 show (if (0:Int)<=(p:Int)/\(0:Int)<=(e:Int)/\(e:Int)<=(t.length:Nat) then some (V.int (match occurrences (S' t) (S' []) (p:Int).toNat (e:Int).toNat 1 with | k::_=>(k:Int) | []=>-1)) else none)=_
 rw[if_pos ⟨Int.natCast_nonneg _,Int.natCast_nonneg _,Int.ofNat_le.mpr h'⟩,Int.toNat_natCast,Int.toNat_natCast,o]
noncomputable def gη(P t:List Nat)(k p e:Nat)(w:V):ab:=[some (.str P),some (.str t),some (.ref k),some (.int (p:Int)),some (.int (e:Int)),some w]
noncomputable def ev1:Sx:=(.seq (.ite (.cmp .Gt (.loc 3) (.loc 4)) (.seq (.ret (.cst (.bool false))) .skip) .skip) (.seq (.for_ (.loc 5) (.loc 2) eB) (.seq (.ret (.cst (.bool true))) .skip)))
section
variable {F:Fn} {σ:List AO} {P t w:List Nat} {k p e:Nat}
theorem qs{u:V}(hk:σ[k]?=some ⟨[.str []],none⟩)(h:p<=e)(h':e<=t.length):∃ η',exs F ev1 σ (gη P t k p e u)=some (.ret (.bool true),σ,η'):=by
 have fu:(ItS.dyn k 0).fuel σ=2:=by
  show (match σ[k]? with | some ⟨items,_⟩=>items.length+1 | none=>0)=_
  rw[hk];rfl
 have s1:(ItS.dyn k 0).step σ=some (some (.str [],.dyn k 1)):=by rw[ItS.step_dyn,hk];rfl
 have s2:(ItS.dyn k 1).step σ=some none:=by rw[ItS.step_dyn,hk];rfl
 have b:exs F eB σ (gη P t k p e (.str []))=some (.next,σ,gη P t k p e (.str [])):=by
  refine(aX (tp (af rfl) rfl (b4 (af rfl) (b4 (af rfl) (b4 (af rfl) gB))) (x7 t p e h h'))).trans ?_
  refine(s8 (bJ (af rfl) aw (lU.trans (congrArg some (decide_eq_false (by lia)))))).trans ?_
  refine(xc (w:=.int (p:Int)) rfl (n7 (aT (af rfl)) fY) ?_).trans bW
  show some (V.int ((p:Int)+0))=_
  rw[Int.add_zero]
 refine⟨gη P t k p e (.str []),(s8 (bJ (af rfl) (af rfl) (nF.trans (congrArg some (decide_eq_false (by lia)))))).trans ((ay ((fQ1 (af rfl) rfl).trans ?_)).trans (mI aw))⟩
 rw[fu,xZ s1 rfl]
 show (match exs F eB σ (gη P t k p e (.str [])) with
  | some (.next,σ₂,η₂)=>foN (.loc 5) (fun σ η=>exs F eB σ η) 1 (.dyn k 1) σ₂ η₂
  | some (.brk,σ₂,η₂)=>some (.next,σ₂,η₂)
  | r=>r)=_
 rw[b]
 exact xY s2
theorem dr1(h:Txt.contains (S' P) (S' b5)=true):f6 .NotIn σ (.str b5) (.str P)=some false:=congrArg (fun b=>some (!b)) h
theorem uF{W:List (List Nat)}(h:(Txt.split (S' P) (S' b5)).map (fun z=>z.cps.toList)=W)(hl:W.length<=1000)(hw:∀ w∈W,w.length<=1000){η:ab}(h0:η[0]?=some (some (.str P))):evx F (.split (.loc 0) (.glo b5)) σ η=some (.ref σ.length,σ++[⟨W.map V.str,none⟩]):=by
 rw[wu,af h0]
 show (if b5≠[]/\(Txt.split (S' P) (S' b5)).length<=lim/\(Txt.split (S' P) (S' b5)).all (fun z=>decide (z.cps.toList.length<=lim))=true then
     some (V.ref σ.length,σ++[⟨(Txt.split (S' P) (S' b5)).map fun z=>V.str z.cps.toList,none⟩]) else none)=_
 have e:(Txt.split (S' P) (S' b5)).length=W.length:=by rw[← h,List.length_map]
 rw[if_pos ⟨by decide,by rw[e];exact Nat.le_trans hl (by decide),List.all_eq_true.mpr fun z hz=>decide_eq_true (Nat.le_trans (hw _ (h▸List.mem_map.mpr ⟨z,hz,rfl⟩)) (by decide))⟩,← h,List.map_map]
 rfl
end
theorem ox(t w:List Nat):Txt.startswith (S' t) (S' w)=(t.take w.length==w):=by
 unfold Txt.startswith
 have h1:(S' w).length=w.length:=by show w.toArray.size=_;simp
 have h2:(S' t).length=t.length:=by show t.toArray.size=_;simp
 rw[subAt_eq,h1,h2]
 show (decide (0+w.length<=t.length)&&((t.drop 0).take w.toArray.size==w))=_
 rw[List.drop_zero,List.size_toArray]
 by_cases h:(t.take w.length==w)=true
 ·rw[h]
  have:=congrArg List.length (beq_iff_eq.mp h)
  rw[List.length_take] at this
  rw[decide_eq_true (by lia)];rfl
 ·rw[Bool.eq_false_iff.mpr h,Bool.and_false]
theorem vA(t w:List Nat):Txt.endswith (S' t) (S' w)=(decide (w.length<=t.length)&&(t.drop (t.length - w.length)==w)):=by
 unfold Txt.endswith
 have h1:(S' w).length=w.length:=by show w.toArray.size=_;simp
 have h2:(S' t).length=t.length:=by show t.toArray.size=_;simp
 rw[subAt_eq,h1,h2]
 show (decide (0+w.length<=t.length)&&((t.drop (t.length - w.length)).take w.toArray.size==w))=_
 rw[Nat.zero_add,List.size_toArray]
 by_cases h:w.length<=t.length
 ·rw[decide_eq_true h,List.take_of_length_le (by rw[List.length_drop];lia)]
 ·rw[decide_eq_false h];rfl
theorem wD{w:List Nat}(h:w≠[]):aM (.str w)=some true:=by cases w with | nil=>exact absurd rfl h | cons a l=>rfl
section
variable {F:Fn} {σ:List AO} {P t w:List Nat} {X Y:V}
noncomputable def eσ(σ:List AO)(l:List V):List AO:=σ++[⟨l,none⟩]
theorem ed{l:List V}:(eσ σ l)[σ.length]?=some ⟨l,none⟩:=by unfold eσ;simp
theorem pq{l m:List V}:(eσ σ l).set σ.length ⟨m,none⟩=eσ σ m:=by unfold eσ;simp
theorem xQ{l:List V}{x:V}:dW (eσ σ (x::l)) (.ref σ.length) (.int 0)=some x:=rs (j:=0) (by decide) (dQ ed) (bp (by decide) (by simp))
theorem a31{l:List V}{x:V}:dW (eσ σ (l++[x])) (.ref σ.length) (.int (-1))=some x:=(rs (j:=l.length) (by decide) (dQ ed) ((gq (by decide) (by rw[List.length_append,List.length_singleton];omega)).trans (congrArg some (by rw[List.length_append,List.length_singleton];lia)))).trans (by simp)
noncomputable def g41:Sx:=(.seq (.asg 5 (.idx (.loc 2) (.cst (.int 0))))
 (.seq (.ite (.loc 5) (.seq (.ite (.me .startswith (.loc 1) (.cons (.loc 5) .nil)) (.seq (.asg 3 (.bf .len (.cons (.loc 5) .nil)))
 (.seq (.del (.loc 2) (0))
 .skip)) (.seq (.ret (.cst (.bool false)))
 .skip))
 .skip) .skip)
 (.seq (.asg 5 (.idx (.loc 2) (.neg (.cst (.int 1)))))
 (.seq (.ite (.loc 5) (.seq (.ite (.me .endswith (.loc 1) (.cons (.loc 5) .nil)) (.seq (.aug 4 .Sub (.bf .len (.cons (.loc 5) .nil)))
 (.seq (.del (.loc 2) (-1))
 .skip)) (.seq (.ret (.cst (.bool false)))
 .skip))
 .skip) .skip)
 ev1))))
noncomputable def hη(P t:List Nat)(k:Nat):ab:=[some (.str P),some (.str t),some (.ref k),some (.int 0),some (.int (t.length:Nat)),none]
theorem gV(h:(Txt.split (S' P) (S' b5)).map (fun z=>z.cps.toList)=[w,[]]\/(Txt.split (S' P) (S' b5)).map (fun z=>z.cps.toList)=[[],w])(hc:Txt.contains (S' P) (S' b5)=true)(hl:w.length<=1000){W:List (List Nat)}(hW:(Txt.split (S' P) (S' b5)).map (fun z=>z.cps.toList)=W){b:Bool}{σ':List AO}
  (hr:∃ η',exs F g41 (eσ σ (W.map V.str)) (hη P t σ.length)=some (.ret (.bool b),σ',η')):n9 F 2 4 aL [.str P,.str t] σ=some (.bool b,σ'):=by
 have h2:W.length=2/\∀ w∈W,w.length<=1000:=by
  rcases h with h | h <;> (rw[← hW,h];refine⟨rfl,fun x hx=>?_⟩;simp only[List.mem_cons,List.not_mem_nil,or_false] at hx;rcases hx with rfl | rfl <;> first | exact hl | exact Nat.zero_le _)
 refine a9 hr fun η' hr=>?_
 exact fJ rfl ((s8 (bJ rfl (af rfl) (dr1 hc))).trans ((aX (uF hW (by rw[h2.1];decide) h2.2 rfl)).trans ((dh1 (tq (n7 (aT (af rfl)) (vK ed)) aw (yl.trans (congrArg some (decide_eq_true (by rw[List.length_map,h2.1];decide)))))).trans
  ((dj1 (fM1 (b4 aw (aT (n7 (aT (af rfl)) fY))) (show 2<=lim by decide))).trans hr))))
theorem g31(hw:w≠[])(h46:∀ c∈w,c≠46)(hl:w.length<=1000):∃ ex,n9 F 2 4 aL [.str (w++b5),.str t] σ=some (.bool (t.take w.length==w),σ++ex):=by
 have S:=zI h46
 have me:evx F (.me .startswith (.loc 1) (.cons (.loc 5) .nil)) (eσ σ [.str w,.str []]) ((hη (w++b5) t σ.length).set 5 (some (.str w)))=some (.bool (t.take w.length==w),eσ σ [.str w,.str []]):=by
  rw[← ox]
  exact tp (af rfl) rfl (aT (af rfl)) rfl
 cases hb:(t.take w.length==w) with
 | false =>
  rw[hb] at me
  exact⟨_,gV (.inl S.1) S.2 hl S.1 ⟨_,(aX (b7 (af rfl) aw xQ)).trans (yP (af rfl) (wD hw) (yQ me rfl (mI aw)))⟩⟩
 | true =>
  rw[hb] at me
  have hle:w.length<=t.length:=by
   have:=congrArg List.length (beq_iff_eq.mp hb)
   rw[List.length_take] at this
   lia
  obtain ⟨η',h2⟩:=qs (F:=F) (σ:=eσ σ [.str []]) (P:=w++b5) (t:=t) (k:=σ.length) (p:=w.length) (e:=t.length) ed hle (Nat.le_refl _)
  have del:=b41 (F:=F) (σ:=eσ σ [.str w,.str []]) (η:=((hη (w++b5) t σ.length).set 5 (some (.str w))).set 3 (some (.int (w.length:Nat)))) (o:=.loc 2) (i:=0) (j:=0) (af rfl) ed (by decide) rfl
  rw[pq] at del
  refine⟨[⟨[.str []],none⟩],gV (σ':=eσ σ [.str []]) (.inl S.1) S.2 hl S.1 ⟨η',(aX (b7 (af rfl) aw xQ)).trans ((mJ (af rfl) (wD hw) ((mJ me rfl ((aX (n7 (aT (af rfl)) fY)).trans ((ay del).trans bW))).trans bW)).trans ?_)⟩⟩
  exact(aX (b7 (af rfl) (wn aw) (a31 (l:=[])))).trans ((aa1 (af rfl) rfl).trans h2)
theorem g21(hw:w≠[])(h46:∀ c∈w,c≠46)(hl:w.length<=1000):∃ ex,n9 F 2 4 aL [.str (b5++w),.str t] σ=some (.bool (decide (w.length<=t.length)&&(t.drop (t.length - w.length)==w)),σ++ex):=by
 have S:=zH h46
 have me:evx F (.me .endswith (.loc 1) (.cons (.loc 5) .nil)) (eσ σ [.str [],.str w]) ((hη (b5++w) t σ.length).set 5 (some (.str w)))=some (.bool (decide (w.length<=t.length)&&(t.drop (t.length - w.length)==w)),eσ σ [.str [],.str w]):=by
  rw[← vA]
  exact tp (af rfl) rfl (aT (af rfl)) rfl
 cases hb:(decide (w.length<=t.length)&&(t.drop (t.length - w.length)==w)) with
 | false =>
  rw[hb] at me
  exact⟨_,gV (.inr S.1) S.2 hl S.1 ⟨_,(aX (b7 (af rfl) aw xQ)).trans ((aa1 (af rfl) rfl).trans ((aX (b7 (af rfl) (wn aw) (a31 (l:=[.str []])))).trans (yP (af rfl) (wD hw) (yQ me rfl (mI aw)))))⟩⟩
 | true =>
  rw[hb] at me
  have hle:w.length<=t.length:=of_decide_eq_true (ak hb).1
  obtain ⟨η',h2⟩:=qs (F:=F) (σ:=eσ σ [.str []]) (P:=b5++w) (t:=t) (k:=σ.length) (p:=0) (e:=t.length - w.length) ed (Nat.zero_le _) (Nat.sub_le _ _)
  have del:=b41 (F:=F) (σ:=eσ σ [.str [],.str w]) (η:=((hη (b5++w) t σ.length).set 5 (some (.str w))).set 4 (some (.int ((t.length - w.length:Nat):Int)))) (o:=.loc 2) (i:=-1) (j:=1) (af rfl) ed (by decide) rfl
  rw[pq] at del
  have sub:bY1 .Sub (.int (t.length:Nat)) (.int (w.length:Nat))=some (.int ((t.length - w.length:Nat):Int)):=by
   show some (V.int ((t.length:Int) - (w.length:Int)))=_
   rw[Int.ofNat_sub hle]
  refine⟨[⟨[.str []],none⟩],gV (σ':=eσ σ [.str []]) (.inr S.1) S.2 hl S.1 ⟨η',(aX (b7 (af rfl) aw xQ)).trans ((aa1 (af rfl) rfl).trans ((aX (b7 (af rfl) (wn aw) (a31 (l:=[.str []])))).trans ?_))⟩⟩
  exact(mJ (af rfl) (wD hw) ((mJ me rfl ((xc rfl (n7 (aT (af rfl)) fY) sub).trans ((ay del).trans bW))).trans bW)).trans h2
end
section
variable {F:Fn} {σ σ₁ σ₂:List AO} {η:ab} {e a b:Ex} {S R:Sx} {v w x y:V} {vs:List V} {i:Nat}
theorem di1(h:evx F e σ η=some (.lst vs,σ₁)):exs F (.seq (.asgM i e) R) σ η=exs F R (σ₁++[⟨vs,none⟩]) (η.set i (some (.ref σ₁.length))):=ay (by rw[zl,h])
theorem tm:evx F (.new .nil) σ η=some (.ref σ.length,σ++[⟨[],none⟩]):=rfl
theorem aW{i:Nat}{x:AO}{ex:List AO}(h:σ[i]?=some x):(σ++ex)[i]?=some x:=by rw[List.getElem?_append_left (List.getElem?_eq_some_iff.mp h).1];exact h
theorem da{i j:Nat}{x y:AO}(h:σ[i]?=some x)(hij:j≠i):(σ.set j y)[i]?=some x:=by rw[List.getElem?_set_ne hij];exact h
theorem fW{i:Nat}{x y:AO}(h:σ[i]?=some x):(σ.set i y)[i]?=some y:=by rw[List.getElem?_set_self (List.getElem?_eq_some_iff.mp h).1]
theorem yx{b:Int}(h:evx F e σ η=some (.int b,σ₁))(h1:-1000000<=b)(h2:b<=1000000):evx F (.range (.cons e .nil)) σ η=some (.rng 0 b 1,σ₁):=by
 rw[er,b4 h gB]
 show (if e9 0 b 1 then some (V.rng 0 b 1) else none).map _=_
 have:e9 0 b 1=true:=by unfold e9;simp;exact⟨h1,h2⟩
 rw[if_pos this];rfl
theorem u9(b:Int):ba (.rng 0 b 1)=some (.seq ((List.range b.toNat).map fun (k:Nat)=>V.int (k:Int))):=by
 show some (ItS.seq (bP 0 b 1))=_
 rcases Int.lt_or_le b 0 with h | h
 ·have e:(Builtin.Range.rangeSize 0 b 1).toNat=0:=by unfold Builtin.Range.rangeSize;rw[if_pos (by decide),if_neg (by lia)];rfl
  unfold bP
  rw[e,show b.toNat=0 by lia];rfl
 ·obtain ⟨n,rfl⟩:=Int.eq_ofNat_of_zero_le h
  rw[mF n,Int.toNat_natCast];rfl
theorem cb1{e1 e2 e3:Ex}{p q r:Int}(h1:evx F e1 σ η=some (.int p,σ))(h2:evx F e2 σ η=some (.int q,σ))(h3:evx F e3 σ η=some (.int r,σ))(ok:e9 p q r=true):evx F (.range (.cons e1 (.cons e2 (.cons e3 .nil)))) σ η=some (.rng p q r,σ):=by
 rw[er,b4 h1 (b4 h2 (b4 h3 gB))]
 show (if e9 p q r then some (V.rng p q r) else none).map _=_
 rw[if_pos ok];rfl
theorem cd1{p q r:Int}(h:evx F e σ η=some (.rng p q r,σ))(hl:(bP p q r).length<=lim):evx F (.list (.cons e .nil)) σ η=some (.lst (bP p q r),σ):=by
 rw[zn,aT h]
 show (if (bP p q r).length<=lim then some (V.lst (bP p q r)) else none).map _=_
 rw[if_pos hl];rfl
end
theorem nA{α:Type}{elt:List AO->ab->Option (V×List AO)}{i k:Nat}{σ:List AO}{g f:α->V}{L:List α}(hk:σ[k]?=some ⟨L.map g,none⟩):∀ (l:List α) (j:Nat) (η:ab) (n:Nat),l.length<n->L.drop j=l ->
  (∀ x∈l,elt σ (η.set i (some (g x)))=some (f x,σ))->cR (.loc i) (fun σ η=>some (true,σ)) elt n (.dyn k j) σ η=some (l.map f,σ)
 | l,j,η,0,h,_,_=>by simp at h
 | [],j,η,n+1,_,hd,_=>by
  have st:(ItS.dyn k j).step σ=some none:=by
   rw[ItS.step_dyn,hk]
   dsimp only
   have:(L.map g)[j]?=none:=by rw[List.getElem?_eq_none_iff,List.length_map];exact List.drop_eq_nil_iff.mp hd
   rw[this]
  show (match (ItS.dyn k j).step σ with
   | none=>none
   | some none=>some ([],σ)
   | some (some (x,st'))=>match asF (.loc i) x η with
    | none=>none
    | some η₁=>_)=_
  rw[st];rfl
 | x::l,j,η,n+1,h,hd,he=>by
  have hj:L[j]?=some x:=by
   have:=congrArg (fun l=>l[0]?) hd
   simpa using this
  have hd':L.drop (j+1)=l:=by
   have:=congrArg (List.drop 1) hd
   rw[List.drop_drop] at this
   exact this
  have st:(ItS.dyn k j).step σ=some (some (g x,.dyn k (j+1))):=by
   rw[ItS.step_dyn,hk]
   dsimp only
   rw[List.getElem?_map,hj];rfl
  have ih:=nA (elt:=elt) (i:=i) (f:=f) hk l (j+1) (η.set i (some (g x))) n (by simpa using h) hd' (fun y hy=>by rw[List.set_set];exact he y (List.mem_cons_of_mem _ hy))
  show (match (ItS.dyn k j).step σ with
   | none=>none
   | some none=>some ([],σ)
   | some (some (x,st'))=>match asF (.loc i) x η with
    | none=>none
    | some η₁=>match elt σ η₁ with
     | none=>none
     | some (v,σ₂)=>match cR (.loc i) (fun σ η=>some (true,σ)) elt n st' σ₂ η₁ with
      | none=>none
      | some (out,aj)=>some (v::out,aj))=_
  rw[st]
  show (match elt σ (η.set i (some (g x))) with
     | none=>none
     | some (v,σ₂)=>match cR (.loc i) (fun σ η=>some (true,σ)) elt n (.dyn k (j+1)) σ₂ (η.set i (some (g x))) with
      | none=>none
      | some (out,aj)=>some (v::out,aj))=_
  rw[he x List.mem_cons_self]
  dsimp only
  rw[ih];rfl
theorem zu{F:Fn}{σ:List AO}{η:ab}{vars:List Var}{i k:Nat}{elt it:Ex}{α:Type}{L:List α}{g f:α->V}(hit:evx F it σ η=some (.ref k,σ))(hk:σ[k]?=some ⟨L.map g,none⟩)
  (he:∀ y∈L,evx F elt σ ((clr η vars).set i (some (g y)))=some (f y,σ)) (hn:L.length<=lim):evx F (.comp vars (.loc i) elt it .nil) σ η=some (.lst (L.map f),σ):=by
 have fu:(ItS.dyn k 0).fuel σ=L.length+1:=by
  show (match σ[k]? with | some ⟨items,_⟩=>items.length+1 | none=>0)=_
  refine(hk)▸?_
  exact congrArg (·+1) (List.length_map _)
 rw[g7,hit]
 dsimp only
 show (match some (ItS.dyn k 0) with | some st=>_ | none=>none)=_
 dsimp only
 rw[fu,nA (f:=f) hk L 0 (clr η vars) (L.length+1) (Nat.lt_succ_self _) rfl he]
 dsimp only
 rw[List.length_map,if_pos hn]
theorem kg{α:Type}{cond:List AO->ab->Option (Bool×List AO)}{elt:List AO->ab->Option (V×List AO)}{i:Nat}{g f:α->V}{p:α->Bool}:∀ (l:List α) (σ:List AO) (η:ab) (n:Nat),l.length<n ->
  (∀ x∈l,∀ σ',(∃ ex,σ'=σ++ex)->(∃ ex,cond σ' (η.set i (some (g x)))=some (p x,σ'++ex))/\∀ fh1,elt fh1 (η.set i (some (g x)))=some (f x,fh1))->∃ ex,cR (.loc i) cond elt n (.seq (l.map g)) σ η=some ((l.filter p).map f,σ++ex)
 | l,σ,η,0,h,_=>by simp at h
 | [],σ,η,n+1,_,_=>⟨[],by rw[List.append_nil];rfl⟩
 | x::l,σ,η,n+1,h,hc=>by
  refine gu (hc x List.mem_cons_self σ ⟨[],(List.append_nil _).symm⟩) fun h_0 h2=>?_;obtain ⟨ex,h1⟩:=h_0
  obtain ⟨ex',ih⟩:=kg (cond:=cond) (elt:=elt) (i:=i) (g:=g) (f:=f) (p:=p) l (σ++ex) (η.set i (some (g x))) n (by simpa using h) (fun y hy σ' ⟨e2,he⟩=>by
   rw[List.set_set]
   exact hc y (List.mem_cons_of_mem _ hy) σ' ⟨ex++e2,by rw[he,List.append_assoc]⟩)
  refine⟨ex++ex',?_⟩
  rw[← List.append_assoc,List.map_cons]
  show (match cond σ (η.set i (some (g x))) with
   | none=>none
   | some (false,σ₁)=>cR (.loc i) cond elt n (.seq (l.map g)) σ₁ (η.set i (some (g x)))
   | some (true,σ₁)=>match elt σ₁ (η.set i (some (g x))) with
    | none=>none
    | some (v,σ₂)=>match cR (.loc i) cond elt n (.seq (l.map g)) σ₂ (η.set i (some (g x))) with
     | none=>none
     | some (out,aj)=>some (v::out,aj))=_
  refine(h1)▸?_
  cases hp:p x with
  | false =>
   rw[List.filter_cons,hp]
   exact ih
  | true =>
   dsimp only
   rw[h2]
   dsimp only
   rw[ih,List.filter_cons,hp];rfl
theorem zt{F:Fn}{σ:List AO}{η:ab}{vars:List Var}{i:Nat}{elt it cond:Ex}{α:Type}{l:List α}{g f:α->V}{p:α->Bool}{x:V}(hit:evx F it σ η=some (x,σ))(hl:ba x=some (.seq (l.map g)))(hnil:cond≠.nil)
  (hc:∀ y∈l,∀ σ',∃ ex,evt F cond σ' ((clr η vars).set i (some (g y)))=some (p y,σ'++ex)) (he:∀ y∈l,∀ σ',evx F elt σ' ((clr η vars).set i (some (g y)))=some (f y,σ')) (hn:l.length<=lim) :
  ∃ ex,evx F (.comp vars (.loc i) elt it cond) σ η=some (.lst ((l.filter p).map f),σ++ex):=by
 have key:∃ ex,cR (.loc i) (fun σ η=>match (generalizing:=false) cond with
     | .nil=>some (true,σ)
     | c=>match evx F cond σ η with
      | some (y,σ')=>(aM y).map fun b=>(b,σ')
      | none=>none) (fun σ η=>evx F elt σ η) (l.length+1) (.seq (l.map g)) σ (clr η vars)=some ((l.filter p).map f,σ++ex) :=
  kg l σ (clr η vars) (l.length+1) (Nat.lt_succ_self _) fun y hy σ' _=>⟨by
   refine a9 (hc y hy σ') fun ex h=>?_
   refine⟨ex,?_⟩
   unfold evt at h
   cases cond <;> first | exact h | exact absurd rfl hnil,he y hy⟩
 obtain ⟨ex,key⟩:=key
 refine⟨ex,?_⟩
 have h1:evx F (.comp vars (.loc i) elt it cond) σ η=(match cR (.loc i) (fun σ η=>match (generalizing:=false) cond with
     | .nil=>some (true,σ)
     | c=>match evx F cond σ η with
      | some (y,σ')=>(aM y).map fun b=>(b,σ')
      | none=>none) (fun σ η=>evx F elt σ η) (l.length+1) (.seq (l.map g)) σ (clr η vars) with
    | some (out,σ₂)=>if out.length<=lim then some (V.lst out,σ₂) else none
    | none=>none):=by
  rw[g7,hit]
  dsimp only
  rw[hl]
  dsimp only[ItS.fuel]
  rw[List.length_map] <;> rfl
 rw[h1,key]
 dsimp only
 rw[List.length_map,if_pos (Nat.le_trans (List.length_filter_le _ _) hn)]
structure LawOk (F:Fn):Prop where
 fn:FnOk F
 prep:∀ (σ:List AO) {t:List Nat},t.length<=1000->(∀ c∈t,eG c=true->(jp c).length<=lim)->(bq t).length<=lim->F 6 [.str t] σ=some (.str (bq t),σ)
 dips:∀ (σ:List AO) {t:List Nat},t.length<=900->∃ ex,F 7 [.str t] σ=some (.lst ((cB t).map V.str),σ++ex)
 chos:∀ (σ:List AO) {D:List (List Nat)},D≠[]->D.length<=1000->F 8 [.lst (D.map V.str)] σ=some (.bool (lP D),σ)
 ellA:∀ (σ:List AO) {w t:List Nat},w≠[]->(∀ c∈w,c≠46)->w.length<=1000->∃ ex,F 1 [.str (w++b5),.str t] σ=some (.bool (t.take w.length==w),σ++ex)
 ellB:∀ (σ:List AO) {w t:List Nat},w≠[]->(∀ c∈w,c≠46)->w.length<=1000->∃ ex,F 1 [.str (b5++w),.str t] σ=some (.bool (decide (w.length<=t.length)&&(t.drop (t.length - w.length)==w)),σ++ex)
noncomputable def LF(sc st wo sz rg kd ty to le bg k dp tx wi cu se du he wh ss fr en:Option V):ab:=[sc,st,wo,sz,some (.ref 0),some (.ref 1),rg,kd,ty,to,le,bg,k,dp,tx,wi,cu,se,du,he,wh,ss,fr,en,none,none,none,none,none,none]
noncomputable def kdA(ws:List Int)(r n:Nat):List Nat:=(List.range (n - 1)).map fun k=>(ws.getD k 0 / (4:Int) ^ r % 4).toNat
noncomputable def kdZ(ws:List Int)(r n:Nat):Nat:=((kdA ws r n).getD 0 0+1+(ws.getD (n - 1) 0 / (4:Int) ^ r % 3).toNat) % 4
noncomputable def kdL(ws:List Int)(r n:Nat):List Nat:=kdA ws r n++[kdZ ws r n]
noncomputable def tyK(ws:List Int)(r n k:Nat):List Nat:=cD (((kdL ws r n).getD k 0:Nat):Int) (ws.getD k 0 / (16+(r:Int)))
noncomputable def tys(ws:List Int)(r n:Nat):List (List Nat):=(List.range n).map (tyK ws r n)
theorem a0{n:Nat}(h:Sz n):3<=n/\n<=7:=by rcases h with rfl | rfl | rfl <;> decide
theorem fT(ws:List Int)(r n:Nat):(kdA ws r n).length=n - 1:=by unfold kdA;rw[List.length_map,List.length_range]
theorem cO(ws:List Int)(r:Nat){n:Nat}(h:Sz n):(kdL ws r n).length=n:=by unfold kdL;rw[List.length_append,fT,List.length_singleton];have:=a0 h;lia
theorem j3(ws:List Int)(r n:Nat):∀ k∈kdL ws r n,k<4:=fun k hk=>by
 unfold kdL at hk
 rcases List.mem_append.mp hk with hk | hk
 ·refine aI (List.mem_map.mp hk) fun j _ rfl=>?_
  lia
 ·refine(List.mem_singleton.mp hk)▸?_
  exact Nat.mod_lt _ (by decide)
noncomputable def yA:Ex:=(.comp [⟨"k",25,true⟩,⟨"ring",6,false⟩,⟨"worth",2,false⟩] (.loc 25) (.bin .Mod (.bin .FloorDiv (.idx (.loc 2) (.loc 25)) (.bin .Pow (.cst (.int 4)) (.loc 6))) (.cst (.int 4))) (.range (.cons (.bin .Sub (.loc 3) (.cst (.int 1))) .nil)) .nil)
noncomputable def zw:Ex:=(.bin .Mod (.bin .Add (.bin .Add (.idx (.loc 7) (.cst (.int 0))) (.cst (.int 1))) (.bin .Mod (.bin .FloorDiv (.idx (.loc 2) (.bin .Sub (.loc 3) (.cst (.int 1)))) (.bin .Pow (.cst (.int 4)) (.loc 6))) (.cst (.int 3)))) (.cst (.int 4)))
noncomputable def yz:Ex:=(.comp [⟨"k",26,true⟩,⟨"kinds",7,false⟩,⟨"ring",6,false⟩,⟨"worth",2,false⟩] (.loc 26) (.call 5 (.cons (.idx (.loc 7) (.loc 26)) (.cons (.bin .FloorDiv (.idx (.loc 2) (.loc 26)) (.bin .Add (.cst (.int 16)) (.loc 6))) .nil))) (.range (.cons (.loc 3) .nil)) .nil)
noncomputable def tM:Ex:=(.me .join (.cst (.str [])) (.cons (.loc 8) .nil))
noncomputable def ce1:Ex:=(.call 2 (.cons (.bin .Add (.bin .Add (.cst (.str [50,53,55,32,34])) (.rep tM [34] [34,34])) (.bin .Mult (.cst (.str [34])) (.loc 6))) .nil))
noncomputable def hJ1:Ex:=(.or (.cmp .NotEq (.loc 9) tM) (.cmp .NotEq (.loc 10) (.me .join (.cst (.str [])) (.cons (.comp [⟨"kind",27,true⟩] (.loc 27) (.idx (.cst (.str [34,97,98,99])) (.loc 27)) (.loc 7) .nil) .nil))))
section
variable {F:Fn} {σ:List AO} {ws:List Int} {n r:Nat} {sc st sz kd ty to le bg k dp tx wi cu se du he wh ss fr en:Option V}
theorem i61{η:ab}(hr:r<2)(h6:η[6]?=some (some (.int (r:Int)))):evx F (.bin .Pow (.cst (.int 4)) (.loc 6)) σ η=some (.int ((4:Int) ^ r),σ):=by
 refine aQ aw (af h6) ?_
 show (if (4:Int).natAbs<1000000000/\0<=(r:Int)/\(r:Int)<=1000 then some (V.int ((4:Int) ^ (r:Int).toNat)) else none)=_
 rw[if_pos ⟨by decide,by exact Int.natCast_nonneg _,by lia⟩,Int.toNat_natCast]
theorem yT(hr:r<2):1<=(4:Int) ^ r/\(4:Int) ^ r<1000000000:=by
 have:r=0\/r=1:=by lia
 rcases this with rfl | rfl <;> decide
theorem hK1{η:ab}{e:Ex}{i:Nat}(hr:r<2)(hw:ws.length=9)(hi:i<9)(h2:η[2]?=some (some (.lst (ws.map V.int))))(h6:η[6]?=some (some (.int (r:Int))))(he:evx F e σ η=some (.int (i:Int),σ)) :
  evx F (.bin .FloorDiv (.idx (.loc 2) e) (.bin .Pow (.cst (.int 4)) (.loc 6))) σ η=some (.int (ws.getD i 0 / (4:Int) ^ r),σ) :=
 aQ (b7 (af h2) he (mi (by lia) (by lia))) (i61 hr h6) (gz (yT hr).1 (yT hr).2)
theorem yX{η:ab}(hn:Sz n)(h3:η[3]?=some (some (.int (n:Int)))):evx F (.bin .Sub (.loc 3) (.cst (.int 1))) σ η=some (.int ((n - 1:Nat):Int),σ):=by
 refine aQ (af h3) aw (nJ.trans ?_)
 have:=a0 hn
 rw[show (n:Int) - 1=((n - 1:Nat):Int) by lia]
theorem aT1(hr:r<2)(hn:Sz n)(hw:ws.length=9):evx F yA σ (LF sc st (some (.lst (ws.map V.int))) (some (.int (n:Int))) (some (.int (r:Int))) kd ty to le bg k dp tx wi cu se du he wh ss fr en)=some (.lst (ac (kdA ws r n)),σ):=by
 have sf:=a0 hn
 have h:=g8 (F:=F) (σ:=σ) (η:=LF sc st (some (.lst (ws.map V.int))) (some (.int (n:Int))) (some (.int (r:Int))) kd ty to le bg k dp tx wi cu se du he wh ss fr en) (vars:=[⟨"k",25,true⟩,⟨"ring",6,false⟩,⟨"worth",2,false⟩]) (i:=25)
  (elt:=.bin .Mod (.bin .FloorDiv (.idx (.loc 2) (.loc 25)) (.bin .Pow (.cst (.int 4)) (.loc 6))) (.cst (.int 4))) (it:=.range (.cons (.bin .Sub (.loc 3) (.cst (.int 1))) .nil)) (l:=List.range (n - 1)) (g:=fun (k:Nat)=>V.int (k:Int)) (f:=fun k=>V.int (((ws.getD k 0 / (4:Int) ^ r % 4).toNat:Nat):Int))
  (fF (n:=n - 1) (yX hn rfl) (by omega)) (j4 (n - 1)) (fun j hj=>?_) (by rw[List.length_range];unfold lim;omega)
 ·have e:(List.range (n - 1)).map (fun k=>V.int (((ws.getD k 0 / (4:Int) ^ r % 4).toNat:Nat):Int))=ac (kdA ws r n):=by unfold ac kdA;rw[List.map_map];rfl
  rw[e] at h
  exact h
 ·have hj':=List.mem_range.mp hj
  rw[Int.toNat_of_nonneg (Int.emod_nonneg _ (by decide))]
  exact aQ (hK1 hr hw (by omega) rfl rfl (af rfl)) aw (fy (by decide))
theorem uy{l:List Nat}{i:Nat}(hi:i<l.length)(hl:l.length<=1000):dW (eσ σ (ac l)) (.ref σ.length) (.int (i:Int))=some (.int (l.getD i 0:Nat)):=by
 have e:(ac l).length=l.length:=by unfold ac;rw[List.length_map]
 exact(rs (j:=i) ⟨by exact Int.natCast_nonneg _,by lia⟩ (dQ ed) ((bp (by exact Int.natCast_nonneg _) (by rw[e];exact Int.ofNat_le.mpr ‹_›)).trans (by rw[Int.toNat_natCast]))).trans (jX hi)
theorem dW1{η:ab}(hr:r<2)(hn:Sz n)(hw:ws.length=9)(h2:η[2]?=some (some (.lst (ws.map V.int))))(h3:η[3]?=some (some (.int (n:Int))))(h6:η[6]?=some (some (.int (r:Int))))(h7:η[7]?=some (some (.ref σ.length))) :
  evx F zw (eσ σ (ac (kdA ws r n))) η=some (.int (kdZ ws r n:Nat),eσ σ (ac (kdA ws r n))):=by
 have sf:=a0 hn
 have e:V.int ((((kdA ws r n).getD 0 0:Nat):Int)+1+ws.getD (n - 1) 0 / (4:Int) ^ r % 3)=V.int (((kdA ws r n).getD 0 0+1+(ws.getD (n - 1) 0 / (4:Int) ^ r % 3).toNat:Nat):Int):=by
  have:=Int.emod_nonneg (ws.getD (n - 1) 0 / (4:Int) ^ r) (show (3:Int)≠0 by decide)
  congr 1
  lia
 have a:evx F (.bin .Add (.bin .Add (.idx (.loc 7) (.cst (.int 0))) (.cst (.int 1))) (.bin .Mod (.bin .FloorDiv (.idx (.loc 2) (.bin .Sub (.loc 3) (.cst (.int 1)))) (.bin .Pow (.cst (.int 4)) (.loc 6))) (.cst (.int 3)))) (eσ σ (ac (kdA ws r n))) η=some (.int (((kdA ws r n).getD 0 0+1+(ws.getD (n - 1) 0 / (4:Int) ^ r % 3).toNat:Nat):Int),eσ σ (ac (kdA ws r n))):=by
  rw[← e]
  exact aQ (aQ (b7 (af h7) aw (uy (i:=0) (by rw[fT];omega) (by rw[fT];omega))) aw gc) (aQ (hK1 hr hw (by omega) h2 h6 (yX hn h3)) aw (fy (by decide))) gc
 exact aQ a aw ((fy (by decide)).trans rfl)
theorem zA(K:LawOk F)(hr:r<2)(hn:Sz n)(hw:ws.length=9):evx F yz (eσ σ (ac (kdL ws r n))) (LF sc st (some (.lst (ws.map V.int))) (some (.int (n:Int))) (some (.int (r:Int))) (some (.ref σ.length)) ty to le bg k dp tx wi cu se du he wh ss fr en)=some (.lst ((tys ws r n).map V.str),eσ σ (ac (kdL ws r n))):=by
 have sf:=a0 hn
 have h:=g8 (F:=F) (σ:=eσ σ (ac (kdL ws r n))) (η:=LF sc st (some (.lst (ws.map V.int))) (some (.int (n:Int))) (some (.int (r:Int))) (some (.ref σ.length)) ty to le bg k dp tx wi cu se du he wh ss fr en) (vars:=[⟨"k",26,true⟩,⟨"kinds",7,false⟩,⟨"ring",6,false⟩,⟨"worth",2,false⟩]) (i:=26)
  (elt:=.call 5 (.cons (.idx (.loc 7) (.loc 26)) (.cons (.bin .FloorDiv (.idx (.loc 2) (.loc 26)) (.bin .Add (.cst (.int 16)) (.loc 6))) .nil))) (it:=.range (.cons (.loc 3) .nil)) (l:=List.range n) (g:=fun (k:Nat)=>V.int (k:Int)) (f:=fun k=>V.str (tyK ws r n k))
  (fF (n:=n) (af rfl) (by omega)) (j4 n) (fun j hj=>?_) (by rw[List.length_range];unfold lim;omega)
 ·have e:(List.range n).map (fun k=>V.str (tyK ws r n k))=(tys ws r n).map V.str:=by unfold tys;rw[List.map_map];rfl
  replace h:=(e)▸h
  exact h
 ·have hj':=List.mem_range.mp hj
  have h4:(kdL ws r n).getD j 0<4:=by
   rw[List.getD_eq_getElem?_getD,List.getElem?_eq_getElem (by rw[cO _ _ hn];exact hj')]
   exact j3 ws r n _ (List.getElem_mem _)
  exact ck (b4 (b7 (af rfl) (af rfl) (uy (by rw[cO _ _ hn];exact hj') (by rw[cO _ _ hn];lia))) (aT (aQ (b7 (af rfl) (af rfl) (mi (by lia) (by lia))) (aQ aw (af rfl) gc) (gz (by lia) (by lia))))) (K.fn.typed _ _ _ (by lia) (by lia))
end
theorem rG(ks:List Nat)(f:Nat->Nat):(List.range ks.length).map (fun i=>f (ks.getD i 0))=ks.map f:=by
 apply List.ext_getElem?
 intro i
 rw[List.getElem?_map,List.getElem?_map]
 by_cases h:i<ks.length
 ·rw[List.getElem?_range h,List.getElem?_eq_getElem h]
  simp [List.getD_eq_getElem?_getD,List.getElem?_eq_getElem h]
 ·rw[List.getElem?_eq_none (by simp;exact Nat.not_lt.mp ‹_›),List.getElem?_eq_none (by exact Nat.not_lt.mp ‹_›)];rfl
section
variable {ws:List Int} {n r:Nat}
theorem vt{l:List Nat}{b j:Nat}(h:∀ x∈l,x<b)(hj:j<l.length):l.getD j 0<b:=by
 rw[List.getD_eq_getElem?_getD,List.getElem?_eq_getElem hj]
 exact h _ (List.getElem_mem hj)
theorem hH(hn:Sz n):∀ l:List Nat,(∀ j∈l,j<n)->bq (l.map (tyK ws r n)).flatten=l.map (fun j=>cY ((kdL ws r n).getD j 0))/\((l.map (tyK ws r n)).flatten).length<=2*l.length/\∀ c∈(l.map (tyK ws r n)).flatten,eG c=true->(jp c).length<=lim
 | [],_=>⟨rfl,Nat.le_refl _,nofun⟩
 | j::l,h=>by
  have ih:=hH hn l fun i hi=>h i (List.mem_cons_of_mem _ hi)
  have h4:(kdL ws r n).getD j 0<4:=vt (j3 ws r n) (by rw[cO _ _ hn];exact h j List.mem_cons_self)
  rw[List.map_cons,List.flatten_cons]
  refine⟨?_,?_,fun c hc=>?_⟩
  ·rw[aY,ih.1]
   show bq (cD _ _)++_=_
   rw[rH h4];rfl
  ·have:=kC (((kdL ws r n).getD j 0:Nat):Int) (ws.getD j 0 / (16+(r:Int)))
   rw[List.length_append,List.length_cons]
   have:=ih.2.1
   show (cD _ _).length+_<=_
   lia
  ·refine Or.elim (List.mem_append.mp hc) (fun hc=>?_) (fun hc=>?_)
   ·exact uZ h4 _ c hc
   ·exact ih.2.2 c hc
theorem yY(hn:Sz n):(List.range n).map (fun j=>cY ((kdL ws r n).getD j 0))=(kdL ws r n).map cY:=by
 have:=rG (kdL ws r n) cY
 rw[cO _ _ hn] at this
 exact this
end
section
variable {F:Fn} {σ:List AO} {ws:List Int} {n r:Nat} {sc st sz kd ty to le bg k dp tx wi cu se du he wh ss fr en:Option V}
theorem u5{η:ab}{L:List (List Nat)}(h8:η[8]?=some (some (.lst (L.map V.str))))(hl:L.flatten.length<=1000):evx F tM σ η=some (.str L.flatten,σ):=tp aw rfl (aT (af h8)) (iA _ (Nat.le_trans hl (by decide)))
theorem cp1(K:LawOk F){η:ab}{L:List (List Nat)}(hr:r<2)(h8:η[8]?=some (some (.lst (L.map V.str))))(h6:η[6]?=some (some (.int (r:Int))))(hl:L.flatten.length<=50):evx F ce1 σ η=some (.str L.flatten,σ):=by
 have hq:=f5 L.flatten
 have e2:r=0\/r=1:=by lia
 have hrep:oE [34] r=if r=0 then [] else [34]:=by rcases e2 with rfl | rfl <;> rfl
 have hrl:(oE [34] r).length<=1:=by rw[hrep];split <;> decide
 have hread:b8 (dbq L.flatten++oE [34] r)=L.flatten:=by
  refine(hrep)▸?_
  split
  ·rw[List.append_nil];exact(d4 _).1
  ·exact(d4 _).2
 have p:=K.fn.parse σ (dbq L.flatten++oE [34] r) (by rw[List.length_append];omega)
 rw[hread,← List.append_assoc] at p
 refine ck (aT (aQ (aQ aw (b11 (u5 h8 (by exact Nat.le_trans ‹_› (by decide))) (dO1 _ (by exact Nat.le_trans ‹_› (by decide)))) (eh.trans (if_pos ?_))) (aQ aw (af h6) (re.trans ?_)) (eh.trans (if_pos ?_)))) p
 ·show 5+(dbq L.flatten).length<=1000000
  lia
 ·rw[Int.toNat_natCast,if_pos ⟨by omega,by exact Int.natCast_nonneg _,by show 1*r<=1000000;lia⟩]
 ·rw[List.length_append]
  show 5+(dbq L.flatten).length+(oE [34] r).length<=1000000
  lia
theorem hq1(hn:Sz n){L:List (List Nat)}{T:List Nat}(hT:T=L.flatten)(hl:L.flatten.length<=1000):evx F hJ1 (eσ σ (ac (kdL ws r n))) (LF sc st (some (.lst (ws.map V.int))) (some (.int (n:Int))) (some (.int (r:Int))) (some (.ref σ.length)) (some (.lst (L.map V.str))) (some (.str T)) (some (.str ((kdL ws r n).map cY))) bg k dp tx wi cu se du he wh ss fr en)=some (.bool false,eσ σ (ac (kdL ws r n))):=by
 subst hT
 have sf:=a0 hn
 have c:evx F (.comp [⟨"kind",27,true⟩] (.loc 27) (.idx (.cst (.str [34,97,98,99])) (.loc 27)) (.loc 7) .nil) (eσ σ (ac (kdL ws r n))) (LF sc st (some (.lst (ws.map V.int))) (some (.int (n:Int))) (some (.int (r:Int))) (some (.ref σ.length)) (some (.lst (L.map V.str))) (some (.str L.flatten)) (some (.str ((kdL ws r n).map cY))) bg k dp tx wi cu se du he wh ss fr en)=some (.lst ((((kdL ws r n).map cY).map fun c=>[c]).map V.str),eσ σ (ac (kdL ws r n))):=by
  have h:=zu (F:=F) (σ:=eσ σ (ac (kdL ws r n))) (η:=LF sc st (some (.lst (ws.map V.int))) (some (.int (n:Int))) (some (.int (r:Int))) (some (.ref σ.length)) (some (.lst (L.map V.str))) (some (.str L.flatten)) (some (.str ((kdL ws r n).map cY))) bg k dp tx wi cu se du he wh ss fr en) (vars:=[⟨"kind",27,true⟩]) (i:=27)
   (elt:=.idx (.cst (.str [34,97,98,99])) (.loc 27)) (it:=.loc 7) (L:=kdL ws r n) (g:=fun (k:Nat)=>V.int (k:Int)) (f:=fun j=>V.str [cY j]) (af rfl) ed (fun j hj=>b7 aw (af rfl) (fV1 (j3 ws r n j hj))) (by rw[cO _ _ hn];unfold lim;omega)
  rw[List.map_map,List.map_map]
  exact h
 have f:(((kdL ws r n).map cY).map fun c=>[c]).flatten=(kdL ws r n).map cY:=by rw[lB,List.map_id']
 refine hH1 (k:=false) (l:=false) (bJ (af rfl) (u5 rfl hl) (pM.trans (congrArg (fun b=>some (!b)) BEq.rfl))) (bJ (af rfl) (tp aw rfl (aT c) ((iA _ (by rw[f,List.length_map,cO _ _ hn];unfold lim;omega)).trans (by rw[f]))) (pM.trans (congrArg (fun b=>some (!b)) BEq.rfl)))
end
theorem xF{a b:Nat}(ha:a<4)(hb:b<4)(h:cY a=cY b):a=b:=by
 unfold cY at h
 split at h <;> split at h <;> lia
theorem qA{σ:List AO}{l:List Nat}{i:Nat}(h:i<=l.length):rB σ (.str l) (.int i) .none .none=some (.str (l.drop i)):=by
 show some (V.str (Txt.slice ⟨l.toArray⟩ (some (i:Int)) none).cps.toList)=_
 have:=slice_closes_from (x:=⟨l.toArray⟩) (i:=(i:Int)) ⟨by exact Int.natCast_nonneg _,by simpa using h⟩
 rw[beq_iff_eq] at this
 rw[this]
 simp only[Int.toNat_natCast]
 rw[List.take_of_length_le (by simp)]
noncomputable def bj{α:Type}(k:Nat)(l:List α):List α:=l.drop k++l.take k
theorem eZ{α:Type}(k:Nat)(l:List α):(bj k l).length=l.length:=by unfold bj;rw[List.length_append,List.length_drop,List.length_take];lia
theorem kD{α β:Type}(f:α->β)(k:Nat)(l:List α):bj k (l.map f)=(bj k l).map f:=by unfold bj;rw[List.map_append,List.map_drop,List.map_take]
noncomputable def on(e:Ex):Ex:=.bin .Add (.slc (.loc 10) e .nil .nil) (.slc (.loc 10) .nil e .nil)
noncomputable def wW:Sx:=(.seq (.asg 13 (.call 7 (.cons (on (.loc 12)) .nil)))
 (.seq (.ite (.cmp .NotEq (.me .join (.cst (.str [])) (.cons (.loc 13) .nil)) (on (.loc 12))) (.seq (.ret (.cst (.bool false)))
 .skip) .skip)
 (.seq (.ite (.call 8 (.cons (.loc 13) .nil)) (.seq (.expr (.append (.loc 11) (.loc 12)))
 .skip) .skip)
 .skip)))
section
variable {F:Fn} {σ:List AO} {n r bb:Nat} {L:List Nat} {sc st wo sz rg kd ty to tx wi cu se du he wh ss fr en:Option V}
theorem t5{η:ab}{e:Ex}{k:Nat}(h:η[10]?=some (some (.str L)))(he:evx F e σ η=some (.int (k:Int),σ))(hk:k<=L.length)(hl:L.length<=1000):evx F (on e) σ η=some (.str (bj k L),σ):=by
 refine aQ (gY (af h) he bH bH (qA hk)) (gY (af h) bH he bH (fj1 hk)) (eh.trans (if_pos ?_))
 have:=eZ k L
 unfold bj at this
 rw[List.length_append] at this
 refine(this)▸?_
 exact Nat.le_trans hl (by decide)
theorem t6(K:LawOk F){A B:AO}{l:List Nat}{k:Nat}{dp:Option V}(hk:k<n)(hl:L.length=n)(hn:n<=7)(h0:σ[0]?=some A)(h1:σ[1]?=some B)(hb:σ[bb]?=some ⟨ac l,none⟩)(b0:0≠bb)(b1:1≠bb)(hll:l.length<=100) :
  ∃ σ',exs F wW σ (LF sc st wo sz rg kd ty to (some (.str L)) (some (.ref bb)) (some (.int (k:Int))) dp tx wi cu se du he wh ss fr en)=some (.next,σ',LF sc st wo sz rg kd ty to (some (.str L)) (some (.ref bb)) (some (.int (k:Int))) (some (.lst ((cB (bj k L)).map V.str))) tx wi cu se du he wh ss fr en) /\
   σ'[0]?=some A/\σ'[1]?=some B/\σ'[bb]?=some ⟨ac (if ch (bj k L)=true then l++[k] else l),none⟩:=by
 obtain ⟨ex,hd⟩:=K.dips σ (t:=bj k L) (by rw[eZ];lia)
 have hlen:(cB (bj k L)).length<=1000:=by
  have:=(nr (bj k L)).2.2
  rw[eZ] at this
  show (_++[_]).length<=_
  rw[List.length_append,List.length_singleton];lia
 have hne:cB (bj k L)≠[]:=by unfold cB;simp
 have s1:exs F (.asg 13 (.call 7 (.cons (on (.loc 12)) .nil))) σ (LF sc st wo sz rg kd ty to (some (.str L)) (some (.ref bb)) (some (.int (k:Int))) dp tx wi cu se du he wh ss fr en)=some (.next,σ++ex,LF sc st wo sz rg kd ty to (some (.str L)) (some (.ref bb)) (some (.int (k:Int))) (some (.lst ((cB (bj k L)).map V.str))) tx wi cu se du he wh ss fr en) :=
  mh (ck (aT (t5 rfl (af rfl) (by omega) (by omega))) hd)
 have c2:evx F (.cmp .NotEq (.me .join (.cst (.str [])) (.cons (.loc 13) .nil)) (on (.loc 12))) (σ++ex) (LF sc st wo sz rg kd ty to (some (.str L)) (some (.ref bb)) (some (.int (k:Int))) (some (.lst ((cB (bj k L)).map V.str))) tx wi cu se du he wh ss fr en)=some (.bool false,σ++ex) :=
  bJ (tp aw rfl (aT (af rfl)) (iA _ (by rw[eg,eZ];exact Nat.le_trans (show L.length<=7 by lia) (by decide)))) (t5 rfl (af rfl) (by omega) (by omega)) (pM.trans (by rw[eg];exact congrArg (fun b=>some (!b)) BEq.rfl))
 have c3:evx F (.call 8 (.cons (.loc 13) .nil)) (σ++ex) (LF sc st wo sz rg kd ty to (some (.str L)) (some (.ref bb)) (some (.int (k:Int))) (some (.lst ((cB (bj k L)).map V.str))) tx wi cu se du he wh ss fr en)=some (.bool (ch (bj k L)),σ++ex) :=
  ck (aT (af rfl)) (K.chos (σ++ex) hne hlen)
 cases hc:ch (bj k L) with
 | false =>
  replace c3:=(hc)▸c3
  exact⟨σ++ex,(ay s1).trans ((s8 c2).trans ((s8 c3).trans bW)),aW h0,aW h1,aW hb⟩
 | true =>
  rw[hc] at c3
  have a:=eW (F:=F) (a:=.loc 11) (b:=.loc 12) (σ:=σ++ex) (η:=LF sc st wo sz rg kd ty to (some (.str L)) (some (.ref bb)) (some (.int (k:Int))) (some (.lst ((cB (bj k L)).map V.str))) tx wi cu se du he wh ss fr en) (v:=.int (k:Int)) (af rfl) (aW hb) (af rfl) (aW hb) (by unfold ac;rw[List.length_map];exact Nat.lt_of_le_of_lt hll (by decide))
  rw[← cq] at a
  exact⟨_,(ay s1).trans ((s8 c2).trans ((mJ c3 rfl ((jU a).trans bW)).trans bW)),da (aW h0) (Ne.symm b0),da (aW h1) (Ne.symm b1),fW (aW hb)⟩
theorem t4(K:LawOk F){A B:AO}{u v:Option V}(hl:L.length=n)(hn:n<=7)(h0:σ[0]?=some A)(h1:σ[1]?=some B)(hb:σ[bb]?=some ⟨[],none⟩)(b0:0≠bb)(b1:1≠bb) :
  ∃ σ' u' v',exs F (.for_ (.loc 12) (.range (.cons (.loc 3) .nil)) wW) σ (LF sc st wo (some (.int (n:Int))) rg kd ty to (some (.str L)) (some (.ref bb)) u v tx wi cu se du he wh ss fr en)=some (.next,σ',LF sc st wo (some (.int (n:Int))) rg kd ty to (some (.str L)) (some (.ref bb)) u' v' tx wi cu se du he wh ss fr en) /\
   σ'[0]?=some A/\σ'[1]?=some B/\σ'[bb]?=some ⟨ac ((List.range n).filter fun k=>ch (bj k L)),none⟩:=by
 refine byQ fun Q kQ=>?_
 obtain ⟨σ',η',h2,q⟩:=lA (F:=F) (i:=12) (it:=.range (.cons (.loc 3) .nil)) (b:=wW) (σ:=σ) (η:=LF sc st wo (some (.int (n:Int))) rg kd ty to (some (.str L)) (some (.ref bb)) u v tx wi cu se du he wh ss fr en) (l:=(List.range n).map fun (k:Nat)=>V.int (k:Int))
  (fun l σ' η'=>∃ (a b:List Nat) (u' v':Option V),a++b=List.range n/\l=b.map (fun (k:Nat)=>V.int (k:Int))/\σ'[0]?=some A/\σ'[1]?=some B/\σ'[bb]?=some ⟨ac (a.filter fun k=>ch (bj k L)),none⟩/\η'=LF sc st wo (some (.int (n:Int))) rg kd ty to (some (.str L)) (some (.ref bb)) u' v' tx wi cu se du he wh ss fr en)
  (fF (n:=n) (af rfl) (by exact Nat.le_trans ‹_› (by decide))) (j4 n) ⟨[],List.range n,u,v,rfl,rfl,h0,h1,hb,rfl⟩ (fun x l σ' η' ⟨a,b,u',v',e,el,g0,g1,gb,eη⟩=>by
   cases b with
   | nil=>cases el
   | cons k b =>
    rw[List.map_cons] at el
    injection el with e1 e2
    subst e1 eη
    have hk:k<n:=List.mem_range.mp (e▸List.mem_append_right _ List.mem_cons_self)
    have hal:a.length<=7:=by
     have:=congrArg List.length e
     rw[List.length_append,List.length_range] at this
     lia
    obtain ⟨σ₂,h_p⟩:=t6 (sc:=sc) (st:=st) (wo:=wo) (sz:=some (.int (n:Int))) (rg:=rg) (kd:=kd) (ty:=ty) (to:=to) (tx:=tx) (wi:=wi) (cu:=cu) (se:=se) (du:=du) (he:=he) (wh:=wh) (ss:=ss) (fr:=fr) (en:=en) (dp:=v') K hk hl hn g0 g1 gb b0 b1 (Nat.le_trans (List.length_filter_le _ _) (by exact Nat.le_trans ‹_› (by decide)));have s:=h_p.1;have q0:=h_p.2.1;have q1:=h_p.2.2.1;have qb:=h_p.2.2.2
    refine⟨σ₂,_,s,a++[k],b,some (.int (k:Int)),some (.lst ((cB (bj k L)).map V.str)),by rw[List.append_assoc];exact e,e2,q0,q1,?_,rfl⟩
    rw[qb,List.filter_append]
    congr 3
    cases hc:ch (bj k L) with
    | true=>rw[if_pos rfl,List.filter_cons_of_pos (p:=fun k=>ch (bj k L)) hc,List.filter_nil]
    | false=>rw[if_neg Bool.false_ne_true,List.filter_cons_of_neg (p:=fun k=>ch (bj k L)) (by rw[hc];exact Bool.false_ne_true),List.filter_nil,List.append_nil])
 refine h51 (q) fun a b u' v' e el g0 g1 gb eη=>?_
 have hbn:b=[]:=by cases b with | nil=>rfl | cons _ _=>cases el
 rw[hbn,List.append_nil] at e
 subst e eη
 refine kQ ?_
 exact gz1 σ' u' v' h2 g0 g1 gb
end
theorem zL{α:Type}(l:List α)(n:Nat)(h:n<=l.length):jR l none (some (n:Int)) none=l.take n:=zK l n h
theorem xG{k:Nat}(h:k<4):34<=cY k/\cY k≠46:=by
 have:k=0\/k=1\/k=2\/k=3:=by lia
 rcases this with rfl | rfl | rfl | rfl <;> decide
section
variable {ws:List Int} {n r:Nat}
noncomputable def bgn(ws:List Int)(r n:Nat):List Nat:=(List.range n).filter fun k=>ch (bj k ((kdL ws r n).map cY))
noncomputable def wrd(ws:List Int)(r n:Nat):List Nat:=bj ((bgn ws r n).getD 0 0) ((kdL ws r n).map cY)
noncomputable def spl(ws:List Int)(r n:Nat):List Nat:=(bj ((bgn ws r n).getD 0 0) (tys ws r n)).flatten
theorem vY(hn:Sz n):(bgn ws r n).length=1:=by
 have sf:=a0 hn
 have hk:kdA ws r n=(kdA ws r n).getD 0 0::(kdA ws r n).drop 1:=by
  have h0:0<(kdA ws r n).length:=by rw[fT];omega
  cases h:kdA ws r n with
  | nil=>rw[h] at h0;exact absurd h0 (Nat.lt_irrefl 0)
  | cons a l=>rfl
 have e:(kdL ws r n).map cY=cY ((kdA ws r n).getD 0 0)::(((kdA ws r n).drop 1++[kdZ ws r n]).map cY):=by
  show (kdA ws r n++[kdZ ws r n]).map cY=_
  conv=>lhs;rw[hk]
  rfl
 have hl:((kdL ws r n).map cY).length=n:=by rw[List.length_map,cO _ _ hn]
 have hlast:bX 0 ((kdL ws r n).map cY)=cY (kdZ ws r n):=by
  unfold bX kdL
  rw[List.map_append]
  simp
 have h4:(kdA ws r n).getD 0 0<4:=vt (fun x hx=>j3 ws r n x (List.mem_append_left _ hx)) (by rw[fT];omega)
 have:=w9 hn (c:=cY ((kdA ws r n).getD 0 0)) (r:=((kdA ws r n).drop 1++[kdZ ws r n]).map cY) (by rw[← e];exact hl) (by
  rw[← e,hlast]
  intro q
  have q2:=xF (j3 ws r n _ (List.mem_append_right _ List.mem_cons_self)) h4 q
  unfold kdZ at q2
  have:=Int.emod_lt_of_pos (ws.getD (n - 1) 0 / (4:Int) ^ r) (show (0:Int)<3 by decide)
  have:=Int.emod_nonneg (ws.getD (n - 1) 0 / (4:Int) ^ r) (show (3:Int)≠0 by decide)
  omega)
 replace this:=(e)▸this
 exact this
theorem zc(hn:Sz n):bgn ws r n=[(bgn ws r n).getD 0 0]/\(bgn ws r n).getD 0 0<n/\ch (wrd ws r n)=true:=by
 have h:=vY (ws:=ws) (r:=r) hn
 have e:bgn ws r n=[(bgn ws r n).getD 0 0]:=by
  cases q:bgn ws r n with
  | nil=>replace h:=(q)▸h;cases h
  | cons a l=>cases l with
   | nil=>rfl
   | cons b l=>rw[q] at h;simp at h
 have m:(bgn ws r n).getD 0 0∈bgn ws r n:=by
  have key:∀ l:List Nat,l.length=1->l.getD 0 0∈l:=fun l hl=>by
   cases l with
   | nil=>cases hl
   | cons a l=>exact List.mem_cons_self
  exact key _ h
 have m2:=List.mem_filter.mp m
 exact⟨e,List.mem_range.mp m2.1,m2.2⟩
theorem dF(hn:Sz n):Ring n (wrd ws r n) (spl ws r n):=by
 have sf:=a0 hn
 have b:=zc (ws:=ws) (r:=r) hn
 generalize hb:(bgn ws r n).getD 0 0=k at b
 have e1:tys ws r n=(List.range n).map (tyK ws r n):=rfl
 have es:spl ws r n=((bj k (List.range n)).map (tyK ws r n)).flatten:=by unfold spl;rw[hb,e1,kD]
 have ew:wrd ws r n=(bj k (List.range n)).map (fun j=>cY ((kdL ws r n).getD j 0)):=by unfold wrd;rw[hb,← yY hn,kD]
 have f:=hH (ws:=ws) (r:=r) hn (bj k (List.range n)) (fun j hj=>by
  unfold bj at hj
  rcases List.mem_append.mp hj with h | h
  ·exact List.mem_range.mp (List.mem_of_mem_drop h)
  ·exact List.mem_range.mp (List.mem_of_mem_take h))
 have hl:(bj k (List.range n)).length=n:=by rw[eZ,List.length_range]
 refine⟨by rw[ew,List.length_map,hl],b.2.2,fun c hc=>?_,by rw[es,f.1,ew],by rw[es];have:=f.2.1;rw[hl] at this;exact this,by rw[es];exact f.2.2⟩
 unfold wrd bj at hc
 have:c∈(kdL ws r n).map cY:=by
  rcases List.mem_append.mp hc with h | h
  ·exact List.mem_of_mem_drop h
  ·exact List.mem_of_mem_take h
 obtain ⟨j,hj,rfl⟩:=List.mem_map.mp this
 exact xG (j3 ws r n j hj)
end
noncomputable def xB0:Ex:=.idx (.loc 11) (.cst (.int 0))
noncomputable def uo:Sx:=(.seq (.asgM 7 yA)
 (.seq (.expr (.append (.loc 7) zw))
 (.seq (.asg 8 yz)
 (.seq (.asg 9 ce1)
 (.seq (.asg 10 (.call 6 (.cons (.loc 9) .nil)))
 (.seq (.ite hJ1 (.seq (.ret (.cst (.bool false))) .skip) .skip)
 (.seq (.asg 11 (.new .nil))
 (.seq (.for_ (.loc 12) (.range (.cons (.loc 3) .nil)) wW)
 (.seq (.ite (.cmp .NotEq (.bf .len (.cons (.loc 11) .nil)) (.cst (.int 1))) (.seq (.ret (.cst (.bool false))) .skip) .skip)
 (.seq (.expr (.append (.loc 4) (on xB0)))
 (.seq (.expr (.append (.loc 5) (.me .join (.cst (.str [])) (.cons (.bin .Add (.slc (.loc 8) xB0 .nil .nil) (.slc (.loc 8) .nil xB0 .nil)) .nil))))
 .skip)))))))))))
section
variable {F:Fn} {σ:List AO} {ws:List Int} {n r:Nat} {sc st kd ty to le bg k dp tx wi cu se du he wh ss fr en:Option V}
theorem hv1{η:ab}{bb:Nat}{l:List Nat}(h:η[11]?=some (some (.ref bb)))(hb:σ[bb]?=some ⟨ac l,none⟩)(hl:0<l.length):evx F xB0 σ η=some (.int (l.getD 0 0:Nat),σ) :=
 b7 (af h) aw ((rs (j:=0) (by decide) (dQ hb) (bp (by decide) (by unfold ac;rw[List.length_map];exact Int.ofNat_le.mpr ‹_›))).trans (jX hl))
theorem w8(K:LawOk F)(hr:r<2)(hn:Sz n)(hw:ws.length=9){A B:List V}(h0:σ[0]?=some ⟨A,none⟩)(h1:σ[1]?=some ⟨B,none⟩)(hA:A.length<=2)(hB:B.length<=2) :
  ∃ σ' kd' ty' to' le' bg' k' dp',exs F uo σ (LF sc st (some (.lst (ws.map V.int))) (some (.int (n:Int))) (some (.int (r:Int))) kd ty to le bg k dp tx wi cu se du he wh ss fr en)=some (.next,σ',LF sc st (some (.lst (ws.map V.int))) (some (.int (n:Int))) (some (.int (r:Int))) kd' ty' to' le' bg' k' dp' tx wi cu se du he wh ss fr en) /\
   σ'[0]?=some ⟨A++[.str (wrd ws r n)],none⟩/\σ'[1]?=some ⟨B++[.str (spl ws r n)],none⟩:=by
 refine byQ fun Q kQ=>?_
 have sf:=a0 hn
 have g2:2<=σ.length:=(List.getElem?_eq_some_iff.mp h1).1
 have ft:=hH (ws:=ws) (r:=r) hn (List.range n) fun j hj=>List.mem_range.mp hj
 rw[yY hn,List.length_range] at ft
 have hT:((tys ws r n).flatten).length<=50:=by have:=ft.2.1;show ((List.map (tyK ws r n) (List.range n)).flatten).length<=50;lia
 have ap:=eW (F:=F) (a:=.loc 7) (b:=zw) (σ:=eσ σ (ac (kdA ws r n))) (η:=LF sc st (some (.lst (ws.map V.int))) (some (.int (n:Int))) (some (.int (r:Int))) (some (.ref σ.length)) ty to le bg k dp tx wi cu se du he wh ss fr en) (af rfl) ed (dW1 hr hn hw rfl rfl rfl rfl) ed (by unfold ac;rw[List.length_map,fT];unfold lim;omega)
 rw[← cq,pq] at ap
 have pr:=K.prep (eσ σ (ac (kdL ws r n))) (t:=(tys ws r n).flatten) (by exact Nat.le_trans ‹_› (by decide)) ft.2.2 (by show (bq (List.map (tyK ws r n) (List.range n)).flatten).length<=lim;rw[ft.1,List.length_map,cO _ _ hn];unfold lim;lia)
 rw[show bq (tys ws r n).flatten=(kdL ws r n).map cY from ft.1] at pr
 have hL:((kdL ws r n).map cY).length=n:=by rw[List.length_map,cO _ _ hn]
 generalize a41:eσ σ (ac (kdL ws r n))=σ2 at ap pr
 have l2:σ2.length=σ.length+1:=by rw[← a41];unfold eσ;simp
 have c0:σ2[0]?=some ⟨A,none⟩:=by exact(a41)▸(aW h0)
 have c1:σ2[1]?=some ⟨B,none⟩:=by exact(a41)▸(aW h1)
 obtain ⟨σ3,u',v',h_p⟩:=t4 (F:=F) (σ:=σ2++[⟨[],none⟩]) (bb:=σ2.length) (L:=(kdL ws r n).map cY) (sc:=sc) (st:=st) (wo:=some (.lst (ws.map V.int))) (rg:=some (.int (r:Int))) (kd:=some (.ref σ.length)) (ty:=some (.lst ((tys ws r n).map V.str))) (to:=some (.str (tys ws r n).flatten)) (tx:=tx) (wi:=wi) (cu:=cu) (se:=se) (du:=du) (he:=he) (wh:=wh) (ss:=ss) (fr:=fr) (en:=en) (u:=k) (v:=dp) K hL sf.2 (aW c0) (aW c1) (by simp) (by omega) (by lia);have tr:=h_p.1;have d0:=h_p.2.1;have d1:=h_p.2.2.1;have db:=h_p.2.2.2
 have b:=zc (ws:=ws) (r:=r) hn
 have b1:=vY (ws:=ws) (r:=r) hn
 have db':σ3[σ2.length]?=some ⟨ac (bgn ws r n),none⟩:=db
 have ap0:=eW (F:=F) (a:=.loc 4) (b:=on xB0) (σ:=σ3) (η:=LF sc st (some (.lst (ws.map V.int))) (some (.int (n:Int))) (some (.int (r:Int))) (some (.ref σ.length)) (some (.lst ((tys ws r n).map V.str))) (some (.str (tys ws r n).flatten)) (some (.str ((kdL ws r n).map cY))) (some (.ref σ2.length)) u' v' tx wi cu se du he wh ss fr en) (af rfl) d0 (t5 rfl (hv1 rfl db' (by exact Nat.le_of_eq (Eq.symm ‹_›))) (by rw[hL];lia) (by rw[hL];lia)) d0 (by unfold lim;exact Nat.lt_of_le_of_lt ‹_› (by decide))
 have db2:(σ3.set 0 ⟨A++[.str (wrd ws r n)],none⟩)[σ2.length]?=some ⟨ac (bgn ws r n),none⟩:=da db' (by omega)
 have d12:(σ3.set 0 ⟨A++[.str (wrd ws r n)],none⟩)[1]?=some ⟨B,none⟩:=da d1 (by decide)
 have tl:(tys ws r n).length=n:=by unfold tys;rw[List.length_map,List.length_range]
 have jn:evx F (.me .join (.cst (.str [])) (.cons (.bin .Add (.slc (.loc 8) xB0 .nil .nil) (.slc (.loc 8) .nil xB0 .nil)) .nil)) (σ3.set 0 ⟨A++[.str (wrd ws r n)],none⟩) (LF sc st (some (.lst (ws.map V.int))) (some (.int (n:Int))) (some (.int (r:Int))) (some (.ref σ.length)) (some (.lst ((tys ws r n).map V.str))) (some (.str (tys ws r n).flatten)) (some (.str ((kdL ws r n).map cY))) (some (.ref σ2.length)) u' v' tx wi cu se du he wh ss fr en)=some (.str (spl ws r n),σ3.set 0 ⟨A++[.str (wrd ws r n)],none⟩):=by
  have R:=dF (ws:=ws) (r:=r) hn
  refine tp aw rfl (aT (v:=.lst ((bj ((bgn ws r n).getD 0 0) (tys ws r n)).map V.str)) (aQ (gY (af rfl) (hv1 rfl db2 (by exact Nat.le_of_eq (Eq.symm ‹_›))) bH bH (v:=.lst (((tys ws r n).map V.str).drop ((bgn ws r n).getD 0 0))) ?_) (gY (af rfl) bH (hv1 rfl db2 (by exact Nat.le_of_eq (Eq.symm ‹_›))) bH (v:=.lst (((tys ws r n).map V.str).take ((bgn ws r n).getD 0 0))) ?_) ?_)) (iA _ (Nat.le_trans R.short (by unfold lim;lia)))
  ·exact congrArg (fun z=>some (V.lst z)) (mu _ _)
  ·exact congrArg (fun z=>some (V.lst z)) (zL _ _ (by rw[List.length_map,tl];lia))
  ·refine kl.trans ((if_pos ?_).trans ?_)
   ·rw[List.length_drop,List.length_take,List.length_map,tl];unfold lim;lia
   ·rw[← kD];rfl
 have ap1:=eW (F:=F) (a:=.loc 5) (σ:=σ3.set 0 ⟨A++[.str (wrd ws r n)],none⟩) (af rfl) d12 jn d12 (by unfold lim;exact Nat.lt_of_le_of_lt ‹_› (by decide))
 refine kQ ?_
 refine⟨_,some (.ref σ.length),some (.lst ((tys ws r n).map V.str)),some (.str (tys ws r n).flatten),some (.str ((kdL ws r n).map cY)),some (.ref σ2.length),u',v',?_,da (fW d0) (by decide),fW d12⟩
 unfold uo
 refine(di1 (aT1 hr hn hw)).trans ((jU ap).trans ?_)
 rw[← a41] at pr tr ⊢
 refine(aX (zA K hr hn hw)).trans ((aX (cp1 K hr rfl rfl hT)).trans ((aX (ck (aT (af rfl)) pr)).trans ((s8 (hq1 hn rfl (by exact Nat.le_trans ‹_› (by decide)))).trans ((aX tm).trans ((ay tr).trans ?_)))))
 refine(s8 (bJ (n7 (aT (af rfl)) (vK (a41▸db'))) aw (yk.trans ?_))).trans ((jU (a41▸ap0)).trans ((jU (a41▸ap1)).trans bW))
 unfold ac
 rw[List.length_map,b1];rfl
noncomputable def rq(σ:List AO)(ws:List Int)(n d:Nat):Prop:=σ[0]?=some ⟨(List.range d).map (fun r=>V.str (wrd ws r n)),none⟩/\σ[1]?=some ⟨(List.range d).map (fun r=>V.str (spl ws r n)),none⟩
theorem ux(K:LawOk F)(hn:Sz n)(hw:ws.length=9)(h0:rq σ ws n 0) :
  ∃ σ' rg' kd' ty' to' le' bg' k' dp',exs F (.for_ (.loc 6) (.range (.cons (.cst (.int 2)) .nil)) uo) σ (LF sc st (some (.lst (ws.map V.int))) (some (.int (n:Int))) none kd ty to le bg k dp tx wi cu se du he wh ss fr en)=some (.next,σ',LF sc st (some (.lst (ws.map V.int))) (some (.int (n:Int))) rg' kd' ty' to' le' bg' k' dp' tx wi cu se du he wh ss fr en)/\rq σ' ws n 2:=by
 refine byQ fun Q kQ=>?_
 obtain ⟨σ',η',h2,q⟩:=lA (F:=F) (i:=6) (it:=.range (.cons (.cst (.int 2)) .nil)) (b:=uo) (σ:=σ) (η:=LF sc st (some (.lst (ws.map V.int))) (some (.int (n:Int))) none kd ty to le bg k dp tx wi cu se du he wh ss fr en) (l:=(List.range 2).map fun (k:Nat)=>V.int (k:Int))
  (fun l σ' η'=>∃ d,d<=2/\l=((List.range 2).drop d).map (fun (k:Nat)=>V.int (k:Int))/\rq σ' ws n d/\∃ rg' kd' ty' to' le' bg' k' dp',η'=LF sc st (some (.lst (ws.map V.int))) (some (.int (n:Int))) rg' kd' ty' to' le' bg' k' dp' tx wi cu se du he wh ss fr en)
  (fF (n:=2) aw (by decide)) (j4 2) ⟨0,by decide,rfl,h0,_,_,_,_,_,_,_,_,rfl⟩ (fun x l σ' η' ⟨d,hd,el,h01,rg',kd',ty',to',le',bg',k',dp',eη⟩=>by
   have hd2:d<2:=by
    refine Or.elim (Nat.lt_or_ge d 2) (fun h=>?_) (fun h=>?_)
    ·exact h
    ·rw[List.drop_of_length_le (by rw[List.length_range];exact h)] at el;cases el
   have e:(List.range 2).drop d=d::(List.range 2).drop (d+1):=by rw[List.drop_eq_getElem_cons (by rw[List.length_range];exact hd2),List.getElem_range]
   rw[e,List.map_cons] at el
   injection el with e1 e2
   refine byQ fun Q kQ=>?_
   subst e1 eη
   obtain ⟨σ₂,a1,a2,a3,a4,a5,a6,a7,hr,g0,g1⟩:=w8 (F:=F) (σ:=σ') (ws:=ws) (n:=n) (r:=d) (sc:=sc) (st:=st) (kd:=kd') (ty:=ty') (to:=to') (le:=le') (bg:=bg') (k:=k') (dp:=dp') (tx:=tx) (wi:=wi) (cu:=cu) (se:=se) (du:=du) (he:=he) (wh:=wh) (ss:=ss) (fr:=fr) (en:=en) K hd2 hn hw h01.1 h01.2 (by rw[List.length_map,List.length_range];exact hd) (by rw[List.length_map,List.length_range];exact hd)
   refine kQ ?_
   refine⟨σ₂,_,hr,d+1,hd2,e2,⟨?_,?_⟩,_,_,_,_,_,_,_,_,rfl⟩
   ·rw[g0,List.range_succ,List.map_append];rfl
   ·rw[g1,List.range_succ,List.map_append];rfl)
 obtain ⟨d,hd,el,h01,rg',kd',ty',to',le',bg',k',dp',eη⟩:=q
 have hd2:d=2:=by
  refine Or.elim (Nat.lt_or_ge d 2) (fun h=>?_) (fun h=>?_)
  ·have e:(List.range 2).drop d=d::(List.range 2).drop (d+1):=by rw[List.drop_eq_getElem_cons (by rw[List.length_range];exact h),List.getElem_range]
   replace el:=(e)▸el;cases el
  ·lia
 subst hd2 eη
 exact kQ ⟨σ',rg',kd',ty',to',le',bg',k',dp',h2,h01⟩
noncomputable def ixK(ws:List Int)(k:Nat):Nat:=(ws.getD 8 0 / (2:Int) ^ k % 2).toNat
theorem d51(ws:List Int)(k:Nat):ixK ws k<2:=by
 unfold ixK
 have:=Int.emod_lt_of_pos (ws.getD 8 0 / (2:Int) ^ k) (show (0:Int)<2 by decide)
 lia
noncomputable def txt(ws:List Int)(n:Nat):List Nat:=((List.range 3).map fun k=>spl ws (ixK ws k) n).flatten
noncomputable def cf1:Ex:=(.me .join (.cst (.str [])) (.cons (.comp [⟨"k",28,true⟩,⟨"spelled",5,false⟩,⟨"worth",2,false⟩] (.loc 28) (.idx (.loc 5) (.bin .Mod (.bin .FloorDiv (.idx (.loc 2) (.cst (.int 8))) (.bin .Pow (.cst (.int 2)) (.loc 28))) (.cst (.int 2)))) (.range (.cons (.cst (.int 3)) .nil)) .nil) .nil))
theorem cn1(ws:List Int)(n:Nat):txt ws n=spl ws (ixK ws 0) n++(spl ws (ixK ws 1) n++spl ws (ixK ws 2) n):=by
 show spl ws (ixK ws 0) n++(spl ws (ixK ws 1) n++(spl ws (ixK ws 2) n++[]))=_
 rw[List.append_nil]
theorem eY(hn:Sz n):bq (txt ws n)=wrd ws (ixK ws 0) n++(wrd ws (ixK ws 1) n++wrd ws (ixK ws 2) n)/\(txt ws n).length<=42/\(∀ c∈txt ws n,eG c=true->(jp c).length<=lim)/\(∀ z,txt ws n≠z++[34])/\txt ws n≠[]:=by
 have R0:=dF (ws:=ws) (r:=ixK ws 0) hn
 have R1:=dF (ws:=ws) (r:=ixK ws 1) hn
 have R2:=dF (ws:=ws) (r:=ixK ws 2) hn
 have sf:=a0 hn
 rw[cn1]
 refine⟨by rw[aY,aY,R0.prep,R1.prep,R2.prep],?_,fun c hc=>?_,fun z h=>?_,fun h=>?_⟩
 ·have:=R0.short;have:=R1.short;have:=R2.short
  rw[List.length_append,List.length_append];lia
 ·refine Or.elim (List.mem_append.mp hc) (fun hc=>?_) (fun hc=>?_)
  ·exact R0.low c hc
  ·refine Or.elim (List.mem_append.mp hc) (fun hc=>?_) (fun hc=>?_)
   ·exact R1.low c hc
   ·exact R2.low c hc
 ·refine Or.elim (List.eq_nil_or_concat (spl ws (ixK ws 2) n)) (fun e=>?_) (fun h_r=>?_)
  ·exact R2.ne e
  ·refine cH (h_r) fun a c e=>?_
   rw[List.concat_eq_append] at e
   rw[e,← List.append_assoc,← List.append_assoc] at h
   have:=(List.append_inj' h rfl).2
   rw[this] at e
   exact R2.send a e
 ·exact R0.ne (List.append_eq_nil_iff.mp h).1
theorem cq1(hn:Sz n)(hw:ws.length=9)(h01:rq σ ws n 2){rg:Option V}:evx F cf1 σ (LF sc st (some (.lst (ws.map V.int))) (some (.int (n:Int))) rg kd ty to le bg k dp tx wi cu se du he wh ss fr en)=some (.str (txt ws n),σ):=by
 have tf:=eY (ws:=ws) hn
 have h:=g8 (F:=F) (σ:=σ) (η:=LF sc st (some (.lst (ws.map V.int))) (some (.int (n:Int))) rg kd ty to le bg k dp tx wi cu se du he wh ss fr en) (vars:=[⟨"k",28,true⟩,⟨"spelled",5,false⟩,⟨"worth",2,false⟩]) (i:=28)
  (elt:=.idx (.loc 5) (.bin .Mod (.bin .FloorDiv (.idx (.loc 2) (.cst (.int 8))) (.bin .Pow (.cst (.int 2)) (.loc 28))) (.cst (.int 2)))) (it:=.range (.cons (.cst (.int 3)) .nil)) (l:=List.range 3) (g:=fun (k:Nat)=>V.int (k:Int)) (f:=fun k=>V.str (spl ws (ixK ws k) n))
  (fF (n:=3) aw (by decide)) (j4 3) (fun j hj=>?_) (by decide)
 ·have e:(List.range 3).map (fun k=>V.str (spl ws (ixK ws k) n))=((List.range 3).map fun k=>spl ws (ixK ws k) n).map V.str:=by rw[List.map_map];rfl
  rw[e] at h
  exact tp aw rfl (aT h) (iA _ (Nat.le_trans tf.2.1 (by decide)))
 ·have hj':=List.mem_range.mp hj
  have p1:1<=(2:Int) ^ j/\(2:Int) ^ j<1000000000:=by
   have:j=0\/j=1\/j=2:=by lia
   rcases this with rfl | rfl | rfl <;> decide
  have hx:=d51 ws j
  have e:V.int (ws.getD 8 0 / (2:Int) ^ j % 2)=V.int ((ixK ws j:Nat):Int):=by
   unfold ixK
   rw[Int.toNat_of_nonneg (Int.emod_nonneg _ (by decide))]
  refine b7 (y:=.int ((ixK ws j:Nat):Int)) (af (v:=.ref 1) rfl) ?_ ((rs (j:=ixK ws j) ⟨by exact Int.natCast_nonneg _,by omega⟩ (dQ h01.2) ((bp (by exact Int.natCast_nonneg _) (by rw[List.length_map,List.length_range];exact Int.ofNat_le.mpr ‹_›)).trans (by rw[Int.toNat_natCast]))).trans (by rw[List.getElem?_map,List.getElem?_range hx];rfl))
  refine(e)▸?_
  refine aQ (aQ (b7 (af rfl) aw (mi (i:=8) (by exact Nat.le_of_eq (Eq.symm ‹_›)) (by lia))) (aQ aw (af rfl) (v:=.int ((2:Int) ^ j)) ?_) (gz p1.1 p1.2)) aw (fy (by decide))
  show (if (2:Int).natAbs<1000000000/\0<=(j:Int)/\(j:Int)<=1000 then some (V.int ((2:Int) ^ (j:Int).toNat)) else none)=_
  rw[if_pos ⟨by decide,by exact Int.natCast_nonneg _,by lia⟩,Int.toNat_natCast]
end
noncomputable def s7(c:Nat)(p:List Nat):Prop:=(dbq p).length=c\/((dbq p).length=c+1/\∃ q,p=q++[34])
theorem lJ(p:List Nat)(x:Nat):(dbq (p++[x])).length=(dbq p).length+if x=34 then 2 else 1:=by
 rw[dh,List.length_append]
 show _+(if x=34 then [x,x] else [x]).length=_
 split <;> rfl
theorem ye{c x:Nat}{p:List Nat}(h:(dbq p).length<c):(dbq (p++[x])).length<c\/s7 c (p++[x]):=by
 have e:=lJ p x
 by_cases q:x=34
 ·rw[if_pos q] at e
  rcases Nat.lt_or_ge (dbq (p++[x])).length c with h1 | h1
  ·exact .inl h1
  ·refine Or.elim (Nat.eq_or_lt_of_le h1) (fun h2=>?_) (fun h2=>?_)
   ·exact .inr (.inl h2.symm)
   ·exact .inr (.inr ⟨by lia,p,by rw[q]⟩)
 ·rw[if_neg q] at e
  rcases Nat.lt_or_ge (dbq (p++[x])).length c with h1 | h1
  ·exact .inl h1
  ·exact .inr (.inl (by lia))
noncomputable def hI1:Ex:=.cmp .Lt (.loc 17) (.loc 16)
noncomputable def gj1:Sx:=(.seq (.aug 17 .Add (.ite (.cmp .Eq (.idx (.loc 14) (.loc 12)) (.cst (.str [34]))) (.cst (.int 2)) (.cst (.int 1))))
 (.seq (.aug 12 .Add (.cst (.int 1)))
 .skip))
section
variable {F:Fn} {σ:List AO} {T:List Nat} {n c:Nat} {sc st wo sz rg kd ty to le bg dp wi du he wh ss fr en:Option V}
theorem yd{p r:List Nat}{x:Nat}(hT:T=p++x::r)(hl:T.length<=1000):exs F gj1 σ (LF sc st wo sz rg kd ty to le bg (some (.int (p.length:Nat))) dp (some (.str T)) wi (some (.int (c:Nat))) (some (.int ((dbq p).length:Nat))) du he wh ss fr en) =
  some (.next,σ,LF sc st wo sz rg kd ty to le bg (some (.int ((p++[x]).length:Nat))) dp (some (.str T)) wi (some (.int (c:Nat))) (some (.int ((dbq (p++[x])).length:Nat))) du he wh ss fr en):=by
 have i1:dW σ (.str T) (.int (p.length:Nat))=some (.str [x]):=by subst hT;exact zq p x r (by exact Nat.le_trans ‹_› (by decide))
 have e:evx F (.ite (.cmp .Eq (.idx (.loc 14) (.loc 12)) (.cst (.str [34]))) (.cst (.int 2)) (.cst (.int 1))) σ (LF sc st wo sz rg kd ty to le bg (some (.int (p.length:Nat))) dp (some (.str T)) wi (some (.int (c:Nat))) (some (.int ((dbq p).length:Nat))) du he wh ss fr en)=some (.int ((if x=34 then 2 else 1:Nat):Int),σ):=by
  by_cases q:x=34
  ·rw[if_pos q]
   exact wp (bJ (b7 (af rfl) (af rfl) i1) aw (pN.trans (by rw[q];rfl))) aw
  ·rw[if_neg q]
   exact zi (bJ (b7 (af rfl) (af rfl) i1) aw (pN.trans (congrArg some (by simpa using q)))) aw
 refine(xc (w:=.int ((dbq (p++[x])).length:Nat)) rfl e ?_).trans ((xc (w:=.int ((p++[x]).length:Nat)) rfl aw ?_).trans bW)
 ·rw[lJ];rfl
 ·rw[List.length_append];rfl
theorem q7(hl:T.length<=900)(hc:c<=(dbq T).length):∀ (m:Nat) (r p:List Nat),r.length<m->T=p++r->((dbq p).length<c\/s7 c p) ->
  ∃ p' r',T=p'++r'/\s7 c p'/\whN (fun σ η=>evt F hI1 σ η) (fun σ η=>exs F gj1 σ η) m σ (LF sc st wo sz rg kd ty to le bg (some (.int (p.length:Nat))) dp (some (.str T)) wi (some (.int (c:Nat))) (some (.int ((dbq p).length:Nat))) du he wh ss fr en) =
   some (.next,σ,LF sc st wo sz rg kd ty to le bg (some (.int (p'.length:Nat))) dp (some (.str T)) wi (some (.int (c:Nat))) (some (.int ((dbq p').length:Nat))) du he wh ss fr en)
 | 0,r,p,h,_,_=>absurd h (Nat.not_lt_zero _)
 | m+1,r,p,h,hT,hs=>by
  by_cases hlt:(dbq p).length<c
  ·cases r with
   | nil =>
    rw[List.append_nil] at hT
    subst hT
    exact absurd hlt (Nat.not_lt.mpr hc)
   | cons x r =>
    refine byQ fun Q kQ=>?_
    obtain ⟨p',r',e,ok,hw⟩:=q7 hl hc m r (p++[x]) (by simpa using h) (by rw[hT];simp) (ye hlt)
    refine kQ ?_
    exact mU p' r' e ok ((gQ (eF (bJ (af rfl) (af rfl) (lU.trans (congrArg some (decide_eq_true (Int.ofNat_lt.mpr hlt))))) rfl) (yd hT (by exact Nat.le_trans ‹_› (by decide)))).trans hw)
  ·exact mU p r hT (hs.resolve_left hlt) (g9 (eF (bJ (af rfl) (af rfl) (lU.trans (congrArg some (decide_eq_false (fun q=>hlt (Int.ofNat_lt.mp q)))))) rfl))
theorem tZ:∀ r:List Nat,r.take (r.takeWhile fun x=>x==34).length=r.takeWhile fun x=>x==34
 | []=>rfl
 | x::r=>by
  by_cases h:x=34
  ·subst h
   rw[List.takeWhile_cons_of_pos rfl]
   exact congrArg (34::·) (tZ r)
  ·rw[List.takeWhile_cons_of_neg (by simpa using h)];rfl
noncomputable def h21:Sx:=(.ite (.cmp .Gt (.loc 17) (.loc 16)) (.seq (.asg 18 (.slc (.loc 18) .nil (.bin .Sub (.bf .len (.cons (.loc 18) .nil)) (.bf .len (.cons (.me .lstripC (.loc 18) (.cons (.cst (.str [34])) .nil)) .nil))) .nil))
 .skip) .skip)
noncomputable def vG(c:Nat)(p r:List Nat):List Nat:=if (dbq p).length=c then r else r.takeWhile fun x=>x==34
theorem bf1{p r:List Nat}(ok:s7 c p){k:Option V}:exs F h21 σ (LF sc st wo sz rg kd ty to le bg k dp (some (.str T)) wi (some (.int (c:Nat))) (some (.int ((dbq p).length:Nat))) (some (.str r)) he wh ss fr en)=some (.next,σ,LF sc st wo sz rg kd ty to le bg k dp (some (.str T)) wi (some (.int (c:Nat))) (some (.int ((dbq p).length:Nat))) (some (.str (vG c p r))) he wh ss fr en):=by
 unfold vG
 rcases ok with h | ⟨h,_⟩
 ·rw[if_pos h,h]
  exact(mf (eF (bJ (af rfl) (af rfl) (nF.trans (congrArg some (decide_eq_false (Int.lt_irrefl _))))) rfl)).trans rfl
 ·rw[if_neg (by lia),h]
  refine(mf (eF (bJ (af rfl) (af rfl) (nF.trans (congrArg some (decide_eq_true (by solve_by_elim (maxDepth:=4) only [*,Nat.le_trans,Nat.lt_of_lt_of_le,Nat.lt_of_le_of_lt,Nat.le_of_lt,Nat.le_of_eq,Nat.le_refl,Eq.symm,Nat.le_add_right,Nat.le_add_left,Nat.le_succ,Nat.sub_le,Nat.succ_le_succ,Nat.lt_succ_of_le,Nat.le_of_lt_succ,Nat.zero_le,Nat.succ_pos,Int.ofNat_le.mpr,Int.ofNat_lt.mpr,Int.natCast_nonneg,Nat.not_le.mpr,Nat.not_lt.mpr,Nat.not_le.mp,Nat.not_lt.mp]))))) rfl)).trans ((if_pos rfl).trans ?_)
  have tl:(r.takeWhile fun x=>x==34).length<=r.length:=(List.takeWhile_sublist _).length_le
  have e:evx F (.bin .Sub (.bf .len (.cons (.loc 18) .nil)) (.bf .len (.cons (.me .lstripC (.loc 18) (.cons (.cst (.str [34])) .nil)) .nil))) σ (LF sc st wo sz rg kd ty to le bg k dp (some (.str T)) wi (some (.int (c:Nat))) (some (.int ((c+1:Nat):Int))) (some (.str r)) he wh ss fr en)=some (.int ((r.takeWhile fun x=>x==34).length:Nat),σ):=by
   refine aQ (n7 (aT (af rfl)) fY) (n7 (aT (tp (af rfl) rfl (aT aw) (oS r))) fY) (nJ.trans ?_)
   rw[List.length_drop]
   exact congrArg (fun z=>some (V.int z)) (by omega)
  refine(aX (gY (af rfl) bH e bH (fj1 tl))).trans ?_
  rw[show r.take (r.takeWhile fun x=>x==34).length=r.takeWhile fun x=>x==34 from tZ r]
  exact bW
end
theorem fZ1(r:List Nat):(r.takeWhile fun x=>x==34)++(r.dropWhile fun x=>x==34)=r:=List.takeWhile_append_dropWhile
theorem nP:∀ r:List Nat,r.any (fun c=>c != 34)=false->r=List.replicate r.length 34
 | [],_=>rfl
 | c::r,h=>by
  rw[List.any_cons,Bool.or_eq_false_iff] at h
  have e:c=34:=by simpa using h.1
  subst e
  exact congrArg (34::·) (nP r h.2)
theorem vF{ws:List Int}{n c:Nat}(hn:Sz n){p r:List Nat}(hT:txt ws n=p++r)(ok:s7 c p) :
  b8 ((dbq (txt ws n)).drop c++[34,32,122])=vG c p r/\nX n (bq (vG c p r))/\(bq (vG c p r)).length<=21/\(vG c p r).length<=42/\∀ x∈vG c p r,eG x=true->(jp x).length<=lim:=by
 have tf:=eY (ws:=ws) hn
 have sf:=a0 hn
 have R0:=dF (ws:=ws) (r:=ixK ws 0) hn
 have R1:=dF (ws:=ws) (r:=ixK ws 1) hn
 have R2:=dF (ws:=ws) (r:=ixK ws 2) hn
 have hp:wrd ws (ixK ws 0) n++(wrd ws (ixK ws 1) n++wrd ws (ixK ws 2) n)=bq p++bq r:=by rw[← tf.1,hT,aY]
 have hl:(bq r).length<=3*n:=by
  have:=congrArg List.length hp
  simp only[List.length_append] at this
  have:=R0.len;have:=R1.len;have:=R2.len
  lia
 have rl:r.length<=42:=by
  refine byQ fun Q kQ=>?_
  have:=tf.2.1
  rw[hT,List.length_append] at this
  refine kQ ?_
  exact Nat.le_trans (Nat.le_add_left _ _) ‹_›
 have low:∀ x∈r,eG x=true->(jp x).length<=lim:=fun x hx=>tf.2.2.1 x (hT▸List.mem_append_right _ hx)
 unfold vG
 rcases ok with h | ⟨h,q,hq⟩
 ·rw[if_pos h]
  refine⟨?_,nd hn R0.len R1.len R2.len R0.cho R1.cho R2.cho hp,by lia,rl,low⟩
  rw[hT,dh,List.drop_left' h]
  exact mE [122] r
 ·rw[if_neg (by lia)]
  have any:r.any (fun c=>c != 34)=true:=by
   cases e:r.any (fun c=>c != 34) with
   | true=>rfl
   | false =>
    have a:=nP r e
    rw[hT,hq] at tf
    refine Or.elim (List.eq_nil_or_concat r) (fun z=>?_) (fun h_r=>?_)
    ·exact absurd (by rw[z,List.append_nil]) (tf.2.2.2.1 q)
    ·refine cH (h_r) fun r' x z=>?_
     replace z:=(List.concat_eq_append)▸z
     have hx:x=34:=List.eq_of_mem_replicate (n:=r.length) (a:=34) (a▸(z▸List.mem_append_right _ List.mem_cons_self))
     exact absurd (by rw[z,hx,← List.append_assoc]) (tf.2.2.2.1 (q++[34]++r'))
  have tw:=t3 r
  have pm:bq (r.takeWhile fun x=>x==34)=List.replicate (r.takeWhile fun x=>x==34).length 34:=by
   conv=>lhs;rw[tw]
   exact jV _
  have short:(r.takeWhile fun x=>x==34).length<n:=by
   refine uq (A:=bq p) (B:=bq (r.dropWhile fun x=>x==34)) R0.len R1.len R2.len R0.end_ R1.end_ R2.end_ (by lia) ?_
   rw[← pm,← aY,fZ1]
   exact hp
  refine⟨?_,pn (by rw[pm,List.length_replicate];exact short),by rw[pm,List.length_replicate];omega,by omega,fun x hx=>low x ((List.takeWhile_sublist _).subset hx)⟩
  have e:(dbq (txt ws n)).drop c=34::dbq r:=by
   have l1:(dbq q).length+1=c:=by
    have:=lJ q 34
    rw[if_pos rfl,← hq,h] at this
    lia
   rw[hT,hq,dh,dh,List.append_assoc,List.drop_append,List.drop_of_length_le (by solve_by_elim (maxDepth:=4) only [*,Nat.le_trans,Nat.lt_of_lt_of_le,Nat.lt_of_le_of_lt,Nat.le_of_lt,Nat.le_of_eq,Nat.le_refl,Eq.symm,Nat.le_add_right,Nat.le_add_left,Nat.le_succ,Nat.sub_le,Nat.succ_le_succ,Nat.lt_succ_of_le,Nat.le_of_lt_succ,Nat.zero_le,Nat.succ_pos,Int.ofNat_le.mpr,Int.ofNat_lt.mpr,Int.natCast_nonneg,Nat.not_le.mpr,Nat.not_lt.mpr,Nat.not_le.mp,Nat.not_lt.mp]),show c - (dbq q).length=1 by lia]
   rfl
  rw[e,mD _ r any]
section
variable {F:Fn} {σ:List AO} {ws:List Int} {h T:List Nat} {n c:Nat} {sc st wo sz rg kd ty to le bg k dp tx wi cu se du he wh ss fr en:Option V}
noncomputable def tK:Ex:=(.call 2 (.cons (.bin .Add (.bin .Add (.cst (.str [50,53,55,32,34])) (.slc (.loc 15) (.loc 16) .nil .nil)) (.cst (.str [34,32,122]))) .nil))
theorem zD(K:LawOk F){η:ab}{D W:List Nat}(hc:c<=W.length)(hW:W.length<=100)(h15:η[15]?=some (some (.str W)))(h16:η[16]?=some (some (.int (c:Nat))))(hD:b8 (W.drop c++[34,32,122])=D):evx F tK σ η=some (.str D,σ):=by
 have p:=K.fn.parse σ (W.drop c++[34,32,122]) (by rw[List.length_append,List.length_drop];show W.length - c+3<=900;omega)
 rw[hD,← List.append_assoc] at p
 refine ck (aT (aQ (aQ aw (gY (af h15) (af h16) bH bH (qA hc)) (eh.trans (if_pos ?_))) aw (eh.trans (if_pos ?_)))) p
 ·rw[List.length_drop];show 5+(W.length - c)<=1000000;omega
 ·rw[List.length_append,List.length_drop];show 5+(W.length - c)+3<=1000000;omega
noncomputable def zx:Ex:=(.bin .Add (.bin .Sub (.bf .len (.cons (.loc 19) .nil)) (.loc 3)) (.cst (.int 1)))
noncomputable def tJ:Ex:=(.list (.cons (.range (.cons (.bin .Mod (.bf .len (.cons (.loc 19) .nil)) (.loc 3)) (.cons zx (.cons (.loc 3) .nil)))) .nil))
theorem bd1{η:ab}(h3:η[3]?=some (some (.int (n:Int))))(h19:η[19]?=some (some (.str h))):evx F zx σ η=some (.int ((h.length:Int) - n+1),σ):=aQ (aQ (n7 (aT (af h19)) fY) (af h3) nJ) aw gc
theorem tO(n m:Nat):(aV n m).length<=m+1:=by
 unfold aV
 refine Nat.le_trans (List.length_filter_le _ _) ?_
 rw[List.length_range];exact Nat.sub_le _ _
theorem zz{η:ab}(hn:Sz n)(hh:h.length<=21)(h3:η[3]?=some (some (.int (n:Int))))(h19:η[19]?=some (some (.str h))):evx F tJ σ η=some (.lst (ac (aV n h.length)),σ):=by
 have sf:=a0 hn
 have we:=wB hn (m:=h.length) (by exact Nat.lt_succ_of_le ‹_›)
 have wl:=tO n h.length
 refine(we)▸?_
 refine cd1 (cb1 (aQ (n7 (aT (af h19)) fY) (af h3) ((fy (by omega)).trans (by rw[Int.natCast_emod]))) (bd1 h3 h19) (af h3) ?_) ?_
 ·have:=Nat.mod_lt h.length (show 0<n by lia)
  unfold e9
  exact decide_eq_true (by lia)
 ·rw[we]
  unfold ac lim
  rw[List.length_map];lia
noncomputable def yB:Ex:=(.cmp .NotEq (.comp [⟨"k",29,true⟩,⟨"heard",19,false⟩,⟨"size",3,false⟩] (.loc 29) (.loc 29) (.range (.cons zx .nil)) (.call 8 (.cons (.call 7 (.cons (.slc (.loc 19) (.loc 29) (.bin .Add (.loc 29) (.loc 3)) .nil) .nil)) .nil))) (.loc 20))
theorem cj1{η:ab}{e:Ex}{j:Nat}(h3:η[3]?=some (some (.int (n:Int))))(h19:η[19]?=some (some (.str h)))(he:evx F e σ η=some (.int (j:Int),σ))(hj:j+n<=h.length):evx F (.slc (.loc 19) e (.bin .Add e (.loc 3)) .nil) σ η=some (.str ((h.drop j).take n),σ):=by
 refine gY (af h19) he (aQ he (af h3) gc) bH ?_
 have:=qz (σ:=σ) (l:=h) (i:=j) (j:=j+n) (by exact Nat.le_add_right _ _) hj
 rw[show j+n - j=n by lia] at this
 exact this
theorem su{t:List Nat}{m:Nat}(ht:t.length<=m):(cB t).length<=m+1:=by
 have:=(nr t).2.2
 show (_++[_]).length<=_
 rw[List.length_append,List.length_singleton];lia
theorem xS(K:LawOk F)(hn:Sz n)(hh:h.length<=21)(H:nX n h):∃ ex,evx F yB σ (LF sc st wo (some (.int (n:Int))) rg kd ty to le bg k dp tx wi cu se du (some (.str h)) (some (.lst (ac (aV n h.length)))) ss fr en)=some (.bool false,σ++ex):=by
 have sf:=a0 hn
 have tn:((h.length:Int) - n+1).toNat=h.length+1 - n:=by omega
 have cond:∀ j∈List.range (h.length+1 - n),∀ σ':List AO,∃ ex,evt F (.call 8 (.cons (.call 7 (.cons (.slc (.loc 19) (.loc 29) (.bin .Add (.loc 29) (.loc 3)) .nil) .nil)) .nil)) σ' ((clr (LF sc st wo (some (.int (n:Int))) rg kd ty to le bg k dp tx wi cu se du (some (.str h)) (some (.lst (ac (aV n h.length)))) ss fr en) [⟨"k",29,true⟩,⟨"heard",19,false⟩,⟨"size",3,false⟩]).set 29 (some (.int (j:Int))))=some (ch ((h.drop j).take n),σ'++ex):=by
  intro j hj σ'
  refine byQ fun Q kQ=>?_
  have hj':=List.mem_range.mp hj
  have wl:((h.drop j).take n).length<=7:=by rw[List.length_take];lia
  obtain ⟨ex,hd⟩:=K.dips σ' (t:=(h.drop j).take n) (by exact Nat.le_trans ‹_› (by decide))
  have hx:=K.chos (σ'++ex) (D:=cB ((h.drop j).take n)) (by unfold cB;simp) (Nat.le_trans (su wl) (by decide))
  have hw:=cj1 (F:=F) (σ:=σ') (n:=n) (h:=h) (e:=.loc 29) (j:=j) (η:=(clr (LF sc st wo (some (.int (n:Int))) rg kd ty to le bg k dp tx wi cu se du (some (.str h)) (some (.lst (ac (aV n h.length)))) ss fr en) [⟨"k",29,true⟩,⟨"heard",19,false⟩,⟨"size",3,false⟩]).set 29 (some (.int (j:Int)))) rfl rfl (af rfl) (by omega)
  have h1:=ck (f:=7) (aT hw) hd
  have h2:=ck (f:=8) (b4 h1 gB) hx
  refine kQ ?_
  exact⟨ex,eF (x:=.bool (ch ((h.drop j).take n))) h2 rfl⟩
 obtain ⟨ex,hc⟩:=zt (F:=F) (σ:=σ) (η:=(LF sc st wo (some (.int (n:Int))) rg kd ty to le bg k dp tx wi cu se du (some (.str h)) (some (.lst (ac (aV n h.length)))) ss fr en)) (vars:=[⟨"k",29,true⟩,⟨"heard",19,false⟩,⟨"size",3,false⟩]) (i:=29)
  (elt:=.loc 29) (it:=.range (.cons zx .nil)) (cond:=.call 8 (.cons (.call 7 (.cons (.slc (.loc 19) (.loc 29) (.bin .Add (.loc 29) (.loc 3)) .nil) .nil)) .nil)) (l:=List.range (h.length+1 - n)) (g:=fun (k:Nat)=>V.int (k:Int)) (f:=fun (k:Nat)=>V.int (k:Int)) (p:=fun j=>ch ((h.drop j).take n))
  (yx (bd1 rfl rfl) (by omega) (by omega)) (by rw[u9,tn]) nofun cond (fun j hj σ'=>af rfl) (by rw[List.length_range];unfold lim;omega)
 have e:((List.range (h.length+1 - n)).filter fun j=>ch ((h.drop j).take n))=aV n h.length:=by
  unfold aV
  exact List.filter_congr fun j hj=>H j (by have:=List.mem_range.mp hj;omega)
 rw[e] at hc
 exact⟨ex,tq hc (af rfl) (ax1 _)⟩
end
noncomputable def zv(s:Nat)(r:Int):Ex:=.cmp .IsNot (.loc s) (.and (.cmp .In (.loc 12) (.loc 20)) (.cmp .Eq (.loc 21) (.idx (.loc 4) (.cst (.int r)))))
noncomputable def xA:Ex:=.call 1 (.cons (.bin .Add (.idx (.loc 4) (.cst (.int 0))) (.cst (.str [46,46,46]))) (.cons (.slc (.loc 19) (.loc 12) .nil .nil) .nil))
noncomputable def xB:Ex:=.call 1 (.cons (.bin .Add (.cst (.str [46,46,46])) (.idx (.loc 4) (.cst (.int 1)))) (.cons (.slc (.loc 19) .nil (.bin .Add (.loc 12) (.loc 3)) .nil) .nil))
noncomputable def qB:Sx:=(.seq (.asg 21 (.slc (.loc 19) (.loc 12) (.bin .Add (.loc 12) (.loc 3)) .nil))
 (.seq (.asg 22 xA)
 (.seq (.asg 23 xB)
 (.seq (.ite (.or (zv 22 0) (zv 23 1)) (.seq (.ret (.cst (.bool false)))
 .skip) .skip)
 .skip))))
section
variable {F:Fn} {σ:List AO} {ws:List Int} {h:List Nat} {n:Nat} {sc st wo sz rg kd ty to le bg k dp tx wi cu se du he wh ss fr en:Option V}
theorem tN{η:ab}{r:Nat}(h01:rq σ ws n 2)(hr:r<2)(e:η[4]?=some (some (.ref 0))):evx F (.idx (.loc 4) (.cst (.int (r:Int)))) σ η=some (.str (wrd ws r n),σ) :=
 b7 (af e) aw ((rs (j:=r) ⟨by exact Int.natCast_nonneg _,by omega⟩ (dQ h01.1) ((bp (by exact Int.natCast_nonneg _) (by rw[List.length_map,List.length_range];exact Int.ofNat_le.mpr ‹_›)).trans (by rw[Int.toNat_natCast]))).trans (by rw[List.getElem?_map,List.getElem?_range hr];rfl))
theorem wA{w:List Nat}{j:Nat}(H:nX n h)(hw:ch w=true)(hj:j+n<=h.length):(decide (j∈aV n h.length)&&((h.drop j).take n==w))=((h.drop j).take n==w):=by
 cases e:((h.drop j).take n==w) with
 | false=>exact Bool.and_false _
 | true =>
  rw[Bool.and_true]
  have e':=beq_iff_eq.mp e
  have:=H j hj
  rw[e',hw] at this
  exact decide_eq_true (List.mem_filter.mpr ⟨List.mem_range.mpr (by omega),this.symm⟩)
theorem yM{η:ab}{s r j:Nat}(h01:rq σ ws n 2)(hr:r<2)(H:nX n h)(hj:j+n<=h.length)(hc:ch (wrd ws r n)=true)
  (e4:η[4]?=some (some (.ref 0))) (e12:η[12]?=some (some (.int (j:Int)))) (e20:η[20]?=some (some (.lst (ac (aV n h.length))))) (e21:η[21]?=some (some (.str ((h.drop j).take n)))) (es:η[s]?=some (some (.bool ((h.drop j).take n==wrd ws r n)))) :
  evx F (zv s (r:Int)) σ η=some (.bool false,σ):=by
 have a:evx F (.and (.cmp .In (.loc 12) (.loc 20)) (.cmp .Eq (.loc 21) (.idx (.loc 4) (.cst (.int (r:Int)))))) σ η=some (.bool ((h.drop j).take n==wrd ws r n),σ):=by
  rw[← wA H hc hj]
  exact b51 (bJ (af e12) (af e20) (a21 rfl)) (bJ (af e21) (tN h01 hr e4) pN)
 refine bJ (af es) a ?_
 show some (((h.drop j).take n==wrd ws r n) != ((h.drop j).take n==wrd ws r n))=_
 rw[bne_self_eq_false]
theorem kE{j:Nat}(hj:j+n<=h.length):(h.take (j+n)).drop ((h.take (j+n)).length - n)=(h.drop j).take n:=by
 rw[List.length_take,Nat.min_eq_left hj,Nat.add_sub_cancel,List.drop_take,Nat.add_sub_cancel_left]
theorem rP(K:LawOk F)(hn:Sz n)(hh:h.length<=21)(H:nX n h)(h01:rq σ ws n 2){j:Nat}(hj:j+n<=h.length) :
  ∃ ex ss' fr' en',exs F qB σ (LF sc st wo (some (.int (n:Int))) rg kd ty to le bg (some (.int (j:Int))) dp tx wi cu se du (some (.str h)) (some (.lst (ac (aV n h.length)))) ss fr en) =
   some (.next,σ++ex,LF sc st wo (some (.int (n:Int))) rg kd ty to le bg (some (.int (j:Int))) dp tx wi cu se du (some (.str h)) (some (.lst (ac (aV n h.length)))) ss' fr' en'):=by
 refine byQ fun Q kQ=>?_
 have sf:=a0 hn
 have R0:=dF (ws:=ws) (r:=0) hn
 have R1:=dF (ws:=ws) (r:=1) hn
 have ne:∀ {w:List Nat},w.length=n->w≠[]:=fun hl q=>by rw[q] at hl;exact absurd hl (by show ¬ 0=n;lia)
 obtain ⟨ex1,p1⟩:=K.ellA σ (w:=wrd ws 0 n) (t:=h.drop j) (ne R0.len) (fun c hc=>(R0.abc c hc).2) (by rw[R0.len];omega)
 obtain ⟨ex2,p2⟩:=K.ellB (σ++ex1) (w:=wrd ws 1 n) (t:=h.take (j+n)) (ne R1.len) (fun c hc=>(R1.abc c hc).2) (by rw[R1.len];omega)
 rw[R0.len] at p1
 rw[R1.len,kE hj,List.length_take,Nat.min_eq_left hj,decide_eq_true (Nat.le_add_left n j),Bool.true_and] at p2
 have g1:rq (σ++ex1) ws n 2:=⟨aW h01.1,aW h01.2⟩
 have g2:rq (σ++ex1++ex2) ws n 2:=⟨aW g1.1,aW g1.2⟩
 have s1:exs F (.asg 21 (.slc (.loc 19) (.loc 12) (.bin .Add (.loc 12) (.loc 3)) .nil)) σ (LF sc st wo (some (.int (n:Int))) rg kd ty to le bg (some (.int (j:Int))) dp tx wi cu se du (some (.str h)) (some (.lst (ac (aV n h.length)))) ss fr en)=some (.next,σ,LF sc st wo (some (.int (n:Int))) rg kd ty to le bg (some (.int (j:Int))) dp tx wi cu se du (some (.str h)) (some (.lst (ac (aV n h.length)))) (some (.str ((h.drop j).take n))) fr en):=mh (cj1 rfl rfl (af rfl) hj)
 have a2:evx F xA σ (LF sc st wo (some (.int (n:Int))) rg kd ty to le bg (some (.int (j:Int))) dp tx wi cu se du (some (.str h)) (some (.lst (ac (aV n h.length)))) (some (.str ((h.drop j).take n))) fr en)=some (.bool ((h.drop j).take n==wrd ws 0 n),σ++ex1) :=
  ck (b4 (aQ (tN (r:=0) h01 (by decide) rfl) aw (eh.trans (if_pos (by rw[R0.len];show n+3<=1000000;omega)))) (aT (gY (af rfl) (af rfl) bH bH (qA (by exact Nat.le_trans (Nat.le_add_right _ _) ‹_›))))) p1
 have s2:exs F (.asg 22 xA) σ (LF sc st wo (some (.int (n:Int))) rg kd ty to le bg (some (.int (j:Int))) dp tx wi cu se du (some (.str h)) (some (.lst (ac (aV n h.length)))) (some (.str ((h.drop j).take n))) fr en)=some (.next,σ++ex1,LF sc st wo (some (.int (n:Int))) rg kd ty to le bg (some (.int (j:Int))) dp tx wi cu se du (some (.str h)) (some (.lst (ac (aV n h.length)))) (some (.str ((h.drop j).take n))) (some (.bool ((h.drop j).take n==wrd ws 0 n))) en):=mh a2
 have jn:evx F (.bin .Add (.loc 12) (.loc 3)) (σ++ex1) (LF sc st wo (some (.int (n:Int))) rg kd ty to le bg (some (.int (j:Int))) dp tx wi cu se du (some (.str h)) (some (.lst (ac (aV n h.length)))) (some (.str ((h.drop j).take n))) (some (.bool ((h.drop j).take n==wrd ws 0 n))) en)=some (.int ((j+n:Nat):Int),σ++ex1):=aQ (af rfl) (af rfl) gc
 have a3:evx F xB (σ++ex1) (LF sc st wo (some (.int (n:Int))) rg kd ty to le bg (some (.int (j:Int))) dp tx wi cu se du (some (.str h)) (some (.lst (ac (aV n h.length)))) (some (.str ((h.drop j).take n))) (some (.bool ((h.drop j).take n==wrd ws 0 n))) en)=some (.bool ((h.drop j).take n==wrd ws 1 n),σ++ex1++ex2) :=
  ck (b4 (aQ aw (tN (r:=1) g1 (by decide) rfl) (eh.trans (if_pos (by rw[R1.len];show 3+n<=1000000;omega)))) (aT (gY (af rfl) bH jn bH (fj1 hj)))) p2
 have s3:exs F (.asg 23 xB) (σ++ex1) (LF sc st wo (some (.int (n:Int))) rg kd ty to le bg (some (.int (j:Int))) dp tx wi cu se du (some (.str h)) (some (.lst (ac (aV n h.length)))) (some (.str ((h.drop j).take n))) (some (.bool ((h.drop j).take n==wrd ws 0 n))) en)=some (.next,σ++ex1++ex2,LF sc st wo (some (.int (n:Int))) rg kd ty to le bg (some (.int (j:Int))) dp tx wi cu se du (some (.str h)) (some (.lst (ac (aV n h.length)))) (some (.str ((h.drop j).take n))) (some (.bool ((h.drop j).take n==wrd ws 0 n))) (some (.bool ((h.drop j).take n==wrd ws 1 n)))):=mh a3
 refine kQ ?_
 refine kC1 (ex1++ex2) (some (.str ((h.drop j).take n))) (some (.bool ((h.drop j).take n==wrd ws 0 n))) (some (.bool ((h.drop j).take n==wrd ws 1 n))) ?_
 rw[← List.append_assoc]
 exact(ay s1).trans ((ay s2).trans ((ay s3).trans ((s8 (hH1 (k:=false) (l:=false) (yM (r:=0) g2 (by decide) H hj R0.cho rfl rfl rfl rfl rfl) (yM (r:=1) g2 (by decide) H hj R1.cho rfl rfl rfl rfl rfl))).trans bW)))
theorem uV(K:LawOk F)(hn:Sz n)(hh:h.length<=21)(H:nX n h)(h01:rq σ ws n 2) :
  ∃ σ' η',exs F (.for_ (.loc 12) (.range (.cons zx .nil)) qB) σ (LF sc st wo (some (.int (n:Int))) rg kd ty to le bg k dp tx wi cu se du (some (.str h)) (some (.lst (ac (aV n h.length)))) ss fr en)=some (.next,σ',η'):=by
 have sf:=a0 hn
 have tn:((h.length:Int) - n+1).toNat=h.length+1 - n:=by omega
 obtain ⟨σ',η',h2,q⟩:=lA (F:=F) (i:=12) (it:=.range (.cons zx .nil)) (b:=qB) (σ:=σ) (η:=LF sc st wo (some (.int (n:Int))) rg kd ty to le bg k dp tx wi cu se du (some (.str h)) (some (.lst (ac (aV n h.length)))) ss fr en) (l:=(List.range (h.length+1 - n)).map fun (k:Nat)=>V.int (k:Int))
  (fun l σ' η'=>∃ (b:List Nat) (k' ss' fr' en':Option V),(∀ j∈b,j+n<=h.length)/\l=b.map (fun (k:Nat)=>V.int (k:Int))/\rq σ' ws n 2/\η'=LF sc st wo (some (.int (n:Int))) rg kd ty to le bg k' dp tx wi cu se du (some (.str h)) (some (.lst (ac (aV n h.length)))) ss' fr' en')
  (yx (bd1 rfl rfl) (by omega) (by omega)) (by rw[u9,tn]) ⟨List.range (h.length+1 - n),k,ss,fr,en,fun j hj=>by have:=List.mem_range.mp hj;omega,rfl,h01,rfl⟩ (fun x l σ' η' ⟨b,k',ss',fr',en',hb,el,g,eη⟩=>by
   cases b with
   | nil=>cases el
   | cons j b =>
    rw[List.map_cons] at el
    injection el with e1 e2
    subst e1 eη
    refine h81 (rP (F:=F) (σ:=σ') (sc:=sc) (st:=st) (wo:=wo) (rg:=rg) (kd:=kd) (ty:=ty) (to:=to) (le:=le) (bg:=bg) (dp:=dp) (tx:=tx) (wi:=wi) (cu:=cu) (se:=se) (du:=du) (ss:=ss') (fr:=fr') (en:=en') K hn hh H g (hb j List.mem_cons_self)) fun ex s1 s2 s3 q=>?_
    exact⟨_,_,q,b,_,s1,s2,s3,fun i hi=>hb i (List.mem_cons_of_mem _ hi),e2,⟨aW g.1,aW g.2⟩,rfl⟩)
 exact y0 σ' η' h2
end
noncomputable def dC:List Int:=[596,9619,4010,220,2700,1933,13002,7,2]
noncomputable def wor(ns:List Int)(k:Nat):Int:=(dC.getD k 0+(jR ns (some (k:Int)) none (some 9)).sum) % 1000000
noncomputable def ci1(ns:List Int):List Int:=(List.range 9).map (wor ns)
noncomputable def tL:Ex:=.tup (.cons (.cst (.int 596)) (.cons (.cst (.int 9619)) (.cons (.cst (.int 4010)) (.cons (.cst (.int 220)) (.cons (.cst (.int 2700)) (.cons (.cst (.int 1933)) (.cons (.cst (.int 13002)) (.cons (.cst (.int 7)) (.cons (.cst (.int 2)) .nil)))))))))
noncomputable def yy:Ex:=.comp [⟨"k",24,true⟩,⟨"script",0,false⟩,⟨"starts",1,false⟩] (.loc 24) (.bin .Mod (.bin .Add (.idx (.loc 1) (.loc 24)) (.bf .sum (.cons (.slc (.loc 0) (.loc 24) .nil (.cst (.int 9))) .nil))) (.cst (.int 1000000))) (.range (.cons (.cst (.int 9)) .nil)) .nil
noncomputable def cg1:Ex:=.bin .Add (.cst (.int 3)) (.bin .Mult (.bin .Mod (.idx (.loc 2) (.cst (.int 7))) (.cst (.int 3))) (.cst (.int 2)))
noncomputable def yC:Ex:=.bin .Mod (.bin .FloorDiv (.idx (.loc 2) (.cst (.int 7))) (.cst (.int 3))) (.bf .len (.cons (.loc 15) .nil))
noncomputable def sNo(c:Ex):Sx:=.ite c (.seq (.ret (.cst (.bool false))) .skip) .skip
noncomputable def hZ1:Sx:=(.seq (.asg 9 tK)
 (.seq (sNo (.cmp .NotEq (.loc 9) (.loc 18)))
 (.seq (.asg 19 (.call 6 (.cons (.loc 9) .nil)))
 (.seq (.asg 20 tJ)
 (.seq (sNo yB)
 (.seq (.for_ (.loc 12) (.range (.cons zx .nil)) qB)
 (.seq (.ret (.cst (.bool true))) .skip)))))))
noncomputable def hY1:Sx:=(.seq (.asg 14 cf1)
 (.seq (.asg 15 (.rep (.loc 14) [34] [34,34]))
 (.seq (.asg 16 yC)
 (.seq (.asg 17 (.cst (.int 0)))
 (.seq (.asg 12 (.cst (.int 0)))
 (.seq (.whil 1000 hI1 gj1)
 (.seq (.asg 18 (.slc (.loc 14) (.loc 12) .nil .nil))
 (.seq h21 hZ1))))))))
theorem u1:yv=(.seq (.asg 1 tL) (.seq (.asg 2 yy) (.seq (.asg 3 cg1) (.seq (.asg 4 (.new .nil)) (.seq (.asg 5 (.new .nil)) (.seq (.for_ (.loc 6) (.range (.cons (.cst (.int 2)) .nil)) uo) hY1)))))):=rfl
section
variable {F:Fn} {σ:List AO} {ns ws:List Int} {n c:Nat} {h T:List Nat} {sc st wo sz rg kd ty to le bg k dp tx wi cu se du he wh ss fr en:Option V}
theorem px:∀ l:List Nat,(dbq l).length<=2*l.length/\l.length<=(dbq l).length
 | []=>⟨Nat.le_refl _,Nat.le_refl _⟩
 | x::l=>by
  have e:dbq (x::l)=dbq [x]++dbq l:=dh [x] l
  have i:=px l
  have j:(dbq [x]).length=1\/(dbq [x]).length=2:=by
   show (if x=34 then [x,x] else [x]).length=1\/(if x=34 then [x,x] else [x]).length=2
   split
   ·exact .inr rfl
   ·exact .inl rfl
  rw[e,List.length_append,List.length_cons]
  lia
theorem be1(K:LawOk F)(hn:Sz n)(h01:rq σ ws n 2){p r:List Nat}(hT:txt ws n=p++r)(ok:s7 c p)(hc:c<=(dbq (txt ws n)).length) :
  ∃ σ' η',exs F hZ1 σ (LF sc st wo (some (.int (n:Int))) rg kd ty to le bg k dp tx (some (.str (dbq (txt ws n)))) (some (.int (c:Nat))) se (some (.str (vG c p r))) he wh ss fr en)=some (.ret (.bool true),σ',η'):=by
 refine byQ fun Q kQ=>?_
 have tf:=eY (ws:=ws) hn
 have dl:=px (txt ws n)
 have df:=vF hn hT ok
 have D1:=df.1;have D2:=df.2.1;have D3:=df.2.2.1;have D4:=df.2.2.2.1;have D5:=df.2.2.2.2
 have pr:=K.prep σ (t:=vG c p r) (by exact Nat.le_trans ‹_› (by decide)) D5 (by unfold lim;exact Nat.le_trans ‹_› (by decide))
 generalize hW:dbq (txt ws n)=W at *
 generalize hd:vG c p r=d at *
 refine a9 (xS (F:=F) (σ:=σ) (sc:=sc) (st:=st) (wo:=wo) (rg:=rg) (kd:=kd) (ty:=ty) (to:=some (.str d)) (le:=le) (bg:=bg) (k:=k) (dp:=dp) (tx:=tx) (wi:=some (.str W)) (cu:=some (.int (c:Nat))) (se:=se) (du:=some (.str d)) (ss:=ss) (fr:=fr) (en:=en) K hn D3 D2) fun ex hx=>?_
 refine cH (uV (F:=F) (σ:=σ++ex) (ws:=ws) (sc:=sc) (st:=st) (wo:=wo) (rg:=rg) (kd:=kd) (ty:=ty) (to:=some (.str d)) (le:=le) (bg:=bg) (k:=k) (dp:=dp) (tx:=tx) (wi:=some (.str W)) (cu:=some (.int (c:Nat))) (se:=se) (du:=some (.str d)) (ss:=ss) (fr:=fr) (en:=en) K hn D3 D2 ⟨aW h01.1,aW h01.2⟩) fun σ' η' hm=>?_
 refine kQ ?_
 refine y0 σ' η' ?_
 have s1:exs F (.asg 9 tK) σ (LF sc st wo (some (.int (n:Int))) rg kd ty to le bg k dp tx (some (.str W)) (some (.int (c:Nat))) se (some (.str d)) he wh ss fr en)=some (.next,σ,LF sc st wo (some (.int (n:Int))) rg kd ty (some (.str d)) le bg k dp tx (some (.str W)) (some (.int (c:Nat))) se (some (.str d)) he wh ss fr en):=mh (zD K hc (by lia) rfl rfl D1)
 have s3:exs F (.asg 19 (.call 6 (.cons (.loc 9) .nil))) σ (LF sc st wo (some (.int (n:Int))) rg kd ty (some (.str d)) le bg k dp tx (some (.str W)) (some (.int (c:Nat))) se (some (.str d)) he wh ss fr en)=some (.next,σ,LF sc st wo (some (.int (n:Int))) rg kd ty (some (.str d)) le bg k dp tx (some (.str W)) (some (.int (c:Nat))) se (some (.str d)) (some (.str (bq d))) wh ss fr en):=mh (ck (aT (af rfl)) pr)
 have s4:exs F (.asg 20 tJ) σ (LF sc st wo (some (.int (n:Int))) rg kd ty (some (.str d)) le bg k dp tx (some (.str W)) (some (.int (c:Nat))) se (some (.str d)) (some (.str (bq d))) wh ss fr en)=some (.next,σ,LF sc st wo (some (.int (n:Int))) rg kd ty (some (.str d)) le bg k dp tx (some (.str W)) (some (.int (c:Nat))) se (some (.str d)) (some (.str (bq d))) (some (.lst (ac (aV n (bq d).length)))) ss fr en):=mh (zz hn D3 rfl rfl)
 exact(ay s1).trans ((s8 (bJ (af rfl) (af rfl) (pM.trans (congrArg (fun b=>some (!b)) BEq.rfl)))).trans ((ay s3).trans ((ay s4).trans ((s8 hx).trans ((ay hm).trans (mI aw))))))
theorem aJ1(K:LawOk F)(hn:Sz n)(hw:ws.length=9)(h01:rq σ ws n 2) :
  ∃ σ' η',exs F hY1 σ (LF sc st (some (.lst (ws.map V.int))) (some (.int (n:Int))) rg kd ty to le bg k dp tx wi cu se du he wh ss fr en)=some (.ret (.bool true),σ',η'):=by
 refine byQ fun Q kQ=>?_
 have tf:=eY (ws:=ws) hn
 have dl:=px (txt ws n)
 have t0:0<(txt ws n).length:=List.length_pos_iff.mpr tf.2.2.2.2
 have x14:=cq1 (F:=F) (σ:=σ) (sc:=sc) (st:=st) (rg:=rg) (kd:=kd) (ty:=ty) (to:=to) (le:=le) (bg:=bg) (k:=k) (dp:=dp) (tx:=tx) (wi:=wi) (cu:=cu) (se:=se) (du:=du) (he:=he) (wh:=wh) (ss:=ss) (fr:=fr) (en:=en) hn hw h01
 generalize hT:txt ws n=T at *
 have c0:=Int.emod_nonneg (ws.getD 7 0 / 3) (show (((dbq T).length:Nat):Int)≠0 by lia)
 have c1:=Int.emod_lt_of_pos (ws.getD 7 0 / 3) (show (0:Int)<(((dbq T).length:Nat):Int) by lia)
 refine a9 (Int.eq_ofNat_of_zero_le c0) fun c hc=>?_
 replace c1:=(hc)▸c1
 obtain ⟨p,r,e,ok,hwh⟩:=q7 (F:=F) (σ:=σ) (T:=T) (c:=c) (sc:=sc) (st:=st) (wo:=some (.lst (ws.map V.int))) (sz:=some (.int (n:Int))) (rg:=rg) (kd:=kd) (ty:=ty) (to:=to) (le:=le) (bg:=bg) (dp:=dp) (wi:=some (.str (dbq T))) (du:=du) (he:=he) (wh:=wh) (ss:=ss) (fr:=fr) (en:=en) (by omega) (by omega) 1000 T [] (by omega) rfl (by
  rcases Nat.eq_zero_or_pos c with z | z
  ·exact .inr (.inl z.symm)
  ·exact .inl z)
 obtain ⟨σ',η',hend⟩:=be1 (F:=F) (σ:=σ) (ws:=ws) (sc:=sc) (st:=st) (wo:=some (.lst (ws.map V.int))) (rg:=rg) (kd:=kd) (ty:=ty) (to:=to) (le:=le) (bg:=bg) (k:=some (.int (p.length:Nat))) (dp:=dp) (tx:=some (.str T)) (se:=some (.int ((dbq p).length:Nat))) (he:=he) (wh:=wh) (ss:=ss) (fr:=fr) (en:=en) K hn h01 (hT.trans e) ok (by rw[hT];omega)
 rw[hT] at hend
 refine kQ ?_
 refine y0 σ' η' ?_
 have s16:evx F yC σ (LF sc st (some (.lst (ws.map V.int))) (some (.int (n:Int))) rg kd ty to le bg k dp (some (.str T)) (some (.str (dbq T))) cu se du he wh ss fr en)=some (.int (c:Nat),σ):=by
  refine(show ws.getD 7 0 / 3 % (((dbq T).length:Nat):Int)=((c:Nat):Int) from hc)▸?_
  exact aQ (aQ (b7 (af rfl) aw (mi (i:=7) (by lia) (by lia))) aw (gz (by decide) (by decide))) (n7 (aT (af rfl)) fY) (fy (by lia))
 have s18:evx F (.slc (.loc 14) (.loc 12) .nil .nil) σ (LF sc st (some (.lst (ws.map V.int))) (some (.int (n:Int))) rg kd ty to le bg (some (.int (p.length:Nat))) dp (some (.str T)) (some (.str (dbq T))) (some (.int (c:Nat))) (some (.int ((dbq p).length:Nat))) du he wh ss fr en)=some (.str r,σ):=by
  have:=qA (σ:=σ) (l:=T) (i:=p.length) (by rw[e,List.length_append];exact Nat.le_add_right _ _)
  rw[e,List.drop_left,← e] at this
  exact gY (af rfl) (af rfl) bH bH this
 exact(aX x14).trans ((aX (b11 (af rfl) (dO1 _ (by omega)))).trans ((aX s16).trans ((aX aw).trans ((aX aw).trans ((ay (zj.trans hwh)).trans ((aX s18).trans ((ay (bf1 ok)).trans hend)))))))
theorem wO{η:ab}:evx F tL σ η=some (.tup (dC.map V.int),σ):=by rfl'
theorem ry{k:Nat}(hk:k<9):dW σ (.tup (dC.map V.int)) (.int (k:Int))=some (.int (dC.getD k 0)):=by
 rw[zp (by exact Int.natCast_nonneg _) (by lia) (by show (k:Int)<(9:Nat);exact Int.ofNat_le.mpr ‹_›),Int.toNat_natCast,List.getElem?_map,nf (by show k<9;exact hk)];rfl
noncomputable def LF0(sc st wo sz a b:Option V):ab:=[sc,st,wo,sz,a,b,none,none,none,none,none,none,none,none,none,none,none,none,none,none,none,none,none,none,none,none,none,none,none,none]
theorem zy:evx F yy σ (LF0 (some (.raw (ns.map V.int))) (some (.tup (dC.map V.int))) none none none none)=some (.lst ((ci1 ns).map V.int),σ):=by
 have h:=g8 (F:=F) (σ:=σ) (η:=LF0 (some (.raw (ns.map V.int))) (some (.tup (dC.map V.int))) none none none none) (vars:=[⟨"k",24,true⟩,⟨"script",0,false⟩,⟨"starts",1,false⟩]) (i:=24)
  (elt:=.bin .Mod (.bin .Add (.idx (.loc 1) (.loc 24)) (.bf .sum (.cons (.slc (.loc 0) (.loc 24) .nil (.cst (.int 9))) .nil))) (.cst (.int 1000000))) (l:=List.range 9) (g:=fun (k:Nat)=>V.int (k:Int)) (f:=fun k=>V.int (wor ns k))
  (fF (n:=9) aw (by exact Nat.le_add_left _ _)) (j4 9) (fun k hk=>?_) (by decide)
 ·have e:(ci1 ns).map V.int=(List.range 9).map fun k=>V.int (wor ns k):=by unfold ci1;rw[List.map_map];rfl
  refine(e)▸?_
  exact h
 ·have hk8:k<9:=List.mem_range.mp hk
  exact aQ (aQ (b7 (af rfl) (af rfl) (ry hk8)) (n7 (b4 (gY (af rfl) (af rfl) bH aw (gc1 (by decide))) gB) (gU1 _)) gc) aw (fy (by decide))
theorem eO1{x y:Int}(h:x.natAbs<1000000000):te .Mult (.int x) (.int y)=some (.int (x*y)):=if_pos h
theorem zM(x:Int):∃ n:Nat,3+x % 3*2=(n:Int)/\Sz n:=by
 have a:=Int.emod_nonneg x (show (3:Int)≠0 by decide)
 have b:=Int.emod_lt_of_pos x (show (0:Int)<3 by decide)
 have:x % 3=0\/x % 3=1\/x % 3=2:=by lia
 rcases this with e | e | e <;> rw[e]
 ·exact⟨3,rfl,.inl rfl⟩
 ·exact⟨5,rfl,.inr (.inl rfl)⟩
 ·exact⟨7,rfl,.inr (.inr rfl)⟩
theorem aQ1(K:LawOk F)(ns:List Int):∃ σ',n9 F 1 29 yv [.raw (ns.map V.int)] []=some (.bool true,σ'):=by
 refine byQ fun Q kQ=>?_
 have hw:(ci1 ns).length=9:=rfl
 have x3:=zy (F:=F) (σ:=[]) (ns:=ns)
 generalize ci1 ns=ws at hw x3
 refine aI (zM (ws.getD 7 0)) fun n en hn=>?_
 have s0:aO [V.raw (ns.map V.int)] 29=LF0 (some (.raw (ns.map V.int))) none none none none none:=rfl
 obtain ⟨σ1,rg',kd',ty',to',le',bg',k',dp',h1,g⟩:=ux (F:=F) (σ:=[⟨[],none⟩,⟨[],none⟩]) (ws:=ws) (n:=n) (sc:=some (.raw (ns.map V.int))) (st:=some (.tup (dC.map V.int))) (kd:=none) (ty:=none) (to:=none) (le:=none) (bg:=none) (k:=none) (dp:=none) (tx:=none) (wi:=none) (cu:=none) (se:=none) (du:=none) (he:=none) (wh:=none) (ss:=none) (fr:=none) (en:=none) K hn hw ⟨rfl,rfl⟩
 refine cH (aJ1 (F:=F) (σ:=σ1) (ws:=ws) (n:=n) (sc:=some (.raw (ns.map V.int))) (st:=some (.tup (dC.map V.int))) (rg:=rg') (kd:=kd') (ty:=ty') (to:=to') (le:=le') (bg:=bg') (k:=k') (dp:=dp') (tx:=none) (wi:=none) (cu:=none) (se:=none) (du:=none) (he:=none) (wh:=none) (ss:=none) (fr:=none) (en:=none) K hn hw g) fun σ' η' h2=>?_
 have s3:evx F cg1 [] (LF0 (some (.raw (ns.map V.int))) (some (.tup (dC.map V.int))) (some (.lst (ws.map V.int))) none none none)=some (.int (n:Int),[]):=by
  rw[← en]
  exact aQ aw (aQ (aQ (b7 (af rfl) aw (mi (i:=7) (by lia) (by lia))) aw (fy (by decide))) aw (eO1 (by lia))) gc
 refine kQ ?_
 refine⟨σ',fJ (η₁:=η') rfl ?_⟩
 rw[s0,u1]
 exact(aX wO).trans ((aX x3).trans ((aX s3).trans ((aX tm).trans ((aX tm).trans ((ay h1).trans h2)))))
end
theorem ir1(n:Nat):FnOk (lev wG (n+1)) where
 typed σ kind x h0 h1:=by rw[dJ (np:=2) (more:=4) (body:=cw) rfl,tW _ _ _ _ ⟨h0,h1⟩]
 parse σ t ht:=by rw[dJ (np:=1) (more:=4) (body:=dm) rfl,uH _ _ _ ht]
 b1 σ c:=by rw[dH (p:=pB1 sB1) rfl];rfl
 b3 σ c h:=by
  rw[dH (p:=pB3 gB3) rfl]
  unfold pB3 b3v
  dsimp only
  rw[if_pos h] <;> (cases gB3 c <;> rfl)
theorem g51(n:Nat):DipOk (lev wG (n+1)) where
 acc vs σ:=dH (p:=dz1) rfl
 push vs σ:=dH (p:=uI) rfl
 pf vs σ:=dH (p:=fc) rfl
 part vs σ:=dH (p:=uJ) rfl
 len vs σ:=dH (p:=fp1) rfl
theorem gD1(n:Nat):LawOk (lev wG (n+2)) where
 fn:=ir1 (n+1)
 prep σ t h1 h2 h3:=by rw[dJ (np:=1) (more:=1) (body:=bV) rfl,xf (ir1 n) σ h1 h2 h3]
 dips σ t ht:=by
  obtain ⟨ex,e⟩:=x9 (F:=lev wG (n+1)) (σ:=σ) (t:=t) (g51 n) ht
  exact⟨ex,by rw[dJ (np:=1) (more:=9) (body:=dq) rfl,e]⟩
 chos σ D h0 hl:=by rw[dJ (np:=1) (more:=1) (body:=cK) rfl,sD h0 hl]
 ellA σ w t hw h46 hl:=by
  obtain ⟨ex,e⟩:=g31 (F:=lev wG (n+1)) (σ:=σ) (w:=w) (t:=t) hw h46 hl
  exact⟨ex,by rw[dJ (np:=2) (more:=4) (body:=aL) rfl,e]⟩
 ellB σ w t hw h46 hl:=by
  obtain ⟨ex,e⟩:=g21 (F:=lev wG (n+1)) (σ:=σ) (w:=w) (t:=t) hw h46 hl
  exact⟨ex,by rw[dJ (np:=2) (more:=4) (body:=aL) rfl,e]⟩
theorem go1:e81:=fun ns _=>aQ1 (gD1 3) ns
theorem law2_holds:PySem.Challenge.rw_wv0039_02.Holds:=gL1 (fW1 go1)
end Mine
theorem PySem.Challenge.cw_wv0039_02_holds : PySem.Challenge.rw_wv0039_02.Holds :=
  Mine.law2_holds
