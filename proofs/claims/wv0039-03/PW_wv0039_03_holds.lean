import PyProof.Rows.All
import Open.Tops
import Wide.FinOn
import OpenK.AllK
import Wide.All
import PySem.Challenge.RW_wv0039_03
namespace Mine
theorem siX {α:Type _} {a b:α} (h:some a=some b):a=b:=by injection h
theorem sm2{α β:Type}{a c:α}{b d:β}(h:some (a,b)=some (c,d)):a=c/\b=d:=Prod.mk.inj (siX h)
theorem son{α:Type}{a:α}{P:Prop}(h:some a=none):P:=nomatch h
theorem nso{α:Type}{a:α}{P:Prop}(h:none=some a):P:=nomatch h
theorem ftr{P:Prop}(h:false=true):P:=nomatch h
theorem trf{P:Prop}(h:true=false):P:=nomatch h
theorem ap{a b:Bool}(h:(a && b)=true):a=true/\b=true:=Bool.and_eq_true_iff.mp h
theorem gc{α:Type}{P:Prop}(o:Option α)(h1:o=none->P)(h2:∀ a,o=some a->P):P:=by cases o with | none=>exact h1 rfl | some a=>exact h2 a rfl
theorem d01{P:Prop}(b:Bool)(h1:b=true->P)(h2:b=false->P):P:=by cases b with | true=>exact h1 rfl | false=>exact h2 rfl
theorem kC1{α:Type}{P:Prop}(l:List α)(h1:l=[]->P)(h2:∀ a r,l=a::r->P):P:=by cases l with | nil=>exact h1 rfl | cons a r=>exact h2 a r rfl
theorem l1_{α:Type}{P:List α->Prop}(k:∀ a,P [a])(l:List α)(h:l.length=1):P l:=by
 cases l with
 | nil=>exact nomatch h
 | cons a r=>exact List.eq_nil_of_length_eq_zero (Nat.succ.inj h) ▸ k a
theorem l2_{α:Type}{P:List α->Prop}(k:∀ a b,P [a,b])(l:List α)(h:l.length=2):P l:=by
 cases l with
 | nil=>exact nomatch h
 | cons a r=>exact l1_ (P:=fun r=>P (a::r)) (k a) r (Nat.succ.inj h)
theorem l3_{α:Type}{P:List α->Prop}(k:∀ a b c,P [a,b,c])(l:List α)(h:l.length=3):P l:=by
 cases l with
 | nil=>exact nomatch h
 | cons a r=>exact l2_ (P:=fun r=>P (a::r)) (k a) r (Nat.succ.inj h)
theorem l4_{α:Type}{P:List α->Prop}(k:∀ a b c d,P [a,b,c,d])(l:List α)(h:l.length=4):P l:=by
 cases l with
 | nil=>exact nomatch h
 | cons a r=>exact l3_ (P:=fun r=>P (a::r)) (k a) r (Nat.succ.inj h)
noncomputable def hi1{α β:Type}(l:List α)(b:β):Option β:=@List.casesOn α (fun _=>Option β) l (some b) fun _ _=>none
theorem cW1{α β:Type}{l:List α}{a b:β}(h:hi1 l b=some a):l=[]/\a=b:=by
 cases l with
 | nil=>exact ⟨rfl,(siX h).symm⟩
 | cons c r=>exact nso h
noncomputable def lP{α:Type}(l:List α):Option α:=@List.casesOn α (fun _=>Option α) l none fun a r=>hi1 r a
theorem nD{α:Type}{l:List α}{a:α}(h:lP l=some a):l=[a]:=by
 cases l with
 | nil=>exact nso h
 | cons b r=>exact (cW1 h).1 ▸ (cW1 h).2 ▸ rfl
noncomputable def yA{α:Type}(l:List α):Option (α × α):=@List.casesOn α (fun _=>Option (α × α)) l none fun a r=>(lP r).map fun b=>(a,b)
theorem t6{α:Type}{l:List α}{a:α × α}(h:yA l=some a):l=[a.1,a.2]:=by
 cases l with
 | nil=>exact nso h
 | cons b r=>exact Exists.elim (Option.map_eq_some_iff.mp h) fun c hc=>by rw [nD hc.1,← hc.2]
theorem byQ{P:Prop}(h:∀ Q:Prop,(P->Q)->Q):P:=h P id
theorem jm{A0 A1 Q:Prop}(h:A0/\A1)(k:A0->A1->Q):Q:=k h.1 h.2
theorem cV1{Q:Prop}{A0 A1 A2:Prop}(h:A0/\A1/\A2)(k:A0->A1->A2->Q):Q:=jm h.2 (k h.1)
theorem z3{Q:Prop}{A0 A1 A2 A3:Prop}(h:A0/\A1/\A2/\A3)(k:A0->A1->A2->A3->Q):Q:=cV1 h.2 (k h.1)
theorem hg1{Q:Prop}{A0 A1 A2 A3 A4:Prop}(h:A0/\A1/\A2/\A3/\A4)(k:A0->A1->A2->A3->A4->Q):Q:=z3 h.2 (k h.1)
theorem eI1{Q:Prop}{A0 A1 A2 A3 A4 A5:Prop}(h:A0/\A1/\A2/\A3/\A4/\A5)(k:A0->A1->A2->A3->A4->A5->Q):Q:=hg1 h.2 (k h.1)
theorem jg1{Q:Prop}{A0 A1 A2 A3 A4 A5 A6:Prop}(h:A0/\A1/\A2/\A3/\A4/\A5/\A6)(k:A0->A1->A2->A3->A4->A5->A6->Q):Q:=eI1 h.2 (k h.1)
theorem a7{Q:Prop}{T0:Type}{A0:T0->Prop}(h:∃ x0,A0 x0)(k:∀ (x0:T0),A0 x0->Q):Q:=Exists.elim h k
theorem aO{Q:Prop}{T0:Type}{A0 A1:T0->Prop}(h:∃ x0,A0 x0/\A1 x0)(k:∀ (x0:T0),A0 x0->A1 x0->Q):Q:=Exists.elim h fun x h=>jm h (k x)
theorem ww{Q:Prop}{T0:Type}{A0 A1 A2:T0->Prop}(h:∃ x0,A0 x0/\A1 x0/\A2 x0)(k:∀ (x0:T0),A0 x0->A1 x0->A2 x0->Q):Q:=Exists.elim h fun x h=>cV1 h (k x)
theorem eH1{Q:Prop}{T0:Type}{A0 A1 A2 A3:T0->Prop}(h:∃ x0,A0 x0/\A1 x0/\A2 x0/\A3 x0)(k:∀ (x0:T0),A0 x0->A1 x0->A2 x0->A3 x0->Q):Q:=Exists.elim h fun x h=>z3 h (k x)
theorem bq1{Q:Prop}{T0:Type}{A0 A1 A2 A3 A4:T0->Prop}(h:∃ x0,A0 x0/\A1 x0/\A2 x0/\A3 x0/\A4 x0)(k:∀ (x0:T0),A0 x0->A1 x0->A2 x0->A3 x0->A4 x0->Q):Q:=Exists.elim h fun x h=>hg1 h (k x)
theorem hf1{Q:Prop}{T0:Type}{A0 A1 A2 A3 A4 A5:T0->Prop}(h:∃ x0,A0 x0/\A1 x0/\A2 x0/\A3 x0/\A4 x0/\A5 x0)(k:∀ (x0:T0),A0 x0->A1 x0->A2 x0->A3 x0->A4 x0->A5 x0->Q):Q:=Exists.elim h fun x h=>eI1 h (k x)
theorem jf1{Q:Prop}{T0:Type}{A0 A1 A2 A3 A4 A5 A6:T0->Prop}(h:∃ x0,A0 x0/\A1 x0/\A2 x0/\A3 x0/\A4 x0/\A5 x0/\A6 x0)(k:∀ (x0:T0),A0 x0->A1 x0->A2 x0->A3 x0->A4 x0->A5 x0->A6 x0->Q):Q:=Exists.elim h fun x h=>jg1 h (k x)
theorem dp{Q:Prop}{T0 T1:Type}{A0:T0->T1->Prop}(h:∃ x0 x1,A0 x0 x1)(k:∀ (x0:T0) (x1:T1),A0 x0 x1->Q):Q:=Exists.elim h fun x h=>a7 h (k x)
theorem fU1{Q:Prop}{T0 T1:Type}{A0 A1:T0->T1->Prop}(h:∃ x0 x1,A0 x0 x1/\A1 x0 x1)(k:∀ (x0:T0) (x1:T1),A0 x0 x1->A1 x0 x1->Q):Q:=Exists.elim h fun x h=>aO h (k x)
theorem tH{Q:Prop}{T0 T1:Type}{A0 A1 A2:T0->T1->Prop}(h:∃ x0 x1,A0 x0 x1/\A1 x0 x1/\A2 x0 x1)(k:∀ (x0:T0) (x1:T1),A0 x0 x1->A1 x0 x1->A2 x0 x1->Q):Q:=Exists.elim h fun x h=>ww h (k x)
theorem eG1{Q:Prop}{T0 T1:Type}{A0 A1 A2 A3:T0->T1->Prop}(h:∃ x0 x1,A0 x0 x1/\A1 x0 x1/\A2 x0 x1/\A3 x0 x1)(k:∀ (x0:T0) (x1:T1),A0 x0 x1->A1 x0 x1->A2 x0 x1->A3 x0 x1->Q):Q:=Exists.elim h fun x h=>eH1 h (k x)
theorem z2{Q:Prop}{T0 T1:Type}{A0 A1 A2 A3 A4:T0->T1->Prop}(h:∃ x0 x1,A0 x0 x1/\A1 x0 x1/\A2 x0 x1/\A3 x0 x1/\A4 x0 x1)(k:∀ (x0:T0) (x1:T1),A0 x0 x1->A1 x0 x1->A2 x0 x1->A3 x0 x1->A4 x0 x1->Q):Q:=Exists.elim h fun x h=>bq1 h (k x)
theorem je1{Q:Prop}{T0 T1:Type}{A0 A1 A2 A3 A4 A5:T0->T1->Prop}(h:∃ x0 x1,A0 x0 x1/\A1 x0 x1/\A2 x0 x1/\A3 x0 x1/\A4 x0 x1/\A5 x0 x1)(k:∀ (x0:T0) (x1:T1),A0 x0 x1->A1 x0 x1->A2 x0 x1->A3 x0 x1->A4 x0 x1->A5 x0 x1->Q):Q:=Exists.elim h fun x h=>hf1 h (k x)
theorem jd1{Q:Prop}{T0 T1:Type}{A0 A1 A2 A3 A4 A5 A6:T0->T1->Prop}(h:∃ x0 x1,A0 x0 x1/\A1 x0 x1/\A2 x0 x1/\A3 x0 x1/\A4 x0 x1/\A5 x0 x1/\A6 x0 x1)(k:∀ (x0:T0) (x1:T1),A0 x0 x1->A1 x0 x1->A2 x0 x1->A3 x0 x1->A4 x0 x1->A5 x0 x1->A6 x0 x1->Q):Q:=Exists.elim h fun x h=>jf1 h (k x)
theorem fO{Q:Prop}{T0 T1 T2:Type}{A0:T0->T1->T2->Prop}(h:∃ x0 x1 x2,A0 x0 x1 x2)(k:∀ (x0:T0) (x1:T1) (x2:T2),A0 x0 x1 x2->Q):Q:=Exists.elim h fun x h=>dp h (k x)
theorem yL{Q:Prop}{T0 T1 T2:Type}{A0 A1:T0->T1->T2->Prop}(h:∃ x0 x1 x2,A0 x0 x1 x2/\A1 x0 x1 x2)(k:∀ (x0:T0) (x1:T1) (x2:T2),A0 x0 x1 x2->A1 x0 x1 x2->Q):Q:=Exists.elim h fun x h=>fU1 h (k x)
theorem wv{Q:Prop}{T0 T1 T2:Type}{A0 A1 A2:T0->T1->T2->Prop}(h:∃ x0 x1 x2,A0 x0 x1 x2/\A1 x0 x1 x2/\A2 x0 x1 x2)(k:∀ (x0:T0) (x1:T1) (x2:T2),A0 x0 x1 x2->A1 x0 x1 x2->A2 x0 x1 x2->Q):Q:=Exists.elim h fun x h=>tH h (k x)
theorem bp1{Q:Prop}{T0 T1 T2:Type}{A0 A1 A2 A3:T0->T1->T2->Prop}(h:∃ x0 x1 x2,A0 x0 x1 x2/\A1 x0 x1 x2/\A2 x0 x1 x2/\A3 x0 x1 x2)(k:∀ (x0:T0) (x1:T1) (x2:T2),A0 x0 x1 x2->A1 x0 x1 x2->A2 x0 x1 x2->A3 x0 x1 x2->Q):Q:=Exists.elim h fun x h=>eG1 h (k x)
theorem jc1{Q:Prop}{T0 T1 T2:Type}{A0 A1 A2 A3 A4:T0->T1->T2->Prop}(h:∃ x0 x1 x2,A0 x0 x1 x2/\A1 x0 x1 x2/\A2 x0 x1 x2/\A3 x0 x1 x2/\A4 x0 x1 x2)(k:∀ (x0:T0) (x1:T1) (x2:T2),A0 x0 x1 x2->A1 x0 x1 x2->A2 x0 x1 x2->A3 x0 x1 x2->A4 x0 x1 x2->Q):Q:=Exists.elim h fun x h=>z2 h (k x)
theorem bo1{Q:Prop}{T0 T1 T2:Type}{A0 A1 A2 A3 A4 A5:T0->T1->T2->Prop}(h:∃ x0 x1 x2,A0 x0 x1 x2/\A1 x0 x1 x2/\A2 x0 x1 x2/\A3 x0 x1 x2/\A4 x0 x1 x2/\A5 x0 x1 x2)(k:∀ (x0:T0) (x1:T1) (x2:T2),A0 x0 x1 x2->A1 x0 x1 x2->A2 x0 x1 x2->A3 x0 x1 x2->A4 x0 x1 x2->A5 x0 x1 x2->Q):Q:=Exists.elim h fun x h=>je1 h (k x)
theorem jb1{Q:Prop}{T0 T1 T2:Type}{A0 A1 A2 A3 A4 A5 A6:T0->T1->T2->Prop}(h:∃ x0 x1 x2,A0 x0 x1 x2/\A1 x0 x1 x2/\A2 x0 x1 x2/\A3 x0 x1 x2/\A4 x0 x1 x2/\A5 x0 x1 x2/\A6 x0 x1 x2)(k:∀ (x0:T0) (x1:T1) (x2:T2),A0 x0 x1 x2->A1 x0 x1 x2->A2 x0 x1 x2->A3 x0 x1 x2->A4 x0 x1 x2->A5 x0 x1 x2->A6 x0 x1 x2->Q):Q:=Exists.elim h fun x h=>jd1 h (k x)
theorem g91{Q:Prop}{T0 T1 T2 T3:Type}{A0:T0->T1->T2->T3->Prop}(h:∃ x0 x1 x2 x3,A0 x0 x1 x2 x3)(k:∀ (x0:T0) (x1:T1) (x2:T2) (x3:T3),A0 x0 x1 x2 x3->Q):Q:=Exists.elim h fun x h=>fO h (k x)
theorem fT1{Q:Prop}{T0 T1 T2 T3:Type}{A0 A1:T0->T1->T2->T3->Prop}(h:∃ x0 x1 x2 x3,A0 x0 x1 x2 x3/\A1 x0 x1 x2 x3)(k:∀ (x0:T0) (x1:T1) (x2:T2) (x3:T3),A0 x0 x1 x2 x3->A1 x0 x1 x2 x3->Q):Q:=Exists.elim h fun x h=>yL h (k x)
theorem fS1{Q:Prop}{T0 T1 T2 T3:Type}{A0 A1 A2:T0->T1->T2->T3->Prop}(h:∃ x0 x1 x2 x3,A0 x0 x1 x2 x3/\A1 x0 x1 x2 x3/\A2 x0 x1 x2 x3)(k:∀ (x0:T0) (x1:T1) (x2:T2) (x3:T3),A0 x0 x1 x2 x3->A1 x0 x1 x2 x3->A2 x0 x1 x2 x3->Q):Q:=Exists.elim h fun x h=>wv h (k x)
theorem g81{Q:Prop}{T0 T1 T2 T3:Type}{A0 A1 A2 A3:T0->T1->T2->T3->Prop}(h:∃ x0 x1 x2 x3,A0 x0 x1 x2 x3/\A1 x0 x1 x2 x3/\A2 x0 x1 x2 x3/\A3 x0 x1 x2 x3)(k:∀ (x0:T0) (x1:T1) (x2:T2) (x3:T3),A0 x0 x1 x2 x3->A1 x0 x1 x2 x3->A2 x0 x1 x2 x3->A3 x0 x1 x2 x3->Q):Q:=Exists.elim h fun x h=>bp1 h (k x)
theorem eF1{Q:Prop}{T0 T1 T2 T3:Type}{A0 A1 A2 A3 A4:T0->T1->T2->T3->Prop}(h:∃ x0 x1 x2 x3,A0 x0 x1 x2 x3/\A1 x0 x1 x2 x3/\A2 x0 x1 x2 x3/\A3 x0 x1 x2 x3/\A4 x0 x1 x2 x3)(k:∀ (x0:T0) (x1:T1) (x2:T2) (x3:T3),A0 x0 x1 x2 x3->A1 x0 x1 x2 x3->A2 x0 x1 x2 x3->A3 x0 x1 x2 x3->A4 x0 x1 x2 x3->Q):Q:=Exists.elim h fun x h=>jc1 h (k x)
theorem ja1{Q:Prop}{T0 T1 T2 T3:Type}{A0 A1 A2 A3 A4 A5:T0->T1->T2->T3->Prop}(h:∃ x0 x1 x2 x3,A0 x0 x1 x2 x3/\A1 x0 x1 x2 x3/\A2 x0 x1 x2 x3/\A3 x0 x1 x2 x3/\A4 x0 x1 x2 x3/\A5 x0 x1 x2 x3)(k:∀ (x0:T0) (x1:T1) (x2:T2) (x3:T3),A0 x0 x1 x2 x3->A1 x0 x1 x2 x3->A2 x0 x1 x2 x3->A3 x0 x1 x2 x3->A4 x0 x1 x2 x3->A5 x0 x1 x2 x3->Q):Q:=Exists.elim h fun x h=>bo1 h (k x)
theorem i91{Q:Prop}{T0 T1 T2 T3:Type}{A0 A1 A2 A3 A4 A5 A6:T0->T1->T2->T3->Prop}(h:∃ x0 x1 x2 x3,A0 x0 x1 x2 x3/\A1 x0 x1 x2 x3/\A2 x0 x1 x2 x3/\A3 x0 x1 x2 x3/\A4 x0 x1 x2 x3/\A5 x0 x1 x2 x3/\A6 x0 x1 x2 x3)(k:∀ (x0:T0) (x1:T1) (x2:T2) (x3:T3),A0 x0 x1 x2 x3->A1 x0 x1 x2 x3->A2 x0 x1 x2 x3->A3 x0 x1 x2 x3->A4 x0 x1 x2 x3->A5 x0 x1 x2 x3->A6 x0 x1 x2 x3->Q):Q:=Exists.elim h fun x h=>jb1 h (k x)
theorem i81{Q:Prop}{T0 T1 T2 T3 T4:Type}{A0:T0->T1->T2->T3->T4->Prop}(h:∃ x0 x1 x2 x3 x4,A0 x0 x1 x2 x3 x4)(k:∀ (x0:T0) (x1:T1) (x2:T2) (x3:T3) (x4:T4),A0 x0 x1 x2 x3 x4->Q):Q:=Exists.elim h fun x h=>g91 h (k x)
theorem i71{Q:Prop}{T0 T1 T2 T3 T4:Type}{A0 A1:T0->T1->T2->T3->T4->Prop}(h:∃ x0 x1 x2 x3 x4,A0 x0 x1 x2 x3 x4/\A1 x0 x1 x2 x3 x4)(k:∀ (x0:T0) (x1:T1) (x2:T2) (x3:T3) (x4:T4),A0 x0 x1 x2 x3 x4->A1 x0 x1 x2 x3 x4->Q):Q:=Exists.elim h fun x h=>fT1 h (k x)
theorem i61{Q:Prop}{T0 T1 T2 T3 T4:Type}{A0 A1 A2:T0->T1->T2->T3->T4->Prop}(h:∃ x0 x1 x2 x3 x4,A0 x0 x1 x2 x3 x4/\A1 x0 x1 x2 x3 x4/\A2 x0 x1 x2 x3 x4)(k:∀ (x0:T0) (x1:T1) (x2:T2) (x3:T3) (x4:T4),A0 x0 x1 x2 x3 x4->A1 x0 x1 x2 x3 x4->A2 x0 x1 x2 x3 x4->Q):Q:=Exists.elim h fun x h=>fS1 h (k x)
theorem g71{Q:Prop}{T0 T1 T2 T3 T4:Type}{A0 A1 A2 A3:T0->T1->T2->T3->T4->Prop}(h:∃ x0 x1 x2 x3 x4,A0 x0 x1 x2 x3 x4/\A1 x0 x1 x2 x3 x4/\A2 x0 x1 x2 x3 x4/\A3 x0 x1 x2 x3 x4)(k:∀ (x0:T0) (x1:T1) (x2:T2) (x3:T3) (x4:T4),A0 x0 x1 x2 x3 x4->A1 x0 x1 x2 x3 x4->A2 x0 x1 x2 x3 x4->A3 x0 x1 x2 x3 x4->Q):Q:=Exists.elim h fun x h=>g81 h (k x)
theorem i51{Q:Prop}{T0 T1 T2 T3 T4:Type}{A0 A1 A2 A3 A4:T0->T1->T2->T3->T4->Prop}(h:∃ x0 x1 x2 x3 x4,A0 x0 x1 x2 x3 x4/\A1 x0 x1 x2 x3 x4/\A2 x0 x1 x2 x3 x4/\A3 x0 x1 x2 x3 x4/\A4 x0 x1 x2 x3 x4)(k:∀ (x0:T0) (x1:T1) (x2:T2) (x3:T3) (x4:T4),A0 x0 x1 x2 x3 x4->A1 x0 x1 x2 x3 x4->A2 x0 x1 x2 x3 x4->A3 x0 x1 x2 x3 x4->A4 x0 x1 x2 x3 x4->Q):Q:=Exists.elim h fun x h=>eF1 h (k x)
theorem g61{Q:Prop}{T0 T1 T2 T3 T4:Type}{A0 A1 A2 A3 A4 A5:T0->T1->T2->T3->T4->Prop}(h:∃ x0 x1 x2 x3 x4,A0 x0 x1 x2 x3 x4/\A1 x0 x1 x2 x3 x4/\A2 x0 x1 x2 x3 x4/\A3 x0 x1 x2 x3 x4/\A4 x0 x1 x2 x3 x4/\A5 x0 x1 x2 x3 x4)(k:∀ (x0:T0) (x1:T1) (x2:T2) (x3:T3) (x4:T4),A0 x0 x1 x2 x3 x4->A1 x0 x1 x2 x3 x4->A2 x0 x1 x2 x3 x4->A3 x0 x1 x2 x3 x4->A4 x0 x1 x2 x3 x4->A5 x0 x1 x2 x3 x4->Q):Q:=Exists.elim h fun x h=>ja1 h (k x)
theorem i41{Q:Prop}{T0 T1 T2 T3 T4:Type}{A0 A1 A2 A3 A4 A5 A6:T0->T1->T2->T3->T4->Prop}(h:∃ x0 x1 x2 x3 x4,A0 x0 x1 x2 x3 x4/\A1 x0 x1 x2 x3 x4/\A2 x0 x1 x2 x3 x4/\A3 x0 x1 x2 x3 x4/\A4 x0 x1 x2 x3 x4/\A5 x0 x1 x2 x3 x4/\A6 x0 x1 x2 x3 x4)(k:∀ (x0:T0) (x1:T1) (x2:T2) (x3:T3) (x4:T4),A0 x0 x1 x2 x3 x4->A1 x0 x1 x2 x3 x4->A2 x0 x1 x2 x3 x4->A3 x0 x1 x2 x3 x4->A4 x0 x1 x2 x3 x4->A5 x0 x1 x2 x3 x4->A6 x0 x1 x2 x3 x4->Q):Q:=Exists.elim h fun x h=>i91 h (k x)
theorem i31{Q:Prop}{T0 T1 T2 T3 T4 T5:Type}{A0 A1 A2:T0->T1->T2->T3->T4->T5->Prop}(h:∃ x0 x1 x2 x3 x4 x5,A0 x0 x1 x2 x3 x4 x5/\A1 x0 x1 x2 x3 x4 x5/\A2 x0 x1 x2 x3 x4 x5)(k:∀ (x0:T0) (x1:T1) (x2:T2) (x3:T3) (x4:T4) (x5:T5),A0 x0 x1 x2 x3 x4 x5->A1 x0 x1 x2 x3 x4 x5->A2 x0 x1 x2 x3 x4 x5->Q):Q:=Exists.elim h fun x h=>i61 h (k x)
theorem z1{Q:Prop}{T0 T1 T2 T3 T4 T5:Type}{A0 A1 A2 A3 A4 A5 A6:T0->T1->T2->T3->T4->T5->Prop}(h:∃ x0 x1 x2 x3 x4 x5,A0 x0 x1 x2 x3 x4 x5/\A1 x0 x1 x2 x3 x4 x5/\A2 x0 x1 x2 x3 x4 x5/\A3 x0 x1 x2 x3 x4 x5/\A4 x0 x1 x2 x3 x4 x5/\A5 x0 x1 x2 x3 x4 x5/\A6 x0 x1 x2 x3 x4 x5)(k:∀ (x0:T0) (x1:T1) (x2:T2) (x3:T3) (x4:T4) (x5:T5),A0 x0 x1 x2 x3 x4 x5->A1 x0 x1 x2 x3 x4 x5->A2 x0 x1 x2 x3 x4 x5->A3 x0 x1 x2 x3 x4 x5->A4 x0 x1 x2 x3 x4 x5->A5 x0 x1 x2 x3 x4 x5->A6 x0 x1 x2 x3 x4 x5->Q):Q:=Exists.elim h fun x h=>i41 h (k x)
theorem i21{Q:Prop}{T0 T1 T2 T3 T4 T5 T6:Type}{A0 A1 A2:T0->T1->T2->T3->T4->T5->T6->Prop}(h:∃ x0 x1 x2 x3 x4 x5 x6,A0 x0 x1 x2 x3 x4 x5 x6/\A1 x0 x1 x2 x3 x4 x5 x6/\A2 x0 x1 x2 x3 x4 x5 x6)(k:∀ (x0:T0) (x1:T1) (x2:T2) (x3:T3) (x4:T4) (x5:T5) (x6:T6),A0 x0 x1 x2 x3 x4 x5 x6->A1 x0 x1 x2 x3 x4 x5 x6->A2 x0 x1 x2 x3 x4 x5 x6->Q):Q:=Exists.elim h fun x h=>i31 h (k x)
theorem wx{T0 T1:Type}{A0:T0->T1->Prop}(x0:T0)(x1:T1)(h0:A0 x0 x1):∃ x0 x1,A0 x0 x1:=⟨x0,x1,h0⟩
theorem hx1{T0 T1:Type}{A0 A1:T0->T1->Prop}(x0:T0)(x1:T1)(h0:A0 x0 x1)(h1:A1 x0 x1):∃ x0 x1,A0 x0 x1/\A1 x0 x1:=⟨x0,x1,h0,h1⟩
theorem mT{T0 T1:Type}{A0 A1 A2:T0->T1->Prop}(x0:T0)(x1:T1)(h0:A0 x0 x1)(h1:A1 x0 x1)(h2:A2 x0 x1):∃ x0 x1,A0 x0 x1/\A1 x0 x1/\A2 x0 x1:=⟨x0,x1,h0,h1,h2⟩
theorem eK1{T0 T1:Type}{A0 A1 A2 A3:T0->T1->Prop}(x0:T0)(x1:T1)(h0:A0 x0 x1)(h1:A1 x0 x1)(h2:A2 x0 x1)(h3:A3 x0 x1):∃ x0 x1,A0 x0 x1/\A1 x0 x1/\A2 x0 x1/\A3 x0 x1:=⟨x0,x1,h0,h1,h2,h3⟩
theorem yN{T0 T1:Type}{A0 A1 A2 A3 A4:T0->T1->Prop}(x0:T0)(x1:T1)(h0:A0 x0 x1)(h1:A1 x0 x1)(h2:A2 x0 x1)(h3:A3 x0 x1)(h4:A4 x0 x1):∃ x0 x1,A0 x0 x1/\A1 x0 x1/\A2 x0 x1/\A3 x0 x1/\A4 x0 x1:=⟨x0,x1,h0,h1,h2,h3,h4⟩
theorem f01{T0 T1:Type}{A0 A1 A2 A3 A4 A5:T0->T1->Prop}(x0:T0)(x1:T1)(h0:A0 x0 x1)(h1:A1 x0 x1)(h2:A2 x0 x1)(h3:A3 x0 x1)(h4:A4 x0 x1)(h5:A5 x0 x1):∃ x0 x1,A0 x0 x1/\A1 x0 x1/\A2 x0 x1/\A3 x0 x1/\A4 x0 x1/\A5 x0 x1:=⟨x0,x1,h0,h1,h2,h3,h4,h5⟩
theorem c31{T0 T1 T2:Type}{A0:T0->T1->T2->Prop}(x0:T0)(x1:T1)(x2:T2)(h0:A0 x0 x1 x2):∃ x0 x1 x2,A0 x0 x1 x2:=⟨x0,x1,x2,h0⟩
theorem hw1{T0 T1 T2:Type}{A0 A1:T0->T1->T2->Prop}(x0:T0)(x1:T1)(x2:T2)(h0:A0 x0 x1 x2)(h1:A1 x0 x1 x2):∃ x0 x1 x2,A0 x0 x1 x2/\A1 x0 x1 x2:=⟨x0,x1,x2,h0,h1⟩
theorem hv1{T0 T1 T2:Type}{A0 A1 A2:T0->T1->T2->Prop}(x0:T0)(x1:T1)(x2:T2)(h0:A0 x0 x1 x2)(h1:A1 x0 x1 x2)(h2:A2 x0 x1 x2):∃ x0 x1 x2,A0 x0 x1 x2/\A1 x0 x1 x2/\A2 x0 x1 x2:=⟨x0,x1,x2,h0,h1,h2⟩
theorem kB1{T0 T1 T2:Type}{A0 A1 A2 A3:T0->T1->T2->Prop}(x0:T0)(x1:T1)(x2:T2)(h0:A0 x0 x1 x2)(h1:A1 x0 x1 x2)(h2:A2 x0 x1 x2)(h3:A3 x0 x1 x2):∃ x0 x1 x2,A0 x0 x1 x2/\A1 x0 x1 x2/\A2 x0 x1 x2/\A3 x0 x1 x2:=⟨x0,x1,x2,h0,h1,h2,h3⟩
theorem kA1{T0 T1 T2:Type}{A0 A1 A2 A3 A4:T0->T1->T2->Prop}(x0:T0)(x1:T1)(x2:T2)(h0:A0 x0 x1 x2)(h1:A1 x0 x1 x2)(h2:A2 x0 x1 x2)(h3:A3 x0 x1 x2)(h4:A4 x0 x1 x2):∃ x0 x1 x2,A0 x0 x1 x2/\A1 x0 x1 x2/\A2 x0 x1 x2/\A3 x0 x1 x2/\A4 x0 x1 x2:=⟨x0,x1,x2,h0,h1,h2,h3,h4⟩
theorem hu1{T0 T1 T2:Type}{A0 A1 A2 A3 A4 A5:T0->T1->T2->Prop}(x0:T0)(x1:T1)(x2:T2)(h0:A0 x0 x1 x2)(h1:A1 x0 x1 x2)(h2:A2 x0 x1 x2)(h3:A3 x0 x1 x2)(h4:A4 x0 x1 x2)(h5:A5 x0 x1 x2):∃ x0 x1 x2,A0 x0 x1 x2/\A1 x0 x1 x2/\A2 x0 x1 x2/\A3 x0 x1 x2/\A4 x0 x1 x2/\A5 x0 x1 x2:=⟨x0,x1,x2,h0,h1,h2,h3,h4,h5⟩
theorem kz1{T0 T1 T2 T3:Type}{A0:T0->T1->T2->T3->Prop}(x0:T0)(x1:T1)(x2:T2)(x3:T3)(h0:A0 x0 x1 x2 x3):∃ x0 x1 x2 x3,A0 x0 x1 x2 x3:=⟨x0,x1,x2,x3,h0⟩
theorem ky1{T0 T1 T2 T3:Type}{A0 A1:T0->T1->T2->T3->Prop}(x0:T0)(x1:T1)(x2:T2)(x3:T3)(h0:A0 x0 x1 x2 x3)(h1:A1 x0 x1 x2 x3):∃ x0 x1 x2 x3,A0 x0 x1 x2 x3/\A1 x0 x1 x2 x3:=⟨x0,x1,x2,x3,h0,h1⟩
theorem kx1{T0 T1 T2 T3:Type}{A0 A1 A2:T0->T1->T2->T3->Prop}(x0:T0)(x1:T1)(x2:T2)(x3:T3)(h0:A0 x0 x1 x2 x3)(h1:A1 x0 x1 x2 x3)(h2:A2 x0 x1 x2 x3):∃ x0 x1 x2 x3,A0 x0 x1 x2 x3/\A1 x0 x1 x2 x3/\A2 x0 x1 x2 x3:=⟨x0,x1,x2,x3,h0,h1,h2⟩
theorem ht1{T0 T1 T2 T3:Type}{A0 A1 A2 A3:T0->T1->T2->T3->Prop}(x0:T0)(x1:T1)(x2:T2)(x3:T3)(h0:A0 x0 x1 x2 x3)(h1:A1 x0 x1 x2 x3)(h2:A2 x0 x1 x2 x3)(h3:A3 x0 x1 x2 x3):∃ x0 x1 x2 x3,A0 x0 x1 x2 x3/\A1 x0 x1 x2 x3/\A2 x0 x1 x2 x3/\A3 x0 x1 x2 x3:=⟨x0,x1,x2,x3,h0,h1,h2,h3⟩
theorem kw1{T0 T1 T2 T3:Type}{A0 A1 A2 A3 A4:T0->T1->T2->T3->Prop}(x0:T0)(x1:T1)(x2:T2)(x3:T3)(h0:A0 x0 x1 x2 x3)(h1:A1 x0 x1 x2 x3)(h2:A2 x0 x1 x2 x3)(h3:A3 x0 x1 x2 x3)(h4:A4 x0 x1 x2 x3):∃ x0 x1 x2 x3,A0 x0 x1 x2 x3/\A1 x0 x1 x2 x3/\A2 x0 x1 x2 x3/\A3 x0 x1 x2 x3/\A4 x0 x1 x2 x3:=⟨x0,x1,x2,x3,h0,h1,h2,h3,h4⟩
theorem kv1{T0 T1 T2 T3:Type}{A0 A1 A2 A3 A4 A5 A6 A7:T0->T1->T2->T3->Prop}(x0:T0)(x1:T1)(x2:T2)(x3:T3)(h0:A0 x0 x1 x2 x3)(h1:A1 x0 x1 x2 x3)(h2:A2 x0 x1 x2 x3)(h3:A3 x0 x1 x2 x3)(h4:A4 x0 x1 x2 x3)(h5:A5 x0 x1 x2 x3)(h6:A6 x0 x1 x2 x3)(h7:A7 x0 x1 x2 x3):∃ x0 x1 x2 x3,A0 x0 x1 x2 x3/\A1 x0 x1 x2 x3/\A2 x0 x1 x2 x3/\A3 x0 x1 x2 x3/\A4 x0 x1 x2 x3/\A5 x0 x1 x2 x3/\A6 x0 x1 x2 x3/\A7 x0 x1 x2 x3:=⟨x0,x1,x2,x3,h0,h1,h2,h3,h4,h5,h6,h7⟩
theorem hq1{T0 T1 T2 T3 T4:Type}{A0:T0->T1->T2->T3->T4->Prop}(x0:T0)(x1:T1)(x2:T2)(x3:T3)(x4:T4)(h0:A0 x0 x1 x2 x3 x4):∃ x0 x1 x2 x3 x4,A0 x0 x1 x2 x3 x4:=⟨x0,x1,x2,x3,x4,h0⟩
open PySem
set_option maxRecDepth 100000
set_option linter.unusedVariables false
set_option genInjectivity false in
set_option genSizeOf false in
structure Nd where
 tag:Nat
 a:Expr
 b:Expr
 c:Expr
 l:List Expr
 o:Operator
 u:UnaryOp
 cs:List CmpOp
 bo:BoolOp
 oa:Option Expr
 ob:Option Expr
 oc:Option Expr
 g:List Comprehension
 sc:Scope
 ks:List Keyword
 s:Str
 n:Nat
 v:Const
 ko:List (Option Expr)
 p:Pos
noncomputable def p00:Pos:=⟨0,0,0,0⟩
noncomputable def e00:Expr:=.List [] p00
noncomputable def dN:Nd:=⟨0,e00,e00,e00,[],.Add,.Not,[],.And,none,none,none,[],⟨.module,[],false,false,[]⟩,[],⟨#[]⟩,0,.none,[],p00⟩
noncomputable def un(e:Expr):Nd:=@Expr.casesOn (fun _=>Nd) e
  (fun o l p=>{ dN with tag:=7,bo:=o,l:=l,p:=p })
  (fun _ _ _=>dN)
  (fun l o r p=>{ dN with tag:=4,a:=l,o:=o,b:=r,p:=p })
  (fun o x p=>{ dN with tag:=5,u:=o,a:=x,p:=p })
  (fun _ _ _ _=>dN)
  (fun t x y p=>{ dN with tag:=8,a:=t,b:=x,c:=y,p:=p })
  (fun k v p=>{ dN with ko:=k,l:=v,p:=p })
  (fun _ _ _=>dN)
  (fun x g s p=>{ dN with tag:=11,a:=x,g:=g,sc:=s,p:=p })
  (fun _ _ _ _=>dN)
  (fun _ _ _ _ _=>dN)
  (fun _ _ _ _=>dN)
  (fun _ _=>dN)
  (fun _ _=>dN)
  (fun _ _=>dN)
  (fun l o r p=>{ dN with tag:=6,a:=l,cs:=o,l:=r,p:=p })
  (fun f l k p=>{ dN with tag:=12,a:=f,l:=l,ks:=k,p:=p })
  (fun _ _ _ _=>dN)
  (fun _ _=>dN)
  (fun v k p=>{ dN with tag:=14,v:=v,n:=k,p:=p })
  (fun x n p=>{ dN with tag:=13,a:=x,s:=n,p:=p })
  (fun x y p=>{ dN with tag:=9,a:=x,b:=y,p:=p })
  (fun _ _=>dN)
  (fun x p=>{ dN with tag:=1,s:=x,p:=p })
  (fun l p=>{ dN with tag:=3,l:=l,p:=p })
  (fun l k p=>{ dN with tag:=2,l:=l,n:=k,p:=p })
  (fun x y z p=>{ dN with tag:=10,oa:=x,ob:=y,oc:=z,p:=p })
noncomputable def bk(d:Nd):List Expr:=[e00,.Name d.s d.p,.Tuple d.l d.n d.p,.List d.l d.p,.BinOp d.a d.o d.b d.p,.UnaryOp d.u d.a d.p,.Compare d.a d.cs d.l d.p,.BoolOp d.bo d.l d.p,.IfExp d.a d.b d.c d.p,.Subscript d.a d.b d.p,
 .Slice d.oa d.ob d.oc d.p,.ListComp d.a d.g d.sc d.p,.Call d.a d.l d.ks d.p,.Attribute d.a d.s d.p,.Constant d.v d.n d.p]
noncomputable def Un(e:Expr):Prop:=(un e).tag=0\/e=(bk (un e)).getD (un e).tag e00
theorem iG1{e:Expr}(h:e=(bk (un e)).getD (un e).tag e00):Un e:=.inr h
theorem iF1{e:Expr}(h:(un e).tag=0):Un e:=.inl h
theorem bJ1(e:Expr):Un e:=by cases e <;> first | exact iF1 rfl | exact iG1 rfl
theorem qQ{e:Expr}{k:Nat}(h:(un e).tag=k + 1):e=(bk (un e)).getD (k + 1) e00 :=
 (bJ1 e).elim (fun q=>absurd (q.symm.trans h) (Nat.succ_ne_zero k).symm) fun q=>h ▸ q
set_option genInjectivity false in
set_option genSizeOf false in
structure Sd where
 tag:Nat
 a:Expr
 b:Expr
 l:List Expr
 oe:Option Expr
 x:List Stmt
 y:List Stmt
 o:Operator
 ar:Arguments
 sc:Scope
 s:Str
 p:Pos
noncomputable def dS:Sd:=⟨0,e00,e00,[],none,[],[],.Add,⟨[],[],none,[],[],none,[]⟩,⟨.module,[],false,false,[]⟩,⟨#[]⟩,p00⟩
noncomputable def us(e:Stmt):Sd:=@Stmt.casesOn (fun _=>Sd) e
  (fun n a b _ _ _ s _ _ p=>{ dS with x:=b,ar:=a,sc:=s,s:=n,p:=p })
  (fun _ _ _ _ _ _ _ _ _ _=>dS)
  (fun _ _ _ b _ _ _ _ _ _ p=>{ dS with x:=b,p:=p })
  (fun e p=>{ dS with tag:=4,oe:=e,p:=p })
  (fun l p=>{ dS with tag:=9,l:=l,p:=p })
  (fun l e p=>{ dS with tag:=1,l:=l,a:=e,p:=p })
  (fun _ _ _ _ _ _ _=>dS)
  (fun t o e p=>{ dS with tag:=2,a:=t,o:=o,b:=e,p:=p })
  (fun _ _ _ _ _=>dS)
  (fun t i x y p=>{ dS with tag:=7,a:=t,b:=i,x:=x,y:=y,p:=p })
  (fun _ _ _ _ _=>dS)
  (fun t x y p=>{ dS with tag:=6,a:=t,x:=x,y:=y,p:=p })
  (fun t x y p=>{ dS with tag:=5,a:=t,x:=x,y:=y,p:=p })
  (fun _ _ _=>dS)
  (fun _ _ _=>dS)
  (fun _ _ _=>dS)
  (fun _ _ _=>dS)
  (fun _ _ _ _ _=>dS)
  (fun _ _ _ _ _=>dS)
  (fun t m p=>{ dS with tag:=8,a:=t,oe:=m,p:=p })
  (fun _ _=>dS)
  (fun _ _ _ _=>dS)
  (fun _ _=>dS)
  (fun _ _=>dS)
  (fun e p=>{ dS with tag:=3,a:=e,p:=p })
  (fun p=>{ dS with tag:=11,p:=p })
  (fun p=>{ dS with tag:=10,p:=p })
  (fun _=>dS)
noncomputable def bkS(d:Sd):List Stmt:=[.Pass p00,.Assign d.l d.a d.p,.AugAssign d.a d.o d.b d.p,.Expr d.a d.p,.Return d.oe d.p,.If d.a d.x d.y d.p,.While d.a d.x d.y d.p,.For d.a d.b d.x d.y d.p,.Assert d.a d.oe d.p,.Delete d.l d.p,.Break d.p,.Pass d.p]
noncomputable def Us(e:Stmt):Prop:=(us e).tag=0\/e=(bkS (us e)).getD (us e).tag (.Pass p00)
theorem iC1{e:Stmt}(h:e=(bkS (us e)).getD (us e).tag (.Pass p00)):Us e:=.inr h
theorem iB1{e:Stmt}(h:(us e).tag=0):Us e:=.inl h
theorem bH1(e:Stmt):Us e:=by cases e <;> first | exact iB1 rfl | exact iC1 rfl
theorem t3{e:Stmt}{k:Nat}(h:(us e).tag=k + 1):e=(bkS (us e)).getD (k + 1) (.Pass p00) :=
 (bH1 e).elim (fun q=>absurd (q.symm.trans h) (Nat.succ_ne_zero k).symm) fun q=>h ▸ q
noncomputable def ed1(s:Stmt):Arguments:=(us s).ar
noncomputable def ax(s:Stmt):List Stmt:=(us s).x
noncomputable def af(s:Stmt):Scope:=(us s).sc
noncomputable def kH1:Const->Int | .int i=>i | _=>0
noncomputable def iR1:Const->Str | .str x=>x | _=>⟨#[]⟩
noncomputable def kE1(e:Expr):List (Int × Str):=((un e).ko.zip (un e).l).map fun x=>(kH1 (un (x.1.getD e00)).v,iR1 (un x.2).v)
open PySem PySem.W PyProof.Rows
section
variable {p:Program} {w:World} {n₀:Nat} {ann:Option Value} {q:Pos}
noncomputable def Steps(p:Program)(w:World)(n₀:Nat)(ann:Option Value)(s:Shared)(t:Thread)(s':Shared)(t':Thread):Prop :=
 ∃ n,segGo treeTable p w n₀ ann 1 n s t=some (s',t')
theorem nh{tb:String->Option Builtin}{b:Nat}:∀ {n m:Nat} {s s' s'':Shared} {t t' t'':Thread},segGo tb p w n₀ ann b n s t=some (s',t') ->
  segGo tb p w n₀ ann b m s' t'=some (s'',t'')->segGo tb p w n₀ ann b (n + m) s t=some (s'',t'')
 | 0,m,s,s',s'',t,t',t'',h,k=>by
  refine byQ fun Q kQ=>?_
  obtain ⟨rfl,rfl⟩:s=s'/\t=t':=by simpa [segGo] using h
  refine kQ ?_
  rw [Nat.zero_add];exact k
 | n + 1,m,s,s',s'',t,t',t'',h,k=>by
  rw [show n + 1 + m=n + m + 1 by exact Nat.add_right_comm _ _ _]
  dsimp only [segGo] at h ⊢
  cases he:endAt b t with
  | some f=>rw [he] at h;exact nso h
  | none =>
   rw [he] at h
   cases hk:stepOk n₀ ann t with
   | false=>replace h:=(hk) ▸ h;exact nso h
   | true =>
    replace h:=(hk) ▸ h
    cases hs:step (denote tb) p w s t with
    | halt o aA=>rw [hs] at h;exact nso h
    | go aA dH=>rw [hs] at h;exact nh h k
theorem Steps.refl(s:Shared)(t:Thread):Steps p w n₀ ann s t s t:=⟨0,rfl⟩
theorem Steps.trans{s s' s'':Shared}{t t' t'':Thread}(h:Steps p w n₀ ann s t s' t')(k:Steps p w n₀ ann s' t' s'' t''):Steps p w n₀ ann s t s'' t'' :=
 let ⟨_,h⟩:=h;let ⟨_,k⟩:=k;⟨_,nh h k⟩
noncomputable def Yld{α:Type}(p:Program)(w:World)(n₀:Nat)(ann:Option Value)(q:Pos)(x:Sem α)(pos:Pos)(s:Shared)(a:α)(pos':Pos)(s':Shared):Prop :=
 ∀ (K:α->Sem Fin) (H:Value->Sem Fin) (gd:Bool->Bool) (lv:List Value->List Value) (code:Code),
  Steps p w n₀ ann s ⟨x.wrap K H gd lv,code,pos,[topFrame q]⟩ s' ⟨K a,code,pos',[topFrame q]⟩
variable {α β:Type} {pos pos' pos'':Pos} {s s' s'':Shared}
theorem ei1{a:α}:Yld p w n₀ ann q (Sem.pure a) pos s a pos s:=fun _ _ _ _ _=>Steps.refl _ _
theorem ay{a:α}:Yld p w n₀ ann q (Pure.pure a:Sem α) pos s a pos s:=fun _ _ _ _ _=>Steps.refl _ _
theorem am{x:Sem α}{f:α->Sem β}{a:α}{b:β}(h:Yld p w n₀ ann q x pos s a pos' s')(k:Yld p w n₀ ann q (f a) pos' s' b pos'' s'') :
  Yld p w n₀ ann q (x >>= f) pos s b pos'' s'':=fun K H gd lv code=>by
 rw [Sem.bind_eq_wrap',Sem.wrap_wrap]
 exact (h _ _ _ _ _).trans (k _ _ _ _ _)
theorem ek1{x:Sem α}{vs:List Value}{a:α}(h:Yld p w n₀ ann q x pos s a pos' s'):Yld p w n₀ ann q (x.keep vs) pos s a pos' s':=fun K H gd lv code=>by
 rw [Sem.keep_eq_wrap,Sem.wrap_wrap]
 exact h _ _ _ _ _
theorem aN{x:Sem α}{vs:List Value}{a:α}(h:Yld p w n₀ ann q x pos s a pos' s'):Yld p w n₀ ann q (holding vs x) pos s a pos' s':=by
 unfold holding
 split
 ·exact h
 ·exact ek1 h
theorem tr{x:Sem α}{f:Value->Sem α}{a:α}(h:Yld p w n₀ ann q x pos s a pos' s'):Yld p w n₀ ann q (x.tryCatch f) pos s a pos' s':=fun K H gd lv code=>by
 rw [Sem.tryCatch_eq_wrap,Sem.wrap_wrap]
 exact h _ _ _ _ _
theorem oK{x:Sem α}{f:Value->Sem Unit}{a:α}(h:Yld p w n₀ ann q x pos s a pos' s'):Yld p w n₀ ann q (x.onRaise f) pos s a pos' s':=fun K H gd lv code=>by
 rw [Sem.onRaise_eq_wrap,Sem.wrap_wrap]
 exact h _ _ _ _ _
theorem e9{x y:Sem α}{a:α}(e:x=y)(h:Yld p w n₀ ann q y pos s a pos' s'):Yld p w n₀ ann q x pos s a pos' s':=e ▸ h
theorem y5{tag:String}:Yld p w n₀ ann q (rule tag) pos s () pos s:=fun K H gd lv code=>⟨1,rfl⟩
theorem jS{pp:Pos}:Yld p w n₀ ann q (PySem.standAt pp) pos s () pp s:=fun K H gd lv code=>⟨1,rfl⟩
theorem wj:Yld p w n₀ ann q PySem.fresh pos s s.toks pos { s with toks:=s.toks + 1 }:=fun K H gd lv code=>⟨1,rfl⟩
theorem gH1:Yld p w n₀ ann q PySem.ask pos s ⟨p,w.params⟩ pos s:=fun K H gd lv code=>⟨1,rfl⟩
theorem wm{o:Obj}:Yld p w n₀ ann q (PySem.alloc o) pos s s.heap.objs.size pos { s with heap:=s.heap.push o }:=fun K H gd lv code=>⟨1,rfl⟩
theorem dY{a:Addr}{part:Option Value}{o:Obj}(h:s.heap.get? a=some o):Yld p w n₀ ann q (PySem.loadPart a part) pos s o pos s:=fun K H gd lv code=>⟨1,by
 obtain ⟨heap,gens,drawn,toks,os⟩:=s
 show (match (match heap.get? a with | some o=>Step.go _ _ | none=>_:Step) with | .go s' t'=>some (s',t') | .halt _ _=>none)=_
 have h':heap.get? a=some o:=h
 rw [h'];rfl⟩
theorem oH{a:Addr}{part:Option Value}{f:Obj->Obj}{o:Obj}(h:s.heap.get? a=some o)(hn:n₀<=a) :
  Yld p w n₀ ann q (PySem.updatePart a part f) pos s () pos { s with heap:=s.heap.update a f }:=fun K H gd lv code=>⟨1,by
 obtain ⟨heap,gens,drawn,toks,os⟩:=s
 have hk:stepOk n₀ ann ⟨(PySem.updatePart a part f).wrap K H gd lv,code,pos,[topFrame q]⟩=true:=by
  show (true && (Nat.ble n₀ a || _ || _ || _))=true
  rw [Nat.ble_eq.mpr hn];rfl
 have h':heap.get? a=some o:=h
 dsimp only [segGo]
 show (match stepOk n₀ ann ⟨(PySem.updatePart a part f).wrap K H gd lv,code,pos,[topFrame q]⟩ with | false=>none | true=>_)=_
 rw [hk]
 show (match (if (heap.get? a).isSome=true then Step.go _ _ else _:Step) with | .go s' t'=>some (s',t') | .halt _ _=>none)=_
 rw [h'];rfl⟩
end
section
variable {p:Program} {w:World} {n₀:Nat} {ann:Option Value} {q:Pos} {pos pos':Pos} {s s':Shared}
theorem tu{i:Int}{t:Tok}:Yld p w n₀ ann q (call (.builtin "int.__hash__") [.int i t]) pos s (.int (rawHash i) s.toks) pos { s with toks:=s.toks + 1 } :=
 fun K H gd lv code=>⟨4,by
  obtain ⟨heap,gens,drawn,toks,os⟩:=s
  kernel_rfl!⟩
theorem tv{i:Int}{t:Tok}:Yld p w n₀ ann q (bindSpecialIfBound? (.int i t) "__hash__") pos s (some (.builtin "int.__hash__",[.int i t])) pos s:=by
 unfold bindSpecialIfBound?
 have e:specialOf (.int i t) "__hash__"=pure (some (.builtin "int.__hash__")):=by
  have:=slot_int_hash.lookup
  unfold specialOf
  exact this
 have e2:bindSpecial (.builtin "int.__hash__") (.int i t)=pure (.builtin "int.__hash__",[.int i t]):=by kernel_rfl!
 refine (e) ▸ ?_
 refine am ay ?_
 show Yld p w n₀ ann q (ask >>= fun st=>if st.params.followText "special-get-raises"=true then _ else _) _ _ _ _ _
 refine am gH1 ?_
 have b:Yld p w n₀ ann q (do return some (← bindSpecial (.builtin "int.__hash__") (.int i t)):Sem (Option (Value × List Value))) pos s (some (.builtin "int.__hash__",[.int i t])) pos s:=by
  exact (e2) ▸ (am ay ay)
 split
 ·exact b
 ·exact tr b
theorem oJ{i:Int}{t:Tok}(h0:-(2:Int)^63<=rawHash i)(h1:rawHash i < 2^63) :
  Yld p w n₀ ann q (pyHash (.int i t)) pos s (if rawHash i == -1 then -2 else rawHash i) pos { s with toks:=s.toks + 1 }:=by
 dsimp only [pyHash]
 show Yld p w n₀ ann q (pyHashByItsType (.int i t)) _ _ _ _ _
 unfold pyHashByItsType
 have e:specialOf (.int i t) "__hash__"=pure (some (.builtin "int.__hash__")):=by
  have:=slot_int_hash.lookup
  unfold specialOf
  exact this
 have e0:cRoomFor "hash" [Value.int i t]=pure ():=rfl
 refine am (e9 e0 ay) (am (e9 e ay) ?_)
 show Yld p w n₀ ann q (if (some (Value.builtin "int.__hash__") == some Value.none)=true then _ else _) _ _ _ _ _
 rw [if_neg (by decide)]
 refine am (e9 e ay) ?_
 show Yld p w n₀ ann q (callSpecialIfBoundUnlessNone? (.int i t) "__hash__" _ >>= _) _ _ _ _ _
 refine am (a:=some (.int (rawHash i) s.toks)) (pos':=pos) (s':={ s with toks:=s.toks + 1 }) ?_ ?_
 ·unfold callSpecialIfBoundUnlessNone?
  refine aN (am tv ?_)
  show Yld p w n₀ ann q (if (Value.builtin "int.__hash__" == Value.none)=true then _ else _) _ _ _ _ _
  rw [if_neg (by decide)]
  exact am tu ay
 ·show Yld p w n₀ ann q (if (decide (-(2:Int) ^ 63<=rawHash i) && decide (rawHash i < 2 ^ 63))=true then _ else _) _ _ _ _ _
  rw [if_pos (by rw [decide_eq_true h0,decide_eq_true h1];rfl)]
  exact ay
theorem cM{a:Addr}{part:Option Value}{o:Obj}{es:Array DictEntry}{n:Nat}(h:s.heap.get? a=some o)(hd:o.data=.dict es n) :
  Yld p w n₀ ann q (PySem.dictEntries a part) pos s es pos s:=by
 unfold PySem.dictEntries
 refine am (dY h) ?_
 exact (hd) ▸ (ay)
theorem jU{a:Addr}{part:Option Value}{o:Obj}{es:Array DictEntry}{n:Nat}(h:s.heap.get? a=some o)(hd:o.data=.dict es n) :
  Yld p w n₀ ann q (PySem.dictEpoch a part) pos s n pos s:=by
 unfold PySem.dictEpoch
 refine am (dY h) ?_
 exact (hd) ▸ (ay)
noncomputable def aH(es:Array DictEntry)(n:Nat):Obj:={ cls:=.type "dict",data:=.dict es n }
theorem mdk{es:Array DictEntry}{n:Nat}{e:DictEntry}:Obj.mapDictKeys (fun x=>x.push e) (aH es n)=aH (es.push e) (n + 1):=rfl
theorem jT{a:Addr}{part:Option Value}{es:Array DictEntry}{n:Nat}{e:DictEntry}(h:s.heap.get? a=some (aH es n))(hn:n₀<=a)(hz:es.size<=1000) :
  Yld p w n₀ ann q (updateDictKeys a (·.push e) part) pos s () pos { s with heap:=s.heap.update a (Obj.mapDictKeys (·.push e)) }:=by
 unfold updateDictKeys
 refine am (dY h) ?_
 show Yld p w n₀ ann q (updatePart a part (Obj.mapDictKeys (·.push e)) >>= fun _=>lookBehind a part) _ _ _ _ _
 refine am (oH h hn) ?_
 unfold lookBehind
 have h':(s.heap.update a (Obj.mapDictKeys (·.push e))).get? a=some (aH (es.push e) (n + 1)):=Heap.get?_update_self _ h rfl
 refine am (dY h') ?_
 have:(aH (es.push e) (n + 1)).data.pastItsLine=none:=by
  show (if (es.push e).size > sizeLine + 1 then _ else none)=_
  rw [if_neg (by rw [Array.size_push,sizeLine_eq];lia)]
 exact (this) ▸ (ay)
noncomputable def NotIn(h:Int)(es:Array DictEntry):Prop:=∀ e∈es.toList,e.hash≠h
theorem pj{h:Int}{es:Array DictEntry}(hn:NotIn h es):placesWithHash es.size (fun i=>es[i]?.map (·.hash)) h=[]:=by
 dsimp only [placesWithHash]
 rw [List.filter_eq_nil_iff]
 intro i hi
 have hi':i < es.size:=by simpa using hi
 have:es[i]?=some es[i]:=Array.getElem?_eq_getElem hi'
 simp only [this,Option.map_some,beq_iff_eq,Option.some.injEq]
 intro e
 exact hn es[i] (by simp) e
theorem fc{a:Addr}{i:Int}{t:Tok}{h:Int}{es:Array DictEntry}{n:Nat}(ho:s.heap.get? a=some (aH es n))(hn:NotIn h es) :
  Yld p w n₀ ann q (dictFind a (.int i t) h) pos s none pos s:=by
 unfold dictFind
 refine aN (am (cM ho rfl) ?_)
 show Yld p w n₀ ann q (if (Value.int i t::(placesWithHash es.size (fun i=>es[i]?.map (·.hash)) h).filterMap fun i=>es[i]?.map (·.key)).all carriedByValue=true then _ else _) _ _ _ _ _
 refine (pj hn) ▸ ?_
 show Yld p w n₀ ann q (dictWalkPlain a (.int i t) h es []) _ _ _ _ _
 exact ei1
theorem wl{a:Addr}{i:Int}{t:Tok}{h:Int}{v:Value}{es:Array DictEntry}{n:Nat}(ho:s.heap.get? a=some (aH es n))(hn:NotIn h es)(ha:n₀<=a)(hz:es.size<=1000) :
  Yld p w n₀ ann q (PySem.dictPut a h (.int i t) v) pos s () pos { s with heap:=s.heap.update a (Obj.mapDictKeys (·.push ⟨h,.int i t,v⟩)) }:=by
 unfold PySem.dictPut
 exact am (fc ho hn) (jT ho ha hz)
theorem oM{a:Addr}{i:Int}{t:Tok}{v:Value}{es:Array DictEntry}{n:Nat}(ho:s.heap.get? a=some (aH es n))(hi:0<=i)(hi':i < 2^60)(hn:NotIn i es)(ha:n₀<=a)(hz:es.size<=1000) :
  Yld p w n₀ ann q (PySem.dictSet a (.int i t) v) pos s () pos { s with heap:=s.heap.update a (Obj.mapDictKeys (·.push ⟨i,.int i t,v⟩)),toks:=s.toks + 1 }:=by
 have hr:rawHash i=i:=by
  dsimp only [rawHash]
  have h1:((i.natAbs:Int) % ((2 ^ 61 - 1:Nat):Int))=i:=by
   rw [← Int.natCast_emod,Nat.mod_eq_of_lt (by omega)];lia
  have h2:¬ i < 0:=by lia
  have h3:(i == -1)=false:=by rw [beq_eq_false_iff_ne];lia
  simp only [h1,h2,if_false,h3,Bool.false_eq_true]
 unfold PySem.dictSet
 refine aN (am (oJ (by rw [hr];lia) (by rw [hr];omega)) ?_)
 rw [hr]
 have:(i == -1)=false:=by rw [beq_eq_false_iff_ne];lia
 refine (this) ▸ ?_
 unfold dictSetHashed
 refine aN (am (fc ho hn) (am y5 (jT ho ha hz)))
end
noncomputable def hx(hb:Heap)(l:List Obj):Heap:=⟨hb.objs++l.toArray,hb.life⟩
theorem dm1(hb:Heap):hx hb []=hb:=by obtain ⟨⟨o⟩,l⟩:=hb;simp [hx]
theorem vw(hb:Heap)(l:List Obj):(hx hb l).objs.size=hb.objs.size + l.length:=by simp [hx]
theorem vx(hb:Heap)(l:List Obj)(o:Obj):(hx hb l).push o=hx hb (l++[o]):=by
 have os:=hb.1;have lf:=hb.2
 simp [hx,Heap.push]
theorem rx(hb:Heap)(l:List Obj)(k:Nat)(o:Obj)(h:l[k]?=some o)(hf:∀ s d c,o≠⟨c,d,.freed,s⟩):(hx hb l).get? (hb.objs.size + k)=some o:=by
 have e:(hx hb l).objs[hb.objs.size + k]?=some o:=by
  dsimp only [hx]
  rw [Array.getElem?_append_right (by exact Nat.le_add_right _ _)]
  simpa using h
 unfold Heap.get?
 rw [e]
 obtain ⟨c,d,dt,sl⟩:=o
 cases dt <;> first | rfl | exact absurd rfl (hf _ _ _)
theorem jx(hb:Heap)(l:List Obj)(k:Nat)(f:Obj->Obj)(o:Obj)(h:l[k]?=some o):(hx hb l).update (hb.objs.size + k) f=hx hb (l.set k (f o)):=by
 obtain ⟨⟨os⟩,lf⟩:=hb
 unfold hx Heap.update
 simp only [Heap.mk.injEq,and_true]
 apply Array.ext'
 simp only [Array.toList_modify,List.append_toArray,List.size_toArray]
 apply List.ext_getElem?
 intro i
 rw [List.getElem?_modify]
 by_cases hi:i < os.length
 ·rw [List.getElem?_append_left hi,List.getElem?_append_left hi]
  have:¬ os.length + k=i:=by omega
  simp only [this,if_false]
  cases os[i]? <;> rfl
 ·rw [List.getElem?_append_right (by exact Nat.not_lt.mp ‹_›),List.getElem?_append_right (by exact Nat.not_lt.mp ‹_›),List.getElem?_set]
  by_cases hk:os.length + k=i
  ·have e:i - os.length=k:=by omega
   have hlt:k < l.length:=(List.getElem?_eq_some_iff.mp h).1
   rw [e,h]
   simp [hk,hlt]
  ·have:¬ k=i - os.length:=by omega
   simp only [hk,this,if_false]
   cases l[i - os.length]? <;> rfl
section
variable {p:Program} {w:World} {n₀:Nat} {ann:Option Value} {q:Pos} {pos pos':Pos} {s s':Shared}
theorem qx{α:Type}{l:List α}{f:α->PUnit->Sem (ForInStep PUnit)}(S:Nat->Shared)(h:∀ k x,l[k]?=some x->Yld p w n₀ ann q (f x ⟨⟩) pos (S k) (.yield ⟨⟩) pos (S (k + 1))) :
  Yld p w n₀ ann q (forIn l ⟨⟩ f) pos (S 0) ⟨⟩ pos (S l.length):=by
 induction l generalizing S with
 | nil=>rw [List.forIn_nil];exact ay
 | cons x l ih =>
  rw [List.forIn_cons]
  refine am (h 0 x rfl) ?_
  have:=ih (fun k=>S (k + 1)) fun k y hy=>h (k + 1) y (by exact hy)
  exact this
noncomputable def df(t:Nat)(kvs:List (Int × Str)):List DictEntry:=kvs.zipIdx.map fun x=>⟨x.1.1,.int x.1.1 (t + 3 * x.2),.str x.1.2 (t + 3 * x.2 + 1)⟩
noncomputable def gQ(t:Nat)(kvs:List (Int × Str)):List DictEntry:=kvs.zipIdx.map fun x=>⟨x.1.1,.int x.1.1 (t + 2 * x.2),.str x.1.2 (t + 2 * x.2 + 1)⟩
theorem aP(t:Nat)(kvs:List (Int × Str)):(df t kvs).length=kvs.length:=by simp [df]
theorem b7(t:Nat)(kvs:List (Int × Str)):(gQ t kvs).length=kvs.length:=by simp [gQ]
theorem xX(t:Nat)(kvs:List (Int × Str))(k:Nat)(i:Int)(x:Str)(h:kvs[k]?=some (i,x)):(df t kvs)[k]?=some ⟨i,.int i (t + 3 * k),.str x (t + 3 * k + 1)⟩:=by
 simp [df,List.getElem?_map,List.getElem?_zipIdx,h]
theorem rI(t:Nat)(kvs:List (Int × Str))(k:Nat)(i:Int)(x:Str)(h:kvs[k]?=some (i,x)):(gQ t kvs)[k]?=some ⟨i,.int i (t + 2 * k),.str x (t + 2 * k + 1)⟩:=by
 simp [gQ,List.getElem?_map,List.getElem?_zipIdx,h]
theorem eK{α:Type}{l:List α}{k:Nat}{x:α}(h:l[k]?=some x):l.take (k + 1)=l.take k++[x]:=by
 rw [List.take_add_one,h];rfl
noncomputable def a8(es:List DictEntry):List Int:=es.map (·.hash)
theorem ec(t:Nat)(kvs:List (Int × Str)):a8 (df t kvs)=kvs.map (·.1):=by
 apply List.ext_getElem?
 intro k
 simp only [a8,df,List.map_map,List.getElem?_map,List.getElem?_zipIdx]
 cases kvs[k]? <;> rfl
theorem jy(t:Nat)(kvs:List (Int × Str)):a8 (gQ t kvs)=kvs.map (·.1):=by
 apply List.ext_getElem?
 intro k
 simp only [a8,gQ,List.map_map,List.getElem?_map,List.getElem?_zipIdx]
 cases kvs[k]? <;> rfl
theorem lT{es:List DictEntry}{i:Int}(h:i ∉ a8 es):NotIn i es.toArray:=fun e he hh=>h (by
 simp only [a8,List.mem_map];exact ⟨e,by simpa using he,hh⟩)
theorem eQ{l:List Int}(hn:l.Nodup){k:Nat}{i:Int}(h:l[k]?=some i):i ∉ l.take k:=by
 intro hm
 have hd:i∈l.drop k:=by
  obtain ⟨hk,e⟩:=List.getElem?_eq_some_iff.mp h
  rw [List.mem_drop_iff_getElem]
  exact ⟨0,by lia,by exact e⟩
 have hn':(l.take k++l.drop k).Nodup:=by rw [List.take_append_drop];exact hn
 exact (List.nodup_append.mp hn').2.2 i hm i hd rfl
noncomputable def yR(i:Int):Sem Value:=mkInt i
noncomputable def yy(pd:Pos)(x:Str):Sem Value:=do let v ← mkText x;standAt pd;pure v
theorem ej1{i:Int}:Yld p w n₀ ann q (yR i) pos s (.int i s.toks) pos { s with toks:=s.toks + 1 }:=am wj ay
theorem eh1{pd:Pos}{x:Str}:Yld p w n₀ ann q (yy pd x) pos s (.str x s.toks) pd { s with toks:=s.toks + 1 }:=am (am wj ay) (am jS ay)
noncomputable def GoodKeys(kvs:List (Int × Str)):Prop:=(kvs.map (·.1)).Nodup/\∀ x∈kvs,0<=x.1/\x.1 < 2 ^ 60
theorem oI{pd:Pos}{hb:Heap}{l:List Obj}{kvs:List (Int × Str)}(hk:GoodKeys kvs)(h15:15 < kvs.length)(h1000:kvs.length<=1000)(hn:n₀<=hb.objs.size)(t:Nat) :
  Yld p w n₀ ann q (subDict (kvs.map fun x=>(yR x.1,yy pd x.2))) pd { s with heap:=hx hb l,toks:=t } (hb.objs.size + l.length) pd
   { s with heap:=hx hb (l++[aH (df t kvs).toArray kvs.length]),toks:=t + 3 * kvs.length }:=by
 dsimp only [subDict]
 refine am wm ?_
 rw [show (hx hb l).objs.size=hb.objs.size + l.length from vw _ _]
 rw [show ((hx hb l).push { cls:=.type "dict",data:=.dict #[] })=hx hb (l++[aH #[] 0]) from vx _ _ _]
 refine am (a:=PUnit.unit) (aN ?_) ay
 rw [if_neg (by simp;assumption)]
 refine am y5 ?_
 have loop:=qx (p:=p) (w:=w) (n₀:=n₀) (ann:=ann) (q:=q) (pos:=pd) (l:=kvs.map fun x=>(yR x.1,yy pd x.2))
  (f:=fun x _=>do
   let kv ← x.1
   let vv ← holding [kv] x.2
   holding [kv,vv] (dictSet (hb.objs.size + l.length) kv vv)
   pure (ForInStep.yield PUnit.unit))
  (fun k=>{ s with heap:=hx hb (l++[aH ((df t kvs).take k).toArray k]),toks:=t + 3 * k }) (by
   intro k x hx'
   rw [List.getElem?_map] at hx'
   refine a7 (Option.map_eq_some_iff.mp hx') fun h_0 h_p=>?_;obtain ⟨i,v⟩:=h_0;have hkv:=h_p.1;obtain rfl:=h_p.2
   have hlt:k < kvs.length:=(List.getElem?_eq_some_iff.mp hkv).1
   have h_p:=hk.2 (i,v) (List.mem_of_getElem? hkv);have g0:=h_p.1;have g1:=h_p.2
   have hi:((kvs.map (·.1))[k]?)=some i:=by rw [List.getElem?_map,hkv];rfl
   have hget:(hx hb (l++[aH ((df t kvs).take k).toArray k])).get? (hb.objs.size + l.length)=some (aH ((df t kvs).take k).toArray k) :=
    rx _ _ _ _ (by simp) (by intro a b c;simp [aH])
   refine am ej1 (am (aN eh1) (am (aN (oM (es:=((df t kvs).take k).toArray) (n:=k) hget g0 g1 ?_ (by exact Nat.le_trans ‹_› (Nat.le_add_right _ _)) ?_)) ?_))
   ·refine lT ?_
    have:a8 ((df t kvs).take k)=(kvs.map (·.1)).take k:=by rw [← ec t kvs];simp [a8,List.map_take]
    rw [this]
    exact eQ hk.1 hi
   ·simp [aP];lia
   ·have e:(hx hb (l++[aH ((df t kvs).take k).toArray k])).update (hb.objs.size + l.length) (Obj.mapDictKeys fun x=>x.push ⟨i,Value.int i (t + 3 * k),Value.str v (t + 3 * k + 1)⟩)
      = hx hb (l++[aH ((df t kvs).take (k + 1)).toArray (k + 1)]):=by
     rw [jx _ _ _ _ (aH ((df t kvs).take k).toArray k) (by simp)]
     congr 1
     rw [eK (xX t kvs k i v hkv)]
     rw [mdk,List.push_toArray]
     simp
    show Yld p w n₀ ann q (pure (ForInStep.yield PUnit.unit)) pd { s with heap:=(hx hb (l++[aH ((df t kvs).take k).toArray k])).update (hb.objs.size + l.length) (Obj.mapDictKeys fun x=>x.push ⟨i,Value.int i (t + 3 * k),Value.str v (t + 3 * k + 1)⟩),toks:=t + 3 * k + 1 + 1 + 1 } _ _ _
    rw [e]
    exact ay)
 rw [List.length_map] at loop
 simp only [List.take_zero,Nat.mul_zero,Nat.add_zero] at loop
 rw [show (df t kvs).take kvs.length=df t kvs from by rw [← aP t kvs,List.take_length]] at loop
 exact am loop ay
theorem qy{pd:Pos}(kvs:List (Int × Str)):∀ (s:Shared),Yld p w n₀ ann q (evalPairs (kvs.map fun x=>(yR x.1,yy pd x.2))) pd s
  ((gQ s.toks kvs).map fun e=>(e.key,e.val)) pd { s with toks:=s.toks + 2 * kvs.length }:=by
 induction kvs with
 | nil=>intro s;exact ay
 | cons x r ih =>
  intro s
  obtain ⟨i,v⟩:=x
  show Yld p w n₀ ann q (evalPairs ((yR i,yy pd v)::r.map fun x=>(yR x.1,yy pd x.2))) _ _ _ _ _
  dsimp only [evalPairs]
  refine am ej1 (am (aN eh1) (am (aN (ih _)) ?_))
  have e:((gQ s.toks ((i,v)::r)).map fun e=>(e.key,e.val))=(Value.int i s.toks,Value.str v (s.toks + 1))::((gQ (s.toks + 1 + 1) r).map fun e=>(e.key,e.val)):=by
   simp only [gQ,List.map_map,List.zipIdx_cons,List.map_cons,Function.comp_def,List.cons.injEq]
   refine ⟨by simp,?_⟩
   apply List.ext_getElem?
   intro k
   simp only [List.getElem?_map,List.getElem?_zipIdx]
   cases r[k]? with
   | none=>rfl
   | some y =>
    simp only [Option.map_some]
    have h1:s.toks + 2 * (0 + 1 + k)=s.toks + 1 + 1 + 2 * (0 + k):=by lia
    rw [h1]
  refine (e) ▸ ?_
  have e2:s.toks + 2 * ((i,v)::r).length=s.toks + 1 + 1 + 2 * r.length:=by rw [List.length_cons];lia
  rw [e2]
  exact ay
theorem tt{pd:Pos}{hb:Heap}{l:List Obj}{kvs:List (Int × Str)}(hk:GoodKeys kvs)(h15:kvs.length<=15)(hn:n₀<=hb.objs.size)(t:Nat) :
  Yld p w n₀ ann q (subDict (kvs.map fun x=>(yR x.1,yy pd x.2))) pd { s with heap:=hx hb l,toks:=t } (hb.objs.size + l.length) pd
   { s with heap:=hx hb (l++[aH (gQ t kvs).toArray kvs.length]),toks:=t + 3 * kvs.length }:=by
 dsimp only [subDict]
 refine am wm ?_
 rw [show (hx hb l).objs.size=hb.objs.size + l.length from vw _ _]
 rw [show ((hx hb l).push { cls:=.type "dict",data:=.dict #[] })=hx hb (l++[aH #[] 0]) from vx _ _ _]
 refine am (a:=PUnit.unit) (aN ?_) ay
 rw [if_pos (by simpa using h15)]
 refine am (qy kvs _) ?_
 refine aN ?_
 have loop:=qx (p:=p) (w:=w) (n₀:=n₀) (ann:=ann) (q:=q) (pos:=pd) (l:=(gQ t kvs).map fun e=>(e.key,e.val))
  (f:=fun x _=>do
   dictSet (hb.objs.size + l.length) x.1 x.2
   pure (ForInStep.yield PUnit.unit))
  (fun k=>{ s with heap:=hx hb (l++[aH ((gQ t kvs).take k).toArray k]),toks:=t + 2 * kvs.length + k }) (by
   intro k x hx'
   replace hx':=(List.getElem?_map) ▸ hx'
   obtain ⟨e,h_p⟩:=Option.map_eq_some_iff.mp hx';have he:=h_p.1;obtain rfl:=h_p.2
   have hlt:k < kvs.length:=by have:=(List.getElem?_eq_some_iff.mp he).1;rwa [b7] at this
   obtain ⟨⟨i,v⟩,hkv⟩:∃ x,kvs[k]?=some x:=⟨_,List.getElem?_eq_getElem hlt⟩
   rw [rI t kvs k i v hkv] at he
   obtain rfl:=siX he
   have h_p:=hk.2 (i,v) (List.mem_of_getElem? hkv);have g0:=h_p.1;have g1:=h_p.2
   have hi:((kvs.map (·.1))[k]?)=some i:=by rw [List.getElem?_map,hkv];rfl
   have hget:(hx hb (l++[aH ((gQ t kvs).take k).toArray k])).get? (hb.objs.size + l.length)=some (aH ((gQ t kvs).take k).toArray k) :=
    rx _ _ _ _ (by simp) (by intro a b c;simp [aH])
   refine am (oM (es:=((gQ t kvs).take k).toArray) (n:=k) hget g0 g1 ?_ (by exact Nat.le_trans ‹_› (Nat.le_add_right _ _)) ?_) ?_
   ·refine lT ?_
    have:a8 ((gQ t kvs).take k)=(kvs.map (·.1)).take k:=by rw [← jy t kvs];simp [a8,List.map_take]
    refine (this) ▸ ?_
    exact eQ hk.1 hi
   ·simp [b7];lia
   ·have e:(hx hb (l++[aH ((gQ t kvs).take k).toArray k])).update (hb.objs.size + l.length) (Obj.mapDictKeys fun x=>x.push ⟨i,Value.int i (t + 2 * k),Value.str v (t + 2 * k + 1)⟩)
      = hx hb (l++[aH ((gQ t kvs).take (k + 1)).toArray (k + 1)]):=by
     rw [jx _ _ _ _ (aH ((gQ t kvs).take k).toArray k) (by simp)]
     congr 1
     rw [eK (rI t kvs k i v hkv)]
     rw [mdk,List.push_toArray]
     simp
    dsimp only
    rw [e]
    exact ay)
 rw [List.length_map,b7] at loop
 simp only [List.take_zero,Nat.add_zero] at loop
 rw [show (gQ t kvs).take kvs.length=gQ t kvs from by rw [← b7 t kvs,List.take_length]] at loop
 rw [show t + 2 * kvs.length + kvs.length=t + 3 * kvs.length by lia] at loop
 exact am loop ay
theorem kD{a:Addr}{o:Obj}(h:s.heap.get? a=some o):Yld p w n₀ ann q (typeOf (.ref a)) pos s o.cls pos s:=am (dY h) ay
theorem xQ{E M:List DictEntry}{k:Nat}(hd:(a8 (E++M)).Nodup)(hk:k < M.length):NotIn M[k].hash (E++M.take k).toArray:=lT (by
 have e0:∀ a b:List DictEntry,a8 (a++b)=a8 a++a8 b:=fun a b=>List.map_append
 have e3:(a8 E).length=E.length:=List.length_map _
 have e1:(a8 (E++M))[E.length + k]?=some M[k].hash:=by
  rw [e0,List.getElem?_append_right (by rw [e3];exact Nat.le_add_right _ _),e3,Nat.add_sub_cancel_left]
  exact (List.getElem?_map).trans (congrArg (Option.map _) (List.getElem?_eq_getElem hk))
 have e2:a8 (E++M.take k)=(a8 (E++M)).take (E.length + k):=by
  rw [e0,e0,List.take_append,e3,Nat.add_sub_cancel_left,List.take_of_length_le (l:=a8 E) (by rw [e3];exact Nat.le_add_right _ _)]
  exact congrArg (a8 E++·) List.map_take
 rw [e2]
 exact eQ hd e1)
theorem yq{a b:Addr}{Hk:Nat->Heap}{E M:List DictEntry}{nE nM:Nat}(hE:E≠[])(hM:∀ e∈M,∃ i t,e.key=.int i t)(hd:(a8 (E++M)).Nodup)(hz:E.length + M.length<=1000)(hna:n₀<=a)(hb:sysModules < b)
  (getE:∀ k,(Hk k).get? a=some (aH (E++M.take k).toArray (nE + k))) (getM:∀ k,(Hk k).get? b=some (aH M.toArray nM))
  (hup:∀ k (h:k < M.length),(Hk k).update a (Obj.mapDictKeys fun x=>x.push ⟨M[k].hash,M[k].key,M[k].val⟩)=Hk (k + 1)) (t:Nat) :
  Yld p w n₀ ann q (mergeMapping a (.ref b) false) pos { s with heap:=Hk 0,toks:=t } () pos { s with heap:=Hk M.length,toks:=t }:=by
 have g0:(Hk 0).get? a=some (aH E.toArray nE):=(getE 0).trans (by rw [List.take_zero,List.append_nil];rfl)
 unfold mergeMapping
 have isD:Yld p w n₀ ann q (isInstance (.ref b) (.type "dict")) pos { s with heap:=Hk 0,toks:=t } true pos { s with heap:=Hk 0,toks:=t }:=by
  unfold isInstance
  refine am (kD (getM 0)) ?_
  show Yld p w n₀ ann q (isSubtype (.type "dict") (.type "dict")) _ _ _ _ _
  exact (isSubtype_dict_dict) ▸ (ay)
 have sp:Yld p w n₀ ann q (specialOf (.ref b) "__iter__") pos { s with heap:=Hk 0,toks:=t } (some (.builtin "dict.__iter__")) pos { s with heap:=Hk 0,toks:=t }:=by
  unfold specialOf
  refine am (kD (getM 0)) ?_
  show Yld p w n₀ ann q (typeLookup (.type "dict") "__iter__") _ _ _ _ _
  exact (F.slot_dict_iter.lookup) ▸ (ay)
 refine am isD ?_
 rw [if_pos rfl]
 refine am sp ?_
 show Yld p w n₀ ann q (if (b == sysModules)=true then _ else _) _ _ _ _ _
 rw [if_neg (by rw [beq_eq_false_iff_ne.mpr (Nat.ne_of_gt hb)];exact Bool.false_ne_true)]
 refine am (cM g0 rfl) ?_
 rw [if_neg (by simpa using hE)]
 refine am (cM (getM 0) rfl) ?_
 refine am (jU (getM 0) rfl) ?_
 have loop:=qx (p:=p) (w:=w) (n₀:=n₀) (ann:=ann) (q:=q) (pos:=pos) (l:=List.range M.length)
  (f:=fun i _=>do
   match (← dictEntries b)[i]? with
   | some e=>do
    holding [e.key,e.val] (dictPut a e.hash e.key e.val)
    let y ← dictEpoch b
    if (y != nM)=true then do
     unsupported "dict.changed-during-merge"
     pure (ForInStep.yield PUnit.unit)
    else pure (ForInStep.yield PUnit.unit)
   | x=>do
    unsupported "dict.changed-during-merge"
    pure (ForInStep.yield PUnit.unit))
  (fun k=>{ s with heap:=Hk k,toks:=t }) (by
   intro k x hx'
   obtain ⟨hlt,rfl⟩:k < M.length/\k=x:=by
    obtain ⟨h1,h2⟩:=List.getElem?_eq_some_iff.mp hx'
    exact ⟨by simpa using h1,by simpa using h2⟩
   refine dp (hM M[k] (List.getElem_mem hlt)) fun i tk hkey=>?_
   refine am (cM (getM _) rfl) ?_
   show Yld p w n₀ ann q (match (M.toArray)[k]? with | some e=>_ | x=>_) _ _ _ _ _
   rw [show (M.toArray)[k]?=some M[k] by simpa using List.getElem?_eq_getElem hlt]
   have hput:=wl (p:=p) (w:=w) (n₀:=n₀) (ann:=ann) (q:=q) (pos:=pos) (i:=i) (t:=tk) (v:=M[k].val) (s:={ s with heap:=Hk k,toks:=t }) (getE k) (xQ hd hlt) hna (by simp;lia)
   rw [← hkey] at hput
   dsimp only at hput
   rw [hup k hlt] at hput
   refine am (aN hput) (am (jU (getM _) rfl) ?_)
   rw [if_neg (by simp)]
   exact ay)
 rw [List.length_range] at loop
 exact am loop ay
theorem wi{hb:Heap}{l₀ l₁:List Obj}{E M:List DictEntry}{nE nM:Nat}(hE:E≠[])(hM:∀ e∈M,∃ i t,e.key=.int i t)
  (hd:(a8 (E++M)).Nodup) (hz:E.length + M.length<=1000) (hn:n₀<=hb.objs.size) (hsys:sysModules < hb.objs.size) (t:Nat) :
  Yld p w n₀ ann q (mergeMapping (hb.objs.size + l₀.length) (.ref (hb.objs.size + (l₀++[aH E.toArray nE]++l₁).length)) false) pos
   { s with heap:=hx hb (l₀++[aH E.toArray nE]++l₁++[aH M.toArray nM]),toks:=t } () pos
   { s with heap:=hx hb (l₀++[aH (E++M).toArray (nE + M.length)]++l₁++[aH M.toArray nM]),toks:=t }:=by
 have g:=yq (p:=p) (w:=w) (n₀:=n₀) (ann:=ann) (q:=q) (pos:=pos) (s:=s) (a:=hb.objs.size + l₀.length) (b:=hb.objs.size + (l₀++[aH E.toArray nE]++l₁).length)
  (Hk:=fun k=>hx hb (l₀++[aH (E++M.take k).toArray (nE + k)]++l₁++[aH M.toArray nM])) (nE:=nE) (nM:=nM) hE hM hd hz (Nat.le_trans hn (Nat.le_add_right _ _)) (Nat.lt_of_lt_of_le hsys (Nat.le_add_right _ _))
  (fun k=>rx _ _ _ _ (by simp) (by intro a b c;simp [aH])) (fun k=>rx _ _ _ _ (by rw [List.getElem?_append_right (by simp)];simp) (by intro a b c;simp [aH])) (fun k hlt=>by
   rw [jx _ _ _ _ (aH (E++M.take k).toArray (nE + k)) (by simp)]
   congr 1
   rw [mdk,List.push_toArray]
   simp [aH,Nat.add_assoc]
   exact (eK (List.getElem?_eq_getElem hlt)).symm) t
 simp only [List.take_zero,List.append_nil,Nat.add_zero,List.take_length] at g
 exact g
noncomputable abbrev Pr:=Sem Value × Sem Value
noncomputable def opt(c:List Pr):List (Option (Sem Value) × Sem Value):=c.map fun x=>(some x.1,x.2)
noncomputable def jz(fr:Addr->Addr->Value->Sem Unit)(run:List Pr)(main:Option Addr):Sem (Option Addr):=do
 if run.isEmpty then return main
 match main with
 | none=>return some (← subDict run)
 | some d =>
  let sub ← holding [.ref d] (subDict run)
  (holding [.ref d,.ref sub] (mergeMapping d (.ref sub) false)).onRaise (fr d sub)
  return some d
noncomputable abbrev DF:=(Option (Sem Value) × Sem Value)->(Option Addr × List Pr)->Sem (ForInStep (Option Addr × List Pr))
noncomputable def gn1(m:Option Addr):Sem Value:=match m with
 | some d=>pure (.ref d)
 | none=>newDict
noncomputable def wV(fr:Addr->Addr->Value->Sem Unit)(F:DF):Prop:=∀ (x:Pr) (m:Option Addr) (buf:List Pr),F (some x.1,x.2) (m,buf) =
 if ((buf++[x]).length == 17)=true then jz fr (buf++[x]) m >>= fun m'=>pure (ForInStep.yield (m',([]:List Pr))) else pure (ForInStep.yield (m,buf++[x]))
theorem x7:∃ (F:DF) (G:(Option Addr × List Pr)->Sem Value) (fr:Addr->Addr->Value->Sem Unit),
  (∀ items,dictDisplay items=(forIn items ((none:Option Addr),([]:List Pr)) F >>= G))/\wV fr F/\(∀ m buf,G (m,buf)=jz fr buf m >>= gn1) :=
 ⟨_,_,fun d _ x=>do let _ ← holding [.ref d,x] (runValue (.builtin "proto.let_go" {})),fun _=>rfl,fun x m buf=>by kernel_rfl!,fun m buf=>by kernel_rfl!⟩
theorem vZ{fr:Addr->Addr->Value->Sem Unit}{F:DF}(hF:wV fr F)(m:Option Addr)(rest:List (Option (Sem Value) × Sem Value)):∀ (c buf:List Pr),buf.length + c.length < 17->forIn (opt c++rest) (m,buf) F=forIn rest (m,buf++c) F
 | [],buf,_=>by rw [List.append_nil];rfl
 | x::c,buf,h=>by
  have h1:buf.length + 1 + c.length < 17:=by rw [List.length_cons] at h;lia
  have hx:(buf++[x]).length=buf.length + 1:=List.length_append
  have hn:¬ ((buf++[x]).length == 17)=true:=fun e=>by replace e:=(hx) ▸ e;have:=beq_iff_eq.mp e;lia
  refine (List.forIn_cons ..).trans ?_
  rw [hF x m buf,if_neg hn,pure_bind]
  refine (vZ hF m rest c (buf++[x]) (by rw [hx];exact h1)).trans ?_
  rw [List.append_assoc];rfl
theorem rK{fr:Addr->Addr->Value->Sem Unit}{F:DF}(hF:wV fr F)(m:Option Addr)(rest:List (Option (Sem Value) × Sem Value))(c:List Pr)(hc:c.length=17):forIn (opt c++rest) (m,([]:List Pr)) F =
  (jz fr c m >>= fun m'=>pure (ForInStep.yield (m',([]:List Pr)))) >>= fun r=>match r with | .done b=>pure b | .yield b=>forIn rest b F:=by
 have hne:c≠[]:=fun e=>by replace hc:=(e) ▸ hc;cases hc
 have e:=List.dropLast_concat_getLast hne
 generalize c.dropLast=c' at e
 generalize c.getLast hne=x at e
 subst e
 have h16:c'.length + 1=17:=by rw [List.length_append] at hc;exact hc
 rw [show opt (c'++[x])++rest=opt c'++((some x.1,x.2)::rest) by simp [opt],vZ hF m _ c' [] (by rw [List.length_nil];lia)]
 refine (List.forIn_cons ..).trans ?_
 rw [List.nil_append,hF x m c',if_pos (beq_iff_eq.mpr (by rw [List.length_append];exact h16))]
 exact bind_congr fun r=>by cases r <;> rfl
theorem kU{fr:Addr->Addr->Value->Sem Unit}{c:List Pr}(hc:c≠[])(d:Addr):jz fr c (some d)=(do
  let sub ← holding [.ref d] (subDict c)
  (holding [.ref d,.ref sub] (mergeMapping d (.ref sub) false)).onRaise (fr d sub)
  return some d:Sem (Option Addr)):=by
 match c,hc with
 | _::_,_=>rfl
theorem sZ{fr:Addr->Addr->Value->Sem Unit}{c:List Pr}(hc:c≠[]):jz fr c none=(do return some (← subDict c):Sem (Option Addr)):=by
 match c,hc with
 | _::_,_=>rfl
noncomputable def prT(pd:Pos)(kvs:List (Int × Str)):List Pr:=kvs.map fun x=>(yR x.1,yy pd x.2)
theorem pZ(t:Nat)(a b:List (Int × Str)):df t (a++b)=df t a++df (t + 3 * a.length) b:=by
 apply List.ext_getElem?
 intro k
 rcases Nat.lt_or_ge k a.length with h | h
 ·rw [List.getElem?_append_left (by rw [aP];exact h)]
  simp only [df,List.getElem?_map,List.getElem?_zipIdx]
  rw [List.getElem?_append_left h]
 ·rw [List.getElem?_append_right (by rw [aP];exact h),aP]
  simp only [df,List.getElem?_map,List.getElem?_zipIdx]
  rw [List.getElem?_append_right h]
  cases b[k - a.length]? with
  | none=>rfl
  | some x =>
   simp only [Option.map_some]
   have h1:t + 3 * (0 + k)=t + 3 * a.length + 3 * (0 + (k - a.length)):=by lia
   rw [h1]
noncomputable def dD1(t:Nat):Nat->List (Int × Str)->List (Int × Str)->List Obj->List Obj
 | 0,done,rest,subs=>aH (df t done++gQ (t + 3 * done.length) rest).toArray (done.length + rest.length)::(subs++[aH (gQ (t + 3 * done.length) rest).toArray rest.length])
 | J + 1,done,rest,subs=>dD1 t J (done++rest.take 17) (rest.drop 17) (subs++[aH (df (t + 3 * done.length) (rest.take 17)).toArray 17])
theorem GoodKeys.left{a b:List (Int × Str)}(h:GoodKeys (a++b)):GoodKeys a:=by
 refine jm (h) fun h1 h2=>?_
 rw [List.map_append] at h1
 exact ⟨(List.nodup_append.mp h1).1,fun x hx=>h2 x (List.mem_append_left _ hx)⟩
theorem GoodKeys.right{a b:List (Int × Str)}(h:GoodKeys (a++b)):GoodKeys b:=by
 refine jm (h) fun h1 h2=>?_
 rw [List.map_append] at h1
 exact ⟨(List.nodup_append.mp h1).2.1,fun x hx=>h2 x (List.mem_append_right _ hx)⟩
theorem sJ(t:Nat)(kvs:List (Int × Str)):∀ e∈df t kvs,∃ i tk,e.key=.int i tk:=fun e he=>by
 simp only [df,List.mem_map] at he
 obtain ⟨x,h_p⟩:=he;obtain rfl:=h_p.2
 exact wx _ _ rfl
theorem sI(t:Nat)(kvs:List (Int × Str)):∀ e∈gQ t kvs,∃ i tk,e.key=.int i tk:=fun e he=>by
 simp only [gQ,List.mem_map] at he
 obtain ⟨x,h_p⟩:=he;obtain rfl:=h_p.2
 exact wx _ _ rfl
theorem gn(a b:List DictEntry):a8 (a++b)=a8 a++a8 b:=by simp [a8]
theorem yK(pd:Pos)(a b:List (Int × Str)):opt (prT pd (a++b))=opt (prT pd a)++opt (prT pd b):=by simp [opt,prT]
theorem nB(pd:Pos)(a:List (Int × Str)):(prT pd a).length=a.length:=List.length_map _
theorem yr{fr:Addr->Addr->Value->Sem Unit}{F:DF}{G:(Option Addr × List Pr)->Sem Value}(hF:wV fr F)(hG:∀ m buf,G (m,buf)=jz fr buf m >>= gn1)
  {pd:Pos} {hb:Heap} (hn:n₀<=hb.objs.size) (hsys:sysModules < hb.objs.size) (t:Nat) :
  ∀ (J:Nat) (done rest:List (Int × Str)) (subs:List Obj),rest.length=17 * J + 4->GoodKeys (done++rest)->done≠[]->done.length + rest.length<=1000 ->
   Yld p w n₀ ann q (forIn (opt (prT pd rest)) (some hb.objs.size,([]:List Pr)) F >>= G) pd
    { s with heap:=hx hb (aH (df t done).toArray done.length::subs),toks:=t + 3 * done.length } (.ref hb.objs.size) pd
    { s with heap:=hx hb (dD1 t J done rest subs),toks:=t + 3 * done.length + 3 * rest.length }:=by
 intro J
 induction J with
 | zero =>
  intro done rest subs hl hk hne hz
  have hr:prT pd rest≠[]:=fun e=>by have:=congrArg List.length e;rw [nB,hl] at this;cases this
  have e:(forIn (opt (prT pd rest)) (some hb.objs.size,([]:List Pr)) F >>= G)=jz fr (prT pd rest) (some hb.objs.size) >>= gn1:=by
   have h:=vZ hF (some hb.objs.size) [] (prT pd rest) [] (by rw [nB,hl];decide)
   rw [List.append_nil,List.nil_append] at h
   rw [h,List.forIn_nil,pure_bind,hG]
  refine e9 e ?_
  rw [kU hr]
  have sub:=tt (p:=p) (w:=w) (n₀:=n₀) (ann:=ann) (q:=q) (s:=s) (pd:=pd) (hb:=hb) (l:=aH (df t done).toArray done.length::subs) (kvs:=rest) hk.right (by rw [hl];decide) hn (t + 3 * done.length)
  have mg:=wi (p:=p) (w:=w) (n₀:=n₀) (ann:=ann) (q:=q) (s:=s) (pos:=pd) (hb:=hb) (l₀:=[]) (l₁:=subs) (E:=df t done) (M:=gQ (t + 3 * done.length) rest) (nE:=done.length) (nM:=rest.length)
   (by intro h0;have:=congrArg List.length h0;rw [aP] at this;exact hne (List.length_eq_zero_iff.mp this)) (sI _ _)
   (by rw [gn,ec,jy,← List.map_append];exact hk.1) (by rw [aP,b7];exact hz) hn hsys (t + 3 * done.length + 3 * rest.length)
  rw [b7] at mg
  refine am (a:=some hb.objs.size) ?_ ay
  refine am (aN sub) (am (a:=()) (oK (aN ?_)) ay)
  rw [show hb.objs.size + (aH (df t done).toArray done.length::subs).length=hb.objs.size + (([]:List Obj)++[aH (df t done).toArray done.length]++subs).length by simp]
  exact mg
 | succ J ih =>
  intro done rest subs hl hk hne hz
  have hcl:(rest.take 17).length=17:=by rw [List.length_take,hl];rfl
  show Yld p w n₀ ann q _ pd _ _ pd { s with heap:=hx hb (dD1 t J (done++rest.take 17) (rest.drop 17) (subs++[aH (df (t + 3 * done.length) (rest.take 17)).toArray 17])),toks:=t + 3 * done.length + 3 * rest.length }
  have hrest:=List.take_append_drop 17 rest
  generalize rest.take 17=c at hcl hrest
  generalize rest.drop 17=r at hrest
  subst hrest
  have hk':GoodKeys (done++c):=by rw [← List.append_assoc] at hk;exact hk.left
  have hz':done.length + (17 + r.length)<=1000:=by rw [List.length_append,hcl] at hz;exact hz
  have sub:=oI (p:=p) (w:=w) (n₀:=n₀) (ann:=ann) (q:=q) (s:=s) (pd:=pd) (hb:=hb) (l:=aH (df t done).toArray done.length::subs) (kvs:=c) hk'.right (by rw [hcl];decide) (by rw [hcl];decide) hn (t + 3 * done.length)
  have mg:=wi (p:=p) (w:=w) (n₀:=n₀) (ann:=ann) (q:=q) (s:=s) (pos:=pd) (hb:=hb) (l₀:=[]) (l₁:=subs) (E:=df t done) (M:=df (t + 3 * done.length) c) (nE:=done.length) (nM:=17)
   (by intro h0;have:=congrArg List.length h0;rw [aP] at this;exact hne (List.length_eq_zero_iff.mp this)) (sJ _ _)
   (by rw [gn,ec,ec,← List.map_append];exact hk'.1) (by rw [aP,aP,hcl];lia) hn hsys (t + 3 * done.length + 3 * 17)
  have nxt:=ih (done++c) r (subs++[aH (df (t + 3 * done.length) c).toArray 17]) (by rw [List.length_append,hcl] at hl;lia) (by rw [List.append_assoc];exact hk) (fun e=>hne (List.append_eq_nil_iff.mp e).1) (by rw [List.length_append,hcl];lia)
  have e2:([]:List Obj)++[aH (df t done++df (t + 3 * done.length) c).toArray (done.length + (df (t + 3 * done.length) c).length)]++subs++[aH (df (t + 3 * done.length) c).toArray 17] =
    aH (df t (done++c)).toArray (done++c).length::(subs++[aH (df (t + 3 * done.length) c).toArray 17]):=by
   rw [pZ,aP,List.length_append];simp
  rw [e2] at mg
  have e3:t + 3 * (done++c).length=t + 3 * done.length + 3 * 17:=by rw [List.length_append,hcl];exact (Nat.add_assoc _ _ _).symm
  have e4:t + 3 * (done++c).length + 3 * r.length=t + 3 * done.length + 3 * (c++r).length:=by rw [List.length_append,List.length_append,hcl];lia
  rw [e4,e3] at nxt
  rw [yK]
  refine e9 (congrArg (· >>= G) (rK hF _ _ (prT pd c) ((nB pd c).trans hcl))) ?_
  rw [kU (fun e=>by have:=congrArg List.length e;rw [nB,hcl] at this;cases this)]
  refine e9 (bind_assoc _ _ _) ?_
  refine am (a:=ForInStep.yield (some hb.objs.size,([]:List Pr))) ?_ nxt
  refine am (a:=some hb.objs.size) ?_ ay
  rw [hcl] at sub
  refine am (aN sub) (am (a:=()) (oK (aN ?_)) ay)
  rw [show hb.objs.size + (aH (df t done).toArray done.length::subs).length=hb.objs.size + (([]:List Obj)++[aH (df t done).toArray done.length]++subs).length by simp]
  exact mg
theorem mL{pd:Pos}{hb:Heap}(hn:n₀<=hb.objs.size)(hsys:sysModules < hb.objs.size)(t J:Nat)(kvs:List (Int × Str))(hl:kvs.length=17 * (J + 1) + 4)(hk:GoodKeys kvs)(hz:kvs.length<=1000) :
  Yld p w n₀ ann q (dictDisplay (opt (prT pd kvs))) pd { s with heap:=hb,toks:=t } (.ref hb.objs.size) pd
   { s with heap:=hx hb (dD1 t J (kvs.take 17) (kvs.drop 17) []),toks:=t + 3 * kvs.length }:=by
 refine fO (x7) fun F G fr h_p=>?_;have h1:=h_p.1;have hF:=h_p.2.1;have hG:=h_p.2.2
 have hcl:(kvs.take 17).length=17:=by rw [List.length_take,hl];rfl
 have hrest:=List.take_append_drop 17 kvs
 generalize kvs.take 17=c at hcl hrest
 generalize kvs.drop 17=r at hrest
 subst hrest
 have hrl:r.length=17 * J + 4:=by rw [List.length_append,hcl] at hl;lia
 have hrz:c.length + r.length<=1000:=by rw [List.length_append] at hz;exact hz
 have hc0:c≠[]:=fun e=>by replace hcl:=(e) ▸ hcl;cases hcl
 rw [h1,yK]
 refine e9 (congrArg (· >>= G) (rK hF _ _ (prT pd c) ((nB pd c).trans hcl))) ?_
 refine (sZ (c:=prT pd c) (fun e=>hc0 (List.map_eq_nil_iff.mp e))) ▸ ?_
 have sub:=oI (p:=p) (w:=w) (n₀:=n₀) (ann:=ann) (q:=q) (s:=s) (pd:=pd) (hb:=hb) (l:=[]) (kvs:=c) hk.left (by rw [hcl];decide) (by rw [hcl];decide) hn t
 have nxt:=yr (p:=p) (w:=w) (n₀:=n₀) (ann:=ann) (q:=q) (s:=s) (pd:=pd) (hb:=hb) hF hG hn hsys t J c r [] hrl hk hc0 hrz
 rw [dm1] at sub
 rw [show t + 3 * c.length + 3 * r.length=t + 3 * (c++r).length by rw [List.length_append];lia] at nxt
 refine e9 (bind_assoc _ _ _) ?_
 refine am (a:=ForInStep.yield (some hb.objs.size,([]:List Pr))) ?_ nxt
 refine am (a:=some hb.objs.size) ?_ ay
 exact am sub ay
end
set_option maxHeartbeats 0
noncomputable abbrev prg:Program:=PySem.Challenge.pw_wv0039_03
noncomputable abbrev so(s:String):Str:=PySem.Str.ofString s
noncomputable abbrev de (P:Params) (s:String) (t:Nat) (v:Value):DictEntry:=⟨PyData.keyHash P (so s),.str (so s) t,v⟩
noncomputable abbrev ar{α:Type}(l:List α):Array α:=l.toArray
noncomputable def stN(i:Nat):Stmt:=(prg.main.body[i]?).getD (.Pass default)
noncomputable def dQ(st:Stmt):FuncData:={ name:=(us st).s,qualname:=(us st).s,params:=(us st).ar,body:=.stmts (us st).x,scope:=(us st).sc,globals:=0,closure:=[],defaults:=.none,kwdefaults:=.none }
noncomputable def gh1(st:Stmt)(code mod:Value):FuncData:={ dQ st with globals:=3,pyModule:=mod,code:=code }
noncomputable def v6(st:Stmt):List Stmt:=(us st).x
noncomputable def mtN(c i:Nat):Stmt:=((v6 (stN c))[i]?).getD (.Pass default)
noncomputable def e0:Obj:=⟨(.type "tuple"),none,(.seq (ar []) 0),#[]⟩
noncomputable def e1:Obj:=⟨.none,none,(.fields (ar [])),#[]⟩
noncomputable def e2:Obj:=⟨(.type "builtin_function_or_method"),none,(.fields (ar [(.builtin "type.__prepare__"),(.type "type")])),#[]⟩
noncomputable def e3:Obj:=⟨(.type "tuple"),none,(.seq (ar [(.ref 25)]) 0),#[]⟩
noncomputable def b13(P:Params):Obj:=⟨(.type "code"),none,(.fields (ar [(.str (so "<module>") 182),(.str (so "<module>") 183),(.str (so "/claim/cut.py") 184),(.int 1 0),(.int 0 0),(.int 0 0),(.int 0 0),(.int 0 0),(.ref 11),(.bool false),(.int 181 0),(.ref 12),.none,.none,.none,.none,(.int 185 0),(.int 1 0),(.str (so "/claim/cut.py") 186)])),#[]⟩
noncomputable def b14(P:Params):Obj:=⟨(.type "frame"),none,.plain,ar [(some (.ref 13)),(some (.ref 3)),(some (.ref 3)),none,(some (.str (so "__main__") 164)),none,(some (.ref 0))]⟩
noncomputable def gg1(P:Params):Obj:=⟨.none,none,(.dict (ar [(de P "type.__subclasses__.Exception.0" 328 (.int 122 0)),(de P "type.__subclasses__.Exception.n" 329 (.int 1 0))]) 2),#[]⟩
noncomputable def gf1(P:Params):Obj:=⟨(.type "dict"),none,(.dict (ar [(de P "__name__" 165 (.str (so "cpy313.stringprep") 359)),(de P "__doc__" 166 .none),(de P "__package__" 167 .none),(de P "__loader__" 168 (.builtin "__main__.__loader__#opaque")),(de P "__spec__" 169 .none),(de P "__annotations__" 170 (.ref 6)),(de P "__builtins__" 171 (.ref 4)),(de P "__file__" 173 (.str (so "/claim/cut.py") 172)),(de P "__cached__" 174 .none),(de P "_wall" 193 (.ref 21)),(de P "EMPTYSTRING" 197 (.str (so "") 196)),(de P "_Accumulator" 293 (.ref 101)),(de P "ELLIPSIS_MARKER" 297 (.str (so "...") 296)),(de P "_ellipsis_match" 309 (.ref 112)),(de P "Error" 331 (.ref 122)),(de P "error_reply" 347 (.ref 135)),(de P "parse257" 358 (.ref 144))]) 17),#[]⟩
noncomputable def dB1(P:Params):Obj:=⟨.none,none,(.fields (ar [(.int 1 0),(.int 0 0),(.ref 20),(.int 6 0),(.int 0 0),(.ref 28),(.int 41 0),(.int 0 0),(.ref 111),(.int 70 0),(.int 0 0),(.ref 118),(.int 72 0),(.int 0 0),(.ref 131),(.int 74 0),(.int 0 0),(.ref 143)])),#[]⟩
noncomputable def n17(P:Params):Obj:=⟨(.type "tuple"),none,(.seq (ar [(.str (so "k") 190)]) 0),#[]⟩
noncomputable def n19(P:Params):Obj:=⟨.none,none,(.func (dQ (stN 0))),#[]⟩
noncomputable def n20(P:Params):Obj:=⟨(.type "code"),none,(.fields (ar [(.str (so "_wall") 187),(.str (so "_wall") 188),(.str (so "/claim/cut.py") 189),(.int 1 0),(.int 1 0),(.int 0 0),(.int 0 0),(.int 3 0),(.ref 15),(.bool true),(.int 181 0),(.ref 16),.none,(.ref 17),(.ref 18),(.ref 19),(.int 191 0),(.int 1 0),(.str (so "/claim/cut.py") 192)])),#[]⟩
noncomputable def n21(P:Params):Obj:=⟨(.type "function"),none,(.func { dQ (stN 0) with globals:=3,pyModule:=(.str (so "__main__") 164),code:=(.ref 20) }),#[]⟩
noncomputable def n22(P:Params):Obj:=⟨(.type "tuple"),none,(.seq (ar [(.type "list")]) 0),#[]⟩
noncomputable def n24(P:Params):Obj:=⟨(.type "dict"),none,(.dict (ar [(de P "__module__" 205 (.str (so "cpy313.email.header") 194)),(de P "__qualname__" 207 (.str (so "_Accumulator") 206)),(de P "__firstlineno__" 209 (.int 6 208)),(de P "__init__" 219 (.ref 38)),(de P "push" 228 (.ref 45)),(de P "pop_from" 238 (.ref 53)),(de P "pop" 246 (.ref 61)),(de P "__len__" 253 (.ref 68)),(de P "__str__" 260 (.ref 75)),(de P "reset" 268 (.ref 83)),(de P "is_onlyws" 275 (.ref 90)),(de P "part_count" 283 (.ref 98)),(de P "__static_attributes__" 285 (.ref 99)),(de P "__classcell__" 286 (.ref 25))]) 14),#[]⟩
noncomputable def n25(P:Params):Obj:=⟨(.type "cell"),none,(.cell (some (.ref 101))),#[]⟩
noncomputable def n27(P:Params):Obj:=⟨.none,none,(.fields (ar [(.int 8 0),(.int 4 0),(.ref 37),(.int 12 0),(.int 4 0),(.ref 44),(.int 15 0),(.int 4 0),(.ref 52),(.int 20 0),(.int 4 0),(.ref 60),(.int 25 0),(.int 4 0),(.ref 67),(.int 28 0),(.int 4 0),(.ref 74),(.int 31 0),(.int 4 0),(.ref 82),(.int 34 0),(.int 4 0),(.ref 89),(.int 37 0),(.int 4 0),(.ref 97)])),#[]⟩
noncomputable def n28(P:Params):Obj:=⟨(.type "code"),none,(.fields (ar [(.str (so "_Accumulator") 200),(.str (so "_Accumulator") 201),(.str (so "/claim/cut.py") 202),(.int 6 0),(.int 0 0),(.int 0 0),(.int 0 0),(.int 0 0),(.ref 26),(.bool false),(.int 181 0),(.ref 27),.none,.none,.none,.none,(.int 203 0),(.int 6 0),(.str (so "/claim/cut.py") 204)])),#[]⟩
noncomputable def n29(P:Params):Obj:=⟨(.type "frame"),none,.plain,ar [(some (.ref 28)),(some (.ref 3)),(some (.ref 24)),none,(some (.str (so "cpy313.email.header") 194)),none,(some (.ref 0))]⟩
noncomputable def n30(P:Params):Obj:=⟨(.type "tuple"),none,(.seq (ar [(.int 0 210)]) 0),#[]⟩
noncomputable def n32(P:Params):Obj:=⟨(.type "tuple"),none,(.seq (ar [(.str (so "__class__") 214)]) 0),#[]⟩
noncomputable def n34(P:Params):Obj:=⟨(.type "tuple"),none,(.seq (ar [(.str (so "self") 215),(.str (so "initial_size") 216)]) 0),#[]⟩
noncomputable def n36(P:Params):Obj:=⟨.none,none,(.func { dQ (mtN 3 0) with qualname:=(so "_Accumulator.__init__") }),#[]⟩
noncomputable def n37(P:Params):Obj:=⟨(.type "code"),none,(.fields (ar [(.str (so "__init__") 211),(.str (so "_Accumulator.__init__") 212),(.str (so "/claim/cut.py") 213),(.int 8 0),(.int 2 0),(.int 0 0),(.int 0 0),(.int 3 0),(.ref 32),(.bool true),(.int 181 0),(.ref 33),.none,(.ref 34),(.ref 35),(.ref 36),(.int 217 0),(.int 8 0),(.str (so "/claim/cut.py") 218)])),#[]⟩
noncomputable def n38(P:Params):Obj:=⟨(.type "function"),none,(.func { dQ (mtN 3 0) with qualname:=(so "_Accumulator.__init__"),globals:=3,closure:=[((so "__class__"),25)],defaults:=(.ref 30),pyModule:=(.str (so "cpy313.email.header") 194),code:=(.ref 37),closureTuple:=(.ref 31) }),#[]⟩
noncomputable def n41(P:Params):Obj:=⟨(.type "tuple"),none,(.seq (ar [(.str (so "self") 223),(.str (so "fws") 224),(.str (so "string") 225)]) 0),#[]⟩
noncomputable def n43(P:Params):Obj:=⟨.none,none,(.func { dQ (mtN 3 1) with qualname:=(so "_Accumulator.push") }),#[]⟩
noncomputable def n44(P:Params):Obj:=⟨(.type "code"),none,(.fields (ar [(.str (so "push") 220),(.str (so "_Accumulator.push") 221),(.str (so "/claim/cut.py") 222),(.int 12 0),(.int 3 0),(.int 0 0),(.int 0 0),(.int 3 0),(.ref 39),(.bool true),(.int 181 0),(.ref 40),.none,(.ref 41),(.ref 42),(.ref 43),(.int 226 0),(.int 12 0),(.str (so "/claim/cut.py") 227)])),#[]⟩
noncomputable def n45(P:Params):Obj:=⟨(.type "function"),none,(.func { dQ (mtN 3 1) with qualname:=(so "_Accumulator.push"),globals:=3,pyModule:=(.str (so "cpy313.email.header") 194),code:=(.ref 44) }),#[]⟩
noncomputable def n46(P:Params):Obj:=⟨(.type "tuple"),none,(.seq (ar [(.int 0 229)]) 0),#[]⟩
noncomputable def n49(P:Params):Obj:=⟨(.type "tuple"),none,(.seq (ar [(.str (so "self") 233),(.str (so "i") 234),(.str (so "popped") 235)]) 0),#[]⟩
noncomputable def n51(P:Params):Obj:=⟨.none,none,(.func { dQ (mtN 3 2) with qualname:=(so "_Accumulator.pop_from") }),#[]⟩
noncomputable def n52(P:Params):Obj:=⟨(.type "code"),none,(.fields (ar [(.str (so "pop_from") 230),(.str (so "_Accumulator.pop_from") 231),(.str (so "/claim/cut.py") 232),(.int 15 0),(.int 2 0),(.int 0 0),(.int 0 0),(.int 3 0),(.ref 47),(.bool true),(.int 181 0),(.ref 48),.none,(.ref 49),(.ref 50),(.ref 51),(.int 236 0),(.int 15 0),(.str (so "/claim/cut.py") 237)])),#[]⟩
noncomputable def n53(P:Params):Obj:=⟨(.type "function"),none,(.func { dQ (mtN 3 2) with qualname:=(so "_Accumulator.pop_from"),globals:=3,defaults:=(.ref 46),pyModule:=(.str (so "cpy313.email.header") 194),code:=(.ref 52) }),#[]⟩
noncomputable def n55(P:Params):Obj:=⟨(.type "tuple"),none,(.seq (ar [(.str (so "__class__") 242)]) 0),#[]⟩
noncomputable def n57(P:Params):Obj:=⟨(.type "tuple"),none,(.seq (ar [(.str (so "self") 243)]) 0),#[]⟩
noncomputable def n59(P:Params):Obj:=⟨.none,none,(.func { dQ (mtN 3 3) with qualname:=(so "_Accumulator.pop") }),#[]⟩
noncomputable def n60(P:Params):Obj:=⟨(.type "code"),none,(.fields (ar [(.str (so "pop") 239),(.str (so "_Accumulator.pop") 240),(.str (so "/claim/cut.py") 241),(.int 20 0),(.int 1 0),(.int 0 0),(.int 0 0),(.int 3 0),(.ref 55),(.bool true),(.int 181 0),(.ref 56),.none,(.ref 57),(.ref 58),(.ref 59),(.int 244 0),(.int 20 0),(.str (so "/claim/cut.py") 245)])),#[]⟩
noncomputable def n61(P:Params):Obj:=⟨(.type "function"),none,(.func { dQ (mtN 3 3) with qualname:=(so "_Accumulator.pop"),globals:=3,closure:=[((so "__class__"),25)],pyModule:=(.str (so "cpy313.email.header") 194),code:=(.ref 60),closureTuple:=(.ref 54) }),#[]⟩
noncomputable def n64(P:Params):Obj:=⟨(.type "tuple"),none,(.seq (ar [(.str (so "self") 250)]) 0),#[]⟩
noncomputable def n66(P:Params):Obj:=⟨.none,none,(.func { dQ (mtN 3 4) with qualname:=(so "_Accumulator.__len__") }),#[]⟩
noncomputable def n67(P:Params):Obj:=⟨(.type "code"),none,(.fields (ar [(.str (so "__len__") 247),(.str (so "_Accumulator.__len__") 248),(.str (so "/claim/cut.py") 249),(.int 25 0),(.int 1 0),(.int 0 0),(.int 0 0),(.int 3 0),(.ref 62),(.bool true),(.int 181 0),(.ref 63),.none,(.ref 64),(.ref 65),(.ref 66),(.int 251 0),(.int 25 0),(.str (so "/claim/cut.py") 252)])),#[]⟩
noncomputable def n68(P:Params):Obj:=⟨(.type "function"),none,(.func { dQ (mtN 3 4) with qualname:=(so "_Accumulator.__len__"),globals:=3,pyModule:=(.str (so "cpy313.email.header") 194),code:=(.ref 67) }),#[]⟩
noncomputable def n71(P:Params):Obj:=⟨(.type "tuple"),none,(.seq (ar [(.str (so "self") 257)]) 0),#[]⟩
noncomputable def n73(P:Params):Obj:=⟨.none,none,(.func { dQ (mtN 3 5) with qualname:=(so "_Accumulator.__str__") }),#[]⟩
noncomputable def n74(P:Params):Obj:=⟨(.type "code"),none,(.fields (ar [(.str (so "__str__") 254),(.str (so "_Accumulator.__str__") 255),(.str (so "/claim/cut.py") 256),(.int 28 0),(.int 1 0),(.int 0 0),(.int 0 0),(.int 3 0),(.ref 69),(.bool true),(.int 181 0),(.ref 70),.none,(.ref 71),(.ref 72),(.ref 73),(.int 258 0),(.int 28 0),(.str (so "/claim/cut.py") 259)])),#[]⟩
noncomputable def n75(P:Params):Obj:=⟨(.type "function"),none,(.func { dQ (mtN 3 5) with qualname:=(so "_Accumulator.__str__"),globals:=3,pyModule:=(.str (so "cpy313.email.header") 194),code:=(.ref 74) }),#[]⟩
noncomputable def n76(P:Params):Obj:=⟨(.type "tuple"),none,(.seq (ar [.none]) 0),#[]⟩
noncomputable def n79(P:Params):Obj:=⟨(.type "tuple"),none,(.seq (ar [(.str (so "self") 264),(.str (so "startval") 265)]) 0),#[]⟩
noncomputable def n81(P:Params):Obj:=⟨.none,none,(.func { dQ (mtN 3 6) with qualname:=(so "_Accumulator.reset") }),#[]⟩
noncomputable def n82(P:Params):Obj:=⟨(.type "code"),none,(.fields (ar [(.str (so "reset") 261),(.str (so "_Accumulator.reset") 262),(.str (so "/claim/cut.py") 263),(.int 31 0),(.int 2 0),(.int 0 0),(.int 0 0),(.int 3 0),(.ref 77),(.bool true),(.int 181 0),(.ref 78),.none,(.ref 79),(.ref 80),(.ref 81),(.int 266 0),(.int 31 0),(.str (so "/claim/cut.py") 267)])),#[]⟩
noncomputable def n83(P:Params):Obj:=⟨(.type "function"),none,(.func { dQ (mtN 3 6) with qualname:=(so "_Accumulator.reset"),globals:=3,defaults:=(.ref 76),pyModule:=(.str (so "cpy313.email.header") 194),code:=(.ref 82) }),#[]⟩
noncomputable def n86(P:Params):Obj:=⟨(.type "tuple"),none,(.seq (ar [(.str (so "self") 272)]) 0),#[]⟩
noncomputable def n88(P:Params):Obj:=⟨.none,none,(.func { dQ (mtN 3 7) with qualname:=(so "_Accumulator.is_onlyws") }),#[]⟩
noncomputable def n89(P:Params):Obj:=⟨(.type "code"),none,(.fields (ar [(.str (so "is_onlyws") 269),(.str (so "_Accumulator.is_onlyws") 270),(.str (so "/claim/cut.py") 271),(.int 34 0),(.int 1 0),(.int 0 0),(.int 0 0),(.int 3 0),(.ref 84),(.bool true),(.int 181 0),(.ref 85),.none,(.ref 86),(.ref 87),(.ref 88),(.int 273 0),(.int 34 0),(.str (so "/claim/cut.py") 274)])),#[]⟩
noncomputable def n90(P:Params):Obj:=⟨(.type "function"),none,(.func { dQ (mtN 3 7) with qualname:=(so "_Accumulator.is_onlyws"),globals:=3,pyModule:=(.str (so "cpy313.email.header") 194),code:=(.ref 89) }),#[]⟩
noncomputable def n92(P:Params):Obj:=⟨(.type "tuple"),none,(.seq (ar [(.str (so "__class__") 279)]) 0),#[]⟩
noncomputable def n94(P:Params):Obj:=⟨(.type "tuple"),none,(.seq (ar [(.str (so "self") 280)]) 0),#[]⟩
noncomputable def n96(P:Params):Obj:=⟨.none,none,(.func { dQ (mtN 3 8) with qualname:=(so "_Accumulator.part_count") }),#[]⟩
noncomputable def n97(P:Params):Obj:=⟨(.type "code"),none,(.fields (ar [(.str (so "part_count") 276),(.str (so "_Accumulator.part_count") 277),(.str (so "/claim/cut.py") 278),(.int 37 0),(.int 1 0),(.int 0 0),(.int 0 0),(.int 3 0),(.ref 92),(.bool true),(.int 181 0),(.ref 93),.none,(.ref 94),(.ref 95),(.ref 96),(.int 281 0),(.int 37 0),(.str (so "/claim/cut.py") 282)])),#[]⟩
noncomputable def n98(P:Params):Obj:=⟨(.type "function"),none,(.func { dQ (mtN 3 8) with qualname:=(so "_Accumulator.part_count"),globals:=3,closure:=[((so "__class__"),25)],pyModule:=(.str (so "cpy313.email.header") 194),code:=(.ref 97),closureTuple:=(.ref 91) }),#[]⟩
noncomputable def n99(P:Params):Obj:=⟨(.type "tuple"),none,(.seq (ar [(.str (so "_initial_size") 284)]) 0),#[]⟩
noncomputable def ks1(P:Params):Obj:=⟨(.type "dict"),none,(.dict (ar [(de P "__module__" 205 (.str (so "cpy313.email.header") 194)),(de P "__firstlineno__" 209 (.int 6 208)),(de P "__init__" 219 (.ref 38)),(de P "push" 228 (.ref 45)),(de P "pop_from" 238 (.ref 53)),(de P "pop" 246 (.ref 61)),(de P "__len__" 253 (.ref 68)),(de P "__str__" 260 (.ref 75)),(de P "reset" 268 (.ref 83)),(de P "is_onlyws" 275 (.ref 90)),(de P "part_count" 283 (.ref 98)),(de P "__static_attributes__" 285 (.ref 99)),(de P "__dict__" 288 (.ref 102)),(de P "__weakref__" 290 (.ref 103)),(de P "__doc__" 291 .none)]) 5),#[]⟩
noncomputable def kr1(P:Params):Obj:=⟨(.type "type"),none,(.cls { name:=(so "_Accumulator"),bases:=[(.type "list")],mro:=[(.ref 101),(.type "list"),(.type "object")],ns:=100,qualname:=(so "_Accumulator"),hasDict:=true,slotNames:=[],subclasses:=[],abstract:=false,collection:=none,hasDel:=false }),ar [(some (.ref 22)),none,(some (.str (so "_Accumulator") 198)),(some (.str (so "_Accumulator") 206)),(some (.builtin "list.__new__")),(some (.bool true))]⟩
noncomputable def kq1(P:Params):Obj:=⟨(.type "getset_descriptor"),none,(.fields (ar [(.str (so "__dict__") 287),(.ref 101),(.builtin "function.__dict__"),(.builtin "function.__dict__#set")])),#[]⟩
noncomputable def kp1(P:Params):Obj:=⟨(.type "getset_descriptor"),none,(.fields (ar [(.str (so "__weakref__") 289),(.ref 101),(.builtin "ExceptionGroup.__weakref__"),.none])),#[]⟩
noncomputable def ko1(P:Params):Obj:=⟨(.type "super"),none,(.fields (ar [(.ref 101),(.ref 101),(.ref 101)])),#[]⟩
noncomputable def kn1(P:Params):Obj:=⟨(.type "builtin_function_or_method"),none,(.fields (ar [(.builtin "object.__init_subclass__"),(.ref 101)])),#[]⟩
noncomputable def km1(P:Params):Obj:=⟨(.type "tuple"),none,(.seq (ar [(.str (so "want") 301),(.str (so "got") 302),(.str (so "ws") 303),(.str (so "startpos") 304),(.str (so "endpos") 305),(.str (so "w") 306)]) 0),#[]⟩
noncomputable def kl1(P:Params):Obj:=⟨.none,none,(.func (dQ (stN 6))),#[]⟩
noncomputable def kk1(P:Params):Obj:=⟨(.type "code"),none,(.fields (ar [(.str (so "_ellipsis_match") 298),(.str (so "_ellipsis_match") 299),(.str (so "/claim/cut.py") 300),(.int 41 0),(.int 2 0),(.int 0 0),(.int 0 0),(.int 3 0),(.ref 106),(.bool true),(.int 181 0),(.ref 107),.none,(.ref 108),(.ref 109),(.ref 110),(.int 307 0),(.int 41 0),(.str (so "/claim/cut.py") 308)])),#[]⟩
noncomputable def kj1(P:Params):Obj:=⟨(.type "function"),none,(.func { dQ (stN 6) with globals:=3,pyModule:=(.str (so "cpy313.doctest") 294),code:=(.ref 111) }),#[]⟩
noncomputable def ki1(P:Params):Obj:=⟨(.type "tuple"),none,(.seq (ar [(.type "Exception")]) 0),#[]⟩
noncomputable def kh1(P:Params):Obj:=⟨(.type "dict"),none,(.dict (ar [(de P "__module__" 319 (.str (so "cpy313.ftplib") 310)),(de P "__qualname__" 321 (.str (so "Error") 320)),(de P "__firstlineno__" 323 (.int 70 322)),(de P "__static_attributes__" 324 (.ref 120))]) 4),#[]⟩
noncomputable def kg1(P:Params):Obj:=⟨(.type "code"),none,(.fields (ar [(.str (so "Error") 314),(.str (so "Error") 315),(.str (so "/claim/cut.py") 316),(.int 70 0),(.int 0 0),(.int 0 0),(.int 0 0),(.int 0 0),(.ref 116),(.bool false),(.int 181 0),(.ref 117),.none,.none,.none,.none,(.int 317 0),(.int 70 0),(.str (so "/claim/cut.py") 318)])),#[]⟩
noncomputable def kf1(P:Params):Obj:=⟨(.type "frame"),none,.plain,ar [(some (.ref 118)),(some (.ref 3)),(some (.ref 115)),none,(some (.str (so "cpy313.ftplib") 310)),none,(some (.ref 0))]⟩
noncomputable def ke1(P:Params):Obj:=⟨(.type "dict"),none,(.dict (ar [(de P "__module__" 319 (.str (so "cpy313.ftplib") 310)),(de P "__firstlineno__" 323 (.int 70 322)),(de P "__static_attributes__" 324 (.ref 120)),(de P "__weakref__" 326 (.ref 123)),(de P "__doc__" 327 .none)]) 3),#[]⟩
noncomputable def kd1(P:Params):Obj:=⟨(.type "type"),none,(.cls { name:=(so "Error"),bases:=[(.type "Exception")],mro:=[(.ref 122),(.type "Exception"),(.type "BaseException"),(.type "object")],ns:=121,qualname:=(so "Error"),hasDict:=true,slotNames:=[],subclasses:=[(.ref 135)],abstract:=false,collection:=none,hasDel:=false }),ar [(some (.ref 113)),none,(some (.str (so "Error") 312)),(some (.str (so "Error") 320)),(some (.builtin "Exception.__new__")),(some (.bool true))]⟩
noncomputable def kc1(P:Params):Obj:=⟨(.type "getset_descriptor"),none,(.fields (ar [(.str (so "__weakref__") 325),(.ref 122),(.builtin "ExceptionGroup.__weakref__"),.none])),#[]⟩
noncomputable def kb1(P:Params):Obj:=⟨(.type "super"),none,(.fields (ar [(.ref 122),(.ref 122),(.ref 122)])),#[]⟩
noncomputable def ka1(P:Params):Obj:=⟨(.type "builtin_function_or_method"),none,(.fields (ar [(.builtin "object.__init_subclass__"),(.ref 122)])),#[]⟩
noncomputable def j91(P:Params):Obj:=⟨(.type "tuple"),none,(.seq (ar [(.ref 122)]) 0),#[]⟩
noncomputable def j81(P:Params):Obj:=⟨(.type "dict"),none,(.dict (ar [(de P "__module__" 339 (.str (so "cpy313.ftplib") 310)),(de P "__qualname__" 341 (.str (so "error_reply") 340)),(de P "__firstlineno__" 343 (.int 72 342)),(de P "__static_attributes__" 344 (.ref 133))]) 4),#[]⟩
noncomputable def j71(P:Params):Obj:=⟨(.type "code"),none,(.fields (ar [(.str (so "error_reply") 334),(.str (so "error_reply") 335),(.str (so "/claim/cut.py") 336),(.int 72 0),(.int 0 0),(.int 0 0),(.int 0 0),(.int 0 0),(.ref 129),(.bool false),(.int 181 0),(.ref 130),.none,.none,.none,.none,(.int 337 0),(.int 72 0),(.str (so "/claim/cut.py") 338)])),#[]⟩
noncomputable def j61(P:Params):Obj:=⟨(.type "frame"),none,.plain,ar [(some (.ref 131)),(some (.ref 3)),(some (.ref 128)),none,(some (.str (so "cpy313.ftplib") 310)),none,(some (.ref 0))]⟩
noncomputable def j51(P:Params):Obj:=⟨(.type "dict"),none,(.dict (ar [(de P "__module__" 339 (.str (so "cpy313.ftplib") 310)),(de P "__firstlineno__" 343 (.int 72 342)),(de P "__static_attributes__" 344 (.ref 133)),(de P "__doc__" 345 .none)]) 2),#[]⟩
noncomputable def j41(P:Params):Obj:=⟨(.type "type"),none,(.cls { name:=(so "error_reply"),bases:=[(.ref 122)],mro:=[(.ref 135),(.ref 122),(.type "Exception"),(.type "BaseException"),(.type "object")],ns:=134,qualname:=(so "error_reply"),hasDict:=true,slotNames:=[],subclasses:=[],abstract:=false,collection:=none,hasDel:=false }),ar [(some (.ref 126)),none,(some (.str (so "error_reply") 332)),(some (.str (so "error_reply") 340)),(some (.builtin "Exception.__new__")),(some (.bool true))]⟩
noncomputable def j31(P:Params):Obj:=⟨(.type "super"),none,(.fields (ar [(.ref 135),(.ref 135),(.ref 135)])),#[]⟩
noncomputable def j21(P:Params):Obj:=⟨(.type "builtin_function_or_method"),none,(.fields (ar [(.builtin "object.__init_subclass__"),(.ref 135)])),#[]⟩
noncomputable def j11(P:Params):Obj:=⟨(.type "tuple"),none,(.seq (ar [(.str (so "resp") 351),(.str (so "dirname") 352),(.str (so "i") 353),(.str (so "n") 354),(.str (so "c") 355)]) 0),#[]⟩
noncomputable def j01(P:Params):Obj:=⟨.none,none,(.func (dQ (stN 10))),#[]⟩
noncomputable def jZ1(P:Params):Obj:=⟨(.type "code"),none,(.fields (ar [(.str (so "parse257") 348),(.str (so "parse257") 349),(.str (so "/claim/cut.py") 350),(.int 74 0),(.int 1 0),(.int 0 0),(.int 0 0),(.int 3 0),(.ref 138),(.bool true),(.int 181 0),(.ref 139),.none,(.ref 140),(.ref 141),(.ref 142),(.int 356 0),(.int 74 0),(.str (so "/claim/cut.py") 357)])),#[]⟩
noncomputable def jY1(P:Params):Obj:=⟨(.type "function"),none,(.func { dQ (stN 10) with globals:=3,pyModule:=(.str (so "cpy313.ftplib") 310),code:=(.ref 143) }),#[]⟩
noncomputable def jX1(P:Params):Obj:=⟨(.type "list"),none,(.seq (ar [(.int 173 361),(.int 847 362),(.int 6150 363),(.int 6155 364),(.int 6156 365),(.int 6157 366),(.int 8203 367),(.int 8204 368),(.int 8205 369),(.int 8288 370),(.int 65279 371)]) 0),#[]⟩
noncomputable def jW1(P:Params):Obj:=⟨(.type "range"),none,(.fields (ar [(.int 65024 372),(.int 65040 373),(.int 1 374)])),#[]⟩
noncomputable def jV1(P:Params):Obj:=⟨(.type "list"),none,(.seq (ar [(.int 65024 377),(.int 65025 378),(.int 65026 379),(.int 65027 380),(.int 65028 381),(.int 65029 382),(.int 65030 383),(.int 65031 384),(.int 65032 385),(.int 65033 386),(.int 65034 387),(.int 65035 388),(.int 65036 389),(.int 65037 390),(.int 65038 391),(.int 65039 392)]) 18),#[]⟩
noncomputable def jU1(P:Params):Obj:=⟨(.type "range_iterator"),none,(.fields (ar [(.int 65040 0),(.int 0 0),(.int 1 0)])),#[]⟩
noncomputable def jT1(P:Params):Obj:=⟨(.type "StopIteration"),none,(.fields (ar [(.ref 149),.none,.none,.none,(.bool false),.none])),#[]⟩
noncomputable def jS1(P:Params):Obj:=⟨(.type "list"),none,(.seq (ar [(.int 173 361),(.int 847 362),(.int 6150 363),(.int 6155 364),(.int 6156 365),(.int 6157 366),(.int 8203 367),(.int 8204 368),(.int 8205 369),(.int 8288 370),(.int 65279 371),(.int 65024 377),(.int 65025 378),(.int 65026 379),(.int 65027 380),(.int 65028 381),(.int 65029 382),(.int 65030 383),(.int 65031 384),(.int 65032 385),(.int 65033 386),(.int 65034 387),(.int 65035 388),(.int 65036 389),(.int 65037 390),(.int 65038 391),(.int 65039 392)]) 0),#[]⟩
noncomputable def jR1(P:Params):Obj:=⟨(.type "set"),none,(.set (ar [(65024,(.int 65024 377)),(65025,(.int 65025 378)),(65026,(.int 65026 379)),(65027,(.int 65027 380)),(65028,(.int 65028 381)),(65029,(.int 65029 382)),(6150,(.int 6150 363)),(65030,(.int 65030 383)),(65031,(.int 65031 384)),(65032,(.int 65032 385)),(65033,(.int 65033 386)),(6155,(.int 6155 364)),(6156,(.int 6156 365)),(6157,(.int 6157 366)),(8203,(.int 8203 367)),(8204,(.int 8204 368)),(8205,(.int 8205 369)),(65034,(.int 65034 387)),(65035,(.int 65035 388)),(65036,(.int 65036 389)),(65037,(.int 65037 390)),(65038,(.int 65038 391)),(65039,(.int 65039 392)),(173,(.int 173 361)),(847,(.int 847 362)),(8288,(.int 8288 370)),(65279,(.int 65279 371))]) 29 ⟨127,ar [0,1,2,3,4,5,6,7,8,9,10,11,12,13,14,15,16,17,18,19,20,21,22,45,79,96,127],ar [],0,!P.followText "set-order",2,true⟩),#[]⟩
noncomputable def jQ1(P:Params):Obj:=⟨(.type "list_iterator"),none,(.fields (ar [.none,(.int 27 0)])),#[]⟩
noncomputable def jP1(P:Params):Obj:=⟨(.type "StopIteration"),none,(.fields (ar [(.ref 154),.none,.none,.none,(.bool false),.none])),#[]⟩
noncomputable def jO1(P:Params):Obj:=⟨(.type "tuple"),none,(.seq (ar [(.str (so "code") 424)]) 0),#[]⟩
noncomputable def jN1(P:Params):Obj:=⟨.none,none,(.func (dQ (stN 13))),#[]⟩
noncomputable def jM1(P:Params):Obj:=⟨(.type "code"),none,(.fields (ar [(.str (so "in_table_b1") 421),(.str (so "in_table_b1") 422),(.str (so "/claim/cut.py") 423),(.int 93 0),(.int 1 0),(.int 0 0),(.int 0 0),(.int 3 0),(.ref 156),(.bool true),(.int 181 0),(.ref 157),.none,(.ref 158),(.ref 159),(.ref 160),(.int 425 0),(.int 93 0),(.str (so "/claim/cut.py") 426)])),#[]⟩
noncomputable def jL1(P:Params):Obj:=⟨(.type "function"),none,(.func { dQ (stN 13) with globals:=3,pyModule:=(.str (so "cpy313.stringprep") 359),code:=(.ref 161) }),#[]⟩
noncomputable def jK1(P:Params):Obj:=⟨(.type "tuple"),none,(.seq (ar [(.str (so "code") 2382),(.str (so "r") 2383)]) 0),#[]⟩
noncomputable def jJ1(P:Params):Obj:=⟨.none,none,(.func (dQ (stN 15))),#[]⟩
noncomputable def jI1(P:Params):Obj:=⟨(.type "code"),none,(.fields (ar [(.str (so "map_table_b3") 2379),(.str (so "map_table_b3") 2380),(.str (so "/claim/cut.py") 2381),(.int 96 0),(.int 1 0),(.int 0 0),(.int 0 0),(.int 3 0),(.ref 202),(.bool true),(.int 181 0),(.ref 203),.none,(.ref 204),(.ref 205),(.ref 206),(.int 2384 0),(.int 96 0),(.str (so "/claim/cut.py") 2385)])),#[]⟩
noncomputable def jH1(P:Params):Obj:=⟨(.type "function"),none,(.func { dQ (stN 15) with globals:=3,pyModule:=(.str (so "cpy313.stringprep") 359),code:=(.ref 207) }),#[]⟩
noncomputable def jG1(P:Params):Obj:=⟨(.type "tuple"),none,(.seq (ar [(.str (so "kind") 2392),(.str (so "x") 2393),(.str (so "forms") 2394),(.str (so "unseen") 2395),(.str (so "typed") 2396),(.str (so "k") 2397)]) 0),#[]⟩
noncomputable def jF1(P:Params):Obj:=⟨.none,none,(.func (dQ (stN 17))),#[]⟩
noncomputable def jE1(P:Params):Obj:=⟨(.type "code"),none,(.fields (ar [(.str (so "_law_typed") 2389),(.str (so "_law_typed") 2390),(.str (so "/claim/cut.py") 2391),(.int 102 0),(.int 2 0),(.int 0 0),(.int 0 0),(.int 3 0),(.ref 209),(.bool true),(.int 181 0),(.ref 210),.none,(.ref 211),(.ref 212),(.ref 213),(.int 2398 0),(.int 102 0),(.str (so "/claim/cut.py") 2399)])),#[]⟩
noncomputable def jD1(P:Params):Obj:=⟨(.type "function"),none,(.func { dQ (stN 17) with globals:=3,pyModule:=(.str (so "law_wv0039_03") 2387),code:=(.ref 214) }),#[]⟩
noncomputable def jC1(P:Params):Obj:=⟨.none,none,(.func (dQ (stN 18))),#[]⟩
noncomputable def jB1(P:Params):Obj:=⟨(.type "code"),none,(.fields (ar [(.str (so "_law_heard") 2401),(.str (so "_law_heard") 2402),(.str (so "/claim/cut.py") 2403),(.int 110 0),(.int 3 0),(.int 0 0),(.int 0 0),(.int 3 0),(.ref 216),(.bool true),(.int 181 0),(.ref 217),.none,.none,.none,(.ref 218),(.int 2404 0),(.int 110 0),(.str (so "/claim/cut.py") 2405)])),#[]⟩
noncomputable def jA1(P:Params):Obj:=⟨(.type "function"),none,(.func { dQ (stN 18) with globals:=3,pyModule:=(.str (so "law_wv0039_03") 2387),code:=(.ref 219) }),#[]⟩
noncomputable def jz1(P:Params):Obj:=⟨.none,none,(.func (dQ (stN 19))),#[]⟩
noncomputable def jy1(P:Params):Obj:=⟨(.type "code"),none,(.fields (ar [(.str (so "_law_exchanged") 2407),(.str (so "_law_exchanged") 2408),(.str (so "/claim/cut.py") 2409),(.int 116 0),(.int 2 0),(.int 0 0),(.int 0 0),(.int 3 0),(.ref 221),(.bool true),(.int 181 0),(.ref 222),.none,.none,.none,(.ref 223),(.int 2410 0),(.int 116 0),(.str (so "/claim/cut.py") 2411)])),#[]⟩
noncomputable def jx1(P:Params):Obj:=⟨(.type "function"),none,(.func { dQ (stN 19) with globals:=3,pyModule:=(.str (so "law_wv0039_03") 2387),code:=(.ref 224) }),#[]⟩
noncomputable def jw1(P:Params):Obj:=⟨(.type "tuple"),none,(.seq (ar [(.str (so "row") 2416),(.str (so "rank") 2417)]) 0),#[]⟩
noncomputable def jv1(P:Params):Obj:=⟨.none,none,(.func (dQ (stN 20))),#[]⟩
noncomputable def ju1(P:Params):Obj:=⟨(.type "code"),none,(.fields (ar [(.str (so "_law_swapped") 2413),(.str (so "_law_swapped") 2414),(.str (so "/claim/cut.py") 2415),(.int 133 0),(.int 2 0),(.int 0 0),(.int 0 0),(.int 3 0),(.ref 226),(.bool true),(.int 181 0),(.ref 227),.none,(.ref 228),(.ref 229),(.ref 230),(.int 2418 0),(.int 133 0),(.str (so "/claim/cut.py") 2419)])),#[]⟩
noncomputable def jt1(P:Params):Obj:=⟨(.type "function"),none,(.func { dQ (stN 20) with globals:=3,pyModule:=(.str (so "law_wv0039_03") 2387),code:=(.ref 231) }),#[]⟩
noncomputable def js1(P:Params):Obj:=⟨(.type "tuple"),none,(.seq (ar [(.str (so "text") 2424),(.str (so "want") 2425),(.str (so "taken") 2426)]) 0),#[]⟩
noncomputable def jr1(P:Params):Obj:=⟨.none,none,(.func (dQ (stN 21))),#[]⟩
noncomputable def jq1(P:Params):Obj:=⟨(.type "code"),none,(.fields (ar [(.str (so "_law_falls") 2421),(.str (so "_law_falls") 2422),(.str (so "/claim/cut.py") 2423),(.int 135 0),(.int 1 0),(.int 0 0),(.int 0 0),(.int 3 0),(.ref 233),(.bool true),(.int 181 0),(.ref 234),.none,(.ref 235),(.ref 236),(.ref 237),(.int 2427 0),(.int 135 0),(.str (so "/claim/cut.py") 2428)])),#[]⟩
noncomputable def jp1(P:Params):Obj:=⟨(.type "function"),none,(.func { dQ (stN 21) with globals:=3,pyModule:=(.str (so "law_wv0039_03") 2387),code:=(.ref 238) }),#[]⟩
noncomputable def jo1(P:Params):Obj:=⟨.none,none,(.func (dQ (stN 22))),#[]⟩
noncomputable def jn1(P:Params):Obj:=⟨(.type "code"),none,(.fields (ar [(.str (so "law") 2430),(.str (so "law") 2431),(.str (so "/claim/cut.py") 2432),(.int 141 0),(.int 1 0),(.int 0 0),(.int 0 0),(.int 3 0),(.ref 240),(.bool true),(.int 181 0),(.ref 241),.none,.none,.none,(.ref 242),(.int 2433 0),(.int 141 0),(.str (so "/claim/cut.py") 2434)])),#[]⟩
noncomputable def hl1(P:Params):Obj:=⟨(.type "function"),none,(.func { dQ (stN 22) with globals:=3,pyModule:=(.str (so "law_wv0039_03") 2387),code:=(.ref 243) }),#[]⟩
noncomputable def ge1(P:Params):Obj:=⟨(.type "dict"),none,(.dict (ar [(de P "__name__" 165 (.str (so "cpy313.stringprep") 359)),(de P "__doc__" 166 .none),(de P "__package__" 167 .none),(de P "__loader__" 168 (.builtin "__main__.__loader__#opaque")),(de P "__spec__" 169 .none),(de P "__annotations__" 170 (.ref 6)),(de P "__builtins__" 171 (.ref 4)),(de P "__file__" 173 (.str (so "/claim/cut.py") 172)),(de P "__cached__" 174 .none),(de P "_wall" 193 (.ref 21)),(de P "EMPTYSTRING" 197 (.str (so "") 196)),(de P "_Accumulator" 293 (.ref 101)),(de P "ELLIPSIS_MARKER" 297 (.str (so "...") 296)),(de P "_ellipsis_match" 309 (.ref 112)),(de P "Error" 331 (.ref 122)),(de P "error_reply" 347 (.ref 135)),(de P "parse257" 358 (.ref 144)),(de P "b1_set" 420 (.ref 152))]) 18),#[]⟩
noncomputable def dA1(P:Params):Obj:=⟨.none,none,(.fields (ar [(.int 1 0),(.int 0 0),(.ref 20),(.int 6 0),(.int 0 0),(.ref 28),(.int 41 0),(.int 0 0),(.ref 111),(.int 70 0),(.int 0 0),(.ref 118),(.int 72 0),(.int 0 0),(.ref 131),(.int 74 0),(.int 0 0),(.ref 143)])),#[]⟩
noncomputable def gd1(P:Params):Obj:=⟨(.type "dict"),none,(.dict (ar [(de P "__name__" 165 (.str (so "cpy313.stringprep") 359)),(de P "__doc__" 166 .none),(de P "__package__" 167 .none),(de P "__loader__" 168 (.builtin "__main__.__loader__#opaque")),(de P "__spec__" 169 .none),(de P "__annotations__" 170 (.ref 6)),(de P "__builtins__" 171 (.ref 4)),(de P "__file__" 173 (.str (so "/claim/cut.py") 172)),(de P "__cached__" 174 .none),(de P "_wall" 193 (.ref 21)),(de P "EMPTYSTRING" 197 (.str (so "") 196)),(de P "_Accumulator" 293 (.ref 101)),(de P "ELLIPSIS_MARKER" 297 (.str (so "...") 296)),(de P "_ellipsis_match" 309 (.ref 112)),(de P "Error" 331 (.ref 122)),(de P "error_reply" 347 (.ref 135)),(de P "parse257" 358 (.ref 144)),(de P "b1_set" 420 (.ref 152)),(de P "in_table_b1" 427 (.ref 162))]) 19),#[]⟩
noncomputable def dz1(P:Params):Obj:=⟨.none,none,(.fields (ar [(.int 1 0),(.int 0 0),(.ref 20),(.int 6 0),(.int 0 0),(.ref 28),(.int 41 0),(.int 0 0),(.ref 111),(.int 70 0),(.int 0 0),(.ref 118),(.int 72 0),(.int 0 0),(.ref 131),(.int 74 0),(.int 0 0),(.ref 143),(.int 93 0),(.int 0 0),(.ref 161)])),#[]⟩
noncomputable def gc1(P:Params):Obj:=⟨(.type "dict"),none,(.dict (ar [(de P "__name__" 165 (.str (so "cpy313.stringprep") 359)),(de P "__doc__" 166 .none),(de P "__package__" 167 .none),(de P "__loader__" 168 (.builtin "__main__.__loader__#opaque")),(de P "__spec__" 169 .none),(de P "__annotations__" 170 (.ref 6)),(de P "__builtins__" 171 (.ref 4)),(de P "__file__" 173 (.str (so "/claim/cut.py") 172)),(de P "__cached__" 174 .none),(de P "_wall" 193 (.ref 21)),(de P "EMPTYSTRING" 197 (.str (so "") 196)),(de P "_Accumulator" 293 (.ref 101)),(de P "ELLIPSIS_MARKER" 297 (.str (so "...") 296)),(de P "_ellipsis_match" 309 (.ref 112)),(de P "Error" 331 (.ref 122)),(de P "error_reply" 347 (.ref 135)),(de P "parse257" 358 (.ref 144)),(de P "b1_set" 420 (.ref 152)),(de P "in_table_b1" 427 (.ref 162)),(de P "b3_exceptions" 2378 (.ref 163))]) 20),#[]⟩
noncomputable def dy1(P:Params):Obj:=⟨.none,none,(.fields (ar [(.int 1 0),(.int 0 0),(.ref 20),(.int 6 0),(.int 0 0),(.ref 28),(.int 41 0),(.int 0 0),(.ref 111),(.int 70 0),(.int 0 0),(.ref 118),(.int 72 0),(.int 0 0),(.ref 131),(.int 74 0),(.int 0 0),(.ref 143),(.int 93 0),(.int 0 0),(.ref 161)])),#[]⟩
noncomputable def gb1(P:Params):Obj:=⟨(.type "dict"),none,(.dict (ar [(de P "__name__" 165 (.str (so "law_wv0039_03") 2387)),(de P "__doc__" 166 .none),(de P "__package__" 167 .none),(de P "__loader__" 168 (.builtin "__main__.__loader__#opaque")),(de P "__spec__" 169 .none),(de P "__annotations__" 170 (.ref 6)),(de P "__builtins__" 171 (.ref 4)),(de P "__file__" 173 (.str (so "/claim/cut.py") 172)),(de P "__cached__" 174 .none),(de P "_wall" 193 (.ref 21)),(de P "EMPTYSTRING" 197 (.str (so "") 196)),(de P "_Accumulator" 293 (.ref 101)),(de P "ELLIPSIS_MARKER" 297 (.str (so "...") 296)),(de P "_ellipsis_match" 309 (.ref 112)),(de P "Error" 331 (.ref 122)),(de P "error_reply" 347 (.ref 135)),(de P "parse257" 358 (.ref 144)),(de P "b1_set" 420 (.ref 152)),(de P "in_table_b1" 427 (.ref 162)),(de P "b3_exceptions" 2378 (.ref 163)),(de P "map_table_b3" 2386 (.ref 208)),(de P "_law_typed" 2400 (.ref 215)),(de P "_law_heard" 2406 (.ref 220)),(de P "_law_exchanged" 2412 (.ref 225)),(de P "_law_swapped" 2420 (.ref 232)),(de P "_law_falls" 2429 (.ref 239)),(de P "law" 2435 (.ref 244))]) 27),#[]⟩
noncomputable def dx1(P:Params):Obj:=⟨.none,none,(.fields (ar [(.int 1 0),(.int 0 0),(.ref 20),(.int 6 0),(.int 0 0),(.ref 28),(.int 41 0),(.int 0 0),(.ref 111),(.int 70 0),(.int 0 0),(.ref 118),(.int 72 0),(.int 0 0),(.ref 131),(.int 74 0),(.int 0 0),(.ref 143),(.int 93 0),(.int 0 0),(.ref 161),(.int 96 0),(.int 0 0),(.ref 207),(.int 102 0),(.int 0 0),(.ref 214),(.int 110 0),(.int 0 0),(.ref 219),(.int 116 0),(.int 0 0),(.ref 224),(.int 133 0),(.int 0 0),(.ref 231),(.int 135 0),(.int 0 0),(.ref 238),(.int 141 0),(.int 0 0),(.ref 243)])),#[]⟩
noncomputable def b3:List (Int × Str):=kE1 (us (stN 14)).a
noncomputable def bs1(l:List (Nat × Obj))(t:BT):BT:=l.foldl (fun t x=>t.ins x.1 x.2) t
noncomputable def xR(t:BT)(a b:Obj):BT:=(t.set 3 fun _=>a).set 12 fun _=>b
noncomputable def s9:Env:={ scope:=prg.main.scope,locals:=mainNs,globals:=mainNs,cells:=[],code:=.ref 13,frame:=some 14 }
noncomputable def trb(P:Params):BT:=bs1 [(0,boot_o_0 P),(1,boot_o_1 P),(2,boot_o_2 P),(3,boot_o_3 P),(4,boot_o_4 P),(5,boot_o_5 P),(6,boot_o_6 P),(7,boot_o_7 P),(8,boot_o_8 P),(9,boot_o_9 P),(10,boot_o_10 P),(11,e0),(12,e1),(13,b13 P),(14,b14 P)] .nil
noncomputable def tr0(P:Params):BT:=bs1 [(15,e0),(16,e1),(17,n17 P),(18,e0),(19,n19 P),(20,n20 P),(21,n21 P),(22,n22 P),(23,e2),(24,n24 P),(25,n25 P),(26,e0),(27,n27 P),(28,n28 P),(29,n29 P),(30,n30 P),(31,e3),(32,n32 P),(33,e1),(34,n34 P),(35,e0),(36,n36 P),(37,n37 P),(38,n38 P),(39,e0),(40,e1),(41,n41 P),(42,e0),(43,n43 P),(44,n44 P),(45,n45 P),(46,n46 P),(47,e0),(48,e1),(49,n49 P),(50,e0),(51,n51 P),(52,n52 P),(53,n53 P),(54,e3),(55,n55 P),(56,e1),(57,n57 P),(58,e0),(59,n59 P),(60,n60 P),(61,n61 P),(62,e0),(63,e1),(64,n64 P),(65,e0),(66,n66 P),(67,n67 P),(68,n68 P),(69,e0),(70,e1),(71,n71 P),(72,e0),(73,n73 P),(74,n74 P),(75,n75 P),(76,n76 P),(77,e0),(78,e1),(79,n79 P),(80,e0),(81,n81 P),(82,n82 P),(83,n83 P),(84,e0),(85,e1),(86,n86 P),(87,e0),(88,n88 P),(89,n89 P),(90,n90 P),(91,e3),(92,n92 P),(93,e1),(94,n94 P),(95,e0),(96,n96 P),(97,n97 P),(98,n98 P),(99,n99 P),(100,ks1 P),(101,kr1 P),(102,kq1 P),(103,kp1 P),(104,ko1 P),(105,kn1 P),(106,e0),(107,e1),(108,km1 P),(109,e0),(110,kl1 P),(111,kk1 P),(112,kj1 P),(113,ki1 P),(114,e2),(115,kh1 P),(116,e0),(117,e1),(118,kg1 P),(119,kf1 P),(120,e0),(121,ke1 P),(122,kd1 P),(123,kc1 P),(124,kb1 P),(125,ka1 P),(126,j91 P),(127,e2),(128,j81 P),(129,e0),(130,e1),(131,j71 P),(132,j61 P),(133,e0),(134,j51 P),(135,j41 P),(136,j31 P),(137,j21 P),(138,e0),(139,e1),(140,j11 P),(141,e0),(142,j01 P),(143,jZ1 P),(144,jY1 P)] (((((trb P).set 2 fun _=>gg1 P).set 3 fun _=>gf1 P).set 12 fun _=>dB1 P))
noncomputable def tr1(P:Params):BT:=bs1 [(145,jX1 P),(146,jW1 P),(147,jV1 P),(148,jU1 P),(149,e0),(150,jT1 P),(151,jS1 P),(152,jR1 P),(153,jQ1 P),(154,e0),(155,jP1 P)] (xR (tr0 P) (ge1 P) (dA1 P))
noncomputable def tr2(P:Params):BT:=bs1 [(156,e0),(157,e1),(158,jO1 P),(159,e0),(160,jN1 P),(161,jM1 P),(162,jL1 P)] (xR (tr1 P) (gd1 P) (dz1 P))
noncomputable def q0:Pos:=⟨0,0,0,0⟩
noncomputable def shT(t:BT)(n k:Nat)(os:OsState):SharedT:={ tree:=t,n:=n,life:={ },gens:={ toList:=[] },drawn:={ },toks:=k,os:=os }
noncomputable def Sb(w:World)(os:OsState):SharedT:=shT (trb w.params) 15 187 os
noncomputable def T0(w:World)(os:OsState):SharedT:=shT (tr0 w.params) 145 361 os
noncomputable def T1(w:World)(os:OsState):SharedT:=shT (tr1 w.params) 156 421 os
noncomputable def T2(w:World)(os:OsState):SharedT:=shT (tr2 w.params) 163 428 os
noncomputable abbrev cdB(b:List Stmt):Code:=Code.body b s9
theorem p0(p:Program)(b:List Stmt)(w:World)(os:OsState) :
  segRunT treeTable p w 11 (some (Value.ref 6)) 1 1300 (Sb w os) (piecesOf [stN 0,stN 1,stN 2,stN 3,stN 4,stN 5,stN 6,stN 7,stN 8,stN 9,stN 10,stN 11] s9 (cdB b) q0 [topFrame q0])=some (.next,T0 w os,cdB b,⟨91,0,91,8⟩):=by
 rw [PySem.W.Fast.te10110043849684766642,PySem.W.Fast.te14364793385576792824]
 kernel_rfl!
noncomputable def P1(w:World):Prop:=∀ (p:Program) (b:List Stmt) (os:OsState),
  segRunT treeTable p w 11 (some (Value.ref 6)) 1 999 (T0 w os) (piecesOf [stN 12] s9 (cdB b) ⟨91,0,91,8⟩ [topFrame q0])=some (.next,T1 w os,cdB b,⟨92,0,92,6⟩)
theorem p1:∀ w,P1 w:=byRow2 "set-order" (byRow2 "special-get-raises" (fun w p b os=>by
  rw [PySem.W.Fast.te10110043849684766642,PySem.W.Fast.te14364793385576792824];kernel_rfl!) (fun w p b os=>by
  rw [PySem.W.Fast.te10110043849684766642,PySem.W.Fast.te14364793385576792824];kernel_rfl!)) (byRow2 "special-get-raises" (fun w p b os=>by
  rw [PySem.W.Fast.te10110043849684766642,PySem.W.Fast.te14364793385576792824];kernel_rfl!) (fun w p b os=>by
  rw [PySem.W.Fast.te10110043849684766642,PySem.W.Fast.te14364793385576792824];kernel_rfl!))
theorem p2(p:Program)(b:List Stmt)(w:World)(os:OsState) :
  segRunT treeTable p w 11 (some (Value.ref 6)) 1 31 (T1 w os) (piecesOf [stN 13] s9 (cdB b) ⟨92,0,92,6⟩ [topFrame q0])=some (.next,T2 w os,cdB b,⟨93,0,94,30⟩):=by
 rw [PySem.W.Fast.te10110043849684766642,PySem.W.Fast.te14364793385576792824]
 kernel_rfl!
noncomputable def v1(st:Stmt):Pos:=(un (us st).a).p
noncomputable def ey1(st:Stmt):Pos:=(us st).p
noncomputable def jm1(st:Stmt):Pos:=(un ((us st).l.headD e00)).p
noncomputable abbrev gt(env:Env):Value->Sem Flow:=fun v=>standAt (jm1 (stN 14)) >>= fun _=>bindName env (so "b3_exceptions") v >>= fun _=>pure .next
theorem e14:exec (stN 14) s9=(standAt (ey1 (stN 14)) >>= fun _=>(standAt (v1 (stN 14)) >>= fun _=>dictDisplay (opt (prT (v1 (stN 14)) b3))) >>= gt s9):=by kernel_rfl!
theorem rU:b3.length=17 * (37 + 1) + 4:=by decide +kernel
theorem a31:GoodKeys b3:=by
 constructor
 ·have h:(b3.map (·.1)).Pairwise (· < ·):=by
   have:(List.range 649).all (fun i=>decide ((b3.map (·.1)).getD i 0 < (b3.map (·.1)).getD (i + 1) 0))=true:=by decide +kernel
   rw [List.pairwise_iff_getElem]
   have key:∀ j i,i < j->∀ hj:j < 650,(b3.map (·.1)).getD i 0 < (b3.map (·.1)).getD j 0:=by
    intro j
    induction j with
    | zero=>intro i hi;omega
    | succ j ih =>
     intro i hi hj
     have st:=of_decide_eq_true (List.all_eq_true.mp this j (List.mem_range.mpr (by omega)))
     rcases Nat.lt_or_ge i j with q | q
     ·exact Int.lt_trans (ih i q (by omega)) st
     ·obtain rfl:i=j:=by omega
      exact st
   intro i j hi hj hij
   have hl:(b3.map (·.1)).length=650:=by rw [List.length_map,rU]
   have:=key j i hij (by omega)
   simp only [List.getD_eq_getElem?_getD,List.getElem?_eq_getElem hi,List.getElem?_eq_getElem hj,Option.getD_some] at this
   exact this
  exact h.imp (fun h=>Int.ne_of_lt h)
 ·have:b3.all (fun x=>decide (0<=x.1) && decide (x.1 < 2 ^ 60))=true:=by decide +kernel
  intro x hx
  have:=List.all_eq_true.mp this x hx
  simpa using this
noncomputable def aL1:List Obj:=dD1 428 37 (b3.take 17) (b3.drop 17) []
noncomputable def gX1(P:Params):BT:=bs1 ((List.range' 163 39).zip aL1) (tr2 P)
noncomputable def T2b(w:World)(os:OsState):SharedT:=shT (gX1 w.params) 202 2378 os
noncomputable def tr3(P:Params):BT:=xR (gX1 P) (gc1 P) (dy1 P)
noncomputable def T3(w:World)(os:OsState):SharedT:=shT (tr3 w.params) 202 2379 os
theorem ds1(w:World)(os:OsState):hx (T2 w os).abs.heap aL1=(T2b w os).abs.heap:=by kernel_rfl!
theorem cS1(p:Program)(b:List Stmt)(w:World)(os:OsState) :
  segRunT treeTable p w 11 (some (Value.ref 6)) 1 12 (T2b w os) ⟨(gt s9 (.ref 163)).wrap doneF deadEnd id id,cdB b,v1 (stN 14),[topFrame q0]⟩=some (.next,T3 w os,cdB b,⟨95,0,95,13⟩):=by
 rw [PySem.W.Fast.te10110043849684766642,PySem.W.Fast.te14364793385576792824]
 kernel_rfl!
theorem p3(p:Program)(b:List Stmt)(w:World)(os:OsState):∃ n,segRun treeTable p w 11 (some (Value.ref 6)) 1 n (T2 w os).abs (pieceOf (stN 14) s9 (cdB b) ⟨93,0,94,30⟩ [topFrame q0]) =
  some (.next,(T3 w os).abs,cdB b,⟨95,0,95,13⟩):=by
 have sz:(T2 w os).abs.heap.objs.size=163:=absHeap_size _ _ _
 have Y:Yld p w 11 (some (Value.ref 6)) q0 (standAt (ey1 (stN 14)) >>= fun _=>(standAt (v1 (stN 14)) >>= fun _=>dictDisplay (opt (prT (v1 (stN 14)) b3)))) ⟨93,0,94,30⟩ (T2 w os).abs (.ref 163) (v1 (stN 14)) (T2b w os).abs:=by
  refine am jS (am jS ?_)
  have:=mL (p:=p) (w:=w) (n₀:=11) (ann:=some (Value.ref 6)) (q:=q0) (s:=(T2 w os).abs) (pd:=v1 (stN 14)) (hb:=(T2 w os).abs.heap) (by rw [sz];decide) (by rw [sz];decide) 428 37 b3 rU a31 (by rw [rU];decide)
  rw [rU,sz] at this
  have e:=ds1 w os
  unfold aL1 at e
  rw [e] at this
  exact this
 obtain ⟨n,hn⟩:=Y (fun a=>(gt s9 a).wrap doneF deadEnd id id) deadEnd id id (cdB b)
 refine ⟨n + 12,seg_go ?_ (segRun_of (cS1 p b w os))⟩
 unfold pieceOf
 rw [e14]
 have e:((standAt (ey1 (stN 14)) >>= fun _=>(standAt (v1 (stN 14)) >>= fun _=>dictDisplay (opt (prT (v1 (stN 14)) b3))) >>= gt s9):Sem Flow) =
   (standAt (ey1 (stN 14)) >>= fun _=>(standAt (v1 (stN 14)) >>= fun _=>dictDisplay (opt (prT (v1 (stN 14)) b3)))) >>= gt s9:=by
  simp only [bind_assoc]
 rw [e,Sem.bind_eq_wrap',Sem.wrap_wrap]
 exact hn
noncomputable def tr4(P:Params):BT:=bs1 [(202,e0),(203,e1),(204,jK1 P),(205,e0),(206,jJ1 P),(207,jI1 P),(208,jH1 P),(209,e0),(210,e1),(211,jG1 P),(212,e0),(213,jF1 P),(214,jE1 P),(215,jD1 P),(216,e0),(217,e1),(218,jC1 P),(219,jB1 P),(220,jA1 P),(221,e0),(222,e1),(223,jz1 P),(224,jy1 P),(225,jx1 P),(226,e0),(227,e1),(228,jw1 P),(229,e0),(230,jv1 P),(231,ju1 P),(232,jt1 P),(233,e0),(234,e1),(235,js1 P),(236,e0),(237,jr1 P),(238,jq1 P),(239,jp1 P),(240,e0),(241,e1),(242,jo1 P),(243,jn1 P),(244,hl1 P)] (xR (tr3 P) (gb1 P) (dx1 P))
noncomputable def T4(w:World)(os:OsState):SharedT:=shT (tr4 w.params) 245 2436 os
theorem p4(p:Program)(b:List Stmt)(w:World)(os:OsState) :
  segRunT treeTable p w 11 (some (Value.ref 6)) 1 300 (T3 w os) (piecesOf [stN 15,stN 16,stN 17,stN 18,stN 19,stN 20,stN 21,stN 22] s9 (cdB b) ⟨95,0,95,13⟩ [topFrame q0])=some (.next,T4 w os,cdB b,⟨141,0,174,15⟩):=by
 rw [PySem.W.Fast.te10110043849684766642,PySem.W.Fast.te14364793385576792824]
 kernel_rfl!
noncomputable abbrev bd:List Stmt:=behindTheImports prg
noncomputable def S0(w:World)(os:OsState):Shared:=⟨boot_heap w.params,Array.mk [],boot_drawn,boot_toks,os⟩
theorem pre(w:World)(os:OsState):topGo treeTable prg w 11 (some (Value.ref 6)) 12 (S0 w os) (topStub prg)=some ((Sb w os).abs,⟨denote treeTable (cdB bd),cdB bd,q0,[topFrame q0]⟩):=by
 kernel_rfl!
theorem blk(w:World)(os:OsState):segRun treeTable prg w 11 (some (Value.ref 6)) 1 1 (Sb w os).abs (blockOf bd s9 (cdB bd) q0 [topFrame q0])=some (.next,(Sb w os).abs,cdB bd,q0):=by
 kernel_rfl!
theorem d11:[stN 0,stN 1,stN 2,stN 3,stN 4,stN 5,stN 6,stN 7,stN 8,stN 9,stN 10,stN 11]++([stN 12]++([stN 13]++(stN 14::([stN 15,stN 16,stN 17,stN 18,stN 19,stN 20,stN 21,stN 22]++[]))))=bd:=by kernel_rfl!
noncomputable def S4(w:World)(os:OsState):Shared:=(T4 w os).abs
theorem fin(w:World)(os:OsState):topRun treeTable prg w 11 (some (Value.ref 6)) 5 (T4 w os).abs ⟨doneF .next,cdB bd,⟨141,0,174,15⟩,[topFrame q0]⟩=some (S4 w os):=by
 kernel_rfl!
theorem bL1(w:World)(os:OsState):∃ n,topRun treeTable prg w 11 (some (Value.ref 6)) n (S0 w os) (topStub prg)=some (S4 w os):=by
 have k4:=piece_app (rest:=[]) (segRun_of (p4 prg bd w os)) (piece_nil (fin w os))
 obtain ⟨n3,h3⟩:=p3 prg bd w os
 have k3:=piece_cons h3 k4
 have k2:=piece_app (segRun_of (p2 prg bd w os)) k3
 have k1:=piece_app (segRun_of (p1 w prg bd os)) k2
 have k0:=piece_app (segRun_of (p0 prg bd w os)) k1
 rw [d11] at k0
 have kb:=piece_block (blk w os) k0
 exact ⟨_,go_top (pre w os) kb⟩
open PySem PySem.W PySem.Calls PyProof.Rows
set_option maxHeartbeats 0
abbrev rw3:OpenLaw:=PySem.Challenge.rw_wv0039_03
theorem uP:opening prg=plainProg prg.main.scope.names:=by kernel_rfl!
theorem aC1(s:Shared):fenceModules? prg s=some s:=by kernel_rfl!
theorem dj1:importedModules prg.main.body=[]:=by kernel_rfl!
noncomputable abbrev Hh(P:Params):Heap:=absHeap (tr4 P) 245 {}
theorem gL1(w:World)(os:OsState):S4 w os=⟨Hh w.params,⟨[]⟩,{},2436,os⟩:=by kernel_rfl!
theorem eU1(w:World)(os:OsState):(S4 w os).heap=Hh w.params:=by kernel_rfl!
theorem hM1(w:World)(os:OsState):(S4 w os).gens=⟨[]⟩:=by kernel_rfl!
theorem wp(w:World)(os:OsState):(S4 w os).asleep:=⟨by kernel_rfl!,by kernel_rfl!⟩
theorem sW(w:World)(os:OsState):gensDone (S4 w os)=true:=by kernel_rfl!
theorem c1(P:Params):staticsOk [] (boot_heap P) (Hh P)=true:=by kernel_rfl!
theorem c2(P:Params):namesBound prg (Hh P)=true:=by kernel_rfl!
theorem c4(P:Params):laidKept (boot_heap P) (Hh P)=true:=by kernel_rfl!
theorem c5(P:Params):(Hh P).accountedOkI []=true:=by kernel_rfl!
theorem c6(P:Params):(Hh P).isNs mainGlobals=true:=by kernel_rfl!
theorem c7(P:Params):(Hh P).isNs builtinsNs=true:=by kernel_rfl!
theorem c8(P:Params):(Hh P).bltView=bltViewBooted:=by kernel_rfl!
theorem c9(P:Params):(Hh P).bmainOk=true:=by kernel_rfl!
theorem wq(w:World)(os:OsState):(S0 w os).asleep:=⟨by kernel_rfl!,by kernel_rfl!⟩
theorem wa(w:World):(∃ s,AfterRun (opening prg) w s)/\∀ s,AfterRun (opening prg) w s->∃ s₀,fenceModules? prg s=some s₀/\s₀.gens=#[]/\∃ os,TopRan prg w s₀ (S4 w os):=by
 have h:=boot_open (p:=prg) (N:=600) uP rfl aC1 w
 rw [← table_eq_tree] at h
 obtain ⟨s₀,h2,h3⟩:=Option.map_eq_some_iff.mp h
 obtain ⟨s,h4,h5⟩:=Option.bind_eq_some_iff.mp h2
 have A:=AfterImport.of_importEnds h4
 refine ⟨⟨s,A⟩,fun s' hs'=>?_⟩
 obtain rfl:s'=s:=AfterImport.unique hs' A
 obtain ⟨hp,gs,dr,tk,os⟩:=s₀
 obtain ⟨e1,e2,e3,e4⟩:hp=boot_heap w.params/\gs=Array.mk []/\dr=boot_drawn/\tk=boot_toks:=by simpa using h3
 subst e1 e2 e3 e4
 refine ⟨_,h5,rfl,os,?_⟩
 obtain ⟨n,hr⟩:=bL1 w os
 rw [← table_eq_tree] at hr
 obtain ⟨a,l,o,fr⟩:=topRun_spec n _ _ _ (wq w os) hr
 have hheap:=eU1 w os
 have hg:=c6 w.params
 have hg0:(boot_heap w.params).isNs mainGlobals=true:=by kernel_rfl!
 refine ⟨a,l,Shared.rest_eq o,fun b ob hb hn=>fr b ob ?_ (fun q=>hn (.inl q)) (fun q=>hn (.inr (.inl q))) (fun q=>hn (.inr (.inr ((Pin.globalOf_eq hg0 _).trans ?_)))) hb,?_,?_,?_,?_,?_,gens_of_done (sW w os),?_,?_⟩
 ·have:=Heap.lt_size hb
  have e:(boot_heap w.params).objs.size=11:=by kernel_rfl!
  exact e ▸ this
 ·have e:(boot_heap w.params).nsMap mainGlobals "__annotations__"=some (.ref 6):=by kernel_rfl!
  exact e.trans q
 ·rw [hheap,dj1];exact Heap.accountedI_of_ok (c5 _)
 ·rw [hheap,dj1];exact statics_of_ok (c1 _)
 ·rw [hheap];exact Pin.keysAreStrs_of hg
 ·rw [hheap];exact fun x hx=>(Pin.builtinOf_eq (c7 _) x).trans (Heap.of_bltView (c7 _) (c8 _) x hx)
 ·rw [hheap]
  obtain ⟨bm,ob,a,_,c,d,f,_⟩:=Heap.bmainOk_spec (c9 w.params)
  exact ⟨bm,ob,(Pin.globalOf_eq hg _).trans a,c,d,f⟩
 ·rw [hheap];exact names_of_bound (c2 _)
 ·rw [hheap];exact laid_of_kept (c4 _)
inductive Ints:List Value->List Int->Prop
 | nil:Ints [] []
 | cons {i:Int} {t:Tok} {vs:List Value} {ns:List Int}:Ints vs ns->Ints (.int i t::vs) (i::ns)
noncomputable def gI1(prog:Program)(H:Params->Heap)(fa:Addr):Prop :=
 ∀ (w:World) (ao:Shared) (l:Addr) (o:Obj) (vs:Array Value) (n:Nat) (ns:List Int),
  (∀ b o,(H w.params).get? b=some o->ao.heap.get? b=some o)->ao.gens=#[]->0 < ao.toks->ao.heap.get? l=some o->o.cls=.type "list"->o.data=.seq vs n ->
  Ints vs.toList ns->ns.length<=63->WData.layableAll [.list (ns.map .int)]=true->(H w.params).objs.size<=l ->
  wpAny (model prog w) callerA (PySem.call (.ref fa) [.ref l])
   (fun v s'=>v=.bool true/\(∀ b o,ao.heap.get? b=some o->s'.heap.get? b=some o)/\s'.os=ao.os/\AllBare s'.gens) (fun _ _=>False) ao
theorem gt1(P:Params):isTheDefsW prg (Hh P) "law" :=
 ⟨244,hl1 P,gh1 (stN 22) (.ref 243) (.str (so "law_wv0039_03") 2387),ed1 (stN 22),ax (stN 22),af (stN 22),(Pin.globalOf_eq (c6 P) _).trans (by kernel_rfl!),by kernel_rfl!,by kernel_rfl!,by kernel_rfl!,by kernel_rfl!,
  by kernel_rfl!,by kernel_rfl!,by kernel_rfl!,by kernel_rfl!,by kernel_rfl!,by kernel_rfl!,by kernel_rfl!,.inl ⟨by kernel_rfl!,by kernel_rfl!⟩,[],by kernel_rfl!,.inl ⟨rfl,by kernel_rfl!⟩⟩
noncomputable def k21(R:WRecords)(cl:Str->Option Addr)(h:Heap)(v:Value):WData->List Addr->Prop
 | .int i,_=>∃ t,v=.int i t
 | .list xs,as=>∃ a o vs n as',v=.ref a/\as=a::as'/\h.get? a=some o/\o.cls=.type "list"/\o.data=.seq vs n/\ReadsAllW R cl h vs.toList xs as'
 | _,_=>True
theorem hB1{R:WRecords}{cl:Str->Option Addr}{h:Heap}{v:Value}{d:WData}{as:List Addr}(H:ReadsW R cl h v d as):k21 R cl h v d as:=by
 cases H with
 | int i t=>exact ⟨t,rfl⟩
 | list ho hc hd hi=>exact ⟨_,_,_,_,_,rfl,rfl,ho,hc,hd,hi⟩
 | _=>trivial
theorem ru{R:WRecords}{cl:Str->Option Addr}{h:Heap}{vs:List Value}{d:WData}{ds:List WData}{as:List Addr}{Q:Prop}(H:ReadsAllW R cl h vs (d::ds) as)
  (k:∀ v vs' a b,vs=v::vs'->as=a++b->ReadsW R cl h v d a->ReadsAllW R cl h vs' ds b->Q):Q:=by
 cases H with | cons hv hr=>exact k _ _ _ _ rfl rfl hv hr
theorem vo{R:WRecords}{cl:Str->Option Addr}{h:Heap}{vs:List Value}{as:List Addr}(H:ReadsAllW R cl h vs [] as):vs=[]:=by cases H;rfl
theorem hC1{R:WRecords}(x:WData):(WShape.has R x .int=true->∃ i,x=.int i)/\(WShape.has R x (.list .int)=true->∃ xs,x=.list xs/\WShape.hasItems R xs .int=true):=by
 cases x with
 | int i=>exact ⟨fun _=>⟨i,rfl⟩,fun h=>ftr h⟩
 | list xs=>exact ⟨fun h=>ftr h,fun h=>⟨xs,rfl,(Bool.or_eq_true_iff.mp h).elim id ftr⟩⟩
 | _=>exact ⟨fun h=>ftr h,fun h=>ftr h⟩
theorem vp{R:WRecords}{cl:Str->Option Addr}{h:Heap}:∀ {xs:List WData} {vs:List Value} {as:List Addr},ReadsAllW R cl h vs xs as->WShape.hasItems R xs .int=true->∃ ns,xs=ns.map WData.int/\Ints vs ns
 | [],vs,as,H,_=>⟨[],rfl,vo H ▸ .nil⟩
 | x::xs,vs,as,H,hs=>by
  obtain ⟨i,rfl⟩:=(hC1 x).1 (ap hs).1
  refine ru H fun v vs' a b e _ hv hr=>?_
  obtain ⟨ns,e2,hI⟩:=vp hr (ap hs).2
  obtain ⟨t,e3⟩:=hB1 hv
  subst e2 e e3
  exact ⟨i::ns,rfl,.cons hI⟩
theorem a91{R:WRecords}{cl:Str->Option Addr}{h:Heap}{args:List WData}{vs:List Value}{as:List Addr}{Q:Prop}(hs:WShape.hasAll R args [.list .int]=true)(H:ReadsAllW R cl h vs args as)
  (k:∀ ns l o va n,args=[.list (List.map .int ns)]->vs=[.ref l]->l∈as->h.get? l=some o->o.cls=.type "list"->o.data=.seq va n->Ints va.toList ns->Q):Q:=by
 match args,hs,H with
 | [],hs,_=>exact ftr hs
 | x::y::r,hs,_=>exact ftr (ap hs).2
 | [x],hs,H =>
  obtain ⟨xs,rfl,hi⟩:=(hC1 x).2 (ap hs).1
  refine ru H fun v vs' a b e1 e2 hv hr=>g61 (hB1 hv) fun l o va n as' e3 e4 ho hc hd hI=>aO (vp hI hi) fun ns e5 hN=>?_
  exact k ns l o va n (congrArg (fun z=>[WData.list z]) e5) (e1.trans (e3 ▸ vo hr ▸ rfl)) (e2 ▸ List.mem_append_left _ (e4 ▸ List.mem_cons_self)) ho hc hd hN
theorem zO{R:WRecords}{ns:List Int}(h:WTm.holds R (.and (.not (.lt (.lit (.int 63)) (.len (.arg 0)))) (.lit (.bool true))) { args:=[WData.list (ns.map WData.int)] }=true):ns.length<=63:=by
 rcases Nat.lt_or_ge 63 ns.length with q | q
 ·have hq:decide ((63:Int) < ((ns.map WData.int).length:Nat))=true:=by rw [List.length_map];exact decide_eq_true (by exact Int.ofNat_le.mpr ‹_›)
  have hl:less? (WData.int 63) (WData.int ((ns.map WData.int).length:Nat))=some true:=congrArg some hq
  have e:WTm.value R (.and (.not (.lt (.lit (.int 63)) (.len (.arg 0)))) (.lit (.bool true))) { args:=[WData.list (ns.map WData.int)] }=some (.bool false):=by
   simp only [WTm.value,List.getElem?_cons_zero,hl,Option.map_some,Bool.not_true]
  unfold WTm.holds at h
  rw [e] at h
  exact ftr h
 ·exact q
theorem gA1(walk:gI1 prg Hh 244){w:World}{os:OsState}{args:List WData}{vs:List Value}{as:List Addr}{ao:Shared}{Q:Fin->Shared->Prop}{E:Value->Shared->Prop}{R:WRecords}
  (hs:WShape.hasAll R args [.list .int]=true) (hp:WTm.holds R (.and (.not (.lt (.lit (.int 63)) (.len (.arg 0)))) (.lit (.bool true))) { args:=args }=true) (hlay:WData.layableAll args=true)
  (H:ReadsAllW R (classAt (S4 w os).heap) ao.heap vs args as) (hin:∀ a∈as,(Hh w.params).objs.size<=a) (keeps:∀ b o,(Hh w.params).get? b=some o->ao.heap.get? b=some o) (hg:ao.gens=#[]) (ht:0 < ao.toks)
  (k:∀ s',(∀ b o,ao.heap.get? b=some o->s'.heap.get? b=some o)->s'.os=ao.os->AllBare s'.gens->Q (.done (.ret (.bool true))) s') :
  wpAny (model prg w) callerA (do match ← nsGet mainNs "law" with
    | some f=>do ret (← PySem.call f vs)
    | none=>unsupported "claim.caller:no-such-global") Q E ao:=by
 refine a91 hs H fun ns l o va n e1 e2 hl ho hc hd hI=>?_
 subst e1 e2
 refine wpAny_bind (wpAny_nsGet ((Heap.Ns.of_isNs (c6 w.params)).keeps keeps) ?_)
 rw [show (Hh w.params).nsMap mainGlobals "law"=some (.ref 244) by kernel_rfl!]
 refine wpAny_bind (wpAny_mono (walk w ao l o va n ns keeps hg ht ho hc hd hI (zO hp) hlay (hin l hl)) (fun v s' q=>wpAny_pure ?_) fun _ _ x=>x.elim)
 rw [q.1]
 exact k s' q.2.1 q.2.2.1 q.2.2.2
theorem ga1{w:World}{os:OsState}{args:List WData}{ao s':Shared}(k1:∀ b o,ao.heap.get? b=some o->s'.heap.get? b=some o)(k2:s'.os=ao.os)(k3:AllBare s'.gens) :
  GoodWG rw3.row.claim (classAt (S4 w os).heap) (ExcName.means (S4 w os).heap) args ao (.ok (.ret (.bool true))) s' :=
 ⟨.inl ⟨.bool true,.bool true,[],rfl,fun cls=>rfl,.bool true,by kernel_rfl!,fun _=>⟨.nil,fun a ha=>(nomatch ha)⟩⟩,OldK.of_keep k1,k2,k3⟩
theorem f91(walk:gI1 prg Hh 244):rw3.Holds:=by
 w_on
 refine holds_law (by kernel_rfl!) fun said=>?_
 refine ⟨said,?_,?_⟩
 ·w_witness2
 ·have fr:frees rw3.row.toRowW=true:=by decide +kernel
  obtain ⟨hsame,hu,ha,hap,hm⟩:=frees_parts fr
  refine ⟨⟨⟨by kernel_rfl!,by kernel_rfl!,by kernel_rfl!,by kernel_rfl!,by kernel_rfl!,by decide +kernel⟩,by decide +kernel,by kernel_rfl!⟩,⟨[.list []],by decide +kernel,by decide +kernel⟩,fun w=>⟨(wa w).1,fun s' hs'=>?_⟩⟩
  obtain ⟨s₀,hf,hg0,os,hT⟩:=(wa w).2 s' hs'
  refine ⟨s₀,hf,hg0,S4 w os,hT,fun n hn=>?_,fun x hx=>(nomatch hx),fun x hx=>(nomatch hx),?_⟩
  ·obtain rfl:n="law":=by
    have e:(if rw3.row.pinned=true then [rw3.row.name] else [])=[("law":Str)]:=by kernel_rfl!
    rw [e] at hn
    simpa using hn
   have:=gt1 w.params
   rw [← eU1 w os] at this
   exact this
  ·refine ClaimW.callFrom_of_specG (c:=rw3.row.claim) (tree:=fun vs=>do match ← nsGet mainNs rw3.row.name with
    | some f=>do ret (← PySem.call f vs)
    | none=>unsupported "claim.caller:no-such-global") (wp w os) (hM1 w os) fun args hpre hlay ord hord=>?_
   obtain ⟨⟨vs,ao⟩,hlaid⟩:=Option.isSome_iff_exists.mp (layAllW_isSome (R:=rw3.row.claim.records) (cl:=classAt (S4 w os).heap) (P:=w.params) (ord:=ord) (fun c hc=>by cases hc) args rw3.row.args (S4 w os) (pre_splitW hpre).1)
   have keeps:=layAllW_keeps _ _ _ hlaid
   have hal:=layAllW_rest _ _ _ hlaid
   obtain ⟨as,hrd,hin,hold⟩:=reads_layAllW hord _ _ _ hlaid hlay ao.heap (fun _ _ e=>e)
   have L:Laid rw3.row.claim.records w (S4 w os) ao args vs as:=⟨⟨ord,hord,hlaid⟩,hrd,hin,hold,keeps,hal.1.trans (hM1 w os),hal.2.2.1⟩
   have hi:=ident_freeW hu ha hap
   have hsh:=pre_splitW hpre
   refine ⟨vs,ao,hlaid,gA1 walk (os:=os) hsh.1 hsh.2 hlay hrd (fun a ha=>?_) (by rw [← eU1 w os];exact keeps) L.gens ?_ fun s' k1 k2 k3=>?_⟩
   ·have:=(hin.2.2 _ ha).1
    rw [eU1] at this
    exact this
   ·have h:=(layAllW_grows _ _ _ hlaid).toks
    rw [gL1] at h
    exact Nat.lt_of_lt_of_le (show 0 < 2436 by decide) h
   ·have z:=GoodWG.laid (c:=rw3.row.claim) hsame (by kernel_rfl!) hi L (ga1 k1 k2 k3)
    exact ⟨_,rfl,z.1,z.2.1,z.2.2,fun q=>ftr q⟩
inductive V where
 | none | bool (b:Bool) | int (i:Int) | str (l:List Nat)
 | tup (l:List V) | lst (l:List V) | raw (l:List V) | rng (a b c:Int) | ref (k:Nat)
set_option genInjectivity false in
set_option genSizeOf false in
structure AO where
 items:List V
 acc:Option Int
set_option genInjectivity false in
set_option genSizeOf false in
structure Wd where
 prog:Program
 w:World
 s₀:Shared
 cls:Addr
 loose:List Addr
set_option genInjectivity false in
set_option genSizeOf false in
structure Rho where
 st:List (Addr × Addr)
 hid:List Addr
noncomputable def tA(ρ:Rho)(b:Addr):Prop:=∀ p∈ρ.st,p.1≠b/\p.2≠b
noncomputable def Off(ρ:Rho)(b:Addr):Prop:=tA ρ b/\b ∉ ρ.hid
noncomputable def nn(a b c:Int):Bool:=decide (-1000000<=a/\a<=1000000/\-1000000<=b/\b<=1000000/\1<=c/\c<=1000000)
noncomputable def PlainTuple(h:Heap)(a:Addr)(items:Array Value):Prop:=∃ n,h.get? a=some { cls:=.type "tuple",data:=.seq items n }
theorem PlainTuple.isTuple{h:Heap}{a:Addr}{items:Array Value}(x:PlainTuple h a items):h.IsTuple a items:=let ⟨n,e⟩:=x;⟨_,e,rfl,n,rfl⟩
noncomputable def lim:Nat:=1000000
mutual
noncomputable def RV(h:Heap)(ρ:Rho):V->Value->Prop
 | .none,v=>v=.none
 | .bool b,v=>v=.bool b
 | .int i,v=>∃ t,v=.int i t
 | .str l,v=>l.length<=lim/\∃ t,v=.str ⟨l.toArray⟩ t
 | .tup l,v=>l.length<=lim/\∃ a vs,v=.ref a/\Off ρ a/\PlainTuple h a vs/\RVs h ρ l vs.toList
 | .lst l,v=>l.length<=lim/\∃ a vs,v=.ref a/\Off ρ a/\h.PlainList a vs/\RVs h ρ l vs.toList
 | .raw l,v=>l.length<=lim/\∃ a vs,v=.ref a/\Off ρ a/\h.IsList a vs/\RVs h ρ l vs.toList
 | .rng a b c,v=>nn a b c=true/\∃ r t u w,v=.ref r/\Off ρ r/\IsRange h r a b c t u w
 | .ref k,v=>∃ p,ρ.st[k]?=some p/\v=.ref p.1
noncomputable def RVs(h:Heap)(ρ:Rho):List V->List Value->Prop
 | [],vs=>vs=[]
 | x::xs,vs=>∃ v r,vs=v::r/\RV h ρ x v/\RVs h ρ xs r
end
noncomputable def RO(G:Wd)(h:Heap)(ρ:Rho)(p:Addr × Addr)(o:AO):Prop :=
 o.items.length<=lim/\match o.acc with
 | none=>p.2=p.1/\∃ vs,h.PlainList p.1 vs/\RVs h ρ o.items vs.toList
 | some i=>∃ vs n m,h.get? p.1=some ⟨.ref G.cls,some p.2,.seq vs n,#[]⟩/\RVs h ρ o.items vs.toList/\h.Ns p.2 m/\(∃ t,m "_initial_size"=some (.int i t))/\(∀ x:Str,x≠"_initial_size"->m x=none)
structure Rel (G:Wd) (σ:List AO) (ρ:Rho) (s:Shared):Prop where
 len:ρ.st.length=σ.length
 inj:∀ (i j:Nat) (p q:Addr × Addr),ρ.st[i]?=some p->ρ.st[j]?=some q->p.1=q.1->i=j
 obj:∀ (k:Nat) (p:Addr × Addr) (o:AO),ρ.st[k]?=some p->σ[k]?=some o->RO G s.heap ρ p o
 fresh:∀ p∈ρ.st,G.s₀.heap.get? p.1=none/\G.s₀.heap.get? p.2=none
 keep:∀ b o,b ∉ G.loose->G.s₀.heap.get? b=some o->s.heap.get? b=some o
 lse:∀ b∈G.loose,∃ vs,s.heap.get? b=some ⟨.none,none,.fields vs,#[]⟩/\TriplesOk vs.toList
 same:∃ h tk gs,s={ G.s₀ with heap:=h,toks:=tk,gens:=gs }
 bare:AllBare s.gens
 hidden:∀ b∈ρ.hid,s.heap.get? b≠none
noncomputable def Solid(o:Obj):Prop:=(o.cls=.type "tuple"\/o.cls=.type "list"\/o.cls=.type "range")/\(∀ es ep,o.data≠.dict es ep)/\∀ c,o.data≠.cell c
structure StepW (G:Wd) (W:List Addr) (ρ:Rho) (s:Shared) (ρ':Rho) (s':Shared) (σ':List AO):Prop where
 rel:Rel G σ' ρ' s'
 ext:∃ new,ρ'=⟨ρ.st++new,ρ.hid⟩/\∀ p∈new,s.heap.get? p.1=none/\s.heap.get? p.2=none
 keep:∀ b o,s.heap.get? b=some o->tA ρ b->b ∉ W->b ∉ G.loose->s'.heap.get? b=some o
 wal:∀ b∈W,s.heap.get? b≠none->s'.heap.get? b≠none
noncomputable abbrev Step(G:Wd):=StepW G []
theorem IsTuple.solid{h:Heap}{a vs o}(x:h.IsTuple a vs)(e:h.get? a=some o):Solid o:=by
 obtain ⟨o',ho,hc,n,hd⟩:=x
 rw [ho] at e;obtain rfl:=siX e
 exact ⟨by rw [hc];simp,fun _ _ z=>(by replace z:=(hd) ▸ z;cases z),fun _ z=>(by replace z:=(hd) ▸ z;cases z)⟩
theorem IsList.solid{h:Heap}{a vs o}(x:h.IsList a vs)(e:h.get? a=some o):Solid o:=by
 obtain ⟨o',ho,hc,n,hd⟩:=x
 rw [ho] at e;obtain rfl:=siX e
 exact ⟨by rw [hc];simp,fun _ _ z=>(by replace z:=(hd) ▸ z;cases z),fun _ z=>(by replace z:=(hd) ▸ z;cases z)⟩
structure KeepV (h:Heap) (ρ:Rho) (h':Heap) (ρ':Rho):Prop where
 ext:∃ new,ρ'.st=ρ.st++new/\∀ p∈new,h.get? p.1=none/\h.get? p.2=none
 hide:∀ b∈ρ'.hid,b∈ρ.hid\/h.get? b=none
 keep:∀ b o,h.get? b=some o->Off ρ b->Solid o->h'.get? b=some o
theorem KeepV.off{h h':Heap}{ρ ρ':Rho}(K:KeepV h ρ h' ρ'){a:Addr}(hn:h.get? a≠none)(ho:Off ρ a):Off ρ' a:=by
 refine aO (K.ext) fun new e hf=>?_
 refine ⟨fun p hp=>?_,fun q=>?_⟩
 ·rw [e] at hp
  rcases List.mem_append.mp hp with hp | hp
  ·exact ho.1 p hp
  ·exact ⟨fun e=>hn (e ▸ (hf p hp).1),fun e=>hn (e ▸ (hf p hp).2)⟩
 ·refine Or.elim (K.hide a q) (fun q=>?_) (fun q=>?_)
  ·exact ho.2 q
  ·exact hn q
structure KeepG (h:Heap) (ρ:Rho) (h':Heap) (ρ':Rho):Prop where
 off:∀ a,h.get? a≠none->Off ρ a->Off ρ' a
 keep:∀ b o,h.get? b=some o->Off ρ b->Solid o->h'.get? b=some o
 st:∀ (k:Nat) (p:Addr × Addr),ρ.st[k]?=some p->ρ'.st[k]?=some p
theorem KeepG.ref{h h':Heap}{ρ ρ':Rho}(K:KeepG h ρ h' ρ'){P:Heap->Addr->Array Value->Prop}(hP:∀ a vs,P h a vs->∃ o,h.get? a=some o/\Solid o/\(h'.get? a=some o->P h' a vs)){l:List V}
  (hr:∀ vs,RVs h ρ l vs->RVs h' ρ' l vs) {v:Value} (e:l.length<=lim/\∃ a vs,v=.ref a/\Off ρ a/\P h a vs/\RVs h ρ l vs.toList):l.length<=lim/\∃ a vs,v=.ref a/\Off ρ' a/\P h' a vs/\RVs h' ρ' l vs.toList :=
 ⟨e.1,eG1 e.2 fun a vs e ho hp r=>ww (hP a vs hp) fun o g S q=>eK1 a vs e (K.off a (fun z=>nso (z.symm.trans g)) ho) (q (K.keep a o g ho S)) (hr _ r)⟩
mutual
theorem RV.keepG{h h':Heap}{ρ ρ':Rho}(K:KeepG h ρ h' ρ'):∀ (x:V) (v:Value),RV h ρ x v->RV h' ρ' x v
 | .none=>fun _ e=>e
 | .bool _=>fun _ e=>e
 | .int _=>fun _ e=>e
 | .str _=>fun _ e=>e
 | .tup l=>fun _=>K.ref (P:=PlainTuple) (fun a vs p=>p.elim fun n g=>⟨_,g,IsTuple.solid (PlainTuple.isTuple p) g,fun g=>⟨n,g⟩⟩) (RVs.keepG K l)
 | .lst l=>fun _=>K.ref (P:=Heap.PlainList) (fun a vs p=>p.elim fun n g=>⟨_,g,IsList.solid (Heap.PlainList.isList p) g,fun g=>⟨n,g⟩⟩) (RVs.keepG K l)
 | .raw l=>fun _=>K.ref (P:=Heap.IsList) (fun a vs p=>p.elim fun o q=>⟨o,q.1,IsList.solid p q.1,fun g=>⟨o,g,q.2⟩⟩) (RVs.keepG K l)
 | .rng a b c=>fun v e=>⟨e.1,fS1 e.2 fun r t u w e ho hr=>kx1 r t u w e (K.off r (fun z=>nso (z.symm.trans hr)) ho) (K.keep r _ hr ho ⟨.inr (.inr rfl),nofun,nofun⟩)⟩
 | .ref k=>fun v e=>e.elim fun p q=>⟨p,K.st k p q.1,q.2⟩
theorem RVs.keepG{h h':Heap}{ρ ρ':Rho}(K:KeepG h ρ h' ρ'):∀ (x:List V) (v:List Value),RVs h ρ x v->RVs h' ρ' x v
 | []=>fun _ e=>e
 | x::xs=>fun vs e=>tH e fun v r e h1 h2=>mT v r e (RV.keepG K x v h1) (RVs.keepG K xs r h2)
end
theorem KeepV.g{h h':Heap}{ρ ρ':Rho}(K:KeepV h ρ h' ρ'):KeepG h ρ h' ρ':=⟨fun a=>K.off,K.keep,fun k p hp=>aO K.ext fun new e' _=>by rw [e',List.getElem?_append_left (List.getElem?_eq_some_iff.mp hp).1];exact hp⟩
theorem RV.mono{h h':Heap}{ρ ρ':Rho}(K:KeepV h ρ h' ρ'):∀ (x:V) (v:Value),RV h ρ x v->RV h' ρ' x v:=RV.keepG K.g
theorem RVs.mono{h h':Heap}{ρ ρ':Rho}(K:KeepV h ρ h' ρ'):∀ (x:List V) (v:List Value),RVs h ρ x v->RVs h' ρ' x v:=RVs.keepG K.g
theorem RVs.length{h:Heap}{ρ:Rho}:∀ {x:List V} {v:List Value},RVs h ρ x v->v.length=x.length
 | [],_,e=>by delta RVs at e;rw [e];rfl
 | x::xs,vs,e=>by
  dsimp only [RVs] at e
  obtain ⟨v,r,rfl,h1,h2⟩:=e
  rw [List.length_cons,List.length_cons,RVs.length h2]
theorem RVs.get{h:Heap}{ρ:Rho}:∀ {x:List V} {v:List Value},RVs h ρ x v->∀ {i:Nat} {a:V},x[i]?=some a->∃ c,v[i]?=some c/\RV h ρ a c
 | [],_,_,i,a,q=>by exact nso q
 | x::xs,vs,e,i,a,q=>by
  dsimp only [RVs] at e
  obtain ⟨v,r,h_p⟩:=e;obtain rfl:=h_p.1;have h1:=h_p.2.1;have h2:=h_p.2.2
  cases i with
  | zero=>simp at q;subst q;exact ⟨v,rfl,h1⟩
  | succ i=>exact RVs.get h2 (by simpa using q)
theorem RVs.append{h:Heap}{ρ:Rho}:∀ {x y:List V} {v u:List Value},RVs h ρ x v->RVs h ρ y u->RVs h ρ (x++y) (v++u)
 | [],_,_,_,e,q=>by delta RVs at e;exact (e) ▸ (q)
 | x::xs,y,vs,u,e,q=>by
  dsimp only [RVs] at e
  obtain ⟨v,r,rfl,h1,h2⟩:=e
  show RVs h ρ (x::(xs++y)) _
  dsimp only [RVs]
  exact mT v (r++u) rfl h1 (RVs.append h2 q)
theorem RVs.nil{h:Heap}{ρ:Rho}:RVs h ρ [] []:=by delta RVs;rfl
theorem RVs.cons{h:Heap}{ρ:Rho}{x:V}{xs:List V}{v:Value}{vs:List Value}(a:RV h ρ x v)(b:RVs h ρ xs vs):RVs h ρ (x::xs) (v::vs):=by
 dsimp only [RVs];exact mT v vs rfl a b
theorem RVs.cons_iff{h:Heap}{ρ:Rho}{x:V}{xs:List V}{vs:List Value}(e:RVs h ρ (x::xs) vs):∃ v r,vs=v::r/\RV h ρ x v/\RVs h ρ xs r:=by
 dsimp only [RVs] at e;exact e
theorem RVs.nil_iff{h:Heap}{ρ:Rho}{vs:List Value}(e:RVs h ρ [] vs):vs=[]:=by
 delta RVs at e;exact e
theorem RVs.drop{h:Heap}{ρ:Rho}:∀ (n:Nat) {x:List V} {v:List Value},RVs h ρ x v->RVs h ρ (x.drop n) (v.drop n)
 | 0,_,_,e=>e
 | n + 1,[],vs,e=>by exact (RVs.nil_iff e) ▸ (RVs.nil)
 | n + 1,x::xs,vs,e=>by
  obtain ⟨v,r,rfl,h1,h2⟩:=RVs.cons_iff e
  exact RVs.drop n h2
theorem RVs.take{h:Heap}{ρ:Rho}:∀ (n:Nat) {x:List V} {v:List Value},RVs h ρ x v->RVs h ρ (x.take n) (v.take n)
 | 0,_,_,e=>RVs.nil
 | n + 1,[],vs,e=>by exact (RVs.nil_iff e) ▸ (RVs.nil)
 | n + 1,x::xs,vs,e=>by
  obtain ⟨v,r,rfl,h1,h2⟩:=RVs.cons_iff e
  exact RVs.cons h1 (RVs.take n h2)
theorem RVs.filterMap_get{h:Heap}{ρ:Rho}{x:List V}{v:List Value}(e:RVs h ρ x v):∀ (is:List Nat),RVs h ρ (is.filterMap (x[·]?)) (is.filterMap (v[·]?))
 | []=>RVs.nil
 | i::is=>by
  rw [List.filterMap_cons,List.filterMap_cons]
  cases q:x[i]? with
  | none =>
   have:v[i]?=none:=by
    rw [List.getElem?_eq_none_iff] at q ⊢
    rw [RVs.length e];exact q
   rw [this];exact RVs.filterMap_get e is
  | some a =>
   refine a7 (RVs.get e q) fun c h_p=>?_;have hc:=h_p.1;have hr:=h_p.2
   exact (hc) ▸ (RVs.cons hr (RVs.filterMap_get e is))
theorem RVs.mapGet{h:Heap}{ρ:Rho}{x:List V}{v:List Value}(hl:v.length=x.length)(H:∀ (i:Nat) (a:V),x[i]?=some a->∃ c,v[i]?=some c/\RV h ρ a c):RVs h ρ x v:=by
 induction x generalizing v with
 | nil=>rw [List.length_nil,List.length_eq_zero_iff] at hl;exact (hl) ▸ (RVs.nil)
 | cons x xs ih =>
  cases v with
  | nil=>simp at hl
  | cons v vs =>
   refine RVs.cons ?_ (ih (by simpa using hl) fun i a q=>?_)
   ·refine aO (H 0 x rfl) fun c hc hr=>?_;simp at hc;subst hc;exact hr
   ·have:=H (i + 1) a (by exact q);simpa using this
theorem RO.mono{G:Wd}{h h':Heap}{ρ ρ':Rho}{p:Addr × Addr}{o:AO}(K:KeepV h ρ h' ρ')(h1:∀ x,h.get? p.1=some x->h'.get? p.1=some x)
  (h2:∀ x,h.get? p.2=some x->h'.get? p.2=some x) (r:RO G h ρ p o):RO G h' ρ' p o:=by
 unfold RO at r ⊢
 have hl:=r.1;have r:=r.2
 refine ⟨hl,?_⟩
 cases ha:o.acc with
 | none =>
  refine byQ fun Q kQ=>?_
  replace r:=(ha) ▸ r
  obtain ⟨e,vs,⟨n,hx⟩,hr⟩:=r
  refine kQ ?_
  exact ⟨e,vs,⟨n,h1 _ hx⟩,RVs.mono K _ _ hr⟩
 | some i =>
  refine byQ fun Q kQ=>?_
  rw [ha] at r
  refine bp1 (r) fun vs n m hx hr h_5 r2=>?_;refine yL (h_5) fun x es ep hns r1=>?_
  refine kQ ?_
  exact kB1 vs n m (h1 _ hx) (RVs.mono K _ _ hr) ⟨x,es,ep,h2 x hns,r1⟩ r2
theorem RO.alive{G:Wd}{h:Heap}{ρ:Rho}{p:Addr × Addr}{o:AO}(r:RO G h ρ p o):h.get? p.1≠none/\h.get? p.2≠none:=by
 unfold RO at r
 refine jm (r) fun hl r=>?_
 refine gc (o.acc) (fun ha=>?_) (fun i ha=>?_)
 ·
  replace r:=(ha) ▸ r
  obtain ⟨e,vs,⟨n,hx⟩,hr⟩:=r
  rw [e,hx];exact ⟨nofun,nofun⟩
 ·
  rw [ha] at r
  refine bp1 (r) fun vs n m hx hr h_5 r2=>?_;refine yL (h_5) fun x es ep hns r1=>?_
  rw [hx,hns];exact ⟨nofun,nofun⟩
theorem Rel.alive{G:Wd}{σ:List AO}{ρ:Rho}{s:Shared}(R:Rel G σ ρ s){b:Addr}(h:¬ tA ρ b):s.heap.get? b≠none:=by
 unfold tA at h
 obtain ⟨p,hp,hb⟩:∃ p∈ρ.st,p.1=b\/p.2=b:=by
  apply Classical.byContradiction
  intro q
  exact h fun p hp=>⟨fun e=>q ⟨p,hp,.inl e⟩,fun e=>q ⟨p,hp,.inr e⟩⟩
 obtain ⟨k,hk,rfl⟩:=List.mem_iff_getElem.mp hp
 have hk':k < σ.length:=R.len ▸ hk
 have:=(R.obj k ρ.st[k] σ[k] (List.getElem?_eq_getElem hk) (List.getElem?_eq_getElem hk')).alive
 rcases hb with rfl | rfl
 ·exact this.1
 ·exact this.2
theorem StepW.alive{G:Wd}{W:List Addr}{ρ ρ':Rho}{s s':Shared}{σ':List AO}(S:StepW G W ρ s ρ' s' σ'){b:Addr}(h:s.heap.get? b≠none):s'.heap.get? b≠none:=by
 by_cases hw:b∈W
 ·exact S.wal b hw h
 ·by_cases hl:b∈G.loose
  ·refine aO (S.rel.lse b hl) fun vs e etr=>?_
   rw [e];exact nofun
  ·by_cases ho:tA ρ b
   ·refine gc (s.heap.get? b) (fun e=>?_) (fun o e=>?_)
    ·exact absurd e h
    ·rw [S.keep b o e ho hw hl];exact nofun
   ·refine S.rel.alive fun q=>ho fun p hp=>q p ?_
    obtain ⟨new,rfl,_⟩:=S.ext
    exact List.mem_append_left _ hp
theorem StepW.off{G:Wd}{W:List Addr}{ρ ρ':Rho}{s s':Shared}{σ':List AO}(S:StepW G W ρ s ρ' s' σ'){b:Addr}(h:s.heap.get? b≠none)(ho:tA ρ b):tA ρ' b:=by
 obtain ⟨new,rfl,hf⟩:=S.ext
 intro p hp
 rcases List.mem_append.mp hp with hp | hp
 ·exact ho p hp
 ·exact ⟨fun e=>h (e ▸ (hf p hp).1),fun e=>h (e ▸ (hf p hp).2)⟩
theorem StepW.trans{G:Wd}{W:List Addr}{ρ ab av:Rho}{s ao aA:Shared}{σ₁ σ₂:List AO}(S:StepW G W ρ s ab ao σ₁)(T:StepW G W ab ao av aA σ₂):StepW G W ρ s av aA σ₂ where
 rel:=T.rel
 ext:=by
  refine aO (S.ext) fun n1 e1 h1=>?_
  refine a7 (T.ext) fun n2 h_p=>?_;have e2:=h_p.1;have h2:=h_p.2
  refine ⟨n1++n2,by rw [e2,e1];simp [List.append_assoc],fun p hp=>?_⟩
  refine Or.elim (List.mem_append.mp hp) (fun hp=>?_) (fun hp=>?_)
  ·exact h1 p hp
  ·constructor
   ·exact Classical.byContradiction fun q=>S.alive q (h2 p hp).1
   ·exact Classical.byContradiction fun q=>S.alive q (h2 p hp).2
 keep:=fun b o e ho hw hl=>T.keep b o (S.keep b o e ho hw hl) (S.off (by rw [e];exact nofun) ho) hw hl
 wal:=fun b hb h=>T.wal b hb (S.wal b hb h)
theorem StepW.weaken{G:Wd}{W W':List Addr}{ρ ρ':Rho}{s s':Shared}{σ':List AO}(S:StepW G W ρ s ρ' s' σ')(h:∀ b∈W,b∈W'):StepW G W' ρ s ρ' s' σ' where
 rel:=S.rel
 ext:=S.ext
 keep:=fun b o e ho hw hl=>S.keep b o e ho (fun q=>hw (h b q)) hl
 wal:=fun b _ q=>S.alive q
noncomputable def WOk(W:List Addr)(h:Heap):Prop:=∀ b∈W,∃ o,h.get? b=some o/\¬ Solid o
theorem Solid.no_dict{o:Obj}{es ep}(h:o.data=.dict es ep):¬ Solid o:=fun x=>x.2.1 _ _ h
theorem Solid.no_cell{o:Obj}{c}(h:o.data=.cell c):¬ Solid o:=fun x=>x.2.2 _ h
theorem StepW.keepV{G:Wd}{W:List Addr}{ρ ρ':Rho}{s s':Shared}{σ σ':List AO}(R:Rel G σ ρ s)(hW:WOk W s.heap)(S:StepW G W ρ s ρ' s' σ'):KeepV s.heap ρ s'.heap ρ' where
 ext:=let ⟨new,e,h⟩:=S.ext;⟨new,by rw [e],h⟩
 hide:=fun b hb=>by
  refine a7 (S.ext) fun new h_p=>?_;have e:=h_p.1
  rw [e] at hb;exact .inl hb
 keep:=fun b o e ho hs=>by
  refine S.keep b o e ho.1 (fun hb=>?_) fun hb=>?_
  ·refine aO (hW b hb) fun o' e' hd=>?_
   rw [e] at e';obtain rfl:=siX e'
   exact hd hs
  ·refine aO (R.lse b hb) fun vs e' etr=>?_
   rw [e] at e';obtain rfl:=siX e'
   rcases hs.1 with h | h | h <;> cases h
theorem WOk.nil(h:Heap):WOk [] h:=fun _ h=>nomatch h
theorem Step.keepV{G:Wd}{ρ ρ':Rho}{s s':Shared}{σ σ':List AO}(R:Rel G σ ρ s)(S:Step G ρ s ρ' s' σ'):KeepV s.heap ρ s'.heap ρ':=StepW.keepV R (WOk.nil _) S
theorem Step.refl{G:Wd}{ρ:Rho}{s:Shared}{σ:List AO}(R:Rel G σ ρ s):Step G ρ s ρ s σ :=
 ⟨R,⟨[],by simp,fun _ h=>nomatch h⟩,fun _ _ e _ _ _=>e,fun _ h=>nomatch h⟩
theorem Step.grow{G:Wd}{ρ:Rho}{s s':Shared}{σ:List AO}(R:Rel G σ ρ s)(hk:∀ b o,s.heap.get? b=some o->s'.heap.get? b=some o)
  (hs:∃ h tk,s'={ s with heap:=h,toks:=tk }):Step G ρ s ρ s' σ:=by
 have K:KeepV s.heap ρ s'.heap ρ:=⟨⟨[],(List.append_nil _).symm,fun _ h=>nomatch h⟩,fun _ h=>.inl h,fun b o e _ _=>hk b o e⟩
 refine ⟨⟨R.len,R.inj,fun k p o h1 h2=>(R.obj k p o h1 h2).mono K (hk _) (hk _),R.fresh,fun b o hl e=>hk b o (R.keep b o hl e),fun b hb=>?_,?_,?_,fun b hb=>?_⟩,⟨[],by simp,fun _ h=>nomatch h⟩,fun b o e _ _ _=>hk b o e,fun _ h=>nomatch h⟩
 ·refine a7 (R.lse b hb) fun vs h_p=>?_;have e:=h_p.1;have etr:=h_p.2
  exact ⟨vs,hk _ _ e,etr⟩
 ·refine byQ fun Q kQ=>?_
  refine fO (R.same) fun h tk gs e=>?_
  refine dp (hs) fun h' tk' e'=>?_
  refine kQ ?_
  exact c31 h' tk' gs (by rw [e',e])
 ·refine dp (hs) fun h' tk' e'=>?_
  rw [e'];exact R.bare
 ·refine gc (s.heap.get? b) (fun e=>?_) (fun o e=>?_)
  ·exact absurd e (R.hidden b hb)
  ·exact (hk b o e) ▸ (nofun)
theorem Step.toks{G:Wd}{ρ:Rho}{s:Shared}{σ:List AO}(R:Rel G σ ρ s)(t:Nat):Step G ρ s ρ { s with toks:=t } σ:=Step.grow R (fun _ _ e=>e) ⟨_,_,rfl⟩
section
variable {G:Wd} {W:List Addr} {ρ ρ':Rho} {s s':Shared} {σ σ':List AO}
theorem cr1{h:Heap}{p:Addr × Addr}{o:AO}(r:RO G h ρ p o):∃ cls d vs n sl,h.get? p.1=some ⟨cls,d,.seq vs n,sl⟩:=by
 delta RO at r
 refine gc o.acc (fun e=>?_) fun i e=>?_ <;> (have r:=r.2;rw [e] at r)
 ·obtain ⟨_,vs,⟨n,hy⟩,_⟩:=r
  exact hq1 _ _ _ _ _ hy
 ·refine fO (r) fun vs n m h_p=>?_;have hy:=h_p.1
  exact hq1 _ _ _ _ _ hy
theorem cq1{h:Heap}{p:Addr × Addr}{o:AO}(r:RO G h ρ p o):p.2=p.1\/∃ z es ep,h.get? p.2=some z/\z.data=.dict es ep:=by
 delta RO at r
 refine gc o.acc (fun e=>?_) fun i e=>?_ <;> (have r:=r.2;rw [e] at r)
 ·exact .inl r.1
 ·exact .inr (bp1 r fun vs n m _ _ h _=>wv h fun z es ep hz hd _=>⟨z,es,ep,hz,hd⟩)
theorem Step.write(R:Rel G σ ρ s){k:Nat}{p:Addr × Addr}{o o':AO}{h':Heap}{t:Nat}(hp:ρ.st[k]?=some p)(ho:σ[k]?=some o)
  (hsb:Heap.ExtBut p.1 s.heap h')
  (hro:KeepV s.heap ρ h' ρ->RO G h' ρ p o') :
  Step G ρ s ρ { s with heap:=h',toks:=t } (σ.set k o'):=by
 refine byQ fun Q kQ=>?_
 have hmem:p∈ρ.st:=List.mem_of_getElem? hp
 have K:KeepV s.heap ρ h' ρ:=⟨⟨[],(List.append_nil _).symm,fun _ h=>nomatch h⟩,fun _ h=>.inl h,fun b x e hoff _=>hsb b x (hoff.1 p hmem).1.symm e⟩
 have hk:k < σ.length:=(List.getElem?_eq_some_iff.mp ho).1
 refine i81 (cr1 (R.obj k p o hp ho)) fun cls d vs n sl hseq=>?_
 have notp:∀ {b x},s.heap.get? b=some x->(∀ us m,x.data≠.seq us m)->b≠p.1:=fun e hd q=>hd vs n (siX ((q ▸ e).symm.trans hseq) ▸ rfl)
 refine kQ ?_
 refine ⟨⟨by rw [List.length_set];exact R.len,R.inj,fun j q x hq hx=>(Decidable.em (j=k)).elim (fun hj=>?_) fun hj=>?_,R.fresh,fun b x hl e=>hsb b x (fun e'=>nso ((R.fresh p hmem).1.symm.trans (e' ▸ e))) (R.keep b x hl e),fun b hb=>aO (R.lse b hb) fun vs e etr=>⟨vs,hsb b _ (notp e nofun) e,etr⟩,
  fO R.same fun h tk gs e=>c31 h' t gs (by rw [e]),R.bare,fun b hb=>(Decidable.em (b=p.1)).elim (fun q=>q ▸ (hro K).alive.1) fun q=>gc (s.heap.get? b) (fun e=>absurd e (R.hidden b hb)) fun x e e'=>son ((hsb b x q e).symm.trans e')⟩,
  ⟨[],by simp,fun _ h=>nomatch h⟩,fun b x e hoff _ _=>hsb b x (hoff p hmem).1.symm e,fun _ h=>nomatch h⟩
 ·subst hj
  rw [List.getElem?_set_self hk] at hx
  exact siX hx ▸ siX (hp.symm.trans hq) ▸ hro K
 ·rw [List.getElem?_set_ne (Ne.symm hj)] at hx
  have r:=R.obj j q x hq hx
  have hne:q.1≠p.1:=fun e=>hj (R.inj j k q p hq hp e)
  exact r.mono K (fun y e=>hsb _ y hne e) fun y e=>hsb _ y (fun h2=>Or.elim (cq1 r) (fun q'=>hne (q'.symm.trans h2)) fun h=>yL h fun z es ep hz hd=>notp hz (fun us m q=>nomatch hd.symm.trans q) h2) e
theorem Step.add(R:Rel G σ ρ s)(hk:∀ b o,s.heap.get? b=some o->s'.heap.get? b=some o)(hs:∃ h tk,s'={ s with heap:=h,toks:=tk })
  {p:Addr × Addr} {o:AO} (hn1:s.heap.get? p.1=none) (hn2:s.heap.get? p.2=none)
  (hro:KeepV s.heap ρ s'.heap ⟨ρ.st++[p],ρ.hid⟩->RO G s'.heap ⟨ρ.st++[p],ρ.hid⟩ p o):Step G ρ s ⟨ρ.st++[p],ρ.hid⟩ s' (σ++[o]):=by
 have ext:∃ new,(⟨ρ.st++[p],ρ.hid⟩:Rho)=⟨ρ.st++new,ρ.hid⟩/\∀ q∈new,s.heap.get? q.1=none/\s.heap.get? q.2=none :=
  ⟨[p],rfl,fun q hq=>by rw [List.mem_singleton.mp hq];exact ⟨hn1,hn2⟩⟩
 have K:KeepV s.heap ρ s'.heap ⟨ρ.st++[p],ρ.hid⟩:=⟨⟨[p],rfl,fun q hq=>by rw [List.mem_singleton.mp hq];exact ⟨hn1,hn2⟩⟩,fun _ h=>.inl h,fun b o e _ _=>hk b o e⟩
 have base:∀ b,s.heap.get? b=none->G.s₀.heap.get? b=none:=by
  intro b hb
  cases e:G.s₀.heap.get? b with
  | none=>rfl
  | some x =>
   by_cases hl:b∈G.loose
   ·refine aO (R.lse _ hl) fun vs e' etr=>?_
    rw [hb] at e';exact nso e'
   ·rw [R.keep _ _ hl e] at hb;exact son hb
 have S:=Step.grow R hk hs
 refine ⟨⟨?_,fun i j a b ha hb hab=>?_,fun k q x hq hx=>?_,fun q hq=>?_,S.rel.keep,S.rel.lse,S.rel.same,S.rel.bare,S.rel.hidden⟩,ext,fun b o e _ _ _=>hk b o e,fun _ h=>nomatch h⟩
 ·show (ρ.st++[p]).length=_
  rw [List.length_append,List.length_append,R.len];rfl
 ·have old:∀ (i:Nat) (a:Addr × Addr),(ρ.st++[p])[i]?=some a->(ρ.st[i]?=some a/\s.heap.get? a.1≠none)\/(i=ρ.st.length/\a=p):=by
   intro i a ha
   by_cases hi:i < ρ.st.length
   ·replace ha:=(List.getElem?_append_left hi) ▸ ha
    refine .inl ⟨ha,?_⟩
    obtain ⟨x,hx⟩:∃ x,σ[i]?=some x:=⟨σ[i]'(R.len ▸ hi),List.getElem?_eq_getElem _⟩
    exact (R.obj i a x ha hx).alive.1
   ·replace ha:=(List.getElem?_append_right (Nat.le_of_not_lt hi)) ▸ ha
    have:i - ρ.st.length=0:=by
     have:=(List.getElem?_eq_some_iff.mp ha).1
     simpa using this
    rw [this] at ha
    simp at ha
    exact .inr ⟨by omega,ha.symm⟩
  rcases old i a ha with ⟨h1,n1⟩ | ⟨h1,e1⟩ <;> rcases old j b hb with ⟨h2,n2⟩ | ⟨h2,e2⟩
  ·exact R.inj i j a b h1 h2 hab
  ·exact absurd (by rw [hab,e2];exact hn1) n1
  ·exact absurd (by rw [← hab,e1];exact hn1) n2
  ·rw [h1,h2]
 ·replace hq:(ρ.st++[p])[k]?=some q:=hq
  by_cases hi:k < ρ.st.length
  ·replace hq:=(List.getElem?_append_left hi) ▸ hq
   rw [List.getElem?_append_left (R.len ▸ hi)] at hx
   exact (R.obj k q x hq hx).mono K (hk _) (hk _)
  ·have hi':=Nat.le_of_not_lt hi
   replace hq:=(List.getElem?_append_right hi') ▸ hq
   rw [List.getElem?_append_right (R.len ▸ hi')] at hx
   have:k - ρ.st.length=0:=by
    have:=(List.getElem?_eq_some_iff.mp hq).1
    simpa using this
   rw [this] at hq
   rw [← R.len,this] at hx
   simp at hq hx
   subst hq hx
   exact hro K
 ·rcases List.mem_append.mp hq with hq | hq
  ·exact R.fresh q hq
  ·rw [List.mem_singleton.mp hq];exact ⟨base _ hn1,base _ hn2⟩
theorem lB{D:Addr}{W:List Addr}{h':Heap}{t:Nat}(R:Rel G σ ρ s)(hW:D∈W)(hoff:tA ρ D)(hbase:G.s₀.heap.get? D=none)(hloose:D ∉ G.loose)(hk:∀ o,s.heap.get? D=some o->Off ρ D->¬ Solid o)(hs:Heap.ExtBut D s.heap h')(hal:h'.get? D≠none) :
  StepW G W ρ s ρ { s with heap:=h',toks:=t } σ/\KeepV s.heap ρ h' ρ :=
 have K:KeepV s.heap ρ h' ρ:=⟨⟨[],(List.append_nil _).symm,fun _ h=>nomatch h⟩,fun _ h=>.inl h,fun b o e hb hsol=>hs b o (fun q=>hk o (q ▸ e) (q ▸ hb) hsol) e⟩
 have al:∀ b,s.heap.get? b≠none->h'.get? b≠none:=fun b hne=>(Decidable.em (b=D)).elim (fun q=>q ▸ hal) fun q=>gc (s.heap.get? b) (fun e=>absurd e hne) fun x e e'=>son ((hs b x q e).symm.trans e')
 ⟨⟨⟨R.len,R.inj,fun j p o hp hx'=>have hp':=hoff p (List.mem_of_getElem? hp)
   (R.obj j p o hp hx').mono K (fun y e=>hs _ y hp'.1 e) fun y e=>hs _ y hp'.2 e,
  R.fresh,fun b o hl e=>hs b o (fun q=>nso (hbase.symm.trans (q ▸ e))) (R.keep b o hl e),fun b hb=>aO (R.lse b hb) fun vs e etr=>⟨vs,hs b _ (fun q=>hloose (q ▸ hb)) e,etr⟩,
  fO R.same fun h tk gs e=>c31 h' t gs (by rw [e]),R.bare,fun b hb=>al b (R.hidden b hb)⟩,⟨[],by simp,fun _ h=>nomatch h⟩,fun b o e _ hw _=>hs b o (fun q=>hw (q ▸ hW)) e,fun b hb hne=>al b hne⟩,K⟩
end
set_option genInjectivity false in
set_option genSizeOf false in
structure Var where
 name:Str
 slot:Nat
 own:Bool
deriving DecidableEq
set_option genInjectivity false in
set_option genSizeOf false in
structure Cx where
 vars:List Var
 scope:Scope
noncomputable abbrev ac:=List (Option V)
noncomputable def Cx.kind(C:Cx)(x:Str):Option NameKind:=C.scope.names.lookup x
noncomputable def Cx.ok(C:Cx):Bool :=
 (match C.scope.kind with | .function=>true | _=>false) && C.vars.all fun x=>(match C.kind x.name with | some .local=>true | some .cell=>true | _=>false) && !(x.name == ("__debug__":Str)) &&
  C.vars.all fun y=>(x.name == y.name) == (x.slot == y.slot)
theorem Cx.ok_parts{C:Cx}(h:C.ok=true):C.scope.kind=.function/\∀ x∈C.vars,(C.kind x.name=some .local\/C.kind x.name=some .cell)/\(x.name == ("__debug__":Str))=false /\
  ∀ y∈C.vars,(x.name=y.name↔x.slot=y.slot):=by
 unfold Cx.ok at h
 refine jm (Bool.and_eq_true_iff.mp h) fun h1 h2=>?_
 refine ⟨by revert h1;cases C.scope.kind <;> simp,fun x hx=>?_⟩
 have:=List.all_eq_true.mp h2 x hx
 refine jm (Bool.and_eq_true_iff.mp this) fun h3 h4=>?_
 have h_p:=Bool.and_eq_true_iff.mp h3;have h5:=h_p.1;have h6:=h_p.2
 refine ⟨?_,by simpa using h6,fun y hy=>?_⟩
 ·revert h5;cases C.kind x.name with
  | none=>simp
  | some k=>cases k <;> simp
 ·have:=List.all_eq_true.mp h4 y hy
  rw [beq_iff_eq] at this
  constructor
  ·intro e;rw [e,beq_self_eq_true] at this;exact beq_iff_eq.mp this.symm
  ·intro e;rw [e,beq_self_eq_true] at this;exact beq_iff_eq.mp this
structure RE (G:Wd) (C:Cx) (env:Env) (W:List Addr) (η:ac) (ρ:Rho) (s:Shared):Prop where
 ok:C.ok=true
 sc:env.scope=C.scope
 glob:env.globals=mainGlobals
 blt:env.builtins=builtinsNs
 lmem:env.locals∈W
 wok:∀ b∈W,Off ρ b/\G.s₀.heap.get? b=none/\b ∉ G.loose
 wk:WOk W s.heap
 loc:∃ m,s.heap.Ns env.locals m/\∀ x∈C.vars,C.kind x.name=some .local->∀ v,η[x.slot]?=some (some v)->∃ cv,m x.name=some cv/\RV s.heap ρ v cv
 cel:∀ x∈C.vars,C.kind x.name=some .cell->∃ c ov,env.cells.lookup x.name=some c/\s.heap.IsCell c ov/\(x.own=true->c∈W)/\Off ρ c /\
  ∀ v,η[x.slot]?=some (some v)->∃ cv,ov=some cv/\RV s.heap ρ v cv
 apart:∀ x∈C.vars,∀ y∈C.vars,C.kind x.name=some .cell->C.kind y.name=some .cell->∀ c,env.cells.lookup x.name=some c->env.cells.lookup y.name=some c->x.name=y.name
theorem dz{G:Wd}{σ:List AO}{ρ:Rho}{s:Shared}(R:Rel G σ ρ s){a:Addr}{o:Obj}{c}(h:s.heap.get? a=some o)(hd:o.data=.cell c):a ∉ G.loose:=by
 intro hb
 refine aO (R.lse a hb) fun vs e etr=>?_
 rw [h] at e;obtain rfl:=siX e;cases hd
theorem bS{h:Heap}{b:Addr}(hb:h.objs.size<=b):h.get? b=none:=gc (h.get? b) id fun o e=>absurd (Heap.lt_size e) (Nat.not_lt.mpr hb)
theorem dq{G:Wd}{σ:List AO}{ρ:Rho}{s:Shared}(R:Rel G σ ρ s){b:Addr}(hn:s.heap.get? b=none):Off ρ b/\G.s₀.heap.get? b=none/\b ∉ G.loose :=
 have hl:b ∉ G.loose:=fun h=>aO (R.lse b h) fun vs e _=>son (e.symm.trans hn)
 ⟨⟨Classical.byContradiction fun h=>R.alive h hn,fun h=>R.hidden b h hn⟩,gc (G.s₀.heap.get? b) id fun o e=>son ((R.keep b o hl e).symm.trans hn),hl⟩
theorem RE.mono{G:Wd}{C:Cx}{env:Env}{W:List Addr}{η:ac}{σ σ':List AO}{ρ ρ':Rho}{s s':Shared}(E:RE G C env W η ρ s)(R:Rel G σ ρ s)(S:Step G ρ s ρ' s' σ'):RE G C env W η ρ' s':=by
 have K:=Step.keepV R S
 have keepW:∀ b∈W,∀ o,s.heap.get? b=some o->s'.heap.get? b=some o:=by
  intro b hb o e
  refine byQ fun Q kQ=>?_
  refine aO (E.wk b hb) fun o' e' hd=>?_
  rw [e] at e';obtain rfl:=siX e'
  refine kQ ?_
  exact S.keep b o e (E.wok b hb).1.1 (fun h=>nomatch h) (E.wok b hb).2.2
 refine ⟨E.ok,E.sc,E.glob,E.blt,E.lmem,fun b hb=>⟨?_,(E.wok b hb).2⟩,fun b hb=>?_,?_,fun x hx hk=>?_,E.apart⟩
 ·refine aO (E.wk b hb) fun o' e' hd=>?_
  exact K.off (by rw [e'];exact nofun) (E.wok b hb).1
 ·refine aO (E.wk b hb) fun o' e' hd=>?_
  exact ⟨o',keepW b hb _ e',hd⟩
 ·refine byQ fun Q kQ=>?_
  refine aO (E.loc) fun m h_1 h=>?_;refine yL (h_1) fun o es ep ho r=>?_
  refine kQ ?_
  refine ⟨m,⟨o,es,ep,keepW _ E.lmem _ ho,r⟩,fun x hx hk v hv=>?_⟩
  refine a7 (h x hx hk v hv) fun cv h_p=>?_;have h1:=h_p.1;have h2:=h_p.2
  exact ⟨cv,h1,RV.mono K _ _ h2⟩
 ·refine byQ fun Q kQ=>?_
  refine z2 (E.cel x hx hk) fun c ov h1 h_3 h3 h4 h5=>?_;refine aO (h_3) fun o ho hd=>?_
  refine kQ ?_
  refine yN c ov h1 ⟨o,S.keep c o ho h4.1 (fun h=>nomatch h) (dz R ho hd),hd⟩ h3 (K.off (by rw [ho];exact nofun) h4) (fun v hv=>?_)
  refine a7 (h5 v hv) fun cv h_p=>?_;have e1:=h_p.1;have e2:=h_p.2
  exact ⟨cv,e1,RV.mono K _ _ e2⟩
section
variable {G:Wd} {A:Around} {C:Cx} {env:Env} {W:List Addr} {η:ac} {σ σ' σ₁ σ₂ aj:List AO} {ρ ρ':Rho} {s s':Shared}
noncomputable abbrev No:Value->Shared->Prop:=fun _ _=>False
inductive PE (G:Wd) (ρ:Rho) (s:Shared) (σ':List AO) (v:V) (cv:Value) (s':Shared):Prop
 | mk (ρ':Rho) (S:Step G ρ s ρ' s' σ') (r:RV s'.heap ρ' v cv)
inductive PT (G:Wd) (ρ:Rho) (s:Shared) (σ':List AO) (b t:Bool) (s':Shared):Prop
 | mk (h:t=b) (ρ':Rho) (S:Step G ρ s ρ' s' σ')
inductive PEs (G:Wd) (ρ:Rho) (s:Shared) (σ':List AO) (vs:List V) (cvs:List Value) (s':Shared):Prop
 | mk (ρ':Rho) (S:Step G ρ s ρ' s' σ') (r:RVs s'.heap ρ' vs cvs)
noncomputable def Ev(G:Wd)(A:Around)(C:Cx)(env:Env)(W:List Addr)(e:Expr)(σ:List AO)(η:ac)(v:V)(σ':List AO):Prop :=
 ∀ ρ s,Rel G σ ρ s->RE G C env W η ρ s->0 < s.toks->wpAny (model G.prog G.w) A (eval e env) (PE G ρ s σ' v) No s
noncomputable def Et(G:Wd)(A:Around)(C:Cx)(env:Env)(W:List Addr)(e:Expr)(σ:List AO)(η:ac)(b:Bool)(σ':List AO):Prop :=
 ∀ ρ s,Rel G σ ρ s->RE G C env W η ρ s->0 < s.toks->wpAny (model G.prog G.w) A (isTrue e env (eval e env)) (PT G ρ s σ' b) No s
noncomputable def Evs(G:Wd)(A:Around)(C:Cx)(env:Env)(W:List Addr)(es:List Expr)(σ:List AO)(η:ac)(vs:List V)(σ':List AO):Prop :=
 ∀ ρ s,Rel G σ ρ s->RE G C env W η ρ s->0 < s.toks->∀ pos:Pos,wpAny (model G.prog G.w) A (spliced (backTo pos (starEach es env))) (PEs G ρ s σ' vs) No s
noncomputable def On(G:Wd)(A:Around)(f:List Value->Sem Value)(σ:List AO)(vs:List V)(v:V)(σ':List AO):Prop :=
 ∀ ρ s cvs,Rel G σ ρ s->RVs s.heap ρ vs cvs->0 < s.toks->wpAny (model G.prog G.w) A (f cvs) (PE G ρ s σ' v) No s
theorem f5{α:Type}{M:Model}{t:Sem α}{P Q:α->Shared->Prop}{E:Value->Shared->Prop}(h:wpAny M A t P No s)(k:∀ a s',s.toks<=s'.toks->P a s'->Q a s'):wpAny M A t Q E s :=
 wpAny_with_toks (Nat.le_refl _) (wpAny_mono h (fun a s' p ht=>k a s' ht p) fun _ _ f=>f.elim)
theorem Ev.use{e:Expr}{v:V}{Q:Value->Shared->Prop}{E:Value->Shared->Prop}(H:Ev G A C env W e σ η v σ')(R:Rel G σ ρ s)(N:RE G C env W η ρ s)(ht:0 < s.toks)
  (k:∀ cv s' ρ',Step G ρ s ρ' s' σ'->RE G C env W η ρ' s'->0 < s'.toks->RV s'.heap ρ' v cv->Q cv s'):wpAny (model G.prog G.w) A (eval e env) Q E s :=
 f5 (H ρ s R N ht) (by rintro cv s' hle ⟨ρ',S,r⟩;exact k cv s' ρ' S (N.mono R S) (Nat.lt_of_lt_of_le ht hle) r)
theorem Et.use{e:Expr}{b:Bool}{Q:Bool->Shared->Prop}{E:Value->Shared->Prop}(H:Et G A C env W e σ η b σ')(R:Rel G σ ρ s)(N:RE G C env W η ρ s)(ht:0 < s.toks)
  (k:∀ s' ρ',Step G ρ s ρ' s' σ'->RE G C env W η ρ' s'->0 < s'.toks->Q b s'):wpAny (model G.prog G.w) A (isTrue e env (eval e env)) Q E s :=
 f5 (H ρ s R N ht) (by rintro t s' hle ⟨hb,ρ',S⟩;exact hb ▸ k s' ρ' S (N.mono R S) (Nat.lt_of_lt_of_le ht hle))
theorem Evs.use{es:List Expr}{vs:List V}{Q:List Value->Shared->Prop}{E:Value->Shared->Prop}(H:Evs G A C env W es σ η vs σ')(R:Rel G σ ρ s)(N:RE G C env W η ρ s)(ht:0 < s.toks)(pos:Pos)
  (k:∀ cvs s' ρ',Step G ρ s ρ' s' σ'->RE G C env W η ρ' s'->0 < s'.toks->RVs s'.heap ρ' vs cvs->Q cvs s'):wpAny (model G.prog G.w) A (spliced (backTo pos (starEach es env))) Q E s :=
 f5 (H ρ s R N ht pos) (by rintro cv s' hle ⟨ρ',S,r⟩;exact k cv s' ρ' S (N.mono R S) (Nat.lt_of_lt_of_le ht hle) r)
theorem On.use{f:List Value->Sem Value}{vs:List V}{v:V}{cvs:List Value}{Q:Value->Shared->Prop}{E:Value->Shared->Prop}(H:On G A f σ vs v σ')(R:Rel G σ ρ s)(r:RVs s.heap ρ vs cvs)(ht:0 < s.toks)
  (k:∀ cv s' ρ',Step G ρ s ρ' s' σ'->0 < s'.toks->RV s'.heap ρ' v cv->Q cv s'):wpAny (model G.prog G.w) A (f cvs) Q E s :=
 f5 (H ρ s cvs R r ht) (by rintro cv s' hle ⟨ρ',S,r⟩;exact k cv s' ρ' S (Nat.lt_of_lt_of_le ht hle) r)
theorem RE.load(R:Rel G σ ρ s)(N:RE G C env W η ρ s){x:Var}{v:V}(hx:x∈C.vars)(hv:η[x.slot]?=some (some v)){Q:Value->Shared->Prop}{E:Value->Shared->Prop}
  (k:∀ cv,RV s.heap ρ v cv->Q cv s):wpAny (model G.prog G.w) A (loadName env x.name) Q E s:=by
 refine jm (Cx.ok_parts N.ok) fun hf hvars=>?_
 have hk:env.scope.kind=.function:=by rw [N.sc];exact hf
 rcases (hvars x hx).1 with h | h
 ·refine byQ fun Q kQ=>?_
  refine aO (N.loc) fun m hn hm=>?_
  refine aO (hm x hx h v hv) fun cv h1 h2=>?_
  refine kQ ?_
  exact wpAny_loadName_local hk (by unfold Env.kindOf;rw [N.sc];exact h) hn h1 (k cv h2)
 ·refine byQ fun Q kQ=>?_
  refine dp (N.cel x hx h) fun c ov h_p=>?_;have h1:=h_p.1;have h2:=h_p.2.1;have h5:=h_p.2.2.2.2
  refine a7 (h5 v hv) fun cv h_p=>?_;obtain rfl:=h_p.1;have h6:=h_p.2
  refine kQ ?_
  exact wpAny_loadName_cell hk (by unfold Env.kindOf;rw [N.sc];exact h) h1 h2 (k cv h6)
theorem RE.put(R:Rel G σ ρ s)(N:RE G C env W η ρ s){a:Addr}{h':Heap}{t:Nat}(ha:a∈W)(hs:Heap.SameBut a s.heap h')(hnew:∃ o,h'.get? a=some o/\¬ Solid o):StepW G W ρ s ρ { s with heap:=h',toks:=t } σ/\KeepV s.heap ρ h' ρ/\WOk W h' :=
 have q:=lB (t:=t) R ha (N.wok a ha).1.1 (N.wok a ha).2.1 (N.wok a ha).2.2 (fun o e _=>aO (N.wk a ha) fun oa h1 h2=>siX (h1.symm.trans e) ▸ h2) hs.extBut (aO hnew fun o e _ e'=>son (e.symm.trans e'))
 ⟨q.1,q.2,fun b hb=>(Decidable.em (b=a)).elim (fun q=>q ▸ hnew) fun q=>(hs.2 b q) ▸ N.wk b hb⟩
theorem rn{x y:Str}{a b:NameKind}(h1:C.kind y=some a)(h2:C.kind x=some b)(hab:a≠b):y≠x:=fun e=>hab (siX ((e ▸ h1).symm.trans h2))
theorem uu{i:Nat}{u v:V}(h:(η.set i (some v))[i]?=some (some u)):u=v:=by
 rw [List.getElem?_set_self'] at h
 exact aO (Option.map_eq_some_iff.mp h) fun _ _ e=>(siX e).symm
theorem lG{x y:Var}{u v:V}(hxy:x.name=y.name↔x.slot=y.slot)(ne:y.name≠x.name)(h:(η.set x.slot (some v))[y.slot]?=some (some u)):η[y.slot]?=some (some u) :=
 (List.getElem?_set_ne fun e=>ne (hxy.mpr e).symm).symm.trans h
theorem nG{m:Str->Option Value}{c:Addr}{ov:Option Value}{L:Addr}{h:Heap}(hn:h.Ns L m)(hc:h.IsCell c ov):c≠L:=fun e=>aO hc fun o ho hd=>wv hn fun o' es ep ho' hd' _ =>
 nomatch hd.symm.trans ((congrArg Obj.data (siX (ho.symm.trans (e.symm ▸ ho')))).trans hd')
theorem RE.storeL(R:Rel G σ ρ s)(N:RE G C env W η ρ s){x:Var}{v:V}{cv:Value}(hx:x∈C.vars)(h:C.kind x.name=some .local)(hr:RV s.heap ρ v cv){Q:Unit->Shared->Prop}{E:Value->Shared->Prop}
  (k:∀ s',StepW G W ρ s ρ s' σ->RE G C env W (η.set x.slot (some v)) ρ s'->Q () s'):wpAny (model G.prog G.w) A (storeName env x.name cv) Q E s:=by
 refine jm (Cx.ok_parts N.ok) fun hf hvars=>aO N.loc fun m hn hm=>?_
 refine wpAny_storeName_local (by unfold Env.kindOf;rw [N.sc];exact h) hn (fun h' hn' hs=>?_) (by rw [N.sc,hf];rfl)
 refine cV1 (N.put (t:=s.toks + 1) R N.lmem hs (wv hn' fun o es ep ho hd _=>⟨o,ho,Solid.no_dict hd⟩)) fun S K hwk=>?_
 refine k _ S ⟨N.ok,N.sc,N.glob,N.blt,N.lmem,N.wok,hwk,⟨_,hn',fun y hy hyk u hu=>(Decidable.em (y.name=x.name)).elim (fun e=>?_) fun e=>?_⟩,fun y hy hyk=>z2 (N.cel y hy hyk) fun c ov h1 h2 h3 h4 h5=>?_,N.apart⟩
 ·have hs:=((hvars x hx).2.2 y hy).mp e.symm
  have hu':=uu (i:=y.slot) (v:=v) (hs ▸ hu)
  rw [hu',if_pos e]
  exact ⟨cv,rfl,RV.mono K _ _ hr⟩
 ·refine (if_neg e) ▸ ?_
  exact aO (hm y hy hyk u (lG ((hvars x hx).2.2 y hy) e hu)) fun cv' h1 h2=>⟨cv',h1,RV.mono K _ _ h2⟩
 ·exact yN c ov h1 (h2.sameBut hs (nG hn h2)) h3 h4 fun u hu=>aO (h5 u (lG ((hvars x hx).2.2 y hy) (rn hyk h nofun) hu)) fun cv' e1 e2=>⟨cv',e1,RV.mono K _ _ e2⟩
theorem RE.storeC(R:Rel G σ ρ s)(N:RE G C env W η ρ s){x:Var}{v:V}{cv:Value}(hx:x∈C.vars)(ho:x.own=true)(h:C.kind x.name=some .cell)(hr:RV s.heap ρ v cv){Q:Unit->Shared->Prop}{E:Value->Shared->Prop}
  (k:∀ s',StepW G W ρ s ρ s' σ->RE G C env W (η.set x.slot (some v)) ρ s'->Q () s'):wpAny (model G.prog G.w) A (storeName env x.name cv) Q E s:=by
 refine jm (Cx.ok_parts N.ok) fun hf hvars=>aO N.loc fun m hn hm=>z2 (N.cel x hx h) fun c ov h1 h2 h3 h4 h5=>?_
 refine wpAny_storeName_cell (by rw [N.sc];exact hf) (by unfold Env.kindOf;rw [N.sc];exact h) h1 h2 fun h' hc' hs=>?_
 refine cV1 (N.put (t:=s.toks) R (h3 ho) hs (aO hc' fun o ho hd=>⟨o,ho,Solid.no_cell hd⟩)) fun S K hwk=>?_
 refine k _ S ⟨N.ok,N.sc,N.glob,N.blt,N.lmem,N.wok,hwk,⟨m,hn.sameBut hs (nG hn h2).symm,fun y hy hyk u hu=>?_⟩,fun y hy hyk=>(Decidable.em (y.name=x.name)).elim (fun e=>?_) fun e=>z2 (N.cel y hy hyk) fun c' ov' g1 g2 g3 g4 g5=>?_,N.apart⟩
 ·exact aO (hm y hy hyk u (lG ((hvars x hx).2.2 y hy) (rn hyk h nofun) hu)) fun cv' e1 e2=>⟨cv',e1,RV.mono K _ _ e2⟩
 ·refine yN c (some cv) (e ▸ h1) hc' (fun _=>h3 ho) h4 fun u hu=>⟨cv,rfl,?_⟩
  have hs:=((hvars x hx).2.2 y hy).mp e.symm
  have hu':u=v:=uu (i:=y.slot) (hs ▸ hu)
  rw [hu']
  exact RV.mono K _ _ hr
 ·exact yN c' ov' g1 (g2.sameBut hs fun q=>e (N.apart y hy x hx hyk h c (q ▸ g1) h1)) g3 g4 fun u hu=>aO (g5 u (lG ((hvars x hx).2.2 y hy) e hu)) fun cv' e1 e2=>⟨cv',e1,RV.mono K _ _ e2⟩
theorem RE.store(R:Rel G σ ρ s)(N:RE G C env W η ρ s){x:Var}{v:V}{cv:Value}(hx:x∈C.vars)(ho:x.own=true)(hr:RV s.heap ρ v cv){Q:Unit->Shared->Prop}{E:Value->Shared->Prop}
  (k:∀ s',StepW G W ρ s ρ s' σ->RE G C env W (η.set x.slot (some v)) ρ s'->Q () s'):wpAny (model G.prog G.w) A (storeName env x.name cv) Q E s :=
 Or.elim ((Cx.ok_parts N.ok).2 x hx).1 (fun h=>N.storeL R hx h hr k) fun h=>N.storeC R hx ho h hr k
theorem RV.none_{h:Heap}{ρ:Rho}:RV h ρ .none .none:=by delta RV;rfl
theorem RV.bool_{h:Heap}{ρ:Rho}{b:Bool}:RV h ρ (.bool b) (.bool b):=by delta RV;rfl
theorem RV.int_{h:Heap}{ρ:Rho}{i:Int}{t:Tok}:RV h ρ (.int i) (.int i t):=by delta RV;exact ⟨t,rfl⟩
theorem RV.str_{h:Heap}{ρ:Rho}{l:List Nat}{t:Tok}(hl:l.length<=lim):RV h ρ (.str l) (.str ⟨l.toArray⟩ t):=by delta RV;exact ⟨hl,t,rfl⟩
theorem RV.str'{h:Heap}{ρ:Rho}{l:List Nat}{x:Str}{t:Tok}(hl:l.length<=lim)(e:x.cps.toList=l):RV h ρ (.str l) (.str x t):=by
 delta RV;refine ⟨hl,t,?_⟩;rw [← e]
theorem RV.bool_iff{h:Heap}{ρ:Rho}{b:Bool}{v:Value}(r:RV h ρ (.bool b) v):v=.bool b:=by delta RV at r;exact r
theorem RV.none_iff{h:Heap}{ρ:Rho}{v:Value}(r:RV h ρ .none v):v=.none:=by delta RV at r;exact r
theorem RV.int_iff{h:Heap}{ρ:Rho}{i:Int}{v:Value}(r:RV h ρ (.int i) v):∃ t,v=.int i t:=by delta RV at r;exact r
theorem RV.str_iff{h:Heap}{ρ:Rho}{l:List Nat}{v:Value}(r:RV h ρ (.str l) v):l.length<=lim/\∃ t,v=.str ⟨l.toArray⟩ t:=by delta RV at r;exact r
theorem RV.tup_iff{h:Heap}{ρ:Rho}{l:List V}{v:Value}(r:RV h ρ (.tup l) v):l.length<=lim/\∃ a vs,v=.ref a/\Off ρ a/\PlainTuple h a vs/\RVs h ρ l vs.toList:=by dsimp only [RV] at r;exact r
theorem RV.lst_iff{h:Heap}{ρ:Rho}{l:List V}{v:Value}(r:RV h ρ (.lst l) v):l.length<=lim/\∃ a vs,v=.ref a/\Off ρ a/\h.PlainList a vs/\RVs h ρ l vs.toList:=by dsimp only [RV] at r;exact r
theorem RV.raw_iff{h:Heap}{ρ:Rho}{l:List V}{v:Value}(r:RV h ρ (.raw l) v):l.length<=lim/\∃ a vs,v=.ref a/\Off ρ a/\h.IsList a vs/\RVs h ρ l vs.toList:=by dsimp only [RV] at r;exact r
theorem RV.rng_iff{h:Heap}{ρ:Rho}{a b c:Int}{v:Value}(r:RV h ρ (.rng a b c) v):nn a b c=true/\∃ r t u w,v=.ref r/\Off ρ r/\IsRange h r a b c t u w:=by delta RV at r;exact r
theorem RV.ref_iff{h:Heap}{ρ:Rho}{k:Nat}{v:Value}(r:RV h ρ (.ref k) v):∃ p,ρ.st[k]?=some p/\v=.ref p.1:=by delta RV at r;exact r
theorem sX(R:Rel G σ ρ s):tA ρ s.heap.objs.size:=by
 intro p hp
 have al:∀ b,s.heap.get? b≠none->b≠s.heap.objs.size:=by
  intro b hb e
  refine gc (s.heap.get? b) (fun q=>?_) (fun o q=>?_)
  ·exact hb q
  ·exact absurd (Heap.lt_size q) (by exact (e) ▸ (Nat.lt_irrefl _))
 obtain ⟨k,hk,rfl⟩:=List.mem_iff_getElem.mp hp
 have hk':k < σ.length:=R.len ▸ hk
 have:=(R.obj k ρ.st[k] σ[k] (List.getElem?_eq_getElem hk) (List.getElem?_eq_getElem hk')).alive
 exact ⟨al _ this.1,al _ this.2⟩
theorem aE(h:Heap):h.get? h.objs.size=none:=by
 cases q:h.get? h.objs.size with
 | none=>rfl
 | some o=>exact absurd (Heap.lt_size q) (Nat.lt_irrefl _)
theorem RVs.sameHeap{h h':Heap}{ρ:Rho}{l:List V}{vs:List Value}(hk:∀ b o,h.get? b=some o->h'.get? b=some o)(r:RVs h ρ l vs):RVs h' ρ l vs :=
 RVs.mono ⟨⟨[],(List.append_nil _).symm,fun _ h=>nomatch h⟩,fun _ h=>.inl h,fun b o e _ _=>hk b o e⟩ _ _ r
theorem bT(R:Rel G σ ρ s):Off ρ s.heap.objs.size:=⟨sX R,fun h=>R.hidden _ h (aE _)⟩
theorem sB{vs:List Value}{l:List V}(R:Rel G σ ρ s)(r:RVs s.heap ρ l vs)(hl:l.length<=lim){Q:Value->Shared->Prop}{E:Value->Shared->Prop}{M:Model}
  (k:∀ cv s',PE G ρ s σ (.tup l) cv s'->Q cv s'):wpAny M A (newTuple vs) Q E s:=by
 have hlen:vs.length=l.length:=RVs.length r
 refine wpAny_newTuple (k _ _ ⟨ρ,Step.grow R (fun b o e=>Heap.get?_push_of_some _ e) ⟨_,_,rfl⟩,?_⟩) (by exact (hlen) ▸ (Nat.le_trans hl (by decide)))
 dsimp only [RV]
 exact ⟨hl,_,_,rfl,bT R,⟨_,Heap.get?_push_size _ rfl⟩,RVs.sameHeap (fun b o e=>Heap.get?_push_of_some _ e) (by exact r)⟩
theorem u6{vs:List Value}{l:List V}(R:Rel G σ ρ s)(r:RVs s.heap ρ l vs)(hl:l.length<=lim){Q:Value->Shared->Prop}{E:Value->Shared->Prop}{M:Model}
  (k:∀ cv s',PE G ρ s σ (.lst l) cv s'->Q cv s'):wpAny M A (newList vs) Q E s:=by
 have hlen:vs.length=l.length:=RVs.length r
 refine wpAny_newList (k _ _ ⟨ρ,Step.grow R (fun b o e=>Heap.get?_push_of_some _ e) ⟨_,_,rfl⟩,?_⟩) (by exact (hlen) ▸ (Nat.le_trans hl (by decide)))
 dsimp only [RV]
 exact ⟨hl,_,_,rfl,bT R,⟨_,Heap.get?_push_size _ rfl⟩,RVs.sameHeap (fun b o e=>Heap.get?_push_of_some _ e) (by exact r)⟩
theorem xF{vs:List Value}{l:List V}(R:Rel G σ ρ s)(r:RVs s.heap ρ l vs)(hl:l.length<=lim){Q:Value->Shared->Prop}{E:Value->Shared->Prop}{M:Model}
  (k:∀ cv s',PE G ρ s (σ++[⟨l,none⟩]) (.ref σ.length) cv s'->Q cv s'):wpAny M A (newList vs) Q E s:=by
 have hlen:vs.length=l.length:=RVs.length r
 refine wpAny_newList (k _ _ ⟨⟨ρ.st++[(s.heap.objs.size,s.heap.objs.size)],ρ.hid⟩,Step.add R (fun b o e=>Heap.get?_push_of_some _ e) ⟨_,_,rfl⟩ (aE _) (aE _) fun K=>?_,?_⟩) (by exact (hlen) ▸ (Nat.le_trans hl (by decide)))
 ·dsimp only [RO]
  exact ⟨hl,rfl,_,⟨_,Heap.get?_push_size _ rfl⟩,RVs.mono K _ _ (by exact r)⟩
 ·delta RV
  exact ⟨(s.heap.objs.size,s.heap.objs.size),by rw [← R.len];simp,rfl⟩
theorem Ev.none_{k pos}:Ev G A C env W (.Constant .none k pos) σ η .none σ:=fun ρ s R N ht=>Constant_none ⟨ρ,Step.refl R,RV.none_⟩
theorem Ev.bool_{b k pos}:Ev G A C env W (.Constant (.bool b) k pos) σ η (.bool b) σ:=fun ρ s R N ht=>Constant_bool ⟨ρ,Step.refl R,RV.bool_⟩
theorem Ev.int_{i k pos}:Ev G A C env W (.Constant (.int i) k pos) σ η (.int i) σ:=fun ρ s R N ht=>wpAny_Constant_int ⟨ρ,Step.toks R _,RV.int_⟩
theorem Ev.str_{x:Str}{k pos}(hl:x.cps.toList.length<=lim):Ev G A C env W (.Constant (.str x) k pos) σ η (.str x.cps.toList) σ:=fun ρ s R N ht=>Constant_str ⟨ρ,Step.toks R _,RV.str' hl rfl⟩
theorem Ev.loc{x:Var}{pos:Pos}{v:V}(hx:x∈C.vars)(hv:η[x.slot]?=some (some v)):Ev G A C env W (.Name x.name pos) σ η v σ:=fun ρ s R N ht =>
 wpAny_Name (RE.load R N hx hv fun cv r=>⟨ρ,Step.refl R,r⟩) ((Cx.ok_parts N.ok).2 x hx).2.1
theorem Ev.bin{l r:Expr}{op:Operator}{pos:Pos}{v₁ v₂ v:V}(d4:Ev G A C env W l σ η v₁ σ₁)(fC:Ev G A C env W r σ₁ η v₂ σ₂)
  (ho:On G A (fun | [a,b]=>binaryOp op a b | _=>pure .none) σ₂ [v₁,v₂] v aj):Ev G A C env W (.BinOp l op r pos) σ η v aj:=fun ρ s R N ht =>
 wpAny_BinOp (d4.use R N ht fun bD ao ab ag aL aM aw=>fC.use ag.rel aL aM fun cG aA av au cN dH aG =>
  ho.use au.rel (RVs.cons (RV.mono (Step.keepV ag.rel au) _ _ aw) (RVs.cons aG RVs.nil)) dH fun cv fX bH b5 kB gx=>⟨bH,ag.trans (au.trans b5),gx⟩)
theorem Ev.cmp{l r:Expr}{op:CmpOp}{pos:Pos}{v₁ v₂ v:V}(hm:behindInMarks op r=false)(d4:Ev G A C env W l σ η v₁ σ₁)(fC:Ev G A C env W r σ₁ η v₂ σ₂)
  (ho:On G A (fun | [a,b]=>compareOp op a b | _=>pure .none) σ₂ [v₁,v₂] v aj):Ev G A C env W (.Compare l [op] [r] pos) σ η v aj:=fun ρ s R N ht =>
 wpAny_Compare1 (d4.use R N ht fun bD ao ab ag aL aM aw=>fC.use ag.rel aL aM fun cG aA av au cN dH aG =>
  ho.use au.rel (RVs.cons (RV.mono (Step.keepV ag.rel au) _ _ aw) (RVs.cons aG RVs.nil)) dH fun cv fX bH b5 kB gx=>⟨bH,ag.trans (au.trans b5),gx⟩) hm
theorem Et.cmp{l r:Expr}{op:CmpOp}{pos:Pos}{v₁ v₂:V}{b:Bool}(hm:behindInMarks op r=false)(d4:Ev G A C env W l σ η v₁ σ₁)(fC:Ev G A C env W r σ₁ η v₂ σ₂)
  (ho:On G A (fun | [a,b]=>compareOp op a b | _=>pure .none) σ₂ [v₁,v₂] (.bool b) aj):Et G A C env W (.Compare l [op] [r] pos) σ η b aj:=fun ρ s R N ht =>
 wpAny_isTrue_Compare1 (d4.use R N ht fun bD ao ab ag aL aM aw=>fC.use ag.rel aL aM fun cG aA av au cN dH aG =>
  ho.use au.rel (RVs.cons (RV.mono (Step.keepV ag.rel au) _ _ aw) (RVs.cons aG RVs.nil)) dH fun cv fX bH b5 kB gx=>by
   rw [RV.bool_iff gx];exact wpAny_truthy_bool ⟨rfl,bH,ag.trans (au.trans b5)⟩) hm
theorem Ev.chain{l aw aG:Expr}{cI cq:CmpOp}{pos:Pos}{v₁ v₂ v₃ v:V}{b:Bool}{σ₄ b9:List AO}(hm:lastMarks [cI,cq] [aw,aG]=false)(d4:Ev G A C env W l σ η v₁ σ₁)(fC:Ev G A C env W aw σ₁ η v₂ σ₂)
  (ho:On G A (fun | [a,b]=>compareOp cI a b | _=>pure .none) σ₂ [v₁,v₂] (.bool b) aj)
  (kj:b=true->Ev G A C env W aG aj η v₃ σ₄) (av1:b=true->On G A (fun | [a,b]=>compareOp cq a b | _=>pure .none) σ₄ [v₂,v₃] v b9) (hf:b=false->v=.bool false/\b9=aj) :
  Ev G A C env W (.Compare l [cI,cq] [aw,aG] pos) σ η v b9:=fun ρ s R N ht =>
 Compare_chain (d4.use R N ht fun bD ao ab ag aL aM aw=>chain_link (fC.use ag.rel aL aM fun cG aA av au cN dH aG =>
  ho.use au.rel (RVs.cons (RV.mono (Step.keepV ag.rel au) _ _ aw) (RVs.cons aG RVs.nil)) dH fun cv fX bH b5 kB gx=>by
   refine (RV.bool_iff gx) ▸ ?_
   refine wpAny_truthy_bool ?_
   cases b with
   | false =>
    obtain ⟨e1,e2⟩:=hf rfl
    rw [e1,e2]
    exact ⟨bH,ag.trans (au.trans b5),RV.bool_⟩
   | true =>
    show wpAny _ _ (compareChain pos cG [cq] [eval _ env]) _ _ _
    delta compareChain
    refine wpAny_bind (wpAny_holding ?_)
    refine (kj rfl).use b5.rel (cN.mono au.rel b5) kB fun v2 ly iQ jV mM yz xe=>?_
    refine wpAny_bind (wpAny_standAt (wpAny_operating ?_))
    exact (av1 rfl).use jV.rel (RVs.cons (RV.mono (Step.keepV b5.rel jV) _ _ (RV.mono (Step.keepV au.rel b5) _ _ aG)) (RVs.cons xe RVs.nil)) yz fun cv oV fY fW wK xd =>
     ⟨fY,ag.trans (au.trans (b5.trans (jV.trans fW))),xd⟩)) hm
theorem Et.chain{l aw aG:Expr}{cI cq:CmpOp}{pos:Pos}{v₁ v₂ v₃:V}{b d:Bool}{σ₄ b9:List AO}(hm:lastMarks [cI,cq] [aw,aG]=false)(d4:Ev G A C env W l σ η v₁ σ₁)(fC:Ev G A C env W aw σ₁ η v₂ σ₂)
  (ho:On G A (fun | [a,b]=>compareOp cI a b | _=>pure .none) σ₂ [v₁,v₂] (.bool b) aj)
  (kj:b=true->Ev G A C env W aG aj η v₃ σ₄) (av1:b=true->On G A (fun | [a,b]=>compareOp cq a b | _=>pure .none) σ₄ [v₂,v₃] (.bool d) b9) (hf:b=false->d=false/\b9=aj) :
  Et G A C env W (.Compare l [cI,cq] [aw,aG] pos) σ η d b9:=fun ρ s R N ht =>
 isTrue_chain (d4.use R N ht fun bD ao ab ag aL aM aw=>test_link (fC.use ag.rel aL aM fun cG aA av au cN dH aG =>
  ho.use au.rel (RVs.cons (RV.mono (Step.keepV ag.rel au) _ _ aw) (RVs.cons aG RVs.nil)) dH fun cv fX bH b5 kB gx=>by
   refine (RV.bool_iff gx) ▸ ?_
   refine wpAny_truthy_bool ?_
   cases b with
   | false =>
    obtain ⟨e1,e2⟩:=hf rfl
    rw [e1,e2]
    exact ⟨rfl,bH,ag.trans (au.trans b5)⟩
   | true =>
    refine test_last ?_
    refine (kj rfl).use b5.rel (cN.mono au.rel b5) kB fun v2 ly iQ jV mM yz xe=>?_
    exact (av1 rfl).use jV.rel (RVs.cons (RV.mono (Step.keepV b5.rel jV) _ _ (RV.mono (Step.keepV au.rel b5) _ _ aG)) (RVs.cons xe RVs.nil)) yz fun cv oV fY fW wK xd=>by
     refine (RV.bool_iff xd) ▸ ?_
     exact wpAny_truthy_bool ⟨rfl,fY,ag.trans (au.trans (b5.trans (jV.trans fW)))⟩)) hm
theorem Ev.ifexp{t b o:Expr}{pos:Pos}{c:Bool}{v:V}(h:Et G A C env W t σ η c σ₁)(hb:c=true->Ev G A C env W b σ₁ η v σ₂)(ho:c=false->Ev G A C env W o σ₁ η v σ₂) :
  Ev G A C env W (.IfExp t b o pos) σ η v σ₂:=fun ρ s R N ht =>
 IfExp_ (h.use R N ht fun ao ab ag aL aM=>by
  cases c with
  | true=>exact (hb rfl).use ag.rel aL aM fun cv aA av au _ _ aG=>⟨av,ag.trans au,aG⟩
  | false=>exact (ho rfl).use ag.rel aL aM fun cv aA av au _ _ aG=>⟨av,ag.trans au,aG⟩)
theorem Et.ifexp{t b o:Expr}{pos:Pos}{c d:Bool}(h:Et G A C env W t σ η c σ₁)(hb:c=true->Et G A C env W b σ₁ η d σ₂)(ho:c=false->Et G A C env W o σ₁ η d σ₂) :
  Et G A C env W (.IfExp t b o pos) σ η d σ₂:=fun ρ s R N ht =>
 isTrue_IfExp (h.use R N ht fun ao ab ag aL aM=>by
  cases c with
  | true=>exact (hb rfl).use ag.rel aL aM fun aA av au _ _=>⟨rfl,av,ag.trans au⟩
  | false=>exact (ho rfl).use ag.rel aL aM fun aA av au _ _=>⟨rfl,av,ag.trans au⟩)
theorem Et.not_{x:Expr}{pos:Pos}{b:Bool}(h:Et G A C env W x σ η b σ₁):Et G A C env W (.UnaryOp .Not x pos) σ η (!b) σ₁:=fun ρ s R N ht =>
 isTrue_not (h.use R N ht fun ao ab ag aL aM=>⟨rfl,ab,ag⟩)
theorem Et.and_{x y:Expr}{pos:Pos}{b c:Bool}(h:Et G A C env W x σ η b σ₁)(hy:b=true->Et G A C env W y σ₁ η c σ₂)(hn:b=false->c=false/\σ₂=σ₁) :
  Et G A C env W (.BoolOp .And [x,y] pos) σ η c σ₂:=fun ρ s R N ht =>
 isTrue_and (h.use R N ht fun ao ab ag aL aM=>by
  cases b with
  | false=>obtain ⟨e1,e2⟩:=hn rfl;rw [e1,e2];exact ⟨rfl,ab,ag⟩
  | true=>exact isTrue_and ((hy rfl).use ag.rel aL aM fun aA av au cN dH=>by
    cases c with
    | false=>exact ⟨rfl,av,ag.trans au⟩
    | true=>exact isTrue_and_nil ⟨rfl,av,ag.trans au⟩))
theorem Et.or_{x y:Expr}{pos:Pos}{b c:Bool}(h:Et G A C env W x σ η b σ₁)(hy:b=false->Et G A C env W y σ₁ η c σ₂)(hn:b=true->c=true/\σ₂=σ₁) :
  Et G A C env W (.BoolOp .Or [x,y] pos) σ η c σ₂:=fun ρ s R N ht =>
 isTrue_or (h.use R N ht fun ao ab ag aL aM=>by
  cases b with
  | true=>obtain ⟨e1,e2⟩:=hn rfl;rw [e1,e2];exact ⟨rfl,ab,ag⟩
  | false=>exact isTrue_or ((hy rfl).use ag.rel aL aM fun aA av au cN dH=>by
    cases c with
    | true=>exact ⟨rfl,av,ag.trans au⟩
    | false=>exact isTrue_or_nil ⟨rfl,av,ag.trans au⟩))
noncomputable def aY:V->Option Bool
 | .none=>some false
 | .bool b=>some b
 | .int i=>some (i != 0)
 | .str l=>some (!l.isEmpty)
 | _=>none
theorem dj{v:V}{b:Bool}{cv:Value}(e:aY v=some b)(R:Rel G σ ρ s)(r:RV s.heap ρ v cv){Q:Bool->Shared->Prop}{E:Value->Shared->Prop}
  (k:∀ s',Step G ρ s ρ s' σ->Q b s'):wpAny (model G.prog G.w) A (truthy cv) Q E s:=by
 cases v with
 | none=>obtain rfl:=siX e;exact (RV.none_iff r) ▸ (truthy_none (k s (Step.refl R)))
 | bool c=>obtain rfl:=siX e;rw [RV.bool_iff r];exact wpAny_truthy_bool (k s (Step.refl R))
 | int i =>
  obtain rfl:=siX e
  obtain ⟨t,rfl⟩:=RV.int_iff r
  exact PyProof.Rows.truthy_int (k s (Step.refl R))
 | str l =>
  obtain rfl:=siX e
  obtain ⟨hl,t,rfl⟩:=RV.str_iff r
  have hlen:(⟨l.toArray⟩:Str).length=l.length:=rfl
  refine PySem.P.truthy_str ?_ ?_
  ·rw [hlen];unfold lim at hl;lia
  ·have:=k _ (Step.toks R (s.toks + 1 + 1))
   refine (hlen) ▸ ?_
   have e:((l.length:Int) != 0)=!l.isEmpty:=by cases l <;> simp <;> lia
   exact (e) ▸ (this)
 | _=>exact nso e
theorem Ev.not_{x:Expr}{pos:Pos}{v:V}{b:Bool}(h:Ev G A C env W x σ η v σ₁)(hb:aY v=some b):Ev G A C env W (.UnaryOp .Not x pos) σ η (.bool (!b)) σ₁:=fun ρ s R N ht =>
 UnaryOp_ (h.use R N ht fun bD ao ab ag aL aM aw=>not_of (dj hb ag.rel aw fun aA au=>⟨ab,ag.trans au,RV.bool_⟩))
theorem Ev.neg{x:Expr}{pos:Pos}{v u:V}(h:Ev G A C env W x σ η v σ₁)(ho:On G A (fun | [a]=>unaryOp .USub a | _=>pure .none) σ₁ [v] u σ₂):Ev G A C env W (.UnaryOp .USub x pos) σ η u σ₂:=fun ρ s R N ht =>
 UnaryOp_ (h.use R N ht fun bD ao ab ag aL aM aw=>ho.use ag.rel (RVs.cons aw RVs.nil) aM fun cv aA av au dH aG=>⟨av,ag.trans au,aG⟩)
theorem Ev.and_{x y:Expr}{pos:Pos}{u v:V}{b:Bool}(h:Ev G A C env W x σ η u σ₁)(hb:aY u=some b)(hy:b=true->Ev G A C env W y σ₁ η v σ₂)(hn:b=false->v=u/\σ₂=σ₁) :
  Ev G A C env W (.BoolOp .And [x,y] pos) σ η v σ₂:=fun ρ s R N ht =>
 BoolOp_and (h.use R N ht fun bD ao ab ag aL aM aw=>wpAny_with_toks (Nat.le_refl _) (dj hb ag.rel aw fun aA au hle=>by
  cases b with
  | true=>exact BoolOp_one ((hy rfl).use au.rel (aL.mono ag.rel au) (Nat.lt_of_lt_of_le aM hle) fun cv fX bH b5 _ _ gx=>⟨bH,ag.trans (au.trans b5),gx⟩)
  | false=>obtain ⟨e1,e2⟩:=hn rfl;rw [e1,e2];exact ⟨ab,ag.trans au,RV.mono (Step.keepV ag.rel au) _ _ aw⟩))
theorem Ev.or_{x y:Expr}{pos:Pos}{u v:V}{b:Bool}(h:Ev G A C env W x σ η u σ₁)(hb:aY u=some b)(hy:b=false->Ev G A C env W y σ₁ η v σ₂)(hn:b=true->v=u/\σ₂=σ₁) :
  Ev G A C env W (.BoolOp .Or [x,y] pos) σ η v σ₂:=fun ρ s R N ht =>
 BoolOp_or (h.use R N ht fun bD ao ab ag aL aM aw=>wpAny_with_toks (Nat.le_refl _) (dj hb ag.rel aw fun aA au hle=>by
  cases b with
  | false=>exact BoolOp_one ((hy rfl).use au.rel (aL.mono ag.rel au) (Nat.lt_of_lt_of_le aM hle) fun cv fX bH b5 _ _ gx=>⟨bH,ag.trans (au.trans b5),gx⟩)
  | true=>obtain ⟨e1,e2⟩:=hn rfl;rw [e1,e2];exact ⟨ab,ag.trans au,RV.mono (Step.keepV ag.rel au) _ _ aw⟩))
noncomputable def dL(e:Expr):Bool:=!(e.ctorIdx == 0 || e.ctorIdx == 5 || e.ctorIdx == 15) && !((un e).tag == 5 && decide ((un e).u=.Not))
theorem jt{e:Expr}(h:dL e=true)(whole:Sem Value):isTrue e env whole=(do let v ← whole;standAt e.pos;holding [v] (truthy v)):=by
 cases e <;> first
  | rfl
  | exact ftr h
  | (rename_i op _ _;cases op <;> first | rfl | exact ftr h)
theorem Et.plain{e:Expr}{v:V}{b:Bool}(hp:dL e=true)(h:Ev G A C env W e σ η v σ₁)(hb:aY v=some b):Et G A C env W e σ η b σ₁:=fun ρ s R N ht =>
 isTrue_plain (h.use R N ht fun bD ao ab ag aL aM aw=>dj hb ag.rel aw fun aA au=>⟨rfl,ab,ag.trans au⟩) (jt hp _)
noncomputable def gJ(e:Expr):Bool:=!(e.ctorIdx == 22)
theorem a9{e:Expr}{es:List Expr}(h:gJ e=true):starEach (e::es) env=(false,eval e env)::starEach es env:=by
 cases e <;> first | rfl | exact ftr h
theorem Evs.nil:Evs G A C env W [] σ η [] σ:=fun ρ s R N ht pos=>spliced_nil ⟨ρ,Step.refl R,RVs.nil⟩
theorem Evs.cons{e:Expr}{es:List Expr}{v:V}{vs:List V}(hs:gJ e=true)(h:Ev G A C env W e σ η v σ₁)(hr:Evs G A C env W es σ₁ η vs σ₂):Evs G A C env W (e::es) σ η (v::vs) σ₂:=fun ρ s R N ht pos=>by
 refine (a9 hs) ▸ ?_
 exact spliced_cons (h.use R N ht fun bD ao ab ag aL aM aw=>hr.use ag.rel aL aM pos fun cvs aA av au cN dH aG=>⟨av,ag.trans au,RVs.cons (RV.mono (Step.keepV ag.rel au) _ _ aw) aG⟩)
theorem Ev.tup{es:List Expr}{x}{pos:Pos}{vs:List V}(h:Evs G A C env W es σ η vs σ₁)(hl:vs.length<=lim):Ev G A C env W (.Tuple es x pos) σ η (.tup vs) σ₁:=fun ρ s R N ht=>by
 rw [arm_eval_Tuple]
 exact wpAny_bind (wpAny_standAt (wpAny_bind (h.use R N ht pos fun cvs ao ab ag aL aM aw=>sB ag.rel aw hl (by rintro cv aA ⟨av,au,aG⟩;exact ⟨av,ag.trans au,aG⟩))))
theorem Ev.lst{es:List Expr}{pos:Pos}{vs:List V}(h:Evs G A C env W es σ η vs σ₁)(hl:vs.length<=lim):Ev G A C env W (.List es pos) σ η (.lst vs) σ₁:=fun ρ s R N ht=>by
 rw [arm_eval_List]
 exact wpAny_bind (wpAny_standAt (wpAny_bind (h.use R N ht pos fun cvs ao ab ag aL aM aw=>u6 ag.rel aw hl (by rintro cv aA ⟨av,au,aG⟩;exact ⟨av,ag.trans au,aG⟩))))
theorem Ev.new{es:List Expr}{pos:Pos}{vs:List V}(h:Evs G A C env W es σ η vs σ₁)(hl:vs.length<=lim):Ev G A C env W (.List es pos) σ η (.ref σ₁.length) (σ₁++[⟨vs,none⟩]):=fun ρ s R N ht=>by
 rw [arm_eval_List]
 exact wpAny_bind (wpAny_standAt (wpAny_bind (h.use R N ht pos fun cvs ao ab ag aL aM aw=>xF ag.rel aw hl (by rintro cv aA ⟨av,au,aG⟩;exact ⟨av,ag.trans au,aG⟩))))
end
set_option genInjectivity false in
set_option genSizeOf false in
inductive ItS where
 | seq (l:List V)
 | dyn (k i:Nat)
noncomputable def ItS.step:ItS->List AO->Option (Option (V × ItS))
 | .seq [],_=>some none
 | .seq (x::l),_=>some (some (x,.seq l))
 | .dyn k i,σ=>match σ[k]? with
  | some ⟨items,none⟩=>match items[i]? with
   | some x=>some (some (x,.dyn k (i + 1)))
   | none=>some none
  | _=>none
theorem ItS.step_dyn(k i:Nat)(σ:List AO):(ItS.dyn k i).step σ=match σ[k]? with
  | some ⟨items,none⟩=>match items[i]? with
   | some x=>some (some (x,.dyn k (i + 1)))
   | none=>some none
  | _=>none:=rfl
noncomputable def eP(a b c:Int):List V:=(List.range (Builtin.Range.rangeSize a b c).toNat).map fun (j:Nat)=>.int (a + j * c)
noncomputable def a6:V->Option ItS
 | .str l=>some (.seq (l.map fun c=>.str [c]))
 | .tup l=>some (.seq l)
 | .lst l=>some (.seq l)
 | .rng a b c=>some (.seq (eP a b c))
 | .ref k=>some (.dyn k 0)
 | _=>none
inductive JI (h:Heap) (ρ:Rho) (I:Addr):ItS->Prop
 | lst {l a i vs}:h.IsListIter I a i->Off ρ a->h.IsList a vs->RVs h ρ l vs.toList->JI h ρ I (.seq (l.drop i))
 | tup {l a i vs}:h.IsTupleIter I a i->Off ρ a->h.IsTuple a vs->RVs h ρ l vs.toList->JI h ρ I (.seq (l.drop i))
 | ascii {x t i}:h.IsStrIter I "str_ascii_iterator" x t i->JI h ρ I (.seq ((x.cps.toList.drop i).map fun c=>.str [c]))
 | wide {x t i}:h.IsStrIter I "str_iterator" x t i->JI h ρ I (.seq ((x.cps.toList.drop i).map fun c=>.str [c]))
 | rng {x c:Int} {n:Nat}:IsRangeIter h I x n c->JI h ρ I (.seq ((List.range n).map fun (j:Nat)=>.int (x + j * c)))
 | dyn {k p i}:ρ.st[k]?=some p->h.IsListIter I p.1 i->JI h ρ I (.dyn k i)
noncomputable def nU:List String:=["list_iterator","tuple_iterator","str_ascii_iterator","str_iterator","range_iterator"]
theorem JI.cls{h:Heap}{ρ:Rho}{I:Addr}{st:ItS}(x:JI h ρ I st):∃ o T,h.get? I=some o/\o.cls=.type T/\T∈nU:=by
 cases x with
 | lst a=>obtain ⟨o,ho,hc,_⟩:=a;exact mT o _ ho hc (by decide)
 | tup a=>obtain ⟨o,ho,hc,_⟩:=a;exact mT o _ ho hc (by decide)
 | ascii a=>obtain ⟨o,ho,hc,_⟩:=a;exact mT o _ ho hc (by decide)
 | wide a=>obtain ⟨o,ho,hc,_⟩:=a;exact mT o _ ho hc (by decide)
 | rng a=>exact mT _ _ a rfl (by decide)
 | dyn _ a=>obtain ⟨o,ho,hc,_⟩:=a;exact mT o _ ho hc (by decide)
theorem JI.not_solid{h:Heap}{ρ:Rho}{I:Addr}{st:ItS}(x:JI h ρ I st):∃ o,h.get? I=some o/\¬ Solid o:=by
 refine byQ fun Q kQ=>?_
 refine tH (x.cls) fun o T ho hc hT=>?_
 refine kQ ?_
 refine ⟨o,ho,fun hs=>?_⟩
 rcases hs.1 with e | e | e <;> (replace e:=(hc) ▸ e;cases e;revert hT;decide)
theorem JI.keep{h h':Heap}{ρ ρ':Rho}{I:Addr}{st:ItS}(x:JI h ρ I st)(K:KeepV h ρ h' ρ')(hI:∀ o,h.get? I=some o->h'.get? I=some o):JI h' ρ' I st:=by
 cases x with
 | lst a ho hl hr =>
  obtain ⟨o,e,r⟩:=a
  obtain ⟨ol,el,rl⟩:=id hl
  exact .lst ⟨o,hI o e,r⟩ (K.off (by rw [el];exact nofun) ho) ⟨ol,K.keep _ _ el ho (IsList.solid hl el),rl⟩ (RVs.mono K _ _ hr)
 | tup a ho hl hr =>
  obtain ⟨o,e,r⟩:=a
  obtain ⟨ol,el,rl⟩:=id hl
  exact .tup ⟨o,hI o e,r⟩ (K.off (by rw [el];exact nofun) ho) ⟨ol,K.keep _ _ el ho (IsTuple.solid hl el),rl⟩ (RVs.mono K _ _ hr)
 | ascii a=>refine aO (a) fun o e r=>?_;exact .ascii ⟨o,hI o e,r⟩
 | wide a=>refine aO (a) fun o e r=>?_;exact .wide ⟨o,hI o e,r⟩
 | rng a=>exact .rng (hI _ a)
 | dyn hp a =>
  refine byQ fun Q kQ=>?_
  refine aO (a) fun o e r=>?_
  refine a7 (K.ext) fun new h_p=>?_;have e':=h_p.1
  refine kQ ?_
  exact .dyn (by rw [e',List.getElem?_append_left (List.getElem?_eq_some_iff.mp hp).1];exact hp) ⟨o,hI o e,r⟩
section
variable {G:Wd} {A:Around} {C:Cx} {env:Env} {W:List Addr} {η:ac} {σ σ' σ₁ σ₂ aj:List AO} {ρ ρ':Rho} {s s':Shared}
theorem vg{I:Addr}{h':Heap}{t:Nat}(R:Rel G σ ρ s)(hoff:Off ρ I)(hbase:G.s₀.heap.get? I=none)(hloose:I ∉ G.loose)(hns:∃ o,s.heap.get? I=some o/\¬ Solid o)
  (hs:Heap.ExtBut I s.heap h') (hal:h'.get? I≠none):StepW G [I] ρ s ρ { s with heap:=h',toks:=t } σ/\KeepV s.heap ρ h' ρ :=
 lB R (List.mem_singleton.mpr rfl) hoff.1 hbase hloose (fun o e _=>aO hns fun oi hoi hni=>siX (hoi.symm.trans e) ▸ hni) hs hal
theorem iJ{L:List V}{x:V}{st':ItS}(h:(ItS.seq L).step σ=some (some (x,st'))):∃ r,L=x::r/\st'=.seq r:=by
 cases L with
 | nil=>exact nso (siX h)
 | cons y r=>exact have e:=sm2 (siX h ▸ rfl:some (x,st')=some (y,ItS.seq r));⟨r,e.1 ▸ rfl,e.2⟩
theorem dk{L:List V}(h:(ItS.seq L).step σ=some none):L=[]:=by
 cases L with
 | nil=>rfl
 | cons y r=>exact son (siX h)
theorem wU{k i:Nat}{u:Option (V × ItS)}(h:(ItS.dyn k i).step σ=some u):∃ items,σ[k]?=some ⟨items,none⟩/\u=(items[i]?).map fun x=>(x,.dyn k (i + 1)):=by
 rw [ItS.step_dyn] at h
 refine gc (σ[k]?) (fun e=>nso (e ▸ h)) fun o e=>?_
 obtain ⟨items,acc⟩:=o
 replace h:=(e) ▸ h
 cases acc with
 | some z=>exact nso h
 | none =>
  have h':(match items[i]? with
   | some x=>some (some (x,ItS.dyn k (i + 1)))
   | none=>some none)=some u:=h
  refine ⟨items,e,gc (items[i]?) (fun q=>?_) fun y q=>?_⟩ <;> (rw [q] at h' ⊢;exact (siX h').symm)
theorem dV{α:Type}{l:List α}{i:Nat}{x:α}{r:List α}(h:l.drop i=x::r):l[i]?=some x/\r=l.drop (i + 1) :=
 ⟨by rw [← Nat.add_zero i,← List.getElem?_drop,h];rfl,by rw [← List.tail_drop,h];rfl⟩
theorem xy{α β:Type}{f:α->β}{l:List α}{x:β}{r:List β}(h:l.map f=x::r):∃ y l',l=y::l'/\x=f y/\r=l'.map f:=by
 cases l with
 | nil=>exact nomatch h
 | cons y l'=>exact mT y l' rfl ((List.cons.inj h).1.symm) ((List.cons.inj h).2.symm)
noncomputable def PnK(ρ:Rho)(s:Shared)(I:Addr)(x:V)(st':ItS)(Q:Option Value->Shared->Prop):Prop :=
 ∀ (h':Heap) (t:Nat) (cv:Value),Heap.SameBut I s.heap h'->(KeepV s.heap ρ h' ρ->JI h' ρ I st'/\RV h' ρ x cv)->Q (some cv) { s with heap:=h',toks:=t }
theorem pnk{I:Addr}{st':ItS}{x:V}(R:Rel G σ ρ s)(hns:∃ o,s.heap.get? I=some o/\¬ Solid o)(hoff:Off ρ I)(hbase:G.s₀.heap.get? I=none)(hloose:I ∉ G.loose){Q:Option Value->Shared->Prop}
  (k:∀ cv s',StepW G [I] ρ s ρ s' σ->KeepV s.heap ρ s'.heap ρ->RV s'.heap ρ x cv->JI s'.heap ρ I st'->Q (some cv) s'):PnK ρ s I x st' Q:=fun h' t cv hs hj=>by
 have K:KeepV s.heap ρ h' ρ:=⟨⟨[],(List.append_nil _).symm,fun _ h=>nomatch h⟩,fun _ h=>.inl h,fun b o e _ hsol=>hs.extBut b o (fun q=>aO hns fun oi hoi hni=>hni (siX (hoi.symm.trans (q ▸ e)) ▸ hsol)) e⟩
 have j:=hj K
 exact k cv _ (vg R hoff hbase hloose hns hs.extBut (tH j.1.cls fun o _ e _ _ q=>son (e.symm.trans q))).1 K j.2 j.1
section
variable {I:Addr} {st':ItS} {x:V} {Q:Option Value->Shared->Prop} {E:Value->Shared->Prop}
theorem cH1{l:List V}{a:Addr}{i:Nat}{vs:Array Value}(P:PnK ρ s I x st' Q)(hst:(ItS.seq (l.drop i)).step σ=some (some (x,st')))(hit:s.heap.IsListIter I a i)(ho:Off ρ a)(hl:s.heap.IsList a vs)(hr:RVs s.heap ρ l vs.toList)(hne:a≠I) :
  wpAny (model G.prog G.w) A (pyNext (.ref I)) Q E s :=
 aO (iJ hst) fun r hd e=>have d:=dV hd
 aO (RVs.get hr d.1) fun c hc hx=>wpAny_pyNext_list_item hit hl (Array.getElem?_toList ▸ hc) fun h' hit' hs=>P h' s.toks c hs fun K=>⟨e.symm ▸ d.2 ▸ .lst hit' ho (hl.extBut hs.extBut hne) (RVs.mono K _ _ hr),RV.mono K _ _ hx⟩
theorem cF1{l:List V}{a:Addr}{i:Nat}{vs:Array Value}(P:PnK ρ s I x st' Q)(hst:(ItS.seq (l.drop i)).step σ=some (some (x,st')))(hit:s.heap.IsTupleIter I a i)(ho:Off ρ a)(hl:s.heap.IsTuple a vs)(hr:RVs s.heap ρ l vs.toList)(hne:a≠I) :
  wpAny (model G.prog G.w) A (pyNext (.ref I)) Q E s :=
 aO (iJ hst) fun r hd e=>have d:=dV hd
 aO (RVs.get hr d.1) fun c hc hx=>wpAny_pyNext_tuple_item hit hl (Array.getElem?_toList ▸ hc) fun h' hit' hs=>P h' s.toks c hs fun K=>⟨e.symm ▸ d.2 ▸ .tup hit' ho (hl.extBut hs.extBut hne) (RVs.mono K _ _ hr),RV.mono K _ _ hx⟩
theorem qV{y:Str}{i:Nat}(hst:(ItS.seq ((y.cps.toList.drop i).map fun c=>.str [c])).step σ=some (some (x,st'))):∃ c,y.cps[i]?=some c/\x=.str [c]/\st'=.seq ((y.cps.toList.drop (i + 1)).map fun c=>.str [c]) :=
 aO (iJ hst) fun r hm e=>tH (xy hm) fun c l' hd e1 e2=>have d:=dV hd
 ⟨c,Array.getElem?_toList ▸ d.1,e1,e.trans (e2 ▸ d.2 ▸ rfl)⟩
theorem xo{y:Str}{t:Tok}{i:Nat}(P:PnK ρ s I x st' Q)(hst:(ItS.seq ((y.cps.toList.drop i).map fun c=>.str [c])).step σ=some (some (x,st')))(hit:s.heap.IsStrIter I "str_ascii_iterator" y t i):wpAny (model G.prog G.w) A (pyNext (.ref I)) Q E s :=
 ww (qV hst) fun c hc e1 e2=>wpAny_pyNext_ascii_item hit hc fun h' hit' hs=>P h' (s.toks + 1) _ hs fun K=>⟨e2 ▸ .ascii hit',e1 ▸ RV.str_ (show 1<=lim by decide)⟩
theorem zQ{y:Str}{t:Tok}{i:Nat}(P:PnK ρ s I x st' Q)(hst:(ItS.seq ((y.cps.toList.drop i).map fun c=>.str [c])).step σ=some (some (x,st')))(hit:s.heap.IsStrIter I "str_iterator" y t i):wpAny (model G.prog G.w) A (pyNext (.ref I)) Q E s :=
 ww (qV hst) fun c hc e1 e2=>wpAny_pyNext_wide_item hit hc fun h' hit' hs=>P h' (s.toks + 1) _ hs fun K=>⟨e2 ▸ .wide hit',e1 ▸ RV.str_ (show 1<=lim by decide)⟩
theorem xj(y c:Int)(n:Nat):((List.range (n + 1)).map fun (j:Nat)=>V.int (y + j * c))=V.int y::(List.range n).map fun (j:Nat)=>.int (y + c + j * c):=by
 rw [List.range_succ_eq_map,List.map_cons,List.map_map]
 refine congr (congrArg _ (congrArg V.int (by rw [Int.natCast_zero,Int.zero_mul,Int.add_zero]))) (List.map_congr_left fun j _=>congrArg V.int ?_)
 show y + ((j + 1:Nat):Int) * c=_
 rw [Int.natCast_add,Int.natCast_one,Int.add_mul,Int.one_mul];lia
theorem cG1{y c:Int}{n:Nat}(P:PnK ρ s I x st' Q)(hst:(ItS.seq ((List.range n).map fun (j:Nat)=>V.int (y + j * c))).step σ=some (some (x,st')))(hit:IsRangeIter s.heap I y n c):wpAny (model G.prog G.w) A (pyNext (.ref I)) Q E s:=by
 cases n with
 | zero=>exact son (siX hst).symm
 | succ n =>
  rw [xj] at hst
  refine aO (iJ hst) fun r hd e=>?_
  have q:=List.cons.inj hd
  refine wpAny_pyNext_range_item hit (by exact Int.ofNat_le.mpr (Nat.le_add_left (0 + 1) n)) fun h' hit' hs=>P h' (s.toks + 1) _ hs fun K=>⟨?_,q.1 ▸ RV.int_⟩
  rw [e,← q.2]
  exact .rng (by rw [show ((n + 1:Nat):Int) - 1=n by lia] at hit';exact hit')
theorem uD{k i:Nat}{p:Addr × Addr}{u:Option (V × ItS)}(R:Rel G σ ρ s)(hp:ρ.st[k]?=some p)(hst:(ItS.dyn k i).step σ=some u):∃ items vs,u=(items[i]?).map (fun x=>(x,ItS.dyn k (i + 1)))/\s.heap.PlainList p.1 vs/\RVs s.heap ρ items vs.toList :=
 aO (wU hst) fun items hσ hu=>by
  have ro:=R.obj k p _ hp hσ
  dsimp only [RO] at ro
  exact ro.2.2.elim fun vs h=>⟨items,vs,hu,h⟩
theorem cI1{k i:Nat}{p:Addr × Addr}(R:Rel G σ ρ s)(P:PnK ρ s I x st' Q)(hst:(ItS.dyn k i).step σ=some (some (x,st')))(hp:ρ.st[k]?=some p)(hit:s.heap.IsListIter I p.1 i):wpAny (model G.prog G.w) A (pyNext (.ref I)) Q E s :=
 tH (uD R hp hst) fun items vs hu hpl hr=>aO (Option.map_eq_some_iff.mp hu.symm) fun y hy e=>aO (RVs.get hr hy) fun c hc hv=>by
  have q:=Prod.mk.inj e
  exact wpAny_pyNext_list_item hit hpl.isList (Array.getElem?_toList ▸ hc) fun h' hit' hs=>P h' s.toks c hs fun K=>⟨q.2 ▸ .dyn hp hit',q.1 ▸ RV.mono K _ _ hv⟩
end
theorem jf{I:Addr}{st st':ItS}{x:V}(hst:st.step σ=some (some (x,st')))(R:Rel G σ ρ s)(J:JI s.heap ρ I st)
  (hoff:Off ρ I) (hbase:G.s₀.heap.get? I=none) (hloose:I ∉ G.loose) {Q:Option Value->Shared->Prop} {E:Value->Shared->Prop}
  (k:∀ cv s',StepW G [I] ρ s ρ s' σ->KeepV s.heap ρ s'.heap ρ->RV s'.heap ρ x cv->JI s'.heap ρ I st'->Q (some cv) s'):wpAny (model G.prog G.w) A (pyNext (.ref I)) Q E s:=by
 have hns:=J.not_solid
 have P:=pnk R hns hoff hbase hloose k
 cases J with
 | lst hit ho hl hr=>exact cH1 P hst hit ho hl hr fun e=>aO hns fun oi hoi hni=>hni (IsList.solid (e ▸ hl) hoi)
 | tup hit ho hl hr=>exact cF1 P hst hit ho hl hr fun e=>aO hns fun oi hoi hni=>hni (IsTuple.solid (e ▸ hl) hoi)
 | ascii hit=>exact xo P hst hit
 | wide hit=>exact zQ P hst hit
 | rng hit=>exact cG1 P hst hit
 | dyn hp hit=>exact cI1 R P hst hp hit
theorem vP{l:List V}{i:Nat}{h:Heap}{vs:Array Value}(hr:RVs h ρ l vs.toList)(hi:l.length<=i):vs[i]?=none :=
 Array.getElem?_eq_none_iff.mpr (by have:=RVs.length hr;rw [Array.length_toList] at this;exact this ▸ hi)
theorem uk{y:Str}{i:Nat}(hst:(ItS.seq ((y.cps.toList.drop i).map fun c=>.str [c])).step σ=some none):y.cps[i]?=none :=
 Array.getElem?_eq_none_iff.mpr (List.drop_eq_nil_iff.mp (List.map_eq_nil_iff.mp (dk hst)))
theorem je{I:Addr}{st:ItS}(hh:A.handled=none)(hst:st.step σ=some none)(R:Rel G σ ρ s)(J:JI s.heap ρ I st)
  (hoff:Off ρ I) (hbase:G.s₀.heap.get? I=none) (hloose:I ∉ G.loose) {Q:Option Value->Shared->Prop} {E:Value->Shared->Prop}
  (k:∀ s',(∃ h',s'={ s with heap:=h' }/\Heap.ExtBut I s.heap h')->Q none s'):wpAny (model G.prog G.w) A (pyNext (.ref I)) Q E s:=by
 have k':∀ h',Heap.ExtBut I s.heap h'->Q none { s with heap:=h' }:=fun h' hs=>k _ ⟨h',rfl,hs⟩
 cases J with
 | lst hit ho hl hr=>exact wpAny_pyNext_list_end hh hit hl (vP hr (List.drop_eq_nil_iff.mp (dk hst))) k'
 | tup hit ho hl hr=>exact wpAny_pyNext_tuple_end hh hit hl (vP hr (List.drop_eq_nil_iff.mp (dk hst))) k'
 | ascii hit=>exact wpAny_pyNext_ascii_end hh hit (uk hst) k'
 | wide hit=>exact wpAny_pyNext_wide_end hh hit (uk hst) k'
 | @rng y c n hit=>exact wpAny_pyNext_range_end hh hit (by have:=congrArg List.length (dk hst);rw [List.length_map,List.length_range] at this;have:n=0:=this;solve_by_elim (maxDepth:=4) only [*,Nat.le_trans,Nat.lt_of_lt_of_le,Nat.lt_of_le_of_lt,Nat.le_of_lt,Nat.le_of_eq,Nat.le_refl,Eq.symm,Nat.le_add_right,Nat.le_add_left,Nat.le_succ,Nat.sub_le,Nat.succ_le_succ,Nat.lt_succ_of_le,Nat.le_of_lt_succ,Nat.zero_le,Nat.succ_pos,Int.ofNat_le.mpr,Int.ofNat_lt.mpr,Int.natCast_nonneg,Nat.not_le.mpr,Nat.not_lt.mpr,Nat.not_le.mp,Nat.not_lt.mp]) k'
 | dyn hp hit=>exact tH (uD R hp hst) fun items vs hu hpl hr=>wpAny_pyNext_list_end hh hit hpl.isList (vP hr (List.getElem?_eq_none_iff.mp (Option.map_eq_none_iff.mp hu.symm))) k'
theorem xC{l:List Nat}{cv:Value}{Q:Value->Shared->Prop}{E:Value->Shared->Prop}(r:RV s.heap ρ (.str l) cv)(k:∀ o:Obj,JI (s.heap.push o) ρ s.heap.objs.size (.seq (l.map fun c=>.str [c]))->Q (.ref s.heap.objs.size) { s with heap:=s.heap.push o }):wpAny (model G.prog G.w) A (pyIter cv) Q E s:=by
 obtain ⟨hl,t,rfl⟩:=RV.str_iff r
 refine d01 ((⟨l.toArray⟩:Str).cps.all (· < 128)) (fun ha=>wpAny_pyIter_ascii ha (k _ ?_)) fun ha=>wpAny_pyIter_wide ha (k _ ?_)
 ·exact JI.ascii (x:=⟨l.toArray⟩) (t:=t) (i:=0) ⟨_,Heap.get?_push_size _ rfl,rfl,rfl⟩
 ·exact JI.wide (x:=⟨l.toArray⟩) (t:=t) (i:=0) ⟨_,Heap.get?_push_size _ rfl,rfl,rfl⟩
theorem uE{a b c:Int}(h:-1000000<=a/\a<=1000000/\-1000000<=b/\b<=1000000/\1<=c/\c<=1000000):(0<=Builtin.Range.rangeSize a b c/\Builtin.Range.rangeSize a b c<=3000000):=by
 refine eI1 h fun a1 a2 b1 b2 c1 c2=>?_
 have e:Builtin.Range.rangeSize a b c=if a < b then (b - a - 1) / c + 1 else 0:=if_pos c1
 rw [e]
 by_cases q:a < b
 ·have h0:0<=b - a - 1:=Int.sub_nonneg_of_le (Int.le_sub_left_of_add_le q)
  have h1:0<=(b - a - 1) / c:=Int.ediv_nonneg h0 (Int.le_trans (by decide) c1)
  have h2:(b - a - 1) / c<=b - a - 1:=Int.ediv_le_self _ h0
  rw [if_pos q]
  exact ⟨Int.le_add_one h1,by lia⟩
 ·rw [if_neg q];exact ⟨Int.le_refl _,by decide⟩
theorem eT{i:Int}(h1:-9000000<=i)(h2:i<=9000000):Builtin.Range.rangeFitsLong i=true :=
 Bool.and_eq_true_iff.mpr ⟨decide_eq_true (Int.le_trans (by decide) h1),decide_eq_true (Int.lt_of_le_of_lt h2 (by decide))⟩
theorem yG{a b c:Int}(h:-1000000<=a/\a<=1000000/\-1000000<=b/\b<=1000000/\1<=c/\c<=1000000):Builtin.Range.small a b c=true:=by
 have z:=uE h
 refine eI1 h fun a1 a2 b1 b2 c1 c2=>?_
 have e:(if c > 0 then Builtin.Range.rangeFitsLong (b + (c - 1)) else Builtin.Range.rangeFitsLong (b + (c + 1)))=true:=by rw [if_pos (show c > 0 from c1)];exact eT (by lia) (by lia)
 have up:∀ {i:Int},i<=1000000->i<=9000000:=fun h=>Int.le_trans h (by decide)
 have dn:∀ {i:Int},-1000000<=i->-9000000<=i:=fun h=>Int.le_trans (by decide) h
 show (_ && _ && _ && _ && (_ || _))=true
 rw [e,Bool.or_true,eT (dn a1) (up a2),eT (dn b1) (up b2),eT (Int.le_trans (by decide) c1) (up c2),eT (Int.le_trans (by decide) z.1) (Int.le_trans z.2 (by decide))]
 rfl
theorem xE{a b c:Int}{cv:Value}{Q:Value->Shared->Prop}{E:Value->Shared->Prop}(r:RV s.heap ρ (.rng a b c) cv)(k:∀ o:Obj,JI (s.heap.push o) ρ s.heap.objs.size (.seq (eP a b c))->Q (.ref s.heap.objs.size) { s with heap:=s.heap.push o }):wpAny (model G.prog G.w) A (pyIter cv) Q E s:=by
 refine byQ fun Q kQ=>?_
 obtain ⟨hk,p,t,u,w,rfl,ho,hr⟩:=RV.rng_iff r
 have hk':=of_decide_eq_true hk
 refine kQ ?_
 refine wpAny_pyIter_range hr (yG hk') (k _ ?_)
 exact JI.rng (x:=a) (c:=c) (n:=(Builtin.Range.rangeSize a b c).toNat) (by exact (Int.toNat_of_nonneg (uE hk').1) ▸ (Heap.get?_push_size _ rfl))
theorem jg{v:V}{st:ItS}{cv:Value}(e:a6 v=some st)(hst:st.step σ≠none)(R:Rel G σ ρ s)(r:RV s.heap ρ v cv){Q:Value->Shared->Prop}{E:Value->Shared->Prop}
  (k:∀ s',Step G ρ s ρ s' σ->(∀ b o,s.heap.get? b=some o->s'.heap.get? b=some o)->Off ρ s.heap.objs.size->JI s'.heap ρ s.heap.objs.size st->Q (.ref s.heap.objs.size) s'):wpAny (model G.prog G.w) A (pyIter cv) Q E s:=by
 have keep:∀ o:Obj,∀ b x,s.heap.get? b=some x->(s.heap.push o).get? b=some x:=fun o b x e=>Heap.get?_push_of_some _ e
 have k':∀ o:Obj,JI (s.heap.push o) ρ s.heap.objs.size st->Q (.ref s.heap.objs.size) { s with heap:=s.heap.push o }:=fun o=>k _ (Step.grow R (keep o) ⟨_,_,rfl⟩) (keep o) (bT R)
 cases v with
 | str l=>exact xC r ((siX e).symm ▸ k')
 | tup l =>
  obtain ⟨hl,a,vs,rfl,ho,ht,hr⟩:=RV.tup_iff r
  exact wpAny_pyIter_tuple ht.isTuple (k' _ (siX e ▸ JI.tup (i:=0) ⟨_,Heap.get?_push_size _ rfl,rfl,rfl⟩ ho (ht.isTuple.push _) (RVs.sameHeap (keep _) hr)))
 | lst l =>
  obtain ⟨hl,a,vs,rfl,ho,ht,hr⟩:=RV.lst_iff r
  exact wpAny_pyIter_list ht.isList (k' _ (siX e ▸ JI.lst (i:=0) ⟨_,Heap.get?_push_size _ rfl,rfl,rfl⟩ ho (ht.isList.push _) (RVs.sameHeap (keep _) hr)))
 | rng a b c=>exact xE r ((siX e).symm ▸ k')
 | ref kk =>
  obtain rfl:=siX e
  obtain ⟨p,hp,rfl⟩:=RV.ref_iff r
  refine gc ((ItS.dyn kk 0).step σ) (fun q=>absurd q hst) fun u hu=>tH (uD R hp hu) fun items vs _ hpl hr=>?_
  exact wpAny_pyIter_list hpl.isList (k' _ (JI.dyn hp ⟨_,Heap.get?_push_size _ rfl,rfl,rfl⟩))
 | _=>exact nso e
end
theorem JI.no_cell{h:Heap}{ρ:Rho}{I:Addr}{st:ItS}(x:JI h ρ I st):∃ o,h.get? I=some o/\∀ v,o.data≠.cell v:=by
 cases x with
 | lst a=>obtain ⟨o,ho,hc,hd⟩:=a;exact ⟨o,ho,fun v e=>by rw [hd] at e;cases e⟩
 | tup a=>obtain ⟨o,ho,hc,hd⟩:=a;exact ⟨o,ho,fun v e=>by rw [hd] at e;cases e⟩
 | ascii a=>obtain ⟨o,ho,hc,hd⟩:=a;exact ⟨o,ho,fun v e=>by rw [hd] at e;cases e⟩
 | wide a=>obtain ⟨o,ho,hc,hd⟩:=a;exact ⟨o,ho,fun v e=>by rw [hd] at e;cases e⟩
 | rng a=>exact ⟨_,a,fun v e=>by cases e⟩
 | dyn _ a=>obtain ⟨o,ho,hc,hd⟩:=a;exact ⟨o,ho,fun v e=>by rw [hd] at e;cases e⟩
section
variable {G:Wd} {A:Around} {C:Cx} {env:Env} {W:List Addr} {η η' η₁ η₂ bw:ac} {σ σ' σ₁ σ₂ aj:List AO} {ρ ρ' ab:Rho} {s s' ao aA:Shared}
theorem RE.keepAll(N:RE G C env W η ρ s)(K:KeepV s.heap ρ s'.heap ρ')(h1:∀ b∈W,∀ o,s.heap.get? b=some o->s'.heap.get? b=some o)
  (h2:∀ c o v,s.heap.get? c=some o->o.data=.cell v->Off ρ c->s'.heap.get? c=some o):RE G C env W η ρ' s':=by
 refine ⟨N.ok,N.sc,N.glob,N.blt,N.lmem,fun b hb=>⟨?_,(N.wok b hb).2⟩,fun b hb=>?_,?_,fun x hx hk=>?_,N.apart⟩
 ·refine aO (N.wk b hb) fun o' e' hd=>?_
  exact K.off (by rw [e'];exact nofun) (N.wok b hb).1
 ·refine aO (N.wk b hb) fun o' e' hd=>?_
  exact ⟨o',h1 b hb _ e',hd⟩
 ·refine byQ fun Q kQ=>?_
  refine aO (N.loc) fun m h_1 h=>?_;refine yL (h_1) fun o es ep ho r=>?_
  refine kQ ?_
  refine ⟨m,⟨o,es,ep,h1 _ N.lmem _ ho,r⟩,fun x hx hk v hv=>?_⟩
  refine a7 (h x hx hk v hv) fun cv h_p=>?_;have e1:=h_p.1;have e2:=h_p.2
  exact ⟨cv,e1,RV.mono K _ _ e2⟩
 ·refine byQ fun Q kQ=>?_
  refine z2 (N.cel x hx hk) fun c ov e1 h_3 h3 h4 h5=>?_;refine aO (h_3) fun o ho hd=>?_
  refine kQ ?_
  refine yN c ov e1 ⟨o,h2 c o _ ho hd h4,hd⟩ h3 (K.off (by rw [ho];exact nofun) h4) (fun v hv=>?_)
  refine a7 (h5 v hv) fun cv h_p=>?_;have e1:=h_p.1;have e2:=h_p.2
  exact ⟨cv,e1,RV.mono K _ _ e2⟩
theorem Step.toW(S:Step G ρ s ρ' s' σ'):StepW G W ρ s ρ' s' σ':=StepW.weaken S fun _ h=>nomatch h
theorem StepW.drop{W':List Addr}(S:StepW G W ρ s ρ' s' σ')(h:∀ b∈W,s.heap.get? b≠none->b∈W'):StepW G W' ρ s ρ' s' σ' where
 rel:=S.rel
 ext:=S.ext
 keep:=fun b o e ho hw hl=>S.keep b o e ho (fun q=>hw (h b q (by rw [e];exact nofun))) hl
 wal:=fun b _ q=>S.alive q
noncomputable def As(G:Wd)(A:Around)(C:Cx)(env:Env)(W:List Addr)(tg:Expr)(v:V)(η η':ac):Prop :=
 ∀ σ ρ s cv,Rel G σ ρ s->RE G C env W η ρ s->RV s.heap ρ v cv->wpAny (model G.prog G.w) A (assign tg env cv) (fun _ s'=>StepW G W ρ s ρ s' σ/\RE G C env W η' ρ s') No s
theorem As.name{x:Var}{pos:Pos}{v:V}(hx:x∈C.vars)(ho:x.own=true):As G A C env W (.Name x.name pos) v η (η.set x.slot (some v)):=fun σ ρ s cv R N r =>
 wpAny_assign_Name (RE.store R N hx ho r fun s' S N'=>⟨S,N'⟩)
noncomputable def kI:ac->List Var->List V->ac
 | η,x::xs,v::vs=>kI (η.set x.slot (some v)) xs vs
 | η,_,_=>η
noncomputable def Names(C:Cx):List Expr->List Var->Prop
 | [],xs=>xs=[]
 | e::es,xs=>∃ x r p,xs=x::r/\e=.Name x.name p/\x∈C.vars/\x.own=true/\Names C es r
theorem Names.length:∀ {es:List Expr} {xs:List Var},Names C es xs->xs.length=es.length
 | [],_,h=>by delta Names at h;rw [h];rfl
 | e::es,xs,h=>by dsimp only [Names] at h;obtain ⟨x,r,p,rfl,_,_,_,h⟩:=h;rw [List.length_cons,List.length_cons,h.length]
theorem Names.each(env:Env):∀ {es:List Expr} {xs:List Var},Names C es xs->(assignEach es env).length=es.length/\(assignEach es env).findIdx? (·.1)=none
 | [],_,h=>⟨rfl,rfl⟩
 | e::es,xs,h=>by
  dsimp only [Names] at h
  obtain ⟨x,r,p,h_p⟩:=h;obtain rfl:=h_p.1;obtain rfl:=h_p.2.1;have h:=h_p.2.2.2.2
  have:=Names.each env h
  have e1:assignEach (.Name x.name p::es) env=(false,assign (.Name x.name p) env)::assignEach es env:=rfl
  refine (e1) ▸ ?_
  exact ⟨by rw [List.length_cons,List.length_cons,this.1],by rw [List.findIdx?_cons,this.2];rfl⟩
theorem aio{t:Value->Sem Unit}{ts x xs}:assignInOrder (t::ts) (x::xs)=(holding xs (t x) >>= fun _=>assignInOrder ts xs):=rfl
theorem yB:∀ {es:List Expr} {xs:List Var} {vs:List V} {cvs:List Value} {η:ac} {s:Shared},Names C es xs->vs.length=xs.length->Rel G σ ρ s->RE G C env W η ρ s->RVs s.heap ρ vs cvs ->
  wpAny (model G.prog G.w) A (assignInOrder ((assignEach es env).map (·.2)) cvs) (fun _ s'=>StepW G W ρ s ρ s' σ/\RE G C env W (kI η xs vs) ρ s') No s
 | [],xs,vs,cvs,η,s,h,hl,R,N,r=>by
  delta Names at h;subst h
  have:vs=[]:=List.eq_nil_of_length_eq_zero hl
  subst this
  rw [RVs.nil_iff r]
  exact wpAny_pure ⟨(Step.refl R).toW,N⟩
 | e::es,xs,vs,cvs,η,s,h,hl,R,N,r=>by
  dsimp only [Names] at h
  refine fO (h) fun x r' p h_p=>?_;obtain rfl:=h_p.1;obtain rfl:=h_p.2.1;have hx:=h_p.2.2.1;have ho:=h_p.2.2.2.1;have h:=h_p.2.2.2.2
  cases vs with
  | nil=>cases hl
  | cons v vs =>
   refine dp (RVs.cons_iff r) fun c cs h_p=>?_;obtain rfl:=h_p.1;have hv:=h_p.2.1;have hvs:=h_p.2.2
   show wpAny _ _ (assignInOrder (assign (.Name x.name p) env::(assignEach es env).map (·.2)) (c::cs)) _ _ s
   rw [aio]
   refine wpAny_bind (wpAny_holding (wpAny_mono (As.name hx ho σ ρ s c R N hv) (fun _ ao ⟨ag,aL⟩=>?_) fun _ _ f=>f.elim))
   refine wpAny_mono (yB h (by simpa using hl) ag.rel aL (RVs.mono (StepW.keepV R N.wk ag) _ _ hvs)) ((by rintro _ aA ⟨au,cN⟩;exact ⟨ag.trans au,cN⟩)) fun _ _ f=>f.elim
theorem As.tup{es:List Expr}{xs:List Var}{k}{pos:Pos}{vs:List V}(hh:A.handled=none)(h:Names C es xs)(hl:vs.length=xs.length):As G A C env W (.Tuple es k pos) (.tup vs) η (kI η xs vs):=fun σ ρ s cv R N r=>by
 obtain ⟨hlim,a,cvs,h_p⟩:=RV.tup_iff r;obtain rfl:=h_p.1;have ho:=h_p.2.1;have ht:=h_p.2.2.1;have hr:=h_p.2.2.2
 have hsz:cvs.size=vs.length:=by have:=RVs.length hr;simpa using this
 refine wpAny_assign_Tuple hh ht.isTuple (by rw [(h.each env).1,hsz,hl,h.length]) (h.each env).2 fun h' he=>?_
 have hk:∀ b o,s.heap.get? b=some o->h'.get? b=some o:=fun b o e=>he b o (Nat.ne_of_lt (Heap.lt_size e)) e
 have S:Step G ρ s ρ { s with heap:=h' } σ:=Step.grow R hk ⟨_,_,rfl⟩
 exact wpAny_mono (yB h hl S.rel (N.mono R S) (RVs.sameHeap hk hr)) ((by rintro _ aA ⟨au,cN⟩;exact ⟨S.toW.trans au,cN⟩)) fun _ _ f=>f.elim
set_option genInjectivity false in
set_option genSizeOf false in
inductive Fl where
 | next | brk | ret (v:V)
noncomputable def RF(h:Heap)(ρ:Rho):Fl->Flow->Prop
 | .next,f=>f=.next
 | .brk,f=>f=.brk
 | .ret v,f=>∃ cv,f=.ret cv/\RV h ρ v cv
inductive PS (G:Wd) (C:Cx) (env:Env) (W:List Addr) (ρ:Rho) (s:Shared) (σ':List AO) (η':ac) (fl:Fl) (f:Flow) (s':Shared):Prop
 | mk (ρ':Rho) (S:StepW G W ρ s ρ' s' σ') (N:RE G C env W η' ρ' s') (r:RF s'.heap ρ' fl f)
noncomputable def Es(G:Wd)(A:Around)(C:Cx)(env:Env)(W:List Addr)(st:Stmt)(σ:List AO)(η:ac)(fl:Fl)(σ':List AO)(η':ac):Prop :=
 ∀ ρ s,Rel G σ ρ s->RE G C env W η ρ s->0 < s.toks->wpAny (model G.prog G.w) A (exec st env) (PS G C env W ρ s σ' η' fl) No s
noncomputable def Ess(G:Wd)(A:Around)(C:Cx)(env:Env)(W:List Addr)(st:List Stmt)(σ:List AO)(η:ac)(fl:Fl)(σ':List AO)(η':ac):Prop :=
 ∀ ρ s,Rel G σ ρ s->RE G C env W η ρ s->0 < s.toks->wpAny (model G.prog G.w) A (execs st env) (PS G C env W ρ s σ' η' fl) No s
theorem Es.use{st:Stmt}{fl:Fl}{Q:Flow->Shared->Prop}{E:Value->Shared->Prop}(H:Es G A C env W st σ η fl σ' η')(R:Rel G σ ρ s)(N:RE G C env W η ρ s)(ht:0 < s.toks)
  (k:∀ f s' ρ',StepW G W ρ s ρ' s' σ'->RE G C env W η' ρ' s'->0 < s'.toks->RF s'.heap ρ' fl f->Q f s'):wpAny (model G.prog G.w) A (exec st env) Q E s :=
 f5 (H ρ s R N ht) (by rintro cv s' hle ⟨ρ',S,N',r⟩;exact k cv s' ρ' S N' (Nat.lt_of_lt_of_le ht hle) r)
theorem Ess.use{st:List Stmt}{fl:Fl}{Q:Flow->Shared->Prop}{E:Value->Shared->Prop}(H:Ess G A C env W st σ η fl σ' η')(R:Rel G σ ρ s)(N:RE G C env W η ρ s)(ht:0 < s.toks)
  (k:∀ f s' ρ',StepW G W ρ s ρ' s' σ'->RE G C env W η' ρ' s'->0 < s'.toks->RF s'.heap ρ' fl f->Q f s'):wpAny (model G.prog G.w) A (execs st env) Q E s :=
 f5 (H ρ s R N ht) (by rintro cv s' hle ⟨ρ',S,N',r⟩;exact k cv s' ρ' S N' (Nat.lt_of_lt_of_le ht hle) r)
theorem Ess.nil:Ess G A C env W [] σ η .next σ η:=fun ρ s R N ht=>wpAny_execs_nil ⟨ρ,(Step.refl R).toW,N,rfl⟩
theorem Ess.cons{st:Stmt}{rest:List Stmt}{fl:Fl}(h:Es G A C env W st σ η .next σ₁ η₁)(hr:Ess G A C env W rest σ₁ η₁ fl σ₂ η₂):Ess G A C env W (st::rest) σ η fl σ₂ η₂:=fun ρ s R N ht =>
 wpAny_execs_cons (h.use R N ht fun f ao ab ag aL aM aw=>by
  have e:f=.next:=aw
  subst e
  exact hr.use ag.rel aL aM fun f aA av au cN dH aG=>⟨av,ag.trans au,cN,aG⟩)
theorem Ess.stop{st:Stmt}{rest:List Stmt}{fl:Fl}(hf:fl≠.next)(h:Es G A C env W st σ η fl σ₁ η₁):Ess G A C env W (st::rest) σ η fl σ₁ η₁:=fun ρ s R N ht =>
 wpAny_execs_cons (h.use R N ht fun f ao ab ag aL aM aw=>by
  cases fl with
  | next=>exact absurd rfl hf
  | brk=>have e:f=.brk:=aw;subst e;exact ⟨ab,ag,aL,rfl⟩
  | ret v=>obtain ⟨cv,rfl,hv⟩:=aw;exact ⟨ab,ag,aL,cv,rfl,hv⟩)
noncomputable def d9(e:Expr):Bool:=!(e.ctorIdx == 8 || e.ctorIdx == 9 || e.ctorIdx == 10)
theorem ff{e:Expr}(h:d9 e=true)(t:Option Expr)(l:Nat):swapsWith e t l env=pure false:=by
 cases e <;> first | rfl | exact ftr h
theorem Es.asg{x:Var}{e:Expr}{p pos:Pos}{v:V}(hx:x∈C.vars)(ho:x.own=true)(hc:d9 e=true)(h:Ev G A C env W e σ η v σ₁):Es G A C env W (.Assign [.Name x.name p] e pos) σ η .next σ₁ (η.set x.slot (some v)):=fun ρ s R N ht =>
 wpAny_Assign_Name (h.use R N ht fun cv ao ab ag aL aM aw=>RE.store ag.rel aL hx ho aw fun aA au cN=>⟨ab,ag.toW.trans au,cN,rfl⟩) (ff hc _ _)
noncomputable def g41{α:Type}:Sem α->Option α
 | .pure a=>some a
 | _=>none
theorem b31{α:Type}{x:Sem α}{a:α}(h:g41 x=some a):x=Pure.pure a:=by cases x <;> first | exact nso h | exact congrArg Sem.pure (siX h)
noncomputable def hE1(C:Cx):Env:={ scope:=C.scope,locals:=0,globals:=0,cells:=[] }
noncomputable def nb(C:Cx)(ts:List Expr)(value:Expr):Option (Option (List Str)):=g41 (swappedStores [.Tuple ts 0 ⟨0,0,0,0⟩] value (hE1 C))
theorem wT{ts:List Expr}{k}{p:Pos}{value:Expr}(hs:env.scope=C.scope):swappedStores [.Tuple ts k p] value env=swappedStores [.Tuple ts 0 ⟨0,0,0,0⟩] value (hE1 C):=by
 obtain ⟨sc,lo,gl,ce,qu,fu,co,fr,bl⟩:=env
 have e:sc=C.scope:=hs
 subst e
 cases value <;> rfl
theorem g8{ts:List Expr}{k}{p:Pos}{value:Expr}{r:Option (List Str)}(hs:env.scope=C.scope)(hf:C.scope.kind=.function)(h:nb C ts value=some r) :
  swappedStores [.Tuple ts k p] value env=pure r:=(wT hs).trans (b31 h)
theorem Es.asgT{ts:List Expr}{xs:List Var}{k}{e:Expr}{p pos:Pos}{vs:List V}(hh:A.handled=none)(hc:d9 e=true)(hw:nb C ts e=some none)(hn:Names C ts xs)(hl:vs.length=xs.length)
  (h:Ev G A C env W e σ η (.tup vs) σ₁):Es G A C env W (.Assign [.Tuple ts k p] e pos) σ η .next σ₁ (kI η xs vs):=fun ρ s R N ht =>
 Assign_Tuple (h.use R N ht fun cv ao ab ag aL aM aw=>wpAny_mono (As.tup hh hn hl σ₁ ab ao cv ag.rel aL aw) ((by rintro _ aA ⟨au,cN⟩;exact ⟨ab,ag.toW.trans au,cN,rfl⟩)) fun _ _ f=>f.elim)
  (show swapsWith e (some (.Tuple ts k p)) pos.line env=pure false from ff hc _ _) (g8 N.sc (Cx.ok_parts N.ok).1 hw)
theorem Es.asg2{x y:Var}{ts:List Expr}{k}{e:Expr}{p pos:Pos}{u v:V}(hh:A.handled=none)(hc:d9 e=true)(hw:nb C ts e=some (some [x.name,y.name]))
  (hx:x∈C.vars) (hxo:x.own=true) (hy:y∈C.vars) (hyo:y.own=true)
  (h:Ev G A C env W e σ η (.tup [u,v]) σ₁):Es G A C env W (.Assign [.Tuple ts k p] e pos) σ η .next σ₁ ((η.set y.slot (some v)).set x.slot (some u)):=fun ρ s R N ht =>
 Assign_Tuple_swapped (names:=[x.name,y.name]) (h.use R N ht fun cv ao ab ag aL aM aw=>by
  obtain ⟨hlim,a,cvs,h_p⟩:=RV.tup_iff aw;obtain rfl:=h_p.1;have ho:=h_p.2.1;have hpl:=h_p.2.2.1;have hr:=h_p.2.2.2
  have hsz:cvs.size=2:=by have:=RVs.length hr;exact this
  rw [show [x.name,y.name].length=cvs.size by rw [hsz];rfl]
  refine wpAny_unpackItems_tuple hh hpl.isTuple fun h' he=>?_
  refine byQ fun Q kQ=>?_
  have hk:∀ b o,ao.heap.get? b=some o->h'.get? b=some o:=fun b o e=>he b o (Nat.ne_of_lt (Heap.lt_size e)) e
  have S:Step G ab ao ab { ao with heap:=h' } σ₁:=Step.grow ag.rel hk ⟨_,_,rfl⟩
  have cN:=aL.mono ag.rel S
  refine dp (RVs.cons_iff (RVs.sameHeap hk hr)) fun bD r' h_p=>?_;have e1:=h_p.1;have q1:=h_p.2.1;have q2:=h_p.2.2
  refine dp (RVs.cons_iff q2) fun cG r'' h_p=>?_;have e2:=h_p.1;have q3:=h_p.2.1;have q4:=h_p.2.2
  rw [RVs.nil_iff q4] at e2
  refine kQ ?_
  rw [e1,e2]
  show wpAny _ _ (assignInOrder [bindName env y.name,bindName env x.name] [cG,bD]) _ _ _
  rw [aio]
  refine wpAny_bind (wpAny_holding (wpAny_bindName (RE.store S.rel cN hy hyo q3 fun aA au mW=>?_)))
  rw [aio]
  refine wpAny_bind (wpAny_holding (wpAny_bindName (RE.store au.rel mW hx hxo (RV.mono (StepW.keepV S.rel cN.wk au) _ _ q1) fun fX b5 mM=>?_)))
  exact wpAny_pure ⟨ab,ag.toW.trans (S.toW.trans (au.trans b5)),mM,rfl⟩)
  (show swapsWith e (some (.Tuple ts k p)) pos.line env=pure false from ff hc _ _) (g8 N.sc (Cx.ok_parts N.ok).1 hw)
theorem Es.aug{x:Var}{e:Expr}{op:Operator}{p pos:Pos}{u v w:V}(hx:x∈C.vars)(ho:x.own=true)(hu:η[x.slot]?=some (some u))(h:Ev G A C env W e σ η v σ₁)
  (hop:On G A (fun | [a,b]=>inplaceOp op a b | _=>pure .none) σ₁ [u,v] w σ₂):Es G A C env W (.AugAssign (.Name x.name p) op e pos) σ η .next σ₂ (η.set x.slot (some w)):=fun ρ s R N ht =>
 wpAny_AugAssign_Name (RE.load R N hx hu fun kQ1 fM1=>h.use R N ht fun cv ao ab ag aL aM aw =>
  hop.use ag.rel (RVs.cons (RV.mono (Step.keepV R ag) _ _ fM1) (RVs.cons aw RVs.nil)) aM fun cG aA av au dH aG =>
   RE.store au.rel (aL.mono ag.rel au) hx ho aG fun fX b5 mW=>⟨av,ag.toW.trans (au.toW.trans b5),mW,rfl⟩)
theorem eR(N:RE G C env W η ρ s):interactive env=false:=by
 dsimp only [interactive]
 rw [N.sc,(Cx.ok_parts N.ok).1];rfl
theorem Es.expr{e:Expr}{pos:Pos}{v:V}(hc:d9 e=true)(h:Ev G A C env W e σ η v σ₁):Es G A C env W (.Expr e pos) σ η .next σ₁ η:=fun ρ s R N ht =>
 wpAny_Expr_any (h.use R N ht fun cv ao ab ag aL aM aw=>⟨ab,ag.toW,aL,rfl⟩) (eR N) (ff hc _ _)
theorem Es.ret{e:Expr}{pos:Pos}{v:V}(h:Ev G A C env W e σ η v σ₁):Es G A C env W (.Return (some e) pos) σ η (.ret v) σ₁ η:=fun ρ s R N ht =>
 wpAny_Return_some (h.use R N ht fun cv ao ab ag aL aM aw=>⟨ab,ag.toW,aL,cv,rfl,aw⟩)
theorem Es.brk{pos:Pos}:Es G A C env W (.Break pos) σ η .brk σ η:=fun ρ s R N ht=>wpAny_Break ⟨ρ,(Step.refl R).toW,N,rfl⟩
theorem Es.pass{pos:Pos}:Es G A C env W (.Pass pos) σ η .next σ η:=fun ρ s R N ht=>wpAny_Pass ⟨ρ,(Step.refl R).toW,N,rfl⟩
theorem Es.assert{e:Expr}{pos:Pos}(hh:A.handled=none)(h:Et G A C env W e σ η true σ₁):Es G A C env W (.Assert e none pos) σ η .next σ₁ η:=fun ρ s R N ht =>
 wpAny_Assert_new hh (h.use R N ht fun ao ab ag aL aM=>by
  rw [if_pos rfl]
  exact ⟨ab,ag.toW,aL,rfl⟩)
theorem Es.if_{e:Expr}{b o:List Stmt}{pos:Pos}{c:Bool}{fl:Fl}(h:Et G A C env W e σ η c σ₁)(hb:c=true->Ess G A C env W b σ₁ η fl σ₂ η₂)(ho:c=false->Ess G A C env W o σ₁ η fl σ₂ η₂) :
  Es G A C env W (.If e b o pos) σ η fl σ₂ η₂:=fun ρ s R N ht =>
 wpAny_If (h.use R N ht fun ao ab ag aL aM=>by
  cases c with
  | true=>rw [if_pos rfl];exact (hb rfl).use ag.rel aL aM fun f aA av au cN dH aG=>⟨av,ag.toW.trans au,cN,aG⟩
  | false=>rw [if_neg (by decide)];exact (ho rfl).use ag.rel aL aM fun f aA av au cN dH aG=>⟨av,ag.toW.trans au,cN,aG⟩)
noncomputable def Od(G:Wd)(A:Around)(σ:List AO)(u v:V)(σ':List AO):Prop :=
 ∀ ρ s bD cG,Rel G σ ρ s->RV s.heap ρ u bD->RV s.heap ρ v cG->0 < s.toks->wpAny (model G.prog G.w) A (delItem bD cG) (fun _ s'=>∃ ρ',Step G ρ s ρ' s' σ') No s
theorem Es.del{o i:Expr}{p pos:Pos}{u v:V}(d4:Ev G A C env W o σ η u σ₁)(fC:Ev G A C env W i σ₁ η v σ₂)
  (hop:Od G A σ₂ u v aj):Es G A C env W (.Delete [.Subscript o i p] pos) σ η .next aj η:=fun ρ s R N ht=>by
 refine wpAny_Delete ?_
 rw [arm_deleteEach_cons]
 refine wpAny_bind ?_
 rw [arm_delete_Subscript]
 refine wpAny_bind (d4.use R N ht fun bD ao ab ag aL aM aw=>wpAny_bind (wpAny_holding (fC.use ag.rel aL aM fun cG aA av au cN dH aG=>?_)))
 refine wpAny_bind (wpAny_standAt (wpAny_bind (wpAny_holding (wpAny_mono (hop av aA bD cG au.rel (RV.mono (Step.keepV ag.rel au) _ _ aw) aG dH) (fun _ fX ⟨bH,b5⟩=>?_) fun _ _ f=>f.elim))))
 exact wpAny_release (wpAny_deleteEach_nil ⟨bH,Step.toW (ag.trans (au.trans b5)),cN.mono au.rel b5,rfl⟩)
end
noncomputable def WhR(G:Wd)(A:Around)(C:Cx)(env:Env)(W:List Addr)(test:Expr)(body:List Stmt):Nat->List AO->ac->Fl->List AO->ac->Prop
 | 0,σ,η,fl,σ',η'=>(Et G A C env W test σ η false σ'/\fl=.next/\η'=η)\/∃ σ₁,Et G A C env W test σ η true σ₁/\((fl=.next/\Ess G A C env W body σ₁ η .brk σ' η')\/∃ v,fl=.ret v/\Ess G A C env W body σ₁ η (.ret v) σ' η')
 | n + 1,σ,η,fl,σ',η'=>∃ σ₁ σ₂ η₂,Et G A C env W test σ η true σ₁/\Ess G A C env W body σ₁ η .next σ₂ η₂/\WhR G A C env W test body n σ₂ η₂ fl σ' η'
noncomputable def FoR(G:Wd)(A:Around)(C:Cx)(env:Env)(W:List Addr)(tg:Expr)(body:List Stmt):Nat->ItS->List AO->ac->Fl->List AO->ac->Prop
 | 0,st,σ,η,fl,σ',η'=>(st.step σ=some none/\fl=.next/\σ'=σ/\η'=η)\/∃ x st' η₁,st.step σ=some (some (x,st'))/\As G A C env W tg x η η₁/\((fl=.next/\Ess G A C env W body σ η₁ .brk σ' η')\/∃ v,fl=.ret v/\Ess G A C env W body σ η₁ (.ret v) σ' η')
 | n + 1,st,σ,η,fl,σ',η'=>∃ x st' η₁ σ₂ η₂,st.step σ=some (some (x,st'))/\As G A C env W tg x η η₁/\Ess G A C env W body σ η₁ .next σ₂ η₂/\FoR G A C env W tg body n st' σ₂ η₂ fl σ' η'
section
variable {G:Wd} {A:Around} {C:Cx} {env:Env} {W W':List Addr} {η η' η₁ η₂ bw:ac} {σ σ' σ₁ σ₂ aj:List AO} {ρ ρ' ab:Rho} {s s' ao aA:Shared}
section
variable {test tg:Expr} {body:List Stmt} {n:Nat} {fl:Fl} {v x:V} {st st':ItS}
theorem WhR.stop(h:Et G A C env W test σ η false σ₁):WhR G A C env W test body 0 σ η .next σ₁ η:=.inl ⟨h,rfl,rfl⟩
theorem WhR.turn(h:Et G A C env W test σ η true σ₁)(hb:Ess G A C env W body σ₁ η .next σ₂ η₂)(hr:WhR G A C env W test body n σ₂ η₂ fl aj bw):WhR G A C env W test body (n + 1) σ η fl aj bw:=⟨_,_,_,h,hb,hr⟩
theorem WhR.brk(h:Et G A C env W test σ η true σ₁)(hb:Ess G A C env W body σ₁ η .brk σ₂ η₂):WhR G A C env W test body 0 σ η .next σ₂ η₂:=.inr ⟨_,h,.inl ⟨rfl,hb⟩⟩
theorem WhR.ret(h:Et G A C env W test σ η true σ₁)(hb:Ess G A C env W body σ₁ η (.ret v) σ₂ η₂):WhR G A C env W test body 0 σ η (.ret v) σ₂ η₂:=.inr ⟨_,h,.inr ⟨v,rfl,hb⟩⟩
theorem FoR.stop(h:st.step σ=some none):FoR G A C env W tg body 0 st σ η .next σ η:=.inl ⟨h,rfl,rfl,rfl⟩
theorem FoR.turn(h:st.step σ=some (some (x,st')))(ha:As G A C env W tg x η η₁)(hb:Ess G A C env W body σ η₁ .next σ₂ η₂)(hr:FoR G A C env W tg body n st' σ₂ η₂ fl aj bw):FoR G A C env W tg body (n + 1) st σ η fl aj bw:=⟨_,_,_,_,_,h,ha,hb,hr⟩
theorem FoR.brk(h:st.step σ=some (some (x,st')))(ha:As G A C env W tg x η η₁)(hb:Ess G A C env W body σ η₁ .brk σ₂ η₂):FoR G A C env W tg body 0 st σ η .next σ₂ η₂:=.inr ⟨_,_,_,h,ha,.inl ⟨rfl,hb⟩⟩
theorem FoR.ret(h:st.step σ=some (some (x,st')))(ha:As G A C env W tg x η η₁)(hb:Ess G A C env W body σ η₁ (.ret v) σ₂ η₂):FoR G A C env W tg body 0 st σ η (.ret v) σ₂ η₂:=.inr ⟨_,_,_,h,ha,.inr ⟨v,rfl,hb⟩⟩
end
inductive WInv (G:Wd) (A:Around) (C:Cx) (env:Env) (W:List Addr) (test:Expr) (body:List Stmt) (fl:Fl) (σ':List AO) (η':ac) (ρ:Rho) (s:Shared) (m:Nat) (s':Shared):Prop
 | mk (σ₁:List AO) (η₁:ac) (ab:Rho) (H:WhR G A C env W test body m σ₁ η₁ fl σ' η') (S:StepW G W ρ s ab s' σ₁) (N:RE G C env W η₁ ab s') (t:0 < s'.toks)
theorem Es.while{test:Expr}{body:List Stmt}{pos:Pos}{n:Nat}{fl:Fl}(H:WhR G A C env W test body n σ η fl σ' η'):Es G A C env W (.While test body [] pos) σ η fl σ' η':=fun ρ s R N ht=>by
 refine wpAny_While ?_
 refine codeAny_whileLoop (I:=WInv G A C env W test body fl σ' η' ρ s) ?_ n ⟨σ,η,ρ,H,(Step.refl R).toW,N,ht⟩
 rintro m ao ⟨σ₁,η₁,ab,wt,ag,aL,aM⟩
 cases m with
 | succ m =>
  refine byQ fun Q kQ=>?_
  refine fO (wt) fun _ _ _ h_p=>?_;have h:=h_p.1;have hb:=h_p.2.1;have hr:=h_p.2.2
  refine kQ ?_
  refine h.use ag.rel aL aM fun aA av au cN dH=>?_
  rw [if_pos rfl]
  refine hb.use au.rel cN dH fun f fX bH b5 mW kB gx=>?_
  have e:f=.next:=gx
  subst e
  exact ⟨_,Nat.lt_succ_self _,⟨_,_,bH,hr,ag.trans (au.toW.trans b5),mW,kB⟩⟩
 | zero =>
  refine Or.elim (wt) (fun h_l=>?_) (fun h_r=>?_)
  ·obtain ⟨h,rfl,rfl⟩:=h_l
   refine h.use ag.rel aL aM fun aA av au cN dH=>?_
   rw [if_neg (by decide)]
   exact wpAny_execs_nil ⟨av,ag.trans au.toW,cN,rfl⟩
  ·obtain ⟨_,h,wt⟩:=h_r
   refine h.use ag.rel aL aM fun aA av au cN dH=>?_
   rw [if_pos rfl]
   rcases wt with ⟨rfl,hb⟩ | ⟨v,rfl,hb⟩
   ·refine hb.use au.rel cN dH fun f fX bH b5 mW kB gx=>?_
    have e:f=.brk:=gx
    subst e
    exact ⟨bH,ag.trans (au.toW.trans b5),mW,rfl⟩
   ·refine hb.use au.rel cN dH fun f fX bH b5 mW kB gx=>?_
    obtain ⟨cv,h_p⟩:=gx;obtain rfl:=h_p.1;have hv:=h_p.2
    exact ⟨bH,ag.trans (au.toW.trans b5),mW,cv,rfl,hv⟩
theorem FoR.step_ok{tg:Expr}{body:List Stmt}{n:Nat}{st:ItS}{fl:Fl}(H:FoR G A C env W tg body n st σ η fl σ' η'):st.step σ≠none:=by
 cases n with
 | zero=>exact H.elim (fun h e=>nomatch h.1.symm.trans e) (by rintro ⟨_,_,_,h,_⟩ e;exact nomatch h.symm.trans e)
 | succ n=>refine i71 (H) fun _ _ _ _ _ h _=>?_;exact fun e=>nomatch h.symm.trans e
theorem JI.letOwned{tg:Expr}{I:Addr}{cv:Value}{st:ItS}(J:JI s.heap ρ I st){Q:Unit->Shared->Prop}{E:Value->Shared->Prop}(h:Q () s):wpAny (model G.prog G.w) A (letOwnedTupleGo tg (.ref I) cv) Q E s:=by
 refine tH (J.cls) fun o T ho hc hT=>?_
 have hno:["enumerate","zip","dict_itemiterator","dict_reverseitemiterator","odict_iterator","itertools.zip_longest","itertools.pairwise"].contains T=false:=by
  revert hT;unfold nU;intro hT
  simp only [List.mem_cons,List.not_mem_nil,or_false] at hT
  rcases hT with rfl | rfl | rfl | rfl | rfl <;> decide
 have main:∀ a:Addr,wpAny (model G.prog G.w) A (do
   let o ← load I
   match o.cls,o.data with
   | .type n,.fields vs =>
    if ["enumerate","zip","dict_itemiterator","dict_reverseitemiterator","odict_iterator","itertools.zip_longest","itertools.pairwise"].contains n && vs[0]? == some (rawInt a) then
     rule "for.unpacks-the-owned-tuple"
     updateField I 0 .none
   | _,_=>pure ()) Q E s:=by
  intro a
  refine wpAny_bind (wpAny_load ho ?_)
  refine (hc) ▸ ?_
  cases o.data <;> first
   | exact wpAny_pure h
   | (dsimp only;rw [hno,Bool.false_and];exact wpAny_pure h)
 unfold letOwnedTupleGo
 cases tg <;> first
  | exact wpAny_pure h
  | (cases cv <;> first | exact wpAny_pure h | exact main _)
theorem StepW.ofNew{I:Addr}(S:StepW G (I::W) ρ s ρ' s' σ')(h:s.heap.get? I=none):StepW G W ρ s ρ' s' σ' :=
 S.drop fun b hb hne=>by
  rcases List.mem_cons.mp hb with e | hb
  ·rw [e] at hne;exact absurd h hne
  ·exact hb
theorem RE.iterStep{I:Addr}{st:ItS}(N:RE G C env W η ρ s)(J:JI s.heap ρ I st)(hI:I ∉ W)(K:KeepV s.heap ρ s'.heap ρ)(hs:Heap.ExtBut I s.heap s'.heap):RE G C env W η ρ s' :=
 N.keepAll K (fun b hb o e=>hs b o (by rintro rfl;exact hI hb) e) fun c o v e hd _=>hs c o (by
  rintro rfl
  refine aO (J.no_cell) fun o' e' hno=>?_
  rw [e] at e';obtain rfl:=siX e'
  exact hno v hd) e
theorem ny{I:Addr}{st st':ItS}{x:V}(hst:st.step σ=some (some (x,st')))(R:Rel G σ ρ s)(J:JI s.heap ρ I st)(N:RE G C env W η ρ s)(hI:I ∉ W)
  (hoff:Off ρ I) (hbase:G.s₀.heap.get? I=none) (hloose:I ∉ G.loose) {Q:Option Value->Shared->Prop} {E:Value->Shared->Prop}
  (k:∀ cv s',StepW G (I::W) ρ s ρ s' σ->RE G C env W η ρ s'->RV s'.heap ρ x cv->JI s'.heap ρ I st'->Q (some cv) s'):wpAny (model G.prog G.w) A (pyNext (.ref I)) Q E s :=
 jf hst R J hoff hbase hloose fun cv s' S K r J'=>by
  refine k cv s' (S.weaken fun b hb=>by rw [List.mem_singleton.mp hb];exact List.mem_cons_self) ?_ r J'
  refine N.keepAll K (fun b hb o e=>S.keep b o e (N.wok b hb).1.1 (by rw [List.mem_singleton];rintro rfl;exact hI hb) (N.wok b hb).2.2) fun c o v e hd ho=>?_
  refine S.keep c o e ho.1 (by
   rw [List.mem_singleton];rintro rfl
   refine aO (J.no_cell) fun o' e' hno=>?_
   rw [e] at e';obtain rfl:=siX e'
   exact hno v hd) (dz R e hd)
theorem StepW.closeNew{I:Addr}{fZ:Rho}{s₀:Shared}{h':Heap}{t:Nat}(mV:StepW G (I::W) fZ s₀ ρ s σ)(hnew:s₀.heap.get? I=none)(hns:∃ o,s.heap.get? I=some o/\¬ Solid o)(hs:Heap.ExtBut I s.heap h')
  (hoff:Off ρ I) (hbase:G.s₀.heap.get? I=none) (hloose:I ∉ G.loose):StepW G W fZ s₀ ρ { s with heap:=h',toks:=t } σ/\KeepV s.heap ρ h' ρ:=by
 refine byQ fun Q kQ=>?_
 obtain ⟨oi,hoi,hni⟩:=hns
 have R:=mV.rel
 have K:KeepV s.heap ρ h' ρ:=⟨⟨[],(List.append_nil _).symm,fun _ h=>nomatch h⟩,fun _ h=>.inl h,fun b o e _ hsol=>hs b o (by rintro rfl;rw [hoi] at e;obtain rfl:=siX e;exact hni hsol) e⟩
 have R':Rel G σ ρ { s with heap:=h',toks:=t }:=by
  refine ⟨R.len,R.inj,fun j p o hp hx'=>?_,R.fresh,fun b o hl e=>?_,fun b hb=>?_,?_,R.bare,fun b hb=>?_⟩
  ·have hp':=hoff.1 p (List.mem_of_getElem? hp)
   exact (R.obj j p o hp hx').mono K (fun y e=>hs _ y hp'.1 e) fun y e=>hs _ y hp'.2 e
  ·exact hs b o (by rintro rfl;rw [hbase] at e;exact nso e) (R.keep b o hl e)
  ·obtain ⟨vs,h_p⟩:=R.lse b hb;have e:=h_p.1;have etr:=h_p.2
   exact ⟨vs,hs b _ (by rintro rfl;exact hloose hb) e,etr⟩
  ·refine fO (R.same) fun h tk gs e=>?_
   exact c31 h' t gs (by rw [e])
  ·show h'.get? b≠none
   refine gc (s.heap.get? b) (fun e=>?_) (fun x e=>?_)
   ·exact absurd e (R.hidden b hb)
   ·rw [hs b x (by rintro rfl;exact hoff.2 hb) e];exact nofun
 refine kQ ?_
 refine ⟨⟨R',mV.ext,fun b o e ho hw hl=>?_,fun b hb hne=>?_⟩,K⟩
 ·have hbI:b≠I:=by rintro rfl;rw [hnew] at e;exact nso e
  exact hs b o hbI (mV.keep b o e ho (by rw [List.mem_cons];rintro (h | h);exact hbI h;exact hw h) hl)
 ·have hbI:b≠I:=by rintro rfl;exact hne hnew
  have:=mV.wal b (List.mem_cons_of_mem _ hb) hne
  show h'.get? b≠none
  refine gc (s.heap.get? b) (fun e=>?_) (fun x e=>?_)
  ·exact absurd e this
  ·rw [hs b x hbI e];exact nofun
theorem nx{I:Addr}{st:ItS}{fZ:Rho}{s₀:Shared}(hh:A.handled=none)(hst:st.step σ=some none)(mV:StepW G (I::W') fZ s₀ ρ s σ)(hnew:s₀.heap.get? I=none)(J:JI s.heap ρ I st)(N:RE G C env W η ρ s)(hI:I ∉ W)
  (hoff:Off ρ I) (hbase:G.s₀.heap.get? I=none) (hloose:I ∉ G.loose) {Q:Option Value->Shared->Prop} {E:Value->Shared->Prop}
  (k:∀ s',StepW G W' fZ s₀ ρ s' σ->RE G C env W η ρ s'->KeepV s.heap ρ s'.heap ρ->Heap.ExtBut I s.heap s'.heap->Q none s'):wpAny (model G.prog G.w) A (pyNext (.ref I)) Q E s :=
 je hh hst mV.rel J hoff hbase hloose fun s' ⟨h',e,hs⟩=>by
  subst e
  refine jm (mV.closeNew (t:=s.toks) hnew J.not_solid hs hoff hbase hloose) fun S K=>?_
  exact k _ S (N.iterStep J hI K hs) K hs
noncomputable def hV(e:Expr):Bool:=!(e.ctorIdx == 7)
theorem ed{e:Expr}(h:hV e=true)(x:Value):foldedSetIterable e env x=pure x:=by
 cases e <;> first | rfl | exact ftr h
structure NewI (G:Wd) (W:List Addr) (ρ:Rho) (s:Shared) (I:Addr):Prop where
 new:s.heap.get? I=none
 base:G.s₀.heap.get? I=none
 loose:I ∉ G.loose
 notW:I ∉ W
theorem jj1(R:Rel G σ ρ s)(N:RE G C env W η ρ s):NewI G W ρ s s.heap.objs.size where
 new:=aE _
 base:=by
  cases e:G.s₀.heap.get? s.heap.objs.size with
  | none=>rfl
  | some x =>
   by_cases hl:s.heap.objs.size∈G.loose
   ·refine aO (R.lse _ hl) fun vs e' etr=>?_
    rw [aE] at e';exact nso e'
   ·have:=R.keep _ _ hl e
    rw [aE] at this;exact nso this
 loose:=fun hl=>by
  refine aO (R.lse _ hl) fun vs e' etr=>?_
  rw [aE] at e';exact nso e'
 notW:=fun hw=>by
  refine a7 (N.wk _ hw) fun o h_p=>?_;have e:=h_p.1
  rw [aE] at e;exact nso e
theorem StepW.offI{I:Addr}(S:StepW G W' ρ s ρ' s' σ')(h:s.heap.get? I≠none)(ho:Off ρ I):Off ρ' I :=
 ⟨S.off h ho.1,by refine aO (S.ext) fun new e _=>?_;rw [e];exact ho.2⟩
theorem mb{tg:Expr}{body:List Stmt}{I:Addr}{st st':ItS}{x:V}{fl:Fl}{E:Value->Shared->Prop}{en1:Shared->Prop}{Q:Flow->Shared->Prop}{fZ:Rho}{s₀:Shared}(Z:NewI G W fZ s₀ I)(R:Rel G σ ρ s)(N:RE G C env W η ρ s)(J:JI s.heap ρ I st)(ho:Off ρ I)(t:0 < s.toks)
  (hst:st.step σ=some (some (x,st'))) (ha:As G A C env W tg x η η₁) (hb:Ess G A C env W body σ η₁ fl σ' η')
  (k:∀ f s' ρ',StepW G (I::W) ρ s ρ' s' σ'->RE G C env W η' ρ' s'->JI s'.heap ρ' I st'->Off ρ' I->0 < s'.toks->RF s'.heap ρ' fl f->Q f s') :
  wpAny (model G.prog G.w) A (pyNext (.ref I)) (fun r ao=>match r with
    | none=>en1 ao
    | some v=>wpAny (model G.prog G.w) A (letOwnedTupleGo tg (.ref I) v) (fun _ wR =>
      wpAny (model G.prog G.w) A (assign tg env v) (fun _ aA=>wpAny (model G.prog G.w) A (execs body env) Q E aA) E wR) E ao) E s:=by
 refine wpAny_with_toks (Nat.le_refl _) (ny hst R J N Z.notW ho Z.base Z.loose fun cv ly jV mM xe eq1 dp1=>?_)
 have keepI:∀ {ρa ρb:Rho} {sa sb:Shared} {σb:List AO},StepW G W ρa sa ρb sb σb->WOk W sa.heap->Rel G σ ρa sa->JI sa.heap ρa I st'->Off ρa I->JI sb.heap ρb I st'/\Off ρb I:=fun S hwk Ra Ja ho =>
  ⟨Ja.keep (StepW.keepV Ra hwk S) fun o e=>S.keep I o e ho.1 Z.notW Z.loose,S.offI (by
   refine dp (Ja.cls) fun o _ h_p=>?_;have e:=h_p.1
   rw [e];exact nofun) ho⟩
 refine eq1.letOwned (f5 (ha σ ρ ly cv jV.rel mM xe) fun _ oV do1 yT=>?_)
 have bv1:=keepI yT.1 mM.wk jV.rel eq1 ho
 refine hb.use yT.1.rel yT.2 (Nat.lt_of_lt_of_le (Nat.lt_of_lt_of_le t dp1) do1) fun f g01 y8 bt1 gO1 fo1 fK1=>?_
 have hP1:=keepI bt1 yT.2.wk yT.1.rel bv1.1 bv1.2
 exact k f g01 y8 (jV.trans ((yT.1.trans bt1).weaken fun b hb=>List.mem_cons_of_mem _ hb)) gO1 hP1.1 hP1.2 fo1 fK1
inductive FInv (G:Wd) (A:Around) (C:Cx) (env:Env) (W:List Addr) (tg:Expr) (body:List Stmt) (fl:Fl) (σ':List AO) (η':ac) (I:Addr) (ρ:Rho) (s:Shared) (m:Nat) (s':Shared):Prop
 | mk (st:ItS) (σ₁:List AO) (η₁:ac) (ab:Rho) (H:FoR G A C env W tg body m st σ₁ η₁ fl σ' η') (S:StepW G (I::W) ρ s ab s' σ₁) (N:RE G C env W η₁ ab s') (J:JI s'.heap ab I st) (o:Off ab I) (t:0 < s'.toks)
theorem Es.for_{tg iter:Expr}{body:List Stmt}{pos:Pos}{n:Nat}{v:V}{st:ItS}{fl:Fl}(hh:A.handled=none)(hs:hV iter=true)(h:Ev G A C env W iter σ η v σ₁)(hi:a6 v=some st)
  (H:FoR G A C env W tg body n st σ₁ η fl σ' η'):Es G A C env W (.For tg iter body [] pos) σ η fl σ' η':=fun ρ s R N ht=>by
 refine wpAny_For (h.use R N ht fun cv ao ab ag aL aM aw=>?_) (fun x=>ed hs x)
 refine wpAny_with_toks (Nat.le_refl _) (jg hi H.step_ok ag.rel aw fun aA au hk hoff J hle=>?_)
 have NI:=jj1 ag.rel aL
 generalize ao.heap.objs.size=I at *
 -- the loop,told from ao
 refine codeAny_forLoop_any (I:=FInv G A C env W tg body fl σ' η' I ab ao) ?_ n
  ⟨st,σ₁,η,ab,H,au.toW,aL.mono ag.rel au,J,hoff,Nat.lt_of_lt_of_le aM hle⟩
 rintro m fX ⟨st',aj,bw,bH,eY1,b5,mW,eW1,l8,kB⟩
 have close:∀ {f:Flow} {iQ:Rho} {ly:Shared},StepW G (I::W) ab ao iQ ly σ'->RE G C env W η' iQ ly->RF ly.heap iQ fl f->PS G C env W ρ s σ' η' fl f ly :=
  fun jV mM r=>⟨_,ag.toW.trans (jV.ofNew NI.new),mM,r⟩
 cases m with
 | succ m =>
  refine byQ fun Q kQ=>?_
  refine g71 (eY1) fun _ _ _ _ _ hst ha hb hr=>?_
  refine kQ ?_
  refine mb NI b5.rel mW eW1 l8 kB hst ha hb fun f oV fY fW wz bv1 pU wK xd=>?_
  have e:f=.next:=xd
  subst e
  exact ⟨_,Nat.lt_succ_self _,⟨_,_,_,fY,hr,b5.trans fW,wz,bv1,pU,wK⟩⟩
 | zero =>
  rcases eY1 with ⟨hst,rfl,rfl,rfl⟩ | ⟨_,_,_,hst,ha,eY1⟩
  ·refine nx hh hst b5 NI.new eW1 mW NI.notW l8 NI.base NI.loose fun ly jV mM _ _=>?_
   exact wpAny_execs_nil ⟨bH,ag.toW.trans jV,mM,rfl⟩
  ·rcases eY1 with ⟨rfl,hb⟩ | ⟨v,rfl,hb⟩
   ·refine mb NI b5.rel mW eW1 l8 kB hst ha hb fun f oV fY fW wz bv1 pU wK xd=>?_
    have e:f=.brk:=xd
    subst e
    exact close (b5.trans fW) wz rfl
   ·refine mb NI b5.rel mW eW1 l8 kB hst ha hb fun f oV fY fW wz bv1 pU wK xd=>?_
    obtain ⟨cv,h_p⟩:=xd;obtain rfl:=h_p.1;have hv:=h_p.2
    exact close (b5.trans fW) wz ⟨cv,rfl,hv⟩
end
noncomputable def Tc(G:Wd)(A:Around)(C:Cx)(env:Env)(W:List Addr)(ifs:List Expr)(σ:List AO)(η:ac)(b:Bool)(σ':List AO):Prop :=
 (ifs=[]/\b=true/\σ'=σ)\/∃ c,ifs=[c]/\Et G A C env W c σ η b σ'
noncomputable def CoR(G:Wd)(A:Around)(C:Cx)(env:Env)(W:List Addr)(tg elt:Expr)(ifs:List Expr):Nat->ItS->List AO->ac->List V->List AO->Prop
 | 0,st,σ,η,out,σ'=>st.step σ=some none/\out=[]/\σ'=σ
 | n + 1,st,σ,η,out,σ'=>∃ x st' η₁ σ₁,st.step σ=some (some (x,st'))/\As G A C env W tg x η η₁/\((Tc G A C env W ifs σ η₁ false σ₁/\CoR G A C env W tg elt ifs n st' σ₁ η₁ out σ') \/
   ∃ v σ₂ o,Tc G A C env W ifs σ η₁ true σ₁/\Ev G A C env W elt σ₁ η₁ v σ₂/\CoR G A C env W tg elt ifs n st' σ₂ η₁ o σ'/\out=v::o)
section
variable {G:Wd} {A:Around} {C C':Cx} {env cenv:Env} {W W':List Addr} {η η' η₁ η₂ bw:ac} {σ σ' σ₁ σ₂ aj:List AO} {ρ ρ' ab:Rho} {s s' ao aA:Shared}
section
variable {tg elt:Expr} {ifs:List Expr} {n:Nat} {st st':ItS} {x v:V} {out:List V}
theorem CoR.stop(h:st.step σ=some none):CoR G A C env W tg elt ifs 0 st σ η [] σ:=⟨h,rfl,rfl⟩
theorem CoR.skip(h:st.step σ=some (some (x,st')))(ha:As G A C env W tg x η η₁)(hc:Tc G A C env W ifs σ η₁ false σ₁)(hr:CoR G A C env W tg elt ifs n st' σ₁ η₁ out σ'):CoR G A C env W tg elt ifs (n + 1) st σ η out σ':=⟨_,_,_,_,h,ha,.inl ⟨hc,hr⟩⟩
theorem CoR.item(h:st.step σ=some (some (x,st')))(ha:As G A C env W tg x η η₁)(hc:Tc G A C env W ifs σ η₁ true σ₁)(he:Ev G A C env W elt σ₁ η₁ v σ₂)(hr:CoR G A C env W tg elt ifs n st' σ₂ η₁ out σ'):CoR G A C env W tg elt ifs (n + 1) st σ η (v::out) σ' :=
 ⟨_,_,_,_,h,ha,.inr ⟨_,_,_,hc,he,hr,rfl⟩⟩
theorem CoR.step_ok(H:CoR G A C env W tg elt ifs n st σ η out σ'):st.step σ≠none:=by
 cases n with
 | zero=>exact fun e=>nomatch H.1.symm.trans e
 | succ n=>refine fT1 (H) fun _ _ _ _ h _=>?_;exact fun e=>nomatch h.symm.trans e
end
theorem Tc.use{ifs:List Expr}{b:Bool}{Q:Bool->Shared->Prop}{E:Value->Shared->Prop}(H:Tc G A C env W ifs σ η b σ')(R:Rel G σ ρ s)(N:RE G C env W η ρ s)(ht:0 < s.toks)
  (k:∀ s' ρ',Step G ρ s ρ' s' σ'->RE G C env W η ρ' s'->0 < s'.toks->Q b s') :
  wpAny (model G.prog G.w) A (forIn ifs true fun c r=>if r=true then do let ok ← isTrue c env (eval c env);pure (ForInStep.yield ok) else pure (ForInStep.yield r)) Q E s:=by
 rcases H with ⟨rfl,rfl,rfl⟩ | ⟨c,rfl,H⟩
 ·exact wpAny_tests_nil (k s ρ (Step.refl R) N ht)
 ·exact wpAny_tests_one (H.use R N ht k)
noncomputable def y6(M:Model)(A:Around)(target:Expr)(it:Value)(env:Env)(ifs:List Expr)(E:Value->Shared->Prop)(Q:Bool->Shared->Prop)(v:Value)(s:Shared):Prop :=
 wpAny M A (letOwnedTupleGo target it v) (fun _ wR=>wpAny M A (assign target env v) (fun _ aA =>
  wpAny M A (forIn ifs true fun c r=>if r=true then do let ok ← isTrue c env (eval c env);pure (ForInStep.yield ok) else pure (ForInStep.yield r)) Q E aA) E wR) E s
noncomputable def NB(M:Model)(A:Around)(env:Env)(R:Result->Shared->Prop):Value->Shared->Prop:=notedBy M A env fun e s'=>R (.error e) s'
noncomputable def y7(M:Model)(A:Around)(it:Value)(E:Value->Shared->Prop)(en1:Shared->Prop)(Q:Value->Shared->Prop)(s:Shared):Prop:=wpAny M A (pyNext it) (fun r ao=>match r with
 | none=>en1 ao
 | some v=>Q v ao) E s
theorem oj{prog:Program}{w:World}{A:Around}{R:Result->Shared->Prop}{s:Shared}{elt target iter:Expr}{ifs:List Expr}{scope:Scope}{pos:Pos}{it acc:Value}{env:Env}(I:Nat->Shared->Prop)
  (turn:∀ n s,I n s->y7 (model prog w) A it (NB (model prog w) A env R) (R (.ok .next)) (y6 (model prog w) A target it env ifs (NB (model prog w) A env R) fun ok fX =>
      if ok=true then wpAny (model prog w) A (eval elt env) (fun x ly =>
       wpAny (model prog w) A (call (.builtin "list.append") [acc,x]) (fun _ oV=>∃ m,m < n/\I m oV) (NB (model prog w) A env R) ly) (NB (model prog w) A env R) fX
      else ∃ m,m < n/\I m fX) s)
  (n:Nat) (h:I n s) :
  codeAny (model prog w) A (.compLoop (.ListComp elt [⟨target,iter,ifs,0⟩] scope pos) 0 it acc env) R s:=by
 refine codeAny_loop rfl I (fun n s hI=>?_) n h
 show wpAny _ A ((compTurn (.ListComp elt [⟨target,iter,ifs,0⟩] scope pos) 0 it acc env).onRaise (fun x=>do noteFrame x env;theTreesLotGoes x)) _ _ s
 refine wpAny_noted ?_
 rw [compTurn_list]
 refine wpAny_bind (wpAny_standAt (wpAny_bind (wpAny_mono (turn n s hI) (fun r ao d4=>?_) fun _ _ h'=>h')))
 cases r with
 | none=>exact wpAny_pure d4
 | some v =>
  refine wpAny_bind (wpAny_mono d4 (fun _ wR f61=>?_) fun _ _ h'=>h')
  refine wpAny_bind (wpAny_mono f61 (fun _ aA fC=>wpAny_bind (wpAny_mono fC (fun ok fX kj=>?_) fun _ _ h'=>h')) fun _ _ h'=>h')
  cases ok with
  | false=>exact wpAny_pure ⟨rfl,kj⟩
  | true =>
   exact wpAny_bind (wpAny_bind (wpAny_mono kj (fun x ly dk1=>wpAny_bind (wpAny_mono dk1 (fun _ oV yT=>wpAny_pure (wpAny_pure ⟨rfl,yT⟩)) fun _ _ h'=>h')) fun _ _ h'=>h'))
theorem vC{D:Addr}{h':Heap}{t:Nat}(R:Rel G σ ρ s)(hD:D∈ρ.hid)(ho:tA ρ D)(hbase:G.s₀.heap.get? D=none)(hloose:D ∉ G.loose)(hs:Heap.ExtBut D s.heap h')(hal:h'.get? D≠none) :
  StepW G [D] ρ s ρ { s with heap:=h',toks:=t } σ/\KeepV s.heap ρ h' ρ:=lB R (List.mem_singleton.mpr rfl) ho hbase hloose (fun _ _ h=>absurd hD h.2) hs hal
theorem JI.pyIter_self{I:Addr}{st:ItS}(J:JI s.heap ρ I st){Q:Value->Shared->Prop}{E:Value->Shared->Prop}(h:Q (.ref I) s):wpAny (model G.prog G.w) A (pyIter (.ref I)) Q E s:=by
 cases J with
 | lst a=>exact wpAny_pyIter_listiter a h
 | tup a=>exact wpAny_pyIter_tupleiter a h
 | ascii a=>exact wpAny_pyIter_striter_ascii a h
 | wide a=>exact wpAny_pyIter_striter_wide a h
 | rng a=>exact wpAny_pyIter_rangeiter a h
 | dyn _ a=>exact wpAny_pyIter_listiter a h
structure CS (G:Wd) (W:List Addr) (I D:Addr):Prop where
 iw:I ∉ W
 ib:G.s₀.heap.get? I=none
 il:I ∉ G.loose
 db:G.s₀.heap.get? D=none
 dl:D ∉ G.loose
 dw:D ∉ W
 di:D≠I
structure CI (ρ:Rho) (s:Shared) (I D:Addr) (st:ItS) (items:Array Value) (done:List V):Prop where
 j:JI s.heap ρ I st
 io:Off ρ I
 pl:s.heap.PlainList D items
 rv:RVs s.heap ρ done items.toList
 hd:D∈ρ.hid
 off:tA ρ D
theorem CI.keep{I D:Addr}{st:ItS}{items:Array Value}{done:List V}(Z:CS G W I D)(R:Rel G σ ρ s)(S:StepW G W ρ s ρ' s' σ')(N:RE G C cenv W η ρ s)(c:CI ρ s I D st items done):CI ρ' s' I D st items done:=by
 have K:=StepW.keepV R N.wk S
 refine ⟨c.j.keep K fun o e=>S.keep I o e c.io.1 Z.iw Z.il,S.offI ?_ c.io,c.pl.at fun o e=>S.keep D o e c.off Z.dw Z.dl,RVs.mono K _ _ c.rv,?_,S.off ?_ c.off⟩
 ·refine dp (c.j.cls) fun o _ h_p=>?_;have e:=h_p.1
  exact (e) ▸ (nofun)
 ·refine a7 (S.ext) fun new h_p=>?_;have e:=h_p.1
  exact (e) ▸ (c.hd)
 ·refine a7 (c.pl) fun _ e=>?_
  exact (e) ▸ (nofun)
theorem og{tg:Expr}{ifs:List Expr}{st st':ItS}{I D:Addr}{items:Array Value}{done:List V}{x:V}{b:Bool}{E:Value->Shared->Prop}{en1:Shared->Prop}{Q:Bool->Shared->Prop}(Z:CS G W I D)(R:Rel G σ ρ s)(N:RE G C cenv W η ρ s)(c:CI ρ s I D st items done)(aM:0 < s.toks)
  (hst:st.step σ=some (some (x,st'))) (ha:As G A C cenv W tg x η η₁) (hc:Tc G A C cenv W ifs σ η₁ b σ')
  (k:∀ oV fY,StepW G (I::W) ρ s fY oV σ'->RE G C cenv W η₁ fY oV->CI fY oV I D st' items done->0 < oV.toks->Q b oV):y7 (model G.prog G.w) A (.ref I) E en1 (y6 (model G.prog G.w) A tg (.ref I) cenv ifs E Q) s:=by
 refine wpAny_with_toks (Nat.le_refl _) (jf (G:=G) hst R c.j c.io Z.ib Z.il fun cv aA au hO1 aG eX1 vy=>?_)
 have cN:RE G C cenv W η ρ aA:=N.keepAll hO1 (fun b hb o e=>au.keep b o e (N.wok b hb).1.1 (fun h=>Z.iw (List.mem_singleton.mp h ▸ hb)) (N.wok b hb).2.2) fun a o v e hd ho=>by
  refine au.keep a o e ho.1 (fun h=>?_) (dz R e hd)
  refine aO (c.j.no_cell) fun o' e' hno=>?_
  rw [List.mem_singleton.mp h,e'] at e;obtain rfl:=siX e
  exact hno v hd
 have cG:CI ρ aA I D st' items done:=⟨eX1,c.io,c.pl.at fun o e=>au.keep D o e c.off (fun h=>Z.di (List.mem_singleton.mp h)) Z.dl,RVs.mono hO1 _ _ c.rv,c.hd,c.off⟩
 refine eX1.letOwned (f5 (ha σ ρ aA cv au.rel cN aG) fun _ fX dq1 kj=>?_)
 have v2:=cG.keep Z au.rel kj.1 cN
 refine hc.use kj.1.rel kj.2 (Nat.lt_of_lt_of_le (Nat.lt_of_lt_of_le aM vy) dq1) fun ly iQ jV mM yz=>?_
 exact k ly iQ ((au.weaken fun b hb=>List.mem_singleton.mp hb ▸ List.mem_cons_self).trans ((kj.1.trans jV.toW).weaken fun b hb=>List.mem_cons_of_mem _ hb)) mM (v2.keep Z kj.1.rel jV.toW kj.2) yz
theorem yf{I D:Addr}{st:ItS}{items:Array Value}{done:List V}{v:V}{cv:Value}{E:Value->Shared->Prop}{Q:Value->Shared->Prop}(Z:CS G W I D)(R:Rel G σ ρ s)(N:RE G C cenv W η ρ s)(c:CI ρ s I D st items done)(t:0 < s.toks)(r:RV s.heap ρ v cv)(hl:items.size<=lim)
  (k:∀ u s',StepW G (D::W) ρ s ρ s' σ->RE G C cenv W η ρ s'->CI ρ s' I D st (items.push cv) (done++[v])->0 < s'.toks->Q u s'):wpAny (model G.prog G.w) A (call (.builtin "list.append") [.ref D,cv]) Q E s:=by
 refine wpAny_with_toks (Nat.le_refl _) (wpAny_list_append_plain c.pl (fun h' hp' hs' hle=>?_) (Nat.le_trans hl (by decide)))
 obtain ⟨gJ1,eV1⟩:=vC (t:=s.toks) R c.hd c.off Z.db Z.dl hs'.extBut (by obtain ⟨_,e⟩:=hp';exact (e) ▸ (nofun))
 refine k _ _ (gJ1.weaken fun b hb=>List.mem_singleton.mp hb ▸ List.mem_cons_self) (N.keepAll eV1 (fun b hb o e=>hs'.extBut b o (fun h=>Z.dw (h ▸ hb)) e) fun a o v e hd ho=>hs'.extBut a o (fun h=>ho.2 (h ▸ c.hd)) e)
  ⟨c.j.keep (h':=h') eV1 fun o e=>hs'.extBut I o (Ne.symm Z.di) e,c.io,hp',?_,c.hd,c.off⟩ (Nat.lt_of_lt_of_le t hle)
 rw [Array.toList_push]
 exact RVs.append (RVs.mono eV1 _ _ c.rv) (RVs.cons (RV.mono eV1 _ _ r) RVs.nil)
inductive CInv (G:Wd) (A:Around) (C:Cx) (cenv:Env) (W:List Addr) (tg elt:Expr) (ifs:List Expr) (out:List V) (σ':List AO) (I D:Addr) (fZ:Rho) (s₀:Shared) (m:Nat) (s:Shared):Prop
 | mk (st:ItS) (σ:List AO) (η:ac) (ρ:Rho) (done:List V) (items:Array Value) (o:List V) (H:CoR G A C cenv W tg elt ifs m st σ η o σ') (S:StepW G (D::I::W) fZ s₀ ρ s σ) (N:RE G C cenv W η ρ s) (c:CI ρ s I D st items done) (h:done++o=out) (t:0 < s.toks)
theorem v3{tg elt iter:Expr}{ifs:List Expr}{scope:Scope}{pos:Pos}{n:Nat}{st:ItS}{out:List V}{D I:Addr}{RR:Result->Shared->Prop}{fZ:Rho}{s₀:Shared}(hh:A.handled=none)
  (H:CoR G A C cenv W tg elt ifs n st σ η out σ') (mV:StepW G (D::I::W) fZ s₀ ρ s σ) (hIn:s₀.heap.get? I=none) (N:RE G C cenv W η ρ s) (J:JI s.heap ρ I st) (ht:0 < s.toks) (hl:out.length<=lim)
  (hI:I ∉ W) (hIo:Off ρ I) (hIb:G.s₀.heap.get? I=none) (hIl:I ∉ G.loose)
  (hD:D∈ρ.hid) (hDo:tA ρ D) (hDb:G.s₀.heap.get? D=none) (hDl:D ∉ G.loose) (hDW:D ∉ W) (hDI:D≠I) (hpl:s.heap.PlainList D #[])
  (k:∀ s' ρ' items η',StepW G (D::W) fZ s₀ ρ' s' σ'->RE G C cenv W η' ρ' s'->s'.heap.PlainList D items->RVs s'.heap ρ' out items.toList->D∈ρ'.hid->tA ρ' D->RR (.ok .next) s') :
  codeAny (model G.prog G.w) A (.compLoop (.ListComp elt [⟨tg,iter,ifs,0⟩] scope pos) 0 (.ref I) (.ref D) cenv) RR s:=by
 have Z:CS G W I D:=⟨hI,hIb,hIl,hDb,hDl,hDW,hDI⟩
 refine oj (I:=CInv G A C cenv W tg elt ifs out σ' I D fZ s₀) ?_ n ⟨st,σ,η,ρ,[],#[],out,H,mV,N,⟨J,hIo,hpl,RVs.nil,hD,hDo⟩,rfl,ht⟩
 rintro m ao ⟨iQ1,σ₁,η₁,ab,done,items,cT1,wt,ag,aL,bD,hout,aM⟩
 have up:∀ b∈I::W,b∈D::I::W:=fun b hb=>List.mem_cons_of_mem _ hb
 cases m with
 | zero =>
  have hst:=wt.1;obtain rfl:=wt.2.1;obtain rfl:=wt.2.2
  have e:done=out:=by simpa using hout
  subst e
  refine je hh hst ag.rel bD.j bD.io hIb hIl fun aA h_p=>?_
  refine aO (h_p) fun h' e hs=>?_
  subst e
  obtain ⟨au,K⟩:=StepW.closeNew (W:=D::W) (t:=ao.toks) (ag.weaken fun b hb=>by
   rcases List.mem_cons.mp hb with h | hb
   ·rw [h];exact List.mem_cons_of_mem _ List.mem_cons_self
   ·rcases List.mem_cons.mp hb with h | hb
    ·rw [h];exact List.mem_cons_self
    ·exact List.mem_cons_of_mem _ (List.mem_cons_of_mem _ hb)) hIn bD.j.not_solid hs bD.io hIb hIl
  exact k _ ab items η₁ au (aL.iterStep bD.j hI K hs) (bD.pl.at fun o e=>hs D o hDI e) (RVs.mono K _ _ bD.rv) bD.hd bD.off
 | succ m =>
  refine fS1 (wt) fun _ _ _ _ hst ha wt=>?_
  rcases wt with ⟨hc,hr⟩ | ⟨_,_,_,hc,he,hr,rfl⟩
  ·refine og Z ag.rel aL bD aM hst ha hc fun oV fY fW wz gz1 wK=>?_
   rw [if_neg (by decide)]
   exact ⟨_,Nat.lt_succ_self _,⟨_,_,_,fY,done,items,cT1,hr,ag.trans (fW.weaken up),wz,gz1,hout,wK⟩⟩
  ·refine og Z ag.rel aL bD aM hst ha hc fun oV fY fW wz gz1 wK=>?_
   rw [if_pos rfl]
   refine he.use fW.rel wz wK fun cv g01 y8 bt1 gO1 fo1 fK1=>?_
   have hG1:=gz1.keep Z fW.rel bt1.toW wz
   have hlen:items.size<=lim:=by
    have h1:=RVs.length hG1.rv
    have h2:done.length<=out.length:=by rw [← hout,List.length_append];exact Nat.le_add_right _ _
    simp at h1;lia
   refine yf Z bt1.rel gO1 hG1 fo1 fK1 hlen fun _ k31 gJ1 k01 kP1 iL1=>⟨_,Nat.lt_succ_self _,⟨_,_,_,y8,_,_,_,hr,ag.trans ((fW.weaken up).trans (bt1.toW.trans (gJ1.weaken fun b hb=>?_))),k01,kP1,?_,iL1⟩⟩
   ·rcases List.mem_cons.mp hb with h | h
    ·rw [h];exact List.mem_cons_self
    ·exact List.mem_cons_of_mem _ (List.mem_cons_of_mem _ h)
   ·rw [List.append_assoc];exact hout
end
noncomputable def aD(scope:Scope)(C:Cx):Scope :=
 { scope with names:=scope.names.map fun (n,k)=>if (k == .free && C.scope.kind == .function && C.kind n == some .cell) then (n,.cell) else (n,k) }
theorem si{C:Cx}{env:Env}(h:env.scope=C.scope)(scope:Scope):relabel scope env=aD scope C:=by
 unfold relabel aD Env.kindOf Cx.kind;rw [h]
noncomputable def rQ(cells:List (Str × Addr)):List (Str × NameKind)->List (Str × Addr)->List (Str × Addr)
 | [],acc=>acc
 | (n,k)::r,acc=>rQ cells r (if k == .free then (match cells.lookup n with | some c=>(n,c)::acc | none=>acc) else acc)
theorem jJ{cells:List (Str × Addr)}{n:Str}{c:Addr}(hc:cells.lookup n=some c):∀ (names:List (Str × NameKind)) (acc:List (Str × Addr)),(acc.lookup n=some c\/(n,NameKind.free)∈names)->(rQ cells names acc).lookup n=some c
 | [],acc,h=>by
  refine Or.elim (h) (fun h=>?_) (fun h=>?_)
  ·exact h
  ·cases h
 | (m,k)::r,acc,h=>by
  dsimp only [rQ]
  refine jJ hc r _ ?_
  rcases h with h | h
  ·left
   split
   ·cases hm:cells.lookup m with
    | none=>exact h
    | some d =>
     show List.lookup n ((m,d)::acc)=some c
     rw [List.lookup_cons]
     cases hb:n == m with
     | true=>rw [← beq_iff_eq.mp hb,hc] at hm;obtain rfl:=siX hm;rfl
     | false=>exact h
   ·exact h
  ·refine Or.elim (List.mem_cons.mp h) (fun e=>?_) (fun h=>?_)
   ·cases e
    left
    rw [if_pos (by decide),hc]
    show List.lookup n ((n,c)::acc)=some c
    rw [List.lookup_cons,beq_self_eq_true]
   ·exact .inr h
theorem jI{env:Env}{scope:Scope}(h:∀ x∈scope.names,x.2=.free->∃ c,env.cells.lookup x.1=some c):closureFor scope env=pure (rQ env.cells scope.names []):=by
 unfold closureFor
 have main:∀ (names:List (Str × NameKind)) (acc:List (Str × Addr)),(∀ x∈names,x.2=.free->∃ c,env.cells.lookup x.1=some c) ->
   (forIn names acc fun (x:Str × NameKind) (cs:List (Str × Addr))=>(match x with
    | (name,kind)=>if kind == .free then do let a ← cellOf env name;pure (ForInStep.yield ((name,a)::cs)) else pure (ForInStep.yield cs):Sem (ForInStep (List (Str × Addr)))))=pure (rQ env.cells names acc):=by
  intro names
  induction names with
  | nil=>intro acc _;rfl
  | cons x r ih =>
   intro acc hx
   obtain ⟨n,k⟩:=x
   rw [List.forIn_cons]
   dsimp only [rQ]
   have hr:=ih (acc:=if k == .free then (match env.cells.lookup n with | some c=>(n,c)::acc | none=>acc) else acc) fun y hy=>hx y (List.mem_cons_of_mem _ hy)
   by_cases hk:k=.free
   ·subst hk
    obtain ⟨c,hc⟩:=hx (n,.free) List.mem_cons_self rfl
    have e:(NameKind.free == NameKind.free)=true:=rfl
    dsimp only [e,if_true] at hr ⊢
    unfold cellOf
    rw [hc] at hr ⊢
    exact hr
   ·have e:(k == NameKind.free)=false:=by simpa using hk
    simp only [e,Bool.false_eq_true,if_false] at hr ⊢
    exact hr
 have:=main scope.names [] h
 exact congrArg (fun m:Sem (List (Str × Addr))=>m >>= fun cs=>pure cs) this
theorem gu:∀ (names:List (Str × NameKind)) (n:Nat) (acc:List (Str × Addr)),cellsFrom n names acc=cellsFrom n names []++acc
 | [],_,_=>rfl
 | (m,k)::r,n,acc=>by
  dsimp only [cellsFrom]
  split
  ·rw [gu r (n + 1) ((m,n)::acc),gu r (n + 1) [(m,n)],List.append_assoc];rfl
  ·exact gu r n acc
theorem qh{x:Str}:∀ (names:List (Str × NameKind)) (n:Nat) (acc:List (Str × Addr)),(x,NameKind.cell) ∉ names->(cellsFrom n names acc).lookup x=acc.lookup x
 | [],_,_,_=>rfl
 | (m,k)::r,n,acc,h=>by
  dsimp only [cellsFrom]
  split
  ·rename_i hk
   rw [qh r _ _ fun q=>h (List.mem_cons_of_mem _ q),List.lookup_cons]
   cases hb:x == m with
   | false=>rfl
   | true =>
    exfalso
    apply h
    rw [beq_iff_eq.mp hb,beq_iff_eq.mp hk]
    exact List.mem_cons_self
  ·exact qh r _ _ fun q=>h (List.mem_cons_of_mem _ q)
theorem jL{x:Str}:∀ (names:List (Str × NameKind)) (n:Nat) (acc:List (Str × Addr)),((x,NameKind.cell)∈names\/∃ c,acc.lookup x=some c)->∃ c,(cellsFrom n names acc).lookup x=some c
 | [],_,_,h=>by
  refine Or.elim (h) (fun h=>?_) (fun h=>?_)
  ·cases h
  ·exact h
 | (m,k)::r,n,acc,h=>by
  dsimp only [cellsFrom]
  split
  ·rename_i hk
   refine jL r _ _ ?_
   rcases h with h | ⟨c,h⟩
   ·rcases List.mem_cons.mp h with e | h
    ·cases e;right;exact ⟨n,by rw [List.lookup_cons,beq_self_eq_true]⟩
    ·exact .inl h
   ·right
    rw [List.lookup_cons]
    cases x == m with
    | true=>exact ⟨n,rfl⟩
    | false=>exact ⟨c,h⟩
  ·rename_i hk
   refine jL r _ _ ?_
   rcases h with h | h
   ·rcases List.mem_cons.mp h with e | h
    ·cases e;exact absurd rfl hk
    ·exact .inl h
   ·exact .inr h
noncomputable def clr:ac->List Var->ac
 | η,[]=>η
 | η,x::xs=>clr (if x.own then η.set x.slot none else η) xs
theorem rP{i:Nat}:∀ (xs:List Var) (η:ac),(∀ v,η[i]?≠some (some v))->∀ v,(clr η xs)[i]?≠some (some v)
 | [],_,h=>h
 | x::xs,η,h=>by
  dsimp only [clr]
  refine rP xs _ fun v=>?_
  split
  ·rw [List.getElem?_set]
   split
   ·split <;> exact nofun
   ·exact h v
  ·exact h v
theorem qf{x:Var}(ho:x.own=true):∀ (xs:List Var) (η:ac),x∈xs->∀ v,(clr η xs)[x.slot]?≠some (some v)
 | [],_,h=>by cases h
 | y::xs,η,h=>by
  dsimp only [clr]
  refine Or.elim (List.mem_cons.mp h) (fun h_l=>?_) (fun h=>?_)
  ·subst h_l
   refine rP xs _ fun v=>?_
   rw [if_pos ho,List.getElem?_set]
   split
   ·split <;> exact nofun
   ·rename_i hne;exact absurd rfl hne
  ·exact qf ho xs _ h
theorem v7{i:Nat}{v:V}:∀ (xs:List Var) (η:ac),(clr η xs)[i]?=some (some v)->η[i]?=some (some v)
 | [],_,h=>h
 | x::xs,η,h=>by
  dsimp only [clr] at h
  have:=v7 xs _ h
  split at this
  ·replace this:=(List.getElem?_set) ▸ this
   split at this
   ·split at this <;> cases this
   ·exact this
  ·exact this
noncomputable def cD(k:Option NameKind)(l:NameKind):Bool:=k == some l
noncomputable def v4(C:Cx)(vars:List Var)(scope:Scope):Bool :=
 let C':Cx:=⟨vars,aD scope C⟩
 C'.ok && (match scope.kind with | .function=>true | _=>false) &&
 scope.names.all (fun x=>(x.2 != .free || C.vars.any fun y=>y.name == x.1 && cD (C.kind x.1) .cell) && (x.2 != .local || cD (scope.names.lookup x.1) .local)) &&
 vars.all fun x=>if x.own then (cD (C'.kind x.name) .local) || (cD (C'.kind x.name) .cell && scope.names.contains (x.name,NameKind.cell))
  else cD (C'.kind x.name) .cell && scope.names.contains (x.name,NameKind.free) && !scope.names.contains (x.name,NameKind.cell) && C.vars.any fun y=>y.name == x.name && y.slot == x.slot && cD (C.kind x.name) .cell
structure CompOk (C:Cx) (vars:List Var) (scope:Scope):Prop where
 ok:(⟨vars,aD scope C⟩:Cx).ok=true
 fn:scope.kind=.function
 free:∀ x∈scope.names,x.2=.free->∃ y∈C.vars,y.name=x.1/\C.kind x.1=some .cell
 loc:∀ x∈scope.names,x.2=.local->scope.names.lookup x.1=some .local
 own:∀ x∈vars,x.own=true->(⟨vars,aD scope C⟩:Cx).kind x.name=some .local\/((⟨vars,aD scope C⟩:Cx).kind x.name=some .cell/\(x.name,NameKind.cell)∈scope.names)
 cap:∀ x∈vars,x.own=false->(⟨vars,aD scope C⟩:Cx).kind x.name=some .cell/\(x.name,NameKind.free)∈scope.names/\(x.name,NameKind.cell) ∉ scope.names/\∃ y∈C.vars,y.name=x.name/\y.slot=x.slot/\C.kind x.name=some .cell
theorem qb{C:Cx}{vars:List Var}{scope:Scope}(h:v4 C vars scope=true):CompOk C vars scope:=by
 dsimp only [v4] at h
 have q_1:=ap h;have q_2:=ap q_1.1;have q_3:=ap q_2.1;have h1:=q_3.1;have h2:=q_3.2;have h3:=q_2.2;have h4:=q_1.2
 have h3':=List.all_eq_true.mp h3
 have h4':=List.all_eq_true.mp h4
 refine ⟨h1,by revert h2;cases scope.kind <;> simp,fun x hx hk=>?_,fun x hx hk=>?_,fun x hx ho=>?_,fun x hx ho=>?_⟩
 ·have:=h3' x hx
  simp only [Bool.and_eq_true,Bool.or_eq_true,hk,List.any_eq_true,cD,beq_iff_eq] at this
  rcases this.1 with h | ⟨y,hy,e1,e2⟩
  ·exact absurd h (by decide)
  ·exact ⟨y,hy,e1,e2⟩
 ·have:=h3' x hx
  simp only [Bool.and_eq_true,Bool.or_eq_true,hk,cD,beq_iff_eq] at this
  rcases this.2 with h | h
  ·exact absurd h (by decide)
  ·exact h
 ·have:=h4' x hx
  simp only [ho,if_true,Bool.or_eq_true,Bool.and_eq_true,cD,beq_iff_eq,List.contains_iff_mem] at this
  exact this
 ·refine byQ fun Q kQ=>?_
  have:=h4' x hx
  simp only [ho,Bool.false_eq_true,if_false,Bool.and_eq_true,cD,beq_iff_eq,List.contains_iff_mem,List.any_eq_true,Bool.not_eq_true',← Bool.not_eq_true] at this
  obtain ⟨⟨⟨e1,e2⟩,e3⟩,y,hy,⟨e4,e5⟩,e6⟩:=this
  refine kQ ?_
  exact ⟨e1,e2,e3,y,hy,e4,e5,e6⟩
noncomputable def gB1(scope:Scope)(L:Addr)(cells:List (Str × Addr))(env:Env):Env :=
 { scope:=scope,locals:=L,globals:=env.globals,cells:=cells,qual:=env.qual,func:=none,code:=env.code,frame:=env.frame,builtins:=env.builtins }
section
variable {M:Model} {A:Around} {E:Value->Shared->Prop} {s:Shared} {env:Env}
theorem lm{scope:Scope}{cl:List (Str × Addr)}{Q:Env->Shared->Prop}
  (h:Q (gB1 scope s.heap.objs.size (cellsFrom (s.heap.objs.size + 1) scope.names cl) env) { s with heap:=pushCells (s.heap.push { cls:=.type "dict",data:=.dict #[] }) scope.names }) :
  wpAny M A (newFunctionEnv scope env.globals cl [] env.qual none .none (some env)) Q E s:=by
 simp only [newFunctionEnv,Option.isSome_some,if_true]
 refine wpAny_bind (wpAny_alloc ?_)
 refine wpAny_bind (wpAny_layCells _ (fun name kind cells=>by cases kind == NameKind.cell <;> simp) _ _ _ _ ?_)
 rw [show ({ s with heap:=s.heap.push { cls:=.type "dict",data:=.dict #[] } }:Shared).heap.objs.size=s.heap.objs.size + 1 from Heap.size_push ..]
 refine wpAny_bind ?_
 rw [List.forIn_nil]
 exact wpAny_pure (wpAny_pure h)
end
section
variable {G:Wd} {A:Around} {C C':Cx} {env cenv:Env} {W W':List Addr} {η η' η₁ η₂ bw:ac} {σ σ' σ₁ σ₂ aj:List AO} {ρ ρ' ab:Rho} {s s' ao aA:Shared}
theorem j8{α:Type}(l₁ pD:List (Str × α))(x:Str):(l₁++pD).lookup x=(l₁.lookup x).or (pD.lookup x):=by
 induction l₁ with
 | nil=>rfl
 | cons a l ih =>
  rw [List.cons_append,List.lookup_cons,List.lookup_cons]
  cases x == a.1 with
  | true=>rfl
  | false=>exact ih
theorem rR{x:Str}{names:List (Str × NameKind)}{n:Nat}{acc:List (Str × Addr)}(hx:(x,NameKind.cell)∈names):∃ c,(cellsFrom n names acc).lookup x=some c/\(x,c)∈cellsFrom n names [] :=
 a7 (jL names n [] (.inl hx)) fun c hc=>⟨c,by rw [gu,j8,hc];rfl,mem_of_lookup hc⟩
structure CapC (C:Cx) (env:Env) (η:ac) (ρ:Rho) (h:Heap) (cs:List (Str × Addr)) (x y:Var) (c:Addr) (ov:Option Value):Prop where
 hy:y∈C.vars
 nm:y.name=x.name
 sl:y.slot=x.slot
 kd:C.kind y.name=some .cell
 lk:env.cells.lookup y.name=some c
 ic:h.IsCell c ov
 off:Off ρ c
 vl:∀ v,η[y.slot]?=some (some v)->∃ cv,ov=some cv/\RV h ρ v cv
 me:cs.lookup x.name=some c
theorem rS{scope:Scope}{vars:List Var}{n:Nat}{x:Var}(K:CompOk C vars scope)(N:RE G C env W η ρ s)(hx:x∈vars)(ho:x.own=false):∃ y c ov,CapC C env η ρ s.heap (cellsFrom n scope.names (rQ env.cells scope.names [])) x y c ov :=
 z3 (K.cap x hx ho) fun _ h2 h3 h=>eH1 h fun y hy e1 e2 e3=>z2 (N.cel y hy (e1.symm ▸ e3)) fun c ov q1 q2 q3 q4 q5 =>
  ⟨y,c,ov,hy,e1,e2,e1.symm ▸ e3,q1,q2,q4,q5,(qh _ _ _ h3).trans (jJ (e1 ▸ q1) _ _ (.inr h2))⟩
theorem rc{scope:Scope}{vars:List Var}{x:Var}(K:CompOk C vars scope)(hx:x∈vars)(ho:x.own=true)(hk:(⟨vars,aD scope C⟩:Cx).kind x.name=some .cell):(x.name,NameKind.cell)∈scope.names :=
 Or.elim (K.own x hx ho) (fun h=>nomatch (siX (h.symm.trans hk))) And.right
theorem mw{scope:Scope}{vars:List Var}{n:Nat}{x:Var}{c:Addr}(K:CompOk C vars scope)(N:RE G C env W η ρ s)(hx:x∈vars)(hk:(⟨vars,aD scope C⟩:Cx).kind x.name=some .cell)(e:(cellsFrom n scope.names (rQ env.cells scope.names [])).lookup x.name=some c) :
  (x.name,c)∈cellsFrom n scope.names []\/∃ y,y∈C.vars/\y.name=x.name/\C.kind y.name=some .cell/\env.cells.lookup y.name=some c/\c < s.heap.objs.size :=
 d01 x.own (fun ho=>.inl (aO (rR (rc K hx ho hk)) fun c' h1 h2=>siX (h1.symm.trans e) ▸ h2))
  fun ho=>.inr (fO (rS K N hx ho) fun y c' ov P=>⟨y,P.hy,P.nm,P.kd,(siX (P.me.symm.trans e)) ▸ P.lk,(siX (P.me.symm.trans e)) ▸ P.ic.lt⟩)
theorem aR1{scope:Scope}{vars:List Var}{L:Addr}{h':Heap}{ow:List (Str × Addr)}(K:CompOk C vars scope)(R:Rel G σ ρ s)(N:RE G C env W η ρ s)(hL:s.heap.objs.size=L)(keep:∀ b o,s.heap.get? b=some o->h'.get? b=some o)
  (hns:h'.Ns L fun _=>none) (ok:CellsOk h' (L + 1) ow) (how:ow=cellsFrom (L + 1) scope.names []) :
  (∀ b∈L::ow.map (·.2),L<=b)/\RE G ⟨vars,aD scope C⟩ (gB1 (aD scope C) L (cellsFrom (L + 1) scope.names (rQ env.cells scope.names [])) env) (L::ow.map (·.2)) (clr η vars) ρ { s with heap:=h' }:=by
 have inW:∀ b∈L::ow.map (·.2),L<=b:=fun b hb=>Or.elim (List.mem_cons.mp hb) (fun e=>Nat.le_of_eq e.symm) fun hb=>aO (List.mem_map.mp hb) fun x hx e=>e ▸ Nat.le_of_lt (ok.empty x.1 x.2 hx).2
 have new:∀ b,L<=b->Off ρ b/\G.s₀.heap.get? b=none/\b ∉ G.loose:=fun b hb=>dq R (bS (hL ▸ hb))
 have S:KeepV s.heap ρ h' ρ:=⟨⟨[],(List.append_nil _).symm,fun _ h=>nomatch h⟩,fun _ h=>.inl h,fun b o e _ _=>keep b o e⟩
 refine ⟨inW,K.ok,rfl,N.glob,N.blt,List.mem_cons_self,fun b hb=>new b (inW b hb),fun b hb=>Or.elim (List.mem_cons.mp hb) (fun e=>?_) fun hb=>aO (List.mem_map.mp hb) fun x hx e=>?_,⟨_,hns,fun x hx hk v hv=>?_⟩,fun x hx hk=>?_,fun x hx y hy hkx hky c e1 e2=>?_⟩
 ·exact wv hns fun o es ep ho hd _=>⟨o,e ▸ ho,Solid.no_dict hd⟩
 ·exact aO (ok.empty x.1 x.2 hx).1 fun o ho hd=>⟨o,e ▸ ho,Solid.no_cell hd⟩
 ·exact d01 x.own (fun ho=>absurd hv (qf ho vars η hx v)) fun ho=>nomatch siX (hk.symm.trans (K.cap x hx ho).1)
 ·refine d01 x.own (fun ho=>aO (rR (n:=L + 1) (acc:=rQ env.cells scope.names []) (rc K hx ho hk)) fun c hc hm=>?_) fun ho=>fO (rS (n:=L + 1) K N hx ho) fun y c ov P=>?_
  ·have hm':(x.name,c)∈ow:=how ▸ hm
   have q:=ok.empty x.name c hm'
   exact yN c none hc q.1 (fun _=>List.mem_cons_of_mem _ (List.mem_map.mpr ⟨_,hm',rfl⟩)) (new c (Nat.le_of_lt q.2)).1 fun v hv=>absurd hv (qf ho vars η hx v)
  ·exact yN c ov P.me (P.ic.keeps keep) (fun h=>trf (h.symm.trans ho)) P.off fun v hv=>aO (P.vl v (P.sl.symm ▸ v7 _ _ hv)) fun cv r1 r2=>⟨cv,r1,RV.mono S _ _ r2⟩
 ·subst how
  have far:∀ {n c},(n,c)∈cellsFrom (L + 1) scope.names []->c < s.heap.objs.size->False:=fun h1 h2=>absurd (hL ▸ h2) (Nat.not_lt.mpr (Nat.le_of_lt (ok.empty _ _ h1).2))
  refine Or.elim (mw K N hx hkx e1) (fun a=>Or.elim (mw K N hy hky e2) (fun b=>name_of_addr ok.apart a b) fun h=>bq1 h fun z _ _ _ _ lt=>(far a lt).elim) fun h=>bq1 h fun u hu nu ku lu lt=>?_
  exact Or.elim (mw K N hy hky e2) (fun b=>(far b lt).elim) fun h=>bq1 h fun z hz nz kz lz _=>nu ▸ nz ▸ N.apart u hu z hz ku kz c lu lz
theorem td{scope:Scope}{vars:List Var}{D:Addr}(K:CompOk C vars scope)(R:Rel G σ ρ s)(N:RE G C env W η ρ s)(hD:D < s.heap.objs.size)(hDn:G.s₀.heap.get? D=none) :
  let L:=s.heap.objs.size
  let h':=pushCells (s.heap.push { cls:=.type "dict",data:=.dict #[] }) scope.names
  ∃ W',(∀ b∈W',s.heap.get? b=none/\b≠D)/\D ∉ W'/\L∈W'/\(∀ b o,s.heap.get? b=some o->h'.get? b=some o) /\
   RE G ⟨vars,aD scope C⟩ (gB1 (aD scope C) L (cellsFrom (L + 1) scope.names (rQ env.cells scope.names [])) env) W' (clr η vars) ρ { s with heap:=h' }:=by
 intro L h'
 have ok:=cellsFrom_ok scope.names (s.heap.push { cls:=.type "dict",data:=.dict #[] }) (L + 1) [] ⟨fun _ _ hm=>(nomatch hm),List.Pairwise.nil⟩ (by rw [Heap.size_push];exact Nat.le_refl _)
 rw [Heap.size_push] at ok
 have keep:∀ b o,s.heap.get? b=some o->h'.get? b=some o:=fun b o e=>pushCells_keeps _ _ b o (Heap.get?_push_of_some _ e)
 have q:=aR1 K R N (L:=L) rfl keep ((Heap.Ns.new s.heap (.type "dict")).keeps (pushCells_keeps _ _)) ok rfl
 have ne:∀ b∈L::(cellsFrom (L + 1) scope.names []).map (·.2),b≠D:=fun b hb e=>Nat.lt_irrefl _ (Nat.lt_of_lt_of_le hD (e ▸ q.1 b hb))
 exact ⟨_,fun b hb=>⟨bS (q.1 b hb),ne b hb⟩,fun h=>ne D h rfl,List.mem_cons_self,keep,q.2⟩
theorem RV.unhide{h:Heap}{ρ ρ':Rho}(hs:ρ'.st=ρ.st)(hh:∀ b∈ρ'.hid,b∈ρ.hid):KeepV h ρ h ρ' :=
 ⟨⟨[],by rw [hs,List.append_nil],fun _ h=>nomatch h⟩,fun b hb=>.inl (hh b hb),fun _ _ e _ _=>e⟩
theorem Rel.unhide{ρ':Rho}(R:Rel G σ ρ s)(hs:ρ'.st=ρ.st)(hh:∀ b∈ρ'.hid,b∈ρ.hid):Rel G σ ρ' s where
 len:=by exact (hs) ▸ (R.len)
 inj:=by exact (hs) ▸ (R.inj)
 obj:=fun k p o h1 h2=>(R.obj k p o (by rw [← hs];exact h1) h2).mono (RV.unhide hs hh) (fun _ e=>e) fun _ e=>e
 fresh:=by exact (hs) ▸ (R.fresh)
 keep:=R.keep
 lse:=R.lse
 same:=R.same
 bare:=R.bare
 hidden:=fun b hb=>R.hidden b (hh b hb)
structure CompEnd (G:Wd) (σ':List AO) (out:List V) (ab:Rho) (ao:Shared) (D L:Addr) (s':Shared):Prop where
 hx:∃ new items m,StepW G [L] ⟨ab.st,D::ab.hid⟩ ao ⟨ab.st++new,D::ab.hid⟩ s' σ'/\(∀ p∈new,ao.heap.get? p.1=none/\ao.heap.get? p.2=none)/\s'.heap.PlainList D items/\RVs s'.heap ⟨ab.st++new,D::ab.hid⟩ out items.toList/\s'.heap.Ns L m/\Off ⟨ab.st++new,ab.hid⟩ D/\Off ⟨ab.st++new,D::ab.hid⟩ L
 newD:ao.heap.get? D=none
 newL:ao.heap.get? L=none
 baseL:G.s₀.heap.get? L=none
 looseL:L ∉ G.loose
 ne:D≠L
theorem CompEnd.ex{out:List V}{D L:Addr}(X:CompEnd G σ' out ab ao D L s'):∃ ρ' items m,StepW G [L] ab ao ρ' s' σ'/\s'.heap.PlainList D items/\RVs s'.heap ρ' out items.toList/\s'.heap.Ns L m/\Off ρ' D/\Off ρ' L:=by
 refine byQ fun Q kQ=>?_
 refine fO (X.hx) fun new items m h_p=>?_;have S:=h_p.1;have hnew:=h_p.2.1;have pl:=h_p.2.2.1;have r:=h_p.2.2.2.1;have hn:=h_p.2.2.2.2.1;have hDo:=h_p.2.2.2.2.2.1;have hLo:=h_p.2.2.2.2.2.2
 refine kQ ?_
 exact hu1 ⟨ab.st++new,ab.hid⟩ items m (⟨S.rel.unhide (ρ':=⟨ab.st++new,ab.hid⟩) rfl (fun b hb=>List.mem_cons_of_mem D hb),⟨new,rfl,hnew⟩,S.keep,S.wal⟩) pl (RVs.mono (RV.unhide (ρ:=⟨ab.st++new,D::ab.hid⟩) (ρ':=⟨ab.st++new,ab.hid⟩) rfl (fun b hb=>List.mem_cons_of_mem D hb)) _ _ r) hn hDo ⟨hLo.1,fun hm=>hLo.2 (List.mem_cons_of_mem _ hm)⟩
theorem ry{D:Addr}(R:Rel G σ ρ s)(R':Rel G σ ρ s')(hk:∀ b o,s.heap.get? b=some o->s'.heap.get? b=some o)(hD:s.heap.get? D=none)(al:s'.heap.get? D≠none) :
  KeepV s.heap ρ s'.heap ⟨ρ.st,D::ρ.hid⟩/\Rel G σ ⟨ρ.st,D::ρ.hid⟩ s' :=
 have KV:KeepV s.heap ρ s'.heap ⟨ρ.st,D::ρ.hid⟩:=⟨⟨[],(List.append_nil _).symm,fun _ h=>nomatch h⟩,fun b hb=>Or.elim (List.mem_cons.mp hb) (fun e=>.inr (e ▸ hD)) .inl,fun b o e _ _=>hk b o e⟩
 ⟨KV,R.len,R.inj,fun kk p o h1 h2=>(R.obj kk p o h1 h2).mono KV (fun _ e=>hk _ _ e) fun _ e=>hk _ _ e,R.fresh,R'.keep,R'.lse,R'.same,R'.bare,fun b hb=>Or.elim (List.mem_cons.mp hb) (fun e=>e ▸ al) (R'.hidden b)⟩
theorem rr{b:Addr}(hk:∀ b o,s.heap.get? b=some o->s'.heap.get? b=some o)(h:s.heap.get? b≠none):s'.heap.get? b≠none:=fun e=>h (gc (s.heap.get? b) id fun o q=>son ((hk b o q).symm.trans e))
theorem kR{b:Addr}(hk:∀ b o,s.heap.get? b=some o->s'.heap.get? b=some o)(h:s'.heap.get? b=none):s.heap.get? b=none:=gc (s.heap.get? b) id fun o q=>son ((hk b o q).symm.trans h)
theorem q9{D:Addr}{h:Heap}{xs:Array Value}(p:h.PlainList D xs):h.get? D≠none:=a7 p fun _ e q=>son (e.symm.trans q)
theorem ye{tg elt iter:Expr}{ifs:List Expr}{scope:Scope}{pos:Pos}{n:Nat}{st:ItS}{out:List V}{I D:Addr}{RR:Result->Shared->Prop}(hh:A.handled=none)(H:CoR G A C' cenv W' tg elt ifs n st σ₁ η₁ out σ')(hl:out.length<=lim)
  (R:Rel G σ₁ ab ao) (kY1:Rel G σ₁ ab aA) (hk:∀ b o,ao.heap.get? b=some o->aA.heap.get? b=some o) (hI:ao.heap.get? I=none) (hD:ao.heap.get? D=none) (hID:I≠D) (hW:∀ b∈W',ao.heap.get? b=none/\b≠D/\b≠I)
  (mM:RE G C' cenv W' η₁ ⟨ab.st,D::ab.hid⟩ aA) (eq1:JI aA.heap ⟨ab.st,D::ab.hid⟩ I st) (cJ1:aA.heap.PlainList D #[]) (yz:0 < aA.toks) (k:∀ s',CompEnd G σ' out ab ao D cenv.locals s'->RR (.ok .next) s') :
  codeAny (model G.prog G.w) A (.compStart (.ListComp elt [⟨tg,iter,ifs,0⟩] scope pos) 0 (.ref I) (.ref D) cenv) RR aA:=by
 have dI:=dq R hI
 have dD:=dq R hD
 have mV:StepW G (D::I::W') ⟨ab.st,D::ab.hid⟩ ao ⟨ab.st,D::ab.hid⟩ aA σ₁ :=
  ⟨(ry R kY1 hk hD (q9 cJ1)).2,⟨[],by simp,fun _ h=>nomatch h⟩,fun b o e _ _ _=>hk b o e,fun b _ hne=>rr hk hne⟩
 have loop:=v3 (iter:=iter) (scope:=scope) (pos:=pos) (RR:=RR) hh H mV hI mM eq1 yz hl (fun h=>(hW I h).2.2 rfl) ⟨dI.1.1,fun h=>Or.elim (List.mem_cons.mp h) hID dI.1.2⟩ dI.2.1 dI.2.2 List.mem_cons_self dD.1.1 dD.2.1 dD.2.2 (fun h=>(hW D h).2.1 rfl) (Ne.symm hID) cJ1
  fun s' ρ' items η' S' N' pl' r' hDh hDo=>?_
 ·exact codeAny_compStart_list loop (eq1.pyIter_self loop)
 ·have wL:=hW _ mM.lmem
  have oL:=N'.wok _ mM.lmem
  refine aO (S'.ext) fun new kJ1 hnew=>aO N'.loc fun m hn _=>?_
  subst kJ1
  refine k s' ⟨⟨new,items,m,⟨S'.rel,⟨new,rfl,hnew⟩,fun b o e ho hw hl=>S'.keep b o e ho (fun h=>Or.elim (List.mem_cons.mp h) (fun q=>son (e.symm.trans (q ▸ hD))) fun h=>son (e.symm.trans (hW b h).1)) hl,fun b hb hne=>?_⟩,hnew,pl',r',hn,⟨hDo,dD.1.2⟩,oL.1⟩,hD,wL.1,oL.2.1,oL.2.2,Ne.symm wL.2.1⟩
  exact absurd (List.mem_singleton.mp hb ▸ wL.1) hne
theorem aS1{tg elt iter:Expr}{ifs:List Expr}{scope:Scope}{vars:List Var}{pos:Pos}{n:Nat}{st:ItS}{out:List V}{I D:Addr}(hh:A.handled=none)(K:CompOk C vars scope)
  (H:∀ cenv W',CoR G A ⟨vars,aD scope C⟩ cenv W' tg elt ifs n st σ₁ (clr η vars) out σ') (hl:out.length<=lim) (R:Rel G σ₁ ab ao) (N:RE G C env W η ab ao) (hN1:Rel G σ₁ ab aA)
  (hI:ao.heap.get? I=none) (J:JI s.heap ab I st) (k0:∀ b o,s.heap.get? b=some o->aA.heap.get? b=some o) (hk0:∀ b o,ao.heap.get? b=some o->s.heap.get? b=some o) (hD0:s.heap.get? D=none) (zR:aA.heap.PlainList D #[]) (kB:0 < aA.toks)
  {E:Value->Shared->Prop} {RR:Value->Addr->Result->Shared->Prop} (k:∀ L s',CompEnd G σ' out ab ao D L s'->RR (.ref D) L (.ok .next) s') :
  wpAny (model G.prog G.w) A (newFunctionEnv scope env.globals (rQ env.cells scope.names []) [] env.qual none .none (some env)) (fun cenv ly =>
    codeAny (model G.prog G.w) A (.compStart (.ListComp elt [⟨tg,iter,ifs,0⟩] scope pos) 0 (.ref I) (.ref D) { cenv with scope:=relabel scope env }) (RR (.ref D) cenv.locals) ly) E aA:=by
 have hD:=kR hk0 hD0
 have hk:∀ b o,ao.heap.get? b=some o->aA.heap.get? b=some o:=fun b o e=>k0 b o (hk0 b o e)
 have Ial:s.heap.get? I≠none:=fU1 J.cls fun o _ e _ q=>son (e.symm.trans q)
 have q:=ry R hN1 hk hD (q9 zR)
 have mW:RE G C env W η ⟨ab.st,D::ab.hid⟩ aA:=N.keepAll q.1 (fun b _ o e=>hk b o e) fun c o _ e _ _=>hk c o e
 refine lm ?_
 rw [si N.sc]
 refine bq1 (td K q.2 mW (a7 zR fun _ e=>Heap.lt_size e) (dq R hD).2.1) fun W' hW1 _ _ vz mM=>?_
 have jV:Step G ab aA ab { aA with heap:=pushCells (aA.heap.push { cls:=.type "dict",data:=.dict #[] }) scope.names } σ₁:=Step.grow hN1 vz ⟨_,_,rfl⟩
 exact ye hh (H _ W') hl R jV.rel (fun b o e=>vz b o (hk b o e)) hI hD (fun e=>Ial (e ▸ hD0)) (fun b hb=>⟨kR hk (hW1 b hb).1,(hW1 b hb).2,fun e=>rr k0 Ial (e ▸ (hW1 b hb).1)⟩) mM
  (J.keep ⟨⟨[],(List.append_nil _).symm,fun _ h=>nomatch h⟩,fun b hb=>Or.elim (List.mem_cons.mp hb) (fun e=>.inr (e ▸ hD0)) .inl,fun b o e _ _=>vz _ _ (k0 b o e)⟩ fun o e=>vz _ _ (k0 _ o e)) (zR.at fun o e=>vz _ _ e) kB fun s' h=>k _ s' h
theorem jH{tg elt iter:Expr}{ifs:List Expr}{scope:Scope}{vars:List Var}{pos:Pos}{n:Nat}{st:ItS}{v:V}{cv:Value}{out:List V}(hh:A.handled=none)(K:CompOk C vars scope)
  (H:∀ cenv W',CoR G A ⟨vars,aD scope C⟩ cenv W' tg elt ifs n st σ₁ (clr η vars) out σ') (hl:out.length<=lim) (hi:a6 v=some st)
  (R:Rel G σ₁ ab ao) (N:RE G C env W η ab ao) (ht:0 < ao.toks) (r:RV ao.heap ab v cv) {E:Value->Shared->Prop} {RR:Value->Addr->Result->Shared->Prop}
  (k:∀ D L s',CompEnd G σ' out ab ao D L s'->RR (.ref D) L (.ok .next) s') :
  wpAny (model G.prog G.w) A (pyIter cv) (fun it aA=>wpAny (model G.prog G.w) A (newList []) (fun acc fX =>
   wpAny (model G.prog G.w) A (newFunctionEnv scope env.globals (rQ env.cells scope.names []) [] env.qual none .none (some env)) (fun cenv ly =>
    codeAny (model G.prog G.w) A (.compStart (.ListComp elt [⟨tg,iter,ifs,0⟩] scope pos) 0 it acc { cenv with scope:=relabel scope env }) (RR acc cenv.locals) ly) E fX) E aA) E ao:=by
 refine wpAny_with_toks (Nat.le_refl _) (jg hi (H default []).step_ok R r fun aA au f81 _ eX1 vy=>wpAny_newList ?_ (Nat.zero_le _))
 have dr1:∀ b o,aA.heap.get? b=some o->(aA.heap.push { cls:=.type "list",data:=.seq ([]:List Value).toArray }).get? b=some o:=fun b o e=>Heap.get?_push_of_some _ e
 exact aS1 hh K H hl R N (Step.grow au.rel dr1 ⟨_,_,rfl⟩).rel (bS (Nat.le_refl _)) eX1 dr1 f81 (bS (Nat.le_refl _)) ⟨_,Heap.get?_push_size _ rfl⟩ (Nat.lt_of_lt_of_le ht vy) fun L s' h=>k _ L s' h
theorem CompEnd.fin{out:List V}{D L:Addr}{h':Heap}(X:CompEnd G σ' out ab ao D L s')(hl:out.length<=lim)(hs:Heap.SameBut L s'.heap h') :
  PE G ab ao σ' (.lst out) (.ref D) { s' with heap:=h' }:=by
 refine byQ fun Q kQ=>?_
 refine fO (X.ex) fun ρ' items m h_p=>?_;have S:=h_p.1;have pl:=h_p.2.1;have r:=h_p.2.2.1;have hn:=h_p.2.2.2.1;have hDo:=h_p.2.2.2.2.1;have hLo:=h_p.2.2.2.2.2
 refine fO (id hn) fun o es ep h_p=>?_;have ho:=h_p.1;have hd:=h_p.2.1;have hr:=h_p.2.2
 refine jm (StepW.closeNew (W:=[]) (t:=s'.toks) S X.newL ⟨o,ho,Solid.no_dict hd⟩ hs.extBut hLo X.baseL X.looseL) fun T K=>?_
 refine kQ ?_
 refine ⟨ρ',T,?_⟩
 dsimp only [RV]
 exact ⟨hl,D,items,rfl,hDo,pl.at fun o e=>hs.extBut D o X.ne e,RVs.mono K _ _ r⟩
theorem xq{st:List (Addr × Addr)}{D a:Addr}{hid:List Addr}(h:Off ⟨st,D::hid⟩ a):Off ⟨st++[(D,D)],hid⟩ a:=by
 have hD:D≠a:=fun e=>h.2 (by exact (e) ▸ (List.mem_cons_self))
 refine ⟨fun p hp=>?_,fun hm=>h.2 (List.mem_cons_of_mem _ hm)⟩
 replace hp:p∈st++[(D,D)]:=hp
 rcases List.mem_append.mp hp with hp | hp
 ·exact h.1 p hp
 ·exact (List.mem_singleton.mp hp) ▸ (⟨hD,hD⟩)
theorem bO1{h:Heap}{st:List (Addr × Addr)}{D:Addr}{hid:List Addr}:KeepG h ⟨st,D::hid⟩ h ⟨st++[(D,D)],hid⟩ :=
 ⟨fun _ _=>xq,fun _ _ e _ _=>e,fun k p hp=>(List.getElem?_append_left (List.getElem?_eq_some_iff.mp hp).1).trans hp⟩
theorem RVs.swap{h:Heap}{st:List (Addr × Addr)}{D:Addr}{hid:List Addr}(xs:List V)(vs:List Value)(r:RVs h ⟨st,D::hid⟩ xs vs):RVs h ⟨st++[(D,D)],hid⟩ xs vs:=RVs.keepG bO1 xs vs r
theorem RO.swap{h:Heap}{st:List (Addr × Addr)}{D:Addr}{hid:List Addr}{p:Addr × Addr}{o:AO}(x:RO G h ⟨st,D::hid⟩ p o):RO G h ⟨st++[(D,D)],hid⟩ p o:=by
 obtain ⟨items,acc⟩:=o
 dsimp only [RO] at x ⊢
 refine ⟨x.1,?_⟩
 cases acc with
 | none =>
  obtain ⟨h1,vs,h_p⟩:=x.2;have h2:=h_p.1;have h3:=h_p.2
  exact ⟨h1,vs,h2,RVs.swap _ _ h3⟩
 | some i =>
  refine byQ fun Q kQ=>?_
  refine fO (x.2) fun vs n m h_p=>?_;have h1:=h_p.1;have h2:=h_p.2.1;have h3:=h_p.2.2
  refine kQ ?_
  exact hv1 vs n m h1 (RVs.swap _ _ h2) h3
theorem CompEnd.finM{out:List V}{D L:Addr}{h':Heap}(X:CompEnd G σ' out ab ao D L s')(R:Rel G σ₁ ab ao)(hl:out.length<=lim)(hs:Heap.SameBut L s'.heap h') :
  PE G ab ao (σ'++[⟨out,none⟩]) (.ref σ'.length) (.ref D) { s' with heap:=h' }:=by
 refine byQ fun Q kQ=>?_
 refine fO (X.hx) fun new items m h_p=>?_;have S:=h_p.1;have hnew:=h_p.2.1;have pl:=h_p.2.2.1;have r:=h_p.2.2.2.1;have hn:=h_p.2.2.2.2.1;have hDo:=h_p.2.2.2.2.2.1;have hLo:=h_p.2.2.2.2.2.2
 refine fO (id hn) fun o es ep h_p=>?_;have ho:=h_p.1;have hd:=h_p.2.1;have hr:=h_p.2.2
 refine jm (StepW.closeNew (W:=[]) (t:=s'.toks) S X.newL ⟨o,ho,Solid.no_dict hd⟩ hs.extBut hLo X.baseL X.looseL) fun T K=>?_
 have r2:=RVs.mono K _ _ r
 have pl2:h'.PlainList D items:=pl.at fun o e=>hs.extBut D o X.ne e
 have base:G.s₀.heap.get? D=none:=by
  cases e:G.s₀.heap.get? D with
  | none=>rfl
  | some x =>
   by_cases hl:D∈G.loose
   ·refine aO (R.lse _ hl) fun vs e' etr=>?_
    rw [X.newD] at e';exact nso e'
   ·have:=R.keep _ _ hl e
    rw [X.newD] at this;exact nso this
 have hlen:(ab.st++new).length=σ'.length:=T.rel.len
 refine kQ ?_
 refine ⟨⟨(ab.st++new)++[(D,D)],ab.hid⟩,⟨⟨?_,fun i j a b ha hb hab=>?_,fun k q x hq hx=>?_,fun q hq=>?_,T.rel.keep,T.rel.lse,T.rel.same,T.rel.bare,fun b hb=>T.rel.hidden b (List.mem_cons_of_mem _ hb)⟩,
  ⟨new++[(D,D)],by rw [List.append_assoc],fun q hq=>?_⟩,T.keep,fun _ h=>nomatch h⟩,?_⟩
 ·show ((ab.st++new)++[(D,D)]).length=_
  simp only [List.length_append,List.length_singleton] at hlen ⊢
  lia
 ·have old:∀ (i:Nat) (a:Addr × Addr),((ab.st++new)++[(D,D)])[i]?=some a->((ab.st++new)[i]?=some a/\a.1≠D)\/(i=(ab.st++new).length/\a=(D,D)):=by
   intro i a ha
   by_cases hi:i < (ab.st++new).length
   ·rw [List.getElem?_append_left hi] at ha
    exact .inl ⟨ha,(hDo.1 a (List.mem_of_getElem? ha)).1⟩
   ·rw [List.getElem?_append_right (Nat.le_of_not_lt hi)] at ha
    have:i - (ab.st++new).length=0:=by
     have:=(List.getElem?_eq_some_iff.mp ha).1
     simpa using this
    rw [this] at ha
    simp at ha
    exact .inr ⟨by lia,ha.symm⟩
  rcases old i a ha with ⟨h1,n1⟩ | ⟨h1,e1⟩ <;> rcases old j b hb with ⟨h2,n2⟩ | ⟨h2,e2⟩
  ·exact T.rel.inj i j a b h1 h2 hab
  ·exact absurd (by rw [hab,e2]) n1
  ·exact absurd (by rw [← hab,e1]) n2
  ·rw [h1,h2]
 ·replace hq:((ab.st++new)++[(D,D)])[k]?=some q:=hq
  by_cases hi:k < (ab.st++new).length
  ·replace hq:=(List.getElem?_append_left hi) ▸ hq
   rw [List.getElem?_append_left (by lia)] at hx
   exact RO.swap (T.rel.obj k q x hq hx)
  ·have hk:k=(ab.st++new).length:=by
    have:=(List.getElem?_eq_some_iff.mp hq).1
    simp only [List.length_append,List.length_singleton] at this hi ⊢
    lia
   rw [hk,List.getElem?_append_right (Nat.le_refl _),Nat.sub_self] at hq
   rw [hk,hlen,List.getElem?_append_right (Nat.le_refl _),Nat.sub_self] at hx
   simp at hq hx
   subst hq hx
   exact ⟨hl,rfl,items,pl2,RVs.swap _ _ r2⟩
 ·replace hq:q∈(ab.st++new)++[(D,D)]:=hq
  rcases List.mem_append.mp hq with hq | hq
  ·exact T.rel.fresh q hq
  ·exact (List.mem_singleton.mp hq) ▸ (⟨base,base⟩)
 ·rcases List.mem_append.mp hq with hq | hq
  ·exact hnew q hq
  ·rw [List.mem_singleton.mp hq];exact ⟨X.newD,X.newD⟩
 ·delta RV
  refine ⟨(D,D),?_,rfl⟩
  show ((ab.st++new)++[(D,D)])[σ'.length]?=_
  rw [← hlen,List.getElem?_append_right (Nat.le_refl _),Nat.sub_self];rfl
theorem gT{scope:Scope}{vars:List Var}(K:CompOk C vars scope)(N:RE G C env W η ρ s):closureFor scope env=pure (rQ env.cells scope.names []) :=
 jI fun x hx hk=>by
  refine a7 (K.free x hx hk) fun y h_p=>?_;have hy:=h_p.1;have e1:=h_p.2.1;have e2:=h_p.2.2
  obtain ⟨c,ov,h_p⟩:=N.cel y hy (by exact (e1) ▸ (e2));have h:=h_p.1
  exact ⟨c,e1 ▸ h⟩
theorem Ev.comp{tg elt iter:Expr}{ifs:List Expr}{scope:Scope}{vars:List Var}{pos:Pos}{n:Nat}{st:ItS}{v:V}{out:List V}(hh:A.handled=none)(K:CompOk C vars scope)(hs:hV iter=true)
  (h:Ev G A C env W iter σ η v σ₁) (hi:a6 v=some st) (H:∀ cenv W',CoR G A ⟨vars,aD scope C⟩ cenv W' tg elt ifs n st σ₁ (clr η vars) out σ') (hl:out.length<=lim) :
  Ev G A C env W (.ListComp elt [⟨tg,iter,ifs,0⟩] scope pos) σ η (.lst out) σ':=fun ρ s R N ht=>by
 rw [eval_ListComp]
 refine wpAny_comprehension_free (use:=none) rfl (fun x=>ed hs x) (gT K N) K.fn K.loc ?_
 show wpAny _ A (eval iter env) _ _ s
 refine h.use R N ht fun cv ao ab ag aL aM aw=>?_
 refine jH (RR:=fun acc C=>compPost (model G.prog G.w) A No none _ acc C) hh K H hl hi ag.rel aL aM aw fun D L s' X=>?_
 refine byQ fun Q kQ=>?_
 refine fO (X.ex) fun ρ' items m h_p=>?_;have S:=h_p.1;have pl:=h_p.2.1;have r:=h_p.2.2.1;have hn:=h_p.2.2.2.1;have hDo:=h_p.2.2.2.2.1;have hLo:=h_p.2.2.2.2.2
 refine kQ ?_
 refine ⟨m,hn,fun h' hs'=>?_⟩
 obtain ⟨ρ',T,r⟩:=X.fin hl hs'
 exact ⟨ρ',ag.trans T,r⟩
theorem Ev.compM{tg elt iter:Expr}{ifs:List Expr}{scope:Scope}{vars:List Var}{pos:Pos}{n:Nat}{st:ItS}{v:V}{out:List V}(hh:A.handled=none)(K:CompOk C vars scope)(hs:hV iter=true)
  (h:Ev G A C env W iter σ η v σ₁) (hi:a6 v=some st) (H:∀ cenv W',CoR G A ⟨vars,aD scope C⟩ cenv W' tg elt ifs n st σ₁ (clr η vars) out σ') (hl:out.length<=lim) :
  Ev G A C env W (.ListComp elt [⟨tg,iter,ifs,0⟩] scope pos) σ η (.ref σ'.length) (σ'++[⟨out,none⟩]):=fun ρ s R N ht=>by
 rw [eval_ListComp]
 refine wpAny_comprehension_free (use:=none) rfl (fun x=>ed hs x) (gT K N) K.fn K.loc ?_
 show wpAny _ A (eval iter env) _ _ s
 refine h.use R N ht fun cv ao ab ag aL aM aw=>?_
 refine jH (RR:=fun acc C=>compPost (model G.prog G.w) A No none _ acc C) hh K H hl hi ag.rel aL aM aw fun D L s' X=>?_
 refine byQ fun Q kQ=>?_
 refine fO (X.ex) fun ρ' items m h_p=>?_;have S:=h_p.1;have pl:=h_p.2.1;have r:=h_p.2.2.1;have hn:=h_p.2.2.2.1;have hDo:=h_p.2.2.2.2.1;have hLo:=h_p.2.2.2.2.2
 refine kQ ?_
 refine ⟨m,hn,fun h' hs'=>?_⟩
 obtain ⟨ρ',T,r⟩:=X.finM ag.rel hl hs'
 exact ⟨ρ',ag.trans T,r⟩
theorem Es.asgComp{x:Var}{p spos:Pos}{tg elt iter:Expr}{ifs:List Expr}{scope:Scope}{vars:List Var}{pos:Pos}{n:Nat}{st:ItS}{v:V}{out:List V}(hh:A.handled=none)(K:CompOk C vars scope)(hs:hV iter=true)
  (hx:x∈C.vars) (ho:x.own=true) (hxk:C.kind x.name=some .local) (hline:p.line=pos.line) (hnot:(scope.names.any fun y=>y.1 == x.name && (y.2 == .local || y.2 == .cell))=false)
  (h:Ev G A C env W iter σ η v σ₁) (hi:a6 v=some st) (H:∀ cenv W',CoR G A ⟨vars,aD scope C⟩ cenv W' tg elt ifs n st σ₁ (clr η vars) out σ') (hl:out.length<=lim) :
  Es G A C env W (.Assign [.Name x.name p] (.ListComp elt [⟨tg,iter,ifs,0⟩] scope pos) spos) σ η .next σ' (η.set x.slot (some (.lst out))):=fun ρ s R N ht=>by
 have hfn:=(Cx.ok_parts N.ok).1
 have hsw:swapsWith (.ListComp elt [⟨tg,iter,ifs,0⟩] scope pos) (some (.Name x.name p)) spos.line env=pure true:=by
  show (pure (env.blockKind == .function && env.kindOf x.name == some .local && p.line == pos.line && !(scope.names.any fun (n,k)=>n == x.name && (k == .local || k == .cell))):Sem Bool)=pure true
  have h1:env.blockKind=.function:=by unfold Env.blockKind;rw [N.sc,hfn];rfl
  have h2:env.kindOf x.name=some .local:=by unfold Env.kindOf;exact (N.sc) ▸ (hxk)
  have h3:(scope.names.any fun (n,k)=>n == x.name && (k == .local || k == .cell))=false:=hnot
  rw [h1,h2,h3,hline]
  simp
 refine (exec_Assign_Name_used _ _ _ _ hsw) ▸ ?_
 refine wpAny_bind (wpAny_standAt (wpAny_bind ?_))
 show wpAny _ A (do let _ ← comprehension (.ListComp elt [⟨tg,iter,ifs,0⟩] scope pos) scope env _ (newList []) false (eval iter env) (some (assign (.Name x.name p) env))) _ _ s
 refine wpAny_bind (wpAny_mono (wpAny_comprehension_free (E:=No) (use:=some (assign (.Name x.name p) env)) (Q:=fun _ s'=>PS G C env W ρ s σ' (η.set x.slot (some (.lst out))) .next .next s')
  rfl (fun y=>ed hs y) (gT K N) K.fn K.loc ?_) (fun _ s' hq=>wpAny_pure (wpAny_pure hq)) fun _ _ f=>f.elim)
 show wpAny _ A (eval iter env) _ _ s
 refine h.use R N ht fun cv ao ab ag aL aM aw=>?_
 refine jH (RR:=fun acc C=>compPost (model G.prog G.w) A No (some (assign (.Name x.name p) env)) _ acc C) hh K H hl hi ag.rel aL aM aw fun D L s' X=>?_
 refine fO (X.ex) fun ρ' items m h_p=>?_;have S:=h_p.1;have pl:=h_p.2.1;have r:=h_p.2.2.1;have hn:=h_p.2.2.2.1;have hDo:=h_p.2.2.2.2.1;have hLo:=h_p.2.2.2.2.2
 -- at the comprehension's end,seen as a step from ao
 have S':Step G ab ao ρ' s' σ':=S.drop fun b hb hne=>by rw [List.mem_singleton.mp hb] at hne;exact absurd X.newL hne
 have N':=aL.mono ag.rel S'
 have rl:RV s'.heap ρ' (.lst out) (.ref D):=by dsimp only [RV];exact ⟨hl,D,items,rfl,hDo,pl,r⟩
 have hLW:L ∉ W:=fun hm=>by
  refine a7 (aL.wk L hm) fun o h_p=>?_;have e:=h_p.1
  rw [X.newL] at e;exact nso e
 show wpAny _ A (assign (.Name x.name p) env (.ref D)) _ _ s'
 refine wpAny_assign_Name (RE.store S'.rel N' hx ho rl fun s'' S'' N''=>?_)
 have hn'':s''.heap.Ns L m:=by
  refine yL (hn) fun o es ep e q=>?_
  exact hw1 o es ep (S''.keep L o e hLo.1 hLW X.looseL) q
 refine ⟨m,hn'',fun h' hs'=>?_⟩
 refine wv (id hn'') fun o es ep e hd q=>?_
 -- the last write at L
 have T:StepW G (L::W) ab ao ρ' s'' σ':=(S'.toW.trans S'').weaken fun b hb=>List.mem_cons_of_mem _ hb
 refine jm (T.closeNew (t:=s''.toks) X.newL ⟨o,e,Solid.no_dict hd⟩ hs'.extBut hLo X.baseL X.looseL) fun T' K'=>?_
 refine ⟨ρ',ag.toW.trans T',N''.keepAll K' (fun b hb o e=>hs'.extBut b o (by rintro rfl;exact hLW hb) e) fun c oc vc e' hdc _=>hs'.extBut c oc (by
  rintro rfl
  rw [e] at e';obtain rfl:=siX e'
  replace hdc:=(hd) ▸ hdc;cases hdc) e',rfl⟩
end
noncomputable def tE(l:List Nat):Nat->List Nat
 | 0=>[]
 | n + 1=>l++tE l n
theorem d7(l:List Nat):∀ n,(tE l n).length=l.length * n
 | 0=>rfl
 | n + 1=>by show (l++tE l n).length=_;rw [List.length_append,d7 l n,Nat.mul_succ,Nat.add_comm]
noncomputable def zE(l:List V):Nat->List V
 | 0=>[]
 | n + 1=>l++zE l n
noncomputable def vI:V->Option Int
 | .int i=>some i
 | _=>none
noncomputable def vS:V->Option (List Nat)
 | .str i=>some i
 | _=>none
noncomputable def vL:V->Option (List V)
 | .lst i=>some i
 | _=>none
theorem iy1{v:V}{i:Int}(h:vI v=some i):v=.int i:=by cases v <;> first | (obtain rfl:=siX h;rfl) | exact nso h
theorem fl1{v:V}{i:List Nat}(h:vS v=some i):v=.str i:=by cases v <;> first | (obtain rfl:=siX h;rfl) | exact nso h
theorem ix1{v:V}{i:List V}(h:vL v=some i):v=.lst i:=by cases v <;> first | (obtain rfl:=siX h;rfl) | exact nso h
section
variable {α β:Type} {P:Prop} {r:β}
theorem j0{o:Option α}{f:α->Option β}(h:o.bind f=some r)(q:∀ x,o=some x->f x=some r->P):P:=(Option.bind_eq_some_iff.mp h).elim fun x h=>q x h.1 h.2
theorem tM{v:V}{f:Int->Option β}(h:(vI v).bind f=some r)(q:∀ x,v=.int x->f x=some r->P):P:=j0 h fun x hx=>q x (iy1 hx)
theorem tL{v:V}{f:List Nat->Option β}(h:(vS v).bind f=some r)(q:∀ x,v=.str x->f x=some r->P):P:=j0 h fun x hx=>q x (fl1 hx)
theorem eR1{v:V}{f:List V->Option β}(h:(vL v).bind f=some r)(q:∀ x,v=.lst x->f x=some r->P):P:=j0 h fun x hx=>q x (ix1 hx)
theorem bq{c:Prop}[Decidable c]{o:Option β}(h:(if c then o else none)=some r):c/\o=some r:=by
 by_cases hc:c
 ·exact ⟨hc,(if_pos hc).symm.trans h⟩
 ·exact nomatch (if_neg hc).symm.trans h
end
noncomputable def ii{β:Type}(f:Int->Int->Option β)(a b:V):Option β:=(vI a).bind fun x=>(vI b).bind fun y=>f x y
theorem yS{β:Type}{P:V->V->Prop}{f:Int->Int->Option β}{a b:V}{r:β}(h:ii f a b=some r)(q:∀ x y,f x y=some r->P (.int x) (.int y)):P a b :=
 tM h fun x hx h=>tM h fun y hy h=>by rw [hx,hy];exact q x y h
noncomputable def hJ1(a b:V):Option V:=match a with
 | .int x=>(vI b).bind fun y=>some (.int (x + y))
 | .str x=>(vS b).bind fun y=>if x.length + y.length<=lim then some (.str (x++y)) else none
 | .lst x=>(vL b).bind fun y=>if x.length + y.length<=lim then some (.lst (x++y)) else none
 | _=>none
noncomputable def hm1(a b:V):Option V:=match a with
 | .int x=>(vI b).bind fun y=>if x.natAbs < 1000000000 then some (.int (x * y)) else none
 | .str x=>(vI b).bind fun n=>if n<=1000000/\-1000000<=n/\x.length * n.toNat<=lim then some (.str (tE x n.toNat)) else none
 | .lst x=>(vI b).bind fun n=>if n<=1000000/\-1000000<=n/\x.length * n.toNat<=lim then some (.lst (zE x n.toNat)) else none
 | _=>none
noncomputable def qj(op:Operator)(a b:V):Option V :=
 match op with
 | .Add=>hJ1 a b
 | .Sub=>ii (fun x y=>some (.int (x - y))) a b
 | .Mult=>hm1 a b
 | .FloorDiv=>ii (fun x y=>if 1<=y/\y < 1000000000 then some (.int (x / y)) else none) a b
 | .Mod=>ii (fun x y=>if 1<=y then some (.int (x % y)) else none) a b
 | .Pow=>ii (fun x y=>if x.natAbs < 1000000000/\0<=y/\y<=1000 then some (.int (x ^ y.toNat)) else none) a b
 | _=>none
theorem fN(l:List V):∀ n,(zE l n).length=l.length * n
 | 0=>rfl
 | n + 1=>by show (l++zE l n).length=_;rw [List.length_append,fN l n,Nat.mul_succ,Nat.add_comm]
section
variable {G:Wd} {A:Around} {C C':Cx} {env cenv:Env} {W W':List Addr} {η η' η₁ η₂ bw:ac} {σ σ' σ₁ σ₂ aj:List AO} {ρ ρ' ab:Rho} {s s' ao aA:Shared}
theorem On.two{f:Value->Value->Sem Value}{u v w:V}(h:∀ ρ s bD cG,Rel G σ ρ s->RV s.heap ρ u bD->RV s.heap ρ v cG->0 < s.toks->wpAny (model G.prog G.w) A (f bD cG) (PE G ρ s σ' w) No s) :
  On G A (fun | [a,b]=>f a b | _=>pure .none) σ [u,v] w σ':=fun ρ s cvs R r ht=>by
 obtain ⟨bD,aw,rfl,h1,h2⟩:=RVs.cons_iff r
 refine dp (RVs.cons_iff h2) fun cG aG h_p=>?_;obtain rfl:=h_p.1;have h3:=h_p.2.1;have h4:=h_p.2.2
 refine (RVs.nil_iff h4) ▸ ?_
 exact h ρ s bD cG R h1 h3 ht
theorem On.one{f:Value->Sem Value}{u w:V}(h:∀ ρ s bD,Rel G σ ρ s->RV s.heap ρ u bD->0 < s.toks->wpAny (model G.prog G.w) A (f bD) (PE G ρ s σ' w) No s) :
  On G A (fun | [a]=>f a | _=>pure .none) σ [u] w σ':=fun ρ s cvs R r ht=>by
 refine dp (RVs.cons_iff r) fun bD aw h_p=>?_;obtain rfl:=h_p.1;have h1:=h_p.2.1;have h2:=h_p.2.2
 refine (RVs.nil_iff h2) ▸ ?_
 exact h ρ s bD R h1 ht
theorem aQ(R:Rel G σ ρ s){i:Int}{t k:Tok}:PE G ρ s σ (.int i) (.int i t) { s with toks:=k }:=⟨ρ,Step.toks R k,RV.int_⟩
theorem dm(R:Rel G σ ρ s){l:List Nat}{x:Str}{t k:Tok}(hl:l.length<=lim)(e:x.cps.toList=l):PE G ρ s σ (.str l) (.str x t) { s with toks:=k }:=⟨ρ,Step.toks R k,RV.str' hl e⟩
theorem aC(R:Rel G σ ρ s){b:Bool}:PE G ρ s σ (.bool b) (.bool b) s:=⟨ρ,Step.refl R,RV.bool_⟩
theorem bC{l:List Nat}:(⟨l.toArray⟩:Str).length=l.length:=rfl
theorem foldl_append(l:List Nat):∀ (n:Nat) (acc:Array Nat),((List.replicate n l.toArray).foldl (·++·) acc).toList=acc.toList++tE l n
 | 0,acc=>(List.append_nil _).symm
 | n + 1,acc=>by
  rw [List.replicate_succ,List.foldl_cons,foldl_append l n]
  exact (congrArg (·++tE l n) Array.toList_append).trans (List.append_assoc _ _ _)
theorem zp{l:List Nat}{n:Int}:(Txt.mul ⟨l.toArray⟩ n).cps.toList=tE l n.toNat:=by
 dsimp only [Txt.mul]
 by_cases h:n < 1
 ·rw [if_pos h]
  have:n.toNat=0:=by lia
  rw [this];rfl
 ·rw [if_neg h]
  split
  ·rename_i h1
   simp only [Bool.or_eq_true,beq_iff_eq,bC] at h1
   rcases h1 with h1 | h1
   ·rw [h1];show l=l++[];rw [List.append_nil]
   ·have:l=[]:=List.eq_nil_of_length_eq_zero h1
    subst this
    have:∀ k,tE [] k=[]:=fun k=>List.eq_nil_of_length_eq_zero (by rw [d7];simp)
    rw [this]
  ·rw [foldl_append];simp
theorem a81(vs:Array Value):∀ k:Nat,(List.foldl (fun x1 x2=>x1++x2) #[] (List.replicate k vs)).toList=(List.replicate k vs.toList).flatten:=fun k=>by
 have key:∀ (k:Nat) (acc:Array Value),(List.foldl (fun x1 x2=>x1++x2) acc (List.replicate k vs)).toList=acc.toList++(List.replicate k vs.toList).flatten:=by
  intro k
  induction k with
  | zero=>intro acc;simp
  | succ k ih=>intro acc;rw [List.replicate_succ,List.foldl_cons,ih,List.replicate_succ,List.flatten_cons,Array.toList_append,List.append_assoc]
 exact key k #[]
theorem RVs.rep{h:Heap}{x:List V}{vl:List Value}(r:RVs h ρ x vl):∀ k:Nat,RVs h ρ (zE x k) (List.replicate k vl).flatten
 | 0=>RVs.nil
 | k + 1=>by
  rw [List.replicate_succ,List.flatten_cons]
  exact RVs.append r (RVs.rep r k)
theorem On.ints{f:Value->Value->Sem Value}{x y:Int}{w:V}(h:∀ ρ s t u,Rel G σ ρ s->wpAny (model G.prog G.w) A (f (.int x t) (.int y u)) (PE G ρ s σ' w) No s) :
  On G A (fun | [a,b]=>f a b | _=>pure .none) σ [.int x,.int y] w σ':=On.two fun ρ s bD cG R aw aG ht=>by
 obtain ⟨t,rfl⟩:=RV.int_iff aw;obtain ⟨u,rfl⟩:=RV.int_iff aG
 exact h ρ s t u R
theorem On.strs{f:Value->Value->Sem Value}{x y:List Nat}{w:V}(h:∀ ρ s t u,Rel G σ ρ s->wpAny (model G.prog G.w) A (f (.str ⟨x.toArray⟩ t) (.str ⟨y.toArray⟩ u)) (PE G ρ s σ' w) No s) :
  On G A (fun | [a,b]=>f a b | _=>pure .none) σ [.str x,.str y] w σ':=On.two fun ρ s bD cG R aw aG ht=>by
 obtain ⟨_,t,rfl⟩:=RV.str_iff aw;obtain ⟨_,u,rfl⟩:=RV.str_iff aG
 exact h ρ s t u R
theorem z8{x y:Int}(h:x.natAbs < 1000000000):On G A (fun | [x,y]=>binaryOp .Mult x y | _=>pure .none) σ [.int x,.int y] (.int (x * y)) σ:=On.ints fun ρ s t u R=>by
 refine mul_int (aQ R) (IntMulOk.of_left ?_)
 unfold Builtin.Int.intBits
 split
 ·exact Nat.zero_le _
 ·rename_i h0
  have h0':x.natAbs≠0:=fun e=>h0 (by rw [Int.natAbs_eq_zero.mp e];rfl)
  have:=(Nat.log2_lt (k:=63) h0').mpr (Nat.lt_of_lt_of_le h (by decide))
  exact Nat.le_succ_of_le ‹_›
theorem ba1{x y:List Nat}(h:x.length + y.length<=lim):On G A (fun | [x,y]=>binaryOp .Add x y | _=>pure .none) σ [.str x,.str y] (.str (x++y)) σ:=On.strs fun ρ s t u R=>by
 refine SB.add (fun t' k=>dm R (by rw [List.length_append];exact h) ?_) (by rw [bC,bC];exact Nat.le_trans h (by decide))
 show (_++_:Array Nat).toList=_
 simp
theorem z7{k:Nat}{n:Int}(h:n<=1000000/\-1000000<=n/\k * n.toNat<=lim):decide (n < -1000000)=false/\(1<=n->(k:Int)<=(2 ^ 63 - 1) / n)/\k * n.toNat<=1000000:=by
 have h2:=h.2.2
 unfold lim at h2
 refine ⟨by simp;omega,fun h1=>?_,h2⟩
 have hx:(k:Int)<=1000000:=by
  have h3:k * 1<=k * n.toNat:=Nat.mul_le_mul_left _ (by lia)
  lia
 have:(1000000:Int)<=(2 ^ 63 - 1) / n:=by
  refine Int.le_ediv_of_mul_le (by assumption) ?_
  have:(1000000:Int) * n<=1000000 * 1000000:=Int.mul_le_mul_of_nonneg_left h.1 (by decide)
  omega
 lia
theorem cY1{x:List Nat}{n:Int}(h:n<=1000000/\-1000000<=n/\x.length * n.toNat<=lim):On G A (fun | [x,y]=>binaryOp .Mult x y | _=>pure .none) σ [.str x,.int n] (.str (tE x n.toNat)) σ:=On.two fun ρ s bD cG R aw aG ht=>by
 obtain ⟨_,t,rfl⟩:=RV.str_iff aw;obtain ⟨u,rfl⟩:=RV.int_iff aG
 refine SB.mul ⟨?_,fun h1 _=>?_,fun h1 _=>?_⟩ (fun t' k=>dm R (by rw [d7];exact h.2.2) zp)
 ·simp only [Bool.or_eq_false_iff,decide_eq_false_iff_not];omega
 ·rw [bC];exact Int.not_lt.mpr ((z7 h).2.1 (by exact Int.not_lt.mp ‹_›))
 ·rw [bC]
  unfold Builtin.Str.tooLong
  refine decide_eq_false ?_
  have:=(z7 h).2.2
  have h4:sizeLine=16777216:=rfl
  lia
theorem bb1{x y:List V}(h:x.length + y.length<=lim):On G A (fun | [x,y]=>binaryOp .Add x y | _=>pure .none) σ [.lst x,.lst y] (.lst (x++y)) σ:=On.two fun ρ s bD cG R aw aG ht=>by
 refine byQ fun Q kQ=>?_
 obtain ⟨_,l,vs,rfl,ho,⟨n,hl⟩,hr⟩:=RV.lst_iff aw;obtain ⟨_,b,us,rfl,ho',⟨m,hb⟩,hr'⟩:=RV.lst_iff aG
 have hlen:(vs++us).size<=sizeLine:=by
  have h1:=RVs.length hr
  have h2:=RVs.length hr'
  simp at h1 h2
  rw [Array.size_append,h1,h2]
  exact Nat.le_trans h (by decide)
 refine kQ ?_
 exact PySem.P.add_list hl hb ⟨ρ,Step.grow R (fun b o e=>Heap.get?_push_of_some _ e) ⟨_,_,rfl⟩,by
  dsimp only [RV]
  exact ⟨by rw [List.length_append];exact h,_,_,rfl,bT R,⟨_,Heap.get?_push_size _ rfl⟩,by
   rw [Array.toList_append]
   exact RVs.append (RVs.sameHeap (fun b o e=>Heap.get?_push_of_some _ e) hr) (RVs.sameHeap (fun b o e=>Heap.get?_push_of_some _ e) hr')⟩⟩ (by rwa [Array.size_append] at hlen)
theorem cZ1{x:List V}{n:Int}(h:n<=1000000/\-1000000<=n/\x.length * n.toNat<=lim):On G A (fun | [x,y]=>binaryOp .Mult x y | _=>pure .none) σ [.lst x,.int n] (.lst (zE x n.toNat)) σ:=On.two fun ρ s bD cG R aw aG ht=>by
 obtain ⟨hx,l,vs,rfl,ho,⟨k,hl⟩,hr⟩:=RV.lst_iff aw;obtain ⟨u,rfl⟩:=RV.int_iff aG
 have hsz:vs.size=x.length:=by have:=RVs.length hr;simpa using this
 have hlm:=(z7 h).2.2
 have hll:sizeLine=16777216:=rfl
 refine wpAny_binaryOp_repeat_ref (T:="list") (U:="int") (by decide) ⟨_,hl,rfl⟩ (fun s'=>typeIs_int s' n u) noFill_list_mul F.fills_int_mul F.slot_int_rmul repeat_list F.slot_int_index.lookup
  (call_meets F.slot_int_rmul (typeIs_int s n u) F.entry_int_rmul (F.args_int_rmul_2 _ _) (int___rmul___int_list n u l vs k) ⟨hl,rfl,⟨_,hl,rfl⟩,call_meets F.slot_list_mul ⟨_,hl,rfl⟩ F.entry_list_mul (F.args_list_mul_2 _ _)
   (AutoListH.list___mul___list_int_3 l vs k n u (by simp [Builtin.List.listFitsIndex];omega) (by rw [hsz];lia) (by rw [hsz];simp [Builtin.List.listTooLong];exact Nat.le_trans ‹_› (by decide))) ⟨hl,?_⟩⟩)
 refine ⟨ρ,Step.grow R (fun b o e=>Heap.get?_push_of_some _ e) ⟨_,_,rfl⟩,?_⟩
 dsimp only [RV]
 refine ⟨by rw [fN];exact h.2.2,_,_,rfl,bT R,⟨_,Heap.get?_push_size _ rfl⟩,RVs.sameHeap (fun b o e=>Heap.get?_push_of_some _ e) ?_⟩
 rw [a81]
 by_cases he:vs.isEmpty=true
 ·rw [if_pos he]
  have:x=[]:=List.eq_nil_of_length_eq_zero (by rw [← hsz,Array.isEmpty_iff.mp he];rfl)
  subst this
  have:zE [] n.toNat=[]:=List.eq_nil_of_length_eq_zero (by rw [fN];simp)
  rw [this]
  exact RVs.nil
 ·rw [if_neg he]
  exact RVs.rep hr _
noncomputable def OnB(G:Wd)(A:Around)(σ:List AO)(op:Operator)(v a b:V):Prop:=On G A (fun | [x,y]=>binaryOp op x y | _=>pure .none) σ [a,b] v σ
theorem OnB.of{op:Operator}{u v a b:V}(h:some u=some v)(k:OnB G A σ op u a b):OnB G A σ op v a b:=siX h ▸ k
theorem tq{a b v:V}(e:hJ1 a b=some v):OnB G A σ .Add v a b:=by
 cases a with
 | int x=>exact tM e fun y hy e=>by rw [hy];exact OnB.of e (On.ints fun ρ s t u R=>add_int (aQ R))
 | str x=>exact tL e fun y hy e=>by rw [hy];exact OnB.of (bq e).2 (ba1 (bq e).1)
 | lst x=>exact eR1 e fun y hy e=>by rw [hy];exact OnB.of (bq e).2 (bb1 (bq e).1)
 | _=>exact nso e
theorem sy{a b v:V}(e:hm1 a b=some v):OnB G A σ .Mult v a b:=by
 cases a with
 | int x=>exact tM e fun y hy e=>by rw [hy];exact OnB.of (bq e).2 (z8 (bq e).1)
 | str x=>exact tM e fun y hy e=>by rw [hy];exact OnB.of (bq e).2 (cY1 (bq e).1)
 | lst x=>exact tM e fun y hy e=>by rw [hy];exact OnB.of (bq e).2 (cZ1 (bq e).1)
 | _=>exact nso e
theorem tj{op:Operator}{a b v:V}(e:qj op a b=some v):OnB G A σ op v a b:=by
 cases op with
 | Add=>exact tq e
 | Sub=>exact yS (P:=OnB G A σ .Sub v) e fun x y e=>OnB.of e (On.ints fun ρ s t u R=>sub_int (aQ R))
 | Mult=>exact sy e
 | FloorDiv=>exact yS (P:=OnB G A σ .FloorDiv v) e fun x y e=>OnB.of (bq e).2 (On.ints fun ρ s t u R=>by
   have h:=(bq e).1
   refine floordiv_int (by omega) ?_ (.inl (PyProof.noPylong_small (by omega)))
   rw [Int.fdiv_eq_ediv_of_nonneg _ (by omega)]
   exact aQ R)
 | Mod=>exact yS (P:=OnB G A σ .Mod v) e fun x y e=>OnB.of (bq e).2 (On.ints fun ρ s t u R=>by
   have h:=(bq e).1
   refine mod_int' (by omega) ?_
   rw [Int.fmod_eq_emod_of_nonneg _ (by omega)]
   exact aQ R)
 | Pow=>exact yS (P:=OnB G A σ .Pow v) e fun x y e=>OnB.of (bq e).2 (On.ints fun ρ s t u R =>
   have h:=(bq e).1
   pow_int_small h.2.1 (by omega) (Nat.lt_of_lt_of_le h.1 (by decide)) (aQ R))
 | _=>exact nso e
end
mutual
noncomputable def okP:Nat->V->Bool
 | _,.none=>true
 | _,.bool _=>true
 | _,.int _=>true
 | _,.str l=>l.all (· < 0x110000)
 | n + 1,.tup l=>okPs n l
 | n + 1,.lst l=>okPs n l
 | _,_=>false
noncomputable def okPs:Nat->List V->Bool
 | _,[]=>true
 | n,x::xs=>okP n x && okPs n xs
end
mutual
noncomputable def toP:V->PyData
 | .none=>.none
 | .bool b=>.bool b
 | .int i=>.int i
 | .str l=>.str ⟨l.toArray⟩
 | .tup l=>.tuple (toPs l)
 | .lst l=>.list (toPs l)
 | _=>.none
noncomputable def toPs:List V->List PyData
 | []=>[]
 | x::xs=>toP x::toPs xs
end
mutual
theorem lS:∀ (n:Nat) (x:V),okP n x=true->(toP x).canLay0=true/\(toP x).depth<=n
 | n,.none=>fun _=>⟨rfl,Nat.zero_le _⟩
 | n,.bool b=>fun _=>⟨rfl,Nat.zero_le _⟩
 | n,.int i=>fun _=>⟨rfl,Nat.zero_le _⟩
 | n,.str l=>fun h=>⟨(show PyData.strOk ⟨l.toArray⟩=true by dsimp only [PyData.strOk];simpa using (show l.all (· < 0x110000)=true from h)),Nat.zero_le _⟩
 | n,.tup l=>@Nat.casesOn (fun n=>okP n (.tup l)=true->(toP (.tup l)).canLay0=true/\(toP (.tup l)).depth<=n) n ftr fun n h=>have:=okPs_can n l h;⟨this.1,Nat.succ_le_succ this.2⟩
 | n,.lst l=>@Nat.casesOn (fun n=>okP n (.lst l)=true->(toP (.lst l)).canLay0=true/\(toP (.lst l)).depth<=n) n ftr fun n h=>have:=okPs_can n l h;⟨this.1,Nat.succ_le_succ this.2⟩
 | n,.raw l=>fun h=>by cases n <;> exact ftr h
 | n,.rng a b c=>fun h=>by cases n <;> exact ftr h
 | n,.ref k=>fun h=>by cases n <;> exact ftr h
theorem okPs_can:∀ (n:Nat) (x:List V),okPs n x=true->PyData.canLayAll0 (toPs x)=true/\PyData.depthAll (toPs x)<=n
 | n,[],h=>⟨rfl,Nat.zero_le _⟩
 | n,x::xs,h =>
  have q:=ap h
  have a:=lS n x q.1
  have b:=okPs_can n xs q.2
  ⟨Bool.and_eq_true_iff.mpr ⟨a.1,b.1⟩,Nat.max_le.mpr ⟨a.2,b.2⟩⟩
end
mutual
theorem RV.reads{h:Heap}{ρ:Rho}:∀ (n:Nat) (x:V) (v:Value),okP n x=true->RV h ρ x v->∃ as,Reads h v (toP x) as
 | n,.none=>fun v k r=>RV.none_iff r ▸ ⟨_,.none⟩
 | n,.bool b=>fun v k r=>RV.bool_iff r ▸ ⟨_,.bool b⟩
 | n,.int i=>fun v k r=>a7 (RV.int_iff r) fun t e=>e ▸ ⟨_,.int i t⟩
 | n,.str l=>fun v k r=>jm (RV.str_iff r) fun _ h=>a7 h fun t e=>e ▸ ⟨_,.str _ t⟩
 | n,.tup l=>@Nat.casesOn (fun n=>∀ v,okP n (.tup l)=true->RV h ρ (.tup l) v->∃ as,Reads h v (toP (.tup l)) as) n (fun _ k _=>ftr k) fun n v k r=>jm (RV.tup_iff r) fun _ q=>eG1 q fun a vs e _ ht hr=>ht.elim fun m g=>(RVs.reads n l _ k hr).elim fun as h=>e ▸ ⟨_,.tuple g rfl rfl h⟩
 | n,.lst l=>@Nat.casesOn (fun n=>∀ v,okP n (.lst l)=true->RV h ρ (.lst l) v->∃ as,Reads h v (toP (.lst l)) as) n (fun _ k _=>ftr k) fun n v k r=>jm (RV.lst_iff r) fun _ q=>eG1 q fun a vs e _ ht hr=>ht.elim fun m g=>(RVs.reads n l _ k hr).elim fun as h=>e ▸ ⟨_,.list g rfl rfl h⟩
 | n,.raw l=>fun _ k _=>by cases n <;> exact ftr k
 | n,.rng a b c=>fun _ k _=>by cases n <;> exact ftr k
 | n,.ref i=>fun _ k _=>by cases n <;> exact ftr k
theorem RVs.reads{h:Heap}{ρ:Rho}:∀ (n:Nat) (x:List V) (v:List Value),okPs n x=true->RVs h ρ x v->∃ as,ReadsAll h v (toPs x) as
 | n,[],v,k,r=>RVs.nil_iff r ▸ ⟨_,.nil⟩
 | n,x::xs,v,k,r=>tH (RVs.cons_iff r) fun c cs e r1 r2=>a7 (RV.reads n x c (ap k).1 r1) fun a q1=>a7 (RVs.reads n xs cs (ap k).2 r2) fun b q2=>e ▸ ⟨_,.cons q1 q2⟩
end
noncomputable def veq(x y:V):Bool:=PyData.eqv (toP x) (toP y)
noncomputable def zn(x y:List V):Bool:=PyData.eqvAll (toPs x) (toPs y)
theorem uj(a b:List Nat):((⟨a.toArray⟩:Str) == ⟨b.toArray⟩)=(a == b):=by
 rw [Bool.eq_iff_iff,beq_iff_eq,beq_iff_eq]
 constructor
 ·intro h;injection h with h;simpa using congrArg Array.toList h
 ·rintro rfl;rfl
theorem lr(a b:List Nat):veq (.str a) (.str b)=(a == b):=uj a b
theorem lq(a b:List V):veq (.tup a) (.tup b)=zn a b:=rfl
theorem f6(x y:V)(xs ys:List V):zn (x::xs) (y::ys)=(veq x y && zn xs ys):=rfl
theorem iH:zn [] []=true:=rfl
theorem tZ(n:Nat)(x y:V)(_:okP n x=true)(_:okP n y=true):PyData.eqv (toP x) (toP y)=veq x y:=rfl
noncomputable def der(σ:List AO)(v:V):V :=
 match v with
 | .ref k=>match σ[k]? with
  | some ⟨items,none⟩=>.lst items
  | _=>v
 | _=>v
noncomputable def g11(y x:List Nat):Bool:=Txt.contains ⟨x.toArray⟩ ⟨y.toArray⟩
noncomputable def inF(σ:List AO)(a b:V):Option Bool :=
 match der σ b with
 | .str y=>(vS a).bind fun x=>some (g11 x y)
 | .lst l=>if okP 3 a && okPs 3 l then some (l.any fun y=>veq y a) else none
 | _=>none
noncomputable def eqG(σ:List AO)(a b:V):Option Bool:=if okP 4 (der σ a) && okP 4 (der σ b) then some (veq (der σ a) (der σ b)) else none
noncomputable def eqF(σ:List AO)(a b:V):Option Bool :=
 match vS a with
 | some x=>match vS b with
  | some y=>some (x == y)
  | none=>eqG σ a b
 | none=>eqG σ a b
noncomputable def ltF(a b:V):Option Bool:=match a with
 | .int x=>(vI b).bind fun y=>some (decide (x < y))
 | .str x=>(vS b).bind fun y=>some (decide (x < y))
 | _=>none
noncomputable def gtF(a b:V):Option Bool:=match a with
 | .int x=>(vI b).bind fun y=>some (decide (y < x))
 | .str x=>(vS b).bind fun y=>some (decide (y < x))
 | _=>none
noncomputable def vB:V->Option Bool
 | .bool b=>some b
 | _=>none
theorem gS1{v:V}{i:Bool}(h:vB v=some i):v=.bool i:=by cases v <;> first | (obtain rfl:=siX h;rfl) | exact nso h
noncomputable def isF(f:Bool->Bool->Bool)(a b:V):Option Bool:=(vB a).bind fun x=>(vB b).bind fun y=>some (f x y)
noncomputable def dF(op:CmpOp)(σ:List AO)(a b:V):Option Bool :=
 match op with
 | .Eq=>eqF σ a b
 | .NotEq=>(eqF σ a b).map (!·)
 | .Lt=>ltF a b
 | .LtE=>ii (fun x y=>some (decide (x<=y))) a b
 | .Gt=>gtF a b
 | .GtE=>ii (fun x y=>some (decide (y<=x))) a b
 | .Is=>isF (fun x y=>x == y) a b
 | .IsNot=>isF (fun x y=>x != y) a b
 | .In=>inF σ a b
 | .NotIn=>(inF σ a b).map (!·)
section
variable {G:Wd} {A:Around} {C C':Cx} {env cenv:Env} {W W':List Addr} {η η' η₁ η₂ bw:ac} {σ σ' σ₁ σ₂ aj:List AO} {ρ ρ' ab:Rho} {s s' ao aA:Shared}
theorem dW{n:Nat}{v:V}{cv:Value}(R:Rel G σ ρ s)(r:RV s.heap ρ v cv)(k:okP n (der σ v)=true):∃ as,Reads s.heap cv (toP (der σ v)) as:=by
 cases v with
 | ref i =>
  obtain ⟨p,hp,rfl⟩:=RV.ref_iff r
  refine gc (σ[i]?) (fun hσ=>?_) (fun o hσ=>?_)
  ·
   have e:der σ (.ref i)=.ref i:=by show (match σ[i]? with | some ⟨items,none⟩=>V.lst items | _=>.ref i)=_;rw [hσ]
   replace k:=(e) ▸ k;cases n <;> (delta okP at k;exact ftr k)
  ·
   obtain ⟨items,acc⟩:=o
   cases acc with
   | some z =>
    have e:der σ (.ref i)=.ref i:=by show (match σ[i]? with | some ⟨items,none⟩=>V.lst items | _=>.ref i)=_;rw [hσ]
    replace k:=(e) ▸ k;cases n <;> (delta okP at k;exact ftr k)
   | none =>
    have e:der σ (.ref i)=.lst items:=by show (match σ[i]? with | some ⟨items,none⟩=>V.lst items | _=>.ref i)=_;rw [hσ]
    rw [e] at k ⊢
    cases n with
    | zero=>delta okP at k;exact ftr k
    | succ n =>
     refine byQ fun Q kQ=>?_
     dsimp only [okP] at k
     have ro:=R.obj i p _ hp hσ
     dsimp only [RO] at ro
     obtain ⟨hlim,e2,vs,⟨m,hpl⟩,hr⟩:=ro
     obtain ⟨as,h⟩:=RVs.reads n items _ k hr
     refine kQ ?_
     dsimp only [toP];exact ⟨_,.list hpl rfl rfl h⟩
 | _=>exact RV.reads n _ cv k r
theorem mG{n:Nat}{x:V}(hx:okP n x=true):∀ {l:List V},okPs n l=true->((toPs l).any fun y=>PyData.eqv y (toP x))=l.any fun y=>veq y x
 | [],_=>rfl
 | y::ys,h=>congrArg (veq y x || ·) (mG hx (ap h).2)
noncomputable def OnC(G:Wd)(A:Around)(σ:List AO)(op:CmpOp)(k:Bool)(a b:V):Prop:=On G A (fun | [x,y]=>compareOp op x y | _=>pure .none) σ [a,b] (.bool k) σ
theorem OnC.of{op:CmpOp}{u k:Bool}{a b:V}(h:some u=some k)(q:OnC G A σ op u a b):OnC G A σ op k a b:=siX h ▸ q
theorem n0{a b:V}{k:Bool}(hu:A.units + 10 < cLine)(e:eqG σ a b=some k):OnC G A σ .Eq k a b/\OnC G A σ .NotEq (!k) a b:=by
 have h:=Bool.and_eq_true_iff.mp (bq e).1
 refine (siX (bq e).2) ▸ ?_
 have c1:=lS 4 _ h.1
 have c2:=lS 4 _ h.2
 refine ⟨On.two fun ρ s e71 e61 R aw aG ht=>?_,On.two fun ρ s e71 e61 R aw aG ht=>?_⟩
 ·obtain ⟨as,q1⟩:=dW R aw h.1
  obtain ⟨bs,q2⟩:=dW R aG h.2
  refine PySem.SeqAt.compareEq_reads q1 q2 c1.1 c2.1 (by have:=c1.2;have:=Nat.min_le_left (toP (der σ a)).depth (toP (der σ b)).depth;omega) ?_
  rw [tZ 4 _ _ h.1 h.2];exact aC R
 ·obtain ⟨as,q1⟩:=dW R aw h.1
  obtain ⟨bs,q2⟩:=dW R aG h.2
  refine PySem.SeqAt.compareNe_reads q1 q2 c1.1 c2.1 (by have:=c1.2;have:=Nat.min_le_left (toP (der σ a)).depth (toP (der σ b)).depth;omega) ?_
  rw [tZ 4 _ _ h.1 h.2];exact aC R
theorem n6{a b:V}{k:Bool}(hu:A.units + 10 < cLine)(e:eqF σ a b=some k):OnC G A σ .Eq k a b/\OnC G A σ .NotEq (!k) a b:=by
 refine gc (vS a) (fun hx=>?_) (fun x hx=>?_)
 ·exact n0 hu (by rw [← e,eqF,hx])
 ·refine gc (vS b) (fun hy=>?_) (fun y hy=>?_)
  ·exact n0 hu (by rw [← e,eqF,hx,hy])
  ·
   have e:some (x == y)=some k:=by rw [← e,eqF,hx,hy]
   rw [fl1 hx,fl1 hy,← siX e]
   exact ⟨On.strs fun ρ s t u R=>PySem.P.eq_str (aC R),On.strs fun ρ s t u R=>PySem.P.ne_str (aC R)⟩
theorem vW{v:V}(h:∀ l,der σ v≠.lst l):der σ v=v:=by
 cases v with
 | ref i =>
  have key:∀ o:Option AO,(∀ l:List V,(match o with | some ⟨items,none⟩=>V.lst items | _=>V.ref i)≠V.lst l)->(match o with | some ⟨items,none⟩=>V.lst items | _=>V.ref i)=V.ref i:=by
   intro o h
   cases o with
   | none=>rfl
   | some a=>obtain ⟨x,y⟩:=a;cases y with
    | none=>exact absurd rfl (h x)
    | some _=>rfl
  exact key _ h
 | _=>rfl
theorem eg{v:V}{l:List Nat}(hd:der σ v=.str l):v=.str l:=(vW fun x e=>nomatch hd.symm.trans e).symm.trans hd
theorem nV{a b:V}{k:Bool}(hu:A.units + 10 < cLine)(e:inF σ a b=some k):OnC G A σ .In k a b/\OnC G A σ .NotIn (!k) a b:=by
 cases hd:der σ b with
 | str y =>
  refine byQ fun Q kQ=>?_
  have e:(vS a).bind (fun x=>some (g11 x y))=some k:=by rw [← e,inF,hd]
  refine kQ ?_
  refine tL e fun x hx e=>?_
  rw [hx,eg hd,← siX e]
  exact ⟨On.strs fun ρ s t u R=>SB.contains (aC R),On.strs fun ρ s t u R=>SB.notContains (aC R)⟩
 | lst l =>
  have e:(if okP 3 a && okPs 3 l then some (l.any fun y=>veq y a) else none)=some k:=by rw [← e,inF,hd]
  have h:=Bool.and_eq_true_iff.mp (bq e).1
  refine (siX (bq e).2) ▸ ?_
  have c1:=lS 3 _ h.1
  have c2:=okPs_can 3 _ h.2
  have hl4:okP 4 (der σ b)=true:=by exact (hd) ▸ (h.2)
  have tl:toP (der σ b)=.list (toPs l):=by rw [hd];rfl
  refine ⟨On.two fun ρ s e71 e61 R aw aG ht=>?_,On.two fun ρ s e71 e61 R aw aG ht=>?_⟩
  ·obtain ⟨as,q1⟩:=RV.reads 3 _ _ h.1 aw
   obtain ⟨bs,q2⟩:=dW R aG hl4
   rw [tl] at q2
   refine PySem.SeqAt.in_list_reads q2 q1 c2.1 c1.1 (by have:=c1.2;have:=Nat.min_le_right (PyData.depthAll (toPs l)) (toP a).depth;omega) ?_
   rw [mG h.1 h.2];exact aC R
  ·obtain ⟨as,q1⟩:=RV.reads 3 _ _ h.1 aw
   obtain ⟨bs,q2⟩:=dW R aG hl4
   rw [tl] at q2
   refine PySem.SeqAt.notIn_list_reads q2 q1 c2.1 c1.1 (by have:=c1.2;have:=Nat.min_le_right (PyData.depthAll (toPs l)) (toP a).depth;omega) ?_
   rw [mG h.1 h.2];exact aC R
 | _=>exact nomatch (show none=some k by rw [← e,inF,hd])
theorem c21{o:Option Bool}{k:Bool}{P:Prop}(h:o.map (!·)=some k)(q:∀ j,o=some j->(!j)=k->P):P:=(Option.map_eq_some_iff.mp h).elim fun j h=>q j h.1 h.2
theorem dh1{f:Bool->Bool->Bool}{a b:V}{k:Bool}{P:V->V->Bool->Prop}(h:isF f a b=some k)(q:∀ x y,P (.bool x) (.bool y) (f x y)):P a b k :=
 j0 h fun x hx h=>j0 h fun y hy h=>by rw [gS1 hx,gS1 hy,← siX h];exact q x y
theorem u8{a b:V}{k:Bool}(e:ltF a b=some k):OnC G A σ .Lt k a b:=by
 cases a with
 | int x=>exact tM e fun y hy e=>by rw [hy];exact OnC.of e (On.ints fun ρ s t u R=>lt_int (aC R))
 | str x=>exact tL e fun y hy e=>by rw [hy];exact OnC.of e (On.strs fun ρ s t u R=>PySem.P.lt_str (aC R))
 | _=>exact nso e
theorem vF{a b:V}{k:Bool}(e:gtF a b=some k):OnC G A σ .Gt k a b:=by
 cases a with
 | int x=>exact tM e fun y hy e=>by rw [hy];exact OnC.of e (On.ints fun ρ s t u R=>gt_int (aC R))
 | str x=>exact tL e fun y hy e=>by rw [hy];exact OnC.of e (On.strs fun ρ s t u R=>PySem.P.gt_str (aC R))
 | _=>exact nso e
theorem bz{op:CmpOp}{a b:V}{k:Bool}(hu:A.units + 10 < cLine)(e:dF op σ a b=some k):OnC G A σ op k a b:=by
 cases op with
 | Eq=>exact (n6 hu e).1
 | NotEq=>exact c21 e fun j h hk=>hk ▸ (n6 hu h).2
 | Lt=>exact u8 e
 | LtE=>exact yS (P:=OnC G A σ .LtE k) e fun x y e=>OnC.of e (On.ints fun ρ s t u R=>le_int (aC R))
 | Gt=>exact vF e
 | GtE=>exact yS (P:=OnC G A σ .GtE k) e fun x y e=>OnC.of e (On.ints fun ρ s t u R=>ge_int (aC R))
 | Is=>exact dh1 (P:=fun a b k=>OnC G A σ .Is k a b) e fun x y=>On.two fun ρ s bD cG R aw aG ht=>RV.bool_iff aw ▸ RV.bool_iff aG ▸ is_bool (aC R)
 | IsNot=>exact dh1 (P:=fun a b k=>OnC G A σ .IsNot k a b) e fun x y=>On.two fun ρ s bD cG R aw aG ht=>RV.bool_iff aw ▸ RV.bool_iff aG ▸ isnot_bool (aC R)
 | In=>exact (nV hu e).1
 | NotIn=>exact c21 e fun j h hk=>hk ▸ (nV hu h).2
theorem sw{i:Int}:On G A (fun | [x]=>unaryOp .USub x | _=>pure .none) σ [.int i] (.int (-i)) σ:=On.one fun ρ s bD R aw ht=>by
 obtain ⟨t,rfl⟩:=RV.int_iff aw;exact neg_int (aQ R)
end
noncomputable def ez(σ:List AO)(a i:V):Option V :=
 match i with
 | .int i=>if -1000000000<=i/\i<=1000000000 then
   match der σ a with
   | .str l=>match seqIndex? i l.length with | some k=>(l[k]?).map fun c=>.str [c] | none=>none
   | .tup l=>match seqIndex? i l.length with | some k=>l[k]? | none=>none
   | .lst l=>match seqIndex? i l.length with | some k=>l[k]? | none=>none
   | _=>none
  else none
 | _=>none
noncomputable def fz:V->Option (Option Int)
 | .none=>some none
 | .int i=>some (some i)
 | _=>none
noncomputable def j4{α:Type}(l:List α)(lo hi st:Option Int):List α :=
 (sliceRange (sliceBounds lo hi st l.length).1 (sliceBounds lo hi st l.length).2.1 (sliceBounds lo hi st l.length).2.2).filterMap (l[·]?)
noncomputable def mQ(σ:List AO)(a lo hi st:V):Option V :=
 match fz lo,fz hi,fz st with
 | some l,some h,some s =>
  if s=some 0 then none else
  match der σ a with
  | .str x=>if s=none then some (.str (Txt.slice ⟨x.toArray⟩ l h).cps.toList) else none
  | .lst x=>some (.lst (j4 x l h s))
  | .raw x=>some (.lst (j4 x l h s))
  | _=>none
 | _,_,_=>none
section
variable {G:Wd} {A:Around} {C C':Cx} {env cenv:Env} {W W':List Addr} {η η' η₁ η₂ bw:ac} {σ σ' σ₁ σ₂ aj σ₄ b9:List AO} {ρ ρ' ab:Rho} {s s' ao aA:Shared}
noncomputable def hL1(o i:Value)(slice:Expr):Prop:=∃ vs,subscripted slice false o i=operate vs (getItem o i)
theorem bS1{o i:Value}{slice:Expr}{vs:List Value}(h:subscripted slice false o i=operate vs (getItem o i)):hL1 o i slice:=⟨vs,h⟩
theorem ui(slice:Expr)(o i:Value):hL1 o i slice:=by
 cases slice with
 | Slice a b c p=>cases c <;> exact bS1 rfl
 | _=>exact bS1 rfl
theorem qT{value slice:Expr}{o i:Value}{Q:Value->Shared->Prop}{E:Value->Shared->Prop}(h:ItemOn (model G.prog G.w) A E o i Q s):wpAny (model G.prog G.w) A (subscriptTail value slice o i) Q E s:=by
 refine dp (h) fun T id h_p=>?_;have hl:=h_p.1;have hT:=h_p.2.1;have hg:=h_p.2.2
 unfold subscriptTail
 refine wpAny_bind ?_
 refine (getitemInPython_of_ne hT.not_modules) ▸ ?_
 refine wpAny_bind (wpAny_specialOf hT hl ?_)
 refine wpAny_pure ?_
 refine wpAny_bind ?_
 have fin:∀ vs:List Value,wpAny (model G.prog G.w) A (operate vs (getItem o i)) (fun r fX=>wpAny (model G.prog G.w) A (letTemporaryGo value o r >>= fun _=>pure r) Q E fX) E s :=
  fun vs=>wpAny_operating (wpAny_mono hg (fun r fX kj=>wpAny_bind (wpAny_letTemporaryGo (wpAny_pure kj))) fun _ _ x=>x)
 exact a7 (ui slice o i) fun vs e=>e ▸ fin vs
theorem aI1{k:Nat}{l:List V}{cv:Value}(hd:der σ (.ref k)=.lst l)(R:Rel G σ ρ s)(r:RV s.heap ρ (.ref k) cv):∃ a vs,cv=.ref a/\s.heap.PlainList a vs/\RVs s.heap ρ l vs.toList/\l.length<=lim:=by
 refine aO (RV.ref_iff r) fun p hp rfl=>?_
 have hd':(match σ[k]? with | some ⟨items,none⟩=>V.lst items | _=>.ref k)=.lst l:=hd
 refine gc (σ[k]?) (fun hσ=>?_) (fun o hσ=>?_)
 ·replace hd':=(hσ) ▸ hd';cases hd'
 ·
  obtain ⟨items,acc⟩:=o
  cases acc with
  | some z=>replace hd':=(hσ) ▸ hd';cases hd'
  | none =>
   refine byQ fun Q kQ=>?_
   replace hd':=(hσ) ▸ hd';cases hd'
   have ro:=R.obj k p _ hp hσ
   dsimp only [RO] at ro
   obtain ⟨hlim,e2,vs,h_p⟩:=ro;have hpl:=h_p.1;have hr:=h_p.2
   refine kQ ?_
   exact eK1 p.1 vs rfl hpl hr hlim
theorem cL{v:V}{l:List V}{cv:Value}(hd:der σ v=.lst l)(R:Rel G σ ρ s)(r:RV s.heap ρ v cv):∃ a vs,cv=.ref a/\s.heap.PlainList a vs/\RVs s.heap ρ l vs.toList/\l.length<=lim:=by
 cases v with
 | ref k=>exact aI1 hd R r
 | lst x =>
  refine byQ fun Q kQ=>?_
  have:V.lst x=.lst l:=hd
  cases this
  obtain ⟨hl,a,vs,h_p⟩:=RV.lst_iff r;obtain rfl:=h_p.1;have hp:=h_p.2.2.1;have hr:=h_p.2.2.2
  refine kQ ?_
  exact eK1 a vs rfl hp hr hl
 | _=>cases hd
theorem p5{v:V}{l:List V}(hd:der σ v=.tup l):v=.tup l:=(vW fun x e=>nomatch hd.symm.trans e).symm.trans hd
theorem aJ1{v:V}{l:List V}(hd:der σ v=.raw l):v=.raw l:=(vW fun x e=>nomatch hd.symm.trans e).symm.trans hd
theorem vh{a:Addr}{vs:Array Value}{i:Int}{t:Tok}{k:Nat}{c:Value}{Q:Value->Shared->Prop}{E:Value->Shared->Prop}(hp:s.heap.PlainList a vs)(hi:-1000000000<=i/\i<=1000000000)
  (hk:seqIndex? i vs.size=some k) (hc:vs[k]?=some c) (h:Q c s):ItemOn (model G.prog G.w) A E (.ref a) (.int i t) Q s:=by
 refine mT ("list") _ list_getitem_lookup hp.isList.typeIs ?_
 by_cases h0:0<=i
 ·refine wpAny_getItem_list hp.isList h0 (by omega) ?_ h
  unfold seqIndex? at hk
  simp only [show ¬ i < 0 by exact Int.not_lt.mpr ‹_›,if_false] at hk
  split at hk
  ·obtain rfl:=siX hk;exact hc
  ·exact nso hk
 ·unfold seqIndex? at hk
  simp only [show i < 0 by exact Int.not_le.mp ‹_›,if_true] at hk
  split at hk
  ·rename_i hh
   simp only [Bool.and_eq_true,decide_eq_true_eq] at hh
   obtain rfl:=siX hk
   exact wpAny_getItem_list_neg hp.isList (by exact Int.not_le.mp ‹_›) (by omega) (by omega) hc h
  ·exact nso hk
theorem yD{l:List V}{i:Int}{v:V}(e:(match seqIndex? i l.length with | some k=>l[k]? | none=>none)=some v):∃ k,seqIndex? i l.length=some k/\l[k]?=some v:=by
 cases hk:seqIndex? i l.length with
 | none=>replace e:=(hk) ▸ e;exact nso e
 | some k=>rw [hk] at e;exact ⟨k,rfl,e⟩
theorem xP{a i v:V}{bD cG:Value}{Q:Value->Shared->Prop}(R:Rel G σ ρ s)(e:ez σ a i=some v)(aw:RV s.heap ρ a bD)(aG:RV s.heap ρ i cG)(k:∀ cv s',Step G ρ s ρ s' σ->RV s'.heap ρ v cv->Q cv s'):ItemOn (model G.prog G.w) A No bD cG Q s:=by
 cases i <;> first | (exact nso e;done) | skip
 rename_i i
 obtain ⟨u,rfl⟩:=RV.int_iff aG
 have hi:=(bq e).1
 have e:=(bq e).2
 cases hd:der σ a with
 | str l =>
  refine byQ fun Q kQ=>?_
  replace e:=(hd) ▸ e
  dsimp only at e
  replace aw:=(eg hd) ▸ aw
  obtain ⟨_,t,rfl⟩:=RV.str_iff aw
  refine kQ ?_
  refine gc (seqIndex? i l.length) (fun hk=>?_) (fun n hk=>?_)
  ·replace e:=(hk) ▸ e;exact nso e
  ·
   refine byQ fun Q kQ=>?_
   replace e:=(hk) ▸ e
   obtain ⟨c,h_p⟩:=Option.map_eq_some_iff.mp e;have hc:=h_p.1;obtain rfl:=h_p.2
   have hch:Txt.charAt ⟨l.toArray⟩ i=some c:=by
    dsimp only [Txt.charAt]
    rw [bC,hk]
    simpa using hc
   refine kQ ?_
   refine SB.item ?_ (by rw [hch];rfl) ?_
   ·simp only [fitsSsize,Bool.not_eq_true',Bool.or_eq_false_iff,decide_eq_false_iff_not]
    omega
   ·refine k _ _ (Step.toks R _) (RV.str' (show 1<=lim by decide) ?_)
    dsimp only [Txt.item]
    rw [hch];rfl
 | tup l =>
  refine byQ fun Q kQ=>?_
  replace e:=(hd) ▸ e
  replace aw:=(p5 hd) ▸ aw
  obtain ⟨_,ad,vs,rfl,_,⟨n,hp⟩,hr⟩:=RV.tup_iff aw
  obtain ⟨m,h_p⟩:=yD e;have hk:=h_p.1;have e:=h_p.2
  obtain ⟨c,h_p⟩:=RVs.get hr e;have hc:=h_p.1;have hv:=h_p.2
  have hlen:vs.size=l.length:=by have:=RVs.length hr;simpa using this
  refine kQ ?_
  exact mT ("tuple") _ F.slot_tuple_getitem.lookup ⟨_,hp,rfl⟩ (PySem.P.getItem_tuple hp (by omega) (by omega) (by rw [hlen];exact hk) (by simpa using hc) (k _ _ (Step.refl R) hv))
 | lst l =>
  refine byQ fun Q kQ=>?_
  replace e:=(hd) ▸ e
  obtain ⟨ad,vs,rfl,h_p⟩:=cL hd R aw;have hp:=h_p.1;have hr:=h_p.2.1;have hlim:=h_p.2.2
  obtain ⟨m,h_p⟩:=yD e;have hk:=h_p.1;have e:=h_p.2
  refine aO (RVs.get hr e) fun c hc hv=>?_
  have hlen:vs.size=l.length:=by have:=RVs.length hr;simpa using this
  refine kQ ?_
  exact vh hp hi (by rw [hlen];exact hk) (by simpa using hc) (k _ _ (Step.refl R) hv)
 | _=>replace e:=(hd) ▸ e;exact nso e
theorem Ev.idx{value slice:Expr}{pos:Pos}{a i v:V}(d4:Ev G A C env W value σ η a σ₁)(fC:Ev G A C env W slice σ₁ η i σ₂)(e:ez σ₂ a i=some v):Ev G A C env W (.Subscript value slice pos) σ η v σ₂:=fun ρ s R N ht =>
 Subscript_ (d4.use R N ht fun bD ao ab ag aL aM aw=>fC.use ag.rel aL aM fun cG aA av au cN dH aG=>qT (xP au.rel e (RV.mono (Step.keepV ag.rel au) _ _ aw) aG fun cv s' S r=>⟨av,(ag.trans au).trans S,r⟩))
noncomputable def Ep(G:Wd)(A:Around)(C:Cx)(env:Env)(W:List Addr)(e:Option Expr)(σ:List AO)(η:ac)(v:V)(σ':List AO):Prop :=
 (e=none/\v=.none/\σ'=σ)\/∃ x,e=some x/\Ev G A C env W x σ η v σ'
theorem Ep.use{e:Option Expr}{v:V}{Q:Value->Shared->Prop}{E:Value->Shared->Prop}(H:Ep G A C env W e σ η v σ')(R:Rel G σ ρ s)(N:RE G C env W η ρ s)(ht:0 < s.toks)
  (k:∀ cv s' ρ',Step G ρ s ρ' s' σ'->RE G C env W η ρ' s'->0 < s'.toks->RV s'.heap ρ' v cv->Q cv s'):wpAny (model G.prog G.w) A (evalPart e env) Q E s:=by
 rcases H with ⟨rfl,rfl,rfl⟩ | ⟨x,rfl,H⟩
 ·exact wpAny_pure (k _ _ _ (Step.refl R) N ht RV.none_)
 ·exact H.use R N ht k
theorem ju{h:Heap}{ρ:Rho}{v:V}{cv:Value}{l:Option Int}(e:fz v=some l)(r:RV h ρ v cv):IsPart cv l/\∃ p:Option (Int × Tok),cv=partValue p/\p.map (·.1)=l:=by
 cases v with
 | none=>obtain rfl:=siX e;exact (RV.none_iff r) ▸ (⟨.none,none,rfl,rfl⟩)
 | int i=>obtain rfl:=siX e;obtain ⟨t,rfl⟩:=RV.int_iff r;exact ⟨.int i t,some (i,t),rfl,rfl⟩
 | _=>exact nso e
theorem pa{α:Type}(l:List α)(lo hi st:Option Int):(j4 l lo hi st).length<=l.length:=by
 unfold j4
 refine Nat.le_trans (List.length_filterMap_le ..) (sliceRange_length_le _ _ _ _ (fun hc=>?_) fun hc=>?_)
 ·simp only [sliceBounds] at hc ⊢
  simp only [hc,if_true]
  constructor
  ·cases lo with
   | none=>simp
   | some i=>dsimp only;omega
  ·cases hi with
   | none=>simp
   | some i=>dsimp only;omega
 ·simp only [sliceBounds] at hc ⊢
  simp only [hc,if_false]
  constructor
  ·cases lo with
   | none=>simp
   | some i=>dsimp only;omega
  ·cases hi with
   | none=>simp
   | some i=>dsimp only;omega
theorem kH{ad sl:Addr}{vs:Array Value}{x:List V}{cG v2 y1:Value}{l h st:Option Int}{Q:Value->Shared->Prop}(R:Rel G σ ρ s)(hs:s.heap.IsSliceOf sl cG v2 y1)(p2:IsPart cG l)(p3:IsPart v2 h)(p4:IsPart y1 st)(h0:st≠some 0)
  (hil:s.heap.IsList ad vs) (hr:RVs s.heap ρ x vs.toList) (hx:x.length<=lim) (k:∀ cv s',Step G ρ s ρ s' σ->RV s'.heap ρ (.lst (j4 x l h st)) cv->Q cv s'):ItemOn (model G.prog G.w) A No (.ref ad) (.ref sl) Q s:=by
 have hlen:vs.size=x.length:=by have:=RVs.length hr;simpa using this
 refine mT ("list") _ list_getitem_lookup hil.typeIs (wpAny_getItem_list_slice hil hs p2 p3 p4 h0 (k _ _ (Step.grow R (fun b o e=>Heap.get?_push_of_some _ e) ⟨_,_,rfl⟩) ?_) (by rw [hlen];exact Nat.le_trans hx (by decide)))
 dsimp only [RV]
 refine ⟨Nat.le_trans (pa _ _ _ _) hx,_,_,rfl,bT R,⟨_,Heap.get?_push_size _ rfl⟩,RVs.sameHeap (fun b o e=>Heap.get?_push_of_some _ e) ?_⟩
 unfold slicePick j4
 rw [hlen]
 have:=RVs.filterMap_get hr (sliceRange (sliceBounds l h st x.length).1 (sliceBounds l h st x.length).2.1 (sliceBounds l h st x.length).2.2)
 simpa using this
theorem fx1{P:Prop}{a lo hi st v:V}(e:mQ σ a lo hi st=some v) (q:∀ l h s,fz lo=some l->fz hi=some h->fz st=some s->s≠some 0 ->
  (match der σ a with | .str x=>if s=none then some (.str (Txt.slice ⟨x.toArray⟩ l h).cps.toList) else none | .lst x=>some (.lst (j4 x l h s)) | .raw x=>some (.lst (j4 x l h s)) | _=>none)=some v->P):P:=by
 unfold mQ at e
 refine gc (fz lo) (fun h1=>?_) (fun l h1=>?_)
 ·replace e:=(h1) ▸ e;exact nso e
 ·refine gc (fz hi) (fun h2=>?_) (fun h h2=>?_)
  ·rw [h1,h2] at e;exact nso e
  ·refine gc (fz st) (fun h3=>?_) (fun s h3=>?_)
   ·rw [h1,h2,h3] at e;exact nso e
   ·
    rw [h1,h2,h3] at e
    by_cases h0:s=some 0
    ·exact nomatch (if_pos h0).symm.trans e
    ·exact q l h s h1 h2 h3 h0 ((if_neg h0).symm.trans e)
theorem se{a lo hi st v:V}{bD cG v2 y1:Value}{sl:Addr}{fC kj dk1:Heap}{av bH iQ:Rho}{Q:Value->Shared->Prop}(R:Rel G σ ρ s)(e:mQ σ a lo hi st=some v)(aw:RV s.heap ρ a bD)(aG:RV fC av lo cG)(gx:RV kj bH hi v2)(xe:RV dk1 iQ st y1)
  (hs:s.heap.IsSliceOf sl cG v2 y1) (k:∀ cv s',Step G ρ s ρ s' σ->RV s'.heap ρ v cv->Q cv s'):ItemOn (model G.prog G.w) A No bD (.ref sl) Q s:=fx1 e fun l h s0 hl hh hst h0 e=>by
 obtain ⟨p2,q2,e2,m2⟩:=ju hl aG
 obtain ⟨p3,q3,e3,m3⟩:=ju hh gx
 obtain ⟨p4,q4,e4,m4⟩:=ju hst xe
 cases hd:der σ a with
 | str x =>
  replace e:=(hd) ▸ e
  have hs0:=(bq e).1
  rw [← siX (bq e).2] at k
  rw [eg hd] at aw
  obtain ⟨hx,t,rfl⟩:=RV.str_iff aw
  subst hs0
  refine mT ("str") _ F.slot_str_getitem.lookup (typeIs_str _ _ _) ?_
  refine byQ fun Q kQ=>?_
  have e4':y1=.none:=by
   cases q4 with
   | none=>exact e4
   | some q=>exact son m4
  subst e2 e3 e4'
  refine kQ ?_
  refine wpAny_getItem_str_slice (l:=q2) (u:=q3) (st:=none) hs rfl ?_
  rw [← m2,← m3] at k
  have hle:=Txt.slice_le ⟨x.toArray⟩ (q2.map (·.1)) (q3.map (·.1))
  rw [bC] at hle
  refine post_val_or_str ⟨Nat.le_trans hle (Nat.le_trans hx (by decide)),fun t' tk=>k _ _ (Step.toks R _) (RV.str' ?_ rfl)⟩
  have e5:(Txt.slice ⟨x.toArray⟩ (q2.map (·.1)) (q3.map (·.1))).cps.toList.length=(Txt.slice ⟨x.toArray⟩ (q2.map (·.1)) (q3.map (·.1))).length:=rfl
  rw [e5];exact Nat.le_trans hle hx
 | lst x =>
  rw [hd] at e
  rw [← siX e] at k
  obtain ⟨ad,vs,rfl,h_p⟩:=cL hd R aw;have hp:=h_p.1;have hr:=h_p.2.1;have hx:=h_p.2.2
  exact kH R hs p2 p3 p4 h0 hp.isList hr hx k
 | raw x =>
  rw [hd] at e
  rw [← siX e] at k
  rw [aJ1 hd] at aw
  obtain ⟨hx,ad,vs,h_p⟩:=RV.raw_iff aw;obtain rfl:=h_p.1;have hil:=h_p.2.2.1;have hr:=h_p.2.2.2
  exact kH R hs p2 p3 p4 h0 hil hr hx k
 | _=>replace e:=(hd) ▸ e;exact nso e
theorem Ev.slice{value:Expr}{lower upper step:Option Expr}{p pos:Pos}{a lo hi st v:V}(d4:Ev G A C env W value σ η a σ₁)(fC:Ep G A C env W lower σ₁ η lo σ₂)(kj:Ep G A C env W upper σ₂ η hi aj)(dk1:Ep G A C env W step aj η st σ₄)
  (e:mQ σ₄ a lo hi st=some v):Ev G A C env W (.Subscript value (.Slice lower upper step p) pos) σ η v σ₄:=fun ρ s R N ht =>
 Subscript_ (d4.use R N ht fun bD ao ab ag aL aM aw=>wpAny_Slice (fC.use ag.rel aL aM fun cG aA av au cN dH aG=>kj.use au.rel cN dH fun v2 fX bH b5 mW kB gx=>dk1.use b5.rel mW kB fun y1 ly iQ jV mM yz xe =>
  have fW:=Step.grow jV.rel (fun b o e=>Heap.get?_push_of_some { cls:=.type "slice",data:=.fields #[cG,v2,y1] } e) ⟨_,_,rfl⟩
  have T:=au.trans (b5.trans (jV.trans fW))
  qT (se fW.rel e (RV.mono (Step.keepV ag.rel T) _ _ aw) aG gx xe (Heap.IsSliceOf.new ..) fun cv s' S r=>⟨iQ,(ag.trans T).trans S,r⟩)))
end
structure Gl (G:Wd) (x:Str) (f:Value):Prop where
 gm:∃ m,G.s₀.heap.Ns mainGlobals m/\(m x=some f\/(m x=none/\∃ b,G.s₀.heap.Ns builtinsNs b/\b x=some f))
 l1:mainGlobals ∉ G.loose
 l2:builtinsNs ∉ G.loose
section
variable {G:Wd} {A:Around} {C C':Cx} {env cenv:Env} {W W':List Addr} {η η' η₁ η₂ bw:ac} {σ σ' σ₁ σ₂ aj σ₄ b9:List AO} {ρ ρ' ab:Rho} {s s' ao aA:Shared}
theorem Ns.of_base{a:Addr}{m:Str->Option Value}(R:Rel G σ ρ s)(h:G.s₀.heap.Ns a m)(hl:a ∉ G.loose):s.heap.Ns a m:=by
 refine yL (h) fun o es ep e r=>?_
 exact hw1 o es ep (R.keep a o hl e) r
theorem RE.global{x:Str}{p:Pos}{f:Value}(R:Rel G σ ρ s)(N:RE G C env W η ρ s)(hk:C.kind x=some .globalImplicit)(hd:(x == ("__debug__":Str))=false)(g:Gl G x f){Q:Value->Shared->Prop}{E:Value->Shared->Prop}(h:Q f s) :
  wpAny (model G.prog G.w) A (eval (.Name x p) env) Q E s:=by
 have hf:env.scope.kind=.function:=by rw [N.sc];exact (Cx.ok_parts N.ok).1
 refine Name_function_global hf (by unfold Env.kindOf;rw [N.sc];exact hk) ?_ hd
 refine a7 (g.gm) fun m h_p=>?_;have hm:=h_p.1;have hx:=h_p.2
 have hm':s.heap.Ns env.globals m:=by rw [N.glob];exact Ns.of_base R hm g.l1
 rcases hx with hx | ⟨hx,b,hb,hbx⟩
 ·exact loadGlobal_global hm' hx h
 ·have hb':s.heap.Ns env.builtins b:=by rw [N.blt];exact Ns.of_base R hb g.l2
  exact loadGlobal_builtin hm' hx hb' hbx h
noncomputable def aI:List Expr->Bool
 | []=>true
 | e::es=>gJ e && aI es
theorem cP{pos:Pos}:∀ {es:List Expr},aI es=true->(backTo pos (starEach es env)).any (·.1)=false
 | [],_=>rfl
 | e::es,h=>by
  dsimp only [aI] at h
  obtain ⟨h1,h2⟩:=Bool.and_eq_true_iff.mp h
  rw [a9 h1]
  show (false || (backTo pos (starEach es env)).any (·.1))=false
  rw [cP h2];rfl
theorem eM{pos:Pos}:∀ {es:List Expr},aI es=true->(backTo pos (starEach es env)).all (fun x=>!x.1)=true
 | [],_=>rfl
 | e::es,h=>by
  dsimp only [aI] at h
  obtain ⟨h1,h2⟩:=Bool.and_eq_true_iff.mp h
  rw [a9 h1]
  show (true && (backTo pos (starEach es env)).all (fun x=>!x.1))=true
  rw [eM h2];rfl
theorem du{f:Value}{es:List Expr}{pos:Pos}{Q:Args->Shared->Prop}{E:Value->Shared->Prop}(hn:aI es=true)
  (h:wpAny (model G.prog G.w) A (spliced (backTo pos (starEach es env))) (fun vs s'=>Q ⟨vs,[]⟩ s') E s):wpAny (model G.prog G.w) A (evalArgs f true (backTo pos (starEach es env)) []) Q E s:=by
 cases es with
 | nil=>exact evalArgs_kw_nil (keywords:=[]) rfl (fun Γ p hΓ=>h Γ p hΓ)
 | cons e es =>
  delta aI at hn
  obtain ⟨h1,h2⟩:=Bool.and_eq_true_iff.mp hn
  rw [a9 h1] at h ⊢
  exact Calls.evalArgs_plain h
theorem Ev.callB{x:Str}{p pos:Pos}{args:List Expr}{id:String}{vs:List V}{v:V}(hk:C.kind x=some .globalImplicit)(hd:(x == ("__debug__":Str))=false)(g:Gl G x (.builtin id))(hn:aI args=true)
  (h:Evs G A C env W args σ η vs σ₁) (ho:On G A (fun cvs=>call (.builtin id) cvs) σ₁ vs v σ₂):Ev G A C env W (.Call (.Name x p) args [] pos) σ η v σ₂:=fun ρ s R N ht=>by
 refine wpAny_Call_Name_kw (RE.global R N hk hd g ?_)
 refine callWith_builtin (cP hn) (du hn (h.use R N ht pos fun cvs ao ab ag aL aM aw=>?_))
 exact ho.use ag.rel aw aM fun cv aA av au dH aG=>⟨av,ag.trans au,aG⟩
theorem Ev.callT{x:Str}{p pos:Pos}{args:List Expr}{T:String}{vs:List V}{v:V}(hk:C.kind x=some .globalImplicit)(hd:(x == ("__debug__":Str))=false)(g:Gl G x (.type T))(hn:aI args=true)
  (h:Evs G A C env W args σ η vs σ₁) (ho:On G A (fun cvs=>call (.type T) cvs) σ₁ vs v σ₂):Ev G A C env W (.Call (.Name x p) args [] pos) σ η v σ₂:=fun ρ s R N ht=>by
 refine wpAny_Call_Name_kw (RE.global R N hk hd g ?_)
 refine PySem.callWith_type (cP hn) (du hn (h.use R N ht pos fun cvs ao ab ag aL aM aw=>?_))
 exact ho.use ag.rel aw aM fun cv aA av au dH aG=>⟨av,ag.trans au,aG⟩
theorem Ev.callF{x:Str}{p pos:Pos}{args:List Expr}{a:Addr}{o:Obj}{fd:FuncData}{vs:List V}{v:V}(hk:C.kind x=some .globalImplicit)(hd:(x == ("__debug__":Str))=false)(g:Gl G x (.ref a))(hn:aI args=true)
  (hb:G.s₀.heap.get? a=some o) (hl:a ∉ G.loose) (hf:o.data=.func fd)
  (h:Evs G A C env W args σ η vs σ₁) (ho:On G A (fun cvs=>call (.ref a) cvs) σ₁ vs v σ₂):Ev G A C env W (.Call (.Name x p) args [] pos) σ η v σ₂:=fun ρ s R N ht=>by
 refine wpAny_Call_Name_kw (RE.global R N hk hd g ?_)
 refine callWith_function (o:=o) (fd:=fd) (du hn (h.use R N ht pos fun cvs ao ab ag aL aM aw=>⟨⟨ag.rel.keep a o hl hb,hf⟩,?_⟩))
 exact ho.use ag.rel aw aM fun cv aA av au dH aG=>⟨av,ag.trans au,aG⟩
noncomputable def cJ(e:Expr):Bool:=!((un e).tag == 12 && (un (un e).a).tag == 1 && (un e).l.isEmpty && (un e).ks.isEmpty)
theorem fp{o:Expr}{name:Str}(h:cJ o=true)(w:Sem Value):attributeBase o name env w=w:=by
 cases o with
 | Call f l ks p =>
  cases f with
  | Name x q =>
   cases l with
   | nil=>cases ks with
    | nil=>exact ftr h
    | cons a ks=>rfl
   | cons a l=>cases ks <;> rfl
  | _=>rfl
 | _=>rfl
structure Mt (T:String) (name:Str) (id:String):Prop where
 attrs:PlainAttrs T
 slot:Slot T name id
 ty:typeOf (.builtin id)=pure (.type "method_descriptor")
noncomputable def j2(σ:List AO)(v:V):Option String :=
 match der σ v with
 | .str _=>some "str"
 | .lst _=>some "list"
 | .tup _=>some "tuple"
 | _=>none
theorem iV{v:V}{T:String}{cv:Value}(e:j2 σ v=some T)(R:Rel G σ ρ s)(r:RV s.heap ρ v cv):s.TypeIs cv T/\∀ a,cv=.ref a->∃ ob,s.heap.get? a=some ob/\ob.dict=none:=by
 delta j2 at e
 generalize hd:der σ v=w at e
 cases w with
 | str l =>
  obtain rfl:=siX e
  rw [eg hd] at r
  obtain ⟨_,t,rfl⟩:=RV.str_iff r
  exact ⟨typeIs_str _ _ _,fun _ e=>nomatch e⟩
 | lst l =>
  obtain rfl:=siX e
  obtain ⟨a,vs,rfl,⟨n,hp⟩,_,_⟩:=cL hd R r
  exact ⟨⟨_,hp,rfl⟩,fun b e=>by cases e;exact ⟨_,hp,rfl⟩⟩
 | tup l =>
  obtain rfl:=siX e
  rw [p5 hd] at r
  obtain ⟨_,a,vs,rfl,_,⟨n,hp⟩,_⟩:=RV.tup_iff r
  exact ⟨⟨_,hp,rfl⟩,fun b e=>by cases e;exact ⟨_,hp,rfl⟩⟩
 | _=>exact nso e
theorem Ev.meth{o:Expr}{name:Str}{apos pos:Pos}{args:List Expr}{T id:String}{u v:V}{vs:List V}(m:Mt T name id)(hs:cJ o=true)(hn:aI args=true)(hfew:args.length < 29)(hline:(apos.endLine == pos.line)=true)
  (d4:Ev G A C env W o σ η u σ₁) (hT:j2 σ₁ u=some T) (fC:Evs G A C env W args σ₁ η vs σ₂) (ho:On G A (fun cvs=>call (.builtin id) cvs) σ₂ (u::vs) v aj) :
  Ev G A C env W (.Call (.Attribute o name apos) args [] pos) σ η v aj:=fun ρ s R N ht=>by
 refine wpAny_Call_method_lateS (fp hs _) ?_ hline ?_
 ·rw [eM hn]
  show (true && true && decide (args.length + 0 + 0 < 30))=true
  simp;exact Nat.le_succ_of_le ‹_›
 ·refine d4.use R N ht fun bD ao ab ag aL aM aw=>?_
  refine jm (iV hT ag.rel aw) fun hT' hd=>?_
  refine f01 T id m.attrs m.slot m.ty hT' hd ?_
  refine callWith_builtin (cP hn) (du hn (fC.use ag.rel aL aM pos fun cvs aA av au cN dH aG=>?_))
  exact ho.use au.rel (RVs.cons (RV.mono (Step.keepV ag.rel au) _ _ aw) aG) dH fun cv fX bH b5 kB gx=>⟨bH,ag.trans (au.trans b5),gx⟩
end
noncomputable def dO:List V->Option (List Int)
 | []=>some []
 | v::r=>(vI v).bind fun i=>(dO r).map (i::·)
theorem dM{l:List V}:∀ {ns:List Int},dO l=some ns->l=ns.map V.int:=by
 induction l with
 | nil=>intro ns h;obtain rfl:=siX h;rfl
 | cons v r ih =>
  intro ns h
  exact tM h fun i hi h=>(Option.map_eq_some_iff.mp h).elim fun ms hm=>by rw [hi,ih hm.1,← hm.2];rfl
noncomputable def tK:Int->List Int->Int
 | m,[]=>m
 | m,x::r=>tK (if x > m then x else m) r
set_option genInjectivity false in
set_option genSizeOf false in
inductive Bf where
 | len | chr | ord | abs | sum | max | min
deriving DecidableEq
noncomputable def Bf.id:Bf->String
 | .len=>"len" | .chr=>"chr" | .ord=>"ord" | .abs=>"abs" | .sum=>"sum" | .max=>"max" | .min=>"min"
noncomputable abbrev a1(l:List V):Option V:=lP l
theorem yp{l:List V}{a:V}(h:a1 l=some a):l=[a]:=nD h
noncomputable abbrev hd?(l:List Nat):Option Nat:=lP l
theorem kK1{l:List Nat}{a:Nat}(h:hd? l=some a):l=[a]:=nD h
noncomputable abbrev a2(l:List V):Option (V × V):=yA l
theorem kX1{l:List V}{a:V × V}(h:a2 l=some a):l=[a.1,a.2]:=t6 h
theorem hK1{β:Type}{P:List V->Prop}{l:List V}{f:Int->Option β}{r:β}(h:(a1 l).bind (fun v=>(vI v).bind f)=some r)(q:∀ x,f x=some r->P [.int x]):P l :=
 j0 h fun v hv h=>tM h fun x hx h=>by rw [yp hv,hx];exact q x h
noncomputable def hz1(v:V):Option V:=match v with
 | .str l=>some (.int l.length)
 | .tup l=>some (.int l.length)
 | .lst l=>some (.int l.length)
 | _=>none
noncomputable def fX1:List Int->Option V
 | n::ns=>some (.int (tK n ns))
 | []=>none
noncomputable def bfF(f:Bf)(σ:List AO)(vs:List V):Option V :=
 match f with
 | .len=>(a1 vs).bind fun v=>hz1 (der σ v)
 | .chr=>(a1 vs).bind fun v=>(vI v).bind fun i=>if 0<=i/\i<=1114111 then some (.str [i.toNat]) else none
 | .ord=>(a1 vs).bind fun v=>(vS v).bind fun l=>(hd? l).bind fun c=>some (.int c)
 | .abs=>(a1 vs).bind fun v=>(vI v).bind fun i=>some (.int (if i < 0 then -i else i))
 | .sum=>(a1 vs).bind fun v=>(vL (der σ v)).bind fun l=>(dO l).map fun ns=>.int ns.sum
 | .max=>(a1 vs).bind fun v=>(vL (der σ v)).bind fun l=>(dO l).bind fX1
 | .min=>(a2 vs).bind fun p=>ii (fun a b=>some (.int (if b < a then b else a))) p.1 p.2
section
variable {G:Wd} {A:Around} {C C':Cx} {env cenv:Env} {W W':List Addr} {η η' η₁ η₂ bw:ac} {σ σ' σ₁ σ₂ aj σ₄ b9:List AO} {ρ ρ' ab:Rho} {s s' ao aA:Shared}
theorem jj{v:V}{cv:Value}{h':Heap}{tk:Nat}(R:Rel G σ ρ s)(hk:∀ b o,s.heap.get? b=some o->h'.get? b=some o)(r:RV h' ρ v cv):PE G ρ s σ v cv { s with heap:=h',toks:=tk } :=
 ⟨ρ,Step.grow R hk ⟨h',tk,rfl⟩,r⟩
theorem nA(ns:List Int):∀ k,k<=ns.length->preSum (fun i=>ns[i]?.getD 0) k=(ns.take k).sum
 | 0,_=>by simp [preSum]
 | k + 1,h=>by
  have:ns[k]?=some ns[k]:=List.getElem?_eq_getElem (by assumption)
  rw [preSum,nA ns k (by exact Nat.le_of_lt ‹_›),List.take_add_one,this]
  simp only [Option.getD_some,Option.toList_some,List.sum_append,List.sum_cons,List.sum_nil,Int.add_zero]
theorem jv{h:Heap}{ρ:Rho}{ns:List Int}{vs:List Value}(r:RVs h ρ (ns.map V.int) vs){i:Nat}{c:Value}(hc:vs[i]?=some c):∃ n t,ns[i]?=some n/\c=.int n t:=by
 have hl:=RVs.length r
 have hi:i < ns.length:=by
  have:=(List.getElem?_eq_some_iff.mp hc).1
  rw [hl,List.length_map] at this;exact this
 have e:(ns.map V.int)[i]?=some (V.int ns[i]):=by simp [hi]
 refine aO (RVs.get r e) fun c' h1 h2=>?_
 rw [hc] at h1;obtain rfl:=siX h1
 refine a7 (RV.int_iff h2) fun t rfl=>?_
 exact hx1 (ns[i]) t (List.getElem?_eq_getElem hi) rfl
theorem uh{a:Addr}{vs:Array Value}{ns:List Int}(hh:A.handled=none)(R:Rel G σ ρ s)(hp:s.heap.PlainList a vs)(r:RVs s.heap ρ (ns.map V.int) vs.toList) :
  wpAny (model G.prog G.w) A (call (.builtin "sum") [.ref a]) (PE G ρ s σ (.int ns.sum)) No s:=by
 have hsz:vs.size=ns.length:=by have:=RVs.length r;simpa using this
 refine call_sum_walkAnyS (wpAny_pyIter_list hp.isList ⟨s.heap.objs.size,[s.heap.objs.size,a],[s.heap.objs.size],fun x y=>y=x,vs.size,fun i v=>vs[i]?=some v,_,fun i=>ns[i]?.getD 0,rfl,
  (Walks.list (A:=A.in1) hh s.heap.objs.size a ?_ vs).toS,⟨⟨_,Heap.get?_push_size _ rfl,rfl,rfl⟩,hp.isList.push _⟩,?_,?_,?_⟩)
 ·refine a7 (hp) fun n e=>?_;exact Nat.ne_of_lt (Heap.lt_size e)
 ·intro b hb
  have hlt:a < s.heap.objs.size:=by refine a7 (hp) fun n e=>?_;exact Heap.lt_size e
  rw [Heap.size_push]
  simp only [List.mem_cons,List.not_mem_nil,or_false] at hb
  rcases hb with rfl | rfl
  ·exact Nat.lt_succ_self _
  ·exact Nat.lt_succ_of_lt hlt
 ·intro i v hv
  refine byQ fun Q kQ=>?_
  obtain ⟨n,t,h1,rfl⟩:=jv r (by simpa using hv)
  refine kQ ?_
  exact ⟨t,by show _=Value.int (ns[i]?.getD 0) t;rw [h1];rfl⟩
 ·intro s' t' hm
  have e:=hm.eq_with
  rw [nA ns vs.size (by exact Nat.le_of_eq ‹_›),List.take_of_length_le (by exact Nat.le_of_eq (Eq.symm ‹_›))]
  refine ⟨ρ,Step.grow R (fun b o eb=>hm.heap b o ?_ (Heap.get?_push_of_some _ eb)) ⟨s'.heap,s'.toks,e⟩,RV.int_⟩
  rw [List.mem_singleton]
  exact Nat.ne_of_lt (Heap.lt_size eb)
theorem u3(ns:List Int)(n:Int):∀ k,k < (n::ns).length->∃ j,j<=k/\argBest (fun i j=>decide ((n::ns).getD i 0 > (n::ns).getD j 0)) k=j/\(n::ns)[j]?=some (tK n (ns.take k)):=by
 intro k
 induction k with
 | zero=>intro _;exact ⟨0,Nat.le_refl _,rfl,rfl⟩
 | succ k ih =>
  intro hk
  obtain ⟨j,hj,h_p⟩:=ih (by exact Nat.le_of_lt ‹_›);have e:=h_p.1;have hv:=h_p.2
  have hk':k < ns.length:=by simpa using hk
  have hmax:∀ (l:List Int) (m x:Int),tK m (l++[x])=if x > tK m l then x else tK m l:=by
   intro l
   induction l with
   | nil=>intro m x;rfl
   | cons y l ihl=>intro m x;exact ihl _ x
  have ht:ns.take (k + 1)=ns.take k++[ns[k]]:=by
   rw [List.take_add_one,List.getElem?_eq_getElem hk'];rfl
  rw [ht,hmax]
  have g1:(n::ns).getD (k + 1) 0=ns[k]:=by simp [List.getD,hk']
  have g2:(n::ns).getD j 0=tK n (ns.take k):=by rw [List.getD,hv];rfl
  unfold argBest
  rw [e,g1,g2]
  by_cases h:ns[k] > tK n (ns.take k)
  ·rw [if_pos h,if_pos (by simpa using h)]
   exact ⟨k + 1,Nat.le_refl _,rfl,by simp [hk']⟩
  ·rw [if_neg h,if_neg (by simpa using h)]
   exact ⟨j,by exact Nat.le_succ_of_le ‹_›,rfl,hv⟩
theorem aW1{A:Around}{vs:Array Value}{ns:List Int}{h:Heap}{ρ:Rho}{prog:Program}{w:World}(r:RVs h ρ (ns.map V.int) vs.toList) :
  CmpOf prog w A .Gt (fun i v=>vs[i]?=some v) (fun i j=>decide (ns.getD i 0 > ns.getD j 0)):=by
 intro i j vi vj s Q E hi hj hQ
 obtain ⟨n,t,h1,rfl⟩:=jv r (by simpa using hi)
 obtain ⟨m,u,h2,rfl⟩:=jv r (by simpa using hj)
 have e1:ns.getD i 0=n:=by rw [List.getD,h1];rfl
 have e2:ns.getD j 0=m:=by rw [List.getD,h2];rfl
 dsimp only at hQ
 rw [e1,e2] at hQ
 exact gt_int hQ
theorem u0{a:Addr}{vs:Array Value}{n:Int}{ns:List Int}(hh:A.handled=none)(R:Rel G σ ρ s)(hp:s.heap.PlainList a vs)(r:RVs s.heap ρ ((n::ns).map V.int) vs.toList) :
  wpAny (model G.prog G.w) A (call (.builtin "max") [.ref a]) (PE G ρ s σ (.int (tK n ns))) No s:=by
 have hsz:vs.size=(n::ns).length:=by have:=RVs.length r;simpa using this
 refine call_max_walk (wpAny_pyIter_list hp.isList ⟨s.heap.objs.size,[s.heap.objs.size,a],[s.heap.objs.size],vs.size,fun i v=>vs[i]?=some v,_,fun i j=>decide ((n::ns).getD i 0 > (n::ns).getD j 0),rfl,
  Walks.list (A:=A.in1) hh s.heap.objs.size a ?_ vs,⟨⟨_,Heap.get?_push_size _ rfl,rfl,rfl⟩,hp.isList.push _⟩,?_,?_,aW1 r,?_⟩)
 ·refine a7 (hp) fun n e=>?_;exact Nat.ne_of_lt (Heap.lt_size e)
 ·intro b hb
  have hlt:a < s.heap.objs.size:=by refine a7 (hp) fun n e=>?_;exact Heap.lt_size e
  rw [Heap.size_push]
  simp only [List.mem_cons,List.not_mem_nil,or_false] at hb
  rcases hb with rfl | rfl
  ·exact Nat.lt_succ_self _
  ·exact Nat.lt_succ_of_lt hlt
 ·rw [hsz];simp
 ·intro v h' tk hv hk
  obtain ⟨j,_,e,hj⟩:=u3 ns n (vs.size - 1) (by rw [hsz];simp)
  rw [e] at hv
  obtain ⟨m,t,h1,rfl⟩:=jv r (by simpa using hv)
  rw [hj] at h1
  obtain rfl:=siX h1
  rw [List.take_of_length_le (by rw [hsz];simp)]
  refine ⟨ρ,Step.grow R (fun b o eb=>hk b o ?_ (Heap.get?_push_of_some _ eb)) ⟨_,_,rfl⟩,RV.int_⟩
  rw [List.mem_singleton]
  exact Nat.ne_of_lt (Heap.lt_size eb)
noncomputable def OnF(G:Wd)(A:Around)(σ:List AO)(id:String)(v:V)(vs:List V):Prop:=On G A (fun cvs=>call (.builtin id) cvs) σ vs v σ
theorem OnF.of{id:String}{u v:V}{vs:List V}(h:some u=some v)(q:OnF G A σ id u vs):OnF G A σ id v vs:=siX h ▸ q
theorem OnF.one{id:String}{u v:V}(h:∀ ρ s c,Rel G σ ρ s->RV s.heap ρ u c->wpAny (model G.prog G.w) A (call (.builtin id) [c]) (PE G ρ s σ v) No s):OnF G A σ id v [u]:=fun ρ s cvs R r ht=>by
 refine dp (RVs.cons_iff r) fun c r' h_p=>?_;obtain rfl:=h_p.1;have h1:=h_p.2.1;have h2:=h_p.2.2
 refine (RVs.nil_iff h2) ▸ ?_
 exact h ρ s c R h1
theorem OnF.int{id:String}{i:Int}{v:V}(h:∀ ρ s t,Rel G σ ρ s->wpAny (model G.prog G.w) A (call (.builtin id) [.int i t]) (PE G ρ s σ v) No s):OnF G A σ id v [.int i]:=OnF.one fun ρ s c R r=>by
 obtain ⟨t,rfl⟩:=RV.int_iff r
 exact h ρ s t R
theorem sG{u v:V}(e:hz1 (der σ u)=some v):OnF G A σ "len" v [u]:=OnF.one fun ρ s c R r=>by
 cases hd:der σ u with
 | str l =>
  rw [hd] at e;rw [← siX e]
  rw [eg hd] at r
  obtain ⟨hl,t,rfl⟩:=RV.str_iff r
  refine PySem.P.len_str ?_ ?_
  ·rw [bC];unfold lim at hl;lia
  ·exact (bC) ▸ (aQ R)
 | tup l =>
  rw [hd] at e;rw [← siX e]
  rw [p5 hd] at r
  obtain ⟨hl,a,us,rfl,_,⟨n,hp⟩,hr⟩:=RV.tup_iff r
  have hsz:us.size=l.length:=by have:=RVs.length hr;simpa using this
  refine PySem.P.len_tuple hp ?_ ?_
  ·rw [hsz];unfold lim at hl;lia
  ·exact (hsz) ▸ (aQ R)
 | lst l =>
  rw [hd] at e;rw [← siX e]
  obtain ⟨a,us,rfl,h_p⟩:=cL hd R r;have hp:=h_p.1;have hr:=h_p.2.1;have hl:=h_p.2.2
  have hsz:us.size=l.length:=by have:=RVs.length hr;simpa using this
  refine call_len_list hp.isList ?_ ?_
  ·rw [hsz];unfold lim at hl;lia
  ·exact (hsz) ▸ (aQ R)
 | _=>replace e:=(hd) ▸ e;exact nso e
theorem jO{f:Bf}{vs:List V}{v:V}(hh:A.handled=none)(e:bfF f σ vs=some v):OnF G A σ f.id v vs:=by
 cases f with
 | len=>exact j0 e fun u hu e=>by rw [yp hu];exact sG e
 | chr=>exact hK1 (P:=OnF G A σ "chr" v) e fun i e=>OnF.of (bq e).2 (OnF.int fun ρ s t R=>chr_of_range (bq e).1.1 (bq e).1.2 (dm R (show 1<=lim by decide) rfl))
 | ord =>
  exact j0 e fun u hu e=>tL e fun l hl e=>j0 e fun c hc e=>by
   rw [yp hu,hl,kK1 hc]
   refine OnF.of e (OnF.one fun ρ s c R r=>?_)
   obtain ⟨_,t,rfl⟩:=RV.str_iff r
   exact ord_of_one rfl (aQ R)
 | abs=>exact hK1 (P:=OnF G A σ "abs" v) e fun i e=>OnF.of e (OnF.int fun ρ s t R=>call_abs_int fun u tk=>aQ R)
 | sum =>
  exact j0 e fun u hu e=>eR1 e fun l hl e=>(Option.map_eq_some_iff.mp e).elim fun ns hn=>by
   rw [yp hu,← hn.2]
   refine OnF.one fun ρ s c R r=>?_
   refine dp (cL hl R r) fun a us h_p=>?_;obtain rfl:=h_p.1;have hp:=h_p.2.1;have hr:=h_p.2.2.1
   rw [dM hn.1] at hr
   exact uh hh R hp hr
 | max =>
  exact j0 e fun u hu e=>eR1 e fun l hl e=>j0 e fun ns hn e=>by
   rw [yp hu]
   cases ns with
   | nil=>exact nso e
   | cons n ns =>
    refine OnF.of e (OnF.one fun ρ s c R r=>?_)
    refine dp (cL hl R r) fun a us h_p=>?_;obtain rfl:=h_p.1;have hp:=h_p.2.1;have hr:=h_p.2.2.1
    rw [dM hn] at hr
    exact u0 hh R hp hr
 | min =>
  exact j0 e fun p hp e=>by
   rw [kX1 hp]
   refine yS (P:=fun a b=>OnF G A σ "min" v [a,b]) e fun a b e=>OnF.of e fun ρ s cvs R r ht=>?_
   obtain ⟨c,r',rfl,h1,h2⟩:=RVs.cons_iff r
   obtain ⟨c2,r'',rfl,h3,h4⟩:=RVs.cons_iff h2
   refine (RVs.nil_iff h4) ▸ ?_
   obtain ⟨t,rfl⟩:=RV.int_iff h1
   obtain ⟨u,rfl⟩:=RV.int_iff h3
   refine PySem.min_two_ints hh fun h' tk hk=>jj R hk ?_
   by_cases hc:b < a
   ·rw [if_pos hc,if_pos hc];exact RV.int_
   ·rw [if_neg hc,if_neg hc];exact RV.int_
end
noncomputable def rgV(a b c:Int):Option V:=if nn a b c then some (.rng a b c) else none
noncomputable def cu1:List Int->Option V
 | [n]=>rgV 0 n 1
 | [a,b]=>rgV a b 1
 | [a,b,c]=>rgV a b c
 | _=>none
noncomputable def uI(vs:List V):Option V:=(dO vs).bind cu1
noncomputable def vR:V->Option (Int × Int × Int)
 | .rng a b c=>some (a,b,c)
 | _=>none
theorem iw1{v:V}{a:Int × Int × Int}(h:vR v=some a):v=.rng a.1 a.2.1 a.2.2:=by cases v <;> first | (obtain rfl:=siX h;rfl) | exact nso h
noncomputable def c71(vs:List V):Option V:=(a1 vs).bind fun v=>(vR v).bind fun a=>if (eP a.1 a.2.1 a.2.2).length<=lim then some (.lst (eP a.1 a.2.1 a.2.2)) else none
section
variable {G:Wd} {A:Around} {C C':Cx} {env cenv:Env} {W W':List Addr} {η η' η₁ η₂ bw:ac} {σ σ' σ₁ σ₂ aj σ₄ b9:List AO} {ρ ρ' ab:Rho} {s s' ao aA:Shared}
theorem gE{a b c:Int}{t u v:Tok}{k:Nat}(R:Rel G σ ρ s)(h:nn a b c=true) :
  PE G ρ s σ (.rng a b c) (.ref s.heap.objs.size) { s with heap:=s.heap.push { cls:=.type "range",data:=.fields #[.int a t,.int b u,.int c v] },toks:=k }:=by
 refine jj R (fun b o e=>Heap.get?_push_of_some _ e) ?_
 delta RV
 exact ⟨h,_,t,u,v,rfl,bT R,Heap.get?_push_size _ rfl⟩
theorem gD{h:Heap}{a:Int}{l:List V}{cvs:List Value}(r:RVs h ρ (.int a::l) cvs):∃ t r',cvs=.int a t::r'/\RVs h ρ l r' :=
 tH (RVs.cons_iff r) fun c r' e h1 h2=>a7 (RV.int_iff h1) fun t q=>⟨t,r',q ▸ e,h2⟩
theorem nv{vs:List V}{v:V}(e:uI vs=some v):On G A (fun cvs=>call (.type "range") cvs) σ vs v σ:=fun ρ s cvs R r ht=>j0 e fun l hl e=>by
 replace r:=(dM hl) ▸ r
 match l,r,e with
 | [],r,e=>exact nso e
 | [n],r,e =>
  refine byQ fun Q kQ=>?_
  obtain ⟨t,r1,rfl,h1⟩:=gD r
  refine kQ ?_
  rw [RVs.nil_iff h1,← siX (bq e).2]
  exact call_range_1 (gE R (bq e).1)
 | [a,b],r,e =>
  obtain ⟨t,r1,rfl,h1⟩:=gD r
  refine dp (gD h1) fun u r2 h_p=>?_;obtain rfl:=h_p.1;have h2:=h_p.2
  rw [RVs.nil_iff h2,← siX (bq e).2]
  exact call_range_2 (gE R (bq e).1)
 | [a,b,c],r,e =>
  obtain ⟨t,r1,rfl,h1⟩:=gD r
  obtain ⟨u,r2,rfl,h2⟩:=gD h1
  refine dp (gD h2) fun x r3 h_p=>?_;obtain rfl:=h_p.1;have h3:=h_p.2
  rw [RVs.nil_iff h3,← siX (bq e).2]
  have hk:=of_decide_eq_true (bq e).1
  exact call_range_3 (by lia) (gE R (bq e).1) (.inl (PyProof.noPylong_small (by lia)))
 | _::_::_::_::_,r,e=>exact nso e
theorem uF{a b c:Int}(hk:nn a b c=true):Builtin.Range.small a b c=true/\0<=Builtin.Range.rangeSize a b c/\Builtin.Range.rangeSize a b c<=3000000:=⟨yG (of_decide_eq_true hk),uE (of_decide_eq_true hk)⟩
theorem xI{a b c:Int}{cv:Value}(hh:A.handled=none)(hl:(eP a b c).length<=lim)(R:Rel G σ ρ s)(h1:RV s.heap ρ (.rng a b c) cv):wpAny (model G.prog G.w) A (call (.type "list") [cv]) (PE G ρ s σ (.lst (eP a b c))) No s:=by
 refine byQ fun Q kQ=>?_
 obtain ⟨hk,ad,t,u,w,rfl,ho,hr⟩:=RV.rng_iff h1
 refine cV1 (uF hk) fun hsm h0 h3=>?_
 obtain ⟨n,hn⟩:∃ n:Nat,Builtin.Range.rangeSize a b c=n:=⟨_,(Int.toNat_of_nonneg h0).symm⟩
 refine kQ ?_
 refine call_list_range hh hr hsm hn (by lia) fun h' tk acc' c' hkeep hD hit=>jj R hkeep ?_
 dsimp only [RV]
 refine ⟨hl,_,acc',rfl,bT R,⟨c',hD⟩,?_⟩
 have hlen:acc'.toList.length=(eP a b c).length:=by
  unfold eP
  rw [List.length_map,List.length_range,hn,Array.length_toList,hit.1];rfl
 refine RVs.mapGet hlen fun i x hx=>?_
 unfold eP at hx
 rw [List.getElem?_map] at hx
 refine gc ((List.range (Builtin.Range.rangeSize a b c).toNat)[i]?) (fun hq=>?_) (fun j hq=>?_)
 ·rw [hq] at hx;exact nso hx
 ·
  rw [hq] at hx
  obtain ⟨hj1,hj2⟩:=List.getElem?_eq_some_iff.mp hq
  rw [List.getElem_range] at hj2
  subst hj2
  obtain rfl:=siX hx
  have hi:i < acc'.size:=by
   rw [hit.1]
   rw [List.length_range,hn] at hj1
   simpa using hj1
  obtain ⟨t',ht'⟩:=hit.2 i acc'[i] (Array.getElem?_eq_getElem hi)
  refine ⟨acc'[i],by simp [hi],?_⟩
  rw [ht'];exact RV.int_
theorem pG{vs:List V}{v:V}(hh:A.handled=none)(e:c71 vs=some v):On G A (fun cvs=>call (.type "list") cvs) σ vs v σ:=fun ρ s cvs R r ht =>
 j0 e fun w0 hw0 e=>j0 e fun w hw e=>by
  rw [yp hw0,iw1 hw] at r
  rw [← siX (bq e).2]
  exact tH (RVs.cons_iff r) fun cv r' e1 h1 h2=>by rw [e1,RVs.nil_iff h2];exact xI hh (bq e).1 R h1
end
open Builtin Builtin.Str Builtin.Int
theorem l6(sep:Str)(t:Tok)(y:Str)(u:Tok):«str.join» ⟨[.str sep t,.str y u],[]⟩=(do
  let ty ← typeOf (.str y u)
  if (ty == .type "list" || ty == .type "tuple")=true then (do
   match ← seqItems? (.str y u) with
   | some xs=>joinTail sep xs.toList
   | none=>unsupported "internal:str.join")
  else (do
   let it ← (pyIter (.str y u)).tryCatch fun e=>do
    if ← isInstance e (.type "TypeError") then rule "str.join.not-iterable";raiseError "TypeError" "can only join an iterable" else throw e
   let items ← collect it
   joinTail sep items)):=rfl
section
variable {prog:Program} {w:World} {A:Around} {E:Value->Shared->Prop} {s:Shared} {x y:Str} {t u:Tok} {Q:Value->Shared->Prop}
theorem nS(hh:A.handled=none)(hsz:y.cps.size<=sizeLine)
  (hq:∀ (s':Shared) (l:List (Str × Tok)),(∀ b o,s.heap.get? b=some o->s'.heap.get? b=some o)->s'.gens=s.gens->s'.drawn=s.drawn->s'.os=s.os->ItemsOf (SignAt y) (strValues l).toArray y.cps.size ->
   JoinOk x (l.map (·.1))=true/\∀ t' k,Q (.str (Txt.join x (l.map (·.1))) t') { s' with toks:=k }) :
  wpAny (model prog w) A (call (.builtin "str.join") [.str x t,.str y u]) Q E s:=by
 refine wpAny_call (codeAny_call_builtin F.slot_str_join.plain F.entry_str_join (F.slot_str_join.check _ _ _ _ _ _ _ _ (typeIs_str _ _ _) (F.args_str_join_2 _ _) ?_))
 rw [l6]
 refine wpAny_bind (wpAny_typeOf (typeIs_str _ _ _) ?_)
 show wpAny _ A.in1 ((pyIter (.str y u)).tryCatch _ >>= fun it=>collect it >>= fun items=>joinTail x items) _ _ s
 refine wpAny_bind (wpAny_tryCatch ?_)
 have main:∀ (ty:String) (o:Obj),(ty="str_ascii_iterator"\/ty="str_iterator")->(s.heap.push o).IsStrIter s.heap.objs.size ty y u 0 ->
   wpAny (model prog w) A.in1 (collect (.ref s.heap.objs.size) >>= fun items=>joinTail x items) (fun fin s'=>match fin with | .done f=>wants Q E (.ok f) s' | .again c'=>c'.quiet=true/\codeAny (model prog w) A c' (wants Q E) s') (fun e s'=>wants Q E (.error e) s') { s with heap:=s.heap.push o }:=by
  intro ty o hty hit
  refine wpAny_bind (wpAny_collect_strIter (A:=A.in1) hh hty hit (fun s' acc h1 h2 h3 h4 hacc=>?_) hsz)
  obtain ⟨l,hl⟩:=exists_strValues acc.toList fun v hv=>by
   obtain ⟨j,hj,rfl⟩:=Array.mem_iff_getElem.mp (Array.mem_toList_iff.mp hv)
   refine dp (hacc.2 j _ (Array.getElem?_eq_getElem hj)) fun c u' h_p=>?_;have e:=h_p.2
   exact wx _ _ e
  refine (hl) ▸ ?_
  have hacc':ItemsOf (SignAt y) (strValues l).toArray y.cps.size:=by exact (hl) ▸ (hacc)
  obtain ⟨hok,hpost⟩:=hq s' l (fun b ob e=>h1 b ob (by rintro rfl;rw [aE] at e;exact nso e) (Heap.get?_push_of_some _ e)) h2 h3 h4 hacc'
  unfold JoinOk at hok
  rw [Bool.not_eq_true'] at hok
  have g:Gives (joinTail x (strValues l)) (joinMade x l):=by
   have g0:=gives_joinTail x l hok
   cases l with
   | nil=>exact g0
   | cons p r=>cases r with
    | nil=>exact g0
    | cons q r'=>exact g0
  exact g prog w A (wants Q E) s' (post_join l ⟨joinFit_length hok,hpost⟩)
 cases ha:y.cps.all (· < 128) with
 | true=>exact wpAny_pyIter_ascii ha (main "str_ascii_iterator" _ (.inl rfl) ⟨_,Heap.get?_push_size _ rfl,rfl,rfl⟩)
 | false=>exact wpAny_pyIter_wide ha (main "str_iterator" _ (.inr rfl) ⟨_,Heap.get?_push_size _ rfl,rfl,rfl⟩)
end
inductive Me where
 | join | replace | split | startswith | endswith | find3 | index | lstripC | count | lindex | lcount
deriving DecidableEq
noncomputable def Me.T:Me->String
 | .lindex | .lcount=>"list"
 | _=>"str"
noncomputable def Me.name:Me->String
 | .join=>"join" | .replace=>"replace" | .split=>"split" | .startswith=>"startswith" | .endswith=>"endswith" | .find3=>"find" | .index=>"index" | .lstripC=>"lstrip" | .count=>"count" | .lindex=>"index" | .lcount=>"count"
noncomputable def Me.id:Me->String
 | .join=>"str.join" | .replace=>"str.replace" | .split=>"str.split" | .startswith=>"str.startswith" | .endswith=>"str.endswith" | .find3=>"str.find" | .index=>"str.index" | .lstripC=>"str.lstrip" | .count=>"str.count" | .lindex=>"list.index" | .lcount=>"list.count"
noncomputable def g9:List V->Option (List (List Nat))
 | []=>some []
 | v::r=>(vS v).bind fun i=>(g9 r).map (i::·)
noncomputable def gk(x:List Nat):List (List Nat)->List Nat
 | []=>[]
 | [y]=>y
 | y::z::r=>y++x++gk x (z::r)
noncomputable abbrev S'(l:List Nat):Str:=⟨l.toArray⟩
noncomputable def cO:List (List Nat)->Nat
 | []=>0
 | x::r=>x.length + cO r
noncomputable def vf(σ:List AO)(x:List Nat)(v:V):Option V:=match der σ v with
 | .lst l=>match g9 l with
  | some ys=>if cO ys + ys.length * x.length<=lim then some (.str (gk x ys)) else none
  | none=>none
 | .str y=>if y.length + y.length * x.length<=lim then some (.str (gk x (y.map fun c=>[c]))) else none
 | _=>none
noncomputable def eM1(x y:List Nat):Option V:=match Builtin.Str.occurrences (S' x) (S' y) 0 x.length 1 with
 | i::_=>some (.int i)
 | []=>none
noncomputable def a3:List V->Option (V × V × V)
 | [a,b,c]=>some (a,b,c)
 | _=>none
theorem kW1{l:List V}{a:V × V × V}(h:a3 l=some a):l=[a.1,a.2.1,a.2.2]:=by
 match l,h with
 | [b,c,d],h=>obtain rfl:=siX h;rfl
noncomputable def ss(σ:List AO)(u:V)(vs:List V)(f:List Nat->List Nat->Option V):Option V:=(vS (der σ u)).bind fun x=>(a1 vs).bind fun v=>(vS v).bind fun y=>f x y
noncomputable def hy1(l:List V)(v:V):Option V:=(vI v).bind fun i=>(dO l).bind fun ns=>(ns.findIdx? (· == i)).bind fun k=>some (.int k)
noncomputable def meF(f:Me)(σ:List AO)(u:V)(vs:List V):Option V :=
 match f with
 | .join=>(vS (der σ u)).bind fun x=>(a1 vs).bind fun v=>vf σ x v
 | .startswith=>ss σ u vs fun x y=>some (.bool (Txt.startswith (S' x) (S' y)))
 | .endswith=>ss σ u vs fun x y=>some (.bool (Txt.endswith (S' x) (S' y)))
 | .find3=>(vS (der σ u)).bind fun x=>(a3 vs).bind fun p=>(vS p.1).bind fun y=>ii (fun i j=>if 0<=i/\0<=j/\j<=x.length then some (.int (match Builtin.Str.occurrences (S' x) (S' y) i.toNat j.toNat 1 with | k::_=>(k:Int) | []=>-1)) else none) p.2.1 p.2.2
 | .index=>ss σ u vs eM1
 | .lstripC=>ss σ u vs fun x y=>some (.str (Txt.lstripChars (S' x) (S' y)).cps.toList)
 | .count=>ss σ u vs fun x y=>some (.int (Txt.count (S' x) (S' y)))
 | .replace=>(vS (der σ u)).bind fun x=>(a2 vs).bind fun p=>(vS p.1).bind fun y=>(vS p.2).bind fun z=>if y=z then none else if x.length + (x.length + 1) * z.length<=16000000/\(Txt.replace (S' x) (S' y) (S' z)).cps.toList.length<=lim then some (.str (Txt.replace (S' x) (S' y) (S' z)).cps.toList) else none
 | .lindex=>(vL (der σ u)).bind fun l=>(a1 vs).bind fun v=>hy1 l v
 | _=>none
theorem ag1:Mt "str" "join" "str.join":=⟨F.plainAttrs_str,F.slot_str_join,F.type_str_join⟩
theorem gK:Mt "str" "replace" "str.replace":=⟨F.plainAttrs_str,F.slot_str_replace,F.type_str_replace⟩
theorem rh:Mt "str" "split" "str.split":=⟨F.plainAttrs_str,F.slot_str_split,F.type_str_split⟩
theorem lV:Mt "str" "startswith" "str.startswith":=⟨F.plainAttrs_str,F.slot_str_startswith,F.type_str_startswith⟩
theorem pr:Mt "str" "endswith" "str.endswith":=⟨F.plainAttrs_str,F.slot_str_endswith,F.type_str_endswith⟩
theorem ah1:Mt "str" "find" "str.find":=⟨F.plainAttrs_str,F.slot_str_find,F.type_str_find⟩
theorem xv:Mt "str" "index" "str.index":=⟨F.plainAttrs_str,F.slot_str_index,F.type_str_index⟩
theorem uW:Mt "str" "lstrip" "str.lstrip":=⟨F.plainAttrs_str,F.slot_str_lstrip,F.type_str_lstrip⟩
theorem xw:Mt "str" "count" "str.count":=⟨F.plainAttrs_str,F.slot_str_count,F.type_str_count⟩
theorem uX:Mt "list" "index" "list.index":=⟨F.plainAttrs_list,F.slot_list_index,F.type_list_index⟩
theorem nF:Mt "list" "append" "list.append":=⟨F.plainAttrs_list,F.slot_list_append,F.type_list_append⟩
theorem af1:Mt "list" "pop" "list.pop":=⟨F.plainAttrs_list,F.slot_list_pop,F.type_list_pop⟩
theorem r8{l:List V}:∀ {ns:List (List Nat)},g9 l=some ns->l=ns.map V.str:=by
 induction l with
 | nil=>intro ns h;obtain rfl:=siX h;rfl
 | cons v r ih =>
  intro ns h
  exact tL h fun i hi h=>(Option.map_eq_some_iff.mp h).elim fun ms hm=>by rw [hi,ih hm.1,← hm.2];rfl
theorem i4{h:Heap}{ρ:Rho}:∀ {ys:List (List Nat)} {vs:List Value},RVs h ρ (ys.map V.str) vs->∃ l:List (Str × Tok),strValues l=vs/\l.map (·.1)=ys.map S'
 | [],vs,r=>by exact (RVs.nil_iff r) ▸ (⟨[],rfl,rfl⟩)
 | y::ys,vs,r=>by
  obtain ⟨c,cs,rfl,h1,h2⟩:=RVs.cons_iff r
  obtain ⟨_,t,rfl⟩:=RV.str_iff h1
  obtain ⟨l,h_p⟩:=i4 h2;have e1:=h_p.1;have e2:=h_p.2
  exact ⟨(S' y,t)::l,by rw [← e1];rfl,by rw [List.map_cons,e2];rfl⟩
theorem l9(x:List Nat):∀ ys:List (List Nat),(Str.join (S' x) (ys.map S')).cps.toList=gk x ys
 | []=>rfl
 | [y]=>by
  show ((S' y).cps.toList:List Nat)=y
  simp
 | y::z::r=>by
  have ih:=l9 x (z::r)
  show ((S' y++S' x++Str.join (S' x) ((z::r).map S')).cps.toList:List Nat)=y++x++gk x (z::r)
  refine (ih) ▸ ?_
  show ((_++_++_:Array Nat)).toList=_
  simp
section
variable {G:Wd} {A:Around} {C C':Cx} {env cenv:Env} {W W':List Addr} {η η' η₁ η₂ bw:ac} {σ σ' σ₁ σ₂ aj σ₄ b9:List AO} {ρ ρ' ab:Rho} {s s' ao aA:Shared}
open PySem.Builtin PySem.Builtin.Str in
theorem iv(x y:Str)(i j:Int)(t u v w:Tok)(hi:0<=i)(hj:0<=j)(hj2:j<=x.length) :
  Gives (Builtin.«str.find» ⟨[.str x t,.str y u,.int i v,.int j w],[]⟩) (.int (match Builtin.Str.occurrences x y i.toNat j.toNat 1 with | k::_=>(k:Int) | []=>-1)):=by
 show Gives (match Builtin.Str.occurrences x y (max 0 (if i < 0 then i + x.length else i)).toNat (min (max 0 (if j < 0 then j + x.length else j)).toNat x.length) 1 with | k::_=>retInt k | []=>(do rule "str.find.not-found";retInt (-1))) _
 rw [if_neg (by exact Int.not_lt.mpr ‹_›),if_neg (by exact Int.not_lt.mpr ‹_›),Int.max_eq_right hi,Int.max_eq_right hj,Nat.min_eq_left (by lia)]
 cases Builtin.Str.occurrences x y i.toNat j.toNat 1 with
 | nil=>exact .rule (.of_eq rfl)
 | cons k _=>exact .of_eq rfl
theorem eS(x:List Nat):∀ ys:List (List Nat),(gk x ys).length<=cO ys + ys.length * x.length
 | []=>Nat.zero_le _
 | [y]=>by show y.length<=(y.length + 0) + 1 * x.length;exact Nat.le_add_right _ _
 | y::z::r=>by
  have ih:=eS x (z::r)
  show (y++x++gk x (z::r)).length<=(y.length + cO (z::r)) + (r.length + 1 + 1) * x.length
  rw [List.length_append,List.length_append]
  have:(r.length + 1 + 1) * x.length=(z::r).length * x.length + x.length:=by rw [Nat.succ_mul];rfl
  lia
theorem i3:∀ ys:List (List Nat),(ys.map fun y=>(S' y).length).sum=cO ys
 | []=>rfl
 | y::r=>by
  rw [List.map_cons,List.sum_cons,i3 r,bC];rfl
theorem sM{x:List Nat}{ys:List (List Nat)}{a:Addr}{t:Tok}{vs:Array Value}(R:Rel G σ ρ s)(hp:s.heap.PlainList a vs)(r:RVs s.heap ρ (ys.map V.str) vs.toList)(hl:cO ys + ys.length * x.length<=lim) :
  wpAny (model G.prog G.w) A (call (.builtin "str.join") [.str (S' x) t,.ref a]) (PE G ρ s σ (.str (gk x ys))) No s:=by
 refine a7 (i4 r) fun l h_p=>?_;have e1:=h_p.1;have e2:=h_p.2
 refine SC.join (l:=l) (texts:=ys.map S') ?_ e2 ?_ fun t' k=>dm R (Nat.le_trans (eS x ys) hl) ?_
 ·exact (e1) ▸ (hp.isList)
 ·unfold JoinOk Builtin.Str.tooLong
  rw [StrLaws.joinTotal,List.map_map,List.length_map,bC,Bool.not_eq_true',decide_eq_false_iff_not]
  have:((ys.map ((fun p:Str=>p.length) ∘ S')).sum)=cO ys:=i3 ys
  have h4:sizeLine=16777216:=rfl
  unfold lim at hl
  lia
 ·unfold Txt.join
  rw [StrLaws.glued_eq_join]
  exact l9 x ys
theorem o6(y:List Nat):cO (y.map fun c=>[c])=y.length:=by
 induction y with
 | nil=>rfl
 | cons c y ih=>show 1 + cO (y.map fun c=>[c])=_;rw [ih,List.length_cons];exact Nat.add_comm _ _
theorem w7{y:List Nat}:∀ {l:List (Str × Tok)},ItemsOf (SignAt (S' y)) (strValues l).toArray (S' y).cps.size->l.map (·.1)=(y.map fun c=>[c]).map S':=by
 intro l ⟨h1,h2⟩
 have hlen:l.length=y.length:=by simpa [strValues,S'] using h1
 apply List.ext_getElem
 ·simp [hlen]
 ·intro j g1 g2
  have hj:j < l.length:=by simpa using g1
  obtain ⟨c,u,h_p⟩:=h2 j (.str l[j].1 l[j].2) (by simp [strValues,hj]);have e1:=h_p.1;have e2:=h_p.2
  have e3:l[j].1={ cps:=#[c] }:=by injection e2
  have e4:y[j]?=some c:=by simpa [S'] using e1
  have hy:j < y.length:=by lia
  rw [List.getElem?_eq_getElem hy] at e4
  simp only [List.getElem_map]
  rw [e3]
  have:y[j]=c:=by simpa using e4
  rw [this]
theorem ki{x y:List Nat}{t u:Tok}(hh:A.handled=none)(hy:y.length<=lim)(R:Rel G σ ρ s)(hl:y.length + y.length * x.length<=lim) :
  wpAny (model G.prog G.w) A (call (.builtin "str.join") [.str (S' x) t,.str (S' y) u]) (PE G ρ s σ (.str (gk x (y.map fun c=>[c])))) No s:=by
 have hsz:(S' y).cps.size<=sizeLine:=by
  have:(S' y).cps.size=y.length:=rfl
  exact (this) ▸ (Nat.le_trans hy (by decide))
 refine nS hh hsz fun s' l hk h2 h3 h4 hi=>?_
 have e:=w7 hi
 have hle:cO (y.map fun c=>[c]) + (y.map fun c=>[c]).length * x.length<=lim:=by rw [o6,List.length_map];exact hl
 refine (e) ▸ ?_
 refine ⟨?_,fun t' k=>?_⟩
 ·unfold JoinOk Builtin.Str.tooLong
  rw [StrLaws.joinTotal,List.map_map,List.length_map,bC,Bool.not_eq_true',decide_eq_false_iff_not]
  have:(((y.map fun c=>[c]).map ((fun p:Str=>p.length) ∘ S')).sum)=cO (y.map fun c=>[c]):=i3 _
  have h4:sizeLine=16777216:=rfl
  unfold lim at hle
  lia
 ·refine ⟨ρ,Step.grow R hk ⟨s'.heap,k,by cases s';cases s;simp_all⟩,RV.str' (Nat.le_trans (eS x _) hle) ?_⟩
  unfold Txt.join
  rw [StrLaws.glued_eq_join]
  exact l9 x _
theorem bY1{id:String}{u v:V}{vs:List V}{f:List Nat->List Nat->Option V}(h:ss σ u vs f=some v) (q:∀ x y,f x y=some v->x.length<=lim->∀ ρ s t u,Rel G σ ρ s ->
  wpAny (model G.prog G.w) A (call (.builtin id) [.str (S' x) t,.str (S' y) u]) (PE G ρ s σ v) No s):OnF G A σ id v (u::vs) :=
 tL h fun x hx h=>j0 h fun w hw h=>tL h fun y hy h=>by
  rw [yp hw,hy]
  intro ρ s cvs R r ht
  obtain ⟨c,r',rfl,h1,h2⟩:=RVs.cons_iff r
  obtain ⟨c2,r2,rfl,h3,h4⟩:=RVs.cons_iff h2
  refine (RVs.nil_iff h4) ▸ ?_
  replace h1:=(eg hx) ▸ h1
  obtain ⟨hl,t,rfl⟩:=RV.str_iff h1
  obtain ⟨_,u,rfl⟩:=RV.str_iff h3
  exact q x y h hl ρ s t u R
theorem pT{x:List Nat}{w v:V}{c:Value}{t:Tok}(hh:A.handled=none)(e:vf σ x w=some v)(R:Rel G σ ρ s)(r:RV s.heap ρ w c) :
  wpAny (model G.prog G.w) A (call (.builtin "str.join") [.str (S' x) t,c]) (PE G ρ s σ v) No s:=by
 cases hd:der σ w with
 | lst l =>
  refine byQ fun Q kQ=>?_
  have e:(match g9 l with | some ys=>if cO ys + ys.length * x.length<=lim then some (V.str (gk x ys)) else none | none=>none)=some v:=by rw [← e,vf,hd]
  refine dp (cL hd R r) fun a us h_p=>?_;obtain rfl:=h_p.1;have hp:=h_p.2.1;have hr:=h_p.2.2.1
  refine kQ ?_
  refine gc (g9 l) (fun hi=>?_) (fun ys hi=>?_)
  ·replace e:=(hi) ▸ e;exact nso e
  ·
   rw [hi] at e
   have e:=bq e
   refine (siX e.2) ▸ ?_
   rw [r8 hi] at hr
   exact sM R hp hr e.1
 | str y =>
  have e:=bq (show (if y.length + y.length * x.length<=lim then some (V.str (gk x (y.map fun c=>[c]))) else none)=some v by rw [← e,vf,hd])
  refine (siX e.2) ▸ ?_
  replace r:=(eg hd) ▸ r
  obtain ⟨hy,u,rfl⟩:=RV.str_iff r
  exact ki hh hy R e.1
 | _=>exact nomatch (show none=some v by rw [← e,vf,hd])
theorem sF{a:Addr}{us:Array Value}{l:List V}{w v:V}{c:Value}(e:hy1 l w=some v)(R:Rel G σ ρ s)(hp:s.heap.PlainList a us)(hr:RVs s.heap ρ l us.toList)(hl:l.length<=lim)(r:RV s.heap ρ w c) :
  wpAny (model G.prog G.w) A (call (.builtin "list.index") [.ref a,c]) (PE G ρ s σ v) No s :=
 tM e fun i hw e=>j0 e fun ns hi e=>j0 e fun k hk e=>by
  refine (siX e) ▸ ?_
  replace r:=(hw) ▸ r
  obtain ⟨t,rfl⟩:=RV.int_iff r
  obtain ⟨n,hp⟩:=hp
  replace hr:=(dM hi) ▸ hr
  have hsz:us.size=ns.length:=by have:=RVs.length hr;simpa using this
  rw [dM hi,List.length_map] at hl
  obtain ⟨hk1,h_p⟩:=List.findIdx?_eq_some_iff_getElem.mp hk;have hk2:=h_p.1;have hk3:=h_p.2
  have ev:∀ m (hm:m < us.size) (hm':m < ns.length),∃ t,us[m]=.int ns[m] t:=fun m hm hm'=>by
   refine byQ fun Q kQ=>?_
   refine fU1 (jv hr (i:=m) (c:=us[m]) (by simp [hm])) fun n' t' q1 q2=>?_
   rw [List.getElem?_eq_getElem hm'] at q1
   obtain rfl:=siX q1
   refine kQ ?_
   exact ⟨t',q2⟩
  refine call_meets F.slot_list_index ⟨_,hp,rfl⟩ F.entry_list_index (F.args_list_index_2 _ _)
   (PySem.SeqAt.list_indexAt a us n none #[] (.int i t) (fun y=>match y with | .int j _=>j == i | _=>false) k (by omega) (by unfold lim at hl;lia) ?_ ?_) ⟨hp,fun y hy=>?_,aQ R⟩
  ·obtain ⟨t',et⟩:=ev k (by omega) hk1
   exact (et) ▸ (hk2)
  ·intro m hm hmk
   obtain ⟨t',et⟩:=ev m hm (by omega)
   rw [et]
   simpa using hk3 m hmk
  ·obtain ⟨m,hm,rfl⟩:=Array.mem_iff_getElem.mp hy
   obtain ⟨t',et⟩:=ev m hm (by omega)
   rw [et]
   exact PySem.SeqAt.EqAt.int_int _ _ _ _
theorem sY{x y:List Nat}{v:V}{t u:Tok}(e:eM1 x y=some v)(R:Rel G σ ρ s):wpAny (model G.prog G.w) A (call (.builtin "str.index") [.str (S' x) t,.str (S' y) u]) (PE G ρ s σ v) No s:=by
 refine kC1 (Builtin.Str.occurrences (S' x) (S' y) 0 x.length 1) (fun ho=>?_) (fun i rest ho=>?_)
 ·rw [eM1,ho] at e;exact nso e
 ·
  rw [eM1,ho] at e
  refine (siX e) ▸ ?_
  exact SC.index (by rw [bC];exact ho) (aQ R)
theorem uY{f:Me}{u v:V}{vs:List V}(hh:A.handled=none)(hf:f≠.replace)(e:meF f σ u vs=some v):OnF G A σ f.id v (u::vs):=by
 cases f with
 | join =>
  exact tL e fun x hx e=>j0 e fun w hw e=>by
   rw [yp hw]
   intro ρ s cvs R r ht
   obtain ⟨c,r',rfl,h1,h2⟩:=RVs.cons_iff r
   obtain ⟨c2,r2,rfl,h3,h4⟩:=RVs.cons_iff h2
   rw [RVs.nil_iff h4]
   rw [eg hx] at h1
   obtain ⟨_,t,rfl⟩:=RV.str_iff h1
   exact pT hh e R h3
 | startswith=>exact bY1 e fun x y e _ ρ s t u R=>siX e ▸ SC.startswith (aC R)
 | endswith=>exact bY1 e fun x y e _ ρ s t u R=>siX e ▸ SC.endswith (aC R)
 | find3 =>
  exact tL e fun x hx e=>j0 e fun p hp e=>tL e fun y hy e=>by
   rw [kW1 hp,hy]
   refine yS (P:=fun a b=>OnF G A σ Me.find3.id v (u::[.str y,a,b])) e fun i j e=>OnF.of (bq e).2 fun ρ s cvs R r ht=>?_
   have h:=(bq e).1
   obtain ⟨c,r',rfl,h1,h2⟩:=RVs.cons_iff r
   replace h1:=(eg hx) ▸ h1
   obtain ⟨_,t,rfl⟩:=RV.str_iff h1
   obtain ⟨c,r',rfl,h1,h2⟩:=RVs.cons_iff h2
   obtain ⟨c2,r2,rfl,h3,h4⟩:=RVs.cons_iff h2
   obtain ⟨c3,r3,rfl,h5,h6⟩:=RVs.cons_iff h4
   refine (RVs.nil_iff h6) ▸ ?_
   obtain ⟨_,w,rfl⟩:=RV.str_iff h1
   obtain ⟨w2,rfl⟩:=RV.int_iff h3
   obtain ⟨w3,rfl⟩:=RV.int_iff h5
   exact call_gives F.slot_str_find (typeIs_str _ _ _) F.entry_str_find (F.args_str_find_4 _ _ _ _) (iv _ _ i j _ _ _ _ h.1 h.2.1 (by rw [bC];exact h.2.2)) (aQ R)
 | index=>exact bY1 e fun x y e _ ρ s t u R=>sY e R
 | lstripC =>
  exact bY1 e fun x y e hxl ρ s t u R=>siX e ▸ SC.lstripChars (fun t' k=>dm R (by
   have:=len_lstripChars (S' x) (S' y)
   rw [bC] at this
   exact Nat.le_trans (Nat.le_of_eq (Array.length_toList)) (Nat.le_trans this hxl)) rfl) (by rw [bC];exact Nat.le_trans hxl (by decide))
 | count=>exact bY1 e fun x y e _ ρ s t u R=>siX e ▸ SC.count (aQ R)
 | replace=>exact absurd rfl hf
 | lindex =>
  exact eR1 e fun l hd e=>j0 e fun w hw e=>by
   rw [yp hw]
   intro ρ s cvs R r ht
   obtain ⟨c,r',rfl,h1,h2⟩:=RVs.cons_iff r
   obtain ⟨c2,r2,rfl,h3,h4⟩:=RVs.cons_iff h2
   rw [RVs.nil_iff h4]
   refine dp (cL hd R h1) fun a us h_p=>?_;obtain rfl:=h_p.1;have hp:=h_p.2.1;have hr:=h_p.2.2.1;have hl:=h_p.2.2.2
   exact sF e R hp hr hl h3
 | _=>exact nso e
end
theorem fA:typeLookup (.type "list") (dunderI "add")=pure (some (.builtin "list.__iadd__")):=F.slot_list_iadd.lookup
theorem gh:isSeqSlot (some (.builtin "list.__iadd__"))=true:=by decide +kernel
theorem nH:fillsInplaceSlot (.type "list") "add" true=pure false:=by
 show (typeLookup (.type "list") (dunderI "add") >>= fun fi=>pure (fi.isSome && !isSeqSlot fi))=_
 rw [fA,pure_bind,gh];rfl
theorem j9:seqSlot? (.type "list") (dunderI "add")=pure (some (.builtin "list.__iadd__")):=PySem.seqSlot_of fA gh
noncomputable def opI(op:Operator)(x y:Int):Option V:=if op=.Add then some (.int (x + y)) else if op=.Sub then some (.int (x - y)) else none
noncomputable def opS(op:Operator)(x y:List Nat):Option V:=if op=.Add/\x.length + y.length<=lim then some (.str (x++y)) else none
noncomputable def eL1(op:Operator)(a b:V):Option V:=match a with
 | .int x=>(vI b).bind (opI op x)
 | .str x=>(vS b).bind (opS op x)
 | _=>none
section
variable {G:Wd} {A:Around} {C C':Cx} {env cenv:Env} {W W':List Addr} {η η' η₁ η₂ bw:ac} {σ σ' σ₁ σ₂ aj σ₄ b9:List AO} {ρ ρ' ab:Rho} {s s' ao aA:Shared}
theorem sQ{op:Operator}{a b v:V}(e:eL1 op a b=some v):On G A (fun | [x,y]=>inplaceOp op x y | _=>pure .none) σ [a,b] v σ:=On.two fun ρ s bD cG R aw aG ht=>by
 cases a with
 | int x =>
  refine tM e fun y hy e=>?_
  subst hy
  obtain ⟨t,rfl⟩:=RV.int_iff aw
  obtain ⟨u,rfl⟩:=RV.int_iff aG
  by_cases h1:op=.Add
  ·replace e:=(if_pos h1).symm.trans e
   exact h1 ▸ siX e ▸ PyProof.Rows.iadd_int (aQ R)
  ·have h:=bq ((if_neg h1).symm.trans e)
   exact h.1 ▸ siX h.2 ▸ PyProof.Rows.isub_int (aQ R)
 | str x =>
  refine tL e fun y hy e=>?_
  subst hy
  have h:=bq e
  rw [← siX h.2,h.1.1]
  obtain ⟨_,t,rfl⟩:=RV.str_iff aw
  obtain ⟨_,u,rfl⟩:=RV.str_iff aG
  refine SB.iadd (fun t' k=>dm R (by rw [List.length_append];exact h.1.2) ?_) (by rw [bC,bC];exact Nat.le_trans h.1.2 (by decide))
  show (_++_:Array Nat).toList=_
  simp
 | _=>exact nso e
theorem fg{k:Nat}{l:List V}{p:Addr × Addr}(R:Rel G σ ρ s)(hp:ρ.st[k]?=some p)(hσ:σ[k]?=some ⟨l,none⟩):∃ vs n,s.heap.get? p.1=some { cls:=.type "list",data:=.seq vs n }/\RVs s.heap ρ l vs.toList/\l.length<=lim:=by
 refine byQ fun Q kQ=>?_
 have ro:=R.obj k p _ hp hσ
 dsimp only [RO] at ro
 obtain ⟨hlim,e2,vs,⟨n,hpl⟩,hr⟩:=ro
 refine kQ ?_
 exact mT vs n hpl hr hlim
theorem f8{k:Nat}{l l':List V}{p:Addr × Addr}{h':Heap}{t:Nat}{us:Array Value}(R:Rel G σ ρ s)(hp:ρ.st[k]?=some p)(hσ:σ[k]?=some ⟨l,none⟩)(hs:Heap.ExtBut p.1 s.heap h')(hl:l'.length<=lim)
  (hpl:h'.PlainList p.1 us) (hr:KeepV s.heap ρ h' ρ->RVs h' ρ l' us.toList):Step G ρ s ρ { s with heap:=h',toks:=t } (σ.set k ⟨l',none⟩) :=
 Step.write R hp hσ hs fun K=>by
  have ro:=R.obj k p _ hp hσ
  dsimp only [RO] at ro ⊢
  exact ⟨hl,ro.2.1,us,hpl,hr K⟩
theorem oE{k:Nat}{l:List V}{v:V}(hσ:σ[k]?=some ⟨l,none⟩)(hl:l.length < lim):On G A (fun cvs=>call (.builtin "list.append") cvs) σ [.ref k,v] .none (σ.set k ⟨l++[v],none⟩):=fun ρ s cvs R r ht=>by
 obtain ⟨c,r',rfl,h1,h2⟩:=RVs.cons_iff r
 refine dp (RVs.cons_iff h2) fun c2 r2 h_p=>?_;obtain rfl:=h_p.1;have h3:=h_p.2.1;have h4:=h_p.2.2
 refine (RVs.nil_iff h4) ▸ ?_
 refine a7 (RV.ref_iff h1) fun p h_p=>?_;have hp:=h_p.1;obtain rfl:=h_p.2
 refine dp (fg R hp hσ) fun vs n h_p=>?_;have hpl:=h_p.1;have hr:=h_p.2.1;have hlim:=h_p.2.2
 have hsz:vs.size=l.length:=by have:=RVs.length hr;simpa using this
 refine wpAny_list_append_plain ⟨n,hpl⟩ (fun h' hp' hs'=>⟨ρ,f8 R hp hσ hs'.extBut (by rw [List.length_append];exact hl) hp' fun K=>?_,RV.none_⟩) (by rw [hsz];exact Nat.le_trans hlim (by decide))
 rw [Array.toList_push]
 exact RVs.append (RVs.mono K _ _ hr) (RVs.cons (RV.mono K _ _ h3) RVs.nil)
theorem sD{k:Nat}{l:List V}{v:V}(hσ:σ[k]?=some ⟨l++[v],none⟩):On G A (fun cvs=>call (.builtin "list.pop") cvs) σ [.ref k] v (σ.set k ⟨l,none⟩):=fun ρ s cvs R r ht=>by
 obtain ⟨c,r',rfl,h1,h2⟩:=RVs.cons_iff r
 refine (RVs.nil_iff h2) ▸ ?_
 refine byQ fun Q kQ=>?_
 obtain ⟨p,hp,rfl⟩:=RV.ref_iff h1
 refine dp (fg R hp hσ) fun vs n h_p=>?_;have hpl:=h_p.1;have hr:=h_p.2.1;have hlim:=h_p.2.2
 have hsz:vs.size=l.length + 1:=by have:=RVs.length hr;simpa using this
 have hlast:(l++[v])[l.length]?=some v:=by simp
 obtain ⟨c,h_p⟩:=RVs.get hr hlast;have hc:=h_p.1;have hv:=h_p.2
 have hy:vs[vs.size - 1]?=some c:=by rw [hsz];simpa using hc
 have hu:(Obj.mapSeq (fun xs=>xs.eraseIdxIfInBounds (vs.size - 1)) { cls:=.type "list",data:=.seq vs n })={ cls:=.type "list",data:=.seq (vs.eraseIdxIfInBounds (vs.size - 1)) (if (vs.eraseIdxIfInBounds (vs.size - 1)).size == vs.size then n else n + 1) }:=rfl
 refine kQ ?_
 refine call_meets F.slot_list_pop ⟨_,hpl,rfl⟩ F.entry_list_pop (F.args_list_pop_1 _) (PySem.MeetsSeq.list_pop_last p.1 vs n c hy (by rw [hsz];simp at hlim;exact Nat.le_trans hlim (by decide))) ⟨hpl,?_⟩
 have hg:(s.heap.update p.1 (Obj.mapSeq fun xs=>xs.eraseIdxIfInBounds (vs.size - 1))).get? p.1=some { cls:=.type "list",data:=.seq (vs.eraseIdxIfInBounds (vs.size - 1)) (if (vs.eraseIdxIfInBounds (vs.size - 1)).size == vs.size then n else n + 1) }:=by
  rw [Heap.get?_update_self _ hpl (by rw [hu];rfl),hu]
 have st:∀ t,Step G ρ s ρ { s with heap:=s.heap.update p.1 (Obj.mapSeq fun xs=>xs.eraseIdxIfInBounds (vs.size - 1)),toks:=t } (σ.set k ⟨l,none⟩):=fun t =>
  f8 (t:=t) R hp hσ (Heap.SameBut.update ..).extBut (by simp at hlim;exact Nat.le_of_lt ‹_›) ⟨_,hg⟩ fun K=>by
   have h5:(vs.eraseIdxIfInBounds (vs.size - 1)).toList=vs.toList.take l.length:=by
    rw [hsz]
    have:vs.toList.length=l.length + 1:=by exact hsz
    simp only [Nat.add_sub_cancel,Array.eraseIdxIfInBounds]
    rw [dif_pos (by exact Nat.le_of_eq (Eq.symm ‹_›)),Array.toList_eraseIdx,List.eraseIdx_eq_take_drop_succ,List.drop_of_length_le (by exact Nat.le_of_eq ‹_›),List.append_nil]
   rw [h5]
   have:=RVs.take l.length (RVs.mono K _ _ hr)
   simpa using this
 have K:=Step.keepV R (st s.toks)
 exact ⟨ρ,st s.toks,RV.mono K _ _ hv⟩
theorem vX{k:Nat}{l l':List V}{i:Int}{j:Nat}(hσ:σ[k]?=some ⟨l,none⟩)(hi:-1000000000<=i/\i<=1000000000)(hj:seqIndex? i l.length=some j)(hl':l'=l.eraseIdx j):Od G A σ (.ref k) (.int i) (σ.set k ⟨l',none⟩):=fun ρ s bD cG R aw aG ht=>by
 subst hl'
 obtain ⟨p,hp,rfl⟩:=RV.ref_iff aw
 obtain ⟨t,rfl⟩:=RV.int_iff aG
 refine dp (fg R hp hσ) fun vs n h_p=>?_;have hpl:=h_p.1;have hr:=h_p.2.1;have hlim:=h_p.2.2
 have hsz:vs.size=l.length:=by have:=RVs.length hr;simpa using this
 refine PySem.wpAny_delItem_plain ⟨n,hpl⟩ ?_ (by rw [hsz];exact hj) (fun h' hp' hs'=>⟨ρ,f8 R hp hσ hs'.extBut (Nat.le_trans (List.length_eraseIdx_le l j) hlim) hp' fun K=>?_⟩) (by rw [hsz];exact Nat.le_trans hlim (by decide))
 ·by_cases h0:0<=i
  ·exact fitsIndex_of h0 (by omega)
  ·exact fitsIndex_neg (by exact Int.not_le.mp ‹_›) (by omega)
 ·have hj':j < vs.size:=by
   dsimp only [seqIndex?] at hj
   by_cases h0:i < 0
   ·simp only [h0,if_true] at hj
    split at hj
    ·rename_i hh
     simp only [Bool.and_eq_true,decide_eq_true_eq] at hh
     obtain rfl:=siX hj;omega
    ·exact nso hj
   ·simp only [h0,if_false] at hj
    split at hj
    ·rename_i hh
     simp only [Bool.and_eq_true,decide_eq_true_eq] at hh
     obtain rfl:=siX hj;omega
    ·exact nso hj
  have h5:(vs.eraseIdxIfInBounds j).toList=vs.toList.eraseIdx j:=by
   simp only [Array.eraseIdxIfInBounds]
   rw [dif_pos hj',Array.toList_eraseIdx]
  rw [h5,List.eraseIdx_eq_take_drop_succ,List.eraseIdx_eq_take_drop_succ]
  have q:=RVs.mono K _ _ hr
  exact RVs.append (RVs.take j q) (RVs.drop (j + 1) q)
theorem jw{k:Nat}{l l2:List V}{v:V}(hσ:σ[k]?=some ⟨l,none⟩)(hv:der σ v=.lst l2)(hl:l.length + l2.length<=lim):On G A (fun | [x,y]=>inplaceOp .Add x y | _=>pure .none) σ [.ref k,v] (.ref k) (σ.set k ⟨l++l2,none⟩):=On.two fun ρ s bD cG R aw aG ht=>by
 refine byQ fun Q kQ=>?_
 obtain ⟨p,hp,rfl⟩:=RV.ref_iff aw
 refine dp (fg R hp hσ) fun vs n h_p=>?_;have hpl:=h_p.1;have hr:=h_p.2.1;have hlim:=h_p.2.2
 obtain ⟨b,us,rfl,⟨n2,hb⟩,hr2,hl2⟩:=cL hv R aG
 have hsz:vs.size=l.length:=by have:=RVs.length hr;simpa using this
 have hsz2:us.size=l2.length:=by have:=RVs.length hr2;simpa using this
 have h4:sizeLine=16777216:=rfl
 unfold lim at hl
 refine kQ ?_
 dsimp only [inplaceOp]
 refine wpAny_holding ?_
 refine wpAny_bind (wpAny_typeOf ⟨_,hpl,rfl⟩ (wpAny_bind (wpAny_of_eq nH ?_)))
 show wpAny _ A (if false=true then _ else _) _ _ s
 refine (if_neg Bool.false_ne_true) ▸ ?_
 refine wpAny_bind (wpAny_binaryOp1_none (nm:="add") ⟨_,hpl,rfl⟩ ⟨_,hb,rfl⟩ noFill_list_add ?_)
 refine wpAny_bind (wpAny_of_eq j9 ?_)
 refine wpAny_bind (wpAny_rule ?_)
 refine call_meets F.slot_list_iadd (show s.TypeIs (.ref p.1) "list" from ⟨_,hpl,rfl⟩) F.entry_list_iadd (F.args_list_iadd_2 _ _) (AutoSeq1.list___iadd___list_list_0 p.1 vs n b us n2 ?_ (by omega) (by omega)) ⟨hpl,hb,?_⟩
 ·simp only [Bool.and_eq_true,Bool.not_eq_true',Builtin.List.listTooLong,decide_eq_true_eq]
  omega
 have hu:(Obj.mapSeq (fun xs=>xs++us) { cls:=.type "list",data:=.seq vs n })={ cls:=.type "list",data:=.seq (vs++us) (if (vs++us).size == vs.size then n else n + 1) }:=rfl
 have hg:(s.heap.update p.1 (Obj.mapSeq fun xs=>xs++us)).get? p.1=some { cls:=.type "list",data:=.seq (vs++us) (if (vs++us).size == vs.size then n else n + 1) }:=by
  rw [Heap.get?_update_self _ hpl (by rw [hu];rfl),hu]
 have st:∀ t,Step G ρ s ρ { s with heap:=s.heap.update p.1 (Obj.mapSeq fun xs=>xs++us),toks:=t } (σ.set k ⟨l++l2,none⟩):=fun t =>
  f8 (t:=t) R hp hσ (Heap.SameBut.update ..).extBut (by rw [List.length_append];unfold lim;exact hl) ⟨_,hg⟩ fun K=>by
   rw [Array.toList_append]
   exact RVs.append (RVs.mono K _ _ hr) (RVs.mono K _ _ hr2)
 exact ⟨ρ,st s.toks,by delta RV;exact ⟨p,hp,rfl⟩⟩
theorem i6{h:Heap}{ρ:Rho}:∀ (zs:List Str) (tk:Nat),(∀ z∈zs,z.cps.toList.length<=lim)->RVs h ρ (zs.map fun z=>.str z.cps.toList) (strsFrom tk zs)
 | [],_,_=>RVs.nil
 | z::r,tk,hz=>RVs.cons (RV.str' (hz z List.mem_cons_self) rfl) (i6 r (tk + 1) fun y hy=>hz y (List.mem_cons_of_mem _ hy))
theorem q8{l:List V}{vs:List Value}{k:Nat}(R:Rel G σ ρ s)(r:RVs s.heap ρ l vs)(hl:l.length<=lim) :
  PE G ρ s (σ++[⟨l,none⟩]) (.ref σ.length) (.ref s.heap.objs.size) { s with heap:=s.heap.push { cls:=.type "list",data:=.seq vs.toArray },toks:=k }:=by
 refine ⟨⟨ρ.st++[(s.heap.objs.size,s.heap.objs.size)],ρ.hid⟩,Step.add R (fun b o e=>Heap.get?_push_of_some _ e) ⟨_,_,rfl⟩ (aE _) (aE _) fun K=>?_,?_⟩
 ·dsimp only [RO]
  exact ⟨hl,rfl,_,⟨_,Heap.get?_push_size _ rfl⟩,RVs.mono K _ _ (by exact r)⟩
 ·delta RV
  exact ⟨(s.heap.objs.size,s.heap.objs.size),by rw [← R.len];simp,rfl⟩
theorem o8{x y:List Nat}(hy:y≠[])(hl:(Txt.split (S' x) (S' y)).length<=lim)(hc:∀ z∈Txt.split (S' x) (S' y),z.cps.toList.length<=lim) :
  On G A (fun cvs=>call (.builtin "str.split") cvs) σ [.str x,.str y] (.ref σ.length) (σ++[⟨(Txt.split (S' x) (S' y)).map fun z=>.str z.cps.toList,none⟩]):=fun ρ s cvs R r ht=>by
 obtain ⟨c,r',rfl,h1,h2⟩:=RVs.cons_iff r
 obtain ⟨c2,r2,rfl,h3,h4⟩:=RVs.cons_iff h2
 refine (RVs.nil_iff h4) ▸ ?_
 obtain ⟨hxl,t,rfl⟩:=RV.str_iff h1
 obtain ⟨_,u,rfl⟩:=RV.str_iff h3
 have hy':((S' y).length == 0)=false:=by rw [bC];cases y with
  | nil=>exact absurd rfl hy
  | cons a b=>rfl
 have hone:∀ (hx:Txt.split (S' x) (S' y)=[S' x]) (k:Nat),PE G ρ s (σ++[⟨(Txt.split (S' x) (S' y)).map fun z=>.str z.cps.toList,none⟩]) (.ref σ.length) (.ref s.heap.objs.size) { s with heap:=s.heap.push { cls:=.type "list",data:=.seq [Value.str (S' x) t].toArray },toks:=k }:=fun hx k=>by
  refine q8 R ?_ (by rw [List.length_map];exact hl)
  refine (hx) ▸ ?_
  exact RVs.cons (RV.str' (by exact hxl) rfl) RVs.nil
 cases h5:(decide ((S' x).length < (S' y).length) || decide (strKind (S' x) < strKind (S' y)))
 ·cases hf:(occurrences (S' x) (S' y) 0 (S' x).length ((S' x).length + 1)).isEmpty
  ·have es:Txt.split (S' x) (S' y)=partsBetween (S' x) (occurrences (S' x) (S' y) 0 (S' x).length ((S' x).length + 1)) (S' y).length:=by
    unfold Txt.split
    rw [if_neg (ne_true_of_eq_false h5),if_neg (ne_true_of_eq_false hf)]
   refine call_meets F.slot_str_split (typeIs_str _ _ _) F.entry_str_split (F.args_str_split_2 _ _) (meets_str_split_sep (S' x) (S' y) t u h5 hy' hf (by rw [bC];exact Nat.le_trans hxl (by decide)) (by rw [← es];exact Nat.le_trans hl (by decide))) ?_
   have:=q8 (k:=s.toks + (partsBetween (S' x) (occurrences (S' x) (S' y) 0 (S' x).length ((S' x).length + 1)) (S' y).length).length) R (i6 (h:=s.heap) (ρ:=ρ) _ s.toks hc) (by rw [List.length_map];exact hl)
   rw [es] at this ⊢
   exact this
  ·have es:Txt.split (S' x) (S' y)=[S' x]:=by
    unfold Txt.split
    rw [if_neg (ne_true_of_eq_false h5),if_pos hf]
   exact call_meets F.slot_str_split (typeIs_str _ _ _) F.entry_str_split (F.args_str_split_2 _ _) (meets_str_split_not_found (S' x) (S' y) t u h5 hy' hf) (hone es s.toks)
 ·refine byQ fun Q kQ=>?_
  have es:Txt.split (S' x) (S' y)=[S' x]:=by
   unfold Txt.split
   rw [if_pos h5]
  refine kQ ?_
  exact call_meets F.slot_str_split (typeIs_str _ _ _) F.entry_str_split (F.args_str_split_2 _ _) (meets_str_split_cannot_occur (S' x) (S' y) t u h5) (hone es s.toks)
theorem lL{x y z:List Nat}{u v:Tok}{t:Tok}(hu:u≠0)(hv:v≠0)(huv:u≠v)(hyz:y≠z)(hb:x.length + (x.length + 1) * z.length<=16000000)(hl:(Txt.replace (S' x) (S' y) (S' z)).cps.toList.length<=lim)(R:Rel G σ ρ s) :
  wpAny (model G.prog G.w) A (call (.builtin "str.replace") [.str (S' x) t,.str (S' y) u,.str (S' z) v]) (PE G ρ s σ (.str (Txt.replace (S' x) (S' y) (S' z)).cps.toList)) No s:=by
 refine SC.replace hu hv huv ?_ (by rw [bC,bC];exact Nat.le_trans ‹_› (by decide)) fun t' k=>dm R hl rfl
 rw [uj]
 exact beq_false_of_ne hyz
end
structure Room (A:Around) (n:Nat):Prop where
 handled:A.handled=none
 depth:A.depth + n < recursionLimit
 units:A.units + 4 * n + 12 < cLine
theorem Room.deeper{A:Around}{n:Nat}(h:Room A (n + 1))(env:Env):Room (A.deeper env) n :=
 ⟨h.handled,by have:=h.depth;show A.depth + 1 + n < recursionLimit;lia,by have:=h.units;show A.units + 3 + 4 * n + 12 < cLine;lia⟩
theorem Room.less{A:Around}{n m:Nat}(h:Room A n)(hm:m<=n):Room A m:=⟨h.handled,by have:=h.depth;lia,by have:=h.units;lia⟩
theorem k7{kindOf:Str->Option NameKind}{n:Str}:∀ (binds:List (Str × Value)) (m:Str->Option Value),(∀ c,(n,c) ∉ binds)->bindL kindOf binds m n=m n
 | [],_,_=>rfl
 | (k,v)::r,m,h=>by
  dsimp only [bindL]
  refine (k7 r _ fun c hc=>h c (List.mem_cons_of_mem _ hc)) ▸ ?_
  split
  ·have:n≠k:=by rintro rfl;exact h v List.mem_cons_self
   exact if_neg this
  ·rfl
theorem k8{kindOf:Str->Option NameKind}{n:Str}:∀ (binds:List (Str × Value)) (m:Str->Option Value),(∀ c,(n,c) ∉ binds)->bindC kindOf binds m n=m n
 | [],_,_=>rfl
 | (k,v)::r,m,h=>by
  dsimp only [bindC]
  refine (k8 r _ fun c hc=>h c (List.mem_cons_of_mem _ hc)) ▸ ?_
  split
  ·rfl
  ·have:n≠k:=by rintro rfl;exact h v List.mem_cons_self
   exact if_neg this
theorem fG{n:Str}:∀ (ns:List Str) (cvs:List Value),n ∉ ns->∀ c,(n,c) ∉ ns.zip cvs
 | [],_,_,_=>by simp
 | _::_,[],_,_=>by simp
 | k::ns,v::cvs,h,c=>by
  rw [List.zip_cons_cons,List.mem_cons]
  rintro (e | hm)
  ·cases e;exact h List.mem_cons_self
  ·exact fG ns cvs (fun q=>h (List.mem_cons_of_mem _ q)) c hm
noncomputable def ey:List Str->Bool
 | []=>true
 | x::r=>!r.contains x && ey r
theorem ou{kindOf:Str->Option NameKind}{n:Str}{c:Value}(hk:kindOf n=some .local):∀ (ns:List Str) (cvs:List Value) (m:Str->Option Value) (j:Nat),ey ns=true->ns[j]?=some n->cvs[j]?=some c->bindL kindOf (ns.zip cvs) m n=some c
 | [],_,_,j,_,h,_=>by exact nso h
 | _::_,[],_,j,_,_,h=>by exact nso h
 | k::ns,v::cvs,m,0,hd,hn,hc=>by
  simp at hn hc
  subst hn hc
  obtain ⟨h1,h2⟩:=Bool.and_eq_true_iff.mp (show (!ns.contains k && ey ns)=true from hd)
  rw [List.zip_cons_cons]
  dsimp only [bindL]
  rw [k7 _ _ (fG ns cvs (by simpa using h1)),if_pos hk]
  simp
 | k::ns,v::cvs,m,j + 1,hd,hn,hc=>by
  obtain ⟨h1,h2⟩:=Bool.and_eq_true_iff.mp (show (!ns.contains k && ey ns)=true from hd)
  rw [List.zip_cons_cons]
  dsimp only [bindL]
  exact ou hk ns cvs _ j h2 (by simpa using hn) (by simpa using hc)
theorem ox{kindOf:Str->Option NameKind}{n:Str}{c:Value}(hk:kindOf n≠some .local):∀ (ns:List Str) (cvs:List Value) (m:Str->Option Value) (j:Nat),ey ns=true->ns[j]?=some n->cvs[j]?=some c->bindC kindOf (ns.zip cvs) m n=some c
 | [],_,_,j,_,h,_=>by exact nso h
 | _::_,[],_,j,_,_,h=>by exact nso h
 | k::ns,v::cvs,m,0,hd,hn,hc=>by
  simp at hn hc
  subst hn hc
  obtain ⟨h1,h2⟩:=Bool.and_eq_true_iff.mp (show (!ns.contains k && ey ns)=true from hd)
  rw [List.zip_cons_cons]
  dsimp only [bindC]
  rw [k8 _ _ (fG ns cvs (by simpa using h1)),if_neg hk]
  simp
 | k::ns,v::cvs,m,j + 1,hd,hn,hc=>by
  obtain ⟨h1,h2⟩:=Bool.and_eq_true_iff.mp (show (!ns.contains k && ey ns)=true from hd)
  rw [List.zip_cons_cons]
  dsimp only [bindC]
  exact ox hk ns cvs _ j h2 (by simpa using hn) (by simpa using hc)
noncomputable def dC(C:Cx)(ns:List Str):Bool :=
 C.ok && ey ns && (C.vars.all fun x=>x.own && (match ns[x.slot]? with | some n=>n == x.name | none=>true) && ((match C.kind x.name with | some .cell=>C.scope.names.contains (x.name,NameKind.cell) | _=>true))) &&
  (ns.all fun n=>C.vars.any fun x=>x.name == n)
noncomputable def az(vs:List V)(k:Nat):ac:=vs.map some++List.replicate k none
theorem sd{vs:List V}{k i:Nat}{v:V}(h:(az vs k)[i]?=some (some v)):vs[i]?=some v:=by
 unfold az at h
 by_cases hi:i < vs.length
 ·rw [List.getElem?_append_left (by simpa using hi),List.getElem?_map] at h
  cases hv:vs[i]? with
  | none=>replace h:=(hv) ▸ h;exact nso h
  | some w=>replace h:=(hv) ▸ h;cases h;rfl
 ·refine byQ fun Q kQ=>?_
  rw [List.getElem?_append_right (by simpa using hi)] at h
  replace h:=(List.getElem?_replicate) ▸ h
  refine kQ ?_
  split at h <;> cases h
structure Def (G:Wd) (a:Addr) (fd:FuncData) (body:List Stmt) (C:Cx) (ns:List Str):Prop where
 obj:∃ o,G.s₀.heap.get? a=some o/\o.data=.func fd
 la:a ∉ G.loose
 nolimit:∃ mc,G.s₀.heap.Ns cStatics mc/\mc "sys.recursionlimit"=none
 ls:cStatics ∉ G.loose
 code:∃ c o vs t,fd.code=.ref c/\c ∉ G.loose/\G.s₀.heap.get? c=some o/\o.data=.fields vs/\vs[1]?=some (.str fd.qualname t)
 body:fd.body=.stmts body
 clo:fd.closure=[]
 scope:fd.scope=C.scope
 glob:fd.globals=mainGlobals
 blt:fd.builtins=builtinsNs
 co:fd.scope.isCoroutine=false
 gen:fd.scope.isGenerator=false
 bind:∀ cvs:List Value,cvs.length=ns.length->bindArgs fd ⟨cvs,[]⟩=pure (ns.zip cvs)
 ok:dC C ns=true
section
variable {G:Wd} {A:Around} {C C':Cx} {env cenv:Env} {W W':List Addr} {η η' η₁ η₂ bw:ac} {σ σ' σ₁ σ₂ aj σ₄ b9:List AO} {ρ ρ' ab:Rho} {s s' ao aA:Shared}
theorem br{C:Cx}{ns:List Str}(h:dC C ns=true):C.ok=true/\ey ns=true /\
  (∀ y∈C.vars,(∀ n,ns[y.slot]?=some n->n=y.name)/\(C.kind y.name=some .cell->(y.name,NameKind.cell)∈C.scope.names))/\∀ n∈ns,∃ y,y∈C.vars/\y.name=n:=by
 have h1:=ap h
 have h2:=ap h1.1
 have h3:=ap h2.1
 refine ⟨h3.1,h3.2,fun y hy=>?_,fun n hn=>aO (List.any_eq_true.mp (List.all_eq_true.mp h1.2 n hn)) fun y hy e=>⟨y,hy,beq_iff_eq.mp e⟩⟩
 have q:=ap (List.all_eq_true.mp h2.2 y hy)
 refine ⟨fun n hn=>?_,fun hk=>?_⟩
 ·have:=(ap q.1).2
  rw [hn] at this
  exact beq_iff_eq.mp this
 ·have:=q.2
  rw [hk] at this
  exact List.contains_iff_mem.mp this
theorem lE{ns:List Str}{vs:List V}{k:Nat}{v:V}{y:Var}(hP:∀ n,ns[y.slot]?=some n->n=y.name)(hlen:vs.length=ns.length)(hv:(az vs k)[y.slot]?=some (some v)):vs[y.slot]?=some v/\ns[y.slot]?=some y.name :=
 have hv':=sd hv
 have e:=List.getElem?_eq_getElem (l:=ns) (hlen ▸ (List.getElem?_eq_some_iff.mp hv').1)
 ⟨hv',e.trans (congrArg some (hP _ e))⟩
theorem uS(R:Rel G σ ρ s)(h:∃ mc,G.s₀.heap.Ns cStatics mc/\mc "sys.recursionlimit"=none)(hl:cStatics ∉ G.loose):s.heap.NoLimit:=aO h fun mc hm hn=>⟨mc,Ns.of_base R hm hl,hn⟩
theorem rM(R:Rel G σ ρ s){fd:FuncData}(h:∃ c o vs t,fd.code=.ref c/\c ∉ G.loose/\G.s₀.heap.get? c=some o/\o.data=.fields vs/\vs[1]?=some (.str fd.qualname t)):s.heap.CodeRec fd.code fd.qualname :=
 eF1 h fun c oc us t e1 e2 e3 e4 e5=>ht1 c oc us t e1 (R.keep c oc e2 e3) e4 e5
noncomputable def Wn(C:Cx)(env:Env):List Addr:=env.locals::C.vars.filterMap fun y=>env.cells.lookup y.name
structure EnvIs (C:Cx) (env:Env) (L:Addr):Prop where
 sc:env.scope=C.scope
 glob:env.globals=mainGlobals
 blt:env.builtins=builtinsNs
 lo:env.locals=L
 ce:env.cells=cellsFrom (L + 1) C.scope.names []
 kd:∀ y,env.kindOf y=C.kind y
theorem ct1{ns:List Str}{vs:List V}{k:Nat}{cvs:List Value}{m cm:Str->Option Value}(P:dC C ns=true)(he:EnvIs C env s.heap.objs.size)(hlen:vs.length=ns.length)(R:Rel G σ ρ s)(r:RVs ao.heap ρ vs cvs)
  (hm:m=bindL env.kindOf (ns.zip cvs) fun _=>none) (hcm:cm=bindC env.kindOf (ns.zip cvs) fun _=>none)
  (x:InCallC s env.locals m env.cells cm ao):(∀ b∈Wn C env,s.heap.get? b=none)/\RE G C env (Wn C env) (az vs k) ρ ao:=by
 refine z3 (br P) fun hCok hnd hvars _=>?_
 have cellOf:∀ y∈C.vars,C.kind y.name=some .cell->∃ c,env.cells.lookup y.name=some c:=fun y hy hk=>he.ce ▸ jL _ _ [] (.inl ((hvars y hy).2 hk))
 have up:∀ {n c},env.cells.lookup n=some c->s.heap.get? c=none:=fun h=>bS (he.lo ▸ Nat.le_of_lt (x.above _ _ (mem_of_lookup h)))
 have inW:∀ b∈Wn C env,s.heap.get? b=none:=fun b hb=>Or.elim (List.mem_cons.mp hb) (fun e=>bS (e ▸ Nat.le_of_eq he.lo.symm)) fun hb=>aO (List.mem_filterMap.mp hb) fun y _ h=>up h
 refine ⟨inW,hCok,he.sc,he.glob,he.blt,List.mem_cons_self,fun b hb=>dq R (inW b hb),fun b hb=>Or.elim (List.mem_cons.mp hb) (fun e=>?_) fun hb=>aO (List.mem_filterMap.mp hb) fun y _ h=>?_,⟨m,x.toInCall.ns,fun y hy hk v hv=>?_⟩,
  fun y hy hk=>a7 (cellOf y hy hk) fun c hc=>?_,fun y hy z hz _ _ c h1 h2=>name_of_addr x.apart (mem_of_lookup h1) (mem_of_lookup h2)⟩
 ·exact wv x.toInCall.ns fun o es ep ho hd _=>⟨o,e ▸ ho,Solid.no_dict hd⟩
 ·exact aO (x.cell y.name b h) fun o ho hd=>⟨o,ho,Solid.no_cell hd⟩
 ·have q:=lE (hvars y hy).1 hlen hv
  exact aO (RVs.get r q.1) fun c hc hr=>⟨c,hm ▸ ou (by rw [he.kd];exact hk) ns cvs _ y.slot hnd q.2 hc,hr⟩
 ·refine yN c _ hc (x.cell y.name c hc) (fun _=>List.mem_cons_of_mem _ (List.mem_filterMap.mpr ⟨y,hy,hc⟩)) (dq R (up hc)).1 fun v hv=>?_
  have q:=lE (hvars y hy).1 hlen hv
  exact aO (RVs.get r q.1) fun c' hc' hr=>⟨c',hcm ▸ ox (by rw [he.kd,hk];decide) ns cvs _ y.slot hnd q.2 hc',hr⟩
theorem vY{ns:List Str}{cvs:List Value}{n:Nat}{sc:Scope}(P:dC C ns=true)(hs:sc=C.scope):∀ x∈ns.zip cvs,sc.names.lookup x.1=some .local\/(sc.names.lookup x.1=some .cell/\((cellsFrom n sc.names []).lookup x.1).isSome=true):=fun x hx=>by
 subst hs
 refine z3 (br P) fun hCok _ hvars hpar=>aO (hpar x.1 (List.of_mem_zip (a:=x.1) (b:=x.2) hx).1) fun y hy e=>?_
 refine e ▸ Or.elim ((Cx.ok_parts hCok).2 y hy).1 .inl fun h=>.inr ⟨h,?_⟩
 exact a7 (jL C.scope.names n [] (.inl ((hvars y hy).2 h))) fun c hc=>hc ▸ rfl
theorem On.def{a:Addr}{fd:FuncData}{body:List Stmt}{C:Cx}{ns:List Str}{vs:List V}{k n:Nat}{fl:Fl}{v:V}{η':ac}(D:Def G a fd body C ns)(hr:Room A (n + 1))(hlen:vs.length=ns.length)
  (hf:(fl=.ret v)\/(fl=.next/\v=.none))
  (H:∀ A' env W,Room A' n->Ess G A' C env W body σ (az vs k) fl σ' η'):On G A (fun cvs=>call (.ref a) cvs) σ vs v σ':=fun ρ s cvs R r ht=>by
 refine aO D.obj fun o hob hd=>?_
 have hcl:cvs.length=ns.length:=(RVs.length r).trans hlen
 have hkf:fd.scope.kind=.function:=D.scope ▸ (Cx.ok_parts (br D.ok).1).1
 refine wpAny_call (codeAny_call_function (Nat.lt_of_le_of_lt (Nat.le_add_right _ _) hr.depth) (R.keep a o D.la hob) hd D.co D.gen D.body (rM R D.code) ?_)
 rw [D.bind cvs hcl,D.clo]
 refine wpAny_pure (wpAny_with_toks (n:=s.toks) (Nat.le_refl _) (wpAny_newFunctionEnv_cells hkf (vY D.ok D.scope) fun env he ao x hle=>⟨(uS R D.nolimit D.ls).keeps x.toInCall.keep,codeAny_func ?_⟩))
 have hE:EnvIs C env s.heap.objs.size:=by subst he;exact ⟨D.scope,D.glob,D.blt,rfl,D.scope ▸ rfl,fun y=>show fd.scope.names.lookup y=C.scope.names.lookup y by rw [D.scope]⟩
 have N:=ct1 (k:=k) D.ok hE hlen R (RVs.sameHeap x.toInCall.keep r) rfl rfl x
 have em1:Step G ρ s ρ ao σ:=Step.grow R x.toInCall.keep x.toInCall.same
 refine (H _ _ _ (hr.deeper _)).use em1.rel N.2 (Nat.lt_of_lt_of_le ht hle) fun f aA av au cN dH aG=>?_
 have S:Step G ρ s av aA σ':=(em1.toW.trans au).drop fun b hb hne=>absurd (N.1 b hb) hne
 rcases hf with rfl | ⟨rfl,rfl⟩
 ·obtain ⟨cv,rfl,hv⟩:=aG
  exact ⟨av,S,hv⟩
 ·have e:f=.next:=aG
  subst e
  exact ⟨av,S,RV.none_⟩
end
structure Acc (G:Wd) (m:Str->Option Value):Prop where
 cls:∃ o cd,G.s₀.heap.get? G.cls=some o/\o.data=.cls cd/\cd.mro=[.ref G.cls,.type "list",.type "object"]/\cd.ns ∉ G.loose/\G.s₀.heap.Ns cd.ns m
 lc:G.cls ∉ G.loose
section
variable {G:Wd} {A:Around} {C C':Cx} {env cenv:Env} {W W':List Addr} {η η' η₁ η₂ bw:ac} {σ σ' σ₁ σ₂ aj σ₄ b9:List AO} {ρ ρ' ab:Rho} {s s' ao aA:Shared} {m:Str->Option Value}
theorem cU(K:Acc G m)(R:Rel G σ ρ s):∃ o cd,s.heap.get? G.cls=some o/\o.data=.cls cd/\cd.mro=[.ref G.cls,.type "list",.type "object"]/\s.heap.Ns cd.ns m:=by
 refine dp (K.cls) fun o cd h_p=>?_;have h1:=h_p.1;have h2:=h_p.2.1;have h3:=h_p.2.2.1;have h4:=h_p.2.2.2.1;have h5:=h_p.2.2.2.2
 exact eK1 o cd (R.keep _ _ K.lc h1) h2 h3 (Ns.of_base R h5 h4)
theorem rg:mroOf (.type "list")=pure [.type "list",.type "object"]:=by
 have:builtinMro "list"=some [.type "list",.type "object"]:=by kernel_rfl
 unfold mroOf
 dsimp only
 rw [this]
theorem le(K:Acc G m)(R:Rel G σ ρ s){name:Str}{r:Option Value}(h:(∃ v,m name=some v/\r=some v)\/(m name=none/\typeLookup (.type "list") name=pure r)){Q:Option Value->Shared->Prop}{E:Value->Shared->Prop}{M:Model}
  (hQ:Q r s):wpAny M A (typeLookup (.ref G.cls) name) Q E s:=by
 refine dp (cU K R) fun o cd h_p=>?_;have h1:=h_p.1;have h2:=h_p.2.1;have h3:=h_p.2.2.1;have h4:=h_p.2.2.2
 rw [typeLookup_eq]
 refine wpAny_bind (m:=mroOf (.ref G.cls)) ?_
 show wpAny M A (do return (← classData G.cls).mro) _ E s
 refine wpAny_bind ?_
 unfold classData
 refine wpAny_bind (wpAny_load h1 ?_)
 refine (h2) ▸ ?_
 refine wpAny_pure (wpAny_pure ?_)
 rw [h3,lookupAlong_cons]
 refine wpAny_bind ?_
 show wpAny M A (do nsGet (← classData G.cls).ns name) _ E s
 refine wpAny_bind ?_
 unfold classData
 refine wpAny_bind (wpAny_load h1 ?_)
 refine (h2) ▸ ?_
 refine wpAny_pure (wpAny_nsGet h4 ?_)
 rcases h with ⟨v,hv,rfl⟩ | ⟨hv,hl⟩
 ·exact (hv) ▸ (wpAny_pure hQ)
 ·refine (hv) ▸ ?_
  have:lookupAlong [.type "list",.type "object"] name=pure r:=by rw [typeLookup_eq,rg] at hl;exact hl
  show wpAny M A (lookupAlong [.type "list",.type "object"] name) Q E s
  exact (this) ▸ (wpAny_pure hQ)
theorem bR{k:Nat}{l:List V}{i:Int}{p:Addr × Addr}(R:Rel G σ ρ s)(hp:ρ.st[k]?=some p)(hσ:σ[k]?=some ⟨l,some i⟩) :
  ∃ vs n d,s.heap.get? p.1=some ⟨.ref G.cls,some p.2,.seq vs n,#[]⟩/\RVs s.heap ρ l vs.toList/\s.heap.Ns p.2 d/\(∃ t,d "_initial_size"=some (.int i t))/\(∀ x:Str,x≠"_initial_size"->d x=none)/\l.length<=lim:=by
 refine byQ fun Q kQ=>?_
 have ro:=R.obj k p _ hp hσ
 dsimp only [RO] at ro
 obtain ⟨hlim,vs,n,d,h1,h2,h3,h4,h5⟩:=ro
 refine kQ ?_
 exact hu1 vs n d h1 h2 h3 h4 h5 hlim
theorem cT(K:Acc G m)(R:Rel G σ ρ s){a:Addr}{o:Obj}(ho:s.heap.get? a=some o)(hc:o.cls=.ref G.cls){name:Str}{r:Option Value}(h:(∃ v,m name=some v/\r=some v)\/(m name=none/\typeLookup (.type "list") name=pure r)){Q:Option Value->Shared->Prop}{E:Value->Shared->Prop}{M:Model}
  (hQ:Q r s):wpAny M A (specialOf (.ref a) name) Q E s:=by
 unfold specialOf
 refine wpAny_bind ?_
 show wpAny M A (typeOf (.ref a)) _ E s
 unfold typeOf
 refine wpAny_bind (wpAny_load ho (wpAny_pure ?_))
 refine (hc) ▸ ?_
 exact le K R h hQ
theorem mK(K:Acc G m)(R:Rel G σ ρ s){k:Nat}{l:List V}{i:Int}{p:Addr × Addr}(hp:ρ.st[k]?=some p)(hσ:σ[k]?=some ⟨l,some i⟩){name:Str}{f:Value}{tf:Value}{pl:Sem Bool}
  (hga:m "__getattribute__"=none) (hgt:m "__getattr__"=none) (h:(m name=some f)\/(m name=none/\typeLookup (.type "list") name=pure (some f)))
  (hn:name≠"_initial_size") (ht:∀ {Q:Value->Shared->Prop} {E:Value->Shared->Prop},Q tf s->wpAny (model G.prog G.w) A (typeOf f) Q E s) (htf:tf=.type "function"\/tf=.type "method_descriptor"\/tf=.type "wrapper_descriptor")
  {Q:Value × List Value->Shared->Prop} {E:Value->Shared->Prop} (hQ:Q (f,[.ref p.1]) s):wpAny (model G.prog G.w) A (getMethod (.ref p.1) name pl) Q E s:=by
 refine bo1 (bR R hp hσ) fun vs n d h1 h2 h3 h4 h5 h6=>?_
 refine a7 (F.plainAttrs_list.ga) fun g h_p=>?_;have hg:=h_p.1;have hcan:=h_p.2
 dsimp only [getMethod]
 refine wpAny_bind (cT K R h1 rfl (.inr ⟨hga,hg⟩) ?_)
 show wpAny _ A (if (Manifest.canonical g != "object.__getattribute__")=true then _ else _) Q E s
 rw [hcan,if_neg Bool.false_ne_true]
 refine wpAny_bind (cT K R h1 rfl (.inr ⟨hgt,F.plainAttrs_list.noGetattr⟩) ?_)
 show wpAny _ A (if (Option.isSome (none:Option Value))=true then _ else _) Q E s
 rw [if_neg (by decide)]
 refine wpAny_bind (cT K R h1 rfl (r:=some f) (by rcases h with h | h;exact .inl ⟨f,h,rfl⟩;exact .inr h) ?_)
 refine wpAny_bind (ht ?_)
 rw [if_neg (by rcases htf with rfl | rfl | rfl <;> decide)]
 refine wpAny_bind (wpAny_loadPart h1 ?_)
 show wpAny _ A (nsGet p.2 name >>= _) Q E s
 refine wpAny_bind (wpAny_nsGet h3 ?_)
 refine (h5 name hn) ▸ ?_
 exact wpAny_bind (wpAny_rule (wpAny_pure hQ))
theorem rX(K:Acc G m){o:Expr}{name:Str}{apos pos:Pos}{args:List Expr}{k:Nat}{l:List V}{i:Int}{v:V}{vs:List V}{f tf:Value}(hs:cJ o=true)(hn:aI args=true)(hfew:args.length < 29)(hline:(apos.endLine == pos.line)=true)
  (hga:m "__getattribute__"=none) (hgt:m "__getattr__"=none) (hf:(m name=some f)\/(m name=none/\typeLookup (.type "list") name=pure (some f)))
  (hni:name≠"_initial_size") (ht:∀ {s:Shared} {Q:Value->Shared->Prop} {E:Value->Shared->Prop},(∀ b o,b ∉ G.loose->G.s₀.heap.get? b=some o->s.heap.get? b=some o)->Q tf s->wpAny (model G.prog G.w) A (typeOf f) Q E s) (htf:tf=.type "function"\/tf=.type "method_descriptor"\/tf=.type "wrapper_descriptor")
  (d4:Ev G A C env W o σ η (.ref k) σ₁) (hσ:σ₁[k]?=some ⟨l,some i⟩) (fC:Evs G A C env W args σ₁ η vs σ₂)
  (hc:∀ ρ s c,Rel G σ₁ ρ s->RE G C env W η ρ s->0 < s.toks->RV s.heap ρ (.ref k) c->wpAny (model G.prog G.w) A (callWith pos f [c] (backTo pos (starEach args env)) []) (PE G ρ s aj v) No s) :
  Ev G A C env W (.Call (.Attribute o name apos) args [] pos) σ η v aj:=fun ρ s R N htk=>by
 rw [arm_eval_Call,fp hs]
 refine wpAny_bind (d4.use R N htk fun bD ao ab ag aL aM aw=>?_)
 refine a7 (RV.ref_iff aw) fun p h_p=>?_;have hp:=h_p.1;obtain rfl:=h_p.2
 refine wpAny_bind (wpAny_standAt ?_)
 have hform:methodCallForm (args.length + ([]:List Keyword).length) (backTo pos (starEach args env)) (backToKw pos (keywordEach [] env))=true:=by
  unfold methodCallForm
  rw [eM hn]
  show (true && true && decide (args.length + 0 + 0 < 30))=true
  simp;exact Nat.le_succ_of_le ‹_›
 have hpos:methodCallPos true o env apos pos=pure pos:=by unfold methodCallPos;simp [hline]
 dsimp only [methodCall]
 refine (hform) ▸ ?_
 refine wpAny_bind (wpAny_holding ?_)
 show wpAny _ A (getMethod (.ref p.1) name _) _ _ ao
 refine mK K ag.rel hp hσ hga hgt hf hni (fun hq=>ht ag.rel.keep hq) htf ?_
 refine wpAny_bind (wpAny_of_eq hpos ?_)
 exact wpAny_mono (hc ab ao _ ag.rel aL aM aw) ((by rintro cv aA ⟨av,au,aG⟩;exact ⟨av,ag.trans au,aG⟩)) fun _ _ f=>f.elim
theorem Ev.accDef(K:Acc G m){o:Expr}{name:Str}{apos pos:Pos}{args:List Expr}{k:Nat}{l:List V}{i:Int}{v:V}{vs:List V}{fa:Addr}{fo:Obj}{fd:FuncData}(hs:cJ o=true)(hn:aI args=true)(hfew:args.length < 29)(hline:(apos.endLine == pos.line)=true)
  (hga:m "__getattribute__"=none) (hgt:m "__getattr__"=none) (hf:m name=some (.ref fa)) (hni:name≠"_initial_size")
  (hb:G.s₀.heap.get? fa=some fo) (hl:fa ∉ G.loose) (hfd:fo.data=.func fd) (hfc:fo.cls=.type "function")
  (d4:Ev G A C env W o σ η (.ref k) σ₁) (hσ:σ₁[k]?=some ⟨l,some i⟩) (fC:Evs G A C env W args σ₁ η vs σ₂)
  (ho:On G A (fun cvs=>call (.ref fa) cvs) σ₂ (.ref k::vs) v aj):Ev G A C env W (.Call (.Attribute o name apos) args [] pos) σ η v aj:=by
 refine rX K hs hn hfew hline hga hgt (.inl hf) hni (tf:=.type "function") (fun hk hq=>?_) (.inl rfl) d4 hσ fC fun ρ s c R N ht r=>?_
 ·unfold typeOf
  refine wpAny_bind (wpAny_load (hk fa fo hl hb) (wpAny_pure ?_))
  exact (hfc) ▸ (hq)
 ·refine callWith_function (o:=fo) (fd:=fd) (du hn (fC.use R N ht pos fun cvs ao ab ag aL aM aw=>⟨⟨ag.rel.keep fa fo hl hb,hfd⟩,?_⟩))
  exact ho.use ag.rel (RVs.cons (RV.mono (Step.keepV R ag) _ _ r) aw) aM fun cv aA av au dH aG=>⟨av,ag.trans au,aG⟩
theorem Ev.accBi(K:Acc G m){o:Expr}{name:Str}{apos pos:Pos}{args:List Expr}{k:Nat}{l:List V}{i:Int}{v:V}{vs:List V}{id:String}(M:Mt "list" name id)(hs:cJ o=true)(hn:aI args=true)(hfew:args.length < 29)(hline:(apos.endLine == pos.line)=true)
  (hga:m "__getattribute__"=none) (hgt:m "__getattr__"=none) (hf:m name=none) (hni:name≠"_initial_size")
  (d4:Ev G A C env W o σ η (.ref k) σ₁) (hσ:σ₁[k]?=some ⟨l,some i⟩) (fC:Evs G A C env W args σ₁ η vs σ₂)
  (ho:On G A (fun cvs=>call (.builtin id) cvs) σ₂ (.ref k::vs) v aj):Ev G A C env W (.Call (.Attribute o name apos) args [] pos) σ η v aj:=by
 refine rX K hs hn hfew hline hga hgt (.inr ⟨hf,M.slot.lookup⟩) hni (tf:=.type "method_descriptor") (fun hk hq=>wpAny_of_eq M.ty hq) (.inr (.inl rfl)) d4 hσ fC fun ρ s c R N ht r=>?_
 refine callWith_builtin (cP hn) (du hn (fC.use R N ht pos fun cvs ao ab ag aL aM aw=>?_))
 exact ho.use ag.rel (RVs.cons (RV.mono (Step.keepV R ag) _ _ r) aw) aM fun cv aA av au dH aG=>⟨av,ag.trans au,aG⟩
theorem fF(K:Acc G m)(R:Rel G σ ρ s){a:Addr}{o:Obj}(ho:s.heap.get? a=some o)(hc:o.cls=.ref G.cls){Q:Bool->Shared->Prop}{E:Value->Shared->Prop}{M:Model}(hQ:Q true s):wpAny M A (isInstance (.ref a) (.type "list")) Q E s:=by
 refine dp (cU K R) fun oc cd h_p=>?_;have h1:=h_p.1;have h2:=h_p.2.1;have h3:=h_p.2.2.1;have h4:=h_p.2.2.2
 unfold isInstance
 refine wpAny_bind (m:=typeOf (.ref a)) ?_
 unfold typeOf
 refine wpAny_bind (wpAny_load ho (wpAny_pure ?_))
 refine (hc) ▸ ?_
 unfold isSubtype
 refine wpAny_bind (m:=mroOf (.ref G.cls)) ?_
 show wpAny M A (do return (← classData G.cls).mro) _ E s
 refine wpAny_bind ?_
 unfold classData
 refine wpAny_bind (wpAny_load h1 ?_)
 refine (h2) ▸ ?_
 refine wpAny_pure (wpAny_pure ?_)
 refine (h3) ▸ ?_
 dsimp only
 rw [if_neg (show ¬ (([Value.ref G.cls,.type "list",.type "object"]:List Value).isEmpty=true) from Bool.false_ne_true)]
 have e:([Value.ref G.cls,.type "list",.type "object"]:List Value).contains (.type "list")=true:=by
  rw [List.contains_cons,List.contains_cons];simp
 refine (e) ▸ ?_
 exact wpAny_pure hQ
theorem oG(K:Acc G m)(R:Rel G σ ρ s){a:Addr}{o:Obj}(ho:s.heap.get? a=some o)(hc:o.cls=.ref G.cls){id n:String}{rest:List Value}(hk:builtinKind id=some .slot\/builtinKind id=some .method)(hsplit:splitId id=some ("list",n))
  (ha:argsOk id ⟨.ref a::rest,[]⟩) {Q:Unit->Shared->Prop} {E:Value->Shared->Prop} {M:Model} (hQ:Q () s):wpAny M A (checkBuiltinCall id ⟨.ref a::rest,[]⟩) Q E s:=by
 rcases hk with h | h <;>
 ·simp only [checkBuiltinCall,h,hsplit]
  refine wpAny_bind (fF K R ho hc ?_)
  simp only [Bool.not_true,Bool.false_eq_true,if_false]
  cases hsig:Manifest.signature? id with
  | none=>exact wpAny_pure hQ
  | some sig =>
   simp only [argsOk,hsig] at ha
   have h2:Bind.checkArgs id sig ⟨.ref a::rest,[]⟩=pure ():=ha
   show wpAny M A (Bind.checkArgs id sig ⟨.ref a::rest,[]⟩) Q E s
   exact (h2) ▸ (wpAny_pure hQ)
theorem ig:builtinKind "list.append"=some .method:=by kernel_rfl
theorem gC:splitId "list.append"=some ("list","append"):=by decide +kernel
theorem mJ{k:Nat}{l l':List V}{i:Int}{p:Addr × Addr}{h':Heap}{t:Nat}{us:Array Value}{n:Nat}(R:Rel G σ ρ s)(hp:ρ.st[k]?=some p)(hσ:σ[k]?=some ⟨l,some i⟩)(hs:Heap.ExtBut p.1 s.heap h')(hl:l'.length<=lim)
  (hpl:h'.get? p.1=some ⟨.ref G.cls,some p.2,.seq us n,#[]⟩) (hr:KeepV s.heap ρ h' ρ->RVs h' ρ l' us.toList):Step G ρ s ρ { s with heap:=h',toks:=t } (σ.set k ⟨l',some i⟩) :=
 Step.write R hp hσ hs fun K=>by
  refine byQ fun Q kQ=>?_
  refine bo1 (bR R hp hσ) fun vs n' d h1 h2 h3 h4 h5 h6=>?_
  refine kQ ?_
  dsimp only [RO]
  refine ⟨hl,us,n,d,hpl,hr K,?_,h4,h5⟩
  refine h3.extBut hs ?_
  intro e
  refine wv (h3) fun o es ep ho hd _=>?_
  rw [e,h1] at ho;obtain rfl:=siX ho;cases hd
theorem iE(K:Acc G m){k:Nat}{l:List V}{i:Int}{v:V}(hσ:σ[k]?=some ⟨l,some i⟩)(hl:l.length < lim):On G A (fun cvs=>call (.builtin "list.append") cvs) σ [.ref k,v] .none (σ.set k ⟨l++[v],some i⟩):=fun ρ s cvs R r ht=>by
 obtain ⟨c,r',rfl,h1,h2⟩:=RVs.cons_iff r
 refine dp (RVs.cons_iff h2) fun c2 r2 h_p=>?_;obtain rfl:=h_p.1;have h3:=h_p.2.1;have h4:=h_p.2.2
 refine (RVs.nil_iff h4) ▸ ?_
 refine a7 (RV.ref_iff h1) fun p h_p=>?_;have hp:=h_p.1;obtain rfl:=h_p.2
 refine byQ fun Q kQ=>?_
 refine fO (bR R hp hσ) fun vs n d h_p=>?_;have g1:=h_p.1;have g2:=h_p.2.1;have g3:=h_p.2.2.1;have g4:=h_p.2.2.2.1;have g5:=h_p.2.2.2.2.1;have g6:=h_p.2.2.2.2.2
 have hsz:vs.size=l.length:=by have:=RVs.length g2;simpa using this
 refine kQ ?_
 refine wpAny_call (codeAny_call_builtin slot_list_append.plain entry_list_append (oG K R g1 rfl (.inr ig) gC (args_list_append _ _) ?_))
 show wpAny _ _ (updateSeq p.1 (·.push c2) >>= fun _=>ret .none) _ _ s
 have hu:(Obj.mapSeq (·.push c2) ⟨.ref G.cls,some p.2,.seq vs n,#[]⟩)=⟨.ref G.cls,some p.2,.seq (vs.push c2) (if (vs.push c2).size == vs.size then n else n + 1),#[]⟩:=rfl
 refine wpAny_bind (wpAny_updateSeq g1 rfl (wpAny_pure ?_) (by rw [hsz];exact Nat.le_trans g6 (by decide)) (by rw [Array.size_push,hsz];exact Nat.succ_le_succ (Nat.le_trans g6 (by decide))))
 have hg:(s.heap.update p.1 (Obj.mapSeq (·.push c2))).get? p.1=some ⟨.ref G.cls,some p.2,.seq (vs.push c2) (if (vs.push c2).size == vs.size then n else n + 1),#[]⟩:=by
  rw [Heap.get?_update_self _ g1 (by rw [hu];rfl),hu]
 refine ⟨ρ,mJ (t:=s.toks) R hp hσ (Heap.SameBut.update ..).extBut (by rw [List.length_append];exact hl) hg fun KK=>?_,RV.none_⟩
 ·rw [Array.toList_push]
  exact RVs.append (RVs.mono KK _ _ g2) (RVs.cons (RV.mono KK _ _ h3) RVs.nil)
end
theorem mj{α:Type}{l:List α}(h:l.isEmpty=true):l=[]:=List.isEmpty_iff.mp h
noncomputable def oB{α:Type}(o:Option α)(f:α->Bool):Bool:=o.elim false f
theorem sv{α:Type}{o:Option α}{f:α->Bool}(h:oB o f=true):∃ a,o=some a/\f a=true:=by
 cases o with
 | none=>exact ftr h
 | some a=>exact ⟨a,rfl,h⟩
set_option genInjectivity false in
set_option genSizeOf false in
inductive Ex where
 | cst (v:V) | glo (l:List Nat) | loc (i:Nat) | nil | cons (e es:Ex)
 | tup (es:Ex) | lst (es:Ex) | new (es:Ex)
 | bin (op:Operator) (a b:Ex) | neg (a:Ex) | not (a:Ex)
 | cmp (op:CmpOp) (a b:Ex) | chain (cI cq:CmpOp) (a b c:Ex)
 | and (a b:Ex) | or (a b:Ex) | ite (c a b:Ex)
 | idx (a i:Ex) | slc (a lo hi st:Ex)
 | comp (vars:List Var) (tg elt it cond:Ex)
 | bf (f:Bf) (args:Ex) | range (args:Ex) | list (args:Ex)
 | me (f:Me) (o args:Ex) | rep (o:Ex) (y z:List Nat) | split (o:Ex) (y:Ex)
 | append (o x:Ex) | pop (o:Ex)
 | call (f:Nat) (args:Ex) | meth (f:Nat) (o args:Ex)
noncomputable abbrev Fn:=Nat->List V->List AO->Option (V × List AO)
noncomputable def ItS.fuel:ItS->List AO->Nat
 | .seq l,_=>l.length + 1
 | .dyn k i,σ=>match σ[k]? with
  | some ⟨items,_⟩=>items.length + 1
  | none=>0
noncomputable def yC:ac->List Nat->List V->ac
 | η,i::is,v::vs=>yC (η.set i (some v)) is vs
 | η,_,_=>η
noncomputable def i7:Ex->Option (List Nat)
 | .nil=>some []
 | .cons (.loc i) es=>(i7 es).map (i::·)
 | _=>none
noncomputable def asF(tg:Ex)(v:V)(η:ac):Option ac :=
 match tg,v with
 | .loc i,v=>some (η.set i (some v))
 | .tup es,.tup vs=>match i7 es with
  | some is=>if vs.length=is.length then some (yC η is vs) else none
  | none=>none
 | _,_=>none
noncomputable def fR(tg:Ex)(cond:List AO->ac->Option (Bool × List AO))(elt:List AO->ac->Option (V × List AO)):Nat->ItS->List AO->ac->Option (List V × List AO)
 | 0,_,_,_=>none
 | n + 1,st,σ,η=>match st.step σ with
  | none=>none
  | some none=>some ([],σ)
  | some (some (x,st'))=>match asF tg x η with
   | none=>none
   | some η₁=>match cond σ η₁ with
    | none=>none
    | some (false,σ₁)=>fR tg cond elt n st' σ₁ η₁
    | some (true,σ₁)=>match elt σ₁ η₁ with
     | none=>none
     | some (v,σ₂)=>match fR tg cond elt n st' σ₂ η₁ with
      | none=>none
      | some (out,aj)=>some (v::out,aj)
mutual
noncomputable def evx(F:Fn):Ex->List AO->ac->Option (V × List AO)
 | .cst v,σ,_=>some (v,σ)
 | .glo l,σ,_=>some (.str l,σ)
 | .loc i,σ,η=>match η[i]? with
  | some (some v)=>some (v,σ)
  | _=>none
 | .nil,σ,_=>some (.none,σ)
 | .cons _ _,_,_=>none
 | .tup es,σ,η=>match evs F es σ η with
  | some (vs,σ₁)=>if vs.length<=lim then some (.tup vs,σ₁) else none
  | none=>none
 | .lst es,σ,η=>match evs F es σ η with
  | some (vs,σ₁)=>if vs.length<=lim then some (.lst vs,σ₁) else none
  | none=>none
 | .new es,σ,η=>match evs F es σ η with
  | some (vs,σ₁)=>if vs.length<=lim then some (.ref σ₁.length,σ₁++[⟨vs,none⟩]) else none
  | none=>none
 | .bin op a b,σ,η=>match evx F a σ η with
  | some (x,σ₁)=>match evx F b σ₁ η with
   | some (y,σ₂)=>(qj op x y).map fun v=>(v,σ₂)
   | none=>none
  | none=>none
 | .neg a,σ,η=>match evx F a σ η with
  | some (.int i,σ₁)=>some (.int (-i),σ₁)
  | _=>none
 | .not a,σ,η=>match evx F a σ η with
  | some (x,σ₁)=>(aY x).map fun b=>(.bool (!b),σ₁)
  | none=>none
 | .cmp op a b,σ,η=>match evx F a σ η with
  | some (x,σ₁)=>match evx F b σ₁ η with
   | some (y,σ₂)=>(dF op σ₂ x y).map fun k=>(.bool k,σ₂)
   | none=>none
  | none=>none
 | .chain cI cq a b c,σ,η=>match evx F a σ η with
  | some (x,σ₁)=>match evx F b σ₁ η with
   | some (y,σ₂)=>match dF cI σ₂ x y with
    | some false=>some (.bool false,σ₂)
    | some true=>match evx F c σ₂ η with
     | some (z,aj)=>(dF cq aj y z).map fun k=>(.bool k,aj)
     | none=>none
    | none=>none
   | none=>none
  | none=>none
 | .and a b,σ,η=>match evx F a σ η with
  | some (x,σ₁)=>match aY x with
   | some true=>evx F b σ₁ η
   | some false=>some (x,σ₁)
   | none=>none
  | none=>none
 | .or a b,σ,η=>match evx F a σ η with
  | some (x,σ₁)=>match aY x with
   | some false=>evx F b σ₁ η
   | some true=>some (x,σ₁)
   | none=>none
  | none=>none
 | .ite c a b,σ,η=>match evx F c σ η with
  | some (x,σ₁)=>match aY x with
   | some true=>evx F a σ₁ η
   | some false=>evx F b σ₁ η
   | none=>none
  | none=>none
 | .idx a i,σ,η=>match evx F a σ η with
  | some (x,σ₁)=>match evx F i σ₁ η with
   | some (y,σ₂)=>(ez σ₂ x y).map fun v=>(v,σ₂)
   | none=>none
  | none=>none
 | .slc a lo hi st,σ,η=>match evx F a σ η with
  | some (x,σ₁)=>match evx F lo σ₁ η with
   | some (l,σ₂)=>match evx F hi σ₂ η with
    | some (h,aj)=>match evx F st aj η with
     | some (s,σ₄)=>(mQ σ₄ x l h s).map fun v=>(v,σ₄)
     | none=>none
    | none=>none
   | none=>none
  | none=>none
 | .comp vars tg elt it cond,σ,η=>match evx F it σ η with
  | some (x,σ₁)=>match a6 x with
   | some st=>match fR tg (fun σ η=>match cond with
     | .nil=>some (true,σ)
     | c=>match evx F cond σ η with
      | some (y,σ')=>(aY y).map fun b=>(b,σ')
      | none=>none) (fun σ η=>evx F elt σ η) (st.fuel σ₁) st σ₁ (clr η vars) with
    | some (out,σ₂)=>if out.length<=lim then some (.lst out,σ₂) else none
    | none=>none
   | none=>none
  | none=>none
 | .bf f args,σ,η=>match evs F args σ η with
  | some (vs,σ₁)=>(bfF f σ₁ vs).map fun v=>(v,σ₁)
  | none=>none
 | .range args,σ,η=>match evs F args σ η with
  | some (vs,σ₁)=>(uI vs).map fun v=>(v,σ₁)
  | none=>none
 | .list args,σ,η=>match evs F args σ η with
  | some (vs,σ₁)=>(c71 vs).map fun v=>(v,σ₁)
  | none=>none
 | .me f o args,σ,η=>match evx F o σ η with
  | some (x,σ₁)=>if j2 σ₁ x=some f.T then match evs F args σ₁ η with
   | some (vs,σ₂)=>(meF f σ₂ x vs).map fun v=>(v,σ₂)
   | none=>none
   else none
  | none=>none
 | .rep o y z,σ,η=>match evx F o σ η with
  | some (.str x,σ₁)=>(meF .replace σ₁ (.str x) [.str y,.str z]).map fun v=>(v,σ₁)
  | _=>none
 | .split o y,σ,η=>match evx F o σ η with
  | some (.str x,σ₁)=>match evx F y σ₁ η with
   | some (.str y,σ₂)=>if y≠[]/\(Txt.split (S' x) (S' y)).length<=lim/\(Txt.split (S' x) (S' y)).all (fun z=>decide (z.cps.toList.length<=lim))=true then
     some (.ref σ₂.length,σ₂++[⟨(Txt.split (S' x) (S' y)).map fun z=>.str z.cps.toList,none⟩]) else none
   | _=>none
  | _=>none
 | .append o x,σ,η=>match evx F o σ η with
  | some (.ref k,σ₁)=>match σ₁[k]? with
   | some ⟨_,none⟩=>match evx F x σ₁ η with
    | some (v,σ₂)=>match σ₂[k]? with
     | some ⟨l,none⟩=>if l.length < lim then some (.none,σ₂.set k ⟨l++[v],none⟩) else none
     | _=>none
    | none=>none
   | _=>none
  | _=>none
 | .pop o,σ,η=>match evx F o σ η with
  | some (.ref k,σ₁)=>match σ₁[k]? with
   | some ⟨l,none⟩=>match l.getLast? with
    | some v=>some (v,σ₁.set k ⟨l.dropLast,none⟩)
    | none=>none
   | _=>none
  | _=>none
 | .call f args,σ,η=>match evs F args σ η with
  | some (vs,σ₁)=>F f vs σ₁
  | none=>none
 | .meth f o args,σ,η=>match evx F o σ η with
  | some (.ref k,σ₁)=>match σ₁[k]? with
   | some ⟨_,some _⟩=>match evs F args σ₁ η with
    | some (vs,σ₂)=>F f (.ref k::vs) σ₂
    | none=>none
   | _=>none
  | _=>none
/-- a list of parts -/
noncomputable def evs(F:Fn):Ex->List AO->ac->Option (List V × List AO)
 | .nil,σ,_=>some ([],σ)
 | .cons e es,σ,η=>match evx F e σ η with
  | some (v,σ₁)=>match evs F es σ₁ η with
   | some (vs,σ₂)=>some (v::vs,σ₂)
   | none=>none
  | none=>none
 | _,_,_=>none
end
set_option genInjectivity false in
set_option genSizeOf false in
inductive Sx where
 | skip | seq (a b:Sx)
 | asg (i:Nat) (e:Ex) | asgM (i:Nat) (e:Ex) | asgT (is:List Nat) (e:Ex) | asg2 (i j:Nat) (e:Ex)
 | aug (i:Nat) (op:Operator) (e:Ex) | augL (i:Nat) (e:Ex)
 | expr (e:Ex) | ret (e:Ex) | ite (c:Ex) (a b:Sx)
 | whil (fuel:Nat) (c:Ex) (b:Sx) | for_ (tg it:Ex) (b:Sx)
 | brk | pass | dead | asrt (c:Ex) | del (o:Ex) (i:Int)
noncomputable abbrev Out:=Option (Fl × List AO × ac)
noncomputable def whN(c:List AO->ac->Option (Bool × List AO))(b:List AO->ac->Out):Nat->List AO->ac->Out
 | 0,_,_=>none
 | n + 1,σ,η=>match c σ η with
  | some (false,σ₁)=>some (.next,σ₁,η)
  | some (true,σ₁)=>match b σ₁ η with
   | some (.next,σ₂,η₂)=>whN c b n σ₂ η₂
   | some (.brk,σ₂,η₂)=>some (.next,σ₂,η₂)
   | r=>r
  | none=>none
noncomputable def foN(tg:Ex)(b:List AO->ac->Out):Nat->ItS->List AO->ac->Out
 | 0,_,_,_=>none
 | n + 1,st,σ,η=>match st.step σ with
  | none=>none
  | some none=>some (.next,σ,η)
  | some (some (x,st'))=>match asF tg x η with
   | none=>none
   | some η₁=>match b σ η₁ with
    | some (.next,σ₂,η₂)=>foN tg b n st' σ₂ η₂
    | some (.brk,σ₂,η₂)=>some (.next,σ₂,η₂)
    | r=>r
noncomputable def evt(F:Fn)(c:Ex)(σ:List AO)(η:ac):Option (Bool × List AO) :=
 match evx F c σ η with
 | some (x,σ₁)=>(aY x).map fun b=>(b,σ₁)
 | none=>none
noncomputable def exs(F:Fn):Sx->List AO->ac->Out
 | .skip,σ,η=>some (.next,σ,η)
 | .seq a b,σ,η=>match exs F a σ η with
  | some (.next,σ₁,η₁)=>exs F b σ₁ η₁
  | r=>r
 | .asg i e,σ,η=>match evx F e σ η with
  | some (v,σ₁)=>some (.next,σ₁,η.set i (some v))
  | none=>none
 | .asgM i e,σ,η=>match evx F e σ η with
  | some (.lst vs,σ₁)=>some (.next,σ₁++[⟨vs,none⟩],η.set i (some (.ref σ₁.length)))
  | _=>none
 | .asgT is e,σ,η=>match evx F e σ η with
  | some (.tup vs,σ₁)=>if vs.length=is.length then some (.next,σ₁,yC η is vs) else none
  | _=>none
 | .asg2 i j e,σ,η=>match evx F e σ η with
  | some (.tup [u,v],σ₁)=>some (.next,σ₁,(η.set j (some v)).set i (some u))
  | _=>none
 | .aug i op e,σ,η=>match η[i]? with
  | some (some u)=>match evx F e σ η with
   | some (v,σ₁)=>(eL1 op u v).map fun w=>(.next,σ₁,η.set i (some w))
   | none=>none
  | _=>none
 | .augL i e,σ,η=>match η[i]? with
  | some (some (.ref k))=>match evx F e σ η with
   | some (v,σ₁)=>match σ₁[k]?,der σ₁ v with
    | some ⟨l,none⟩,.lst pD=>if l.length + pD.length<=lim then some (.next,σ₁.set k ⟨l++pD,none⟩,η.set i (some (.ref k))) else none
    | _,_=>none
   | none=>none
  | _=>none
 | .expr e,σ,η=>match evx F e σ η with
  | some (v,σ₁)=>some (.next,σ₁,η)
  | none=>none
 | .ret e,σ,η=>match evx F e σ η with
  | some (v,σ₁)=>some (.ret v,σ₁,η)
  | none=>none
 | .ite c a b,σ,η=>match evt F c σ η with
  | some (true,σ₁)=>exs F a σ₁ η
  | some (false,σ₁)=>exs F b σ₁ η
  | none=>none
 | .whil n c b,σ,η=>whN (fun σ η=>evt F c σ η) (fun σ η=>exs F b σ η) n σ η
 | .for_ tg it b,σ,η=>match evx F it σ η with
  | some (x,σ₁)=>match a6 x with
   | some st=>foN tg (fun σ η=>exs F b σ η) (st.fuel σ₁) st σ₁ η
   | none=>none
  | none=>none
 | .brk,σ,η=>some (.brk,σ,η)
 | .pass,σ,η=>some (.next,σ,η)
 | .dead,_,_=>none
 | .asrt c,σ,η=>match evt F c σ η with
  | some (true,σ₁)=>some (.next,σ₁,η)
  | _=>none
 | .del o i,σ,η=>match evx F o σ η with
  | some (.ref k,σ₁)=>match σ₁[k]? with
   | some ⟨l,none⟩=>if -1000000000<=i/\i<=1000000000 then match seqIndex? i l.length with
    | some j=>some (.next,σ₁.set k ⟨l.eraseIdx j,none⟩,η)
    | none=>none
    else none
   | _=>none
  | _=>none
structure FnX where
 nvars:Nat
 body:Sx
set_option genInjectivity false in
set_option genSizeOf false in
structure Tab where
 name:Nat->Option Str
 meth:Nat->Option Str
 gs:Str->Option (List Nat)
noncomputable def l7(v:V)(e:Expr):Bool:=(un e).tag == 14 && match v with
 | .none=>decide ((un e).v=.none)
 | .bool b=>decide ((un e).v=.bool b)
 | .int i=>decide ((un e).v=.int i)
 | .str l=>decide ((un e).v=.str ⟨l.toArray⟩) && decide (l.length<=lim)
 | _=>false
noncomputable def hY(C:Cx)(x y:Str):Bool:=x == y && cD (C.kind x) .globalImplicit && !(x == ("__debug__":Str))
noncomputable def sP(x:Ex):Bool:=x.ctorIdx == 3
noncomputable def eE1(x:Ex)(f:Expr->Bool):Option Expr->Bool
 | none=>sP x
 | some e=>!sP x && f e
noncomputable def d6(C:Cx)(x:Str)(i:Nat):Bool:=C.vars.any fun y=>y.name == x && y.slot == i
noncomputable def gb(C:Cx)(x:Str)(i:Nat):Bool:=C.vars.any fun y=>y.name == x && y.slot == i && y.own
noncomputable def mtI(C:Cx):List Nat->List Expr->Bool
 | [],xs=>xs.isEmpty
 | i::is,xs=>match xs with
  | e::xs=>(un e).tag == 1 && gb C (un e).s i && mtI C is xs
  | []=>false
noncomputable def mtg(C:Cx):Ex->Expr->Bool
 | .loc i,e=>(un e).tag == 1 && gb C (un e).s i
 | .tup es,e=>(un e).tag == 2 && oB (i7 es) fun is=>mtI C is (un e).l
 | _,_=>false
noncomputable def dT1(c:Ex)(f:Expr->Bool):List Expr->Bool
 | []=>sP c
 | e::l=>!sP c && f e && l.isEmpty
noncomputable def mA(q:Nd)(n:Str)(a:Nd):Bool:=q.tag == 12 && a.tag == 13 && a.s == n && cJ a.a && aI q.l && decide (q.l.length < 29) && a.p.endLine == q.p.line && q.ks.isEmpty
noncomputable def th(C:Cx)(q:Nd)(n:Str)(a:Nd):Bool:=q.tag == 12 && a.tag == 1 && a.s == n && hY C a.s a.s && aI q.l && q.ks.isEmpty
noncomputable def uZ(nm:Option Str)(q a:Nd):Bool:=match nm with | some n=>mA q n a | none=>false
noncomputable def uT(C:Cx)(nm:Option Str)(q a:Nd):Bool:=match nm with | some n=>th C q n a | none=>false
mutual
noncomputable def mt(T:Tab):Ex->Cx->Expr->Bool
 | .cst v,_,e=>l7 v e
 | .glo l,C,e=>(un e).tag == 1 && T.gs (un e).s == some l && hY C (un e).s (un e).s
 | .loc i,C,e=>(un e).tag == 1 && d6 C (un e).s i
 | .tup es,C,e=>(un e).tag == 2 && mts T es C (un e).l
 | .lst es,C,e=>(un e).tag == 3 && mts T es C (un e).l
 | .new es,C,e=>(un e).tag == 3 && mts T es C (un e).l
 | .bin op a b,C,e=>(un e).tag == 4 && decide (op=(un e).o) && mt T a C (un e).a && mt T b C (un e).b
 | .neg a,C,e=>(un e).tag == 5 && decide ((un e).u=.USub) && mt T a C (un e).a
 | .not a,C,e=>(un e).tag == 5 && decide ((un e).u=.Not) && mt T a C (un e).a
 | .cmp op a b,C,e=>(un e).tag == 6 && oB (lP (un e).l) fun r=>decide ((un e).cs=[op]) && mt T a C (un e).a && mt T b C r && !behindInMarks op r
 | .chain cI cq a b c,C,e=>(un e).tag == 6 && oB (yA (un e).l) fun r=>decide ((un e).cs=[cI,cq]) && mt T a C (un e).a && mt T b C r.1 && mt T c C r.2 && !lastMarks [cI,cq] [r.1,r.2]
 | .and a b,C,e=>(un e).tag == 7 && oB (yA (un e).l) fun r=>decide ((un e).bo=.And) && mt T a C r.1 && mt T b C r.2
 | .or a b,C,e=>(un e).tag == 7 && oB (yA (un e).l) fun r=>decide ((un e).bo=.Or) && mt T a C r.1 && mt T b C r.2
 | .ite c a b,C,e=>(un e).tag == 8 && mt T c C (un e).a && mt T a C (un e).b && mt T b C (un e).c
 | .idx a i,C,e=>(un e).tag == 9 && mt T a C (un e).a && mt T i C (un e).b
 | .slc a lo hi st,C,e=>(un e).tag == 9 && (un (un e).b).tag == 10 && mt T a C (un e).a && eE1 lo (fun e=>mt T lo C e) (un (un e).b).oa && eE1 hi (fun e=>mt T hi C e) (un (un e).b).ob && eE1 st (fun e=>mt T st C e) (un (un e).b).oc
 | .comp vars tg elt it cond,C,e=>(un e).tag == 11 && oB (lP (un e).g) fun g=>decide (g.is_async=0) && v4 C vars (un e).sc && mtg ⟨vars,aD (un e).sc C⟩ tg g.target && mt T elt ⟨vars,aD (un e).sc C⟩ (un e).a && mt T it C g.iter && hV g.iter &&
   dT1 cond (fun x=>mt T cond ⟨vars,aD (un e).sc C⟩ x) g.ifs
 | .bf f args,C,e=>th C (un e) (Str.ofString f.id) (un (un e).a) && mts T args C (un e).l
 | .range args,C,e=>th C (un e) "range" (un (un e).a) && mts T args C (un e).l
 | .list args,C,e=>th C (un e) "list" (un (un e).a) && mts T args C (un e).l
 | .me f o args,C,e=>mA (un e) (Str.ofString f.name) (un (un e).a) && decide (f≠.replace) && mt T o C (un (un e).a).a && mts T args C (un e).l
 | .rep o y z,C,e=>mA (un e) "replace" (un (un e).a) && mt T o C (un (un e).a).a && oB (yA (un e).l) fun r=>l7 (.str y) r.1 && l7 (.str z) r.2
 | .split o y,C,e=>mA (un e) "split" (un (un e).a) && mt T o C (un (un e).a).a && oB (lP (un e).l) fun r=>mt T y C r
 | .append o y,C,e=>mA (un e) "append" (un (un e).a) && mt T o C (un (un e).a).a && oB (lP (un e).l) fun r=>mt T y C r
 | .pop o,C,e=>mA (un e) "pop" (un (un e).a) && mt T o C (un (un e).a).a && (un e).l.isEmpty
 | .call f args,C,e=>uT C (T.name f) (un e) (un (un e).a) && mts T args C (un e).l
 | .meth f o args,C,e=>uZ (T.meth f) (un e) (un (un e).a) && mt T o C (un (un e).a).a && mts T args C (un e).l
 | .nil,_,_=>false
 | .cons _ _,_,_=>false
noncomputable def mts(T:Tab):Ex->Cx->List Expr->Bool
 | .nil,_,l=>l.isEmpty
 | .cons e es,C,l=>match l with
  | x::xs=>mt T e C x && gJ x && mts T es C xs
  | []=>false
 | .cst _,_,_=>false
 | .glo _,_,_=>false
 | .loc _,_,_=>false
 | .tup _,_,_=>false
 | .lst _,_,_=>false
 | .new _,_,_=>false
 | .bin _ _ _,_,_=>false
 | .neg _,_,_=>false
 | .not _,_,_=>false
 | .cmp _ _ _,_,_=>false
 | .chain _ _ _ _ _,_,_=>false
 | .and _ _,_,_=>false
 | .or _ _,_,_=>false
 | .ite _ _ _,_,_=>false
 | .idx _ _,_,_=>false
 | .slc _ _ _ _,_,_=>false
 | .comp _ _ _ _ _,_,_=>false
 | .bf _ _,_,_=>false
 | .range _,_,_=>false
 | .list _,_,_=>false
 | .me _ _ _,_,_=>false
 | .rep _ _ _,_,_=>false
 | .split _ _,_,_=>false
 | .append _ _,_,_=>false
 | .pop _,_,_=>false
 | .call _ _,_,_=>false
 | .meth _ _ _,_,_=>false
end
structure Ok (G:Wd) (A:Around) (T:Tab) (F:Fn):Prop where
 hh:A.handled=none
 hu:A.units + 10 < cLine
 bf:∀ f:Bf,Gl G (Str.ofString f.id) (.builtin f.id)
 rng:Gl G "range" (.type "range")
 lst:Gl G "list" (.type "list")
 gs:∀ x l,T.gs x=some l->l.length<=lim/\∃ t,Gl G x (.str ⟨l.toArray⟩ t)
 call:∀ f x,T.name f=some x->∀ {C env W η σ σ₁ σ₂ p pos} {args:List Expr} {vs:List V} {v:V},C.kind x=some .globalImplicit->(x == ("__debug__":Str))=false->aI args=true ->
  Evs G A C env W args σ η vs σ₁->F f vs σ₁=some (v,σ₂)->Ev G A C env W (.Call (.Name x p) args [] pos) σ η v σ₂
 meth:∀ f n,T.meth f=some n->∀ {C env W η σ σ₁ σ₂ aj p pos} {o:Expr} {args:List Expr} {vs:List V} {v:V} {k l i},cJ o=true->aI args=true->args.length < 29->(p.endLine == pos.line)=true ->
  Ev G A C env W o σ η (.ref k) σ₁->σ₁[k]?=some ⟨l,some i⟩->Evs G A C env W args σ₁ η vs σ₂->F f (.ref k::vs) σ₂=some (v,aj)->Ev G A C env W (.Call (.Attribute o n p) args [] pos) σ η v aj
section
variable {G:Wd} {A:Around} {C C':Cx} {env cenv:Env} {W W':List Addr} {η η' η₁ η₂ bw:ac} {σ σ' σ₁ σ₂ aj:List AO} {T:Tab} {F:Fn}
noncomputable def SE(G:Wd)(A:Around)(T:Tab)(F:Fn)(x:Ex):Prop:=∀ C e,mt T x C e=true->∀ env W σ η v σ',evx F x σ η=some (v,σ')->Ev G A C env W e σ η v σ'
noncomputable def SS(G:Wd)(A:Around)(T:Tab)(F:Fn)(x:Ex):Prop:=∀ C l,mts T x C l=true->∀ env W σ η vs σ',evs F x σ η=some (vs,σ')->Evs G A C env W l σ η vs σ'
noncomputable def ST(G:Wd)(A:Around)(T:Tab)(F:Fn)(x:Ex):Prop:=∀ C e,mt T x C e=true->∀ env W σ η b σ',evt F x σ η=some (b,σ')->Et G A C env W e σ η b σ'
theorem Ev.of_eq{e e':Expr}{v:V}(h:e=e')(x:Ev G A C env W e' σ η v σ'):Ev G A C env W e σ η v σ':=by exact (h) ▸ (x)
theorem Et.of_eq{e e':Expr}{b:Bool}(h:e=e')(x:Et G A C env W e' σ η b σ'):Et G A C env W e σ η b σ':=by exact (h) ▸ (x)
section
variable {α β γ:Type} {P:Prop}
theorem eI{o:Option (V × List AO)}{k:V->List AO->Option β}{r:β}(h:(match o with | some (x,σ)=>k x σ | none=>none)=some r)(q:∀ x σ,o=some (x,σ)->k x σ=some r->P):P:=by
 cases o with
 | none=>exact nso h
 | some a=>exact q a.1 a.2 rfl h
theorem uV{o:Option (List V × List AO)}{k:List V->List AO->Option β}{r:β}(h:(match o with | some (x,σ)=>k x σ | none=>none)=some r)(q:∀ x σ,o=some (x,σ)->k x σ=some r->P):P:=by
 cases o with
 | none=>exact nso h
 | some a=>exact q a.1 a.2 rfl h
theorem zP{a c:α}{b d:γ}(h:some (a,b)=some (c,d)):a=c/\b=d:=Prod.mk.inj (siX h)
theorem mS{Q:α->γ->Prop}{a c:α}{b d:γ}(h:some (a,b)=some (c,d))(q:Q a b):Q c d:=(zP h).1 ▸ (zP h).2 ▸ q
theorem fV1{o:Option α}{f:α->β}{σ:γ}{r:β × γ}(h:(o.map fun v=>(f v,σ))=some r):∃ v,o=some v/\(f v,σ)=r:=Option.map_eq_some_iff.mp h
theorem tJ{Q:β->γ->Prop}{o:Option α}{f:α->β}{σ σ':γ}{u:β}(h:(o.map fun v=>(f v,σ))=some (u,σ'))(q:∀ v,o=some v->Q (f v) σ):Q u σ':=by
 cases o with
 | none=>exact nso h
 | some a=>exact mS (Q:=Q) h (q a rfl)
theorem eQ1{o:Option Bool}{jp rm:Option β}{r:β}(h:(match o with | some true=>jp | some false=>rm | none=>none)=some r)(lM:o=some true->jp=some r->P)(mR:o=some false->rm=some r->P):P:=by
 cases o with
 | none=>exact nso h
 | some b =>
  cases b
  ·exact mR rfl h
  ·exact lM rfl h
theorem eP1{o:Option Bool}{jp rm:Option β}{r:β}(h:(match o with | some false=>jp | some true=>rm | none=>none)=some r)(lM:o=some false->jp=some r->P)(mR:o=some true->rm=some r->P):P:=by
 cases o with
 | none=>exact nso h
 | some b =>
  cases b
  ·exact lM rfl h
  ·exact mR rfl h
theorem g31{o:Option (Option V)}{k:V->Option β}{r:β}(h:(match o with | some (some v)=>k v | _=>none)=some r)(q:∀ v,o=some (some v)->k v=some r->P):P:=by
 cases o with
 | none=>exact nso h
 | some a=>cases a with
  | none=>exact nso h
  | some v=>exact q v rfl h
theorem kI1{o:Option (V × List AO)}{k:Int->List AO->Option β}{r:β}(h:(match o with | some (.int i,σ)=>k i σ | _=>none)=some r)(q:∀ i σ,o=some (.int i,σ)->k i σ=some r->P):P:=by
 cases o with
 | none=>exact nso h
 | some a=>obtain ⟨a,c⟩:=a;cases a <;> first | exact q _ _ rfl h | exact nso h
theorem fw1{o:Option (V × List AO)}{k:List Nat->List AO->Option β}{r:β}(h:(match o with | some (.str i,σ)=>k i σ | _=>none)=some r)(q:∀ i σ,o=some (.str i,σ)->k i σ=some r->P):P:=by
 cases o with
 | none=>exact nso h
 | some a=>obtain ⟨a,c⟩:=a;cases a <;> first | exact q _ _ rfl h | exact nso h
theorem ez1{o:Option (V × List AO)}{k:Nat->List AO->Option β}{r:β}(h:(match o with | some (.ref i,σ)=>k i σ | _=>none)=some r)(q:∀ i σ,o=some (.ref i,σ)->k i σ=some r->P):P:=by
 cases o with
 | none=>exact nso h
 | some a=>obtain ⟨a,c⟩:=a;cases a <;> first | exact q _ _ rfl h | exact nso h
theorem kD1{o:Option (V × List AO)}{k:List V->List AO->Option β}{r:β}(h:(match o with | some (.lst i,σ)=>k i σ | _=>none)=some r)(q:∀ i σ,o=some (.lst i,σ)->k i σ=some r->P):P:=by
 cases o with
 | none=>exact nso h
 | some a=>obtain ⟨a,c⟩:=a;cases a <;> first | exact q _ _ rfl h | exact nso h
theorem iN1{o:Option (V × List AO)}{k:List V->List AO->Option β}{r:β}(h:(match o with | some (.tup i,σ)=>k i σ | _=>none)=some r)(q:∀ i σ,o=some (.tup i,σ)->k i σ=some r->P):P:=by
 cases o with
 | none=>exact nso h
 | some a=>obtain ⟨a,c⟩:=a;cases a <;> first | exact q _ _ rfl h | exact nso h
theorem eS1{o:Option AO}{k:List V->Option β}{r:β}(h:(match o with | some ⟨l,none⟩=>k l | _=>none)=some r)(q:∀ l,o=some ⟨l,none⟩->k l=some r->P):P:=by
 cases o with
 | none=>exact nso h
 | some a=>obtain ⟨l,c⟩:=a;cases c <;> first | exact q _ rfl h | exact nso h
theorem kU1{o:Option AO}{k:List V->Int->Option β}{r:β}(h:(match o with | some ⟨l,some i⟩=>k l i | _=>none)=some r)(q:∀ l i,o=some ⟨l,some i⟩->k l i=some r->P):P:=by
 cases o with
 | none=>exact nso h
 | some a=>obtain ⟨l,c⟩:=a;cases c <;> first | exact q _ _ rfl h | exact nso h
end
theorem fe{x:Str}{i:Nat}(h:d6 C x i=true):∃ y∈C.vars,y.name=x/\y.slot=i:=by
 unfold d6 at h
 refine a7 (List.any_eq_true.mp h) fun y h_p=>?_;have hy:=h_p.1;have h:=h_p.2
 simp only [Bool.and_eq_true,beq_iff_eq] at h
 exact ⟨y,hy,h.1,h.2⟩
theorem bx{x:Str}{i:Nat}(h:gb C x i=true):∃ y∈C.vars,y.name=x/\y.slot=i/\y.own=true:=by
 unfold gb at h
 refine a7 (List.any_eq_true.mp h) fun y h_p=>?_;have hy:=h_p.1;have h:=h_p.2
 simp only [Bool.and_eq_true,beq_iff_eq] at h
 exact ⟨y,hy,h.1.1,h.1.2,h.2⟩
theorem pJ{o:Option NameKind}(h:cD o .globalImplicit=true):o=some .globalImplicit:=by
 revert h;cases o with
 | none=>intro h;exact ftr h
 | some k=>cases k <;> intro h <;> first | rfl | exact ftr h
theorem b6{x y:Str}(h:hY C x y=true):x=y/\C.kind x=some .globalImplicit/\(x == ("__debug__":Str))=false:=by
 unfold hY at h
 simp only [Bool.and_eq_true,beq_iff_eq] at h
 exact ⟨h.1.1,pJ h.1.2,by simpa using h.2⟩
section
variable {e:Expr}
theorem un1(h:((un e).tag == 1)=true):e=.Name (un e).s (un e).p:=qQ (k:=0) (beq_iff_eq.mp h)
theorem un2(h:((un e).tag == 2)=true):e=.Tuple (un e).l (un e).n (un e).p:=qQ (k:=1) (beq_iff_eq.mp h)
theorem un3(h:((un e).tag == 3)=true):e=.List (un e).l (un e).p:=qQ (k:=2) (beq_iff_eq.mp h)
theorem un4(h:((un e).tag == 4)=true):e=.BinOp (un e).a (un e).o (un e).b (un e).p:=qQ (k:=3) (beq_iff_eq.mp h)
theorem un5(h:((un e).tag == 5)=true){u:UnaryOp}(hu:(un e).u=u):e=.UnaryOp u (un e).a (un e).p:=hu ▸ qQ (k:=4) (beq_iff_eq.mp h)
theorem un6(h:((un e).tag == 6)=true){cs:List CmpOp}{l:List Expr}(hc:(un e).cs=cs)(hl:(un e).l=l):e=.Compare (un e).a cs l (un e).p:=hc ▸ hl ▸ qQ (k:=5) (beq_iff_eq.mp h)
theorem un7(h:((un e).tag == 7)=true){b:BoolOp}{l:List Expr}(hb:(un e).bo=b)(hl:(un e).l=l):e=.BoolOp b l (un e).p:=hb ▸ hl ▸ qQ (k:=6) (beq_iff_eq.mp h)
theorem un8(h:((un e).tag == 8)=true):e=.IfExp (un e).a (un e).b (un e).c (un e).p:=qQ (k:=7) (beq_iff_eq.mp h)
theorem un9(h:((un e).tag == 9)=true):e=.Subscript (un e).a (un e).b (un e).p:=qQ (k:=8) (beq_iff_eq.mp h)
theorem iJ1(h:((un e).tag == 10)=true):e=.Slice (un e).oa (un e).ob (un e).oc (un e).p:=qQ (k:=9) (beq_iff_eq.mp h)
theorem gV1(h:((un e).tag == 11)=true):e=.ListComp (un e).a (un e).g (un e).sc (un e).p:=qQ (k:=10) (beq_iff_eq.mp h)
theorem gU1(h:((un e).tag == 12)=true):e=.Call (un e).a (un e).l (un e).ks (un e).p:=qQ (k:=11) (beq_iff_eq.mp h)
theorem iI1(h:((un e).tag == 13)=true):e=.Attribute (un e).a (un e).s (un e).p:=qQ (k:=12) (beq_iff_eq.mp h)
theorem gT1(h:((un e).tag == 14)=true):e=.Constant (un e).v (un e).n (un e).p:=qQ (k:=13) (beq_iff_eq.mp h)
theorem iH1(h:((un e).tag == 4)=true){o:Operator}(ho:o=(un e).o):e=.BinOp (un e).a o (un e).b (un e).p:=ho ▸ un4 h
structure CallM (e:Expr) (n:Str):Prop where
 q:e=.Call (.Attribute (un (un e).a).a n (un (un e).a).p) (un e).l [] (un e).p
 s:cJ (un (un e).a).a=true
 n:aI (un e).l=true
 l:(un e).l.length < 29
 p:((un (un e).a).p.endLine == (un e).p.line)=true
theorem jM{n:Str}(h:mA (un e) n (un (un e).a)=true):CallM e n :=
 have h7:=ap h
 have h6:=ap h7.1
 have h5:=ap h6.1
 have h4:=ap h5.1
 have h3:=ap h4.1
 have h2:=ap h3.1
 have h1:=ap h2.1
 ⟨(mj h7.2 ▸ gU1 h1.1).trans (congrArg (fun z=>Expr.Call z (un e).l [] (un e).p) (beq_iff_eq.mp h2.2 ▸ iI1 h1.2)),h3.2,h4.2,of_decide_eq_true h5.2,h6.2⟩
structure CallN (C:Cx) (e:Expr) (n:Str):Prop where
 q:e=.Call (.Name n (un (un e).a).p) (un e).l [] (un e).p
 k:C.kind n=some .globalImplicit
 d:(n == ("__debug__":Str))=false
 n:aI (un e).l=true
theorem mz{n:Str}(h:th C (un e) n (un (un e).a)=true):CallN C e n :=
 have h5:=ap h
 have h4:=ap h5.1
 have h3:=ap h4.1
 have h2:=ap h3.1
 have h1:=ap h2.1
 have hn:=beq_iff_eq.mp h2.2
 have g:=b6 h3.2
 ⟨(mj h5.2 ▸ gU1 h1.1).trans (congrArg (fun z=>Expr.Call z (un e).l [] (un e).p) (hn ▸ un1 h1.2)),hn ▸ g.2.1,hn ▸ g.2.2,h4.2⟩
theorem xx{o:Option Str}(h:uZ o (un e) (un (un e).a)=true):∃ n,o=some n/\CallM e n:=by
 cases o with
 | none=>exact ftr h
 | some n=>exact ⟨n,rfl,jM h⟩
theorem xr{o:Option Str}(h:uT C o (un e) (un (un e).a)=true):∃ n,o=some n/\CallN C e n:=by
 cases o with
 | none=>exact ftr h
 | some n=>exact ⟨n,rfl,mz h⟩
end
theorem cg1{v:V}:SE G A T F (.cst v):=fun C e hm env W σ η u σ' he=>mS (Q:=Ev G A C env W e σ η) he <| Ev.of_eq (gT1 (ap hm).1) (by
 have hm:=(ap hm).2
 cases v with
 | none=>exact (of_decide_eq_true hm) ▸ (Ev.none_)
 | bool b=>exact (of_decide_eq_true hm) ▸ (Ev.bool_)
 | int i=>exact (of_decide_eq_true hm) ▸ (Ev.int_)
 | str l =>
  refine (of_decide_eq_true (ap hm).1) ▸ ?_
  exact Ev.str_ (x:=⟨l.toArray⟩) (of_decide_eq_true (ap hm).2)
 | _=>exact ftr hm)
theorem cf1(K:Ok G A T F){l:List Nat}:SE G A T F (.glo l):=fun C e hm env W σ η u σ' he =>
 have h2:=ap hm
 have h1:=ap h2.1
 have g:=b6 h2.2
 have q:=K.gs _ _ (beq_iff_eq.mp h1.2)
 mS (Q:=Ev G A C env W e σ η) he <| Ev.of_eq (un1 h1.1) fun ρ s R N ht=>q.2.elim fun t gl =>
  RE.global R N g.2.1 g.2.2 gl ⟨ρ,Step.refl R,RV.str' q.1 (by simp)⟩
theorem Ev.locN{x:Str}{p:Pos}{y:Var}{i:Nat}{v:V}(hy:y∈C.vars)(hn:y.name=x)(hi:y.slot=i)(hv:η[i]?=some (some v)):Ev G A C env W (.Name x p) σ η v σ:=by
 subst hn;subst hi;exact Ev.loc hy hv
theorem cc1{i:Nat}:SE G A T F (.loc i):=fun C e hm env W σ η u σ' he =>
 have h:=ap hm
 Ev.of_eq (un1 h.1) <| (fe h.2).elim fun y hy=>g31 he fun v hv he=>mS (Q:=Ev G A C env W (.Name (un e).s (un e).p) σ η) he <| Ev.locN hy.1 hy.2.1 hy.2.2 hv
theorem b51{es:Ex}(h:SS G A T F es):SE G A T F (.tup es):=fun C e hm env W σ η u σ' he =>
 uV he fun vs σ₁ e1 he=>mS (Q:=Ev G A C env W e σ η) (bq he).2 <| Ev.of_eq (un2 (ap hm).1) (Ev.tup (h _ _ (ap hm).2 _ _ _ _ _ _ e1) (bq he).1)
theorem cb1{es:Ex}(h:SS G A T F es):SE G A T F (.lst es):=fun C e hm env W σ η u σ' he =>
 uV he fun vs σ₁ e1 he=>mS (Q:=Ev G A C env W e σ η) (bq he).2 <| Ev.of_eq (un3 (ap hm).1) (Ev.lst (h _ _ (ap hm).2 _ _ _ _ _ _ e1) (bq he).1)
theorem ca1{es:Ex}(h:SS G A T F es):SE G A T F (.new es):=fun C e hm env W σ η u σ' he =>
 uV he fun vs σ₁ e1 he=>mS (Q:=Ev G A C env W e σ η) (bq he).2 <| Ev.of_eq (un3 (ap hm).1) (Ev.new (h _ _ (ap hm).2 _ _ _ _ _ _ e1) (bq he).1)
theorem ci1{op:Operator}{a b:Ex}(ha:SE G A T F a)(hb:SE G A T F b):SE G A T F (.bin op a b):=fun C e hm env W σ η u σ' he =>
 have h1:=ap hm
 have h2:=ap h1.1
 have h3:=ap h2.1
 Ev.of_eq (iH1 h3.1 (of_decide_eq_true h3.2)) <| eI he fun x σ₁ e1 he=>eI he fun y σ₂ e2 he=>tJ (Q:=Ev G A C env W _ σ η) he fun v e3=>Ev.bin (ha _ _ h2.2 _ _ _ _ _ _ e1) (hb _ _ h1.2 _ _ _ _ _ _ e2) (tj e3)
theorem yF{a:Ex}(ha:SE G A T F a):SE G A T F (.neg a):=fun C e hm env W σ η u σ' he =>
 have h:=ap hm
 have h0:=ap h.1
 Ev.of_eq (un5 h0.1 (of_decide_eq_true h0.2)) <| kI1 he fun i σ₁ e1 he=>mS (Q:=Ev G A C env W _ σ η) he <| Ev.neg (ha _ _ h.2 _ _ _ _ _ _ e1) sw
theorem b91{a:Ex}(ha:SE G A T F a):SE G A T F (.not a):=fun C e hm env W σ η u σ' he =>
 have h:=ap hm
 have h0:=ap h.1
 Ev.of_eq (un5 h0.1 (of_decide_eq_true h0.2)) <| eI he fun i σ₁ e1 he=>tJ (Q:=Ev G A C env W _ σ η) he fun v e3=>Ev.not_ (ha _ _ h.2 _ _ _ _ _ _ e1) e3
structure CmpL (e r:Expr) (T:Tab) (C:Cx) (op:CmpOp) (a b:Ex):Prop where
 q:e=.Compare (un e).a [op] [r] (un e).p
 a:mt T a C (un e).a=true
 b:mt T b C r=true
 n:behindInMarks op r=false
theorem dV1{e:Expr}{op:CmpOp}{a b:Ex}(hm:mt T (.cmp op a b) C e=true):∃ r,CmpL e r T C op a b :=
 have h:=ap hm
 (sv h.2).elim fun r hr =>
 have h3:=ap hr.2
 have h2:=ap h3.1
 have h1:=ap h2.1
 ⟨r,un6 h.1 (of_decide_eq_true h1.1) (nD hr.1),h1.2,h2.2,(Bool.not_eq_true' _).mp h3.2⟩
theorem ch1(K:Ok G A T F){op:CmpOp}{a b:Ex}(ha:SE G A T F a)(hb:SE G A T F b):SE G A T F (.cmp op a b):=fun C e hm env W σ η u σ' he =>
 (dV1 hm).elim fun r h=>Ev.of_eq h.q <| eI he fun x σ₁ e1 he=>eI he fun y σ₂ e2 he=>tJ (Q:=Ev G A C env W _ σ η) he fun v e3=>Ev.cmp h.n (ha _ _ h.a _ _ _ _ _ _ e1) (hb _ _ h.b _ _ _ _ _ _ e2) (bz K.hu e3)
structure ChL (e:Expr) (r:Expr × Expr) (T:Tab) (C:Cx) (cI cq:CmpOp) (a b c:Ex):Prop where
 q:e=.Compare (un e).a [cI,cq] [r.1,r.2] (un e).p
 a:mt T a C (un e).a=true
 b:mt T b C r.1=true
 c:mt T c C r.2=true
 n:lastMarks [cI,cq] [r.1,r.2]=false
theorem hH1{e:Expr}{cI cq:CmpOp}{a b c:Ex}(hm:mt T (.chain cI cq a b c) C e=true):∃ r,ChL e r T C cI cq a b c :=
 have h:=ap hm
 (sv h.2).elim fun r hr =>
 have h4:=ap hr.2
 have h3:=ap h4.1
 have h2:=ap h3.1
 have h1:=ap h2.1
 ⟨r,un6 h.1 (of_decide_eq_true h1.1) (t6 hr.1),h1.2,h2.2,h3.2,(Bool.not_eq_true' _).mp h4.2⟩
theorem xa(K:Ok G A T F){cI cq:CmpOp}{a b c:Ex}(ha:SE G A T F a)(hb:SE G A T F b)(hc:SE G A T F c):SE G A T F (.chain cI cq a b c):=fun C e hm env W σ η u σ' he =>
 (hH1 hm).elim fun r h=>Ev.of_eq h.q <| eI he fun x σ₁ e1 he=>eI he fun y σ₂ e2 he=>eP1 he
  (fun e3 he=>mS (Q:=Ev G A C env W _ σ η) he <| Ev.chain (v₃:=.none) (σ₄:=[]) h.n (ha _ _ h.a _ _ _ _ _ _ e1) (hb _ _ h.b _ _ _ _ _ _ e2) (bz K.hu e3) nofun nofun fun _=>⟨rfl,rfl⟩)
  (fun e3 he=>eI he fun z aj e4 he=>tJ (Q:=Ev G A C env W _ σ η) he fun v e5=>Ev.chain h.n (ha _ _ h.a _ _ _ _ _ _ e1) (hb _ _ h.b _ _ _ _ _ _ e2) (bz K.hu e3) (fun _=>hc _ _ h.c _ _ _ _ _ _ e4) (fun _=>bz K.hu e5) nofun)
structure BoL (e:Expr) (r:Expr × Expr) (T:Tab) (C:Cx) (o:BoolOp) (a b:Ex):Prop where
 q:e=.BoolOp o [r.1,r.2] (un e).p
 a:mt T a C r.1=true
 b:mt T b C r.2=true
theorem eO1{e:Expr}{o:BoolOp}{a b:Ex}(hm:((un e).tag == 7 && oB (yA (un e).l) fun r=>decide ((un e).bo=o) && mt T a C r.1 && mt T b C r.2)=true):∃ r,BoL e r T C o a b :=
 have h:=ap hm
 (sv h.2).elim fun r hr =>
 have h2:=ap hr.2
 have h1:=ap h2.1
 ⟨r,un7 h.1 (of_decide_eq_true h1.1) (t6 hr.1),h1.2,h2.2⟩
theorem cj1{a b:Ex}(ha:SE G A T F a)(hb:SE G A T F b):SE G A T F (.and a b):=fun C e hm env W σ η u σ' he =>
 (eO1 hm).elim fun r h=>Ev.of_eq h.q <| eI he fun x σ₁ e1 he=>eQ1 he
  (fun e2 he=>Ev.and_ (ha _ _ h.a _ _ _ _ _ _ e1) e2 (fun _=>hb _ _ h.b _ _ _ _ _ _ he) nofun)
  (fun e2 he=>mS (Q:=Ev G A C env W _ σ η) he <| Ev.and_ (ha _ _ h.a _ _ _ _ _ _ e1) e2 nofun fun _=>⟨rfl,rfl⟩)
theorem fy1{a b:Ex}(ha:SE G A T F a)(hb:SE G A T F b):SE G A T F (.or a b):=fun C e hm env W σ η u σ' he =>
 (eO1 hm).elim fun r h=>Ev.of_eq h.q <| eI he fun x σ₁ e1 he=>eP1 he
  (fun e2 he=>Ev.or_ (ha _ _ h.a _ _ _ _ _ _ e1) e2 (fun _=>hb _ _ h.b _ _ _ _ _ _ he) nofun)
  (fun e2 he=>mS (Q:=Ev G A C env W _ σ η) he <| Ev.or_ (ha _ _ h.a _ _ _ _ _ _ e1) e2 nofun fun _=>⟨rfl,rfl⟩)
theorem dU{c:Ex}{b:Bool}{v:V}(h:evx F c σ η=some (v,σ'))(ht:aY v=some b):evt F c σ η=some (b,σ'):=by
 unfold evt;rw [h];dsimp only;rw [ht];rfl
theorem cd1{c a b:Ex}(hc:ST G A T F c)(ha:SE G A T F a)(hb:SE G A T F b):SE G A T F (.ite c a b):=fun C e hm env W σ η u σ' he =>
 have h3:=ap hm
 have h2:=ap h3.1
 have h1:=ap h2.1
 Ev.of_eq (un8 h1.1) <| eI he fun x σ₁ e1 he=>eQ1 he
  (fun e2 he=>Ev.ifexp (hc _ _ h1.2 _ _ _ _ true σ₁ (dU e1 e2)) (fun _=>ha _ _ h2.2 _ _ _ _ _ _ he) nofun)
  (fun e2 he=>Ev.ifexp (hc _ _ h1.2 _ _ _ _ false σ₁ (dU e1 e2)) nofun (fun _=>hb _ _ h3.2 _ _ _ _ _ _ he))
theorem ce1{a b:Ex}(ha:SE G A T F a)(hb:SE G A T F b):SE G A T F (.idx a b):=fun C e hm env W σ η u σ' he =>
 have h2:=ap hm
 have h1:=ap h2.1
 Ev.of_eq (un9 h1.1) <| eI he fun x σ₁ e1 he=>eI he fun y σ₂ e2 he=>tJ (Q:=Ev G A C env W _ σ η) he fun v e3=>Ev.idx (ha _ _ h1.2 _ _ _ _ _ _ e1) (hb _ _ h2.2 _ _ _ _ _ _ e2) e3
theorem vn{x:Ex}(h:sP x=true):x=.nil:=by
 cases x <;> first | rfl | exact ftr h
theorem gI{x:Ex}(hx:SE G A T F x){o:Option Expr}{v:V}(h:eE1 x (fun e=>mt T x C e) o=true)(e:evx F x σ η=some (v,σ')):Ep G A C env W o σ η v σ':=by
 cases o with
 | none =>
  cases vn h
  exact .inl ⟨rfl,(zP e).1.symm,(zP e).2.symm⟩
 | some w=>exact .inr ⟨w,rfl,hx _ _ (ap h).2 _ _ _ _ _ _ e⟩
theorem b61{a lo hi st:Ex}(ha:SE G A T F a)(h1:SE G A T F lo)(h2:SE G A T F hi)(h3:SE G A T F st):SE G A T F (.slc a lo hi st):=fun C e hm env W σ η u σ' he =>
 have m4:=ap hm
 have m3:=ap m4.1
 have m2:=ap m3.1
 have m1:=ap m2.1
 have m0:=ap m1.1
 Ev.of_eq ((un9 m0.1).trans (congrArg (fun z=>Expr.Subscript (un e).a z (un e).p) (iJ1 m0.2))) <|
  eI he fun x σ₁ e1 he=>eI he fun y σ₂ e2 he=>eI he fun z aj e3 he=>eI he fun w σ₄ e4 he=>tJ (Q:=Ev G A C env W _ σ η) he fun v e5 =>
   Ev.slice (ha _ _ m1.2 _ _ _ _ _ _ e1) (gI h1 m2.2 e2) (gI h2 m3.2 e3) (gI h3 m4.2 e4) e5
theorem fA1(K:Ok G A T F){f:Bf}{a:Ex}(ha:SS G A T F a):SE G A T F (.bf f a):=fun C e hm env W σ η u σ' he =>
 have h:=mz (ap hm).1
 Ev.of_eq h.q <| uV he fun vs σ₁ e1 he=>tJ (Q:=Ev G A C env W _ σ η) he fun v e3=>Ev.callB h.k h.d (K.bf f) h.n (ha _ _ (ap hm).2 _ _ _ _ _ _ e1) (jO K.hh e3)
theorem w9(K:Ok G A T F){a:Ex}(ha:SS G A T F a):SE G A T F (.range a):=fun C e hm env W σ η u σ' he =>
 have h:=mz (ap hm).1
 Ev.of_eq h.q <| uV he fun vs σ₁ e1 he=>tJ (Q:=Ev G A C env W _ σ η) he fun v e3=>Ev.callT h.k h.d K.rng h.n (ha _ _ (ap hm).2 _ _ _ _ _ _ e1) (nv e3)
theorem zw(K:Ok G A T F){a:Ex}(ha:SS G A T F a):SE G A T F (.list a):=fun C e hm env W σ η u σ' he =>
 have h:=mz (ap hm).1
 Ev.of_eq h.q <| uV he fun vs σ₁ e1 he=>tJ (Q:=Ev G A C env W _ σ η) he fun v e3=>Ev.callT h.k h.d K.lst h.n (ha _ _ (ap hm).2 _ _ _ _ _ _ e1) (pG K.hh e3)
theorem Me.mt(f:Me)(hf:f≠.replace):Mt f.T (Str.ofString f.name) f.id:=by
 cases f with
 | join=>exact ag1
 | replace=>exact absurd rfl hf
 | split=>exact rh
 | startswith=>exact lV
 | endswith=>exact pr
 | find3=>exact ah1
 | index=>exact xv
 | lstripC=>exact uW
 | count=>exact xw
 | lindex=>exact uX
 | lcount=>exact ⟨F.plainAttrs_list,F.slot_list_count,F.type_list_count⟩
theorem fz1(K:Ok G A T F){f:Me}{o a:Ex}(ho:SE G A T F o)(ha:SS G A T F a):SE G A T F (.me f o a):=fun C e hm env W σ η u σ' he =>
 have h3:=ap hm
 have h2:=ap h3.1
 have h1:=ap h2.1
 have h:=jM h1.1
 have h0:=of_decide_eq_true h1.2
 Ev.of_eq h.q <| eI he fun x σ₁ e1 he=>uV (bq he).2 fun vs σ₂ e2 he'=>tJ (Q:=Ev G A C env W _ σ η) he' fun v e3 =>
  Ev.meth (Me.mt f h0) h.s h.n h.l h.p (ho _ _ h2.2 _ _ _ _ _ _ e1) (bq he).1 (ha _ _ h3.2 _ _ _ _ _ _ e2) (uY K.hh h0 e3)
theorem zy(K:Ok G A T F){f:Nat}{a:Ex}(ha:SS G A T F a):SE G A T F (.call f a):=fun C e hm env W σ η u σ' he =>
 (xr (ap hm).1).elim fun n h=>Ev.of_eq h.2.q <| uV he fun vs σ₁ e1 he=>K.call f _ h.1 h.2.k h.2.d h.2.n (ha _ _ (ap hm).2 _ _ _ _ _ _ e1) he
theorem zv(K:Ok G A T F){f:Nat}{o a:Ex}(ho:SE G A T F o)(ha:SS G A T F a):SE G A T F (.meth f o a):=fun C e hm env W σ η u σ' he =>
 have h2:=ap hm
 have h1:=ap h2.1
 (xx h1.1).elim fun n h=>Ev.of_eq h.2.q <| ez1 he fun k σ₁ e1 he=>kU1 he fun l i hσ he=>uV he fun vs σ₂ e2 he =>
  K.meth f _ h.1 h.2.s h.2.n h.2.l h.2.p (ho _ _ h1.2 _ _ _ _ _ _ e1) hσ (ha _ _ h2.2 _ _ _ _ _ _ e2) he
theorem kC{k:Nat}{l:List V}(h:σ[k]?=some ⟨l,none⟩):j2 σ (.ref k)=some "list":=by
 have:der σ (.ref k)=.lst l:=by unfold der;dsimp only;rw [h]
 unfold j2;rw [this]
theorem kM{a:Expr}(h:aI [a]=true):gJ a=true:=by
 dsimp only [aI] at h
 exact (Bool.and_eq_true_iff.mp h).1
theorem cU1{e:Expr}{n:Str}{o y:Ex}(hm:(mA (un e) n (un (un e).a) && mt T o C (un (un e).a).a && oB (lP (un e).l) fun r=>mt T y C r)=true) :
  ∃ r,(e=.Call (.Attribute (un (un e).a).a n (un (un e).a).p) [r] [] (un e).p/\aI [r]=true)/\CallM e n/\mt T o C (un (un e).a).a=true/\mt T y C r=true :=
 have h2:=ap hm
 have h1:=ap h2.1
 have h:=jM h1.1
 (sv h2.2).elim fun r hr=>⟨r,nD hr.1 ▸ ⟨h.q,h.n⟩,h,h1.2,hr.2⟩
theorem uy{o y:Ex}(ho:SE G A T F o)(hy:SE G A T F y):SE G A T F (.append o y):=fun C e hm env W σ η u σ' he =>
 (cU1 hm).elim fun r ⟨h,hc,h1,h2⟩=>Ev.of_eq h.1 <| ez1 he fun k σ₁ e1 he=>eS1 he fun l hσ he=>eI he fun v σ₂ e2 he=>eS1 he fun pD dl1 he =>
  mS (Q:=Ev G A C env W _ σ η) (bq he).2 <| Ev.meth nF hc.s h.2 (show 1 < 29 by decide) hc.p (ho _ _ h1 _ _ _ _ _ _ e1) (kC hσ) (Evs.cons (kM h.2) (hy _ _ h2 _ _ _ _ _ _ e2) Evs.nil) (oE dl1 (bq he).1)
theorem kt1{β:Type}{P:Prop}{o:Option V}{k:V->Option β}{r:β}(h:(match o with | some x=>k x | none=>none)=some r)(q:∀ x,o=some x->k x=some r->P):P:=by
 cases o with
 | none=>exact nso h
 | some a=>exact q a rfl h
theorem ak1{l:List V}{v:V}(h:l.getLast?=some v):l=l.dropLast++[v]:=by
 have hne:l≠[]:=by rintro rfl;exact nso h
 have:=List.dropLast_concat_getLast hne
 rw [List.getLast?_eq_some_getLast hne] at h
 obtain rfl:=siX h
 exact this.symm
theorem b81{o:Ex}(ho:SE G A T F o):SE G A T F (.pop o):=fun C e hm env W σ η u σ' he =>
 have h2:=ap hm
 have h1:=ap h2.1
 have h:=jM h1.1
 Ev.of_eq (mj h2.2 ▸ h.q) <| ez1 he fun k σ₁ e1 he=>eS1 he fun l hσ he=>kt1 he fun v hv he =>
  mS (Q:=Ev G A C env W _ σ η) he <| Ev.meth af1 h.s rfl (by decide) h.p (ho _ _ h1.2 _ _ _ _ _ _ e1) (kC hσ) Evs.nil (sD (l:=l.dropLast) (by exact (ak1 hv) ▸ (hσ)))
theorem w8{o y:Ex}(ho:SE G A T F o)(hy:SE G A T F y):SE G A T F (.split o y):=fun C e hm env W σ η u σ' he =>
 (cU1 hm).elim fun r ⟨h,hc,h1,h2⟩=>Ev.of_eq h.1 <| fw1 he fun x σ₁ e1 he=>fw1 he fun z σ₂ e2 he =>
  have hq:=(bq he).1
  mS (Q:=Ev G A C env W _ σ η) (bq he).2 <| Ev.meth rh hc.s h.2 (show 1 < 29 by decide) hc.p (ho _ _ h1 _ _ _ _ _ _ e1) rfl (Evs.cons (kM h.2) (hy _ _ h2 _ _ _ _ _ _ e2) Evs.nil)
   (o8 hq.1 hq.2.1 fun w hw=>of_decide_eq_true (List.all_eq_true.mp hq.2.2 w hw))
theorem bX1:SS G A T F .nil:=fun C l hm env W σ η u σ' he=>by
 cases mj hm
 exact mS (Q:=Evs G A C env W [] σ η) he Evs.nil
theorem zt{a b:Ex}(ha:SE G A T F a)(hb:SS G A T F b):SS G A T F (.cons a b):=fun C l hm env W σ η u σ' he=>by
 cases l with
 | nil=>exact ftr hm
 | cons x l =>
  have h2:=ap hm
  have h1:=ap h2.1
  exact eI he fun v σ₁ e1 he=>uV he fun vs σ₂ e2 he=>mS (Q:=Evs G A C env W _ σ η) he (Evs.cons h1.2 (ha _ _ h1.1 _ _ _ _ _ _ e1) (hb _ _ h2.2 _ _ _ _ _ _ e2))
end
section
variable {x:Str} {i:Nat} {G:Wd} {A:Around} {C C':Cx} {env cenv:Env} {W W':List Addr} {η η' η₁ η₂ bw:ac} {σ σ' σ₁ σ₂ aj:List AO} {T:Tab} {F:Fn}
theorem rf:∀ {is:List Nat} {xs:List Expr},mtI C is xs=true->∃ vars,Names C xs vars/\is=vars.map (·.slot):=by
 intro is
 induction is with
 | nil =>
  intro xs h
  cases mj h
  exact ⟨[],rfl,rfl⟩
 | cons i is ih =>
  intro xs h
  cases xs with
  | nil=>exact ftr h
  | cons e xs' =>
   have h2:=ap h
   have h1:=ap h2.1
   exact (bx h1.2).elim fun y hy=>(ih h2.2).elim fun vars hv =>
    ⟨y::vars,⟨y,vars,(un e).p,rfl,hy.2.1.symm ▸ un1 h1.1,hy.1,hy.2.2.2,hv.1⟩,(congr (congrArg List.cons hy.2.2.1.symm) hv.2)⟩
theorem lI:∀ (xs:List Var) (vs:List V) (η:ac),yC η (xs.map (·.slot)) vs=kI η xs vs
 | [],_,_=>rfl
 | _::_,[],_=>rfl
 | x::xs,v::vs,η=>by
  show yC (η.set x.slot (some v)) (xs.map (·.slot)) vs=kI (η.set x.slot (some v)) xs vs
  exact lI xs vs _
theorem As.nameN(hn:∃ y∈C.vars,y.name=x/\y.slot=i/\y.own=true){p:Pos}{v:V}:As G A C env W (.Name x p) v η (η.set i (some v)):=by
 obtain ⟨y,h_p⟩:=hn;have hy:=h_p.1;obtain rfl:=h_p.2.1;obtain rfl:=h_p.2.2.1;have ho:=h_p.2.2.2
 exact As.name hy ho
theorem a71{es:Ex}{is:List Nat}(hs:i7 es=some is){v:V}(h:asF (.tup es) v η=some η'):∃ vs,v=.tup vs/\vs.length=is.length/\η'=yC η is vs:=by
 cases v <;> first | (exact nso h;done) | skip
 rename_i vs
 replace h:(match i7 es with
   | some is=>if vs.length=is.length then some (yC η is vs) else none
   | none=>none)=some η':=h
 replace h:=(hs) ▸ h
 have h:=bq h
 exact ⟨vs,rfl,h.1,(siX h.2).symm⟩
theorem jR(hh:A.handled=none){tg:Ex}{t:Expr}(hm:mtg C tg t=true){v:V}(h:asF tg v η=some η')(env:Env)(W:List Addr):As G A C env W t v η η':=by
 cases tg <;> first | (exact ftr hm;done) | skip
 ·have hm:=ap hm
  rw [un1 hm.1]
  obtain rfl:=siX h
  exact As.nameN (bx hm.2)
 ·have hm:=ap hm
  refine aO (sv hm.2) fun is hs hm2=>?_
  obtain ⟨vs,rfl,hl,rfl⟩:=a71 hs h
  obtain ⟨vars,hn,rfl⟩:=rf hm2
  rw [lI,un2 hm.1]
  exact As.tup hh hn (by simpa using hl)
theorem g21{β:Type}{P:Prop}{o:Option (Option (V × ItS))}{jp:Option β}{k:V->ItS->Option β}{r:β}(h:(match o with | none=>none | some none=>jp | some (some (x,st))=>k x st)=some r)(lM:o=some none->jp=some r->P)(mR:∀ x st,o=some (some (x,st))->k x st=some r->P):P:=by
 cases o with
 | none=>exact nso h
 | some o=>cases o with
  | none=>exact lM rfl h
  | some a=>exact mR a.1 a.2 rfl h
theorem hh1{β:Type}{P:Prop}{o:Option ac}{k:ac->Option β}{r:β}(h:(match o with | none=>none | some x=>k x)=some r)(q:∀ x,o=some x->k x=some r->P):P:=by
 cases o with
 | none=>exact nso h
 | some a=>exact q a rfl h
theorem jh1{β:Type}{P:Prop}{o:Option (V × List AO)}{k:V->List AO->Option β}{r:β}(h:(match o with | none=>none | some (x,σ)=>k x σ)=some r)(q:∀ x σ,o=some (x,σ)->k x σ=some r->P):P:=by
 cases o with
 | none=>exact nso h
 | some a=>exact q a.1 a.2 rfl h
theorem ji1{β:Type}{P:Prop}{o:Option (List V × List AO)}{k:List V->List AO->Option β}{r:β}(h:(match o with | none=>none | some (x,σ)=>k x σ)=some r)(q:∀ x σ,o=some (x,σ)->k x σ=some r->P):P:=by
 cases o with
 | none=>exact nso h
 | some a=>exact q a.1 a.2 rfl h
theorem jl1{β:Type}{P:Prop}{o:Option (Bool × List AO)}{jp rm:List AO->Option β}{r:β}(h:(match o with | none=>none | some (false,σ)=>jp σ | some (true,σ)=>rm σ)=some r)(lM:∀ σ,o=some (false,σ)->jp σ=some r->P)(mR:∀ σ,o=some (true,σ)->rm σ=some r->P):P:=by
 cases o with
 | none=>exact nso h
 | some a =>
  obtain ⟨b,c⟩:=a
  cases b
  ·exact lM c rfl h
  ·exact mR c rfl h
theorem qc{tg:Ex}{t el:Expr}{ifs:List Expr}{cond:List AO->ac->Option (Bool × List AO)}{ee:List AO->ac->Option (V × List AO)}(hh:A.handled=none)(hm:mtg C tg t=true)
  (hc:∀ env W σ η b σ',cond σ η=some (b,σ')->Tc G A C env W ifs σ η b σ') (he:∀ env W σ η v σ',ee σ η=some (v,σ')->Ev G A C env W el σ η v σ') :
  ∀ (n:Nat) (st:ItS) (σ:List AO) (η:ac) (out:List V) (σ':List AO),fR tg cond ee n st σ η=some (out,σ')->∃ m,∀ env W,CoR G A C env W t el ifs m st σ η out σ':=by
 intro n
 induction n with
 | zero=>intro _ _ _ _ _ h;exact nso h
 | succ n ih =>
  intro st σ η out σ' h
  exact g21 h (fun hst h=>⟨0,fun _ _=>mS (Q:=CoR G A C _ _ t el ifs 0 st σ η) h (.stop hst)⟩) fun x st' hst h=>hh1 h fun η₁ ha h=>jl1 h
   (fun σ₁ e1 h=>(ih _ _ _ _ _ h).elim fun m hr=>⟨m + 1,fun env W=>.skip hst (jR hh hm ha env W) (hc env W _ _ _ _ e1) (hr env W)⟩)
   fun σ₁ e1 h=>jh1 h fun v σ₂ e2 h=>ji1 h fun out' aj e3 h=>(ih _ _ _ _ _ e3).elim fun m hr =>
    ⟨m + 1,fun env W=>mS (Q:=CoR G A C _ _ t el ifs (m + 1) st σ η) h (.item hst (jR hh hm ha env W) (hc env W _ _ _ _ e1) (he env W _ _ _ _ e2) (hr env W))⟩
noncomputable def aQ1(F:Fn)(cond:Ex)(σ:List AO)(η:ac):Option (Bool × List AO) :=
 match cond with
 | .nil=>some (true,σ)
 | c=>match evx F cond σ η with
  | some (y,σ')=>(aY y).map fun b=>(b,σ')
  | none=>none
theorem yd{cond:Ex}(h:sP cond=false):aQ1 F cond σ η=evt F cond σ η:=by
 cases cond <;> first | rfl | exact trf h
theorem qa{cond:Ex}(hc:ST G A T F cond){ifs:List Expr}(hm:dT1 cond (fun e=>mt T cond C e) ifs=true){b:Bool}(h:aQ1 F cond σ η=some (b,σ')):Tc G A C env W ifs σ η b σ':=by
 cases ifs with
 | nil =>
  cases vn hm
  exact .inl ⟨rfl,(zP h).1.symm,(zP h).2.symm⟩
 | cons e l =>
  have h2:=ap hm
  have h1:=ap h2.1
  refine (mj h2.2) ▸ ?_
  exact .inr ⟨e,rfl,hc _ _ h1.2 _ _ _ _ _ _ ((yd ((Bool.not_eq_true' _).mp h1.1)).symm.trans h)⟩
structure CompR (G:Wd) (A:Around) (C:Cx) (env:Env) (W:List Addr) (el t i:Expr) (ifs:List Expr) (scope:Scope) (vars:List Var) (σ:List AO) (η:ac) (out:List V) (σ':List AO):Prop where
 ex:∃ n v st σ₁,CompOk C vars scope/\hV i=true/\Ev G A C env W i σ η v σ₁/\a6 v=some st/\(∀ cenv W',CoR G A ⟨vars,aD scope C⟩ cenv W' t el ifs n st σ₁ (clr η vars) out σ')/\out.length<=lim
theorem dU1{g:Comprehension}(h:g.is_async=0):g=⟨g.target,g.iter,g.ifs,0⟩:=by
 cases g;subst h;rfl
theorem hA1{β:Type}{P:Prop}{o:Option ItS}{k:ItS->Option β}{r:β}(h:(match o with | some x=>k x | none=>none)=some r)(q:∀ x,o=some x->k x=some r->P):P:=by
 cases o with
 | none=>exact nso h
 | some a=>exact q a rfl h
theorem kY(K:Ok G A T F){vars:List Var}{tg elt it cond:Ex}(he:SE G A T F elt)(hi:SE G A T F it)(hc:ST G A T F cond){e:Expr}(hm:mt T (.comp vars tg elt it cond) C e=true){u:V}(h:evx F (.comp vars tg elt it cond) σ η=some (u,σ')) :
  ∃ el t i ifs scope pos out,e=.ListComp el [⟨t,i,ifs,0⟩] scope pos/\u=.lst out/\CompR G A C env W el t i ifs scope vars σ η out σ' :=
 have h0:=ap hm
 (sv h0.2).elim fun g hg =>
 have h6:=ap hg.2
 have h5:=ap h6.1
 have h4:=ap h5.1
 have h3:=ap h4.1
 have h2:=ap h3.1
 have h1:=ap h2.1
 eI h fun x σ₁ e1 h=>hA1 h fun st hst h=>uV h fun out σ₂ e2 h =>
 (qc (C:=⟨vars,aD (un e).sc C⟩) (ee:=fun σ η=>evx F elt σ η) (cond:=aQ1 F cond) K.hh h2.2 (fun env W σ η b σ' hq=>qa hc h6.2 hq) (fun env W σ η v σ' hq=>he _ _ h3.2 _ _ _ _ _ _ hq) _ _ _ _ _ _ e2).elim fun m hr =>
 have hp:=zP (bq h).2
 ⟨_,g.target,g.iter,g.ifs,_,_,out,(gV1 h0.1).trans (by rw [nD hg.1,← dU1 (of_decide_eq_true h1.1)]),hp.1.symm,⟨m,x,st,σ₁,qb h1.2,h5.2,hi _ _ h4.2 _ _ _ _ _ _ e1,hst,hp.2 ▸ hr,(bq h).1⟩⟩
theorem zx(K:Ok G A T F){vars:List Var}{tg elt it cond:Ex}(he:SE G A T F elt)(hi:SE G A T F it)(hc:ST G A T F cond):SE G A T F (.comp vars tg elt it cond):=by
 intro C e hm env W σ η u σ' h
 refine byQ fun Q kQ=>?_
 obtain ⟨el,t,i,ifs,scope,pos,out,rfl,rfl,⟨n,v,st,σ₁,K1,h1,h2,h3,h4,h5⟩⟩:=kY (env:=env) (W:=W) K he hi hc hm h
 refine kQ ?_
 exact Ev.comp K.hh K1 h1 h2 h3 h4 h5
end
section
variable {G:Wd} {A:Around} {C C':Cx} {env cenv:Env} {W W':List Addr} {η η' η₁ η₂ bw:ac} {σ σ' σ₁ σ₂ aj:List AO} {T:Tab} {F:Fn}
theorem kX{y:List Nat}{a:Expr}(h:l7 (.str y) a=true):a=.Constant (.str ⟨y.toArray⟩) (un a).n (un a).p/\y.length<=lim :=
 have h0:=ap h
 have h1:=ap h0.2
 ⟨(of_decide_eq_true h1.1) ▸ gT1 h0.1,of_decide_eq_true h1.2⟩
theorem pv{x y z:List Nat}:meF .replace σ (.str x) [.str y,.str z]=if y=z then none else if x.length + (x.length + 1) * z.length<=16000000/\(Txt.replace (S' x) (S' y) (S' z)).cps.toList.length<=lim then some (.str (Txt.replace (S' x) (S' y) (S' z)).cps.toList) else none:=rfl
theorem b71(K:Ok G A T F){o:Ex}{y z:List Nat}(ho:SE G A T F o):SE G A T F (.rep o y z):=by
 intro C e hm env W σ η u σ' he
 have h2:=ap hm
 have h1:=ap h2.1
 have h:=jM h1.1
 refine a7 (sv h2.2) fun r h_p=>?_;have hr:=h_p.1;have h5:=h_p.2
 have hy:=kX (ap h5).1
 have hz:=kX (ap h5).2
 have hc:=h.q
 have hn:=h.n
 rw [t6 hr,hy.1,hz.1] at hc hn
 refine Ev.of_eq hc (fw1 he fun l σ₁ e1 he=>tJ (Q:=Ev G A C env W _ σ η) he fun w e3=>?_)
 rw [pv] at e3
 by_cases hyz:y=z
 ·replace e3:=(if_pos hyz) ▸ e3;exact nso e3
 ·rw [if_neg hyz] at e3
  have hb:=(bq e3).1
  rw [← siX (bq e3).2]
  intro ρ s R N ht
  refine wpAny_Call_method_lateS (fp h.s _) ?_ h.p ?_
  ·rw [eM hn];rfl
  ·refine (ho _ _ h1.2 _ _ _ _ _ _ e1).use R N ht fun bD ao ab ag aL aM aw=>?_
   have hT:=iV (T:="str") rfl ag.rel aw
   refine f01 ("str") ("str.replace") gK.attrs gK.slot gK.ty hT.1 hT.2 ?_
   refine callWith_builtin (cP hn) (du hn ?_)
   rw [a9 rfl]
   refine spliced_cons (Constant_str (k:=(un r.1).n) (pos:=(un r.1).p) ?_)
   rw [a9 rfl]
   refine spliced_cons (Constant_str (k:=(un r.2).n) (pos:=(un r.2).p) (spliced_nil ?_))
   obtain ⟨_,t,rfl⟩:=RV.str_iff aw
   have au:=Step.toks ag.rel (ao.toks + 1 + 1)
   exact wpAny_mono (lL (A:=A) (u:=ao.toks) (v:=ao.toks + 1) (t:=t) (Nat.ne_of_gt aM) (Nat.succ_ne_zero _) (Nat.ne_of_lt (Nat.lt_succ_self _)) hyz hb.1 hb.2 au.rel) ((by rintro cv s' ⟨ρ',b5,gx⟩;exact ⟨ρ',ag.trans (au.trans b5),gx⟩)) fun _ _ f=>f.elim
theorem ef{c:Ex}{b:Bool}(h:evt F c σ η=some (b,σ')):∃ v,evx F c σ η=some (v,σ')/\aY v=some b :=
 eI h fun v σ₁ e1 he=>tJ (Q:=fun b σ'=>∃ v,evx F c σ η=some (v,σ')/\aY v=some b) he fun w e3=>⟨v,e1,e3⟩
theorem iK{x:Ex}(h:SE G A T F x)(hp:∀ C e,mt T x C e=true->dL e=true):ST G A T F x:=fun C e hm env W σ η b σ' he =>
 (ef he).elim fun v hv=>Et.plain (hp _ _ hm) (h _ _ hm _ _ _ _ _ _ hv.1) hv.2
theorem bV1(K:Ok G A T F){op:CmpOp}{a b:Ex}(ha:SE G A T F a)(hb:SE G A T F b):ST G A T F (.cmp op a b):=fun C e hm env W σ η k σ' he =>
 (ef he).elim fun v ⟨he,hv⟩=>(dV1 hm).elim fun r h=>Et.of_eq h.q <| eI he fun x σ₁ e1 he=>eI he fun y σ₂ e2 he=>by
  refine aO (fV1 he) fun w e3 e4=>?_
  cases e4;obtain rfl:=siX hv
  exact Et.cmp h.n (ha _ _ h.a _ _ _ _ _ _ e1) (hb _ _ h.b _ _ _ _ _ _ e2) (bz K.hu e3)
theorem wZ(K:Ok G A T F){cI cq:CmpOp}{a b c:Ex}(ha:SE G A T F a)(hb:SE G A T F b)(hc:SE G A T F c):ST G A T F (.chain cI cq a b c):=fun C e hm env W σ η k σ' he =>
 (ef he).elim fun v ⟨he,hv⟩=>(hH1 hm).elim fun r h=>Et.of_eq h.q <| eI he fun x σ₁ e1 he=>eI he fun y σ₂ e2 he=>eP1 he
  (fun e3 he=>by
   refine byQ fun Q kQ=>?_
   obtain ⟨rfl,rfl⟩:=sm2 he;obtain rfl:=siX hv
   refine kQ ?_
   exact Et.chain (v₃:=.none) (σ₄:=[]) h.n (ha _ _ h.a _ _ _ _ _ _ e1) (hb _ _ h.b _ _ _ _ _ _ e2) (bz K.hu e3) nofun nofun fun _=>⟨rfl,rfl⟩)
  (fun e3 he=>eI he fun z aj e4 he=>by
   refine aO (fV1 he) fun w e5 e6=>?_
   cases e6;obtain rfl:=siX hv
   exact Et.chain h.n (ha _ _ h.a _ _ _ _ _ _ e1) (hb _ _ h.b _ _ _ _ _ _ e2) (bz K.hu e3) (fun _=>hc _ _ h.c _ _ _ _ _ _ e4) (fun _=>bz K.hu e5) nofun)
theorem bT1{a:Ex}(ha:ST G A T F a):ST G A T F (.not a):=fun C e hm env W σ η k σ' he =>
 have h:=ap hm
 have h0:=ap h.1
 (ef he).elim fun v ⟨he,hv⟩=>Et.of_eq (un5 h0.1 (of_decide_eq_true h0.2)) <| eI he fun x σ₁ e1 he=>by
  refine aO (fV1 he) fun w e3 e4=>?_
  cases e4;obtain rfl:=siX hv
  exact Et.not_ (ha _ _ h.2 _ _ _ _ _ _ (dU e1 e3))
theorem bW1{a b:Ex}(ha:ST G A T F a)(hb:ST G A T F b):ST G A T F (.and a b):=fun C e hm env W σ η k σ' he =>
 (ef he).elim fun v ⟨he,hv⟩=>(eO1 hm).elim fun r h=>Et.of_eq h.q <| eI he fun x σ₁ e1 he=>eQ1 he
  (fun e2 he=>Et.and_ (ha _ _ h.a _ _ _ _ _ _ (dU e1 e2)) (fun _=>hb _ _ h.b _ _ _ _ _ _ (dU he hv)) nofun)
  (fun e2 he=>by
   obtain ⟨rfl,rfl⟩:=sm2 he
   rw [e2] at hv;obtain rfl:=siX hv
   exact Et.and_ (ha _ _ h.a _ _ _ _ _ _ (dU e1 e2)) nofun fun _=>⟨rfl,rfl⟩)
theorem fv1{a b:Ex}(ha:ST G A T F a)(hb:ST G A T F b):ST G A T F (.or a b):=fun C e hm env W σ η k σ' he =>
 (ef he).elim fun v ⟨he,hv⟩=>(eO1 hm).elim fun r h=>Et.of_eq h.q <| eI he fun x σ₁ e1 he=>eP1 he
  (fun e2 he=>Et.or_ (ha _ _ h.a _ _ _ _ _ _ (dU e1 e2)) (fun _=>hb _ _ h.b _ _ _ _ _ _ (dU he hv)) nofun)
  (fun e2 he=>by
   obtain ⟨rfl,rfl⟩:=sm2 he
   rw [e2] at hv;obtain rfl:=siX hv
   exact Et.or_ (ha _ _ h.a _ _ _ _ _ _ (dU e1 e2)) nofun fun _=>⟨rfl,rfl⟩)
theorem bU1{c a b:Ex}(hc:ST G A T F c)(ha:ST G A T F a)(hb:ST G A T F b):ST G A T F (.ite c a b):=fun C e hm env W σ η k σ' he =>
 have h3:=ap hm
 have h2:=ap h3.1
 have h1:=ap h2.1
 (ef he).elim fun v ⟨he,hv⟩=>Et.of_eq (un8 h1.1) <| eI he fun x σ₁ e1 he=>eQ1 he
  (fun e2 he=>Et.ifexp (hc _ _ h1.2 _ _ _ _ true σ₁ (dU e1 e2)) (fun _=>ha _ _ h2.2 _ _ _ _ _ _ (dU he hv)) nofun)
  (fun e2 he=>Et.ifexp (hc _ _ h1.2 _ _ _ _ false σ₁ (dU e1 e2)) nofun (fun _=>hb _ _ h3.2 _ _ _ _ _ _ (dU he hv)))
theorem yE:SE G A T F .nil:=fun _ _ h=>nomatch (show false=true from h)
theorem ux{a b:Ex}:SE G A T F (.cons a b):=fun _ _ h=>nomatch (show false=true from h)
structure Snd (G:Wd) (A:Around) (T:Tab) (F:Fn) (x:Ex):Prop where
 e:SE G A T F x
 s:SS G A T F x
 t:ST G A T F x
noncomputable def plT:List Nat:=[1,2,3,4,9,11,12,14]
theorem iZ1{e:Expr}{k:Nat}(h:((un e).tag == k)=true)(hk:plT.contains k=true):dL e=true:=by
 have:=beq_iff_eq.mp h
 subst this
 cases e <;> first | rfl | exact ftr hk
noncomputable def f21(x:Ex):Bool:=!(x.ctorIdx == 3 || x.ctorIdx == 4)
theorem yO{x:Ex}(h:f21 x=true):SS G A T F x:=by
 intro C l hm
 cases x <;> first | (exact ftr h;done) | exact ftr hm
noncomputable def fr1(x:Ex):Nat:=[14,1,1,0,0,2,3,3,4,0,0,0,0,0,0,0,9,9,11,12,12,12,12,12,12,12,12,12,12].getD x.ctorIdx 0
theorem cS{a b:Bool}(h:(a && b)=true):a=true:=(Bool.and_eq_true_iff.mp h).1
theorem gV{q a:Nd}{n:Str}(h:mA q n a=true):(q.tag == 12)=true:=cS (cS (cS (cS (cS (cS (cS h))))))
theorem my{q a:Nd}{n:Str}(h:th C q n a=true):(q.tag == 12)=true:=cS (cS (cS (cS (cS h))))
theorem jk1{o:Option Str}{q a:Nd}(h:uT C o q a=true):(q.tag == 12)=true:=by
 cases o with
 | none=>exact ftr h
 | some n=>exact my h
theorem ku1{o:Option Str}{q a:Nd}(h:uZ o q a=true):(q.tag == 12)=true:=by
 cases o with
 | none=>exact ftr h
 | some n=>exact gV h
theorem fq1{x:Ex}{e:Expr}(h:mt T x C e=true)(hx:plT.contains (fr1 x)=true):((un e).tag == fr1 x)=true:=by
 cases x with
 | cst v=>exact cS h
 | glo l=>exact cS (cS h)
 | loc i=>exact cS h
 | tup es=>exact cS h
 | lst es=>exact cS h
 | new es=>exact cS h
 | bin op a b=>exact cS (cS (cS h))
 | idx a i=>exact cS (cS h)
 | slc a lo hi st=>exact cS (cS (cS (cS (cS h))))
 | comp vars tg elt it cond=>exact cS h
 | bf f a=>exact my (cS h)
 | range a=>exact my (cS h)
 | list a=>exact my (cS h)
 | me f o a=>exact gV (cS (cS (cS h)))
 | rep o y z=>exact gV (cS (cS h))
 | split o y=>exact gV (cS (cS h))
 | append o y=>exact gV (cS (cS h))
 | pop o=>exact gV (cS (cS h))
 | call f a=>exact jk1 (cS h)
 | meth f o a=>exact ku1 (cS (cS h))
 | _=>exact ftr hx
theorem pt{x:Ex}(h:plT.contains (fr1 x)=true)(hl:f21 x=true)(he:SE G A T F x):Snd G A T F x :=
 ⟨he,yO hl,iK he fun _ _ hm=>iZ1 (fq1 hm h) h⟩
theorem nt{x:Ex}(hl:f21 x=true)(ht:ST G A T F x)(he:SE G A T F x):Snd G A T F x :=
 ⟨he,yO hl,ht⟩
theorem cX1{a:Ex}{e:Expr}(h:mt T (.neg a) C e=true):dL e=true:=by
 have h:=ap (ap h).1
 refine (un5 h.1 (of_decide_eq_true h.2)) ▸ ?_
 rfl
theorem snd(K:Ok G A T F)(x:Ex):Snd G A T F x:=by
 induction x with
 | cst v=>exact pt rfl rfl cg1
 | glo l=>exact pt rfl rfl (cf1 K)
 | loc i=>exact pt rfl rfl cc1
 | nil=>exact ⟨yE,bX1,iK yE fun C e hm=>nomatch (show false=true from hm)⟩
 | cons a b ha hb=>exact ⟨ux,zt ha.e hb.s,iK ux fun C e hm=>nomatch (show false=true from hm)⟩
 | tup es h=>exact pt rfl rfl (b51 h.s)
 | lst es h=>exact pt rfl rfl (cb1 h.s)
 | new es h=>exact pt rfl rfl (ca1 h.s)
 | bin op a b ha hb=>exact pt rfl rfl (ci1 ha.e hb.e)
 | neg a ha=>exact nt rfl (iK (yF ha.e) fun C e hm=>cX1 hm) (yF ha.e)
 | not a ha=>exact nt rfl (bT1 ha.t) (b91 ha.e)
 | cmp op a b ha hb=>exact nt rfl (bV1 K ha.e hb.e) (ch1 K ha.e hb.e)
 | chain cI cq a b c ha hb hc=>exact nt rfl (wZ K ha.e hb.e hc.e) (xa K ha.e hb.e hc.e)
 | and a b ha hb=>exact nt rfl (bW1 ha.t hb.t) (cj1 ha.e hb.e)
 | or a b ha hb=>exact nt rfl (fv1 ha.t hb.t) (fy1 ha.e hb.e)
 | ite c a b hc ha hb=>exact nt rfl (bU1 hc.t ha.t hb.t) (cd1 hc.t ha.e hb.e)
 | idx a i ha hi=>exact pt rfl rfl (ce1 ha.e hi.e)
 | slc a lo hi st ha h1 h2 h3=>exact pt rfl rfl (b61 ha.e h1.e h2.e h3.e)
 | comp vars tg elt it cond _ he hi hc=>exact pt rfl rfl (zx K he.e hi.e hc.t)
 | bf f a ha=>exact pt rfl rfl (fA1 K ha.s)
 | range a ha=>exact pt rfl rfl (w9 K ha.s)
 | list a ha=>exact pt rfl rfl (zw K ha.s)
 | me f o a ho ha=>exact pt rfl rfl (fz1 K ho.e ha.s)
 | rep o y z ho=>exact pt rfl rfl (b71 K ho.e)
 | split o y ho hy=>exact pt rfl rfl (w8 ho.e hy.e)
 | append o y ho hy=>exact pt rfl rfl (uy ho.e hy.e)
 | pop o ho=>exact pt rfl rfl (b81 ho.e)
 | call f a ha=>exact pt rfl rfl (zy K ha.s)
 | meth f o a ho ha=>exact pt rfl rfl (zv K ho.e ha.s)
end
noncomputable def rt(x:Ex):Bool:=x.ctorIdx == 18
noncomputable def bP1(C:Cx)(e:Ex)(x:Str)(p:Pos)(e':Expr):Bool :=
 if (un e').tag == 11 then cD (C.kind x) .cell || (rt e && cD (C.kind x) .local && p.line == (un e').p.line && !((un e').sc.names.any fun y=>y.1 == x && (y.2 == .local || y.2 == .cell))) else d9 e'
noncomputable def ixE(i:Int):Ex:=if i < 0 then .neg (.cst (.int (-i))) else .cst (.int i)
mutual
noncomputable def mst(T:Tab):Sx->Cx->Stmt->Bool
 | .skip,_,_=>false
 | .seq _ _,_,_=>false
 | .asg i e,C,st=>(us st).tag == 1 && oB (lP (us st).l) fun t=>(un t).tag == 1 && gb C (un t).s i && mt T e C (us st).a && bP1 C e (un t).s (un t).p (us st).a
 | .asgM i e,C,st=>(us st).tag == 1 && oB (lP (us st).l) fun t=>(un t).tag == 1 && gb C (un t).s i && mt T e C (us st).a && (un (us st).a).tag == 11 && rt e && cD (C.kind (un t).s) .cell
 | .asgT is e,C,st=>(us st).tag == 1 && oB (lP (us st).l) fun t=>(un t).tag == 2 && mtI C is (un t).l && mt T e C (us st).a && d9 (us st).a && (nb C (un t).l (us st).a == some none)
 | .asg2 i j e,C,st=>(us st).tag == 1 && oB (lP (us st).l) fun t=>(un t).tag == 2 && oB (yA (un t).l) fun r=>(un r.1).tag == 1 && (un r.2).tag == 1 && gb C (un r.1).s i && gb C (un r.2).s j && mt T e C (us st).a && d9 (us st).a &&
   (nb C [r.1,r.2] (us st).a == some (some [(un r.1).s,(un r.2).s]))
 | .aug i op e,C,st=>(us st).tag == 2 && (un (us st).a).tag == 1 && decide ((us st).o=op) && gb C (un (us st).a).s i && mt T e C (us st).b
 | .augL i e,C,st=>(us st).tag == 2 && (un (us st).a).tag == 1 && decide ((us st).o=.Add) && gb C (un (us st).a).s i && mt T e C (us st).b
 | .expr e,C,st=>(us st).tag == 3 && mt T e C (us st).a && d9 (us st).a
 | .ret e,C,st=>(us st).tag == 4 && oB (us st).oe fun e'=>mt T e C e'
 | .ite c a b,C,st=>(us st).tag == 5 && mt T c C (us st).a && mss T a C (us st).x && mss T b C (us st).y
 | .whil _ c b,C,st=>(us st).tag == 6 && (us st).y.isEmpty && mt T c C (us st).a && mss T b C (us st).x
 | .for_ tg it b,C,st=>(us st).tag == 7 && (us st).y.isEmpty && mtg C tg (us st).a && mt T it C (us st).b && hV (us st).b && mss T b C (us st).x
 | .dead,_,_=>true
 | .brk,_,st=>(us st).tag == 10
 | .pass,_,st=>(us st).tag == 11
 | .asrt c,C,st=>(us st).tag == 8 && (us st).oe.isNone && mt T c C (us st).a
 | .del o i,C,st=>(us st).tag == 9 && oB (lP (us st).l) fun t=>(un t).tag == 9 && mt T o C (un t).a && mt T (ixE i) C (un t).b
noncomputable def mss(T:Tab):Sx->Cx->List Stmt->Bool
 | .skip,_,l=>l.isEmpty
 | .seq a b,C,l=>match l with
  | st::rest=>mst T a C st && mss T b C rest
  | []=>false
 | .asg _ _,_,_=>false
 | .asgM _ _,_,_=>false
 | .asgT _ _,_,_=>false
 | .asg2 _ _ _,_,_=>false
 | .aug _ _ _,_,_=>false
 | .augL _ _,_,_=>false
 | .expr _,_,_=>false
 | .ret _,_,_=>false
 | .ite _ _ _,_,_=>false
 | .whil _ _ _,_,_=>false
 | .for_ _ _ _,_,_=>false
 | .brk,_,_=>false
 | .dead,_,_=>false
 | .pass,_,_=>false
 | .asrt _,_,_=>false
 | .del _ _,_,_=>false
end
section
variable {G:Wd} {A:Around} {C C':Cx} {env cenv:Env} {W W':List Addr} {η η' η₁ η₂ bw:ac} {σ σ' σ₁ σ₂ aj:List AO} {T:Tab} {F:Fn}
noncomputable def QE(G:Wd)(A:Around)(T:Tab)(F:Fn)(x:Sx):Prop:=∀ C st,mst T x C st=true->∀ env W σ η fl σ' η',exs F x σ η=some (fl,σ',η')->Es G A C env W st σ η fl σ' η'
noncomputable def QS(G:Wd)(A:Around)(T:Tab)(F:Fn)(x:Sx):Prop:=∀ C l,mss T x C l=true->∀ env W σ η fl σ' η',exs F x σ η=some (fl,σ',η')->Ess G A C env W l σ η fl σ' η'
theorem gM{o:Option NameKind}{k:NameKind}(h:cD o k=true):o=some k:=by
 revert h;cases o with
 | none=>intro h;exact ftr h
 | some j=>cases j <;> cases k <;> intro h <;> first | rfl | exact ftr h
theorem Es.of_eq{st st':Stmt}{fl:Fl}(h:st=st')(x:Es G A C env W st' σ η fl σ' η'):Es G A C env W st σ η fl σ' η':=by exact (h) ▸ (x)
section
variable {st:Stmt}
theorem us1(h:((us st).tag == 1)=true){t:Expr}(ho:lP (us st).l=some t):st=.Assign [t] (us st).a (us st).p:=(t3 (k:=0) (beq_iff_eq.mp h)).trans (congrArg (fun l=>Stmt.Assign l _ _) (nD ho))
theorem us2(h:((us st).tag == 2)=true){o:Operator}(ho:(us st).o=o):st=.AugAssign (us st).a o (us st).b (us st).p:=ho ▸ t3 (k:=1) (beq_iff_eq.mp h)
theorem us3(h:((us st).tag == 3)=true):st=.Expr (us st).a (us st).p:=t3 (k:=2) (beq_iff_eq.mp h)
theorem us4(h:((us st).tag == 4)=true){e:Expr}(ho:(us st).oe=some e):st=.Return (some e) (us st).p:=ho ▸ t3 (k:=3) (beq_iff_eq.mp h)
theorem us5(h:((us st).tag == 5)=true):st=.If (us st).a (us st).x (us st).y (us st).p:=t3 (k:=4) (beq_iff_eq.mp h)
theorem us6(h:((us st).tag == 6)=true)(hy:(us st).y.isEmpty=true):st=.While (us st).a (us st).x [] (us st).p:=mj hy ▸ t3 (k:=5) (beq_iff_eq.mp h)
theorem us7(h:((us st).tag == 7)=true)(hy:(us st).y.isEmpty=true):st=.For (us st).a (us st).b (us st).x [] (us st).p:=mj hy ▸ t3 (k:=6) (beq_iff_eq.mp h)
theorem us8(h:((us st).tag == 8)=true)(hy:(us st).oe.isNone=true):st=.Assert (us st).a none (us st).p:=Option.isNone_iff_eq_none.mp hy ▸ t3 (k:=7) (beq_iff_eq.mp h)
theorem us9(h:((us st).tag == 9)=true){t:Expr}(ho:lP (us st).l=some t):st=.Delete [t] (us st).p:=(t3 (k:=8) (beq_iff_eq.mp h)).trans (congrArg (fun l=>Stmt.Delete l _) (nD ho))
theorem iE1(h:((us st).tag == 10)=true):st=.Break (us st).p:=t3 (k:=9) (beq_iff_eq.mp h)
theorem iD1(h:((us st).tag == 11)=true):st=.Pass (us st).p:=t3 (k:=10) (beq_iff_eq.mp h)
end
theorem xp{t t':Expr}{l:List Expr}(h:lP l=some t)(e:t=t'):lP l=some t':=e ▸ h
theorem Es.asgF{x:Var}{e:Expr}{p pos:Pos}{v:V}(hx:x∈C.vars)(ho:x.own=true)(hc:∀ env:Env,env.scope=C.scope->swapsWith e (some (.Name x.name p)) pos.line env=pure false)(h:Ev G A C env W e σ η v σ₁):Es G A C env W (.Assign [.Name x.name p] e pos) σ η .next σ₁ (η.set x.slot (some v)):=fun ρ s R N ht =>
 wpAny_Assign_Name (h.use R N ht fun cv ao ab ag aL aM aw=>RE.store ag.rel aL hx ho aw fun aA au cN=>⟨ab,ag.toW.trans au,cN,rfl⟩) (hc env N.sc)
theorem kF{x:Str}{p spos cpos:Pos}{el:Expr}{gs:List Comprehension}{scope:Scope}(hk:C.kind x=some .cell)(env:Env)(he:env.scope=C.scope):swapsWith (.ListComp el gs scope cpos) (some (.Name x p)) spos.line env=pure false:=by
 show (pure (env.blockKind == .function && env.kindOf x == some .local && p.line == cpos.line && !(scope.names.any fun (n,k)=>n == x && (k == .local || k == .cell))):Sem Bool)=pure false
 have h2:env.kindOf x=some .cell:=by unfold Env.kindOf;exact (he) ▸ (hk)
 rw [h2,show ((some NameKind.cell:Option NameKind) == some NameKind.local)=false by decide]
 simp
theorem xK{e:Ex}(h:rt e=true):∃ vars tg elt it cond,e=.comp vars tg elt it cond:=by
 cases e <;> first | exact ⟨_,_,_,_,_,rfl⟩ | exact ftr h
theorem uJ(K:Ok G A T F){e:Ex}{e':Expr}(h:mt T e C e'=true)(ht:rt e=true){v:V}(e1:evx F e σ η=some (v,σ')) :
  ∃ el t i ifs scope pos out,e'=.ListComp el [⟨t,i,ifs,0⟩] scope pos/\v=.lst out/\∃ vars,CompR G A C env W el t i ifs scope vars σ η out σ':=by
 refine byQ fun Q kQ=>?_
 obtain ⟨vars,tg,elt,it,cond,rfl⟩:=xK ht
 refine i21 (kY (env:=env) (W:=W) K (snd K elt).e (snd K it).e (snd K cond).t h e1) fun el t i ifs scope pos out h1 h2 h3=>?_
 refine kQ ?_
 exact ⟨el,t,i,ifs,scope,pos,out,h1,h2,vars,h3⟩
section
variable {r:Fl × List AO × ac} {fl:Fl} {P:Prop}
theorem qR{Q:Fl->List AO->ac->Prop}{a:Fl}(h:some (a,σ,η)=some (fl,σ',η'))(q:Q a σ η):Q fl σ' η':=by
 cases h;exact q
theorem hp1{o:Option (V × List AO)}{k:V->List AO->Out}(h:(match o with | some (x,σ)=>k x σ | none=>none)=some r)(q:∀ x σ,o=some (x,σ)->k x σ=some r->P):P:=eI h q
theorem iP1{o:Option (V × List AO)}{k:V->V->List AO->Out}(h:(match o with | some (.tup [u,v],σ)=>k u v σ | _=>none)=some r)(q:∀ u v σ,o=some (.tup [u,v],σ)->k u v σ=some r->P):P:=by
 cases o with
 | none=>exact nso h
 | some a =>
  obtain ⟨a,c⟩:=a
  cases a <;> first | (exact nso h;done) | skip
  rename_i l
  cases l with
  | nil=>exact nso h
  | cons u l=>cases l with
   | nil=>exact nso h
   | cons v l=>cases l with
    | nil=>exact q u v c rfl h
    | cons=>exact nso h
theorem iS1{o:Option (Option V)}{k:Nat->Out}(h:(match o with | some (some (.ref i))=>k i | _=>none)=some r)(q:∀ i,o=some (some (.ref i))->k i=some r->P):P:=by
 cases o with
 | none=>exact nso h
 | some a=>cases a with
  | none=>exact nso h
  | some v=>cases v <;> first | exact q _ rfl h | exact nso h
theorem kV1{o:Option AO}{v:V}{k:List V->List V->Out}(h:(match o,v with | some ⟨l,none⟩,.lst pD=>k l pD | _,_=>none)=some r)(q:∀ l pD,o=some ⟨l,none⟩->v=.lst pD->k l pD=some r->P):P:=by
 cases o with
 | none=>exact nso h
 | some a =>
  obtain ⟨l,c⟩:=a
  cases c <;> first | (exact nso h;done) | skip
  cases v <;> first | exact q _ _ rfl rfl h | exact nso h
theorem kS1{o:Option (Bool × List AO)}{jp rm:List AO->Out}(h:(match o with | some (true,σ)=>jp σ | some (false,σ)=>rm σ | none=>none)=some r)(lM:∀ σ,o=some (true,σ)->jp σ=some r->P)(mR:∀ σ,o=some (false,σ)->rm σ=some r->P):P:=by
 cases o with
 | none=>exact nso h
 | some a =>
  obtain ⟨b,c⟩:=a
  cases b
  ·exact mR c rfl h
  ·exact lM c rfl h
theorem kR1{o:Option (Bool × List AO)}{jp rm:List AO->Out}(h:(match o with | some (false,σ)=>rm σ | some (true,σ)=>jp σ | none=>none)=some r)(lM:∀ σ,o=some (true,σ)->jp σ=some r->P)(mR:∀ σ,o=some (false,σ)->rm σ=some r->P):P:=by
 cases o with
 | none=>exact nso h
 | some a =>
  obtain ⟨b,c⟩:=a
  cases b
  ·exact mR c rfl h
  ·exact lM c rfl h
theorem iO1{o:Option (Bool × List AO)}{jp:List AO->Out}(h:(match o with | some (true,σ)=>jp σ | _=>none)=some r)(lM:∀ σ,o=some (true,σ)->jp σ=some r->P):P:=by
 cases o with
 | none=>exact nso h
 | some a =>
  obtain ⟨b,c⟩:=a
  cases b
  ·exact nso h
  ·exact lM c rfl h
theorem kF1{o:Option Nat}{k:Nat->Out}(h:(match o with | some j=>k j | none=>none)=some r)(q:∀ j,o=some j->k j=some r->P):P:=by
 cases o with
 | none=>exact nso h
 | some j=>exact q j rfl h
theorem kG1{o:Option ItS}{k:ItS->Out}(h:(match o with | some j=>k j | none=>none)=some r)(q:∀ j,o=some j->k j=some r->P):P:=hA1 h q
theorem iT1{o:Out}{k:List AO->ac->Out}(h:(match o with | some (.next,σ,η)=>k σ η | r=>r)=some (fl,σ',η'))(lM:∀ σ η,o=some (.next,σ,η)->k σ η=some (fl,σ',η')->P)(mR:fl≠.next->o=some (fl,σ',η')->P):P:=by
 cases o with
 | none=>exact nso h
 | some a =>
  obtain ⟨f,h_p⟩:=a;have s:=h_p.1;have e:=h_p.2
  cases f with
  | next=>exact lM _ _ rfl h
  | brk=>cases h;exact mR nofun rfl
  | ret v=>cases h;exact mR nofun rfl
theorem gY1{o:Out}{k:List AO->ac->Out}(h:(match o with | some (.next,σ,η)=>k σ η | some (.brk,σ,η)=>some (.next,σ,η) | r=>r)=some (fl,σ',η'))(lM:∀ σ η,o=some (.next,σ,η)->k σ η=some (fl,σ',η')->P)
  (mR:fl=.next->o=some (.brk,σ',η')->P) (iW1:∀ v,fl=.ret v->o=some (.ret v,σ',η')->P):P:=by
 cases o with
 | none=>exact nso h
 | some a =>
  obtain ⟨f,h_p⟩:=a;have s:=h_p.1;have e:=h_p.2
  cases f with
  | next=>exact lM _ _ rfl h
  | brk=>cases h;exact mR rfl rfl
  | ret v=>cases h;exact iW1 v rfl rfl
end
theorem ec1{st:Stmt}{i:Nat}{f:Expr->Bool}(hm:((us st).tag == 1 && oB (lP (us st).l) f)=true)(h1:∀ t,f t=true->((un t).tag == 1)=true/\gb C (un t).s i=true) :
  ∃ t y,f t=true/\y∈C.vars/\y.name=(un t).s/\y.slot=i/\y.own=true/\st=.Assign [.Name y.name (un t).p] (us st).a (us st).p :=
 have h:=ap hm
 (sv h.2).elim fun t ht=>have g:=h1 t ht.2
 (bx g.2).elim fun y hy=>⟨t,y,ht.2,hy.1,hy.2.1,hy.2.2.1,hy.2.2.2,hy.2.1.symm ▸ us1 h.1 (xp ht.1 (un1 g.1))⟩
theorem cB1(K:Ok G A T F){i:Nat}{e:Ex}:QE G A T F (.asg i e):=fun C st hm env W σ η fl σ' η' he =>
 (ec1 (i:=i) hm fun t h=>ap (ap (ap h).1).1).elim fun t ⟨y,hm,hy,hyn,hi,ho,hs⟩=>Es.of_eq hs <| hp1 he fun v σ₁ e1 he=>by
  have h3:=(ap hm).2
  have h2:=(ap (ap hm).1).2
  have hev:=(snd K e).e _ _ h2 env W _ _ _ _ e1
  refine qR (Q:=Es G A C env W _ σ η) he ?_
  subst hi
  replace h3:=(hyn) ▸ h3
  unfold bP1 at h3
  by_cases hlc:((un (us st).a).tag == 11)=true
  ·rw [if_pos hlc] at h3
   rcases Bool.or_eq_true_iff.mp h3 with hk | h3
   ·rw [gV1 hlc] at hev ⊢
    exact Es.asgF hy ho (fun env he=>kF (gM hk) env he) hev
   ·refine byQ fun Q kQ=>?_
    have g3:=ap h3
    have g2:=ap g3.1
    have g1:=ap g2.1
    obtain ⟨el,t,ii,ifs,scope,pos,out,he1,rfl,vars,⟨n,v,st,σ₂,K1,q1,q2,q3,q4,q5⟩⟩:=uJ (env:=env) (W:=W) K h2 g1.1 e1
    have g4:=(Bool.not_eq_true' _).mp g3.2
    have g5:=beq_iff_eq.mp g2.2
    refine kQ ?_
    rw [he1] at g4 g5 ⊢
    exact Es.asgComp K.hh K1 q1 hy ho (gM g1.2) g5 g4 q2 q3 q4 q5
  ·rw [if_neg hlc] at h3
   exact Es.asg hy ho h3 hev
theorem zL(K:Ok G A T F){i:Nat}{e:Ex}:QE G A T F (.asgM i e):=fun C st hm env W σ η fl σ' η' he =>
 (ec1 (i:=i) hm fun t h=>ap (ap (ap (ap (ap h).1).1).1).1).elim fun t h_i=>hf1 h_i fun y hm hy hyn hi ho hs=>Es.of_eq hs <| kD1 he fun vs σ₁ e1 he=>by
  refine byQ fun Q kQ=>?_
  have h4:=ap hm
  have h3:=ap h4.1
  have h2:=(ap (ap h3.1).1).2
  obtain ⟨el,t',ii,ifs,scope,pos,out,he1,ho1,vars,⟨n,v,st',σ₂,K1,q1,q2,q3,q4,q5⟩⟩:=uJ (env:=env) (W:=W) K h2 h3.2 e1
  cases ho1
  refine kQ ?_
  refine qR (Q:=Es G A C env W _ σ η) he ?_
  refine (he1) ▸ ?_
  subst hi
  exact Es.asgF hy ho (fun env he=>kF (gM (hyn ▸ h4.2)) env he) (Ev.compM K.hh K1 q1 q2 q3 q4 q5)
theorem zK(K:Ok G A T F){is:List Nat}{e:Ex}:QE G A T F (.asgT is e):=fun C st hm env W σ η fl σ' η' he =>
 have h0:=ap hm
 (sv h0.2).elim fun t ht =>
 have h4:=ap ht.2
 have h3:=ap h4.1
 have h2:=ap h3.1
 have h1:=ap h2.1
 Es.of_eq (us1 h0.1 (xp ht.1 (un2 h1.1))) <| iN1 he fun vs σ₁ e1 he=>by
  have hl:=bq he
  obtain ⟨vars,hn,rfl⟩:=rf h1.2
  refine qR (Q:=Es G A C env W _ σ η) hl.2 ?_
  rw [lI]
  exact Es.asgT K.hh h3.2 (beq_iff_eq.mp h4.2) hn (by simpa using hl.1) ((snd K e).e _ _ h2.2 env W _ _ _ _ e1)
theorem zM(K:Ok G A T F){i j:Nat}{e:Ex}:QE G A T F (.asg2 i j e):=fun C st hm env W σ η fl σ' η' he =>
 have h0:=ap hm
 (sv h0.2).elim fun t ht =>
 have ht2:=ap ht.2
 (sv ht2.2).elim fun r hr =>
 have h5:=ap hr.2
 have h4:=ap h5.1
 have h3:=ap h4.1
 have h2:=ap h3.1
 have h1:=ap h2.1
 have h10:=ap h1.1
 iP1 he fun u v σ₁ e1 he=>by
  refine byQ fun Q kQ=>?_
  obtain ⟨x,hx,hxn,rfl,hxo⟩:=bx h1.2
  obtain ⟨y,hy,hyn,rfl,hyo⟩:=bx h2.2
  have e1x:=un1 h10.1
  have e2x:=un1 h10.2
  have h5:=beq_iff_eq.mp h5.2
  have hs:=us1 h0.1 (xp ht.1 (un2 ht2.1))
  rw [t6 hr.1] at hs
  rw [← hxn] at h5 e1x
  rw [← hyn] at h5 e2x
  rw [e1x,e2x] at h5 hs
  refine kQ ?_
  exact Es.of_eq hs (qR (Q:=Es G A C env W _ σ η) he (Es.asg2 K.hh h4.2 h5 hx hxo hy hyo ((snd K e).e _ _ h3.2 env W _ _ _ _ e1)))
theorem d71{st:Stmt}{op:Operator}{i:Nat}{b:Bool}(hm:((us st).tag == 2 && (un (us st).a).tag == 1 && decide ((us st).o=op) && gb C (un (us st).a).s i && b)=true) :
  ∃ x,x∈C.vars/\x.slot=i/\x.own=true/\st=.AugAssign (.Name x.name (un (us st).a).p) op (us st).b (us st).p :=
 have h1:=ap (ap hm).1
 have h2:=ap h1.1
 have h3:=ap h2.1
 (bx h1.2).elim fun x hx=>⟨x,hx.1,hx.2.2.1,hx.2.2.2,(us2 h3.1 (of_decide_eq_true h2.2)).trans (congrArg (fun z=>Stmt.AugAssign z op _ _) (hx.2.1.symm ▸ un1 h3.2))⟩
theorem cA1(K:Ok G A T F){i:Nat}{op:Operator}{e:Ex}:QE G A T F (.aug i op e):=fun C st hm env W σ η fl σ' η' he =>
 (d71 hm).elim fun x ⟨hx,hi,hxo,hs⟩=>Es.of_eq hs <| g31 he fun u hu he=>eI he fun v σ₁ e1 he=>by
  refine byQ fun Q kQ=>?_
  refine aO (Option.map_eq_some_iff.mp he) fun w e3 e4=>?_
  subst hi
  cases e4
  refine kQ ?_
  exact Es.aug hx hxo hu ((snd K e).e _ _ (ap hm).2 env W _ _ _ _ e1) (sQ e3)
theorem zI(K:Ok G A T F){i:Nat}{e:Ex}:QE G A T F (.augL i e):=fun C st hm env W σ η fl σ' η' he =>
 (d71 hm).elim fun x ⟨hx,hi,hxo,hs⟩=>Es.of_eq hs <| iS1 he fun k hu he=>eI he fun v σ₁ e1 he=>kV1 he fun l pD hσ hd he=>by
  subst hi
  exact qR (Q:=Es G A C env W _ σ η) (bq he).2 (Es.aug hx hxo hu ((snd K e).e _ _ (ap hm).2 env W _ _ _ _ e1) (jw hσ hd (bq he).1))
theorem zH(K:Ok G A T F){e:Ex}:QE G A T F (.expr e):=fun C st hm env W σ η fl σ' η' he =>
 have h2:=ap hm
 have h1:=ap h2.1
 Es.of_eq (us3 h1.1) <| eI he fun v σ₁ e1 he=>qR (Q:=Es G A C env W _ σ η) he (Es.expr h2.2 ((snd K e).e _ _ h1.2 env W _ _ _ _ e1))
theorem cv1(K:Ok G A T F){e:Ex}:QE G A T F (.ret e):=fun C st hm env W σ η fl σ' η' he =>
 have h:=ap hm
 (sv h.2).elim fun r hr=>Es.of_eq (us4 h.1 hr.1) <| eI he fun v σ₁ e1 he=>qR (Q:=Es G A C env W _ σ η) he (Es.ret ((snd K e).e _ _ hr.2 env W _ _ _ _ e1))
theorem cw1(K:Ok G A T F){c:Ex}{a b:Sx}(ha:QS G A T F a)(hb:QS G A T F b):QE G A T F (.ite c a b):=fun C st hm env W σ η fl σ' η' he =>
 have h3:=ap hm
 have h2:=ap h3.1
 have h1:=ap h2.1
 Es.of_eq (us5 h1.1) <| kS1 he
  (fun σ₁ e1 he=>Es.if_ ((snd K c).t _ _ h1.2 env W _ _ _ _ e1) (fun _=>ha _ _ h2.2 _ _ _ _ _ _ _ he) nofun)
  (fun σ₁ e1 he=>Es.if_ ((snd K c).t _ _ h1.2 env W _ _ _ _ e1) nofun (fun _=>hb _ _ h3.2 _ _ _ _ _ _ _ he))
theorem zJ(K:Ok G A T F){c:Ex}:QE G A T F (.asrt c):=fun C st hm env W σ η fl σ' η' he =>
 have h2:=ap hm
 have h1:=ap h2.1
 Es.of_eq (us8 h1.1 h1.2) <| iO1 he fun σ₁ e1 he=>qR (Q:=Es G A C env W _ σ η) he (Es.assert K.hh ((snd K c).t _ _ h2.2 env W _ _ _ _ e1))
theorem cz1:QE G A T F .brk:=fun C st hm env W σ η fl σ' η' he=>qR (Q:=Es G A C env W _ σ η) he (Es.of_eq (iE1 hm) Es.brk)
theorem zG:QE G A T F .pass:=fun C st hm env W σ η fl σ' η' he=>qR (Q:=Es G A C env W _ σ η) he (Es.of_eq (iD1 hm) Es.pass)
theorem xJ(i:Int):evx F (ixE i) σ η=some (.int i,σ):=by
 unfold ixE
 by_cases h:i < 0
 ·rw [if_pos h]
  exact congrArg (fun z=>some (V.int z,σ)) (Int.neg_neg i)
 ·rw [if_neg h];rfl
theorem cy1(K:Ok G A T F){o:Ex}{i:Int}:QE G A T F (.del o i):=fun C st hm env W σ η fl σ' η' he =>
 have h:=ap hm
 (sv h.2).elim fun t ht =>
 have h2:=ap ht.2
 have h1:=ap h2.1
 Es.of_eq (us9 h.1 (xp ht.1 (un9 h1.1))) <| ez1 he fun k σ₁ e1 he=>eS1 he fun l hσ he=>kF1 (bq he).2 fun j hj he'=>qR (Q:=Es G A C env W _ σ η) he'
  (Es.del ((snd K o).e _ _ h1.2 env W _ _ _ _ e1) ((snd K _).e _ _ h2.2 env W _ _ _ _ (xJ i)) (vX hσ (bq he).1 hj rfl))
theorem tU{test:Expr}{body:List Stmt}{c:List AO->ac->Option (Bool × List AO)}{b:List AO->ac->Out}(hc:∀ σ η k σ',c σ η=some (k,σ')->Et G A C env W test σ η k σ')
  (hb:∀ σ η fl σ' η',b σ η=some (fl,σ',η')->Ess G A C env W body σ η fl σ' η'):∀ (n:Nat) (σ:List AO) (η:ac) (fl:Fl) (σ':List AO) (η':ac),whN c b n σ η=some (fl,σ',η')->∃ m,WhR G A C env W test body m σ η fl σ' η':=by
 intro n
 induction n with
 | zero=>intro _ _ _ _ _ h;exact nso h
 | succ n ih =>
  intro σ η fl σ' η' h
  exact kR1 h (fun σ₁ e1 h=>gY1 h (fun σ₂ η₂ e2 h=>(ih _ _ _ _ _ h).elim fun m hr=>⟨m + 1,.turn (hc _ _ _ _ e1) (hb _ _ _ _ _ e2) hr⟩)
   (fun hf e2=>⟨0,hf ▸ .brk (hc _ _ _ _ e1) (hb _ _ _ _ _ e2)⟩) fun v hf e2=>⟨0,hf ▸ .ret (hc _ _ _ _ e1) (hb _ _ _ _ _ e2)⟩)
   fun σ₁ e1 h=>⟨0,qR (Q:=WhR G A C env W test body 0 σ η) h (.stop (hc _ _ _ _ e1))⟩
theorem iU1{P:Prop}{fl:Fl}{o:Option (Option (V × ItS))}{jp:Out}{k:V->ItS->Out}(h:(match o with | none=>none | some none=>jp | some (some (x,st))=>k x st)=some (fl,σ',η'))(lM:o=some none->jp=some (fl,σ',η')->P)(mR:∀ x st,o=some (some (x,st))->k x st=some (fl,σ',η')->P):P:=g21 h lM mR
theorem vJ{tg:Ex}{t:Expr}{body:List Stmt}{b:List AO->ac->Out}(hh:A.handled=none)(hm:mtg C tg t=true)
  (hb:∀ σ η fl σ' η',b σ η=some (fl,σ',η')->Ess G A C env W body σ η fl σ' η'):∀ (n:Nat) (st:ItS) (σ:List AO) (η:ac) (fl:Fl) (σ':List AO) (η':ac),foN tg b n st σ η=some (fl,σ',η')->∃ m,FoR G A C env W t body m st σ η fl σ' η':=by
 intro n
 induction n with
 | zero=>intro _ _ _ _ _ _ h;exact nso h
 | succ n ih =>
  intro st σ η fl σ' η' h
  exact iU1 h (fun hst h=>⟨0,qR (Q:=FoR G A C env W t body 0 st σ η) h (.stop hst)⟩) fun x st' hst h=>hh1 h fun η₁ ha h =>
   have a:=jR hh hm ha env W
   gY1 h (fun σ₂ η₂ e2 h=>(ih _ _ _ _ _ _ h).elim fun m hr=>⟨m + 1,.turn hst a (hb _ _ _ _ _ e2) hr⟩)
    (fun hf e2=>⟨0,hf ▸ .brk hst a (hb _ _ _ _ _ e2)⟩) fun v hf e2=>⟨0,hf ▸ .ret hst a (hb _ _ _ _ _ e2)⟩
theorem zF(K:Ok G A T F){n:Nat}{c:Ex}{b:Sx}(hb:QS G A T F b):QE G A T F (.whil n c b):=fun C st hm env W σ η fl σ' η' he =>
 have h3:=ap hm
 have h2:=ap h3.1
 have h1:=ap h2.1
 (tU (fun σ η k σ' e=>(snd K c).t _ _ h2.2 env W _ _ _ _ e) (fun σ η fl σ' η' e=>hb _ _ h3.2 env W _ _ _ _ _ e) _ _ _ _ _ _ he).elim fun m hr=>Es.of_eq (us6 h1.1 h1.2) (Es.while hr)
theorem cx1(K:Ok G A T F){tg it:Ex}{b:Sx}(hb:QS G A T F b):QE G A T F (.for_ tg it b):=fun C st hm env W σ η fl σ' η' he =>
 have h5:=ap hm
 have h4:=ap h5.1
 have h3:=ap h4.1
 have h2:=ap h3.1
 have h1:=ap h2.1
 Es.of_eq (us7 h1.1 h1.2) <| hp1 he fun x σ₁ e1 he=>kG1 he fun s hst he =>
  (vJ K.hh h2.2 (fun σ η fl σ' η' e=>hb _ _ h5.2 env W _ _ _ _ _ e) _ _ _ _ _ _ _ he).elim fun m hr=>Es.for_ K.hh h4.2 ((snd K it).e _ _ h3.2 env W _ _ _ _ e1) hst hr
structure SndS (G:Wd) (A:Around) (T:Tab) (F:Fn) (x:Sx):Prop where
 e:QE G A T F x
 s:QS G A T F x
noncomputable def f11(x:Sx):Bool:=!(x.ctorIdx == 0 || x.ctorIdx == 1)
theorem ft{x:Sx}(h:QE G A T F x)(hs:f11 x=true):SndS G A T F x:=⟨h,fun C l hm=>by
 cases x <;> first | (exact ftr hs;done) | cases hm⟩
theorem iV1(K:Ok G A T F)(x:Sx):SndS G A T F x:=by
 induction x with
 | skip=>exact ⟨fun C st hm=>(nomatch (show false=true from hm)),fun C l hm env W σ η fl σ' η' he=>mj hm ▸ qR (Q:=Ess G A C env W [] σ η) he Ess.nil⟩
 | seq a b ha hb =>
  refine ⟨fun C st hm=>(nomatch (show false=true from hm)),fun C l hm env W σ η fl σ' η' he=>?_⟩
  cases l with
  | nil=>exact ftr hm
  | cons st l =>
   have h:=ap hm
   exact iT1 he (fun σ₁ η₁ e1 he=>Ess.cons (ha.e _ _ h.1 env W _ _ _ _ _ e1) (hb.s _ _ h.2 env W _ _ _ _ _ he)) fun hf he=>Ess.stop hf (ha.e _ _ h.1 env W _ _ _ _ _ he)
 | asg i e=>exact ft (cB1 K) rfl
 | asgM i e=>exact ft (zL K) rfl
 | asgT is e=>exact ft (zK K) rfl
 | asg2 i j e=>exact ft (zM K) rfl
 | aug i op e=>exact ft (cA1 K) rfl
 | augL i e=>exact ft (zI K) rfl
 | expr e=>exact ft (zH K) rfl
 | ret e=>exact ft (cv1 K) rfl
 | ite c a b ha hb=>exact ft (cw1 K ha.s hb.s) rfl
 | whil n c b hb=>exact ft (zF K hb.s) rfl
 | for_ tg it b hb=>exact ft (cx1 K hb.s) rfl
 | dead=>exact ft (fun C st hm env W σ η fl σ' η' he=>nomatch (show none=some _ from he)) rfl
 | brk=>exact ft cz1 rfl
 | pass=>exact ft zG rfl
 | asrt c=>exact ft (zJ K) rfl
 | del o i=>exact ft (cy1 K) rfl
end
noncomputable abbrev tN:=List V->List AO->Option (V × List AO)
set_option genInjectivity false in
set_option genSizeOf false in
inductive En where
 | code (np more:Nat) (body:Sx)
 | prim (p:tN)
noncomputable def jZ(F:Fn)(np more:Nat)(body:Sx):tN:=fun vs σ =>
 if vs.length=np then match exs F body σ (az vs more) with
  | some (.ret v,σ₁,_)=>some (v,σ₁)
  | some (.next,σ₁,_)=>some (.none,σ₁)
  | _=>none
 else none
noncomputable def lev(tab:Nat->Option En):Nat->Fn
 | 0,_,_,_=>none
 | n + 1,f,vs,σ=>match tab f with
  | some (.code np more body)=>jZ (lev tab n) np more body vs σ
  | some (.prim p)=>p vs σ
  | none=>none
noncomputable def iP(G:Wd)(A:Around)(x:Str)(p:tN):Prop:=∀ {C env W η σ σ₁ σ₂ q pos} {args:List Expr} {vs:List V} {v:V},C.kind x=some .globalImplicit->(x == ("__debug__":Str))=false->aI args=true ->
  Evs G A C env W args σ η vs σ₁->p vs σ₁=some (v,σ₂)->Ev G A C env W (.Call (.Name x q) args [] pos) σ η v σ₂
noncomputable def iO(G:Wd)(A:Around)(n:Str)(p:tN):Prop:=∀ {C env W η σ σ₁ σ₂ aj q pos} {o:Expr} {args:List Expr} {vs:List V} {v:V} {k l i},cJ o=true->aI args=true->args.length < 29->(q.endLine == pos.line)=true ->
  Ev G A C env W o σ η (.ref k) σ₁->σ₁[k]?=some ⟨l,some i⟩->Evs G A C env W args σ₁ η vs σ₂->p (.ref k::vs) σ₂=some (v,aj)->Ev G A C env W (.Call (.Attribute o n q) args [] pos) σ η v aj
noncomputable def er1(G:Wd)(T:Tab)(x:Str):En->Prop
 | .code np more body=>∃ a fd b C ns,Gl G x (.ref a)/\Def G a fd b C ns/\ns.length=np/\mss T body C b=true
 | .prim p=>∀ n A,Room A (n + 4)->iP G A x p
noncomputable def hQ1(G:Wd)(n:Str):En->Prop
 | .code _ _ _=>False
 | .prim p=>∀ m A,Room A (m + 4)->iO G A n p
structure TabOk (G:Wd) (T:Tab) (tab:Nat->Option En):Prop where
 bf:∀ f:Bf,Gl G (Str.ofString f.id) (.builtin f.id)
 rng:Gl G "range" (.type "range")
 lst:Gl G "list" (.type "list")
 gs:∀ x l,T.gs x=some l->l.length<=lim/\∃ t,Gl G x (.str ⟨l.toArray⟩ t)
 call:∀ f x,T.name f=some x->∀ e,tab f=some e->er1 G T x e
 meth:∀ f n,T.meth f=some n->∀ e,tab f=some e->hQ1 G n e
theorem fR1{o:Option (Fl × List AO × ac)}{r:V × List AO}{P:Prop} (h:(match o with
  | some (.ret v,σ₁,_)=>some (v,σ₁)
  | some (.next,σ₁,_)=>some (V.none,σ₁)
  | _=>none)=some r) (q:∀ fl η,o=some (fl,r.2,η)->(fl=.ret r.1\/fl=.next/\r.1=.none)->P):P:=by
 cases o with
 | none=>exact nso h
 | some o =>
  obtain ⟨fl,σ₁,η⟩:=o
  cases fl with
  | ret v=>obtain rfl:=siX h;exact q _ η rfl (.inl rfl)
  | next=>obtain rfl:=siX h;exact q _ η rfl (.inr ⟨rfl,rfl⟩)
  | brk=>exact nso h
theorem hF1{β:Type}{o:Option En}{f:Nat->Nat->Sx->Option β}{g:tN->Option β}{r:β}{P:Prop} (h:(match o with
  | some (.code np more body)=>f np more body
  | some (.prim p)=>g p
  | none=>none)=some r) (q:∀ np more body,o=some (.code np more body)->f np more body=some r->P) (q2:∀ p,o=some (.prim p)->g p=some r->P):P:=by
 cases o with
 | none=>exact nso h
 | some e=>cases e with
  | code a b c=>exact q a b c rfl h
  | prim p=>exact q2 p rfl h
theorem kJ{G:Wd}{A:Around}{T:Tab}{F:Fn}{a:Addr}{fd:FuncData}{b:List Stmt}{C:Cx}{ns:List Str}{np more n:Nat}{body:Sx}{vs:List V}{v:V}{σ σ':List AO}
  (D:Def G a fd b C ns) (hn:ns.length=np) (hm:mss T body C b=true) (hr:Room A (n + 1)) (K:∀ A',Room A' n->Ok G A' T F) (h:jZ F np more body vs σ=some (v,σ')):On G A (fun cvs=>PySem.call (.ref a) cvs) σ vs v σ':=by
 have h':=bq h
 refine fR1 h'.2 fun fl η e1 hf=>?_
 exact On.def D hr (h'.1.trans hn.symm) hf fun A' env W hA=>(iV1 (K A' hA) body).s _ _ hm env W _ _ _ _ _ e1
theorem c81{G:Wd}{T:Tab}{tab:Nat->Option En}(H:TabOk G T tab)(n:Nat):∀ (A:Around),Room A (n + 4)->Ok G A T (lev tab n):=by
 induction n with
 | zero=>exact fun A hr=>⟨hr.handled,by have:=hr.units;lia,H.bf,H.rng,H.lst,H.gs,fun _ _ _ {_ _ _ _ _ _ _ _ _ _ _ _} _ _ _ _ hF=>nso hF,fun _ _ _ {_ _ _ _ _ _ _ _ _ _ _ _ _ _ _ _ _} _ _ _ _ _ _ _ hF=>nso hF⟩
 | succ n ih =>
  refine fun A hr=>⟨hr.handled,by have:=hr.units;lia,H.bf,H.rng,H.lst,H.gs,?_,?_⟩
  ·intro f x hx C env W η σ σ₁ σ₂ p pos args vs v hk hd hns hE hF
   refine hF1 (g:=fun p=>p vs σ₁) hF (fun np more body ht h=>?_) fun q ht h=>H.call f x hx _ ht (n + 1) A hr hk hd hns hE h
   exact g71 (H.call f x hx _ ht) fun a fd b C' ns g D hl hm=>aO D.obj fun o ho hfd=>Ev.callF hk hd g hns ho D.la hfd hE (kJ (n:=n + 4) D hl hm hr ih h)
  ·intro f x hx C env W η σ σ₁ σ₂ aj p pos o args vs v k l i h1 h2 h3 h4 h5 h6 h7 hF
   exact hF1 (g:=fun p=>p (.ref k::vs) σ₂) hF (fun np more body ht h=>(H.meth f x hx _ ht).elim) fun q ht h=>H.meth f x hx _ ht (n + 1) A hr h1 h2 h3 h4 h5 h6 h7 h
section
variable {F:Fn} {σ:List AO} {η:ac}
theorem cA{v:V}:evx F (.cst v) σ η=(some (v,σ)):=rfl
theorem cz{l:List Nat}:evx F (.glo l) σ η=(some (.str l,σ)):=rfl
theorem bZ{i:Nat}:evx F (.loc i) σ η=(match η[i]? with
  | some (some v)=>some (v,σ)
  | _=>none):=rfl
theorem cw :evx F (.nil) σ η=(some (.none,σ)):=rfl
theorem cf{es:Ex}:evx F (.tup es) σ η=(match evs F es σ η with
  | some (vs,σ₁)=>if vs.length<=lim then some (.tup vs,σ₁) else none
  | none=>none):=rfl
theorem cy{es:Ex}:evx F (.lst es) σ η=(match evs F es σ η with
  | some (vs,σ₁)=>if vs.length<=lim then some (.lst vs,σ₁) else none
  | none=>none):=rfl
theorem ch{es:Ex}:evx F (.new es) σ η=(match evs F es σ η with
  | some (vs,σ₁)=>if vs.length<=lim then some (.ref σ₁.length,σ₁++[⟨vs,none⟩]) else none
  | none=>none):=rfl
theorem ck{op:Operator}{a:Ex}{b:Ex}:evx F (.bin op a b) σ η=(match evx F a σ η with
  | some (x,σ₁)=>match evx F b σ₁ η with
   | some (y,σ₂)=>(qj op x y).map fun v=>(v,σ₂)
   | none=>none
  | none=>none):=rfl
theorem cx{a:Ex}:evx F (.neg a) σ η=(match evx F a σ η with
  | some (.int i,σ₁)=>some (.int (-i),σ₁)
  | _=>none):=rfl
theorem cg{a:Ex}:evx F (.not a) σ η=(match evx F a σ η with
  | some (x,σ₁)=>(aY x).map fun b=>(.bool (!b),σ₁)
  | none=>none):=rfl
theorem cB{op:CmpOp}{a:Ex}{b:Ex}:evx F (.cmp op a b) σ η=(match evx F a σ η with
  | some (x,σ₁)=>match evx F b σ₁ η with
   | some (y,σ₂)=>(dF op σ₂ x y).map fun k=>(.bool k,σ₂)
   | none=>none
  | none=>none):=rfl
theorem cC{a:Ex}{b:Ex}:evx F (.and a b) σ η=(match evx F a σ η with
  | some (x,σ₁)=>match aY x with
   | some true=>evx F b σ₁ η
   | some false=>some (x,σ₁)
   | none=>none
  | none=>none):=rfl
theorem fq{a:Ex}{b:Ex}:evx F (.or a b) σ η=(match evx F a σ η with
  | some (x,σ₁)=>match aY x with
   | some false=>evx F b σ₁ η
   | some true=>some (x,σ₁)
   | none=>none
  | none=>none):=rfl
theorem ci{c:Ex}{a:Ex}{b:Ex}:evx F (.ite c a b) σ η=(match evx F c σ η with
  | some (x,σ₁)=>match aY x with
   | some true=>evx F a σ₁ η
   | some false=>evx F b σ₁ η
   | none=>none
  | none=>none):=rfl
theorem cj{a:Ex}{i:Ex}:evx F (.idx a i) σ η=(match evx F a σ η with
  | some (x,σ₁)=>match evx F i σ₁ η with
   | some (y,σ₂)=>(ez σ₂ x y).map fun v=>(v,σ₂)
   | none=>none
  | none=>none):=rfl
theorem cu{a:Ex}{lo:Ex}{hi:Ex}{st:Ex}:evx F (.slc a lo hi st) σ η=(match evx F a σ η with
  | some (x,σ₁)=>match evx F lo σ₁ η with
   | some (l,σ₂)=>match evx F hi σ₂ η with
    | some (h,aj)=>match evx F st aj η with
     | some (s,σ₄)=>(mQ σ₄ x l h s).map fun v=>(v,σ₄)
     | none=>none
    | none=>none
   | none=>none
  | none=>none):=rfl
theorem iS{vars:List Var}{tg:Ex}{elt:Ex}{it:Ex}{cond:Ex}:evx F (.comp vars tg elt it cond) σ η=(match evx F it σ η with
  | some (x,σ₁)=>match a6 x with
   | some st=>match fR tg (fun σ η=>match cond with
     | .nil=>some (true,σ)
     | c=>match evx F cond σ η with
      | some (y,σ')=>(aY y).map fun b=>(b,σ')
      | none=>none) (fun σ η=>evx F elt σ η) (st.fuel σ₁) st σ₁ (clr η vars) with
    | some (out,σ₂)=>if out.length<=lim then some (.lst out,σ₂) else none
    | none=>none
   | none=>none
  | none=>none):=rfl
theorem fs{f:Bf}{args:Ex}:evx F (.bf f args) σ η=(match evs F args σ η with
  | some (vs,σ₁)=>(bfF f σ₁ vs).map fun v=>(v,σ₁)
  | none=>none):=rfl
theorem aR{args:Ex}:evx F (.range args) σ η=(match evs F args σ η with
  | some (vs,σ₁)=>(uI vs).map fun v=>(v,σ₁)
  | none=>none):=rfl
theorem eJ{f:Me}{o:Ex}{args:Ex}:evx F (.me f o args) σ η=(match evx F o σ η with
  | some (x,σ₁)=>if j2 σ₁ x=some f.T then match evs F args σ₁ η with
   | some (vs,σ₂)=>(meF f σ₂ x vs).map fun v=>(v,σ₂)
   | none=>none
   else none
  | none=>none):=rfl
theorem bA1{o:Ex}{y:List Nat}{z:List Nat}:evx F (.rep o y z) σ η=(match evx F o σ η with
  | some (.str x,σ₁)=>(meF .replace σ₁ (.str x) [.str y,.str z]).map fun v=>(v,σ₁)
  | _=>none):=rfl
theorem aJ{o:Ex}{x:Ex}:evx F (.append o x) σ η=(match evx F o σ η with
  | some (.ref k,σ₁)=>match σ₁[k]? with
   | some ⟨_,none⟩=>match evx F x σ₁ η with
    | some (v,σ₂)=>match σ₂[k]? with
     | some ⟨l,none⟩=>if l.length < lim then some (.none,σ₂.set k ⟨l++[v],none⟩) else none
     | _=>none
    | none=>none
   | _=>none
  | _=>none):=rfl
theorem bn{f:Nat}{args:Ex}:evx F (.call f args) σ η=(match evs F args σ η with
  | some (vs,σ₁)=>F f vs σ₁
  | none=>none):=rfl
theorem bj{f:Nat}{o:Ex}{args:Ex}:evx F (.meth f o args) σ η=(match evx F o σ η with
  | some (.ref k,σ₁)=>match σ₁[k]? with
   | some ⟨_,some _⟩=>match evs F args σ₁ η with
    | some (vs,σ₂)=>F f (.ref k::vs) σ₂
    | none=>none
   | _=>none
  | _=>none):=rfl
theorem cb :evs F (.nil) σ η=(some ([],σ)):=rfl
theorem bb{e:Ex}{es:Ex}:evs F (.cons e es) σ η=(match evx F e σ η with
  | some (v,σ₁)=>match evs F es σ₁ η with
   | some (vs,σ₂)=>some (v::vs,σ₂)
   | none=>none
  | none=>none):=rfl
theorem bE :exs F (.skip) σ η=(some (.next,σ,η)):=rfl
theorem bB{a:Sx}{b:Sx}:exs F (.seq a b) σ η=(match exs F a σ η with
  | some (.next,σ₁,η₁)=>exs F b σ₁ η₁
  | r=>r):=rfl
theorem bI{i:Nat}{e:Ex}:exs F (.asg i e) σ η=(match evx F e σ η with
  | some (v,σ₁)=>some (.next,σ₁,η.set i (some v))
  | none=>none):=rfl
theorem bh{is:List Nat}{e:Ex}:exs F (.asgT is e) σ η=(match evx F e σ η with
  | some (.tup vs,σ₁)=>if vs.length=is.length then some (.next,σ₁,yC η is vs) else none
  | _=>none):=rfl
theorem bi{i:Nat}{j:Nat}{e:Ex}:exs F (.asg2 i j e) σ η=(match evx F e σ η with
  | some (.tup [u,v],σ₁)=>some (.next,σ₁,(η.set j (some v)).set i (some u))
  | _=>none):=rfl
theorem qK{i:Nat}{op:Operator}{e:Ex}:exs F (.aug i op e) σ η=(match η[i]? with
  | some (some u)=>match evx F e σ η with
   | some (v,σ₁)=>(eL1 op u v).map fun w=>(.next,σ₁,η.set i (some w))
   | none=>none
  | _=>none):=rfl
theorem li{i:Nat}{e:Ex}:exs F (.augL i e) σ η=(match η[i]? with
  | some (some (.ref k))=>match evx F e σ η with
   | some (v,σ₁)=>match σ₁[k]?,der σ₁ v with
    | some ⟨l,none⟩,.lst pD=>if l.length + pD.length<=lim then some (.next,σ₁.set k ⟨l++pD,none⟩,η.set i (some (.ref k))) else none
    | _,_=>none
   | none=>none
  | _=>none):=rfl
theorem be{e:Ex}:exs F (.expr e) σ η=(match evx F e σ η with
  | some (v,σ₁)=>some (.next,σ₁,η)
  | none=>none):=rfl
theorem bY{e:Ex}:exs F (.ret e) σ η=(match evx F e σ η with
  | some (v,σ₁)=>some (.ret v,σ₁,η)
  | none=>none):=rfl
theorem ca{c:Ex}{a:Sx}{b:Sx}:exs F (.ite c a b) σ η=(match evt F c σ η with
  | some (true,σ₁)=>exs F a σ₁ η
  | some (false,σ₁)=>exs F b σ₁ η
  | none=>none):=rfl
theorem tP{tg:Ex}{it:Ex}{b:Sx}:exs F (.for_ tg it b) σ η=(match evx F it σ η with
  | some (x,σ₁)=>match a6 x with
   | some st=>foN tg (fun σ η=>exs F b σ η) (st.fuel σ₁) st σ₁ η
   | none=>none
  | none=>none):=rfl
theorem ct :exs F (.brk) σ η=(some (.brk,σ,η)):=rfl
theorem bF :exs F (.pass) σ η=(some (.next,σ,η)):=rfl
theorem bg{c:Ex}:exs F (.asrt c) σ η=(match evt F c σ η with
  | some (true,σ₁)=>some (.next,σ₁,η)
  | _=>none):=rfl
theorem qJ{o:Ex}{i:Int}:exs F (.del o i) σ η=(match evx F o σ η with
  | some (.ref k,σ₁)=>match σ₁[k]? with
   | some ⟨l,none⟩=>if -1000000000<=i/\i<=1000000000 then match seqIndex? i l.length with
    | some j=>some (.next,σ₁.set k ⟨l.eraseIdx j,none⟩,η)
    | none=>none
    else none
   | _=>none
  | _=>none):=rfl
theorem xt{c:Ex}:evt F c σ η=(match evx F c σ η with
 | some (x,σ₁)=>(aY x).map fun b=>(b,σ₁)
 | none=>none):=rfl
end
section
variable {G:Wd} {A:Around} {C C':Cx} {env cenv:Env} {W W':List Addr} {η η' η₁ η₂ bw:ac} {σ σ' σ₁ σ₂ aj:List AO}
theorem tw{prog:Program}{w:World}{knd:KeyKind prog w Int}{S:Int->Bool}{n:Nat}{a:Addr}{h h':Heap}(hS:h.SetOf knd a S n)(hk:∀ o,h.get? a=some o->h'.get? a=some o):h'.SetOf knd a S n:=by
 refine byQ fun Q kQ=>?_
 refine fT1 (hS) fun o es ep t ho r=>?_
 refine kQ ?_
 exact ky1 o es ep t (hk o ho) r
theorem Ev.inSet{knd:KeyKind G.prog G.w Int}(hkn:∀ i t,knd.is i (.int i t)=true){l:Expr}{x:Str}{p pos:Pos}{i:Int}{S:Int->Bool}{n:Nat}{a:Addr}(hk:C.kind x=some .globalImplicit)(hd:(x == ("__debug__":Str))=false)(g:Gl G x (.ref a))
  (hS:G.s₀.heap.SetOf knd a S n) (ha:a ∉ G.loose) (d4:Ev G A C env W l σ η (.int i) σ₁):Ev G A C env W (.Compare l [.In] [.Name x p] pos) σ η (.bool (S i)) σ₁:=fun ρ s R N ht=>by
 refine wpAny_Compare1 (d4.use R N ht fun bD ao ab ag aL aM aw=>RE.global ag.rel aL hk hd g ?_) rfl
 obtain ⟨t,rfl⟩:=RV.int_iff aw
 refine wpAny_inSet_of (hkn i t) rfl (tw hS fun o ho=>ag.rel.keep a o ha ho) ?_
 exact ⟨ab,ag.trans (Step.toks ag.rel _),RV.bool_⟩
theorem Ev.dictGet{knd:KeyKind G.prog G.w Int}(hkn:∀ i t,knd.is i (.int i t)=true){arg:Expr}{x:Str}{p apos pos:Pos}{i:Int}{f:Int->Option Value}{v:V}{d:Addr}(hk:C.kind x=some .globalImplicit)(hd:(x == ("__debug__":Str))=false)(g:Gl G x (.ref d))
  (hds:(d == sysModules)=false) (hno:∃ o,G.s₀.heap.get? d=some o/\o.cls=.type "dict"/\o.dict=none) (hM:∀ s:Shared,(∀ o,G.s₀.heap.get? d=some o->s.heap.get? d=some o)->s.heap.MapOf knd d f) (ha:d ∉ G.loose) (hv:∀ (h:Heap) ρ,RV h ρ v ((f i).getD .none)) (hn:gJ arg=true) (hline:(apos.endLine == pos.line)=true)
  (d4:Ev G A C env W arg σ η (.int i) σ₁):Ev G A C env W (.Call (.Attribute (.Name x p) "get" apos) [arg] [] pos) σ η v σ₁:=fun ρ s R N ht=>by
 have hn':aI [arg]=true:=by dsimp only [aI];rw [hn];rfl
 refine wpAny_Call_method_lateS (fp rfl _) ?_ hline ?_
 ·rw [eM hn'];rfl
 ·refine RE.global R N hk hd g ?_
  refine a7 (hno) fun o h_p=>?_;have ho:=h_p.1;have hc:=h_p.2.1;have hdn:=h_p.2.2
  have hos:=R.keep d o ha ho
  refine f01 ("dict") ("dict.get") F.plainAttrs_dict F.slot_dict_get F.type_dict_get ⟨o,hos,hc⟩ (fun b e=>by cases e;exact ⟨o,hos,hdn⟩) ?_
  refine (a9 hn) ▸ ?_
  refine wpAny_dict_get1 (knd:=knd) hds (d4.use R N ht fun bD ao ab ag aL aM aw=>?_)
  obtain ⟨t,rfl⟩:=RV.int_iff aw
  exact ⟨i,f,hkn i t,hM ao fun o ho=>ag.rel.keep d o ha ho,ab,ag.trans (Step.toks ag.rel _),hv _ _⟩
end
section
variable {G:Wd} {A:Around} {σ σ' σ₁:List AO}
section
variable {C:Cx} {env:Env} {W:List Addr} {η:ac}
theorem Ev.var{n:Str}{i:Nat}{v:V}{p:Pos}(h:d6 C n i=true)(hv:η[i]?=some (some v)):Ev G A C env W (.Name n p) σ η v σ:=by
 refine byQ fun Q kQ=>?_
 obtain ⟨y,hy,rfl,rfl⟩:=fe h
 refine kQ ?_
 exact Ev.loc hy hv
end
noncomputable def d41(P:Nat->Pos):List Stmt:=[.Return (some (.Compare (.Call (.Name "ord" (P 0)) [.Name "code" (P 1)] [] (P 2)) [.In] [.Name "b1_set" (P 3)] (P 4))) (P 5)]
noncomputable def b1M(C:Cx)(body:List Stmt):Prop:=∃ P:Nat->Pos,body=d41 P/\(hY C "ord" "ord" && d6 C "code" 0 && hY C "b1_set" "b1_set")=true
theorem gN1{a d:Addr}{fd:FuncData}{body:List Stmt}{C:Cx}{n m k:Nat}{knd:KeyKind G.prog G.w Int}{S:Int->Bool}{c:Nat}(hkn:∀ i t,knd.is i (.int i t)=true)(D:Def G a fd body C ["code"])(hm:b1M C body)
  (hr:Room A (n + 1)) (ho:Gl G "ord" (.builtin "ord")) (g:Gl G "b1_set" (.ref d)) (hS:G.s₀.heap.SetOf knd d S m) (hd:d ∉ G.loose) :
  On G A (fun cvs=>call (.ref a) cvs) σ [.str [c]] (.bool (S c)) σ:=by
 refine byQ fun Q kQ=>?_
 obtain ⟨P,rfl,hm⟩:=hm
 have q_1:=ap hm;have q_2:=ap q_1.1;have h1:=q_2.1;have h2:=q_2.2;have h4:=q_1.2
 have h_p:=b6 h1;have k1:=h_p.2.1;have d1:=h_p.2.2
 have h_p:=b6 h4;have k2:=h_p.2.1;have d2:=h_p.2.2
 refine kQ ?_
 refine On.def (k:=0) D hr rfl (.inl rfl) fun A' env W hA=>Ess.stop nofun (Es.ret (Ev.inSet hkn k2 d2 g hS hd (Ev.callB (id:="ord") k1 d1 ho rfl (Evs.cons rfl (Ev.var h2 rfl) Evs.nil) (jO (f:=.ord) hA.handled (by rfl)))))
end
open Builtin Builtin.Str
section
variable {G:Wd} {A:Around} {σ σ' σ₁:List AO}
noncomputable def pF(c:Nat):List Nat:=(placed ⟨#[c]⟩ fun i _=>Unicode.lowerAt #[c] i).toList
theorem pE{c:Nat}(h:(pF c).length<=lim):On G A (fun cvs=>call (.builtin "str.lower") cvs) σ [.str [c]] (.str (pF c)) σ:=fun ρ s cvs R r ht=>by
 obtain ⟨bD,r',rfl,aw,aG⟩:=RVs.cons_iff r
 refine (RVs.nil_iff aG) ▸ ?_
 obtain ⟨_,t,rfl⟩:=RV.str_iff aw
 have hsz:(placed ⟨#[c]⟩ fun i _=>Unicode.lowerAt #[c] i).size<=lim:=by unfold pF at h;simpa using h
 have hl:tooLong (placed ⟨#[c]⟩ fun i _=>Unicode.lowerAt #[c] i).size=false:=by
  unfold tooLong
  have:sizeLine=16777216:=rfl
  unfold lim at hsz
  simp;exact Nat.le_trans ‹_› (by decide)
 refine call_gives F.slot_str_lower (typeIs_str _ _ _) F.entry_str_lower (F.args_str_lower_1 _) (gives_str_lower ⟨#[c]⟩ t hl) ?_
 dsimp only [Made.post]
 exact ⟨Nat.le_trans hsz (by decide),dm (x:=⟨placed ⟨#[c]⟩ fun i _=>Unicode.lowerAt #[c] i⟩) R h rfl⟩
end
theorem dB{n:Str}{c:Value}:∀ (ns:List Str) (cvs:List Value) (j:Nat),ey ns=true->ns[j]?=some n->cvs[j]?=some c->(ns.zip cvs).reverse.lookup n=some c
 | [],_,j,_,h,_=>by exact nso h
 | _::_,[],j,_,_,h=>by exact nso h
 | k::ns,v::cvs,0,hd,hn,hc=>by
  simp at hn hc
  subst hn hc
  dsimp only [ey] at hd
  obtain ⟨h1,h2⟩:=Bool.and_eq_true_iff.mp hd
  rw [List.zip_cons_cons,List.reverse_cons,List.lookup_append]
  have:(ns.zip cvs).reverse.lookup k=none:=by
   rw [List.lookup_eq_none_iff]
   intro p hp
   rw [List.mem_reverse] at hp
   have:=(List.of_mem_zip (a:=p.1) (b:=p.2) hp).1
   simp only [Bool.not_eq_true',List.contains_eq_mem,decide_eq_false_iff_not] at h1
   simp
   rintro rfl
   exact h1 this
  refine (this) ▸ ?_
  simp [List.lookup]
 | k::ns,v::cvs,j + 1,hd,hn,hc=>by
  dsimp only [ey] at hd
  obtain ⟨h1,h2⟩:=Bool.and_eq_true_iff.mp hd
  rw [List.zip_cons_cons,List.reverse_cons,List.lookup_append,dB ns cvs j h2 (by simpa using hn) (by simpa using hc)]
  rfl
noncomputable def kN(s:Scope):Bool:=s.names.all fun x=>!(x.2 == NameKind.cell)
noncomputable def k9(s:Scope)(ns:List Str):Bool:=ns.all fun y=>s.names.lookup y == some NameKind.local
theorem gf{s:Scope}(h:kN s=true):∀ x∈s.names,x.2≠.cell:=fun x hx e=>by
 have q:=List.all_eq_true.mp h x hx
 replace q:=(e) ▸ q
 exact ftr q
theorem gv{s:Scope}{ns:List Str}(h:k9 s ns=true):∀ y∈ns,s.names.lookup y=some .local:=fun y hy=>eq_of_beq (List.all_eq_true.mp h y hy)
structure DefM (G:Wd) (a:Addr) (fd:FuncData) (body:List Stmt) (C:Cx) (ns:List Str):Prop where
 obj:∃ o,G.s₀.heap.get? a=some o/\o.data=.func fd/\o.cls=.type "function"
 la:a ∉ G.loose
 nolimit:∃ mc,G.s₀.heap.Ns cStatics mc/\mc "sys.recursionlimit"=none
 ls:cStatics ∉ G.loose
 code:∃ c o vs t file tf,fd.code=.ref c/\c ∉ G.loose/\G.s₀.heap.get? c=some o/\o.data=.fields vs/\vs[1]?=some (.str fd.qualname t)/\vs[2]?=some (.str file tf)/\((G.prog.main.file:Str) == file)=true
 body:fd.body=.stmts body
 scope:fd.scope=C.scope
 glob:fd.globals=mainGlobals
 blt:fd.builtins=builtinsNs
 co:fd.scope.isCoroutine=false
 gen:fd.scope.isGenerator=false
 cells:∀ x∈fd.scope.names,x.2≠.cell
 locs:∀ n∈ns,fd.scope.names.lookup n=some .local
 ok:dC C ns=true
section
variable {G:Wd} {A:Around} {C C':Cx} {env cenv:Env} {W W':List Addr} {η η' η₁ η₂ bw:ac} {σ σ' σ₁ σ₂ aj σ₄ b9:List AO} {ρ ρ' ab:Rho} {s s' ao aA:Shared}
noncomputable def EssAt(G:Wd)(A:Around)(C:Cx)(env:Env)(W:List Addr)(body st:List Stmt)(σ:List AO)(η:ac)(fl:Fl)(σ':List AO)(η':ac):Prop :=
 ∀ ρ s,Rel G σ ρ s->RE G C env W η ρ s->0 < s.toks->PySem.wpAt (model G.prog G.w) A (.func body env) (execs st env) (fun f s'=>0 < s'.toks/\∃ ρ',StepW G W ρ s ρ' s' σ'/\RE G C env W η' ρ' s'/\RF s'.heap ρ' fl f) No s
noncomputable def EsAt(G:Wd)(A:Around)(C:Cx)(env:Env)(W:List Addr)(body:List Stmt)(st:Stmt)(σ:List AO)(η:ac)(fl:Fl)(σ':List AO)(η':ac):Prop :=
 ∀ ρ s,Rel G σ ρ s->RE G C env W η ρ s->0 < s.toks->PySem.wpAt (model G.prog G.w) A (.func body env) (exec st env) (fun f s'=>0 < s'.toks/\∃ ρ',StepW G W ρ s ρ' s' σ'/\RE G C env W η' ρ' s'/\RF s'.heap ρ' fl f) No s
theorem EsAt.of{body:List Stmt}{st:Stmt}{fl:Fl}(h:Es G A C env W st σ η fl σ' η'):EsAt G A C env W body st σ η fl σ' η':=fun ρ s R N ht =>
 wpAt_of_wpAny (h.use R N ht fun f ao ab ag aL aM aw=>⟨aM,ab,ag,aL,aw⟩)
theorem EssAt.of{body st:List Stmt}{fl:Fl}(h:Ess G A C env W st σ η fl σ' η'):EssAt G A C env W body st σ η fl σ' η':=fun ρ s R N ht =>
 wpAt_of_wpAny (h.use R N ht fun f ao ab ag aL aM aw=>⟨aM,ab,ag,aL,aw⟩)
theorem EssAt.cons{body rest:List Stmt}{st:Stmt}{fl:Fl}(h:EsAt G A C env W body st σ η .next σ₁ η₁)(hr:EssAt G A C env W body rest σ₁ η₁ fl σ₂ η₂):EssAt G A C env W body (st::rest) σ η fl σ₂ η₂:=fun ρ s R N ht =>
 ks_wpAt_execs_cons (ks_wpAt_mono (h ρ s R N ht) (fun f ao ⟨aM,ab,ag,aL,aw⟩=>by
  have e:f=.next:=aw
  subst e
  exact ks_wpAt_mono (hr ab ao ag.rel aL aM) ((by rintro f aA ⟨dH,av,au,cN,aG⟩;exact ⟨dH,av,ag.trans au,cN,aG⟩)) fun _ _ f=>f.elim) fun _ _ f=>f.elim)
theorem EssAt.stop{body rest:List Stmt}{st:Stmt}{v:V}(h:EsAt G A C env W body st σ η (.ret v) σ₁ η₁):EssAt G A C env W body (st::rest) σ η (.ret v) σ₁ η₁:=fun ρ s R N ht =>
 ks_wpAt_execs_cons (ks_wpAt_mono (h ρ s R N ht) (fun f ao ⟨aM,ab,ag,aL,aw⟩=>by
  obtain ⟨cv,h_p⟩:=aw;obtain rfl:=h_p.1;have hv:=h_p.2
  exact ⟨aM,ab,ag,aL,cv,rfl,hv⟩) fun _ _ f=>f.elim)
theorem yH{fd:FuncData}{a L:Addr}{ns:List Str}{vs:List V}{cvs:List Value}{k:Nat}(P:dC C ns=true)(hs:fd.scope=C.scope)(hg:fd.globals=mainGlobals)(hb:fd.builtins=builtinsNs)(hc:∀ x∈fd.scope.names,x.2≠.cell)
  (hL:Off ρ L/\G.s₀.heap.get? L=none/\L ∉ G.loose) (hns:s.heap.Ns L (fun x=>List.lookup x (ns.zip cvs).reverse)) (r:RVs s.heap ρ vs cvs) (hlen:vs.length=ns.length):RE G C (callEnv fd L a) [L] (az vs k) ρ s:=by
 refine z3 (br P) fun hCok hnd hvars _=>?_
 have nocell:∀ y∈C.vars,C.kind y.name=some .cell->False:=fun y hy hk=>hc _ (hs ▸ (hvars y hy).2 hk) rfl
 refine ⟨hCok,hs,hg,hb,List.mem_cons_self,fun b hb=>List.mem_singleton.mp hb ▸ hL,fun b hb=>?_,⟨_,hns,fun y hy hk v hv=>?_⟩,fun y hy hk=>(nocell y hy hk).elim,fun y hy z hz hky hkz c h1 h2=>(nocell y hy hky).elim⟩
 ·exact wv hns fun o es ep ho hd _=>⟨o,List.mem_singleton.mp hb ▸ ho,Solid.no_dict hd⟩
 ·have q:=lE (hvars y hy).1 hlen hv
  exact aO (RVs.get r q.1) fun c hc hr=>⟨c,dB ns _ y.slot hnd q.2 hc,hr⟩
theorem DefM.rec_{fd:FuncData}{a:Addr}{body:List Stmt}{ns:List Str}(D:DefM G a fd body C ns)(R:Rel G σ ρ s):s.heap.CodeRec fd.code fd.qualname:=rM R (z1 D.code fun c oc us t _ _ e1 e2 e3 e4 e5 _ _=>kw1 c oc us t e1 e2 e3 e4 e5)
theorem On.defM{a:Addr}{fd:FuncData}{body:List Stmt}{C:Cx}{ns:List Str}{vs xs:List V}{dv:List Value}{k n:Nat}{fl:Fl}{v:V}{η':ac}(D:DefM G a fd body C ns)(hr:Room A (n + 1))(hlen:vs.length + xs.length=ns.length)
  (hdv:∀ (h:Heap) (ρ:Rho),RVs h ρ xs dv)
  (HB:∀ (s:Shared) (cvs:List Value),(∀ b o,b ∉ G.loose->G.s₀.heap.get? b=some o->s.heap.get? b=some o)->cvs.length=vs.length->BindsTo s fd ⟨cvs,[]⟩ (ns.zip (cvs++dv)))
  (hf:(fl=.ret v)\/(fl=.next/\v=.none))
  (H:∀ A' env W,Room A' n->env.func=some a->env.code=fd.code->env.cells=fd.closure->env.scope=fd.scope->EssAt G A' C env W body body σ (az (vs++xs) k) fl σ' η'):On G A (fun cvs=>call (.ref a) cvs) σ vs v σ':=fun ρ s cvs R r ht=>by
 refine ww D.obj fun o hob hd _=>?_
 have hkf:fd.scope.kind=.function:=D.scope ▸ (Cx.ok_parts (br D.ok).1).1
 refine wpAny_call (ks_codeAny_call_defAt (body:=body) (binds:=ns.zip (cvs++dv)) (Nat.lt_of_le_of_lt (Nat.le_add_right _ _) hr.depth) (R.keep a o D.la hob) hd (uS R D.nolimit D.ls) (D.rec_ R) D.body (HB s cvs R.keep (RVs.length r)) D.cells
  (fun x hx=>D.locs _ (List.of_mem_zip (a:=x.1) (b:=x.2) hx).1) (fun h₀ hns sR=>?_) D.co D.gen hkf)
 have mV:Step G ρ s ρ { s with heap:=h₀,toks:=s.toks + (ns.zip (cvs++dv)).length } σ:=Step.grow R sR ⟨_,_,rfl⟩
 have N:=yH (k:=k) (a:=a) (s:={ s with heap:=h₀,toks:=s.toks + (ns.zip (cvs++dv)).length }) D.ok D.scope D.glob D.blt D.cells (dq R (bS (Nat.le_refl _))) hns (RVs.append (RVs.sameHeap sR r) (hdv h₀ ρ)) (List.length_append.trans hlen)
 refine ks_wpAt_mono (H _ _ _ (hr.deeper _) rfl rfl rfl rfl ρ _ mV.rel N (Nat.lt_of_lt_of_le ht (Nat.le_add_right _ _))) (fun f aA h=>ww h.2 fun av au _ aG=>?_) fun _ _ f=>f.elim
 have S:Step G ρ s av aA σ':=(mV.toW.trans au).drop fun b hb hne=>absurd (bS (Nat.le_of_eq (List.mem_singleton.mp hb).symm)) hne
 rcases hf with rfl | ⟨rfl,rfl⟩
 ·obtain ⟨cv,rfl,hv⟩:=aG
  exact ⟨av,S,hv⟩
 ·have e:f=.next:=aG
  subst e
  exact ⟨av,S,RV.none_⟩
end
theorem i8:Slot "wrapper_descriptor" "__get__" "wrapper_descriptor.__get__":=.of (owner:="wrapper_descriptor") (n:="__get__") (by rw [typeLookup_type,builtinLookup_eq_fast];kernel_rfl) (by decide +kernel) (by decide +kernel) (by decide +kernel)
 (by first | exact .inl (by decide +kernel) | exact .inr (by decide +kernel)) (by rw [isSubtype_type];kernel_rfl)
theorem n7:entryFor table "wrapper_descriptor.__get__"=some Builtin.«wrapper_descriptor.__get__»:=entryFor_of_tree (by kernel_rfl)
theorem qq(a b c:Value):argsOk "wrapper_descriptor.__get__" ⟨[a,b,c],[]⟩:=by unfold argsOk;kernel_rfl
theorem i9:Slot "method_descriptor" "__get__" "method_descriptor.__get__":=.of (owner:="method_descriptor") (n:="__get__") (by rw [typeLookup_type,builtinLookup_eq_fast];kernel_rfl) (by decide +kernel) (by decide +kernel) (by decide +kernel)
 (by first | exact .inl (by decide +kernel) | exact .inr (by decide +kernel)) (by rw [isSubtype_type];kernel_rfl)
theorem n8:entryFor table "method_descriptor.__get__"=some Builtin.«method_descriptor.__get__»:=entryFor_of_tree (by kernel_rfl)
theorem qr(a b c:Value):argsOk "method_descriptor.__get__" ⟨[a,b,c],[]⟩:=by unfold argsOk;kernel_rfl
structure Lt (name:Str) (id dt mt:String):Prop where
 own:builtinOwn "list" name=some (.builtin id)
 ty:typeOf (.builtin id)=pure (.type dt)
 cases:(dt="wrapper_descriptor"/\mt="method-wrapper")\/(dt="method_descriptor"/\mt="builtin_function_or_method")
 told:Manifest.toldItsClass.contains id=false
theorem mu{a:Addr}:([Value.ref a,.type "list",.type "object"]:List Value).contains (.type "list")=true:=by
 rw [List.contains_cons,List.contains_cons];simp
theorem rL{a:Addr}:([Value.ref a,.type "list",.type "object"]:List Value).contains (.ref a)=true:=by
 rw [List.contains_cons];simp
section
variable {G:Wd} {A:Around} {C C':Cx} {env cenv:Env} {W W':List Addr} {η η' η₁ η₂ bw:ac} {σ σ' σ₁ σ₂ aj σ₄ b9:List AO} {ρ ρ' ab:Rho} {s s' ao aA:Shared} {m:Str->Option Value}
theorem fJ(K:Acc G m)(R:Rel G σ ρ s){c:Value}{b:Bool}(hb:([Value.ref G.cls,.type "list",.type "object"]:List Value).contains c=b){M:Model}:Looks M s.heap (isSubtype (.ref G.cls) c) b:=fun A Q E s' hk hQ=>by
 refine dp (cU K R) fun oc cd h_p=>?_;have h1:=h_p.1;have h2:=h_p.2.1;have h3:=h_p.2.2.1;have h4:=h_p.2.2.2
 unfold isSubtype
 refine wpAny_bind (m:=mroOf (.ref G.cls)) ?_
 show wpAny M A (do return (← classData G.cls).mro) _ E s'
 refine wpAny_bind ?_
 unfold classData
 refine wpAny_bind (wpAny_load (hk _ _ h1) ?_)
 refine (h2) ▸ ?_
 refine wpAny_pure (wpAny_pure ?_)
 refine (h3) ▸ ?_
 dsimp only
 rw [if_neg (show ¬ (([Value.ref G.cls,.type "list",.type "object"]:List Value).isEmpty=true) from Bool.false_ne_true),hb]
 exact wpAny_pure hQ
theorem yk{id dt mt:String}{name:Str}(L:Lt name id dt mt)(hid:(id.cutAt '.').dropLast=["list"])(K:Acc G m)(R:Rel G σ ρ s){x:Addr}{o:Obj}(ho:s.heap.get? x=some o)(hc:o.cls=.ref G.cls){Q:Value->Shared->Prop}{E:Value->Shared->Prop}
  (hQ:Q (.ref s.heap.objs.size) { s with heap:=s.heap.push { cls:=.type mt,data:=.fields #[.builtin id,.ref x] } }) :
  wpAny (model G.prog G.w) A (call (.builtin (dt++".__get__")) [.builtin id,.ref x,.ref G.cls]) Q E s:=by
 have hi:∀ {A':Around} {Q:Bool->Shared->Prop} {E:Value->Shared->Prop},Q true s->wpAny (model G.prog G.w) A' (isInstance (.ref x) (.type "list")) Q E s:=fun hQ=>fF K R ho hc hQ
 have hj:".".intercalate ["list"]="list":=by decide +kernel
 refine Or.elim (L.cases) (fun h_l=>?_) (fun h_r=>?_)
 ·obtain ⟨rfl,rfl⟩:=h_l
  refine wpAny_call_entry i8 (show s.TypeIs (.builtin id) "wrapper_descriptor" from L.ty) n7 ?_ (qq _ _ _)
  obtain ⟨hp,g,d,tk,os⟩:=s
  unfold Builtin.«wrapper_descriptor.__get__»
  repeat (first | (with_reducible refine hi ?_) | wp_step)
  rw [hid,hj,hc]
  refine Looks.here (fJ K R mu) ?_
  repeat wp_step
  exact ⟨_,rfl,hQ⟩
 ·obtain ⟨rfl,rfl⟩:=h_r
  refine wpAny_call_entry i9 (show s.TypeIs (.builtin id) "method_descriptor" from L.ty) n8 ?_ (qr _ _ _)
  have hT:=L.told
  obtain ⟨hp,g,d,tk,os⟩:=s
  unfold Builtin.«method_descriptor.__get__»
  repeat (first | (with_reducible refine hi ?_) | wp_step)
  rw [if_neg (by rw [hT];exact Bool.false_ne_true)]
  repeat (first | (with_reducible refine hi ?_) | wp_step)
  rw [hid,hj,hc]
  refine Looks.here (fJ K R mu) ?_
  repeat wp_step
  exact ⟨_,rfl,hQ⟩
noncomputable abbrev ug(D x C:Addr):Obj:={ cls:=.type "super",dict:=none,data:=.fields #[.ref D,.ref x,.ref C],slots:=#[] }
theorem bR1{so x:Addr}{o:Obj}{id dt mt:String}{name:Str}{tk:Tok}{Q:Fin->Shared->Prop}{E:Value->Shared->Prop}(L:Lt name id dt mt)(hid:(id.cutAt '.').dropLast=["list"])(K:Acc G m)(R:Rel G σ ρ s)
  (hso:s.heap.get? so=some (ug G.cls x G.cls)) (ho:s.heap.get? x=some o) (hc:o.cls=.ref G.cls) (hxC:x≠G.cls) (hn:(name == ("__class__":Str))=false) (hop:Looks (model G.prog G.w) s.heap (opaqueClassAbove (.ref G.cls)) none)
  (hq:Q (.done (.ret (.ref s.heap.objs.size))) { s with heap:=s.heap.push { cls:=.type mt,data:=.fields #[.builtin id,.ref x] } }) :
  wpAny (model G.prog G.w) A (Builtin.«super.__getattribute__» ⟨[.ref so,.str name tk],[]⟩) Q E s:=by
 have hne:(Value.ref x == Value.ref G.cls)=false:=by simp [hxC]
 have hdt:(ug G.cls x G.cls).data=.fields #[.ref G.cls,.ref x,.ref G.cls]:=rfl
 have f0:(#[.ref G.cls,.ref x,.ref G.cls]:Array Value)[0]?=some (.ref G.cls):=rfl
 have f1:(#[.ref G.cls,.ref x,.ref G.cls]:Array Value)[1]?=some (.ref x):=rfl
 have f2:(#[.ref G.cls,.ref x,.ref G.cls]:Array Value)[2]?=some (.ref G.cls):=rfl
 have hmro:∀ {A':Around} {Q:List Value->Shared->Prop} {E:Value->Shared->Prop},Q [.ref G.cls,.type "list",.type "object"] s->wpAny (model G.prog G.w) A' (mroOf (.ref G.cls)) Q E s:=fun hQ=>by
  refine byQ fun Q kQ=>?_
  refine dp (cU K R) fun oc cd h_p=>?_;have h1:=h_p.1;have h2:=h_p.2.1;have h3:=h_p.2.2.1;have h4:=h_p.2.2.2
  refine kQ ?_
  show wpAny _ _ (do return (← classData G.cls).mro) _ _ s
  refine wpAny_bind ?_
  unfold classData
  refine wpAny_bind (wpAny_load h1 ?_)
  refine (h2) ▸ ?_
  refine wpAny_pure (wpAny_pure ?_)
  rw [h3];exact hQ
 have hg:typeLookup (.type dt) "__get__"=pure (some (.builtin (dt++".__get__"))):=by
  refine Or.elim (L.cases) (fun h_l=>?_) (fun h_r=>?_)
  ·obtain ⟨rfl,rfl⟩:=h_l
   exact i8.lookup
  ·obtain ⟨rfl,rfl⟩:=h_r
   exact i9.lookup
 have hty:=L.ty
 have hcl:classOwn (.type "list") name=pure (some (.builtin id)):=by
  show pure _=_
  rw [L.own]
 have hdrop:List.drop 1 (List.dropWhile (fun x=>x != Value.ref G.cls) [Value.ref G.cls,Value.type "list",Value.type "object"])=[Value.type "list",Value.type "object"]:=by simp
 have hb:=fun {Q:Value->Shared->Prop} {E:Value->Shared->Prop}=>@yk G A σ ρ s m id dt mt name L hid K R x o ho hc Q E
 obtain ⟨hp,g,d,t,os⟩:=s
 dsimp only [Builtin.«super.__getattribute__»]
 repeat (first
  | (with_reducible refine wpAny_field hso hdt f0 ?_) | (with_reducible refine wpAny_field hso hdt f1 ?_) | (with_reducible refine wpAny_field hso hdt f2 ?_)
  | (with_reducible refine ks_wpAny_notOpaque hop ?_)
  | (with_reducible refine hmro ?_;rw [hdrop])
  | rw [List.forIn_cons]
  | (with_reducible refine hb ?_)
  | (simp only [hn,hne,Bool.or_false,Bool.false_eq_true,if_false])
  | wp_step
  | dsimp only)
 exact hq
theorem lA{so x:Addr}{o:Obj}{id dt mt:String}{name:Str}{pl:Sem Bool}{Q:Value × List Value->Shared->Prop}{E:Value->Shared->Prop}(L:Lt name id dt mt)(hid:(id.cutAt '.').dropLast=["list"])(K:Acc G m)(R:Rel G σ ρ s)
  (hso:s.heap.get? so=some (ug G.cls x G.cls)) (ho:s.heap.get? x=some o) (hc:o.cls=.ref G.cls) (hxC:x≠G.cls) (hn:(name == ("__class__":Str))=false) (hop:Looks (model G.prog G.w) s.heap (opaqueClassAbove (.ref G.cls)) none)
  (hq:Q (.ref s.heap.objs.size,[]) { s with heap:=s.heap.push { cls:=.type mt,data:=.fields #[.builtin id,.ref x] },toks:=s.toks + 1 }) :
  wpAny (model G.prog G.w) A (getMethod (.ref so) name pl) Q E s:=by
 have hlk:=F.ks_slot_super_ga.lookup
 have hcan:=F.ks_canon_super_ga
 have R':Rel G σ ρ { s with toks:=s.toks + 1 }:=(Step.toks R _).rel
 obtain ⟨h,g,d,t,os⟩:=s
 have hT:∀ t',(⟨h,g,d,t',os⟩:Shared).TypeIs (.ref so) "super":=fun _=>⟨_,hso,rfl⟩
 dsimp only [getMethod]
 refine wpAny_bind (wpAny_specialOf (hT _) hlk ?_)
 show wpAny _ _ (if (Manifest.canonical "super.__getattribute__" != "object.__getattribute__")=true then _ else _) _ _ _
 refine (if_pos hcan) ▸ ?_
 unfold getAttr getAttrBy
 refine wpAny_bind (wpAny_bind (wpAny_mkText (wpAny_holding (wpAny_bind (wpAny_typeOf (hT _) (wpAny_bind (wpAny_of_eq hlk ?_)))))))
 show wpAny _ _ (getAttrByItsOwn (.ref so) (.str name t) (.type "super") (.builtin "super.__getattribute__") true false) _ _ _
 unfold getAttrByItsOwn hookBefore callGetattribute boundAndCalled
 refine wpAny_bind (wpAny_of_eq (show (if onTheHeap (.type "super") then typeLookup (.type "super") "__getattr__" else pure none)=pure none from rfl) ?_)
 refine wpAny_bind (wpAny_attempt (wpAny_holding ?_))
 show wpAny _ _ (bindSpecial (.builtin "super.__getattribute__") (.ref so) >>= _) _ _ _
 refine wpAny_bind (wpAny_of_eq (F.ks_slot_super_ga.bind _) ?_)
 refine wpAny_mono (Q:=fun v s'=>v=.ref h.objs.size/\s'=⟨h.push { cls:=.type mt,data:=.fields #[.builtin id,.ref x] },g,d,t + 1,os⟩) (E:=fun _ _=>False)
  (wpAny_call_entry F.ks_slot_super_ga (hT _) F.ks_entry_super_ga (bR1 L hid K R' hso ho hc hxC hn hop ⟨_,rfl,rfl,rfl⟩) (F.ks_gaArgs_super _ _)) (fun v s' hv=>?_) fun _ _ z=>z.elim
 obtain ⟨rfl,rfl⟩:=hv
 exact wpAny_pure (wpAny_pure hq)
theorem ti{b x:Addr}{id mt:String}{R:Result->Shared->Prop}(hm:mt="method-wrapper"\/mt="builtin_function_or_method")(hb:s.heap.get? b=some { cls:=.type mt,data:=.fields #[.builtin id,.ref x] })
  (hq:(Code.builtin id ⟨[.ref x],[]⟩).quiet=true) (hchk:∀ {A':Around} {Q:Unit->Shared->Prop} {E:Value->Shared->Prop},Q () s->wpAny (model G.prog G.w) A' (checkBoundCall id ⟨[.ref x],[]⟩) Q E s)
  (h:codeAny (model G.prog G.w) A (.builtin id ⟨[.ref x],[]⟩) R s):codeAny (model G.prog G.w) A (.call (.ref b) ⟨[],[]⟩) R s:=by
 refine codeAny_of_tree ?_
 show wpAny _ A.in1 (callAny (.ref b) ⟨[],[]⟩) _ _ _
 dsimp only [callAny]
 refine wpAny_bind (wpAny_load hb ?_)
 rcases hm with rfl | rfl
 ·show wpAny _ _ (checkBoundCall id ⟨[.ref x],[]⟩ >>= fun _=>again (.builtin id ⟨[.ref x],[]⟩) >>= _) _ _ _
  exact wpAny_bind (hchk (wpAny_pure ⟨hq,h⟩))
 ·show wpAny _ _ (checkBoundCall id ⟨[.ref x],[]⟩ >>= fun _=>again (.builtin id ⟨[.ref x],[]⟩) >>= _) _ _ _
  exact wpAny_bind (hchk (wpAny_pure ⟨hq,h⟩))
theorem kq{b x:Addr}{id mt:String}{pos:Pos}{Q:Value->Shared->Prop}{E:Value->Shared->Prop}(hm:mt="method-wrapper"\/mt="builtin_function_or_method")(hb:s.heap.get? b=some { cls:=.type mt,data:=.fields #[.builtin id,.ref x] })
  (h:wpAny (model G.prog G.w) A (call (.ref b) []) Q E s):wpAny (model G.prog G.w) A (callWith pos (.ref b) [] (backTo pos (starEach [] env)) []) Q E s:=by
 dsimp only [callWith]
 refine wpAny_bind (wpAny_holding (evalArgs_kw_nil (keywords:=[]) rfl (wpAny_pure (wpAny_bind (wpAny_standAt ?_)))))
 show wpAny _ _ (keeperOf (.ref b) >>= _) _ _ _
 have hk:∀ {Q:Keeper->Shared->Prop} {E:Value->Shared->Prop},Q .machine s->wpAny (model G.prog G.w) A (keeperOf (.ref b)) Q E s:=fun hQ=>by
  unfold keeperOf
  refine wpAny_bind (wpAny_load hb ?_)
  rcases hm with rfl | rfl <;> exact wpAny_pure hQ
 refine wpAny_bind (hk ?_)
 exact wpAny_bind (wpAny_mono h (fun r aA hr=>wpAny_bind (wpAny_holding (wpAny_point (wpAny_pure hr)))) fun _ _ x=>x)
end
structure Sup (G:Wd):Prop where
 sup:Gl G "super" (.type "super")
 noT:∃ mc,G.s₀.heap.Ns cStatics mc/\mc "thirdparty.any"=none
 ls:cStatics ∉ G.loose
 top:(G.prog.main.scope.names.lookup ("super":Str)).isSome=false
structure SupD (G:Wd) (fd:FuncData) (C:Cx) (x:Var):Prop where
 hx:x∈C.vars
 par:∃ ar,(fd.params.posonlyargs++fd.params.args).head?=some ar/\ar.arg=x.name
 cell:∃ cc,fd.closure.lookup ("__class__":Str)=some cc/\cc ∉ G.loose/\G.s₀.heap.IsCell cc (some (.ref G.cls))
 ks:C.kind "super"=some .globalImplicit
 kc:C.kind "__class__"=some .free
section
variable {G:Wd} {A:Around} {C C':Cx} {env cenv:Env} {W W':List Addr} {η η' η₁ η₂ bw:ac} {σ σ' σ₁ σ₂ aj σ₄ b9:List AO} {ρ ρ' ab:Rho} {s s' ao aA:Shared} {m:Str->Option Value}
theorem Gl.load{x:Str}{f:Value}(g:Gl G x f)(R:Rel G σ ρ s)(N:RE G C env W η ρ s)(hk:C.kind x=some .globalImplicit){Q:Value->Shared->Prop}{E:Value->Shared->Prop}(h:Q f s):wpAny (model G.prog G.w) A (loadName env x) Q E s:=by
 have hf:env.scope.kind=.function:=by rw [N.sc];exact (Cx.ok_parts N.ok).1
 refine ks_loadName_global hf (by unfold Env.kindOf;rw [N.sc];exact hk) ?_
 refine a7 (g.gm) fun m h_p=>?_;have hm:=h_p.1;have hx:=h_p.2
 have hm':s.heap.Ns env.globals m:=by rw [N.glob];exact Ns.of_base R hm g.l1
 rcases hx with hx | ⟨hx,b,hb,hbx⟩
 ·exact loadGlobal_global hm' hx h
 ·have hb':s.heap.Ns env.builtins b:=by rw [N.blt];exact Ns.of_base R hb g.l2
  exact loadGlobal_builtin hm' hx hb' hbx h
theorem Sup.opaque(U:Sup G)(R:Rel G σ ρ s){c:Addr}{M:Model}:Looks M s.heap (opaqueClassAbove (.ref c)) none:=by
 refine a7 (U.noT) fun mc h_p=>?_;have hm:=h_p.1;have hn:=h_p.2
 have hm':=Ns.of_base R hm U.ls
 have h1:Looks M s.heap (nsGet cStatics "thirdparty.any") none:=fun A Q E s' k q=>wpAny_nsGet (hm'.keeps k) (by exact (hn) ▸ (q))
 exact Looks.andThen (a:=false) (h1.andThen .now) (by show Looks M s.heap (if (!false)=true then pure none else _) none;exact (if_pos (show (!false)=true from rfl)) ▸ (.now))
theorem qU(K:Acc G m)(U:Sup G){a:Addr}{fd:FuncData}{body:List Stmt}{ns:List Str}(D:DefM G a fd body C ns){x:Var}(V:SupD G fd C x){p0 p1 apos pos:Pos}{k:Nat}{l:List Mine.V}{i:Int}{v:Mine.V}{id dt mt:String}{name:Str}
  (L:Lt name id dt mt) (hid:(id.cutAt '.').dropLast=["list"]) (hn:(name == ("__class__":Str))=false) (hm:mt="method-wrapper"\/mt="builtin_function_or_method") (hfu:env.func=some a) (hco:env.code=fd.code) (hce:env.cells=fd.closure)
  (hη:η[x.slot]?=some (some (.ref k))) (hσ:σ[k]?=some ⟨l,some i⟩)
  (hline:(apos.endLine == pos.line)=true) (hq:∀ b,(Code.builtin id ⟨[.ref b],[]⟩).quiet=true)
  (hchk:∀ {ρ s} {b:Addr} {vs:Array Value} {n:Nat} {d:Addr},Rel G σ ρ s->s.heap.get? b=some ⟨.ref G.cls,some d,.seq vs n,#[]⟩->∀ {A':Around} {Q:Unit->Shared->Prop} {E:Value->Shared->Prop},Q () s->wpAny (model G.prog G.w) A' (checkBoundCall id ⟨[.ref b],[]⟩) Q E s)
  (hb:∀ A' ρ s p,Rel G σ ρ s->ρ.st[k]?=some p->0 < s.toks->codeAny (model G.prog G.w) A' (.builtin id ⟨[.ref p.1],[]⟩) (wants (PE G ρ s σ' v) No) s)
  (R:Rel G σ ρ s) (N:RE G C env W η ρ s) (ht:0 < s.toks) :
  PySem.wpAt (model G.prog G.w) A (.func body env) (eval (.Call (.Attribute (.Call (.Name "super" p0) [] [] p1) name apos) [] [] pos) env) (fun cv s'=>0 < s'.toks/\PE G ρ s σ' v cv s') No s:=by
 refine byQ fun Q kQ=>?_
 obtain ⟨o,h_p⟩:=D.obj;have hob:=h_p.1;have hfd:=h_p.2.1
 refine z1 (D.code) fun c oc us t file tf e1 e2 e3 e4 e5 e6 e7=>?_
 refine a7 (V.par) fun ar h_p=>?_;have ha1:=h_p.1;have ha2:=h_p.2
 refine a7 (V.cell) fun cc h_p=>?_;have hc1:=h_p.1;have hc2:=h_p.2.1;have hc3:=h_p.2.2
 have hf:env.scope.kind=.function:=by rw [N.sc];exact (Cx.ok_parts N.ok).1
 refine dp (cU K R) fun oD cd h_p=>?_;have hD1:=h_p.1;have hD2:=h_p.2.1;have hD3:=h_p.2.2.1
 have kindE:∀ y,env.kindOf y=C.kind y:=fun y=>by unfold Env.kindOf;rw [N.sc];rfl
 refine kQ ?_
 rw [arm_eval_Call]
 refine PySem.wpAt_bind ?_
 refine ks_wpAt_super_base (by rw [kindE];exact V.ks) (by rw [kindE];exact V.kc) hn hfu (R.keep a o D.la hob) hfd ha1 (hco.trans e1) (R.keep c oc e2 e3) e4 e6 e7 U.top ?_
 refine U.sup.load R N V.ks ⟨rfl,?_⟩
 have hcell:s.heap.IsCell cc (some (.ref G.cls)):=by
  refine aO (hc3) fun oc ho hd=>?_
  exact ⟨oc,R.keep cc oc hc2 ho,hd⟩
 refine wpAny_loadName_free hf (by rw [kindE];exact V.kc) (by rw [hce];exact hc1) hcell ?_
 refine (ha2) ▸ ?_
 refine RE.load R N V.hx hη fun cv hcv=>?_
 obtain ⟨p,hp,rfl⟩:=RV.ref_iff hcv
 refine ks_wpAny_isType_cls (h:=s.heap) hD1 hD2 ⟨rfl,?_⟩
 refine byQ fun Q kQ=>?_
 refine fO (bR R hp hσ) fun vs n d h_p=>?_;have g1:=h_p.1;have g2:=h_p.2.1;have g3:=h_p.2.2.1;have g4:=h_p.2.2.2.1;have g5:=h_p.2.2.2.2.1;have g6:=h_p.2.2.2.2.2
 have hxC:p.1≠G.cls:=by
  intro e
  rw [e,hD1] at g1
  obtain rfl:=siX g1
  cases hD2
 refine kQ ?_
 refine ks_wpAny_call_super (h:=s.heap) hD1 hD2 g1 rfl (fun c e=>by cases e) (fJ K R rL) fun h' hso hk=>?_
 have ag:Step G ρ s ρ { s with heap:=h' } σ:=Step.grow R hk ⟨_,_,rfl⟩
 refine PySem.wpAt_of_wpAny (wpAny_bind (wpAny_standAt ?_))
 have hform:methodCallForm (([]:List Expr).length + ([]:List Keyword).length) (backTo pos (starEach [] env)) (backToKw pos (keywordEach [] env))=true:=rfl
 have hpos:methodCallPos true (.Call (.Name "super" p0) [] [] p1) env apos pos=pure pos:=by dsimp only [methodCallPos];simp [hline]
 dsimp only [methodCall]
 refine (hform) ▸ ?_
 refine wpAny_bind (wpAny_holding ?_)
 refine lA (s:={ s with heap:=h' }) L hid K ag.rel hso (hk _ _ g1) rfl hxC hn (U.opaque ag.rel) ?_
 have hk2:∀ b o,h'.get? b=some o->(h'.push { cls:=.type mt,data:=.fields #[.builtin id,.ref p.1] }).get? b=some o:=fun b o e=>Heap.get?_push_of_some _ e
 have au:Step G ρ { s with heap:=h' } ρ { s with heap:=h'.push { cls:=.type mt,data:=.fields #[.builtin id,.ref p.1] },toks:=s.toks + 1 } σ:=Step.grow ag.rel hk2 ⟨_,_,rfl⟩
 refine wpAny_bind (wpAny_of_eq hpos ?_)
 refine kq hm (Heap.get?_push_size _ rfl) ?_
 have HC:wpAny (model G.prog G.w) A (call (.ref h'.objs.size) []) (PE G ρ { s with heap:=h'.push { cls:=.type mt,data:=.fields #[.builtin id,.ref p.1] },toks:=s.toks + 1 } σ' v) No { s with heap:=h'.push { cls:=.type mt,data:=.fields #[.builtin id,.ref p.1] },toks:=s.toks + 1 } :=
  wpAny_call (ti hm (Heap.get?_push_size _ rfl) (hq _) (fun hQ=>hchk au.rel (hk2 _ _ (hk _ _ g1)) hQ) (hb A ρ _ p au.rel hp (show 0 < s.toks + 1 from Nat.succ_pos _)))
 exact f5 HC (by rintro cv s' hle ⟨ρ',S,r⟩;exact ⟨Nat.lt_of_lt_of_le (Nat.succ_pos _) hle,ρ',ag.trans (au.trans S),r⟩)
end
open Builtin Builtin.ObjectAttr
theorem eN:StoreFacts "list" [.type "list",.type "object"] "object.__setattr__" "object" :=
 ⟨rg,F.slot_list_setattr,entryFor_of_tree (by kernel_rfl),by decide +kernel,by decide +kernel,by rw [List.contains_cons,List.contains_cons];simp,fun a b c=>by unfold argsOk;kernel_rfl,fun self=>by kernel_rfl⟩
structure AccX (G:Wd) (m:Str->Option Value):Prop where
 acc:Acc G m
 obj:∃ cd od sl,G.s₀.heap.get? G.cls=some ⟨.type "type",od,.cls cd,sl⟩/\cd.mro=[.ref G.cls,.type "list",.type "object"]/\cd.hasDict=true/\cd.abstract=false/\cd.hasDel=false/\(sl.toList[4]?).join=some (.builtin "list.__new__")
 hsa:m "__setattr__"=none
 hna:m "_initial_size"=none
 qn:∀ o cd,G.s₀.heap.get? G.cls=some o->o.data=.cls cd->cd.qualname=("_Accumulator":Str)
section
variable {G:Wd} {A:Around} {C C':Cx} {env cenv:Env} {W W':List Addr} {η η' η₁ η₂ bw:ac} {σ σ' σ₁ σ₂ aj σ₄ b9:List AO} {ρ ρ' ab:Rho} {s s' ao aA:Shared} {m:Str->Option Value}
theorem bd1(K:Acc G m)(R:Rel G σ ρ s){M:Model}{Q:List Value->Shared->Prop}{E:Value->Shared->Prop}(hQ:Q [.ref G.cls,.type "list",.type "object"] s):wpAny M A (mroOf (.ref G.cls)) Q E s:=by
 refine dp (cU K R) fun oc cd h_p=>?_;have h1:=h_p.1;have h2:=h_p.2.1;have h3:=h_p.2.2.1;have h4:=h_p.2.2.2
 show wpAny _ _ (do return (← classData G.cls).mro) _ _ s
 refine wpAny_bind ?_
 unfold classData
 refine wpAny_bind (wpAny_load h1 ?_)
 refine (h2) ▸ ?_
 refine wpAny_pure (wpAny_pure ?_)
 exact (h3) ▸ (hQ)
theorem qs(KX:AccX G m)(R:Rel G σ ρ s){x dx:Addr}{us:Array Value}{n:Nat}{name:Str}{v:Value}{Q:Unit->Shared->Prop}{E:Value->Shared->Prop}(hna:m name=none)(hl:typeLookup (.type "list") name=pure none)
  (hx:s.heap.get? x=some ⟨.ref G.cls,some dx,.seq us n,#[]⟩) (hne:dx≠x) (hns:s.heap.Ns1 dx (fun _=>none))
  (hQ:∀ h' tk',s.toks<=tk'->h'.Ns1 dx (fun y=>if y=name then some v else none)->(∀ b o,b≠dx->s.heap.get? b=some o->h'.get? b=some o)->Q () { s with heap:=h',toks:=tk' }) :
  wpAny (model G.prog G.w) A (setAttr (.ref x) name v) Q E s:=by
 have K:=KX.acc
 have hsa:=KX.hsa
 refine fO (KX.obj) fun cd od sl h_p=>?_;have hC0:=h_p.1;have hmro:=h_p.2.1;have hhd:=h_p.2.2.1;have hab:=h_p.2.2.2.1;have hde:=h_p.2.2.2.2.1;have h4:=h_p.2.2.2.2.2
 have f3:=eN.slot.bind (.ref x)
 have look:∀ {A':Around} {t:Nat} {nm:Str} {r:Option Value} {Q:Option Value->Shared->Prop} {E:Value->Shared->Prop},(m nm=none/\typeLookup (.type "list") nm=pure r)->Q r { s with toks:=t }->wpAny (model G.prog G.w) A' (typeLookup (.ref G.cls) nm) Q E { s with toks:=t }:=fun h1 hq=>le K (Step.toks R _).rel (.inr h1) hq
 have mro:∀ {A':Around} {t:Nat} {Q:List Value->Shared->Prop} {E:Value->Shared->Prop},Q [.ref G.cls,.type "list",.type "object"] { s with toks:=t }->wpAny (model G.prog G.w) A' (mroOf (.ref G.cls)) Q E { s with toks:=t }:=fun hq=>bd1 K (Step.toks R _).rel hq
 have chk:∀ {t:Nat} {tk:Tok} {Q:Unit->Shared->Prop} {E:Value->Shared->Prop},Q () { s with toks:=t }->wpAny (model G.prog G.w) A.in1 (checkBuiltinCall "object.__setattr__" ⟨[.ref x,.str name tk,v],[]⟩) Q E { s with toks:=t }:=fun {t tk _ _} hq=>by
  have ha:=eN.args (.ref x) (.str name tk) v
  simp only [checkBuiltinCall,eN.kind,eN.split]
  refine wpAny_bind ?_
  unfold isInstance
  refine wpAny_bind (m:=typeOf (.ref x)) ?_
  unfold typeOf
  refine wpAny_bind (wpAny_load (s:={ s with toks:=t }) hx (wpAny_pure ?_))
  refine Looks.here (fJ K (Step.toks R t).rel (b:=true) (by rw [List.contains_cons,List.contains_cons,List.contains_cons];simp)) ?_
  simp only [Bool.not_true,Bool.false_eq_true,if_false]
  cases hsig:Manifest.signature? "object.__setattr__" with
  | none=>exact wpAny_pure hq
  | some sig =>
   simp only [argsOk,hsig] at ha
   have h2:Bind.checkArgs "object.__setattr__" sig ⟨[.ref x,.str name tk,v],[]⟩=pure ():=ha
   show wpAny _ _ (Bind.checkArgs "object.__setattr__" sig ⟨[.ref x,.str name tk,v],[]⟩) _ _ _
   exact (h2) ▸ (wpAny_pure hq)
 obtain ⟨h,g,d,t,os⟩:=s
 unfold setAttr callSpecial? specialOf
 repeat (any_goals (first | assumption | (with_reducible refine wpAny_loadPart_at hx ?_) | (with_reducible refine look ⟨hsa,eN.slot.lookup⟩ ?_) | wp_step))
 refine codeAny_call_builtin eN.slot.plain eN.entry (chk ?_)
 have hpass:=eN.passes (.ref x)
 dsimp only at hx hns
 show wpAny _ _ (Builtin.«object.__setattr__» ⟨[.ref x,.str name t,v],[]⟩) _ _ _
 dsimp only [Builtin.«object.__setattr__»]
 repeat (first | rw [refuse_eq] | (rw [refuseLoop_ref,hpass]) | (with_reducible refine wpAny_loadPart_at hx ?_) | (with_reducible refine mro ?_) | (with_reducible refine look ⟨hna,hl⟩ ?_) | wp_step)
 have hC:=R.keep _ _ K.lc hC0
 refine wpAny_load (s:=⟨h,g,d,t + 1,os⟩) hC (wpAny_pure ?_)
 rw [if_neg (by rw [hhd];exact Bool.false_ne_true)]
 refine wpAny_pure ?_
 show wpAny _ _ (storeInDict dx (.str name t) name v) _ _ _
 unfold storeInDict newKeyGuard
 refine wpAny_bind (wpAny_pure (wpAny_bind (wpAny_nsSet1 hns fun h' hn' hs=>?_)))
 refine fO (hn'.count (Within.cons name v Within.nil)) fun oD esD epD h_p=>?_;have hoD:=h_p.1;have hdD:=h_p.2.1;have hcD:=h_p.2.2
 refine wpAny_bind (wpAny_lookBehind hoD (by rw [hdD];exact pastItsLine_dict (Nat.le_trans hcD (by rw [List.length_cons,List.length_nil,sizeLine_eq];exact Nat.succ_pos _))) ?_)
 wp_walk
 exact hQ h' _ (by simp;exact Nat.le_trans (Nat.le_succ t) (Nat.le_add_right t.succ 1)) hn' fun b o hb e=>(hs.2 b hb).trans e
end
theorem iW:typeLookup (.type "type") "__call__"=pure (some (.builtin "type.__call__")):=by rw [typeLookup_type,builtinLookup_eq_fast];kernel_rfl
theorem zo:isSubtype (.type "type") (.type "type")=pure true:=by rw [isSubtype_type];kernel_rfl
theorem mF(a b:Value):argsOk "list.__new__" ⟨[a,b],[]⟩:=by unfold argsOk;kernel_rfl
noncomputable abbrev dX(C dx:Addr):Obj:={ cls:=.ref C,dict:=some dx,data:=.seq #[] }
structure LMakes (M:Model) (h:Heap) (C:Addr):Prop where
 obj:∃ od cd sl,h.get? C=some ⟨.type "type",od,.cls cd,sl⟩/\cd.abstract=false/\cd.hasDel=false/\cd.mro=[.ref C,.type "list",.type "object"]
 made:Looks M h (Bind.madeBy (.ref C)) (some "list.__new__")
 base:Looks M h (Bind.staticBase (.ref C)) (.ref C)
 mro:Looks M h (mroOf (.ref C)) [.ref C,.type "list",.type "object"]
 sub:∀ c b,([Value.ref C,.type "list",.type "object"]:List Value).contains c=b->Looks M h (isSubtype (.ref C) c) b
 call:Looks M h (specialOf (.ref C) "__call__") (some (.builtin "type.__call__"))
 typ:Looks M h (isInstance (.ref C) (.type "type")) true
 ist:Looks M h (isType (.ref C)) true
section
variable {G:Wd} {A:Around} {C C':Cx} {env cenv:Env} {W W':List Addr} {η η' η₁ η₂ bw:ac} {σ σ' σ₁ σ₂ aj σ₄ b9:List AO} {ρ ρ' ab:Rho} {s s' ao aA:Shared} {m:Str->Option Value}
theorem yP(KX:AccX G m)(R:Rel G σ ρ s){M:Model}:LMakes M s.heap G.cls:=by
 refine byQ fun Q kQ=>?_
 refine bo1 (KX.obj) fun cd od sl hC0 hmro hhd hab hde h4=>?_
 have hC:=R.keep _ _ KX.acc.lc hC0
 have mro:Looks M s.heap (mroOf (.ref G.cls)) [.ref G.cls,.type "list",.type "object"]:=by
  intro A Q E s' k q
  show wpAny _ _ (do return (← classData G.cls).mro) _ _ s'
  refine wpAny_bind ?_
  unfold classData
  refine wpAny_bind (wpAny_load (k _ _ hC) (wpAny_pure (wpAny_pure ?_)))
  exact (hmro) ▸ (q)
 have made:Looks M s.heap (Bind.madeBy (.ref G.cls)) (some "list.__new__"):=by
  intro A Q E s' k q
  dsimp only [Bind.madeBy]
  refine wpAny_bind (mro A _ E s' k ?_)
  rw [List.forIn_cons]
  refine wpAny_bind (wpAny_bind (wpAny_bind (wpAny_bind (wpAny_loadPart (k _ _ hC) (wpAny_pure ?_)))))
  dsimp only
  rw [← Array.getElem?_toList,h4]
  exact wpAny_pure (wpAny_pure (wpAny_pure q))
 have ty:Looks M s.heap (typeOf (.ref G.cls)) (.type "type"):=fun A Q E s' k q=>by
  unfold typeOf
  exact wpAny_bind (wpAny_load (k _ _ hC) (wpAny_pure q))
 refine kQ ?_
 refine ⟨⟨od,cd,sl,hC,hab,hde,hmro⟩,made,?_,mro,fun c b hb=>fJ KX.acc R hb,?_,?_,?_⟩
 ·intro A Q E s' k q
  unfold Bind.staticBase
  refine wpAny_bind (mro A _ E s' k ?_)
  rw [List.forIn_cons]
  exact wpAny_bind (wpAny_bind (wpAny_bind (made A _ E s' k (wpAny_pure (wpAny_pure (wpAny_pure q))))))
 ·exact ty.andThen (Looks.of_pure iW)
 ·exact ty.andThen (Looks.of_pure zo)
 ·intro A Q E s' k q
  unfold isType loadHead
  refine wpAny_bind (wpAny_loadPart (k _ _ hC) ?_)
  exact wpAny_pure q
end
section
variable {prog:Program} {w:World} {A:Around} {C:Addr} {R:Result->Shared->Prop} {h:Heap} {g:Array GenState} {d:Drawn} {t:Nat} {os:OsState}
theorem z4{i:Value}(Y:LMakes (model prog w) h C)
  (hq:R (.ok (.ret (.ref (h.objs.size + 1)))) ⟨(h.push emptyDict).push (dX C h.objs.size),g,d,t,os⟩) :
  codeAny (model prog w) A (.call (.builtin "list.__new__") ⟨[.ref C,i],[]⟩) R ⟨h,g,d,t,os⟩:=by
 refine byQ fun Q kQ=>?_
 obtain ⟨⟨od,cd,sl,hC,hab,hde,hmro⟩,made,base,mro,sub,call,typ,ist⟩:=Y
 have sl1:=sub (.type "list") true mu
 refine kQ ?_
 refine codeAny_call_builtin_code (plainId_quiet F.plain_list_new _) ?_
 have ha:=mF (.ref C) i
 dsimp only [checkBuiltinCall]
 repeat (first | dsimp only [bne_self_eq_false,Bool.false_eq_true,if_false] | lk)
 have fin:codeAny (model prog w) A (.builtin "list.__new__" ⟨[.ref C,i],[]⟩) R ⟨h,g,d,t,os⟩:=by
  refine codeAny_builtin_stack F.entry_list_new rfl fun p st=>?_
  refine (Around.under_plainId F.plain_list_new _) ▸ ?_
  have hown:=owner_list_new
  simp only [hown]
  repeat lk
  refine wpAny_load (s:=⟨_,g,d,t,os⟩) (Heap.get?_push_of_some _ (Heap.get?_push_of_some _ hC)) (wpAny_pure ?_)
  refine (hde) ▸ ?_
  refine wpAny_pure (wpAny_pure ?_)
  show R _ _
  rw [Heap.size_push]
  exact hq
 exact fin
theorem xz{i:Value}{fI:Addr}{init:Value}(hinit:init=.ref fI)(Y:LMakes (model prog w) h C)(hi:Looks (model prog w) h (typeLookup (.ref C) "__init__") (some init))(hf:∃ o,h.get? fI=some o/\o.cls=.type "function")
  (hq:codeAny (model prog w) (A.under (.builtin "type.__call__" ⟨[.ref C,i],[]⟩)) (.call init ⟨[.ref (h.objs.size + 1),i],[]⟩) (InitBack (h.objs.size + 1) R) ⟨(h.push emptyDict).push (dX C h.objs.size),g,d,t,os⟩) :
  codeAny (model prog w) A (.call (.ref C) ⟨[i],[]⟩) R ⟨h,g,d,t,os⟩:=by
 refine byQ fun Q kQ=>?_
 have Y':=Y
 obtain ⟨⟨od,cd,sl,hC,hab,hde,hmro⟩,made,base,mro,sub,call,typ,ist⟩:=Y
 refine kQ ?_
 refine codeAny_of_tree ?_
 show wpAny _ _ (callAny (.ref C) _) _ _ _
 refine nd_load hC ?_
 show wpAny _ _ (callAny.viaDunder (.ref C) _) _ _ _
 dsimp only [callAny.viaDunder]
 refine wpAny_bind (call.at ?_)
 dsimp only
 rw [tc_bind]
 refine wpAny_bind (wpAny_pure (wpAny_bind (wpAny_pure ?_)))
 refine wpAny_pure (a:=Fin.again (.call (.builtin "type.__call__") ⟨[.ref C,i],[]⟩)) (And.intro rfl ?_)
 refine codeAny_call_builtin_at (Code.quiet_builtin _ (by decide +kernel)) entry_typeCall (check_slot tc_kind tc_split typ (tc_args _ _ _) ?_)
 dsimp only [Builtin.«type.__call__»]
 have e4:([Value.ref C,.type "list",.type "object"]:List Value).isEmpty=false:=rfl
 repeat (first | dsimp only [e4,Bool.false_eq_true,if_false] | with_reducible refine wpAny_call ?_ | lk)
 refine z4 Y' ?_
 have k:∀ b o,h.get? b=some o->((h.push emptyDict).push (dX C h.objs.size)).get? b=some o:=fun b o e=>Heap.get?_push_of_some _ (Heap.get?_push_of_some _ e)
 have hx:((h.push emptyDict).push (dX C h.objs.size)).get? (h.objs.size + 1)=some (dX C h.objs.size):=by heap_get
 have t1:Looks (model prog w) ((h.push emptyDict).push (dX C h.objs.size)) (typeOf (.ref (h.objs.size + 1))) (.ref C):=(Looks.ld hx).andThen .now
 have s1:=(sub (.ref C) true rL).keeps k
 have i1:=hi.keeps k
 have b0:Looks (model prog w) h (bindSpecial init (.ref (h.objs.size + 1))) (init,[.ref (h.objs.size + 1)]):=by
  subst hinit
  obtain ⟨o,h_p⟩:=hf;have ho:=h_p.1;have hc:=h_p.2
  unfold bindSpecial
  refine Looks.andThen (a:=.type "function") ((Looks.ld ho).andThen ?_) (Looks.of_pure (by kernel_rfl))
  exact (hc) ▸ (.now)
 have b1:=b0.keeps k
 unfold isInstance callSpecial? specialOf
 repeat (first | with_reducible refine wpAny_call ?_ | lk)
 refine codeAny_mono hq fun r s' z=>?_
 rcases r with e | (v | _ | _ | _) <;> first | exact z | exact z.elim | skip
 obtain ⟨rfl,z⟩:=z
 exact wpAny_pure (wpAny_pure z)
end
theorem ai1:Lt "__init__" "list.__init__" "wrapper_descriptor" "method-wrapper":=⟨by kernel_rfl,by kernel_rfl,.inl ⟨rfl,rfl⟩,by decide +kernel⟩
theorem c61:Lt "__len__" "list.__len__" "wrapper_descriptor" "method-wrapper":=⟨by kernel_rfl,by kernel_rfl,.inl ⟨rfl,rfl⟩,by decide +kernel⟩
theorem c41:Lt "pop" "list.pop" "method_descriptor" "builtin_function_or_method":=⟨by kernel_rfl,by kernel_rfl,.inr ⟨rfl,rfl⟩,by decide +kernel⟩
theorem x9:(("list.__init__":String).cutAt '.').dropLast=["list"]:=by decide +kernel
theorem aN1:(("list.__len__":String).cutAt '.').dropLast=["list"]:=by decide +kernel
theorem aM1:(("list.pop":String).cutAt '.').dropLast=["list"]:=by decide +kernel
theorem cbc{id:String}{sig}{self:Value}{rest kw}{a:Addr}(h1:Manifest.signature? id=some sig)(h2:builtinKind id=some .method)(hv:Manifest.varargsMethods.contains id=false) :
  ∃ (K1 K2:Bool->Sem Unit) (K3:Value->Sem Unit) (K4:ClassData->Sem Unit) (K5:ClassData->Value->Sem Unit),checkBoundCall id ⟨self::rest,kw⟩=(isInstance self (.type "module") >>= K1)/\K1 false=(isType self >>= K2) /\
   K2 false=(typeOf self >>= K3)/\K3 (.ref a)=(classData a >>= K4)/\(∀ cd,K4 cd=(typeOf (.ref a) >>= K5 cd)) /\
   ∀ cd,K5 cd (.type "type")=Bind.checkArgs id { sig with full:=s!"{cd.qualname.toString}.{Bind.lastOf id}" } ⟨self::rest,kw⟩:=by
 unfold checkBoundCall
 rw [h1]
 dsimp only
 rw [h2]
 dsimp only
 rw [if_neg (by decide)]
 iterate 5 apply Exists.intro
 apply And.intro;rfl
 apply And.intro;exact (congrArg (fun b=>ite ((b || false)=true) _ _) hv).trans rfl
 apply And.intro;rfl
 apply And.intro;rfl
 apply And.intro;exact fun _=>rfl
 exact fun _=>rfl
theorem yg(a:Value):checkBoundCall "list.__init__" ⟨[a],[]⟩=pure ():=by kernel_rfl
theorem a01(a:Value):checkBoundCall "list.__len__" ⟨[a],[]⟩=pure ():=by kernel_rfl
section
variable {G:Wd} {A:Around} {C C':Cx} {env cenv:Env} {W W':List Addr} {η η' η₁ η₂ bw:ac} {σ σ' σ₁ σ₂ aj σ₄ b9:List AO} {ρ ρ' ab:Rho} {s s' ao aA:Shared} {m:Str->Option Value}
theorem aZ1(KX:AccX G m)(R:Rel G σ ρ s){b:Addr}{o:Obj}(ho:s.heap.get? b=some o)(hc:o.cls=.ref G.cls)(hnc:∀ c,o.data≠.cls c){Q:Unit->Shared->Prop}{E:Value->Shared->Prop}(hQ:Q () s):wpAny (model G.prog G.w) A (checkBoundCall "list.pop" ⟨[.ref b],[]⟩) Q E s:=by
 refine byQ fun Q kQ=>?_
 refine fO (KX.obj) fun cd od sl h_p=>?_;have hC0:=h_p.1;have hmro:=h_p.2.1;have hhd:=h_p.2.2.1;have hab:=h_p.2.2.2.1;have hde:=h_p.2.2.2.2.1;have h4:=h_p.2.2.2.2.2
 have hqn:=KX.qn _ _ hC0 rfl
 have hC:=R.keep _ _ KX.acc.lc hC0
 have hsub:=fJ KX.acc R (c:=.type "module") (b:=false) (by rw [List.contains_cons,List.contains_cons,List.contains_cons];simp) (M:=model G.prog G.w)
 have hsig:Manifest.signature? "list.pop"=some ⟨.positional,"list.pop","pop",.self,[⟨"index",.posOnly,false⟩]⟩:=by kernel_rfl
 have hck:Bind.checkArgs "list.pop" ⟨.positional,"_Accumulator.pop","pop",.self,[⟨"index",.posOnly,false⟩]⟩ ⟨[.ref b],[]⟩=pure ():=by kernel_rfl
 have hk:builtinKind "list.pop"=some .method:=by kernel_rfl
 have hv:Manifest.varargsMethods.contains "list.pop"=false:=by decide +kernel
 have hl:Bind.lastOf "list.pop"="pop":=by decide +kernel
 have tob:Looks (model G.prog G.w) s.heap (typeOf (.ref b)) (.ref G.cls):=by
  refine (Looks.ld ho).andThen ?_
  exact (hc) ▸ (.now)
 have ins:Looks (model G.prog G.w) s.heap (isInstance (.ref b) (.type "module")) false:=tob.andThen hsub
 have ist:Looks (model G.prog G.w) s.heap (isType (.ref b)) false:=fun A Q E s' k q=>by
  unfold isType loadHead
  refine wpAny_bind (wpAny_loadPart (k _ _ ho) ?_)
  obtain ⟨oc,od,odt,osl⟩:=o
  cases odt <;> first | exact wpAny_pure q | exact absurd rfl (hnc _)
 have toc:Looks (model G.prog G.w) s.heap (typeOf (.ref G.cls)) (.type "type"):=(Looks.ld hC).andThen .now
 have e0:(s!"{("_Accumulator" : Str).toString}.{"pop"}":String)="_Accumulator.pop":=by decide +kernel
 refine kQ ?_
 refine g61 (cbc (a:=G.cls) (self:=.ref b) (rest:=[]) (kw:=[]) hsig hk hv) fun K1 K2 K3 K4 K5 e1 e2 e3 e4 e5 e6=>?_
 rw [e1]
 refine wpAny_bind (ins.here ?_)
 rw [e2]
 refine wpAny_bind (ist.here ?_)
 rw [e3]
 refine wpAny_bind (tob.here ?_)
 rw [e4]
 refine wpAny_bind ?_
 unfold classData
 refine wpAny_bind (wpAny_load hC (wpAny_pure ?_))
 rw [e5]
 refine wpAny_bind (toc.here ?_)
 rw [e6,hqn,hl,e0]
 exact wpAny_of_eq hck hQ
theorem qY{k:Nat}{o:AO}(h:σ[k]?=some o):σ.set k o=σ:=by
 apply List.ext_getElem?
 intro j
 refine (List.getElem?_set) ▸ ?_
 split
 ·subst j
  split
  ·exact h.symm
  ·rename_i q
   exact absurd (List.getElem?_eq_some_iff.mp h).1 q
 ·rfl
theorem oF{k:Nat}{l:List V}{i:Int}{p:Addr × Addr}(R:Rel G σ ρ s)(hp:ρ.st[k]?=some p)(hσ:σ[k]?=some ⟨l,some i⟩) :
  codeAny (model G.prog G.w) A (.builtin "list.__init__" ⟨[.ref p.1],[]⟩) (wants (PE G ρ s (σ.set k ⟨[],some i⟩) .none) No) s:=by
 refine byQ fun Q kQ=>?_
 refine fO (bR R hp hσ) fun vs n d h_p=>?_;have g1:=h_p.1;have g2:=h_p.2.1;have g3:=h_p.2.2.1;have g4:=h_p.2.2.2.1;have g5:=h_p.2.2.2.2.1;have g6:=h_p.2.2.2.2.2
 have hsz:vs.size=l.length:=by have:=RVs.length g2;simpa using this
 refine kQ ?_
 refine codeAny_builtin F.entry_list_init ?_
 rw [Around.under_plainId (by decide +kernel) _]
 show wpAny _ A.in1 (do let old ← Builtin.List.listItems (.ref p.1);Builtin.List.listUpdate (.ref p.1) (fun _=>#[]);letGo old.toList.reverse;ret .none) _ _ s
 refine wpAny_bind ?_
 unfold Builtin.List.listItems
 refine wpAny_bind (wpAny_seqItems g1 rfl (wpAny_pure ?_))
 show wpAny _ A.in1 (updateSeq p.1 (fun _=>#[]) >>= fun _=>letGo vs.toList.reverse >>= fun _=>ret .none) _ _ s
 refine wpAny_bind (wpAny_updateSeq g1 rfl (wpAny_bind (wpAny_letGo (wpAny_pure ?_))) (by rw [hsz];exact Nat.le_trans g6 (by decide)) (by decide))
 have hg:(s.heap.update p.1 (Obj.mapSeq (fun _=>(#[]:Array Value)))).get? p.1=some ⟨.ref G.cls,some p.2,.seq #[] (if (#[]:Array Value).size == vs.size then n else n + 1),#[]⟩:=by
  rw [Heap.get?_update_self _ g1 (by rfl)];rfl
 exact ⟨ρ,mJ (t:=s.toks) R hp hσ (Heap.SameBut.update ..).extBut (Nat.zero_le _) hg fun _=>RVs.nil,RV.none_⟩
theorem qv{k:Nat}{l:List V}{i:Int}{p:Addr × Addr}(R:Rel G σ ρ s)(hp:ρ.st[k]?=some p)(hσ:σ[k]?=some ⟨l,some i⟩) :
  codeAny (model G.prog G.w) A (.builtin "list.__len__" ⟨[.ref p.1],[]⟩) (wants (PE G ρ s σ (.int l.length)) No) s:=by
 refine byQ fun Q kQ=>?_
 refine fO (bR R hp hσ) fun vs n d h_p=>?_;have g1:=h_p.1;have g2:=h_p.2.1;have g3:=h_p.2.2.1;have g4:=h_p.2.2.2.1;have g5:=h_p.2.2.2.2.1;have g6:=h_p.2.2.2.2.2
 have hsz:vs.size=l.length:=by have:=RVs.length g2;simpa using this
 refine kQ ?_
 refine codeAny_builtin F.entry_list_len ?_
 rw [Around.under_plainId (by decide +kernel) _]
 show wpAny _ A.in1 (do let n ← seqSize p.1;retInt n) _ _ s
 refine wpAny_bind ?_
 unfold seqSize
 refine wpAny_bind (wpAny_loadPart g1 (wpAny_pure ?_))
 show wpAny _ A.in1 (mkInt vs.size >>= fun v=>ret v) _ _ s
 refine wpAny_bind (wpAny_mkInt (wpAny_pure ?_))
 refine ⟨ρ,Step.toks R _,?_⟩
 refine (hsz) ▸ ?_
 delta RV
 exact ⟨_,rfl⟩
theorem qt{k:Nat}{l:List V}{v:V}{i:Int}{p:Addr × Addr}(R:Rel G σ ρ s)(hp:ρ.st[k]?=some p)(hσ:σ[k]?=some ⟨l++[v],some i⟩) :
  codeAny (model G.prog G.w) A (.builtin "list.pop" ⟨[.ref p.1],[]⟩) (wants (PE G ρ s (σ.set k ⟨l,some i⟩) v) No) s:=by
 refine fO (bR R hp hσ) fun vs n d h_p=>?_;have g1:=h_p.1;have g2:=h_p.2.1;have g3:=h_p.2.2.1;have g4:=h_p.2.2.2.1;have g5:=h_p.2.2.2.2.1;have g6:=h_p.2.2.2.2.2
 have hsz:vs.size=l.length + 1:=by have:=RVs.length g2;simpa using this
 have hlast:(l++[v])[l.length]?=some v:=by simp
 refine a7 (RVs.get g2 hlast) fun c h_p=>?_;have hc:=h_p.1;have hv:=h_p.2
 have hc':vs[l.length]?=some c:=by simpa using hc
 refine codeAny_builtin F.entry_list_pop ?_
 rw [Around.under_plainId (by decide +kernel) _]
 have hcc:checkCount "pop" 0 1 0=pure ():=by kernel_rfl
 have hs1:Builtin.List.listFitsIndex (-1)=true:=by decide
 show wpAny _ A.in1 (checkCount "pop" 0 1 0 >>= fun _=>_) _ _ s
 refine wpAny_bind (wpAny_of_eq hcc ?_)
 dsimp only
 refine wpAny_bind (wpAny_pure ?_)
 rw [if_neg (by rw [hs1];decide)]
 refine wpAny_bind ?_
 unfold Builtin.List.listItems
 refine wpAny_bind (wpAny_seqItems g1 rfl (wpAny_pure ?_))
 have hne:vs.isEmpty=false:=by
  cases hv':vs.isEmpty with
  | false=>rfl
  | true=>rw [Array.isEmpty_iff.mp hv'] at hsz;simp at hsz
 rw [if_neg (by rw [hne];exact Bool.false_ne_true)]
 have hi:seqIndex? (-1) vs.size=some l.length:=by
  rw [hsz]
  dsimp only [seqIndex?]
  have e1:(if (-1:Int) < 0 then (-1:Int) + ((l.length + 1:Nat):Int) else -1)=(l.length:Int):=by
   rw [if_pos (by decide)];lia
  simp only [e1]
  rw [if_pos (by simp;exact Int.ofNat_le.mpr (Nat.le_of_eq (Eq.refl (l.length + 1))))]
  simp
 refine (hi) ▸ ?_
 show wpAny _ _ (match Option.map (fun x=>(l.length,x)) vs[l.length]? with
  | some (k,x)=>do
   Builtin.List.listUpdate (Value.ref p.fst) fun x=>x.eraseIdxIfInBounds k
   ret x
  | none=>do
   rule "list.pop.out-of-range"
   raiseError "IndexError" "pop index out of range") _ _ _
 refine (hc') ▸ ?_
 show wpAny _ A.in1 (updateSeq p.1 (fun x=>x.eraseIdxIfInBounds l.length) >>= fun _=>ret c) _ _ s
 have hel:(vs.eraseIdxIfInBounds l.length).size<=sizeLine:=by
  have:(vs.eraseIdxIfInBounds l.length).size<=vs.size:=by
   unfold Array.eraseIdxIfInBounds
   split
   ·rw [Array.size_eraseIdx];exact Nat.sub_le _ _
   ·exact Nat.le_refl _
  rw [hsz] at this
  simp at g6
  exact Nat.le_trans this (Nat.le_trans g6 (by decide))
 refine wpAny_bind (wpAny_updateSeq g1 rfl (wpAny_pure ?_) (by rw [hsz];simp at g6;exact Nat.le_trans g6 (by decide)) (Nat.le_succ_of_le hel))
 have hg:(s.heap.update p.1 (Obj.mapSeq (fun x=>x.eraseIdxIfInBounds l.length))).get? p.1=some ⟨.ref G.cls,some p.2,.seq (vs.eraseIdxIfInBounds l.length) (if (vs.eraseIdxIfInBounds l.length).size == vs.size then n else n + 1),#[]⟩:=by
  rw [Heap.get?_update_self _ g1 (by rfl)];rfl
 have st:Step G ρ s ρ { s with heap:=s.heap.update p.1 (Obj.mapSeq fun xs=>xs.eraseIdxIfInBounds l.length),toks:=s.toks } (σ.set k ⟨l,some i⟩) :=
  mJ (t:=s.toks) R hp hσ (Heap.SameBut.update ..).extBut (by simp at g6;exact Nat.le_of_lt ‹_›) hg fun K=>by
   have h5:(vs.eraseIdxIfInBounds l.length).toList=vs.toList.take l.length:=by
    have:vs.toList.length=l.length + 1:=by exact hsz
    simp only [Array.eraseIdxIfInBounds]
    rw [dif_pos (by exact Nat.le_of_eq (Eq.symm ‹_›)),Array.toList_eraseIdx,List.eraseIdx_eq_take_drop_succ,List.drop_of_length_le (by exact Nat.le_of_eq ‹_›),List.append_nil]
   rw [h5]
   have:=RVs.take l.length (RVs.mono K _ _ g2)
   simpa using this
 exact ⟨ρ,st,RV.mono (Step.keepV R st) _ _ hv⟩
end
noncomputable def ew1(name:Str)(P:Nat->Pos)(i:Nat):Expr:=.Call (.Attribute (.Call (.Name "super" (P i)) [] [] (P (i + 1))) name (P (i + 2))) [] [] (P (i + 3))
noncomputable def jc(name:Str)(body:List Stmt):Prop:=∃ P:Nat->Pos,body=[.Return (some (ew1 name P 0)) (P 4)]/\((P 2).endLine == (P 3).line)=true
noncomputable def xm(C:Cx)(body:List Stmt):Prop:=∃ P:Nat->Pos,body=[.Expr (.Call (.Attribute (.Name "self" (P 0)) "append" (P 1)) [.Tuple [.Name "fws" (P 2),.Name "string" (P 3)] 0 (P 4)] [] (P 5)) (P 6)] /\
 (d6 C "self" 0 && d6 C "fws" 1 && d6 C "string" 2 && (P 1).endLine == (P 5).line)=true
noncomputable def eC1(C:Cx)(body:List Stmt):Prop:=∃ P:Nat->Pos,body=[.If (.Compare (.Call (.Attribute (.Name "self" (P 0)) "part_count" (P 1)) [] [] (P 2)) [.Eq] [.Constant (.int 0) 0 (P 3)] (P 4))
  [.Return (some (.Tuple [.Constant (.str "") 0 (P 5),.Constant (.str "") 0 (P 6)] 0 (P 7))) (P 8)] [] (P 9),.Return (some (ew1 "pop" P 10)) (P 14)] /\
 (d6 C "self" 0 && (P 1).endLine == (P 2).line && (P 12).endLine == (P 13).line)=true
section
variable {G:Wd} {A:Around} {C C':Cx} {env cenv:Env} {W W':List Addr} {η η' η₁ η₂ bw:ac} {σ σ' σ₁ σ₂ aj σ₄ b9:List AO} {ρ ρ' ab:Rho} {s s' ao aA:Shared} {m:Str->Option Value}
theorem EsAt.retSup(K:Acc G m)(U:Sup G){a:Addr}{fd:FuncData}{body:List Stmt}{ns:List Str}(D:DefM G a fd body C ns){x:Var}(V:SupD G fd C x){P:Nat->Pos}{q:Nat}{rp:Pos}{k:Nat}{l:List Mine.V}{i:Int}{v:Mine.V}{id dt mt:String}{name:Str}
  (hl:((P (q + 2)).endLine == (P (q + 3)).line)=true) (L:Lt name id dt mt) (hid:(id.cutAt '.').dropLast=["list"]) (hn:(name == ("__class__":Str))=false) (hm:mt="method-wrapper"\/mt="builtin_function_or_method") (hfu:env.func=some a) (hco:env.code=fd.code) (hce:env.cells=fd.closure)
  (hη:η[x.slot]?=some (some (.ref k))) (hσ:σ[k]?=some ⟨l,some i⟩) (hq:∀ b,(Code.builtin id ⟨[.ref b],[]⟩).quiet=true)
  (hchk:∀ {ρ s} {b:Addr} {vs:Array Value} {n:Nat} {d:Addr},Rel G σ ρ s->s.heap.get? b=some ⟨.ref G.cls,some d,.seq vs n,#[]⟩->∀ {A':Around} {Q:Unit->Shared->Prop} {E:Value->Shared->Prop},Q () s->wpAny (model G.prog G.w) A' (checkBoundCall id ⟨[.ref b],[]⟩) Q E s)
  (hb:∀ A' ρ s p,Rel G σ ρ s->ρ.st[k]?=some p->0 < s.toks->codeAny (model G.prog G.w) A' (.builtin id ⟨[.ref p.1],[]⟩) (wants (PE G ρ s σ' v) No) s) :
  EsAt G A C env W body (.Return (some (ew1 name P q)) rp) σ η (.ret v) σ' η:=fun ρ s R N ht=>by
 exact ks_wpAt_Return_some (ks_wpAt_mono (qU K U D V L hid hn hm hfu hco hce hη hσ hl hq hchk hb R N ht) ((by rintro cv ao ⟨aM,ab,ag,aw⟩;exact ⟨aM,ab,ag.toW,N.mono R ag,cv,rfl,aw⟩)) fun _ _ f=>f.elim)
theorem bf1(K:Acc G m){a:Addr}{fd:FuncData}{body:List Stmt}{ns:List Str}{n k:Nat}{l:List V}{i:Int}{u w:V}(D:DefM G a fd body C ns)(hm:xm C body)(hns:ns.length=3)
  (hb:∀ cvs:List Value,cvs.length=3->bindArgs fd ⟨cvs,[]⟩=pure (ns.zip cvs)) (hga:m "__getattribute__"=none) (hgt:m "__getattr__"=none) (hap:m "append"=none) (hr:Room A (n + 1)) (hσ:σ[k]?=some ⟨l,some i⟩) (hl:l.length < lim) :
  On G A (fun cvs=>call (.ref a) cvs) σ [.ref k,u,w] .none (σ.set k ⟨l++[.tup [u,w]],some i⟩):=by
 refine byQ fun Q kQ=>?_
 obtain ⟨P,rfl,hm⟩:=hm
 simp only [Bool.and_eq_true] at hm
 obtain ⟨⟨⟨h1,h2⟩,h3⟩,h5⟩:=hm
 refine kQ ?_
 refine On.defM (k:=0) (xs:=[]) (dv:=[]) D hr (by rw [hns];rfl) (fun _ _=>RVs.nil) (fun s cvs _ hl=>BindsTo.of_eq (by rw [List.append_nil];exact hb cvs hl)) (.inr ⟨rfl,rfl⟩) fun A' env W hA _ _ _ _=>EssAt.of (Ess.cons (Es.expr (v:=.none) rfl ?_) Ess.nil)
 exact Ev.accBi K nF rfl rfl (show 1 < 29 by decide) h5 hga hgt hap (by decide) (Ev.var h1 rfl) hσ
  (Evs.cons rfl (Ev.tup (Evs.cons rfl (Ev.var h2 rfl) (Evs.cons rfl (Ev.var h3 rfl) Evs.nil)) (show 2<=lim by decide)) Evs.nil) (iE K hσ hl)
theorem oP(KX:AccX G m)(U:Sup G){a:Addr}{fd:FuncData}{body:List Stmt}{ns:List Str}{n k:Nat}{l:List Mine.V}{i:Int}(D:DefM G a fd body C ns){x:Var}(V:SupD G fd C x)(hx0:x.slot=0)(hm:jc "__len__" body)(hns:ns.length=1)
  (hb:∀ cvs:List Value,cvs.length=1->bindArgs fd ⟨cvs,[]⟩=pure (ns.zip cvs)) (hr:Room A (n + 1)) (hσ:σ[k]?=some ⟨l,some i⟩) :
  On G A (fun cvs=>call (.ref a) cvs) σ [.ref k] (.int l.length) σ:=by
 refine byQ fun Q kQ=>?_
 obtain ⟨P,rfl,hm⟩:=hm
 refine kQ ?_
 refine On.defM (k:=0) (xs:=[]) (dv:=[]) (η':=az [.ref k] 0) D hr (by rw [hns];rfl) (fun _ _=>RVs.nil) (fun s cvs _ hl=>BindsTo.of_eq (by rw [List.append_nil];exact hb cvs hl)) (.inl rfl) fun A' env W hA h1 h2 h3 _=>EssAt.stop ?_
 exact EsAt.retSup KX.acc U D V hm c61 aN1 (by decide) (.inl rfl) h1 h2 h3 (by rw [hx0];rfl) hσ (fun b=>plainId_quiet (by decide +kernel) _) (fun _ _ _ _ _ hQ=>wpAny_of_eq (a01 _) hQ)
  fun A' ρ s p R hp _=>qv R hp hσ
noncomputable def sm(l:List V):V × List V:=match l.getLast? with
 | some v=>(v,l.dropLast)
 | none=>(.tup [.str [],.str []],l)
theorem ep1(KX:AccX G m)(U:Sup G){a apc:Addr}{fd fdpc:FuncData}{body bpc:List Stmt}{ns npc:List Str}{n k:Nat}{l:List Mine.V}{i:Int}{Cpc:Cx}(D:DefM G a fd body C ns){x:Var}(V:SupD G fd C x)(hx0:x.slot=0)(hm:eC1 C body)(hns:ns.length=1)
  (hb:∀ cvs:List Value,cvs.length=1->bindArgs fd ⟨cvs,[]⟩=pure (ns.zip cvs)) (hr:Room A (n + 2)) (hσ:σ[k]?=some ⟨l,some i⟩)
  (hga:m "__getattribute__"=none) (hgt:m "__getattr__"=none) (hpc:m "part_count"=some (.ref apc))
  (D':DefM G apc fdpc bpc Cpc npc) {x':Var} (V':SupD G fdpc Cpc x') (hx0':x'.slot=0) (hm':jc "__len__" bpc) (hns':npc.length=1) (hb':∀ cvs:List Value,cvs.length=1->bindArgs fdpc ⟨cvs,[]⟩=pure (npc.zip cvs)) :
  On G A (fun cvs=>call (.ref a) cvs) σ [.ref k] (sm l).1 (σ.set k ⟨(sm l).2,some i⟩):=by
 obtain ⟨P,rfl,hm⟩:=hm
 have q_1:=ap hm;have q_2:=ap q_1.1;have h1:=q_2.1;have h3:=q_2.2;have h6:=q_1.2
 refine On.defM (k:=0) (xs:=[]) (dv:=[]) (η':=az [.ref k] 0) D hr (by rw [hns];rfl) (fun _ _=>RVs.nil) (fun s cvs _ hl=>BindsTo.of_eq (by rw [List.append_nil];exact hb cvs hl)) (.inl rfl) fun A' env W hA e1 e2 e3 _=>?_
 refine a7 (D'.obj) fun o h_p=>?_;have hob:=h_p.1;have hfd:=h_p.2.1;have hfc:=h_p.2.2
 have test:Et G A' C env W (.Compare (.Call (.Attribute (.Name "self" (P 0)) "part_count" (P 1)) [] [] (P 2)) [.Eq] [.Constant (.int 0) 0 (P 3)] (P 4)) σ (az [.ref k] 0) (decide ((l.length:Int)=0)) σ :=
  Et.cmp rfl (Ev.accDef KX.acc rfl rfl (by decide) h3 hga hgt hpc (by decide) hob D'.la hfd hfc (Ev.var h1 rfl) hσ Evs.nil (oP KX U D' V' hx0' hm' hns' hb' hA hσ)) Ev.int_ (bz (op:=.Eq) (by have:=hA.units;lia) (by rfl))
 have emp:∀ pp:Pos,Ev G A' C env W (.Constant (.str "") 0 pp) σ (az [.ref k] 0) (.str []) σ:=fun pp=>Ev.str_ (x:="") (by decide)
 by_cases h0:l=[]
 ·subst h0
  have e:sm []=((.tup [.str [],.str []]:Mine.V),([]:List Mine.V)):=rfl
  rw [e,qY hσ]
  exact EssAt.of (Ess.stop nofun (Es.if_ test (fun _=>Ess.stop nofun (Es.ret (Ev.tup (Evs.cons rfl (emp _) (Evs.cons rfl (emp _) Evs.nil)) (show 2<=lim by decide)))) nofun))
 ·obtain ⟨l',v,rfl⟩:∃ l' v,l=l'++[v]:=⟨l.dropLast,l.getLast h0,(List.dropLast_concat_getLast h0).symm⟩
  have e:sm (l'++[v])=(v,l'):=by unfold sm;simp
  rw [e]
  have hd:decide (((l'++[v]).length:Int)=0)=false:=by simp;lia
  rw [hd] at test
  refine EssAt.cons (EsAt.of (Es.if_ test nofun (fun _=>Ess.nil))) (EssAt.stop ?_)
  exact EsAt.retSup KX.acc U D V h6 c41 aM1 (by decide) (.inr rfl) e1 e2 e3 (by rw [hx0];rfl) hσ (fun b=>plainId_quiet (by decide +kernel) _) (fun R ho _ _ _ hQ=>aZ1 KX R ho rfl (fun _ e=>by cases e) hQ)
   fun A' ρ s p R hp _=>qt R hp hσ
end
open Builtin Builtin.List
theorem nJ:builtinKind "list.__getitem__"=some .method:=by kernel_rfl
theorem lD:splitId "list.__getitem__"=some ("list","__getitem__"):=by decide +kernel
theorem nI:builtinKind "list.__setitem__"=some .slot:=by kernel_rfl
theorem lC:splitId "list.__setitem__"=some ("list","__setitem__"):=by decide +kernel
section
variable {G:Wd} {A:Around} {C C':Cx} {env cenv:Env} {W W':List Addr} {η η' η₁ η₂ bw:ac} {σ σ' σ₁ σ₂ aj σ₄ b9:List AO} {ρ ρ' ab:Rho} {s s' ao aA:Shared} {m:Str->Option Value}
theorem e8(K:Acc G m)(R:Rel G σ ρ s){a:Addr}{o:Obj}{name:Str}{id n:String}{b:Builtin}{rest:List Value}(ho:s.heap.get? a=some o)(hc:o.cls=.ref G.cls)(sl:Slot "list" name id)(hm:m name=none)
  (hk:builtinKind id=some .slot\/builtinKind id=some .method) (hsplit:splitId id=some ("list",n)) (ha:argsOk id ⟨.ref a::rest,[]⟩) (hb:entryFor table id=some b) {Q:Option Value->Shared->Prop} {E:Value->Shared->Prop}
  (h:wpAny (model G.prog G.w) A.in1 (b ⟨.ref a::rest,[]⟩) (fun fin s'=>∃ v,fin=.done (.ret v)/\Q (some v) s') E s):wpAny (model G.prog G.w) A (callSpecial? (.ref a) name rest) Q E s:=by
 unfold callSpecial?
 refine wpAny_bind (cT K R ho hc (.inr ⟨hm,sl.lookup⟩) ?_)
 refine wpAny_holding ?_
 rw [sl.bind]
 refine wpAny_bind (wpAny_pure (wpAny_bind ?_))
 refine wpAny_call (codeAny_call_builtin sl.plain hb (oG K R ho hc hk hsplit ha ?_))
 refine wpAny_mono h (fun fin s' h'=>?_) fun _ _ h'=>h'
 obtain ⟨v,h_p⟩:=h';obtain rfl:=h_p.1;have hv:=h_p.2
 exact wpAny_pure hv
theorem eZ(K:Acc G m)(R:Rel G σ ρ s){a:Addr}{o:Obj}{name:Str}{k:Value}(ho:s.heap.get? a=some o)(hc:o.cls=.ref G.cls){Q:Value->Shared->Prop}{E:Value->Shared->Prop}(h:Q k s):wpAny (model G.prog G.w) A (sequenceKey (.ref a) k name) Q E s:=by
 dsimp only [sequenceKey]
 refine wpAny_bind ?_
 unfold typeOf
 refine wpAny_bind (wpAny_load ho (wpAny_pure ?_))
 refine (hc) ▸ ?_
 show wpAny _ _ ((seqItemTypes.anyM fun n=>isSubtype (.ref G.cls) (.type n)) >>= _) _ _ _
 dsimp only [seqItemTypes]
 dsimp only [List.anyM]
 refine wpAny_bind (wpAny_bind ((fJ K R (c:=.type "collections.deque") (b:=false) (by rw [List.contains_cons,List.contains_cons,List.contains_cons];simp)).here (wpAny_pure ?_)))
 exact wpAny_pure h
theorem gX(K:Acc G m)(R:Rel G σ ρ s){x dx sl:Addr}{items:Array Value}{n:Nat}{vl vu vs:Value}{lo hi st:Option Int}{Q:Value->Shared->Prop}{E:Value->Shared->Prop}(hx:s.heap.get? x=some ⟨.ref G.cls,some dx,.seq items n,#[]⟩)(hgi:m "__getitem__"=none)
  (hs:s.heap.IsSliceOf sl vl vu vs) (pl:IsPart vl lo) (pu:IsPart vu hi) (ps:IsPart vs st) (h0:st≠some 0)
  (h:Q (.ref s.heap.objs.size) { s with heap:=s.heap.push { cls:=.type "list",data:=.seq (slicePick items lo hi st) } })
  (hsz:items.size<=sizeLine):wpAny (model G.prog G.w) A (getItem (.ref x) (.ref sl)) Q E s:=by
 refine a7 (id hs) fun os h_p=>?_;have hos:=h_p.1;have hcs:=h_p.2.1;have hds:=h_p.2.2
 have hTs:s.TypeIs (.ref sl) "slice":=⟨os,hos,hcs⟩
 unfold getItem
 refine wpAny_holding ?_
 refine wpAny_bind (eZ K R hx rfl ?_)
 refine wpAny_bind (e8 K R hx rfl F.slot_list_getitem hgi (.inr nJ) lD (F.args_list_getitem_2 _ _) F.entry_list_getitem ?_)
 show wpAny _ _ (Builtin.List.listSubscript? (.ref sl) >>= _) _ _ s
 refine wpAny_bind ?_
 dsimp only [Builtin.List.listSubscript?]
 refine wpAny_bind (wpAny_specialOf hTs slice_no_index ?_)
 dsimp only [Option.isNone_none,if_true]
 refine wpAny_pure ?_
 show wpAny _ _ (typeOf (.ref sl) >>= _) _ _ s
 refine wpAny_bind (wpAny_typeOf hTs ?_)
 rw [if_neg (by decide)]
 rw [listSliceParts_eq]
 have hstep:¬ ((rawPart st == rawInt 0)=true):=by
  cases st with
  | none=>exact Bool.false_ne_true
  | some c =>
   intro hh
   have:c=0:=by simpa [rawPart,rawInt] using hh
   exact h0 (by rw [this])
 refine wpAny_bind (wpAny_bind (wpAny_field hos hds (x:=vs) rfl (wpAny_bind (wpAny_listPart ps ?_))))
 refine (if_neg hstep) ▸ ?_
 refine wpAny_bind (wpAny_field hos hds (x:=vl) rfl (wpAny_bind (wpAny_listPart pl ?_)))
 refine wpAny_bind (wpAny_field hos hds (x:=vu) rfl (wpAny_bind (wpAny_listPart pu (wpAny_pure ?_))))
 refine wpAny_bind (m:=Builtin.List.listItems (.ref x)) ?_
 unfold Builtin.List.listItems
 refine wpAny_bind (wpAny_seqItems hx rfl (wpAny_pure ?_))
 refine wpAny_bind (wpAny_of_eq (sliceIndices_raw lo hi st items.size h0) ?_)
 refine wpAny_bind (wpAny_newObj_type (wpAny_pure ⟨_,rfl,wpAny_pure h⟩) (Nat.le_trans (slicePick_size_le items lo hi st) hsz))
theorem ym(K:Acc G m)(R:Rel G σ ρ s){value slice:Expr}{x:Addr}{o:Obj}{i:Value}{Q:Value->Shared->Prop}{E:Value->Shared->Prop}(hx:s.heap.get? x=some o)(hc:o.cls=.ref G.cls)(hgi:m "__getitem__"=none)
  (h:wpAny (model G.prog G.w) A (getItem (.ref x) i) Q E s):wpAny (model G.prog G.w) A (subscriptTail value slice (.ref x) i) Q E s:=by
 unfold subscriptTail
 refine wpAny_bind ?_
 refine (getitemInPython_of_ne (o:=.ref x) nofun) ▸ ?_
 refine wpAny_bind (cT K R hx hc (.inr ⟨hgi,F.slot_list_getitem.lookup⟩) ?_)
 refine wpAny_pure ?_
 refine wpAny_bind ?_
 have fin:∀ vs:List Value,wpAny (model G.prog G.w) A (operate vs (getItem (.ref x) i)) (fun r fX=>wpAny (model G.prog G.w) A (letTemporaryGo value (.ref x) r >>= fun _=>pure r) Q E fX) E s :=
  fun vs=>wpAny_operating (wpAny_mono h (fun r fX kj=>wpAny_bind (wpAny_letTemporaryGo (wpAny_pure kj))) fun _ _ x=>x)
 exact a7 (ui slice (.ref x) i) fun vs e=>e ▸ fin vs
theorem jN(i n:Nat):sliceBounds (some (i:Int)) none none n=(((min i n:Nat):Int),(n:Int),1):=by
 simp only [sliceBounds,Option.getD_none]
 have h1:¬ ((i:Int) < 0):=by lia
 simp only [h1,if_false,show (1:Int) > 0 by decide,if_true]
 congr 1
 omega
theorem uq{α:Type}(l:List α)(i:Nat):j4 l (some (i:Int)) none none=l.drop i:=by
 unfold j4
 rw [jN]
 dsimp only
 rw [sliceRange_one]
 have:=pick_run l.toArray (min i l.length) (l.length - min i l.length)
 simp only [List.getElem?_toArray] at this
 rw [this,List.take_of_length_le (by simp)]
 by_cases h:i<=l.length
 ·rw [Nat.min_eq_left h]
 ·rw [Nat.min_eq_right (by exact Nat.le_of_lt (Nat.not_le.mp h)),List.drop_of_length_le (Nat.le_refl _),List.drop_of_length_le (by exact Nat.le_of_lt (Nat.not_le.mp h))]
theorem j3(items:Array Value)(i:Nat):(slicePick items (some (i:Int)) none none).toList=items.toList.drop i:=by
 have:=uq items.toList i
 unfold j4 at this
 dsimp only [slicePick]
 simpa using this
theorem Ev.accSlice(K:Acc G m){value:Expr}{lower:Option Expr}{p pos:Pos}{k i:Nat}{l:List V}{j:Int}(hgi:m "__getitem__"=none)(d4:Ev G A C env W value σ η (.ref k) σ₁)(fC:Ep G A C env W lower σ₁ η (.int i) σ₂)(hσ:σ₂[k]?=some ⟨l,some j⟩) :
  Ev G A C env W (.Subscript value (.Slice lower none none p) pos) σ η (.lst (l.drop i)) σ₂:=fun ρ s R N ht=>by
 refine Subscript_ (d4.use R N ht fun bD ao ab ag aL aM aw=>wpAny_Slice (fC.use ag.rel aL aM fun cG aA av au cN dH aG=>wpAny_pure (wpAny_pure ?_)))
 refine byQ fun Q kQ=>?_
 have hk:∀ b o,aA.heap.get? b=some o->(aA.heap.push { cls:=.type "slice",data:=.fields #[cG,.none,.none] }).get? b=some o:=fun b o e=>Heap.get?_push_of_some _ e
 have fW:Step G av aA av { aA with heap:=aA.heap.push { cls:=.type "slice",data:=.fields #[cG,.none,.none] } } σ₂:=Step.grow au.rel hk ⟨_,_,rfl⟩
 have zz:=RV.mono (Step.keepV ag.rel (au.trans fW)) _ _ aw
 refine a7 (RV.ref_iff zz) fun q h_p=>?_;have hq:=h_p.1;obtain rfl:=h_p.2
 obtain ⟨t,rfl⟩:=RV.int_iff aG
 refine bo1 (bR fW.rel hq hσ) fun vs n d g1 g2 g3 g4 g5 g6=>?_
 have hsz:vs.size=l.length:=by have:=RVs.length g2;simpa using this
 refine kQ ?_
 refine ym K fW.rel g1 rfl hgi (gX K fW.rel g1 hgi (Heap.IsSliceOf.new ..) (.int _ _) .none .none nofun ?_ (by rw [hsz];exact Nat.le_trans g6 (by decide)))
 have hk5:∀ b o,(aA.heap.push { cls:=.type "slice",data:=.fields #[.int i t,.none,.none] }).get? b=some o->((aA.heap.push { cls:=.type "slice",data:=.fields #[.int i t,.none,.none] }).push { cls:=.type "list",data:=.seq (slicePick vs (some (i:Int)) none none) }).get? b=some o :=
  fun b o e=>Heap.get?_push_of_some _ e
 refine ⟨av,(ag.trans (au.trans fW)).trans (Step.grow fW.rel hk5 ⟨_,_,rfl⟩),?_⟩
 dsimp only [RV]
 refine ⟨by rw [List.length_drop];exact Nat.le_trans (Nat.sub_le _ _) ‹_›,_,_,rfl,bT fW.rel,⟨_,Heap.get?_push_size _ rfl⟩,RVs.sameHeap hk5 ?_⟩
 rw [j3]
 exact RVs.drop i g2
end
noncomputable def fh(C:Cx)(body:List Stmt):Prop:=∃ P:Nat->Pos,body=[.Assign [.Name "popped" (P 0)] (.Subscript (.Name "self" (P 1)) (.Slice (some (.Name "i" (P 2))) none none (P 3)) (P 4)) (P 5),
  .Assign [.Subscript (.Name "self" (P 6)) (.Slice (some (.Name "i" (P 7))) none none (P 8)) (P 9)] (.List [] (P 10)) (P 11),.Return (some (.Name "popped" (P 12))) (P 13)] /\
 (d6 C "self" 0 && d6 C "i" 1 && gb C "popped" 2)=true
section
variable {G:Wd} {A:Around} {C C':Cx} {env cenv:Env} {W W':List Addr} {η η' η₁ η₂ bw:ac} {σ σ' σ₁ σ₂ aj σ₄ b9:List AO} {ρ ρ' ab:Rho} {s s' ao aA:Shared} {m:Str->Option Value}
theorem lF(items:Array Value)(i:Nat):(items.extract 0 (((min i items.size:Nat):Int)).toNat++(#[]:Array Value)++items.extract (max ((min i items.size:Nat):Int) (items.size:Int)).toNat items.size).toList=items.toList.take i:=by
 have e1:(max ((min i items.size:Nat):Int) (items.size:Int)).toNat=items.size:=by lia
 rw [e1,Int.toNat_natCast]
 simp only [Array.append_empty,Array.toList_append,Array.toList_extract,List.extract_eq_take_drop]
 simp
theorem qw(K:Acc G m){k i:Nat}{l:List V}{j:Int}{p:Addr × Addr}{sl e:Addr}{t:Tok}(R:Rel G σ ρ s)(hp:ρ.st[k]?=some p)(hσ:σ[k]?=some ⟨l,some j⟩)(hsi:m "__setitem__"=none)
  (hs:s.heap.IsSliceOf sl (.int i t) .none .none) (he:s.heap.PlainList e #[]):wpAny (model G.prog G.w) A (setItem (.ref p.1) (.ref sl) (.ref e)) (fun _ s'=>∃ ρ',Step G ρ s ρ' s' (σ.set k ⟨l.take i,some j⟩)) No s:=by
 refine byQ fun Q kQ=>?_
 refine bo1 (bR R hp hσ) fun vs n d g1 g2 g3 g4 g5 g6=>?_
 have hsz:vs.size=l.length:=by have:=RVs.length g2;simpa using this
 refine a7 (id hs) fun os h_p=>?_;have hos:=h_p.1;have hcs:=h_p.2.1;have hds:=h_p.2.2
 refine a7 (id he) fun en hen=>?_
 have hTs:s.TypeIs (.ref sl) "slice":=⟨os,hos,hcs⟩
 have hxe:p.1≠e:=by rintro rfl;replace hen:=(g1) ▸ hen;cases hen
 refine kQ ?_
 unfold setItem
 refine wpAny_holding ?_
 refine wpAny_bind (eZ K R g1 rfl ?_)
 refine wpAny_bind (e8 K R g1 rfl F.slot_list_setitem hsi (.inl nI) lC (F.args_list_setitem_3 _ _ _) F.entry_list_setitem ?_)
 show wpAny _ _ (Builtin.List.listSubscript? (.ref sl) >>= _) _ _ s
 refine wpAny_bind ?_
 dsimp only [Builtin.List.listSubscript?]
 refine wpAny_bind (wpAny_specialOf hTs slice_no_index ?_)
 dsimp only [Option.isNone_none,if_true]
 refine wpAny_pure ?_
 show wpAny _ _ (typeOf (.ref sl) >>= _) _ _ s
 refine wpAny_bind (wpAny_typeOf hTs ?_)
 rw [if_neg (by decide)]
 rw [listSliceParts_eq]
 refine wpAny_bind (wpAny_bind (wpAny_field hos hds (x:=.none) rfl (wpAny_bind (wpAny_listPart .none ?_))))
 refine (if_neg (show ¬ ((rawPart none == rawInt 0)=true) from Bool.false_ne_true)) ▸ ?_
 refine wpAny_bind (wpAny_field hos hds (x:=.int i t) rfl (wpAny_bind (wpAny_listPart (.int _ _) ?_)))
 refine wpAny_bind (wpAny_field hos hds (x:=.none) rfl (wpAny_bind (wpAny_listPart .none (wpAny_pure ?_))))
 have hsame:Builtin.List.listSameRef (.ref p.1) (.ref e)=false:=by simp [Builtin.List.listSameRef,hxe]
 dsimp only
 refine (hsame) ▸ ?_
 refine wpAny_bind ?_
 unfold Builtin.List.listAllItems
 refine wpAny_bind (wpAny_typeOf (T:="list") ⟨_,hen,rfl⟩ ?_)
 refine (if_pos (show (Value.type "list" == .type "list" || Value.type "list" == .type "tuple")=true by decide)) ▸ ?_
 unfold Builtin.List.listItems
 refine wpAny_bind (wpAny_seqItems hen rfl (wpAny_pure ?_))
 refine wpAny_bind ?_
 refine wpAny_bind (wpAny_seqItems g1 rfl (wpAny_pure ?_))
 refine wpAny_bind (wpAny_of_eq (sliceIndices_raw (some (i:Int)) none none vs.size nofun) ?_)
 rw [jN]
 dsimp only
 refine (if_pos (show ((1:Int) == 1)=true by decide)) ▸ ?_
 refine wpAny_bind (wpAny_rule ?_)
 have hlong:Builtin.List.listTooLong (vs.size + (#[]:Array Value).size)=false:=by
  unfold Builtin.List.listTooLong
  have:sizeLine=16777216:=rfl
  unfold lim at g6
  simp;lia
 rw [hlong,if_neg Bool.false_ne_true]
 have hit:=lF vs i
 generalize hus:(vs.extract 0 (((min i vs.size:Nat):Int)).toNat++(#[]:Array Value)++vs.extract (max ((min i vs.size:Nat):Int) (vs.size:Int)).toNat vs.size)=us at hit
 have husz:us.size<=l.length:=by
  have e1:us.size=(vs.toList.take i).length:=by rw [← hit,Array.length_toList]
  rw [e1,List.length_take,Array.length_toList,hsz];exact Nat.min_le_right _ _
 have hu:∀ o:Obj,o=⟨.ref G.cls,some p.2,.seq vs n,#[]⟩->Obj.mapSeq (fun xs=>xs.extract 0 (((min i vs.size:Nat):Int)).toNat++(#[]:Array Value)++xs.extract (max ((min i vs.size:Nat):Int) (vs.size:Int)).toNat) o=⟨.ref G.cls,some p.2,.seq us (if us.size == vs.size then n else n + 1),#[]⟩:=by
  rintro o rfl
  rw [← hus];rfl
 show wpAny _ _ (updateSeq p.1 _ >>= fun _=>_) _ _ s
 refine wpAny_bind (wpAny_updateSeq g1 rfl (wpAny_bind (wpAny_letGo (wpAny_pure ⟨_,rfl,wpAny_pure ?_⟩))) (by rw [hsz];exact Nat.le_trans g6 (by decide)) (by rw [hus];exact Nat.le_succ_of_le (Nat.le_trans husz (Nat.le_trans g6 (by decide)))))
 refine ⟨ρ,mJ (t:=s.toks) R hp hσ (Heap.SameBut.update ..).extBut (by rw [List.length_take];omega) (by rw [Heap.get?_update_self _ g1 (by rfl)];exact congrArg some (hu _ rfl)) fun KK=>?_⟩
 rw [hit]
 exact RVs.take i (RVs.mono KK _ _ g2)
theorem Es.accCut(K:Acc G m){o lo:Expr}{p q lp pos:Pos}{k i:Nat}{l:List V}{j:Int}(hsi:m "__setitem__"=none)(d4:Ev G A C env W o σ η (.ref k) σ)(fC:Ev G A C env W lo σ η (.int i) σ)(hσ:σ[k]?=some ⟨l,some j⟩) :
  Es G A C env W (.Assign [.Subscript o (.Slice (some lo) none none p) q] (.List [] lp) pos) σ η .next (σ.set k ⟨l.take i,some j⟩) η:=fun ρ s R N ht=>by
 have hnil:Ev G A C env W (.List [] lp) σ η (.lst []) σ:=Ev.lst Evs.nil (Nat.zero_le _)
 refine wpAny_Assign_Subscript (hnil.use R N ht fun kQ1 s₀ fZ mV k11 iM1 fM1=>d4.use mV.rel k11 iM1 fun bD ao ab ag aL aM aw=>wpAny_Slice (fC.use ag.rel aL aM fun cG aA av au cN dH aG=>wpAny_pure (wpAny_pure ?_))) rfl
 have hk:∀ b o,aA.heap.get? b=some o->(aA.heap.push { cls:=.type "slice",data:=.fields #[cG,.none,.none] }).get? b=some o:=fun b o e=>Heap.get?_push_of_some _ e
 have fW:Step G av aA av { aA with heap:=aA.heap.push { cls:=.type "slice",data:=.fields #[cG,.none,.none] } } σ:=Step.grow au.rel hk ⟨_,_,rfl⟩
 have zz:=RV.mono (Step.keepV ag.rel (au.trans fW)) _ _ aw
 have fL1:=RV.mono (Step.keepV mV.rel (ag.trans (au.trans fW))) _ _ fM1
 refine a7 (RV.ref_iff zz) fun q h_p=>?_;have hq:=h_p.1;obtain rfl:=h_p.2
 obtain ⟨t,rfl⟩:=RV.int_iff aG
 obtain ⟨_,ae,ve,h_p⟩:=RV.lst_iff fL1;obtain rfl:=h_p.1;have hpe:=h_p.2.2.1;have hre:=h_p.2.2.2
 have hve:ve=#[]:=by
  have:=RVs.nil_iff hre
  exact Array.toList_eq_nil_iff.mp this
 subst hve
 refine wpAny_mono (qw K fW.rel hq hσ hsi (Heap.IsSliceOf.new ..) hpe) (fun _ fX ⟨bH,b5⟩=>?_) fun _ _ f=>f.elim
 have T:=mV.trans (ag.trans (au.trans (fW.trans b5)))
 exact ⟨bH,Step.toW T,N.mono R T,rfl⟩
theorem hO(K:Acc G m){body:List Stmt}{k i:Nat}{l:List V}{j:Int}(hm:fh C body)(hgi:m "__getitem__"=none)(hsi:m "__setitem__"=none)(hσ:σ[k]?=some ⟨l,some j⟩) :
  Ess G A C env W body σ (az [.ref k,.int i] 1) (.ret (.lst (l.drop i))) (σ.set k ⟨l.take i,some j⟩) ((az [.ref k,.int i] 1).set 2 (some (.lst (l.drop i)))):=by
 refine byQ fun Q kQ=>?_
 obtain ⟨P,rfl,hm⟩:=hm
 simp only [Bool.and_eq_true] at hm
 have h1:=hm.1.1;have h2:=hm.1.2;have h3:=hm.2
 have h4:d6 C "popped" 2=true:=by
  refine a7 (bx h3) fun z h_p=>?_;have hz:=h_p.1;have e1:=h_p.2.1;have e2:=h_p.2.2.1
  unfold d6
  exact List.any_eq_true.mpr ⟨z,hz,by rw [e1,e2];rfl⟩
 refine a7 (bx h3) fun z h_p=>?_;have hz:=h_p.1;have hzn:=h_p.2.1;have hzs:=h_p.2.2.1;have hzo:=h_p.2.2.2
 have a:=Es.asg (G:=G) (A:=A) (env:=env) (W:=W) (p:=P 0) (pos:=P 5) hz hzo rfl (Ev.accSlice (p:=P 3) (pos:=P 4) K (i:=i) (j:=j) (l:=l) hgi (Ev.var (p:=P 1) (σ:=σ) (η:=az [.ref k,.int i] 1) h1 rfl) (.inr ⟨_,rfl,Ev.var (p:=P 2) h2 rfl⟩) hσ)
 rw [hzn,hzs] at a
 refine kQ ?_
 exact Ess.cons a (Ess.cons (Es.accCut K hsi (Ev.var h1 rfl) (Ev.var h2 rfl) hσ) (Ess.stop nofun (Es.ret (Ev.var h4 rfl))))
theorem tz(K:Acc G m){a:Addr}{fd:FuncData}{body:List Stmt}{ns:List Str}{n k i:Nat}{l:List V}{j:Int}(D:DefM G a fd body C ns)(hm:fh C body)(hns:ns.length=2)
  (hb:∀ (s:Shared) (cvs:List Value),(∀ b o,b ∉ G.loose->G.s₀.heap.get? b=some o->s.heap.get? b=some o)->cvs.length=2->BindsTo s fd ⟨cvs,[]⟩ (ns.zip cvs)) (hgi:m "__getitem__"=none) (hsi:m "__setitem__"=none) (hr:Room A (n + 1)) (hσ:σ[k]?=some ⟨l,some j⟩) :
  On G A (fun cvs=>call (.ref a) cvs) σ [.ref k,.int i] (.lst (l.drop i)) (σ.set k ⟨l.take i,some j⟩) :=
 On.defM (k:=1) (xs:=[]) (dv:=[]) D hr (by rw [hns];rfl) (fun _ _=>RVs.nil) (fun s cvs hk hl=>(by rw [List.append_nil];exact hb s cvs hk hl)) (.inl rfl) fun A' env W hA _ _ _ _=>EssAt.of (hO K hm hgi hsi hσ)
theorem qA(K:Acc G m){a:Addr}{fd:FuncData}{body:List Stmt}{ns:List Str}{n k:Nat}{l:List V}{j:Int}{t:Tok}(D:DefM G a fd body C ns)(hm:fh C body)(hns:ns.length=2)
  (hb:∀ (s:Shared) (cvs:List Value),(∀ b o,b ∉ G.loose->G.s₀.heap.get? b=some o->s.heap.get? b=some o)->cvs.length=1->BindsTo s fd ⟨cvs,[]⟩ (ns.zip (cvs++[.int 0 t]))) (hgi:m "__getitem__"=none) (hsi:m "__setitem__"=none) (hr:Room A (n + 1)) (hσ:σ[k]?=some ⟨l,some j⟩) :
  On G A (fun cvs=>call (.ref a) cvs) σ [.ref k] (.lst l) (σ.set k ⟨[],some j⟩) :=
 On.defM (k:=1) (xs:=[.int 0]) (dv:=[.int 0 t]) D hr (by rw [hns];rfl) (fun _ _=>RVs.cons RV.int_ RVs.nil) hb (.inl rfl) fun A' env W hA _ _ _ _=>EssAt.of (hO (i:=0) K hm hgi hsi hσ)
end
noncomputable def xO(P:Nat->Pos):List Stmt:=[.Assign [.Attribute (.Name "self" (P 0)) "_initial_size" (P 1)] (.Name "initial_size" (P 2)) (P 3),.Expr (ew1 "__init__" P 4) (P 8)]
noncomputable def xN(C:Cx)(body:List Stmt):Prop:=∃ P:Nat->Pos,body=xO P /\
 (d6 C "self" 0 && d6 C "initial_size" 1 && (P 6).endLine == (P 7).line)=true
theorem oY(C:Addr)(i:Value):(Code.builtin "type.__call__" ⟨[.ref C,i],[]⟩).weight=1:=by kernel_rfl
theorem gL:typeLookup (.type "list") "_initial_size"=pure none:=by rw [typeLookup_type,builtinLookup_eq_fast];kernel_rfl
section
variable {G:Wd} {A:Around} {C C':Cx} {env cenv:Env} {W W':List Addr} {η η' η₁ η₂ bw:ac} {σ σ' σ₁ σ₂ aj σ₄ b9:List AO} {ρ ρ' ab:Rho} {s s' ao aA:Shared} {m:Str->Option Value}
theorem yo(K:Acc G m)(R:Rel G σ ρ s){name:Str}{v:Value}(h:m name=some v){M:Model}:Looks M s.heap (typeLookup (.ref G.cls) name) (some v):=fun A Q E s' k hQ=>by
 refine dp (cU K R) fun o cd h_p=>?_;have h1:=h_p.1;have h2:=h_p.2.1;have h3:=h_p.2.2.1;have h4:=h_p.2.2.2
 have h1':=k _ _ h1
 have h4':=h4.keeps k
 rw [typeLookup_eq]
 refine wpAny_bind (m:=mroOf (.ref G.cls)) ?_
 show wpAny M A (do return (← classData G.cls).mro) _ E s'
 refine wpAny_bind ?_
 unfold classData
 refine wpAny_bind (wpAny_load h1' ?_)
 refine (h2) ▸ ?_
 refine wpAny_pure (wpAny_pure ?_)
 rw [h3,lookupAlong_cons]
 refine wpAny_bind ?_
 show wpAny M A (do nsGet (← classData G.cls).ns name) _ E s'
 refine wpAny_bind ?_
 unfold classData
 refine wpAny_bind (wpAny_load h1' ?_)
 refine (h2) ▸ ?_
 refine wpAny_pure (wpAny_nsGet h4' ?_)
 exact (h) ▸ (wpAny_pure hQ)
theorem rb{a L:Addr}{fd:FuncData}{body:List Stmt}{ns:List Str}(D:DefM G a fd body C ns){w:Var}{j:Nat}{c:Value}{cvs:List Value}{p:Pos}(hw:w∈C.vars)(hj:ns[j]?=some w.name)(hc:cvs[j]?=some c)
  (hns:s.heap.Ns L (fun x=>List.lookup x (ns.zip cvs).reverse)) {Q:Value->Shared->Prop} {E:Value->Shared->Prop} (hQ:Q c s):wpAny (model G.prog G.w) A (eval (.Name w.name p) (callEnv fd L a)) Q E s :=
 z3 (br D.ok) fun hCok hnd _ _=>wpAny_Name (wpAny_loadName_local (show fd.scope.kind=.function from D.scope ▸ (Cx.ok_parts hCok).1) (D.locs _ (List.mem_of_getElem? hj)) hns (dB ns cvs j hnd hj hc) hQ) ((Cx.ok_parts hCok).2 w hw).2.1
theorem ra{a:Addr}{fd:FuncData}{body:List Stmt}{ns:List Str}(D:DefM G a fd body C ns){w:Var}{j:Nat}(hw:w∈C.vars)(hj:w.slot=j)(hl:j < ns.length):ns[j]?=some w.name :=
 have e:=List.getElem?_eq_getElem hl
 e.trans (congrArg some (((br D.ok).2.2.1 w hw).1 _ (hj ▸ e)))
theorem z0{xA dA L:Addr}(h:Off ρ L)(h1:xA≠L)(h2:dA≠L):Off ⟨ρ.st++[(xA,dA)],ρ.hid⟩ L :=
 ⟨fun p hp=>Or.elim (List.mem_append.mp hp) (h.1 p) fun hp=>List.mem_singleton.mp hp ▸ ⟨h1,h2⟩,h.2⟩
theorem xM(KX:AccX G m)(U:Sup G){a:Addr}{fd:FuncData}{P:Nat->Pos}{ns:List Str}{i:Int}{t:Tok}(D:DefM G a fd (xO P) C ns){x:Var}(V:SupD G fd C x)(hx0:x.slot=0)
  (hm:(d6 C "self" 0 && d6 C "initial_size" 1 && (P 6).endLine == (P 7).line)=true) (hns:ns.length=2) {xA dA L:Addr} {h₀:Heap} {tk:Nat} (R:Rel G σ ρ s) (hxA:s.heap.get? xA=none) (hdA:s.heap.get? dA=none) (hL:s.heap.get? L=none)
  (n1:dA≠xA) (n2:dA≠L) (n3:xA≠L) (k0:∀ b ob,s.heap.get? b=some ob->h₀.get? b=some ob) (hx:h₀.get? xA=some (dX G.cls dA)) (hd:h₀.get? dA=some emptyDict)
  (hnl:h₀.Ns L (fun y=>List.lookup y (ns.zip [.ref xA,.int i t]).reverse)) (htk:0 < tk) :
  PySem.wpAt (model G.prog G.w) A (.func (xO P) (callEnv fd L a)) (execs (xO P) (callEnv fd L a)) (fun f s'=>f=.next/\PE G ρ s (σ++[⟨[],some i⟩]) (.ref σ.length) (.ref xA) s') No { s with heap:=h₀,toks:=tk }:=by
 have q:=ap hm
 have q1:=ap q.1
 refine ww (fe q1.1) fun y hy hyn hys=>ww (fe q1.2) fun z hz hzn hzs=>?_
 have kZ1:Rel G σ ρ { s with heap:=h₀,toks:=tk }:=(Step.grow R k0 ⟨_,_,rfl⟩).rel
 have hdn:h₀.Ns1 dA (fun _=>none):=Heap.Ns1.of_empty ⟨_,#[],_,hd,rfl,fun e he=>absurd he (by simp),fun _=>rfl⟩
 refine ks_wpAt_execs_cons (ks_wpAt_Assign_Attr (PySem.wpAt_of_wpAny (hzn ▸ rb (s:={ s with heap:=h₀,toks:=tk }) D hz (ra D hz hzs (hns ▸ by decide)) rfl hnl (hyn ▸ rb (s:={ s with heap:=h₀,toks:=tk }) D hy (ra D hy hys (hns ▸ by decide)) rfl hnl ?_))) (by rfl))
 refine qs (s:={ s with heap:=h₀,toks:=tk }) KX kZ1 KX.hna gL hx n1 hdn fun h' tk' htk' hn' hk'=>?_
 have k1:∀ b ob,s.heap.get? b=some ob->h'.get? b=some ob:=fun b ob e=>hk' b ob (fun q=>son (e.symm.trans (q ▸ hdA))) (k0 b ob e)
 have T:Step G ρ s ⟨ρ.st++[(xA,dA)],ρ.hid⟩ { s with heap:=h',toks:=tk' } (σ++[⟨[],some i⟩]) :=
  Step.add R k1 ⟨_,_,rfl⟩ hxA hdA fun _=>by
   delta RO
   exact ⟨Nat.zero_le _,#[],0,_,hk' _ _ n1.symm hx,RVs.nil,hn'.ns,⟨t,if_pos rfl⟩,fun w hw=>if_neg hw⟩
 have hL':=dq R hL
 have hp0:(⟨ρ.st++[(xA,dA)],ρ.hid⟩:Rho).st[σ.length]?=some (xA,dA):=by
  show (ρ.st++[(xA,dA)])[σ.length]?=_
  rw [← R.len];simp
 have N:RE G C (callEnv fd L a) [L] (az [.ref σ.length,.int i] 0) ⟨ρ.st++[(xA,dA)],ρ.hid⟩ { s with heap:=h',toks:=tk' } :=
  yH D.ok D.scope D.glob D.blt D.cells ⟨z0 hL'.1 n3 n2,hL'.2⟩ (wv hnl fun oL es ep eL hd rest=>hv1 oL es ep (hk' L oL n2.symm eL) hd rest) (RVs.cons (by delta RV;exact ⟨_,hp0,rfl⟩) (RVs.cons (by delta RV;exact ⟨_,rfl⟩) RVs.nil)) hns.symm
 have f71:(σ++[⟨[],some i⟩])[σ.length]?=some ⟨[],some i⟩:=by simp
 refine ks_wpAt_execs_cons (ks_wpAt_Expr_any (ks_wpAt_mono (qU KX.acc U D V ai1 x9 (by decide) (.inl rfl) rfl rfl rfl (by rw [hx0];rfl) f71 q.2 (fun b=>plainId_quiet (by decide +kernel) _) (fun _ _ _ _ _ hQ=>wpAny_of_eq (yg _) hQ)
  (fun A' ρ s p R hp _=>oF R hp f71) T.rel N (Nat.lt_of_lt_of_le htk htk')) (fun cv fX h=>?_) fun _ _ f=>f.elim) (eR N) (by rfl))
 obtain ⟨kB,bH,b5,gx⟩:=h
 refine PySem.wpAt_of_wpAny (wpAny_execs_nil ⟨rfl,bH,(qY f71) ▸ T.trans b5,?_⟩)
 refine a7 b5.ext fun new e=>?_
 delta RV
 exact ⟨(xA,dA),by rw [e.1];exact (List.getElem?_append_left (List.getElem?_eq_some_iff.mp hp0).1).trans hp0,rfl⟩
theorem bg1(KX:AccX G m)(U:Sup G){a:Addr}{fd:FuncData}{body:List Stmt}{ns:List Str}{n:Nat}{i:Int}(D:DefM G a fd body C ns){x:Var}(V:SupD G fd C x)(hx0:x.slot=0)(hm:xN C body)(hns:ns.length=2)
  (hb:∀ (s:Shared) (cvs:List Value),(∀ b o,b ∉ G.loose->G.s₀.heap.get? b=some o->s.heap.get? b=some o)->cvs.length=2->BindsTo s fd ⟨cvs,[]⟩ (ns.zip cvs)) (hin:m "__init__"=some (.ref a)) (hr:Room A (n + 2)) :
  On G A (fun cvs=>call (.ref G.cls) cvs) σ [.int i] (.ref σ.length) (σ++[⟨[],some i⟩]):=fun ρ s cvs R r ht=>by
 obtain ⟨c,r',rfl,r1,r2⟩:=RVs.cons_iff r
 refine (RVs.nil_iff r2) ▸ ?_
 obtain ⟨t,rfl⟩:=RV.int_iff r1
 obtain ⟨P,h_p⟩:=hm;obtain rfl:=h_p.1;have hm:=h_p.2
 refine ww D.obj fun o hob hd hoc=>?_
 have ho:=R.keep a o D.la hob
 have hkf:fd.scope.kind=.function:=D.scope ▸ (Cx.ok_parts (br D.ok).1).1
 have k0:∀ b ob,s.heap.get? b=some ob->((s.heap.push emptyDict).push (dX G.cls s.heap.objs.size)).get? b=some ob:=fun b ob e=>Heap.get?_push_of_some _ (Heap.get?_push_of_some _ e)
 have hx0':((s.heap.push emptyDict).push (dX G.cls s.heap.objs.size)).get? (s.heap.objs.size + 1)=some (dX G.cls s.heap.objs.size):=by heap_get
 have hd0:((s.heap.push emptyDict).push (dX G.cls s.heap.objs.size)).get? s.heap.objs.size=some emptyDict:=by heap_get
 have hsz1:((s.heap.push emptyDict).push (dX G.cls s.heap.objs.size)).objs.size=s.heap.objs.size + 2:=by rw [Heap.size_push,Heap.size_push]
 have hcr:=g81 (D.rec_ R) fun c oc us t e1 e2 e3 e4=>ht1 c oc us t e1 (k0 _ _ e2) e3 e4
 refine wpAny_call (xz rfl (yP KX R) (yo KX.acc R hin) ⟨o,ho,hoc⟩ ?_)
 generalize (s.heap.push emptyDict).push (dX G.cls s.heap.objs.size)=d4 at k0 hx0' hd0 hsz1 hcr
 refine ks_codeAny_call_defAt (body:=_) (binds:=ns.zip [.ref (s.heap.objs.size + 1),.int i t]) ?_ (k0 _ _ ho) hd ((uS R D.nolimit D.ls).keeps k0) hcr D.body (hb _ _ (fun b ob hl e=>k0 _ _ (R.keep b ob hl e)) rfl) D.cells (fun x hx=>D.locs _ (List.of_mem_zip (a:=x.1) (b:=x.2) hx).1) (fun h₀ dn1 sR=>?_) D.co D.gen hkf
 ·show A.depth + (Code.builtin "type.__call__" ⟨[.ref G.cls,.int i t],[]⟩).weight < recursionLimit
  rw [oY]
  exact Nat.lt_of_le_of_lt (Nat.add_le_add_left (Nat.le_add_left 1 (n + 1)) _) hr.depth
 ·have ne:∀ {b c:Nat},b < c->b≠c:=Nat.ne_of_lt
  refine ks_wpAt_mono (xM (s:=s) KX U D V hx0 hm hns (xA:=s.heap.objs.size + 1) (dA:=s.heap.objs.size) (L:=d4.objs.size) (h₀:=h₀) R (bS (Nat.le_succ _)) (bS (Nat.le_refl _)) (bS (by rw [hsz1];exact Nat.le_add_right _ 2)) (ne (Nat.lt_succ_self _)) (by rw [hsz1];exact ne (Nat.lt_add_of_pos_right (by decide)))
   (by rw [hsz1];exact ne (Nat.lt_succ_self _)) (fun b ob e=>sR _ _ (k0 b ob e)) (sR _ _ hx0') (sR _ _ hd0) dn1 (Nat.lt_of_lt_of_le ht (Nat.le_add_right _ _))) (fun f s' h=>?_) fun _ _ f=>f.elim
  refine (h.1) ▸ ?_
  exact ⟨rfl,h.2⟩
end
noncomputable def b3M(C:Cx)(body:List Stmt):Prop:=∃ P:Nat->Pos,body=[.Assign [.Name "r" (P 0)] (.Call (.Attribute (.Name "b3_exceptions" (P 1)) "get" (P 2)) [.Call (.Name "ord" (P 3)) [.Name "code" (P 4)] [] (P 5)] [] (P 6)) (P 7),
  .If (.Compare (.Name "r" (P 8)) [.IsNot] [.Constant .none 0 (P 9)] (P 10)) [.Return (some (.Name "r" (P 11))) (P 12)] [] (P 13),.Return (some (.Call (.Attribute (.Name "code" (P 14)) "lower" (P 15)) [] [] (P 16))) (P 17)] /\
 (gb C "r" 1 && d6 C "r" 1 && d6 C "code" 0 && hY C "b3_exceptions" "b3_exceptions" && hY C "ord" "ord" && (P 2).endLine == (P 6).line && (P 15).endLine == (P 16).line)=true
theorem vk(x:Str)(t:Tok):compareOp .IsNot (.str x t) .none=pure (.bool true):=by kernel_rfl
theorem sO:compareOp .IsNot .none .none=pure (.bool false):=by kernel_rfl
theorem xu:Mt "str" "lower" "str.lower":=⟨F.plainAttrs_str,F.slot_str_lower,by kernel_rfl⟩
section
variable {G:Wd} {A:Around} {σ σ' σ₁:List AO}
theorem gM1{a d:Addr}{fd:FuncData}{body:List Stmt}{C:Cx}{ns:List Str}{n c:Nat}{knd:KeyKind G.prog G.w Int}{f:Int->Option Value}{g:Nat->Option (List Nat)}(hns:ns.length=1)(hkn:∀ i t,knd.is i (.int i t)=true)(D:Def G a fd body C ns)(hm:b3M C body)
  (hr:Room A (n + 1)) (ho:Gl G "ord" (.builtin "ord")) (gl:Gl G "b3_exceptions" (.ref d)) (hds:(d == sysModules)=false) (hno:∃ o,G.s₀.heap.get? d=some o/\o.cls=.type "dict"/\o.dict=none)
  (hM:∀ s:Shared,(∀ o,G.s₀.heap.get? d=some o->s.heap.get? d=some o)->s.heap.MapOf knd d f) (hd:d ∉ G.loose)
  (hv:∀ c:Nat,match g c with | some l=>l.length<=lim/\∃ t,f c=some (.str ⟨l.toArray⟩ t) | none=>f c=none) (hlow:(pF c).length<=lim) :
  On G A (fun cvs=>call (.ref a) cvs) σ [.str [c]] (.str (match g c with | some l=>l | none=>pF c)) σ:=by
 refine byQ fun Q kQ=>?_
 obtain ⟨P,rfl,hm⟩:=hm
 simp only [Bool.and_eq_true] at hm
 obtain ⟨⟨⟨⟨⟨⟨h1,h1'⟩,h6⟩,h2⟩,h5⟩,h4⟩,h11⟩:=hm
 refine a7 (bx h1) fun r h_p=>?_;have hr1:=h_p.1;have hrn:=h_p.2.1;have hr2:=h_p.2.2.1;have hr3:=h_p.2.2.2
 have h_p:=b6 h2;have k2:=h_p.2.1;have d2:=h_p.2.2
 have h_p:=b6 h5;have k5:=h_p.2.1;have d5:=h_p.2.2
 have key:∀ (A':Around) (env:Env) (W:List Addr) (v:V),(∀ (h:Heap) ρ,RV h ρ v ((f (c:Int)).getD .none))->A'.handled=none ->
   Es G A' C env W (.Assign [.Name "r" (P 0)] (.Call (.Attribute (.Name "b3_exceptions" (P 1)) "get" (P 2)) [.Call (.Name "ord" (P 3)) [.Name "code" (P 4)] [] (P 5)] [] (P 6)) (P 7)) σ (az [.str [c]] 1) .next σ ((az [.str [c]] 1).set 1 (some v)):=fun A' env W v hv' hh=>by
  have:=Es.asg (p:=P 0) (pos:=P 7) hr1 hr3 rfl (Ev.dictGet (A:=A') (env:=env) (W:=W) (η:=az [.str [c]] 1) (σ:=σ) (σ₁:=σ) (p:=P 1) (apos:=P 2) (pos:=P 6) (f:=f) (v:=v) hkn k2 d2 gl hds hno hM hd hv' rfl h4 (Ev.callB (id:="ord") (p:=P 3) (pos:=P 5) k5 d5 ho rfl (Evs.cons rfl (Ev.var (p:=P 4) h6 rfl) Evs.nil) (jO (f:=.ord) hh (by rfl))))
  rw [hrn,hr2] at this
  exact this
 have hc:=hv c
 refine kQ ?_
 cases hg:g c with
 | some l =>
  rw [hg] at hc
  obtain ⟨hl,t,ht⟩:=hc
  have hv':∀ (h:Heap) ρ,RV h ρ (.str l) ((f (c:Int)).getD .none):=fun h ρ=>by
   rw [ht]
   delta RV
   exact ⟨hl,t,rfl⟩
  refine On.def (k:=1) (fl:=.ret (.str l)) (η':=(az [.str [c]] 1).set 1 (some (.str l))) D hr (by rw [hns];rfl) (.inl rfl) fun A' env W hA=>Ess.cons (key A' env W (.str l) hv' hA.handled) ?_
  refine Ess.stop nofun (Es.if_ (c:=true) (σ₁:=σ) (Et.cmp (σ₁:=σ) (σ₂:=σ) (v₁:=.str l) (v₂:=.none) rfl (Ev.var h1' rfl) Ev.none_ (On.two fun ρ s bD cG R aw aG ht=>?_)) (fun _=>Ess.stop nofun (Es.ret (Ev.var h1' rfl))) nofun)
  obtain ⟨_,u,rfl⟩:=RV.str_iff aw
  rw [RV.none_iff aG]
  exact wpAny_of_eq (vk _ _) (aC R)
 | none =>
  replace hc:=(hg) ▸ hc
  have hv':∀ (h:Heap) ρ,RV h ρ .none ((f (c:Int)).getD .none):=fun h ρ=>by
   rw [hc]
   delta RV
   rfl
  refine On.def (k:=1) (fl:=.ret (.str (pF c))) (η':=(az [.str [c]] 1).set 1 (some .none)) D hr (by rw [hns];rfl) (.inl rfl) fun A' env W hA=>Ess.cons (key A' env W .none hv' hA.handled) ?_
  refine Ess.cons (Es.if_ (c:=false) (σ₁:=σ) (Et.cmp (σ₁:=σ) (σ₂:=σ) (v₁:=.none) (v₂:=.none) rfl (Ev.var h1' rfl) Ev.none_ (On.two fun ρ s bD cG R aw aG ht=>?_)) nofun (fun _=>Ess.nil)) ?_
  ·rw [RV.none_iff aw,RV.none_iff aG]
   exact wpAny_of_eq sO (aC R)
  ·exact Ess.stop nofun (Es.ret (Ev.meth xu rfl rfl (by decide) h11 (Ev.var h6 rfl) rfl Evs.nil (pE hlow)))
end
noncomputable def cR1:tN:=fun vs σ=>match vs with
 | [.int i]=>some (.ref σ.length,σ++[⟨[],some i⟩])
 | _=>none
noncomputable def sr:tN:=fun vs σ=>match vs with
 | [.ref k,a,b]=>match σ[k]? with
  | some ⟨l,some i⟩=>if l.length < lim then some (.none,σ.set k ⟨l++[.tup [a,b]],some i⟩) else none
  | _=>none
 | _=>none
noncomputable def d8:tN:=fun vs σ=>match vs with
 | [.ref k]=>match σ[k]? with
  | some ⟨l,some i⟩=>some (.lst l,σ.set k ⟨[],some i⟩)
  | _=>none
 | [.ref k,.int j]=>match σ[k]? with
  | some ⟨l,some i⟩=>if 0<=j then some (.lst (l.drop j.toNat),σ.set k ⟨l.take j.toNat,some i⟩) else none
  | _=>none
 | _=>none
noncomputable def bn1:tN:=fun vs σ=>match vs with
 | [.ref k]=>match σ[k]? with
  | some ⟨l,some i⟩=>some ((sm l).1,σ.set k ⟨(sm l).2,some i⟩)
  | _=>none
 | _=>none
noncomputable def pB1(S:Int->Bool):tN:=fun vs σ=>match vs with
 | [.str [c]]=>some (.bool (S c),σ)
 | _=>none
noncomputable def pB3(g:Nat->Option (List Nat)):tN:=fun vs σ=>match vs with
 | [.str [c]]=>if (pF c).length<=lim then some (.str (match g c with | some l=>l | none=>pF c),σ) else none
 | _=>none
theorem yn{β:Type}{o:Option AO}{f:List V->Int->Option β}{r:β}{P:Prop} (h:(match o with
  | some ⟨l,some i⟩=>f l i
  | _=>none)=some r) (q:∀ l i,o=some ⟨l,some i⟩->f l i=some r->P):P:=by
 cases o with
 | none=>exact nso h
 | some o =>
  obtain ⟨l,a⟩:=o
  cases a with
  | none=>exact nso h
  | some i=>exact q l i rfl h
section
variable {P:List V->Prop} {vs:List V} {σ:List AO} {r:V × List AO} {k:Nat}
theorem cQ1(h:cR1 vs σ=some r)(q:∀ i,(V.ref σ.length,σ++[⟨[],some i⟩])=r->P [.int i]):P vs:=by
 cases vs with
 | nil=>exact nso h
 | cons x l =>
  cases x with
  | int i=>cases l with
   | nil=>exact q i (siX h)
   | cons y l=>exact nso h
  | _=>exact nso h
theorem zW(h:sr (.ref k::vs) σ=some r)(q:∀ a b l i,σ[k]?=some ⟨l,some i⟩->l.length < lim->(V.none,σ.set k ⟨l++[.tup [a,b]],some i⟩)=r->P [a,b]):P vs:=by
 cases vs with
 | nil=>exact nso h
 | cons a vs=>cases vs with
  | nil=>exact nso h
  | cons b vs=>cases vs with
   | nil=>exact yn h fun l i e h=>q a b l i e (bq h).1 (siX (bq h).2)
   | cons c vs=>exact nso h
theorem su(h:d8 (.ref k::vs) σ=some r)(q:∀ l i,σ[k]?=some ⟨l,some i⟩->(V.lst l,σ.set k ⟨[],some i⟩)=r->P [])
  (q2:∀ j l i,σ[k]?=some ⟨l,some i⟩->0<=j->(V.lst (l.drop j.toNat),σ.set k ⟨l.take j.toNat,some i⟩)=r->P [.int j]):P vs:=by
 cases vs with
 | nil=>exact yn h fun l i e h=>q l i e (siX h)
 | cons a vs =>
  cases a with
  | int j=>cases vs with
   | nil=>exact yn h fun l i e h=>q2 j l i e (bq h).1 (siX (bq h).2)
   | cons c vs=>exact nso h
  | _=>exact nso h
theorem cP1(h:bn1 (.ref k::vs) σ=some r)(q:∀ l i,σ[k]?=some ⟨l,some i⟩->((sm l).1,σ.set k ⟨(sm l).2,some i⟩)=r->P []):P vs:=by
 cases vs with
 | nil=>exact yn h fun l i e h=>q l i e (siX h)
 | cons a vs=>exact nso h
theorem dZ1{β:Type}{f:Nat->Option β}{r:β} (h:(match vs with
  | [.str [c]]=>f c
  | _=>none)=some r) (q:∀ c,f c=some r->P [.str [c]]):P vs:=by
 cases vs with
 | nil=>exact nso h
 | cons x l =>
  cases x with
  | str s=>cases l with
   | nil=>cases s with
    | nil=>exact nso h
    | cons c s=>cases s with
     | nil=>exact q c h
     | cons d s=>exact nso h
   | cons y l=>cases s with
    | nil=>exact nso h
    | cons c s=>cases s with
     | nil=>exact nso h
     | cons d s=>exact nso h
  | _=>exact nso h
end
structure MethsOk (G:Wd) (m:Str->Option Value):Prop where
 KX:AccX G m
 U:Sup G
 n1:m "__getattribute__"=none
 n2:m "__getattr__"=none
 n3:m "append"=none
 n4:m "__getitem__"=none
 n5:m "__setitem__"=none
 push:∃ a fd body C ns,m "push"=some (.ref a)/\DefM G a fd body C ns/\xm C body/\ns.length=3/\∀ cvs:List Value,cvs.length=3->bindArgs fd ⟨cvs,[]⟩=pure (ns.zip cvs)
 popFrom:∃ a fd body C ns,m "pop_from"=some (.ref a)/\DefM G a fd body C ns/\fh C body/\ns.length=2/\(∀ (s:Shared) (cvs:List Value),(∀ b o,b ∉ G.loose->G.s₀.heap.get? b=some o->s.heap.get? b=some o)->cvs.length=2->BindsTo s fd ⟨cvs,[]⟩ (ns.zip cvs)) /\
  ∃ t,∀ (s:Shared) (cvs:List Value),(∀ b o,b ∉ G.loose->G.s₀.heap.get? b=some o->s.heap.get? b=some o)->cvs.length=1->BindsTo s fd ⟨cvs,[]⟩ (ns.zip (cvs++[.int 0 t]))
 part:∃ a fd body C ns x,m "part_count"=some (.ref a)/\DefM G a fd body C ns/\SupD G fd C x/\x.slot=0/\jc "__len__" body/\ns.length=1/\∀ cvs:List Value,cvs.length=1->bindArgs fd ⟨cvs,[]⟩=pure (ns.zip cvs)
 pop:∃ a fd body C ns x,m "pop"=some (.ref a)/\DefM G a fd body C ns/\SupD G fd C x/\x.slot=0/\eC1 C body/\ns.length=1/\∀ cvs:List Value,cvs.length=1->bindArgs fd ⟨cvs,[]⟩=pure (ns.zip cvs)
 init:∃ a fd body C ns x,m "__init__"=some (.ref a)/\DefM G a fd body C ns/\SupD G fd C x/\x.slot=0/\xN C body/\ns.length=2/\∀ (s:Shared) (cvs:List Value),(∀ b o,b ∉ G.loose->G.s₀.heap.get? b=some o->s.heap.get? b=some o)->cvs.length=2->BindsTo s fd ⟨cvs,[]⟩ (ns.zip cvs)
section
variable {G:Wd} {A:Around} {C C':Cx} {env cenv:Env} {W W':List Addr} {η η' η₁ η₂ bw:ac} {σ σ' σ₁ σ₂ aj σ₄ b9:List AO} {ρ ρ' ab:Rho} {s s' ao aA:Shared} {m:Str->Option Value}
theorem oq(KX:AccX G m)(R:Rel G σ ρ s){pos:Pos}{first:List Value}{args:List (Bool × Sem Value)}{Q:Value->Shared->Prop}{E:Value->Shared->Prop}(hplain:args.any (·.1)=false)
  (h:wpAny (model G.prog G.w) A (evalArgs (.ref G.cls) true args []) (fun a ao=>(∃ σ₁ ab,Rel G σ₁ ab ao)/\wpAny (model G.prog G.w) A (call (.ref G.cls) (first++a.pos) a.kw) Q E ao) E s) :
  wpAny (model G.prog G.w) A (callWith pos (.ref G.cls) first args []) Q E s:=by
 dsimp only [callWith]
 refine wpAny_bind (wpAny_holding (wpAny_mono h (fun a ao d4=>wpAny_bind (wpAny_standAt ?_)) fun _ _ x=>x))
 refine byQ fun Q kQ=>?_
 refine jm (d4) fun h_0 d4=>?_;refine dp (h_0) fun σ₁ ab em1=>?_
 refine fO (KX.obj) fun cd od sl h_p=>?_;have hC0:=h_p.1;have hmro:=h_p.2.1;have hhd:=h_p.2.2.1;have hab:=h_p.2.2.2.1;have hde:=h_p.2.2.2.2.1;have h4:=h_p.2.2.2.2.2
 have hC:=em1.keep _ _ KX.acc.lc hC0
 have hcall:Looks (model G.prog G.w) ao.heap (specialOf (.ref G.cls) "__call__") (some (.builtin "type.__call__")):=(yP KX em1).call
 refine kQ ?_
 rw [show (args.any (·.1) || ([]:List (Option Str × Sem Value)).any (·.1.isNone))=false from by rw [hplain];rfl]
 refine wpAny_bind ?_
 unfold keeperOf
 refine wpAny_bind (wpAny_load hC ?_)
 dsimp only
 refine wpAny_bind (hcall.here (wpAny_pure ?_))
 have e:((some (Value.builtin "type.__call__"):Option Value) == some (.builtin "type.__call__"))=true:=rfl
 rw [e]
 exact wpAny_bind (wpAny_mono d4 (fun r aA hr=>wpAny_bind (wpAny_holding (wpAny_point (wpAny_pure hr)))) fun _ _ x=>x)
theorem Ev.callC(KX:AccX G m){x:Str}{p pos:Pos}{args:List Expr}{vs:List V}{v:V}(hk:C.kind x=some .globalImplicit)(hd:(x == ("__debug__":Str))=false)(g:Gl G x (.ref G.cls))(hn:aI args=true)
  (h:Evs G A C env W args σ η vs σ₁) (ho:On G A (fun cvs=>call (.ref G.cls) cvs) σ₁ vs v σ₂):Ev G A C env W (.Call (.Name x p) args [] pos) σ η v σ₂:=fun ρ s R N ht=>by
 refine wpAny_Call_Name_kw (RE.global R N hk hd g ?_)
 refine oq KX R (cP hn) (du hn (h.use R N ht pos fun cvs ao ab ag aL aM aw=>⟨⟨_,_,ag.rel⟩,?_⟩))
 exact ho.use ag.rel aw aM fun cv aA av au dH aG=>⟨av,ag.trans au,aG⟩
theorem xg(M:MethsOk G m){x:Str}(g:Gl G x (.ref G.cls)){n:Nat}(hr:Room A (n + 4)):iP G A x cR1:=by
 intro C env W η σ σ₁ σ₂ q pos args vs v hk hd hn hE hp
 refine z1 M.init fun a fd body C' ns y h1 D V hy hm hns hb=>Ev.callC M.KX hk hd g hn hE (cQ1 (P:=fun vs=>On G A (fun cvs=>call (.ref G.cls) cvs) σ₁ vs v σ₂) hp fun i e=>?_)
 obtain ⟨rfl,rfl⟩:=Prod.mk.inj e
 exact bg1 M.KX M.U D V hy hm hns hb h1 (hr.less (Nat.add_le_add_left (by decide) n):Room A (n + 2))
theorem uC(M:MethsOk G m){n:Nat}(hr:Room A (n + 4)):iO G A "push" sr:=by
 intro C env W η σ σ₁ σ₂ aj q pos o args vs v k l i h1 h2 h3 h4 hE hσ hA hp
 refine byQ fun Q kQ=>?_
 refine i51 (M.push) fun a fd body C' ns e1 D hm hns hb=>?_
 refine a7 (D.obj) fun ob h_p=>?_;have hob:=h_p.1;have hfd:=h_p.2.1;have hfc:=h_p.2.2
 refine kQ ?_
 refine Ev.accDef M.KX.acc h1 h2 h3 h4 M.n1 M.n2 e1 (by decide) hob D.la hfd hfc hE hσ hA ?_
 refine zW (P:=fun vs=>On G A (fun cvs=>call (.ref a) cvs) σ₂ (.ref k::vs) v aj) hp fun a b l i e hl q=>?_
 obtain ⟨rfl,rfl⟩:=Prod.mk.inj q
 exact bf1 M.KX.acc D hm hns hb M.n1 M.n2 M.n3 (hr.less (Nat.add_le_add_left (by decide) n):Room A (n + 1)) e hl
theorem xf(M:MethsOk G m){n:Nat}(hr:Room A (n + 4)):iO G A "pop" bn1:=by
 intro C env W η σ σ₁ σ₂ aj q pos o args vs v k l i h1 h2 h3 h4 hE hσ hA hp
 refine byQ fun Q kQ=>?_
 refine z1 (M.pop) fun a fd body C' ns x e1 D V hx hm hns hb=>?_
 refine z1 (M.part) fun a' fd' body' C'' ns' x' e1' D' V' hx' hm' hns' hb'=>?_
 refine a7 (D.obj) fun ob h_p=>?_;have hob:=h_p.1;have hfd:=h_p.2.1;have hfc:=h_p.2.2
 refine kQ ?_
 refine Ev.accDef M.KX.acc h1 h2 h3 h4 M.n1 M.n2 e1 (by decide) hob D.la hfd hfc hE hσ hA ?_
 refine cP1 (P:=fun vs=>On G A (fun cvs=>call (.ref a) cvs) σ₂ (.ref k::vs) v aj) hp fun l i e q=>?_
 obtain ⟨rfl,rfl⟩:=Prod.mk.inj q
 exact ep1 M.KX M.U D V hx hm hns hb (hr.less (Nat.add_le_add_left (by decide) n):Room A (n + 2)) e M.n1 M.n2 e1' D' V' hx' hm' hns' hb'
theorem nl(M:MethsOk G m){n:Nat}(hr:Room A (n + 4)):iO G A "pop_from" d8:=by
 intro C env W η σ σ₁ σ₂ aj q pos o args vs v k l i h1 h2 h3 h4 hE hσ hA hp
 obtain ⟨a,fd,body,C',ns,e1,D,hm,hns,hb,t,hb0⟩:=M.popFrom
 refine a7 (D.obj) fun ob h_p=>?_;have hob:=h_p.1;have hfd:=h_p.2.1;have hfc:=h_p.2.2
 refine Ev.accDef M.KX.acc h1 h2 h3 h4 M.n1 M.n2 e1 (by decide) hob D.la hfd hfc hE hσ hA ?_
 have hr1:Room A (n + 1):=hr.less (Nat.add_le_add_left (by decide) n)
 refine su (P:=fun vs=>On G A (fun cvs=>call (.ref a) cvs) σ₂ (.ref k::vs) v aj) hp (fun l i e q=>?_) fun j l i e hj q=>?_
 ·obtain ⟨rfl,rfl⟩:=Prod.mk.inj q
  exact qA M.KX.acc D hm hns hb0 M.n4 M.n5 hr1 e
 ·obtain ⟨rfl,rfl⟩:=Prod.mk.inj q
  have:=tz (A:=A) (i:=j.toNat) M.KX.acc D hm hns hb M.n4 M.n5 hr1 e
  replace this:=(Int.toNat_of_nonneg hj) ▸ this
  exact this
theorem zB{x:Str}{a d:Addr}{fd:FuncData}{body:List Stmt}{C':Cx}{knd:KeyKind G.prog G.w Int}{S:Int->Bool}{k n:Nat}(g:Gl G x (.ref a))(hkn:∀ i t,knd.is i (.int i t)=true)(D:Def G a fd body C' ["code"])(hm:b1M C' body)
  (hr:Room A (n + 4)) (ho:Gl G "ord" (.builtin "ord")) (gy:Gl G "b1_set" (.ref d)) (hS:G.s₀.heap.SetOf knd d S k) (hd:d ∉ G.loose):iP G A x (pB1 S):=by
 intro C env W η σ σ₁ σ₂ q pos args vs v hk hdb hn hE hp
 refine aO D.obj fun o hob hfd=>Ev.callF hk hdb g hn hob D.la hfd hE (dZ1 (P:=fun vs=>On G A (fun cvs=>call (.ref a) cvs) σ₁ vs v σ₂) (f:=fun c=>some (V.bool (S c),σ₁)) hp fun c e=>?_)
 obtain ⟨rfl,rfl⟩:=Prod.mk.inj (siX e)
 exact gN1 (k:=0) hkn D hm (hr.less (Nat.add_le_add_left (by decide) n):Room A (n + 1)) ho gy hS hd
theorem zA{x:Str}{a d:Addr}{fd:FuncData}{body:List Stmt}{C':Cx}{ns:List Str}{knd:KeyKind G.prog G.w Int}{f:Int->Option Value}{gg:Nat->Option (List Nat)}{n:Nat}(g:Gl G x (.ref a))(hns:ns.length=1)(hkn:∀ i t,knd.is i (.int i t)=true)(D:Def G a fd body C' ns)(hm:b3M C' body)
  (hr:Room A (n + 4)) (ho:Gl G "ord" (.builtin "ord")) (gl:Gl G "b3_exceptions" (.ref d)) (hds:(d == sysModules)=false) (hno:∃ o,G.s₀.heap.get? d=some o/\o.cls=.type "dict"/\o.dict=none)
  (hM:∀ s:Shared,(∀ o,G.s₀.heap.get? d=some o->s.heap.get? d=some o)->s.heap.MapOf knd d f) (hd:d ∉ G.loose)
  (hv:∀ c:Nat,match gg c with | some l=>l.length<=lim/\∃ t,f c=some (.str ⟨l.toArray⟩ t) | none=>f c=none):iP G A x (pB3 gg):=by
 intro C env W η σ σ₁ σ₂ q pos args vs v hk hdb hn hE hp
 refine aO D.obj fun o hob hfd=>Ev.callF hk hdb g hn hob D.la hfd hE (dZ1 (P:=fun vs=>On G A (fun cvs=>call (.ref a) cvs) σ₁ vs v σ₂) (f:=fun c=>if (pF c).length<=lim then some (V.str (match gg c with | some l=>l | none=>pF c),σ₁) else none) hp fun c e=>?_)
 obtain ⟨rfl,rfl⟩:=Prod.mk.inj (siX (bq e).2)
 exact gM1 hns hkn D hm (hr.less (Nat.add_le_add_left (by decide) n):Room A (n + 1)) ho gl hds hno hM hd hv (bq e).1
end
noncomputable def cr:List Var:=[⟨"want",0,true⟩,⟨"got",1,true⟩,⟨"ws",2,true⟩,⟨"startpos",3,true⟩,⟨"endpos",4,true⟩,⟨"w",5,true⟩]
noncomputable def ba:List Str:=["want","got"]
noncomputable def bK:Sx:=(.seq (.ite (.cmp .NotIn (.glo [46,46,46]) (.loc 0)) (.seq (.ret (.cmp .Eq (.loc 0) (.loc 1)))
 .skip) .skip)
 (.seq (.asg 2 (.split (.loc 0) (.glo [46,46,46])))
 (.seq (.asrt (.cmp .GtE (.bf .len (.cons (.loc 2) .nil)) (.cst (.int 2))))
 (.seq (.asg2 3 4 (.tup (.cons (.cst (.int 0)) (.cons (.bf .len (.cons (.loc 1) .nil)) .nil))))
 (.seq (.asg 5 (.idx (.loc 2) (.cst (.int 0))))
 (.seq (.ite (.loc 5) (.seq (.ite (.me .startswith (.loc 1) (.cons (.loc 5) .nil)) (.seq (.asg 3 (.bf .len (.cons (.loc 5) .nil)))
 (.seq (.del (.loc 2) (0))
 .skip)) (.seq (.ret (.cst (.bool false)))
 .skip))
 .skip) .skip)
 (.seq (.asg 5 (.idx (.loc 2) (.neg (.cst (.int 1)))))
 (.seq (.ite (.loc 5) (.seq (.ite (.me .endswith (.loc 1) (.cons (.loc 5) .nil)) (.seq (.aug 4 .Sub (.bf .len (.cons (.loc 5) .nil)))
 (.seq (.del (.loc 2) (-1))
 .skip)) (.seq (.ret (.cst (.bool false)))
 .skip))
 .skip) .skip)
 (.seq (.ite (.cmp .Gt (.loc 3) (.loc 4)) (.seq (.ret (.cst (.bool false)))
 .skip) .skip)
 (.seq (.for_ (.loc 5) (.loc 2) (.seq (.asg 3 (.me .find3 (.loc 1) (.cons (.loc 5) (.cons (.loc 3) (.cons (.loc 4) .nil)))))
 (.seq (.ite (.cmp .Lt (.loc 3) (.cst (.int 0))) (.seq (.ret (.cst (.bool false)))
 .skip) .skip)
 (.seq (.aug 3 .Add (.bf .len (.cons (.loc 5) .nil)))
 .skip))))
 (.seq (.ret (.cst (.bool true)))
 .skip)))))))))))
noncomputable def iF:En:=.code 2 4 bK
noncomputable def gZ:List Var:=[⟨"resp",0,true⟩,⟨"dirname",1,true⟩,⟨"i",2,true⟩,⟨"n",3,true⟩,⟨"c",4,true⟩]
noncomputable def d3:List Str:=["resp"]
noncomputable def dZ:Sx:=(.seq (.ite (.cmp .NotEq (.slc (.loc 0) .nil (.cst (.int 3)) .nil) (.cst (.str [50,53,55]))) (.seq .dead
 .skip) .skip)
 (.seq (.ite (.cmp .NotEq (.slc (.loc 0) (.cst (.int 3)) (.cst (.int 5)) .nil) (.cst (.str [32,34]))) (.seq (.ret (.cst (.str [])))
 .skip) .skip)
 (.seq (.asg 1 (.cst (.str [])))
 (.seq (.asg 2 (.cst (.int 5)))
 (.seq (.asg 3 (.bf .len (.cons (.loc 0) .nil)))
 (.seq (.whil 1000 (.cmp .Lt (.loc 2) (.loc 3)) (.seq (.asg 4 (.idx (.loc 0) (.loc 2)))
 (.seq (.asg 2 (.bin .Add (.loc 2) (.cst (.int 1))))
 (.seq (.ite (.cmp .Eq (.loc 4) (.cst (.str [34]))) (.seq (.ite (.or (.cmp .GtE (.loc 2) (.loc 3)) (.cmp .NotEq (.idx (.loc 0) (.loc 2)) (.cst (.str [34])))) (.seq .brk
 .skip) .skip)
 (.seq (.asg 2 (.bin .Add (.loc 2) (.cst (.int 1))))
 .skip)) .skip)
 (.seq (.asg 1 (.bin .Add (.loc 1) (.loc 4)))
 .skip)))))
 (.seq (.ret (.loc 1))
 .skip)))))))
noncomputable def tB:En:=.code 1 4 dZ
noncomputable def fS:List Var:=[⟨"kind",0,true⟩,⟨"x",1,true⟩,⟨"forms",2,true⟩,⟨"unseen",3,true⟩,⟨"typed",4,true⟩,⟨"k",5,true⟩]
noncomputable def cY:List Str:=["kind","x"]
noncomputable def cV:Sx:=(.seq (.asg 2 (.tup (.cons (.cst (.int 97)) (.cons (.cst (.int 65)) (.cons (.cst (.int 119808)) (.cons (.cst (.int 119860)) (.cons (.cst (.int 119912)) (.cons (.cst (.int 120016)) (.cons (.cst (.int 120172)) (.cons (.cst (.int 120224)) (.cons (.cst (.int 120276)) (.cons (.cst (.int 120328)) (.cons (.cst (.int 120380)) (.cons (.cst (.int 120432)) .nil))))))))))))))
 (.seq (.asg 3 (.tup (.cons (.cst (.int 173)) (.cons (.cst (.int 847)) (.cons (.cst (.int 6150)) (.cons (.cst (.int 6155)) (.cons (.cst (.int 6156)) (.cons (.cst (.int 6157)) (.cons (.cst (.int 8203)) (.cons (.cst (.int 8204)) (.cons (.cst (.int 8205)) (.cons (.cst (.int 8288)) (.cons (.cst (.int 65279)) .nil)))))))))))))
 (.seq (.asg 4 (.ite (.cmp .Eq (.loc 0) (.cst (.int 0))) (.cst (.str [34])) (.bf .chr (.cons (.bin .Sub (.bin .Add (.idx (.loc 2) (.bin .Mod (.loc 1) (.cst (.int 12)))) (.loc 0)) (.cst (.int 1))) .nil))))
 (.seq (.asg 5 (.bin .Mod (.bin .FloorDiv (.loc 1) (.cst (.int 12))) (.cst (.int 54))))
 (.seq (.ite (.cmp .Lt (.loc 5) (.cst (.int 27))) (.seq (.asg 4 (.bin .Add (.bf .chr (.cons (.ite (.cmp .Lt (.loc 5) (.cst (.int 11))) (.idx (.loc 3) (.loc 5)) (.bin .Add (.cst (.int 65013)) (.loc 5))) .nil)) (.loc 4)))
 .skip) .skip)
 (.seq (.ret (.loc 4))
 .skip))))))
noncomputable def qC:En:=.code 2 4 cV
noncomputable def fU:List Var:=[⟨"word",0,true⟩,⟨"worth",1,true⟩,⟨"part",2,true⟩,⟨"typed",3,true⟩,⟨"told",4,true⟩]
noncomputable def cZ:List Str:=["word","worth","part"]
noncomputable def ek:Sx:=(.seq (.asg 3 (.me .join (.cst (.str [])) (.cons (.comp [⟨"k",5,true⟩,⟨"part",2,false⟩,⟨"word",0,false⟩,⟨"worth",1,false⟩] (.loc 5) (.call 5 (.cons (.me .index (.cst (.str [34,97,98,99])) (.cons (.idx (.loc 0) (.loc 5)) .nil)) (.cons (.bin .FloorDiv (.idx (.loc 1) (.loc 5)) (.loc 2)) .nil))) (.range (.cons (.cst (.int 8)) .nil)) .nil) .nil)))
 (.seq (.asg 4 (.call 2 (.cons (.bin .Add (.bin .Add (.cst (.str [50,53,55,32,34])) (.rep (.loc 3) [34] [34,34])) (.cst (.str [34,32,122]))) .nil)))
 (.seq (.ite (.cmp .NotEq (.loc 4) (.loc 3)) (.seq (.ret (.cst (.str [])))
 .skip) .skip)
 (.seq (.ret (.me .join (.cst (.str [])) (.cons (.comp [⟨"sign",6,true⟩] (.loc 6) (.call 4 (.cons (.loc 6) .nil)) (.loc 4) (.not (.call 3 (.cons (.loc 6) .nil)))) .nil)))
 .skip))))
noncomputable def qD:En:=.code 3 4 ek
noncomputable def cX:List Var:=[⟨"word",0,true⟩,⟨"rank",1,true⟩,⟨"low",2,true⟩,⟨"high",3,true⟩,⟨"pile",4,true⟩,⟨"free",5,true⟩,⟨"taken",6,true⟩,⟨"k",7,true⟩,⟨"left",8,true⟩,⟨"lower",9,true⟩,⟨"kept",10,true⟩]
noncomputable def bv:List Str:=["word","rank"]
noncomputable def bt:Sx:=(.seq (.asgT [2,3] (.tup (.cons (.idx (.cst (.str [34,97,98,99])) (.loc 1)) (.cons (.idx (.cst (.str [34,97,98,99])) (.bin .Add (.loc 1) (.cst (.int 1)))) .nil))))
 (.seq (.asg 4 (.call 0 (.cons (.loc 1) .nil)))
 (.seq (.asg 5 (.new .nil))
 (.seq (.asg 6 (.new .nil))
 (.seq (.for_ (.loc 7) (.range (.cons (.cst (.int 8)) .nil)) (.seq (.ite (.cmp .Eq (.idx (.loc 0) (.loc 7)) (.loc 3)) (.seq (.expr (.meth 11 (.loc 4) (.cons (.bin .Mult (.cst (.str [32])) (.loc 7)) (.cons (.loc 3) .nil))))
 .skip) (.seq (.ite (.cmp .Eq (.idx (.loc 0) (.loc 7)) (.loc 2)) (.seq (.expr (.append (.loc 6) (.meth 13 (.loc 4) .nil)))
 (.seq (.ite (.cmp .Eq (.idx (.loc 6) (.neg (.cst (.int 1)))) (.tup (.cons (.cst (.str [])) (.cons (.cst (.str [])) .nil)))) (.seq (.expr (.append (.loc 5) (.loc 7)))
 .skip) .skip)
 .skip)) .skip)
 .skip))
 .skip))
 (.seq (.asg 8 (.comp [⟨"lead",11,true⟩,⟨"part",12,true⟩] (.tup (.cons (.loc 11) (.cons (.loc 12) .nil))) (.bf .len (.cons (.loc 11) .nil)) (.meth 12 (.loc 4) .nil) .nil))
 (.seq (.augL 5 (.loc 8))
 (.seq (.asg 9 (.slc (.loc 5) .nil (.bf .len (.cons (.loc 8) .nil)) .nil))
 (.seq (.asg 10 (.comp [⟨"k",13,true⟩,⟨"high",3,false⟩,⟨"taken",6,false⟩,⟨"word",0,false⟩] (.loc 13) (.ite (.or (.cmp .NotEq (.idx (.loc 0) (.loc 13)) (.loc 3)) (.cmp .In (.tup (.cons (.bin .Mult (.cst (.str [32])) (.loc 13)) (.cons (.loc 3) .nil))) (.loc 6))) (.idx (.loc 0) (.loc 13)) (.cst (.str [63]))) (.range (.cons (.cst (.int 8)) .nil)) .nil))
 (.seq (.ret (.me .join (.cst (.str [])) (.cons (.comp [⟨"k",14,true⟩,⟨"free",5,false⟩,⟨"high",3,false⟩,⟨"kept",10,false⟩,⟨"low",2,false⟩,⟨"lower",9,false⟩] (.loc 14) (.ite (.cmp .In (.loc 14) (.loc 9)) (.loc 2) (.ite (.cmp .In (.loc 14) (.loc 5)) (.loc 3) (.idx (.loc 10) (.loc 14)))) (.range (.cons (.cst (.int 8)) .nil)) .nil) .nil)))
 .skip))))))))))
noncomputable def jX:En:=.code 2 13 bt
noncomputable def eo:List Var:=[⟨"row",0,true⟩,⟨"rank",1,true⟩]
noncomputable def bU:List Str:=["row","rank"]
noncomputable def aS:Sx:=(.seq (.ret (.bin .Add (.bin .Add (.slc (.loc 0) .nil (.loc 1) .nil) (.lst (.cons (.idx (.loc 0) (.bin .Add (.loc 1) (.cst (.int 1)))) (.cons (.idx (.loc 0) (.loc 1)) .nil)))) (.slc (.loc 0) (.bin .Add (.loc 1) (.cst (.int 2))) .nil .nil)))
 .skip)
noncomputable def mN:En:=.code 2 0 aS
noncomputable def fV:List Var:=[⟨"text",0,true⟩,⟨"want",1,true⟩,⟨"taken",2,true⟩]
noncomputable def da:List Str:=["text"]
noncomputable def cW:Sx:=(.seq (.for_ (.loc 1) (.tup (.cons (.cst (.str [99,98,97,34])) (.cons (.cst (.str [99,98,97])) (.cons (.cst (.str [99,98,34])) (.cons (.cst (.str [99,97,34])) (.cons (.cst (.str [98,97,34])) (.cons (.cst (.str [99,98])) (.cons (.cst (.str [99,97])) (.cons (.cst (.str [99,34])) (.cons (.cst (.str [98,97])) (.cons (.cst (.str [98,34])) (.cons (.cst (.str [97,34])) .nil)))))))))))) (.seq (.asg 2 (.call 1 (.cons (.bin .Add (.bin .Add (.cst (.str [46,46,46])) (.me .join (.cst (.str [46,46,46])) (.cons (.loc 1) .nil))) (.cst (.str [46,46,46]))) (.cons (.loc 0) .nil))))
 (.seq (.ite (.cmp .IsNot (.loc 2) (.cst (.bool false))) (.seq (.ret (.ite (.cmp .Is (.loc 2) (.cst (.bool true))) (.bf .len (.cons (.loc 1) .nil)) (.cst (.int 0))))
 .skip) .skip)
 .skip)))
 (.seq (.ret (.cst (.int 1)))
 .skip))
noncomputable def qE:En:=.code 1 2 cW
noncomputable def be1:List Var:=[⟨"script",0,true⟩,⟨"starts",1,true⟩,⟨"worth",2,true⟩,⟨"word",3,true⟩,⟨"rank",4,true⟩,⟨"made",5,true⟩,⟨"row",6,true⟩,⟨"k",7,true⟩,⟨"other",8,true⟩,⟨"now",9,true⟩,⟨"place",10,true⟩,⟨"tops",11,true⟩,⟨"size",12,true⟩,⟨"text",13,true⟩]
noncomputable def wr:List Str:=["script"]
noncomputable def wn:Sx:=(.seq (.asg 1 (.tup (.cons (.cst (.int 150)) (.cons (.cst (.int 4999)) (.cons (.cst (.int 1001)) (.cons (.cst (.int 5236)) (.cons (.cst (.int 2859)) (.cons (.cst (.int 7806)) (.cons (.cst (.int 401)) (.cons (.cst (.int 3795)) .nil))))))))))
 (.seq (.asg 2 (.comp [⟨"k",14,true⟩,⟨"script",0,false⟩,⟨"starts",1,false⟩] (.loc 14) (.bin .Mod (.bin .Add (.idx (.loc 1) (.loc 14)) (.bf .sum (.cons (.slc (.loc 0) (.loc 14) .nil (.cst (.int 8))) .nil))) (.cst (.int 1000000))) (.range (.cons (.cst (.int 8)) .nil)) .nil))
 (.seq (.asg 3 (.me .join (.cst (.str [])) (.cons (.comp [⟨"x",15,true⟩] (.loc 15) (.idx (.cst (.str [34,97,98,99])) (.bin .Mod (.loc 15) (.cst (.int 4)))) (.loc 2) .nil) .nil)))
 (.seq (.ite (.cmp .NotEq (.call 6 (.cons (.loc 3) (.cons (.loc 2) (.cons (.cst (.int 4)) .nil)))) (.loc 3)) (.seq (.ret (.cst (.bool false)))
 .skip) .skip)
 (.seq (.for_ (.loc 4) (.range (.cons (.cst (.int 3)) .nil)) (.seq (.ite (.cmp .NotEq (.call 7 (.cons (.call 7 (.cons (.loc 3) (.cons (.loc 4) .nil))) (.cons (.loc 4) .nil))) (.loc 3)) (.seq (.ret (.cst (.bool false)))
 .skip) .skip)
 .skip))
 (.seq (.asg 5 (.loc 3))
 (.seq (.asg 6 (.lst (.cons (.cst (.int 0)) (.cons (.cst (.int 1)) (.cons (.cst (.int 2)) (.cons (.cst (.int 3)) .nil))))))
 (.seq (.for_ (.loc 7) (.range (.cons (.cst (.int 4)) .nil)) (.seq (.asg 4 (.bin .Mod (.bin .FloorDiv (.idx (.loc 2) (.loc 7)) (.cst (.int 2592))) (.cst (.int 3))))
 (.seq (.asg 5 (.call 7 (.cons (.loc 5) (.cons (.loc 4) .nil))))
 (.seq (.asg 6 (.call 8 (.cons (.loc 6) (.cons (.loc 4) .nil))))
 .skip))))
 (.seq (.ite (.cmp .NotEq (.comp [⟨"letter",16,true⟩,⟨"made",5,false⟩] (.loc 16) (.me .count (.loc 5) (.cons (.loc 16) .nil)) (.cst (.str [34,97,98,99])) .nil) (.comp [⟨"k",17,true⟩,⟨"word",3,false⟩] (.loc 17) (.me .count (.loc 3) (.cons (.idx (.cst (.str [34,97,98,99])) (.loc 17)) .nil)) (.loc 6) .nil)) (.seq (.ret (.cst (.bool false)))
 .skip) .skip)
 (.seq (.asg 8 (.loc 3))
 (.seq (.asg 9 (.lst (.cons (.cst (.int 0)) (.cons (.cst (.int 1)) (.cons (.cst (.int 2)) (.cons (.cst (.int 3)) .nil))))))
 (.seq (.for_ (.loc 10) (.range (.cons (.cst (.int 4)) .nil)) (.seq (.whil 1000 (.cmp .NotEq (.idx (.loc 9) (.loc 10)) (.idx (.loc 6) (.loc 10))) (.seq (.asg 4 (.bin .Sub (.me .lindex (.loc 9) (.cons (.idx (.loc 6) (.loc 10)) .nil)) (.cst (.int 1))))
 (.seq (.asg 8 (.call 7 (.cons (.loc 8) (.cons (.loc 4) .nil))))
 (.seq (.asg 9 (.call 8 (.cons (.loc 9) (.cons (.loc 4) .nil))))
 .skip))))
 .skip))
 (.seq (.ite (.cmp .NotEq (.call 6 (.cons (.loc 5) (.cons (.loc 2) (.cons (.cst (.int 5)) .nil)))) (.loc 8)) (.seq (.ret (.cst (.bool false)))
 .skip) .skip)
 (.seq (.asg 11 (.new .nil))
 (.seq (.for_ (.loc 7) (.range (.cons (.cst (.int 8)) .nil)) (.seq (.expr (.append (.loc 11) (.bin .Add (.cst (.int 1)) (.bf .max (.cons (.bin .Add (.lst (.cons (.cst (.int 0)) .nil)) (.comp [⟨"j",18,true⟩,⟨"k",7,false⟩,⟨"tops",11,false⟩,⟨"word",3,false⟩] (.loc 18) (.idx (.loc 11) (.loc 18)) (.range (.cons (.loc 7) .nil)) (.cmp .Gt (.idx (.loc 3) (.loc 18)) (.idx (.loc 3) (.loc 7))))) .nil)))))
 .skip))
 (.seq (.for_ (.loc 12) (.tup (.cons (.bin .Add (.cst (.int 1)) (.bin .Mod (.bin .FloorDiv (.idx (.loc 2) (.cst (.int 5))) (.cst (.int 2592))) (.cst (.int 7)))) (.cons (.cst (.int 8)) .nil))) (.seq (.for_ (.loc 13) (.tup (.cons (.slc (.loc 3) .nil (.loc 12) .nil) (.cons (.slc (.loc 5) .nil (.loc 12) .nil) .nil))) (.seq (.ite (.cmp .NotEq (.call 9 (.cons (.loc 13) .nil)) (.bf .max (.cons (.slc (.loc 11) .nil (.loc 12) .nil) .nil))) (.seq (.ret (.cst (.bool false)))
 .skip) .skip)
 .skip))
 .skip))
 (.seq (.ret (.cst (.bool true)))
 .skip)))))))))))))))))
noncomputable def TB3:Tab:=⟨fun i=>[("_Accumulator":Str),"_ellipsis_match","parse257","in_table_b1","map_table_b3","_law_typed","_law_heard","_law_exchanged","_law_swapped","_law_falls","law"][i]?,
 fun i=>if i=11 then some "push" else if i=12 then some "pop_from" else if i=13 then some "pop" else none,
 fun x=>if x="ELLIPSIS_MARKER" then some [46,46,46] else none⟩
theorem ie:mss TB3 bK ⟨cr,af (stN 6)⟩ (ax (stN 6))=true:=by kernel_rfl!
theorem iz:dC ⟨cr,af (stN 6)⟩ ba=true:=by kernel_rfl!
theorem sC:mss TB3 dZ ⟨gZ,af (stN 10)⟩ (ax (stN 10))=true:=by kernel_rfl!
theorem tc:dC ⟨gZ,af (stN 10)⟩ d3=true:=by kernel_rfl!
theorem px:mss TB3 cV ⟨fS,af (stN 17)⟩ (ax (stN 17))=true:=by kernel_rfl!
theorem p6:dC ⟨fS,af (stN 17)⟩ cY=true:=by kernel_rfl!
theorem pz:mss TB3 ek ⟨fU,af (stN 18)⟩ (ax (stN 18))=true:=by kernel_rfl!
theorem p7:dC ⟨fU,af (stN 18)⟩ cZ=true:=by kernel_rfl!
theorem jn:mss TB3 bt ⟨cX,af (stN 19)⟩ (ax (stN 19))=true:=by kernel_rfl!
theorem jF:dC ⟨cX,af (stN 19)⟩ bv=true:=by kernel_rfl!
theorem lW:mss TB3 aS ⟨eo,af (stN 20)⟩ (ax (stN 20))=true:=by kernel_rfl!
theorem mo:dC ⟨eo,af (stN 20)⟩ bU=true:=by kernel_rfl!
theorem pA:mss TB3 cW ⟨fV,af (stN 21)⟩ (ax (stN 21))=true:=by kernel_rfl!
theorem p8:dC ⟨fV,af (stN 21)⟩ da=true:=by kernel_rfl!
theorem fZ1:mss TB3 wn ⟨be1,af (stN 22)⟩ (ax (stN 22))=true:=by kernel_rfl!
theorem gw1:dC ⟨be1,af (stN 22)⟩ wr=true:=by kernel_rfl!
set_option maxHeartbeats 0
noncomputable def ah(P:Params)(a:Nat):FuncData:=match (Hh P).get? a with | some ⟨_,_,.func fd,_⟩=>fd | _=>default
noncomputable def b8(P:Params)(a:Nat):Array Value:=match (Hh P).get? a with | some ⟨_,_,.fields vs,_⟩=>vs | _=>#[]
noncomputable def rj{α:Type}:Sem α->Option Addr | .load a none _=>some a | _=>none
noncomputable def b41{α:Type}:Sem α->Obj->Sem α | .load _ _ k,o=>k o | t,_=>t
theorem mB{s:Shared}{fd:FuncData}{args:Args}{binds:List (Str × Value)}{T:Addr}{o:Obj}(h1:rj (bindArgs fd args)=some T)(ho:s.heap.get? T=some o)(h2:b41 (bindArgs fd args) o=pure binds):BindsTo s fd args binds :=
 fun M A E Q hq=>by
  have key:∀ t:Sem (List (Str × Value)),rj t=some T->t=load T >>= b41 t:=fun t ht=>by
   cases t with
   | load a part k=>cases part with
    | none=>obtain rfl:=siX ht;rfl
    | some v=>exact nso ht
   | _=>exact nso ht
  rw [key _ h1]
  exact wpAny_bind (wpAny_load ho (h2 ▸ wpAny_pure hq))
noncomputable def iZ:Option Value->Tok | some (.str _ t)=>t | some (.int _ t)=>t | _=>0
noncomputable def mtS(i:Nat):Stmt:=((v6 (stN 3))[i]?).getD (.Pass default)
noncomputable abbrev GG(w:World)(s:Shared):Wd:=⟨prg,w,s,101,[]⟩
noncomputable abbrev Kp(w:World)(s:Shared):Prop:=∀ b o,(Hh w.params).get? b=some o->s.heap.get? b=some o
theorem ul(P:Params):(Hh P).isNs cStatics=true:=by kernel_rfl!
theorem wX(P:Params):(Hh P).nsMap cStatics "sys.recursionlimit"=none:=by kernel_rfl!
theorem wW(P:Params):(Hh P).nsMap cStatics "thirdparty.any"=none:=by kernel_rfl!
theorem aB{w:World}{s:Shared}(hk:Kp w s):∃ mc,s.heap.Ns cStatics mc/\mc "sys.recursionlimit"=none:=⟨_,(Heap.Ns.of_isNs (ul w.params)).keeps hk,wX _⟩
theorem o7{w:World}{s:Shared}(hk:Kp w s):∃ mc,s.heap.Ns cStatics mc/\mc "thirdparty.any"=none:=⟨_,(Heap.Ns.of_isNs (ul w.params)).keeps hk,wW _⟩
noncomputable def jC:Str:="/claim/cut.py"
theorem jB:((prg.main.file:Str) == jC)=true:=by kernel_rfl!
noncomputable def a11(P:Params):Obj:=⟨.type "cell",none,.cell (some (.ref 101)),#[]⟩
theorem qi(P:Params):(Hh P).get? 25=some (a11 P):=by kernel_rfl!
theorem du1{w:World}{s:Shared}(hk:Kp w s){x:Str}{f:Value}(h:(Hh w.params).nsMap mainGlobals x=some f):Gl (GG w s) x f:=⟨⟨_,(Heap.Ns.of_isNs (c6 w.params)).keeps hk,.inl h⟩,nofun,nofun⟩
theorem yW{w:World}{s:Shared}(hk:Kp w s){x:Str}{f:Value}(h:(Hh w.params).nsMap mainGlobals x=none)(h':(Hh w.params).nsMap builtinsNs x=some f):Gl (GG w s) x f:=⟨⟨_,(Heap.Ns.of_isNs (c6 w.params)).keeps hk,.inr ⟨h,_,(Heap.Ns.of_isNs (c7 w.params)).keeps hk,h'⟩⟩,nofun,nofun⟩
theorem iy(P:Params):(Hh P).get? 112=some ⟨.type "function",none,.func (ah P 112),#[]⟩:=by kernel_rfl!
theorem im(P:Params):(ah P 112).code=.ref 111:=by kernel_rfl!
theorem gN(P:Params):(Hh P).get? 111=some ⟨.type "code",none,.fields (b8 P 111),#[]⟩:=by kernel_rfl!
theorem gO(P:Params):(b8 P 111)[1]?=some (.str (ah P 112).qualname (iZ ((b8 P 111)[1]?))):=by kernel_rfl!
theorem ia(P:Params):(ah P 112).body=.stmts (ax (stN 6))/\(ah P 112).scope=af (stN 6)/\(ah P 112).globals=mainGlobals/\(ah P 112).builtins=builtinsNs/\(ah P 112).scope.isCoroutine=false/\(ah P 112).scope.isGenerator=false:=⟨by kernel_rfl!,by kernel_rfl!,by kernel_rfl!,by kernel_rfl!,by kernel_rfl!,by kernel_rfl!⟩
theorem gW(P:Params)(a b:Value):bindArgs (ah P 112) ⟨[a,b],[]⟩=pure (ba.zip [a,b]):=by kernel_rfl!
theorem iC(P:Params)(cvs:List Value)(h:cvs.length=ba.length):bindArgs (ah P 112) ⟨cvs,[]⟩=pure (ba.zip cvs):=by
 exact l2_ (P:=fun l=>bindArgs _ ⟨l,[]⟩=pure (_root_.List.zip _ l)) (gW P) cvs h
theorem gU(P:Params):(ah P 112).closure=[]:=by kernel_rfl!
theorem iG{w:World}{s:Shared}(hk:Kp w s):Def (GG w s) 112 (ah w.params 112) (ax (stN 6)) ⟨cr,af (stN 6)⟩ ba :=
 have q:=ia w.params
 ⟨⟨_,hk _ _ (iy _),rfl⟩,nofun,aB hk,nofun,⟨111,_,_,_,im _,nofun,hk _ _ (gN _),rfl,gO _⟩,q.1,gU _,q.2.1,q.2.2.1,q.2.2.2.1,q.2.2.2.2.1,q.2.2.2.2.2,iC _,iz⟩
theorem s7(P:Params):(Hh P).get? 144=some ⟨.type "function",none,.func (ah P 144),#[]⟩:=by kernel_rfl!
theorem sL(P:Params):(ah P 144).code=.ref 143:=by kernel_rfl!
theorem pL(P:Params):(Hh P).get? 143=some ⟨.type "code",none,.fields (b8 P 143),#[]⟩:=by kernel_rfl!
theorem pS(P:Params):(b8 P 143)[1]?=some (.str (ah P 144).qualname (iZ ((b8 P 143)[1]?))):=by kernel_rfl!
theorem sg(P:Params):(ah P 144).body=.stmts (ax (stN 10))/\(ah P 144).scope=af (stN 10)/\(ah P 144).globals=mainGlobals/\(ah P 144).builtins=builtinsNs/\(ah P 144).scope.isCoroutine=false/\(ah P 144).scope.isGenerator=false:=⟨by kernel_rfl!,by kernel_rfl!,by kernel_rfl!,by kernel_rfl!,by kernel_rfl!,by kernel_rfl!⟩
theorem qp(P:Params)(a:Value):bindArgs (ah P 144) ⟨[a],[]⟩=pure (d3.zip [a]):=by kernel_rfl!
theorem tn(P:Params)(cvs:List Value)(h:cvs.length=d3.length):bindArgs (ah P 144) ⟨cvs,[]⟩=pure (d3.zip cvs):=by
 exact l1_ (P:=fun l=>bindArgs _ ⟨l,[]⟩=pure (_root_.List.zip _ l)) (qp P) cvs h
theorem qg(P:Params):(ah P 144).closure=[]:=by kernel_rfl!
theorem tD{w:World}{s:Shared}(hk:Kp w s):Def (GG w s) 144 (ah w.params 144) (ax (stN 10)) ⟨gZ,af (stN 10)⟩ d3 :=
 have q:=sg w.params
 ⟨⟨_,hk _ _ (s7 _),rfl⟩,nofun,aB hk,nofun,⟨143,_,_,_,sL _,nofun,hk _ _ (pL _),rfl,pS _⟩,q.1,qg _,q.2.1,q.2.2.1,q.2.2.2.1,q.2.2.2.2.1,q.2.2.2.2.2,tn _,tc⟩
noncomputable def eq:List Var:=[⟨"code",0,true⟩]
noncomputable def bV:List Str:=["code"]
theorem mq:dC ⟨eq,af (stN 13)⟩ bV=true:=by kernel_rfl!
theorem mi(P:Params):(Hh P).get? 162=some ⟨.type "function",none,.func (ah P 162),#[]⟩:=by kernel_rfl!
theorem l3(P:Params):(ah P 162).code=.ref 161:=by kernel_rfl!
theorem ke(P:Params):(Hh P).get? 161=some ⟨.type "code",none,.fields (b8 P 161),#[]⟩:=by kernel_rfl!
theorem kh(P:Params):(b8 P 161)[1]?=some (.str (ah P 162).qualname (iZ ((b8 P 161)[1]?))):=by kernel_rfl!
theorem lK(P:Params):(ah P 162).body=.stmts (ax (stN 13))/\(ah P 162).scope=af (stN 13)/\(ah P 162).globals=mainGlobals/\(ah P 162).builtins=builtinsNs/\(ah P 162).scope.isCoroutine=false/\(ah P 162).scope.isGenerator=false:=⟨by kernel_rfl!,by kernel_rfl!,by kernel_rfl!,by kernel_rfl!,by kernel_rfl!,by kernel_rfl!⟩
theorem kx(P:Params)(a:Value):bindArgs (ah P 162) ⟨[a],[]⟩=pure (bV.zip [a]):=by kernel_rfl!
theorem mD(P:Params)(cvs:List Value)(h:cvs.length=bV.length):bindArgs (ah P 162) ⟨cvs,[]⟩=pure (bV.zip cvs):=by
 exact l1_ (P:=fun l=>bindArgs _ ⟨l,[]⟩=pure (_root_.List.zip _ l)) (kx P) cvs h
theorem kp(P:Params):(ah P 162).closure=[]:=by kernel_rfl!
theorem mP{w:World}{s:Shared}(hk:Kp w s):Def (GG w s) 162 (ah w.params 162) (ax (stN 13)) ⟨eq,af (stN 13)⟩ bV :=
 have q:=lK w.params
 ⟨⟨_,hk _ _ (mi _),rfl⟩,nofun,aB hk,nofun,⟨161,_,_,_,l3 _,nofun,hk _ _ (ke _),rfl,kh _⟩,q.1,kp _,q.2.1,q.2.2.1,q.2.2.2.1,q.2.2.2.2.1,q.2.2.2.2.2,mD _,mq⟩
noncomputable def dG:List Var:=[⟨"code",0,true⟩,⟨"r",1,true⟩]
noncomputable def bJ:List Str:=["code"]
theorem km:dC ⟨dG,af (stN 15)⟩ bJ=true:=by kernel_rfl!
theorem kl(P:Params):(Hh P).get? 208=some ⟨.type "function",none,.func (ah P 208),#[]⟩:=by kernel_rfl!
theorem kf(P:Params):(ah P 208).code=.ref 207:=by kernel_rfl!
theorem jq(P:Params):(Hh P).get? 207=some ⟨.type "code",none,.fields (b8 P 207),#[]⟩:=by kernel_rfl!
theorem js(P:Params):(b8 P 207)[1]?=some (.str (ah P 208).qualname (iZ ((b8 P 207)[1]?))):=by kernel_rfl!
theorem j6(P:Params):(ah P 208).body=.stmts (ax (stN 15))/\(ah P 208).scope=af (stN 15)/\(ah P 208).globals=mainGlobals/\(ah P 208).builtins=builtinsNs/\(ah P 208).scope.isCoroutine=false/\(ah P 208).scope.isGenerator=false:=⟨by kernel_rfl!,by kernel_rfl!,by kernel_rfl!,by kernel_rfl!,by kernel_rfl!,by kernel_rfl!⟩
theorem jQ(P:Params)(a:Value):bindArgs (ah P 208) ⟨[a],[]⟩=pure (bJ.zip [a]):=by kernel_rfl!
theorem kr(P:Params)(cvs:List Value)(h:cvs.length=bJ.length):bindArgs (ah P 208) ⟨cvs,[]⟩=pure (bJ.zip cvs):=by
 exact l1_ (P:=fun l=>bindArgs _ ⟨l,[]⟩=pure (_root_.List.zip _ l)) (jQ P) cvs h
theorem jK(P:Params):(ah P 208).closure=[]:=by kernel_rfl!
theorem ky{w:World}{s:Shared}(hk:Kp w s):Def (GG w s) 208 (ah w.params 208) (ax (stN 15)) ⟨dG,af (stN 15)⟩ bJ :=
 have q:=j6 w.params
 ⟨⟨_,hk _ _ (kl _),rfl⟩,nofun,aB hk,nofun,⟨207,_,_,_,kf _,nofun,hk _ _ (jq _),rfl,js _⟩,q.1,jK _,q.2.1,q.2.2.1,q.2.2.2.1,q.2.2.2.2.1,q.2.2.2.2.2,kr _,km⟩
theorem pW(P:Params):(Hh P).get? 215=some ⟨.type "function",none,.func (ah P 215),#[]⟩:=by kernel_rfl!
theorem pM(P:Params):(ah P 215).code=.ref 214:=by kernel_rfl!
theorem nK(P:Params):(Hh P).get? 214=some ⟨.type "code",none,.fields (b8 P 214),#[]⟩:=by kernel_rfl!
theorem nP(P:Params):(b8 P 214)[1]?=some (.str (ah P 215).qualname (iZ ((b8 P 214)[1]?))):=by kernel_rfl!
theorem pc(P:Params):(ah P 215).body=.stmts (ax (stN 17))/\(ah P 215).scope=af (stN 17)/\(ah P 215).globals=mainGlobals/\(ah P 215).builtins=builtinsNs/\(ah P 215).scope.isCoroutine=false/\(ah P 215).scope.isGenerator=false:=⟨by kernel_rfl!,by kernel_rfl!,by kernel_rfl!,by kernel_rfl!,by kernel_rfl!,by kernel_rfl!⟩
theorem oz(P:Params)(a b:Value):bindArgs (ah P 215) ⟨[a,b],[]⟩=pure (cY.zip [a,b]):=by kernel_rfl!
theorem qk(P:Params)(cvs:List Value)(h:cvs.length=cY.length):bindArgs (ah P 215) ⟨cvs,[]⟩=pure (cY.zip cvs):=by
 exact l2_ (P:=fun l=>bindArgs _ ⟨l,[]⟩=pure (_root_.List.zip _ l)) (oz P) cvs h
theorem om(P:Params):(ah P 215).closure=[]:=by kernel_rfl!
theorem qF{w:World}{s:Shared}(hk:Kp w s):Def (GG w s) 215 (ah w.params 215) (ax (stN 17)) ⟨fS,af (stN 17)⟩ cY :=
 have q:=pc w.params
 ⟨⟨_,hk _ _ (pW _),rfl⟩,nofun,aB hk,nofun,⟨214,_,_,_,pM _,nofun,hk _ _ (nK _),rfl,nP _⟩,q.1,om _,q.2.1,q.2.2.1,q.2.2.2.1,q.2.2.2.2.1,q.2.2.2.2.2,qk _,p6⟩
theorem pX(P:Params):(Hh P).get? 220=some ⟨.type "function",none,.func (ah P 220),#[]⟩:=by kernel_rfl!
theorem pN(P:Params):(ah P 220).code=.ref 219:=by kernel_rfl!
theorem nL(P:Params):(Hh P).get? 219=some ⟨.type "code",none,.fields (b8 P 219),#[]⟩:=by kernel_rfl!
theorem nQ(P:Params):(b8 P 219)[1]?=some (.str (ah P 220).qualname (iZ ((b8 P 219)[1]?))):=by kernel_rfl!
theorem pe(P:Params):(ah P 220).body=.stmts (ax (stN 18))/\(ah P 220).scope=af (stN 18)/\(ah P 220).globals=mainGlobals/\(ah P 220).builtins=builtinsNs/\(ah P 220).scope.isCoroutine=false/\(ah P 220).scope.isGenerator=false:=⟨by kernel_rfl!,by kernel_rfl!,by kernel_rfl!,by kernel_rfl!,by kernel_rfl!,by kernel_rfl!⟩
theorem oA(P:Params)(a b c:Value):bindArgs (ah P 220) ⟨[a,b,c],[]⟩=pure (cZ.zip [a,b,c]):=by kernel_rfl!
theorem ql(P:Params)(cvs:List Value)(h:cvs.length=cZ.length):bindArgs (ah P 220) ⟨cvs,[]⟩=pure (cZ.zip cvs):=by
 exact l3_ (P:=fun l=>bindArgs _ ⟨l,[]⟩=pure (_root_.List.zip _ l)) (oA P) cvs h
theorem on(P:Params):(ah P 220).closure=[]:=by kernel_rfl!
theorem qG{w:World}{s:Shared}(hk:Kp w s):Def (GG w s) 220 (ah w.params 220) (ax (stN 18)) ⟨fU,af (stN 18)⟩ cZ :=
 have q:=pe w.params
 ⟨⟨_,hk _ _ (pX _),rfl⟩,nofun,aB hk,nofun,⟨219,_,_,_,pN _,nofun,hk _ _ (nL _),rfl,nQ _⟩,q.1,on _,q.2.1,q.2.2.1,q.2.2.2.1,q.2.2.2.2.1,q.2.2.2.2.2,ql _,p7⟩
theorem jD(P:Params):(Hh P).get? 225=some ⟨.type "function",none,.func (ah P 225),#[]⟩:=by kernel_rfl!
theorem jr(P:Params):(ah P 225).code=.ref 224:=by kernel_rfl!
theorem ik(P:Params):(Hh P).get? 224=some ⟨.type "code",none,.fields (b8 P 224),#[]⟩:=by kernel_rfl!
theorem ip(P:Params):(b8 P 224)[1]?=some (.str (ah P 225).qualname (iZ ((b8 P 224)[1]?))):=by kernel_rfl!
theorem ja(P:Params):(ah P 225).body=.stmts (ax (stN 19))/\(ah P 225).scope=af (stN 19)/\(ah P 225).globals=mainGlobals/\(ah P 225).builtins=builtinsNs/\(ah P 225).scope.isCoroutine=false/\(ah P 225).scope.isGenerator=false:=⟨by kernel_rfl!,by kernel_rfl!,by kernel_rfl!,by kernel_rfl!,by kernel_rfl!,by kernel_rfl!⟩
theorem iD(P:Params)(a b:Value):bindArgs (ah P 225) ⟨[a,b],[]⟩=pure (bv.zip [a,b]):=by kernel_rfl!
theorem jP(P:Params)(cvs:List Value)(h:cvs.length=bv.length):bindArgs (ah P 225) ⟨cvs,[]⟩=pure (bv.zip cvs):=by
 exact l2_ (P:=fun l=>bindArgs _ ⟨l,[]⟩=pure (_root_.List.zip _ l)) (iD P) cvs h
theorem iB(P:Params):(ah P 225).closure=[]:=by kernel_rfl!
theorem jY{w:World}{s:Shared}(hk:Kp w s):Def (GG w s) 225 (ah w.params 225) (ax (stN 19)) ⟨cX,af (stN 19)⟩ bv :=
 have q:=ja w.params
 ⟨⟨_,hk _ _ (jD _),rfl⟩,nofun,aB hk,nofun,⟨224,_,_,_,jr _,nofun,hk _ _ (ik _),rfl,ip _⟩,q.1,iB _,q.2.1,q.2.2.1,q.2.2.2.1,q.2.2.2.2.1,q.2.2.2.2.2,jP _,jF⟩
theorem mh(P:Params):(Hh P).get? 232=some ⟨.type "function",none,.func (ah P 232),#[]⟩:=by kernel_rfl!
theorem l0(P:Params):(ah P 232).code=.ref 231:=by kernel_rfl!
theorem ka(P:Params):(Hh P).get? 231=some ⟨.type "code",none,.fields (b8 P 231),#[]⟩:=by kernel_rfl!
theorem kg(P:Params):(b8 P 231)[1]?=some (.str (ah P 232).qualname (iZ ((b8 P 231)[1]?))):=by kernel_rfl!
theorem lJ(P:Params):(ah P 232).body=.stmts (ax (stN 20))/\(ah P 232).scope=af (stN 20)/\(ah P 232).globals=mainGlobals/\(ah P 232).builtins=builtinsNs/\(ah P 232).scope.isCoroutine=false/\(ah P 232).scope.isGenerator=false:=⟨by kernel_rfl!,by kernel_rfl!,by kernel_rfl!,by kernel_rfl!,by kernel_rfl!,by kernel_rfl!⟩
theorem kt(P:Params)(a b:Value):bindArgs (ah P 232) ⟨[a,b],[]⟩=pure (bU.zip [a,b]):=by kernel_rfl!
theorem mC(P:Params)(cvs:List Value)(h:cvs.length=bU.length):bindArgs (ah P 232) ⟨cvs,[]⟩=pure (bU.zip cvs):=by
 exact l2_ (P:=fun l=>bindArgs _ ⟨l,[]⟩=pure (_root_.List.zip _ l)) (kt P) cvs h
theorem kn(P:Params):(ah P 232).closure=[]:=by kernel_rfl!
theorem mO{w:World}{s:Shared}(hk:Kp w s):Def (GG w s) 232 (ah w.params 232) (ax (stN 20)) ⟨eo,af (stN 20)⟩ bU :=
 have q:=lJ w.params
 ⟨⟨_,hk _ _ (mh _),rfl⟩,nofun,aB hk,nofun,⟨231,_,_,_,l0 _,nofun,hk _ _ (ka _),rfl,kg _⟩,q.1,kn _,q.2.1,q.2.2.1,q.2.2.2.1,q.2.2.2.2.1,q.2.2.2.2.2,mC _,mo⟩
theorem pY(P:Params):(Hh P).get? 239=some ⟨.type "function",none,.func (ah P 239),#[]⟩:=by kernel_rfl!
theorem pO(P:Params):(ah P 239).code=.ref 238:=by kernel_rfl!
theorem nN(P:Params):(Hh P).get? 238=some ⟨.type "code",none,.fields (b8 P 238),#[]⟩:=by kernel_rfl!
theorem nR(P:Params):(b8 P 238)[1]?=some (.str (ah P 239).qualname (iZ ((b8 P 238)[1]?))):=by kernel_rfl!
theorem pf(P:Params):(ah P 239).body=.stmts (ax (stN 21))/\(ah P 239).scope=af (stN 21)/\(ah P 239).globals=mainGlobals/\(ah P 239).builtins=builtinsNs/\(ah P 239).scope.isCoroutine=false/\(ah P 239).scope.isGenerator=false:=⟨by kernel_rfl!,by kernel_rfl!,by kernel_rfl!,by kernel_rfl!,by kernel_rfl!,by kernel_rfl!⟩
theorem oC(P:Params)(a:Value):bindArgs (ah P 239) ⟨[a],[]⟩=pure (da.zip [a]):=by kernel_rfl!
theorem qm(P:Params)(cvs:List Value)(h:cvs.length=da.length):bindArgs (ah P 239) ⟨cvs,[]⟩=pure (da.zip cvs):=by
 exact l1_ (P:=fun l=>bindArgs _ ⟨l,[]⟩=pure (_root_.List.zip _ l)) (oC P) cvs h
theorem oo(P:Params):(ah P 239).closure=[]:=by kernel_rfl!
theorem qH{w:World}{s:Shared}(hk:Kp w s):Def (GG w s) 239 (ah w.params 239) (ax (stN 21)) ⟨fV,af (stN 21)⟩ da :=
 have q:=pf w.params
 ⟨⟨_,hk _ _ (pY _),rfl⟩,nofun,aB hk,nofun,⟨238,_,_,_,pO _,nofun,hk _ _ (nN _),rfl,nR _⟩,q.1,oo _,q.2.1,q.2.2.1,q.2.2.2.1,q.2.2.2.2.1,q.2.2.2.2.2,qm _,p8⟩
theorem gk1(P:Params):(Hh P).get? 244=some ⟨.type "function",none,.func (ah P 244),#[]⟩:=by kernel_rfl!
theorem f51(P:Params):(ah P 244).code=.ref 243:=by kernel_rfl!
theorem db1(P:Params):(Hh P).get? 243=some ⟨.type "code",none,.fields (b8 P 243),#[]⟩:=by kernel_rfl!
theorem dg1(P:Params):(b8 P 243)[1]?=some (.str (ah P 244).qualname (iZ ((b8 P 243)[1]?))):=by kernel_rfl!
theorem fG1(P:Params):(ah P 244).body=.stmts (ax (stN 22))/\(ah P 244).scope=af (stN 22)/\(ah P 244).globals=mainGlobals/\(ah P 244).builtins=builtinsNs/\(ah P 244).scope.isCoroutine=false/\(ah P 244).scope.isGenerator=false:=⟨by kernel_rfl!,by kernel_rfl!,by kernel_rfl!,by kernel_rfl!,by kernel_rfl!,by kernel_rfl!⟩
theorem d61(P:Params)(a:Value):bindArgs (ah P 244) ⟨[a],[]⟩=pure (wr.zip [a]):=by kernel_rfl!
theorem gF1(P:Params)(cvs:List Value)(h:cvs.length=wr.length):bindArgs (ah P 244) ⟨cvs,[]⟩=pure (wr.zip cvs):=by
 exact l1_ (P:=fun l=>bindArgs _ ⟨l,[]⟩=pure (_root_.List.zip _ l)) (d61 P) cvs h
theorem dY1(P:Params):(ah P 244).closure=[]:=by kernel_rfl!
theorem gQ1{w:World}{s:Shared}(hk:Kp w s):Def (GG w s) 244 (ah w.params 244) (ax (stN 22)) ⟨be1,af (stN 22)⟩ wr :=
 have q:=fG1 w.params
 ⟨⟨_,hk _ _ (gk1 _),rfl⟩,nofun,aB hk,nofun,⟨243,_,_,_,f51 _,nofun,hk _ _ (db1 _),rfl,dg1 _⟩,q.1,dY1 _,q.2.1,q.2.2.1,q.2.2.2.1,q.2.2.2.2.1,q.2.2.2.2.2,gF1 _,gw1⟩
noncomputable def lg:List Var:=[⟨"self",0,true⟩,⟨"initial_size",1,true⟩]
noncomputable def lh:List Str:=["self","initial_size"]
theorem dQ1:dC ⟨lg,af (mtS 0)⟩ lh=true:=by kernel_rfl!
theorem dI1(P:Params):(Hh P).get? 38=some ⟨.type "function",none,.func (ah P 38),#[]⟩:=by kernel_rfl!
theorem dd1(P:Params):(ah P 38).code=.ref 37:=by kernel_rfl!
theorem ap1(P:Params):(Hh P).get? 37=some ⟨.type "code",none,.fields (b8 P 37),#[]⟩:=by kernel_rfl!
theorem at1(P:Params):(b8 P 37)[1]?=some (.str (ah P 38).qualname (iZ ((b8 P 37)[1]?))):=by kernel_rfl!
theorem ar1(P:Params):(b8 P 37)[2]?=some (.str jC (iZ ((b8 P 37)[2]?))):=by kernel_rfl!
theorem cn1(P:Params):(ah P 38).body=.stmts (ax (mtS 0))/\(ah P 38).scope=af (mtS 0)/\(ah P 38).globals=mainGlobals/\(ah P 38).builtins=builtinsNs/\(ah P 38).scope.isCoroutine=false/\(ah P 38).scope.isGenerator=false:=⟨by kernel_rfl!,by kernel_rfl!,by kernel_rfl!,by kernel_rfl!,by kernel_rfl!,by kernel_rfl!⟩
noncomputable def gH(P:Params):Addr:=match (ah P 38).defaults with | .ref a=>a | _=>0
noncomputable def zY(P:Params):Array Value:=match (Hh P).get? (gH P) with | some ⟨_,_,.seq xs _,_⟩=>xs | _=>#[]
noncomputable def zX(P:Params):Nat:=match (Hh P).get? (gH P) with | some ⟨_,_,.seq _ n,_⟩=>n | _=>0
noncomputable def zN(P:Params):Tok:=iZ (zY P)[0]?
noncomputable def lO(P:Params):Obj:=⟨.type "tuple",none,.seq #[.int 0 (zN P)] (zX P),#[]⟩
theorem zS(P:Params):(Hh P).get? (gH P)=some (lO P):=by kernel_rfl!
theorem c91(P:Params)(args:List Value):rj (bindArgs (ah P 38) ⟨args,[]⟩)=some (gH P):=by kernel_rfl!
theorem al1(P:Params)(a b:Value):b41 (bindArgs (ah P 38) ⟨[a,b],[]⟩) (lO P)=pure (lh.zip [a,b]):=by kernel_rfl!
theorem d31{w:World}{s₀:Shared}(hk:Kp w s₀)(s:Shared)(cvs:List Value)(h:∀ b o,b ∉ (GG w s₀).loose->(GG w s₀).s₀.heap.get? b=some o->s.heap.get? b=some o)(hl:cvs.length=2):BindsTo s (ah w.params 38) ⟨cvs,[]⟩ (lh.zip cvs):=by
 have h1:=c91 w.params
 have h2:=al1 w.params
 have h3:s.heap.get? (gH w.params)=some (lO w.params):=h _ _ List.not_mem_nil (hk _ _ (zS w.params))
 generalize ah w.params 38=fd at h1 h2 ⊢
 generalize gH w.params=T at h1 h3
 generalize lO w.params=o at h2 h3
 exact l2_ (P:=fun cvs=>BindsTo s fd ⟨cvs,[]⟩ (lh.zip cvs)) (fun a b=>mB (h1 [a,b]) h3 (h2 a b)) cvs hl
theorem aP1(P:Params):kN (ah P 38).scope=true/\k9 (ah P 38).scope lh=true:=⟨by kernel_rfl!,by kernel_rfl!⟩
theorem et1{w:World}{s:Shared}(hk:Kp w s):DefM (GG w s) 38 (ah w.params 38) (ax (mtS 0)) ⟨lg,af (mtS 0)⟩ lh :=
 have q:=cn1 w.params
 have z:=aP1 w.params
 ⟨⟨_,hk _ _ (dI1 _),rfl,rfl⟩,nofun,aB hk,nofun,⟨37,_,_,_,jC,_,dd1 _,nofun,hk _ _ (ap1 _),rfl,at1 _,ar1 _,jB⟩,q.1,q.2.1,q.2.2.1,q.2.2.2.1,q.2.2.2.2.1,q.2.2.2.2.2,
  gf z.1,gv z.2,dQ1⟩
theorem aY1(P:Params):(ah P 38).closure.lookup ("__class__":Str)=some 25:=by kernel_rfl!
theorem zU(P:Params):(((ah P 38).params.posonlyargs++(ah P 38).params.args).head?.map (·.arg))=some ("self":Str):=by kernel_rfl!
theorem vd:(⟨lg,af (mtS 0)⟩:Cx).kind "super"=some .globalImplicit/\(⟨lg,af (mtS 0)⟩:Cx).kind "__class__"=some .free:=⟨by kernel_rfl!,by kernel_rfl!⟩
theorem el1{w:World}{s:Shared}(hk:Kp w s):SupD (GG w s) (ah w.params 38) ⟨lg,af (mtS 0)⟩ ⟨"self",0,true⟩ :=
 ⟨List.mem_cons_self,(Option.map_eq_some_iff.mp (zU w.params)),⟨25,aY1 _,nofun,⟨_,hk _ _ (qi _),rfl⟩⟩,vd.1,vd.2⟩
noncomputable def rY:List Var:=[⟨"self",0,true⟩,⟨"fws",1,true⟩,⟨"string",2,true⟩]
noncomputable def jW:List Str:=["self","fws","string"]
theorem dP1:dC ⟨rY,af (mtS 1)⟩ jW=true:=by kernel_rfl!
theorem dG1(P:Params):(Hh P).get? 45=some ⟨.type "function",none,.func (ah P 45),#[]⟩:=by kernel_rfl!
theorem dc1(P:Params):(ah P 45).code=.ref 44:=by kernel_rfl!
theorem ao1(P:Params):(Hh P).get? 44=some ⟨.type "code",none,.fields (b8 P 44),#[]⟩:=by kernel_rfl!
theorem as1(P:Params):(b8 P 44)[1]?=some (.str (ah P 45).qualname (iZ ((b8 P 44)[1]?))):=by kernel_rfl!
theorem aq1(P:Params):(b8 P 44)[2]?=some (.str jC (iZ ((b8 P 44)[2]?))):=by kernel_rfl!
theorem cm1(P:Params):(ah P 45).body=.stmts (ax (mtS 1))/\(ah P 45).scope=af (mtS 1)/\(ah P 45).globals=mainGlobals/\(ah P 45).builtins=builtinsNs/\(ah P 45).scope.isCoroutine=false/\(ah P 45).scope.isGenerator=false:=⟨by kernel_rfl!,by kernel_rfl!,by kernel_rfl!,by kernel_rfl!,by kernel_rfl!,by kernel_rfl!⟩
theorem a41(P:Params)(a b c:Value):bindArgs (ah P 45) ⟨[a,b,c],[]⟩=pure (jW.zip [a,b,c]):=by kernel_rfl!
theorem d21(P:Params)(cvs:List Value)(h:cvs.length=jW.length):bindArgs (ah P 45) ⟨cvs,[]⟩=pure (jW.zip cvs):=by
 exact l3_ (P:=fun l=>bindArgs _ ⟨l,[]⟩=pure (_root_.List.zip _ l)) (a41 P) cvs h
theorem aO1(P:Params):kN (ah P 45).scope=true/\k9 (ah P 45).scope jW=true:=⟨by kernel_rfl!,by kernel_rfl!⟩
theorem es1{w:World}{s:Shared}(hk:Kp w s):DefM (GG w s) 45 (ah w.params 45) (ax (mtS 1)) ⟨rY,af (mtS 1)⟩ jW :=
 have q:=cm1 w.params
 have z:=aO1 w.params
 ⟨⟨_,hk _ _ (dG1 _),rfl,rfl⟩,nofun,aB hk,nofun,⟨44,_,_,_,jC,_,dc1 _,nofun,hk _ _ (ao1 _),rfl,as1 _,aq1 _,jB⟩,q.1,q.2.1,q.2.2.1,q.2.2.2.1,q.2.2.2.2.1,q.2.2.2.2.2,
  gf z.1,gv z.2,dP1⟩
noncomputable def gY:List Var:=[⟨"self",0,true⟩,⟨"i",1,true⟩,⟨"popped",2,true⟩]
noncomputable def bA:List Str:=["self","i"]
theorem ta:dC ⟨gY,af (mtS 2)⟩ bA=true:=by kernel_rfl!
theorem s6(P:Params):(Hh P).get? 53=some ⟨.type "function",none,.func (ah P 53),#[]⟩:=by kernel_rfl!
theorem sK(P:Params):(ah P 53).code=.ref 52:=by kernel_rfl!
theorem pK(P:Params):(Hh P).get? 52=some ⟨.type "code",none,.fields (b8 P 52),#[]⟩:=by kernel_rfl!
theorem pQ(P:Params):(b8 P 52)[1]?=some (.str (ah P 53).qualname (iZ ((b8 P 52)[1]?))):=by kernel_rfl!
theorem pP(P:Params):(b8 P 52)[2]?=some (.str jC (iZ ((b8 P 52)[2]?))):=by kernel_rfl!
theorem sf(P:Params):(ah P 53).body=.stmts (ax (mtS 2))/\(ah P 53).scope=af (mtS 2)/\(ah P 53).globals=mainGlobals/\(ah P 53).builtins=builtinsNs/\(ah P 53).scope.isCoroutine=false/\(ah P 53).scope.isGenerator=false:=⟨by kernel_rfl!,by kernel_rfl!,by kernel_rfl!,by kernel_rfl!,by kernel_rfl!,by kernel_rfl!⟩
noncomputable def bp(P:Params):Addr:=match (ah P 53).defaults with | .ref a=>a | _=>0
noncomputable def pn(P:Params):Array Value:=match (Hh P).get? (bp P) with | some ⟨_,_,.seq xs _,_⟩=>xs | _=>#[]
noncomputable def pm(P:Params):Nat:=match (Hh P).get? (bp P) with | some ⟨_,_,.seq _ n,_⟩=>n | _=>0
noncomputable def jh(P:Params):Tok:=iZ (pn P)[0]?
noncomputable def bL(P:Params):Obj:=⟨.type "tuple",none,.seq #[.int 0 (jh P)] (pm P),#[]⟩
theorem jk(P:Params):(Hh P).get? (bp P)=some (bL P):=by kernel_rfl!
theorem kP(P:Params)(args:List Value):rj (bindArgs (ah P 53) ⟨args,[]⟩)=some (bp P):=by kernel_rfl!
theorem pH(P:Params)(a b:Value):b41 (bindArgs (ah P 53) ⟨[a,b],[]⟩) (bL P)=pure (bA.zip [a,b]):=by kernel_rfl!
theorem pI(P:Params):∃ t,∀ a:Value,b41 (bindArgs (ah P 53) ⟨[a],[]⟩) (bL P)=pure (bA.zip ([a]++[.int 0 t])):=⟨jh P,fun a=>by kernel_rfl!⟩
theorem tm{w:World}{s₀:Shared}(hk:Kp w s₀)(s:Shared)(cvs:List Value)(h:∀ b o,b ∉ (GG w s₀).loose->(GG w s₀).s₀.heap.get? b=some o->s.heap.get? b=some o)(hl:cvs.length=2):BindsTo s (ah w.params 53) ⟨cvs,[]⟩ (bA.zip cvs):=by
 have h1:=kP w.params
 have h2:=pH w.params
 have h3:s.heap.get? (bp w.params)=some (bL w.params):=h _ _ List.not_mem_nil (hk _ _ (jk w.params))
 generalize ah w.params 53=fd at h1 h2 ⊢
 generalize bp w.params=T at h1 h3
 generalize bL w.params=o at h2 h3
 exact l2_ (P:=fun cvs=>BindsTo s fd ⟨cvs,[]⟩ (bA.zip cvs)) (fun a b=>mB (h1 [a,b]) h3 (h2 a b)) cvs hl
theorem qo{w:World}{s₀:Shared}(hk:Kp w s₀):∃ t,∀ (s:Shared) (cvs:List Value),(∀ b o,b ∉ (GG w s₀).loose->(GG w s₀).s₀.heap.get? b=some o->s.heap.get? b=some o)->cvs.length=1->BindsTo s (ah w.params 53) ⟨cvs,[]⟩ (bA.zip (cvs++[.int 0 t])):=by
 refine a7 (pI w.params) fun t h2'=>?_
 refine ⟨t,fun s cvs h hl=>?_⟩
 have h1:=kP w.params
 have h2:=h2'
 have h3:s.heap.get? (bp w.params)=some (bL w.params):=h _ _ List.not_mem_nil (hk _ _ (jk w.params))
 generalize ah w.params 53=fd at h1 h2 ⊢
 generalize bp w.params=T at h1 h3
 generalize bL w.params=o at h2 h3
 exact l1_ (P:=fun cvs=>BindsTo s fd ⟨cvs,[]⟩ (bA.zip (cvs++[.int 0 t]))) (fun a=>mB (h1 [a]) h3 (h2 a)) cvs hl
theorem p9(P:Params):kN (ah P 53).scope=true/\k9 (ah P 53).scope bA=true:=⟨by kernel_rfl!,by kernel_rfl!⟩
theorem tC{w:World}{s:Shared}(hk:Kp w s):DefM (GG w s) 53 (ah w.params 53) (ax (mtS 2)) ⟨gY,af (mtS 2)⟩ bA :=
 have q:=sf w.params
 have z:=p9 w.params
 ⟨⟨_,hk _ _ (s6 _),rfl,rfl⟩,nofun,aB hk,nofun,⟨52,_,_,_,jC,_,sK _,nofun,hk _ _ (pK _),rfl,pQ _,pP _,jB⟩,q.1,q.2.1,q.2.2.1,q.2.2.2.1,q.2.2.2.2.1,q.2.2.2.2.2,
  gf z.1,gv z.2,ta⟩
noncomputable def qz:List Var:=[⟨"self",0,true⟩]
noncomputable def qB:List Str:=["self"]
theorem gu1:dC ⟨qz,af (mtS 3)⟩ qB=true:=by kernel_rfl!
theorem gj1(P:Params):(Hh P).get? 61=some ⟨.type "function",none,.func (ah P 61),#[]⟩:=by kernel_rfl!
theorem f41(P:Params):(ah P 61).code=.ref 60:=by kernel_rfl!
theorem da1(P:Params):(Hh P).get? 60=some ⟨.type "code",none,.fields (b8 P 60),#[]⟩:=by kernel_rfl!
theorem df1(P:Params):(b8 P 60)[1]?=some (.str (ah P 61).qualname (iZ ((b8 P 60)[1]?))):=by kernel_rfl!
theorem de1(P:Params):(b8 P 60)[2]?=some (.str jC (iZ ((b8 P 60)[2]?))):=by kernel_rfl!
theorem fE1(P:Params):(ah P 61).body=.stmts (ax (mtS 3))/\(ah P 61).scope=af (mtS 3)/\(ah P 61).globals=mainGlobals/\(ah P 61).builtins=builtinsNs/\(ah P 61).scope.isCoroutine=false/\(ah P 61).scope.isGenerator=false:=⟨by kernel_rfl!,by kernel_rfl!,by kernel_rfl!,by kernel_rfl!,by kernel_rfl!,by kernel_rfl!⟩
theorem d51(P:Params)(a:Value):bindArgs (ah P 61) ⟨[a],[]⟩=pure (qB.zip [a]):=by kernel_rfl!
theorem gE1(P:Params)(cvs:List Value)(h:cvs.length=qB.length):bindArgs (ah P 61) ⟨cvs,[]⟩=pure (qB.zip cvs):=by
 exact l1_ (P:=fun l=>bindArgs _ ⟨l,[]⟩=pure (_root_.List.zip _ l)) (d51 P) cvs h
theorem dS1(P:Params):kN (ah P 61).scope=true/\k9 (ah P 61).scope qB=true:=⟨by kernel_rfl!,by kernel_rfl!⟩
theorem gP1{w:World}{s:Shared}(hk:Kp w s):DefM (GG w s) 61 (ah w.params 61) (ax (mtS 3)) ⟨qz,af (mtS 3)⟩ qB :=
 have q:=fE1 w.params
 have z:=dS1 w.params
 ⟨⟨_,hk _ _ (gj1 _),rfl,rfl⟩,nofun,aB hk,nofun,⟨60,_,_,_,jC,_,f41 _,nofun,hk _ _ (da1 _),rfl,df1 _,de1 _,jB⟩,q.1,q.2.1,q.2.2.1,q.2.2.2.1,q.2.2.2.2.1,q.2.2.2.2.2,
  gf z.1,gv z.2,gu1⟩
theorem dX1(P:Params):(ah P 61).closure.lookup ("__class__":Str)=some 25:=by kernel_rfl!
theorem cM1(P:Params):(((ah P 61).params.posonlyargs++(ah P 61).params.args).head?.map (·.arg))=some ("self":Str):=by kernel_rfl!
theorem yQ:(⟨qz,af (mtS 3)⟩:Cx).kind "super"=some .globalImplicit/\(⟨qz,af (mtS 3)⟩:Cx).kind "__class__"=some .free:=⟨by kernel_rfl!,by kernel_rfl!⟩
theorem gK1{w:World}{s:Shared}(hk:Kp w s):SupD (GG w s) (ah w.params 61) ⟨qz,af (mtS 3)⟩ ⟨"self",0,true⟩ :=
 ⟨List.mem_cons_self,(Option.map_eq_some_iff.mp (cM1 w.params)),⟨25,dX1 _,nofun,⟨_,hk _ _ (qi _),rfl⟩⟩,yQ.1,yQ.2⟩
noncomputable def bO:List Var:=[⟨"self",0,true⟩]
noncomputable def bu:List Str:=["self"]
theorem n9:dC ⟨bO,af (mtS 8)⟩ bu=true:=by kernel_rfl!
theorem nZ(P:Params):(Hh P).get? 98=some ⟨.type "function",none,.func (ah P 98),#[]⟩:=by kernel_rfl!
theorem nO(P:Params):(ah P 98).code=.ref 97:=by kernel_rfl!
theorem lZ(P:Params):(Hh P).get? 97=some ⟨.type "code",none,.fields (b8 P 97),#[]⟩:=by kernel_rfl!
theorem l5(P:Params):(b8 P 97)[1]?=some (.str (ah P 98).qualname (iZ ((b8 P 97)[1]?))):=by kernel_rfl!
theorem l4(P:Params):(b8 P 97)[2]?=some (.str jC (iZ ((b8 P 97)[2]?))):=by kernel_rfl!
theorem ni(P:Params):(ah P 98).body=.stmts (ax (mtS 8))/\(ah P 98).scope=af (mtS 8)/\(ah P 98).globals=mainGlobals/\(ah P 98).builtins=builtinsNs/\(ah P 98).scope.isCoroutine=false/\(ah P 98).scope.isGenerator=false:=⟨by kernel_rfl!,by kernel_rfl!,by kernel_rfl!,by kernel_rfl!,by kernel_rfl!,by kernel_rfl!⟩
theorem mE(P:Params)(a:Value):bindArgs (ah P 98) ⟨[a],[]⟩=pure (bu.zip [a]):=by kernel_rfl!
theorem oy(P:Params)(cvs:List Value)(h:cvs.length=bu.length):bindArgs (ah P 98) ⟨cvs,[]⟩=pure (bu.zip cvs):=by
 exact l1_ (P:=fun l=>bindArgs _ ⟨l,[]⟩=pure (_root_.List.zip _ l)) (mE P) cvs h
theorem mr(P:Params):kN (ah P 98).scope=true/\k9 (ah P 98).scope bu=true:=⟨by kernel_rfl!,by kernel_rfl!⟩
theorem oQ{w:World}{s:Shared}(hk:Kp w s):DefM (GG w s) 98 (ah w.params 98) (ax (mtS 8)) ⟨bO,af (mtS 8)⟩ bu :=
 have q:=ni w.params
 have z:=mr w.params
 ⟨⟨_,hk _ _ (nZ _),rfl,rfl⟩,nofun,aB hk,nofun,⟨97,_,_,_,jC,_,nO _,nofun,hk _ _ (lZ _),rfl,l5 _,l4 _,jB⟩,q.1,q.2.1,q.2.2.1,q.2.2.2.1,q.2.2.2.2.1,q.2.2.2.2.2,
  gf z.1,gv z.2,n9⟩
theorem mv(P:Params):(ah P 98).closure.lookup ("__class__":Str)=some 25:=by kernel_rfl!
theorem lN(P:Params):(((ah P 98).params.posonlyargs++(ah P 98).params.args).head?.map (·.arg))=some ("self":Str):=by kernel_rfl!
theorem gi:(⟨bO,af (mtS 8)⟩:Cx).kind "super"=some .globalImplicit/\(⟨bO,af (mtS 8)⟩:Cx).kind "__class__"=some .free:=⟨by kernel_rfl!,by kernel_rfl!⟩
theorem oO{w:World}{s:Shared}(hk:Kp w s):SupD (GG w s) (ah w.params 98) ⟨bO,af (mtS 8)⟩ ⟨"self",0,true⟩ :=
 ⟨List.mem_cons_self,(Option.map_eq_some_iff.mp (lN w.params)),⟨25,mv _,nofun,⟨_,hk _ _ (qi _),rfl⟩⟩,gi.1,gi.2⟩
noncomputable def iA(P:Params):ClassData:=match (Hh P).get? 101 with | some ⟨_,_,.cls c,_⟩=>c | _=>default
noncomputable def te(P:Params):Array (Option Value):=match (Hh P).get? 101 with | some o=>o.slots | _=>#[]
noncomputable def v5(P:Params):Option Addr:=match (Hh P).get? 101 with | some o=>o.dict | _=>none
theorem qe(P:Params):(Hh P).get? 101=some ⟨.type "type",v5 P,.cls (iA P),te P⟩:=by kernel_rfl!
theorem dW1(P:Params):(Hh P).isNs (iA P).ns=true:=by kernel_rfl!
noncomputable def mm(P:Params):Str->Option Value:=(Hh P).nsMap (iA P).ns
theorem aX1(P:Params):(iA P).mro=[.ref 101,.type "list",.type "object"]/\(iA P).hasDict=true/\(iA P).abstract=false/\(iA P).hasDel=false/\((te P).toList[4]?).join=some (.builtin "list.__new__")/\(iA P).qualname=("_Accumulator":Str):=⟨by kernel_rfl!,by kernel_rfl!,by kernel_rfl!,by kernel_rfl!,by kernel_rfl!,by kernel_rfl!⟩
theorem fP(P:Params):mm P "__setattr__"=none/\mm P "_initial_size"=none/\mm P "__getattribute__"=none/\mm P "__getattr__"=none/\mm P "append"=none/\mm P "__getitem__"=none/\mm P "__setitem__"=none:=⟨by kernel_rfl!,by kernel_rfl!,by kernel_rfl!,by kernel_rfl!,by kernel_rfl!,by kernel_rfl!,by kernel_rfl!⟩
theorem uf(P:Params):(Hh P).nsMap mainGlobals "super"=none/\(Hh P).nsMap builtinsNs "super"=some (.type "super"):=⟨by kernel_rfl!,by kernel_rfl!⟩
theorem ue:(prg.main.scope.names.lookup ("super":Str)).isSome=false:=by kernel_rfl!
theorem eg1{w:World}{s:Shared}(hk:Kp w s):Acc (GG w s) (mm w.params) :=
 ⟨⟨_,_,hk _ _ (qe _),rfl,(aX1 _).1,nofun,(Heap.Ns.of_isNs (dW1 w.params)).keeps hk⟩,nofun⟩
theorem ee1{w:World}{s:Shared}(hk:Kp w s):∀ o cd,s.heap.get? 101=some o->o.data=.cls cd->cd.qualname=("_Accumulator":Str):=fun o cd h1 h2=>by
 have h3:s.heap.get? 101=some ⟨.type "type",v5 w.params,.cls (iA w.params),te w.params⟩:=hk _ _ (qe w.params)
 have q6:=(aX1 w.params).2.2.2.2.2
 generalize v5 w.params=x1 at h3
 generalize te w.params=x2 at h3
 generalize iA w.params=x3 at h3 q6
 rw [h3] at h1
 cases h1;cases h2
 exact q6
theorem ef1{w:World}{s:Shared}(hk:Kp w s):∃ cd od sl,s.heap.get? 101=some ⟨.type "type",od,.cls cd,sl⟩/\cd.mro=[.ref 101,.type "list",.type "object"]/\cd.hasDict=true/\cd.abstract=false/\cd.hasDel=false/\(sl.toList[4]?).join=some (.builtin "list.__new__"):=by
 have q:=aX1 w.params
 have h3:s.heap.get? 101=some ⟨.type "type",v5 w.params,.cls (iA w.params),te w.params⟩:=hk _ _ (qe w.params)
 generalize v5 w.params=x1 at h3
 generalize te w.params=x2 at h3 q
 generalize iA w.params=x3 at h3 q
 exact ⟨x3,x1,x2,h3,q.1,q.2.1,q.2.2.1,q.2.2.2.1,q.2.2.2.2.1⟩
theorem bc1{w:World}{s:Shared}(hk:Kp w s):AccX (GG w s) (mm w.params) :=
 ⟨eg1 hk,ef1 hk,(fP w.params).1,(fP w.params).2.1,ee1 hk⟩
theorem bQ1{w:World}{s:Shared}(hk:Kp w s):Sup (GG w s):=⟨yW hk (uf w.params).1 (uf w.params).2,o7 hk,nofun,ue⟩
theorem ad1(P:Params):mm P "__init__"=some (.ref 38):=by kernel_rfl!
theorem ac1(P:Params):mm P "push"=some (.ref 45):=by kernel_rfl!
theorem pq(P:Params):mm P "pop_from"=some (.ref 53):=by kernel_rfl!
theorem c11(P:Params):mm P "pop"=some (.ref 61):=by kernel_rfl!
theorem lU(P:Params):mm P "part_count"=some (.ref 98):=by kernel_rfl!
theorem cO1:xN ⟨lg,af (mtS 0)⟩ (ax (mtS 0)):=Exists.intro (fun i=>([⟨9,8,9,12⟩,⟨9,8,9,26⟩,⟨9,29,9,41⟩,⟨9,8,9,41⟩,⟨10,8,10,13⟩,⟨10,8,10,15⟩,⟨10,8,10,24⟩,⟨10,8,10,26⟩,⟨10,8,10,26⟩]:List Pos).getD i default) ⟨by kernel_rfl!,by kernel_rfl!⟩
theorem cN1:xm ⟨rY,af (mtS 1)⟩ (ax (mtS 1)):=Exists.intro (fun i=>([⟨13,8,13,12⟩,⟨13,8,13,19⟩,⟨13,21,13,24⟩,⟨13,26,13,32⟩,⟨13,20,13,33⟩,⟨13,8,13,34⟩,⟨13,8,13,34⟩]:List Pos).getD i default) ⟨by kernel_rfl!,by kernel_rfl!⟩
theorem sq:fh ⟨gY,af (mtS 2)⟩ (ax (mtS 2)):=Exists.intro (fun i=>([⟨16,8,16,14⟩,⟨16,17,16,21⟩,⟨16,22,16,23⟩,⟨16,22,16,24⟩,⟨16,17,16,25⟩,⟨16,8,16,25⟩,⟨17,8,17,12⟩,⟨17,13,17,14⟩,⟨17,13,17,15⟩,⟨17,8,17,16⟩,⟨17,19,17,21⟩,⟨17,8,17,21⟩,⟨18,15,18,21⟩,⟨18,8,18,21⟩]:List Pos).getD i default) ⟨by kernel_rfl!,by kernel_rfl!⟩
theorem fQ1:eC1 ⟨qz,af (mtS 3)⟩ (ax (mtS 3)):=Exists.intro (fun i=>([⟨21,11,21,15⟩,⟨21,11,21,26⟩,⟨21,11,21,28⟩,⟨21,32,21,33⟩,⟨21,11,21,33⟩,⟨22,20,22,22⟩,⟨22,24,22,26⟩,⟨22,19,22,27⟩,⟨22,12,22,27⟩,⟨21,8,22,27⟩,⟨23,15,23,20⟩,⟨23,15,23,22⟩,⟨23,15,23,26⟩,⟨23,15,23,28⟩,⟨23,8,23,28⟩]:List Pos).getD i default) ⟨by kernel_rfl!,by kernel_rfl!⟩
theorem nC:jc "__len__" (ax (mtS 8)):=Exists.intro (fun i=>([⟨38,15,38,20⟩,⟨38,15,38,22⟩,⟨38,15,38,30⟩,⟨38,15,38,32⟩,⟨38,8,38,32⟩]:List Pos).getD i default) ⟨by kernel_rfl!,by kernel_rfl!⟩
theorem z9{w:World}{s₀:Shared}(hk:Kp w s₀):∃ a fd body C ns,mm w.params "push"=some (.ref a)/\DefM (GG w s₀) a fd body C ns/\xm C body/\ns.length=3/\∀ cvs:List Value,cvs.length=3->bindArgs fd ⟨cvs,[]⟩=pure (ns.zip cvs) :=
 ⟨45,ah w.params 45,ax (mtS 1),⟨rY,af (mtS 1)⟩,jW,ac1 w.params,es1 hk,cN1,rfl,d21 w.params⟩
theorem sA{w:World}{s₀:Shared}(hk:Kp w s₀):∃ a fd body C ns,mm w.params "pop_from"=some (.ref a)/\DefM (GG w s₀) a fd body C ns/\fh C body/\ns.length=2/\(∀ (s:Shared) (cvs:List Value),(∀ b o,b ∉ (GG w s₀).loose->(GG w s₀).s₀.heap.get? b=some o->s.heap.get? b=some o)->cvs.length=2->BindsTo s fd ⟨cvs,[]⟩ (ns.zip cvs)) /\
  ∃ t,∀ (s:Shared) (cvs:List Value),(∀ b o,b ∉ (GG w s₀).loose->(GG w s₀).s₀.heap.get? b=some o->s.heap.get? b=some o)->cvs.length=1->BindsTo s fd ⟨cvs,[]⟩ (ns.zip (cvs++[.int 0 t])) :=
 by
 have h1:=@tm w s₀ hk
 have h2:=@qo w s₀ hk
 have h3:=@tC w s₀ hk
 have h4:=pq w.params
 generalize ah w.params 53=fd at h1 h2 h3
 exact ⟨_,fd,_,_,_,h4,h3,sq,rfl,h1,h2⟩
theorem aa1{w:World}{s₀:Shared}(hk:Kp w s₀):∃ a fd body C ns x,mm w.params "part_count"=some (.ref a)/\DefM (GG w s₀) a fd body C ns/\SupD (GG w s₀) fd C x/\x.slot=0/\jc "__len__" body/\ns.length=1/\∀ cvs:List Value,cvs.length=1->bindArgs fd ⟨cvs,[]⟩=pure (ns.zip cvs) :=
 ⟨98,ah w.params 98,ax (mtS 8),⟨bO,af (mtS 8)⟩,bu,⟨"self",0,true⟩,lU w.params,oQ hk,oO hk,rfl,nC,rfl,oy w.params⟩
theorem c01{w:World}{s₀:Shared}(hk:Kp w s₀):∃ a fd body C ns x,mm w.params "pop"=some (.ref a)/\DefM (GG w s₀) a fd body C ns/\SupD (GG w s₀) fd C x/\x.slot=0/\eC1 C body/\ns.length=1/\∀ cvs:List Value,cvs.length=1->bindArgs fd ⟨cvs,[]⟩=pure (ns.zip cvs) :=
 ⟨61,ah w.params 61,ax (mtS 3),⟨qz,af (mtS 3)⟩,qB,⟨"self",0,true⟩,c11 w.params,gP1 hk,gK1 hk,rfl,fQ1,rfl,gE1 w.params⟩
theorem ab1{w:World}{s₀:Shared}(hk:Kp w s₀):∃ a fd body C ns x,mm w.params "__init__"=some (.ref a)/\DefM (GG w s₀) a fd body C ns/\SupD (GG w s₀) fd C x/\x.slot=0/\xN C body/\ns.length=2/\∀ (s:Shared) (cvs:List Value),(∀ b o,b ∉ (GG w s₀).loose->(GG w s₀).s₀.heap.get? b=some o->s.heap.get? b=some o)->cvs.length=2->BindsTo s fd ⟨cvs,[]⟩ (ns.zip cvs) :=
 by
 have h1:=@d31 w s₀ hk
 have h3:=@et1 w s₀ hk
 have h4:=ad1 w.params
 have h5:=@el1 w s₀ hk
 generalize ah w.params 38=fd at h1 h3 h5
 exact ⟨_,fd,_,_,_,_,h4,h3,h5,rfl,cO1,rfl,h1⟩
theorem iM{w:World}{s₀:Shared}(hk:Kp w s₀):MethsOk (GG w s₀) (mm w.params) :=
 ⟨bc1 hk,bQ1 hk,(fP w.params).2.2.1,(fP w.params).2.2.2.1,(fP w.params).2.2.2.2.1,(fP w.params).2.2.2.2.2.1,(fP w.params).2.2.2.2.2.2,z9 hk,sA hk,aa1 hk,c01 hk,ab1 hk⟩
noncomputable def iq:Value->Int | .int i _=>i | _=>0
noncomputable def kS:Value->Bool | .int _ _=>true | _=>false
noncomputable def zr:Value->List Nat | .str x _=>x.cps.toList | _=>[]
noncomputable def vm:Value->Bool | .str _ _=>true | _=>false
theorem u4{prog:Program}{w:World}{h:Heap}{a:Addr}{n:Nat}{es:Array DictEntry}(hg:h.get? a=some ⟨.type "dict",none,.dict es n,#[]⟩)(hk:es.toList.all (fun e=>match e.key with | .int i _=>e.hash == hashInt i | _=>false)=true) :
  h.MapOf (intKind prog w) a (findBy Value.isInt es) :=
 by
 refine kA1 _ es n hg ⟨rfl,rfl,rfl⟩ rfl (fun e he=>?_) (fun k=>rfl)
 have:=List.all_eq_true.mp hk e (Array.mem_toList_iff.mpr he)
 split at this
 ·rename_i i t hke
  exact ⟨i,by rw [hke];show Value.isInt i (.int i t)=true;simp [Value.isInt],beq_iff_eq.mp this⟩
 ·exact ftr this
theorem iN{v:Value}(h:kS v=true)(k:Int):Value.isInt k v=decide (iq v=k):=by
 cases v with
 | int i t =>
  show _=decide (i=k)
  simp only [Value.isInt]
  by_cases q:i=k <;> simp [q]
 | _=>exact ftr h
theorem s5(es:Array DictEntry)(l:List (Int × List Nat))(hk:es.toList.all (fun e=>kS e.key && vm e.val)=true)(hm:es.toList.map (fun e=>(iq e.key,zr e.val))=l)(k:Int) :
  match l.lookup k with | some x=>∃ t,findBy Value.isInt es k=some (.str ⟨x.toArray⟩ t) | none=>findBy Value.isInt es k=none:=by
 obtain ⟨es⟩:=es
 subst hm
 simp only [findBy,List.find?_toArray]
 replace hk:es.all (fun e=>kS e.key && vm e.val)=true:=hk
 show match (es.map (fun e=>(iq e.key,zr e.val))).lookup k with | some x=>∃ t,(es.find? fun e=>Value.isInt k e.key).map (·.val)=some (.str ⟨x.toArray⟩ t) | none=>(es.find? fun e=>Value.isInt k e.key).map (·.val)=none
 induction es with
 | nil=>rfl
 | cons e es ih =>
  rw [List.all_cons,Bool.and_eq_true] at hk
  obtain ⟨h1,h2⟩:=hk
  rw [Bool.and_eq_true] at h1
  rw [List.map_cons,List.lookup_cons,List.find?_cons,iN h1.1]
  by_cases q:iq e.key=k
  ·have q':(k == iq e.key)=true:=by simp [q]
   rw [q']
   simp only [q,decide_true,Option.map_some]
   have:=h1.2
   cases hv:e.val <;> rw [hv] at this <;> first | (exact ftr this;done) | skip
   rename_i x t
   exact ⟨t,rfl⟩
  ·have q':(k == iq e.key)=false:=by simp;exact fun h=>q h.symm
   rw [q']
   simp only [q,decide_false]
   exact ih h2
theorem uw{prog:Program}{w:World}{h:Heap}{a:Addr}{n:Nat}{es:Array (Int × Value)}{t:SetTable}(l:List Int)(hg:h.get? a=some ⟨.type "set",none,.set es n t,#[]⟩)(hk:es.toList.all (fun e=>kS e.2 && (e.1 == hashInt (iq e.2)) && e.2.scannable)=true)(hm:es.toList.map (fun e=>iq e.2)=l)
  (hs:es.size < scanBound) (hf:t.fits es.size=true):h.SetOf (intKind prog w) a (fun i=>l.contains i) es.size:=by
 refine kv1 _ es n t hg ⟨rfl,rfl,rfl⟩ rfl (fun e he=>?_) (fun k=>?_) hs hf rfl
 ·have:=List.all_eq_true.mp hk e he
  simp only [Bool.and_eq_true,beq_iff_eq] at this
  obtain ⟨⟨h1,h2⟩,h3⟩:=this
  refine ⟨⟨iq e.2,?_,h2⟩,h3⟩
  show Value.isInt _ _=true
  rw [iN h1];simp
 ·subst hm
  rw [List.contains_iff_mem,List.mem_map]
  constructor
  ·rintro ⟨e,he,rfl⟩
   refine ⟨e,he,?_⟩
   have:=List.all_eq_true.mp hk e he
   simp only [Bool.and_eq_true] at this
   show Value.isInt _ _=true
   rw [iN this.1.1];simp
  ·rintro ⟨e,he,hi⟩
   have:=List.all_eq_true.mp hk e he
   simp only [Bool.and_eq_true] at this
   have hi':Value.isInt k e.2=true:=hi
   rw [iN this.1.1] at hi'
   exact ⟨e,he,by simpa using hi'⟩
noncomputable def b3N:List (Nat × List Nat):=b3.map fun x=>(x.1.toNat,x.2.cps.toList)
noncomputable def b1Z:List Int:=[65024,65025,65026,65027,65028,65029,6150,65030,65031,65032,65033,6155,6156,6157,8203,8204,8205,65034,65035,65036,65037,65038,65039,173,847,8288,65279]
noncomputable def sE(P:Params):Array (Int × Value):=match (Hh P).get? 152 with | some ⟨_,_,.set es _ _,_⟩=>es | _=>#[]
noncomputable def sT(P:Params):SetTable:=match (Hh P).get? 152 with | some ⟨_,_,.set _ _ t,_⟩=>t | _=>default
noncomputable def sN(P:Params):Nat:=match (Hh P).get? 152 with | some ⟨_,_,.set _ n _,_⟩=>n | _=>0
theorem fH1(P:Params):(Hh P).get? 152=some ⟨.type "set",none,.set (sE P) (sN P) (sT P),#[]⟩:=by kernel_rfl!
theorem fJ1(P:Params):(sE P).toList.all (fun e=>kS e.2 && (e.1 == hashInt (iq e.2)) && e.2.scannable)=true:=by kernel_rfl!
theorem cl1(P:Params):(sE P).size=27:=by kernel_rfl!
theorem fI1(P:Params):(sT P).fits 27=true:=by kernel_rfl!
theorem fF1(P:Params):(sE P).toList.map (fun e=>iq e.2)=b1Z:=by kernel_rfl!
noncomputable def dE(P:Params):Array DictEntry:=match (Hh P).get? 163 with | some ⟨_,_,.dict es _,_⟩=>es | _=>#[]
noncomputable def dNx(P:Params):Nat:=match (Hh P).get? 163 with | some ⟨_,_,.dict _ n,_⟩=>n | _=>0
theorem gx1(P:Params):(Hh P).get? 163=some ⟨.type "dict",none,.dict (dE P) (dNx P),#[]⟩:=by kernel_rfl!
theorem gy1(P:Params):(dE P).toList.all (fun e=>match e.key with | .int i _=>e.hash == hashInt i | _=>false)=true:=by kernel_rfl!
theorem dR1(P:Params):(dE P).toList.all (fun e=>kS e.key && vm e.val)=true:=by kernel_rfl!
theorem gv1(P:Params):(dE P).toList.map (fun e=>(iq e.key,zr e.val))=b3N.map (fun x=>((x.1:Int),x.2)):=by kernel_rfl!
set_option maxHeartbeats 100000
noncomputable def gB3(c:Nat):Option (List Nat):=b3N.lookup c
noncomputable def sB1(i:Int):Bool:=b1Z.contains i
noncomputable def gZ1:List (Option En):=[some (.prim cR1),some iF,some tB,some (.prim (pB1 sB1)),some (.prim (pB3 gB3)),some qC,some qD,some jX,some mN,some qE,none,
 some (.prim sr),some (.prim d8),some (.prim bn1)]
noncomputable def wQ:Nat->Option En:=fun f=>gZ1.getD f none
theorem jo(c:Nat):∀ l:List (Nat × List Nat),(l.map (fun x=>((x.1:Int),x.2))).lookup (c:Int)=l.lookup c
 | []=>rfl
 | (k,v)::l=>by
  rw [List.map_cons,List.lookup_cons,List.lookup_cons,jo c l]
  by_cases h:c=k
  ·subst h;simp
  ·have h1:((c:Int) == (k:Int))=false:=by simp;lia
   have h2:(c == k)=false:=by simp;exact h
   rw [h1,h2]
theorem wb:b3N.all (fun x=>decide (x.2.length<=lim))=true:=by decide +kernel
theorem kO{c:Nat}{v:List Nat}:∀ {l:List (Nat × List Nat)},l.lookup c=some v->(c,v)∈l
 | [],h=>by exact nso h
 | (k,u)::l,h=>by
  rw [List.lookup_cons] at h
  by_cases q:c=k
  ·subst q;simp at h;subst h;exact List.mem_cons_self
  ·have:(c == k)=false:=by simp;exact q
   rw [this] at h
   exact List.mem_cons_of_mem _ (kO h)
theorem dw1(P:Params)(c:Nat):match gB3 c with | some l=>l.length<=lim/\∃ t,findBy Value.isInt (dE P) c=some (.str ⟨l.toArray⟩ t) | none=>findBy Value.isInt (dE P) c=none:=by
 have h:=s5 (dE P) _ (dR1 P) (gv1 P) c
 rw [jo c b3N] at h
 unfold gB3
 cases q:b3N.lookup c with
 | none=>rw [q] at h;exact h
 | some l =>
  rw [q] at h
  exact ⟨of_decide_eq_true (List.all_eq_true.mp wb _ (kO q)),h⟩
noncomputable def glN:List (Str × Value):=[("_Accumulator",.ref 101),("_ellipsis_match",.ref 112),("parse257",.ref 144),("in_table_b1",.ref 162),("map_table_b3",.ref 208),("_law_typed",.ref 215),("_law_heard",.ref 220),("_law_exchanged",.ref 225),("_law_swapped",.ref 232),("_law_falls",.ref 239),("b1_set",.ref 152),("b3_exceptions",.ref 163)]
theorem dv1(P:Params):(glN.map fun x=>(Hh P).nsMap mainGlobals x.1)=glN.map fun x=>some x.2:=by kernel_rfl!
theorem pw(F:Str->Option Value)(g:Str × Value->Option Value):∀ (l:List (Str × Value)),l.map (fun x=>F x.1)=l.map g->∀ x∈l,F x.1=g x:=fun l h=>by
 rw [List.map_inj_left] at h
 exact h
theorem ir{w:World}{s:Shared}(hk:Kp w s)(i:Nat){x:Str}{f:Value}(h:glN[i]?=some (x,f)):Gl (GG w s) x f :=
 du1 (w:=w) (s:=s) hk (pw ((Hh w.params).nsMap mainGlobals) (fun x=>some x.2) glN (dv1 w.params) (x,f) (List.mem_of_getElem? h))
noncomputable def glB:List (Str × Value):=[("len",.builtin "len"),("chr",.builtin "chr"),("ord",.builtin "ord"),("abs",.builtin "abs"),("sum",.builtin "sum"),("max",.builtin "max"),("min",.builtin "min"),("range",.type "range"),("list",.type "list")]
theorem aA1(P:Params):(glB.map fun x=>(Hh P).nsMap mainGlobals x.1)=glB.map fun x=>none:=by kernel_rfl!
theorem xS(P:Params):(glB.map fun x=>(Hh P).nsMap builtinsNs x.1)=glB.map fun x=>some x.2:=by kernel_rfl!
theorem nX{w:World}{s:Shared}(hk:Kp w s)(i:Nat){x:Str}{f:Value}(h:glB[i]?=some (x,f)):Gl (GG w s) x f :=
 yW (w:=w) (s:=s) hk (pw ((Hh w.params).nsMap mainGlobals) (fun x=>none) glB (aA1 w.params) (x,f) (List.mem_of_getElem? h)) (pw ((Hh w.params).nsMap builtinsNs) (fun x=>some x.2) glB (xS w.params) (x,f) (List.mem_of_getElem? h))
noncomputable def kO1(P:Params):Tok:=iZ ((Hh P).nsMap mainGlobals "ELLIPSIS_MARKER")
theorem gq1(P:Params):∃ t,(Hh P).nsMap mainGlobals "ELLIPSIS_MARKER"=some (.str ⟨[46,46,46].toArray⟩ t):=⟨kO1 P,by kernel_rfl!⟩
theorem iY1:b1M ⟨eq,af (stN 13)⟩ (ax (stN 13)):=Exists.intro (fun i=>([⟨94,11,94,14⟩,⟨94,15,94,19⟩,⟨94,11,94,20⟩,⟨94,24,94,30⟩,⟨94,11,94,30⟩,⟨94,4,94,30⟩]:List Pos).getD i default) ⟨by kernel_rfl!,by kernel_rfl!⟩
theorem iX1:b3M ⟨dG,af (stN 15)⟩ (ax (stN 15)):=Exists.intro (fun i=>([⟨97,4,97,5⟩,⟨97,8,97,21⟩,⟨97,8,97,25⟩,⟨97,26,97,29⟩,⟨97,30,97,34⟩,⟨97,26,97,35⟩,⟨97,8,97,36⟩,⟨97,4,97,36⟩,⟨98,7,98,8⟩,⟨98,16,98,20⟩,⟨98,7,98,20⟩,⟨99,15,99,16⟩,⟨99,8,99,16⟩,⟨98,4,99,16⟩,⟨100,11,100,15⟩,⟨100,11,100,21⟩,⟨100,11,100,23⟩,⟨100,4,100,23⟩]:List Pos).getD i default) ⟨by kernel_rfl!,by kernel_rfl!⟩
theorem bN1:((163:Addr) == sysModules)=false:=by kernel_rfl!
theorem kT{prog:Program}{w:World}(i:Int)(t:Tok):(intKind prog w).is i (.int i t)=true:=by show Value.isInt i (.int i t)=true;simp [Value.isInt]
theorem b21{w:World}{s:Shared}(hk:Kp w s):(GG w s).s₀.heap.SetOf (intKind prg w) 152 sB1 27:=by
 have h1:=fH1 w.params
 have h2:=fJ1 w.params
 have h3:=cl1 w.params
 have h4:=fI1 w.params
 have h5:=fF1 w.params
 have h6:s.heap.get? 152=some ⟨.type "set",none,.set (sE w.params) (sN w.params) (sT w.params),#[]⟩:=hk _ _ h1
 generalize sE w.params=es at h2 h3 h5 h6
 generalize sT w.params=t at h4 h6
 generalize sN w.params=n at h6
 have:=uw (prog:=prg) (w:=w) b1Z h6 h2 h5 (by rw [h3];decide) (by rw [h3];exact h4)
 rw [h3] at this
 exact this
theorem vV{w:World}{s:Shared}(hk:Kp w s):(∀ s':Shared,(∀ o,(GG w s).s₀.heap.get? 163=some o->s'.heap.get? 163=some o)->s'.heap.MapOf (intKind prg w) 163 (findBy Value.isInt (dE w.params)))/\∃ o,(GG w s).s₀.heap.get? 163=some o/\o.cls=.type "dict"/\o.dict=none:=by
 have h1:=gx1 w.params
 have h2:=gy1 w.params
 have h6:s.heap.get? 163=some ⟨.type "dict",none,.dict (dE w.params) (dNx w.params),#[]⟩:=hk _ _ h1
 generalize dE w.params=es at h2 h6
 generalize dNx w.params=n at h6
 exact ⟨fun s' h=>u4 (h _ h6) h2,_,h6,rfl,rfl⟩
set_option maxHeartbeats 200000
theorem az1{w:World}{s:Shared}(hk:Kp w s){x:Str}{l:List Nat}(h:TB3.gs x=some l):l.length<=lim/\∃ t,Gl (GG w s) x (.str ⟨l.toArray⟩ t):=by
 unfold TB3 at h
 dsimp only at h
 split at h
 ·rename_i e
  subst e
  obtain rfl:=siX h
  obtain ⟨t,ht⟩:=gq1 w.params
  exact ⟨show 3<=lim by decide,t,du1 (w:=w) (s:=s) hk ht⟩
 ·exact nso h
theorem fQ{w:World}{s:Shared}{x:Str}{a:Addr}{fd:FuncData}{b:List Stmt}{C:Cx}{ns:List Str}{np more:Nat}{body:Sx}(g:Gl (GG w s) x (.ref a))(D:Def (GG w s) a fd b C ns)(hn:ns.length=np)(hm:mss TB3 body C b=true):er1 (GG w s) TB3 x (.code np more body) :=
 ⟨a,fd,b,C,ns,g,D,hn,hm⟩
theorem gp1{w:World}{s:Shared}(hk:Kp w s):er1 (GG w s) TB3 "in_table_b1" (.prim (pB1 sB1)):=fun n A hr =>
 zB (G:=GG w s) (ir (w:=w) (s:=s) hk 3 rfl) kT (@mP w s hk) iY1 hr (nX (w:=w) (s:=s) hk 2 rfl) (ir (w:=w) (s:=s) hk 10 rfl) (b21 (w:=w) (s:=s) hk) nofun
theorem go1{w:World}{s:Shared}(hk:Kp w s):er1 (GG w s) TB3 "map_table_b3" (.prim (pB3 gB3)):=fun n A hr =>
 zA (G:=GG w s) (ir (w:=w) (s:=s) hk 4 rfl) rfl kT (@ky w s hk) iX1 hr (nX (w:=w) (s:=s) hk 2 rfl) (ir (w:=w) (s:=s) hk 11 rfl) bN1 (vV (w:=w) (s:=s) hk).2 (vV (w:=w) (s:=s) hk).1 nofun (dw1 w.params)
noncomputable def AllP(P:Str->En->Prop):List Str->List (Option En)->Prop
 | [],_=>True
 | _,[]=>True
 | _::ns,none::es=>AllP P ns es
 | n::ns,some e::es=>P n e/\AllP P ns es
theorem AllP.at{P:Str->En->Prop}:∀ {ns:List Str} {es:List (Option En)},AllP P ns es->∀ f x,ns[f]?=some x->∀ e,es.getD f none=some e->P x e
 | [],_,_,_,_,h,_,_=>nso h
 | _::_,[],_,_,_,_,_,h=>nso h
 | _::_,none::_,_,0,_,_,_,h=>nso h
 | _::_,some _::_,h,0,_,h1,_,h2=>siX h1 ▸ siX h2 ▸ h.1
 | _::ns,none::es,h,f + 1,x,h1,e,h2=>AllP.at (ns:=ns) (es:=es) h f x h1 e h2
 | _::ns,some _::es,h,f + 1,x,h1,e,h2=>AllP.at (ns:=ns) (es:=es) h.2 f x h1 e h2
theorem vQ{P:En->Prop}{a:En}(h:P a)(e:En)(he:some a=some e):P e:=siX he ▸ h
theorem fW1{P:Nat->Str->Prop}(a:P 11 "push")(b:P 12 "pop_from")(c:P 13 "pop")(f:Nat)(n:Str)(h:TB3.meth f=some n):P f n:=by
 have h':(if f=11 then some ("push":Str) else if f=12 then some "pop_from" else if f=13 then some "pop" else none)=some n:=h
 by_cases q:f=11
 ·replace h':=(if_pos q) ▸ h';exact q ▸ siX h' ▸ a
 replace h':=(if_neg q) ▸ h'
 by_cases q:f=12
 ·replace h':=(if_pos q) ▸ h';exact q ▸ siX h' ▸ b
 rw [if_neg q] at h'
 by_cases q:f=13
 ·rw [if_pos q] at h';exact q ▸ siX h' ▸ c
 rw [if_neg q] at h'
 exact nso h'
noncomputable def Bf.ix:Bf->Nat
 | .len=>0 | .chr=>1 | .ord=>2 | .abs=>3 | .sum=>4 | .max=>5 | .min=>6
theorem gC1(f:Bf):glB[f.ix]?=some (Str.ofString f.id,.builtin f.id):=by cases f <;> rfl
theorem wP{w:World}{s:Shared}(hk:Kp w s):AllP (er1 (GG w s) TB3) ["_Accumulator","_ellipsis_match","parse257","in_table_b1","map_table_b3","_law_typed","_law_heard","_law_exchanged","_law_swapped","_law_falls","law"] gZ1 :=
 ⟨fun n A hr=>xg (G:=GG w s) (@iM w s hk) (ir (w:=w) (s:=s) hk 0 rfl) hr,fQ (ir (w:=w) (s:=s) hk 1 rfl) (@iG w s hk) rfl ie,fQ (ir (w:=w) (s:=s) hk 2 rfl) (@tD w s hk) rfl sC,gp1 hk,go1 hk,
  fQ (ir (w:=w) (s:=s) hk 5 rfl) (@qF w s hk) rfl px,fQ (ir (w:=w) (s:=s) hk 6 rfl) (@qG w s hk) rfl pz,fQ (ir (w:=w) (s:=s) hk 7 rfl) (@jY w s hk) rfl jn,fQ (ir (w:=w) (s:=s) hk 8 rfl) (@mO w s hk) rfl lW,fQ (ir (w:=w) (s:=s) hk 9 rfl) (@qH w s hk) rfl pA,trivial⟩
theorem bM1{w:World}{s:Shared}(hk:Kp w s):TabOk (GG w s) TB3 wQ :=
 ⟨fun f=>nX (w:=w) (s:=s) hk f.ix (gC1 f),nX (w:=w) (s:=s) hk 7 rfl,nX (w:=w) (s:=s) hk 8 rfl,fun x l h=>az1 hk h,(wP hk).at,
  fW1 (P:=fun f n=>∀ e,wQ f=some e->hQ1 (GG w s) n e) (vQ fun m A hr=>uC (G:=GG w s) (@iM w s hk) hr) (vQ fun m A hr=>nl (G:=GG w s) (@iM w s hk) hr) (vQ fun m A hr=>xf (G:=GG w s) (@iM w s hk) hr)⟩
noncomputable def eo1:Prop:=∀ ns:List Int,ns.length<=63->∃ σ',jZ (lev wQ 5) 1 18 wn [.raw (ns.map .int)] []=some (.bool true,σ')
theorem xL{h:Heap}{ρ:Rho}:∀ {vs:List Value} {ns:List Int},Ints vs ns->RVs h ρ (ns.map .int) vs
 | _,_,h=>by induction h with | nil=>exact RVs.nil | cons hI ih=>exact RVs.cons ⟨_,rfl⟩ ih
theorem ph:Room callerA 10:=⟨rfl,by decide +kernel,by decide +kernel⟩
theorem fk1(P:eo1):gI1 prg Hh 244:=by
 intro w ao l o vs n ns hk hg ht ho hc hd hI hlen hlay hl
 refine a7 (P ns hlen) fun σ' hrun=>?_
 have R:Rel (GG w ao) [] ⟨[],[]⟩ ao:=by
  exact { len:=rfl,inj:=(fun i j p q h=>by simp at h),obj:=(fun k p o h=>by simp at h),fresh:=(fun p hp=>by cases hp),keep:=(fun b o _ e=>e),lse:=(fun b hb=>by cases hb),same:=⟨ao.heap,ao.toks,ao.gens,rfl⟩,bare:=AllBare.of_eq hg,hidden:=(fun b hb=>by cases hb) }
 have hOn:=kJ (G:=GG w ao) (A:=callerA) (n:=9) (@gQ1 w ao hk) rfl fZ1 ph (fun A' hA=>c81 (@bM1 w ao hk) 5 A' hA) hrun
 have r:RVs ao.heap ⟨[],[]⟩ [.raw (ns.map .int)] [.ref l]:=by
  refine RVs.cons ?_ RVs.nil
  dsimp only [RV]
  refine ⟨by rw [List.length_map];exact Nat.le_trans hlen (by decide),l,vs,rfl,⟨(fun p hp=>by cases hp),(fun hb=>by cases hb)⟩,⟨o,ho,hc,n,hd⟩,xL hI⟩
 refine wpAny_mono (hOn ⟨[],[]⟩ ao [.ref l] R r ht) (fun cv s' ⟨ρ',S,r'⟩=>⟨RV.bool_iff r',fun b o e=>S.keep b o e (fun p hp=>by cases hp) (fun hb=>by cases hb) (fun hb=>by cases hb),?_,S.rel.bare⟩) fun _ _ f=>f
 refine fO (S.rel.same) fun h tk gs e=>?_
 rw [e]
set_option linter.unusedSimpArgs false
section
variable {F:Fn} {σ σ₁ σ₂ aj:List AO} {η η₁ η₂:ac} {a b e es c lo hi st:Ex} {x y z v w:V} {vs:List V} {i j f:Nat} {r:V × List AO} {S R:Sx}
theorem ak{S R:Sx}(h:exs F S σ η=some (.next,σ₁,η₁)):exs F (.seq S R) σ η=exs F R σ₁ η₁:=by
 rw [bB,h]
theorem tI{β:Type}{o:Option (V × List AO)}{k:V->List AO->Option β}(h:o=some (x,σ)):(match (generalizing:=false) o with | some (x,σ)=>k x σ | none=>none)=k x σ:=by rw [h]
theorem ae1{β:Type}{o:Option (List V × List AO)}{k:List V->List AO->Option β}(h:o=some (vs,σ)):(match (generalizing:=false) o with | some (x,σ)=>k x σ | none=>none)=k vs σ:=by rw [h]
theorem br1{o:Option V}(h:o=some v):(o.map fun v=>(v,σ))=some (v,σ):=by rw [h];rfl
theorem bX:evx F (.cst v) σ η=some (v,σ):=rfl
theorem iR:evx F .nil σ η=some (.none,σ):=rfl
theorem aq(h:η[i]?=some (some v)):evx F (.loc i) σ η=some (v,σ):=by rw [bZ,h]
theorem dc:evs F .nil σ η=some ([],σ):=rfl
theorem aK(h:evx F e σ η=some (v,σ₁))(h':evs F es σ₁ η=some (vs,σ₂)):evs F (.cons e es) σ η=some (v::vs,σ₂):=(tI h).trans (ae1 h')
theorem eu(h:evs F es σ η=some (vs,σ₁))(h':F f vs σ₁=some r):evx F (.call f es) σ η=some r:=(ae1 h).trans h'
theorem mX{op:CmpOp}{k:Bool}(h:evx F a σ η=some (x,σ₁))(h':evx F b σ₁ η=some (y,σ₂))(h2:dF op σ₂ x y=some k):evx F (.cmp op a b) σ η=some (.bool k,σ₂) :=
 (tI h).trans ((tI h').trans (congrArg (Option.map fun k=>(V.bool k,σ₂)) h2))
theorem dd{op:Operator}(h:evx F a σ η=some (x,σ₁))(h':evx F b σ₁ η=some (y,σ₂))(h2:qj op x y=some v):evx F (.bin op a b) σ η=some (v,σ₂):=(tI h).trans ((tI h').trans (br1 h2))
theorem dJ(h:evx F a σ η=some (x,σ₁))(h':evx F b σ₁ η=some (y,σ₂))(h2:ez σ₂ x y=some v):evx F (.idx a b) σ η=some (v,σ₂):=(tI h).trans ((tI h').trans (br1 h2))
theorem wB{l h s:V}(h0:evx F a σ η=some (x,σ))(h1:evx F lo σ η=some (l,σ))(h2:evx F hi σ η=some (h,σ))(h3:evx F st σ η=some (s,σ))(h4:mQ σ x l h s=some v):evx F (.slc a lo hi st) σ η=some (v,σ) :=
 (tI h0).trans ((tI h1).trans ((tI h2).trans ((tI h3).trans (br1 h4))))
theorem zc{g:Bf}(h:evs F es σ η=some (vs,σ₁))(h2:bfF g σ₁ vs=some v):evx F (.bf g es) σ η=some (v,σ₁):=(ae1 h).trans (br1 h2)
theorem za{g:Me}(h1:evx F a σ η=some (x,σ₁))(ht:j2 σ₁ x=some g.T)(h2:evs F es σ₁ η=some (vs,σ₂))(h3:meF g σ₂ x vs=some v):evx F (.me g a es) σ η=some (v,σ₂) :=
 (tI h1).trans ((if_pos ht).trans ((ae1 h2).trans (br1 h3)))
theorem wA(h:evs F es σ η=some (vs,σ₁))(hl:vs.length<=lim):evx F (.tup es) σ η=some (.tup vs,σ₁):=(ae1 h).trans (if_pos hl)
theorem bx1(h:evs F es σ η=some (vs,σ₁))(hl:vs.length<=lim):evx F (.lst es) σ η=some (.lst vs,σ₁):=(ae1 h).trans (if_pos hl)
theorem f4(h:evx F e σ η=some (v,σ₁)):exs F (.asg i e) σ η=some (.next,σ₁,η.set i (some v)):=by
 rw [bI,h]
theorem yw(h:evx F e σ η=some (v,σ₁)):exs F (.expr e) σ η=some (.next,σ₁,η):=by
 rw [be,h]
theorem bw1(h:evx F e σ η=some (v,σ₁)):exs F (.ret e) σ η=some (.ret v,σ₁,η):=by
 rw [bY,h]
theorem er:exs F .skip σ η=some (.next,σ,η):=rfl
theorem oX{k:Bool}(h:evx F c σ η=some (x,σ₁))(h':aY x=some k):evt F c σ η=some (k,σ₁):=by
 rw [xt,h]
 dsimp only
 rw [h'];rfl
theorem zb{S':Sx}{k:Bool}(h:evt F c σ η=some (k,σ₁)):exs F (.ite c S S') σ η=if k then exs F S σ₁ η else exs F S' σ₁ η:=by
 rw [ca,h]
 cases k <;> rfl
theorem yu(h:evx F c σ η=some (.bool false,σ₁)):exs F (.seq (.ite c S .skip) R) σ η=exs F R σ₁ η:=by
 have:exs F (.ite c S .skip) σ η=some (.next,σ₁,η):=by
  rw [zb (oX (k:=false) h rfl),if_neg Bool.false_ne_true]
  exact er
 exact ak this
theorem fK(h:evx F e σ η=some (v,σ)):evs F (.cons e .nil) σ η=some ([v],σ):=aK h dc
theorem e41{k:Bool}(h:evx F c σ η=some (.bool k,σ₁)):evx F (.ite c a b) σ η=if k then evx F a σ₁ η else evx F b σ₁ η:=by
 rw [ci,h]
 cases k <;> rfl
theorem j7(h:evx F e σ η=some (v,σ₁)):exs F (.seq (.asg i e) R) σ η=exs F R σ₁ (η.set i (some v)):=ak (f4 h)
theorem xk(h:evx F e σ η=some (v,σ₁)):exs F (.seq (.ret e) R) σ η=some (.ret v,σ₁,η):=by
 rw [bB,bw1 h]
theorem xl{S S':Sx}{k:Bool}(h:evx F c σ η=some (.bool k,σ₁))(h':(if k then exs F S σ₁ η else exs F S' σ₁ η)=some (.next,σ₂,η₂)):exs F (.seq (.ite c S S') R) σ η=exs F R σ₂ η₂ :=
 ak ((zb (oX h rfl)).trans h')
theorem e21{l p q:List Nat}(h:evx F e σ η=some (.str l,σ₁))(h2:meF .replace σ₁ (.str l) [.str p,.str q]=some v):evx F (.rep e p q) σ η=some (v,σ₁):=by
 rw [bA1,h]
 exact br1 h2
theorem e31{k:Bool}(h:evx F a σ η=some (.bool k,σ₁)):evx F (.not a) σ η=some (.bool (!k),σ₁):=by
 rw [cg,h];rfl
theorem qI{k:Nat}{l l':List V}(h:evx F a σ η=some (.ref k,σ₁))(hk:σ₁[k]?=some ⟨l',none⟩)(h':evx F b σ₁ η=some (v,σ₂))(hk':σ₂[k]?=some ⟨l,none⟩)(hl:l.length < lim):evx F (.append a b) σ η=some (.none,σ₂.set k ⟨l++[v],none⟩):=by
 rw [aJ,h]
 dsimp only
 rw [hk]
 dsimp only
 rw [h']
 dsimp only
 rw [hk']
 exact if_pos hl
theorem yv{k:Nat}{i:Int}{l:List V}(h:evx F a σ η=some (.ref k,σ₁))(hk:σ₁[k]?=some ⟨l,some i⟩)(h':evs F es σ₁ η=some (vs,σ₂))(h2:F f (.ref k::vs) σ₂=some r):evx F (.meth f a es) σ η=some r:=by
 rw [bj,h]
 dsimp only
 rw [hk]
 exact (ae1 h').trans h2
theorem uK(h:evx F e σ η=some (v,σ₁)):exs F (.seq (.expr e) R) σ η=exs F R σ₁ η:=ak (yw h)
theorem by1{tg:Ex}{st:ItS}(h:evx F e σ η=some (v,σ₁))(hs:a6 v=some st):exs F (.for_ tg e S) σ η=foN tg (fun σ η=>exs F S σ η) (st.fuel σ₁) st σ₁ η:=by
 rw [tP,h]
 dsimp only
 rw [hs]
theorem cC1(h:evx F c σ η=some (x,σ₁))(h':aY x=some false):exs F (.seq (.ite c S .skip) R) σ η=exs F R σ₁ η :=
 ak ((zb (oX h h')).trans rfl)
theorem cD1(h:evx F c σ η=some (.bool true,σ₁)):exs F (.seq (.asrt c) R) σ η=exs F R σ₁ η:=ak (by
 rw [bg,oX h rfl])
theorem cE1(h:evx F e σ η=some (.tup [x,y],σ₁)):exs F (.seq (.asg2 i j e) R) σ η=exs F R σ₁ ((η.set j (some y)).set i (some x)):=ak (by
 rw [bi,h])
theorem pg{np more:Nat}(hl:vs.length=np)(h:exs F S σ (az vs more)=some (.ret v,σ₁,η₁)):jZ F np more S vs σ=some (v,σ₁):=by
 have:jZ F np more S vs σ=(match exs F S σ (az vs more) with
  | some (.ret v,σ₁,_)=>some (v,σ₁)
  | some (.next,σ₁,_)=>some (V.none,σ₁)
  | _=>none):=if_pos hl
 rw [this,h]
theorem j1{op:CmpOp}{k:Bool}(h:evx F a σ η=some (x,σ))(h':evx F b σ η=some (y,σ))(h2:dF op σ x y=some k):evx F (.cmp op a b) σ η=some (.bool k,σ):=mX h h' h2
end
theorem ea{tab:Nat->Option En}{n f np more:Nat}{body:Sx}{vs:List V}{σ:List AO}(h:tab f=some (.code np more body)):lev tab (n + 1) f vs σ=jZ (lev tab n) np more body vs σ:=by
 dsimp only [lev];rw [h]
theorem fj{tab:Nat->Option En}{n f:Nat}{p:tN}{vs:List V}{σ:List AO}(h:tab f=some (.prim p)):lev tab (n + 1) f vs σ=p vs σ:=by
 dsimp only [lev];rw [h]
theorem cQ{i:Int}{n:Nat}(h0:0<=i)(h1:i < n):seqIndex? i n=some i.toNat:=by
 dsimp only [seqIndex?]
 simp only [if_neg (Int.not_lt.mpr h0)]
 simp [h0,h1]
theorem hH{i:Int}{n:Nat}(h0:i < 0)(h1:0<=i + n):seqIndex? i n=some (i + n).toNat:=by
 dsimp only [seqIndex?]
 simp only [if_pos h0]
 have:i + (n:Int) < n:=by lia
 simp [h1,this]
section
variable {σ:List AO} {x y i:Int} {a b l:List Nat} {u v:List V}
theorem oU{b:Bool}:aY (.bool b)=some b:=rfl
theorem oT{i:Int}:aY (.int i)=some (i != 0):=rfl
theorem oR{l:List Nat}:aY (.str l)=some (!l.isEmpty):=rfl
theorem oS:aY .none=some false:=rfl
theorem dh:qj .Add (.int x) (.int y)=some (.int (x + y)):=rfl
theorem eH:qj .Sub (.int x) (.int y)=some (.int (x - y)):=rfl
theorem dg(h:1<=y):qj .Mod (.int x) (.int y)=some (.int (x % y)):=if_pos h
theorem bN(h:1<=y)(h':y < 1000000000):qj .FloorDiv (.int x) (.int y)=some (.int (x / y)):=if_pos ⟨h,h'⟩
theorem cn:qj .Add (.str a) (.str b)=if a.length + b.length<=lim then some (.str (a++b)) else none:=rfl
theorem cp:qj .Add (.lst u) (.lst v)=if u.length + v.length<=lim then some (.lst (u++v)) else none:=rfl
theorem b4:qj .Mult (.str a) (.int x)=if x<=1000000/\-1000000<=x/\a.length * x.toNat<=lim then some (.str (tE a x.toNat)) else none:=rfl
theorem oZ:veq (.int x) (.int y)=decide (x=y):=by
 show (x == y)=_
 rw [Bool.eq_iff_iff];simp
theorem eG:dF .Eq σ (.int x) (.int y)=some (decide (x=y)):=by
 show some (veq (.int x) (.int y))=_
 rw [oZ]
theorem eE:dF .NotEq σ (.int x) (.int y)=some (!decide (x=y)):=by
 show (dF .Eq σ (.int x) (.int y)).map (!·)=_
 rw [eG];rfl
theorem ei:dF .Lt σ (.int x) (.int y)=some (decide (x < y)):=rfl
theorem fx:dF .LtE σ (.int x) (.int y)=some (decide (x<=y)):=rfl
theorem eX:dF .Gt σ (.int x) (.int y)=some (decide (y < x)):=rfl
theorem eY:dF .GtE σ (.int x) (.int y)=some (decide (y<=x)):=rfl
theorem eF:dF .Eq σ (.str a) (.str b)=some (a == b):=rfl
theorem eh:dF .NotEq σ (.str a) (.str b)=some (!(a == b)):=rfl
theorem eW:dF .Gt σ (.str a) (.str b)=some (decide (b < a)):=rfl
theorem eV:bfF .len σ [.str l]=some (.int l.length):=rfl
theorem cF:bfF .len σ [.lst u]=some (.int u.length):=rfl
theorem cE:bfF .len σ [.tup u]=some (.int u.length):=rfl
theorem eD(h:0<=i)(h':i<=1114111):bfF .chr σ [.int i]=some (.str [i.toNat]):=if_pos ⟨h,h'⟩
theorem fw{c:Nat}:bfF .ord σ [.str [c]]=some (.int c):=rfl
theorem aV:der σ (.str l)=.str l:=rfl
theorem aX:der σ (.int i)=.int i:=rfl
theorem aU:der σ (.tup u)=.tup u:=rfl
theorem aW:der σ (.lst u)=.lst u:=rfl
theorem zg(h0:0<=i)(h1:i<=1000000000)(h2:i < u.length):ez σ (.tup u) (.int i)=u[i.toNat]?:=by
 show (if _ then _ else _)=_
 rw [if_pos ⟨by lia,h1⟩]
 show (match seqIndex? i u.length with | some k=>u[k]? | none=>none)=_
 rw [cQ h0 h2]
theorem zh(h0:0<=i)(h1:i<=1000000000)(h2:i < u.length):ez σ (.lst u) (.int i)=u[i.toNat]?:=by
 show (if _ then _ else _)=_
 rw [if_pos ⟨by lia,h1⟩]
 show (match seqIndex? i u.length with | some k=>u[k]? | none=>none)=_
 rw [cQ h0 h2]
theorem bB1(h0:0<=i)(h1:i<=1000000000)(h2:i < l.length):ez σ (.str l) (.int i)=(l[i.toNat]?).map fun c=>.str [c]:=by
 show (if _ then _ else _)=_
 rw [if_pos ⟨by lia,h1⟩]
 show (match seqIndex? i l.length with | some k=>(l[k]?).map fun c=>V.str [c] | none=>none)=_
 rw [cQ h0 h2]
end
noncomputable def dP:List Int:=[97,65,119808,119860,119912,120016,120172,120224,120276,120328,120380,120432]
noncomputable def bQ:List Int:=[173,847,6150,6155,6156,6157,8203,8204,8205,8288,65279]
noncomputable def ng(kind:Int)(r:Nat):List Nat:=if kind=0 then [34] else [((dP.getD r 0) + kind - 1).toNat]
noncomputable def yI(q:Int):List Nat:=if q < 27 then [(if q < 11 then bQ.getD q.toNat 0 else 65013 + q).toNat] else []
noncomputable def ew(kind x:Int):List Nat:=yI (x / 12 % 54)++ng kind (x % 12).toNat
theorem vH{r:Int}(h0:0<=r)(h1:r < 12):∃ c,(dP.map V.int)[r.toNat]?=some (.int c)/\dP.getD r.toNat 0=c/\65<=c/\c<=120432:=by
 obtain ⟨k,rfl⟩:=Int.eq_ofNat_of_zero_le h0
 have hk:k < 12:=by exact Int.ofNat_le.mp ‹_›
 have:∀ k < 12,(dP.map V.int)[k]?.isSome=true/\65<=dP.getD k 0/\dP.getD k 0<=120432:=by decide
 have h_p:=this k hk;have h2:=h_p.2.1;have h3:=h_p.2.2
 refine ⟨dP.getD k 0,?_,rfl,h2,h3⟩
 rw [Int.toNat_natCast,List.getElem?_map,List.getD_eq_getElem?_getD]
 have:k < dP.length:=hk
 rw [List.getElem?_eq_getElem this];rfl
theorem rZ{r:Int}(h0:0<=r)(h1:r < 11):∃ c,(bQ.map V.int)[r.toNat]?=some (.int c)/\bQ.getD r.toNat 0=c/\0<=c/\c<=120432:=by
 obtain ⟨k,rfl⟩:=Int.eq_ofNat_of_zero_le h0
 have hk:k < 11:=by exact Int.ofNat_le.mp ‹_›
 have:∀ k < 11,0<=bQ.getD k 0/\bQ.getD k 0<=120432:=by decide
 obtain ⟨h2,h3⟩:=this k hk
 refine ⟨bQ.getD k 0,?_,rfl,h2,h3⟩
 rw [Int.toNat_natCast,List.getElem?_map,List.getD_eq_getElem?_getD]
 have:k < bQ.length:=hk
 rw [List.getElem?_eq_getElem this];rfl
theorem r4{F:Fn}{kind x:Int}{σ:List AO}(hk:0<=kind/\kind<=3){o3 o4 o5:Option V} :
  evx F (.ite (.cmp .Eq (.loc 0) (.cst (.int 0))) (.cst (.str [34])) (.bf .chr (.cons (.bin .Sub (.bin .Add (.idx (.loc 2) (.bin .Mod (.loc 1) (.cst (.int 12)))) (.loc 0)) (.cst (.int 1))) .nil))) σ
   [some (.int kind),some (.int x),some (.tup (dP.map V.int)),o3,o4,o5]=some (.str (ng kind (x % 12).toNat),σ):=by
 have r0:0<=x % 12:=Int.emod_nonneg _ (by decide)
 have r1:x % 12 < 12:=Int.emod_lt_of_pos _ (by decide)
 refine eH1 (vH r0 r1) fun c hc1 hc2 hc3 hc4=>(e41 (j1 rfl rfl eG)).trans ?_
 unfold ng
 by_cases h0:kind=0
 ·rw [decide_eq_true h0,if_pos h0];rfl
 ·rw [decide_eq_false h0,if_neg h0,hc2]
  have e1:ez σ (.tup (dP.map V.int)) (.int (x % 12))=some (.int c):=(zg (u:=dP.map V.int) r0 (Int.le_trans (Int.le_of_lt r1) (by decide)) (show x % 12 < ((12:Nat):Int) from r1)).trans hc1
  exact (if_neg Bool.false_ne_true).trans (zc (fK (dd (dd (dJ rfl (dd rfl rfl (dg (by decide))) e1) rfl dh) rfl eH)) (eD (by lia) (by lia)))
theorem t5{F:Fn}{q:Int}{σ:List AO}(q0:0<=q)(hq:q < 27){s:List Nat}(hs:s.length<=1){o0 o1 o2:Option V} :
  evx F (.bin .Add (.bf .chr (.cons (.ite (.cmp .Lt (.loc 5) (.cst (.int 11))) (.idx (.loc 3) (.loc 5)) (.bin .Add (.cst (.int 65013)) (.loc 5))) .nil)) (.loc 4)) σ
   [o0,o1,o2,some (.tup (bQ.map V.int)),some (.str s),some (.int q)]=some (.str (yI q++s),σ):=by
 have key:∀ d:Int,0<=d->d<=1114111->(if q < 11 then bQ.getD q.toNat 0 else 65013 + q)=d ->
   evx F (.ite (.cmp .Lt (.loc 5) (.cst (.int 11))) (.idx (.loc 3) (.loc 5)) (.bin .Add (.cst (.int 65013)) (.loc 5))) σ [o0,o1,o2,some (.tup (bQ.map V.int)),some (.str s),some (.int q)]=some (.int d,σ) ->
   evx F (.bin .Add (.bf .chr (.cons (.ite (.cmp .Lt (.loc 5) (.cst (.int 11))) (.idx (.loc 3) (.loc 5)) (.bin .Add (.cst (.int 65013)) (.loc 5))) .nil)) (.loc 4)) σ [o0,o1,o2,some (.tup (bQ.map V.int)),some (.str s),some (.int q)]=some (.str (yI q++s),σ):=fun d h0 h1 e h=>by
  unfold yI
  rw [if_pos hq,e]
  exact dd (zc (fK h) (eD h0 h1)) rfl (cn.trans (if_pos (Nat.le_trans (Nat.add_le_add_left hs 1) (by decide))))
 by_cases h:q < 11
 ·refine eH1 (rZ q0 h) fun d hd1 hd2 hd3 hd4=>key d hd3 (Int.le_trans hd4 (by decide)) ((if_pos h).trans hd2) ((e41 (j1 rfl rfl ei)).trans ?_)
  rw [decide_eq_true h]
  exact (if_pos rfl).trans (dJ rfl rfl ((zg (u:=bQ.map V.int) q0 (Int.le_trans (Int.le_of_lt h) (by decide)) (show q < ((11:Nat):Int) from h)).trans hd1))
 ·refine key (65013 + q) (by lia) (by lia) (if_neg h) ((e41 (j1 rfl rfl ei)).trans ?_)
  rw [decide_eq_false h]
  exact (if_neg Bool.false_ne_true).trans (dd rfl rfl dh)
theorem ut(kind:Int)(r:Nat):(ng kind r).length<=1:=by
 unfold ng
 split <;> exact Nat.le_refl 1
theorem t4(F:Fn)(kind x:Int)(σ:List AO)(hk:0<=kind/\kind<=3):jZ F 2 4 cV [.int kind,.int x] σ=some (.str (ew kind x),σ):=by
 have main:∃ η,exs F cV σ [some (.int kind),some (.int x),none,none,none,none]=some (.ret (.str (ew kind x)),σ,η):=by
  refine ⟨_,(j7 (v:=.tup (dP.map V.int)) rfl).trans ((j7 (v:=.tup (bQ.map V.int)) rfl).trans ((j7 (r4 hk)).trans ((j7 (v:=.int (x / 12 % 54)) (dd (dd rfl rfl (bN (by decide) (by decide))) rfl (dg (by decide)))).trans
   ((xl (σ₂:=σ) (η₂:=[some (.int kind),some (.int x),some (.tup (dP.map V.int)),some (.tup (bQ.map V.int)),some (.str (ew kind x)),some (.int (x / 12 % 54))]) (j1 rfl rfl ei) ?_).trans (xk rfl)))))⟩
  by_cases hq:x / 12 % 54 < 27
  ·rw [decide_eq_true hq]
   exact (if_pos rfl).trans ((j7 (t5 (Int.emod_nonneg _ (by decide)) hq (ut _ _))).trans rfl)
  ·rw [decide_eq_false hq]
   unfold ew yI
   rw [if_neg hq]
   rfl
 exact a7 main fun η e=>pg rfl e
section
variable {σ:List AO} {x y i j:Int} {a b l:List Nat} {u v:List V}
theorem fC1{j:Nat}(h:j<=l.length):mQ σ (.str l) .none (.int j) .none=some (.str (l.take j)):=by
 show some (V.str (Txt.slice ⟨l.toArray⟩ none (some (j:Int))).cps.toList)=_
 have:=slice_closes_to (x:=⟨l.toArray⟩) (j:=(j:Int)) ⟨by exact Int.natCast_nonneg _,by simpa using h⟩
 rw [beq_iff_eq] at this
 rw [this]
 simp
theorem xb{i j:Nat}(h:i<=j)(h':j<=l.length):mQ σ (.str l) (.int i) (.int j) .none=some (.str ((l.drop i).take (j - i))):=by
 show some (V.str (Txt.slice ⟨l.toArray⟩ (some (i:Int)) (some (j:Int))).cps.toList)=_
 have:=slice_closes (x:=⟨l.toArray⟩) (i:=(i:Int)) (j:=(j:Int)) ⟨by exact Int.natCast_nonneg _,by exact Int.ofNat_le.mpr ‹_›,by simpa using h'⟩
 rw [beq_iff_eq] at this
 rw [this]
 simp
end
noncomputable def eO:List Nat->List Nat
 | []=>[]
 | c::r=>if c=34 then (match r with
  | d::r'=>if d=34 then 34::eO r' else []
  | []=>[]) else c::eO r
theorem q7(r:List Nat):eO (34::34::r)=34::eO r:=rfl
theorem uG:eO [34]=[]:=rfl
theorem kK{d:Nat}(r:List Nat)(h:d≠34):eO (34::d::r)=[]:=if_neg h
theorem uH{c:Nat}(r:List Nat)(h:c≠34):eO (c::r)=c::eO r:=by cases r <;> exact if_neg h
noncomputable def pC(F:Fn):List AO->ac->Option (Bool × List AO):=fun σ η=>evt F (.cmp .Lt (.loc 2) (.loc 3)) σ η
noncomputable def uO:Sx:=(.seq (.asg 4 (.idx (.loc 0) (.loc 2)))
 (.seq (.asg 2 (.bin .Add (.loc 2) (.cst (.int 1))))
 (.seq (.ite (.cmp .Eq (.loc 4) (.cst (.str [34]))) (.seq (.ite (.or (.cmp .GtE (.loc 2) (.loc 3)) (.cmp .NotEq (.idx (.loc 0) (.loc 2)) (.cst (.str [34])))) (.seq .brk
 .skip) .skip)
 (.seq (.asg 2 (.bin .Add (.loc 2) (.cst (.int 1))))
 .skip)) .skip)
 (.seq (.asg 1 (.bin .Add (.loc 1) (.loc 4)))
 .skip))))
theorem aB1(p:List Nat)(c:Nat)(r:List Nat):(p++c::r)[p.length]?=some c:=by simp
theorem bC1{σ:List AO}(p:List Nat)(c:Nat)(r:List Nat)(h:(p++c::r).length<=1000000):ez σ (.str (p++c::r)) (.int p.length)=some (.str [c]):=by
 rw [bB1 (by lia) (by simp at h;lia) (by simp;lia),Int.toNat_natCast,aB1];rfl
theorem tV{c:List AO->ac->Option (Bool × List AO)}{b:List AO->ac->Out}{n:Nat}{σ:List AO}{η:ac}:whN c b (n + 1) σ η=match c σ η with
  | some (false,σ₁)=>some (.next,σ₁,η)
  | some (true,σ₁)=>match b σ₁ η with
   | some (.next,σ₂,η₂)=>whN c b n σ₂ η₂
   | some (.brk,σ₂,η₂)=>some (.next,σ₂,η₂)
   | r=>r
  | none=>none:=rfl
theorem mZ{c:List AO->ac->Option (Bool × List AO)}{b:List AO->ac->Out}{n:Nat}{σ σ':List AO}{η:ac}(h:c σ η=some (false,σ')):whN c b (n + 1) σ η=some (.next,σ',η):=by
 rw [tV,h]
theorem ln{c:List AO->ac->Option (Bool × List AO)}{b:List AO->ac->Out}{n:Nat}{σ σ' σ₂:List AO}{η η₂:ac}(h:c σ η=some (true,σ'))(hb:b σ' η=some (.next,σ₂,η₂)):whN c b (n + 1) σ η=whN c b n σ₂ η₂:=by
 rw [tV,h]
 dsimp only
 rw [hb]
theorem tW{c:List AO->ac->Option (Bool × List AO)}{b:List AO->ac->Out}{n:Nat}{σ σ' σ₂:List AO}{η η₂:ac}(h:c σ η=some (true,σ'))(hb:b σ' η=some (.brk,σ₂,η₂)):whN c b (n + 1) σ η=some (.next,σ₂,η₂):=by
 rw [tV,h]
 dsimp only
 rw [hb]
section
variable {F:Fn} {σ:List AO} {r d:List Nat} {c b:Nat} {i n:Int} {s4:Option V}
theorem i11(e1:ez σ (.str r) (.int i)=some (.str [c]))(hc:([c] == [34])=false)(hd:d.length + 1<=lim) :
  exs F uO σ [some (.str r),some (.str d),some (.int i),some (.int n),s4]=some (.next,σ,[some (.str r),some (.str (d++[c])),some (.int (i + 1)),some (.int n),some (.str [c])]):=by
 simp only [uO,cA,bZ,cw,cb,bb,cf,cy,ch,ck,cx,cg,cB,cC,fq,ci,cj,cu,fs,aR,eJ,aJ,bn,bj,bB,bI,bh,bi,be,bY,ca,ct,bF,bg,bE,cz,xt,dh,eH,dg,bN,cn,cp,b4,eG,eE,ei,fx,eX,eY,eF,eh,eW,oU,oT,oR,oS,Option.map_some,eV,eD,fw,cF,cE,az,List.map_cons,List.map_nil,List.length_cons,List.length_nil,List.cons_append,List.nil_append,List.replicate_succ,List.replicate_zero,List.getElem?_cons_zero,List.getElem?_cons_succ,List.set_cons_zero,List.set_cons_succ,aV,aX,aU,aW,Nat.reduceAdd,Nat.reduceSub,Int.reduceLE,Int.reduceLT,and_self,if_true,Nat.reduceLeDiff,Bool.not_true,Bool.not_false,e1,hc,if_pos hd]
theorem cK1(e1:ez σ (.str r) (.int i)=some (.str [34]))(g:n<=i + 1) :
  exs F uO σ [some (.str r),some (.str d),some (.int i),some (.int n),s4]=some (.brk,σ,[some (.str r),some (.str d),some (.int (i + 1)),some (.int n),some (.str [34])]):=by
 simp only [uO,cA,bZ,cw,cb,bb,cf,cy,ch,ck,cx,cg,cB,cC,fq,ci,cj,cu,fs,aR,eJ,aJ,bn,bj,bB,bI,bh,bi,be,bY,ca,ct,bF,bg,bE,cz,xt,dh,eH,dg,bN,cn,cp,b4,eG,eE,ei,fx,eX,eY,eF,eh,eW,oU,oT,oR,oS,Option.map_some,eV,eD,fw,cF,cE,az,List.map_cons,List.map_nil,List.length_cons,List.length_nil,List.cons_append,List.nil_append,List.replicate_succ,List.replicate_zero,List.getElem?_cons_zero,List.getElem?_cons_succ,List.set_cons_zero,List.set_cons_succ,aV,aX,aU,aW,Nat.reduceAdd,Nat.reduceSub,Int.reduceLE,Int.reduceLT,and_self,if_true,Nat.reduceLeDiff,Bool.not_true,Bool.not_false,e1,BEq.rfl,g,decide_true]
theorem zT(e1:ez σ (.str r) (.int i)=some (.str [34]))(g:¬ n<=i + 1)(e2:ez σ (.str r) (.int (i + 1))=some (.str [b]))(hb:([b] == [34])=false) :
  exs F uO σ [some (.str r),some (.str d),some (.int i),some (.int n),s4]=some (.brk,σ,[some (.str r),some (.str d),some (.int (i + 1)),some (.int n),some (.str [34])]):=by
 simp only [uO,cA,bZ,cw,cb,bb,cf,cy,ch,ck,cx,cg,cB,cC,fq,ci,cj,cu,fs,aR,eJ,aJ,bn,bj,bB,bI,bh,bi,be,bY,ca,ct,bF,bg,bE,cz,xt,dh,eH,dg,bN,cn,cp,b4,eG,eE,ei,fx,eX,eY,eF,eh,eW,oU,oT,oR,oS,Option.map_some,eV,eD,fw,cF,cE,az,List.map_cons,List.map_nil,List.length_cons,List.length_nil,List.cons_append,List.nil_append,List.replicate_succ,List.replicate_zero,List.getElem?_cons_zero,List.getElem?_cons_succ,List.set_cons_zero,List.set_cons_succ,aV,aX,aU,aW,Nat.reduceAdd,Nat.reduceSub,Int.reduceLE,Int.reduceLT,and_self,if_true,Nat.reduceLeDiff,Bool.not_true,Bool.not_false,e1,e2,BEq.rfl,g,decide_true,decide_false,hb]
theorem cL1(e1:ez σ (.str r) (.int i)=some (.str [34]))(g:¬ n<=i + 1)(e2:ez σ (.str r) (.int (i + 1))=some (.str [34]))(hd:d.length + 1<=lim) :
  exs F uO σ [some (.str r),some (.str d),some (.int i),some (.int n),s4]=some (.next,σ,[some (.str r),some (.str (d++[34])),some (.int (i + 1 + 1)),some (.int n),some (.str [34])]):=by
 simp only [uO,cA,bZ,cw,cb,bb,cf,cy,ch,ck,cx,cg,cB,cC,fq,ci,cj,cu,fs,aR,eJ,aJ,bn,bj,bB,bI,bh,bi,be,bY,ca,ct,bF,bg,bE,cz,xt,dh,eH,dg,bN,cn,cp,b4,eG,eE,ei,fx,eX,eY,eF,eh,eW,oU,oT,oR,oS,Option.map_some,eV,eD,fw,cF,cE,az,List.map_cons,List.map_nil,List.length_cons,List.length_nil,List.cons_append,List.nil_append,List.replicate_succ,List.replicate_zero,List.getElem?_cons_zero,List.getElem?_cons_succ,List.set_cons_zero,List.set_cons_succ,aV,aX,aU,aW,Nat.reduceAdd,Nat.reduceSub,Int.reduceLE,Int.reduceLT,and_self,if_true,Nat.reduceLeDiff,Bool.not_true,Bool.not_false,e1,e2,BEq.rfl,g,decide_true,decide_false,if_pos hd]
theorem eD1(h:i < n):pC F σ [some (.str r),some (.str d),some (.int i),some (.int n),s4]=some (true,σ):=by
 simp only [pC,cA,bZ,cw,cb,bb,cf,cy,ch,ck,cx,cg,cB,cC,fq,ci,cj,cu,fs,aR,eJ,aJ,bn,bj,bB,bI,bh,bi,be,bY,ca,ct,bF,bg,bE,cz,xt,dh,eH,dg,bN,cn,cp,b4,eG,eE,ei,fx,eX,eY,eF,eh,eW,oU,oT,oR,oS,Option.map_some,eV,eD,fw,cF,cE,az,List.map_cons,List.map_nil,List.length_cons,List.length_nil,List.cons_append,List.nil_append,List.replicate_succ,List.replicate_zero,List.getElem?_cons_zero,List.getElem?_cons_succ,List.set_cons_zero,List.set_cons_succ,aV,aX,aU,aW,Nat.reduceAdd,Nat.reduceSub,Int.reduceLE,Int.reduceLT,and_self,if_true,Nat.reduceLeDiff,Bool.not_true,Bool.not_false,h,decide_true]
theorem i01(h:¬ i < n):pC F σ [some (.str r),some (.str d),some (.int i),some (.int n),s4]=some (false,σ):=by
 simp only [pC,cA,bZ,cw,cb,bb,cf,cy,ch,ck,cx,cg,cB,cC,fq,ci,cj,cu,fs,aR,eJ,aJ,bn,bj,bB,bI,bh,bi,be,bY,ca,ct,bF,bg,bE,cz,xt,dh,eH,dg,bN,cn,cp,b4,eG,eE,ei,fx,eX,eY,eF,eh,eW,oU,oT,oR,oS,Option.map_some,eV,eD,fw,cF,cE,az,List.map_cons,List.map_nil,List.length_cons,List.length_nil,List.cons_append,List.nil_append,List.replicate_succ,List.replicate_zero,List.getElem?_cons_zero,List.getElem?_cons_succ,List.set_cons_zero,List.set_cons_succ,aV,aX,aU,aW,Nat.reduceAdd,Nat.reduceSub,Int.reduceLE,Int.reduceLT,and_self,if_true,Nat.reduceLeDiff,Bool.not_true,Bool.not_false,h,decide_false]
end
noncomputable def PLp(F:Fn)(σ:List AO)(k:Nat)(w:List Nat)(i n:Int)(d:List Nat)(s4:Option V)(g:List Nat):Prop :=
 ∃ i' c',whN (pC F) (fun σ η=>exs F uO σ η) (k + 1) σ [some (.str w),some (.str d),some (.int i),some (.int n),s4]=some (.next,σ,[some (.str w),some (.str g),some (.int i'),some (.int n),c'])
section
variable {F:Fn} {σ:List AO} {w d g:List Nat} {c b k:Nat} {i n:Int} {s4:Option V}
theorem PLp.stop(h:¬ i < n):PLp F σ k w i n d s4 d:=⟨i,s4,mZ (i01 h)⟩
theorem PLp.fin(h:i < n)(e1:ez σ (.str w) (.int i)=some (.str [34]))(q:n<=i + 1):PLp F σ k w i n d s4 d:=⟨_,_,tW (eD1 h) (cK1 e1 q)⟩
theorem PLp.more(h:i < n)(e1:ez σ (.str w) (.int i)=some (.str [34]))(q:¬ n<=i + 1)(e2:ez σ (.str w) (.int (i + 1))=some (.str [b]))(hb:([b] == [34])=false):PLp F σ k w i n d s4 d:=⟨_,_,tW (eD1 h) (zT e1 q e2 hb)⟩
theorem PLp.step(h:i < n)(e1:ez σ (.str w) (.int i)=some (.str [c]))(hc:([c] == [34])=false)(hd:d.length + 1<=lim)(ih:PLp F σ k w (i + 1) n (d++[c]) (some (.str [c])) g):PLp F σ (k + 1) w i n d s4 g :=
 ih.elim fun i' x=>x.elim fun c' e=>⟨i',c',(ln (eD1 h) (i11 e1 hc hd)).trans e⟩
theorem PLp.dbl(h:i < n)(e1:ez σ (.str w) (.int i)=some (.str [34]))(q:¬ n<=i + 1)(e2:ez σ (.str w) (.int (i + 1))=some (.str [34]))(hd:d.length + 1<=lim)(ih:PLp F σ k w (i + 1 + 1) n (d++[34]) (some (.str [34])) g):PLp F σ (k + 1) w i n d s4 g :=
 ih.elim fun i' x=>x.elim fun c' e=>⟨i',c',(ln (eD1 h) (cL1 e1 q e2 hd)).trans e⟩
end
theorem c51(p:List Nat)(c:Nat)(t:List Nat):(p.length:Int) < ((p++c::t).length:Nat):=by rw [List.length_append,List.length_cons];exact Int.ofNat_le.mpr (Nat.succ_le_succ (Nat.le_add_right p.length t.length))
theorem gG(F:Fn)(σ:List AO)(N:Nat)(hN:N<=100000):∀ (k:Nat) (p t d:List Nat) (s4:Option V),t.length<=k->p.length + t.length<=N->d.length + t.length<=N->PLp F σ k (p++t) p.length (p++t).length d s4 (d++eO t)
 | k,p,[],d,s4,_,_,_=>by
  rw [show eO []=[] from rfl,List.append_nil,List.append_nil]
  exact .stop (Int.lt_irrefl _)
 | 0,p,c::t,d,s4,hk,_,_=>absurd hk (Nat.not_succ_le_zero _)
 | k + 1,p,c::t,d,s4,hk,hz,hd=>by
  have hk':t.length<=k:=Nat.le_of_succ_le_succ hk
  have hz':p.length + t.length + 1<=N:=hz
  have hd':d.length + t.length + 1<=N:=hd
  have e1:ez σ (.str (p++c::t)) (.int p.length)=some (.str [c]):=bC1 p c t (by rw [List.length_append];exact Nat.le_trans hz (Nat.le_trans hN (by decide)))
  have hd2:d.length + 1<=lim:=Nat.le_trans (Nat.le_trans (by lia) hN) (by decide)
  have lt:=c51 p c t
  by_cases hc:c=34
  ·subst hc
   cases t with
   | nil =>
    rw [uG,List.append_nil]
    exact .fin lt e1 (by exact (List.length_append) ▸ (Int.le_refl _))
   | cons b t =>
    have q:¬ (((p++34::b::t).length:Nat):Int)<=(p.length:Int) + 1:=by rw [List.length_append,List.length_cons,List.length_cons];lia
    have e2:ez σ (.str (p++34::b::t)) (.int ((p.length:Int) + 1))=some (.str [b]):=by
     have h:=bC1 (σ:=σ) (p++[34]) b t (by rw [List.append_assoc,List.length_append];exact Nat.le_trans hz (Nat.le_trans hN (by decide)))
     rw [List.append_assoc,List.length_append] at h
     exact h
    by_cases hb:b=34
    ·subst hb
     have ih:=gG F σ N hN k (p++[34,34]) t (d++[34]) (some (.str [34])) (Nat.le_of_succ_le hk') (by rw [List.length_append];exact (show p.length + 2 + t.length<=N by rw [List.length_cons] at hz';lia)) (by rw [List.length_append];exact (show d.length + 1 + t.length<=N by rw [List.length_cons] at hd';lia))
     rw [List.append_assoc,List.length_append,List.append_assoc] at ih
     rw [q7]
     exact .dbl lt e1 q e2 hd2 ih
    ·rw [kK _ hb,List.append_nil]
     exact .more lt e1 q e2 (by simp [hb])
  ·have ih:=gG F σ N hN k (p++[c]) t (d++[c]) (some (.str [c])) hk' (by rw [List.length_append];exact (show p.length + 1 + t.length<=N by lia)) (by rw [List.length_append];exact (show d.length + 1 + t.length<=N by lia))
   rw [List.append_assoc,List.length_append,List.append_assoc] at ih
   refine (uH _ hc) ▸ ?_
   exact .step lt e1 (by simp [hc]) hd2 ih
theorem pk:dZ=(.seq (.ite (.cmp .NotEq (.slc (.loc 0) .nil (.cst (.int 3)) .nil) (.cst (.str [50,53,55]))) (.seq .dead .skip) .skip)
 (.seq (.ite (.cmp .NotEq (.slc (.loc 0) (.cst (.int 3)) (.cst (.int 5)) .nil) (.cst (.str [32,34]))) (.seq (.ret (.cst (.str []))) .skip) .skip)
 (.seq (.asg 1 (.cst (.str [])))
 (.seq (.asg 2 (.cst (.int 5)))
 (.seq (.asg 3 (.bf .len (.cons (.loc 0) .nil)))
 (.seq (.whil 1000 (.cmp .Lt (.loc 2) (.loc 3)) uO)
 (.seq (.ret (.loc 1)) .skip))))))):=rfl
theorem uN(F:Fn)(σ:List AO)(t:List Nat)(ht:t.length<=900):jZ F 1 4 dZ [.str ([50,53,55,32,34]++t)] σ=some (.str (eO t),σ):=by
 obtain ⟨i',c',h⟩:=gG F σ 1000 (by exact Nat.le_add_left _ _) 999 [50,53,55,32,34] t [] none (by exact Nat.le_trans ‹_› (by decide)) (by show 5 + t.length<=1000;omega) (by show 0 + t.length<=1000;omega)
 have e1:mQ σ (.str ([50,53,55,32,34]++t)) .none (.int 3) .none=some (.str [50,53,55]):=by
  have:=fC1 (σ:=σ) (l:=[50,53,55,32,34]++t) (j:=3) (by simp)
  exact this
 have e2:mQ σ (.str ([50,53,55,32,34]++t)) (.int 3) (.int 5) .none=some (.str [32,34]):=by
  have:=xb (σ:=σ) (l:=[50,53,55,32,34]++t) (i:=3) (j:=5) (by decide) (by simp)
  exact this
 have hp:(([50,53,55,32,34]:List Nat).length:Int)=5:=rfl
 rw [hp,List.nil_append] at h
 generalize hr:[50,53,55,32,34]++t=r at e1 e2 h ⊢
 have h':exs F (.whil 1000 (.cmp .Lt (.loc 2) (.loc 3)) uO) σ [some (.str r),some (.str []),some (.int 5),some (.int r.length),none]=some (.next,σ,[some (.str r),some (.str (eO t)),some (.int i'),some (.int r.length),c']):=h
 unfold jZ
 rw [if_pos (by rfl),pk]
 have s0:az [V.str r] 4=[some (.str r),none,none,none,none]:=rfl
 rw [s0,ak (σ₁:=σ) (η₁:=[some (.str r),none,none,none,none]) (by simp only [cA,bZ,cw,cb,bb,cf,cy,ch,ck,cx,cg,cB,cC,fq,ci,cj,cu,fs,aR,eJ,aJ,bn,bj,bB,bI,bh,bi,be,bY,ca,ct,bF,bg,bE,cz,xt,dh,eH,dg,bN,cn,cp,b4,eG,eE,ei,fx,eX,eY,eF,eh,eW,oU,oT,oR,oS,Option.map_some,eV,eD,fw,cF,cE,az,List.map_cons,List.map_nil,List.length_cons,List.length_nil,List.cons_append,List.nil_append,List.replicate_succ,List.replicate_zero,List.getElem?_cons_zero,List.getElem?_cons_succ,List.set_cons_zero,List.set_cons_succ,aV,aX,aU,aW,Nat.reduceAdd,Nat.reduceSub,Int.reduceLE,Int.reduceLT,and_self,if_true,Nat.reduceLeDiff,Bool.not_true,Bool.not_false,e1,BEq.rfl]),
  ak (σ₁:=σ) (η₁:=[some (.str r),none,none,none,none]) (by simp only [cA,bZ,cw,cb,bb,cf,cy,ch,ck,cx,cg,cB,cC,fq,ci,cj,cu,fs,aR,eJ,aJ,bn,bj,bB,bI,bh,bi,be,bY,ca,ct,bF,bg,bE,cz,xt,dh,eH,dg,bN,cn,cp,b4,eG,eE,ei,fx,eX,eY,eF,eh,eW,oU,oT,oR,oS,Option.map_some,eV,eD,fw,cF,cE,az,List.map_cons,List.map_nil,List.length_cons,List.length_nil,List.cons_append,List.nil_append,List.replicate_succ,List.replicate_zero,List.getElem?_cons_zero,List.getElem?_cons_succ,List.set_cons_zero,List.set_cons_succ,aV,aX,aU,aW,Nat.reduceAdd,Nat.reduceSub,Int.reduceLE,Int.reduceLT,and_self,if_true,Nat.reduceLeDiff,Bool.not_true,Bool.not_false,e2,BEq.rfl]),
  ak (σ₁:=σ) (η₁:=[some (.str r),some (.str []),none,none,none]) (by dsimp only [cA,bZ,cw,cb,bb,cf,cy,ch,ck,cx,cg,cB,cC,fq,ci,cj,cu,fs,aR,eJ,aJ,bn,bj,bB,bI,bh,bi,be,bY,ca,ct,bF,bg,bE,cz,xt,dh,eH,dg,bN,cn,cp,b4,eG,eE,ei,fx,eX,eY,eF,eh,eW,oU,oT,oR,oS,Option.map_some,eV,eD,fw,cF,cE,az,List.map_cons,List.map_nil,List.length_cons,List.length_nil,List.cons_append,List.nil_append,List.replicate_succ,List.replicate_zero,List.getElem?_cons_zero,List.getElem?_cons_succ,List.set_cons_zero,List.set_cons_succ,aV,aX,aU,aW,Nat.reduceAdd,Nat.reduceSub,Int.reduceLE,Int.reduceLT,and_self,if_true,Nat.reduceLeDiff,Bool.not_true,Bool.not_false]),
  ak (σ₁:=σ) (η₁:=[some (.str r),some (.str []),some (.int 5),none,none]) (by dsimp only [cA,bZ,cw,cb,bb,cf,cy,ch,ck,cx,cg,cB,cC,fq,ci,cj,cu,fs,aR,eJ,aJ,bn,bj,bB,bI,bh,bi,be,bY,ca,ct,bF,bg,bE,cz,xt,dh,eH,dg,bN,cn,cp,b4,eG,eE,ei,fx,eX,eY,eF,eh,eW,oU,oT,oR,oS,Option.map_some,eV,eD,fw,cF,cE,az,List.map_cons,List.map_nil,List.length_cons,List.length_nil,List.cons_append,List.nil_append,List.replicate_succ,List.replicate_zero,List.getElem?_cons_zero,List.getElem?_cons_succ,List.set_cons_zero,List.set_cons_succ,aV,aX,aU,aW,Nat.reduceAdd,Nat.reduceSub,Int.reduceLE,Int.reduceLT,and_self,if_true,Nat.reduceLeDiff,Bool.not_true,Bool.not_false]),
  ak (σ₁:=σ) (η₁:=[some (.str r),some (.str []),some (.int 5),some (.int r.length),none]) (by dsimp only [cA,bZ,cw,cb,bb,cf,cy,ch,ck,cx,cg,cB,cC,fq,ci,cj,cu,fs,aR,eJ,aJ,bn,bj,bB,bI,bh,bi,be,bY,ca,ct,bF,bg,bE,cz,xt,dh,eH,dg,bN,cn,cp,b4,eG,eE,ei,fx,eX,eY,eF,eh,eW,oU,oT,oR,oS,Option.map_some,eV,eD,fw,cF,cE,az,List.map_cons,List.map_nil,List.length_cons,List.length_nil,List.cons_append,List.nil_append,List.replicate_succ,List.replicate_zero,List.getElem?_cons_zero,List.getElem?_cons_succ,List.set_cons_zero,List.set_cons_succ,aV,aX,aU,aW,Nat.reduceAdd,Nat.reduceSub,Int.reduceLE,Int.reduceLT,and_self,if_true,Nat.reduceLeDiff,Bool.not_true,Bool.not_false]),
  ak h']
 dsimp only [cA,bZ,cw,cb,bb,cf,cy,ch,ck,cx,cg,cB,cC,fq,ci,cj,cu,fs,aR,eJ,aJ,bn,bj,bB,bI,bh,bi,be,bY,ca,ct,bF,bg,bE,cz,xt,dh,eH,dg,bN,cn,cp,b4,eG,eE,ei,fx,eX,eY,eF,eh,eW,oU,oT,oR,oS,Option.map_some,eV,eD,fw,cF,cE,az,List.map_cons,List.map_nil,List.length_cons,List.length_nil,List.cons_append,List.nil_append,List.replicate_succ,List.replicate_zero,List.getElem?_cons_zero,List.getElem?_cons_succ,List.set_cons_zero,List.set_cons_succ,aV,aX,aU,aW,Nat.reduceAdd,Nat.reduceSub,Int.reduceLE,Int.reduceLT,and_self,if_true,Nat.reduceLeDiff,Bool.not_true,Bool.not_false]
theorem gS{cond:List AO->ac->Option (Bool × List AO)}{elt:List AO->ac->Option (V × List AO)}{i:Nat}{σ:List AO}{f:V->V}{p:V->Bool}:∀ (l:List V) (η:ac) (n:Nat),l.length < n ->
  (∀ x∈l,cond σ (η.set i (some x))=some (p x,σ))->(∀ x∈l,p x=true->elt σ (η.set i (some x))=some (f x,σ))->fR (.loc i) cond elt n (.seq l) σ η=some ((l.filter p).map f,σ)
 | [],η,0,h,_,_=>by simp at h
 | [],η,n + 1,_,_,_=>rfl
 | x::l,η,0,h,_,_=>by simp at h
 | x::l,η,n + 1,h,hc,he=>by
  have h':l.length < n:=by simpa using h
  have ih:=gS (cond:=cond) (elt:=elt) (i:=i) (σ:=σ) (f:=f) (p:=p) l (η.set i (some x)) n h' (fun y hy=>by rw [List.set_set];exact hc y (List.mem_cons_of_mem _ hy)) (fun y hy hp=>by rw [List.set_set];exact he y (List.mem_cons_of_mem _ hy) hp)
  show (match asF (.loc i) x η with | none=>none | some η₁=>_)=_
  show (match cond σ (η.set i (some x)) with | none=>none | some (false,σ₁)=>fR (.loc i) cond elt n (.seq l) σ₁ (η.set i (some x)) | some (true,σ₁)=>match elt σ₁ (η.set i (some x)) with | none=>none | some (v,σ₂)=>match fR (.loc i) cond elt n (.seq l) σ₂ (η.set i (some x)) with | none=>none | some (out,aj)=>some (v::out,aj))=_
  refine (hc x List.mem_cons_self) ▸ ?_
  cases hp:p x with
  | false =>
   rw [List.filter_cons,hp]
   exact ih
  | true =>
   dsimp only
   rw [he x List.mem_cons_self hp]
   dsimp only
   rw [ih,List.filter_cons,hp]
   rfl
section
variable {F:Fn} {σ:List AO} {η:ac} {vars:List Var} {i:Nat} {elt it cond:Ex} {x:V} {l:List V} {f:V->V} {p:V->Bool}
theorem bE1(hit:evx F it σ η=some (x,σ))(hl:a6 x=some (.seq l))(he:∀ y∈l,evx F elt σ ((clr η vars).set i (some y))=some (f y,σ))(hn:l.length<=lim):evx F (.comp vars (.loc i) elt it .nil) σ η=some (.lst (l.map f),σ):=by
 rw [iS,hit]
 dsimp only
 refine (hl) ▸ ?_
 dsimp only [ItS.fuel]
 rw [gS (f:=f) (p:=fun _=>true) l (clr η vars) (l.length + 1) (Nat.lt_succ_self _) (fun _ _=>rfl) (fun y hy _=>he y hy)]
 dsimp only
 rw [List.filter_eq_self.mpr (fun _ _=>rfl),List.length_map,if_pos hn]
theorem zi(hit:evx F it σ η=some (x,σ))(hl:a6 x=some (.seq l))(hc:∀ y∈l,evt F cond σ ((clr η vars).set i (some y))=some (p y,σ))(he:∀ y∈l,p y=true->evx F elt σ ((clr η vars).set i (some y))=some (f y,σ))(hn:l.length<=lim)(hnil:cond≠.nil) :
  evx F (.comp vars (.loc i) elt it cond) σ η=some (.lst ((l.filter p).map f),σ):=by
 rw [iS,hit]
 dsimp only
 refine (hl) ▸ ?_
 dsimp only [ItS.fuel]
 rw [gS (f:=f) (p:=p) l (clr η vars) (l.length + 1) (Nat.lt_succ_self _) (fun y hy=>?_) (fun y hy hp=>he y hy hp)]
 ·dsimp only
  rw [List.length_map,if_pos (Nat.le_trans (List.length_filter_le _ _) hn)]
 ·have:=hc y hy
  unfold evt at this
  cases cond <;> first | exact this | exact absurd rfl hnil
end
theorem nr(n:Nat):(Builtin.Range.rangeSize 0 n 1).toNat=n:=by
 unfold Builtin.Range.rangeSize
 simp
 split <;> lia
noncomputable def zD(n:Nat):List V:=(List.range n).map fun (k:Nat)=>V.int (k:Int)
theorem jd(n:Nat):eP 0 n 1=zD n:=by
 unfold eP zD
 rw [nr]
 simp
theorem dy{F:Fn}{σ:List AO}{η:ac}{e:Ex}{n:Nat}(h:evx F e σ η=some (.int n,σ))(hn:n<=1000000):evx F (.range (.cons e .nil)) σ η=some (.rng 0 n 1,σ):=by
 rw [aR,bb,h]
 dsimp only
 refine (cb) ▸ ?_
 dsimp only
 show (if nn 0 n 1 then some (V.rng 0 n 1) else none).map _=_
 have:nn 0 n 1=true:=by unfold nn;simp;exact Int.ofNat_le.mpr ‹_›
 rw [if_pos this];rfl
theorem kG:∀ l:List (List Nat),g9 (l.map V.str)=some l
 | []=>rfl
 | x::l=>by show (g9 (l.map V.str)).map (x::·)=_;rw [kG l];rfl
theorem nT:∀ l:List (List Nat),gk [] l=l.flatten
 | []=>rfl
 | [x]=>(List.append_nil x).symm
 | x::y::l=>by show x++[]++gk [] (y::l)=x++(y::l).flatten;rw [List.append_nil,nT (y::l)]
theorem i0:∀ l:List (List Nat),cO l=l.flatten.length
 | []=>rfl
 | x::l=>by rw [cO,i0 l];simp
theorem ri{σ:List AO}(l:List (List Nat))(h:l.flatten.length<=lim):meF .join σ (.str []) [.lst (l.map V.str)]=some (.str l.flatten):=by
 show (match g9 (l.map V.str) with | some ys=>if cO ys + ys.length * ([]:List Nat).length<=lim then some (V.str (gk [] ys)) else none | none=>none)=_
 rw [kG]
 dsimp only
 rw [i0,nT,if_pos (by exact h)]
theorem hY1{F:Fn}{σ:List AO}{η:ac}{f:Me}{o args:Ex}{u w:V}{vs:List V}(h1:evx F o σ η=some (u,σ))(ht:j2 σ u=some f.T)(h2:evs F args σ η=some (vs,σ))(h3:meF f σ u vs=some w):evx F (.me f o args) σ η=some (w,σ):=by
 rw [eJ,h1]
 dsimp only
 rw [if_pos ht,h2]
 dsimp only
 rw [h3];rfl
theorem ck1{F:Fn}{σ:List AO}{η:ac}{e e':Ex}{v v':V}(h:evx F e σ η=some (v,σ))(h':evx F e' σ η=some (v',σ)):evs F (.cons e (.cons e' .nil)) σ η=some ([v,v'],σ):=by
 rw [bb,h]
 dsimp only
 rw [fK h']
noncomputable abbrev dbq(l:List Nat):List Nat:=StrLaws.dbl 34 l
theorem gR:∀ l:List Nat,(dbq l).length<=2 * l.length
 | []=>Nat.zero_le _
 | k::r=>by
  have ih:=gR r
  show (if k=34 then k::k::dbq r else k::dbq r).length<=_
  split <;> simp <;> solve_by_elim (maxDepth:=4) only [*,Nat.le_trans,Nat.lt_of_lt_of_le,Nat.lt_of_le_of_lt,Nat.le_of_lt,Nat.le_of_eq,Nat.le_refl,Eq.symm,Nat.le_add_right,Nat.le_add_left,Nat.le_succ,Nat.sub_le,Nat.succ_le_succ,Nat.lt_succ_of_le,Nat.le_of_lt_succ,Nat.zero_le,Nat.succ_pos,Int.ofNat_le.mpr,Int.ofNat_lt.mpr,Int.natCast_nonneg,Nat.not_le.mpr,Nat.not_lt.mpr,Nat.not_le.mp,Nat.not_lt.mp]
theorem fY1{σ:List AO}(l:List Nat)(h:l.length<=100000):meF .replace σ (.str l) [.str [34],.str [34,34]]=some (.str (dbq l)):=by
 have e:(Txt.replace (S' l) (S' [34]) (S' [34,34])).cps.toList=dbq l:=by
  have:=StrLaws.replace_double ⟨l.toArray⟩ 34
  simpa using this
 show (if ([34]:List Nat)=[34,34] then none else if l.length + (l.length + 1) * ([34,34]:List Nat).length<=16000000/\(Txt.replace (S' l) (S' [34]) (S' [34,34])).cps.toList.length<=lim then some (V.str (Txt.replace (S' l) (S' [34]) (S' [34,34])).cps.toList) else none)=_
 rw [if_neg (by decide),e,if_pos]
 have:=gR l
 refine ⟨?_,?_⟩
 ·simp;lia
 ·unfold lim;lia
theorem nq(z:List Nat):∀ l:List Nat,eO (dbq l++34::32::z)=l
 | []=>kK z (by decide)
 | k::r=>by
  have ih:=nq z r
  show eO ((if k=34 then k::k::dbq r else k::dbq r)++34::32::z)=_
  split
  ·rename_i h
   subst h
   show eO (34::34::(dbq r++34::32::z))=_
   rw [q7,ih]
  ·rename_i h
   show eO (k::(dbq r++34::32::z))=_
   rw [uH _ h,ih]
noncomputable def ai(k:Nat):Nat:=if k=0 then 34 else 96 + k
noncomputable def b3v(c:Nat):List Nat:=match gB3 c with | some l=>l | none=>pF c
noncomputable def j5(c:Nat):Bool:=!sB1 (c:Int)
noncomputable def ji(t:List Nat):List Nat:=((t.filter j5).map b3v).flatten
theorem hK(a b:List Nat):ji (a++b)=ji a++ji b:=by unfold ji;simp
theorem qX:((List.range 4).all fun k=>(List.range 12).all fun r=>match ng (k:Nat) r with | [c]=>j5 c && (b3v c == [ai k]) && decide ((pF c).length<=lim) | _=>false)=true:=by decide +kernel
theorem uM:((List.range 54).all fun q=>match yI (q:Nat) with | []=>true | [c]=>!j5 c | _=>false)=true:=by decide +kernel
theorem sk{k:Nat}(hk:k < 4)(x:Int):ji (ew (k:Nat) x)=[ai k]:=by
 have r0:0<=x % 12:=Int.emod_nonneg _ (by decide)
 have r1:x % 12 < 12:=Int.emod_lt_of_pos _ (by decide)
 have q0:0<=x / 12 % 54:=Int.emod_nonneg _ (by decide)
 have q1:x / 12 % 54 < 54:=Int.emod_lt_of_pos _ (by decide)
 unfold ew
 obtain ⟨r,hr⟩:=Int.eq_ofNat_of_zero_le r0
 obtain ⟨q,hq⟩:=Int.eq_ofNat_of_zero_le q0
 rw [hr,hq,Int.toNat_natCast,hK]
 have h1:=List.all_eq_true.mp (List.all_eq_true.mp qX k (List.mem_range.mpr hk)) r (List.mem_range.mpr (by lia))
 have h2:=List.all_eq_true.mp uM q (List.mem_range.mpr (by omega))
 have e1:ji (yI (q:Int))=[]:=by
  split at h2
  ·rename_i e;rw [e];rfl
  ·rename_i c e
   rw [e]
   simp only [Bool.not_eq_true'] at h2
   unfold ji
   rw [List.filter_cons,h2];rfl
  ·exact ftr h2
 have e2:ji (ng (k:Int) r)=[ai k]:=by
  split at h1
  ·rename_i c e
   rw [e]
   simp only [Bool.and_eq_true,beq_iff_eq] at h1
   unfold ji
   rw [List.filter_cons,h1.1.1]
   simp [h1.1.2]
  ·exact ftr h1
 rw [e1,e2];rfl
theorem u9{k:Nat}(hk:k < 4)(x:Int):∀ c∈ew (k:Nat) x,j5 c=true->(pF c).length<=lim:=by
 have r0:0<=x % 12:=Int.emod_nonneg _ (by decide)
 have r1:x % 12 < 12:=Int.emod_lt_of_pos _ (by decide)
 have q0:0<=x / 12 % 54:=Int.emod_nonneg _ (by decide)
 have q1:x / 12 % 54 < 54:=Int.emod_lt_of_pos _ (by decide)
 unfold ew
 obtain ⟨r,hr⟩:=Int.eq_ofNat_of_zero_le r0
 obtain ⟨q,hq⟩:=Int.eq_ofNat_of_zero_le q0
 rw [hr,hq,Int.toNat_natCast]
 have h1:=List.all_eq_true.mp (List.all_eq_true.mp qX k (List.mem_range.mpr hk)) r (List.mem_range.mpr (by lia))
 have h2:=List.all_eq_true.mp uM q (List.mem_range.mpr (by omega))
 intro c hc hs
 refine Or.elim (List.mem_append.mp hc) (fun hc=>?_) (fun hc=>?_)
 ·split at h2
  ·rename_i e;replace hc:=(e) ▸ hc;cases hc
  ·rename_i d e
   rw [e,List.mem_singleton] at hc
   subst hc
   rw [hs] at h2;exact ftr h2
  ·exact ftr h2
 ·split at h1
  ·rename_i d e
   rw [e,List.mem_singleton] at hc
   subst hc
   simp only [Bool.and_eq_true,decide_eq_true_eq] at h1
   exact h1.2
  ·exact ftr h1
theorem lx(kind x:Int):(ew kind x).length<=2:=by
 unfold ew yI ng
 split <;> split <;> (try split) <;> simp
theorem sH{σ:List AO}{k:Nat}(hk:k < 4):meF .index σ (.str [34,97,98,99]) [.str [ai k]]=some (.int (k:Nat)):=by
 have:∀ k < 4,(match Builtin.Str.occurrences (S' [34,97,98,99]) (S' [ai k]) 0 ([34,97,98,99]:List Nat).length 1 with | i::_=>some (i:Nat) | []=>none)=some k:=by decide +kernel
 have h:=this k hk
 show (match Builtin.Str.occurrences (S' [34,97,98,99]) (S' [ai k]) 0 ([34,97,98,99]:List Nat).length 1 with | i::_=>some (V.int i) | []=>none)=_
 split at h
 ·obtain rfl:=siX h;rfl
 ·exact nso h
structure FnOk (F:Fn):Prop where
 typed:∀ (σ:List AO) (kind x:Int),0<=kind->kind<=3->F 5 [.int kind,.int x] σ=some (.str (ew kind x),σ)
 parse:∀ (σ:List AO) (t:List Nat),t.length<=900->F 2 [.str ([50,53,55,32,34]++t)] σ=some (.str (eO t),σ)
 b1:∀ (σ:List AO) (c:Nat),F 3 [.str [c]] σ=some (.bool (sB1 c),σ)
 b3:∀ (σ:List AO) (c:Nat),(pF c).length<=lim->F 4 [.str [c]] σ=some (.str (b3v c),σ)
noncomputable def TT(ks:List Nat)(ws:List Int)(part:Int)(k:Nat):List Nat:=ew (ks.getD k 0:Nat) (ws.getD k 0 / part)
noncomputable def fy(ks:List Nat)(ws:List Int)(part:Int):List Nat:=((List.range 8).map (TT ks ws part)).flatten
theorem hJ{ks:List Nat}{ws:List Int}{part:Int}(h:∀ k∈ks,k < 4):∀ l:List Nat,(∀ i∈l,i < ks.length)->ji (l.map (TT ks ws part)).flatten=l.map (fun i=>ai (ks.getD i 0))
 | [],_=>rfl
 | i::l,hl=>by
  rw [List.map_cons,List.flatten_cons,hK,hJ h l (fun j hj=>hl j (List.mem_cons_of_mem _ hj)),List.map_cons]
  have hi:=hl i List.mem_cons_self
  have hk:ks.getD i 0 < 4:=by
   rw [List.getD_eq_getElem?_getD,List.getElem?_eq_getElem hi]
   exact h _ (List.getElem_mem hi)
  unfold TT
  rw [sk hk];rfl
theorem sj(ks:List Nat)(f:Nat->Nat):(List.range ks.length).map (fun i=>f (ks.getD i 0))=ks.map f:=by
 apply List.ext_getElem?
 intro i
 rw [List.getElem?_map,List.getElem?_map]
 by_cases h:i < ks.length
 ·rw [List.getElem?_range h,List.getElem?_eq_getElem h]
  simp [List.getD_eq_getElem?_getD,List.getElem?_eq_getElem h]
 ·rw [List.getElem?_eq_none (by simp;exact Nat.not_lt.mp ‹_›),List.getElem?_eq_none (by exact Nat.not_lt.mp ‹_›)];rfl
theorem uL{ks:List Nat}{ws:List Int}{part:Int}(h:∀ k∈ks,k < 4)(hl:ks.length=8):ji (fy ks ws part)=ks.map ai:=by
 unfold fy
 rw [hJ h _ (fun i hi=>by rw [hl];exact List.mem_range.mp hi)]
 have:=sj ks ai
 rw [hl] at this
 exact this
theorem fD{ks:List Nat}{ws:List Int}{part:Int}:∀ l:List Nat,((l.map (TT ks ws part)).flatten).length<=2 * l.length
 | []=>Nat.zero_le _
 | i::l=>by
  rw [List.map_cons,List.flatten_cons,List.length_append,List.length_cons]
  have:=fD (ks:=ks) (ws:=ws) (part:=part) l
  have h2:(TT ks ws part i).length<=2:=lx _ _
  lia
theorem lw(ks:List Nat)(ws:List Int)(part:Int):(fy ks ws part).length<=16:=by
 have:=fD (ks:=ks) (ws:=ws) (part:=part) (List.range 8)
 rw [List.length_range] at this
 exact this
theorem xH{ks:List Nat}{ws:List Int}{part:Int}(h:∀ k∈ks,k < 4)(hl:ks.length=8):∀ c∈fy ks ws part,j5 c=true->(pF c).length<=lim:=by
 intro c hc hs
 refine byQ fun Q kQ=>?_
 unfold fy at hc
 refine aO (List.mem_flatten.mp hc) fun t ht hct=>?_
 obtain ⟨i,hi,rfl⟩:=List.mem_map.mp ht
 have hi':i < ks.length:=by rw [hl];exact List.mem_range.mp hi
 have hk:ks.getD i 0 < 4:=by
  rw [List.getD_eq_getElem?_getD,List.getElem?_eq_getElem hi']
  exact h _ (List.getElem_mem hi')
 refine kQ ?_
 exact u9 hk _ c hct hs
theorem ma{ks:List Nat}{i:Nat}(h:i < ks.length):ks[i]?=some (ks.getD i 0):=by
 rw [List.getD_eq_getElem?_getD,List.getElem?_eq_getElem h];rfl
theorem nY{ks:List Int}{i:Nat}(h:i < ks.length):ks[i]?=some (ks.getD i 0):=by
 rw [List.getD_eq_getElem?_getD,List.getElem?_eq_getElem h];rfl
theorem kA{σ:List AO}{ks:List Nat}{i:Nat}(hi:i < ks.length)(hl:ks.length<=1000000):ez σ (.str (ks.map ai)) (.int i)=some (.str [ai (ks.getD i 0)]):=by
 rw [bB1 (by exact Int.natCast_nonneg _) (by lia) (by rw [List.length_map];exact Int.ofNat_le.mpr ‹_›),Int.toNat_natCast,List.getElem?_map,ma hi];rfl
theorem tR{σ:List AO}{ws:List Int}{i:Nat}(hi:i < ws.length)(hl:ws.length<=1000000):ez σ (.lst (ws.map V.int)) (.int i)=some (.int (ws.getD i 0)):=by
 rw [zh (by exact Int.natCast_nonneg _) (by lia) (by rw [List.length_map];exact Int.ofNat_le.mpr ‹_›),Int.toNat_natCast,List.getElem?_map,nY hi];rfl
noncomputable def fT(ks:List Nat)(ws:List Int)(part:Int):V->V
 | .int i=>.str (TT ks ws part i.toNat)
 | _=>.none
theorem dK1(ks:List Nat)(ws:List Int)(part:Int)(n:Nat):(zD n).map (fT ks ws part)=((List.range n).map (TT ks ws part)).map V.str:=by
 unfold zD
 rw [List.map_map,List.map_map]
 apply List.map_congr_left
 intro k _
 rfl
noncomputable def fB:V->V
 | .str [c]=>.str (b3v c)
 | _=>.none
noncomputable def pB:V->Bool
 | .str [c]=>j5 c
 | _=>false
theorem yZ:∀ t:List Nat,((t.map fun c=>V.str [c]).filter pB).map fB=((t.filter j5).map b3v).map V.str
 | []=>rfl
 | c::t=>by
  have ih:=yZ t
  rw [List.map_cons,List.filter_cons,List.filter_cons]
  show (if j5 c=true then _ else _:List V).map fB=_
  split
  ·rw [List.map_cons,ih,List.map_cons,List.map_cons];rfl
  ·exact ih
theorem sU{F:Fn}(K:FnOk F){σ:List AO}{η:ac}{ks:List Nat}{ws:List Int}{part:Int}{i:Nat}(h0:η[0]?=some (some (.str (ks.map ai))))(h1:η[1]?=some (some (.lst (ws.map V.int))))(h2:η[2]?=some (some (.int part)))(h5:η[5]?=some (some (.int i)))
  (hi:i < ks.length) (hw:i < ws.length) (hl:ks.length<=1000000) (hl':ws.length<=1000000) (hk:ks.getD i 0 < 4) (hp:1<=part) (hp':part < 1000000000) :
  evx F (.call 5 (.cons (.me .index (.cst (.str [34,97,98,99])) (.cons (.idx (.loc 0) (.loc 5)) .nil)) (.cons (.bin .FloorDiv (.idx (.loc 1) (.loc 5)) (.loc 2)) .nil))) σ η=some (.str (TT ks ws part i),σ) :=
 eu (aK (za rfl rfl (fK (dJ (aq h0) (aq h5) (kA hi hl))) (sH hk)) (fK (dd (dJ (aq h1) (aq h5) (tR hw hl')) (aq h2) (bN hp hp')))) (K.typed σ _ _ (Int.natCast_nonneg _) (by exact Int.ofNat_le.mpr (Nat.le_of_lt_succ hk)))
theorem sS{F:Fn}(K:FnOk F){σ:List AO}{η:ac}{T:List Nat}(h3:η[3]?=some (some (.str T)))(hT:T.length<=16) :
  evx F (.call 2 (.cons (.bin .Add (.bin .Add (.cst (.str [50,53,55,32,34])) (.rep (.loc 3) [34] [34,34])) (.cst (.str [34,32,122]))) .nil)) σ η=some (.str T,σ):=by
 have hq:=gR T
 have a4:=K.parse σ (dbq T++[34,32,122]) (by rw [List.length_append];exact (show (dbq T).length + 3<=900 by lia))
 rw [nq [122] T,← List.append_assoc] at a4
 exact eu (fK (dd (dd rfl (e21 (aq h3) (fY1 T (Nat.le_trans hT (by decide)))) (if_pos (by rw [show ([50,53,55,32,34]:List Nat).length=5 from rfl];unfold lim;lia))) rfl
  (if_pos (by rw [List.length_append,show ([50,53,55,32,34]:List Nat).length=5 from rfl,show ([34,32,122]:List Nat).length=3 from rfl];unfold lim;lia)))) a4
theorem vE{F:Fn}(K:FnOk F)(σ:List AO){ks:List Nat}{ws:List Int}{part:Int}(hk:∀ k∈ks,k < 4)(hl:ks.length=8)(hw:ws.length=8)(hp:1<=part)(hp':part < 1000000000) :
  jZ F 3 4 ek [.str (ks.map ai),.lst (ws.map V.int),.int part] σ=some (.str (ks.map ai),σ):=by
 have hlen:=lw ks ws part
 have hlow:=xH (ws:=ws) (part:=part) hk hl
 have hprep:=uL (ws:=ws) (part:=part) hk hl
 refine pg rfl ((j7 (v:=.str (fy ks ws part)) (za rfl rfl (fK (v:=.lst (((List.range 8).map (TT ks ws part)).map V.str)) ?_) (ri _ (Nat.le_trans hlen (by decide))))).trans ((j7 (sS K rfl hlen)).trans ((yu (j1 rfl rfl (eh.trans (congrArg (fun b=>some (!b)) BEq.rfl)))).trans
  (xk (za rfl rfl (fK (v:=.lst ((((fy ks ws part).filter j5).map b3v).map V.str)) ?_) (hprep ▸ ri _ (by rw [show (((fy ks ws part).filter j5).map b3v).flatten=ks.map ai from hprep,List.length_map,hl];decide)))))))
 ·rw [← dK1]
  refine bE1 (x:=.rng 0 8 1) (l:=zD 8) (dy (n:=8) rfl (by exact Nat.le_add_left _ _)) (congrArg some (congrArg ItS.seq (jd 8))) (fun y hy=>?_) (by decide)
  refine aO (List.mem_map.mp hy) fun i hi e=>?_
  have hi8:i < 8:=List.mem_range.mp hi
  have hi':i < ks.length:=hl ▸ hi8
  have hki:ks.getD i 0 < 4:=by
   rw [List.getD_eq_getElem?_getD,List.getElem?_eq_getElem hi']
   exact hk _ (List.getElem_mem hi')
  subst e
  exact sU K rfl rfl rfl rfl hi' (hw ▸ hi8) (hl ▸ by decide) (hw ▸ by decide) hki hp hp'
 ·rw [← yZ]
  refine zi (x:=.str (fy ks ws part)) (l:=(fy ks ws part).map fun c=>.str [c]) rfl rfl (fun y hy=>aO (List.mem_map.mp hy) fun c hc e=>?_) (fun y hy hpy=>aO (List.mem_map.mp hy) fun c hc e=>?_) (by rw [List.length_map];exact Nat.le_trans hlen (by decide)) nofun
  ·subst e
   exact oX (e31 (eu (fK (aq rfl)) (K.b1 σ c))) rfl
  ·subst e
   exact eu (fK (aq rfl)) (K.b3 σ c (hlow c hc hpy))
theorem rE{S:Type}{i:Nat}{b:List AO->ac->Out}(bl1:S->List AO)(bm1:S->ac)(step:S->V->S)(Inv:List V->S->Prop)
  (h:∀ x l s,Inv (x::l) s->b (bl1 s) ((bm1 s).set i (some x))=some (.next,bl1 (step s x),(bm1 (step s x)).set i (some x))/\Inv l (step s x)) :
  ∀ (l:List V) (s:S) (n:Nat) (u:Option V),l.length < n->Inv l s->∃ u',foN (.loc i) b n (.seq l) (bl1 s) ((bm1 s).set i u)=some (.next,bl1 (l.foldl step s),(bm1 (l.foldl step s)).set i u')
 | l,s,0,u,hn,_=>by simp at hn
 | [],s,n + 1,u,_,_=>⟨u,rfl⟩
 | x::l,s,n + 1,u,hn,hi=>by
  refine jm (h x l s hi) fun h1 h2=>?_
  obtain ⟨u',e⟩:=rE bl1 bm1 step Inv h l (step s x) n (some x) (by simpa using hn) h2
  refine ⟨u',?_⟩
  show (match b (bl1 s) (((bm1 s).set i u).set i (some x)) with | some (.next,σ₂,η₂)=>foN (.loc i) b n (.seq l) σ₂ η₂ | some (.brk,σ₂,η₂)=>some (.next,σ₂,η₂) | r=>r)=_
  rw [List.set_set,h1]
  exact e
structure XS where
 S:List Nat
 F:List Nat
 T:List (Option Nat)
noncomputable def cH(r:Nat)(ks:List Nat)(s:XS)(k:Nat):XS :=
 if ks.getD k 0=r + 1 then { s with S:=s.S++[k] }
 else if ks.getD k 0=r then match s.S.getLast? with
  | some j=>{ s with S:=s.S.dropLast,T:=s.T++[some j] }
  | none=>{ s with F:=s.F++[k],T:=s.T++[none] }
 else s
noncomputable def fH(r:Nat)(ks:List Nat)(l:List Nat):XS:=l.foldl (cH r ks) ⟨[],[],[]⟩
noncomputable def wu(r:Nat)(ks:List Nat)(s:XS)(k:Nat):Nat :=
 if k∈(s.F++s.S).take s.S.length then r else if k∈s.F++s.S then r + 1 else ks.getD k 0
noncomputable def exL(r:Nat)(ks:List Nat):List Nat:=(List.range 8).map (wu r ks (fH r ks (List.range 8)))
noncomputable def spc(k:Nat):List Nat:=tE [32] k
noncomputable def cR(r k:Nat):V:=.tup [.str (spc k),.str [ai (r + 1)]]
noncomputable def kE(r:Nat):Option Nat->V
 | some k=>cR r k
 | none=>.tup [.str [],.str []]
theorem lX{a b:Nat}(ha:a < 4)(hb:b < 4)(h:ai a=ai b):a=b:=by
 unfold ai at h
 split at h <;> split at h <;> lia
theorem lY{a b:Nat}(ha:a < 4)(hb:b < 4):([ai a] == [ai b])=decide (a=b):=by
 rw [Bool.eq_iff_iff]
 simp
 exact ⟨lX ha hb,fun h=>by rw [h]⟩
theorem o9(k:Nat):(spc k).length=k:=by
 unfold spc;rw [d7];simp
noncomputable def fg1(r:Nat)(ks:List Nat)(l:List V)(s:XS):Prop :=
 ∃ m:List Nat,l=m.map (fun (k:Nat)=>V.int (k:Int))/\(∀ k∈m,k < 8)/\s.S.length + m.length<=8/\s.F.length + m.length<=8/\s.T.length + m.length<=8
noncomputable def xσ(σ:List AO)(r:Nat)(s:XS):List AO:=σ++[⟨s.S.map (cR r),some (r:Int)⟩,⟨s.F.map (fun (k:Nat)=>V.int (k:Int)),none⟩,⟨s.T.map (kE r),none⟩]
theorem tO(σ:List AO)(r:Nat)(s:XS):(xσ σ r s)[σ.length]?=some ⟨s.S.map (cR r),some (r:Int)⟩:=by
 unfold xσ;simp
theorem bz1(σ:List AO)(r:Nat)(s:XS):(xσ σ r s)[σ.length + 1]?=some ⟨s.F.map (fun (k:Nat)=>V.int (k:Int)),none⟩:=by
 unfold xσ
 rw [List.getElem?_append_right (by exact Nat.le_succ _)]
 have:σ.length + 1 - σ.length=1:=by lia
 rw [this];rfl
theorem zd(σ:List AO)(r:Nat)(s:XS):(xσ σ r s)[σ.length + 2]?=some ⟨s.T.map (kE r),none⟩:=by
 unfold xσ
 rw [List.getElem?_append_right (by exact Nat.le_add_right _ _)]
 have:σ.length + 2 - σ.length=2:=by lia
 rw [this];rfl
theorem lH(σ l:List AO)(j:Nat)(o:AO):(σ++l).set (σ.length + j) o=σ++l.set j o:=by
 rw [List.set_append_right _ _ (by exact Nat.le_add_right _ _)]
 congr 2
 lia
theorem iL(σ l:List AO)(o:AO):(σ++l).set σ.length o=σ++l.set 0 o:=lH σ l 0 o
structure AccOk (F:Fn):Prop where
 acc:∀ vs σ,F 0 vs σ=cR1 vs σ
 push:∀ vs σ,F 11 vs σ=sr vs σ
 popFrom:∀ vs σ,F 12 vs σ=d8 vs σ
 pop:∀ vs σ,F 13 vs σ=bn1 vs σ
noncomputable def xη(ks:List Nat)(r:Nat)(σ:List AO)(u:Option V):ac:=[some (.str (ks.map ai)),some (.int r),some (.str [ai r]),some (.str [ai (r + 1)]),some (.ref σ.length),some (.ref (σ.length + 1)),some (.ref (σ.length + 2)),u,none,none,none,none,none,none,none]
noncomputable def xB1:Sx:=(.seq (.expr (.meth 11 (.loc 4) (.cons (.bin .Mult (.cst (.str [32])) (.loc 7)) (.cons (.loc 3) .nil)))) .skip)
noncomputable def xB2:Sx:=(.seq (.expr (.append (.loc 6) (.meth 13 (.loc 4) .nil)))
 (.seq (.ite (.cmp .Eq (.idx (.loc 6) (.neg (.cst (.int 1)))) (.tup (.cons (.cst (.str [])) (.cons (.cst (.str [])) .nil)))) (.seq (.expr (.append (.loc 5) (.loc 7))) .skip) .skip)
 .skip))
noncomputable def xB:Sx:=(.seq (.ite (.cmp .Eq (.idx (.loc 0) (.loc 7)) (.loc 3)) xB1 (.seq (.ite (.cmp .Eq (.idx (.loc 0) (.loc 7)) (.loc 2)) xB2 .skip) .skip)) .skip)
section
variable {F:Fn} {σ:List AO} {ks:List Nat} {r k:Nat} {s:XS}
theorem xb1(K:AccOk F)(hk:k < 8)(hS:s.S.length < 8):exs F xB1 (xσ σ r s) (xη ks r σ (some (.int k)))=some (.next,xσ σ r { s with S:=s.S++[k] },xη ks r σ (some (.int k))):=by
 have a1:qj .Mult (.str [32]) (.int (k:Int))=some (.str (spc k)):=b4.trans (if_pos ⟨by lia,by exact Int.natCast_nonneg _,show 1 * k<=lim by unfold lim;lia⟩)
 have a5:sr [.ref σ.length,.str (spc k),.str [ai (r + 1)]] (xσ σ r s)=some (.none,xσ σ r { s with S:=s.S++[k] }):=by
  show (match (xσ σ r s)[σ.length]? with
   | some ⟨l,some i⟩=>if l.length < lim then some (V.none,(xσ σ r s).set σ.length ⟨l++[V.tup [.str (spc k),.str [ai (r + 1)]]],some i⟩) else none
   | _=>none)=_
  rw [tO]
  dsimp only
  rw [if_pos (by rw [List.length_map];exact Nat.lt_trans hS (by decide))]
  dsimp only [xσ]
  rw [iL]
  simp [cR]
 exact (uK (yv (aq rfl) (tO σ r s) (aK (dd rfl (aq rfl) a1) (fK (aq rfl))) ((K.push _ _).trans a5))).trans er
theorem cK{σ:List AO}{k:Nat}{l:List V}(h:σ[k]?=some ⟨l,none⟩):der σ (.ref k)=.lst l:=by
 show (match σ[k]? with | some ⟨items,none⟩=>V.lst items | _=>V.ref k)=_
 rw [h]
theorem wF{σ:List AO}{u:V}{i:Int}{l:List V}{j:Nat}(hi:-1000000000<=i/\i<=1000000000)(hd:der σ u=.lst l)(hj:seqIndex? i l.length=some j):ez σ u (.int i)=l[j]?:=by
 unfold ez
 dsimp only
 rw [if_pos hi,hd]
 dsimp only
 rw [hj]
theorem zZ(k:Nat):(spc k).all (· < 0x110000)=true:=by
 unfold spc
 induction k with
 | zero=>rfl
 | succ k ih =>
  show ([32]++tE [32] k).all (· < 0x110000)=true
  rw [List.all_append,ih];rfl
theorem lR{n r j:Nat}(hr:r < 3):okP (n + 1) (cR r j)=true:=by
 show (((spc j).all (· < 0x110000)) && (([ai (r + 1)].all (· < 0x110000)) && true))=true
 rw [zZ]
 have:ai (r + 1) < 0x110000:=by unfold ai;split <;> lia
 simp [this]
theorem dN1{σ:List AO}{t:Option Nat}(hr:r < 3):dF .Eq σ (kE r t) (.tup [.str [],.str []])=some t.isNone:=by
 show eqF σ (kE r t) (.tup [.str [],.str []])=_
 cases t with
 | none =>
  show some (veq (.tup [.str [],.str []]) (.tup [.str [],.str []]))=_
  simp [lq,f6,lr,iH]
 | some j =>
  show (if okP 4 (cR r j) && okP 4 (.tup [.str [],.str []]) then some (veq (cR r j) (.tup [.str [],.str []])) else none)=_
  rw [lR hr]
  have e2:okP 4 (.tup [.str [],.str []])=true:=rfl
  rw [e2,if_pos (by rfl)]
  unfold cR
  simp [lq,f6,lr,iH]
theorem xn(r:Nat)(l:List Nat):sm (l.map (cR r))=(kE r l.getLast?,l.dropLast.map (cR r)):=by
 unfold sm
 rw [List.getLast?_map,List.map_dropLast]
 cases h:l.getLast? with
 | none=>rw [List.getLast?_eq_none_iff.mp h];rfl
 | some j=>rfl
theorem fP1:bn1 [.ref σ.length] (xσ σ r s)=some (kE r s.S.getLast?,xσ σ r { s with S:=s.S.dropLast }):=by
 show (match (xσ σ r s)[σ.length]? with
  | some ⟨l,some i⟩=>some ((sm l).1,(xσ σ r s).set σ.length ⟨(sm l).2,some i⟩)
  | _=>none)=_
 rw [tO]
 dsimp only
 rw [xn]
 dsimp only [xσ]
 rw [iL];rfl
theorem wC(t:Option Nat)(T:List (Option Nat))(hl:T.length < 8):ez (xσ σ r { s with T:=T++[t] }) (.ref (σ.length + 2)) (.int (-1))=some (kE r t):=by
 rw [wF (j:=T.length) (by decide) (cK (zd σ r { s with T:=T++[t] })) ((hH (by decide) (by rw [List.length_map,List.length_append];simp;lia)).trans (congrArg some (by rw [List.length_map,List.length_append];simp;lia)))]
 simp
theorem xb2(K:AccOk F)(hr:r < 3)(hk:k < 8)(hF:s.F.length < 8)(hT:s.T.length < 8):exs F xB2 (xσ σ r s) (xη ks r σ (some (.int k)))=some (.next,xσ σ r (match s.S.getLast? with
  | some j=>{ s with S:=s.S.dropLast,T:=s.T++[some j] }
  | none=>{ s with F:=s.F++[k],T:=s.T++[none] }),xη ks r σ (some (.int k))):=by
 have aT:(xσ σ r { s with S:=s.S.dropLast }).set (σ.length + 2) ⟨s.T.map (kE r)++[kE r s.S.getLast?],none⟩=xσ σ r { s with S:=s.S.dropLast,T:=s.T++[s.S.getLast?] }:=by
  dsimp only [xσ]
  rw [lH];simp
 have c1:=uK (R:=(.seq (.ite (.cmp .Eq (.idx (.loc 6) (.neg (.cst (.int 1)))) (.tup (.cons (.cst (.str [])) (.cons (.cst (.str [])) .nil)))) (.seq (.expr (.append (.loc 5) (.loc 7))) .skip) .skip) .skip))
  (qI (F:=F) (η:=xη ks r σ (some (.int k))) (a:=.loc 6) (b:=.meth 13 (.loc 4) .nil) (aq rfl) (zd σ r s) (yv (aq rfl) (tO σ r s) dc ((K.pop _ _).trans fP1)) (zd σ r _) (by rw [List.length_map];exact Nat.lt_trans hT (by decide)))
 refine c1.trans ?_
 refine (aT) ▸ ?_
 refine (xl (j1 (dJ (aq rfl) rfl (wC (s:={ s with S:=s.S.dropLast }) s.S.getLast? s.T hT)) (wA rfl (by decide)) (dN1 hr)) ?_).trans er
 cases hS:s.S.getLast? with
 | none =>
  have hn:s.S.dropLast=s.S:=by rw [List.getLast?_eq_none_iff.mp hS];rfl
  have aF:(xσ σ r { s with T:=s.T++[none] }).set (σ.length + 1) ⟨s.F.map (fun (k:Nat)=>V.int (k:Int))++[.int k],none⟩=xσ σ r { s with F:=s.F++[k],T:=s.T++[none] }:=by
   dsimp only [xσ]
   rw [lH];simp
  rw [hn]
  refine (if_pos rfl).trans ((uK (qI (aq rfl) (bz1 σ r _) (aq rfl) (bz1 σ r _) (by rw [List.length_map];exact Nat.lt_trans hF (by decide)))).trans ?_)
  exact congrArg (fun z=>some (Fl.next,z,xη ks r σ (some (.int k)))) aF
 | some j=>exact if_neg Bool.false_ne_true
theorem fe1(K:AccOk F)(hr:r < 3)(hk:k < 8)(hl:ks.length=8)(h4:∀ k∈ks,k < 4)(hS:s.S.length < 8)(hF:s.F.length < 8)(hT:s.T.length < 8) :
  exs F xB (xσ σ r s) (xη ks r σ (some (.int k)))=some (.next,xσ σ r (cH r ks s k),xη ks r σ (some (.int k))):=by
 have hk':k < ks.length:=hl ▸ hk
 have hk4:ks.getD k 0 < 4:=by
  rw [List.getD_eq_getElem?_getD,List.getElem?_eq_getElem hk']
  exact h4 _ (List.getElem_mem _)
 have a1:=kA (σ:=xσ σ r s) (ks:=ks) (i:=k) hk' (hl ▸ by decide)
 unfold cH
 refine (xl (j1 (dJ (aq rfl) (aq rfl) a1) (aq rfl) (eF.trans (congrArg some (lY hk4 (Nat.succ_lt_succ hr))))) ?_).trans er
 by_cases h1:ks.getD k 0=r + 1
 ·rw [decide_eq_true h1,if_pos h1]
  exact (if_pos rfl).trans (xb1 K hk hS)
 ·rw [decide_eq_false h1,if_neg h1]
  refine (if_neg Bool.false_ne_true).trans ((xl (j1 (dJ (aq rfl) (aq rfl) a1) (aq rfl) (eF.trans (congrArg some (lY hk4 (Nat.lt_succ_of_lt hr))))) ?_).trans er)
  by_cases h2:ks.getD k 0=r
  ·rw [decide_eq_true h2,if_pos h2]
   exact (if_pos rfl).trans ((xb2 K hr hk hF hT).trans (by cases s.S.getLast? <;> rfl))
  ·rw [decide_eq_false h2,if_neg h2]
   exact if_neg Bool.false_ne_true
noncomputable def tY(r:Nat)(ks:List Nat)(s:XS)(v:V):XS:=match v with
 | .int k=>cH r ks s k.toNat
 | _=>s
theorem bG1(r:Nat)(ks:List Nat):∀ (l:List Nat) (s:XS),(l.map fun (k:Nat)=>V.int (k:Int)).foldl (tY r ks) s=l.foldl (cH r ks) s
 | [],s=>rfl
 | k::l,s=>by
  rw [List.map_cons,List.foldl_cons,List.foldl_cons,bG1 r ks l]
  rfl
theorem mY(r:Nat)(ks:List Nat)(s:XS)(k:Nat):(cH r ks s k).S.length<=s.S.length + 1/\(cH r ks s k).F.length<=s.F.length + 1/\(cH r ks s k).T.length<=s.T.length + 1:=by
 unfold cH
 split
 ·simp
 ·split
  ·split <;> simp <;> exact Nat.le_trans (Nat.le_succ s.S.length) (Nat.le_add_right s.S.length.succ 1)
  ·simp
theorem e81(K:AccOk F)(hr:r < 3)(hl:ks.length=8)(h4:∀ k∈ks,k < 4){x:V}{l:List V}(h:fg1 r ks (x::l) s) :
  exs F xB (xσ σ r s) ((xη ks r σ none).set 7 (some x))=some (.next,xσ σ r (tY r ks s x),(xη ks r σ none).set 7 (some x))/\fg1 r ks l (tY r ks s x):=by
 refine bq1 h fun m e h1 h2 h3 h5=>?_
 cases m with
 | nil=>exact nomatch e
 | cons k m =>
  have e':=List.cons.inj e
  rw [e'.1,e'.2]
  have hk:=h1 k List.mem_cons_self
  have z:=mY r ks s k
  have up:∀ {a b:Nat},a<=b + 1->b + (m.length + 1)<=8->a + m.length<=8:=fun h h'=>by lia
  have lt:∀ {b:Nat},b + (m.length + 1)<=8->b < 8:=fun h=>by exact Nat.lt_of_le_of_lt (Nat.le_add_right _ _) ‹_›
  exact ⟨fe1 K hr hk hl h4 (lt h2) (lt h3) (lt h5),m,rfl,fun j hj=>h1 j (List.mem_cons_of_mem _ hj),up z.1 h2,up z.2.1 h3,up z.2.2 h5⟩
theorem fa1(K:AccOk F)(hr:r < 3)(hl:ks.length=8)(h4:∀ k∈ks,k < 4):∃ u,exs F (.for_ (.loc 7) (.range (.cons (.cst (.int 8)) .nil)) xB) (xσ σ r ⟨[],[],[]⟩) (xη ks r σ none)=some (.next,xσ σ r (fH r ks (List.range 8)),xη ks r σ u):=by
 refine a7 (rE (i:=7) (b:=fun σ η=>exs F xB σ η) (fun s=>xσ σ r s) (fun _=>xη ks r σ none) (tY r ks) (fg1 r ks) (fun x l s h=>e81 K hr hl h4 h) (zD 8) ⟨[],[],[]⟩ 9 none (by decide) ⟨List.range 8,rfl,fun k hk=>List.mem_range.mp hk,by decide,by decide,by decide⟩) fun u h=>⟨u,?_⟩
 refine (by1 (dy (n:=8) rfl (by decide)) (congrArg some (congrArg ItS.seq (jd 8)))).trans ?_
 rw [show (zD 8).foldl (tY r ks) ⟨[],[],[]⟩=fH r ks (List.range 8) from bG1 r ks _ _] at h
 exact h
end
theorem uo{α:Type}(l:List α)(n:Nat)(h:n<=l.length):j4 l none (some (n:Int)) none=l.take n:=by
 unfold j4
 have e:sliceBounds none (some (n:Int)) none l.length=(((0:Nat):Int),(n:Int),1):=by
  simp only [sliceBounds,Option.getD_none]
  have h1:¬ ((n:Int) < 0):=by lia
  simp only [h1,if_false,show (1:Int) > 0 by decide,if_true]
  congr 2
  lia
 rw [e]
 dsimp only
 rw [sliceRange_one]
 have:=pick_run l.toArray 0 (n - 0)
 simp only [List.getElem?_toArray] at this
 rw [this]
 simp
noncomputable def aa(l:List Nat):List V:=l.map fun (k:Nat)=>V.int (k:Int)
theorem jl(n:Nat):∀ l:List Nat,okPs n (aa l)=true
 | []=>rfl
 | _::l=>jl n l
theorem rV(k:Nat):∀ l:List Nat,(aa l).any (fun y=>veq y (.int (k:Int)))=decide (k∈l)
 | []=>rfl
 | j::l=>by
  have ih:=rV k l
  unfold aa at ih ⊢
  rw [List.map_cons,List.any_cons,ih,oZ]
  by_cases h:j=k
  ·subst h;simp
  ·have h1:¬ ((j:Int)=(k:Int)):=by lia
   have h2:¬ k=j:=fun e=>h e.symm
   simp [h1,h2]
theorem vq{σ:List AO}{u:V}{k:Nat}{l:List Nat}(hd:der σ u=.lst (aa l)):dF .In σ (.int (k:Int)) u=some (decide (k∈l)):=by
 show inF σ (.int (k:Int)) u=_
 unfold inF
 rw [hd]
 dsimp only
 rw [jl,rV]
 exact if_pos rfl
theorem wJ{r j k:Nat}:veq (cR r j) (cR r k)=decide (j=k):=by
 unfold cR
 simp only [lq,f6,lr,iH]
 rw [Bool.eq_iff_iff]
 simp
 constructor
 ·intro h
  have:=congrArg List.length h
  rw [o9,o9] at this
  exact this
 ·rintro rfl;rfl
theorem lQ{r:Nat}(hr:r < 3)(n:Nat):∀ T:List (Option Nat),okPs (n + 1) (T.map (kE r))=true
 | []=>rfl
 | none::T=>lQ hr n T
 | some j::T=>Bool.and_eq_true_iff.mpr ⟨lR (n:=n) (j:=j) hr,lQ hr n T⟩
theorem we{r k:Nat}:∀ T:List (Option Nat),(T.map (kE r)).any (fun y=>veq y (cR r k))=decide (some k∈T)
 | []=>rfl
 | t::T=>by
  rw [List.map_cons,List.any_cons,we T]
  cases t with
  | none =>
   have:veq (kE r none) (cR r k)=false:=by unfold kE cR;simp [lq,f6,lr,iH]
   refine (this) ▸ ?_
   simp
  | some j =>
   rw [show kE r (some j)=cR r j from rfl,wJ]
   by_cases h:j=k
   ·subst h;simp
   ·have h2:¬ k=j:=fun e=>h e.symm
    simp [h,h2]
theorem di1{σ:List AO}{u:V}{r k:Nat}{T:List (Option Nat)}(hr:r < 3)(hd:der σ u=.lst (T.map (kE r))):dF .In σ (cR r k) u=some (decide (some k∈T)):=by
 show inF σ (cR r k) u=_
 unfold inF
 rw [hd]
 show (if okP 3 (cR r k) && okPs 3 (T.map (kE r)) then some ((T.map (kE r)).any fun y=>veq y (cR r k)) else none)=_
 rw [lR hr,lQ hr,we,if_pos (by rfl)]
theorem uv{η:ac}{i j:Nat}{a b a' b':Option V}(h:i≠j):(((η.set i a).set j b).set i a').set j b'=(η.set i a').set j b':=by
 rw [List.set_comm _ _ (Ne.symm h),List.set_set,List.set_set]
theorem kZ{α:Type}{elt:List AO->ac->Option (V × List AO)}{i j:Nat}{σ:List AO}{fa fb f:α->V}(hij:i≠j):∀ (l:List α) (η:ac) (n:Nat),l.length < n ->
  (∀ x∈l,elt σ ((η.set i (some (fa x))).set j (some (fb x)))=some (f x,σ))->fR (.tup (.cons (.loc i) (.cons (.loc j) .nil))) (fun σ η=>some (true,σ)) elt n (.seq (l.map fun x=>.tup [fa x,fb x])) σ η=some (l.map f,σ)
 | l,η,0,h,_=>by simp at h
 | [],η,n + 1,_,_=>rfl
 | x::l,η,n + 1,h,he=>by
  have h':l.length < n:=by simpa using h
  have ih:=kZ (elt:=elt) (σ:=σ) (fa:=fa) (fb:=fb) (f:=f) hij l ((η.set i (some (fa x))).set j (some (fb x))) n h' (fun y hy=>by rw [uv hij];exact he y (List.mem_cons_of_mem _ hy))
  rw [List.map_cons]
  show (match elt σ ((η.set i (some (fa x))).set j (some (fb x))) with | none=>none | some (v,σ₂)=>match fR (.tup (.cons (.loc i) (.cons (.loc j) .nil))) (fun σ η=>some (true,σ)) elt n (.seq (l.map fun x=>.tup [fa x,fb x])) σ₂ ((η.set i (some (fa x))).set j (some (fb x))) with | none=>none | some (out,aj)=>some (v::out,aj))=_
  rw [he x List.mem_cons_self]
  dsimp only
  rw [ih]
  rfl
theorem zj{F:Fn}{σ σ':List AO}{η:ac}{vars:List Var}{i j:Nat}{elt it:Ex}{α:Type}{l:List α}{fa fb f:α->V}(hit:evx F it σ η=some (.lst (l.map fun x=>.tup [fa x,fb x]),σ'))(hij:i≠j)
  (he:∀ y∈l,evx F elt σ' (((clr η vars).set i (some (fa y))).set j (some (fb y)))=some (f y,σ')) (hn:l.length<=lim):evx F (.comp vars (.tup (.cons (.loc i) (.cons (.loc j) .nil))) elt it .nil) σ η=some (.lst (l.map f),σ'):=by
 rw [iS,hit]
 dsimp only [a6,ItS.fuel]
 rw [List.length_map,kZ (f:=f) hij l (clr η vars) (l.length + 1) (Nat.lt_succ_self _) he]
 dsimp only
 rw [List.length_map,if_pos hn]
theorem oh{α:Type}{elt:List AO->ac->Option (V × List AO)}{i:Nat}{σ:List AO}{g f:α->V}:∀ (l:List α) (η:ac) (n:Nat),l.length < n ->
  (∀ x∈l,elt σ (η.set i (some (g x)))=some (f x,σ))->fR (.loc i) (fun σ η=>some (true,σ)) elt n (.seq (l.map g)) σ η=some (l.map f,σ)
 | l,η,0,h,_=>by simp at h
 | [],η,n + 1,_,_=>rfl
 | x::l,η,n + 1,h,he=>by
  have h':l.length < n:=by simpa using h
  have ih:=oh (elt:=elt) (σ:=σ) (g:=g) (f:=f) l (η.set i (some (g x))) n h' (fun y hy=>by rw [List.set_set];exact he y (List.mem_cons_of_mem _ hy))
  rw [List.map_cons]
  show (match elt σ (η.set i (some (g x))) with | none=>none | some (v,σ₂)=>match fR (.loc i) (fun σ η=>some (true,σ)) elt n (.seq (l.map g)) σ₂ (η.set i (some (g x))) with | none=>none | some (out,aj)=>some (v::out,aj))=_
  rw [he x List.mem_cons_self]
  dsimp only
  rw [ih]
  rfl
theorem gz{F:Fn}{σ σ':List AO}{η:ac}{vars:List Var}{i:Nat}{elt it:Ex}{α:Type}{l:List α}{g f:α->V}{x:V}(hit:evx F it σ η=some (x,σ'))(hl:a6 x=some (.seq (l.map g)))
  (he:∀ y∈l,evx F elt σ' ((clr η vars).set i (some (g y)))=some (f y,σ')) (hn:l.length<=lim):evx F (.comp vars (.loc i) elt it .nil) σ η=some (.lst (l.map f),σ'):=by
 rw [iS,hit]
 dsimp only
 refine (hl) ▸ ?_
 dsimp only [ItS.fuel]
 rw [List.length_map,oh (f:=f) l (clr η vars) (l.length + 1) (Nat.lt_succ_self _) he]
 dsimp only
 rw [List.length_map,if_pos hn]
theorem hX(n:Nat):a6 (.rng 0 n 1)=some (.seq ((List.range n).map fun (k:Nat)=>V.int (k:Int))):=by
 exact congrArg some (congrArg ItS.seq (jd n))
theorem wH{σ:List AO}{k:Nat}(h:k < 4):ez σ (.str [34,97,98,99]) (.int (k:Int))=some (.str [ai k]):=by
 have:=kA (σ:=σ) (ks:=[0,1,2,3]) (i:=k) h (by decide)
 have e:[0,1,2,3].getD k 0=k:=by
  have h':k=0\/k=1\/k=2\/k=3:=by lia
  rcases h' with rfl | rfl | rfl | rfl <;> rfl
 replace this:=(e) ▸ this
 exact this
structure XB (r:Nat) (ks:List Nat) (s:XS) (n:Nat):Prop where
 S:s.S.length<=n
 F:s.F.length<=n
 T:s.T.length<=n
theorem ze{r:Nat}{ks:List Nat}{s:XS}{n k:Nat}(h:XB r ks s n):XB r ks (cH r ks s k) (n + 1):=by
 have z:=mY r ks s k
 exact ⟨by have:=h.S;omega,by have:=h.F;omega,by have:=h.T;omega⟩
theorem tQ(r:Nat)(ks:List Nat):∀ (l:List Nat) (s:XS) (n:Nat),XB r ks s n->XB r ks (l.foldl (cH r ks) s) (n + l.length)
 | [],s,n,h=>h
 | k::l,s,n,h=>by
  have:=tQ r ks l (cH r ks s k) (n + 1) (ze h)
  rw [show n + 1 + l.length=n + (k::l).length by simp;exact Nat.add_right_comm _ _ _] at this
  exact this
theorem wD{r:Nat}{ks:List Nat}{s:XS}{j k:Nat}(h:j∈s.S\/some j∈s.T):j∈(cH r ks s k).S\/some j∈(cH r ks s k).T:=by
 unfold cH
 split
 ·refine Or.elim (h) (fun h=>?_) (fun h=>?_)
  ·exact .inl (List.mem_append_left _ h)
  ·exact .inr h
 ·split
  ·split
   ·rename_i i hS
    obtain ⟨ys,e⟩:=List.getLast?_eq_some_iff.mp hS
    rcases h with h | h
    ·rw [e] at h
     refine Or.elim (List.mem_append.mp h) (fun h=>?_) (fun h=>?_)
     ·left;show j∈s.S.dropLast;rw [e];simpa using h
     ·right;show some j∈s.T++[some i];simp at h;rw [h];simp
    ·right;exact List.mem_append_left _ h
   ·rcases h with h | h
    ·exact .inl h
    ·exact .inr (List.mem_append_left _ h)
  ·exact h
theorem qL{r:Nat}{ks:List Nat}:∀ (l:List Nat) (s:XS) {j:Nat},(j∈s.S\/some j∈s.T)\/(j∈l/\ks.getD j 0=r + 1)->j∈(l.foldl (cH r ks) s).S\/some j∈(l.foldl (cH r ks) s).T
 | [],s,j,h=>by rcases h with h | h;exact h;simp at h
 | k::l,s,j,h=>by
  refine qL l (cH r ks s k) ?_
  rcases h with h | ⟨h,e⟩
  ·exact .inl (wD h)
  ·rcases List.mem_cons.mp h with h | h
   ·left;left
    subst h
    unfold cH
    refine (if_pos e) ▸ ?_
    simp
   ·exact .inr ⟨h,e⟩
noncomputable def zη(ks:List Nat)(r:Nat)(σ:List AO)(u a b c:Option V):ac:=[some (.str (ks.map ai)),some (.int r),some (.str [ai r]),some (.str [ai (r + 1)]),some (.ref σ.length),some (.ref (σ.length + 1)),some (.ref (σ.length + 2)),u,a,b,c,none,none,none,none]
noncomputable def zσ(σ:List AO)(r:Nat)(L:List Nat)(T:List (Option Nat)):List AO:=σ++[⟨[],some (r:Int)⟩,⟨aa L,none⟩,⟨T.map (kE r),none⟩]
theorem y9(σ:List AO)(r:Nat)(L:List Nat)(T:List (Option Nat)):(zσ σ r L T)[σ.length + 1]?=some ⟨aa L,none⟩:=by
 unfold zσ
 rw [List.getElem?_append_right (by exact Nat.le_succ _)]
 have:σ.length + 1 - σ.length=1:=by lia
 rw [this];rfl
theorem e11(σ:List AO)(r:Nat)(L:List Nat)(T:List (Option Nat)):(zσ σ r L T)[σ.length + 2]?=some ⟨T.map (kE r),none⟩:=by
 unfold zσ
 rw [List.getElem?_append_right (by exact Nat.le_add_right _ _)]
 have:σ.length + 2 - σ.length=2:=by lia
 rw [this];rfl
noncomputable def ij(r:Nat)(ks:List Nat)(T:List (Option Nat))(k:Nat):Nat:=if ks.getD k 0≠r + 1\/some k∈T then ai (ks.getD k 0) else 63
section
variable {F:Fn} {σ:List AO} {ks:List Nat} {r:Nat} {s:XS} {u:Option V}
noncomputable def Xlf:Ex:=(.comp [⟨"lead",11,true⟩,⟨"part",12,true⟩] (.tup (.cons (.loc 11) (.cons (.loc 12) .nil))) (.bf .len (.cons (.loc 11) .nil)) (.meth 12 (.loc 4) .nil) .nil)
local macro_rules | `(tactic| simp only [sx,$xs,*] $[$l]?)=>`(tactic| simp only [cA,bZ,cw,cb,bb,cf,cy,ch,ck,cx,cg,cB,cC,fq,ci,cj,cu,fs,aR,eJ,aJ,bn,bj,bB,bI,bh,bi,qK,li,be,bY,ca,ct,bF,bg,qJ,bE,cz,xt,dh,eH,dg,bN,cn,cp,b4,eG,eE,ei,fx,eX,eY,eF,eh,eW,oU,oT,oR,oS,Option.map_some,eV,eD,fw,cF,cE,az,List.map_cons,List.map_nil,List.length_cons,List.length_nil,List.cons_append,List.nil_append,List.replicate_succ,List.replicate_zero,List.getElem?_cons_zero,List.getElem?_cons_succ,List.set_cons_zero,List.set_cons_succ,aV,aX,aU,aW,Nat.reduceAdd,Nat.reduceSub,Int.reduceLE,Int.reduceLT,and_self,if_true,Nat.reduceLeDiff,Bool.not_true,Bool.not_false,$xs,*] $[$l]?)
theorem fb1(K:AccOk F)(h8:s.S.length<=8):exs F (.asg 8 Xlf) (xσ σ r s) (xη ks r σ u)=some (.next,zσ σ r s.F s.T,zη ks r σ u (some (.lst (aa s.S))) none none):=by
 have a1:=tO σ r s
 have a2:d8 [.ref σ.length] (xσ σ r s)=some (.lst (s.S.map (cR r)),zσ σ r s.F s.T):=by
  unfold d8
  dsimp only
  rw [a1]
  dsimp only
  unfold xσ
  rw [iL]
  rfl
 have e1:evx F (.meth 12 (.loc 4) .nil) (xσ σ r s) (xη ks r σ u)=some (.lst (s.S.map (cR r)),zσ σ r s.F s.T):=by
  unfold xη
  simp only [sx,a1,K.popFrom,a2]
 have e2:evx F Xlf (xσ σ r s) (xη ks r σ u)=some (.lst (aa s.S),zσ σ r s.F s.T):=by
  unfold Xlf
  refine zj (l:=s.S) (fa:=fun k=>.str (spc k)) (fb:=fun _=>.str [ai (r + 1)]) (f:=fun (k:Nat)=>V.int (k:Int)) e1 (by decide) (fun y hy=>?_) (Nat.le_trans h8 (by decide))
  have cl:(((clr (xη ks r σ u) [⟨"lead",11,true⟩,⟨"part",12,true⟩]).set 11 (some (V.str (spc y)))).set 12 (some (V.str [ai (r + 1)])))=[some (.str (ks.map ai)),some (.int r),some (.str [ai r]),some (.str [ai (r + 1)]),some (.ref σ.length),some (.ref (σ.length + 1)),some (.ref (σ.length + 2)),u,none,none,none,some (.str (spc y)),some (.str [ai (r + 1)]),none,none]:=rfl
  rw [cl]
  simp only [sx,o9]
 rw [bI,e2]
 rfl
theorem hX1(h8:s.S.length<=8)(h8':s.F.length<=8):exs F (.augL 5 (.loc 8)) (zσ σ r s.F s.T) (zη ks r σ u (some (.lst (aa s.S))) none none)=some (.next,zσ σ r (s.F++s.S) s.T,zη ks r σ u (some (.lst (aa s.S))) none none):=by
 have a1:=y9 σ r s.F s.T
 have a2:(aa s.F).length + (aa s.S).length<=lim:=by unfold aa lim;rw [List.length_map,List.length_map];lia
 have a3:(zσ σ r s.F s.T).set (σ.length + 1) ⟨aa s.F++aa s.S,none⟩=zσ σ r (s.F++s.S) s.T:=by
  unfold zσ
  rw [lH]
  simp [aa]
 unfold zη
 simp only [sx,a1,if_pos a2,a3]
theorem hV1{L:List Nat}{T:List (Option Nat)}{n:Nat}{S:List Nat}(hS:S.length=n)(h8:n<=L.length):exs F (.asg 9 (.slc (.loc 5) .nil (.bf .len (.cons (.loc 8) .nil)) .nil)) (zσ σ r L T) (zη ks r σ u (some (.lst (aa S))) none none)=some (.next,zσ σ r L T,zη ks r σ u (some (.lst (aa S))) (some (.lst (aa (L.take n)))) none):=by
 have a1:=y9 σ r L T
 have a0:(aa S).length=n:=by unfold aa;rw [List.length_map,hS]
 have a2:mQ (zσ σ r L T) (.ref (σ.length + 1)) .none (.int n) .none=some (.lst (aa (L.take n))):=by
  unfold mQ
  have:der (zσ σ r L T) (.ref (σ.length + 1))=.lst (aa L):=cK a1
  refine (this) ▸ ?_
  have e:=uo (aa L) n (by unfold aa;rw [List.length_map];exact h8)
  have e2:(aa L).take n=aa (L.take n):=by unfold aa;rw [List.map_take]
  rw [e2] at e
  refine (e) ▸ ?_
  rfl
 unfold zη
 simp only [sx,a0,a2]
noncomputable def Xkp:Ex:=(.comp [⟨"k",13,true⟩,⟨"high",3,false⟩,⟨"taken",6,false⟩,⟨"word",0,false⟩] (.loc 13) (.ite (.or (.cmp .NotEq (.idx (.loc 0) (.loc 13)) (.loc 3)) (.cmp .In (.tup (.cons (.bin .Mult (.cst (.str [32])) (.loc 13)) (.cons (.loc 3) .nil))) (.loc 6))) (.idx (.loc 0) (.loc 13)) (.cst (.str [63]))) (.range (.cons (.cst (.int 8)) .nil)) .nil)
theorem fc1{L:List Nat}{T:List (Option Nat)}{a b:V}(hr:r < 3)(hl:ks.length=8)(h4:∀ k∈ks,k < 4):exs F (.asg 10 Xkp) (zσ σ r L T) (zη ks r σ u (some a) (some b) none)=some (.next,zσ σ r L T,zη ks r σ u (some a) (some b) (some (.lst ((List.range 8).map fun k=>V.str [ij r ks T k])))):=by
 have e2:evx F Xkp (zσ σ r L T) (zη ks r σ u (some a) (some b) none)=some (.lst ((List.range 8).map fun k=>V.str [ij r ks T k]),zσ σ r L T):=by
  unfold Xkp
  refine gz (l:=List.range 8) (g:=fun (k:Nat)=>V.int (k:Int)) (x:=.rng 0 (8:Nat) 1) (dy (n:=8) rfl (by exact Nat.le_add_left _ _)) (hX 8) (fun k hk=>?_) (by decide)
  have hk8:=List.mem_range.mp hk
  have cl:((clr (zη ks r σ u (some a) (some b) none) [⟨"k",13,true⟩,⟨"high",3,false⟩,⟨"taken",6,false⟩,⟨"word",0,false⟩]).set 13 (some (V.int (k:Int))))=[some (.str (ks.map ai)),some (.int r),some (.str [ai r]),some (.str [ai (r + 1)]),some (.ref σ.length),some (.ref (σ.length + 1)),some (.ref (σ.length + 2)),u,some a,some b,none,none,none,some (.int k),none]:=rfl
  rw [cl]
  have hk4:ks.getD k 0 < 4:=by
   rw [List.getD_eq_getElem?_getD,List.getElem?_eq_getElem (by omega:k < ks.length)]
   exact h4 _ (List.getElem_mem _)
  have a1:=kA (σ:=zσ σ r L T) (ks:=ks) (i:=k) (by omega) (by lia)
  have a2:=lY hk4 (by exact Nat.lt_succ_of_le ‹_›:r + 1 < 4)
  have a3:qj .Mult (.str [32]) (.int (k:Int))=some (.str (spc k)):=by
   rw [b4,if_pos ⟨by omega,by exact Int.natCast_nonneg _,by unfold lim;simp;exact Nat.le_of_lt (Nat.lt_of_lt_of_le ‹_› (by decide))⟩]
   unfold spc
   rw [Int.toNat_natCast]
  have a4:dF .In (zσ σ r L T) (.tup [.str (spc k),.str [ai (r + 1)]]) (.ref (σ.length + 2))=some (decide (some k∈T)):=di1 hr (cK (e11 σ r L T))
  unfold ij
  by_cases h1:ks.getD k 0=r + 1
  ·by_cases h2:some k∈T
   ·rw [if_pos (Or.inr h2)]
    simp only [sx,a1,a2,decide_eq_true h1,a3,a4,decide_eq_true h2,lim]
   ·rw [if_neg (by rintro (h | h);exact h h1;exact h2 h)]
    simp only [sx,a1,a2,decide_eq_true h1,a3,a4,decide_eq_false h2,lim]
  ·rw [if_pos (Or.inl h1)]
   simp only [sx,a1,a2,decide_eq_false h1]
 rw [bI,e2]
 rfl
noncomputable def eT1:Ex:=(.me .join (.cst (.str [])) (.cons (.comp [⟨"k",14,true⟩,⟨"free",5,false⟩,⟨"high",3,false⟩,⟨"kept",10,false⟩,⟨"low",2,false⟩,⟨"lower",9,false⟩] (.loc 14) (.ite (.cmp .In (.loc 14) (.loc 9)) (.loc 2) (.ite (.cmp .In (.loc 14) (.loc 5)) (.loc 3) (.idx (.loc 10) (.loc 14)))) (.range (.cons (.cst (.int 8)) .nil)) .nil) .nil))
theorem xZ(σ:List AO)(l:List V):der σ (.lst l)=.lst l:=rfl
local macro_rules | `(tactic| simp only [sx,$xs,*] $[$l]?)=>`(tactic| simp only [cA,bZ,cw,cb,bb,cf,cy,ch,ck,cx,cg,cB,cC,fq,ci,cj,cu,fs,aR,eJ,aJ,bn,bj,bB,bI,bh,bi,qK,li,be,bY,ca,ct,bF,bg,qJ,bE,cz,xt,dh,eH,dg,bN,cn,cp,b4,eG,eE,ei,fx,eX,eY,eF,eh,eW,oU,oT,oR,oS,Option.map_some,eV,eD,fw,cF,cE,az,List.map_cons,List.map_nil,List.length_cons,List.length_nil,List.cons_append,List.nil_append,List.replicate_succ,List.replicate_zero,List.getElem?_cons_zero,List.getElem?_cons_succ,List.set_cons_zero,List.set_cons_succ,aV,aX,aU,aW,Nat.reduceAdd,Nat.reduceSub,Int.reduceLE,Int.reduceLT,and_self,if_true,Nat.reduceLeDiff,Bool.not_true,Bool.not_false,$xs,*] $[$l]?)
theorem fd1{a:V}(hk:∀ k < 8,k∈s.F++s.S\/ij r ks s.T k=ai (ks.getD k 0)):evx F eT1 (zσ σ r (s.F++s.S) s.T) (zη ks r σ u (some a) (some (.lst (aa ((s.F++s.S).take s.S.length)))) (some (.lst ((List.range 8).map fun k=>V.str [ij r ks s.T k])))) =
  some (.str (((List.range 8).map (wu r ks s)).map ai),zσ σ r (s.F++s.S) s.T):=by
 have flat:((List.range 8).map (wu r ks s)).map ai=((List.range 8).map fun k=>[ai (wu r ks s k)]).flatten:=by
  rw [List.map_map]
  generalize List.range 8=l
  induction l with
  | nil=>rfl
  | cons x l ih=>rw [List.map_cons,List.map_cons,List.flatten_cons,ih];rfl
 rw [flat]
 unfold eT1
 refine hY1 (u:=.str []) (vs:=[.lst (((List.range 8).map fun k=>[ai (wu r ks s k)]).map V.str)]) rfl rfl ?_ (ri _ (by rw [← flat,List.length_map,List.length_map];decide))
 refine fK ?_
 rw [List.map_map]
 refine gz (l:=List.range 8) (g:=fun (k:Nat)=>V.int (k:Int)) (x:=.rng 0 (8:Nat) 1) (dy (n:=8) rfl (by exact Nat.le_add_left _ _)) (hX 8) (fun k hk'=>?_) (by decide)
 have hk8:=List.mem_range.mp hk'
 generalize hW:(List.range 8).map (fun k=>V.str [ij r ks s.T k])=W
 generalize hL:s.F++s.S=L at hk ⊢
 generalize hLw:L.take s.S.length=Lw
 have cl:((clr (zη ks r σ u (some a) (some (.lst (aa Lw))) (some (.lst W))) [⟨"k",14,true⟩,⟨"free",5,false⟩,⟨"high",3,false⟩,⟨"kept",10,false⟩,⟨"low",2,false⟩,⟨"lower",9,false⟩]).set 14 (some (V.int (k:Int)))) =
  [some (.str (ks.map ai)),some (.int r),some (.str [ai r]),some (.str [ai (r + 1)]),some (.ref σ.length),some (.ref (σ.length + 1)),some (.ref (σ.length + 2)),u,some a,some (.lst (aa Lw)),some (.lst W),none,none,none,some (.int k)]:=rfl
 rw [cl]
 have a1:dF .In (zσ σ r L s.T) (.int (k:Int)) (.lst (aa Lw))=some (decide (k∈Lw)):=vq (xZ _ _)
 have a2:dF .In (zσ σ r L s.T) (.int (k:Int)) (.ref (σ.length + 1))=some (decide (k∈L)):=vq (cK (y9 σ r L s.T))
 have a3:ez (zσ σ r L s.T) (.lst W) (.int k)=some (.str [ij r ks s.T k]):=by
  have e:W.length=8:=by rw [← hW];rfl
  rw [zh (by exact Int.natCast_nonneg _) (by omega) (by rw [e];exact Int.ofNat_le.mpr ‹_›),Int.toNat_natCast,← hW,List.getElem?_map,List.getElem?_range hk8]
  rfl
 have ex:wu r ks s k=if k∈Lw then r else if k∈L then r + 1 else ks.getD k 0:=by
  unfold wu
  rw [hL,hLw]
 show _=some (V.str [ai (wu r ks s k)],_)
 rw [ex]
 by_cases h1:k∈Lw
 ·rw [if_pos h1]
  simp only [sx,a1,decide_eq_true h1]
 ·rw [if_neg h1]
  by_cases h2:k∈L
  ·rw [if_pos h2]
   simp only [sx,a1,decide_eq_false h1,a2,decide_eq_true h2]
  ·rw [if_neg h2]
   have hkk:ij r ks s.T k=ai (ks.getD k 0):=(hk k hk8).resolve_left h2
   simp only [sx,a1,decide_eq_false h1,a2,decide_eq_false h2,a3,hkk]
theorem s8:bt=(.seq (.asgT [2,3] (.tup (.cons (.idx (.cst (.str [34,97,98,99])) (.loc 1)) (.cons (.idx (.cst (.str [34,97,98,99])) (.bin .Add (.loc 1) (.cst (.int 1)))) .nil))))
 (.seq (.asg 4 (.call 0 (.cons (.loc 1) .nil)))
 (.seq (.asg 5 (.new .nil))
 (.seq (.asg 6 (.new .nil))
 (.seq (.for_ (.loc 7) (.range (.cons (.cst (.int 8)) .nil)) xB)
 (.seq (.asg 8 Xlf)
 (.seq (.augL 5 (.loc 8))
 (.seq (.asg 9 (.slc (.loc 5) .nil (.bf .len (.cons (.loc 8) .nil)) .nil))
 (.seq (.asg 10 Xkp)
 (.seq (.ret eT1) .skip)))))))))):=rfl
theorem bD1{F:Fn}{σ:List AO}{η:ac}{a i:Ex}{x y v:V}(h1:evx F a σ η=some (x,σ))(h2:evx F i σ η=some (y,σ))(h3:ez σ x y=some v):evx F (.idx a i) σ η=some (v,σ):=by
 rw [cj,h1]
 dsimp only
 rw [h2]
 dsimp only
 refine (h3) ▸ ?_
 rfl
theorem ff1{F:Fn}{σ:List AO}{η:ac}{op:Operator}{a i:Ex}{x y v:V}(h1:evx F a σ η=some (x,σ))(h2:evx F i σ η=some (y,σ))(h3:qj op x y=some v):evx F (.bin op a i) σ η=some (v,σ):=by
 rw [ck,h1]
 dsimp only
 refine (h2) ▸ ?_
 dsimp only
 refine (h3) ▸ ?_
 rfl
theorem xe1(hr:r < 3):exs F (.asgT [2,3] (.tup (.cons (.idx (.cst (.str [34,97,98,99])) (.loc 1)) (.cons (.idx (.cst (.str [34,97,98,99])) (.bin .Add (.loc 1) (.cst (.int 1)))) .nil)))) σ (az [.str (ks.map ai),.int r] 13) =
   some (.next,σ,[some (.str (ks.map ai)),some (.int r),some (.str [ai r]),some (.str [ai (r + 1)]),none,none,none,none,none,none,none,none,none,none,none]):=by
 have a1:=wH (σ:=σ) (k:=r) (by omega)
 have a2:ez σ (.str [34,97,98,99]) (.int ((r:Int) + 1))=some (.str [ai (r + 1)]):=by
  have h:=wH (σ:=σ) (k:=r + 1) (by omega)
  rw [show ((r + 1:Nat):Int)=(r:Int) + 1 by lia] at h
  exact h
 have hs:az [.str (ks.map ai),.int r] 13=[some (.str (ks.map ai)),some (.int r),none,none,none,none,none,none,none,none,none,none,none,none,none]:=rfl
 refine (hs) ▸ ?_
 have h0:evs F (.cons (.idx (.cst (.str [34,97,98,99])) (.loc 1)) (.cons (.idx (.cst (.str [34,97,98,99])) (.bin .Add (.loc 1) (.cst (.int 1)))) .nil)) σ [some (.str (ks.map ai)),some (.int r),none,none,none,none,none,none,none,none,none,none,none,none,none]=some ([.str [ai r],.str [ai (r + 1)]],σ):=by
  have g1:[some (V.str (ks.map ai)),some (.int r),none,none,none,none,none,none,none,none,none,none,none,none,none][1]?=some (some (.int (r:Int))):=rfl
  generalize [some (V.str (ks.map ai)),some (.int r),none,none,none,none,none,none,none,none,none,none,none,none,none]=η at g1
  have x0:evx F (.loc 1) σ η=some (.int (r:Int),σ):=by rw [bZ,g1]
  exact ck1 (bD1 rfl x0 a1) (bD1 rfl (ff1 x0 rfl dh) a2)
 have h2:∀ a b:V,([a,b]:List V).length<=lim:=fun a b=>by show 2<=lim;decide
 rw [bh,cf,h0]
 dsimp only
 rw [if_pos (h2 _ _)]
 dsimp only
 rw [if_pos (by rfl)]
 rfl
theorem xe2(K:AccOk F):exs F (.asg 4 (.call 0 (.cons (.loc 1) .nil))) σ [some (.str (ks.map ai)),some (.int r),some (.str [ai r]),some (.str [ai (r + 1)]),none,none,none,none,none,none,none,none,none,none,none] =
   some (.next,σ++[⟨[],some (r:Int)⟩],[some (.str (ks.map ai)),some (.int r),some (.str [ai r]),some (.str [ai (r + 1)]),some (.ref σ.length),none,none,none,none,none,none,none,none,none,none]):=by
 have:F 0 [.int r] σ=some (.ref σ.length,σ++[⟨[],some (r:Int)⟩]):=K.acc [.int r] σ
 simp only [sx,this]
theorem xe3{a b c d e:Option V}{σ':List AO}:exs F (.asg 5 (.new .nil)) σ' [a,b,c,d,e,none,none,none,none,none,none,none,none,none,none] =
   some (.next,σ'++[⟨[],none⟩],[a,b,c,d,e,some (.ref σ'.length),none,none,none,none,none,none,none,none,none]):=by
 have h:([]:List V).length<=lim:=Nat.zero_le _
 simp only [sx,if_pos (Nat.zero_le lim)]
theorem xe4{a b c d e f:Option V}{σ':List AO}:exs F (.asg 6 (.new .nil)) σ' [a,b,c,d,e,f,none,none,none,none,none,none,none,none,none] =
   some (.next,σ'++[⟨[],none⟩],[a,b,c,d,e,f,some (.ref σ'.length),none,none,none,none,none,none,none,none]):=by
 simp only [sx,if_pos (Nat.zero_le lim)]
theorem hU1(K:AccOk F)(hr:r < 3){rest:Sx}:exs F (.seq (.asgT [2,3] (.tup (.cons (.idx (.cst (.str [34,97,98,99])) (.loc 1)) (.cons (.idx (.cst (.str [34,97,98,99])) (.bin .Add (.loc 1) (.cst (.int 1)))) .nil))))
 (.seq (.asg 4 (.call 0 (.cons (.loc 1) .nil))) (.seq (.asg 5 (.new .nil)) (.seq (.asg 6 (.new .nil)) rest)))) σ (az [.str (ks.map ai),.int r] 13)=exs F rest (xσ σ r ⟨[],[],[]⟩) (xη ks r σ none):=by
 rw [ak (xe1 hr),ak (xe2 K),ak xe3,ak xe4]
 unfold xσ xη
 simp only [List.length_append,List.append_assoc,List.length_cons,List.length_nil,List.cons_append,List.nil_append,Nat.zero_add,Nat.reduceAdd,Nat.add_assoc,List.map_nil]
theorem zf(r:Nat)(ks:List Nat):XB r ks (fH r ks (List.range 8)) 8:=by
 have hb:=tQ r ks (List.range 8) ⟨[],[],[]⟩ 0 ⟨Nat.le_refl _,Nat.le_refl _,Nat.le_refl _⟩
 rw [List.length_range,Nat.zero_add] at hb
 exact hb
theorem wE(r:Nat)(ks:List Nat):∀ k < 8,k∈(fH r ks (List.range 8)).F++(fH r ks (List.range 8)).S\/ij r ks (fH r ks (List.range 8)).T k=ai (ks.getD k 0):=fun k hk8=>by
 unfold ij
 by_cases h:ks.getD k 0=r + 1
 ·have hin:k∈(fH r ks (List.range 8)).S\/some k∈(fH r ks (List.range 8)).T:=@qL r ks (List.range 8) ⟨[],[],[]⟩ k (.inr ⟨List.mem_range.mpr hk8,h⟩)
  rcases hin with h1 | h1
  ·exact .inl (List.mem_append_right _ h1)
  ·exact .inr (if_pos (.inr h1))
 ·exact .inr (if_pos (.inl h))
theorem e91(K:AccOk F)(hr:r < 3)(hl:ks.length=8)(h4:∀ k∈ks,k < 4)(hb:XB r ks s 8)(hk:∀ k < 8,k∈s.F++s.S\/ij r ks s.T k=ai (ks.getD k 0)):exs F (.seq (.asg 8 Xlf)
 (.seq (.augL 5 (.loc 8))
 (.seq (.asg 9 (.slc (.loc 5) .nil (.bf .len (.cons (.loc 8) .nil)) .nil))
 (.seq (.asg 10 Xkp)
 (.seq (.ret eT1) .skip))))) (xσ σ r s) (xη ks r σ u)=some (.ret (.str (((List.range 8).map (wu r ks s)).map ai)),zσ σ r (s.F++s.S) s.T,zη ks r σ u (some (.lst (aa s.S))) (some (.lst (aa ((s.F++s.S).take s.S.length)))) (some (.lst ((List.range 8).map fun k=>V.str [ij r ks s.T k])))):=by
 rw [ak (fb1 K hb.S),ak (hX1 hb.S hb.F),ak (hV1 rfl (by rw [List.length_append];exact Nat.le_add_left _ _)),ak (fc1 hr hl h4)]
 exact xk (fd1 hk)
theorem xV(K:AccOk F)(hr:r < 3)(hl:ks.length=8)(h4:∀ k∈ks,k < 4):∃ ex,jZ F 2 13 bt [.str (ks.map ai),.int r] σ=some (.str ((exL r ks).map ai),σ++ex):=by
 refine a7 (fa1 (F:=F) (σ:=σ) K hr hl h4) fun u hloop=>?_
 refine ⟨[⟨[],some (r:Int)⟩,⟨aa ((fH r ks (List.range 8)).F++(fH r ks (List.range 8)).S),none⟩,⟨(fH r ks (List.range 8)).T.map (kE r),none⟩],?_⟩
 unfold jZ
 rw [if_pos (by rfl),s8,hU1 K hr,ak hloop,e91 K hr hl h4 (zf r ks) (wE r ks)]
 unfold exL zσ
 rfl
end
noncomputable def swL:Nat->List Nat->List Nat
 | 0,a::b::l=>b::a::l
 | r + 1,a::l=>a::swL r l
 | _,l=>l
theorem fu1{F:Fn}{σ:List AO}{a b c d:V}:jZ F 2 0 aS [.lst [a,b,c,d],.int 0] σ=some (.lst [b,a,c,d],σ):=by kernel_rfl!
theorem ft1{F:Fn}{σ:List AO}{a b c d:V}:jZ F 2 0 aS [.lst [a,b,c,d],.int 1] σ=some (.lst [a,c,b,d],σ):=by kernel_rfl!
theorem fs1{F:Fn}{σ:List AO}{a b c d:V}:jZ F 2 0 aS [.lst [a,b,c,d],.int 2] σ=some (.lst [a,b,d,c],σ):=by kernel_rfl!
theorem wS{F:Fn}{σ:List AO}{l:List Nat}{r:Nat}(hl:l.length=4)(hr:r < 3):jZ F 2 0 aS [.lst (aa l),.int (r:Int)] σ=some (.lst (aa (swL r l)),σ):=by
 refine l4_ (P:=fun l=>jZ F 2 0 aS [.lst (aa l),.int (r:Int)] σ=some (.lst (aa (swL r l)),σ)) (fun a b c d=>?_) l hl
 ·have h:r=0\/r=1\/r=2:=by lia
  rcases h with rfl | rfl | rfl
  ·exact fu1
  ·exact ft1
  ·exact fs1
open PySem.Builtin.Str PySem.StrLaws
theorem rd(s sub:Str)(hi:Nat)(k f:Nat):∀ l:List Nat,(forIn l ((#[k]:Array Nat),f) (occBody s sub hi 1)).run.fst=#[k]
 | []=>rfl
 | a::l=>by
  rw [List.forIn_cons]
  dsimp only [occBody]
  rw [if_neg (by simp)]
  exact rd s sub hi k f l
noncomputable def vA(s sub:Str)(hi i:Nat):Bool:=decide (i + sub.length<=hi) && subAt s sub i
theorem re(s sub:Str)(hi:Nat):∀ (l:List Nat) (free:Nat),(∀ i∈l,free<=i) ->
  (forIn l ((#[]:Array Nat),free) (occBody s sub hi 1)).run.fst.toList=match l.find? (vA s sub hi) with | some i=>[i] | none=>[]
 | [],free,_=>rfl
 | a::l,free,hf=>by
  rw [List.forIn_cons]
  have ha:free<=a:=hf a List.mem_cons_self
  refine (List.find?_cons) ▸ ?_
  by_cases hc:a + sub.length<=hi/\subAt s sub a=true
  ·have e:vA s sub hi a=true:=by unfold vA;simp [hc.1,hc.2]
   rw [e]
   dsimp only [occBody]
   rw [if_pos ⟨⟨⟨by simp,ha⟩,hc.1⟩,hc.2⟩]
   have:=rd s sub hi a (a + sub.length) l
   unfold occBody at this
   exact congrArg Array.toList this
  ·have e:vA s sub hi a=false:=by
    unfold vA
    by_cases h1:a + sub.length<=hi
    ·have:¬ subAt s sub a=true:=fun h=>hc ⟨h1,h⟩
     simp [this]
    ·simp [h1]
   rw [e]
   have ih:=re s sub hi l free (fun i hi'=>hf i (List.mem_cons_of_mem _ hi'))
   refine (ih) ▸ ?_
   conv=>lhs;dsimp only [occBody]
   rw [if_neg (fun h=>hc ⟨h.1.2,h.2⟩)]
   rfl
theorem uQ(s sub:Str)(lo hi:Nat):occurrences s sub lo hi 1=match (List.range' lo (hi + 1 - lo)).find? (vA s sub hi) with | some i=>[i] | none=>[]:=by
 rw [occ_eq]
 exact re s sub hi _ lo (fun i h=>(List.mem_range'_1.mp h).1)
noncomputable def mU(c:Nat):List Nat->Option Nat
 | []=>none
 | x::l=>if x=c then some 0 else (mU c l).map (· + 1)
theorem aw1(t:List Nat)(c i:Nat):vA (S' t) (S' [c]) t.length i=decide (t[i]?=some c):=by
 have h:=subAt_one (S' t) c i
 rw [Bool.eq_iff_iff]
 unfold vA
 rw [Bool.and_eq_true,decide_eq_true_eq,decide_eq_true_eq]
 exact h
theorem ax1(t:List Nat)(i:Nat)(h:i<=t.length):vA (S' t) (S' []) t.length i=true:=by
 unfold vA
 rw [subAt_eq]
 simp [S',Str.length,h]
theorem rF(t:List Nat)(c:Nat):∀ (k p:Nat),t.length + 1 - p=k->(List.range' p k).find? (vA (S' t) (S' [c]) t.length)=(mU c (t.drop p)).map (p + ·)
 | 0,p,h=>by
  rw [List.drop_eq_nil_of_le (by omega)];rfl
 | k + 1,p,h=>by
  rw [List.range'_succ,List.find?_cons,aw1,rF t c k (p + 1) (by omega)]
  by_cases hp:p < t.length
  ·rw [List.drop_eq_getElem_cons hp,List.getElem?_eq_getElem hp]
   have hu:mU c (t[p]::t.drop (p + 1))=if t[p]=c then some 0 else (mU c (t.drop (p + 1))).map (· + 1):=rfl
   rw [hu]
   by_cases e:t[p]=c
   ·rw [if_pos e,e];simp
   ·rw [if_neg e]
    have:¬ (some t[p]=some c):=by simpa using e
    refine (decide_eq_false this) ▸ ?_
    cases mU c (List.drop (p + 1) t) with
    | none=>rfl
    | some j=>simp;exact Nat.add_right_comm _ _ _
  ·rw [List.drop_eq_nil_of_le (by exact Nat.le_of_lt (Nat.not_le.mp hp)),List.drop_eq_nil_of_le (by exact Nat.not_lt.mp ‹_›),List.getElem?_eq_none (by exact Nat.not_lt.mp ‹_›)]
   rfl
theorem dC1{σ:List AO}(t:List Nat)(c p:Nat):meF .find3 σ (.str t) [.str [c],.int (p:Int),.int (t.length:Int)]=some (.int (match mU c (t.drop p) with | some i=>((p + i:Nat):Int) | none=>-1)):=by
 show (if 0<=(p:Int)/\0<=(t.length:Int)/\(t.length:Int)<=t.length then some (V.int (match occurrences (S' t) (S' [c]) (p:Int).toNat (t.length:Int).toNat 1 with | k::_=>(k:Int) | []=>-1)) else none)=_
 rw [if_pos ⟨by exact Int.natCast_nonneg _,by exact Int.natCast_nonneg _,by exact Int.ofNat_le.mpr (Nat.le_of_eq (Eq.refl t.length))⟩,Int.toNat_natCast,Int.toNat_natCast,uQ,rF t c _ p rfl]
 cases mU c (t.drop p) <;> rfl
theorem xU{σ:List AO}(t:List Nat)(p:Nat)(h:p<=t.length):meF .find3 σ (.str t) [.str [],.int (p:Int),.int (t.length:Int)]=some (.int (p:Int)):=by
 show (if 0<=(p:Int)/\0<=(t.length:Int)/\(t.length:Int)<=t.length then some (V.int (match occurrences (S' t) (S' []) (p:Int).toNat (t.length:Int).toNat 1 with | k::_=>(k:Int) | []=>-1)) else none)=_
 rw [if_pos ⟨by exact Int.natCast_nonneg _,by exact Int.natCast_nonneg _,by exact Int.ofNat_le.mpr (Nat.le_of_eq (Eq.refl t.length))⟩,Int.toNat_natCast,Int.toNat_natCast,uQ]
 have e:t.length + 1 - p=(t.length - p) + 1:=by lia
 rw [e,List.range'_succ,List.find?_cons,ax1 t p h]
noncomputable def elq:List (List Nat)->List Nat->Bool
 | [],_=>true
 | []::r,l=>elq r l
 | (c::_)::r,l=>match mU c l with
  | none=>false
  | some i=>elq r (l.drop (i + 1))
theorem vr{c:Nat}:∀ {l:List Nat} {i:Nat},mU c l=some i->i < l.length
 | [],i,h=>by exact nso h
 | x::l,i,h=>by
  have hu:mU c (x::l)=if x=c then some 0 else (mU c l).map (· + 1):=rfl
  replace h:=(hu) ▸ h
  split at h
  ·injection h with h;subst h;simp
  ·refine gc (mU c l) (fun e=>?_) (fun j e=>?_)
   ·replace h:=(e) ▸ h;exact nso h
   ·
    rw [e] at h
    injection h with h
    subst h
    have:=vr e
    simp;exact this
noncomputable def eη(P t:List Nat)(k:Nat)(p:Int)(w:Option V):ac:=[some (.str P),some (.str t),some (.ref k),some (.int p),some (.int (t.length:Int)),w]
noncomputable def eB:Sx:=(.seq (.asg 3 (.me .find3 (.loc 1) (.cons (.loc 5) (.cons (.loc 3) (.cons (.loc 4) .nil)))))
 (.seq (.ite (.cmp .Lt (.loc 3) (.cst (.int 0))) (.seq (.ret (.cst (.bool false)))
 .skip) .skip)
 (.seq (.aug 3 .Add (.bf .len (.cons (.loc 5) .nil)))
 .skip)))
section
variable {F:Fn} {σ:List AO} {P t:List Nat} {k p:Nat}
local macro_rules | `(tactic| simp only [sx,$xs,*] $[$l]?)=>`(tactic| simp only [cA,bZ,cw,cb,bb,cf,cy,ch,ck,cx,cg,cB,cC,fq,ci,cj,cu,fs,aR,eJ,aJ,bn,bj,bB,bI,bh,bi,qK,li,be,bY,ca,ct,bF,bg,qJ,bE,cz,xt,dh,eH,dg,bN,cn,cp,b4,eG,eE,ei,fx,eX,eY,eF,eh,eW,oU,oT,oR,oS,Option.map_some,eV,eD,fw,cF,cE,az,List.map_cons,List.map_nil,List.length_cons,List.length_nil,List.cons_append,List.nil_append,List.replicate_succ,List.replicate_zero,List.getElem?_cons_zero,List.getElem?_cons_succ,List.set_cons_zero,List.set_cons_succ,aV,aX,aU,aW,Nat.reduceAdd,Nat.reduceSub,Int.reduceLE,Int.reduceLT,and_self,if_true,Nat.reduceLeDiff,Bool.not_true,Bool.not_false,$xs,*] $[$l]?)
theorem vT{w:List Nat}{q:Int}(h:meF .find3 σ (.str t) [.str w,.int (p:Int),.int (t.length:Int)]=some (.int q)) :
  exs F (.asg 3 (.me .find3 (.loc 1) (.cons (.loc 5) (.cons (.loc 3) (.cons (.loc 4) .nil))))) σ (eη P t k p (some (.str w)))=some (.next,σ,eη P t k q (some (.str w))):=by
 have ht:j2 σ (.str t)=some Me.find3.T:=rfl
 unfold eη
 simp only [sx,h,ht]
theorem dO1{w:List Nat}{q:Nat}(h:meF .find3 σ (.str t) [.str w,.int (p:Int),.int (t.length:Int)]=some (.int (q:Int))) :
  exs F eB σ (eη P t k p (some (.str w)))=some (.next,σ,eη P t k ((q + w.length:Nat):Int) (some (.str w))):=by
 have h1:decide ((q:Int) < 0)=false:=rfl
 have h2:eL1 .Add (.int (q:Int)) (.int (w.length:Int))=some (.int ((q:Int) + (w.length:Int))):=rfl
 have h3:((q + w.length:Nat):Int)=(q:Int) + (w.length:Int):=by solve_by_elim (maxDepth:=4) only [*,Nat.le_trans,Nat.lt_of_lt_of_le,Nat.lt_of_le_of_lt,Nat.le_of_lt,Nat.le_of_eq,Nat.le_refl,Eq.symm,Nat.le_add_right,Nat.le_add_left,Nat.le_succ,Nat.sub_le,Nat.succ_le_succ,Nat.lt_succ_of_le,Nat.le_of_lt_succ,Nat.zero_le,Nat.succ_pos,Int.ofNat_le.mpr,Int.ofNat_lt.mpr,Int.natCast_nonneg,Nat.not_le.mpr,Nat.not_lt.mpr,Nat.not_le.mp,Nat.not_lt.mp]
 unfold eB
 rw [ak (vT h)]
 unfold eη
 simp only [sx,h1,h2,h3]
theorem gs1{w:List Nat}(h:meF .find3 σ (.str t) [.str w,.int (p:Int),.int (t.length:Int)]=some (.int (-1))) :
  exs F eB σ (eη P t k p (some (.str w)))=some (.ret (.bool false),σ,eη P t k (-1) (some (.str w))):=by
 unfold eB
 rw [ak (vT h)]
 generalize hm:(-1:Int)=m
 have h1:decide (m < 0)=true:=by rw [← hm];decide
 unfold eη
 simp only [sx,h1]
theorem xT{tg:Ex}{b:List AO->ac->Out}{n:Nat}{st:ItS}{σ:List AO}{η:ac}(h:st.step σ=some none):foN tg b (n + 1) st σ η=some (Fl.next,σ,η):=by
 show (match st.step σ with
  | none=>none
  | some none=>some (Fl.next,σ,η)
  | some (some (x,st'))=>match asF tg x η with
   | none=>none
   | some η₁=>match b σ η₁ with
    | some (Fl.next,σ₂,η₂)=>foN tg b n st' σ₂ η₂
    | some (Fl.brk,σ₂,η₂)=>some (Fl.next,σ₂,η₂)
    | r=>r)=_
 rw [h]
theorem rD{tg:Ex}{b:List AO->ac->Out}{n:Nat}{st st':ItS}{x:V}{σ:List AO}{η η₁:ac}(h:st.step σ=some (some (x,st')))(ha:asF tg x η=some η₁):foN tg b (n + 1) st σ η=match b σ η₁ with
    | some (Fl.next,σ₂,η₂)=>foN tg b n st' σ₂ η₂
    | some (Fl.brk,σ₂,η₂)=>some (Fl.next,σ₂,η₂)
    | r=>r:=by
 show (match st.step σ with
  | none=>none
  | some none=>some (Fl.next,σ,η)
  | some (some (x,st'))=>match asF tg x η with
   | none=>none
   | some η₁=>match b σ η₁ with
    | some (Fl.next,σ₂,η₂)=>foN tg b n st' σ₂ η₂
    | some (Fl.brk,σ₂,η₂)=>some (Fl.next,σ₂,η₂)
    | r=>r)=_
 rw [h]
 dsimp only
 rw [ha]
noncomputable def ELp(F:Fn)(σ:List AO)(P t:List Nat)(k n i:Nat)(p:Int)(w:Option V)(b:Bool):Prop :=
 ∃ η',foN (.loc 5) (fun σ η=>exs F eB σ η) (n + 1) (.dyn k i) σ (eη P t k p w)=some (if b then .next else .ret (.bool false),σ,η')
section
variable {W:List (List Nat)} {n i:Nat} {p q:Int} {w:Option V} {b:Bool} {u:List Nat}
theorem mn(hk:σ[k]?=some ⟨W.map V.str,none⟩):(ItS.dyn k i).step σ=some ((W.map V.str)[i]?.map fun x=>(x,.dyn k (i + 1))):=by
 rw [ItS.step_dyn,hk]
 dsimp only
 cases (W.map V.str)[i]? <;> rfl
theorem ELp.stop(hk:σ[k]?=some ⟨W.map V.str,none⟩)(h:W.drop i=[]):ELp F σ P t k n i p w true :=
 ⟨_,xT ((mn hk).trans (by rw [List.getElem?_eq_none (by rw [List.length_map];exact List.drop_eq_nil_iff.mp h)];rfl))⟩
theorem vU{r:List (List Nat)}(h:W.drop i=u::r):(W.map V.str)[i]?=some (.str u):=by
 rw [List.getElem?_map,(dV h).1];rfl
theorem ELp.next{r:List (List Nat)}(hk:σ[k]?=some ⟨W.map V.str,none⟩)(h:W.drop i=u::r)(hb:exs F eB σ (eη P t k p (some (.str u)))=some (.next,σ,eη P t k q (some (.str u))))(ih:ELp F σ P t k n (i + 1) q (some (.str u)) b):ELp F σ P t k (n + 1) i p w b :=
 ih.elim fun η' e=>⟨η',by rw [rD (η₁:=eη P t k p (some (.str u))) ((mn hk).trans (by rw [vU h];rfl)) rfl,hb];exact e⟩
theorem ELp.no{r:List (List Nat)}{η':ac}(hk:σ[k]?=some ⟨W.map V.str,none⟩)(h:W.drop i=u::r)(hb:exs F eB σ (eη P t k p (some (.str u)))=some (.ret (.bool false),σ,η')):ELp F σ P t k n i p w false :=
 ⟨η',by rw [rD (η₁:=eη P t k p (some (.str u))) ((mn hk).trans (by rw [vU h];rfl)) rfl,hb];rfl⟩
end
theorem aE1{W:List (List Nat)}(hk:σ[k]?=some ⟨W.map V.str,none⟩):∀ (rest:List (List Nat)) (i p:Nat) (w:Option V),(∀ w∈rest,w.length<=1)->W.drop i=rest->p<=t.length->ELp F σ P t k rest.length i p w (elq rest (t.drop p))
 | [],i,p,w,_,hd,_=>.stop hk hd
 | []::rest,i,p,w,hw,hd,hp=>.next hk hd (dO1 (q:=p) (xU t p hp)) (aE1 hk rest (i + 1) p _ (fun x hx=>hw x (List.mem_cons_of_mem _ hx)) (dV hd).2.symm hp)
 | [c]::rest,i,p,w,hw,hd,hp=>by
  have f:=dC1 (σ:=σ) t c p
  show ELp F σ P t k (rest.length + 1) i p w (match mU c (t.drop p) with | none=>false | some i=>elq rest ((t.drop p).drop (i + 1)))
  cases e:mU c (t.drop p) with
  | none =>
   replace f:=(e) ▸ f
   exact .no hk hd (gs1 f)
  | some j =>
   rw [e] at f
   have hj:=vr e
   rw [List.length_drop] at hj
   have ih:=aE1 hk rest (i + 1) (p + (j + 1)) (some (.str [c])) (fun x hx=>hw x (List.mem_cons_of_mem _ hx)) (dV hd).2.symm (by lia)
   rw [← List.drop_drop] at ih
   exact .next hk hd (dO1 f) ih
 | (c::d::l)::rest,i,p,w,hw,hd,hp=>absurd (hw _ List.mem_cons_self) (by simp)
end
structure PatOk (P:List Nat) (W:List (List Nat)):Prop where
 not_in:∀ σ,dF .NotIn σ (.str [46,46,46]) (.str P)=some false
 split:∀ (F:Fn) (σ:List AO) (t:List Nat),evx F (.split (.loc 0) (.glo [46,46,46])) σ [some (.str P),some (.str t),none,none,none,none]=some (.ref σ.length,σ++[⟨W.map V.str,none⟩])
 two:2<=W.length
 short:W.length<=8
 first:(W.map V.str)[0]?=some (.str [])
 last:(W.map V.str)[W.length - 1]?=some (.str [])
 one:∀ w∈W,w.length<=1
section
variable {F:Fn} {σ:List AO} {P t:List Nat} {W:List (List Nat)}
theorem aK1{k:Nat}{l:List V}(h:σ[k]?=some ⟨l,none⟩):bfF .len σ [.ref k]=some (.int l.length):=by
 show (match der σ (.ref k) with | .str l=>some (V.int l.length) | .tup l=>some (.int l.length) | .lst l=>some (.int l.length) | _=>none)=_
 rw [cK h]
theorem aG1{σ':List AO}{k:Nat}(hk:σ'[k]?=some ⟨W.map V.str,none⟩)(h1:∀ w∈W,w.length<=1):∃ η',exs F (.seq (.for_ (.loc 5) (.loc 2) eB) (.seq (.ret (.cst (.bool true))) .skip)) σ' (eη P t k 0 (some (.str [])))=some (.ret (.bool (elq W t)),σ',η'):=by
 have fu:(ItS.dyn k 0).fuel σ'=W.length + 1:=by
  show (match σ'[k]? with | some ⟨items,_⟩=>items.length + 1 | none=>0)=_
  refine (hk) ▸ ?_
  exact congrArg (· + 1) (List.length_map _)
 refine a7 (aE1 (F:=F) (P:=P) (t:=t) hk W 0 0 (some (.str [])) h1 rfl (Nat.zero_le _)) fun η' hlp=>?_
 have e10:=(by1 (F:=F) (tg:=.loc 5) (S:=eB) (η:=eη P t k 0 (some (.str []))) (aq (i:=2) (σ:=σ') (v:=.ref k) rfl) rfl).trans ((congrArg (fun n=>foN (.loc 5) (fun σ η=>exs F eB σ η) n (.dyn k 0) σ' (eη P t k 0 (some (.str [])))) fu).trans hlp)
 cases h:elq W t with
 | true =>
  rw [show elq W (t.drop 0)=true from h] at e10
  exact ⟨η',(ak e10).trans (xk rfl)⟩
 | false =>
  rw [show elq W (t.drop 0)=false from h] at e10
  exact ⟨η',by rw [bB,e10];rfl⟩
theorem aF1(H:PatOk P W):jZ F 2 4 bK [.str P,.str t] σ=some (.bool (elq W t),σ++[⟨W.map V.str,none⟩]):=by
 have hk:(σ++[⟨W.map V.str,none⟩])[σ.length]?=some ⟨W.map V.str,none⟩:=by simp
 have hs:=H.split F σ t
 have h2:=H.two
 generalize σ++[⟨W.map V.str,none⟩]=σ' at hk hs ⊢
 have hl:=aK1 hk
 rw [List.length_map] at hl
 have x0:ez σ' (.ref σ.length) (.int 0)=some (.str []):=(wF (by decide) (cK hk) (cQ (by decide) (by rw [List.length_map];exact Int.ofNat_le.mpr (Nat.le_of_lt h2)))).trans H.first
 have x1:ez σ' (.ref σ.length) (.int (-1))=some (.str []):=(wF (j:=W.length - 1) (by decide) (cK hk) ((hH (by decide) (by rw [List.length_map];lia)).trans (congrArg some (by rw [List.length_map];lia)))).trans H.last
 refine a7 (aG1 (F:=F) (P:=P) (t:=t) hk H.one) fun η' he=>?_
 exact pg rfl ((yu (j1 rfl (aq rfl) (H.not_in σ))).trans ((j7 hs).trans ((cD1 (mX (zc (fK (aq rfl)) hl) rfl (eY.trans (congrArg some (decide_eq_true (by exact Int.ofNat_le.mpr ‹_›)))))).trans ((cE1 (wA (aK rfl (fK (zc (fK (aq rfl)) eV))) (show 2<=lim by decide))).trans
  ((j7 (dJ (aq rfl) rfl x0)).trans ((cC1 (aq rfl) rfl).trans ((j7 (dJ (aq rfl) rfl x1)).trans ((cC1 (aq rfl) rfl).trans ((yu (j1 (aq rfl) (aq rfl) (eX.trans (congrArg some (decide_eq_false (by lia)))))).trans he)))))))))
end
noncomputable def wants:List (List Nat):=[[99,98,97,34],[99,98,97],[99,98,34],[99,97,34],[98,97,34],[99,98],[99,97],[99,34],[98,97],[98,34],[97,34]]
noncomputable def eC:List Nat->List Nat
 | []=>[46,46,46]
 | c::l=>[46,46,46]++c::eC l
noncomputable def gF(w:List Nat):List (List Nat):=[]::(w.map fun c=>[c])++[[]]
noncomputable def gj:Ex:=(.bin .Add (.bin .Add (.cst (.str [46,46,46])) (.me .join (.cst (.str [46,46,46])) (.cons (.loc 1) .nil))) (.cst (.str [46,46,46])))
noncomputable def eA(w:List Nat):Prop:=PatOk (eC w) (gF w)/\∀ (F:Fn) (σ:List AO) (t:List Nat) (u:Option V),evx F gj σ [some (.str t),some (.str w),u]=some (.str (eC w),σ)
theorem iv1:∀ σ,dF .NotIn σ (.str [46,46,46]) (.str (eC [99,98,97,34]))=some false:=fun σ=>by kernel_rfl!
theorem iu1:∀ (F:Fn) (σ:List AO) (t:List Nat),evx F (.split (.loc 0) (.glo [46,46,46])) σ [some (.str (eC [99,98,97,34])),some (.str t),none,none,none,none]=some (.ref σ.length,σ++[⟨(gF [99,98,97,34]).map V.str,none⟩]):=fun F σ t=>by kernel_rfl!
theorem it1:∀ (F:Fn) (σ:List AO) (t:List Nat) (u:Option V),evx F gj σ [some (.str t),some (.str [99,98,97,34]),u]=some (.str (eC [99,98,97,34]),σ):=fun F σ t u=>by kernel_rfl!
theorem wq0:eA [99,98,97,34]:=⟨⟨iv1,iu1,by decide,by decide,rfl,rfl,by decide⟩,it1⟩
theorem ir1:∀ σ,dF .NotIn σ (.str [46,46,46]) (.str (eC [99,98,97]))=some false:=fun σ=>by kernel_rfl!
theorem iq1:∀ (F:Fn) (σ:List AO) (t:List Nat),evx F (.split (.loc 0) (.glo [46,46,46])) σ [some (.str (eC [99,98,97])),some (.str t),none,none,none,none]=some (.ref σ.length,σ++[⟨(gF [99,98,97]).map V.str,none⟩]):=fun F σ t=>by kernel_rfl!
theorem ip1:∀ (F:Fn) (σ:List AO) (t:List Nat) (u:Option V),evx F gj σ [some (.str t),some (.str [99,98,97]),u]=some (.str (eC [99,98,97]),σ):=fun F σ t u=>by kernel_rfl!
theorem wq1:eA [99,98,97]:=⟨⟨ir1,iq1,by decide,by decide,rfl,rfl,by decide⟩,ip1⟩
theorem io1:∀ σ,dF .NotIn σ (.str [46,46,46]) (.str (eC [99,98,34]))=some false:=fun σ=>by kernel_rfl!
theorem im1:∀ (F:Fn) (σ:List AO) (t:List Nat),evx F (.split (.loc 0) (.glo [46,46,46])) σ [some (.str (eC [99,98,34])),some (.str t),none,none,none,none]=some (.ref σ.length,σ++[⟨(gF [99,98,34]).map V.str,none⟩]):=fun F σ t=>by kernel_rfl!
theorem il1:∀ (F:Fn) (σ:List AO) (t:List Nat) (u:Option V),evx F gj σ [some (.str t),some (.str [99,98,34]),u]=some (.str (eC [99,98,34]),σ):=fun F σ t u=>by kernel_rfl!
theorem wq2:eA [99,98,34]:=⟨⟨io1,im1,by decide,by decide,rfl,rfl,by decide⟩,il1⟩
theorem ik1:∀ σ,dF .NotIn σ (.str [46,46,46]) (.str (eC [99,97,34]))=some false:=fun σ=>by kernel_rfl!
theorem ij1:∀ (F:Fn) (σ:List AO) (t:List Nat),evx F (.split (.loc 0) (.glo [46,46,46])) σ [some (.str (eC [99,97,34])),some (.str t),none,none,none,none]=some (.ref σ.length,σ++[⟨(gF [99,97,34]).map V.str,none⟩]):=fun F σ t=>by kernel_rfl!
theorem ii1:∀ (F:Fn) (σ:List AO) (t:List Nat) (u:Option V),evx F gj σ [some (.str t),some (.str [99,97,34]),u]=some (.str (eC [99,97,34]),σ):=fun F σ t u=>by kernel_rfl!
theorem wq3:eA [99,97,34]:=⟨⟨ik1,ij1,by decide,by decide,rfl,rfl,by decide⟩,ii1⟩
theorem ih1:∀ σ,dF .NotIn σ (.str [46,46,46]) (.str (eC [98,97,34]))=some false:=fun σ=>by kernel_rfl!
theorem ig1:∀ (F:Fn) (σ:List AO) (t:List Nat),evx F (.split (.loc 0) (.glo [46,46,46])) σ [some (.str (eC [98,97,34])),some (.str t),none,none,none,none]=some (.ref σ.length,σ++[⟨(gF [98,97,34]).map V.str,none⟩]):=fun F σ t=>by kernel_rfl!
theorem if1:∀ (F:Fn) (σ:List AO) (t:List Nat) (u:Option V),evx F gj σ [some (.str t),some (.str [98,97,34]),u]=some (.str (eC [98,97,34]),σ):=fun F σ t u=>by kernel_rfl!
theorem wq4:eA [98,97,34]:=⟨⟨ih1,ig1,by decide,by decide,rfl,rfl,by decide⟩,if1⟩
theorem ie1:∀ σ,dF .NotIn σ (.str [46,46,46]) (.str (eC [99,98]))=some false:=fun σ=>by kernel_rfl!
theorem id1:∀ (F:Fn) (σ:List AO) (t:List Nat),evx F (.split (.loc 0) (.glo [46,46,46])) σ [some (.str (eC [99,98])),some (.str t),none,none,none,none]=some (.ref σ.length,σ++[⟨(gF [99,98]).map V.str,none⟩]):=fun F σ t=>by kernel_rfl!
theorem ic1:∀ (F:Fn) (σ:List AO) (t:List Nat) (u:Option V),evx F gj σ [some (.str t),some (.str [99,98]),u]=some (.str (eC [99,98]),σ):=fun F σ t u=>by kernel_rfl!
theorem wq5:eA [99,98]:=⟨⟨ie1,id1,by decide,by decide,rfl,rfl,by decide⟩,ic1⟩
theorem ib1:∀ σ,dF .NotIn σ (.str [46,46,46]) (.str (eC [99,97]))=some false:=fun σ=>by kernel_rfl!
theorem ia1:∀ (F:Fn) (σ:List AO) (t:List Nat),evx F (.split (.loc 0) (.glo [46,46,46])) σ [some (.str (eC [99,97])),some (.str t),none,none,none,none]=some (.ref σ.length,σ++[⟨(gF [99,97]).map V.str,none⟩]):=fun F σ t=>by kernel_rfl!
theorem h91:∀ (F:Fn) (σ:List AO) (t:List Nat) (u:Option V),evx F gj σ [some (.str t),some (.str [99,97]),u]=some (.str (eC [99,97]),σ):=fun F σ t u=>by kernel_rfl!
theorem wq6:eA [99,97]:=⟨⟨ib1,ia1,by decide,by decide,rfl,rfl,by decide⟩,h91⟩
theorem h81:∀ σ,dF .NotIn σ (.str [46,46,46]) (.str (eC [99,34]))=some false:=fun σ=>by kernel_rfl!
theorem h71:∀ (F:Fn) (σ:List AO) (t:List Nat),evx F (.split (.loc 0) (.glo [46,46,46])) σ [some (.str (eC [99,34])),some (.str t),none,none,none,none]=some (.ref σ.length,σ++[⟨(gF [99,34]).map V.str,none⟩]):=fun F σ t=>by kernel_rfl!
theorem h61:∀ (F:Fn) (σ:List AO) (t:List Nat) (u:Option V),evx F gj σ [some (.str t),some (.str [99,34]),u]=some (.str (eC [99,34]),σ):=fun F σ t u=>by kernel_rfl!
theorem wq7:eA [99,34]:=⟨⟨h81,h71,by decide,by decide,rfl,rfl,by decide⟩,h61⟩
theorem h51:∀ σ,dF .NotIn σ (.str [46,46,46]) (.str (eC [98,97]))=some false:=fun σ=>by kernel_rfl!
theorem h41:∀ (F:Fn) (σ:List AO) (t:List Nat),evx F (.split (.loc 0) (.glo [46,46,46])) σ [some (.str (eC [98,97])),some (.str t),none,none,none,none]=some (.ref σ.length,σ++[⟨(gF [98,97]).map V.str,none⟩]):=fun F σ t=>by kernel_rfl!
theorem h31:∀ (F:Fn) (σ:List AO) (t:List Nat) (u:Option V),evx F gj σ [some (.str t),some (.str [98,97]),u]=some (.str (eC [98,97]),σ):=fun F σ t u=>by kernel_rfl!
theorem wq8:eA [98,97]:=⟨⟨h51,h41,by decide,by decide,rfl,rfl,by decide⟩,h31⟩
theorem h21:∀ σ,dF .NotIn σ (.str [46,46,46]) (.str (eC [98,34]))=some false:=fun σ=>by kernel_rfl!
theorem h01:∀ (F:Fn) (σ:List AO) (t:List Nat),evx F (.split (.loc 0) (.glo [46,46,46])) σ [some (.str (eC [98,34])),some (.str t),none,none,none,none]=some (.ref σ.length,σ++[⟨(gF [98,34]).map V.str,none⟩]):=fun F σ t=>by kernel_rfl!
theorem hZ1:∀ (F:Fn) (σ:List AO) (t:List Nat) (u:Option V),evx F gj σ [some (.str t),some (.str [98,34]),u]=some (.str (eC [98,34]),σ):=fun F σ t u=>by kernel_rfl!
theorem wq9:eA [98,34]:=⟨⟨h21,h01,by decide,by decide,rfl,rfl,by decide⟩,hZ1⟩
theorem fj1:∀ σ,dF .NotIn σ (.str [46,46,46]) (.str (eC [97,34]))=some false:=fun σ=>by kernel_rfl!
theorem fi1:∀ (F:Fn) (σ:List AO) (t:List Nat),evx F (.split (.loc 0) (.glo [46,46,46])) σ [some (.str (eC [97,34])),some (.str t),none,none,none,none]=some (.ref σ.length,σ++[⟨(gF [97,34]).map V.str,none⟩]):=fun F σ t=>by kernel_rfl!
theorem fh1:∀ (F:Fn) (σ:List AO) (t:List Nat) (u:Option V),evx F gj σ [some (.str t),some (.str [97,34]),u]=some (.str (eC [97,34]),σ):=fun F σ t u=>by kernel_rfl!
theorem is1:eA [97,34]:=⟨⟨fj1,fi1,by decide,by decide,rfl,rfl,by decide⟩,fh1⟩
theorem qO:∀ w∈wants,eA w:=fun w hw=>by
 unfold wants at hw
 simp only [List.mem_cons,List.not_mem_nil,or_false] at hw
 rcases hw with rfl | rfl | rfl | rfl | rfl | rfl | rfl | rfl | rfl | rfl | rfl
 ·exact wq0
 ·exact wq1
 ·exact wq2
 ·exact wq3
 ·exact wq4
 ·exact wq5
 ·exact wq6
 ·exact wq7
 ·exact wq8
 ·exact wq9
 ·exact is1
noncomputable def yt(F:Fn):Prop:=∀ w∈wants,∀ (t:List Nat) (σ:List AO),∃ ex,F 1 [.str (eC w),.str t] σ=some (.bool (elq (gF w) t),σ++ex)
noncomputable def eU(t:List Nat):Nat:=match wants.find? (fun w=>elq (gF w) t) with | some w=>w.length | none=>1
noncomputable def fB1:Sx:=(.seq (.asg 2 (.call 1 (.cons gj (.cons (.loc 0) .nil))))
 (.seq (.ite (.cmp .IsNot (.loc 2) (.cst (.bool false))) (.seq (.ret (.ite (.cmp .Is (.loc 2) (.cst (.bool true))) (.bf .len (.cons (.loc 1) .nil)) (.cst (.int 0))))
 .skip) .skip)
 .skip))
noncomputable def qP:Ex:=(.tup (.cons (.cst (.str [99,98,97,34])) (.cons (.cst (.str [99,98,97])) (.cons (.cst (.str [99,98,34])) (.cons (.cst (.str [99,97,34])) (.cons (.cst (.str [98,97,34])) (.cons (.cst (.str [99,98])) (.cons (.cst (.str [99,97])) (.cons (.cst (.str [99,34])) (.cons (.cst (.str [98,97])) (.cons (.cst (.str [98,34])) (.cons (.cst (.str [97,34])) .nil))))))))))))
theorem pV:cW=(.seq (.for_ (.loc 1) qP fB1) (.seq (.ret (.cst (.int 1))) .skip)):=rfl
local macro_rules | `(tactic| simp only [sx,$xs,*] $[$l]?)=>`(tactic| simp only [cA,bZ,cw,cb,bb,cf,cy,ch,ck,cx,cg,cB,cC,fq,ci,cj,cu,fs,aR,eJ,aJ,bn,bj,bB,bI,bh,bi,qK,li,be,bY,ca,ct,bF,bg,qJ,bE,cz,xt,dh,eH,dg,bN,cn,cp,b4,eG,eE,ei,fx,eX,eY,eF,eh,eW,oU,oT,oR,oS,Option.map_some,eV,eD,fw,cF,cE,az,List.map_cons,List.map_nil,List.length_cons,List.length_nil,List.cons_append,List.nil_append,List.replicate_succ,List.replicate_zero,List.getElem?_cons_zero,List.getElem?_cons_succ,List.set_cons_zero,List.set_cons_succ,aV,aX,aU,aW,Nat.reduceAdd,Nat.reduceSub,Int.reduceLE,Int.reduceLT,and_self,if_true,Nat.reduceLeDiff,Bool.not_true,Bool.not_false,$xs,*] $[$l]?)
theorem zm(F:Fn)(σ:List AO)(η:ac):evx F qP σ η=some (.tup (wants.map V.str),σ):=by
 unfold qP wants
 simp only [sx,lim]
section
variable {F:Fn} {σ:List AO} {t w:List Nat} {u:Option V}
theorem dE1(K:yt F)(hw:w∈wants):∃ ex,exs F fB1 σ [some (.str t),some (.str w),u]=some (if elq (gF w) t then .ret (.int w.length) else .next,σ++ex,[some (.str t),some (.str w),some (.bool (elq (gF w) t))]):=by
 refine a7 (K w hw t σ) fun ex h=>?_
 refine ⟨ex,?_⟩
 have a:=(qO w hw).2 F σ t u
 have a2:evx F (.loc 0) σ [some (.str t),some (.str w),u]=some (.str t,σ):=by rfl
 have e1:exs F (.asg 2 (.call 1 (.cons gj (.cons (.loc 0) .nil)))) σ [some (.str t),some (.str w),u]=some (.next,σ++ex,[some (.str t),some (.str w),some (.bool (elq (gF w) t))]):=by
  rw [bI,bn,ck1 a a2]
  dsimp only
  rw [h]
  rfl
 unfold fB1
 refine (ak e1) ▸ ?_
 generalize σ++ex=σ'
 cases elq (gF w) t with
 | true =>
  have c1:dF .IsNot σ' (.bool true) (.bool false)=some true:=rfl
  have c2:dF .Is σ' (.bool true) (.bool true)=some true:=rfl
  simp only [sx,c1,c2]
 | false =>
  have c1:dF .IsNot σ' (.bool false) (.bool false)=some false:=rfl
  simp only [sx,c1]
  rfl
theorem kW(K:yt F):∀ (ws:List (List Nat)) (σ:List AO) (v u:Option V),(∀ w∈ws,w∈wants) ->
  ∃ ex η',foN (.loc 1) (fun σ η=>exs F fB1 σ η) (ws.length + 1) (.seq (ws.map V.str)) σ [some (.str t),v,u]=some (match ws.find? (fun w=>elq (gF w) t) with | some w=>.ret (.int w.length) | none=>.next,σ++ex,η')
 | [],σ,v,u,_=>⟨[],_,by rw [List.append_nil];rfl⟩
 | w::ws,σ,v,u,hw=>by
  refine byQ fun Q kQ=>?_
  refine a7 (dE1 (σ:=σ) (u:=u) (t:=t) K (hw w List.mem_cons_self)) fun ex h=>?_
  refine dp (kW K ws (σ++ex) (some (.str w)) (some (.bool (elq (gF w) t))) (fun x hx=>hw x (List.mem_cons_of_mem _ hx))) fun ex2 η' ih=>?_
  have st:foN (.loc 1) (fun σ η=>exs F fB1 σ η) ((w::ws).length + 1) (.seq ((w::ws).map V.str)) σ [some (.str t),v,u]=match exs F fB1 σ [some (.str t),some (.str w),u] with
   | some (.next,σ₂,η₂)=>foN (.loc 1) (fun σ η=>exs F fB1 σ η) (ws.length + 1) (.seq (ws.map V.str)) σ₂ η₂
   | some (.brk,σ₂,η₂)=>some (.next,σ₂,η₂)
   | r=>r:=rfl
  refine kQ ?_
  refine (List.find?_cons) ▸ ?_
  cases e:elq (gF w) t with
  | true =>
   rw [e] at h
   exact wx ex _ (by rw [st,h];rfl)
  | false =>
   rw [e] at h ih
   refine wx (ex++ex2) η' ?_
   rw [st,h,← List.append_assoc]
   exact ih
theorem vK(K:yt F):∃ ex,jZ F 1 2 cW [.str t] σ=some (.int (eU t),σ++ex):=by
 refine byQ fun Q kQ=>?_
 refine dp (kW (t:=t) K wants σ none none (fun _ h=>h)) fun ex η' h=>?_
 refine kQ ?_
 refine ⟨ex,?_⟩
 have s0:az [.str t] 2=[some (.str t),none,none]:=rfl
 have it:a6 (.tup (wants.map V.str))=some (.seq (wants.map V.str)):=rfl
 have fu:(ItS.seq (wants.map V.str)).fuel σ=wants.length + 1:=rfl
 have e:exs F (.for_ (.loc 1) qP fB1) σ [some (.str t),none,none]=some (match wants.find? (fun w=>elq (gF w) t) with | some w=>.ret (.int w.length) | none=>.next,σ++ex,η'):=by
  rw [tP,zm]
  dsimp only
  refine (it) ▸ ?_
  dsimp only
  refine (fu) ▸ ?_
  exact h
 unfold jZ eU
 rw [if_pos (by rfl),s0,pV,bB,e]
 cases wants.find? (fun w=>elq (gF w) t) with
 | some w=>rfl
 | none =>
  dsimp only
  rw [bB,bY]
  rfl
end
noncomputable def bW(r:Nat):List Nat->Nat × Nat
 | []=>(0,0)
 | x::l=>if x=r + 1 then (if 0 < (bW r l).1 then ((bW r l).1 - 1,(bW r l).2) else (0,(bW r l).2 + 1))
  else if x=r then ((bW r l).1 + 1,(bW r l).2) else bW r l
noncomputable def um(r:Nat):List Nat->Nat->Nat->List Nat
 | [],_,_=>[]
 | x::l,d,k=>if x=r + 1 then (if 0 < (bW r l).1 then um r l (d + 1) (k + 1) else k::um r l (d + 1) (k + 1))
  else if x=r then (if d=0 then k::um r l 0 (k + 1) else um r l (d - 1) (k + 1)) else um r l d (k + 1)
noncomputable def go(r:Nat):List Nat->Nat->Nat->List Nat
 | [],_,_=>[]
 | x::l,d,m=>if x=r + 1 then (if 0 < (bW r l).1 then x::go r l (d + 1) m else (if m=0 then r + 1 else r)::go r l (d + 1) (m - 1))
  else if x=r then (if d=0 then (if m=0 then r + 1 else r)::go r l 0 (m - 1) else x::go r l (d - 1) m) else x::go r l d m
noncomputable def ex(r:Nat)(l:List Nat):List Nat:=go r l 0 (bW r l).2
theorem bI1{r:Nat}:bW r []=(0,0):=rfl
theorem g7{r x:Nat}{l:List Nat}:bW r (x::l)=if x=r + 1 then (if 0 < (bW r l).1 then ((bW r l).1 - 1,(bW r l).2) else (0,(bW r l).2 + 1))
  else if x=r then ((bW r l).1 + 1,(bW r l).2) else bW r l:=rfl
theorem iK1{r d k:Nat}:um r [] d k=[]:=rfl
theorem gW1{r x d k:Nat}{l:List Nat}:um r (x::l) d k=if x=r + 1 then (if 0 < (bW r l).1 then um r l (d + 1) (k + 1) else k::um r l (d + 1) (k + 1))
  else if x=r then (if d=0 then k::um r l 0 (k + 1) else um r l (d - 1) (k + 1)) else um r l d (k + 1):=rfl
theorem wy{r x d m:Nat}{l:List Nat}:go r (x::l) d m=if x=r + 1 then (if 0 < (bW r l).1 then x::go r l (d + 1) m else (if m=0 then r + 1 else r)::go r l (d + 1) (m - 1))
  else if x=r then (if d=0 then (if m=0 then r + 1 else r)::go r l 0 (m - 1) else x::go r l (d - 1) m) else x::go r l d m:=rfl
theorem bK1(r:Nat):∀ (l:List Nat) (d k j:Nat),j∈um r l d k->k<=j
 | [],_,_,_,h=>by cases h
 | x::l,d,k,j,h=>by
  have ih:=fun d=>bK1 r l d (k + 1) j
  dsimp only [um] at h
  split at h
  ·split at h
   ·have:=ih _ h;exact Nat.le_of_lt ‹_›
   ·rcases List.mem_cons.mp h with h | h
    ·exact Nat.le_of_eq (Eq.symm ‹_›)
    ·have:=ih _ h;exact Nat.le_of_lt ‹_›
  ·split at h
   ·split at h
    ·rcases List.mem_cons.mp h with h | h
     ·exact Nat.le_of_eq (Eq.symm ‹_›)
     ·have:=ih _ h;exact Nat.le_of_lt ‹_›
    ·have:=ih _ h;exact Nat.le_of_lt ‹_›
   ·have:=ih _ h;exact Nat.le_of_lt ‹_›
noncomputable def oN(r:Nat)(U:List Nat)(m k:Nat)(l:List Nat)(j:Nat):Nat:=if j∈U.take m then r else if j∈U then r + 1 else l.getD (j - k) 0
theorem rB(x:Nat)(l:List Nat){j k:Nat}(h:k + 1<=j):(x::l).getD (j - k) 0=l.getD (j - (k + 1)) 0:=by
 have e:j - k=(j - (k + 1)) + 1:=by lia
 rw [e];rfl
theorem uR(r:Nat)(U:List Nat)(m k x:Nat)(l:List Nat):((List.range' k (l.length + 1)).map (oN r (k::U) m k (x::l)))=(if m=0 then r + 1 else r)::(List.range' (k + 1) l.length).map (oN r U (m - 1) (k + 1) l):=by
 rw [List.range'_succ,List.map_cons]
 congr 1
 ·unfold oN
  cases m with
  | zero=>simp
  | succ m=>simp
 ·refine List.map_congr_left fun j hj=>?_
  have hj':=(List.mem_range'_1.mp hj).1
  have hne:¬ j=k:=by exact Nat.ne_of_gt ‹_›
  unfold oN
  refine (rB x l hj') ▸ ?_
  cases m with
  | zero=>simp [hne]
  | succ m=>simp [hne]
theorem po(r:Nat)(U:List Nat)(m k x:Nat)(l:List Nat)(hU:∀ j∈U,k + 1<=j):((List.range' k (l.length + 1)).map (oN r U m k (x::l)))=x::(List.range' (k + 1) l.length).map (oN r U m (k + 1) l):=by
 rw [List.range'_succ,List.map_cons]
 have hk:¬ k∈U:=fun h=>by have:=hU k h;exact (Nat.lt_irrefl _ ‹_›).elim
 have hk':¬ k∈U.take m:=fun h=>hk (List.mem_of_mem_take h)
 congr 1
 ·unfold oN
  rw [if_neg hk',if_neg hk]
  simp
 ·refine List.map_congr_left fun j hj=>?_
  have hj':=(List.mem_range'_1.mp hj).1
  unfold oN
  rw [rB x l hj']
theorem dt1(r:Nat):∀ (l:List Nat) (d m k:Nat),go r l d m=(List.range' k l.length).map (oN r (um r l d k) m k l)
 | [],_,_,_=>rfl
 | x::l,d,m,k=>by
  have ih:=fun d m=>dt1 r l d m (k + 1)
  have ge:=fun d=>bK1 r l d (k + 1)
  refine (List.length_cons) ▸ ?_
  rw [wy,gW1]
  split
  ·split
   ·rw [po _ _ _ _ _ _ (ge _),ih]
   ·rw [uR,ih]
  ·split
   ·split
    ·rw [uR,ih]
    ·rw [po _ _ _ _ _ _ (ge _),ih]
   ·rw [po _ _ _ _ _ _ (ge _),ih]
theorem uz(r:Nat)(ks:List Nat):∀ (l:List Nat) (k:Nat) (s:XS),ks.drop k=l ->
  ((List.range' k l.length).foldl (cH r ks) s).F++((List.range' k l.length).foldl (cH r ks) s).S=s.F++s.S.take (s.S.length - (bW r l).1)++um r l s.S.length k /\
  ((List.range' k l.length).foldl (cH r ks) s).S.length=(s.S.length - (bW r l).1) + (bW r l).2
 | [],k,s,_=>by simp [bI1,iK1]
 | x::l,k,s,h=>by
  have hx:ks.getD k 0=x:=by
   have:=congrArg (fun l=>l[0]?) h
   rw [List.getD_eq_getElem?_getD]
   simp at this
   rw [this];rfl
  have h':ks.drop (k + 1)=l:=by
   have:=congrArg List.tail h
   simpa using this
  have ih:=fun s=>uz r ks l (k + 1) s h'
  rw [List.length_cons,List.range'_succ,List.foldl_cons]
  have u1:cH r ks s k=if x=r + 1 then { s with S:=s.S++[k] } else if x=r then match s.S.getLast? with
   | some j=>{ s with S:=s.S.dropLast,T:=s.T++[some j] }
   | none=>{ s with F:=s.F++[k],T:=s.T++[none] } else s:=by
   unfold cH;rw [hx] <;> rfl
  refine (u1) ▸ ?_
  rw [g7,gW1]
  by_cases c1:x=r + 1
  ·rw [if_pos c1,if_pos c1,if_pos c1]
   refine jm (ih { s with S:=s.S++[k] }) fun i1 i2=>?_
   rw [i1,i2]
   simp only [List.length_append,List.length_cons,List.length_nil,Nat.zero_add]
   by_cases c2:0 < (bW r l).1
   ·rw [if_pos c2,if_pos c2]
    have e:s.S.length + 1 - (bW r l).1=s.S.length - ((bW r l).1 - 1):=by omega
    rw [e]
    refine ⟨?_,rfl⟩
    rw [List.take_append_of_le_length (by exact Nat.sub_le _ _)]
   ·rw [if_neg c2,if_neg c2]
    have e:(bW r l).1=0:=by lia
    rw [e]
    refine ⟨?_,by exact Nat.add_right_comm _ _ _⟩
    rw [List.take_of_length_le (by simp)]
    simp
  ·rw [if_neg c1,if_neg c1,if_neg c1]
   by_cases c2:x=r
   ·rw [if_pos c2,if_pos c2,if_pos c2]
    cases hS:s.S.getLast? with
    | none =>
     have hn:s.S=[]:=by simpa using hS
     have h_p:=ih { s with F:=s.F++[k],T:=s.T++[none] };have i1:=h_p.1;have i2:=h_p.2
     dsimp only at i1 i2 ⊢
     rw [i1,i2,hn]
     simp
    | some j =>
     obtain ⟨ys,e⟩:=List.getLast?_eq_some_iff.mp hS
     obtain ⟨i1,i2⟩:=ih { s with S:=s.S.dropLast,T:=s.T++[some j] }
     dsimp only at i1 i2 ⊢
     rw [i1,i2,e]
     simp only [List.dropLast_concat,List.length_append,List.length_cons,List.length_nil,Nat.zero_add]
     rw [if_neg (by lia)]
     have e2:ys.length + 1 - ((bW r l).1 + 1)=ys.length - (bW r l).1:=by lia
     rw [e2,Nat.add_sub_cancel]
     refine ⟨?_,rfl⟩
     rw [List.take_append_of_le_length (by exact Nat.sub_le _ _)]
   ·rw [if_neg c2,if_neg c2,if_neg c2]
    exact ih s
theorem dM1(r:Nat)(ks:List Nat)(hl:ks.length=8):exL r ks=ex r ks:=by
 refine jm (uz r ks ks 0 ⟨[],[],[]⟩ rfl) fun h1 h2=>?_
 rw [hl,← List.range_eq_range'] at h1 h2
 unfold exL ex
 rw [dt1 r ks 0 _ 0,hl,← List.range_eq_range']
 refine List.map_congr_left fun j _=>?_
 unfold wu oN
 change (fH r ks (List.range 8)).F++(fH r ks (List.range 8)).S=_ at h1
 change (fH r ks (List.range 8)).S.length=_ at h2
 rw [h1,h2]
 simp
theorem f7{r:Nat}{p:Nat->Bool}(h0:p r=true)(h1:p (r + 1)=true):∀ l:List Nat,bW r (l.filter p)=bW r l
 | []=>rfl
 | x::l=>by
  have ih:=f7 h0 h1 l
  by_cases c1:x=r + 1
  ·subst c1
   rw [List.filter_cons,if_pos h1,g7,g7,ih]
  ·by_cases c2:x=r
   ·subst c2
    rw [List.filter_cons,if_pos h0,g7,g7,ih]
   ·rw [List.filter_cons]
    by_cases c3:p x=true
    ·rw [if_pos c3,g7,g7,ih]
    ·rw [if_neg c3,ih,g7,if_neg c1,if_neg c2]
theorem nW{r:Nat}{p:Nat->Bool}(h0:p r=true)(h1:p (r + 1)=true):∀ (l:List Nat) (d m:Nat),(go r l d m).filter p=go r (l.filter p) d m
 | [],_,_=>rfl
 | x::l,d,m=>by
  have ih:=nW h0 h1 l
  have iu:=f7 h0 h1 l
  have hm:p (if m=0 then r + 1 else r)=true:=by split <;> assumption
  by_cases c1:x=r + 1
  ·subst c1
   rw [List.filter_cons (x:=r + 1) (xs:=l),if_pos h1]
   rw [wy (l:=l),wy (l:=l.filter p),if_pos rfl,if_pos rfl,iu]
   by_cases c2:0 < (bW r l).1
   ·rw [if_pos c2,if_pos c2,List.filter_cons,if_pos h1,ih]
   ·rw [if_neg c2,if_neg c2,List.filter_cons,if_pos hm,ih]
  ·by_cases c2:x=r
   ·subst c2
    rw [List.filter_cons (x:=x) (xs:=l),if_pos h0]
    rw [wy (l:=l),wy (l:=l.filter p),if_neg c1,if_neg c1,if_pos rfl,if_pos rfl]
    by_cases c3:d=0
    ·rw [if_pos c3,if_pos c3,List.filter_cons,if_pos hm,ih]
    ·rw [if_neg c3,if_neg c3,List.filter_cons,if_pos h0,ih]
   ·refine (List.filter_cons (x:=x) (xs:=l)) ▸ ?_
    rw [wy,if_neg c1,if_neg c2,List.filter_cons,ih]
    by_cases c3:p x=true
    ·rw [if_pos c3,if_pos c3,wy,if_neg c1,if_neg c2]
    ·rw [if_neg c3,if_neg c3]
theorem yV{r:Nat}{α:Type}{p:Nat->α}(h:p r=p (r + 1)):∀ (l:List Nat) (d m:Nat),(go r l d m).map p=l.map p
 | [],_,_=>rfl
 | x::l,d,m=>by
  have ih:=yV h l
  have hm:p (if m=0 then r + 1 else r)=p (r + 1):=by split;rfl;exact h
  rw [wy]
  by_cases c1:x=r + 1
  ·rw [if_pos c1]
   by_cases c2:0 < (bW r l).1
   ·rw [if_pos c2,List.map_cons,ih];rfl
   ·rw [if_neg c2,List.map_cons,ih,hm,c1];rfl
  ·rw [if_neg c1]
   by_cases c2:x=r
   ·rw [if_pos c2]
    by_cases c3:d=0
    ·rw [if_pos c3,List.map_cons,ih,hm,← h,← c2];rfl
    ·rw [if_neg c3,List.map_cons,ih];rfl
   ·rw [if_neg c2,List.map_cons,ih];rfl
theorem yU{r:Nat}{p:Nat->Bool}(h0:p r=false)(h1:p (r + 1)=false):∀ (l:List Nat) (d m:Nat),(go r l d m).filter p=l.filter p
 | [],_,_=>rfl
 | x::l,d,m=>by
  have ih:=yU h0 h1 l
  have hm:p (if m=0 then r + 1 else r)=false:=by split <;> assumption
  have hm':¬ p (if m=0 then r + 1 else r)=true:=by rw [hm];decide
  have h0':¬ p r=true:=by rw [h0];decide
  have h1':¬ p (r + 1)=true:=by rw [h1];decide
  rw [wy]
  by_cases c1:x=r + 1
  ·subst c1
   rw [if_pos rfl,List.filter_cons (x:=r + 1) (xs:=l),if_neg h1']
   by_cases c2:0 < (bW r l).1
   ·rw [if_pos c2,List.filter_cons,if_neg h1',ih]
   ·rw [if_neg c2,List.filter_cons,if_neg hm',ih]
  ·rw [if_neg c1]
   by_cases c2:x=r
   ·subst c2
    rw [if_pos rfl,List.filter_cons (x:=x) (xs:=l),if_neg h0']
    by_cases c3:d=0
    ·rw [if_pos c3,List.filter_cons,if_neg hm',ih]
    ·rw [if_neg c3,List.filter_cons,if_neg h0',ih]
   ·rw [if_neg c2,List.filter_cons,List.filter_cons,ih]
theorem vG{r:Nat}:∀ (l:List Nat) (d m y:Nat),y∈go r l d m->y∈l\/((r∈l\/r + 1∈l)/\(y=r\/y=r + 1))
 | [],_,_,_,h=>by cases h
 | x::l,d,m,y,h=>by
  have ih:=fun d m=>vG (r:=r) l d m y
  have up:∀ d m,y∈go r l d m->y∈x::l\/((r∈x::l\/r + 1∈x::l)/\(y=r\/y=r + 1)):=fun d m h=>by
   refine Or.elim (ih d m h) (fun h=>?_) (fun h_r=>?_)
   ·exact .inl (List.mem_cons_of_mem _ h)
   ·refine jm (h_r) fun h h'=>?_
    exact .inr ⟨h.imp (List.mem_cons_of_mem _) (List.mem_cons_of_mem _),h'⟩
  have hm:(if m=0 then r + 1 else r)=r\/(if m=0 then r + 1 else r)=r + 1:=by split <;> simp
  rw [wy] at h
  split at h
  ·rename_i c1
   split at h
   ·rcases List.mem_cons.mp h with h | h
    ·left;rw [h];exact List.mem_cons_self
    ·exact up _ _ h
   ·rcases List.mem_cons.mp h with h | h
    ·right;exact ⟨.inr (by rw [c1];exact List.mem_cons_self),by rw [h];exact hm⟩
    ·exact up _ _ h
  ·split at h
   ·rename_i c1 c2
    split at h
    ·rcases List.mem_cons.mp h with h | h
     ·right;exact ⟨.inl (by rw [c2];exact List.mem_cons_self),by rw [h];exact hm⟩
     ·exact up _ _ h
    ·rcases List.mem_cons.mp h with h | h
     ·left;exact (h) ▸ (List.mem_cons_self)
     ·exact up _ _ h
   ·rcases List.mem_cons.mp h with h | h
    ·left;rw [h];exact List.mem_cons_self
    ·exact up _ _ h
theorem jE{r:Nat}{p:Nat->Bool}(h0:p r=true)(h1:p (r + 1)=true)(l:List Nat):(ex r l).filter p=ex r (l.filter p):=by
 unfold ex
 rw [nW h0 h1,f7 h0 h1]
theorem gq{r:Nat}{p:Nat->Bool}(h0:p r=false)(h1:p (r + 1)=false)(l:List Nat):(ex r l).filter p=l.filter p:=yU h0 h1 l _ _
theorem gp{r:Nat}{α:Type}{p:Nat->α}(h:p r=p (r + 1))(l:List Nat):(ex r l).map p=l.map p:=yV h l _ _
theorem dT(r:Nat)(l:List Nat):(ex r l).length=l.length:=by
 have:=congrArg List.length (gp (r:=r) (p:=fun _=>()) rfl l)
 simpa using this
theorem vN{r:Nat}(hr:r < 3){l:List Nat}(h:∀ x∈l,x < 4):∀ x∈ex r l,x < 4:=fun x hx=>by
 rcases vG l _ _ x hx with h' | ⟨_,h' | h'⟩
 ·exact h x h'
 ·omega
 ·omega
theorem f9{p:Nat->Bool}:∀ {a b:List Nat},a.map p=b.map p->a.filter p=b.filter p->a.filter (fun x=>!p x)=b.filter (fun x=>!p x)->a=b
 | [],[],_,_,_=>rfl
 | [],_::_,h,_,_=>by cases h
 | _::_,[],h,_,_=>by cases h
 | x::a,y::b,h,h1,h2=>by
  rw [List.map_cons,List.map_cons] at h
  injection h with e h
  rw [List.filter_cons,List.filter_cons] at h1 h2
  refine d01 (p x) (fun hx=>?_) (fun hx=>?_)
  ·
   rw [hx] at e
   rw [← e,hx] at h1 h2
   simp only [if_true,Bool.not_true,Bool.false_eq_true,if_false] at h1 h2
   injection h1 with e1 h1
   rw [e1,f9 h h1 h2]
  ·
   rw [hx] at e
   rw [← e,hx] at h1 h2
   simp only [if_true,Bool.not_false,Bool.false_eq_true,if_false] at h1 h2
   injection h2 with e1 h2
   rw [e1,f9 h h1 h2]
theorem gm1{p:Nat->Bool}{a b l:List Nat}(ha:a.map p=l.map p)(hb:b.map p=l.map p)(h1:a.filter p=b.filter p)(h2:a.filter (fun x=>!p x)=b.filter (fun x=>!p x)):a=b :=
 f9 (ha.trans hb.symm) h1 h2
theorem vO(l:List Nat):ex 0 (ex 2 l)=ex 2 (ex 0 l):=by
 refine gm1 (p:=fun x=>decide (x < 2)) (l:=l) ?_ ?_ ?_ ?_
 ·rw [gp (by decide),gp (by decide)]
 ·rw [gp (by decide),gp (by decide)]
 ·rw [jE (by decide) (by decide),gq (by decide) (by decide),gq (by decide) (by decide),jE (by decide) (by decide)]
 ·rw [gq (by decide) (by decide),jE (by decide) (by decide),jE (by decide) (by decide),gq (by decide) (by decide)]
noncomputable def y4(q:List Nat->Bool)(A:List Nat):Nat->List Nat->Bool
 | 0,w=>q w
 | n + 1,w=>q w && A.all fun a=>y4 q A n (a::w)
theorem wf{q:List Nat->Bool}{A:List Nat}:∀ (n:Nat) (w v:List Nat),y4 q A n w=true->(∀ x∈v,x∈A)->v.length<=n->q (v.reverse++w)=true
 | 0,w,v,h,_,hl=>by
  have:v=[]:=List.length_eq_zero_iff.mp (by lia)
  subst this
  exact h
 | n + 1,w,[],h,_,_=>by
  refine byQ fun Q kQ=>?_
  dsimp only [y4] at h
  rw [Bool.and_eq_true] at h
  refine kQ ?_
  exact h.1
 | n + 1,w,x::v,h,hA,hl=>by
  dsimp only [y4] at h
  rw [Bool.and_eq_true,List.all_eq_true] at h
  have:=wf n (x::w) v (h.2 x (hA x List.mem_cons_self)) (fun y hy=>hA y (List.mem_cons_of_mem _ hy)) (by simpa using hl)
  rw [List.reverse_cons,List.append_assoc]
  exact this
theorem mH{q:List Nat->Bool}{A:List Nat}{n:Nat}(h:y4 q A n []=true){v:List Nat}(hA:∀ x∈v,x∈A)(hl:v.length<=n):q v=true:=by
 have:=wf n [] v.reverse h (fun x hx=>hA x (by simpa using hx)) (by simpa using hl)
 simpa using this
theorem iI(r:Nat):∀ l:List Nat,bW (r + 1) (l.map (· + 1))=bW r l
 | []=>rfl
 | x::l=>by
  have ih:=iI r l
  refine (List.map_cons) ▸ ?_
  simp only [bW,ih,Nat.add_right_cancel_iff]
theorem rA(r:Nat):∀ (l:List Nat) (d m:Nat),go (r + 1) (l.map (· + 1)) d m=(go r l d m).map (· + 1)
 | [],_,_=>rfl
 | x::l,d,m=>by
  have ih:=rA r l
  refine (List.map_cons) ▸ ?_
  simp only [go,iI,Nat.add_right_cancel_iff]
  split
  ·split
   ·rw [ih];rfl
   ·rw [ih,List.map_cons];congr 1;split <;> rfl
  ·split
   ·split
    ·rw [ih,List.map_cons];congr 1;split <;> rfl
    ·rw [ih];rfl
   ·rw [ih];rfl
theorem xW(r:Nat)(l:List Nat):ex (r + 1) (l.map (· + 1))=(ex r l).map (· + 1):=by
 unfold ex
 rw [iI,rA]
noncomputable def eA1(w:List Nat):Bool:=(ex 0 (ex 0 w) == w) && (bW 0 (ex 0 w) == ((bW 0 w).2,(bW 0 w).1))
theorem au1:y4 eA1 [0,1] 8 []=true:=by decide +kernel
noncomputable def exS(r:Nat)(l:List Nat):(Nat × Nat) × (Nat->Nat->List Nat) :=
 @List.rec Nat (fun _=>(Nat × Nat) × (Nat->Nat->List Nat)) ((0,0),fun _ _=>[]) (fun x _ ih =>
  cond (Nat.beq x (r + 1)) (cond (Nat.ble 1 ih.1.1) ((ih.1.1 - 1,ih.1.2),fun d m=>x::ih.2 (d + 1) m) ((0,ih.1.2 + 1),fun d m=>(cond (Nat.beq m 0) (r + 1) r)::ih.2 (d + 1) (m - 1)))
   (cond (Nat.beq x r) ((ih.1.1 + 1,ih.1.2),fun d m=>cond (Nat.beq d 0) ((cond (Nat.beq m 0) (r + 1) r)::ih.2 0 (m - 1)) (x::ih.2 (d - 1) m)) (ih.1,fun d m=>x::ih.2 d m))) l
noncomputable def exR(r:Nat)(l:List Nat):List Nat:=(exS r l).2 0 (exS r l).1.2
theorem yc{α:Type}(x y:Nat)(a b:α):cond (Nat.beq x y) a b=if x=y then a else b:=by
 by_cases h:x=y
 ·subst h;simp
 ·have:Nat.beq x y=false:=by
   cases e:Nat.beq x y with
   | true=>exact absurd (Nat.eq_of_beq_eq_true e) h
   | false=>rfl
  rw [this,if_neg h];rfl
theorem yb{α:Type}(x:Nat)(a b:α):cond (Nat.ble 1 x) a b=if 0 < x then a else b:=by
 by_cases h:0 < x
 ·have:Nat.ble 1 x=true:=Nat.ble_eq_true_of_le h
  rw [this,if_pos h];rfl
 ·have:x=0:=by lia
  subst this;rfl
theorem y0(r:Nat):∀ l:List Nat,exS r l=(bW r l,fun d m=>go r l d m)
 | []=>rfl
 | x::l=>by
  have ih:=y0 r l
  have st:exS r (x::l)=cond (Nat.beq x (r + 1)) (cond (Nat.ble 1 (exS r l).1.1) (((exS r l).1.1 - 1,(exS r l).1.2),fun d m=>x::(exS r l).2 (d + 1) m) ((0,(exS r l).1.2 + 1),fun d m=>(cond (Nat.beq m 0) (r + 1) r)::(exS r l).2 (d + 1) (m - 1)))
   (cond (Nat.beq x r) (((exS r l).1.1 + 1,(exS r l).1.2),fun d m=>cond (Nat.beq d 0) ((cond (Nat.beq m 0) (r + 1) r)::(exS r l).2 0 (m - 1)) (x::(exS r l).2 (d - 1) m)) ((exS r l).1,fun d m=>x::(exS r l).2 d m)):=rfl
  rw [st,ih]
  simp only [yc,yb]
  simp only [bW,go]
  split
  ·split <;> rfl
  ·split <;> rfl
theorem dL1(r:Nat)(l:List Nat):exR r l=ex r l:=by
 unfold exR ex
 rw [y0]
noncomputable def cnt(c:Nat)(l:List Nat):Nat:=(l.filter (· == c)).length
noncomputable def g51(w:List Nat):Bool:=cond (Nat.ble (cnt 1 w) (cnt 0 w) && Nat.ble (cnt 2 w) (cnt 1 w)) (exR 0 (exR 1 (exR 0 w)) == exR 1 (exR 0 (exR 1 w))) true
theorem aH1:y4 g51 [0,1,2] 8 []=true:=by kernel_rfl!
theorem dR(j:Nat):∀ (r:Nat) (v:List Nat),ex (j + r) (v.map (· + r))=(ex j v).map (· + r)
 | 0,v=>by simp
 | r + 1,v=>by
  have e:∀ v:List Nat,v.map (· + (r + 1))=(v.map (· + r)).map (· + 1):=fun v=>by rw [List.map_map];rfl
  rw [e,e,← dR j r v]
  exact xW (j + r) _
theorem m7(j:Nat):∀ (r:Nat) (v:List Nat),bW (j + r) (v.map (· + r))=bW j v
 | 0,v=>by simp
 | r + 1,v=>by
  have e:∀ v:List Nat,v.map (· + (r + 1))=(v.map (· + r)).map (· + 1):=fun v=>by rw [List.map_map];rfl
  rw [e,← m7 j r v]
  exact iI (j + r) _
theorem gD1(r:Nat)(l:List Nat)(h:∀ x∈l,r<=x):(l.map (· - r)).map (· + r)=l:=by
 rw [List.map_map]
 conv=>rhs;rw [← List.map_id l]
 refine List.map_congr_left fun x hx=>?_
 have:=h x hx
 simp;lia
noncomputable def pR(r x:Nat):Bool:=x == r || x == r + 1
theorem tG(r:Nat):pR r r=true:=by simp [pR]
theorem tF(r:Nat):pR r (r + 1)=true:=by simp [pR]
theorem m9(r:Nat)(l:List Nat)(hl:l.length<=8):∃ v:List Nat,l.filter (pR r)=v.map (· + r)/\eA1 v=true:=by
 have hm:∀ x∈l.filter (pR r),x=r\/x=r + 1:=fun x hx=>by
  have:=(List.mem_filter.mp hx).2
  simpa [pR] using this
 refine ⟨(l.filter (pR r)).map (· - r),(gD1 r _ (fun x hx=>by rcases hm x hx with h | h <;> lia)).symm,mH au1 ?_ ?_⟩
 ·intro x hx
  obtain ⟨y,hy,rfl⟩:=List.mem_map.mp hx
  rcases hm y hy with h | h <;> subst h <;> simp
 ·rw [List.length_map]
  exact Nat.le_trans (List.length_filter_le _ _) hl
theorem gr(r:Nat){l:List Nat}(hl:l.length<=8):ex r (ex r l)=l:=by
 refine f9 (p:=pR r) ?_ ?_ ?_
 ·rw [gp (by rw [tG,tF]),gp (by rw [tG,tF])]
 ·rw [jE (tG r) (tF r),jE (tG r) (tF r)]
  refine byQ fun Q kQ=>?_
  refine aO (m9 r l hl) fun v e q=>?_
  have s:=fun w=>dR 0 r w
  simp only [Nat.zero_add] at s
  refine kQ ?_
  rw [e,s,s]
  unfold eA1 at q
  simp only [Bool.and_eq_true,beq_iff_eq] at q
  rw [q.1]
 ·rw [gq (by rw [tG];rfl) (by rw [tF];rfl),gq (by rw [tG];rfl) (by rw [tF];rfl)]
theorem fn1(r:Nat){l:List Nat}(hl:l.length<=8):bW r (ex r l)=((bW r l).2,(bW r l).1):=by
 have u:=fun l=>f7 (tG r) (tF r) l
 rw [← u,jE (tG r) (tF r),← u l]
 refine a7 (m9 r l hl) fun v h_p=>?_;have e:=h_p.1;have q:=h_p.2
 have s:=fun w=>dR 0 r w
 have s':=fun w=>m7 0 r w
 simp only [Nat.zero_add] at s s'
 rw [e,s,s',s']
 unfold eA1 at q
 simp only [Bool.and_eq_true,beq_iff_eq] at q
 rw [q.2]
noncomputable def fN1(w:List Nat):Bool:=(cnt 0 (ex 0 w) == cnt 1 w) && (cnt 1 (ex 0 w) == cnt 0 w)
theorem aU1:y4 fN1 [0,1] 8 []=true:=by decide +kernel
theorem fm{c:Nat}{p:Nat->Bool}(h:p c=true)(l:List Nat):cnt c (l.filter p)=cnt c l:=by
 unfold cnt
 rw [List.filter_filter]
 congr 1
 refine List.filter_congr fun x _=>?_
 by_cases e:x=c
 ·subst e;simp [h]
 ·simp [e]
theorem qd(r c:Nat):∀ l:List Nat,cnt (c + r) (l.map (· + r))=cnt c l
 | []=>rfl
 | x::l=>by
  have ih:=qd r c l
  unfold cnt at ih ⊢
  rw [List.map_cons,List.filter_cons,List.filter_cons]
  by_cases e:x=c
  ·subst e;simp;simpa using ih
  ·have e':¬ x + r=c + r:=by lia
   simp [e,e'];simpa using ih
theorem zq(r:Nat)(l:List Nat)(hl:l.length<=8):∃ v:List Nat,l.filter (pR r)=v.map (· + r)/\fN1 v=true:=by
 have hm:∀ x∈l.filter (pR r),x=r\/x=r + 1:=fun x hx=>by
  have:=(List.mem_filter.mp hx).2
  simpa [pR] using this
 refine ⟨(l.filter (pR r)).map (· - r),(gD1 r _ (fun x hx=>by rcases hm x hx with h | h <;> lia)).symm,mH aU1 ?_ ?_⟩
 ·intro x hx
  obtain ⟨y,hy,rfl⟩:=List.mem_map.mp hx
  rcases hm y hy with h | h <;> subst h <;> simp
 ·rw [List.length_map]
  exact Nat.le_trans (List.length_filter_le _ _) hl
theorem k6(r:Nat){l:List Nat}(hl:l.length<=8):cnt r (ex r l)=cnt (r + 1) l/\cnt (r + 1) (ex r l)=cnt r l:=by
 refine a7 (zq r l hl) fun v h_p=>?_;have e:=h_p.1;have q:=h_p.2
 have s:=fun w=>dR 0 r w
 simp only [Nat.zero_add] at s
 have c0:=fun w=>qd r 0 w
 have c1:=fun w=>qd r 1 w
 simp only [Nat.zero_add] at c0
 simp only [Nat.add_comm 1 r] at c1
 unfold fN1 at q
 simp only [Bool.and_eq_true,beq_iff_eq] at q
 constructor
 ·rw [← fm (tG r) (ex r l),jE (tG r) (tF r),e,s,c0,q.1,← c1,← e,fm (tF r)]
 ·rw [← fm (tF r) (ex r l),jE (tG r) (tF r),e,s,c1,q.2,← c0,← e,fm (tG r)]
theorem bM(r c:Nat)(h0:¬ c=r)(h1:¬ c=r + 1)(l:List Nat):cnt c (ex r l)=cnt c l:=by
 unfold cnt
 rw [gq (by simp;exact fun a=>h0 (id (Eq.symm a))) (by simp;exact fun a=>h1 (id (Eq.symm a)))]
noncomputable def Br(r:Nat)(l:List Nat):Prop:=ex r (ex (r + 1) (ex r l))=ex (r + 1) (ex r (ex (r + 1) l))
theorem kT1{l:List Nat}(hl:l.length<=8)(h:Br 0 (ex 0 l)):Br 0 l:=by
 unfold Br at h ⊢
 rw [gr 0 hl] at h
 have h1:=congrArg (ex 0) h
 rw [gr 0 (by rw [dT];exact hl)] at h1
 rw [h1,gr 0 (by simp only [dT];exact hl),gr 1 (by simp only [dT];exact hl)]
theorem hI1{l:List Nat}(hl:l.length<=8)(h:Br 0 (ex 1 l)):Br 0 l:=by
 unfold Br at h ⊢
 rw [show ex (0 + 1) (ex 1 l)=l from gr 1 hl] at h
 have h1:=congrArg (ex 0) h
 rw [gr 0 (by simp only [dT];exact hl)] at h1
 exact h1.symm
theorem ex3{r:Nat}(hr:r < 2){l:List Nat}(h:∀ x∈l,x < 3):∀ x∈ex r l,x < 3:=fun x hx=>by
 rcases vG l _ _ x hx with h' | ⟨_,h' | h'⟩
 ·exact h x h'
 ·omega
 ·omega
theorem v9{l:List Nat}(hl:l.length<=8)(h3:∀ x∈l,x < 3)(h1:cnt 1 l<=cnt 0 l)(h2:cnt 2 l<=cnt 1 l):Br 0 l:=by
 have q:=mH aH1 (v:=l) (fun x hx=>by have:=h3 x hx;simp;lia) hl
 unfold g51 at q
 rw [Nat.ble_eq_true_of_le h1,Nat.ble_eq_true_of_le h2] at q
 have q':(exR 0 (exR 1 (exR 0 l)) == exR 1 (exR 0 (exR 1 l)))=true:=q
 simp only [dL1,beq_iff_eq] at q'
 exact q'
theorem v8{l:List Nat}(hl:l.length<=8)(h3:∀ x∈l,x < 3)(h2:cnt 2 l<=cnt 1 l):Br 0 l:=by
 by_cases h1:cnt 1 l<=cnt 0 l
 ·exact v9 hl h3 h1 h2
 ·have c:cnt 0 (ex 0 l)=cnt 1 l/\cnt 1 (ex 0 l)=cnt 0 l:=k6 0 hl
  have c2:=bM 0 2 (by exact (by decide)) (by exact (by decide)) l
  have hl':(ex 0 l).length<=8:=by rw [dT];exact hl
  have h3':=ex3 (r:=0) (by exact Nat.succ_pos _) h3
  refine kT1 hl ?_
  by_cases h4:cnt 2 l<=cnt 0 l
  ·exact v9 hl' h3' (by lia) (by lia)
  ·have d:cnt 1 (ex 1 (ex 0 l))=cnt 2 (ex 0 l)/\cnt 2 (ex 1 (ex 0 l))=cnt 1 (ex 0 l):=k6 1 hl'
   have d0:=bM 1 0 (by exact (by decide)) (by exact (by decide)) (ex 0 l)
   refine hI1 hl' ?_
   refine v9 (by rw [dT];exact hl') (ex3 (by exact Nat.le_refl _) h3') ?_ ?_
   ·rw [d.1,d0];lia
   ·rw [d.1,d.2];lia
theorem yj{l:List Nat}(hl:l.length<=8)(h3:∀ x∈l,x < 3):Br 0 l:=by
 by_cases h:cnt 2 l<=cnt 1 l
 ·exact v8 hl h3 h
 ·have d:cnt 1 (ex 1 l)=cnt 2 l/\cnt 2 (ex 1 l)=cnt 1 l:=k6 1 hl
  refine hI1 hl (v8 (by rw [dT];exact hl) (ex3 (by exact Nat.le_refl _) h3) ?_)
  rw [d.1,d.2];exact Nat.le_of_lt (Nat.not_le.mp h)
noncomputable def pT3(r x:Nat):Bool:=decide (r<=x) && decide (x<=r + 2)
theorem zV{r x:Nat}(h:r<=x)(h':x<=r + 2):pT3 r x=true:=by unfold pT3;simp [h,h']
theorem rH(r:Nat){l:List Nat}(hl:l.length<=8):Br r l:=by
 have t0:pT3 r r=true:=zV (by exact Nat.le_refl _) (by exact Nat.le_add_right _ _)
 have t1:pT3 r (r + 1)=true:=zV (by exact Nat.le_succ _) (by exact Nat.le_succ _)
 have t2:pT3 r (r + 1 + 1)=true:=zV (by exact Nat.le_trans (Nat.le_succ r) (Nat.le_add_right r.succ 1)) (by exact Nat.le_refl _)
 unfold Br
 refine f9 (p:=pT3 r) ?_ ?_ ?_
 ·have e0:=fun l=>gp (r:=r) (p:=pT3 r) (by rw [t0,t1]) l
  have e1:=fun l=>gp (r:=r + 1) (p:=pT3 r) (by rw [t1,t2]) l
  simp only [e0,e1]
 ·have e0:=fun l=>jE (r:=r) (p:=pT3 r) t0 t1 l
  have e1:=fun l=>jE (r:=r + 1) (p:=pT3 r) t1 t2 l
  simp only [e0,e1]
  have hm:∀ x∈l.filter (pT3 r),r<=x/\x<=r + 2:=fun x hx=>by
   have:=(List.mem_filter.mp hx).2
   simpa [pT3] using this
  have hb:=gD1 r _ (fun x hx=>(hm x hx).1)
  have key:=yj (l:=(l.filter (pT3 r)).map (· - r)) (by rw [List.length_map];exact Nat.le_trans (List.length_filter_le _ _) hl) (fun x hx=>by
   obtain ⟨y,hy,rfl⟩:=List.mem_map.mp hx
   have:=hm y hy
   show y - r < 3
   lia)
  generalize (l.filter (pT3 r)).map (· - r)=v at hb key
  refine (hb) ▸ ?_
  have s0:=fun w=>dR 0 r w
  have s1:=fun w=>dR 1 r w
  simp only [Nat.zero_add] at s0
  simp only [Nat.add_comm 1 r] at s1
  simp only [s0,s1]
  exact congrArg _ key
 ·have e0:=fun l=>gq (r:=r) (p:=fun x=>!pT3 r x) (by rw [t0];rfl) (by rw [t1];rfl) l
  have e1:=fun l=>gq (r:=r + 1) (p:=fun x=>!pT3 r x) (by rw [t1];rfl) (by rw [t2];rfl) l
  simp only [e0,e1]
noncomputable def h9(A:List Bool)(y:Nat):List Bool :=
 if A.getD y false then A else
  let B:=A.set y true
  if y > 0/\A.getD (y - 1) false then B.set (y - 1) false
  else if y > 1/\A.getD (y - 2) false then B.set (y - 2) false
  else if y > 2/\A.getD (y - 3) false then B.set (y - 3) false else B
noncomputable def size(A:List Bool):Nat:=(A.filter id).length
noncomputable def gw:List (List Bool):=(List.range 16).map fun n=>[n % 2 == 1,n / 2 % 2 == 1,n / 4 % 2 == 1,n / 8 % 2 == 1]
noncomputable def swA(r:Nat)(A:List Bool):List Bool:=(A.set r (A.getD (r + 1) false)).set (r + 1) (A.getD r false)
noncomputable def okA(r:Nat)(A:List Bool):Bool:=!(A.getD (r + 1) false && !A.getD r false)
noncomputable def R0(r:Nat)(A B:List Bool):Bool:=(A == B && okA r A) || (B == swA r A && A.getD r false && !A.getD (r + 1) false)
theorem zu:((List.range 3).all fun r=>gw.all fun A=>gw.all fun B=>!R0 r A B || ((List.range 4).all fun y=>y == r || y == r + 1 || R0 r (h9 A y) (h9 B y)))=true:=by decide +kernel
theorem w6:((List.range 3).all fun r=>gw.all fun A=>gw.all fun B=>!R0 r A B || R0 r (h9 A r) (h9 B (r + 1)))=true:=by decide +kernel
theorem b11:((List.range 3).all fun r=>gw.all fun A=>gw.all fun B=>!R0 r A B || h9 A (r + 1) == h9 B (r + 1))=true:=by decide +kernel
theorem b01:((List.range 3).all fun r=>gw.all fun A=>okA r (h9 A r))=true:=by decide +kernel
theorem bZ1:((List.range 3).all fun r=>gw.all fun A=>!okA r A || ((List.range 4).all fun y=>y == r || y == r + 1 || okA r (h9 A y)))=true:=by decide +kernel
theorem w5:((List.range 3).all fun r=>gw.all fun A=>gw.all fun B=>!R0 r A B || size A == size B)=true:=by decide +kernel
theorem wg:(gw.all fun A=>(List.range 4).all fun y=>gw.contains (h9 A y))=true:=by decide +kernel
noncomputable def y2(A:List Bool)(l:List Nat):List Bool:=l.foldl h9 A
section
variable {r:Nat} {A B:List Bool} {y:Nat}
theorem wh(hA:A∈gw)(hy:y < 4):h9 A y∈gw:=by
 have:=List.all_eq_true.mp (List.all_eq_true.mp wg A hA) y (List.mem_range.mpr hy)
 simpa using this
theorem gl1(hr:r < 3)(hA:A∈gw)(hB:B∈gw)(h:R0 r A B=true)(hy:y < 4)(h0:¬ y=r)(h1:¬ y=r + 1):R0 r (h9 A y) (h9 B y)=true:=by
 have:=List.all_eq_true.mp (List.all_eq_true.mp (List.all_eq_true.mp zu r (List.mem_range.mpr hr)) A hA) B hB
 rw [h] at this
 have:=List.all_eq_true.mp this y (List.mem_range.mpr hy)
 simpa [h0,h1] using this
theorem dJ1(hr:r < 3)(hA:A∈gw)(hB:B∈gw)(h:R0 r A B=true):R0 r (h9 A r) (h9 B (r + 1))=true:=by
 have:=List.all_eq_true.mp (List.all_eq_true.mp (List.all_eq_true.mp w6 r (List.mem_range.mpr hr)) A hA) B hB
 rw [h] at this
 exact this
theorem kN1(hr:r < 3)(hA:A∈gw)(hB:B∈gw)(h:R0 r A B=true):h9 A (r + 1)=h9 B (r + 1):=by
 have:=List.all_eq_true.mp (List.all_eq_true.mp (List.all_eq_true.mp b11 r (List.mem_range.mpr hr)) A hA) B hB
 rw [h] at this
 simpa using this
theorem eN1(hr:r < 3)(hA:A∈gw):okA r (h9 A r)=true:=List.all_eq_true.mp (List.all_eq_true.mp b01 r (List.mem_range.mpr hr)) A hA
theorem kM1(hr:r < 3)(hA:A∈gw)(h:okA r A=true)(hy:y < 4)(h0:¬ y=r)(h1:¬ y=r + 1):okA r (h9 A y)=true:=by
 have:=List.all_eq_true.mp (List.all_eq_true.mp bZ1 r (List.mem_range.mpr hr)) A hA
 rw [h] at this
 have:=List.all_eq_true.mp this y (List.mem_range.mpr hy)
 simpa [h0,h1] using this
theorem dF1(hr:r < 3)(hA:A∈gw)(hB:B∈gw)(h:R0 r A B=true):size A=size B:=by
 have:=List.all_eq_true.mp (List.all_eq_true.mp (List.all_eq_true.mp w5 r (List.mem_range.mpr hr)) A hA) B hB
 rw [h] at this
 simpa using this
theorem pi(h:okA r A=true):R0 r A A=true:=by unfold R0;simp [h]
end
noncomputable def bu1(r d m:Nat)(l:List Nat)(A B:List Bool):Prop :=
 (m=0/\((d=0/\R0 r A B=true)\/(0 < d/\A=B)))\/(0 < m/\A=B/\(d=0->okA r A=true)/\m + d<=(bW r l).1)
theorem qZ{r d m:Nat}{l:List Nat}{A B:List Bool}(hr:r < 3)(hA:A∈gw)(hB:B∈gw)(h:bu1 r d m l A B):size A=size B:=by
 rcases h with ⟨_,⟨_,h⟩ | ⟨_,h⟩⟩ | ⟨_,h,_⟩
 ·exact dF1 hr hA hB h
 ·rw [h]
 ·rw [h]
theorem sim{r:Nat}(hr:r < 3):∀ (l:List Nat) (d m:Nat) (A B:List Bool) (n:Nat),A∈gw->B∈gw->(∀ x∈l,x < 4)->bu1 r d m l A B->size (y2 A (l.take n))=size (y2 B ((go r l d m).take n))
 | [],d,m,A,B,n,hA,hB,_,h=>by
  have:=qZ hr hA hB h
  simpa [go,y2] using this
 | x::l,d,m,A,B,0,hA,hB,_,h=>by
  have:=qZ hr hA hB h
  exact this
 | x::l,d,m,A,B,n + 1,hA,hB,h4,h=>by
  have hx:x < 4:=h4 x List.mem_cons_self
  have h4':∀ x∈l,x < 4:=fun y hy=>h4 y (List.mem_cons_of_mem _ hy)
  have ih:=fun d m A B=>sim hr l d m A B n
  have st:∀ (y d' m':Nat),y < 4->bu1 r d' m' l (h9 A x) (h9 B y)->size (y2 A ((x::l).take (n + 1)))=size (y2 B ((y::go r l d' m').take (n + 1))):=fun y d' m' hy hR=>by
   rw [List.take_succ_cons,List.take_succ_cons]
   exact ih d' m' (h9 A x) (h9 B y) (wh hA hx) (wh hB hy) h4' hR
  simp only [go]
  by_cases c1:x=r + 1
  ·subst c1
   refine (if_pos rfl) ▸ ?_
   simp only [bu1,bW,if_true] at h
   rcases h with ⟨hm,hd⟩ | ⟨hm,hAB,hok,hle⟩
   ·subst hm
    have e:h9 A (r + 1)=h9 B (r + 1):=by
     refine Or.elim (hd) (fun h_l=>?_) (fun h_r=>?_)
     ·have h:=h_l.2
      exact kN1 hr hA hB h
     ·have h:=h_r.2
      rw [h]
    split
    ·exact st _ _ _ hx (.inl ⟨rfl,.inr ⟨by exact Nat.succ_pos _,e⟩⟩)
    ·rw [if_pos rfl]
     exact st _ _ _ hx (.inl ⟨rfl,.inr ⟨by exact Nat.succ_pos _,e⟩⟩)
   ·subst hAB
    by_cases c2:0 < (bW r l).1
    ·rw [if_pos c2] at hle ⊢
     exact st _ _ _ hx (.inr ⟨hm,rfl,by lia,by simp only at hle;omega⟩)
    ·rw [if_neg c2] at hle
     simp only at hle
     omega
  ·refine (if_neg c1) ▸ ?_
   by_cases c2:x=r
   ·subst c2
    refine (if_pos rfl) ▸ ?_
    simp only [bu1,bW,if_neg c1,if_true] at h
    rcases h with ⟨hm,hd⟩ | ⟨hm,hAB,hok,hle⟩
    ·subst hm
     rcases hd with ⟨hd,h⟩ | ⟨hd,h⟩
     ·subst hd
      rw [if_pos rfl,if_pos rfl]
      exact st _ _ _ (by exact Nat.lt_succ_of_le ‹_›) (.inl ⟨rfl,.inl ⟨rfl,dJ1 hr hA hB h⟩⟩)
     ·subst h
      rw [if_neg (by exact Nat.ne_of_gt ‹_›)]
      by_cases c3:d - 1=0
      ·exact st _ _ _ hx (.inl ⟨rfl,.inl ⟨c3,pi (eN1 hr hA)⟩⟩)
      ·exact st _ _ _ hx (.inl ⟨rfl,.inr ⟨by exact Nat.pos_of_ne_zero ‹_›,rfl⟩⟩)
    ·subst hAB
     by_cases c3:d=0
     ·subst c3
      rw [if_pos rfl,if_neg (by exact Nat.ne_of_gt ‹_›)]
      by_cases c4:m - 1=0
      ·exact st _ _ _ hx (.inl ⟨c4,.inl ⟨rfl,pi (eN1 hr hA)⟩⟩)
      ·exact st _ _ _ hx (.inr ⟨by exact Nat.pos_of_ne_zero ‹_›,rfl,fun _=>eN1 hr hA,by lia⟩)
     ·refine (if_neg c3) ▸ ?_
      exact st _ _ _ hx (.inr ⟨hm,rfl,fun _=>eN1 hr hA,by lia⟩)
   ·refine (if_neg c2) ▸ ?_
    simp only [bu1,bW,if_neg c1,if_neg c2] at h
    rcases h with ⟨hm,⟨hd,h⟩ | ⟨hd,h⟩⟩ | ⟨hm,hAB,hok,hle⟩
    ·exact st _ _ _ hx (.inl ⟨hm,.inl ⟨hd,gl1 hr hA hB h hx c2 c1⟩⟩)
    ·subst h
     exact st _ _ _ hx (.inl ⟨hm,.inr ⟨hd,rfl⟩⟩)
    ·subst hAB
     exact st _ _ _ hx (.inr ⟨hm,rfl,fun e=>kM1 hr hA (hok e) hx c2 c1,hle⟩)
noncomputable def A0:List Bool:=[false,false,false,false]
theorem hR1:A0∈gw:=by decide
theorem eu1{r:Nat}(hr:r < 3):okA r A0=true:=by
 have h:r=0\/r=1\/r=2:=by lia
 rcases h with rfl | rfl | rfl <;> rfl
noncomputable def fv(l:List Nat):Nat:=size (y2 A0 l)
theorem vM{r:Nat}(hr:r < 3){l:List Nat}(h4:∀ x∈l,x < 4)(h:(bW r l).2<=(bW r l).1)(n:Nat):fv (l.take n)=fv ((ex r l).take n):=by
 unfold fv ex
 refine sim hr l 0 _ A0 A0 n hR1 hR1 h4 ?_
 by_cases hm:(bW r l).2=0
 ·exact .inl ⟨hm,.inl ⟨rfl,pi (eu1 hr)⟩⟩
 ·exact .inr ⟨by exact Nat.pos_of_ne_zero ‹_›,rfl,fun _=>eu1 hr,by assumption⟩
theorem aD1{r:Nat}(hr:r < 3){l:List Nat}(hl:l.length<=8)(h4:∀ x∈l,x < 4)(n:Nat):fv ((ex r l).take n)=fv (l.take n):=by
 by_cases h:(bW r l).2<=(bW r l).1
 ·exact (vM hr h4 h n).symm
 ·have u:=fn1 r hl
  have:=vM hr (l:=ex r l) (vN hr h4) (by rw [u];simp only;exact Nat.le_of_lt (Nat.not_le.mp h)) n
  rw [gr r hl] at this
  exact this
noncomputable def iU:List (List Nat):=[[3,2,1,0],[3,2,1],[3,2,0],[3,1,0],[2,1,0],[3,2],[3,1],[3,0],[2,1],[2,0],[1,0]]
noncomputable def jG(D:List Nat)(y:Nat):List Nat:=D.set y (max (D.getD y 0) (1 + (D.drop (y + 1)).foldl max 0))
noncomputable def bP(w:List Nat)(y:Nat):List Nat:=match w with | c::l=>if c=y then l else w | []=>[]
set_option genInjectivity false in
set_option genSizeOf false in
structure Au where
 A:List Bool
 D:List Nat
 P:List (List Nat)
deriving DecidableEq
noncomputable def fE(s:Au)(y:Nat):Au:=⟨h9 s.A y,jG s.D y,s.P.map (bP · y)⟩
noncomputable def au0:Au:=⟨A0,[0,0,0,0],iU⟩
noncomputable def auL:List Au:=[
 ⟨[false,false,false,false],[0,0,0,0],[[3,2,1,0],[3,2,1],[3,2,0],[3,1,0],[2,1,0],[3,2],[3,1],[3,0],[2,1],[2,0],[1,0]]⟩,
 ⟨[true,false,false,false],[1,0,0,0],[[3,2,1,0],[3,2,1],[3,2,0],[3,1,0],[2,1,0],[3,2],[3,1],[3,0],[2,1],[2,0],[1,0]]⟩,
 ⟨[false,true,false,false],[0,1,0,0],[[3,2,1,0],[3,2,1],[3,2,0],[3,1,0],[2,1,0],[3,2],[3,1],[3,0],[2,1],[2,0],[0]]⟩,
 ⟨[false,false,true,false],[0,0,1,0],[[3,2,1,0],[3,2,1],[3,2,0],[3,1,0],[1,0],[3,2],[3,1],[3,0],[1],[0],[1,0]]⟩,
 ⟨[false,false,false,true],[0,0,0,1],[[2,1,0],[2,1],[2,0],[1,0],[2,1,0],[2],[1],[0],[2,1],[2,0],[1,0]]⟩,
 ⟨[false,true,false,false],[1,1,0,0],[[3,2,1,0],[3,2,1],[3,2,0],[3,1,0],[2,1,0],[3,2],[3,1],[3,0],[2,1],[2,0],[0]]⟩,
 ⟨[false,false,true,false],[1,0,1,0],[[3,2,1,0],[3,2,1],[3,2,0],[3,1,0],[1,0],[3,2],[3,1],[3,0],[1],[0],[1,0]]⟩,
 ⟨[false,false,false,true],[1,0,0,1],[[2,1,0],[2,1],[2,0],[1,0],[2,1,0],[2],[1],[0],[2,1],[2,0],[1,0]]⟩,
 ⟨[true,true,false,false],[2,1,0,0],[[3,2,1,0],[3,2,1],[3,2,0],[3,1,0],[2,1,0],[3,2],[3,1],[3,0],[2,1],[2,0],[]]⟩,
 ⟨[false,false,true,false],[0,1,1,0],[[3,2,1,0],[3,2,1],[3,2,0],[3,1,0],[1,0],[3,2],[3,1],[3,0],[1],[0],[0]]⟩,
 ⟨[false,false,false,true],[0,1,0,1],[[2,1,0],[2,1],[2,0],[1,0],[2,1,0],[2],[1],[0],[2,1],[2,0],[0]]⟩,
 ⟨[true,false,true,false],[2,0,1,0],[[3,2,1,0],[3,2,1],[3,2,0],[3,1,0],[1,0],[3,2],[3,1],[3,0],[1],[],[1,0]]⟩,
 ⟨[false,true,true,false],[0,2,1,0],[[3,2,1,0],[3,2,1],[3,2,0],[3,1,0],[0],[3,2],[3,1],[3,0],[],[0],[0]]⟩,
 ⟨[false,false,false,true],[0,0,1,1],[[2,1,0],[2,1],[2,0],[1,0],[1,0],[2],[1],[0],[1],[0],[1,0]]⟩,
 ⟨[true,false,false,true],[2,0,0,1],[[2,1,0],[2,1],[2,0],[1,0],[2,1,0],[2],[1],[],[2,1],[2,0],[1,0]]⟩,
 ⟨[false,true,false,true],[0,2,0,1],[[2,1,0],[2,1],[2,0],[0],[2,1,0],[2],[],[0],[2,1],[2,0],[0]]⟩,
 ⟨[false,false,true,true],[0,0,2,1],[[1,0],[1],[0],[1,0],[1,0],[],[1],[0],[1],[0],[1,0]]⟩,
 ⟨[false,false,true,false],[1,1,1,0],[[3,2,1,0],[3,2,1],[3,2,0],[3,1,0],[1,0],[3,2],[3,1],[3,0],[1],[0],[0]]⟩,
 ⟨[false,false,false,true],[1,1,0,1],[[2,1,0],[2,1],[2,0],[1,0],[2,1,0],[2],[1],[0],[2,1],[2,0],[0]]⟩,
 ⟨[false,true,true,false],[1,2,1,0],[[3,2,1,0],[3,2,1],[3,2,0],[3,1,0],[0],[3,2],[3,1],[3,0],[],[0],[0]]⟩,
 ⟨[false,false,false,true],[1,0,1,1],[[2,1,0],[2,1],[2,0],[1,0],[1,0],[2],[1],[0],[1],[0],[1,0]]⟩,
 ⟨[false,true,false,true],[1,2,0,1],[[2,1,0],[2,1],[2,0],[0],[2,1,0],[2],[],[0],[2,1],[2,0],[0]]⟩,
 ⟨[false,false,true,true],[1,0,2,1],[[1,0],[1],[0],[1,0],[1,0],[],[1],[0],[1],[0],[1,0]]⟩,
 ⟨[true,false,true,false],[2,1,1,0],[[3,2,1,0],[3,2,1],[3,2,0],[3,1,0],[1,0],[3,2],[3,1],[3,0],[1],[0],[]]⟩,
 ⟨[true,false,false,true],[2,1,0,1],[[2,1,0],[2,1],[2,0],[1,0],[2,1,0],[2],[1],[0],[2,1],[2,0],[]]⟩,
 ⟨[true,false,true,false],[2,1,1,0],[[3,2,1,0],[3,2,1],[3,2,0],[3,1,0],[1,0],[3,2],[3,1],[3,0],[1],[],[]]⟩,
 ⟨[false,false,false,true],[0,1,1,1],[[2,1,0],[2,1],[2,0],[1,0],[1,0],[2],[1],[0],[1],[0],[0]]⟩,
 ⟨[true,false,false,true],[2,1,0,1],[[2,1,0],[2,1],[2,0],[1,0],[2,1,0],[2],[1],[],[2,1],[2,0],[]]⟩,
 ⟨[false,false,true,true],[0,1,2,1],[[1,0],[1],[0],[1,0],[1,0],[],[1],[0],[1],[0],[0]]⟩,
 ⟨[false,true,true,false],[2,2,1,0],[[3,2,1,0],[3,2,1],[3,2,0],[3,1,0],[0],[3,2],[3,1],[3,0],[],[],[0]]⟩,
 ⟨[true,false,false,true],[2,0,1,1],[[2,1,0],[2,1],[2,0],[1,0],[1,0],[2],[1],[0],[1],[],[1,0]]⟩,
 ⟨[true,true,true,false],[3,2,1,0],[[3,2,1,0],[3,2,1],[3,2,0],[3,1,0],[],[3,2],[3,1],[3,0],[],[],[]]⟩,
 ⟨[false,true,false,true],[0,2,1,1],[[2,1,0],[2,1],[2,0],[1,0],[0],[2],[1],[0],[],[0],[0]]⟩,
 ⟨[true,false,false,true],[2,0,1,1],[[2,1,0],[2,1],[2,0],[1,0],[1,0],[2],[1],[],[1],[],[1,0]]⟩,
 ⟨[false,true,false,true],[0,2,1,1],[[2,1,0],[2,1],[2,0],[0],[0],[2],[],[0],[],[0],[0]]⟩,
 ⟨[false,true,false,true],[2,2,0,1],[[2,1,0],[2,1],[2,0],[0],[2,1,0],[2],[],[],[2,1],[2,0],[0]]⟩,
 ⟨[false,false,true,true],[2,0,2,1],[[1,0],[1],[0],[1,0],[1,0],[],[1],[],[1],[0],[1,0]]⟩,
 ⟨[true,true,false,true],[3,2,0,1],[[2,1,0],[2,1],[2,0],[],[2,1,0],[2],[],[],[2,1],[2,0],[]]⟩,
 ⟨[false,false,true,true],[0,2,2,1],[[1,0],[1],[0],[0],[1,0],[],[],[0],[1],[0],[0]]⟩,
 ⟨[true,false,true,true],[3,0,2,1],[[1,0],[1],[],[1,0],[1,0],[],[1],[],[1],[],[1,0]]⟩,
 ⟨[false,true,true,true],[0,3,2,1],[[0],[],[0],[0],[0],[],[],[0],[],[0],[0]]⟩,
 ⟨[false,false,false,true],[1,1,1,1],[[2,1,0],[2,1],[2,0],[1,0],[1,0],[2],[1],[0],[1],[0],[0]]⟩,
 ⟨[false,false,true,true],[1,1,2,1],[[1,0],[1],[0],[1,0],[1,0],[],[1],[0],[1],[0],[0]]⟩,
 ⟨[false,true,false,true],[1,2,1,1],[[2,1,0],[2,1],[2,0],[1,0],[0],[2],[1],[0],[],[0],[0]]⟩,
 ⟨[false,true,false,true],[1,2,1,1],[[2,1,0],[2,1],[2,0],[0],[0],[2],[],[0],[],[0],[0]]⟩,
 ⟨[false,false,true,true],[1,2,2,1],[[1,0],[1],[0],[0],[1,0],[],[],[0],[1],[0],[0]]⟩,
 ⟨[false,true,true,true],[1,3,2,1],[[0],[],[0],[0],[0],[],[],[0],[],[0],[0]]⟩,
 ⟨[false,true,true,false],[2,2,1,0],[[3,2,1,0],[3,2,1],[3,2,0],[3,1,0],[0],[3,2],[3,1],[3,0],[],[0],[]]⟩,
 ⟨[true,false,false,true],[2,1,1,1],[[2,1,0],[2,1],[2,0],[1,0],[1,0],[2],[1],[0],[1],[0],[]]⟩,
 ⟨[false,true,false,true],[2,2,0,1],[[2,1,0],[2,1],[2,0],[0],[2,1,0],[2],[],[0],[2,1],[2,0],[]]⟩,
 ⟨[false,false,true,true],[2,1,2,1],[[1,0],[1],[0],[1,0],[1,0],[],[1],[0],[1],[0],[]]⟩,
 ⟨[false,true,true,false],[2,2,1,0],[[3,2,1,0],[3,2,1],[3,2,0],[3,1,0],[0],[3,2],[3,1],[3,0],[],[],[]]⟩,
 ⟨[true,false,false,true],[2,1,1,1],[[2,1,0],[2,1],[2,0],[1,0],[1,0],[2],[1],[0],[1],[],[]]⟩,
 ⟨[true,false,false,true],[2,1,1,1],[[2,1,0],[2,1],[2,0],[1,0],[1,0],[2],[1],[],[1],[],[]]⟩,
 ⟨[false,true,false,true],[2,2,0,1],[[2,1,0],[2,1],[2,0],[0],[2,1,0],[2],[],[],[2,1],[2,0],[]]⟩,
 ⟨[false,false,true,true],[2,1,2,1],[[1,0],[1],[0],[1,0],[1,0],[],[1],[],[1],[0],[]]⟩,
 ⟨[true,false,true,true],[3,1,2,1],[[1,0],[1],[],[1,0],[1,0],[],[1],[],[1],[],[]]⟩,
 ⟨[false,true,false,true],[2,2,1,1],[[2,1,0],[2,1],[2,0],[1,0],[0],[2],[1],[0],[],[],[0]]⟩,
 ⟨[false,true,false,true],[2,2,1,1],[[2,1,0],[2,1],[2,0],[0],[0],[2],[],[0],[],[],[0]]⟩,
 ⟨[false,false,true,true],[2,0,2,1],[[1,0],[1],[0],[1,0],[1,0],[],[1],[0],[1],[],[1,0]]⟩,
 ⟨[true,true,false,true],[3,2,1,1],[[2,1,0],[2,1],[2,0],[1,0],[],[2],[1],[0],[],[],[]]⟩,
 ⟨[true,true,false,true],[3,2,1,1],[[2,1,0],[2,1],[2,0],[1,0],[],[2],[1],[],[],[],[]]⟩,
 ⟨[false,false,true,true],[0,2,2,1],[[1,0],[1],[0],[1,0],[0],[],[1],[0],[],[0],[0]]⟩,
 ⟨[false,true,false,true],[2,2,1,1],[[2,1,0],[2,1],[2,0],[0],[0],[2],[],[],[],[],[0]]⟩,
 ⟨[false,false,true,true],[2,0,2,1],[[1,0],[1],[0],[1,0],[1,0],[],[1],[],[1],[],[1,0]]⟩,
 ⟨[true,true,false,true],[3,2,1,1],[[2,1,0],[2,1],[2,0],[],[],[2],[],[],[],[],[]]⟩,
 ⟨[false,false,true,true],[0,2,2,1],[[1,0],[1],[0],[0],[0],[],[],[0],[],[0],[0]]⟩,
 ⟨[false,false,true,true],[2,2,2,1],[[1,0],[1],[0],[0],[1,0],[],[],[],[1],[0],[0]]⟩,
 ⟨[false,true,true,true],[2,3,2,1],[[0],[],[0],[0],[0],[],[],[],[],[0],[0]]⟩,
 ⟨[true,false,true,true],[3,2,2,1],[[1,0],[1],[0],[],[1,0],[],[],[],[1],[0],[]]⟩,
 ⟨[true,false,true,true],[3,2,2,1],[[1,0],[1],[],[],[1,0],[],[],[],[1],[],[]]⟩,
 ⟨[false,true,true,true],[3,3,2,1],[[0],[],[],[0],[0],[],[],[],[],[],[0]]⟩,
 ⟨[true,true,true,true],[4,3,2,1],[[],[],[],[],[],[],[],[],[],[],[]]⟩,
 ⟨[false,false,true,true],[1,2,2,1],[[1,0],[1],[0],[1,0],[0],[],[1],[0],[],[0],[0]]⟩,
 ⟨[false,false,true,true],[1,2,2,1],[[1,0],[1],[0],[0],[0],[],[],[0],[],[0],[0]]⟩,
 ⟨[false,true,false,true],[2,2,1,1],[[2,1,0],[2,1],[2,0],[1,0],[0],[2],[1],[0],[],[0],[]]⟩,
 ⟨[false,true,false,true],[2,2,1,1],[[2,1,0],[2,1],[2,0],[0],[0],[2],[],[0],[],[0],[]]⟩,
 ⟨[false,false,true,true],[2,2,2,1],[[1,0],[1],[0],[0],[1,0],[],[],[0],[1],[0],[]]⟩,
 ⟨[false,true,true,true],[2,3,2,1],[[0],[],[0],[0],[0],[],[],[0],[],[0],[]]⟩,
 ⟨[false,true,false,true],[2,2,1,1],[[2,1,0],[2,1],[2,0],[1,0],[0],[2],[1],[0],[],[],[]]⟩,
 ⟨[false,true,false,true],[2,2,1,1],[[2,1,0],[2,1],[2,0],[0],[0],[2],[],[0],[],[],[]]⟩,
 ⟨[false,false,true,true],[2,1,2,1],[[1,0],[1],[0],[1,0],[1,0],[],[1],[0],[1],[],[]]⟩,
 ⟨[false,true,false,true],[2,2,1,1],[[2,1,0],[2,1],[2,0],[0],[0],[2],[],[],[],[],[]]⟩,
 ⟨[false,false,true,true],[2,1,2,1],[[1,0],[1],[0],[1,0],[1,0],[],[1],[],[1],[],[]]⟩,
 ⟨[false,false,true,true],[2,2,2,1],[[1,0],[1],[0],[0],[1,0],[],[],[],[1],[0],[]]⟩,
 ⟨[false,true,true,true],[2,3,2,1],[[0],[],[0],[0],[0],[],[],[],[],[0],[]]⟩,
 ⟨[false,true,true,true],[3,3,2,1],[[0],[],[],[0],[0],[],[],[],[],[],[]]⟩,
 ⟨[false,false,true,true],[2,2,2,1],[[1,0],[1],[0],[1,0],[0],[],[1],[0],[],[],[0]]⟩,
 ⟨[false,false,true,true],[2,2,2,1],[[1,0],[1],[0],[0],[0],[],[],[0],[],[],[0]]⟩,
 ⟨[false,true,true,true],[2,3,2,1],[[0],[],[0],[0],[0],[],[],[0],[],[],[0]]⟩,
 ⟨[true,true,false,true],[3,2,1,1],[[2,1,0],[2,1],[2,0],[0],[],[2],[],[0],[],[],[]]⟩,
 ⟨[true,false,true,true],[3,2,2,1],[[1,0],[1],[0],[1,0],[],[],[1],[0],[],[],[]]⟩,
 ⟨[true,true,false,true],[3,2,1,1],[[2,1,0],[2,1],[2,0],[0],[],[2],[],[],[],[],[]]⟩,
 ⟨[true,false,true,true],[3,2,2,1],[[1,0],[1],[0],[1,0],[],[],[1],[],[],[],[]]⟩,
 ⟨[true,false,true,true],[3,2,2,1],[[1,0],[1],[],[1,0],[],[],[1],[],[],[],[]]⟩,
 ⟨[false,false,true,true],[2,2,2,1],[[1,0],[1],[0],[0],[0],[],[],[],[],[],[0]]⟩,
 ⟨[false,true,true,true],[2,3,2,1],[[0],[],[0],[0],[0],[],[],[],[],[],[0]]⟩,
 ⟨[true,false,true,true],[3,2,2,1],[[1,0],[1],[0],[],[],[],[],[],[],[],[]]⟩,
 ⟨[true,false,true,true],[3,2,2,1],[[1,0],[1],[],[],[],[],[],[],[],[],[]]⟩,
 ⟨[false,true,true,true],[3,3,2,1],[[0],[],[0],[],[0],[],[],[],[],[0],[]]⟩,
 ⟨[false,true,true,true],[3,3,2,1],[[0],[],[],[],[0],[],[],[],[],[],[]]⟩,
 ⟨[false,false,true,true],[2,2,2,1],[[1,0],[1],[0],[1,0],[0],[],[1],[0],[],[0],[]]⟩,
 ⟨[false,false,true,true],[2,2,2,1],[[1,0],[1],[0],[0],[0],[],[],[0],[],[0],[]]⟩,
 ⟨[false,false,true,true],[2,2,2,1],[[1,0],[1],[0],[1,0],[0],[],[1],[0],[],[],[]]⟩,
 ⟨[false,false,true,true],[2,2,2,1],[[1,0],[1],[0],[0],[0],[],[],[0],[],[],[]]⟩,
 ⟨[false,true,true,true],[2,3,2,1],[[0],[],[0],[0],[0],[],[],[0],[],[],[]]⟩,
 ⟨[false,false,true,true],[2,2,2,1],[[1,0],[1],[0],[0],[0],[],[],[],[],[],[]]⟩,
 ⟨[false,true,true,true],[2,3,2,1],[[0],[],[0],[0],[0],[],[],[],[],[],[]]⟩,
 ⟨[true,false,true,true],[3,2,2,1],[[1,0],[1],[0],[0],[],[],[],[0],[],[],[]]⟩,
 ⟨[false,true,true,true],[3,3,2,1],[[0],[],[0],[0],[],[],[],[0],[],[],[]]⟩,
 ⟨[true,false,true,true],[3,2,2,1],[[1,0],[1],[0],[0],[],[],[],[],[],[],[]]⟩,
 ⟨[false,true,true,true],[3,3,2,1],[[0],[],[0],[0],[],[],[],[],[],[],[]]⟩,
 ⟨[false,true,true,true],[3,3,2,1],[[0],[],[],[0],[],[],[],[],[],[],[]]⟩,
 ⟨[false,true,true,true],[3,3,2,1],[[0],[],[0],[],[],[],[],[],[],[],[]]⟩,
 ⟨[false,true,true,true],[3,3,2,1],[[0],[],[],[],[],[],[],[],[],[],[]]⟩]
noncomputable def auN:List (List Nat):=[[1,2,3,4],[1,5,6,7],[8,2,9,10],[11,12,3,13],[14,15,16,4],[8,5,17,18],[11,19,6,20],[14,21,22,7],[8,8,23,24],[25,12,9,26],[27,15,28,10],[11,29,11,30],[31,12,12,32],[33,34,16,13],[14,35,36,14],[37,15,38,15],[39,40,16,16],[25,19,17,41],[27,21,42,18],[31,19,19,43],[33,44,22,20],[37,21,45,21],[39,46,22,22],[25,47,23,48],[27,49,50,24],[25,51,25,52],[53,34,28,26],[27,54,55,27],[56,40,28,28],[31,29,29,57],[33,58,59,30],[31,31,31,60],[61,34,62,32],[33,63,64,33],[65,34,66,34],[37,35,67,35],[39,68,36,36],[37,37,69,37],[70,40,38,38],[39,71,39,39],[72,40,40,40],[53,44,42,41],[56,46,42,42],[61,44,73,43],[65,44,74,44],[70,46,45,45],[72,46,46,46],[31,47,47,75],[53,76,50,48],[37,49,77,49],[56,78,50,50],[31,51,51,79],[53,80,81,52],[53,82,83,53],[37,54,84,54],[56,85,55,55],[56,86,56,56],[61,58,87,57],[65,58,88,58],[39,89,59,59],[61,90,91,60],[61,92,93,61],[94,40,62,62],[65,63,95,63],[39,96,64,64],[65,65,97,65],[98,40,66,66],[70,68,67,67],[72,68,68,68],[70,99,69,69],[70,100,70,70],[72,71,71,71],[72,72,72,72],[94,46,73,73],[98,46,74,74],[61,76,101,75],[65,76,102,76],[70,78,77,77],[72,78,78,78],[61,80,103,79],[65,80,104,80],[56,105,81,81],[65,82,106,82],[56,107,83,83],[70,85,84,84],[72,85,85,85],[72,86,86,86],[94,89,87,87],[98,89,88,88],[72,89,89,89],[65,90,108,90],[94,109,91,91],[65,92,110,92],[94,111,93,93],[94,112,94,94],[98,96,95,95],[72,96,96,96],[98,113,97,97],[98,114,98,98],[72,99,99,99],[72,100,100,100],[94,78,101,101],[98,78,102,102],[94,105,103,103],[98,105,104,104],[72,105,105,105],[98,107,106,106],[72,107,107,107],[98,109,108,108],[72,109,109,109],[98,111,110,110],[72,111,111,111],[72,112,112,112],[72,113,113,113],[72,114,114,114]]
theorem a51:((List.range 115).all fun i=>(List.range 4).all fun y=>decide (auL[(auN.getD i []).getD y 0]?=some (fE (auL.getD i au0) y)))=true:=by decide +kernel
noncomputable def wc(s:Au):Bool:=decide ((match (List.range 11).find? (fun i=>(s.P.getD i [0]) == []) with | some i=>(iU.getD i []).length | none=>1)=size s.A) && decide (s.D.foldl max 0=size s.A)
theorem a61:((List.range 115).all fun i=>i == 0 || wc (auL.getD i au0))=true:=by decide +kernel
theorem d81:((List.range 115).all fun i=>(List.range 4).all fun y=>decide (0 < (auN.getD i []).getD y 0) && decide ((auN.getD i []).getD y 0 < 115))=true:=by decide +kernel
noncomputable def auF(l:List Nat):Au:=l.foldl fE au0
theorem y3:∀ (l:List Nat) (i:Nat),i < 115->(∀ x∈l,x < 4)->∃ j,j < 115/\l.foldl fE (auL.getD i au0)=auL.getD j au0/\(0 < i\/l≠[]->0 < j)
 | [],i,hi,_=>⟨i,hi,rfl,fun h=>h.elim id (fun h=>absurd rfl h)⟩
 | y::l,i,hi,h4=>by
  have hy:=h4 y List.mem_cons_self
  have n1:=of_decide_eq_true (List.all_eq_true.mp (List.all_eq_true.mp a51 i (List.mem_range.mpr hi)) y (List.mem_range.mpr hy))
  have n2:=List.all_eq_true.mp (List.all_eq_true.mp d81 i (List.mem_range.mpr hi)) y (List.mem_range.mpr hy)
  rw [Bool.and_eq_true,decide_eq_true_eq,decide_eq_true_eq] at n2
  generalize (auN.getD i []).getD y 0=k at n1 n2
  have e:fE (auL.getD i au0) y=auL.getD k au0:=by rw [List.getD_eq_getElem?_getD (l:=auL) (i:=k),n1];rfl
  refine a7 (y3 l k n2.2 (fun x hx=>h4 x (List.mem_cons_of_mem _ hx))) fun j h_p=>?_;have h1:=h_p.1;have h2:=h_p.2.1;have h3:=h_p.2.2
  exact ⟨j,h1,by rw [List.foldl_cons,e];exact h2,fun _=>h3 (.inl n2.1)⟩
theorem yl{l:List Nat}(h4:∀ x∈l,x < 4)(hl:l≠[]):wc (auF l)=true:=by
 refine ww (y3 l 0 (by exact Nat.succ_pos _) h4) fun j h1 h2 h3=>?_
 have g:=List.all_eq_true.mp a61 j (List.mem_range.mpr h1)
 have h0:=h3 (.inr hl)
 have e:auF l=auL.getD j au0:=h2
 refine (e) ▸ ?_
 have:(j == 0)=false:=by simp;exact Nat.ne_of_gt ‹_›
 rw [this] at g
 exact g
noncomputable def sgl(w:List Nat):List (List Nat):=(w.map fun c=>[c])++[[]]
theorem vt(c x:Nat)(l:List Nat):mU c (x::l)=if x=c then some 0 else (mU c l).map (· + 1):=rfl
theorem m5:∀ l:List Nat,l.foldl bP []=[]
 | []=>rfl
 | _::l=>m5 l
theorem rJ(c:Nat)(w l:List Nat):elq (sgl (c::w)) l=match mU c l with | none=>false | some i=>elq (sgl w) (l.drop (i + 1)):=rfl
theorem ml:∀ (l w:List Nat),elq (sgl w) l=(l.foldl bP w == [])
 | l,[]=>by rw [m5];rfl
 | [],c::w=>rfl
 | x::l,c::w=>by
  rw [rJ,vt,List.foldl_cons]
  by_cases h:x=c
  ·subst h
   rw [if_pos rfl]
   show elq (sgl w) l=_
   rw [ml l w]
   have:bP (x::w) x=w:=if_pos rfl
   rw [this]
  ·rw [if_neg h]
   have e:bP (c::w) x=c::w:=if_neg (fun e=>h e.symm)
   rw [e,← ml l (c::w),rJ]
   cases mU c l <;> rfl
theorem tX{y:Nat}(hy:y < 4){w:List Nat}(hw:∀ x∈w,x < 4):bP (w.map ai) (ai y)=(bP w y).map ai:=by
 cases w with
 | nil=>rfl
 | cons c w =>
  have hc:=hw c List.mem_cons_self
  show (if ai c=ai y then w.map ai else (c::w).map ai)=(if c=y then w else c::w).map ai
  by_cases h:c=y
  ·rw [if_pos h,if_pos (by rw [h])]
  ·rw [if_neg h,if_neg (fun e=>h (lX hc hy e))]
theorem wI{y:Nat}{w:List Nat}(hw:∀ x∈w,x < 4):∀ x∈bP w y,x < 4:=by
 cases w with
 | nil=>exact hw
 | cons c w =>
  show ∀ x∈(if c=y then w else c::w),x < 4
  split
  ·exact fun x hx=>hw x (List.mem_cons_of_mem _ hx)
  ·exact hw
theorem rC:∀ (l w:List Nat),(∀ x∈l,x < 4)->(∀ x∈w,x < 4)->(l.map ai).foldl bP (w.map ai)=(l.foldl bP w).map ai
 | [],_,_,_=>rfl
 | y::l,w,hl,hw=>by
  rw [List.map_cons,List.foldl_cons,List.foldl_cons,tX (hl y List.mem_cons_self) hw]
  exact rC l (bP w y) (fun x hx=>hl x (List.mem_cons_of_mem _ hx)) (wI hw)
theorem xY{l w:List Nat}(hl:∀ x∈l,x < 4)(hw:∀ x∈w,x < 4):elq (gF (w.map ai)) (l.map ai)=(l.foldl bP w == []):=by
 show elq (sgl (w.map ai)) (l.map ai)=_
 rw [ml,rC l w hl hw]
 cases l.foldl bP w <;> rfl
theorem d91:∀ (l:List Nat) (s:Au),(l.foldl fE s).P=s.P.map (fun w=>l.foldl bP w)
 | [],s=>by simp
 | y::l,s=>by
  rw [List.foldl_cons,d91 l (fE s y)]
  show (s.P.map (bP · y)).map _=_
  rw [List.map_map]
  rfl
theorem eb1:∀ (l:List Nat) (s:Au),(l.foldl fE s).A=y2 s.A l
 | [],s=>rfl
 | y::l,s=>by rw [List.foldl_cons,eb1 l (fE s y)];rfl
theorem ea1:∀ (l:List Nat) (s:Au),(l.foldl fE s).D=l.foldl jG s.D
 | [],s=>rfl
 | y::l,s=>by rw [List.foldl_cons,ea1 l (fE s y)];rfl
theorem jA{α:Type}{p q:α->Bool}:∀ {l:List α},(∀ x∈l,p x=q x)->l.find? p=l.find? q
 | [],_=>rfl
 | x::l,h=>by
  rw [List.find?_cons,List.find?_cons,h x List.mem_cons_self,jA (fun y hy=>h y (List.mem_cons_of_mem _ hy))]
noncomputable def yJ:List (List Nat)->Nat
 | P=>match (List.range 11).find? (fun i=>(P.getD i [0]) == []) with | some i=>(iU.getD i []).length | none=>1
theorem sn{l:List Nat}(hl:∀ x∈l,x < 4):eU (l.map ai)=yJ (iU.map (fun w=>l.foldl bP w)):=by
 have e:wants=iU.map (·.map ai):=by decide
 have k:∀ w∈iU,(∀ x∈w,x < 4):=by decide
 have q:∀ w∈iU,elq (gF (w.map ai)) (l.map ai)=(l.foldl bP w == []):=fun w hw=>xY hl (k w hw)
 unfold eU
 rw [e,List.find?_map]
 have q':iU.find? ((fun w=>elq (gF w) (l.map ai)) ∘ fun w=>w.map ai)=iU.find? (fun w=>l.foldl bP w == []):=by
  exact jA q
 refine (q') ▸ ?_
 unfold yJ iU
 have r:List.range 11=[0,1,2,3,4,5,6,7,8,9,10]:=rfl
 rw [r]
 simp only [List.find?_cons,List.find?_nil,List.map_cons,List.map_nil,List.getD_cons_zero,List.getD_cons_succ]
 cases (List.foldl bP [3,2,1,0] l == []) with
 | true=>rfl
 | false =>
  cases (List.foldl bP [3,2,1] l == []) with
  | true=>rfl
  | false =>
   cases (List.foldl bP [3,2,0] l == []) with
   | true=>rfl
   | false =>
    cases (List.foldl bP [3,1,0] l == []) with
    | true=>rfl
    | false =>
     cases (List.foldl bP [2,1,0] l == []) with
     | true=>rfl
     | false =>
      cases (List.foldl bP [3,2] l == []) with
      | true=>rfl
      | false =>
       cases (List.foldl bP [3,1] l == []) with
       | true=>rfl
       | false =>
        cases (List.foldl bP [3,0] l == []) with
        | true=>rfl
        | false =>
         cases (List.foldl bP [2,1] l == []) with
         | true=>rfl
         | false =>
          cases (List.foldl bP [2,0] l == []) with
          | true=>rfl
          | false =>
           cases (List.foldl bP [1,0] l == []) with
           | true=>rfl
           | false =>
            rfl
noncomputable def mx(l:List Nat):Nat:=l.foldl max 0
theorem z6(l:List Nat)(t:Nat):mx (l++[t])=max (mx l) t:=by unfold mx;rw [List.foldl_append];rfl
theorem rz{l:List Nat}(h4:∀ x∈l,x < 4)(hl:l≠[]):eU (l.map ai)=fv l/\mx (l.foldl jG [0,0,0,0])=fv l:=by
 have g:=yl h4 hl
 unfold wc at g
 rw [Bool.and_eq_true,decide_eq_true_eq,decide_eq_true_eq] at g
 have a:(auF l).A=y2 A0 l:=eb1 l au0
 have d:(auF l).D=l.foldl jG [0,0,0,0]:=ea1 l au0
 have p:(auF l).P=iU.map (fun w=>l.foldl bP w):=d91 l au0
 rw [a,d,p] at g
 exact ⟨(sn h4).trans g.1,g.2⟩
noncomputable def yM(z:Nat)(P:List (Nat × Nat)):Nat:=mx ((P.filter (fun p=>decide (z<=p.1))).map (·.2))
noncomputable def aZ(P:List (Nat × Nat))(y:Nat):List (Nat × Nat):=P++[(y,1 + yM (y + 1) P)]
theorem uU(z y t:Nat)(P:List (Nat × Nat)):yM z (P++[(y,t)])=if z<=y then max (yM z P) t else yM z P:=by
 unfold yM
 rw [List.filter_append,List.map_append]
 by_cases h:z<=y
 ·rw [if_pos h]
  have:(List.filter (fun p=>decide (z<=p.1)) [(y,t)])=[(y,t)]:=by simp [h]
  rw [this]
  exact z6 _ _
 ·rw [if_neg h]
  have:(List.filter (fun p=>decide (z<=p.1)) [(y,t)])=[]:=by simp [h]
  rw [this]
  simp
theorem x8(a b c d y z:Nat)(hy:y < 4)(hz:z<=4):mx ((jG [a,b,c,d] y).drop z)=if z<=y then max (mx ([a,b,c,d].drop z)) (1 + mx ([a,b,c,d].drop (y + 1))) else mx ([a,b,c,d].drop z):=by
 have hy':y=0\/y=1\/y=2\/y=3:=by lia
 have hz':z=0\/z=1\/z=2\/z=3\/z=4:=by lia
 rcases hy' with rfl | rfl | rfl | rfl <;> rcases hz' with rfl | rfl | rfl | rfl | rfl <;> simp [jG,mx] <;> omega
theorem v0{D:List Nat}(y:Nat)(h:D.length=4):(jG D y).length=4:=by unfold jG;rw [List.length_set];exact h
theorem qS:∀ (l:List Nat) (D:List Nat) (P:List (Nat × Nat)),(∀ x∈l,x < 4)->D.length=4->(∀ z≤4,mx (D.drop z)=yM z P) ->
  ∀ z≤4,mx ((l.foldl jG D).drop z)=yM z (l.foldl aZ P)
 | [],D,P,_,_,h=>h
 | y::l,D,P,h4,hD,h=>by
  have hy:=h4 y List.mem_cons_self
  refine qS l (jG D y) (aZ P y) (fun x hx=>h4 x (List.mem_cons_of_mem _ hx)) (v0 y hD) fun z hz=>?_
  unfold aZ
  rw [uU,← h z hz,← h (y + 1) (by assumption)]
  exact l4_ (P:=fun D=>mx ((jG D y).drop z)=if z<=y then max (mx (D.drop z)) (1 + mx (D.drop (y + 1))) else mx (D.drop z)) (fun a b c d=>x8 a b c d y z hy hz) D hD
noncomputable def gA(l:List Nat):List (Nat × Nat):=l.foldl aZ []
noncomputable def bc(l:List Nat):List Nat:=(gA l).map (·.2)
theorem ua{l:List Nat}(h4:∀ x∈l,x < 4)(hl:l≠[]):mx (bc l)=fv l:=by
 have h:=qS l [0,0,0,0] [] h4 rfl (fun z hz=>by
  have hz':z=0\/z=1\/z=2\/z=3\/z=4:=by lia
  rcases hz' with rfl | rfl | rfl | rfl | rfl <;> rfl) 0 (by exact Nat.zero_le _)
 rw [← (rz h4 hl).2]
 rw [List.drop_zero] at h
 rw [h]
 unfold yM bc gA
 congr 2
 rw [List.filter_eq_self.mpr]
 simp
theorem iX:∀ (l:List Nat) (P:List (Nat × Nat)),(l.foldl aZ P).length=P.length + l.length
 | [],P=>rfl
 | y::l,P=>by
  rw [List.foldl_cons,iX l]
  unfold aZ
  simp;exact Nat.add_right_comm _ _ _
theorem na:∀ (l:List Nat) (P:List (Nat × Nat)),(l.foldl aZ P).map (·.1)=P.map (·.1)++l
 | [],P=>by simp
 | y::l,P=>by
  rw [List.foldl_cons,na l]
  unfold aZ
  simp
theorem r5(l:List Nat)(y:Nat):gA (l++[y])=aZ (gA l) y:=by unfold gA;rw [List.foldl_append];rfl
theorem r6(l:List Nat)(n:Nat):bc (l.take n)=(bc l).take n:=by
 have key:∀ (l:List Nat) (P:List (Nat × Nat)),P.length<=n->(l.foldl aZ P).take n=(l.take (n - P.length)).foldl aZ P:=by
  intro l
  induction l with
  | nil=>intro P h;simp [List.take_of_length_le h]
  | cons y l ih =>
   intro P h
   by_cases hn:P.length=n
   ·have e:n - P.length=0:=by lia
    rw [e,List.take_zero,List.foldl_nil]
    have pre:∀ (l:List Nat) (Q:List (Nat × Nat)),∃ R,l.foldl aZ Q=Q++R:=by
     intro l
     induction l with
     | nil=>intro Q;exact ⟨[],by simp⟩
     | cons y l ih =>
      intro Q
      refine a7 (ih (aZ Q y)) fun R hR=>?_
      rw [List.foldl_cons,hR]
      unfold aZ
      rw [List.append_assoc]
      exact ⟨_,rfl⟩
    refine a7 (pre (y::l) P) fun R hR=>?_
    rw [hR,List.take_append_of_le_length (by exact Nat.le_of_eq (Eq.symm ‹_›)),List.take_of_length_le (by assumption)]
   ·have e:n - P.length=(n - (aZ P y).length) + 1:=by unfold aZ;simp;lia
    rw [e,List.take_succ_cons,List.foldl_cons,List.foldl_cons]
    exact ih (aZ P y) (by unfold aZ;simp;lia)
 unfold bc gA
 rw [← List.map_take,key l [] (Nat.zero_le _)]
 rfl
noncomputable def act(ws:List Nat)(l:List Nat):List Nat:=ws.foldl (fun l r=>ex r l) l
theorem ej(a:Nat)(ws l:List Nat):act (a::ws) l=act ws (ex a l):=rfl
theorem mI:∀ (ws l:List Nat),(act ws l).length=l.length
 | [],l=>rfl
 | a::ws,l=>by rw [ej,mI ws,dT]
theorem rW:∀ (ws l:List Nat),(∀ r∈ws,r < 3)->(∀ x∈l,x < 4)->∀ x∈act ws l,x < 4
 | [],l,_,h=>h
 | a::ws,l,hr,h=>by
  rw [ej]
  exact rW ws _ (fun r h=>hr r (List.mem_cons_of_mem _ h)) (vN (hr a List.mem_cons_self) h)
theorem lb(a b l:List Nat):act (a++b) l=act b (act a l):=List.foldl_append ..
noncomputable def rel:List Nat->List (List Nat)
 | a::b::c=>(if a=b then [c] else [])++((if (a=0/\b=2)\/(a=2/\b=0) then [b::a::c] else []) ++
  (match c with | d::c'=>if a=d/\(b=a + 1\/a=b + 1) then [b::a::b::c'] else [] | []=>[]))
 | _=>[]
theorem cs1{w v:List Nat}(h:v∈rel w){l:List Nat}(hl:l.length<=8):act v l=act w l:=by
 match w,h with
 | a::b::c,h =>
  unfold rel at h
  rw [List.mem_append,List.mem_append] at h
  rcases h with h | h | h
  ·split at h
   ·rename_i e
    cases List.mem_singleton.mp h
    subst e
    rw [ej,ej,gr a hl]
   ·cases h
  ·split at h
   ·rename_i e
    cases List.mem_singleton.mp h
    rcases e with ⟨rfl,rfl⟩ | ⟨rfl,rfl⟩
    ·show act c (ex 0 (ex 2 l))=act c (ex 2 (ex 0 l))
     rw [vO]
    ·show act c (ex 2 (ex 0 l))=act c (ex 0 (ex 2 l))
     rw [vO]
   ·cases h
  ·match c,h with
   | d::c',h =>
    dsimp only at h
    split at h
    ·rename_i e
     cases List.mem_singleton.mp h
     obtain ⟨rfl,rfl | rfl⟩:=e
     ·have:=rH a hl
      unfold Br at this
      show act c' (ex (a + 1) (ex a (ex (a + 1) l)))=act c' (ex a (ex (a + 1) (ex a l)))
      rw [this]
     ·have:=rH b hl
      unfold Br at this
      show act c' (ex b (ex (b + 1) (ex b l)))=act c' (ex (b + 1) (ex b (ex (b + 1) l)))
      rw [this]
    ·cases h
   | [],h=>cases h
noncomputable def nf:List Nat->List (List Nat)
 | []=>[]
 | a::w=>rel (a::w)++(nf w).map (a::·)
theorem nd:∀ {w v:List Nat},v∈nf w->∀ {l:List Nat},l.length<=8->act v l=act w l
 | [],v,h,l,hl=>by cases h
 | a::w,v,h,l,hl=>by
  dsimp only [nf] at h
  rw [List.mem_append] at h
  rcases h with h | h
  ·exact cs1 h hl
  ·obtain ⟨u,hu,rfl⟩:=List.mem_map.mp h
   rw [ej,ej]
   exact nd hu (by rw [dT];exact hl)
noncomputable def qW:Nat->List Nat->List Nat->Bool
 | 0,w,v=>w == v
 | n + 1,w,v=>w == v || (nf w).any fun u=>qW n u v
theorem nc:∀ {n:Nat} {w v:List Nat},qW n w v=true->∀ {l:List Nat},l.length<=8->act v l=act w l
 | 0,w,v,h,l,hl=>by
  rw [show w=v from eq_of_beq (show (w == v)=true from h)]
 | n + 1,w,v,h,l,hl=>by
  replace h:=(Bool.or_eq_true _ _).mp (show (w == v || (nf w).any fun u=>qW n u v)=true from h)
  rcases h with h | h
  ·rw [show w=v from eq_of_beq h]
  ·refine aO (List.any_eq_true.mp h) fun u hu h'=>?_
   rw [nc h' hl,nd hu hl]
noncomputable def bub:Nat->Nat->List Nat->List Nat->Option (List Nat × List Nat)
 | 0,_,_,_=>none
 | n + 1,p,now,row=>if now.getD p 0=row.getD p 0 then some ([],now) else
  match now.findIdx? (· == row.getD p 0) with
  | some (i + 1)=>if i < 3 then (bub n p (swL i now) row).map fun x=>(i::x.1,x.2) else none
  | _=>none
noncomputable def yi:List Nat->List Nat->List Nat->Option (List Nat)
 | [],_,_=>some []
 | p::ps,now,row=>match bub 8 p now row with
  | some (a,now')=>(yi ps now' row).map fun x=>a++x
  | none=>none
noncomputable def fL(ws:List Nat):List Nat:=ws.foldl (fun l r=>swL r l) [0,1,2,3]
theorem xh:((List.range 3).all fun a=>(List.range 3).all fun b=>(List.range 3).all fun c=>(List.range 3).all fun d =>
  match yi [0,1,2,3] [0,1,2,3] (fL [a,b,c,d]) with | some rs=>qW 3 [a,b,c,d] rs && rs.all (fun r=>decide (r < 3)) | none=>false)=true:=by decide +kernel
theorem zC{a b c d:Nat}(ha:a < 3)(hb:b < 3)(hc:c < 3)(hd:d < 3):∃ rs,yi [0,1,2,3] [0,1,2,3] (fL [a,b,c,d])=some rs/\(∀ r∈rs,r < 3)/\∀ l:List Nat,l.length<=8->act rs l=act [a,b,c,d] l:=by
 have h:=List.all_eq_true.mp (List.all_eq_true.mp (List.all_eq_true.mp (List.all_eq_true.mp xh a (List.mem_range.mpr ha)) b (List.mem_range.mpr hb)) c (List.mem_range.mpr hc)) d (List.mem_range.mpr hd)
 revert h
 cases yi [0,1,2,3] [0,1,2,3] (fL [a,b,c,d]) with
 | none=>intro h;exact ftr h
 | some rs =>
  intro h
  rw [Bool.and_eq_true] at h
  exact ⟨rs,rfl,fun r hr=>of_decide_eq_true (List.all_eq_true.mp h.2 r hr),fun l hl=>nc h.1 hl⟩
theorem aT1{l:List Nat}(hl:l.length<=8){r:Nat}(hr:r < 3){row:List Nat}{w:List Nat}(h:row.length=4)(e:(List.range 4).map (fun c=>cnt c l)=row.map (fun c=>cnt c w)) :
  (List.range 4).map (fun c=>cnt c (ex r l))=(swL r row).map (fun c=>cnt c w):=by
 revert e
 refine l4_ (P:=fun row=>(List.range 4).map (fun c=>cnt c l)=row.map (fun c=>cnt c w)->(List.range 4).map (fun c=>cnt c (ex r l))=(swL r row).map (fun c=>cnt c w)) (fun p q s t=>?_) row h
 ·intro e
  have e0:cnt 0 l=cnt p w:=by have:=congrArg (fun l=>l.getD 0 0) e;exact this
  have e1:cnt 1 l=cnt q w:=by have:=congrArg (fun l=>l.getD 1 0) e;exact this
  have e2:cnt 2 l=cnt s w:=by have:=congrArg (fun l=>l.getD 2 0) e;exact this
  have e3:cnt 3 l=cnt t w:=by have:=congrArg (fun l=>l.getD 3 0) e;exact this
  have hr':r=0\/r=1\/r=2:=by lia
  have R:List.range 4=[0,1,2,3]:=rfl
  rcases hr' with rfl | rfl | rfl
  ·have:=k6 0 hl
   have o2:=bM 0 2 (by exact (by decide)) (by exact (by decide)) l
   have o3:=bM 0 3 (by exact Nat.ne_of_gt ‹_›) (by exact (by decide)) l
   show [cnt 0 (ex 0 l),cnt 1 (ex 0 l),cnt 2 (ex 0 l),cnt 3 (ex 0 l)]=[cnt q w,cnt p w,cnt s w,cnt t w]
   rw [this.1,this.2,o2,o3,e0,e1,e2,e3]
  ·have:=k6 1 hl
   have o2:=bM 1 0 (by exact (by decide)) (by exact (by decide)) l
   have o3:=bM 1 3 (by exact Nat.ne_of_gt ‹_›) (by exact (by decide)) l
   show [cnt 0 (ex 1 l),cnt 1 (ex 1 l),cnt 2 (ex 1 l),cnt 3 (ex 1 l)]=[cnt p w,cnt s w,cnt q w,cnt t w]
   rw [this.1,this.2,o2,o3,e0,e1,e2,e3]
  ·have:=k6 2 hl
   have o2:=bM 2 0 (by exact (by decide)) (by exact (by decide)) l
   have o3:=bM 2 1 (by exact (by decide)) (by exact (by decide)) l
   show [cnt 0 (ex 2 l),cnt 1 (ex 2 l),cnt 2 (ex 2 l),cnt 3 (ex 2 l)]=[cnt p w,cnt q w,cnt t w,cnt s w]
   rw [this.1,this.2,o2,o3,e0,e1,e2,e3]
theorem gB:∀ (r:Nat) (l:List Nat),(swL r l).length=l.length
 | 0,[]=>rfl
 | 0,[_]=>rfl
 | 0,_::_::_=>rfl
 | _ + 1,[]=>rfl
 | r + 1,a::l=>by
  show (swL r l).length + 1=l.length + 1
  rw [gB r l]
theorem ud{r:Nat}{row:List Nat}(h:row.length=4):(swL r row).length=4:=by rw [gB];exact h
theorem yY{i:Nat}{b:List AO->ac->Out}(Inv:List V->List AO->ac->Prop)
  (h:∀ x l σ η,Inv (x::l) σ η->∃ σ' η',b σ (η.set i (some x))=some (.next,σ',η')/\Inv l σ' η') :
  ∀ (l:List V) (σ:List AO) (η:ac) (n:Nat),l.length < n->Inv l σ η->∃ σ' η',foN (.loc i) b n (.seq l) σ η=some (.next,σ',η')/\Inv [] σ' η'
 | l,σ,η,0,hn,_=>absurd hn (Nat.not_lt_zero _)
 | [],σ,η,n + 1,_,hi=>⟨σ,η,rfl,hi⟩
 | x::l,σ,η,n + 1,hn,hi=>by
  refine byQ fun Q kQ=>?_
  refine dp (h x l σ η hi) fun σ' η' h_p=>?_;have h1:=h_p.1;have h2:=h_p.2
  obtain ⟨hS1,hT1,h_p⟩:=yY Inv h l σ' η' n (by simpa using hn) h2;have e:=h_p.1;have h3:=h_p.2
  refine kQ ?_
  refine hx1 hS1 hT1 ?_ h3
  show (match b σ (η.set i (some x)) with | some (.next,σ₂,η₂)=>foN (.loc i) b n (.seq l) σ₂ η₂ | some (.brk,σ₂,η₂)=>some (.next,σ₂,η₂) | r=>r)=_
  refine (h1) ▸ ?_
  exact e
theorem gP{F:Fn}{i:Nat}{it:Ex}{b:Sx}{σ σ₁:List AO}{η:ac}{x:V}{l:List V}(Inv:List V->List AO->ac->Prop)(hit:evx F it σ η=some (x,σ₁))(hl:a6 x=some (.seq l))(hi:Inv l σ₁ η)
  (h:∀ x l σ η,Inv (x::l) σ η->∃ σ' η',exs F b σ (η.set i (some x))=some (.next,σ',η')/\Inv l σ' η') :
  ∃ σ' η',exs F (.for_ (.loc i) it b) σ η=some (.next,σ',η')/\Inv [] σ' η':=by
 rw [tP,hit]
 dsimp only
 refine (hl) ▸ ?_
 dsimp only [ItS.fuel]
 exact yY Inv h l σ₁ η (l.length + 1) (Nat.lt_succ_self _) hi
theorem fk:∀ l:List Int,dO (l.map V.int)=some l
 | []=>rfl
 | x::l=>by show (dO (l.map V.int)).map (x::·)=_;rw [fk l];rfl
theorem gi1{σ:List AO}(l:List Int):bfF .sum σ [.lst (l.map V.int)]=some (.int l.sum):=by
 show (dO (l.map V.int)).map _=_
 rw [fk];rfl
theorem w1{α β:Type}(f:α->β)(l:List α)(a b c:Option Int):j4 (l.map f) a b c=(j4 l a b c).map f:=by
 unfold j4
 rw [List.length_map,List.map_filterMap]
 congr 1
 funext i
 rw [List.getElem?_map]
theorem fD1{σ:List AO}{l:List Int}{k:Nat}{n:Int}(hn:n≠0):mQ σ (.raw (l.map V.int)) (.int (k:Int)) .none (.int n)=some (.lst ((j4 l (some (k:Int)) none (some n)).map V.int)):=by
 rw [← w1]
 show (if some n=some (0:Int) then none else some (V.lst (j4 (l.map V.int) (some (k:Int)) none (some n))))=_
 rw [if_neg (by simpa using hn)]
theorem mf{α β:Type}(f:α->β):∀ l:List α,(l.map fun x=>[f x]).flatten=l.map f
 | []=>rfl
 | x::l=>by rw [List.map_cons,List.flatten_cons,mf f l];rfl
structure LawOk (F:Fn):Prop where
 heard:∀ (σ:List AO) {ks:List Nat} {ws:List Int} {part:Int},(∀ k∈ks,k < 4)->ks.length=8->ws.length=8->1<=part->part < 1000000000->F 6 [.str (ks.map ai),.lst (ws.map V.int),.int part] σ=some (.str (ks.map ai),σ)
 exch:∀ (σ:List AO) {ks:List Nat} {r:Nat},r < 3->ks.length=8->(∀ k∈ks,k < 4)->∃ σ',F 7 [.str (ks.map ai),.int (r:Int)] σ=some (.str ((ex r ks).map ai),σ')
 swap:∀ (σ:List AO) {l:List Nat} {r:Nat},l.length=4->r < 3->F 8 [.lst (aa l),.int (r:Int)] σ=some (.lst (aa (swL r l)),σ)
 falls:∀ (σ:List AO) (t:List Nat),∃ ex',F 9 [.str t] σ=some (.int (eU t),σ++ex')
noncomputable def bG:List Int:=[150,4999,1001,5236,2859,7806,401,3795]
noncomputable def wor(ns:List Int)(k:Nat):Int:=(bG.getD k 0 + (j4 ns (some (k:Int)) none (some 8)).sum) % 1000000
noncomputable def dK(ns:List Int):List Int:=(List.range 8).map (wor ns)
noncomputable def an1(ns:List Int):List Nat:=(dK ns).map fun x=>(x % 4).toNat
theorem qN(ns:List Int):(dK ns).length=8:=rfl
theorem rq(ns:List Int):(an1 ns).length=8:=rfl
theorem am1(ns:List Int):∀ k∈an1 ns,k < 4:=fun k hk=>by
 unfold an1 at hk
 obtain ⟨x,_,rfl⟩:=List.mem_map.mp hk
 lia
noncomputable def LS(sc st wo wd rk md rw k ot nw pl tp sz tx:Option V):ac:=[sc,st,wo,wd,rk,md,rw,k,ot,nw,pl,tp,sz,tx,none,none,none,none,none]
noncomputable def tS:Ex:=.tup (.cons (.cst (.int 150)) (.cons (.cst (.int 4999)) (.cons (.cst (.int 1001)) (.cons (.cst (.int 5236)) (.cons (.cst (.int 2859)) (.cons (.cst (.int 7806)) (.cons (.cst (.int 401)) (.cons (.cst (.int 3795)) .nil))))))))
noncomputable def yx:Ex:=.comp [⟨"k",14,true⟩,⟨"script",0,false⟩,⟨"starts",1,false⟩] (.loc 14) (.bin .Mod (.bin .Add (.idx (.loc 1) (.loc 14)) (.bf .sum (.cons (.slc (.loc 0) (.loc 14) .nil (.cst (.int 8))) .nil))) (.cst (.int 1000000))) (.range (.cons (.cst (.int 8)) .nil)) .nil
noncomputable def zk:Ex:=.me .join (.cst (.str [])) (.cons (.comp [⟨"x",15,true⟩] (.loc 15) (.idx (.cst (.str [34,97,98,99])) (.bin .Mod (.loc 15) (.cst (.int 4)))) (.loc 2) .nil) .nil)
section
variable {F:Fn} {σ:List AO} {ns:List Int}
theorem wY{η:ac}:evx F tS σ η=some (.tup (bG.map V.int),σ):=by kernel_rfl!
theorem r9{k:Nat}(hk:k < 8):ez σ (.tup (bG.map V.int)) (.int (k:Int))=some (.int (bG.getD k 0)):=by
 rw [zg (by exact Int.natCast_nonneg _) (by omega) (by show (k:Int) < (8:Nat);exact Int.ofNat_le.mpr ‹_›),Int.toNat_natCast,List.getElem?_map,nY (by show k < 8;exact hk)];rfl
theorem zl:evx F yx σ (LS (some (.raw (ns.map V.int))) (some (.tup (bG.map V.int))) none none none none none none none none none none none none)=some (.lst ((dK ns).map V.int),σ):=by
 have h:=gz (F:=F) (σ:=σ) (η:=LS (some (.raw (ns.map V.int))) (some (.tup (bG.map V.int))) none none none none none none none none none none none none) (vars:=[⟨"k",14,true⟩,⟨"script",0,false⟩,⟨"starts",1,false⟩]) (i:=14)
  (elt:=.bin .Mod (.bin .Add (.idx (.loc 1) (.loc 14)) (.bf .sum (.cons (.slc (.loc 0) (.loc 14) .nil (.cst (.int 8))) .nil))) (.cst (.int 1000000))) (l:=List.range 8) (g:=fun (k:Nat)=>V.int (k:Int)) (f:=fun k=>V.int (wor ns k))
  (dy (n:=8) bX (by exact Nat.le_add_left _ _)) (hX 8) (fun k hk=>?_) (by decide)
 ·have e:(dK ns).map V.int=(List.range 8).map fun k=>V.int (wor ns k):=by unfold dK;rw [List.map_map];rfl
  refine (e) ▸ ?_
  exact h
 ·have hk8:k < 8:=List.mem_range.mp hk
  exact dd (dd (dJ (aq rfl) (aq rfl) (r9 hk8)) (zc (aK (wB (aq rfl) (aq rfl) iR bX (fD1 (by decide))) dc) (gi1 _)) dh) bX (dg (by decide))
theorem bF1{a b:Option V}:evx F zk σ (LS a b (some (.lst ((dK ns).map V.int))) none none none none none none none none none none none)=some (.str ((an1 ns).map ai),σ):=by
 have h:=gz (F:=F) (σ:=σ) (η:=LS a b (some (.lst ((dK ns).map V.int))) none none none none none none none none none none none) (vars:=[⟨"x",15,true⟩]) (i:=15)
  (elt:=.idx (.cst (.str [34,97,98,99])) (.bin .Mod (.loc 15) (.cst (.int 4)))) (it:=.loc 2) (l:=dK ns) (g:=V.int) (f:=fun x=>V.str [ai (x % 4).toNat])
  (aq rfl) rfl (fun x hx=>?_) (by rw [qN];decide)
 ·unfold zk
  refine za bX rfl (aK h dc) ?_
  have e:(dK ns).map (fun x=>V.str [ai (x % 4).toNat])=(((an1 ns).map ai).map fun c=>[c]).map V.str:=by
   unfold an1
   rw [List.map_map,List.map_map,List.map_map];rfl
  rw [e,ri _ (by rw [mf,List.map_id',List.length_map,rq];decide),mf,List.map_id']
 ·refine dJ (y:=.int ((x % 4).toNat:Nat)) bX ?_ (wH (by lia))
  have e:V.int (((x % 4).toNat:Nat):Int)=V.int (x % 4):=by rw [Int.toNat_of_nonneg (by lia)]
  refine (e) ▸ ?_
  exact dd (aq rfl) bX (dg (by decide))
noncomputable def iT(w:Nat)(p:Int)(o:Nat):Ex:=.cmp .NotEq (.call 6 (.cons (.loc w) (.cons (.loc 2) (.cons (.cst (.int p)) .nil)))) (.loc o)
theorem vD(K:LawOk F){η:ac}{w o:Nat}{p:Int}{ks:List Nat}{ws:List Int}(h4:∀ k∈ks,k < 4)(h8:ks.length=8)(hw:ws.length=8)(hp:1<=p)(hp':p < 1000000000)
  (e1:η[w]?=some (some (.str (ks.map ai)))) (e2:η[2]?=some (some (.lst (ws.map V.int)))) (e3:η[o]?=some (some (.str (ks.map ai)))):evx F (iT w p o) σ η=some (.bool false,σ):=by
 have c:dF .NotEq σ (.str (ks.map ai)) (.str (ks.map ai))=some false:=by rw [eh];simp
 exact mX (eu (aK (aq e1) (aK (aq e2) (aK bX dc))) (K.heard σ h4 h8 hw hp hp')) (aq e3) c
noncomputable def nj:Sx:=(.seq (.ite (.cmp .NotEq (.call 7 (.cons (.call 7 (.cons (.loc 3) (.cons (.loc 4) .nil))) (.cons (.loc 4) .nil))) (.loc 3)) (.seq (.ret (.cst (.bool false))) .skip) .skip) .skip)
theorem t7(K:LawOk F){η:ac}{ks:List Nat}{r:Nat}(hr:r < 3)(h4:∀ k∈ks,k < 4)(h8:ks.length=8)(e1:η[3]?=some (some (.str (ks.map ai))))(e2:η[4]?=some (some (.int (r:Int)))) :
  ∃ σ',exs F nj σ η=some (.next,σ',η):=by
 refine byQ fun Q kQ=>?_
 obtain ⟨σ₁,a1⟩:=K.exch σ hr h8 h4
 obtain ⟨σ₂,a2⟩:=K.exch σ₁ hr (by rw [dT];exact h8) (vN hr h4)
 rw [gr r (by exact Nat.le_of_eq ‹_›)] at a2
 have c:dF .NotEq σ₂ (.str (ks.map ai)) (.str (ks.map ai))=some false:=by rw [eh];simp
 refine kQ ?_
 refine ⟨σ₂,?_⟩
 unfold nj
 rw [yu (mX (eu (aK (eu (aK (aq e1) (aK (aq e2) dc)) a1) (aK (aq e2) dc)) a2) (aq e1) c)]
 exact er
theorem ub(K:LawOk F){ks:List Nat}{a b c:Option V}(h4:∀ k∈ks,k < 4)(h8:ks.length=8) :
  ∃ σ' u,exs F (.for_ (.loc 4) (.range (.cons (.cst (.int 3)) .nil)) nj) σ (LS a b c (some (.str (ks.map ai))) none none none none none none none none none none)=some (.next,σ',LS a b c (some (.str (ks.map ai))) u none none none none none none none none none):=by
 refine byQ fun Q kQ=>?_
 obtain ⟨σ',η',h1,h2⟩:=gP (F:=F) (i:=4) (it:=.range (.cons (.cst (.int 3)) .nil)) (b:=nj) (σ:=σ) (η:=LS a b c (some (.str (ks.map ai))) none none none none none none none none none none) (l:=(List.range 3).map fun (k:Nat)=>V.int (k:Int))
  (fun l σ η=>(∃ u,η=LS a b c (some (.str (ks.map ai))) u none none none none none none none none none)/\∀ x∈l,∃ r:Nat,r < 3/\x=.int (r:Int)) (dy (n:=3) bX (by exact Nat.le_add_left _ _)) (hX 3)
  ⟨⟨none,rfl⟩,fun x hx=>by
   obtain ⟨k,hk,rfl⟩:=List.mem_map.mp hx
   exact ⟨k,List.mem_range.mp hk,rfl⟩⟩ (fun x l σ η ⟨⟨u,e⟩,hx⟩=>by
   subst e
   obtain ⟨r,h_p⟩:=hx x List.mem_cons_self;have hr:=h_p.1;obtain rfl:=h_p.2
   obtain ⟨σ',h⟩:=t7 (σ:=σ) K (η:=(LS a b c (some (.str (ks.map ai))) u none none none none none none none none none).set 4 (some (.int (r:Int)))) hr h4 h8 rfl rfl
   exact mT σ' _ h ⟨some (.int r),rfl⟩ (fun y hy=>hx y (List.mem_cons_of_mem _ hy)))
 obtain ⟨⟨u,e⟩,_⟩:=h2
 subst e
 refine kQ ?_
 exact wx σ' u h1
end
theorem rO{k:Nat}(hk:k < 4):∀ ks:List Nat,(∀ x∈ks,x < 4)->PyProof.Rows.cnt (ai k) (ks.map ai)=(cnt k ks:Nat)
 | [],_=>rfl
 | x::ks,h=>by
  have hx:=h x List.mem_cons_self
  rw [List.map_cons,PyProof.Rows.cnt_cons,rO hk ks (fun y hy=>h y (List.mem_cons_of_mem _ hy))]
  unfold cnt
  rw [List.filter_cons]
  by_cases e:x=k
  ·subst e
   rw [if_pos rfl,if_pos (by simp)]
   simp
   lia
  ·rw [if_neg (fun q=>e (lX hx hk q)),if_neg (by simpa using e)]
   simp
theorem u7{σ:List AO}{k:Nat}{ks:List Nat}(hk:k < 4)(h:∀ x∈ks,x < 4):meF .count σ (.str (ks.map ai)) [.str [ai k]]=some (.int (cnt k ks:Nat)):=by
 show some (V.int (Txt.count (S' (ks.map ai)) (S' [ai k])))=_
 have e:Txt.count (S' (ks.map ai)) (S' [ai k])=PyProof.Rows.cnt (ai k) (ks.map ai):=by
  rw [show S' [ai k]=⟨#[ai k]⟩ from rfl,PyProof.Rows.count_is]
  rfl
 rw [e,rO hk ks h]
theorem m6:∀ l:List Nat,zn (aa l) (aa l)=true
 | []=>rfl
 | x::l=>by
  show (veq (.int (x:Int)) (.int (x:Int)) && zn (aa l) (aa l))=true
  rw [m6 l,oZ]
  simp
theorem z5{σ:List AO}(l:List Nat):dF .NotEq σ (.lst (aa l)) (.lst (aa l))=some false:=by
 show (eqF σ (.lst (aa l)) (.lst (aa l))).map (!·)=_
 have:eqF σ (.lst (aa l)) (.lst (aa l))=some true:=by
  show (if okP 4 (.lst (aa l)) && okP 4 (.lst (aa l)) then some (veq (.lst (aa l)) (.lst (aa l))) else none)=_
  have o:okP 4 (.lst (aa l))=true:=jl 3 l
  rw [o]
  show some (zn (aa l) (aa l))=_
  rw [m6]
 rw [this];rfl
theorem kL{l:List Nat}{i:Nat}(h:i < l.length):(aa l)[i]?=some (.int (l.getD i 0:Nat)):=by
 unfold aa
 rw [List.getElem?_map,ma h];rfl
theorem lj{σ:List AO}{l:List Nat}{i:Nat}(h:i < l.length)(hl:l.length<=1000000):ez σ (.lst (aa l)) (.int (i:Int))=some (.int (l.getD i 0:Nat)):=by
 have:(aa l).length=l.length:=by unfold aa;simp
 rw [zh (by exact Int.natCast_nonneg _) (by lia) (by rw [this];exact Int.ofNat_le.mpr ‹_›),Int.toNat_natCast,kL h]
noncomputable def oW(ws:List Int)(k:Nat):Nat:=(ws.getD k 0 / 2592 % 3).toNat
theorem fM(ws:List Int)(k:Nat):oW ws k < 3:=by unfold oW;lia
noncomputable def rks(ws:List Int):List Nat:=(List.range 4).map (oW ws)
noncomputable def uB:Sx:=(.seq (.asg 4 (.bin .Mod (.bin .FloorDiv (.idx (.loc 2) (.loc 7)) (.cst (.int 2592))) (.cst (.int 3))))
 (.seq (.asg 5 (.call 7 (.cons (.loc 5) (.cons (.loc 4) .nil))))
 (.seq (.asg 6 (.call 8 (.cons (.loc 6) (.cons (.loc 4) .nil))))
 .skip)))
theorem sh(p:List Nat)(r:Nat):fL (p++[r])=swL r (fL p):=by unfold fL;rw [List.foldl_append];rfl
theorem jb(p:List Nat):(fL p).length=4:=by
 have:∀ (p:List Nat) (l:List Nat),(p.foldl (fun l r=>swL r l) l).length=l.length:=by
  intro p
  induction p with
  | nil=>intro l;rfl
  | cons r p ih=>intro l;rw [List.foldl_cons,ih,gB]
 exact this p _
section
variable {F:Fn} {σ:List AO} {ks:List Nat} {ws:List Int}
theorem u5(K:LawOk F){a b wd u v:Option V}{l row:List Nat}{k:Nat}(h4:∀ k∈l,k < 4)(h8:l.length=8)(hr:row.length=4)(hw:ws.length=8)(hk:k < 4) :
  ∃ σ',exs F uB σ (LS a b (some (.lst (ws.map V.int))) wd u (some (.str (l.map ai))) (some (.lst (aa row))) (some (.int (k:Int))) none none none none none none) =
   some (.next,σ',LS a b (some (.lst (ws.map V.int))) wd (some (.int (oW ws k:Nat))) (some (.str ((ex (oW ws k) l).map ai))) (some (.lst (aa (swL (oW ws k) row)))) (some (.int (k:Int))) none none none none none none):=by
 have hrk:=fM ws k
 refine a7 (K.exch σ hrk h8 h4) fun σ₁ a1=>?_
 refine ⟨σ₁,?_⟩
 have e:V.int (ws.getD k 0 / 2592 % 3)=V.int ((oW ws k:Nat):Int):=by unfold oW;rw [Int.toNat_of_nonneg (by lia)]
 unfold uB
 rw [ak (f4 (v:=.int (oW ws k:Nat)) (by rw [← e];exact dd (dd (dJ (aq rfl) (aq rfl) (tR (by lia) (by lia))) bX (bN (by decide) (by decide))) bX (dg (by decide))))]
 rw [ak (f4 (eu (aK (aq rfl) (aK (aq rfl) dc)) a1))]
 rw [ak (f4 (eu (aK (aq rfl) (aK (aq rfl) dc)) (K.swap σ₁ hr hrk)))]
 exact er
theorem xD(K:LawOk F){a b u:Option V}(h4:∀ k∈ks,k < 4)(h8:ks.length=8)(hw:ws.length=8) :
  ∃ σ' u' v',exs F (.for_ (.loc 7) (.range (.cons (.cst (.int 4)) .nil)) uB) σ (LS a b (some (.lst (ws.map V.int))) (some (.str (ks.map ai))) u (some (.str (ks.map ai))) (some (.lst (aa [0,1,2,3]))) none none none none none none none) =
   some (.next,σ',LS a b (some (.lst (ws.map V.int))) (some (.str (ks.map ai))) u' (some (.str ((act (rks ws) ks).map ai))) (some (.lst (aa (fL (rks ws))))) v' none none none none none none):=by
 refine byQ fun Q kQ=>?_
 obtain ⟨σ',η',h1,h2⟩:=gP (F:=F) (i:=7) (it:=.range (.cons (.cst (.int 4)) .nil)) (b:=uB) (σ:=σ) (η:=LS a b (some (.lst (ws.map V.int))) (some (.str (ks.map ai))) u (some (.str (ks.map ai))) (some (.lst (aa [0,1,2,3]))) none none none none none none none) (l:=(List.range 4).map fun (k:Nat)=>V.int (k:Int))
  (fun l σ η=>∃ (p rest:List Nat) (u v:Option V),l=rest.map (fun (k:Nat)=>V.int (k:Int))/\(∀ k∈rest,k < 4)/\p++rest.map (oW ws)=rks ws/\(∀ r∈p,r < 3) /\
   η=LS a b (some (.lst (ws.map V.int))) (some (.str (ks.map ai))) u (some (.str ((act p ks).map ai))) (some (.lst (aa (fL p)))) v none none none none none none) (dy (n:=4) bX (by exact Nat.le_add_left _ _)) (hX 4)
  ⟨[],List.range 4,u,none,rfl,fun k hk=>List.mem_range.mp hk,rfl,nofun,rfl⟩ (fun x l σ η h_i=>by
   refine byQ fun Q kQ=>?_
   refine eF1 (h_i) fun p rest u v e hk hp hr eη=>?_
   refine kQ ?_
   cases rest with
   | nil=>cases e
   | cons k rest =>
    rw [List.map_cons] at e
    injection e with e1 e2
    subst e1 eη
    have hk4:=hk k List.mem_cons_self
    obtain ⟨σ',h⟩:=u5 (σ:=σ) (ws:=ws) (a:=a) (b:=b) (wd:=some (.str (ks.map ai))) (u:=u) (v:=none) K (rW p ks hr h4) (by rw [mI];exact h8) (jb p) hw hk4
    refine ⟨σ',_,h,p++[oW ws k],rest,some (.int (oW ws k:Nat)),some (.int (k:Int)),e2,fun j hj=>hk j (List.mem_cons_of_mem _ hj),?_,?_,?_⟩
    ·rw [List.append_assoc];exact hp
    ·intro r hr'
     rw [List.mem_append] at hr'
     rcases hr' with hr' | hr'
     ·exact hr r hr'
     ·cases List.mem_singleton.mp hr'
      exact fM ws k
    ·rw [lb,sh];rfl)
 refine eF1 (h2) fun p rest u' v' e hk hp hr eη=>?_
 have:rest=[]:=by cases rest with | nil=>rfl | cons _ _=>cases e
 subst this
 rw [List.map_nil,List.append_nil] at hp
 subst hp eη
 refine kQ ?_
 exact c31 σ' u' v' h1
theorem rN:∀ (p:List Nat) (l row w:List Nat),(∀ r∈p,r < 3)->l.length<=8->row.length=4->(List.range 4).map (fun c=>cnt c l)=row.map (fun c=>cnt c w) ->
  (List.range 4).map (fun c=>cnt c (act p l))=(p.foldl (fun l r=>swL r l) row).map (fun c=>cnt c w)
 | [],l,row,w,_,_,_,e=>e
 | r::p,l,row,w,hr,hl,h4,e=>rN p (ex r l) (swL r row) w (fun r h=>hr r (List.mem_cons_of_mem _ h)) (by rw [dT];exact hl) (ud h4) (aT1 hl (hr r List.mem_cons_self) h4 e)
theorem aV1{p l:List Nat}(hr:∀ r∈p,r < 3)(hl:l.length<=8):(List.range 4).map (fun c=>cnt c (act p l))=(fL p).map (fun c=>cnt c l):=rN p l [0,1,2,3] l hr hl rfl rfl
theorem uc:∀ {r:Nat} {l:List Nat} {x:Nat},x∈swL r l->x∈l
 | 0,[],x,h=>h
 | 0,[_],x,h=>h
 | 0,a::b::l,x,h=>by
  have h':x∈b::a::l:=h
  simp only [List.mem_cons] at h' ⊢
  rcases h' with h | h | h <;> simp [h]
 | r + 1,[],x,h=>h
 | r + 1,a::l,x,h=>by
  have h':x∈a::swL r l:=h
  rw [List.mem_cons] at h' ⊢
  exact h'.imp id uc
theorem xi(p:List Nat):∀ x∈fL p,x < 4:=by
 have:∀ (p:List Nat) (l:List Nat),(∀ x∈l,x < 4)->∀ x∈p.foldl (fun l r=>swL r l) l,x < 4:=by
  intro p
  induction p with
  | nil=>intro l h;exact h
  | cons r p ih=>intro l h;exact ih _ (fun x hx=>h x (uc hx))
 exact this p _ (by decide)
noncomputable def tT:Ex:=(.cmp .NotEq (.comp [⟨"letter",16,true⟩,⟨"made",5,false⟩] (.loc 16) (.me .count (.loc 5) (.cons (.loc 16) .nil)) (.cst (.str [34,97,98,99])) .nil) (.comp [⟨"k",17,true⟩,⟨"word",3,false⟩] (.loc 17) (.me .count (.loc 3) (.cons (.idx (.cst (.str [34,97,98,99])) (.loc 17)) .nil)) (.loc 6) .nil))
theorem ya{a b c u v:Option V}{m row:List Nat}(h4:∀ k∈ks,k < 4)(hm:∀ k∈m,k < 4)(hr:∀ x∈row,x < 4)(hl:row.length=4)(e:(List.range 4).map (fun c=>cnt c m)=row.map (fun c=>cnt c ks)) :
  evx F tT σ (LS a b c (some (.str (ks.map ai))) u (some (.str (m.map ai))) (some (.lst (aa row))) v none none none none none none)=some (.bool false,σ):=by
 have h1:=gz (F:=F) (σ:=σ) (η:=LS a b c (some (.str (ks.map ai))) u (some (.str (m.map ai))) (some (.lst (aa row))) v none none none none none none) (vars:=[⟨"letter",16,true⟩,⟨"made",5,false⟩]) (i:=16)
  (elt:=.me .count (.loc 5) (.cons (.loc 16) .nil)) (it:=.cst (.str [34,97,98,99])) (l:=List.range 4) (g:=fun (k:Nat)=>V.str [ai k]) (f:=fun k=>V.int ((cnt k m:Nat):Int))
  bX rfl (fun k hk=>za (aq rfl) rfl (aK (aq rfl) dc) (u7 (List.mem_range.mp hk) hm)) (by decide)
 have h2:=gz (F:=F) (σ:=σ) (η:=LS a b c (some (.str (ks.map ai))) u (some (.str (m.map ai))) (some (.lst (aa row))) v none none none none none none) (vars:=[⟨"k",17,true⟩,⟨"word",3,false⟩]) (i:=17)
  (elt:=.me .count (.loc 3) (.cons (.idx (.cst (.str [34,97,98,99])) (.loc 17)) .nil)) (it:=.loc 6) (l:=row) (g:=fun (k:Nat)=>V.int (k:Int)) (f:=fun k=>V.int ((cnt k ks:Nat):Int))
  (aq rfl) rfl (fun k hk=>za (aq rfl) rfl (aK (dJ bX (aq rfl) (wH (hr k hk))) dc) (u7 (hr k hk) h4)) (by rw [hl];decide)
 have e1:(List.range 4).map (fun k=>V.int ((cnt k m:Nat):Int))=aa ((List.range 4).map (fun c=>cnt c m)):=by unfold aa;rw [List.map_map];rfl
 have e2:row.map (fun k=>V.int ((cnt k ks:Nat):Int))=aa ((List.range 4).map (fun c=>cnt c m)):=by rw [e];unfold aa;rw [List.map_map];rfl
 rw [e1] at h1
 rw [e2] at h2
 exact mX h1 h2 (z5 _)
end
theorem hZ(x:Nat):∀ l:List Nat,(l.map fun (k:Nat)=>(k:Int)).findIdx? (· == (x:Int))=l.findIdx? (· == x)
 | []=>rfl
 | y::l=>by
  rw [List.map_cons,List.findIdx?_cons,List.findIdx?_cons,hZ x l]
  have:((y:Int) == (x:Int))=(y == x):=by rw [Bool.eq_iff_iff];simp only [beq_iff_eq];lia
  rw [this]
theorem xG{σ:List AO}{l:List Nat}{x k:Nat}(h:l.findIdx? (· == x)=some k):meF .lindex σ (.lst (aa l)) [.int (x:Int)]=some (.int (k:Int)):=by
 have e:aa l=(l.map fun (k:Nat)=>(k:Int)).map V.int:=by unfold aa;rw [List.map_map];rfl
 have e2:dO (aa l)=some (l.map fun (k:Nat)=>(k:Int)):=by rw [e,fk]
 show (dO (aa l)).bind (fun ns=>(ns.findIdx? (· == (x:Int))).bind fun k=>some (V.int k))=_
 rw [e2]
 show ((l.map fun (k:Nat)=>(k:Int)).findIdx? (· == (x:Int))).bind (fun k=>some (V.int k))=_
 rw [hZ,h]
 rfl
noncomputable def ll:Ex:=.cmp .NotEq (.idx (.loc 9) (.loc 10)) (.idx (.loc 6) (.loc 10))
noncomputable def cp1:Sx:=(.seq (.asg 4 (.bin .Sub (.me .lindex (.loc 9) (.cons (.idx (.loc 6) (.loc 10)) .nil)) (.cst (.int 1))))
 (.seq (.asg 8 (.call 7 (.cons (.loc 8) (.cons (.loc 4) .nil))))
 (.seq (.asg 9 (.call 8 (.cons (.loc 9) (.cons (.loc 4) .nil))))
 .skip)))
section
variable {F:Fn} {a b c d m k:Option V} {row:List Nat}
theorem a21{f p:Nat}{now row:List Nat}{x:List Nat × List Nat}(h:bub (f + 1) p now row=some x){Q:Prop}(h1:now.getD p 0=row.getD p 0->x=([],now)->Q)
  (h2:∀ i y,now.getD p 0≠row.getD p 0->now.findIdx? (· == row.getD p 0)=some (i + 1)->i < 3->bub f p (swL i now) row=some y->x=(i::y.1,y.2)->Q):Q:=by
 by_cases e:now.getD p 0=row.getD p 0
 ·exact h1 e (siX (h.symm.trans (if_pos e)))
 ·have h3:=fun i y=>h2 i y e
  replace h:=(if_neg e).symm.trans h
  generalize now.findIdx? (· == row.getD p 0)=o at h h3
  cases o with
  | none=>exact nso h
  | some i =>
   cases i with
   | zero=>exact nso h
   | succ i =>
    by_cases c:i < 3
    ·replace h:=(if_pos c).symm.trans h
     generalize hb:bub f p (swL i now) row=o at h
     cases o with
     | none=>exact nso h
     | some y=>exact h3 i y rfl c hb (siX h.symm)
    ·exact nso ((if_neg c).symm.trans h)
theorem rT(K:LawOk F)(hrow:row.length=4){p:Nat}(hp:p < 4):∀ (f n:Nat) (now l:List Nat) (σ:List AO) (u:Option V) {rs now':List Nat},bub f p now row=some (rs,now')->f<=n->now.length=4->(∀ x∈l,x < 4)->l.length=8 ->
  ∃ σ' u',whN (fun σ η=>evt F ll σ η) (fun σ η=>exs F cp1 σ η) n σ (LS a b c d u m (some (.lst (aa row))) k (some (.str (l.map ai))) (some (.lst (aa now))) (some (.int (p:Int))) none none none) =
   some (.next,σ',LS a b c d u' m (some (.lst (aa row))) k (some (.str ((act rs l).map ai))) (some (.lst (aa now'))) (some (.int (p:Int))) none none none)/\now'.length=4/\∀ r∈rs,r < 3
 | 0,n,now,l,σ,u,rs,now',h,_,_,_,_=>by exact nso h
 | f + 1,0,now,l,σ,u,rs,now',_,hn,_,_,_=>by exact (Nat.not_lt_zero _ ‹_›).elim
 | f + 1,n + 1,now,l,σ,u,rs,now',h,hn,hnow,h4,h8=>by
  have c1:evt F ll σ (LS a b c d u m (some (.lst (aa row))) k (some (.str (l.map ai))) (some (.lst (aa now))) (some (.int (p:Int))) none none none)=some (!decide (((now.getD p 0:Nat):Int)=((row.getD p 0:Nat):Int)),σ) :=
   oX (mX (dJ (aq rfl) (aq rfl) (lj (by lia) (by lia))) (dJ (aq rfl) (aq rfl) (lj (by lia) (by lia))) eE) rfl
  refine a21 h (fun e h_p=>?_) (fun i x e hi hi3 hb h_p=>?_)
  ·rw [show (!decide (((now.getD p 0:Nat):Int)=((row.getD p 0:Nat):Int)))=false by rw [e];simp] at c1
   have h_p:=Prod.mk.inj h_p;obtain rfl:=h_p.1;obtain rfl:=h_p.2
   exact mT σ u (mZ c1) hnow nofun
  ·have h_p:=Prod.mk.inj h_p;obtain rfl:=h_p.1;obtain rfl:=h_p.2
   rw [show (!decide (((now.getD p 0:Nat):Int)=((row.getD p 0:Nat):Int)))=true by rw [decide_eq_false (by omega)];rfl] at c1
   obtain ⟨σ₁,a1⟩:=K.exch σ hi3 h8 h4
   obtain ⟨σ₂,fm1,ih,hn4,hr3⟩:=rT K hrow hp f n (swL i now) (ex i l) σ₁ (some (.int (i:Int))) hb (by exact Nat.le_of_lt_succ ‹_›) (ud hnow) (vN hi3 h4) (by rw [dT];exact h8)
   refine mT σ₂ fm1 ?_ hn4 (fun r hr=>by
    rw [List.mem_cons] at hr
    rcases hr with rfl | hr
    ·exact hi3
    ·exact hr3 r hr)
   have s:exs F cp1 σ (LS a b c d u m (some (.lst (aa row))) k (some (.str (l.map ai))) (some (.lst (aa now))) (some (.int (p:Int))) none none none) =
     some (.next,σ₁,LS a b c d (some (.int (i:Int))) m (some (.lst (aa row))) k (some (.str ((ex i l).map ai))) (some (.lst (aa (swL i now)))) (some (.int (p:Int))) none none none):=by
    unfold cp1
    have e2:((((i + 1:Nat):Int)) - 1)=(i:Int):=by lia
    rw [ak (f4 (v:=.int (i:Int)) (by rw [← e2];exact dd (za (aq rfl) rfl (aK (dJ (aq rfl) (aq rfl) (lj (by lia) (by lia))) dc) (xG hi)) bX eH))]
    rw [ak (f4 (eu (aK (aq rfl) (aK (aq rfl) dc)) a1))]
    rw [ak (f4 (eu (aK (aq rfl) (aK (aq rfl) dc)) (K.swap σ₁ hnow hi3)))]
    exact er
   rw [ln c1 s]
   exact ih
noncomputable def nk:Sx:=.seq (.whil 1000 ll cp1) .skip
theorem yh(K:LawOk F){ks rs:List Nat}{u:Option V}{σ:List AO}(h4:∀ k∈ks,k < 4)(h8:ks.length=8)(hrow:row.length=4)(hb:yi [0,1,2,3] [0,1,2,3] row=some rs) :
  ∃ σ' u' n' p',exs F (.for_ (.loc 10) (.range (.cons (.cst (.int 4)) .nil)) nk) σ (LS a b c d u m (some (.lst (aa row))) k (some (.str (ks.map ai))) (some (.lst (aa [0,1,2,3]))) none none none none) =
   some (.next,σ',LS a b c d u' m (some (.lst (aa row))) k (some (.str ((act rs ks).map ai))) n' p' none none none):=by
 refine byQ fun Q kQ=>?_
 obtain ⟨σ',η',h1,h2⟩:=gP (F:=F) (i:=10) (it:=.range (.cons (.cst (.int 4)) .nil)) (b:=nk) (σ:=σ) (η:=LS a b c d u m (some (.lst (aa row))) k (some (.str (ks.map ai))) (some (.lst (aa [0,1,2,3]))) none none none none) (l:=(List.range 4).map fun (k:Nat)=>V.int (k:Int))
  (fun l σ η=>∃ (q rest now rest':List Nat) (u p:Option V),l=rest.map (fun (k:Nat)=>V.int (k:Int))/\(∀ k∈rest,k < 4)/\yi rest now row=some rest'/\q++rest'=rs/\(∀ r∈q,r < 3)/\now.length=4 /\
   η=LS a b c d u m (some (.lst (aa row))) k (some (.str ((act q ks).map ai))) (some (.lst (aa now))) p none none none) (dy (n:=4) bX (by exact Nat.le_add_left _ _)) (hX 4)
  ⟨[],List.range 4,[0,1,2,3],rs,u,none,rfl,fun k hk=>List.mem_range.mp hk,hb,rfl,nofun,rfl,rfl⟩ (fun x l σ η h_i=>by
   refine byQ fun Q kQ=>?_
   refine z1 (h_i) fun q rest now rest' u p e hk hbs hq hr hnow eη=>?_
   refine kQ ?_
   cases rest with
   | nil=>cases e
   | cons k0 rest =>
    rw [List.map_cons] at e
    injection e with e1 e2
    subst e1 eη
    have hk4:=hk k0 List.mem_cons_self
    replace hbs:(match bub 8 k0 now row with | some (a,now')=>(yi rest now' row).map fun x=>a++x | none=>none)=some rest':=hbs
    cases hb1:bub 8 k0 now row with
    | none=>rw [hb1] at hbs;exact nso hbs
    | some y =>
     obtain ⟨a1,now1⟩:=y
     rw [hb1] at hbs
     replace hbs:(yi rest now1 row).map (fun x=>a1++x)=some rest':=hbs
     refine gc (yi rest now1 row) (fun hb2=>?_) (fun r2 hb2=>?_)
     ·rw [hb2] at hbs;exact nso hbs
     ·
      refine byQ fun Q kQ=>?_
      rw [hb2] at hbs
      obtain rfl:=siX hbs
      obtain ⟨σ',u',h,hn',ha3⟩:=rT (a:=a) (b:=b) (c:=c) (d:=d) (m:=m) (k:=k) K hrow hk4 8 1000 now (act q ks) σ u hb1 (by exact Nat.le_add_left _ _) hnow (rW q ks hr h4) (by rw [mI];exact h8)
      refine kQ ?_
      refine ⟨σ',LS a b c d u' m (some (.lst (aa row))) k (some (.str ((act a1 (act q ks)).map ai))) (some (.lst (aa now1))) (some (.int (k0:Int))) none none none,?_,q++a1,rest,now1,r2,u',some (.int (k0:Int)),e2,fun j hj=>hk j (List.mem_cons_of_mem _ hj),hb2,by rw [List.append_assoc];exact hq,?_,hn',?_⟩
      ·show exs F nk σ (LS a b c d u m (some (.lst (aa row))) k (some (.str ((act q ks).map ai))) (some (.lst (aa now))) (some (.int (k0:Int))) none none none)=_
       unfold nk
       have e0:exs F (.whil 1000 ll cp1) σ (LS a b c d u m (some (.lst (aa row))) k (some (.str ((act q ks).map ai))) (some (.lst (aa now))) (some (.int (k0:Int))) none none none)=some (.next,σ',LS a b c d u' m (some (.lst (aa row))) k (some (.str ((act a1 (act q ks)).map ai))) (some (.lst (aa now1))) (some (.int (k0:Int))) none none none):=h
       rw [ak e0]
       exact er
      ·intro r hr'
       rw [List.mem_append] at hr'
       refine Or.elim (hr') (fun hr'=>?_) (fun hr'=>?_)
       ·exact hr r hr'
       ·exact ha3 r hr'
      ·rw [lb])
 refine z1 (h2) fun q rest now rest' u' p e hk hbs hq hr hnow eη=>?_
 have:rest=[]:=by cases rest with | nil=>rfl | cons _ _=>cases e
 subst this
 obtain rfl:=siX hbs
 rw [List.append_nil] at hq
 subst hq eη
 refine kQ ?_
 exact kz1 σ' u' _ p h1
end
theorem wG{F:Fn}{σ σ':List AO}{η:ac}{vars:List Var}{i:Nat}{elt it cond:Ex}{α:Type}{l:List α}{g:α->V}{f:α->V}{p:α->Bool}{x:V}(hit:evx F it σ η=some (x,σ'))(hl:a6 x=some (.seq (l.map g)))
  (hc:∀ y∈l,evt F cond σ' ((clr η vars).set i (some (g y)))=some (p y,σ')) (he:∀ y∈l,p y=true->evx F elt σ' ((clr η vars).set i (some (g y)))=some (f y,σ')) (hn:l.length<=lim) (hnil:cond≠.nil) :
  evx F (.comp vars (.loc i) elt it cond) σ η=some (.lst ((l.filter p).map f),σ'):=by
 have key:∀ (c:List AO->ac->Option (Bool × List AO)) (l:List α) (η:ac) (n:Nat),l.length < n->(∀ x∈l,c σ' (η.set i (some (g x)))=some (p x,σ'))->(∀ x∈l,p x=true->evx F elt σ' (η.set i (some (g x)))=some (f x,σ')) ->
   fR (.loc i) c (fun σ η=>evx F elt σ η) n (.seq (l.map g)) σ' η=some ((l.filter p).map f,σ'):=by
  intro c l
  induction l with
  | nil =>
   intro η n h _ _
   cases n with
   | zero=>simp at h
   | succ n=>rfl
  | cons x l ih =>
   intro η n h hc he
   cases n with
   | zero=>simp at h
   | succ n =>
    have h':l.length < n:=by simpa using h
    have ih':=ih (η.set i (some (g x))) n h' (fun y hy=>by rw [List.set_set];exact hc y (List.mem_cons_of_mem _ hy)) (fun y hy hp=>by rw [List.set_set];exact he y (List.mem_cons_of_mem _ hy) hp)
    rw [List.map_cons]
    show (match c σ' (η.set i (some (g x))) with | none=>none | some (false,σ₁)=>fR (.loc i) c (fun σ η=>evx F elt σ η) n (.seq (l.map g)) σ₁ (η.set i (some (g x))) | some (true,σ₁)=>match evx F elt σ₁ (η.set i (some (g x))) with | none=>none | some (v,σ₂)=>match fR (.loc i) c (fun σ η=>evx F elt σ η) n (.seq (l.map g)) σ₂ (η.set i (some (g x))) with | none=>none | some (out,aj)=>some (v::out,aj))=_
    rw [hc x List.mem_cons_self,List.filter_cons]
    cases hp:p x with
    | false =>
     dsimp only
     refine (ih') ▸ ?_
     rfl
    | true =>
     dsimp only
     rw [he x List.mem_cons_self hp]
     dsimp only
     rw [ih']
     rfl
 rw [iS,hit]
 dsimp only
 refine (hl) ▸ ?_
 dsimp only [ItS.fuel]
 rw [List.length_map,key _ l (clr η vars) (l.length + 1) (Nat.lt_succ_self _) (fun y hy=>?_) he]
 ·dsimp only
  rw [List.length_map,if_pos (Nat.le_trans (List.length_filter_le _ _) hn)]
 ·have:=hc y hy
  unfold evt at this
  cases cond <;> first | exact this | exact absurd rfl hnil
theorem e51{F:Fn}{σ:List AO}{η:ac}{o x:Ex}{k:Nat}{l:List V}{v:V}(h:evx F o σ η=some (.ref k,σ))(hk:σ[k]?=some ⟨l,none⟩)(hx:evx F x σ η=some (v,σ))(hl:l.length < lim):evx F (.append o x) σ η=some (.none,σ.set k ⟨l++[v],none⟩):=by
 rw [aJ,h]
 dsimp only
 rw [hk]
 dsimp only
 rw [hx]
 dsimp only
 rw [hk]
 dsimp only
 rw [if_pos hl]
theorem ay1{σ:List AO}{a b:Nat}(ha:a < 4)(hb:b < 4):dF .Gt σ (.str [ai a]) (.str [ai b])=some (decide (b < a)):=by
 rw [eW]
 have ha':a=0\/a=1\/a=2\/a=3:=by lia
 have hb':b=0\/b=1\/b=2\/b=3:=by lia
 rcases ha' with rfl | rfl | rfl | rfl <;> rcases hb' with rfl | rfl | rfl | rfl <;> rfl
theorem u2:∀ (l:List Nat) (m:Nat),tK (m:Int) (l.map fun (k:Nat)=>(k:Int))=(l.foldl max m:Nat)
 | [],m=>rfl
 | x::l,m=>by
  rw [List.map_cons,List.foldl_cons,← u2 l (max m x)]
  show tK (if (x:Int) > (m:Int) then (x:Int) else (m:Int)) _=_
  congr 1
  split <;> lia
theorem dH1{σ:List AO}{u:V}(m:Nat)(l:List Nat)(h:der σ u=.lst (aa (m::l))):bfF .max σ [u]=some (.int (mx (m::l):Nat)):=by
 have e:aa (m::l)=((m:Int)::l.map fun (k:Nat)=>(k:Int)).map V.int:=by unfold aa;rw [List.map_cons,List.map_cons,List.map_map];rfl
 show (vL (der σ u)).bind (fun l=>(dO l).bind fX1)=_
 rw [h]
 show (dO (aa (m::l))).bind fX1=_
 rw [e,fk]
 show some (V.int (tK _ _))=_
 rw [u2]
 unfold mx
 rw [List.foldl_cons,Nat.zero_max]
theorem sV{α:Type}(d:α)(P:List α):(List.range P.length).map (fun i=>P.getD i d)=P:=by
 apply List.ext_getElem?
 intro i
 refine (List.getElem?_map) ▸ ?_
 by_cases h:i < P.length
 ·rw [List.getElem?_range h]
  simp [List.getD_eq_getElem?_getD,List.getElem?_eq_getElem h]
 ·rw [List.getElem?_eq_none (by simp;exact Nat.not_lt.mp ‹_›),List.getElem?_eq_none (by exact Nat.not_lt.mp ‹_›)];rfl
theorem wN{ks:List Nat}{n y:Nat}(hn:n<=ks.length) :
  ((List.range n).filter (fun j=>decide (y < ks.getD j 0))).map (fun j=>(bc (ks.take n)).getD j 0)=((gA (ks.take n)).filter (fun p=>decide (y + 1<=p.1))).map (·.2):=by
 have hl:(gA (ks.take n)).length=n:=by
  unfold gA
  rw [iX]
  simp
  lia
 generalize hP:gA (ks.take n)=P at hl
 have h1:P.map (·.1)=ks.take n:=by rw [← hP];unfold gA;rw [na];simp
 have h2:bc (ks.take n)=P.map (·.2):=by unfold bc;rw [hP]
 refine (h2) ▸ ?_
 have e:=sV ((0,0):Nat × Nat) P
 rw [hl] at e
 conv=>rhs;rw [← e]
 rw [List.filter_map,List.map_map]
 have g1:∀ j∈List.range n,(decide (y < ks.getD j 0))=((fun p:Nat × Nat=>decide (y + 1<=p.1)) ∘ fun i=>P.getD i (0,0)) j:=fun j hj=>by
  have hj':j < n:=List.mem_range.mp hj
  have:(P.map (·.1))[j]?=(ks.take n)[j]?:=by rw [h1]
  rw [List.getElem?_map,List.getElem?_take,if_pos hj',List.getElem?_eq_getElem (by omega),List.getElem?_eq_getElem (by omega)] at this
  have t:P[j].1=ks[j]:=by simpa using this
  show decide (y < ks.getD j 0)=decide (y + 1<=(P.getD j (0,0)).1)
  rw [List.getD_eq_getElem?_getD,List.getElem?_eq_getElem (by omega),List.getD_eq_getElem?_getD,List.getElem?_eq_getElem (by omega)]
  show decide (y < ks[j])=decide (y + 1<=P[j].1)
  rw [t]
  rfl
 refine (List.filter_congr g1) ▸ ?_
 apply List.map_congr_left
 intro j hj
 have hj':j < n:=List.mem_range.mp (List.mem_filter.mp hj).1
 show (P.map (·.2)).getD j 0=(P.getD j (0,0)).2
 rw [List.getD_eq_getElem?_getD,List.getElem?_map,List.getD_eq_getElem?_getD,List.getElem?_eq_getElem (by omega)]
 rfl
theorem iY(l:List Nat):(bc l).length=l.length:=by unfold bc gA;rw [List.length_map,iX];simp
theorem r7{ks:List Nat}{n:Nat}(hn:n < ks.length):bc (ks.take (n + 1))=bc (ks.take n)++[1 + mx (((List.range n).filter (fun j=>decide (ks.getD n 0 < ks.getD j 0))).map (fun j=>(bc (ks.take n)).getD j 0))]:=by
 have e:ks.take (n + 1)=ks.take n++[ks.getD n 0]:=by
  rw [List.take_add_one,ma hn];rfl
 have hl:bc (ks.take n++[ks.getD n 0])=(aZ (gA (ks.take n)) (ks.getD n 0)).map (·.2):=by unfold bc;rw [r5]
 rw [e,hl,wN (by exact Nat.le_of_lt ‹_›)]
 unfold aZ
 rw [List.map_append]
 rfl
noncomputable def gR1:Ex:=(.bin .Add (.cst (.int 1)) (.bf .max (.cons (.bin .Add (.lst (.cons (.cst (.int 0)) .nil)) (.comp [⟨"j",18,true⟩,⟨"k",7,false⟩,⟨"tops",11,false⟩,⟨"word",3,false⟩] (.loc 18) (.idx (.loc 11) (.loc 18)) (.range (.cons (.loc 7) .nil)) (.cmp .Gt (.idx (.loc 3) (.loc 18)) (.idx (.loc 3) (.loc 7))))) .nil)))
noncomputable def co1:Sx:=(.seq (.expr (.append (.loc 11) gR1)) .skip)
section
variable {F:Fn} {σ:List AO} {ks:List Nat} {a b c u m rw_ o nw p:Option V}
theorem fp1{k n:Nat}(h4:∀ x∈ks,x < 4)(h8:ks.length=8)(hn:n < 8)(hk:σ[k]?=some ⟨aa (bc (ks.take n)),none⟩) :
  evx F gR1 σ (LS a b c (some (.str (ks.map ai))) u m rw_ (some (.int (n:Int))) o nw p (some (.ref k)) none none)=some (.int (1 + mx (((List.range n).filter (fun j=>decide (ks.getD n 0 < ks.getD j 0))).map (fun j=>(bc (ks.take n)).getD j 0)):Nat),σ):=by
 have g4:∀ j,j < 8->ks.getD j 0 < 4:=fun j hj=>by
  rw [List.getD_eq_getElem?_getD,List.getElem?_eq_getElem (by lia)]
  exact h4 _ (List.getElem_mem _)
 have hT:(bc (ks.take n)).length=n:=by rw [iY,List.length_take];lia
 have hd:=cK hk
 have h:=wG (F:=F) (σ:=σ) (η:=LS a b c (some (.str (ks.map ai))) u m rw_ (some (.int (n:Int))) o nw p (some (.ref k)) none none) (vars:=[⟨"j",18,true⟩,⟨"k",7,false⟩,⟨"tops",11,false⟩,⟨"word",3,false⟩]) (i:=18)
  (elt:=.idx (.loc 11) (.loc 18)) (cond:=.cmp .Gt (.idx (.loc 3) (.loc 18)) (.idx (.loc 3) (.loc 7))) (l:=List.range n) (g:=fun (k:Nat)=>V.int (k:Int)) (f:=fun j=>V.int ((bc (ks.take n)).getD j 0:Nat)) (p:=fun j=>decide (ks.getD n 0 < ks.getD j 0))
  (dy (e:=.loc 7) (n:=n) (aq rfl) (by exact Nat.le_of_lt (Nat.lt_of_lt_of_le ‹_› (by decide)))) (hX n)
  (fun j hj=>by
   have hj':j < n:=List.mem_range.mp hj
   exact oX (mX (dJ (aq rfl) (aq rfl) (kA (by lia) (by omega))) (dJ (aq rfl) (aq rfl) (kA (by lia) (by omega))) (ay1 (g4 j (by lia)) (g4 n hn))) rfl)
  (fun j hj _=>by
   have hj':j < n:=List.mem_range.mp hj
   have hj2:j < (bc (ks.take n)).length:=by omega
   refine dJ (aq rfl) (aq rfl) ?_
   rw [wF (j:=j) (by lia) hd (by rw [cQ (by exact Int.natCast_nonneg _) (by unfold aa;rw [List.length_map];exact Int.ofNat_le.mpr ‹_›),Int.toNat_natCast]),kL hj2])
  (by simp [lim];exact Nat.le_of_lt (Nat.lt_of_lt_of_le ‹_› (by decide))) nofun
 have hfl:((List.range n).filter (fun j=>decide (ks.getD n 0 < ks.getD j 0))).length<=n:=by
  have:=List.length_filter_le (fun j=>decide (ks.getD n 0 < ks.getD j 0)) (List.range n)
  rwa [List.length_range] at this
 generalize (List.range n).filter (fun j=>decide (ks.getD n 0 < ks.getD j 0))=L at h hfl
 have e:L.map (fun j=>V.int ((bc (ks.take n)).getD j 0:Nat))=aa (L.map fun j=>(bc (ks.take n)).getD j 0):=by unfold aa;rw [List.map_map];rfl
 rw [e] at h
 have hN8:(L.map (fun j=>(bc (ks.take n)).getD j 0)).length<=8:=by rw [List.length_map];lia
 generalize L.map (fun j=>(bc (ks.take n)).getD j 0)=N at h hN8
 have b1:qj .Add (.lst [.int 0]) (.lst (aa N))=some (.lst (aa (0::N))):=by
  rw [cp,if_pos (by unfold aa lim;simp;lia)];rfl
 have m1:mx (0::N)=mx N:=rfl
 have c1:V.int ((1 + mx N:Nat):Int)=V.int (1 + ((mx (0::N):Nat):Int)):=by rw [m1];congr 1
 rw [c1]
 exact dd bX (zc (aK (dd (bx1 (aK bX dc) (by decide)) h b1) dc) (dH1 0 N rfl)) dh
theorem t9{n:Nat}{σ0:List AO}(h4:∀ x∈ks,x < 4)(h8:ks.length=8)(hn:n < 8) :
  exs F co1 (σ0++[⟨aa (bc (ks.take n)),none⟩]) (LS a b c (some (.str (ks.map ai))) u m rw_ (some (.int (n:Int))) o nw p (some (.ref σ0.length)) none none) =
   some (.next,σ0++[⟨aa (bc (ks.take (n + 1))),none⟩],LS a b c (some (.str (ks.map ai))) u m rw_ (some (.int (n:Int))) o nw p (some (.ref σ0.length)) none none):=by
 have hk:(σ0++[(⟨aa (bc (ks.take n)),none⟩:AO)])[σ0.length]?=some ⟨aa (bc (ks.take n)),none⟩:=by simp
 have hT:(aa (bc (ks.take n))).length < lim:=by
  unfold aa lim
  rw [List.length_map,iY,List.length_take]
  lia
 have t:=fp1 (F:=F) (a:=a) (b:=b) (c:=c) (u:=u) (m:=m) (rw_:=rw_) (o:=o) (nw:=nw) (p:=p) h4 h8 hn hk
 unfold co1
 rw [ak (yw (e51 (aq rfl) hk t hT)),er,iL,r7 (by lia)]
 unfold aa
 rw [List.map_append]
 rfl
theorem wM{kk:Option V}{σ0:List AO}(h4:∀ x∈ks,x < 4)(h8:ks.length=8) :
  ∃ u',exs F (.for_ (.loc 7) (.range (.cons (.cst (.int 8)) .nil)) co1) (σ0++[⟨[],none⟩]) (LS a b c (some (.str (ks.map ai))) u m rw_ kk o nw p (some (.ref σ0.length)) none none) =
   some (.next,σ0++[⟨aa (bc ks),none⟩],LS a b c (some (.str (ks.map ai))) u m rw_ u' o nw p (some (.ref σ0.length)) none none):=by
 refine byQ fun Q kQ=>?_
 obtain ⟨σ',η',h1,h2⟩:=gP (F:=F) (i:=7) (it:=.range (.cons (.cst (.int 8)) .nil)) (b:=co1) (σ:=σ0++[⟨[],none⟩]) (η:=LS a b c (some (.str (ks.map ai))) u m rw_ kk o nw p (some (.ref σ0.length)) none none) (l:=(List.range 8).map fun (k:Nat)=>V.int (k:Int))
  (fun l σ η=>∃ (n q:Nat) (kk:Option V),l=(List.range' n q).map (fun (k:Nat)=>V.int (k:Int))/\n + q=8/\σ=σ0++[⟨aa (bc (ks.take n)),none⟩] /\
   η=LS a b c (some (.str (ks.map ai))) u m rw_ kk o nw p (some (.ref σ0.length)) none none) (dy (n:=8) bX (by exact Nat.le_add_left _ _)) (hX 8)
  ⟨0,8,kk,by rw [List.range_eq_range'],rfl,rfl,rfl⟩ (fun x l σ η h_i=>by
   refine bp1 (h_i) fun n q kk e hn eσ eη=>?_
   cases q with
   | zero=>cases e
   | succ q =>
    rw [List.range'_succ,List.map_cons] at e
    injection e with e1 e2
    subst e1 eσ eη
    exact ⟨_,_,t9 (F:=F) h4 h8 (by lia),n + 1,q,some (.int (n:Int)),e2,by lia,rfl,rfl⟩)
 refine bp1 (h2) fun n q u' e hn eσ eη=>?_
 have:q=0:=by cases q with | zero=>rfl | succ q=>replace e:=(List.range'_succ) ▸ e;cases e
 subst this
 have hn8:n=8:=by assumption
 subst hn8 eσ eη
 rw [List.take_of_length_le (by exact Nat.le_of_eq ‹_›)] at h1
 refine kQ ?_
 exact ⟨u',h1⟩
end
theorem rG:∀ (p l:List Nat) (n:Nat),(∀ r∈p,r < 3)->(∀ x∈l,x < 4)->l.length<=8->fv ((act p l).take n)=fv (l.take n)
 | [],l,n,_,_,_=>rfl
 | r::p,l,n,hr,h4,h8=>by
  have hr3:=hr r List.mem_cons_self
  rw [ej,rG p (ex r l) n (fun r h=>hr r (List.mem_cons_of_mem _ h)) (vN hr3 h4) (by rw [dT];exact h8),aD1 hr3 h8 h4]
theorem kV{l:List Nat}{n:Nat}(h4:∀ x∈l,x < 4)(hl:l.length=8)(hn:1<=n):eU ((l.map ai).take n)=fv (l.take n):=by
 refine (List.map_take) ▸ ?_
 exact (rz (fun x hx=>h4 x (List.mem_of_mem_take hx)) (by
  intro e
  have:=congrArg List.length e
  rw [List.length_take,hl] at this
  simp at this
  lia)).1
theorem t8{l:List Nat}{n:Nat}(h4:∀ x∈l,x < 4)(hl:l.length=8)(hn:1<=n):mx ((bc l).take n)=fv (l.take n):=by
 rw [← r6]
 exact ua (fun x hx=>h4 x (List.mem_of_mem_take hx)) (by
  intro e
  have:=congrArg List.length e
  rw [List.length_take,hl] at this
  simp at this
  lia)
noncomputable def xc:Sx:=(.seq (.ite (.cmp .NotEq (.call 9 (.cons (.loc 13) .nil)) (.bf .max (.cons (.slc (.loc 11) .nil (.loc 12) .nil) .nil))) (.seq (.ret (.cst (.bool false))) .skip) .skip) .skip)
noncomputable def uA:Sx:=(.seq (.for_ (.loc 13) (.tup (.cons (.slc (.loc 3) .nil (.loc 12) .nil) (.cons (.slc (.loc 5) .nil (.loc 12) .nil) .nil))) xc) .skip)
theorem pb{σ ex:List AO}{k:Nat}{o:AO}(h:σ[k]?=some o):(σ++ex)[k]?=some o:=by
 rw [List.getElem?_append_left (List.getElem?_eq_some_iff.mp h).1];exact h
section
variable {F:Fn} {σ:List AO} {ks ms:List Nat} {a b c u rw_ kk o nw p tx:Option V} {k:Nat} {T:List Nat}
theorem wO(K:LawOk F){n:Nat}{t:List Nat}{m w:Option V}(hk:σ[k]?=some ⟨aa T,none⟩)(hT:T.length=8)(hn:1<=n)(hn8:n<=8)(ht:eU t=mx (T.take n)) :
  ∃ ex',exs F xc σ (LS a b c w u m rw_ kk o nw p (some (.ref k)) (some (.int (n:Int))) (some (.str t)))=some (.next,σ++ex',LS a b c w u m rw_ kk o nw p (some (.ref k)) (some (.int (n:Int))) (some (.str t))):=by
 refine a7 (K.falls σ t) fun ex' e=>?_
 refine ⟨ex',?_⟩
 refine byQ fun Q kQ=>?_
 have hk':=pb (ex:=ex') hk
 have hd:=cK hk'
 have s1:mQ (σ++ex') (.ref k) .none (.int (n:Int)) .none=some (.lst (aa (T.take n))):=by
  unfold mQ
  show (if (none:Option Int)=some 0 then none else match der (σ++ex') (.ref k) with | .str x=>if (none:Option Int)=none then some (V.str (Txt.slice ⟨x.toArray⟩ none (some (n:Int))).cps.toList) else none | .lst x=>some (.lst (j4 x none (some (n:Int)) none)) | .raw x=>some (.lst (j4 x none (some (n:Int)) none)) | _=>none)=_
  rw [hd,if_neg nofun]
  dsimp only
  rw [uo _ _ (by unfold aa;rw [List.length_map];lia)]
  unfold aa
  rw [List.map_take]
 have s2:∃ z zs,T.take n=z::zs:=by
  cases h:T.take n with
  | nil =>
   have:=congrArg List.length h
   rw [List.length_take,hT] at this
   simp at this
   lia
  | cons z zs=>exact wx z zs rfl
 refine dp (s2) fun z zs hz=>?_
 have s3:=dH1 (σ:=σ++ex') (u:=.lst (aa (T.take n))) z zs (by rw [hz];rfl)
 rw [← hz,← ht] at s3
 have c1:dF .NotEq (σ++ex') (.int (eU t:Nat)) (.int (eU t:Nat))=some false:=by rw [eE];simp
 refine kQ ?_
 unfold xc
 rw [yu (mX (eu (aK (aq rfl) dc) e) (zc (aK (wB (aq rfl) iR (aq rfl) iR s1) dc) s3) c1)]
 exact er
theorem w4(K:LawOk F){n:Nat}(h4:∀ x∈ks,x < 4)(h8:ks.length=8)(m4:∀ x∈ms,x < 4)(m8:ms.length=8)(hf:∀ n,fv (ms.take n)=fv (ks.take n))(hk:σ[k]?=some ⟨aa (bc ks),none⟩)(hn:1<=n)(hn8:n<=8) :
  ∃ ex' tx',exs F uA σ (LS a b c (some (.str (ks.map ai))) u (some (.str (ms.map ai))) rw_ kk o nw p (some (.ref k)) (some (.int (n:Int))) tx)=some (.next,σ++ex',LS a b c (some (.str (ks.map ai))) u (some (.str (ms.map ai))) rw_ kk o nw p (some (.ref k)) (some (.int (n:Int))) tx'):=by
 refine byQ fun Q kQ=>?_
 have e1:mQ σ (.str (ks.map ai)) .none (.int (n:Int)) .none=some (.str ((ks.map ai).take n)):=fC1 (by rw [List.length_map];lia)
 have e2:mQ σ (.str (ms.map ai)) .none (.int (n:Int)) .none=some (.str ((ms.map ai).take n)):=fC1 (by rw [List.length_map];lia)
 obtain ⟨σ',η',h1,h2⟩:=gP (F:=F) (i:=13) (b:=xc) (σ:=σ) (it:=.tup (.cons (.slc (.loc 3) .nil (.loc 12) .nil) (.cons (.slc (.loc 5) .nil (.loc 12) .nil) .nil))) (η:=LS a b c (some (.str (ks.map ai))) u (some (.str (ms.map ai))) rw_ kk o nw p (some (.ref k)) (some (.int (n:Int))) tx)
  (x:=.tup [.str ((ks.map ai).take n),.str ((ms.map ai).take n)]) (l:=[.str ((ks.map ai).take n),.str ((ms.map ai).take n)])
  (fun l σ₁ η=>(∀ x∈l,∃ t,x=.str t/\eU t=mx ((bc ks).take n))/\(∃ ex',σ₁=σ++ex')/\∃ tx,η=LS a b c (some (.str (ks.map ai))) u (some (.str (ms.map ai))) rw_ kk o nw p (some (.ref k)) (some (.int (n:Int))) tx)
  (wA (aK (wB (aq rfl) iR (aq rfl) iR e1) (aK (wB (aq rfl) iR (aq rfl) iR e2) dc)) (show 2<=lim by decide)) rfl
  ⟨fun x hx=>by
   simp only [List.mem_cons,List.not_mem_nil,or_false] at hx
   rw [t8 h4 h8 hn]
   rcases hx with rfl | rfl
   ·exact ⟨_,rfl,kV h4 h8 hn⟩
   ·exact ⟨_,rfl,by rw [kV m4 m8 hn,hf]⟩,⟨[],by rw [List.append_nil]⟩,tx,rfl⟩ (fun x l σ₁ η ⟨hx,⟨e0,eσ⟩,tx,eη⟩=>by
   subst eσ eη
   obtain ⟨t,h_p⟩:=hx x List.mem_cons_self;obtain rfl:=h_p.1;have ht:=h_p.2
   obtain ⟨e1,h⟩:=wO (F:=F) (a:=a) (b:=b) (c:=c) (u:=u) (rw_:=rw_) (kk:=kk) (o:=o) (nw:=nw) (p:=p) (m:=some (.str (ms.map ai))) (w:=some (.str (ks.map ai))) K (pb (ex:=e0) hk) (by rw [iY];exact h8) hn hn8 ht
   exact ⟨_,_,h,fun y hy=>hx y (List.mem_cons_of_mem _ hy),⟨e0++e1,by rw [List.append_assoc]⟩,some (.str t),rfl⟩)
 obtain ⟨_,⟨ex',eσ⟩,tx',eη⟩:=h2
 subst eσ eη
 refine kQ ?_
 refine wx ex' tx' ?_
 unfold uA
 rw [ak h1]
 exact er
noncomputable def qM:Ex:=(.tup (.cons (.bin .Add (.cst (.int 1)) (.bin .Mod (.bin .FloorDiv (.idx (.loc 2) (.cst (.int 5))) (.cst (.int 2592))) (.cst (.int 7)))) (.cons (.cst (.int 8)) .nil)))
theorem ur(K:LawOk F){ws:List Int}(hw:ws.length=8)(h4:∀ x∈ks,x < 4)(h8:ks.length=8)(m4:∀ x∈ms,x < 4)(m8:ms.length=8)(hf:∀ n,fv (ms.take n)=fv (ks.take n))(hk:σ[k]?=some ⟨aa (bc ks),none⟩) :
  ∃ σ' η',exs F (.for_ (.loc 12) qM uA) σ (LS a b (some (.lst (ws.map V.int))) (some (.str (ks.map ai))) u (some (.str (ms.map ai))) rw_ kk o nw p (some (.ref k)) none none)=some (.next,σ',η'):=by
 have hs:∃ s1:Nat,1 + ws.getD 5 0 / 2592 % 7=(s1:Int)/\1<=s1/\s1<=8:=⟨(1 + ws.getD 5 0 / 2592 % 7).toNat,by lia,by lia,by lia⟩
 refine a7 (hs) fun s1 h_p=>?_;have es:=h_p.1;have g1:=h_p.2.1;have g2:=h_p.2.2
 have i5:ez σ (.lst (ws.map V.int)) (.int 5)=some (.int (ws.getD 5 0)):=tR (i:=5) (by lia) (by lia)
 have ex1:evx F qM σ (LS a b (some (.lst (ws.map V.int))) (some (.str (ks.map ai))) u (some (.str (ms.map ai))) rw_ kk o nw p (some (.ref k)) none none)=some (.tup [.int (s1:Int),.int 8],σ):=by
  refine (es) ▸ ?_
  exact wA (aK (dd bX (dd (dd (dJ (aq rfl) bX i5) bX (bN (by decide) (by decide))) bX (dg (by decide))) dh) (aK bX dc)) (show 2<=lim by decide)
 obtain ⟨σ',η',h1,_⟩:=gP (F:=F) (i:=12) (b:=uA) (σ:=σ) (it:=qM) (η:=LS a b (some (.lst (ws.map V.int))) (some (.str (ks.map ai))) u (some (.str (ms.map ai))) rw_ kk o nw p (some (.ref k)) none none)
  (x:=.tup [.int (s1:Int),.int 8]) (l:=[.int (s1:Int),.int 8])
  (fun l σ₁ η=>(∀ x∈l,∃ n:Nat,x=.int (n:Int)/\1<=n/\n<=8)/\(∃ ex',σ₁=σ++ex')/\∃ sz tx,η=LS a b (some (.lst (ws.map V.int))) (some (.str (ks.map ai))) u (some (.str (ms.map ai))) rw_ kk o nw p (some (.ref k)) sz tx)
  ex1 rfl
  ⟨fun x hx=>by
   simp only [List.mem_cons,List.not_mem_nil,or_false] at hx
   rcases hx with rfl | rfl
   ·exact ⟨s1,rfl,g1,g2⟩
   ·exact ⟨8,rfl,by decide,by decide⟩,⟨[],by rw [List.append_nil]⟩,none,none,rfl⟩ (fun x l σ₁ η ⟨hx,⟨e0,eσ⟩,sz,tx,eη⟩=>by
   subst eσ eη
   refine a7 (hx x List.mem_cons_self) fun n h_p=>?_;obtain rfl:=h_p.1;have hn1:=h_p.2.1;have hn2:=h_p.2.2
   refine dp (w4 (F:=F) (a:=a) (b:=b) (c:=some (.lst (ws.map V.int))) (u:=u) (rw_:=rw_) (kk:=kk) (o:=o) (nw:=nw) (p:=p) (tx:=tx) K h4 h8 m4 m8 hf (pb (ex:=e0) hk) hn1 hn2) fun e1 tx' h=>?_
   exact ⟨_,_,h,fun y hy=>hx y (List.mem_cons_of_mem _ hy),⟨e0++e1,by rw [List.append_assoc]⟩,some (.int (n:Int)),tx',rfl⟩)
 exact wx σ' η' h1
end
theorem vb:wn=(.seq (.asg 1 tS) (.seq (.asg 2 yx) (.seq (.asg 3 zk)
 (.seq (.ite (iT 3 4 3) (.seq (.ret (.cst (.bool false))) .skip) .skip)
 (.seq (.for_ (.loc 4) (.range (.cons (.cst (.int 3)) .nil)) nj)
 (.seq (.asg 5 (.loc 3))
 (.seq (.asg 6 (.lst (.cons (.cst (.int 0)) (.cons (.cst (.int 1)) (.cons (.cst (.int 2)) (.cons (.cst (.int 3)) .nil))))))
 (.seq (.for_ (.loc 7) (.range (.cons (.cst (.int 4)) .nil)) uB)
 (.seq (.ite tT (.seq (.ret (.cst (.bool false))) .skip) .skip)
 (.seq (.asg 8 (.loc 3))
 (.seq (.asg 9 (.lst (.cons (.cst (.int 0)) (.cons (.cst (.int 1)) (.cons (.cst (.int 2)) (.cons (.cst (.int 3)) .nil))))))
 (.seq (.for_ (.loc 10) (.range (.cons (.cst (.int 4)) .nil)) nk)
 (.seq (.ite (iT 5 5 8) (.seq (.ret (.cst (.bool false))) .skip) .skip)
 (.seq (.asg 11 (.new .nil))
 (.seq (.for_ (.loc 7) (.range (.cons (.cst (.int 8)) .nil)) co1)
 (.seq (.for_ (.loc 12) qM uA)
 (.seq (.ret (.cst (.bool true))) .skip))))))))))))))))):=rfl
theorem yX{F:Fn}{σ:List AO}{η:ac}:evx F (.lst (.cons (.cst (.int 0)) (.cons (.cst (.int 1)) (.cons (.cst (.int 2)) (.cons (.cst (.int 3)) .nil))))) σ η=some (.lst (aa [0,1,2,3]),σ) :=
 bx1 (aK bX (aK bX (aK bX (aK bX dc)))) (show 4<=lim by decide)
theorem bk1{sc st wo wd rk md rw_ k ot nw pl tp sz tx v:Option V}:(LS sc st wo wd rk md rw_ k ot nw pl tp sz tx).set 5 v=LS sc st wo wd rk v rw_ k ot nw pl tp sz tx:=rfl
theorem bj1{sc st wo wd rk md rw_ k ot nw pl tp sz tx v:Option V}:(LS sc st wo wd rk md rw_ k ot nw pl tp sz tx).set 6 v=LS sc st wo wd rk md v k ot nw pl tp sz tx:=rfl
theorem bi1{sc st wo wd rk md rw_ k ot nw pl tp sz tx v:Option V}:(LS sc st wo wd rk md rw_ k ot nw pl tp sz tx).set 8 v=LS sc st wo wd rk md rw_ k v nw pl tp sz tx:=rfl
theorem bh1{sc st wo wd rk md rw_ k ot nw pl tp sz tx v:Option V}:(LS sc st wo wd rk md rw_ k ot nw pl tp sz tx).set 9 v=LS sc st wo wd rk md rw_ k ot v pl tp sz tx:=rfl
theorem aj1{F:Fn}(K:LawOk F)(ns:List Int):∃ σ',jZ F 1 18 wn [.raw (ns.map V.int)] []=some (.bool true,σ'):=by
 refine byQ fun Q kQ=>?_
 have h4:=am1 ns
 have h8:=rq ns
 have hw:=qN ns
 generalize hks:an1 ns=ks at h4 h8
 have hr:∀ r∈rks (dK ns),r < 3:=fun r hr=>by
  unfold rks at hr
  obtain ⟨k,_,rfl⟩:=List.mem_map.mp hr
  exact fM _ _
 refine a7 (zC (fM (dK ns) 0) (fM (dK ns) 1) (fM (dK ns) 2) (fM (dK ns) 3)) fun rs h_p=>?_;have hb:=h_p.1;have hrs:=h_p.2.1;have hact:=h_p.2.2
 have hrk:[oW (dK ns) 0,oW (dK ns) 1,oW (dK ns) 2,oW (dK ns) 3]=rks (dK ns):=rfl
 rw [hrk] at hb
 have hact':act rs ks=act (rks (dK ns)) ks:=hact ks (by exact Nat.le_of_eq ‹_›)
 have m4:=rW (rks (dK ns)) ks hr h4
 have m8:(act (rks (dK ns)) ks).length=8:=by rw [mI];exact h8
 have s0:az [V.raw (ns.map V.int)] 18=LS (some (.raw (ns.map V.int))) none none none none none none none none none none none none none:=rfl
 have key:∃ σ' η',exs F wn [] (LS (some (.raw (ns.map V.int))) none none none none none none none none none none none none none)=some (.ret (.bool true),σ',η'):=by
  rw [vb,ak (f4 wY)]
  show ∃ σ' η',exs F _ [] (LS (some (.raw (ns.map V.int))) (some (.tup (bG.map V.int))) none none none none none none none none none none none none)=_
  rw [ak (f4 zl)]
  show ∃ σ' η',exs F _ [] (LS (some (.raw (ns.map V.int))) (some (.tup (bG.map V.int))) (some (.lst ((dK ns).map V.int))) none none none none none none none none none none none)=_
  rw [ak (f4 bF1)]
  rw [hks]
  show ∃ σ' η',exs F _ [] (LS (some (.raw (ns.map V.int))) (some (.tup (bG.map V.int))) (some (.lst ((dK ns).map V.int))) (some (.str (ks.map ai))) none none none none none none none none none none)=_
  rw [yu (vD K h4 h8 hw (by decide) (by decide) rfl rfl rfl)]
  refine dp (ub (σ:=[]) (a:=some (.raw (ns.map V.int))) (b:=some (.tup (bG.map V.int))) (c:=some (.lst ((dK ns).map V.int))) K h4 h8) fun σ₁ iA1 e1=>?_
  rw [ak e1,ak (f4 (aq rfl)),ak (f4 yX),bk1,bj1]
  refine byQ fun Q kQ=>?_
  refine fO (xD (σ:=σ₁) (a:=some (.raw (ns.map V.int))) (b:=some (.tup (bG.map V.int))) (u:=iA1) K h4 h8 hw) fun σ₂ fm1 v₂ e2=>?_
  refine kQ ?_
  rw [ak e2,yu (ya h4 m4 (xi _) (jb _) (aV1 hr (by exact Nat.le_of_eq ‹_›))),ak (f4 (aq rfl)),ak (f4 yX),bi1,bh1]
  refine byQ fun Q kQ=>?_
  refine g91 (yh (σ:=σ₂) (a:=some (.raw (ns.map V.int))) (b:=some (.tup (bG.map V.int))) (c:=some (.lst ((dK ns).map V.int))) (d:=some (.str (ks.map ai))) (u:=fm1) (m:=some (.str ((act (rks (dK ns)) ks).map ai))) (k:=v₂) K h4 h8 (jb _) hb) fun aj ev1 eJ1 eB1 e3=>?_
  refine kQ ?_
  rw [ak e3,hact',yu (vD K m4 m8 hw (by decide) (by decide) rfl rfl rfl)]
  have e4:exs F (.asg 11 (.new .nil)) aj (LS (some (.raw (ns.map V.int))) (some (.tup (bG.map V.int))) (some (.lst ((dK ns).map V.int))) (some (.str (ks.map ai))) ev1 (some (.str ((act (rks (dK ns)) ks).map ai))) (some (.lst (aa (fL (rks (dK ns)))))) v₂ (some (.str ((act (rks (dK ns)) ks).map ai))) eJ1 eB1 none none none) =
    some (.next,aj++[⟨[],none⟩],LS (some (.raw (ns.map V.int))) (some (.tup (bG.map V.int))) (some (.lst ((dK ns).map V.int))) (some (.str (ks.map ai))) ev1 (some (.str ((act (rks (dK ns)) ks).map ai))) (some (.lst (aa (fL (rks (dK ns)))))) v₂ (some (.str ((act (rks (dK ns)) ks).map ai))) eJ1 eB1 (some (.ref aj.length)) none none):=by
   rw [bI,ch,dc]
   rfl
  refine (ak e4) ▸ ?_
  refine a7 (wM (F:=F) (a:=some (.raw (ns.map V.int))) (b:=some (.tup (bG.map V.int))) (c:=some (.lst ((dK ns).map V.int))) (u:=ev1) (m:=some (.str ((act (rks (dK ns)) ks).map ai))) (rw_:=some (.lst (aa (fL (rks (dK ns)))))) (o:=some (.str ((act (rks (dK ns)) ks).map ai))) (nw:=eJ1) (p:=eB1) (kk:=v₂) (σ0:=aj) h4 h8) fun iz1 e5=>?_
  refine (ak e5) ▸ ?_
  refine dp (ur (F:=F) (a:=some (.raw (ns.map V.int))) (b:=some (.tup (bG.map V.int))) (u:=ev1) (rw_:=some (.lst (aa (fL (rks (dK ns)))))) (kk:=iz1) (o:=some (.str ((act (rks (dK ns)) ks).map ai))) (nw:=eJ1) (p:=eB1) (σ:=aj++[⟨aa (bc ks),none⟩]) (k:=aj.length) K hw h4 h8 m4 m8 (fun n=>rG _ ks n hr h4 (by exact Nat.le_of_eq ‹_›)) (by simp)) fun eZ1 e01 e6=>?_
  refine (ak e6) ▸ ?_
  exact wx eZ1 e01 (by rw [bB,bw1 bX])
 refine dp (key) fun σ' η' e=>?_
 refine kQ ?_
 refine ⟨σ',?_⟩
 unfold jZ
 rw [if_pos (by rfl),s0,e]
theorem kL1(n:Nat):FnOk (lev wQ (n + 1)) where
 typed σ kind x h0 h1:=by rw [ea (np:=2) (more:=4) (body:=cV) rfl,t4 _ _ _ _ ⟨h0,h1⟩]
 parse σ t ht:=by rw [ea (np:=1) (more:=4) (body:=dZ) rfl,uN _ _ _ ht]
 b1 σ c:=by rw [fj (p:=pB1 sB1) rfl];rfl
 b3 σ c h:=by
  rw [fj (p:=pB3 gB3) rfl]
  unfold pB3 b3v
  dsimp only
  rw [if_pos h] <;> (cases gB3 c <;> rfl)
theorem gG1(n:Nat):AccOk (lev wQ (n + 1)) where
 acc vs σ:=fj (p:=cR1) rfl
 push vs σ:=fj (p:=sr) rfl
 popFrom vs σ:=fj (p:=d8) rfl
 pop vs σ:=fj (p:=bn1) rfl
theorem gr1(n:Nat):yt (lev wQ (n + 1)):=fun w hw t σ=>by
 refine ⟨[⟨(gF w).map V.str,none⟩],?_⟩
 rw [ea (np:=2) (more:=4) (body:=bK) rfl]
 exact aF1 (qO w hw).1
theorem f31(n:Nat):LawOk (lev wQ (n + 2)) where
 heard σ ks ws part h4 h8 hw hp hp':=by rw [ea (np:=3) (more:=4) (body:=ek) rfl,vE (kL1 n) σ h4 h8 hw hp hp']
 exch σ ks r hr h8 h4:=by
  obtain ⟨ex',e⟩:=xV (F:=lev wQ (n + 1)) (σ:=σ) (ks:=ks) (r:=r) (gG1 n) hr h8 h4
  refine ⟨σ++ex',?_⟩
  rw [ea (np:=2) (more:=13) (body:=bt) rfl,e,dM1 r ks h8]
 swap σ l r hl hr:=by rw [ea (np:=2) (more:=0) (body:=aS) rfl,wS hl hr]
 falls σ t:=by
  obtain ⟨ex',e⟩:=vK (F:=lev wQ (n + 1)) (σ:=σ) (t:=t) (gr1 n)
  exact ⟨ex',by rw [ea (np:=1) (more:=2) (body:=cW) rfl,e]⟩
theorem fO1:eo1:=fun ns _=>aj1 (f31 3) ns
theorem law3_holds:PySem.Challenge.rw_wv0039_03.Holds:=f91 (fk1 fO1)
end Mine
theorem PySem.Challenge.cw_wv0039_03_holds : PySem.Challenge.rw_wv0039_03.Holds :=
  Mine.law3_holds
