import Derived.Test.YtoigpackhninoaaGreatDoorZ13
namespace Go.Proofs.YtoigpackhninoaaGreatDoor
namespace Gr
def over (kind:Int) (text:Str) (ns:List Nd) (r:Nat):List Nd:=⟨kind,text,false,[],[r+1]⟩::ns.map (shN 1)
section
variable {kind:Int} {text:Str} {ns:List Nd} {r:Nat}
theorem zaz:(over kind text ns r).length=ns.length+1:=by simp[over]
theorem zds (i:Nat):(over kind text ns r)[i+1]? =(ns[i]?).map (shN 1):=by simp[over]
theorem zcs:succ (over kind text ns r) 0=[r+1]:=by simp[succ,over]
theorem zcb (i:Nat):succ (over kind text ns r) (i+1)=(succ ns i).map (· +1):=by
 unfold succ;rw[zds];cases ns[i]? with
 |none=>rfl
 |some x=>simp[shN]
theorem zcz {a b:Nat} (h:Reach (succ ns) a b):Reach (succ (over kind text ns r)) (a+1) (b+1):=by
 induction h with
 |refl=>exact .refl _
 |step h1 _ ih=>exact .step (by rw[zcb];exact List.mem_map.2 ⟨_,h1,rfl⟩) ih
theorem zea {a b:Nat} (h:Reach (succ (over kind text ns r)) (a+1) b):∃c,b=c+1/\Reach (succ ns) a c:=by
 have key:∀x y,Reach (succ (over kind text ns r)) x y->∀a,x=a+1->∃c,y=c+1/\Reach (succ ns) a c:=by
  intro x y hx
  induction hx with
  |refl=>intro a h;exact⟨a,h,.refl _⟩
  |step h1 _ ih=>
   intro a h;subst h;rw[zcb]at h1;obtain⟨y,hy,rfl⟩:=List.mem_map.1 h1;obtain⟨c,hc,hr⟩:=ih y rfl;exact⟨c,hc,.step hy hr⟩
 exact key _ _ h a rfl
theorem zct (a b:Nat):Reach (succ (over kind text ns r)) (a+1) (b+1)↔Reach (succ ns) a b:=
 ⟨fun h=>by
  obtain⟨c,hc,hr⟩:=zea h;obtain rfl:b=c:=by omega
  exact hr,zcz⟩
theorem zc0 (a:Nat):¬Reach (succ (over kind text ns r)) (a+1) 0:=fun h=>by
 obtain⟨c,hc,_⟩:=zea h;omega
theorem zny (b:Nat):Reach (succ (over kind text ns r)) 0 (b+1)↔Reach (succ ns) r b:=by
 constructor
 ·intro h;cases h with
  |step h1 h2=>
   rw[zcs,List.mem_singleton]at h1;subst h1;exact(zct _ _).1 h2
 ·intro h;exact .step (by rw[zcs];exact List.mem_singleton.2 rfl) (zcz h)
theorem zjf (h:Refs ns) (hr:r<ns.length):Refs (over kind text ns r):=by
 intro x hx y hy;rw[zaz];rcases List.mem_cons.1 hx with rfl|hx
 ·simp at hy;omega
 ·obtain⟨z,hz,rfl⟩:=List.mem_map.1 hx;have hy:y∈z.keys.map (· +1)++z.items.map (· +1):=hy;rw[<-List.map_append]at hy;obtain⟨u,hu,rfl⟩:=List.mem_map.1 hy;have:=h z hz u hu;omega
theorem zr0:allKeys (over kind text ns r)=(allKeys ns).map (· +1):=by
 unfold allKeys over;rw[List.flatMap_cons,List.nil_append]
 induction ns with
 |nil=>rfl
 |cons x l ih=>rw[List.map_cons,List.flatMap_cons,List.flatMap_cons,List.map_append,ih];rfl
theorem zkn:refs (over kind text ns r)=(r+1)::(refs ns).map (· +1):=by
 unfold refs over;rw[List.flatMap_cons];show(r+1)::(List.flatMap (fun x:Nd=>x.keys++x.items) (ns.map (shN 1)))=_
 congr 1
 induction ns with
 |nil=>rfl
 |cons x l ih=>rw[List.map_cons,List.flatMap_cons,List.flatMap_cons,List.map_append,ih];simp[shN]
theorem zua (l:List Nat) (x:Nat):(l.map (· +1)).count (x+1)=l.count x:=by
 induction l with
 |nil=>rfl
 |cons y l ih=>simp only[List.map_cons,List.count_cons,ih];congr 1;simp
theorem zw5 (h:Refs ns) (hr:r<ns.length) (x:Nat):mkd (inKeys (over kind text ns r)) x=true↔∃v,x=v+1/\mkd (inKeys ns) v=true:=by
 rw[zam (zjf h hr),zr0];constructor
 ·rintro⟨k,hk,hR⟩;obtain⟨k',hk',rfl⟩:=List.mem_map.1 hk;obtain⟨c,rfl,h2⟩:=zea hR;exact⟨c,rfl,(zam h c).2 ⟨k',hk',h2⟩⟩
 ·rintro⟨v,rfl,hv⟩;obtain⟨k,hk,h2⟩:=(zam h v).1 hv;exact⟨k+1,List.mem_map.2 ⟨k,hk,rfl⟩,zcz h2⟩
theorem znz (v:Nat) (hv:v<ns.length):(counts (over kind text ns r) 0).getD (v+1) 0=(counts ns r).getD v 0:=by
 rw[zb5 (by rw[zaz];omega),zb5 hv,zkn,List.count_cons,zua];by_cases h:v=r
 ·subst h;simp;omega
 ·have:¬(r+1==v+1)=true:=by simp;omega
  rw[if_neg (by omega),if_neg this,if_neg h];omega
theorem WellF.over (h:WellF ns r) (h0:0<=kind/\kind<=11/\kind≠10):WellF (Gr.over kind text ns r) 0 where
 root:=by rw[zaz];omega
 refs:=zjf h.refs h.root
 ok:=by
  intro x hx;rcases List.mem_cons.1 hx with rfl|hx
  ·exact⟨h0.1,h0.2.1,fun e=>absurd e h0.2.2⟩
  ·obtain⟨z,hz,rfl⟩:=List.mem_map.1 hx;obtain⟨a,b,c⟩:=h.ok z hz;exact⟨a,b,fun e=>by simp[shN];exact c e⟩
 all:=by
  intro v hv;cases v with
  |zero=>exact .refl _
  |succ v=>rw[zaz]at hv;exact(zny v).2 (h.all v (by omega))
 one:=by
  intro x hx hin;obtain⟨v,rfl,hv⟩:=(zw5 h.refs h.root x).1 hin;rw[zaz]at hx;rw[znz v (by omega)];exact h.one v (by omega) hv
theorem zn0 (hok:NodesOk ns) (f i:Nat):printF (Gr.over kind text ns r) f (i+1)=printF ns f i:=by
 induction f generalizing i with
 |zero=>rfl
 |succ f ih=>
  cases hx:ns[i]? with
  |none=>
   have h1:(Gr.over kind text ns r)[i+1]? =none:=by rw[zds,hx];rfl
   unfold printF;rw[h1,hx]
  |some x=>
   have h1:(Gr.over kind text ns r)[i+1]? =some (shN 1 x):=by rw[zds,hx];rfl
   have he:ents (Gr.over kind text ns r) f (shN 1 x)=ents ns f x:=by
    unfold ents shN;rw[List.length_map];apply List.map_congr_left;intro k hk;have hk:=List.mem_range.1 hk;simp only;have e2:(x.items.map (· +1)).getD k 0=x.items.getD k 0+1:=by simp[List.getD_eq_getElem?_getD,hk]
    rw[e2,ih]
    congr 1
    by_cases h10:x.kind=10
    ·rw[if_pos h10,if_pos h10];by_cases hkk:k<x.keys.length
     ·have e1:(x.keys.map (· +1)).getD k 0=x.keys.getD k 0+1:=by simp[List.getD_eq_getElem?_getD,hkk]
      rw[e1,ih]
     ·have:=(hok x (List.mem_of_getElem? hx)).2.2 h10;omega
    ·rw[if_neg h10,if_neg h10]
   rw[zai h1,zai hx];unfold entS;rw[he];simp only[shN,List.length_map];rfl
theorem zr1:∀f i,Tall' ns f i->Tall' ns (f+1) i:=by
 intro f
 induction f with
 |zero=>intro i h;exact h.elim
 |succ f ih=>intro i h x hx;exact ih x (h x hx)
theorem zn1 (h:WellF ns r) (h0:0<=kind/\kind<=11/\kind≠10):twice (Gr.over kind text ns r) (ns.length+1)=twice ns ns.length:=by
 have hw:=WellF.over (text:=text) h h0;have ht:=hw.tall;rw[zaz]at ht;have hT:∀k∈allKeys ns,TOk ns ns.length k:=fun k hk=>⟨(h.tall k hk).1,(h.tall k hk).2⟩
 rw[zem hw.ok hw.refs (ns.length+1) (fun k hk=>⟨by rw[zaz];exact(ht k hk).1,(ht k hk).2⟩),zem h.ok h.refs ns.length hT];unfold rtwice;have e:∀x∈ns,dupS ((shN 1 x).keys.map (printF (Gr.over kind text ns r) (ns.length+1)))=dupS (x.keys.map (printF ns ns.length)):=by
  intro x hx
  congr 1
  unfold shN;simp only[List.map_map];apply List.map_congr_left;intro k hk;have hka:k∈allKeys ns:=List.mem_flatMap.2 ⟨x,hx,hk⟩;show printF _ _ (k+1)=_;rw[zn0 h.ok];exact zf3 h.ok h.refs _ _ k ⟨(hT k hka).1,zr1 _ _ (hT k hka).2⟩ (hT k hka)
 rw[show Gr.over kind text ns r=⟨kind,text,false,[],[r+1]⟩::ns.map (shN 1)from rfl];rw[List.any_cons];show(false || _)=_;rw[Bool.false_or,Bool.eq_iff_iff,List.any_eq_true,List.any_eq_true];constructor
 ·rintro⟨z,hz,hd⟩;obtain⟨x,hx,rfl⟩:=List.mem_map.1 hz;exact⟨x,hx,by rw[<-e x hx];exact hd⟩
 ·rintro⟨x,hx,hd⟩;exact⟨shN 1 x,List.mem_map.2 ⟨x,hx,rfl⟩,by rw[<-hd];exact e x hx⟩
theorem LongR.unique {sc:Nat->List Nat} {n:Nat} {F G:Nat->Nat} (hsc:∀u,∀x∈sc u,x<n) (hF:LongR sc n F) (hG:LongR sc n G):∀v,v<n->F v=G v:=by
 have key:∀{F G:Nat->Nat},LongR sc n F->LongR sc n G->∀k v,F v<=k->v<n->F v<=G v:=by
  intro F G hF hG k
  induction k with
  |zero=>intro v h _;omega
  |succ k ih=>
   intro v h hv;have hp:=zk2 sc n v hv;rcases hF.att v hv with h1|⟨u,hu,h2,h3,x,hx,hn,h4⟩
   ·rcases hG.att v hv with h5|⟨_,_,_,_,_,_,_,h5⟩<;>omega
   ·have h5:=ih x (by omega) (hsc u x hx);have h6:=hG.up v u hv hu h2 h3 x hx hn;omega
 intro v hv;exact Nat.le_antisymm (key hF hG _ v (Nat.le_refl _) hv) (key hG hF _ v (Nat.le_refl _) hv)
open Classical in
theorem zr2 (v:Nat):wt (succ (Gr.over kind text ns r)) (ns.length+1) (v+1)=wt (succ ns) ns.length v:=by
 unfold wt;rw[List.range_succ_eq_map,List.countP_cons,List.countP_map];have:¬(decide (Reach (succ (Gr.over kind text ns r)) (v+1) 0/\Reach (succ (Gr.over kind text ns r)) 0 (v+1))=true):=by
  rw[decide_eq_true_eq];exact fun h=>zc0 _ h.1
 rw[if_neg this,Nat.add_zero];apply List.countP_congr;intro i _;simp only[Function.comp,decide_eq_true_eq,Nat.succ_eq_add_one,zct]
open Classical in
theorem zr3:wt (succ (Gr.over kind text ns r)) (ns.length+1) 0=1:=by
 unfold wt;rw[List.range_succ_eq_map,List.countP_cons,List.countP_map];rw[if_pos (by rw[decide_eq_true_eq];exact⟨.refl _,.refl _⟩)];have:List.countP ((fun i=>decide (Reach (succ (Gr.over kind text ns r)) 0 i/\Reach (succ (Gr.over kind text ns r)) i 0)) ∘ Nat.succ) (List.range ns.length)=0:=by
  rw[List.countP_eq_zero];intro i _;simp only[Function.comp,decide_eq_true_eq];exact fun h=>zc0 i h.2
 rw[this]
def upF (r:Nat) (F:Nat->Nat):Nat->Nat
 | 0=>F r+1
 |v+1=>F v
theorem LongR.over {F:Nat->Nat} (_hr:r<ns.length) (hF:LongR (succ ns) ns.length F):LongR (succ (Gr.over kind text ns r)) (ns.length+1) (upF r F):=by
 refine⟨fun v u hv hu h1 h2 x hx hn=>?_,fun v hv=>?_⟩
 ·cases v with
  |zero=>
   rw[zr3];cases u with
   |zero=>
    rw[zcs,List.mem_singleton]at hx;subst hx;show 1+F r<=F r+1;omega
   |succ u=>exact absurd h2 (zc0 u)
  |succ v=>
   rw[zr2];cases u with
   |zero=>exact absurd h1 (zc0 v)
   |succ u=>
    rw[zcb]at hx;obtain⟨y,hy,rfl⟩:=List.mem_map.1 hx;rw[zct]at h1 h2 hn;exact hF.up v u (by omega) (by omega) h1 h2 y hy hn
 ·cases v with
  |zero=>
   right;exact⟨0,by omega,.refl _,.refl _,r+1,by rw[zcs];exact List.mem_singleton.2 rfl,zc0 r,by rw[zr3];show F r+1=1+F r;omega⟩
  |succ v=>
   rw[zr2];rcases hF.att v (by omega)with h1|⟨u,hu,h2,h3,x,hx,hn,h4⟩
   ·exact .inl h1
   ·exact .inr ⟨u+1,by omega,zcz h2,zcz h3,x+1,by rw[zcb];exact List.mem_map.2 ⟨x,hx,rfl⟩,by rw[zct];exact hn,h4⟩
theorem zgm (h:WellF ns r) (h0:0<=kind/\kind<=11/\kind≠10):depth (Gr.over kind text ns r) 0=((depth ns r).1+1,(depth ns r).2):=by
 have hw:=WellF.over (text:=text) h h0;obtain⟨F,a1,a2,a3⟩:=ze9 h.refs h.root h.all;obtain⟨G,b1,b2,b3⟩:=ze9 hw.refs hw.root hw.all;rw[zaz]at b1 b3;have hu:=LongR.unique (fun u x hx=>by have:=hw.refs.succ u x hx;rwa[zaz]at this) b1 (LongR.over (kind:=kind) (text:=text) h.root a1) 0 (by omega);have e1:(depth (Gr.over kind text ns r) 0).1=(depth ns r).1+1:=by
  rw[b2,hu,a2];show((F r+1:Nat):Int)-1=_;omega
 have e2:(depth (Gr.over kind text ns r) 0).2=(depth ns r).2:=by
  rw[Bool.eq_iff_iff,b3,a3];constructor
  ·intro k u hu x hx hc;exact k (u+1) (by omega) (x+1) (by rw[zcb];exact List.mem_map.2 ⟨x,hx,rfl⟩) (zcz hc)
  ·intro k u hu x hx hc;cases u with
   |zero=>
    rw[zcs,List.mem_singleton]at hx;subst hx;exact zc0 r hc
   |succ u=>
    rw[zcb]at hx;obtain⟨y,hy,rfl⟩:=List.mem_map.1 hx;exact k u (by omega) y hy ((zct _ _).1 hc)
 rw[<-e1,<-e2]
theorem zn2 (sclr:Int->Str->Bool) (d:Nat) (x:Nd):formB sclr (shN d x)=formB sclr x:=by
 have e1:∀l:List Nat,(l.map (· +d)).isEmpty=l.isEmpty:=fun l=>by cases l<;>rfl
 unfold formB shN;simp only[List.length_map,e1]
theorem zn3 {sclr:Int->Str->Bool} (h:WellF ns r) (h0:0<=kind/\kind<=11/\kind≠10) (hf:∀x∈ns,formB sclr x=true) (hz:formB sclr ⟨kind,text,false,[],[r+1]⟩=true) (htw:twice ns ns.length=false):
 checkN sclr (Gr.over kind text ns r) 0=if(depth ns r).1+1>32 then 5 else 0:=by
 have hw:=WellF.over (text:=text) h h0;unfold checkN;rw[zgm h h0];rw[if_neg,if_neg,zaz,zn1 h h0,htw]
 ·simp
 ·rw[Bool.not_eq_true,List.any_eq_false];intro i hi;have hi:=List.mem_range.1 hi;by_cases hin:mkd (inKeys (Gr.over kind text ns r)) i=true
  ·have:=hw.one i hi hin;rw[this];simp
  ·rw[Bool.not_eq_true]at hin;unfold mkd at hin;rw[hin];simp
 ·rw[Classical.not_not,List.all_eq_true];intro i hi;have hi:=List.mem_range.1 hi;have h1:mkd (marks (Gr.over kind text ns r) 0) i=true:=(za2 hw.refs hw.root i).2 (hw.all i hi);unfold mkd at h1;rw[h1,Bool.true_and];cases i with
  |zero=>exact hz
  |succ i=>
   rw[zaz]at hi;rw[List.getD_eq_getElem?_getD,zds,List.getElem?_eq_getElem (by omega)];show formB sclr (shN 1 _)=true;rw[zn2];exact hf _ (List.getElem_mem _)
theorem zr4 (is:List Ni) (root:Nat):listN [(is,(root:Int))]=Gr.over 9 [] (is.map Ni.nd) root:=by
 unfold listN lstep Gr.over;simp[push0]
end
end Gr
end Go.Proofs.YtoigpackhninoaaGreatDoor
