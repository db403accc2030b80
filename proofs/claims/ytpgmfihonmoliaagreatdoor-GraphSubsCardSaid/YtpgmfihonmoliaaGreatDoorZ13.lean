import Derived.Test.YtpgmfihonmoliaaGreatDoorGrSame
import Derived.Test.YtpgmfihonmoliaaGreatDoorZ23
namespace Go.Proofs.YtpgmfihonmoliaaGreatDoor
namespace Gr
theorem zod (L:List Nat):∀(l:List Nat) (x:Nat),x<l.length->(L.foldl cstep l).getD x 0=l.getD x 0+L.count x:=by
 induction L with
 |nil=>intro l x _;simp
 |cons y L ih=>
  intro l x a;rw[List.foldl_cons,ih (cstep l y) x (by unfold cstep;simpa using a)];unfold cstep;by_cases h:y=x
  .grind
  .grind
theorem zb4 {ns:List Nd} {root x:Nat} (hx:x<ns.length):(counts ns root).getD x 0=(if x=root then 1 else 0)+(refs ns).count x:=by
 unfold counts;rw[zod _ _ _ (by unfold cstep;simpa using hx)]
 congr 1
 unfold cstep;have e:∀y,(List.replicate ns.length 0).getD y 0=0:=fun y=>by simp[List.getD_eq_getElem?_getD,List.getElem?_replicate];split<;>rfl
 by_cases h:x=root
 .grind
 .grind
theorem zjh (a b:List Nd):refs (a++b)=refs a++refs b:=by unfold refs;rw[List.flatMap_append]
theorem zsh {ns:List Nd} {a b:Nat} (ha:a<ns.length) (hb:b∈succ ns a):b∈refs ns:=by
 unfold succ at hb;rw[List.getElem?_eq_getElem ha]at hb;exact List.mem_flatMap.2 ⟨_,List.getElem_mem ha,hb⟩
theorem zkl {ns:List Nd} {a p b:Nat} (hap:p<a) (ha:a<ns.length) (h1:b∈succ ns a) (h2:b∈succ ns p):2<=(refs ns).count b:=by
 have e:refs ns=refs (ns.take a)++refs (ns.drop a):=by rw[<-zjh,List.take_append_drop]
 rw[e,List.count_append];have c:b∈refs (ns.take a):=by
  unfold succ at h2;rw[List.getElem?_eq_getElem (by omega)]at h2;refine List.mem_flatMap.2 ⟨ns[p],?_,h2⟩;rw[List.mem_take_iff_getElem];exact⟨p,by omega,rfl⟩
 have d:b∈refs (ns.drop a):=by
  unfold succ at h1;rw[List.getElem?_eq_getElem ha]at h1;refine List.mem_flatMap.2 ⟨ns[a],?_,h1⟩;rw[List.mem_drop_iff_getElem];exact⟨0,by omega,by simp⟩
 have:=List.count_pos_iff.2 c;have:=List.count_pos_iff.2 d;omega
section
variable {ns:List Nd} {root:Nat}
theorem Reach.last {sc:Nat->List Nat} {a b:Nat} (h:Reach sc a b):a=b\/∃p,Reach sc a p/\b∈sc p:=by
 induction h with
 |refl=>exact .inl rfl
 |step h1 h2 ih=>
  rcases ih with rfl|⟨p,h3,h4⟩
  .exact .inr ⟨_,.refl _,h1⟩
  .exact .inr ⟨p,.step h1 h3,h4⟩
theorem zeh (hr:Refs ns) (hroot:root<ns.length) (hall:∀v,v<ns.length->Reach (succ ns) root v) (hone:∀x,x<ns.length->mkd (inKeys ns) x=true->(counts ns root).getD x 0=1) {i x:Nat} (hi:i<ns.length) (hk:mkd (inKeys ns) i=true) (hx:x∈succ ns i):¬Reach (succ ns) x i:=by
 intro B;have o:∀a,a<ns.length->∀b,Reach (succ ns) a b->b<ns.length:=fun a u b h=>h.closed (p:=fun a=>a<ns.length) (fun a _ b l=>hr.succ a b l) u
 have m:∀j,Reach (succ ns) i j->mkd (inKeys ns) j=true:=fun j A=>by
  obtain⟨k,c,f⟩:=(zal hr i).1 hk;exact(zal hr j).2 ⟨k,c,f.trans A⟩
 have d:∀j,Reach (succ ns) i j->Reach (succ ns) j i->∃p,Reach (succ ns) i p/\Reach (succ ns) p i/\j∈succ ns p:=by
  intro j c f;have g:Reach (succ ns) x j:=B.trans c;rcases g.last with h4|⟨p,h4,h5⟩
  .subst h4;exact⟨i,.refl _,.refl _,hx⟩
  .exact⟨p,.step hx h4,.step h5 f,h5⟩
 have n:¬(Reach (succ ns) i i/\Reach (succ ns) i i):=by
  have y:∀v,Reach (succ ns) root v->¬(Reach (succ ns) i v/\Reach (succ ns) v i):=by
   intro v z;refine z.closed (p:=fun v=>¬(Reach (succ ns) i v/\Reach (succ ns) v i)) ?_ ?_
   .rintro a u b l ⟨c,f⟩;obtain⟨p,g,h4,h5⟩:=d b c f;have q:=hr.succ a b l;have w:a≠p:=fun e=>u (e▸⟨g,h4⟩)
    have r:=o i hi p g;have s:a<ns.length:=by
     unfold succ at l;rcases Nat.lt_or_ge a ns.length with h|h
     .exact h
     .grind
    have t:=hone b q (m b c);rw[zb4 q]at t;have:2<=(refs ns).count b:=by
     rcases Nat.lt_or_gt_of_ne w with h|h
     .exact zkl h r h5 l
     .exact zkl h s l h5
    omega
   .rintro⟨c,f⟩;obtain⟨p,g,h4,h5⟩:=d root c f;have t:=hone root hroot (m root c);rw[zb4 hroot,if_pos rfl]at t;have:=List.count_pos_iff.2 (zsh (o i hi p g) h5);omega
  exact y i (hall i hi)
 exact n ⟨.refl _,.refl _⟩
open Classical in
theorem zve (hr:Refs ns) (hroot:root<ns.length) (hall:∀v,v<ns.length->Reach (succ ns) root v) (hone:∀x,x<ns.length->mkd (inKeys ns) x=true->(counts ns root).getD x 0=1):∀(f i:Nat),i<ns.length->mkd (inKeys ns) i=true->(List.range ns.length).countP (fun j=>decide (Reach (succ ns) i j))<=f->Tall ns f i:=by
 intro f
 induction f with
 |zero=>
  intro i b _ h;have:0<(List.range ns.length).countP (fun j=>decide (Reach (succ ns) i j)):=List.countP_pos_iff.2 ⟨i,List.mem_range.2 b,by simpa using Reach.refl i⟩;omega
 |succ f ih=>
  intro i b e h x a;have d:=hr.succ i x a;have c:mkd (inKeys ns) x=true:=by
   obtain⟨k,m,l⟩:=(zal hr i).1 e;exact(zal hr x).2 ⟨k,m,l.trans (.one a)⟩
  refine ih x d c ?_;have:=zdh (fun j=>decide (Reach (succ ns) x j)) (fun j=>decide (Reach (succ ns) i j)) (List.range ns.length) (fun j _ g=>by simpa using Reach.step a (by simpa using g)) i (List.mem_range.2 b) (by simpa using zeh hr hroot hall hone b e a) (by simpa using Reach.refl i);omega
theorem zez (hr:Refs ns) (hroot:root<ns.length) (hall:∀v,v<ns.length->Reach (succ ns) root v) (hone:∀x,x<ns.length->mkd (inKeys ns) x=true->(counts ns root).getD x 0=1):∀k∈allKeys ns,k<ns.length/\Tall ns ns.length k:=by
 intro k c;have a:k<ns.length:=by
  obtain⟨y,d,b⟩:=List.mem_flatMap.1 c;exact hr y d k (List.mem_append_left _ b)
 exact⟨a,zve hr hroot hall hone _ k a ((zal hr k).2 ⟨k,c,.refl _⟩) (Nat.le_trans List.countP_le_length (by simp))⟩
end
end Gr
open Gr
open Go.RowKit
theorem zwh {s:Gr.Str} {a:Nat} {z:Gr.Zn} (h:zoneAt s a=some z):(z.z=90/\z.h=0/\z.m=0)\/z.z=43\/z.z=45:=by
 unfold zoneAt at h;split at h
 .grind
 .split at h
  .split at h
   .rename_i hb;injection h with h
    subst h;right;simp only[Bool.and_eq_true,Bool.or_eq_true]at hb;show s.getD a 0=43\/s.getD a 0=45;rcases hb.1 with h1|h1
    .unfold isAt at h1;have:=eq_of_beq h1;left;simp[List.getD_eq_getElem?_getD,this]
    .unfold isAt at h1;have:=eq_of_beq h1;right;simp[List.getD_eq_getElem?_getD,this]
   .cases h
  .cases h
theorem mo_z {s:Gr.Str} {x:Gr.Mo} (h:Gr.rd s=some x):(x.z=0\/(x.z=90/\x.zh=0/\x.zm=0)\/x.z=43\/x.z=45)/\(x.time=false->x.nanos=0):=by
 unfold Gr.rd at h;split at h
 .grind
 .split at h
  .grind
  .split at h
   .split at h
    .cases h
    .split at h
     .grind
     .split at h
      .rename_i z hz;split at h
       .injection h with h;subst h;exact⟨.inr (zwh hz),fun e=>by cases e⟩
       .cases h
      .cases h
   .cases h
theorem zyc {x:Gr.Mo} (h:MoOk x):decide (((moSh x:Nat):Int)=2)=!x.date:=by
 unfold moSh;rcases h.sh with⟨a,b⟩|⟨a,b,_⟩|⟨a,b,_⟩<;>rw[a,b]<;>decide
theorem zql {x:Gr.Mo} (h:MoOk x):prngB ((moSh x:Nat):Int) x.y x.m x.d x.h x.mi x.c x.zh x.zm=okR x:=by
 unfold prngB okR;rw[zyc h]
theorem psecs {x:Gr.Mo} (hz:(x.z=90/\x.zh=0/\x.zm=0)\/x.z=43\/x.z=45):
 (if((x.z.toNat:Nat):Int)=43 then Cal.num x.y x.m x.d*86400+(x.h:Int)*3600+(x.mi:Int)*60+(x.c:Int)-((x.zh:Int)*3600+(x.zm:Int)*60)else Cal.num x.y x.m x.d*86400+(x.h:Int)*3600+(x.mi:Int)*60+(x.c:Int)+((x.zh:Int)*3600+(x.zm:Int)*60))=secs x:=by
 unfold secs offS;rcases hz with⟨h,h1,h2⟩|h|h
 .omega
 .rw[h,if_pos (by decide),if_neg (by decide)];omega
 .rw[h,if_neg (by decide),if_pos rfl];omega
theorem u8_z {z:UInt8} (h:z≠0):((z.toNat:Nat):Int)≠0:=by
 intro e;apply h;apply UInt8.toNat_inj.1;simpa using e
theorem ziw {s:Gr.Str} (hl:s.length<=1073741823) (h:Gr.rd s=none) (w:World):Calls Tryz.prog 58 #[.string ⟨s.toArray⟩] w fun e w'=>Below w.heap.size w w'/\∃(sh y m d h mi c zh zm n z:Nat),e=.returned (.tuple #[.agg #[.int .i64 (sh:Int),.int .i64 (y:Int),.int .i64 (m:Int),.int .i64 (d:Int),.int .i64 (h:Int),.int .i64 (mi:Int),.int .i64 (c:Int),.int .i64 (zh:Int),.int .i64 (zm:Int),.int .i64 (n:Int),.int .u8 (z:Int)],.bool false]):=by
 refine(zlb s hl w).mono ?_;rintro e w' ⟨b,sh,f,g,z,a,_⟩;refine⟨b,sh,f 0,f 1,f 2,f 3,f 4,f 5,f 6,f 7,g,z,?_⟩;rw[a];unfold rdT;rw[h];rfl
theorem zfg {s:Gr.Str} {x:Gr.Mo} (hl:s.length<=1073741823) (h:Gr.rd s=some x) (w:World):Calls Tryz.prog 58 #[.string ⟨s.toArray⟩] w fun e w'=>e=.returned (.tuple #[.agg #[.int .i64 ((moSh x:Nat):Int),.int .i64 (x.y:Int),.int .i64 (x.m:Int),.int .i64 (x.d:Int),.int .i64 (x.h:Int),.int .i64 (x.mi:Int),.int .i64 (x.c:Int),.int .i64 (x.zh:Int),.int .i64 (x.zm:Int),.int .i64 (x.nanos:Int),.int .u8 ((x.z.toNat:Nat):Int)],.bool true])/\Below w.heap.size w w':=by
 refine(zlb s hl w).mono ?_;rintro e w' ⟨j,sh,f,nn,z,i,g⟩;refine⟨?_,j⟩;have a:rdT s=some (moC x):=by unfold rdT;rw[h];rfl
 have b:=g _ a;rw[i,a,<-b];rfl
end Go.Proofs.YtpgmfihonmoliaaGreatDoor
