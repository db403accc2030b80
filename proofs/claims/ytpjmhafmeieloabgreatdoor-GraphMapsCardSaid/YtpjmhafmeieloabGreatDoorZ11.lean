import Derived.Test.YtpjmhafmeieloabGreatDoorZ10
import Derived.Test.YtpjmhafmeieloabGreatDoorZ17
namespace Go.Proofs.YtpjmhafmeieloabGreatDoor
open _root_.Go.Proofs.Tryz
open Go.RowKit
abbrev SK:=Int×Gr.Str
def skv (k:SK):Value:=.agg #[.int .i64 k.1,.string ⟨k.2.toArray⟩]
theorem zh7:(prog.fieldsOf 73).toList.map (fun f=>(f.name,f.type,f.offset))=[("Index",3,0),("Key",9,1)]:=by kernel_rfl
theorem zph:prog.underlying 73=some (.struct (prog.fieldsOf 73)):=by kernel_rfl
theorem zsz:prog.stoodInHeld 73=false:=by kernel_rfl
theorem zh8:prog.plainKey 3=true:=by kernel_rfl
theorem zh9:prog.plainKey 9=true:=by kernel_rfl
theorem zx2 (a b:SK) (w:World):(Op.equal 73 (skv a) (skv b)).run prog w=.ok (a==b) w:=by
 unfold Op.equal Op.maxDepth skv;rw[run_equalIn_struct w 9999 73 _ _ zph zsz];have c:=zh7;obtain⟨i,d⟩:=ex ((prog.fieldsOf 73).toList)
 rw[d]at c ⊢;obtain⟨f,g,rfl⟩:∃f g,i=[f,g]:=by
  rcases i with _|⟨f,_|⟨g,_|⟨h,r⟩⟩⟩
  .simp at c
  .simp at c
  .exact⟨f,g,rfl⟩
  .simp at c
 simp only[List.map_cons,List.map_nil,List.cons.injEq,Prod.mk.injEq,and_true]at c;obtain⟨⟨p,o,n⟩,j,l,k⟩:=c;simp only[Op.eqFields,p,j,o,l,n,k];have m:∀(x y:Value),(part 3 #[x,y] 0).run prog w=.ok x w:=fun x y=>run_part_plain w zh8 rfl
 have q:∀(x y:Value),(part 9 #[x,y] 1).run prog w=.ok y w:=fun x y=>run_part_plain w zh9 rfl
 have e:(a==b)=((a.1==b.1) && (a.2==b.2)):=rfl;have e2:((⟨a.2.toArray⟩:ByteArray).toList==(⟨b.2.toArray⟩:ByteArray).toList)=(a.2==b.2):=by rw[ByteArray.toList_eq,ByteArray.toList_eq]
 rw[e];simp[m,q,run_equalIn_int w 9998 3 .i64 .i64 a.1 b.1 underlying3,run_equalIn_string w 9998 9 _ _ underlying9];by_cases h:a.1=b.1<;>by_cases h2:a.2=b.2<;>simp[h,h2]
structure MapAt (w:World) (D b:Nat) (gl:List (SK×List Nat)) (vs:List Value) (es:Array MapEntry):Prop where
 blk:w.heap[b]? =some (.map es gl.length)
 lv:vs.length=gl.length
 le:es.size=gl.length
 at_:∀i (h:i<es.size) (h1:i<gl.length) (h2:i<vs.length),es[i]=⟨skv gl[i].1,vs[i],i⟩
 own:∀i (h1:i<vs.length) (h2:i<gl.length),OwnRow intL w D 3 vs[i] gl[i].2
 ap:∀i j (h1:i<vs.length) (h2:j<vs.length),i≠j->∀k,vs[i].ownBlock=some k->vs[j].ownBlock≠some k
 nd:(gl.map (·.1)).Nodup
 lo:b<D
 hd:D<=w.heap.size
theorem zpi (em:Bool) (n:Nat) (k:SK) (w:World):(Instr.checkKey em (n+1+1) 73 (skv k)).run prog w=.ok () w:=by
 unfold skv;have a:=zh7;have p:∀(x y:Value),(part 3 #[x,y] 0).run prog w=.ok x w:=fun x y=>run_part_plain w zh8 rfl
 have u:∀(x y:Value),(part 9 #[x,y] 1).run prog w=.ok y w:=fun x y=>run_part_plain w zh9 rfl
 have e:∀(x:Int),(Instr.checkKey em (n+1) 3 (.int .i64 x)).run prog w=.ok () w:=fun x=>by simp[Instr.checkKey,run_underlying underlying3]
 have i:∀(x:ByteArray),(Instr.checkKey em (n+1) 9 (.string x)).run prog w=.ok () w:=fun x=>by simp[Instr.checkKey,run_underlying underlying9]
 generalize hn:n+1=m at e i;rw[Instr.checkKey];simp only[Sem.run_bind,run_underlying zph,Result.andThen_ok];rw[<-Array.forIn_toList];obtain⟨d,c⟩:=ex ((prog.fieldsOf 73).toList)
 rw[c]at a ⊢;obtain⟨f,g,rfl⟩:∃f g,d=[f,g]:=by
  rcases d with _|⟨f,_|⟨g,_|⟨h,r⟩⟩⟩
  .simp at a
  .simp at a
  .exact⟨f,g,rfl⟩
  .simp at a
 simp only[List.map_cons,List.map_nil,List.cons.injEq,Prod.mk.injEq,and_true]at a;obtain⟨⟨t,s,q⟩,j,o,l⟩:=a;simp[List.forIn_cons,t,s,q,j,o,l,p,u,e,i]
theorem zel (em:Bool) (k:SK) (w:World):(Instr.checkKey em 10000 73 (skv k)).run prog w=.ok () w:=zpi em 9998 k w
theorem zx3 (k:SK) (W:World):∀(gl:List (SK×List Nat)) (vs:List Value) (es:List MapEntry) (m:Nat),es.length=gl.length->vs.length=gl.length->(∀i (h:i<es.length) (h1:i<gl.length) (h2:i<vs.length),es[i].key=skv gl[i].1/\es[i].val=vs[i])->
 (∃j,∃(h1:j<gl.length) (h2:j<vs.length),gl[j].1=k/\(Instr.findAsking 73 (skv k) es m).run prog W=.ok (some (m+j,vs[j])) W)\/((∀g∈gl,g.1≠k)/\(Instr.findAsking 73 (skv k) es m).run prog W=.ok none W):=by
 intro gl
 induction gl with
 |nil=>
  intro vs es m h1 h2 _;obtain rfl:=List.eq_nil_of_length_eq_zero h1;exact .inr ⟨by simp,by simp[Instr.findAsking]⟩
 |cons g gl ih=>
  intro vs es m h1 h2 n
  match es,vs,h1,h2 with
  |e::es,v::vs,h1,h2=>
   obtain⟨l,o⟩:=n 0 (by simp) (by simp) (by simp);simp only[List.getElem_cons_zero]at l o;by_cases hk:g.1=k
   .refine .inl ⟨0,by simp,by simp,by simpa using hk,?_⟩;simp[Instr.findAsking,l,zx2,hk,o]
   .have f:(k==g.1)=false:=by simpa using fun e=>hk e.symm
    have p:(Instr.findAsking 73 (skv k) (e::es) m).run prog W=(Instr.findAsking 73 (skv k) es (m+1)).run prog W:=by
     simp[Instr.findAsking,l,zx2,f]
    rw[p];rcases ih vs es (m+1) (by simpa using h1) (by simpa using h2) (fun i a b c=>by
     have:=n (i+1) (by simp;omega) (by simp;omega) (by simp;omega);simpa using this)with⟨j,a,b,c,d⟩|⟨a,b⟩
    .refine .inl ⟨j+1,by simp;omega,by simp;omega,by simpa using c,?_⟩;rw[d];simp;omega
    .grind
section
variable {w w2:World} {D b:Nat} {gl:List (SK×List Nat)} {vs:List Value} {es:Array MapEntry}
theorem MapAt.find (h:MapAt w D b gl vs es) (k:SK) (W:World):(∃j,∃(h1:j<gl.length) (h2:j<vs.length),gl[j].1=k/\(Instr.findKey 73 (skv k) es.toList).run prog W=.ok (some (j,vs[j])) W)\/((∀g∈gl,g.1≠k)/\(Instr.findKey 73 (skv k) es.toList).run prog W=.ok none W):=by
 rw[run_findKey_eq W (k:=73) (by rw[zph])];have:=zx3 k W gl vs es.toList 0 (by simpa using h.le) h.lv (fun i a h1 h2=>by
  have:=h.at_ i (by simpa using a) h1 h2;simp only[Array.getElem_toList,this];exact⟨trivial,trivial⟩)
 simpa using this
theorem MapAt.look (h:MapAt w D b gl vs es) (k:SK):(∃j,∃(h1:j<gl.length) (h2:j<vs.length),gl[j].1=k/\(Instr.lookup 71 (.map (some b)) (skv k) false).run prog w=.ok vs[j] w)\/((∀g∈gl,g.1≠k)/\(Instr.lookup 71 (.map (some b)) (skv k) false).run prog w=.ok (.slice none 0 0) w):=by
 rcases h.find k w with⟨j,h1,h2,a,c⟩|⟨h1,h2⟩
 .refine .inl ⟨j,h1,h2,a,?_⟩;simp[Instr.lookup,run_underlying underlying71,MapKept.run_getObj_map h.blk,zel,c]
 .refine .inr ⟨h1,?_⟩;simp[Instr.lookup,run_underlying underlying71,MapKept.run_getObj_map h.blk,zel,h2]
theorem Kept1.heap {w:World} {g:Nat} (o:Obj):Kept1 g w {w with heap:=w.heap.setIfInBounds g o}:=by
 refine⟨rfl,rfl,rfl,by simp,fun k a=>?_⟩;show(w.heap.setIfInBounds g o)[k]? =_;rw[Array.getElem?_setIfInBounds_ne (Ne.symm a)]
theorem zg4 {w:World} {g:Nat} {o o':Obj} (h:w.heap[g]? =some o):({w with heap:=w.heap.setIfInBounds g o'}:World).heap[g]? =some o':=by
 grind
theorem OwnRow.kept1 {α:Type} {L:Lay α} {w w':World} {base g:Nat} {E:TypeId} {v:Value} {l:List α} (h:OwnRow L w base E v l) (hk:Kept1 g w w') (hg:g<base):OwnRow L w' base E v l:=by
 have hlt:=h.lt;refine⟨h.1,h.2.imp id ?_⟩;rintro⟨e,c,a,f,d,i,r⟩;exact⟨e,c,a,f,d,(hk.block e (by omega)).trans i,r⟩
theorem MapAt.entry (h:MapAt w D b gl vs es) (k:SK):∃(w1:World) (gl1:List (SK×List Nat)) (vs1:List Value) (es1:Array MapEntry) (j:Nat),∃(h1:j<gl1.length) (h2:j<vs1.length),(Instr.mapEntry 71 (.map (some b)) (skv k)).run prog w=.ok (.tuple #[vs1[j],.int .i64 (j:Int)]) w1/\Kept1 b w w1/\MapAt w1 D b gl1 vs1 es1/\gl1[j].1=k/\
 (gl1=gl\/((∀g∈gl,g.1≠k)/\gl1=gl++[(k,[])])):=by
 rcases h.find k w with⟨j,h1,h2,p,x⟩|⟨h1,h2⟩
 .have f:j<es.size:=by rw[h.le];exact h1
  have o:(es[j]?.map (·.key)).getD (skv k)=skv k:=by
   rw[Array.getElem?_eq_getElem f,h.at_ j f h1 h2];simp[p]
  have hborn:(es[j]?.map (·.born)).getD 0=j:=by
   rw[Array.getElem?_eq_getElem f,h.at_ j f h1 h2];simp
  have m:(Instr.keyThatStays (skv k) (skv k)).run prog w=.ok (skv k) w:=by
   have:Instr.sameBits 10000 (skv k) (skv k)=true:=by
    show Instr.sameBits (9999+1) (skv k) (skv k)=true;unfold skv;rw[Instr.sameBits];simp[Instr.sameBits,(MapKept.bytes_beq _ _).2 rfl]
   simp[Instr.keyThatStays,this]
  have n:es.modify j (fun e=>{e with key:=skv k})=es:=by
   apply Array.ext
   .simp
   .intro i a c;rw[Array.getElem_modify];split
    .subst i;rw[h.at_ j f h1 h2,p]
    .rfl
  refine⟨{w with heap:=w.heap.setIfInBounds b (.map es gl.length)},gl,vs,es,j,h1,h2,?_,Kept1.heap _,?_,p,.inl rfl⟩
  .simp[Instr.mapEntry,run_underlying underlying71,MapKept.run_getObj_map h.blk,zel,x,o,m,n,MapKept.run_setObj_map _ h.blk,goInt];rw[Array.getElem?_eq_getElem f,h.at_ j f h1 h2];simp
  .exact⟨zg4 h.blk,h.lv,h.le,h.at_,fun i a c=>(h.own i a c).kept1 (Kept1.heap _) h.lo,h.ap,h.nd,h.lo,by have:=h.hd;simpa using this⟩
 .have hb:=h.lo;refine⟨{w with heap:=w.heap.setIfInBounds b (.map (es.push ⟨skv k,.slice none 0 0,gl.length⟩) (gl.length+1))},gl++[(k,[])],vs++[.slice none 0 0],es.push ⟨skv k,.slice none 0 0,gl.length⟩,gl.length,by simp,by simp[h.lv],?_,Kept1.heap _,?_,by simp,.inr ⟨h1,rfl⟩⟩
  .have:(vs++[Value.slice none 0 0])[gl.length]'(by simp[h.lv])=.slice none 0 0:=by simp[<-h.lv]
   simp[Instr.mapEntry,run_underlying underlying71,MapKept.run_getObj_map h.blk,zel,h2,MapKept.run_setObj_map _ h.blk,goInt,this]
  .refine⟨?_,by simp[h.lv],by simp[h.le],?_,?_,?_,?_,h.lo,by have:=h.hd;simpa using this⟩
   .rw[zg4 h.blk];simp
   .intro i a c d;simp only[Array.size_push,List.length_append,List.length_cons,List.length_nil,h.le]at a c d;by_cases hi:i<gl.length
    .rw[Array.getElem_push_lt (by rw[h.le];exact hi),h.at_ i (by rw[h.le];exact hi) hi (by rw[h.lv];exact hi),List.getElem_append_left hi,List.getElem_append_left (by rw[h.lv];exact hi)]
    .have l:i=gl.length:=by omega
     subst l;have y:(es.push ⟨skv k,.slice none 0 0,gl.length⟩)[gl.length]'(by simp[h.le])=⟨skv k,.slice none 0 0,gl.length⟩:=by
      simp[Array.getElem_push,h.le]
     rw[y];have r:(vs++[Value.slice none 0 0])[gl.length]'(by simp[h.lv])=.slice none 0 0:=by simp[<-h.lv]
     rw[r];simp
   .intro i a c;simp only[List.length_append,List.length_cons,List.length_nil]at a c;by_cases hi:i<gl.length
    .have s:i<vs.length:=by rw[h.lv];exact hi
     rw[List.getElem_append_left s,List.getElem_append_left hi];exact(h.own i s hi).kept1 (Kept1.heap _) h.lo
    .have l:i=gl.length:=by omega
     subst l;have r:(vs++[Value.slice none 0 0])[gl.length]'(by simp[h.lv])=.slice none 0 0:=by simp[<-h.lv]
     rw[r];simp only[List.getElem_concat_length];exact OwnRow.nil
   .intro i j a c q g e;simp only[List.length_append,List.length_cons,List.length_nil]at a c;by_cases hi:i<vs.length
    .rw[List.getElem_append_left hi]at e;by_cases hj:j<vs.length
     .rw[List.getElem_append_left hj];exact h.ap i j hi hj q g e
     .have f:j=vs.length:=by omega
      subst f;simp[Value.ownBlock]
    .have l:i=vs.length:=by omega
     subst l;simp[Value.ownBlock]at e
   .rw[List.map_append,List.nodup_append];refine⟨h.nd,by simp,?_⟩;intro a v c t;simp at t;subst t;obtain⟨g,u,rfl⟩:=List.mem_map.1 v;exact h1 g u
theorem MapAt.store (h:MapAt w D b gl vs es) {j:Nat} (h1:j<gl.length) (h2:j<vs.length) {v2:Value} {l:List Nat} (ho:OwnRow intL w2 D 3 v2 l) (hg:w.grownBy w2 (vs[j]).ownBlock) (hat:v2.ownBlock=(vs[j]).ownBlock\/v2.ownBlock=some w.heap.size):
 ∃w3 es3,(Instr.entryStore 71 (.map (some b)) (.int .i64 (j:Int)) v2).run prog w2=.ok () w3/\Kept1 b w2 w3/\MapAt w3 D b (gl.set j (gl[j].1,l)) (vs.set j v2) es3:=by
 have n:=h.lo;have hsz:=hg.size;have p:j<es.size:=by rw[h.le];exact h1
 have o:w2.heap[b]? =some (.map es gl.length):=(hg.block b (by have:=h.hd;omega) (fun e=>by have:=((h.own j h2 h1).lt b e.symm).1;omega)).trans h.blk;have q:es.findIdx? (fun e=>((e.born:Nat):Int)==(j:Int))=some j:=by
  rw[Array.findIdx?_eq_some_iff_getElem];refine⟨p,by rw[h.at_ j p h1 h2];simp,fun i f=>?_⟩;rw[h.at_ i (by omega) (by omega) (by have:=h.lv;omega)];simp;omega
 have hap:∀i (a:i<vs.length),i≠j->∀k,v2.ownBlock=some k->vs[i].ownBlock≠some k:=by
  intro i a m k e r;rcases hat with h3|h3
  .exact h.ap i j a h2 m k r (h3.symm.trans e)
  .have:=((h.own i a (by have:=h.lv;omega)).lt k r).2;rw[h3]at e;injection e with e;omega
 refine⟨{w2 with heap:=w2.heap.setIfInBounds b (.map (es.modify j fun e=>{e with val:=v2}) gl.length)},es.modify j fun e=>{e with val:=v2},?_,Kept1.heap _,?_⟩
 .simp[Instr.entryStore,MapKept.run_getObj_map o,asInt,asIntOf,q,MapKept.run_setObj_map _ o]
 .refine⟨by rw[zg4 o];simp,by simp[h.lv],by simp[h.le],?_,?_,?_,?_,n,by have:=h.hd;simp;omega⟩
  .intro i a c d;simp only[Array.size_modify,List.length_set]at a c d;rw[Array.getElem_modify];by_cases f:i=j
   .subst f;simp only[if_true,List.getElem_set_self];rw[h.at_ i p h1 h2]
   .rw[if_neg (by omega),List.getElem_set_ne (by omega),List.getElem_set_ne (by omega),h.at_ i (by rw[h.le];simpa using c) (by simpa using c) (by simpa using d)]
  .intro i a c;have s:i<vs.length:=by simpa using a
   have t:i<gl.length:=by simpa using c
   by_cases f:i=j
   .subst f;simp only[List.getElem_set_self];exact ho.kept1 (Kept1.heap _) n
   .simp only[List.getElem_set_ne (Ne.symm f)];exact((h.own i s t).off hg (fun k e r=>h.ap i j s h2 f k e r.symm)).kept1 (Kept1.heap _) n
  .intro i u a c m g e;have s:i<vs.length:=by simpa using a
   have t:u<vs.length:=by simpa using c
   by_cases f:i=j
   .grind
   .simp only[List.getElem_set_ne (Ne.symm f)]at e;by_cases hj:u=j
    .grind
    .simp only[List.getElem_set_ne (Ne.symm hj)];exact h.ap i u s t m g e
  .have:(gl.set j (gl[j].1,l)).map (·.1)=gl.map (·.1):=by
    apply List.ext_getElem
    .simp
    .grind
   rw[this];exact h.nd
end
structure GI (kd:Nat->SK) (P:List Nat) (gl:List (SK×List Nat)):Prop where
 grp:∀g∈gl,g.2=P.filter (fun x=>kd x==g.1)
 all:∀x∈P,∃g∈gl,g.1=kd x
theorem GI.nil (kd:Nat->SK):GI kd [] []:=⟨fun _ h=>(by cases h),fun _ h=>(by cases h)⟩
theorem GI.none {kd:Nat->SK} {P:List Nat} {gl:List (SK×List Nat)} (h:GI kd P gl) {k:SK} (hk:∀g∈gl,g.1≠k):P.filter (fun x=>kd x==k)=[]:=by
 rw[List.filter_eq_nil_iff];intro x d e;obtain⟨g,a,c⟩:=h.all x d;exact hk g a (c.trans (by simpa using e))
theorem GI.next {kd:Nat->SK} {P:List Nat} {gl gl1:List (SK×List Nat)} (h:GI kd P gl) {x j:Nat} (h1:j<gl1.length) (hk:gl1[j].1=kd x) (hor:gl1=gl\/((∀g∈gl,g.1≠kd x)/\gl1=gl++[(kd x,[])])) (hn:(gl1.map (·.1)).Nodup):
 GI kd (P++[x]) (gl1.set j (gl1[j].1,gl1[j].2++[x])):=by
 have k:GI kd P gl1:=by
  rcases hor with rfl|⟨h2,rfl⟩
  .exact h
  .refine⟨fun g hg=>?_,fun y hy=>?_⟩
   .rcases List.mem_append.1 hg with hg|hg
    .exact h.grp g hg
    .simp at hg;subst hg;exact(h.none h2).symm
   .obtain⟨g,hg,f⟩:=h.all y hy;exact⟨g,List.mem_append_left _ hg,f⟩
 have hj:=k.grp _ (List.getElem_mem h1);refine⟨fun g hg=>?_,fun y hy=>?_⟩
 .obtain⟨i,c,rfl⟩:=List.getElem_of_mem hg;simp only[List.length_set]at c;by_cases hij:i=j
  .grind
  .simp only[List.getElem_set_ne (Ne.symm hij),List.filter_append];rw[<-k.grp _ (List.getElem_mem c)];have d:gl1[i].1≠kd x:=fun e=>by
    have hn':=List.pairwise_iff_getElem.1 (show(gl1.map (·.1)).Pairwise (· ≠·)from hn);rcases Nat.lt_or_gt_of_ne hij with h3|h3
    .grind
    .grind
   simp[Ne.symm d]
 .have a:∀g∈gl1,∃g'∈gl1.set j (gl1[j].1,gl1[j].2++[x]),g'.1=g.1:=by
   intro g hg;obtain⟨i,c,rfl⟩:=List.getElem_of_mem hg;refine⟨(gl1.set j (gl1[j].1,gl1[j].2++[x]))[i]'(by simpa using c),List.getElem_mem _,?_⟩;by_cases hij:i=j
   .subst hij;simp
   .grind
  rcases List.mem_append.1 hy with hy|hy
  .obtain⟨g,hg,f⟩:=k.all y hy;obtain⟨g',h3,l⟩:=a g hg;exact⟨g',h3,l.trans f⟩
  .grind
open Gr
open _root_.Go.Lib (hid)
set_option maxRecDepth 100000
set_option maxHeartbeats 16000000
theorem zc4 (ns:List Gr.Nd) (f:Nat) (l:List Nat) (z:Nat):twice1 ns f (l++[z])=(twice1 ns f l || l.any (fun x=>sameF ns f z x)):=by
 induction l with
 |nil=>rfl
 |cons x l ih=>
  rw[List.cons_append];show((l++[z]).any (fun y=>sameF ns f y x) || twice1 ns f (l++[z]))=((l.any (fun y=>sameF ns f y x) || twice1 ns f l) || (x::l).any (fun x=>sameF ns f z x))
  rw[ih];simp only[List.any_append,List.any_cons,List.any_nil,Bool.or_false];cases l.any (fun y=>sameF ns f y x)<;>cases sameF ns f z x<;>cases twice1 ns f l<;>simp
theorem zju (ns:List Gr.Nd) (f:Nat) (l m:List Nat) (h:twice1 ns f l=true):twice1 ns f (l++m)=true:=by
 induction m generalizing l with
 |nil=>simpa using h
 |cons x m ih=>
  rw[show l++x::m=(l++[x])++m from by simp];exact ih _ (by rw[zc4,h];rfl)
theorem zjv (ns:List Gr.Nd) (f:Nat) (l:List Nat) (k:Nat) (h:twice1 ns f (l.take k)=true):twice1 ns f l=true:=by
 have:=zju ns f (l.take k) (l.drop k) h;rwa[List.take_append_drop]at this
def kdOf (ns:List Gr.Nd) (x:Nat):SK:=((ns.getD x ⟨0,[],false,[],[]⟩).kind,(ns.getD x ⟨0,[],false,[],[]⟩).text)
theorem zv0 {ns:List Gr.Nd} {f i j:Nat} (h:sameF ns f i j=true):kdOf ns i=kdOf ns j:=by
 cases f with
 |zero=>cases h
 |succ f=>
  unfold sameF at h;split at h
  .rename_i a b ha hb;have d:ns.getD i ⟨0,[],false,[],[]⟩=a:=by rw[List.getD_eq_getElem?_getD,ha];rfl
   have c:ns.getD j ⟨0,[],false,[],[]⟩=b:=by rw[List.getD_eq_getElem?_getD,hb];rfl
   unfold kdOf;rw[d,c];split at h
   .cases h
   .rename_i hn;simp only[not_or,Classical.not_not]at hn;rw[hn.1,hn.2.1]
  .cases h
theorem MapAt.later {w w':World} {D b:Nat} {gl:List (SK×List Nat)} {vs:List Value} {es:Array MapEntry} (h:MapAt w D b gl vs es) (hb:Below w.heap.size w w'):MapAt w' D b gl vs es:=
 ⟨(hb.block b (by have:=h.lo;have:=h.hd;omega)).trans h.blk,h.lv,h.le,h.at_,fun i a c=>(h.own i a c).later hb,h.ap,h.nd,h.lo,Nat.le_trans h.hd hb.size⟩
theorem MapAt.lookL {w:World} {D b:Nat} {gl:List (SK×List Nat)} {vs:List Value} {es:Array MapEntry} (h:MapAt w D b gl vs es) {kd:Nat->SK} {P:List Nat} (hg:GI kd P gl) (k:SK):
 ∃A c,(Instr.lookup 71 (.map (some b)) (skv k) false).run prog w=.ok (.slice A (P.filter (fun x=>kd x==k)).length c) w/\RowAt intL w w.heap.size A (P.filter (fun x=>kd x==k)):=by
 rcases h.look k with⟨j,a,d,i,l⟩|⟨a,d⟩
 .obtain⟨A,c,g,f⟩:=(h.own j d a).form;have e:=hg.grp _ (List.getElem_mem a);rw[i]at e;rw[e]at g f;exact⟨A,c,by rw[l,g],f⟩
 .rw[hg.none a];exact⟨none,0,d,RowAt.nil⟩
theorem zpj (F:Nat) (A:Option Addr) (c:Nat) (root:Int) (vs:List NV) (ns:List Gr.Nd) (hr:Refs ns) (hl:ns.length<=1073741823) (hks:∀n∈ns,n.keys.length<=1073741823/\n.items.length<=1073741823)
 (hsame:∀x∈allKeys ns,∀y∈allKeys ns,∀W,GAt W W.heap.size A vs ns->Calls prog 45 #[.agg #[.slice A ns.length c,.int .i64 root],.int .i64 x,.int .i64 y] W fun e W'=>e=.returned (.bool (sameF ns F x y))/\Below W.heap.size W W')
 (w:World) (h:GAt w w.heap.size A vs ns):
 Calls prog 29 #[.agg #[.slice A ns.length c,.int .i64 root]] w fun e w'=>e=.returned (.bool (twice ns F))/\Below w.heap.size w w':=by
 have H:=hid h;have au:=hid hsame;have hmm:= @run_makeMap prog;clear h hsame;go_enter func29,ntmps29;go_upto_region 1 with fail;obtain⟨w1,ag⟩:=ex (w.alloc (.cells #[.slice A ns.length c,.int .i64 root] 27))
 (try rw[ag]);have l1:Below w.heap.size w w1:=by rw[<-ag];exact(Below.refl _ _).alloc (Nat.le_refl _) _
 have b1:Blk w1 w.heap.size 27 #[.slice A ns.length c,.int .i64 root]:=by rw[<-ag];exact Blk.new _ _ _
 obtain⟨gb,aa⟩:=ex w.heap.size
 have d:=hid aa;have L1:=hid l1;(try rw[aa]);rw[aa]at b1;have aY:=hid b1;have H1:=hid (H.out.below l1);have g0:w1.cell? ⟨gb,0,none⟩=some (.slice A ns.length c):=b1.cell 0;have o:Hid (gb<w1.heap.size):=hid b1.lt;clear ag aa l1 b1;go_upto_region 2 with fail;clear g0;go_loopw [14] (fun s14 wr=>∃j:Nat,j<=ns.length/\s14=.int .i64 j/\Hid (Below w1.heap.size w1 wr/\(ns.take j).any (fun x=>twice1 ns F x.keys)=false)) (fun s14 _=>ns.length-(intOf s14).toNat)
 case atStart=>exact⟨0,by omega,rfl,hid ⟨Below.refl _ _,by simp⟩⟩
 case round=>
  obtain⟨j,hj,rfl,K⟩:=hrel;obtain⟨J,a2⟩:∃J,J=wr:=⟨_,rfl⟩
  subst a2;by_cases hlt:j<ns.length
  .have aM:(j:Int)<(ns.length:Int):=by omega
   have af:Hid (gb<J.heap.size/\w1.heap.size<=J.heap.size):=hid ⟨by have:=K.out.1.size;have:=o.out;omega,K.out.1.size⟩;obtain⟨ad,ks,is,rfl,X⟩:=(H1.out.below (K.out.1.mono (by have:=o.out;have:=d.out;omega))).node hlt;obtain⟨ka,kn,kc⟩:=ks;obtain⟨ia,bd,ic⟩:=is;have Q:ns[j]∈ns:=List.getElem_mem hlt;obtain⟨bb,a9⟩:=hks _ Q;have aA:Hid (∀x∈ns[j].keys,x∈allKeys ns/\x<ns.length):=hid (fun x hx=>⟨List.mem_flatMap.2 ⟨_,Q,hx⟩,hr _ Q x (List.mem_append_left _ hx)⟩);have ap:Hid ((ns.take (j+1)).any (fun x=>twice1 ns F x.keys)=twice1 ns F ns[j].keys/\(twice1 ns F ns[j].keys=true->twice ns F=true)):=hid ⟨by
    rw[List.take_succ_eq_append_getElem hlt,List.any_append,K.out.2];simp,fun e=>List.any_eq_true.2 ⟨_,Q,e⟩⟩
   obtain⟨n,hn⟩:=ex (ns[j])
   rw[hn]at X bb a9 aA ap;obtain rfl:kn=n.keys.length:=X.kn;obtain rfl:bd=n.items.length:=X.inn;have x0:=X.c0;have x1:=X.c1;have x2:=X.c2;have x3:=X.c3;have x4:=X.c4;have a8:=hid X.keys;clear X Q hn;go_upto_region 5 with fail;obtain⟨B,C⟩:=ex ((J.alloc (.cells #[.int .i64 n.kind,.string ⟨n.text.toArray⟩,.bool n.ord,.slice ka n.keys.length kc,.slice ia n.items.length ic] 40)).alloc (.map #[] 0))
   obtain⟨lb,s⟩:=ex J.heap.size
   have b5:Blk B lb 40 #[.int .i64 n.kind,.string ⟨n.text.toArray⟩,.bool n.ord,.slice ka n.keys.length kc,.slice ia n.items.length ic]:=by rw[<-C,<-s];exact(Blk.new _ _ _).alloc _
   have m5:B.heap[lb+1]? =some (.map #[] 0):=by
    rw[<-C,<-s];have:=heap_alloc_new (J.alloc (.cells #[.int .i64 n.kind,.string ⟨n.text.toArray⟩,.bool n.ord,.slice ka n.keys.length kc,.slice ia n.items.length ic] 40)) (.map #[] 0);rw[World.size_alloc]at this;exact this
   have l5:Below J.heap.size J B:=by rw[<-C];exact((Below.refl _ _).alloc (Nat.le_refl _) _).alloc (by simp) _
   have ab:B.heap.size=lb+1+1:=by rw[<-C,<-s];simp
   obtain⟨q,ac⟩:=ex (lb+1)
   rw[ac]at m5 ab;have an:MapAt B (q+1) q [] [] #[]:=⟨m5,rfl,rfl,fun i h=>by simp at h,fun i h=>by simp at h,fun i j h=>by simp at h,by simp,by omega,by omega⟩
   obtain⟨D,hD⟩:=ex (q+1)
   rw[hD]at an ab;have a:Hid (gb<lb/\lb+1=q/\q+1=D/\J.heap.size=lb/\B.heap.size=D):=hid ⟨by have:=af.out;omega,ac,hD,s,ab⟩;have s3:B.cell? ⟨lb,3,none⟩=some (.slice ka n.keys.length kc):=b5.cell 3;have bc:=hid an;have HB5:=hid b5;have L5:Hid (Below lb J B):=hid (by rw[<-s];exact l5);have bj:Hid (RowAt intL B gb ka n.keys):=hid (by
    have h1:=a8.out;rw[d.out]at h1;exact h1.below (l5.mono (by have:=af.out;omega)))
   rw[C];(try rw[s]);rw[ac];clear C b5 m5 l5 ab ac an hD s x0 x1 x2 x3 x4;go_upto_region 6 with fail;clear s3;go_loopw [22] (fun s22 wr=>∃k:Nat,k<=n.keys.length/\s22=.int .i64 k/\Hid (Below q B wr/\(∃gl vs es,MapAt wr D q gl vs es/\GI (kdOf ns) (n.keys.take k) gl)/\twice1 ns F (n.keys.take k)=false)) (fun s22 _=>n.keys.length-(intOf s22).toNat)
   case atStart=>exact⟨0,by omega,rfl,hid ⟨Below.refl _ _,⟨_,_,_,bc.out,by simpa using GI.nil _⟩,by simp[twice1]⟩⟩
   case round=>
    obtain⟨k,hk,rfl,HV⟩:=hrel;obtain⟨S,bh⟩:∃S,S=wr:=⟨_,rfl⟩
    subst bh;by_cases hlk:k<n.keys.length
    .have aV:(k:Int)<(n.keys.length:Int):=by omega
     obtain⟨x,hx⟩:=ex (n.keys[k])
     obtain⟨av,az⟩:=aA.out n.keys[k] (List.getElem_mem hlk);rw[hx]at av az;have aS:Below gb B S:=HV.out.1.mono (by have:=a.out;omega);obtain⟨adk,rfl,hadk,y0⟩:=zae (bj.out.below aS) hlk;rw[hx]at y0;have hxI:(x:Int)<(ns.length:Int):=by omega
     have g0:S.cell? ⟨gb,0,none⟩=some (.slice (some ad) ns.length c):=(((aY.out.below K.out.1 o.out).below L5.out a.out.1).below HV.out.1 (by have:=a.out;omega)).cell 0;have aH:GAt S w.heap.size (some ad) vs ns:=((H1.out.below (K.out.1.mono (by have:=o.out;have:=d.out;omega))).below (L5.out.mono (by have:=d.out;have:=a.out;omega))).below (HV.out.1.mono (by have:=d.out;have:=a.out;omega));obtain⟨ad',kx,ix,T,hX⟩:=aH.node az;injection T with T
     subst T;have am:kdOf ns x=(ns[x].kind,ns[x].text):=by unfold kdOf;rw[List.getD_eq_getElem?_getD,List.getElem?_eq_getElem az];rfl
     obtain⟨nx,a0⟩:=ex (ns[x])
     rw[a0]at hX am;have z0:=hX.c0;have z1:=hX.c1;have aX:=hid am;have ba:=hid av;have HX:=hid hx;clear hX am a0 av hx aS aH;go_upto_region 8 with fail;go_region_held3 (fun w'=>w'.cell? ⟨gb,0,none⟩=some (.slice (some ad) ns.length c)/\w'.cell? (ad.add (x*5))=some (.int .i64 nx.kind)/\w'.cell? {block:=(ad.add (x*5)).block,off:=(ad.add (x*5)).off+1}=some (.string ⟨nx.text.toArray⟩)) (go_keep) (fail);go_upto_region 9 with fail;obtain⟨U,M⟩:=ex ((S.alloc (.cells #[.int .i64 nx.kind,.string ⟨nx.text.toArray⟩] 73)).drew)
     obtain⟨sb,N⟩:=ex S.heap.size
     have b8:Blk U sb 73 #[.int .i64 nx.kind,.string ⟨nx.text.toArray⟩]:=by rw[<-M,<-N];exact(Blk.new _ _ _).drew
     have l8:Below S.heap.size S U:=by rw[<-M];exact below_drewN ((Below.refl _ _).alloc (Nat.le_refl _) _) 1
     have aR:U.heap.size=sb+1:=by rw[<-M,<-N];simp[World.drew]
     obtain⟨gl,vl,es,hM,V⟩:=HV.out.2.1;have ax:=hM.later l8;obtain⟨AL,cL,f,ao⟩:=ax.lookL V (kdOf ns x);have aw:∀y∈(n.keys.take k).filter (fun y=>kdOf ns y==kdOf ns x),y∈n.keys.take k:=fun y hy=>(List.mem_filter.1 hy).1
     have t:((n.keys.take k).filter (fun y=>kdOf ns y==kdOf ns x)).any (fun y=>sameF ns F x y)=false->(n.keys.take k).any (fun y=>sameF ns F x y)=false:=by
      intro h1;rw[List.any_eq_false]at h1 ⊢;intro y hy h2;exact h1 y (List.mem_filter.2 ⟨hy,by have:=zv0 h2;simp[this]⟩) h2
     have bm:((n.keys.take k).filter (fun y=>kdOf ns y==kdOf ns x)).length<=1073741823:=Nat.le_trans (List.length_filter_le _ _) (Nat.le_trans (List.length_take_le _ _) (by omega));obtain⟨L,hL⟩:=ex ((n.keys.take k).filter (fun y=>kdOf ns y==kdOf ns x))
     rw[hL]at f ao aw t bm;rw[aX.out]at f;unfold skv at f;simp only at f;obtain⟨t0,t1⟩:=cells2 b8;have a7:Hid (∃gl vs es,MapAt U D q gl vs es/\GI (kdOf ns) (n.keys.take k) gl):=hid ⟨gl,vl,es,ax,V⟩;have aN:Hid (S.heap.size=sb/\U.heap.size=sb+1/\D<=sb):=hid ⟨N,aR,by have:=hM.hd;omega⟩;have aE:Hid (Below q B U/\twice1 ns F (n.keys.take k)=false):=hid ⟨HV.out.1.trans (l8.mono (by have:=hM.hd;have:=a.out;omega)),HV.out.2.2⟩;have aQ:=hid b8;have bl:=hid ao;have a5:=hid aw;have a1:=hid t;rw[M];(try rw[N]);clear M N b8 l8 aR hM V ax ao aw t hL g0 z0 z1 y0;go_upto_region 10 with fail;clear f t0 t1;go_loopw [43] (fun s43 wr=>∃r:Nat,r<=L.length/\s43=.int .i64 r/\Hid (Below U.heap.size U wr/\(L.take r).any (fun y=>sameF ns F x y)=false)) (fun s43 _=>L.length-(intOf s43).toNat)
     case atStart=>exact⟨0,by omega,rfl,hid ⟨Below.refl _ _,by simp⟩⟩
     case round=>
      obtain⟨r,hr2,rfl,Z⟩:=hrel;obtain⟨p,bg⟩:∃p,p=wr:=⟨_,rfl⟩
      subst bg;have v:Below q B p:=aE.out.1.trans (Z.out.1.mono (by have:=aN.out;have:=a.out;omega));by_cases hrl:r<L.length
      .have aP:(r:Int)<(L.length:Int):=by omega
       obtain⟨y,hy⟩:=ex (L[r])
       have aB:y∈n.keys.take k:=by rw[<-hy];exact a5.out _ (List.getElem_mem hrl)
       have aT:y∈n.keys:=List.mem_of_mem_take aB;obtain⟨aK,hyn⟩:=aA.out y aT;obtain⟨adl,rfl,_,y0⟩:=zae (bl.out.below Z.out.1) hrl;rw[hy]at y0;have aG:=(((aY.out.below K.out.1 o.out).below L5.out a.out.1).below v (by have:=a.out;omega))
       obtain⟨g0,g1⟩:=cells2 aG;have aL:GAt p p.heap.size (some ad) vs ns:=(((H1.out.below (K.out.1.mono (by have:=o.out;have:=d.out;omega))).below (L5.out.mono (by have:=d.out;have:=a.out;omega))).below (v.mono (by have:=d.out;have:=a.out;omega))).more (by have:=Z.out.1.size;have:=aN.out;have:=a.out;have:=d.out;omega);have HC:=hid (au.out x ba.out y aK p aL);have aF:Hid ((L.take (r+1)).any (fun y=>sameF ns F x y)=sameF ns F x y):=hid (by rw[List.take_succ_eq_append_getElem hrl,List.any_append,Z.out.2,hy];simp);have aC:Hid (sameF ns F x y=true->twice ns F=true):=hid (fun e=>ap.out.2 (by
        refine zjv ns F n.keys (k+1) ?_;rw[zaj _ _ hlk,zc4,HX.out];have:(n.keys.take k).any (fun z=>sameF ns F x z)=true:=List.any_eq_true.2 ⟨y,aB,e⟩;rw[this];simp))
       obtain⟨b,hb⟩:=ex (sameF ns F x y)
       rw[hb]at HC aF aC;have aO:Hid (Below w.heap.size w p):=hid ((L1.out.trans (K.out.1.mono (by have:=o.out;have:=d.out;omega))).trans ((L5.out.mono (by have:=d.out;have:=a.out;omega)).trans (v.mono (by have:=d.out;have:=a.out;omega))));have aJ:Hid (w.heap.size<=p.heap.size/\U.heap.size<=p.heap.size):=hid ⟨aO.out.size,Z.out.1.size⟩;clear aG aL hy aT aB aK hb v;go_wp2_with fail;refine HC.out.mono ?_;rintro e w9 ⟨rfl,ae⟩;cases b with
       |true=>
        have al:Hid (twice ns F=true/\Below w.heap.size w w9):=hid ⟨aC.out rfl,aO.out.trans (ae.mono aJ.out.1)⟩;clear ae;go_wp2;go_ret;rw[al.out.1];exact⟨rfl,al.out.2⟩
       |false=>
        have R:Hid (Below U.heap.size U w9/\(L.take (r+1)).any (fun y=>sameF ns F x y)=false):=hid ⟨Z.out.1.trans (ae.mono aJ.out.2),aF.out⟩;clear ae;go_wp2;go_roundw
        case rel=>exact⟨r+1,by omega,by go_num,R⟩
        case measure=>simp[intOf];omega
      .have aP:¬(r:Int)<(L.length:Int):=by omega
       have aZ:twice1 ns F (n.keys.take (k+1))=false:=by
        rw[zaj _ _ hlk,zc4,HX.out,aE.out.2,a1.out (by
         have:=Z.out.2;rwa[show r=L.length from by omega,List.take_length]at this)]
        rfl
       obtain⟨gl,vl,es,hM,V⟩:=a7.out;have aW:=(hM.later Z.out.1).later ((Below.refl p.heap.size p).alloc (Nat.le_refl _) (.cells #[.int .i64 x] 3));obtain⟨wE,m,ay,bi,jj,Y,q2,hE,I,l,O,E⟩:=aW.entry (kdOf ns x);obtain⟨t0,t1⟩:=cells2 (aQ.out.below Z.out.1 aQ.out.lt);have hq:=(l.own jj q2 Y)
       obtain⟨Aj,cj,u,a4⟩:=hq.form;clear a4;rw[u]at hE hq;rw[aX.out]at hE;unfold skv at hE;simp only at hE;have bf:m[jj].2.length<=1073741823:=by
        have ai:∀g∈gl,g.2.length<=k:=fun g hg=>by
         rw[V.grp g hg];exact Nat.le_trans (List.length_filter_le _ _) (List.length_take_le _ _)
        have:∀g∈m,g.2.length<=k:=by
         rcases E with rfl|⟨_,rfl⟩
         .exact ai
         .intro g hg;rcases List.mem_append.1 hg with hg|hg
          .exact ai g hg
          .simp at hg;subst hg;simp
        have:=this _ (List.getElem_mem Y);omega
       obtain⟨lj,G⟩:=ex (m[jj].2)
       rw[G]at hE hq u bf;have ah:p.heap.size≠q:=by have:=hM.lo;have:=hM.hd;have:=Z.out.1.size;omega
       have P:RowAt intL wE (p.heap.size+1) (some ⟨p.heap.size,0,none⟩) [x]:=RowAt.ofBlk (I.blk (Blk.new p 3 #[.int .i64 x]) ah) rfl (by omega);have HE:Hid (∃(Y:jj<m.length) (q2:jj<ay.length),Kept1 q (p.alloc (.cells #[.int .i64 x] 3)) wE/\MapAt wE D q m ay bi/\m[jj].1=kdOf ns x/\(m=gl\/((∀g∈gl,g.1≠kdOf ns x)/\m=gl++[(kdOf ns x,[])]))/\m[jj].2=lj/\ay[jj]=.slice Aj lj.length cj/\GI (kdOf ns) (n.keys.take k) gl):=hid ⟨Y,q2,I,l,O,E,G,u,V⟩;have a6:=hid aZ;have HQ:=hid hq;have aI:=hid P;have be:Hid (D<=wE.heap.size):=hid l.hd;have a3:=hid v;have bk:Hid (q<=p.heap.size):=hid (by have:=v.size;have:=a.out;omega);clear hM V aW I l O E G u hq P aZ v ah Y q2;go_wp2_with (at_builtin;go_must (refine zaa _ rfl (.tmp 54) (.tmp 56) 38 3 8 rfl intT D (.slice Aj lj.length cj) lj rfl HQ.out _ _ 1 [x] rfl aI.out ?_ ?_ ?_))
       any_goals (first|exact be.out| (simp;omega))
       intro v' w3 aj hg aq;obtain⟨Y,q2,I,l,O,E,G,u,V⟩:=HE.out;rw[<-u]at hg aq;obtain⟨w4,es3,hST,aD,aU⟩:=l.store Y q2 aj hg aq;have ar:=V.next Y O E l.nd;rw[G]at ar;have R:Hid (Below q B w4/\(∃gl vs es,MapAt w4 D q gl vs es/\GI (kdOf ns) (n.keys.take (k+1)) gl)/\twice1 ns F (n.keys.take (k+1))=false):=hid ⟨
        (((a3.out.alloc bk.out _).trans (I.below (Nat.le_refl _))).trans (((l.own jj q2 Y).grown_below hg l.hd).mono (by have:=a.out;omega))).trans (aD.below (Nat.le_refl _)),
        ⟨_,_,_,aU,by rw[zaj _ _ hlk,HX.out];exact ar⟩,a6.out⟩
       clear aj hg aq I l O E G u V aD aU ar Y q2;go_wp2;go_roundw
       case rel=>exact⟨k+1,by omega,by go_num,R⟩
       case measure=>simp[intOf];omega
    .have aV:¬(k:Int)<(n.keys.length:Int):=by omega
     have R:Hid (Below w1.heap.size w1 S/\(ns.take (j+1)).any (fun x=>twice1 ns F x.keys)=false):=hid ⟨(K.out.1.trans (L5.out.mono (by have:=af.out;have:=a.out;omega))).trans (HV.out.1.mono (by have:=af.out;have:=a.out;omega)),by
      have:=HV.out.2.2;rw[show k=n.keys.length from by omega,List.take_length]at this;rw[ap.out.1,this]⟩
     go_wp2;go_roundw
     case rel=>exact⟨j+1,by omega,by go_num,R⟩
     case measure=>simp[intOf];omega
  .have aM:¬(j:Int)<(ns.length:Int):=by omega
   have ak:Hid (twice ns F=false/\Below w.heap.size w J):=hid ⟨by
    have:=K.out.2;rw[show j=ns.length from by omega,List.take_length]at this;exact this,L1.out.trans (K.out.1.mono (by have:=o.out;have:=d.out;omega))⟩
   go_wp2;go_ret;rw[ak.out.1];exact⟨rfl,ak.out.2⟩
def moF (x:Gr.Mo):Nat->Nat:=fun j=>match j with
 | 0=>x.y
 | 1=>x.m
 | 2=>x.d
 | 3=>x.h
 | 4=>x.mi
 | 5=>x.c
 | 6=>x.zh
 |_=>x.zm
def moSh (x:Gr.Mo):Nat:=(if x.date=true then 1 else 0)+(if x.time=true then 2 else 0)
def moC (x:Gr.Mo):Array Value:=mC (moSh x) (moF x) x.nanos x.z.toNat
def rdT (s:Gr.Str):Option (Array Value):=(Gr.rd s).map moC
theorem zg8 {sh nn z:Nat} {f g:Nat->Nat} (h:∀j,j<8->f j=g j):mC sh f nn z=mC sh g nn z:=by
 simp[mC,h 0 (by omega),h 1 (by omega),h 2 (by omega),h 3 (by omega),h 4 (by omega),h 5 (by omega),h 6 (by omega),h 7 (by omega)]
theorem lt8 {P:Nat->Prop} (h:P 0/\P 1/\P 2/\P 3/\P 4/\P 5/\P 6/\P 7):∀j,j<8->P j:=by
 grind
theorem zif {s:Gr.Str} (h:∀h2:2<s.length,(s[2]'h2).toNat=58):dateAt s=none:=by
 unfold dateAt;have:numAt s 0 4=none:=by
  rcases Nat.lt_or_ge s.length 4 with hl|hl
  .exact zc5 s 0 4 (by omega)
  .exact zdk s 0 4 2 (by omega) (by omega) (by rw[(zdx _ 58 (h (by omega))).1];decide)
 rw[this]
theorem zg9 {s:Gr.Str} (hl:2<s.length) (h:(s[2]'hl).toNat≠58):clockAt s 0=none:=by
 unfold clockAt;split
 .rw[if_neg];rw[zbu (p:=0+2) hl rfl];simp;intro e;exact absurd e h
 .rfl
theorem zv9 {s:Gr.Str} (hd:dateAt s=none):ClockT s 0 (fun _=>0) 0 (rdT s) where
 no h:=by unfold rdT Gr.rd;rw[hd];simp only;rw[h];rfl
 yes k f' h h3 h4 h5 hf:=by
  unfold rdT Gr.rd finO;rw[hd];simp only;rw[h];simp only;by_cases hs:k.stop=s.length
  .rw[if_pos hs,if_pos hs];show some _=some _
   congr 1
   exact zg8 (lt8 ⟨(hf 0 (by omega)).symm,(hf 1 (by omega)).symm,(hf 2 (by omega)).symm,h3.symm,h4.symm,h5.symm,(hf 6 (by omega)).symm,(hf 7 (by omega)).symm⟩)
  .grind
theorem zwa {s:Gr.Str} {g:Nat->Nat} (hd:dateAt s=some (g 0,g 1,g 2)) (h10:s.length≠10) (hsep:(isAt s 10 84 || isAt s 10 32)=true) (h6:g 6=0) (h7:g 7=0):ClockT s 1 g 11 (rdT s) where
 no h:=by unfold rdT Gr.rd;rw[hd];simp only;rw[if_neg h10,if_pos hsep,h];rfl
 yes k f' h h3 h4 h5 hf:=by
  unfold rdT Gr.rd finO;rw[hd];simp only;rw[if_neg h10,if_pos hsep,h];simp only;have hle:=zk5 (kh:=k.h) (km:=k.m) (kc:=k.s) (kf:=k.nanos) (ks:=k.stop) h;by_cases hs:k.stop=s.length
  .rw[if_pos hs,if_pos hs];show some _=some _
   congr 1
   exact zg8 (lt8 ⟨(hf 0 (by omega)).symm,(hf 1 (by omega)).symm,(hf 2 (by omega)).symm,h3.symm,h4.symm,h5.symm,((hf 6 (by omega)).trans h6).symm,((hf 7 (by omega)).trans h7).symm⟩)
  .rw[if_neg hs,if_neg hs,if_pos ⟨by trivial,by omega⟩];cases hz:zoneAt s k.stop with
   |none=>rfl
   |some z=>
    simp only;by_cases hzs:z.stop=s.length
    .rw[if_pos hzs,if_pos hzs];show some _=some _
     congr 1
     exact zg8 (lt8 ⟨(hf 0 (by omega)).symm,(hf 1 (by omega)).symm,(hf 2 (by omega)).symm,h3.symm,h4.symm,h5.symm,rfl,rfl⟩)
    .rw[if_neg hzs,if_neg hzs];rfl
end Go.Proofs.YtpjmhafmeieloabGreatDoor
