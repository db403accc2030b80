import Derived.Test.YtoigpackhninoaaGreatDoorZ09
namespace Go.Proofs.YtoigpackhninoaaGreatDoor
open _root_.Go.Proofs.Tryz
open Go.RowKit
abbrev SK:=Int×Gr.Str
def skv (k:SK):Value:=.agg #[.int .i64 k.1,.string ⟨k.2.toArray⟩]
theorem zgc:(prog.fieldsOf 91).toList.map (fun f=>(f.name,f.type,f.offset))=[("Index",3,0),("Key",9,1)]:=by kernel_rfl
theorem zlg:prog.underlying 91=some (.struct (prog.fieldsOf 91)):=by kernel_rfl
theorem zoj:prog.stoodInHeld 91=false:=by kernel_rfl
theorem zgd:prog.plainKey 3=true:=by kernel_rfl
theorem zge:prog.plainKey 9=true:=by kernel_rfl
theorem zsu (a b:SK) (w:World):(Op.equal 91 (skv a) (skv b)).run prog w=.ok (a==b) w:=by
 unfold Op.equal Op.maxDepth skv;rw[run_equalIn_struct w 9999 91 _ _ zlg zoj];have hf:=zgc;obtain⟨fs,hfs⟩:=ex ((prog.fieldsOf 91).toList)
 rw[hfs]at hf ⊢;obtain⟨f,g,rfl⟩:∃f g,fs=[f,g]:=by
  rcases fs with _|⟨f,_|⟨g,_|⟨h,r⟩⟩⟩
  ·simp at hf
  ·simp at hf
  ·exact⟨f,g,rfl⟩
  ·simp at hf
 simp only[List.map_cons,List.map_nil,List.cons.injEq,Prod.mk.injEq,and_true]at hf;obtain⟨⟨f1,f2,f3⟩,g1,g2,g3⟩:=hf;simp only[Op.eqFields,f1,g1,f2,g2,f3,g3];have p1:∀(x y:Value),(part 3 #[x,y] 0).run prog w=.ok x w:=fun x y=>run_part_plain w zgd rfl
 have p2:∀(x y:Value),(part 9 #[x,y] 1).run prog w=.ok y w:=fun x y=>run_part_plain w zge rfl
 have e:(a==b)=((a.1==b.1) && (a.2==b.2)):=rfl;have e2:((⟨a.2.toArray⟩:ByteArray).toList==(⟨b.2.toArray⟩:ByteArray).toList)=(a.2==b.2):=by rw[ByteArray.toList_eq,ByteArray.toList_eq]
 rw[e];simp[p1,p2,run_equalIn_int w 9998 3 .i64 .i64 a.1 b.1 underlying3,run_equalIn_string w 9998 9 _ _ underlying9];by_cases h:a.1=b.1<;>by_cases h2:a.2=b.2<;>simp[h,h2]
structure MapAt (w:World) (D b:Nat) (gl:List (SK×List Nat)) (vs:List Value) (es:Array MapEntry):Prop where
 blk:w.heap[b]? =some (.map es gl.length)
 lv:vs.length=gl.length
 le:es.size=gl.length
 at_:∀i (h:i<es.size) (h1:i<gl.length) (h2:i<vs.length),es[i]=⟨skv gl[i].1,vs[i],i⟩
 own:∀i (h1:i<vs.length) (h2:i<gl.length),OwnRow intL w D 3 vs[i] gl[i].2
 ap:∀i j (h1:i<vs.length) (h2:j<vs.length),i≠j->∀k,vs[i].ownBlock=some k->vs[j].ownBlock≠some k
 nd:(gl.map (·.1)).Nodup
 lo:b<D
 hd:D<=w.heap.size
theorem zlh (em:Bool) (n:Nat) (k:SK) (w:World):(Instr.checkKey em (n+1+1) 91 (skv k)).run prog w=.ok () w:=by
 unfold skv;have hf:=zgc;have p1:∀(x y:Value),(part 3 #[x,y] 0).run prog w=.ok x w:=fun x y=>run_part_plain w zgd rfl
 have p2:∀(x y:Value),(part 9 #[x,y] 1).run prog w=.ok y w:=fun x y=>run_part_plain w zge rfl
 have c1:∀(x:Int),(Instr.checkKey em (n+1) 3 (.int .i64 x)).run prog w=.ok () w:=fun x=>by simp[Instr.checkKey,run_underlying underlying3]
 have c2:∀(x:ByteArray),(Instr.checkKey em (n+1) 9 (.string x)).run prog w=.ok () w:=fun x=>by simp[Instr.checkKey,run_underlying underlying9]
 generalize hn:n+1=m at c1 c2;rw[Instr.checkKey];simp only[Sem.run_bind,run_underlying zlg,Result.andThen_ok];rw[<-Array.forIn_toList];obtain⟨fs,hfs⟩:=ex ((prog.fieldsOf 91).toList)
 rw[hfs]at hf ⊢;obtain⟨f,g,rfl⟩:∃f g,fs=[f,g]:=by
  rcases fs with _|⟨f,_|⟨g,_|⟨h,r⟩⟩⟩
  ·simp at hf
  ·simp at hf
  ·exact⟨f,g,rfl⟩
  ·simp at hf
 simp only[List.map_cons,List.map_nil,List.cons.injEq,Prod.mk.injEq,and_true]at hf;obtain⟨⟨f1,f2,f3⟩,g1,g2,g3⟩:=hf;simp[List.forIn_cons,f1,f2,f3,g1,g2,g3,p1,p2,c1,c2]
theorem zdo (em:Bool) (k:SK) (w:World):(Instr.checkKey em 10000 91 (skv k)).run prog w=.ok () w:=zlh em 9998 k w
theorem zsv (k:SK) (W:World):∀(gl:List (SK×List Nat)) (vs:List Value) (es:List MapEntry) (m:Nat),es.length=gl.length->vs.length=gl.length->(∀i (h:i<es.length) (h1:i<gl.length) (h2:i<vs.length),es[i].key=skv gl[i].1/\es[i].val=vs[i])->
 (∃j,∃(h1:j<gl.length) (h2:j<vs.length),gl[j].1=k/\(Instr.findAsking 91 (skv k) es m).run prog W=.ok (some (m+j,vs[j])) W)\/((∀g∈gl,g.1≠k)/\(Instr.findAsking 91 (skv k) es m).run prog W=.ok none W):=by
 intro gl
 induction gl with
 |nil=>
  intro vs es m h1 h2 _;obtain rfl:=List.eq_nil_of_length_eq_zero h1;exact .inr ⟨by simp,by simp[Instr.findAsking]⟩
 |cons g gl ih=>
  intro vs es m h1 h2 h3
  match es,vs,h1,h2 with
  |e::es,v::vs,h1,h2=>
   obtain⟨e1,e2⟩:=h3 0 (by simp) (by simp) (by simp);simp only[List.getElem_cons_zero]at e1 e2;by_cases hk:g.1=k
   ·refine .inl ⟨0,by simp,by simp,by simpa using hk,?_⟩;simp[Instr.findAsking,e1,zsu,hk,e2]
   ·have hne:(k==g.1)=false:=by simpa using fun e=>hk e.symm
    have hr:(Instr.findAsking 91 (skv k) (e::es) m).run prog W=(Instr.findAsking 91 (skv k) es (m+1)).run prog W:=by
     simp[Instr.findAsking,e1,zsu,hne]
    rw[hr];rcases ih vs es (m+1) (by simpa using h1) (by simpa using h2) (fun i a b c=>by
     have:=h3 (i+1) (by simp;omega) (by simp;omega) (by simp;omega);simpa using this)with⟨j,a,b,c,d⟩|⟨a,b⟩
    ·refine .inl ⟨j+1,by simp;omega,by simp;omega,by simpa using c,?_⟩;rw[d];simp;omega
    ·grind
section
variable {w w2:World} {D b:Nat} {gl:List (SK×List Nat)} {vs:List Value} {es:Array MapEntry}
theorem MapAt.find (h:MapAt w D b gl vs es) (k:SK) (W:World):(∃j,∃(h1:j<gl.length) (h2:j<vs.length),gl[j].1=k/\(Instr.findKey 91 (skv k) es.toList).run prog W=.ok (some (j,vs[j])) W)\/((∀g∈gl,g.1≠k)/\(Instr.findKey 91 (skv k) es.toList).run prog W=.ok none W):=by
 rw[run_findKey_eq W (k:=91) (by rw[zlg])];have:=zsv k W gl vs es.toList 0 (by simpa using h.le) h.lv (fun i h0 h1 h2=>by
  have:=h.at_ i (by simpa using h0) h1 h2;simp only[Array.getElem_toList,this];exact⟨trivial,trivial⟩)
 simpa using this
theorem MapAt.look (h:MapAt w D b gl vs es) (k:SK):(∃j,∃(h1:j<gl.length) (h2:j<vs.length),gl[j].1=k/\(Instr.lookup 89 (.map (some b)) (skv k) false).run prog w=.ok vs[j] w)\/((∀g∈gl,g.1≠k)/\(Instr.lookup 89 (.map (some b)) (skv k) false).run prog w=.ok (.slice none 0 0) w):=by
 rcases h.find k w with⟨j,h1,h2,h3,h4⟩|⟨h1,h2⟩
 ·refine .inl ⟨j,h1,h2,h3,?_⟩;simp[Instr.lookup,run_underlying underlying89,MapKept.run_getObj_map h.blk,zdo,h4]
 ·refine .inr ⟨h1,?_⟩;simp[Instr.lookup,run_underlying underlying89,MapKept.run_getObj_map h.blk,zdo,h2]
theorem Kept1.heap {w:World} {g:Nat} (o:Obj):Kept1 g w {w with heap:=w.heap.setIfInBounds g o}:=by
 refine⟨rfl,rfl,rfl,by simp,fun k hk=>?_⟩;show(w.heap.setIfInBounds g o)[k]? =_;rw[Array.getElem?_setIfInBounds_ne (Ne.symm hk)]
theorem zfg {w:World} {g:Nat} {o o':Obj} (h:w.heap[g]? =some o):({w with heap:=w.heap.setIfInBounds g o'}:World).heap[g]? =some o':=by
 grind
theorem OwnRow.kept1 {α:Type} {L:Lay α} {w w':World} {base g:Nat} {E:TypeId} {v:Value} {l:List α} (h:OwnRow L w base E v l) (hk:Kept1 g w w') (hg:g<base):OwnRow L w' base E v l:=by
 have hlt:=h.lt;refine⟨h.1,h.2.imp id ?_⟩;rintro⟨g',cap,cur,hv,hge,hh,r⟩;exact⟨g',cap,cur,hv,hge,(hk.block g' (by omega)).trans hh,r⟩
theorem MapAt.entry (h:MapAt w D b gl vs es) (k:SK):∃(w1:World) (gl1:List (SK×List Nat)) (vs1:List Value) (es1:Array MapEntry) (j:Nat),∃(h1:j<gl1.length) (h2:j<vs1.length),(Instr.mapEntry 89 (.map (some b)) (skv k)).run prog w=.ok (.tuple #[vs1[j],.int .i64 (j:Int)]) w1/\Kept1 b w w1/\MapAt w1 D b gl1 vs1 es1/\gl1[j].1=k/\
 (gl1=gl\/((∀g∈gl,g.1≠k)/\gl1=gl++[(k,[])])):=by
 rcases h.find k w with⟨j,h1,h2,h3,h4⟩|⟨h1,h2⟩
 ·have hje:j<es.size:=by rw[h.le];exact h1
  have hkey:(es[j]?.map (·.key)).getD (skv k)=skv k:=by
   rw[Array.getElem?_eq_getElem hje,h.at_ j hje h1 h2];simp[h3]
  have hborn:(es[j]?.map (·.born)).getD 0=j:=by
   rw[Array.getElem?_eq_getElem hje,h.at_ j hje h1 h2];simp
  have hstay:(Instr.keyThatStays (skv k) (skv k)).run prog w=.ok (skv k) w:=by
   have:Instr.sameBits 10000 (skv k) (skv k)=true:=by
    show Instr.sameBits (9999+1) (skv k) (skv k)=true;unfold skv;rw[Instr.sameBits];simp[Instr.sameBits,(MapKept.bytes_beq _ _).2 rfl]
   simp[Instr.keyThatStays,this]
  have hmod:es.modify j (fun e=>{e with key:=skv k})=es:=by
   apply Array.ext
   ·simp
   ·intro i a c;rw[Array.getElem_modify];split
    ·subst i;rw[h.at_ j hje h1 h2,h3]
    ·rfl
  refine⟨{w with heap:=w.heap.setIfInBounds b (.map es gl.length)},gl,vs,es,j,h1,h2,?_,Kept1.heap _,?_,h3,.inl rfl⟩
  ·simp[Instr.mapEntry,run_underlying underlying89,MapKept.run_getObj_map h.blk,zdo,h4,hkey,hstay,hmod,MapKept.run_setObj_map _ h.blk,goInt];rw[Array.getElem?_eq_getElem hje,h.at_ j hje h1 h2];simp
  ·exact⟨zfg h.blk,h.lv,h.le,h.at_,fun i a c=>(h.own i a c).kept1 (Kept1.heap _) h.lo,h.ap,h.nd,h.lo,by have:=h.hd;simpa using this⟩
 ·have hb:=h.lo;refine⟨{w with heap:=w.heap.setIfInBounds b (.map (es.push ⟨skv k,.slice none 0 0,gl.length⟩) (gl.length+1))},gl++[(k,[])],vs++[.slice none 0 0],es.push ⟨skv k,.slice none 0 0,gl.length⟩,gl.length,by simp,by simp[h.lv],?_,Kept1.heap _,?_,by simp,.inr ⟨h1,rfl⟩⟩
  ·have:(vs++[Value.slice none 0 0])[gl.length]'(by simp[h.lv])=.slice none 0 0:=by simp[<-h.lv]
   simp[Instr.mapEntry,run_underlying underlying89,MapKept.run_getObj_map h.blk,zdo,h2,MapKept.run_setObj_map _ h.blk,goInt,this]
  ·refine⟨?_,by simp[h.lv],by simp[h.le],?_,?_,?_,?_,h.lo,by have:=h.hd;simpa using this⟩
   ·rw[zfg h.blk];simp
   ·intro i a c d;simp only[Array.size_push,List.length_append,List.length_cons,List.length_nil,h.le]at a c d;by_cases hi:i<gl.length
    ·rw[Array.getElem_push_lt (by rw[h.le];exact hi),h.at_ i (by rw[h.le];exact hi) hi (by rw[h.lv];exact hi),List.getElem_append_left hi,List.getElem_append_left (by rw[h.lv];exact hi)]
    ·have hie:i=gl.length:=by omega
     subst hie;have e1:(es.push ⟨skv k,.slice none 0 0,gl.length⟩)[gl.length]'(by simp[h.le])=⟨skv k,.slice none 0 0,gl.length⟩:=by
      simp[Array.getElem_push,h.le]
     rw[e1];have e2:(vs++[Value.slice none 0 0])[gl.length]'(by simp[h.lv])=.slice none 0 0:=by simp[<-h.lv]
     rw[e2];simp
   ·intro i a c;simp only[List.length_append,List.length_cons,List.length_nil]at a c;by_cases hi:i<gl.length
    ·have hv:i<vs.length:=by rw[h.lv];exact hi
     rw[List.getElem_append_left hv,List.getElem_append_left hi];exact(h.own i hv hi).kept1 (Kept1.heap _) h.lo
    ·have hie:i=gl.length:=by omega
     subst hie;have e2:(vs++[Value.slice none 0 0])[gl.length]'(by simp[h.lv])=.slice none 0 0:=by simp[<-h.lv]
     rw[e2];simp only[List.getElem_concat_length];exact OwnRow.nil
   ·intro i j a c hne g e;simp only[List.length_append,List.length_cons,List.length_nil]at a c;by_cases hi:i<vs.length
    ·rw[List.getElem_append_left hi]at e;by_cases hj:j<vs.length
     ·rw[List.getElem_append_left hj];exact h.ap i j hi hj hne g e
     ·have hje:j=vs.length:=by omega
      subst hje;simp[Value.ownBlock]
    ·have hie:i=vs.length:=by omega
     subst hie;simp[Value.ownBlock]at e
   ·rw[List.map_append,List.nodup_append];refine⟨h.nd,by simp,?_⟩;intro a ha c hc;simp at hc;subst hc;obtain⟨g,hg,rfl⟩:=List.mem_map.1 ha;exact h1 g hg
theorem MapAt.store (h:MapAt w D b gl vs es) {j:Nat} (h1:j<gl.length) (h2:j<vs.length) {v2:Value} {l:List Nat} (ho:OwnRow intL w2 D 3 v2 l) (hg:w.grownBy w2 (vs[j]).ownBlock) (hat:v2.ownBlock=(vs[j]).ownBlock\/v2.ownBlock=some w.heap.size):
 ∃w3 es3,(Instr.entryStore 89 (.map (some b)) (.int .i64 (j:Int)) v2).run prog w2=.ok () w3/\Kept1 b w2 w3/\MapAt w3 D b (gl.set j (gl[j].1,l)) (vs.set j v2) es3:=by
 have hlo:=h.lo;have hsz:=hg.size;have hje:j<es.size:=by rw[h.le];exact h1
 have hb2:w2.heap[b]? =some (.map es gl.length):=(hg.block b (by have:=h.hd;omega) (fun e=>by have:=((h.own j h2 h1).lt b e.symm).1;omega)).trans h.blk;have hidx:es.findIdx? (fun e=>((e.born:Nat):Int)==(j:Int))=some j:=by
  rw[Array.findIdx?_eq_some_iff_getElem];refine⟨hje,by rw[h.at_ j hje h1 h2];simp,fun i hi=>?_⟩;rw[h.at_ i (by omega) (by omega) (by have:=h.lv;omega)];simp;omega
 have hap:∀i (a:i<vs.length),i≠j->∀k,v2.ownBlock=some k->vs[i].ownBlock≠some k:=by
  intro i a hne k e e2;rcases hat with h3|h3
  ·exact h.ap i j a h2 hne k e2 (h3.symm.trans e)
  ·have:=((h.own i a (by have:=h.lv;omega)).lt k e2).2;rw[h3]at e;injection e with e;omega
 refine⟨{w2 with heap:=w2.heap.setIfInBounds b (.map (es.modify j fun e=>{e with val:=v2}) gl.length)},es.modify j fun e=>{e with val:=v2},?_,Kept1.heap _,?_⟩
 ·simp[Instr.entryStore,MapKept.run_getObj_map hb2,asInt,asIntOf,hidx,MapKept.run_setObj_map _ hb2]
 ·refine⟨by rw[zfg hb2];simp,by simp[h.lv],by simp[h.le],?_,?_,?_,?_,hlo,by have:=h.hd;simp;omega⟩
  ·intro i a c d;simp only[Array.size_modify,List.length_set]at a c d;rw[Array.getElem_modify];by_cases hi:i=j
   ·subst hi;simp only[if_true,List.getElem_set_self];rw[h.at_ i hje h1 h2]
   ·rw[if_neg (by omega),List.getElem_set_ne (by omega),List.getElem_set_ne (by omega),h.at_ i (by rw[h.le];simpa using c) (by simpa using c) (by simpa using d)]
  ·intro i a c;have a':i<vs.length:=by simpa using a
   have c':i<gl.length:=by simpa using c
   by_cases hi:i=j
   ·subst hi;simp only[List.getElem_set_self];exact ho.kept1 (Kept1.heap _) hlo
   ·simp only[List.getElem_set_ne (Ne.symm hi)];exact((h.own i a' c').off hg (fun k e e2=>h.ap i j a' h2 hi k e e2.symm)).kept1 (Kept1.heap _) hlo
  ·intro i i' a c hne g e;have a':i<vs.length:=by simpa using a
   have c':i'<vs.length:=by simpa using c
   by_cases hi:i=j
   ·grind
   ·simp only[List.getElem_set_ne (Ne.symm hi)]at e;by_cases hj:i'=j
    ·grind
    ·simp only[List.getElem_set_ne (Ne.symm hj)];exact h.ap i i' a' c' hne g e
  ·have:(gl.set j (gl[j].1,l)).map (·.1)=gl.map (·.1):=by
    apply List.ext_getElem
    ·simp
    ·grind
   rw[this];exact h.nd
end
structure GI (kd:Nat->SK) (P:List Nat) (gl:List (SK×List Nat)):Prop where
 grp:∀g∈gl,g.2=P.filter (fun x=>kd x==g.1)
 all:∀x∈P,∃g∈gl,g.1=kd x
theorem GI.nil (kd:Nat->SK):GI kd [] []:=⟨fun _ h=>(by cases h),fun _ h=>(by cases h)⟩
theorem GI.none {kd:Nat->SK} {P:List Nat} {gl:List (SK×List Nat)} (h:GI kd P gl) {k:SK} (hk:∀g∈gl,g.1≠k):P.filter (fun x=>kd x==k)=[]:=by
 rw[List.filter_eq_nil_iff];intro x hx e;obtain⟨g,hg,he⟩:=h.all x hx;exact hk g hg (he.trans (by simpa using e))
theorem GI.next {kd:Nat->SK} {P:List Nat} {gl gl1:List (SK×List Nat)} (h:GI kd P gl) {x j:Nat} (h1:j<gl1.length) (hk:gl1[j].1=kd x) (hor:gl1=gl\/((∀g∈gl,g.1≠kd x)/\gl1=gl++[(kd x,[])])) (hn:(gl1.map (·.1)).Nodup):
 GI kd (P++[x]) (gl1.set j (gl1[j].1,gl1[j].2++[x])):=by
 have hG:GI kd P gl1:=by
  rcases hor with rfl|⟨h2,rfl⟩
  ·exact h
  ·refine⟨fun g hg=>?_,fun y hy=>?_⟩
   ·rcases List.mem_append.1 hg with hg|hg
    ·exact h.grp g hg
    ·simp at hg;subst hg;exact(h.none h2).symm
   ·obtain⟨g,hg,he⟩:=h.all y hy;exact⟨g,List.mem_append_left _ hg,he⟩
 have hj:=hG.grp _ (List.getElem_mem h1);refine⟨fun g hg=>?_,fun y hy=>?_⟩
 ·obtain⟨i,hi,rfl⟩:=List.getElem_of_mem hg;simp only[List.length_set]at hi;by_cases hij:i=j
  ·grind
  ·simp only[List.getElem_set_ne (Ne.symm hij),List.filter_append];rw[<-hG.grp _ (List.getElem_mem hi)];have hne:gl1[i].1≠kd x:=fun e=>by
    have hn':=List.pairwise_iff_getElem.1 (show(gl1.map (·.1)).Pairwise (· ≠·)from hn);rcases Nat.lt_or_gt_of_ne hij with h3|h3
    ·grind
    ·grind
   simp[Ne.symm hne]
 ·have hold:∀g∈gl1,∃g'∈gl1.set j (gl1[j].1,gl1[j].2++[x]),g'.1=g.1:=by
   intro g hg;obtain⟨i,hi,rfl⟩:=List.getElem_of_mem hg;refine⟨(gl1.set j (gl1[j].1,gl1[j].2++[x]))[i]'(by simpa using hi),List.getElem_mem _,?_⟩;by_cases hij:i=j
   ·subst hij;simp
   ·grind
  rcases List.mem_append.1 hy with hy|hy
  ·obtain⟨g,hg,he⟩:=hG.all y hy;obtain⟨g',h3,h4⟩:=hold g hg;exact⟨g',h3,h4.trans he⟩
  ·grind
open Gr
open _root_.Go.Lib (hid)
set_option maxRecDepth 100000
set_option maxHeartbeats 16000000
theorem zch (ns:List Gr.Nd) (f:Nat) (l:List Nat) (z:Nat):twice1 ns f (l++[z])=(twice1 ns f l || l.any (fun x=>sameF ns f z x)):=by
 induction l with
 |nil=>rfl
 |cons x l ih=>
  rw[List.cons_append];show((l++[z]).any (fun y=>sameF ns f y x) || twice1 ns f (l++[z]))=((l.any (fun y=>sameF ns f y x) || twice1 ns f l) || (x::l).any (fun x=>sameF ns f z x))
  rw[ih];simp only[List.any_append,List.any_cons,List.any_nil,Bool.or_false];cases l.any (fun y=>sameF ns f y x)<;>cases sameF ns f z x<;>cases twice1 ns f l<;>simp
theorem zhl (ns:List Gr.Nd) (f:Nat) (l m:List Nat) (h:twice1 ns f l=true):twice1 ns f (l++m)=true:=by
 induction m generalizing l with
 |nil=>simpa using h
 |cons x m ih=>
  rw[show l++x::m=(l++[x])++m from by simp];exact ih _ (by rw[zch,h];rfl)
theorem zhm (ns:List Gr.Nd) (f:Nat) (l:List Nat) (k:Nat) (h:twice1 ns f (l.take k)=true):twice1 ns f l=true:=by
 have:=zhl ns f (l.take k) (l.drop k) h;rwa[List.take_append_drop]at this
def kdOf (ns:List Gr.Nd) (x:Nat):SK:=((ns.getD x ⟨0,[],false,[],[]⟩).kind,(ns.getD x ⟨0,[],false,[],[]⟩).text)
theorem zq4 {ns:List Gr.Nd} {f i j:Nat} (h:sameF ns f i j=true):kdOf ns i=kdOf ns j:=by
 cases f with
 |zero=>cases h
 |succ f=>
  unfold sameF at h;split at h
  ·rename_i a b ha hb;have e1:ns.getD i ⟨0,[],false,[],[]⟩=a:=by rw[List.getD_eq_getElem?_getD,ha];rfl
   have e2:ns.getD j ⟨0,[],false,[],[]⟩=b:=by rw[List.getD_eq_getElem?_getD,hb];rfl
   unfold kdOf;rw[e1,e2];split at h
   ·cases h
   ·rename_i hn;simp only[not_or,Classical.not_not]at hn;rw[hn.1,hn.2.1]
  ·cases h
theorem MapAt.later {w w':World} {D b:Nat} {gl:List (SK×List Nat)} {vs:List Value} {es:Array MapEntry} (h:MapAt w D b gl vs es) (hb:Below w.heap.size w w'):MapAt w' D b gl vs es:=
 ⟨(hb.block b (by have:=h.lo;have:=h.hd;omega)).trans h.blk,h.lv,h.le,h.at_,fun i a c=>(h.own i a c).later hb,h.ap,h.nd,h.lo,Nat.le_trans h.hd hb.size⟩
theorem MapAt.lookL {w:World} {D b:Nat} {gl:List (SK×List Nat)} {vs:List Value} {es:Array MapEntry} (h:MapAt w D b gl vs es) {kd:Nat->SK} {P:List Nat} (hg:GI kd P gl) (k:SK):
 ∃A c,(Instr.lookup 89 (.map (some b)) (skv k) false).run prog w=.ok (.slice A (P.filter (fun x=>kd x==k)).length c) w/\RowAt intL w w.heap.size A (P.filter (fun x=>kd x==k)):=by
 rcases h.look k with⟨j,h1,h2,h3,h4⟩|⟨h1,h2⟩
 ·obtain⟨A,c,hv,hr⟩:=(h.own j h2 h1).form;have e:=hg.grp _ (List.getElem_mem h1);rw[h3]at e;rw[e]at hv hr;exact⟨A,c,by rw[h4,hv],hr⟩
 ·rw[hg.none h1];exact⟨none,0,h2,RowAt.nil⟩
theorem zli (F:Nat) (A:Option Addr) (c:Nat) (root:Int) (vs:List NV) (ns:List Gr.Nd) (hr:Refs ns) (hl:ns.length<=1073741823) (hks:∀n∈ns,n.keys.length<=1073741823/\n.items.length<=1073741823)
 (hsame:∀x∈allKeys ns,∀y∈allKeys ns,∀W,GAt W W.heap.size A vs ns->Calls prog 64 #[.agg #[.slice A ns.length c,.int .i64 root],.int .i64 x,.int .i64 y] W fun e W'=>e=.returned (.bool (sameF ns F x y))/\Below W.heap.size W W')
 (w:World) (h:GAt w w.heap.size A vs ns):
 Calls prog 38 #[.agg #[.slice A ns.length c,.int .i64 root]] w fun e w'=>e=.returned (.bool (twice ns F))/\Below w.heap.size w w':=by
 have H:=hid h;have HSAME:=hid hsame;have hmm:= @run_makeMap prog;clear h hsame;go_enter func38,ntmps38;go_upto_region 1 with fail;obtain⟨w1,hw1⟩:=ex (w.alloc (.cells #[.slice A ns.length c,.int .i64 root] 24))
 (try rw[hw1]);have l1:Below w.heap.size w w1:=by rw[<-hw1];exact(Below.refl _ _).alloc (Nat.le_refl _) _
 have b1:Blk w1 w.heap.size 24 #[.slice A ns.length c,.int .i64 root]:=by rw[<-hw1];exact Blk.new _ _ _
 obtain⟨gb,hgb⟩:=ex w.heap.size
 have HGB:=hid hgb;have L1:=hid l1;(try rw[hgb]);rw[hgb]at b1;have HB1:=hid b1;have H1:=hid (H.out.below l1);have g0:w1.cell? ⟨gb,0,none⟩=some (.slice A ns.length c):=b1.cell 0;have HGL:Hid (gb<w1.heap.size):=hid b1.lt;clear hw1 hgb l1 b1;go_upto_region 2 with fail;clear g0;go_loopw [14] (fun s14 wr=>∃j:Nat,j<=ns.length/\s14=.int .i64 j/\Hid (Below w1.heap.size w1 wr/\(ns.take j).any (fun x=>twice1 ns F x.keys)=false)) (fun s14 _=>ns.length-(intOf s14).toNat)
 case atStart=>exact⟨0,by omega,rfl,hid ⟨Below.refl _ _,by simp⟩⟩
 case round=>
  obtain⟨j,hj,rfl,HW⟩:=hrel;obtain⟨wq,hwq⟩:∃wq,wq=wr:=⟨_,rfl⟩
  subst hwq;by_cases hlt:j<ns.length
  ·have hltI:(j:Int)<(ns.length:Int):=by omega
   have HGQ:Hid (gb<wq.heap.size/\w1.heap.size<=wq.heap.size):=hid ⟨by have:=HW.out.1.size;have:=HGL.out;omega,HW.out.1.size⟩;obtain⟨ad,ks,is,rfl,hN⟩:=(H1.out.below (HW.out.1.mono (by have:=HGL.out;have:=HGB.out;omega))).node hlt;obtain⟨ka,kn,kc⟩:=ks;obtain⟨ia,inn,ic⟩:=is;have hnm:ns[j]∈ns:=List.getElem_mem hlt;obtain⟨hkl,hil⟩:=hks _ hnm;have HAK:Hid (∀x∈ns[j].keys,x∈allKeys ns/\x<ns.length):=hid (fun x hx=>⟨List.mem_flatMap.2 ⟨_,hnm,hx⟩,hr _ hnm x (List.mem_append_left _ hx)⟩);have HTJ:Hid ((ns.take (j+1)).any (fun x=>twice1 ns F x.keys)=twice1 ns F ns[j].keys/\(twice1 ns F ns[j].keys=true->twice ns F=true)):=hid ⟨by
    rw[List.take_succ_eq_append_getElem hlt,List.any_append,HW.out.2];simp,fun e=>List.any_eq_true.2 ⟨_,hnm,e⟩⟩
   obtain⟨n,hn⟩:=ex (ns[j])
   rw[hn]at hN hkl hil HAK HTJ;obtain rfl:kn=n.keys.length:=hN.kn;obtain rfl:inn=n.items.length:=hN.inn;have x0:=hN.c0;have x1:=hN.c1;have x2:=hN.c2;have x3:=hN.c3;have x4:=hN.c4;have HKR:=hid hN.keys;clear hN hnm hn;go_upto_region 5 with fail;obtain⟨w5,hw5⟩:=ex ((wq.alloc (.cells #[.int .i64 n.kind,.string ⟨n.text.toArray⟩,.bool n.ord,.slice ka n.keys.length kc,.slice ia n.items.length ic] 35)).alloc (.map #[] 0))
   obtain⟨lb,hlb⟩:=ex wq.heap.size
   have b5:Blk w5 lb 35 #[.int .i64 n.kind,.string ⟨n.text.toArray⟩,.bool n.ord,.slice ka n.keys.length kc,.slice ia n.items.length ic]:=by rw[<-hw5,<-hlb];exact(Blk.new _ _ _).alloc _
   have m5:w5.heap[lb+1]? =some (.map #[] 0):=by
    rw[<-hw5,<-hlb];have:=heap_alloc_new (wq.alloc (.cells #[.int .i64 n.kind,.string ⟨n.text.toArray⟩,.bool n.ord,.slice ka n.keys.length kc,.slice ia n.items.length ic] 35)) (.map #[] 0);rw[World.size_alloc]at this;exact this
   have l5:Below wq.heap.size wq w5:=by rw[<-hw5];exact((Below.refl _ _).alloc (Nat.le_refl _) _).alloc (by simp) _
   have hs5:w5.heap.size=lb+1+1:=by rw[<-hw5,<-hlb];simp
   obtain⟨mb,hmb⟩:=ex (lb+1)
   rw[hmb]at m5 hs5;have hM5:MapAt w5 (mb+1) mb [] [] #[]:=⟨m5,rfl,rfl,fun i h=>by simp at h,fun i h=>by simp at h,fun i j h=>by simp at h,by simp,by omega,by omega⟩
   obtain⟨D,hD⟩:=ex (mb+1)
   rw[hD]at hM5 hs5;have HLO:Hid (gb<lb/\lb+1=mb/\mb+1=D/\wq.heap.size=lb/\w5.heap.size=D):=hid ⟨by have:=HGQ.out;omega,hmb,hD,hlb,hs5⟩;have s3:w5.cell? ⟨lb,3,none⟩=some (.slice ka n.keys.length kc):=b5.cell 3;have HM5:=hid hM5;have HB5:=hid b5;have L5:Hid (Below lb wq w5):=hid (by rw[<-hlb];exact l5);have HK5:Hid (RowAt intL w5 gb ka n.keys):=hid (by
    have h1:=HKR.out;rw[HGB.out]at h1;exact h1.below (l5.mono (by have:=HGQ.out;omega)))
   rw[hw5];(try rw[hlb]);rw[hmb];clear hw5 b5 m5 l5 hs5 hmb hM5 hD hlb x0 x1 x2 x3 x4;go_upto_region 6 with fail;clear s3;go_loopw [22] (fun s22 wr=>∃k:Nat,k<=n.keys.length/\s22=.int .i64 k/\Hid (Below mb w5 wr/\(∃gl vs es,MapAt wr D mb gl vs es/\GI (kdOf ns) (n.keys.take k) gl)/\twice1 ns F (n.keys.take k)=false)) (fun s22 _=>n.keys.length-(intOf s22).toNat)
   case atStart=>exact⟨0,by omega,rfl,hid ⟨Below.refl _ _,⟨_,_,_,HM5.out,by simpa using GI.nil _⟩,by simp[twice1]⟩⟩
   case round=>
    obtain⟨k,hk,rfl,HV⟩:=hrel;obtain⟨wv,hwv⟩:∃wv,wv=wr:=⟨_,rfl⟩
    subst hwv;by_cases hlk:k<n.keys.length
    ·have hlkI:(k:Int)<(n.keys.length:Int):=by omega
     obtain⟨x,hx⟩:=ex (n.keys[k])
     obtain⟨hxa,hxn⟩:=HAK.out n.keys[k] (List.getElem_mem hlk);rw[hx]at hxa hxn;have hbv:Below gb w5 wv:=HV.out.1.mono (by have:=HLO.out;omega);obtain⟨adk,rfl,hadk,y0⟩:=zag (HK5.out.below hbv) hlk;rw[hx]at y0;have hxI:(x:Int)<(ns.length:Int):=by omega
     have g0:wv.cell? ⟨gb,0,none⟩=some (.slice (some ad) ns.length c):=(((HB1.out.below HW.out.1 HGL.out).below L5.out HLO.out.1).below HV.out.1 (by have:=HLO.out;omega)).cell 0;have hGv:GAt wv w.heap.size (some ad) vs ns:=((H1.out.below (HW.out.1.mono (by have:=HGL.out;have:=HGB.out;omega))).below (L5.out.mono (by have:=HGB.out;have:=HLO.out;omega))).below (HV.out.1.mono (by have:=HGB.out;have:=HLO.out;omega));obtain⟨ad',kx,ix,hade,hX⟩:=hGv.node hxn;injection hade with hade
     subst hade;have hkd:kdOf ns x=(ns[x].kind,ns[x].text):=by unfold kdOf;rw[List.getD_eq_getElem?_getD,List.getElem?_eq_getElem hxn];rfl
     obtain⟨nx,hnx⟩:=ex (ns[x])
     rw[hnx]at hX hkd;have z0:=hX.c0;have z1:=hX.c1;have HKD:=hid hkd;have HXA:=hid hxa;have HX:=hid hx;clear hX hkd hnx hxa hx hbv hGv;go_upto_region 8 with fail;go_region_held3 (fun w'=>w'.cell? ⟨gb,0,none⟩=some (.slice (some ad) ns.length c)/\w'.cell? (ad.add (x*5))=some (.int .i64 nx.kind)/\w'.cell? {block:=(ad.add (x*5)).block,off:=(ad.add (x*5)).off+1}=some (.string ⟨nx.text.toArray⟩)) (go_keep) (fail);go_upto_region 9 with fail;obtain⟨w8,hw8⟩:=ex ((wv.alloc (.cells #[.int .i64 nx.kind,.string ⟨nx.text.toArray⟩] 91)).drew)
     obtain⟨sb,hsb⟩:=ex wv.heap.size
     have b8:Blk w8 sb 91 #[.int .i64 nx.kind,.string ⟨nx.text.toArray⟩]:=by rw[<-hw8,<-hsb];exact(Blk.new _ _ _).drew
     have l8:Below wv.heap.size wv w8:=by rw[<-hw8];exact below_drewN ((Below.refl _ _).alloc (Nat.le_refl _) _) 1
     have hs8:w8.heap.size=sb+1:=by rw[<-hw8,<-hsb];simp[World.drew]
     obtain⟨gl,vl,es,hM,hG⟩:=HV.out.2.1;have hM8:=hM.later l8;obtain⟨AL,cL,hlook,hrL⟩:=hM8.lookL hG (kdOf ns x);have hLs:∀y∈(n.keys.take k).filter (fun y=>kdOf ns y==kdOf ns x),y∈n.keys.take k:=fun y hy=>(List.mem_filter.1 hy).1
     have hLany:((n.keys.take k).filter (fun y=>kdOf ns y==kdOf ns x)).any (fun y=>sameF ns F x y)=false->(n.keys.take k).any (fun y=>sameF ns F x y)=false:=by
      intro h1;rw[List.any_eq_false]at h1 ⊢;intro y hy h2;exact h1 y (List.mem_filter.2 ⟨hy,by have:=zq4 h2;simp[this]⟩) h2
     have hLl:((n.keys.take k).filter (fun y=>kdOf ns y==kdOf ns x)).length<=1073741823:=Nat.le_trans (List.length_filter_le _ _) (Nat.le_trans (List.length_take_le _ _) (by omega));obtain⟨L,hL⟩:=ex ((n.keys.take k).filter (fun y=>kdOf ns y==kdOf ns x))
     rw[hL]at hlook hrL hLs hLany hLl;rw[HKD.out]at hlook;unfold skv at hlook;simp only at hlook;obtain⟨t0,t1⟩:=cells2 b8;have HM8:Hid (∃gl vs es,MapAt w8 D mb gl vs es/\GI (kdOf ns) (n.keys.take k) gl):=hid ⟨gl,vl,es,hM8,hG⟩;have HS8:Hid (wv.heap.size=sb/\w8.heap.size=sb+1/\D<=sb):=hid ⟨hsb,hs8,by have:=hM.hd;omega⟩;have HV8:Hid (Below mb w5 w8/\twice1 ns F (n.keys.take k)=false):=hid ⟨HV.out.1.trans (l8.mono (by have:=hM.hd;have:=HLO.out;omega)),HV.out.2.2⟩;have HB8:=hid b8;have HRL:=hid hrL;have HLS:=hid hLs;have HLA:=hid hLany;rw[hw8];(try rw[hsb]);clear hw8 hsb b8 l8 hs8 hM hG hM8 hrL hLs hLany hL g0 z0 z1 y0;go_upto_region 10 with fail;clear hlook t0 t1;go_loopw [43] (fun s43 wr=>∃r:Nat,r<=L.length/\s43=.int .i64 r/\Hid (Below w8.heap.size w8 wr/\(L.take r).any (fun y=>sameF ns F x y)=false)) (fun s43 _=>L.length-(intOf s43).toNat)
     case atStart=>exact⟨0,by omega,rfl,hid ⟨Below.refl _ _,by simp⟩⟩
     case round=>
      obtain⟨r,hr2,rfl,HR⟩:=hrel;obtain⟨wx,hwx⟩:∃wx,wx=wr:=⟨_,rfl⟩
      subst hwx;have hbx:Below mb w5 wx:=HV8.out.1.trans (HR.out.1.mono (by have:=HS8.out;have:=HLO.out;omega));by_cases hrl:r<L.length
      ·have hrlI:(r:Int)<(L.length:Int):=by omega
       obtain⟨y,hy⟩:=ex (L[r])
       have hyt:y∈n.keys.take k:=by rw[<-hy];exact HLS.out _ (List.getElem_mem hrl)
       have hyk:y∈n.keys:=List.mem_of_mem_take hyt;obtain⟨hya,hyn⟩:=HAK.out y hyk;obtain⟨adl,rfl,_,y0⟩:=zag (HRL.out.below HR.out.1) hrl;rw[hy]at y0;have bgx:=(((HB1.out.below HW.out.1 HGL.out).below L5.out HLO.out.1).below hbx (by have:=HLO.out;omega))
       obtain⟨g0,g1⟩:=cells2 bgx;have hGx:GAt wx wx.heap.size (some ad) vs ns:=(((H1.out.below (HW.out.1.mono (by have:=HGL.out;have:=HGB.out;omega))).below (L5.out.mono (by have:=HGB.out;have:=HLO.out;omega))).below (hbx.mono (by have:=HGB.out;have:=HLO.out;omega))).more (by have:=HR.out.1.size;have:=HS8.out;have:=HLO.out;have:=HGB.out;omega);have HC:=hid (HSAME.out x HXA.out y hya wx hGx);have HTR:Hid ((L.take (r+1)).any (fun y=>sameF ns F x y)=sameF ns F x y):=hid (by rw[List.take_succ_eq_append_getElem hrl,List.any_append,HR.out.2,hy];simp);have HTT:Hid (sameF ns F x y=true->twice ns F=true):=hid (fun e=>HTJ.out.2 (by
        refine zhm ns F n.keys (k+1) ?_;rw[zal _ _ hlk,zch,HX.out];have:(n.keys.take k).any (fun z=>sameF ns F x z)=true:=List.any_eq_true.2 ⟨y,hyt,e⟩;rw[this];simp))
       obtain⟨b,hb⟩:=ex (sameF ns F x y)
       rw[hb]at HC HTR HTT;have HBW:Hid (Below w.heap.size w wx):=hid ((L1.out.trans (HW.out.1.mono (by have:=HGL.out;have:=HGB.out;omega))).trans ((L5.out.mono (by have:=HGB.out;have:=HLO.out;omega)).trans (hbx.mono (by have:=HGB.out;have:=HLO.out;omega))));have HBS:Hid (w.heap.size<=wx.heap.size/\w8.heap.size<=wx.heap.size):=hid ⟨HBW.out.size,HR.out.1.size⟩;clear bgx hGx hy hyk hyt hya hb hbx;go_wp2_with fail;refine HC.out.mono ?_;rintro e w9 ⟨rfl,hb9⟩;cases b with
       |true=>
        have HFIN:Hid (twice ns F=true/\Below w.heap.size w w9):=hid ⟨HTT.out rfl,HBW.out.trans (hb9.mono HBS.out.1)⟩;clear hb9;go_wp2;go_ret;rw[HFIN.out.1];exact⟨rfl,HFIN.out.2⟩
       |false=>
        have HNX:Hid (Below w8.heap.size w8 w9/\(L.take (r+1)).any (fun y=>sameF ns F x y)=false):=hid ⟨HR.out.1.trans (hb9.mono HBS.out.2),HTR.out⟩;clear hb9;go_wp2;go_roundw
        case rel=>exact⟨r+1,by omega,by go_num,HNX⟩
        case measure=>simp[intOf];omega
      ·have hrlI:¬(r:Int)<(L.length:Int):=by omega
       have htw:twice1 ns F (n.keys.take (k+1))=false:=by
        rw[zal _ _ hlk,zch,HX.out,HV8.out.2,HLA.out (by
         have:=HR.out.2;rwa[show r=L.length from by omega,List.take_length]at this)]
        rfl
       obtain⟨gl,vl,es,hM,hG⟩:=HM8.out;have hMx:=(hM.later HR.out.1).later ((Below.refl wx.heap.size wx).alloc (Nat.le_refl _) (.cells #[.int .i64 x] 3));obtain⟨wE,gl1,vs1,es1,jj,q1,q2,hE,hkE,hME,hjE,hor⟩:=hMx.entry (kdOf ns x);obtain⟨t0,t1⟩:=cells2 (HB8.out.below HR.out.1 HB8.out.lt);have hq:=(hME.own jj q2 q1)
       obtain⟨Aj,cj,hvj,hrj⟩:=hq.form;clear hrj;rw[hvj]at hE hq;rw[HKD.out]at hE;unfold skv at hE;simp only at hE;have hll:gl1[jj].2.length<=1073741823:=by
        have hsub:∀g∈gl,g.2.length<=k:=fun g hg=>by
         rw[hG.grp g hg];exact Nat.le_trans (List.length_filter_le _ _) (List.length_take_le _ _)
        have:∀g∈gl1,g.2.length<=k:=by
         rcases hor with rfl|⟨_,rfl⟩
         ·exact hsub
         ·intro g hg;rcases List.mem_append.1 hg with hg|hg
          ·exact hsub g hg
          ·simp at hg;subst hg;simp
        have:=this _ (List.getElem_mem q1);omega
       obtain⟨lj,hlj⟩:=ex (gl1[jj].2)
       rw[hlj]at hE hq hvj hll;have hlt4:wx.heap.size≠mb:=by have:=hM.lo;have:=hM.hd;have:=HR.out.1.size;omega
       have hrowE:RowAt intL wE (wx.heap.size+1) (some ⟨wx.heap.size,0,none⟩) [x]:=RowAt.ofBlk (hkE.blk (Blk.new wx 3 #[.int .i64 x]) hlt4) rfl (by omega);have HE:Hid (∃(q1:jj<gl1.length) (q2:jj<vs1.length),Kept1 mb (wx.alloc (.cells #[.int .i64 x] 3)) wE/\MapAt wE D mb gl1 vs1 es1/\gl1[jj].1=kdOf ns x/\(gl1=gl\/((∀g∈gl,g.1≠kdOf ns x)/\gl1=gl++[(kdOf ns x,[])]))/\gl1[jj].2=lj/\vs1[jj]=.slice Aj lj.length cj/\GI (kdOf ns) (n.keys.take k) gl):=hid ⟨q1,q2,hkE,hME,hjE,hor,hlj,hvj,hG⟩;have HTW:=hid htw;have HQ:=hid hq;have HROW:=hid hrowE;have HEH:Hid (D<=wE.heap.size):=hid hME.hd;have HBX:=hid hbx;have HSX:Hid (mb<=wx.heap.size):=hid (by have:=hbx.size;have:=HLO.out;omega);clear hM hG hMx hkE hME hjE hor hlj hvj hq hrowE htw hbx hlt4 q1 q2;go_wp2_with (at_builtin;go_must (refine zac _ rfl (.tmp 54) (.tmp 56) 33 3 8 rfl intT D (.slice Aj lj.length cj) lj rfl HQ.out _ _ 1 [x] rfl HROW.out ?_ ?_ ?_))
       any_goals (first|exact HEH.out| (simp;omega))
       intro v' w3 hown hg hat;obtain⟨q1,q2,hkE,hME,hjE,hor,hlj,hvj,hG⟩:=HE.out;rw[<-hvj]at hg hat;obtain⟨w4,es3,hST,hk4,hM4⟩:=hME.store q1 q2 hown hg hat;have hG4:=hG.next q1 hjE hor hME.nd;rw[hlj]at hG4;have HNX:Hid (Below mb w5 w4/\(∃gl vs es,MapAt w4 D mb gl vs es/\GI (kdOf ns) (n.keys.take (k+1)) gl)/\twice1 ns F (n.keys.take (k+1))=false):=hid ⟨
        (((HBX.out.alloc HSX.out _).trans (hkE.below (Nat.le_refl _))).trans (((hME.own jj q2 q1).grown_below hg hME.hd).mono (by have:=HLO.out;omega))).trans (hk4.below (Nat.le_refl _)),
        ⟨_,_,_,hM4,by rw[zal _ _ hlk,HX.out];exact hG4⟩,HTW.out⟩
       clear hown hg hat hkE hME hjE hor hlj hvj hG hk4 hM4 hG4 q1 q2;go_wp2;go_roundw
       case rel=>exact⟨k+1,by omega,by go_num,HNX⟩
       case measure=>simp[intOf];omega
    ·have hlkI:¬(k:Int)<(n.keys.length:Int):=by omega
     have HNX:Hid (Below w1.heap.size w1 wv/\(ns.take (j+1)).any (fun x=>twice1 ns F x.keys)=false):=hid ⟨(HW.out.1.trans (L5.out.mono (by have:=HGQ.out;have:=HLO.out;omega))).trans (HV.out.1.mono (by have:=HGQ.out;have:=HLO.out;omega)),by
      have:=HV.out.2.2;rw[show k=n.keys.length from by omega,List.take_length]at this;rw[HTJ.out.1,this]⟩
     go_wp2;go_roundw
     case rel=>exact⟨j+1,by omega,by go_num,HNX⟩
     case measure=>simp[intOf];omega
  ·have hltI:¬(j:Int)<(ns.length:Int):=by omega
   have HRES:Hid (twice ns F=false/\Below w.heap.size w wq):=hid ⟨by
    have:=HW.out.2;rw[show j=ns.length from by omega,List.take_length]at this;exact this,L1.out.trans (HW.out.1.mono (by have:=HGL.out;have:=HGB.out;omega))⟩
   go_wp2;go_ret;rw[HRES.out.1];exact⟨rfl,HRES.out.2⟩
end Go.Proofs.YtoigpackhninoaaGreatDoor
