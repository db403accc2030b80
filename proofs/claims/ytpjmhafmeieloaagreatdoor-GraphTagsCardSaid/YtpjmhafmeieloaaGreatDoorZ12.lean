import Derived.Test.YtpjmhafmeieloaaGreatDoorZ11
namespace Go.Proofs.YtpjmhafmeieloaaGreatDoor
open _root_.Go.Proofs.Tryz
set_option maxRecDepth 100000
set_option maxHeartbeats 16000000
open Go.RowKit
theorem infoIntS:(prog.info? 3).map (·.size)=some 1:=by kernel_rfl
theorem zk5 (l:List Nat):intL.all l=(icells l).toList:=by
 induction l with
 |nil=>rfl
 |cons x l ih=>
  have a:intL.all (x::l)=.int .i64 (x:Int)::intL.all l:=rfl;rw[a,ih];simp[icells]
theorem zpn (W:World) (B g n c:Nat) (A:Option Addr) (l:List Nat) (ty:TypeId) (hl:l.length=n) (hb:Blk W g 3 (icells (List.replicate n 0))) (hr:RowAt intL W B A l):
 ∃W',(Builtin.copy_ #[34,34] ty #[.slice (some ⟨g,0,none⟩) n n,.slice A n c]).run prog W=.ok (.int .i64 n) W'/\Kept1 g W W'/\Blk W' g 3 (icells l):=by
 by_cases h0:n=0
 .subst h0;obtain rfl:=List.eq_nil_of_length_eq_zero hl;exact⟨W,run_copy_none (P:=prog) W 34 34 ty 3 _ A 0 0 0 c underlying34 infoIntS rfl,Kept1.refl _ _,hb⟩
 .obtain⟨d,rfl,hlt,f⟩:=hr.2 (by omega);have a:(intL.all l).length=n:=by rw[Lay.all_len];show l.length*1=n;omega
  have b:=run_copy_row (P:=prog) W 34 34 ty 3 g 0 n n d n c (icells (List.replicate n 0)) 3 (intL.all l) underlying34 infoIntS hb (by rw[a];exact(Nat.min_self n).symm) f (by rw[a];simp[icells]) (intL.all_one l);have e:((icells (List.replicate n 0)).toList.take 0++intL.all l++(icells (List.replicate n 0)).toList.drop (0+(intL.all l).length)).toArray=icells l:=by
   rw[a];have:intL.all l=(icells l).toList:=by
    exact zk5 l
   rw[this];simp[icells]
  rw[e,a]at b;exact⟨_,b,⟨rfl,rfl,rfl,size_setRow _ _ _,fun k h=>setRow_other _ _ _ _ h⟩,setRow_heap _ _ _ _ _ _ hb⟩
theorem zpo (l:List Nat) (f:Nat->Nat) (i:Nat) (h:i<l.length):((l.take i).map f++l.drop i).set i (f l[i])=(l.take (i+1)).map f++l.drop (i+1):=by
 have e:((l.take i).map f).length=i:=by simp;omega
 rw[List.drop_eq_getElem_cons h,List.set_append_right _ _ (by rw[e];exact Nat.le_refl _),e,Nat.sub_self,List.set_cons_zero,zak _ _ h,List.map_append];simp
theorem zfg (A:Option Addr) (c by_:Nat) (l:List Nat) (hl:l.length<=1073741823) (hx:∀x∈l,x<=1152921504606846976) (hby:by_<=1152921504606846976) (w:World) (B:Nat) (hB:B<=w.heap.size) (h:RowAt intL w B A l):
 Calls prog 30 #[.slice A l.length c,.int .i64 by_] w fun e w'=>e=.returned (.slice (some ⟨w.heap.size,0,none⟩) l.length l.length)/\Below w.heap.size w w'/\Blk w' w.heap.size 3 (icells (l.map (· +by_))):=by
 have hmk:=fun W=>zb0 l.length (by omega) W
 obtain⟨r,a⟩:=ex (w.alloc (.cells (icells (List.replicate l.length 0)) 3))
 have u:Below w.heap.size w r:=by rw[<-a];exact(Below.refl _ _).alloc (Nat.le_refl _) _
 have y:Blk r w.heap.size 3 (icells (List.replicate l.length 0)):=by rw[<-a];exact Blk.new _ _ _
 obtain⟨v,t,k,f⟩:=zpn r B w.heap.size l.length c A l 3 rfl y (h.below (u.mono hB));have d:Hid (Below w.heap.size w v/\Blk v w.heap.size 3 (icells l)):=Lib.hid ⟨u.trans (k.below (Nat.le_refl _)),f⟩;clear u y k f h;go_enter func30,ntmps30;go_upto_region 2 with fail;(try rw[a]);clear a;go_upto_region 3 with fail;obtain⟨g,p⟩:=ex w.heap.size
 have C:=Lib.hid p;rw[p]at d;(try rw[p]);clear t p;go_upto_region 4 with fail;go_loopw [15] (fun s15 wr=>∃i:Nat,i<=l.length/\s15=.int .i64 i/\Hid (Below g w wr/\Blk wr g 3 (icells ((l.take i).map (· +by_)++l.drop i)))) (fun s15 _=>l.length-(intOf s15).toNat)
 case atStart=>exact⟨0,by omega,rfl,Lib.hid ⟨d.out.1,by simpa using d.out.2⟩⟩
 case round=>
  obtain⟨i,D,rfl,n⟩:=hrel;by_cases hlt:i<l.length
  .have m:(i:Int)<(l.length:Int):=by omega
   obtain⟨x,b⟩:=ex (l[i])
   have hxb:x<=1152921504606846976:=by rw[<-b];exact hx _ (List.getElem_mem hlt)
   have o:((l.take i).map (· +by_)++l.drop i).getD i 0=x:=by
    rw[List.getD_eq_getElem?_getD,List.getElem?_append_right (by simp;omega)];simp[Nat.min_eq_left D,List.getElem?_eq_getElem hlt,b]
   have z0:wr.cell? ⟨g,i,none⟩=some (.int .i64 (x:Int)):=by
    rw[n.out.2.cell,zad (by simp;omega),o]
   have zf:∀j,wr.frozen? ⟨g,j,none⟩=false:=n.out.2.frozen;have s:Hid (Below g w (wr.setCell ⟨g,i,none⟩ (.int .i64 ((x:Int)+(by_:Int))))/\Blk (wr.setCell ⟨g,i,none⟩ (.int .i64 ((x:Int)+(by_:Int)))) g 3 (icells ((l.take (i+1)).map (· +by_)++l.drop (i+1)))):=Lib.hid ⟨n.out.1.setCell (by simp) _,by
    have q:=n.out.2.set_ i (.int .i64 ((x+by_:Nat):Int));rw[zaw]at q;rw[show(x:Int)+(by_:Int)=((x+by_:Nat):Int)from by omega];have e:=zpo l (· +by_) i hlt;rw[b]at e;rw[e]at q;exact q⟩
   clear o b;go_wp2;go_roundw
   case rel=>exact⟨i+1,by omega,by go_num,s⟩
   case measure=>simp[intOf];omega
  .have m:¬(i:Int)<(l.length:Int):=by omega
   have z:Hid (Below g w wr/\Blk wr g 3 (icells (l.map (· +by_)))):=Lib.hid (by
    have:=n.out;rw[show i=l.length from by omega,List.take_length,List.drop_length,List.append_nil]at this;exact this)
   go_wp2;go_ret;rw[C.out];exact⟨rfl,z.out⟩
def KeptT (t:TypeId) (w w':World):Prop:=∀g cs,Blk w g t cs->Blk w' g t cs
theorem KeptT.refl (t:TypeId) (w:World):KeptT t w w:=fun _ _ h=>h
theorem KeptT.trans {t:TypeId} {a b c:World} (h:KeptT t a b) (k:KeptT t b c):KeptT t a c:=fun g d x=>k g d (h g d x)
theorem KeptT.later {t:TypeId} {w w':World} (h:Below w.heap.size w w'):KeptT t w w':=fun _ _ x=>x.below h x.lt
theorem KeptT.alloc (t:TypeId) (w:World) (o:Obj):KeptT t w (w.alloc o):=fun _ _ x=>x.alloc o
theorem KeptT.drewN (t:TypeId) (w:World) (n:Nat):KeptT t w (w.drewN n):=fun _ _ x=>x
theorem KeptT.setCell {t t':TypeId} {w:World} {p:Addr} {cs:Array Value} (h:Blk w p.block t' cs) (hne:t≠t') (u:Value):KeptT t w (w.setCell p u):=
 fun _ _ x=>x.far (fun e=>by subst e;exact Blk.ne_ x h hne rfl) u
theorem KeptT.grown {t t':TypeId} {w w':World} {v:Value} {base:Nat} {size n:Nat} {xs:List Value} (hg:w.grownBy w' v.ownBlock) (h:w.ownsRow base t' size v n xs) (hne:t'≠t):KeptT t w w':=
 fun _ _ x=>x.grown hg (fun e=>zbx h x hne e.symm)
section
variable {α:Type} {L:Lay α} {w w':World} {B base:Nat} {E:TypeId} {v:Value} {l:List α}
theorem OwnRow.kept (h:OwnRow L w base E v l) (hk:KeptT E w w'):OwnRow L w' base E v l:=by
 refine⟨h.1,?_⟩;rcases h.2 with hn|⟨g,cap,cur,rfl,hbg,hgg,rest⟩
 .exact .inl hn
 .exact .inr ⟨g,cap,cur,rfl,hbg,hk g cur hgg,rest⟩
theorem OwnRow.grown_other (h:OwnRow L w base E v l) {row:Option Nat} (hg:w.grownBy w' row) (hne:∀g,v.ownBlock=some g->row≠some g):OwnRow L w' base E v l:=by
 refine⟨h.1,?_⟩;rcases h.2 with hn|⟨g,cap,cur,rfl,hbg,hgg,rest⟩
 .exact .inl hn
 .refine .inr ⟨g,cap,cur,rfl,hbg,?_,rest⟩;rw[hg.block g (Blk.lt (t:=E) (cs:=cur) hgg) (fun e=>hne g (by simp[Value.ownBlock]) e.symm)];exact hgg
theorem OwnRow.row (h:OwnRow L w base E v l) (hl:l≠[]):
 ∃g cap rest,v=.slice (some ⟨g,0,none⟩) l.length cap/\l.length<=cap/\Blk w g E (L.all l++rest).toArray/\base<=g/\(∀w' l',l'.length=l.length->Blk w' g E (L.all l'++rest).toArray->OwnRow L w' base E v l'):=by
 rcases h.2 with⟨_,hn⟩|⟨g,cap,c,f,d,k,i,m,hcs,htk⟩
 .grind
 .have hcl:=L.all_len l;have a:c=(L.all l++c.toList.drop (l.length*L.sz)).toArray:=by
   grind
  have hle:l.length*L.sz<=cap*L.sz:=Nat.mul_le_mul_right _ i;refine⟨g,cap,c.toList.drop (l.length*L.sz),f,i,?_,d,fun w' l' e j=>?_⟩
  .unfold Blk;rw[<-a];exact k
  .have b:=L.all_len l';refine⟨b,.inr ⟨g,cap,_,by rw[e];exact f,d,j,by omega,m,?_,?_⟩⟩
   .simp only[List.size_toArray,List.length_append,List.length_drop,Array.length_toList];rw[e]at b;omega
   .simp only;rw[List.take_append_of_le_length (by omega),List.take_of_length_le (by omega)]
end
theorem zsr {α:Type} (L:Lay α) (l:List α) (k j:Nat) (x:α) (u:Value) (hk:k<l.length) (hj:j<L.sz) (he:L.enc x=(L.enc l[k]).set j u):L.all (l.set k x)=(L.all l).set (k*L.sz+j) u:=by
 induction l generalizing k with
 |nil=>simp at hk
 |cons y l ih=>
  cases k with
  |zero=>
   have b:L.all (x::l)=L.enc x++L.all l:=rfl;have a:L.all (y::l)=L.enc y++L.all l:=rfl;simp only[List.getElem_cons_zero]at he;simp only[List.set_cons_zero,Nat.zero_mul,Nat.zero_add];rw[b,a,he,List.set_append_left _ _ (by rw[L.len];exact hj)]
  |succ k=>
   have b:L.all (y::l.set k x)=L.enc y++L.all (l.set k x):=rfl;have a:L.all (y::l)=L.enc y++L.all l:=rfl;rw[List.set_cons_succ,b,a,ih k (by simpa using hk) (by simpa using he)];rw[List.set_append_right _ _ (by rw[L.len,Nat.add_mul];omega),L.len];rw[show(k+1)*L.sz+j-L.sz=k*L.sz+j from by rw[Nat.add_mul];omega]
theorem zss {α:Type} (L:Lay α) {w:World} {g:Nat} {E:TypeId} {l:List α} {rest:List Value} (h:Blk w g E (L.all l++rest).toArray) (k j:Nat) (x:α) (u:Value) (hk:k<l.length) (hj:j<L.sz) (he:L.enc x=(L.enc l[k]).set j u):
 Blk (w.setCell ⟨g,k*L.sz+j,none⟩ u) g E (L.all (l.set k x)++rest).toArray:=by
 have hl:=L.all_len l;have h2:k*L.sz+L.sz<=l.length*L.sz:=by
  have:(k+1)*L.sz<=l.length*L.sz:=Nat.mul_le_mul_right _ hk;rw[Nat.add_mul]at this;omega
 have a:=h.set_ (k*L.sz+j) u;have e:(L.all l++rest).toArray.setIfInBounds (k*L.sz+j) u=(L.all (l.set k x)++rest).toArray:=by
  apply Array.ext';rw[Array.toList_setIfInBounds,zsr L l k j x u hk hj he];exact List.set_append_left _ _ (by omega)
 rw[e]at a;exact a
theorem zmn {w:World} {g:Nat} {l:List NV} {rest:List Value} (h:Blk w g 36 (nodeL.all l++rest).toArray) (k:Nat) (hk:k<l.length) (i:SV):
 Blk (w.setCell ⟨g,k*5+4,none⟩ i.v) g 36 (nodeL.all (l.set k {l[k]with i:=i})++rest).toArray:=
 zss nodeL h k 4 {l[k]with i:=i} i.v hk (by decide) rfl
def ints (vs:List NV) (j:Nat) (b:Bool):SV:=match vs[j]? with
 |some x=>if b then x.i else x.k
 |none=>SV.nil
def intsOf (ns:List Gr.Nd) (j:Nat) (b:Bool):List Nat:=match ns[j]? with
 |some m=>if b then m.items else m.keys
 |none=>[]
structure Rows (B:Nat) (w:World) (vs:List NV) (ns:List Gr.Nd):Prop where
 len:vs.length=ns.length
 kind:∀j (h:j<vs.length) (h2:j<ns.length),vs[j].kind=ns[j].kind/\vs[j].text=ns[j].text/\vs[j].ord=ns[j].ord
 own:∀j b,OwnRow intL w B 3 (ints vs j b).v (intsOf ns j b)
 apart:∀j b j' b' g,(ints vs j b).v.ownBlock=some g->(ints vs j' b').v.ownBlock=some g->j=j'/\b=b'
theorem Rows.kept {B:Nat} {w w':World} {vs:List NV} {ns:List Gr.Nd} (h:Rows B w vs ns) (hk:KeptT 3 w w'):Rows B w' vs ns:=
 ⟨h.len,h.kind,fun j b=>(h.own j b).kept hk,h.apart⟩
theorem zil (vs:List NV) (x:NV) (j:Nat) (b:Bool):ints (vs++[x]) j b=if j=vs.length then(if b then x.i else x.k)else ints vs j b:=by
 unfold ints;by_cases hj:j<vs.length
 .grind
 .grind
theorem zjt (ns:List Gr.Nd) (x:Gr.Nd) (j:Nat) (b:Bool):intsOf (ns++[x]) j b=if j=ns.length then(if b then x.items else x.keys)else intsOf ns j b:=by
 unfold intsOf;by_cases hj:j<ns.length
 .grind
 .grind
theorem Rows.snoc {B:Nat} {w:World} {vs:List NV} {ns:List Gr.Nd} (h:Rows B w vs ns) (x:NV) (m:Gr.Nd) (hx:x.kind=m.kind/\x.text=m.text/\x.ord=m.ord) (ok:OwnRow intL w B 3 x.k.v m.keys) (oi:OwnRow intL w B 3 x.i.v m.items)
 (hki:∀g,x.k.v.ownBlock=some g->x.i.v.ownBlock=some g->False) (hold:∀j b g,(ints vs j b).v.ownBlock=some g->x.k.v.ownBlock≠some g/\x.i.v.ownBlock≠some g):Rows B w (vs++[x]) (ns++[m]):=by
 have a:=h.len;refine⟨by simp[a],?_,?_,?_⟩
 .intro j c d;by_cases hj:j<vs.length
  .rw[List.getElem_append_left hj,List.getElem_append_left (by omega)];exact h.kind j hj (by omega)
  .grind
 .intro j b;rw[zil,zjt,<-a];by_cases hj:j=vs.length
  .grind
  .rw[if_neg hj,if_neg hj];exact h.own j b
 .intro j b e f g c d;rw[zil]at c d;by_cases hj:j=vs.length
  .grind
  .rw[if_neg hj]at c;by_cases hj':e=vs.length
   .grind
   .rw[if_neg hj']at d;exact h.apart j b e f g c d
theorem Rows.grow {B:Nat} {w w':World} {vs:List NV} {ns:List Gr.Nd} (h:Rows B w vs ns) (j:Nat) (b:Bool) (x:NV) (m:Gr.Nd) (hj:j<vs.length)
 (hx:x.kind=vs[j].kind/\x.text=vs[j].text/\x.ord=vs[j].ord) (hm:m.kind=(ns[j]'(by rw[<-h.len];exact hj)).kind/\m.text=(ns[j]'(by rw[<-h.len];exact hj)).text/\m.ord=(ns[j]'(by rw[<-h.len];exact hj)).ord)
 (hb:(if b then x.k else x.i)=ints vs j (!b)) (hbm:(if b then m.keys else m.items)=intsOf ns j (!b))
 (hown:OwnRow intL w' B 3 (if b then x.i else x.k).v (if b then m.items else m.keys)) (hg:w.grownBy w' (ints vs j b).v.ownBlock)
 (hat:(if b then x.i else x.k).v.ownBlock=(ints vs j b).v.ownBlock\/(if b then x.i else x.k).v.ownBlock=some w.heap.size):Rows B w' (vs.set j x) (ns.set j m):=by
 have d:=h.len;have f:j<ns.length:=by omega
 have e1:∀j' b',ints (vs.set j x) j' b'=if j'=j then(if b' then x.i else x.k)else ints vs j' b':=by
  intro j' b';unfold ints;by_cases he:j'=j
  .grind
  .grind
 have e2:∀j' b',intsOf (ns.set j m) j' b'=if j'=j then(if b' then m.items else m.keys)else intsOf ns j' b':=by
  intro j' b';unfold intsOf;by_cases he:j'=j
  .grind
  .grind
 have e:∀j' b',¬(j'=j/\b'=b)->ints (vs.set j x) j' b'=ints vs j' b'/\intsOf (ns.set j m) j' b'=intsOf ns j' b':=by
  grind
 refine⟨by simp[d],?_,?_,?_⟩
 .intro j' c a;by_cases he:j=j'
  .subst he;rw[List.getElem_set_self,List.getElem_set_self];have:=h.kind j hj f;exact⟨by rw[hx.1,hm.1,this.1],by rw[hx.2.1,hm.2.1,this.2.1],by rw[hx.2.2,hm.2.2,this.2.2]⟩
  .rw[List.getElem_set_ne he,List.getElem_set_ne he];exact h.kind j' (by simpa using c) (by simpa using a)
 .intro j' b';by_cases hc:j'=j/\b'=b
  .grind
  .rw[(e j' b' hc).1,(e j' b' hc).2];exact(h.own j' b').grown_other hg (fun g p r=>hc (h.apart j' b' j b g p r))
 .have hnew:∀j' b' g,¬(j'=j/\b'=b)->(ints vs j' b').v.ownBlock=some g->(if b then x.i else x.k).v.ownBlock=some g->False:=by
   intro j' b' g hc c a;rcases hat with h3|h3
   .rw[h3]at a;exact hc (h.apart j' b' j b g c a)
   .rw[h3]at a;injection a with a
    have:=(h.own j' b').lt g c;omega
  intro o s q n g c a;by_cases hc1:o=j/\s=b
  .grind
  .rw[(e o s hc1).1]at c;by_cases hc2:q=j/\n=b
   .grind
   .rw[(e q n hc2).1]at a;exact h.apart o s q n g c a
theorem Rows.later {B:Nat} {w w':World} {vs:List NV} {ns:List Gr.Nd} (h:Rows B w vs ns) (hb:Below w.heap.size w w'):Rows B w' vs ns:=h.kept (KeptT.later hb)
theorem Rows.nil (B:Nat) (w:World):Rows B w [] []:=
 ⟨rfl,fun j h=>by simp at h,fun j b=>by simp[ints,intsOf,SV.nil,SV.v];exact OwnRow.nil,fun j b j' b' g h=>by simp[ints,SV.nil,SV.v,Value.ownBlock]at h⟩
structure Tab (B:Nat) (w:World) (v:Value) (vs:List NV) (ns:List Gr.Nd):Prop where
 row:OwnRow nodeL w B 36 v vs
 rows:Rows B w vs ns
theorem Tab.later {B:Nat} {w w':World} {v:Value} {vs:List NV} {ns:List Gr.Nd} (h:Tab B w v vs ns) (hb:Below w.heap.size w w'):Tab B w' v vs ns:=⟨h.row.later hb,h.rows.later hb⟩
theorem SV.row {w:World} {B:Nat} {x:SV} {l:List Nat} (h:OwnRow intL w B 3 x.v l):RowAt intL w w.heap.size x.a l/\x.n=l.length:=by
 obtain⟨A,c,b,d⟩:=h.form;unfold SV.v at b;injection b with e1 e2 e3
 subst e1;exact⟨d,e2⟩
theorem Tab.at_ {B:Nat} {w:World} {v:Value} {vs:List NV} {ns:List Gr.Nd} (h:Tab B w v vs ns):∃A c,v=.slice A ns.length c/\GAt w w.heap.size A vs ns:=by
 obtain⟨A,c,p,g⟩:=h.row.form;refine⟨A,c,by rw[p,h.rows.len],g,h.rows.len,h.rows.kind,fun j d e=>?_⟩;have o:(ints vs j false)=vs[j].k:=by unfold ints;rw[List.getElem?_eq_getElem d];rfl
 have f:(ints vs j true)=vs[j].i:=by unfold ints;rw[List.getElem?_eq_getElem d];rfl
 have n:(intsOf ns j false)=ns[j].keys:=by unfold intsOf;rw[List.getElem?_eq_getElem e];rfl
 have m:(intsOf ns j true)=ns[j].items:=by unfold intsOf;rw[List.getElem?_eq_getElem e];rfl
 have b:=h.rows.own j false;have a:=h.rows.own j true;rw[o,n]at b;rw[f,m]at a;exact⟨(SV.row b).1,(SV.row b).2,(SV.row a).1,(SV.row a).2⟩
open Gr
open _root_.Go.Lib (hid)
namespace Gr
def shN (d:Nat) (x:Nd):Nd:=⟨x.kind,x.text,x.ord,x.keys.map (· +d),x.items.map (· +d)⟩
end Gr
open Go.RowKit
theorem grown_below {w w1:World} {r:Option Nat} (h:Below w.heap.size w w1):w.grownBy w1 r:=⟨h.os,h.tape,h.output,h.size,fun k a _=>h.block k a⟩
theorem zb6 {w:World} {B g n:Nat} {l:List Nat} (h:Blk w g 3 (icells l)) (hB:B<=g) (hn:l.length=n) (hm:n<=maxLen):OwnRow intL w B 3 (.slice (some ⟨g,0,none⟩) n n) l:=by
 subst hn;refine⟨intL.all_len l,.inr ⟨g,l.length,icells l,rfl,hB,h,Nat.le_refl _,hm,by simp[icells,intL],?_⟩⟩;rw[<-zk5,List.take_of_length_le (by rw[intL.all_len];exact Nat.le_refl _)]
structure ShBox (w wx:World) (nb:Nat) (n:Gr.Nd) (d g1 g2:Nat):Prop where
 box:Blk wx nb 36 #[.int .i64 n.kind,.string ⟨n.text.toArray⟩,.bool n.ord,.slice (some ⟨g1,0,none⟩) n.keys.length n.keys.length,.slice (some ⟨g2,0,none⟩) n.items.length n.items.length]
 b1:Blk wx g1 3 (icells (n.keys.map (· +d)))
 b2:Blk wx g2 3 (icells (n.items.map (· +d)))
 lo1:w.heap.size<=g1
 lo2:w.heap.size<=g2
 ne_:g1≠g2
 below:Below w.heap.size w wx
def zk6 (B:Nat) (r:Int) (ms:List Gr.Nd) (w:World) (e:Ending) (w':World):Prop:=∃v' vs',e=.returned (.tuple #[v',.int .i64 r])/\Tab B w' v' vs' ms/\Below B w w'/\∀t,t≠36->KeptT t w w'
theorem zef (B:Nat) (A:Option Addr) (c root:Nat) (us:List NV) (gs:List Gr.Nd) (v:Value) (vs:List NV) (ns:List Gr.Nd) (hgl:gs.length<=1073741823) (hnl:ns.length+gs.length<=1073741823) (hks:NH gs) (hrb:Refs gs) (hroot:root<gs.length) (w:World) (h:GAt w B A us gs) (hv:Tab B w v vs ns) (hB:B<=w.heap.size):
 Calls prog 15 #[v,.agg #[.slice A gs.length c,.int .i64 root]] w (zk6 B ((root:Int)+(ns.length:Int)) (ns++gs.map (shN ns.length)) w):=by
 obtain⟨A0,c0,rfl,az⟩:=hv.at_;obtain⟨d,hd⟩:=ex ns.length
 have HD:=hid hd;obtain⟨q,J⟩:=ex (w.alloc (.cells #[.slice A gs.length c,.int .i64 root] 24))
 have l1:Below w.heap.size w q:=by rw[<-J];exact(Below.refl _ _).alloc (Nat.le_refl _) _
 have b1:Blk q w.heap.size 24 #[.slice A gs.length c,.int .i64 root]:=by rw[<-J];exact Blk.new _ _ _
 obtain⟨gb,U⟩:=ex w.heap.size
 have aP:Hid (B<=q.heap.size):=hid (Nat.le_trans hB l1.size);have aB:Hid (Below B w q):=hid (l1.mono hB);have ar:=hid (hv.later l1);have aa:=hid (h.below (l1.mono hB));have hdl:d+gs.length<=1073741823:=by omega
 rw[U]at b1;rw[hd]at ar;have aI:=hid b1;have aH:Hid (∀t,KeptT t w q):=hid (fun t=>KeptT.later l1);have g0:q.cell? ⟨gb,0,none⟩=some (.slice A gs.length c):=b1.cell 0;clear hv az l1 b1 h hB;go_enter func15,ntmps15;go_upto_region 1 with fail;(try rw[J]);(try rw[U]);(try rw[hd]);clear J U hd;go_upto_region 3 with fail;clear g0;go_loopw [0,14] (fun s0 s14 wr=>∃(j:Nat) (A1:Option Addr) (c1:Nat) (vs1:List NV),j<=gs.length/\s14=.int .i64 j/\s0=.slice A1 (d+j) c1/\Hid (Tab B wr (.slice A1 (d+j) c1) vs1 (ns++(gs.take j).map (shN d))/\Below B q wr/\(∀t,t≠36->KeptT t q wr)/\q.heap.size<=wr.heap.size)) (fun _ s14 _=>gs.length-(intOf s14).toNat)
 case atStart=>exact⟨0,A0,c0,vs,by omega,rfl,rfl,hid ⟨by simpa using ar.out,Below.refl _ _,fun t _=>KeptT.refl _ _,Nat.le_refl _⟩⟩
 case round=>
  obtain⟨j,A1,c1,vs1,hj,rfl,rfl,F⟩:=hrel;obtain⟨a,aQ⟩:∃a,a=wr:=⟨_,rfl⟩
  subst aQ;by_cases hlt:j<gs.length
  .have af:(j:Int)<(gs.length:Int):=by omega
   obtain⟨ad,ks,is,rfl,s⟩:=(aa.out.below F.out.2.1).node hlt;obtain⟨Z,kn,kc⟩:=ks;obtain⟨V,aE,ic⟩:=is;have ab:gs[j]∈gs:=List.getElem_mem hlt;obtain⟨ak,ae,aK⟩:=hks _ ab;have H:=hrb _ ab;obtain⟨n,hn⟩:=ex (gs[j])
   have aR:Hid ((gs.take (j+1)).map (shN d)=(gs.take j).map (shN d)++[shN d n]):=hid (by rw[List.take_succ_eq_append_getElem hlt,List.map_append,hn];rfl);rw[hn]at s ak ae aK H;obtain rfl:kn=n.keys.length:=s.kn;obtain rfl:aE=n.items.length:=s.inn;have x0:=s.c0;have x1:=s.c1;have x2:=s.c2;have x3:=s.c3;have x4:=s.c4;have al:Hid (RowAt intL a B Z n.keys/\RowAt intL a B V n.items):=hid ⟨s.keys,s.items⟩;have b:Hid (B<=a.heap.size):=hid (Nat.le_trans aP.out F.out.2.2.2);have aq:Hid ((∀x∈n.keys,x<=1152921504606846976)/\(∀x∈n.items,x<=1152921504606846976)):=hid ⟨fun x hx=>by have:=H x (List.mem_append_left _ hx);omega,fun x hx=>by have:=H x (List.mem_append_right _ hx);omega⟩;clear s ab hn H;go_upto_region 5 with fail;obtain⟨f,G⟩:=ex (a.alloc (.cells #[.int .i64 n.kind,.string ⟨n.text.toArray⟩,.bool n.ord,.slice Z n.keys.length kc,.slice V n.items.length ic] 36))
   obtain⟨l,o⟩:=ex a.heap.size
   have y:Blk f l 36 #[.int .i64 n.kind,.string ⟨n.text.toArray⟩,.bool n.ord,.slice Z n.keys.length kc,.slice V n.items.length ic]:=by rw[<-G,<-o];exact Blk.new _ _ _
   have l5:Below l a f:=by rw[<-G,<-o];exact(Below.refl _ _).alloc (Nat.le_refl _) _
   have ag:f.heap.size=l+1:=by rw[<-G,<-o];simp
   rw[G];(try rw[o]);have X:=hid l5;have ai:=hid y;have k:Hid (f.heap.size=l+1/\a.heap.size=l):=hid ⟨ag,o⟩;have y3:f.cell? ⟨l,3,none⟩=some (.slice Z n.keys.length kc):=y.cell 3;have y4:f.cell? ⟨l,4,none⟩=some (.slice V n.items.length ic):=y.cell 4;have yf:∀i,f.frozen? ⟨l,i,none⟩=false:=y.frozen;have HY:Hid (∀W,Below f.heap.size f W->W.cell? ⟨l,3,none⟩=some (.slice Z n.keys.length kc)/\W.cell? ⟨l,4,none⟩=some (.slice V n.items.length ic)/\∀i,W.frozen? ⟨l,i,none⟩=false):=hid (fun W u=>⟨(y.below u y.lt).cell 3,(y.below u y.lt).cell 4,(y.below u y.lt).frozen⟩);clear G o y l5 ag x0 x1 x2 x3 x4;have aF:Hid (∀W,Below f.heap.size f W->Calls prog 30 #[.slice Z n.keys.length kc,.int .i64 d] W fun e L=>Below f.heap.size f L/\Below W.heap.size W L/\∃g,g=W.heap.size/\e=.returned (.slice (some ⟨g,0,none⟩) n.keys.length n.keys.length)/\Blk L g 3 (icells (n.keys.map (· +d)))):=hid (fun W u=>by
    have hb:Below B a W:=(X.out.mono (by have:=k.out;have:=b.out;omega)).trans (u.mono (by have:=k.out;have:=b.out;omega));refine(zfg Z kc d n.keys ak aq.out.1 (by omega) W B (by have:=hb.size;have:=b.out;omega) (al.out.1.below hb)).mono ?_;rintro e L ⟨rfl,h1,h2⟩;exact⟨u.trans (h1.mono u.size),h1,_,rfl,rfl,h2⟩)
   have aJ:Hid (∀W,Below f.heap.size f W->Calls prog 30 #[.slice V n.items.length ic,.int .i64 d] W fun e L=>Below f.heap.size f L/\Below W.heap.size W L/\∃g,g=W.heap.size/\e=.returned (.slice (some ⟨g,0,none⟩) n.items.length n.items.length)/\Blk L g 3 (icells (n.items.map (· +d)))):=hid (fun W u=>by
    have hb:Below B a W:=(X.out.mono (by have:=k.out;have:=b.out;omega)).trans (u.mono (by have:=k.out;have:=b.out;omega));refine(zfg V ic d n.items ae aq.out.2 (by omega) W B (by have:=hb.size;have:=b.out;omega) (al.out.2.below hb)).mono ?_;rintro e L ⟨rfl,h1,h2⟩;exact⟨u.trans (h1.mono u.size),h1,_,rfl,rfl,h2⟩)
   go_cut [8] (fun s8 wx=>s8=.pointer (some ⟨l,0,none⟩)/\∃g1 g2 wy,wy=wx/\Hid (ShBox a wy l n d g1 g2))
   case first=>
    go_region_with ((first
     | (go_at_call 30;(with_reducible refine(aF.out _ ?_).mono ?_);(first|assumption|exact Below.refl _ _|exact(Below.refl _ _).drew|exact Below.drew (by assumption));rintro e1 aD ⟨aA,hc1,g1,aw,rfl,r⟩;obtain⟨q13,q14,q1f⟩:=HY.out aD aA;have aa:=hid aw;clear aw)
     | (go_at_call 30;(with_reducible refine(aJ.out _ ?_).mono ?_);(first|assumption|exact Below.refl _ _|exact(Below.refl _ _).drew|exact Below.drew (by assumption));rintro e2 aO ⟨Q,aM,g2,ah,rfl,am⟩;obtain⟨q23,q24,q2f⟩:=HY.out aO Q;have aG:=hid ah;clear ah)))
    all_goals
     go_wp2;go_meet;have e1:g1=l+1:=by have:=aa.out;have h2:=k.out;rw[show f.drew.heap.size=f.heap.size from rfl]at this;omega
     have e2:g1<g2:=by have:=aG.out;have:=r.lt;omega
     refine⟨rfl,g1,g2,_,rfl,hid ⟨((ai.out.below Q ai.out.lt).set_ 3 _).set_ 4 _,((r.below aM r.lt).far (by simp;omega) _).far (by simp;omega) _,(am.far (by simp;omega) _).far (by simp;omega) _,by have:=k.out;omega,by have:=k.out;omega,by omega,?_⟩⟩;have hw:a.heap.size=l:=k.out.2;rw[hw];exact((X.out.trans (Q.mono (by have:=k.out;omega))).setCell (by simp) _).setCell (by simp) _
   case rest=>
    obtain⟨rfl,g1,g2,N,rfl,I⟩:=hcut;obtain⟨z0,z1,z2,z3,z4⟩:=cells5 I.out.box;have S:Below a.heap.size a N:=I.out.below;have Y:=hid (F.out.1.later S);have ay:a.heap.size<N.heap.size:=by have:=I.out.b2.lt;have:=I.out.lo2;omega
    obtain⟨x,ax⟩:∃x:NV,x=⟨n.kind,n.text,n.ord,⟨some ⟨g1,0,none⟩,n.keys.length,n.keys.length⟩,⟨some ⟨g2,0,none⟩,n.items.length,n.items.length⟩⟩:=⟨_,rfl⟩
    have z:=Y.out.row;have av:vs1.length=d+j:=by
     have:=Y.out.rows.len;rw[this,List.length_append,List.length_map,List.length_take,HD.out];omega
    have m:Hid (OwnRow nodeL N B 36 (.slice A1 (d+j) c1) vs1):=hid z;have ao:=hid av;have E:Hid (B<=N.heap.size):=hid (by have:=b.out;omega);have p:=hid ax;have au:=hid S;have aC:=hid ay;clear z av ax S ay y3 y4 yf;go_wp2_with (at_builtin;go_must (refine zab _ rfl (.tmp 28) (.tmp 30) 22 36 80 rfl nodeT B (.slice A1 (d+j) c1) vs1 rfl (m.out.alloc _) _ _ 1 [x] rfl (RowAt.lit1 _ _ (by rw[p.out];rfl) _ ?_) ?_ ?_ ?_))
    any_goals (first|rfl| (have:=ao.out;have:=E.out;simp;omega))
    intro v' M C hg aN;obtain⟨A2,c2,an,_⟩:=C.form;have ac:(vs1++[x]).length=d+(j+1):=by rw[List.length_append,ao.out];rfl
    rw[ac]at an;subst an;have K:KeptT 3 N M:=(KeptT.alloc _ _ _).trans (KeptT.grown hg (m.out.alloc _) (by decide));have aj:∀t,t≠36->KeptT t N M:=fun t O=>(KeptT.alloc _ _ _).trans (KeptT.grown hg (m.out.alloc _) (Ne.symm O))
    have R:Below B N M:=((Below.refl B N).alloc E.out _).trans ((m.out.alloc _).grown_below hg (by rw[World.size_alloc];have:=E.out;omega));have ap:a.heap.size<=g1/\a.heap.size<=g2:=⟨I.out.lo1,I.out.lo2⟩
    have P:Tab B M (.slice A2 (d+(j+1)) c2) (vs1++[x]) (ns++(gs.take (j+1)).map (shN d)):=by
     rw[aR.out,<-List.append_assoc];refine⟨C,(Y.out.rows.kept K).snoc x (shN d n) (by rw[p.out];exact⟨rfl,rfl,rfl⟩) ?_ ?_ ?_ ?_⟩
     .rw[p.out];exact zb6 (K _ _ I.out.b1) (by have:=b.out;omega) (by simp[shN]) (by simp only[maxLen];omega)
     .rw[p.out];exact zb6 (K _ _ I.out.b2) (by have:=b.out;omega) (by simp[shN]) (by simp only[maxLen];omega)
     .intro g e1 e2;rw[p.out]at e1 e2;simp[SV.v,Value.ownBlock]at e1 e2;have:=I.out.ne_;omega
     .intro j' b' g e1;have:=((F.out.1.rows.own j' b').lt g e1).2;rw[p.out];constructor<;>(intro e2;simp[SV.v,Value.ownBlock]at e2;omega)
    have aL:Hid (Tab B M (.slice A2 (d+(j+1)) c2) (vs1++[x]) (ns++(gs.take (j+1)).map (shN d))/\Below B q M/\(∀t,t≠36->KeptT t q M)/\q.heap.size<=M.heap.size):=hid ⟨P,(F.out.2.1.trans (au.out.mono b.out)).trans R,fun t O=>((F.out.2.2.1 t O).trans (KeptT.later au.out)).trans (aj t O),by have:=F.out.2.2.2;have:=aC.out;have:=R.size;omega⟩;clear C hg aN ac K aj R P ap z0 z1 z2 z3 z4;go_wp2;go_roundw
    case rel=>exact⟨j+1,A2,c2,vs1++[x],by omega,by go_num,rfl,aL⟩
    case measure=>simp[intOf];omega
  .have af:¬(j:Int)<(gs.length:Int):=by omega
   have T:j=gs.length:=by omega
   have D:Hid (Tab B a (.slice A1 (d+j) c1) vs1 (ns++gs.map (shN d))/\Below B w a/\∀t,t≠36->KeptT t w a):=hid ⟨by
    have:=F.out.1;rwa[T,List.take_length,<-T]at this,aB.out.trans F.out.2.1,fun t O=>(aH.out t).trans (F.out.2.2.1 t O)⟩
   clear T;have g1:a.cell? ⟨gb,1,none⟩=some (.int .i64 root):=(F.out.2.2.1 _ (by decide) _ _ aI.out).cell 1;have hdd:d<=1073741823:=by omega
   have hrr:root<=1073741823:=by omega
   go_upto_region 8 with fail;go_quiet (fail);go_wp2;go_ret2;rw[HD.out];exact⟨_,vs1,rfl,D.out.1.later (below_drewN (Below.refl _ _) _),below_drewN D.out.2.1 _,fun t O=>(D.out.2.2 t O).trans (KeptT.drewN _ _ _)⟩
namespace Gr
def Nd.ni (x:Nd):Ni:=⟨x.kind,x.text,x.ord,x.keys.map Int.ofNat,x.items.map Int.ofNat⟩
theorem zy0 (x:Nd):x.ni.nd=x:=by
 cases x;simp[Nd.ni,Ni.nd,Function.comp_def]
theorem zim (ns:List Nd):(ns.map Nd.ni).map Ni.nd=ns:=by
 rw[List.map_map]
 conv=>rhs;rw[<-List.map_id ns]
 exact List.map_congr_left (fun x _=>zy0 x)
theorem zpp (ns:List Nd) (root:Nat) (hr:Refs ns) (hroot:root<ns.length):indB (ns.map Nd.ni) (root:Int)=true:=by
 unfold indB inR;simp only[List.length_map,Bool.and_eq_true,decide_eq_true_eq];refine⟨⟨by omega,by omega⟩,?_⟩;rw[List.all_map,List.all_eq_true];intro x a;show rng ns.length x.ni=true;unfold rng;rw[show x.ni.keys++x.ni.items=(x.keys++x.items).map Int.ofNat from by simp[Nd.ni],List.all_map,List.all_eq_true];intro y b;have:=hr x a y b;simp[inR];omega
end Gr
open Go.RowKit
theorem zvz (l:List Nat):intI.all (l.map Int.ofNat)=intL.all l:=by
 induction l with
 |nil=>rfl
 |cons x l ih=>
  have b:intI.all (Int.ofNat x::l.map Int.ofNat)=intI.enc (Int.ofNat x)++intI.all (l.map Int.ofNat):=rfl;have a:intL.all (x::l)=intL.enc x++intL.all l:=rfl;rw[List.map_cons,b,a,ih];rfl
theorem zfh {w:World} {B:Nat} {A:Option Addr} {l:List Nat} (h:RowAt intL w B A l):RowAt intI w B A (l.map Int.ofNat):=by
 unfold RowAt at h ⊢;rw[zvz,List.length_map];exact h
theorem GAt.toI {w:World} {B:Nat} {A:Option Addr} {vs:List NV} {ns:List Gr.Nd} (h:GAt w B A vs ns):IAt w B A vs (ns.map Gr.Nd.ni):=by
 refine⟨h.row,by simp[h.len],fun j f e=>?_,fun j f e=>?_⟩
 .rw[List.length_map]at e;rw[List.getElem_map];exact h.kind j f e
 .rw[List.length_map]at e;rw[List.getElem_map];obtain⟨a,b,c,d⟩:=h.nums j f e;exact⟨zfh a,by rw[b];simp[Gr.Nd.ni],zfh c,by rw[d];simp[Gr.Nd.ni]⟩
def checkG (sclr:Int->Gr.Str->Bool) (ns:List Gr.Nd) (root:Nat):Nat:=if ns.length>4096 then 7 else checkN sclr ns root
theorem zpq (T:World->Prop) (hT:Stays T) (sclr:Int->Gr.Str->Bool) (A:Option Addr) (c root:Nat) (vs:List NV) (ns:List Gr.Nd) (hks:NH ns) (hsc:ScalsOk T sclr ns) (hl:ns.length<=1073741823) (hr:Refs ns) (hroot:root<ns.length) (w:World) (hTw:T w) (h:GAt w w.heap.size A vs ns):
 Calls prog 13 #[.agg #[.slice A ns.length c,.int .i64 root]] w fun e w'=>e=.returned (.int .i64 (checkG sclr ns root:Nat))/\Below w.heap.size w w':=by
 have:=zfc T hT sclr A c (root:Int) vs (ns.map Gr.Nd.ni) (by rw[zim];exact hks) (by rw[zim];exact hsc) (by simpa using hl) w hTw h.toI;rw[List.length_map]at this;have e:checkI sclr (ns.map Gr.Nd.ni) (root:Int)=checkG sclr ns root:=by
  unfold checkI checkG;rw[List.length_map,zim,zpp ns root hr hroot];by_cases h1:ns.length>4096
  .rw[if_pos h1,if_pos h1]
  .rw[if_neg h1,if_neg h1,if_neg (by simp;intro e;rw[e]at hroot;simp at hroot),Int.toNat_natCast]
 rw[e]at this;exact this
def ChkOk (w:World) (g:Value) (chk:Nat):Prop:=∀W,Below w.heap.size w W->Calls prog 13 #[g] W fun e w'=>e=.returned (.int .i64 (chk:Nat))/\Below W.heap.size W w'
theorem ChkOk.later {w w':World} {g:Value} {chk:Nat} (h:ChkOk w g chk) (hb:Below w.heap.size w w'):ChkOk w' g chk:=fun W a=>h W (hb.trans (a.mono hb.size))
def gZero:Value:=.agg #[.slice none 0 0,.int .i64 0]
theorem zfi (A:Option Addr) (n c:Nat) (root:Int) (chk:Nat) (w:World) (h:ChkOk w (.agg #[.slice A n c,.int .i64 root]) chk):
 Calls prog 16 #[.agg #[.slice A n c,.int .i64 root]] w fun e w'=>e=.returned (.tuple #[if chk=0 then .agg #[.slice A n c,.int .i64 root]else gZero,.int .i64 (chk:Nat)])/\Below w.heap.size w w':=by
 have z:=hid h;clear h;go_enter func16,ntmps16;go_upto_region 1 with fail;obtain⟨j,b⟩:=ex ((w.alloc (.cells #[.slice A n c,.int .i64 root] 24)).alloc (.cells #[.slice none 0 0,.int .i64 0] 24))
 obtain⟨p,a⟩:=ex w.heap.size
 have u:Blk j p 24 #[.slice A n c,.int .i64 root]:=by rw[<-b,<-a];exact(Blk.new _ _ _).alloc _
 have x:Blk j (p+1) 24 #[.slice none 0 0,.int .i64 0]:=by rw[<-b,<-a];have:=Blk.new (w.alloc (.cells #[.slice A n c,.int .i64 root] 24)) 24 #[.slice none 0 0,.int .i64 0];rwa[World.size_alloc]at this
 have s:Below p w j:=by rw[<-b,<-a];exact((Below.refl _ _).alloc (Nat.le_refl _) _).alloc (by simp) _
 have t:=hid s;have l:=hid a;have r:Hid (ChkOk j (.agg #[.slice A n c,.int .i64 root]) chk):=hid (z.out.later (by rw[a];exact s));have g:=hid u;have q:=hid x;obtain⟨C,B⟩:=cells2 u;(try rw[b]);(try rw[a]);clear b a u x s;go_wp2_with fail;refine(r.out j (Below.refl _ _)).mono ?_;rintro e y ⟨rfl,d⟩;have k:=g.out.below d g.out.lt;have f:=q.out.below d q.out.lt;have m:Hid (Below p w y):=hid (t.out.trans (d.mono (by have:=g.out.lt;omega)));obtain⟨k0,k1⟩:=cells2 k;obtain⟨d0,d1⟩:=cells2 f;have df:∀i,y.frozen? ⟨p+1,i,none⟩=false:=f.frozen;have o:=hid f;clear d k f C B;by_cases h0:chk=0
 .subst h0;go_wp2_with fail;have e0:=((o.out.set_ 0 (.slice A n c)).set_ 1 (.int .i64 root)).cell 0;have e1:=((o.out.set_ 0 (.slice A n c)).set_ 1 (.int .i64 root)).cell 1;refine bodyPost_ret (v:=.tuple #[.agg #[.slice A n c,.int .i64 root],.int .i64 0]) (by rw[results_cell_tmp rfl];go_simp) rfl ⟨rfl,?_⟩;rw[l.out];exact(m.out.setCell (by simp) _).setCell (by simp) _
 .have h0I:((chk:Int)==0)=false:=by rw[beq_eq_false_iff_ne];omega
  go_wp2_with fail;refine bodyPost_ret (v:=.tuple #[gZero,.int .i64 chk]) (by rw[results_cell_tmp rfl];go_simp;rfl) rfl ⟨by first|rfl|rw[if_neg h0],?_⟩;rw[l.out];exact(m.out.setCell (by simp) _).setCell (by simp) _
theorem zst (A:Option Addr) (n c:Nat) (root:Int) (chk:Nat) (w:World) (h:ChkOk w (.agg #[.slice A n c,.int .i64 root]) chk):
 Calls prog 12 #[.agg #[.slice A n c,.int .i64 root]] w fun e w'=>e=.returned (.int .i64 (if chk=0 then(n:Int)else 0))/\Below w.heap.size w w':=by
 obtain⟨j,a⟩:=ex (w.alloc (.cells #[.slice A n c,.int .i64 root] 24))
 have k:Below w.heap.size w j:=by rw[<-a];exact(Below.refl _ _).alloc (Nat.le_refl _) _
 have l:Hid (ChkOk j (.agg #[.slice A n c,.int .i64 root]) chk):=hid (h.later k);have d:=hid k;clear h k;go_enter func12,ntmps12;go_upto_region 1 with fail;have m:Blk j w.heap.size 24 #[.slice A n c,.int .i64 root]:=by rw[<-a];exact Blk.new _ _ _
 obtain⟨q,p⟩:=cells2 m;have f:=hid m;(try rw[a]);clear a m;go_wp2_with fail;refine(l.out j (Below.refl _ _)).mono ?_;rintro e o ⟨rfl,b⟩;have i:Hid (Below w.heap.size w o):=hid (d.out.trans (b.mono d.out.size));have g:=f.out.below b f.out.lt;have k0:o.cell? ⟨w.heap.size,0,none⟩=some (.slice A n c):=g.cell 0;clear b g q p;by_cases h0:chk=0
 .subst h0;go_wp2;go_ret;exact⟨rfl,i.out⟩
 .have h0I:((chk:Int)==0)=false:=by rw[beq_eq_false_iff_ne];omega
  go_wp2;go_ret;exact⟨by first|rfl| (rw[if_neg h0];rfl),i.out⟩
def DepOk (w:World) (g:Value) (p:Int×Bool):Prop:=∀W,Below w.heap.size w W->Calls prog 23 #[g] W fun e w'=>e=.returned (.tuple #[.int .i64 p.1,.bool p.2])/\Below W.heap.size W w'
theorem zpr (A:Option Addr) (n c:Nat) (root:Int) (chk:Nat) (p:Int×Bool) (w:World) (h:ChkOk w (.agg #[.slice A n c,.int .i64 root]) chk) (hd:chk=0->DepOk w (.agg #[.slice A n c,.int .i64 root]) p):
 Calls prog 11 #[.agg #[.slice A n c,.int .i64 root]] w fun e w'=>e=.returned (.tuple #[.int .i64 (if chk=0 then p.1 else 0),.bool (if chk=0 then p.2 else false)])/\Below w.heap.size w w':=by
 obtain⟨l,a⟩:=ex (w.alloc (.cells #[.slice A n c,.int .i64 root] 24))
 have o:Below w.heap.size w l:=by rw[<-a];exact(Below.refl _ _).alloc (Nat.le_refl _) _
 have m:Hid (ChkOk l (.agg #[.slice A n c,.int .i64 root]) chk):=hid (h.later o);have j:=hid o;have u:=hid hd;clear h o hd;go_enter func11,ntmps11;go_upto_region 1 with fail;have s:Blk l w.heap.size 24 #[.slice A n c,.int .i64 root]:=by rw[<-a];exact Blk.new _ _ _
 obtain⟨y,v⟩:=cells2 s;have k:=hid s;(try rw[a]);clear a s;go_wp2_with fail;refine(m.out l (Below.refl _ _)).mono ?_;rintro e t ⟨rfl,d⟩;have f:Below w.heap.size w t:=j.out.trans (d.mono j.out.size);have b:=hid f;have g:=k.out.below d k.out.lt;obtain⟨k0,k1⟩:=cells2 g;clear d g y v f;by_cases h0:chk=0
 .have r:=hid (u.out h0 t b.out);subst h0;go_wp2_with fail;refine r.out.mono ?_;rintro e x ⟨rfl,i⟩;have q:Hid (Below w.heap.size w x):=hid (b.out.trans (i.mono b.out.size));clear i;go_wp2;go_ret2;exact⟨rfl,q.out⟩
 .have h0I:((chk:Int)==0)=false:=by rw[beq_eq_false_iff_ne];omega
  go_wp2;go_ret2;exact⟨by first|rfl| (rw[if_neg h0,if_neg h0];rfl),b.out⟩
def zv0 (w:World) (kind:Int) (text:Gr.Str) (r:Bool) (e:Ending) (w':World):Prop:=
 Below w.heap.size w w'/\(r=false->e=.returned (.tuple #[gZero,.int .i64 3]))/\(r=true->∃g,w.heap.size<=g/\e=.returned (.tuple #[.agg #[.slice (some ⟨g,0,none⟩) 1 1,.int .i64 0],.int .i64 0])/\Blk w' g 36 #[.int .i64 kind,.string ⟨text.toArray⟩,.bool false,.slice none 0 0,.slice none 0 0])
theorem zd1 (T:World->Prop) (hT:Stays T) (kind:Int) (text:Gr.Str) (r:Bool) (hk:0<=kind) (hk8:kind<=8) (hs:ScalOk T kind text r) (w:World) (hTw:T w):
 Calls prog 9 #[.int .i64 kind,.string ⟨text.toArray⟩] w (zv0 w kind text r):=by
 have c1:¬kind<0:=by omega
 have c2:¬(8:Int)<kind:=by omega
 obtain⟨t,c⟩:=ex (w.alloc (.cells #[.slice none 0 0,.int .i64 0] 24))
 obtain⟨f,b⟩:=ex w.heap.size
 have u:Below f w t:=by rw[<-c,<-b];exact(Below.refl _ _).alloc (Nat.le_refl _) _
 have B:Blk t f 24 #[.slice none 0 0,.int .i64 0]:=by rw[<-c,<-b];exact Blk.new _ _ _
 have C:=hid (hs t (hT _ _ hTw (by rw[b];exact u)));have x:=hid u;have k:=hid B;have j:=hid b;clear hs hTw u B;go_enter func9,ntmps9;go_upto_region 1 with fail;(try rw[c]);(try rw[b]);clear c b;go_wp2_with fail;refine C.out.mono ?_;rintro e d ⟨rfl,g⟩;have a:=k.out.below g k.out.lt;have m:Hid (Below f w d):=hid (x.out.trans (g.mono (by have:=k.out.lt;omega)));have y:=hid a;have df:∀i,d.frozen? ⟨f,i,none⟩=false:=a.frozen;have df2:∀o i,(d.alloc o).frozen? ⟨f,i,none⟩=false:=fun o=>(a.alloc o).frozen
 obtain⟨d0,d1⟩:=cells2 a;have d2:∀o,(d.alloc o).cell? ⟨f,0,none⟩=some (.slice none 0 0):=fun o=>(a.alloc o).cell 0
 have d3:∀o,(d.alloc o).cell? ⟨f,1,none⟩=some (.int .i64 0):=fun o=>(a.alloc o).cell 1
 have z:Hid (f<d.heap.size):=hid a.lt;clear g a;cases r with
 |false=>
  go_wp2_with fail;refine bodyPost_ret (v:=.tuple #[gZero,.int .i64 3]) (by rw[results_cell_tmp rfl];go_simp;rfl) rfl ⟨?_,fun _=>rfl,fun h=>nomatch h⟩;rw[j.out];exact(m.out.setCell (by simp) _).setCell (by simp) _
 |true=>
  go_wp2_with fail;obtain⟨o,A⟩:=ex (Obj.cells #[Value.int IntKind.i64 kind,Value.string {data:=List.toArray text},Value.bool false,Value.slice none 0 0,Value.slice none 0 0] 36)
  rw[A];obtain⟨q,n⟩:=ex d.heap.size
  rw[n];have p:=((y.out.alloc o).set_ 0 (.slice (some ⟨q,0,none⟩) 1 1)).set_ 1 (.int .i64 0);have e0:=p.cell 0;have e1:=p.cell 1;have l:=m.out;have HSZ2:=z.out;have s:Blk (d.alloc o) q 36 #[.int .i64 kind,.string ⟨text.toArray⟩,.bool false,.slice none 0 0,.slice none 0 0]:=by rw[<-n,<-A];exact Blk.new _ _ _
  refine bodyPost_ret (v:=.tuple #[.agg #[.slice (some ⟨q,0,none⟩) 1 1,.int .i64 0],.int .i64 0]) ?_ rfl (And.intro ?_ (And.intro (fun h=>nomatch h) (fun _=>⟨q,?_,rfl,?_⟩)))
  .rw[results_cell_tmp rfl];go_simp
  .rw[j.out];exact((l.alloc (by omega) o).setCell (by simp) _).setCell (by simp) _
  .rw[j.out];omega
  .exact(s.far (by simp;omega) _).far (by simp;omega) _
theorem Tab.push {B:Nat} {w1 w2:World} {g n cap k:Nat} {x:NV} {vl:List NV} {m:Gr.Nd} {nl:List Gr.Nd} {v:Value} (h:Tab B w1 (.slice (some ⟨g,0,none⟩) n cap) (x::vl) (m::nl))
 (hown:OwnRow intL w2 B 3 v (m.items++[k])) (hg:w1.grownBy w2 x.i.v.ownBlock) (hat:v.ownBlock=x.i.v.ownBlock\/v.ownBlock=some w1.heap.size):
 ∃i:SV,v=i.v/\Tab B (w2.setCell ⟨g,4,none⟩ v) (.slice (some ⟨g,0,none⟩) n cap) ({x with i:=i}::vl) ({m with items:=m.items++[k]}::nl)/\(∀t,t≠36->t≠3->KeptT t w1 (w2.setCell ⟨g,4,none⟩ v))/\(B<=w1.heap.size->Below B w1 (w2.setCell ⟨g,4,none⟩ v)):=by
 obtain⟨A,c,F,_⟩:=hown.form;have z:ints (x::vl) 0 true=x.i:=rfl;have y:intsOf (m::nl) 0 true=m.items:=rfl;have j:=h.rows.own 0 true;rw[z,y]at j;have q:KeptT 36 w1 w2:=KeptT.grown hg j (by decide);obtain⟨w,f,rest,hv',hcap,u,o,d⟩:=h.row.row (by simp);obtain⟨rfl,rfl,rfl⟩:g=w/\n=(x::vl).length/\cap=f:=by
  grind
 have b:=q _ _ u;have r:=zmn b 0 (by simp) ⟨A,(m.items++[k]).length,c⟩;have a:v=(⟨A,(m.items++[k]).length,c⟩:SV).v:=F;rw[<-a,Nat.zero_mul,Nat.zero_add]at r;have l:KeptT 3 w2 (w2.setCell ⟨g,4,none⟩ v):=KeptT.setCell (p:=⟨g,4,none⟩) b (by decide) v;refine⟨⟨A,(m.items++[k]).length,c⟩,a,⟨d _ _ (by simp) r,?_⟩,?_,?_⟩
 .have E:=h.rows.grow (w':=w2) 0 true {x with i:=⟨A,(m.items++[k]).length,c⟩} {m with items:=m.items++[k]} (by simp) ⟨rfl,rfl,rfl⟩ ⟨rfl,rfl,rfl⟩ rfl rfl (by rw[if_pos rfl,if_pos rfl,<-a];exact hown) hg (by rw[if_pos rfl,<-a];exact hat);exact E.kept l
 .intro t s D;exact(KeptT.grown hg j (fun e=>D e.symm)).trans (KeptT.setCell (p:=⟨g,4,none⟩) b s v)
 .intro C;exact(j.grown_below hg C).setCell o v
theorem Tab.one {B:Nat} {w:World} {g:Nat} {kind:Int} {text:Gr.Str} {ord:Bool} (h:Blk w g 36 #[.int .i64 kind,.string ⟨text.toArray⟩,.bool ord,.slice none 0 0,.slice none 0 0]) (hB:B<=g):
 Tab B w (.slice (some ⟨g,0,none⟩) 1 1) [⟨kind,text,ord,SV.nil,SV.nil⟩] [⟨kind,text,ord,[],[]⟩]:=by
 have a:=(Rows.nil B w).snoc ⟨kind,text,ord,SV.nil,SV.nil⟩ ⟨kind,text,ord,[],[]⟩ ⟨rfl,rfl,rfl⟩ OwnRow.nil OwnRow.nil (fun g h=>by simp[SV.nil,SV.v,Value.ownBlock]at h) (fun j b g h=>by simp[ints,SV.nil,SV.v,Value.ownBlock]at h);refine⟨⟨nodeL.all_len _,.inr ⟨g,1,_,rfl,hB,h,Nat.le_refl _,by decide,rfl,rfl⟩⟩,a⟩
structure GArg where
 a:Option Addr
 c:Nat
 root:Int
 vs:List NV
 is:List Gr.Ni
def GArg.v (x:GArg):Value:=.agg #[.slice x.a x.is.length x.c,.int .i64 x.root]
def argL:Lay GArg:={enc:=fun x=>[.slice x.a x.is.length x.c,.int .i64 x.root],sz:=2,len:=fun _=>rfl,one:=fun x u hu=>by simp at hu;rcases hu with rfl|rfl<;>rfl,pos:=by omega}
theorem zup {w:World} {B:Nat} {A:Option Addr} {l:List GArg} {k:Nat} (h:RowAt argL w B A l) (hk:k<l.length):∃ad,A=some ad/\ad.block<B/\w.cell? (ad.add (k*2))=some (.slice l[k].a l[k].is.length l[k].c)/\
 w.cell? {block:=(ad.add (k*2)).block,off:=(ad.add (k*2)).off+1}=some (.int .i64 l[k].root):=by
 obtain⟨ad,d,b,f,e⟩:=h.get hk;exact⟨ad,d,b,f _ rfl,e 1 _ (by omega) rfl⟩
structure GsAt (w:World) (B:Nat) (A:Option Addr) (l:List GArg):Prop where
 row:RowAt argL w B A l
 each:∀x∈l,IAt w B x.a x.vs x.is
theorem GsAt.below {w w':World} {B:Nat} {A:Option Addr} {l:List GArg} (h:GsAt w B A l) (hb:Below B w w'):GsAt w' B A l:=⟨h.row.below hb,fun x a=>(h.each x a).below hb⟩
namespace Gr
def push0 (k:Nat):List Nd->List Nd
 | []=>[]
 |m::l=>{m with items:=m.items++[k]}::l
def lstep (ns:List Nd) (g:List Ni×Int):List Nd:=push0 (g.2.toNat+ns.length) (ns++(g.1.map Ni.nd).map (shN ns.length))
def listN (gs:List (List Ni×Int)):List Nd:=gs.foldl lstep [⟨9,[],false,[],[]⟩]
end Gr
def GArg.p (x:GArg):List Gr.Ni×Int:=(x.is,x.root)
def GArg.chk (sclr:Int->Gr.Str->Bool) (x:GArg):Nat:=checkI sclr x.is x.root
theorem zx4 {sclr:Int->Gr.Str->Bool} {x:GArg} (h:x.chk sclr=0):x.is.length<=4096/\0<x.is.length/\indB x.is x.root=true:=by
 unfold GArg.chk checkI at h;by_cases h1:x.is.length>4096
 .rw[if_pos h1]at h;cases h
 .grind
theorem zx5 {is:List Gr.Ni} {root:Int} (h:indB is root=true):∃r:Nat,root=(r:Int)/\r<is.length/\(∀x∈is,∀y∈x.keys++x.items,0<=y)/\Refs (is.map Gr.Ni.nd):=by
 unfold indB at h;rw[Bool.and_eq_true]at h;have a:=h.1;simp only[inR,Bool.and_eq_true,decide_eq_true_eq]at a;refine⟨root.toNat,by omega,by omega,?_,?_⟩
 .exact(za8 h.2).1
 .exact(za8 h.2).2
namespace Gr
structure Bfs (sc:Nat->List Nat) (n a:Nat) (m:List Bool) (L:List Nat) (i:Nat) (P:List Nat):Prop where
 ml:m.length=n
 lt:∀x∈L,x<n
 nd:L.Nodup
 mem:∀x,mkd m x=true↔x∈L
 frm:a∈L
 re:∀x∈L,Reach sc a x
 done:∀j,j<i->∀x,L[j]? =some x->∀y∈sc x,mkd m y=true
 part:∀y∈P,mkd m y=true
section
variable {sc:Nat->List Nat} {n a i:Nat} {m:List Bool} {L P:List Nat}
theorem Bfs.start (h:a<n):Bfs sc n a ((List.replicate n false).set a true) [a] 0 [] where
 ml:=by simp
 lt x hx:=by rw[List.mem_singleton.1 hx];exact h
 nd:=by simp
 mem x:=by
  rw[zkq (by simpa using h),zf2];by_cases e:x=a
  .simp[e]
  .simp[e]
 frm:=by simp
 re x hx:=by rw[List.mem_singleton.1 hx];exact .refl a
 done j hj:=by omega
 part y hy:=by cases hy
theorem Bfs.old (h:Bfs sc n a m L i P) {y:Nat} (hy:mkd m y=true):Bfs sc n a m L i (P++[y]):=
 ⟨h.ml,h.lt,h.nd,h.mem,h.frm,h.re,h.done,fun z hz=>by
  rcases List.mem_append.1 hz with hz|hz
  .exact h.part z hz
  .rw[List.mem_singleton.1 hz];exact hy⟩
theorem Bfs.new (h:Bfs sc n a m L i P) {u y:Nat} (hi:L[i]? =some u) (hys:y∈sc u) (hyn:y<n) (hy:mkd m y=false):Bfs sc n a (m.set y true) (L++[y]) i (P++[y]):=by
 have c:=fun x=>zkq (m:=m) (a:=y) (by rw[h.ml];exact hyn) x
 have b:∀x,mkd m x=true->mkd (m.set y true) x=true:=fun x hx=>by rw[c];split<;>simp_all
 have hil:i<L.length:=by
  grind
 refine⟨by simp[h.ml],?_,?_,?_,List.mem_append_left _ h.frm,?_,?_,?_⟩
 .intro x hx;rcases List.mem_append.1 hx with hx|hx
  .exact h.lt x hx
  .grind
 .rw[List.nodup_append];refine⟨h.nd,by simp,?_⟩;intro x hx z hz e;rw[List.mem_singleton.1 hz]at e;subst e;rw[(h.mem x).2 hx]at hy;cases hy
 .intro x;rw[c,List.mem_append];by_cases e:x=y
  .simp[e]
  .rw[if_neg e,h.mem];simp[e]
 .intro x hx;rcases List.mem_append.1 hx with hx|hx
  .exact h.re x hx
  .rw[List.mem_singleton.1 hx];exact(h.re u (List.mem_of_getElem? hi)).trans (.one hys)
 .intro j d x hx z hz;rw[List.getElem?_append_left (by omega)]at hx;exact b z (h.done j d x hx z hz)
 .intro z hz;rcases List.mem_append.1 hz with hz|hz
  .exact b z (h.part z hz)
  .grind
theorem Bfs.next (h:Bfs sc n a m L i P) {u:Nat} (hi:L[i]? =some u) (hP:P=sc u):Bfs sc n a m L (i+1) []:=
 ⟨h.ml,h.lt,h.nd,h.mem,h.frm,h.re,fun j hj x b y c=>by
  rcases Nat.lt_or_ge j i with h1|h1
  .exact h.done j h1 x b y c
  .obtain rfl:j=i:=by omega
   rw[hi]at b;injection b with b
   subst b;exact h.part y (hP▸c),fun y c=>by cases c⟩
theorem Bfs.len_le (h:Bfs sc n a m L i P):L.length<=n:=by
 rw[<-zdt n L h.nd h.lt];have:=List.countP_le_length (p:=fun i=>decide (i∈L)) (l:=List.range n);simpa using this
theorem Bfs.last (h:Bfs sc n a m L i P) (hi:L.length<=i) (x:Nat):mkd m x=true↔Reach sc a x:=by
 constructor
 .intro b;exact h.re x ((h.mem x).1 b)
 .intro e;refine e.closed (p:=fun x=>mkd m x=true) ?_ ((h.mem a).2 h.frm);intro u d v f;obtain⟨j,c,rfl⟩:=List.getElem_of_mem ((h.mem u).1 d);exact h.done j (by omega) _ (List.getElem?_eq_getElem c) v f
end
section
variable {ns:List Nd} {root a:Nat}
theorem zo6 {l m:List Bool} (hl:l.length=m.length) (h:∀x,mkd l x=true↔mkd m x=true):l=m:=by
 apply List.ext_getElem hl;intro i c b;have:=h i;unfold mkd at this;simp only[List.getD_eq_getElem?_getD,List.getElem?_eq_getElem c,List.getElem?_eq_getElem b,Option.getD_some]at this;cases e1:l[i]<;>cases e2:m[i]<;>simp_all
theorem zbe (h:Refs ns) (hr:root<ns.length):(marks ns root).length=ns.length:=
 (zbq h.succ ns.length (List.replicate ns.length false) root (by simp) hr (zdu _)).len
theorem zf9 (h:Refs ns):(inKeys ns).length=ns.length:=by
 have b:∀k∈allKeys ns,k<ns.length:=by
  intro k b;obtain⟨y,d,c⟩:=List.mem_flatMap.1 b;exact h y d k (List.mem_append_left _ c)
 exact(zev (zbq h.succ ns.length) (allKeys ns) (List.replicate ns.length false) b (by simp) (zdu _)).len
theorem Bfs.marks {i:Nat} {m:List Bool} {L P:List Nat} (h:Refs ns) (ha:a<ns.length) (hb:Bfs (succ ns) ns.length a m L i P) (hi:L.length<=i):m=Gr.marks ns a:=
 zo6 (by rw[hb.ml,zbe h ha]) (fun x=>by rw[hb.last hi,za2 h ha])
def orM (o m:List Bool):List Bool:=List.zipWith (·|| ·) o m
theorem zo7 {o m:List Bool} (h:o.length=m.length):(orM o m).length=o.length:=by simp[orM,h]
theorem zun {o m:List Bool} (h:o.length=m.length) (x:Nat):mkd (orM o m) x=(mkd o x || mkd m x):=by
 unfold mkd orM;simp only[List.getD_eq_getElem?_getD,List.getElem?_zipWith];rcases Nat.lt_or_ge x o.length with h1|h1
 .grind
 .grind
theorem zii (h:Refs ns):∀(K:List Nat) (o:List Bool),(∀k∈K,k<ns.length)->o.length=ns.length->
 (K.foldl (fun o k=>orM o (Gr.marks ns k)) o).length=ns.length/\∀x,mkd (K.foldl (fun o k=>orM o (Gr.marks ns k)) o) x=true↔mkd o x=true\/∃k∈K,Reach (succ ns) k x:=by
 intro K
 induction K with
 |nil=>intro o _ b;exact⟨b,fun x=>by simp⟩
 |cons k K ih=>
  intro o c b;have d:=c k (.head _);have e:=zbe h d;obtain⟨f,g⟩:=ih (orM o (Gr.marks ns k)) (fun z j=>c z (.tail _ j)) (by rw[zo7 (by omega),b]);refine⟨f,fun x=>?_⟩;rw[List.foldl_cons,g,zun (by omega),Bool.or_eq_true,za2 h d];constructor
  .grind
  .grind
theorem zjp (h:Refs ns):(allKeys ns).foldl (fun o k=>orM o (Gr.marks ns k)) (List.replicate ns.length false)=Gr.inKeys ns:=by
 have b:∀k∈allKeys ns,k<ns.length:=by
  intro k b;obtain⟨y,e,c⟩:=List.mem_flatMap.1 b;exact h y e k (List.mem_append_left _ c)
 obtain⟨f,d⟩:=zii h (allKeys ns) (List.replicate ns.length false) b (by simp);refine zo6 (by rw[f,zf9 h]) (fun x=>?_);rw[d,zan h,zf2];simp
end
end Gr
theorem zio (A A2:Option Addr) (c d n:Nat) (l:List Int) (hn:Hid (n=l.length)) (hl:n<=9223372036854775807) (w:World) (h:RowAt intI w w.heap.size A l) (h2:RowAt intI w w.heap.size A2 l):
 Calls prog 34 #[.slice A n c,.slice A2 n d] w fun e w'=>e=.returned (.bool true)/\Below w.heap.size w w':=by
 have H:=hid (And.intro h h2);clear h h2;go_enter func34,ntmps34;go_wp2_with fail;go_loopw [5] (fun s5 wr=>∃k:Nat,k<=n/\s5=.int .i64 (k:Int)/\Hid (Below w.heap.size w wr)) (fun s5 _=>n-(intOf s5).toNat)
 case atStart=>exact⟨0,Nat.zero_le _,rfl,hid (Below.refl _ _)⟩
 case round=>
  obtain⟨k,hk,rfl,b⟩:=hrel;by_cases hlt:k<n
  .have a:(k:Int)<(n:Int):=by omega
   obtain⟨ad,rfl,_,g⟩:=ze7 (H.out.1.below b.out) (show k<l.length by have:=hn.out;omega);obtain⟨ad2,rfl,_,i⟩:=ze7 (H.out.2.below b.out) (show k<l.length by have:=hn.out;omega);obtain⟨p,f⟩:∃p,l[k]'(by have:=hn.out;omega)=p:=⟨_,rfl⟩
   rw[f]at g i;clear f;go_wp2_with fail;go_quiet (fail);go_wp2;go_roundw
   case rel=>exact⟨k+1,by omega,by go_num,hid (below_drewN b.out _)⟩
   case measure=>simp[intOf];omega
  .have a:¬(k:Int)<(n:Int):=by omega
   go_wp2;go_ret;exact⟨rfl,b.out⟩
def Sz (is:List Gr.Ni):Prop:=is.length<=9223372036854775807/\∀x∈is,x.text.length<=9223372036854775807/\x.keys.length<=9223372036854775807/\x.items.length<=9223372036854775807
theorem zmu (A A2:Option Addr) (c c2:Nat) (root:Int) (vs vs2:List NV) (is:List Gr.Ni) (hz:Sz is) (w:World) (h:IAt w w.heap.size A vs is) (h2:IAt w w.heap.size A2 vs2 is):
 Calls prog 21 #[.agg #[.slice A is.length c,.int .i64 root],.agg #[.slice A2 is.length c2,.int .i64 root]] w fun e w'=>e=.returned (.bool true)/\Below w.heap.size w w':=by
 have H:=hid (And.intro h h2);have HZ:=hid hz;have hl:=hz.1;obtain⟨N,hN⟩:=ex is.length
 have HN:=hid hN;rw[hN]at hl ⊢;clear h h2 hz hN;obtain⟨m,o⟩:=ex w.heap.size
 have ac:=hid o;go_enter func21,ntmps21;go_upto_region 1 with fail;obtain⟨t,J⟩:=ex ((w.alloc (.cells #[.slice A N c,.int .i64 root] 24)).alloc (.cells #[.slice A2 N c2,.int .i64 root] 24))
 have i:Hid (Blk t m 24 #[.slice A N c,.int .i64 root]/\Blk t (m+1) 24 #[.slice A2 N c2,.int .i64 root]/\Below m w t):=hid (by
  rw[<-J,<-o];refine⟨(Blk.new _ _ _).alloc _,?_,((Below.refl _ _).alloc (Nat.le_refl _) _).alloc (by simp) _⟩;have:=Blk.new (w.alloc (.cells #[.slice A N c,.int .i64 root] 24)) 24 #[.slice A2 N c2,.int .i64 root];rw[World.size_alloc]at this;exact this)
 have U:Hid (IAt t m A vs is/\IAt t m A2 vs2 is):=hid (by rw[<-o];exact⟨H.out.1.below (by have:=i.out.2.2;rwa[<-o]at this),H.out.2.below (by have:=i.out.2.2;rwa[<-o]at this)⟩);(try rw[J]);(try rw[o]);clear J o H;obtain⟨a0,a1⟩:=cells2 i.out.1;obtain⟨b0,b1⟩:=cells2 i.out.2.1;go_wp2_with fail;clear a0 a1 b0 b1;have l:Hid (m+1<t.heap.size):=hid i.out.2.1.lt;go_loopw [5] (fun s5 wr=>∃k:Nat,k<=N/\s5=.int .i64 (k:Int)/\Hid (Below t.heap.size t wr)) (fun s5 _=>N-(intOf s5).toNat)
 case atStart=>exact⟨0,Nat.zero_le _,rfl,hid (Below.refl _ _)⟩
 case round=>
  obtain⟨k,hk,rfl,L⟩:=hrel;obtain⟨f,ag⟩:∃f,f=wr:=⟨_,rfl⟩
  subst ag;have ca:=i.out.1.below L.out i.out.1.lt;have cb:=i.out.2.1.below L.out i.out.2.1.lt;have a0:f.cell? ⟨m,0,none⟩=some (.slice A N c):=ca.cell 0;have b0:f.cell? ⟨m+1,0,none⟩=some (.slice A2 N c2):=cb.cell 0;have j:Hid (t.heap.size<=f.heap.size):=hid L.out.size;clear ca cb;by_cases hlt:k<N
  .have W:(k:Int)<(N:Int):=by omega
   have y:k<is.length:=by rw[HN.out];exact hlt
   have lq:=L.out.mono (show m<=t.heap.size by have:=l.out;omega);obtain⟨x,⟨M,kn,X⟩,⟨F,qn,O⟩,rfl,Z,c0,c1,T,c3,c4,r1,Y,r2,n2⟩:=(U.out.1.below lq).node y;obtain⟨g,⟨s,d,u⟩,⟨p,b,r⟩,rfl,G,d0,d1,d2,d3,d4,s1,m1,s2,m2⟩:=(U.out.2.below lq).node y;obtain⟨C,P⟩:=ex (is[k].kind)
   obtain⟨v,S⟩:=ex (is[k].text)
   obtain⟨D,R⟩:=ex (is[k].ord)
   obtain⟨K,hK⟩:=ex (is[k].keys)
   obtain⟨Q,hQ⟩:=ex (is[k].items)
   have z:=HZ.out.2 _ (List.getElem_mem y);simp only[P,S,R,hK,hQ]at c0 c1 T d0 d1 d2 r1 Y r2 n2 s1 m1 s2 m2 z;simp only at c3 c4 d3 d4;obtain rfl:d=kn:=m1.trans Y.symm;obtain rfl:b=qn:=m2.trans n2.symm;have q:Hid (RowAt intI f m M K/\RowAt intI f m F Q/\RowAt intI f m s K/\RowAt intI f m p Q):=hid ⟨r1,r2,s1,s2⟩;have E:Hid (d=K.length/\b=Q.length):=hid ⟨Y,n2⟩;have zk:d<=9223372036854775807:=by rw[Y];exact z.2.1
   have zq:b<=9223372036854775807:=by rw[n2];exact z.2.2
   clear P S R hK hQ r1 Y r2 n2 s1 m1 s2 m2 z lq y Z G;go_wp2_with fail;go_cut [6,7] (fun s6 s7 wx=>∃g6 g7,s6=.pointer (some ⟨g6,0,none⟩)/\s7=.pointer (some ⟨g7,0,none⟩)/\Hid (Blk wx g6 36 #[.int .i64 C,.string ⟨v.toArray⟩,.bool D,.slice M d X,.slice F b O]/\Blk wx g7 36 #[.int .i64 C,.string ⟨v.toArray⟩,.bool D,.slice s d u,.slice p b r]/\Below f.heap.size f wx))
   case first=>
    go_region_held3 (fun w'=>w'.cell? ⟨m,0,none⟩=some (.slice (some x) N c)/\w'.cell? ⟨m+1,0,none⟩=some (.slice (some g) N c2)/\
     w'.cell? (x.add (k*5))=some (.int .i64 C)/\
     w'.cell? {block:=(x.add (k*5)).block,off:=(x.add (k*5)).off+1}=some (.string ⟨v.toArray⟩)/\
     w'.cell? {block:=(x.add (k*5)).block,off:=(x.add (k*5)).off+2}=some (.bool D)/\
     w'.cell? {block:=(x.add (k*5)).block,off:=(x.add (k*5)).off+3}=some (.slice M d X)/\
     w'.cell? {block:=(x.add (k*5)).block,off:=(x.add (k*5)).off+4}=some (.slice F b O)/\
     w'.cell? (g.add (k*5))=some (.int .i64 C)/\
     w'.cell? {block:=(g.add (k*5)).block,off:=(g.add (k*5)).off+1}=some (.string ⟨v.toArray⟩)/\
     w'.cell? {block:=(g.add (k*5)).block,off:=(g.add (k*5)).off+2}=some (.bool D)/\
     w'.cell? {block:=(g.add (k*5)).block,off:=(g.add (k*5)).off+3}=some (.slice s d u)/\
     w'.cell? {block:=(g.add (k*5)).block,off:=(g.add (k*5)).off+4}=some (.slice p b r))
      (first|go_keep| (simp[go_sem])) (fail)
    all_goals
     go_wp2;go_meet
    .refine⟨f.heap.size,f.heap.size+1,rfl,rfl,hid ⟨(Blk.new _ _ _).alloc _,?_,((((Below.refl f.heap.size f).alloc (Nat.le_refl _) _).alloc (by simp) _).drew)⟩⟩;have:=Blk.new (f.alloc (.cells #[.int .i64 C,.string ⟨v.toArray⟩,.bool D,.slice M d X,.slice F b O] 36)) 36 #[.int .i64 C,.string ⟨v.toArray⟩,.bool D,.slice s d u,.slice p b r];rw[World.size_alloc]at this;exact this
    .refine⟨f.heap.size+1,f.heap.size,rfl,rfl,hid ⟨?_,(Blk.new _ _ _).alloc _,((((Below.refl f.heap.size f).alloc (Nat.le_refl _) _).alloc (by simp) _).drew)⟩⟩;have:=Blk.new (f.alloc (.cells #[.int .i64 C,.string ⟨v.toArray⟩,.bool D,.slice s d u,.slice p b r] 36)) 36 #[.int .i64 C,.string ⟨v.toArray⟩,.bool D,.slice M d X,.slice F b O];rw[World.size_alloc]at this;exact this
   case rest=>
    obtain⟨g6,g7,rfl,rfl,a⟩:=hcut;clear c0 c1 T c3 c4 d0 d1 d2 d3 d4 a0 b0;obtain⟨e0,e1,e2,e3⟩:=cells4 a.out.1;obtain⟨f0,f1,f2,f3⟩:=cells4 a.out.2.1;have hts:((⟨v.toArray⟩:ByteArray)==⟨v.toArray⟩)=true:=by rw[str_eq];simp
    have I:Hid (Below m f wc):=hid (a.out.2.2.mono (by have:=l.out;have:=j.out;omega));have af:=hid (zio M s X u d K (hid E.out.1) zk wc ((q.out.1.below I.out).more (by have:=l.out;have:=j.out;have:=a.out.2.2.size;omega)) ((q.out.2.2.1.below I.out).more (by have:=l.out;have:=j.out;have:=a.out.2.2.size;omega)));go_wp2_with fail;refine af.out.mono ?_;rintro _ w5 ⟨rfl,n⟩;have aa:=hid n;have x6:=a.out.1.below n a.out.1.lt;have x7:=a.out.2.1.below n a.out.2.1.lt;have e4:w5.cell? ⟨g6,4,none⟩=some (.slice F b O):=x6.cell 4;have f4:w5.cell? ⟨g7,4,none⟩=some (.slice p b r):=x7.cell 4;have B:Hid (Below m f w5):=hid (I.out.trans (n.mono (by have:=l.out;have:=j.out;have:=a.out.2.2.size;omega)));have ab:=hid (zio F p O r b Q (hid E.out.2) zq w5 ((q.out.2.1.below B.out).more (by have:=l.out;have:=j.out;have:=a.out.2.2.size;have:=n.size;omega)) ((q.out.2.2.2.below B.out).more (by have:=l.out;have:=j.out;have:=a.out.2.2.size;have:=n.size;omega)));clear n x6 x7 e0 e1 e2 e3 f0 f1 f2 f3;go_wp2_with fail;refine ab.out.mono ?_;rintro _ w6 ⟨rfl,V⟩;have ae:Hid (Below t.heap.size t w6):=hid (L.out.trans ((a.out.2.2.mono j.out).trans ((aa.out.mono (by have:=j.out;have:=a.out.2.2.size;omega)).trans (V.mono (by have:=j.out;have:=a.out.2.2.size;have:=aa.out.size;omega)))));clear V e4 f4;go_wp2;go_roundw
    case rel=>exact⟨k+1,by omega,by go_num,ae⟩
    case measure=>simp[intOf];omega
  .have W:¬(k:Int)<(N:Int):=by omega
   go_wp2;go_ret;exact⟨rfl,by rw[ac.out];exact i.out.2.2.trans (L.out.mono (by have:=l.out;omega))⟩
namespace Gr
def wtN (ns:List Nd) (i:Nat):Nat:=(ns[i]?.map (fun x=>x.text.length+30)).getD 0
def plen (ns:List Nd) (f:Nat) (L:List Nat):Nat:=(L.map (fun i=>(printF ns f i).length)).sum
def wtS (ns:List Nd) (L:List Nat):Nat:=(L.map (wtN ns)).sum
def kids (ns:List Nd) (L:List Nat):List Nat:=L.flatMap (succ ns)
theorem zk3 {l m:List Nat} (h:l.Perm m):l.sum=m.sum:=by
 grind
theorem zgb (n:Nat) (L:List Nat) (hd:L.Nodup) (hL:∀x∈L,x<n):∃R,(L++R).Perm (List.range n):=by
 refine⟨(List.range n).filter (fun x=>decide (x∉L)),?_⟩;refine(zey (List.range n) _ List.nodup_range (fun x hx=>?_) ?_).symm
 .grind
 .rw[List.length_append,<-List.countP_eq_length_filter,<-zdt n L hd hL];rw[List.length_eq_countP_add_countP (l:=List.range n) (p:=fun i=>decide (i∈L))];apply Nat.le_of_eq
  congr 1
  exact List.countP_congr (fun x _=>by simp)
theorem zxz (ns:List Nd) (L:List Nat) (hd:L.Nodup) (hL:∀x∈L,x<ns.length):wtS ns L<=wtS ns (List.range ns.length):=by
 obtain⟨R,a⟩:=zgb ns.length L hd hL;unfold wtS;rw[<-zk3 (a.map (wtN ns)),List.map_append,List.sum_append];omega
theorem zpe (ns:List Nd):kids ns (List.range ns.length)=refs ns:=by
 unfold kids refs;rw[List.flatMap_def,List.flatMap_def]
 congr 1
 apply List.ext_getElem
 .simp
 .intro i a h2;simp only[List.length_map,List.length_range]at a;simp[zda a]
theorem zmj (ns:List Nd) (L:List Nat) (hd:L.Nodup) (hL:∀x∈L,x<ns.length) (y:Nat):(kids ns L).count y<=(refs ns).count y:=by
 obtain⟨R,a⟩:=zgb ns.length L hd hL;rw[<-zpe];have:=(a.flatMap_right (succ ns)).count_eq y;unfold kids;rw[<-this,List.flatMap_append,List.count_append];omega
theorem dec_len (n:Nat) (h:n<=999999999):(Lib.decDigits n).length<=9:=by
 have:=zpc 9 n (by omega) (by omega);have a:=congrArg List.length this;rw[List.length_append,List.length_replicate,za4]at a;omega
section
variable {ns:List Nd}
theorem zg6 (l:List Str):l.flatten.length=(l.map List.length).sum:=by
 grind
theorem zpf (f:Nat) (x:Nd) (hk:x.kind=10->x.keys.length=x.items.length):(entS ns f x).flatten.length<=plen ns f (x.keys++x.items):=by
 have d:(entS ns f x).flatten.length=(ents ns f x).flatten.length:=by
  rw[zg6,zg6];unfold entS;split
  .exact zk3 ((za6 _).map _)
  .rfl
 rw[d,zg6];unfold ents plen;rw[List.map_map,List.map_append,List.sum_append];have c:∀l:List Nat,(List.range l.length).map (fun k=>(printF ns f (l.getD k 0)).length)=l.map (fun i=>(printF ns f i).length):=by
  intro l;apply List.ext_getElem
  .simp
  .grind
 have b:∀(l:List Nat) (p q:Nat->Nat),(l.map (fun k=>p k+q k)).sum=(l.map p).sum+(l.map q).sum:=by
  intro l p q
  induction l with
  |nil=>rfl
  |cons a l ih=>simp only[List.map_cons,List.sum_cons,ih];omega
 by_cases h10:x.kind=10
 .have e:=hk h10;have:(List.length ∘ fun k=>(if x.kind=10 then printF ns f (x.keys.getD k 0)else[])++printF ns f (x.items.getD k 0))=fun k=>(printF ns f (x.keys.getD k 0)).length+(printF ns f (x.items.getD k 0)).length:=by
   funext k;simp[h10]
  rw[this,b,c,<-e,c];exact Nat.le_refl _
 .have:(List.length ∘ fun k=>(if x.kind=10 then printF ns f (x.keys.getD k 0)else[])++printF ns f (x.items.getD k 0))=fun k=>(printF ns f (x.items.getD k 0)).length:=by
   funext k;simp[h10]
  rw[this,c];omega
theorem zmk (hok:NodesOk ns) (hb:∀x∈ns,x.text.length<=999999999/\x.items.length<=999999999) (f i:Nat) (hi:i<ns.length):(printF ns (f+1) i).length<=wtN ns i+plen ns f (succ ns i):=by
 have a:ns[i]∈ns:=List.getElem_mem hi;have h1:=zpf (ns:=ns) f ns[i] (hok _ a).2.2;have d1:=dec_len _ (hb _ a).1;have d2:=dec_len _ (hb _ a).2;rw[zaj (List.getElem?_eq_getElem hi),zda hi];unfold wtN;rw[List.getElem?_eq_getElem hi];simp only[Option.map_some,Option.getD_some,List.length_cons,List.length_append];have:(if ns[i].ord=true then[33]else([]:Str)).length<=1:=by split<;>simp
 omega
theorem zpg (f:Nat) (L:List Nat):plen ns f (kids ns L)=(L.map (fun i=>plen ns f (succ ns i))).sum:=by
 induction L with
 |nil=>rfl
 |cons a L ih=>
  unfold kids plen at ih ⊢;simp only[List.flatMap_cons,List.map_append,List.sum_append,List.map_cons,List.sum_cons,ih]
theorem zml (hok:NodesOk ns) (hb:∀x∈ns,x.text.length<=999999999/\x.items.length<=999999999) (f:Nat):∀L:List Nat,(∀x∈L,x<ns.length)->plen ns (f+1) L<=wtS ns L+plen ns f (kids ns L):=by
 intro L b;rw[zpg];unfold plen wtS
 induction L with
 |nil=>simp
 |cons a L ih=>
  have d:=ih (fun x e=>b x (.tail _ e));have c:=zmk hok hb f a (b a (.head _));unfold plen at c d;simp only[List.map_cons,List.sum_cons];omega
theorem zvr (hr:Refs ns) (hok:NodesOk ns) (hb:∀x∈ns,x.text.length<=999999999/\x.items.length<=999999999) {K:Nat->Prop} (hK:∀u,K u->∀v∈succ ns u,K v) (hone:∀x,K x->(refs ns).count x<=1):∀(f:Nat) (L:List Nat),L.Nodup->(∀x∈L,x<ns.length/\K x)->plen ns f L<=f*wtS ns (List.range ns.length):=by
 intro f
 induction f with
 |zero=>
  intro L _ _;unfold plen;have:(L.map (fun i=>(printF ns 0 i).length)).sum=0:=by
   induction L with
   |nil=>rfl
   |cons a L ih=>
    rw[List.map_cons,List.sum_cons];have k:(printF ns 0 a).length=0:=rfl;rw[k,Nat.zero_add];apply ih
    .grind
    .grind
  rw[this];omega
 |succ f ih=>
  intro L h j;have b:∀x∈L,x<ns.length:=fun x g=>(j x g).1
  have h1:=zml hok hb f L b;have h2:=zxz ns L h b;have d:∀x∈kids ns L,x<ns.length/\K x:=by
   intro x g;obtain⟨u,l,c⟩:=List.mem_flatMap.1 g;exact⟨hr.succ u x c,hK u (j u l).2 x c⟩
  have e:(kids ns L).Nodup:=by
   rw[List.nodup_iff_count];intro y;by_cases hy:y∈kids ns L
   .exact Nat.le_trans (zmj ns L h b y) (hone y (d y hy).2)
   .grind
  have h3:=ih (kids ns L) e d;rw[Nat.succ_mul];omega
theorem zph (hr:Refs ns) (hok:NodesOk ns) (hb:∀x∈ns,x.text.length<=999999999/\x.items.length<=999999999) {K:Nat->Prop} (hK:∀u,K u->∀v∈succ ns u,K v) (hone:∀x,K x->(refs ns).count x<=1) (f i:Nat) (hi:i<ns.length) (hKi:K i):(printF ns f i).length<=f*wtS ns (List.range ns.length):=by
 have:=zvr hr hok hb hK hone f [i] (by simp) (fun x a=>by rw[List.mem_singleton.1 a];exact⟨hi,hKi⟩);unfold plen at this;simpa using this
end
end Gr
open Go.RowKit Go.WideShapes Go.ChangeShapes Go.Deep
theorem zr6 {α:Type} {Q:Nat->α->Prop} {n:Nat} (h:∀i,i<n->∃x,Q i x):∃l:List α,l.length=n/\∀i (hi:i<l.length),Q i l[i]:=by
 induction n with
 |zero=>exact⟨[],rfl,fun i h=>by simp at h⟩
 |succ n ih=>
  obtain⟨l,a,hl⟩:=ih (fun i hi=>h i (by omega));obtain⟨x,hx⟩:=h n (by omega);refine⟨l++[x],by simp[a],fun i hi=>?_⟩;by_cases hil:i<l.length
  .grind
  .grind
theorem row_of {α:Type} (L:Lay α) {w:World} {a:Addr} {l:List α} (h:∀i (hi:i<l.length) j u,(L.enc l[i])[j]? =some u->w.cell? (a.add (i*L.sz+j))=some u):RowAt L w w.heap.size (some a) l:=by
 have e:∀j u,(L.all l)[j]? =some u->w.cell? (a.add j)=some u:=by
  intro j u c;have q:=L.pos;have g:j<l.length*L.sz:=by have:=(List.getElem?_eq_some_iff.1 c).1;rwa[L.all_len]at this
  have n:j /L.sz<l.length:=Nat.div_lt_of_lt_mul (by rw[Nat.mul_comm];exact g);have y:j%L.sz<L.sz:=Nat.mod_lt _ q;have t:=L.len l[j /L.sz];obtain⟨f,b⟩:∃f,(L.enc l[j /L.sz])[j%L.sz]? =some f:=⟨_,List.getElem?_eq_getElem (l:=L.enc l[j /L.sz]) (i:=j%L.sz) (by rw[t];exact y)⟩
  have k:=L.all_at l (j /L.sz) l[j /L.sz] (List.getElem?_eq_getElem n) (j%L.sz) f b;have m:j /L.sz*L.sz+j%L.sz=j:=by rw[Nat.mul_comm];exact Nat.div_add_mod j L.sz
  rw[m]at k;rw[k]at c;injection c with c
  subst c;have:=h _ n _ _ b;rwa[m]at this
 refine⟨L.all_len l,fun s=>⟨a,rfl,?_,e⟩⟩;have o:0<(L.all l).length:=by rw[L.all_len];exact Nat.mul_pos s L.pos
 have:=World.block_lt_of_cell? w _ (e 0 _ (List.getElem?_eq_getElem o));rwa[zbd]at this
section
variable {H:Type} {enc:TypeId×Value->H} {W:World} {r:Reach} {b0 base fuel:Nat} {sp:Nat->Bool} {hd:Bool} {v:Value} {d:DataW H} {p:List MemPlace} {cs:List Value} {x:DataW H×List MemPlace}
theorem zjf (h:DataW.trod enc prog W base sp hd fuel 34 cs=some x):
 ∃(A:Option Addr) (c:Nat) (l:List Int),cs=[.slice A l.length c]/\RowAt intI W W.heap.size A l/\l.length<=maxLen:=by
 rcases open_slice1 underlying34 (by kernel_rfl) h with⟨q,y⟩|⟨a,f,s,m,n,V,D,Pl,rfl,hb,hl,hm,k,rfl,y⟩
 .exact⟨none,0,[],q,RowAt.nil,by simp⟩
 .have hml:f<=m:=by rw[k];split<;>omega
  obtain⟨l,o,b⟩:=zr6 (Q:=fun i (x:Int)=>W.cell? (a.add i)=some (.int .i64 x)) (n:=f) (fun i w=>by
   obtain⟨t,z⟩:=y i (by omega);obtain⟨n,e,_⟩:=DataW.trod_int underlying3 z;injection e with e
   exact⟨n,by rw[t,e]⟩)
  subst o;refine⟨some a,s,l,rfl,row_of intI (fun i w j u g=>?_),by omega⟩;have B:j=0:=by
   have:=(List.getElem?_eq_some_iff.1 g).1;have t:(intI.enc l[i]).length=1:=rfl;omega
  subst B;have g:some (Value.int .i64 l[i])=some u:=g;rw[<-g,<-b i w];show W.cell? (a.add (i*1+0))=_;rw[Nat.mul_one,Nat.add_zero]
theorem zn1 (h:DataW.trod enc prog W base sp hd fuel 22 cs=some x):
 ∃(A:Option Addr) (c:Nat) (vs:List NV) (is:List Gr.Ni),cs=[.slice A is.length c]/\IAt W W.heap.size A vs is/\is.length<=maxLen/\∀y∈is,y.text.length<=maxLen/\y.keys.length<=maxLen/\y.items.length<=maxLen:=by
 have R:prog.cellsOf 36=5:=by kernel_rfl
 have P:prog.cellsOf 3=1:=by kernel_rfl
 have E:prog.cellsOf 9=1:=by kernel_rfl
 have O:prog.cellsOf 4=1:=by kernel_rfl
 have K:prog.cellsOf 34=1:=by kernel_rfl
 obtain⟨I,w⟩:∃I:Array Field,prog.underlying 36=some (.struct I)/\I.map (fun f=>(f.type,f.offset))=#[(3,0),(9,1),(4,2),(34,3),(34,4)]:=⟨_,underlying36,by kernel_rfl⟩
 obtain⟨w,N⟩:=w;have q:∀(i:Nat) (t:TypeId) (o:Nat),(#[(3,0),(9,1),(4,2),(34,3),(34,4)]:Array (TypeId×Nat))[i]? =some (t,o)->∃f:Field,I[i]? =some f/\f.type=t/\f.offset=o:=by
  grind
 rcases open_slice underlying22 h with⟨X,hx⟩|⟨a,L,Z,m,n,D,Pl,rfl,hb,hl,hm,T,rfl,hx⟩
 .exact⟨none,0,[],[],X,⟨RowAt.nil,rfl,fun j h=>by simp at h,fun j h=>by simp at h⟩,by simp,by simp⟩
 .have hml:L<=m:=by rw[T];split<;>omega
  obtain⟨l,U,e⟩:=zr6 (n:=L) (Q:=fun i (x:NV×Gr.Ni)=>(∀j u,(nodeL.enc x.1)[j]? =some u->W.cell? (a.add (i*5+j))=some u)/\(x.1.kind=x.2.kind/\x.1.text=x.2.text/\x.1.ord=x.2.ord)/\
   (RowAt intI W W.heap.size x.1.k.a x.2.keys/\x.1.k.n=x.2.keys.length/\RowAt intI W W.heap.size x.1.i.a x.2.items/\x.1.i.n=x.2.items.length)/\x.2.text.length<=maxLen/\x.2.keys.length<=maxLen/\x.2.items.length<=maxLen) (fun i C=>by
   obtain⟨aa,M,V⟩:=hx i (by omega);rw[R]at M;obtain⟨_,F,G⟩:=World.cells?_some M;obtain⟨xs,n',_,_,_,hxl,J⟩:=DataW.trod_struct w V;have hsz:I.size=5:=by have:=congrArg Array.size N;simpa using this
   obtain⟨f0,g0,t0,o0⟩:=q 0 _ _ rfl;obtain⟨f1,g1,t1,o1⟩:=q 1 _ _ rfl;obtain⟨f2,g2,t2,o2⟩:=q 2 _ _ rfl;obtain⟨f3,g3,t3,o3⟩:=q 3 _ _ rfl;obtain⟨f4,g4,t4,o4⟩:=q 4 _ _ rfl;have e0:=J 0 f0 g0;have e1:=J 1 f1 g1;have e2:=J 2 f2 g2;have e3:=J 3 f3 g3;have e4:=J 4 f4 g4;rw[t0,o0,P,List.getElem?_eq_getElem (by omega)]at e0;rw[t1,o1,E,List.getElem?_eq_getElem (by omega)]at e1;rw[t2,o2,O,List.getElem?_eq_getElem (by omega)]at e2;rw[t3,o3,K,List.getElem?_eq_getElem (by omega)]at e3;rw[t4,o4,K,List.getElem?_eq_getElem (by omega)]at e4;obtain⟨k,k1,_⟩:=DataW.trod_int underlying3 e0;obtain⟨s,s1,_,s3⟩:=DataW.trod_string underlying9 e1;obtain⟨b,b1,_⟩:=DataW.trod_bool underlying4 e2;obtain⟨A3,c3,l3,r3,q3,z3⟩:=zjf e3;obtain⟨A4,c4,l4,r4,q4,z4⟩:=zjf e4
   match aa,F with
   | [v0,v1,v2,v3,v4],_=>
    simp at k1 s1 b1 r3 r4;subst k1 s1 b1 r3 r4;have hs:s=⟨(s.data.toList).toArray⟩:=by apply ByteArray.ext;simp
    have S:s.data.toList.length<=maxLen:=by simpa using s3
    refine⟨(⟨k,s.data.toList,b,⟨A3,l3.length,c3⟩,⟨A4,l4.length,c4⟩⟩,⟨k,s.data.toList,b,l3,l4⟩),?_,⟨rfl,rfl,rfl⟩,⟨q3,rfl,q4,rfl⟩,S,z3,z4⟩;intro j u g;have hat':=fun j hj=>G j hj
    have hj:j<5:=by
     have:=(List.getElem?_eq_some_iff.1 g).1;exact this
    have B:=G j (by omega);rw[zf6]at B;have Y:j=0\/j=1\/j=2\/j=3\/j=4:=by omega
    rcases Y with rfl|rfl|rfl|rfl|rfl
    .exact B.trans g
    .have g:some (Value.string ⟨(s.data.toList).toArray⟩)=some u:=g;rw[<-hs]at g;exact B.trans g
    .exact B.trans g
    .exact B.trans g
    .exact B.trans g)
  subst U;refine⟨some a,Z,l.map (·.1),l.map (·.2),by simp,⟨row_of nodeL (fun i C j u g=>?_),by simp,fun j M V=>?_,fun j M V=>?_⟩,by simp;omega,fun y hy=>?_⟩
  .simp only[List.length_map]at C;rw[List.getElem_map]at g;exact(e i C).1 j u g
  .grind
  .grind
  .obtain⟨z,hz,rfl⟩:=List.mem_map.1 hy;obtain⟨i,C,rfl⟩:=List.mem_iff_getElem.1 hz;exact(e i C).2.2.2
theorem zn2 (h:DataW.trod enc prog W base sp hd fuel 24 cs=some x):
 ∃(A:Option Addr) (c:Nat) (root:Int) (vs:List NV) (is:List Gr.Ni),cs=[.slice A is.length c,.int .i64 root]/\IAt W W.heap.size A vs is/\is.length<=maxLen/\∀y∈is,y.text.length<=maxLen/\y.keys.length<=maxLen/\y.items.length<=maxLen:=by
 have m:prog.cellsOf 3=1:=by kernel_rfl
 have l:prog.cellsOf 22=1:=by kernel_rfl
 have n:prog.cellsOf 24=2:=by kernel_rfl
 obtain⟨g,b⟩:∃g:Array Field,prog.underlying 24=some (.struct g)/\g.map (fun f=>(f.type,f.offset))=#[(22,0),(3,1)]:=⟨_,underlying24,by kernel_rfl⟩
 obtain⟨b,j⟩:=b;have e:∀(i:Nat) (t:TypeId) (o:Nat),(#[(22,0),(3,1)]:Array (TypeId×Nat))[i]? =some (t,o)->∃f:Field,g[i]? =some f/\f.type=t/\f.offset=o:=by
  grind
 obtain⟨xs,n',_,_,a,hxl,s⟩:=DataW.trod_struct b h;have hsz:g.size=2:=by have:=congrArg Array.size j;simpa using this
 obtain⟨w,F,D,C⟩:=e 0 _ _ rfl;obtain⟨z,E,B,G⟩:=e 1 _ _ rfl;have u:=s 0 w F;have q:=s 1 z E;rw[D,C,l,List.getElem?_eq_getElem (by omega)]at u;rw[B,G,m,List.getElem?_eq_getElem (by omega)]at q;rw[n]at a;obtain⟨A,c,vs,is,r0,q0,z0,z1⟩:=zn1 u;obtain⟨k,k1,_⟩:=DataW.trod_int underlying3 q
 match cs,a with
 | [v0,v1],_=>
  grind
theorem zn3 (hv:Value.okWide prog W r b0 24 v) (h:DataW.Trod enc prog W base sp hd 24 v d p):
 ∃(A:Option Addr) (c:Nat) (root:Int) (vs:List NV) (is:List Gr.Ni),v=.agg #[.slice A is.length c,.int .i64 root]/\IAt W W.heap.size A vs is/\is.length<=maxLen/\∀y∈is,y.text.length<=maxLen/\y.keys.length<=maxLen/\y.items.length<=maxLen:=by
 obtain⟨b,a⟩:∃b:Array Field,prog.underlying 24=some (.struct b):=⟨_,underlying24⟩
 obtain⟨cs,rfl,_⟩:=okWide_struct a hv;obtain⟨fuel,f⟩:=h;obtain⟨A,c,root,vs,is,e,q⟩:=zn2 f;refine⟨A,c,root,vs,is,?_,q⟩;simp only[Value.cells]at e;have:cs=#[.slice A is.length c,.int .i64 root]:=by apply Array.ext';simpa using e
 rw[this]
end
end Go.Proofs.YtpjmhafmeieloaaGreatDoor
