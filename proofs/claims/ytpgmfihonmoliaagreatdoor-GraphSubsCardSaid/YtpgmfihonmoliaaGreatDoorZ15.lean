import Derived.Test.YtpgmfihonmoliaaGreatDoorZ14
import Derived.Test.YtpgmfihonmoliaaGreatDoorZ20
namespace Go.Proofs.YtpgmfihonmoliaaGreatDoor
open _root_.Go.Proofs.Tryz
set_option maxRecDepth 100000
set_option maxHeartbeats 16000000
open Go.RowKit
theorem zh2 (text:Gr.Str):ScalOk UT 0 text text.isEmpty:=by
 intro w _;have ht:=zgh text;go_enter func22,ntmps22;go_wp2;go_ret;exact⟨rfl,Below.refl _ _⟩
theorem zek (text:Gr.Str) (hl:text.length<=1073741823):ScalOk UT 2 text (Gr.intB text):=by
 intro w _;have a:=Lib.hid (fun W=>zea text hl W);obtain⟨r,c⟩:=ex (Gr.intB text)
 rw[c]at a ⊢;clear c;go_enter func22,ntmps22;go_wp2_with fail;refine(a.out _).mono ?_;rintro e w2 ⟨rfl,b⟩;have d:=Lib.hid b;clear b;go_wp2;go_ret;exact⟨rfl,d.out⟩
def utfB (s:Gr.Str):Bool:=(Utf.bad s).isNone
theorem ze2 (text:Gr.Str) (hl:text.length<=1073741823):ScalOk UT 5 text (utfB text):=by
 intro w c;have a:=Lib.hid (zgg text hl w c.1 c.2 _ rfl);unfold utfB;cases hr:Utf.bad text with
 |none=>
  rw[hr]at a;unfold ckVal at a;simp only at a;clear hr c;go_enter func22,ntmps22;go_wp2_with fail;refine a.out.mono ?_;rintro e f ⟨rfl,b⟩;have d:=Lib.hid b;clear b;go_wp2;go_ret;exact⟨rfl,d.out⟩
 |some i=>
  rw[hr]at a;unfold ckVal at a;simp only at a;clear hr c;go_enter func22,ntmps22;go_wp2_with fail;refine a.out.mono ?_;rintro e f ⟨rfl,b⟩;have d:=Lib.hid b;clear b;go_wp2;go_ret;exact⟨rfl,d.out⟩
theorem infoIntS:(prog.info? 3).map (·.size)=some 1:=by kernel_rfl
theorem zkq (l:List Nat):intL.all l=(icells l).toList:=by
 induction l with
 |nil=>rfl
 |cons x l ih=>
  have a:intL.all (x::l)=.int .i64 (x:Int)::intL.all l:=rfl;rw[a,ih];simp[icells]
theorem zov (W:World) (B g n c:Nat) (A:Option Addr) (l:List Nat) (ty:TypeId) (hl:l.length=n) (hb:Blk W g 3 (icells (List.replicate n 0))) (hr:RowAt intL W B A l):
 ∃W',(Builtin.copy_ #[36,36] ty #[.slice (some ⟨g,0,none⟩) n n,.slice A n c]).run prog W=.ok (.int .i64 n) W'/\Kept1 g W W'/\Blk W' g 3 (icells l):=by
 by_cases h0:n=0
 .subst h0;obtain rfl:=List.eq_nil_of_length_eq_zero hl;exact⟨W,run_copy_none (P:=prog) W 36 36 ty 3 _ A 0 0 0 c underlying36 infoIntS rfl,Kept1.refl _ _,hb⟩
 .obtain⟨f,rfl,hlt,h⟩:=hr.2 (by omega);have a:(intL.all l).length=n:=by rw[Lay.all_len];show l.length*1=n;omega
  have b:=run_copy_row (P:=prog) W 36 36 ty 3 g 0 n n f n c (icells (List.replicate n 0)) 3 (intL.all l) underlying36 infoIntS hb (by rw[a];exact(Nat.min_self n).symm) h (by rw[a];simp[icells]) (intL.all_one l);have e:((icells (List.replicate n 0)).toList.take 0++intL.all l++(icells (List.replicate n 0)).toList.drop (0+(intL.all l).length)).toArray=icells l:=by
   rw[a];have:intL.all l=(icells l).toList:=by
    exact zkq l
   rw[this];simp[icells]
  rw[e,a]at b;exact⟨_,b,⟨rfl,rfl,rfl,size_setRow _ _ _,fun k d=>setRow_other _ _ _ _ d⟩,setRow_heap _ _ _ _ _ _ hb⟩
theorem ze3 (l:List Nat) (f:Nat->Nat) (i:Nat) (h:i<l.length):((l.take i).map f++l.drop i).set i (f l[i])=(l.take (i+1)).map f++l.drop (i+1):=by
 have e:((l.take i).map f).length=i:=by simp;omega
 rw[List.drop_eq_getElem_cons h,List.set_append_right _ _ (by rw[e];exact Nat.le_refl _),e,Nat.sub_self,List.set_cons_zero,zai _ _ h,List.map_append];simp
theorem ze4 (A:Option Addr) (c by_:Nat) (l:List Nat) (hl:l.length<=1073741823) (hx:∀x∈l,x<=1152921504606846976) (hby:by_<=1152921504606846976) (w:World) (B:Nat) (hB:B<=w.heap.size) (h:RowAt intL w B A l):
 Calls prog 46 #[.slice A l.length c,.int .i64 by_] w fun e w'=>e=.returned (.slice (some ⟨w.heap.size,0,none⟩) l.length l.length)/\Below w.heap.size w w'/\Blk w' w.heap.size 3 (icells (l.map (· +by_))):=by
 have hmk:=fun W=>za3 l.length (by omega) W
 obtain⟨r,a⟩:=ex (w.alloc (.cells (icells (List.replicate l.length 0)) 3))
 have q:Below w.heap.size w r:=by rw[<-a];exact(Below.refl _ _).alloc (Nat.le_refl _) _
 have v:Blk r w.heap.size 3 (icells (List.replicate l.length 0)):=by rw[<-a];exact Blk.new _ _ _
 obtain⟨y,t,o,k⟩:=zov r B w.heap.size l.length c A l 3 rfl v (h.below (q.mono hB));have d:Hid (Below w.heap.size w y/\Blk y w.heap.size 3 (icells l)):=Lib.hid ⟨q.trans (o.below (Nat.le_refl _)),k⟩;clear q v o k h;go_enter func46,ntmps46;go_upto_region 2 with fail;(try rw[a]);clear a;go_upto_region 3 with fail;obtain⟨g,p⟩:=ex w.heap.size
 have z:=Lib.hid p;rw[p]at d;(try rw[p]);clear t p;go_upto_region 4 with fail;go_loopw [15] (fun s15 wr=>∃i:Nat,i<=l.length/\s15=.int .i64 i/\Hid (Below g w wr/\Blk wr g 3 (icells ((l.take i).map (· +by_)++l.drop i)))) (fun s15 _=>l.length-(intOf s15).toNat)
 case atStart=>exact⟨0,by omega,rfl,Lib.hid ⟨d.out.1,by simpa using d.out.2⟩⟩
 case round=>
  obtain⟨i,C,rfl,n⟩:=hrel;by_cases hlt:i<l.length
  .have f:(i:Int)<(l.length:Int):=by omega
   obtain⟨x,b⟩:=ex (l[i])
   have hxb:x<=1152921504606846976:=by rw[<-b];exact hx _ (List.getElem_mem hlt)
   have m:((l.take i).map (· +by_)++l.drop i).getD i 0=x:=by
    rw[List.getD_eq_getElem?_getD,List.getElem?_append_right (by simp;omega)];simp[Nat.min_eq_left C,List.getElem?_eq_getElem hlt,b]
   have z0:wr.cell? ⟨g,i,none⟩=some (.int .i64 (x:Int)):=by
    rw[n.out.2.cell,zab (by simp;omega),m]
   have zf:∀j,wr.frozen? ⟨g,j,none⟩=false:=n.out.2.frozen;have s:Hid (Below g w (wr.setCell ⟨g,i,none⟩ (.int .i64 ((x:Int)+(by_:Int))))/\Blk (wr.setCell ⟨g,i,none⟩ (.int .i64 ((x:Int)+(by_:Int)))) g 3 (icells ((l.take (i+1)).map (· +by_)++l.drop (i+1)))):=Lib.hid ⟨n.out.1.setCell (by simp) _,by
    have u:=n.out.2.set_ i (.int .i64 ((x+by_:Nat):Int));rw[zam]at u;rw[show(x:Int)+(by_:Int)=((x+by_:Nat):Int)from by omega];have e:=ze3 l (· +by_) i hlt;rw[b]at e;rw[e]at u;exact u⟩
   clear m b;go_wp2;go_roundw
   case rel=>exact⟨i+1,by omega,by go_num,s⟩
   case measure=>simp[intOf];omega
  .have f:¬(i:Int)<(l.length:Int):=by omega
   have D:Hid (Below g w wr/\Blk wr g 3 (icells (l.map (· +by_)))):=Lib.hid (by
    have:=n.out;rw[show i=l.length from by omega,List.take_length,List.drop_length,List.append_nil]at this;exact this)
   go_wp2;go_ret;rw[z.out];exact⟨rfl,D.out⟩
def KeptT (t:TypeId) (w w':World):Prop:=∀g cs,Blk w g t cs->Blk w' g t cs
theorem KeptT.refl (t:TypeId) (w:World):KeptT t w w:=fun _ _ h=>h
theorem KeptT.trans {t:TypeId} {a b c:World} (h:KeptT t a b) (k:KeptT t b c):KeptT t a c:=fun g d x=>k g d (h g d x)
theorem KeptT.later {t:TypeId} {w w':World} (h:Below w.heap.size w w'):KeptT t w w':=fun _ _ x=>x.below h x.lt
theorem KeptT.alloc (t:TypeId) (w:World) (o:Obj):KeptT t w (w.alloc o):=fun _ _ x=>x.alloc o
theorem KeptT.drewN (t:TypeId) (w:World) (n:Nat):KeptT t w (w.drewN n):=fun _ _ x=>x
theorem KeptT.setCell {t t':TypeId} {w:World} {p:Addr} {cs:Array Value} (h:Blk w p.block t' cs) (hne:t≠t') (u:Value):KeptT t w (w.setCell p u):=
 fun _ _ x=>x.far (fun e=>by subst e;exact Blk.ne_ x h hne rfl) u
theorem KeptT.grown {t t':TypeId} {w w':World} {v:Value} {base:Nat} {size n:Nat} {xs:List Value} (hg:w.grownBy w' v.ownBlock) (h:w.ownsRow base t' size v n xs) (hne:t'≠t):KeptT t w w':=
 fun _ _ x=>x.grown hg (fun e=>zby h x hne e.symm)
section
variable {α:Type} {L:Lay α} {w w':World} {B base:Nat} {E:TypeId} {v:Value} {l:List α}
theorem OwnRow.kept (h:OwnRow L w base E v l) (hk:KeptT E w w'):OwnRow L w' base E v l:=by
 refine⟨h.1,?_⟩;rcases h.2 with hn|⟨g,cap,cur,rfl,hbg,hgg,rest⟩
 .exact .inl hn
 .exact .inr ⟨g,cap,cur,rfl,hbg,hk g cur hgg,rest⟩
theorem OwnRow.drew (h:OwnRow L w base E v l):OwnRow L w.drew base E v l:=h
theorem OwnRow.grown_other (h:OwnRow L w base E v l) {row:Option Nat} (hg:w.grownBy w' row) (hne:∀g,v.ownBlock=some g->row≠some g):OwnRow L w' base E v l:=by
 refine⟨h.1,?_⟩;rcases h.2 with hn|⟨g,cap,cur,rfl,hbg,hgg,rest⟩
 .exact .inl hn
 .refine .inr ⟨g,cap,cur,rfl,hbg,?_,rest⟩;rw[hg.block g (Blk.lt (t:=E) (cs:=cur) hgg) (fun e=>hne g (by simp[Value.ownBlock]) e.symm)];exact hgg
theorem OwnRow.row (h:OwnRow L w base E v l) (hl:l≠[]):
 ∃g cap rest,v=.slice (some ⟨g,0,none⟩) l.length cap/\l.length<=cap/\Blk w g E (L.all l++rest).toArray/\base<=g/\(∀w' l',l'.length=l.length->Blk w' g E (L.all l'++rest).toArray->OwnRow L w' base E v l'):=by
 rcases h.2 with⟨_,hn⟩|⟨g,cap,c,f,d,k,i,m,hcs,htk⟩
 .grind
 .have hcl:=L.all_len l;have a:c=(L.all l++c.toList.drop (l.length*L.sz)).toArray:=by
   grind
  have hle:l.length*L.sz<=cap*L.sz:=Nat.mul_le_mul_right _ i;refine⟨g,cap,c.toList.drop (l.length*L.sz),f,i,?_,d,fun w' l' e j=>?_⟩
  .unfold Blk;rw[<-a];exact k
  .have b:=L.all_len l';refine⟨b,.inr ⟨g,cap,_,by rw[e];exact f,d,j,by omega,m,?_,?_⟩⟩
   .simp only[List.size_toArray,List.length_append,List.length_drop,Array.length_toList];rw[e]at b;omega
   .simp only;rw[List.take_append_of_le_length (by omega),List.take_of_length_le (by omega)]
end
theorem zsk {α:Type} (L:Lay α) (l:List α) (k j:Nat) (x:α) (u:Value) (hk:k<l.length) (hj:j<L.sz) (he:L.enc x=(L.enc l[k]).set j u):L.all (l.set k x)=(L.all l).set (k*L.sz+j) u:=by
 induction l generalizing k with
 |nil=>simp at hk
 |cons y l ih=>
  cases k with
  |zero=>
   have b:L.all (x::l)=L.enc x++L.all l:=rfl;have a:L.all (y::l)=L.enc y++L.all l:=rfl;simp only[List.getElem_cons_zero]at he;simp only[List.set_cons_zero,Nat.zero_mul,Nat.zero_add];rw[b,a,he,List.set_append_left _ _ (by rw[L.len];exact hj)]
  |succ k=>
   have b:L.all (y::l.set k x)=L.enc y++L.all (l.set k x):=rfl;have a:L.all (y::l)=L.enc y++L.all l:=rfl;rw[List.set_cons_succ,b,a,ih k (by simpa using hk) (by simpa using he)];rw[List.set_append_right _ _ (by rw[L.len,Nat.add_mul];omega),L.len];rw[show(k+1)*L.sz+j-L.sz=k*L.sz+j from by rw[Nat.add_mul];omega]
theorem zgq {α:Type} (L:Lay α) {w:World} {g:Nat} {E:TypeId} {l:List α} {rest:List Value} (h:Blk w g E (L.all l++rest).toArray) (k j:Nat) (x:α) (u:Value) (hk:k<l.length) (hj:j<L.sz) (he:L.enc x=(L.enc l[k]).set j u):
 Blk (w.setCell ⟨g,k*L.sz+j,none⟩ u) g E (L.all (l.set k x)++rest).toArray:=by
 have hl:=L.all_len l;have h2:k*L.sz+L.sz<=l.length*L.sz:=by
  have:(k+1)*L.sz<=l.length*L.sz:=Nat.mul_le_mul_right _ hk;rw[Nat.add_mul]at this;omega
 have a:=h.set_ (k*L.sz+j) u;have e:(L.all l++rest).toArray.setIfInBounds (k*L.sz+j) u=(L.all (l.set k x)++rest).toArray:=by
  apply Array.ext';rw[Array.toList_setIfInBounds,zsk L l k j x u hk hj he];exact List.set_append_left _ _ (by omega)
 rw[e]at a;exact a
theorem zma {w:World} {g:Nat} {l:List NV} {rest:List Value} (h:Blk w g 38 (nodeL.all l++rest).toArray) (k:Nat) (hk:k<l.length) (i:SV):
 Blk (w.setCell ⟨g,k*5+4,none⟩ i.v) g 38 (nodeL.all (l.set k {l[k]with i:=i})++rest).toArray:=
 zgq nodeL h k 4 {l[k]with i:=i} i.v hk (by decide) rfl
def ints (vs:List NV) (j:Nat) (b:Bool):SV:=match vs[j]? with
 |some x=>if b then x.i else x.k
 |none=>SV.nil
def intsOf (ns:List Gr.Nd) (j:Nat) (b:Bool):List Nat:=match ns[j]? with
 |some m=>if b then m.items else m.keys
 |none=>[]
structure Rows (B:Nat) (w:World) (vs:List NV) (ns:List Gr.Nd):Prop where
 len:vs.length=ns.length
 kind:∀j (h:j<vs.length) (h2:j<ns.length),vs[j].kind=ns[j].kind/\vs[j].text=ns[j].text/\vs[j].ord=ns[j].ord
 own:∀j b,OwnRow intL w B 3 (ints vs j b).v (intsOf ns j b)
 apart:∀j b j' b' g,(ints vs j b).v.ownBlock=some g->(ints vs j' b').v.ownBlock=some g->j=j'/\b=b'
theorem Rows.kept {B:Nat} {w w':World} {vs:List NV} {ns:List Gr.Nd} (h:Rows B w vs ns) (hk:KeptT 3 w w'):Rows B w' vs ns:=
 ⟨h.len,h.kind,fun j b=>(h.own j b).kept hk,h.apart⟩
theorem zh3 (vs:List NV) (x:NV) (j:Nat) (b:Bool):ints (vs++[x]) j b=if j=vs.length then(if b then x.i else x.k)else ints vs j b:=by
 unfold ints;by_cases hj:j<vs.length
 .grind
 .grind
theorem zjk (ns:List Gr.Nd) (x:Gr.Nd) (j:Nat) (b:Bool):intsOf (ns++[x]) j b=if j=ns.length then(if b then x.items else x.keys)else intsOf ns j b:=by
 unfold intsOf;by_cases hj:j<ns.length
 .grind
 .grind
theorem Rows.snoc {B:Nat} {w:World} {vs:List NV} {ns:List Gr.Nd} (h:Rows B w vs ns) (x:NV) (m:Gr.Nd) (hx:x.kind=m.kind/\x.text=m.text/\x.ord=m.ord) (ok:OwnRow intL w B 3 x.k.v m.keys) (oi:OwnRow intL w B 3 x.i.v m.items)
 (hki:∀g,x.k.v.ownBlock=some g->x.i.v.ownBlock=some g->False) (hold:∀j b g,(ints vs j b).v.ownBlock=some g->x.k.v.ownBlock≠some g/\x.i.v.ownBlock≠some g):Rows B w (vs++[x]) (ns++[m]):=by
 have a:=h.len;refine⟨by simp[a],?_,?_,?_⟩
 .intro j d c;by_cases hj:j<vs.length
  .rw[List.getElem_append_left hj,List.getElem_append_left (by omega)];exact h.kind j hj (by omega)
  .grind
 .intro j b;rw[zh3,zjk,<-a];by_cases hj:j=vs.length
  .grind
  .rw[if_neg hj,if_neg hj];exact h.own j b
 .intro j b e f g d c;rw[zh3]at d c;by_cases hj:j=vs.length
  .grind
  .rw[if_neg hj]at d;by_cases hj':e=vs.length
   .grind
   .rw[if_neg hj']at c;exact h.apart j b e f g d c
theorem Rows.grow {B:Nat} {w w':World} {vs:List NV} {ns:List Gr.Nd} (h:Rows B w vs ns) (j:Nat) (b:Bool) (x:NV) (m:Gr.Nd) (hj:j<vs.length)
 (hx:x.kind=vs[j].kind/\x.text=vs[j].text/\x.ord=vs[j].ord) (hm:m.kind=(ns[j]'(by rw[<-h.len];exact hj)).kind/\m.text=(ns[j]'(by rw[<-h.len];exact hj)).text/\m.ord=(ns[j]'(by rw[<-h.len];exact hj)).ord)
 (hb:(if b then x.k else x.i)=ints vs j (!b)) (hbm:(if b then m.keys else m.items)=intsOf ns j (!b))
 (hown:OwnRow intL w' B 3 (if b then x.i else x.k).v (if b then m.items else m.keys)) (hg:w.grownBy w' (ints vs j b).v.ownBlock)
 (hat:(if b then x.i else x.k).v.ownBlock=(ints vs j b).v.ownBlock\/(if b then x.i else x.k).v.ownBlock=some w.heap.size):Rows B w' (vs.set j x) (ns.set j m):=by
 have d:=h.len;have f:j<ns.length:=by omega
 have e1:∀j' b',ints (vs.set j x) j' b'=if j'=j then(if b' then x.i else x.k)else ints vs j' b':=by
  intro j' b';unfold ints;by_cases he:j'=j
  .grind
  .grind
 have e2:∀j' b',intsOf (ns.set j m) j' b'=if j'=j then(if b' then m.items else m.keys)else intsOf ns j' b':=by
  intro j' b';unfold intsOf;by_cases he:j'=j
  .grind
  .grind
 have e:∀j' b',¬(j'=j/\b'=b)->ints (vs.set j x) j' b'=ints vs j' b'/\intsOf (ns.set j m) j' b'=intsOf ns j' b':=by
  grind
 refine⟨by simp[d],?_,?_,?_⟩
 .intro j' c a;by_cases he:j=j'
  .subst he;rw[List.getElem_set_self,List.getElem_set_self];have:=h.kind j hj f;exact⟨by rw[hx.1,hm.1,this.1],by rw[hx.2.1,hm.2.1,this.2.1],by rw[hx.2.2,hm.2.2,this.2.2]⟩
  .rw[List.getElem_set_ne he,List.getElem_set_ne he];exact h.kind j' (by simpa using c) (by simpa using a)
 .intro j' b';by_cases hc:j'=j/\b'=b
  .grind
  .rw[(e j' b' hc).1,(e j' b' hc).2];exact(h.own j' b').grown_other hg (fun g n s=>hc (h.apart j' b' j b g n s))
 .have hnew:∀j' b' g,¬(j'=j/\b'=b)->(ints vs j' b').v.ownBlock=some g->(if b then x.i else x.k).v.ownBlock=some g->False:=by
   intro j' b' g hc c a;rcases hat with h3|h3
   .rw[h3]at a;exact hc (h.apart j' b' j b g c a)
   .rw[h3]at a;injection a with a
    have:=(h.own j' b').lt g c;omega
  intro o q r p g c a;by_cases hc1:o=j/\q=b
  .grind
  .rw[(e o q hc1).1]at c;by_cases hc2:r=j/\p=b
   .grind
   .rw[(e r p hc2).1]at a;exact h.apart o q r p g c a
theorem Rows.later {B:Nat} {w w':World} {vs:List NV} {ns:List Gr.Nd} (h:Rows B w vs ns) (hb:Below w.heap.size w w'):Rows B w' vs ns:=h.kept (KeptT.later hb)
theorem Rows.nil (B:Nat) (w:World):Rows B w [] []:=
 ⟨rfl,fun j h=>by simp at h,fun j b=>by simp[ints,intsOf,SV.nil,SV.v];exact OwnRow.nil,fun j b j' b' g h=>by simp[ints,SV.nil,SV.v,Value.ownBlock]at h⟩
structure Tab (B:Nat) (w:World) (v:Value) (vs:List NV) (ns:List Gr.Nd):Prop where
 row:OwnRow nodeL w B 38 v vs
 rows:Rows B w vs ns
theorem Tab.later {B:Nat} {w w':World} {v:Value} {vs:List NV} {ns:List Gr.Nd} (h:Tab B w v vs ns) (hb:Below w.heap.size w w'):Tab B w' v vs ns:=⟨h.row.later hb,h.rows.later hb⟩
theorem SV.row {w:World} {B:Nat} {x:SV} {l:List Nat} (h:OwnRow intL w B 3 x.v l):RowAt intL w w.heap.size x.a l/\x.n=l.length:=by
 obtain⟨A,c,b,d⟩:=h.form;unfold SV.v at b;injection b with e1 e2 e3
 subst e1;exact⟨d,e2⟩
theorem Tab.at_ {B:Nat} {w:World} {v:Value} {vs:List NV} {ns:List Gr.Nd} (h:Tab B w v vs ns):∃A c,v=.slice A ns.length c/\GAt w w.heap.size A vs ns:=by
 obtain⟨A,c,m,g⟩:=h.row.form;refine⟨A,c,by rw[m,h.rows.len],g,h.rows.len,h.rows.kind,fun j d e=>?_⟩;have n:(ints vs j false)=vs[j].k:=by unfold ints;rw[List.getElem?_eq_getElem d];rfl
 have o:(ints vs j true)=vs[j].i:=by unfold ints;rw[List.getElem?_eq_getElem d];rfl
 have p:(intsOf ns j false)=ns[j].keys:=by unfold intsOf;rw[List.getElem?_eq_getElem e];rfl
 have f:(intsOf ns j true)=ns[j].items:=by unfold intsOf;rw[List.getElem?_eq_getElem e];rfl
 have a:=h.rows.own j false;have b:=h.rows.own j true;rw[n,p]at a;rw[o,f]at b;exact⟨(SV.row a).1,(SV.row a).2,(SV.row b).1,(SV.row b).2⟩
namespace Gr
open Classical in
noncomputable def wt (sc:Nat->List Nat) (n v:Nat):Nat:=(List.range n).countP (fun i=>decide (Reach sc v i/\Reach sc i v))
structure LongR (sc:Nat->List Nat) (n:Nat) (F:Nat->Nat):Prop where
 up:∀v u,v<n->u<n->Reach sc v u->Reach sc u v->∀x∈sc u,¬Reach sc x v->wt sc n v+F x<=F v
 att:∀v,v<n->F v=wt sc n v\/∃u,u<n/\Reach sc v u/\Reach sc u v/\∃x∈sc u,¬Reach sc x v/\F v=wt sc n v+F x
theorem zkt (sc:Nat->List Nat) (n v:Nat) (h:v<n):0<wt sc n v:=by
 unfold wt;exact List.countP_pos_iff.2 ⟨v,List.mem_range.2 h,by simpa using Reach.refl v⟩
section
variable {ns:List Nd} {root:Nat}
theorem ze7 (h:Refs ns) (hr:root<ns.length) (hall:∀v,v<ns.length->Reach (succ ns) root v):
 ∃F:Nat->Nat,LongR (succ ns) ns.length F/\(depth ns root).1=(F root:Int)-1/\((depth ns root).2=true↔∀u,u<ns.length->∀x∈succ ns u,¬Reach (succ ns) x u):=by
 obtain⟨d,s,F,h0,h1,m,p,j,q,h6⟩:=zls h hr hall;have n:∀v,v<ns.length->s v=wt (succ ns) ns.length v:=by
  intro v c;rw[p v c];unfold wt;apply List.countP_congr;intro i r;have:=m i v (List.mem_range.1 r) c;simp only[beq_iff_eq,decide_eq_true_eq];rw[this];exact And.comm
 have l:∀v u x,v<ns.length->u<ns.length->Reach (succ ns) v u->Reach (succ ns) u v->x∈succ ns u->(d x≠d u↔¬Reach (succ ns) x v):=by
  intro v u x c g a b f;have:=m x u (h.succ u x f) g;rw[ne_eq,this];constructor
  .exact fun k e=>k ⟨e.trans a,.one f⟩
  .exact fun k e=>k (e.1.trans b)
 refine⟨F,⟨fun v u c g a b x f o=>?_,fun v c=>?_⟩,q,?_⟩
 .have e:d u=d v:=(m u v g c).2 ⟨b,a⟩;have:=j.up u g x f ((l v u x c g a b f).2 o);rw[j.same u v e,j.szs u v e,n v c]at this;exact this
 .rcases j.att v c with a|⟨u,g,e,x,f,o,he⟩
  .exact .inl (a.trans (n v c))
  .grind
 .grind
theorem zca {u:Nat} (hu:u<ns.length):succ ns u=ns[u].keys++ns[u].items:=by unfold succ;rw[List.getElem?_eq_getElem hu]
theorem zmf (h:Refs ns) (hr:root<ns.length) (hall:∀v,v<ns.length->Reach (succ ns) root v) (hone:∀x,x<ns.length->mkd (inKeys ns) x=true->(counts ns root).getD x 0=1):
 (∀u,u<ns.length->∀x∈succ ns u,¬Reach (succ ns) x u)↔∀(u:Nat) (hu:u<ns.length),∀x∈ns[u].items,¬Reach (succ ns) x u:=by
 constructor
 .intro k u hu x a;exact k u hu x (by rw[zca hu];exact List.mem_append_right _ a)
 .intro k u hu x a;have c:=a;rw[zca hu]at c;rcases List.mem_append.1 c with hk|hi
  .intro e;have b:=h.succ u x a;have d:mkd (inKeys ns) x=true:=(zal h x).2 ⟨x,List.mem_flatMap.2 ⟨_,List.getElem_mem hu,hk⟩,.refl _⟩;cases e with
   |refl=>exact zeh h hr hall hone b d a (.refl _)
   |step h1 h2=>exact zeh h hr hall hone b d h1 (h2.trans (.one a))
  .exact k u hu x hi
end
end Gr
namespace Gr
def rform (sclr:Int->Str->Bool) (n:Nat) (x:Ni):Bool:=
 if(x.items.all (inR n) && x.keys.all (inR n))=false then false
 else if x.kind≠10/\(x.ord=true\/0<x.keys.length)then false
 else if x.kind=9 then x.text.isEmpty
 else if x.kind=10 then x.text.isEmpty && decide (x.keys.length=x.items.length)
 else if x.kind=11 then decide (x.items.length=1) && nameB x.text
 else decide (x.items.length=0) && sclr x.kind x.text
def rnode (ns:List Nd) (root i:Nat):Bool:=mkd (marks ns root) i && !(mkd (inKeys ns) i && (counts ns root).getD i 0 != 1)
def rwell (sclr:Int->Str->Bool) (is:List Ni) (root:Int):Bool:=
 if is.length=0\/inR is.length root=false then false
 else if is.all (rform sclr is.length)=false then false
 else(List.range is.length).all (rnode (is.map Ni.nd) root.toNat)
def rcheck (sclr:Int->Str->Bool) (is:List Ni) (root:Int):Nat:=
 if is.length>4096 then 7 else if rwell sclr is root=false then 3 else if rtwice (is.map Ni.nd) is.length=true then 8 else if(depth (is.map Ni.nd) root.toNat).1>32 then 5 else 0
theorem zjl {α:Type} (l:List α):l.isEmpty=decide (l.length=0):=by cases l<;>rfl
theorem zgu (sclr:Int->Str->Bool) (n:Nat) (x:Ni) (h:rng n x=true):rform sclr n x=formB sclr x.nd:=by
 have d:(x.items.all (inR n) && x.keys.all (inR n))=true:=by
  unfold rng at h;rw[List.all_append,Bool.and_eq_true]at h;rw[h.1,h.2];rfl
 obtain⟨a,text,c,b,items⟩:=x;unfold rform formB Ni.nd;simp only at d ⊢;rw[d,if_neg (by decide)];simp only[zjl,List.length_map];by_cases h9:a=9
 .grind
 .rw[if_neg h9,if_neg h9];by_cases h10:a=10
  .grind
  .rw[if_neg h10,if_neg h10];have e:(a≠10/\(c=true\/0<b.length))↔((!c && decide (b.length=0))=false):=by
    grind
   by_cases h11:a=11
   .grind
   .grind
theorem ze8 {sclr:Int->Str->Bool} {n:Nat} {x:Ni} (h:rform sclr n x=true):rng n x=true:=by
 unfold rform at h;split at h
 .cases h
 .rename_i hc;rw[Bool.not_eq_false,Bool.and_eq_true]at hc;unfold rng;rw[List.all_append,hc.1,hc.2];rfl
theorem zmg {α β:Type} (f:α->β) (p:β->Bool) (l:List α):(l.map f).all p=l.all (fun x=>p (f x)):=by
 grind
theorem zid {sclr:Int->Str->Bool} (hs:∀k t,sclr k t=true->0<=k/\k<=8) {x:Nd} (h:formB sclr x=true):0<=x.kind/\x.kind<=11/\(x.kind=10->x.keys.length=x.items.length):=by
 unfold formB at h;split at h
 .omega
 .grind
theorem zo2 (ns:List Nd):∀f i,Tall ns f i->Tall' ns f i:=by
 intro f
 induction f with
 |zero=>intro i h;exact h
 |succ f ih=>intro i h x a;exact ih x (h x a)
theorem zfq (ns:List Nd) (p:Nat->Bool) (q:Nd->Bool):(List.range ns.length).all (fun i=>p i && q (ns.getD i ⟨0,[],false,[],[]⟩))=(ns.all q && (List.range ns.length).all p):=by
 rw[Bool.eq_iff_iff,Bool.and_eq_true,List.all_eq_true,List.all_eq_true,List.all_eq_true];constructor
 .intro h;refine⟨fun x b=>?_,fun i a=>?_⟩
  .obtain⟨i,a,rfl⟩:=List.mem_iff_getElem.1 b;have:=h i (List.mem_range.2 a);rw[Bool.and_eq_true,List.getD_eq_getElem?_getD,List.getElem?_eq_getElem a]at this;exact this.2
  .grind
 .grind
theorem zie (sclr:Int->Str->Bool) (hs:∀k t,sclr k t=true->0<=k/\k<=8) (is:List Ni) (root:Int):rcheck sclr is root=checkI sclr is root:=by
 unfold rcheck checkI;by_cases h1:is.length>4096
 .rw[if_pos h1,if_pos h1]
 .rw[if_neg h1,if_neg h1];by_cases h2:is.length=0\/inR is.length root=false
  .rw[if_pos (show rwell sclr is root=false by unfold rwell;rw[if_pos h2]),if_pos];rcases h2 with h2|h2
   .exact .inl h2
   .right;unfold indB;rw[h2];rfl
  .have c:inR is.length root=true:=by
    grind
   by_cases h3:is.all (rng is.length)=true
   .have g:indB is root=true:=by unfold indB;rw[c,h3];rfl
    rw[if_neg (show¬(is.length=0\/indB is root=false) by rintro(h|h);exact h2 (.inl h);rw[g]at h;cases h)];obtain⟨_,d⟩:=za4 h3;have l:(is.map Ni.nd).length=is.length:=by simp
    have p:root.toNat<(is.map Ni.nd).length:=by
     rw[l];unfold inR at c;rw[Bool.and_eq_true,decide_eq_true_eq,decide_eq_true_eq]at c;omega
    have f:is.all (rform sclr is.length)=(is.map Ni.nd).all (formB sclr):=by
     rw[zmg,Bool.eq_iff_iff,List.all_eq_true,List.all_eq_true];constructor
     .intro h x e;rw[<-zgu sclr is.length x (List.all_eq_true.1 h3 x e)];exact h x e
     .intro h x e;rw[zgu sclr is.length x (List.all_eq_true.1 h3 x e)];exact h x e
    have r:rwell sclr is root=((is.map Ni.nd).all (formB sclr) && (List.range is.length).all (rnode (is.map Ni.nd) root.toNat)):=by
     unfold rwell;rw[if_neg h2,f];by_cases hf:(is.map Ni.nd).all (formB sclr)=false
     .rw[if_pos hf,hf];rfl
     .grind
    rw[r];clear r f h2;generalize hns:is.map Ni.nd=ns at *;rw[<-l];unfold checkN;rw[zfq];have j:(List.range ns.length).all (rnode ns root.toNat)=((List.range ns.length).all (fun i=>(marks ns root.toNat).getD i false) && !(List.range ns.length).any (fun i=>(inKeys ns).getD i false && (counts ns root.toNat).getD i 0 != 1)):=by
     rw[Bool.eq_iff_iff,Bool.and_eq_true,List.all_eq_true,List.all_eq_true,Bool.not_eq_true',List.any_eq_false];constructor
     .intro h;refine⟨fun i g=>?_,fun i g=>?_⟩
      .have:=h i g;unfold rnode at this;rw[Bool.and_eq_true]at this;exact this.1
      .have:=h i g;unfold rnode at this;rw[Bool.and_eq_true,Bool.not_eq_true']at this;rw[Bool.not_eq_true];exact this.2
     .rintro⟨a,b⟩ i g;unfold rnode;rw[Bool.and_eq_true,Bool.not_eq_true',<-Bool.not_eq_true];exact⟨a i g,b i g⟩
    rw[j];by_cases hf:ns.all (formB sclr)=true
    .rw[hf,Bool.true_and,Bool.true_and];by_cases hm:(List.range ns.length).all (fun i=>(marks ns root.toNat).getD i false)=true
     .rw[hm,Bool.true_and];by_cases hk:(List.range ns.length).any (fun i=>(inKeys ns).getD i false && (counts ns root.toNat).getD i 0 != 1)=true
      .rw[hk];simp
      .rw[Bool.not_eq_true]at hk;rw[hk];simp only[Bool.not_false,Bool.true_eq_false,if_false,Bool.false_eq_true,not_true];have o:∀v,v<ns.length->Reach (succ ns) root.toNat v:=fun v s=>(zay d p v).1 (List.all_eq_true.1 hm v (List.mem_range.2 s))
       have m:∀x,x<ns.length->mkd (inKeys ns) x=true->(counts ns root.toNat).getD x 0=1:=by
        intro x e n;have:=List.any_eq_false.1 hk x (List.mem_range.2 e);unfold mkd at n;rw[n,Bool.true_and]at this;simpa using this
       have q:NodesOk ns:=fun x e=>zid hs (List.all_eq_true.1 hf x e)
       have u:∀k∈allKeys ns,TOk ns ns.length k:=fun k hk=>by
        obtain⟨a,b⟩:=zez d p o m k hk;exact⟨a,zo2 ns _ _ b⟩
       rw[zks q d ns.length u]
     .grind
    .grind
   .have g:indB is root=false:=by
     rw[Bool.not_eq_true]at h3;unfold indB;rw[h3,Bool.and_false]
    rw[if_pos (show is.length=0\/indB is root=false from .inr g),if_pos];unfold rwell;rw[if_neg h2,if_pos];rw[<-Bool.not_eq_true];intro h;apply h3;rw[List.all_eq_true]at h ⊢;exact fun x e=>ze8 (h x e)
end Gr
namespace Gr
structure Bfs (sc:Nat->List Nat) (n a:Nat) (m:List Bool) (L:List Nat) (i:Nat) (P:List Nat):Prop where
 ml:m.length=n
 lt:∀x∈L,x<n
 nd:L.Nodup
 mem:∀x,mkd m x=true↔x∈L
 frm:a∈L
 re:∀x∈L,Reach sc a x
 done:∀j,j<i->∀x,L[j]? =some x->∀y∈sc x,mkd m y=true
 part:∀y∈P,mkd m y=true
section
variable {sc:Nat->List Nat} {n a i:Nat} {m:List Bool} {L P:List Nat}
theorem Bfs.start (h:a<n):Bfs sc n a ((List.replicate n false).set a true) [a] 0 [] where
 ml:=by simp
 lt x hx:=by rw[List.mem_singleton.1 hx];exact h
 nd:=by simp
 mem x:=by
  rw[zki (by simpa using h),zfu];by_cases e:x=a
  .simp[e]
  .simp[e]
 frm:=by simp
 re x hx:=by rw[List.mem_singleton.1 hx];exact .refl a
 done j hj:=by omega
 part y hy:=by cases hy
theorem Bfs.old (h:Bfs sc n a m L i P) {y:Nat} (hy:mkd m y=true):Bfs sc n a m L i (P++[y]):=
 ⟨h.ml,h.lt,h.nd,h.mem,h.frm,h.re,h.done,fun z hz=>by
  rcases List.mem_append.1 hz with hz|hz
  .exact h.part z hz
  .rw[List.mem_singleton.1 hz];exact hy⟩
theorem Bfs.new (h:Bfs sc n a m L i P) {u y:Nat} (hi:L[i]? =some u) (hys:y∈sc u) (hyn:y<n) (hy:mkd m y=false):Bfs sc n a (m.set y true) (L++[y]) i (P++[y]):=by
 have c:=fun x=>zki (m:=m) (a:=y) (by rw[h.ml];exact hyn) x
 have b:∀x,mkd m x=true->mkd (m.set y true) x=true:=fun x hx=>by rw[c];split<;>simp_all
 have hil:i<L.length:=by
  grind
 refine⟨by simp[h.ml],?_,?_,?_,List.mem_append_left _ h.frm,?_,?_,?_⟩
 .intro x hx;rcases List.mem_append.1 hx with hx|hx
  .exact h.lt x hx
  .grind
 .rw[List.nodup_append];refine⟨h.nd,by simp,?_⟩;intro x hx z hz e;rw[List.mem_singleton.1 hz]at e;subst e;rw[(h.mem x).2 hx]at hy;cases hy
 .intro x;rw[c,List.mem_append];by_cases e:x=y
  .simp[e]
  .rw[if_neg e,h.mem];simp[e]
 .intro x hx;rcases List.mem_append.1 hx with hx|hx
  .exact h.re x hx
  .rw[List.mem_singleton.1 hx];exact(h.re u (List.mem_of_getElem? hi)).trans (.one hys)
 .intro j d x hx z hz;rw[List.getElem?_append_left (by omega)]at hx;exact b z (h.done j d x hx z hz)
 .intro z hz;rcases List.mem_append.1 hz with hz|hz
  .exact b z (h.part z hz)
  .grind
theorem Bfs.next (h:Bfs sc n a m L i P) {u:Nat} (hi:L[i]? =some u) (hP:P=sc u):Bfs sc n a m L (i+1) []:=
 ⟨h.ml,h.lt,h.nd,h.mem,h.frm,h.re,fun j hj x b y c=>by
  rcases Nat.lt_or_ge j i with h1|h1
  .exact h.done j h1 x b y c
  .obtain rfl:j=i:=by omega
   rw[hi]at b;injection b with b
   subst b;exact h.part y (hP▸c),fun y c=>by cases c⟩
theorem Bfs.len_le (h:Bfs sc n a m L i P):L.length<=n:=by
 rw[<-zdu n L h.nd h.lt];have:=List.countP_le_length (p:=fun i=>decide (i∈L)) (l:=List.range n);simpa using this
theorem Bfs.last (h:Bfs sc n a m L i P) (hi:L.length<=i) (x:Nat):mkd m x=true↔Reach sc a x:=by
 constructor
 .intro b;exact h.re x ((h.mem x).1 b)
 .intro e;refine e.closed (p:=fun x=>mkd m x=true) ?_ ((h.mem a).2 h.frm);intro u f v d;obtain⟨j,c,rfl⟩:=List.getElem_of_mem ((h.mem u).1 f);exact h.done j (by omega) _ (List.getElem?_eq_getElem c) v d
end
section
variable {ns:List Nd} {root a:Nat}
theorem zo3 {l m:List Bool} (hl:l.length=m.length) (h:∀x,mkd l x=true↔mkd m x=true):l=m:=by
 apply List.ext_getElem hl;intro i b c;have:=h i;unfold mkd at this;simp only[List.getD_eq_getElem?_getD,List.getElem?_eq_getElem b,List.getElem?_eq_getElem c,Option.getD_some]at this;cases e1:l[i]<;>cases e2:m[i]<;>simp_all
theorem zav (h:Refs ns) (hr:root<ns.length):(marks ns root).length=ns.length:=
 (zbq h.succ ns.length (List.replicate ns.length false) root (by simp) hr (zc3 _)).len
theorem zfz (h:Refs ns):(inKeys ns).length=ns.length:=by
 have b:∀k∈allKeys ns,k<ns.length:=by
  intro k b;obtain⟨y,d,c⟩:=List.mem_flatMap.1 b;exact h y d k (List.mem_append_left _ c)
 exact(zeq (zbq h.succ ns.length) (allKeys ns) (List.replicate ns.length false) b (by simp) (zc3 _)).len
theorem Bfs.marks {i:Nat} {m:List Bool} {L P:List Nat} (h:Refs ns) (ha:a<ns.length) (hb:Bfs (succ ns) ns.length a m L i P) (hi:L.length<=i):m=Gr.marks ns a:=
 zo3 (by rw[hb.ml,zav h ha]) (fun x=>by rw[hb.last hi,zay h ha])
def orM (o m:List Bool):List Bool:=List.zipWith (·|| ·) o m
theorem zo4 {o m:List Bool} (h:o.length=m.length):(orM o m).length=o.length:=by simp[orM,h]
theorem zug {o m:List Bool} (h:o.length=m.length) (x:Nat):mkd (orM o m) x=(mkd o x || mkd m x):=by
 unfold mkd orM;simp only[List.getD_eq_getElem?_getD,List.getElem?_zipWith];rcases Nat.lt_or_ge x o.length with h1|h1
 .grind
 .grind
theorem zif (h:Refs ns):∀(K:List Nat) (o:List Bool),(∀k∈K,k<ns.length)->o.length=ns.length->
 (K.foldl (fun o k=>orM o (Gr.marks ns k)) o).length=ns.length/\∀x,mkd (K.foldl (fun o k=>orM o (Gr.marks ns k)) o) x=true↔mkd o x=true\/∃k∈K,Reach (succ ns) k x:=by
 intro K
 induction K with
 |nil=>intro o _ b;exact⟨b,fun x=>by simp⟩
 |cons k K ih=>
  intro o d b;have c:=d k (.head _);have e:=zav h c;obtain⟨g,f⟩:=ih (orM o (Gr.marks ns k)) (fun z j=>d z (.tail _ j)) (by rw[zo4 (by omega),b]);refine⟨g,fun x=>?_⟩;rw[List.foldl_cons,f,zug (by omega),Bool.or_eq_true,zay h c];constructor
  .grind
  .grind
theorem zjm (h:Refs ns):(allKeys ns).foldl (fun o k=>orM o (Gr.marks ns k)) (List.replicate ns.length false)=Gr.inKeys ns:=by
 have b:∀k∈allKeys ns,k<ns.length:=by
  intro k b;obtain⟨y,e,c⟩:=List.mem_flatMap.1 b;exact h y e k (List.mem_append_left _ c)
 obtain⟨d,f⟩:=zif h (allKeys ns) (List.replicate ns.length false) b (by simp);refine zo3 (by rw[d,zfz h]) (fun x=>?_);rw[f,zal h,zfu];simp
end
end Gr
open Gr
open _root_.Go.Lib (hid)
theorem zqn {s:Gr.Str} (h:Gr.rd s=none):(locP s).2=3:=by unfold locP;rw[h]
theorem zyd {x:Gr.Mo} (h:MoOk x):1<=moSh x:=by
 unfold moSh;rcases h.sh with⟨a,b⟩|⟨a,b,_⟩|⟨a,b,_⟩<;>rw[a,b]<;>decide
theorem zm1 (s:Gr.Str) (hl:s.length<=1073741823) (w:World) (hT:UT w):
 Calls prog 45 #[.string ⟨s.toArray⟩] w fun e w'=>(∃n:Int,e=.returned (.int .i64 n)/\(n != 0)=locB s)/\Below w.heap.size w w':=by
 have j:=hid (zm0 s hl w hT);have i:Hid (locB s=decide ((locP s).2=0/\(locP s).1=s)):=hid rfl;obtain⟨r,K⟩:=ex (locB s)
 rw[K]at i ⊢;have y:=hid (fun h=>zqn (s:=s) h);have c:=hid (fun x (h:Gr.rd s=some x)=>And.intro (fun W=>zfg hl h W) (zqi h));obtain⟨⟨l,k⟩,J⟩:∃p,locP s=p:=⟨_,rfl⟩
 rw[J]at j i y;obtain⟨A,f⟩:∃A:Int,(k:Int)=A:=⟨_,rfl⟩
 unfold zdd at j;simp only[f]at j i;have G:=hid f;clear K J f hT;by_cases h0:A=0
 .subst h0;have C:((0:Int)==0)=true:=rfl;have F:((0:Int) != 0)=false:=rfl;by_cases hs:l=s
  .have g:(l==s)=true:=by rw[beq_iff_eq];exact hs
   have E:(l != s)=false:=by rw[bne,g];rfl
   have o:Hid (r=true):=hid (by rw[i.out];simp[hs];have:=G.out;omega);cases hrd:Gr.rd s with
   |none=>exact absurd (y.out hrd) (by have:=G.out;simp only;omega)
   |some x=>
    obtain⟨m,B⟩:=c.out x hrd;have v:=hid m;have D:=zyd B;obtain⟨sh,d⟩:=ex (moSh x)
    obtain⟨I,u⟩:∃I:Int,((x.z.toNat:Nat):Int)=I:=⟨_,rfl⟩
    rw[d,u]at v;rw[d]at D;clear hs hrd B m d u c y;go_enter func45,ntmps45;go_wp2_with fail;refine j.out.mono ?_;rintro e H ⟨rfl,a⟩;have b:=hid a;clear a;go_wp2_with fail;refine(v.out _).mono ?_;rintro e w2 ⟨rfl,t⟩;have q:=hid (b.out.trans (t.mono b.out.size));clear t;go_wp2;go_ret;exact⟨⟨_,rfl,by rw[o.out];simp;omega⟩,q.out.alloc q.out.size _⟩
  .have g:(l==s)=false:=by rw[beq_eq_false_iff_ne];exact hs
   have E:(l != s)=true:=by rw[bne,g];rfl
   have o:Hid (r=false):=hid (by rw[i.out];simp[hs]);clear hs c y;go_enter func45,ntmps45;go_wp2_with fail;refine j.out.mono ?_;rintro e H ⟨rfl,a⟩;have b:=hid a;clear a;go_wp2;go_ret;exact⟨⟨_,rfl,by rw[o.out];rfl⟩,b.out⟩
 .have C:(A==0)=false:=by simpa using h0
  have F:(A != 0)=true:=by rw[bne,C];rfl
  have o:Hid (r=false):=hid (by rw[i.out];simp;intro e;exact absurd (by have:=G.out;omega) h0);clear c y;go_enter func45,ntmps45;go_wp2_with fail;refine j.out.mono ?_;rintro e H ⟨rfl,a⟩;have b:=hid a;clear a;go_wp2;go_ret;exact⟨⟨_,rfl,by rw[o.out];rfl⟩,b.out⟩
theorem ztg (text:Gr.Str) (hl:text.length<=1073741823):ScalOk UT 8 text (locB text):=by
 intro w f;have b:=hid (zm1 text hl w f);obtain⟨r,g⟩:=ex (locB text)
 rw[g]at b ⊢;clear g f;go_enter func22,ntmps22;go_wp2_with fail;refine b.out.mono ?_;rintro e w2 ⟨⟨n,rfl,c⟩,d⟩;have h:=hid d;have a:=hid c;clear d c;go_wp2;go_ret;exact⟨by rw[<-a.out];rfl,h.out⟩
theorem zth (text:Gr.Str) (hl:text.length<=1073741823):ScalOk UT 7 text (insB text):=by
 intro w o;have f:=hid (zix text hl w o);have d:Hid (insB text=decide ((insP text).2=0/\(insP text).1=text)):=hid rfl;obtain⟨r,s⟩:=ex (insB text)
 rw[s]at d ⊢;obtain⟨⟨l,k⟩,n⟩:∃p,insP text=p:=⟨_,rfl⟩
 rw[n]at f d;obtain⟨h,c⟩:∃h:Int,(k:Int)=h:=⟨_,rfl⟩
 unfold zdd at f;simp only[c]at f d;have q:=hid c;clear s n c o;by_cases h0:h=0
 .subst h0;have j:((0:Int)==0)=true:=rfl;by_cases hs:l=text
  .have i:(l==text)=true:=by rw[beq_iff_eq];exact hs
   have g:Hid (r=true):=hid (by rw[d.out];simp[hs];have:=q.out;omega);clear hs;go_enter func22,ntmps22;go_wp2_with fail;refine f.out.mono ?_;rintro e m ⟨rfl,a⟩;have b:=hid a;clear a;go_wp2;go_ret;rw[g.out];exact⟨rfl,b.out⟩
  .have i:(l==text)=false:=by rw[beq_eq_false_iff_ne];exact hs
   have g:Hid (r=false):=hid (by rw[d.out];simp[hs]);clear hs;go_enter func22,ntmps22;go_wp2_with fail;refine f.out.mono ?_;rintro e m ⟨rfl,a⟩;have b:=hid a;clear a;go_wp2;go_ret;rw[g.out];exact⟨rfl,b.out⟩
 .have j:(h==0)=false:=by simpa using h0
  have g:Hid (r=false):=hid (by rw[d.out];simp;intro e;exact absurd (by have:=q.out;omega) h0);go_enter func22,ntmps22;go_wp2_with fail;refine f.out.mono ?_;rintro e m ⟨rfl,a⟩;have b:=hid a;clear a;go_wp2;go_ret;rw[g.out];exact⟨rfl,b.out⟩
namespace Gr
def wtN (ns:List Nd) (i:Nat):Nat:=(ns[i]?.map (fun x=>x.text.length+30)).getD 0
def plen (ns:List Nd) (f:Nat) (L:List Nat):Nat:=(L.map (fun i=>(printF ns f i).length)).sum
def wtS (ns:List Nd) (L:List Nat):Nat:=(L.map (wtN ns)).sum
def kids (ns:List Nd) (L:List Nat):List Nat:=L.flatMap (succ ns)
theorem zlh {l m:List Nat} (h:l.Perm m):l.sum=m.sum:=by
 grind
theorem zf8 (n:Nat) (L:List Nat) (hd:L.Nodup) (hL:∀x∈L,x<n):∃R,(L++R).Perm (List.range n):=by
 refine⟨(List.range n).filter (fun x=>decide (x∉L)),?_⟩;refine(ze6 (List.range n) _ List.nodup_range (fun x hx=>?_) ?_).symm
 .grind
 .rw[List.length_append,<-List.countP_eq_length_filter,<-zdu n L hd hL];rw[List.length_eq_countP_add_countP (l:=List.range n) (p:=fun i=>decide (i∈L))];apply Nat.le_of_eq
  congr 1
  exact List.countP_congr (fun x _=>by simp)
theorem zyg (ns:List Nd) (L:List Nat) (hd:L.Nodup) (hL:∀x∈L,x<ns.length):wtS ns L<=wtS ns (List.range ns.length):=by
 obtain⟨R,a⟩:=zf8 ns.length L hd hL;unfold wtS;rw[<-zlh (a.map (wtN ns)),List.map_append,List.sum_append];omega
theorem zq9 (ns:List Nd):kids ns (List.range ns.length)=refs ns:=by
 unfold kids refs;rw[List.flatMap_def,List.flatMap_def]
 congr 1
 apply List.ext_getElem
 .simp
 .intro i a h2;simp only[List.length_map,List.length_range]at a;simp[zca a]
theorem znf (ns:List Nd) (L:List Nat) (hd:L.Nodup) (hL:∀x∈L,x<ns.length) (y:Nat):(kids ns L).count y<=(refs ns).count y:=by
 obtain⟨R,a⟩:=zf8 ns.length L hd hL;rw[<-zq9];have:=(a.flatMap_right (succ ns)).count_eq y;unfold kids;rw[<-this,List.flatMap_append,List.count_append];omega
theorem dec_len (n:Nat) (h:n<=999999999):(Lib.decDigits n).length<=9:=by
 have:=zpo 9 n (by omega) (by omega);have a:=congrArg List.length this;rw[List.length_append,List.length_replicate,za6]at a;omega
section
variable {ns:List Nd}
theorem zhd (l:List Str):l.flatten.length=(l.map List.length).sum:=by
 grind
theorem zra (f:Nat) (x:Nd) (hk:x.kind=10->x.keys.length=x.items.length):(entS ns f x).flatten.length<=plen ns f (x.keys++x.items):=by
 have e:(entS ns f x).flatten.length=(ents ns f x).flatten.length:=by
  rw[zhd,zhd];unfold entS;split
  .exact zlh ((za7 _).map _)
  .rfl
 rw[e,zhd];unfold ents plen;rw[List.map_map,List.map_append,List.sum_append];have b:∀l:List Nat,(List.range l.length).map (fun k=>(printF ns f (l.getD k 0)).length)=l.map (fun i=>(printF ns f i).length):=by
  intro l;apply List.ext_getElem
  .simp
  .grind
 have c:∀(l:List Nat) (p q:Nat->Nat),(l.map (fun k=>p k+q k)).sum=(l.map p).sum+(l.map q).sum:=by
  intro l p q
  induction l with
  |nil=>rfl
  |cons a l ih=>simp only[List.map_cons,List.sum_cons,ih];omega
 by_cases h10:x.kind=10
 .have d:=hk h10;have:(List.length ∘ fun k=>(if x.kind=10 then printF ns f (x.keys.getD k 0)else[])++printF ns f (x.items.getD k 0))=fun k=>(printF ns f (x.keys.getD k 0)).length+(printF ns f (x.items.getD k 0)).length:=by
   funext k;simp[h10]
  rw[this,c,b,<-d,b];exact Nat.le_refl _
 .have:(List.length ∘ fun k=>(if x.kind=10 then printF ns f (x.keys.getD k 0)else[])++printF ns f (x.items.getD k 0))=fun k=>(printF ns f (x.items.getD k 0)).length:=by
   funext k;simp[h10]
  rw[this,b];omega
theorem zng (hok:NodesOk ns) (hb:∀x∈ns,x.text.length<=999999999/\x.items.length<=999999999) (f i:Nat) (hi:i<ns.length):(printF ns (f+1) i).length<=wtN ns i+plen ns f (succ ns i):=by
 have a:ns[i]∈ns:=List.getElem_mem hi;have h1:=zra (ns:=ns) f ns[i] (hok _ a).2.2;have d1:=dec_len _ (hb _ a).1;have d2:=dec_len _ (hb _ a).2;rw[zao (List.getElem?_eq_getElem hi),zca hi];unfold wtN;rw[List.getElem?_eq_getElem hi];simp only[Option.map_some,Option.getD_some,List.length_cons,List.length_append];have:(if ns[i].ord=true then[33]else([]:Str)).length<=1:=by split<;>simp
 omega
theorem zrb (f:Nat) (L:List Nat):plen ns f (kids ns L)=(L.map (fun i=>plen ns f (succ ns i))).sum:=by
 induction L with
 |nil=>rfl
 |cons a L ih=>
  unfold kids plen at ih ⊢;simp only[List.flatMap_cons,List.map_append,List.sum_append,List.map_cons,List.sum_cons,ih]
theorem znh (hok:NodesOk ns) (hb:∀x∈ns,x.text.length<=999999999/\x.items.length<=999999999) (f:Nat):∀L:List Nat,(∀x∈L,x<ns.length)->plen ns (f+1) L<=wtS ns L+plen ns f (kids ns L):=by
 intro L b;rw[zrb];unfold plen wtS
 induction L with
 |nil=>simp
 |cons a L ih=>
  have c:=ih (fun x d=>b x (.tail _ d));have e:=zng hok hb f a (b a (.head _));unfold plen at e c;simp only[List.map_cons,List.sum_cons];omega
theorem zww (hr:Refs ns) (hok:NodesOk ns) (hb:∀x∈ns,x.text.length<=999999999/\x.items.length<=999999999) {K:Nat->Prop} (hK:∀u,K u->∀v∈succ ns u,K v) (hone:∀x,K x->(refs ns).count x<=1):∀(f:Nat) (L:List Nat),L.Nodup->(∀x∈L,x<ns.length/\K x)->plen ns f L<=f*wtS ns (List.range ns.length):=by
 intro f
 induction f with
 |zero=>
  intro L _ _;unfold plen;have:(L.map (fun i=>(printF ns 0 i).length)).sum=0:=by
   induction L with
   |nil=>rfl
   |cons a L ih=>
    rw[List.map_cons,List.sum_cons];have l:(printF ns 0 a).length=0:=rfl;rw[l,Nat.zero_add];apply ih
    .grind
    .grind
  rw[this];omega
 |succ f ih=>
  intro L j h;have b:∀x∈L,x<ns.length:=fun x e=>(h x e).1
  have h1:=znh hok hb f L b;have h2:=zyg ns L j b;have d:∀x∈kids ns L,x<ns.length/\K x:=by
   intro x e;obtain⟨u,k,c⟩:=List.mem_flatMap.1 e;exact⟨hr.succ u x c,hK u (h u k).2 x c⟩
  have g:(kids ns L).Nodup:=by
   rw[List.nodup_iff_count];intro y;by_cases hy:y∈kids ns L
   .exact Nat.le_trans (znf ns L j b y) (hone y (d y hy).2)
   .grind
  have h3:=ih (kids ns L) g d;rw[Nat.succ_mul];omega
theorem zrc (hr:Refs ns) (hok:NodesOk ns) (hb:∀x∈ns,x.text.length<=999999999/\x.items.length<=999999999) {K:Nat->Prop} (hK:∀u,K u->∀v∈succ ns u,K v) (hone:∀x,K x->(refs ns).count x<=1) (f i:Nat) (hi:i<ns.length) (hKi:K i):(printF ns f i).length<=f*wtS ns (List.range ns.length):=by
 have:=zww hr hok hb hK hone f [i] (by simp) (fun x a=>by rw[List.mem_singleton.1 a];exact⟨hi,hKi⟩);unfold plen at this;simpa using this
end
end Gr
end Go.Proofs.YtpgmfihonmoliaaGreatDoor
