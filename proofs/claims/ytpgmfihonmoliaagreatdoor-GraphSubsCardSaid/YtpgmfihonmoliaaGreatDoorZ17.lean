import Derived.Test.YtpgmfihonmoliaaGreatDoorZ16
import Derived.Test.YtpgmfihonmoliaaGreatDoorZ27
import Derived.StillTailTactics
namespace Go.Proofs.YtpgmfihonmoliaaGreatDoor
open Gr
def sclU (kind:Int) (text:Gr.Str):Bool:=if kind=0 then text.isEmpty else if kind=2 then intB text else if kind=5 then utfB text else false
def KU (ns:List Gr.Nd):Prop:=∀x∈ns,x.kind=0\/x.kind=2\/x.kind=5\/x.kind=9\/x.kind=10\/x.kind=11
theorem scalsU (ns:List Gr.Nd) (hk:KU ns) (hn:NH ns):ScalsOk UT sclU ns:=by
 intro x d e a b _ _ _;have c:=(hn x d).2.2;rcases hk x d with h|h|h|h|h|h
 .rw[h];exact zh2 x.text
 .rw[h];exact zek x.text c
 .rw[h];exact ze2 x.text c
 .exact absurd h e
 .exact absurd h a
 .exact absurd h b
def nOne:Gr.Nd:=⟨2,[49],false,[],[]⟩
def nA:Gr.Nd:=⟨5,[97],false,[],[]⟩
def nsL:List Gr.Nd:=[⟨9,[],false,[],[1,2]⟩,nOne,nA]
def nsLoop:List Gr.Nd:=[⟨9,[],false,[],[0]⟩]
theorem zrt:checkG sclU nsL 0=0:=by decide+kernel
theorem zru:checkG sclU nsLoop 0=0:=by decide+kernel
theorem znu:depth nsLoop 0=(0,false):=by decide+kernel
theorem zxa:intB [49]=true:=by decide+kernel
theorem zxb:intB [48,49]=false:=by decide+kernel
theorem zy4:utfB [97]=true:=by decide+kernel
theorem zxc:listN [([nOne.ni],0),([nA.ni],0)]=nsL:=by rfl
theorem zt3:checkI sclU [nOne.ni] 0=0:=by decide+kernel
theorem zyo:checkI sclU [nA.ni] 0=0:=by decide+kernel
theorem zcg (ns:List Gr.Nd) (h:(ns.all fun n=>decide (n.keys.length<=1000/\n.items.length<=1000/\n.text.length<=1000))=true):NH ns:=by
 intro n a;have:=List.all_eq_true.1 h n a;simp at this;omega
theorem za8 (ns:List Gr.Nd) (h:(ns.all fun n=>(n.keys++n.items).all fun r=>decide (r<ns.length))=true):Refs ns:=by
 intro n a r b;have:=List.all_eq_true.1 (List.all_eq_true.1 h n a) r b;simpa using this
theorem zbx (ns:List Gr.Nd) (h:(ns.all fun n=>n.kind==0 || n.kind==2 || n.kind==5 || n.kind==9 || n.kind==10 || n.kind==11)=true):KU ns:=by
 intro n a;have:=List.all_eq_true.1 h n a;simp at this;omega
theorem zb9 (A:Option Addr) (c:Nat) (vs:List NV) (ns:List Gr.Nd) (w:World) (hUT:UT w) (h1:NH ns) (h2:KU ns) (h3:Refs ns) (h4:0<ns.length) (h5:ns.length<=1073741823) (h:GAt w w.heap.size A vs ns):ChkOk w (.agg #[.slice A ns.length c,.int .i64 0]) (checkG sclU ns 0):=
 fun W a=>zrp UT UT.stays sclU A c 0 vs ns h1 (scalsU ns h2 h1) h5 h3 h4 W (UT.stays _ _ hUT a) ((h.below a).more a.size)
theorem zt4 (w:World) (hUT:UT w):ChkOk w gZero 3:=by
 intro W a;have:=ze0 UT UT.stays sclU none 0 0 [] [] (by simp[NH]) (by simp[ScalsOk]) (by simp) W (UT.stays _ _ hUT a) ⟨?_,rfl,fun j h=>by simp at h,fun j h=>by simp at h⟩
 .exact this
 .exact(OwnRow.nil (L:=nodeL) (w:=W) (base:=0) (E:=38)).form.elim (fun A h=>by obtain⟨c,d,b⟩:=h;injection d with e1;subst e1;exact b)
theorem zhf {w:World} {g:Nat} {kind:Int} {text:Gr.Str} (h:Blk w g 38 #[.int .i64 kind,.string ⟨text.toArray⟩,.bool false,.slice none 0 0,.slice none 0 0]):GAt w w.heap.size (some ⟨g,0,none⟩) [⟨kind,text,false,SV.nil,SV.nil⟩] [⟨kind,text,false,[],[]⟩]:=by
 obtain⟨A,c,b,a⟩:=(Tab.one (B:=0) h (Nat.zero_le _)).at_;injection b with e1 e2 e3
 subst e1;exact a
def argOf (g:Nat) (kind:Int) (text:Gr.Str):GArg:=⟨some ⟨g,0,none⟩,1,0,[⟨kind,text,false,SV.nil,SV.nil⟩],[(⟨kind,text,false,[],[]⟩:Gr.Nd).ni]⟩
open Go.RowKit
theorem zt5 (A:Option Addr) (c g1 g2:Nat) (w:World) (hUT:UT w) (h1:Blk w g1 38 #[.int .i64 2,.string ⟨([49]:Gr.Str).toArray⟩,.bool false,.slice none 0 0,.slice none 0 0]) (h2:Blk w g2 38 #[.int .i64 5,.string ⟨([97]:Gr.Str).toArray⟩,.bool false,.slice none 0 0,.slice none 0 0])
 (hrow:RowAt argL w w.heap.size A [argOf g1 2 [49],argOf g2 5 [97]]):
 Calls Tryz.prog 12 #[.slice A 2 c] w fun e w'=>Below w.heap.size w w'/\∃A3 c3 vs,e=.returned (.tuple #[.agg #[.slice A3 3 c3,.int .i64 0],.int .i64 0])/\GAt w' w'.heap.size A3 vs nsL:=by
 have k:GArg.chk sclU (argOf g1 2 [49])=0:=zt3;have l:GArg.chk sclU (argOf g2 5 [97])=0:=zyo;have d:NH [nOne]:=zcg _ (by decide);have f:NH [nA]:=zcg _ (by decide);have q:=(zhf h1).toI;have r:=(zhf h2).toI;have b:listN ([argOf g1 2 [49],argOf g2 5 [97]].map GArg.p)=nsL:=zxc;have j:NH nsL:=zcg _ (by decide);have g:[argOf g1 2 [49],argOf g2 5 [97]].any (fun x=>x.chk sclU != 0)=false:=by simp[k,l]
 have h:=zt2 UT UT.stays sclU A c [argOf g1 2 [49],argOf g2 5 [97]] (by simp)
  (by
    intro x a;simp at a;rcases a with rfl|rfl
    .exact d
    .exact f)
  (by
    intro x a;simp at a;rcases a with rfl|rfl
    .exact scalsU [nOne] (zbx _ (by decide)) d
    .exact scalsU [nA] (zbx _ (by decide)) f)
  w hUT ⟨hrow,by intro x a;simp at a;exact a.elim (fun e=>e▸q) (fun e=>e▸r)⟩
  (by
    intro x a;simp at a;rcases a with rfl|rfl
    .rw[k];exact zb9 _ _ _ [nOne] w hUT d (zbx _ (by decide)) (za8 _ (by decide)) (by decide) (by decide) (zhf h1)
    .rw[l];exact zb9 _ _ _ [nA] w hUT f (zbx _ (by decide)) (za8 _ (by decide)) (by decide) (by decide) (zhf h2))
  (by
    intro _ W A c vs o m;rw[b]at m ⊢;exact zb9 _ _ _ nsL W o j (zbx _ (by decide)) (za8 _ (by decide)) (by decide) (by decide) m)
 refine h.mono ?_;rintro e w' ⟨s,_,n⟩;refine⟨s,?_⟩;have i:=(n g).2;rw[b]at i;exact i zrt
open _root_.Go.Proofs.Tryz
open _root_.Go.Lib (hid)
set_option maxRecDepth 100000
set_option maxHeartbeats 16000000
open Go.RowKit
theorem zf7 {w:World} {B:Nat} {A:Option Addr} {vs:List NV} {ns:List Gr.Nd} (h:GAt w B A vs ns) {j:Nat} {n:Gr.Nd} (hj:j<ns.length) (hn:ns[j]=n):∃ad ka kc ia ic,A=some ad/\w.cell? {block:=(ad.add (j*5)).block,off:=(ad.add (j*5)).off+3}=some (.slice ka n.keys.length kc)/\
 w.cell? {block:=(ad.add (j*5)).block,off:=(ad.add (j*5)).off+4}=some (.slice ia n.items.length ic)/\RowAt intL w B ka n.keys/\RowAt intL w B ia n.items:=by
 subst hn;obtain⟨ad,⟨ka,b,kc⟩,⟨ia,a,ic⟩,e,h⟩:=h.node hj;obtain rfl:b=ns[j].keys.length:=h.kn;obtain rfl:a=ns[j].items.length:=h.inn;exact⟨ad,ka,kc,ia,ic,e,h.c3,h.c4,h.keys,h.items⟩
structure CB (w wr:World) (gc:Array Value) (m:List Nat):Prop where
 below:Below w.heap.size w wr
 box:Blk wr w.heap.size 24 gc
 out:Blk wr (w.heap.size+1) 3 (icells m)
theorem CB.step {w wr:World} {gc:Array Value} {m:List Nat} (h:CB w wr gc m) (x:Nat):CB w (wr.setCell ⟨w.heap.size+1,x,none⟩ (.int .i64 ((m.getD x 0:Nat)+1))) gc (cstep m x):=
 ⟨h.below.setCell (by simp) _,h.box.far (by simp) _,by
  unfold cstep;rw[<-zam];exact h.out.set_ x _⟩
theorem zj8 (A:Option Addr) (c root:Nat) (vs:List NV) (ns:List Gr.Nd) (hr:Refs ns) (hl:ns.length<=1000) (hks:∀n∈ns,n.keys.length<=1000/\n.items.length<=1000) (ha:root<ns.length)
 (w:World) (h:GAt w w.heap.size A vs ns):
 Calls prog 36 #[.agg #[.slice A ns.length c,.int .i64 root]] w fun e w'=>∃ob,e=.returned (.slice (some ⟨ob,0,none⟩) ns.length ns.length)/\w.heap.size<=ob/\Below w.heap.size w w'/\Blk w' ob 3 (icells (counts ns root)):=by
 have H:=hid h;have ac:=fun W=>za3 ns.length (by omega) W
 have haI:(root:Int)<(ns.length:Int):=by omega
 have ae:Hid (∀j,(Gr.refs (ns.take j)).length<=2000*j):=hid (fun j=>by
  induction j with
  |zero=>simp[Gr.refs]
  |succ j ih=>
   by_cases hj:j<ns.length
   .rw[zdj ns j hj];have:=hks _ (List.getElem_mem hj);simp only[List.length_append];omega
   .rw[List.take_of_length_le (by omega)];rw[List.take_of_length_le (by omega)]at ih;omega)
 clear h;go_enter func36,ntmps36;go_upto_region 2 with fail;obtain⟨O,q⟩:=ex ((w.alloc (.cells #[.slice A ns.length c,.int .i64 root] 24)).alloc (.cells (icells (List.replicate ns.length 0)) 3))
 obtain⟨g,F⟩:∃g:Array Value,#[.slice A ns.length c,.int .i64 root]=g:=⟨_,rfl⟩
 have r:Hid (g[0]? =some (.slice A ns.length c)/\g[1]? =some (.int .i64 root)):=hid (by rw[<-F];exact⟨rfl,rfl⟩);have N:CB w O g (List.replicate ns.length 0):=by
  refine⟨by rw[<-q];exact((Below.refl _ _).alloc (Nat.le_refl _) _).alloc (by simp) _,by rw[<-q,<-F];exact(Blk.new _ _ _).alloc _,?_⟩;rw[<-q];have:=Blk.new (w.alloc (.cells #[.slice A ns.length c,.int .i64 root] 24)) 3 (icells (List.replicate ns.length 0));rw[World.size_alloc]at this;exact this
 have g1:O.cell? ⟨w.heap.size,1,none⟩=some (.int .i64 root):=by rw[N.box.cell];exact r.out.2
 have e0:(List.replicate ns.length 0).getD root 0=0:=by simp[List.getD_eq_getElem?_getD,ha]
 have z0:O.cell? ⟨w.heap.size+1,root,none⟩=some (.int .i64 0):=by
  rw[N.out.cell,zab (by simpa using ha),e0];rfl
 have Z:∀i,O.frozen? ⟨w.heap.size+1,i,none⟩=false:=N.out.frozen;have o:=N.step root;rw[e0]at o;obtain⟨f,G⟩:=ex (cstep (List.replicate ns.length 0) root)
 have p:Hid (f.length=ns.length/\(∀x,f.getD x 0<=1)/\counts ns root=(Gr.refs ns).foldl cstep f):=hid (by
  rw[<-G];refine⟨by rw[zch];simp,fun x=>?_,rfl⟩;have:=zef (List.replicate ns.length 0) root x;have e:(List.replicate ns.length 0).getD x 0=0:=by simp[List.getD_eq_getElem?_getD,List.getElem?_replicate];split<;>rfl
  omega)
 rw[G]at o;rw[q];clear q F N;go_upto_region 3 with fail;obtain⟨w3,B⟩:=ex (O.setCell ⟨w.heap.size+1,root,none⟩ (.int .i64 1))
 have o:Hid (CB w w3 g f):=hid (by rw[<-B];exact o);rw[B];clear B G g1 z0 Z e0 ac;go_upto_region 4 with fail;go_loopw [4] (fun s4 wr=>∃j:Nat,j<=ns.length/\s4=.int .i64 j/\Hid (CB w wr g ((Gr.refs (ns.take j)).foldl cstep f))) (fun s4 _=>ns.length-(intOf s4).toNat)
 case atStart=>exact⟨0,by omega,rfl,hid (by simpa[Gr.refs]using o.out)⟩
 case round=>
  obtain⟨j,hj,rfl,S⟩:=hrel;have T:wr.cell? ⟨w.heap.size,0,none⟩=some (.slice A ns.length c):=by rw[S.out.box.cell];exact r.out.1
  by_cases hlt:j<ns.length
  .have P:(j:Int)<(ns.length:Int):=by omega
   have s:ns[j]∈ns:=List.getElem_mem hlt;obtain⟨n,L⟩:=ex (ns[j])
   have Q:Hid (∀x∈n.keys++n.items,x<ns.length):=hid (by rw[<-L];exact hr _ s);have hkl:n.keys.length<=1000:=by rw[<-L];exact(hks _ s).1
   have hil:n.items.length<=1000:=by rw[<-L];exact(hks _ s).2
   obtain⟨R,Y⟩:=ex (Gr.refs (ns.take j))
   have ah:Hid (Gr.refs (ns.take (j+1))=R++(n.keys++n.items)):=hid (by rw[zdj ns j hlt,Y,L]);have M:Hid (R.length<=2000000):=hid (by have:=ae.out j;rw[Y]at this;omega);have y:Hid (∀W,CB w W g ((Gr.refs (ns.take j)).foldl cstep f)\/Below w.heap.size w W->∃ad ka kc ia ic,A=some ad/\W.cell? {block:=(ad.add (j*5)).block,off:=(ad.add (j*5)).off+3}=some (.slice ka n.keys.length kc)/\
    W.cell? {block:=(ad.add (j*5)).block,off:=(ad.add (j*5)).off+4}=some (.slice ia n.items.length ic)/\RowAt intL W w.heap.size ka n.keys/\RowAt intL W w.heap.size ia n.items):=hid (fun W hW=>zf7 (H.out.below (hW.elim (fun x=>x.below) id)) hlt L)
   rw[Y]at S y;obtain⟨ad,ka,kc,ia,ic,rfl,V,U,_,_⟩:=y.out wr (.inl S.out);clear s Y L;go_upto_region 7 with fail;clear T V U;go_loopw [5] (fun s5 wr=>∃k:Nat,k<=n.keys.length/\s5=.int .i64 k/\Hid (CB w wr g ((R++n.keys.take k).foldl cstep f))) (fun s5 _=>n.keys.length-(intOf s5).toNat)
   case atStart=>exact⟨0,by omega,rfl,hid (by rw[List.take_zero,List.append_nil];exact S.out)⟩
   case round=>
    obtain⟨k,hk,rfl,u⟩:=hrel;have T:wr.cell? ⟨w.heap.size,0,none⟩=some (.slice (some ad) ns.length c):=by rw[u.out.box.cell];exact r.out.1
    obtain⟨aa,ka,kc,ia,ic,z,V,U,K,J⟩:=y.out wr (.inr u.out.below);injection z with z
    subst z;by_cases hlk:k<n.keys.length
    .have m:(k:Int)<(n.keys.length:Int):=by omega
     obtain⟨x,t⟩:=ex (n.keys[k])
     obtain⟨af,rfl,_,y0⟩:=zaf K hlk;rw[t]at y0;have ag:x<ns.length:=Q.out x (by simp[<-t]);have ab:(x:Int)<(ns.length:Int):=by omega
     obtain⟨l,a⟩:=ex ((R++n.keys.take k).foldl cstep f)
     have D:l.length=ns.length:=by rw[<-a,zb1,p.out.1]
     have E:l.getD x 0<=3000000:=by
      rw[<-a];have h1:=zdi (R++n.keys.take k) f x;have h2:=p.out.2.1 x;have h3:=M.out;simp only[List.length_append,List.length_take]at h1;omega
     have d:=u.out;rw[a]at d;have b:=d.step x;obtain⟨v,C⟩:=ex (l.getD x 0)
     have z0:wr.cell? ⟨w.heap.size+1,x,none⟩=some (.int .i64 (v:Int)):=by rw[d.out.cell,zab (by omega),C]
     have Z:∀i,wr.frozen? ⟨w.heap.size+1,i,none⟩=false:=d.out.frozen;rw[C]at E b;have I:Hid (CB w (wr.setCell ⟨w.heap.size+1,x,none⟩ (.int .i64 ((v:Int)+1))) g ((R++n.keys.take (k+1)).foldl cstep f)):=hid (by
      rw[zai _ _ hlk,<-List.append_assoc,List.foldl_append,a,t];exact b)
     have aj:k<=1000:=by omega
     clear d b a D C t K J;go_wp2;go_roundw
     case rel=>exact⟨k+1,by omega,by go_num,I⟩
     case measure=>simp[intOf];omega
    .have m:¬(k:Int)<(n.keys.length:Int):=by omega
     have X:Hid (CB w wr g ((R++n.keys).foldl cstep f)):=hid (by have:=u.out;rwa[List.take_of_length_le (by omega)]at this);clear K J;go_upto_region 11 with fail;clear T V U;go_loopw [6] (fun s6 wr=>∃k:Nat,k<=n.items.length/\s6=.int .i64 k/\Hid (CB w wr g (((R++n.keys)++n.items.take k).foldl cstep f))) (fun s6 _=>n.items.length-(intOf s6).toNat)
     case atStart=>exact⟨0,by omega,rfl,hid (by rw[List.take_zero,List.append_nil];exact X.out)⟩
     case round=>
      obtain⟨k,hk,rfl,u⟩:=hrel;have T:wr.cell? ⟨w.heap.size,0,none⟩=some (.slice (some ad) ns.length c):=by rw[u.out.box.cell];exact r.out.1
      obtain⟨aa,ka,kc,ia,ic,z,V,U,K,J⟩:=y.out wr (.inr u.out.below);injection z with z
      subst z;by_cases hlk:k<n.items.length
      .have m:(k:Int)<(n.items.length:Int):=by omega
       obtain⟨x,t⟩:=ex (n.items[k])
       obtain⟨af,rfl,_,y0⟩:=zaf J hlk;rw[t]at y0;have ag:x<ns.length:=Q.out x (by simp[<-t]);have ab:(x:Int)<(ns.length:Int):=by omega
       obtain⟨l,a⟩:=ex (((R++n.keys)++n.items.take k).foldl cstep f)
       have D:l.length=ns.length:=by rw[<-a,zb1,p.out.1]
       have E:l.getD x 0<=3000000:=by
        rw[<-a];have h1:=zdi ((R++n.keys)++n.items.take k) f x;have h2:=p.out.2.1 x;have h3:=M.out;simp only[List.length_append,List.length_take]at h1;omega
       have d:=u.out;rw[a]at d;have b:=d.step x;obtain⟨v,C⟩:=ex (l.getD x 0)
       have z0:wr.cell? ⟨w.heap.size+1,x,none⟩=some (.int .i64 (v:Int)):=by rw[d.out.cell,zab (by omega),C]
       have Z:∀i,wr.frozen? ⟨w.heap.size+1,i,none⟩=false:=d.out.frozen;rw[C]at E b;have I:Hid (CB w (wr.setCell ⟨w.heap.size+1,x,none⟩ (.int .i64 ((v:Int)+1))) g (((R++n.keys)++n.items.take (k+1)).foldl cstep f)):=hid (by
        rw[zai _ _ hlk,<-List.append_assoc,List.foldl_append,a,t];exact b)
       have aj:k<=1000:=by omega
       clear d b a D C t K J;go_wp2;go_roundw
       case rel=>exact⟨k+1,by omega,by go_num,I⟩
       case measure=>simp[intOf];omega
      .have m:¬(k:Int)<(n.items.length:Int):=by omega
       have ai:Hid (CB w wr g (((R++n.keys)++n.items).foldl cstep f)):=hid (by have:=u.out;rwa[List.take_of_length_le (by omega)]at this);clear K J;have HF:Hid (CB w wr g ((Gr.refs (ns.take (j+1))).foldl cstep f)):=hid (by rw[ah.out,<-List.append_assoc];exact ai.out);go_wp2;go_roundw
       case rel=>exact⟨j+1,by omega,by go_num,HF⟩
       case measure=>simp[intOf];omega
  .have P:¬(j:Int)<(ns.length:Int):=by omega
   have X:Hid (CB w wr g (counts ns root)):=hid (by rw[p.out.2.2];have:=S.out;rwa[List.take_of_length_le (by omega)]at this);go_wp2;go_ret;exact⟨w.heap.size+1,rfl,by omega,X.out.below,X.out.out⟩
structure MB (w wr:World) (gc:Array Value) (m:List Bool):Prop where
 below:Below w.heap.size w wr
 box:Blk wr w.heap.size 24 gc
 out:Blk wr (w.heap.size+1) 4 (bcells m)
 hd:w.heap.size+2<=wr.heap.size
theorem MB.later {w wr w2:World} {gc:Array Value} {m:List Bool} (h:MB w wr gc m) (hb:Below wr.heap.size wr w2):MB w w2 gc m:=
 ⟨h.below.trans (hb.mono h.below.size),h.box.below hb h.box.lt,h.out.below hb h.out.lt,Nat.le_trans h.hd hb.size⟩
theorem MB.set {w wr:World} {gc:Array Value} {m:List Bool} (h:MB w wr gc m) (x:Nat) (b:Bool):MB w (wr.setCell ⟨w.heap.size+1,x,none⟩ (.bool b)) gc (m.set x b):=
 ⟨h.below.setCell (by simp) _,h.box.far (by simp) _,by rw[<-zb0];exact h.out.set_ x _,by have:=h.hd;simpa[World.setCell]using this⟩
def OrTo (o m acc:List Bool) (j:Nat):Prop:=acc.length=o.length/\∀x,mkd acc x=if x<j then(mkd o x || mkd m x)else mkd o x
theorem OrTo.step {o m acc:List Bool} {j:Nat} (h:OrTo o m acc j) (hj:j<o.length):OrTo o m (acc.set j (mkd o j || mkd m j)) (j+1):=by
 refine⟨by simp[h.1],fun x=>?_⟩;have a:mkd (acc.set j (mkd o j || mkd m j)) x=if x=j then(mkd o j || mkd m j)else mkd acc x:=by
  unfold mkd;simp only[List.getD_eq_getElem?_getD,List.getElem?_set];by_cases e:j=x
  .subst e;simp[h.1,hj]
  .rw[if_neg e,if_neg (fun k=>e k.symm)]
 rw[a,h.2];by_cases e:x=j
 .subst e;rw[if_pos rfl,if_pos (by omega)]
 .rw[if_neg e];by_cases e2:x<j
  .rw[if_pos e2,if_pos (by omega)]
  .rw[if_neg e2,if_neg (by omega)]
theorem OrTo.last {o m acc:List Bool} {j:Nat} (h:OrTo o m acc j) (hm:o.length=m.length) (hj:o.length<=j):acc=Gr.orM o m:=by
 refine zo3 (by rw[h.1,zo4 hm]) (fun x=>?_);rw[h.2,zug hm];by_cases e:x<j
 .rw[if_pos e]
 .rw[if_neg e];have:mkd m x=false:=by unfold mkd;rw[List.getD_eq_getElem?_getD,List.getElem?_eq_none (by omega)];rfl
  rw[this,Bool.or_false]
theorem zj9 (A:Option Addr) (c:Nat) (root:Int) (vs:List NV) (ns:List Gr.Nd) (hr:Refs ns) (hl:ns.length<=1000) (hks:∀n∈ns,n.keys.length<=1000/\n.items.length<=1000)
 (w:World) (h:GAt w w.heap.size A vs ns):
 Calls prog 37 #[.agg #[.slice A ns.length c,.int .i64 root]] w fun e w'=>∃ob,e=.returned (.slice (some ⟨ob,0,none⟩) ns.length ns.length)/\w.heap.size<=ob/\Below w.heap.size w w'/\Blk w' ob 4 (bcells (inKeys ns)):=by
 have H:=hid h;have af:=fun W=>zbm ns.length (by omega) W
 have ab:Hid (∀k∈allKeys ns,k<ns.length):=hid (zjc hr);have ah:Hid (∀k,k<ns.length->(marks ns k).length=ns.length):=hid (fun k hk=>zav hr hk);have r:Hid ((allKeys ns).foldl (fun o k=>Gr.orM o (marks ns k)) (List.replicate ns.length false)=inKeys ns):=hid (zjm hr);have R:Hid (∀L:List Nat,(∀x∈L,x<ns.length)->(L.foldl (fun o k=>Gr.orM o (marks ns k)) (List.replicate ns.length false)).length=ns.length):=hid (fun L hL=>(zif hr L (List.replicate ns.length false) hL (by simp)).1);clear h;go_enter func37,ntmps37;go_upto_region 2 with fail;obtain⟨w2,a⟩:=ex ((w.alloc (.cells #[.slice A ns.length c,.int .i64 root] 24)).alloc (.cells (bcells (List.replicate ns.length false)) 4))
 obtain⟨f,z⟩:∃f:Array Value,#[.slice A ns.length c,.int .i64 root]=f:=⟨_,rfl⟩
 have s:Hid (f[0]? =some (.slice A ns.length c)/\f[1]? =some (.int .i64 root)):=hid (by rw[<-z];exact⟨rfl,rfl⟩);obtain⟨t,B⟩:=ex (List.replicate ns.length false)
 have ae:Hid (MB w w2 f t):=hid (by
  refine⟨by rw[<-a];exact((Below.refl _ _).alloc (Nat.le_refl _) _).alloc (by simp) _,by rw[<-a,<-z];exact(Blk.new _ _ _).alloc _,?_,by rw[<-a];simp⟩;rw[<-a,<-B];have:=Blk.new (w.alloc (.cells #[.slice A ns.length c,.int .i64 root] 24)) 4 (bcells (List.replicate ns.length false));rw[World.size_alloc]at this;exact this)
 rw[B]at r R;rw[a];clear a z af B;go_upto_region 3 with fail;go_loopw [4] (fun s4 wr=>∃j:Nat,j<=ns.length/\s4=.int .i64 j/\Hid (MB w wr f ((allKeys (ns.take j)).foldl (fun o k=>Gr.orM o (marks ns k)) t))) (fun s4 _=>ns.length-(intOf s4).toNat)
 case atStart=>exact⟨0,by omega,rfl,hid (by simpa[allKeys]using ae.out)⟩
 case round=>
  obtain⟨j,hj,rfl,X⟩:=hrel;have g0:wr.cell? ⟨w.heap.size,0,none⟩=some (.slice A ns.length c):=by rw[X.out.box.cell];exact s.out.1
  by_cases hlt:j<ns.length
  .have P:(j:Int)<(ns.length:Int):=by omega
   have S:ns[j]∈ns:=List.getElem_mem hlt;obtain⟨n,hn⟩:=ex (ns[j])
   have hkl:n.keys.length<=1000:=by rw[<-hn];exact(hks _ S).1
   obtain⟨K,hK⟩:=ex (allKeys (ns.take j))
   have F:Hid (allKeys (ns.take (j+1))=K++n.keys):=hid (by rw[zhj ns j hlt,hK,hn]);have V:Hid (∀x∈K++n.keys,x<ns.length):=hid (fun x D=>ab.out x (zkj ns (j+1) x (by rw[F.out];exact D)));have G:Hid (∀W,Below w.heap.size w W->∃ad ka kc ia ic,A=some ad/\W.cell? {block:=(ad.add (j*5)).block,off:=(ad.add (j*5)).off+3}=some (.slice ka n.keys.length kc)/\
    W.cell? {block:=(ad.add (j*5)).block,off:=(ad.add (j*5)).off+4}=some (.slice ia n.items.length ic)/\RowAt intL W w.heap.size ka n.keys/\RowAt intL W w.heap.size ia n.items):=hid (fun W hW=>zf7 (H.out.below hW) hlt hn)
   rw[hK]at X;obtain⟨ad,ka,kc,ia,ic,rfl,x3,Z,_,_⟩:=G.out wr X.out.below;clear S hK hn;go_upto_region 6 with fail;clear g0 x3 Z;go_loopw [5] (fun s5 wr=>∃k:Nat,k<=n.keys.length/\s5=.int .i64 k/\Hid (MB w wr f ((K++n.keys.take k).foldl (fun o k=>Gr.orM o (marks ns k)) t))) (fun s5 _=>n.keys.length-(intOf s5).toNat)
   case atStart=>exact⟨0,by omega,rfl,hid (by rw[List.take_zero,List.append_nil];exact X.out)⟩
   case round=>
    obtain⟨k,hk,rfl,m⟩:=hrel;have g0:wr.cell? ⟨w.heap.size,0,none⟩=some (.slice (some ad) ns.length c):=by rw[m.out.box.cell];exact s.out.1
    have g1:wr.cell? ⟨w.heap.size,1,none⟩=some (.int .i64 root):=by rw[m.out.box.cell];exact s.out.2
    obtain⟨ad1,ka,kc,ia,ic,he,x3,Z,HK,_⟩:=G.out wr m.out.below;injection he with he
    subst he;by_cases hlk:k<n.keys.length
    .have M:(k:Int)<(n.keys.length:Int):=by omega
     obtain⟨x,D⟩:=ex (n.keys[k])
     obtain⟨ad2,rfl,_,y0⟩:=zaf HK hlk;rw[D]at y0;have U:x<ns.length:=V.out x (by simp[<-D]);obtain⟨o,ho⟩:∃o,(K++n.keys.take k).foldl (fun o k=>Gr.orM o (marks ns k)) t=o:=⟨_,rfl⟩
     have l:Hid (o.length=ns.length):=hid (by rw[<-ho];exact R.out _ (fun y hy=>V.out y (by
      rcases List.mem_append.1 hy with hy|hy
      .exact List.mem_append_left _ hy
      .exact List.mem_append_right _ (List.mem_of_mem_take hy))))
     have E:Hid ((K++n.keys.take (k+1)).foldl (fun o k=>Gr.orM o (marks ns k)) t=Gr.orM o (marks ns x)):=hid (by rw[zai _ _ hlk,<-List.append_assoc,List.foldl_append,ho,D];rfl);rw[ho]at m;have HC:Hid (∀d,Calls prog 33 #[.agg #[.slice (some ad) ns.length c,.int .i64 root],.int .i64 x] (wr.drewN d) fun e w'=>∃ob,e=.returned (.slice (some ⟨ob,0,none⟩) ns.length ns.length)/\wr.heap.size<=ob/\Below wr.heap.size wr w'/\Blk w' ob 4 (bcells (marks ns x))):=hid (fun d=>
      (zcy (some ad) c x root vs ns hr hl hks U (wr.drewN d) (((H.out.below (m.out.below)).more m.out.below.size).below (below_drewN (Below.refl _ _) d))).mono (fun e w' ⟨ob,h1,h2,h3,h4⟩=>⟨ob,h1,h2,(below_drewN (Below.refl _ _) d).trans h3,h4⟩))
     have hkb:k<=1000:=by omega
     clear D ho HK Z;go_upto_region 8 with fail;go_still_tail 10,(by kernel_rfl)
     change wpList _ _ _ _ _ wr.drew;go_wp2_with fail;refine(HC.out 1).mono ?_;rintro e w8 ⟨I,rfl,ac,J,Q⟩;have aa:Hid (MB w w8 f o):=hid (m.out.later J);have C:Hid (Blk w8 I 4 (bcells (marks ns x))/\w.heap.size+1<I):=hid ⟨Q,by have:=m.out.hd;omega⟩;have v:=hid (ah.out x U);obtain⟨N,Y⟩:=ex (marks ns x)
     rw[Y]at C E v;clear ac J Q g0 g1 x3 y0 Y;go_upto_region 10 with fail;go_loopw [7] (fun s7 wr=>∃(i:Nat) (acc:List Bool),i<=ns.length/\s7=.int .i64 i/\Hid (MB w wr f acc/\OrTo o N acc i/\Blk wr I 4 (bcells N))) (fun s7 _=>ns.length-(intOf s7).toNat)
     case atStart=>exact⟨0,o,by omega,rfl,hid ⟨aa.out,⟨rfl,fun x=>by simp⟩,C.out.1⟩⟩
     case round=>
      obtain⟨i,acc,hi,rfl,g⟩:=hrel;by_cases hli:i<ns.length
      .have O:(i:Int)<(ns.length:Int):=by omega
       have ag:=g.out.2.1.1;have u:=g.out.2.1.2 i;rw[if_neg (Nat.lt_irrefl i)]at u;obtain⟨p,hp⟩:=ex (mkd o i)
       obtain⟨q,hq⟩:=ex (mkd N i)
       have z0:wr.cell? ⟨w.heap.size+1,i,none⟩=some (.bool p):=by
        rw[g.out.1.out.cell,zae (by have:=l.out;omega),<-hp,<-u];rfl
       have q0:wr.cell? ⟨I,i,none⟩=some (.bool q):=by
        rw[g.out.2.2.cell,zae (by have:=v.out;omega),<-hq];rfl
       have zf:∀i,wr.frozen? ⟨w.heap.size+1,i,none⟩=false:=g.out.1.out.frozen;have T:Hid (∀b,b=(p || q)->MB w (wr.setCell ⟨w.heap.size+1,i,none⟩ (.bool b)) f (acc.set i b)/\OrTo o N (acc.set i b) (i+1)/\Blk (wr.setCell ⟨w.heap.size+1,i,none⟩ (.bool b)) I 4 (bcells N)):=hid (fun b hb=>by
        subst hb;refine⟨g.out.1.set _ _,?_,g.out.2.2.far (by have:=C.out.2;simp;omega) _⟩;have:=g.out.2.1.step (by have:=l.out;omega);rwa[hp,hq]at this)
       have hib:i<=1000:=by omega
       clear ag u hp hq;cases p with
       |true=>
        go_wp2;go_roundw
        case rel=>exact⟨i+1,acc.set i true,by omega,by go_num,hid (T.out true rfl)⟩
        case measure=>simp[intOf];omega
       |false=>
        have HQ:Hid (q=(false || q)):=hid (by cases q<;>rfl);go_wp2;go_roundw
        case rel=>exact⟨i+1,acc.set i q,by omega,by go_num,hid (T.out q HQ.out)⟩
        case measure=>simp[intOf];omega
      .have O:¬(i:Int)<(ns.length:Int):=by omega
       have HF:Hid (MB w wr f ((K++n.keys.take (k+1)).foldl (fun o k=>Gr.orM o (marks ns k)) t)):=hid (by
        rw[E.out,<-g.out.2.1.last (by rw[l.out,v.out]) (by rw[l.out];omega)];exact g.out.1)
       go_wp2;go_roundw
       case rel=>exact⟨k+1,by omega,by go_num,HF⟩
       case measure=>simp[intOf];omega
    .have M:¬(k:Int)<(n.keys.length:Int):=by omega
     have HF:Hid (MB w wr f ((allKeys (ns.take (j+1))).foldl (fun o k=>Gr.orM o (marks ns k)) t)):=hid (by rw[F.out];have:=m.out;rwa[List.take_of_length_le (by omega)]at this);clear HK Z g1;go_wp2;go_roundw
     case rel=>exact⟨j+1,by omega,by go_num,HF⟩
     case measure=>simp[intOf];omega
  .have P:¬(j:Int)<(ns.length:Int):=by omega
   have HE:Hid (MB w wr f (inKeys ns)):=hid (by rw[<-r.out];have:=X.out;rwa[List.take_of_length_le (by omega)]at this);go_wp2;go_ret;exact⟨w.heap.size+1,rfl,by omega,HE.out.below,HE.out.out⟩
theorem zq7 (p:Nat->Bool) (i:Nat):(List.range (i+1)).all p=((List.range i).all p && p i):=by
 rw[List.range_succ,List.all_append];simp
theorem zi3 {p:Nat->Bool} {i n:Nat} (h:i<n) (hp:p i=false):(List.range n).all p=false:=by
 rw[List.all_eq_false];exact⟨i,List.mem_range.2 h,by rw[hp];decide⟩
theorem zq8 (A:Option Addr) (c:Nat) (root:Int) (vs:List NV) (is:List Gr.Ni) (hl:is.length<=1000) (hks:∀n∈is,n.keys.length<=1000/\n.items.length<=1000/\n.text.length<=268435455)
 (w:World) (h:IAt w w.heap.size A vs is):
 Calls prog 19 #[.agg #[.slice A is.length c,.int .i64 root]] w fun e w'=>e=.returned (.bool (rwell sclX is root))/\Below w.heap.size w w':=by
 have H:=hid h;obtain⟨M,u⟩:=ex (w.alloc (.cells #[.slice A is.length c,.int .i64 root] 24))
 have b1:Blk M w.heap.size 24 #[.slice A is.length c,.int .i64 root]:=by rw[<-u];exact Blk.new _ _ _
 have Z:Hid (Below w.heap.size w M):=hid (by rw[<-u];exact(Below.refl _ _).alloc (Nat.le_refl _) _);obtain⟨g0,g1⟩:=cells2 b1;have P:=hid b1;have t:Hid ((is.length=0\/inR is.length root=false)->rwell sclX is root=false):=hid (fun h=>by unfold rwell;rw[if_pos h]);clear h b1;go_enter func19,ntmps19;go_upto_region 1 with fail;(try rw[u]);clear u;by_cases h0:is.length=0
 .have aw:((is.length:Int)==0)=true:=by rw[h0];rfl
  have k:Hid (rwell sclX is root=false):=hid (t.out (.inl h0));have H0:=hid h0;clear h0;go_wp2;go_ret;exact⟨by rw[k.out]<;>rfl,Z.out⟩
 .have aw:((is.length:Int)==0)=false:=by rw[beq_eq_false_iff_ne];omega
  by_cases h1:0<=root
  .have ap:¬root<0:=by omega
   by_cases h2:root<(is.length:Int)
   .have ao:¬(is.length:Int)<=root:=by omega
    obtain⟨r,rfl⟩:∃r:Nat,root=(r:Int):=⟨root.toNat,by omega⟩
    have hrn:r<is.length:=by omega
    have S:Hid (rwell sclX is (r:Int)=if is.all (rform sclX is.length)=false then false else(List.range is.length).all (rnode (is.map Gr.Ni.nd) r)):=hid (by
     unfold rwell;rw[if_neg,Int.toNat_natCast];rintro(h|h)
     .exact h0 h
     .unfold inR at h;rw[decide_eq_true h1,decide_eq_true h2]at h;cases h)
    clear t;go_upto_region 5 with fail;clear g0 g1;go_loopw [4] (fun s4 wr=>∃j:Nat,j<=is.length/\s4=.int .i64 j/\Hid (Below M.heap.size M wr/\(is.take j).all (rform sclX is.length)=true)) (fun s4 _=>is.length-(intOf s4).toNat)
    case atStart=>exact⟨0,by omega,rfl,hid ⟨Below.refl _ _,by simp⟩⟩
    case round=>
     obtain⟨j,hj,rfl,O⟩:=hrel;have d:Hid (Below w.heap.size w wr):=hid (Z.out.trans (O.out.1.mono Z.out.size));have F:Hid (Blk wr w.heap.size 24 #[.slice A is.length c,.int .i64 r]):=hid (P.out.below O.out.1 P.out.lt);by_cases hlt:j<is.length
     .have aa:(j:Int)<(is.length:Int):=by omega
      have g0:wr.cell? ⟨w.heap.size,0,none⟩=some (.slice A is.length c):=F.out.cell 0;have J:is[j]∈is:=List.getElem_mem hlt;obtain⟨an,al,T⟩:=hks _ J;obtain⟨ad,ks,au,rfl,R,c0,c1,c2,c3,c4,r1,r2,r3,r4⟩:=(H.out.below d.out).node hlt;obtain⟨ka,kn,kc⟩:=ks;obtain⟨ia,am,ic⟩:=au;have E:Hid ((is.take (j+1)).all (rform sclX is.length)=rform sclX is.length is[j]):=hid (by rw[zb3 _ _ _ hlt,O.out.2,Bool.true_and]);have D:Hid (rform sclX is.length is[j]=false->is.all (rform sclX is.length)=false):=hid (fun h=>by rw[List.all_eq_false];exact⟨_,J,by rw[h];decide⟩);obtain⟨n,hn⟩:=ex (is[j])
      rw[hn]at c0 c1 c2 r1 r2 r3 r4 an al T E D;obtain rfl:kn=n.keys.length:=r2;obtain rfl:am=n.items.length:=r4;have HC:=hid (zq4 n.kind n.text n.ord n.keys n.items ka ia kc ic is.length w.heap.size (by omega) T (by omega) (by omega) wr d.out.size r1 r3);obtain⟨b,hb⟩:=ex (rform sclX is.length n)
      have aj:rform sclX is.length ⟨n.kind,n.text,n.ord,n.keys,n.items⟩=b:=hb;rw[aj]at HC;rw[hb]at E D;have hjb:j<=1000:=by omega
      clear hb aj hn J r1 r3 R;cases b with
      |false=>
       have k:Hid (rwell sclX is (r:Int)=false):=hid (by rw[S.out,if_pos (D.out rfl)]);go_wp2_with fail;refine HC.out.mono ?_;rintro e w2 ⟨rfl,m⟩;go_wp2;go_ret;exact⟨by rw[k.out]<;>rfl,d.out.trans (m.mono d.out.size)⟩
      |true=>
       go_wp2_with fail;refine HC.out.mono ?_;rintro e w2 ⟨rfl,m⟩;have HN:Hid (Below M.heap.size M w2/\(is.take (j+1)).all (rform sclX is.length)=true):=hid ⟨O.out.1.trans (m.mono O.out.1.size),E.out⟩;clear m;go_wp2;go_roundw
       case rel=>exact⟨j+1,by omega,by go_num,HN⟩
       case measure=>simp[intOf];omega
     .have aa:¬(j:Int)<(is.length:Int):=by omega
      have V:Hid (is.all (rform sclX is.length)=true):=hid (by have:=O.out.2;rwa[List.take_of_length_le (by omega)]at this);have Q:Hid (is.all (rng is.length)=true):=hid (List.all_eq_true.2 (fun x hx=>ze8 (List.all_eq_true.1 V.out x hx)));have l:Hid (Refs (is.map Gr.Ni.nd)):=hid (za4 Q.out).2;have K:Hid (rwell sclX is (r:Int)=(List.range is.length).all (rnode (is.map Gr.Ni.nd) r)):=hid (by rw[S.out,V.out];rfl);obtain⟨a,o⟩:=ex (is.map Gr.Ni.nd)
      have g:a.length=is.length:=by rw[<-o];simp
      have y:Hid (∀n∈a,n.keys.length<=1000/\n.items.length<=1000):=hid (by
       rw[<-o];intro n hn;obtain⟨x,hx,rfl⟩:=List.mem_map.1 hn;have:=hks x hx;simp only[Gr.Ni.nd,List.length_map];omega)
      have I:Hid (∀W,Below w.heap.size w W->GAt W W.heap.size A vs a):=hid (fun W f=>by
       rw[<-o];exact((H.out.below f).more f.size).toG (za4 Q.out).1)
      rw[o]at l K;clear o;have HS:Hid (∀W,Below wr.heap.size wr W->W.cell? ⟨w.heap.size,0,none⟩=some (.slice A is.length c)/\W.cell? ⟨w.heap.size,1,none⟩=some (.int .i64 r)):=hid (fun W f=>by
       have:=F.out.below f F.out.lt;exact⟨this.cell 0,this.cell 1⟩)
      have af:Hid (∀W,Below wr.heap.size wr W->Calls prog 33 #[.agg #[.slice A is.length c,.int .i64 r],.int .i64 r] W fun e w'=>Below wr.heap.size wr w'/\∃ob,e=.returned (.slice (some ⟨ob,0,none⟩) is.length is.length)/\Blk w' ob 4 (bcells (marks a r))):=hid (fun W f=>by
       rw[<-g];refine(zcy A c r (r:Int) vs a l.out (by omega) y.out (by omega) W (I.out W (d.out.trans (f.mono d.out.size)))).mono ?_;rintro e w' ⟨ob,h1,h2,z,N⟩;exact⟨f.trans (z.mono f.size),ob,h1,N⟩)
      have U:Hid (∀W,Below wr.heap.size wr W->Calls prog 36 #[.agg #[.slice A is.length c,.int .i64 r]] W fun e w'=>Below wr.heap.size wr w'/\Below W.heap.size W w'/\∃ob,e=.returned (.slice (some ⟨ob,0,none⟩) is.length is.length)/\Blk w' ob 3 (icells (counts a r))):=hid (fun W f=>by
       rw[<-g];refine(zj8 A c r vs a l.out (by omega) y.out (by omega) W (I.out W (d.out.trans (f.mono d.out.size)))).mono ?_;rintro e w' ⟨ob,h1,h2,z,N⟩;exact⟨f.trans (z.mono f.size),z,ob,h1,N⟩)
      have ac:Hid (∀W,Below wr.heap.size wr W->Calls prog 37 #[.agg #[.slice A is.length c,.int .i64 r]] W fun e w'=>Below wr.heap.size wr w'/\Below W.heap.size W w'/\∃ob,e=.returned (.slice (some ⟨ob,0,none⟩) is.length is.length)/\Blk w' ob 4 (bcells (inKeys a))):=hid (fun W f=>by
       rw[<-g];refine(zj9 A c (r:Int) vs a l.out (by omega) y.out W (I.out W (d.out.trans (f.mono d.out.size)))).mono ?_;rintro e w' ⟨ob,h1,h2,z,N⟩;exact⟨f.trans (z.mono f.size),z,ob,h1,N⟩)
      obtain⟨q0,q1⟩:=HS.out wr (Below.refl _ _);go_upto_region 9 with fail;go_cut [5,6,7] (fun s5 s6 s7 wx=>∃o1 o2 o3,s5=.slice (some ⟨o1,0,none⟩) is.length is.length/\s6=.slice (some ⟨o2,0,none⟩) is.length is.length/\s7=.slice (some ⟨o3,0,none⟩) is.length is.length/\Hid (Blk wx o1 4 (bcells (marks a r))/\Blk wx o2 3 (icells (counts a r))/\Blk wx o3 4 (bcells (inKeys a))/\Below wr.heap.size wr wx))
      case first=>
       go_region_held3 (fun w'=>w'.cell? ⟨w.heap.size,0,none⟩=some (.slice A is.length c)/\w'.cell? ⟨w.heap.size,1,none⟩=some (.int .i64 r))
        (first|go_keep|exact HS.out _ (by(first|assumption|exact Below.refl _ _|exact(Below.refl _ _).drew|exact Below.drew (by assumption)))) (first
        | (go_at_call 33;(with_reducible refine(af.out _ ?_).mono ?_);(first|assumption|exact Below.refl _ _|exact(Below.refl _ _).drew|exact Below.drew (by assumption));rintro e1 wc1 ⟨hb1,o1,rfl,ah⟩)
        | (go_at_call 36;(with_reducible refine(U.out _ ?_).mono ?_);(first|assumption|exact Below.refl _ _|exact(Below.refl _ _).drew|exact Below.drew (by assumption));rintro e2 wc2 ⟨m,ar,o2,rfl,ab⟩)
        | (go_at_call 37;(with_reducible refine(ac.out _ ?_).mono ?_);(first|assumption|exact Below.refl _ _|exact(Below.refl _ _).drew|exact Below.drew (by assumption));rintro e3 wc3 ⟨ak,ai,o3,rfl,av⟩))
       all_goals
        go_wp2;go_meet
       have B:=ah.below ar ah.lt;exact⟨o1,o2,o3,rfl,rfl,rfl,hid ⟨B.below ai B.lt,ab.below ai ab.lt,av,ak⟩⟩
      case rest=>
       obtain⟨o1,o2,o3,rfl,rfl,rfl,HO⟩:=hcut;have G:Hid (Below w.heap.size w wc):=hid (d.out.trans (HO.out.2.2.2.mono d.out.size));have C:Hid ((marks a r).length=is.length/\(counts a r).length=is.length/\(inKeys a).length=is.length):=hid ⟨by rw[zav l.out (by omega),g],by
        unfold counts;rw[zb1,zch,List.length_replicate,g],by rw[zfz l.out,g]⟩
       have aq:Hid (∀i,(counts a r).getD i 0<=4000000):=hid (fun i=>by
        have h1:∀j,(Gr.refs (a.take j)).length<=2000*j:=fun j=>by
         induction j with
         |zero=>simp[Gr.refs]
         |succ j ih=>
          by_cases hj:j<a.length
          .rw[zdj a j hj];have:=y.out _ (List.getElem_mem hj);simp only[List.length_append];omega
          .rw[List.take_of_length_le (by omega)];rw[List.take_of_length_le (by omega)]at ih;omega
        have h2:=h1 a.length;rw[List.take_length]at h2;unfold counts;have z:=zdi (Gr.refs a) (cstep (List.replicate a.length 0) r) i;have N:=zef (List.replicate a.length 0) r i;have h5:(List.replicate a.length 0).getD i 0=0:=by simp[List.getD_eq_getElem?_getD,List.getElem?_replicate];split<;>rfl
        omega)
       clear q0 q1 g af U ac HS;go_upto_region 11 with fail;go_loop [8] (fun s8=>∃i:Nat,i<=is.length/\s8=.int .i64 i/\Hid ((List.range i).all (rnode a r)=true)) (fun s8=>is.length-(intOf s8).toNat)
       case atStart=>exact⟨0,by omega,rfl,hid rfl⟩
       case round=>
        obtain⟨i,hi,rfl,HI⟩:=hrel;by_cases hli:i<is.length
        .have X:(i:Int)<(is.length:Int):=by omega
         obtain⟨p,hp⟩:=ex ((marks a r).getD i false)
         obtain⟨q,hq⟩:=ex ((inKeys a).getD i false)
         obtain⟨v,hv⟩:=ex ((counts a r).getD i 0)
         have hvb:v<=4000000:=by rw[<-hv];exact aq.out i
         have z1:wc.cell? ⟨o1,i,none⟩=some (.bool p):=by rw[HO.out.1.cell,zae (by have:=C.out;omega),hp]
         have z2:wc.cell? ⟨o2,i,none⟩=some (.int .i64 (v:Int)):=by rw[HO.out.2.1.cell,zab (by have:=C.out;omega),hv]
         have z3:wc.cell? ⟨o3,i,none⟩=some (.bool q):=by rw[HO.out.2.2.1.cell,zae (by have:=C.out;omega),hq]
         have s:Hid (rnode a r i=(p && !(q && v != 1))):=hid (by unfold rnode mkd;rw[hp,hq,hv]);have ae:Hid (rnode a r i=true->(List.range (i+1)).all (rnode a r)=true):=hid (fun h=>by rw[zq7,HI.out,h];rfl);have ag:Hid (rnode a r i=false->rwell sclX is (r:Int)=false):=hid (fun h=>by rw[K.out];exact zi3 hli h);have hib:i<=1000:=by omega
         clear hp hq hv;cases p with
         |false=>
          have k:Hid (rwell sclX is (r:Int)=false):=hid (ag.out (by rw[s.out];rfl));go_wp2;go_ret;exact⟨by rw[k.out]<;>rfl,G.out⟩
         |true=>
          cases q with
          |false=>
           have L:Hid ((List.range (i+1)).all (rnode a r)=true):=hid (ae.out (by rw[s.out];rfl));go_wp2;go_round
           case rel=>exact⟨i+1,by omega,by go_num,L⟩
           case measure=>simp[intOf];omega
          |true=>
           by_cases hv1:v=1
           .subst hv1;have L:Hid ((List.range (i+1)).all (rnode a r)=true):=hid (ae.out (by rw[s.out];rfl));go_wp2;go_round
            case rel=>exact⟨i+1,by omega,by go_num,L⟩
            case measure=>simp[intOf];omega
           .have k:Hid (rwell sclX is (r:Int)=false):=hid (ag.out (by
             rw[s.out];have:(v != 1)=true:=by simpa using hv1
             rw[this];rfl))
            have Y:¬(v:Int)=1:=by omega
            have hvb2:((v:Int)==1)=false:=by rw[beq_eq_false_iff_ne];exact Y
            have hvn:((v:Int) != 1)=true:=by rw[bne_iff_ne];exact Y
            go_wp2;go_ret;exact⟨by rw[k.out]<;>rfl,G.out⟩
        .have X:¬(i:Int)<(is.length:Int):=by omega
         have k:Hid (rwell sclX is (r:Int)=true):=hid (by rw[K.out];have:=HI.out;rwa[show i=is.length from by omega]at this);go_wp2;go_ret;exact⟨by rw[k.out]<;>rfl,G.out⟩
   .have ao:(is.length:Int)<=root:=by omega
    have k:Hid (rwell sclX is root=false):=hid (t.out (.inr (by unfold inR;rw[decide_eq_false h2,Bool.and_false])));go_wp2;go_ret;exact⟨by rw[k.out]<;>rfl,Z.out⟩
  .have ap:root<0:=by omega
   have k:Hid (rwell sclX is root=false):=hid (t.out (.inr (by unfold inR;rw[decide_eq_false h1,Bool.false_and])));go_wp2;go_ret;exact⟨by rw[k.out]<;>rfl,Z.out⟩
theorem zrd (d:Nat) (h:d<10) (i:Int) (hi:i=d) (k:Int) (hk:k=d+1) (W:World):(Instr.slice 9 (.string ⟨#[48,49,50,51,52,53,54,55,56,57]⟩) (some (.int .i64 i)) (some (.int .i64 k)) none).run prog W=.ok (.string ⟨(Lib.decDigits d).toArray⟩) W:=by
 rw[Lib.decDigits_one h];subst hi;subst hk;obtain rfl|rfl|rfl|rfl|rfl|rfl|rfl|rfl|rfl|rfl:d=0\/d=1\/d=2\/d=3\/d=4\/d=5\/d=6\/d=7\/d=8\/d=9:=by omega
 all_goals kernel_rfl
theorem ztt {n:Nat} (h:¬n<10):Lib.decDigits n=Lib.decDigits (n /10)++Lib.decDigits (n%10):=by
 rw[Lib.decDigits_one (Nat.mod_lt _ (by omega)),Lib.decDigits.eq_1 n,dif_neg h]
theorem zi4:∀(f n:Nat),n<f->n<=999999999->∀w:World,Calls prog 53 #[.int .i64 n] w fun e w'=>e=.returned (.string ⟨(Lib.decDigits n).toArray⟩)/\Below w.heap.size w w':=by
 intro f
 induction f with
 |zero=>intro n h;omega
 |succ f ih=>
  intro n hn hb w;by_cases h:n<10
  .have o:(n:Int)<10:=by omega
   have l:=zrd n h (n:Int) rfl ((n:Int)+1) rfl;go_enter func53,ntmps53;go_wp2;go_ret;exact⟨rfl,Below.refl _ _⟩
  .have o:¬(n:Int)<10:=by omega
   have l:=zrd (n%10) (Nat.mod_lt _ (by omega)) ((n%10:Nat):Int) rfl (((n%10:Nat):Int)+1) rfl;have r:(n:Int).tdiv 10=((n /10:Nat):Int):=by rw[Int.tdiv_eq_ediv_of_nonneg (by omega)];rfl
   have v:(n:Int).tmod 10=((n%10:Nat):Int):=by rw[Int.tmod_eq_emod_of_nonneg (by omega)];rfl
   have m:=ztt h;have k:Hid (∀x:WB w.heap.size w,Calls prog 53 #[.int .i64 ((n /10:Nat):Int)] x.w fun e w'=>e=.returned (.string ⟨(Lib.decDigits (n /10)).toArray⟩)/\Below w.heap.size w w'):=Lib.hid (fun x=>(ih (n /10) (by omega) (by omega) x.w).mono (fun _ _ ⟨s,u⟩=>⟨s,x.h.trans (u.mono x.h.size)⟩));obtain⟨a,j⟩:=ex (Lib.decDigits (n /10))
   obtain⟨b,c⟩:=ex (Lib.decDigits (n%10))
   obtain⟨q,i⟩:=ex (n /10)
   obtain⟨d,g⟩:=ex (n%10)
   have hadd:=zad a b (by
    have z:=Gr.dec_len (n /10) (by omega);have y:=Gr.dec_len (n%10) (by omega);rw[j]at z;rw[c]at y;omega)
   have p:Hid (Lib.decDigits n=a++b):=Lib.hid (by rw[m,j,c]);rw[j,i]at k;rw[c,g]at l;rw[i]at r;rw[g]at v;have hd9:d<=9:=by omega
   have hqb:q<=99999999:=by omega
   clear m j c i g ih;go_enter func53,ntmps53;go_upto_region 3 with fail;refine zac w.heap.size w (by kernel_rfl) (by kernel_rfl) (Below.refl _ _) ?_
   repeat (go_big_quiet_step (((first| (with_reducible refine Calls.grow (k.out _))))))
   refine wpQuiet_nil ?_;rintro _ ⟨t,rfl⟩;go_wp2;go_ret;exact⟨by rw[p.out]<;>rfl,t.h⟩
theorem zli:∀(x y:Gr.Str),Op.bytesLess x y=Gr.ltS x y
 | [],[]=>rfl
 |_::_,[]=>rfl
 | [],_::_=>rfl
 |a::x,b::y=>by
  rw[Op.bytesLess,zli x y,Gr.ltS]
  congr 1
namespace Gr
theorem zre (t:Str) (a b:List Str) (h:∀y∈a,ltS t y=true):insR t (a++b)=a++insR t b:=by
 induction a with
 |nil=>rfl
 |cons y a ih=>
  rw[List.cons_append,insR,if_pos (h y (.head _)),ih (fun z c=>h z (.tail _ c))];rfl
theorem zwx (t:Str) (L:List Str) (k:Nat) (hk:k<=L.length) (h1:∀y∈L.drop k,ltS t y=true) (h2:∀j,(h:j<L.length)->j+1=k->ltS t L[j]=false):insL L t=L.take k++t::L.drop k:=by
 unfold insL;have e:L.reverse=(L.drop k).reverse++(L.take k).reverse:=by rw[<-List.reverse_append,List.take_append_drop]
 rw[e,zre t _ _ (fun y c=>h1 y (List.mem_reverse.1 c)),List.reverse_append,List.reverse_reverse];have b:(insR t (L.take k).reverse).reverse=L.take k++[t]:=by
  cases k with
  |zero=>simp[insR]
  |succ k=>
   have a:k<L.length:=by omega
   rw[List.take_succ_eq_append_getElem a,List.reverse_append,List.reverse_singleton,List.singleton_append,insR,if_neg (by rw[h2 k a rfl];decide)];simp
 rw[b];simp
def wand (L:List Str) (t:Str) (k:Nat):List Str:=L.take k++t::L.drop k
theorem zlj (L:List Str) (t:Str) (k:Nat) (hk:k<=L.length):(wand L t k).length=L.length+1:=by
 unfold wand;simp;omega
theorem zwy (L:List Str) (t:Str) (k:Nat) (hk:k<=L.length):(wand L t k)[k]? =some t:=by
 unfold wand;rw[List.getElem?_append_right (by simp;omega)];simp[Nat.min_eq_left hk]
theorem ztu (L:List Str) (t:Str) (k:Nat) (hk:k<L.length):(wand L t (k+1))[k]? =some L[k]:=by
 unfold wand;rw[List.getElem?_append_left (by simp;omega),List.getElem?_take,if_pos (by omega),List.getElem?_eq_getElem hk]
theorem zrf (L:List Str) (t:Str) (k:Nat) (hk:k<L.length):((wand L t (k+1)).set k t).set (k+1) L[k]=wand L t k:=by
 unfold wand;apply List.ext_getElem?;intro i;have a:(L.take (k+1)).length=k+1:=by simp;omega
 have hl2:(L.take k).length=k:=by simp;omega
 simp only[List.getElem?_set,List.length_set,List.length_append,List.length_cons,List.length_drop,a];by_cases h1:k+1=i
 .grind
 .grind
theorem zrg (ns:List Nd) (f:Nat) (x:Nd) (i:Nat) (h:i<x.items.length):(ents ns f x).take (i+1)=(ents ns f x).take i++[(if x.kind=10 then printF ns f (x.keys.getD i 0)else[])++printF ns f (x.items.getD i 0)]:=by
 have a:i<(ents ns f x).length:=by unfold ents;simpa using h
 rw[List.take_succ_eq_append_getElem a]
 congr 2
 unfold ents;simp
def entT (ns:List Nd) (f:Nat) (x:Nd) (k:Nat):List Str:=if x.kind=10/\x.ord=false then((ents ns f x).take k).foldl insL []else(ents ns f x).take k
theorem zrh (ns:List Nd) (f:Nat) (x:Nd):entT ns f x 0=[]:=by unfold entT;split<;>simp
theorem zri (ns:List Nd) (f:Nat) (x:Nd) (k:Nat) (h:x.items.length<=k):entT ns f x k=entS ns f x:=by
 have hl:(ents ns f x).length=x.items.length:=by unfold ents;simp
 unfold entT entS sortS;rw[List.take_of_length_le (by omega)]
theorem ztv (ns:List Nd) (f:Nat) (x:Nd) (k:Nat) (h:k<=x.items.length):(entT ns f x k).length=k:=by
 have hl:(ents ns f x).length=x.items.length:=by unfold ents;simp
 unfold entT;split
 .rw[(zh6 _ []).length_eq];simp;omega
 .simp;omega
theorem zrj (ns:List Nd) (f:Nat) (x:Nd) (k:Nat) (h:k<x.items.length):entT ns f x (k+1)=if x.kind=10/\x.ord=false then insL (entT ns f x k) ((if x.kind=10 then printF ns f (x.keys.getD k 0)else[])++printF ns f (x.items.getD k 0))
 else entT ns f x k++[(if x.kind=10 then printF ns f (x.keys.getD k 0)else[])++printF ns f (x.items.getD k 0)]:=by
 unfold entT;rw[zrg ns f x k h];by_cases hm:x.kind=10/\x.ord=false
 .grind
 .grind
theorem zfk (l:List Str) (i:Nat):(l.take i).flatten.length<=l.flatten.length:=by
 have:l.flatten=(l.take i).flatten++(l.drop i).flatten:=by rw[<-List.flatten_append,List.take_append_drop]
 rw[this,List.length_append];omega
end Gr
def strL:Lay Gr.Str:={enc:=fun x=>[.string ⟨x.toArray⟩],sz:=1,len:=fun _=>rfl,one:=fun x u hu=>by simp at hu;subst hu;rfl,pos:=by omega}
theorem strT:SliceT Tryz.prog strL 60 9 16:=zbz strL 60 9 (.string ⟨#[]⟩) 16 Tryz.underlying60 (by kernel_rfl) rfl (by omega)
theorem zeo (l:List Gr.Str):strL.all l=l.map (fun x=>Value.string ⟨x.toArray⟩):=by
 induction l with
 |nil=>rfl
 |cons x l ih=>
  have e:strL.all (x::l)=strL.enc x++strL.all l:=rfl;rw[e,ih];rfl
theorem zux {w:World} {B:Nat} {A:Option Addr} {l:List Gr.Str} {k:Nat} (h:RowAt strL w B A l) (hk:k<l.length):∃ad,A=some ad/\ad.block<B/\w.cell? (ad.add k)=some (.string ⟨l[k].toArray⟩):=by
 obtain⟨ad,a,c,b,_⟩:=h.get hk;refine⟨ad,a,c,?_⟩;have:=b (.string ⟨l[k].toArray⟩) rfl;rwa[show k*strL.sz=k from Nat.mul_one k]at this
theorem zka {w:World} {base n c g:Nat} {l:List Gr.Str} (h:OwnRow strL w base 9 (.slice (some ⟨g,0,none⟩) n c) l):∃cur,Blk w g 9 cur/\base<=g/\(∀j (hj:j<l.length),w.cell? ⟨g,j,none⟩=some (.string ⟨l[j].toArray⟩))/\
 (∀j,w.frozen? ⟨g,j,none⟩=false)/\∀j x,j<l.length->OwnRow strL (w.setCell ⟨g,j,none⟩ (.string ⟨x.toArray⟩)) base 9 (.slice (some ⟨g,0,none⟩) n c) (l.set j x):=by
 obtain⟨m,q⟩:=h;rcases q with⟨p,_⟩|⟨g2,cap,cur,r,o,s,e,i,f,a⟩
 .cases p
 .injection r with e1 e2 e3
  injection e1 with e1
  injection e1 with e1 _ _
  subst e1;subst e2;subst e3;have d:Blk w g 9 cur:=s;have b:strL.sz=1:=rfl;rw[b,Nat.mul_one]at a;refine⟨cur,d,o,fun j hj=>?_,d.frozen,fun j x hj=>?_⟩
  .rw[d.cell];have k:(cur.toList.take l.length)[j]? =some (.string ⟨l[j].toArray⟩):=by rw[a,zeo];simp[hj]
   rw[List.getElem?_take,if_pos hj]at k;simpa using k
  .refine⟨by rw[zeo];rw[zeo]at m;simpa using m,.inr ⟨g,c,cur.setIfInBounds j (.string ⟨x.toArray⟩),by rw[List.length_set],o,d.set_ j _,by rw[List.length_set];exact e,i,by simpa using f,?_⟩⟩;rw[b,Nat.mul_one,List.length_set];rw[zeo]at a ⊢;rw[List.map_set,<-a,<-List.take_set];simp
theorem zlk {w:World} {base n c:Nat} {E:TypeId} {A:Option Addr} {l:List Gr.Str} (h:OwnRow strL w base E (.slice A n c) l):RowAt strL w w.heap.size A l:=by
 obtain⟨A',c',e,a⟩:=h.form;injection e with e1 _ _
 subst e1;exact a
theorem ztw {w:World} {base n c:Nat} {A:Option Addr} {l:List Gr.Str} (h:OwnRow strL w base 9 (.slice A n c) l) (hl:0<l.length):∃g,A=some ⟨g,0,none⟩:=by
 obtain⟨h0,b⟩:=h;rcases b with⟨h2,h3⟩|⟨a,cap,cur,d,hb,hg,hc1,hc2,hc3,hc4⟩
 .omega
 .injection d with e1 e2 e3
  exact⟨a,e1⟩
theorem ztx (k:Nat) (h:k<=11) (i:Int) (hi:i=k) (j:Int) (hj:j=k+1) (W:World):(Instr.slice 9 (.string ⟨#[97,98,99,100,101,102,103,104,105,106,107,108]⟩) (some (.int .i64 i)) (some (.int .i64 j)) none).run prog W=.ok (.string ⟨([UInt8.ofNat (97+k)]:Gr.Str).toArray⟩) W:=by
 subst hi;subst hj;obtain rfl|rfl|rfl|rfl|rfl|rfl|rfl|rfl|rfl|rfl|rfl|rfl:k=0\/k=1\/k=2\/k=3\/k=4\/k=5\/k=6\/k=7\/k=8\/k=9\/k=10\/k=11:=by omega
 all_goals kernel_rfl
def headS (x:Gr.Nd):Gr.Str:=UInt8.ofNat (97+x.kind.toNat)::(Lib.decDigits x.text.length++58::(x.text++(Lib.decDigits x.items.length++[40])))
theorem zhe {ns:List Gr.Nd} {f i:Nat} {x:Gr.Nd} (h:ns[i]? =some x):printF ns (f+1) i=headS x++(entS ns f x).flatten++(41::(if x.ord=true then[33]else[])):=by
 rw[zao h];unfold headS;simp
structure PrOk (ns:List Gr.Nd) (P:Nat->Prop) (F b:Nat):Prop where
 refs:Refs ns
 next:∀u,P u->∀v∈Gr.succ ns u,P v
 kind:NodesOk ns
 lens:∀n∈ns,n.keys.length<=1000/\n.items.length<=1000/\n.text.length<=1000000
 len:∀f i,f<=F->P i->i<ns.length->(printF ns f i).length<=b
 small:b<=4611686018427387903
structure PM (w wr:World) (gc nc:Array Value) (v:Value) (L:List Gr.Str):Prop where
 below:Below w.heap.size w wr
 gbox:Blk wr w.heap.size 24 gc
 nbox:Blk wr (w.heap.size+1) 38 nc
 own:OwnRow strL wr (w.heap.size+2) 9 v L
 hd:w.heap.size+2<=wr.heap.size
section
variable {w wr w2:World} {gc nc:Array Value} {v v':Value} {L L':List Gr.Str}
theorem PM.later (h:PM w wr gc nc v L) (hb:Below wr.heap.size wr w2):PM w w2 gc nc v L:=
 ⟨h.below.trans (hb.mono h.below.size),h.gbox.below hb h.gbox.lt,h.nbox.below hb h.nbox.lt,h.own.later hb,Nat.le_trans h.hd hb.size⟩
theorem PM.alloc (h:PM w wr gc nc v L) (o:Obj):PM w (wr.alloc o) gc nc v L:=h.later ((Below.refl _ _).alloc (Nat.le_refl _) _)
theorem PM.drewN (h:PM w wr gc nc v L) (n:Nat):PM w (wr.drewN n) gc nc v L:=h.later (below_drewN (Below.refl _ _) n)
theorem PM.grown (h:PM w wr gc nc v L) (ho:OwnRow strL w2 (w.heap.size+2) 9 v' L') (hg:wr.grownBy w2 v.ownBlock):PM w w2 gc nc v' L':=
 ⟨h.below.trans ((h.own.grown_below hg h.hd).mono (by omega)),zbg h.gbox h.own hg (by omega),zbg h.nbox h.own hg (by omega),ho,Nat.le_trans h.hd (h.own.grown_below hg h.hd).size⟩
end
theorem zni (A:Option Addr) (c:Nat) (root:Int) (vs:List NV) (ns:List Gr.Nd) (P:Nat->Prop) (F b:Nat) (hok:PrOk ns P F b) (_hnl:ns.length<=1000):
 ∀(f i:Nat) (w:World),f<=F->i<ns.length->P i->Tall' ns f i->GAt w w.heap.size A vs ns->
 Calls prog 38 #[.agg #[.slice A ns.length c,.int .i64 root],.int .i64 i] w fun e w'=>e=.returned (.string ⟨(printF ns f i).toArray⟩)/\Below w.heap.size w w':=by
 intro f
 induction f with
 |zero=>intro i w _ _ _ h;exact h.elim
 |succ f ih=>
  intro i w hF hi hP hT h;have an:ns[i]∈ns:=List.getElem_mem hi;obtain⟨bs,bB,bq⟩:=hok.lens _ an;obtain⟨bC,bx,be⟩:=hok.kind _ an;have aM:=zca hi;have U:=zhe (f:=f) (List.getElem?_eq_getElem hi);have a6:=hok.len (f+1) i hF hP hi;have hsm:=hok.small;have aG:Hid (∀x∈ns[i].keys++ns[i].items,x<ns.length/\(printF ns f x).length<=b/\∀W,GAt W W.heap.size A vs ns->Calls prog 38 #[.agg #[.slice A ns.length c,.int .i64 root],.int .i64 x] W fun e w'=>e=.returned (.string ⟨(printF ns f x).toArray⟩)/\Below W.heap.size W w'):=hid (fun x hx=>by
   have a:=hok.refs _ an x hx;have h2:=hok.next i hP x (by rw[aM];exact hx);exact⟨a,hok.len f x (by omega) h2 a,fun W hW=>ih x W (by omega) a h2 (hT x (by rw[aM];exact hx)) hW⟩)
  have H:=hid h;obtain⟨s,ks,is,rfl,O⟩:=h.node hi;obtain⟨ka,kn,kc⟩:=ks;obtain⟨ia,bD,ic⟩:=is;obtain⟨n,hn⟩:=ex (ns[i])
  rw[hn]at O bs bB bq bC bx be U aG;obtain rfl:kn=n.keys.length:=O.kn;obtain rfl:bD=n.items.length:=O.inn;obtain⟨R,aS⟩:=ex (w.alloc (.cells #[.slice (some s) ns.length c,.int .i64 root] 24))
  have l1:Below w.heap.size w R:=by rw[<-aS];exact(Below.refl _ _).alloc (Nat.le_refl _) _
  have b1:Blk R w.heap.size 24 #[.slice (some s) ns.length c,.int .i64 root]:=by rw[<-aS];exact Blk.new _ _ _
  have bp:R.heap.size=w.heap.size+1:=by rw[<-aS];simp
  have g0:R.cell? ⟨w.heap.size,0,none⟩=some (.slice (some s) ns.length c):=b1.cell 0;have J:=O.lt;have c0:R.cell? (s.add (i*5))=some (.int .i64 n.kind):=(l1.cell J).trans O.c0;have c1:R.cell? {block:=(s.add (i*5)).block,off:=(s.add (i*5)).off+1}=some (.string ⟨n.text.toArray⟩):=(l1.cell (by exact J)).trans O.c1;have c2:R.cell? {block:=(s.add (i*5)).block,off:=(s.add (i*5)).off+2}=some (.bool n.ord):=(l1.cell (by exact J)).trans O.c2;have c3:R.cell? {block:=(s.add (i*5)).block,off:=(s.add (i*5)).off+3}=some (.slice ka n.keys.length kc):=(l1.cell (by exact J)).trans O.c3;have c4:R.cell? {block:=(s.add (i*5)).block,off:=(s.add (i*5)).off+4}=some (.slice ia n.items.length ic):=(l1.cell (by exact J)).trans O.c4;have hiI:(i:Int)<(ns.length:Int):=by omega
  have bK:Hid (∀W,Below w.heap.size w W->RowAt intL W w.heap.size ka n.keys/\RowAt intL W w.heap.size ia n.items):=hid (fun W hW=>⟨O.keys.below hW,O.items.below hW⟩);have L1:=hid l1;have a9:=hid b1;have I:=hid U;have ar:=hid a6;clear ih hT h U aM an O hn l1 b1 J a6 hP hF;go_enter func38,ntmps38;go_upto_region 2 with fail;obtain⟨w2,aI⟩:=ex (R.alloc (.cells #[.int .i64 n.kind,.string ⟨n.text.toArray⟩,.bool n.ord,.slice ka n.keys.length kc,.slice ia n.items.length ic] 38))
  obtain⟨nc,aK⟩:∃nc:Array Value,#[.int .i64 n.kind,.string ⟨n.text.toArray⟩,.bool n.ord,.slice ka n.keys.length kc,.slice ia n.items.length ic]=nc:=⟨_,rfl⟩
  obtain⟨gc,aE⟩:∃gc:Array Value,#[.slice (some s) ns.length c,.int .i64 root]=gc:=⟨_,rfl⟩
  obtain⟨z,aU⟩:∃z:Nat,n.kind=(z:Int):=⟨n.kind.toNat,by omega⟩
  have aB:z<=11:=by omega
  have T:=hid aU;have d:Hid (nc[0]? =some (.int .i64 (z:Int))/\nc[1]? =some (.string ⟨n.text.toArray⟩)/\nc[2]? =some (.bool n.ord)/\nc[3]? =some (.slice ka n.keys.length kc)/\nc[4]? =some (.slice ia n.items.length ic)):=hid (by rw[<-aK,<-aU];exact⟨rfl,rfl,rfl,rfl,rfl⟩);have ah:Hid (gc[0]? =some (.slice (some s) ns.length c)/\gc[1]? =some (.int .i64 root)):=hid (by rw[<-aE];exact⟨rfl,rfl⟩);have ac:Hid (PM w w2 gc nc (.slice none 0 0) []):=hid (by
   have hb:=Blk.new R 38 #[.int .i64 n.kind,.string ⟨n.text.toArray⟩,.bool n.ord,.slice ka n.keys.length kc,.slice ia n.items.length ic];rw[bp]at hb;rw[<-aI,<-aK,<-aE];exact⟨L1.out.alloc (by omega) _,a9.out.alloc _,hb,OwnRow.nil,by simp;omega⟩)
  have aV:Hid (∀W,Below w.heap.size w W->RowAt intL W w.heap.size ka n.keys/\RowAt intL W w.heap.size ia n.items):=bK;(try rw[aI]);clear aU aI aK aE c0 c1 c2 c3 c4 g0 a9;have a7:=ztx z aB (z:Int) rfl ((z:Int)+1) rfl;have bi:=Gr.dec_len n.text.length (by omega);have bl:=Gr.dec_len n.items.length (by omega);have av:=hid (fun(x:WB w2.heap.size w2)=>(zi4 (n.text.length+1) n.text.length (by omega) (by omega) x.w).mono (fun _ _ ⟨e1,e2⟩=>(⟨e1,x.h.trans (e2.mono x.h.size)⟩:_/\Below w2.heap.size w2 _)));have aw:=hid (fun(x:WB w2.heap.size w2)=>(zi4 (n.items.length+1) n.items.length (by omega) (by omega) x.w).mono (fun _ _ ⟨e1,e2⟩=>(⟨e1,x.h.trans (e2.mono x.h.size)⟩:_/\Below w2.heap.size w2 _)));have aX:Hid (headS n=UInt8.ofNat (97+z)::(Lib.decDigits n.text.length++58::(n.text++(Lib.decDigits n.items.length++[40])))):=hid (by unfold headS;rw[T.out];rfl);obtain⟨d1,X⟩:=ex (Lib.decDigits n.text.length)
  obtain⟨d2,ab⟩:=ex (Lib.decDigits n.items.length)
  obtain⟨a0,aa⟩:∃a0:Gr.Str,[UInt8.ofNat (97+z)]=a0:=⟨_,rfl⟩
  obtain⟨a1,ag⟩:∃a1:Gr.Str,a0++d1=a1:=⟨_,rfl⟩
  obtain⟨a2,af⟩:∃a2:Gr.Str,a1++[58]=a2:=⟨_,rfl⟩
  obtain⟨a3,al⟩:∃a3:Gr.Str,a2++n.text=a3:=⟨_,rfl⟩
  obtain⟨a4,ao⟩:∃a4:Gr.Str,a3++d2=a4:=⟨_,rfl⟩
  obtain⟨hd,aJ⟩:∃hd:Gr.Str,a4++[40]=hd:=⟨_,rfl⟩
  have ai:Hid (headS n=hd):=hid (by rw[aX.out,X,ab,<-aJ,<-ao,<-al,<-af,<-ag,<-aa];simp);rw[X]at bi av;rw[ab]at bl aw;have r1:=zad a0 d1 (by rw[<-aa];simp;omega);have bm:a1.length<=100:=by rw[<-ag,<-aa];simp;omega
  have r2:=zad a1 [58] (by simp;omega);have bE:a2.length<=101:=by rw[<-af];simp;omega
  have r3:=zad a2 n.text (by omega);have bM:a3.length<=1000101:=by rw[<-al];simp;omega
  have r4:=zad a3 d2 (by omega);have bQ:a4.length<=1000201:=by rw[<-ao];simp;omega
  have r5:=zad a4 [40] (by simp;omega);rw[aa]at a7;rw[ag]at r1;rw[af]at r2;rw[al]at r3;rw[ao]at r4;rw[aJ]at r5;have p0:∀x:WB w2.heap.size w2,x.w.cell? ⟨w.heap.size+1,0,none⟩=some (.int .i64 (z:Int)):=fun x=>by rw[(ac.out.later x.h).nbox.cell];exact d.out.1
  have p1:∀x:WB w2.heap.size w2,x.w.cell? ⟨w.heap.size+1,1,none⟩=some (.string ⟨n.text.toArray⟩):=fun x=>by rw[(ac.out.later x.h).nbox.cell];exact d.out.2.1
  have p4:∀x:WB w2.heap.size w2,x.w.cell? ⟨w.heap.size+1,4,none⟩=some (.slice ia n.items.length ic):=fun x=>by rw[(ac.out.later x.h).nbox.cell];exact d.out.2.2.2.2
  clear X ab aa ag af al ao aJ bi bl bm bE bM bQ aX;refine zac w2.heap.size w2 (by kernel_rfl) (by kernel_rfl) (Below.refl _ _) ?_
  repeat (go_big_quiet_step (((first| (with_reducible refine Calls.grow (av.out _))| (with_reducible refine Calls.grow (aw.out _))))))
  refine wpQuiet_nil ?_;rintro _ ⟨wz,rfl⟩;obtain⟨w3,az⟩:=ex wz.w
  have bP:Hid (PM w w3 gc nc (.slice none 0 0) []):=hid (by rw[<-az];exact ac.out.later wz.h);(try rw[az]);clear az p0 p1 p4 a7 r1 r2 r3 r4 r5 av aw ac;go_upto_region 5 with fail;go_loopw [7,8] (fun s7 s8 wr=>∃(k:Nat) (L:List Gr.Str) (AL:Option Addr) (cL:Nat),k<=n.items.length/\s8=.int .i64 k/\s7=.slice AL L.length cL/\Hid (PM w wr gc nc (.slice AL L.length cL) L/\L=entT ns f n k)) (fun _ s8 _=>n.items.length-(intOf s8).toNat)
  case atStart=>exact⟨0,[],none,0,by omega,rfl,rfl,hid ⟨bP.out,(zrh _ _ _).symm⟩⟩
  case round=>
   obtain⟨k,L,AL,cL,hk,rfl,rfl,E⟩:=hrel;obtain⟨m,bR⟩:∃m,m=wr:=⟨_,rfl⟩
   subst bR;have aC:L.length=k:=by rw[E.out.2];exact ztv _ _ _ _ hk
   have s4:m.cell? ⟨w.heap.size+1,4,none⟩=some (.slice ia n.items.length ic):=by rw[E.out.1.nbox.cell];exact d.out.2.2.2.2
   by_cases hlk:k<n.items.length
   .have bc:(k:Int)<(n.items.length:Int):=by omega
    obtain⟨y,hy⟩:=ex (n.items[k])
    obtain⟨bf,rfl,_,y0⟩:=zaf (aV.out m E.out.1.below).2 hlk;rw[hy]at y0;have ba:y∈n.keys++n.items:=List.mem_append_right _ (by rw[<-hy];exact List.getElem_mem hlk);have aL:=hid (aG.out y ba);have a5:Hid (n.items.getD k 0=y):=hid (by rw[za5 hlk,hy]);have ae:=hid (zrj ns f n k hlk);have q0:∀x:WB m.heap.size m,x.w.cell? ⟨w.heap.size,0,none⟩=some (.slice (some s) ns.length c):=fun x=>by rw[(E.out.1.later x.h).gbox.cell];exact ah.out.1
    have q1:∀x:WB m.heap.size m,x.w.cell? ⟨w.heap.size,1,none⟩=some (.int .i64 root):=fun x=>by rw[(E.out.1.later x.h).gbox.cell];exact ah.out.2
    have q4:∀x:WB m.heap.size m,x.w.cell? ⟨w.heap.size+1,4,none⟩=some (.slice (some bf) n.items.length ic):=fun x=>by rw[(E.out.1.later x.h).nbox.cell];exact d.out.2.2.2.2
    have qy:∀x:WB m.heap.size m,x.w.cell? (bf.add k)=some (.int .i64 (y:Int)):=fun x=>(x.h.cell (World.block_lt_of_cell? m _ y0)).trans y0
    have M:Hid (∀x:WB m.heap.size m,Calls prog 38 #[.agg #[.slice (some s) ns.length c,.int .i64 root],.int .i64 y] x.w fun e w'=>e=.returned (.string ⟨(printF ns f y).toArray⟩)/\Below m.heap.size m w'):=hid (fun x=>
     (aL.out.2.2 x.w ((H.out.below (E.out.1.later x.h).below).more (E.out.1.later x.h).below.size)).mono (fun _ _ ⟨e1,e2⟩=>⟨e1,x.h.trans (e2.mono x.h.size)⟩))
    have aQ:Hid ((printF ns f y).length<=b):=hid aL.out.2.1;obtain⟨ti,a8⟩:=ex (printF ns f y)
    rw[a5.out]at ae;rw[a8]at M aQ ae;have bv:k<=1000:=by omega
    clear hy ba y0 a8;go_upto_region 7 with fail;clear s4;refine zac m.heap.size m (by kernel_rfl) (by kernel_rfl) (Below.refl _ _) ?_
    repeat (go_big_quiet_step (((first| (with_reducible refine Calls.grow (M.out _))))))
    refine wpQuiet_nil ?_;rintro _ ⟨bj,rfl⟩;obtain⟨r,aP⟩:=ex bj.w
    have l:Hid (PM w r gc nc (.slice AL L.length cL) L):=hid (by rw[<-aP];exact E.out.1.later bj.h);(try rw[aP]);clear aP q0 q1 q4 qy;have q0:r.cell? ⟨w.heap.size+1,0,none⟩=some (.int .i64 (z:Int)):=by rw[l.out.nbox.cell];exact d.out.1
    have bb:Hid (n.kind=10->∃(tk:Gr.Str) (adk:Addr) (yk:Nat),n.keys.getD k 0=yk/\printF ns f yk=tk/\tk.length<=b/\ka=some adk/\k<n.keys.length/\(∀x:WB r.heap.size r,x.w.cell? (adk.add k)=some (.int .i64 (yk:Int)))/\
     ∀x:WB r.heap.size r,Calls prog 38 #[.agg #[.slice (some s) ns.length c,.int .i64 root],.int .i64 yk] x.w fun e w'=>e=.returned (.string ⟨tk.toArray⟩)/\Below r.heap.size r w'):=hid (fun bo=>by
     have B:k<n.keys.length:=by rw[be bo];exact hlk
     obtain⟨yk,aN⟩:=ex (n.keys[k])
     obtain⟨adk,bg,_,aF⟩:=zaf (aV.out r l.out.below).1 B;rw[aN]at aF;have aY:yk∈n.keys++n.items:=List.mem_append_left _ (by rw[<-aN];exact List.getElem_mem B);have hY:=aG.out yk aY;refine⟨_,adk,yk,by rw[za5 B,aN],rfl,hY.2.1,bg,B,fun x=>(x.h.cell (World.block_lt_of_cell? r _ aF)).trans aF,fun x=>?_⟩;exact(hY.2.2 x.w ((H.out.below (l.out.later x.h).below).more (l.out.later x.h).below.size)).mono (fun _ _ ⟨e1,e2⟩=>⟨e1,x.h.trans (e2.mono x.h.size)⟩))
    go_upto_region 8 with fail;go_upto_if 54 with fail;go_cut [9] (fun s9 wx=>∃t:Gr.Str,s9=.string ⟨t.toArray⟩/\Hid (PM w wx gc nc (.slice AL L.length cL) L/\t=(if n.kind=10 then printF ns f (n.keys.getD k 0)else[])++ti))
    case first=>
     by_cases hk10:z=10
     .have D:((z:Int)==10)=true:=by rw[hk10];rfl
      have p:n.kind=10:=by rw[T.out,hk10];rfl
      obtain⟨tk,adk,yk,e1,e2,htkl,rfl,B,qk,aq⟩:=bb.out p;have br:=hid aq;have bw:Hid ((if n.kind=10 then printF ns f (n.keys.getD k 0)else[])=tk):=hid (by rw[if_pos p,e1,e2]);have hlk2I:(k:Int)<(n.keys.length:Int):=by omega
      have q0:∀x:WB r.heap.size r,x.w.cell? ⟨w.heap.size,0,none⟩=some (.slice (some s) ns.length c):=fun x=>by rw[(l.out.later x.h).gbox.cell];exact ah.out.1
      have q1:∀x:WB r.heap.size r,x.w.cell? ⟨w.heap.size,1,none⟩=some (.int .i64 root):=fun x=>by rw[(l.out.later x.h).gbox.cell];exact ah.out.2
      have q3:∀x:WB r.heap.size r,x.w.cell? ⟨w.heap.size+1,3,none⟩=some (.slice (some adk) n.keys.length kc):=fun x=>by rw[(l.out.later x.h).nbox.cell];exact d.out.2.2.2.1
      have rk:=zad tk ti (by have:=aQ.out;omega);obtain⟨tt,aR⟩:=ex (tk++ti)
      have aT:Hid (tt=(if n.kind=10 then printF ns f (n.keys.getD k 0)else[])++ti):=hid (by rw[bw.out,aR]);rw[aR]at rk;clear e1 e2 aq aR hk10 p;go_upto_region 9 with fail;refine zac r.heap.size r (by kernel_rfl) (by kernel_rfl) (Below.refl _ _) ?_
      repeat (go_big_quiet_step (((first| (with_reducible refine Calls.grow (br.out _))))))
      refine wpQuiet_nil ?_;rintro _ ⟨bI,rfl⟩;go_wp2;go_meet;exact⟨tt,rfl,hid ⟨l.out.later bI.h,aT.out⟩⟩
     .have D:((z:Int)==10)=false:=by rw[beq_eq_false_iff_ne];omega
      have aT:Hid (ti=(if n.kind=10 then printF ns f (n.keys.getD k 0)else[])++ti):=hid (by rw[if_neg (by have:=T.out;omega)];rfl);clear hk10;go_wp2;go_meet;exact⟨ti,rfl,hid ⟨l.out,aT.out⟩⟩
    case rest=>
     obtain⟨t,rfl,HT⟩:=hcut;have bk:Hid (entT ns f n (k+1)=if n.kind=10/\n.ord=false then insL L t else L++[t]):=hid (by rw[ae.out,<-HT.out.2,E.out.2]);have HLL:Hid (L.length=k):=hid aC;have bn:L.length<=1000:=by omega
     have aA:Hid (w.heap.size+2<=wc.heap.size):=hid HT.out.1.hd;clear bb ae l M aQ aL a5 q0 aC bv;go_wp2_with (at_builtin;go_must (refine zaa _ rfl (.tmp 64) (.tmp 66) 60 9 16 rfl strT (w.heap.size+2) (.slice AL L.length cL) L rfl (HT.out.1.own.alloc _) _ _ 1 [t] rfl (RowAt.lit1 _ _ rfl _ ?_) ?_ ?_ ?_))
     any_goals (first|rfl| (have:=aA.out;omega)| (have:=aA.out;simp;omega)| (rw[World.size_alloc];have:=aA.out;omega))
     intro v' w5 G hg bL;have aW:Hid (PM w w5 gc nc v' (L++[t])):=hid ((HT.out.1.alloc _).grown G hg);obtain⟨A5,c5,bO,_⟩:=G.form;subst bO;obtain⟨g,rfl⟩:=ztw G (by simp);obtain⟨m5,aj⟩:=ex ((L++[t]).length)
     have K:Hid (m5=L.length+1):=hid (by rw[<-aj];simp);have hm51:1<=m5:=by rw[K.out];omega
     have hm5b:m5<=1001:=by rw[K.out];omega
     rw[aj]at aW;(try rw[aj]);clear G hg bL aj;go_upto_region 12 with fail;go_loopw [10] (fun s10 wr=>∃j:Nat,j<=L.length/\s10=.int .i64 j/\Hid (PM w wr gc nc (.slice (some ⟨g,0,none⟩) m5 c5) (wand L t j)/\(¬(n.kind=10/\n.ord=false)->j=L.length)/\∀y∈L.drop j,ltS t y=true)) (fun s10 _=>(intOf s10).toNat)
     case atStart=>exact⟨L.length,Nat.le_refl _,by(have:=K.out;congr 1;omega),hid ⟨by have:=aW.out;unfold wand;rwa[List.take_length,List.drop_length],fun _=>rfl,by simp⟩⟩
     case round=>
      obtain⟨j,hj,rfl,HJ⟩:=hrel;have s0:wr.cell? ⟨w.heap.size+1,0,none⟩=some (.int .i64 (z:Int)):=by rw[HJ.out.1.nbox.cell];exact d.out.1
      have s2:wr.cell? ⟨w.heap.size+1,2,none⟩=some (.bool n.ord):=by rw[HJ.out.1.nbox.cell];exact d.out.2.2.1
      have Z:Hid (m5=(wand L t j).length):=hid (by rw[zlj _ _ _ hj,K.out]);have am:Hid (((n.kind=10/\n.ord=false)->∀i,(h:i<L.length)->i+1=j->ltS t L[i]=false)->PM w wr gc nc (.slice (some ⟨g,0,none⟩) (wand L t j).length c5) (wand L t j)/\wand L t j=entT ns f n (k+1)):=hid (fun h=>by
       refine⟨by rw[<-Z.out];exact HJ.out.1,?_⟩;rw[bk.out];by_cases hm:n.kind=10/\n.ord=false
       .rw[if_pos hm,zwx t L j hj HJ.out.2.2 (h hm)];rfl
       .rw[if_neg hm,HJ.out.2.1 hm];unfold wand;rw[List.take_length,List.drop_length])
      by_cases hk10:z=10
      .have D:((z:Int)==10)=true:=by rw[hk10];rfl
       have p:n.kind=10:=by rw[T.out,hk10];rfl
       obtain⟨o,N⟩:=ex n.ord
       rw[N]at s2;cases o with
       |true=>
        have Y:=hid (am.out (fun h=>by rw[N]at h;cases h.2));clear N p hk10;go_upto_region 12 with fail;go_quiet (fail);go_wp2;go_roundw
        case rel=>exact⟨k+1,wand L t j,some ⟨g,0,none⟩,c5,by omega,by go_num,by rw[<-Z.out],hid ⟨Y.out.1.drewN _,Y.out.2⟩⟩
        case measure=>simp[intOf];omega
       |false=>
        cases j with
        |zero=>
         have Y:=hid (am.out (fun _ i _ h=>by omega));clear N p hk10;go_upto_region 12 with fail;go_quiet (fail);go_wp2;go_roundw
         case rel=>exact⟨k+1,wand L t 0,some ⟨g,0,none⟩,c5,by omega,by go_num,by rw[<-Z.out],hid ⟨Y.out.1.drewN _,Y.out.2⟩⟩
         case measure=>simp[intOf];omega
        |succ j=>
         have ay:j<L.length:=by omega
         obtain⟨cur,hB,bG,aO,aD,V⟩:=zka HJ.out.1.own;have bz:=zlj L t (j+1) hj;have z1:wr.cell? ⟨g,j+1,none⟩=some (.string ⟨t.toArray⟩):=by
          have a:=zwy L t (j+1) hj;rw[List.getElem?_eq_getElem (by omega)]at a;injection a with a
          rw[aO (j+1) (by omega),a]
         obtain⟨u,hu⟩:=ex (L[j])
         have z0:wr.cell? ⟨g,j,none⟩=some (.string ⟨u.toArray⟩):=by
          have a:=ztu L t j ay;rw[List.getElem?_eq_getElem (by omega),hu]at a;injection a with a
          rw[aO j (by omega),a]
         have hjb:j<=1000:=by omega
         have hjm:(j:Int)+1<(m5:Int):=by have:=K.out;omega
         have hjm0:(j:Int)<(m5:Int):=by have:=K.out;omega
         have bF:Hid (∀q,PM w (((wr.drewN q).setCell ⟨g,j,none⟩ (.string ⟨t.toArray⟩)).setCell ⟨g,j+1,none⟩ (.string ⟨u.toArray⟩)) gc nc (.slice (some ⟨g,0,none⟩) m5 c5) (wand L t j)):=hid (fun q=>by
          have hh:=HJ.out.1.drewN q;obtain⟨_,_,_,_,_,V⟩:=zka hh.own;have o1:=V j t (by omega);obtain⟨_,_,_,_,_,ax⟩:=zka o1;have o2:=ax (j+1) u (by rw[List.length_set];omega);rw[<-hu,zrf L t j ay,hu]at o2;have hsz:w.heap.size+2<=g:=bG;refine⟨(hh.below.setCell (show w.heap.size<=g by omega) _).setCell (show w.heap.size<=g by omega) _,?_,?_,o2,by simpa using hh.hd⟩
          .exact(hh.gbox.far (show w.heap.size≠g by omega) _).far (show w.heap.size≠g by omega) _
          .exact(hh.nbox.far (show w.heap.size+1≠g by omega) _).far (show w.heap.size+1≠g by omega) _)
         have bh:Hid (L[j]=u):=hid hu;obtain⟨c7,bt⟩:=ex (Op.bytesLess t u)
         have M:Hid (ltS t u=c7):=hid (by rw[<-zli,bt]);have bu:=hid aD;clear hB aO aD V bz hu;cases c7 with
         |false=>
          have Y:=hid (am.out (fun _ i hi h=>by
           obtain rfl:i=j:=by omega
           rw[bh.out];exact M.out))
          clear N p hk10;go_upto_region 12 with fail;go_quiet (fail);go_wp2;go_roundw
          case rel=>exact⟨k+1,wand L t (j+1),some ⟨g,0,none⟩,c5,by omega,by go_num,by rw[<-Z.out],hid ⟨Y.out.1.drewN _,Y.out.2⟩⟩
          case measure=>simp[intOf];omega
         |true=>
          have bN:Hid (∀y∈L.drop j,ltS t y=true):=hid (fun y hy=>by
           rw[List.drop_eq_getElem_cons ay,bh.out]at hy;rcases List.mem_cons.1 hy with rfl|hy
           .exact M.out
           .exact HJ.out.2.2 y hy)
          have bA:Hid (n.kind=10/\n.ord=false):=hid ⟨p,N⟩;clear N p hk10;go_upto_region 12 with fail;go_quiet (fail);go_upto_region 14 with fail;have aD:=bu.out;go_region
          all_goals
           go_wp2_with fail;exact⟨⟨j,by omega,rfl,hid ⟨bF.out _,fun h=>absurd bA.out h,bN.out⟩⟩,by simp[intOf]⟩
      .have D:((z:Int)==10)=false:=by rw[beq_eq_false_iff_ne];omega
       have Y:=hid (am.out (fun h=>by have:=T.out;omega));clear hk10;go_upto_region 12 with fail;go_quiet (fail);go_wp2;go_roundw
       case rel=>exact⟨k+1,wand L t j,some ⟨g,0,none⟩,c5,by omega,by go_num,by rw[<-Z.out],hid ⟨Y.out.1.drewN _,Y.out.2⟩⟩
       case measure=>simp[intOf];omega
   .have bc:¬(k:Int)<(n.items.length:Int):=by omega
    have ak:Hid (L=entS ns f n/\L.length<=1000):=hid ⟨by rw[E.out.2,zri _ _ _ _ (by omega)],by omega⟩;have bn:L.length<=1000:=by omega
    clear aC;go_upto_region 16 with fail;go_loop [6,11] (fun s6 s11=>∃(i:Nat) (S:Gr.Str),i<=L.length/\s11=.int .i64 i/\s6=.string ⟨S.toArray⟩/\Hid (S=hd++(L.take i).flatten)) (fun _ s11=>L.length-(intOf s11).toNat)
    case atStart=>exact⟨0,hd,by omega,rfl,rfl,hid (by simp)⟩
    case round=>
     obtain⟨Q,S,hi2,rfl,rfl,HS⟩:=hrel;have bJ:Hid (S.length+2<=b+2/\∀u,u∈L->S.length<=b/\Q<Q+1):=hid ⟨by
      have a:=ar.out;rw[I.out,ai.out,<-ak.out.1]at a;have h2:=zfk L Q;rw[HS.out];simp only[List.length_append,List.length_cons]at a ⊢;omega,fun u _=>⟨by
      have a:=ar.out;rw[I.out,ai.out,<-ak.out.1]at a;have h2:=zfk L Q;rw[HS.out];simp only[List.length_append,List.length_cons]at a ⊢;omega,by omega⟩⟩
     by_cases hli:Q<L.length
     .have bd:(Q:Int)<(L.length:Int):=by omega
      obtain⟨u,hu⟩:=ex (L[Q])
      obtain⟨adl,rfl,_,l0⟩:=zux (zlk E.out.1.own) hli;rw[hu]at l0;have aH:Hid (S++u=hd++(L.take (Q+1)).flatten):=hid (by rw[List.take_succ_eq_append_getElem hli,hu,HS.out];simp);have bH:S.length+u.length<=b:=by
       have a:=ar.out;rw[I.out,ai.out,<-ak.out.1]at a;have h2:=zfk L (Q+1);have h3:=congrArg List.length aH.out;simp only[List.length_append,List.length_cons]at a h3;omega
      have rS:=zad S u (by omega);obtain⟨S2,C⟩:=ex (S++u)
      rw[C]at rS aH;have hib:Q<=1000:=by omega
      clear hu bH C;go_wp2;go_round
      case rel=>exact⟨Q+1,S2,by omega,by go_num,rfl,aH⟩
      case measure=>simp[intOf];omega
     .have bd:¬(Q:Int)<(L.length:Int):=by omega
      have s2:m.cell? ⟨w.heap.size+1,2,none⟩=some (.bool n.ord):=by rw[E.out.1.nbox.cell];exact d.out.2.2.1
      have aZ:Hid (printF ns (f+1) i=S++(41::(if n.ord=true then[33]else[]))):=hid (by rw[I.out,ai.out,<-ak.out.1,HS.out,List.take_of_length_le (by omega)]);have hSb:S.length<=b:=by have:=bJ.out.1;omega
      have r1:=zad S [41] (by simp;omega);have r2:=zad S [41,33] (by simp;omega);obtain⟨S1,ap⟩:=ex (S++[41])
      obtain⟨S2,C⟩:=ex (S++[41,33])
      rw[ap]at r1;rw[C]at r2;have HB:=hid E.out.1.below;obtain⟨o,N⟩:=ex n.ord
      rw[N]at s2;cases o with
      |true=>
       have au:Hid (printF ns (f+1) i=S2):=hid (by rw[aZ.out,N,<-C];rfl);clear N ap C;go_wp2;go_ret;exact⟨by rw[au.out]<;>rfl,HB.out⟩
      |false=>
       have au:Hid (printF ns (f+1) i=S1):=hid (by rw[aZ.out,N,<-ap];rfl);clear N ap C;go_wp2;go_ret;exact⟨by rw[au.out]<;>rfl,HB.out⟩
end Go.Proofs.YtpgmfihonmoliaaGreatDoor
