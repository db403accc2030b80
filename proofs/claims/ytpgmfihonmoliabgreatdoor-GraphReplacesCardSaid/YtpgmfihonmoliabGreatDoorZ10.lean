import Derived.Test.YtpgmfihonmoliabGreatDoorZ06
import Derived.Test.YtpgmfihonmoliabGreatDoorZ11
open _root_.Go.RowKit.Below renaming refl->K3
open _root_.Go.Proofs.YtpgmfihonmoliabGreatDoor.Blk renaming new->Q1
open _root_.Bool renaming not_eq_true->U6,and_true->V1
open _root_.Go.Proofs.YtpgmfihonmoliabGreatDoor.Gr renaming keptN->Q6,few->Y6,atL->X4,dupB->U0
open _root_.Int renaming toNat_natCast->K6
open _root_.Go.Proofs.YtpgmfihonmoliabGreatDoor.KeptT renaming setCell->V0,grown->V3
open _root_.List renaming length_map->K0,getElem?_eq_getElem->K1,mem_map->K2,take_succ_eq_append_getElem->K5,getElem_append_right->K7,getElem_append_left->K8,replicate->Q0,getD_eq_getElem?_getD->Q2,getElem_mem->Q3,map_append->Q4,take_of_length_le->Q5,mem_append_right->Q7,map_congr_left->Q8,length_append->Q9,getElem?_append_right->Y0,getElem?_append_left->Y1,append_assoc->Y2,mem_append_left->Y4,map_id->Y8,mem_append->Y9,all_append->X0,drop_eq_getElem_cons->X2,eq_of_mem_replicate->X3,map_map->X5,getElem_replicate->X6,set_append_right->X8,getElem_set_self->X9,set_cons_zero->U2,getElem_map->U4,ext_getElem->U5,of_mem_zip->U7,length_set->U8
open _root_.Nat renaming le_refl->K4,le_trans->Y3,add_comm->Y7,min_eq_left->X1,le_of_lt->X7,not_lt_zero->U9,sub_self->V4
open _root_.Option renaming getD_some->Y5,map_some->U3
open _root_.Go.Proofs.YtpgmfihonmoliabGreatDoor.OwnRow renaming nil->V2
open _root_.Go.Proofs.YtpgmfihonmoliabGreatDoor.UT renaming stays->U1
open _root_.Go.World renaming size_alloc->K9
namespace Go.Proofs.YtpgmfihonmoliabGreatDoor
open _root_.Go.Proofs.Tryz
open _root_.Go.Lib (hid)
set_option maxRecDepth 100000
set_option maxHeartbeats 16000000
open Go.RowKit
theorem zsj (A A2:Option Addr) (c c2:Nat) (root no:Int) (vs vs2:List NV) (is:List Gr.Ni) (hz:Sz is) (w:World) (h:IAt w w.heap.size A vs is) (h2:IAt w w.heap.size A2 vs2 is) (hck:no=0->ChkOk w (.agg #[.slice A is.length c,.int .i64 root]) 0):
 Calls prog 8 #[.agg #[.slice A is.length c,.int .i64 root],.int .i64 no,.agg #[.slice A2 is.length c2,.int .i64 root],.int .i64 no] w fun e w'=>e=.returned (.bool true)/\Below w.heap.size w w':=by
 have l:=hid (fun W (hW:Below w.heap.size w W)=>zgw A A2 c c2 root vs vs2 is hz W ((h.below hW).more hW.size) ((h2.below hW).more hW.size));have g:=hid hck;obtain⟨N,u⟩:=ex is.length
 rw[u]at l g ⊢;clear h h2 hz hck u;obtain⟨s,f⟩:=ex w.heap.size
 have HGB:=hid f;go_enter func8,ntmps8;go_upto_region 1 with fail;obtain⟨n,i⟩:=ex ((w.alloc (.cells #[.slice A N c,.int .i64 root] 24)).alloc (.cells #[.slice A2 N c2,.int .i64 root] 24))
 have a:Hid (Blk n s 24 #[.slice A N c,.int .i64 root]/\Blk n (s+1) 24 #[.slice A2 N c2,.int .i64 root]/\Below w.heap.size w n):=hid (by
  rw[<-i,<-f];refine⟨(Q1 _ _ _).alloc _,?_,((K3 _ _).alloc (K4 _) _).alloc (by simp) _⟩;have:=Q1 (w.alloc (.cells #[.slice A N c,.int .i64 root] 24)) 24 #[.slice A2 N c2,.int .i64 root];rw[K9]at this;exact this)
 (try rw[i]);(try rw[f]);clear i f;obtain⟨t,r⟩:=cells2 a.out.1;obtain⟨v,q⟩:=cells2 a.out.2.1;by_cases h0:no=0
 .have o:=hid (g.out h0);clear g;subst h0;have j:((0:Int)==0)=true:=rfl;go_wp2_with fail;refine(l.out _ a.out.2.2).mono ?_;rintro _ m ⟨rfl,b⟩;have d:Hid (Below w.heap.size w m):=hid (a.out.2.2.trans (b.mono a.out.2.2.size));have x:=a.out.1.below b a.out.1.lt;obtain⟨B,y⟩:=cells2 x;clear b x t r v q;go_wp2_with fail;refine(o.out _ d.out).mono ?_;rintro _ z ⟨rfl,k⟩;have p:Hid (Below w.heap.size w z):=hid (d.out.trans (k.mono d.out.size));clear k B y;go_wp2;go_ret;exact⟨rfl,p.out⟩
 .have j:(no==0)=false:=by simpa using h0
  have h0c:(no != 0)=true:=by rw[bne,j];rfl
  go_wp2_with fail;refine(l.out _ a.out.2.2).mono ?_;rintro _ m ⟨rfl,b⟩;have d:Hid (Below w.heap.size w m):=hid (a.out.2.2.trans (b.mono a.out.2.2.size));clear b t r v q;go_wp2;go_ret;exact⟨rfl,d.out⟩
theorem zzr (A:Option Addr) (c:Nat) (root:Int) (vs:List NV) (is:List Gr.Ni) (hs:∀x∈is,x.text.length<=268435455/\x.keys.length<=1073741823/\x.items.length<=1073741823) (hl:is.length<=1073741823) (w:World) (hUT:UT w) (h:IAt w w.heap.size A vs is):
 ChkOk w (.agg #[.slice A is.length c,.int .i64 root]) (checkI sclX is root):=fun W a=>
 zfd UT U1 sclX A c root vs is (fun x d=>by
  obtain⟨y,b,rfl⟩:=K2.1 d;have:=hs y b;simp only[Gr.Ni.nd,K0];omega) (fun x d _ _ _ _ _ _=>by
  obtain⟨y,b,rfl⟩:=K2.1 d;exact zv5 _ _ (hs y b).1) hl W (U1 _ _ hUT a) ((h.below a).more a.size)
theorem inil (w:World):IAt w w.heap.size none [] []:=by
 obtain⟨A,c,b,a⟩:=(V2 (L:=nodeL) (w:=w) (base:=0) (E:=37)).form;injection b with e1 e2 e3
 rw[<-e1]at a;exact⟨a,rfl,fun j h=>absurd h (U9 _),fun j h=>absurd h (U9 _)⟩
theorem zzs {is:List Gr.Ni} (h1:is.length<=maxLen) (h2:∀y∈is,y.text.length<=maxLen/\y.keys.length<=maxLen/\y.items.length<=maxLen):Sz is:=by
 unfold maxLen at h1 h2;exact⟨h1,h2⟩
theorem ck_g {ns:List Gr.Nd} {root:Nat} (hr:Gr.Refs ns) (h0:root<ns.length) (hl:ns.length<=1000) (hks:∀n∈ns,n.keys.length<=1000/\n.items.length<=1000/\n.text.length<=1000) (A:Option Addr) (c:Nat) (vs:List NV) (W:World) (hT:UT W) (hG:GAt W W.heap.size A vs ns):
 ChkOk W (.agg #[.slice A ns.length c,.int .i64 (root:Nat)]) (checkG sclX ns root):=fun d a=>
 zse UT U1 sclX A c root vs ns (fun x b=>by have:=hks x b;omega) (fun x b _ _ _ _ _ _=>zv5 _ _ (by have:=hks x b;omega)) (by omega) hr h0 d (U1 _ _ hT a) ((hG.below a).more a.size)
theorem zzt {ns:List Gr.Nd} {A:Option Addr} {vs:List NV} {W:World} {B:Nat} (h:IAt W B A vs (ns.map Gr.Nd.ni)):GAt W B A vs ns:=by
 have:=h.toG (fun x b y a=>by
  obtain⟨z,hz,rfl⟩:=K2.1 b;have a:y∈z.keys.map Int.ofNat++z.items.map Int.ofNat:=a;rw[<-Q4]at a;obtain⟨u,_,rfl⟩:=K2.1 a;exact Int.natCast_nonneg u)
 rwa[Gr.zju]at this
theorem z0c {ns:List Gr.Nd} (hl:ns.length<=1000) (hks:∀n∈ns,n.keys.length<=1000/\n.items.length<=1000/\n.text.length<=1000):Sz (ns.map Gr.Nd.ni):=
 ⟨by rw[K0];omega,fun x b=>by
  obtain⟨y,a,rfl⟩:=K2.1 b;have:=hks y a;simp only[Gr.Nd.ni,K0];omega⟩
theorem zzu:Sz []:=⟨by simp,fun x a=>by cases a⟩
open Gr
theorem zsk (A:Option Addr) (c:Nat) (root:Int) (vs:List NV) (is:List Gr.Ni) (hz:Sz is) (w:World) (h:IAt w w.heap.size A vs is):
 Calls prog 4 #[.agg #[.slice A is.length c,.int .i64 root]] w fun e w'=>e=.returned (.bool (Y6 is))/\Below w.heap.size w w':=by
 have H:=hid h;have HZ:=hid hz;obtain⟨D,o⟩:=ex (w.alloc (.cells #[.slice A is.length c,.int .i64 root] 24))
 have V:Blk D w.heap.size 24 #[.slice A is.length c,.int .i64 root]:=by rw[<-o];exact Q1 _ _ _
 have P:Hid (Below w.heap.size w D):=hid (by rw[<-o];exact(K3 _ _).alloc (K4 _) _);have g0:D.cell? ⟨w.heap.size,0,none⟩=some (.slice A is.length c):=V.cell 0;have J:=hid V;have T:=hz.1;clear h V hz;go_enter func4,ntmps4;go_upto_region 1 with fail;(try rw[o]);clear o;by_cases h40:is.length<=40
 .have I:¬(40:Int)<(is.length:Int):=by omega
  go_upto_region 5 with fail;clear g0 T;go_loopw [3,4,5] (fun s3 s4 s5 wr=>∃i:Nat,i<=is.length/\s5=.int .i64 i/\s3=.int .i64 (fsum is i:Nat)/\s4=.int .i64 (fbyt is i:Nat)/\fsum is i<=160*i/\fbyt is i<=100*i/\Hid (Below D.heap.size D wr/\∀j,j<i->∀(hj:j<is.length),is[j].text.length<=100/\is[j].keys.length<=80/\is[j].items.length<=80)) (fun _ _ s5 _=>is.length-(intOf s5).toNat)
  case atStart=>exact⟨0,by omega,rfl,rfl,rfl,by simp[fsum],by simp[fbyt],hid ⟨K3 _ _,fun j hj=>by omega⟩⟩
  case round=>
   obtain⟨i,hi,rfl,rfl,rfl,X,R,E⟩:=hrel;have b:Hid (Below w.heap.size w wr):=hid (P.out.trans (E.out.1.mono P.out.size));have Z:Hid (Blk wr w.heap.size 24 #[.slice A is.length c,.int .i64 root]):=hid (J.out.below E.out.1 J.out.lt);have g0:wr.cell? ⟨w.heap.size,0,none⟩=some (.slice A is.length c):=Z.out.cell 0;have x:=hid (fun h=>zr9 (is:=is) (k:=i) h);have u:=hid (fun h=>zsa (is:=is) (k:=i) h);obtain⟨M,q⟩:=ex (fsum is i)
   obtain⟨O,m⟩:=ex (fbyt is i)
   rw[q]at X x;rw[m]at R u;have W:=hid q;have ab:=hid m;(try rw[q]);(try rw[m]);clear q m;by_cases hlt:i<is.length
   .have K:(i:Int)<(is.length:Int):=by omega
    have L:is[i]∈is:=Q3 hlt;obtain⟨ae,ag,aa⟩:=HZ.out.2 _ L;have g:=hid (zx5 hlt);have r:Hid ((is[i].text.length<=100/\is[i].keys.length<=80/\is[i].items.length<=80)->∀j,j<i+1->∀(hj:j<is.length),is[j].text.length<=100/\is[j].keys.length<=80/\is[j].items.length<=80):=hid (fun h j hj ac=>by
     rcases Nat.lt_or_ge j i with h1|h1
     .exact E.out.2 j h1 ac
     .obtain rfl:j=i:=by omega
      exact h)
    have B:=hid (x.out hlt);have t:=hid (u.out hlt);obtain⟨ad,ks,af,rfl,G,c0,c1,c2,c3,c4,r1,r2,r3,r4⟩:=(H.out.below b.out).node hlt;obtain⟨ka,kn,kc⟩:=ks;obtain⟨Q,Y,ic⟩:=af;obtain⟨n,hn⟩:=ex (is[i])
    rw[hn]at c0 c1 c2 r2 r4 ae ag aa g r B t;obtain rfl:kn=n.keys.length:=r2;obtain rfl:Y=n.items.length:=r4;have hib:i<=40:=by omega
    clear hn L r1 r3 G x u;go_upto_region 8 with fail;obtain⟨v,y⟩:=ex (wr.alloc (.cells #[.int .i64 n.kind,.string ⟨n.text.toArray⟩,.bool n.ord,.slice ka n.keys.length kc,.slice Q n.items.length ic] 37))
    obtain⟨N,C⟩:=ex wr.heap.size
    have f:Hid (Blk v N 37 #[.int .i64 n.kind,.string ⟨n.text.toArray⟩,.bool n.ord,.slice ka n.keys.length kc,.slice Q n.items.length ic]/\Below wr.heap.size wr v):=hid (by rw[<-y,<-C];exact⟨Q1 _ _ _,(K3 _ _).alloc (K4 _) _⟩);(try rw[y]);(try rw[C]);have s1:v.cell? ⟨N,1,none⟩=some (.string ⟨n.text.toArray⟩):=f.out.1.cell 1;have s3:v.cell? ⟨N,3,none⟩=some (.slice ka n.keys.length kc):=f.out.1.cell 3;have s4:v.cell? ⟨N,4,none⟩=some (.slice Q n.items.length ic):=f.out.1.cell 4;have l:Hid (Below D.heap.size D v/\Below w.heap.size w v):=hid ⟨E.out.1.trans (f.out.2.mono E.out.1.size),b.out.trans (f.out.2.mono b.out.size)⟩;clear y C c0 c1 c2 c3 c4 g0;have z:(100:Int)<(n.text.length:Int)\/¬(100:Int)<(n.text.length:Int):=by omega
    have d:(80:Int)<(n.keys.length:Int)\/¬(80:Int)<(n.keys.length:Int):=by omega
    have s:(80:Int)<(n.items.length:Int)\/¬(80:Int)<(n.items.length:Int):=by omega
    rcases z with h1|h1
    .have a:Hid (Y6 is=false):=hid (g.out (by omega));clear d s;go_wp2;go_ret;exact⟨by rw[a.out]<;>rfl,l.out.2⟩
    .rcases d with h2|h2
     .have a:Hid (Y6 is=false):=hid (g.out (by omega));clear s;go_wp2;go_ret;exact⟨by rw[a.out]<;>rfl,l.out.2⟩
     .rcases s with h3|h3
      .have a:Hid (Y6 is=false):=hid (g.out (by omega));go_wp2;go_ret;exact⟨by rw[a.out]<;>rfl,l.out.2⟩
      .have F:Hid (fsum is (i+1)<=160*(i+1)/\fbyt is (i+1)<=100*(i+1)):=hid (by rw[B.out,t.out];omega);have U:=hid (r.out (by omega));go_wp2;go_roundw
       case rel=>exact⟨i+1,by omega,by go_num,by rw[B.out];go_num,by rw[t.out];go_num,F.out.1,F.out.2,hid ⟨l.out.1,U.out⟩⟩
       case measure=>simp[intOf];omega
   .have K:¬(i:Int)<(is.length:Int):=by omega
    have S:Hid (Y6 is=(decide (M<=240) && decide (O<=300))):=hid (by
     have:=zx6 (k:=i) (by omega) h40 E.out.2;rwa[W.out,ab.out]at this)
    have z:(M:Int)<=240\/¬(M:Int)<=240:=by omega
    have d:(O:Int)<=300\/¬(O:Int)<=300:=by omega
    rcases z with h1|h1
    .rcases d with h2|h2
     .have a:Hid (Y6 is=true):=hid (by rw[S.out,qqk (by omega),qqk (by omega)];rfl);go_wp2;go_ret;exact⟨by rw[a.out]<;>rfl,b.out⟩
     .have a:Hid (Y6 is=false):=hid (by rw[S.out,qqx (p:=O<=300) (by omega)];simp);go_wp2;go_ret;exact⟨by rw[a.out]<;>rfl,b.out⟩
    .have a:Hid (Y6 is=false):=hid (by rw[S.out,qqx (p:=M<=240) (by omega)];simp);clear d;go_wp2;go_ret;exact⟨by rw[a.out]<;>rfl,b.out⟩
 .have I:(40:Int)<(is.length:Int):=by omega
  have a:Hid (Y6 is=false):=hid (zx4 h40);go_wp2;go_ret;exact⟨by rw[a.out]<;>rfl,P.out⟩
def slL:Lay SV:={enc:=fun x=>[x.v],sz:=1,len:=fun _=>rfl,one:=fun x u hu=>by simp at hu;subst hu;rfl,pos:=by omega}
theorem slT:SliceT prog slL 78 44 24:=zb3 slL 78 44 (.slice none 0 0) 24 underlying78 (by kernel_rfl) rfl (by omega)
structure RD (w wr:World) (gc:Array Value) (v:Value) (R:List SV) (ns:List Gr.Nd):Prop where
 below:Below w.heap.size w wr
 gbox:Blk wr w.heap.size 24 gc
 own:OwnRow slL wr (w.heap.size+1) 44 v R
 hd:w.heap.size+1<=wr.heap.size
 rows:∀j (hj:j<R.length),∃ob,R[j]=⟨some ⟨ob,0,none⟩,ns.length,ns.length⟩/\Blk wr ob 4 (bcells (marks ns j))
theorem zv9 {w:World} {base:Nat} {v:Value} {R:List SV} {k:Nat} {cs:Array Value} (h:OwnRow slL w base 44 v R) (hb:Blk w k 4 cs):some k≠v.ownBlock:=by
 rcases h.2 with⟨rfl,_⟩|⟨g,cap,cur,rfl,_,a,_⟩
 .exact fun e=>by cases e
 .intro e;have e:some k=some g:=e;injection e with e
  subst e;have hb:w.heap[k]? =some (.cells cs 4 (0,0)):=hb;rw[hb]at a;injection a with a
  injection a with _ a _
  exact absurd a (by decide)
section
variable {w wr w2:World} {gc:Array Value} {v v':Value} {R:List SV} {ns:List Gr.Nd} {A:Option Addr} {c:Nat}
theorem RD.later (h:RD w wr gc v R ns) (hb:Below wr.heap.size wr w2):RD w w2 gc v R ns:=
 ⟨h.below.trans (hb.mono h.below.size),h.gbox.below hb h.gbox.lt,h.own.later hb,Y3 h.hd hb.size,fun j d=>by
  obtain⟨e,b,a⟩:=h.rows j d;exact⟨e,b,a.below hb a.lt⟩⟩
theorem RD.alloc (h:RD w wr gc v R ns) (o:Obj):RD w (wr.alloc o) gc v R ns:=h.later ((K3 _ _).alloc (K4 _) _)
theorem RD.grown (h:RD w wr gc v R ns) {ob:Nat} (hob:Blk wr ob 4 (bcells (marks ns R.length))) (ho:OwnRow slL w2 (w.heap.size+1) 44 v' (R++[⟨some ⟨ob,0,none⟩,ns.length,ns.length⟩])) (hg:wr.grownBy w2 v.ownBlock):RD w w2 gc v' (R++[⟨some ⟨ob,0,none⟩,ns.length,ns.length⟩]) ns:=
 ⟨h.below.trans ((h.own.grown_below hg h.hd).mono (by omega)),h.gbox.grown hg (fun e=>absurd (h.own.lt _ e.symm).1 (by omega)),ho,Y3 h.hd (h.own.grown_below hg h.hd).size,fun j g=>by
  by_cases hjl:j<R.length
  .obtain⟨b,f,d⟩:=h.rows j hjl;exact⟨b,by rw[K8 hjl];exact f,d.grown hg (zv9 h.own d)⟩
  .have a:j=R.length:=by simp at g;omega
   subst a;exact⟨ob,by rw[List.getElem_concat_length rfl],hob.grown hg (zv9 h.own hob)⟩⟩
theorem RD.rch (h:RD w wr gc (.slice A R.length c) R ns) (hl:R.length=ns.length) (hn:0<ns.length):∃ra,A=some ra/\RchAt wr wr.heap.size ra ns:=by
 obtain⟨A',c',e,d⟩:=h.own.form;injection e with e1 _ e2
 subst e1;obtain⟨ra,b,l,_⟩:=d.get (k:=0) (by omega);refine⟨ra,b,l,fun v hv=>?_⟩;obtain⟨i,g,f⟩:=h.rows v (by omega);obtain⟨ra2,a,h6,j,_⟩:=d.get (k:=v) (by omega);rw[b]at a;injection a with a
 subst a;refine⟨i,f.lt,?_,f⟩;have:=j (R[v].v) rfl;rw[show v*slL.sz=v from Nat.mul_one v,g]at this;exact this
end
namespace Gr
def treeI (ns:List Nd) (u k:Nat):Bool:=(((ns[u]?.map Nd.items).getD []).take k).all (fun x=>!(mkd (marks ns x) u))
def treeN (ns:List Nd) (i:Nat):Bool:=(List.range i).all (fun u=>((ns[u]?.map Nd.items).getD []).all (fun x=>!(mkd (marks ns x) u)))
theorem zoe (ns:List Nd) (u:Nat):treeI ns u 0=true:=by unfold treeI;simp
theorem zof {ns:List Nd} {u k:Nat} (hu:u<ns.length) (hk:k<ns[u].items.length):treeI ns u (k+1)=(treeI ns u k && !(mkd (marks ns ns[u].items[k]) u)):=by
 unfold treeI;rw[K1 hu];simp only[U3,Y5];rw[K5 hk,X0];simp
theorem zog {ns:List Nd} {i k:Nat} (hi:i<ns.length) (hk:ns[i].items.length<=k):treeN ns (i+1)=(treeN ns i && treeI ns i k):=by
 unfold treeN treeI;rw[List.range_succ,X0];simp only[List.all_cons,List.all_nil,V1];rw[K1 hi];simp only[U3,Y5];rw[Q5 hk]
end Gr
theorem zoh (A:Option Addr) (c:Nat) (r:Nat) (vs:List NV) (ns:List Gr.Nd) (hw:WellF ns r) (hnl:ns.length<=1000) (hks:∀n∈ns,n.keys.length<=1000/\n.items.length<=1000) (w:World) (h:GAt w w.heap.size A vs ns):
 Calls prog 38 #[.agg #[.slice A ns.length c,.int .i64 r]] w fun e w'=>e=.returned (.tuple #[.int .i64 (depth ns r).1,.bool (depth ns r).2])/\Below w.heap.size w w':=by
 have H:=hid h;obtain⟨F,hF,L,ab⟩:=hw.depth;have HW:=hid hw;have HF:=hid hF;have ao:=hid L;have aB:=hid ab;have aC:=hw.root;have Y:=hF.le_n hw.refs (F r) r (K4 _) hw.root;obtain⟨gc,B⟩:∃gc:Array Value,#[.slice A ns.length c,.int .i64 r]=gc:=⟨_,rfl⟩
 have o:Hid (gc[0]? =some (.slice A ns.length c)/\gc[1]? =some (.int .i64 r)):=hid (by rw[<-B];exact⟨rfl,rfl⟩);obtain⟨w1,G⟩:=ex (w.alloc (.cells #[.slice A ns.length c,.int .i64 r] 24))
 have aq:Hid (RD w w1 gc (.slice none 0 0) [] ns):=hid (by rw[<-G,<-B];exact⟨(K3 _ _).alloc (K4 _) _,Q1 _ _ _,V2,by simp,fun j s=>by simp at s⟩);have ap:=hid (fun a ha W u=>zc1 A c a (r:Int) vs ns hw.refs hnl hks ha W u);clear h B hw hF L ab;go_enter func38,ntmps38;go_upto_region 3 with fail;(try rw[G]);clear G;go_loopw [4,5] (fun s4 s5 wr=>∃(i:Nat) (R:List SV) (AL:Option Addr) (cL:Nat),i<=ns.length/\R.length<=ns.length/\s5=.int .i64 i/\s4=.slice AL R.length cL/\Hid (RD w wr gc (.slice AL R.length cL) R ns/\R.length=i)) (fun _ s5 _=>ns.length-(intOf s5).toNat)
 case atStart=>exact⟨0,[],none,0,by omega,by simp,rfl,rfl,hid ⟨aq.out,rfl⟩⟩
 case round=>
  obtain⟨i,R,AL,cL,hi,hRl,rfl,rfl,d⟩:=hrel;obtain⟨b,am⟩:∃b,b=wr:=⟨_,rfl⟩
  subst am;have g0:b.cell? ⟨w.heap.size,0,none⟩=some (.slice A ns.length c):=by rw[d.out.1.gbox.cell];exact o.out.1
  have g1:b.cell? ⟨w.heap.size,1,none⟩=some (.int .i64 r):=by rw[d.out.1.gbox.cell];exact o.out.2
  have hib:i<=1000:=by omega
  by_cases hlt:i<ns.length
  .have ae:(i:Int)<(ns.length:Int):=by omega
   have HC:=hid (ap.out i hlt b ((H.out.below d.out.1.below).more d.out.1.below.size));go_wp2_with fail;refine HC.out.mono ?_;rintro e w2 ⟨D,rfl,an,E,ah⟩;have f:Hid (RD w w2 gc (.slice AL R.length cL) R ns/\Blk w2 D 4 (bcells (marks ns i))/\w.heap.size+1<=w2.heap.size):=hid ⟨d.out.1.later E,ah,Y3 d.out.1.hd E.size⟩;clear an E ah g0 g1;go_wp2_with (at_builtin;go_must (refine zab _ rfl (.tmp 16) (.tmp 20) 78 44 24 rfl slT (w.heap.size+1) (.slice AL R.length cL) R rfl (f.out.1.own.alloc _) _ _ 1 ([⟨some ⟨D,0,none⟩,ns.length,ns.length⟩]:List SV) rfl (RowAt.lit1 _ _ rfl _ ?_) ?_ ?_ ?_))
   any_goals (first|rfl| (have:=f.out.2.2;omega)| (have:=f.out.2.2;simp;omega)| (rw[K9];have:=f.out.2.2;omega))
   intro v' w5 g hg al;have z:Hid (RD w w5 gc v' (R++([⟨some ⟨D,0,none⟩,ns.length,ns.length⟩]:List SV)) ns/\(R++([⟨some ⟨D,0,none⟩,ns.length,ns.length⟩]:List SV)).length=i+1):=hid ⟨(f.out.1.alloc _).grown (by rw[d.out.2];exact f.out.2.1.alloc _) g hg,by simp[d.out.2]⟩;obtain⟨A5,c5,Q,_⟩:=g.form;obtain⟨R5,P⟩:=ex (R++([⟨some ⟨D,0,none⟩,ns.length,ns.length⟩]:List SV))
   rw[P]at z Q;subst Q;clear g hg al P;go_wp2;go_roundw
   case rel=>exact⟨i+1,R5,A5,c5,by omega,by rw[z.out.2];omega,by go_num,rfl,z⟩
   case measure=>simp[intOf];omega
  .have ae:¬(i:Int)<(ns.length:Int):=by omega
   obtain⟨ra,rfl,Z⟩:=d.out.1.rch (by rw[d.out.2];omega) (by omega);have aa:=hid Z;have V:Hid (R.length=ns.length):=hid (by rw[d.out.2];omega);obtain⟨rl,l⟩:=ex R.length
   have hrlI:(ns.length:Int)<=(rl:Int):=by have:=V.out;omega
   have T:Hid (rl=ns.length):=hid (by rw[<-l];exact V.out);have ag:Hid (Below w.heap.size w b):=hid d.out.1.below;have U:=hid ((H.out.below d.out.1.below).more d.out.1.below.size);(try rw[l]);clear Z l;go_upto_region 8 with fail;go_loop [6,7] (fun s6 s7=>∃k:Nat,k<=ns.length/\s7=.int .i64 k/\s6=.bool (treeN ns k)) (fun _ s7=>ns.length-(intOf s7).toNat)
   case atStart=>exact⟨0,by omega,rfl,rfl⟩
   case round=>
    obtain⟨k,hk,rfl,rfl⟩:=hrel;by_cases hlk:k<ns.length
    .have af:(k:Int)<(ns.length:Int):=by omega
     have I:ns[k]∈ns:=Q3 hlk;obtain⟨ay,av⟩:=hks _ I;have t:=hid (HW.out.refs _ I);have aj:Hid (∀j (s:j<ns[k].items.length),treeI ns k (j+1)=(treeI ns k j && !(mkd (marks ns ns[k].items[j]) k))):=hid (fun j s=>zof hlk s);have S:Hid (∀j,ns[k].items.length<=j->treeN ns (k+1)=(treeN ns k && treeI ns k j)):=hid (fun j s=>zog hlk s);obtain⟨ad,ks,aE,rfl,hN⟩:=U.out.node hlk;obtain⟨ka,kn,kc⟩:=ks;obtain⟨ia,aA,ic⟩:=aE;obtain⟨n,hn⟩:=ex (ns[k])
     rw[hn]at hN av t;have ai:Hid (∀j (s:j<n.items.length),treeI ns k (j+1)=(treeI ns k j && !(mkd (marks ns n.items[j]) k))):=hid (by subst hn;exact aj.out);have p:Hid (∀j,n.items.length<=j->treeN ns (k+1)=(treeN ns k && treeI ns k j)):=hid (by subst hn;exact S.out);obtain rfl:aA=n.items.length:=hN.inn;have x4:=hN.c4;have aD:Hid (RowAt intL b b.heap.size ia n.items):=hid hN.items;obtain⟨tn,J⟩:=ex (treeN ns k)
     (try rw[J]);rw[J]at p;have hkb:k<=1000:=by omega
     clear hN hn I ay J aj S;go_upto_region 11 with fail;go_loop [6,8] (fun s6 s8=>∃j:Nat,j<=n.items.length/\s8=.int .i64 j/\s6=.bool (tn && treeI ns k j)) (fun _ s8=>n.items.length-(intOf s8).toNat)
     case atStart=>exact⟨0,by omega,rfl,by rw[zoe,V1]⟩
     case round=>
      obtain⟨j,s,rfl,rfl⟩:=hrel;obtain⟨tb,K⟩:=ex (tn && treeI ns k j)
      (try rw[K]);have O:=hid K;clear K;by_cases hlj:j<n.items.length
      .have M:(j:Int)<(n.items.length:Int):=by omega
       obtain⟨y,hy⟩:=ex (n.items[j])
       obtain⟨adi,rfl,_,y0⟩:=zaf aD.out hlj;rw[hy]at y0;have ac:y<ns.length:=t.out y (Q7 _ (by rw[<-hy];exact Q3 hlj));have hyI:(y:Int)<(rl:Int):=by omega
       obtain⟨oy,ar,ry,bY⟩:=aa.out.row y ac;obtain⟨q,hq⟩:=ex ((marks ns y).getD k false)
       have y2:b.cell? ⟨oy,k,none⟩=some (.bool q):=by rw[bY.cell,zae (by rw[zau HW.out.refs ac];exact hlk),hq]
       have ak:Hid ((tn && treeI ns k (j+1))=(tb && !q)):=hid (by rw[ai.out j hlj,<-Bool.and_assoc,O.out,hy];unfold mkd;rw[hq]);have hjb:j<=1000:=by omega
       clear bY ar hy hq;cases tb with
       |false=>
        go_wp2;go_round
        case rel=>exact⟨j+1,by omega,by go_num,by rw[ak.out];rfl⟩
        case measure=>simp[intOf];omega
       |true=>
        go_wp2;go_round
        case rel=>exact⟨j+1,by omega,by go_num,by rw[ak.out];rfl⟩
        case measure=>simp[intOf];omega
      .have M:¬(j:Int)<(n.items.length:Int):=by omega
       have HE:Hid (treeN ns (k+1)=tb):=hid (by rw[p.out j (by omega),O.out]);go_wp2;go_round
       case rel=>exact⟨k+1,by omega,by go_num,by rw[HE.out]⟩
       case measure=>simp[intOf];omega
    .have af:¬(k:Int)<(ns.length:Int):=by omega
     have X:Hid (treeN ns k=(depth ns r).2):=hid (by
      obtain rfl:k=ns.length:=by omega
      rw[aB.out];rfl)
     obtain⟨tr,C⟩:=ex (treeN ns k)
     (try rw[C]);rw[C]at X;obtain⟨fr,m⟩:=ex (F r)
     have aw:Hid ((depth ns r).1=(fr:Int)-1):=hid (by rw[ao.out,m]);have N:Hid (fr<=ns.length):=hid (by rw[<-m];exact Y);have hmk:=za7 ns.length (by omega);have au:Hid (∀W od,Below b.heap.size b W->b.heap.size<=od->Blk W od 3 (icells (Q0 ns.length 0))->Calls prog 53 #[.agg #[.slice A ns.length c,.int .i64 r],.slice (some ra) rl cL,.slice (some ⟨od,0,none⟩) ns.length ns.length,.int .i64 r] W fun e w'=>e=.returned (.int .i64 fr)/\Below b.heap.size b w'):=hid (fun W od u x hB=>by
      rw[T.out];refine(zjy A c cL od (r:Int) vs ns ra F HW.out.refs HF.out hnl hks (F r+1) r (Q0 ns.length 0) W (by omega) aC ⟨(U.out.below u).more x,?_⟩ (DOk.zero F ns.length) hB).mono ?_
      .have:=aa.out.below u;exact⟨Nat.lt_of_lt_of_le this.lt x,fun v hv=>by
        obtain⟨D,h1,h2⟩:=this.row v hv;exact⟨D,by omega,h2⟩⟩
      .rintro e w' ⟨h1,h2,_⟩;exact⟨by rw[h1,m],u.trans (h2.below x u.size)⟩)
     have hfb:fr<=1000:=by have:=N.out;omega
     clear m C hlk hk Y;go_upto_region 14 with fail;have az:Hid (∀W,Below b.heap.size b W->W.cell? ⟨w.heap.size,0,none⟩=some (.slice A ns.length c)/\W.cell? ⟨w.heap.size,1,none⟩=some (.int .i64 r)):=hid (fun W u=>by
      have:=d.out.1.gbox.below u d.out.1.gbox.lt;exact⟨by rw[this.cell];exact o.out.1,by rw[this.cell];exact o.out.2⟩)
     go_cut [2,3] (fun s2 s3 wx=>s2=.int .i64 ((fr:Int)-1)/\s3=.bool tr/\Hid (Below b.heap.size b wx))
     case first=>
      go_region_held3 (fun w'=>w'.cell? ⟨w.heap.size,0,none⟩=some (.slice A ns.length c)/\w'.cell? ⟨w.heap.size,1,none⟩=some (.int .i64 r))
       (first|go_keep|exact az.out _ (by(first|assumption|exact K3 _ _|exact(K3 _ _).drew|exact Below.drew (by assumption)))) (first
       | (go_at_call 53;(with_reducible refine(au.out _ _ ?_ ?_ ?_).mono ?_);exact((K3 _ _).alloc (K4 _) _).drew;exact K4 _;exact Q1 _ _ _;rintro e1 wc1 ⟨rfl,ax⟩))
      all_goals
       go_wp2;go_meet
      exact⟨by rw[IntWalk.i64_in _ (by omega)],rfl,hid ax⟩
     case rest=>
      obtain⟨rfl,rfl,HX⟩:=hcut;go_wp2;go_ret2;exact⟨by rw[aw.out,X.out]<;>rfl,ag.out.trans (HX.out.mono ag.out.size)⟩
theorem zgx (A:Option Addr) (c:Nat) (root:Int) (vs:List NV) (is:List Gr.Ni) (hl:is.length<=1000) (hks:∀n∈is,n.keys.length<=1000/\n.items.length<=1000/\n.text.length<=1000) (w:World) (h:IAt w w.heap.size A vs is):
 Calls prog 20 #[.agg #[.slice A is.length c,.int .i64 root]] w fun e w'=>e=.returned (.int .i64 (rcheck sclX is root:Nat))/\Below w.heap.size w w':=by
 have H:=hid h;obtain⟨w1,o⟩:=ex (w.alloc (.cells #[.slice A is.length c,.int .i64 root] 24))
 have Y:Blk w1 w.heap.size 24 #[.slice A is.length c,.int .i64 root]:=by rw[<-o];exact Q1 _ _ _
 have X:Hid (Below w.heap.size w w1):=hid (by rw[<-o];exact(K3 _ _).alloc (K4 _) _);obtain⟨g0,g1⟩:=cells2 Y;have Q:=hid Y;have z:¬(4096:Int)<(is.length:Int):=by omega
 have Z:=hid (zsm A c root vs is (by omega) (fun n s=>by have:=hks n s;omega) w1 ((h.below X.out).more X.out.size));have l:Hid (rcheck sclX is root=if rwell sclX is root=false then 3 else if rtwice (is.map Gr.Ni.nd) is.length=true then 8 else if(depth (is.map Gr.Ni.nd) root.toNat).1>32 then 5 else 0):=hid (by unfold rcheck;rw[if_neg (by omega)]);have y:=hid (fun hs:rwell sclX is root=true=>zgv zaw hs);obtain⟨wl,R⟩:=ex (rwell sclX is root)
 rw[R]at Z l y;clear h Y R;go_enter func20,ntmps20;go_upto_region 1 with fail;(try rw[o]);clear o;go_wp2_with fail;refine Z.out.mono ?_;rintro e w2 ⟨rfl,E⟩;have p:Hid (Below w.heap.size w w2):=hid (X.out.trans (E.mono X.out.size));have D:=Q.out.below E Q.out.lt;obtain⟨g0,g1⟩:=cells2 D;have C:=hid D;clear E D;cases wl with
 |false=>
  have B:Hid (rcheck sclX is root=3):=hid (by rw[l.out,if_pos rfl]);go_wp2;go_ret;exact⟨by rw[B.out]<;>rfl,p.out⟩
 |true=>
  obtain⟨r,rfl,K,t⟩:=y.out rfl;have a:=hid K;have I:Hid (∀W,Below w.heap.size w W->GAt W W.heap.size A vs (is.map Gr.Ni.nd)):=hid (fun W J=>((H.out.below J).more J.size).toG (za1 t).1);have j:Hid (∀n∈is.map Gr.Ni.nd,n.keys.length<=1000/\n.items.length<=1000/\n.text.length<=1000):=hid (fun n s=>by
   obtain⟨x,hx,rfl⟩:=K2.1 s;have:=hks x hx;simp only[Gr.Ni.nd,K0];omega)
  have b:Hid (rcheck sclX is (r:Int)=if rtwice (is.map Gr.Ni.nd) is.length=true then 8 else if(depth (is.map Gr.Ni.nd) r).1>32 then 5 else 0):=hid (by rw[l.out,if_neg (by decide),K6]);clear Z l y hks K t;obtain⟨g,v⟩:=ex (is.map Gr.Ni.nd)
  have G:is.length=g.length:=by rw[<-v];simp
  rw[v]at a I j b;obtain⟨m,N⟩:=ex is.length
  have V:Hid (∀W,Below w.heap.size w W->Calls prog 37 #[.agg #[.slice A m c,.int .i64 r]] W fun e w'=>e=.returned (.bool (rtwice g m))/\Below W.heap.size W w'):=hid (fun W J=>by
   rw[<-N,G];refine zoc A c (r:Int) vs g (fun u=>mkd (inKeys g) u=true) g.length 2000000000 ⟨a.out.refs,a.out.keep,a.out.ok,fun n s=>by have:=j.out n s;omega,fun f i hf hk hi=>a.out.plen (by omega) (fun x hx=>by have:=j.out x hx;omega) f i hf hi hk,by omega⟩ (by omega) ?_ W (I.out W J);intro n s k hk;have P:k∈allKeys g:=List.mem_flatMap.2 ⟨n,s,hk⟩;obtain⟨h1,h2⟩:=a.out.tall k P;exact⟨h1,a.out.key k P,h2⟩)
  have S:Hid (∀W,Below w.heap.size w W->Calls prog 38 #[.agg #[.slice A m c,.int .i64 r]] W fun e w'=>e=.returned (.tuple #[.int .i64 (depth g r).1,.bool (depth g r).2])/\Below W.heap.size W w'):=hid (fun W J=>by
   rw[<-N,G];exact zoh A c r vs g a.out (by omega) (fun n s=>by have:=j.out n s;omega) W (I.out W J))
  rw[N]at g0 b C;(try rw[N]);obtain⟨d,hd⟩:=ex ((depth g r).1)
  obtain⟨dt,L⟩:=ex ((depth g r).2)
  rw[hd]at b;rw[hd,L]at S;obtain⟨tb,U⟩:=ex (rtwice g m)
  rw[U]at b V;clear v G N hd L U hl z;go_wp2_with fail;refine(V.out w2 p.out).mono ?_;rintro e w3 ⟨rfl,F⟩;have q:Hid (Below w.heap.size w w3):=hid (p.out.trans (F.mono p.out.size));have T:=C.out.below F C.out.lt;obtain⟨k0,k1⟩:=cells2 T;clear F T g0 g1;cases tb with
  |true=>
   have B:Hid (rcheck sclX is (r:Int)=8):=hid (by rw[b.out,if_pos rfl]);go_wp2;go_ret;exact⟨by rw[B.out]<;>rfl,q.out⟩
  |false=>
   go_wp2_with fail;refine(S.out w3 q.out).mono ?_;rintro e w4 ⟨rfl,M⟩;have O:Hid (Below w.heap.size w w4):=hid (q.out.trans (M.mono q.out.size));clear M k0 k1;by_cases hd32:32<d
   .have B:Hid (rcheck sclX is (r:Int)=5):=hid (by rw[b.out,if_neg (by decide),if_pos hd32]);go_wp2;go_ret;exact⟨by rw[B.out]<;>rfl,O.out⟩
   .have B:Hid (rcheck sclX is (r:Int)=0):=hid (by rw[b.out,if_neg (by decide),if_neg hd32]);go_wp2;go_ret;exact⟨by rw[B.out]<;>rfl,O.out⟩
namespace Gr
theorem za5 {sclr:Int->Str->Bool} (hs:∀k t,sclr k t=true->0<=k/\k<=8) {is:List Ni} {root:Int} (h:checkI sclr is root=0):
 ∃r:Nat,root=(r:Int)/\WellF (is.map Ni.nd) r/\is.all (rng is.length)=true/\(∀x∈is.map Ni.nd,formB sclr x=true)/\twice (is.map Ni.nd) (is.map Ni.nd).length=false/\(depth (is.map Ni.nd) r).1<=32:=by
 have b:=zfl sclr hs is root;rw[h]at b;unfold rcheck at b;split at b
 .omega
 .split at b
  .omega
  .rename_i hw;rw[Bool.not_eq_false]at hw;obtain⟨r,rfl,a,f⟩:=zgv hs hw;split at b
   .omega
   .split at b
    .omega
    .rename_i ht hd;rw[K6]at hd;refine⟨r,rfl,a,f,?_,?_,by omega⟩
     .unfold checkI at h;split at h
      .omega
      .split at h
       .omega
       .unfold checkN at h;split at h
        .omega
        .rename_i hall;rw[Classical.not_not,List.all_eq_true]at hall;intro x g;obtain⟨i,c,rfl⟩:=List.mem_iff_getElem.1 g;have:=hall i (List.mem_range.2 c);rw[Bool.and_eq_true]at this;have d:=this.2;rw[Q2,K1 c]at d;exact d
     .rw[zlk a.ok a.refs _ (fun k e=>⟨(a.tall k e).1,(a.tall k e).2⟩)];rw[U6]at ht;rw[K0];exact ht
end Gr
section
variable {kind:Int} {text:Gr.Str} {is:List Gr.Ni} {r:Nat} {dp:Int}
end
namespace Gr
def rpl (node q x:Nat):Nat:=if x=node then q else x
def rpN (node q:Nat) (x:Nd):Nd:=⟨x.kind,x.text,x.ord,x.keys.map (rpl node q),x.items.map (rpl node q)⟩
def joinN (ns ws:List Nd) (node q:Nat):List Nd:=ns.map (rpN node q)++ws.map (shN ns.length)
theorem zez (ns ws:List Nd) (node q:Nat):(joinN ns ws node q).length=ns.length+ws.length:=by simp[joinN]
theorem zuz (ns ws:List Nd) (node q j:Nat):(joinN ns ws node q)[ns.length+j]? =(ws[j]?).map (shN ns.length):=by
 unfold joinN;rw[Y0 (by rw[K0];omega),K0,Nat.add_sub_cancel_left,List.getElem?_map]
theorem zjt (ns ws:List Nd) (node q j:Nat):succ (joinN ns ws node q) (ns.length+j)=(succ ws j).map (· +ns.length):=by
 unfold succ;rw[zuz];cases ws[j]? with
 |none=>rfl
 |some x=>simp[shN]
theorem zfy {ns ws:List Nd} {node r:Nat} (hn:Refs ns) (hw:Refs ws) (hr:r<ws.length):Refs (joinN ns ws node (r+ns.length)):=by
 intro x d y a;rw[zez];rcases Y9.1 d with h|h
 .obtain⟨z,b,rfl⟩:=K2.1 h;have a:y∈z.keys.map (rpl node (r+ns.length))++z.items.map (rpl node (r+ns.length)):=a;rw[<-Q4]at a;obtain⟨v,c,rfl⟩:=K2.1 a;have:=hn z b v c;unfold rpl;split<;>omega
 .obtain⟨z,b,rfl⟩:=K2.1 h;have a:y∈z.keys.map (· +ns.length)++z.items.map (· +ns.length):=a;rw[<-Q4]at a;obtain⟨v,c,rfl⟩:=K2.1 a;have:=hw z b v c;show v+ns.length<_;omega
theorem zn7 {ns ws:List Nd} {node q a b:Nat} (h:Reach (succ ws) a b):Reach (succ (joinN ns ws node q)) (ns.length+a) (ns.length+b):=by
 induction h with
 |refl=>exact .refl _
 |step h1 _ ih=>exact .step (by rw[zjt];exact K2.2 ⟨_,h1,Y7 _ _⟩) ih
theorem zsb {ns ws:List Nd} {node q c b:Nat} (h:Reach (succ (joinN ns ws node q)) c b):∀a,c=ns.length+a->∃d,b=ns.length+d/\Reach (succ ws) a d:=by
 induction h with
 |refl=>exact fun a e=>⟨a,e,.refl _⟩
 |step h1 _ ih=>
  intro a e;subst e;rw[zjt]at h1;obtain⟨v,i,rfl⟩:=K2.1 h1;obtain⟨d,g,f⟩:=ih v (Y7 _ _);exact⟨d,g,.step i f⟩
theorem zn8 {ns ws:List Nd} {node r:Nat} (hn:Refs ns) (hw:Refs ws) (hr:r<ws.length) (hall:∀v,v<ws.length->Reach (succ ws) r v):
 marks (joinN ns ws node (r+ns.length)) (r+ns.length)=Q0 ns.length false++Q0 ws.length true:=by
 have h:=zfy (node:=node) hn hw hr;have a:=zez ns ws node (r+ns.length);have c:r+ns.length<(joinN ns ws node (r+ns.length)).length:=by omega
 have b:=zau h c;apply U5
 .rw[b,a];simp
 .intro i g h2;have f:=za3 h c i;unfold mkd at f;rw[Q2,K1 g,Y5]at f;by_cases hc:i<ns.length
  .rw[K8 (by simpa using hc),X6,<-U6,f];intro k;obtain⟨d,e,_⟩:=zsb k r (Y7 _ _);omega
  .rw[K7 (by simpa using Nat.le_of_not_lt hc),X6,f];have:=zn7 (ns:=ns) (node:=node) (q:=r+ns.length) (hall (i-ns.length) (by rw[b,a]at g;omega));rwa[Y7 ns.length r,show ns.length+(i-ns.length)=i by omega]at this
theorem zsc {ns ws:List Nd} {node r:Nat} (hn:Refs ns) (hw:Refs ws) (hr:r<ws.length) (hall:∀v,v<ws.length->Reach (succ ws) r v):
 keptN (joinN ns ws node (r+ns.length)) (marks (joinN ns ws node (r+ns.length)) (r+ns.length))=ws/\(atL (marks (joinN ns ws node (r+ns.length)) (r+ns.length))).getD (r+ns.length) 0=r:=by
 rw[zn8 hn hw hr hall];have a:∀y,y<ws.length->(atL (Q0 ns.length false++Q0 ws.length true)).getD (y+ns.length) 0=y:=fun y n=>by
  rw[zd3 (by simp;omega),List.take_append,List.count_append];simp[List.count_replicate,X1 (X7 n)]
 refine⟨?_,a r hr⟩;obtain⟨M,k⟩:=ex (atL (Q0 ns.length false++Q0 ws.length true))
 unfold keptN keptT;rw[k]at a ⊢;rw[Q5 (by rw[List.length_zip];omega)];unfold joinN;rw[List.zip_append (by simp),List.filter_append,Q4,List.filter_eq_nil_iff.2,List.map_nil,List.nil_append,List.filter_eq_self.2]
 .apply U5
  .simp
  .intro i h1 m;rw[U4,List.getElem_zip,U4];have f:=hw ws[i] (Q3 m);have g:∀l:List Nat,(∀v∈l,v<ws.length)->(l.map (· +ns.length)).map (fun y=>M.getD y 0)=l:=fun l h=>by
    rw[X5]
    conv=>rhs;rw[<-Y8 l]
    exact Q8 (fun v b=>a v (h v b))
   have d:=g ws[i].keys (fun v b=>f v (Y4 _ b));have e:=g ws[i].items (fun v b=>f v (Q7 _ b));obtain⟨z,j⟩:=ex (ws[i])
   rw[j]at d e ⊢;cases z;simp only[mvN,shN]at d e ⊢;rw[d,e]
 .intro p c;exact X3 (U7 c).2
 .intro p c;rw[X3 (U7 c).2];decide
end Gr
def ResR (L:(List Gr.Ni×Int)×Nat) (w:World) (e:Ending) (w':World):Prop:=
 Below w.heap.size w w'/\∃A2 c2 vs2,e=.returned (.tuple #[.agg #[.slice A2 L.1.1.length c2,.int .i64 L.1.2],.int .i64 (L.2:Nat)])/\∀W',KeptT 37 w' W'->KeptT 3 w' W'->IAt W' W'.heap.size A2 vs2 L.1.1
theorem ResR.zero {w w':World} (no:Nat) (h:Below w.heap.size w w'):ResR (([],0),no) w (.returned (.tuple #[gZero,.int .i64 (no:Nat)])) w':=⟨h,none,0,[],rfl,fun _ _ _=>inil _⟩
noncomputable def endL (J:List Gr.Nd) (r:Nat):(List Gr.Ni×Int)×Nat:=
 if checkG sclX (Q6 J (marks J r)) ((X4 (marks J r)).getD r 0)≠0 then(([],0),checkG sclX (Q6 J (marks J r)) ((X4 (marks J r)).getD r 0))
 else(((Q6 J (marks J r)).map Gr.Nd.ni,(((X4 (marks J r)).getD r 0:Nat):Int)),0)
noncomputable def replL (is:List Gr.Ni) (root node:Int) (ws:List Gr.Ni) (rw:Int):(List Gr.Ni×Int)×Nat:=
 if checkI sclX is root≠0\/checkI sclX ws rw≠0 then(([],0),3)
 else if node<0\/(is.length:Int)<=node then(([],0),2)
 else if mkd (inKeys (is.map Gr.Ni.nd)) node.toNat=true/\U0 (ws.map Gr.Ni.nd) rw.toNat=true then(([],0),16)
 else endL (Gr.joinN (is.map Gr.Ni.nd) (ws.map Gr.Ni.nd) node.toNat (rw.toNat+is.length)) (Gr.rpl node.toNat (rw.toNat+is.length) root.toNat)
theorem zed {is ws:List Gr.Ni} {root node rw:Int} (h:checkI sclX is root≠0\/checkI sclX ws rw≠0):replL is root node ws rw=(([],0),3):=by unfold replL;rw[if_pos h]
theorem zk3 {is ws:List Gr.Ni} {root node rw:Int} (h:checkI sclX is root=0) (h1:checkI sclX ws rw=0) (h2:node<0\/(is.length:Int)<=node):replL is root node ws rw=(([],0),2):=by
 unfold replL;rw[if_neg (by rw[h,h1];simp),if_pos h2]
theorem zh0 {is ws:List Gr.Ni} {root rw:Int} {node:Nat} (h:checkI sclX is root=0) (h1:checkI sclX ws rw=0) (h2:node<is.length):
 replL is root (node:Int) ws rw=if mkd (inKeys (is.map Gr.Ni.nd)) node=true/\U0 (ws.map Gr.Ni.nd) rw.toNat=true then(([],0),16)
  else endL (Gr.joinN (is.map Gr.Ni.nd) (ws.map Gr.Ni.nd) node (rw.toNat+is.length)) (Gr.rpl node (rw.toNat+is.length) root.toNat):=by
 unfold replL;rw[if_neg (by rw[h,h1];simp),if_neg (by omega),K6]
theorem zoa {is ws:List Gr.Ni} {r q:Nat} (hn:Refs (is.map Gr.Ni.nd)) (hw:Refs (ws.map Gr.Ni.nd)) (hq:q<ws.length) (hall:∀v,v<ws.length->Gr.Reach (Gr.succ (ws.map Gr.Ni.nd)) q v):
 endL (Gr.joinN (is.map Gr.Ni.nd) (ws.map Gr.Ni.nd) r (q+is.length)) (Gr.rpl r (q+is.length) r)=if checkG sclX (ws.map Gr.Ni.nd) q≠0 then(([],0),checkG sclX (ws.map Gr.Ni.nd) q)else(((ws.map Gr.Ni.nd).map Gr.Nd.ni,(q:Int)),0):=by
 have h:=Gr.zsc (node:=r) hn hw (by rw[K0];exact hq) (fun v a=>hall v (by rwa[K0]at a));rw[K0]at h;have e:Gr.rpl r (q+is.length) r=q+is.length:=by unfold Gr.rpl;rw[if_pos rfl]
 unfold endL;rw[e,h.1,h.2]
namespace Gr
theorem zzv {is:List Ni} (h:∀x∈is,∀y∈x.keys++x.items,0<=y):(is.map Ni.nd).map Nd.ni=is:=by
 rw[X5]
 conv=>rhs;rw[<-Y8 is]
 apply Q8;intro x e;have c:∀l:List Int,(∀y∈l,0<=y)->(l.map Int.toNat).map Int.ofNat=l:=fun l f=>by
  rw[X5]
  conv=>rhs;rw[<-Y8 l]
  exact Q8 (fun y a=>Int.toNat_of_nonneg (f y a))
 have b:=c x.keys (fun y a=>h x e y (Y4 _ a));have d:=c x.items (fun y a=>h x e y (Q7 _ a));cases x;simp only[Function.comp,Ni.nd,Nd.ni,id]at b d ⊢;rw[b,d]
theorem zvd {J:List Nd} {r:Nat} (hJ:Refs J) (hr:r<J.length):(keptN J (marks J r)).length<=J.length:=by
 have a:=zau hJ hr;unfold keptN;rw[zdo a (K4 _)];exact Y3 List.count_le_length (by rw[List.length_take];omega)
end Gr
def ResOk (L:(List Gr.Ni×Int)×Nat):Prop:=Sz L.1.1/\(L.2=0->∀A2 c2 vs2 W,UT W->IAt W W.heap.size A2 vs2 L.1.1->ChkOk W (.agg #[.slice A2 L.1.1.length c2,.int .i64 L.1.2]) 0)
theorem zdv {no:Nat} (h:no≠0):ResOk (([],0),no):=⟨zzu,fun e=>absurd e h⟩
theorem zee {J:List Gr.Nd} {r:Nat} (hJ:Refs J) (hr:r<J.length) (hks:∀x∈J,x.keys.length<=1000/\x.items.length<=1000/\x.text.length<=1000):
 Refs (Q6 J (marks J r))/\(X4 (marks J r)).getD r 0<(Q6 J (marks J r)).length/\(Q6 J (marks J r)).length<=J.length/\∀n∈Q6 J (marks J r),n.keys.length<=1000/\n.items.length<=1000/\n.text.length<=1000:=by
 obtain⟨a,c⟩:=Gr.zpz hJ hr;exact⟨a,c,Gr.zvd hJ hr,Gr.zp0 (P:=fun n=>n.keys.length<=1000/\n.items.length<=1000/\n.text.length<=1000) (fun x b=>by
  have:=hks x b;simp only[Gr.mvN,K0];omega)⟩
theorem zye {J:List Gr.Nd} {r:Nat} (hJ:Refs J) (hr:r<J.length) (hl:J.length<=1000) (hks:∀x∈J,x.keys.length<=1000/\x.items.length<=1000/\x.text.length<=1000):ResOk (endL J r):=by
 obtain⟨d,f,k,b⟩:=zee hJ hr hks;unfold endL;obtain⟨a,j⟩:=ex ((X4 (marks J r)).getD r 0)
 obtain⟨K,e⟩:=ex (Q6 J (marks J r))
 rw[e,j]at f ⊢;rw[e]at d k b;by_cases hc:checkG sclX K a=0
 .rw[if_neg (fun h=>h hc)];refine⟨z0c (by omega) b,fun _ m l c W g i=>?_⟩;have:=ck_g d f (by omega) b m l c W g (zzt i);rw[hc]at this;rw[K0];exact this
 .rw[if_pos hc];exact zdv hc
theorem zve {is ws:List Gr.Ni} {root node rw':Int} (hl:is.length<=40/\ws.length<=40) (hks:∀x∈is++ws,x.text.length<=1000/\x.keys.length<=1000/\x.items.length<=1000):ResOk (replL is root node ws rw'):=by
 by_cases h0:checkI sclX is root≠0\/checkI sclX ws rw'≠0
 .rw[zed h0];exact zdv (by decide)
 .have g:checkI sclX is root=0:=by omega
  have f:checkI sclX ws rw'=0:=by omega
  by_cases hn:node<0\/(is.length:Int)<=node
  .rw[zk3 g f hn];exact zdv (by decide)
  .obtain⟨k,rfl⟩:∃k:Nat,node=(k:Int):=⟨node.toNat,by omega⟩
   rw[zh0 g f (by omega)];split
   .exact zdv (by decide)
   .obtain⟨r,rfl,c,_⟩:=Gr.za5 zaw g;obtain⟨q,rfl,a,_⟩:=Gr.za5 zaw f;have m:(is.map Gr.Ni.nd).length=is.length:=K0 ..;have n:(ws.map Gr.Ni.nd).length=ws.length:=K0 ..;have l:=c.root;have i:=a.root;have j:=Gr.zfy (node:=k) c.refs a.refs i;have b:=Gr.zez (is.map Gr.Ni.nd) (ws.map Gr.Ni.nd) k (q+(is.map Gr.Ni.nd).length);rw[K6,K6];rw[m]at j b l;rw[n]at b i;refine zye j ?_ (by omega) (fun x o=>?_)
    .rw[b];unfold Gr.rpl;split<;>omega
    .rcases Y9.1 o with h|h
     .obtain⟨y,d,rfl⟩:=K2.1 h;obtain⟨z,e,rfl⟩:=K2.1 d;have:=hks z (Y4 _ e);simp only[Gr.rpN,Gr.Ni.nd,K0];omega
     .obtain⟨y,d,rfl⟩:=K2.1 h;obtain⟨z,e,rfl⟩:=K2.1 d;have:=hks z (Q7 _ e);simp only[shN,Gr.Ni.nd,K0];omega
theorem zoi {is ws:List Gr.Ni} {root rw':Int} {L:List Gr.Ni} {R:Int} {f:Nat} (h:replL is root root ws rw'=((L,R),f)) (hf:f=0):L=ws/\R=rw':=by
 subst hf;by_cases h0:checkI sclX is root≠0\/checkI sclX ws rw'≠0
 .rw[zed h0]at h;cases h
 .have d:checkI sclX is root=0:=by omega
  have g:checkI sclX ws rw'=0:=by omega
  obtain⟨r,rfl,b,_⟩:=Gr.za5 zaw d;obtain⟨q,rfl,a,c,_⟩:=Gr.za5 zaw g;have e:=b.root;have i:=a.root;rw[K0]at e i;rw[zh0 d g e]at h;split at h
  .cases h
  .rw[K6,K6,zoa b.refs a.refs i (fun v hv=>a.all v (by rwa[K0]))]at h;split at h
   .rename_i hc;injection h with _ h
    exact absurd h hc
   .injection h with h _
    injection h with e1 e2
    exact⟨e1.symm.trans (Gr.zzv (za1 c).1),e2.symm⟩
def setI (n:Gr.Nd) (b:Bool) (l:List Nat):Gr.Nd:=⟨n.kind,n.text,n.ord,if b then n.keys else l,if b then l else n.items⟩
theorem zoj (ns:List Gr.Nd) (j:Nat) (b:Bool) (l:List Nat) (hj:j<ns.length) (j':Nat) (b':Bool):intsOf (ns.set j (setI ns[j] b l)) j' b'=if j'=j/\b'=b then l else intsOf ns j' b':=by
 unfold intsOf setI;by_cases he:j'=j
 .subst he;cases b<;>cases b'<;>simp[hj]
 .rw[if_neg (show¬(j'=j/\b'=b)from fun h=>he h.1),List.getElem?_set_ne (fun e=>he e.symm)]
theorem Tab.setInt {B:Nat} {w:World} {v:Value} {vs:List NV} {ns:List Gr.Nd} (h:Tab B w v vs ns) (j:Nat) (b:Bool) (k:Nat) (hj:j<ns.length) (hk:k<(intsOf ns j b).length):
 ∃g,(ints vs j b).v=.slice (some ⟨g,0,none⟩) (intsOf ns j b).length (ints vs j b).c/\B<=g/\(∀i (hi:i<(intsOf ns j b).length),w.cell? ⟨g,i,none⟩=some (.int .i64 ((intsOf ns j b)[i]:Int)))/\(∀i,w.frozen? ⟨g,i,none⟩=false)/\
  ∀y:Nat,Tab B (w.setCell ⟨g,k,none⟩ (.int .i64 (y:Int))) v vs (ns.set j (setI ns[j] b ((intsOf ns j b).set k y))):=by
 obtain⟨g,o,rest,n,hcap,m,r,a⟩:=(h.rows.own j b).row (by intro e;rw[e]at hk;simp at hk);have z:o=(ints vs j b).c:=by unfold SV.v at n;injection n with _ _ e;exact e.symm
 subst z;have f:∀i (hi:i<(intsOf ns j b).length),w.cell? ⟨g,i,none⟩=some (.int .i64 ((intsOf ns j b)[i]:Int)):=fun i hi=>by
  have l:=intL.all_at (intsOf ns j b) i (intsOf ns j b)[i] (K1 hi) 0 _ rfl;rw[m.cell,List.getElem?_toArray,Y1 (by rw[intL.all_len];show i<(intsOf ns j b).length*1;omega)];have e:i*intL.sz+0=i:=by show i*1+0=i;omega
  rw[e]at l;exact l
 refine⟨g,n,r,f,m.frozen,fun y=>?_⟩;have x:=zev intL m k 0 y (.int .i64 (y:Int)) hk (by decide) rfl;have e:k*intL.sz+0=k:=by show k*1+0=k;omega
 rw[e]at x;have q:(ints vs j b).v.ownBlock=some g:=by rw[n];rfl
 refine⟨h.row.setCell (fun e=>by obtain⟨cs,u⟩:=h.row.blk g e;exact Blk.ne_ (t:=37) u m (by decide) rfl) _,by rw[U8];exact h.rows.len,fun d l A=>?_,fun d s=>?_,h.rows.apart⟩
 .have p:d<ns.length:=by simpa using A
  have:=h.rows.kind d l p;by_cases he:j=d
  .subst he;rw[X9];exact this
  .rw[List.getElem_set_ne he];exact this
 .rw[zoj ns j b _ hj];by_cases he:d=j/\s=b
  .rw[if_pos he,he.1,he.2];exact a _ _ (by simp) x
  .rw[if_neg he];exact(h.rows.own d s).setCell (fun e=>he (h.rows.apart d s j b g e q)) _
def prL (f:Nat->Nat) (l:List Nat) (k:Nat):List Nat:=(l.take k).map f++l.drop k
theorem zh2 (f:Nat->Nat) (l:List Nat) (k:Nat):(prL f l k).length=l.length:=by unfold prL;simp;omega
theorem z0d (f:Nat->Nat) (l:List Nat):prL f l 0=l:=by unfold prL;simp
theorem zyf (f:Nat->Nat) (l:List Nat):prL f l l.length=l.map f:=by unfold prL;simp
theorem zsu (f:Nat->Nat) (l:List Nat) (k:Nat) (h:k<l.length):(prL f l k)[k]'(by rw[zh2];exact h)=l[k]:=by
 unfold prL;rw[K7 (by simp;omega)];simp[X1 (X7 h)]
theorem zsv (f:Nat->Nat) (l:List Nat) (k:Nat) (h:k<l.length):(prL f l k).set k (f l[k])=prL f l (k+1):=by
 have e:((l.take k).map f).length=k:=by simp;omega
 unfold prL;rw[X8 _ _ (by omega),e,V4,X2 h,U2,K5 h,Q4,Y2];rfl
theorem zh3 (f:Nat->Nat) (l:List Nat) (k:Nat) (h:k<l.length) (hf:f l[k]=l[k]):prL f l k=prL f l (k+1):=by
 rw[<-zsv f l k h,hf];have e:=zsu f l k h;rw[<-e,List.set_getElem_self]
def midN (f:Gr.Nd->Gr.Nd) (gs:List Gr.Nd) (T:List Gr.Nd) (i:Nat):List Gr.Nd:=(gs.take i).map f++gs.drop i++T
theorem zh4 (f:Gr.Nd->Gr.Nd) (gs T:List Gr.Nd) (i:Nat):(midN f gs T i).length=gs.length+T.length:=by unfold midN;simp;omega
theorem zmc (f:Gr.Nd->Gr.Nd) (gs T:List Gr.Nd) (i:Nat) (h:i<gs.length):(midN f gs T i)[i]'(by rw[zh4];omega)=gs[i]:=by
 unfold midN;rw[K8 (by simp;omega),K7 (by simp;omega)];simp[X1 (X7 h)]
theorem zmd (f:Gr.Nd->Gr.Nd) (gs T:List Gr.Nd) (i:Nat) (h:i<gs.length):(midN f gs T i).set i (f gs[i])=midN f gs T (i+1):=by
 have e:((gs.take i).map f).length=i:=by simp;omega
 unfold midN;rw[Y2,X8 _ _ (by omega),e,V4,X2 h,List.cons_append,U2,K5 h,Q4,Y2,Y2];rfl
theorem zvf (f:Gr.Nd->Gr.Nd) (gs T:List Gr.Nd):midN f gs T gs.length=gs.map f++T:=by unfold midN;simp
theorem zef (M:List Gr.Nd) (i:Nat) (b:Bool) (m:Gr.Nd) (l:List Nat) (hi:i<M.length):intsOf (M.set i (setI m b l)) i b=l:=by
 unfold intsOf setI;cases b<;>simp[hi]
theorem zsw (n:Gr.Nd) (b:Bool) (l l':List Nat):setI (setI n b l) b l'=setI n b l':=by cases b<;>rfl
theorem Tab.ren {B:Nat} {w:World} {v:Value} {vs:List NV} {M:List Gr.Nd} {m:Gr.Nd} {f:Nat->Nat} {l:List Nat} {i k:Nat} {b:Bool} (hi:i<M.length) (h:Tab B w v vs (M.set i (setI m b (prL f l k)))) (hk:k<l.length):
 ∃g c,(ints vs i b).v=.slice (some ⟨g,0,none⟩) l.length c/\B<=g/\w.cell? ⟨g,k,none⟩=some (.int .i64 (l[k]:Int))/\(∀j,w.frozen? ⟨g,j,none⟩=false)/\
  (∃cs,Blk w g 3 cs)/\Tab B (w.setCell ⟨g,k,none⟩ (.int .i64 (f l[k]:Int))) v vs (M.set i (setI m b (prL f l (k+1)))):=by
 have a:=zef M i b m (prL f l k) hi;have d:=zh2 f l k;obtain⟨g,e,r,o,p,t⟩:=h.setInt i b k (by rw[U8];exact hi) (by rw[a,d];exact hk);have q:=(h.rows.own i b).blk g (by rw[show(ints vs i b).v=_ from e];rfl);have n:=o k (by rw[a,d];exact hk);have s:(intsOf (M.set i (setI m b (prL f l k))) i b)[k]'(by rw[a,d];exact hk)=l[k]:=by
  simp only[a];exact zsu f l k hk
 rw[s]at n;refine⟨g,_,by rw[e,a,d],r,n,p,q,?_⟩;have:=t (f l[k]);rw[a,zsv f l k hk,List.set_set,X9,zsw]at this;exact this
def stN (f:Nat->Nat) (n:Gr.Nd) (b:Nat):Gr.Nd:=if b=0 then n else if b=1 then⟨n.kind,n.text,n.ord,n.keys.map f,n.items⟩else⟨n.kind,n.text,n.ord,n.keys.map f,n.items.map f⟩
def rowN (n:Gr.Nd) (b:Bool):List Nat:=if b then n.items else n.keys
theorem zzw (f:Nat->Nat) (n:Gr.Nd):stN f n 0=n:=rfl
theorem zf3 (f:Nat->Nat) (n:Gr.Nd) (b:Nat) (hb:b<2):setI (stN f n b) (b==1) (prL f (rowN n (b==1)) 0)=stN f n b:=by
 rw[z0d];have h:b=0\/b=1:=by omega
 rcases h with rfl|rfl<;>rfl
theorem zh5 (f:Nat->Nat) (n:Gr.Nd) (b:Nat) (hb:b<2):setI (stN f n b) (b==1) (prL f (rowN n (b==1)) (rowN n (b==1)).length)=stN f n (b+1):=by
 rw[zyf];have h:b=0\/b=1:=by omega
 rcases h with rfl|rfl<;>rfl
theorem zf4 (M:List Gr.Nd) (i:Nat) (b:Bool) (hi:i<M.length):intsOf M i b=rowN M[i] b:=by
 unfold intsOf rowN;rw[K1 hi]
theorem zyg (f:Nat->Nat) (n:Gr.Nd) (b:Nat) (hb:b<2):rowN (stN f n b) (b==1)=rowN n (b==1):=by
 have h:b=0\/b=1:=by omega
 rcases h with rfl|rfl<;>rfl
theorem SV.is {w:World} {B:Nat} {vs:List NV} {ns:List Gr.Nd} {v:Value} (h:Tab B w v vs ns) (i:Nat) (b:Bool):∃a c,(ints vs i b).v=.slice a (intsOf ns i b).length c:=by
 have:=(SV.row (h.rows.own i b)).2;exact⟨_,_,by unfold SV.v;rw[this]⟩
theorem Tab.nodeV {B:Nat} {w:World} {v:Value} {vs:List NV} {ns:List Gr.Nd} (h:Tab B w v vs ns) {i:Nat} (hi:i<ns.length):
 ∃ad c,v=.slice (some ad) ns.length c/\w.cell? {block:=(ad.add (i*5)).block,off:=(ad.add (i*5)).off+3}=some (ints vs i false).v/\w.cell? {block:=(ad.add (i*5)).block,off:=(ad.add (i*5)).off+4}=some (ints vs i true).v:=by
 obtain⟨A,c,j,f⟩:=h.row.form;have b:=h.rows.len;have a:i<vs.length:=by omega
 obtain⟨ad,d,_,_,_,_,e,g⟩:=zj4 f a;subst d;refine⟨ad,c,by rw[j,b],?_,?_⟩
 .unfold ints;rw[K1 a];exact e
 .unfold ints;rw[K1 a];exact g
theorem Tab.nodeA {B n c:Nat} {ad:Addr} {w:World} {vs:List NV} {ns:List Gr.Nd} (h:Tab B w (.slice (some ad) n c) vs ns) {i:Nat} (hi:i<ns.length):
 w.cell? {block:=(ad.add (i*5)).block,off:=(ad.add (i*5)).off+3}=some (ints vs i false).v/\w.cell? {block:=(ad.add (i*5)).block,off:=(ad.add (i*5)).off+4}=some (ints vs i true).v:=by
 obtain⟨a,c',f,b,d⟩:=h.nodeV hi;obtain rfl:ad=a:=by injection f with e;injection e
 exact⟨b,d⟩
structure Box3 (gb:Nat) (a b c:Array Value) (W:World):Prop where
 b1:Blk W gb 24 a
 b2:Blk W (gb+1) 24 b
 b3:Blk W (gb+2) 24 c
theorem Box3.below {gb B:Nat} {a b c:Array Value} {W W':World} (h:Box3 gb a b c W) (hb:Below B W W') (hB:gb+3<=B):Box3 gb a b c W':=⟨h.b1.below hb (by omega),h.b2.below hb (by omega),h.b3.below hb (by omega)⟩
theorem Box3.lt {gb:Nat} {a b c:Array Value} {W:World} (h:Box3 gb a b c W):gb+3<=W.heap.size:=h.b3.lt
theorem Box3.later {gb:Nat} {a b c:Array Value} {W W':World} (h:Box3 gb a b c W) (hb:Below W.heap.size W W'):Box3 gb a b c W':=h.below hb h.lt
theorem Box3.new {w w1:World} {gb:Nat} {a b c:Array Value} (hg:w.heap.size=gb) (h:((w.alloc (.cells a 24)).alloc (.cells b 24)).alloc (.cells c 24)=w1):Box3 gb a b c w1/\Below gb w w1/\w1.heap.size=gb+3:=by
 subst hg;subst h;refine⟨⟨((Q1 _ _ _).alloc _).alloc _,?_,?_⟩,((((K3 _ _).alloc (K4 _) _).alloc (by simp) _).alloc (by simp;omega) _),by simp⟩
 .have:=(Q1 (w.alloc (.cells a 24)) 24 b).alloc (.cells c 24);rwa[K9]at this
 .have:=Q1 ((w.alloc (.cells a 24)).alloc (.cells b 24)) 24 c;rwa[K9,K9]at this
theorem Box3.zero {gb:Nat} {a b:Array Value} {W:World} (h:Box3 gb a b #[.slice none 0 0,.int .i64 0] W):W.cell? ⟨gb+2,0,none⟩=some (.slice none 0 0)/\W.cell? ⟨gb+2,1,none⟩=some (.int .i64 0)/\∀i,W.frozen? ⟨gb+2,i,none⟩=false:=⟨h.b3.cell 0,h.b3.cell 1,h.b3.frozen⟩
theorem zbh {gb:Nat} {w W:World} (no:Nat) (hg:w.heap.size=gb) (h:Below gb w W):ResR (([],0),no) w (.returned (.tuple #[gZero,.int .i64 (no:Nat)])) ((W.setCell ⟨gb+2,0,none⟩ (.slice none 0 0)).setCell ⟨gb+2,1,none⟩ (.int .i64 0)):=
 ResR.zero no (by rw[hg];exact(h.setCell (by simp) _).setCell (by simp) _)
theorem zsy {F:FuncId} {args:Array Value} {A:Option Addr} {n c chk:Nat} {root:Int} {w:World} (h:Calls Tryz.prog F args w fun e w'=>e=.returned (.tuple #[if chk=0 then .agg #[.slice A n c,.int .i64 root]else gZero,.int .i64 (chk:Nat)])/\Below w.heap.size w w'):
 Calls Tryz.prog F args w fun e w'=>Below w.heap.size w w'/\∃A4 n4 c4 r4,e=.returned (.tuple #[.agg #[.slice A4 n4 c4,.int .i64 r4],.int .i64 (chk:Nat)])/\Hid ((chk=0->A4=A/\n4=n/\c4=c/\r4=root)/\(chk≠0->A4=none/\n4=0/\c4=0/\r4=0)):=by
 refine h.mono ?_;rintro e w' ⟨rfl,a⟩;refine⟨a,?_⟩;by_cases h0:chk=0
 .exact⟨A,n,c,root,by rw[if_pos h0],Lib.hid ⟨fun _=>⟨rfl,rfl,rfl,rfl⟩,fun h=>absurd h0 h⟩⟩
 .exact⟨none,0,0,0,by rw[if_neg h0];rfl,Lib.hid ⟨fun h=>absurd h h0,fun _=>⟨rfl,rfl,rfl,rfl⟩⟩⟩
theorem zmf {J:List Gr.Nd} {r n4 chk:Nat} {w wk wz:World} {A2 A4:Option Addr} {c2 c4:Nat} {r4:Int} {vs2:List NV} (hK:∀W',KeptT 37 wk W'->KeptT 3 wk W'->GAt W' W'.heap.size A2 vs2 (Q6 J (marks J r)))
 (hc:checkG sclX (Q6 J (marks J r)) ((X4 (marks J r)).getD r 0)=chk) (hz:(chk=0->A4=A2/\n4=(Q6 J (marks J r)).length/\c4=c2/\r4=(((X4 (marks J r)).getD r 0:Nat):Int))/\(chk≠0->A4=none/\n4=0/\c4=0/\r4=0))
 (hb:Below w.heap.size w wz) (hkt:∀t,t≠24->KeptT t wk wz):ResR (endL J r) w (.returned (.tuple #[.agg #[.slice A4 n4 c4,.int .i64 r4],.int .i64 (chk:Nat)])) wz:=by
 unfold endL;rw[hc];by_cases h0:chk=0
 .obtain⟨rfl,rfl,rfl,rfl⟩:=hz.1 h0;rw[if_neg (fun h=>h h0)];subst h0;refine⟨hb,A4,c4,vs2,by rw[K0],fun W' a b=>?_⟩;exact(hK W' ((hkt _ (by decide)).trans a) ((hkt _ (by decide)).trans b)).toI
 .obtain⟨rfl,rfl,rfl,rfl⟩:=hz.2 h0;rw[if_pos h0];exact ResR.zero chk hb
structure ReplG (gs hs:List Gr.Nd) (r q:Nat):Prop where
 rf:Refs gs
 rr:r<gs.length
 wf:WellF hs q
 gl:gs.length<=40
 hl:hs.length<=40
 ge:∀n∈gs,n.keys.length<=1000/\n.items.length<=1000/\n.text.length<=1000
 he:∀n∈hs,n.keys.length<=1000/\n.items.length<=1000/\n.text.length<=1000
theorem ReplG.join {gs hs:List Gr.Nd} {r q:Nat} (G:ReplG gs hs r q) (k:Nat):Refs (Gr.joinN gs hs k (q+gs.length))/\Gr.rpl k (q+gs.length) r<(Gr.joinN gs hs k (q+gs.length)).length/\(Gr.joinN gs hs k (q+gs.length)).length=gs.length+hs.length/\∀n∈Gr.joinN gs hs k (q+gs.length),n.keys.length<=1000/\n.items.length<=1000/\n.text.length<=1000:=by
 have a:=Gr.zez gs hs k (q+gs.length);have:=G.rr;have:=G.wf.root;refine⟨Gr.zfy G.rf G.wf.refs G.wf.root,by rw[a];unfold Gr.rpl;split<;>omega,a,fun x c=>?_⟩;rcases Y9.1 c with h|h
 .obtain⟨y,b,rfl⟩:=K2.1 h;have:=G.ge y b;simp only[Gr.rpN,K0];omega
 .obtain⟨y,b,rfl⟩:=K2.1 h;have:=G.he y b;simp only[shN,K0];omega
theorem shN00 (l:List Gr.Nd):l.map (shN 0)=l:=by
 conv=>rhs;rw[<-Y8 l]
 exact Q8 (fun x _=>by unfold shN;simp)
abbrev PRel (tb:Nat) (wy W:World) (ad:Addr) (n8 c8:Nat) (vs8:List NV) (M:List Gr.Nd) (lb:Nat) (x y:Value):Prop:=Tab tb W (.slice (some ad) n8 c8) vs8 M/\Below tb wy W/\Blk W lb 35 #[x,y]
theorem zjz (gs hs:List Gr.Nd) (k q:Nat):midN (Gr.rpN k q) gs (hs.map (shN gs.length)) gs.length=Gr.joinN gs hs k q:=zvf _ _ _
theorem zvh (l:List Nat) (p:Nat->Bool) (k:Nat) (h:k<l.length):(l.take (k+1)).any p=((l.take k).any p || p l[k]):=by
 rw[K5 h,List.any_append];simp
theorem zok (A:Option Addr) (c root:Nat) (vs:List NV) (ns:List Gr.Nd) (hr:Refs ns) (hl:ns.length<=1000) (hks:∀n∈ns,n.keys.length<=1000/\n.items.length<=1000) (ha:root<ns.length) (w:World) (h:GAt w w.heap.size A vs ns):
 Calls prog 16 #[.agg #[.slice A ns.length c,.int .i64 root]] w fun e w'=>e=.returned (.bool (U0 ns root))/\Below w.heap.size w w':=by
 have H:Hid (∀W,Below w.heap.size w W->Calls prog 32 #[.agg #[.slice A ns.length c,.int .i64 root]] W fun e w'=>∃ob,e=.returned (.slice (some ⟨ob,0,none⟩) ns.length ns.length)/\W.heap.size<=ob/\Below W.heap.size W w'/\Blk w' ob 3 (icells (counts ns root))):=hid (fun W K=>
  zgg A c root vs ns hr (by omega) (fun n r=>by have:=hks n r;omega) (by
   have:(Gr.refs ns).length<=ns.length*2000:=by
    clear h hr ha hl;unfold Gr.refs
    induction ns with
    |nil=>simp
    |cons x l ih=>
     have m:=hks x List.mem_cons_self;have h2:=ih (fun n r=>hks n (List.mem_cons_of_mem _ r));simp only[List.flatMap_cons,Q9,List.length_cons];omega
   omega) W ((h.below K).more K.size) ha)
 have d:=hid (Gr.zeb ns root);obtain⟨N,o⟩:=ex ns.length
 have E:Hid (U0 ns root=(counts ns root).any (fun n=>decide (1<n))):=hid rfl;obtain⟨C,k⟩:=ex (counts ns root)
 rw[o,k]at H;rw[k]at E;rw[k,o]at d;rw[o];have hNb:N<=1000:=by omega
 clear h hr hks ha k o hl;go_enter func16,ntmps16;go_upto_region 1 with fail;obtain⟨y,b⟩:=ex (w.alloc (.cells #[.slice A N c,.int .i64 root] 24))
 have I:Below w.heap.size w y:=by rw[<-b];exact(K3 _ _).alloc (K4 _) _
 have G:Blk y w.heap.size 24 #[.slice A N c,.int .i64 root]:=by rw[<-b];exact Q1 _ _ _
 obtain⟨T,S⟩:=cells2 G;have s:=hid I;(try rw[b]);clear b I G;go_wp2_with fail;refine(H.out y s.out).mono ?_;rintro e u ⟨ob,rfl,z,i,L⟩;have O:Hid (Below w.heap.size w u):=hid (s.out.trans (i.mono s.out.size));have J:=hid L;clear i L z T S;go_upto_region 2 with fail;go_loopw [8] (fun s8 wr=>∃j:Nat,j<=N/\s8=.int .i64 j/\Hid (Below u.heap.size u wr/\(C.take j).any (fun n=>decide (1<n))=false)) (fun s8 _=>N-(intOf s8).toNat)
 case atStart=>exact⟨0,by omega,rfl,hid ⟨K3 _ _,rfl⟩⟩
 case round=>
  obtain⟨j,hj,rfl,f⟩:=hrel;obtain⟨p,B⟩:∃p,p=wr:=⟨_,rfl⟩
  subst B;have M:Hid (Below w.heap.size w p):=hid (O.out.trans (f.out.1.mono O.out.size));by_cases hlt:j<N
  .have g:(j:Int)<(N:Int):=by omega
   have a:j<C.length:=by rw[d.out];exact hlt
   obtain⟨v,q⟩:=ex (C[j])
   have z0:p.cell? ⟨ob,j,none⟩=some (.int .i64 (v:Int)):=by rw[(J.out.below f.out.1 J.out.lt).cell,zaa a,Q2,K1 a,q];rfl
   have Q:Hid ((C.take (j+1)).any (fun n=>decide (1<n))=decide (1<v)):=hid (by rw[zvh _ _ _ a,f.out.2,q];rfl);have P:Hid (1<v->C.any (fun n=>decide (1<n))=true):=hid (fun h=>List.any_eq_true.2 ⟨_,Q3 a,by rw[q];exact qqk h⟩);clear q a;by_cases m:1<v
   .have D:(1:Int)<(v:Int):=by omega
    have t:=hid (P.out m);go_wp2;go_ret;exact⟨by rw[E.out,t.out];rfl,M.out⟩
   .have D:¬(1:Int)<(v:Int):=by omega
    have F:Hid ((C.take (j+1)).any (fun n=>decide (1<n))=false):=hid (by rw[Q.out];exact qqx m);clear m;go_wp2;go_roundw
    case rel=>exact⟨j+1,by omega,by go_num,hid ⟨f.out.1,F.out⟩⟩
    case measure=>simp[intOf];omega
  .have g:¬(j:Int)<(N:Int):=by omega
   have R:Hid (C.any (fun n=>decide (1<n))=false):=hid (by have:=f.out.2;rwa[Q5 (by rw[d.out];omega)]at this);go_wp2;go_ret;exact⟨by rw[E.out,R.out];rfl,M.out⟩
theorem zsz (A:Option Addr) (c root:Nat) (vs:List NV) (ns:List Gr.Nd) (hw:WellF ns root) (hl:ns.length<=1000) (hks:∀n∈ns,n.keys.length<=1000/\n.items.length<=1000) (w:World) (h:GAt w w.heap.size A vs ns):
 Calls prog 22 #[.agg #[.slice A ns.length c,.int .i64 root]] w fun e w'=>e=.returned (.bool (!U0 ns root))/\Below w.heap.size w w':=by
 have D:Hid (∀W,Below w.heap.size w W->Calls prog 40 #[.agg #[.slice A ns.length c,.int .i64 root]] W fun e w'=>∃ob,e=.returned (.slice (some ⟨ob,0,none⟩) ns.length ns.length)/\W.heap.size<=ob/\Below W.heap.size W w'/\Blk w' ob 3 (icells (counts ns root))):=hid (fun W G=>
  zfx A c root vs ns hw.refs hl hks hw.root W ((h.below G).more G.size))
 have d:=hid (Gr.zeb ns root);have y:=hid (Gr.zuy hw);obtain⟨N,l⟩:=ex ns.length
 obtain⟨C,k⟩:=ex (counts ns root)
 rw[l,k]at D;rw[k]at y;rw[k,l]at d;rw[<-y.out,l];have hNb:N<=1000:=by omega
 clear h hks k l hl hw y;go_enter func22,ntmps22;go_upto_region 1 with fail;obtain⟨t,b⟩:=ex (w.alloc (.cells #[.slice A N c,.int .i64 root] 24))
 have E:Below w.heap.size w t:=by rw[<-b];exact(K3 _ _).alloc (K4 _) _
 have B:Blk t w.heap.size 24 #[.slice A N c,.int .i64 root]:=by rw[<-b];exact Q1 _ _ _
 obtain⟨P,O⟩:=cells2 B;have q:=hid E;(try rw[b]);clear b E B;go_wp2_with fail;refine(D.out t q.out).mono ?_;rintro e s ⟨ob,rfl,u,i,H⟩;have J:Hid (Below w.heap.size w s):=hid (q.out.trans (i.mono q.out.size));have F:=hid H;clear i H u P O;go_upto_region 3 with fail;go_loopw [4] (fun s4 wr=>∃j:Nat,j<=N/\s4=.int .i64 j/\Hid (Below s.heap.size s wr/\(C.take j).all (fun n=>n==1)=true)) (fun s4 _=>N-(intOf s4).toNat)
 case atStart=>exact⟨0,by omega,rfl,hid ⟨K3 _ _,rfl⟩⟩
 case round=>
  obtain⟨j,hj,rfl,f⟩:=hrel;obtain⟨m,x⟩:∃m,m=wr:=⟨_,rfl⟩
  subst x;have I:Hid (Below w.heap.size w m):=hid (J.out.trans (f.out.1.mono J.out.size));by_cases hlt:j<N
  .have g:(j:Int)<(N:Int):=by omega
   have a:j<C.length:=by rw[d.out];exact hlt
   obtain⟨v,o⟩:=ex (C[j])
   have z0:m.cell? ⟨ob,j,none⟩=some (.int .i64 (v:Int)):=by rw[(F.out.below f.out.1 F.out.lt).cell,zaa a,Q2,K1 a,o];rfl
   have L:Hid ((C.take (j+1)).all (fun n=>n==1)=(v==1)):=hid (by rw[K5 a,X0,f.out.2,o];simp);have K:Hid (v≠1->C.all (fun n=>n==1)=false):=hid (fun h=>List.all_eq_false.2 ⟨_,Q3 a,by rw[o];simpa using h⟩);clear o a;by_cases h1:v=1
   .have z:Hid ((C.take (j+1)).all (fun n=>n==1)=true):=hid (by rw[L.out,h1];rfl);subst h1;have p:(((1:Nat):Int) != 1)=false:=rfl;go_wp2;go_roundw
    case rel=>exact⟨j+1,by omega,by go_num,hid ⟨f.out.1,z.out⟩⟩
    case measure=>simp[intOf];omega
   .have p:((v:Int) != 1)=true:=by rw[bne_iff_ne];omega
    have r:=hid (K.out h1);clear h1;go_wp2;go_ret;exact⟨by rw[r.out];rfl,I.out⟩
  .have g:¬(j:Int)<(N:Int):=by omega
   have M:Hid (C.all (fun n=>n==1)=true):=hid (by have:=f.out.2;rwa[Q5 (by rw[d.out];omega)]at this);go_wp2;go_ret;exact⟨by rw[M.out];rfl,I.out⟩
def RCkOk (w:World) (g:Value) (chk:Nat):Prop:=∀W,Below w.heap.size w W->Calls Tryz.prog 20 #[g] W fun e w'=>e=.returned (.int .i64 (chk:Nat))/\Below W.heap.size W w'
theorem RCkOk.later {w w':World} {g:Value} {chk:Nat} (h:RCkOk w g chk) (hb:Below w.heap.size w w'):RCkOk w' g chk:=fun W a=>h W (hb.trans (a.mono hb.size))
theorem zvi (sclr:Int->Gr.Str->Bool) (ns:List Gr.Nd) (root:Nat) (hr:Refs ns) (hroot:root<ns.length):checkI sclr (ns.map Gr.Nd.ni) (root:Int)=checkG sclr ns root:=by
 unfold checkI checkG;rw[K0,zju,zsd ns root hr hroot];by_cases h1:ns.length>4096
 .rw[if_pos h1,if_pos h1]
 .rw[if_neg h1,if_neg h1,if_neg (by simp;intro e;rw[e]at hroot;simp at hroot),K6]
theorem zzx (A:Option Addr) (c:Nat) (root:Int) (vs:List NV) (is:List Gr.Ni) (hl:is.length<=1000) (hks:∀n∈is,n.keys.length<=1000/\n.items.length<=1000/\n.text.length<=1000) (w:World) (h:IAt w w.heap.size A vs is):RCkOk w (.agg #[.slice A is.length c,.int .i64 root]) (checkI sclX is root):=fun W a=>by
 rw[<-zfl sclX zaw];exact zgx A c root vs is hl hks W ((h.below a).more a.size)
theorem z0e {ns:List Gr.Nd} {root:Nat} (hr:Refs ns) (h0:root<ns.length) (hl:ns.length<=1000) (hks:∀n∈ns,n.keys.length<=1000/\n.items.length<=1000/\n.text.length<=1000) (A:Option Addr) (c:Nat) (vs:List NV) (W:World) (hG:GAt W W.heap.size A vs ns):
 RCkOk W (.agg #[.slice A ns.length c,.int .i64 (root:Nat)]) (checkG sclX ns root):=fun b a=>by
 have:=zgx A c root vs (ns.map Gr.Nd.ni) (by simpa using hl) (fun n d=>by
  obtain⟨x,e,rfl⟩:=K2.1 d;have:=hks x e;simp only[Gr.Nd.ni,K0];omega) b ((hG.below a).more a.size).toI
 rw[zfl sclX zaw,zvi sclX ns root hr h0,K0]at this;exact this
theorem zs2 (A:Option Addr) (n c:Nat) (root:Int) (chk:Nat) (w:World) (h:RCkOk w (.agg #[.slice A n c,.int .i64 root]) chk):
 Calls prog 24 #[.agg #[.slice A n c,.int .i64 root]] w fun e w'=>e=.returned (.tuple #[if chk=0 then .agg #[.slice A n c,.int .i64 root]else gZero,.int .i64 (chk:Nat)])/\Below w.heap.size w w':=by
 have z:=hid h;clear h;go_enter func24,ntmps24;go_upto_region 1 with fail;obtain⟨l,b⟩:=ex ((w.alloc (.cells #[.slice A n c,.int .i64 root] 24)).alloc (.cells #[.slice none 0 0,.int .i64 0] 24))
 obtain⟨m,a⟩:=ex w.heap.size
 have r:Blk l m 24 #[.slice A n c,.int .i64 root]:=by rw[<-b,<-a];exact(Q1 _ _ _).alloc _
 have y:Blk l (m+1) 24 #[.slice none 0 0,.int .i64 0]:=by rw[<-b,<-a];have:=Q1 (w.alloc (.cells #[.slice A n c,.int .i64 root] 24)) 24 #[.slice none 0 0,.int .i64 0];rwa[K9]at this
 have t:Below m w l:=by rw[<-b,<-a];exact((K3 _ _).alloc (K4 _) _).alloc (by simp) _
 have u:=hid t;have o:=hid a;have s:Hid (RCkOk l (.agg #[.slice A n c,.int .i64 root]) chk):=hid (z.out.later (by rw[a];exact t));have g:=hid r;have j:=hid y;obtain⟨B,C⟩:=cells2 r;(try rw[b]);(try rw[a]);clear b a r y t;go_wp2_with fail;refine(s.out l (K3 _ _)).mono ?_;rintro e x ⟨rfl,f⟩;have p:=g.out.below f g.out.lt;have d:=j.out.below f j.out.lt;have q:Hid (Below m w x):=hid (u.out.trans (f.mono (by have:=g.out.lt;omega)));obtain⟨k0,k1⟩:=cells2 p;obtain⟨d0,d1⟩:=cells2 d;have df:∀i,x.frozen? ⟨m+1,i,none⟩=false:=d.frozen;have k:=hid d;clear f p d B C;by_cases h0:chk=0
 .subst h0;go_wp2_with fail;have e0:=((k.out.set_ 0 (.slice A n c)).set_ 1 (.int .i64 root)).cell 0;have e1:=((k.out.set_ 0 (.slice A n c)).set_ 1 (.int .i64 root)).cell 1;refine bodyPost_ret (v:=.tuple #[.agg #[.slice A n c,.int .i64 root],.int .i64 0]) (by rw[results_cell_tmp rfl];go_simp) rfl ⟨rfl,?_⟩;rw[o.out];exact(q.out.setCell (by simp) _).setCell (by simp) _
 .have h0I:((chk:Int)==0)=false:=by rw[qqq];omega
  go_wp2_with fail;refine bodyPost_ret (v:=.tuple #[gZero,.int .i64 chk]) (by rw[results_cell_tmp rfl];go_simp;rfl) rfl ⟨by first|rfl|rw[if_neg h0],?_⟩;rw[o.out];exact(q.out.setCell (by simp) _).setCell (by simp) _
theorem zmg (vs us:List NV) (j:Nat) (b:Bool):ints (vs++us) j b=if j<vs.length then ints vs j b else ints us (j-vs.length) b:=by
 unfold ints;by_cases h:j<vs.length
 .rw[if_pos h,Y1 h]
 .rw[if_neg h,Y0 (by omega)]
theorem zon (vs us:List Gr.Nd) (j:Nat) (b:Bool):intsOf (vs++us) j b=if j<vs.length then intsOf vs j b else intsOf us (j-vs.length) b:=by
 unfold intsOf;by_cases h:j<vs.length
 .rw[if_pos h,Y1 h]
 .rw[if_neg h,Y0 (by omega)]
theorem Rows.join {B:Nat} {w:World} {vs us:List NV} {ns ms:List Gr.Nd} (h:Rows B w vs ns) (h2:Rows B w us ms) (hd:∀j b j' b' g,(ints vs j b).v.ownBlock=some g->(ints us j' b').v.ownBlock=some g->False):Rows B w (vs++us) (ns++ms):=by
 have d:=h.len;have e:=h2.len;refine⟨by simp[d,e],fun j f i=>?_,fun j b=>?_,fun j b j' b' g c a=>?_⟩
 .by_cases hj:j<vs.length
  .rw[K8 hj,K8 (by omega)];exact h.kind j hj (by omega)
  .rw[K7 (by omega),K7 (by omega)];simp only[d];exact h2.kind _ (by rw[Q9]at f;omega) (by rw[Q9]at i;omega)
 .rw[zmg,zon,<-d];by_cases hj:j<vs.length
  .rw[if_pos hj,if_pos hj];exact h.own j b
  .rw[if_neg hj,if_neg hj];exact h2.own _ b
 .rw[zmg]at c a;by_cases hj:j<vs.length
  .rw[if_pos hj]at c;by_cases hj':j'<vs.length
   .rw[if_pos hj']at a;exact h.apart j b j' b' g c a
   .rw[if_neg hj']at a;exact(hd _ _ _ _ g c a).elim
  .rw[if_neg hj]at c;by_cases hj':j'<vs.length
   .rw[if_pos hj']at a;exact(hd _ _ _ _ g a c).elim
   .rw[if_neg hj']at a;have:=h2.apart _ b _ b' g c a;exact⟨by omega,this.2⟩
theorem Tab.lower {B B':Nat} {w:World} {v:Value} {vs:List NV} {ns:List Gr.Nd} (h:Tab B' w v vs ns) (hB:B<=B'):Tab B w v vs ns:=
 ⟨h.row.lower hB,h.rows.len,h.rows.kind,fun j b=>(h.rows.own j b).lower hB,h.rows.apart⟩
structure TwoT (tb:Nat) (w6 X:World) (A5:Option Addr) (n c5:Nat) (us5:List NV) (gs:List Gr.Nd) (A6:Option Addr) (c6:Nat) (us6:List NV) (T:List Gr.Nd):Prop where
 t1:Tab tb X (.slice A5 n c5) us5 gs
 t2:Tab tb X (.slice A6 us6.length c6) us6 T
 dis:∀j b j' b' g,(ints us5 j b).v.ownBlock=some g->(ints us6 j' b').v.ownBlock=some g->False
 lo:Below tb w6 X
 hs:tb<=X.heap.size
section
variable {tb n c5 c6:Nat} {w6 W1 W2 wa wb X w2:World} {A5 A6:Option Addr} {us5 us6:List NV} {gs T:List Gr.Nd}
theorem TwoT.o12 (ht1:Tab W1.heap.size wa (.slice A5 n c5) us5 gs) (hb1:Below W1.heap.size W1 wa) (ht2:Tab W2.heap.size wb (.slice A6 us6.length c6) us6 T) (hb2:Below W2.heap.size W2 wb) (h0:Below tb w6 W1) (hs:tb<=W1.heap.size) (h12:Below wa.heap.size wa W2):TwoT tb w6 wb A5 n c5 us5 gs A6 c6 us6 T:=by
 have s1:=hb1.size;have s2:=h12.size;have s3:=hb2.size;refine⟨(ht1.later (h12.trans (hb2.mono s2))).lower hs,ht2.lower (by omega),fun j b a e g c d=>?_,((h0.trans (hb1.mono hs)).trans (h12.mono (by omega))).trans (hb2.mono (by omega)),by omega⟩;have h1:=((ht1.rows.own j b).lt g c).2;have h2:=((ht2.rows.own a e).lt g d).1;omega
theorem TwoT.alloc (H:TwoT tb w6 X A5 n c5 us5 gs A6 c6 us6 T) (o:Obj):TwoT tb w6 (X.alloc o) A5 n c5 us5 gs A6 c6 us6 T:=
 ⟨H.t1.later ((K3 _ _).alloc (K4 _) _),H.t2.later ((K3 _ _).alloc (K4 _) _),H.dis,H.lo.alloc H.hs _,by rw[K9];have:=H.hs;omega⟩
theorem TwoT.arg (H:TwoT tb w6 X A5 n c5 us5 gs A6 c6 us6 T):RowAt nodeL X X.heap.size A6 us6:=by
 obtain⟨A,c,a,b⟩:=H.t2.row.form;injection a with e1 e2 e3
 rw[e1];exact b
theorem TwoT.out (H:TwoT tb w6 X A5 n c5 us5 gs A6 c6 us6 T) {v2:Value} (ho:OwnRow nodeL w2 tb 37 v2 (us5++us6)) (hg:X.grownBy w2 (Value.slice A5 n c5).ownBlock):
 ∃A8 c8,v2=.slice A8 (gs.length+T.length) c8/\Tab tb w2 (.slice A8 (gs.length+T.length) c8) (us5++us6) (gs++T)/\Below tb w6 w2/\tb<=w2.heap.size/\∀g cs,Blk X g 24 cs->Blk w2 g 24 cs:=by
 obtain⟨A8,c8,b,_⟩:=ho.form;have e:(us5++us6).length=gs.length+T.length:=by rw[Q9,H.t1.rows.len,H.t2.rows.len]
 rw[e]at b;subst b;have a:KeptT 3 X w2:=V3 hg H.t1.row (by decide);exact⟨A8,c8,rfl,⟨ho,(H.t1.rows.kept a).join (H.t2.rows.kept a) H.dis⟩,H.lo.trans (H.t1.row.grown_below hg H.hs),Y3 H.hs hg.size,V3 hg H.t1.row (by decide)⟩
theorem boxA {w W:World} (hb:Below (w.alloc (.cells #[.slice none 0 0,.int .i64 0] 24)).drew.heap.size (w.alloc (.cells #[.slice none 0 0,.int .i64 0] 24)).drew W):Blk W w.heap.size 24 #[.slice none 0 0,.int .i64 0]:=by
 have a:Blk (w.alloc (.cells #[.slice none 0 0,.int .i64 0] 24)).drew w.heap.size 24 #[.slice none 0 0,.int .i64 0]:=Q1 w _ _;exact a.below hb a.lt
theorem boxB {w W:World} (hb:Below (w.alloc (.cells #[.slice none 0 0,.int .i64 0] 24)).heap.size (w.alloc (.cells #[.slice none 0 0,.int .i64 0] 24)) W):Blk W w.heap.size 24 #[.slice none 0 0,.int .i64 0]:=(Q1 w _ _).below hb (Q1 w _ _).lt
end
abbrev RRel (tb:Nat) (w9 W:World) (A:Option Addr) (n8 c8:Nat) (vs8:List NV) (M:List Gr.Nd) (ob:Nat) (r:Int):Prop:=Tab tb W (.slice A n8 c8) vs8 M/\Below tb w9 W/\Blk W ob 24 #[.slice A n8 c8,.int .i64 r]
section
variable {tb n c5 c6:Nat} {w6 W1 W2 wa wb X w2:World} {A5 A6:Option Addr} {us5 us6:List NV} {gs T:List Gr.Nd}
theorem zh8 {w:World} {ob tb n8 c8:Nat} {A8:Option Addr} {vs8:List NV} {ns:List Gr.Nd} {r:Int} (hT:Tab tb w (.slice A8 n8 c8) vs8 ns) (hb:Below tb w6 w) (hB:Blk w ob 24 #[.slice none 0 0,.int .i64 0]) (ho:tb<=ob):
 Tab tb ((w.setCell ⟨ob,0,none⟩ (.slice A8 n8 c8)).setCell ⟨ob,1,none⟩ (.int .i64 r)) (.slice A8 n8 c8) vs8 ns/\Blk ((w.setCell ⟨ob,0,none⟩ (.slice A8 n8 c8)).setCell ⟨ob,1,none⟩ (.int .i64 r)) ob 24 #[.slice A8 n8 c8,.int .i64 r]/\Below tb w6 ((w.setCell ⟨ob,0,none⟩ (.slice A8 n8 c8)).setCell ⟨ob,1,none⟩ (.int .i64 r)):=by
 have b:∀t,t≠24->KeptT t w ((w.setCell ⟨ob,0,none⟩ (.slice A8 n8 c8)).setCell ⟨ob,1,none⟩ (.int .i64 r)):=fun t a=>(V0 (p:=⟨ob,0,none⟩) hB a _).trans (V0 (p:=⟨ob,1,none⟩) (hB.set_ 0 _) a _)
 exact⟨⟨hT.row.kept (b _ (by decide)),hT.rows.kept (b _ (by decide))⟩,(hB.set_ 0 _).set_ 1 _,(hb.setCell (p:=⟨ob,0,none⟩) ho _).setCell (p:=⟨ob,1,none⟩) ho _⟩
end
end Go.Proofs.YtpgmfihonmoliabGreatDoor
