import Derived.Test.YtpjmhafmeieloabGreatDoorGrRReach
namespace Go.Proofs.YtpjmhafmeieloabGreatDoor
open Gr
open _root_.Go.Proofs.Tryz
open _root_.Go.Lib (hid)
set_option maxRecDepth 100000
set_option maxHeartbeats 16000000
open Go.RowKit
theorem zi3 {B nb:Nat} {w w':World} {v:Value} {vs:List NV} {ns:List Gr.Nd} (h:Tab B w v vs ns) (ho:∀j b g,(ints vs j b).v.ownBlock=some g->g<nb) (hv:∀g,v.ownBlock=some g->g<nb) (hb:Below nb w w'):Tab B w' v vs ns:=
 ⟨h.row.below hb hv,⟨h.rows.len,h.rows.kind,fun j b=>(h.rows.own j b).below hb (ho j b),h.rows.apart⟩⟩
structure ShM (B:Nat) (w wr:World) (nb:Nat) (vO:Value) (vs:List NV) (ms:List Gr.Nd) (kind:Int) (text:Gr.Str) (ord:Bool) (ks is:SV) (kl il:List Nat):Prop where
 below:Below B w wr
 tab:Tab B wr vO vs ms
 box:Blk wr nb 40 #[.int .i64 kind,.string ⟨text.toArray⟩,.bool ord,ks.v,is.v]
 ok:OwnRow intL wr (nb+1) 3 ks.v kl
 oi:OwnRow intL wr (nb+1) 3 is.v il
 sep:∀g,ks.v.ownBlock=some g->is.v.ownBlock=some g->False
 old1:∀j b g,(ints vs j b).v.ownBlock=some g->g<nb
 old2:∀g,vO.ownBlock=some g->g<nb
 hd:nb+1<=wr.heap.size
 hB:B<=nb
section
variable {B nb:Nat} {w wr w2:World} {vO:Value} {vs:List NV} {ms:List Gr.Nd} {kind:Int} {text:Gr.Str} {ord:Bool} {ks is:SV} {kl il:List Nat}
theorem ShM.later (h:ShM B w wr nb vO vs ms kind text ord ks is kl il) (hb:Below wr.heap.size wr w2):ShM B w w2 nb vO vs ms kind text ord ks is kl il:=
 ⟨h.below.trans (hb.mono (by have:=h.hd;have:=h.hB;omega)),h.tab.later hb,h.box.below hb h.box.lt,h.ok.later hb,h.oi.later hb,h.sep,h.old1,h.old2,Nat.le_trans h.hd hb.size,h.hB⟩
theorem ShM.growK (h:ShM B w wr nb vO vs ms kind text ord ks is kl il) {x:SV} {l:List Nat} (ho:OwnRow intL w2 (nb+1) 3 x.v l) (hg:wr.grownBy w2 ks.v.ownBlock) (hat:x.v.ownBlock=ks.v.ownBlock\/x.v.ownBlock=some wr.heap.size):
 ShM B w (w2.setCell ⟨nb,3,none⟩ x.v) nb vO vs ms kind text ord x is l il:=by
 have j:=h.ok.grown_below hg h.hd;have a:∀(y:SV) (l:List Nat) (W:World),OwnRow intL W (nb+1) 3 y.v l->y.v.ownBlock≠some nb:=fun y l W k e=>by have:=(k.lt nb e).1;omega
 have b:Below nb wr (w2.setCell ⟨nb,3,none⟩ x.v):=(j.mono (Nat.le_succ nb)).setCell (p:=⟨nb,3,none⟩) (Nat.le_refl nb) _;have f:Blk w2 nb 40 #[.int .i64 kind,.string ⟨text.toArray⟩,.bool ord,ks.v,is.v]:=h.box.grown hg (fun e=>a _ _ _ h.ok e.symm);refine⟨h.below.trans (b.mono h.hB),zi3 h.tab h.old1 h.old2 b,f.set_ 3 _,ho.setCell (p:=⟨nb,3,none⟩) (a _ _ _ ho) _,?_,fun g c d=>?_,h.old1,h.old2,Nat.le_trans h.hd b.size,h.hB⟩
 .have i:=h.oi.grown_other hg (fun g c d=>h.sep g d c);exact i.setCell (p:=⟨nb,3,none⟩) (a _ _ _ i) _
 .rcases hat with e|e
  .exact h.sep g (by rw[<-e];exact c) d
  .rw[e]at c;injection c with c
   have:=(h.oi.lt g d).2;omega
theorem ShM.growI (h:ShM B w wr nb vO vs ms kind text ord ks is kl il) {x:SV} {l:List Nat} (ho:OwnRow intL w2 (nb+1) 3 x.v l) (hg:wr.grownBy w2 is.v.ownBlock) (hat:x.v.ownBlock=is.v.ownBlock\/x.v.ownBlock=some wr.heap.size):
 ShM B w (w2.setCell ⟨nb,4,none⟩ x.v) nb vO vs ms kind text ord ks x kl l:=by
 have j:=h.oi.grown_below hg h.hd;have a:∀(y:SV) (l:List Nat) (W:World),OwnRow intL W (nb+1) 3 y.v l->y.v.ownBlock≠some nb:=fun y l W k e=>by have:=(k.lt nb e).1;omega
 have b:Below nb wr (w2.setCell ⟨nb,4,none⟩ x.v):=(j.mono (Nat.le_succ nb)).setCell (p:=⟨nb,4,none⟩) (Nat.le_refl nb) _;have f:Blk w2 nb 40 #[.int .i64 kind,.string ⟨text.toArray⟩,.bool ord,ks.v,is.v]:=h.box.grown hg (fun e=>a _ _ _ h.oi e.symm);refine⟨h.below.trans (b.mono h.hB),zi3 h.tab h.old1 h.old2 b,f.set_ 4 _,?_,ho.setCell (p:=⟨nb,4,none⟩) (a _ _ _ ho) _,fun g d c=>?_,h.old1,h.old2,Nat.le_trans h.hd b.size,h.hB⟩
 .have i:=h.ok.grown_other hg (fun g d c=>h.sep g d c);exact i.setCell (p:=⟨nb,4,none⟩) (a _ _ _ i) _
 .rcases hat with e|e
  .exact h.sep g d (by rw[<-e];exact c)
  .rw[e]at c;injection c with c
   have:=(h.ok.lt g d).2;omega
theorem ShM.push (h:ShM B w wr nb vO vs ms kind text ord ks is kl il) {v':Value} (ho:OwnRow nodeL w2 B 40 v' (vs++[⟨kind,text,ord,ks,is⟩])) (hg:wr.grownBy w2 vO.ownBlock):
 Tab B w2 v' (vs++[⟨kind,text,ord,ks,is⟩]) (ms++[⟨kind,text,ord,kl,il⟩])/\Below B w w2:=by
 have c:KeptT 3 wr w2:=KeptT.grown hg h.tab.row (by decide);have d:B<=wr.heap.size:=by have:=h.hd;have:=h.hB;omega
 refine⟨⟨ho,Rows.snoc (h.tab.rows.kept c) _ ⟨kind,text,ord,kl,il⟩ ⟨rfl,rfl,rfl⟩ ((h.ok.kept c).lower (by have:=h.hB;omega)) ((h.oi.kept c).lower (by have:=h.hB;omega)) h.sep (fun j b g e=>⟨fun a=>?_,fun a=>?_⟩)⟩,h.below.trans (h.tab.row.grown_below hg d)⟩
 .have:=h.old1 j b g e;have:=(h.ok.lt g a).1;omega
 .have:=h.old1 j b g e;have:=(h.oi.lt g a).1;omega
end
theorem zni (A:Option Addr) (c d:Nat) (us:List NV) (gs:List Gr.Nd) (hgl:gs.length<=1000) (hks:∀n∈gs,n.keys.length<=1000/\n.items.length<=1000) (hxb:∀n∈gs,∀x∈n.keys++n.items,x<=1000000) (hd:d<=1000000) (w:World) (h:GAt w w.heap.size A us gs):
 Calls prog 19 #[.slice A gs.length c,.int .i64 d] w fun e w'=>∃v' vs',e=.returned v'/\Tab w.heap.size w' v' vs' (gs.map (shN d))/\Below w.heap.size w w':=by
 have H:=hid h;have aA:Hid (Tab w.heap.size w (.slice none 0 0) [] []):=hid ⟨OwnRow.nil,Rows.nil _ _⟩;clear h;go_enter func19,ntmps19;go_upto_region 3 with fail;go_loopw [5,6] (fun s5 s6 wr=>∃(j:Nat) (A1:Option Addr) (c1:Nat) (vs1:List NV),j<=gs.length/\s6=.int .i64 j/\s5=.slice A1 vs1.length c1/\Hid (Tab w.heap.size wr (.slice A1 vs1.length c1) vs1 ((gs.take j).map (shN d))/\Below w.heap.size w wr)) (fun _ s6 _=>gs.length-(intOf s6).toNat)
 case atStart=>exact⟨0,none,0,[],by omega,rfl,rfl,hid ⟨aA.out,Below.refl _ _⟩⟩
 case round=>
  obtain⟨j,A1,c1,vs1,hj,rfl,rfl,Q⟩:=hrel;obtain⟨L,aq⟩:∃L,L=wr:=⟨_,rfl⟩
  subst aq;by_cases hlt:j<gs.length
  .have af:(j:Int)<(gs.length:Int):=by omega
   have T:gs[j]∈gs:=List.getElem_mem hlt;obtain⟨al,aD⟩:=hks _ T;have V:=hid (hxb _ T);obtain⟨r,ar,au,rfl,hN⟩:=H.out.node hlt;obtain⟨ka,kn,kc⟩:=ar;obtain⟨ia,am,ic⟩:=au;obtain⟨n,hn⟩:=ex (gs[j])
   have an:Hid ((gs.take (j+1)).map (shN d)=(gs.take j).map (shN d)++[shN d n]):=hid (by rw[List.take_succ_eq_append_getElem hlt,List.map_append,hn];rfl);rw[hn]at hN al aD V;obtain rfl:kn=n.keys.length:=hN.kn;obtain rfl:am=n.items.length:=hN.inn;have O:=hid hN;have X:Hid (∀W,Below w.heap.size w W->W.cell? (r.add (j*5))=some (.int .i64 n.kind)/\W.cell? {block:=(r.add (j*5)).block,off:=(r.add (j*5)).off+1}=some (.string ⟨n.text.toArray⟩)/\W.cell? {block:=(r.add (j*5)).block,off:=(r.add (j*5)).off+2}=some (.bool n.ord)/\W.cell? {block:=(r.add (j*5)).block,off:=(r.add (j*5)).off+3}=some (.slice ka n.keys.length kc)/\W.cell? {block:=(r.add (j*5)).block,off:=(r.add (j*5)).off+4}=some (.slice ia n.items.length ic)):=hid (fun W N=>by
    have lt:=O.out.lt;exact⟨(N.cell lt).trans O.out.c0,(N.cell (by exact lt)).trans O.out.c1,(N.cell (by exact lt)).trans O.out.c2,(N.cell (by exact lt)).trans O.out.c3,(N.cell (by exact lt)).trans O.out.c4⟩)
   have aj:Hid (∀W,Below w.heap.size w W->RowAt intL W w.heap.size ka n.keys/\RowAt intL W w.heap.size ia n.items):=hid (fun W N=>⟨O.out.keys.below N,O.out.items.below N⟩);obtain⟨x0,x1,x2,x3,x4⟩:=X.out L Q.out.2;have hjb:j<=1000:=by omega
   clear hN hn T x3 x4;go_upto_region 5 with fail;go_cut [7] (fun s7 wx=>∃nb,s7=.pointer (some ⟨nb,0,none⟩)/\Hid (Blk wx nb 40 #[.int .i64 n.kind,.string ⟨n.text.toArray⟩,.bool n.ord,.slice none 0 0,.slice none 0 0]/\Below L.heap.size L wx/\nb=L.heap.size))
   case first=>
    go_region_held3 (fun w'=>w'.cell? (r.add (j*5))=some (.int .i64 n.kind)/\w'.cell? {block:=(r.add (j*5)).block,off:=(r.add (j*5)).off+1}=some (.string ⟨n.text.toArray⟩)/\w'.cell? {block:=(r.add (j*5)).block,off:=(r.add (j*5)).off+2}=some (.bool n.ord))
     (first|go_keep| (simp[go_sem])) (fail)
    all_goals
     go_wp2;go_meet
    exact⟨L.heap.size,rfl,hid ⟨Blk.new _ _ _,((Below.refl _ _).alloc (Nat.le_refl _) _).drew,rfl⟩⟩
   case rest=>
    obtain⟨nb,rfl,ag⟩:=hcut;have aw:Hid (ShM w.heap.size w wc nb (.slice A1 vs1.length c1) vs1 ((gs.take j).map (shN d)) n.kind n.text n.ord SV.nil SV.nil [] []):=hid (by
     obtain⟨P,C,h3⟩:=ag.out;have hq:=Q.out.2.size;exact⟨Q.out.2.trans (C.mono hq),Q.out.1.later C,P,OwnRow.nil,OwnRow.nil,fun g e=>(by cases e),fun j b g e=>(by rw[h3];exact((Q.out.1.rows.own j b).lt g e).2),fun g e=>(by rw[h3];exact(Q.out.1.row.lt g e).2),(by have:=P.lt;omega),(by omega)⟩)
    clear x0 x1 x2 ag;go_upto_region 7 with fail;go_loopw [8] (fun s8 wr=>∃(k:Nat) (kx:SV),k<=n.keys.length/\s8=.int .i64 k/\Hid (ShM w.heap.size w wr nb (.slice A1 vs1.length c1) vs1 ((gs.take j).map (shN d)) n.kind n.text n.ord kx SV.nil ((n.keys.take k).map (· +d)) [])) (fun s8 _=>n.keys.length-(intOf s8).toNat)
    case atStart=>exact⟨0,SV.nil,by omega,rfl,hid (by simpa using aw.out)⟩
    case round=>
     obtain⟨k,kx,hk,rfl,o⟩:=hrel;obtain⟨a,S⟩:∃a,a=wr:=⟨_,rfl⟩
     subst S;have x3:=(X.out a o.out.below).2.2.2.1;by_cases hlk:k<n.keys.length
     .have I:(k:Int)<(n.keys.length:Int):=by omega
      obtain⟨y,K⟩:=ex (n.keys[k])
      obtain⟨J,rfl,_,Z⟩:=zae (aj.out a o.out.below).1 hlk;rw[K]at Z;have av:=V.out y (List.mem_append_left _ (by rw[<-K];exact List.getElem_mem hlk));have E:Hid ((n.keys.take (k+1)).map (· +d)=(n.keys.take k).map (· +d)++[y+d]):=hid (by rw[List.take_succ_eq_append_getElem hlk,List.map_append,K];rfl);obtain⟨kl,p⟩:=ex ((n.keys.take k).map (· +d))
      have ab:Hid (kl.length<=1000):=hid (by rw[<-p,List.length_map,List.length_take];omega);rw[p]at o E;obtain⟨l,R,f⟩:=kx;obtain rfl:R=kl.length:=(SV.row o.out.ok).2;have z3:a.cell? ⟨nb,3,none⟩=some (.slice l kl.length f):=o.out.box.cell 3;have ak:k<=1000:=by omega
      clear K p;have v:Below a.heap.size a (a.alloc (.cells #[.int .i64 (IntKind.i64.wrap ((y:Int)+(d:Int)))] 3)):=(Below.refl _ _).alloc (Nat.le_refl _) _;have ay:(a.alloc (.cells #[.int .i64 (IntKind.i64.wrap ((y:Int)+(d:Int)))] 3)).cell? ⟨nb,3,none⟩=some (.slice l kl.length f):=(o.out.box.alloc _).cell 3;have ax:(a.alloc (.cells #[.int .i64 (IntKind.i64.wrap ((y:Int)+(d:Int)))] 3)).cell? {block:=(r.add (j*5)).block,off:=(r.add (j*5)).off+3}=some (.slice (some J) n.keys.length kc):=(v.cell (World.block_lt_of_cell? a _ x3)).trans x3;have aB:(a.alloc (.cells #[.int .i64 (IntKind.i64.wrap ((y:Int)+(d:Int)))] 3)).cell? (J.add k)=some (.int .i64 (y:Int)):=(v.cell (World.block_lt_of_cell? a _ Z)).trans Z;have z:OwnRow intL (a.alloc (.cells #[.int .i64 (IntKind.i64.wrap ((y:Int)+(d:Int)))] 3)).drew (nb+1) 3 (.slice l kl.length f) kl:=o.out.ok.alloc _;have t:RowAt intL (a.alloc (.cells #[.int .i64 (IntKind.i64.wrap ((y:Int)+(d:Int)))] 3)).drew (a.heap.size+1) (some ⟨a.heap.size,0,none⟩) [y+d]:=RowAt.lit1 _ _ (by rw[IntWalk.i64_in _ (by omega)];rfl) _ rfl;have aa:kl.length+[y+d].length<=1073741824:=by have:=ab.out;simp;omega
      have Y:nb+1<=(a.alloc (.cells #[.int .i64 (IntKind.i64.wrap ((y:Int)+(d:Int)))] 3)).drew.heap.size:=by have:=o.out.hd;simp;omega
      have u:Hid (ShM w.heap.size w (a.alloc (.cells #[.int .i64 (IntKind.i64.wrap ((y:Int)+(d:Int)))] 3)).drew nb (.slice A1 vs1.length c1) vs1 ((gs.take j).map (shN d)) n.kind n.text n.ord ⟨l,kl.length,f⟩ SV.nil kl []):=hid (o.out.later ((Below.refl _ _).alloc (Nat.le_refl _) _).drew);have D:some nb≠(Value.slice l kl.length f).ownBlock:=fun e=>by have:=(o.out.ok.lt nb e.symm).1;omega
      clear v;go_upto_region 9 with fail;go_region_law (refine zai _ rfl (.tmp 43) (.tmp 54) 38 3 8 rfl intT (nb+1) (.slice l kl.length f) kl rfl z _ _ 1 [y+d] rfl t aa Y ?_;intro v' w2 m q s;obtain⟨A9,c9,ae,_⟩:=m.form;subst ae;have az:∀i,w2.frozen? ⟨nb,i,none⟩=false:=(u.out.box.grown q D).frozen;have aC:w2.cell? ⟨nb,3,none⟩=some (.slice l kl.length f):=(u.out.box.grown q D).cell 3;have U:=hid (And.intro m (And.intro q s));clear m q s)
      all_goals
       go_wp2_with fail;have C:=U.out;rw[show(kl++[y+d]).length=kl.length+1 from by simp]at C;exact⟨⟨k+1,⟨A9,kl.length+1,c9⟩,by omega,by go_num,hid (by rw[E.out];exact u.out.growK (x:=⟨A9,kl.length+1,c9⟩) C.1 C.2.1 C.2.2)⟩,by simp[intOf];omega⟩
     .have I:¬(k:Int)<(n.keys.length:Int):=by omega
      have aE:Hid (ShM w.heap.size w a nb (.slice A1 vs1.length c1) vs1 ((gs.take j).map (shN d)) n.kind n.text n.ord kx SV.nil (n.keys.map (· +d)) []):=hid (by have P:=o.out;have e:n.keys.take k=n.keys:=List.take_of_length_le (by omega);rwa[e]at P);obtain⟨ks,ah⟩:∃ks,ks=kx:=⟨_,rfl⟩
      subst ah;go_upto_region 11 with fail;go_loopw [9] (fun s9 wr=>∃(k:Nat) (kx:SV),k<=n.items.length/\s9=.int .i64 k/\Hid (ShM w.heap.size w wr nb (.slice A1 vs1.length c1) vs1 ((gs.take j).map (shN d)) n.kind n.text n.ord ks kx (n.keys.map (· +d)) ((n.items.take k).map (· +d)))) (fun s9 _=>n.items.length-(intOf s9).toNat)
      case atStart=>exact⟨0,SV.nil,by omega,rfl,hid (by simpa using aE.out)⟩
      case round=>
       obtain⟨k,kx,hk,rfl,o⟩:=hrel;obtain⟨a,S⟩:∃a,a=wr:=⟨_,rfl⟩
       subst S;have x3:=(X.out a o.out.below).2.2.2.2;by_cases hlk:k<n.items.length
       .have I:(k:Int)<(n.items.length:Int):=by omega
        obtain⟨y,K⟩:=ex (n.items[k])
        obtain⟨J,rfl,_,Z⟩:=zae (aj.out a o.out.below).2 hlk;rw[K]at Z;have av:=V.out y (List.mem_append_right _ (by rw[<-K];exact List.getElem_mem hlk));have E:Hid ((n.items.take (k+1)).map (· +d)=(n.items.take k).map (· +d)++[y+d]):=hid (by rw[List.take_succ_eq_append_getElem hlk,List.map_append,K];rfl);obtain⟨kl,p⟩:=ex ((n.items.take k).map (· +d))
        have ab:Hid (kl.length<=1000):=hid (by rw[<-p,List.length_map,List.length_take];omega);rw[p]at o E;obtain⟨l,R,f⟩:=kx;obtain rfl:R=kl.length:=(SV.row o.out.oi).2;have z3:a.cell? ⟨nb,4,none⟩=some (.slice l kl.length f):=o.out.box.cell 4;have ak:k<=1000:=by omega
        clear K p;have v:Below a.heap.size a (a.alloc (.cells #[.int .i64 (IntKind.i64.wrap ((y:Int)+(d:Int)))] 3)):=(Below.refl _ _).alloc (Nat.le_refl _) _;have ay:(a.alloc (.cells #[.int .i64 (IntKind.i64.wrap ((y:Int)+(d:Int)))] 3)).cell? ⟨nb,4,none⟩=some (.slice l kl.length f):=(o.out.box.alloc _).cell 4;have ax:(a.alloc (.cells #[.int .i64 (IntKind.i64.wrap ((y:Int)+(d:Int)))] 3)).cell? {block:=(r.add (j*5)).block,off:=(r.add (j*5)).off+4}=some (.slice (some J) n.items.length ic):=(v.cell (World.block_lt_of_cell? a _ x3)).trans x3;have aB:(a.alloc (.cells #[.int .i64 (IntKind.i64.wrap ((y:Int)+(d:Int)))] 3)).cell? (J.add k)=some (.int .i64 (y:Int)):=(v.cell (World.block_lt_of_cell? a _ Z)).trans Z;have z:OwnRow intL (a.alloc (.cells #[.int .i64 (IntKind.i64.wrap ((y:Int)+(d:Int)))] 3)).drew (nb+1) 3 (.slice l kl.length f) kl:=o.out.oi.alloc _;have t:RowAt intL (a.alloc (.cells #[.int .i64 (IntKind.i64.wrap ((y:Int)+(d:Int)))] 3)).drew (a.heap.size+1) (some ⟨a.heap.size,0,none⟩) [y+d]:=RowAt.lit1 _ _ (by rw[IntWalk.i64_in _ (by omega)];rfl) _ rfl;have aa:kl.length+[y+d].length<=1073741824:=by have:=ab.out;simp;omega
        have Y:nb+1<=(a.alloc (.cells #[.int .i64 (IntKind.i64.wrap ((y:Int)+(d:Int)))] 3)).drew.heap.size:=by have:=o.out.hd;simp;omega
        have u:Hid (ShM w.heap.size w (a.alloc (.cells #[.int .i64 (IntKind.i64.wrap ((y:Int)+(d:Int)))] 3)).drew nb (.slice A1 vs1.length c1) vs1 ((gs.take j).map (shN d)) n.kind n.text n.ord ks ⟨l,kl.length,f⟩ (n.keys.map (· +d)) kl):=hid (o.out.later ((Below.refl _ _).alloc (Nat.le_refl _) _).drew);have D:some nb≠(Value.slice l kl.length f).ownBlock:=fun e=>by have:=(o.out.oi.lt nb e.symm).1;omega
        clear v;go_upto_region 13 with fail;go_region_law (refine zai _ rfl (.tmp 68) (.tmp 79) 38 3 8 rfl intT (nb+1) (.slice l kl.length f) kl rfl z _ _ 1 [y+d] rfl t aa Y ?_;intro v' w2 m q s;obtain⟨A9,c9,ae,_⟩:=m.form;subst ae;have az:∀i,w2.frozen? ⟨nb,i,none⟩=false:=(u.out.box.grown q D).frozen;have aC:w2.cell? ⟨nb,4,none⟩=some (.slice l kl.length f):=(u.out.box.grown q D).cell 4;have U:=hid (And.intro m (And.intro q s));clear m q s)
        all_goals
         go_wp2_with fail;have C:=U.out;rw[show(kl++[y+d]).length=kl.length+1 from by simp]at C;exact⟨⟨k+1,⟨A9,kl.length+1,c9⟩,by omega,by go_num,hid (by rw[E.out];exact u.out.growI (x:=⟨A9,kl.length+1,c9⟩) C.1 C.2.1 C.2.2)⟩,by simp[intOf];omega⟩
       .have I:¬(k:Int)<(n.items.length:Int):=by omega
        have G:Hid (ShM w.heap.size w a nb (.slice A1 vs1.length c1) vs1 ((gs.take j).map (shN d)) n.kind n.text n.ord ks kx (n.keys.map (· +d)) (n.items.map (· +d))):=hid (by have P:=o.out;have e:n.items.take k=n.items:=List.take_of_length_le (by omega);rwa[e]at P);obtain⟨k1,k2,k3⟩:=ks;obtain⟨i1,i2,i3⟩:=kx;obtain⟨z0,z1,z2,z3,z4⟩:=cells5 G.out.box;have hvl:vs1.length<=1000:=by have P:=G.out.tab.rows.len;rw[List.length_map,List.length_take]at P;omega
        have ac:Hid (w.heap.size<=a.heap.size):=hid G.out.below.size;go_wp2_with (at_builtin;go_must (refine zaa _ rfl (.tmp 82) (.tmp 84) 25 40 80 rfl nodeT w.heap.size (.slice A1 vs1.length c1) vs1 rfl (G.out.tab.row.alloc _) _ _ 1 [⟨n.kind,n.text,n.ord,⟨k1,k2,k3⟩,⟨i1,i2,i3⟩⟩] rfl (RowAt.lit1 _ _ rfl _ ?_) ?_ ?_ ?_))
        any_goals (first|rfl| (have:=ac.out;omega)| (have:=ac.out;simp;omega)| (rw[World.size_alloc];have:=ac.out;omega))
        intro v' w5 F hg ap;have HP:=hid ((G.out.later ((Below.refl _ _).alloc (Nat.le_refl _) (.cells #[.int .i64 n.kind,.string ⟨n.text.toArray⟩,.bool n.ord,.slice k1 k2 k3,.slice i1 i2 i3] 40))).push F hg);obtain⟨A5,c5,ai,_⟩:=F.form;obtain⟨ao,M⟩:=ex (vs1++[⟨n.kind,n.text,n.ord,⟨k1,k2,k3⟩,⟨i1,i2,i3⟩⟩])
        rw[M]at HP ai;subst ai;clear F hg ap M z0 z1 z2 z3 z4;go_wp2;go_roundw
        case rel=>exact⟨j+1,A5,c5,ao,by omega,by go_num,rfl,hid ⟨by rw[an.out];exact HP.out.1,HP.out.2⟩⟩
        case measure=>simp[intOf];omega
  .have af:¬(j:Int)<(gs.length:Int):=by omega
   have HE:Hid (Tab w.heap.size L (.slice A1 vs1.length c1) vs1 (gs.map (shN d))/\Below w.heap.size w L):=hid ⟨by have:=Q.out.1;rwa[List.take_of_length_le (by omega)]at this,Q.out.2⟩;go_wp2;go_ret
   first|exact⟨_,_,rfl,HE.out⟩|exact⟨_,rfl,⟨_,HE.out.1⟩,HE.out.2⟩|exact⟨_,rfl,_,HE.out⟩
end Go.Proofs.YtpjmhafmeieloabGreatDoor
