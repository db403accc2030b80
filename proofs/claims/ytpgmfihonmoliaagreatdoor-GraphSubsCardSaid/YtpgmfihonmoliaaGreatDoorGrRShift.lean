import Derived.Test.YtpgmfihonmoliaaGreatDoorZ27
import Derived.Test.YtpgmfihonmoliaaGreatDoorZ16
namespace Go.Proofs.YtpgmfihonmoliaaGreatDoor
open Gr
open _root_.Go.Proofs.Tryz
open _root_.Go.Lib (hid)
set_option maxRecDepth 100000
set_option maxHeartbeats 16000000
open Go.RowKit
theorem zi2 {B nb:Nat} {w w':World} {v:Value} {vs:List NV} {ns:List Gr.Nd} (h:Tab B w v vs ns) (ho:∀j b g,(ints vs j b).v.ownBlock=some g->g<nb) (hv:∀g,v.ownBlock=some g->g<nb) (hb:Below nb w w'):Tab B w' v vs ns:=
 ⟨h.row.below hb hv,⟨h.rows.len,h.rows.kind,fun j b=>(h.rows.own j b).below hb (ho j b),h.rows.apart⟩⟩
structure ShM (B:Nat) (w wr:World) (nb:Nat) (vO:Value) (vs:List NV) (ms:List Gr.Nd) (kind:Int) (text:Gr.Str) (ord:Bool) (ks is:SV) (kl il:List Nat):Prop where
 below:Below B w wr
 tab:Tab B wr vO vs ms
 box:Blk wr nb 38 #[.int .i64 kind,.string ⟨text.toArray⟩,.bool ord,ks.v,is.v]
 ok:OwnRow intL wr (nb+1) 3 ks.v kl
 oi:OwnRow intL wr (nb+1) 3 is.v il
 sep:∀g,ks.v.ownBlock=some g->is.v.ownBlock=some g->False
 old1:∀j b g,(ints vs j b).v.ownBlock=some g->g<nb
 old2:∀g,vO.ownBlock=some g->g<nb
 hd:nb+1<=wr.heap.size
 hB:B<=nb
section
variable {B nb:Nat} {w wr w2:World} {vO:Value} {vs:List NV} {ms:List Gr.Nd} {kind:Int} {text:Gr.Str} {ord:Bool} {ks is:SV} {kl il:List Nat}
theorem ShM.later (h:ShM B w wr nb vO vs ms kind text ord ks is kl il) (hb:Below wr.heap.size wr w2):ShM B w w2 nb vO vs ms kind text ord ks is kl il:=
 ⟨h.below.trans (hb.mono (by have:=h.hd;have:=h.hB;omega)),h.tab.later hb,h.box.below hb h.box.lt,h.ok.later hb,h.oi.later hb,h.sep,h.old1,h.old2,Nat.le_trans h.hd hb.size,h.hB⟩
theorem ShM.growK (h:ShM B w wr nb vO vs ms kind text ord ks is kl il) {x:SV} {l:List Nat} (ho:OwnRow intL w2 (nb+1) 3 x.v l) (hg:wr.grownBy w2 ks.v.ownBlock) (hat:x.v.ownBlock=ks.v.ownBlock\/x.v.ownBlock=some wr.heap.size):
 ShM B w (w2.setCell ⟨nb,3,none⟩ x.v) nb vO vs ms kind text ord x is l il:=by
 have k:=h.ok.grown_below hg h.hd;have b:∀(y:SV) (l:List Nat) (W:World),OwnRow intL W (nb+1) 3 y.v l->y.v.ownBlock≠some nb:=fun y l W j e=>by have:=(j.lt nb e).1;omega
 have a:Below nb wr (w2.setCell ⟨nb,3,none⟩ x.v):=(k.mono (Nat.le_succ nb)).setCell (p:=⟨nb,3,none⟩) (Nat.le_refl nb) _;have f:Blk w2 nb 38 #[.int .i64 kind,.string ⟨text.toArray⟩,.bool ord,ks.v,is.v]:=h.box.grown hg (fun e=>b _ _ _ h.ok e.symm);refine⟨h.below.trans (a.mono h.hB),zi2 h.tab h.old1 h.old2 a,f.set_ 3 _,ho.setCell (p:=⟨nb,3,none⟩) (b _ _ _ ho) _,?_,fun g c d=>?_,h.old1,h.old2,Nat.le_trans h.hd a.size,h.hB⟩
 .have i:=h.oi.grown_other hg (fun g c d=>h.sep g d c);exact i.setCell (p:=⟨nb,3,none⟩) (b _ _ _ i) _
 .rcases hat with e|e
  .exact h.sep g (by rw[<-e];exact c) d
  .rw[e]at c;injection c with c
   have:=(h.oi.lt g d).2;omega
theorem ShM.growI (h:ShM B w wr nb vO vs ms kind text ord ks is kl il) {x:SV} {l:List Nat} (ho:OwnRow intL w2 (nb+1) 3 x.v l) (hg:wr.grownBy w2 is.v.ownBlock) (hat:x.v.ownBlock=is.v.ownBlock\/x.v.ownBlock=some wr.heap.size):
 ShM B w (w2.setCell ⟨nb,4,none⟩ x.v) nb vO vs ms kind text ord ks x kl l:=by
 have k:=h.oi.grown_below hg h.hd;have b:∀(y:SV) (l:List Nat) (W:World),OwnRow intL W (nb+1) 3 y.v l->y.v.ownBlock≠some nb:=fun y l W j e=>by have:=(j.lt nb e).1;omega
 have a:Below nb wr (w2.setCell ⟨nb,4,none⟩ x.v):=(k.mono (Nat.le_succ nb)).setCell (p:=⟨nb,4,none⟩) (Nat.le_refl nb) _;have f:Blk w2 nb 38 #[.int .i64 kind,.string ⟨text.toArray⟩,.bool ord,ks.v,is.v]:=h.box.grown hg (fun e=>b _ _ _ h.oi e.symm);refine⟨h.below.trans (a.mono h.hB),zi2 h.tab h.old1 h.old2 a,f.set_ 4 _,?_,ho.setCell (p:=⟨nb,4,none⟩) (b _ _ _ ho) _,fun g d c=>?_,h.old1,h.old2,Nat.le_trans h.hd a.size,h.hB⟩
 .have i:=h.ok.grown_other hg (fun g d c=>h.sep g d c);exact i.setCell (p:=⟨nb,4,none⟩) (b _ _ _ i) _
 .rcases hat with e|e
  .exact h.sep g d (by rw[<-e];exact c)
  .rw[e]at c;injection c with c
   have:=(h.ok.lt g d).2;omega
theorem ShM.push (h:ShM B w wr nb vO vs ms kind text ord ks is kl il) {v':Value} (ho:OwnRow nodeL w2 B 38 v' (vs++[⟨kind,text,ord,ks,is⟩])) (hg:wr.grownBy w2 vO.ownBlock):
 Tab B w2 v' (vs++[⟨kind,text,ord,ks,is⟩]) (ms++[⟨kind,text,ord,kl,il⟩])/\Below B w w2:=by
 have a:KeptT 3 wr w2:=KeptT.grown hg h.tab.row (by decide);have c:B<=wr.heap.size:=by have:=h.hd;have:=h.hB;omega
 refine⟨⟨ho,Rows.snoc (h.tab.rows.kept a) _ ⟨kind,text,ord,kl,il⟩ ⟨rfl,rfl,rfl⟩ ((h.ok.kept a).lower (by have:=h.hB;omega)) ((h.oi.kept a).lower (by have:=h.hB;omega)) h.sep (fun j b g e=>⟨fun d=>?_,fun d=>?_⟩)⟩,h.below.trans (h.tab.row.grown_below hg c)⟩
 .have:=h.old1 j b g e;have:=(h.ok.lt g d).1;omega
 .have:=h.old1 j b g e;have:=(h.oi.lt g d).1;omega
end
theorem znd (A:Option Addr) (c d:Nat) (us:List NV) (gs:List Gr.Nd) (hgl:gs.length<=1000) (hks:∀n∈gs,n.keys.length<=1000/\n.items.length<=1000) (hxb:∀n∈gs,∀x∈n.keys++n.items,x<=1000000) (hd:d<=1000000) (w:World) (h:GAt w w.heap.size A us gs):
 Calls prog 34 #[.slice A gs.length c,.int .i64 d] w fun e w'=>∃v' vs',e=.returned v'/\Tab w.heap.size w' v' vs' (gs.map (shN d))/\Below w.heap.size w w':=by
 have H:=hid h;have ay:Hid (Tab w.heap.size w (.slice none 0 0) [] []):=hid ⟨OwnRow.nil,Rows.nil _ _⟩;clear h;go_enter func34,ntmps34;go_upto_region 3 with fail;go_loopw [5,6] (fun s5 s6 wr=>∃(j:Nat) (A1:Option Addr) (c1:Nat) (vs1:List NV),j<=gs.length/\s6=.int .i64 j/\s5=.slice A1 vs1.length c1/\Hid (Tab w.heap.size wr (.slice A1 vs1.length c1) vs1 ((gs.take j).map (shN d))/\Below w.heap.size w wr)) (fun _ s6 _=>gs.length-(intOf s6).toNat)
 case atStart=>exact⟨0,none,0,[],by omega,rfl,rfl,hid ⟨ay.out,Below.refl _ _⟩⟩
 case round=>
  obtain⟨j,A1,c1,vs1,hj,rfl,rfl,Q⟩:=hrel;obtain⟨K,ak⟩:∃K,K=wr:=⟨_,rfl⟩
  subst ak;by_cases hlt:j<gs.length
  .have ag:(j:Int)<(gs.length:Int):=by omega
   have Z:gs[j]∈gs:=List.getElem_mem hlt;obtain⟨av,aj⟩:=hks _ Z;have ab:=hid (hxb _ Z);obtain⟨r,ap,aD,rfl,hN⟩:=H.out.node hlt;obtain⟨ka,kn,kc⟩:=ap;obtain⟨ia,al,ic⟩:=aD;obtain⟨n,hn⟩:=ex (gs[j])
   have am:Hid ((gs.take (j+1)).map (shN d)=(gs.take j).map (shN d)++[shN d n]):=hid (by rw[List.take_succ_eq_append_getElem hlt,List.map_append,hn];rfl);rw[hn]at hN av aj ab;obtain rfl:kn=n.keys.length:=hN.kn;obtain rfl:al=n.items.length:=hN.inn;have N:=hid hN;have T:Hid (∀W,Below w.heap.size w W->W.cell? (r.add (j*5))=some (.int .i64 n.kind)/\W.cell? {block:=(r.add (j*5)).block,off:=(r.add (j*5)).off+1}=some (.string ⟨n.text.toArray⟩)/\W.cell? {block:=(r.add (j*5)).block,off:=(r.add (j*5)).off+2}=some (.bool n.ord)/\W.cell? {block:=(r.add (j*5)).block,off:=(r.add (j*5)).off+3}=some (.slice ka n.keys.length kc)/\W.cell? {block:=(r.add (j*5)).block,off:=(r.add (j*5)).off+4}=some (.slice ia n.items.length ic)):=hid (fun W P=>by
    have lt:=N.out.lt;exact⟨(P.cell lt).trans N.out.c0,(P.cell (by exact lt)).trans N.out.c1,(P.cell (by exact lt)).trans N.out.c2,(P.cell (by exact lt)).trans N.out.c3,(P.cell (by exact lt)).trans N.out.c4⟩)
   have ah:Hid (∀W,Below w.heap.size w W->RowAt intL W w.heap.size ka n.keys/\RowAt intL W w.heap.size ia n.items):=hid (fun W P=>⟨N.out.keys.below P,N.out.items.below P⟩);obtain⟨x0,x1,x2,x3,x4⟩:=T.out K Q.out.2;have hjb:j<=1000:=by omega
   clear hN hn Z x3 x4;go_upto_region 5 with fail;go_cut [7] (fun s7 wx=>∃nb,s7=.pointer (some ⟨nb,0,none⟩)/\Hid (Blk wx nb 38 #[.int .i64 n.kind,.string ⟨n.text.toArray⟩,.bool n.ord,.slice none 0 0,.slice none 0 0]/\Below K.heap.size K wx/\nb=K.heap.size))
   case first=>
    go_region_held3 (fun w'=>w'.cell? (r.add (j*5))=some (.int .i64 n.kind)/\w'.cell? {block:=(r.add (j*5)).block,off:=(r.add (j*5)).off+1}=some (.string ⟨n.text.toArray⟩)/\w'.cell? {block:=(r.add (j*5)).block,off:=(r.add (j*5)).off+2}=some (.bool n.ord))
     (first|go_keep| (simp[go_sem])) (fail)
    all_goals
     go_wp2;go_meet
    exact⟨K.heap.size,rfl,hid ⟨Blk.new _ _ _,((Below.refl _ _).alloc (Nat.le_refl _) _).drew,rfl⟩⟩
   case rest=>
    obtain⟨nb,rfl,ae⟩:=hcut;have ar:Hid (ShM w.heap.size w wc nb (.slice A1 vs1.length c1) vs1 ((gs.take j).map (shN d)) n.kind n.text n.ord SV.nil SV.nil [] []):=hid (by
     obtain⟨O,C,h3⟩:=ae.out;have hq:=Q.out.2.size;exact⟨Q.out.2.trans (C.mono hq),Q.out.1.later C,O,OwnRow.nil,OwnRow.nil,fun g e=>(by cases e),fun j b g e=>(by rw[h3];exact((Q.out.1.rows.own j b).lt g e).2),fun g e=>(by rw[h3];exact(Q.out.1.row.lt g e).2),(by have:=O.lt;omega),(by omega)⟩)
    clear x0 x1 x2 ae;go_upto_region 7 with fail;go_loopw [8] (fun s8 wr=>∃(k:Nat) (kx:SV),k<=n.keys.length/\s8=.int .i64 k/\Hid (ShM w.heap.size w wr nb (.slice A1 vs1.length c1) vs1 ((gs.take j).map (shN d)) n.kind n.text n.ord kx SV.nil ((n.keys.take k).map (· +d)) [])) (fun s8 _=>n.keys.length-(intOf s8).toNat)
    case atStart=>exact⟨0,SV.nil,by omega,rfl,hid (by simpa using ar.out)⟩
    case round=>
     obtain⟨k,kx,hk,rfl,o⟩:=hrel;obtain⟨a,X⟩:∃a,a=wr:=⟨_,rfl⟩
     subst X;have x3:=(T.out a o.out.below).2.2.2.1;by_cases hlk:k<n.keys.length
     .have G:(k:Int)<(n.keys.length:Int):=by omega
      obtain⟨y,L⟩:=ex (n.keys[k])
      obtain⟨J,rfl,_,y0⟩:=zaf (ah.out a o.out.below).1 hlk;rw[L]at y0;have au:=ab.out y (List.mem_append_left _ (by rw[<-L];exact List.getElem_mem hlk));have D:Hid ((n.keys.take (k+1)).map (· +d)=(n.keys.take k).map (· +d)++[y+d]):=hid (by rw[List.take_succ_eq_append_getElem hlk,List.map_append,L];rfl);obtain⟨kl,p⟩:=ex ((n.keys.take k).map (· +d))
      have S:Hid (kl.length<=1000):=hid (by rw[<-p,List.length_map,List.length_take];omega);rw[p]at o D;obtain⟨f,R,l⟩:=kx;obtain rfl:R=kl.length:=(SV.row o.out.ok).2;have z3:a.cell? ⟨nb,3,none⟩=some (.slice f kl.length l):=o.out.box.cell 3;have aC:k<=1000:=by omega
      clear L p;have z:Below a.heap.size a (a.alloc (.cells #[.int .i64 (IntKind.i64.wrap ((y:Int)+(d:Int)))] 3)):=(Below.refl _ _).alloc (Nat.le_refl _) _;have ao:(a.alloc (.cells #[.int .i64 (IntKind.i64.wrap ((y:Int)+(d:Int)))] 3)).cell? ⟨nb,3,none⟩=some (.slice f kl.length l):=(o.out.box.alloc _).cell 3;have aw:(a.alloc (.cells #[.int .i64 (IntKind.i64.wrap ((y:Int)+(d:Int)))] 3)).cell? {block:=(r.add (j*5)).block,off:=(r.add (j*5)).off+3}=some (.slice (some J) n.keys.length kc):=(z.cell (World.block_lt_of_cell? a _ x3)).trans x3;have aq:(a.alloc (.cells #[.int .i64 (IntKind.i64.wrap ((y:Int)+(d:Int)))] 3)).cell? (J.add k)=some (.int .i64 (y:Int)):=(z.cell (World.block_lt_of_cell? a _ y0)).trans y0;have t:OwnRow intL (a.alloc (.cells #[.int .i64 (IntKind.i64.wrap ((y:Int)+(d:Int)))] 3)).drew (nb+1) 3 (.slice f kl.length l) kl:=o.out.ok.alloc _;have v:RowAt intL (a.alloc (.cells #[.int .i64 (IntKind.i64.wrap ((y:Int)+(d:Int)))] 3)).drew (a.heap.size+1) (some ⟨a.heap.size,0,none⟩) [y+d]:=RowAt.lit1 _ _ (by rw[IntWalk.i64_in _ (by omega)];rfl) _ rfl;have aa:kl.length+[y+d].length<=1073741824:=by have:=S.out;simp;omega
      have ac:nb+1<=(a.alloc (.cells #[.int .i64 (IntKind.i64.wrap ((y:Int)+(d:Int)))] 3)).drew.heap.size:=by have:=o.out.hd;simp;omega
      have u:Hid (ShM w.heap.size w (a.alloc (.cells #[.int .i64 (IntKind.i64.wrap ((y:Int)+(d:Int)))] 3)).drew nb (.slice A1 vs1.length c1) vs1 ((gs.take j).map (shN d)) n.kind n.text n.ord ⟨f,kl.length,l⟩ SV.nil kl []):=hid (o.out.later ((Below.refl _ _).alloc (Nat.le_refl _) _).drew);have F:some nb≠(Value.slice f kl.length l).ownBlock:=fun e=>by have:=(o.out.ok.lt nb e.symm).1;omega
      clear z;go_upto_region 9 with fail;go_region_law (refine zan _ rfl (.tmp 43) (.tmp 54) 36 3 8 rfl intT (nb+1) (.slice f kl.length l) kl rfl t _ _ 1 [y+d] rfl v aa ac ?_;intro v' w2 m q s;obtain⟨A9,c9,V,_⟩:=m.form;subst V;have ax:∀i,w2.frozen? ⟨nb,i,none⟩=false:=(u.out.box.grown q F).frozen;have aB:w2.cell? ⟨nb,3,none⟩=some (.slice f kl.length l):=(u.out.box.grown q F).cell 3;have U:=hid (And.intro m (And.intro q s));clear m q s)
      all_goals
       go_wp2_with fail;have C:=U.out;rw[show(kl++[y+d]).length=kl.length+1 from by simp]at C;exact⟨⟨k+1,⟨A9,kl.length+1,c9⟩,by omega,by go_num,hid (by rw[D.out];exact u.out.growK (x:=⟨A9,kl.length+1,c9⟩) C.1 C.2.1 C.2.2)⟩,by simp[intOf];omega⟩
     .have G:¬(k:Int)<(n.keys.length:Int):=by omega
      have az:Hid (ShM w.heap.size w a nb (.slice A1 vs1.length c1) vs1 ((gs.take j).map (shN d)) n.kind n.text n.ord kx SV.nil (n.keys.map (· +d)) []):=hid (by have O:=o.out;have e:n.keys.take k=n.keys:=List.take_of_length_le (by omega);rwa[e]at O);obtain⟨ks,af⟩:∃ks,ks=kx:=⟨_,rfl⟩
      subst af;go_upto_region 11 with fail;go_loopw [9] (fun s9 wr=>∃(k:Nat) (kx:SV),k<=n.items.length/\s9=.int .i64 k/\Hid (ShM w.heap.size w wr nb (.slice A1 vs1.length c1) vs1 ((gs.take j).map (shN d)) n.kind n.text n.ord ks kx (n.keys.map (· +d)) ((n.items.take k).map (· +d)))) (fun s9 _=>n.items.length-(intOf s9).toNat)
      case atStart=>exact⟨0,SV.nil,by omega,rfl,hid (by simpa using az.out)⟩
      case round=>
       obtain⟨k,kx,hk,rfl,o⟩:=hrel;obtain⟨a,X⟩:∃a,a=wr:=⟨_,rfl⟩
       subst X;have x3:=(T.out a o.out.below).2.2.2.2;by_cases hlk:k<n.items.length
       .have G:(k:Int)<(n.items.length:Int):=by omega
        obtain⟨y,L⟩:=ex (n.items[k])
        obtain⟨J,rfl,_,y0⟩:=zaf (ah.out a o.out.below).2 hlk;rw[L]at y0;have au:=ab.out y (List.mem_append_right _ (by rw[<-L];exact List.getElem_mem hlk));have D:Hid ((n.items.take (k+1)).map (· +d)=(n.items.take k).map (· +d)++[y+d]):=hid (by rw[List.take_succ_eq_append_getElem hlk,List.map_append,L];rfl);obtain⟨kl,p⟩:=ex ((n.items.take k).map (· +d))
        have S:Hid (kl.length<=1000):=hid (by rw[<-p,List.length_map,List.length_take];omega);rw[p]at o D;obtain⟨f,R,l⟩:=kx;obtain rfl:R=kl.length:=(SV.row o.out.oi).2;have z3:a.cell? ⟨nb,4,none⟩=some (.slice f kl.length l):=o.out.box.cell 4;have aC:k<=1000:=by omega
        clear L p;have z:Below a.heap.size a (a.alloc (.cells #[.int .i64 (IntKind.i64.wrap ((y:Int)+(d:Int)))] 3)):=(Below.refl _ _).alloc (Nat.le_refl _) _;have ao:(a.alloc (.cells #[.int .i64 (IntKind.i64.wrap ((y:Int)+(d:Int)))] 3)).cell? ⟨nb,4,none⟩=some (.slice f kl.length l):=(o.out.box.alloc _).cell 4;have aw:(a.alloc (.cells #[.int .i64 (IntKind.i64.wrap ((y:Int)+(d:Int)))] 3)).cell? {block:=(r.add (j*5)).block,off:=(r.add (j*5)).off+4}=some (.slice (some J) n.items.length ic):=(z.cell (World.block_lt_of_cell? a _ x3)).trans x3;have aq:(a.alloc (.cells #[.int .i64 (IntKind.i64.wrap ((y:Int)+(d:Int)))] 3)).cell? (J.add k)=some (.int .i64 (y:Int)):=(z.cell (World.block_lt_of_cell? a _ y0)).trans y0;have t:OwnRow intL (a.alloc (.cells #[.int .i64 (IntKind.i64.wrap ((y:Int)+(d:Int)))] 3)).drew (nb+1) 3 (.slice f kl.length l) kl:=o.out.oi.alloc _;have v:RowAt intL (a.alloc (.cells #[.int .i64 (IntKind.i64.wrap ((y:Int)+(d:Int)))] 3)).drew (a.heap.size+1) (some ⟨a.heap.size,0,none⟩) [y+d]:=RowAt.lit1 _ _ (by rw[IntWalk.i64_in _ (by omega)];rfl) _ rfl;have aa:kl.length+[y+d].length<=1073741824:=by have:=S.out;simp;omega
        have ac:nb+1<=(a.alloc (.cells #[.int .i64 (IntKind.i64.wrap ((y:Int)+(d:Int)))] 3)).drew.heap.size:=by have:=o.out.hd;simp;omega
        have u:Hid (ShM w.heap.size w (a.alloc (.cells #[.int .i64 (IntKind.i64.wrap ((y:Int)+(d:Int)))] 3)).drew nb (.slice A1 vs1.length c1) vs1 ((gs.take j).map (shN d)) n.kind n.text n.ord ks ⟨f,kl.length,l⟩ (n.keys.map (· +d)) kl):=hid (o.out.later ((Below.refl _ _).alloc (Nat.le_refl _) _).drew);have F:some nb≠(Value.slice f kl.length l).ownBlock:=fun e=>by have:=(o.out.oi.lt nb e.symm).1;omega
        clear z;go_upto_region 13 with fail;go_region_law (refine zan _ rfl (.tmp 68) (.tmp 79) 36 3 8 rfl intT (nb+1) (.slice f kl.length l) kl rfl t _ _ 1 [y+d] rfl v aa ac ?_;intro v' w2 m q s;obtain⟨A9,c9,V,_⟩:=m.form;subst V;have ax:∀i,w2.frozen? ⟨nb,i,none⟩=false:=(u.out.box.grown q F).frozen;have aB:w2.cell? ⟨nb,4,none⟩=some (.slice f kl.length l):=(u.out.box.grown q F).cell 4;have U:=hid (And.intro m (And.intro q s));clear m q s)
        all_goals
         go_wp2_with fail;have C:=U.out;rw[show(kl++[y+d]).length=kl.length+1 from by simp]at C;exact⟨⟨k+1,⟨A9,kl.length+1,c9⟩,by omega,by go_num,hid (by rw[D.out];exact u.out.growI (x:=⟨A9,kl.length+1,c9⟩) C.1 C.2.1 C.2.2)⟩,by simp[intOf];omega⟩
       .have G:¬(k:Int)<(n.items.length:Int):=by omega
        have E:Hid (ShM w.heap.size w a nb (.slice A1 vs1.length c1) vs1 ((gs.take j).map (shN d)) n.kind n.text n.ord ks kx (n.keys.map (· +d)) (n.items.map (· +d))):=hid (by have O:=o.out;have e:n.items.take k=n.items:=List.take_of_length_le (by omega);rwa[e]at O);obtain⟨k1,k2,k3⟩:=ks;obtain⟨i1,i2,i3⟩:=kx;obtain⟨z0,z1,z2,z3,z4⟩:=cells5 E.out.box;have hvl:vs1.length<=1000:=by have O:=E.out.tab.rows.len;rw[List.length_map,List.length_take]at O;omega
        have Y:Hid (w.heap.size<=a.heap.size):=hid E.out.below.size;go_wp2_with (at_builtin;go_must (refine zaa _ rfl (.tmp 82) (.tmp 84) 22 38 80 rfl nodeT w.heap.size (.slice A1 vs1.length c1) vs1 rfl (E.out.tab.row.alloc _) _ _ 1 [⟨n.kind,n.text,n.ord,⟨k1,k2,k3⟩,⟨i1,i2,i3⟩⟩] rfl (RowAt.lit1 _ _ rfl _ ?_) ?_ ?_ ?_))
        any_goals (first|rfl| (have:=Y.out;omega)| (have:=Y.out;simp;omega)| (rw[World.size_alloc];have:=Y.out;omega))
        intro v' w5 I hg aA;have HP:=hid ((E.out.later ((Below.refl _ _).alloc (Nat.le_refl _) (.cells #[.int .i64 n.kind,.string ⟨n.text.toArray⟩,.bool n.ord,.slice k1 k2 k3,.slice i1 i2 i3] 38))).push I hg);obtain⟨A5,c5,ai,_⟩:=I.form;obtain⟨an,M⟩:=ex (vs1++[⟨n.kind,n.text,n.ord,⟨k1,k2,k3⟩,⟨i1,i2,i3⟩⟩])
        rw[M]at HP ai;subst ai;clear I hg aA M z0 z1 z2 z3 z4;go_wp2;go_roundw
        case rel=>exact⟨j+1,A5,c5,an,by omega,by go_num,rfl,hid ⟨by rw[am.out];exact HP.out.1,HP.out.2⟩⟩
        case measure=>simp[intOf];omega
  .have ag:¬(j:Int)<(gs.length:Int):=by omega
   have HE:Hid (Tab w.heap.size K (.slice A1 vs1.length c1) vs1 (gs.map (shN d))/\Below w.heap.size w K):=hid ⟨by have:=Q.out.1;rwa[List.take_of_length_le (by omega)]at this,Q.out.2⟩;go_wp2;go_ret
   first|exact⟨_,_,rfl,HE.out⟩|exact⟨_,rfl,⟨_,HE.out.1⟩,HE.out.2⟩|exact⟨_,rfl,_,HE.out⟩
end Go.Proofs.YtpgmfihonmoliaaGreatDoor
