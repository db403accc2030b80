import Derived.Test.YtpjmhafmeieloaaGreatDoorZ03
import Derived.Test.YtpjmhafmeieloaaGreatDoorZ04
import Derived.Test.YtpjmhafmeieloaaGreatDoorGrCiv
namespace Go.Proofs.YtpjmhafmeieloaaGreatDoor
open Gr
open _root_.Go.Proofs.Tryz
open _root_.Go.Lib (hid)
set_option maxRecDepth 100000
set_option maxHeartbeats 16000000
open Go.RowKit
def ScalOk (T:World->Prop) (kind:Int) (text:Gr.Str) (r:Bool):Prop:=∀w,T w->Calls prog 22 #[.int .i64 kind,.string ⟨text.toArray⟩] w fun e w'=>e=.returned (.bool r)/\Below w.heap.size w w'
theorem zg0 (t:Gr.Str):((⟨t.toArray⟩:ByteArray)==⟨#[]⟩)=t.isEmpty:=by
 show(t.toArray==#[])=_;cases t with
 |nil=>rfl
 |cons a l=>simp
theorem zsf (T:World->Prop) (hT:Stays T) (sclr:Int->Gr.Str->Bool) (kind:Int) (text:Gr.Str) (ord:Bool) (keys items:List Nat) (ka ia:Option Addr) (kc ic:Nat) (htl:text.length<=1073741823)
 (hkl:keys.length<=1073741823) (hil:items.length<=1073741823)
 (hsc:kind≠9->kind≠10->kind≠11->ord=false->keys=[]->items=[]->ScalOk T kind text (sclr kind text)) (w:World) (hTw:T w):
 Calls prog 26 #[.agg #[.int .i64 kind,.string ⟨text.toArray⟩,.bool ord,.slice ka keys.length kc,.slice ia items.length ic]] w fun e w'=>e=.returned (.bool (formB sclr ⟨kind,text,ord,keys,items⟩))/\Below w.heap.size w w':=by
 have u:=hid hsc;clear hsc;obtain⟨l,g⟩:=ex (w.alloc (.cells #[.int .i64 kind,.string ⟨text.toArray⟩,.bool ord,.slice ka keys.length kc,.slice ia items.length ic] 36))
 have o:Below w.heap.size w l:=by rw[<-g];exact(Below.refl _ _).alloc (Nat.le_refl _) _
 have t:Blk l w.heap.size 36 #[.int .i64 kind,.string ⟨text.toArray⟩,.bool ord,.slice ka keys.length kc,.slice ia items.length ic]:=by rw[<-g];exact Blk.new _ _ _
 obtain⟨s0,s1,s2,s3,s4⟩:=cells5 t;have c:=hid o;have m:Hid (T l):=hid (hT _ _ hTw o);have k:=zg0 text;clear o t hTw;go_enter func26,ntmps26;go_upto_region 1 with fail;(try rw[g]);clear g;by_cases h9:kind=9
 .subst h9;cases he:text.isEmpty with
  |false=>
   rw[he]at k;have a:Hid (formB sclr ⟨9,text,ord,keys,items⟩=false):=hid (by simp[formB,he]);go_wp2;go_ret;exact⟨by rw[a.out]<;>rfl,c.out⟩
  |true=>
   rw[he]at k;cases ord with
   |true=>
    have a:Hid (formB sclr ⟨9,text,true,keys,items⟩=false):=hid (by simp[formB]);go_wp2;go_ret;exact⟨by rw[a.out]<;>rfl,c.out⟩
   |false=>
    by_cases hk:keys=[]
    .subst hk;have a:Hid (formB sclr ⟨9,text,false,[],items⟩=true):=hid (by simp[formB,he]);go_wp2;go_ret;exact⟨by rw[a.out]<;>rfl,c.out⟩
    .have f:¬((keys.length:Int)=0):=by have:=List.length_pos_iff.2 hk;omega
     have d:((keys.length:Int)==0)=false:=by simpa using hk
     have a:Hid (formB sclr ⟨9,text,false,keys,items⟩=false):=hid (by simp[formB,hk]);go_wp2;go_ret;exact⟨by rw[a.out]<;>rfl,c.out⟩
 .have h9b:(kind==9)=false:=by simpa using h9
  by_cases h10:kind=10
  .subst h10;cases he:text.isEmpty with
   |false=>
    rw[he]at k;have a:Hid (formB sclr ⟨10,text,ord,keys,items⟩=false):=hid (by simp[formB,he]);go_wp2;go_ret;exact⟨by rw[a.out]<;>rfl,c.out⟩
   |true=>
    rw[he]at k;by_cases hki:keys.length=items.length
    .have d:((keys.length:Int)==(items.length:Int))=true:=by simp[hki]
     have n:=hid hki;have f:(keys.length:Int)=(items.length:Int):=by omega
     have H1:=hid f;clear hki f;have a:Hid (formB sclr ⟨10,text,ord,keys,items⟩=true):=hid (by simp[formB,he,n.out]);go_wp2;go_ret;exact⟨by rw[a.out]<;>rfl,c.out⟩
    .have f:¬((keys.length:Int)=(items.length:Int)):=by omega
     have d:((keys.length:Int)==(items.length:Int))=false:=by simp;omega
     have a:Hid (formB sclr ⟨10,text,ord,keys,items⟩=false):=hid (by simp[formB,hki]);go_wp2;go_ret;exact⟨by rw[a.out]<;>rfl,c.out⟩
  .have h10b:(kind==10)=false:=by simpa using h10
   by_cases h11:kind=11
   .subst h11;cases hn:nameB text with
    |false=>
     have a:Hid (formB sclr ⟨11,text,ord,keys,items⟩=false):=hid (by simp[formB,hn]);have i:=hid hn;go_wp2_with fail;refine(zcx text htl _).mono ?_;rintro e h ⟨rfl,b⟩;subst b;rw[i.out];go_wp2;go_ret;exact⟨by rw[a.out]<;>rfl,c.out⟩
    |true=>
     have i:=hid hn;cases ord with
     |true=>
      have a:Hid (formB sclr ⟨11,text,true,keys,items⟩=false):=hid (by simp[formB]);go_wp2_with fail;refine(zcx text htl _).mono ?_;rintro e h ⟨rfl,b⟩;subst b;rw[i.out];go_wp2;go_ret;exact⟨by rw[a.out]<;>rfl,c.out⟩
     |false=>
      by_cases hk:keys=[]
      .subst hk;by_cases f:items.length=1
       .have a:Hid (formB sclr ⟨11,text,false,[],items⟩=true):=hid (by simp[formB,hn,f]);have d:((items.length:Int)==1)=true:=by simp[f]
        clear f;go_wp2_with fail;refine(zcx text htl _).mono ?_;rintro e h ⟨rfl,b⟩;subst b;rw[i.out];go_wp2;go_ret;exact⟨by rw[a.out]<;>rfl,c.out⟩
       .have a:Hid (formB sclr ⟨11,text,false,[],items⟩=false):=hid (by simp[formB,f]);have d:((items.length:Int)==1)=false:=by simp;omega
        have h1i:¬((items.length:Int)=1):=by omega
        go_wp2_with fail;refine(zcx text htl _).mono ?_;rintro e h ⟨rfl,b⟩;subst b;rw[i.out];go_wp2;go_ret;exact⟨by rw[a.out]<;>rfl,c.out⟩
      .have f:¬((keys.length:Int)=0):=by have:=List.length_pos_iff.2 hk;omega
       have d:((keys.length:Int)==0)=false:=by simpa using hk
       have a:Hid (formB sclr ⟨11,text,false,keys,items⟩=false):=hid (by simp[formB,hk]);go_wp2_with fail;refine(zcx text htl _).mono ?_;rintro e h ⟨rfl,b⟩;subst b;rw[i.out];go_wp2;go_ret;exact⟨by rw[a.out]<;>rfl,c.out⟩
   .have h11b:(kind==11)=false:=by simpa using h11
    cases ord with
    |true=>
     have a:Hid (formB sclr ⟨kind,text,true,keys,items⟩=false):=hid (by simp[formB,h9,h10,h11]);go_wp2;go_ret;exact⟨by rw[a.out]<;>rfl,c.out⟩
    |false=>
     by_cases hk:keys=[]
     .subst hk;by_cases hi:items=[]
      .subst hi;have a:Hid (formB sclr ⟨kind,text,false,[],[]⟩=sclr kind text):=hid (by simp[formB,h9,h10,h11]);have q:=hid (u.out h9 h10 h11 rfl rfl rfl l m.out);obtain⟨r,s⟩:=ex (sclr kind text)
       rw[s]at q a;clear s;go_wp2_with fail;refine q.out.mono ?_;rintro e h ⟨rfl,j⟩;have p:Hid (Below w.heap.size w h):=hid (c.out.trans (j.mono c.out.size));clear j;go_wp2;go_ret;exact⟨by rw[a.out]<;>rfl,p.out⟩
      .have f:¬((items.length:Int)=0):=by have:=List.length_pos_iff.2 hi;omega
       have d:((items.length:Int)==0)=false:=by simpa using hi
       have a:Hid (formB sclr ⟨kind,text,false,[],items⟩=false):=hid (by simp[formB,h9,h10,h11,hi]);go_wp2;go_ret;exact⟨by rw[a.out]<;>rfl,c.out⟩
     .have f:¬((keys.length:Int)=0):=by have:=List.length_pos_iff.2 hk;omega
      have d:((keys.length:Int)==0)=false:=by simpa using hk
      have a:Hid (formB sclr ⟨kind,text,false,keys,items⟩=false):=hid (by simp[formB,h9,h10,h11,hk]);go_wp2;go_ret;exact⟨by rw[a.out]<;>rfl,c.out⟩
theorem zi0 (sh y m d h mi c zh zm nanos z:Int) (hv:Cal.vld y m d=true) (h0:0<=h) (h1:h<=1000) (h2:0<=mi) (h3:mi<=1000) (h4:0<=c) (h5:c<=1000) (h6:0<=zh) (h7:zh<=1000) (h8:0<=zm) (h9:zm<=1000) (w:World):
 Calls prog 57 #[.agg #[.int .i64 sh,.int .i64 y,.int .i64 m,.int .i64 d,.int .i64 h,.int .i64 mi,.int .i64 c,.int .i64 zh,.int .i64 zm,.int .i64 nanos,.int .u8 z]] w fun e w'=>e=.returned (.int .i64 (if z=43 then Cal.num y m d*86400+h*3600+mi*60+c-(zh*3600+zm*60)else Cal.num y m d*86400+h*3600+mi*60+c+(zh*3600+zm*60)))/\Below w.heap.size w w':=by
 have v:=hid (fun W=>zll y m d hv W);have t:=Cal.zzf hv;obtain⟨q,u⟩:=ex (Cal.num y m d)
 rw[u]at v t ⊢;obtain⟨hb0,hb1⟩:=t;clear u hv;obtain⟨r,p⟩:=ex (if z=43 then q*86400+h*3600+mi*60+c-(zh*3600+zm*60)else q*86400+h*3600+mi*60+c+(zh*3600+zm*60))
 have x:=hid p;rw[p];clear p;go_enter func57,ntmps57;go_upto_region 1 with fail;obtain⟨f,g⟩:=ex w.heap.size
 obtain⟨l,k⟩:∃l,l=w.alloc (.cells #[.int .i64 sh,.int .i64 y,.int .i64 m,.int .i64 d,.int .i64 h,.int .i64 mi,.int .i64 c,.int .i64 zh,.int .i64 zm,.int .i64 nanos,.int .u8 z] 94):=⟨_,rfl⟩
 have b:Hid (Blk l f 94 #[.int .i64 sh,.int .i64 y,.int .i64 m,.int .i64 d,.int .i64 h,.int .i64 mi,.int .i64 c,.int .i64 zh,.int .i64 zm,.int .i64 nanos,.int .u8 z]/\Below f w l):=hid (by rw[k,<-g];exact⟨Blk.new _ _ _,(Below.refl _ _).alloc (Nat.le_refl _) _⟩);have n:=hid g;(try rw[<-k]);(try rw[g]);clear k g;have A:l.cell? ⟨f,1,none⟩=some (.int .i64 y):=b.out.1.cell 1;have B:l.cell? ⟨f,2,none⟩=some (.int .i64 m):=b.out.1.cell 2;have C:l.cell? ⟨f,3,none⟩=some (.int .i64 d):=b.out.1.cell 3;go_wp2_with fail;refine(v.out _).mono ?_;rintro e i ⟨rfl,j⟩;have a:Hid (Blk i f 94 #[.int .i64 sh,.int .i64 y,.int .i64 m,.int .i64 d,.int .i64 h,.int .i64 mi,.int .i64 c,.int .i64 zh,.int .i64 zm,.int .i64 nanos,.int .u8 z]/\Below f w i):=hid ⟨b.out.1.below j b.out.1.lt,b.out.2.trans (j.mono (Nat.le_of_lt b.out.1.lt))⟩;clear j A B C;have q4:i.cell? ⟨f,4,none⟩=some (.int .i64 h):=a.out.1.cell 4;have q5:i.cell? ⟨f,5,none⟩=some (.int .i64 mi):=a.out.1.cell 5;have q6:i.cell? ⟨f,6,none⟩=some (.int .i64 c):=a.out.1.cell 6;have q7:i.cell? ⟨f,7,none⟩=some (.int .i64 zh):=a.out.1.cell 7;have q8:i.cell? ⟨f,8,none⟩=some (.int .i64 zm):=a.out.1.cell 8;have q10:i.cell? ⟨f,10,none⟩=some (.int .u8 z):=a.out.1.cell 10;by_cases hz:z=43
 .have o:(z==43)=true:=by simpa using hz
  have s:Hid (r=q*86400+h*3600+mi*60+c-(zh*3600+zm*60)):=hid (by rw[<-x.out,if_pos hz]);clear hz;go_wp2;go_ret;rw[s.out,n.out];exact⟨rfl,a.out.2⟩
 .have o:(z==43)=false:=by simpa using hz
  have s:Hid (r=q*86400+h*3600+mi*60+c+(zh*3600+zm*60)):=hid (by rw[<-x.out,if_neg hz]);go_wp2;go_ret;rw[s.out,n.out];exact⟨rfl,a.out.2⟩
def prngB (sh:Int) (y m d h mi c zh zm:Nat):Bool:=(decide (sh=2) || Cal.vld y m d) && decide (h<=23) && decide (mi<=59) && decide (c<=59) && decide (zh<=23) && decide (zm<=59)
theorem zfo (sh:Int) (y m d h mi c zh zm:Nat) (nanos z:Int) (w:World):
 Calls prog 55 #[.agg #[.int .i64 sh,.int .i64 (y:Int),.int .i64 (m:Int),.int .i64 (d:Int),.int .i64 (h:Int),.int .i64 (mi:Int),.int .i64 (c:Int),.int .i64 (zh:Int),.int .i64 (zm:Int),.int .i64 nanos,.int .u8 z]] w fun e w'=>e=.returned (.bool (prngB sh y m d h mi c zh zm))/\Below w.heap.size w w':=by
 have V:=hid (fun q W=>zll (y:Int) (m:Int) (d:Int) q W);have X:=hid (fun q W=>zwr (y:Int) (m:Int) (d:Int) q W);obtain⟨r,Q⟩:=ex (prngB sh y m d h mi c zh zm)
 have C:=hid Q;rw[Q];clear Q;go_enter func55,ntmps55;go_upto_region 1 with fail;obtain⟨i,v⟩:=ex w.heap.size
 obtain⟨H,B⟩:∃H,H=w.alloc (.cells #[.int .i64 sh,.int .i64 (y:Int),.int .i64 (m:Int),.int .i64 (d:Int),.int .i64 (h:Int),.int .i64 (mi:Int),.int .i64 (c:Int),.int .i64 (zh:Int),.int .i64 (zm:Int),.int .i64 nanos,.int .u8 z] 94):=⟨_,rfl⟩
 have b:Hid (Blk H i 94 #[.int .i64 sh,.int .i64 (y:Int),.int .i64 (m:Int),.int .i64 (d:Int),.int .i64 (h:Int),.int .i64 (mi:Int),.int .i64 (c:Int),.int .i64 (zh:Int),.int .i64 (zm:Int),.int .i64 nanos,.int .u8 z]/\Below i w H):=hid (by rw[B,<-v];exact⟨Blk.new _ _ _,(Below.refl _ _).alloc (Nat.le_refl _) _⟩);have l:=hid v;(try rw[<-B]);(try rw[v]);clear B v;obtain⟨M,n⟩:=ex (decide (sh=2))
 have L:=hid n;go_cut [10] (fun s10 N=>s10=.bool (!M)/\N=H)
 case first=>
  have q0:H.cell? ⟨i,0,none⟩=some (.int .i64 sh):=b.out.1.cell 0;have hbe:(sh != 2)=!M:=by rw[<-n,bne];congr 1
  have hbe2:(sh==2)=M:=by rw[<-n];rfl
  clear n;go_wp2;go_meet
  first|exact⟨rfl,rfl⟩|exact⟨by simp,rfl⟩
 case rest=>
 obtain⟨rfl,rfl⟩:=hcut;refine(‹∀(a:Act) (w_1:World),Code.wp prog _ _ a w_1->_›) _ _ ?_;go_cut [] (fun N=>Hid ((sh=2\/Cal.vld y m d=true)/\Blk N i 94 #[.int .i64 sh,.int .i64 (y:Int),.int .i64 (m:Int),.int .i64 (d:Int),.int .i64 (h:Int),.int .i64 (mi:Int),.int .i64 (c:Int),.int .i64 (zh:Int),.int .i64 (zm:Int),.int .i64 nanos,.int .u8 z]/\Below i w N))
 case first=>
  have S:wc.cell? ⟨i,1,none⟩=some (.int .i64 (y:Int)):=b.out.1.cell 1;have T:wc.cell? ⟨i,2,none⟩=some (.int .i64 (m:Int)):=b.out.1.cell 2;have U:wc.cell? ⟨i,3,none⟩=some (.int .i64 (d:Int)):=b.out.1.cell 3;clear n;cases M with
  |true=>
   have P:Hid (sh=2):=hid (of_decide_eq_true L.out);go_wp2;go_meet;exact hid ⟨.inl P.out,b.out.1,b.out.2⟩
  |false=>
   have P:Hid (¬sh=2):=hid (of_decide_eq_false L.out);cases q:Cal.vld y m d with
   |true=>
    have x:=hid q;have O:=hid (V.out q);clear q;go_wp2_with fail;refine(O.out _).mono ?_;rintro e K ⟨rfl,j⟩;have t:Hid (Blk K i 94 #[.int .i64 sh,.int .i64 (y:Int),.int .i64 (m:Int),.int .i64 (d:Int),.int .i64 (h:Int),.int .i64 (mi:Int),.int .i64 (c:Int),.int .i64 (zh:Int),.int .i64 (zm:Int),.int .i64 nanos,.int .u8 z]/\Below i w K):=hid ⟨b.out.1.below j b.out.1.lt,b.out.2.trans (j.mono (Nat.le_of_lt b.out.1.lt))⟩;clear j S T U;go_wp2;go_meet;exact hid ⟨.inr x.out,t.out.1,t.out.2⟩
   |false=>
    have o:Hid (r=false):=hid (by rw[<-C.out];unfold prngB;rw[q,decide_eq_false P.out];rfl);have O:=hid (X.out q);clear q;go_wp2_with fail;refine(O.out _).mono ?_;rintro e K ⟨rfl,j⟩;have t:Hid (Blk K i 94 #[.int .i64 sh,.int .i64 (y:Int),.int .i64 (m:Int),.int .i64 (d:Int),.int .i64 (h:Int),.int .i64 (mi:Int),.int .i64 (c:Int),.int .i64 (zh:Int),.int .i64 (zm:Int),.int .i64 nanos,.int .u8 z]/\Below i w K):=hid ⟨b.out.1.below j b.out.1.lt,b.out.2.trans (j.mono (Nat.le_of_lt b.out.1.lt))⟩;clear j S T U;go_wp2;go_ret;rw[o.out,l.out];exact⟨rfl,t.out.2⟩
 case rest=>
 have s:=hcut;clear hcut b n;refine(‹∀(a:Act) (w_1:World),Code.wp prog _ _ a w_1->_›) _ _ ?_;have i0:∀w,(Instr.index 127 (.agg #[.int .i64 23,.int .i64 59,.int .i64 59,.int .i64 23,.int .i64 59]) (.int .i64 0)).run prog w=.ok (.int .i64 23) w:=fun _=>by kernel_rfl
 have i1:∀w,(Instr.index 127 (.agg #[.int .i64 23,.int .i64 59,.int .i64 59,.int .i64 23,.int .i64 59]) (.int .i64 1)).run prog w=.ok (.int .i64 59) w:=fun _=>by kernel_rfl
 have i2:∀w,(Instr.index 127 (.agg #[.int .i64 23,.int .i64 59,.int .i64 59,.int .i64 23,.int .i64 59]) (.int .i64 2)).run prog w=.ok (.int .i64 59) w:=fun _=>by kernel_rfl
 have i3:∀w,(Instr.index 127 (.agg #[.int .i64 23,.int .i64 59,.int .i64 59,.int .i64 23,.int .i64 59]) (.int .i64 3)).run prog w=.ok (.int .i64 23) w:=fun _=>by kernel_rfl
 have i4:∀w,(Instr.index 127 (.agg #[.int .i64 23,.int .i64 59,.int .i64 59,.int .i64 23,.int .i64 59]) (.int .i64 4)).run prog w=.ok (.int .i64 59) w:=fun _=>by kernel_rfl
 go_upto_block 0 with fail;obtain⟨D,A⟩:=ex (wc.alloc (.cells #[.int .i64 23,.int .i64 59,.int .i64 59,.int .i64 23,.int .i64 59] 127))
 have f:Hid (Blk D i 94 #[.int .i64 sh,.int .i64 (y:Int),.int .i64 (m:Int),.int .i64 (d:Int),.int .i64 (h:Int),.int .i64 (mi:Int),.int .i64 (c:Int),.int .i64 (zh:Int),.int .i64 (zm:Int),.int .i64 nanos,.int .u8 z]/\Below i w D):=hid (by rw[<-A];exact⟨s.out.2.1.alloc _,s.out.2.2.alloc (Nat.le_of_lt s.out.2.1.lt) _⟩);(try rw[A]);clear A;have q4:D.cell? ⟨i,4,none⟩=some (.int .i64 (h:Int)):=f.out.1.cell 4;have q5:D.cell? ⟨i,5,none⟩=some (.int .i64 (mi:Int)):=f.out.1.cell 5;have q6:D.cell? ⟨i,6,none⟩=some (.int .i64 (c:Int)):=f.out.1.cell 6;have q7:D.cell? ⟨i,7,none⟩=some (.int .i64 (zh:Int)):=f.out.1.cell 7;have q8:D.cell? ⟨i,8,none⟩=some (.int .i64 (zm:Int)):=f.out.1.cell 8;go_wp2_with fail;go_loop [28] (fun s28=>∃k:Int,0<=k/\k<=5/\s28=.int .i64 k/\Hid ((0<k->h<=23)/\(1<k->mi<=59)/\(2<k->c<=59)/\(3<k->zh<=23)/\(4<k->zm<=59))) (fun s28=>5-(intOf s28).toNat)
 case atStart=>exact⟨0,by omega,by omega,rfl,hid ⟨by omega,by omega,by omega,by omega,by omega⟩⟩
 case round=>
  obtain⟨k,hk0,hk5,rfl,x⟩:=hrel;have R:k=0\/k=1\/k=2\/k=3\/k=4\/k=5:=by omega
  rcases R with rfl|rfl|rfl|rfl|rfl|rfl
  .by_cases hx:h<=23
   .have g:¬(23:Int)<(h:Int):=by omega
    have u:=hid hx;clear hx;go_wp2;go_round
    case rel=>exact⟨1,by omega,by omega,rfl,hid (by obtain⟨J,I,E,G,F⟩:=x.out;have:=u.out;exact⟨by omega,by omega,by omega,by omega,by omega⟩)⟩
    case measure=>simp[intOf]
   .have g:(23:Int)<(h:Int):=by omega
    have o:Hid (r=false):=hid (by rw[<-C.out];unfold prngB;rw[decide_eq_false (p:=h<=23) hx];simp);clear hx;go_wp2;go_ret;rw[o.out,l.out];exact⟨rfl,f.out.2⟩
  .by_cases hx:mi<=59
   .have g:¬(59:Int)<(mi:Int):=by omega
    have u:=hid hx;clear hx;go_wp2;go_round
    case rel=>exact⟨2,by omega,by omega,rfl,hid (by obtain⟨J,I,E,G,F⟩:=x.out;have:=u.out;exact⟨by omega,by omega,by omega,by omega,by omega⟩)⟩
    case measure=>simp[intOf]
   .have g:(59:Int)<(mi:Int):=by omega
    have o:Hid (r=false):=hid (by rw[<-C.out];unfold prngB;rw[decide_eq_false (p:=mi<=59) hx];simp);clear hx;go_wp2;go_ret;rw[o.out,l.out];exact⟨rfl,f.out.2⟩
  .by_cases hx:c<=59
   .have g:¬(59:Int)<(c:Int):=by omega
    have u:=hid hx;clear hx;go_wp2;go_round
    case rel=>exact⟨3,by omega,by omega,rfl,hid (by obtain⟨J,I,E,G,F⟩:=x.out;have:=u.out;exact⟨by omega,by omega,by omega,by omega,by omega⟩)⟩
    case measure=>simp[intOf]
   .have g:(59:Int)<(c:Int):=by omega
    have o:Hid (r=false):=hid (by rw[<-C.out];unfold prngB;rw[decide_eq_false (p:=c<=59) hx];simp);clear hx;go_wp2;go_ret;rw[o.out,l.out];exact⟨rfl,f.out.2⟩
  .by_cases hx:zh<=23
   .have g:¬(23:Int)<(zh:Int):=by omega
    have u:=hid hx;clear hx;go_wp2;go_round
    case rel=>exact⟨4,by omega,by omega,rfl,hid (by obtain⟨J,I,E,G,F⟩:=x.out;have:=u.out;exact⟨by omega,by omega,by omega,by omega,by omega⟩)⟩
    case measure=>simp[intOf]
   .have g:(23:Int)<(zh:Int):=by omega
    have o:Hid (r=false):=hid (by rw[<-C.out];unfold prngB;rw[decide_eq_false (p:=zh<=23) hx];simp);clear hx;go_wp2;go_ret;rw[o.out,l.out];exact⟨rfl,f.out.2⟩
  .by_cases hx:zm<=59
   .have g:¬(59:Int)<(zm:Int):=by omega
    have u:=hid hx;clear hx;go_wp2;go_round
    case rel=>exact⟨5,by omega,by omega,rfl,hid (by obtain⟨J,I,E,G,F⟩:=x.out;have:=u.out;exact⟨by omega,by omega,by omega,by omega,by omega⟩)⟩
    case measure=>simp[intOf]
   .have g:(59:Int)<(zm:Int):=by omega
    have o:Hid (r=false):=hid (by rw[<-C.out];unfold prngB;rw[decide_eq_false (p:=zm<=59) hx];simp);clear hx;go_wp2;go_ret;rw[o.out,l.out];exact⟨rfl,f.out.2⟩
  .have o:Hid (r=true):=hid (by
    obtain⟨J,I,E,G,F⟩:=x.out;rw[<-C.out];unfold prngB;rw[decide_eq_true (J (by omega)),decide_eq_true (I (by omega)),decide_eq_true (E (by omega)),decide_eq_true (G (by omega)),decide_eq_true (F (by omega))];rcases s.out.1 with h|h<;>simp[h])
   go_wp2;go_ret;rw[o.out,l.out];exact⟨rfl,f.out.2⟩
end Go.Proofs.YtpjmhafmeieloaaGreatDoor
