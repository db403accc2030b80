import Derived.Test.YtoigpackhninoaaGreatDoorZ18
namespace Go.Proofs.YtoigpackhninoaaGreatDoor
open Gr
open _root_.Go.Proofs.Tryz
open _root_.Go.Lib (hid)
set_option maxRecDepth 100000
set_option maxHeartbeats 16000000
open Go.RowKit
theorem ze6 (s:Gr.Str) (hl:s.length<=1073741823) (a:Nat) (i:Int) (hi:i=(a:Int)) (ha:a<=1073741824) (date:Bool) (Y M D:Int) (w:World):
 Calls prog 135 #[.string ⟨s.toArray⟩,.int .i64 i,.agg #[.bool date,.bool false,.bool false,.int .i64 Y,.int .i64 M,.int .i64 D,.int .i64 0,.int .i64 0,.int .i64 0,.int .i64 0,.int .i64 0,.bool false]] w (za3 s a date Y M D w):=by
 subst hi;have HT1:=hid (fun W=>zb2 s hl a 2 (a:Int) 2 rfl rfl (by omega) (by omega) W);have HT2:=hid (fun W=>zb2 s hl (a+3) 2 ((a:Int)+3) 2 (by omega) rfl (by omega) (by omega) W);have HT3:=hid (fun W=>zb2 s hl (a+6) 2 ((a:Int)+6) 2 (by omega) rfl (by omega) (by omega) W);have HI1:=hid (fun W=>zb3 s hl (a+2) ((a:Int)+2) (by omega) 58 58 rfl W);have HI2:=hid (fun W=>zb3 s hl (a+5) ((a:Int)+5) (by omega) 58 58 rfl W);have HI3:=hid (fun W=>zb3 s hl (a+8) ((a:Int)+8) (by omega) 46 46 rfl W);have HSH:=hid (fun h=> @zb5 s a 2 h);have HSM:=hid (fun h=> @zb5 s (a+3) 2 h);have HSC:=hid (fun h=> @zb5 s (a+6) 2 h);have HNH:=hid (fun h=> @zb6 s a 2 h);have HNM:=hid (fun h=> @zb6 s (a+3) 2 h);have HNC:=hid (fun h=> @zb6 s (a+6) 2 h);have bH:=zgw s a 2 (by omega);have bM:=zgw s (a+3) 2 (by omega);have bC:=zgw s (a+6) 2 (by omega);obtain⟨H,hH⟩:=ex (tw s a 2)
 obtain⟨N0,hN⟩:=ex (tw s (a+3) 2)
 obtain⟨C,hC⟩:=ex (tw s (a+6) 2)
 obtain⟨p,hp⟩:=ex (isAt s (a+2) 58)
 obtain⟨q,hq⟩:=ex (isAt s (a+5) 58)
 obtain⟨z,hz⟩:=ex (isAt s (a+8) 46)
 have HP:Hid (isAt s (a+2) 58=p/\isAt s (a+5) 58=q/\isAt s (a+8) 46=z):=hid ⟨hp,hq,hz⟩;rw[hH]at HT1 HSH HNH bH;rw[hN]at HT2 HSM HNM bM;rw[hC]at HT3 HSC HNC bC;rw[hp]at HI1;rw[hq]at HI2;rw[hz]at HI3;clear hH hN hC hp hq hz;have hc:H<0\/(¬H<0/\N0<0)\/(¬H<0/\¬N0<0/\C<0)\/(¬H<0/\¬N0<0/\¬C<0/\p=false)\/(¬H<0/\¬N0<0/\¬C<0/\p=true/\q=false)\/(¬H<0/\¬N0<0/\¬C<0/\p=true/\q=true):=by
  cases p<;>cases q<;>simp<;>omega
 have go:∀(r:Int) (ok:Bool) (n:Int) (w':World),Below w.heap.size w w'->(clockAt s a=none/\r=-1\/∃h m c f t:Nat,clockAt s a=some ⟨h,m,c,f,t⟩/\r=(t:Int)/\ok=true/\H=h/\N0=m/\C=c/\n=f)->za3 s a date Y M D w (.returned (.tuple #[.agg #[.bool date,.bool ok,.bool false,.int .i64 Y,.int .i64 M,.int .i64 D,.int .i64 H,.int .i64 N0,.int .i64 C,.int .i64 n,.int .i64 0,.bool false],.int .i64 r])) w':=by
  intro r ok n w' hb h;refine⟨⟨date,ok,false,Y,M,D,H,N0,C,n,0,false⟩,r,rfl,hb,?_⟩;rcases h with⟨h1,h2⟩|⟨h,m,c,f,t,h1,h2,h3,rfl,rfl,rfl,rfl⟩
  ·rw[h1];exact h2
  ·rw[h1];exact⟨h2,by rw[h3]⟩
 have HGO:=hid go;clear go;rcases hc with c1|⟨c1,c2⟩|⟨c1,c2,c3⟩|⟨c1,c2,c3,rfl⟩|⟨c1,c2,c3,rfl,rfl⟩|⟨c1,c2,c3,rfl,rfl⟩
 case inr.inr.inr.inr.inr=>
  have HF:Hid (∃h m c:Nat,numAt s a 2=some h/\numAt s (a+3) 2=some m/\numAt s (a+6) 2=some c/\H=h/\N0=m/\C=c):=hid (by
   obtain⟨y,h1,h2⟩:=HSH.out c1;obtain⟨m,h3,h4⟩:=HSM.out c2;obtain⟨d,h5,h6⟩:=HSC.out c3;exact⟨y,m,d,h1,h3,h5,h2,h4,h6⟩)
  clear HSH HSM HSC HNH HNM HNC;go_enter func135,ntmps135;go_wp2_with fail;refine(HT1.out _).mono ?_;rintro e w1 ⟨rfl,rfl⟩;go_wp2_with fail;refine(HT2.out _).mono ?_;rintro e w1 ⟨rfl,rfl⟩;go_wp2_with fail;refine(HT3.out _).mono ?_;rintro e w1 ⟨rfl,rfl⟩;go_wp2_with fail;refine(HI1.out _).mono ?_;rintro e w1 ⟨rfl,rfl⟩;go_wp2_with fail;refine(HI2.out _).mono ?_;rintro e w1 ⟨rfl,rfl⟩;go_upto_region 5 with fail;clear HT1 HT2 HT3 HI1 HI2;obtain⟨gb,hgb⟩:=ex w.heap.size
  obtain⟨wy,hwy⟩:=ex ((w.alloc (.cells #[.bool date,.bool true,.bool false,.int .i64 Y,.int .i64 M,.int .i64 D,.int .i64 H,.int .i64 N0,.int .i64 C,.int .i64 0,.int .i64 0,.bool false] 111)).alloc (.cells #[.bool false,.bool false,.bool false,.int .i64 0,.int .i64 0,.int .i64 0,.int .i64 0,.int .i64 0,.int .i64 0,.int .i64 0,.int .i64 0,.bool false] 111))
  have HB:Hid (Blk wy gb 111 (T12 date true false Y M D H N0 C 0 0 false)/\Blk wy (gb+1) 111 (T12 false false false 0 0 0 0 0 0 0 0 false)/\Below gb w wy):=hid (by
   rw[<-hwy,<-hgb];refine⟨(Blk.new _ _ _).alloc _,?_,zbh _ _⟩;have:=Blk.new (w.alloc (.cells #[.bool date,.bool true,.bool false,.int .i64 Y,.int .i64 M,.int .i64 D,.int .i64 H,.int .i64 N0,.int .i64 C,.int .i64 0,.int .i64 0,.bool false] 111)) 111 (T12 false false false 0 0 0 0 0 0 0 0 false);rwa[World.size_alloc]at this)
  have HGB:=hid hgb;rw[hwy];(try rw[hgb]);clear hwy hgb;go_cut [1] (fun s1 wx=>s1=.int .i64 ((a:Int)+8)/\wx=wy)
  case first=>
   go_wp2;go_meet;exact⟨rfl,rfl⟩
  case rest=>
   obtain⟨rfl,rfl⟩:=hcut;refine(‹∀(a:Act) (w_1:World),Code.wp prog _ _ a w_1->_›) _ _ ?_;exact zm2 s hl a ha date Y M D H N0 C z w _ gb HGO HF HP HI3 HGB HB
 all_goals
  have HF:Hid (clockAt s a=none):=hid (by
   unfold clockAt
   first
    | (rw[HNH.out c1])
    | (obtain⟨y,h1,_⟩:=HSH.out c1;rw[h1,HNM.out c2])
    | (obtain⟨y,h1,_⟩:=HSH.out c1;obtain⟨m,h3,_⟩:=HSM.out c2;rw[h1,h3,HNC.out c3])
    | (obtain⟨y,h1,_⟩:=HSH.out c1;obtain⟨m,h3,_⟩:=HSM.out c2;obtain⟨d,h5,_⟩:=HSC.out c3;rw[h1,h3,h5,HP.out.1,HP.out.2.1];rfl)
    | (obtain⟨y,h1,_⟩:=HSH.out c1;obtain⟨m,h3,_⟩:=HSM.out c2;obtain⟨d,h5,_⟩:=HSC.out c3;rw[h1,h3,h5,HP.out.1];rfl))
  go_enter func135,ntmps135;go_wp2_with fail;refine(HT1.out _).mono ?_;rintro e w1 ⟨rfl,rfl⟩;go_wp2_with fail;refine(HT2.out _).mono ?_;rintro e w1 ⟨rfl,rfl⟩;go_wp2_with fail;refine(HT3.out _).mono ?_;rintro e w1 ⟨rfl,rfl⟩;go_wp2_with fail;(try (refine(HI1.out _).mono ?_;rintro e w1 ⟨rfl,rfl⟩;go_wp2_with fail));(try (refine(HI2.out _).mono ?_;rintro e w1 ⟨rfl,rfl⟩;go_wp2_with fail));refine bodyPost_ret (v:=.tuple #[.agg #[.bool date,.bool false,.bool false,.int .i64 Y,.int .i64 M,.int .i64 D,.int .i64 H,.int .i64 N0,.int .i64 C,.int .i64 0,.int .i64 0,.bool false],.int .i64 (-1)]) (by rw[results_cell_tmp rfl];go_simp) rfl ?_;exact HGO.out _ _ _ _ (zbh _ _) (.inl ⟨HF.out,rfl⟩)
end Go.Proofs.YtoigpackhninoaaGreatDoor
