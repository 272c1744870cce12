/- The walk of the law's awake. -/
import Derived.Test.YtgbkbgiogdhnaaaGreatDoorNDj
import Derived.Deep.RegionHeld3
set_option linter.unusedVariables false
set_option linter.unusedSimpArgs false
set_option linter.defProp false
set_option linter.constructorNameAsVariable false
namespace Go.Proofs.YtgbkbgiogdhnaaaGreatDoor
open Go.RowKit
theorem s_alloc {w:World} {p:Addr} {u:Value} {o:Obj} (h:w.cell? p=some u):(w.alloc o).cell? p=some u:=(((Below.refl w.heap.size w).alloc (Nat.le_refl _) o).cell (block_lt_of_cell h)).trans h
theorem t_ne {w:World} {b:Nat} {t:TypeId} {xs:List Value} (_:Hid (Arr w b t xs)) {c:Nat} (h:c<b):b≠c:=by omega
def FinT (w:World) (t gx cx:Nat) (W:World):Prop:=Arr W t 29 [.slice (some ⟨gx,0,none⟩) 7 cx,.int .i64 0]∧Below w.heap.size w W∧GRd W W.heap.size gx 0 gM
theorem tfin {w w10:World} {t gx cx:Nat} (hT:Hid (Arr w10 t 29 [.slice none 0 0,.int .i64 0])) (hB:Hid (Below w.heap.size w w10)) (hl:w.heap.size≤t) (hk:∀w'' b xs,Arr w10 b 29 xs→w10.grownBy w'' (some b)→GRd w'' w''.heap.size gx 0 gM) :
  Hid (FinT w t gx cx ((w10.setCell ⟨t,0,none⟩ (.slice (some ⟨gx,0,none⟩) 7 cx)).setCell ⟨t,1,none⟩ (.int .i64 0))):=
 ⟨(hT.out.store 0 _).store 1 _,(hB.out.setCell (p:=⟨t,0,none⟩) hl _).setCell (p:=⟨t,1,none⟩) hl _,hk _ t _ hT.out (grown_trans (grown_set w10 ⟨t,0,none⟩ _) (grown_set _ ⟨t,1,none⟩ _))⟩
theorem tfin5 {w w10:World} {gx cx:Nat} (hB:Hid (Below w.heap.size w w10)) (hG:GRd w10 w10.heap.size gx 0 gM):Hid (FinT w w10.heap.size gx cx (w10.alloc (.cells #[.slice (some ⟨gx,0,none⟩) 7 cx,.int .i64 0] 29))):=
 ⟨Arr.new w10 _ _,hB.out.alloc hB.out.size _,(hG.below ((Below.refl _ _).alloc (Nat.le_refl _) _) (Nat.le_refl _)).up (by simp) (Nat.le_refl _)⟩
set_option maxRecDepth 100000 in
set_option maxHeartbeats 32000000 in
theorem awake_true:AwakeT:=fun w hw=>by
 have HW:=Lib.hid hw
 have DI:=Lib.hid sc_int
 have DD:=Lib.hid sc_dec
 have DA:=Lib.hid sc_a
 have DB:=Lib.hid sc_b
 have DL2:=Lib.hid (fun(n1 n2 ab:Nat) (w:World) hw h1 h2 hA=>list_two (n1:=n1) (n2:=n2) (ab:=ab) w hw h1 h2 hA)
 have DM0:=Lib.hid map_none
 have DM2:=Lib.hid (fun(n1 n2 gl cl gm cm ab:Nat) (w:World) hw h1 h2 h3 h4 hA=>map_two (n1:=n1) (n2:=n2) (gl:=gl) (cl:=cl) (gm:=gm) (cm:=cm) (ab:=ab) w hw h1 h2 h3 h4 hA)
 have DQ:=Lib.hid (fun(w:World) (h:LibE w)=>jquote_any [10,1] (by_dec (by rfl)) (by decide) w h.lib)
 rw [quote_2] at DQ
 have DT:=Lib.hid (fun(g c:Nat) (w:World) (h:LibE w) (hG:GRd w w.heap.size g 0 gM)=>outLiteral_any (c:=c) (n:=7) rfl out_gM lit_gM (by_dec (by rfl)) (by decide) (by decide) w h hG)
 rw [lim_lit] at DT
 have DP:=Lib.hid (fun(g c:Nat) (w:World) (h:LibE w) (hG:GRd w w.heap.size g 0 gM)=>outPrint_any (c:=c) (n:=7) rfl out_gM prt_gM (by_dec (by rfl)) (by decide) (by decide) w h hG)
 rw [lim_prt] at DP
 unfold LeafG at DI DD DA DB
 unfold GrR at DL2 DM0 DM2
 have e3:gL.length=3:=rfl
 have e1:[gMap0].length=1:=rfl
 have e7:gM.length=7:=rfl
 rw [e3] at DL2
 rw [e1] at DM0
 rw [e7] at DM2
 clear e1 e3 e7
 have eL:mks litM=⟨#[123,34,97,34,58,32,123,125,44,32,34,98,34,58,32,91,49,44,32,49,46,53,93,125]⟩:=by rfl
 have eP:mks (prtM ++ [10])=⟨#[123,10,32,32,34,97,34,58,32,123,125,44,10,32,32,34,98,34,58,32,91,10,32,32,32,32,49,44,10,32,32,32,32,49,46,53,10,32,32,93,10,125,10]⟩:=by rfl
 have eQ:mks [34,92,110,92,117,48,48,48,49,34]=⟨#[34,92,110,92,117,48,48,48,49,34]⟩:=by rfl
 have e0:((0:Nat):Int)=0:=rfl
 have e2:mks [10,1]=⟨#[10,1]⟩:=by rfl
 simp only [eL,e0] at DT
 simp only [eP,e0] at DP
 simp only [eQ,e2] at DQ
 clear eL eP eQ e0 e2
 clear hw
 go_enter Tryz.func10,Tryz.ntmps10
 go_upto_region 2 with(first
  | (go_at_call 8;((with_reducible refine(DI.out _ HW.out).mono ?_));rintro e w1 ⟨n1,rfl,hb1,hg1⟩;have hw1:=Lib.hid (HW.out.keep hb1);have HG1:=Lib.hid hg1;have HB1:=Lib.hid hb1)
  | (go_at_call 8;((with_reducible refine(DD.out _ hw1.out).mono ?_));rintro e w2 ⟨n2,rfl,hb2,hg2⟩;have hw2:=Lib.hid (hw1.out.keep hb2);have HB2:=Lib.hid (HB1.out.trans (hb2.mono HB1.out.size));have HG1b:=Lib.hid ((HG1.out.below hb2 (Nat.le_refl _)).up hb2.size (Nat.le_refl _));have HG2:=Lib.hid hg2)
  | (go_at_call 24;have hA3:Hid (Arr (w2.alloc (.cells #[.slice (some ⟨n1,0,none⟩) 1 1,.int .i64 0,.slice (some ⟨n2,0,none⟩) 1 1,.int .i64 0] 29)) w2.heap.size 29 [.slice (some ⟨n1,0,none⟩) 1 1,.int .i64 0,.slice (some ⟨n2,0,none⟩) 1 1,.int .i64 0]):=Arr.new w2 _ _;have hb3:Below w2.heap.size w2 (w2.alloc (.cells #[.slice (some ⟨n1,0,none⟩) 1 1,.int .i64 0,.slice (some ⟨n2,0,none⟩) 1 1,.int .i64 0] 29)):=(Below.refl _ _).alloc (Nat.le_refl _) _;have hw3:=Lib.hid (hw2.out.keep hb3);have HB3:=Lib.hid (HB2.out.trans (hb3.mono HB2.out.size));have HG1c:=Lib.hid ((HG1b.out.below hb3 (Nat.le_refl _)).up hb3.size (Nat.le_refl _));have HG2c:=Lib.hid ((HG2.out.below hb3 (Nat.le_refl _)).up hb3.size (Nat.le_refl _));((with_reducible refine(DL2.out _ _ _ _ hw3.out HG1c.out HG2c.out hA3.out).mono ?_));rintro e w4 ⟨gl,cl,rfl,hgl,hb4,hg4,_⟩))
 clear hg1 hb1 hg2 hb2 hA3 hb3 hgl
 have hT1:Hid (Arr (w4.alloc (.cells #[.slice (some ⟨gl,0,none⟩) 3 cl,.int .i64 0] 29)) w4.heap.size 29 [.slice (some ⟨gl,0,none⟩) 3 cl,.int .i64 0]):=Arr.new w4 _ _
 have hb5:Below w4.heap.size w4 (w4.alloc (.cells #[.slice (some ⟨gl,0,none⟩) 3 cl,.int .i64 0] 29)):=(Below.refl _ _).alloc (Nat.le_refl _) _
 have hw5:=Lib.hid ((hw3.out.keep hb4).keep hb5)
 have HB5:=Lib.hid ((HB3.out.trans (hb4.mono HB3.out.size)).trans (hb5.mono (Nat.le_trans HB3.out.size hb4.size)))
 have hG5:=Lib.hid ((hg4.below hb5 (Nat.le_refl _)).up hb5.size (Nat.le_refl _))
 clear hg4 hb4 hb5 HB1 HB2 HB3 hw1 hw2 hw3 HG1 HG1b HG1c HG2 HG2c
 generalize (w4.alloc (.cells #[.slice (some ⟨gl,0,none⟩) 3 cl,.int .i64 0] 29))=w5 at *
 obtain⟨tb,htb⟩:∃x,w4.heap.size=x:=⟨_,rfl⟩
 rw [htb] at hT1 ⊢
 clear htb
 have l5:tb<w5.heap.size:=hT1.out.lt
 go_upto_region 3 with(go_at_call 25;((with_reducible refine(DM0.out _ hw5.out).mono ?_));rintro e w6 ⟨gm,cm,rfl,hgm,hb6,hg6,_⟩;have hT3:Hid (Arr (w6.alloc (.cells #[.slice (some ⟨gm,0,none⟩) 1 cm,.int .i64 0] 29)) w6.heap.size 29 [.slice (some ⟨gm,0,none⟩) 1 cm,.int .i64 0]):=Arr.new w6 _ _;have hb7:Below w6.heap.size w6 (w6.alloc (.cells #[.slice (some ⟨gm,0,none⟩) 1 cm,.int .i64 0] 29)):=(Below.refl _ _).alloc (Nat.le_refl _) _)
 have hw7:=Lib.hid ((hw5.out.keep hb6).keep hb7)
 have HB7:=Lib.hid ((HB5.out.trans (hb6.mono HB5.out.size)).trans (hb7.mono (Nat.le_trans HB5.out.size hb6.size)))
 have hG7:=Lib.hid ((((hG5.out.below hb6 (Nat.le_refl _)).up hb6.size (Nat.le_refl _)).below hb7 (Nat.le_refl _)).up hb7.size (Nat.le_refl _))
 have hM7:=Lib.hid ((hg6.below hb7 (Nat.le_refl _)).up hb7.size (Nat.le_refl _))
 have hT17:=Lib.hid ((hT1.out.keep hb6).keep hb7)
 have l6:tb<w6.heap.size:=Nat.lt_of_lt_of_le l5 hb6.size
 clear hgm hb6 hg6 hb7 hw5 HB5 hG5 hT1
 generalize (w6.alloc (.cells #[.slice (some ⟨gm,0,none⟩) 1 cm,.int .i64 0] 29))=w7 at *
 obtain⟨t3,ht3⟩:∃x,w6.heap.size=x:=⟨_,rfl⟩
 rw [ht3] at hT3 l6 ⊢
 clear ht3
 have l7:t3<w7.heap.size:=hT3.out.lt
 obtain⟨z,hz⟩:∃x,w7.heap.size=x:=⟨_,rfl⟩
 have HZ:=Lib.hid hz
 rw [hz] at l7
 clear hz
 have DBs:=Lib.hid (fun w' (h:Below z w7 w')=>DB.out w' (hw7.out.keep (by rw [HZ.out];exact h)))
 have DAs:=Lib.hid (fun w' (h:Below z w7 w')=>DA.out w' (hw7.out.keep (by rw [HZ.out];exact h)))
 have hS2:Below z w7 w7.drew:=(Below.refl _ _).drew
 have hzs:z≤w7.drew.heap.size:=by show z≤w7.heap.size;have:=HZ.out;omega
 have hT17d:Hid (∀w',Below z w7 w'→Arr w' tb 29 [.slice (some ⟨gl,0,none⟩) 3 cl,.int .i64 0]):=fun w' h=>hT17.out.below h (by omega)
 have hT3d:Hid (∀w',Below z w7 w'→Arr w' t3 29 [.slice (some ⟨gm,0,none⟩) 1 cm,.int .i64 0]):=fun w' h=>hT3.out.below h l7
 have p0:w7.drew.cell? ⟨tb,0,none⟩=some (.slice (some ⟨gl,0,none⟩) 3 cl):=hT17.out.cell' (i:=0) rfl
 have p1:w7.drew.cell? ⟨tb,1,none⟩=some (.int .i64 0):=hT17.out.cell' (i:=1) rfl
 have p2:w7.drew.cell? ⟨t3,0,none⟩=some (.slice (some ⟨gm,0,none⟩) 1 cm):=hT3.out.cell' (i:=0) rfl
 have p3:w7.drew.cell? ⟨t3,1,none⟩=some (.int .i64 0):=hT3.out.cell' (i:=1) rfl
 have hGMs:Hid (∀w',Below z w7 w'→GRd w' w'.heap.size gl 0 gL∧GRd w' w'.heap.size gm 0 [gMap0]∧LibE w'):=fun w' h=>by
  have hk:Below w7.heap.size w7 w':=by rw [HZ.out];exact h
  exact⟨(hG7.out.below hk (Nat.le_refl _)).up hk.size (Nat.le_refl _),(hM7.out.below hk (Nat.le_refl _)).up hk.size (Nat.le_refl _),hw7.out.keep hk⟩
 clear DI DD DL2 DM0 DA DB
 have hzs0:z≤w7.heap.size:=hzs
 have hzs1:z≤(w7.alloc (.cells #[.slice none 0 0,.int .i64 0] 29)).drew.heap.size:=Nat.le_trans hzs0 (by show w7.heap.size≤(w7.alloc _).heap.size;simp)
 have hS1:Below z w7 (w7.alloc (.cells #[.slice none 0 0,.int .i64 0] 29)).drew:=((Below.refl z w7).alloc hzs0 _).drew
 have p01:(w7.alloc (.cells #[.slice none 0 0,.int .i64 0] 29)).drew.cell? ⟨tb,0,none⟩=some (.slice (some ⟨gl,0,none⟩) 3 cl):=(hT17d.out _ hS1).cell' (i:=0) rfl
 have p11:(w7.alloc (.cells #[.slice none 0 0,.int .i64 0] 29)).drew.cell? ⟨tb,1,none⟩=some (.int .i64 0):=(hT17d.out _ hS1).cell' (i:=1) rfl
 have p21:(w7.alloc (.cells #[.slice none 0 0,.int .i64 0] 29)).drew.cell? ⟨t3,0,none⟩=some (.slice (some ⟨gm,0,none⟩) 1 cm):=(hT3d.out _ hS1).cell' (i:=0) rfl
 have p31:(w7.alloc (.cells #[.slice none 0 0,.int .i64 0] 29)).drew.cell? ⟨t3,1,none⟩=some (.int .i64 0):=(hT3d.out _ hS1).cell' (i:=1) rfl
 go_region_held3 (fun w'=>w'.cell? ⟨tb,0,none⟩=some (.slice (some ⟨gl,0,none⟩) 3 cl)∧w'.cell? ⟨tb,1,none⟩=some (.int .i64 0)∧w'.cell? ⟨t3,0,none⟩=some (.slice (some ⟨gm,0,none⟩) 1 cm)∧w'.cell? ⟨t3,1,none⟩=some (.int .i64 0)) (first | exact⟨by assumption,by assumption,by assumption,by assumption⟩ | exact⟨s_alloc (by assumption),s_alloc (by assumption),s_alloc (by assumption),s_alloc (by assumption)⟩ | go_keep)
  (first
   | (go_at_call 8;((with_reducible refine(DBs.out _ (by first | assumption | exact Below.alloc (by assumption) (by assumption) _)).mono ?_));rintro e w8 ⟨nb,rfl,hb8,hg8⟩;have hS8:Below z w7 w8:=Below.trans (by first | assumption | exact Below.alloc (by assumption) (by assumption) _) (hb8.mono (by first | assumption | (simp;omega)));have hzs8:z≤w8.heap.size:=Nat.le_trans (by first | assumption | (simp;omega)) hb8.size;have q80:=(hT17d.out _ hS8).cell' (i:=0) rfl;have q81:=(hT17d.out _ hS8).cell' (i:=1) rfl;have q82:=(hT3d.out _ hS8).cell' (i:=0) rfl;have q83:=(hT3d.out _ hS8).cell' (i:=1) rfl;(first | (have hTT:Hid (Arr w8 w7.heap.size 29 [.slice none 0 0,.int .i64 0]):=(show Arr (w7.alloc (.cells #[.slice none 0 0,.int .i64 0] 29)).drew w7.heap.size 29 [.slice none 0 0,.int .i64 0] from Arr.new w7 29 [.slice none 0 0,.int .i64 0]).keep hb8) | (have hTT:Hid (Arr w8 w9.heap.size 29 [.slice none 0 0,.int .i64 0]):=(Arr.new w9 29 [.slice none 0 0,.int .i64 0]).keep hb8) | (have hTT:=Lib.hid (hTT.out.keep hb8)) | skip))
   | (go_at_call 8;((with_reducible refine(DAs.out _ (by first | assumption | exact Below.alloc (by assumption) (by assumption) _)).mono ?_));rintro e w9 ⟨na,rfl,hb9,hg9⟩;have hS9:Below z w7 w9:=Below.trans (by first | assumption | exact Below.alloc (by assumption) (by assumption) _) (hb9.mono (by first | assumption | (simp;omega)));have hzs9:z≤w9.heap.size:=Nat.le_trans (by first | assumption | (simp;omega)) hb9.size;have q90:=(hT17d.out _ hS9).cell' (i:=0) rfl;have q91:=(hT17d.out _ hS9).cell' (i:=1) rfl;have q92:=(hT3d.out _ hS9).cell' (i:=0) rfl;have q93:=(hT3d.out _ hS9).cell' (i:=1) rfl;(first | (have hTT:Hid (Arr w9 w7.heap.size 29 [.slice none 0 0,.int .i64 0]):=(show Arr (w7.alloc (.cells #[.slice none 0 0,.int .i64 0] 29)).drew w7.heap.size 29 [.slice none 0 0,.int .i64 0] from Arr.new w7 29 [.slice none 0 0,.int .i64 0]).keep hb9) | (have hTT:Hid (Arr w9 w8.heap.size 29 [.slice none 0 0,.int .i64 0]):=(Arr.new w8 29 [.slice none 0 0,.int .i64 0]).keep hb9) | (have hTT:=Lib.hid (hTT.out.keep hb9)) | skip))
   | (go_at_call 25;(first
     | (have hk:Below w8.heap.size w8 w9:=(by first | exact hb9 | exact Below.trans ((Below.refl _ _).alloc (Nat.le_refl _) _) (hb9.mono (by simp)));obtain⟨wl,hwl,hx1,hx2,hx3⟩:∃wl,wl=w9∧GRd wl wl.heap.size nb 0 [gText 98]∧GRd wl wl.heap.size na 0 [gText 97]∧Below z w7 wl:=⟨w9,rfl,(hg8.below hk (Nat.le_refl _)).up hk.size (Nat.le_refl _),hg9,hS9⟩)
     | (have hk:Below w9.heap.size w9 w8:=(by first | exact hb8 | exact Below.trans ((Below.refl _ _).alloc (Nat.le_refl _) _) (hb8.mono (by simp)));obtain⟨wl,hwl,hx1,hx2,hx3⟩:∃wl,wl=w8∧GRd wl wl.heap.size nb 0 [gText 98]∧GRd wl wl.heap.size na 0 [gText 97]∧Below z w7 wl:=⟨w8,rfl,hg8,(hg9.below hk (Nat.le_refl _)).up hk.size (Nat.le_refl _),hS8⟩));subst hwl;(first
     | (have hAp:Arr (wl.alloc (.cells #[.slice (some ⟨nb,0,none⟩) 1 1,.int .i64 0,.slice (some ⟨gl,0,none⟩) 3 cl,.int .i64 0,.slice (some ⟨na,0,none⟩) 1 1,.int .i64 0,.slice (some ⟨gm,0,none⟩) 1 cm,.int .i64 0] 72)) wl.heap.size 72 [.slice (some ⟨nb,0,none⟩) 1 1,.int .i64 0,.slice (some ⟨gl,0,none⟩) 3 cl,.int .i64 0,.slice (some ⟨na,0,none⟩) 1 1,.int .i64 0,.slice (some ⟨gm,0,none⟩) 1 cm,.int .i64 0]:=Arr.new wl _ _;have hbp:Below wl.heap.size wl (wl.alloc (.cells #[.slice (some ⟨nb,0,none⟩) 1 1,.int .i64 0,.slice (some ⟨gl,0,none⟩) 3 cl,.int .i64 0,.slice (some ⟨na,0,none⟩) 1 1,.int .i64 0,.slice (some ⟨gm,0,none⟩) 1 cm,.int .i64 0] 72)):=(Below.refl _ _).alloc (Nat.le_refl _) _;(first | (have hTT:=Lib.hid (hTT.out.keep hbp)) | skip);have hSp:=Below.trans hx3 (hbp.mono (Nat.le_trans (Nat.le_of_eq HZ.out.symm) hx3.size));obtain⟨hy1,hy2,hy3⟩:=hGMs.out _ hSp;((with_reducible refine(DM2.out _ _ _ _ _ _ _ _ hy3 ((hx1.below hbp (Nat.le_refl _)).up hbp.size (Nat.le_refl _)) hy1 ((hx2.below hbp (Nat.le_refl _)).up hbp.size (Nat.le_refl _)) hy2 hAp).mono ?_)))
     | (obtain⟨hTT,hAp',hbp,hzz⟩:=box2 wl 29 72 [.slice none 0 0,.int .i64 0] [.slice (some ⟨nb,0,none⟩) 1 1,.int .i64 0,.slice (some ⟨gl,0,none⟩) 3 cl,.int .i64 0,.slice (some ⟨na,0,none⟩) 1 1,.int .i64 0,.slice (some ⟨gm,0,none⟩) 1 cm,.int .i64 0];have hAp:=hAp'.out;have hSp:=Below.trans hx3 (hbp.mono (Nat.le_trans (Nat.le_of_eq HZ.out.symm) hx3.size));obtain⟨hy1,hy2,hy3⟩:=hGMs.out _ hSp;((with_reducible refine(DM2.out _ _ _ _ _ _ _ _ hy3 ((hx1.below hbp (Nat.le_refl _)).up hbp.size (Nat.le_refl _)) hy1 ((hx2.below hbp (Nat.le_refl _)).up hbp.size (Nat.le_refl _)) hy2 hAp).mono ?_)))
     | (obtain⟨hAp',hTT,hbp,hzz⟩:=box2 wl 72 29 [.slice (some ⟨nb,0,none⟩) 1 1,.int .i64 0,.slice (some ⟨gl,0,none⟩) 3 cl,.int .i64 0,.slice (some ⟨na,0,none⟩) 1 1,.int .i64 0,.slice (some ⟨gm,0,none⟩) 1 cm,.int .i64 0] [.slice none 0 0,.int .i64 0];have hAp:=hAp'.out;have hSp:=Below.trans hx3 (hbp.mono (Nat.le_trans (Nat.le_of_eq HZ.out.symm) hx3.size));obtain⟨hy1,hy2,hy3⟩:=hGMs.out _ hSp;((with_reducible refine(DM2.out _ _ _ _ _ _ _ _ hy3 ((hx1.below hbp (Nat.le_refl _)).up hbp.size (Nat.le_refl _)) hy1 ((hx2.below hbp (Nat.le_refl _)).up hbp.size (Nat.le_refl _)) hy2 hAp).mono ?_))));rintro e w10 ⟨gx,cx,rfl,hgx,hb10,hg10,hks⟩;have hS10:=Below.trans hSp (hb10.mono (Nat.le_trans (Nat.le_trans (Nat.le_of_eq HZ.out.symm) hx3.size) hbp.size));have qa0:=(hT17d.out _ hS10).cell' (i:=0) rfl;have qa1:=(hT17d.out _ hS10).cell' (i:=1) rfl;have qa2:=(hT3d.out _ hS10).cell' (i:=0) rfl;have qa3:=(hT3d.out _ hS10).cell' (i:=1) rfl;have HB10:=Lib.hid ((HB7.out.trans (hSp.mono (Nat.le_trans HB7.out.size (Nat.le_of_eq HZ.out)))).trans (hb10.mono (Nat.le_trans HB7.out.size hSp.size)));have hz10:z≤w10.heap.size:=Nat.le_trans (Nat.le_trans (Nat.le_of_eq HZ.out.symm) hSp.size) hb10.size;(first | (have hTT:=Lib.hid (hTT.out.keep hb10);have tt0:=hTT.out.cell' (i:=0) rfl;have tt1:=hTT.out.cell' (i:=1) rfl;have tf0:=hTT.out.frozen 0;have tf1:=hTT.out.frozen 1;have tn:=t_ne hTT (c:=tb) (by omega);have tn3:=t_ne hTT (c:=t3) (by omega)) | skip)))
 all_goals
  first
   | (have hF:=tfin (gx:=gx) (cx:=cx) hTT HB10 (by have:=HB7.out.size;have:=HZ.out;omega) hks)
   | (have hF:=tfin5 (gx:=gx) (cx:=cx) HB10 hg10)
  have x0:=hF.out.1.cell' (i:=0) rfl
  have x1:=hF.out.1.cell' (i:=1) rfl
  have hwF:=Lib.hid (HW.out.keep hF.out.2.1)
  have hFG:=Lib.hid hF.out.2.2
  go_upto_region 5 with(go_at_call 7;go_loud ((with_reducible refine(DT.out _ _ _ hwF.out hFG.out).mono ?_));rintro e w11 ⟨rfl,hb11⟩)
  have hF1:=Lib.hid (hF.out.1.keep hb11)
  have hF2:=Lib.hid (hF.out.2.1.trans (hb11.mono hF.out.2.1.size))
  have hF3:=Lib.hid ((hF.out.2.2.below hb11 (Nat.le_refl _)).up hb11.size (Nat.le_refl _))
  have hw11:=Lib.hid (hwF.out.keep hb11)
  clear x0 x1
  have x0:=hF1.out.cell' (i:=0) rfl
  have x1:=hF1.out.cell' (i:=1) rfl
  go_upto_region 6 with(go_at_call 9;((with_reducible refine(DP.out _ _ _ hw11.out hF3.out).mono ?_));rintro e w12 ⟨rfl,hb12⟩)
  have hF4:=Lib.hid (hF2.out.trans (hb12.mono hF2.out.size))
  have hw12:=Lib.hid (hw11.out.keep hb12)
  clear x0 x1
  go_wp2_with (go_at_call 6;((with_reducible refine(DQ.out _ hw12.out).mono ?_));rintro e w13 ⟨rfl,hb13⟩)
  go_ret
  exact⟨rfl,hF4.out.trans (hb13.mono hF4.out.size)⟩
end Go.Proofs.YtgbkbgiogdhnaaaGreatDoor
