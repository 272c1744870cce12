/- The walk of canon's Compare, at graphs of one leaf. -/
import Derived.Test.YtnnnagnjikdnnaaGreatDoorMAv
import Derived.Deep.RegionHeld3
import Derived.Deep.DrawnRows
import Derived.Test.YtnnnagnjikdnnaaGreatDoorMAl
import Derived.Test.YtnnnagnjikdnnaaGreatDoorMAu
import Derived.Test.YtnnnagnjikdnnaaGreatDoorMAa
set_option linter.unusedVariables false
set_option linter.unusedSimpArgs false
set_option linter.defProp false
set_option linter.constructorNameAsVariable false
namespace Go.Proofs.YtnnnagnjikdnnaaGreatDoor
open Go.RowKit Go.Maps
attribute [local go_sem ↓] Go.wp_at_zero Go.wp_at_succ
theorem alloc_size (w:World) (o:Obj):(w.alloc o).heap.size=w.heap.size+1:=by simp
theorem drew_size (w:World):w.drew.heap.size=w.heap.size:=rfl
theorem le_cur {z:Nat} {w w':World} (h:Below z w w') (hz:w.heap.size=z):z≤w'.heap.size:=by have:=h.size;omega
theorem omap_keep {w w':World} {k:TypeId} {R:Value→Option (DataW Unit×List MemPlace)} {b n:Nat} {D:DataW Unit} (h:w.ownsMap Tryz.prog k R b n D) (hb:Below w.heap.size w w'):w'.ownsMap Tryz.prog k R b n D:=
 h.kept (row:=none) ⟨hb.os,hb.tape,hb.output,hb.size,fun j hj _=>hb.block j hj⟩ (by simp)
theorem omap_made2 (w:World) (k:TypeId) (R:Value→Option (DataW Unit×List MemPlace)):(w.alloc (.map #[] 0)).drew.ownsMap Tryz.prog k R w.heap.size 0 (.map []):=World.ownsMap_made w _ _ _
theorem tab_alloc {w:World} {tb sb g c:Nat} (h:TabR w tb sb g c) (o:Obj):TabR (w.alloc o) tb sb g c:=h.keep ((Below.refl _ _).alloc (Nat.le_refl _) o)
def RetCm (w:World) (e:Ending) (w':World):Prop:=∃r c:Int,e=.returned (.tuple #[.int .i64 r,.int .i64 c])∧Below w.heap.size w w'
set_option maxRecDepth 20000 in
set_option maxHeartbeats 16000000 in
theorem cCompare_leaf {B ga ca gb cb:Nat} {na nb:GNode} (hOa:ChkOK [na] 0) (hOb:ChkOK [nb] 0) (a2:na.items = []) (ak:na.kind=5) (ao:na.ord=false) (b2:nb.items = []) (bk:nb.kind=5) (bo:nb.ord=false) (w:World) (hw:LibE w) (hA:GRd w B ga 0 [na]) (hB:GRd w B gb 0 [nb]) :
  Calls Tryz.prog 101 #[.agg #[.slice (some ⟨ga,0,none⟩) 1 ca,.int .i64 0],.agg #[.slice (some ⟨gb,0,none⟩) 1 cb,.int .i64 0]] w (RetCm w):=by
 obtain⟨h1,h2,hb1,hz1⟩:=box2 w 26 26 [.slice (some ⟨ga,0,none⟩) 1 ca,.int .i64 0] [.slice (some ⟨gb,0,none⟩) 1 cb,.int .i64 0]
 have HB1:=Lib.hid hb1
 have HA:=Lib.hid hA
 have HB:=Lib.hid hB
 have HW:=Lib.hid hw
 obtain⟨va,hva⟩:∃v,chkV [na] 0=v:=⟨_,rfl⟩
 obtain⟨vb,hvb⟩:∃v,chkV [nb] 0=v:=⟨_,rfl⟩
 obtain⟨ya,hya⟩:∃v,acyV [na] 0=v:=⟨_,rfl⟩
 obtain⟨yb,hyb⟩:∃v,acyV [nb] 0=v:=⟨_,rfl⟩
 have DA:Hid (∀w',LibE w'→GRd w' B ga 0 [na]→Calls Tryz.prog 26 #[.agg #[.slice (some ⟨ga,0,none⟩) 1 ca,.int .i64 0]] w' fun e w''=>e=.returned (.int .i64 va)∧Below w'.heap.size w' w''):=fun w' h h'=>by rw [←hva];exact gcheck_any (c:=ca) hOa w' h h'
 have DB:Hid (∀w',LibE w'→GRd w' B gb 0 [nb]→Calls Tryz.prog 26 #[.agg #[.slice (some ⟨gb,0,none⟩) 1 cb,.int .i64 0]] w' fun e w''=>e=.returned (.int .i64 vb)∧Below w'.heap.size w' w''):=fun w' h h'=>by rw [←hvb];exact gcheck_any (c:=cb) hOb w' h h'
 have EA:Hid (∀w',LibE w'→GRd w' B ga 0 [na]→Calls Tryz.prog 62 #[.agg #[.slice (some ⟨ga,0,none⟩) 1 ca,.int .i64 0]] w' fun e w''=>e=.returned (.int .i64 ya)∧Below w'.heap.size w' w''):=fun w' h h'=>by rw [←hya];exact acyclic_any (c:=ca) hOa w' h h'
 have EB:Hid (∀w',LibE w'→GRd w' B gb 0 [nb]→Calls Tryz.prog 62 #[.agg #[.slice (some ⟨gb,0,none⟩) 1 cb,.int .i64 0]] w' fun e w''=>e=.returned (.int .i64 yb)∧Below w'.heap.size w' w''):=fun w' h h'=>by rw [←hyb];exact acyclic_any (c:=cb) hOb w' h h'
 have CA:=Lib.hid (And.intro a2 (And.intro ak ao))
 have CB:=Lib.hid (And.intro b2 (And.intro bk bo))
 have hmm:=@run_makeMap Tryz.prog
 clear hva hvb hya hyb hb1 hA hB hw a2 ak ao b2 bk bo hOa hOb
 obtain⟨ab,hab⟩:∃b,w.heap.size=b:=⟨_,rfl⟩
 obtain⟨bb,hbb⟩:∃b,w.heap.size+1=b:=⟨_,rfl⟩
 go_enter Tryz.func101,Tryz.ntmps101
 go_upto_region 1 with(fail)
 generalize ((w.alloc (.cells #[.slice (some ⟨ga,0,none⟩) 1 ca,.int .i64 0] 26)).alloc (.cells #[.slice (some ⟨gb,0,none⟩) 1 cb,.int .i64 0] 26))=W at *
 have hbb2:bb=ab+1:=by omega
 rw [hab] at h1 HB1
 rw [hbb] at h2
 have HAB:=Lib.hid hab
 have HBB:=Lib.hid hbb2
 try rw [hab]
 rw [←hbb2]
 have lb:bb<W.heap.size:=h2.out.lt
 clear hab hbb hbb2 hz1
 have la:ab<W.heap.size:=h1.out.lt
 have hAW:=Lib.hid (HA.out.below HB1.out (by have:=HA.out.2.1;have:=HAB.out;omega))
 have hWW:=Lib.hid (HW.out.keep (by rw [HAB.out];exact HB1.out))
 have x0:=h1.out.cell' (i:=0) rfl
 have x1:=h1.out.cell' (i:=1) rfl
 by_cases hc1:va=0
 ·subst hc1
  have e0:((0:Int) != 0)=false:=by decide
  by_cases hc2:vb=0
  ·subst hc2
   go_upto_region 3 with(first
    | (go_at_call 26;((with_reducible refine(DA.out _ hWW.out hAW.out).mono ?_));rintro e w2 ⟨rfl,hb2⟩;have HB2:=Lib.hid (HB1.out.trans (hb2.mono (by have:=HB1.out.size;have:=HAB.out;omega)));have y0:=(h2.out.keep hb2).cell' (i:=0) rfl;have y1:=(h2.out.keep hb2).cell' (i:=1) rfl;have hB2:=Lib.hid (HB.out.below HB2.out (by have:=HB.out.2.1;have:=HAB.out;omega));have hW2:=Lib.hid (HW.out.keep (by rw [HAB.out];exact HB2.out)))
    | (go_at_call 26;((with_reducible refine(DB.out _ hW2.out hB2.out).mono ?_));rintro e w3 ⟨rfl,hb3⟩))
   have h13:=Lib.hid ((h1.out.keep hb2).keep hb3)
   have h23:=Lib.hid ((h2.out.keep hb2).keep hb3)
   have HB3:=Lib.hid (HB2.out.trans (hb3.mono (by have:=HB2.out.size;have:=HAB.out;omega)))
   have hsz3:W.heap.size≤w3.heap.size:=Nat.le_trans hb2.size hb3.size
   clear h1 h2 HB1 HB2 hb2 hb3 y0 y1 hB2 hW2 x0 x1 hAW hWW DA DB
   have x0:=h13.out.cell' (i:=0) rfl
   have x1:=h13.out.cell' (i:=1) rfl
   have hA3:=Lib.hid (HA.out.below HB3.out (by have:=HA.out.2.1;have:=HAB.out;omega))
   have hW3:=Lib.hid (HW.out.keep (by rw [HAB.out];exact HB3.out))
   by_cases hc3:ya=0
   ·subst hc3
    by_cases hc4:yb=0
    ·subst hc4
     go_upto_region 5 with(first
      | (go_at_call 62;((with_reducible refine(EA.out _ hW3.out hA3.out).mono ?_));rintro e w4 ⟨rfl,hb4⟩;have HB4:=Lib.hid (HB3.out.trans (hb4.mono (by have:=HB3.out.size;have:=HAB.out;omega)));have y0:=(h23.out.keep hb4).cell' (i:=0) rfl;have y1:=(h23.out.keep hb4).cell' (i:=1) rfl;have hB4:=Lib.hid (HB.out.below HB4.out (by have:=HB.out.2.1;have:=HAB.out;omega));have hW4:=Lib.hid (HW.out.keep (by rw [HAB.out];exact HB4.out)))
      | (go_at_call 62;((with_reducible refine(EB.out _ hW4.out hB4.out).mono ?_));rintro e w5 ⟨rfl,hb5⟩))
     have h15:=Lib.hid ((h13.out.keep hb4).keep hb5)
     have h25:=Lib.hid ((h23.out.keep hb4).keep hb5)
     have HB5:=Lib.hid (HB4.out.trans (hb5.mono (by have:=HB4.out.size;have:=HAB.out;omega)))
     have hsz5:W.heap.size≤w5.heap.size:=Nat.le_trans hsz3 (Nat.le_trans hb4.size hb5.size)
     clear h13 h23 HB3 HB4 hb4 hb5 y0 y1 hB4 hW4 x0 x1 hA3 hW3 EA EB
     obtain⟨z,hz⟩:∃z,w5.heap.size=z:=⟨_,rfl⟩
     have HZ:=Lib.hid hz
     have HA5:=Lib.hid (HA.out.below HB5.out (by have:=HA.out.2.1;have:=HAB.out;omega))
     have HBQ5:=Lib.hid (HB.out.below HB5.out (by have:=HB.out.2.1;have:=HAB.out;omega))
     have hBz:Hid (B≤z):=by have h1:=HA5.out.2.1;show B≤z;omega
     have laz:ab<z:=by omega
     have lbz:bb<z:=by omega
     clear hz
     have x0:∀w',Below z w5 w'→w'.cell? ⟨ab,0,none⟩=some (.slice (some ⟨ga,0,none⟩) 1 ca):=fun w' h=>(h15.out.below h laz).cell' (i:=0) rfl
     have x1:∀w',Below z w5 w'→w'.cell? ⟨ab,1,none⟩=some (.int .i64 0):=fun w' h=>(h15.out.below h laz).cell' (i:=1) rfl
     have y0:∀w',Below z w5 w'→w'.cell? ⟨bb,0,none⟩=some (.slice (some ⟨gb,0,none⟩) 1 cb):=fun w' h=>(h25.out.below h lbz).cell' (i:=0) rfl
     have y1:∀w',Below z w5 w'→w'.cell? ⟨bb,1,none⟩=some (.int .i64 0):=fun w' h=>(h25.out.below h lbz).cell' (i:=1) rfl
     have HGa:Hid (∀w',Below z w5 w'→GRd w' B ga 0 [na]):=fun w' h=>HA5.out.below h hBz.out
     have HGb:Hid (∀w',Below z w5 w'→GRd w' B gb 0 [nb]):=fun w' h=>HBQ5.out.below h hBz.out
     have hS:Below z w5 w5.drew:=(Below.refl _ _).drew
     have hzs:z≤w5.drew.heap.size:=by have:=HZ.out;show z≤w5.heap.size;omega
     go_region_held3 (fun w'=>Below z w5 w') (first | assumption | exact Below.alloc (by assumption) (by first | assumption | (have:=HZ.out;simp;omega)) _)
      (first
       | (go_at_call 57;((with_reducible refine(canonOf_any (g:=ga) (c:=ca) _).mono ?_));rintro e w6 ⟨ta,sa,rfl,hta,hsa,hb6,hTA⟩;have hsa2:=hTA.srt.lt;have z6:=hb6.size;have hS6:Below z w5 w6:=Below.trans (by first | assumption | exact Below.alloc (by assumption) (by first | assumption | (have:=HZ.out;simp;omega)) _) (hb6.mono (by first | assumption | (have:=HZ.out;simp;omega))))
       | (go_at_call 57;((with_reducible refine(canonOf_any (g:=gb) (c:=cb) _).mono ?_));rintro e w7 ⟨tb,sb,rfl,htb,hsb,hb7,hTB⟩;have hsb2:=hTB.srt.lt;have z7:=hb7.size;have hS7:Below z w5 w7:=Below.trans (by first | assumption | exact Below.alloc (by assumption) (by first | assumption | (have:=HZ.out;simp;omega)) _) (hb7.mono (by first | assumption | (have:=HZ.out;simp;omega) | exact le_cur (by first | assumption | exact Below.alloc (by assumption) (by first | assumption | (have:=HZ.out;simp;omega)) _) HZ.out)))
       | (go_at_call 88;go_loud (refine(ccompare_leaf (B:=B) (D:=z) CA.out.1 CA.out.2.1 CA.out.2.2 CB.out.1 CB.out.2.1 CB.out.2.2 _ (HGa.out _ (by first | assumption | exact Below.alloc (by assumption) (by first | assumption | (have:=HZ.out;simp;omega)) _)) (HGb.out _ (by first | assumption | exact Below.alloc (by assumption) (by first | assumption | (have:=HZ.out;simp;omega)) _)) (by first | exact hTA.keep hb7 | exact(tab_alloc hTA _).keep hb7 | exact tab_alloc (hTA.keep hb7) _) (by first | exact hTB | exact tab_alloc hTB _) (by first | exact World.ownsMap_made _ _ _ _ | exact omap_keep (World.ownsMap_made _ _ _ _) hb7 | exact omap_keep (omap_keep (World.ownsMap_made _ _ _ _) hb6) hb7 | exact omap_keep (omap_keep (omap_made2 _ _ _) hb6) hb7) (le_cur (by first | assumption | exact Below.alloc (by assumption) (by first | assumption | (have:=HZ.out;simp;omega)) _) HZ.out) (by have a1:=hsa;have a2:=hsb;have a3:=htb;have a4:=hsa2;have a5:=hsb2;have a6:=z6;have a7:=z7;simp only [alloc_size,drew_size] at a1 a2 a3 a6 a7 ⊢;have h5:=HZ.out;have hbz:=hBz.out;omega) (by have a1:=hsa;have a2:=hsb;have a3:=htb;have a4:=hsa2;have a5:=hsb2;have a6:=z6;have a7:=z7;simp only [alloc_size,drew_size] at a1 a2 a3 a6 a7 ⊢;have h5:=HZ.out;have hbz:=hBz.out;omega) (by have a1:=hsa;have a2:=hsb;have a3:=htb;have a4:=hsa2;have a5:=hsb2;have a6:=z6;have a7:=z7;simp only [alloc_size,drew_size] at a1 a2 a3 a6 a7 ⊢;have h5:=HZ.out;have hbz:=hBz.out;omega) (by have a1:=hsa;have a2:=hsb;have a3:=htb;have a4:=hsa2;have a5:=hsb2;have a6:=z6;have a7:=z7;simp only [alloc_size,drew_size] at a1 a2 a3 a6 a7 ⊢;have h5:=HZ.out;have hbz:=hBz.out;omega) (by have a1:=hsa;have a2:=hsb;have a3:=htb;have a4:=hsa2;have a5:=hsb2;have a6:=z6;have a7:=z7;simp only [alloc_size,drew_size] at a1 a2 a3 a6 a7 ⊢;have h5:=HZ.out;have hbz:=hBz.out;omega) (by have a1:=hsa;have a2:=hsb;have a3:=htb;have a4:=hsa2;have a5:=hsb2;have a6:=z6;have a7:=z7;simp only [alloc_size,drew_size] at a1 a2 a3 a6 a7 ⊢;have h5:=HZ.out;have hbz:=hBz.out;omega) (by have a1:=hsa;have a2:=hsb;have a3:=htb;have a4:=hsa2;have a5:=hsb2;have a6:=z6;have a7:=z7;simp only [alloc_size,drew_size] at a1 a2 a3 a6 a7 ⊢;have h5:=HZ.out;have hbz:=hBz.out;omega) (by have a1:=hsa;have a2:=hsb;have a3:=htb;have a4:=hsa2;have a5:=hsb2;have a6:=z6;have a7:=z7;simp only [alloc_size,drew_size] at a1 a2 a3 a6 a7 ⊢;have h5:=HZ.out;have hbz:=hBz.out;omega)).mono ?_;rintro e w8 ⟨r,rfl,hb8⟩;have hS8:Below z w5 w8:=Below.trans (by first | assumption | exact Below.alloc (by assumption) (by first | assumption | (have:=HZ.out;simp;omega)) _) hb8)))
     all_goals
      go_wp2_with (fail)
      go_ret2
      exact⟨r,0,rfl,by rw [HAB.out];exact HB5.out.trans (hS8.mono (by omega))⟩
    ·have e4:(yb != 0)=true:=by simpa using hc4
     go_wp2_with (first | (go_at_call 62;((with_reducible refine(EA.out _ hW3.out hA3.out).mono ?_));rintro e w4 ⟨rfl,hb4⟩;have HB4:=Lib.hid (HB3.out.trans (hb4.mono (by have:=HB3.out.size;have:=HAB.out;omega)));have y0:=(h23.out.keep hb4).cell' (i:=0) rfl;have y1:=(h23.out.keep hb4).cell' (i:=1) rfl;have hB4:=Lib.hid (HB.out.below HB4.out (by have:=HB.out.2.1;have:=HAB.out;omega));have hW4:=Lib.hid (HW.out.keep (by rw [HAB.out];exact HB4.out))) | (go_at_call 62;((with_reducible refine(EB.out _ hW4.out hB4.out).mono ?_));rintro e w5 ⟨rfl,hb5⟩))
     go_ret2
     exact⟨0,14,rfl,by rw [HAB.out];exact HB4.out.trans (hb5.mono (by have:=HB4.out.size;have:=HAB.out;omega))⟩
   ·have e3:(ya != 0)=true:=by simpa using hc3
    go_wp2_with (go_at_call 62;((with_reducible refine(EA.out _ hW3.out hA3.out).mono ?_));rintro e w4 ⟨rfl,hb4⟩;have HB4:=Lib.hid (HB3.out.trans (hb4.mono (by have:=HB3.out.size;have:=HAB.out;omega)));have y0:=(h23.out.keep hb4).cell' (i:=0) rfl;have y1:=(h23.out.keep hb4).cell' (i:=1) rfl;have hB4:=Lib.hid (HB.out.below HB4.out (by have:=HB.out.2.1;have:=HAB.out;omega));have hW4:=Lib.hid (HW.out.keep (by rw [HAB.out];exact HB4.out)))
    go_ret2
    exact⟨0,14,rfl,by rw [HAB.out];exact HB4.out⟩
  ·have e2:(vb != 0)=true:=by simpa using hc2
   go_wp2_with (first | (go_at_call 26;((with_reducible refine(DA.out _ hWW.out hAW.out).mono ?_));rintro e w2 ⟨rfl,hb2⟩;have HB2:=Lib.hid (HB1.out.trans (hb2.mono (by have:=HB1.out.size;have:=HAB.out;omega)));have y0:=(h2.out.keep hb2).cell' (i:=0) rfl;have y1:=(h2.out.keep hb2).cell' (i:=1) rfl;have hB2:=Lib.hid (HB.out.below HB2.out (by have:=HB.out.2.1;have:=HAB.out;omega));have hW2:=Lib.hid (HW.out.keep (by rw [HAB.out];exact HB2.out))) | (go_at_call 26;((with_reducible refine(DB.out _ hW2.out hB2.out).mono ?_));rintro e w3 ⟨rfl,hb3⟩))
   go_ret2
   exact⟨0,3,rfl,by rw [HAB.out];exact HB2.out.trans (hb3.mono (by have:=HB2.out.size;have:=HAB.out;omega))⟩
 ·have e1:(va != 0)=true:=by simpa using hc1
  go_wp2_with (go_at_call 26;((with_reducible refine(DA.out _ hWW.out hAW.out).mono ?_));rintro e w2 ⟨rfl,hb2⟩;have HB2:=Lib.hid (HB1.out.trans (hb2.mono (by have:=HB1.out.size;have:=HAB.out;omega)));have y0:=(h2.out.keep hb2).cell' (i:=0) rfl;have y1:=(h2.out.keep hb2).cell' (i:=1) rfl;have hB2:=Lib.hid (HB.out.below HB2.out (by have:=HB.out.2.1;have:=HAB.out;omega));have hW2:=Lib.hid (HW.out.keep (by rw [HAB.out];exact HB2.out)))
  go_ret2
  exact⟨0,3,rfl,by rw [HAB.out];exact HB2.out⟩
end Go.Proofs.YtnnnagnjikdnnaaGreatDoor
namespace Go.Proofs.YtnnnagnjikdnnaaGreatDoor
open Go.RowKit
theorem infoNd:(Tryz.prog.info? 30).map (fun i=>(i.zero,i.size,i.bytes))=some (some (.agg #[.int .i64 0,.string ⟨#[]⟩,.bool false,.slice none 0 0,.slice none 0 0]),5,80):=by kernel_rfl
theorem szGr:(Tryz.prog.info? 26).map (·.size)=some 2:=by kernel_rfl
def kleafC (nd:GNode):List Value:=[.int .i64 nd.kind,.string (mks nd.text),.bool nd.ord,.slice none 0 0,.slice none 0 0]
theorem grd_one {w:World} {B nb c:Nat} {nd:GNode} (h:w.ownsRow B 30 5 (.slice (some ⟨nb,0,none⟩) 1 c) 1 (kleafC nd)) (h1:nd.keys = []) (h2:nd.items = []):GRd w w.heap.size nb 0 [nd]:=by
 refine⟨(h.lt nb rfl).2,Nat.le_refl _,fun i x hi=>?_⟩
 cases i with
 | succ i=>simp at hi
 | zero=>
  have hx:nd=x:=by simpa using hi
  subst hx
  refine⟨none,0,none,0,(own_cell1 h rfl).1,(own_cell1 h rfl).1,(own_cell1 h rfl).1,?_,?_,⟨?_,fun ad e=>by cases e⟩,?_,fun ad e=>by cases e⟩
  ·rw [h1];exact(own_cell1 h (i:=3) rfl).1
  ·rw [h2];exact(own_cell1 h (i:=4) rfl).1
  ·rw [h1];exact Rd.nil
  ·rw [h2];exact Rd.nil
def KeyC (w:World) (ob:Nat) (nd:GNode) (e:Ending) (w':World):Prop:=e=.returned (.int .i64 0)∧∃nb c',Hid (Arr w' ob 26 [.slice (some ⟨nb,0,none⟩) 1 c',.int .i64 0])∧w'.ownsRow w.heap.size 30 5 (.slice (some ⟨nb,0,none⟩) 1 c') 1 (kleafC nd)∧w.grownBy w' (some ob)
set_option maxRecDepth 20000 in
set_option maxHeartbeats 8000000 in
theorem key1_any {B g o c ob gb vb:Nat} {nodes:List GNode} {root:Int} (k:Nat) (hk:k<nodes.length) (h1:(ndAt nodes k).keys = []) (h2:(ndAt nodes k).items = []) (w:World) (hG:GRd w B g o nodes)
  (hgb:Arr w gb 26 [.slice (some ⟨g,o,none⟩) nodes.length c,.int .i64 root]) (hob:Arr w ob 26 [.slice none 0 0,.int .i64 0]) :
  Calls Tryz.prog 123 #[.int .i64 (k:Int),.pointer (some ⟨ob,0,none⟩),.pointer (some ⟨gb,0,none⟩),.pointer (some ⟨vb,0,none⟩)] w (KeyC w ob (ndAt nodes k)):=by
 obtain⟨K,ck,I,ci,c0,c1,c2,c3,c4,_,_⟩:=hG.of_at hk
 rw [h1] at c3
 rw [h2] at c4
 simp only [List.length_nil] at c3 c4
 have k0:(0:Int)≤k:=by omega
 have k1:(k:Int)<nodes.length:=by omega
 have x0:=hgb.cell' (i:=0) rfl
 have z0:=hob.cell' (i:=0) rfl
 have H1:=Lib.hid h1
 have H2:=Lib.hid h2
 generalize nodes.length=n at *
 generalize ndAt nodes k=nd at *
 have HOB:=Lib.hid hob
 have hobl:=hob.lt
 have hND:Hid (Arr (w.alloc (.cells #[.int .i64 nd.kind,.string (mks nd.text),.bool nd.ord,.slice K 0 ck,.slice I 0 ci] 30)) w.heap.size 30 [.int .i64 nd.kind,.string (mks nd.text),.bool nd.ord,.slice K 0 ck,.slice I 0 ci]):=Arr.new w _ _
 have hbn:Hid (Below w.heap.size w (w.alloc (.cells #[.int .i64 nd.kind,.string (mks nd.text),.bool nd.ord,.slice K 0 ck,.slice I 0 ci] 30))):=(Below.refl _ _).alloc (Nat.le_refl _) _
 clear h1 h2 hG hgb hob
 go_enter Tryz.func123,Tryz.ntmps123
 go_upto_region 3 with(fail)
 clear c0 c1 c2 c3 c4 x0 z0
 generalize (w.alloc (.cells #[.int .i64 nd.kind,.string (mks nd.text),.bool nd.ord,.slice K 0 ck,.slice I 0 ci] 30))=w1 at *
 have hob1:=Lib.hid (HOB.out.keep hbn.out)
 have z0:=hob1.out.cell' (i:=0) rfl
 have hb2:Hid (Below w1.heap.size w1 (w1.alloc (.cells (kleafC nd).toArray 30))):=(Below.refl _ _).alloc (Nat.le_refl _) _
 have hS:=World.ownsRow_nil (w1.alloc (.cells (kleafC nd).toArray 30)) w1.heap.size 30 5
 unfold kleafC at hS hb2
 obtain⟨eb,heb⟩:∃b,w.heap.size=b:=⟨_,rfl⟩
 rw [heb] at hND hobl hbn ⊢
 have hEB:=Lib.hid heb
 have l1:eb<w1.heap.size:=hND.out.lt
 have n0:=hND.out.cell' (i:=0) rfl
 have n1:=hND.out.cell' (i:=1) rfl
 have n2:=hND.out.cell' (i:=2) rfl
 clear heb
 go_upto_region 4 with(at_builtin;go_loud (refine wpList_apS rfl (.tmp 23) (.tmp 31) 24 rfl w1.heap.size 30 _ 5 _ Tryz.underlying24 infoNd rfl (by decide) _ 0 [] rfl hS ⟨w1.heap.size,0,none⟩ _ [.int .i64 nd.kind,.string (mks nd.text),.bool nd.ord,.slice none 0 0,.slice none 0 0] rfl rfl (cells_new _ _ _) rfl (by unfold maxLen;omega) (by omega) (by simp) ?_;intro v3 w3 hown3 hgr3 hat3;obtain⟨nb,c3,hv3,_,_⟩:=own_some hown3 (by decide);subst hv3;have hob3:=(hob1.out.keep hb2.out).grown (show(w1.alloc (.cells #[.int .i64 nd.kind,.string (mks nd.text),.bool nd.ord,.slice none 0 0,.slice none 0 0] 30)).grownBy w3 none from hgr3) (by simp);have p3:=hob3.cell' (i:=0) rfl;have q3:=hob3.frozen 0))
 have hg3:Hid ((w1.alloc (.cells #[.int .i64 nd.kind,.string (mks nd.text),.bool nd.ord,.slice none 0 0,.slice none 0 0] 30)).grownBy w3 none):=hgr3
 have hB3:Hid (Below w1.heap.size w1 w3):=hb2.out.grown hg3.out (by simp) (fun k e=>by cases e)
 have hown4:Hid ((w3.setCell ⟨ob,0,none⟩ (.slice (some ⟨nb,0,none⟩) 1 c3)).ownsRow w1.heap.size 30 5 (.slice (some ⟨nb,0,none⟩) 1 c3) 1 (kleafC nd)):=own_far (p:=⟨ob,0,none⟩) hown3 (own_arr hown3 hob3 (by decide)) _
 have hob4:Hid (Arr (w3.setCell ⟨ob,0,none⟩ (.slice (some ⟨nb,0,none⟩) 1 c3)) ob 26 [.slice (some ⟨nb,0,none⟩) 1 c3,.int .i64 0]):=hob3.store 0 _
 have hND4:=Lib.hid ((hND.out.keep hB3.out).far (p:=⟨ob,0,none⟩) (show eb≠ob by omega) (.slice (some ⟨nb,0,none⟩) 1 c3))
 have hg4:Hid (w.grownBy (w3.setCell ⟨ob,0,none⟩ (.slice (some ⟨nb,0,none⟩) 1 c3)) (some ob)):=by
  have h1:w.grownBy w1 (some ob):=⟨hbn.out.os,hbn.out.tape,hbn.out.output,hbn.out.size,fun j hj _=>hbn.out.block j (by rw [←hEB.out];exact hj)⟩
  have h2:w1.grownBy w3 (some ob):=⟨hB3.out.os,hB3.out.tape,hB3.out.output,hB3.out.size,fun j hj _=>hB3.out.block j hj⟩
  exact grown_trans (grown_trans h1 h2) (grown_set w3 ⟨ob,0,none⟩ _)
 have l2:w1.heap.size≤nb:=(hown4.out.lt nb rfl).1
 clear p3 q3 hob3 hgr3 hat3 hown3 hS hb2 n0 n1 n2 z0 hob1 hND hg3 hB3
 generalize (w3.setCell ⟨ob,0,none⟩ (.slice (some ⟨nb,0,none⟩) 1 c3))=w4 at *
 have n3:=hND4.out.cell' (i:=3) rfl
 have n4:=hND4.out.cell' (i:=4) rfl
 go_upto_region 6 with(fail)
 go_loop [8,37] (fun a v=>a=.slice none 0 0∧v=.int .i64 0) (fun _ _=>0)
 case atStart=>exact⟨rfl,rfl⟩
 case round=>
  obtain⟨rfl,rfl⟩:=hrel
  go_upto_region 11 with(fail)
  go_loop [9,51] (fun a v=>a=.slice none 0 0∧v=.int .i64 0) (fun _ _=>0)
  case atStart=>exact⟨rfl,rfl⟩
  case round=>
   obtain⟨rfl,rfl⟩:=hrel
   have z0:=hob4.out.cell' (i:=0) rfl
   have z0':w4.drew.cell? ⟨ob,0,none⟩=some (.slice (some ⟨nb,0,none⟩) 1 c3):=z0
   have t3:=own_cell1 hown4.out (i:=3) rfl
   have t4:=own_cell1 hown4.out (i:=4) rfl
   go_upto_region 15 with(fail)
   go_region
   have hown5:Hid (((w4.setCell ⟨nb,3,none⟩ (.slice none 0 0)).setCell ⟨nb,4,none⟩ (.slice none 0 0)).drew.ownsRow w1.heap.size 30 5 (.slice (some ⟨nb,0,none⟩) 1 c3) 1 (kleafC nd)):=own_set1 (own_set1 hown4.out 3 (.slice none 0 0)) 4 (.slice none 0 0)
   have hob5:Hid (Arr ((w4.setCell ⟨nb,3,none⟩ (.slice none 0 0)).setCell ⟨nb,4,none⟩ (.slice none 0 0)).drew ob 26 [.slice (some ⟨nb,0,none⟩) 1 c3,.int .i64 0]):=(hob4.out.far (p:=⟨nb,3,none⟩) (show ob≠nb by omega) (.slice none 0 0)).far (p:=⟨nb,4,none⟩) (show ob≠nb by omega) (.slice none 0 0)
   have hb5:Hid (Below w.heap.size w4 ((w4.setCell ⟨nb,3,none⟩ (.slice none 0 0)).setCell ⟨nb,4,none⟩ (.slice none 0 0)).drew):=(((Below.refl _ _).setCell (p:=⟨nb,3,none⟩) (show w.heap.size≤nb by have:=hEB.out;omega) (.slice none 0 0)).setCell (p:=⟨nb,4,none⟩) (show w.heap.size≤nb by have:=hEB.out;omega) (.slice none 0 0)).drew
   clear t3 t4 z0 z0' n3 n4 hob4 hown4 hND4
   generalize ((w4.setCell ⟨nb,3,none⟩ (.slice none 0 0)).setCell ⟨nb,4,none⟩ (.slice none 0 0)).drew=w5 at *
   have hg5:Hid (w.grownBy w5 (some ob)):=⟨hb5.out.os.trans hg4.out.os,hb5.out.tape.trans hg4.out.tape,hb5.out.output.trans hg4.out.output,Nat.le_trans hg4.out.size hb5.out.size,fun j hj hr=>(hb5.out.block j hj).trans (hg4.out.block j hj hr)⟩
   go_wp2_with (fail)
   go_ret
   exact⟨rfl,nb,c3,hob5,own_lo hown5.out (by have:=hEB.out;omega),hg5.out⟩
set_option maxRecDepth 20000 in
set_option maxHeartbeats 8000000 in
theorem key_any {B g o c:Nat} {nodes:List GNode} {root:Int} (k:Nat) (hk:k<nodes.length) (h1:(ndAt nodes k).keys = []) (h2:(ndAt nodes k).items = []) (w:World) (hG:GRd w B g o nodes) :
  Calls Tryz.prog 98 #[.agg #[.slice (some ⟨g,o,none⟩) nodes.length c,.int .i64 root],.int .i64 (k:Int)] w fun e w'=>∃nb c',e=.returned (.agg #[.slice (some ⟨nb,0,none⟩) 1 c',.int .i64 0])∧w'.ownsRow w.heap.size 30 5 (.slice (some ⟨nb,0,none⟩) 1 c') 1 (kleafC (ndAt nodes k))∧Below w.heap.size w w':=by
 have hmf:∀(fn:Fn) (first cap:Array Value) (w:World),(Instr.makeFunc fn first cap).run Tryz.prog w=.ok (.func fn first cap) w:=fun _ _ _ _=>rfl
 obtain⟨hg1,hr1,hb1,hz1⟩:=box2 w 26 26 [.slice (some ⟨g,o,none⟩) nodes.length c,.int .i64 root] [.slice none 0 0,.int .i64 0]
 have HG:=Lib.hid hG
 have HB1:=Lib.hid hb1
 clear hG hb1
 obtain⟨gb,hgb⟩:∃b,w.heap.size=b:=⟨_,rfl⟩
 obtain⟨rb,hrb⟩:∃b,w.heap.size+1=b:=⟨_,rfl⟩
 go_enter Tryz.func98,Tryz.ntmps98
 go_upto_region 1 with(fail)
 generalize ((w.alloc (.cells #[.slice (some ⟨g,o,none⟩) nodes.length c,.int .i64 root] 26)).alloc (.cells #[.slice none 0 0,.int .i64 0] 26))=w1 at *
 have hgb2:rb=gb+1:=by omega
 rw [hgb] at hg1 HB1
 rw [hrb] at hr1
 have HGB:=Lib.hid hgb
 have HRB:=Lib.hid hgb2
 have l1:rb<w1.heap.size:=hr1.out.lt
 have HZ1:=Lib.hid hz1.out
 rw [hgb] at HZ1
 try rw [hgb]
 rw [←hgb2]
 clear hgb hrb hgb2 hz1
 have hG1:=Lib.hid (HG.out.below HB1.out (by have:=HG.out.2.1;have:=HGB.out;omega))
 have ho2:Hid (Arr (w1.alloc (.cells #[.slice none 0 0,.int .i64 0] 26)) w1.heap.size 26 [.slice none 0 0,.int .i64 0]):=Arr.new w1 _ _
 have hb2:Hid (Below w1.heap.size w1 (w1.alloc (.cells #[.slice none 0 0,.int .i64 0] 26))):=(Below.refl _ _).alloc (Nat.le_refl _) _
 go_upto_region 2 with(fail)
 generalize (w1.alloc (.cells #[.slice none 0 0,.int .i64 0] 26))=w2 at *
 obtain⟨ob,hob⟩:∃b,w1.heap.size=b:=⟨_,rfl⟩
 rw [hob] at ho2 hb2 l1 ⊢
 have HOB:=Lib.hid hob
 clear hob
 have l2:ob<w2.heap.size:=ho2.out.lt
 have hg2:=Lib.hid (hg1.out.below hb2.out (by have:=HRB.out;omega))
 have hr2:=Lib.hid (hr1.out.below hb2.out l1)
 have HB2:=Lib.hid (HB1.out.trans (hb2.out.mono (by have:=HRB.out;omega)))
 have hv3:Hid (Arr (w2.alloc (.cells #[.nilFunc] 109)) w2.heap.size 109 [.nilFunc]):=Arr.new w2 _ _
 have hb3:Hid (Below w2.heap.size w2 (w2.alloc (.cells #[.nilFunc] 109))):=(Below.refl _ _).alloc (Nat.le_refl _) _
 go_upto_region 3 with(fail)
 generalize (w2.alloc (.cells #[.nilFunc] 109))=w3 at *
 obtain⟨vb,hvb⟩:∃b,w2.heap.size=b:=⟨_,rfl⟩
 rw [hvb] at hv3 hb3 l2 ⊢
 have HVB:=Lib.hid hvb
 clear hvb
 have z0:=hv3.out.cell' (i:=0) rfl
 have zf:=hv3.out.frozen 0
 have hg4:=Lib.hid ((hg2.out.below hb3.out (by have:=HRB.out;omega)).far (p:=⟨vb,0,none⟩) (show gb≠vb by have:=HRB.out;omega) (.func (.func 123) #[] #[.pointer (some ⟨ob,0,none⟩),.pointer (some ⟨gb,0,none⟩),.pointer (some ⟨vb,0,none⟩)]))
 have hr4:=Lib.hid ((hr2.out.below hb3.out (by omega)).far (p:=⟨vb,0,none⟩) (show rb≠vb by omega) (.func (.func 123) #[] #[.pointer (some ⟨ob,0,none⟩),.pointer (some ⟨gb,0,none⟩),.pointer (some ⟨vb,0,none⟩)]))
 have ho4:=Lib.hid ((ho2.out.below hb3.out (by omega)).far (p:=⟨vb,0,none⟩) (show ob≠vb by omega) (.func (.func 123) #[] #[.pointer (some ⟨ob,0,none⟩),.pointer (some ⟨gb,0,none⟩),.pointer (some ⟨vb,0,none⟩)]))
 have hv4:Hid (Arr (w3.setCell ⟨vb,0,none⟩ (.func (.func 123) #[] #[.pointer (some ⟨ob,0,none⟩),.pointer (some ⟨gb,0,none⟩),.pointer (some ⟨vb,0,none⟩)])) vb 109 [.func (.func 123) #[] #[.pointer (some ⟨ob,0,none⟩),.pointer (some ⟨gb,0,none⟩),.pointer (some ⟨vb,0,none⟩)]]):=hv3.out.store 0 _
 have HB4:=Lib.hid ((HB2.out.trans (hb3.out.mono (by have:=HRB.out;omega))).setCell (p:=⟨vb,0,none⟩) (show gb≤vb by have:=HRB.out;omega) (.func (.func 123) #[] #[.pointer (some ⟨ob,0,none⟩),.pointer (some ⟨gb,0,none⟩),.pointer (some ⟨vb,0,none⟩)]))
 go_upto_region 4 with(fail)
 clear z0 zf hv3 hg2 hr2 ho2 HB2 hb3 hg1 hr1 HB1 hb2 hmf
 generalize (w3.setCell ⟨vb,0,none⟩ (.func (.func 123) #[] #[.pointer (some ⟨ob,0,none⟩),.pointer (some ⟨gb,0,none⟩),.pointer (some ⟨vb,0,none⟩)]))=w4 at *
 have v0:=hv4.out.cell' (i:=0) rfl
 have hG4:=HG.out.below HB4.out (by have:=HG.out.2.1;have:=HGB.out;omega)
 have D:=Lib.hid (key1_any (vb:=vb) k hk h1 h2 w4 hG4 hg4.out ho4.out)
 have hs4:=HB4.out.size
 have hv4l:=hv4.out.lt
 clear hG4 hg4 ho4
 go_upto_region 5 with(go_at_call 123;((with_reducible refine D.out.mono ?_));rintro e w5 ⟨rfl,nb,c',hob5,hn5,hg5⟩)
 clear v0 D
 have hr5:=Lib.hid (hr4.out.grown hg5 (by intro e;have:=Option.some.inj e;omega))
 have HB5:Hid (Below gb w w5):=HB4.out.grown hg5 (by have:=HRB.out;omega) (fun k e=>by have:=Option.some.inj e;have:=HRB.out;omega)
 have o0:=hob5.out.cell' (i:=0) rfl
 have o1:=hob5.out.cell' (i:=1) rfl
 have HN5:=Lib.hid hn5
 have l5:=hr5.out.lt
 clear hn5 hr4 HB4 hv4
 go_wp2_with (((with_reducible show wpList _ _ _ (Oper.mk none (Op.store 26 (Operand.tmp 4) (Operand.tmp 11)) _ _ _ _ :: _) _ _);go_loud (refine wpList_sr rfl rfl 26 (.tmp 4) (.tmp 11) rfl rb [.slice (some ⟨nb,0,none⟩) 1 c',.int .i64 0] rfl rfl 26 _ hr5.out _ szGr (by first | rfl | simp) (by first | rfl | simp) (by first | rfl | simp [Value.oneCell']) ?_;intro w6 hr6 hg6 hz6)))
 have r0:=hr6.out.cell' (i:=0) rfl
 have r1:=hr6.out.cell' (i:=1) rfl
 refine bodyPost_ret (v:=.agg #[.slice (some ⟨nb,0,none⟩) 1 c',.int .i64 0]) (by simp [results,Tryz.results98,go_sem,r0,r1]) rfl ?_
 have hnl:=(HN5.out.lt nb rfl).1
 have hN6:=own_grown HN5.out hg6 (slice_ne (show nb≠rb by omega))
 exact⟨nb,c',rfl,own_lo hN6 (by have:=HGB.out;have:=HRB.out;omega),by rw [HGB.out];exact below_row HB5.out hg6 (by have:=HB5.out.size;have:=HGB.out;have:=HRB.out;omega) (by have:=HRB.out;omega)⟩
end Go.Proofs.YtnnnagnjikdnnaaGreatDoor
