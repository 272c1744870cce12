/- The walk of graph's components. -/
import Derived.Test.YtnnnagnjikdnnaaGreatDoorMAq
set_option linter.unusedVariables false
set_option linter.unusedSimpArgs false
set_option linter.defProp false
set_option linter.constructorNameAsVariable false
namespace Go.Proofs.YtnnnagnjikdnnaaGreatDoor
open Go.RowKit
set_option maxRecDepth 100000 in
set_option maxHeartbeats 8000000 in
theorem components_any {B g o c : Nat} {nodes : List GNode} {root : Int} (hI : Idx nodes) (hL : NL 65536 nodes) (hN : nodes.length ≤ 65536) (hr : InN nodes.length root) (s : TS) (hs : compV nodes root = some s) (w : World) (hG : GRd w B g o nodes) :
    Calls Tryz.prog 86 #[.agg #[.slice (some ⟨g,o,none⟩) nodes.length c,.int .i64 root]] w fun en w'=>∃nm vz,en=.returned (.tuple #[.slice (some ⟨nm,0,none⟩) nodes.length nodes.length,vz])∧Below w.heap.size w w'∧Hid (Arr w' nm 3 (I64 s.inn))∧Hid (w'.ownsRow w.heap.size 3 1 vz s.sizes.length (I64 s.sizes))∧w.heap.size≤nm∧vz.ownBlock≠some nm:=by
  have h1:Hid (Arr (w.alloc (.cells #[.slice (some ⟨g,o,none⟩) nodes.length c,.int .i64 root] 26)) w.heap.size 26 [.slice (some ⟨g,o,none⟩) nodes.length c,.int .i64 root]):=Arr.new w 26 [.slice (some ⟨g,o,none⟩) nodes.length c,.int .i64 root]
  have hB1:Hid (Below w.heap.size w (w.alloc (.cells #[.slice (some ⟨g,o,none⟩) nodes.length c,.int .i64 root] 26))):=(Below.refl _ _).alloc (Nat.le_refl _) _
  have HG:=Lib.hid hG
  have HS:=Lib.hid hs
  clear hG hs
  go_enter Tryz.func86,Tryz.ntmps86
  go_upto_region 1 with(fail)
  generalize w.alloc (.cells #[.slice (some ⟨g,o,none⟩) nodes.length c,.int .i64 root] 26)=W at *
  obtain⟨n,hn⟩:∃n,nodes.length=n:=⟨_,rfl⟩
  obtain⟨gb,hgb⟩:∃b,w.heap.size=b:=⟨_,rfl⟩
  have hgbl:=h1.out.lt
  rw [hgb] at h1 hgbl hB1 ⊢
  rw [hn] at h1 hN ⊢
  have x0:=h1.out.cell' (i:=0) rfl
  have HN:=Lib.hid hn
  have HGB:=Lib.hid hgb
  clear hn hgb
  go_upto_region 2 with(fail)
  obtain⟨zz,hzz⟩:∃zz,W.heap.size=zz:=⟨_,rfl⟩
  have HZZ:=Lib.hid hzz
  clear hzz
  have hmk:∀(w:World),(Instr.makeSlice 28 (.int .i64 (n:Int)) (.int .i64 (n:Int))).run Tryz.prog w=.ok (.slice (some ⟨w.heap.size,0,none⟩) n n) (w.alloc (.cells (I64 (List.replicate n 0)).toArray 3)):=fun w=>by
    obtain⟨i,hi,hz1,hz2,hz3⟩:=info_parts infoInt
    have h:=run_make (P:=Tryz.prog) w 28 3 i (.int .i64 0) Tryz.underlying28 hi hz1 .i64 .i64 n n (by omega) (by omega) (by rw [hz3];omega) (by omega)
    rw [h,←I64_rep]
    simp only [Int.toNat_natCast,hz2,Nat.mul_one,madeCells_one (.int .i64 0) rfl]
  have hW0:Inv30 n zz W ⟨false,false,false,none,none,none,none,none,none,false,false,false⟩ W.drew:=⟨(Below.refl _ _).drew,by have:=HZZ.out;show zz≤W.heap.size;omega,by simp,by simp,by simp,by simp,by simp,by simp,by simp,by simp,by simp,by simp,by simp,by simp,by simp,by simp,by simp⟩
  refine wp_region_inv lst30 (act30 (.agg #[.slice (some ⟨g,o,none⟩) n c,.int .i64 root]) gb g o n c) (Inv30 n zz W) cnt30 ⟨false,false,false,none,none,none,none,none,none,false,false,false⟩ (by kernel_rfl) rfl rfl (by decide) hW0 ?hz ?hend ?hstep
  case hz=>
    intro v hc
    have e0:v.m0=true:=by cases q:v.m0 with | true=>rfl | false=>simp [cnt30,one30,q] at hc
    have e1:v.a1.isSome=true:=by cases q:v.a1.isSome with | true=>rfl | false=>simp [cnt30,one30,q] at hc
    have e2:v.m2=true:=by cases q:v.m2 with | true=>rfl | false=>simp [cnt30,one30,q] at hc
    have e3:v.a3.isSome=true:=by cases q:v.a3.isSome with | true=>rfl | false=>simp [cnt30,one30,q] at hc
    have e4:v.m4=true:=by cases q:v.m4 with | true=>rfl | false=>simp [cnt30,one30,q] at hc
    have e5:v.a5.isSome=true:=by cases q:v.a5.isSome with | true=>rfl | false=>simp [cnt30,one30,q] at hc
    have e6:v.c6.isSome=true:=by cases q:v.c6.isSome with | true=>rfl | false=>simp [cnt30,one30,q] at hc
    have e7:v.c7.isSome=true:=by cases q:v.c7.isSome with | true=>rfl | false=>simp [cnt30,one30,q] at hc
    have e8:v.c8.isSome=true:=by cases q:v.c8.isSome with | true=>rfl | false=>simp [cnt30,one30,q] at hc
    have e9:v.s9=true:=by cases q:v.s9 with | true=>rfl | false=>simp [cnt30,one30,q] at hc
    have e10:v.s10=true:=by cases q:v.s10 with | true=>rfl | false=>simp [cnt30,one30,q] at hc
    have e11:v.s11=true:=by cases q:v.s11 with | true=>rfl | false=>simp [cnt30,one30,q] at hc
    have e:lst30 v=#[true,true,true,true,true,true,true,true,true,true,true,true]:=by unfold lst30;rw [e0,e1,e2,e3,e4,e5,e6,e7,e8,e9,e10,e11]
    rw [e]
    show(_:List Nat)=_
    kernel_rfl
  case hend=>
    intro v w2 hI hr
    have r0:v.m0=true:=ready_listed hr 0 _ rfl (by simp)
    have r1:v.a1.isSome=true:=ready_listed hr 1 _ rfl (by intro e he _;simp at he;subst he;exact r0)
    have r2:v.m2=true:=ready_listed hr 2 _ rfl (by simp)
    have r3:v.a3.isSome=true:=ready_listed hr 3 _ rfl (by intro e he _;simp at he;subst he;exact r2)
    have r4:v.m4=true:=ready_listed hr 4 _ rfl (by simp)
    have r5:v.a5.isSome=true:=ready_listed hr 5 _ rfl (by intro e he _;simp at he;subst he;exact r4)
    have r6:v.c6.isSome=true:=ready_listed hr 6 _ rfl (by simp)
    have r7:v.c7.isSome=true:=ready_listed hr 7 _ rfl (by simp)
    have r8:v.c8.isSome=true:=ready_listed hr 8 _ rfl (by simp)
    have r9:v.s9=true:=ready_listed hr 9 _ rfl (by intro e he hb;simp at he;rcases he with rfl | rfl | rfl | rfl | rfl | rfl | rfl | rfl | rfl | rfl | rfl <;> first | exact absurd hb (by decide) | exact r0 | exact r1 | exact r2 | exact r3 | exact r4 | exact r5 | exact r6 | exact r7 | exact r8)
    have r10:v.s10=true:=ready_listed hr 10 _ rfl (by intro e he hb;simp at he;rcases he with rfl | rfl | rfl | rfl | rfl | rfl | rfl | rfl | rfl | rfl | rfl | rfl | rfl <;> first | exact absurd hb (by decide) | exact r0 | exact r1 | exact r2 | exact r3 | exact r4 | exact r5 | exact r6 | exact r7 | exact r8 | exact r9)
    have r11:v.s11=true:=ready_listed hr 11 _ rfl (by intro e he hb;simp at he;rcases he with rfl | rfl | rfl | rfl | rfl | rfl | rfl | rfl | rfl | rfl | rfl | rfl | rfl | rfl <;> first | exact absurd hb (by decide) | exact r0 | exact r1 | exact r2 | exact r3 | exact r4 | exact r5 | exact r6 | exact r7 | exact r8 | exact r9 | exact r10)
    obtain⟨im,him⟩:=Option.isSome_iff_exists.1 r1
    obtain⟨lm,hlm⟩:=Option.isSome_iff_exists.1 r3
    obtain⟨nm,hnm⟩:=Option.isSome_iff_exists.1 r5
    obtain⟨bi,hbi⟩:=Option.isSome_iff_exists.1 r6
    obtain⟨bl,hbl⟩:=Option.isSome_iff_exists.1 r7
    obtain⟨bn,hbn⟩:=Option.isSome_iff_exists.1 r8
    have A1:=Lib.hid (hI.a1 im him)
    have A3:=Lib.hid (hI.a3 lm hlm)
    have A5:=Lib.hid (hI.a5 nm hnm)
    have C6:=hI.c6 bi hbi
    have C7:=hI.c7 bl hbl
    have C8:=hI.c8 bn hbn
    rw [r9,him] at C6
    rw [r10,hlm] at C7
    rw [r11,hnm] at C8
    replace C6:Hid (zz≤bi∧Arr w2 bi 28 [.slice (some ⟨im,0,none⟩) n n]):=C6
    replace C7:Hid (zz≤bl∧Arr w2 bl 28 [.slice (some ⟨lm,0,none⟩) n n]):=C7
    replace C8:Hid (zz≤bn∧Arr w2 bn 28 [.slice (some ⟨nm,0,none⟩) n n]):=C8
    have n1:im≠lm:=fun q=>hI.d13 im him (by rw [q];exact hlm)
    have n2:im≠nm:=fun q=>hI.d15 im him (by rw [q];exact hnm)
    have n3:lm≠nm:=fun q=>hI.d35 lm hlm (by rw [q];exact hnm)
    have hBl:=Lib.hid hI.bl
    unfold act30
    rw [r0,r2,r4,him,hlm,hnm,hbi,hbl,hbn]
    simp only [bxV,slV,mvV,if_true]
    clear hI r0 r1 r2 r3 r4 r5 r6 r7 r8 r9 r10 r11 him hlm hnm hbi hbl hbn hr hW0
    go_upto_region 3 with(fail)
    have hzz:gb<zz:=by have:=HZZ.out;omega
    have D5:=A5.out.1
    have D1:=A1.out.1
    have D3:=A3.out.1
    have HX:Hid (Arr w2 gb 26 [.slice (some ⟨g,o,none⟩) n c,.int .i64 root]):=h1.out.below hBl.out hzz
    have b0:=C8.out.2.cell' (i:=0) rfl
    have hst0:Hid (Arr w2 nm 3 (I64 (List.replicate 0 (-1) ++ List.replicate (n - 0) 0))):=A5.out.2
    go_wp2_with (fail)
    go_loopw [25] (fun v' wr=>∃j:Nat,j≤n∧v'=.int .i64 (j:Int)∧Hid (Arr wr nm 3 (I64 (List.replicate j (-1) ++ List.replicate (n - j) 0)))∧w2.grownBy wr (some nm)) (fun v' _=>n - (intOf v').toNat)
    case atStart=>exact⟨0,Nat.zero_le _,rfl,hst0,World.grownBy.refl _ _⟩
    case round=>
      obtain⟨j,hj,rfl,hNr,hgr⟩:=hrel
      have hC8r:=C8.out.2.grown hgr (some_ne (kind_ne C8.out.2 A5.out.2 (by decide)))
      have b1:=hC8r.cell' (i:=0) rfl
      by_cases hjn:j=n
      · have hjn':¬(j:Int)<n:=by omega
        obtain⟨w3,hw3⟩:∃x:World,x=wr:=⟨_,rfl⟩
        subst hw3
        have hN3:Hid (Arr w3 nm 3 (I64 (List.replicate n (-1)))):=by
          have:=hNr.out
          rw [hjn,Nat.sub_self,List.replicate_zero,List.append_nil] at this
          exact this
        have hA3:=Lib.hid (A1.out.2.grown hgr (some_ne n2))
        have hL3:=Lib.hid (A3.out.2.grown hgr (some_ne n3))
        have hC6:=Lib.hid (C6.out.2.grown hgr (some_ne (kind_ne C6.out.2 A5.out.2 (by decide))))
        have hC7:=Lib.hid (C7.out.2.grown hgr (some_ne (kind_ne C7.out.2 A5.out.2 (by decide))))
        have hC8:=Lib.hid hC8r
        have hX3:=Lib.hid (HX.out.grown hgr (some_ne (kind_ne HX.out A5.out.2 (by decide))))
        have hB3:=Lib.hid (below_row hBl.out hgr (by have:=hBl.out.size;have:=HZZ.out;omega) A5.out.1)
        clear hNr hC8r hgr b0 b1 hst0
        obtain⟨hS4,hT4,hb4,hz4⟩:=box2 w3 28 28 [.slice none 0 0] [.slice none 0 0]
        go_upto_region 9 with(fail)
        have hS5:Hid (Arr ((w3.alloc (.cells #[.slice none 0 0] 28)).alloc (.cells #[.slice none 0 0] 28)) w3.heap.size 28 [.slice none 0 0]):=hS4
        have hT5:Hid (Arr ((w3.alloc (.cells #[.slice none 0 0] 28)).alloc (.cells #[.slice none 0 0] 28)) (w3.heap.size+1) 28 [.slice none 0 0]):=hT4
        have hb5:Hid (Below w3.heap.size w3 ((w3.alloc (.cells #[.slice none 0 0] 28)).alloc (.cells #[.slice none 0 0] 28))):=hb4
        have l0:=hA3.out.lt
        have l1:=hL3.out.lt
        have l2:=hN3.out.lt
        have l3:=hC6.out.lt
        have l4:=hC7.out.lt
        have l5:=hC8.out.lt
        have l6:=hX3.out.lt
        clear hS4 hT4 hb4 hz4
        generalize ((w3.alloc (.cells #[.slice none 0 0] 28)).alloc (.cells #[.slice none 0 0] 28))=w4 at *
        obtain⟨bt,hbt⟩:∃b,w3.heap.size+1=b:=⟨_,rfl⟩
        obtain⟨bs,hbs⟩:∃b,w3.heap.size=b:=⟨_,rfl⟩
        rw [hbt] at hT5 ⊢
        have m1:bs<bt:=by omega
        rw [hbs] at hS5 l0 l1 l2 l3 l4 l5 l6 ⊢
        have hB4:=Lib.hid (hB3.out.trans (hb5.out.mono (by have:=hB3.out.size;have:=hBl.out.size;have:=HZZ.out;omega)))
        have m2:=hT5.out.lt
        have K1:=Lib.hid (hA3.out.keep hb5.out)
        have K2:=Lib.hid (hL3.out.keep hb5.out)
        have K3:=Lib.hid (hN3.out.keep hb5.out)
        have K4:=Lib.hid (hC6.out.keep hb5.out)
        have K5:=Lib.hid (hC7.out.keep hb5.out)
        have K6:=Lib.hid (hC8.out.keep hb5.out)
        have K7:=Lib.hid (hX3.out.keep hb5.out)
        clear hbt hbs hA3 hL3 hN3 hC6 hC7 hC8 hX3 hB3 hb5 A1 A3 A5 C6 C7 C8 HX x0 h1
        go_upto_region 12 with(at_make;go_loud (refine wpList_mk rfl _ _ 100 rfl 4 _ _ Tryz.underlying100 infoBool rfl _ _ _ _ rfl rfl n n (by omega) (by omega) (by omega) (by omega) (by unfold maxLen;omega) ?_;intro om w5 hom hO hb6 hz6))
        obtain⟨P1,P2,P3,P4,_⟩:=box3 w5 100 3 135 [.slice (some ⟨om,0,none⟩) n n] [.int .i64 0] [.nilFunc]
        have Q1:Hid (Arr (((w5.alloc (.cells #[.slice (some ⟨om,0,none⟩) n n] 100)).alloc (.cells #[.int .i64 0] 3)).alloc (.cells #[.nilFunc] 135)) w5.heap.size 100 [.slice (some ⟨om,0,none⟩) n n]):=P1
        have Q2:Hid (Arr (((w5.alloc (.cells #[.slice (some ⟨om,0,none⟩) n n] 100)).alloc (.cells #[.int .i64 0] 3)).alloc (.cells #[.nilFunc] 135)) (w5.heap.size+1) 3 [.int .i64 0]):=P2
        have Q3:Hid (Arr (((w5.alloc (.cells #[.slice (some ⟨om,0,none⟩) n n] 100)).alloc (.cells #[.int .i64 0] 3)).alloc (.cells #[.nilFunc] 135)) (w5.heap.size+1+1) 135 [.nilFunc]):=P3
        have Q4:Hid (Below w5.heap.size w5 (((w5.alloc (.cells #[.slice (some ⟨om,0,none⟩) n n] 100)).alloc (.cells #[.int .i64 0] 3)).alloc (.cells #[.nilFunc] 135))):=P4
        clear P1 P2 P3 P4
        generalize (((w5.alloc (.cells #[.slice (some ⟨om,0,none⟩) n n] 100)).alloc (.cells #[.int .i64 0] 3)).alloc (.cells #[.nilFunc] 135))=w8 at *
        have hO8:Hid (Arr w5 om 4 (Bs (noMarks n))):=by rw [←Bs_rep];exact hO
        have hom':bt<om:=by have:=hom.out;omega
        have hol:=hO.out.lt
        have hbb:=Lib.hid (hb6.trans (Q4.out.mono hb6.size))
        obtain⟨bv,hbv⟩:∃b,w5.heap.size+1+1=b:=⟨_,rfl⟩
        obtain⟨bx,hbx⟩:∃b,w5.heap.size+1=b:=⟨_,rfl⟩
        obtain⟨bo,hbo⟩:∃b,w5.heap.size=b:=⟨_,rfl⟩
        have m3:om<bo∧bo<bx∧bx<bv:=by omega
        rw [hbv] at Q3 ⊢
        rw [hbx] at Q2 ⊢
        rw [hbo] at Q1 ⊢
        have hO9:=Lib.hid (hO8.out.keep Q4.out)
        obtain⟨m3,m4,m5⟩:=m3
        clear hbv hbx hbo hO hO8 hb6 hz6 hom Q4
        have z0:=Q3.out.cell' (i:=0) rfl
        have zf:=Q3.out.frozen 0
        have E1:=Lib.hid (K1.out.keep hbb.out)
        have E2:=Lib.hid (K2.out.keep hbb.out)
        have E3:=Lib.hid (K3.out.keep hbb.out)
        have E4:=Lib.hid (K4.out.keep hbb.out)
        have E5:=Lib.hid (K5.out.keep hbb.out)
        have E6:=Lib.hid (K6.out.keep hbb.out)
        have E7:=Lib.hid (K7.out.keep hbb.out)
        have E8:=Lib.hid (hS5.out.keep hbb.out)
        have E9:=Lib.hid (hT5.out.keep hbb.out)
        have hB8:=Lib.hid (hB4.out.trans (hbb.out.mono (by have:=hB4.out.size;have:=hBl.out.size;have:=HZZ.out;omega)))
        have hvl:=Q3.out.lt
        clear K1 K2 K3 K4 K5 K6 K7 hS5 hT5 hB4 hbb
        go_upto_region 13 with(fail)
        clear z0 zf
        have hTE:Hid (TE (w8.setCell ⟨bv,0,none⟩ (visitFn ⟨bx,bi,bl,bt,bo,bv,gb,bs,bn,im,lm,nm,om⟩)) gb g o c nodes root (fun b=>b=bx∨b=im∨b=lm∨b=nm∨b=om∨b=bt∨b=bs) ⟨bx,bi,bl,bt,bo,bv,gb,bs,bn,im,lm,nm,om⟩ (.slice none 0 0) (.slice none 0 0) (startT nodes.length)):=by
          have hnl:=HN.out
          have hgl:=HGB.out
          have hzl:=HZZ.out
          have k41:=kind_ne E4.out E1.out (by decide)
          have k42:=kind_ne E4.out E2.out (by decide)
          have k43:=kind_ne E4.out E3.out (by decide)
          have k51:=kind_ne E5.out E1.out (by decide)
          have k52:=kind_ne E5.out E2.out (by decide)
          have k53:=kind_ne E5.out E3.out (by decide)
          have k61:=kind_ne E6.out E1.out (by decide)
          have k62:=kind_ne E6.out E2.out (by decide)
          have k63:=kind_ne E6.out E3.out (by decide)
          have k71:=kind_ne E7.out E1.out (by decide)
          have k72:=kind_ne E7.out E2.out (by decide)
          have k73:=kind_ne E7.out E3.out (by decide)
          have far:∀{b:Nat} {t:TypeId} {xs:List Value},Arr w8 b t xs→b≠bv→Arr (w8.setCell ⟨bv,0,none⟩ (visitFn ⟨bx,bi,bl,bt,bo,bv,gb,bs,bn,im,lm,nm,om⟩)) b t xs:=fun h hn=>h.far hn _
          have hG8:GRd w8 gb g o nodes:=((HG.out.up (B':=w.heap.size) HG.out.2.1 (Nat.le_refl _)).below (hB1.out.trans (hB8.out.mono (by omega))) (by omega)).up (by omega) (by omega) |> fun h=>hgl▸h
          exact { gd := hG8.grown (grown_set w8 ⟨bv, 0, none⟩ _) (show gb ≤ bv by omega)
                  ix:=hnl▸far E4.out (show bi≠bv by omega)
                  lw:=hnl▸far E5.out (show bl≠bv by omega)
                  in_:=hnl▸far E6.out (show bn≠bv by omega)
                  on_:=hnl▸far Q1.out (show bo≠bv by omega)
                  vi:=Q3.out.store 0 _
                  gr:=hnl▸far E7.out (show gb≠bv by omega)
                  nx:=far Q2.out (show bx≠bv by omega)
                  im:=hnl▸far E1.out (show im≠bv by omega)
                  lm:=hnl▸far E2.out (show lm≠bv by omega)
                  nm:=hnl▸far E3.out (show nm≠bv by omega)
                  om:=hnl▸far hO9.out (show om≠bv by omega)
                  st:=far E9.out (show bt≠bv by omega)
                  sz:=far E8.out (show bs≠bv by omega)
                  rs:=World.ownsRow_nil _ _ _ _
                  rz:=World.ownsRow_nil _ _ _ _
                  lo:=fun b hb=>by rcases hb with rfl | rfl | rfl | rfl | rfl | rfl | rfl <;> omega
                  hi:=fun b hb=>by
                    show b<(w8.setCell _ _).heap.size
                    have:(w8.setCell ⟨bv,0,none⟩ (visitFn ⟨bx,bi,bl,bt,bo,bv,gb,bs,bn,im,lm,nm,om⟩)).heap.size=w8.heap.size:=by simp [World.setCell]
                    rw [this]
                    rcases hb with rfl | rfl | rfl | rfl | rfl | rfl | rfl <;> omega
                  fr:=⟨fun q=>by rcases q with q | q | q | q | q | q | q <;> (replace q:bi=_:=q;omega),fun q=>by rcases q with q | q | q | q | q | q | q <;> (replace q:bl=_:=q;omega),fun q=>by rcases q with q | q | q | q | q | q | q <;> (replace q:bn=_:=q;omega),fun q=>by rcases q with q | q | q | q | q | q | q <;> (replace q:bo=_:=q;omega),fun q=>by rcases q with q | q | q | q | q | q | q <;> (replace q:bv=_:=q;omega),fun q=>by rcases q with q | q | q | q | q | q | q <;> (replace q:gb=_:=q;omega)⟩
                  fw:=⟨.inl rfl,.inr (.inl rfl),.inr (.inr (.inl rfl)),.inr (.inr (.inr (.inl rfl))),.inr (.inr (.inr (.inr (.inl rfl)))),.inr (.inr (.inr (.inr (.inr (.inl rfl))))),.inr (.inr (.inr (.inr (.inr (.inr rfl)))))⟩
                  fs:=fun b hb=>by cases hb
                  fz:=fun b hb=>by cases hb
                  d1:=⟨by show bx≠im;omega,by show bx≠lm;omega,by show bx≠nm;omega,n1,n2,n3⟩
                  d2:=by show bt≠bs;omega }
        have hT9:Hid (TE (w8.setCell ⟨bv,0,none⟩ (.func (.func 116) #[] #[.pointer (some ⟨bx,0,none⟩),.pointer (some ⟨bi,0,none⟩),.pointer (some ⟨bl,0,none⟩),.pointer (some ⟨bt,0,none⟩),.pointer (some ⟨bo,0,none⟩),.pointer (some ⟨bv,0,none⟩),.pointer (some ⟨gb,0,none⟩),.pointer (some ⟨bs,0,none⟩),.pointer (some ⟨bn,0,none⟩)])) gb g o c nodes root (fun b=>b=bx∨b=im∨b=lm∨b=nm∨b=om∨b=bt∨b=bs) ⟨bx,bi,bl,bt,bo,bv,gb,bs,bn,im,lm,nm,om⟩ (.slice none 0 0) (.slice none 0 0) (startT nodes.length)):=hTE
        have hB9:Hid (Below zz W (w8.setCell ⟨bv,0,none⟩ (.func (.func 116) #[] #[.pointer (some ⟨bx,0,none⟩),.pointer (some ⟨bi,0,none⟩),.pointer (some ⟨bl,0,none⟩),.pointer (some ⟨bt,0,none⟩),.pointer (some ⟨bo,0,none⟩),.pointer (some ⟨bv,0,none⟩),.pointer (some ⟨gb,0,none⟩),.pointer (some ⟨bs,0,none⟩),.pointer (some ⟨bn,0,none⟩)]))):=hB8.out.setCell (p:=⟨bv,0,none⟩) (show zz≤bv by omega) _
        clear hTE hB8 E1 E2 E3 E4 E5 E6 E7 E8 E9 Q1 Q2 Q3 hO9
        generalize (w8.setCell ⟨bv,0,none⟩ (.func (.func 116) #[] #[.pointer (some ⟨bx,0,none⟩),.pointer (some ⟨bi,0,none⟩),.pointer (some ⟨bl,0,none⟩),.pointer (some ⟨bt,0,none⟩),.pointer (some ⟨bo,0,none⟩),.pointer (some ⟨bv,0,none⟩),.pointer (some ⟨gb,0,none⟩),.pointer (some ⟨bs,0,none⟩),.pointer (some ⟨bn,0,none⟩)]))=w9 at *
        obtain⟨r,hr0⟩:∃r:Nat,root=(r:Int):=⟨root.toNat,by have:=hr.1;omega⟩
        rw [hr0] at HS hr
        have h0:gI (startT nodes.length).index (r:Int)=0:=by
          show(List.replicate nodes.length (0:Int)).getD _ _=0
          rw [List.getD_eq_getElem?_getD,List.getElem?_replicate];split <;> rfl
        have DV:Hid (Calls Tryz.prog 116 #[.int .i64 (r:Int),.pointer (some ⟨bx,0,none⟩),.pointer (some ⟨bi,0,none⟩),.pointer (some ⟨bl,0,none⟩),.pointer (some ⟨bt,0,none⟩),.pointer (some ⟨bo,0,none⟩),.pointer (some ⟨bv,0,none⟩),.pointer (some ⟨gb,0,none⟩),.pointer (some ⟨bs,0,none⟩),.pointer (some ⟨bn,0,none⟩)] w9 (TC w9 gb g o c nodes root (fun b=>b=bx∨b=im∨b=lm∨b=nm∨b=om∨b=bt∨b=bs) ⟨bx,bi,bl,bt,bo,bv,gb,bs,bn,im,lm,nm,om⟩ s)):=visitT_any (B:=gb) (g:=g) (o:=o) (c:=c) (root:=root) (e:=⟨bx,bi,bl,bt,bo,bv,gb,bs,bn,im,lm,nm,om⟩) hI hL (by have:=HN.out;omega) (nodes.length+1) r _ _ _ _ (startT nodes.length) s HS.out (by have:=hr.2;omega) h0 (TOK.start _) hT9.out
        have hTv:w9.cell? ⟨bv,0,none⟩=some (.func (.func 116) #[] #[.pointer (some ⟨bx,0,none⟩),.pointer (some ⟨bi,0,none⟩),.pointer (some ⟨bl,0,none⟩),.pointer (some ⟨bt,0,none⟩),.pointer (some ⟨bo,0,none⟩),.pointer (some ⟨bv,0,none⟩),.pointer (some ⟨gb,0,none⟩),.pointer (some ⟨bs,0,none⟩),.pointer (some ⟨bn,0,none⟩)]):=hT9.out.vi.cell' (i:=0) rfl
        have hTg:w9.cell? ⟨gb,1,none⟩=some (.int .i64 (r:Int)):=by rw [←hr0];exact hT9.out.gr.cell' (i:=1) rfl
        have hzW:zz≤w9.heap.size:=by have q:=hB9.out.size;have q2:=HZZ.out;omega
        have hf9:=Lib.hid (fun(w10:World) (F':Nat→Prop) (h:PStep w9 w10 (fun b=>b=bx∨b=im∨b=lm∨b=nm∨b=om∨b=bt∨b=bs) F')=>h.below (B:=zz) (fun b hb=>by rcases hb with q | q | q | q | q | q | q <;> omega) hzW)
        clear h0 hzW hT9 hr0
        go_upto_region 14 with(go_at_call 116;((with_reducible refine DV.out.mono ?_));rintro en w10 ⟨rfl,F',vs',vz',hT10,hP10⟩)
        have hB10:=Lib.hid (hB9.out.trans (hf9.out w10 F' hP10))
        have y0:w10.cell? ⟨bn,0,none⟩=some (.slice (some ⟨nm,0,none⟩) n n):=by have:=hT10.out.in_.cell' (i:=0) rfl;rw [HN.out] at this;exact this
        have y1:w10.cell? ⟨bs,0,none⟩=some vz':=hT10.out.sz.cell' (i:=0) rfl
        go_quiet (fail)
        have hbq:Below w10.heap.size w10 (w10.drewN nq):=Below.drewN' (Below.refl _ _) nq
        have hT11:=Lib.hid (hT10.out.kept hbq)
        have hB11:=Lib.hid (hB1.out.trans ((hB10.out.trans (hbq.mono (by have q:=hB10.out.size;have q2:=HZZ.out;omega))).mono (by omega)))
        have hz':=Lib.hid (hT10.out.fz)
        clear y0 y1 hbq hT10 hP10 hB10
        go_wp2_with (fail)
        go_ret2
        exact⟨nm,vz',by rw [HN.out];rfl,by rw [HGB.out];exact hB11.out,hT11.out.nm,by rw [HGB.out];exact hT11.out.rz,by rw [HGB.out];omega,fun q=>(hz'.out nm q).2.2.2.2.1 rfl⟩
      · have hjn':(j:Int)<n:=by omega
        have hj0:(0:Int)≤j:=by omega
        have c0:=hNr.out.cell' (I64_getD (l:=List.replicate j (-1) ++ List.replicate (n - j) 0) (k:=j) (by simp;omega))
        have c1:=hNr.out.frozen j
        have hset:Hid (Arr (wr.setCell ⟨nm,j,none⟩ (.int .i64 (-1))) nm 3 (I64 (List.replicate (j+1) (-1) ++ List.replicate (n - (j+1)) 0))):=by
          have h:=hNr.out.store j (.int .i64 (-1))
          rw [I64_set] at h
          have e:(List.replicate j (-1:Int) ++ List.replicate (n - j) 0).set j (-1)=List.replicate (j+1) (-1) ++ List.replicate (n - (j+1)) 0:=by
            rw [show n - j=(n - (j+1))+1 by omega,List.replicate_succ (n:=n - (j+1)),set_mid (by simp),List.replicate_succ' (n:=j)]
          rw [e] at h
          exact h
        have hg2:=Lib.hid (grown_trans hgr (grown_set wr ⟨nm,j,none⟩ (.int .i64 (-1))))
        generalize (List.replicate j (-1:Int) ++ List.replicate (n - j) 0).getD j 0=vj at *
        clear hNr hgr hst0 b0
        go_wp2_with (fail)
        go_roundw
        case rel=>exact⟨j+1,by omega,i64e (by omega),hset,hg2.out⟩
        case measure=>simp [intOf];omega
  case hstep=>
    intro v w2 hI i hi
    obtain⟨hn,oo,ho,hall⟩:=mem_ready.1 hi
    have hi12:i<12:=(Array.getElem?_eq_some_iff.1 ho).1
    clear hi
    rcases(show i=0∨i=1∨i=2∨i=3∨i=4∨i=5∨i=6∨i=7∨i=8∨i=9∨i=10∨i=11 by omega) with rfl | rfl | rfl | rfl | rfl | rfl | rfl | rfl | rfl | rfl | rfl | rfl
    all_goals obtain rfl:=Option.some.inj ho
    · have hn':v.m0=false:=hn
      exact⟨{ v with m0:=true },rfl,by unfold cnt30 one30;simp [hn'],wpOp_run rfl rfl rfl ⟨⟨hI.bl,hI.hz,hI.a1,hI.a3,hI.a5,hI.c6,hI.c7,hI.c8,hI.o9,hI.o10,hI.o11,hI.d13,hI.d15,hI.d35,hI.d67,hI.d68,hI.d78⟩,rfl⟩⟩
    · have hn' : v.a1 = none := by
        have:v.a1.isSome=false:=hn
        simpa using this
      have hm:v.m0=true:=hall ⟨0,.data⟩ (by simp) rfl
      refine⟨{ v with a1:=some w2.heap.size },rfl,by unfold cnt30 one30;simp [hn'],wpOp_run rfl rfl (w':=w2.alloc (.cells (I64 (List.replicate n 0)).toArray 3)) (v:=.slice (some ⟨w2.heap.size,0,none⟩) n n) ?_ ⟨hI.make_a1 hn',rfl⟩⟩
      simp [execOp,Act.eval,act30,mvV,hm,hmk]
    · have hn':v.m2=false:=hn
      exact⟨{ v with m2:=true },rfl,by unfold cnt30 one30;simp [hn'],wpOp_run rfl rfl rfl ⟨⟨hI.bl,hI.hz,hI.a1,hI.a3,hI.a5,hI.c6,hI.c7,hI.c8,hI.o9,hI.o10,hI.o11,hI.d13,hI.d15,hI.d35,hI.d67,hI.d68,hI.d78⟩,rfl⟩⟩
    · have hn' : v.a3 = none := by
        have:v.a3.isSome=false:=hn
        simpa using this
      have hm:v.m2=true:=hall ⟨2,.data⟩ (by simp) rfl
      refine⟨{ v with a3:=some w2.heap.size },rfl,by unfold cnt30 one30;simp [hn'],wpOp_run rfl rfl (w':=w2.alloc (.cells (I64 (List.replicate n 0)).toArray 3)) (v:=.slice (some ⟨w2.heap.size,0,none⟩) n n) ?_ ⟨hI.make_a3 hn',rfl⟩⟩
      simp [execOp,Act.eval,act30,mvV,hm,hmk]
    · have hn':v.m4=false:=hn
      exact⟨{ v with m4:=true },rfl,by unfold cnt30 one30;simp [hn'],wpOp_run rfl rfl rfl ⟨⟨hI.bl,hI.hz,hI.a1,hI.a3,hI.a5,hI.c6,hI.c7,hI.c8,hI.o9,hI.o10,hI.o11,hI.d13,hI.d15,hI.d35,hI.d67,hI.d68,hI.d78⟩,rfl⟩⟩
    · have hn' : v.a5 = none := by
        have:v.a5.isSome=false:=hn
        simpa using this
      have hm:v.m4=true:=hall ⟨4,.data⟩ (by simp) rfl
      refine⟨{ v with a5:=some w2.heap.size },rfl,by unfold cnt30 one30;simp [hn'],wpOp_run rfl rfl (w':=w2.alloc (.cells (I64 (List.replicate n 0)).toArray 3)) (v:=.slice (some ⟨w2.heap.size,0,none⟩) n n) ?_ ⟨hI.make_a5 hn',rfl⟩⟩
      simp [execOp,Act.eval,act30,mvV,hm,hmk]
    · have hn' : v.c6 = none := by
        have:v.c6.isSome=false:=hn
        simpa using this
      refine⟨{ v with c6:=some w2.heap.size },rfl,by unfold cnt30 one30;simp [hn'],wpOp_run rfl rfl (w':=w2.alloc (.cells #[.slice none 0 0] 28)) (v:=.pointer (some ⟨w2.heap.size,0,none⟩)) ?_ ⟨hI.var_c6 hn',rfl⟩⟩
      go_simp
    · have hn' : v.c7 = none := by
        have:v.c7.isSome=false:=hn
        simpa using this
      refine⟨{ v with c7:=some w2.heap.size },rfl,by unfold cnt30 one30;simp [hn'],wpOp_run rfl rfl (w':=w2.alloc (.cells #[.slice none 0 0] 28)) (v:=.pointer (some ⟨w2.heap.size,0,none⟩)) ?_ ⟨hI.var_c7 hn',rfl⟩⟩
      go_simp
    · have hn' : v.c8 = none := by
        have:v.c8.isSome=false:=hn
        simpa using this
      refine⟨{ v with c8:=some w2.heap.size },rfl,by unfold cnt30 one30;simp [hn'],wpOp_run rfl rfl (w':=w2.alloc (.cells #[.slice none 0 0] 28)) (v:=.pointer (some ⟨w2.heap.size,0,none⟩)) ?_ ⟨hI.var_c8 hn',rfl⟩⟩
      go_simp
    · have hn':v.s9=false:=hn
      have q1:v.c6.isSome=true:=hall ⟨6,.data⟩ (by simp) rfl
      have q2:v.a1.isSome=true:=hall ⟨1,.data⟩ (by simp) rfl
      obtain⟨p,hp⟩:=Option.isSome_iff_exists.1 q1
      obtain⟨q,hq⟩:=Option.isSome_iff_exists.1 q2
      have k1:=((hI.c6 p hp).2).cell' (i:=0) rfl
      have k2:=((hI.c6 p hp).2).frozen 0
      refine⟨{ v with s9:=true },rfl,by unfold cnt30 one30;simp [hn'],wpOp_skip rfl rfl (w':=w2.setCell ⟨p,0,none⟩ (.slice (some ⟨q,0,none⟩) n n)) ?_ ⟨hI.put_c6 hp hq,rfl⟩⟩
      simp only [execOp,Act.eval,act30,hp,hq,bxV,slV]
      go_simp
    · have hn':v.s10=false:=hn
      have q1:v.c7.isSome=true:=hall ⟨7,.data⟩ (by simp) rfl
      have q2:v.a3.isSome=true:=hall ⟨3,.data⟩ (by simp) rfl
      obtain⟨p,hp⟩:=Option.isSome_iff_exists.1 q1
      obtain⟨q,hq⟩:=Option.isSome_iff_exists.1 q2
      have k1:=((hI.c7 p hp).2).cell' (i:=0) rfl
      have k2:=((hI.c7 p hp).2).frozen 0
      refine⟨{ v with s10:=true },rfl,by unfold cnt30 one30;simp [hn'],wpOp_skip rfl rfl (w':=w2.setCell ⟨p,0,none⟩ (.slice (some ⟨q,0,none⟩) n n)) ?_ ⟨hI.put_c7 hp hq,rfl⟩⟩
      simp only [execOp,Act.eval,act30,hp,hq,bxV,slV]
      go_simp
    · have hn':v.s11=false:=hn
      have q1:v.c8.isSome=true:=hall ⟨8,.data⟩ (by simp) rfl
      have q2:v.a5.isSome=true:=hall ⟨5,.data⟩ (by simp) rfl
      obtain⟨p,hp⟩:=Option.isSome_iff_exists.1 q1
      obtain⟨q,hq⟩:=Option.isSome_iff_exists.1 q2
      have k1:=((hI.c8 p hp).2).cell' (i:=0) rfl
      have k2:=((hI.c8 p hp).2).frozen 0
      refine⟨{ v with s11:=true },rfl,by unfold cnt30 one30;simp [hn'],wpOp_skip rfl rfl (w':=w2.setCell ⟨p,0,none⟩ (.slice (some ⟨q,0,none⟩) n n)) ?_ ⟨hI.put_c8 hp hq,rfl⟩⟩
      simp only [execOp,Act.eval,act30,hp,hq,bxV,slV]
      go_simp
end Go.Proofs.YtnnnagnjikdnnaaGreatDoor
namespace Go.Proofs.YtnnnagnjikdnnaaGreatDoor
open Go.RowKit
theorem range_drop {m k:Nat} (h:k<m):(List.range m).drop k=k :: (List.range m).drop (k+1):=by
 rw [List.drop_eq_getElem_cons (by simpa using h)]
 simp
def membT (inn:List Int) (j c:Nat):List Int:=((List.range j).filter fun i=>decide (inn.getD i 0=(c:Int))).map fun(i:Nat)=>(i:Int)
theorem membT_succ (inn:List Int) (j c:Nat):membT inn (j+1) c=if inn.getD j 0=(c:Int) then membT inn j c ++ [(j:Int)] else membT inn j c:=by
 unfold membT
 rw [List.range_succ,List.filter_append,List.map_append,List.filter_cons]
 by_cases h:inn.getD j 0=(c:Int)
 ·rw [if_pos (decide_eq_true h),if_pos h];rfl
 ·rw [if_neg (by rw [decide_eq_false h];simp),if_neg h];exact List.append_nil _
theorem membT_all (inn:List Int) (c:Nat):membT inn inn.length c=(membersV inn c).map fun(i:Nat)=>(i:Int):=rfl
theorem membT_len (inn:List Int) (j c:Nat):(membT inn j c).length≤j:=by
 unfold membT
 rw [List.length_map]
 exact Nat.le_trans (List.length_filter_le _ _) (by simp)
structure MemI (w:World) (B mb m:Nat) (L:Nat→List Int) (vals:List Value):Prop where
 len:vals.length=m
 arr:Arr w mb 28 vals
 row:∀(c:Nat) (v:Value),vals[c]? = some v→w.ownsRow B 3 1 v (L c).length (I64 (L c))
 dis:∀(c c':Nat) (v v':Value) (b:Nat),vals[c]? = some v→vals[c']? = some v'→c≠c'→v.ownBlock=some b→v'.ownBlock≠some b
theorem nil_of_rep {m c:Nat} {v:Value} (h:(List.replicate m (Value.slice none 0 0))[c]? = some v):v=.slice none 0 0:=by
 rw [List.getElem?_replicate] at h
 split at h
 ·exact(Option.some.inj h).symm
 ·cases h
theorem MemI.start {w:World} {B mb m:Nat} {inn:List Int} (h:Arr w mb 28 (List.replicate m (.slice none 0 0))):MemI w B mb m (membT inn 0) (List.replicate m (.slice none 0 0)) where
 len:=List.length_replicate
 arr:=h
 row:=fun c v hv=>by rw [nil_of_rep hv];exact World.ownsRow_nil _ _ _ _
 dis:=fun c c' v v' b h1 _ _ hb=>by rw [nil_of_rep h1] at hb;cases hb
theorem grown_row {w4 wr w1 w3:World} {mb:Nat} {q:Option Nat} (h:w4.grownBy wr (some mb)) (hb:Below wr.heap.size wr w1) (hg:w1.grownBy w3 q) (hq:∀b,q=some b→w4.heap.size≤b) (i:Nat) (u:Value):w4.grownBy (w3.setCell ⟨mb,i,none⟩ u) (some mb):=by
 refine grown_trans ⟨hg.os.trans (hb.os.trans h.os),hg.tape.trans (hb.tape.trans h.tape),hg.output.trans (hb.output.trans h.output),Nat.le_trans h.size (Nat.le_trans hb.size hg.size),fun j hj hn=>?_⟩ (grown_set w3 ⟨mb,i,none⟩ u)
 have h1:=Nat.lt_of_lt_of_le hj h.size
 exact(hg.block j (Nat.lt_of_lt_of_le h1 hb.size) (fun e=>by have:=hq j e.symm;omega)).trans ((hb.block j h1).trans (h.block j hj hn))
theorem grown_drew {a b:World} {row:Option Nat} (h:a.grownBy b row):a.grownBy b.drew row:=⟨h.os,h.tape,h.output,h.size,h.block⟩
theorem MemI.push {w w1 w3:World} {B mb m c:Nat} {L:Nat→List Int} {vals:List Value} {v v':Value} (h:MemI w B mb m L vals) (hv:vals[c]? = some v) (x:Int) (hb:Below w.heap.size w w1) (hg:w1.grownBy w3 v.ownBlock)
  (hown:w3.ownsRow B 3 1 v' ((L c).length+1) (I64 (L c) ++ [.int .i64 x])) (hat:v'.ownBlock=v.ownBlock∨v'.ownBlock=some w1.heap.size) (L':Nat→List Int) (hL:L' c=L c ++ [x]) (hL2:∀c',c'≠c→L' c'=L c') :
  MemI (w3.setCell ⟨mb,c,none⟩ v') B mb m L' (vals.set c v'):=by
 have hrow:=h.row c v hv
 have hk:v.ownBlock≠some mb:=own_arr hrow h.arr (by decide)
 have h3:=arr_row h.arr hb hg hk
 have hc:=(List.getElem?_eq_some_iff.1 hv).1
 have hkeep:∀c' u,c'≠c→vals[c']? = some u→(w3.setCell ⟨mb,c,none⟩ v').ownsRow B 3 1 u (L c').length (I64 (L c')):=fun c' u hne hu=>by
  have hr:=h.row c' u hu
  refine own_same hr (fun b hb'=>?_)
  have hl:=(hr.lt b hb').2
  refine(setCell_heap_ne _ _ _ ?_).trans ((hg.block b (Nat.lt_of_lt_of_le hl hb.size) (fun e'=>h.dis c' c u v b hu hv hne hb' e'.symm)).trans (hb.block b hl))
  rintro rfl
  exact own_arr hr h.arr (by decide) hb'
 refine⟨by rw [List.length_set];exact h.len,h3.store c v',fun c' u hu=>?_,fun c1 c2 u1 u2 b h1 h2 hne hb1=>?_⟩
 ·rw [List.getElem?_set] at hu
  by_cases e:c=c'
  ·subst e
   rw [if_pos rfl,if_pos hc] at hu
   obtain rfl:=Option.some.inj hu
   rw [hL,I64_append,List.length_append,List.length_singleton]
   exact own_far (p:=⟨mb,c,none⟩) hown (own_arr hown h3 (by decide)) _
  ·rw [if_neg e] at hu
   rw [hL2 c' (Ne.symm e)]
   exact hkeep c' u (Ne.symm e) hu
 ·rw [List.getElem?_set] at h1 h2
  have hvn:∀c' u,c'≠c→vals[c']? = some u→∀b,u.ownBlock=some b→v'.ownBlock≠some b:=fun c' u hne' hu b hb' hvb=>by
   have hr:=h.row c' u hu
   have hl:=(hr.lt b hb').2
   rcases hat with h4 | h4
   ·rw [h4] at hvb
    exact h.dis c' c u v b hu hv hne' hb' hvb
   ·rw [h4] at hvb
    have:=Option.some.inj hvb
    have:=hb.size
    omega
  by_cases e1:c=c1
  ·subst e1
   rw [if_pos rfl,if_pos hc] at h1
   obtain rfl:=Option.some.inj h1
   rw [if_neg hne] at h2
   exact fun hb2=>hvn c2 u2 (Ne.symm hne) h2 b hb2 hb1
  ·rw [if_neg e1] at h1
   by_cases e2:c=c2
   ·subst e2
    rw [if_pos rfl,if_pos hc] at h2
    obtain rfl:=Option.some.inj h2
    exact hvn c1 u1 (Ne.symm e1) h1 b hb1
   ·rw [if_neg e2] at h2
    exact h.dis c1 c2 u1 u2 b h1 h2 hne hb1
def BD (l:List Int) (K:Nat):Prop:=∀i,0≤l.getD i 0∧l.getD i 0≤(K:Int)
theorem BD.set {l:List Int} {K:Nat} (h:BD l K) (c:Nat) {v:Int} (h0:0≤v) (h1:v≤(K:Int)):BD (l.set c v) K:=fun i=>by
 rw [List.getD_eq_getElem?_getD,List.getElem?_set]
 have:=h i
 split
 ·split
  ·exact⟨h0,h1⟩
  ·exact⟨by simp,by simp⟩
 ·rw [←List.getD_eq_getElem?_getD];exact this
theorem BD.mono {l:List Int} {K K':Nat} (h:BD l K) (hk:K≤K'):BD l K':=fun i=>by have:=h i;omega
theorem BD.zero (n:Nat):BD (List.replicate n 0) 0:=fun i=>by
 rw [List.getD_eq_getElem?_getD,List.getElem?_replicate];split <;> simp
theorem edgeD_len (inn:List Int) (c:Nat) (st:List Int×Bool) (x:Int):(edgeD inn c st x).1.length=st.1.length:=by
 unfold edgeD
 split
 ·rfl
 ·exact List.length_set
theorem edgeD_BD {inn:List Int} {c:Nat} {st:List Int×Bool} {x:Int} {K:Nat} (h:BD st.1 K):BD (edgeD inn c st x).1 K:=by
 unfold edgeD
 split
 ·exact h
 ·have h1:=h c
  have h2:=h (gI inn x).toNat
  exact h.set c (by unfold gI at *;omega) (by unfold gI at *;omega)
theorem bd_next {l:List Int} {q c:Nat} {v:Int} (h:BD l (q*65536)) (h0:0≤v) (h1:v≤65536):BD (l.set c (l.getD c 0+v)) ((q+1)*65536):=by
 obtain⟨K',hK'⟩:∃K',(q+1)*65536=K':=⟨_,rfl⟩
 obtain⟨K,hK⟩:∃K,q*65536=K:=⟨_,rfl⟩
 have hKK:(K:Int)+65536=(K':Int):=by omega
 have hle:K≤K':=by omega
 rw [hK] at h
 rw [hK']
 clear hK hK'
 have h2:=h c
 have h3:BD l K':=h.mono hle
 exact h3.set c (by omega) (by omega)
def restL (nd:GNode) (j:Nat):List Int:=if j=0 then refs nd else if j=1 then nd.items else []
theorem restL_step {nd:GNode} {j:Nat} (h:j<2):restL nd j=twoL nd j ++ restL nd (j+1):=by
 rcases(show j=0∨j=1 by omega) with rfl | rfl
 ·rfl
 ·simp [restL,twoL]
structure EndT (nodes:List GNode) (s:TS):Prop where
 li:s.inn.length=nodes.length
 inr:∀i,i<nodes.length→0≤s.inn.getD i 0∧s.inn.getD i 0<(s.sizes.length:Int)
 szs:∀c,0≤s.sizes.getD c 0∧s.sizes.getD c 0≤65536
 szl:s.sizes.length≤65536
end Go.Proofs.YtnnnagnjikdnnaaGreatDoor
