/- The walk of jsonout's node. -/
import Derived.Test.YtgbkbgiogdhnaaaGreatDoorMDa
import Derived.Test.YtgbkbgiogdhnaaaGreatDoorMDb
set_option linter.unusedVariables false
set_option linter.unusedSimpArgs false
set_option linter.defProp false
set_option linter.constructorNameAsVariable false
namespace Go.Proofs.YtgbkbgiogdhnaaaGreatDoor
open Go.RowKit
def DecOK (w0:World) (Bp:Nat) (nodes:List GNode) (dec:List Nat→List Nat):Prop:=∀k,k<nodes.length→(ndAt nodes k).kind=3→By (dec (ndAt nodes k).text)∧(dec (ndAt nodes k).text).length≤100000 ∧
  ∀w,Below Bp w0 w→Calls Tryz.prog 73 #[.string (mks (ndAt nodes k).text)] w fun e w'=>e=.returned (.string (mks (dec (ndAt nodes k).text)))∧Below w.heap.size w w'
set_option maxRecDepth 100000 in
set_option maxHeartbeats 32000000 in
theorem node_0 {w0 : World} {Bp b g o c k f op : Nat} {nodes : List GNode} {root : Int} {lit : Bool} {dec : List Nat → List Nat} {a t : List Nat} (hOK : PrtOK nodes) (hk : k < nodes.length) (hkd : (ndAt nodes k).kind = 0) (ht : t = [110, 117, 108, 108]) (hlen : a.length + t.length ≤ 4294967296) (w : World) (hbe : Below Bp w0 w) (hG : GRd w Bp g o nodes) (hP : PrF Bp b (.slice (some ⟨g, o, none⟩) nodes.length c) (.int .i64 root) (.bool lit) (B8 a) w) :
    Calls Tryz.prog 44 #[.pointer (some ⟨b,0,none⟩),.int .i64 (k:Int),.int .i64 (op:Int)] w (ContR Bp b (.slice (some ⟨g,o,none⟩) nodes.length c) (.int .i64 root) lit w (a ++ t)):=by
  have hbl:=hP.lt
  have hBw:Bp≤w.heap.size:=hG.2.1
  have HP:=Lib.hid hP
  have HG:=Lib.hid hG
  have HBE:=Lib.hid hbe
  obtain⟨hty,htl⟩:=hOK.txt k hk
  have HTY:=Lib.hid hty
  have HTL:=Lib.hid htl
  have HNl:=hOK.len
  have HOK:=Lib.hid hOK
  have HKD:=Lib.hid hkd
  have HT:=Lib.hid ht
  obtain⟨K,ck,I,ci,d0',d1',d2',d3',d4',⟨hK,hKb⟩,hI1,hI2⟩:=hG.of_at hk
  have HK:=Lib.hid hK
  have HKb:=Lib.hid hKb
  have HI:=Lib.hid hI1
  have HIb:=Lib.hid hI2
  have hgB:=hG.1
  have hA1:Hid (Arr (w.alloc (.cells #[.pointer (some ⟨b,0,none⟩)] 62)) w.heap.size 62 [.pointer (some ⟨b,0,none⟩)]):=Arr.new w _ _
  have hB1:Hid (Below w.heap.size w (w.alloc (.cells #[.pointer (some ⟨b,0,none⟩)] 62))):=(Below.refl _ _).alloc (Nat.le_refl _) _
  have bl2:=(hP.kept hB1.out).cells.1
  have d0:=(hB1.out.cell (p:=⟨g,o+k*5,none⟩) (show g<w.heap.size by omega)).trans d0'
  have d1:=(hB1.out.cell (p:=⟨g,o+k*5+1,none⟩) (show g<w.heap.size by omega)).trans d1'
  have d2:=(hB1.out.cell (p:=⟨g,o+k*5+2,none⟩) (show g<w.heap.size by omega)).trans d2'
  have d3:=(hB1.out.cell (p:=⟨g,o+k*5+3,none⟩) (show g<w.heap.size by omega)).trans d3'
  have d4:=(hB1.out.cell (p:=⟨g,o+k*5+4,none⟩) (show g<w.heap.size by omega)).trans d4'
  have k0:(0:Int)≤k:=by omega
  have k1:(k:Int)<nodes.length:=by omega
  rw [hkd] at d0
  clear hP hG hbe hOK hkd d0' d1' d2' d3' d4' hK hKb hI1 hI2 hty htl ht
  generalize hnd:ndAt nodes k=nd at *
  have HND:=Lib.hid hnd
  clear hnd
  go_enter Tryz.func44,Tryz.ntmps44
  go_upto_region 1 with(fail)
  obtain⟨pb,hpb⟩:∃x,w.heap.size=x:=⟨_,rfl⟩
  have HPB:=Lib.hid hpb
  rw [hpb] at hA1 hbl hBw ⊢
  rw [hpb] at hB1
  clear hpb
  generalize (w.alloc (.cells #[.pointer (some ⟨b,0,none⟩)] 62))=W1 at *
  have hp1:=hA1.out.cell' (i:=0) rfl
  have hA2:Hid (Arr (W1.alloc (.cells #[.int .i64 0,.string (mks nd.text),.bool nd.ord,.slice K nd.keys.length ck,.slice I nd.items.length ci] 43)) W1.heap.size 43 [.int .i64 0,.string (mks nd.text),.bool nd.ord,.slice K nd.keys.length ck,.slice I nd.items.length ci]):=Arr.new W1 _ _
  have hB2:Hid (Below W1.heap.size W1 (W1.alloc (.cells #[.int .i64 0,.string (mks nd.text),.bool nd.ord,.slice K nd.keys.length ck,.slice I nd.items.length ci] 43))):=(Below.refl _ _).alloc (Nat.le_refl _) _
  go_upto_region 3 with(fail)
  clear hp1 d0 d1 d2 d3 d4 bl2
  generalize hw2:(W1.alloc (.cells #[.int .i64 0,.string (mks nd.text),.bool nd.ord,.slice K nd.keys.length ck,.slice I nd.items.length ci] 43))=W at *
  clear hw2
  obtain⟨nb,hnb⟩:∃x,W1.heap.size=x:=⟨_,rfl⟩
  have hnb2:pb<nb:=by have:=hA1.out.lt;omega
  rw [hnb] at hA2 hB2 ⊢
  have hBW:Hid (Below w.heap.size w W):=by rw [HPB.out];exact hB1.out.trans (hB2.out.mono (by omega))
  have hPb:Hid (Arr W pb 62 [.pointer (some ⟨b,0,none⟩)]):=hA1.out.below hB2.out hnb2
  clear hnb hA1 hB1 hB2
  have hbp:Bp≤W.heap.size:=by have:=hBW.out.size;have:=HPB.out;omega
  have hF:=Lib.hid (HP.out.kept hBW.out)
  have hBE:=Lib.hid (HBE.out.trans (hBW.out.mono (by rw [HPB.out];exact hBw)))
  have hoW:Hid (Others b w W):=fun q _ hq _ _=>(hBW.out.block q (Array.getElem?_eq_some_iff.1 hq).1).trans hq
  have hBpW:Hid (Below Bp w W):=hBW.out.mono (by rw [HPB.out];exact hBw)
  have hpbb:pb≠b:=by omega
  have hnbb:nb≠b:=by omega
  have pb0:=hPb.out.cell' (i:=0) rfl
  have nb0:=hA2.out.cell' (i:=0) rfl
  have hls:Hid ((B8 a).length+(⟨#[110,117,108,108]⟩:ByteArray).size≤140737488355328):=by show _≤_;rw [len_B8];show _+4≤_;omega
  go_upto_region 17 with(go_at_call 16;((with_reducible refine(pr_string Bp b _ _ _ _ _ _ hF.out hls.out hbp).mono ?_));rintro e w4 ⟨rfl,hP4,hb4,ho4⟩)
  have hI4:PrI Bp b (.slice (some ⟨g,o,none⟩) nodes.length c) (.int .i64 root) (.bool lit) W w4 (a ++ t):=⟨by rw [HT.out,B8_append];exact hP4,hb4,ho4,Nat.le_trans hbp hb4.size⟩
  have hIz:Hid (PrI Bp b (.slice (some ⟨g,o,none⟩) nodes.length c) (.int .i64 root) (.bool lit) w w4 (a ++ t)):=⟨hI4.1,hBpW.out.trans hI4.2.1,Lib.OthersKept.trans hoW.out hI4.2.2.1,hI4.2.2.2⟩
  clear hP4 hb4 ho4 hI4 pb0 nb0
  go_wp2_with (fail)
  go_ret
  exact⟨rfl,hIz.out⟩
set_option maxRecDepth 100000 in
set_option maxHeartbeats 32000000 in
theorem node_1 {w0 : World} {Bp b g o c k f op : Nat} {nodes : List GNode} {root : Int} {lit : Bool} {dec : List Nat → List Nat} {a t : List Nat} (hOK : PrtOK nodes) (hk : k < nodes.length) (hkd : (ndAt nodes k).kind = 1) (ht : t = (ndAt nodes k).text) (hlen : a.length + t.length ≤ 4294967296) (w : World) (hbe : Below Bp w0 w) (hG : GRd w Bp g o nodes) (hP : PrF Bp b (.slice (some ⟨g, o, none⟩) nodes.length c) (.int .i64 root) (.bool lit) (B8 a) w) :
    Calls Tryz.prog 44 #[.pointer (some ⟨b,0,none⟩),.int .i64 (k:Int),.int .i64 (op:Int)] w (ContR Bp b (.slice (some ⟨g,o,none⟩) nodes.length c) (.int .i64 root) lit w (a ++ t)):=by
  have hbl:=hP.lt
  have hBw:Bp≤w.heap.size:=hG.2.1
  have HP:=Lib.hid hP
  have HG:=Lib.hid hG
  have HBE:=Lib.hid hbe
  obtain⟨hty,htl⟩:=hOK.txt k hk
  have HTY:=Lib.hid hty
  have HTL:=Lib.hid htl
  have HNl:=hOK.len
  have HOK:=Lib.hid hOK
  have HKD:=Lib.hid hkd
  have HT:=Lib.hid ht
  obtain⟨K,ck,I,ci,d0',d1',d2',d3',d4',⟨hK,hKb⟩,hI1,hI2⟩:=hG.of_at hk
  have HK:=Lib.hid hK
  have HKb:=Lib.hid hKb
  have HI:=Lib.hid hI1
  have HIb:=Lib.hid hI2
  have hgB:=hG.1
  have hA1:Hid (Arr (w.alloc (.cells #[.pointer (some ⟨b,0,none⟩)] 62)) w.heap.size 62 [.pointer (some ⟨b,0,none⟩)]):=Arr.new w _ _
  have hB1:Hid (Below w.heap.size w (w.alloc (.cells #[.pointer (some ⟨b,0,none⟩)] 62))):=(Below.refl _ _).alloc (Nat.le_refl _) _
  have bl2:=(hP.kept hB1.out).cells.1
  have d0:=(hB1.out.cell (p:=⟨g,o+k*5,none⟩) (show g<w.heap.size by omega)).trans d0'
  have d1:=(hB1.out.cell (p:=⟨g,o+k*5+1,none⟩) (show g<w.heap.size by omega)).trans d1'
  have d2:=(hB1.out.cell (p:=⟨g,o+k*5+2,none⟩) (show g<w.heap.size by omega)).trans d2'
  have d3:=(hB1.out.cell (p:=⟨g,o+k*5+3,none⟩) (show g<w.heap.size by omega)).trans d3'
  have d4:=(hB1.out.cell (p:=⟨g,o+k*5+4,none⟩) (show g<w.heap.size by omega)).trans d4'
  have k0:(0:Int)≤k:=by omega
  have k1:(k:Int)<nodes.length:=by omega
  rw [hkd] at d0
  clear hP hG hbe hOK hkd d0' d1' d2' d3' d4' hK hKb hI1 hI2 hty htl ht
  generalize hnd:ndAt nodes k=nd at *
  have HND:=Lib.hid hnd
  clear hnd
  go_enter Tryz.func44,Tryz.ntmps44
  go_upto_region 1 with(fail)
  obtain⟨pb,hpb⟩:∃x,w.heap.size=x:=⟨_,rfl⟩
  have HPB:=Lib.hid hpb
  rw [hpb] at hA1 hbl hBw ⊢
  rw [hpb] at hB1
  clear hpb
  generalize (w.alloc (.cells #[.pointer (some ⟨b,0,none⟩)] 62))=W1 at *
  have hp1:=hA1.out.cell' (i:=0) rfl
  have hA2:Hid (Arr (W1.alloc (.cells #[.int .i64 1,.string (mks nd.text),.bool nd.ord,.slice K nd.keys.length ck,.slice I nd.items.length ci] 43)) W1.heap.size 43 [.int .i64 1,.string (mks nd.text),.bool nd.ord,.slice K nd.keys.length ck,.slice I nd.items.length ci]):=Arr.new W1 _ _
  have hB2:Hid (Below W1.heap.size W1 (W1.alloc (.cells #[.int .i64 1,.string (mks nd.text),.bool nd.ord,.slice K nd.keys.length ck,.slice I nd.items.length ci] 43))):=(Below.refl _ _).alloc (Nat.le_refl _) _
  go_upto_region 3 with(fail)
  clear hp1 d0 d1 d2 d3 d4 bl2
  generalize hw2:(W1.alloc (.cells #[.int .i64 1,.string (mks nd.text),.bool nd.ord,.slice K nd.keys.length ck,.slice I nd.items.length ci] 43))=W at *
  clear hw2
  obtain⟨nb,hnb⟩:∃x,W1.heap.size=x:=⟨_,rfl⟩
  have hnb2:pb<nb:=by have:=hA1.out.lt;omega
  rw [hnb] at hA2 hB2 ⊢
  have hBW:Hid (Below w.heap.size w W):=by rw [HPB.out];exact hB1.out.trans (hB2.out.mono (by omega))
  have hPb:Hid (Arr W pb 62 [.pointer (some ⟨b,0,none⟩)]):=hA1.out.below hB2.out hnb2
  clear hnb hA1 hB1 hB2
  have hbp:Bp≤W.heap.size:=by have:=hBW.out.size;have:=HPB.out;omega
  have hF:=Lib.hid (HP.out.kept hBW.out)
  have hBE:=Lib.hid (HBE.out.trans (hBW.out.mono (by rw [HPB.out];exact hBw)))
  have hoW:Hid (Others b w W):=fun q _ hq _ _=>(hBW.out.block q (Array.getElem?_eq_some_iff.1 hq).1).trans hq
  have hBpW:Hid (Below Bp w W):=hBW.out.mono (by rw [HPB.out];exact hBw)
  have hpbb:pb≠b:=by omega
  have hnbb:nb≠b:=by omega
  have pb0:=hPb.out.cell' (i:=0) rfl
  have nb0:=hA2.out.cell' (i:=0) rfl
  have nb1:=hA2.out.cell' (i:=1) rfl
  have hls:Hid ((B8 a).length+(mks nd.text).size≤140737488355328):=by show _≤_;rw [len_B8,size_mks];have:=HTL.out;omega
  have pq0:W.drew.cell? ⟨pb,0,none⟩=_:=pb0
  have nq1:W.drew.cell? ⟨nb,1,none⟩=_:=nb1
  have hFd:PrF Bp b (.slice (some ⟨g,o,none⟩) nodes.length c) (.int .i64 root) (.bool lit) (B8 a) W.drew:=hF.out.elim (fun h=>.inl (PrAt.drew h)) (fun h=>.inr (PrAt.drew h))
  have hbpd:Bp≤W.drew.heap.size:=hbp
  have HBP:=Lib.hid hbpd
  have HFD:=Lib.hid hFd
  have hsc:Hid (Lib.strCells (mks nd.text)=B8 nd.text):=str_B8 HTY.out
  go_upto_region 6 with(fail)
  clear nb0 pb0 nb1 hFd
  go_region_held3 (fun w'=>w'.cell? ⟨pb,0,none⟩=some (.pointer (some ⟨b,0,none⟩))∧w'.cell? ⟨nb,1,none⟩=some (.string (mks nd.text))) (first | exact⟨by assumption,by assumption⟩ | go_keep)
    ((go_at_call 16;((with_reducible refine(pr_string Bp b _ _ _ _ _ _ HFD.out hls.out HBP.out).mono ?_));rintro e w4 ⟨rfl,hP4,hb4,ho4⟩;have hI4:PrI Bp b (.slice (some ⟨g,o,none⟩) nodes.length c) (.int .i64 root) (.bool lit) W w4 (a ++ t):=⟨by rw [HT.out,B8_append,←hsc.out];exact hP4,(Below.refl Bp W).drew.trans hb4,Lib.OthersKept.trans (Lib.OthersKept.drew (Lib.OthersKept.refl _ _ W)) ho4,Nat.le_trans hbp hb4.size⟩;have hIz:Hid (PrI Bp b (.slice (some ⟨g,o,none⟩) nodes.length c) (.int .i64 root) (.bool lit) w w4 (a ++ t)):=⟨hI4.1,hBpW.out.trans hI4.2.1,Lib.OthersKept.trans hoW.out hI4.2.2.1,hI4.2.2.2⟩;have q40:=(hPb.out.others hI4.2.2.1 hpbb (by decide)).cell' (i:=0) rfl;have q41:=(hA2.out.others hI4.2.2.1 hnbb (by decide)).cell' (i:=1) rfl))
  clear hP4 hb4 ho4 hI4 q40 q41 pq0 nq1
  go_wp2_with (fail)
  go_ret
  exact⟨rfl,hIz.out⟩
set_option maxRecDepth 100000 in
set_option maxHeartbeats 32000000 in
theorem node_2 {w0 : World} {Bp b g o c k f op : Nat} {nodes : List GNode} {root : Int} {lit : Bool} {dec : List Nat → List Nat} {a t : List Nat} (hOK : PrtOK nodes) (hk : k < nodes.length) (hkd : (ndAt nodes k).kind = 2) (ht : t = (ndAt nodes k).text) (hlen : a.length + t.length ≤ 4294967296) (w : World) (hbe : Below Bp w0 w) (hG : GRd w Bp g o nodes) (hP : PrF Bp b (.slice (some ⟨g, o, none⟩) nodes.length c) (.int .i64 root) (.bool lit) (B8 a) w) :
    Calls Tryz.prog 44 #[.pointer (some ⟨b,0,none⟩),.int .i64 (k:Int),.int .i64 (op:Int)] w (ContR Bp b (.slice (some ⟨g,o,none⟩) nodes.length c) (.int .i64 root) lit w (a ++ t)):=by
  have hbl:=hP.lt
  have hBw:Bp≤w.heap.size:=hG.2.1
  have HP:=Lib.hid hP
  have HG:=Lib.hid hG
  have HBE:=Lib.hid hbe
  obtain⟨hty,htl⟩:=hOK.txt k hk
  have HTY:=Lib.hid hty
  have HTL:=Lib.hid htl
  have HNl:=hOK.len
  have HOK:=Lib.hid hOK
  have HKD:=Lib.hid hkd
  have HT:=Lib.hid ht
  obtain⟨K,ck,I,ci,d0',d1',d2',d3',d4',⟨hK,hKb⟩,hI1,hI2⟩:=hG.of_at hk
  have HK:=Lib.hid hK
  have HKb:=Lib.hid hKb
  have HI:=Lib.hid hI1
  have HIb:=Lib.hid hI2
  have hgB:=hG.1
  have hA1:Hid (Arr (w.alloc (.cells #[.pointer (some ⟨b,0,none⟩)] 62)) w.heap.size 62 [.pointer (some ⟨b,0,none⟩)]):=Arr.new w _ _
  have hB1:Hid (Below w.heap.size w (w.alloc (.cells #[.pointer (some ⟨b,0,none⟩)] 62))):=(Below.refl _ _).alloc (Nat.le_refl _) _
  have bl2:=(hP.kept hB1.out).cells.1
  have d0:=(hB1.out.cell (p:=⟨g,o+k*5,none⟩) (show g<w.heap.size by omega)).trans d0'
  have d1:=(hB1.out.cell (p:=⟨g,o+k*5+1,none⟩) (show g<w.heap.size by omega)).trans d1'
  have d2:=(hB1.out.cell (p:=⟨g,o+k*5+2,none⟩) (show g<w.heap.size by omega)).trans d2'
  have d3:=(hB1.out.cell (p:=⟨g,o+k*5+3,none⟩) (show g<w.heap.size by omega)).trans d3'
  have d4:=(hB1.out.cell (p:=⟨g,o+k*5+4,none⟩) (show g<w.heap.size by omega)).trans d4'
  have k0:(0:Int)≤k:=by omega
  have k1:(k:Int)<nodes.length:=by omega
  rw [hkd] at d0
  clear hP hG hbe hOK hkd d0' d1' d2' d3' d4' hK hKb hI1 hI2 hty htl ht
  generalize hnd:ndAt nodes k=nd at *
  have HND:=Lib.hid hnd
  clear hnd
  go_enter Tryz.func44,Tryz.ntmps44
  go_upto_region 1 with(fail)
  obtain⟨pb,hpb⟩:∃x,w.heap.size=x:=⟨_,rfl⟩
  have HPB:=Lib.hid hpb
  rw [hpb] at hA1 hbl hBw ⊢
  rw [hpb] at hB1
  clear hpb
  generalize (w.alloc (.cells #[.pointer (some ⟨b,0,none⟩)] 62))=W1 at *
  have hp1:=hA1.out.cell' (i:=0) rfl
  have hA2:Hid (Arr (W1.alloc (.cells #[.int .i64 2,.string (mks nd.text),.bool nd.ord,.slice K nd.keys.length ck,.slice I nd.items.length ci] 43)) W1.heap.size 43 [.int .i64 2,.string (mks nd.text),.bool nd.ord,.slice K nd.keys.length ck,.slice I nd.items.length ci]):=Arr.new W1 _ _
  have hB2:Hid (Below W1.heap.size W1 (W1.alloc (.cells #[.int .i64 2,.string (mks nd.text),.bool nd.ord,.slice K nd.keys.length ck,.slice I nd.items.length ci] 43))):=(Below.refl _ _).alloc (Nat.le_refl _) _
  go_upto_region 3 with(fail)
  clear hp1 d0 d1 d2 d3 d4 bl2
  generalize hw2:(W1.alloc (.cells #[.int .i64 2,.string (mks nd.text),.bool nd.ord,.slice K nd.keys.length ck,.slice I nd.items.length ci] 43))=W at *
  clear hw2
  obtain⟨nb,hnb⟩:∃x,W1.heap.size=x:=⟨_,rfl⟩
  have hnb2:pb<nb:=by have:=hA1.out.lt;omega
  rw [hnb] at hA2 hB2 ⊢
  have hBW:Hid (Below w.heap.size w W):=by rw [HPB.out];exact hB1.out.trans (hB2.out.mono (by omega))
  have hPb:Hid (Arr W pb 62 [.pointer (some ⟨b,0,none⟩)]):=hA1.out.below hB2.out hnb2
  clear hnb hA1 hB1 hB2
  have hbp:Bp≤W.heap.size:=by have:=hBW.out.size;have:=HPB.out;omega
  have hF:=Lib.hid (HP.out.kept hBW.out)
  have hBE:=Lib.hid (HBE.out.trans (hBW.out.mono (by rw [HPB.out];exact hBw)))
  have hoW:Hid (Others b w W):=fun q _ hq _ _=>(hBW.out.block q (Array.getElem?_eq_some_iff.1 hq).1).trans hq
  have hBpW:Hid (Below Bp w W):=hBW.out.mono (by rw [HPB.out];exact hBw)
  have hpbb:pb≠b:=by omega
  have hnbb:nb≠b:=by omega
  have pb0:=hPb.out.cell' (i:=0) rfl
  have nb0:=hA2.out.cell' (i:=0) rfl
  have nb1:=hA2.out.cell' (i:=1) rfl
  have hls:Hid ((B8 a).length+(mks nd.text).size≤140737488355328):=by show _≤_;rw [len_B8,size_mks];have:=HTL.out;omega
  have pq0:W.drew.cell? ⟨pb,0,none⟩=_:=pb0
  have nq1:W.drew.cell? ⟨nb,1,none⟩=_:=nb1
  have hFd:PrF Bp b (.slice (some ⟨g,o,none⟩) nodes.length c) (.int .i64 root) (.bool lit) (B8 a) W.drew:=hF.out.elim (fun h=>.inl (PrAt.drew h)) (fun h=>.inr (PrAt.drew h))
  have hbpd:Bp≤W.drew.heap.size:=hbp
  have HBP:=Lib.hid hbpd
  have HFD:=Lib.hid hFd
  have hsc:Hid (Lib.strCells (mks nd.text)=B8 nd.text):=str_B8 HTY.out
  go_upto_region 6 with(fail)
  clear nb0 pb0 nb1 hFd
  go_region_held3 (fun w'=>w'.cell? ⟨pb,0,none⟩=some (.pointer (some ⟨b,0,none⟩))∧w'.cell? ⟨nb,1,none⟩=some (.string (mks nd.text))) (first | exact⟨by assumption,by assumption⟩ | go_keep)
    ((go_at_call 16;((with_reducible refine(pr_string Bp b _ _ _ _ _ _ HFD.out hls.out HBP.out).mono ?_));rintro e w4 ⟨rfl,hP4,hb4,ho4⟩;have hI4:PrI Bp b (.slice (some ⟨g,o,none⟩) nodes.length c) (.int .i64 root) (.bool lit) W w4 (a ++ t):=⟨by rw [HT.out,B8_append,←hsc.out];exact hP4,(Below.refl Bp W).drew.trans hb4,Lib.OthersKept.trans (Lib.OthersKept.drew (Lib.OthersKept.refl _ _ W)) ho4,Nat.le_trans hbp hb4.size⟩;have hIz:Hid (PrI Bp b (.slice (some ⟨g,o,none⟩) nodes.length c) (.int .i64 root) (.bool lit) w w4 (a ++ t)):=⟨hI4.1,hBpW.out.trans hI4.2.1,Lib.OthersKept.trans hoW.out hI4.2.2.1,hI4.2.2.2⟩;have q40:=(hPb.out.others hI4.2.2.1 hpbb (by decide)).cell' (i:=0) rfl;have q41:=(hA2.out.others hI4.2.2.1 hnbb (by decide)).cell' (i:=1) rfl))
  clear hP4 hb4 ho4 hI4 q40 q41 pq0 nq1
  go_wp2_with (fail)
  go_ret
  exact⟨rfl,hIz.out⟩
set_option maxRecDepth 100000 in
set_option maxHeartbeats 32000000 in
theorem node_3 {w0 : World} {Bp b g o c k f op : Nat} {nodes : List GNode} {root : Int} {lit : Bool} {dec : List Nat → List Nat} {a t : List Nat} (hOK : PrtOK nodes) (hk : k < nodes.length) (hkd : (ndAt nodes k).kind = 3) (hdec : DecOK w0 Bp nodes dec) (ht : t = dec (ndAt nodes k).text) (hlen : a.length + t.length ≤ 4294967296) (w : World) (hbe : Below Bp w0 w) (hG : GRd w Bp g o nodes) (hP : PrF Bp b (.slice (some ⟨g, o, none⟩) nodes.length c) (.int .i64 root) (.bool lit) (B8 a) w) :
    Calls Tryz.prog 44 #[.pointer (some ⟨b,0,none⟩),.int .i64 (k:Int),.int .i64 (op:Int)] w (ContR Bp b (.slice (some ⟨g,o,none⟩) nodes.length c) (.int .i64 root) lit w (a ++ t)):=by
  have hbl:=hP.lt
  have hBw:Bp≤w.heap.size:=hG.2.1
  have HP:=Lib.hid hP
  have HG:=Lib.hid hG
  have HBE:=Lib.hid hbe
  obtain⟨hty,htl⟩:=hOK.txt k hk
  have HTY:=Lib.hid hty
  have HTL:=Lib.hid htl
  have HNl:=hOK.len
  have HOK:=Lib.hid hOK
  have HKD:=Lib.hid hkd
  have HT:=Lib.hid ht
  have HDEC:=Lib.hid (hdec k hk hkd)
  clear hdec
  obtain⟨K,ck,I,ci,d0',d1',d2',d3',d4',⟨hK,hKb⟩,hI1,hI2⟩:=hG.of_at hk
  have HK:=Lib.hid hK
  have HKb:=Lib.hid hKb
  have HI:=Lib.hid hI1
  have HIb:=Lib.hid hI2
  have hgB:=hG.1
  have hA1:Hid (Arr (w.alloc (.cells #[.pointer (some ⟨b,0,none⟩)] 62)) w.heap.size 62 [.pointer (some ⟨b,0,none⟩)]):=Arr.new w _ _
  have hB1:Hid (Below w.heap.size w (w.alloc (.cells #[.pointer (some ⟨b,0,none⟩)] 62))):=(Below.refl _ _).alloc (Nat.le_refl _) _
  have bl2:=(hP.kept hB1.out).cells.1
  have d0:=(hB1.out.cell (p:=⟨g,o+k*5,none⟩) (show g<w.heap.size by omega)).trans d0'
  have d1:=(hB1.out.cell (p:=⟨g,o+k*5+1,none⟩) (show g<w.heap.size by omega)).trans d1'
  have d2:=(hB1.out.cell (p:=⟨g,o+k*5+2,none⟩) (show g<w.heap.size by omega)).trans d2'
  have d3:=(hB1.out.cell (p:=⟨g,o+k*5+3,none⟩) (show g<w.heap.size by omega)).trans d3'
  have d4:=(hB1.out.cell (p:=⟨g,o+k*5+4,none⟩) (show g<w.heap.size by omega)).trans d4'
  have k0:(0:Int)≤k:=by omega
  have k1:(k:Int)<nodes.length:=by omega
  rw [hkd] at d0
  clear hP hG hbe hOK hkd d0' d1' d2' d3' d4' hK hKb hI1 hI2 hty htl ht
  generalize hnd:ndAt nodes k=nd at *
  have HND:=Lib.hid hnd
  clear hnd
  go_enter Tryz.func44,Tryz.ntmps44
  go_upto_region 1 with(fail)
  obtain⟨pb,hpb⟩:∃x,w.heap.size=x:=⟨_,rfl⟩
  have HPB:=Lib.hid hpb
  rw [hpb] at hA1 hbl hBw ⊢
  rw [hpb] at hB1
  clear hpb
  generalize (w.alloc (.cells #[.pointer (some ⟨b,0,none⟩)] 62))=W1 at *
  have hp1:=hA1.out.cell' (i:=0) rfl
  have hA2:Hid (Arr (W1.alloc (.cells #[.int .i64 3,.string (mks nd.text),.bool nd.ord,.slice K nd.keys.length ck,.slice I nd.items.length ci] 43)) W1.heap.size 43 [.int .i64 3,.string (mks nd.text),.bool nd.ord,.slice K nd.keys.length ck,.slice I nd.items.length ci]):=Arr.new W1 _ _
  have hB2:Hid (Below W1.heap.size W1 (W1.alloc (.cells #[.int .i64 3,.string (mks nd.text),.bool nd.ord,.slice K nd.keys.length ck,.slice I nd.items.length ci] 43))):=(Below.refl _ _).alloc (Nat.le_refl _) _
  go_upto_region 3 with(fail)
  clear hp1 d0 d1 d2 d3 d4 bl2
  generalize hw2:(W1.alloc (.cells #[.int .i64 3,.string (mks nd.text),.bool nd.ord,.slice K nd.keys.length ck,.slice I nd.items.length ci] 43))=W at *
  clear hw2
  obtain⟨nb,hnb⟩:∃x,W1.heap.size=x:=⟨_,rfl⟩
  have hnb2:pb<nb:=by have:=hA1.out.lt;omega
  rw [hnb] at hA2 hB2 ⊢
  have hBW:Hid (Below w.heap.size w W):=by rw [HPB.out];exact hB1.out.trans (hB2.out.mono (by omega))
  have hPb:Hid (Arr W pb 62 [.pointer (some ⟨b,0,none⟩)]):=hA1.out.below hB2.out hnb2
  clear hnb hA1 hB1 hB2
  have hbp:Bp≤W.heap.size:=by have:=hBW.out.size;have:=HPB.out;omega
  have hF:=Lib.hid (HP.out.kept hBW.out)
  have hBE:=Lib.hid (HBE.out.trans (hBW.out.mono (by rw [HPB.out];exact hBw)))
  have hoW:Hid (Others b w W):=fun q _ hq _ _=>(hBW.out.block q (Array.getElem?_eq_some_iff.1 hq).1).trans hq
  have hBpW:Hid (Below Bp w W):=hBW.out.mono (by rw [HPB.out];exact hBw)
  have hpbb:pb≠b:=by omega
  have hnbb:nb≠b:=by omega
  have pb0:=hPb.out.cell' (i:=0) rfl
  have nb0:=hA2.out.cell' (i:=0) rfl
  have nb1:=hA2.out.cell' (i:=1) rfl
  obtain⟨hD1,hD2,hD3⟩:=HDEC.out
  have pq0:W.drew.cell? ⟨pb,0,none⟩=_:=pb0
  have nq1:W.drew.cell? ⟨nb,1,none⟩=_:=nb1
  generalize dec nd.text=D at *
  have hls:Hid ((B8 a).length+(mks D).size≤140737488355328):=by show _≤_;rw [len_B8,size_mks];omega
  have hFd:PrF Bp b (.slice (some ⟨g,o,none⟩) nodes.length c) (.int .i64 root) (.bool lit) (B8 a) W.drew:=hF.out.elim (fun h=>.inl (PrAt.drew h)) (fun h=>.inr (PrAt.drew h))
  have hbpd:Bp≤W.drew.heap.size:=hbp
  have HFD:=Lib.hid hFd
  have DD:=Lib.hid (hD3 W.drew hBE.out.drew)
  have hsc:Hid (Lib.strCells (mks D)=B8 D):=str_B8 hD1
  go_upto_region 8 with(fail)
  clear nb0 pb0 nb1 hFd hD1 hD2 hD3
  go_region_held3 (fun w'=>w'.cell? ⟨pb,0,none⟩=some (.pointer (some ⟨b,0,none⟩))∧w'.cell? ⟨nb,1,none⟩=some (.string (mks nd.text))) (first | exact⟨by assumption,by assumption⟩ | go_keep)
    (first
     | (go_at_call 73;((with_reducible refine DD.out.mono ?_));rintro e w3 ⟨rfl,hb3⟩;have hb3W:Hid (Below W.heap.size W w3):=(Below.refl W.heap.size W).drew.trans hb3;have hF3:=Lib.hid (hF.out.kept hb3W.out);have hbp3:=Nat.le_trans hbp hb3W.out.size;have q30:=(hPb.out.keep hb3W.out).cell' (i:=0) rfl;have q31:=(hA2.out.keep hb3W.out).cell' (i:=1) rfl)
     | (go_at_call 16;((with_reducible refine(pr_string Bp b _ _ _ _ _ _ hF3.out hls.out hbp3).mono ?_));rintro e w4 ⟨rfl,hP4,hb4,ho4⟩;have hI4:PrI Bp b (.slice (some ⟨g,o,none⟩) nodes.length c) (.int .i64 root) (.bool lit) W w4 (a ++ t):=⟨by rw [HT.out,B8_append,←hsc.out];exact hP4,(hb3W.out.mono hbp).trans hb4,Lib.OthersKept.trans (fun q _ hq _ _=>(hb3W.out.block q (Array.getElem?_eq_some_iff.1 hq).1).trans hq) ho4,Nat.le_trans hbp3 hb4.size⟩;have hIz:Hid (PrI Bp b (.slice (some ⟨g,o,none⟩) nodes.length c) (.int .i64 root) (.bool lit) w w4 (a ++ t)):=⟨hI4.1,hBpW.out.trans hI4.2.1,Lib.OthersKept.trans hoW.out hI4.2.2.1,hI4.2.2.2⟩;have q40:=(hPb.out.others hI4.2.2.1 hpbb (by decide)).cell' (i:=0) rfl;have q41:=(hA2.out.others hI4.2.2.1 hnbb (by decide)).cell' (i:=1) rfl))
  all_goals
    clear hP4 hb4 ho4 hI4 q40 q41 pq0 nq1 q30 q31
    go_wp2_with (fail)
    go_ret
    exact⟨rfl,hIz.out⟩
set_option maxRecDepth 100000 in
set_option maxHeartbeats 32000000 in
theorem node_5 {w0 : World} {Bp b g o c k f op : Nat} {nodes : List GNode} {root : Int} {lit : Bool} {dec : List Nat → List Nat} {a t : List Nat} (hOK : PrtOK nodes) (hk : k < nodes.length) (hkd : (ndAt nodes k).kind = 5) (ht : t = quoteV (ndAt nodes k).text) (hlen : a.length + t.length ≤ 4294967296) (w : World) (hbe : Below Bp w0 w) (hG : GRd w Bp g o nodes) (hP : PrF Bp b (.slice (some ⟨g, o, none⟩) nodes.length c) (.int .i64 root) (.bool lit) (B8 a) w) :
    Calls Tryz.prog 44 #[.pointer (some ⟨b,0,none⟩),.int .i64 (k:Int),.int .i64 (op:Int)] w (ContR Bp b (.slice (some ⟨g,o,none⟩) nodes.length c) (.int .i64 root) lit w (a ++ t)):=by
  have hbl:=hP.lt
  have hBw:Bp≤w.heap.size:=hG.2.1
  have HP:=Lib.hid hP
  have HG:=Lib.hid hG
  have HBE:=Lib.hid hbe
  obtain⟨hty,htl⟩:=hOK.txt k hk
  have HTY:=Lib.hid hty
  have HTL:=Lib.hid htl
  have HNl:=hOK.len
  have HOK:=Lib.hid hOK
  have HKD:=Lib.hid hkd
  have HT:=Lib.hid ht
  obtain⟨K,ck,I,ci,d0',d1',d2',d3',d4',⟨hK,hKb⟩,hI1,hI2⟩:=hG.of_at hk
  have HK:=Lib.hid hK
  have HKb:=Lib.hid hKb
  have HI:=Lib.hid hI1
  have HIb:=Lib.hid hI2
  have hgB:=hG.1
  have hA1:Hid (Arr (w.alloc (.cells #[.pointer (some ⟨b,0,none⟩)] 62)) w.heap.size 62 [.pointer (some ⟨b,0,none⟩)]):=Arr.new w _ _
  have hB1:Hid (Below w.heap.size w (w.alloc (.cells #[.pointer (some ⟨b,0,none⟩)] 62))):=(Below.refl _ _).alloc (Nat.le_refl _) _
  have bl2:=(hP.kept hB1.out).cells.1
  have d0:=(hB1.out.cell (p:=⟨g,o+k*5,none⟩) (show g<w.heap.size by omega)).trans d0'
  have d1:=(hB1.out.cell (p:=⟨g,o+k*5+1,none⟩) (show g<w.heap.size by omega)).trans d1'
  have d2:=(hB1.out.cell (p:=⟨g,o+k*5+2,none⟩) (show g<w.heap.size by omega)).trans d2'
  have d3:=(hB1.out.cell (p:=⟨g,o+k*5+3,none⟩) (show g<w.heap.size by omega)).trans d3'
  have d4:=(hB1.out.cell (p:=⟨g,o+k*5+4,none⟩) (show g<w.heap.size by omega)).trans d4'
  have k0:(0:Int)≤k:=by omega
  have k1:(k:Int)<nodes.length:=by omega
  rw [hkd] at d0
  clear hP hG hbe hOK hkd d0' d1' d2' d3' d4' hK hKb hI1 hI2 hty htl ht
  generalize hnd:ndAt nodes k=nd at *
  have HND:=Lib.hid hnd
  clear hnd
  go_enter Tryz.func44,Tryz.ntmps44
  go_upto_region 1 with(fail)
  obtain⟨pb,hpb⟩:∃x,w.heap.size=x:=⟨_,rfl⟩
  have HPB:=Lib.hid hpb
  rw [hpb] at hA1 hbl hBw ⊢
  rw [hpb] at hB1
  clear hpb
  generalize (w.alloc (.cells #[.pointer (some ⟨b,0,none⟩)] 62))=W1 at *
  have hp1:=hA1.out.cell' (i:=0) rfl
  have hA2:Hid (Arr (W1.alloc (.cells #[.int .i64 5,.string (mks nd.text),.bool nd.ord,.slice K nd.keys.length ck,.slice I nd.items.length ci] 43)) W1.heap.size 43 [.int .i64 5,.string (mks nd.text),.bool nd.ord,.slice K nd.keys.length ck,.slice I nd.items.length ci]):=Arr.new W1 _ _
  have hB2:Hid (Below W1.heap.size W1 (W1.alloc (.cells #[.int .i64 5,.string (mks nd.text),.bool nd.ord,.slice K nd.keys.length ck,.slice I nd.items.length ci] 43))):=(Below.refl _ _).alloc (Nat.le_refl _) _
  go_upto_region 3 with(fail)
  clear hp1 d0 d1 d2 d3 d4 bl2
  generalize hw2:(W1.alloc (.cells #[.int .i64 5,.string (mks nd.text),.bool nd.ord,.slice K nd.keys.length ck,.slice I nd.items.length ci] 43))=W at *
  clear hw2
  obtain⟨nb,hnb⟩:∃x,W1.heap.size=x:=⟨_,rfl⟩
  have hnb2:pb<nb:=by have:=hA1.out.lt;omega
  rw [hnb] at hA2 hB2 ⊢
  have hBW:Hid (Below w.heap.size w W):=by rw [HPB.out];exact hB1.out.trans (hB2.out.mono (by omega))
  have hPb:Hid (Arr W pb 62 [.pointer (some ⟨b,0,none⟩)]):=hA1.out.below hB2.out hnb2
  clear hnb hA1 hB1 hB2
  have hbp:Bp≤W.heap.size:=by have:=hBW.out.size;have:=HPB.out;omega
  have hF:=Lib.hid (HP.out.kept hBW.out)
  have hBE:=Lib.hid (HBE.out.trans (hBW.out.mono (by rw [HPB.out];exact hBw)))
  have hoW:Hid (Others b w W):=fun q _ hq _ _=>(hBW.out.block q (Array.getElem?_eq_some_iff.1 hq).1).trans hq
  have hBpW:Hid (Below Bp w W):=hBW.out.mono (by rw [HPB.out];exact hBw)
  have hpbb:pb≠b:=by omega
  have hnbb:nb≠b:=by omega
  have pb0:=hPb.out.cell' (i:=0) rfl
  have nb0:=hA2.out.cell' (i:=0) rfl
  have nb1:=hA2.out.cell' (i:=1) rfl
  have DQ:=Lib.hid (quote_pr Bp b _ _ _ a nd.text HTY.out HTL.out (by omega) W hF.out hbp)
  go_upto_region 17 with(go_at_call 20;((with_reducible refine DQ.out.mono ?_));rintro e w4 ⟨rfl,hI4'⟩)
  have hI4:PrI Bp b (.slice (some ⟨g,o,none⟩) nodes.length c) (.int .i64 root) (.bool lit) W w4 (a ++ t):=by rw [HT.out];exact hI4'
  have hIz:Hid (PrI Bp b (.slice (some ⟨g,o,none⟩) nodes.length c) (.int .i64 root) (.bool lit) w w4 (a ++ t)):=⟨hI4.1,hBpW.out.trans hI4.2.1,Lib.OthersKept.trans hoW.out hI4.2.2.1,hI4.2.2.2⟩
  clear hI4 hI4' pb0 nb0 nb1 DQ
  go_wp2_with (fail)
  go_ret
  exact⟨rfl,hIz.out⟩
set_option maxRecDepth 100000 in
set_option maxHeartbeats 32000000 in
theorem node_9 {w0 : World} {Bp b g o c k f op : Nat} {nodes : List GNode} {root : Int} {lit : Bool} {dec : List Nat → List Nat} {a t : List Nat} (hOK : PrtOK nodes) (hk : k < nodes.length) (hkd : (ndAt nodes k).kind = 9) (hop : op + (f + 1) ≤ 3) (hIH : NodeP w0 Bp b g o c nodes root lit dec f) (hcont : contP (fun i => printP nodes dec (ordP nodes) lit f i (op + 1)) nodes (ndAt nodes k) lit op (ordP nodes k) 91 93 = .ok t) (hlen : a.length + t.length ≤ 4294967296) (w : World) (hbe : Below Bp w0 w) (hG : GRd w Bp g o nodes) (hP : PrF Bp b (.slice (some ⟨g, o, none⟩) nodes.length c) (.int .i64 root) (.bool lit) (B8 a) w) :
    Calls Tryz.prog 44 #[.pointer (some ⟨b,0,none⟩),.int .i64 (k:Int),.int .i64 (op:Int)] w (ContR Bp b (.slice (some ⟨g,o,none⟩) nodes.length c) (.int .i64 root) lit w (a ++ t)):=by
  have hbl:=hP.lt
  have hBw:Bp≤w.heap.size:=hG.2.1
  have HP:=Lib.hid hP
  have HG:=Lib.hid hG
  have HBE:=Lib.hid hbe
  obtain⟨hty,htl⟩:=hOK.txt k hk
  have HTY:=Lib.hid hty
  have HTL:=Lib.hid htl
  have HNl:=hOK.len
  have HOK:=Lib.hid hOK
  have HKD:=Lib.hid hkd
  have HC:=Lib.hid hcont
  have hIH:=Lib.hid hIH
  obtain⟨K,ck,I,ci,d0',d1',d2',d3',d4',⟨hK,hKb⟩,hI1,hI2⟩:=hG.of_at hk
  have HK:=Lib.hid hK
  have HKb:=Lib.hid hKb
  have HI:=Lib.hid hI1
  have HIb:=Lib.hid hI2
  have hgB:=hG.1
  have hA1:Hid (Arr (w.alloc (.cells #[.pointer (some ⟨b,0,none⟩)] 62)) w.heap.size 62 [.pointer (some ⟨b,0,none⟩)]):=Arr.new w _ _
  have hB1:Hid (Below w.heap.size w (w.alloc (.cells #[.pointer (some ⟨b,0,none⟩)] 62))):=(Below.refl _ _).alloc (Nat.le_refl _) _
  have bl2:=(hP.kept hB1.out).cells.1
  have d0:=(hB1.out.cell (p:=⟨g,o+k*5,none⟩) (show g<w.heap.size by omega)).trans d0'
  have d1:=(hB1.out.cell (p:=⟨g,o+k*5+1,none⟩) (show g<w.heap.size by omega)).trans d1'
  have d2:=(hB1.out.cell (p:=⟨g,o+k*5+2,none⟩) (show g<w.heap.size by omega)).trans d2'
  have d3:=(hB1.out.cell (p:=⟨g,o+k*5+3,none⟩) (show g<w.heap.size by omega)).trans d3'
  have d4:=(hB1.out.cell (p:=⟨g,o+k*5+4,none⟩) (show g<w.heap.size by omega)).trans d4'
  have k0:(0:Int)≤k:=by omega
  have k1:(k:Int)<nodes.length:=by omega
  rw [hkd] at d0
  clear hP hG hbe hOK hkd d0' d1' d2' d3' d4' hK hKb hI1 hI2 hty htl hcont
  generalize hnd:ndAt nodes k=nd at *
  have HND:=Lib.hid hnd
  clear hnd
  go_enter Tryz.func44,Tryz.ntmps44
  go_upto_region 1 with(fail)
  obtain⟨pb,hpb⟩:∃x,w.heap.size=x:=⟨_,rfl⟩
  have HPB:=Lib.hid hpb
  rw [hpb] at hA1 hbl hBw ⊢
  rw [hpb] at hB1
  clear hpb
  generalize (w.alloc (.cells #[.pointer (some ⟨b,0,none⟩)] 62))=W1 at *
  have hp1:=hA1.out.cell' (i:=0) rfl
  have hA2:Hid (Arr (W1.alloc (.cells #[.int .i64 9,.string (mks nd.text),.bool nd.ord,.slice K nd.keys.length ck,.slice I nd.items.length ci] 43)) W1.heap.size 43 [.int .i64 9,.string (mks nd.text),.bool nd.ord,.slice K nd.keys.length ck,.slice I nd.items.length ci]):=Arr.new W1 _ _
  have hB2:Hid (Below W1.heap.size W1 (W1.alloc (.cells #[.int .i64 9,.string (mks nd.text),.bool nd.ord,.slice K nd.keys.length ck,.slice I nd.items.length ci] 43))):=(Below.refl _ _).alloc (Nat.le_refl _) _
  go_upto_region 3 with(fail)
  clear hp1 d0 d1 d2 d3 d4 bl2
  generalize hw2:(W1.alloc (.cells #[.int .i64 9,.string (mks nd.text),.bool nd.ord,.slice K nd.keys.length ck,.slice I nd.items.length ci] 43))=W at *
  clear hw2
  obtain⟨nb,hnb⟩:∃x,W1.heap.size=x:=⟨_,rfl⟩
  have hnb2:pb<nb:=by have:=hA1.out.lt;omega
  rw [hnb] at hA2 hB2 ⊢
  have hBW:Hid (Below w.heap.size w W):=by rw [HPB.out];exact hB1.out.trans (hB2.out.mono (by omega))
  have hPb:Hid (Arr W pb 62 [.pointer (some ⟨b,0,none⟩)]):=hA1.out.below hB2.out hnb2
  clear hnb hA1 hB1 hB2
  have hbp:Bp≤W.heap.size:=by have:=hBW.out.size;have:=HPB.out;omega
  have hF:=Lib.hid (HP.out.kept hBW.out)
  have hBE:=Lib.hid (HBE.out.trans (hBW.out.mono (by rw [HPB.out];exact hBw)))
  have hoW:Hid (Others b w W):=fun q _ hq _ _=>(hBW.out.block q (Array.getElem?_eq_some_iff.1 hq).1).trans hq
  have hBpW:Hid (Below Bp w W):=hBW.out.mono (by rw [HPB.out];exact hBw)
  have hpbb:pb≠b:=by omega
  have hnbb:nb≠b:=by omega
  have pb0:=hPb.out.cell' (i:=0) rfl
  have nb0:=hA2.out.cell' (i:=0) rfl
  have nb1:=hA2.out.cell' (i:=1) rfl
  have nb2':=hA2.out.cell' (i:=2) rfl
  have nb3:=hA2.out.cell' (i:=3) rfl
  have nb4:=hA2.out.cell' (i:=4) rfl
  have hGW:=HG.out.below hBW.out (by rw [HPB.out];exact hBw)
  have hKW:=HK.out.below hBW.out (fun ad e=>by rw [HPB.out];exact Nat.lt_of_lt_of_le (HKb.out ad e) hBw)
  have hIW:=HI.out.below hBW.out (fun ad e=>by rw [HPB.out];exact Nat.lt_of_lt_of_le (HIb.out ad e) hBw)
  have DC:=content_l (w0:=w0) (Bp:=Bp) (b:=b) (g:=g) (o:=o) (c:=c) (k:=k) (f:=f) (op:=op) (nodes:=nodes) (root:=root) (lit:=lit) (dec:=dec) (a:=a) (t:=t) (K:=K) (I:=I) (ck:=ck) (ci:=ci) HOK.out hIH.out hk (by rw [HND.out];exact HKD.out) hop (by rw [HND.out];exact HC.out) hlen W hBE.out hGW (by rw [HND.out];exact hKW) HKb.out (by rw [HND.out];exact hIW) HIb.out hF.out
  rw [HND.out] at DC
  unfold ContR at DC
  have HDC:=Lib.hid DC
  clear DC hGW hKW hIW
  go_upto_region 17 with(first | (go_at_call 74;((with_reducible refine HDC.out.mono ?_));rintro e w4 ⟨rfl,hI4⟩))
  have hIz:Hid (PrI Bp b (.slice (some ⟨g,o,none⟩) nodes.length c) (.int .i64 root) (.bool lit) w w4 (a ++ t)):=⟨hI4.1,hBpW.out.trans hI4.2.1,Lib.OthersKept.trans hoW.out hI4.2.2.1,hI4.2.2.2⟩
  clear hI4 pb0 nb0 nb1 nb2' nb3 nb4 HDC
  go_wp2_with (fail)
  go_ret
  exact⟨rfl,hIz.out⟩
set_option maxRecDepth 100000 in
set_option maxHeartbeats 32000000 in
theorem node_10 {w0 : World} {Bp b g o c k f op : Nat} {nodes : List GNode} {root : Int} {lit : Bool} {dec : List Nat → List Nat} {a t : List Nat} (hOK : PrtOK nodes) (hk : k < nodes.length) (hkd : (ndAt nodes k).kind = 10) (hop : op + (f + 1) ≤ 3) (hod : (ndAt nodes k).ord = false) (h5 : ∀ z ∈ (ndAt nodes k).keys, (ndAt nodes z.toNat).kind = 5) (hIH : NodeP w0 Bp b g o c nodes root lit dec f) (hcont : contP (fun i => printP nodes dec (ordP nodes) lit f i (op + 1)) nodes (ndAt nodes k) lit op (ordP nodes k) 123 125 = .ok t) (hlen : a.length + t.length ≤ 4294967296) (w : World) (hbe : Below Bp w0 w) (hG : GRd w Bp g o nodes) (hP : PrF Bp b (.slice (some ⟨g, o, none⟩) nodes.length c) (.int .i64 root) (.bool lit) (B8 a) w) :
    Calls Tryz.prog 44 #[.pointer (some ⟨b,0,none⟩),.int .i64 (k:Int),.int .i64 (op:Int)] w (ContR Bp b (.slice (some ⟨g,o,none⟩) nodes.length c) (.int .i64 root) lit w (a ++ t)):=by
  have hbl:=hP.lt
  have hBw:Bp≤w.heap.size:=hG.2.1
  have HP:=Lib.hid hP
  have HG:=Lib.hid hG
  have HBE:=Lib.hid hbe
  obtain⟨hty,htl⟩:=hOK.txt k hk
  have HTY:=Lib.hid hty
  have HTL:=Lib.hid htl
  have HNl:=hOK.len
  have HOK:=Lib.hid hOK
  have HKD:=Lib.hid hkd
  have HC:=Lib.hid hcont
  have hIH:=Lib.hid hIH
  have H5:=Lib.hid h5
  have HOD:=Lib.hid hod
  obtain⟨K,ck,I,ci,d0',d1',d2',d3',d4',⟨hK,hKb⟩,hI1,hI2⟩:=hG.of_at hk
  have HK:=Lib.hid hK
  have HKb:=Lib.hid hKb
  have HI:=Lib.hid hI1
  have HIb:=Lib.hid hI2
  have hgB:=hG.1
  have hA1:Hid (Arr (w.alloc (.cells #[.pointer (some ⟨b,0,none⟩)] 62)) w.heap.size 62 [.pointer (some ⟨b,0,none⟩)]):=Arr.new w _ _
  have hB1:Hid (Below w.heap.size w (w.alloc (.cells #[.pointer (some ⟨b,0,none⟩)] 62))):=(Below.refl _ _).alloc (Nat.le_refl _) _
  have bl2:=(hP.kept hB1.out).cells.1
  have d0:=(hB1.out.cell (p:=⟨g,o+k*5,none⟩) (show g<w.heap.size by omega)).trans d0'
  have d1:=(hB1.out.cell (p:=⟨g,o+k*5+1,none⟩) (show g<w.heap.size by omega)).trans d1'
  have d2:=(hB1.out.cell (p:=⟨g,o+k*5+2,none⟩) (show g<w.heap.size by omega)).trans d2'
  have d3:=(hB1.out.cell (p:=⟨g,o+k*5+3,none⟩) (show g<w.heap.size by omega)).trans d3'
  have d4:=(hB1.out.cell (p:=⟨g,o+k*5+4,none⟩) (show g<w.heap.size by omega)).trans d4'
  have k0:(0:Int)≤k:=by omega
  have k1:(k:Int)<nodes.length:=by omega
  rw [hkd] at d0
  clear hP hG hbe hOK hkd d0' d1' d2' d3' d4' hK hKb hI1 hI2 hty htl hcont h5 hod
  generalize hnd:ndAt nodes k=nd at *
  have HND:=Lib.hid hnd
  clear hnd
  go_enter Tryz.func44,Tryz.ntmps44
  go_upto_region 1 with(fail)
  obtain⟨pb,hpb⟩:∃x,w.heap.size=x:=⟨_,rfl⟩
  have HPB:=Lib.hid hpb
  rw [hpb] at hA1 hbl hBw ⊢
  rw [hpb] at hB1
  clear hpb
  generalize (w.alloc (.cells #[.pointer (some ⟨b,0,none⟩)] 62))=W1 at *
  have hp1:=hA1.out.cell' (i:=0) rfl
  have hA2:Hid (Arr (W1.alloc (.cells #[.int .i64 10,.string (mks nd.text),.bool nd.ord,.slice K nd.keys.length ck,.slice I nd.items.length ci] 43)) W1.heap.size 43 [.int .i64 10,.string (mks nd.text),.bool nd.ord,.slice K nd.keys.length ck,.slice I nd.items.length ci]):=Arr.new W1 _ _
  have hB2:Hid (Below W1.heap.size W1 (W1.alloc (.cells #[.int .i64 10,.string (mks nd.text),.bool nd.ord,.slice K nd.keys.length ck,.slice I nd.items.length ci] 43))):=(Below.refl _ _).alloc (Nat.le_refl _) _
  go_upto_region 3 with(fail)
  clear hp1 d0 d1 d2 d3 d4 bl2
  generalize hw2:(W1.alloc (.cells #[.int .i64 10,.string (mks nd.text),.bool nd.ord,.slice K nd.keys.length ck,.slice I nd.items.length ci] 43))=W at *
  clear hw2
  obtain⟨nb,hnb⟩:∃x,W1.heap.size=x:=⟨_,rfl⟩
  have hnb2:pb<nb:=by have:=hA1.out.lt;omega
  rw [hnb] at hA2 hB2 ⊢
  have hBW:Hid (Below w.heap.size w W):=by rw [HPB.out];exact hB1.out.trans (hB2.out.mono (by omega))
  have hPb:Hid (Arr W pb 62 [.pointer (some ⟨b,0,none⟩)]):=hA1.out.below hB2.out hnb2
  clear hnb hA1 hB1 hB2
  have hbp:Bp≤W.heap.size:=by have:=hBW.out.size;have:=HPB.out;omega
  have hF:=Lib.hid (HP.out.kept hBW.out)
  have hBE:=Lib.hid (HBE.out.trans (hBW.out.mono (by rw [HPB.out];exact hBw)))
  have hoW:Hid (Others b w W):=fun q _ hq _ _=>(hBW.out.block q (Array.getElem?_eq_some_iff.1 hq).1).trans hq
  have hBpW:Hid (Below Bp w W):=hBW.out.mono (by rw [HPB.out];exact hBw)
  have hpbb:pb≠b:=by omega
  have hnbb:nb≠b:=by omega
  have pb0:=hPb.out.cell' (i:=0) rfl
  have nb0:=hA2.out.cell' (i:=0) rfl
  have nb1:=hA2.out.cell' (i:=1) rfl
  have nb2':=hA2.out.cell' (i:=2) rfl
  have nb3:=hA2.out.cell' (i:=3) rfl
  have nb4:=hA2.out.cell' (i:=4) rfl
  have hGW:=HG.out.below hBW.out (by rw [HPB.out];exact hBw)
  have hKW:=HK.out.below hBW.out (fun ad e=>by rw [HPB.out];exact Nat.lt_of_lt_of_le (HKb.out ad e) hBw)
  have hIW:=HI.out.below hBW.out (fun ad e=>by rw [HPB.out];exact Nat.lt_of_lt_of_le (HIb.out ad e) hBw)
  have hod2:nd.ord=false:=HOD.out
  have HG10:=Lib.hid (contains_no (n:=nodes.length) (ck:=ck) (nodes:=nodes) (ks:=nd.keys) (c:=c) rfl (by have h:=(HOK.out.nl k hk).1;rw [HND.out] at h;exact h) (fun q hq=>by have h:=HOK.out.idx k hk q (by rw [HND.out];unfold refs;exact List.mem_append.2 (.inl hq));exact⟨h.1,h.2,H5.out q hq⟩) W hGW hKW pb0 (hF.out.cells.1))
  have DC:=content_m (w0:=w0) (Bp:=Bp) (b:=b) (g:=g) (o:=o) (c:=c) (k:=k) (f:=f) (op:=op) (nodes:=nodes) (root:=root) (lit:=lit) (dec:=dec) (a:=a) (t:=t) (K:=K) (I:=I) (ck:=ck) (ci:=ci) HOK.out hIH.out hk (by rw [HND.out];exact HKD.out) hop (by rw [HND.out];exact HC.out) hlen W hBE.out hGW (by rw [HND.out];exact hKW) HKb.out (by rw [HND.out];exact hIW) HIb.out hF.out
  rw [HND.out] at DC
  rw [hod2] at DC nb2'
  unfold ContR at DC
  have HDC:=Lib.hid DC
  clear DC hGW hKW hIW
  go_upto_region 17 with(first | (go_at_call 74;((with_reducible refine HDC.out.mono ?_));rintro e w4 ⟨rfl,hI4⟩) | (go_at_call 75;((with_reducible refine HG10.out.mono ?_));rintro e w3 ⟨rfl,rfl⟩))
  have hIz:Hid (PrI Bp b (.slice (some ⟨g,o,none⟩) nodes.length c) (.int .i64 root) (.bool lit) w w4 (a ++ t)):=⟨hI4.1,hBpW.out.trans hI4.2.1,Lib.OthersKept.trans hoW.out hI4.2.2.1,hI4.2.2.2⟩
  clear hI4 pb0 nb0 nb1 nb2' nb3 nb4 HDC
  go_wp2_with (fail)
  go_ret
  exact⟨rfl,hIz.out⟩
theorem node_any {w0:World} {Bp b g o c:Nat} {nodes:List GNode} {root:Int} {lit:Bool} {dec:List Nat→List Nat} (hOK:PrtOK nodes) (hdec:DecOK w0 Bp nodes dec) (f:Nat):NodeP w0 Bp b g o c nodes root lit dec f:=by
  induction f with
  | zero=>
    intro k op a t w hk hop hpr
    rw [printP] at hpr
    exact nomatch hpr
  | succ f ih=>
    intro k op a t w hk hop hpr hlen hbe hG hP
    rw [printP] at hpr
    simp only [Int.toNat_natCast] at hpr
    by_cases k0:(ndAt nodes k).kind=0
    · rw [if_pos k0] at hpr
      injection hpr with h
      exact node_0 (f:=f) (dec:=dec) hOK hk k0 h.symm hlen w hbe hG hP
    rw [if_neg k0] at hpr
    by_cases k1:(ndAt nodes k).kind=1
    · rw [if_pos (.inl k1)] at hpr
      injection hpr with h
      exact node_1 (f:=f) (dec:=dec) hOK hk k1 h.symm hlen w hbe hG hP
    by_cases k2:(ndAt nodes k).kind=2
    · rw [if_pos (.inr k2)] at hpr
      injection hpr with h
      exact node_2 (f:=f) (dec:=dec) hOK hk k2 h.symm hlen w hbe hG hP
    rw [if_neg (fun h=>h.elim k1 k2)] at hpr
    by_cases k3:(ndAt nodes k).kind=3
    · rw [if_pos k3] at hpr
      injection hpr with h
      exact node_3 (f:=f) (dec:=dec) hOK hk k3 hdec h.symm hlen w hbe hG hP
    rw [if_neg k3] at hpr
    by_cases k5:(ndAt nodes k).kind=5
    · rw [if_pos k5] at hpr
      injection hpr with h
      exact node_5 (f:=f) (dec:=dec) hOK hk k5 h.symm hlen w hbe hG hP
    rw [if_neg k5] at hpr
    by_cases k9:(ndAt nodes k).kind=9
    · rw [if_pos k9] at hpr
      exact node_9 hOK hk k9 hop ih hpr hlen w hbe hG hP
    rw [if_neg k9] at hpr
    by_cases k10:(ndAt nodes k).kind=10∧(ndAt nodes k).ord=false
    · rw [if_pos k10] at hpr
      by_cases h5:(ndAt nodes k).keys.any (fun k=>decide ((ndAt nodes k.toNat).kind≠5))=true
      · rw [if_pos h5] at hpr
        exact nomatch hpr
      · rw [if_neg h5] at hpr
        refine node_10 hOK hk k10.1 hop k10.2 (fun z hz=>?_) ih hpr hlen w hbe hG hP
        by_cases hz5:(ndAt nodes z.toNat).kind=5
        · exact hz5
        · exact absurd (List.any_eq_true.2 ⟨z,hz,by simpa using hz5⟩) h5
    · rw [if_neg k10] at hpr
      exact nomatch hpr
end Go.Proofs.YtgbkbgiogdhnaaaGreatDoor
