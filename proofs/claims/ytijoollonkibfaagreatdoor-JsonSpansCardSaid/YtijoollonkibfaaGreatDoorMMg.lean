/- The shell of value's walk at an entry of a map. -/
import Derived.Test.YtijoollonkibfaaGreatDoorMMs
import Derived.Deep.CutRange
set_option linter.unusedVariables false
set_option linter.unusedSimpArgs false
set_option linter.defProp false
set_option linter.constructorNameAsVariable false
namespace Go.Proofs.YtijoollonkibfaaGreatDoor
open Go.RowKit
set_option maxRecDepth 100000 in
set_option maxHeartbeats 16000000 in
def goshell_m (w:World) (B pb:Nat) (F:Nat→Prop) (k:PK) (st:PSt) (s:JSpan) (d:Nat) (t:JTok) (r:List JTok) (L f0:Nat) (oc:Except PErr PLoop) (res:Except PErr (Int×PSt)):=
 fun(H1:Box _) (H2:Box _) {A:Option Addr} {n c:Nat} {vn vs:Value} {ncs:List Value} (h:PMx w B pb F k A n c vn vs ncs st) (hok:∀t∈st.left,TokOK t) (hL:LibAt B w) (hd:d≤1000) (hl:st.left=t :: r)
  (hk:t.kind=1) (hx:t.text = [123]) (hr:roomV st d=0) (hinv:PInv st) (hll:st.left.length≤L) (hLb:L≤65536) (hfu:2*st.left.length<f0+1) (ih:∀f',f'≤f0→ValOK B pb k L f')
  (HO:Hid (itemsV k.en f0 true st.spans.length d ⟨⟨r,st.nodes ++ [⟨10,[],false,[],[]⟩],st.spans ++ [{ s with node:=st.nodes.length,from_:=t.from_,whole:=true }]⟩,[],[],[]⟩=oc))
  (HR:Hid (contRes st.nodes.length 10 st.spans.length oc=res))=>(show Arg3 (shell_m w B pb F k st s d t r L f0 oc res) from by
  intro K hK nb hne1 mb hw10 cs9 hcs9 wr x FX AX nX cX vnX vsX ncX vk vi hI hnx hsx f hpu hfx hff hm0 hc y hy hev hov
  intro u16 u17 u18 u19 u20 u21 u22 u23 u24 u25 u26 u27 u28 u29 u30 u31 u32 u33 u34 u35 u36 u37 u38 u39 u40 u41 u42 u43 u44 u45 u46 u47 u48 u49 u50 u51 u52 u53 u54 u55 u56 u57 u58 u59 u60 u61 u62 u63 u64 u65 u66 u67 u68 u69 u70 u71 u72 u73 u74 u75 u76 u77 u78 u79 u80 u81 u82 u83 u84 u85 u86 u87 u88 u89 u90 u91 u92 u93 u94 u95 u96 u97 u98 u99 u100 u101 u102 u103 u104 u105 u106 u107 u108 u109 u110 u111 u112 u113 u114 u115 u116 u117 u118 u119 u120 u121 u122 u123 u124 u125 u126 u127 u128 u129 u237 u238 u239 u240 u241 u242 u243 u244 u245 u246 u247 u248 u249 u250 u251 u252 u253 u254 u255 u256 u257 u258 u259 u260 u261 u14 u15 u130 u131 u132 u133 u134 u135 u136 u137 u138 u139 u140 u141 u142 u143 u144 u145 u146 u147 u148 u149 u150 u151 u152 u153 u154 u155 u156 u157 u158 u159 u160 u161 u162 u163 u164 u165 u166 u167 u168 u169 u170 u171 u172 u173 u174 u175 u176 u177 u178 u179 u180 u181 u182 u183 u184 u185 u186 u187 u188 u189 u190 u191 u192 u193 u194 u195 u196 u197 u198 u199 u200 u201 u202 u203 u204 u205 u206 u207 u208 u209 u210 u211 u212 u213 u214 u215 u216 u217 u218 u219 u220 u221 u222 u223 u224 u225 u226 u227 u228 u229 u230 u231 u232 u233 u234 u235 u236
  have hB:=hL.size
  have hd32:d≤32:=(room0 hr).1
  have hnl:st.nodes.length<4096:=(room0 hr).2
  have hspl:st.spans.length≤4096:=by have:=hinv.1;have:=hinv.2;omega
  have DI:=is_lit hI.pm hI.tk 125 false hc
  have n4:=hI.nd.cell' (i:=4) rfl
  obtain⟨Ai,ci,hvi,hic,him⟩:=own_slice hI.oi
  rw [hvi] at n4
  clear hpu
  have hyf:y.ks=x.ks∧y.keys=x.keys∧y.items=x.items∧y.st.nodes=x.st.nodes∧y.st.spans=x.st.spans∧y.st.left.length≤x.st.left.length:=by rcases hy with⟨_,rfl⟩ | ⟨_,_,rfl⟩ <;> simp
  go_upto_if 139 with(go_at_call 26;(with_reducible refine DI.out.mono ?_);rintro e wn ⟨rfl,rfl⟩)
  go_cut [] from 130 to 236 (fun wx=>LoopX w B pb w.heap.size nb mb F k 10 cs9 L y wx)
  case first=>
   clear n4 hev hov hyf
   rcases hy with⟨h0,rfl⟩ | ⟨h0,h1,rfl⟩
   ·have h0':¬(0:Int)<y.items.length:=by omega
    go_wp2_with fail
    go_meet
    exact⟨_,_,_,_,_,_,_,_,_,hI⟩
   ·obtain⟨t1,r1,hl1,ht1⟩:=isV_cons h1
    have h0':(0:Int)<x.items.length:=by omega
    have DJ:=is_lit hI.pm hI.tk 44 true h1
    have DT:=Lib.hid (take_any hI.pm (t:=t1) (r:=r1) hl1)
    have HIw:=Lib.hid hI
    clear hI hvi
    go_wp2_with (first | (go_at_call 26;(with_reducible refine DJ.out.mono ?_);rintro e wn ⟨rfl,rfl⟩) | (go_at_call 31;(refine DT.out.mono ?_);rintro e w10 ⟨A10,n10,c10,rfl,hP10,hS10⟩))
    go_meet
    rw [drop1 hl1]
    exact⟨_,_,_,_,_,_,_,_,_,HIw.out.taken hl1 hP10 hS10⟩
  case rest=>
   clear hI n4 hvi hic him DI
   obtain⟨FY,AY,nY,cY,vnY,vsY,ncY,vkY,viY,hJ⟩:=hcut
   have HYF:=Lib.hid hyf
   clear hyf
   have n4:=hJ.nd.cell' (i:=4) rfl
   obtain⟨Ai,ci,hvi,hic,him⟩:=own_slice hJ.oi
   subst hvi
   rw [←HYF.out.2.2.1] at hev hov
   have HEV:=Lib.hid hev
   have HOV:=Lib.hid hov
   clear hev hov
   have hC0:=Lib.hid (Arr.new wc 34 [.int .i64 0,.int .i64 0,.int .i64 0,.int .i64 0,.int .i64 0,.int .i64 0,.int .i64 0,.bool false,.bool false])
   have hbc:Below wc.heap.size wc (wc.alloc (.cells #[.int .i64 0,.int .i64 0,.int .i64 0,.int .i64 0,.int .i64 0,.int .i64 0,.int .i64 0,.bool false,.bool false] 34)):=(Below.refl _ _).alloc (Nat.le_refl _) _
   change Hid (Arr (wc.alloc (.cells #[.int .i64 0,.int .i64 0,.int .i64 0,.int .i64 0,.int .i64 0,.int .i64 0,.int .i64 0,.bool false,.bool false] 34)) wc.heap.size 34 [.int .i64 0,.int .i64 0,.int .i64 0,.int .i64 0,.int .i64 0,.int .i64 0,.int .i64 0,.bool false,.bool false]) at hC0
   go_upto_if 156 with(first | ((with_reducible show wpList _ _ _ (Oper.mk none (Op.store 34 (Operand.tmp 14) (Operand.tmp 155)) _ _ _ _ :: _) _ _);go_loud (refine wpList_sr rfl rfl 34 (.tmp 14) (.tmp 155) rfl (wc.heap.size) [.int .i64 0,.int .i64 (st.spans.length:Int),.int .i64 (y.items.length:Int),.int .i64 0,.int .i64 0,.int .i64 0,.int .i64 0,.bool false,.bool false] rfl rfl 34 _ hC0.out _ Tryz.sz34 (by first | rfl | simp) (by first | rfl | simp) (by first | rfl | simp [Value.oneCell']) ?_;intro w15 hr15 hg15 hz15)))
   have hb15:Below wc.heap.size wc w15:=hbc.grown hg15 (by simp) (fun k e=>by have:=Option.some.inj e;omega)
   have hJ1:=hJ.below hb15
   have hcF:¬FY wc.heap.size:=fun hf=>by have:=hJ.pm.hi _ hf;omega
   have hC1:=Lib.hid hr15.out
   have hcb:w.heap.size<wc.heap.size:=hJ.sp.lt
   clear hbc hC0 hr15 hg15 hz15 hb15 hJ hy n4 hic him
   generalize wc.heap.size=cb at *
   clear wc
   go_cut [15] from 130 to 236 (fun _ wx=>∃z s,LoopY w B pb w.heap.size nb mb F k 10 cs9 L z cb s wx∧(x.st.nodes.length≤z.st.nodes.length∧x.st.spans.length≤z.st.spans.length∧z.st.left.length≤x.st.left.length) ∧
    Hid (∀er,valueV k.en f z.st s (d+1)=.error er→oc=.error er)∧Hid (∀v st',valueV k.en f z.st s (d+1)=.ok (v,st')→itemsV k.en f true st.spans.length d ⟨st',z.ks,z.keys,z.items ++ [v]⟩=oc))
   case first=>
    rename_i K2 hK2 J K' hJ hK'
    clear hK2
    clear K2
    revert u15 u130 u131 u132 u133 u134 u135 u136 u137 u138 u139 u140 u141 u142 u143 u144 u145 u146 u147 u148 u149 u150 u151 u152 u153 u154 u155 u156 u157 u158 u159 u160 u161 u162 u163 u164 u165 u166 u167 u168 u169 u170 u171 u172 u173 u174 u175 u176 u177 u178 u179 u180 u181 u182 u183 u184 u185 u186 u187 u188 u189 u190 u191 u192 u193 u194 u195 u196 u197 u198 u199 u200 u201 u202 u203 u204 u205 u206 u207 u208 u209 u210 u211 u212 u213 u214 u215 u216 u217 u218 u219 u220 u221 u222 u223 u224 u225 u226 u227 u228 u229 u230 u231 u232 u233 u234 u235 u236 u16 u17 u18 u19 u20 u21 u22 u23 u24 u25 u26 u27 u28 u29 u30 u31 u32 u33 u34 u35 u36 u37 u38 u39 u40 u41 u42 u43 u44 u45 u46 u47 u48 u49 u50 u51 u52 u53 u54 u55 u56 u57 u58 u59 u60 u61 u62 u63 u64 u65 u66 u67 u68 u69 u70 u71 u72 u73 u74 u75 u76 u77 u78 u79 u80 u81 u82 u83 u84 u85 u86 u87 u88 u89 u90 u91 u92 u93 u94 u95 u96 u97 u98 u99 u100 u101 u102 u103 u104 u105 u106 u107 u108 u109 u110 u111 u112 u113 u114 u115 u116 u117 u118 u119 u120 u121 u122 u123 u124 u125 u126 u127 u128 u129 u237 u238 u239 u240 u241 u242 u243 u244 u245 u246 u247 u248 u249 u250 u251 u252 u253 u254 u255 u256 u257 u258 u259 u260 u261
    revert K nb mb cs9 wr x f y FY AY nY cY vnY vsY ncY vkY Ai ci w15 cb J K'
    exact H1.out
   case rest=>
    rename_i K2 hK2
    clear hJ1 hC1 hcF HEV HOV HYF
    revert u15 u130 u131 u132 u133 u134 u135 u136 u137 u138 u139 u140 u141 u142 u143 u144 u145 u146 u147 u148 u149 u150 u151 u152 u153 u154 u155 u156 u157 u158 u159 u160 u161 u162 u163 u164 u165 u166 u167 u168 u169 u170 u171 u172 u173 u174 u175 u176 u177 u178 u179 u180 u181 u182 u183 u184 u185 u186 u187 u188 u189 u190 u191 u192 u193 u194 u195 u196 u197 u198 u199 u200 u201 u202 u203 u204 u205 u206 u207 u208 u209 u210 u211 u212 u213 u214 u215 u216 u217 u218 u219 u220 u221 u222 u223 u224 u225 u226 u227 u228 u229 u230 u231 u232 u233 u234 u235 u236 u16 u17 u18 u19 u20 u21 u22 u23 u24 u25 u26 u27 u28 u29 u30 u31 u32 u33 u34 u35 u36 u37 u38 u39 u40 u41 u42 u43 u44 u45 u46 u47 u48 u49 u50 u51 u52 u53 u54 u55 u56 u57 u58 u59 u60 u61 u62 u63 u64 u65 u66 u67 u68 u69 u70 u71 u72 u73 u74 u75 u76 u77 u78 u79 u80 u81 u82 u83 u84 u85 u86 u87 u88 u89 u90 u91 u92 u93 u94 u95 u96 u97 u98 u99 u100 u101 u102 u103 u104 u105 u106 u107 u108 u109 u110 u111 u112 u113 u114 u115 u116 u117 u118 u119 u120 u121 u122 u123 u124 u125 u126 u127 u128 u129 u237 u238 u239 u240 u241 u242 u243 u244 u245 u246 u247 u248 u249 u250 u251 u252 u253 u254 u255 u256 u257 u258 u259 u260 u261
    revert K nb mb cs9 wr x f cb K2 wc
    exact H2.out)
end Go.Proofs.YtijoollonkibfaaGreatDoor
