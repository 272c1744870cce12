/- The shell of value's walk at an entry of a map. -/
import Derived.Test.YtijoollonkibfaaGreatDoorMMg
import Derived.Deep.CutRange
set_option linter.unusedVariables false
set_option linter.unusedSimpArgs false
set_option linter.defProp false
set_option linter.constructorNameAsVariable false
namespace Go.Proofs.YtijoollonkibfaaGreatDoor
open Go.RowKit
set_option maxRecDepth 100000 in
set_option maxHeartbeats 16000000 in
def keyshell_m (w:World) (B pb:Nat) (F:Nat→Prop) (k:PK) (st:PSt) (s:JSpan) (d:Nat) (t:JTok) (r:List JTok) (L f0:Nat) (oc:Except PErr PLoop) (res:Except PErr (Int×PSt)):=
 fun(H1:Box _) {A:Option Addr} {n c:Nat} {vn vs:Value} {ncs:List Value} (h:PMx w B pb F k A n c vn vs ncs st) (hok:∀t∈st.left,TokOK t) (hL:LibAt B w) (hd:d≤1000) (hl:st.left=t :: r)
  (hk:t.kind=1) (hx:t.text = [123]) (hr:roomV st d=0) (hinv:PInv st) (hll:st.left.length≤L) (hLb:L≤65536) (hfu:2*st.left.length<f0+1) (ih:∀f',f'≤f0→ValOK B pb k L f')
  (HO:Hid (itemsV k.en f0 true st.spans.length d ⟨⟨r,st.nodes ++ [⟨10,[],false,[],[]⟩],st.spans ++ [{ s with node:=st.nodes.length,from_:=t.from_,whole:=true }]⟩,[],[],[]⟩=oc))
  (HR:Hid (contRes st.nodes.length 10 st.spans.length oc=res))=>(show Arg1 (goshell_m w B pb F k st s d t r L f0 oc res) from by
  intro K hK nb hne1 mb hw10 cs9 hcs9 wr x hnx hsx f hfx hff hm0 hc y FY AY nY cY vnY vsY ncY vkY HYF Ai ci HEV HOV w15 hJ1 cb hcF hC1 hcb J K' hK' u16 u17 u18 u19 u20 u21 u22 u23 u24 u25 u26 u27 u28 u29 u30 u31 u32 u33 u34 u35 u36 u37 u38 u39 u40 u41 u42 u43 u44 u45 u46 u47 u48 u49 u50 u51 u52 u53 u54 u55 u56 u57 u58 u59 u60 u61 u62 u63 u64 u65 u66 u67 u68 u69 u70 u71 u72 u73 u74 u75 u76 u77 u78 u79 u80 u81 u82 u83 u84 u85 u86 u87 u88 u89 u90 u91 u92 u93 u94 u95 u96 u97 u98 u99 u100 u101 u102 u103 u104 u105 u106 u107 u108 u109 u110 u111 u112 u113 u114 u115 u116 u117 u118 u119 u120 u121 u122 u123 u124 u125 u126 u127 u128 u129 u237 u238 u239 u240 u241 u242 u243 u244 u245 u246 u247 u248 u249 u250 u251 u252 u253 u254 u255 u256 u257 u258 u259 u260 u261 u15 Q' u130 u131 u132 u133 u134 u135 u136 u137 u138 u139 u140 u141 u142 u143 u144 u145 u146 u147 u148 u149 u150 u151 u152 u153 u154 u155 u156 u157 u158 u159 u160 u161 u162 u163 u164 u165 u166 u167 u168 u169 u170 u171 u172 u173 u174 u175 u176 u177 u178 u179 u180 u181 u182 u183 u184 u185 u186 u187 u188 u189 u190 u191 u192 u193 u194 u195 u196 u197 u198 u199 u200 u201 u202 u203 u204 u205 u206 u207 u208 u209 u210 u211 u212 u213 u214 u215 u216 u217 u218 u219 u220 u221 u222 u223 u224 u225 u226 u227 u228 u229 u230 u231 u232 u233 u234 u235 u236 hJ
  have hB:=hL.size
  have hd32:d≤32:=(room0 hr).1
  have hnl:st.nodes.length<4096:=(room0 hr).2
  have hspl:st.spans.length≤4096:=by have:=hinv.1;have:=hinv.2;omega
  have hB1:Below B w w15:=hJ1.step.below h.lo hB
  have c0:=hJ1.pm.par.cell' (i:=0) rfl
  have hn:=hJ1.pm.len
  have DF:Hid (Calls Tryz.prog 11 #[.pointer (some ⟨pb,0,none⟩),.int .i64 4] w15 fun e w'=>e=failE (offV k.en y.st.left,4)∧w15=w'):=fail_h hJ1.pm 4
  have DF8:Hid (Calls Tryz.prog 11 #[.pointer (some ⟨pb,0,none⟩),.int .i64 8] w15 fun e w'=>e=failE (offV k.en y.st.left,8)∧w15=w'):=fail_h hJ1.pm 8
  have hdd:((d+1:Nat):Int)=(d:Int)+1:=by omega
  have hmp:=hJ1.mp
  rcases key_cases (en:=k.en) (d:=d) (y:=y) (s:=⟨0,(st.spans.length:Int),(y.items.length:Int),0,0,0,0,false,false⟩) rfl with⟨hl0,hk⟩ | ⟨t1,r1,hl1,hkc⟩
  ·rw [hl0] at hn
   subst hn
   have ho:oc=.error (offV k.en y.st.left,4):=by rw [hl0];exact HEV.out _ hk
   have hrs:=HR.out
   rw [ho] at hrs
   generalize offV k.en y.st.left=ofv at *
   subst hrs
   clear hJ1 DF8 hmp hdd hk hl0 hC1
   go_wp2_with (first | (go_at_call 11;((with_reducible refine DF.out.mono ?_));rintro e wn ⟨he,rfl⟩;unfold failE at he;subst he))
   exact⟨rfl,ValR.bad hB1⟩
  ·obtain⟨g,o,hA,q0,q1,q2,q3⟩:=hJ1.pm.head hl1
   rw [hA] at c0
   have hokt:=hJ1.tk t1 (by rw [hl1];simp)
   have hkb:By t1.text:=hokt.1
   have hkl:t1.text.length≤4294967296:=by have:=hokt.2.1;omega
   rw [hl1] at hn
   have hn0:0<nY:=by rw [hn];simp
   have hn0':(0:Int)<nY:=by omega
   have hn1:((nY:Int) == 0)=false:=by simp;omega
   clear hn
   rcases hkc with⟨hk2,hk⟩ | ⟨hk2,hr0,hk⟩ | ⟨hk2,hr0,hin,hk⟩ | ⟨hk2,hr0,hin,hlast⟩
   ·have hk2':((t1.kind:Int) != 2)=true:=by simp;omega
    have ho:oc=.error (offV k.en y.st.left,4):=by rw [hl1];exact HEV.out _ hk
    have hrs:=HR.out
    rw [ho] at hrs
    generalize offV k.en y.st.left=ofv at *
    subst hrs
    clear hJ1 DF8 hmp hdd hk hl1 hC1 hkb hkl hokt hk2
    go_wp2_with (first | (go_at_call 11;((with_reducible refine DF.out.mono ?_));rintro e wn ⟨he,rfl⟩;unfold failE at he;subst he))
    exact⟨rfl,ValR.bad hB1⟩
   ·have hk2':((t1.kind:Int) != 2)=false:=by simp;omega
    have DR:=room_h1 hJ1.pm (d+1) (by omega) hr0
    rw [hdd] at DR
    have ho:oc=.error (offV k.en y.st.left,roomV y.st (d+1)):=by rw [hl1];exact HEV.out _ hk
    have hrs:=HR.out
    rw [ho] at hrs
    generalize offV k.en y.st.left=ofv at *
    generalize roomV y.st (d+1)=rmv at *
    subst hrs
    clear hJ1 DF8 DF hmp hdd hk hl1 hC1 hkb hkl hokt hk2
    go_wp2_with (first | (go_at_call 27;(with_reducible refine DR.out.mono ?_);rintro e wn ⟨he,rfl⟩;unfold failE at he;subst he))
    exact⟨rfl,ValR.bad hB1⟩
   ·have hk2':((t1.kind:Int) != 2)=false:=by simp;omega
    have DR:=room_h0 hJ1.pm (d+1) (by omega) hr0
    rw [hdd] at DR
    have hdec:decide (t1.text∈y.ks)=true:=decide_eq_true hin
    have ho:oc=.error (offV k.en y.st.left,8):=by rw [hl1];exact HEV.out _ hk
    have hrs:=HR.out
    rw [ho] at hrs
    generalize offV k.en y.st.left=ofv at *
    subst hrs
    clear hJ1 DF hdd hk hl1 hC1 hokt hk2
    go_wp2_with (first | (go_at_call 27;(with_reducible refine DR.out.mono ?_);rintro e wn ⟨rfl,rfl⟩) | ((with_reducible show wpList _ _ _ (Oper.mk _ (Op.lookup _ _ _ _) _ _ _ _ :: _) _ _);go_loud (refine wpList_keyIn rfl (.tmp 181) (.tmp 189) rfl mb y.ks.length y.ks (by first | rfl | simp) hmp t1.text hkb hkl (by first | rfl | simp) ?_;rw [hdec])) | (go_at_call 11;((with_reducible refine DF8.out.mono ?_));rintro e wn ⟨he,rfl⟩;unfold failE at he;subst he))
    exact⟨rfl,ValR.bad hB1⟩
   ·clear hB1 c0 DF DF8 hmp q0 q1 q2 q3 hokt hkb hkl hn0 hn0' hn1 hA
    clear g o
    revert u15 u130 u131 u132 u133 u134 u135 u136 u137 u138 u139 u140 u141 u142 u143 u144 u145 u146 u147 u148 u149 u150 u151 u152 u153 u154 u155 u156 u157 u158 u159 u160 u161 u162 u163 u164 u165 u166 u167 u168 u169 u170 u171 u172 u173 u174 u175 u176 u177 u178 u179 u180 u181 u182 u183 u184 u185 u186 u187 u188 u189 u190 u191 u192 u193 u194 u195 u196 u197 u198 u199 u200 u201 u202 u203 u204 u205 u206 u207 u208 u209 u210 u211 u212 u213 u214 u215 u216 u217 u218 u219 u220 u221 u222 u223 u224 u225 u226 u227 u228 u229 u230 u231 u232 u233 u234 u235 u236 u16 u17 u18 u19 u20 u21 u22 u23 u24 u25 u26 u27 u28 u29 u30 u31 u32 u33 u34 u35 u36 u37 u38 u39 u40 u41 u42 u43 u44 u45 u46 u47 u48 u49 u50 u51 u52 u53 u54 u55 u56 u57 u58 u59 u60 u61 u62 u63 u64 u65 u66 u67 u68 u69 u70 u71 u72 u73 u74 u75 u76 u77 u78 u79 u80 u81 u82 u83 u84 u85 u86 u87 u88 u89 u90 u91 u92 u93 u94 u95 u96 u97 u98 u99 u100 u101 u102 u103 u104 u105 u106 u107 u108 u109 u110 u111 u112 u113 u114 u115 u116 u117 u118 u119 u120 u121 u122 u123 u124 u125 u126 u127 u128 u129 u237 u238 u239 u240 u241 u242 u243 u244 u245 u246 u247 u248 u249 u250 u251 u252 u253 u254 u255 u256 u257 u258 u259 u260 u261
    revert K nb mb cs9 wr x f y FY AY nY cY vnY vsY ncY vkY Ai ci w15 cb J K' t1 r1
    exact H1.out)
end Go.Proofs.YtijoollonkibfaaGreatDoor
