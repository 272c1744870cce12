/- canon.Normal: Check, then normal. -/
import Derived.Test.YtoppncpmfajbcaaGreatDoorMBh
import Derived.Test.YtoppncpmfajbcaaGreatDoorMAy
import Derived.Laws.ResultCell
import Derived.Laws.Rows
set_option linter.unusedVariables false
set_option linter.unusedSimpArgs false
set_option linter.defProp false
set_option linter.constructorNameAsVariable false
namespace Go.Proofs.YtoppncpmfajbcaaGreatDoor
open Go.RowKit
theorem results_row_tmp {P : Program} {fn : Func} {p u : Tmp} {ty : TypeId} (h : fn.results = #[.cell p ty, .tmp u]) (tmps : Array Value) (w : World) (g : Nat) (t : TypeId) (cs : Array Value) (fr : Nat × Nat) (d : TypeDesc) (x : Value)
  (hp : tmps.getD p undef = .pointer (some ⟨g, 0, none⟩)) (hx : tmps.getD u undef = x) (hg : w.heap[g]? = some (.cells cs t fr))
  (hu : P.underlying ty = some d) (hd : (match d with | .struct _ | .array _ _ => true | _ => false) = true) (hi : (P.info? ty).map (·.size) = some cs.size) :
  (results fn tmps).run P w = .ok (.tuple #[.agg cs, x]) w := by
 rw [results_cell_tmp h, hp, hx]
 simp [asAddr, run_loadVar_row w g t ty cs fr d hg hu hd hi, Result.andThen]
structure NormOK (nodes : List GNode) : Prop where
 idx : Idx nodes
 nl : NL 65536 nodes
 len : nodes.length ≤ 4096
 ent : ∀ k, k < nodes.length → (ndAt nodes k).kind = 10 → (ndAt nodes k).ord = false → EntOK nodes (ndAt nodes k)
 key : ∀ k, k < nodes.length → (ndAt nodes k).kind = 10 → (ndAt nodes k).keys.length = (ndAt nodes k).items.length
def NormV (nodes : List GNode) (r : Nat) (N2 : List GNode) : Prop := ∃ v s', visitN nodes (entV nodes) (nodes.length + 1) (r : Int) ⟨List.replicate nodes.length (-1), 0, List.replicate nodes.length nd0⟩ = some (v, s') ∧ s'.out = N2
set_option maxRecDepth 20000 in
set_option maxHeartbeats 8000000 in
theorem Normal_w {B g o c r n : Nat} {nodes N2 : List GNode} (hn : nodes.length = n) (hOK : NormOK nodes) (hO : ChkOK nodes (r : Int)) (hchk : chkV nodes (r : Int) = 0) (hr : r < nodes.length) (hv : NormV nodes r N2) (w : World) (hw : LibE w) (hG : GRd w B g o nodes) :
  Calls Tryz.prog 19 #[.agg #[.slice (some ⟨g, o, none⟩) n c, .int .i64 (r : Int)]] w fun e w' => ∃ om ncs, e = .returned (.tuple #[.agg #[.slice (some ⟨om, 0, none⟩) n n, .int .i64 0], .int .i64 0]) ∧ Below w.heap.size w w' ∧ w.heap.size ≤ om ∧ Arr w' om 34 ncs ∧ NodesRd w' (fun _ => True) ncs N2 ∧ N2.length = n := by
 obtain ⟨v, s', hv1, rfl⟩ := hv
 have D1 := Lib.hid (fun (w' : World) (h : LibE w') (h' : GRd w' B g o nodes) => gcheck_any (c := c) hO w' h h')
 rw [hchk, hn] at D1
 have D2 := Lib.hid (fun (w' : World) (h' : GRd w' B g o nodes) => normal_any (c := c) hn hOK.idx hOK.nl hOK.len hOK.ent hOK.key hr hv1 w' h')
 have HG := Lib.hid hG
 have HW := Lib.hid hw
 obtain ⟨h1, h2, hb1, hz1⟩ := box2 w 26 26 [.slice (some ⟨g, o, none⟩) n c, .int .i64 (r : Int)] [.slice none 0 0, .int .i64 0]
 clear hOK hO hchk hr hv1 hw hG hn
 go_enter Tryz.func19, Tryz.ntmps19
 go_upto_region 1 with (fail)
 obtain ⟨gb, hgb⟩ : ∃ x, w.heap.size = x := ⟨_, rfl⟩
 have HGB := Lib.hid hgb
 have HB := Lib.hid hb1
 generalize ((w.alloc (.cells #[.slice (some ⟨g, o, none⟩) n c, .int .i64 (r : Int)] 26)).alloc (.cells #[.slice none 0 0, .int .i64 0] 26)) = W at *
 rw [hgb] at h1 h2 hz1 HB ⊢
 clear hgb hb1
 have hWW := Lib.hid (HW.out.keep (by rw [HGB.out]; exact HB.out))
 have hGW := Lib.hid (HG.out.below HB.out (by have := HG.out.2.1; have := HGB.out; omega))
 have x0 := h1.out.cell' (i := 0) rfl
 have x1 := h1.out.cell' (i := 1) rfl
 go_upto_region 3 with (go_at_call 30; ((with_reducible refine (D1.out _ hWW.out hGW.out).mono ?_)); rintro e w1 ⟨rfl, hb2⟩)
 clear x0 x1 D1
 have h1b := Lib.hid (h1.out.keep hb2)
 have h2b := Lib.hid (h2.out.keep hb2)
 have HB2 := Lib.hid (HB.out.trans (hb2.mono (by have := hz1.out; omega)))
 have hG1 := Lib.hid (hGW.out.below hb2 hGW.out.2.1)
 have hl : gb + 1 < w1.heap.size := h2b.out.lt
 clear h1 h2 HB hWW hGW hb2 hz1
 have x0 := h1b.out.cell' (i := 0) rfl
 have x1 := h1b.out.cell' (i := 1) rfl
 go_wp2_with (go_at_call 31; ((with_reducible refine (D2.out _ hG1.out).mono ?_)); rintro e w2 ⟨om, rfl, hb3, hom, hg3, hl3⟩; have hR := Lib.hid (h2b.out.keep hb3); have r0 := hR.out.cell' (i := 0) rfl; have r1 := hR.out.cell' (i := 1) rfl; have f0 := hR.out.frozen 0; have f1 := hR.out.frozen 1)
 clear r0 r1 f0 f1 x0 x1
 have hHG := Lib.hid hg3
 have HB3 := Lib.hid (HB2.out.trans (hb3.mono (by omega)))
 clear hg3 hb3 HB2 hG1 h1b h2b D2
 have h6 : Arr ((w2.setCell ⟨gb + 1, 0, none⟩ (.slice (some ⟨om, 0, none⟩) n n)).setCell ⟨gb + 1, 1, none⟩ (.int .i64 0)) (gb + 1) 26 [.slice (some ⟨om, 0, none⟩) n n, .int .i64 0] := (hR.out.store 0 _).store 1 _
 have hgw : w2.grownBy ((w2.setCell ⟨gb + 1, 0, none⟩ (.slice (some ⟨om, 0, none⟩) n n)).setCell ⟨gb + 1, 1, none⟩ (.int .i64 0)) (some (gb + 1)) := grown_trans (grown_set w2 ⟨gb + 1, 0, none⟩ _) (grown_set _ ⟨gb + 1, 1, none⟩ _)
 have hsz : (Tryz.prog.info? 26).map (·.size) = some 2 := by kernel_rfl
 generalize (w2.setCell ⟨gb + 1, 0, none⟩ (.slice (some ⟨om, 0, none⟩) n n)).setCell ⟨gb + 1, 1, none⟩ (.int .i64 0) = w3 at *
 obtain ⟨ncs, hA, hN⟩ := hHG.out
 have hA3 : Arr w3 om 34 ncs := Arr.grown hA hgw (some_ne (by omega))
 have hN3 := hN.over (w' := w3) (F' := fun _ => True) (fun b hb _ hc => ⟨hgw.block b hb (fun e => by
  obtain ⟨C, fz, hc⟩ := hc
  have e := Option.some.inj e
  subst e
  exact absurd (cells_kind hR.out hc) (by decide)), trivial⟩)
 exact bodyPost_ret (results_row_tmp Tryz.results19 _ _ _ _ #[.slice (some ⟨om, 0, none⟩) n n, .int .i64 0] (0, 0) _ _ rfl rfl h6 Tryz.underlying26 rfl hsz) rfl ⟨om, ncs, rfl, by rw [HGB.out]; exact HB3.out.grown hgw (by have := HB3.out.size; have := HGB.out; omega) (fun k e => by have := Option.some.inj e; omega), by have := HGB.out; omega, hA3, hN3, hl3⟩
end Go.Proofs.YtoppncpmfajbcaaGreatDoor
