/- laws.FnPackOther: what the row says, and its card. -/
import Derived.Test.YtohdpnoinfnmiaaGreatDoorCards
import Derived.Test.YtohdpnoinfnmiaaGreatDoorTie
import Derived.Test.YtohdpnoinfnmiaaGreatDoorV39
import Derived.Test.YtohdpnoinfnmiaaGreatDoorV40
import Derived.Test.YtohdpnoinfnmiaaGreatDoorV41
import Derived.WalkKit
import Derived.ProofKit
import Derived.OpenShut
import Derived.OpenVars
import Derived.MakeChecks
import Derived.LaidSub
import Derived.Below
import Derived.Deep.DeepHandedRow
import Derived.Deep.DeepWitnessRowRef
namespace Go.Proofs.YtohdpnoinfnmiaaGreatDoor.fnPackOther
open Go.ChangeShapes Go.WideShapes Go.ChangeAt Go.RowKit U
open Go.Proofs.YtohdpnoinfnmiaaGreatDoorW.PrintWords (Kd)
open PFnPackOther
theorem own : ownKnob Tryz.prog.godebug = none := by kernel_rfl
theorem laidOut : laidOutB Tryz.prog = true := by kernel_rfl
/-- What the listed variables hold. -/
theorem vars_of {W : World} (h0 : laidMetH Tryz.prog Rows.fnPackOtherRow.laid W) : ∃ t o cap t' o' cap' a0 a2 a3 a4 a8, Vars W t o cap t' o' cap' a0 a2 a3 a4 a8 := by
  rw [Go.MakeChecks.laidMetH_plain _ _ _ (by kernel_rfl)] at h0
  have one : ∀ n d, (Rows.fnPackOtherRow.laid.filter fun x => x.1 == n) = [(n, d)] → laidMet Tryz.prog [(n, d)] W := fun n d e => e ▸ h0.filter _
  obtain ⟨a0, e0⟩ := er_of (one "io.EOF" Rows.laid_io_EOF (by kernel_rfl)) (g := 0) (by kernel_rfl) (by kernel_rfl)
  obtain ⟨a2, e2⟩ := er_of (one "loop.example/pub-g01474/pub/gogit/plumbing/format/packfile.ErrBadSignature" Rows.laid_loop_example_pub_g01474_pub_gogit_plumbing_format_packfile_ErrBadSignature (by kernel_rfl)) (g := 2) (by kernel_rfl) (by kernel_rfl)
  obtain ⟨a3, e3⟩ := er_of (one "loop.example/pub-g01474/pub/gogit/plumbing/format/packfile.ErrUnsupportedVersion" Rows.laid_loop_example_pub_g01474_pub_gogit_plumbing_format_packfile_ErrUnsupportedVersion (by kernel_rfl)) (g := 3) (by kernel_rfl) (by kernel_rfl)
  obtain ⟨a4, e4⟩ := er_of (one "loop.example/pub-g01474/pub/gogit/plumbing/format/packfile.ErrMalformedPackFile" Rows.laid_loop_example_pub_g01474_pub_gogit_plumbing_format_packfile_ErrMalformedPackFile (by kernel_rfl)) (g := 4) (by kernel_rfl) (by kernel_rfl)
  obtain ⟨a8, e8⟩ := er_of (one "io.ErrUnexpectedEOF" Rows.laid_io_ErrUnexpectedEOF (by kernel_rfl)) (g := 8) (by kernel_rfl) (by kernel_rfl)
  obtain ⟨t, o, cap, h, hp⟩ := pairs_of (xs := [(1, 0), (2, 8), (4, 16), (8, 24)]) (one "loop.example/pub-g01474/pub/gogit/plumbing/format/packfile.offsets" Rows.laid_loop_example_pub_g01474_pub_gogit_plumbing_format_packfile_offsets (by kernel_rfl)) (by simp) (g := 15) (by kernel_rfl) (by kernel_rfl)
  obtain ⟨t', o', cap', h', hq⟩ := pairs_of (xs := [(16, 0), (32, 8), (64, 16)]) (one "loop.example/pub-g01474/pub/gogit/plumbing/format/packfile.sizes" Rows.laid_loop_example_pub_g01474_pub_gogit_plumbing_format_packfile_sizes (by kernel_rfl)) (by simp) (g := 16) (by kernel_rfl) (by kernel_rfl)
  have T : Tabs W t o cap t' o' cap' :=
    ⟨h, (hp 0 (1, 0) rfl).1, (hp 1 (2, 8) rfl).1, (hp 2 (4, 16) rfl).1, (hp 3 (8, 24) rfl).1, (hp 0 (1, 0) rfl).2, (hp 1 (2, 8) rfl).2, (hp 2 (4, 16) rfl).2, (hp 3 (8, 24) rfl).2,
     h', (hq 0 (16, 0) rfl).1, (hq 1 (32, 8) rfl).1, (hq 2 (64, 16) rfl).1, (hq 0 (16, 0) rfl).2, (hq 1 (32, 8) rfl).2, (hq 2 (64, 16) rfl).2⟩
  exact ⟨t, o, cap, t', o', cap', a0, a2, a3, a4, a8, T, e0, e2, e3, e4, e8⟩
theorem trodVars_length {H : Type} {enc : TypeId × Value → H} {P : Program} {w : World} {sp : Nat → Bool} : ∀ {ns : List String} {gs : List (DataW H)} {ps : List MemPlace}, DataW.TrodVars enc P w sp ns gs ps → gs.length = ns.length
  | [], [], _, _ => rfl
  | [], _ :: _, _, h => h.elim
  | _ :: _, [], _, h => h.elim
  | _ :: _, _ :: _, _, h => by
    obtain ⟨g, t, cs, fuel, p, q, h1, h2, h3, h4, hs, e⟩ := h
    simp [trodVars_length hs]
theorem u8_bounds {y : Int} (wy : (Lit.int .u8 y).wf = true) : 0 ≤ y ∧ y ≤ 255 := by
  simpa [Lit.wf, IntKind.min, IntKind.max, IntKind.signed, IntKind.bits] using wy
set_option maxRecDepth 100000 in
/-- For every argument, and every world that holds the listed variables. -/
theorem contract (H : Type) (enc : TypeId × Value → H) (W : World) (base : Nat) (args : Array Value) (ds gs : List (DataW H)) (before : List MemPlace)
    (hval : ∀ (j : Nat) t v, Tryz.f3.params[j]? = some t → args[j]? = some v → Value.okWide Tryz.prog W .any base t v)
    (hW : DataW.Whole enc Tryz.prog Tryz.f3.params.toList Rows.fnPackOtherSpec.vars false W args.toList ds gs before) (hL : laidMetH Tryz.prog Rows.fnPackOtherRow.laid W) :
    Calls Tryz.prog 3 args W fun e W' => ∃ v, e = .returned v ∧ Rows.fnPackOtherSpec.post enc Tryz.prog Tryz.f3 false true false false W args v W' := by
  obtain ⟨t, o, cap, t', o', cap', a0, a2, a3, a4, a8, hVars⟩ := vars_of hL
  have hW' := hW
  obtain ⟨p, q, hA0, hV, rfl, hfz, hnd⟩ := hW
  have hA : DataW.TrodAll enc Tryz.prog W 0 (fun _ => true) true Tryz.f3.params.toList args.toList ds p := hA0
  rw [Tryz.params3] at hA hval
  obtain ⟨v0, vs0, d0, ds0, p0, q0, hargs, rfl, rfl, h0, r0⟩ := trodAll_cons hA
  obtain ⟨v1, vs1, d1, ds1, p1, q1, rfl, rfl, rfl, h1, r1⟩ := trodAll_cons r0
  obtain ⟨v2, vs2, d2, ds2, p2, q2, rfl, rfl, rfl, h2, r2⟩ := trodAll_cons r1
  obtain ⟨rfl, rfl, rfl⟩ := trodAll_nil r2
  obtain rfl : args = #[v0, v1, v2] := by cases args; simp_all
  obtain ⟨A, n, c, rfl⟩ := okWide_slice Tryz.underlying22 (hval 0 22 v0 rfl rfl)
  have k0 := h0
  have lt0 : ∀ x ∈ p0, x.block < W.heap.size := by
    obtain ⟨m, hm⟩ := k0
    exact DataW.trod_lt m _ _ _ hm
  obtain ⟨l, hn, hc, hC⟩ := open22 h0
  subst hn
  obtain ⟨pl, rfl, rfl, rfl, wp⟩ := open_int Tryz.underlying3 (hval 1 3 v1 rfl rfl) h1
  obtain ⟨y, rfl, rfl, rfl, wy⟩ := open_int Tryz.underlying5 (hval 2 5 v2 rfl rfl) h2
  have hy := u8_bounds wy
  obtain ⟨g1, g2, g3, g4, g5, g6, g7, g8, g9, g10, g11, g12, g13, g14, g15, g16, g17, g18, rfl⟩ : ∃ g1 g2 g3 g4 g5 g6 g7 g8 g9 g10 g11 g12 g13 g14 g15 g16 g17 g18, gs = [g1, g2, g3, g4, g5, g6, g7, g8, g9, g10, g11, g12, g13, g14, g15, g16, g17, g18] := by
    have hl : gs.length = 18 := trodVars_length hV
    match gs, hl with
    | [g1, g2, g3, g4, g5, g6, g7, g8, g9, g10, g11, g12, g13, g14, g15, g16, g17, g18], _ => exact ⟨g1, g2, g3, g4, g5, g6, g7, g8, g9, g10, g11, g12, g13, g14, g15, g16, g17, g18, rfl⟩
  clear hA0
  refine (f3_any A c l pl y W t o cap t' o' cap' a0 a2 a3 a4 a8 hC hc hy.1 hy.2 hVars).mono fun e W' ⟨he, hu⟩ => ?_
  subst he
  have hb := hu.to_below
  exact ⟨_, rfl, _, _, _, [], _, q, hW', trodAll_mk1 (shut_bool Tryz.underlying4 _),
    trodAll_cons_mk (Below.trod laidOut (by kernel_rfl) (of_decide_eq_true (by kernel_rfl)) k0 hb lt0) (trodAll_cons_mk (shut_int Tryz.underlying3 wp) (trodAll_cons_mk (shut_int Tryz.underlying5 wy) trodAll_mk0)),
    hb.trodVars laidOut (by kernel_rfl) hV, hb.frame _, fun h => by cases h⟩
end Go.Proofs.YtohdpnoinfnmiaaGreatDoor.fnPackOther
