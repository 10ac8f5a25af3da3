import Derived.Test.Qxb6614373aConvNil
import Derived.ProofKit
import Derived.OpenShut
import Derived.ShutString
import Derived.ChangeOld
import Derived.Below
import Derived.Carry
import Derived.SizedLaws
import Derived.Deep.Matrix
namespace Go.Proofs.Qxb6614373a.fnConversionsInSplitsAtAnyMode
open Go.ChangeShapes Go.WideShapes Go.ChangeAt Go.RowKit Go.Deep
set_option linter.unusedVariables false

theorem own : ownKnob Try.prog.godebug = none := by kernel_rfl
theorem laidOut : laidOutB Try.prog = true := by kernel_rfl
theorem cells44 : Try.prog.cellsOf 44 = 1 := by kernel_rfl
theorem cells48 : Try.prog.cellsOf 48 = 1 := by kernel_rfl
theorem cells21 : Try.prog.cellsOf 21 = 1 := by kernel_rfl
theorem bytes48 : Try.prog.bytesOf 48 = 8 := by kernel_rfl
theorem bytes21 : Try.prog.bytesOf 21 = 4 := by kernel_rfl
theorem reach_eq : reachBytes = 140737488351232 := rfl

theorem weightsAll_mem {H : Type} {P : Program} {e : TypeId} : ∀ {l : List (DataW H)} {d : DataW H}, d ∈ l → ∀ n ∈ d.weights P e, n ∈ DataW.weightsAll P e l
  | d' :: r, d, hd, n, hn => by
    simp only [DataW.weightsAll, List.mem_append]
    rcases List.mem_cons.1 hd with rfl | h
    · exact Or.inl hn
    · exact Or.inr (weightsAll_mem h n hn)

/-- The reach of a row inside a slice of slices. -/
theorem sized_inner {H : Type} {P : Program} {ts : List TypeId} {ds : List (DataW H)} (h : (DataW.weightsEach P ts ds).all (· ≤ reachBytes) = true) {j : Nat} {t e q : TypeId} {elems spare e' sp' : List (DataW H)}
    (ht : ts[j]? = some t) (hd : ds[j]? = some (.slice elems spare)) (hu : P.underlying t = some (.slice e)) (hu2 : P.underlying e = some (.slice q)) (hx : DataW.slice e' sp' ∈ elems) : (e'.length + sp'.length) * P.bytesOf q ≤ reachBytes := by
  refine of_decide_eq_true (List.all_eq_true.1 h _ (DataW.weights_mem_each ht hd _ ?_))
  simp only [DataW.weights, hu, List.mem_cons, List.mem_append]
  exact Or.inr (Or.inl (weightsAll_mem hx _ (by simp [DataW.weights, hu2])))

theorem cell_there {w : World} {a : Addr} {v : Value} (h : w.cell? a = some v) : a.block < w.heap.size := by
  apply Classical.byContradiction
  intro hn
  unfold World.cell? at h
  rw [Array.getElem?_eq_none (by omega)] at h
  cases h

/-- A slice that came in has a plain address. -/
theorem okWide_spot {P : Program} {w : World} {r : Reach} {base : Nat} {t e : TypeId} {a : Addr} {len cap : Nat} (ht : P.underlying t = some (.slice e)) (h : Value.okWide P w r base t (.slice (some a) len cap)) : a.spot = none := by
  simp only [Value.okWide, ht, Cell.okWide, Cell.ok] at h
  exact h.2.2.2.1

theorem nat_u16 {x : Int} (h : (Lit.int .u16 x).wf = true) : ∃ n : Nat, x = (n : Int) ∧ n < 65536 := by
  simp [Lit.wf, IntKind.min, IntKind.max, IntKind.bits, IntKind.signed] at h
  exact ⟨x.toNat, by omega, by omega⟩
theorem nat_u8 {x : Int} (h : (Lit.int .u8 x).wf = true) : ∃ n : Nat, x = (n : Int) ∧ n < 256 := by
  simp [Lit.wf, IntKind.min, IntKind.max, IntKind.bits, IntKind.signed] at h
  exact ⟨x.toNat, by omega, by omega⟩
theorem bd_i32 {x : Int} (h : (Lit.int .i32 x).wf = true) : -2147483648 ≤ x ∧ x ≤ 2147483647 := by
  simp [Lit.wf, IntKind.min, IntKind.max, IntKind.bits, IntKind.signed] at h
  omega

/-- THE LAW, whatever the counts are. -/
theorem walk (M CI c : Nat) (la : Option Addr) (L lcap : Nat) (R : Nat → Value) (ln : Nat → Nat) (S : Nat → Nat → Int) (ca : Option Addr) (N ccap : Nat) (C : Nat → Int) (w : World)
    (hM : M < 65536) (hCI : CI < 65536) (hc : c < 256) (hla : IsLists w la L R ln S) (hL : (L : Int) ≤ 9223372036854775807)
    (hca : (ca = none ∧ N = 0 ∧ ccap = 0) ∨ ∃ cb co, ca = some ⟨cb, co, none⟩ ∧ IsCounts w (some ⟨cb, co, none⟩) N C ∧ (∀ i, i < N → -2147483648 ≤ C i ∧ C i ≤ 2147483647) ∧ (N : Int) ≤ 35184372088832) :
    Calls Try.prog 5 #[.int .u16 M, .slice la L lcap, .slice ca N ccap, .int .u16 CI, .int .u8 c] w fun e w' => e = .returned (.bool true) ∧ Below w.heap.size w w' := by
  rcases hca with ⟨rfl, rfl, rfl⟩ | ⟨cb, co, rfl, h1, h2, h3⟩
  · exact law_nil M CI c la L lcap R ln S w hM hCI hc hla hL
  · exact law_some M CI c la L lcap R ln S cb co N ccap C w hM hCI hc hla h1 h2 hL h3

set_option maxRecDepth 100000 in
theorem lifted (os : Os) (started : os.Started) (H : Type) (enc : TypeId × Value → H) :
    ReturnsInHanded {} Try.checked os 5 .any (Rows.fnConversionsInSplitsAtAnyModeSpec.pre6 enc Try.prog Try.f5 Rows.fnConversionsInSplitsAtAnyModeRow.domain false) (Rows.fnConversionsInSplitsAtAnyModeSpec.post enc Try.prog Try.f5 false true false false) := by
  refine returnsInHanded_of_change_sized (C := Try.checked) own started (by kernel_rfl) Try.func5
    (ChangeSpec.witness6 (enc := enc) (C := Try.checked) false ⟨#[], #[.int .u16 0, .slice none 0 0, .slice none 0 0, .int .u16 0, .int .u8 0], []⟩ 8 (by kernel_rfl) (by kernel_rfl) (by kernel_rfl) (by kernel_rfl)) ?_
  intro W base args ds gs before hval0 hW hcnd hsz0 _
  have hsz : (DataW.weightsEach Try.prog (Try.f5.params.toList ++ Rows.fnConversionsInSplitsAtAnyModeSpec.plain.varTypes Try.prog) (ds ++ gs)).all (· ≤ reachBytes) = true := hsz0
  have hval : ∀ (j : Nat) t v, Try.f5.params[j]? = some t → args[j]? = some v → Value.okWide Try.prog W .any base t v := hval0
  have hW' := hW
  obtain ⟨p, q, hA0, hV, rfl, hfz, hnd⟩ := hW
  have hA : DataW.TrodAll enc Try.prog W 0 (fun _ => true) true Try.f5.params.toList args.toList ds p := hA0
  rw [Try.params5] at hA hval hsz
  obtain ⟨v0, vs0, d0, ds0, p0, q0, hargs, rfl, rfl, h0, r0⟩ := trodAll_cons hA
  obtain ⟨v1, vs1, d1, ds1, p1, q1, rfl, rfl, rfl, h1, r1⟩ := trodAll_cons r0
  obtain ⟨v2, vs2, d2, ds2, p2, q2, rfl, rfl, rfl, h2, r2⟩ := trodAll_cons r1
  obtain ⟨v3, vs3, d3, ds3, p3, q3, rfl, rfl, rfl, h3, r3⟩ := trodAll_cons r2
  obtain ⟨v4, vs4, d4, ds4, p4, q4, rfl, rfl, rfl, h4, r4⟩ := trodAll_cons r3
  obtain ⟨rfl, rfl, rfl⟩ := trodAll_nil r4
  obtain rfl : args = #[v0, v1, v2, v3, v4] := by cases args; simp_all
  obtain ⟨rfl, rfl⟩ := trodVars_none hV
  clear hA0 hval0 hsz0
  obtain ⟨a0, rfl, rfl, rfl, w0⟩ := open_int Try.underlying29 (hval 0 29 v0 rfl rfl) h0
  obtain ⟨a3, rfl, rfl, rfl, w3⟩ := open_int Try.underlying29 (hval 3 29 v3 rfl rfl) h3
  obtain ⟨a4, rfl, rfl, rfl, w4⟩ := open_int Try.underlying5 (hval 4 5 v4 rfl rfl) h4
  have k1 := h1
  have lt1 : ∀ x ∈ p1, x.block < W.heap.size := by obtain ⟨m, hm⟩ := k1; exact DataW.trod_lt m _ _ _ hm
  have k2 := h2
  have lt2 : ∀ x ∈ p2, x.block < W.heap.size := by obtain ⟨m, hm⟩ := k2; exact DataW.trod_lt m _ _ _ hm
  obtain ⟨a1, len1, cap1, rfl⟩ := okWide_slice Try.underlying30 (hval 1 30 v1 rfl rfl)
  obtain ⟨a2, len2, cap2, rfl⟩ := okWide_slice Try.underlying31 (hval 2 31 v2 rfl rfl)
  have o2 := hval 2 31 _ rfl rfl
  obtain ⟨hL1, R, ln, S, hl1⟩ : (len1 : Int) ≤ 9223372036854775807 ∧ ∃ R ln S, IsLists W a1 len1 R ln S := by
    obtain ⟨fuel, hf⟩ := h1
    rcases open_int_rows Try.underlying30 Try.underlying44 Try.underlying48 cells44 cells48 hf with ⟨hcs, hx⟩ | ⟨a, len', cap', A, L, C, Z, hcs, _, hl, hm, hx, hrows⟩
    · simp [Value.cells] at hcs
      obtain ⟨rfl, rfl, rfl⟩ := hcs
      exact ⟨by omega, fun _ => .bool false, fun _ => 0, fun _ _ => 0, fun i hi => by omega⟩
    · simp [Value.cells] at hcs
      obtain ⟨rfl, rfl, rfl⟩ := hcs
      simp only [Prod.mk.injEq] at hx
      obtain ⟨rfl, rfl⟩ := hx
      refine ⟨by unfold maxLen at hm; omega, fun r => .slice (A r) (L r) (C r), L, fun r c => (Z r).getD c 0, fun i hi => ?_⟩
      obtain ⟨hc1, hLC, hCm, hZl, hZw, hnil, hsm⟩ := hrows i (by omega)
      obtain ⟨gb, go, gs⟩ := a
      have hgs : gs = none := by
        have := World.cell?_spot (hrows 0 (by omega)).1
        simpa [Addr.add] using this
      subst hgs
      rw [add_plain] at hc1
      refine ⟨gb, go, rfl, cell_there hc1, hc1, ?_⟩
      show RowAt W (.slice (A i) (L i) (C i)) (L i) (fun c => (Z i).getD c 0)
      cases hA : A i with
      | none =>
        have hC0 := hnil hA
        have hL0 : L i = 0 := by omega
        rw [hC0, hL0]
        exact Or.inl (Or.inl ⟨rfl, rfl⟩)
      | some a' =>
        obtain ⟨_, hcell⟩ := hsm _ hA
        rcases Nat.eq_zero_or_pos (L i) with hl0 | hlp
        · rw [hl0]
          exact Or.inl (Or.inr ⟨_, _, rfl, rfl⟩)
        · obtain ⟨ab, ao, asp⟩ := a'
          have hc0 := hcell 0 (by omega)
          have has : asp = none := by simpa [Addr.add] using World.cell?_spot hc0
          subst has
          have hin := sized_inner hsz (j := 1) (t := 30) (e := 44) (q := 48) rfl rfl Try.underlying30 Try.underlying44
            (e' := lits .u64 ((Z i).take (L i))) (sp' := lits .u64 ((Z i).drop (L i)))
            (List.mem_map.2 ⟨i, List.mem_range.2 hi, by simp [intRow, hA]⟩)
          simp only [lits, List.length_map, List.length_take, List.length_drop, bytes48, reach_eq] at hin
          exact Or.inr ⟨ab, ao, C i, rfl, cell_there hc0, by omega, fun j hj => by have := hcell j (by omega); rwa [add_plain] at this⟩
  obtain ⟨C, hl2⟩ : ∃ C : Nat → Int, (a2 = none ∧ len2 = 0 ∧ cap2 = 0) ∨ ∃ cb co, a2 = some ⟨cb, co, none⟩ ∧ IsCounts W (some ⟨cb, co, none⟩) len2 C ∧ (∀ i, i < len2 → -2147483648 ≤ C i ∧ C i ≤ 2147483647) ∧ (len2 : Int) ≤ 35184372088832 := by
    obtain ⟨fuel, hf⟩ := h2
    rcases open_ints Try.underlying31 Try.underlying21 cells21 hf with ⟨hcs, _⟩ | ⟨x, l, c, zs, hcs, _, hl, hm, hz, hx, hcell, hwz⟩
    · simp [Value.cells] at hcs
      obtain ⟨rfl, rfl, rfl⟩ := hcs
      exact ⟨fun _ => 0, .inl ⟨rfl, rfl, rfl⟩⟩
    · simp [Value.cells] at hcs
      obtain ⟨rfl, rfl, rfl⟩ := hcs
      simp only [Prod.mk.injEq] at hx
      obtain ⟨rfl, rfl⟩ := hx
      simp only [if_true] at hz
      have hsp := okWide_spot Try.underlying31 o2
      obtain ⟨cb, co, csp⟩ := x
      have hsp' : csp = none := hsp
      subst hsp'
      have hw := sized_slice hsz (j := 2) (t := 31) (e := 21) rfl rfl Try.underlying31
      simp only [lits, List.length_map, List.length_take, List.length_drop, bytes21, reach_eq] at hw
      refine ⟨fun i => zs.getD i 0, .inr ⟨cb, co, rfl, fun i hi => ?_, fun i hi => ?_, by omega⟩⟩
      · have h := hcell i (by omega)
        rw [add_plain] at h
        exact ⟨cb, co, rfl, cell_there h, h⟩
      · have hi' : i < zs.length := by omega
        have : zs.getD i 0 = zs[i] := by simp [List.getD, hi']
        show -2147483648 ≤ zs.getD i 0 ∧ zs.getD i 0 ≤ 2147483647
        rw [this]
        exact bd_i32 (hwz _ (List.getElem_mem hi'))
  obtain ⟨M, rfl, hM⟩ := nat_u16 w0
  obtain ⟨CI, rfl, hCI⟩ := nat_u16 w3
  obtain ⟨c, rfl, hc⟩ := nat_u8 w4
  refine (walk M CI c a1 len1 cap1 R ln S a2 len2 cap2 C W hM hCI hc hl1 hL1 hl2).mono fun e W' ⟨he, bel⟩ => ?_
  subst he
  exact ⟨_, rfl, _, _, _, [], _, [], hW', trodAll_mk1 (shut_bool Try.underlying4 _),
    (trodAll_cons_mk (shut_int Try.underlying29 w0) (trodAll_cons_mk (Below.trod laidOut (by kernel_rfl) (of_decide_eq_true (by kernel_rfl)) k1 bel lt1) (trodAll_cons_mk (Below.trod laidOut (by kernel_rfl) (of_decide_eq_true (by kernel_rfl)) k2 bel lt2) (trodAll_cons_mk (shut_int Try.underlying29 w3) (trodAll_cons_mk (shut_int Try.underlying5 w4) trodAll_mk0))))), rfl, bel.frame _, fun h => by cases h⟩

theorem over : Rows.fnConversionsInSplitsAtAnyModeRow.holds Try.pinned (OpenSpec.ofChange Rows.fnConversionsInSplitsAtAnyModeSpec) :=
  OpenClaim.holds_of_wide 5 Try.f5 rfl rfl rfl rfl rfl rfl rfl ⟨rfl, rfl, rfl, rfl, rfl⟩ rfl rfl rfl rfl rfl (by kernel_rfl) Try.func5 (by kernel_rfl)
    (of_decide_eq_true (by kernel_rfl)) (by unfold Func.isWrapper; first | (rw [if_pos (by decide +kernel)]; kernel_rfl) | (rw [if_neg (by decide +kernel)]; exact ⟨rfl, rfl⟩))
    (fun os started H enc _ => lifted os started H enc)

/-- THE STATEMENT -/
theorem proved : Rows.FnConversionsInSplitsAtAnyModeSaid :=
  over
end Go.Proofs.Qxb6614373a.fnConversionsInSplitsAtAnyMode
