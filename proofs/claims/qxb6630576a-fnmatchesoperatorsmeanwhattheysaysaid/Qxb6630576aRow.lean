/-
  Seat b6630576a. THE ROW: Rows.FnMatchesOperatorsMeanWhatTheySaySaid, PROVED.
-/
import Derived.Test.Qxb6630576aLaw
import Derived.ProofKit
import Derived.Deep.Slices
import Derived.OpenShut
namespace Go.Proofs.Qxb6630576a
open Go.ChangeShapes Go.WideShapes Go.ChangeAt Go.RowKit
open Go.ChangeMaps (open_string shut_string)
open Go.WideElems (elemAt rg pl Fit)

theorem own : ownKnob Try.prog.godebug = none := by kernel_rfl
theorem laidOut : laidOutB Try.prog = true := by kernel_rfl
theorem cells9 : Try.prog.cellsOf 9 = 1 := by kernel_rfl

theorem row_of {W : World} {a : Addr} {n : Nat} {V : Nat → Value} (h : ∀ i, i < n → W.cell? (a.add i) = some (V i)) : Row W (some a) n V := fun hn => by
  have c0 := h 0 hn
  obtain ⟨b, o, sp⟩ := a
  have hspot : sp = none := by simpa [Addr.add] using World.cell?_spot c0
  subst hspot
  refine ⟨b, o, rfl, by simpa [Addr.add] using World.block_lt_of_cell? W _ c0, fun i hi => ?_⟩
  have := h i hi
  rwa [Addr.add_mid] at this

theorem strings_of {H : Type} {enc : TypeId × Value → H} {W : World} {a : Option Addr} {len cap : Nat} {d : DataW H} {ps : List MemPlace}
    (h : DataW.Trod enc Try.prog W 0 (fun _ => true) true 22 (.slice a len cap) d ps) : ∃ F : Nat → ByteArray, Row W a len (fun i => .string (F i)) ∧ (∀ i, i < len → (F i).size ≤ maxLen) ∧ len ≤ cap := by
  obtain ⟨fuel, hf⟩ := h
  rcases Deep.open_slice1 Try.underlying22 cells9 hf with ⟨hcs, _⟩ | ⟨x, l, c, m, n, U, D, Q, hcs, _, hl, hm, hmm, _, hcell⟩
  · simp [Value.cells] at hcs
    obtain ⟨rfl, rfl, rfl⟩ := hcs
    exact ⟨fun _ => .empty, fun h => absurd h (by omega), fun i h => absurd h (by omega), Nat.le_refl _⟩
  · simp [Value.cells] at hcs
    obtain ⟨rfl, rfl, rfl⟩ := hcs
    have hlm : len ≤ m := by rw [hmm]; split <;> omega
    have ev : ∀ i, i < len → ∃ s : ByteArray, W.cell? (x.add i) = some (.string s) ∧ s.size ≤ maxLen := by
      intro i hi
      obtain ⟨h1, h2⟩ := hcell i (by omega)
      obtain ⟨s, e, _, z⟩ := DataW.trod_string Try.underlying9 h2
      have e' : U i = .string s := by simpa using e
      exact ⟨s, by rw [h1, e'], z⟩
    have inh : Inhabited ByteArray := ⟨.empty⟩
    obtain ⟨F, hF⟩ := Deep.choose_lt ev
    exact ⟨F, row_of fun i hi => (hF i hi).1, fun i hi => (hF i hi).2, hl⟩

theorem look_own {H : Type} {W : World} {bm n : Nat} {D : DataW H} (hown : W.ownsMap Try.prog 9 (plainElem Try.prog 9) bm n D) {key : ByteArray} (hk : key.size ≤ maxLen) :
    ∃ (val : ByteArray) (ok : Bool) (L : Int), Looks W (.map (some bm)) key val ok ∧ val.size ≤ maxLen ∧ (Builtin.len_ #[25] 3 #[.map (some bm)]).run Try.prog W = .ok (.int .i64 L) W := by
  have hlt := hown.lt
  obtain ⟨v, ps', hrun, hv⟩ := hown.look_ok law Try.underlying25 (zero9 _) (plainElem_string Try.underlying9 (s := ⟨#[]⟩) (by decide)) (key_of hk)
  obtain ⟨val, rfl, hz, hsz⟩ := plainElem_string_inv Try.underlying9 hv
  refine ⟨val, Maps.has D (.string key.data.toList), Maps.size D, fun w' hb' => ?_, hsz, hown.len Try.underlying25 3⟩
  have hown' : w'.ownsMap Try.prog 9 (plainElem Try.prog 9) bm n D := by
    obtain ⟨es', clock', hbk, F1, hle, hD⟩ := hown
    exact ⟨es', clock', by rw [hb'.block bm hlt]; exact hbk, F1, hle, hD⟩
  obtain ⟨v2, ps2, hrun2, hv2⟩ := hown'.look_ok law Try.underlying25 (zero9 _) (plainElem_string Try.underlying9 (s := ⟨#[]⟩) (by decide)) (key_of hk)
  obtain ⟨val2, rfl, hz2, _⟩ := plainElem_string_inv Try.underlying9 hv2
  have e : val = val2 := by
    have h1 : (DataW.lit (H := H) (.string val.data.toList)) = .lit (.string val2.data.toList) := (congrArg Prod.fst hz).symm.trans (congrArg Prod.fst hz2)
    simp only [DataW.lit.injEq, Lit.string.injEq] at h1
    cases val; cases val2
    simp only at h1
    rw [Array.toList_inj.1 h1]
  rw [hrun2, e]

/-- A map that came in. -/
theorem map_of {H : Type} {enc : TypeId × Value → H} {W : World} {mv : Value} {d : DataW H} {ps : List MemPlace} (hm : ∃ am, mv = .map am) (h : DataW.Trod enc Try.prog W 0 (fun _ => true) true 25 mv d ps) {key : ByteArray} (hk : key.size ≤ maxLen) :
    ∃ (val : ByteArray) (ok : Bool) (L : Int), Looks W mv key val ok ∧ val.size ≤ maxLen ∧ (Builtin.len_ #[25] 3 #[mv]).run Try.prog W = .ok (.int .i64 L) W := by
  obtain ⟨am, rfl⟩ := hm
  obtain ⟨fuel, hf⟩ := h
  rcases WideElems.open_map Try.underlying25 hf with ⟨hcs, _⟩ | ⟨bm, es, clock, mm, rfl, hcs, hb, _, Ft, _⟩
  · simp [Value.cells] at hcs
    subst hcs
    exact ⟨⟨#[]⟩, false, 0, fun w' _ => by simpa using Maps.look_nil (w := w') true law Try.underlying25 (zero9 _) (key_of hk), by decide, Maps.len_nil Try.underlying25 3⟩
  · simp [Value.cells] at hcs
    subst hcs
    exact look_own (World.ownsMap_of_fit (R := plainElem Try.prog 9) hb Ft (fun x _ z hz => elemAt_plainElem_string Try.underlying9 hz)) hk

set_option maxRecDepth 100000 in
theorem sel_lifted (os : Os) (started : os.Started) (H : Type) (enc : TypeId × Value → H) :
    ReturnsInHanded {} Try.checked os 4 .any (Rows.fnMatchesOperatorsMeanWhatTheySaySpec.pre6 enc Try.prog Try.f4 Rows.fnMatchesOperatorsMeanWhatTheySayRow.domain false) (Rows.fnMatchesOperatorsMeanWhatTheySaySpec.post enc Try.prog Try.f4 false true false false) := by
  refine returnsInHanded_of_change (C := Try.checked) own started (by kernel_rfl) Try.func4
    (ChangeSpec.witness6 (enc := enc) (C := Try.checked) false ⟨#[], #[.string ByteArray.empty, .slice none 0 0, .map none], []⟩ 8 (by kernel_rfl) (by kernel_rfl) (by kernel_rfl) (by kernel_rfl)) ?_
  intro W base args ds gs before hval0 hW hcnd _
  have hval : ∀ (j : Nat) t v, Try.f4.params[j]? = some t → args[j]? = some v → Value.okWide Try.prog W .any base t v := hval0
  have hW' := hW
  obtain ⟨p, q, hA0, hV, rfl, hfz, hnd⟩ := hW
  have hA : DataW.TrodAll enc Try.prog W 0 (fun _ => true) true Try.f4.params.toList args.toList ds p := hA0
  rw [Try.params4] at hA hval
  obtain ⟨v0, vs0, d0, ds0, p0, q0, hargs, rfl, rfl, h0, t0⟩ := trodAll_cons hA
  obtain ⟨v1, vs1, d1, ds1, p1, q1, rfl, rfl, rfl, h1, t1⟩ := trodAll_cons t0
  obtain ⟨v2, vs2, d2, ds2, p2, q2, rfl, rfl, rfl, h2, t2⟩ := trodAll_cons t1
  obtain ⟨rfl, rfl, rfl⟩ := trodAll_nil t2
  obtain rfl : args = #[v0, v1, v2] := by cases args; simp_all
  obtain ⟨rfl, rfl⟩ := trodVars_none hV
  obtain ⟨key, rfl, rfl, rfl, z0⟩ := open_string Try.underlying9 (hval 0 9 v0 rfl rfl) h0
  obtain ⟨a1, n, cap, rfl⟩ := okWide_slice Try.underlying22 (hval 1 22 v1 rfl rfl)
  have hmv := okWide_map Try.underlying25 (hval 2 25 v2 rfl rfl)
  have lt1 : ∀ x ∈ p1, x.block < W.heap.size := by obtain ⟨m, hm⟩ := h1; exact DataW.trod_lt m _ _ _ hm
  have lt2 : ∀ x ∈ p2, x.block < W.heap.size := by obtain ⟨m, hm⟩ := h2; exact DataW.trod_lt m _ _ _ hm
  obtain ⟨V, hV1, hV2, hcap⟩ := strings_of h1
  obtain ⟨val, ok, L, hlook, hvs, hlen⟩ := map_of hmv h2 z0
  clear hA0 hval0
  refine (law_any key val ok a1 n cap L V v2 W hcap ⟨hV1, hlook, hV2, z0, hvs⟩ hlen).mono fun e W' ⟨he, bel⟩ => ?_
  subst he
  exact ⟨_, rfl, _, _, _, [], _, [], hW', trodAll_mk1 (shut_bool Try.underlying4 _), (trodAll_cons_mk (shut_string Try.underlying9 z0) (trodAll_cons_mk (Below.trod laidOut (by kernel_rfl) (of_decide_eq_true (by kernel_rfl)) h1 bel lt1) (trodAll_cons_mk (Below.trod laidOut (by kernel_rfl) (of_decide_eq_true (by kernel_rfl)) h2 bel lt2) trodAll_mk0))), rfl, bel.frame _, fun h => by cases h⟩

/-- ████ THE STATEMENT ████ -/
theorem sel_holds : Rows.FnMatchesOperatorsMeanWhatTheySaySaid :=
  OpenClaim.holds_of_wide 4 Try.f4 rfl rfl rfl rfl rfl rfl rfl ⟨rfl, rfl, rfl, rfl, rfl⟩ rfl rfl rfl rfl rfl (by kernel_rfl) Try.func4 (by kernel_rfl)
    (of_decide_eq_true (by kernel_rfl)) (by unfold Func.isWrapper; first | (rw [if_pos (by decide +kernel)]; kernel_rfl) | (rw [if_neg (by decide +kernel)]; exact ⟨rfl, rfl⟩))
    (fun os started H enc _ => sel_lifted os started H enc)
#print axioms sel_holds
end Go.Proofs.Qxb6630576a
