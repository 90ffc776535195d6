/-
  Seat b6630576a. THE WALK of the law FnMatchesOperatorsMeanWhatTheySay (4).
-/
import Derived.Test.Qxb6630576aBase
namespace Go.Proofs.Qxb6630576a
open Go.RowKit Go.Maps Go.ChangeMaps

theorem law : Keyed Try.prog 9 := string_keyed Try.underlying9
theorem zero9 (w : World) : (zeroValue 9).run Try.prog w = .ok (.string ⟨#[]⟩) w := by kernel_rfl
theorem key_of {s : ByteArray} (hs : s.size ≤ maxLen) : keyOf Try.prog 9 (.string s) = some (.string s.data.toList) := WideMaps.keyOf_string_mk Try.underlying9 hs

theorem matches_as (g : Nat) (key val : ByteArray) (ok : Bool) (op : Int) (hop : op = 0 ∨ op = 1 ∨ op = 2 ∨ op = 3 ∨ op = 4 ∨ op = 5) (ao : Option Addr) (n cap : Nat) (V : Nat → ByteArray) (mv : Value) (w : World) (r : Bool) (hr : means op ok (has V val n) = r) (hn : n ≤ 4096)
    (hc : g < w.heap.size ∧ w.cell? ⟨g, 0, none⟩ = some (.string key) ∧ w.cell? ⟨g, 1, none⟩ = some (.int .i64 op) ∧ w.cell? ⟨g, 2, none⟩ = some (.slice ao n cap))
    (hV : Row w ao n (fun i => .string (V i))) (hL : Looks w mv key val ok) :
    Calls Try.prog 7 #[.agg #[.slice (some ⟨g, 0, none⟩) 1 1], mv] w (SaysP w r) := by
  subst hr
  exact matches_any g key val ok op hop ao n cap V mv w hn hc.1 hc.2.1 hc.2.2.1 hc.2.2.2 hV hL

theorem row_nil (w : World) (V : Nat → Value) : Row w none 0 V := fun h => absurd h (by omega)
theorem row_one {w : World} {b o : Nat} {v : Value} (hb : b < w.heap.size) (h : w.cell? ⟨b, o, none⟩ = some v) : Row w (some ⟨b, o, none⟩) 1 (fun _ => v) := fun _ => ⟨b, o, rfl, hb, fun i hi => by
  obtain rfl : i = 0 := by omega
  exact h⟩

/-- 'map[string]string{key: v}'. -/
theorem own_made (wx : World) {key v : ByteArray} (hk : key.size ≤ maxLen) (hv : v.size ≤ maxLen) :
    ∃ w9, (Instr.mapUpdate 25 (.map (some wx.heap.size)) (.string key) (.string v)).run Try.prog (wx.alloc (.map #[] 0)) = .ok () w9 ∧ Looks w9 (.map (some wx.heap.size)) key v true ∧ Below wx.heap.size wx w9 := by
  obtain ⟨w9, hrun, hown, hg⟩ := (World.ownsMap_made (H := Unit) wx Try.prog 9 (plainElem Try.prog 9)).update law Try.underlying25 (by unfold maxLen; omega) (key_of hk) (plainElem_string Try.underlying9 hv)
  refine ⟨w9, hrun, fun w' hb => ?_, ((Below.refl _ _).alloc (Nat.le_refl _) _).grown hg (by simp) (fun k e => by cases e; exact Nat.le_refl _)⟩
  have hown' : w'.ownsMap Try.prog 9 (plainElem Try.prog 9) wx.heap.size (0 + 1) ((DataW.map (H := Unit) []).put (.string key.data.toList) (.lit (.string v.data.toList))) := by
    have hlt := hown.lt
    obtain ⟨es, clock, hbk, F1, hle, hD⟩ := hown
    exact ⟨es, clock, by rw [hb.block _ hlt]; exact hbk, F1, hle, hD⟩
  obtain ⟨v', ps, hrun', hv'⟩ := hown'.look_ok law Try.underlying25 (zero9 _) (plainElem_string Try.underlying9 (s := ⟨#[]⟩) (by decide)) (key_of hk)
  rw [Maps.has_put_same ⟨_, rfl⟩ (law.key (key_of hk))] at hrun'
  rw [atKey_put_same ⟨_, rfl⟩ (law.key (key_of hk))] at hv'
  obtain ⟨s, rfl, hs, _⟩ := plainElem_string_inv Try.underlying9 hv'
  have e : v.data = s.data := by
    have h2 : v.data = s.data ∧ ps = [] := by simpa using hs
    exact h2.1
  have e2 : v = s := by
    cases v; cases s
    simp only at e
    rw [e]
  rw [hrun', ← e2]

/-- What is known of the arguments. -/
structure Giv (w : World) (ao : Option Addr) (n cap : Nat) (V : Nat → ByteArray) (mv : Value) (key val : ByteArray) (ok : Bool) : Prop where
  row : Row w ao n (fun i => .string (V i))
  looks : Looks w mv key val ok
  sizes : ∀ i, i < n → (V i).size ≤ maxLen
  key : key.size ≤ maxLen
  val : val.size ≤ maxLen

theorem Giv.below {w w' : World} {ao : Option Addr} {n cap : Nat} {V : Nat → ByteArray} {mv : Value} {key val : ByteArray} {ok : Bool} (h : Giv w ao n cap V mv key val ok) (hb : Below w.heap.size w w') : Giv w' ao n cap V mv key val ok :=
  ⟨h.row.below hb, h.looks.below hb, h.sizes, h.key, h.val⟩

def LawP (w : World) (e : Ending) (w' : World) : Prop := e = .returned (.bool true) ∧ Below w.heap.size w w'


set_option maxRecDepth 10000 in
set_option maxHeartbeats 2000000 in
theorem law_false (key val : ByteArray) (b off n cap : Nat) (L : Int) (V : Nat → ByteArray) (mv : Value) (w : World) (hcap : n ≤ cap) (hpos : 0 < n)
    (hG : Giv w (some ⟨b, off, none⟩) n cap V mv key val false) (hbl : b < w.heap.size) (hlen : (Builtin.len_ #[25] 3 #[mv]).run Try.prog w = .ok (.int .i64 L) w) :
    Calls Try.prog 4 #[.string key, .slice (some ⟨b, off, none⟩) n cap, mv] w (LawP w) := by
  have HG : Hid (Giv w (some ⟨b, off, none⟩) n cap V mv key val false) := hG
  have HR : Hid (∀ i, i < n → w.cell? ⟨b, off + i, none⟩ = some (.string (V i))) := fun i hi => by
    obtain ⟨b', o', e, _, hc⟩ := hG.row hpos
    cases e
    exact hc i hi
  have H0 : Hid (Below w.heap.size w w) := Below.refl _ _
  clear hG
  have hlk : (Instr.lookup 25 mv (.string key) true).run Try.prog w = .ok (.tuple #[.string val, .bool false]) w := HG.out.looks w (Below.refl _ _)
  have hn0 : ((n : Int) == 0) = false := by simp; omega
  by_cases t0 : 4096 < n
  · go_enter Try.func4, Try.ntmps4
    go_wp2
    go_ret
    exact ⟨rfl, Below.refl _ _⟩
  by_cases t1 : 4096 < L
  · go_enter Try.func4, Try.ntmps4
    go_wp2
    go_ret
    exact ⟨rfl, Below.refl _ _⟩
  go_enter Try.func4, Try.ntmps4
  go_wp2
  all_goals first | (go_ret; exact ⟨rfl, Below.refl _ _⟩) | skip
  clear hlen
  go_loop [7, 8] (fun z v => ∃ (k : Nat) (s : Int), k ≤ n ∧ v = .int .i64 k ∧ z = .int .i64 s) (fun _ v => n - (intOf v).toNat)
  case atStart => exact ⟨0, _, Nat.zero_le _, rfl, rfl⟩
  case round =>
    obtain ⟨k, s, hk, rfl, rfl⟩ := hrel
    by_cases hlt : k < n
    · have hlt' : (k : Int) < (n : Int) := by omega
      have hk1 : (0 : Int) ≤ (k : Int) := by omega
      have d := HR.out k hlt
      clear hlk
      go_wp2
      all_goals first | (go_ret; exact ⟨rfl, Below.refl _ _⟩) | skip
      go_round
      case rel => exact ⟨k + 1, _, by omega, by go_num, rfl⟩
      case measure => simp [intOf]; omega
    · obtain rfl : k = n := by omega
      clear hlt hk
      go_wp2_with fail
      refine (req_any key 0 none 0 0 _).mono ?_
      rintro e wa1 ⟨g1, rfl, hg, c0, c1, c2, hb⟩
      have Ha1 : Hid (Below w.heap.size w wa1) := H0.out.trans (hb.mono H0.out.size)
      have hc : Hid (g1 < wa1.heap.size ∧ wa1.cell? ⟨g1, 0, none⟩ = some (.string key) ∧ wa1.cell? ⟨g1, 1, none⟩ = some (.int .i64 0) ∧ wa1.cell? ⟨g1, 2, none⟩ = some (.slice none 0 0)) := ⟨hg, c0, c1, c2⟩
      clear hg c0 c1 c2 hb
      go_wp2_with fail
      refine (matches_as g1 key val false 0 (by simp) none 0 0 V mv _ false (by simp [means]) (by omega) hc.out (row_nil _ _) (HG.out.below Ha1.out).looks).mono ?_
      rintro e wb1 ⟨rfl, hb⟩
      have Hb1 : Hid (Below w.heap.size w wb1) := Ha1.out.trans (hb.mono Ha1.out.size)
      clear hb hc Ha1
      go_wp2_with fail
      refine (req_any key 1 none 0 0 _).mono ?_
      rintro e wa2 ⟨g2, rfl, hg, c0, c1, c2, hb⟩
      have Ha2 : Hid (Below w.heap.size w wa2) := Hb1.out.trans (hb.mono Hb1.out.size)
      have hc : Hid (g2 < wa2.heap.size ∧ wa2.cell? ⟨g2, 0, none⟩ = some (.string key) ∧ wa2.cell? ⟨g2, 1, none⟩ = some (.int .i64 1) ∧ wa2.cell? ⟨g2, 2, none⟩ = some (.slice none 0 0)) := ⟨hg, c0, c1, c2⟩
      clear hg c0 c1 c2 hb
      go_wp2_with fail
      refine (matches_as g2 key val false 1 (by simp) none 0 0 V mv _ true (by simp [means]) (by omega) hc.out (row_nil _ _) (HG.out.below Ha2.out).looks).mono ?_
      rintro e wb2 ⟨rfl, hb⟩
      have Hb2 : Hid (Below w.heap.size w wb2) := Ha2.out.trans (hb.mono Ha2.out.size)
      clear hb hc Ha2
      go_wp2_with fail
      refine (req_any key 4 (some ⟨b, off, none⟩) k cap _).mono ?_
      rintro e wa3 ⟨g3, rfl, hg, c0, c1, c2, hb⟩
      have Ha3 : Hid (Below w.heap.size w wa3) := Hb2.out.trans (hb.mono Hb2.out.size)
      have hc : Hid (g3 < wa3.heap.size ∧ wa3.cell? ⟨g3, 0, none⟩ = some (.string key) ∧ wa3.cell? ⟨g3, 1, none⟩ = some (.int .i64 4) ∧ wa3.cell? ⟨g3, 2, none⟩ = some (.slice (some ⟨b, off, none⟩) k cap)) := ⟨hg, c0, c1, c2⟩
      clear hg c0 c1 c2 hb
      go_wp2_with fail
      refine (matches_as g3 key val false 4 (by simp) (some ⟨b, off, none⟩) k cap V mv _ false (by simp [means]) (by omega) hc.out (HG.out.below Ha3.out).row (HG.out.below Ha3.out).looks).mono ?_
      rintro e wb3 ⟨rfl, hb⟩
      have Hb3 : Hid (Below w.heap.size w wb3) := Ha3.out.trans (hb.mono Ha3.out.size)
      clear hb hc Ha3
      go_wp2_with fail
      refine (req_any key 5 (some ⟨b, off, none⟩) k cap _).mono ?_
      rintro e wa4 ⟨g4, rfl, hg, c0, c1, c2, hb⟩
      have Ha4 : Hid (Below w.heap.size w wa4) := Hb3.out.trans (hb.mono Hb3.out.size)
      have hc : Hid (g4 < wa4.heap.size ∧ wa4.cell? ⟨g4, 0, none⟩ = some (.string key) ∧ wa4.cell? ⟨g4, 1, none⟩ = some (.int .i64 5) ∧ wa4.cell? ⟨g4, 2, none⟩ = some (.slice (some ⟨b, off, none⟩) k cap)) := ⟨hg, c0, c1, c2⟩
      clear hg c0 c1 c2 hb
      go_wp2_with fail
      refine (matches_as g4 key val false 5 (by simp) (some ⟨b, off, none⟩) k cap V mv _ true (by simp [means]) (by omega) hc.out (HG.out.below Ha4.out).row (HG.out.below Ha4.out).looks).mono ?_
      rintro e wb4 ⟨rfl, hb⟩
      have Hb4 : Hid (Below w.heap.size w wb4) := Ha4.out.trans (hb.mono Ha4.out.size)
      clear hb hc Ha4
      go_wp2
      clear hlk
      go_loopw [15, 16, 17] (fun a c v wr => ∃ j : Nat, j ≤ k ∧ v = .int .i64 j ∧ a = .bool false ∧ c = .bool true ∧ Hid (Below w.heap.size w wr)) (fun _ _ v _ => k - (intOf v).toNat)
      case atStart => exact ⟨0, Nat.zero_le _, rfl, rfl, rfl, Hb4⟩
      case round =>
        clear Hb4
        obtain ⟨j, hj, rfl, rfl, rfl, hW⟩ := hrel
        by_cases hlt : j < k
        · have hlt' : (j : Int) < (k : Int) := by omega
          have hj1 : (0 : Int) ≤ (j : Int) := by omega
          have hjc : (j : Int) + 1 ≤ (cap : Int) := by omega
          have HD : Hid (∀ wx, Below w.heap.size w wx → wx.cell? ⟨b, off + j, none⟩ = some (.string (V j))) := fun wx h => (h.cell hbl).trans (HR.out j hlt)
          have HONE : Hid (∀ wx, Below w.heap.size w wx → Row wx (some ⟨b, off + j, none⟩) 1 (fun i => .string ((fun _ => V j) i))) := fun wx h => row_one (Nat.lt_of_lt_of_le hbl h.size) (HD.out wx h)
          go_wp2_with fail
          refine (req_any key 2 (some ⟨b, off + j, none⟩) 1 (cap - j) _).mono ?_
          rintro e wa5 ⟨g5, rfl, hg, c0, c1, c2, hb⟩
          have Ha5 : Hid (Below w.heap.size w wa5) := hW.out.trans (hb.mono hW.out.size)
          have hc : Hid (g5 < wa5.heap.size ∧ wa5.cell? ⟨g5, 0, none⟩ = some (.string key) ∧ wa5.cell? ⟨g5, 1, none⟩ = some (.int .i64 2) ∧ wa5.cell? ⟨g5, 2, none⟩ = some (.slice (some ⟨b, off + j, none⟩) 1 (cap - j))) := ⟨hg, c0, c1, c2⟩
          clear hg c0 c1 c2 hb
          go_wp2_with fail
          refine (matches_as g5 key val false 2 (by simp) (some ⟨b, off + j, none⟩) 1 (cap - j) (fun _ => V j) mv _ false (by simp [means]) (by omega) hc.out (HONE.out _ Ha5.out) (HG.out.below Ha5.out).looks).mono ?_
          rintro e wb5 ⟨rfl, hb⟩
          have Hb5 : Hid (Below w.heap.size w wb5) := Ha5.out.trans (hb.mono Ha5.out.size)
          clear hb hc Ha5
          go_wp2_with fail
          refine (req_any key 3 (some ⟨b, off + j, none⟩) 1 (cap - j) _).mono ?_
          rintro e wa6 ⟨g6, rfl, hg, c0, c1, c2, hb⟩
          have Ha6 : Hid (Below w.heap.size w wa6) := Hb5.out.trans (hb.mono Hb5.out.size)
          have hc : Hid (g6 < wa6.heap.size ∧ wa6.cell? ⟨g6, 0, none⟩ = some (.string key) ∧ wa6.cell? ⟨g6, 1, none⟩ = some (.int .i64 3) ∧ wa6.cell? ⟨g6, 2, none⟩ = some (.slice (some ⟨b, off + j, none⟩) 1 (cap - j))) := ⟨hg, c0, c1, c2⟩
          clear hg c0 c1 c2 hb
          go_wp2_with fail
          refine (matches_as g6 key val false 3 (by simp) (some ⟨b, off + j, none⟩) 1 (cap - j) (fun _ => V j) mv _ true (by simp [means]) (by omega) hc.out (HONE.out _ Ha6.out) (HG.out.below Ha6.out).looks).mono ?_
          rintro e wb6 ⟨rfl, hb⟩
          have Hb6 : Hid (Below w.heap.size w wb6) := Ha6.out.trans (hb.mono Ha6.out.size)
          clear hb hc Ha6
          obtain ⟨w9, hrun9, L9, hb9⟩ := own_made wb6 HG.out.key (HG.out.sizes j hlt)
          have H9 : Hid (Below w.heap.size w w9) := Hb6.out.trans (hb9.mono Hb6.out.size)
          have L9' : Hid (Looks w9 (.map (some wb6.heap.size)) key (V j) true) := L9
          have d9 : wb6.cell? ⟨b, off + j, none⟩ = some (.string (V j)) := HD.out _ Hb6.out
          have hbl9 : b < wb6.heap.size := Nat.lt_of_lt_of_le hbl Hb6.out.size
          have hmm := @run_makeMap Try.prog
          clear L9 hb9
          go_wp2_with fail
          refine (req_any key 2 (some ⟨b, off + j, none⟩) 1 (cap - j) _).mono ?_
          rintro e wa7 ⟨g7, rfl, hg, c0, c1, c2, hb⟩
          have Ha7 : Hid (Below w.heap.size w wa7) := H9.out.trans (hb.mono H9.out.size)
          have hc : Hid (g7 < wa7.heap.size ∧ wa7.cell? ⟨g7, 0, none⟩ = some (.string key) ∧ wa7.cell? ⟨g7, 1, none⟩ = some (.int .i64 2) ∧ wa7.cell? ⟨g7, 2, none⟩ = some (.slice (some ⟨b, off + j, none⟩) 1 (cap - j))) := ⟨hg, c0, c1, c2⟩
          have La7 : Hid (Looks wa7 (.map (some wb6.heap.size)) key (V j) true) := L9'.out.below hb
          clear hg c0 c1 c2 hb
          go_wp2_with fail
          refine (matches_as g7 key (V j) true 2 (by simp) (some ⟨b, off + j, none⟩) 1 (cap - j) (fun _ => V j) (.map (some wb6.heap.size)) _ true (by simp [means, has]) (by omega) hc.out (HONE.out _ Ha7.out) La7.out).mono ?_
          rintro e wb7 ⟨rfl, hb⟩
          have Hb7 : Hid (Below w.heap.size w wb7) := Ha7.out.trans (hb.mono Ha7.out.size)
          have Lb7 : Hid (Looks wb7 (.map (some wb6.heap.size)) key (V j) true) := La7.out.below hb
          clear La7
          clear hb hc Ha7
          clear hrun9 d9 hmm
          go_wp2_with fail
          refine (req_any key 4 (some ⟨b, off, none⟩) k cap _).mono ?_
          rintro e wa8 ⟨g8, rfl, hg, c0, c1, c2, hb⟩
          have Ha8 : Hid (Below w.heap.size w wa8) := Hb7.out.trans (hb.mono Hb7.out.size)
          have hc : Hid (g8 < wa8.heap.size ∧ wa8.cell? ⟨g8, 0, none⟩ = some (.string key) ∧ wa8.cell? ⟨g8, 1, none⟩ = some (.int .i64 4) ∧ wa8.cell? ⟨g8, 2, none⟩ = some (.slice (some ⟨b, off, none⟩) k cap)) := ⟨hg, c0, c1, c2⟩
          have La8 : Hid (Looks wa8 (.map (some wb6.heap.size)) key (V j) true) := Lb7.out.below hb
          clear hg c0 c1 c2 hb
          go_wp2_with fail
          refine (matches_as g8 key (V j) true 4 (by simp) (some ⟨b, off, none⟩) k cap V (.map (some wb6.heap.size)) _ true (by simp [means, has_of (V := V) (s := V j) (j := j) (by simp) k hlt]) (by omega) hc.out (HG.out.below Ha8.out).row La8.out).mono ?_
          rintro e wb8 ⟨rfl, hb⟩
          have Hb8 : Hid (Below w.heap.size w wb8) := Ha8.out.trans (hb.mono Ha8.out.size)
          have Lb8 : Hid (Looks wb8 (.map (some wb6.heap.size)) key (V j) true) := La8.out.below hb
          clear La8
          clear hb hc Ha8
          go_wp2_with fail
          refine (req_any key 5 (some ⟨b, off, none⟩) k cap _).mono ?_
          rintro e wa9 ⟨g9, rfl, hg, c0, c1, c2, hb⟩
          have Ha9 : Hid (Below w.heap.size w wa9) := Hb8.out.trans (hb.mono Hb8.out.size)
          have hc : Hid (g9 < wa9.heap.size ∧ wa9.cell? ⟨g9, 0, none⟩ = some (.string key) ∧ wa9.cell? ⟨g9, 1, none⟩ = some (.int .i64 5) ∧ wa9.cell? ⟨g9, 2, none⟩ = some (.slice (some ⟨b, off, none⟩) k cap)) := ⟨hg, c0, c1, c2⟩
          have La9 : Hid (Looks wa9 (.map (some wb6.heap.size)) key (V j) true) := Lb8.out.below hb
          clear hg c0 c1 c2 hb
          go_wp2_with fail
          refine (matches_as g9 key (V j) true 5 (by simp) (some ⟨b, off, none⟩) k cap V (.map (some wb6.heap.size)) _ false (by simp [means, has_of (V := V) (s := V j) (j := j) (by simp) k hlt]) (by omega) hc.out (HG.out.below Ha9.out).row La9.out).mono ?_
          rintro e wb9 ⟨rfl, hb⟩
          have Hb9 : Hid (Below w.heap.size w wb9) := Ha9.out.trans (hb.mono Ha9.out.size)
          have Lb9 : Hid (Looks wb9 (.map (some wb6.heap.size)) key (V j) true) := La9.out.below hb
          clear La9
          clear hb hc Ha9
          go_wp2_with fail
          refine (req_any key 1 none 0 0 _).mono ?_
          rintro e wa10 ⟨g10, rfl, hg, c0, c1, c2, hb⟩
          have Ha10 : Hid (Below w.heap.size w wa10) := Hb9.out.trans (hb.mono Hb9.out.size)
          have hc : Hid (g10 < wa10.heap.size ∧ wa10.cell? ⟨g10, 0, none⟩ = some (.string key) ∧ wa10.cell? ⟨g10, 1, none⟩ = some (.int .i64 1) ∧ wa10.cell? ⟨g10, 2, none⟩ = some (.slice none 0 0)) := ⟨hg, c0, c1, c2⟩
          have La10 : Hid (Looks wa10 (.map (some wb6.heap.size)) key (V j) true) := Lb9.out.below hb
          clear hg c0 c1 c2 hb
          go_wp2_with fail
          refine (matches_as g10 key (V j) true 1 (by simp) none 0 0 V (.map (some wb6.heap.size)) _ false (by simp [means]) (by omega) hc.out (row_nil _ _) La10.out).mono ?_
          rintro e wb10 ⟨rfl, hb⟩
          have Hb10 : Hid (Below w.heap.size w wb10) := Ha10.out.trans (hb.mono Ha10.out.size)
          have Lb10 : Hid (Looks wb10 (.map (some wb6.heap.size)) key (V j) true) := La10.out.below hb
          clear La10
          clear hb hc Ha10
          go_wp2
          go_roundw
          case rel => exact ⟨j + 1, by omega, by go_num, rfl, rfl, Hb10⟩
          case measure => simp [intOf]; omega
        · go_wp2
          go_ret
          exact ⟨rfl, hW.out⟩

set_option maxRecDepth 10000 in
set_option maxHeartbeats 2000000 in
theorem law_true (key val : ByteArray) (b off n cap : Nat) (L : Int) (V : Nat → ByteArray) (mv : Value) (w : World) (hcap : n ≤ cap) (hpos : 0 < n)
    (hG : Giv w (some ⟨b, off, none⟩) n cap V mv key val true) (hbl : b < w.heap.size) (hlen : (Builtin.len_ #[25] 3 #[mv]).run Try.prog w = .ok (.int .i64 L) w) :
    Calls Try.prog 4 #[.string key, .slice (some ⟨b, off, none⟩) n cap, mv] w (LawP w) := by
  have HG : Hid (Giv w (some ⟨b, off, none⟩) n cap V mv key val true) := hG
  have HR : Hid (∀ i, i < n → w.cell? ⟨b, off + i, none⟩ = some (.string (V i))) := fun i hi => by
    obtain ⟨b', o', e, _, hc⟩ := hG.row hpos
    cases e
    exact hc i hi
  have H0 : Hid (Below w.heap.size w w) := Below.refl _ _
  clear hG
  have hlk : (Instr.lookup 25 mv (.string key) true).run Try.prog w = .ok (.tuple #[.string val, .bool true]) w := HG.out.looks w (Below.refl _ _)
  have hn0 : ((n : Int) == 0) = false := by simp; omega
  by_cases t0 : 4096 < n
  · go_enter Try.func4, Try.ntmps4
    go_wp2
    go_ret
    exact ⟨rfl, Below.refl _ _⟩
  by_cases t1 : 4096 < L
  · go_enter Try.func4, Try.ntmps4
    go_wp2
    go_ret
    exact ⟨rfl, Below.refl _ _⟩
  go_enter Try.func4, Try.ntmps4
  go_wp2
  all_goals first | (go_ret; exact ⟨rfl, Below.refl _ _⟩) | skip
  clear hlen
  go_loop [7, 8] (fun z v => ∃ (k : Nat) (s : Int), k ≤ n ∧ v = .int .i64 k ∧ z = .int .i64 s) (fun _ v => n - (intOf v).toNat)
  case atStart => exact ⟨0, _, Nat.zero_le _, rfl, rfl⟩
  case round =>
    obtain ⟨k, s, hk, rfl, rfl⟩ := hrel
    by_cases hlt : k < n
    · have hlt' : (k : Int) < (n : Int) := by omega
      have hk1 : (0 : Int) ≤ (k : Int) := by omega
      have d := HR.out k hlt
      clear hlk
      go_wp2
      all_goals first | (go_ret; exact ⟨rfl, Below.refl _ _⟩) | skip
      go_round
      case rel => exact ⟨k + 1, _, by omega, by go_num, rfl⟩
      case measure => simp [intOf]; omega
    · obtain rfl : k = n := by omega
      clear hlt hk
      go_wp2_with fail
      refine (req_any key 0 none 0 0 _).mono ?_
      rintro e wa1 ⟨g1, rfl, hg, c0, c1, c2, hb⟩
      have Ha1 : Hid (Below w.heap.size w wa1) := H0.out.trans (hb.mono H0.out.size)
      have hc : Hid (g1 < wa1.heap.size ∧ wa1.cell? ⟨g1, 0, none⟩ = some (.string key) ∧ wa1.cell? ⟨g1, 1, none⟩ = some (.int .i64 0) ∧ wa1.cell? ⟨g1, 2, none⟩ = some (.slice none 0 0)) := ⟨hg, c0, c1, c2⟩
      clear hg c0 c1 c2 hb
      go_wp2_with fail
      refine (matches_as g1 key val true 0 (by simp) none 0 0 V mv _ true (by simp [means]) (by omega) hc.out (row_nil _ _) (HG.out.below Ha1.out).looks).mono ?_
      rintro e wb1 ⟨rfl, hb⟩
      have Hb1 : Hid (Below w.heap.size w wb1) := Ha1.out.trans (hb.mono Ha1.out.size)
      clear hb hc Ha1
      go_wp2_with fail
      refine (req_any key 1 none 0 0 _).mono ?_
      rintro e wa2 ⟨g2, rfl, hg, c0, c1, c2, hb⟩
      have Ha2 : Hid (Below w.heap.size w wa2) := Hb1.out.trans (hb.mono Hb1.out.size)
      have hc : Hid (g2 < wa2.heap.size ∧ wa2.cell? ⟨g2, 0, none⟩ = some (.string key) ∧ wa2.cell? ⟨g2, 1, none⟩ = some (.int .i64 1) ∧ wa2.cell? ⟨g2, 2, none⟩ = some (.slice none 0 0)) := ⟨hg, c0, c1, c2⟩
      clear hg c0 c1 c2 hb
      go_wp2_with fail
      refine (matches_as g2 key val true 1 (by simp) none 0 0 V mv _ false (by simp [means]) (by omega) hc.out (row_nil _ _) (HG.out.below Ha2.out).looks).mono ?_
      rintro e wb2 ⟨rfl, hb⟩
      have Hb2 : Hid (Below w.heap.size w wb2) := Ha2.out.trans (hb.mono Ha2.out.size)
      clear hb hc Ha2
      have HA : Hid (Below w.heap.size w (wb2.alloc (.cells #[.string val] 9))) := Hb2.out.alloc Hb2.out.size _
      have HAr : Hid (Row (wb2.alloc (.cells #[.string val] 9)) (some ⟨wb2.heap.size, 0, none⟩) 1 (fun i => .string ((fun _ => val) i))) := row_one (by simp) (World.cell?_alloc_new _ _ _ _)
      go_wp2_with fail
      refine (req_any key 2 (some ⟨wb2.heap.size, 0, none⟩) 1 1 _).mono ?_
      rintro e wa3 ⟨g3, rfl, hg, c0, c1, c2, hb⟩
      have Ha3 : Hid (Below w.heap.size w wa3) := HA.out.trans (hb.mono HA.out.size)
      have hc : Hid (g3 < wa3.heap.size ∧ wa3.cell? ⟨g3, 0, none⟩ = some (.string key) ∧ wa3.cell? ⟨g3, 1, none⟩ = some (.int .i64 2) ∧ wa3.cell? ⟨g3, 2, none⟩ = some (.slice (some ⟨wb2.heap.size, 0, none⟩) 1 1)) := ⟨hg, c0, c1, c2⟩
      have hrow1 : Hid (Row wa3 (some ⟨wb2.heap.size, 0, none⟩) 1 (fun i => .string ((fun _ => val) i))) := HAr.out.below hb
      clear hg c0 c1 c2 hb
      go_wp2_with fail
      refine (matches_as g3 key val true 2 (by simp) (some ⟨wb2.heap.size, 0, none⟩) 1 1 (fun _ => val) mv _ true (by simp [means, has]) (by omega) hc.out hrow1.out (HG.out.below Ha3.out).looks).mono ?_
      rintro e wb3 ⟨rfl, hb⟩
      have Hb3 : Hid (Below w.heap.size w wb3) := Ha3.out.trans (hb.mono Ha3.out.size)
      clear hb hc Ha3
      clear HA HAr
      obtain ⟨X, hX⟩ : ∃ X, X = has V val k := ⟨_, rfl⟩
      have HX : Hid (X = has V val k) := hX
      clear hX
      go_wp2_with fail
      refine (req_any key 4 (some ⟨b, off, none⟩) k cap _).mono ?_
      rintro e wa4 ⟨g4, rfl, hg, c0, c1, c2, hb⟩
      have Ha4 : Hid (Below w.heap.size w wa4) := Hb3.out.trans (hb.mono Hb3.out.size)
      have hc : Hid (g4 < wa4.heap.size ∧ wa4.cell? ⟨g4, 0, none⟩ = some (.string key) ∧ wa4.cell? ⟨g4, 1, none⟩ = some (.int .i64 4) ∧ wa4.cell? ⟨g4, 2, none⟩ = some (.slice (some ⟨b, off, none⟩) k cap)) := ⟨hg, c0, c1, c2⟩
      clear hg c0 c1 c2 hb
      go_wp2_with fail
      refine (matches_as g4 key val true 4 (by simp) (some ⟨b, off, none⟩) k cap V mv _ X (by rw [HX.out]; simp [means]) (by omega) hc.out (HG.out.below Ha4.out).row (HG.out.below Ha4.out).looks).mono ?_
      rintro e wb4 ⟨rfl, hb⟩
      have Hb4 : Hid (Below w.heap.size w wb4) := Ha4.out.trans (hb.mono Ha4.out.size)
      clear hb hc Ha4
      go_wp2_with fail
      refine (req_any key 5 (some ⟨b, off, none⟩) k cap _).mono ?_
      rintro e wa5 ⟨g5, rfl, hg, c0, c1, c2, hb⟩
      have Ha5 : Hid (Below w.heap.size w wa5) := Hb4.out.trans (hb.mono Hb4.out.size)
      have hc : Hid (g5 < wa5.heap.size ∧ wa5.cell? ⟨g5, 0, none⟩ = some (.string key) ∧ wa5.cell? ⟨g5, 1, none⟩ = some (.int .i64 5) ∧ wa5.cell? ⟨g5, 2, none⟩ = some (.slice (some ⟨b, off, none⟩) k cap)) := ⟨hg, c0, c1, c2⟩
      clear hg c0 c1 c2 hb
      go_wp2_with fail
      refine (matches_as g5 key val true 5 (by simp) (some ⟨b, off, none⟩) k cap V mv _ (!X) (by rw [HX.out]; simp [means]) (by omega) hc.out (HG.out.below Ha5.out).row (HG.out.below Ha5.out).looks).mono ?_
      rintro e wb5 ⟨rfl, hb⟩
      have Hb5 : Hid (Below w.heap.size w wb5) := Ha5.out.trans (hb.mono Ha5.out.size)
      clear hb hc Ha5
      have hXX : (X == !X) = false := by cases X <;> rfl
      go_wp2
      clear hlk
      go_loopw [15, 16, 17] (fun a c v wr => ∃ j : Nat, j ≤ k ∧ v = .int .i64 j ∧ a = .bool (has V val j) ∧ c = .bool (!has V val j) ∧ Hid (Below w.heap.size w wr)) (fun _ _ v _ => k - (intOf v).toNat)
      case atStart => exact ⟨0, Nat.zero_le _, rfl, rfl, rfl, Hb5⟩
      case round =>
        clear Hb5
        obtain ⟨j, hj, rfl, rfl, rfl, hW⟩ := hrel
        by_cases hlt : j < k
        · have hlt' : (j : Int) < (k : Int) := by omega
          have hj1 : (0 : Int) ≤ (j : Int) := by omega
          have hjc : (j : Int) + 1 ≤ (cap : Int) := by omega
          have HD : Hid (∀ wx, Below w.heap.size w wx → wx.cell? ⟨b, off + j, none⟩ = some (.string (V j))) := fun wx h => (h.cell hbl).trans (HR.out j hlt)
          have HONE : Hid (∀ wx, Below w.heap.size w wx → Row wx (some ⟨b, off + j, none⟩) 1 (fun i => .string ((fun _ => V j) i))) := fun wx h => row_one (Nat.lt_of_lt_of_le hbl h.size) (HD.out wx h)
          obtain ⟨x, hx⟩ : ∃ x, x = has V val j := ⟨_, rfl⟩
          rw [← hx]
          have Hx : Hid (x = has V val j) := hx
          clear hx
          by_cases he : ((V j).toList == val.toList) = true
          · have HN : Hid (has V val (j + 1) = true) := has_of he _ (by omega)
            have He : Hid (((V j).toList == val.toList) = true) := he
            clear he
            go_wp2_with fail
            refine (req_any key 2 (some ⟨b, off + j, none⟩) 1 (cap - j) _).mono ?_
            rintro e wa6 ⟨g6, rfl, hg, c0, c1, c2, hb⟩
            have Ha6 : Hid (Below w.heap.size w wa6) := hW.out.trans (hb.mono hW.out.size)
            have hc : Hid (g6 < wa6.heap.size ∧ wa6.cell? ⟨g6, 0, none⟩ = some (.string key) ∧ wa6.cell? ⟨g6, 1, none⟩ = some (.int .i64 2) ∧ wa6.cell? ⟨g6, 2, none⟩ = some (.slice (some ⟨b, off + j, none⟩) 1 (cap - j))) := ⟨hg, c0, c1, c2⟩
            clear hg c0 c1 c2 hb
            go_wp2_with fail
            refine (matches_as g6 key val true 2 (by simp) (some ⟨b, off + j, none⟩) 1 (cap - j) (fun _ => V j) mv _ true (by simp only [means, has, He.out]; rfl) (by omega) hc.out (HONE.out _ Ha6.out) (HG.out.below Ha6.out).looks).mono ?_
            rintro e wb6 ⟨rfl, hb⟩
            have Hb6 : Hid (Below w.heap.size w wb6) := Ha6.out.trans (hb.mono Ha6.out.size)
            clear hb hc Ha6
            go_wp2_with fail
            refine (req_any key 3 (some ⟨b, off + j, none⟩) 1 (cap - j) _).mono ?_
            rintro e wa7 ⟨g7, rfl, hg, c0, c1, c2, hb⟩
            have Ha7 : Hid (Below w.heap.size w wa7) := Hb6.out.trans (hb.mono Hb6.out.size)
            have hc : Hid (g7 < wa7.heap.size ∧ wa7.cell? ⟨g7, 0, none⟩ = some (.string key) ∧ wa7.cell? ⟨g7, 1, none⟩ = some (.int .i64 3) ∧ wa7.cell? ⟨g7, 2, none⟩ = some (.slice (some ⟨b, off + j, none⟩) 1 (cap - j))) := ⟨hg, c0, c1, c2⟩
            clear hg c0 c1 c2 hb
            go_wp2_with fail
            refine (matches_as g7 key val true 3 (by simp) (some ⟨b, off + j, none⟩) 1 (cap - j) (fun _ => V j) mv _ false (by simp only [means, has, He.out]; rfl) (by omega) hc.out (HONE.out _ Ha7.out) (HG.out.below Ha7.out).looks).mono ?_
            rintro e wb7 ⟨rfl, hb⟩
            have Hb7 : Hid (Below w.heap.size w wb7) := Ha7.out.trans (hb.mono Ha7.out.size)
            clear hb hc Ha7
            obtain ⟨w9, hrun9, L9, hb9⟩ := own_made wb7 HG.out.key (HG.out.sizes j hlt)
            have H9 : Hid (Below w.heap.size w w9) := Hb7.out.trans (hb9.mono Hb7.out.size)
            have L9' : Hid (Looks w9 (.map (some wb7.heap.size)) key (V j) true) := L9
            have d9 : wb7.cell? ⟨b, off + j, none⟩ = some (.string (V j)) := HD.out _ Hb7.out
            have hbl9 : b < wb7.heap.size := Nat.lt_of_lt_of_le hbl Hb7.out.size
            have hmm := @run_makeMap Try.prog
            clear L9 hb9
            go_wp2_with fail
            refine (req_any key 2 (some ⟨b, off + j, none⟩) 1 (cap - j) _).mono ?_
            rintro e wa8 ⟨g8, rfl, hg, c0, c1, c2, hb⟩
            have Ha8 : Hid (Below w.heap.size w wa8) := H9.out.trans (hb.mono H9.out.size)
            have hc : Hid (g8 < wa8.heap.size ∧ wa8.cell? ⟨g8, 0, none⟩ = some (.string key) ∧ wa8.cell? ⟨g8, 1, none⟩ = some (.int .i64 2) ∧ wa8.cell? ⟨g8, 2, none⟩ = some (.slice (some ⟨b, off + j, none⟩) 1 (cap - j))) := ⟨hg, c0, c1, c2⟩
            have La8 : Hid (Looks wa8 (.map (some wb7.heap.size)) key (V j) true) := L9'.out.below hb
            clear hg c0 c1 c2 hb
            go_wp2_with fail
            refine (matches_as g8 key (V j) true 2 (by simp) (some ⟨b, off + j, none⟩) 1 (cap - j) (fun _ => V j) (.map (some wb7.heap.size)) _ true (by simp [means, has]) (by omega) hc.out (HONE.out _ Ha8.out) La8.out).mono ?_
            rintro e wb8 ⟨rfl, hb⟩
            have Hb8 : Hid (Below w.heap.size w wb8) := Ha8.out.trans (hb.mono Ha8.out.size)
            have Lb8 : Hid (Looks wb8 (.map (some wb7.heap.size)) key (V j) true) := La8.out.below hb
            clear La8
            clear hb hc Ha8
            clear hrun9 d9 hmm
            go_wp2_with fail
            refine (req_any key 4 (some ⟨b, off, none⟩) k cap _).mono ?_
            rintro e wa9 ⟨g9, rfl, hg, c0, c1, c2, hb⟩
            have Ha9 : Hid (Below w.heap.size w wa9) := Hb8.out.trans (hb.mono Hb8.out.size)
            have hc : Hid (g9 < wa9.heap.size ∧ wa9.cell? ⟨g9, 0, none⟩ = some (.string key) ∧ wa9.cell? ⟨g9, 1, none⟩ = some (.int .i64 4) ∧ wa9.cell? ⟨g9, 2, none⟩ = some (.slice (some ⟨b, off, none⟩) k cap)) := ⟨hg, c0, c1, c2⟩
            have La9 : Hid (Looks wa9 (.map (some wb7.heap.size)) key (V j) true) := Lb8.out.below hb
            clear hg c0 c1 c2 hb
            go_wp2_with fail
            refine (matches_as g9 key (V j) true 4 (by simp) (some ⟨b, off, none⟩) k cap V (.map (some wb7.heap.size)) _ true (by simp [means, has_of (V := V) (s := V j) (j := j) (by simp) k hlt]) (by omega) hc.out (HG.out.below Ha9.out).row La9.out).mono ?_
            rintro e wb9 ⟨rfl, hb⟩
            have Hb9 : Hid (Below w.heap.size w wb9) := Ha9.out.trans (hb.mono Ha9.out.size)
            have Lb9 : Hid (Looks wb9 (.map (some wb7.heap.size)) key (V j) true) := La9.out.below hb
            clear La9
            clear hb hc Ha9
            go_wp2_with fail
            refine (req_any key 5 (some ⟨b, off, none⟩) k cap _).mono ?_
            rintro e wa10 ⟨g10, rfl, hg, c0, c1, c2, hb⟩
            have Ha10 : Hid (Below w.heap.size w wa10) := Hb9.out.trans (hb.mono Hb9.out.size)
            have hc : Hid (g10 < wa10.heap.size ∧ wa10.cell? ⟨g10, 0, none⟩ = some (.string key) ∧ wa10.cell? ⟨g10, 1, none⟩ = some (.int .i64 5) ∧ wa10.cell? ⟨g10, 2, none⟩ = some (.slice (some ⟨b, off, none⟩) k cap)) := ⟨hg, c0, c1, c2⟩
            have La10 : Hid (Looks wa10 (.map (some wb7.heap.size)) key (V j) true) := Lb9.out.below hb
            clear hg c0 c1 c2 hb
            go_wp2_with fail
            refine (matches_as g10 key (V j) true 5 (by simp) (some ⟨b, off, none⟩) k cap V (.map (some wb7.heap.size)) _ false (by simp [means, has_of (V := V) (s := V j) (j := j) (by simp) k hlt]) (by omega) hc.out (HG.out.below Ha10.out).row La10.out).mono ?_
            rintro e wb10 ⟨rfl, hb⟩
            have Hb10 : Hid (Below w.heap.size w wb10) := Ha10.out.trans (hb.mono Ha10.out.size)
            have Lb10 : Hid (Looks wb10 (.map (some wb7.heap.size)) key (V j) true) := La10.out.below hb
            clear La10
            clear hb hc Ha10
            go_wp2_with fail
            refine (req_any key 1 none 0 0 _).mono ?_
            rintro e wa11 ⟨g11, rfl, hg, c0, c1, c2, hb⟩
            have Ha11 : Hid (Below w.heap.size w wa11) := Hb10.out.trans (hb.mono Hb10.out.size)
            have hc : Hid (g11 < wa11.heap.size ∧ wa11.cell? ⟨g11, 0, none⟩ = some (.string key) ∧ wa11.cell? ⟨g11, 1, none⟩ = some (.int .i64 1) ∧ wa11.cell? ⟨g11, 2, none⟩ = some (.slice none 0 0)) := ⟨hg, c0, c1, c2⟩
            have La11 : Hid (Looks wa11 (.map (some wb7.heap.size)) key (V j) true) := Lb10.out.below hb
            clear hg c0 c1 c2 hb
            go_wp2_with fail
            refine (matches_as g11 key (V j) true 1 (by simp) none 0 0 V (.map (some wb7.heap.size)) _ false (by simp [means]) (by omega) hc.out (row_nil _ _) La11.out).mono ?_
            rintro e wb11 ⟨rfl, hb⟩
            have Hb11 : Hid (Below w.heap.size w wb11) := Ha11.out.trans (hb.mono Ha11.out.size)
            have Lb11 : Hid (Looks wb11 (.map (some wb7.heap.size)) key (V j) true) := La11.out.below hb
            clear La11
            clear hb hc Ha11
            go_wp2
            go_roundw
            case rel => exact ⟨j + 1, by omega, by go_num, by rw [HN.out], by rw [HN.out]; rfl, Hb11⟩
            case measure => simp [intOf]; omega
          · have he' : ((V j).toList == val.toList) = false := by simpa using he
            have HN : Hid (x = has V val (j + 1)) := by rw [Hx.out]; simp only [has, he', Bool.or_false]; trivial
            have He : Hid (((V j).toList == val.toList) = false) := he'
            clear he he'
            go_wp2_with fail
            refine (req_any key 2 (some ⟨b, off + j, none⟩) 1 (cap - j) _).mono ?_
            rintro e wa12 ⟨g12, rfl, hg, c0, c1, c2, hb⟩
            have Ha12 : Hid (Below w.heap.size w wa12) := hW.out.trans (hb.mono hW.out.size)
            have hc : Hid (g12 < wa12.heap.size ∧ wa12.cell? ⟨g12, 0, none⟩ = some (.string key) ∧ wa12.cell? ⟨g12, 1, none⟩ = some (.int .i64 2) ∧ wa12.cell? ⟨g12, 2, none⟩ = some (.slice (some ⟨b, off + j, none⟩) 1 (cap - j))) := ⟨hg, c0, c1, c2⟩
            clear hg c0 c1 c2 hb
            go_wp2_with fail
            refine (matches_as g12 key val true 2 (by simp) (some ⟨b, off + j, none⟩) 1 (cap - j) (fun _ => V j) mv _ false (by simp only [means, has, He.out]; rfl) (by omega) hc.out (HONE.out _ Ha12.out) (HG.out.below Ha12.out).looks).mono ?_
            rintro e wb12 ⟨rfl, hb⟩
            have Hb12 : Hid (Below w.heap.size w wb12) := Ha12.out.trans (hb.mono Ha12.out.size)
            clear hb hc Ha12
            go_wp2_with fail
            refine (req_any key 3 (some ⟨b, off + j, none⟩) 1 (cap - j) _).mono ?_
            rintro e wa13 ⟨g13, rfl, hg, c0, c1, c2, hb⟩
            have Ha13 : Hid (Below w.heap.size w wa13) := Hb12.out.trans (hb.mono Hb12.out.size)
            have hc : Hid (g13 < wa13.heap.size ∧ wa13.cell? ⟨g13, 0, none⟩ = some (.string key) ∧ wa13.cell? ⟨g13, 1, none⟩ = some (.int .i64 3) ∧ wa13.cell? ⟨g13, 2, none⟩ = some (.slice (some ⟨b, off + j, none⟩) 1 (cap - j))) := ⟨hg, c0, c1, c2⟩
            clear hg c0 c1 c2 hb
            go_wp2_with fail
            refine (matches_as g13 key val true 3 (by simp) (some ⟨b, off + j, none⟩) 1 (cap - j) (fun _ => V j) mv _ true (by simp only [means, has, He.out]; rfl) (by omega) hc.out (HONE.out _ Ha13.out) (HG.out.below Ha13.out).looks).mono ?_
            rintro e wb13 ⟨rfl, hb⟩
            have Hb13 : Hid (Below w.heap.size w wb13) := Ha13.out.trans (hb.mono Ha13.out.size)
            clear hb hc Ha13
            obtain ⟨w9, hrun9, L9, hb9⟩ := own_made wb13 HG.out.key (HG.out.sizes j hlt)
            have H9 : Hid (Below w.heap.size w w9) := Hb13.out.trans (hb9.mono Hb13.out.size)
            have L9' : Hid (Looks w9 (.map (some wb13.heap.size)) key (V j) true) := L9
            have d9 : wb13.cell? ⟨b, off + j, none⟩ = some (.string (V j)) := HD.out _ Hb13.out
            have hbl9 : b < wb13.heap.size := Nat.lt_of_lt_of_le hbl Hb13.out.size
            have hmm := @run_makeMap Try.prog
            clear L9 hb9
            go_wp2_with fail
            refine (req_any key 2 (some ⟨b, off + j, none⟩) 1 (cap - j) _).mono ?_
            rintro e wa14 ⟨g14, rfl, hg, c0, c1, c2, hb⟩
            have Ha14 : Hid (Below w.heap.size w wa14) := H9.out.trans (hb.mono H9.out.size)
            have hc : Hid (g14 < wa14.heap.size ∧ wa14.cell? ⟨g14, 0, none⟩ = some (.string key) ∧ wa14.cell? ⟨g14, 1, none⟩ = some (.int .i64 2) ∧ wa14.cell? ⟨g14, 2, none⟩ = some (.slice (some ⟨b, off + j, none⟩) 1 (cap - j))) := ⟨hg, c0, c1, c2⟩
            have La14 : Hid (Looks wa14 (.map (some wb13.heap.size)) key (V j) true) := L9'.out.below hb
            clear hg c0 c1 c2 hb
            go_wp2_with fail
            refine (matches_as g14 key (V j) true 2 (by simp) (some ⟨b, off + j, none⟩) 1 (cap - j) (fun _ => V j) (.map (some wb13.heap.size)) _ true (by simp [means, has]) (by omega) hc.out (HONE.out _ Ha14.out) La14.out).mono ?_
            rintro e wb14 ⟨rfl, hb⟩
            have Hb14 : Hid (Below w.heap.size w wb14) := Ha14.out.trans (hb.mono Ha14.out.size)
            have Lb14 : Hid (Looks wb14 (.map (some wb13.heap.size)) key (V j) true) := La14.out.below hb
            clear La14
            clear hb hc Ha14
            clear hrun9 d9 hmm
            go_wp2_with fail
            refine (req_any key 4 (some ⟨b, off, none⟩) k cap _).mono ?_
            rintro e wa15 ⟨g15, rfl, hg, c0, c1, c2, hb⟩
            have Ha15 : Hid (Below w.heap.size w wa15) := Hb14.out.trans (hb.mono Hb14.out.size)
            have hc : Hid (g15 < wa15.heap.size ∧ wa15.cell? ⟨g15, 0, none⟩ = some (.string key) ∧ wa15.cell? ⟨g15, 1, none⟩ = some (.int .i64 4) ∧ wa15.cell? ⟨g15, 2, none⟩ = some (.slice (some ⟨b, off, none⟩) k cap)) := ⟨hg, c0, c1, c2⟩
            have La15 : Hid (Looks wa15 (.map (some wb13.heap.size)) key (V j) true) := Lb14.out.below hb
            clear hg c0 c1 c2 hb
            go_wp2_with fail
            refine (matches_as g15 key (V j) true 4 (by simp) (some ⟨b, off, none⟩) k cap V (.map (some wb13.heap.size)) _ true (by simp [means, has_of (V := V) (s := V j) (j := j) (by simp) k hlt]) (by omega) hc.out (HG.out.below Ha15.out).row La15.out).mono ?_
            rintro e wb15 ⟨rfl, hb⟩
            have Hb15 : Hid (Below w.heap.size w wb15) := Ha15.out.trans (hb.mono Ha15.out.size)
            have Lb15 : Hid (Looks wb15 (.map (some wb13.heap.size)) key (V j) true) := La15.out.below hb
            clear La15
            clear hb hc Ha15
            go_wp2_with fail
            refine (req_any key 5 (some ⟨b, off, none⟩) k cap _).mono ?_
            rintro e wa16 ⟨g16, rfl, hg, c0, c1, c2, hb⟩
            have Ha16 : Hid (Below w.heap.size w wa16) := Hb15.out.trans (hb.mono Hb15.out.size)
            have hc : Hid (g16 < wa16.heap.size ∧ wa16.cell? ⟨g16, 0, none⟩ = some (.string key) ∧ wa16.cell? ⟨g16, 1, none⟩ = some (.int .i64 5) ∧ wa16.cell? ⟨g16, 2, none⟩ = some (.slice (some ⟨b, off, none⟩) k cap)) := ⟨hg, c0, c1, c2⟩
            have La16 : Hid (Looks wa16 (.map (some wb13.heap.size)) key (V j) true) := Lb15.out.below hb
            clear hg c0 c1 c2 hb
            go_wp2_with fail
            refine (matches_as g16 key (V j) true 5 (by simp) (some ⟨b, off, none⟩) k cap V (.map (some wb13.heap.size)) _ false (by simp [means, has_of (V := V) (s := V j) (j := j) (by simp) k hlt]) (by omega) hc.out (HG.out.below Ha16.out).row La16.out).mono ?_
            rintro e wb16 ⟨rfl, hb⟩
            have Hb16 : Hid (Below w.heap.size w wb16) := Ha16.out.trans (hb.mono Ha16.out.size)
            have Lb16 : Hid (Looks wb16 (.map (some wb13.heap.size)) key (V j) true) := La16.out.below hb
            clear La16
            clear hb hc Ha16
            go_wp2_with fail
            refine (req_any key 1 none 0 0 _).mono ?_
            rintro e wa17 ⟨g17, rfl, hg, c0, c1, c2, hb⟩
            have Ha17 : Hid (Below w.heap.size w wa17) := Hb16.out.trans (hb.mono Hb16.out.size)
            have hc : Hid (g17 < wa17.heap.size ∧ wa17.cell? ⟨g17, 0, none⟩ = some (.string key) ∧ wa17.cell? ⟨g17, 1, none⟩ = some (.int .i64 1) ∧ wa17.cell? ⟨g17, 2, none⟩ = some (.slice none 0 0)) := ⟨hg, c0, c1, c2⟩
            have La17 : Hid (Looks wa17 (.map (some wb13.heap.size)) key (V j) true) := Lb16.out.below hb
            clear hg c0 c1 c2 hb
            go_wp2_with fail
            refine (matches_as g17 key (V j) true 1 (by simp) none 0 0 V (.map (some wb13.heap.size)) _ false (by simp [means]) (by omega) hc.out (row_nil _ _) La17.out).mono ?_
            rintro e wb17 ⟨rfl, hb⟩
            have Hb17 : Hid (Below w.heap.size w wb17) := Ha17.out.trans (hb.mono Ha17.out.size)
            have Lb17 : Hid (Looks wb17 (.map (some wb13.heap.size)) key (V j) true) := La17.out.below hb
            clear La17
            clear hb hc Ha17
            go_wp2
            go_roundw
            case rel => exact ⟨j + 1, by omega, by go_num, by rw [← HN.out], by rw [← HN.out], Hb17⟩
            case measure => simp [intOf]; omega
        · obtain rfl : j = k := by omega
          rw [← HX.out]
          have h1 : (X == X) = true := by simp
          have h2 : ((!X) == (!X)) = true := by simp
          go_wp2
          go_ret
          exact ⟨rfl, hW.out⟩

set_option maxRecDepth 10000 in
set_option maxHeartbeats 1000000 in
theorem law_zero (key : ByteArray) (ao : Option Addr) (cap : Nat) (L : Int) (mv : Value) (w : World) (hlen : (Builtin.len_ #[25] 3 #[mv]).run Try.prog w = .ok (.int .i64 L) w) :
    Calls Try.prog 4 #[.string key, .slice ao 0 cap, mv] w (LawP w) := by
  by_cases t1 : 4096 < L
  · go_enter Try.func4, Try.ntmps4
    go_wp2
    go_ret
    exact ⟨rfl, Below.refl _ _⟩
  go_enter Try.func4, Try.ntmps4
  go_wp2
  all_goals first | (go_ret; exact ⟨rfl, Below.refl _ _⟩) | skip
  refine wp_loop_rounds 1 ?_
  rw [rounds_succ]
  go_wp2
  go_ret
  exact ⟨rfl, Below.refl _ _⟩

/-- ████ The law, whatever the input. -/
theorem law_any (key val : ByteArray) (ok : Bool) (ao : Option Addr) (n cap : Nat) (L : Int) (V : Nat → ByteArray) (mv : Value) (w : World) (hcap : n ≤ cap)
    (hG : Giv w ao n cap V mv key val ok) (hlen : (Builtin.len_ #[25] 3 #[mv]).run Try.prog w = .ok (.int .i64 L) w) :
    Calls Try.prog 4 #[.string key, .slice ao n cap, mv] w (LawP w) := by
  by_cases h0 : n = 0
  · subst h0; exact law_zero key ao cap L mv w hlen
  · obtain ⟨b, off, rfl, hb, _⟩ := hG.row (by omega)
    cases ok
    · exact law_false key val b off n cap L V mv w hcap (by omega) hG hb hlen
    · exact law_true key val b off n cap L V mv w hcap (by omega) hG hb hlen

end Go.Proofs.Qxb6630576a
