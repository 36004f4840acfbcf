/-
  The proof of 'Rows.FnBallotLowestEpochOfRankSaid'. The frame is the tool's shell; the plain law and the walks are typed here.
-/
import Derived.Test.Qxb6001060aModsRows
import Derived.WalkKit
import Derived.ProofKit
import Derived.OpenShut
import Derived.ShutString
namespace Go.Proofs.Qxb6001060aMods.fnBallotLowestEpochOfRank
open Go.ChangeShapes Go.WideShapes Go.ChangeAt Go.RowKit
open Go.ChangeMaps (open_string shut_string)
set_option linter.unusedVariables false      -- a walk need not use every 'w<i>' (that an integer argument fits its kind)

theorem own : ownKnob Trym.prog.godebug = none := by kernel_rfl

/-! ### THE PLAIN LAW: no Go in sight -/
/-- The lowest epoch above a of rank r among n, without the top. -/
def raw (r n a : Int) : Int := if a - a % n + r + 1 ≤ a then a - a % n + r + 1 + n else a - a % n + r + 1
/-- 'ballot': 0 where it would pass the top. -/
def bal (r n a : Int) : Int := if 9007199254740992 < raw r n a then 0 else raw r n a

/-- 'a - a % n' is a multiple of n. -/
theorem base_of (a n : Int) : a - a % n = n * (a / n) := by
  have := Int.mul_ediv_add_emod a n; omega
theorem rank_of (n r j : Int) (h0 : 0 ≤ r) (h1 : r < n) : (r + n * j) % n = r := by
  rw [Int.add_mul_emod_self_left]; exact Int.emod_eq_of_lt h0 h1
theorem raw_form (r n a : Int) : ∃ j, raw r n a = 1 + r + n * j := by
  unfold raw
  rw [base_of]
  split
  · exact ⟨a / n + 1, by rw [Int.mul_add]; omega⟩
  · exact ⟨a / n, by omega⟩
theorem raw_bounds (r n a : Int) (hn : 1 ≤ n) (h0 : 0 ≤ r) (h1 : r < n) : a < raw r n a ∧ raw r n a ≤ a + n := by
  have hm0 := Int.emod_nonneg a (show n ≠ 0 by omega)
  have hm1 := Int.emod_lt_of_pos a (show 0 < n by omega)
  unfold raw
  split <;> omega
theorem raw_rank (r n a : Int) (h0 : 0 ≤ r) (h1 : r < n) : (raw r n a - 1) % n = r := by
  obtain ⟨j, e⟩ := raw_form r n a
  rw [e, show 1 + r + n * j - 1 = r + n * j by omega]
  exact rank_of n r j h0 h1
/-- The last epoch of rank r at or below the top is not above a, where the lowest one above a passes the top. -/
theorem last_le (n r a e j : Int) (hn : 0 < n) (he : e = 1 + r + n * j) (h1 : 9007199254740992 < e) (h2 : e ≤ a + n) :
    9007199254740992 - (9007199254740992 - 1 - r) % n ≤ a := by
  have hd := Int.mul_ediv_add_emod (9007199254740992 - 1 - r) n
  have hm0 := Int.emod_nonneg (9007199254740992 - 1 - r) (show n ≠ 0 by omega)
  generalize (9007199254740992 - 1 - r) / n = k at hd
  generalize (9007199254740992 - 1 - r) % n = m at *
  have hlt : n * k < n * j := by omega
  have hkj : k < j := Int.lt_of_mul_lt_mul_left hlt (by omega)
  have : n * k ≤ n * (j - 1) := Int.mul_le_mul_of_nonneg_left (by omega) (by omega)
  rw [Int.mul_sub] at this
  omega
theorem raw_last (r n a : Int) (hn : 1 ≤ n) (h0 : 0 ≤ r) (h1 : r < n) (h : 9007199254740992 < raw r n a) :
    9007199254740992 - (9007199254740991 - r) % n ≤ a := by
  obtain ⟨j, e⟩ := raw_form r n a
  have := last_le n r a _ j (by omega) e h (raw_bounds r n a hn h0 h1).2
  rwa [show (9007199254740992 - 1 - r : Int) = 9007199254740991 - r by omega] at this

/-! ### STEP 1: THE WALKS -/
/-- A contract kept from the walk's rules till its call. -/
theorem hid {p : Prop} (h : p) : Hid p := h
theorem mod_le (a n : Int) (ha : 0 ≤ a) (hn : 1 ≤ n) : a % n ≤ a := by
  have h := base_of a n
  have := Int.mul_nonneg (show 0 ≤ n by omega) (Int.ediv_nonneg ha (show 0 ≤ n by omega))
  omega

/-- 'ballot' (function 9) on the documented domain. -/
theorem ballot_any (r n a : Int) (hn : 1 ≤ n) (hn' : n ≤ 4611686018427387904) (h0 : 0 ≤ r) (h1 : r < n) (ha0 : 0 ≤ a) (ha : a ≤ 9007199254740992) (w : World) :
    Calls Trym.prog 9 #[.int .i64 r, .int .i64 n, .int .u64 a] w fun e w' => e = .returned (.int .u64 (bal r n a)) ∧ w' = w := by
  have hm0 := Int.emod_nonneg a (show n ≠ 0 by omega)
  have hm1 := Int.emod_lt_of_pos a (show 0 < n by omega)
  have hm2 := mod_le a n ha0 (by omega)
  unfold bal raw
  by_cases c1 : a - a % n + r + 1 ≤ a
  · rw [if_pos c1]
    by_cases c2 : 9007199254740992 < a - a % n + r + 1 + n
    · rw [if_pos c2]
      go_enter Trym.func9, Trym.ntmps9
      go_wp2
      go_ret
      exact ⟨rfl, rfl⟩
    · rw [if_neg c2]
      go_enter Trym.func9, Trym.ntmps9
      go_wp2
      go_ret
      exact ⟨rfl, rfl⟩
  · rw [if_neg c1]
    by_cases c2 : 9007199254740992 < a - a % n + r + 1
    · rw [if_pos c2]
      go_enter Trym.func9, Trym.ntmps9
      go_wp2
      go_ret
      exact ⟨rfl, rfl⟩
    · rw [if_neg c2]
      go_enter Trym.func9, Trym.ntmps9
      go_wp2
      go_ret
      exact ⟨rfl, rfl⟩

/-- 'ZZballot' (function 8): no logic. -/
theorem zz_any (r n a : Int) (hn : 1 ≤ n) (hn' : n ≤ 4611686018427387904) (h0 : 0 ≤ r) (h1 : r < n) (ha0 : 0 ≤ a) (ha : a ≤ 9007199254740992) (w : World) :
    Calls Trym.prog 8 #[.int .i64 r, .int .i64 n, .int .u64 a] w fun e w' => e = .returned (.int .u64 (bal r n a)) ∧ w' = w := by
  have hc := ballot_any r n a hn hn' h0 h1 ha0 ha
  generalize bal r n a = b at hc ⊢
  have H := hid hc
  clear hc
  go_enter Trym.func8, Trym.ntmps8
  go_wp2_with (go_at_call 9; refine (H.out _).mono ?_; rintro e w' ⟨rfl, rfl⟩)
  go_ret
  exact ⟨rfl, rfl⟩

/-- 'zzBallotDomain' (function 7): outside the domain: false. -/
theorem dom_no (r n a : Int) (h : n < 1 ∨ 4611686018427387904 < n ∨ r < 0 ∨ n ≤ r ∨ 9007199254740992 < a) (w : World) :
    Calls Trym.prog 7 #[.int .i64 r, .int .i64 n, .int .u64 a] w fun e w' => e = .returned (.bool false) ∧ w' = w := by
  by_cases g1 : n < 1
  · clear h
    go_enter Trym.func7, Trym.ntmps7
    go_wp2
    go_ret
    exact ⟨rfl, rfl⟩
  by_cases g2 : 4611686018427387904 < n
  · clear h
    go_enter Trym.func7, Trym.ntmps7
    go_wp2
    go_ret
    exact ⟨rfl, rfl⟩
  by_cases g3 : r < 0
  · clear h
    go_enter Trym.func7, Trym.ntmps7
    go_wp2
    go_ret
    exact ⟨rfl, rfl⟩
  by_cases g4 : n ≤ r
  · clear h
    go_enter Trym.func7, Trym.ntmps7
    go_wp2
    go_ret
    exact ⟨rfl, rfl⟩
  have g5 : 9007199254740992 < a := by omega
  clear h
  go_enter Trym.func7, Trym.ntmps7
  go_wp2
  go_ret
  exact ⟨by simp; omega, rfl⟩

/-- 'zzBallotDomain' inside: true. -/
theorem dom_yes (r n a : Int) (hn : 1 ≤ n) (hn' : n ≤ 4611686018427387904) (h0 : 0 ≤ r) (h1 : r < n) (ha : a ≤ 9007199254740992) (w : World) :
    Calls Trym.prog 7 #[.int .i64 r, .int .i64 n, .int .u64 a] w fun e w' => e = .returned (.bool true) ∧ w' = w := by
  go_enter Trym.func7, Trym.ntmps7
  go_wp2
  go_ret
  exact ⟨rfl, rfl⟩

theorem walk (a0 : Int) (a1 : Int) (a2 : Int) (w0 : (Lit.int .i64 a0).wf = true) (w1 : (Lit.int .i64 a1).wf = true) (w2 : (Lit.int .u64 a2).wf = true) (w : World) :
    Calls Trym.prog 3 #[.int .i64 a0, .int .i64 a1, .int .u64 a2] w fun e w' => e = .returned (.bool true) ∧ Grown w w' := by
  have ha0 : 0 ≤ a2 := (bounds_u64 w2).1
  clear w0 w1 w2
  by_cases hd : a1 < 1 ∨ 4611686018427387904 < a1 ∨ a0 < 0 ∨ a1 ≤ a0 ∨ 9007199254740992 < a2
  · have H := hid (dom_no a0 a1 a2 hd)
    clear hd
    go_enter Trym.func3, Trym.ntmps3
    go_wp2_with (go_at_call 7; refine (H.out _).mono ?_; rintro e w' ⟨rfl, rfl⟩)
    go_ret
    exact ⟨rfl, Grown.refl _⟩
  · have hn : 1 ≤ a1 := by omega
    have hn' : a1 ≤ 4611686018427387904 := by omega
    have h0 : 0 ≤ a0 := by omega
    have h1 : a0 < a1 := by omega
    have ha : a2 ≤ 9007199254740992 := by omega
    clear hd
    have D := hid (dom_yes a0 a1 a2 hn hn' h0 h1 ha)
    have Z := hid (zz_any a0 a1 a2 hn hn' h0 h1 ha0 ha)
    have hb := raw_bounds a0 a1 a2 hn h0 h1
    by_cases ht : 9007199254740992 < raw a0 a1 a2
    · have hl := raw_last a0 a1 a2 hn h0 h1 ht
      have e0 : bal a0 a1 a2 = 0 := by unfold bal; rw [if_pos ht]
      rw [e0] at Z
      clear e0 ht hb
      by_cases hm : 9007199254740992 < a0 + 1
      · go_enter Trym.func3, Trym.ntmps3
        go_wp2_with (first
          | (go_at_call 7; refine (D.out _).mono ?_; rintro e w' ⟨rfl, rfl⟩)
          | (go_at_call 8; refine (Z.out _).mono ?_; rintro e w' ⟨rfl, rfl⟩))
        go_ret
        exact ⟨rfl, Grown.refl _⟩
      · have k0 := Int.emod_nonneg (9007199254740991 - a0) (show a1 ≠ 0 by omega)
        have k1 := mod_le (9007199254740991 - a0) a1 (by omega) hn
        go_enter Trym.func3, Trym.ntmps3
        go_wp2_with (first
          | (go_at_call 7; refine (D.out _).mono ?_; rintro e w' ⟨rfl, rfl⟩)
          | (go_at_call 8; refine (Z.out _).mono ?_; rintro e w' ⟨rfl, rfl⟩))
        go_ret
        exact ⟨rfl, Grown.refl _⟩
    · have hr := raw_rank a0 a1 a2 h0 h1
      have e0 : bal a0 a1 a2 = raw a0 a1 a2 := by unfold bal; rw [if_neg ht]
      rw [e0] at Z
      clear e0
      generalize raw a0 a1 a2 = b at *
      obtain ⟨hb1, hb2⟩ := hb
      go_enter Trym.func3, Trym.ntmps3
      go_wp2_with (first
        | (go_at_call 7; refine (D.out _).mono ?_; rintro e w' ⟨rfl, rfl⟩)
        | (go_at_call 8; refine (Z.out _).mono ?_; rintro e w' ⟨rfl, rfl⟩))
      go_ret
      exact ⟨rfl, Grown.refl _⟩

/-! ### THE ROW's STEP: WRITTEN OUT: LEAVE IT -/
set_option maxRecDepth 100000 in
theorem lifted (os : Os) (started : os.Started) (H : Type) (enc : TypeId × Value → H) :
    ReturnsInHanded {} Trym.checked os 3 .any (Rows.fnBallotLowestEpochOfRankSpec.pre6 enc Trym.prog Trym.f3 Rows.fnBallotLowestEpochOfRankRow.domain false) (Rows.fnBallotLowestEpochOfRankSpec.post enc Trym.prog Trym.f3 false true false false) := by
  refine returnsInHanded_of_change (C := Trym.checked) own started (by kernel_rfl) Trym.func3
    (ChangeSpec.witness6 (enc := enc) (C := Trym.checked) false ⟨#[], #[.int .i64 0, .int .i64 0, .int .u64 0], []⟩ 8 (by kernel_rfl) (by kernel_rfl) (by kernel_rfl) (by kernel_rfl)) ?_
  intro W base args ds gs before hval0 hW hcnd _
  have hval : ∀ (j : Nat) t v, Trym.f3.params[j]? = some t → args[j]? = some v → Value.okWide Trym.prog W .any base t v := hval0
  have hW' := hW
  obtain ⟨p, q, hA0, hV, rfl, hfz, hnd⟩ := hW
  have hA : DataW.TrodAll enc Trym.prog W 0 (fun _ => true) true Trym.f3.params.toList args.toList ds p := hA0
  rw [Trym.params3] at hA hval
  obtain ⟨v0, vs0, d0, ds0, p0, q0, hargs, rfl, rfl, h0, r0⟩ := trodAll_cons hA
  obtain ⟨v1, vs1, d1, ds1, p1, q1, rfl, rfl, rfl, h1, r1⟩ := trodAll_cons r0
  obtain ⟨v2, vs2, d2, ds2, p2, q2, rfl, rfl, rfl, h2, r2⟩ := trodAll_cons r1
  obtain ⟨rfl, rfl, rfl⟩ := trodAll_nil r2
  obtain rfl : args = #[v0, v1, v2] := by cases args; simp_all
  obtain ⟨rfl, rfl⟩ := trodVars_none hV
  obtain ⟨a0, rfl, rfl, rfl, w0⟩ := open_int Trym.underlying3 (hval 0 3 v0 rfl rfl) h0
  obtain ⟨a1, rfl, rfl, rfl, w1⟩ := open_int Trym.underlying3 (hval 1 3 v1 rfl rfl) h1
  obtain ⟨a2, rfl, rfl, rfl, w2⟩ := open_int Trym.underlying22 (hval 2 22 v2 rfl rfl) h2
  clear hA0 hval0
  simp only [List.append_nil] at hW'
  refine (walk a0 a1 a2 w0 w1 w2 W).mono fun e W' ⟨he, hg⟩ => ?_
  subst he
  exact ⟨_, rfl, post_of_same (pa := []) (pv := []) hW' (fun _ _ _ => (trodAll_cons_mk (shut_bool Trym.underlying4 _) trodAll_mk0)) (fun sp _ => (trodAll_cons_mk (shut_int Trym.underlying3 w0) (trodAll_cons_mk (shut_int Trym.underlying3 w1) (trodAll_cons_mk (shut_int Trym.underlying22 w2) trodAll_mk0)))) (fun _ _ => rfl) rfl
    (hg.frame _) hg.2.1 (ok_one (by kernel_rfl) rfl (okWide_bool_mk Trym.underlying4 _))⟩

theorem over : Rows.fnBallotLowestEpochOfRankRow.holds Trym.pinned (OpenSpec.ofChange Rows.fnBallotLowestEpochOfRankSpec) :=
  OpenClaim.holds_of_wide 3 Trym.f3 rfl rfl rfl rfl rfl rfl rfl ⟨rfl, rfl, rfl, rfl, rfl⟩ rfl rfl rfl rfl rfl (by kernel_rfl) Trym.func3 (by kernel_rfl)
    (of_decide_eq_true (by kernel_rfl)) (by unfold Func.isWrapper; first | (rw [if_pos (by decide +kernel)]; kernel_rfl) | (rw [if_neg (by decide +kernel)]; exact ⟨rfl, rfl⟩))
    (fun os started H enc _ => lifted os started H enc)

/-- ████ THE STATEMENT ████ -/
theorem proved : Rows.FnBallotLowestEpochOfRankSaid :=
  over
end Go.Proofs.Qxb6001060aMods.fnBallotLowestEpochOfRank

namespace Go.Proofs.Qxb6001060aMods
theorem fnBallotLowestEpochOfRank_holds : Rows.FnBallotLowestEpochOfRankSaid := fnBallotLowestEpochOfRank.proved
end Go.Proofs.Qxb6001060aMods
