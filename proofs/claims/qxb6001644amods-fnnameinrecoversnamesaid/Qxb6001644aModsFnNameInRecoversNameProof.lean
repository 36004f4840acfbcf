/-
  The proof of 'Rows.FnNameInRecoversNameSaid'. The frame follows the tool's shell and the worked row over an array by value; the plain law and the walks are typed here.
-/
import Derived.Test.Qxb6001644aModsRows
import Derived.WalkKit
import Derived.ProofKit
import Derived.OpenShut
import Derived.ShutString
import Derived.Laws.BytesArg
import Derived.Lib.Strings
namespace Go.Proofs.Qxb6001644aMods.fnNameInRecoversName
open Go.ChangeShapes Go.WideShapes Go.ChangeAt Go.RowKit
open Go.ChangeMaps (open_string shut_string)
set_option linter.unusedVariables false      -- a walk need not use every hypothesis

theorem own : ownKnob Trym.prog.godebug = none := by kernel_rfl
theorem cells22 : Trym.prog.cellsOf 22 = 5 := by kernel_rfl
theorem cells5 : Trym.prog.cellsOf 5 = 1 := by kernel_rfl

/-! ### THE PLAIN LAW: no Go in sight -/
theorem size_append (a b : ByteArray) : (a ++ b).size = a.size + b.size := by simp
theorem bytes_eq (a b : ByteArray) (h : a.data.toList = b.data.toList) : a = b := by
  obtain ⟨⟨l⟩⟩ := a; obtain ⟨⟨m⟩⟩ := b; simp at h; rw [h]
theorem data_append (a b : ByteArray) : (a ++ b).data.toList = a.data.toList ++ b.data.toList := by simp
theorem data_length (a : ByteArray) : a.data.toList.length = a.size := (Lib.size_eq a).symm
/-- what stands ahead is cut off -/
theorem cut_back (p t : ByteArray) : (p ++ t).extract p.size (p ++ t).size = t := by
  apply bytes_eq
  rw [Lib.extract_data, data_append, ← data_length p, List.drop_left, size_append, data_length, List.take_of_length_le (by rw [data_length]; omega)]
/-- what stands ahead is found -/
theorem cut_front (p t : ByteArray) : (p ++ t).extract 0 p.size = p := by
  apply bytes_eq
  rw [Lib.extract_data, data_append, List.drop_zero, Nat.sub_zero, ← data_length p, List.take_left]
theorem append_three (a b c : ByteArray) : a ++ b ++ c = a ++ (b ++ c) := by
  apply bytes_eq
  simp only [data_append, List.append_assoc]

/-! ### STEP 1: THE WALKS -/
theorem hid {p : Prop} (h : p) : Hid p := h

/-- 'stringslite.HasPrefix' (function 11) where s begins with p. -/
theorem has_yes (s p : ByteArray) (h1 : p.size ≤ s.size) (h2 : s.extract 0 p.size = p) (w : World) :
    Calls Trym.prog 11 #[.string s, .string p] w fun e w' => e = .returned (.bool true) ∧ w' = w := by
  have h3 : ((s.extract 0 p.size).toList == p.toList) = true := by rw [h2]; simp
  clear h2
  go_enter Trym.func11, Trym.ntmps11
  go_wp2
  go_ret
  exact ⟨rfl, rfl⟩

/-- 'stringslite.CutPrefix' (function 10) there. -/
theorem cut_yes (s p : ByteArray) (h1 : p.size ≤ s.size) (h2 : s.extract 0 p.size = p) (w : World) :
    Calls Trym.prog 10 #[.string s, .string p] w fun e w' => e = .returned (.tuple #[.string (s.extract p.size s.size), .bool true]) ∧ w' = w := by
  have H := hid (has_yes s p h1 h2)
  clear h2
  go_enter Trym.func10, Trym.ntmps10
  go_wp2_with (go_at_call 11; refine (H.out _).mono ?_; rintro e w' ⟨rfl, rfl⟩)
  go_ret2
  exact ⟨rfl, rfl⟩

/-- 'strings.CutPrefix' (function 9) there. -/
theorem cutPrefix_yes (s p : ByteArray) (h1 : p.size ≤ s.size) (h2 : s.extract 0 p.size = p) (w : World) :
    Calls Trym.prog 9 #[.string s, .string p] w fun e w' => e = .returned (.tuple #[.string (s.extract p.size s.size), .bool true]) ∧ w' = w := by
  have H := hid (cut_yes s p h1 h2)
  clear h2
  go_enter Trym.func9, Trym.ntmps9
  go_wp2_with (go_at_call 10; refine (H.out _).mono ?_; rintro e w' ⟨rfl, rfl⟩)
  go_ret2
  exact ⟨rfl, rfl⟩

/-- 'NameIn' (function 6) where wl is 'prefix-' and a rest of k + 6 bytes, 1 ≤ k. -/
theorem nameIn_yes (p q wl rest : ByteArray) (k : Nat) (hp : p.size ≤ 1048576) (hk : 1 ≤ k) (hk' : k ≤ 1048576) (hr : rest.size = k + 6) (hq : q = p ++ ByteArray.mk #[45])
    (h1 : q.size ≤ wl.size) (h2 : wl.extract 0 q.size = q) (h3 : wl.extract q.size wl.size = rest) (w : World) :
    Calls Trym.prog 6 #[.string p, .string wl] w fun e w' => e = .returned (.tuple #[.string (rest.extract 0 k), .bool true]) ∧ w' = w := by
  have C := cutPrefix_yes wl q h1 h2
  rw [h3] at C
  rw [hq] at C
  have H := hid C
  clear C h1 h2 h3 hq
  go_enter Trym.func6, Trym.ntmps6
  go_wp2_with (go_at_call 9; refine (H.out _).mono ?_; rintro e w' ⟨rfl, rfl⟩)
  go_ret2
  exact ⟨rfl, rfl⟩

/-- 'zzBytes_FnNameInRecoversName' (function 5). -/
theorem zz_any (p n : ByteArray) (c0 c1 c2 c3 c4 : Value) (hp : p.size ≤ 9223372036854775807) (hn : n.size ≤ 9223372036854775807) (w : World) :
    Calls Trym.prog 5 #[.string p, .string n, .agg #[c0, c1, c2, c3, c4]] w fun e w' => e = .returned (.bool (decide (p.size + n.size ≤ 1048576))) ∧ w' = w.alloc (.cells #[c0, c1, c2, c3, c4] 22) := by
  by_cases g1 : p.size + n.size ≤ 1048576
  · rw [decide_eq_true g1]
    go_enter Trym.func5, Trym.ntmps5
    go_wp2
    go_ret
    exact ⟨rfl, rfl⟩
  · rw [decide_eq_false g1]
    by_cases g2 : p.size ≤ 1048576
    · by_cases g3 : n.size ≤ 1048576
      · go_enter Trym.func5, Trym.ntmps5
        go_wp2
        go_ret
        exact ⟨rfl, rfl⟩
      · go_enter Trym.func5, Trym.ntmps5
        go_wp2
        go_ret
        exact ⟨rfl, rfl⟩
    · go_enter Trym.func5, Trym.ntmps5
      go_wp2
      go_ret
      exact ⟨rfl, rfl⟩

/-- 'string(h[:])': five bytes, behind the two boxes. -/
theorem five_bytes (x0 x1 x2 x3 x4 : Int) (w : World) : ∃ hs : ByteArray, hs.size = 5 ∧
    (convert 24 9 (.slice (some ⟨w.heap.size, 0, none⟩) 5 5)).run Trym.prog ((w.alloc (.cells #[.int .u8 x0, .int .u8 x1, .int .u8 x2, .int .u8 x3, .int .u8 x4] 22)).alloc (.cells #[.int .u8 x0, .int .u8 x1, .int .u8 x2, .int .u8 x3, .int .u8 x4] 22)) =
      .ok (.string hs) ((w.alloc (.cells #[.int .u8 x0, .int .u8 x1, .int .u8 x2, .int .u8 x3, .int .u8 x4] 22)).alloc (.cells #[.int .u8 x0, .int .u8 x1, .int .u8 x2, .int .u8 x3, .int .u8 x4] 22)) := by
  refine ⟨strOfNums [x0, x1, x2, x3, x4], by rw [strOfNums_size]; rfl, ?_⟩
  refine run_convert_bytes_arg _ 24 5 Trym.underlying24 Trym.underlying5 w.heap.size 0 5 5 [x0, x1, x2, x3, x4] rfl ?_ 9 Trym.underlying9
  intro i hi
  have : i = 0 ∨ i = 1 ∨ i = 2 ∨ i = 3 ∨ i = 4 := by omega
  rcases this with rfl | rfl | rfl | rfl | rfl <;> simp [go_sem]

/-- The plain law of the whole: what 'NameIn' is handed, cut. -/
theorem whole (p n hs : ByteArray) (h5 : hs.size = 5) : ∃ q wl rest : ByteArray, q = p ++ ByteArray.mk #[45] ∧ wl = p ++ ByteArray.mk #[45] ++ n ++ ByteArray.mk #[45] ++ hs ∧
    rest.size = n.size + 6 ∧ q.size ≤ wl.size ∧ wl.extract 0 q.size = q ∧ wl.extract q.size wl.size = rest ∧ rest.extract 0 n.size = n := by
  refine ⟨p ++ ByteArray.mk #[45], (p ++ ByteArray.mk #[45]) ++ (n ++ (ByteArray.mk #[45] ++ hs)), n ++ (ByteArray.mk #[45] ++ hs), rfl, ?_, ?_, ?_, cut_front _ _, cut_back _ _, cut_front _ _⟩
  · simp only [append_three]
  · rw [size_append, size_append, h5]; rfl
  · rw [size_append (p ++ ByteArray.mk #[45])]; omega

theorem walk (p n : ByteArray) (x0 x1 x2 x3 x4 : Int) (hp : p.size ≤ maxLen) (hn : n.size ≤ maxLen) (w : World) :
    Calls Trym.prog 3 #[.string p, .string n, .agg #[.int .u8 x0, .int .u8 x1, .int .u8 x2, .int .u8 x3, .int .u8 x4]] w fun e w' => e = .returned (.bool true) ∧ Grown w w' := by
  have hp : p.size ≤ 9223372036854775807 := hp
  have hn : n.size ≤ 9223372036854775807 := hn
  have Z := hid (zz_any p n (.int .u8 x0) (.int .u8 x1) (.int .u8 x2) (.int .u8 x3) (.int .u8 x4) hp hn)
  by_cases g1 : p.size + n.size ≤ 1048576
  · rw [decide_eq_true g1] at Z
    by_cases g2 : n.size < 1
    · go_enter Trym.func3, Trym.ntmps3
      go_wp2_with (go_at_call 5; refine (Z.out _).mono ?_; rintro e w' ⟨rfl, rfl⟩)
      go_ret
      exact ⟨rfl, by repeat (first | exact Grown.refl _ | apply Grown.drew | apply Grown.alloc)⟩
    · obtain ⟨hs, h5, hcv⟩ := five_bytes x0 x1 x2 x3 x4 w
      obtain ⟨q, wl, rest, hq, hwl, hr, k1, k2, k3, k4⟩ := whole p n hs h5
      have C := nameIn_yes p q wl rest n.size (by omega) (by omega) (by omega) hr hq k1 k2 k3
      rw [k4, hwl] at C
      have H := hid C
      clear C hq hwl hr k1 k2 k3 k4 q wl rest
      go_enter Trym.func3, Trym.ntmps3
      go_wp2_with (first
        | (go_at_call 5; refine (Z.out _).mono ?_; rintro e w' ⟨rfl, rfl⟩)
        | (go_at_call 6; refine (H.out _).mono ?_; rintro e w' ⟨rfl, rfl⟩))
      go_ret
      exact ⟨rfl, by repeat (first | exact Grown.refl _ | apply Grown.drew | apply Grown.alloc)⟩
  · rw [decide_eq_false g1] at Z
    go_enter Trym.func3, Trym.ntmps3
    go_wp2_with (go_at_call 5; refine (Z.out _).mono ?_; rintro e w' ⟨rfl, rfl⟩)
    go_ret
    exact ⟨rfl, by repeat (first | exact Grown.refl _ | apply Grown.drew | apply Grown.alloc)⟩

/-! ### THE ROW's STEP: an array of five bytes by value, taken apart and put together -/
theorem list5 {α : Type} (l : List α) (h : (⟨l⟩ : Array α).size = 5) : ∃ a b c d e, l = [a, b, c, d, e] := by
  match l, h with
  | [a, b, c, d, e], _ => exact ⟨a, b, c, d, e, rfl⟩

theorem trod_array5 {H : Type} {enc : TypeId × Value → H} {P : Program} {w : World} {base : Nat} {spare : Nat → Bool} {held : Bool} {t e : TypeId} {fuel : Nat} {c0 c1 c2 c3 c4 : Value} {x : DataW H × List MemPlace}
    (ht : P.underlying t = some (.array 5 e)) (hce : P.cellsOf e = 1) (h : DataW.trod enc P w base spare held fuel t [c0, c1, c2, c3, c4] = some x) :
    ∃ y0 y1 y2 y3 y4 n, x = (.agg [y0.1, y1.1, y2.1, y3.1, y4.1], y0.2 ++ (y1.2 ++ (y2.2 ++ (y3.2 ++ y4.2)))) ∧ DataW.trod enc P w base spare held n e [c0] = some y0 ∧ DataW.trod enc P w base spare held n e [c1] = some y1 ∧
      DataW.trod enc P w base spare held n e [c2] = some y2 ∧ DataW.trod enc P w base spare held n e [c3] = some y3 ∧ DataW.trod enc P w base spare held n e [c4] = some y4 := by
  obtain ⟨xs, m, _, hx, _, hl, hget⟩ := DataW.trod_array ht h
  obtain ⟨y0, y1, y2, y3, y4, rfl⟩ := list5 xs hl
  have g0 := hget 0 (by omega)
  have g1 := hget 1 (by omega)
  have g2 := hget 2 (by omega)
  have g3 := hget 3 (by omega)
  have g4 := hget 4 (by omega)
  rw [hce] at g0 g1 g2 g3 g4
  exact ⟨y0, y1, y2, y3, y4, m, by rw [hx]; simp, g0, g1, g2, g3, g4⟩

set_option maxHeartbeats 400000 in
set_option maxRecDepth 100000 in
theorem lifted (os : Os) (started : os.Started) (H : Type) (enc : TypeId × Value → H) :
    ReturnsInHanded {} Trym.checked os 3 .any (Rows.fnNameInRecoversNameSpec.pre6 enc Trym.prog Trym.f3 Rows.fnNameInRecoversNameRow.domain false) (Rows.fnNameInRecoversNameSpec.post enc Trym.prog Trym.f3 false true false false) := by
  refine returnsInHanded_of_change (C := Trym.checked) own started (by kernel_rfl) Trym.func3
    (ChangeSpec.witness6 (enc := enc) (C := Trym.checked) false ⟨#[], #[.string ⟨#[]⟩, .string ⟨#[]⟩, .agg #[.int .u8 0, .int .u8 0, .int .u8 0, .int .u8 0, .int .u8 0]], []⟩ 8 (by kernel_rfl) (by kernel_rfl) (by kernel_rfl) (by kernel_rfl)) ?_
  intro W base args ds gs before hval0 hW hcnd _
  have hval : ∀ (j : Nat) t v, Trym.f3.params[j]? = some t → args[j]? = some v → Value.okWide Trym.prog W .any base t v := hval0
  have hW' := hW
  obtain ⟨p, q, hA0, hV, rfl, hfz, hnd⟩ := hW
  have hA : DataW.TrodAll enc Trym.prog W 0 (fun _ => true) true Trym.f3.params.toList args.toList ds p := hA0
  rw [Trym.params3] at hA hval
  obtain ⟨v0, vs0, d0, ds0, p0, q0, hargs, rfl, rfl, h0, r0⟩ := trodAll_cons hA
  obtain ⟨v1, vs1, d1, ds1, p1, q1, rfl, rfl, rfl, h1, r1⟩ := trodAll_cons r0
  obtain ⟨v2, vs2, d2, ds2, p2, q2, rfl, rfl, rfl, h2, r2⟩ := trodAll_cons r1
  obtain ⟨rfl, rfl, rfl⟩ := trodAll_nil r2
  obtain rfl : args = #[v0, v1, v2] := by cases args; simp_all
  obtain ⟨rfl, rfl⟩ := trodVars_none hV
  obtain ⟨s0, rfl, rfl, rfl, hs0⟩ := open_string Trym.underlying9 (hval 0 9 v0 rfl rfl) h0
  obtain ⟨s1, rfl, rfl, rfl, hs1⟩ := open_string Trym.underlying9 (hval 1 9 v1 rfl rfl) h1
  obtain ⟨cs, rfl, hsz, _⟩ : ∃ cs, v2 = .agg cs ∧ cs.size = Trym.prog.cellsOf 22 ∧ Row.okWide Trym.prog W .any base 22 cs := by
    have := hval 2 22 v2 rfl rfl
    simpa [Value.okWide, Trym.underlying22] using this
  rw [cells22] at hsz
  obtain ⟨l⟩ := cs
  obtain ⟨c0, c1, c2, c3, c4, rfl⟩ := list5 l hsz
  obtain ⟨fuel, hf⟩ := h2
  obtain ⟨y0, y1, y2, y3, y4, m, hx, hy0, hy1, hy2, hy3, hy4⟩ := trod_array5 Trym.underlying22 cells5 hf
  obtain ⟨x0, e0, rfl, b0⟩ := DataW.trod_int Trym.underlying5 hy0
  obtain ⟨x1, e1, rfl, b1⟩ := DataW.trod_int Trym.underlying5 hy1
  obtain ⟨x2, e2, rfl, b2⟩ := DataW.trod_int Trym.underlying5 hy2
  obtain ⟨x3, e3, rfl, b3⟩ := DataW.trod_int Trym.underlying5 hy3
  obtain ⟨x4, e4, rfl, b4⟩ := DataW.trod_int Trym.underlying5 hy4
  simp at e0 e1 e2 e3 e4
  subst e0 e1 e2 e3 e4
  simp only [Prod.mk.injEq] at hx
  obtain ⟨rfl, rfl⟩ := hx
  clear hA0 hval0
  simp only [List.append_nil] at hW'
  refine (walk s0 s1 x0 x1 x2 x3 x4 hs0 hs1 W).mono fun e W' ⟨he, hg⟩ => ?_
  subst he
  have rdA : ∀ sp : Nat → Bool, DataW.Trod enc Trym.prog W' 0 sp true 22 (.agg #[.int .u8 x0, .int .u8 x1, .int .u8 x2, .int .u8 x3, .int .u8 x4]) (DataW.agg [.lit (.int .u8 x0), .lit (.int .u8 x1), .lit (.int .u8 x2), .lit (.int .u8 x3), .lit (.int .u8 x4)]) [] :=
    fun sp => ⟨2, by simp [DataW.trod, Value.cells, Trym.underlying22, Trym.underlying5, cells22, cells5, b0, b1, b2, b3, b4, List.range_succ]⟩
  exact ⟨_, rfl, post_of_same (pa := []) (pv := []) hW' (fun _ _ _ => (trodAll_cons_mk (shut_bool Trym.underlying4 _) trodAll_mk0)) (fun sp _ => (trodAll_cons_mk (shut_string Trym.underlying9 hs0) (trodAll_cons_mk (shut_string Trym.underlying9 hs1) (trodAll_cons_mk (rdA sp) trodAll_mk0)))) (fun _ _ => rfl) rfl
    (hg.frame _) hg.2.1 (ok_one (by kernel_rfl) rfl (okWide_bool_mk Trym.underlying4 _))⟩

theorem over : Rows.fnNameInRecoversNameRow.holds Trym.pinned (OpenSpec.ofChange Rows.fnNameInRecoversNameSpec) :=
  OpenClaim.holds_of_wide 3 Trym.f3 rfl rfl rfl rfl rfl rfl rfl ⟨rfl, rfl, rfl, rfl, rfl⟩ rfl rfl rfl rfl rfl (by kernel_rfl) Trym.func3 (by kernel_rfl)
    (of_decide_eq_true (by kernel_rfl)) (by unfold Func.isWrapper; first | (rw [if_pos (by decide +kernel)]; kernel_rfl) | (rw [if_neg (by decide +kernel)]; exact ⟨rfl, rfl⟩))
    (fun os started H enc _ => lifted os started H enc)

/-- THE STATEMENT -/
theorem proved : Rows.FnNameInRecoversNameSaid :=
  over
end Go.Proofs.Qxb6001644aMods.fnNameInRecoversName

namespace Go.Proofs.Qxb6001644aMods
theorem fnNameInRecoversName_holds : Rows.FnNameInRecoversNameSaid := fnNameInRecoversName.proved
end Go.Proofs.Qxb6001644aMods
