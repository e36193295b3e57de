/- The law FnConditionReasonKeepsExactlyTheAllowedBytes: the frame is the kit's shell (proof-skeleton), its end turned to 'Below' (the callee appends to a row of its own); the walk goes by the contracts of text A. -/
import Derived.Test.Qxb6602517aModsRows
import Derived.WalkKit
import Derived.ProofKit
import Derived.OpenShut
import Derived.ShutString
import Derived.Test.Qxb6602517aModsA
namespace Go.Proofs.Qxb6602517aMods.fnConditionReasonKeepsExactlyTheAllowedBytes
open Go.ChangeShapes Go.WideShapes Go.ChangeAt Go.RowKit
open Go.ChangeMaps (open_string shut_string)
set_option linter.unusedVariables false      -- a walk need not use every 'w<i>' (that an integer argument fits its kind)

theorem own : ownKnob Trym.prog.godebug = none := by kernel_rfl

/-! ### The plain side -/
theorem kept_split (s : ByteArray) (k : Nat) (h : k < s.size) (ho : okb s[k] = true) : kept s.data.toList = kept (s.data.toList.take k) ++ s[k] :: kept (s.data.toList.drop (k + 1)) := by
  have e : s.data.toList = s.data.toList.take k ++ s[k] :: s.data.toList.drop (k + 1) := by
    have h1 : s.data.toList.drop k = s[k] :: s.data.toList.drop (k + 1) := List.drop_eq_getElem_cons (by simpa using h)
    rw [← h1, List.take_append_drop]
  conv => lhs; rw [e]
  simp [kept, ho]
theorem out_lt (s o : ByteArray) (k : Nat) (h : k < s.size) (ho : okb s[k] = true) (e : o = ⟨(kept s.data.toList).toArray⟩) : (kept (s.data.toList.take k)).length < o.size := by
  subst e
  show _ < (kept s.data.toList).toArray.size
  rw [kept_split s k h ho]; simp
theorem out_at (s o : ByteArray) (k : Nat) (h : k < s.size) (ho : okb s[k] = true) (e : o = ⟨(kept s.data.toList).toArray⟩) (hj : (kept (s.data.toList.take k)).length < o.size) : o[(kept (s.data.toList.take k)).length] = s[k] := by
  subst e
  have h2 : (kept s.data.toList)[(kept (s.data.toList.take k)).length]? = some s[k] := by rw [kept_split s k h ho]; simp
  show (kept s.data.toList).toArray[(kept (s.data.toList.take k)).length] = s[k]
  rw [List.getElem_toArray]
  exact (List.getElem?_eq_some_iff.1 h2).2

/-! ### STEP 1: THE WALK -/
theorem walk_long (a0 : ByteArray) (w : World) (h : 1048576 < a0.size) (hm : a0.size ≤ maxLen) :
    Calls Trym.prog 3 #[.string a0] w fun e w' => e = .returned (.bool true) ∧ Below w.heap.size w w' := by
  go_enter Trym.func3, Trym.ntmps3
  go_wp2_with fail
  refine (zz_no _ _ h hm).mono ?_
  rintro e w1 ⟨rfl, rfl⟩
  go_wp2
  go_ret
  exact ⟨rfl, Below.refl _ _⟩

/-- ZZconditionReason hands conditionReason's answer on. -/
theorem zzreason_any (s : ByteArray) (w : World) (hs : s.size ≤ 1048576) :
    Calls Trym.prog 7 #[.string s] w fun e w' => e = .returned (.string ⟨(kept s.data.toList).toArray⟩) ∧ Below w.heap.size w w' := by
  go_enter Trym.func7, Trym.ntmps7
  go_wp2_with fail
  refine (reason_any _ _ hs).mono ?_
  rintro e w1 ⟨rfl, hb⟩
  go_wp2
  go_ret
  exact ⟨rfl, hb⟩

set_option maxHeartbeats 1000000 in
theorem walk_short (s : ByteArray) (w : World) (hs : s.size ≤ 1048576) :
    Calls Trym.prog 3 #[.string s] w fun e w' => e = .returned (.bool true) ∧ Below w.heap.size w w' := by
  have hs' : ¬ (1048576 : Int) < (s.size : Int) := by omega
  go_enter Trym.func3, Trym.ntmps3
  go_wp2_with fail
  refine (zz_yes _ _ hs).mono ?_
  rintro e w1 ⟨rfl, rfl⟩
  go_wp2_with fail
  refine (zzreason_any _ _ hs).mono ?_
  rintro e w1 ⟨rfl, hb⟩
  obtain ⟨o, ho⟩ : ∃ o : ByteArray, o = ⟨(kept s.data.toList).toArray⟩ := ⟨_, rfl⟩
  rw [← ho]
  have HO : Hid _ := ho
  have hosz : o.size ≤ 1048576 := by
    rw [ho]; show (kept s.data.toList).toArray.size ≤ _
    have := kept_len s.data.toList
    simp at this ⊢; omega
  clear ho
  go_wp2
  go_loop [4, 5] (fun j i => ∃ k : Nat, k ≤ s.size ∧ i = .int .i64 k ∧ j = .int .i64 ((kept (s.data.toList.take k)).length : Nat)) (fun _ i => s.size - (intOf i).toNat)
  case atStart => exact ⟨0, Nat.zero_le _, rfl, rfl⟩
  case round =>
    obtain ⟨k, hk, rfl, rfl⟩ := hrel
    by_cases hlt : k < s.size
    · have hkl : (kept (s.data.toList.take k)).length ≤ k := Nat.le_trans (kept_len _) (by simp; omega)
      have hts := take_snoc s k hlt
      have hb8 : s[k].toNat < 256 := UInt8.toNat_lt _
      by_cases hok : okb s[k] = true
      · have hsn : kept (s.data.toList.take (k + 1)) = kept (s.data.toList.take k) ++ [s[k]] := by rw [hts, kept_snoc_yes _ _ hok]
        have HS : Hid _ := hsn
        have hrange := (okb_iff _).1 hok
        have HR : Hid _ := hrange
        have hj := out_lt s o k hlt hok HO.out
        have hat := out_at s o k hlt hok HO.out hj
        clear hts hsn hok hrange
        generalize kept (s.data.toList.take k) = K at *
        go_wp2_with (go_at_call 8; refine (byte_yes _ _ hb8 HR.out).mono ?_; rintro e w' ⟨rfl, rfl⟩)
        go_round
        case rel => exact ⟨k + 1, by omega, by go_num, by rw [HS.out, List.length_append]; go_num⟩
        case measure => simp [intOf]; omega
      · have hsn : kept (s.data.toList.take (k + 1)) = kept (s.data.toList.take k) := by rw [hts, kept_snoc_no _ _ (by simpa using hok)]
        have HS : Hid _ := hsn
        have hrange := mt (okb_iff s[k]).2 hok
        have HR : Hid _ := hrange
        clear hts hsn hok hrange
        generalize kept (s.data.toList.take k) = K at *
        go_wp2_with (go_at_call 8; refine (byte_no _ _ hb8 HR.out).mono ?_; rintro e w' ⟨rfl, rfl⟩)
        go_round
        case rel => exact ⟨k + 1, by omega, by go_num, by rw [HS.out]⟩
        case measure => simp [intOf]; omega
    · have hke : k = s.size := by omega
      have hall : s.data.toList.take k = s.data.toList := List.take_of_length_le (by simp; omega)
      have hlen : ((kept (s.data.toList.take k)).length : Int) = (o.size : Int) := by rw [hall, HO.out]; rfl
      clear hall
      generalize kept (s.data.toList.take k) = K at *
      have hbq : ((K.length : Int) == (o.size : Int)) = true := beq_iff_eq.2 hlen
      clear hlen hke
      go_wp2
      go_ret
      exact ⟨rfl, hb⟩

theorem walk (a0 : ByteArray) (w0 : a0.size ≤ maxLen) (w : World) :
    Calls Trym.prog 3 #[.string a0] w fun e w' => e = .returned (.bool true) ∧ Below w.heap.size w w' := by
  by_cases h : 1048576 < a0.size
  · exact walk_long a0 w h w0
  · exact walk_short a0 w (by omega)

/-! ### THE ROW's STEP: WRITTEN OUT: LEAVE IT -/
set_option maxRecDepth 100000 in
theorem lifted (os : Os) (started : os.Started) (H : Type) (enc : TypeId × Value → H) :
    ReturnsInHanded {} Trym.checked os 3 .any (Rows.fnConditionReasonKeepsExactlyTheAllowedBytesSpec.pre6 enc Trym.prog Trym.f3 Rows.fnConditionReasonKeepsExactlyTheAllowedBytesRow.domain false) (Rows.fnConditionReasonKeepsExactlyTheAllowedBytesSpec.post enc Trym.prog Trym.f3 false true false false) := by
  refine returnsInHanded_of_change (C := Trym.checked) own started (by kernel_rfl) Trym.func3
    (ChangeSpec.witness6 (enc := enc) (C := Trym.checked) false ⟨#[], #[.string ByteArray.empty], []⟩ 8 (by kernel_rfl) (by kernel_rfl) (by kernel_rfl) (by kernel_rfl)) ?_
  intro W base args ds gs before hval0 hW hcnd _
  have hval : ∀ (j : Nat) t v, Trym.f3.params[j]? = some t → args[j]? = some v → Value.okWide Trym.prog W .any base t v := hval0
  have hW' := hW
  obtain ⟨p, q, hA0, hV, rfl, hfz, hnd⟩ := hW
  have hA : DataW.TrodAll enc Trym.prog W 0 (fun _ => true) true Trym.f3.params.toList args.toList ds p := hA0
  rw [Trym.params3] at hA hval
  obtain ⟨v0, vs0, d0, ds0, p0, q0, hargs, rfl, rfl, h0, r0⟩ := trodAll_cons hA
  obtain ⟨rfl, rfl, rfl⟩ := trodAll_nil r0
  obtain rfl : args = #[v0] := by cases args; simp_all
  obtain ⟨rfl, rfl⟩ := trodVars_none hV
  obtain ⟨a0, rfl, rfl, rfl, w0⟩ := open_string Trym.underlying9 (hval 0 9 v0 rfl rfl) h0
  clear hA0 hval0
  simp only [List.append_nil] at hW'
  refine (walk a0 w0 W).mono fun e W' ⟨he, bel⟩ => ?_
  subst he
  exact ⟨_, rfl, _, _, _, [], [], [], hW', trodAll_mk1 (shut_bool Trym.underlying4 _), (trodAll_cons_mk (shut_string Trym.underlying9 w0) trodAll_mk0), rfl, bel.frame _, fun h => by cases h⟩

theorem over : Rows.fnConditionReasonKeepsExactlyTheAllowedBytesRow.holds Trym.pinned (OpenSpec.ofChange Rows.fnConditionReasonKeepsExactlyTheAllowedBytesSpec) :=
  OpenClaim.holds_of_wide 3 Trym.f3 rfl rfl rfl rfl rfl rfl rfl ⟨rfl, rfl, rfl, rfl, rfl⟩ rfl rfl rfl rfl rfl (by kernel_rfl) Trym.func3 (by kernel_rfl)
    (of_decide_eq_true (by kernel_rfl)) (by unfold Func.isWrapper; first | (rw [if_pos (by decide +kernel)]; kernel_rfl) | (rw [if_neg (by decide +kernel)]; exact ⟨rfl, rfl⟩))
    (fun os started H enc _ => lifted os started H enc)

/-- The statement. -/
theorem proved : Rows.FnConditionReasonKeepsExactlyTheAllowedBytesSaid :=
  over
#print axioms proved
end Go.Proofs.Qxb6602517aMods.fnConditionReasonKeepsExactlyTheAllowedBytes
