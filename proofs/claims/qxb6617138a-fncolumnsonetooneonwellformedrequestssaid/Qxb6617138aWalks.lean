import Derived.Test.Qxb6617138aRows
import Derived.WalkKit
import Derived.WalkSpells
import Derived.WalkLawsBesides
import Derived.Deep.QuietTactic
import Derived.BigQuiet
namespace Go.Proofs.Qxb6617138a
open Go.RowKit
theorem ret_bool {a b : Bool} (h : a = b) : Ending.returned (.bool a) = .returned (.bool b) := by rw [h]
theorem bal {a w : World} (h : Below a.heap.size a w) (o : Obj) : Below a.heap.size a (w.alloc o) := h.alloc h.size o
theorem bdr {a b : World} (h : Below a.heap.size a b) (n : Nat) : Below a.heap.size a (b.drewN n) := ⟨h.os, h.tape, h.output, h.size, h.block⟩
theorem emp_size : (⟨#[]⟩ : ByteArray).size = 0 := rfl
theorem emp_beq {l : List UInt8} (h : l.isEmpty = false) : (([] : List UInt8) == l) = false := by
  cases l with
  | nil => simp at h
  | cons a l => rfl
theorem app_emp (a : ByteArray) : a ++ (⟨#[]⟩ : ByteArray) = a := by
  apply ByteArray.ext
  simp
theorem emp_app (a : ByteArray) : (⟨#[]⟩ : ByteArray) ++ a = a := by
  apply ByteArray.ext
  simp
theorem eq_emp {s : ByteArray} (h : s.toList.isEmpty = true) : s = ⟨#[]⟩ := by
  have h1 : s.data.toList = [] := by rw [← Go.ByteArray.toList_eq]; exact List.isEmpty_iff.1 h
  apply ByteArray.ext
  exact Array.toList_inj.1 h1
set_option maxHeartbeats 1600000 in
theorem zzb_yes (s1 k1 m1 t1 o1 f1 s2 k2 m2 t2 o2 f2 : ByteArray) (h : s1.size + k1.size + m1.size + t1.size + o1.size + f1.size + s2.size + k2.size + m2.size + t2.size + o2.size + f2.size ≤ 1048576) (w : World) :
    Calls Try.prog 11 #[.string s1, .string k1, .string m1, .string t1, .string o1, .string f1, .string s2, .string k2, .string m2, .string t2, .string o2, .string f2] w fun e w' => e = .returned (.bool true) ∧ w' = w := by
  go_enter Try.func11, Try.ntmps11
  go_wp2
  go_ret
  exact ⟨rfl, rfl⟩
set_option maxHeartbeats 1600000 in
theorem zzb_no (s1 k1 m1 t1 o1 f1 s2 k2 m2 t2 o2 f2 : ByteArray) (h : 1048576 < s1.size + k1.size + m1.size + t1.size + o1.size + f1.size + s2.size + k2.size + m2.size + t2.size + o2.size + f2.size) (w0 : s1.size ≤ maxLen) (w1 : k1.size ≤ maxLen) (w2 : m1.size ≤ maxLen) (w3 : t1.size ≤ maxLen) (w4 : o1.size ≤ maxLen) (w5 : f1.size ≤ maxLen) (w6 : s2.size ≤ maxLen) (w7 : k2.size ≤ maxLen) (w8 : m2.size ≤ maxLen) (w9 : t2.size ≤ maxLen) (w10 : o2.size ≤ maxLen) (w11 : f2.size ≤ maxLen) (w : World) :
    Calls Try.prog 11 #[.string s1, .string k1, .string m1, .string t1, .string o1, .string f1, .string s2, .string k2, .string m2, .string t2, .string o2, .string f2] w fun e w' => e = .returned (.bool false) ∧ w' = w := by
  unfold maxLen at w0 w1 w2 w3 w4 w5 w6 w7 w8 w9 w10 w11
  go_enter Try.func11, Try.ntmps11
  go_wp2
  all_goals (go_ret; exact ⟨rfl, rfl⟩)
/-- a well-formed request -/
def wfB (m t o : ByteArray) : Bool := if o.toList.isEmpty then !m.toList.isEmpty else m.toList.isEmpty && t.toList.isEmpty
set_option maxHeartbeats 800000 in
theorem wf (m t o : ByteArray) (w : World) : Calls Try.prog 12 #[.string m, .string t, .string o] w fun e w' => e = .returned (.bool (wfB m t o)) ∧ w' = w := by
  cases ho : o.toList.isEmpty <;> cases hm : m.toList.isEmpty
  all_goals
    go_enter Try.func12, Try.ntmps12
    go_wp2
    go_ret
    exact ⟨ret_bool (by simp [wfB, ho, hm]), rfl⟩
set_option maxHeartbeats 800000 in
theorem cols_call (s k m t o f : ByteArray) (ho : o.toList.isEmpty = false) (w : World) : Calls Try.prog 16 #[.agg #[.string s, .string k, .string m, .string t, .string o, .string f]] w fun e w' =>
    e = .returned (.tuple #[.string ⟨#[]⟩, .string o]) ∧ ∃ c n, w' = (w.alloc (.cells c 28)).drewN n := by
  go_enter Try.func16, Try.ntmps16
  go_wp2
  go_quiet (fail)
  go_wp2
  go_ret2
  exact ⟨rfl, _, _, rfl⟩
set_option maxHeartbeats 800000 in
theorem cols_http (s k m t o f : ByteArray) (ho : o.toList.isEmpty = true) (w : World) : Calls Try.prog 16 #[.agg #[.string s, .string k, .string m, .string t, .string o, .string f]] w fun e w' =>
    e = .returned (.tuple #[.string m, .string t]) ∧ ∃ c n, w' = (w.alloc (.cells c 28)).drewN n := by
  go_enter Try.func16, Try.ntmps16
  go_wp2
  go_quiet (fail)
  go_wp2
  go_ret2
  exact ⟨rfl, _, _, rfl⟩
set_option maxHeartbeats 800000 in
theorem zzcols_call (s k m t o f : ByteArray) (ho : o.toList.isEmpty = false) (w : World) : Calls Try.prog 13 #[.agg #[.string s, .string k, .string m, .string t, .string o, .string f]] w fun e w' =>
    e = .returned (.tuple #[.string ⟨#[]⟩, .string o]) ∧ ∃ c d n, w' = ((w.alloc (.cells c 28)).alloc (.cells d 28)).drewN n := by
  go_enter Try.func13, Try.ntmps13
  go_wp2_with fail
  refine (cols_call s k m t o f ho _).mono ?_
  rintro e w' ⟨rfl, c, n, rfl⟩
  go_wp2
  go_ret2
  exact ⟨rfl, _, _, _, rfl⟩
set_option maxHeartbeats 800000 in
theorem zzcols_http (s k m t o f : ByteArray) (ho : o.toList.isEmpty = true) (w : World) : Calls Try.prog 13 #[.agg #[.string s, .string k, .string m, .string t, .string o, .string f]] w fun e w' =>
    e = .returned (.tuple #[.string m, .string t]) ∧ ∃ c d n, w' = ((w.alloc (.cells c 28)).alloc (.cells d 28)).drewN n := by
  go_enter Try.func13, Try.ntmps13
  go_wp2_with fail
  refine (cols_http s k m t o f ho _).mono ?_
  rintro e w' ⟨rfl, c, n, rfl⟩
  go_wp2
  go_ret2
  exact ⟨rfl, _, _, _, rfl⟩
set_option maxRecDepth 100000 in
set_option maxHeartbeats 1600000 in
theorem law_long (s1 k1 m1 t1 o1 f1 s2 k2 m2 t2 o2 f2 : ByteArray) (h : 1048576 < s1.size + k1.size + m1.size + t1.size + o1.size + f1.size + s2.size + k2.size + m2.size + t2.size + o2.size + f2.size) (w0 : s1.size ≤ maxLen) (w1 : k1.size ≤ maxLen) (w2 : m1.size ≤ maxLen) (w3 : t1.size ≤ maxLen) (w4 : o1.size ≤ maxLen) (w5 : f1.size ≤ maxLen) (w6 : s2.size ≤ maxLen) (w7 : k2.size ≤ maxLen) (w8 : m2.size ≤ maxLen) (w9 : t2.size ≤ maxLen) (w10 : o2.size ≤ maxLen) (w11 : f2.size ≤ maxLen) (w : World) :
    Calls Try.prog 5 #[.string s1, .string k1, .string m1, .string t1, .string o1, .string f1, .string s2, .string k2, .string m2, .string t2, .string o2, .string f2] w fun e w' => e = .returned (.bool true) ∧ w' = w := by
  go_enter Try.func5, Try.ntmps5
  go_wp2_with (go_at_call 11; refine (zzb_no s1 k1 m1 t1 o1 f1 s2 k2 m2 t2 o2 f2 h w0 w1 w2 w3 w4 w5 w6 w7 w8 w9 w10 w11 _).mono ?_; rintro e w' ⟨rfl, rfl⟩)
  go_ret
  exact ⟨rfl, rfl⟩
set_option maxRecDepth 100000 in
set_option maxHeartbeats 1600000 in
theorem law_bad1 (s1 k1 m1 t1 o1 f1 s2 k2 m2 t2 o2 f2 : ByteArray) (h : s1.size + k1.size + m1.size + t1.size + o1.size + f1.size + s2.size + k2.size + m2.size + t2.size + o2.size + f2.size ≤ 1048576) (h1 : wfB m1 t1 o1 = false) (w : World) :
    Calls Try.prog 5 #[.string s1, .string k1, .string m1, .string t1, .string o1, .string f1, .string s2, .string k2, .string m2, .string t2, .string o2, .string f2] w fun e w' => e = .returned (.bool true) ∧ w' = w := by
  go_enter Try.func5, Try.ntmps5
  go_wp2_with (first | (go_at_call 11; refine (zzb_yes s1 k1 m1 t1 o1 f1 s2 k2 m2 t2 o2 f2 h _).mono ?_; rintro e w' ⟨rfl, rfl⟩) | (go_at_call 12; refine (wf m1 t1 o1 _).mono ?_; rintro e w' ⟨rfl, rfl⟩))
  go_ret
  exact ⟨rfl, rfl⟩
set_option maxRecDepth 100000 in
set_option maxHeartbeats 1600000 in
theorem law_bad2 (s1 k1 m1 t1 o1 f1 s2 k2 m2 t2 o2 f2 : ByteArray) (h : s1.size + k1.size + m1.size + t1.size + o1.size + f1.size + s2.size + k2.size + m2.size + t2.size + o2.size + f2.size ≤ 1048576) (h1 : wfB m1 t1 o1 = true) (h2 : wfB m2 t2 o2 = false) (w : World) :
    Calls Try.prog 5 #[.string s1, .string k1, .string m1, .string t1, .string o1, .string f1, .string s2, .string k2, .string m2, .string t2, .string o2, .string f2] w fun e w' => e = .returned (.bool true) ∧ w' = w := by
  go_enter Try.func5, Try.ntmps5
  go_wp2_with fail
  refine (zzb_yes s1 k1 m1 t1 o1 f1 s2 k2 m2 t2 o2 f2 h _).mono ?_
  rintro e w' ⟨rfl, rfl⟩
  go_wp2_with fail
  refine (wf m1 t1 o1 _).mono ?_
  rintro e w' ⟨rfl, rfl⟩
  go_wp2_with fail
  refine (wf m2 t2 o2 _).mono ?_
  rintro e w' ⟨rfl, rfl⟩
  go_wp2
  go_ret
  exact ⟨rfl, rfl⟩
theorem wf_cases {m t o : ByteArray} (h : wfB m t o = true) : (o = ⟨#[]⟩ ∧ m.toList.isEmpty = false) ∨ (o.toList.isEmpty = false ∧ m = ⟨#[]⟩ ∧ t = ⟨#[]⟩) := by
  unfold wfB at h
  cases ho : o.toList.isEmpty
  · rw [ho] at h
    simp only [Bool.false_eq_true, if_false, Bool.and_eq_true] at h
    exact Or.inr ⟨rfl, eq_emp h.1, eq_emp h.2⟩
  · rw [ho] at h
    simp only [if_true, Bool.not_eq_true'] at h
    exact Or.inl ⟨eq_emp ho, h⟩
end Go.Proofs.Qxb6617138a
