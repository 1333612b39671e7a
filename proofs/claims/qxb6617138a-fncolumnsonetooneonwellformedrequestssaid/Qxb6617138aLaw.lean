import Derived.Test.Qxb6617138aWalks
namespace Go.Proofs.Qxb6617138a
open Go.RowKit
set_option linter.unusedSimpArgs false
set_option linter.unusedVariables false
set_option maxRecDepth 100000 in
set_option maxHeartbeats 1600000 in
theorem law_cc (s1 k1 o1 f1 s2 k2 o2 f2 : ByteArray) (h : s1.size + k1.size + o1.size + f1.size + s2.size + k2.size + o2.size + f2.size ≤ 1048576) (ho1 : o1.toList.isEmpty = false) (ho2 : o2.toList.isEmpty = false) (w : World) :
    Calls Try.prog 5 #[.string s1, .string k1, .string ⟨#[]⟩, .string ⟨#[]⟩, .string o1, .string f1, .string s2, .string k2, .string ⟨#[]⟩, .string ⟨#[]⟩, .string o2, .string f2] w fun e w' => e = .returned (.bool true) ∧ Below w.heap.size w w' := by
  have h1 : wfB ⟨#[]⟩ ⟨#[]⟩ o1 = true := by simp [wfB, *]
  have h2 : wfB ⟨#[]⟩ ⟨#[]⟩ o2 = true := by simp [wfB, *]
  go_enter Try.func5, Try.ntmps5
  go_wp2_with fail
  refine (zzb_yes s1 k1 ⟨#[]⟩ ⟨#[]⟩ o1 f1 s2 k2 ⟨#[]⟩ ⟨#[]⟩ o2 f2 (by rw [emp_size]; omega) _).mono ?_
  rintro e w' ⟨rfl, hw⟩
  have hw := hw.symm
  subst hw
  go_wp2_with fail
  refine (wf ⟨#[]⟩ ⟨#[]⟩ o1 _).mono ?_
  rintro e w' ⟨rfl, hw⟩
  have hw := hw.symm
  subst hw
  go_wp2_with fail
  refine (wf ⟨#[]⟩ ⟨#[]⟩ o2 _).mono ?_
  rintro e w' ⟨rfl, hw⟩
  have hw := hw.symm
  subst hw
  go_wp2_with fail
  refine (zzcols_call s1 k1 ⟨#[]⟩ ⟨#[]⟩ o1 f1 (by first | assumption | simp) _).mono ?_
  rintro e w' ⟨rfl, c1, d1, n1, rfl⟩
  go_wp2_with fail
  refine (zzcols_call s2 k2 ⟨#[]⟩ ⟨#[]⟩ o2 f2 (by first | assumption | simp) _).mono ?_
  rintro e w' ⟨rfl, c2, d2, n2, rfl⟩
  go_wp2
  go_ret
  refine ⟨?_, by repeat (first | exact Below.refl _ _ | refine bal ?_ _ | refine bdr ?_ _ | refine Below.drew ?_)⟩
  first | rfl | exact ret_bool (by simp [app_emp, emp_app])
set_option maxRecDepth 100000 in
set_option maxHeartbeats 1600000 in
theorem law_hh_false_false (s1 k1 m1 t1 f1 s2 k2 m2 t2 f2 : ByteArray) (h : s1.size + k1.size + m1.size + t1.size + f1.size + s2.size + k2.size + m2.size + t2.size + f2.size ≤ 1048576) (hm1 : m1.toList.isEmpty = false) (hm2 : m2.toList.isEmpty = false) (em : (m1.toList == m2.toList) = false) (et : (t1.toList == t2.toList) = false) (w : World) :
    Calls Try.prog 5 #[.string s1, .string k1, .string m1, .string t1, .string ⟨#[]⟩, .string f1, .string s2, .string k2, .string m2, .string t2, .string ⟨#[]⟩, .string f2] w fun e w' => e = .returned (.bool true) ∧ Below w.heap.size w w' := by
  have h1 : wfB m1 t1 ⟨#[]⟩ = true := by simp [wfB, *]
  have h2 : wfB m2 t2 ⟨#[]⟩ = true := by simp [wfB, *]
  go_enter Try.func5, Try.ntmps5
  go_wp2_with fail
  refine (zzb_yes s1 k1 m1 t1 ⟨#[]⟩ f1 s2 k2 m2 t2 ⟨#[]⟩ f2 (by rw [emp_size]; omega) _).mono ?_
  rintro e w' ⟨rfl, hw⟩
  have hw := hw.symm
  subst hw
  go_wp2_with fail
  refine (wf m1 t1 ⟨#[]⟩ _).mono ?_
  rintro e w' ⟨rfl, hw⟩
  have hw := hw.symm
  subst hw
  go_wp2_with fail
  refine (wf m2 t2 ⟨#[]⟩ _).mono ?_
  rintro e w' ⟨rfl, hw⟩
  have hw := hw.symm
  subst hw
  go_wp2_with fail
  refine (zzcols_http s1 k1 m1 t1 ⟨#[]⟩ f1 (by first | assumption | simp) _).mono ?_
  rintro e w' ⟨rfl, c1, d1, n1, rfl⟩
  go_wp2_with fail
  refine (zzcols_http s2 k2 m2 t2 ⟨#[]⟩ f2 (by first | assumption | simp) _).mono ?_
  rintro e w' ⟨rfl, c2, d2, n2, rfl⟩
  go_wp2
  go_ret
  refine ⟨?_, by repeat (first | exact Below.refl _ _ | refine bal ?_ _ | refine bdr ?_ _ | refine Below.drew ?_)⟩
  first | rfl | exact ret_bool (by simp [app_emp, emp_app])
set_option maxRecDepth 100000 in
set_option maxHeartbeats 1600000 in
theorem law_hh_false_true (s1 k1 m1 t1 f1 s2 k2 m2 t2 f2 : ByteArray) (h : s1.size + k1.size + m1.size + t1.size + f1.size + s2.size + k2.size + m2.size + t2.size + f2.size ≤ 1048576) (hm1 : m1.toList.isEmpty = false) (hm2 : m2.toList.isEmpty = false) (em : (m1.toList == m2.toList) = false) (et : (t1.toList == t2.toList) = true) (w : World) :
    Calls Try.prog 5 #[.string s1, .string k1, .string m1, .string t1, .string ⟨#[]⟩, .string f1, .string s2, .string k2, .string m2, .string t2, .string ⟨#[]⟩, .string f2] w fun e w' => e = .returned (.bool true) ∧ Below w.heap.size w w' := by
  have h1 : wfB m1 t1 ⟨#[]⟩ = true := by simp [wfB, *]
  have h2 : wfB m2 t2 ⟨#[]⟩ = true := by simp [wfB, *]
  go_enter Try.func5, Try.ntmps5
  go_wp2_with fail
  refine (zzb_yes s1 k1 m1 t1 ⟨#[]⟩ f1 s2 k2 m2 t2 ⟨#[]⟩ f2 (by rw [emp_size]; omega) _).mono ?_
  rintro e w' ⟨rfl, hw⟩
  have hw := hw.symm
  subst hw
  go_wp2_with fail
  refine (wf m1 t1 ⟨#[]⟩ _).mono ?_
  rintro e w' ⟨rfl, hw⟩
  have hw := hw.symm
  subst hw
  go_wp2_with fail
  refine (wf m2 t2 ⟨#[]⟩ _).mono ?_
  rintro e w' ⟨rfl, hw⟩
  have hw := hw.symm
  subst hw
  go_wp2_with fail
  refine (zzcols_http s1 k1 m1 t1 ⟨#[]⟩ f1 (by first | assumption | simp) _).mono ?_
  rintro e w' ⟨rfl, c1, d1, n1, rfl⟩
  go_wp2_with fail
  refine (zzcols_http s2 k2 m2 t2 ⟨#[]⟩ f2 (by first | assumption | simp) _).mono ?_
  rintro e w' ⟨rfl, c2, d2, n2, rfl⟩
  go_wp2
  go_ret
  refine ⟨?_, by repeat (first | exact Below.refl _ _ | refine bal ?_ _ | refine bdr ?_ _ | refine Below.drew ?_)⟩
  first | rfl | exact ret_bool (by simp [app_emp, emp_app])
set_option maxRecDepth 100000 in
set_option maxHeartbeats 1600000 in
theorem law_hh_true_false (s1 k1 m1 t1 f1 s2 k2 m2 t2 f2 : ByteArray) (h : s1.size + k1.size + m1.size + t1.size + f1.size + s2.size + k2.size + m2.size + t2.size + f2.size ≤ 1048576) (hm1 : m1.toList.isEmpty = false) (hm2 : m2.toList.isEmpty = false) (em : (m1.toList == m2.toList) = true) (et : (t1.toList == t2.toList) = false) (w : World) :
    Calls Try.prog 5 #[.string s1, .string k1, .string m1, .string t1, .string ⟨#[]⟩, .string f1, .string s2, .string k2, .string m2, .string t2, .string ⟨#[]⟩, .string f2] w fun e w' => e = .returned (.bool true) ∧ Below w.heap.size w w' := by
  have h1 : wfB m1 t1 ⟨#[]⟩ = true := by simp [wfB, *]
  have h2 : wfB m2 t2 ⟨#[]⟩ = true := by simp [wfB, *]
  go_enter Try.func5, Try.ntmps5
  go_wp2_with fail
  refine (zzb_yes s1 k1 m1 t1 ⟨#[]⟩ f1 s2 k2 m2 t2 ⟨#[]⟩ f2 (by rw [emp_size]; omega) _).mono ?_
  rintro e w' ⟨rfl, hw⟩
  have hw := hw.symm
  subst hw
  go_wp2_with fail
  refine (wf m1 t1 ⟨#[]⟩ _).mono ?_
  rintro e w' ⟨rfl, hw⟩
  have hw := hw.symm
  subst hw
  go_wp2_with fail
  refine (wf m2 t2 ⟨#[]⟩ _).mono ?_
  rintro e w' ⟨rfl, hw⟩
  have hw := hw.symm
  subst hw
  go_wp2_with fail
  refine (zzcols_http s1 k1 m1 t1 ⟨#[]⟩ f1 (by first | assumption | simp) _).mono ?_
  rintro e w' ⟨rfl, c1, d1, n1, rfl⟩
  go_wp2_with fail
  refine (zzcols_http s2 k2 m2 t2 ⟨#[]⟩ f2 (by first | assumption | simp) _).mono ?_
  rintro e w' ⟨rfl, c2, d2, n2, rfl⟩
  go_wp2
  go_ret
  refine ⟨?_, by repeat (first | exact Below.refl _ _ | refine bal ?_ _ | refine bdr ?_ _ | refine Below.drew ?_)⟩
  first | rfl | exact ret_bool (by simp [app_emp, emp_app])
set_option maxRecDepth 100000 in
set_option maxHeartbeats 1600000 in
theorem law_hh_true_true (s1 k1 m1 t1 f1 s2 k2 m2 t2 f2 : ByteArray) (h : s1.size + k1.size + m1.size + t1.size + f1.size + s2.size + k2.size + m2.size + t2.size + f2.size ≤ 1048576) (hm1 : m1.toList.isEmpty = false) (hm2 : m2.toList.isEmpty = false) (em : (m1.toList == m2.toList) = true) (et : (t1.toList == t2.toList) = true) (w : World) :
    Calls Try.prog 5 #[.string s1, .string k1, .string m1, .string t1, .string ⟨#[]⟩, .string f1, .string s2, .string k2, .string m2, .string t2, .string ⟨#[]⟩, .string f2] w fun e w' => e = .returned (.bool true) ∧ Below w.heap.size w w' := by
  have h1 : wfB m1 t1 ⟨#[]⟩ = true := by simp [wfB, *]
  have h2 : wfB m2 t2 ⟨#[]⟩ = true := by simp [wfB, *]
  go_enter Try.func5, Try.ntmps5
  go_wp2_with fail
  refine (zzb_yes s1 k1 m1 t1 ⟨#[]⟩ f1 s2 k2 m2 t2 ⟨#[]⟩ f2 (by rw [emp_size]; omega) _).mono ?_
  rintro e w' ⟨rfl, hw⟩
  have hw := hw.symm
  subst hw
  go_wp2_with fail
  refine (wf m1 t1 ⟨#[]⟩ _).mono ?_
  rintro e w' ⟨rfl, hw⟩
  have hw := hw.symm
  subst hw
  go_wp2_with fail
  refine (wf m2 t2 ⟨#[]⟩ _).mono ?_
  rintro e w' ⟨rfl, hw⟩
  have hw := hw.symm
  subst hw
  go_wp2_with fail
  refine (zzcols_http s1 k1 m1 t1 ⟨#[]⟩ f1 (by first | assumption | simp) _).mono ?_
  rintro e w' ⟨rfl, c1, d1, n1, rfl⟩
  go_wp2_with fail
  refine (zzcols_http s2 k2 m2 t2 ⟨#[]⟩ f2 (by first | assumption | simp) _).mono ?_
  rintro e w' ⟨rfl, c2, d2, n2, rfl⟩
  go_wp2
  go_ret
  refine ⟨?_, by repeat (first | exact Below.refl _ _ | refine bal ?_ _ | refine bdr ?_ _ | refine Below.drew ?_)⟩
  first | rfl | exact ret_bool (by simp [app_emp, emp_app])
set_option maxRecDepth 100000 in
set_option maxHeartbeats 1600000 in
theorem law_ch (s1 k1 o1 f1 s2 k2 m2 t2 f2 : ByteArray) (h : s1.size + k1.size + o1.size + f1.size + s2.size + k2.size + m2.size + t2.size + f2.size ≤ 1048576) (ho1 : o1.toList.isEmpty = false) (hm2 : m2.toList.isEmpty = false) (w : World) :
    Calls Try.prog 5 #[.string s1, .string k1, .string ⟨#[]⟩, .string ⟨#[]⟩, .string o1, .string f1, .string s2, .string k2, .string m2, .string t2, .string ⟨#[]⟩, .string f2] w fun e w' => e = .returned (.bool true) ∧ Below w.heap.size w w' := by
  have h1 : wfB ⟨#[]⟩ ⟨#[]⟩ o1 = true := by simp [wfB, *]
  have h2 : wfB m2 t2 ⟨#[]⟩ = true := by simp [wfB, *]
  have hx : (([] : List UInt8) == m2.toList) = false := emp_beq hm2
  go_enter Try.func5, Try.ntmps5
  go_wp2_with fail
  refine (zzb_yes s1 k1 ⟨#[]⟩ ⟨#[]⟩ o1 f1 s2 k2 m2 t2 ⟨#[]⟩ f2 (by rw [emp_size]; omega) _).mono ?_
  rintro e w' ⟨rfl, hw⟩
  have hw := hw.symm
  subst hw
  go_wp2_with fail
  refine (wf ⟨#[]⟩ ⟨#[]⟩ o1 _).mono ?_
  rintro e w' ⟨rfl, hw⟩
  have hw := hw.symm
  subst hw
  go_wp2_with fail
  refine (wf m2 t2 ⟨#[]⟩ _).mono ?_
  rintro e w' ⟨rfl, hw⟩
  have hw := hw.symm
  subst hw
  go_wp2_with fail
  refine (zzcols_call s1 k1 ⟨#[]⟩ ⟨#[]⟩ o1 f1 (by first | assumption | simp) _).mono ?_
  rintro e w' ⟨rfl, c1, d1, n1, rfl⟩
  go_wp2_with fail
  refine (zzcols_http s2 k2 m2 t2 ⟨#[]⟩ f2 (by first | assumption | simp) _).mono ?_
  rintro e w' ⟨rfl, c2, d2, n2, rfl⟩
  go_wp2
  go_ret
  refine ⟨?_, by repeat (first | exact Below.refl _ _ | refine bal ?_ _ | refine bdr ?_ _ | refine Below.drew ?_)⟩
  first | rfl | exact ret_bool (by simp [app_emp, emp_app])
set_option maxRecDepth 100000 in
set_option maxHeartbeats 1600000 in
theorem law_hc (s1 k1 m1 t1 f1 s2 k2 o2 f2 : ByteArray) (h : s1.size + k1.size + m1.size + t1.size + f1.size + s2.size + k2.size + o2.size + f2.size ≤ 1048576) (hm1 : m1.toList.isEmpty = false) (ho2 : o2.toList.isEmpty = false) (w : World) :
    Calls Try.prog 5 #[.string s1, .string k1, .string m1, .string t1, .string ⟨#[]⟩, .string f1, .string s2, .string k2, .string ⟨#[]⟩, .string ⟨#[]⟩, .string o2, .string f2] w fun e w' => e = .returned (.bool true) ∧ Below w.heap.size w w' := by
  have h1 : wfB m1 t1 ⟨#[]⟩ = true := by simp [wfB, *]
  have h2 : wfB ⟨#[]⟩ ⟨#[]⟩ o2 = true := by simp [wfB, *]
  go_enter Try.func5, Try.ntmps5
  go_wp2_with fail
  refine (zzb_yes s1 k1 m1 t1 ⟨#[]⟩ f1 s2 k2 ⟨#[]⟩ ⟨#[]⟩ o2 f2 (by rw [emp_size]; omega) _).mono ?_
  rintro e w' ⟨rfl, hw⟩
  have hw := hw.symm
  subst hw
  go_wp2_with fail
  refine (wf m1 t1 ⟨#[]⟩ _).mono ?_
  rintro e w' ⟨rfl, hw⟩
  have hw := hw.symm
  subst hw
  go_wp2_with fail
  refine (wf ⟨#[]⟩ ⟨#[]⟩ o2 _).mono ?_
  rintro e w' ⟨rfl, hw⟩
  have hw := hw.symm
  subst hw
  go_wp2_with fail
  refine (zzcols_http s1 k1 m1 t1 ⟨#[]⟩ f1 (by first | assumption | simp) _).mono ?_
  rintro e w' ⟨rfl, c1, d1, n1, rfl⟩
  go_wp2_with fail
  refine (zzcols_call s2 k2 ⟨#[]⟩ ⟨#[]⟩ o2 f2 (by first | assumption | simp) _).mono ?_
  rintro e w' ⟨rfl, c2, d2, n2, rfl⟩
  go_wp2
  go_ret
  refine ⟨?_, by repeat (first | exact Below.refl _ _ | refine bal ?_ _ | refine bdr ?_ _ | refine Below.drew ?_)⟩
  first | rfl | exact ret_bool (by simp [app_emp, emp_app])
theorem law (s1 k1 m1 t1 o1 f1 s2 k2 m2 t2 o2 f2 : ByteArray) (w0 : s1.size ≤ maxLen) (w1 : k1.size ≤ maxLen) (w2 : m1.size ≤ maxLen) (w3 : t1.size ≤ maxLen) (w4 : o1.size ≤ maxLen) (w5 : f1.size ≤ maxLen) (w6 : s2.size ≤ maxLen) (w7 : k2.size ≤ maxLen) (w8 : m2.size ≤ maxLen) (w9 : t2.size ≤ maxLen) (w10 : o2.size ≤ maxLen) (w11 : f2.size ≤ maxLen) (w : World) :
    Calls Try.prog 5 #[.string s1, .string k1, .string m1, .string t1, .string o1, .string f1, .string s2, .string k2, .string m2, .string t2, .string o2, .string f2] w fun e w' => e = .returned (.bool true) ∧ Below w.heap.size w w' := by
  have same : ∀ (e : Ending) (w' : World), e = .returned (.bool true) ∧ w' = w → e = .returned (.bool true) ∧ Below w.heap.size w w' := fun e w' ⟨he, hw⟩ => ⟨he, by rw [hw]; exact Below.refl _ _⟩
  by_cases h : s1.size + k1.size + m1.size + t1.size + o1.size + f1.size + s2.size + k2.size + m2.size + t2.size + o2.size + f2.size ≤ 1048576
  case neg => exact (law_long s1 k1 m1 t1 o1 f1 s2 k2 m2 t2 o2 f2 (by omega) w0 w1 w2 w3 w4 w5 w6 w7 w8 w9 w10 w11 w).mono same
  cases h1 : wfB m1 t1 o1
  case false => exact (law_bad1 s1 k1 m1 t1 o1 f1 s2 k2 m2 t2 o2 f2 h h1 w).mono same
  cases h2 : wfB m2 t2 o2
  case false => exact (law_bad2 s1 k1 m1 t1 o1 f1 s2 k2 m2 t2 o2 f2 h h1 h2 w).mono same
  clear same
  rcases wf_cases h1 with ⟨rfl, a1⟩ | ⟨a1, rfl, rfl⟩ <;> rcases wf_cases h2 with ⟨rfl, a2⟩ | ⟨a2, rfl, rfl⟩
  · have h' : s1.size + k1.size + m1.size + t1.size + f1.size + s2.size + k2.size + m2.size + t2.size + f2.size ≤ 1048576 := by rw [emp_size] at h; omega
    cases em : (m1.toList == m2.toList) <;> cases et : (t1.toList == t2.toList)
    · exact law_hh_false_false s1 k1 m1 t1 f1 s2 k2 m2 t2 f2 h' a1 a2 em et w
    · exact law_hh_false_true s1 k1 m1 t1 f1 s2 k2 m2 t2 f2 h' a1 a2 em et w
    · exact law_hh_true_false s1 k1 m1 t1 f1 s2 k2 m2 t2 f2 h' a1 a2 em et w
    · exact law_hh_true_true s1 k1 m1 t1 f1 s2 k2 m2 t2 f2 h' a1 a2 em et w
  · exact law_hc s1 k1 m1 t1 f1 s2 k2 o2 f2 (by rw [emp_size] at h; omega) a1 a2 w
  · exact law_ch s1 k1 o1 f1 s2 k2 m2 t2 f2 (by rw [emp_size] at h; omega) a1 a2 w
  · exact law_cc s1 k1 o1 f1 s2 k2 o2 f2 (by rw [emp_size] at h; omega) a1 a2 w
end Go.Proofs.Qxb6617138a
