-- PRINTED BY print.sh 35421559b90ae4d0a3588c463048766b98c2df88dd9212a6774a882060cdf62d: not written by this session
import Derived.Test.YtdjilnhalpmabaaPFnGjSimpleNamex0
namespace Go.Proofs.Ytdjilnhalpmabaa.PFnGjSimpleName
open Go.RowKit Go.Proofs.YtdjilnhalpmabaaW.PrintWords Go.Proofs.YtdjilnhalpmabaaW.PrintLast Go.Proofs.YtdjilnhalpmabaaW.PrintMore
attribute [local go_sem] max2_int min2_int max_two min_two max_three min_three max_four min_four   -- for this text's walks alone
set_option linter.unusedVariables false
set_option linter.unusedSimpArgs false

/-! ### gjson_isSimpleName: function 33 -/
def gjson_isSimpleName.l0 : Nat → ByteArray → Int → Option (Bool)
  | 0, _, _ => none
  | k + 1, x0, x3 => if x3 < (x0.size : Int) then (if 0 ≤ x3 then (if (bt x0 x3) < 32 then (some false) else (if (bt x0 x3) = 91 then (some false) else (if (bt x0 x3) = 93 then (some false) else (if (bt x0 x3) = 123 then (some false) else (if (bt x0 x3) = 125 then (some false) else (if (bt x0 x3) = 40 then (some false) else (if (bt x0 x3) = 41 then (some false) else (if (bt x0 x3) = 35 then (some false) else (if (bt x0 x3) = 124 then (some false) else (if (bt x0 x3) = 33 then (some false) else (gjson_isSimpleName.l0 k x0 (wrap64 (x3 + 1))))))))))))) else (none)) else (some true)
def gjson_isSimpleName.f (k : Nat) (a0 : ByteArray) : Option (Bool) := gjson_isSimpleName.l0 k a0 0
theorem gjson_isSimpleName.mono_l : ∀ k, (∀ y0 y1, LeO (gjson_isSimpleName.l0 k y0 y1) (gjson_isSimpleName.l0 (k + 1) y0 y1))
  | 0 => fun _ _ r h => by simp [gjson_isSimpleName.l0] at h
  | k + 1 => by
    have ih0 := gjson_isSimpleName.mono_l k
    · intro y0 y1
      unfold gjson_isSimpleName.l0
      repeat' first
      | (with_reducible exact ih0 _ _)
      | (with_reducible exact LeO.refl _)
      | (with_reducible exact LeO.none _)
      | (with_reducible refine LeO.ite ?_ ?_)
      | (with_reducible refine LeO.bind ?_ (fun _ => ?_))
      | exact ih0 _ _
      | exact LeO.none _
      | refine LeO.ite ?_ ?_
      | refine LeO.bind ?_ (fun _ => ?_)
theorem gjson_isSimpleName.mono : ∀ a0 k, LeO (gjson_isSimpleName.f k a0) (gjson_isSimpleName.f (k + 1) a0) := by
  intro a0 k
  have ih0 := gjson_isSimpleName.mono_l k
  unfold gjson_isSimpleName.f
  repeat' first
      | (with_reducible exact ih0 _ _)
      | (with_reducible exact LeO.refl _)
      | (with_reducible exact LeO.none _)
      | (with_reducible refine LeO.ite ?_ ?_)
      | (with_reducible refine LeO.bind ?_ (fun _ => ?_))
      | exact ih0 _ _
      | exact LeO.none _
      | refine LeO.ite ?_ ?_
      | refine LeO.bind ?_ (fun _ => ?_)
set_option maxHeartbeats 8000000 in
set_option maxRecDepth 100000 in
theorem gjson_isSimpleName.calls (k : Nat) (a0 : ByteArray) (r : Bool) (w : World) (h : gjson_isSimpleName.f k a0 = some r) :
    Calls Try.prog 33 #[.string a0] w fun e w' => e = .returned (.bool r) ∧ Drawn0 w w' := by
  have H : (gjson_isSimpleName.l0 k a0 0) = some r := h
  clear h
  have H' := Aside0.mk H
  clear H
  go_enter Try.func33, Try.ntmps33
  go_wp2
  go_loopg [3] k (fun kq v3 w' => ∃ (x3_1 : Int), v3 = .int .i64 x3_1 ∧ Aside0 (gjson_isSimpleName.l0 kq a0 x3_1 = some r) ∧ Aside0 (kq ≤ k) ∧ Drawn0 w w')
  case atStart => exact ⟨(0), (by first | rfl | (simp; done) | (simp [*]; done)), H', ⟨Nat.le_refl _⟩, by repeat (first | exact Drawn0.refl _ | apply Drawn0.step)⟩
  case round =>
    clear H'
    obtain ⟨x3_1, rfl, HA, HK1, ⟨m1, rfl⟩⟩ := hrel
    cases gk with
    | zero => exact absurd HA.out (by simp [gjson_isSimpleName.l0])
    | succ k1 =>
      have H := HA.out
      clear HA
      simp only [gjson_isSimpleName.l0] at H
      by_cases c2 : x3_1 < (a0.size : Int)
      · rw [if_pos c2] at H
        have c2b0 : decide (x3_1 < (a0.size : Int)) = true := decide_eq_true c2
        clear c2
        by_cases c3 : 0 ≤ x3_1
        · rw [if_pos c3] at H
          have c3b0 : decide (0 ≤ x3_1) = true := decide_eq_true c3
          clear c3
          by_cases c5 : (bt a0 x3_1) < 32
          · rw [if_pos c5] at H
            have c5b0 : decide ((bt a0 x3_1) < 32) = true := decide_eq_true c5
            clear c5
            obtain rfl := Option.some.inj H
            have p4 : 0 ≤ (x3_1 : Int) := of_decide_eq_true (by first | (with_reducible assumption) | assumption)
            have q4 : x3_1 < (a0.size : Int) := of_decide_eq_true (by first | (with_reducible assumption) | assumption)
            have hx4 := bt_at a0 x3_1
            replace p4 := eq_true p4
            replace q4 := eq_true q4
            go_wp2
            go_ret
            exact ⟨by first | rfl | (simp; done) | (simp [*]; done), by repeat (first | exact Drawn0.refl _ | apply Drawn0.step)⟩
          · rw [if_neg c5] at H
            have c5b0 : decide ((bt a0 x3_1) < 32) = false := decide_eq_false c5
            clear c5
            by_cases c7 : (bt a0 x3_1) = 91
            · rw [if_pos c7] at H
              have c7b0 : ((bt a0 x3_1) == 91) = true := beq_iff_eq.mpr c7
              have c7b1 : ((bt a0 x3_1) != 91) = false := bne_eq_false_iff_eq.mpr c7
              clear c7
              obtain rfl := Option.some.inj H
              have p4 : 0 ≤ (x3_1 : Int) := of_decide_eq_true (by first | (with_reducible assumption) | assumption)
              have q4 : x3_1 < (a0.size : Int) := of_decide_eq_true (by first | (with_reducible assumption) | assumption)
              have hx4 := bt_at a0 x3_1
              replace p4 := eq_true p4
              replace q4 := eq_true q4
              have p6 : 0 ≤ (x3_1 : Int) := of_decide_eq_true (by first | (with_reducible assumption) | assumption)
              have q6 : x3_1 < (a0.size : Int) := of_decide_eq_true (by first | (with_reducible assumption) | assumption)
              have hx6 := bt_at a0 x3_1
              replace p6 := eq_true p6
              replace q6 := eq_true q6
              go_wp2
              go_ret
              exact ⟨by first | rfl | (simp; done) | (simp [*]; done), by repeat (first | exact Drawn0.refl _ | apply Drawn0.step)⟩
            · rw [if_neg c7] at H
              have c7b0 : ((bt a0 x3_1) == 91) = false := beq_eq_false_iff_ne.mpr c7
              have c7b1 : ((bt a0 x3_1) != 91) = true := bne_iff_ne.mpr c7
              by_cases c8 : (bt a0 x3_1) = 93
              · rw [if_pos c8] at H
                have c8b0 : ((bt a0 x3_1) == 93) = true := beq_iff_eq.mpr c8
                have c8b1 : ((bt a0 x3_1) != 93) = false := bne_eq_false_iff_eq.mpr c8
                clear c8
                obtain rfl := Option.some.inj H
                have p4 : 0 ≤ (x3_1 : Int) := of_decide_eq_true (by first | (with_reducible assumption) | assumption)
                have q4 : x3_1 < (a0.size : Int) := of_decide_eq_true (by first | (with_reducible assumption) | assumption)
                have hx4 := bt_at a0 x3_1
                replace p4 := eq_true p4
                replace q4 := eq_true q4
                have p6 : 0 ≤ (x3_1 : Int) := of_decide_eq_true (by first | (with_reducible assumption) | assumption)
                have q6 : x3_1 < (a0.size : Int) := of_decide_eq_true (by first | (with_reducible assumption) | assumption)
                have hx6 := bt_at a0 x3_1
                replace p6 := eq_true p6
                replace q6 := eq_true q6
                go_wp2
                go_ret
                exact ⟨by first | rfl | (simp; done) | (simp [*]; done), by repeat (first | exact Drawn0.refl _ | apply Drawn0.step)⟩
              · rw [if_neg c8] at H
                have c8b0 : ((bt a0 x3_1) == 93) = false := beq_eq_false_iff_ne.mpr c8
                have c8b1 : ((bt a0 x3_1) != 93) = true := bne_iff_ne.mpr c8
                by_cases c9 : (bt a0 x3_1) = 123
                · rw [if_pos c9] at H
                  have c9b0 : ((bt a0 x3_1) == 123) = true := beq_iff_eq.mpr c9
                  have c9b1 : ((bt a0 x3_1) != 123) = false := bne_eq_false_iff_eq.mpr c9
                  clear c9
                  obtain rfl := Option.some.inj H
                  have p4 : 0 ≤ (x3_1 : Int) := of_decide_eq_true (by first | (with_reducible assumption) | assumption)
                  have q4 : x3_1 < (a0.size : Int) := of_decide_eq_true (by first | (with_reducible assumption) | assumption)
                  have hx4 := bt_at a0 x3_1
                  replace p4 := eq_true p4
                  replace q4 := eq_true q4
                  have p6 : 0 ≤ (x3_1 : Int) := of_decide_eq_true (by first | (with_reducible assumption) | assumption)
                  have q6 : x3_1 < (a0.size : Int) := of_decide_eq_true (by first | (with_reducible assumption) | assumption)
                  have hx6 := bt_at a0 x3_1
                  replace p6 := eq_true p6
                  replace q6 := eq_true q6
                  go_wp2
                  go_ret
                  exact ⟨by first | rfl | (simp; done) | (simp [*]; done), by repeat (first | exact Drawn0.refl _ | apply Drawn0.step)⟩
                · rw [if_neg c9] at H
                  have c9b0 : ((bt a0 x3_1) == 123) = false := beq_eq_false_iff_ne.mpr c9
                  have c9b1 : ((bt a0 x3_1) != 123) = true := bne_iff_ne.mpr c9
                  by_cases c10 : (bt a0 x3_1) = 125
                  · rw [if_pos c10] at H
                    have c10b0 : ((bt a0 x3_1) == 125) = true := beq_iff_eq.mpr c10
                    have c10b1 : ((bt a0 x3_1) != 125) = false := bne_eq_false_iff_eq.mpr c10
                    clear c10
                    obtain rfl := Option.some.inj H
                    have p4 : 0 ≤ (x3_1 : Int) := of_decide_eq_true (by first | (with_reducible assumption) | assumption)
                    have q4 : x3_1 < (a0.size : Int) := of_decide_eq_true (by first | (with_reducible assumption) | assumption)
                    have hx4 := bt_at a0 x3_1
                    replace p4 := eq_true p4
                    replace q4 := eq_true q4
                    have p6 : 0 ≤ (x3_1 : Int) := of_decide_eq_true (by first | (with_reducible assumption) | assumption)
                    have q6 : x3_1 < (a0.size : Int) := of_decide_eq_true (by first | (with_reducible assumption) | assumption)
                    have hx6 := bt_at a0 x3_1
                    replace p6 := eq_true p6
                    replace q6 := eq_true q6
                    go_wp2
                    go_ret
                    exact ⟨by first | rfl | (simp; done) | (simp [*]; done), by repeat (first | exact Drawn0.refl _ | apply Drawn0.step)⟩
                  · rw [if_neg c10] at H
                    have c10b0 : ((bt a0 x3_1) == 125) = false := beq_eq_false_iff_ne.mpr c10
                    have c10b1 : ((bt a0 x3_1) != 125) = true := bne_iff_ne.mpr c10
                    by_cases c11 : (bt a0 x3_1) = 40
                    · rw [if_pos c11] at H
                      have c11b0 : ((bt a0 x3_1) == 40) = true := beq_iff_eq.mpr c11
                      have c11b1 : ((bt a0 x3_1) != 40) = false := bne_eq_false_iff_eq.mpr c11
                      clear c11
                      obtain rfl := Option.some.inj H
                      have p4 : 0 ≤ (x3_1 : Int) := of_decide_eq_true (by first | (with_reducible assumption) | assumption)
                      have q4 : x3_1 < (a0.size : Int) := of_decide_eq_true (by first | (with_reducible assumption) | assumption)
                      have hx4 := bt_at a0 x3_1
                      replace p4 := eq_true p4
                      replace q4 := eq_true q4
                      have p6 : 0 ≤ (x3_1 : Int) := of_decide_eq_true (by first | (with_reducible assumption) | assumption)
                      have q6 : x3_1 < (a0.size : Int) := of_decide_eq_true (by first | (with_reducible assumption) | assumption)
                      have hx6 := bt_at a0 x3_1
                      replace p6 := eq_true p6
                      replace q6 := eq_true q6
                      go_wp2
                      go_ret
                      exact ⟨by first | rfl | (simp; done) | (simp [*]; done), by repeat (first | exact Drawn0.refl _ | apply Drawn0.step)⟩
                    · rw [if_neg c11] at H
                      have c11b0 : ((bt a0 x3_1) == 40) = false := beq_eq_false_iff_ne.mpr c11
                      have c11b1 : ((bt a0 x3_1) != 40) = true := bne_iff_ne.mpr c11
                      by_cases c12 : (bt a0 x3_1) = 41
                      · rw [if_pos c12] at H
                        have c12b0 : ((bt a0 x3_1) == 41) = true := beq_iff_eq.mpr c12
                        have c12b1 : ((bt a0 x3_1) != 41) = false := bne_eq_false_iff_eq.mpr c12
                        clear c12
                        obtain rfl := Option.some.inj H
                        have p4 : 0 ≤ (x3_1 : Int) := of_decide_eq_true (by first | (with_reducible assumption) | assumption)
                        have q4 : x3_1 < (a0.size : Int) := of_decide_eq_true (by first | (with_reducible assumption) | assumption)
                        have hx4 := bt_at a0 x3_1
                        replace p4 := eq_true p4
                        replace q4 := eq_true q4
                        have p6 : 0 ≤ (x3_1 : Int) := of_decide_eq_true (by first | (with_reducible assumption) | assumption)
                        have q6 : x3_1 < (a0.size : Int) := of_decide_eq_true (by first | (with_reducible assumption) | assumption)
                        have hx6 := bt_at a0 x3_1
                        replace p6 := eq_true p6
                        replace q6 := eq_true q6
                        go_wp2
                        go_ret
                        exact ⟨by first | rfl | (simp; done) | (simp [*]; done), by repeat (first | exact Drawn0.refl _ | apply Drawn0.step)⟩
                      · rw [if_neg c12] at H
                        have c12b0 : ((bt a0 x3_1) == 41) = false := beq_eq_false_iff_ne.mpr c12
                        have c12b1 : ((bt a0 x3_1) != 41) = true := bne_iff_ne.mpr c12
                        by_cases c13 : (bt a0 x3_1) = 35
                        · rw [if_pos c13] at H
                          have c13b0 : ((bt a0 x3_1) == 35) = true := beq_iff_eq.mpr c13
                          have c13b1 : ((bt a0 x3_1) != 35) = false := bne_eq_false_iff_eq.mpr c13
                          clear c13
                          obtain rfl := Option.some.inj H
                          have p4 : 0 ≤ (x3_1 : Int) := of_decide_eq_true (by first | (with_reducible assumption) | assumption)
                          have q4 : x3_1 < (a0.size : Int) := of_decide_eq_true (by first | (with_reducible assumption) | assumption)
                          have hx4 := bt_at a0 x3_1
                          replace p4 := eq_true p4
                          replace q4 := eq_true q4
                          have p6 : 0 ≤ (x3_1 : Int) := of_decide_eq_true (by first | (with_reducible assumption) | assumption)
                          have q6 : x3_1 < (a0.size : Int) := of_decide_eq_true (by first | (with_reducible assumption) | assumption)
                          have hx6 := bt_at a0 x3_1
                          replace p6 := eq_true p6
                          replace q6 := eq_true q6
                          go_wp2
                          go_ret
                          exact ⟨by first | rfl | (simp; done) | (simp [*]; done), by repeat (first | exact Drawn0.refl _ | apply Drawn0.step)⟩
                        · rw [if_neg c13] at H
                          have c13b0 : ((bt a0 x3_1) == 35) = false := beq_eq_false_iff_ne.mpr c13
                          have c13b1 : ((bt a0 x3_1) != 35) = true := bne_iff_ne.mpr c13
                          by_cases c14 : (bt a0 x3_1) = 124
                          · rw [if_pos c14] at H
                            have c14b0 : ((bt a0 x3_1) == 124) = true := beq_iff_eq.mpr c14
                            have c14b1 : ((bt a0 x3_1) != 124) = false := bne_eq_false_iff_eq.mpr c14
                            clear c14
                            obtain rfl := Option.some.inj H
                            have p4 : 0 ≤ (x3_1 : Int) := of_decide_eq_true (by first | (with_reducible assumption) | assumption)
                            have q4 : x3_1 < (a0.size : Int) := of_decide_eq_true (by first | (with_reducible assumption) | assumption)
                            have hx4 := bt_at a0 x3_1
                            replace p4 := eq_true p4
                            replace q4 := eq_true q4
                            have p6 : 0 ≤ (x3_1 : Int) := of_decide_eq_true (by first | (with_reducible assumption) | assumption)
                            have q6 : x3_1 < (a0.size : Int) := of_decide_eq_true (by first | (with_reducible assumption) | assumption)
                            have hx6 := bt_at a0 x3_1
                            replace p6 := eq_true p6
                            replace q6 := eq_true q6
                            go_wp2
                            go_ret
                            exact ⟨by first | rfl | (simp; done) | (simp [*]; done), by repeat (first | exact Drawn0.refl _ | apply Drawn0.step)⟩
                          · rw [if_neg c14] at H
                            have c14b0 : ((bt a0 x3_1) == 124) = false := beq_eq_false_iff_ne.mpr c14
                            have c14b1 : ((bt a0 x3_1) != 124) = true := bne_iff_ne.mpr c14
                            by_cases c15 : (bt a0 x3_1) = 33
                            · rw [if_pos c15] at H
                              have c15b0 : ((bt a0 x3_1) == 33) = true := beq_iff_eq.mpr c15
                              have c15b1 : ((bt a0 x3_1) != 33) = false := bne_eq_false_iff_eq.mpr c15
                              clear c15
                              obtain rfl := Option.some.inj H
                              have p4 : 0 ≤ (x3_1 : Int) := of_decide_eq_true (by first | (with_reducible assumption) | assumption)
                              have q4 : x3_1 < (a0.size : Int) := of_decide_eq_true (by first | (with_reducible assumption) | assumption)
                              have hx4 := bt_at a0 x3_1
                              replace p4 := eq_true p4
                              replace q4 := eq_true q4
                              have p6 : 0 ≤ (x3_1 : Int) := of_decide_eq_true (by first | (with_reducible assumption) | assumption)
                              have q6 : x3_1 < (a0.size : Int) := of_decide_eq_true (by first | (with_reducible assumption) | assumption)
                              have hx6 := bt_at a0 x3_1
                              replace p6 := eq_true p6
                              replace q6 := eq_true q6
                              go_wp2
                              go_ret
                              exact ⟨by first | rfl | (simp; done) | (simp [*]; done), by repeat (first | exact Drawn0.refl _ | apply Drawn0.step)⟩
                            · rw [if_neg c15] at H
                              have c15b0 : ((bt a0 x3_1) == 33) = false := beq_eq_false_iff_ne.mpr c15
                              have c15b1 : ((bt a0 x3_1) != 33) = true := bne_iff_ne.mpr c15
                              have H' := Aside0.mk H
                              clear H
                              have p4 : 0 ≤ (x3_1 : Int) := of_decide_eq_true (by first | (with_reducible assumption) | assumption)
                              have q4 : x3_1 < (a0.size : Int) := of_decide_eq_true (by first | (with_reducible assumption) | assumption)
                              have hx4 := bt_at a0 x3_1
                              replace p4 := eq_true p4
                              replace q4 := eq_true q4
                              have p6 : 0 ≤ (x3_1 : Int) := of_decide_eq_true (by first | (with_reducible assumption) | assumption)
                              have q6 : x3_1 < (a0.size : Int) := of_decide_eq_true (by first | (with_reducible assumption) | assumption)
                              have hx6 := bt_at a0 x3_1
                              replace p6 := eq_true p6
                              replace q6 := eq_true q6
                              go_wp2
                              go_roundg k1
                              case measure => have := HK1.out; omega
                              case rel => exact ⟨(wrap64 (x3_1 + 1)), (by first | rfl | (simp; done) | (simp [*]; done)), H', ⟨by have := HK1.out; omega⟩, by repeat (first | exact Drawn0.refl _ | apply Drawn0.step)⟩
        · rw [if_neg c3] at H
          exact absurd H (by simp)
      · rw [if_neg c2] at H
        have c2b0 : decide (x3_1 < (a0.size : Int)) = false := decide_eq_false c2
        clear c2
        obtain rfl := Option.some.inj H
        go_wp2
        go_ret
        exact ⟨by first | rfl | (simp; done) | (simp [*]; done), by repeat (first | exact Drawn0.refl _ | apply Drawn0.step)⟩

/-! ### gjson_DoorSimple: function 23 -/
def gjson_DoorSimple.f (k : Nat) (a0 : ByteArray) : Option (Bool) := (gjson_isSimpleName.f k a0).bind fun t101 => (some t101)
theorem gjson_DoorSimple.mono : ∀ a0 k, LeO (gjson_DoorSimple.f k a0) (gjson_DoorSimple.f (k + 1) a0) := by
  intro a0 k
  unfold gjson_DoorSimple.f
  repeat' first
      | (with_reducible exact gjson_isSimpleName.mono _ _)
      | (with_reducible exact LeO.refl _)
      | (with_reducible exact LeO.none _)
      | (with_reducible refine LeO.ite ?_ ?_)
      | (with_reducible refine LeO.bind ?_ (fun _ => ?_))
      | exact gjson_isSimpleName.mono _ _
      | exact LeO.none _
      | refine LeO.ite ?_ ?_
      | refine LeO.bind ?_ (fun _ => ?_)
set_option maxHeartbeats 8000000 in
set_option maxRecDepth 100000 in
theorem gjson_DoorSimple.calls (k : Nat) (a0 : ByteArray) (r : Bool) (w : World) (h : gjson_DoorSimple.f k a0 = some r) :
    Calls Try.prog 23 #[.string a0] w fun e w' => e = .returned (.bool r) ∧ Drawn0 w w' := by
  have H : ((gjson_isSimpleName.f k a0).bind fun t101 => (some t101)) = some r := h
  clear h
  replace H := Option.bind_eq_some_iff.mp H
  obtain ⟨t101, A20, H⟩ := H
  replace H : (some t101) = some r := H
  have A2 := Aside0.mk A20
  clear A20
  obtain rfl := Option.some.inj H
  go_enter Try.func23, Try.ntmps23
  go_wp2_with (first | ((with_reducible refine gate_callee (f := 33) rfl ?_); refine goesL_ (some 4) rfl rfl Try.func33 (by kernel_rfl) rfl #[.string a0] rfl (by (try simp only [List.map_toArray, List.map_cons, List.map_nil]); first | done | rfl | (simp only [List.length_drop, List.length_take]; rfl)) ?_; (with_reducible refine (gjson_isSimpleName.calls k a0 t101 _ A2.out).mono ?_); rintro e w' ⟨rfl, ⟨nd, rfl⟩⟩; refine ⟨_, rfl, ?_⟩))
  go_ret
  exact ⟨by first | rfl | (simp; done) | (simp [*]; done), by repeat (first | exact Drawn0.refl _ | apply Drawn0.step)⟩

/-! ### impl_GjSimpleName: function 11 -/
def impl_GjSimpleName.f (k : Nat) (a0 : ByteArray) : Option (Bool) := (gjson_DoorSimple.f k a0).bind fun t102 => (some t102)
theorem impl_GjSimpleName.mono : ∀ a0 k, LeO (impl_GjSimpleName.f k a0) (impl_GjSimpleName.f (k + 1) a0) := by
  intro a0 k
  unfold impl_GjSimpleName.f
  repeat' first
      | (with_reducible exact gjson_DoorSimple.mono _ _)
      | (with_reducible exact LeO.refl _)
      | (with_reducible exact LeO.none _)
      | (with_reducible refine LeO.ite ?_ ?_)
      | (with_reducible refine LeO.bind ?_ (fun _ => ?_))
      | exact gjson_DoorSimple.mono _ _
      | exact LeO.none _
      | refine LeO.ite ?_ ?_
      | refine LeO.bind ?_ (fun _ => ?_)
set_option maxHeartbeats 8000000 in
set_option maxRecDepth 100000 in
theorem impl_GjSimpleName.calls (k : Nat) (a0 : ByteArray) (r : Bool) (w : World) (h : impl_GjSimpleName.f k a0 = some r) :
    Calls Try.prog 11 #[.string a0] w fun e w' => e = .returned (.bool r) ∧ Drawn0 w w' := by
  have H : ((gjson_DoorSimple.f k a0).bind fun t102 => (some t102)) = some r := h
  clear h
  replace H := Option.bind_eq_some_iff.mp H
  obtain ⟨t102, A20, H⟩ := H
  replace H : (some t102) = some r := H
  have A2 := Aside0.mk A20
  clear A20
  obtain rfl := Option.some.inj H
  go_enter Try.func11, Try.ntmps11
  go_wp2_with (first | ((with_reducible refine gate_callee (f := 23) rfl ?_); refine goesL_ (some 4) rfl rfl Try.func23 (by kernel_rfl) rfl #[.string a0] rfl (by (try simp only [List.map_toArray, List.map_cons, List.map_nil]); first | done | rfl | (simp only [List.length_drop, List.length_take]; rfl)) ?_; (with_reducible refine (gjson_DoorSimple.calls k a0 t102 _ A2.out).mono ?_); rintro e w' ⟨rfl, ⟨nd, rfl⟩⟩; refine ⟨_, rfl, ?_⟩))
  go_ret
  exact ⟨by first | rfl | (simp; done) | (simp [*]; done), by repeat (first | exact Drawn0.refl _ | apply Drawn0.step)⟩

/-! ### laws_FnGjSimpleName: function 4 -/
def laws_FnGjSimpleName.l0 : Nat → ByteArray → Bool → Int → Option (Bool)
  | 0, _, _, _ => none
  | k + 1, x0, x3, x4 => if x4 < (x0.size : Int) then (if 0 ≤ x4 then (if (bt x0 x4) < 32 then (laws_FnGjSimpleName.l0 k x0 false (wrap64 (x4 + 1))) else (if (bt x0 x4) = 91 then (laws_FnGjSimpleName.l0 k x0 false (wrap64 (x4 + 1))) else (if (bt x0 x4) = 93 then (laws_FnGjSimpleName.l0 k x0 false (wrap64 (x4 + 1))) else (if (bt x0 x4) = 123 then (laws_FnGjSimpleName.l0 k x0 false (wrap64 (x4 + 1))) else (if (bt x0 x4) = 125 then (laws_FnGjSimpleName.l0 k x0 false (wrap64 (x4 + 1))) else (if (bt x0 x4) = 40 then (laws_FnGjSimpleName.l0 k x0 false (wrap64 (x4 + 1))) else (if (bt x0 x4) = 41 then (laws_FnGjSimpleName.l0 k x0 false (wrap64 (x4 + 1))) else (if (bt x0 x4) = 35 then (laws_FnGjSimpleName.l0 k x0 false (wrap64 (x4 + 1))) else (if (bt x0 x4) = 124 then (laws_FnGjSimpleName.l0 k x0 false (wrap64 (x4 + 1))) else (if (bt x0 x4) = 33 then (laws_FnGjSimpleName.l0 k x0 false (wrap64 (x4 + 1))) else (laws_FnGjSimpleName.l0 k x0 x3 (wrap64 (x4 + 1))))))))))))) else (none)) else ((impl_GjSimpleName.f k x0).bind fun t103 => (some (t103 == x3)))
def laws_FnGjSimpleName.f (k : Nat) (a0 : ByteArray) : Option (Bool) := if (a0.size : Int) > 2147483647 then (some true) else (laws_FnGjSimpleName.l0 k a0 true 0)
theorem laws_FnGjSimpleName.mono_l : ∀ k, (∀ y0 y1 y2, LeO (laws_FnGjSimpleName.l0 k y0 y1 y2) (laws_FnGjSimpleName.l0 (k + 1) y0 y1 y2))
  | 0 => fun _ _ _ r h => by simp [laws_FnGjSimpleName.l0] at h
  | k + 1 => by
    have ih0 := laws_FnGjSimpleName.mono_l k
    · intro y0 y1 y2
      unfold laws_FnGjSimpleName.l0
      repeat' first
      | (with_reducible exact ih0 _ _ _)
      | (with_reducible exact impl_GjSimpleName.mono _ _)
      | (with_reducible exact LeO.refl _)
      | (with_reducible exact LeO.none _)
      | (with_reducible refine LeO.ite ?_ ?_)
      | (with_reducible refine LeO.bind ?_ (fun _ => ?_))
      | exact ih0 _ _ _
      | exact impl_GjSimpleName.mono _ _
      | exact LeO.none _
      | refine LeO.ite ?_ ?_
      | refine LeO.bind ?_ (fun _ => ?_)
theorem laws_FnGjSimpleName.mono : ∀ a0 k, LeO (laws_FnGjSimpleName.f k a0) (laws_FnGjSimpleName.f (k + 1) a0) := by
  intro a0 k
  have ih0 := laws_FnGjSimpleName.mono_l k
  unfold laws_FnGjSimpleName.f
  repeat' first
      | (with_reducible exact ih0 _ _ _)
      | (with_reducible exact impl_GjSimpleName.mono _ _)
      | (with_reducible exact LeO.refl _)
      | (with_reducible exact LeO.none _)
      | (with_reducible refine LeO.ite ?_ ?_)
      | (with_reducible refine LeO.bind ?_ (fun _ => ?_))
      | exact ih0 _ _ _
      | exact impl_GjSimpleName.mono _ _
      | exact LeO.none _
      | refine LeO.ite ?_ ?_
      | refine LeO.bind ?_ (fun _ => ?_)
set_option maxHeartbeats 8000000 in
set_option maxRecDepth 100000 in
theorem laws_FnGjSimpleName.calls (k : Nat) (a0 : ByteArray) (r : Bool) (w : World) (h : laws_FnGjSimpleName.f k a0 = some r) :
    Calls Try.prog 4 #[.string a0] w fun e w' => e = .returned (.bool r) ∧ Drawn0 w w' := by
  have H : (if (a0.size : Int) > 2147483647 then (some true) else (laws_FnGjSimpleName.l0 k a0 true 0)) = some r := h
  clear h
  by_cases c2 : (a0.size : Int) > 2147483647
  · rw [if_pos c2] at H
    have c2b0 : decide (2147483647 < (a0.size : Int)) = true := decide_eq_true c2
    have c2b1 : decide (2147483647 < a0.size) = true := decide_eq_true (by omega)
    clear c2
    obtain rfl := Option.some.inj H
    go_enter Try.func4, Try.ntmps4
    go_wp2
    go_ret
    exact ⟨by first | rfl | (simp; done) | (simp [*]; done), by repeat (first | exact Drawn0.refl _ | apply Drawn0.step)⟩
  · rw [if_neg c2] at H
    have c2b0 : decide (2147483647 < (a0.size : Int)) = false := decide_eq_false c2
    have c2b1 : decide (2147483647 < a0.size) = false := decide_eq_false (by omega)
    clear c2
    have H' := Aside0.mk H
    clear H
    go_enter Try.func4, Try.ntmps4
    go_wp2
    go_loopg [3, 4] k (fun kq v3 v4 w' => ∃ (x3_1 : Bool) (x4_1 : Int), v3 = .bool x3_1 ∧ v4 = .int .i64 x4_1 ∧ Aside0 (laws_FnGjSimpleName.l0 kq a0 x3_1 x4_1 = some r) ∧ Aside0 (kq ≤ k) ∧ Drawn0 w w')
    case atStart => exact ⟨(true), (0), (by first | rfl | (simp; done) | (simp [*]; done)), (by first | rfl | (simp; done) | (simp [*]; done)), H', ⟨Nat.le_refl _⟩, by repeat (first | exact Drawn0.refl _ | apply Drawn0.step)⟩
    case round =>
      clear H'
      try clear c2
      try clear c2b0
      try clear c2b1
      try clear p2
      obtain ⟨x3_1, x4_1, rfl, rfl, HA, HK1, ⟨m1, rfl⟩⟩ := hrel
      cases gk with
      | zero => exact absurd HA.out (by simp [laws_FnGjSimpleName.l0])
      | succ k1 =>
        have H := HA.out
        clear HA
        simp only [laws_FnGjSimpleName.l0] at H
        by_cases c3 : x4_1 < (a0.size : Int)
        · rw [if_pos c3] at H
          have c3b0 : decide (x4_1 < (a0.size : Int)) = true := decide_eq_true c3
          clear c3
          by_cases c4 : 0 ≤ x4_1
          · rw [if_pos c4] at H
            have c4b0 : decide (0 ≤ x4_1) = true := decide_eq_true c4
            clear c4
            by_cases c6 : (bt a0 x4_1) < 32
            · rw [if_pos c6] at H
              have c6b0 : decide ((bt a0 x4_1) < 32) = true := decide_eq_true c6
              clear c6
              have H' := Aside0.mk H
              clear H
              have p5 : 0 ≤ (x4_1 : Int) := of_decide_eq_true (by first | (with_reducible assumption) | assumption)
              have q5 : x4_1 < (a0.size : Int) := of_decide_eq_true (by first | (with_reducible assumption) | assumption)
              have hx5 := bt_at a0 x4_1
              replace p5 := eq_true p5
              replace q5 := eq_true q5
              go_wp2
              go_roundg k1
              case measure => have := HK1.out; omega
              case rel => exact ⟨(false), (wrap64 (x4_1 + 1)), (by first | rfl | (simp; done) | (simp [*]; done)), (by first | rfl | (simp; done) | (simp [*]; done)), H', ⟨by have := HK1.out; omega⟩, by repeat (first | exact Drawn0.refl _ | apply Drawn0.step)⟩
            · rw [if_neg c6] at H
              have c6b0 : decide ((bt a0 x4_1) < 32) = false := decide_eq_false c6
              clear c6
              by_cases c7 : (bt a0 x4_1) = 91
              · rw [if_pos c7] at H
                have c7b0 : ((bt a0 x4_1) == 91) = true := beq_iff_eq.mpr c7
                have c7b1 : ((bt a0 x4_1) != 91) = false := bne_eq_false_iff_eq.mpr c7
                clear c7
                have H' := Aside0.mk H
                clear H
                have p5 : 0 ≤ (x4_1 : Int) := of_decide_eq_true (by first | (with_reducible assumption) | assumption)
                have q5 : x4_1 < (a0.size : Int) := of_decide_eq_true (by first | (with_reducible assumption) | assumption)
                have hx5 := bt_at a0 x4_1
                replace p5 := eq_true p5
                replace q5 := eq_true q5
                go_wp2
                go_roundg k1
                case measure => have := HK1.out; omega
                case rel => exact ⟨(false), (wrap64 (x4_1 + 1)), (by first | rfl | (simp; done) | (simp [*]; done)), (by first | rfl | (simp; done) | (simp [*]; done)), H', ⟨by have := HK1.out; omega⟩, by repeat (first | exact Drawn0.refl _ | apply Drawn0.step)⟩
              · rw [if_neg c7] at H
                have c7b0 : ((bt a0 x4_1) == 91) = false := beq_eq_false_iff_ne.mpr c7
                have c7b1 : ((bt a0 x4_1) != 91) = true := bne_iff_ne.mpr c7
                by_cases c8 : (bt a0 x4_1) = 93
                · rw [if_pos c8] at H
                  have c8b0 : ((bt a0 x4_1) == 93) = true := beq_iff_eq.mpr c8
                  have c8b1 : ((bt a0 x4_1) != 93) = false := bne_eq_false_iff_eq.mpr c8
                  clear c8
                  have H' := Aside0.mk H
                  clear H
                  have p5 : 0 ≤ (x4_1 : Int) := of_decide_eq_true (by first | (with_reducible assumption) | assumption)
                  have q5 : x4_1 < (a0.size : Int) := of_decide_eq_true (by first | (with_reducible assumption) | assumption)
                  have hx5 := bt_at a0 x4_1
                  replace p5 := eq_true p5
                  replace q5 := eq_true q5
                  go_wp2
                  go_roundg k1
                  case measure => have := HK1.out; omega
                  case rel => exact ⟨(false), (wrap64 (x4_1 + 1)), (by first | rfl | (simp; done) | (simp [*]; done)), (by first | rfl | (simp; done) | (simp [*]; done)), H', ⟨by have := HK1.out; omega⟩, by repeat (first | exact Drawn0.refl _ | apply Drawn0.step)⟩
                · rw [if_neg c8] at H
                  have c8b0 : ((bt a0 x4_1) == 93) = false := beq_eq_false_iff_ne.mpr c8
                  have c8b1 : ((bt a0 x4_1) != 93) = true := bne_iff_ne.mpr c8
                  by_cases c9 : (bt a0 x4_1) = 123
                  · rw [if_pos c9] at H
                    have c9b0 : ((bt a0 x4_1) == 123) = true := beq_iff_eq.mpr c9
                    have c9b1 : ((bt a0 x4_1) != 123) = false := bne_eq_false_iff_eq.mpr c9
                    clear c9
                    have H' := Aside0.mk H
                    clear H
                    have p5 : 0 ≤ (x4_1 : Int) := of_decide_eq_true (by first | (with_reducible assumption) | assumption)
                    have q5 : x4_1 < (a0.size : Int) := of_decide_eq_true (by first | (with_reducible assumption) | assumption)
                    have hx5 := bt_at a0 x4_1
                    replace p5 := eq_true p5
                    replace q5 := eq_true q5
                    go_wp2
                    go_roundg k1
                    case measure => have := HK1.out; omega
                    case rel => exact ⟨(false), (wrap64 (x4_1 + 1)), (by first | rfl | (simp; done) | (simp [*]; done)), (by first | rfl | (simp; done) | (simp [*]; done)), H', ⟨by have := HK1.out; omega⟩, by repeat (first | exact Drawn0.refl _ | apply Drawn0.step)⟩
                  · rw [if_neg c9] at H
                    have c9b0 : ((bt a0 x4_1) == 123) = false := beq_eq_false_iff_ne.mpr c9
                    have c9b1 : ((bt a0 x4_1) != 123) = true := bne_iff_ne.mpr c9
                    by_cases c10 : (bt a0 x4_1) = 125
                    · rw [if_pos c10] at H
                      have c10b0 : ((bt a0 x4_1) == 125) = true := beq_iff_eq.mpr c10
                      have c10b1 : ((bt a0 x4_1) != 125) = false := bne_eq_false_iff_eq.mpr c10
                      clear c10
                      have H' := Aside0.mk H
                      clear H
                      have p5 : 0 ≤ (x4_1 : Int) := of_decide_eq_true (by first | (with_reducible assumption) | assumption)
                      have q5 : x4_1 < (a0.size : Int) := of_decide_eq_true (by first | (with_reducible assumption) | assumption)
                      have hx5 := bt_at a0 x4_1
                      replace p5 := eq_true p5
                      replace q5 := eq_true q5
                      go_wp2
                      go_roundg k1
                      case measure => have := HK1.out; omega
                      case rel => exact ⟨(false), (wrap64 (x4_1 + 1)), (by first | rfl | (simp; done) | (simp [*]; done)), (by first | rfl | (simp; done) | (simp [*]; done)), H', ⟨by have := HK1.out; omega⟩, by repeat (first | exact Drawn0.refl _ | apply Drawn0.step)⟩
                    · rw [if_neg c10] at H
                      have c10b0 : ((bt a0 x4_1) == 125) = false := beq_eq_false_iff_ne.mpr c10
                      have c10b1 : ((bt a0 x4_1) != 125) = true := bne_iff_ne.mpr c10
                      by_cases c11 : (bt a0 x4_1) = 40
                      · rw [if_pos c11] at H
                        have c11b0 : ((bt a0 x4_1) == 40) = true := beq_iff_eq.mpr c11
                        have c11b1 : ((bt a0 x4_1) != 40) = false := bne_eq_false_iff_eq.mpr c11
                        clear c11
                        have H' := Aside0.mk H
                        clear H
                        have p5 : 0 ≤ (x4_1 : Int) := of_decide_eq_true (by first | (with_reducible assumption) | assumption)
                        have q5 : x4_1 < (a0.size : Int) := of_decide_eq_true (by first | (with_reducible assumption) | assumption)
                        have hx5 := bt_at a0 x4_1
                        replace p5 := eq_true p5
                        replace q5 := eq_true q5
                        go_wp2
                        go_roundg k1
                        case measure => have := HK1.out; omega
                        case rel => exact ⟨(false), (wrap64 (x4_1 + 1)), (by first | rfl | (simp; done) | (simp [*]; done)), (by first | rfl | (simp; done) | (simp [*]; done)), H', ⟨by have := HK1.out; omega⟩, by repeat (first | exact Drawn0.refl _ | apply Drawn0.step)⟩
                      · rw [if_neg c11] at H
                        have c11b0 : ((bt a0 x4_1) == 40) = false := beq_eq_false_iff_ne.mpr c11
                        have c11b1 : ((bt a0 x4_1) != 40) = true := bne_iff_ne.mpr c11
                        by_cases c12 : (bt a0 x4_1) = 41
                        · rw [if_pos c12] at H
                          have c12b0 : ((bt a0 x4_1) == 41) = true := beq_iff_eq.mpr c12
                          have c12b1 : ((bt a0 x4_1) != 41) = false := bne_eq_false_iff_eq.mpr c12
                          clear c12
                          have H' := Aside0.mk H
                          clear H
                          have p5 : 0 ≤ (x4_1 : Int) := of_decide_eq_true (by first | (with_reducible assumption) | assumption)
                          have q5 : x4_1 < (a0.size : Int) := of_decide_eq_true (by first | (with_reducible assumption) | assumption)
                          have hx5 := bt_at a0 x4_1
                          replace p5 := eq_true p5
                          replace q5 := eq_true q5
                          go_wp2
                          go_roundg k1
                          case measure => have := HK1.out; omega
                          case rel => exact ⟨(false), (wrap64 (x4_1 + 1)), (by first | rfl | (simp; done) | (simp [*]; done)), (by first | rfl | (simp; done) | (simp [*]; done)), H', ⟨by have := HK1.out; omega⟩, by repeat (first | exact Drawn0.refl _ | apply Drawn0.step)⟩
                        · rw [if_neg c12] at H
                          have c12b0 : ((bt a0 x4_1) == 41) = false := beq_eq_false_iff_ne.mpr c12
                          have c12b1 : ((bt a0 x4_1) != 41) = true := bne_iff_ne.mpr c12
                          by_cases c13 : (bt a0 x4_1) = 35
                          · rw [if_pos c13] at H
                            have c13b0 : ((bt a0 x4_1) == 35) = true := beq_iff_eq.mpr c13
                            have c13b1 : ((bt a0 x4_1) != 35) = false := bne_eq_false_iff_eq.mpr c13
                            clear c13
                            have H' := Aside0.mk H
                            clear H
                            have p5 : 0 ≤ (x4_1 : Int) := of_decide_eq_true (by first | (with_reducible assumption) | assumption)
                            have q5 : x4_1 < (a0.size : Int) := of_decide_eq_true (by first | (with_reducible assumption) | assumption)
                            have hx5 := bt_at a0 x4_1
                            replace p5 := eq_true p5
                            replace q5 := eq_true q5
                            go_wp2
                            go_roundg k1
                            case measure => have := HK1.out; omega
                            case rel => exact ⟨(false), (wrap64 (x4_1 + 1)), (by first | rfl | (simp; done) | (simp [*]; done)), (by first | rfl | (simp; done) | (simp [*]; done)), H', ⟨by have := HK1.out; omega⟩, by repeat (first | exact Drawn0.refl _ | apply Drawn0.step)⟩
                          · rw [if_neg c13] at H
                            have c13b0 : ((bt a0 x4_1) == 35) = false := beq_eq_false_iff_ne.mpr c13
                            have c13b1 : ((bt a0 x4_1) != 35) = true := bne_iff_ne.mpr c13
                            by_cases c14 : (bt a0 x4_1) = 124
                            · rw [if_pos c14] at H
                              have c14b0 : ((bt a0 x4_1) == 124) = true := beq_iff_eq.mpr c14
                              have c14b1 : ((bt a0 x4_1) != 124) = false := bne_eq_false_iff_eq.mpr c14
                              clear c14
                              have H' := Aside0.mk H
                              clear H
                              have p5 : 0 ≤ (x4_1 : Int) := of_decide_eq_true (by first | (with_reducible assumption) | assumption)
                              have q5 : x4_1 < (a0.size : Int) := of_decide_eq_true (by first | (with_reducible assumption) | assumption)
                              have hx5 := bt_at a0 x4_1
                              replace p5 := eq_true p5
                              replace q5 := eq_true q5
                              go_wp2
                              go_roundg k1
                              case measure => have := HK1.out; omega
                              case rel => exact ⟨(false), (wrap64 (x4_1 + 1)), (by first | rfl | (simp; done) | (simp [*]; done)), (by first | rfl | (simp; done) | (simp [*]; done)), H', ⟨by have := HK1.out; omega⟩, by repeat (first | exact Drawn0.refl _ | apply Drawn0.step)⟩
                            · rw [if_neg c14] at H
                              have c14b0 : ((bt a0 x4_1) == 124) = false := beq_eq_false_iff_ne.mpr c14
                              have c14b1 : ((bt a0 x4_1) != 124) = true := bne_iff_ne.mpr c14
                              by_cases c15 : (bt a0 x4_1) = 33
                              · rw [if_pos c15] at H
                                have c15b0 : ((bt a0 x4_1) == 33) = true := beq_iff_eq.mpr c15
                                have c15b1 : ((bt a0 x4_1) != 33) = false := bne_eq_false_iff_eq.mpr c15
                                clear c15
                                have H' := Aside0.mk H
                                clear H
                                have p5 : 0 ≤ (x4_1 : Int) := of_decide_eq_true (by first | (with_reducible assumption) | assumption)
                                have q5 : x4_1 < (a0.size : Int) := of_decide_eq_true (by first | (with_reducible assumption) | assumption)
                                have hx5 := bt_at a0 x4_1
                                replace p5 := eq_true p5
                                replace q5 := eq_true q5
                                go_wp2
                                go_roundg k1
                                case measure => have := HK1.out; omega
                                case rel => exact ⟨(false), (wrap64 (x4_1 + 1)), (by first | rfl | (simp; done) | (simp [*]; done)), (by first | rfl | (simp; done) | (simp [*]; done)), H', ⟨by have := HK1.out; omega⟩, by repeat (first | exact Drawn0.refl _ | apply Drawn0.step)⟩
                              · rw [if_neg c15] at H
                                have c15b0 : ((bt a0 x4_1) == 33) = false := beq_eq_false_iff_ne.mpr c15
                                have c15b1 : ((bt a0 x4_1) != 33) = true := bne_iff_ne.mpr c15
                                have H' := Aside0.mk H
                                clear H
                                have p5 : 0 ≤ (x4_1 : Int) := of_decide_eq_true (by first | (with_reducible assumption) | assumption)
                                have q5 : x4_1 < (a0.size : Int) := of_decide_eq_true (by first | (with_reducible assumption) | assumption)
                                have hx5 := bt_at a0 x4_1
                                replace p5 := eq_true p5
                                replace q5 := eq_true q5
                                go_wp2
                                go_roundg k1
                                case measure => have := HK1.out; omega
                                case rel => exact ⟨(x3_1), (wrap64 (x4_1 + 1)), (by first | rfl | (simp; done) | (simp [*]; done)), (by first | rfl | (simp; done) | (simp [*]; done)), H', ⟨by have := HK1.out; omega⟩, by repeat (first | exact Drawn0.refl _ | apply Drawn0.step)⟩
          · rw [if_neg c4] at H
            exact absurd H (by simp)
        · rw [if_neg c3] at H
          have c3b0 : decide (x4_1 < (a0.size : Int)) = false := decide_eq_false c3
          clear c3
          replace H := Option.bind_eq_some_iff.mp H
          obtain ⟨t103, A160, H⟩ := H
          replace H : (some (t103 == x3_1)) = some r := H
          have A16 := Aside0.mk A160
          clear A160
          obtain rfl := Option.some.inj H
          go_wp2_with (first | ((with_reducible refine gate_callee (f := 11) rfl ?_); refine goesL_ (some 40) rfl rfl Try.func11 (by kernel_rfl) rfl #[.string a0] rfl (by (try simp only [List.map_toArray, List.map_cons, List.map_nil]); first | done | rfl | (simp only [List.length_drop, List.length_take]; rfl)) ?_; (with_reducible refine (impl_GjSimpleName.calls k1 a0 t103 _ A16.out).mono ?_); rintro e w' ⟨rfl, ⟨nd, rfl⟩⟩; refine ⟨_, rfl, ?_⟩))
          go_ret
          exact ⟨by first | rfl | (simp; done) | (simp [*]; done), by repeat (first | exact Drawn0.refl _ | apply Drawn0.step)⟩

/-- THE ONE PURE STATEMENT of laws_FnGjSimpleName: yours. -/
def laws_FnGjSimpleName.Pure : Prop := ∀ (a0 : ByteArray), a0.size ≤ 140737488351232 → ∃ k, laws_FnGjSimpleName.f k a0 = some true
theorem laws_FnGjSimpleName.walk (P : laws_FnGjSimpleName.Pure) (a0 : ByteArray) (w : World) (w0 : a0.size ≤ 140737488351232) :
    Calls Try.prog 4 #[.string a0] w fun e w' => e = .returned (.bool true) ∧ Below w.heap.size w w' := by
  obtain ⟨k, h⟩ := P a0 w0
  refine (laws_FnGjSimpleName.calls k a0 true w h).mono ?_
  rintro e w' ⟨rfl, hd⟩
  exact ⟨rfl, hd.below⟩

end Go.Proofs.Ytdjilnhalpmabaa.PFnGjSimpleName
