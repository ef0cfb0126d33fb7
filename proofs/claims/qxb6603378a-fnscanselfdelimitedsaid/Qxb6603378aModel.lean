/-
  THE WALK of stringModel.
-/
import Derived.Test.Qxb6603378aStr
import Derived.Outline
namespace Go.Proofs.Qxb6603378a
open Go.RowKit Plain
set_option linter.unusedVariables false

/-- stringModel's answer as a value. -/
def smRet : Option Nat → Value
  | some e => .tuple #[.int .i64 e, .bool true]
  | none => .tuple #[.int .i64 0, .bool false]

theorem ret_val {a b : Value} (h : a = b) : Ending.returned a = .returned b := by rw [h]

set_option maxHeartbeats 1000000 in
theorem stringModel_any (b off n cap i : Nat) (g : Nat → Int) (w : World) (hn : n ≤ 1099511627776) (hi : i < n) (ht : Txt w b off n g) :
    Calls Try.prog 21 #[.slice (some ⟨b, off, none⟩) n cap, .int .i64 i] w fun r w' => r = .returned (smRet (strModel g n i)) ∧ w' = w := by
  go_enter Try.func21, Try.ntmps21
  go_wp2
  go_loop [6] (fun s => ∃ q : Nat, i < q ∧ q ≤ n ∧ s = .int .i64 q ∧ Hid (strModel g n i = smFrom g i (n - q) q)) (fun s => n - (intOf s).toNat)
  case atStart => exact ⟨i + 1, by omega, by omega, by go_num, rfl⟩
  case round =>
    obtain ⟨q, hiq, hqn, rfl, HQ⟩ := hrel
    by_cases hlt : q < n
    · have hc := ht q hlt
      by_cases c1 : g q = 34
      · have C1 : Hid (g q = 34) := c1
        go_wp2
        go_loop [7, 8] (fun r s => ∃ j k : Nat, k + 1 + j = q ∧ i ≤ k ∧ r = .int .i64 j ∧ s = .int .i64 k ∧ Hid (bs g i q = j + bs g i (k + 1))) (fun _ s => (intOf s).toNat)
        case atStart => exact ⟨0, q - 1, by omega, by omega, rfl, by go_num, by show _ = _; rw [show q - 1 + 1 = q from by omega]; omega⟩
        case round =>
          obtain ⟨j, k, hkj, hik, rfl, rfl, HB⟩ := hrel
          have HK : Hid (k + 1 + j = q) := hkj
          have hkq : k < q := by omega
          have hjq : j < q := by omega
          clear hkj
          by_cases hik2 : i < k
          · have hck := ht k (by omega)
            by_cases c2 : g k = 92
            · have hd : ((k : Int) > (i : Int)) := by omega
              have H3 : Hid (bs g i q = (j + 1) + bs g i (k - 1 + 1)) := by
                show _ = _
                rw [HB.out, bs_more hik2 c2, show k - 1 + 1 = k from by omega]; omega
              go_wp2
              go_round
              case rel => exact ⟨j + 1, k - 1, by have := HK.out; omega, by omega, by go_num, by go_num, H3⟩
              case measure => simp [intOf]; omega
            · have hE : Hid (bs g i q = j) := by show _ = _; rw [HB.out, bs_stop (fun h => c2 h.2)]; rfl
              have d2 : (g k == 92) = false := by simpa using c2
              have hd : ((k : Int) > (i : Int)) := by omega
              by_cases hp : j % 2 = 0
              · have hp2 : ((j : Int) % 2 == 0) = true := by simp; omega
                have H4 : Hid (strModel g n i = some (q + 1)) := HQ.out.trans (smFrom_hit hlt C1.out (by rw [hE.out]; exact hp))
                clear hp
                go_wp2
                go_ret2
                exact ⟨ret_val (by rw [H4.out]; rfl), rfl⟩
              · have hp2 : ((j : Int) % 2 == 0) = false := by simp; omega
                have H4 : Hid (strModel g n i = smFrom g i (n - (q + 1)) (q + 1)) := HQ.out.trans (smFrom_miss hlt (fun h => hp (by rw [← hE.out]; exact h.2)))
                clear hp
                go_wp2
                go_round
                case rel => exact ⟨q + 1, by omega, by omega, by go_num, H4⟩
                case measure => simp [intOf]; omega
          · have hE : Hid (bs g i q = j) := by show _ = _; rw [HB.out, bs_stop (fun h => hik2 h.1)]; rfl
            have hd : decide ((i : Int) < (k : Int)) = false := by simp; omega
            by_cases hp : j % 2 = 0
            · have hp2 : ((j : Int) % 2 == 0) = true := by simp; omega
              have H4 : Hid (strModel g n i = some (q + 1)) := HQ.out.trans (smFrom_hit hlt C1.out (by rw [hE.out]; exact hp))
              clear hp
              go_wp2
              go_ret2
              exact ⟨ret_val (by rw [H4.out]; rfl), rfl⟩
            · have hp2 : ((j : Int) % 2 == 0) = false := by simp; omega
              have H4 : Hid (strModel g n i = smFrom g i (n - (q + 1)) (q + 1)) := HQ.out.trans (smFrom_miss hlt (fun h => hp (by rw [← hE.out]; exact h.2)))
              clear hp
              go_wp2
              go_round
              case rel => exact ⟨q + 1, by omega, by omega, by go_num, H4⟩
              case measure => simp [intOf]; omega
      · have H2 : Hid (strModel g n i = smFrom g i (n - (q + 1)) (q + 1)) := HQ.out.trans (smFrom_miss hlt fun h => c1 h.1)
        go_wp2
        go_round
        case rel => exact ⟨q + 1, by omega, by omega, by go_num, H2⟩
        case measure => simp [intOf]; omega
    · have H2 : Hid (strModel g n i = none) := HQ.out.trans (smFrom_off (by omega))
      go_wp2
      go_ret2
      exact ⟨ret_val (by rw [H2.out]; rfl), rfl⟩

end Go.Proofs.Qxb6603378a
