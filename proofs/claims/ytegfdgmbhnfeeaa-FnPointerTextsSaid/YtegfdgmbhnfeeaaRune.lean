/- The reference's runeLength, walked: it returns the bytes of the first character of a text that is not empty, or 0; nothing is written. -/
import Derived.Test.YtegfdgmbhnfeeaaProg
import Derived.Test.YtegfdgmbhnfeeaaPlain
import Derived.WalkLawsBesides
import Derived.WalkSpells
import Derived.BigQuiet
import Derived.Lib.Hide
namespace Go.Proofs.Ytegfdgmbhnfeeaa
open Go.RowKit
def RlPost (s : ByteArray) (w : World) (e : Ending) (w' : World) : Prop := e = .returned (.int .i64 (rlL s.data.toList)) ∧ w = w'

set_option maxRecDepth 100000 in
set_option maxHeartbeats 400000 in
theorem rl_a (s : ByteArray) (w : World) (h0 : 0 < s.size) (h2 : ((s[0]'h0).toNat : Int) ≤ 127) :
    Calls Try.prog 34 #[.string s] w (RlPost s w) := by
  go_enter Try.func34, Try.ntmps34
  go_wp2
  all_goals go_ret
  all_goals refine ⟨ret_i64 ?_, rfl⟩
  all_goals simp only [at_eq] at *
  all_goals (unfold rlL rl; rw [size_list]; (repeat' split) <;> omega)

set_option maxRecDepth 100000 in
set_option maxHeartbeats 400000 in
theorem rl_b (s : ByteArray) (w : World) (h0 : 0 < s.size) (h1 : 128 ≤ ((s[0]'h0).toNat : Int)) (h2 : ((s[0]'h0).toNat : Int) ≤ 193) :
    Calls Try.prog 34 #[.string s] w (RlPost s w) := by
  go_enter Try.func34, Try.ntmps34
  go_wp2
  all_goals go_ret
  all_goals refine ⟨ret_i64 ?_, rfl⟩
  all_goals simp only [at_eq] at *
  all_goals (unfold rlL rl; rw [size_list]; (repeat' split) <;> omega)

set_option maxRecDepth 100000 in
set_option maxHeartbeats 400000 in
theorem rl_c (s : ByteArray) (w : World) (hs : s.size ≤ 2147483647) (h0 : 0 < s.size) (h1 : 194 ≤ ((s[0]'h0).toNat : Int)) (h2 : ((s[0]'h0).toNat : Int) ≤ 223) :
    Calls Try.prog 34 #[.string s] w (RlPost s w) := by
  go_enter Try.func34, Try.ntmps34
  go_wp2
  all_goals try (refine wp_loop_rounds 1 ?_)
  all_goals try (rw [rounds_succ]; go_wp2)
  all_goals go_ret
  all_goals refine ⟨ret_i64 ?_, rfl⟩
  all_goals simp only [at_eq] at *
  all_goals (unfold rlL rl; rw [size_list]; (repeat' split) <;> omega)

set_option maxRecDepth 100000 in
set_option maxHeartbeats 400000 in
theorem rl_d (s : ByteArray) (w : World) (hs : s.size ≤ 2147483647) (h0 : 0 < s.size) (h1 : 224 ≤ ((s[0]'h0).toNat : Int)) (h2 : ((s[0]'h0).toNat : Int) ≤ 224) :
    Calls Try.prog 34 #[.string s] w (RlPost s w) := by
  go_enter Try.func34, Try.ntmps34
  go_wp2
  all_goals try (refine wp_loop_rounds 2 ?_)
  all_goals try (rw [rounds_succ]; go_wp2)
  all_goals try (rw [rounds_succ]; go_wp2)
  all_goals go_ret
  all_goals refine ⟨ret_i64 ?_, rfl⟩
  all_goals simp only [at_eq] at *
  all_goals (unfold rlL rl; rw [size_list]; (repeat' split) <;> omega)

set_option maxRecDepth 100000 in
set_option maxHeartbeats 400000 in
theorem rl_e (s : ByteArray) (w : World) (hs : s.size ≤ 2147483647) (h0 : 0 < s.size) (h1 : 225 ≤ ((s[0]'h0).toNat : Int)) (h2 : ((s[0]'h0).toNat : Int) ≤ 236) :
    Calls Try.prog 34 #[.string s] w (RlPost s w) := by
  go_enter Try.func34, Try.ntmps34
  go_wp2
  all_goals try (refine wp_loop_rounds 2 ?_)
  all_goals try (rw [rounds_succ]; go_wp2)
  all_goals try (rw [rounds_succ]; go_wp2)
  all_goals go_ret
  all_goals refine ⟨ret_i64 ?_, rfl⟩
  all_goals simp only [at_eq] at *
  all_goals (unfold rlL rl; rw [size_list]; (repeat' split) <;> omega)

set_option maxRecDepth 100000 in
set_option maxHeartbeats 400000 in
theorem rl_f (s : ByteArray) (w : World) (hs : s.size ≤ 2147483647) (h0 : 0 < s.size) (h1 : 237 ≤ ((s[0]'h0).toNat : Int)) (h2 : ((s[0]'h0).toNat : Int) ≤ 237) :
    Calls Try.prog 34 #[.string s] w (RlPost s w) := by
  go_enter Try.func34, Try.ntmps34
  go_wp2
  all_goals try (refine wp_loop_rounds 2 ?_)
  all_goals try (rw [rounds_succ]; go_wp2)
  all_goals try (rw [rounds_succ]; go_wp2)
  all_goals go_ret
  all_goals refine ⟨ret_i64 ?_, rfl⟩
  all_goals simp only [at_eq] at *
  all_goals (unfold rlL rl; rw [size_list]; (repeat' split) <;> omega)

set_option maxRecDepth 100000 in
set_option maxHeartbeats 400000 in
theorem rl_g (s : ByteArray) (w : World) (hs : s.size ≤ 2147483647) (h0 : 0 < s.size) (h1 : 238 ≤ ((s[0]'h0).toNat : Int)) (h2 : ((s[0]'h0).toNat : Int) ≤ 239) :
    Calls Try.prog 34 #[.string s] w (RlPost s w) := by
  go_enter Try.func34, Try.ntmps34
  go_wp2
  all_goals try (refine wp_loop_rounds 2 ?_)
  all_goals try (rw [rounds_succ]; go_wp2)
  all_goals try (rw [rounds_succ]; go_wp2)
  all_goals go_ret
  all_goals refine ⟨ret_i64 ?_, rfl⟩
  all_goals simp only [at_eq] at *
  all_goals (unfold rlL rl; rw [size_list]; (repeat' split) <;> omega)

set_option maxRecDepth 100000 in
set_option maxHeartbeats 400000 in
theorem rl_h (s : ByteArray) (w : World) (hs : s.size ≤ 2147483647) (h0 : 0 < s.size) (h1 : 240 ≤ ((s[0]'h0).toNat : Int)) (h2 : ((s[0]'h0).toNat : Int) ≤ 240) :
    Calls Try.prog 34 #[.string s] w (RlPost s w) := by
  go_enter Try.func34, Try.ntmps34
  go_wp2
  all_goals try (refine wp_loop_rounds 3 ?_)
  all_goals try (rw [rounds_succ]; go_wp2)
  all_goals try (rw [rounds_succ]; go_wp2)
  all_goals try (rw [rounds_succ]; go_wp2)
  all_goals go_ret
  all_goals refine ⟨ret_i64 ?_, rfl⟩
  all_goals simp only [at_eq] at *
  all_goals (unfold rlL rl; rw [size_list]; (repeat' split) <;> omega)

set_option maxRecDepth 100000 in
set_option maxHeartbeats 400000 in
theorem rl_i (s : ByteArray) (w : World) (hs : s.size ≤ 2147483647) (h0 : 0 < s.size) (h1 : 241 ≤ ((s[0]'h0).toNat : Int)) (h2 : ((s[0]'h0).toNat : Int) ≤ 243) :
    Calls Try.prog 34 #[.string s] w (RlPost s w) := by
  go_enter Try.func34, Try.ntmps34
  go_wp2
  all_goals try (refine wp_loop_rounds 3 ?_)
  all_goals try (rw [rounds_succ]; go_wp2)
  all_goals try (rw [rounds_succ]; go_wp2)
  all_goals try (rw [rounds_succ]; go_wp2)
  all_goals go_ret
  all_goals refine ⟨ret_i64 ?_, rfl⟩
  all_goals simp only [at_eq] at *
  all_goals (unfold rlL rl; rw [size_list]; (repeat' split) <;> omega)

set_option maxRecDepth 100000 in
set_option maxHeartbeats 400000 in
theorem rl_j (s : ByteArray) (w : World) (hs : s.size ≤ 2147483647) (h0 : 0 < s.size) (h1 : 244 ≤ ((s[0]'h0).toNat : Int)) (h2 : ((s[0]'h0).toNat : Int) ≤ 244) :
    Calls Try.prog 34 #[.string s] w (RlPost s w) := by
  go_enter Try.func34, Try.ntmps34
  go_wp2
  all_goals try (refine wp_loop_rounds 3 ?_)
  all_goals try (rw [rounds_succ]; go_wp2)
  all_goals try (rw [rounds_succ]; go_wp2)
  all_goals try (rw [rounds_succ]; go_wp2)
  all_goals go_ret
  all_goals refine ⟨ret_i64 ?_, rfl⟩
  all_goals simp only [at_eq] at *
  all_goals (unfold rlL rl; rw [size_list]; (repeat' split) <;> omega)

set_option maxRecDepth 100000 in
set_option maxHeartbeats 400000 in
theorem rl_k (s : ByteArray) (w : World) (h0 : 0 < s.size) (h1 : 245 ≤ ((s[0]'h0).toNat : Int)) :
    Calls Try.prog 34 #[.string s] w (RlPost s w) := by
  go_enter Try.func34, Try.ntmps34
  go_wp2
  all_goals go_ret
  all_goals refine ⟨ret_i64 ?_, rfl⟩
  all_goals simp only [at_eq] at *
  all_goals (unfold rlL rl; rw [size_list]; (repeat' split) <;> omega)

theorem runeLength (s : ByteArray) (w : World) (hs : s.size ≤ 2147483647) (h0 : 0 < s.size) : Calls Try.prog 34 #[.string s] w (RlPost s w) := by
  by_cases q1 : ((s[0]'h0).toNat : Int) ≤ 127
  · exact rl_a s w h0 q1
  by_cases q2 : ((s[0]'h0).toNat : Int) ≤ 193
  · exact rl_b s w h0 (by omega) q2
  by_cases q3 : ((s[0]'h0).toNat : Int) ≤ 223
  · exact rl_c s w hs h0 (by omega) q3
  by_cases q4 : ((s[0]'h0).toNat : Int) ≤ 224
  · exact rl_d s w hs h0 (by omega) q4
  by_cases q5 : ((s[0]'h0).toNat : Int) ≤ 236
  · exact rl_e s w hs h0 (by omega) q5
  by_cases q6 : ((s[0]'h0).toNat : Int) ≤ 237
  · exact rl_f s w hs h0 (by omega) q6
  by_cases q7 : ((s[0]'h0).toNat : Int) ≤ 239
  · exact rl_g s w hs h0 (by omega) q7
  by_cases q8 : ((s[0]'h0).toNat : Int) ≤ 240
  · exact rl_h s w hs h0 (by omega) q8
  by_cases q9 : ((s[0]'h0).toNat : Int) ≤ 243
  · exact rl_i s w hs h0 (by omega) q9
  by_cases q10 : ((s[0]'h0).toNat : Int) ≤ 244
  · exact rl_j s w hs h0 (by omega) q10
  · exact rl_k s w h0 (by omega)
end Go.Proofs.Ytegfdgmbhnfeeaa
