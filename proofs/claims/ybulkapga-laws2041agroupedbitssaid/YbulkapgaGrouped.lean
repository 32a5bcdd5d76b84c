import Derived.Test.YbulkapgaWrite
namespace Go.Proofs.Ybulkapga
open Go.RowKit

def put (s : Nat × Nat) (v k : Nat) : Nat × Nat := (s.1 + v * 2 ^ s.2, s.2 + k)
def grp : Nat → Nat × Nat → Nat → Nat × Nat
  | 0, s, _ => s
  | f + 1, s, u => if u < 128 then put (put s (u % 128) 7) 0 1 else grp f (put (put s (u % 128) 7) 1 1) (u / 128)
def enc (s : Nat × Nat) (v : Nat) : Nat × Nat := if v < 8 then put (put s 0 1) v 3 else grp 10 (put s 1 1) (v - 8)

theorem put_len (s : Nat × Nat) (v k : Nat) : (put s v k).2 = s.2 + k := rfl

theorem ws_write (bw : Nat) (s : Nat × Nat) (y k : Nat) (w0 w : World) (h : WS w0 w bw s.1 s.2) (hk : k ≤ 8) (hy : y < 2 ^ k) (hlen : s.2 ≤ 1000) :
    Calls Yba.prog 6 #[.pointer (some ⟨bw, 0, none⟩), .int .u64 y, .int .u64 k] w fun e w' => e = .returned (.tuple #[]) ∧ WS w0 w' bw (put s y k).1 (put s y k).2 := by
  obtain ⟨m, v, hR, hn⟩ := h
  exact write_any bw s.1 s.2 m y k v w0 w hR hn hk hy hlen

theorem and_127 (u : Nat) : u &&& 127 = u % 128 := by
  have := Nat.and_two_pow_sub_one_eq_mod u 7
  simpa using this

set_option maxRecDepth 100000 in
set_option maxHeartbeats 1000000 in
theorem grouped_small (bw v : Nat) (s : Nat × Nat) (w0 w : World) (h : WS w0 w bw s.1 s.2) (hs : s.2 ≤ 7) (hv : v < 8) :
    Calls Yba.prog 7 #[.pointer (some ⟨bw, 0, none⟩), .int .u64 v] w fun e w' => e = .returned (.tuple #[]) ∧ WS w0 w' bw (enc s v).1 (enc s v).2 := by
  have hv' : (v : Int) < 8 := by omega
  go_enter Yba.func7, Yba.ntmps7
  go_wp2_with fail
  refine (ws_write bw s 0 1 w0 w h (by decide) (by decide) (by omega)).mono ?_
  rintro e w1 ⟨rfl, h1⟩
  go_wp2_with fail
  refine (ws_write bw (put s 0 1) v 3 w0 w1 h1 (by decide) (by omega) (by rw [put_len]; omega)).mono ?_
  rintro e w2 ⟨rfl, h2⟩
  go_wp2_with fail
  refine bodyPost_ret (results_none rfl _ _ _) rfl ?_
  refine ⟨rfl, ?_⟩
  unfold enc
  rw [if_pos hv]
  exact h2

set_option maxRecDepth 100000 in
set_option maxHeartbeats 1000000 in
theorem grouped_big (bw v : Nat) (s : Nat × Nat) (w0 w : World) (h : WS w0 w bw s.1 s.2) (hs : s.2 ≤ 7) (hv : ¬ v < 8) (hv64 : v < 18446744073709551616) :
    Calls Yba.prog 7 #[.pointer (some ⟨bw, 0, none⟩), .int .u64 v] w fun e w' => e = .returned (.tuple #[]) ∧ WS w0 w' bw (enc s v).1 (enc s v).2 := by
  have hv' : ¬ (v : Int) < 8 := by omega
  have hR : Hid (enc s v = grp 10 (put s 1 1) (v - 8)) := hide (by unfold enc; rw [if_neg hv])
  go_enter Yba.func7, Yba.ntmps7
  go_wp2_with fail
  refine (ws_write bw s 1 1 w0 w h (by decide) (by decide) (by omega)).mono ?_
  rintro e w1 ⟨rfl, h1⟩
  go_wp2_with fail
  go_loopw [1] (fun x wr => ∃ (f u : Nat) (t : Nat × Nat), x = .int .u64 u ∧ u < 128 ^ (f + 1) ∧ u < 18446744073709551616 ∧ WS w0 wr bw t.1 t.2 ∧ Hid (grp (f + 1) t u = enc s v) ∧ t.2 + 8 * f ≤ 100) (fun x _ => (intOf x).toNat)
  case atStart => exact ⟨9, v - 8, put s 1 1, by congr 1; omega, by omega, by omega, h1, hide hR.out.symm, by rw [put_len]; omega⟩
  case round =>
    obtain ⟨f, u, t, rfl, hu, hu64, hW, hg, hl⟩ := hrel
    have e1 : bits BinOp.and IntKind.u64 (u : Int) 127 = ((u % 128 : Nat) : Int) := by
      have := bits_and_u64 u 127 hu64 (by decide)
      rw [and_127] at this
      exact this
    have e0 : ((u : Int) % 128) = ((u % 128 : Nat) : Int) := by omega
    replace e0 := hide e0
    by_cases hlt : u < 128
    · have hlt' : (u : Int) < 128 := by omega
      go_wp2_with fail
      rw [e0.out]
      refine (ws_write bw t (u % 128) 7 w0 wr hW (by decide) (by omega) (by omega)).mono ?_
      rintro e w2 ⟨rfl, h2⟩
      go_wp2_with fail
      refine (ws_write bw (put t (u % 128) 7) 0 1 w0 w2 h2 (by decide) (by decide) (by rw [put_len]; omega)).mono ?_
      rintro e w3 ⟨rfl, h3⟩
      go_wp2_with fail
      refine bodyPost_ret (results_none rfl _ _ _) rfl ?_
      refine ⟨rfl, ?_⟩
      rw [← hg.out]
      unfold grp
      rw [if_pos hlt]
      exact h3
    · have hlt' : ¬ (u : Int) < 128 := by omega
      go_wp2_with fail
      rw [e0.out]
      refine (ws_write bw t (u % 128) 7 w0 wr hW (by decide) (by omega) (by omega)).mono ?_
      rintro e w2 ⟨rfl, h2⟩
      go_wp2_with fail
      refine (ws_write bw (put t (u % 128) 7) 1 1 w0 w2 h2 (by decide) (by decide) (by rw [put_len]; omega)).mono ?_
      rintro e w3 ⟨rfl, h3⟩
      go_wp2_with fail
      have hf : ∃ f', f = f' + 1 := by
        cases f with
        | zero => exact absurd hu (by simpa using hlt)
        | succ f' => exact ⟨f', rfl⟩
      obtain ⟨f', rfl⟩ := hf
      have hu2 : u / 128 < 128 ^ (f' + 1) := by
        rw [Nat.div_lt_iff_lt_mul (by decide), ← Nat.pow_succ]; exact hu
      go_roundw
      case rel =>
        refine ⟨f', u / 128, put (put t (u % 128) 7) 1 1, by go_num, hu2, by omega, h3, hide ?_, by rw [put_len, put_len]; omega⟩
        rw [← hg.out]
        conv => rhs; unfold grp
        rw [if_neg hlt]
      case measure => simp [intOf]; omega

end Go.Proofs.Ybulkapga
