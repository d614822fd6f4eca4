/-
  zzs3691awork.
-/
import Derived.Test.YbulkbxkmFmtBytes
namespace Go.Proofs.YbulkbxkmFmt
open Go.RowKit

def zeros (n : Nat) : Array Value := madeCells #[.int .u8 0] n
theorem zeros_size (n : Nat) : (zeros n).size = n := size_madeCells _ _

theorem run_make_bytes (x : Int) (n : Nat) (hx : x = n) (hn : n ≤ 1000000) (w : World) :
    (Instr.makeSlice 22 (.int .i64 0) (.int .i64 x)).run Ybaf.prog w = .ok (.slice (some ⟨w.heap.size, 0, none⟩) 0 n) (w.alloc (.cells (zeros n) 5)) := by
  subst hx
  obtain ⟨i, hi, hz0, hz1, hz2⟩ := info_parts Ybaf.info5
  have h := run_make (P := Ybaf.prog) w 22 5 i _ Ybaf.underlying22 hi hz0 .i64 .i64 0 n (by omega) (by omega) (by rw [hz2]; omega) (by omega)
  rw [hz1] at h
  simpa [zeros, Value.cells] using h

theorem Bs.made (w : World) (B n : Nat) (hB : B ≤ w.heap.size) (hn : n ≤ 1000000) : Bs (w.alloc (.cells (zeros n) 5)) B (some ⟨w.heap.size, 0, none⟩) n [] :=
  Bs.mk hB (by show (w.heap.push _)[w.heap.size]? = _; simp) (Nat.zero_le _) (by simp [maxLen]; omega) (zeros_size n) rfl

def fill (k : Nat) : List Int := (List.range k).map fun i => ((i * 7 + 1 : Nat) : Int) % 256
theorem fill_length (k : Nat) : (fill k).length = k := by simp [fill]
theorem fill_succ (k : Nat) : fill (k + 1) = fill k ++ [((k * 7 + 1 : Nat) : Int) % 256] := by simp [fill, List.range_succ]

set_option maxHeartbeats 400000 in
theorem work_any (q : Option Addr) (len cap : Nat) (ys : List Int) (pad : Int) (w : World) (hlen : ys.length = len) (h1024 : len ≤ 1024) (hq : q = none → cap = 0) (hr : Rd w q ys) (h0 : 0 ≤ pad) (h1 : pad ≤ 65535) :
    Calls Ybaf.prog 4 #[.slice q len cap, .int .u16 pad] w fun e w' => ∃ g cap' zs, e = .returned (.slice (some ⟨g, 0, none⟩) zs.length cap') ∧ zs = ys ++ fill (pad % 300).toNat ∧ Bs w' w.heap.size (some ⟨g, 0, none⟩) cap' zs ∧ Fr [] w w' := by
  obtain ⟨pn, hpn⟩ : ∃ pn : Nat, (pn : Int) = pad % 300 := ⟨(pad % 300).toNat, by omega⟩
  have hpn' : pn < 300 := by omega
  have hmk := run_make_bytes ((len : Int) + pad % 300) (len + pn) (by omega) (by omega)
  have Hpn : Hid _ := hpn
  have Hr : Hid (Rd w q ys) := hr
  clear hpn hr
  have HA : Hid (Bs (w.alloc (.cells (zeros (len + pn)) 5)) w.heap.size (some ⟨w.heap.size, 0, none⟩) (len + pn) []) := Bs.made w _ _ (Nat.le_refl _) (by omega)
  have HF : Hid (Fr [] w (w.alloc (.cells (zeros (len + pn)) 5))) := (Fr.refl _ w).alloc _
  have HR : Hid (Rd (w.alloc (.cells (zeros (len + pn)) 5)) q ys) := Rd.keep Hr.out HF.out (by simp)
  have HZ : Hid (w.heap.size ≤ (w.alloc (.cells (zeros (len + pn)) 5)).heap.size) := by simp [Hid]
  have HL : Hid (([] : List Int).length + len ≤ 1000000) := by simp [Hid]; omega
  have Hlen : Hid (ys.length = len) := hlen
  have Hq : Hid (q = none → cap = 0) := hq
  clear hlen hq Hr
  go_enter Ybaf.func4, Ybaf.ntmps4
  go_wp2_with (at_builtin; refine app_wp rfl (.tmp 16) (.tmp 17) rfl w.heap.size (some ⟨w.heap.size, 0, none⟩) (len + pn) [] rfl HA q len cap ys rfl Hlen Hq HR HL HZ ?_; intro p1 cap1 w1 zs K1 K2 K3 K4)
  obtain ⟨g1, rfl⟩ : ∃ g1, p1 = some ⟨g1, 0, none⟩ := by rcases K4.out with h | h <;> exact ⟨_, h⟩
  have L1 : zs.length ≤ 1024 := by rw [K1.out]; have := Hlen.out; simp; omega
  have F1 : Hid (Fr [] w w1) := Fr.trans' HF.out K3.out (by simp [pb])
  have Z1 : Hid (zs = ys ++ fill 0) := by rw [K1.out]; simp [fill, Hid]
  clear K1 K3 K4 HA HF HR HZ HL Hlen Hq hmk
  go_loopw [6, 7] (fun v i wr => ∃ (k g : Nat) (c : Nat) (us : List Int), k ≤ pn ∧ i = .int .i64 k ∧ v = .slice (some ⟨g, 0, none⟩) us.length c ∧ us.length ≤ 1024 + k ∧ Hid (us = ys ++ fill k) ∧ Hid (Bs wr w.heap.size (some ⟨g, 0, none⟩) c us) ∧ Hid (Fr [] w wr))
    (fun _ i _ => pn - (intOf i).toNat)
  case atStart => exact ⟨0, g1, cap1, zs, Nat.zero_le _, rfl, rfl, by omega, Z1, K2, F1⟩
  case round =>
    clear L1 F1 Z1 K2
    obtain ⟨k, g, c, us, hk, rfl, rfl, hul, hus, hbs, hfr⟩ := hrel
    have hpo := Hpn.out
    by_cases hlt : k < pn
    · have hcond : (k : Int) < pad % 300 := by omega
      clear hpo
      have hB : w.heap.size ≤ wr.heap.size := hfr.out.size
      go_wp2_with (at_builtin; refine app1_wp rfl (.tmp 24) (.tmp 29) rfl w.heap.size (some ⟨g, 0, none⟩) c us rfl hbs (((k : Int) * 7 + 1) % 256) rfl (by omega) hB ?_; intro p2 cap2 w2 vs K1 K2 K3 K4)
      obtain ⟨g2, rfl⟩ : ∃ g2, p2 = some ⟨g2, 0, none⟩ := by rcases K4.out with h | h <;> exact ⟨_, h⟩
      go_roundw
      case rel =>
        refine ⟨k + 1, g2, cap2, vs, by omega, by go_num, rfl, by rw [K1.out]; simp; omega, ?_, K2, ?_⟩
        · show vs = _
          rw [K1.out, hus.out, fill_succ, List.append_assoc]; simp
        · exact Fr.trans' hfr.out K3.out (fun x hx => Or.inr (hbs.out.lt x hx).1)
      case measure => simp [intOf]; omega
    · have hcond : ¬ (k : Int) < pad % 300 := by omega
      have hke : k = (pad % 300).toNat := by omega
      have HK : Hid _ := hke
      clear hpo hke
      go_wp2_with fail
      go_ret
      exact ⟨g, c, us, rfl, by rw [← HK.out]; exact hus, hbs, hfr⟩

end Go.Proofs.YbulkbxkmFmt
