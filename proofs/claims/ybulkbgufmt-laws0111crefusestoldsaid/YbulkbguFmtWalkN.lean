/-
  DERIVED. THE WALKS: errors.Is through two wraps; checkNode (10), checkNodeAt (12); LawS0111ANode (4).
-/
import Derived.Test.YbulkbguFmtNode
import Derived.Test.YbulkbguFmtShelf
namespace Go.Proofs.YbulkbguFmt
open Go.RowKit Go.Extern.Stop Go.Stop Go.Extern

/-- errors.Is(e, x), e a *fmt.wrapError over a *fmt.wrapError over x itself. -/
theorem is_wrap2_same (pb qb : Nat) (b : Addr) (w : World) (h1 : w.cell? ⟨pb, 0 + 1, none⟩ = some (.iface 88 (.pointer (some ⟨qb, 0, none⟩)))) (h2 : w.cell? ⟨qb, 0 + 1, none⟩ = some (.iface 111 (.pointer (some b)))) :
    Calls Ybaf.prog 13 #[.iface 88 (.pointer (some ⟨pb, 0, none⟩)), .iface 111 (.pointer (some b))] w fun e w' => e = .returned (.bool true) ∧ w' = w := by
  obtain ⟨i, hi, hcmp⟩ := Option.map_eq_some_iff.1 Ybaf.isComp
  obtain ⟨j, hj, hjs⟩ := Option.map_eq_some_iff.1 Ybaf.isSize
  have tT := Ybaf.isTypeOf
  have cT := Ybaf.isComparable
  have mR := Ybaf.isMethodComparable
  have nE := Ybaf.noIsE
  have uE := Ybaf.noUnwrapE
  have vE := Ybaf.noUnwrapsE
  have nW := Ybaf.noIsW
  have uW := Ybaf.hasUnwrapW
  have mU := Ybaf.methodUnwrap
  have heq := run_eql_iface_ptr_same (P := Ybaf.prog) w b Ybaf.underlying27 Ybaf.underlying111 hi hcmp hj
  have hty := run_eql_iface_types (P := Ybaf.prog) 88 111 (.pointer (some ⟨pb, 0, none⟩)) (.pointer (some b)) Ybaf.underlying27 (by decide) w
  have hty2 := run_eql_iface_types (P := Ybaf.prog) 88 111 (.pointer (some ⟨qb, 0, none⟩)) (.pointer (some b)) Ybaf.underlying27 (by decide) w
  go_enter Ybaf.func13, Ybaf.ntmps13
  go_wp2
  refine wp_loop_rounds 3 ?_
  rw [rounds_succ]
  go_wp2
  rw [rounds_succ]
  go_wp2
  rw [rounds_succ]
  go_wp2
  go_ret
  exact ⟨rfl, rfl⟩

set_option maxHeartbeats 400000 in
theorem node_ok (s : ByteArray) (w : World) (h1 : 1 ≤ s.size) (h2 : s.size ≤ 255) :
    Calls Ybaf.prog 10 #[.string s] w fun e w' => e = .returned .nilIface ∧ w' = w := by
  go_enter Ybaf.func10, Ybaf.ntmps10
  go_wp2_with (go_at_call 11; refine (chk_ok s.size _ (by omega) (by omega)).mono ?_; rintro e w' ⟨rfl, rfl⟩)
  go_ret
  exact ⟨rfl, rfl⟩

set_option maxHeartbeats 400000 in
theorem node_bad (F : Interp) (a : Addr) (t : ByteArray) (s : ByteArray) (w : World) (hE : Env F a t w) (h : s.size = 0 ∨ 255 < s.size) (hs : s.size ≤ 1000) :
    Calls Ybaf.prog 10 #[.string s] w (Wrapped w (.iface 111 (.pointer (some a)))) := by
  go_enter Ybaf.func10, Ybaf.ntmps10
  go_wp2_with fail
  refine (chk_bad F a t s.size _ hE (by omega) (by omega)).mono ?_
  rintro e w1 ⟨b, t, rfl, hb, hle, hlt, ht, hv⟩
  go_wp2
  go_ret
  exact ⟨b, t, rfl, hb, hle, hlt, ht, hv⟩

set_option maxHeartbeats 400000 in
theorem at_ok (p n : Int) (w : World) (h1 : 1 ≤ n) (h2 : n ≤ 255) :
    Calls Ybaf.prog 12 #[.int .i64 p, .int .u64 n] w fun e w' => e = .returned .nilIface ∧ w' = w := by
  go_enter Ybaf.func12, Ybaf.ntmps12
  go_wp2_with (go_at_call 11; refine (chk_ok n _ h1 h2).mono ?_; rintro e w' ⟨rfl, rfl⟩)
  go_ret
  exact ⟨rfl, rfl⟩

/-- Two wraps over the sentinel at a. -/
def Wrapped2 (w : World) (a : Addr) (e : Ending) (w' : World) : Prop :=
  ∃ (b c : Nat), e = .returned (.iface 88 (.pointer (some ⟨b, 0, none⟩))) ∧ Below w.heap.size w w' ∧ b < w'.heap.size ∧ c < w'.heap.size ∧
    w'.cell? ⟨b, 0 + 1, none⟩ = some (.iface 88 (.pointer (some ⟨c, 0, none⟩))) ∧ w'.cell? ⟨c, 0 + 1, none⟩ = some (.iface 111 (.pointer (some a)))

set_option maxHeartbeats 400000 in
theorem at_bad (F : Interp) (a : Addr) (s : ByteArray) (p n : Int) (w : World) (hE : Env F a s w) (h0 : 0 ≤ n) (h : n = 0 ∨ 255 < n) :
    Calls Ybaf.prog 12 #[.int .i64 p, .int .u64 n] w (Wrapped2 w a) := by
  go_enter Ybaf.func12, Ybaf.ntmps12
  go_wp2_with fail
  refine (chk_bad F a s n _ hE h0 h).mono ?_
  rintro e w1 ⟨c, t, rfl, hb, hle, hlt, ht, hv⟩
  have hE1 := hE.below hb
  have hF1 := answers_open hE1.ans
  have hs1 : (w1.alloc (.cells #[.iface 3 (.int .i64 p), .iface 88 (.pointer (some ⟨c, 0, none⟩))] 20)).cell? ⟨c, 0, none⟩ = some (.string t) := cell?_alloc_old _ ht
  have hop := Ybaf.opPlain88_119w "fmt.errorf" ⟨c, 0, none⟩ t _ hs1
  go_wp2
  go_ret
  have hm := wrapped_mk w1 (.cells #[.iface 3 (.int .i64 p), .iface 88 (.pointer (some ⟨c, 0, none⟩))] 20)
  obtain ⟨b, t2, e2, hb2, hle2, hlt2, ht2, hv2⟩ := hm _ (.iface 88 (.pointer (some ⟨c, 0, none⟩)))
  refine ⟨b, c, e2, hb.trans (hb2.mono hb.size), hlt2, Nat.lt_of_lt_of_le hlt hb2.size, hv2, ?_⟩
  rw [hb2.cell (by exact hlt)]; exact hv

theorem repeat_length : ∀ n : Nat, (Lib.repeatL ([97] : List UInt8) n).length = n
  | 0 => rfl
  | n + 1 => by rw [Lib.repeatL, List.length_append, repeat_length n]; simp; omega
theorem repeat_size (n : Nat) : (⟨(Lib.repeatL [97] n).toArray⟩ : ByteArray).size = n := by
  show ((Lib.repeatL [97] n).toArray).size = n
  rw [List.size_toArray, repeat_length]

set_option maxHeartbeats 400000 in
theorem lawN_ok (kk : Nat) (p : Int) (w : World) (n : Nat) (hn : kk % 300 = n) (hk : kk < 65536) (h1 : 1 ≤ n) (h2 : n ≤ 255) :
    Calls Ybaf.prog 4 #[.int .u16 kk, .int .i64 p] w fun e w' => e = .returned (.bool true) ∧ Below w.heap.size w w' := by
  have hrem : (kk : Int) % 300 = (n : Int) := by omega
  have h1' : (1 : Int) ≤ (n : Int) := by omega
  have h2' : (n : Int) ≤ 255 := by omega
  clear hn
  go_enter Ybaf.func4, Ybaf.ntmps4
  go_wp2_with fail
  rw [hrem]
  refine (Ybaf.strings_Repeat ⟨#[97]⟩ n _ (by omega) (by show 1 * n ≤ _; omega)).mono ?_
  rintro e w1 ⟨rfl, hb⟩
  have hsz := repeat_size n
  go_wp2_with (first
    | (go_at_call 10; refine (node_ok _ _ (by rw [hsz]; omega) (by rw [hsz]; omega)).mono ?_; rintro e w' ⟨rfl, rfl⟩)
    | (go_at_call 11; refine (chk_ok n _ (by omega) (by omega)).mono ?_; rintro e w' ⟨rfl, rfl⟩)
    | (go_at_call 12; refine (at_ok p n _ (by omega) (by omega)).mono ?_; rintro e w' ⟨rfl, rfl⟩))
  go_ret
  exact ⟨rfl, hb⟩

set_option maxHeartbeats 1000000 in
theorem lawN_bad (F : Interp) (a : Addr) (s : ByteArray) (kk : Nat) (p : Int) (w : World) (hE : Env F a s w) (n : Nat) (hn : kk % 300 = n) (hk : kk < 65536) (h : n = 0 ∨ 255 < n) :
    Calls Ybaf.prog 4 #[.int .u16 kk, .int .i64 p] w fun e w' => e = .returned (.bool true) ∧ Below w.heap.size w w' := by
  have hrem : (kk : Int) % 300 = (n : Int) := by omega
  have hn3 : n < 300 := by omega
  clear hn
  go_enter Ybaf.func4, Ybaf.ntmps4
  go_wp2_with fail
  rw [hrem]
  refine (Ybaf.strings_Repeat ⟨#[97]⟩ n _ (by omega) (by show 1 * n ≤ _; omega)).mono ?_
  rintro e w1 ⟨rfl, hb⟩
  have hE1 := hE.below hb
  have hsz := repeat_size n
  rcases h with rfl | h
  · go_wp2_with fail
    refine (node_bad F a s _ _ hE1 (Or.inl hsz) (by rw [hsz]; omega)).mono ?_
    rintro e w2 ⟨b2, t2, rfl, hb2, hle2, hlt2, ht2, hv2⟩
    have hE2 := hE1.below hb2
    go_wp2_with fail
    refine (chk_bad F a s _ _ hE2 (by omega) (Or.inl (by simp))).mono ?_
    rintro e w3 ⟨b3, t3, rfl, hb3, hle3, hlt3, ht3, hv3⟩
    have hE3 := hE2.below hb3
    go_wp2_with fail
    refine (at_bad F a s p _ _ hE3 (by omega) (Or.inl (by simp))).mono ?_
    rintro e w4 ⟨b4, c4, rfl, hb4, hlt4, hlc4, hv4, hu4⟩
    have hE4 := hE3.below hb4
    have hg := hE4.glob
    have k2 : w4.cell? ⟨b2, 0 + 1, none⟩ = some (.iface 111 (.pointer (some a))) := by
      rw [hb4.cell (by exact Nat.lt_of_lt_of_le hlt2 hb3.size), hb3.cell (by exact hlt2)]; exact hv2
    have k3 : w4.cell? ⟨b3, 0 + 1, none⟩ = some (.iface 111 (.pointer (some a))) := by
      rw [hb4.cell (by exact hlt3)]; exact hv3
    go_wp2_with fail
    refine (is_wrap_same b2 0 a _ k2).mono ?_
    rintro e w5 ⟨rfl, rfl⟩
    go_wp2_with fail
    refine (is_wrap_same b3 0 a _ k3).mono ?_
    rintro e w6 ⟨rfl, rfl⟩
    go_wp2_with fail
    refine (is_wrap2_same b4 c4 a _ hv4 hu4).mono ?_
    rintro e w7 ⟨rfl, rfl⟩
    go_wp2
    go_ret
    have c2 := hb.trans (hb2.mono hb.size)
    have c3 := c2.trans (hb3.mono c2.size)
    exact ⟨rfl, c3.trans (hb4.mono c3.size)⟩
  · have hd1 : decide ((1 : Int) ≤ (n : Int)) = true := by simp; omega
    have hd2 : decide ((n : Int) ≤ 255) = false := by simp; omega
    go_wp2_with fail
    refine (node_bad F a s _ _ hE1 (Or.inr (by rw [hsz]; exact h)) (by rw [hsz]; omega)).mono ?_
    rintro e w2 ⟨b2, t2, rfl, hb2, hle2, hlt2, ht2, hv2⟩
    have hE2 := hE1.below hb2
    go_wp2_with fail
    refine (chk_bad F a s _ _ hE2 (by omega) (Or.inr (by omega))).mono ?_
    rintro e w3 ⟨b3, t3, rfl, hb3, hle3, hlt3, ht3, hv3⟩
    have hE3 := hE2.below hb3
    go_wp2_with fail
    refine (at_bad F a s p _ _ hE3 (by omega) (Or.inr (by omega))).mono ?_
    rintro e w4 ⟨b4, c4, rfl, hb4, hlt4, hlc4, hv4, hu4⟩
    have hE4 := hE3.below hb4
    have hg := hE4.glob
    have k2 : w4.cell? ⟨b2, 0 + 1, none⟩ = some (.iface 111 (.pointer (some a))) := by
      rw [hb4.cell (by exact Nat.lt_of_lt_of_le hlt2 hb3.size), hb3.cell (by exact hlt2)]; exact hv2
    have k3 : w4.cell? ⟨b3, 0 + 1, none⟩ = some (.iface 111 (.pointer (some a))) := by
      rw [hb4.cell (by exact hlt3)]; exact hv3
    go_wp2_with fail
    refine (is_wrap_same b2 0 a _ k2).mono ?_
    rintro e w5 ⟨rfl, rfl⟩
    go_wp2_with fail
    refine (is_wrap_same b3 0 a _ k3).mono ?_
    rintro e w6 ⟨rfl, rfl⟩
    go_wp2_with fail
    refine (is_wrap2_same b4 c4 a _ hv4 hu4).mono ?_
    rintro e w7 ⟨rfl, rfl⟩
    go_wp2
    go_ret
    have c2 := hb.trans (hb2.mono hb.size)
    have c3 := c2.trans (hb3.mono c2.size)
    exact ⟨rfl, c3.trans (hb4.mono c3.size)⟩

theorem lawN (F : Interp) (a : Addr) (s : ByteArray) (kk : Nat) (p : Int) (w : World) (hE : Env F a s w) (hk : kk < 65536) :
    Calls Ybaf.prog 4 #[.int .u16 kk, .int .i64 p] w fun e w' => e = .returned (.bool true) ∧ Below w.heap.size w w' := by
  by_cases h : 1 ≤ kk % 300 ∧ kk % 300 ≤ 255
  · exact lawN_ok kk p w _ rfl hk h.1 h.2
  · exact lawN_bad F a s kk p w hE _ rfl hk (by omega)

end Go.Proofs.YbulkbguFmt
