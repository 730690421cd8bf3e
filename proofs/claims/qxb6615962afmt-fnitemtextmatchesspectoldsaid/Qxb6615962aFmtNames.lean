import Derived.Test.Qxb6615962aFmtBuf
namespace Go.Proofs.Qxb6615962aFmt
open Go.RowKit

def dg (k : Nat) : UInt8 := UInt8.ofNat (48 + k)
def natT (n : Nat) : List UInt8 := if n < 10 then [dg (n % 10)] else [dg (n / 10 % 10), dg (n % 10)]
def intT (v : Int) : List UInt8 := if v < 0 then 45 :: natT (-v).toNat else natT v.toNat
def wdT : Nat → List UInt8
  | 0 => [83, 117, 110]
  | 1 => [77, 111, 110]
  | 2 => [84, 117, 101]
  | 3 => [87, 101, 100]
  | 4 => [84, 104, 117]
  | 5 => [70, 114, 105]
  | 6 => [83, 97, 116]
  | _ => []

theorem natT_len (n : Nat) : (natT n).length ≤ 2 := by unfold natT; split <;> simp
theorem intT_len (v : Int) : (intT v).length ≤ 3 := by
  unfold intT
  have h1 := natT_len (-v).toNat
  have h2 := natT_len v.toNat
  split <;> simp <;> omega

theorem bc_dg (n : Nat) : [Value.int IntKind.u8 (48 + (n : Int) % 10)] = bc [dg (n % 10)] := by
  have h2 : (UInt8.ofNat (48 + n % 10)).toNat = 48 + n % 10 := by
    rw [UInt8.toNat_ofNat']; omega
  simp only [bc, dg, List.map_cons, List.map_nil, h2]
  norm_cast

theorem nat1_any (n : Nat) (hn : n < 10) (B : Nat) (v : Value) (bs : List UInt8) (w : World) (hb : Buf B v bs w) (hlen : bs.length + 1 ≤ 140737488355328) :
    Calls Tryf.prog 50 #[v, .int .i64 n] w (Apps B bs [dg (n % 10)] w) := by
  have hge : ¬ (10 ≤ n) := by omega
  go_enter Tryf.func50, Tryf.ntmps50
  go_wp2_with (at_builtin; refine wpList_app_bytes rfl _ _ rfl B v bs [dg (n % 10)] w rfl hb _ ?c1 rfl hlen ?_; rotate_left; intro v' w' hb' hk')
  case c1 => exact bc_dg n
  go_ret
  exact ⟨_, rfl, hb', hk'⟩

theorem nat_any (n : Nat) (hn : n < 100) (B : Nat) (v : Value) (bs : List UInt8) (w : World) (hb : Buf B v bs w) (hlen : bs.length + 2 ≤ 140737488355328) :
    Calls Tryf.prog 50 #[v, .int .i64 n] w (Apps B bs (natT n) w) := by
  by_cases h10 : n < 10
  · rw [natT, if_pos h10]
    exact nat1_any n h10 B v bs w hb (by omega)
  · rw [natT, if_neg h10]
    have hge : 10 ≤ n := by omega
    go_enter Tryf.func50, Tryf.ntmps50
    go_wp2_with fail
    rw [show (n : Int) / 10 = ((n / 10 : Nat) : Int) by omega]
    refine (nat1_any _ (by omega) B v bs w hb (by omega)).mono ?_
    rintro r w1 ⟨v1, rfl, hb1, hk1⟩
    go_wp2_with (at_builtin; refine wpList_app_bytes rfl _ _ rfl B v1 _ [dg (n % 10)] w1 rfl hb1 _ ?c1 rfl (by simp; omega) ?_; rotate_left; intro v' w' hb' hk')
    case c1 => exact bc_dg n
    go_ret
    exact ⟨_, rfl, by rw [List.append_assoc] at hb'; exact hb', hk1.trans hk'⟩

theorem int_any (x : Int) (h1 : -100 < x) (h2 : x < 100) (B : Nat) (v : Value) (bs : List UInt8) (w : World) (hb : Buf B v bs w) (hlen : bs.length + 3 ≤ 140737488355328) :
    Calls Tryf.prog 44 #[v, .int .i64 x] w (Apps B bs (intT x) w) := by
  by_cases h0 : x < 0
  · rw [intT, if_pos h0]
    obtain ⟨n, rfl⟩ : ∃ n : Nat, x = -(n : Int) := ⟨(-x).toNat, by omega⟩
    rw [Int.neg_neg, Int.toNat_natCast]
    have hn0 : 0 < n := by omega
    have hn1 : n < 100 := by omega
    clear h1 h2 h0
    go_enter Tryf.func44, Tryf.ntmps44
    go_wp2_with (at_builtin; refine wpList_app_bytes rfl _ _ rfl B v _ [45] w rfl hb _ rfl rfl (by simp; omega) ?_; intro v1 w1 hb1 hk1)
    go_wp2_with fail
    refine (nat_any n hn1 B v1 _ w1 hb1 (by simp; omega)).mono ?_
    rintro r w2 ⟨v2, rfl, hb2, hk2⟩
    go_wp2
    go_ret
    exact ⟨_, rfl, by rw [List.append_assoc] at hb2; exact hb2, hk1.trans hk2⟩
  · rw [intT, if_neg h0]
    obtain ⟨n, rfl⟩ : ∃ n : Nat, x = (n : Int) := ⟨x.toNat, by omega⟩
    rw [Int.toNat_natCast]
    have hn1 : n < 100 := by omega
    go_enter Tryf.func44, Tryf.ntmps44
    go_wp2_with fail
    refine (nat_any n hn1 B v bs w hb (by omega)).mono ?_
    rintro r w2 ⟨v2, rfl, hb2, hk2⟩
    go_wp2
    go_ret
    exact ⟨_, rfl, hb2, hk2⟩

theorem abbr_any (d : Nat) (hd : d < 7) (w : World) :
    Calls Tryf.prog 43 #[.int .i64 d] w fun e w' => e = .returned (.string ⟨(wdT d).toArray⟩) ∧ w = w' := by
  rcases (show d = 0 ∨ d = 1 ∨ d = 2 ∨ d = 3 ∨ d = 4 ∨ d = 5 ∨ d = 6 from by omega) with rfl | rfl | rfl | rfl | rfl | rfl | rfl
  all_goals
    go_enter Tryf.func43, Tryf.ntmps43
    go_wp2
    go_ret
    exact ⟨rfl, rfl⟩

/-- The name of value x under a kind: 1: a weekday's; 0: the integer's. -/
def nameT (k : Nat) (x : Int) : List UInt8 := if k = 1 then wdT x.toNat else intT x

def NameOk (k : Nat) (x : Int) : Prop := (k = 1 ∧ 0 ≤ x ∧ x < 7) ∨ (k = 0 ∧ -100 < x ∧ x < 100)

theorem wdT_len (d : Nat) : (wdT d).length ≤ 3 := by unfold wdT; split <;> simp
theorem nameT_len (k : Nat) (x : Int) : (nameT k x).length ≤ 3 := by
  unfold nameT
  split
  · exact wdT_len _
  · exact intT_len _

theorem name_any (k : Nat) (x : Int) (h : NameOk k x) (B : Nat) (v : Value) (bs : List UInt8) (w : World) (hb : Buf B v bs w) (hlen : bs.length + 3 ≤ 140737488355328) :
    Calls Tryf.prog 32 #[v, .int .i64 k, .int .i64 x] w (Apps B bs (nameT k x) w) := by
  rcases h with ⟨rfl, h0, h7⟩ | ⟨rfl, h0, h7⟩
  · obtain ⟨d, rfl⟩ : ∃ d : Nat, x = (d : Int) := ⟨x.toNat, by omega⟩
    have hd : d < 7 := by omega
    rw [nameT, if_pos rfl, Int.toNat_natCast]
    have HD : Hid (0 < (⟨(wdT d).toArray⟩ : ByteArray).data.toList.length) := by
      show 0 < (wdT d).toArray.toList.length
      rcases (show d = 0 ∨ d = 1 ∨ d = 2 ∨ d = 3 ∨ d = 4 ∨ d = 5 ∨ d = 6 from by omega) with rfl | rfl | rfl | rfl | rfl | rfl | rfl <;> decide
    go_enter Tryf.func32, Tryf.ntmps32
    go_wp2_with fail
    refine (abbr_any d hd w).mono ?_
    rintro r w1 ⟨rfl, rfl⟩
    go_wp2_with (refine wpList_app_str rfl _ _ rfl B v bs rfl hb ⟨(wdT d).toArray⟩ rfl (by have := wdT_len d; simp; omega) ?_ HD.out; intro v' w' hb' hk')
    go_ret
    exact ⟨_, rfl, hb', hk'⟩
  · rw [nameT, if_neg (by decide)]
    go_enter Tryf.func32, Tryf.ntmps32
    go_wp2_with fail
    refine (int_any x h0 h7 B v bs w hb hlen).mono ?_
    rintro r w2 ⟨v2, rfl, hb2, hk2⟩
    go_wp2
    go_ret
    exact ⟨_, rfl, hb2, hk2⟩
end Go.Proofs.Qxb6615962aFmt
