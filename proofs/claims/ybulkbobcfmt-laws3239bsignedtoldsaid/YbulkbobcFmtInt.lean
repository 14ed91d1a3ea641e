/-
  The contracts of readInt and zzs3239bvalue.
-/
import Derived.Test.YbulkbobcFmtUint
namespace Go.Proofs.YbulkbobcFmt
open Go.Extern.Stop Go.Stop Go.Extern Go.RowKit

/-- The sign extended from wd bytes. -/
def sx (wd : Nat) (u : Int) : Int := if 2 * u < 256 ^ wd then u else u - 256 ^ wd

theorem sx_shift (wd : Nat) (h1 : 1 ≤ wd) (h8 : wd ≤ 8) (a : Int) (ha : 0 ≤ a) (hb : a < 256 ^ wd) :
    wrap64 (IntKind.u64.wrap (a * 2 ^ (64 - 8 * wd))) / 2 ^ (64 - 8 * wd) = sx wd a := by
  rw [IntKind.wrap_u64]
  unfold wrap64 sx
  match wd, h1, h8 with
  | 1, _, _ => simp only [show 64 - 8 * 1 = 56 from rfl] at *; split <;> omega
  | 2, _, _ => simp only [show 64 - 8 * 2 = 48 from rfl] at *; split <;> omega
  | 3, _, _ => simp only [show 64 - 8 * 3 = 40 from rfl] at *; split <;> omega
  | 4, _, _ => simp only [show 64 - 8 * 4 = 32 from rfl] at *; split <;> omega
  | 5, _, _ => simp only [show 64 - 8 * 5 = 24 from rfl] at *; split <;> omega
  | 6, _, _ => simp only [show 64 - 8 * 6 = 16 from rfl] at *; split <;> omega
  | 7, _, _ => simp only [show 64 - 8 * 7 = 8 from rfl] at *; split <;> omega
  | 8, _, _ => simp only [show 64 - 8 * 8 = 0 from rfl] at *; split <;> omega

theorem or_byte (k : Nat) (hk : k < 8) (v z : Int) (hv : 0 ≤ v) (hv2 : v < 256 ^ k) (hz : 0 ≤ z) (hz2 : z ≤ 255) :
    bits .or .u64 v (IntKind.u64.wrap (IntKind.u64.wrap z * 2 ^ (8 * k))) = v + 256 ^ k * z := by
  rw [u64_wrap_id z hz (by omega)]
  match k, hk with
  | 0, _ => simp only [show 8 * 0 = 0 from rfl] at *; rw [u64_wrap_id _ (by omega) (by omega), bits_join_low .u64 64 (by decide) wraps_u64 0 _ _ hv (by omega) (by omega) (by omega) (by omega) (by omega)]; omega
  | 1, _ => simp only [show 8 * 1 = 8 from rfl] at *; rw [u64_wrap_id _ (by omega) (by omega), bits_join_low .u64 64 (by decide) wraps_u64 8 _ _ hv (by omega) (by omega) (by omega) (by omega) (by omega)]; omega
  | 2, _ => simp only [show 8 * 2 = 16 from rfl] at *; rw [u64_wrap_id _ (by omega) (by omega), bits_join_low .u64 64 (by decide) wraps_u64 16 _ _ hv (by omega) (by omega) (by omega) (by omega) (by omega)]; omega
  | 3, _ => simp only [show 8 * 3 = 24 from rfl] at *; rw [u64_wrap_id _ (by omega) (by omega), bits_join_low .u64 64 (by decide) wraps_u64 24 _ _ hv (by omega) (by omega) (by omega) (by omega) (by omega)]; omega
  | 4, _ => simp only [show 8 * 4 = 32 from rfl] at *; rw [u64_wrap_id _ (by omega) (by omega), bits_join_low .u64 64 (by decide) wraps_u64 32 _ _ hv (by omega) (by omega) (by omega) (by omega) (by omega)]; omega
  | 5, _ => simp only [show 8 * 5 = 40 from rfl] at *; rw [u64_wrap_id _ (by omega) (by omega), bits_join_low .u64 64 (by decide) wraps_u64 40 _ _ hv (by omega) (by omega) (by omega) (by omega) (by omega)]; omega
  | 6, _ => simp only [show 8 * 6 = 48 from rfl] at *; rw [u64_wrap_id _ (by omega) (by omega), bits_join_low .u64 64 (by decide) wraps_u64 48 _ _ hv (by omega) (by omega) (by omega) (by omega) (by omega)]; omega
  | 7, _ => simp only [show 8 * 7 = 56 from rfl] at *; rw [u64_wrap_id _ (by omega) (by omega), bits_join_low .u64 64 (by decide) wraps_u64 56 _ _ hv (by omega) (by omega) (by omega) (by omega) (by omega)]; omega

theorem leI_snoc (xs : List Int) (k : Nat) (h : k < xs.length) : leI (xs.take (k + 1)) = leI (xs.take k) + 256 ^ k * xs.getD k 0 := by
  rw [List.take_succ_eq_append_getElem h, leI_append, List.getD_eq_getElem?_getD, List.getElem?_eq_getElem h]
  have hl : (xs.take k).length = k := by simp; omega
  rw [hl]
  simp [leI]

theorem ret_two {a b : Value} {c : Value} (h : a = b) : Ending.returned (.tuple #[a, c]) = .returned (.tuple #[b, c]) := by rw [h]

set_option maxRecDepth 100000 in
set_option maxHeartbeats 1000000 in
theorem readInt_any (F : Interp) {B C R g cap : Nat} {ea : Addr} {vs : List Value} {xss : List (List Int)} {w : World} {xs : List Int} {size : Int} {jk : List Int} (wd : Nat) (hF : F.answers w.tape)
    (h : St B C R g cap ea vs xss w 0 0 xs size 0 (jk.map (Value.int .u8))) (hw1 : 1 ≤ wd) (hw8 : wd ≤ 8) (hs0 : 0 ≤ size) (hs2 : size ≤ 9223372036854775807) (hjl : jk.length = 8) (hjk : ∀ x ∈ jk, 0 ≤ x ∧ x ≤ 255) :
    Calls Ybaf.prog 9 #[.pointer (some ⟨C, 0, none⟩), .int .i64 wd] w fun e w' => Only w.heap.size [C, R] w w' ∧
      (((wd ≤ xs.length ∨ ((wd : Int) ≤ size ∧ wd ≤ (stream xs 0 xss 0).length)) ∧ ∃ bs rest, bs.length = wd ∧ stream xs 0 xss 0 = bs ++ rest ∧ (∀ x ∈ bs, 0 ≤ x ∧ x ≤ 255) ∧ e = .returned (.tuple #[.int .i64 (sx wd (leI bs)), .nilIface])) ∨
       ((∃ x, e = .returned (.tuple #[.int .i64 0, .iface 59 (.pointer (some x))])) ∧ ¬ (wd ≤ xs.length ∨ ((wd : Int) ≤ size ∧ wd ≤ (stream xs 0 xss 0).length)))) := by
  go_enter Ybaf.func9, Ybaf.ntmps9
  go_wp2_with fail
  refine (readUint_any F wd hF h hw1 hw8 hs0 hs2 hjl hjk).mono ?_
  rintro e w1 ⟨ho, hcase⟩
  have HO : Hid (Only w.heap.size [C, R] w w1) := ho
  clear ho h hjl hjk hF
  rcases hcase with ⟨hok, bs, rest, hbl, hst, hby, rfl⟩ | ⟨⟨x, rfl⟩, hno⟩
  · have HOK : Hid ((wd ≤ xs.length ∨ ((wd : Int) ≤ size ∧ wd ≤ (stream xs 0 xss 0).length)) ∧ bs.length = wd ∧ stream xs 0 xss 0 = bs ++ rest ∧ (∀ x ∈ bs, 0 ≤ x ∧ x ≤ 255)) := ⟨hok, hbl, hst, hby⟩
    clear hok hbl hst hby
    go_wp2
    go_ret2
    refine ⟨HO.out, .inl ⟨HOK.out.1, bs, rest, HOK.out.2.1, HOK.out.2.2.1, HOK.out.2.2.2, ?_⟩⟩
    have hbd := leI_bd bs HOK.out.2.2.2
    rw [HOK.out.2.1] at hbd
    rw [← sx_shift wd hw1 hw8 _ hbd.1 hbd.2]
    simp
  · have HN : Hid (¬ (wd ≤ xs.length ∨ ((wd : Int) ≤ size ∧ wd ≤ (stream xs 0 xss 0).length))) := hno
    clear hno
    go_wp2
    go_ret2
    exact ⟨HO.out, .inr ⟨⟨x, rfl⟩, HN.out⟩⟩

set_option maxHeartbeats 400000 in
theorem value_any (b o wd n c : Nat) (xs : List Int) (w : World) (hw : wd ≤ 8) (hn : wd ≤ n) (hx : wd ≤ xs.length) (hby : ∀ x ∈ xs, 0 ≤ x ∧ x ≤ 255) (hcell : ∀ i, i < wd → w.cell? ⟨b, o + i, none⟩ = some (.int .u8 (xs.getD i 0))) :
    Calls Ybaf.prog 8 #[.slice (some ⟨b, o, none⟩) n c, .int .i64 wd] w fun e w' => e = .returned (.int .u64 (leI (xs.take wd))) ∧ w' = w := by
  go_enter Ybaf.func8, Ybaf.ntmps8
  go_wp2
  go_loop [5, 6] (fun v i => ∃ k : Nat, k ≤ wd ∧ i = .int .i64 k ∧ v = .int .u64 (leI (xs.take k))) (fun _ i => wd - (intOf i).toNat)
  case atStart => exact ⟨0, Nat.zero_le _, rfl, by simp [leI]⟩
  case round =>
    obtain ⟨k, hk, rfl, rfl⟩ := hrel
    by_cases hlt : k < wd
    · have hc := hcell k hlt
      have hbd := leI_bd (xs.take k) fun x hx => hby x (List.mem_of_mem_take hx)
      rw [show (xs.take k).length = k from by simp; omega] at hbd
      have hz : 0 ≤ xs.getD k 0 ∧ xs.getD k 0 ≤ 255 := by
        rw [List.getD_eq_getElem?_getD, List.getElem?_eq_getElem (by omega : k < xs.length)]
        exact hby _ (List.getElem_mem _)
      have HV : Hid (bits .or .u64 (leI (xs.take k)) (IntKind.u64.wrap (IntKind.u64.wrap (xs.getD k 0) * 2 ^ (8 * k))) = leI (xs.take (k + 1))) := by
        unfold Hid
        rw [or_byte k (by omega) _ _ hbd.1 hbd.2 hz.1 hz.2, leI_snoc xs k (by omega)]
      generalize xs.getD k 0 = z at *
      clear hz hbd hcell
      go_wp2
      go_round
      case rel => exact ⟨k + 1, by omega, by go_num, by rw [← HV.out]⟩
      case measure => simp [intOf]; omega
    · obtain rfl : k = wd := by omega
      go_wp2
      go_ret
      exact ⟨rfl, rfl⟩

end Go.Proofs.YbulkbobcFmt
