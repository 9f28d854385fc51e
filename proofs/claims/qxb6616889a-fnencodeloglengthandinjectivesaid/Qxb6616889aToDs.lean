/-
  toDigests, toMACs. By an AI agent.
-/
import Derived.Test.Qxb6616889aEnc4
import Derived.Test.Qxb6616889aClone
import Derived.WalkKit
import Derived.WalkSpells
import Derived.OwnWalk
namespace Go.Proofs.Qxb6616889a
open Go.RowKit
set_option linter.unusedVariables false
set_option linter.unusedSimpArgs false

theorem Try.info63 : (Try.prog.info? 63).map (fun i => (i.zero, i.size, i.bytes)) = some (some (.agg (Array.replicate 32 (.int .u8 0))), 32, 32) := by kernel_rfl
theorem Try.info82 : (Try.prog.info? 82).map (fun i => (i.zero, i.size, i.bytes)) = some (some (.agg (Array.replicate 32 (.int .u8 0))), 32, 32) := by kernel_rfl
theorem Try.size51 : (Try.prog.info? 51).map (·.size) = some 32 := by kernel_rfl

theorem own_there {base g n cap : Nat} {e : TypeId} {size : Nat} {cells : List Value} {wr : World} (hown : wr.ownsRow base e size (.slice (some ⟨g, 0, none⟩) n cap) n cells) : wr.there g 0 (n * size) := fun j hj => by
  obtain ⟨u, hu⟩ := own_cell hown hj
  rw [Nat.zero_add, hu, hown.frozenAt j]
  exact ⟨rfl, rfl⟩
theorem there_sub {w : World} {g n o m : Nat} (h : w.there g 0 n) (hm : o + m ≤ n) : w.there g o m := fun j hj => by
  have := h (o + j) (by omega)
  rw [Nat.zero_add] at this; exact this

/-- The rows of 32 that the loop lays. -/
theorem digs_fill {g n k : Nat} {wr : World} {ds : List (List Int)} {d : List Int} (hd : d.length = 32) (hk : k < n) (hy : ds[k]? = some d) (h32 : ∀ d ∈ ds, digOk d) (hth : wr.there g 0 (n * 32)) (hset : ∀ j d, j < k → ds[j]? = some d → wr.rangeAt g (j * 32) (u8s d)) :
    (wr.setCells g (k * 32) (u8s d)).there g 0 (n * 32) ∧ ∀ j d', j < k + 1 → ds[j]? = some d' → (wr.setCells g (k * 32) (u8s d)).rangeAt g (j * 32) (u8s d') := by
  refine ⟨World.there_setCells hth _ _ _, fun j d' hj hj' => ?_⟩
  by_cases e : j = k
  · subst e
    rw [hy] at hj'; cases hj'
    exact World.rangeAt_setCells_same _ _ _ _ (there_sub hth (by rw [length_u8s, hd]; omega))
  · refine World.rangeAt_setCells_apart (hset j d' (by omega) hj') _ _ _ (Or.inr (Or.inl ?_))
    rw [length_u8s, (h32 d' (List.mem_of_getElem? hj')).1]; omega

set_option maxHeartbeats 4000000 in
theorem toDigests_any (S : Nat → Prop) (w : World) (v : Value) (ds : List (List Int)) (hv : SliceOf S v 32 (EDig w) ds) (hS : ∀ b, S b → b < w.heap.size) (hlen : ds.length ≤ 1048576) :
    Calls Try.prog 27 #[v] w fun e w' => ∃ v', e = .returned v' ∧ Below w.heap.size w w' ∧ SliceOf (fun b => w.heap.size ≤ b ∧ b < w'.heap.size) v' 32 (EDig w') ds := by
  have hok := digs_ok hv
  obtain ⟨ao, c, rfl, hnil, hc1, hc2, hcell⟩ := hv
  obtain ⟨i0, hi, hz0, hz1, hz2⟩ := info_parts Try.info63
  have heq := fun w a n c => Lib.run_eql_slice_nil (P := Try.prog) w 55 51 a n c 0 0 Try.underlying55
  by_cases hn : ao = none
  · subst hn
    obtain rfl := hnil rfl
    obtain rfl : ds = [] := List.eq_nil_of_length_eq_zero (by omega)
    clear hi hz0 hz1 hz2
    go_enter Try.func27, Try.ntmps27
    go_wp2
    go_ret
    exact ⟨_, rfl, Below.refl _ _, ⟨none, 0, rfl, fun _ => rfl, by simp, by omega, fun h => by simp at h⟩⟩
  · obtain ⟨a, rfl⟩ := Option.ne_none_iff_exists'.1 hn
    have HOK : Hid (∀ d ∈ ds, digOk d) := hok
    have HC : Hid (0 < ds.length → ∃ b o, some a = some ⟨b, o, none⟩ ∧ S b ∧ ∀ k x, ds[k]? = some x → EDig w b (o + k * 32) x) := hcell
    have HI : Hid (Try.prog.info? 63 = some i0) := hi
    have HZ0 : Hid (i0.zero = some (.agg (Array.replicate 32 (.int .u8 0)))) := hz0
    have HZ1 : Hid (i0.size = 32) := hz1
    have HZ2 : Hid (i0.bytes * ds.length ≤ 281474976710656) := by show _ ≤ _; rw [hz2]; omega
    clear hnil hn hi hz0 hz1 hz2 hok hcell
    go_enter Try.func27, Try.ntmps27
    go_wp2_with (at_make; refine wpList_make_full _ rfl _ _ 67 rfl w.heap.size 63 i0 _ 32 Try.underlying67 HI.out HZ0.out HZ1.out .i64 .i64 _ _ ds.length rfl rfl rfl rfl HZ2.out (by unfold maxLen; omega) (Nat.le_refl _) ?_; intro w1 hown hgrow)
    go_loopw [4] (fun i wr => ∃ k : Nat, k ≤ ds.length ∧ i = .int .i64 k ∧ Below w.heap.size w wr ∧ w.heap.size < wr.heap.size ∧ wr.there w.heap.size 0 (ds.length * 32) ∧ ∀ j d, j < k → ds[j]? = some d → wr.rangeAt w.heap.size (j * 32) (u8s d)) (fun i _ => ds.length - (intOf i).toNat)
    case atStart => exact ⟨0, Nat.zero_le _, rfl, (Below.refl _ _).grown hgrow (Nat.le_refl _) (fun _ h => by cases h), (hown.lt _ rfl).2, own_there hown, fun j d hj => by omega⟩
    case round =>
      obtain ⟨k, hk, rfl, hbel, hsz, hth, hset⟩ := hrel
      clear hown hgrow
      by_cases hlt : k < ds.length
      · obtain ⟨b, o, hab, hSb, hE⟩ := HC.out (by omega)
        obtain rfl : a = ⟨b, o, none⟩ := by simpa using hab
        obtain ⟨d, hy⟩ : ∃ d, ds[k]? = some d := ⟨_, List.getElem?_eq_getElem hlt⟩
        obtain ⟨⟨hd, _⟩, hrg⟩ := hE k d hy
        have HR : Hid (wr.rangeAt b (o + k * 32) (u8s d)) := (Below.keeps hbel hS).range hSb hrg
        have HJ : Hid ((Try.prog.info? 51).map (·.size) = some (u8s d).length) := by show _ = _; rw [length_u8s, hd]; exact Try.size51
        have HJ2 : Hid ((Try.prog.info? 63).map (·.size) = some (u8s d).toArray.size) := by show _ = _; rw [List.size_toArray, length_u8s, hd]; exact Try.size63
        have HT : Hid (wr.there w.heap.size (k * 32) (u8s d).toArray.size) := there_sub hth (by simp [length_u8s, hd]; omega)
        have HF := digs_fill hd hlt hy HOK.out hth hset
        have HF' : Hid ((wr.setCells w.heap.size (k * 32) (u8s d)).there w.heap.size 0 (ds.length * 32) ∧ ∀ j d', j < k + 1 → ds[j]? = some d' → (wr.setCells w.heap.size (k * 32) (u8s d)).rangeAt w.heap.size (j * 32) (u8s d')) := HF
        have HB : Hid (Below w.heap.size w (wr.setCells w.heap.size (k * 32) (u8s d))) := below_setCells hbel (Nat.le_refl _) _ _
        have HZ : Hid (w.heap.size < (wr.setCells w.heap.size (k * 32) (u8s d)).heap.size) := by
          have h2 := below_setCells (b := w.heap.size) (Below.refl w.heap.size wr) (Nat.le_refl _) (u8s d) (k * 32)
          exact Nat.lt_of_lt_of_le hsz h2.size
        clear HF hth hset hy hrg hE hd
        go_wp2_with (first | (refine wpList_load_mid rfl 51 _ rfl b (o + k * 32) rfl (u8s d) _ HR.out Try.underlying51 rfl HJ.out ?_) | (refine wpList_store_mid rfl 63 _ _ rfl w.heap.size (k * 32) (u8s d).toArray rfl rfl HT.out HJ2.out (all_oneCell_toArray (u8s_one d)) ?_))
        go_roundw
        case rel => exact ⟨k + 1, by omega, by go_num, HB.out, HZ.out, HF'.out.1, HF'.out.2⟩
        case measure => simp [intOf]; omega
      · obtain rfl : k = ds.length := by omega
        have HR : Hid (SliceOf (fun b => w.heap.size ≤ b ∧ b < wr.heap.size) (.slice (some ⟨w.heap.size, 0, none⟩) ds.length ds.length) 32 (EDig wr) ds) :=
          ⟨some ⟨w.heap.size, 0, none⟩, ds.length, rfl, fun h => by simp at h, Nat.le_refl _, by omega, fun _ => ⟨w.heap.size, 0, rfl, ⟨Nat.le_refl _, hsz⟩, fun k d hd => ⟨HOK.out d (List.mem_of_getElem? hd), by
            have := hset k d (List.getElem?_eq_some_iff.1 hd).1 hd
            simpa using this⟩⟩⟩
        clear hset hth
        go_wp2
        go_ret
        exact ⟨_, rfl, hbel, HR.out⟩
set_option maxHeartbeats 4000000 in
theorem toMACs_any (S : Nat → Prop) (w : World) (v : Value) (ds : List (List Int)) (hv : SliceOf S v 32 (EDig w) ds) (hS : ∀ b, S b → b < w.heap.size) (hlen : ds.length ≤ 1048576) :
    Calls Try.prog 28 #[v] w fun e w' => ∃ v', e = .returned v' ∧ Below w.heap.size w w' ∧ SliceOf (fun b => w.heap.size ≤ b ∧ b < w'.heap.size) v' 32 (EDig w') ds := by
  have hok := digs_ok hv
  obtain ⟨ao, c, rfl, hnil, hc1, hc2, hcell⟩ := hv
  obtain ⟨i0, hi, hz0, hz1, hz2⟩ := info_parts Try.info82
  have heq := fun w a n c => Lib.run_eql_slice_nil (P := Try.prog) w 55 51 a n c 0 0 Try.underlying55
  by_cases hn : ao = none
  · subst hn
    obtain rfl := hnil rfl
    obtain rfl : ds = [] := List.eq_nil_of_length_eq_zero (by omega)
    clear hi hz0 hz1 hz2
    go_enter Try.func28, Try.ntmps28
    go_wp2
    go_ret
    exact ⟨_, rfl, Below.refl _ _, ⟨none, 0, rfl, fun _ => rfl, by simp, by omega, fun h => by simp at h⟩⟩
  · obtain ⟨a, rfl⟩ := Option.ne_none_iff_exists'.1 hn
    have HOK : Hid (∀ d ∈ ds, digOk d) := hok
    have HC : Hid (0 < ds.length → ∃ b o, some a = some ⟨b, o, none⟩ ∧ S b ∧ ∀ k x, ds[k]? = some x → EDig w b (o + k * 32) x) := hcell
    have HI : Hid (Try.prog.info? 82 = some i0) := hi
    have HZ0 : Hid (i0.zero = some (.agg (Array.replicate 32 (.int .u8 0)))) := hz0
    have HZ1 : Hid (i0.size = 32) := hz1
    have HZ2 : Hid (i0.bytes * ds.length ≤ 281474976710656) := by show _ ≤ _; rw [hz2]; omega
    clear hnil hn hi hz0 hz1 hz2 hok hcell
    go_enter Try.func28, Try.ntmps28
    go_wp2_with (at_make; refine wpList_make_full _ rfl _ _ 69 rfl w.heap.size 82 i0 _ 32 Try.underlying69 HI.out HZ0.out HZ1.out .i64 .i64 _ _ ds.length rfl rfl rfl rfl HZ2.out (by unfold maxLen; omega) (Nat.le_refl _) ?_; intro w1 hown hgrow)
    go_loopw [4] (fun i wr => ∃ k : Nat, k ≤ ds.length ∧ i = .int .i64 k ∧ Below w.heap.size w wr ∧ w.heap.size < wr.heap.size ∧ wr.there w.heap.size 0 (ds.length * 32) ∧ ∀ j d, j < k → ds[j]? = some d → wr.rangeAt w.heap.size (j * 32) (u8s d)) (fun i _ => ds.length - (intOf i).toNat)
    case atStart => exact ⟨0, Nat.zero_le _, rfl, (Below.refl _ _).grown hgrow (Nat.le_refl _) (fun _ h => by cases h), (hown.lt _ rfl).2, own_there hown, fun j d hj => by omega⟩
    case round =>
      obtain ⟨k, hk, rfl, hbel, hsz, hth, hset⟩ := hrel
      clear hown hgrow
      by_cases hlt : k < ds.length
      · obtain ⟨b, o, hab, hSb, hE⟩ := HC.out (by omega)
        obtain rfl : a = ⟨b, o, none⟩ := by simpa using hab
        obtain ⟨d, hy⟩ : ∃ d, ds[k]? = some d := ⟨_, List.getElem?_eq_getElem hlt⟩
        obtain ⟨⟨hd, _⟩, hrg⟩ := hE k d hy
        have HR : Hid (wr.rangeAt b (o + k * 32) (u8s d)) := (Below.keeps hbel hS).range hSb hrg
        have HJ : Hid ((Try.prog.info? 51).map (·.size) = some (u8s d).length) := by show _ = _; rw [length_u8s, hd]; exact Try.size51
        have HJ2 : Hid ((Try.prog.info? 82).map (·.size) = some (u8s d).toArray.size) := by show _ = _; rw [List.size_toArray, length_u8s, hd]; exact Try.size82
        have HT : Hid (wr.there w.heap.size (k * 32) (u8s d).toArray.size) := there_sub hth (by simp [length_u8s, hd]; omega)
        have HF := digs_fill hd hlt hy HOK.out hth hset
        have HF' : Hid ((wr.setCells w.heap.size (k * 32) (u8s d)).there w.heap.size 0 (ds.length * 32) ∧ ∀ j d', j < k + 1 → ds[j]? = some d' → (wr.setCells w.heap.size (k * 32) (u8s d)).rangeAt w.heap.size (j * 32) (u8s d')) := HF
        have HB : Hid (Below w.heap.size w (wr.setCells w.heap.size (k * 32) (u8s d))) := below_setCells hbel (Nat.le_refl _) _ _
        have HZ : Hid (w.heap.size < (wr.setCells w.heap.size (k * 32) (u8s d)).heap.size) := by
          have h2 := below_setCells (b := w.heap.size) (Below.refl w.heap.size wr) (Nat.le_refl _) (u8s d) (k * 32)
          exact Nat.lt_of_lt_of_le hsz h2.size
        clear HF hth hset hy hrg hE hd
        go_wp2_with (first | (refine wpList_load_mid rfl 51 _ rfl b (o + k * 32) rfl (u8s d) _ HR.out Try.underlying51 rfl HJ.out ?_) | (refine wpList_store_mid rfl 82 _ _ rfl w.heap.size (k * 32) (u8s d).toArray rfl rfl HT.out HJ2.out (all_oneCell_toArray (u8s_one d)) ?_))
        go_roundw
        case rel => exact ⟨k + 1, by omega, by go_num, HB.out, HZ.out, HF'.out.1, HF'.out.2⟩
        case measure => simp [intOf]; omega
      · obtain rfl : k = ds.length := by omega
        have HR : Hid (SliceOf (fun b => w.heap.size ≤ b ∧ b < wr.heap.size) (.slice (some ⟨w.heap.size, 0, none⟩) ds.length ds.length) 32 (EDig wr) ds) :=
          ⟨some ⟨w.heap.size, 0, none⟩, ds.length, rfl, fun h => by simp at h, Nat.le_refl _, by omega, fun _ => ⟨w.heap.size, 0, rfl, ⟨Nat.le_refl _, hsz⟩, fun k d hd => ⟨HOK.out d (List.mem_of_getElem? hd), by
            have := hset k d (List.getElem?_eq_some_iff.1 hd).1 hd
            simpa using this⟩⟩⟩
        clear hset hth
        go_wp2
        go_ret
        exact ⟨_, rfl, hbel, HR.out⟩
end Go.Proofs.Qxb6616889a
