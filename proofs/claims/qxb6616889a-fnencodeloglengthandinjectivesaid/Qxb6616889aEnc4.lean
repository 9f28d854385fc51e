/-
  (*encoder).digests, encodeMACs. By an AI agent.
-/
import Derived.Test.Qxb6616889aEnc3
import Derived.WalkKit
import Derived.OwnWalk
namespace Go.Proofs.Qxb6616889a
open Go.RowKit
set_option linter.unusedVariables false
set_option linter.unusedSimpArgs false

theorem Try.size63 : (Try.prog.info? 63).map (·.size) = some 32 := by kernel_rfl
theorem Try.size82 : (Try.prog.info? 82).map (·.size) = some 32 := by kernel_rfl

theorem fixed32 (B x : Nat) (w : World) (bs d : List Int) (b o c : Nat) (hE : EncAt B x w bs) (hr : w.rangeAt b o (u8s d)) (hd : d.length = 32) (hlim : bs.length ≤ 1073741824) :
    Calls Try.prog 35 #[.pointer (some ⟨B, 0, none⟩), .slice (some ⟨b, o, none⟩) 32 c] w fun e w' => e = .returned (.tuple #[]) ∧ EncAt B x w' (bs ++ d) ∧ Near B x w w' := by
  have := fixed_any B x w bs d b o c hE hr (by omega) (by omega) hlim
  rw [hd] at this
  exact this

theorem grown_of_below {w w' : World} (h : Below w.heap.size w w') : w.grownBy w' none := ⟨h.os, h.tape, h.output, h.size, fun k hk _ => h.block k hk⟩
theorem enc_keep {B x : Nat} {w w' : World} {bs : List Int} (h : EncAt B x w bs) (hb : Below w.heap.size w w') : EncAt B x w' bs := by
  obtain ⟨sv, h1, h2, h3⟩ := h
  have hB : B < w.heap.size := (Array.getElem?_eq_some_iff.1 h1).1
  exact ⟨sv, (hb.block B hB).trans h1, h2.kept (grown_of_below hb) (by cases hv : sv.ownBlock <;> simp), h3⟩
theorem EncAt.lt {B x : Nat} {w : World} {bs : List Int} (h : EncAt B x w bs) : B < w.heap.size := by
  obtain ⟨sv, h1, _⟩ := h
  exact (Array.getElem?_eq_some_iff.1 h1).1

theorem there_new (w : World) (cs : Array Value) (t : TypeId) : (w.alloc (.cells cs t)).there w.heap.size 0 cs.size := fun j hj => by
  have hb : (w.alloc (.cells cs t)).heap[w.heap.size]? = some (.cells cs t) := heap_alloc_new w _
  rw [Nat.zero_add, cell_of_row _ _ j cs t (0, 0) hb, frozen_of_row _ _ j cs t hb]
  simp [hj]
theorem there_new32 (w : World) (cs : Array Value) (t : TypeId) (d : List Int) (hd : d.length = 32) (hc : cs.size = 32) : (w.alloc (.cells cs t)).there w.heap.size 0 (u8s d).toArray.size := by
  have h := there_new w cs t
  rw [hc] at h
  have e : (u8s d).toArray.size = 32 := by simp [length_u8s, hd]
  rw [e]; exact h
theorem below_setCells {B b : Nat} {a w : World} (h : Below B a w) (hb : B ≤ b) : ∀ (vs : List Value) (o : Nat), Below B a (w.setCells b o vs) := by
  intro vs
  induction vs generalizing w with
  | nil => intro o; exact h
  | cons v r ih => intro o; exact ih (h.setCell (p := ⟨b, o, none⟩) hb v) (o + 1)

theorem newdig (w : World) (cs : Array Value) (t : TypeId) (d : List Int) (hd : d.length = 32) (hc : cs.size = 32) :
    ((w.alloc (.cells cs t)).setCells w.heap.size 0 (u8s d)).rangeAt w.heap.size 0 (u8s d) ∧ Below w.heap.size w ((w.alloc (.cells cs t)).setCells w.heap.size 0 (u8s d)) :=
  ⟨World.rangeAt_setCells_same _ _ _ _ (by have := there_new32 w cs t d hd hc; simpa using this), below_setCells ((Below.refl _ _).alloc (Nat.le_refl _) _) (Nat.le_refl _) _ _⟩

theorem ds_step (ds : List (List Int)) (k : Nat) (d : List Int) (h : ds[k]? = some d) (bs : List Int) : bs ++ (cnt4 ds ++ (ds.take (k + 1)).flatten) = (bs ++ (cnt4 ds ++ (ds.take k).flatten)) ++ d := by
  rw [take_snoc h]; simp
theorem ds_len (ds : List (List Int)) (h : ∀ d ∈ ds, d.length = 32) (k : Nat) : ((ds.take k).flatten).length ≤ 32 * ds.length := by
  rw [flatten_length32 _ (fun d hd => h d (List.mem_of_mem_take hd))]
  have : (ds.take k).length ≤ ds.length := by simp; omega
  omega

set_option maxHeartbeats 4000000 in
theorem digests_any (S : Nat → Prop) (B x : Nat) (w : World) (bs : List Int) (ds : List (List Int)) (v : Value) (hE : EncAt B x w bs) (hv : SliceOf S v 32 (EDig w) ds) (h32 : ∀ d ∈ ds, d.length = 32) (hS : ∀ b, S b → b < B ∧ b ≠ x) (hlim : bs.length + 4 + 32 * ds.length ≤ 1073741824) :
    Calls Try.prog 37 #[.pointer (some ⟨B, 0, none⟩), v] w fun e w' => e = .returned (.tuple #[]) ∧ EncAt B x w' (bs ++ encDs ds) ∧ Near B x w w' := by
  obtain ⟨ao, c, rfl, hnil, hc1, hc2, hcell⟩ := hv
  have HC : Hid (0 < ds.length → ∃ b o, ao = some ⟨b, o, none⟩ ∧ S b ∧ ∀ k x, ds[k]? = some x → EDig w b (o + k * 32) x) := hcell
  have H32 : Hid (∀ d ∈ ds, d.length = 32) := h32
  clear hcell hnil h32
  go_enter Try.func37, Try.ntmps37
  go_wp2_with (go_at_call 24; refine (u32_any B x _ _ bs hE (by omega) (by omega) (by omega)).mono ?_; rintro e w1 ⟨rfl, hE1, hN1⟩)
  go_loopw [13] (fun i wr => ∃ k : Nat, k ≤ ds.length ∧ i = .int .i64 k ∧ EncAt B x wr (bs ++ (cnt4 ds ++ (ds.take k).flatten)) ∧ Near B x w wr) (fun i _ => ds.length - (intOf i).toNat)
  case atStart => exact ⟨0, Nat.zero_le _, rfl, by simpa [cnt4] using hE1, hN1⟩
  case round =>
    obtain ⟨k, hk, rfl, hEr, hNr⟩ := hrel
    clear hE hE1 hN1
    have hl : (bs ++ (cnt4 ds ++ (ds.take k).flatten)).length ≤ 1073741824 := by
      have := ds_len ds H32.out k
      simp only [List.length_append, cnt4_length]; omega
    by_cases hlt : k < ds.length
    · obtain ⟨b, o, rfl, hSb, hE0⟩ := HC.out (by omega)
      obtain ⟨d, hy⟩ : ∃ y, ds[k]? = some y := ⟨_, List.getElem?_eq_getElem hlt⟩
      obtain ⟨⟨hd32, _⟩, hrg⟩ := hE0 k d hy
      have HR : Hid (wr.rangeAt b (o + k * 32) (u8s d)) := (hNr.keeps hS).range hSb hrg
      have HI : Hid ((Try.prog.info? 63).map (·.size) = some (u8s d).length) := by show _ = _; rw [length_u8s, hd32]; exact Try.size63
      have HI2 : Hid ((Try.prog.info? 63).map (·.size) = some (u8s d).toArray.size) := by show _ = _; rw [List.size_toArray, length_u8s, hd32]; exact Try.size63
      have HS : Hid (bs ++ (cnt4 ds ++ (ds.take (k + 1)).flatten) = (bs ++ (cnt4 ds ++ (ds.take k).flatten)) ++ d) := ds_step ds k d hy bs
      have HE : Hid (EncAt B x wr (bs ++ (cnt4 ds ++ (ds.take k).flatten))) := hEr
      have HLn : Hid ((bs ++ (cnt4 ds ++ (ds.take k).flatten)).length ≤ 1073741824) := hl
      have HD : Hid (d.length = 32) := hd32
      clear hy hE0 HC hEr hl hrg hd32
      go_wp2_with (first | (refine wpList_load_mid rfl 63 _ rfl b (o + k * 32) rfl (u8s d) _ HR.out Try.underlying63 rfl HI.out ?_) | (refine wpList_store_mid rfl 63 _ _ rfl wr.heap.size 0 (u8s d).toArray rfl rfl (there_new32 wr _ 63 d HD.out rfl) HI2.out (all_oneCell_toArray (u8s_one d)) ?_) | (go_at_call 35; refine (fixed32 B x _ _ d wr.heap.size 0 32 (enc_keep HE.out (newdig wr _ 63 d HD.out (by rfl)).2) (newdig wr _ 63 d HD.out (by rfl)).1 HD.out HLn.out).mono ?_; rintro e w2 ⟨rfl, hE2, hN2⟩))
      go_roundw
      case rel => exact ⟨k + 1, by omega, by go_num, by rw [HS.out]; exact hE2, hNr.trans ((Near.of_below ((newdig wr _ 63 d HD.out (by rfl)).2.mono (Nat.le_of_lt HE.out.lt))).trans hN2)⟩
      case measure => simp [intOf]; omega
    · obtain rfl : k = ds.length := by omega
      have HE : Hid (EncAt B x wr (bs ++ encDs ds)) := by rw [List.take_length] at hEr; exact hEr
      clear hEr hl HC
      go_wp2
      go_end0
      exact ⟨rfl, HE.out, hNr⟩
set_option maxHeartbeats 4000000 in
theorem macs_any (S : Nat → Prop) (B x : Nat) (w : World) (bs : List Int) (ds : List (List Int)) (v : Value) (hE : EncAt B x w bs) (hv : SliceOf S v 32 (EDig w) ds) (h32 : ∀ d ∈ ds, d.length = 32) (hS : ∀ b, S b → b < B ∧ b ≠ x) (hlim : bs.length + 4 + 32 * ds.length ≤ 1073741824) :
    Calls Try.prog 38 #[.pointer (some ⟨B, 0, none⟩), v] w fun e w' => e = .returned (.tuple #[]) ∧ EncAt B x w' (bs ++ encDs ds) ∧ Near B x w w' := by
  obtain ⟨ao, c, rfl, hnil, hc1, hc2, hcell⟩ := hv
  have HC : Hid (0 < ds.length → ∃ b o, ao = some ⟨b, o, none⟩ ∧ S b ∧ ∀ k x, ds[k]? = some x → EDig w b (o + k * 32) x) := hcell
  have H32 : Hid (∀ d ∈ ds, d.length = 32) := h32
  clear hcell hnil h32
  go_enter Try.func38, Try.ntmps38
  go_wp2_with (go_at_call 24; refine (u32_any B x _ _ bs hE (by omega) (by omega) (by omega)).mono ?_; rintro e w1 ⟨rfl, hE1, hN1⟩)
  go_loopw [13] (fun i wr => ∃ k : Nat, k ≤ ds.length ∧ i = .int .i64 k ∧ EncAt B x wr (bs ++ (cnt4 ds ++ (ds.take k).flatten)) ∧ Near B x w wr) (fun i _ => ds.length - (intOf i).toNat)
  case atStart => exact ⟨0, Nat.zero_le _, rfl, by simpa [cnt4] using hE1, hN1⟩
  case round =>
    obtain ⟨k, hk, rfl, hEr, hNr⟩ := hrel
    clear hE hE1 hN1
    have hl : (bs ++ (cnt4 ds ++ (ds.take k).flatten)).length ≤ 1073741824 := by
      have := ds_len ds H32.out k
      simp only [List.length_append, cnt4_length]; omega
    by_cases hlt : k < ds.length
    · obtain ⟨b, o, rfl, hSb, hE0⟩ := HC.out (by omega)
      obtain ⟨d, hy⟩ : ∃ y, ds[k]? = some y := ⟨_, List.getElem?_eq_getElem hlt⟩
      obtain ⟨⟨hd32, _⟩, hrg⟩ := hE0 k d hy
      have HR : Hid (wr.rangeAt b (o + k * 32) (u8s d)) := (hNr.keeps hS).range hSb hrg
      have HI : Hid ((Try.prog.info? 82).map (·.size) = some (u8s d).length) := by show _ = _; rw [length_u8s, hd32]; exact Try.size82
      have HI2 : Hid ((Try.prog.info? 82).map (·.size) = some (u8s d).toArray.size) := by show _ = _; rw [List.size_toArray, length_u8s, hd32]; exact Try.size82
      have HS : Hid (bs ++ (cnt4 ds ++ (ds.take (k + 1)).flatten) = (bs ++ (cnt4 ds ++ (ds.take k).flatten)) ++ d) := ds_step ds k d hy bs
      have HE : Hid (EncAt B x wr (bs ++ (cnt4 ds ++ (ds.take k).flatten))) := hEr
      have HLn : Hid ((bs ++ (cnt4 ds ++ (ds.take k).flatten)).length ≤ 1073741824) := hl
      have HD : Hid (d.length = 32) := hd32
      clear hy hE0 HC hEr hl hrg hd32
      go_wp2_with (first | (refine wpList_load_mid rfl 82 _ rfl b (o + k * 32) rfl (u8s d) _ HR.out Try.underlying82 rfl HI.out ?_) | (refine wpList_store_mid rfl 82 _ _ rfl wr.heap.size 0 (u8s d).toArray rfl rfl (there_new32 wr _ 82 d HD.out rfl) HI2.out (all_oneCell_toArray (u8s_one d)) ?_) | (go_at_call 35; refine (fixed32 B x _ _ d wr.heap.size 0 32 (enc_keep HE.out (newdig wr _ 82 d HD.out (by rfl)).2) (newdig wr _ 82 d HD.out (by rfl)).1 HD.out HLn.out).mono ?_; rintro e w2 ⟨rfl, hE2, hN2⟩))
      go_roundw
      case rel => exact ⟨k + 1, by omega, by go_num, by rw [HS.out]; exact hE2, hNr.trans ((Near.of_below ((newdig wr _ 82 d HD.out (by rfl)).2.mono (Nat.le_of_lt HE.out.lt))).trans hN2)⟩
      case measure => simp [intOf]; omega
    · obtain rfl : k = ds.length := by omega
      have HE : Hid (EncAt B x wr (bs ++ encDs ds)) := by rw [List.take_length] at hEr; exact hEr
      clear hEr hl HC
      go_wp2
      go_end0
      exact ⟨rfl, HE.out, hNr⟩
end Go.Proofs.Qxb6616889a

