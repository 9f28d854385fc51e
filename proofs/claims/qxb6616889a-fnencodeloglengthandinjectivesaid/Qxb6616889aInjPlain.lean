/-
  THE SECOND LAW, PLAINLY: two small logs encode alike exactly when they are the same. By an AI agent.
-/
import Derived.Test.Qxb6616889aPlain
namespace Go.Proofs.Qxb6616889a
set_option linter.unusedVariables false

/-- Ids by their low 32 bits. -/
def lowIds (q : List Int) : List Int := q.map (· % 4294967296)
def normC (c : Cp) : Int × List Int × Int × List Int × List Int := (c.seq, c.dig, c.size, c.hist, lowIds c.q)
def normE (e : En) : List (List Int) × List Int × List (List Int) := (e.reqs, lowIds e.q, e.macs)
def SameLog (cs : List Cp) (es : List En) (cs2 : List Cp) (es2 : List En) : Prop := cs.map normC = cs2.map normC ∧ es.map normE = es2.map normE

theorem be4_inj {a b : Int} {r s : List Int} (ha : 0 ≤ a ∧ a ≤ 4294967295) (hb : 0 ≤ b ∧ b ≤ 4294967295) (h : be4 a ++ r = be4 b ++ s) : a = b ∧ r = s := by
  simp only [be4, List.cons_append, List.nil_append, List.cons.injEq] at h
  obtain ⟨h0, h1, h2, h3, h4⟩ := h
  exact ⟨by omega, h4⟩
theorem be8_inj {a b : Int} {r s : List Int} (ha : 0 ≤ a ∧ a ≤ 18446744073709551615) (hb : 0 ≤ b ∧ b ≤ 18446744073709551615) (h : be8 a ++ r = be8 b ++ s) : a = b ∧ r = s := by
  simp only [be8, List.cons_append, List.nil_append, List.cons.injEq] at h
  obtain ⟨h0, h1, h2, h3, h4, h5, h6, h7, h8⟩ := h
  refine ⟨?_, h8⟩
  have t1 : a / 256 = b / 256 := by
    have u1 : a / 65536 = b / 65536 := by
      have u2 : a / 16777216 = b / 16777216 := by
        have u3 : a / 4294967296 = b / 4294967296 := by
          have u4 : a / 1099511627776 = b / 1099511627776 := by
            have u5 : a / 281474976710656 = b / 281474976710656 := by omega
            omega
          omega
        omega
      omega
    omega
  omega
theorem len_inj {α : Type} {a b : List α} {r s : List Int} (ha : a.length ≤ 4294967295) (hb : b.length ≤ 4294967295) (h : cnt4 a ++ r = cnt4 b ++ s) : a.length = b.length ∧ r = s := by
  obtain ⟨h1, h2⟩ := be4_inj (by omega) (by omega) h
  exact ⟨by omega, h2⟩

theorem ids_body : ∀ (a b : List Int) (r s : List Int), a.length = b.length → a.flatMap id4 ++ r = b.flatMap id4 ++ s → lowIds a = lowIds b ∧ r = s
  | [], [], r, s, _, h => ⟨rfl, by simpa using h⟩
  | x :: a, y :: b, r, s, hl, h => by
    simp only [List.flatMap_cons, List.append_assoc, id4] at h
    obtain ⟨h1, h2⟩ := be4_inj (by omega) (by omega) h
    obtain ⟨h3, h4⟩ := ids_body a b r s (by simpa using hl) h2
    refine ⟨?_, h4⟩
    simp only [lowIds, List.map_cons, List.cons.injEq]
    exact ⟨h1, h3⟩
  | [], _ :: _, _, _, hl, _ => by simp at hl
  | _ :: _, [], _, _, hl, _ => by simp at hl
theorem encIds_inj {a b r s : List Int} (ha : a.length ≤ 4294967295) (hb : b.length ≤ 4294967295) (h : encIds a ++ r = encIds b ++ s) : lowIds a = lowIds b ∧ r = s := by
  unfold encIds at h
  rw [List.append_assoc, List.append_assoc] at h
  obtain ⟨h1, h2⟩ := len_inj ha hb h
  exact ids_body a b r s h1 h2
theorem ds_body : ∀ (a b : List (List Int)) (r s : List Int), a.length = b.length → (∀ d ∈ a, d.length = 32) → (∀ d ∈ b, d.length = 32) → a.flatten ++ r = b.flatten ++ s → a = b ∧ r = s
  | [], [], r, s, _, _, _, h => ⟨rfl, by simpa using h⟩
  | x :: a, y :: b, r, s, hl, ha, hb, h => by
    simp only [List.flatten_cons, List.append_assoc] at h
    obtain ⟨h1, h2⟩ := List.append_inj h (by rw [ha x (by simp), hb y (by simp)])
    obtain ⟨h3, h4⟩ := ds_body a b r s (by simpa using hl) (fun d hd => ha d (by simp [hd])) (fun d hd => hb d (by simp [hd])) h2
    exact ⟨by rw [h1, h3], h4⟩
  | [], _ :: _, _, _, hl, _, _, _ => by simp at hl
  | _ :: _, [], _, _, hl, _, _, _ => by simp at hl
theorem encDs_inj {a b : List (List Int)} {r s : List Int} (ha : a.length ≤ 4294967295) (hb : b.length ≤ 4294967295) (ka : ∀ d ∈ a, d.length = 32) (kb : ∀ d ∈ b, d.length = 32) (h : encDs a ++ r = encDs b ++ s) : a = b ∧ r = s := by
  unfold encDs at h
  rw [List.append_assoc, List.append_assoc] at h
  obtain ⟨h1, h2⟩ := len_inj ha hb h
  exact ds_body a b r s h1 ka kb h2

/-- A checkpoint, an entry that may be encoded. -/
def Cp.fit (c : Cp) : Prop := c.ok ∧ c.q.length ≤ 4294967295
def En.fit (e : En) : Prop := e.ok ∧ e.reqs.length ≤ 4294967295 ∧ e.q.length ≤ 4294967295 ∧ e.macs.length ≤ 4294967295
theorem encCp_inj {x y : Cp} {r s : List Int} (hx : x.fit) (hy : y.fit) (h : encCp x ++ r = encCp y ++ s) : normC x = normC y ∧ r = s := by
  obtain ⟨⟨d1, d2, s1, s2, z1, z2⟩, lx⟩ := hx
  obtain ⟨⟨e1, e2, t1, t2, w1, w2⟩, ly⟩ := hy
  unfold encCp at h
  simp only [List.append_assoc] at h
  obtain ⟨a1, h⟩ := be8_inj ⟨s1, s2⟩ ⟨t1, t2⟩ h
  obtain ⟨a2, h⟩ := List.append_inj h (by rw [d1.1, e1.1])
  obtain ⟨a3, h⟩ := be8_inj ⟨z1, z2⟩ ⟨w1, w2⟩ h
  obtain ⟨a4, h⟩ := List.append_inj h (by rw [d2.1, e2.1])
  obtain ⟨a5, h⟩ := encIds_inj lx ly h
  exact ⟨by simp only [normC, a1, a2, a3, a4, a5], h⟩
theorem encEn_inj {x y : En} {r s : List Int} (hx : x.fit) (hy : y.fit) (h : encEn x ++ r = encEn y ++ s) : normE x = normE y ∧ r = s := by
  obtain ⟨⟨d1, d2⟩, l1, l2, l3⟩ := hx
  obtain ⟨⟨e1, e2⟩, m1, m2, m3⟩ := hy
  unfold encEn at h
  simp only [List.append_assoc] at h
  obtain ⟨a1, h⟩ := encDs_inj l1 m1 (fun d hd => (d1 d hd).1) (fun d hd => (e1 d hd).1) h
  obtain ⟨a2, h⟩ := encIds_inj l2 m2 h
  obtain ⟨a3, h⟩ := encDs_inj l3 m3 (fun d hd => (d2 d hd).1) (fun d hd => (e2 d hd).1) h
  exact ⟨by simp only [normE, a1, a2, a3], h⟩
theorem cps_body : ∀ (a b : List Cp) (r s : List Int), a.length = b.length → (∀ c ∈ a, c.fit) → (∀ c ∈ b, c.fit) → encCps a ++ r = encCps b ++ s → a.map normC = b.map normC ∧ r = s
  | [], [], r, s, _, _, _, h => ⟨rfl, by simpa [encCps] using h⟩
  | x :: a, y :: b, r, s, hl, ha, hb, h => by
    simp only [encCps, List.flatMap_cons, List.append_assoc] at h
    obtain ⟨h1, h2⟩ := encCp_inj (ha x (by simp)) (hb y (by simp)) h
    obtain ⟨h3, h4⟩ := cps_body a b r s (by simpa using hl) (fun d hd => ha d (by simp [hd])) (fun d hd => hb d (by simp [hd])) h2
    exact ⟨by rw [List.map_cons, List.map_cons, h1, h3], h4⟩
  | [], _ :: _, _, _, hl, _, _, _ => by simp at hl
  | _ :: _, [], _, _, hl, _, _, _ => by simp at hl
theorem ens_body : ∀ (a b : List En) (r s : List Int), a.length = b.length → (∀ c ∈ a, c.fit) → (∀ c ∈ b, c.fit) → encEns a ++ r = encEns b ++ s → a.map normE = b.map normE ∧ r = s
  | [], [], r, s, _, _, _, h => ⟨rfl, by simpa [encEns] using h⟩
  | x :: a, y :: b, r, s, hl, ha, hb, h => by
    simp only [encEns, List.flatMap_cons, List.append_assoc] at h
    obtain ⟨h1, h2⟩ := encEn_inj (ha x (by simp)) (hb y (by simp)) h
    obtain ⟨h3, h4⟩ := ens_body a b r s (by simpa using hl) (fun d hd => ha d (by simp [hd])) (fun d hd => hb d (by simp [hd])) h2
    exact ⟨by rw [List.map_cons, List.map_cons, h1, h3], h4⟩
  | [], _ :: _, _, _, hl, _, _, _ => by simp at hl
  | _ :: _, [], _, _, hl, _, _, _ => by simp at hl

theorem same_of_enc {cs cs2 : List Cp} {es es2 : List En} (h1 : ∀ c ∈ cs, c.fit) (h2 : ∀ c ∈ cs2, c.fit) (k1 : ∀ e ∈ es, e.fit) (k2 : ∀ e ∈ es2, e.fit) (l1 : cs.length ≤ 4294967295) (l2 : cs2.length ≤ 4294967295) (m1 : es.length ≤ 4294967295) (m2 : es2.length ≤ 4294967295)
    (h : encLog cs es = encLog cs2 es2) : SameLog cs es cs2 es2 := by
  unfold encLog at h
  obtain ⟨a1, h⟩ := len_inj l1 l2 h
  obtain ⟨a2, h⟩ := cps_body cs cs2 _ _ a1 h1 h2 h
  obtain ⟨a3, h⟩ := len_inj m1 m2 h
  obtain ⟨a4, _⟩ := ens_body es es2 [] [] a3 k1 k2 (by simpa using h)
  exact ⟨a2, a4⟩

theorem flatMap_low {q r : List Int} (h : lowIds q = lowIds r) : q.flatMap id4 = r.flatMap id4 := by
  have e : ∀ q : List Int, q.flatMap id4 = (lowIds q).flatMap be4 := fun q => by
    induction q with
    | nil => rfl
    | cons x a ih => simp only [List.flatMap_cons, lowIds, List.map_cons] at *; rw [ih]; rfl
  rw [e, e, h]
theorem low_length {q r : List Int} (h : lowIds q = lowIds r) : q.length = r.length := by
  have := congrArg List.length h
  simpa [lowIds] using this
theorem encIds_low {q r : List Int} (h : lowIds q = lowIds r) : encIds q = encIds r := by
  unfold encIds cnt4; rw [flatMap_low h, low_length h]
theorem encCp_norm {x y : Cp} (h : normC x = normC y) : encCp x = encCp y := by
  simp only [normC, Prod.mk.injEq] at h
  obtain ⟨a1, a2, a3, a4, a5⟩ := h
  unfold encCp; rw [a1, a2, a3, a4, encIds_low a5]
theorem encEn_norm {x y : En} (h : normE x = normE y) : encEn x = encEn y := by
  simp only [normE, Prod.mk.injEq] at h
  obtain ⟨a1, a2, a3⟩ := h
  unfold encEn; rw [a1, encIds_low a2, a3]
theorem encCps_norm : ∀ {a b : List Cp}, a.map normC = b.map normC → encCps a = encCps b
  | [], [], _ => rfl
  | x :: a, y :: b, h => by
    simp only [List.map_cons, List.cons.injEq] at h
    simp only [encCps, List.flatMap_cons]
    have := encCps_norm h.2
    unfold encCps at this
    rw [encCp_norm h.1, this]
  | [], _ :: _, h => by simp at h
  | _ :: _, [], h => by simp at h
theorem encEns_norm : ∀ {a b : List En}, a.map normE = b.map normE → encEns a = encEns b
  | [], [], _ => rfl
  | x :: a, y :: b, h => by
    simp only [List.map_cons, List.cons.injEq] at h
    simp only [encEns, List.flatMap_cons]
    have := encEns_norm h.2
    unfold encEns at this
    rw [encEn_norm h.1, this]
  | [], _ :: _, h => by simp at h
  | _ :: _, [], h => by simp at h
theorem enc_of_same {cs cs2 : List Cp} {es es2 : List En} (h : SameLog cs es cs2 es2) : encLog cs es = encLog cs2 es2 := by
  have l1 : cs.length = cs2.length := by have := congrArg List.length h.1; simpa using this
  have l2 : es.length = es2.length := by have := congrArg List.length h.2; simpa using this
  unfold encLog cnt4; rw [encCps_norm h.1, encEns_norm h.2, l1, l2]
end Go.Proofs.Qxb6616889a
