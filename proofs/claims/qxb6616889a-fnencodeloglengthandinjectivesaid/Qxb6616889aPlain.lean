/-
  THE ENCODING, PLAINLY: lists of numbers; no Go in sight. By an AI agent.
-/
import Derived.Below
namespace Go.Proofs.Qxb6616889a
set_option linter.unusedVariables false

/-- A checkpoint's and an entry's plain data. -/
structure Cp where
  seq : Int
  dig : List Int
  size : Int
  hist : List Int
  q : List Int
structure En where
  reqs : List (List Int)
  q : List Int
  macs : List (List Int)

/-- 32 bytes; a checkpoint's numbers in their kinds; an entry's digests. -/
def digOk (d : List Int) : Prop := d.length = 32 ∧ ∀ b ∈ d, 0 ≤ b ∧ b ≤ 255
def Cp.ok (c : Cp) : Prop := digOk c.dig ∧ digOk c.hist ∧ 0 ≤ c.seq ∧ c.seq ≤ 18446744073709551615 ∧ 0 ≤ c.size ∧ c.size ≤ 18446744073709551615
def En.ok (e : En) : Prop := (∀ d ∈ e.reqs, digOk d) ∧ ∀ d ∈ e.macs, digOk d

def be4 (v : Int) : List Int := [v / 16777216, v / 65536 % 256, v / 256 % 256, v % 256]
def be8 (v : Int) : List Int := [v / 72057594037927936, v / 281474976710656 % 256, v / 1099511627776 % 256, v / 4294967296 % 256, v / 16777216 % 256, v / 65536 % 256, v / 256 % 256, v % 256]
/-- A count, and an id's low 32 bits. -/
def cnt4 {α : Type} (l : List α) : List Int := be4 (l.length : Int)
def id4 (i : Int) : List Int := be4 (i % 4294967296)
def encIds (q : List Int) : List Int := cnt4 q ++ q.flatMap id4
def encDs (ds : List (List Int)) : List Int := cnt4 ds ++ ds.flatten
def encCp (c : Cp) : List Int := be8 c.seq ++ (c.dig ++ (be8 c.size ++ (c.hist ++ encIds c.q)))
def encEn (e : En) : List Int := encDs e.reqs ++ (encIds e.q ++ encDs e.macs)
def encCps (cs : List Cp) : List Int := cs.flatMap encCp
def encEns (es : List En) : List Int := es.flatMap encEn
def encLog (cs : List Cp) (es : List En) : List Int := cnt4 cs ++ (encCps cs ++ (cnt4 es ++ encEns es))

theorem be4_length (v : Int) : (be4 v).length = 4 := rfl
theorem be8_length (v : Int) : (be8 v).length = 8 := rfl
theorem cnt4_length {α : Type} (l : List α) : (cnt4 l).length = 4 := rfl
theorem encIds_length (q : List Int) : (encIds q).length = 4 + 4 * q.length := by
  have : (q.flatMap id4).length = 4 * q.length := by
    induction q with
    | nil => rfl
    | cons a r ih => simp only [List.flatMap_cons, List.length_append, ih, List.length_cons, id4, be4_length]; omega
  simp only [encIds, List.length_append, cnt4_length, this]
theorem flatten_length32 (ds : List (List Int)) (h : ∀ d ∈ ds, d.length = 32) : ds.flatten.length = 32 * ds.length := by
  induction ds with
  | nil => rfl
  | cons a r ih =>
    simp only [List.flatten_cons, List.length_append, List.length_cons, ih (fun d hd => h d (by simp [hd])), h a (by simp)]; omega
theorem encDs_length (ds : List (List Int)) (h : ∀ d ∈ ds, d.length = 32) : (encDs ds).length = 4 + 32 * ds.length := by
  simp only [encDs, List.length_append, cnt4_length, flatten_length32 ds h]
theorem encCp_length (c : Cp) (h : c.ok) : (encCp c).length = 84 + 4 * c.q.length := by
  simp only [encCp, List.length_append, be8_length, encIds_length, h.1.1, h.2.1.1]; omega
theorem encEn_length (e : En) (h : e.ok) : (encEn e).length = 12 + 32 * e.reqs.length + 4 * e.q.length + 32 * e.macs.length := by
  simp only [encEn, List.length_append, encIds_length, encDs_length e.reqs (fun d hd => (h.1 d hd).1), encDs_length e.macs (fun d hd => (h.2 d hd).1)]; omega
end Go.Proofs.Qxb6616889a
