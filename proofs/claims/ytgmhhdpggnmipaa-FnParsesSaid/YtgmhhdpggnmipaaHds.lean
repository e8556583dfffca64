/- What calls of Parse come to, one behind the other: plain, and as it lies in memory. Written by gen_hds.py. -/
import Derived.Test.YtgmhhdpggnmipaaLw2
namespace Go.Proofs.Ytgmhhdpggnmipaa.E
open Go.RowKit Go.Proofs
set_option linter.unusedVariables false
set_option linter.unusedSimpArgs false
def stD (d : Int) : St := ⟨[], [], d, .no⟩
/-- What is heard of one call: what it gave, its arguments; all that was ever given is changed. -/
def hpOf (q : St) (all : List (Nat × Txt)) : PS := ⟨true, q.given, q.args, q.dash, fun j => all.any fun g => g.1 == j⟩
def parsesL (S : SetP) : List (List Txt) → List (Nat × Txt) → Int → List (PS × Er)
  | [], _, _ => []
  | L :: Ls, all, d => (hpOf (goes S none (stD d) L) (all ++ (goes S none (stD d) L).given), (goes S none (stD d) L).err) :: parsesL S Ls (all ++ (goes S none (stD d) L).given) (goes S none (stD d) L).dash
theorem parsesL_len (S : SetP) : ∀ (ls : List (List Txt)) (all : List (Nat × Txt)) (d : Int), (parsesL S ls all d).length = ls.length
  | [], _, _ => rfl
  | L :: Ls, all, d => by simp only [parsesL, List.length_cons, parsesL_len S Ls]
/-- Rows of what was heard, of each element of which E holds. -/
def HdsAt (E : PS → Value → Value → Value → Prop) (n : Nat) : List (PS × Er) → List Value → Prop
  | [], xs => xs = []
  | p :: r, xs => ∃ (GA : Option Addr) (gc : Nat) (AA : Option Addr) (ac : Nat) (CA : Option Addr) (cc : Nat) (ys : List Value), xs = (hdCells p.1 p.2 n (.slice GA p.1.G.length gc) (.slice AA p.1.A.length ac) (.slice CA (chL p.1.chg n).length cc)).toList ++ ys ∧ E p.1 (.slice GA p.1.G.length gc) (.slice AA p.1.A.length ac) (.slice CA (chL p.1.chg n).length cc) ∧ HdsAt E n r ys
theorem hdsAt_len {E : PS → Value → Value → Value → Prop} {n : Nat} : ∀ {hs : List (PS × Er)} {xs : List Value}, HdsAt E n hs xs → xs.length = hs.length * 11
  | [], xs, h => by have h : xs = [] := h; subst h; rfl
  | p :: r, xs, h => by
    obtain ⟨GA, gc, AA, ac, CA, cc, ys, rfl, _, hr⟩ := h
    have := hdsAt_len hr
    simp only [List.length_append, List.length_cons, hdCells]
    simp; omega
theorem hdsAt_snoc {E : PS → Value → Value → Value → Prop} {n : Nat} {p : PS × Er} {GA AA CA : Option Addr} {gc ac cc : Nat} (he : E p.1 (.slice GA p.1.G.length gc) (.slice AA p.1.A.length ac) (.slice CA (chL p.1.chg n).length cc)) : ∀ {hs : List (PS × Er)} {xs : List Value}, HdsAt E n hs xs → HdsAt E n (hs ++ [p]) (xs ++ (hdCells p.1 p.2 n (.slice GA p.1.G.length gc) (.slice AA p.1.A.length ac) (.slice CA (chL p.1.chg n).length cc)).toList)
  | [], xs, h => by
    have h : xs = [] := h
    subst h
    exact ⟨GA, gc, AA, ac, CA, cc, [], by simp, he, rfl⟩
  | q :: r, xs, h => by
    obtain ⟨GA', gc', AA', ac', CA', cc', ys, rfl, he', hr⟩ := h
    exact ⟨GA', gc', AA', ac', CA', cc', _, by rw [List.append_assoc], he', hdsAt_snoc he hr⟩
theorem HdsAt.imp {E E' : PS → Value → Value → Value → Prop} {n : Nat} (k : ∀ s G A C, E s G A C → E' s G A C) : ∀ {hs : List (PS × Er)} {xs : List Value}, HdsAt E n hs xs → HdsAt E' n hs xs
  | [], _, h => h
  | p :: r, xs, ⟨GA, gc, AA, ac, CA, cc, ys, e, he, hr⟩ => ⟨GA, gc, AA, ac, CA, cc, ys, e, k _ _ _ _ he, HdsAt.imp k hr⟩
/-- A list of lists of texts, as it lies in memory. -/
def TextsIn (w : World) (v : Value) (ls : List (List Txt)) : Prop := ∃ A c, v = .slice A ls.length c ∧ ls.length ≤ c ∧ c ≤ 9223372036854775807 ∧ ∀ i (h : i < ls.length), ∃ b o u, A = some ⟨b, o, none⟩ ∧ w.cell? ⟨b, o + i, none⟩ = some u ∧ TextIn w u (ls[i].map mkT)
theorem TextsIn.below {w w' : World} {v : Value} {ls : List (List Txt)} (h : TextsIn w v ls) (hb : Below w.heap.size w w') : TextsIn w' v ls := by
  obtain ⟨A, c, e, h1, h2, h3⟩ := h
  refine ⟨A, c, e, h1, h2, fun i hi => ?_⟩
  obtain ⟨b, o, u, e1, e2, e3⟩ := h3 i hi
  exact ⟨b, o, u, e1, cell_kept hb e2, e3.below hb⟩
/-- The weight of lists of arguments. -/
def wts (ls : List (List Txt)) : Nat := (ls.map wt).sum
theorem wts_drop {ls : List (List Txt)} {k : Nat} (h : k < ls.length) : wts (ls.drop k) = wt ls[k] + wts (ls.drop (k + 1)) := by
  unfold wts
  rw [List.drop_eq_getElem_cons h, List.map_cons, List.sum_cons]
theorem gCells_app (G H : List (Nat × Txt)) : gCells (G ++ H) = gCells G ++ gCells H := by simp [gCells]
theorem Try.infoHD : (Try.prog.info? 32).map (fun i => (i.zero, i.size, i.bytes)) = some (some (.agg #[.int .i64 0, .string ⟨#[]⟩, .string ⟨#[]⟩, .string ⟨#[]⟩, .int .i64 0, .slice none 0 0, .slice none 0 0, .int .i64 0, .slice none 0 0, .bool false, .bool false]), 11, 152) := by kernel_rfl
theorem news_own {w : World} {base : Nat} {e : TypeId} {size : Nat} {A : Option Addr} {c n : Nat} {xs : List Value} (h : w.ownsRow base e size (.slice A n c) n xs) : (A = none → n = 0 ∧ c = 0) ∧ ∀ ad, A = some ad → ∀ j u, xs[j]? = some u → w.cell? (ad.add j) = some u := by
  refine ⟨own_row0 h, fun ad hA j u hu => ?_⟩
  obtain ⟨g, e1, e2⟩ := own_row_at9 h j u hu
  rw [hA] at e1
  cases e1
  rw [addr_add, Nat.zero_add]; exact e2
/-- What calls of Parse, one behind the other, leave. -/
def ParsesEnd (w : World) (n : Nat) (Q : List (PS × Er)) (e : Ending) (w' : World) : Prop := ∃ outv xs, e = .returned outv ∧ w'.ownsRow w.heap.size 32 11 outv Q.length xs ∧ HdsAt (fun s G A C => HdRows 0 w' s n G A C) n Q xs ∧ Below w.heap.size w w'
end Go.Proofs.Ytgmhhdpggnmipaa.E
