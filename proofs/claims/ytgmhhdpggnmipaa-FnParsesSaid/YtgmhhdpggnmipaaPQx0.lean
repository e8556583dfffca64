-- Written by ext_print.py (a wrapper round the print), with given contracts. Not trusted: Lean checks it.
import Derived.Test.YtgmhhdpggnmipaaProg
import Derived.Below
import Derived.Deep.Draws
import Derived.Deep.AppendLies
import Derived.Maps.AppendAt
import Derived.OwnWalk
import Derived.Laws.BytesArg
import Derived.Laws.MakeOwn
import Derived.Laws.OwnMore
import Derived.Deep.OwnRows
import Derived.Tactics
import Derived.Lib.ConvBytes
import Derived.Laws.Slices
import Derived.WalkKit
import Derived.KernelRfl
import Derived.RowKit3
import Derived.Deep.LoopGhost
import Derived.Deep.QuietTactic
import Derived.BigQuiet
import Derived.WideLaws
import Derived.Deep.DeepCutAuto
import Derived.Deep.CutBlock
import Derived.Deep.RegionHeld3
import Derived.Laws.Rows
import Derived.Lib.AppendStr
import Derived.ArgAppend
import Derived.Laws.IdiomCopy
import Derived.OrdersHeld
import Derived.Laws.BitsLemmas
import Derived.RowKit
import Derived.Test.YtgmhhdpggnmipaaWWords
import Derived.Test.YtgmhhdpggnmipaaWLast
import Derived.Test.YtgmhhdpggnmipaaWEqStruct
import Derived.Test.YtgmhhdpggnmipaaGate
namespace Go.Proofs.Ytgmhhdpggnmipaa.PQ
open Go.RowKit Go.Proofs.YtgmhhdpggnmipaaW.PrintWords Go.Proofs.YtgmhhdpggnmipaaW.PrintLast
set_option linter.unusedVariables false
set_option linter.unusedSimpArgs false



def errW : Option Int → Value
  | none => .nilIface
  | some c => .iface 0 (.int .i64 c)
theorem errW_none : errW none = .nilIface := rfl
theorem errW_some (c : Int) : errW (some c) = .iface 0 (.int .i64 c) := rfl

theorem info3 : (Try.prog.info? 3).map (fun i => (i.zero, i.size, i.bytes)) = some (some (.int .i64 0), 1, 8) := by kernel_rfl
theorem info9 : (Try.prog.info? 9).map (fun i => (i.zero, i.size, i.bytes)) = some (some (.string ⟨#[]⟩), 1, 16) := by kernel_rfl
theorem info57 : (Try.prog.info? 57).map (fun i => (i.zero, i.size, i.bytes)) = some (some (.agg #[(.int .i64 0), (.string ⟨#[]⟩)]), 2, 24) := by kernel_rfl
-- the values' own types
def rd_L1 (xs : List (List ByteArray)) (i : Int) : (List ByteArray) := xs.getD i.toNat ([] : List ByteArray)
theorem at_L1 {w : World} {A : Option Addr} {n : Nat} {xs : List (List ByteArray)} (h : Kd.C (Kd.slice 9 Kd.string) w A n xs) (i : Int) (h0 : 0 ≤ i) (h1 : i < n) : ∃ ad A0 c0, A = some ad ∧ w.cell? (ad.add i.toNat) = some (.slice A0 (rd_L1 xs i).length c0) ∧ (rd_L1 xs i).length ≤ c0 ∧ Kd.string.C w A0 (rd_L1 xs i).length (rd_L1 xs i) := by
  obtain ⟨ad, c, e, _, hK, hc0⟩ := Kd.C_get h ([] : List ByteArray) i h0 h1
  have hc : ∀ j u, c[j]? = some u → w.cell? (ad.add (i.toNat * 1 + j)) = some u := hc0
  obtain ⟨A0, c0, rfl, l0, g0⟩ := hK
  exact ⟨ad, A0, c0, e, by have hq := hc 0 _ rfl; rwa [Nat.mul_one, Nat.add_zero] at hq, l0, g0⟩

/-! #### struct type 47 -/
structure S47 where
  f0 : ByteArray
  f1 : ByteArray
  f2 : ByteArray
  f3 : (List ByteArray)
def z47 : S47 := ⟨(⟨#[]⟩ : ByteArray), (⟨#[]⟩ : ByteArray), (⟨#[]⟩ : ByteArray), ([] : List ByteArray)⟩
def k47 : Kd S47 := Kd.iso (Kd.pair Kd.string (Kd.pair Kd.string (Kd.pair Kd.string (Kd.slice 9 Kd.string)))) (fun x : S47 => (x.f0, x.f1, x.f2, x.f3))
theorem k47_open {w : World} {x : S47} {cs : List Value} (h : k47.K w x cs) : ∃ A3 c3, cs = [.string x.f0, .string x.f1, .string x.f2, .slice A3 x.f3.length c3] ∧ x.f3.length ≤ c3 ∧ Kd.string.C w A3 x.f3.length x.f3 := by
  obtain ⟨_, _, rfl, rfl, ⟨_, _, rfl, rfl, ⟨_, _, rfl, rfl, ⟨A3, c3, rfl, l3, g3⟩⟩⟩⟩ := h
  exact ⟨A3, c3, rfl, l3, g3⟩
theorem k47_openM {w : World} {base : Nat} {ok : Nat → Prop} {x : S47} {cs : List Value} (h : k47.M w base ok x cs) : ∃ v3, cs = [.string x.f0, .string x.f1, .string x.f2, v3] ∧ Kd.string.R 9 w base ok v3 x.f3 := by
  obtain ⟨_, _, rfl, rfl, ⟨_, _, rfl, rfl, ⟨_, _, rfl, rfl, ⟨v3, rfl, g3⟩⟩⟩⟩ := h
  exact ⟨v3, rfl, g3⟩
theorem k47_mk (w : World) (x : S47) {A3 : Option Addr} {c3 : Nat} (l3 : x.f3.length ≤ c3) (g3 : Kd.string.C w A3 x.f3.length x.f3) : k47.K w x [.string x.f0, .string x.f1, .string x.f2, .slice A3 x.f3.length c3] := ⟨[.string x.f0], [.string x.f1, .string x.f2, .slice A3 x.f3.length c3], rfl, rfl, ⟨[.string x.f1], [.string x.f2, .slice A3 x.f3.length c3], rfl, rfl, ⟨[.string x.f2], [.slice A3 x.f3.length c3], rfl, rfl, ⟨A3, c3, rfl, l3, g3⟩⟩⟩⟩
theorem k47_mkM (w : World) (base : Nat) (ok : Nat → Prop) (x : S47) {v3 : Value} (g3 : Kd.string.R 9 w base ok v3 x.f3) : k47.M w base ok x [.string x.f0, .string x.f1, .string x.f2, v3] := ⟨[.string x.f0], [.string x.f1, .string x.f2, v3], rfl, rfl, ⟨[.string x.f1], [.string x.f2, v3], rfl, rfl, ⟨[.string x.f2], [v3], rfl, rfl, ⟨v3, rfl, g3⟩⟩⟩⟩
def rd_T47 (xs : List S47) (i : Int) : S47 := xs.getD i.toNat z47
theorem at_T47 {w : World} {A : Option Addr} {n : Nat} {xs : List S47} (h : Kd.C k47 w A n xs) (i : Int) (h0 : 0 ≤ i) (h1 : i < n) : ∃ ad A3 c3, A = some ad ∧ w.cell? (ad.add (i.toNat * 4)) = some (.string (rd_T47 xs i).f0) ∧ w.cell? ⟨(ad.add (i.toNat * 4)).block, (ad.add (i.toNat * 4)).off + 1, none⟩ = some (.string (rd_T47 xs i).f1) ∧ w.cell? ⟨(ad.add (i.toNat * 4)).block, (ad.add (i.toNat * 4)).off + 2, none⟩ = some (.string (rd_T47 xs i).f2) ∧ w.cell? ⟨(ad.add (i.toNat * 4)).block, (ad.add (i.toNat * 4)).off + 3, none⟩ = some (.slice A3 (rd_T47 xs i).f3.length c3) ∧ (rd_T47 xs i).f3.length ≤ c3 ∧ Kd.string.C w A3 (rd_T47 xs i).f3.length (rd_T47 xs i).f3 := by
  obtain ⟨ad, c, e, _, hK, hc0⟩ := Kd.C_get h z47 i h0 h1
  have hc : ∀ j u, c[j]? = some u → w.cell? (ad.add (i.toNat * 4 + j)) = some u := hc0
  obtain ⟨A3, c3, rfl, l3, g3⟩ := k47_open hK
  exact ⟨ad, A3, c3, e, hc 0 _ rfl, by rw [← add_field _ _ 1 (by omega)]; exact hc 1 _ rfl, by rw [← add_field _ _ 2 (by omega)]; exact hc 2 _ rfl, by rw [← add_field _ _ 3 (by omega)]; exact hc 3 _ rfl, l3, g3⟩

/-! #### struct type 57 -/
structure S57 where
  f0 : Int
  f1 : ByteArray
def z57 : S57 := ⟨(0 : Int), (⟨#[]⟩ : ByteArray)⟩
def k57 : Kd S57 := Kd.iso (Kd.pair (Kd.int .i64) Kd.string) (fun x : S57 => (x.f0, x.f1))
theorem k57_open {w : World} {x : S57} {cs : List Value} (h : k57.K w x cs) : cs = [.int .i64 x.f0, .string x.f1] := by
  obtain ⟨_, _, rfl, rfl, rfl⟩ := h
  exact rfl
theorem k57_openM {w : World} {base : Nat} {ok : Nat → Prop} {x : S57} {cs : List Value} (h : k57.M w base ok x cs) : cs = [.int .i64 x.f0, .string x.f1] := by
  obtain ⟨_, _, rfl, rfl, rfl⟩ := h
  exact rfl
theorem k57_mk (w : World) (x : S57)  : k57.K w x [.int .i64 x.f0, .string x.f1] := ⟨[.int .i64 x.f0], [.string x.f1], rfl, rfl, rfl⟩
theorem k57_mkM (w : World) (base : Nat) (ok : Nat → Prop) (x : S57)  : k57.M w base ok x [.int .i64 x.f0, .string x.f1] := ⟨[.int .i64 x.f0], [.string x.f1], rfl, rfl, rfl⟩
def rd_T57 (xs : List S57) (i : Int) : S57 := xs.getD i.toNat z57
theorem at_T57 {w : World} {A : Option Addr} {n : Nat} {xs : List S57} (h : Kd.C k57 w A n xs) (i : Int) (h0 : 0 ≤ i) (h1 : i < n) : ∃ ad , A = some ad ∧ w.cell? (ad.add (i.toNat * 2)) = some (.int .i64 (rd_T57 xs i).f0) ∧ w.cell? ⟨(ad.add (i.toNat * 2)).block, (ad.add (i.toNat * 2)).off + 1, none⟩ = some (.string (rd_T57 xs i).f1) := by
  obtain ⟨ad, c, e, _, hK, hc0⟩ := Kd.C_get h z57 i h0 h1
  have hc : ∀ j u, c[j]? = some u → w.cell? (ad.add (i.toNat * 2 + j)) = some u := hc0
  obtain rfl := k57_open hK
  exact ⟨ad, e, hc 0 _ rfl, by rw [← add_field _ _ 1 (by omega)]; exact hc 1 _ rfl⟩

def rd_L5 (xs : List (List S57)) (i : Int) : (List S57) := xs.getD i.toNat ([] : List S57)
theorem at_L5 {w : World} {A : Option Addr} {n : Nat} {xs : List (List S57)} (h : Kd.C (Kd.slice 57 k57) w A n xs) (i : Int) (h0 : 0 ≤ i) (h1 : i < n) : ∃ ad A0 c0, A = some ad ∧ w.cell? (ad.add i.toNat) = some (.slice A0 (rd_L5 xs i).length c0) ∧ (rd_L5 xs i).length ≤ c0 ∧ k57.C w A0 (rd_L5 xs i).length (rd_L5 xs i) := by
  obtain ⟨ad, c, e, _, hK, hc0⟩ := Kd.C_get h ([] : List S57) i h0 h1
  have hc : ∀ j u, c[j]? = some u → w.cell? (ad.add (i.toNat * 1 + j)) = some u := hc0
  obtain ⟨A0, c0, rfl, l0, g0⟩ := hK
  exact ⟨ad, A0, c0, e, by have hq := hc 0 _ rfl; rwa [Nat.mul_one, Nat.add_zero] at hq, l0, g0⟩

end Go.Proofs.Ytgmhhdpggnmipaa.PQ
