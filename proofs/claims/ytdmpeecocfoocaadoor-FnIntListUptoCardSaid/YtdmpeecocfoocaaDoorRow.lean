/- What closes the rows of this seat: the arguments read as they did; a list of texts is opened. -/
import Derived.Test.YtdmpeecocfoocaaDoorRows
import Derived.Test.YtdmpeecocfoocaaDoorKit
import Derived.ProofKit
import Derived.Carry
import Derived.OpenShut
import Derived.Laws.Cover2
import Derived.Deep.MidRow
import Derived.ChangeCalls
namespace Go.Proofs.YtdmpeecocfoocaaDoor.E
open Go.ChangeShapes Go.WideShapes Go.ChangeAt Go.RowKit
open Go.ChangeMaps (open_string)

theorem Tryd.own : ownKnob Tryd.prog.godebug = none := by kernel_rfl
theorem Tryd.laidOut : laidOutB Tryd.prog = true := by kernel_rfl

theorem wf_i64 {n : Int} (h : (Lit.int .i64 n).wf = true) : -9223372036854775808 ≤ n ∧ n ≤ 9223372036854775807 := by
  simpa [Lit.wf, IntKind.min, IntKind.max, IntKind.signed, IntKind.bits] using h
theorem wf_u64 {n : Int} (h : (Lit.int .u64 n).wf = true) : 0 ≤ n ∧ n ≤ 18446744073709551615 := by
  simpa [Lit.wf, IntKind.min, IntKind.max, IntKind.signed, IntKind.bits] using h

theorem trodAll_below {H : Type} {enc : TypeId × Value → H} {P : Program} (hl : laidOutB P = true) {W W' : World} (hb : Below W.heap.size W W') :
    ∀ {ts : List TypeId} {vs : List Value} {ds : List (DataW H)} {ps : List MemPlace}, (∀ t ∈ ts, P.readableRec t = true ∧ t < P.types.size) →
      DataW.TrodAll enc P W 0 (fun _ => true) true ts vs ds ps → (∀ x ∈ ps, x.block < W.heap.size) →
      DataW.TrodAll enc P W' 0 (fun b => decide (b < W.heap.size)) true ts vs ds ps
  | [], vs, ds, ps, _, h, _ => by
    obtain ⟨rfl, rfl, rfl⟩ := trodAll_nil h
    exact trodAll_mk0
  | t :: ts, vs, ds, ps, ht, h, hlt => by
    obtain ⟨v, vs', d, ds', p, q, rfl, rfl, rfl, h0, h1⟩ := trodAll_cons h
    exact trodAll_cons_mk (Below.trod hl (ht t (by simp)).1 (ht t (by simp)).2 h0 hb (fun x hx => hlt x (by simp [hx])))
      (trodAll_below hl hb (fun u hu => ht u (by simp [hu])) h1 (fun x hx => hlt x (by simp [hx])))

/-- The arguments read behind the call as they read before it; the answer is true. -/
theorem law_post {H : Type} {enc : TypeId × Value → H} {P : Program} {f : Func} {s : ChangeSpec} {W W' : World} {args : Array Value} {ds gs : List (DataW H)} {before : List MemPlace} {tb : TypeId}
    (hl : laidOutB P = true) (hr0 : (f.params.toList.all fun t => P.readableRec t && decide (t < P.types.size)) = true) (hres : f.resultTypes = #[tb]) (hb : P.underlying tb = some .bool) (hv : s.vars = [])
    (hfn : ∀ ds : List (DataW H), ds.length = f.params.toList.length → s.fn H ds = { results := [.lit (.bool true)], args := ds })
    (hW : DataW.Whole enc P f.params.toList s.vars false W args.toList ds gs before) (hbel : Below W.heap.size W W') :
    s.post enc P f false true false false W args (.bool true) W' := by
  have hr : ∀ t ∈ f.params.toList, P.readableRec t = true ∧ t < P.types.size := fun t ht => by simpa using List.all_eq_true.1 hr0 t ht
  have hW' := hW
  obtain ⟨p, q, hA, hV, rfl, _, _⟩ := hW
  rw [hv] at hV
  obtain ⟨rfl, rfl⟩ := trodVars_none hV
  have hlt : ∀ x ∈ p, x.block < W.heap.size := fun x hx => hW'.lt x (by simp [hx])
  have hlen := (Go.trodAll_length hA).2
  have e := hfn (ds ++ []) (by simpa using hlen)
  refine ⟨ds, [], p ++ [], [], p, [], hW', ?_, ?_, ?_, hbel.frame _, fun h => by cases h⟩
  · rw [e, hres]; exact trodAll_mk1 (shut_bool hb true)
  · rw [e]; simp only [List.append_nil]; exact trodAll_below hl hbel hr hA hlt
  · rw [e, hv]; rfl

/-- A list of texts that came in. -/
theorem open_texts {H : Type} {enc : TypeId × Value → H} {P : Program} {W : World} {base : Nat} {t e : TypeId} {v : Value} {d : DataW H} {p : List MemPlace}
    (ht : P.underlying t = some (.slice e)) (he : P.underlying e = some .string) (hc : P.cellsOf e = 1) (hok : Value.okWide P W .any base t v)
    (h : DataW.Trod enc P W 0 (fun _ => true) true t v d p) :
    ∃ xs, Texts W v xs ∧ ∀ s ∈ xs, s.size ≤ 9223372036854775807 := by
  obtain ⟨a0, len, cap, rfl⟩ := okWide_slice ht hok
  obtain ⟨fuel, hf⟩ := h
  rcases open_strings ht he hc hf with ⟨hcs, hx⟩ | ⟨a, len', cap', zs, hcs, _, hl, hm, hz, hx, hcell, hwz⟩
  · simp [Value.cells] at hcs
    obtain ⟨rfl, rfl, rfl⟩ := hcs
    exact ⟨[], Texts.nil W, by simp⟩
  · simp [Value.cells] at hcs
    obtain ⟨rfl, rfl, rfl⟩ := hcs
    simp only [if_true] at hz
    unfold maxLen at hm hwz
    have hn : (zs.take len).length = len := by rw [List.length_take]; omega
    refine ⟨zs.take len, ⟨some a, cap, by rw [hn], ?_, by rw [hn]; omega, by omega, fun h => by cases h⟩, fun s hs => hwz s (List.mem_of_mem_take hs)⟩
    intro i hi
    rw [hn] at hi
    obtain ⟨b, o, spot⟩ := a
    have hc := hcell i (by omega)
    obtain rfl : spot = none := by simpa [Addr.add] using World.cell?_spot (hcell 0 (by omega))
    refine ⟨b, o, rfl, ?_⟩
    rw [Addr.add_mid] at hc
    rw [hc]
    simp only [tx, List.getD_eq_getElem?_getD, List.getElem?_take]
    rw [if_pos hi]
/-- A list of bytes that came in. -/
theorem open_bytes {H : Type} {enc : TypeId × Value → H} {P : Program} {W : World} {base : Nat} {t e : TypeId} {v : Value} {d : DataW H} {p : List MemPlace}
    (ht : P.underlying t = some (.slice e)) (he : P.underlying e = some (.int .u8)) (hc : P.cellsOf e = 1) (hok : Value.okWide P W .any base t v)
    (h : DataW.Trod enc P W 0 (fun _ => true) true t v d p) : ∃ L, BytesIn W v L ∧ L.length ≤ 9223372036854775807 := by
  obtain ⟨a0, len, cap, rfl⟩ := okWide_slice ht hok
  obtain ⟨fuel, hf⟩ := h
  rcases open_ints ht he hc hf with ⟨hcs, hx⟩ | ⟨a, len', cap', zs, hcs, _, hl, hm, hz, hx, hcell, hwz⟩
  · simp [Value.cells] at hcs
    obtain ⟨rfl, rfl, rfl⟩ := hcs
    exact ⟨[], ⟨none, 0, rfl, Nat.le_refl _, fun _ => rfl, fun ad h => by cases h⟩, by simp⟩
  · simp [Value.cells] at hcs
    obtain ⟨rfl, rfl, rfl⟩ := hcs
    simp only [if_true] at hz
    unfold maxLen at hm
    have hn : ((zs.take len).map fun z => UInt8.ofNat z.toNat).length = len := by rw [List.length_map, List.length_take]; omega
    refine ⟨(zs.take len).map fun z => UInt8.ofNat z.toNat, ⟨some a, cap, by rw [hn], by rw [hn]; exact hl, (fun h => by cases h), ?_⟩, by rw [hn]; omega⟩
    intro ad had j u hu
    obtain rfl := Option.some.inj had
    have hj : j < len := by
      have := (List.getElem?_eq_some_iff.1 hu).1
      simp [byteVals] at this
      omega
    have hj2 : j < zs.length := by omega
    rw [hcell j hj2]
    have hb : 0 ≤ zs[j] ∧ zs[j] ≤ 255 := by
      have := hwz _ (List.getElem_mem hj2)
      simpa [Lit.wf, IntKind.min, IntKind.max, IntKind.signed, IntKind.bits] using this
    have e1 : (byteVals ((zs.take len).map fun z => UInt8.ofNat z.toNat))[j]? = some (.int .u8 zs[j]) := by
      unfold byteVals
      rw [List.map_map, List.getElem?_map, List.getElem?_take, if_pos hj, List.getElem?_eq_getElem hj2]
      simp only [Option.map_some, Function.comp_apply]
      rw [UInt8.toNat_ofNat_of_lt' (by simp [UInt8.size]; omega)]
      congr 2
      omega
    rw [e1] at hu
    rw [← hu]
    simp [List.getD, hj2]
end Go.Proofs.YtdmpeecocfoocaaDoor.E
