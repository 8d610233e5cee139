import Derived.Test.Qxb6600752aShape
import Derived.WideKeyEntry
namespace Go.Proofs.Qxb6600752a
open Go.RowKit Go.Maps Go.ChangeShapes Go.WideShapes Go.MapKept Go.ChangeMaps

theorem laid0 : laidOutB Try.prog = true := by kernel_rfl
theorem tpos : decide (0 < Try.prog.types.size) = true := by kernel_rfl
theorem c87 : Try.prog.cellsOf 87 = 2 := by kernel_rfl
theorem c113 : Try.prog.cellsOf 113 = 2 := by kernel_rfl
theorem c3 : Try.prog.cellsOf 3 = 1 := by kernel_rfl
theorem c9 : Try.prog.cellsOf 9 = 1 := by kernel_rfl
theorem kt87 : Try.prog.keyType 87 = true := by kernel_rfl
theorem kt113 : Try.prog.keyType 113 = true := by kernel_rfl

theorem law87 : WideMaps.KeyLaw Try.prog 87 := (deep_law_laid laid0 (m := 2) (by omega) (of_decide_eq_true (by kernel_rfl)) (by kernel_rfl) (by rw [Try.underlying87]))
theorem keyed87 : Keyed Try.prog 87 := Keyed.of_law law87
theorem law113 : WideMaps.KeyLaw Try.prog 113 := (deep_law_laid laid0 (m := 2) (by omega) (of_decide_eq_true (by kernel_rfl)) (by kernel_rfl) (by rw [Try.underlying113]))
theorem keyed113 : Keyed Try.prog 113 := Keyed.of_law law113
theorem keyed9 : Keyed Try.prog 9 := string_keyed Try.underlying9
theorem keyed44 : Keyed Try.prog 44 := int_keyed Try.underlying44
theorem key44 {z : Int} (h : (Lit.int .i64 z).wf = true) : keyOf Try.prog 44 (.int .i64 z) = some (.int .i64 z) := keyOf_int_mk Try.underlying44 h
theorem key9 {s : ByteArray} (h : s.size ≤ maxLen) : keyOf Try.prog 9 (.string s) = some (.string s.data.toList) := WideMaps.keyOf_string_mk Try.underlying9 h

theorem key87 {x : Int} {s : ByteArray} (hx : (Lit.int .i64 x).wf = true) (hs : s.size ≤ maxLen) : ∃ kl, keyOf Try.prog 87 (.agg #[.int .i64 x, .string s]) = some kl := by
  obtain ⟨d, hd⟩ : ∃ d, Try.prog.types.size = d + 1 := ⟨Try.prog.types.size - 1, by have := of_decide_eq_true tpos; omega⟩
  refine ⟨.string (keyBytes [.int .i64 x, .string s.data.toList]), ?_⟩
  unfold keyOf
  rw [Try.underlying87]
  simp only [kt87, Value.formed, Try.underlying87, c87, hd, Value.cells]
  simp [Program.keyLits, Try.underlying87, Try.underlying3, Try.underlying9, c87, c3, c9, hx, hs]
theorem key113 {x : Int} {s : ByteArray} (hx : (Lit.int .i64 x).wf = true) (hs : s.size ≤ maxLen) : ∃ kl, keyOf Try.prog 113 (.agg #[.int .i64 x, .string s]) = some kl := by
  obtain ⟨d, hd⟩ : ∃ d, Try.prog.types.size = d + 1 := ⟨Try.prog.types.size - 1, by have := of_decide_eq_true tpos; omega⟩
  refine ⟨.string (keyBytes [.int .i64 x, .string s.data.toList]), ?_⟩
  unfold keyOf
  rw [Try.underlying113]
  simp only [kt113, Value.formed, Try.underlying113, c113, hd, Value.cells]
  simp [Program.keyLits, Try.underlying113, Try.underlying3, Try.underlying9, c113, c3, c9, hx, hs]

theorem OwnsM.block {w w' : World} {k : TypeId} {b n : Nat} {f : Value → Option Value} (h : OwnsM w k b n f) (e : w'.heap[b]? = w.heap[b]?) : OwnsM w' k b n f :=
  let ⟨D, ⟨es, clock, hb, hr⟩, h2⟩ := h; ⟨D, ⟨es, clock, e.trans hb, hr⟩, h2⟩

/-- m[k] op= v, in two steps: the entry is laid (or found), then filled. -/
theorem OwnsM.entry {w : World} {t e k : TypeId} {b n : Nat} {f : Value → Option Value} (h : OwnsM w k b n f) (K : WideMaps.KeyLaw Try.prog k) (ht : Try.prog.underlying t = some (.map k e)) {z : Value} (hz : ∀ u : World, (zeroValue e).run Try.prog u = .ok z u) (hn : n < maxLen)
    {key : Value} {kl : Lit} (hkey : keyOf Try.prog k key = some kl) : ∃ st w1, (Instr.mapEntry t (.map (some b)) key).run Try.prog w = .ok (.tuple #[(f key).getD z, goInt st]) w1 ∧ w.grownBy w1 (some b) ∧
      (∀ f1 : Value → Option Value, f1 key = some ((f key).getD z) → (∀ key' kl', keyOf Try.prog k key' = some kl' → key' ≠ key → f1 key' = f key') → OwnsM w1 k b (n + 1) f1) ∧
      ∀ (w2 : World) (val : Value), w2.heap[b]? = w1.heap[b]? → ∃ w3, (Instr.entryStore t (.map (some b)) (goInt st) val).run Try.prog w2 = .ok () w3 ∧ w2.grownBy w3 (some b) ∧
        ∀ f' : Value → Option Value, f' key = some val → (∀ key' kl', keyOf Try.prog k key' = some kl' → key' ≠ key → f' key' = f key') → OwnsM w3 k b (n + 1) f' := by
  obtain ⟨es, clock, hb, F⟩ : ∃ es clock, w.heap[b]? = some (.map es clock) ∧ WideElems.Fit Try.prog k Rh es clock := let ⟨_, ⟨es, clock, hb, F, _⟩, _⟩ := h; ⟨es, clock, hb, F⟩
  have hlook := h.look (Keyed.of_law K) ht (hz w) hkey
  obtain ⟨v0, st, es1, clock1, hrun, _, hst⟩ := WideElems.entry_then_store K ht hz hb F hkey
  have key1 : v0 = (f key).getD z ∧ (Instr.mapUpdate t (.map (some b)) key v0).run Try.prog w = .ok () (setBlock w b (.map es1 clock1)) := by
    rcases K.find w hkey es.toList F.keys with ⟨h1, h2⟩ | ⟨j, e0, h1, h2, h3⟩
    · have hent : (Instr.mapEntry t (.map (some b)) key).run Try.prog w = .ok (.tuple #[z, goInt clock]) (setBlock w b (.map (es.push ⟨key, z, clock⟩) (clock + 1))) := by
        simp [Instr.mapEntry, run_underlying ht, MapKept.run_getObj_map hb, K.check w false hkey, h1, hz, MapKept.run_setObj_map _ hb, Result.andThen, setBlock]
      have hl2 : (Instr.lookup t (.map (some b)) key false).run Try.prog w = .ok z w := by
        simp [Instr.lookup, run_underlying ht, MapKept.run_getObj_map hb, K.check w _ hkey, h1, hz, Result.andThen]
      rw [hlook] at hl2
      rw [hrun] at hent
      have e1 := (Result.ok.inj hl2).1
      obtain ⟨e2, e3⟩ := Result.ok.inj hent
      simp only [Value.tuple.injEq] at e2
      have e4 : v0 = z := by have := congrArg (fun a => a.toList.head?) e2; simpa using this
      refine ⟨e4.trans e1.symm, ?_⟩
      rw [e3, e4]
      simp [Instr.mapUpdate, run_underlying ht, MapKept.run_getObj_map hb, K.check w false hkey, h1, MapKept.run_setObj_map _ hb, Result.andThen, setBlock]
    · have hj : es[j]? = some e0 := by simpa using h2
      have hsame : es.modify j (fun e => { e with key := key }) = es := by
        apply Array.ext'
        rw [Array.toList_modify, modify_eq_set _ _ _ _ h2]
        have : ({ e0 with key := key } : MapEntry) = e0 := by rw [← h3]
        rw [this]
        exact WideElems.set_self _ _ _ h2
      have hsame2 : es.modify j (fun e => { e with key := key, val := e0.val }) = es := by
        apply Array.ext'
        rw [Array.toList_modify, modify_eq_set _ _ _ _ h2]
        have : ({ e0 with key := key, val := e0.val } : MapEntry) = e0 := by rw [← h3]
        rw [this]
        exact WideElems.set_self _ _ _ h2
      have hent : (Instr.mapEntry t (.map (some b)) key).run Try.prog w = .ok (.tuple #[e0.val, goInt e0.born]) (setBlock w b (.map es clock)) := by
        simp [Instr.mapEntry, run_underlying ht, MapKept.run_getObj_map hb, K.check w false hkey, h1, hj, h3, K.stays w hkey, hsame, MapKept.run_setObj_map _ hb, Result.andThen, setBlock]
      have hl2 : (Instr.lookup t (.map (some b)) key false).run Try.prog w = .ok e0.val w := by
        simp [Instr.lookup, run_underlying ht, MapKept.run_getObj_map hb, K.check w _ hkey, h1, Result.andThen]
      rw [hlook] at hl2
      rw [hrun] at hent
      have e1 := (Result.ok.inj hl2).1
      obtain ⟨e2, e3⟩ := Result.ok.inj hent
      simp only [Value.tuple.injEq] at e2
      have e4 : v0 = e0.val := by have := congrArg (fun a => a.toList.head?) e2; simpa using this
      refine ⟨e4.trans e1.symm, ?_⟩
      rw [e3, e4]
      simp [Instr.mapUpdate, run_underlying ht, MapKept.run_getObj_map hb, K.check w false hkey, h1, hj, h3, K.stays w hkey, hsame2, MapKept.run_setObj_map _ hb, Result.andThen, setBlock]
  obtain ⟨rfl, hup⟩ := key1
  obtain ⟨w', hr', g', hf'⟩ := h.store (Keyed.of_law K) ht hn ((f key).getD z) hkey
  rw [hup] at hr'
  have ew : setBlock w b (.map es1 clock1) = w' := by simpa using hr'
  refine ⟨st, _, hrun, by rw [ew]; exact g', fun f1 h1 h2 => by rw [ew]; exact hf' f1 h1 h2, fun w2 val hw2 => ?_⟩
  have hb2 : w2.heap[b]? = some (.map es1 clock1) := hw2.trans (heap_setBlock_same hb _)
  obtain ⟨es', clock', hs1, hs2⟩ := hst w2 val hb2
  obtain ⟨w'', hr'', g'', hf''⟩ := h.store (Keyed.of_law K) ht hn val hkey
  rw [hs2] at hr''
  have ew2 : setBlock w b (.map es' clock') = w'' := by simpa using hr''
  refine ⟨_, hs1, ⟨rfl, rfl, rfl, by simp [setBlock], fun i _ hi => heap_setBlock_other hb2 _ (fun e => hi (by rw [e]))⟩, fun f' h1 h2 => ?_⟩
  refine (hf'' f' h1 h2).block ?_
  rw [← ew2, heap_setBlock_same hb, heap_setBlock_same hb2]
end Go.Proofs.Qxb6600752a
