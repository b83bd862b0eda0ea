/- A literal row of octets, and appending it. -/
import Derived.Test.YtlmelgjepdbakaaDoorRKxBuf
namespace Go.Kx
open Go.RowKit
set_option linter.unusedSimpArgs false
set_option linter.unusedVariables false

section
variable {P : Program} {w : World} {t e : TypeId}

theorem u8_parts (he : U8 P e) : ∃ i, P.info? e = some i ∧ i.zero = some (.int .u8 0) ∧ i.size = 1 ∧ i.bytes = 1 := by
  unfold U8 at he
  obtain ⟨i, hi, hh⟩ := Option.map_eq_some_iff.1 he
  simp only [Prod.mk.injEq] at hh
  exact ⟨i, hi, hh.1, hh.2.1, hh.2.2⟩

theorem run_bs1 (ht : P.underlying t = some (.slice e)) (he : U8 P e) (a : Int) :
    (Instr.buildSlice t 1 #[(0, .int .u8 a)]).run P w = .ok (.slice (some ⟨w.heap.size, 0, none⟩) 1 1) (w.alloc (.cells [.int .u8 a].toArray e)) := by
  obtain ⟨i, hi, hz, hs, hb⟩ := u8_parts he
  simp [Instr.buildSlice, run_underlying ht, sizeOf, typeInfo, hi, hs, hz, zeroValue, Instr.fill, Value.cells, newRow]
  refine congrArg (fun c => w.alloc (.cells c e)) (Array.ext' ?_)
  simp [List.range_succ]
theorem run_bs2 (ht : P.underlying t = some (.slice e)) (he : U8 P e) (a b : Int) :
    (Instr.buildSlice t 2 #[(0, .int .u8 a), (1, .int .u8 b)]).run P w = .ok (.slice (some ⟨w.heap.size, 0, none⟩) 2 2) (w.alloc (.cells [.int .u8 a, .int .u8 b].toArray e)) := by
  obtain ⟨i, hi, hz, hs, hb⟩ := u8_parts he
  simp [Instr.buildSlice, run_underlying ht, sizeOf, typeInfo, hi, hs, hz, zeroValue, Instr.fill, Value.cells, newRow]
  refine congrArg (fun c => w.alloc (.cells c e)) (Array.ext' ?_)
  simp [List.range_succ]
theorem run_bs3 (ht : P.underlying t = some (.slice e)) (he : U8 P e) (a b c : Int) :
    (Instr.buildSlice t 3 #[(0, .int .u8 a), (1, .int .u8 b), (2, .int .u8 c)]).run P w = .ok (.slice (some ⟨w.heap.size, 0, none⟩) 3 3) (w.alloc (.cells [.int .u8 a, .int .u8 b, .int .u8 c].toArray e)) := by
  obtain ⟨i, hi, hz, hs, hb⟩ := u8_parts he
  simp [Instr.buildSlice, run_underlying ht, sizeOf, typeInfo, hi, hs, hz, zeroValue, Instr.fill, Value.cells, newRow]
  refine congrArg (fun c => w.alloc (.cells c e)) (Array.ext' ?_)
  simp [List.range_succ]
theorem run_bs4 (ht : P.underlying t = some (.slice e)) (he : U8 P e) (a b c d : Int) :
    (Instr.buildSlice t 4 #[(0, .int .u8 a), (1, .int .u8 b), (2, .int .u8 c), (3, .int .u8 d)]).run P w =
      .ok (.slice (some ⟨w.heap.size, 0, none⟩) 4 4) (w.alloc (.cells [.int .u8 a, .int .u8 b, .int .u8 c, .int .u8 d].toArray e)) := by
  obtain ⟨i, hi, hz, hs, hb⟩ := u8_parts he
  simp [Instr.buildSlice, run_underlying ht, sizeOf, typeInfo, hi, hs, hz, zeroValue, Instr.fill, Value.cells, newRow]
  refine congrArg (fun c => w.alloc (.cells c e)) (Array.ext' ?_)
  simp [List.range_succ]
theorem run_bs5 (ht : P.underlying t = some (.slice e)) (he : U8 P e) (a b c d f : Int) :
    (Instr.buildSlice t 5 #[(0, .int .u8 a), (1, .int .u8 b), (2, .int .u8 c), (3, .int .u8 d), (4, .int .u8 f)]).run P w =
      .ok (.slice (some ⟨w.heap.size, 0, none⟩) 5 5) (w.alloc (.cells [.int .u8 a, .int .u8 b, .int .u8 c, .int .u8 d, .int .u8 f].toArray e)) := by
  obtain ⟨i, hi, hz, hs, hb⟩ := u8_parts he
  simp [Instr.buildSlice, run_underlying ht, sizeOf, typeInfo, hi, hs, hz, zeroValue, Instr.fill, Value.cells, newRow]
  refine congrArg (fun c => w.alloc (.cells c e)) (Array.ext' ?_)
  simp [List.range_succ]
theorem run_bs8 (ht : P.underlying t = some (.slice e)) (he : U8 P e) (a b c d f g h j : Int) :
    (Instr.buildSlice t 8 #[(0, .int .u8 a), (1, .int .u8 b), (2, .int .u8 c), (3, .int .u8 d), (4, .int .u8 f), (5, .int .u8 g), (6, .int .u8 h), (7, .int .u8 j)]).run P w =
      .ok (.slice (some ⟨w.heap.size, 0, none⟩) 8 8) (w.alloc (.cells [.int .u8 a, .int .u8 b, .int .u8 c, .int .u8 d, .int .u8 f, .int .u8 g, .int .u8 h, .int .u8 j].toArray e)) := by
  obtain ⟨i, hi, hz, hs, hb⟩ := u8_parts he
  simp [Instr.buildSlice, run_underlying ht, sizeOf, typeInfo, hi, hs, hz, zeroValue, Instr.fill, Value.cells, newRow]
  refine congrArg (fun c => w.alloc (.cells c e)) (Array.ext' ?_)
  simp [List.range_succ]

/-- append(v, literal octets...): behind the row's own making. -/
theorem append_lit {v : Value} {bs : List UInt8} {ty : TypeId} (ht : P.underlying t = some (.slice e)) (he : U8 P e) (hv : Own e w v bs) (l : List UInt8) (hl : bs.length + l.length ≤ Lim) :
    ∃ v' w', (Builtin.append_ #[t, t] ty #[v, .slice (some ⟨w.heap.size, 0, none⟩) l.length l.length]).run P (w.alloc (.cells (l.map bv).toArray e)) = .ok v' w' ∧ Grew e w v w' v' (bs ++ l) := by
  have hv' : Own e (w.alloc (.cells (l.map bv).toArray e)) v bs := hv.keep fun k hk => alloc_old w _ k (hv.lt hk)
  obtain ⟨v', w', hr, hg⟩ := run_append_oct (ty := ty) he ht hv' (a := some ⟨w.heap.size, 0, none⟩) (l := l) (c := l.length) (fun h => by cases h) (fun a' ha => by cases ha; exact Oct.new w e l) hl
  refine ⟨v', w', hr, hg.own, (Ch.alloc _ w _).trans hg.ch fun i _ h => h, fun k hk => ?_⟩
  rcases hg.blk k hk with h | h
  · exact .inl h
  · exact .inr (by have : (w.alloc (.cells (l.map bv).toArray e)).heap.size = w.heap.size + 1 := by simp
                   omega)
end

end Go.Kx
