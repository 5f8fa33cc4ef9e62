import Derived.Test.Qxb6000929aDoorRows
import Derived.WalkKit
import Derived.WalkSpells
import Derived.WalkLawsBesides
import Derived.Lib.Strings
import Derived.Lib.Slices
import Derived.Lib.Walk
import Derived.Lib.Builder
import Derived.Lib.AppendStr
import Derived.Lib.OthersKept
import Derived.Lib.MakeNoZero
import Derived.Laws.Externs
import Derived.Laws.IdiomCopy
import Derived.Laws.BitsLemmas
namespace Go.Proofs.Qxb6000929aDoor
open Go.RowKit

theorem size51 : (Tryd.prog.info? 51).map (·.size) = some 2 := by kernel_rfl
theorem lies51 : liesAt Tryd.prog Tryd.prog.depth 53 (3 / Tryd.prog.cellsOf 53) 0 51 1 = true := by kernel_rfl
theorem infoByte : (Tryd.prog.info? 5).map (fun i => (i.zero, i.size, i.bytes)) = some (some (.int .u8 0), 1, 1) := by kernel_rfl
theorem cellsByte : Tryd.prog.cellsOf 5 = 1 := by kernel_rfl

/-- The encoder in a block of its own (number b, one of the call's own: from B on): its builder holds the bytes bs, 'addr' holds p, 'started' is st. -/
def EncAt (B b : Nat) (p : Value) (st : Bool) (bs : List Value) (w : World) : Prop :=
  B ≤ b ∧ ∃ v, w.heap[b]? = some (.cells #[p, v, .bool st] 53 (0, 0)) ∧ w.ownsRow B 5 1 v bs.length bs ∧ v.ownBlock ≠ some b

def IsEnc (B b : Nat) (st : Bool) (bs : List Value) (w : World) : Prop :=
  EncAt B b (.pointer none) st bs w ∨ EncAt B b (.pointer (some ⟨b, 0, none⟩)) st bs w

section
variable {B b : Nat} {p : Value} {st : Bool} {bs : List Value} {w : World}

theorem EncAt.cell0 (h : EncAt B b p st bs w) : w.cell? ⟨b, 0, none⟩ = some p := by
  obtain ⟨_, v, hb, _⟩ := h
  simp [World.cell?, hb]

theorem EncAt.cell2 (h : EncAt B b p st bs w) : w.cell? ⟨b, 2, none⟩ = some (.bool st) := by
  obtain ⟨_, v, hb, _⟩ := h
  simp [World.cell?, hb]

theorem EncAt.shape (h : EncAt B b p st bs w) : w.shape? b = some (53, 3) := by
  obtain ⟨_, v, hb, _⟩ := h
  simp [World.shape?, hb]

theorem EncAt.lt (h : EncAt B b p st bs w) : b < w.heap.size := by
  obtain ⟨_, v, hb, _⟩ := h
  rcases Nat.lt_or_ge b w.heap.size with h' | h'
  · exact h'
  · simp [Array.getElem?_eq_none h'] at hb

theorem EncAt.frozen (h : EncAt B b p st bs w) (j : Nat) : w.frozen? ⟨b, j, none⟩ = false := by
  obtain ⟨_, v, hb, _⟩ := h
  simp [World.frozen?, hb]

theorem ownKept {v : Value} {n : Nat} {xs : List Value} (hown : w.ownsRow B 5 1 v n xs) (hne : v.ownBlock ≠ some b) (j : Nat) (q : Value) : (w.setCell ⟨b, j, none⟩ q).ownsRow B 5 1 v n xs :=
  hown.kept (row := some b) ⟨rfl, rfl, rfl, by simp [World.setCell], fun k _ hk => Below.heap_setCell _ _ _ _ (fun e => hk (by simp [e]))⟩ (Or.inr hne)

theorem EncAt.used (h : EncAt B b p st bs w) (q : Value) : EncAt B b q st bs (w.setCell ⟨b, 0, none⟩ q) := by
  obtain ⟨hB, v, hb, hown, hne⟩ := h
  refine ⟨hB, v, ?_, ownKept hown hne _ _, hne⟩
  simp [World.setCell, Array.getElem?_modify, hb]

theorem EncAt.begun (h : EncAt B b p st bs w) (q : Bool) : EncAt B b p q bs (w.setCell ⟨b, 2, none⟩ (.bool q)) := by
  obtain ⟨hB, v, hb, hown, hne⟩ := h
  refine ⟨hB, v, ?_, ownKept hown hne _ _, hne⟩
  simp [World.setCell, Array.getElem?_modify, hb]

theorem EncAt.put {v v' : Value} {bs' : List Value} (hB : B ≤ b) (hb : w.heap[b]? = some (.cells #[p, v, .bool st] 53 (0, 0))) (hown : w.ownsRow B 5 1 v' bs'.length bs') :
    EncAt B b p st bs' (w.setCell ⟨b, 1, none⟩ v') := by
  have hne := Lib.ownBlock_ne hown hb (by decide)
  refine ⟨hB, v', ?_, ownKept hown hne _ _, hne⟩
  simp [World.setCell, Array.getElem?_modify, hb]
end

set_option maxHeartbeats 1000000 in
set_option maxRecDepth 100000 in
theorem copyCheck_used (b : Nat) (w : World) (h0 : w.cell? ⟨b, 0, none⟩ = some (.pointer (some ⟨b, 0, none⟩))) :
    Calls Tryd.prog 33 #[.pointer (some ⟨b, 0, none⟩)] w fun e w' => e = .returned (.tuple #[]) ∧ w' = w := by
  obtain ⟨j, hj, _⟩ := Option.map_eq_some_iff.1 size51
  go_enter Tryd.func33, Tryd.ntmps33
  go_wp2
  rw [Lib.run_neq_ptr_same w _ Tryd.underlying48 hj]
  go_wp2
  go_end0
  exact ⟨rfl, rfl⟩

set_option maxHeartbeats 1000000 in
set_option maxRecDepth 100000 in
theorem copyCheck_fresh (b : Nat) (w : World) (h0 : w.cell? ⟨b, 0, none⟩ = some (.pointer none)) (hsh : w.shape? b = some (53, 3)) (hfz : w.frozen? ⟨b, 0, none⟩ = false) :
    Calls Tryd.prog 33 #[.pointer (some ⟨b, 0, none⟩)] w fun e w' => e = .returned (.tuple #[]) ∧ w' = w.setCell ⟨b, 0, none⟩ (.pointer (some ⟨b, 0, none⟩)) := by
  obtain ⟨j, hj, hjs⟩ := Option.map_eq_some_iff.1 size51
  have hto : (convert 48 72 (.pointer (some ⟨b, 0, none⟩))).run Tryd.prog w = .ok (.pointer (some ⟨b, 0, none⟩)) w := by
    simp only [convert, Sem.run_bind, run_underlying Tryd.underlying48, run_underlying Tryd.underlying72, Result.andThen_ok]
    show Sem.run Tryd.prog (underlying 48 >>= _) w = _
    simp [run_underlying Tryd.underlying48, run_underlying Tryd.underlying72, Conv.seenAt, viewAt, cellsIn, hsh, sizeOf, typeInfo, hj, hjs]
  have hfrom : (convert 72 48 (.pointer (some ⟨b, 0, none⟩))).run Tryd.prog w = .ok (.pointer (some ⟨b, 0, none⟩)) w := by
    simp only [convert, Sem.run_bind, run_underlying Tryd.underlying48, run_underlying Tryd.underlying72, Result.andThen_ok]
    show Sem.run Tryd.prog (underlying 72 >>= _) w = _
    simp [run_underlying Tryd.underlying48, run_underlying Tryd.underlying72, Conv.seenAt, viewAt, hsh, variablesAt, lies51, sizeOf, typeInfo, hj]
  go_enter Tryd.func33, Tryd.ntmps33
  go_wp2
  rw [run_callFunc_extern Tryd.func36 (by kernel_rfl) (by kernel_rfl) (by kernel_rfl) (e := Extern.AbiNoEscape.same) (by kernel_rfl)]
  rw [Lib.run_noEscape]
  simp only [Result.andThen]
  rw [Oper.upon_value]
  go_wp2
  go_end0
  exact ⟨rfl, rfl⟩

theorem copyCheck_any (B b : Nat) (st : Bool) (bs : List Value) (w : World) (h : IsEnc B b st bs w) :
    Calls Tryd.prog 33 #[.pointer (some ⟨b, 0, none⟩)] w fun e w' => e = .returned (.tuple #[]) ∧ (EncAt B b (.pointer (some ⟨b, 0, none⟩)) st bs w' ∧ Below B w w') := by
  rcases h with h | h
  · refine (copyCheck_fresh b w h.cell0 h.shape (h.frozen 0)).mono ?_
    rintro e w' ⟨rfl, rfl⟩
    exact ⟨rfl, h.used _, (Below.refl B w).setCell (p := ⟨b, 0, none⟩) h.1 _⟩
  · refine (copyCheck_used b w h.cell0).mono ?_
    rintro e w' ⟨rfl, rfl⟩
    exact ⟨rfl, h, Below.refl B _⟩

set_option maxHeartbeats 2000000 in
set_option maxRecDepth 100000 in
theorem writeByte_any (B b : Nat) (st : Bool) (bs : List Value) (c : Int) (w : World) (h : IsEnc B b st bs w) (hlen : bs.length + 1 ≤ 140737488355328) (hBw : B ≤ w.heap.size) :
    Calls Tryd.prog 28 #[.pointer (some ⟨b, 0, none⟩), .int .u8 c] w fun e w' => e = .returned .nilIface ∧ (EncAt B b (.pointer (some ⟨b, 0, none⟩)) st (bs ++ [.int .u8 c]) w' ∧ Below B w w') := by
  obtain ⟨i0, hi, hz0, hz1, hz2⟩ := info_parts infoByte
  go_enter Tryd.func28, Tryd.ntmps28
  go_wp2_with (go_at_call 33; refine (copyCheck_any B b st bs _ h).mono ?_)
  rintro e w1 ⟨rfl, h1, hb1⟩
  have hlt := h1.lt
  obtain ⟨hB, v, hbk, hown, hne⟩ := h1
  have c0 : w1.cell? ⟨b, 0, none⟩ = some (.pointer (some ⟨b, 0, none⟩)) := by rw [Lib.cell_of_heap hbk]; rfl
  have c1 : w1.cell? ⟨b, 1, none⟩ = some v := by rw [Lib.cell_of_heap hbk]; rfl
  go_wp2_with (at_builtin; refine wpList_append_own _ rfl _ _ 49 rfl B 5 i0 (.int .u8 0) 1 1 Tryd.underlying49 hi hz0 hz1 hz2 rfl (by decide) _ _ _ rfl (hown.alloc _) ⟨w1.heap.size, 0, none⟩ 1 1 [.int .u8 c] rfl rfl ?c1 ?c2 ?c3 ?c4 ?c5 ?_)
  case c1 =>
    intro j u hj
    match j, hj with
    | 0, hj => simp at hj; subst hj; simp [Addr.add]
  case c2 => intro u hu; simp at hu; subst hu; rfl
  case c3 => unfold maxLen; omega
  case c4 => omega
  case c5 => have := hb1.size; simp; omega
  intro v' w2 hown' hgrow _
  have hb2 : w2.heap[b]? = some (.cells #[.pointer (some ⟨b, 0, none⟩), v, .bool st] 53 (0, 0)) := by
    rw [hgrow.block b (by simp; omega) (fun e => hne e.symm), Lib.alloc_old w1 _ b hlt]
    exact hbk
  have d0 : w2.cell? ⟨b, 0, none⟩ = some (.pointer (some ⟨b, 0, none⟩)) := by rw [Lib.cell_of_heap hb2]; rfl
  have d1 : w2.cell? ⟨b, 1, none⟩ = some v := by rw [Lib.cell_of_heap hb2]; rfl
  have f1 : w2.frozen? ⟨b, 1, none⟩ = false := Lib.frozen_of_heap hb2 1
  obtain ⟨g, cap, rfl⟩ : ∃ g cap, v' = .slice (some ⟨g, 0, none⟩) (bs.length + 1) cap := by
    rcases hown'.2 with ⟨_, h0⟩ | ⟨g, cap, cur, hv, _⟩
    · omega
    · exact ⟨g, cap, hv⟩
  go_wp2
  go_ret
  refine ⟨rfl, ?_, ?_⟩
  · exact EncAt.put hB hb2 (bs' := bs ++ [.int .u8 c]) (by simpa using hown')
  · exact ((hb1.alloc (by have := hb1.size; omega) _).grown hgrow (by have := hb1.size; simp; omega) (fun k hk => (hown.lt k hk).1)).setCell (p := ⟨b, 1, none⟩) hB _

set_option maxHeartbeats 2000000 in
set_option maxRecDepth 100000 in
theorem writeString_any (B b : Nat) (st : Bool) (bs : List Value) (s : ByteArray) (w : World) (h : IsEnc B b st bs w) (hlen : bs.length + s.size ≤ 140737488355328) (hBw : B ≤ w.heap.size) :
    Calls Tryd.prog 29 #[.pointer (some ⟨b, 0, none⟩), .string s] w fun e w' => e = .returned (.tuple #[.int .i64 s.size, .nilIface]) ∧ (EncAt B b (.pointer (some ⟨b, 0, none⟩)) st (bs ++ Lib.strCells s) w' ∧ Below B w w') := by
  obtain ⟨i0, hi, hz0, hz1, hz2⟩ := info_parts infoByte
  go_enter Tryd.func29, Tryd.ntmps29
  go_wp2_with (go_at_call 33; refine (copyCheck_any B b st bs _ h).mono ?_)
  rintro e w1 ⟨rfl, h1, hb1⟩
  have hlt := h1.lt
  obtain ⟨hB, v, hbk, hown, hne⟩ := h1
  have c0 : w1.cell? ⟨b, 0, none⟩ = some (.pointer (some ⟨b, 0, none⟩)) := by rw [Lib.cell_of_heap hbk]; rfl
  have c1 : w1.cell? ⟨b, 1, none⟩ = some v := by rw [Lib.cell_of_heap hbk]; rfl
  go_wp2_with (at_builtin; refine Lib.wpList_append_own_string _ rfl _ _ 49 9 rfl B 5 i0 Tryd.underlying49 Tryd.underlying9 hi hz0 hz1 hz2 _ _ _ rfl hown s rfl ?c3 ?c4 ?c5 ?_)
  case c3 => unfold maxLen; omega
  case c4 => omega
  case c5 => have := hb1.size; omega
  intro v' w2 hown' hgrow _
  have hb2 : w2.heap[b]? = some (.cells #[.pointer (some ⟨b, 0, none⟩), v, .bool st] 53 (0, 0)) := by
    rw [hgrow.block b hlt (fun e => hne e.symm)]
    exact hbk
  have d0 : w2.cell? ⟨b, 0, none⟩ = some (.pointer (some ⟨b, 0, none⟩)) := by rw [Lib.cell_of_heap hb2]; rfl
  have d1 : w2.cell? ⟨b, 1, none⟩ = some v := by rw [Lib.cell_of_heap hb2]; rfl
  have f1 : w2.frozen? ⟨b, 1, none⟩ = false := Lib.frozen_of_heap hb2 1
  obtain ⟨ao, n', cap, rfl⟩ : ∃ ao n' cap, v' = .slice ao n' cap := by
    rcases hown'.2 with ⟨hv, _⟩ | ⟨g, cap, cur, hv, _⟩
    · exact ⟨_, _, _, hv⟩
    · exact ⟨_, _, _, hv⟩
  go_wp2
  go_ret2
  refine ⟨rfl, ?_, ?_⟩
  · exact EncAt.put hB hb2 (bs' := bs ++ Lib.strCells s) (by simpa [Lib.strCells_length] using hown')
  · exact (hb1.grown hgrow (by have := hb1.size; omega) (fun k hk => (hown.lt k hk).1)).setCell (p := ⟨b, 1, none⟩) hB _

/-- The built-in that operation k of the second region calls. -/
def calleeAt (c : Option Code) (k : Nat) : Builtin :=
  match c with
  | some (.seq _ (.seq (.region _ ops _) _)) =>
    match ops.toList[k]? with
    | some o =>
      match o.op with
      | .call cc =>
        match cc.callee with
        | .builtin b => b
        | _ => .len
      | _ => .len
    | none => .len
  | _ => .len

/-- The first built-in: the address of a row's first element. -/
theorem first_law (w : World) (g n k : Nat) : (builtin (calleeAt Tryd.f31.body 4) #[49] 70 #[] #[.slice (some ⟨g, 0, none⟩) n (k + 1)]).run Tryd.prog w = .ok (.value (.pointer (some ⟨g, 0, none⟩))) w := rfl

/-- The third built-in: the string over the head of a row of bytes. -/
theorem third_law (w : World) (g cells : Nat) (l : List UInt8) (hsh : w.shape? g = some (5, cells)) (h0 : l ≠ []) (hn : l.length ≤ cells) (h63 : l.length ≤ 9223372036854775807)
    (hcell : ∀ j x, l[j]? = some x → w.cell? ((⟨g, 0, none⟩ : Addr).add j) = some (.int .u8 x.toNat)) :
    (builtin (calleeAt Tryd.f31.body 10) #[70, 3] 9 #[] #[.pointer (some ⟨g, 0, none⟩), .int .i64 l.length]).run Tryd.prog w = .ok (.value (.string ⟨l.toArray⟩)) (w.freeze ⟨g, 0, none⟩ l.length) := by
  have hl : l.length ≠ 0 := by simpa using h0
  have hlb := Lib.run_loadBytes (P := Tryd.prog) w l ⟨g, 0, none⟩ .empty hcell
  have hlies := Lib.liesAt_bytes (P := Tryd.prog) cellsByte (cells / Tryd.prog.cellsOf 5) l.length (by rw [cellsByte]; simpa using hn)
  have h63' : ¬ (9223372036854775807 : Int) < (l.length : Int) := by omega
  have hmax : IntKind.i64.max = 9223372036854775807 := rfl
  have hneg : ¬ (l.length : Int) < 0 := by omega
  show Sem.run Tryd.prog (_ >>= fun a => pure (Next.value a)) w = _
  rw [Sem.run_bind]
  show Result.andThen (Sem.run Tryd.prog (asInt (.int .i64 l.length) >>= _) w) _ = _
  simp [asInt, asIntOf, hmax, h63', hneg, hl, variablesAt, hsh, elemOf, run_underlying Tryd.underlying70, hlies, hlb]

set_option maxHeartbeats 1000000 in
set_option maxRecDepth 100000 in
theorem builderString_any (B b : Nat) (p : Value) (st : Bool) (l : List UInt8) (w : World) (h : EncAt B b p st (Lib.byteCells l) w) (h0 : l ≠ []) :
    Calls Tryd.prog 31 #[.pointer (some ⟨b, 0, none⟩)] w fun e w' => e = .returned (.string ⟨l.toArray⟩) ∧ Below B w w' := by
  obtain ⟨hB, v, hbk, hown, hne⟩ := h
  have hl0 : l.length ≠ 0 := by simpa using h0
  rw [Lib.byteCells_length] at hown
  obtain ⟨g, cap, cur, rfl, hbg, hg, hnc, hcm, hcs, htake⟩ : ∃ g cap cur, v = .slice (some ⟨g, 0, none⟩) l.length cap ∧ B ≤ g ∧ w.heap[g]? = some (.cells cur 5 (0, 0)) ∧ l.length ≤ cap ∧ cap ≤ maxLen ∧ cur.size = cap * 1 ∧ cur.toList.take (l.length * 1) = Lib.byteCells l := by
    rcases hown.2 with ⟨_, hz⟩ | ⟨g, cap, cur, hv, r⟩
    · exact absurd hz hl0
    · exact ⟨g, cap, cur, hv, r⟩
  have c1 : w.drew.cell? ⟨b, 1, none⟩ = some (.slice (some ⟨g, 0, none⟩) l.length cap) := by
    have : w.drew.heap[b]? = some (.cells #[p, .slice (some ⟨g, 0, none⟩) l.length cap, .bool st] 53 (0, 0)) := hbk
    rw [Lib.cell_of_heap this]; rfl
  obtain ⟨k, rfl⟩ : ∃ k, cap = k + 1 := ⟨cap - 1, by omega⟩
  have hSD := first_law w.drew g l.length k
  have hUS := third_law w.drew g cur.size l (by have hg' : w.drew.heap[g]? = some (.cells cur 5 (0, 0)) := hg; simp [World.shape?, hg']) h0 (by omega) (by unfold maxLen at hcm; omega) (by
    intro j x hx
    exact hown.cells (g := g) rfl j (.int .u8 x.toNat) (by simp [Lib.byteCells, hx]))
  simp [calleeAt, Tryd.f31, builtin] at hSD hUS
  go_enter Tryd.func31, Tryd.ntmps31
  go_wp2
  go_region
  all_goals (go_wp2; go_ret; exact ⟨rfl, Lib.below_freeze (Below.drew (Below.refl B w)) (p := ⟨g, 0, none⟩) hbg _⟩)

end Go.Proofs.Qxb6000929aDoor
