/- The deferred closure of module.CheckPath, and the two variables that it holds; no condition. module.CheckPath: what it answers of a path; the conditions: the path's size, that the tape answers fmt's stop, where the names of Windows lie, that utf8.ValidString answers. module.CheckPath and impl.CheckPath, joined; the conditions are checkPath's. -/
import Derived.Test.YtpbebckhemnooaaFmtImp
import Derived.Test.YtpbebckhemnooaaFmtLists
import Derived.Defers
import Derived.Recover
import Derived.Test.YtpbebckhemnooaaFmtPlain
import Derived.Outline

namespace Go.Proofs.YtpbebckhemnooaaFmt.PS
open Go.RowKit Go.Proofs.YtpbebckhemnooaaFmtW.PrintWords Go.Proofs.YtpbebckhemnooaaFmtW.PrintLast Go.Proofs.YtpbebckhemnooaaFmtW.PrintMore
set_option linter.unusedVariables false
set_option linter.unusedSimpArgs false

theorem frozen_block {w w' : World} {p : Addr} (h : w'.heap[p.block]? = w.heap[p.block]?) : w'.frozen? p = w.frozen? p := by
  unfold World.frozen?
  rw [h]
theorem cell_block {w w' : World} {p : Addr} (h : w'.heap[p.block]? = w.heap[p.block]?) : w'.cell? p = w.cell? p := by
  unfold World.cell?
  rw [h]
theorem close_nil (p q : Addr) (w : World) (hp : w.cell? p = some .nilIface) : CallsD Tryf.prog 62 #[.pointer (some p), .pointer (some q)] .returning w fun e u' w' => u' = .returning ∧ (e = .returned (.tuple #[]) ∧ w' = w) := by
  go_enter_d Tryf.func62, Tryf.ntmps62
  go_wp2
  go_end0
  exact ⟨rfl, rfl⟩
theorem put_other {W : World} {p q : Addr} {u v : Value} (hq : W.cell? q = some u) (hne : q ≠ p) : (W.setCell p v).cell? q = some u := (World.cell?_setCell_other W p q v (Ne.symm hne)).trans hq
theorem alloc_keeps {w : World} {q : Addr} {u : Value} (hq : w.cell? q = some u) (o : Obj) : (w.alloc o).cell? q = some u := by rw [cell_block (Below.heap_alloc _ _ _ (World.block_lt_of_cell? _ _ hq))]; exact hq
/-- What lies behind an error of package module's own type. -/
def PathErr (W : World) (g : Nat) (t : TypeId) (v : Value) : Prop := ∃ k p : ByteArray, W.cell? ⟨g, 0, none⟩ = some (.string k) ∧ W.cell? ⟨g, 1, none⟩ = some (.string p) ∧ W.cell? ⟨g, 2, none⟩ = some (.iface t v)
theorem setCell_size (w : World) (p : Addr) (v : Value) : (w.setCell p v).heap.size = w.heap.size := by simp [World.setCell]
theorem close_err (p q : Addr) (s : ByteArray) (t : TypeId) (v : Value) (w : World) (hp : w.cell? p = some (.iface t v)) (hf : w.frozen? p = false) (hq : w.cell? q = some (.string s)) (hlt : p.block < w.heap.size) :
    CallsD Tryf.prog 62 #[.pointer (some p), .pointer (some q)] .returning w fun e u' w' => u' = .returning ∧ (e = .returned (.tuple #[]) ∧ w'.cell? p = some (.iface 61 (.pointer (some ⟨w.heap.size, 0, none⟩))) ∧ (∀ B, B ≤ p.block → Below B w w') ∧ PathErr w' w.heap.size t v ∧ ∀ q u, q ≠ p → w.cell? q = some u → w'.cell? q = some u) := by
  have hfa : ∀ o, (w.alloc o).frozen? p = false := fun o => by rw [frozen_block (Below.heap_alloc _ _ _ hlt)]; exact hf
  have hca : ∀ o, (w.alloc o).cell? p = some (.iface t v) := fun o => alloc_keeps hp o
  have hne : ∀ n, (⟨w.heap.size, n, none⟩ : Addr) ≠ p := fun n e => by rw [← e] at hlt; exact absurd hlt (Nat.lt_irrefl _)
  go_enter_d Tryf.func62, Tryf.ntmps62
  go_wp2
  go_end0
  exact ⟨rfl, World.cell?_setCell_same _ _ _ (hca _), fun B hB => Below.setCell ((Below.refl _ _).alloc (by omega) _) hB _, ⟨⟨#[109, 111, 100, 117, 108, 101]⟩, s, put_other (by go_simp) (hne 0), put_other (by go_simp) (hne 1), put_other (by go_simp) (hne 2)⟩, fun q u hq hu => put_other (alloc_keeps hu _) hq⟩

/-- The path's variable and the error's. -/
structure Two (w : World) (s : ByteArray) (W : World) : Prop where
  path : W.cell? ⟨w.heap.size, 0, none⟩ = some (.string s)
  err : W.cell? ⟨w.heap.size + 1, 0, none⟩ = some .nilIface
  free : W.frozen? ⟨w.heap.size + 1, 0, none⟩ = false
  below : Below w.heap.size w W
  size : w.heap.size + 2 ≤ W.heap.size
theorem Two.later {w W W' : World} {s : ByteArray} (h : Two w s W) (hb : Below W.heap.size W W') : Two w s W' := by
  have := h.size
  have b0 : W'.heap[w.heap.size]? = W.heap[w.heap.size]? := hb.block _ (by omega)
  have b1 : W'.heap[w.heap.size + 1]? = W.heap[w.heap.size + 1]? := hb.block _ (by omega)
  exact ⟨by rw [cell_block (by exact b0)]; exact h.path, by rw [cell_block (by exact b1)]; exact h.err, by rw [frozen_block (by exact b1)]; exact h.free, h.below.trans (hb.mono (by omega)), Nat.le_trans h.size hb.size⟩
/-- Behind the store of an error. -/
theorem Two.put {w W : World} {s : ByteArray} (h : Two w s W) (v : Value) :
    (W.setCell ⟨w.heap.size + 1, 0, none⟩ v).cell? ⟨w.heap.size + 1, 0, none⟩ = some v ∧ (W.setCell ⟨w.heap.size + 1, 0, none⟩ v).frozen? ⟨w.heap.size + 1, 0, none⟩ = false ∧
    (W.setCell ⟨w.heap.size + 1, 0, none⟩ v).cell? ⟨w.heap.size, 0, none⟩ = some (.string s) ∧ Below w.heap.size w (W.setCell ⟨w.heap.size + 1, 0, none⟩ v) ∧ w.heap.size + 2 ≤ (W.setCell ⟨w.heap.size + 1, 0, none⟩ v).heap.size := by
  refine ⟨World.cell?_setCell_same _ _ _ h.err, ?_, ?_, h.below.setCell (by simp) _, by simp only [World.setCell, Array.size_modify]; exact h.size⟩
  · rw [World.frozen?_setCell]
    exact h.free
  · rw [cell_block (w := W)]
    · exact h.path
    · exact Below.heap_setCell _ _ _ _ (by simp)

end Go.Proofs.YtpbebckhemnooaaFmt.PS

namespace Go.Proofs.YtpbebckhemnooaaFmt.PS
open Go.RowKit Go.Proofs.YtpbebckhemnooaaFmtW.PrintWords Go.Proofs.YtpbebckhemnooaaFmtW.PrintLast Go.Proofs.YtpbebckhemnooaaFmtW.PrintMore
set_option linter.unusedVariables false
set_option linter.unusedSimpArgs false

def ErrM (w : World) (e : Ending) (w' : World) : Prop := ∃ (g : Nat) (b : Addr) (t : ByteArray), e = .returned (.iface 61 (.pointer (some ⟨g, 0, none⟩))) ∧ Below w.heap.size w w' ∧ PathErr w' g 79 (.pointer (some b)) ∧ w'.cell? b = some (.string t)
theorem door_err {w W w' : World} {s t : ByteArray} {a : Addr} {v : Value} (h : Two w s W) (hc : W.cell? a = some (.string t)) (hk : ∀ q u, q ≠ ⟨w.heap.size + 1, 0, none⟩ → (W.setCell ⟨w.heap.size + 1, 0, none⟩ v).cell? q = some u → w'.cell? q = some u) : w'.cell? a = some (.string t) := by
  have hne : a ≠ ⟨w.heap.size + 1, 0, none⟩ := fun e => by
    have := h.err
    rw [← e, hc] at this
    cases this
  exact hk a _ hne (put_other hc hne)
def NilM (w : World) (e : Ending) (w' : World) : Prop := e = .returned .nilIface ∧ Below w.heap.size w w'

theorem two_start (w : World) (s : ByteArray) : Two w s ((w.alloc (.cells #[.string s] 9)).alloc (.cells #[.nilIface] 43)) := by
  have hb : Below w.heap.size w ((w.alloc (.cells #[.string s] 9)).alloc (.cells #[.nilIface] 43)) := ((Below.refl _ _).alloc (Nat.le_refl _) _).alloc (by go_simp) _
  refine ⟨?_, ?_, ?_, hb, ?_⟩ <;> go_simp

set_option maxHeartbeats 1600000 in
theorem mod_bad (s : ByteArray) (w : World) (HC : ∀ W, Below w.heap.size w W → Calls Tryf.prog 61 #[.string s, .int .i64 0] W (ErrS W)) :
    Calls Tryf.prog 43 #[.string s] w (ErrM w) := by
  have hmf : ∀ (fn : Fn) (first cap : Array Value) (w : World), (Instr.makeFunc fn first cap).run Tryf.prog w = .ok (.func fn first cap) w := fun _ _ _ _ => rfl
  have HC := Lib.hid HC
  have h2 := two_start w s
  go_enter_defers Tryf.func43, Tryf.ntmps43
  go_wp2_with (go_at_call 61; refine (HC.out _ h2.below).mono ?_; rintro e w7 ⟨a7, t7, rfl, hc7, hb7⟩; have h3 := Lib.hid (h2.later hb7); have hfz := h3.out.free; have hce := h3.out.err)
  have hput := h3.out.put (.iface 79 (.pointer (some a7)))
  refine leaves_cons (f := 62) (args := #[.pointer (some ⟨w.heap.size + 1, 0, none⟩), .pointer (some ⟨w.heap.size, 0, none⟩)]) (by simp) (by simp [go_sem]) ?_
  refine (close_err _ _ s _ _ _ hput.1 hput.2.1 hput.2.2.1 (by have := hput.2.2.2.2; exact this)).mono ?_
  rintro e u' w'' ⟨rfl, rfl, hcell, hbel, hpe_, hkp_⟩
  simp [Leaves, settle, results, Tryf.results43, go_sem, hcell]
  exact ⟨_, _, _, rfl, hput.2.2.2.1.trans (hbel _ (by simp)), (by rw [setCell_size] at hpe_; exact hpe_), door_err h3.out hc7 hkp_⟩

/-- The part ahead of the first stroke. -/
theorem idx_first (l : List UInt8) : (∀ i, idxL [47] l = some i → l.take i = l.takeWhile (· != 47) ∧ i ≤ l.length) ∧ (idxL [47] l = none → l.takeWhile (· != 47) = l) := by
  induction l with
  | nil => simp [idxL]
  | cons c l ih =>
    obtain ⟨h1, h2⟩ := ih
    by_cases hc : c = 47
    · subst hc
      have e : idxL [47] (47 :: l) = some 0 := by simp [idxL]
      rw [e]
      refine ⟨fun i hi => ?_, fun h => by cases h⟩
      obtain rfl := Option.some.inj hi
      simp
    · have e : idxL [47] (c :: l) = (idxL [47] l).map (· + 1) := by simp [idxL, hc]
      have e2 : (c :: l).takeWhile (· != 47) = c :: l.takeWhile (· != 47) := by simp [List.takeWhile_cons, hc]
      rw [e, e2]
      cases hx : idxL [47] l with
      | none => exact ⟨fun i hi => by simp at hi, fun _ => by rw [h2 hx]⟩
      | some j =>
        refine ⟨fun i hi => ?_, fun h => by simp at h⟩
        simp at hi
        subst hi
        obtain ⟨a, b⟩ := h1 j hx
        simp [a, b]
def firstL (l : List UInt8) : List UInt8 := l.takeWhile (· != 47)
/-- The place of the first stroke, or the end. -/
theorem first_place (s : ByteArray) (hs : s.size ≤ 1099511627776) : ∃ i : Nat, i ≤ s.size ∧ s.data.toList.take i = firstL s.data.toList ∧ ((idxI [47] s.data.toList = (i : Int)) ∨ (idxI [47] s.data.toList = -1 ∧ i = s.size)) := by
  obtain ⟨h1, h2⟩ := idx_first s.data.toList
  unfold idxI
  cases hx : idxL [47] s.data.toList with
  | none => exact ⟨s.size, Nat.le_refl _, by rw [List.take_of_length_le (by rw [len_size]; exact Nat.le_refl _)]; exact (h2 hx).symm, .inr ⟨rfl, rfl⟩⟩
  | some j =>
    obtain ⟨a, b⟩ := h1 j hx
    rw [len_size] at b
    exact ⟨j, b, a, .inl rfl⟩
theorem zzIndex_at (s sub : ByteArray) (hs : s.size ≤ 1099511627776) (hm : 1 ≤ sub.size) (hm2 : sub.size ≤ 1000) (n : Int) (h : idxI sub.data.toList s.data.toList = n) (w : World) :
    Calls Tryf.prog 63 #[.string s, .string sub] w fun e w' => e = .returned (.int .i64 n) ∧ Below w.heap.size w w' := by
  rw [← h]; exact zzIndex_any s sub hs hm hm2 w
theorem zzCon_at (s sub : ByteArray) (hs : s.size ≤ 1099511627776) (hm : 1 ≤ sub.size) (hm2 : sub.size ≤ 1000) (b : Bool) (h : (idxL sub.data.toList s.data.toList).isSome = b) (w : World) :
    Calls Tryf.prog 54 #[.string s, .string sub] w fun e w' => e = .returned (.bool b) ∧ Below w.heap.size w w' := by
  rw [← h]; exact zzContains_any s sub hs hm hm2 w
theorem spv_at (s : ByteArray) (hs : s.size ≤ 1099511627776) (w : World) : Calls Tryf.prog 65 #[.string s] w fun e w' => ∃ a b : ByteArray, e = .returned (.tuple #[.string a, .string b, .bool (spvI s.data.toList).2.2]) ∧ (a.data.toList, b.data.toList, (spvI s.data.toList).2.2) = spvI s.data.toList ∧ Below w.heap.size w w' := by
  obtain ⟨a, b, ok, h1, h2⟩ := spv_ev s hs
  obtain ⟨k, hk⟩ := h1.fin
  have e : (spvI s.data.toList).2.2 = ok := by rw [← h2]
  refine (module_SplitPathVersion.calls k s a b ok w hk).mono fun _ _ ⟨he, hd⟩ => ⟨a, b, by rw [e]; exact he, by rw [e]; exact h2, drawn_below hd⟩

theorem fmtFirst : Fmt1 ⟨#[105, 110, 118, 97, 108, 105, 100, 32, 99, 104, 97, 114, 32, 37, 113, 32, 105, 110, 32, 102, 105, 114, 115, 116, 32, 112, 97, 116, 104, 32, 101, 108, 101, 109, 101, 110, 116]⟩ 113 := fun w => by kernel_rfl
/-- It tells no error, just if P. -/
def ModQ (P : Prop) (w : World) (e : Ending) (w' : World) : Prop := (P ∧ NilM w e w') ∨ (¬ P ∧ ErrM w e w')

set_option maxHeartbeats 1600000 in
theorem mod_dotA (F : Stop.Interp) (s : ByteArray) (hs : s.size ≤ 1099511627776) (w : World) (hF : F.answers w.tape) (hp : 0 < s.size) (h0 : gb s 0 ≠ 45) (i : Nat) (hi0 : 0 < i) (hi : i ≤ s.size) (htk : s.data.toList.take i = firstL s.data.toList)
    (HC : ∀ W, Below w.heap.size w W → Calls Tryf.prog 61 #[.string s, .int .i64 0] W (NilM W)) (hix : idxI [47] s.data.toList = (i : Int)) (hd : (idxL [46] (firstL s.data.toList)).isSome = false) :
    Calls Tryf.prog 43 #[.string s] w (ErrM w) := by
  have hmf : ∀ (fn : Fn) (first cap : Array Value) (w : World), (Instr.makeFunc fn first cap).run Tryf.prog w = .ok (.func fn first cap) w := fun _ _ _ _ => rfl
  have a0 : (gb s 0 == 45) = false := by simpa using h0
  have hgb := get_gb s
  obtain ⟨f, hfe⟩ : ∃ f, s.extract 0 i = f := ⟨_, rfl⟩
  have hfd : f.data.toList = firstL s.data.toList := by rw [← hfe, ← htk]; exact extract_take s _
  have hfs : f.size ≤ s.size := by rw [← len_size, hfd, ← htk, List.length_take, len_size]; omega
  have HZ := Lib.hid fun W => zzIndex_at s ⟨#[47]⟩ hs (by decide) (by decide) (i : Int) hix W
  have HD := Lib.hid fun W => zzCon_at f ⟨#[46]⟩ (by omega) (by decide) (by decide) false (by rw [hfd]; exact hd) W
  have HC := Lib.hid HC
  have h2 := two_start w s
  have HFD := Lib.hid hfd
  have HT := Lib.hid htk
  clear hd hix h0 htk hfd
  go_enter_defers Tryf.func43, Tryf.ntmps43
  go_wp2_with (first
    | (go_at_call 61; refine (HC.out _ h2.below).mono ?_; rintro e w7 ⟨rfl, hb7⟩; have h3 := Lib.hid (h2.later hb7); have hfz := h3.out.free; have hce := h3.out.err; have hpe := h3.out.path)
    | (go_at_call 63; refine (HZ.out _).mono ?_; rintro e w8 ⟨rfl, hb8⟩; have h4 := Lib.hid (h3.out.later hb8); have hfz4 := h4.out.free; have hce4 := h4.out.err; have hpe4 := h4.out.path)
    | (go_at_call 54; refine (HD.out _).mono ?_; rintro e w10 ⟨rfl, hb10⟩; have h5 := Lib.hid (h4.out.later hb10); have hfz5 := h5.out.free; have hce5 := h5.out.err; have hpe5 := h5.out.path)
    | (go_at_call 55; refine (errorf_none _ (by simp) _).mono ?_; rintro e w9 ⟨a9, t9, rfl, hc9, hb9⟩; have h9 := Lib.hid (h5.out.later hb9); have hfz9 := h9.out.free; have hce9 := h9.out.err))
  have hput := h9.out.put (.iface 79 (.pointer (some a9)))
  refine leaves_cons (f := 62) (args := #[.pointer (some ⟨w.heap.size + 1, 0, none⟩), .pointer (some ⟨w.heap.size, 0, none⟩)]) (by simp) (by simp [go_sem]) ?_
  refine (close_err _ _ s _ _ _ hput.1 hput.2.1 hput.2.2.1 (by have := hput.2.2.2.2; exact this)).mono ?_
  rintro e u' w'' ⟨rfl, rfl, hcell, hbel, hpe_, hkp_⟩
  simp [Leaves, settle, results, Tryf.results43, go_sem, hcell]
  exact ⟨_, _, _, rfl, hput.2.2.2.1.trans (hbel _ (by simp)), (by rw [setCell_size] at hpe_; exact hpe_), door_err h9.out hc9 hkp_⟩

set_option maxHeartbeats 4000000 in
theorem mod_restA (F : Stop.Interp) (s : ByteArray) (hs : s.size ≤ 1099511627776) (w : World) (hF : F.answers w.tape) (hp : 0 < s.size) (h0 : gb s 0 ≠ 45) (i : Nat) (hi0 : 0 < i) (hi : i ≤ s.size) (htk : s.data.toList.take i = firstL s.data.toList)
    (HC : ∀ W, Below w.heap.size w W → Calls Tryf.prog 61 #[.string s, .int .i64 0] W (NilM W)) (hix : idxI [47] s.data.toList = (i : Int)) (hd : (idxL [46] (firstL s.data.toList)).isSome = true) (ha : asc s.data.toList) :
    Calls Tryf.prog 43 #[.string s] w (ModQ ((∀ c ∈ firstL s.data.toList, firstI (c.toNat : Int) = true) ∧ (spvI s.data.toList).2.2 = true) w) := by
  have HAS := Lib.hid (show asc (firstL s.data.toList) from fun c hc => ha c ((List.takeWhile_prefix _).sublist.subset hc))
  clear ha
  have hmf : ∀ (fn : Fn) (first cap : Array Value) (w : World), (Instr.makeFunc fn first cap).run Tryf.prog w = .ok (.func fn first cap) w := fun _ _ _ _ => rfl
  have a0 : (gb s 0 == 45) = false := by simpa using h0
  have hgb := get_gb s
  obtain ⟨f, hfe⟩ : ∃ f, s.extract 0 i = f := ⟨_, rfl⟩
  have hfd : f.data.toList = firstL s.data.toList := by rw [← hfe, ← htk]; exact extract_take s _
  have hfs : f.size ≤ s.size := by rw [← len_size, hfd, ← htk, List.length_take, len_size]; omega
  have HZ := Lib.hid fun W => zzIndex_at s ⟨#[47]⟩ hs (by decide) (by decide) (i : Int) hix W
  have HD := Lib.hid fun W => zzCon_at f ⟨#[46]⟩ (by omega) (by decide) (by decide) true (by rw [hfd]; exact hd) W
  have HC := Lib.hid HC
  have h2 := two_start w s
  have HFD := Lib.hid hfd
  have HT := Lib.hid htk
  clear hd hix h0 htk hfd
  go_enter_defers Tryf.func43, Tryf.ntmps43
  go_wp2_with (first
    | (go_at_call 61; refine (HC.out _ h2.below).mono ?_; rintro e w7 ⟨rfl, hb7⟩; have h3 := Lib.hid (h2.later hb7); have hfz := h3.out.free; have hce := h3.out.err; have hpe := h3.out.path)
    | (go_at_call 63; refine (HZ.out _).mono ?_; rintro e w8 ⟨rfl, hb8⟩; have h4 := Lib.hid (h3.out.later hb8); have hfz4 := h4.out.free; have hce4 := h4.out.err; have hpe4 := h4.out.path)
    | (go_at_call 54; refine (HD.out _).mono ?_; rintro e w10 ⟨rfl, hb10⟩; have h5 := Lib.hid (h4.out.later hb10); have hfz5 := h5.out.free; have hce5 := h5.out.err; have hpe5 := h5.out.path))
  have hgf := get_gb f
  have hF5 := below_tape hF h5.out.below
  go_loopw [] (fun wr => ∃ k : Nat, k ≤ f.size ∧ Hid (wr.heap[w10.heap.size]? = some (.stringIter f k)) ∧ Hid (Below w10.heap.size w10 wr) ∧ Hid (∀ c ∈ f.data.toList.take k, firstI (c.toNat : Int) = true)) (fun wr => f.size - wr.iterPos w10.heap.size)
  case atStart => exact ⟨0, Nat.zero_le _, Lib.hid (World.iter_heap w10 f 0), Lib.hid ((Below.refl _ _).alloc (Nat.le_refl _) _), Lib.hid (fun c hc => by simp at hc)⟩
  case round =>
    obtain ⟨k, hk, hit, hB, hdg⟩ := hrel
    have h6 := Lib.hid (h5.out.later hB.out)
    by_cases hlt : k < f.size
    · have ha1 : (f[k]'hlt).toNat < 128 := gb_ascii (s := f) (by rw [HFD.out]; exact HAS.out) k hlt
      have hnx : ∀ ty, (Instr.next (.pointer (some ⟨w10.heap.size, 0, none⟩)) true ty).run Tryf.prog wr = _ := fun ty => Lib.run_next_ascii_at wr w10.heap.size f k ty hit.out hlt ha1
      have hB2 := Lib.hid (Lib.below_iterAt hB.out (k := w10.heap.size) (Nat.le_refl _) f (k + 1))
      have hit2 := Lib.hid (Lib.iterAt_heap wr w10.heap.size f k (k + 1) hit.out)
      obtain ⟨W1, hW1⟩ : ∃ W1, wr.iterAt w10.heap.size f (k + 1) = W1 := ⟨_, rfl⟩
      rw [hW1] at hnx hB2 hit2
      have h7 := Lib.hid (h5.out.later hB2.out)
      have hF7 := below_tape hF h7.out.below
      have hg : ((f[k]'hlt).toNat : Int) = gb f k := (hgf k hlt).symm ▸ rfl
      have HG := Lib.hid hg
      clear hW1 ha1
      by_cases hc : firstI (gb f k) = true
      · have hdg2 : Hid (∀ c ∈ f.data.toList.take (k + 1), firstI (c.toNat : Int) = true) := Lib.hid (by
          obtain ⟨c, ht, -, hgc, -⟩ := take_succ_gb f hlt
          intro d hdm
          rw [ht, List.mem_append] at hdm
          rcases hdm with hdm | hdm
          · exact hdg.out d hdm
          · obtain rfl := List.mem_singleton.1 hdm
            rw [← hgc]; exact hc)
        clear hg
        go_wp2_with (go_at_call 64; refine (first_any _ _).mono ?_; rintro e w12 ⟨rfl, hb12⟩)
        have hit3 : Hid (w12.heap[w10.heap.size]? = some (.stringIter f (k + 1))) := Lib.hid (by rw [hb12.block _ (Array.getElem?_eq_some_iff.1 hit2.out).1]; exact hit2.out)
        have hB3 := Lib.hid (hB2.out.trans (hb12.mono hB2.out.size))
        go_roundw
        case rel => exact ⟨k + 1, by omega, hit3, hB3, hdg2⟩
        case measure => simp only [World.iterPos, hit.out, hit3.out]; omega
      · have hc2 : firstI (gb f k) = false := by simpa using hc
        have HX := Lib.hid (show ¬ ((∀ c ∈ firstL s.data.toList, firstI (c.toNat : Int) = true) ∧ (spvI s.data.toList).2.2 = true) from fun h => hc (by rw [← hg]; exact h.1 _ (by rw [← HFD.out]; exact byte_mem f k hlt)))
        clear hc hg
        go_wp2_with (first
          | (go_at_call 64; refine (first_any _ _).mono ?_; rintro e w12 ⟨rfl, hb12⟩; have h8 := Lib.hid (h7.out.later hb12))
          | (go_at_call 55; refine (errorf_rune F _ (gb f k) _ _ (by have := below_tape hF h8.out.below; exact this) fmtFirst (by go_simp)).mono ?_; rintro e w9 ⟨a9, t9, rfl, hc9, hb9⟩; have h9 := Lib.hid (h8.out.later (((Below.refl _ _).alloc (Nat.le_refl _) _).trans (hb9.mono (by go_simp)))); have hfz9 := h9.out.free; have hce9 := h9.out.err))
        have hput := h9.out.put (.iface 79 (.pointer (some a9)))
        refine leaves_cons (f := 62) (args := #[.pointer (some ⟨w.heap.size + 1, 0, none⟩), .pointer (some ⟨w.heap.size, 0, none⟩)]) (by simp) (by simp [go_sem]) ?_
        refine (close_err _ _ s _ _ _ hput.1 hput.2.1 hput.2.2.1 (by have := hput.2.2.2.2; exact this)).mono ?_
        rintro e u' w'' ⟨rfl, rfl, hcell, hbel, hpe_, hkp_⟩
        simp [Leaves, settle, results, Tryf.results43, go_sem, hcell]
        exact .inr ⟨HX.out, _, _, _, rfl, hput.2.2.2.1.trans (hbel _ (by simp)), (by rw [setCell_size] at hpe_; exact hpe_), door_err h9.out hc9 hkp_⟩
    · have hnx : ∀ ty, (Instr.next (.pointer (some ⟨w10.heap.size, 0, none⟩)) true ty).run Tryf.prog wr = _ := fun ty => Lib.run_next_end_at wr w10.heap.size f k ty hit.out hlt
      have hall := hdg.out
      rw [List.take_of_length_le (by rw [len_size]; omega), HFD.out] at hall
      have HALL := Lib.hid hall
      have HS := Lib.hid fun W => spv_at s hs W
      have hpe6 := h6.out.path
      have hfz6 := h6.out.free
      have hce6 := h6.out.err
      obtain ⟨ok, hok⟩ : ∃ ok, (spvI s.data.toList).2.2 = ok := ⟨_, rfl⟩
      have HOK := Lib.hid hok
      rw [hok] at HS
      clear hall hok
      cases ok with
      | true =>
        go_wp2_with (go_at_call 65; refine (HS.out _).mono ?_; rintro e w12 ⟨p1, p2, rfl, -, hb12⟩; have h8 := Lib.hid (h6.out.later hb12); have hfz8 := h8.out.free; have hce8 := h8.out.err)
        have hput := h8.out.put .nilIface
        refine leaves_cons (f := 62) (args := #[.pointer (some ⟨w.heap.size + 1, 0, none⟩), .pointer (some ⟨w.heap.size, 0, none⟩)]) (by simp) (by simp [go_sem]) ?_
        refine (close_nil _ _ _ hput.1).mono ?_
        rintro e u' w'' ⟨rfl, rfl, rfl⟩
        simp [Leaves, settle, results, Tryf.results43, go_sem, hput.1]
        exact .inl ⟨⟨HALL.out, HOK.out⟩, rfl, hput.2.2.2.1⟩
      | false =>
        have HX := Lib.hid (show ¬ ((∀ c ∈ firstL s.data.toList, firstI (c.toNat : Int) = true) ∧ (spvI s.data.toList).2.2 = true) from fun h => by rw [HOK.out] at h; cases h.2)
        go_wp2_with (first
          | (go_at_call 65; refine (HS.out _).mono ?_; rintro e w12 ⟨p1, p2, rfl, -, hb12⟩; have h8 := Lib.hid (h6.out.later hb12); have hfz8 := h8.out.free; have hce8 := h8.out.err)
          | (go_at_call 55; refine (errorf_none _ (by simp) _).mono ?_; rintro e w9 ⟨a9, t9, rfl, hc9, hb9⟩; have h9 := Lib.hid (h8.out.later hb9); have hfz9 := h9.out.free; have hce9 := h9.out.err))
        have hput := h9.out.put (.iface 79 (.pointer (some a9)))
        refine leaves_cons (f := 62) (args := #[.pointer (some ⟨w.heap.size + 1, 0, none⟩), .pointer (some ⟨w.heap.size, 0, none⟩)]) (by simp) (by simp [go_sem]) ?_
        refine (close_err _ _ s _ _ _ hput.1 hput.2.1 hput.2.2.1 (by have := hput.2.2.2.2; exact this)).mono ?_
        rintro e u' w'' ⟨rfl, rfl, hcell, hbel, hpe_, hkp_⟩
        simp [Leaves, settle, results, Tryf.results43, go_sem, hcell]
        exact .inr ⟨HX.out, _, _, _, rfl, hput.2.2.2.1.trans (hbel _ (by simp)), (by rw [setCell_size] at hpe_; exact hpe_), door_err h9.out hc9 hkp_⟩

set_option maxHeartbeats 1600000 in
theorem mod_dotB (F : Stop.Interp) (s : ByteArray) (hs : s.size ≤ 1099511627776) (w : World) (hF : F.answers w.tape) (hp : 0 < s.size) (h0 : gb s 0 ≠ 45) (i : Nat) (hi0 : 0 < i) (hi : i ≤ s.size) (htk : s.data.toList.take i = firstL s.data.toList)
    (HC : ∀ W, Below w.heap.size w W → Calls Tryf.prog 61 #[.string s, .int .i64 0] W (NilM W)) (hix : idxI [47] s.data.toList = -1) (hie : i = s.size) (hd : (idxL [46] (firstL s.data.toList)).isSome = false) :
    Calls Tryf.prog 43 #[.string s] w (ErrM w) := by
  subst hie
  have hmf : ∀ (fn : Fn) (first cap : Array Value) (w : World), (Instr.makeFunc fn first cap).run Tryf.prog w = .ok (.func fn first cap) w := fun _ _ _ _ => rfl
  have a0 : (gb s 0 == 45) = false := by simpa using h0
  have hgb := get_gb s
  obtain ⟨f, hfe⟩ : ∃ f, s.extract 0 s.size = f := ⟨_, rfl⟩
  have hfd : f.data.toList = firstL s.data.toList := by rw [← hfe, ← htk]; exact extract_take s _
  have hfs : f.size ≤ s.size := by rw [← len_size, hfd, ← htk, List.length_take, len_size]; omega
  have HZ := Lib.hid fun W => zzIndex_at s ⟨#[47]⟩ hs (by decide) (by decide) (-1) hix W
  have HD := Lib.hid fun W => zzCon_at f ⟨#[46]⟩ (by omega) (by decide) (by decide) false (by rw [hfd]; exact hd) W
  have HC := Lib.hid HC
  have h2 := two_start w s
  have HFD := Lib.hid hfd
  have HT := Lib.hid htk
  clear hd hix h0 htk hfd
  go_enter_defers Tryf.func43, Tryf.ntmps43
  go_wp2_with (first
    | (go_at_call 61; refine (HC.out _ h2.below).mono ?_; rintro e w7 ⟨rfl, hb7⟩; have h3 := Lib.hid (h2.later hb7); have hfz := h3.out.free; have hce := h3.out.err; have hpe := h3.out.path)
    | (go_at_call 63; refine (HZ.out _).mono ?_; rintro e w8 ⟨rfl, hb8⟩; have h4 := Lib.hid (h3.out.later hb8); have hfz4 := h4.out.free; have hce4 := h4.out.err; have hpe4 := h4.out.path)
    | (go_at_call 54; refine (HD.out _).mono ?_; rintro e w10 ⟨rfl, hb10⟩; have h5 := Lib.hid (h4.out.later hb10); have hfz5 := h5.out.free; have hce5 := h5.out.err; have hpe5 := h5.out.path)
    | (go_at_call 55; refine (errorf_none _ (by simp) _).mono ?_; rintro e w9 ⟨a9, t9, rfl, hc9, hb9⟩; have h9 := Lib.hid (h5.out.later hb9); have hfz9 := h9.out.free; have hce9 := h9.out.err))
  have hput := h9.out.put (.iface 79 (.pointer (some a9)))
  refine leaves_cons (f := 62) (args := #[.pointer (some ⟨w.heap.size + 1, 0, none⟩), .pointer (some ⟨w.heap.size, 0, none⟩)]) (by simp) (by simp [go_sem]) ?_
  refine (close_err _ _ s _ _ _ hput.1 hput.2.1 hput.2.2.1 (by have := hput.2.2.2.2; exact this)).mono ?_
  rintro e u' w'' ⟨rfl, rfl, hcell, hbel, hpe_, hkp_⟩
  simp [Leaves, settle, results, Tryf.results43, go_sem, hcell]
  exact ⟨_, _, _, rfl, hput.2.2.2.1.trans (hbel _ (by simp)), (by rw [setCell_size] at hpe_; exact hpe_), door_err h9.out hc9 hkp_⟩

set_option maxHeartbeats 4000000 in
theorem mod_restB (F : Stop.Interp) (s : ByteArray) (hs : s.size ≤ 1099511627776) (w : World) (hF : F.answers w.tape) (hp : 0 < s.size) (h0 : gb s 0 ≠ 45) (i : Nat) (hi0 : 0 < i) (hi : i ≤ s.size) (htk : s.data.toList.take i = firstL s.data.toList)
    (HC : ∀ W, Below w.heap.size w W → Calls Tryf.prog 61 #[.string s, .int .i64 0] W (NilM W)) (hix : idxI [47] s.data.toList = -1) (hie : i = s.size) (hd : (idxL [46] (firstL s.data.toList)).isSome = true) (ha : asc s.data.toList) :
    Calls Tryf.prog 43 #[.string s] w (ModQ ((∀ c ∈ firstL s.data.toList, firstI (c.toNat : Int) = true) ∧ (spvI s.data.toList).2.2 = true) w) := by
  subst hie
  have HAS := Lib.hid (show asc (firstL s.data.toList) from fun c hc => ha c ((List.takeWhile_prefix _).sublist.subset hc))
  clear ha
  have hmf : ∀ (fn : Fn) (first cap : Array Value) (w : World), (Instr.makeFunc fn first cap).run Tryf.prog w = .ok (.func fn first cap) w := fun _ _ _ _ => rfl
  have a0 : (gb s 0 == 45) = false := by simpa using h0
  have hgb := get_gb s
  obtain ⟨f, hfe⟩ : ∃ f, s.extract 0 s.size = f := ⟨_, rfl⟩
  have hfd : f.data.toList = firstL s.data.toList := by rw [← hfe, ← htk]; exact extract_take s _
  have hfs : f.size ≤ s.size := by rw [← len_size, hfd, ← htk, List.length_take, len_size]; omega
  have HZ := Lib.hid fun W => zzIndex_at s ⟨#[47]⟩ hs (by decide) (by decide) (-1) hix W
  have HD := Lib.hid fun W => zzCon_at f ⟨#[46]⟩ (by omega) (by decide) (by decide) true (by rw [hfd]; exact hd) W
  have HC := Lib.hid HC
  have h2 := two_start w s
  have HFD := Lib.hid hfd
  have HT := Lib.hid htk
  clear hd hix h0 htk hfd
  go_enter_defers Tryf.func43, Tryf.ntmps43
  go_wp2_with (first
    | (go_at_call 61; refine (HC.out _ h2.below).mono ?_; rintro e w7 ⟨rfl, hb7⟩; have h3 := Lib.hid (h2.later hb7); have hfz := h3.out.free; have hce := h3.out.err; have hpe := h3.out.path)
    | (go_at_call 63; refine (HZ.out _).mono ?_; rintro e w8 ⟨rfl, hb8⟩; have h4 := Lib.hid (h3.out.later hb8); have hfz4 := h4.out.free; have hce4 := h4.out.err; have hpe4 := h4.out.path)
    | (go_at_call 54; refine (HD.out _).mono ?_; rintro e w10 ⟨rfl, hb10⟩; have h5 := Lib.hid (h4.out.later hb10); have hfz5 := h5.out.free; have hce5 := h5.out.err; have hpe5 := h5.out.path))
  have hgf := get_gb f
  have hF5 := below_tape hF h5.out.below
  go_loopw [] (fun wr => ∃ k : Nat, k ≤ f.size ∧ Hid (wr.heap[w10.heap.size]? = some (.stringIter f k)) ∧ Hid (Below w10.heap.size w10 wr) ∧ Hid (∀ c ∈ f.data.toList.take k, firstI (c.toNat : Int) = true)) (fun wr => f.size - wr.iterPos w10.heap.size)
  case atStart => exact ⟨0, Nat.zero_le _, Lib.hid (World.iter_heap w10 f 0), Lib.hid ((Below.refl _ _).alloc (Nat.le_refl _) _), Lib.hid (fun c hc => by simp at hc)⟩
  case round =>
    obtain ⟨k, hk, hit, hB, hdg⟩ := hrel
    have h6 := Lib.hid (h5.out.later hB.out)
    by_cases hlt : k < f.size
    · have ha1 : (f[k]'hlt).toNat < 128 := gb_ascii (s := f) (by rw [HFD.out]; exact HAS.out) k hlt
      have hnx : ∀ ty, (Instr.next (.pointer (some ⟨w10.heap.size, 0, none⟩)) true ty).run Tryf.prog wr = _ := fun ty => Lib.run_next_ascii_at wr w10.heap.size f k ty hit.out hlt ha1
      have hB2 := Lib.hid (Lib.below_iterAt hB.out (k := w10.heap.size) (Nat.le_refl _) f (k + 1))
      have hit2 := Lib.hid (Lib.iterAt_heap wr w10.heap.size f k (k + 1) hit.out)
      obtain ⟨W1, hW1⟩ : ∃ W1, wr.iterAt w10.heap.size f (k + 1) = W1 := ⟨_, rfl⟩
      rw [hW1] at hnx hB2 hit2
      have h7 := Lib.hid (h5.out.later hB2.out)
      have hF7 := below_tape hF h7.out.below
      have hg : ((f[k]'hlt).toNat : Int) = gb f k := (hgf k hlt).symm ▸ rfl
      have HG := Lib.hid hg
      clear hW1 ha1
      by_cases hc : firstI (gb f k) = true
      · have hdg2 : Hid (∀ c ∈ f.data.toList.take (k + 1), firstI (c.toNat : Int) = true) := Lib.hid (by
          obtain ⟨c, ht, -, hgc, -⟩ := take_succ_gb f hlt
          intro d hdm
          rw [ht, List.mem_append] at hdm
          rcases hdm with hdm | hdm
          · exact hdg.out d hdm
          · obtain rfl := List.mem_singleton.1 hdm
            rw [← hgc]; exact hc)
        clear hg
        go_wp2_with (go_at_call 64; refine (first_any _ _).mono ?_; rintro e w12 ⟨rfl, hb12⟩)
        have hit3 : Hid (w12.heap[w10.heap.size]? = some (.stringIter f (k + 1))) := Lib.hid (by rw [hb12.block _ (Array.getElem?_eq_some_iff.1 hit2.out).1]; exact hit2.out)
        have hB3 := Lib.hid (hB2.out.trans (hb12.mono hB2.out.size))
        go_roundw
        case rel => exact ⟨k + 1, by omega, hit3, hB3, hdg2⟩
        case measure => simp only [World.iterPos, hit.out, hit3.out]; omega
      · have hc2 : firstI (gb f k) = false := by simpa using hc
        have HX := Lib.hid (show ¬ ((∀ c ∈ firstL s.data.toList, firstI (c.toNat : Int) = true) ∧ (spvI s.data.toList).2.2 = true) from fun h => hc (by rw [← hg]; exact h.1 _ (by rw [← HFD.out]; exact byte_mem f k hlt)))
        clear hc hg
        go_wp2_with (first
          | (go_at_call 64; refine (first_any _ _).mono ?_; rintro e w12 ⟨rfl, hb12⟩; have h8 := Lib.hid (h7.out.later hb12))
          | (go_at_call 55; refine (errorf_rune F _ (gb f k) _ _ (by have := below_tape hF h8.out.below; exact this) fmtFirst (by go_simp)).mono ?_; rintro e w9 ⟨a9, t9, rfl, hc9, hb9⟩; have h9 := Lib.hid (h8.out.later (((Below.refl _ _).alloc (Nat.le_refl _) _).trans (hb9.mono (by go_simp)))); have hfz9 := h9.out.free; have hce9 := h9.out.err))
        have hput := h9.out.put (.iface 79 (.pointer (some a9)))
        refine leaves_cons (f := 62) (args := #[.pointer (some ⟨w.heap.size + 1, 0, none⟩), .pointer (some ⟨w.heap.size, 0, none⟩)]) (by simp) (by simp [go_sem]) ?_
        refine (close_err _ _ s _ _ _ hput.1 hput.2.1 hput.2.2.1 (by have := hput.2.2.2.2; exact this)).mono ?_
        rintro e u' w'' ⟨rfl, rfl, hcell, hbel, hpe_, hkp_⟩
        simp [Leaves, settle, results, Tryf.results43, go_sem, hcell]
        exact .inr ⟨HX.out, _, _, _, rfl, hput.2.2.2.1.trans (hbel _ (by simp)), (by rw [setCell_size] at hpe_; exact hpe_), door_err h9.out hc9 hkp_⟩
    · have hnx : ∀ ty, (Instr.next (.pointer (some ⟨w10.heap.size, 0, none⟩)) true ty).run Tryf.prog wr = _ := fun ty => Lib.run_next_end_at wr w10.heap.size f k ty hit.out hlt
      have hall := hdg.out
      rw [List.take_of_length_le (by rw [len_size]; omega), HFD.out] at hall
      have HALL := Lib.hid hall
      have HS := Lib.hid fun W => spv_at s hs W
      have hpe6 := h6.out.path
      have hfz6 := h6.out.free
      have hce6 := h6.out.err
      obtain ⟨ok, hok⟩ : ∃ ok, (spvI s.data.toList).2.2 = ok := ⟨_, rfl⟩
      have HOK := Lib.hid hok
      rw [hok] at HS
      clear hall hok
      cases ok with
      | true =>
        go_wp2_with (go_at_call 65; refine (HS.out _).mono ?_; rintro e w12 ⟨p1, p2, rfl, -, hb12⟩; have h8 := Lib.hid (h6.out.later hb12); have hfz8 := h8.out.free; have hce8 := h8.out.err)
        have hput := h8.out.put .nilIface
        refine leaves_cons (f := 62) (args := #[.pointer (some ⟨w.heap.size + 1, 0, none⟩), .pointer (some ⟨w.heap.size, 0, none⟩)]) (by simp) (by simp [go_sem]) ?_
        refine (close_nil _ _ _ hput.1).mono ?_
        rintro e u' w'' ⟨rfl, rfl, rfl⟩
        simp [Leaves, settle, results, Tryf.results43, go_sem, hput.1]
        exact .inl ⟨⟨HALL.out, HOK.out⟩, rfl, hput.2.2.2.1⟩
      | false =>
        have HX := Lib.hid (show ¬ ((∀ c ∈ firstL s.data.toList, firstI (c.toNat : Int) = true) ∧ (spvI s.data.toList).2.2 = true) from fun h => by rw [HOK.out] at h; cases h.2)
        go_wp2_with (first
          | (go_at_call 65; refine (HS.out _).mono ?_; rintro e w12 ⟨p1, p2, rfl, -, hb12⟩; have h8 := Lib.hid (h6.out.later hb12); have hfz8 := h8.out.free; have hce8 := h8.out.err)
          | (go_at_call 55; refine (errorf_none _ (by simp) _).mono ?_; rintro e w9 ⟨a9, t9, rfl, hc9, hb9⟩; have h9 := Lib.hid (h8.out.later hb9); have hfz9 := h9.out.free; have hce9 := h9.out.err))
        have hput := h9.out.put (.iface 79 (.pointer (some a9)))
        refine leaves_cons (f := 62) (args := #[.pointer (some ⟨w.heap.size + 1, 0, none⟩), .pointer (some ⟨w.heap.size, 0, none⟩)]) (by simp) (by simp [go_sem]) ?_
        refine (close_err _ _ s _ _ _ hput.1 hput.2.1 hput.2.2.1 (by have := hput.2.2.2.2; exact this)).mono ?_
        rintro e u' w'' ⟨rfl, rfl, hcell, hbel, hpe_, hkp_⟩
        simp [Leaves, settle, results, Tryf.results43, go_sem, hcell]
        exact .inr ⟨HX.out, _, _, _, rfl, hput.2.2.2.1.trans (hbel _ (by simp)), (by rw [setCell_size] at hpe_; exact hpe_), door_err h9.out hc9 hkp_⟩

end Go.Proofs.YtpbebckhemnooaaFmt.PS

namespace Go.Proofs.YtpbebckhemnooaaFmt.PS
open Go.RowKit Go.Proofs.YtpbebckhemnooaaFmtW.PrintWords Go.Proofs.YtpbebckhemnooaaFmtW.PrintLast Go.Proofs.YtpbebckhemnooaaFmtW.PrintMore
set_option linter.unusedVariables false
set_option linter.unusedSimpArgs false

def ModOK (l : List UInt8) : Prop := PathOK 0 l ∧ (idxL [46] (firstL l)).isSome = true ∧ (∀ c ∈ firstL l, firstI (c.toNat : Int) = true) ∧ (spvI l).2.2 = true
def MB (l : List UInt8) (b : Bool) : Prop := (asc l → (b = true ↔ ModOK l)) ∧ (¬ asc l → b = false)
def ModPost (w : World) (l : List UInt8) (e : Ending) (w' : World) : Prop := ∃ b : Bool, MB l b ∧ ((b = true ∧ NilM w e w') ∨ (b = false ∧ ErrM w e w'))
theorem MB.no {l : List UInt8} (h : asc l → ¬ ModOK l) : MB l false := ⟨fun a => ⟨fun e => Bool.noConfusion e, fun e => absurd e (h a)⟩, fun _ => rfl⟩
theorem MB.yes {l : List UInt8} (ha : asc l) (h : ModOK l) : MB l true := ⟨fun _ => ⟨fun _ => h, fun _ => rfl⟩, fun h => absurd ha h⟩
theorem first_mem (l : List UInt8) : firstL l ∈ cutL 47 l := by
  have := cut_head 47 l
  unfold firstL
  rw [← this]
  rw [cut_eq 47 l]
  exact List.mem_cons_self

theorem modPath_any (F : Stop.Interp) (s : ByteArray) (hs : s.size ≤ 1099511627776) (w : World) (hF : F.answers w.tape) (hN : NamesIn w) (hv : ∀ W, Below w.heap.size w W → ValidOK W s) :
    Calls Tryf.prog 43 #[.string s] w (ModPost w s.data.toList) := by
  have hp : ∀ W, Below w.heap.size w W → Calls Tryf.prog 61 #[.string s, .int .i64 0] W (PathPost W 0 s.data.toList) := fun W hb =>
    path_any 0 (.inl rfl) F s hs W (below_tape hF hb) (hN.below hb) (fun h => by cases h) (hv W hb)
  by_cases h : asc s.data.toList ∧ PathOK 0 s.data.toList
  · obtain ⟨ha, hok⟩ := h
    have HC : ∀ W, Below w.heap.size w W → Calls Tryf.prog 61 #[.string s, .int .i64 0] W (NilM W) := fun W hb =>
      (hp W hb).mono fun e w' ⟨b, hpb, hh⟩ => by
        rcases hh with ⟨rfl, he, hb2⟩ | ⟨rfl, _⟩
        · exact ⟨he, hb2⟩
        · have := (hpb.1 ha).2 hok
          cases this
    obtain ⟨i, hi, htk, hix⟩ := first_place s hs
    have hpos : 0 < s.size := by
      rw [← len_size]
      exact List.length_pos_iff.2 hok.1
    have h0 : gb s 0 ≠ 45 := fun e => hok.2.1 ⟨e, by decide⟩
    have hi0 : 0 < i := by
      have h1 := (hok.2.2 _ (first_mem s.data.toList)).1
      rw [← htk] at h1
      cases i with
      | zero => simp at h1
      | succ i => omega
    cases hd : (idxL [46] (firstL s.data.toList)).isSome with
    | false =>
      have hno : ¬ ModOK s.data.toList := fun h => by have h2 := h.2.1; rw [hd] at h2; cases h2
      rcases hix with hix | ⟨hix, hie⟩
      · exact (mod_dotA F s hs w hF hpos h0 i hi0 hi htk HC hix hd).mono fun e w' h => ⟨false, MB.no fun _ => hno, .inr ⟨rfl, h⟩⟩
      · exact (mod_dotB F s hs w hF hpos h0 i hi0 hi htk HC hix hie hd).mono fun e w' h => ⟨false, MB.no fun _ => hno, .inr ⟨rfl, h⟩⟩
    | true =>
      have fin : ∀ e w', ModQ ((∀ c ∈ firstL s.data.toList, firstI (c.toNat : Int) = true) ∧ (spvI s.data.toList).2.2 = true) w e w' → ModPost w s.data.toList e w' := by
        rintro e w' (⟨hP, h⟩ | ⟨hP, h⟩)
        · exact ⟨true, MB.yes ha ⟨hok, hd, hP.1, hP.2⟩, .inl ⟨rfl, h⟩⟩
        · exact ⟨false, MB.no fun _ hm => hP ⟨hm.2.2.1, hm.2.2.2⟩, .inr ⟨rfl, h⟩⟩
      rcases hix with hix | ⟨hix, hie⟩
      · exact (mod_restA F s hs w hF hpos h0 i hi0 hi htk HC hix hd ha).mono fin
      · exact (mod_restB F s hs w hF hpos h0 i hi0 hi htk HC hix hie hd ha).mono fin
  · have HC : ∀ W, Below w.heap.size w W → Calls Tryf.prog 61 #[.string s, .int .i64 0] W (ErrS W) := fun W hb =>
      (hp W hb).mono fun e w' ⟨b, hpb, hh⟩ => by
        rcases hh with ⟨rfl, he, hb2⟩ | ⟨rfl, h2⟩
        · exfalso
          by_cases ha : asc s.data.toList
          · exact h ⟨ha, (hpb.1 ha).1 rfl⟩
          · have := (hpb.2 ha).1 (by decide)
            cases this
        · exact h2
    exact (mod_bad s w HC).mono fun e w' h2 => ⟨false, MB.no fun ha hm => h ⟨ha, hm.1⟩, .inr ⟨rfl, h2⟩⟩

def MBool (w : World) (l : List UInt8) (e : Ending) (w' : World) : Prop := ∃ b : Bool, MB l b ∧ e = .returned (.bool b) ∧ Below w.heap.size w w'
set_option maxHeartbeats 1600000 in
theorem implPath_any (F : Stop.Interp) (s : ByteArray) (hs : s.size ≤ 1099511627776) (w : World) (hF : F.answers w.tape) (hN : NamesIn w) (hv : ∀ W, Below w.heap.size w W → ValidOK W s) :
    Calls Tryf.prog 29 #[.string s] w (MBool w s.data.toList) := by
  have HP := Lib.hid (modPath_any F s hs w hF hN hv)
  clear hN hv
  go_enter Tryf.func29, Tryf.ntmps29
  go_wp2_with (go_at_call 43; refine HP.out.mono ?_; rintro e w7 ⟨b7, hEB, ⟨rfl, rfl, hb7⟩ | ⟨rfl, g7, b8, t7, rfl, hb7, -, -⟩⟩)
  · go_ret
    exact ⟨true, hEB, rfl, hb7⟩
  · go_ret
    exact ⟨false, hEB, rfl, hb7⟩

end Go.Proofs.YtpbebckhemnooaaFmt.PS
