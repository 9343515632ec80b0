/- perkstopk's stream in memory: New, insert, Insert. Conditions: the stream lies in memory; it has room. -/
import Derived.Test.YthcgojhfbcgaiaaTopP
import Derived.WalkKit
import Derived.WalkLawsBesides
import Derived.Deep.RegionHeld3
import Derived.Deep.RegionLaw
import Derived.StillTailTactics
namespace Go.Proofs.Ythcgojhfbcgaiaa
open Go.RowKit Go.Maps Go.Proofs

theorem lawS : Keyed Try.prog 9 := string_keyed Try.underlying9
theorem zeroP (w : World) : (zeroValue 70).run Try.prog w = .ok (.pointer none) w := by kernel_rfl
theorem ne_ty {w : World} {a b : Nat} {c d : Array Value} {s t : TypeId} (h1 : w.heap[a]? = some (.cells c s)) (h2 : w.heap[b]? = some (.cells d t)) (hst : s ≠ t) : a ≠ b := fun e => by
  subst e; rw [h1] at h2; injection h2 with h2; injection h2 with _ h3; exact hst h3
theorem ne_map {w : World} {a b : Nat} {c : Array Value} {s : TypeId} {k : TypeId} {R : Value → Option (Du × List MemPlace)} {n : Nat} {D : Du} (h1 : w.heap[a]? = some (.cells c s)) (h2 : w.ownsMap Try.prog k R b n D) : b ≠ a := fun e => by
  obtain ⟨es, clock, hb, _⟩ := h2
  subst e; rw [h1] at hb; cases hb
theorem grown_at {w w' : World} {row : Option Nat} (hg : w.grownBy w' row) {b : Nat} {o : Obj} (hb : w.heap[b]? = some o) (hne : some b ≠ row) : w'.heap[b]? = some o := by
  rw [hg.block b (lt_of_at hb) hne]; exact hb
theorem tS_E : (102 : Nat) ≠ 72 := by decide

/-- An element in memory. -/
def ElAt (w : World) (b : Nat) (s : Word) (c : Nat) : Prop := w.heap[b]? = some (.cells #[strV s, .int .i64 c] 72)
abbrev Ent := Word × Nat × Nat
def keysOf (AL : List Ent) : List (Word × Int) := AL.map fun x => (x.1, (x.2.1 : Int))
def words (AL : List Ent) : List Word := AL.map (·.1)
theorem keysOf_words (AL : List Ent) : (keysOf AL).map (·.1) = words AL := by simp [keysOf, words]
/-- A stream: t its head, M its map, Z the element of the least count, AL its entries: word, block, count. -/
structure Str (w : World) (base t M Z k n : Nat) (D : Du) (AL : List Ent) : Prop where
  ht : w.heap[t]? = some (.cells #[.int .i64 k, .map (some M), .pointer (some ⟨Z, 0, none⟩)] 102)
  own : w.ownsMap Try.prog 9 ptrElem M n D
  mp : Mp D (keysOf AL)
  el : ∀ x ∈ AL, ElAt w x.2.1 x.1 x.2.2
  hz : ElAt w Z [] 0
  pos : ∀ x ∈ AL, 1 ≤ x.2.2
  lt : base ≤ t ∧ base ≤ M ∧ base ≤ Z ∧ ∀ x ∈ AL, base ≤ x.2.1
  sz : base ≤ w.heap.size
theorem ElAt.inj {w : World} {b : Nat} {s s' : Word} {c c' : Nat} (h : ElAt w b s c) (h' : ElAt w b s' c') : s = s' ∧ c = c' := by
  unfold ElAt at h h'; rw [h] at h'
  simp [strV] at h'
  exact ⟨h'.1, by omega⟩
section
variable {w : World} {base t M Z k n : Nat} {D : Du} {AL : List Ent}
theorem Str.drewN (h : Str w base t M Z k n D AL) (d : Nat) : Str (w.drewN d) base t M Z k n D AL := ⟨h.ht, h.own, h.mp, h.el, h.hz, h.pos, h.lt, h.sz⟩
theorem Str.alloc (h : Str w base t M Z k n D AL) (o : Obj) : Str (w.alloc o) base t M Z k n D AL :=
  ⟨at_alloc _ h.ht, h.own.alloc o, h.mp, fun x hx => at_alloc _ (h.el x hx), at_alloc _ h.hz, h.pos, h.lt, by simp; have := h.sz; omega⟩
theorem keyS {s : Word} (hs : s.length ≤ maxLen) : keyOf Try.prog 9 (strV s) = some (.string s) := by
  have := WideMaps.keyOf_string_mk (P := Try.prog) Try.underlying9 (s := ⟨s.toArray⟩) (by show s.toArray.size ≤ maxLen; simpa using hs)
  unfold strV; simpa using this
theorem Str.look (h : Str w base t M Z k n D AL) {s : Word} (hs : s.length ≤ maxLen) (j : Nat) :
    (∀ b c, (s, b, c) ∈ AL → (Instr.lookup 100 (.map (some M)) (strV s) false).run Try.prog (w.drewN j) = .ok (.pointer (some ⟨b, 0, none⟩)) (w.drewN j)) ∧
    (s ∉ words AL → (Instr.lookup 100 (.map (some M)) (strV s) false).run Try.prog (w.drewN j) = .ok (.pointer none) (w.drewN j)) := by
  obtain ⟨v, ps, hrun, hv⟩ := (h.drewN j).own.lookup (key := strV s) lawS Try.underlying100 (zeroP _) ptrElem_nil (keyS hs)
  refine ⟨fun b c hb => ?_, fun hn => ?_⟩
  · rw [hrun, ptrElem_at (v := v) (b := b) (ps := ps) (by rw [hv, h.mp.val (s, (b : Int)) (List.mem_map.2 ⟨_, hb, rfl⟩)])]
  · rw [hrun, ptrElem_none (v := v) (ps := ps) (by rw [hv, h.mp.none (by rw [keysOf_words]; exact hn)])]
theorem Str.len (h : Str w base t M Z k n D AL) (ty : TypeId) (j : Nat) : (Builtin.len_ #[100] ty #[.map (some M)]).run Try.prog (w.drewN j) = .ok (.int .i64 AL.length) (w.drewN j) := by
  rw [(h.drewN j).own.len Try.underlying100 ty, h.mp.size]; simp [keysOf]
/-- One more of a word that is there. -/
def bumpAt (AL : List Ent) (s : Word) : List Ent := AL.map fun x => if x.1 = s then (x.1, x.2.1, x.2.2 + 1) else x
theorem keysOf_bump (AL : List Ent) (s : Word) : keysOf (bumpAt AL s) = keysOf AL := by
  unfold keysOf bumpAt; rw [List.map_map]
  refine List.map_congr_left fun x _ => ?_
  simp only [Function.comp]; split <;> rfl
theorem Str.one (h : Str w base t M Z k n D AL) {s : Word} {b c b' c' : Nat} (h1 : (s, b, c) ∈ AL) (h2 : (s, b', c') ∈ AL) : b = b' ∧ c = c' := by
  have e1 := h.mp.val (s, (b : Int)) (List.mem_map.2 ⟨_, h1, rfl⟩) dz
  have e2 := h.mp.val (s, (b' : Int)) (List.mem_map.2 ⟨_, h2, rfl⟩) dz
  rw [e1] at e2
  have e3 : b = b' := by injection e2 with e2; injection e2 with _ e2; simp at e2; omega
  subst e3
  have e4 : ElAt w b s c := h.el _ h1
  have e5 : ElAt w b s c' := h.el (s, b, c') h2
  exact ⟨rfl, (e4.inj e5).2⟩
theorem Str.bump (h : Str w base t M Z k n D AL) {s : Word} {b c : Nat} (h1 : (s, b, c) ∈ AL) : Str (w.setCell ⟨b, 1, none⟩ (.int .i64 ((c : Int) + 1))) base t M Z k n D (bumpAt AL s) := by
  have hb := h.el _ h1
  have hc := h.pos _ h1
  refine ⟨at_set_other _ (by exact (ne_ty h.ht hb tS_E).symm) h.ht, h.own.setCell (by exact ne_map hb h.own) _, by rw [keysOf_bump]; exact h.mp, ?_, at_set_other _ (fun e => ?_) h.hz, ?_, ⟨h.lt.1, h.lt.2.1, h.lt.2.2.1, ?_⟩, by simp [World.setCell]; exact h.sz⟩
  · intro x hx
    obtain ⟨y, hy, rfl⟩ := List.mem_map.1 hx
    by_cases e : y.1 = s
    · rw [if_pos e]
      obtain ⟨ys, yb, yc⟩ := y
      simp at e; subst e
      obtain ⟨rfl, rfl⟩ := h.one h1 hy
      have := at_set hb 1 (.int .i64 ((c : Int) + 1))
      unfold ElAt; simpa using this
    · rw [if_neg e]
      refine at_set_other _ (fun e' => e ?_) (h.el _ hy)
      have h3 := h.el _ hy
      have e' : b = y.2.1 := e'
      rw [← e'] at h3
      exact (ElAt.inj h3 hb).1
  · have h3 := h.hz
    have e : b = Z := e
    rw [← e] at h3
    have := (ElAt.inj h3 hb).2
    simp at this; simp at hc; omega
  · intro x hx
    obtain ⟨y, hy, rfl⟩ := List.mem_map.1 hx
    have := h.pos _ hy
    by_cases e : y.1 = s
    · rw [if_pos e]; show 1 ≤ y.2.2 + 1; omega
    · rw [if_neg e]; exact this
  · intro x hx
    obtain ⟨y, hy, rfl⟩ := List.mem_map.1 hx
    have := h.lt.2.2.2 _ hy
    by_cases e : y.1 = s
    · rw [if_pos e]; exact this
    · rw [if_neg e]; exact this
/-- A word that is new. -/
theorem Str.add (h : Str w base t M Z k n D AL) {s : Word} {b : Nat} (hs : s ∉ words AL) (hb : ElAt w b s 1) (hbb : base ≤ b) {w' : World} (ho : w'.ownsMap Try.prog 9 ptrElem M (n + 1) (D.put (.string s) (.lit (.int .i64 (b : Int))))) (hg : w.grownBy w' (some M)) :
    Str w' base t M Z k (n + 1) (D.put (.string s) (.lit (.int .i64 (b : Int)))) (AL ++ [(s, b, 1)]) := by
  have nm : ∀ {a : Nat} {c : Array Value} {tt : TypeId}, w.heap[a]? = some (.cells c tt) → some a ≠ some M := fun ha e => ne_map ha h.own (by injection e with e; exact e.symm)
  refine ⟨grown_at hg h.ht (nm h.ht), ho, ?_, ?_, grown_at hg h.hz (nm h.hz), ?_, ⟨h.lt.1, h.lt.2.1, h.lt.2.2.1, ?_⟩, by have := h.sz; have := hg.size; omega⟩
  · have := h.mp.put (h.own.tidy lawS) (s := s) (by rw [keysOf_words]; exact hs) (b : Int)
    simpa [keysOf] using this
  · intro x hx
    rcases List.mem_append.1 hx with hx | hx
    · exact grown_at hg (h.el _ hx) (nm (h.el _ hx))
    · simp at hx; subst hx; exact grown_at hg hb (nm hb)
  · intro x hx
    rcases List.mem_append.1 hx with hx | hx
    · exact h.pos _ hx
    · simp at hx; subst hx; exact Nat.le_refl 1
  · intro x hx
    rcases List.mem_append.1 hx with hx | hx
    · exact h.lt.2.2.2 _ hx
    · simp at hx; subst hx; exact hbb
end

theorem drew_alloc (w : World) (m : Nat) (o : Obj) : ((w.drewN m).alloc o).drew = (w.alloc o).drewN (m + 1) := rfl
theorem drewN_set (w : World) (d : Nat) (a : Addr) (v : Value) : (w.drewN d).setCell a v = (w.setCell a v).drewN d := rfl

set_option maxRecDepth 100000 in
theorem insert_old {w : World} {base t M Z k n p : Nat} {D : Du} {AL : List Ent} {s : Word} {b c : Nat} (h : Str w base t M Z k n D AL) (hs : s.length ≤ maxLen) (hp : ElAt w p s 1) (h1 : (s, b, c) ∈ AL) (hc : c ≤ 1000) :
    Calls Try.prog 53 #[.pointer (some ⟨t, 0, none⟩), .pointer (some ⟨p, 0, none⟩)] w fun e w' => e = .returned (.tuple #[]) ∧ ∃ d, w' = (w.setCell ⟨b, 1, none⟩ (.int .i64 ((c : Int) + 1))).drewN d := by
  have hl := fun j => (h.look hs j).1 b c h1
  have hb := h.el _ h1
  have h2 := h.bump h1
  have x1 := cell_of hb (i := 1) rfl
  have f1 := free_of hb (i := 1)
  have t1 := cell_of h.ht (i := 1) rfl
  have p0 := cell_of hp (i := 0) rfl
  obtain ⟨wA, hwA⟩ : ∃ wA : World, wA = w.setCell ⟨b, 1, none⟩ (.int .i64 ((c : Int) + 1)) := ⟨_, rfl⟩
  have k1 : wA.cell? ⟨b, 1, none⟩ = some (.int .i64 ((c : Int) + 1)) := by rw [hwA]; exact cell_of (at_set hb 1 _) rfl
  have k2 : wA.cell? ⟨t, 2, none⟩ = some (.pointer (some ⟨Z, 0, none⟩)) := by rw [hwA]; exact cell_of h2.ht rfl
  have k3 : wA.cell? ⟨Z, 1, none⟩ = some (.int .i64 0) := by rw [hwA]; exact cell_of h2.hz rfl
  have hci : (c : Int) ≤ 1000 := by omega
  have HwA := Lib.hid hwA
  clear h h1 h2 hb hp hs hc hwA
  go_enter Try.func53, Try.ntmps53
  go_wp2_with fail
  go_quiet (fail)
  go_wp2_with fail
  rw [drewN_set, ← HwA.out]
  go_quiet (fail)
  go_wp2_with fail
  go_end0
  exact ⟨rfl, _, by rw [← HwA.out, World.drewN_drewN]⟩

set_option maxRecDepth 100000 in
theorem insert_new {w w0 : World} {base t M Z k n p : Nat} {D : Du} {AL : List Ent} {s : Word} (h : Str w base t M Z k n D AL) (hB : RowKit.Below base w0 w) (hs : s.length ≤ maxLen) (hp : ElAt w p s 1) (h1 : s ∉ words AL) (hk : AL.length ≤ k) (hk8 : k ≤ 1000) (hn : n ≤ 1000) :
    Calls Try.prog 53 #[.pointer (some ⟨t, 0, none⟩), .pointer (some ⟨p, 0, none⟩)] w fun e w' => e = .returned (.tuple #[]) ∧ Hid (∃ D' b, Str w' base t M Z k (n + 1) D' (AL ++ [(s, b, 1)]) ∧ RowKit.Below base w0 w') := by
  have hl := fun j => (h.look hs j).2 h1
  have t0 := cell_of h.ht (i := 0) rfl
  have t1 := cell_of h.ht (i := 1) rfl
  have p0 := cell_of hp (i := 0) rfl
  have p1 := cell_of hp (i := 1) rfl
  obtain ⟨O, hO⟩ : ∃ O : Obj, O = .cells #[strV s, .int .i64 1] 72 := ⟨_, rfl⟩
  have hln := h.len
  have hA := h.alloc O
  have eA : ElAt (w.alloc O) w.heap.size s 1 := by unfold ElAt; rw [hO]; exact hp_at _ _ _ rfl
  have hBA := hB.alloc h.sz O
  have hki : (AL.length : Int) < (k : Int) + 1 := by omega
  have hk8i : (k : Int) ≤ 1000 := by omega
  have Hn := Lib.hid hn
  have u1 := cell_of hA.ht (i := 1) rfl
  have q0 := cell_of (at_alloc O hp) (i := 0) rfl
  have hkey := keyS hs
  have hpm := ptrElem_mk w.heap.size
  obtain ⟨wA, hwA⟩ : ∃ wA : World, wA = w.alloc O := ⟨_, rfl⟩
  have hown : Hid (∀ j, (wA.drewN j).ownsMap Try.prog 9 ptrElem M n D) := Lib.hid fun j => by rw [hwA]; exact hA.own
  rw [← hwA] at u1 q0
  have Hyp : Hid (∀ j w', w'.ownsMap Try.prog 9 ptrElem M (n + 1) (D.put (.string s) (.lit (.int .i64 (w.heap.size : Int)))) → (wA.drewN j).grownBy w' (some M) →
      w'.cell? ⟨w.heap.size, 1, none⟩ = some (.int .i64 1) ∧ w'.cell? ⟨t, 2, none⟩ = some (.pointer (some ⟨Z, 0, none⟩)) ∧ w'.cell? ⟨Z, 1, none⟩ = some (.int .i64 0) ∧ Hid (∀ d, Str (w'.drewN d) base t M Z k (n + 1) (D.put (.string s) (.lit (.int .i64 (w.heap.size : Int)))) (AL ++ [(s, w.heap.size, 1)]) ∧ RowKit.Below base w0 (w'.drewN d))) := Lib.hid fun j w' ho hg => by
    rw [hwA] at hg
    have a1 := (hA.drewN j).add h1 (b := w.heap.size) eA h.sz ho hg
    refine ⟨cell_of (a1.el (s, w.heap.size, 1) (by simp)) rfl, cell_of a1.ht rfl, cell_of a1.hz rfl, Lib.hid fun d => ⟨a1.drewN d, below_drewN ((below_drewN hBA j).grown hg (by have := hA.sz; exact this) fun q hq => ?_) d⟩⟩
    cases hq; exact h.lt.2.1
  have HwA := Lib.hid hwA
  clear h hB hs hp h1 hk hk8 hn hA eA hBA hwA
  subst hO
  go_enter Try.func53, Try.ntmps53
  go_wp2_with fail
  go_quiet (fail)
  go_wp2_with fail
  go_quiet (fail)
  go_wp2_with fail
  rw [World.drewN_drewN]
  generalize hwE : w.drewN _ = wE
  have y0 : wE.cell? ⟨p, 0, none⟩ = some (strV s) := by rw [← hwE]; exact p0
  have y1 : wE.cell? ⟨p, 1, none⟩ = some (.int .i64 1) := by rw [← hwE]; exact p1
  have y2 : wE.heap.size = w.heap.size := by rw [← hwE]; rfl
  have y3 : Hid (∃ j, (wE.alloc (.cells #[strV s, .int .i64 1] 72)).drew = wA.drewN j) := Lib.hid ⟨_, by rw [← hwE, HwA.out, drew_alloc]⟩
  clear hwE p0 p1 t0 t1 hl hln
  go_still_tail 9, (by kernel_rfl)
  change wpList _ _ _ _ _ wE.drew
  go_wp2_with fail
  obtain ⟨j, hj⟩ := y3.out
  rw [hj]
  generalize hwF : wA.drewN j = wF
  have z0 : wF.cell? ⟨p, 0, none⟩ = some (strV s) := by rw [← hwF]; exact q0
  have z1 : wF.cell? ⟨t, 1, none⟩ = some (.map (some M)) := by rw [← hwF]; exact u1
  have hownF : Hid (wF.drew.ownsMap Try.prog 9 ptrElem M n D) := Lib.hid (by rw [← hwF]; exact hown.out (j + 1))
  have HypF : Hid (∀ w', w'.ownsMap Try.prog 9 ptrElem M (n + 1) (D.put (.string s) (.lit (.int .i64 (w.heap.size : Int)))) → wF.drew.grownBy w' (some M) → _) := Lib.hid fun w' ho hg => Hyp.out (j + 1) w' ho (by rw [← hwF] at hg; exact hg)
  clear hwF hj y3 y0 y1 y2 q0 u1 Hyp hown HwA
  go_still_tail 9, (by kernel_rfl)
  change wpList _ _ _ _ _ wF.drew
  go_wp2_with (first | (at_mapUpdate; refine wpList_mapUpdate_own _ rfl _ _ _ 100 rfl 9 70 lawS Try.underlying100 _ M n _ rfl hownF.out (by have := Hn.out; unfold maxLen; omega) _ _ _ rfl rfl hkey _ [] hpm ?_; intro w1 ho hg; obtain ⟨v1, v2, v3, v4⟩ := HypF.out w1 ho hg; clear ho hg) | fail)
  go_quiet (fail)
  go_wp2_with fail
  go_end0
  exact ⟨rfl, Lib.hid ⟨_, _, v4.out _⟩⟩
end Go.Proofs.Ythcgojhfbcgaiaa
