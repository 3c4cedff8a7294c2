/-
  Appending to a slice of the call's own, whatever the source is (nil too); two lists that are drawn side by side. Conditions: as the laws on append have them.
-/
import Derived.Test.YtljgipokaocgeaaOr
import Derived.OwnWalk
import Derived.BigFrame
import Derived.Deep.RegionHeld3
namespace Go.Proofs.Ytljgipokaocgeaa.Dr
open Go.ChangeShapes Go.WideShapes Go.ChangeAt Go.RowKit

theorem Src.of_own {w : World} {base : Nat} {e : TypeId} {size : Nat} {v : Value} {n : Nat} {us : List Value} (h : w.ownsRow base e size v n us) : ∃ A c, v = .slice A n c ∧ Src w A n size us ∧ ∀ ad, A = some ad → ad.block < w.heap.size := by
  rcases h.2 with ⟨rfl, rfl⟩ | ⟨g, cap, cur, rfl, _, _, _⟩
  · exact ⟨none, 0, rfl, ⟨h.1, fun h => by omega⟩, fun _ h => by cases h⟩
  · exact ⟨some ⟨g, 0, none⟩, cap, rfl, ⟨h.1, fun _ => ⟨_, rfl, h.cells (g := g) rfl⟩⟩, fun ad e => by injection e with e; subst e; exact (h.lt g rfl).2⟩

section
variable {P : Program} (w : World)
theorem run_app (base : Nat) (t ty e : TypeId) (i : TypeInfo) (z : Value) (size bytes : Nat) (ht : P.underlying t = some (.slice e)) (hi : P.info? e = some i) (hz : i.zero = some z)
    (hsize : i.size = size) (hby : i.bytes = bytes) (hzs : z.cells.size = size) (hsz : 0 < size) (v : Value) (n : Nat) (xs : List Value) (hown : w.ownsRow base e size v n xs)
    (A : Option Addr) (m c : Nat) (us : List Value) (hA : A = none → c = 0) (hr : Src w A m size us) (h1 : ∀ u ∈ us, u.oneCell' = true) (h63 : n + m ≤ maxLen) (hbytes : (n + m) * bytes ≤ 140737488355328) (hbase : base ≤ w.heap.size) :
    ∃ v' w', (Builtin.append_ #[t, t] ty #[v, .slice A m c]).run P w = .ok v' w' ∧ w'.ownsRow base e size v' (n + m) (xs ++ us) ∧ w.grownBy w' v.ownBlock ∧ (v'.ownBlock = v.ownBlock ∨ v'.ownBlock = some w.heap.size) := by
  obtain ⟨hl, hc⟩ := hr
  cases A with
  | none =>
    have hm : m = 0 := by
      rcases Nat.eq_zero_or_pos m with h | h
      · exact h
      · obtain ⟨_, e, _⟩ := hc h
        cases e
    subst hm
    have hu : us = [] := List.eq_nil_of_length_eq_zero (by simpa using hl)
    subst hu
    rw [hA rfl]
    exact ⟨v, w, run_append_owned_none w base t ty e i size ht hi v n xs hown, by simpa using hown, World.grownBy.refl w _, .inl rfl⟩
  | some ad =>
    have hcells : ∀ j u, us[j]? = some u → w.cell? (ad.add j) = some u := by
      intro j u hu
      rcases Nat.eq_zero_or_pos m with h | h
      · subst h
        have hu0 : us = [] := List.eq_nil_of_length_eq_zero (by simpa using hl)
        subst hu0
        simp at hu
      · obtain ⟨ad', e, hcell⟩ := hc h
        injection e with e
        subst e
        exact hcell j u hu
    obtain ⟨v', w', hrun, h2, h3, _, h5⟩ := run_append_own_at (P := P) w base t ty e i z size bytes ht hi hz hsize hby hzs hsz v n xs hown ad m c us hl hcells h1 h63 hbytes hbase
    exact ⟨v', w', hrun, h2, h3, h5⟩

theorem wpList_app {ops : Array Oper} {rest : List Oper} {o : Oper} {a : Act} {Q : Exit → Act → World → Prop} (hw : Region.wanted o (yielded ops a.tmps) = true) (s x : Operand) (t : TypeId)
    (ho : o.op = .call { callee := .builtin .append, args := #[s, x], argTypes := #[t, t] })
    (base : Nat) (e : TypeId) (i : TypeInfo) (z : Value) (size bytes : Nat) (ht : P.underlying t = some (.slice e)) (hi : P.info? e = some i) (hz : i.zero = some z)
    (hsize : i.size = size) (hby : i.bytes = bytes) (hzs : z.cells.size = size) (hsz : 0 < size) (v : Value) (n : Nat) (xs : List Value) (hs : a.eval s = v) (hown : w.ownsRow base e size v n xs)
    (A : Option Addr) (m c : Nat) (us : List Value) (hx : a.eval x = .slice A m c) (hA : A = none → c = 0) (hr : Src w A m size us) (h1 : ∀ u ∈ us, u.oneCell' = true) (h63 : n + m ≤ maxLen) (hbytes : (n + m) * bytes ≤ 140737488355328) (hbase : base ≤ w.heap.size)
    (h : ∀ v' w', w'.ownsRow base e size v' (n + m) (xs ++ us) → w.grownBy w' v.ownBlock → (v'.ownBlock = v.ownBlock ∨ v'.ownBlock = some w.heap.size) → wpList P ops Q rest (a.put o.dst v') w') : wpList P ops Q (o :: rest) a w := by
  refine BigFrame.wpList_want hw fun K hK => ?_
  obtain ⟨v', w', hrun, h2, h3, h4⟩ := run_app (P := P) w base t o.type e i z size bytes ht hi hz hsize hby hzs hsz v n xs hown A m c us hA hr h1 h63 hbytes hbase
  unfold Oper.wp execOp
  simp only [ho, resolve, invoke, builtin, Sem.run_bind, Sem.run_pure, Result.andThen_ok, List.map_toArray, List.map_cons, List.map_nil, hs, hx, hrun]
  exact hK _ _ (h v' w' h2 h3 h4)
end

/-- Two lists side by side: one is set anew. -/
def upd {α : Type} (f : Nat → α) (k : Nat) (x : α) : Nat → α := fun i => if i = k then x else f i

/-- The reader in block 'w.heap.size', the two drawn slices in the one behind it, their rows behind that. -/
structure OrSt (w wr : World) (A : Option Addr) (len cap q : Nat) (f : Nat → Value) (L : Nat → List Int) : Prop where
  st : St w wr w.heap.size A len cap q
  arr : Blk wr (w.heap.size + 1) 42 #[f 0, f 1]
  own0 : wr.ownsRow (w.heap.size + 2) 3 1 (f 0) (L 0).length ((L 0).map (Value.int .i64))
  own1 : wr.ownsRow (w.heap.size + 2) 3 1 (f 1) (L 1).length ((L 1).map (Value.int .i64))
  ap : (f 0).ownBlock = none ∨ (f 1).ownBlock = none ∨ (f 0).ownBlock ≠ (f 1).ownBlock
  ok0 : ∀ x ∈ L 0, ((Lit.int .i64 x).wf = true)
  ok1 : ∀ x ∈ L 1, ((Lit.int .i64 x).wf = true)

section
variable {w wr w' : World} {A : Option Addr} {len cap q q' : Nat} {f : Nat → Value} {L : Nat → List Int}
theorem OrSt.own (h : OrSt w wr A len cap q f L) {k : Nat} (hk : k < 2) : wr.ownsRow (w.heap.size + 2) 3 1 (f k) (L k).length ((L k).map (Value.int .i64)) := by
  rcases (by omega : k = 0 ∨ k = 1) with rfl | rfl
  · exact h.own0
  · exact h.own1
theorem OrSt.cell (h : OrSt w wr A len cap q f L) {k : Nat} (hk : k < 2) : wr.cell? ⟨w.heap.size + 1, k, none⟩ = some (f k) := by
  rw [h.arr.cell k]
  rcases (by omega : k = 0 ∨ k = 1) with rfl | rfl <;> rfl
theorem OrSt.frozen (h : OrSt w wr A len cap q f L) (k : Nat) : wr.frozen? ⟨w.heap.size + 1, k, none⟩ = false := h.arr.frozen k
/-- Behind a call that turns the reader alone. -/
theorem OrSt.read (h : OrSt w wr A len cap q f L) (hg : wr.grownBy w' (some w.heap.size)) (S : St w w' w.heap.size A len cap q') : OrSt w w' A len cap q' f L := by
  have hne : ∀ v : Value, ∀ n us, wr.ownsRow (w.heap.size + 2) 3 1 v n us → v.ownBlock = none ∨ v.ownBlock ≠ some w.heap.size := fun v n us ho => by
    cases hv : v.ownBlock with
    | none => exact .inl rfl
    | some b => exact .inr (fun e => by injection e with e; have := (ho.lt b hv).1; omega)
  exact ⟨S, h.arr.grown hg (fun e => by injection e with e; omega), h.own0.kept hg (hne _ _ _ h.own0), h.own1.kept hg (hne _ _ _ h.own1), h.ap, h.ok0, h.ok1⟩
theorem OrSt.alloc (h : OrSt w wr A len cap q f L) (o : Obj) : OrSt w (wr.alloc o) A len cap q f L :=
  ⟨h.st.alloc o, h.arr.alloc o, h.own0.alloc o, h.own1.alloc o, h.ap, h.ok0, h.ok1⟩
theorem OrSt.drewN (h : OrSt w wr A len cap q f L) (n : Nat) : OrSt w (wr.drewN n) A len cap q f L :=
  ⟨h.st.drewN n, h.arr, h.own0, h.own1, h.ap, h.ok0, h.ok1⟩
theorem OrSt.drew (h : OrSt w wr A len cap q f L) : OrSt w wr.drew A len cap q f L := h.drewN 1
theorem OrSt.size (h : OrSt w wr A len cap q f L) : w.heap.size + 2 ≤ wr.heap.size := h.arr.lt

/-- The place of list k, behind an append to it. -/
theorem OrSt.slot (h : OrSt w wr A len cap q f L) {k : Nat} (hk : k < 2) (hg : wr.grownBy w' (f k).ownBlock) : w'.cell? ⟨w.heap.size + 1, k, none⟩ = some (f k) ∧ w'.frozen? ⟨w.heap.size + 1, k, none⟩ = false := by
  have hlt : ∀ b, (f k).ownBlock = some b → w.heap.size + 2 ≤ b ∧ b < wr.heap.size := fun b hb => (h.own hk).lt b hb
  have hA : Blk w' (w.heap.size + 1) 42 #[f 0, f 1] := h.arr.grown hg (fun e => by have := hlt _ e.symm; omega)
  refine ⟨?_, hA.frozen k⟩
  rw [hA.cell k]
  rcases (by omega : k = 0 ∨ k = 1) with rfl | rfl <;> rfl

/-- Behind an append to list k and the store of what it gave. -/
theorem OrSt.app (h : OrSt w wr A len cap q f L) {k : Nat} (hk : k < 2) (x : Int) (hx : ((Lit.int .i64 x).wf = true)) {gg c : Nat}
    (hown : w'.ownsRow (w.heap.size + 2) 3 1 (.slice (some ⟨gg, 0, none⟩) ((L k).length + 1) c) ((L k).length + 1) ((L k).map (Value.int .i64) ++ [Value.int .i64 x])) (hg : wr.grownBy w' (f k).ownBlock) (hat : (f k).ownBlock = some gg ∨ gg = wr.heap.size) :
    OrSt w (w'.setCell ⟨w.heap.size + 1, k, none⟩ (.slice (some ⟨gg, 0, none⟩) ((L k).length + 1) c)) A len cap q (upd f k (.slice (some ⟨gg, 0, none⟩) ((L k).length + 1) c)) (upd L k (L k ++ [x])) := by
  have hsz := h.size
  have hlt : ∀ b, (f k).ownBlock = some b → w.heap.size + 2 ≤ b ∧ b < wr.heap.size := fun b hb => (h.own hk).lt b hb
  have hS : St w w' w.heap.size A len cap q :=
    ⟨h.st.below.grown hg h.st.below.size (fun b hb => by have := hlt b hb; omega), Nat.le_refl _, h.st.blk.grown hg (fun e => by have := hlt _ e.symm; omega), h.st.bytes, h.st.len⟩
  have hS2 : St w (w'.setCell ⟨w.heap.size + 1, k, none⟩ (.slice (some ⟨gg, 0, none⟩) ((L k).length + 1) c)) w.heap.size A len cap q :=
    ⟨hS.below.setCell (p := ⟨w.heap.size + 1, k, none⟩) (Nat.le_succ _) _, Nat.le_refl _, (Below.heap_setCell w' ⟨w.heap.size + 1, k, none⟩ _ w.heap.size (by simp)).trans hS.blk, hS.bytes, hS.len⟩
  have hA : Blk w' (w.heap.size + 1) 42 #[f 0, f 1] := h.arr.grown hg (fun e => by have := hlt _ e.symm; omega)
  have hA2 := hA.set k (.slice (some ⟨gg, 0, none⟩) ((L k).length + 1) c)
  have keep : ∀ v n us, wr.ownsRow (w.heap.size + 2) 3 1 v n us → (v.ownBlock = none ∨ v.ownBlock ≠ (f k).ownBlock) → (w'.setCell ⟨w.heap.size + 1, k, none⟩ (.slice (some ⟨gg, 0, none⟩) ((L k).length + 1) c)).ownsRow (w.heap.size + 2) 3 1 v n us := fun v n us ho hne =>
    ownsRow_setCell_below (ho.kept hg hne) (Nat.lt_succ_self _) _
  have mine := ownsRow_setCell_below hown (a := ⟨w.heap.size + 1, k, none⟩) (Nat.lt_succ_self _) (.slice (some ⟨gg, 0, none⟩) ((L k).length + 1) c)
  have e1 : ((L k) ++ [x]).length = (L k).length + 1 := by simp
  have e2 : ((L k) ++ [x]).map (Value.int .i64) = (L k).map (Value.int .i64) ++ [Value.int .i64 x] := by simp
  have hb : Value.ownBlock (.slice (some ⟨gg, 0, none⟩) ((L k).length + 1) c) = some gg := rfl
  rcases (by omega : k = 0 ∨ k = 1) with rfl | rfl
  · have hne1 : (f 1).ownBlock = none ∨ (f 1).ownBlock ≠ (f 0).ownBlock := by
      rcases h.ap with e | e | e
      · cases hv : (f 1).ownBlock with
        | none => exact .inl rfl
        | some b => exact .inr (by rw [e]; simp)
      · exact .inl e
      · exact .inr (Ne.symm e)
    refine ⟨hS2, hA2, ?_, keep _ _ _ h.own1 hne1, ?_, ?_, h.ok1⟩
    · show World.ownsRow _ _ _ _ _ ((L 0) ++ [x]).length (((L 0) ++ [x]).map (Value.int .i64))
      rw [e1, e2]; exact mine
    · show Value.ownBlock (.slice (some ⟨gg, 0, none⟩) ((L 0).length + 1) c) = none ∨ (f 1).ownBlock = none ∨ Value.ownBlock (.slice (some ⟨gg, 0, none⟩) ((L 0).length + 1) c) ≠ (f 1).ownBlock
      rw [hb]
      cases hv : (f 1).ownBlock with
      | none => exact .inr (.inl rfl)
      | some b =>
        refine .inr (.inr (fun e => ?_))
        injection e with e
        subst e
        rcases hat with e | e
        · rw [hv, e] at hne1
          rcases hne1 with h | h
          · cases h
          · exact h rfl
        · have := (h.own1.lt _ hv).2
          omega
    · intro y hy
      rcases List.mem_append.1 hy with hy | hy
      · exact h.ok0 y hy
      · rw [List.mem_singleton.1 hy]; exact hx
  · have hne0 : (f 0).ownBlock = none ∨ (f 0).ownBlock ≠ (f 1).ownBlock := by
      rcases h.ap with e | e | e
      · exact .inl e
      · cases hv : (f 0).ownBlock with
        | none => exact .inl rfl
        | some b => exact .inr (by rw [e]; simp)
      · exact .inr e
    refine ⟨hS2, hA2, keep _ _ _ h.own0 hne0, ?_, ?_, h.ok0, ?_⟩
    · show World.ownsRow _ _ _ _ _ ((L 1) ++ [x]).length (((L 1) ++ [x]).map (Value.int .i64))
      rw [e1, e2]; exact mine
    · show (f 0).ownBlock = none ∨ Value.ownBlock (.slice (some ⟨gg, 0, none⟩) ((L 1).length + 1) c) = none ∨ (f 0).ownBlock ≠ Value.ownBlock (.slice (some ⟨gg, 0, none⟩) ((L 1).length + 1) c)
      rw [hb]
      cases hv : (f 0).ownBlock with
      | none => exact .inl rfl
      | some b =>
        refine .inr (.inr (fun e => ?_))
        injection e with e
        subst e
        rcases hat with e | e
        · rw [hv, e] at hne0
          rcases hne0 with h | h
          · cases h
          · exact h rfl
        · have := (h.own0.lt _ hv).2
          omega
    · intro y hy
      rcases List.mem_append.1 hy with hy | hy
      · exact h.ok1 y hy
      · rw [List.mem_singleton.1 hy]; exact hx
end

theorem OrSt.start (w : World) (A : Option Addr) (len cap : Nat) (hb : Bytes w A len) (hl : len ≤ 1048576) :
    OrSt w ((w.alloc (.cells #[.slice A len cap, .int .i64 0] 41)).alloc (.cells #[.slice none 0 0, .slice none 0 0] 42)) A len cap 0 (fun _ => .slice none 0 0) (fun _ => []) := by
  have hz : (w.alloc (.cells #[.slice A len cap, .int .i64 0] 41)).heap.size = w.heap.size + 1 := by simp
  have hB := Blk.new (w.alloc (.cells #[.slice A len cap, .int .i64 0] 41)) 42 #[.slice none 0 0, .slice none 0 0]
  rw [hz] at hB
  exact ⟨(St.mk0 w A len cap hb hl).alloc _, hB, World.ownsRow_nil _ _ _ _, World.ownsRow_nil _ _ _ _, .inl rfl, by simp, by simp⟩

theorem upd_sum (L : Nat → List Int) {k : Nat} (hk : k < 2) (x : Int) : (upd L k (L k ++ [x]) 0).length + (upd L k (L k ++ [x]) 1).length = (L 0).length + (L 1).length + 1 := by
  rcases (by omega : k = 0 ∨ k = 1) with rfl | rfl <;> simp [upd] <;> omega
theorem le_sum (L : Nat → List Int) {k : Nat} (hk : k < 2) : (L k).length ≤ (L 0).length + (L 1).length := by
  rcases (by omega : k = 0 ∨ k = 1) with rfl | rfl <;> omega
end Go.Proofs.Ytljgipokaocgeaa.Dr
