import PyProof.Rows.All
import Wide.All
import OpenK.AllK
import Wide.FinOn
import PySem.Challenge.RW_kt0010_01
set_option Elab.async false
set_option rowWalk.seconds 0
set_option maxHeartbeats 0
set_option compiler.extract_closed false
set_option linter.all false
/- Hd -/
section
open PySem PySem.W PyProof.Rows
set_option Elab.async false
namespace Mine
theorem left_booted {p q : Program} {loose : List Str} {Xt : Shared → Bool} {α : Type} {Yf : Shared → α} {Ya : World → α} {N : Nat}
    (e : opening p = plainProg p.main.scope.names) (hN : Nat.ble 600 N = true) (f : ∀ s, fenceModules? p s = some s)
    (h : ∀ (w : World) (os : OsState), (topFrom treeTable p w N ⟨boot_heap w.params, Array.mk [], boot_drawn, boot_toks, os⟩).map (fun s => (openSeen q loose (importedModules p.main.body) Xt true s, Yf s)) = some (openGood q loose, Ya w)) :
    LeftO p q loose Xt Yf Ya N := fun w => by
  obtain ⟨⟨hh, gs, d, k, os⟩, e1, e2⟩ := Option.map_eq_some_iff.mp (boot_open e hN f w)
  obtain ⟨rfl, rfl, rfl, rfl⟩ : hh = boot_heap w.params ∧ gs = Array.mk [] ∧ d = boot_drawn ∧ k = boot_toks := by simpa using e2
  unfold openEnds
  rw [e1]
  exact h w os
set_option hygiene false in
local macro_rules | `(tactic| o_head ($H)) => `(tactic| (refine' And.right (a := _) (And.intro ?hl ?hmain); (case' hmain => o_head (id $H)); (case hl => (refine left_booted (by kernel_rfl) (by decide) (fun s => by kernel_rfl) (fun w os => ?_); unfold topFrom; rw [PySem.W.Fast.te14082659384304107361, PySem.W.Fast.te14364793385576792824, PySem.W.Fast.te4187177175401517315]; kernel_rfl))))
set_option maxRecDepth 100000 in
set_option maxHeartbeats 0 in
open_top hd for PySem.Challenge.rw_kt0010_01
end Mine
end
/- Base -/
section
open PySem PySem.W PyProof.Rows
set_option Elab.async false
namespace Mine
theorem meas1 {n i : Nat} (h : i < n) : n + 1 - (i + 1) < n + 1 - i := Nat.sub_succ_lt_self (n + 1) i (Nat.lt_succ_of_lt h)
theorem sub_split {n i : Nat} (h : i < n) : n - i = (n - 1 - i) + 1 := by rw [Nat.sub_right_comm, Nat.sub_add_cancel (Nat.sub_pos_of_lt h)]
theorem sub_comm1 (n i : Nat) : n - (i + 1) = n - 1 - i := by rw [Nat.sub_sub, Nat.add_comm 1 i]
theorem half_lt {n i : Nat} (h : i < n / 2) : n / 2 - 1 - i < n :=
  Nat.lt_of_le_of_lt (Nat.le_trans (Nat.sub_le _ _) (Nat.sub_le _ _)) (Nat.div_lt_self (Nat.lt_of_lt_of_le (Nat.zero_lt_of_lt h) (Nat.div_le_self _ _)) (by decide))
set_option maxRecDepth 100000



noncomputable abbrev Led := List (Addr × Obj)
noncomputable abbrev PStr := PySem.Str
noncomputable abbrev Vals := List Value

/-- what a call of the def at `f` gives, from every frame over the ledger `news` -/
noncomputable abbrev Ctr (w : World) (p : PySem.Program) (loose : List PySem.Str) (mean : ExcName → Option Value) (mg mb : PySem.Str → Option Value) (dpN unN : Nat) (f : Addr) (args : List Value) (news : Led) (Post : Value → Led → Prop) : Prop :=
  ∀ (dp un : Nat) (gd : Option (List Code)) (cn : PySem.Str) (cs : Scope) (a : Addr) (ccd : Value) (cl : List (PySem.Str × Addr)) (outer : List Env) (h₀ : Heap) (L : Addr) (m : PySem.Str → Option Value) (s : Shared) (Q E : Value → Shared → Prop),
    Fr h₀ L s.heap m → (hd.heap_39 w.params).In h₀ → News h₀ L s.heap news → Top p loose mean mg mb h₀ →
    dp + dpN < recursionLimit → un + unN < cLine →
    (∀ r news' h' tk', Post r news' → Fr h₀ L h' m → News h₀ L h' news' → Q r { s with heap := h', toks := tk' }) →
    wpAny (model PySem.Challenge.pw_kt0010_01 w) (ktrTop dp un gd cn cs L a ccd cl outer) (call (.ref f) args) Q E s

noncomputable def slt (x y : PySem.Str) : Bool := decide (x.cps.toList < y.cps.toList)

/-- _siftdown's run -/
noncomputable def sdownF (x : PySem.Str) (st : Nat) : Nat → Nat → List PySem.Str → List PySem.Str
  | 0, pos, xs => xs.set pos x
  | f + 1, pos, xs => if st < pos then (if slt x (xs.getD ((pos - 1) / 2) Str.empty) then sdownF x st f ((pos - 1) / 2) (xs.set pos (xs.getD ((pos - 1) / 2) Str.empty)) else xs.set pos x) else xs.set pos x
noncomputable def sdown (x : PySem.Str) (st pos : Nat) (xs : List PySem.Str) : List PySem.Str := sdownF x st pos pos xs
theorem sdownF_any {x : PySem.Str} {st : Nat} : ∀ (f g pos : Nat) (xs : List PySem.Str), pos ≤ f → pos ≤ g → sdownF x st f pos xs = sdownF x st g pos xs := by
  intro f
  induction f with
  | zero =>
    intro g pos xs hf hg
    cases g with
    | zero => rfl
    | succ g =>
      show xs.set pos x = if st < pos then _ else _
      rw [if_neg (fun h => Nat.not_lt_zero _ (Nat.lt_of_lt_of_le h hf))]
  | succ f ih =>
    intro g pos xs hf hg
    cases g with
    | zero =>
      show (if st < pos then _ else _) = xs.set pos x
      rw [if_neg (fun h => Nat.not_lt_zero _ (Nat.lt_of_lt_of_le h hg))]
    | succ g =>
      show (if st < pos then (if _ then sdownF x st f _ _ else _) else _) = if st < pos then (if _ then sdownF x st g _ _ else _) else _
      rw [ih g _ _ (Nat.le_trans (Nat.div_le_self _ _) (Nat.sub_le_of_le_add hf)) (Nat.le_trans (Nat.div_le_self _ _) (Nat.sub_le_of_le_add hg))]
theorem sdown_eq (x : PySem.Str) (st pos : Nat) (xs : List PySem.Str) : sdown x st pos xs = if st < pos then (if slt x (xs.getD ((pos - 1) / 2) Str.empty) then sdown x st ((pos - 1) / 2) (xs.set pos (xs.getD ((pos - 1) / 2) Str.empty)) else xs.set pos x) else xs.set pos x := by
  cases pos with
  | zero => rw [if_neg (Nat.not_lt_zero _)]; rfl
  | succ p =>
    show (if st < p + 1 then (if _ then sdownF x st p _ _ else _) else _) = if st < p + 1 then (if _ then sdownF x st _ _ _ else _) else _
    rw [sdownF_any p ((p + 1 - 1) / 2) ((p + 1 - 1) / 2) _ (Nat.div_le_self _ _) (Nat.le_refl _)]
theorem sdown_go {x : PySem.Str} {st pos : Nat} {xs : List PySem.Str} (h : st < pos) (h2 : slt x (xs.getD ((pos - 1) / 2) Str.empty) = true) :
    sdown x st pos xs = sdown x st ((pos - 1) / 2) (xs.set pos (xs.getD ((pos - 1) / 2) Str.empty)) := by
  rw [sdown_eq, if_pos h, if_pos h2]
theorem sdown_brk {x : PySem.Str} {st pos : Nat} {xs : List PySem.Str} (h2 : slt x (xs.getD ((pos - 1) / 2) Str.empty) = false) : sdown x st pos xs = xs.set pos x := by
  rw [sdown_eq, h2]
  by_cases h : st < pos
  · rw [if_pos h, if_neg (by decide)]
  · rw [if_neg h]
theorem sdown_end {x : PySem.Str} {st pos : Nat} {xs : List PySem.Str} (h : ¬ st < pos) : sdown x st pos xs = xs.set pos x := by
  rw [sdown_eq, if_neg h]
theorem sdown_len {x : PySem.Str} {st : Nat} : ∀ (pos : Nat) (xs : List PySem.Str), (sdown x st pos xs).length = xs.length := by
  intro pos
  induction pos using Nat.strongRecOn with
  | ind pos ih =>
    intro xs
    rw [sdown_eq]
    split
    · split
      · rw [ih _ (by omega), List.length_set]
      · rw [List.length_set]
    · rw [List.length_set]

/-- the child that _siftup takes -/
noncomputable def kid (xs : List PySem.Str) (pos : Nat) : Nat :=
  if 2 * pos + 2 < xs.length then (if slt (xs.getD (2 * pos + 1) Str.empty) (xs.getD (2 * pos + 2) Str.empty) then 2 * pos + 1 else 2 * pos + 2) else 2 * pos + 1
theorem kid_gt (xs : List PySem.Str) (pos : Nat) : pos < kid xs pos := by
  unfold kid; split
  · split <;> omega
  · omega
theorem kid_lt {xs : List PySem.Str} {pos : Nat} (h : 2 * pos + 1 < xs.length) : kid xs pos < xs.length := by
  unfold kid; split
  · split <;> omega
  · omega
/-- _siftup's run down to a leaf -/
noncomputable def supF (x : PySem.Str) : Nat → Nat → List PySem.Str → Nat × List PySem.Str
  | 0, pos, xs => (pos, xs.set pos x)
  | f + 1, pos, xs => if 2 * pos + 1 < xs.length then supF x f (kid xs pos) (xs.set pos (xs.getD (kid xs pos) Str.empty)) else (pos, xs.set pos x)
noncomputable def sup (x : PySem.Str) (pos : Nat) (xs : List PySem.Str) : Nat × List PySem.Str := supF x (xs.length - pos) pos xs
theorem no_kid {n pos : Nat} (h : n - pos ≤ 0) : ¬ 2 * pos + 1 < n := fun q => Nat.not_lt.mpr (Nat.le_of_sub_eq_zero (Nat.le_zero.mp h)) (Nat.lt_of_le_of_lt (Nat.le_trans (Nat.le_mul_of_pos_left pos (by decide)) (Nat.le_succ _)) q)
theorem kid_room {xs : List PySem.Str} {v : PySem.Str} {pos f : Nat} (h : 2 * pos + 1 < xs.length) (hf : xs.length - pos ≤ f + 1) : (xs.set pos v).length - kid xs pos ≤ f := by
  rw [List.length_set]
  exact Nat.le_of_lt_succ (Nat.lt_of_lt_of_le (Nat.sub_lt_sub_left (Nat.lt_trans (kid_gt xs pos) (kid_lt h)) (kid_gt xs pos)) hf)
theorem supF_any {x : PySem.Str} : ∀ (f g pos : Nat) (xs : List PySem.Str), xs.length - pos ≤ f → xs.length - pos ≤ g → supF x f pos xs = supF x g pos xs := by
  intro f
  induction f with
  | zero =>
    intro g pos xs hf hg
    cases g with
    | zero => rfl
    | succ g =>
      show (pos, xs.set pos x) = if 2 * pos + 1 < xs.length then _ else _
      rw [if_neg (no_kid hf)]
  | succ f ih =>
    intro g pos xs hf hg
    cases g with
    | zero =>
      show (if 2 * pos + 1 < xs.length then _ else _) = (pos, xs.set pos x)
      rw [if_neg (no_kid hg)]
    | succ g =>
      show (if 2 * pos + 1 < xs.length then supF x f _ _ else _) = if 2 * pos + 1 < xs.length then supF x g _ _ else _
      by_cases h : 2 * pos + 1 < xs.length
      · rw [if_pos h, if_pos h]; exact ih g _ _ (kid_room h hf) (kid_room h hg)
      · rw [if_neg h, if_neg h]
theorem sup_eq (x : PySem.Str) (pos : Nat) (xs : List PySem.Str) : sup x pos xs = if 2 * pos + 1 < xs.length then sup x (kid xs pos) (xs.set pos (xs.getD (kid xs pos) Str.empty)) else (pos, xs.set pos x) := by
  by_cases h : 2 * pos + 1 < xs.length
  · rw [if_pos h]
    have e := supF_any (x := x) (xs.length - pos) ((xs.length - pos) + 1) pos xs (Nat.le_refl _) (Nat.le_succ _)
    refine e.trans ?_
    show (if 2 * pos + 1 < xs.length then supF x (xs.length - pos) _ _ else _) = supF x _ _ _
    rw [if_pos h]
    exact supF_any _ _ _ _ (kid_room h (Nat.le_succ _)) (Nat.le_refl _)
  · rw [if_neg h]
    unfold sup
    cases xs.length - pos with
    | zero => rfl
    | succ f => show (if 2 * pos + 1 < xs.length then _ else _) = _; rw [if_neg h]
theorem sup_go {x : PySem.Str} {pos : Nat} {xs : List PySem.Str} (h : 2 * pos + 1 < xs.length) : sup x pos xs = sup x (kid xs pos) (xs.set pos (xs.getD (kid xs pos) Str.empty)) := by
  rw [sup_eq, if_pos h]
theorem sup_end {x : PySem.Str} {pos : Nat} {xs : List PySem.Str} (h : ¬ 2 * pos + 1 < xs.length) : sup x pos xs = (pos, xs.set pos x) := by
  rw [sup_eq, if_neg h]
theorem sup_lt {x : PySem.Str} : ∀ (k pos : Nat) (xs : List PySem.Str), xs.length - pos ≤ k → pos < xs.length → (sup x pos xs).1 < xs.length ∧ (sup x pos xs).2.length = xs.length := by
  intro k
  induction k with
  | zero => intro pos xs h h2; omega
  | succ k ih =>
    intro pos xs h h2
    by_cases hc : 2 * pos + 1 < xs.length
    · rw [sup_go hc]
      have h3 := kid_lt hc
      have h4 := kid_gt xs pos
      have := ih (kid xs pos) (xs.set pos (xs.getD (kid xs pos) Str.empty)) (by rw [List.length_set]; omega) (by rw [List.length_set]; exact h3)
      rw [List.length_set] at this
      exact this
    · rw [sup_end hc]
      exact ⟨h2, by rw [List.length_set]⟩
/-- _siftup whole -/
noncomputable def siftU (pos : Nat) (xs : List PySem.Str) : List PySem.Str :=
  sdown ((sup (xs.getD pos Str.empty) pos xs).2.getD (sup (xs.getD pos Str.empty) pos xs).1 Str.empty) pos (sup (xs.getD pos Str.empty) pos xs).1 (sup (xs.getD pos Str.empty) pos xs).2

/-- heappush, heappop, heapify -/
noncomputable def pushH (xs : List PySem.Str) (x : PySem.Str) : List PySem.Str := sdown ((xs ++ [x]).getD xs.length Str.empty) 0 xs.length (xs ++ [x])
noncomputable def popL (ys : List PySem.Str) (z : PySem.Str) : PySem.Str × List PySem.Str := if ys = [] then (z, []) else (ys.getD 0 Str.empty, siftU 0 (ys.set 0 z))
noncomputable def heapL (k : Nat) (xs : List PySem.Str) : List PySem.Str := match k with
  | 0 => xs
  | k + 1 => heapL k (siftU k xs)
/-- what is taken off a heap -/
noncomputable def popX (xs : List PySem.Str) : PySem.Str × List PySem.Str := popL xs.dropLast (xs.getLastD Str.empty)
noncomputable def popN : Nat → List PySem.Str → List PySem.Str
  | 0, _ => []
  | k + 1, xs => (popX xs).1 :: popN k (popX xs).2
noncomputable def heapOf (xs ys : List PySem.Str) : List PySem.Str := ys.foldl pushH (heapL (xs.length / 2) xs)
/-- _law_in_order -/
noncomputable def inOrd (xs ys : List PySem.Str) : List PySem.Str := popN (xs.length + ys.length) (heapOf xs ys)
theorem siftU_len {pos : Nat} {xs : List PySem.Str} (h : pos < xs.length) : (siftU pos xs).length = xs.length := by
  unfold siftU; rw [sdown_len]; exact (sup_lt _ _ _ (Nat.le_refl _) h).2
theorem heapL_len : ∀ (k : Nat) (xs : List PySem.Str), k ≤ xs.length → (heapL k xs).length = xs.length := by
  intro k
  induction k with
  | zero => intro xs _; rfl
  | succ k ih =>
    intro xs h
    show (heapL k (siftU k xs)).length = xs.length
    have e := siftU_len (pos := k) (xs := xs) (by omega)
    rw [ih _ (by omega), e]
theorem pushH_len (xs : List PySem.Str) (x : PySem.Str) : (pushH xs x).length = xs.length + 1 := by
  unfold pushH; rw [sdown_len, List.length_append]; rfl
theorem foldPush_len : ∀ (ys xs : List PySem.Str), (ys.foldl pushH xs).length = xs.length + ys.length := by
  intro ys
  induction ys with
  | nil => intro xs; rfl
  | cons y ys ih => intro xs; rw [List.foldl_cons, ih, pushH_len, List.length_cons]; omega
theorem heapOf_len (xs ys : List PySem.Str) : (heapOf xs ys).length = xs.length + ys.length := by
  unfold heapOf; rw [foldPush_len, heapL_len _ _ (Nat.div_le_self _ _)]
theorem popL_len (ys : List PySem.Str) (z : PySem.Str) : (popL ys z).2.length = ys.length := by
  unfold popL
  split
  · rename_i h; rw [h]
  · rename_i h
    show (siftU 0 (ys.set 0 z)).length = ys.length
    have : 0 < ys.length := by cases ys with | nil => exact absurd rfl h | cons a b => simp
    rw [siftU_len (by rw [List.length_set]; exact this), List.length_set]
theorem popX_len {xs : List PySem.Str} : (popX xs).2.length = xs.length - 1 := by
  unfold popX; rw [popL_len, List.length_dropLast]
theorem snoc_of {xs : List PySem.Str} (h : 0 < xs.length) : xs = xs.dropLast ++ [xs.getLastD Str.empty] := by
  have hne : xs ≠ [] := fun e => by rw [e] at h; exact Nat.lt_irrefl _ h
  have e := List.dropLast_concat_getLast hne
  rw [List.getLastD_eq_getLast?, List.getLast?_eq_some_getLast hne]
  exact e.symm

theorem strs_set {vs : List Value} {xs : List PySem.Str} (h : StrsAre vs xs) : ∀ (i : Nat) (y : PySem.Str) (t : Tok), StrsAre (vs.set i (.str y t)) (xs.set i y) := by
  induction h with
  | nil => intro i y t; exact .nil
  | cons z u h ih =>
    intro i y t
    cases i with
    | zero => exact .cons _ _ h
    | succ i => exact .cons _ _ (ih i y t)

section
variable {prog : Program} {w : World} {A : Around} {E : Value → Shared → Prop} {s : Shared} {h₀ : Heap} {L D : Addr} {m : PySem.Str → Option Value} {news news' : Led} {vs : List Value} {xs : List PySem.Str} {n : Nat} {k : Int} {x : PySem.Str} {t u : Tok}

theorem r_shr1 {a : Int} {Q : Value → Shared → Prop} (h0 : 0 ≤ a) (h : Q (.int ((a.toNat / 2 : Nat) : Int) s.toks) { s with toks := s.toks + 1 }) : wpAny (model prog w) A (binaryOp .RShift (.int a t) (.int 1 u)) Q E s := by
  refine rshift_int (by decide) ?_
  have e : a.fdiv (2 ^ (1 : Int).toNat) = ((a.toNat / 2 : Nat) : Int) := by
    show a.fdiv (2 ^ 1) = _
    rw [Int.fdiv_eq_ediv_of_nonneg _ (by decide)]
    show a / 2 = _
    omega
  rw [e]; exact h

/-- xs[k] = text -/
theorem r_set {Q : Unit → Shared → Prop} (F : Fr h₀ L s.heap m) (N : News h₀ L s.heap news) (U : Upd D (listOf vs.toArray n) (listOf (vs.set k.toNat (.str x u)).toArray n) news news') (hi : StrsAre vs xs) (h0 : 0 ≤ k) (h1 : k < xs.length) (hfit : k < 2 ^ 63)
    (h : ∀ h', Fr h₀ L h' m → News h₀ L h' news' → StrsAre (vs.set k.toNat (.str x u)) (xs.set k.toNat x) → Q () { s with heap := h' }) :
    wpAny (model prog w) A (setItem (.ref D) (.int k t) (.str x u)) Q E s := by
  obtain ⟨pre, post, rfl, rfl, a, b⟩ := U.split
  have z := N (D, listOf vs.toArray n) (List.mem_append.mpr (.inr (.head _)))
  have hl : vs.length = xs.length := hi.length
  have hs : vs.toArray.size = xs.length := by rw [List.size_toArray]; exact hl
  have hj : k.toNat < xs.length := by omega
  refine ki_setAt z.1 h0 hfit (by omega) (h _ (F.change (Heap.SameBut.update ..) z.2.1 z.2.2) (ki_turn _ N a b ?_ ?_) (strs_set hi _ _ _))
  · show vs.toArray.setIfInBounds k.toNat (.str x u) = (vs.set k.toNat (.str x u)).toArray
    apply Array.toList_inj.mp
    simp
  · simp

/-- xs[k], a text -/
theorem r_item {value slice : PySem.Expr} {Q : Value → Shared → Prop} (N : News h₀ L s.heap news) (hm : (D, listOf vs.toArray n) ∈ news) (hi : StrsAre vs xs) (h0 : 0 ≤ k) (h1 : k < xs.length) (hfit : k < 2 ^ 63) (h : ∀ t, Q (.str (xs.getD k.toNat Str.empty) t) s)
    (hs : subscripted slice false (.ref D) (.int k u) = operate [.ref D, .int k u] (getItem (.ref D) (.int k u)) := by with_unfolding_all rfl) (hg : ∀ r, letTemporaryGo value (.ref D) r = pure () := by intro _; with_unfolding_all rfl) :
    wpAny (model prog w) A (subscriptTail value slice (.ref D) (.int k u)) Q E s := item_strsA (N.isList hm) hi h0 h1 hfit h hs hg

theorem r_lt {x y : PySem.Str} {Q : Value → Shared → Prop} (h : Q (.bool (slt x y)) s) : wpAny (model prog w) A (compareOp .Lt (.str x t) (.str y u)) Q E s := lt_str h
theorem r_gt {x y : PySem.Str} {Q : Value → Shared → Prop} (h : Q (.bool (slt y x)) s) : wpAny (model prog w) A (compareOp .Gt (.str x t) (.str y u)) Q E s := PySem.P.gt_str h
end

/-- a while by a state, its whole frame named -/
inductive WEnd {σ : Type} (h₀ : Heap) (L : Addr) (s : Shared) (Ld : σ → Led) (ps : σ → List (PySem.Str × Value)) (P : σ → Prop) (μ : σ → Nat) (c : σ) (s₂ : Shared) : Prop
  | mk (c' : σ) (h' : Heap) (tk : Nat) (m' : PySem.Str → Option Value) (news' : Led) :
    s₂ = { s with heap := h', toks := tk } →
    Fr h₀ L h' m' →
    News h₀ L h' news' →
    (∀ p ∈ Ld c', p ∈ news') →
    (∀ p ∈ ps c', m' p.1 = some p.2) →
    P c' →
    μ c' < μ c →
    WEnd h₀ L s Ld ps P μ c s₂
noncomputable def WPost {σ : Type} (h₀ : Heap) (L : Addr) (s : Shared) (Ld : σ → Led) (ps : σ → List (PySem.Str × Value)) (P : σ → Prop) (μ : σ → Nat) (Q : Flow → Shared → Prop) (c : σ) (f : Flow) (s₂ : Shared) : Prop :=
  match f with
  | .ret v => Q (.ret v) s₂
  | .brk => Q .next s₂
  | _ => WEnd h₀ L s Ld ps P μ c s₂
theorem w_end {σ : Type} {h₀ : Heap} {L : Addr} {s : Shared} {Ld : σ → Led} {ps : σ → List (PySem.Str × Value)} {m' : PySem.Str → Option Value} {P : σ → Prop} {μ : σ → Nat} {c : σ} {h' : Heap} {tk : Nat} {news' : Led} (c' : σ)
    (F : Fr h₀ L h' m') (N : News h₀ L h' news') (hn : ∀ p ∈ Ld c', p ∈ news') (hk : ∀ p ∈ ps c', m' p.1 = some p.2) (hp : P c') (hm : μ c' < μ c) :
    WEnd h₀ L s Ld ps P μ c { s with heap := h', toks := tk } := ⟨c', h', tk, m', news', rfl, F, N, hn, hk, hp, hm⟩
theorem fr_named {h₀ h : Heap} {L : Addr} {ps : List (PySem.Str × Value)} {m₁ : PySem.Str → Option Value} (h1 : ∀ p ∈ ps, m₁ p.1 = some p.2) (F : Fr h₀ L h m₁) : Fr h₀ L h (kstB m₁ ps) := by
  have em : kstB m₁ ps = m₁ := by
    funext y
    exact kstB_eq h1 fun _ => rfl
  rw [em]; exact F

section
variable {prog : Program} {w : World} {A : Around} {E : Value → Shared → Prop} {Q : Flow → Shared → Prop} {s : Shared} {env : Env} {h₀ : Heap} {L : Addr}
theorem w_while {σ : Type} {test : PySem.Expr} {body : List Stmt} {pos : Pos} {m₀ : PySem.Str → Option Value} {news : Led} (Ld : σ → Led) (ps : σ → List (PySem.Str × Value)) (P : σ → Prop) (μ : σ → Nat) (c₀ : σ)
    (F : Fr h₀ L s.heap m₀) (N : News h₀ L s.heap news) (hn : ∀ p ∈ Ld c₀, p ∈ news) (hk : ∀ p ∈ ps c₀, m₀ p.1 = some p.2) (hp : P c₀)
    (turn : ∀ (c : σ) (u : PySem.Str → Option Value) h tk, P c → Fr h₀ L h (kstB u (ps c)) → News h₀ L h (Ld c) →
      wpAny (model prog w) A (isTrue test env (eval test env)) (fun b s₂ =>
        if b = true then wpAny (model prog w) A (execs body env) (WPost h₀ L s Ld ps P μ Q c) E s₂ else Q .next s₂) E { s with heap := h, toks := tk })
    (hE : PassesOwn (model prog w) A env E) :
    wpAny (model prog w) A (exec (.While test body [] pos) env) Q E s := by
  refine While_inv2 (news := Ld c₀) (fun n m nx => ∃ c : σ, nx = Ld c ∧ μ c = n ∧ (∀ p ∈ ps c, m p.1 = some p.2) ∧ P c) F (fun p hp => N p (hn p hp)) ⟨c₀, rfl, rfl, hk, hp⟩ ?_ hE
  rintro n m₁ nx h tk F₁ N₁ ⟨c, hnx, hsz, h1, hp'⟩
  rw [hnx] at N₁
  rw [← hsz]
  refine wpAny_mono (turn c m₁ h tk hp' (fr_named h1 F₁) N₁) (fun b s₂ p => ?_) fun _ _ x => x
  cases b with
  | false => simpa using p
  | true =>
    simp only [if_true] at p ⊢
    refine wpAny_mono p (fun f s₃ q => ?_) fun _ _ x => x
    cases f with
    | ret v => exact q
    | brk => exact q
    | next =>
      obtain ⟨c', h', tk', m', news', rfl, F', N', hn, hk9, hp9, hm9⟩ := q
      exact ⟨h', tk', m', Ld c', μ c', rfl, F', fun p hp => N' p (hn p hp), hm9, c', rfl, rfl, hk9, hp9⟩
    | cont =>
      obtain ⟨c', h', tk', m', news', rfl, F', N', hn, hk9, hp9, hm9⟩ := q
      exact ⟨h', tk', m', Ld c', μ c', rfl, F', fun p hp => N' p (hn p hp), hm9, c', rfl, rfl, hk9, hp9⟩
end

section
variable {w : World} {p : PySem.Program} {loose : List PySem.Str} {mean : ExcName → Option Value} {mg mb : PySem.Str → Option Value}
theorem use_ctr {dpN unN : Nat} {f : Addr} {args : List Value} {news news₀ : Led} {Post : Value → Led → Prop} {dp un : Nat} {gd : Option (List Code)} {cn : PySem.Str} {cs : Scope} {a : Addr} {ccd : Value} {cl : List (PySem.Str × Addr)} {outer : List Env} {h₀ : Heap} {L : Addr} {m : PySem.Str → Option Value} {s : Shared} {Q E : Value → Shared → Prop}
    (C : Ctr w p loose mean mg mb dpN unN f args news Post) (F : Fr h₀ L s.heap m) (X : (hd.heap_39 w.params).In h₀) (N : News h₀ L s.heap news₀) (T : Top p loose mean mg mb h₀)
    (hn : ∀ p ∈ news, p ∈ news₀) (hd : dp + dpN < recursionLimit) (hu : un + unN < cLine)
    (ret : ∀ r news' h' tk', Post r news' → Fr h₀ L h' m → News h₀ L h' news' → Q r { s with heap := h', toks := tk' }) :
    wpAny (model PySem.Challenge.pw_kt0010_01 w) (ktrTop dp un gd cn cs L a ccd cl outer) (call (.ref f) args) Q E s :=
  C dp un gd cn cs a ccd cl outer h₀ L m s Q E F X (fun p hp => N p (hn p hp)) T hd hu ret
end


end Mine
end
/- Base2 -/
section
open PySem PySem.W PyProof.Rows
set_option Elab.async false
namespace Mine
set_option maxRecDepth 100000

section
variable {prog : Program} {w : World} {A : Around} {E : Value → Shared → Prop} {s : Shared} {h₀ : Heap} {L D : Addr} {m : PySem.Str → Option Value} {news news' : Led} {vs : List Value} {xs : List PySem.Str} {n : Nat} {k : Int} {x : PySem.Str} {t u : Tok}

theorem strs_snoc' (hi : StrsAre vs xs) (x : PySem.Str) (t : Tok) : StrsAre (vs ++ [Value.str x t]) (xs ++ [x]) := hi.append' (.cons _ _ .nil)

theorem strs_snoc_inv : ∀ {vs : List Value} {ys : List PySem.Str} {z : PySem.Str}, StrsAre vs (ys ++ [z]) → ∃ us t, vs = us ++ [Value.str z t] ∧ StrsAre us ys := by
  intro vs ys
  induction ys generalizing vs with
  | nil => intro z h; cases h with | cons _ t h => cases h; exact ⟨[], t, rfl, .nil⟩
  | cons y ys ih =>
    intro z h
    cases h with
    | cons _ t h =>
      obtain ⟨us, t', rfl, h'⟩ := ih h
      exact ⟨_ :: us, t', rfl, .cons _ _ h'⟩

/-- xs.append(text) -/
theorem r_append {Q : Value → Shared → Prop} (F : Fr h₀ L s.heap m) (N : News h₀ L s.heap news) (U : Upd D (listOf vs.toArray n) (listOf (vs ++ [Value.str x t]).toArray (n + 1)) news news') (hi : StrsAre vs xs) (hz : xs.length ≤ 2 ^ 20)
    (h : ∀ h', Fr h₀ L h' m → News h₀ L h' news' → StrsAre (vs ++ [Value.str x t]) (xs ++ [x]) → Q .none { s with heap := h' }) : wpAny (model prog w) A (call (.builtin "list.append") [.ref D, .str x t]) Q E s := by
  refine append_K (its := vs.toArray) F N (news' := news') (by rw [List.push_toArray]; exact U) (fun h' F' N' => h h' F' N' (strs_snoc' hi x t)) ?_
  rw [List.size_toArray, hi.length, PySem.sizeLine_eq]; omega

theorem r_len {Q : Value → Shared → Prop} (N : News h₀ L s.heap news) (hm : (D, listOf vs.toArray n) ∈ news) (hi : StrsAre vs xs) (hz : xs.length ≤ 2 ^ 20)
    (h : Q (.int xs.length (s.toks + 1)) { s with toks := s.toks + 1 + 1 }) : wpAny (model prog w) A (call (.builtin "len") [.ref D]) Q E s :=
  len_strsA (N.isList hm) hi (by omega) h

theorem r_pop {us : List Value} {y : Value} {Q : Value → Shared → Prop} (F : Fr h₀ L s.heap m) (N : News h₀ L s.heap news) (hz : us.length ≤ 2 ^ 20) (U : Upd D (listOf (us ++ [y]).toArray n) (listOf us.toArray (n + 1)) news news')
    (h : ∀ h', Fr h₀ L h' m → News h₀ L h' news' → Q y { s with heap := h' }) : wpAny (model prog w) A (call (.builtin "list.pop") [.ref D]) Q E s := by
  refine kl_pop (p := us) (y := y) F N ?_ U (by rw [PySem.sizeLine_eq]; simp; omega) h
  have e := kpa_last y us
  simpa using e
end

section
variable {prog : Program} {w : World} {A : Around} {E : Value → Shared → Prop} {s : Shared}
theorem sub_ri_reversed : isSubtype (.type "range_iterator") (.type "reversed") = pure false := by rw [isSubtype_type]; kernel_rfl
noncomputable abbrev riObj (x left step : Int) : Obj := { cls := .type "range_iterator", dict := none, data := .fields #[rawInt x, rawInt left, rawInt step], slots := #[] }
theorem rangeFields_of {r : Addr} {a b c : Int} {t u v : Tok} {Q : Int × Int × Int → Shared → Prop} (hr : IsRange s.heap r a b c t u v) (h : Q (a, b, c) s) : wpAny (model prog w) A (Builtin.Range.rangeFields (.ref r)) Q E s := by
  unfold Builtin.Range.rangeFields
  refine wpAny_bind (wpAny_field hr rfl (x := .int a t) rfl ?_)
  refine wpAny_bind (wpAny_of_eq (a := some a) rfl ?_)
  refine wpAny_bind (wpAny_field hr rfl (x := .int b u) rfl ?_)
  refine wpAny_bind (wpAny_of_eq (a := some b) rfl ?_)
  refine wpAny_bind (wpAny_field hr rfl (x := .int c v) rfl ?_)
  refine wpAny_bind (wpAny_of_eq (a := some c) rfl ?_)
  exact wpAny_pure h
theorem call_range_reversed {r : Addr} {k : Nat} {t u v : Tok} {Q : Value → Shared → Prop} (hr : IsRange s.heap r 0 (k : Int) 1 t u v) (hk : k < 2 ^ 40)
    (h : Q (.ref s.heap.objs.size) { s with heap := s.heap.push (riObj ((k : Int) - 1) k (-1)) }) : wpAny (model prog w) A (call (.builtin "range.__reversed__") [.ref r]) Q E s := by
  have hT : s.TypeIs (.ref r) "range" := ⟨_, hr, rfl⟩
  have hz : Builtin.Range.rangeSize 0 (k : Int) 1 = k := by rw [rangeSize_nat]; omega
  have hsm : (Builtin.Range.rangeFitsLong 0 && Builtin.Range.rangeFitsLong (k : Int) && Builtin.Range.rangeFitsLong 1 && Builtin.Range.rangeFitsLong (-1) && Builtin.Range.rangeFitsLong (0 - 1) && Builtin.Range.rangeFitsLong (k : Int)) = true := by
    have : Builtin.Range.rangeFitsLong (k : Int) = true := by
      unfold Builtin.Range.rangeFitsLong
      simp only [Bool.and_eq_true, decide_eq_true_eq]
      omega
    rw [this]; decide
  have e1 : (0 : Int) + ((k : Int) - 1) * 1 = (k : Int) - 1 := by omega
  refine wpAny_call_entry F.slot_range_reversed hT F.entry_range_reversed ?_ (F.args_range_reversed_1 _)
  unfold Builtin.«range.__reversed__»
  refine wpAny_bind (wpAny_of_eq (a := Value.ref r) rfl ?_)
  refine wpAny_bind (rangeFields_of hr ?_)
  dsimp only
  rw [hz, hsm, e1]
  simp only [Bool.not_true, Bool.false_eq_true, if_false, if_true]
  show wpAny _ _ (newObj (.type "range_iterator") (.fields #[rawInt ((k : Int) - 1), rawInt k, rawInt (-1)]) >>= ret) _ _ _
  refine wpAny_bind (wpAny_newObj_type (wpAny_pure ⟨_, rfl, h⟩))

theorem code_reversed_new' {r : Addr} {k : Nat} {t u v : Tok} {Q₁ : Value → Shared → Prop} (hr : IsRange s.heap r 0 (k : Int) 1 t u v) (hk : k < 2 ^ 40)
    (h : Q₁ (.ref s.heap.objs.size) { s with heap := s.heap.push (riObj ((k : Int) - 1) k (-1)) }) :
    codeAny (model prog w) A (.call (.builtin "reversed.__new__") ⟨[.type "reversed", .ref r], []⟩) (wants Q₁ E) s := by
  have hT : s.TypeIs (.ref r) "range" := ⟨_, hr, rfl⟩
  refine codeAny_of_tree ?_
  show wpAny _ A.in1 (do checkBuiltinCall "reversed.__new__" ⟨[.type "reversed", .ref r], []⟩; again (.builtin "reversed.__new__" ⟨[.type "reversed", .ref r], []⟩)) _ _ s
  refine wpAny_bind (wpAny_of_eq (F.newCall_reversed_1 _) (wpAny_pure ⟨plainId_quiet F.plain_reversed_new _, codeAny_builtin F.entry_reversed_new ?_⟩))
  rw [Around.under_plainId F.plain_reversed_new _]
  unfold Builtin.«reversed.__new__»
  refine wpAny_bind (wpAny_of_eq (newClass_reversed _) ?_)
  try dsimp only
  refine wpAny_bind (wpAny_of_eq (a := ()) (by first | rfl | kernel_rfl) ?_)
  refine wpAny_bind (wpAny_of_eq (a := ()) (by first | rfl | kernel_rfl) ?_)
  try dsimp only
  refine wpAny_bind (wpAny_specialOf hT F.slot_range_reversed.lookup ?_)
  try dsimp only
  refine wpAny_bind (wpAny_of_eq (F.slot_range_reversed.bind _) ?_)
  try dsimp only
  first
  | rw [if_neg (show ¬ ((Value.builtin "range.__reversed__" == Value.none) = true) from Bool.false_ne_true)]
  | (show wpAny _ _ (if (Value.builtin "range.__reversed__" == Value.none) = true then _ else _) _ _ _; rw [if_neg (show ¬ ((Value.builtin "range.__reversed__" == Value.none) = true) from Bool.false_ne_true)])
  refine wpAny_bind (wpAny_rule ?_)
  refine wpAny_bind (m := runValue (.call (.builtin "range.__reversed__") ⟨[.ref r], []⟩)) (show wpAny _ _ (call (.builtin "range.__reversed__") [.ref r]) _ _ _ from call_range_reversed hr hk ?_)
  first
  | exact wpAny_pure h
  | exact wpAny_bind (wpAny_pure (wpAny_pure h))

theorem call_reversed_range {r : Addr} {k : Nat} {t u v : Tok} {Q : Value → Shared → Prop} (hr : IsRange s.heap r 0 (k : Int) 1 t u v) (hk : k < 2 ^ 40)
    (h : Q (.ref s.heap.objs.size) { s with heap := s.heap.push (riObj ((k : Int) - 1) k (-1)) }) : wpAny (model prog w) A (call (.type "reversed") [.ref r]) Q E s := by
  refine callType_other (U := "range_iterator") (Q₁ := fun obj s₁ => obj = .ref s.heap.objs.size ∧ s₁ = { s with heap := s.heap.push (riObj ((k : Int) - 1) k (-1)) }) (by decide +kernel) F.create_reversed ⟨_, _, F.mro_reversed⟩ F.made_reversed sub_ri_reversed (F.typeCall_reversed_1 _) (code_reversed_new' hr hk ⟨rfl, rfl⟩) ?_
  rintro obj s₁ ⟨rfl, rfl⟩
  exact ⟨⟨_, Heap.get?_push_size _ rfl, rfl⟩, h⟩

/-- reversed(range(k)) -/
theorem r_reversed {h₀ : Heap} {L : Addr} {m : PySem.Str → Option Value} {news : Led} {r : Addr} {k : Nat} {b : Int} {t u v : Tok} {Q : Value → Shared → Prop} (F : Fr h₀ L s.heap m) (N : News h₀ L s.heap news) (hr : IsRange s.heap r 0 b 1 t u v) (hb : b = (k : Int)) (hk : k < 2 ^ 40)
    (h : ∀ D h', Fr h₀ L h' m → News h₀ L h' ((D, riObj ((k : Int) - 1) k (-1)) :: news) → (∀ p ∈ news, p.1 < D) → Q (.ref D) { s with heap := h' }) : wpAny (model prog w) A (call (.type "reversed") [.ref r]) Q E s := by
  subst hb
  exact call_reversed_range hr hk (h _ _ (F.push _) (News.push F N _) fun p hp => Heap.lt_size (N p hp).1)
end

/-- a for by a state, its whole frame named -/
inductive LEnd {σ : Type} (h₀ : Heap) (L : Addr) (s : Shared) (Ld : σ → Led) (ps : σ → List (PySem.Str × Value)) (P : Nat → σ → Prop) (own : Led) (i : Nat) (s₂ : Shared) : Prop
  | mk (c' : σ) (h' : Heap) (tk : Nat) (m' : PySem.Str → Option Value) (news' : Led) :
    s₂ = { s with heap := h', toks := tk } →
    Fr h₀ L h' m' →
    News h₀ L h' news' →
    (∀ p ∈ Ld c', p ∈ news') →
    (∀ p ∈ own, p ∈ news') →
    OwnOff own ((Ld c').map (·.1)) →
    (∀ p ∈ ps c', m' p.1 = some p.2) →
    P (i + 1) c' →
    LEnd h₀ L s Ld ps P own i s₂
noncomputable def LPost {σ : Type} (h₀ : Heap) (L : Addr) (s : Shared) (Ld : σ → Led) (ps : σ → List (PySem.Str × Value)) (P : Nat → σ → Prop) (Q : Flow → Shared → Prop) (own : Led) (i : Nat) (f : Flow) (s₂ : Shared) : Prop :=
  match f with
  | .ret v => Q (.ret v) s₂
  | .brk => Q .next s₂
  | _ => LEnd h₀ L s Ld ps P own i s₂
theorem l_end {σ : Type} {h₀ : Heap} {L : Addr} {s : Shared} {Ld : σ → Led} {ps : σ → List (PySem.Str × Value)} {m' : PySem.Str → Option Value} {P : Nat → σ → Prop} {own : Led} {i : Nat} {h' : Heap} {tk : Nat} {news' : Led} (c' : σ)
    (F : Fr h₀ L h' m') (N : News h₀ L h' news') (hn : ∀ p ∈ Ld c', p ∈ news') (ho : ∀ p ∈ own, p ∈ news') (hf : OwnOff own ((Ld c').map (·.1))) (hk : ∀ p ∈ ps c', m' p.1 = some p.2) (hp : P (i + 1) c') :
    LEnd h₀ L s Ld ps P own i { s with heap := h', toks := tk } := ⟨c', h', tk, m', news', rfl, F, N, hn, ho, hf, hk, hp⟩
section
variable {prog : Program} {w : World} {A : Around} {E : Value → Shared → Prop} {Q : Flow → Shared → Prop} {s : Shared} {env : Env} {h₀ : Heap} {x : PySem.Str} {body : List Stmt}
theorem l_inv {σ : Type} {Ld : σ → Led} {ps : σ → List (PySem.Str × Value)} {P : Nat → σ → Prop} {own : Led} {i : Nat} {L : Addr} {f : Flow} {s₂ : Shared} {J : (PySem.Str → Option Value) → Led → Prop}
    (hJ : ∀ c m, (∀ p ∈ ps c, m p.1 = some p.2) → P (i + 1) c → J m (Ld c)) (h : LPost h₀ L s Ld ps P Q own i f s₂) :
    InvPostG h₀ L J own s Q f s₂ := by
  have fin : LEnd h₀ L s Ld ps P own i s₂ → InvEndG h₀ L J own s s₂ := by
    rintro ⟨c', h', tk, m', news', rfl, F', N', hn, ho, hf, hk, hp⟩
    exact ⟨h', tk, m', news', Ld c', rfl, F', N', hn, ho, hf, hJ _ _ hk hp⟩
  cases f with
  | ret v => exact h
  | brk => exact h
  | next => exact fin h
  | cont => exact fin h

theorem l_list {σ : Type} {l : Addr} {vs : List Value} {nn : Nat} {m₀ : PySem.Str → Option Value} {news : Led} (Ld : σ → Led) (ps : σ → List (PySem.Str × Value)) (P : Nat → σ → Prop) (c₀ : σ)
    (hh : A.handled = none) (hl : ∀ c, (l, listOf vs.toArray nn) ∈ Ld c) (F : Fr h₀ env.locals s.heap m₀) (N : News h₀ env.locals s.heap news) (hn : ∀ p ∈ Ld c₀, p ∈ news) (hk : ∀ p ∈ ps c₀, m₀ p.1 = some p.2) (hp : P 0 c₀)
    (turn : ∀ i c v (u : PySem.Str → Option Value) h tk own, vs[i]? = some v → P i c → OwnOff own ((Ld c).map (·.1)) → Fr h₀ env.locals h (fun y => if y = x then some v else kstB u (ps c) y) → News h₀ env.locals h (Ld c ++ own) →
      wpAny (model prog w) A (execs body env) (LPost h₀ env.locals { s with heap := h, toks := tk } Ld ps P Q own i) E { s with heap := h, toks := tk })
    (done : ∀ c (u : PySem.Str → Option Value) h tk, P vs.length c → Fr h₀ env.locals h (kstB u (ps c)) → News h₀ env.locals h (Ld c) → Q .next { s with heap := h, toks := tk }) :
    wpAny (model prog w) A (pyIter (.ref l)) (fun it s₂ => LoopAtV prog w A h₀ env x body Q E it s₂) E s := by
  refine kdl_iter (news := Ld c₀) (fun i m nx => ∃ c : σ, nx = Ld c ∧ (∀ p ∈ ps c, m p.1 = some p.2) ∧ P i c) hh (hl c₀) F (fun p hp => N p (hn p hp)) ⟨c₀, rfl, hk, hp⟩ ?_ ?_
  · rintro i v m₁ nx h tk own hv hoff hm ⟨c, rfl, h1, hp'⟩ F₁ N₁
    have em : kstB m₁ (ps c) = m₁ := by
      funext y
      exact kstB_eq h1 fun _ => rfl
    refine wpAny_mono (turn i c v m₁ h tk own hv hp' hoff (by rw [em]; exact F₁) N₁) (fun f s₂ p => ?_) fun _ _ e => e
    exact l_inv (fun c' m h1' h2' => ⟨hl c', c', rfl, h1', h2'⟩) p
  · rintro m₁ nx h tk ⟨c, rfl, h1, hp'⟩ F₁ N₁
    exact done c m₁ h tk hp' (fr_named h1 F₁) N₁

/-- for over the iterator of reversed(range(k)) -/
theorem l_rev {σ : Type} {I : Addr} {k : Nat} {m₀ : PySem.Str → Option Value} {news : Led} (Ld : σ → Led) (ps : σ → List (PySem.Str × Value)) (P : Nat → σ → Prop) (c₀ : σ)
    (hh : A.handled = none) (F : Fr h₀ env.locals s.heap m₀) (N : News h₀ env.locals s.heap news) (hI : (I, riObj ((k : Int) - 1) k (-1)) ∈ news) (hoff : ∀ p ∈ Ld c₀, p.1 ≠ I) (hn : ∀ p ∈ Ld c₀, p ∈ news) (hk : ∀ p ∈ ps c₀, m₀ p.1 = some p.2) (hp : P 0 c₀)
    (turn : ∀ i c t (u : PySem.Str → Option Value) h tk own, i < k → P i c → OwnOff own ((Ld c).map (·.1)) → Fr h₀ env.locals h (fun y => if y = x then some (.int ((k - 1 - i : Nat) : Int) t) else kstB u (ps c) y) → News h₀ env.locals h (Ld c ++ own) →
      wpAny (model prog w) A (execs body env) (LPost h₀ env.locals { s with heap := h, toks := tk } Ld ps P Q own i) E { s with heap := h, toks := tk })
    (done : ∀ c (u : PySem.Str → Option Value) h tk, P k c → Fr h₀ env.locals h (kstB u (ps c)) → News h₀ env.locals h (Ld c) → Q .next { s with heap := h, toks := tk }) :
    wpAny (model prog w) A (pyIter (.ref I)) (fun it s₂ => LoopAtV prog w A h₀ env x body Q E it s₂) E s := by
  have hit : IsRangeIter s.heap I ((k : Int) - 1) k (-1) := (N _ hI).1
  refine wpAny_pyIter_rangeiter hit ?_
  have W := Walks.range (prog := prog) (w := w) hh I ((k : Int) - 1) (-1) k
  refine kdr_loop (news := Ld c₀) (fun i m nx => ∃ c : σ, nx = Ld c ∧ (∀ p ∈ ps c, m p.1 = some p.2) ∧ P i c) W (fun _ h => h) (fun _ h => h) ?_ ?_ ?_ ?_ ?_ F (fun p hp => N p (hn p hp)) ⟨c₀, rfl, hk, hp⟩ ?_ ?_
  · intro i h hi b hb
    rw [List.mem_singleton.mp hb]
    exact ⟨_, hi⟩
  · intro hm
    exact (N _ hI).2.1 (List.mem_singleton.mp hm).symm
  · intro b hb
    rw [List.mem_singleton.mp hb]
    exact (N _ hI).2.2
  · intro p hp hm
    exact hoff p hp (List.mem_singleton.mp hm)
  · show IsRangeIter _ _ _ _ _
    simpa using hit
  · rintro i v m₁ nx h tk own hi ⟨t, rfl⟩ ho ⟨c, rfl, h1, hp'⟩ F₁ N₁
    have em : kstB m₁ (ps c) = m₁ := by
      funext y
      exact kstB_eq h1 fun _ => rfl
    have ei : (k : Int) - 1 + (i : Int) * (-1) = ((k - 1 - i : Nat) : Int) := by omega
    rw [ei] at F₁
    refine wpAny_mono (turn i c t m₁ h tk own hi hp' ho (by rw [em]; exact F₁) N₁) (fun f s₂ p => ?_) fun _ _ e => e
    exact l_inv (fun c' m h1' h2' => ⟨c', rfl, h1', h2'⟩) p
  · rintro m₁ nx h tk ⟨c, rfl, h1, hp'⟩ F₁ N₁
    exact done c m₁ h tk hp' (fr_named h1 F₁) N₁
end
end Mine
end
/- Base3 -/
section
open PySem PySem.W PyProof.Rows PySem.Calls
set_option Elab.async false
namespace Mine
set_option maxRecDepth 100000

/-- the way into a def from which nothing of the caller's is changed: its ground is the heap as it stands -/
theorem code_pure {prog : Program} {w : World} {A : Around} {s : Shared} {K : Frag} {h₀ : Heap} {L : Addr} {m mg mb : PySem.Str → Option Value} {p : Program} {loose : List PySem.Str} {mean : ExcName → Option Value}
    {R : Result → Shared → Prop} {name qual : PySem.Str} {params : Arguments} {body : List Stmt} {scope : Scope} {dV kV doc pm cdv ct oc : Value} {an od : Option Addr} {osl : Array (Option Value)} {f : Addr} {args : Args} {binds : List (PySem.Str × Value)}
    (F : Fr h₀ L s.heap m) (X₀ : K.In h₀) (T : Top p loose mean mg mb h₀)
    (ho : K.lookup f = some ⟨oc, od, .func (fnOf name qual params body scope dV kV doc pm an cdv ct), osl⟩) (hcd : codeIn K cdv qual = true) (hroom : A.depth < recursionLimit)
    (hbind : BindsTo s (fnOf name qual params body scope dV kV doc pm an cdv ct) args binds) (hkind : (binds.all fun y => scope.names.lookup y.1 == some .local || scope.names.lookup y.1 == some .cell) = true)
    (hnd : ((cellsFrom 0 scope.names []).map (·.1)).Nodup)
    (h : ∀ L' h₁ tk cells, Fr s.heap L' h₁ (bindL (envOfC qual scope L' f cdv).kindOf binds fun _ => none) → News s.heap L' h₁ cells →
      CellsAre (bindC (envOfC qual scope L' f cdv).kindOf binds fun _ => none) (cellsFrom (L' + 1) scope.names []) cells → K.In s.heap → Top p loose mean mg mb s.heap →
      wpAny (model prog w) (A.deeper (envOfC qual scope L' f cdv)) (execs body (envOfC qual scope L' f cdv))
        (fun fl s' => LeaveK h₀ L m s.heap R (match fl with | .ret v => v | _ => .none) s')
        (fun e s' => wpAny (model prog w) (A.deeper (envOfC qual scope L' f cdv)) (leaving (envOfC qual scope L' f cdv) e) (fun _ s'' => R (.error e) s'') (fun e' s'' => R (.error e') s'') s')
        { s with heap := h₁, toks := tk })
    (hco : scope.isCoroutine = false) (hgen : scope.isGenerator = false) (hk : scope.kind = .function) : codeAny (model prog w) A (.call (.ref f) args) R s := by
  have lv : ∀ v s', LeaveK h₀ L m s.heap R v s' → R (.ok (.ret v)) s' := by
    rintro v s' ⟨L', m', news', F', N', k⟩
    refine k (F.keeps F'.keep) fun q hq => ⟨(N' q hq).1, fun e => ?_, ?_⟩
    · obtain ⟨oL, _, _, hL, _⟩ := F.ns
      have h9 := (N' q hq).2.2
      rw [e, hL] at h9
      cases h9
    · cases e : h₀.get? q.1 with
      | none => rfl
      | some o => have h9 := (N' q hq).2.2; rw [F.keep _ _ e] at h9; cases h9
  refine codeAny_call_function hroom ((X₀.keeps F.keep) _ _ ho) rfl hco hgen rfl (codeRec_of (X₀.keeps F.keep) hcd) (hbind _ _ _ _ ?_)
  refine wpAny_newFunctionEnv_cells hk (kindsX hkind _) fun env' he s' x => ?_
  subst he
  refine ⟨(T.nolimit.keeps F.keep).keeps x.toInCall.keep, codeAny_func ?_⟩
  obtain ⟨h₁, tk, rfl, _⟩ := x.done
  obtain ⟨cells, NC, Y⟩ := Cl.news (h₀ := s.heap) (Nat.le_refl _) fun n c hm => ⟨x.cell n c (lookup_of_mem_nodup (cellsFrom_names scope.names 0 (s.heap.objs.size + 1) [] [] rfl ▸ hnd) hm), x.above n c hm⟩
  exact wpAny_mono (h s.heap.objs.size h₁ tk cells ⟨x.toInCall.ns, x.toInCall.keep, Nat.le_refl _⟩ NC Y (X₀.keeps F.keep) (T.keeps F.keep)) (fun fl s' hl => lv _ _ hl) fun _ _ y => y

/-- the same, a def without cells -/
theorem code_pure0 {prog : Program} {w : World} {A : Around} {s : Shared} {K : Frag} {h₀ : Heap} {L : Addr} {m mg mb : PySem.Str → Option Value} {p : Program} {loose : List PySem.Str} {mean : ExcName → Option Value}
    {R : Result → Shared → Prop} {name qual : PySem.Str} {params : Arguments} {body : List Stmt} {scope : Scope} {dV kV doc pm cdv ct oc : Value} {an od : Option Addr} {osl : Array (Option Value)} {f : Addr} {args : Args} {binds : List (PySem.Str × Value)}
    (F : Fr h₀ L s.heap m) (X₀ : K.In h₀) (T : Top p loose mean mg mb h₀)
    (ho : K.lookup f = some ⟨oc, od, .func (fnOf name qual params body scope dV kV doc pm an cdv ct), osl⟩) (hcd : codeIn K cdv qual = true) (hroom : A.depth < recursionLimit)
    (hbind : BindsTo s (fnOf name qual params body scope dV kV doc pm an cdv ct) args binds) (hloc : ∀ y ∈ binds, scope.names.lookup y.1 = some .local)
    (h : ∀ L' h₁, Fr s.heap L' h₁ (fun y => binds.reverse.lookup y) → News s.heap L' h₁ [] → K.In s.heap → Top p loose mean mg mb s.heap →
      wpAny (model prog w) (A.deeper (envOf qual scope L' f cdv)) (execs body (envOf qual scope L' f cdv))
        (fun fl s' => LeaveK h₀ L m s.heap R (match fl with | .ret v => v | _ => .none) s')
        (fun e s' => wpAny (model prog w) (A.deeper (envOf qual scope L' f cdv)) (leaving (envOf qual scope L' f cdv) e) (fun _ s'' => R (.error e) s'') (fun e' s'' => R (.error e') s'') s')
        { s with heap := h₁, toks := s.toks + binds.length })
    (hco : scope.isCoroutine = false) (hgen : scope.isGenerator = false) (hk : scope.kind = .function) (hcell : ∀ x ∈ scope.names, x.2 ≠ .cell) : codeAny (model prog w) A (.call (.ref f) args) R s := by
  have lv : ∀ v s', LeaveK h₀ L m s.heap R v s' → R (.ok (.ret v)) s' := by
    rintro v s' ⟨L', m', news', F', N', k⟩
    refine k (F.keeps F'.keep) fun q hq => ⟨(N' q hq).1, fun e => ?_, ?_⟩
    · obtain ⟨oL, _, _, hL, _⟩ := F.ns
      have h9 := (N' q hq).2.2
      rw [e, hL] at h9
      cases h9
    · cases e : h₀.get? q.1 with
      | none => rfl
      | some o => have h9 := (N' q hq).2.2; rw [F.keep _ _ e] at h9; cases h9
  refine codeAny_call_def (fd := fnX name qual params body scope [] dV kV doc pm an cdv ct) (body := body) (binds := binds) hroom ((X₀.keeps F.keep) _ _ ho) rfl (T.nolimit.keeps F.keep) (codeRec_of (X₀.keeps F.keep) hcd) rfl hbind hcell hloc (fun h₁ hns hk₁ => ?_) hco hgen hk
  exact wpAny_mono (h s.heap.objs.size h₁ ⟨hns, hk₁, Nat.le_refl _⟩ News.nil (X₀.keeps F.keep) (T.keeps F.keep)) (fun fl s' hl => lv _ _ hl) fun _ _ y => y

/-- what a call of a def that changes nothing of its caller's gives -/
noncomputable abbrev PCtr (w : World) (p : PySem.Program) (loose : List PySem.Str) (mean : ExcName → Option Value) (mg mb : PySem.Str → Option Value) (dpN unN : Nat) (f : Addr) (args : List Value) (Pre : Heap → Prop) (Post : Value → Led → Prop) : Prop :=
  ∀ (dp un : Nat) (gd : Option (List Code)) (cn : PySem.Str) (cs : Scope) (a : Addr) (ccd : Value) (cl : List (PySem.Str × Addr)) (outer : List Env) (h₀ : Heap) (L : Addr) (m : PySem.Str → Option Value) (s : Shared) (Q E : Value → Shared → Prop),
    Fr h₀ L s.heap m → (hd.heap_39 w.params).In h₀ → Top p loose mean mg mb h₀ →
    dp + dpN < recursionLimit → un + unN < cLine → Pre s.heap →
    (∀ r add h' tk' L' m', Post r add → Fr s.heap L' h' m' → News s.heap L' h' add → Q r { s with heap := h', toks := tk' }) →
    wpAny (model PySem.Challenge.pw_kt0010_01 w) (ktrTop dp un gd cn cs L a ccd cl outer) (call (.ref f) args) Q E s

noncomputable def Apart (add news : Led) : Prop := ∀ q ∈ add, ∀ p ∈ news, p.1 ≠ q.1

section
variable {w : World} {p : PySem.Program} {loose : List PySem.Str} {mean : ExcName → Option Value} {mg mb : PySem.Str → Option Value}
theorem use_pctr {dpN unN : Nat} {f : Addr} {args : List Value} {news : Led} {Pre : Heap → Prop} {Post : Value → Led → Prop} {dp un : Nat} {gd : Option (List Code)} {cn : PySem.Str} {cs : Scope} {a : Addr} {ccd : Value} {cl : List (PySem.Str × Addr)} {outer : List Env} {h₀ : Heap} {L : Addr} {m : PySem.Str → Option Value} {s : Shared} {Q E : Value → Shared → Prop}
    (C : PCtr w p loose mean mg mb dpN unN f args Pre Post) (F : Fr h₀ L s.heap m) (X : (hd.heap_39 w.params).In h₀) (N : News h₀ L s.heap news) (T : Top p loose mean mg mb h₀)
    (hpre : Pre s.heap) (hd : dp + dpN < recursionLimit) (hu : un + unN < cLine)
    (ret : ∀ r add h' tk', Post r add → Fr h₀ L h' m → News h₀ L h' (add ++ news) → Apart add news → (∀ b o, s.heap.get? b = some o → h'.get? b = some o) → Q r { s with heap := h', toks := tk' }) :
    wpAny (model PySem.Challenge.pw_kt0010_01 w) (ktrTop dp un gd cn cs L a ccd cl outer) (call (.ref f) args) Q E s := by
  refine C dp un gd cn cs a ccd cl outer h₀ L m s Q E F X T hd hu hpre ?_
  intro r add h' tk' L' m' hp F' N'
  refine ret r add h' tk' hp (F.keeps F'.keep) ?_ ?_ F'.keep
  · intro q hq
    rcases List.mem_append.mp hq with hq | hq
    · refine ⟨(N' q hq).1, fun e => ?_, ?_⟩
      · obtain ⟨oL, _, _, hL, _⟩ := F.ns
        have h9 := (N' q hq).2.2
        rw [e, hL] at h9
        cases h9
      · cases e : h₀.get? q.1 with
        | none => rfl
        | some o => have h9 := (N' q hq).2.2; rw [F.keep _ _ e] at h9; cases h9
    · exact N.grown F'.keep q hq
  · intro q hq r hr e
    have h9 := (N' q hq).2.2
    rw [← e, (N r hr).1] at h9
    cases h9
end

/-- a text list of the caller's -/
noncomputable def TL (h : Heap) (a : Addr) (vs : List Value) (xs : List PySem.Str) : Prop := h.IsList a vs.toArray ∧ StrsAre vs xs

section
variable {prog : Program} {w : World} {A : Around} {E : Value → Shared → Prop} {s : Shared} {h₀ : Heap} {L D : Addr} {m : PySem.Str → Option Value} {news news' : Led} {vs : List Value} {xs : List PySem.Str} {n : Nat} {k : Int} {x : PySem.Str} {t u : Tok}
theorem b_item {value slice : PySem.Expr} {Q : Value → Shared → Prop} (F : Fr h₀ L s.heap m) (hl : h₀.IsList D vs.toArray) (hi : StrsAre vs xs) (h0 : 0 ≤ k) (h1 : k < xs.length) (hfit : k < 2 ^ 63) (h : ∀ t, Q (.str (xs.getD k.toNat Str.empty) t) s)
    (hs : subscripted slice false (.ref D) (.int k u) = operate [.ref D, .int k u] (getItem (.ref D) (.int k u)) := by with_unfolding_all rfl) (hg : ∀ r, letTemporaryGo value (.ref D) r = pure () := by intro _; with_unfolding_all rfl) :
    wpAny (model prog w) A (subscriptTail value slice (.ref D) (.int k u)) Q E s := item_strsA (hl.at fun o e => F.keep _ o e) hi h0 h1 hfit h hs hg
theorem b_len {Q : Value → Shared → Prop} (F : Fr h₀ L s.heap m) (hl : h₀.IsList D vs.toArray) (hi : StrsAre vs xs) (hz : xs.length ≤ 2 ^ 20)
    (h : Q (.int xs.length (s.toks + 1)) { s with toks := s.toks + 1 + 1 }) : wpAny (model prog w) A (call (.builtin "len") [.ref D]) Q E s :=
  len_strsA (hl.at fun o e => F.keep _ o e) hi (by omega) h
end

section
variable {prog : Program} {w : World} {A : Around} {E : Value → Shared → Prop} {Q : Flow → Shared → Prop} {s : Shared} {env : Env} {h₀ : Heap} {x : PySem.Str} {body : List Stmt}
/-- for over a list of the ground's -/
theorem l_base {σ : Type} {l : Addr} {vs : List Value} {m₀ : PySem.Str → Option Value} {news : Led} (Ld : σ → Led) (ps : σ → List (PySem.Str × Value)) (P : Nat → σ → Prop) (c₀ : σ)
    (hh : A.handled = none) (hl : h₀.IsList l vs.toArray) (F : Fr h₀ env.locals s.heap m₀) (N : News h₀ env.locals s.heap news) (hn : ∀ p ∈ Ld c₀, p ∈ news) (hk : ∀ p ∈ ps c₀, m₀ p.1 = some p.2) (hp : P 0 c₀)
    (turn : ∀ i c v (u : PySem.Str → Option Value) h tk own, vs[i]? = some v → P i c → OwnOff own ((Ld c).map (·.1)) → Fr h₀ env.locals h (fun y => if y = x then some v else kstB u (ps c) y) → News h₀ env.locals h (Ld c ++ own) →
      wpAny (model prog w) A (execs body env) (LPost h₀ env.locals { s with heap := h, toks := tk } Ld ps P Q own i) E { s with heap := h, toks := tk })
    (done : ∀ c (u : PySem.Str → Option Value) h tk, P vs.length c → Fr h₀ env.locals h (kstB u (ps c)) → News h₀ env.locals h (Ld c) → Q .next { s with heap := h, toks := tk }) :
    wpAny (model prog w) A (pyIter (.ref l)) (fun it s₂ => LoopAtV prog w A h₀ env x body Q E it s₂) E s := by
  have hls : s.heap.IsList l vs.toArray := hl.at fun o e => F.keep l o e
  obtain ⟨ol, hol, _⟩ := id hl
  have hlt : l < h₀.objs.size := Heap.lt_size hol
  have hLI : env.locals < s.heap.objs.size := F.ns.lt
  have hlL : l < env.locals := Nat.lt_of_lt_of_le hlt F.above
  have hne : l ≠ s.heap.objs.size := Nat.ne_of_lt (Nat.lt_trans hlL hLI)
  have hI0 : h₀.get? s.heap.objs.size = none := next_is_new F
  refine wpAny_pyIter_list hls ?_
  have W := Walks.list (prog := prog) (w := w) hh s.heap.objs.size l hne vs.toArray
  rw [show vs.toArray.size = vs.length by simp] at W
  refine ⟨_, _, _, vs.length, _, _, m₀, Ld c₀, (fun i m nx => ∃ c : σ, nx = Ld c ∧ (∀ p ∈ ps c, m p.1 = some p.2) ∧ P i c), rfl, W, fun hm => ?_, fun b hb => ?_, fun p hp hI => ?_,
    ⟨⟨_, Heap.get?_push_size _ rfl, rfl, rfl⟩, hls.at fun o e => Heap.get?_push_of_some _ e⟩, F.push _, (fun p hp => ⟨Heap.get?_push_of_some _ (N p (hn p hp)).1, (N p (hn p hp)).2⟩), ⟨c₀, rfl, hk, hp⟩, ?_, ?_⟩
  · rcases List.mem_cons.mp hm with e | hm
    · exact absurd hLI (e ▸ Nat.lt_irrefl _)
    · exact absurd hlL ((List.mem_singleton.mp hm) ▸ Nat.lt_irrefl _)
  · rw [List.mem_singleton.mp hb]; exact hI0
  · exact absurd (Heap.lt_size (N p (hn p hp)).1) ((List.mem_singleton.mp hI) ▸ Nat.lt_irrefl _)
  · rintro i v m₁ nx s₁ own ⟨h, tk, rfl⟩ hi hP ⟨c, rfl, h1, hp'⟩ hoff hown _ hfp hst F₁ N₁
    obtain ⟨⟨oI, hoI, _⟩, _⟩ := id hst
    have hIown : (s.heap.objs.size, oI) ∈ own := hfp _ (List.mem_cons.mpr (.inl rfl)) hI0 _ hoI
    have hsep : OwnOff own ((Ld c).map (·.1)) := by
      intro q hq b hb e
      obtain ⟨r, hr, rfl⟩ := List.mem_map.mp hb
      rcases List.mem_cons.mp (hown q hq) with g1 | g1
      · exact hoff r hr (List.mem_singleton.mpr (e ▸ g1))
      · have g3 := (N₁ r (List.mem_append.mpr (.inr hr))).2.2
        rw [← e, List.mem_singleton.mp g1, hol] at g3
        cases g3
    have N₂ : News h₀ env.locals h (Ld c ++ own) := fun q hq => N₁ q ((List.mem_append.mp hq).elim (fun y => List.mem_append.mpr (.inr y)) fun y => List.mem_append.mpr (.inl y))
    have em : kstB m₁ (ps c) = m₁ := by
      funext y
      exact kstB_eq h1 fun _ => rfl
    have hv : vs[i]? = some v := by simpa using hP
    refine wpAny_mono (turn i c v m₁ h tk own hv hp' hsep (by rw [em]; exact F₁) N₂) (fun f s₂ p => ?_) fun _ _ e => e
    have fin : LEnd h₀ env.locals { s with heap := h, toks := tk } Ld ps P own i s₂ →
        LoopStepU h₀ env.locals [s.heap.objs.size] own (fun m nx => ∃ c : σ, nx = Ld c ∧ (∀ p ∈ ps c, m p.1 = some p.2) ∧ P (i + 1) c) { s with heap := h, toks := tk } .next s₂ := by
      rintro ⟨c', h', tk', m', news', rfl, F', N', g1, g2, g3, g4, g5⟩
      refine ⟨rfl, h', tk', m', Ld c', rfl, F', fun q hq => N' q ((List.mem_append.mp hq).elim (g2 q) (g1 q)), fun q hq hq' => ?_, c', rfl, g4, g5⟩
      exact g3 _ hIown q.1 (List.mem_map.mpr ⟨q, hq, rfl⟩) (List.mem_singleton.mp hq').symm
    cases f with
    | ret v => exact .ret p
    | brk => exact .brk p
    | next => exact .next (fin p)
    | cont => exact .cont (fin p)
  · rintro h tk m₁ nx F₁ N₁ _ ⟨c, rfl, h1, hp'⟩
    exact done c m₁ h tk hp' (fr_named h1 F₁) N₁
end

/-- the rest of a comprehension over a range, by what its list holds so far -/
theorem comp_rest {prog : Program} {w : World} {A : Around} {s : Shared} {env : Env} {h₀ : Heap} {L : Addr} {m : PySem.Str → Option Value} {elt : PySem.Expr} {x : PySem.Str} {scope : Scope} {cl : List (PySem.Str × Addr)} {S : Led → Prop} {PV : Nat → Value → Prop} {Fin : List Value → Led → Prop} {news : Led} {n : Nat}
    (J : Nat → List Value → Led → Prop) (h0 : J 0 [] news)
    (turn : ∀ i v ys nx I oI C oC D m₂ h tk (E' : Value → Shared → Prop), i < n → PV i v → J i ys nx → LCg.NsObj oC m₂ → m₂ x = some v → Fr h₀ L h m → News h₀ L h ((I, oI) :: (C, oC) :: (D, LCg.lst ys) :: nx) → LCg.Off3 I C D nx → ((@Ne Nat I C) ∧ (@Ne Nat I D) ∧ (@Ne Nat C D)) →
      wpAny (model prog w) A (eval elt (compEnvC scope cl C env)) (LCg.CompEnd h₀ L m { s with heap := h, toks := tk } I oI C oC D (LCg.lst ys) S (fun y nx' => J (i + 1) (ys ++ [y]) nx')) E' { s with heap := h, toks := tk })
    (fin : ∀ ys nx, J n ys nx → Fin ys nx) : LCg.CompRest prog w A h₀ L m env elt x scope cl s S PV Fin n 0 [] news := by
  have key : ∀ (j i : Nat) (ys : List Value) (nx : Led), i + j = n → J i ys nx → LCg.CompRest prog w A h₀ L m env elt x scope cl s S PV Fin j i ys nx := by
    intro j
    induction j with
    | zero =>
      intro i ys nx hi hj
      have e : i = n := by omega
      subst e
      exact LCg.CompRest.zero (fin ys nx hj)
    | succ j ih =>
      intro i ys nx hi hj
      refine LCg.CompRest.succ ?_
      intro v I oI C oC D m₂ h tk E' hv hC hx F N off ne
      refine wpAny_mono (turn i v ys nx I oI C oC D m₂ h tk E' (by omega) hv hj hC hx F N off ne) (fun y s₂ hq => ?_) fun _ _ e => e
      obtain ⟨h', tk', nw, e, F', N', off', hS, hr⟩ := hq
      exact ⟨h', tk', nw, e, F', N', off', hS, ih (i + 1) _ _ (by omega) hr⟩
  exact key n 0 [] news (by omega) h0
/-- a word that the walk does not open -/
structure Hold (P : Prop) : Prop where
  out : P

section
variable {prog : Program} {w : World} {A : Around} {E : Value → Shared → Prop} {s : Shared} {h₀ : Heap} {L D : Addr} {m : PySem.Str → Option Value} {vs : List Value} {xs : List PySem.Str} {k : Int} {u : Tok}
/-- xs[k], k nought or more: the text, or an IndexError -/
theorem b_item_try {value slice : PySem.Expr} {Q : Value → Shared → Prop} (hA : A.handled = none) (F : Fr h₀ L s.heap m) (hl : h₀.IsList D vs.toArray) (hi : StrsAre vs xs) (h0 : 0 ≤ k) (hfit : k < 2 ^ 63)
    (hin : k < xs.length → ∀ t, Q (.str (xs.getD k.toNat Str.empty) t) s) (hout : (xs.length : Int) ≤ k → ∀ h' tk e, Heap.NewExc s.heap h' e "IndexError" → E (.ref e) { s with heap := h', toks := tk })
    (hs : subscripted slice false (.ref D) (.int k u) = operate [.ref D, .int k u] (getItem (.ref D) (.int k u)) := by with_unfolding_all rfl) (hg : ∀ r, letTemporaryGo value (.ref D) r = pure () := by intro _; with_unfolding_all rfl) :
    wpAny (model prog w) A (subscriptTail value slice (.ref D) (.int k u)) Q E s := by
  have hl' : s.heap.IsList D vs.toArray := hl.at fun o e => F.keep _ o e
  have hsz : vs.toArray.size = xs.length := by rw [List.size_toArray]; exact hi.length
  by_cases h : k < xs.length
  · exact item_strsA hl' hi h0 h hfit (hin h) hs hg
  · exact subscriptTail_builtin hl'.typeIs slot_list_getitem.lookup (wpAny_getItem_list_out hA hl' (by rw [hsz]; omega) (by omega) hfit (hout (by omega))) hs hg
end
end Mine
end
/- Base4 -/
section
open PySem PySem.W PyProof.Rows PySem.Calls
set_option Elab.async false
namespace Mine
set_option maxRecDepth 100000

/-- the items at which `f` holds, of the first i -/
noncomputable def keepI {α : Type} (f : Nat → Bool) (vs : List α) : Nat → List α
  | 0 => []
  | i + 1 => keepI f vs i ++ (match vs[i]? with | some v => if f i then [v] else [] | none => [])

theorem keepI_len {α : Type} (f : Nat → Bool) (vs : List α) : ∀ j, (keepI f vs j).length ≤ j
  | 0 => Nat.le_refl _
  | j + 1 => by
    have ih := keepI_len f vs j
    show (keepI f vs j ++ _).length ≤ j + 1
    rw [List.length_append]
    have : (match vs[j]? with | some v => if f j then [v] else [] | none => ([] : List α)).length ≤ 1 := by
      split
      · split <;> simp
      · simp
    omega

theorem strs_keep {f : Nat → Bool} {vs : List Value} {xs : List PySem.Str} (h : StrsAre vs xs) : ∀ j, StrsAre (keepI f vs j) (keepI f xs j)
  | 0 => .nil
  | j + 1 => by
    have ih := strs_keep (f := f) h j
    show StrsAre (keepI f vs j ++ _) (keepI f xs j ++ _)
    cases q : vs[j]? with
    | none =>
      have : xs[j]? = none := by rw [List.getElem?_eq_none_iff] at q ⊢; rw [← h.length]; exact q
      rw [this]
      simpa using ih
    | some v =>
      obtain ⟨y, t, rfl, hy⟩ := h.item j v q
      rw [hy]
      dsimp only
      split
      · exact ih.append' (.cons _ _ .nil)
      · simpa using ih

theorem nsObj_new : LCg.NsObj { cls := .type "dict", data := .dict #[] } (fun _ => none) := by
  refine ⟨#[], 0, rfl, ?_, fun _ => rfl⟩
  intro x hx
  simp at hx

section
variable {prog : Program} {w : World} {A : Around} {E : Value → Shared → Prop} {s : Shared} {h₀ : Heap} {L : Addr} {m : PySem.Str → Option Value} {env : Env}

/-- the loop's state, a comprehension over enumerate -/
inductive EnumInv (h₀ : Heap) (L : Addr) (m : PySem.Str → Option Value) (s₂ : Shared) (e it l C D : Addr) (vs : List Value) (news : Led) (f : Nat → Bool) (k : Nat) (s' : Shared) : Prop
  | mk (h' : Heap) (tk i : Nat) (m' : PySem.Str → Option Value) : s' = { s₂ with heap := h', toks := tk } → i ≤ vs.length → k = vs.length + 1 - i → (∃ old, IsEnum h' e it (i : Int) old) → h'.IsListIter it l i → h'.IsList l vs.toArray →
    Fr h₀ L h' m → h'.Ns C m' → News h₀ L h' ((D, LCg.lst (keepI f vs i)) :: news) → EnumInv h₀ L m s₂ e it l C D vs news f k s'
/-- a comprehension over enumerate(xs) with one test that changes nothing, its element the item -/
theorem enum_comp {ct iter : PySem.Expr} {xk xn : PySem.Str} {pk pn pe tp : Pos} {kk : Nat} {scope : Scope} {cl : List (PySem.Str × Addr)} {pos : Pos} {s₂ : Shared} {e it l : Addr} {vs : List Value} {news : Led} (f : Nat → Bool)
    {RR : Value → Addr → Result → Shared → Prop} (hh : A.handled = none) (hsz : vs.length ≤ sizeLine) (hei : e ≠ it) (hle : l ≠ e) (hli : l ≠ it)
    (hcell : ∀ y ∈ scope.names, y.2 ≠ .cell) (hkind : scope.kind = .function) (hxk : scope.names.lookup xk = some .local) (hxn : scope.names.lookup xn = some .local) (hne : xk ≠ xn) (hdb : (xn == ("__debug__" : PySem.Str)) = false)
    (he : IsEnum s₂.heap e it 0 .none) (hit : s₂.heap.IsListIter it l 0) (hl : s₂.heap.IsList l vs.toArray) (he₀ : h₀.get? e = none) (hi₀ : h₀.get? it = none) (hLe : L ≠ e) (hLi : L ≠ it)
    (F : Fr h₀ L s₂.heap m) (N : News h₀ L s₂.heap news) (off : ∀ p ∈ news, p.1 ≠ e ∧ p.1 ≠ it)
    (turn : ∀ (i : Nat) x t C oC D ys m₂ h tk (E' : Value → Shared → Prop), vs[i]? = some x → LCg.NsObj oC m₂ → m₂ xk = some (.int (i : Int) t) → m₂ xn = some x → Fr h₀ L h m → News h₀ L h ((C, oC) :: (D, LCg.lst ys) :: news) → (∀ p ∈ news, p.1 < D) → D < C →
      wpAny (model prog w) A (isTrue ct (compEnvC scope cl C env) (eval ct (compEnvC scope cl C env))) (fun ok s' => ok = f i ∧ ∃ tk', s' = { s₂ with heap := h, toks := tk' }) E' { s₂ with heap := h, toks := tk })
    (hRR : ∀ D C h tk m', Fr h₀ L h m → News h₀ L h ((D, LCg.lst (keepI f vs vs.length)) :: news) → (∀ p ∈ news, p.1 < D) → h.Ns C m' → h₀.get? C = none → C ≠ L → C ≠ D → (∀ p ∈ news, p.1 ≠ C) → RR (.ref D) C (.ok .next) { s₂ with heap := h, toks := tk }) :
    wpAny (model prog w) A (newList []) (fun acc s₃ => wpAny (model prog w) A (newFunctionEnv scope env.globals cl [] env.qual none .none (some env)) (fun cenv s₄ =>
      codeAny (model prog w) A (.compStart (.ListComp (.Name xn pe) [⟨.Tuple [.Name xk pk, .Name xn pn] kk tp, iter, [ct], 0⟩] scope pos) 0 (.ref e) acc { cenv with scope := relabel scope env }) (RR acc cenv.locals) s₄) E s₃) E s₂ := by
  refine wpAny_newObj_type (wpAny_newFunctionEnv hcell (by intro y hy; simp at hy) (fun h₁ hns₁ hsb₁ => ?_) hkind)
  dsimp only at hns₁ hsb₁ ⊢
  generalize hH2 : s₂.heap.push { cls := .type "list", dict := none, data := .seq ([] : List Value).toArray } = H2 at hns₁ hsb₁ ⊢
  have hC : H2.objs.size = s₂.heap.objs.size + 1 := by rw [← hH2, Heap.size_push]
  generalize hD : s₂.heap.objs.size = D at *
  generalize hCC : H2.objs.size = C at *
  have hDC : D < C := by omega
  have lt : ∀ b o, s₂.heap.get? b = some o → b < D := fun b o e => hD ▸ Heap.lt_size e
  have old : ∀ b o, s₂.heap.get? b = some o → h₁.get? b = some o := fun b o e => hsb₁.extBut b o (Nat.ne_of_lt (Nat.lt_trans (lt b o e) hDC)) (Heap.get?_push_of_some _ (hH2 ▸ Heap.get?_push_of_some _ e))
  have hacc : h₁.get? D = some (LCg.lst []) := hsb₁.extBut _ _ (Nat.ne_of_lt hDC) (Heap.get?_push_of_some _ (hH2 ▸ hD ▸ Heap.get?_push_size _ rfl))
  have fresh₀ : ∀ a, D ≤ a → h₀.get? a = none := fun a ha => by
    cases q : h₀.get? a with
    | none => rfl
    | some o' => exact absurd (lt a o' (F.keep a o' q)) (Nat.not_lt.mpr ha)
  have hLlt : L < D := hD ▸ F.ns.lt
  have helt : e < D := lt _ _ he
  have hitlt : it < D := by obtain ⟨_, q, _⟩ := hit; exact lt _ _ q
  have hllt : l < D := by obtain ⟨_, q, _⟩ := hl; exact lt _ _ q
  have nlt : ∀ p ∈ news, p.1 < D := fun p hp => lt _ _ (N p hp).1
  have N₁ : News h₀ L h₁ ((D, LCg.lst []) :: news) := fun p hp => by
    rcases List.mem_cons.mp hp with rfl | hp
    · exact ⟨hacc, Nat.ne_of_gt hLlt, fresh₀ _ (Nat.le_refl _)⟩
    · exact ⟨old _ _ (N p hp).1, (N p hp).2⟩
  have st₁ : IsEnum h₁ e it 0 .none ∧ h₁.IsListIter it l 0 ∧ h₁.IsList l vs.toArray := ⟨old _ _ he, hit.at fun o => old _ o, hl.at fun o => old _ o⟩
  have loop : ∀ s₃ : Shared, s₃ = { s₂ with heap := h₁, toks := s₂.toks + ([] : List (PySem.Str × Value)).length } →
      codeAny (model prog w) A (.compLoop (.ListComp (.Name xn pe) [⟨.Tuple [.Name xk pk, .Name xn pn] kk tp, iter, [ct], 0⟩] scope pos) 0 (.ref e) (.ref D) (compEnvC scope cl C env)) (RR (.ref D) C) s₃ := by
    rintro s₃ rfl
    refine kct_loop (EnumInv h₀ L m s₂ e it l C D vs news f) ?_ (vs.length + 1) ⟨h₁, _, 0, _, rfl, Nat.zero_le _, rfl, ⟨_, st₁.1⟩, st₁.2.1, st₁.2.2, F.keeps old, hns₁, N₁⟩
    rintro k s' ⟨h', tk, i, m', rfl, hi, rfl, ⟨od, e1⟩, e2, e3, F', hn', N'⟩
    have keepsTo : ∀ {g : Heap}, (∀ b o, b ≠ e → b ≠ it → h'.get? b = some o → g.get? b = some o) → Fr h₀ L g m ∧ g.Ns C m' ∧ News h₀ L g ((D, LCg.lst (keepI f vs i)) :: news) ∧ g.IsList l vs.toArray := fun {g} hk => by
      refine ⟨⟨F'.ns.at' fun o q => hk _ o hLe hLi q, fun b o q => hk b o (fun z => by rw [z, he₀] at q; cases q) (fun z => by rw [z, hi₀] at q; cases q) (F'.keep b o q), F'.above⟩,
        hn'.at' fun o q => hk _ o (Nat.ne_of_gt (Nat.lt_trans helt hDC)) (Nat.ne_of_gt (Nat.lt_trans hitlt hDC)) q, fun p hp => ?_, e3.at fun o q => hk _ o hle hli q⟩
      refine ⟨hk _ _ ?_ ?_ (N' p hp).1, (N' p hp).2⟩ <;> rcases List.mem_cons.mp hp with rfl | hp
      · exact Nat.ne_of_gt helt
      · exact (off p hp).1
      · exact Nat.ne_of_gt hitlt
      · exact (off p hp).2
    by_cases hlt : i < vs.length
    · have hx : vs.toArray[i]? = some vs[i] := by simp [hlt]
      refine wpAny_pyNext_enum_item e1 e2 e3 hx hei fun g1 o1 i1 T1 z1 k1 => ?_
      dsimp only
      obtain ⟨Fa, na, Na, la⟩ := keepsTo (g := g1) k1
      refine wpAny_letOwnedTupleGo_enum o1 fun g2 e2' sb2 => ?_
      have hTe : h'.objs.size ≠ e := Nat.ne_of_gt (Heap.lt_size e1)
      have k2 : ∀ b o, b ≠ e → b ≠ it → h'.get? b = some o → g2.get? b = some o := fun b o hb1 hb2 q => sb2.extBut b o hb1 (k1 b o hb1 hb2 q)
      have hT2 : g2.IsTuple h'.objs.size #[.int (i : Int) tk, vs[i]] := ⟨_, sb2.extBut _ _ hTe T1, rfl, _, rfl⟩
      have i2 : g2.IsListIter it l (i + 1) := i1.extBut sb2.extBut hei.symm
      obtain ⟨Fb, nb, Nb, lb⟩ := keepsTo (g := g2) k2
      refine kcp_assign hh hT2 (lookup_relabel_local hxk) (lookup_relabel_local hxn) (by simp [compEnvC, relabel, hkind]) nb fun g3 tk3 n3 k3 => ?_
      have hCe : e ≠ C := Nat.ne_of_lt (Nat.lt_trans helt hDC)
      have hCi : it ≠ C := Nat.ne_of_lt (Nat.lt_trans hitlt hDC)
      have F3 : Fr h₀ L g3 m := ⟨Fb.ns.at' fun o q => k3 _ o (Nat.ne_of_lt (Nat.lt_trans hLlt hDC)) q, fun b o q => k3 b o (fun z => by have z' : b = C := z; rw [z', fresh₀ C (Nat.le_of_lt hDC)] at q; cases q) (Fb.keep b o q), Fb.above⟩
      obtain ⟨oC, hoC, nC⟩ := LCg.ns_obj n3
      have N3 : News h₀ L g3 ((C, oC) :: (D, LCg.lst (keepI f vs i)) :: news) := fun p hp => by
        rcases List.mem_cons.mp hp with rfl | hp
        · exact ⟨hoC, Nat.ne_of_gt (Nat.lt_trans hLlt hDC), fresh₀ _ (Nat.le_of_lt hDC)⟩
        · refine ⟨k3 _ _ ?_ (Nb p hp).1, (Nb p hp).2⟩
          rcases List.mem_cons.mp hp with rfl | hp
          · exact Nat.ne_of_lt hDC
          · exact Nat.ne_of_lt (Nat.lt_trans (nlt p hp) hDC)
      have E3 : IsEnum g3 e it ((i : Int) + 1) vs[i] := k3 _ _ hCe e2'
      have I3 : g3.IsListIter it l (i + 1) := i2.at fun o => k3 _ o hCi
      have L3 : g3.IsList l vs.toArray := lb.at fun o => k3 _ o (Nat.ne_of_lt (Nat.lt_trans hllt hDC))
      refine wpAny_mono (turn i vs[i] tk C oC D _ _ g3 tk3 _ (by simp [hlt]) nC (by simp [hne]) (by simp) F3 N3 nlt hDC) (fun ok s₃ hq => ?_) fun _ _ z => z
      obtain ⟨rfl, tk4, rfl⟩ := hq
      have hkp : keepI f vs (i + 1) = keepI f vs i ++ (if f i then [vs[i]] else []) := by
        rw [keepI, List.getElem?_eq_getElem hlt]
      cases hfi : f i with
      | true =>
        simp only [if_true]
        refine ldVarK (m := _) (nC.ns hoC) (v := vs[i]) (by simp) ?_ (by simp [compEnvC, relabel, hkind]) (lookup_relabel_local hxn) hdb
        have hszD : (keepI f vs i).toArray.size ≤ sizeLine := by
          rw [List.size_toArray]
          exact Nat.le_trans (keepI_len f vs i) (Nat.le_trans hi hsz)
        refine append_at (hsz := hszD) (N3 _ (.tail _ (.head _))).1 fun g5 hs5 hD5 => ?_
        refine ⟨vs.length + 1 - (i + 1), meas1 hlt, g5, tk4, i + 1, _, rfl, hlt, rfl, ⟨_, hs5.extBut _ _ (Nat.ne_of_lt helt) E3⟩, I3.extBut hs5.extBut (Nat.ne_of_lt hitlt), L3.at fun o => hs5.extBut _ o (Nat.ne_of_lt hllt),
          F3.change hs5 (Nat.ne_of_gt hLlt) (fresh₀ _ (Nat.le_refl _)), n3.sameBut hs5 (Nat.ne_of_gt hDC), fun p hp => ?_⟩
        rcases List.mem_cons.mp hp with rfl | hp
        · refine ⟨?_, Nat.ne_of_gt hLlt, fresh₀ _ (Nat.le_refl _)⟩
          rw [hkp, hfi, if_pos rfl, ← LCg.lst_snoc]
          exact hD5
        · have z := N3 p (.tail _ (.tail _ hp))
          exact ⟨hs5.extBut _ _ (Nat.ne_of_lt (nlt p hp)) z.1, z.2⟩
      | false =>
        simp only [Bool.false_eq_true, if_false]
        refine ⟨vs.length + 1 - (i + 1), meas1 hlt, g3, tk4, i + 1, _, rfl, hlt, rfl, ⟨_, E3⟩, I3, L3, F3, n3, fun p hp => ?_⟩
        rw [hkp, hfi, if_neg (by decide), List.append_nil] at hp
        exact N3 p (.tail _ hp)
    · obtain rfl : i = vs.length := Nat.le_antisymm hi (Nat.not_lt.mp hlt)
      refine wpAny_pyNext_enum_end hh e1 e2 e3 (by simp) fun g1 x1 => ?_
      obtain ⟨Fa, na, Na, la⟩ := keepsTo (g := g1) (fun b o _ hb q => x1 b o hb q)
      exact hRR D C g1 tk m' Fa Na nlt na (fresh₀ _ (Nat.le_of_lt hDC)) (Nat.ne_of_gt (Nat.lt_trans hLlt hDC)) (Nat.ne_of_gt hDC) fun p hp => Nat.ne_of_lt (Nat.lt_trans (nlt p hp) hDC)
  exact codeAny_compStart_list (loop _ rfl) (wpAny_pyIter_enum st₁.1 (loop _ rfl))

/-- what the source of such a comprehension must come to -/
inductive EnumSrc (prog : Program) (w : World) (A : Around) (h₀ : Heap) (L : Addr) (m : PySem.Str → Option Value) (ct : PySem.Expr) (xk xn : PySem.Str) (scope : Scope) (cl : List (PySem.Str × Addr)) (env : Env) (Q : Value → Shared → Prop) (xv : Value) (s₂ : Shared) : Prop
  | mk (e it l : Addr) (vs : List Value) (news : Led) (f : Nat → Bool) :
    xv = .ref e →
    vs.length ≤ sizeLine →
    e ≠ it →
    l ≠ e →
    l ≠ it →
    IsEnum s₂.heap e it 0 .none →
    s₂.heap.IsListIter it l 0 →
    s₂.heap.IsList l vs.toArray →
    h₀.get? e = none →
    h₀.get? it = none →
    L ≠ e →
    L ≠ it →
    Fr h₀ L s₂.heap m →
    News h₀ L s₂.heap news →
    (∀ p ∈ news, p.1 ≠ e ∧ p.1 ≠ it) →
    (∀ (i : Nat) x t C oC D ys m₂ h tk (E' : Value → Shared → Prop), vs[i]? = some x → LCg.NsObj oC m₂ → m₂ xk = some (.int (i : Int) t) → m₂ xn = some x → Fr h₀ L h m → News h₀ L h ((C, oC) :: (D, LCg.lst ys) :: news) → (∀ p ∈ news, p.1 < D) → D < C →
      wpAny (model prog w) A (isTrue ct (compEnvC scope cl C env) (eval ct (compEnvC scope cl C env))) (fun ok s' => ok = f i ∧ ∃ tk', s' = { s₂ with heap := h, toks := tk' }) E' { s₂ with heap := h, toks := tk }) →
    (∀ D h tk, Fr h₀ L h m → News h₀ L h ((D, LCg.lst (keepI f vs vs.length)) :: news) → (∀ p ∈ news, p.1 < D) → Q (.ref D) { s₂ with heap := h, toks := tk }) →
    EnumSrc prog w A h₀ L m ct xk xn scope cl env Q xv s₂

theorem ListComp_enum {ct iter : PySem.Expr} {xk xn : PySem.Str} {pk pn pe tp : Pos} {kk : Nat} {scope : Scope} {cl : List (PySem.Str × Addr)} {pos : Pos} {Q : Value → Shared → Prop} (_F₀ : Fr h₀ L s.heap m) (hh : A.handled = none)
    (hclos : closureFor scope env = pure cl) (hcell : ∀ y ∈ scope.names, y.2 ≠ .cell) (hkind : scope.kind = .function) (hnames : ∀ y ∈ scope.names, y.2 = .local → scope.names.lookup y.1 = some .local)
    (hxk : scope.names.lookup xk = some .local) (hxn : scope.names.lookup xn = some .local) (hne : xk ≠ xn) (hdb : (xn == ("__debug__" : PySem.Str)) = false)
    (h : wpAny (model prog w) A (eval iter env) (EnumSrc prog w A h₀ L m ct xk xn scope cl env Q) E s)
    (hs : ∀ x, foldedSetIterable iter env x = pure x := by intro _; rfl) :
    wpAny (model prog w) A (eval (.ListComp (.Name xn pe) [⟨.Tuple [.Name xk pk, .Name xn pn] kk tp, iter, [ct], 0⟩] scope pos) env) Q E s := by
  rw [eval_ListComp]
  refine wpAny_comprehension_free (use := none) rfl hs hclos hkind hnames (wpAny_mono h (fun xv s₁ h₁ => ?_) fun _ _ e => e)
  obtain ⟨e, it, l, vs, news, f, rfl, hsz, hei, hle, hli, he, hit, hl, he₀, hi₀, hLe, hLi, F, N, off, turn, fin⟩ := h₁
  refine wpAny_pyIter_enum he (enum_comp f hh hsz hei hle hli hcell hkind hxk hxn hne hdb he hit hl he₀ hi₀ hLe hLi F N off turn ?_)
  intro D C h' tk m' F' N' nlt hn hC₀ hCL hCD offC
  refine ⟨m', hn, fun h'' hs'' => fin D h'' tk (F'.change hs'' hCL hC₀) (fun p hp => ?_) nlt⟩
  refine ⟨hs''.extBut _ _ ?_ (N' p hp).1, (N' p hp).2⟩
  rcases List.mem_cons.mp hp with rfl | hp
  · exact Ne.symm hCD
  · exact offC p hp

/-- the source enumerate(list of the ledger) -/
theorem enum_src {ct : PySem.Expr} {xk xn : PySem.Str} {scope : Scope} {cl : List (PySem.Str × Addr)} {Q : Value → Shared → Prop} {l : Addr} {vs : List Value} {n : Nat} {news news' : Led} (f : Nat → Bool)
    (F : Fr h₀ L s.heap m) (N : News h₀ L s.heap news) (hm : (l, listOf vs.toArray n) ∈ news) (hsub : ∀ p ∈ news', p ∈ news) (hsz : vs.length ≤ sizeLine)
    (turn : ∀ (i : Nat) x t C oC D ys m₂ h tk (E' : Value → Shared → Prop), vs[i]? = some x → LCg.NsObj oC m₂ → m₂ xk = some (.int (i : Int) t) → m₂ xn = some x → Fr h₀ L h m → News h₀ L h ((C, oC) :: (D, LCg.lst ys) :: news') → (∀ p ∈ news', p.1 < D) → D < C →
      wpAny (model prog w) A (isTrue ct (compEnvC scope cl C env) (eval ct (compEnvC scope cl C env))) (fun ok s' => ok = f i ∧ ∃ tk', s' = { s with heap := h, toks := tk' }) E' { s with heap := h, toks := tk })
    (fin : ∀ D h tk, Fr h₀ L h m → News h₀ L h ((D, LCg.lst (keepI f vs vs.length)) :: news') → (∀ p ∈ news', p.1 < D) → Q (.ref D) { s with heap := h, toks := tk }) :
    wpAny (model prog w) A (call (.type "enumerate") [.ref l]) (EnumSrc prog w A h₀ L m ct xk xn scope cl env Q) E s := by
  have hl := (N _ hm).1
  have hlt : l < s.heap.objs.size := Heap.lt_size hl
  refine call_enumerate_1 hl fun h' he hit hz up => ?_
  have fresh : ∀ a, s.heap.objs.size ≤ a → h₀.get? a = none := fun a ha => by
    cases q : h₀.get? a with
    | none => rfl
    | some o' => exact absurd (Heap.lt_size (F.keep a o' q)) (Nat.not_lt.mpr ha)
  have hLlt := F.ns.lt
  refine ⟨_, _, l, vs, news', f, rfl, hsz, Nat.succ_ne_self _, Nat.ne_of_lt (Nat.lt_succ_of_lt hlt), Nat.ne_of_lt hlt, he, hit, ⟨_, up _ _ hl, rfl, _, rfl⟩, fresh _ (Nat.le_succ _), fresh _ (Nat.le_refl _), Nat.ne_of_lt (Nat.lt_succ_of_lt hLlt), Nat.ne_of_lt hLlt, F.keeps up, fun p hp => ?_, fun p hp => ?_, turn, fin⟩
  · exact ⟨up _ _ (N p (hsub p hp)).1, (N p (hsub p hp)).2⟩
  · have := Heap.lt_size (N p (hsub p hp)).1
    exact ⟨Nat.ne_of_lt (Nat.lt_succ_of_lt this), Nat.ne_of_lt this⟩
end
end Mine
end
/- Base5 -/
section
open PySem PySem.W PyProof.Rows PySem.Calls
set_option Elab.async false
namespace Mine
set_option maxRecDepth 100000

/-- what a slice takes -/
noncomputable def pickS {α : Type} (xs : List α) (lo hi st : Option Int) : List α :=
  (sliceRange (sliceBounds lo hi st xs.length).1 (sliceBounds lo hi st xs.length).2.1 (sliceBounds lo hi st xs.length).2.2).filterMap (xs[·]?)

theorem strs_places {vs : List Value} {xs : List PySem.Str} (h : StrsAre vs xs) : ∀ is : List Nat, StrsAre (is.filterMap (vs[·]?)) (is.filterMap (xs[·]?))
  | [] => .nil
  | j :: is => by
    have ih := strs_places h is
    cases q : vs[j]? with
    | none =>
      have : xs[j]? = none := by rw [List.getElem?_eq_none_iff] at q ⊢; rw [← h.length]; exact q
      simp only [List.filterMap_cons, q, this]
      exact ih
    | some v =>
      obtain ⟨y, t, rfl, hy⟩ := h.item j v q
      simp only [List.filterMap_cons, q, hy]
      exact .cons _ _ ih

theorem strs_pick {vs : List Value} {xs : List PySem.Str} (h : StrsAre vs xs) (lo hi st : Option Int) : StrsAre (slicePick vs.toArray lo hi st).toList (pickS xs lo hi st) := by
  have e : (slicePick vs.toArray lo hi st).toList = (sliceRange (sliceBounds lo hi st xs.length).1 (sliceBounds lo hi st xs.length).2.1 (sliceBounds lo hi st xs.length).2.2).filterMap (vs[·]?) := by
    simp [slicePick, h.length]
  rw [e]
  exact strs_places h _

theorem pickS_le {vs : List Value} {xs : List PySem.Str} (h : StrsAre vs xs) (lo hi st : Option Int) : (pickS xs lo hi st).length ≤ xs.length := by
  have e := (strs_pick h lo hi st).length
  have s := slicePick_size_le vs.toArray lo hi st
  have l := h.length
  simp only [Array.length_toList, List.size_toArray] at e s
  omega

section
variable {prog : Program} {w : World} {A : Around} {E : Value → Shared → Prop} {s : Shared} {h₀ : Heap} {L : Addr} {m : PySem.Str → Option Value} {news : Led}

theorem r_cat {l b : Addr} {its its2 : Array Value} {xs ys : List PySem.Str} {Q : Value → Shared → Prop} (F : Fr h₀ L s.heap m) (N : News h₀ L s.heap news) (hl : s.heap.IsList l its) (hb : s.heap.IsList b its2) (h1 : StrsAre its.toList xs) (h2 : StrsAre its2.toList ys) (hz : xs.length + ys.length ≤ 2 ^ 20)
    (h : ∀ h', Fr h₀ L h' m → News h₀ L h' ((s.heap.objs.size, listOf (its.toList ++ its2.toList).toArray 0) :: news) → StrsAre (its.toList ++ its2.toList) (xs ++ ys) → Q (.ref s.heap.objs.size) { s with heap := h' }) :
    wpAny (model prog w) A (binaryOp .Add (.ref l) (.ref b)) Q E s :=
  add_lists (vs := its.toList) (ws := its2.toList) F N hl hb (fun h' F' N' => h h' F' N' (h1.append' h2)) (hsz := by rw [h1.length, h2.length, PySem.sizeLine_eq]; omega)
end

/-- the rest of a comprehension with a test, by what its list holds so far -/
theorem comp_restT {prog : Program} {w : World} {A : Around} {s : Shared} {env : Env} {h₀ : Heap} {L : Addr} {m : PySem.Str → Option Value} {ct elt : PySem.Expr} {x : PySem.Str} {scope : Scope} {cl : List (PySem.Str × Addr)} {S : Led → Prop} {PV : Nat → Value → Prop} {Fin : List Value → Led → Prop} {news : Led} {n : Nat}
    (J : Nat → List Value → Led → Prop) (h0 : J 0 [] news)
    (turn : ∀ i v ys nx I oI C oC D m₂ h tk (E' : Value → Shared → Prop), i < n → PV i v → J i ys nx → LCg.NsObj oC m₂ → m₂ x = some v → Fr h₀ L h m → News h₀ L h ((I, oI) :: (C, oC) :: (D, LCg.lst ys) :: nx) → LCg.Off3 I C D nx → ((@Ne Nat I C) ∧ (@Ne Nat I D) ∧ (@Ne Nat C D)) →
      wpAny (model prog w) A (isTrue ct (compEnvC scope cl C env) (eval ct (compEnvC scope cl C env))) (fun ok s' => if ok = true then
        wpAny (model prog w) A (eval elt (compEnvC scope cl C env)) (LCg.CompEnd h₀ L m { s with heap := h, toks := tk } I oI C oC D (LCg.lst ys) S (fun y nx' => J (i + 1) (ys ++ [y]) nx')) E' s'
        else LCg.CompEnd h₀ L m { s with heap := h, toks := tk } I oI C oC D (LCg.lst ys) S (fun _ nx' => J (i + 1) ys nx') Value.none s') E' { s with heap := h, toks := tk })
    (fin : ∀ ys nx, J n ys nx → Fin ys nx) : LCt.CompRestT prog w A h₀ L m env ct elt x scope cl s S PV Fin n 0 [] news := by
  have key : ∀ (j i : Nat) (ys : List Value) (nx : Led), i + j = n → J i ys nx → LCt.CompRestT prog w A h₀ L m env ct elt x scope cl s S PV Fin j i ys nx := by
    intro j
    induction j with
    | zero =>
      intro i ys nx hi hj
      have e : i = n := by omega
      subst e
      exact LCt.CompRestT.zero (fin ys nx hj)
    | succ j ih =>
      intro i ys nx hi hj
      refine LCt.CompRestT.succ ?_
      intro v I oI C oC D m₂ h tk E' hv hC hx F N off ne
      refine wpAny_mono (turn i v ys nx I oI C oC D m₂ h tk E' (by omega) hv hj hC hx F N off ne) (fun ok s₁ hq => ?_) fun _ _ e => e
      cases ok with
      | true =>
        simp only [if_true] at hq ⊢
        refine wpAny_mono hq (fun y s₂ hq => ?_) fun _ _ e => e
        obtain ⟨h', tk', nw, e, F', N', off', hS, hr⟩ := hq
        exact ⟨h', tk', nw, e, F', N', off', hS, ih (i + 1) _ _ (by omega) hr⟩
      | false =>
        simp only [Bool.false_eq_true, if_false] at hq ⊢
        obtain ⟨h', tk', nw, e, F', N', off', hS, hr⟩ := hq
        exact ⟨h', tk', nw, e, F', N', off', hS, ih (i + 1) _ _ (by omega) hr⟩
  exact key n 0 [] news (by omega) h0

/-- the source of a comprehension with a test over a range of any step -/
inductive SrcD (prog : Program) (w : World) (A : Around) (h₀ : Heap) (L : Addr) (m : PySem.Str → Option Value) (env : Env) (ct elt : PySem.Expr) (x : PySem.Str) (scope : Scope) (cl : List (PySem.Str × Addr)) (Fin : Shared → List Value → Led → Prop) (xv : Value) (s₁ : Shared) : Prop
  | mk r a b c t u v n news :
    xv = .ref r →
    A.handled = none →
    Fr h₀ L s₁.heap m →
    News h₀ L s₁.heap news →
    IsRange s₁.heap r a b c t u v →
    Builtin.Range.small a b c = true →
    Builtin.Range.rangeSize a b c = ((n : Nat) : Int) →
    n ≤ sizeLine →
    (∀ s₂ : Shared, (∃ h, s₂ = { s₁ with heap := h }) → LCt.CompRestT prog w A h₀ L m env ct elt x scope cl s₂ (fun _ => True) (fun i v => ∃ t, v = .int (a + (i : Int) * c) t) (Fin s₂) n 0 [] news) →
    SrcD prog w A h₀ L m env ct elt x scope cl Fin xv s₁

theorem stD {h₀ : Heap} {L : Addr} {I : Addr} {a c : Int} {n : Nat} : ∀ i (h h' : Heap) (o : Obj) (nw : Led), IsRangeIter h I (a + (i : Nat) * c) ((n : Int) - (i : Nat)) c → h.get? I = some o → h'.get? I = some o → (∀ b o, h₀.get? b = some o → h'.get? b = some o) → News h₀ L h' nw → True → IsRangeIter h' I (a + (i : Nat) * c) ((n : Int) - (i : Nat)) c :=
  fun i h h' o nw st e e' _ _ _ => by
    have st' : h.get? I = some _ := st
    show h'.get? I = some _
    rw [e', ← e]; exact st'

theorem Assign_ListComp_D {prog : Program} {w : World} {A : Around} {E : Value → Shared → Prop} {s : Shared} {env : Env} {h₀ : Heap} {L : Addr} {m : PySem.Str → Option Value} {ct elt iter : PySem.Expr} {x y : PySem.Str} {px py : Pos} {scope : Scope} {cl : List (PySem.Str × Addr)} {pos spos : Pos} {Q : Flow → Shared → Prop} (_F₀ : Fr h₀ L s.heap m) (hLe : env.locals = L)
    (hsw : swapsWith (.ListComp elt [⟨.Name x px, iter, [ct], 0⟩] scope pos) (some (.Name y py)) spos.line env = pure true)
    (hclos : closureFor scope env = pure cl) (hcell : ∀ z ∈ scope.names, z.2 ≠ .cell) (hkind : scope.kind = .function)
    (hnames : ∀ z ∈ scope.names, z.2 = .local → scope.names.lookup z.1 = some .local) (hx : scope.names.lookup x = some .local)
    (hy : env.kindOf y = some .local) (hp : (env.scope.kind == .class || (env.scope.kind == .module && env.locals != env.globals)) = false)
    (h : wpAny (model prog w) A (eval iter env) (SrcD prog w A h₀ L m env ct elt x scope cl (fun s₂ => LCg.FinA h₀ L m s₂ y Q)) E s)
    (hs : ∀ x, foldedSetIterable iter env x = pure x := by intro _; rfl) :
    wpAny (model prog w) A (exec (.Assign [.Name y py] (.ListComp elt [⟨.Name x px, iter, [ct], 0⟩] scope pos) spos) env) Q E s := by
  subst hLe
  rw [exec_Assign_Name_used _ _ _ _ hsw]
  refine wpAny_bind (wpAny_standAt (wpAny_bind ?_))
  show wpAny _ A (do let _ ← comprehension (.ListComp elt [⟨.Name x px, iter, [ct], 0⟩] scope pos) scope env _ (newList []) false (eval iter env) (some (assign (.Name y py) env))) _ _ s
  refine wpAny_bind (wpAny_mono (wpAny_comprehension_free (use := some (assign (.Name y py) env)) (Q := fun _ s' => Q .next s') rfl hs hclos hkind hnames
    (wpAny_mono h (fun xv s₁ h₁ => ?_) fun _ _ e => e)) (fun _ s' hq => wpAny_pure (wpAny_pure hq)) fun _ _ e => e)
  obtain ⟨r, a, b, c, t, u, v, n, news, rfl, hh, F, N, hr, hsm, hn, hsz, R⟩ := h₁
  refine wpAny_pyIter_range hr hsm ?_
  refine LCt.block_T (Walks.range hh _ a c n) hsz (fun i h st => ⟨_, st⟩) stD hcell hkind hx (by show IsRangeIter _ _ _ _ _; rw [hn]; simpa using Heap.get?_push_size _ rfl) (fun b hb => ?_)
    (F.keeps fun _ _ e => Heap.get?_push_of_some _ e) (N.grown fun _ _ e => Heap.get?_push_of_some _ e) (Nat.ne_of_lt F.ns.lt) (next_is_new F) (fun p hp => Nat.ne_of_lt (Heap.lt_size (N p hp).1)) trivial (R _ ⟨_, rfl⟩) ?_
  · rw [List.mem_singleton.mp hb]
    show s₁.heap.objs.size < (s₁.heap.push _).objs.size
    rw [Heap.size_push]; exact Nat.lt_succ_self _
  · intro D C h' tk m' ys news' F' N' o1 hn hC₀ hD₀ hCL hDL hCD offC fin
    show wpAny _ A (assign (.Name y py) env (.ref D)) _ _ _
    refine wpAny_assign_Name (wpAny_storeName_local hy F'.ns (fun h₂ hn₂ hs₂ => ?_) hp)
    have hL₀ : h₀.get? env.locals = none := Heap.get?_none_of_le F'.above
    have F₂ : Fr h₀ env.locals h₂ (fun z => if z = y then some (.ref D) else m z) := ⟨hn₂, fun b o e => hs₂.extBut b o (fun q => by rw [q, hL₀] at e; cases e) (F'.keep b o e), F'.above⟩
    refine ⟨m', hn.sameBut hs₂ hCL, fun h'' hs'' => fin D h'' _ (F₂.change hs'' hCL hC₀) (fun p hp => ?_) o1⟩
    have z : h₂.get? p.1 = some p.2 := hs₂.extBut _ _ (N' p hp).2.1 (N' p hp).1
    refine ⟨hs''.extBut _ _ ?_ z, (N' p hp).2⟩
    rcases List.mem_cons.mp hp with rfl | hp
    · exact Ne.symm hCD
    · exact offC p hp

theorem countP_strs (k : PySem.Str) : ∀ {vs : List Value} {ys : List PySem.Str}, StrsAre vs ys → vs.countP (isStrOf k) = ys.count k
  | _, _, .nil => rfl
  | _, _, .cons n u h => by
    rw [List.countP_cons, List.count_cons, countP_strs k h]
    by_cases e : n = k
    · subst e; simp [isStrOf]
    · simp [isStrOf, e]

section
variable {prog : Program} {w : World} {A : Around} {E : Value → Shared → Prop} {s : Shared} {h₀ : Heap} {L : Addr} {m : PySem.Str → Option Value} {news : Led} {l : Addr} {its : Array Value} {vs : List Value} {xs : List PySem.Str} {k : PySem.Str} {t : Tok}
theorem r_count {Q : Value → Shared → Prop} (hl : s.heap.IsList l its) (hi : StrsAre its.toList xs)
    (h : Q (.int ((xs.count k : Nat) : Int) s.toks) { s with toks := s.toks + 1 }) : wpAny (model prog w) A (call (.builtin "list.count") [.ref l, .str k t]) Q E s := by
  obtain ⟨⟨cls, dd, data, sl⟩, ho, hc, n, hd⟩ := id hl
  simp only at hc hd
  subst hc hd
  refine call_meets PySem.F.slot_list_count ⟨_, ho, rfl⟩ PySem.F.entry_list_count (PySem.F.args_list_count_2 _ _) (PySem.SeqAt.list_countAt l its n dd sl (.str k t) (isStrOf k)) ⟨ho, fun y hy => (eq_isStrOf k t hi y (by simpa using hy)).at _ _, ?_⟩
  rw [countP_strs k hi]
  exact h
theorem r_countB {Q : Value → Shared → Prop} (F : Fr h₀ L s.heap m) (hl : h₀.IsList l vs.toArray) (hi : StrsAre vs xs)
    (h : Q (.int ((xs.count k : Nat) : Int) s.toks) { s with toks := s.toks + 1 }) : wpAny (model prog w) A (call (.builtin "list.count") [.ref l, .str k t]) Q E s :=
  r_count (its := vs.toArray) (hl.at fun o e => F.keep _ o e) hi h
theorem r_countN {n : Nat} {Q : Value → Shared → Prop} (N : News h₀ L s.heap news) (hm : (l, listOf its n) ∈ news) (hi : StrsAre its.toList xs)
    (h : Q (.int ((xs.count k : Nat) : Int) s.toks) { s with toks := s.toks + 1 }) : wpAny (model prog w) A (call (.builtin "list.count") [.ref l, .str k t]) Q E s :=
  r_count ⟨_, (N _ hm).1, rfl, _, rfl⟩ hi h
/-- .count of a list of the ground -/
theorem m_countB {pl : Sem Bool} {Q : Value × List Value → Shared → Prop} (F : Fr h₀ L s.heap m) (hl : h₀.IsList l vs.toArray) (hd : h₀.NoDictAt (.ref l)) (h : Q (.builtin "list.count", [.ref l]) s) :
    wpAny (model prog w) A (getMethod (.ref l) (PySem.Str.ofString "count") pl) Q E s :=
  getMethod_list_of PySem.F.slot_list_count PySem.F.type_list_count (hl.at fun o e => F.keep _ o e) (hd.keeps fun b o e => F.keep b o e) h
end

/-- a pair of text lists, made new -/
inductive PairAdd (r : Value) (add : Led) (xs ys : List PySem.Str) : Prop
  | mk (D D1 D2 : Addr) (v1 v2 : List Value) (n1 n2 : Nat) :
    r = .ref D →
    add = [(D, { cls := .type "tuple", data := .seq #[.ref D1, .ref D2] }), (D1, listOf v1.toArray n1), (D2, listOf v2.toArray n2)] →
    StrsAre v1 xs →
    StrsAre v2 ys →
    PairAdd r add xs ys
end Mine
end
/- Base6 -/
section
open PySem PySem.W PyProof.Rows PySem.Calls
set_option Elab.async false
namespace Mine
set_option maxRecDepth 100000

section
variable {prog : Program} {w : World} {A : Around} {E : Value → Shared → Prop} {s : Shared} {h₀ : Heap} {L : Addr} {m : PySem.Str → Option Value} {env : Env}

theorem newEnv_cell {scope : Scope} {cl : List (PySem.Str × Addr)} {x : PySem.Str} {Q : Env → Shared → Prop}
    (hcf : ∀ c, cellsFrom c scope.names cl = (x, c) :: cl) (hpu : ∀ h : Heap, pushCells h scope.names = h.push { cls := .type "cell", data := .cell none })
    (hQ : Q { scope, locals := s.heap.objs.size, globals := env.globals, cells := (x, s.heap.objs.size + 1) :: cl, qual := env.qual, func := none, code := env.code, frame := env.frame, builtins := env.builtins }
      { s with heap := (s.heap.push { cls := .type "dict", data := .dict #[] }).push { cls := .type "cell", data := .cell none } }) :
    wpAny (model prog w) A (newFunctionEnv scope env.globals cl [] env.qual none .none (some env)) Q E s := by
  simp only [newFunctionEnv, Option.isSome_some, if_true]
  refine wpAny_bind (wpAny_alloc ?_)
  refine wpAny_bind (wpAny_layCells _ (fun name kind cells => by cases hkc : kind == NameKind.cell <;> simp) _ _ _ _ ?_)
  rw [hcf, hpu, show ({ s with heap := s.heap.push { cls := .type "dict", data := .dict #[] } } : Shared).heap.objs.size = s.heap.objs.size + 1 from Heap.size_push ..]
  refine wpAny_bind ?_
  rw [List.forIn_nil]
  exact wpAny_pure (wpAny_pure hQ)

/-- the loop's state, a comprehension whose name is a cell -/
inductive CellInv (h₀ : Heap) (L : Addr) (m : PySem.Str → Option Value) (s₂ : Shared) (I l C D c : Addr) (vs : List Value) (news : Led) (J : Nat → List Value → Prop) (k : Nat) (s' : Shared) : Prop
  | mk (h' : Heap) (tk i : Nat) (ys : List Value) (m' : PySem.Str → Option Value) (oc : Obj) : s' = { s₂ with heap := h', toks := tk } → i ≤ vs.length → k = vs.length + 1 - i → ys.length = i → h'.IsListIter I l i → h'.IsList l vs.toArray → Fr h₀ L h' m → h'.Ns C m' →
    News h₀ L h' ((c, oc) :: (D, LCg.lst ys) :: news) → (∃ v, oc.data = .cell v) → J i ys → CellInv h₀ L m s₂ I l C D c vs news J k s'
/-- a comprehension over a list of the ledger whose name is a cell -/
theorem cell_comp {elt iter : PySem.Expr} {x : PySem.Str} {px : Pos} {scope : Scope} {cl : List (PySem.Str × Addr)} {pos : Pos} {s₂ : Shared} {I l : Addr} {vs : List Value} {nl : Nat} {news : Led} (J : Nat → List Value → Prop)
    {RR : Value → Addr → Result → Shared → Prop} (hh : A.handled = none) (hsz : vs.length ≤ sizeLine)
    (hcf : ∀ c, cellsFrom c scope.names cl = (x, c) :: cl) (hpu : ∀ h : Heap, pushCells h scope.names = h.push { cls := .type "cell", data := .cell none })
    (hkind : scope.kind = .function) (hx : (relabel scope env).names.lookup x = some .cell)
    (hli : l ≠ I) (hit : s₂.heap.IsListIter I l 0) (hlm : (l, listOf vs.toArray nl) ∈ news) (hLI : L ≠ I) (hI₀ : h₀.get? I = none)
    (F : Fr h₀ L s₂.heap m) (N : News h₀ L s₂.heap news) (off : ∀ p ∈ news, p.1 ≠ I) (h0 : J 0 [])
    (turn : ∀ (i : Nat) v ys oI C oC D c oc h tk (E' : Value → Shared → Prop), vs[i]? = some v → J i ys → oc.data = .cell (some v) → Fr h₀ L h m → News h₀ L h ((c, oc) :: (I, oI) :: (C, oC) :: (D, LCg.lst ys) :: news) →
      wpAny (model prog w) A (eval elt (compEnvC scope ((x, c) :: cl) C env)) (fun y s' => ∃ h' tk', s' = { s₂ with heap := h', toks := tk' } ∧ Fr h₀ L h' m ∧ News h₀ L h' ((c, oc) :: (I, oI) :: (C, oC) :: (D, LCg.lst ys) :: news) ∧ J (i + 1) (ys ++ [y])) E' { s₂ with heap := h, toks := tk })
    (hRR : ∀ D C h tk m' ys, Fr h₀ L h m → News h₀ L h ((D, LCg.lst ys) :: news) → (∀ p ∈ news, p.1 < D) → h.Ns C m' → h₀.get? C = none → C ≠ L → C ≠ D → (∀ p ∈ news, p.1 ≠ C) → J vs.length ys → RR (.ref D) C (.ok .next) { s₂ with heap := h, toks := tk }) :
    wpAny (model prog w) A (newList []) (fun acc s₃ => wpAny (model prog w) A (newFunctionEnv scope env.globals cl [] env.qual none .none (some env)) (fun cenv s₄ =>
      codeAny (model prog w) A (.compStart (.ListComp elt [⟨.Name x px, iter, [], 0⟩] scope pos) 0 (.ref I) acc { cenv with scope := relabel scope env }) (RR acc cenv.locals) s₄) E s₃) E s₂ := by
  have lof : ∀ {g : Heap}, g.get? l = some (listOf vs.toArray nl) → g.IsList l vs.toArray := fun e => ⟨_, e, rfl, _, rfl⟩
  have hl : s₂.heap.IsList l vs.toArray := lof (N _ hlm).1
  refine wpAny_newObj_type (newEnv_cell hcf hpu ?_)
  dsimp only
  generalize hH2 : s₂.heap.push { cls := .type "list", dict := none, data := .seq ([] : List Value).toArray } = H2
  have hC : H2.objs.size = s₂.heap.objs.size + 1 := by rw [← hH2, Heap.size_push]
  generalize hH3 : H2.push { cls := .type "dict", data := .dict #[] } = H3
  have hC3 : H3.objs.size = s₂.heap.objs.size + 2 := by rw [← hH3, Heap.size_push, hC]
  generalize hH4 : H3.push { cls := .type "cell", data := .cell none } = h₁
  have hD2 : H2.get? s₂.heap.objs.size = some (LCg.lst []) := hH2 ▸ Heap.get?_push_size _ rfl
  have hC2 : H3.get? H2.objs.size = some { cls := .type "dict", data := .dict #[] } := hH3 ▸ Heap.get?_push_size _ rfl
  have hc2 : h₁.get? H3.objs.size = some { cls := .type "cell", data := .cell none } := hH4 ▸ Heap.get?_push_size _ rfl
  have up3 : ∀ b o, H3.get? b = some o → h₁.get? b = some o := fun b o e => hH4 ▸ Heap.get?_push_of_some _ e
  have up2 : ∀ b o, H2.get? b = some o → h₁.get? b = some o := fun b o e => up3 b o (hH3 ▸ Heap.get?_push_of_some _ e)
  have old : ∀ b o, s₂.heap.get? b = some o → h₁.get? b = some o := fun b o e => up2 b o (hH2 ▸ Heap.get?_push_of_some _ e)
  rw [show (H2.objs.size + 1 : Nat) = H3.objs.size by rw [hC3, hC]]
  generalize hD : s₂.heap.objs.size = D at *
  generalize hCC : H2.objs.size = C at *
  generalize hcc : H3.objs.size = c at *
  have hDC : D < C := by omega
  have hCc : C < c := by omega
  have hns₁ : h₁.Ns C (fun _ => none) := LCg.NsObj.ns ⟨#[], 0, rfl, by intro x hx; simp at hx, fun _ => rfl⟩ (up3 _ _ hC2)
  have lt : ∀ b o, s₂.heap.get? b = some o → b < D := fun b o e => hD ▸ Heap.lt_size e
  have fresh₀ : ∀ a, D ≤ a → h₀.get? a = none := fun a ha => by
    cases q : h₀.get? a with
    | none => rfl
    | some o' => exact absurd (lt a o' (F.keep a o' q)) (Nat.not_lt.mpr ha)
  have hLlt : L < D := hD ▸ F.ns.lt
  have hIlt : I < D := by obtain ⟨_, q, _⟩ := hit; exact lt _ _ q
  have hllt : l < D := by obtain ⟨_, q, _⟩ := hl; exact lt _ _ q
  have nlt : ∀ p ∈ news, p.1 < D := fun p hp => lt _ _ (N p hp).1
  have hC₀ := fresh₀ C (Nat.le_of_lt hDC)
  have hc₀ := fresh₀ c (Nat.le_of_lt (Nat.lt_trans hDC hCc))
  have hD₀ := fresh₀ D (Nat.le_refl _)
  have hDc := Nat.lt_trans hDC hCc
  have N₁ : News h₀ L h₁ ((D, LCg.lst []) :: news) := fun p hp => by
    rcases List.mem_cons.mp hp with rfl | hp
    · exact ⟨up2 _ _ hD2, Nat.ne_of_gt hLlt, hD₀⟩
    · exact ⟨old _ _ (N p hp).1, (N p hp).2⟩
  have loop : ∀ s₃ : Shared, s₃ = { s₂ with heap := h₁ } →
      codeAny (model prog w) A (.compLoop (.ListComp elt [⟨.Name x px, iter, [], 0⟩] scope pos) 0 (.ref I) (.ref D) (compEnvC scope ((x, c) :: cl) C env)) (RR (.ref D) C) s₃ := by
    rintro s₃ rfl
    have W := Walks.list (prog := prog) (w := w) hh I l hli vs.toArray
    refine codeAny_compLoop_tests
      (CellInv h₀ L m s₂ I l C D c vs news J) ?_ (vs.length + 1)
      ⟨h₁, _, 0, [], _, { cls := .type "cell", data := .cell none }, rfl, Nat.zero_le _, rfl, rfl, hit.at fun o e => old _ _ e, hl.at fun o e => old _ _ e, F.keeps old, hns₁, fun p hp => ?_, ⟨_, rfl⟩, h0⟩
    · rintro k s' ⟨h', tk, i, ys, m', oc, rfl, hi, rfl, hyl, e1, e2, F', hn', N', ⟨v0, hv0⟩, j0⟩
      have arr : vs.toArray.size = vs.length := List.size_toArray
      by_cases hlt : i < vs.length
      · refine W.item i _ _ _ (by rw [arr]; exact hlt) ⟨e1, e2⟩ fun v h₂ tk₂ hPv hst₂ hk₂ => ?_
        have F₂ : Fr h₀ L h₂ m := ⟨F'.ns.at' fun o e => hk₂ _ o (by simpa using hLI) e, fun b o e => hk₂ b o (fun z => by rw [List.mem_singleton.mp z, hI₀] at e; cases e) (F'.keep b o e), F'.above⟩
        have N₂ : News h₀ L h₂ ((c, oc) :: (D, LCg.lst ys) :: news) := fun p hp => by
          refine ⟨hk₂ _ _ (fun z => ?_) (N' p hp).1, (N' p hp).2⟩
          have z' := List.mem_singleton.mp z
          rcases List.mem_cons.mp hp with rfl | hp
          · exact absurd z' (Nat.ne_of_gt (Nat.lt_trans hIlt hDc))
          rcases List.mem_cons.mp hp with rfl | hp
          · exact absurd z' (Nat.ne_of_gt hIlt)
          · exact off p hp z'
        have n₂ : h₂.Ns C m' := hn'.at' fun o e => hk₂ _ o (by simpa using (Nat.ne_of_gt (Nat.lt_trans hIlt hDC))) e
        refine wpAny_assign_Name (wpAny_storeName_cell (c := c) (v₀ := v0) hkind hx (by simp [compEnvC]) ⟨oc, (N₂ _ (.head _)).1, hv0⟩ fun h₃ hc₃ hs₃ => ?_)
        refine wpAny_tests_nil ?_
        simp only [if_true]
        obtain ⟨oc3, hoc3, hdc3⟩ := hc₃
        obtain ⟨e1', e2'⟩ := hst₂
        have F₃ : Fr h₀ L h₃ m := F₂.change hs₃ (Nat.ne_of_gt (Nat.lt_trans hLlt hDc)) hc₀
        have n₃ : h₃.Ns C m' := n₂.sameBut hs₃ (Nat.ne_of_lt hCc)
        have i₃ : h₃.IsListIter I l (i + 1) := e1'.extBut hs₃.extBut (Nat.ne_of_lt (Nat.lt_trans hIlt hDc))
        have l₃ : h₃.IsList l vs.toArray := e2'.at fun o e => hs₃.extBut _ _ (Nat.ne_of_lt (Nat.lt_trans hllt hDc)) e
        obtain ⟨oI, heI, iI⟩ := id i₃
        obtain ⟨oC, heC, hoC⟩ := LCg.ns_obj n₃
        have N₃ : News h₀ L h₃ ((c, oc3) :: (I, oI) :: (C, oC) :: (D, LCg.lst ys) :: news) := fun p hp => by
          rcases List.mem_cons.mp hp with rfl | hp
          · exact ⟨hoc3, Nat.ne_of_gt (Nat.lt_trans hLlt hDc), hc₀⟩
          rcases List.mem_cons.mp hp with rfl | hp
          · exact ⟨heI, Ne.symm hLI, hI₀⟩
          rcases List.mem_cons.mp hp with rfl | hp
          · exact ⟨heC, Nat.ne_of_gt (Nat.lt_trans hLlt hDC), hC₀⟩
          have z := N₂ p (.tail _ hp)
          refine ⟨hs₃.extBut _ _ ?_ z.1, z.2⟩
          rcases List.mem_cons.mp hp with rfl | hp
          · exact Nat.ne_of_lt hDc
          · exact Nat.ne_of_lt (Nat.lt_trans (nlt p hp) hDc)
        refine wpAny_mono (turn i v ys oI C oC D c oc3 h₃ _ _ (by simpa using hPv) j0 hdc3 F₃ N₃) (fun y s₄ h₄ => ?_) fun _ _ e => e
        obtain ⟨h₄, tk₄, rfl, F₄, N₄, j₄⟩ := h₄
        have zI := (N₄ (I, oI) (.tail _ (.head _))).1
        have zC := (N₄ (C, oC) (.tail _ (.tail _ (.head _)))).1
        have zD := (N₄ (D, LCg.lst ys) (.tail _ (.tail _ (.tail _ (.head _))))).1
        refine append_at (hsz := by show ys.toArray.size ≤ sizeLine; rw [List.size_toArray, hyl]; exact Nat.le_trans hi hsz) zD fun h₅ hs₅ hD₅ => ?_
        refine ⟨vs.length + 1 - (i + 1), meas1 hlt, h₅, tk₄, i + 1, ys ++ [y], _, oc3, rfl, hlt, rfl, by rw [List.length_append, List.length_singleton, hyl], ?_, ?_, F₄.change hs₅ (Nat.ne_of_gt hLlt) hD₀, (hoC.ns zC).sameBut hs₅ (Nat.ne_of_gt hDC), fun p hp => ?_, ⟨_, hdc3⟩, j₄⟩
        · exact ⟨oI, hs₅.extBut _ _ (Nat.ne_of_lt hIlt) zI, iI⟩
        · exact lof (hs₅.extBut _ _ (Nat.ne_of_lt hllt) (N₄ _ (.tail _ (.tail _ (.tail _ (.tail _ hlm))))).1)
        · rcases List.mem_cons.mp hp with rfl | hp
          · exact ⟨hs₅.extBut _ _ (Nat.ne_of_gt hDc) (N₄ _ (.head _)).1, (N₄ _ (.head _)).2⟩
          rcases List.mem_cons.mp hp with rfl | hp
          · exact ⟨hD₅.trans (congrArg some (LCg.lst_snoc ys y)), Nat.ne_of_gt hLlt, hD₀⟩
          · have z := N₄ p (.tail _ (.tail _ (.tail _ (.tail _ hp))))
            exact ⟨hs₅.extBut _ _ (Nat.ne_of_lt (nlt p hp)) z.1, z.2⟩
      · obtain rfl : i = vs.length := Nat.le_antisymm hi (Nat.not_lt.mp hlt)
        refine W.done _ _ _ (by rw [arr]; exact ⟨e1, e2⟩) fun h₂ tk₂ hk₂ => ?_
        have F₂ : Fr h₀ L h₂ m := ⟨F'.ns.at' fun o e => hk₂ _ o (by simpa using hLI) e, fun b o e => hk₂ b o (fun z => by rw [List.mem_singleton.mp z, hI₀] at e; cases e) (F'.keep b o e), F'.above⟩
        refine hRR D C h₂ tk₂ m' ys F₂ (fun p hp => ?_) nlt (hn'.at' fun o e => hk₂ _ o (by simpa using (Nat.ne_of_gt (Nat.lt_trans hIlt hDC))) e) hC₀ (Nat.ne_of_gt (Nat.lt_trans hLlt hDC)) (Nat.ne_of_gt hDC) (fun p hp => Nat.ne_of_lt (Nat.lt_trans (nlt p hp) hDC)) j0
        refine ⟨hk₂ _ _ (fun z => ?_) (N' p (.tail _ hp)).1, (N' p (.tail _ hp)).2⟩
        have z' := List.mem_singleton.mp z
        rcases List.mem_cons.mp hp with rfl | hp
        · exact absurd z' (Nat.ne_of_gt hIlt)
        · exact off p hp z'
    · rcases List.mem_cons.mp hp with rfl | hp
      · exact ⟨hc2, Nat.ne_of_gt (Nat.lt_trans hLlt hDc), hc₀⟩
      · exact N₁ p hp
  exact codeAny_compStart_list (loop _ rfl) ((Walks.list (prog := prog) (w := w) hh I l hli vs.toArray).self 0 _ _ _ ⟨hit.at fun o e => old _ _ e, hl.at fun o e => old _ _ e⟩ (loop _ rfl))

/-- what the source of such a comprehension must come to -/
inductive CellSrc (prog : Program) (w : World) (A : Around) (h₀ : Heap) (L : Addr) (m : PySem.Str → Option Value) (elt : PySem.Expr) (x : PySem.Str) (scope : Scope) (cl : List (PySem.Str × Addr)) (env : Env) (Q : Value → Shared → Prop) (xv : Value) (s₁ : Shared) : Prop
  | mk (l : Addr) (vs : List Value) (nl : Nat) (news : Led) (J : Nat → List Value → Prop) :
    xv = .ref l →
    vs.length ≤ sizeLine →
    (l, listOf vs.toArray nl) ∈ news →
    Fr h₀ L s₁.heap m →
    News h₀ L s₁.heap news →
    J 0 [] →
    (∀ (i : Nat) v ys I oI C oC D c oc h tk (E' : Value → Shared → Prop), vs[i]? = some v → J i ys → oc.data = .cell (some v) → Fr h₀ L h m → News h₀ L h ((c, oc) :: (I, oI) :: (C, oC) :: (D, LCg.lst ys) :: news) →
      wpAny (model prog w) A (eval elt (compEnvC scope ((x, c) :: cl) C env)) (fun y s' => ∃ h' tk', s' = { s₁ with heap := h', toks := tk' } ∧ Fr h₀ L h' m ∧ News h₀ L h' ((c, oc) :: (I, oI) :: (C, oC) :: (D, LCg.lst ys) :: news) ∧ J (i + 1) (ys ++ [y])) E' { s₁ with heap := h, toks := tk }) →
    (∀ D h tk ys, Fr h₀ L h m → News h₀ L h ((D, LCg.lst ys) :: news) → (∀ p ∈ news, p.1 < D) → J vs.length ys → Q (.ref D) { s₁ with heap := h, toks := tk }) →
    CellSrc prog w A h₀ L m elt x scope cl env Q xv s₁

theorem ListComp_cell {elt iter : PySem.Expr} {x : PySem.Str} {px : Pos} {scope : Scope} {cl : List (PySem.Str × Addr)} {pos : Pos} {Q : Value → Shared → Prop} (_F₀ : Fr h₀ L s.heap m) (hh : A.handled = none)
    (hclos : closureFor scope env = pure cl) (hcf : ∀ c, cellsFrom c scope.names cl = (x, c) :: cl) (hpu : ∀ h : Heap, pushCells h scope.names = h.push { cls := .type "cell", data := .cell none })
    (hkind : scope.kind = .function) (hnames : ∀ y ∈ scope.names, y.2 = .local → scope.names.lookup y.1 = some .local) (hx : (relabel scope env).names.lookup x = some .cell)
    (h : wpAny (model prog w) A (eval iter env) (CellSrc prog w A h₀ L m elt x scope cl env Q) E s)
    (hs : ∀ x, foldedSetIterable iter env x = pure x := by intro _; rfl) :
    wpAny (model prog w) A (eval (.ListComp elt [⟨.Name x px, iter, [], 0⟩] scope pos) env) Q E s := by
  rw [eval_ListComp]
  refine wpAny_comprehension_free (use := none) rfl hs hclos hkind hnames (wpAny_mono h (fun xv s₁ h₁ => ?_) fun _ _ e => e)
  obtain ⟨l, vs, nl, news, J, rfl, hsz, hlm, F, N, h0, turn, fin⟩ := h₁
  have hl : s₁.heap.IsList l vs.toArray := ⟨_, (N _ hlm).1, rfl, _, rfl⟩
  have hlt : l < s₁.heap.objs.size := Heap.lt_size (N _ hlm).1
  have up : ∀ b o, s₁.heap.get? b = some o → (s₁.heap.push { cls := .type "list_iterator", data := .fields #[.ref l, .int 0 0] }).get? b = some o := fun b o e => Heap.get?_push_of_some _ e
  refine wpAny_pyIter_list hl ?_
  refine cell_comp (nl := nl) J hh hsz hcf hpu hkind hx (Nat.ne_of_lt hlt) ⟨_, Heap.get?_push_size _ rfl, rfl, rfl⟩ hlm (Nat.ne_of_lt F.ns.lt) (next_is_new F) (F.keeps up) (N.grown up) (fun p hp => Nat.ne_of_lt (Heap.lt_size (N p hp).1)) h0
    (fun i v ys oI C oC D c oc h tk E' => turn i v ys _ oI C oC D c oc h tk E') ?_
  intro D C h' tk m' ys F' N' nlt hn hC₀ hCL hCD offC hj
  refine ⟨m', hn, fun h'' hs'' => fin D h'' tk ys (F'.change hs'' hCL hC₀) (fun p hp => ?_) nlt hj⟩
  refine ⟨hs''.extBut _ _ ?_ (N' p hp).1, (N' p hp).2⟩
  rcases List.mem_cons.mp hp with rfl | hp
  · exact Ne.symm hCD
  · exact offC p hp
end

/-- the sum -/
noncomputable def sumI (ns : List Int) : Int := ns.foldl (· + ·) 0
end Mine
end
/- Base7 -/
section
open PySem PySem.W PyProof.Rows PySem.Calls
set_option Elab.async false
namespace Mine
set_option maxRecDepth 100000
open TI

theorem size_gone (h : Heap) : ∀ l : List Addr, (gone h l).objs.size = h.objs.size
  | [] => rfl
  | a :: l => by
    show ((gone h l).update a _).objs.size = _
    rw [← size_gone h l]
    exact Array.size_modify ..

/-- no names of a frame -/
noncomputable def NoD (p : Addr × Obj) : Prop := ∀ es ep, p.2.data ≠ .dict es ep

/-- what a call gives of a def in which an exception may be raised and caught: the frames' slots may change -/
noncomputable abbrev XCtr (w : World) (p : PySem.Program) (loose : List PySem.Str) (mean : ExcName → Option Value) (mg mb : PySem.Str → Option Value) (dpN unN : Nat) (f : Addr) (args : List Value) (Pre : Heap → Prop) (Post : Value → Led → Prop) : Prop :=
  ∀ (dp un : Nat) (gd : Option (List Code)) (cn : PySem.Str) (cs : Scope) (a : Addr) (ccd : Value) (cl : List (PySem.Str × Addr)) (outer : List Env) (h₀ : Heap) (L : Addr) (frs : Led) (s : Shared) (Q E : Value → Shared → Prop),
    (∀ b o, h₀.get? b = some o → s.heap.get? b = some o) → (hd.heap_39 w.params).In h₀ → Top p loose mean mg mb h₀ →
    Frs (envX cn cs L a ccd cl :: outer) frs → (∀ q ∈ frs, s.heap.get? q.1 = some q.2 ∧ h₀.get? q.1 = none) →
    dp + dpN < recursionLimit → un + unN < cLine → Pre (gone s.heap (frs.map (·.1))) →
    (∀ r add h' tk' L' m' frs', Post r add → (∀ q ∈ add, NoD q) → SameUp frs frs' → Fr (gone s.heap (frs.map (·.1))) L' h' m' → News (gone s.heap (frs.map (·.1))) L' h' (add ++ frs') → Q r { s with heap := h', toks := tk' }) →
    wpAny (model PySem.Challenge.pw_kt0010_01 w) (ktrTop dp un gd cn cs L a ccd cl outer) (call (.ref f) args) Q E s

/-- into such a def: the ground is the heap without the frames, the frames are the end of the ledger -/
theorem code_x0 {prog : Program} {w : World} {A : Around} {s : Shared} {K : Frag} {h₀ : Heap} {mg mb : PySem.Str → Option Value} {p : Program} {loose : List PySem.Str} {mean : ExcName → Option Value} {frs : Led}
    {R : Result → Shared → Prop} {name qual : PySem.Str} {params : Arguments} {body : List Stmt} {scope : Scope} {dV kV doc pm cdv ct oc : Value} {an od : Option Addr} {osl : Array (Option Value)} {f : Addr} {args : Args} {binds : List (PySem.Str × Value)}
    (keep : ∀ b o, h₀.get? b = some o → s.heap.get? b = some o) (X₀ : K.In h₀) (T : Top p loose mean mg mb h₀) (hfr : ∀ q ∈ frs, s.heap.get? q.1 = some q.2 ∧ h₀.get? q.1 = none)
    (ho : K.lookup f = some ⟨oc, od, .func (fnOf name qual params body scope dV kV doc pm an cdv ct), osl⟩) (hcd : codeIn K cdv qual = true) (hroom : A.depth < recursionLimit)
    (hbind : BindsTo s (fnOf name qual params body scope dV kV doc pm an cdv ct) args binds) (hloc : ∀ y ∈ binds, scope.names.lookup y.1 = some .local)
    (h : ∀ L' h₁, Fr (gone s.heap (frs.map (·.1))) L' h₁ (fun y => binds.reverse.lookup y) → News (gone s.heap (frs.map (·.1))) L' h₁ frs → K.In (gone s.heap (frs.map (·.1))) → Top p loose mean mg mb (gone s.heap (frs.map (·.1))) →
      wpAny (model prog w) (A.deeper (envOf qual scope L' f cdv)) (execs body (envOf qual scope L' f cdv))
        (fun fl s' => R (.ok (.ret (match fl with | .ret v => v | _ => .none))) s')
        (fun e s' => wpAny (model prog w) (A.deeper (envOf qual scope L' f cdv)) (leaving (envOf qual scope L' f cdv) e) (fun _ s'' => R (.error e) s'') (fun e' s'' => R (.error e') s'') s')
        { s with heap := h₁, toks := s.toks + binds.length })
    (hco : scope.isCoroutine = false) (hgen : scope.isGenerator = false) (hk : scope.kind = .function) (hcell : ∀ x ∈ scope.names, x.2 ≠ .cell) : codeAny (model prog w) A (.call (.ref f) args) R s := by
  have below : ∀ b o, h₀.get? b = some o → (gone s.heap (frs.map (·.1))).get? b = some o := fun b o e => by
    rw [gone_get fun hm => ?_]
    · exact keep b o e
    · obtain ⟨q, hq, e'⟩ := List.mem_map.mp hm
      have := (hfr q hq).2
      rw [e', e] at this
      cases this
  refine codeAny_call_def (fd := fnX name qual params body scope [] dV kV doc pm an cdv ct) (body := body) (binds := binds) hroom ((X₀.keeps keep) _ _ ho) rfl (T.nolimit.keeps keep) (codeRec_of (X₀.keeps keep) hcd) rfl hbind hcell hloc (fun h₁ hns hk₁ => ?_) hco hgen hk
  refine h s.heap.objs.size h₁ ⟨hns, fun b o e => hk₁ b o (gone_some e).2, ?_⟩ (fun q hq => ?_) (X₀.keeps below) (T.keeps below)
  · rw [size_gone]; exact Nat.le_refl _
  · exact ⟨hk₁ _ _ (hfr q hq).1, Nat.ne_of_lt (Heap.lt_size (hfr q hq).1), gone_none (List.mem_map.mpr ⟨q, hq, rfl⟩)⟩

end Mine
namespace Mine
open TI TT
section
variable {prog : Program} {w : World} {A₀ : Around} {E : Value → Shared → Prop} {s' : Shared} {h₀ h : Heap} {L a e : Addr} {m : PySem.Str → Option Value} {name : PySem.Str} {scope : Scope} {cd : Value} {news : Led}
  {b₀ : Stmt} {suite : List Stmt} {pos np : Pos} {rest : List ExceptHandler} {Q : Flow → Shared → Prop} {X : String} {x : PySem.Str} {fl : Value}
/-- the clause of the class raised -/
theorem clause_hitX (H : HeldNA h₀ L s'.heap m e X news fl)
    (hcl : ∀ (E' : Value → Shared → Prop) (Q' : Value → Shared → Prop), Q' (.type x.toString) s' → wpAny (model prog w) ((A₀.deeper (envOf name scope L a cd)).mark (some (.ref e))) (eval (.Name x np) (envOf name scope L a cd)) Q' E' s')
    (k : ∀ h', Fr h₀ L h' m → News h₀ L h' news → wpAny (model prog w) ((A₀.deeper (envOf name scope L a cd)).mark (some (.ref e))) (execs (b₀ :: suite) (envOf name scope L a cd)) Q E { s' with heap := h' })
    (h3 : subB X (.type x.toString) = some true := by decide +kernel) (h1 : subB x.toString (.type "BaseException") = some true := by decide +kernel)
    (h2 : subB ((Manifest.find? x.toString).elim "type" fun y => y.metatype) (.type "tuple") = some false := by decide +kernel)
    (hE : PassesOwnAt (model prog w) ((A₀.deeper (envOf name scope L a cd)).mark (some (.ref e))) (A₀.deeper (envOf name scope L a cd)) (envOf name scope L a cd) E := by passes_own) :
    wpAny (model prog w) (A₀.deeper (envOf name scope L a cd)) (handleBy (.ref e) (envOf name scope L a cd) (.ExceptHandler (some (.Name x np)) none (b₀ :: suite) pos :: rest)) Q E s' := by
  refine wpAny_handleBy_builtin (X := X) (T := x.toString) (b := true) (isSubtype_of_subB h1) (isSubtype_of_subB h2) (isSubtype_of_subB h3) (wpAny_passesOwnAt hE (hcl _ _ ⟨rfl, H.isA, ?_⟩))
  rw [if_pos rfl]
  exact H.lands fun h' F' N' => wpAny_passesOwnAt hE (k h' F' N')
end
end Mine
end
/- Base8 -/
section
open PySem PySem.W PyProof.Rows PySem.Calls
set_option Elab.async false
namespace Mine
set_option maxRecDepth 100000

section
variable {prog : Program} {w : World} {A : Around} {E : Value → Shared → Prop} {s : Shared} {h₀ : Heap} {L : Addr} {m : PySem.Str → Option Value} {news rest : Led} {D b : Addr} {vs : List Value} {xs ys : List PySem.Str} {its2 : Array Value} {n n2 : Nat}
theorem updF_upd {o o' : Obj} : ∀ {l : Led} {g : Obj → Led}, UpdF D o l g → Upd D o o' l (g o')
  | _, _, .head h => .head h
  | _, _, .tail h r => .tail h (updF_upd r)
theorem updF_same {o : Obj} : ∀ {l : Led} {g : Obj → Led}, UpdF D o l g → g o = l
  | _, _, .head h => rfl
  | _, _, .tail h r => congrArg _ (updF_same r)

theorem r_extend {g : Obj → Led} {Q : Value → Shared → Prop} (F : Fr h₀ L s.heap m) (N : News h₀ L s.heap news) (U : UpdF D (listOf vs.toArray n) news g) (hb : (b, listOf its2 n2) ∈ news)
    (hs1 : StrsAre vs xs) (hs2 : StrsAre its2.toList ys) (hz : xs.length + ys.length ≤ 2 ^ 20)
    (h : ∀ h' vs' n', StrsAre vs' (xs ++ ys) → Fr h₀ L h' m → News h₀ L h' (g (listOf vs'.toArray n')) → Q .none { s with heap := h' }) :
    wpAny (model prog w) A (call (.builtin "list.extend") [.ref D, .ref b]) Q E s := by
  have l1 : vs.length = xs.length := hs1.length
  have l2 : its2.size = ys.length := by rw [← hs2.length]; simp
  have hd : ¬(!vs.toArray.isEmpty && Builtin.List.listTooLong (vs.toArray.size + its2.size)) = true := by
    have : Builtin.List.listTooLong (vs.toArray.size + its2.size) = false := by
      rw [List.size_toArray, l1, l2]
      unfold Builtin.List.listTooLong
      simp only [PySem.sizeLine_eq]
      simp
      omega
    rw [this]; simp
  have hz1 : vs.toArray.toList.length ≤ sizeLine := by
    show vs.length ≤ sizeLine
    rw [l1, PySem.sizeLine_eq]; omega
  have hz2 : vs.toArray.size + its2.size ≤ sizeLine + 1 := by
    rw [List.size_toArray, l1, l2, PySem.sizeLine_eq]; omega
  cases e : its2.toList with
  | nil =>
    rw [e] at hs2
    have e1 : ys = [] := by cases hs2; rfl
    subst e1
    exact kxn_extend F N hb e (updF_upd U) hd hz1 hz2 fun h' F' N'' => h h' vs n (by rw [List.append_nil]; exact hs1) F' N''
  | cons y r =>
    refine kl_extend (l := vs ++ its2.toList) F N hb rfl (by rw [e]; simp) (updF_upd U) hd hz1 hz2 fun h' F' N'' => h h' _ (n + 1) (hs1.append' hs2) F' N''
end

/-- the difference of two lists in order, read together -/
noncomputable def sldF : Nat → List PySem.Str → List PySem.Str → List PySem.Str × List PySem.Str
  | 0, _, _ => ([], [])
  | _ + 1, [], ys => ([], ys)
  | _ + 1, x :: xs, [] => (x :: xs, [])
  | f + 1, x :: xs, y :: ys =>
    if slt x y = true then (x :: (sldF f xs (y :: ys)).1, (sldF f xs (y :: ys)).2)
    else if slt y x = true then ((sldF f (x :: xs) ys).1, y :: (sldF f (x :: xs) ys).2)
    else sldF f xs ys
noncomputable def sld (xs ys : List PySem.Str) : List PySem.Str × List PySem.Str := sldF (xs.length + ys.length) xs ys
theorem sldF_any : ∀ (f g : Nat) (xs ys : List PySem.Str), xs.length + ys.length ≤ f → xs.length + ys.length ≤ g → sldF f xs ys = sldF g xs ys := by
  intro f
  induction f with
  | zero =>
    intro g xs ys hf hg
    have h1 : xs = [] := List.length_eq_zero_iff.mp (Nat.eq_zero_of_add_eq_zero_right (Nat.le_zero.mp hf))
    have h2 : ys = [] := List.length_eq_zero_iff.mp (Nat.eq_zero_of_add_eq_zero_left (Nat.le_zero.mp hf))
    subst h1; subst h2
    cases g <;> rfl
  | succ f ih =>
    intro g xs ys hf hg
    cases g with
    | zero =>
      have h1 : xs = [] := List.length_eq_zero_iff.mp (Nat.eq_zero_of_add_eq_zero_right (Nat.le_zero.mp hg))
      have h2 : ys = [] := List.length_eq_zero_iff.mp (Nat.eq_zero_of_add_eq_zero_left (Nat.le_zero.mp hg))
      subst h1; subst h2
      rfl
    | succ g =>
      cases xs with
      | nil => rfl
      | cons x xs =>
        cases ys with
        | nil => rfl
        | cons y ys =>
          have a1 : ∀ {k : Nat}, (x :: xs).length + (y :: ys).length ≤ k + 1 → xs.length + (y :: ys).length ≤ k := fun {k} h => Nat.le_of_succ_le_succ (by rw [List.length_cons, Nat.succ_add] at h; exact h)
          have a2 : ∀ {k : Nat}, (x :: xs).length + (y :: ys).length ≤ k + 1 → (x :: xs).length + ys.length ≤ k := fun {k} h => Nat.le_of_succ_le_succ h
          have a3 : ∀ {k : Nat}, (x :: xs).length + (y :: ys).length ≤ k + 1 → xs.length + ys.length ≤ k := fun {k} h => Nat.le_trans (Nat.add_le_add_left (Nat.le_succ _) _) (a1 h)
          simp only [sldF]
          rw [ih g _ _ (a1 hf) (a1 hg), ih g _ _ (a2 hf) (a2 hg), ih g _ _ (a3 hf) (a3 hg)]
theorem sld_nil_right (xs : List PySem.Str) : sld xs [] = (xs, []) := by
  cases xs <;> rfl
theorem sld_nil_left (ys : List PySem.Str) : sld [] ys = ([], ys) := by
  cases ys with
  | nil => rfl
  | cons y ys =>
    show sldF (0 + (ys.length + 1)) [] (y :: ys) = _
    rw [Nat.zero_add]; rfl
theorem sld_cons (x y : PySem.Str) (xs ys : List PySem.Str) : sld (x :: xs) (y :: ys) =
    if slt x y = true then (x :: (sld xs (y :: ys)).1, (sld xs (y :: ys)).2)
    else if slt y x = true then ((sld (x :: xs) ys).1, y :: (sld (x :: xs) ys).2)
    else sld xs ys := by
  unfold sld
  rw [sldF_any ((x :: xs).length + (y :: ys).length) ((xs.length + (y :: ys).length) + 1) _ _ (Nat.le_refl _) (by rw [List.length_cons, Nat.succ_add]; exact Nat.le_refl _)]
  simp only [sldF]
  rw [sldF_any (xs.length + (y :: ys).length) ((x :: xs).length + ys.length) (x :: xs) ys (by simp only [List.length_cons]; omega) (Nat.le_refl _), sldF_any (xs.length + (y :: ys).length) (xs.length + ys.length) xs ys (by simp only [List.length_cons]; omega) (Nat.le_refl _)]
theorem sldF_len : ∀ (f : Nat) (xs ys : List PySem.Str), (sldF f xs ys).1.length ≤ xs.length ∧ (sldF f xs ys).2.length ≤ ys.length := by
  intro f
  induction f with
  | zero => intro xs ys; exact ⟨Nat.zero_le _, Nat.zero_le _⟩
  | succ f ih =>
    intro xs ys
    cases xs with
    | nil => exact ⟨Nat.zero_le _, Nat.le_refl _⟩
    | cons x xs =>
      cases ys with
      | nil => exact ⟨Nat.le_refl _, Nat.zero_le _⟩
      | cons y ys =>
        simp only [sldF]
        split
        · exact ⟨Nat.succ_le_succ (ih _ _).1, (ih _ _).2⟩
        · split
          · exact ⟨(ih _ _).1, Nat.succ_le_succ (ih _ _).2⟩
          · exact ⟨Nat.le_succ_of_le (ih _ _).1, Nat.le_succ_of_le (ih _ _).2⟩
theorem sld_len (xs ys : List PySem.Str) : (sld xs ys).1.length ≤ xs.length ∧ (sld xs ys).2.length ≤ ys.length := sldF_len _ xs ys

theorem drop_cons {xs : List PySem.Str} {i : Nat} (h : i < xs.length) : xs.drop i = xs.getD i Str.empty :: xs.drop (i + 1) := by
  rw [List.drop_eq_getElem_cons h, List.getD_eq_getElem?_getD, List.getElem?_eq_getElem h]
  rfl

/-- what has been read so far, and what is to come -/
noncomputable def SInv (xs ys : List PySem.Str) (i j : Nat) (m u : List PySem.Str) : Prop :=
  m ++ (sld (xs.drop i) (ys.drop j)).1 = (sld xs ys).1 ∧ u ++ (sld (xs.drop i) (ys.drop j)).2 = (sld xs ys).2

theorem sinv_lt {xs ys m u : List PySem.Str} {i j : Nat} (h : SInv xs ys i j m u) (hi : i < xs.length) (hj : j < ys.length) (c : slt (xs.getD i Str.empty) (ys.getD j Str.empty) = true) : SInv xs ys (i + 1) j (m ++ [xs.getD i Str.empty]) u := by
  have e : sld (xs.drop i) (ys.drop j) = (xs.getD i Str.empty :: (sld (xs.drop (i + 1)) (ys.drop j)).1, (sld (xs.drop (i + 1)) (ys.drop j)).2) := by
    rw [drop_cons hi, drop_cons hj, sld_cons, if_pos c]
  unfold SInv at h ⊢
  rw [e] at h
  rw [List.append_assoc]
  exact h
theorem sinv_gt {xs ys m u : List PySem.Str} {i j : Nat} (h : SInv xs ys i j m u) (hi : i < xs.length) (hj : j < ys.length) (c₀ : ¬ slt (xs.getD i Str.empty) (ys.getD j Str.empty) = true) (c : slt (ys.getD j Str.empty) (xs.getD i Str.empty) = true) :
    SInv xs ys i (j + 1) m (u ++ [ys.getD j Str.empty]) := by
  have e : sld (xs.drop i) (ys.drop j) = ((sld (xs.drop i) (ys.drop (j + 1))).1, ys.getD j Str.empty :: (sld (xs.drop i) (ys.drop (j + 1))).2) := by
    rw [drop_cons hi, drop_cons hj, sld_cons, if_neg c₀, if_pos c]
  unfold SInv at h ⊢
  rw [e] at h
  rw [List.append_assoc]
  exact h
theorem sinv_eq {xs ys m u : List PySem.Str} {i j : Nat} (h : SInv xs ys i j m u) (hi : i < xs.length) (hj : j < ys.length) (c₀ : ¬ slt (xs.getD i Str.empty) (ys.getD j Str.empty) = true) (c : ¬ slt (ys.getD j Str.empty) (xs.getD i Str.empty) = true) :
    SInv xs ys (i + 1) (j + 1) m u := by
  have e : sld (xs.drop i) (ys.drop j) = sld (xs.drop (i + 1)) (ys.drop (j + 1)) := by
    rw [drop_cons hi, drop_cons hj, sld_cons, if_neg c₀, if_neg c]
  unfold SInv at h ⊢
  rw [e] at h
  exact h
/-- at the end of one of them -/
theorem sinv_end {xs ys m u : List PySem.Str} {i j : Nat} (h : SInv xs ys i j m u) (hx : xs.length ≤ i ∨ ys.length ≤ j) : m ++ xs.drop i = (sld xs ys).1 ∧ u ++ ys.drop j = (sld xs ys).2 := by
  unfold SInv at h
  rcases hx with hx | hx
  · rw [List.drop_eq_nil_of_le hx, sld_nil_left] at h
    rw [List.drop_eq_nil_of_le hx]
    exact h
  · rw [List.drop_eq_nil_of_le hx, sld_nil_right] at h
    rw [List.drop_eq_nil_of_le hx]
    exact h

theorem filterMap_getElem {α : Type} (xs : List α) (k : Nat) : ∀ n, k + n = xs.length → ((List.range n).map (k + ·)).filterMap (xs[·]?) = xs.drop k
  | 0, h => by rw [List.drop_eq_nil_of_le (by omega)]; rfl
  | n + 1, h => by
    have hk : k < xs.length := by omega
    rw [List.range_succ_eq_map, List.map_cons, List.filterMap_cons, List.drop_eq_getElem_cons hk]
    have e : xs[k + 0]? = some xs[k] := by rw [Nat.add_zero, List.getElem?_eq_getElem hk]
    rw [e]
    have e2 : List.map (k + ·) (List.map Nat.succ (List.range n)) = List.map ((k + 1) + ·) (List.range n) := by
      rw [List.map_map]
      refine List.map_congr_left fun j _ => ?_
      show k + (j + 1) = k + 1 + j
      omega
    dsimp only
    rw [e2]
    exact congrArg _ (filterMap_getElem xs (k + 1) n (by omega))

/-- xs[k:] -/
theorem pickS_from {α : Type} (xs : List α) (k : Nat) : pickS xs (some (k : Int)) none none = xs.drop k := by
  have e : sliceBounds (some (k : Int)) none none xs.length = (((min k xs.length : Nat) : Int), ((xs.length : Nat) : Int), 1) := by
    simp only [sliceBounds, Option.getD_none, show (1 : Int) > 0 by decide, if_true, if_neg (show ¬ ((k : Int) < 0) by omega)]
    congr 1
    omega
  unfold pickS
  rw [e]
  simp only [sliceRange_one]
  rw [filterMap_getElem xs (min k xs.length) (xs.length - min k xs.length) (by omega)]
  by_cases h : k ≤ xs.length
  · rw [Nat.min_eq_left h]
  · rw [Nat.min_eq_right (by omega), List.drop_of_length_le (Nat.le_refl _), List.drop_of_length_le (by omega)]
theorem pickS_fromI {α : Type} (xs : List α) {k : Int} (h : 0 ≤ k) : pickS xs (some k) none none = xs.drop k.toNat := by
  obtain ⟨n, rfl⟩ : ∃ n : Nat, k = n := ⟨k.toNat, by omega⟩
  exact pickS_from xs n
theorem toNat_succ (n : Nat) : ((n : Int) + 1).toNat = n + 1 := rfl
end Mine
end
/- Base9 -/
section
open PySem PySem.W PyProof.Rows PySem.Calls
set_option Elab.async false
namespace Mine
set_option maxRecDepth 100000
open TI TT

/-- a new exception whose context is another one -/
structure NewExcC (h h' : Heap) (e c : Addr) (cls : String) : Prop where
  keeps : ∀ b o, h.get? b = some o → h'.get? b = some o
  new : h.get? e = none
  there : ∃ ob t, h'.get? e = some ob ∧ ob.cls = .type cls ∧ ob.data = .fields #[t, .none, .ref c, .none, .bool false, .none]

section
variable {α : Type} {prog : Program} {w : World} {A : Around} {E : Value → Shared → Prop} {s : Shared}

theorem wpAny_unchain {e c : Addr} {oc : Obj} {vc : Array Value} {Q : Value → Shared → Prop} (hc : s.heap.get? c = some oc) (hd : oc.data = .fields vc) (h2 : vc[2]? = some .none) (h : Q .none s) :
    wpAny (model prog w) A (runValue (.builtin "proto.unchain" ⟨[.ref e, .ref c, .ref c, .bool false], []⟩)) Q E s := by
  refine wpAny_runValue (codeAny_builtin (b := Builtin.«proto.unchain») (entryFor_of_fast (by kernel_rfl)) ?_)
  show wpAny _ _ (field (.ref c) 2 >>= _) _ _ s
  refine wpAny_bind (wpAny_field hc hd h2 ?_)
  rw [if_pos (show (Value.none == Value.none) = true by decide)]
  exact wpAny_pure h

theorem wpAny_raiseNew_ctx {e c : Addr} {oe oc : Obj} {ve vc : Array Value} {Q : α → Shared → Prop} (hA : A.handled = some (.ref c)) (hec : e ≠ c) (he : s.heap.get? e = some oe) (hde : oe.data = .fields ve) (hse : 2 < ve.size)
    (hc : s.heap.get? c = some oc) (hd : oc.data = .fields vc) (h2 : vc[2]? = some .none)
    (h : E (.ref e) { s with heap := s.heap.update e (Obj.mapFields (·.setIfInBounds 2 (.ref c))) }) :
    wpAny (model prog w) A (raiseNew (.ref e) : Sem α) Q E s := by
  unfold raiseNew
  refine wpAny_bind (wpAny_handled ?_)
  rw [hA]
  dsimp only
  rw [if_pos (show (Value.ref c != Value.ref e) = true by simp [bne]; exact fun q => hec q.symm)]
  refine wpAny_bind (wpAny_holding (wpAny_unchain hc hd h2 ?_))
  refine wpAny_bind (m := setField (.ref e) 2 (.ref c)) (wpAny_setField he hde hse ?_)
  exact wpAny_throw h

theorem wpAny_raiseWords_ctx {cls msg : String} {c : Addr} {oc : Obj} {vc : Array Value} {Q : α → Shared → Prop} (hp : PlainExc cls) (hA : A.handled = some (.ref c)) (hc : s.heap.get? c = some oc) (hd : oc.data = .fields vc) (h2 : vc[2]? = some .none)
    (h : ∀ h' tk e, NewExcC s.heap h' e c cls → E (.ref e) { s with heap := h', toks := tk }) :
    wpAny (model prog w) A (raiseErrorWords cls msg : Sem α) Q E s := by
  unfold raiseErrorWords
  refine wpAny_bind (wpAny_mkText (wpAny_bind ?_))
  unfold newExc newTuple
  refine wpAny_bind (wpAny_newObj_type ?_)
  refine wpAny_bind (m := firstArgMember _ _) (wpAny_of_eq (a := Value.none) (by simp only [firstArgMember, hp.first]; rfl) ?_)
  rw [hp.own]
  refine wpAny_newObj_type ?_
  generalize hh1 : s.heap.push _ = h1
  have k1 : ∀ b o, s.heap.get? b = some o → h1.get? b = some o := fun b o e => hh1 ▸ Heap.get?_push_of_some _ e
  have hz1 : h1.objs.size = s.heap.objs.size + 1 := by rw [← hh1, Heap.size_push]
  have he := Heap.get?_push_size h1 (o := { cls := .type cls, dict := none, data := .fields #[.ref s.heap.objs.size, .none, .none, .none, .bool false, .none] }) rfl
  have hcl : c < s.heap.objs.size := Heap.lt_size hc
  have hce : h1.objs.size ≠ c := by rw [hz1]; exact Nat.ne_of_gt (Nat.lt_succ_of_lt hcl)
  refine wpAny_raiseNew_ctx (s := { s with heap := _, toks := _ }) hA hce he rfl (by simp) (Heap.get?_push_of_some _ (k1 _ _ hc)) hd h2 ?_
  refine h _ _ _ ⟨fun b o hb => ?_, ?_, _, .ref s.heap.objs.size, Heap.get?_update_self _ he (Obj.isFreed_of_fields (Obj.data_mapFields rfl _)), rfl, rfl⟩
  · refine (Heap.get?_update_ne _ _ _ _ ?_).trans (Heap.get?_push_of_some _ (k1 _ _ hb))
    have := Heap.lt_size hb
    rw [hz1]
    exact Nat.ne_of_lt (Nat.lt_succ_of_lt this)
  · refine Heap.get?_none_of_le ?_
    rw [hz1]; exact Nat.le_succ _

theorem wpAny_getItem_out_ctx {l c : Addr} {items : Array Value} {k : Int} {t : Tok} {oc : Obj} {vc : Array Value} {Q : Value → Shared → Prop} (hA : A.handled = some (.ref c)) (hc : s.heap.get? c = some oc) (hdc : oc.data = .fields vc) (h2 : vc[2]? = some .none)
    (hl : s.heap.IsList l items) (hout : (items.size : Int) ≤ k) (hhi : k < 2 ^ 63)
    (hE : ∀ h' tk e, NewExcC s.heap h' e c "IndexError" → E (.ref e) { s with heap := h', toks := tk }) :
    wpAny (model prog w) A (getItem (.ref l) (.int k t)) Q E s := by
  obtain ⟨o, ho, hcl, ne, hd⟩ := id hl
  unfold getItem
  try with_reducible refine wpAny_holding ?_
  first | refine wpAny_bind (wpAny_pure ?_) | skip
  refine wpAny_bind (wpAny_sequenceKey hl.typeIs (by decide) ?_)
  refine wpAny_bind (wpAny_callSpecial?_slot (name := PySem.Str.ofString "__getitem__") hl.typeIs slot_list_getitem
    (wpAny_call_entry slot_list_getitem hl.typeIs entry_list_getitem ?_ (args_list_getitem _ _)))
  show wpAny _ _ (Builtin.List.listSubscript? (.int k t) >>= _) _ _ s
  refine wpAny_bind (wpAny_listSubscript_int (fitsIndex_both (by omega) hhi) ?_)
  clear hhi
  cases k with
  | ofNat j =>
    have hx : items[j]? = none := Array.getElem?_eq_none (by have : (items.size : Int) ≤ (j : Int) := hout; omega)
    show wpAny _ _ ((seqItemAt l j >>= fun r => pure (r.map (j, ·))) >>= _) _ _ s
    refine wpAny_bind (wpAny_bind (wpAny_seqItemAt ho hd (wpAny_pure ?_)))
    rw [hx]
    exact wpAny_bind (wpAny_rule (wpAny_bind (wpAny_raiseWords_ctx plainExc_IndexError hA hc hdc h2 hE)))
  | negSucc j => exact absurd hout (by have := Int.negSucc_lt_zero j; omega)
end

section
variable {prog : Program} {w : World} {A A₀ : Around} {E : Value → Shared → Prop} {s s' : Shared} {h₀ hb h : Heap} {L D a e : Addr} {m : PySem.Str → Option Value} {vs : List Value} {xs : List PySem.Str} {k : Int} {u : Tok} {name : PySem.Str} {scope : Scope} {cd : Value} {X : String} {news new frs : Led} {l : List Env}
/-- xs[k] while another exception is being handled -/
theorem b_item_ctx {value slice : PySem.Expr} {c : Addr} {oc : Obj} {vc : Array Value} {Q : Value → Shared → Prop} (hA : A.handled = some (.ref c)) (N : News h₀ L s.heap news) (hcm : (c, oc) ∈ news) (hdc : oc.data = .fields vc) (h2 : vc[2]? = some .none)
    (F : Fr h₀ L s.heap m) (hl : h₀.IsList D vs.toArray) (hi : StrsAre vs xs) (h0 : 0 ≤ k) (hfit : k < 2 ^ 63)
    (hin : k < xs.length → ∀ t, Q (.str (xs.getD k.toNat Str.empty) t) s) (hout : (xs.length : Int) ≤ k → ∀ h' tk e, NewExcC s.heap h' e c "IndexError" → E (.ref e) { s with heap := h', toks := tk })
    (hs : subscripted slice false (.ref D) (.int k u) = operate [.ref D, .int k u] (getItem (.ref D) (.int k u)) := by with_unfolding_all rfl) (hg : ∀ r, letTemporaryGo value (.ref D) r = pure () := by intro _; with_unfolding_all rfl) :
    wpAny (model prog w) A (subscriptTail value slice (.ref D) (.int k u)) Q E s := by
  have hl' : s.heap.IsList D vs.toArray := hl.at fun o e => F.keep _ o e
  have hsz : vs.toArray.size = xs.length := by rw [List.size_toArray]; exact hi.length
  by_cases h : k < xs.length
  · exact item_strsA hl' hi h0 h hfit (hin h) hs hg
  · exact subscriptTail_builtin hl'.typeIs slot_list_getitem.lookup (wpAny_getItem_out_ctx hA (N _ hcm).1 hdc h2 hl' (by rw [hsz]; omega) hfit (hout (by omega))) hs hg

/-- the frame's word is there already -/
theorem held_again {Q : Unit → Shared → Prop} (H : HeldN h₀ L s.heap m e X news) (h : Q () s) : wpAny (model prog w) A (noteFrame (.ref e) (envOf name scope L a cd)) Q E s := by
  obtain ⟨⟨_, ⟨ob, vs, tb, otb, tvs, he, hcls, hd, h1, htb, htd, h3, htbL, htbe, htb0⟩, _⟩, _, _⟩ := H
  unfold noteFrame
  simp only [show (envOf name scope L a cd).frame = some L from rfl]
  refine wpAny_bind (wpAny_field he hd h1 ?_)
  rw [if_pos (show (Value.ref tb != Value.none) = true by simp)]
  refine wpAny_bind (wpAny_field htb htd h3 ?_)
  rw [if_pos (show (rawInt L == rawInt L) = true by simp)]
  exact wpAny_pure h

/-- the exception and its word, as entries of the ledger -/
theorem held_open {fl : Value} (H : HeldNA h₀ L h m e X news fl) : ∃ (ob otb : Obj) (tb : Addr) (vs tvs : Array Value), ob.cls = .type X ∧ ob.data = .fields vs ∧ vs[1]? = some (.ref tb) ∧ otb.data = .fields tvs ∧ tvs[3]? = some fl ∧ tb ≠ e ∧ (∀ p ∈ news, p.1 ≠ tb) ∧ Fr h₀ L h m ∧ News h₀ L h ((e, ob) :: (tb, otb) :: news) := by
  obtain ⟨⟨F, ⟨ob, vs, tb, otb, tvs, he, hcls, hd, h1, htb, htd, h3, htbL, htbe, htb0⟩, hf⟩, N, hap⟩ := H
  refine ⟨ob, otb, tb, vs, tvs, hcls, hd, h1, htd, h3, htbe, hap ob vs tb he hd h1, F, fun p hp => ?_⟩
  rcases List.mem_cons.mp hp with rfl | hp
  · refine ⟨he, fun q => ?_, hf⟩
    obtain ⟨oL, es, ep, hL, hLd, _⟩ := F.ns
    have q' : e = L := q
    rw [q', hL] at he
    cases he
    rw [hLd] at hd
    cases hd
  rcases List.mem_cons.mp hp with rfl | hp
  · exact ⟨htb, htbL, htb0⟩
  · exact N p hp

/-- on it goes -/
theorem pass_on {α : Type} {what : String} {ob otb : Obj} {tb : Addr} {vs tvs : Array Value} {fl : Value} {Q : α → Shared → Prop} (hcls : ob.cls = .type X) (hd : ob.data = .fields vs) (h1 : vs[1]? = some (.ref tb)) (htd : otb.data = .fields tvs) (h3 : tvs[3]? = some fl) (hne : tb ≠ e) (hap : ∀ p ∈ news, p.1 ≠ tb)
    (F : Fr h₀ L s.heap m) (N : News h₀ L s.heap ((e, ob) :: (tb, otb) :: news)) (h : ∀ h', HeldN h₀ L h' m e X news → E (.ref e) { s with heap := h' }) :
    wpAny (model prog w) A (PySem.passOn what (.ref e) (envOf name scope L a cd) : Sem α) Q E s := by
  have ne := N (e, ob) (.head _)
  have nt := N (tb, otb) (.tail _ (.head _))
  have hsz : 3 < tvs.size := (Array.getElem?_eq_some_iff.mp h3).1
  unfold PySem.passOn
  refine wpAny_bind (wpAny_field ne.1 hd h1 ?_)
  rw [if_neg (show ¬ ((Value.ref tb == Value.none) = true) by simp)]
  refine wpAny_bind (m := setFlight _ _) ?_
  unfold setFlight
  refine wpAny_bind (wpAny_field ne.1 hd h1 ?_)
  rw [if_pos (show (Value.ref tb != Value.none) = true from by simp)]
  show wpAny _ _ (setField (.ref tb) 3 (rawInt L)) _ _ _
  refine wpAny_setField nt.1 htd hsz (wpAny_throw (h _ ?_))
  have other : ∀ b, b ≠ tb → (s.heap.update tb (Obj.mapFields (·.setIfInBounds 3 (rawInt L)))).get? b = s.heap.get? b := fun b hb => Heap.get?_update_ne _ _ _ _ hb
  have e1 := (other e (Ne.symm hne)).trans ne.1
  obtain ⟨oL, es, ep, hL, hLr⟩ := F.ns
  refine ⟨⟨⟨⟨oL, es, ep, (other L (Ne.symm nt.2.1)).trans hL, hLr⟩, fun b o hb => (other b (fun q => by have := nt.2.2; rw [← q, hb] at this; cases this)).trans (F.keep b o hb), F.above⟩, ⟨ob, vs, tb, _, _, e1, hcls, hd, h1, Heap.get?_update_self _ nt.1 (Obj.isFreed_of_fields (Obj.data_mapFields htd _)), Obj.data_mapFields htd _, ?_, nt.2.1, hne, nt.2.2⟩, ne.2.2⟩, fun p hp => ?_, ?_⟩
  · simp [Array.getElem?_setIfInBounds, hsz]
  · have z := N p (.tail _ (.tail _ hp))
    exact ⟨(other p.1 (hap p hp)).trans z.1, z.2⟩
  · intro ob' vs' tb' q1 q2 q3 p hp
    rw [e1] at q1
    obtain rfl := Option.some.inj q1
    rw [hd] at q2
    injection q2 with q2
    subst q2
    rw [h1] at q3
    injection q3 with q3
    injection q3 with q3
    rw [← q3]
    exact hap p hp

/-- the first word about an exception, with what it says of its context -/
theorem noted2 {ob : Obj} {ve : Array Value} {Q : Unit → Shared → Prop} (hfr : A₀.frames = some l) (Fs : Frs l frs) (kp : ∀ b o, h.get? b = some o → s'.heap.get? b = some o) (hnew : h.get? e = none) (he : s'.heap.get? e = some ob) (hcls : ob.cls = .type X)
    (hd : ob.data = .fields ve) (h1 : ve[1]? = some .none) (F : Fr hb L h m) (N : News hb L h (new ++ frs)) (hap : ∀ p ∈ new, p.1 ∉ L :: frs.map (·.1))
    (k : ∀ h' frs', SameUp frs frs' → Frs l frs' → TT.HeldN hb L h' m e X (new ++ frs') → (∃ ob' ve', h'.get? e = some ob' ∧ ob'.data = .fields ve' ∧ ve'[2]? = ve[2]?) → Q () { s' with heap := h' }) (hk : scope.kind = .function := by rfl) :
    wpAny (model prog w) (A₀.deeper (envOf name scope L a cd)) (noteFrame (.ref e) (envOf name scope L a cd)) Q E s' := by
  obtain ⟨hff, -, -⟩ := frames_at (name := name) (a := a) (cd := cd) (h' := s'.heap) (base := gone h (L :: frs.map (·.1))) hk Fs F N tail_sub (fun b o hb' => ⟨o.slots, kp b o hb'⟩) fun b hm => gone_none hm
  have hsz1 : 1 < ve.size := (Array.getElem?_eq_some_iff.mp h1).1
  unfold noteFrame
  simp only [show (envOf name scope L a cd).frame = some L from rfl]
  refine wpAny_bind (wpAny_field he hd h1 ?_)
  rw [if_neg (by decide)]
  refine wpAny_bind (wpAny_frameOf_fun (Around.frames_deeper hfr) hff rfl fun g₁ hs => ?_)
  rw [frames_are Fs] at hs
  refine wpAny_bind (wpAny_entryPlaceOf fun pl hpl => ?_)
  unfold EntryCells.newEntry newFields
  refine wpAny_bind (wpAny_newObj_type ?_ (hpl.sizeOk5 _ _ _ _ _))
  generalize hts : (([Value.none, .ref L, .none, rawInt L, .none] ++ (if pl.isEmpty then List.replicate 6 Value.none else pl)).toArray : Array Value) = ts
  have hts3 : ts[3]? = some (rawInt L) := by rw [← hts]; simp
  have notIn : ∀ b o, h.get? b = some o → b ≠ e := fun b o hb' q => by rw [q, hnew] at hb'; cases hb'
  have heF : e ∉ L :: frs.map (·.1) := fun hm => by
    rcases List.mem_cons.mp hm with q | hm
    · obtain ⟨oL, _, _, hL, _⟩ := F.ns
      exact notIn L oL hL q.symm
    · obtain ⟨x, hx, q⟩ := List.mem_map.mp hm
      exact notIn x.1 x.2 (N x (List.mem_append_right _ hx)).1 q
  have he₁ : g₁.get? e = some ob := (hs.2.1 e heF).trans he
  have heT : e ≠ g₁.objs.size := Nat.ne_of_lt (Heap.lt_size he₁)
  generalize hg : g₁.push { cls := .type "traceback", dict := none, data := .fields ts } = g₂
  have up : ∀ b o, g₁.get? b = some o → g₂.get? b = some o := fun b o q => hg ▸ Heap.get?_push_of_some _ q
  have hT₂ : g₂.get? g₁.objs.size = some { cls := .type "traceback", dict := none, data := .fields ts } := hg ▸ Heap.get?_push_size _ rfl
  refine wpAny_setField (up _ _ he₁) hd hsz1 ?_
  have other : ∀ b, b ≠ e → (g₂.update e (Obj.mapFields (·.setIfInBounds 1 (.ref g₁.objs.size)))).get? b = g₂.get? b := fun b q => Heap.get?_update_ne _ _ _ _ q
  have he₃ := Heap.get?_update_self (Obj.mapFields (·.setIfInBounds 1 (.ref g₁.objs.size))) (up _ _ he₁) (Obj.isFreed_of_fields (Obj.data_mapFields hd _))
  generalize g₂.update e (Obj.mapFields (·.setIfInBounds 1 (.ref g₁.objs.size))) = g₃ at other he₃ ⊢
  have slots : ∀ b o, h.get? b = some o → ∃ sl, g₃.get? b = some { o with slots := sl } := fun b o q => by
    obtain ⟨sl, z⟩ := hs.2.2 b o (kp b o q)
    exact ⟨sl, (other b (notIn b o q)).trans (up _ _ z)⟩
  have same : ∀ b o, b ∉ L :: frs.map (·.1) → h.get? b = some o → g₃.get? b = some o := fun b o hn q => (other b (notIn b o q)).trans (up _ _ ((hs.2.1 b hn).trans (kp b o q)))
  have hT : g₃.get? g₁.objs.size = some { cls := .type "traceback", dict := none, data := .fields ts } := (other _ heT.symm).trans hT₂
  have hTn : h.get? g₁.objs.size = none := by
    cases q : h.get? g₁.objs.size with
    | none => rfl
    | some o =>
      obtain ⟨sl, z⟩ := hs.2.2 _ o (kp _ o q)
      exact absurd (Heap.lt_size z) (Nat.lt_irrefl _)
  obtain ⟨oL, es, ep, hL, hLd, hLr⟩ := id F.ns
  obtain ⟨slL, hL₃⟩ := slots L oL hL
  obtain ⟨frs₂, SU₂, ht₂⟩ := sameUp_of (h' := g₃) fun p hp => slots p.1 p.2 (N p (List.mem_append_right _ hp)).1
  have hbn : ∀ b, h.get? b = none → hb.get? b = none := fun b q => by
    cases z : hb.get? b with
    | none => rfl
    | some o => rw [F.keep b o z] at q; cases q
  have dst : ∀ p ∈ new ++ frs₂, p.1 ≠ g₁.objs.size := fun p hp q => by
    rcases List.mem_append.mp hp with hp | hp
    · have z := (N p (List.mem_append_left _ hp)).1
      rw [q, hTn] at z; cases z
    · obtain ⟨x, hx, q'⟩ := SU₂.fwd p hp
      have z := (N x (List.mem_append_right _ hx)).1
      rw [← q', q, hTn] at z; cases z
  have d3 : (Obj.mapFields (·.setIfInBounds 1 (.ref g₁.objs.size)) ob).data = .fields (ve.setIfInBounds 1 (.ref g₁.objs.size)) := Obj.data_mapFields hd _
  have e13 : (ve.setIfInBounds 1 (Value.ref g₁.objs.size))[1]? = some (.ref g₁.objs.size) := by simp [hsz1]
  refine k g₃ frs₂ SU₂ (Fs.up SU₂) ⟨⟨⟨⟨_, es, ep, hL₃, hLd, hLr⟩, fun b o q => same b o (base_apart F N tail_sub q) (F.keep b o q), F.above⟩,
    ⟨_, _, g₁.objs.size, _, ts, he₃, (Obj.cls_mapFields _ _).trans hcls, d3, e13, hT, rfl, hts3, fun q => ?_, heT.symm, hbn _ hTn⟩, hbn _ hnew⟩, fun p hp => ?_, ?_⟩ ⟨_, _, he₃, d3, by rw [Array.getElem?_setIfInBounds_ne (by decide)]⟩
  · rw [q, hL] at hTn; cases hTn
  · rcases List.mem_append.mp hp with hp | hp
    · have z := N p (List.mem_append_left _ hp)
      exact ⟨same _ _ (hap p hp) z.1, z.2⟩
    · obtain ⟨x, hx, q'⟩ := SU₂.fwd p hp
      have z := (N x (List.mem_append_right _ hx)).2
      exact ⟨ht₂ p hp, by rw [q']; exact z.1, by rw [q']; exact z.2⟩
  · intro ob' vs' tb' q1 q2 q3 p hp
    rw [he₃] at q1
    obtain rfl := Option.some.inj q1
    rw [d3] at q2
    injection q2 with q2
    subst q2
    rw [e13] at q3
    injection q3 with q3
    injection q3 with q3
    rw [← q3]
    exact dst p hp

/-- the word's mark -/
theorem set_flight {f : Option Addr} {ob otb : Obj} {tb : Addr} {vs tvs : Array Value} {fl : Value} {Q : Unit → Shared → Prop} (hd : ob.data = .fields vs) (h1 : vs[1]? = some (.ref tb)) (htd : otb.data = .fields tvs) (h3 : tvs[3]? = some fl) (hne : tb ≠ e) (hap : ∀ p ∈ news, p.1 ≠ tb)
    (F : Fr h₀ L s.heap m) (N : News h₀ L s.heap ((e, ob) :: (tb, otb) :: news)) (h : ∀ h' otb' tvs', otb'.data = .fields tvs' → tvs'[3]? = some (f.elim .none fun x => rawInt x) → Fr h₀ L h' m → News h₀ L h' ((e, ob) :: (tb, otb') :: news) → Q () { s with heap := h' }) :
    wpAny (model prog w) A (setFlight (.ref e) f) Q E s := by
  have ne := N (e, ob) (.head _)
  have nt := N (tb, otb) (.tail _ (.head _))
  have hsz : 3 < tvs.size := (Array.getElem?_eq_some_iff.mp h3).1
  unfold setFlight
  refine wpAny_bind (wpAny_field ne.1 hd h1 ?_)
  rw [if_pos (show (Value.ref tb != Value.none) = true from by simp)]
  refine wpAny_setField nt.1 htd hsz ?_
  have other : ∀ b, b ≠ tb → (s.heap.update tb (Obj.mapFields (·.setIfInBounds 3 (f.elim .none fun x => rawInt x)))).get? b = s.heap.get? b := fun b hb => Heap.get?_update_ne _ _ _ _ hb
  obtain ⟨oL, es, ep, hL, hLr⟩ := F.ns
  refine h _ (Obj.mapFields (·.setIfInBounds 3 (f.elim .none fun x => rawInt x)) otb) (tvs.setIfInBounds 3 (f.elim .none fun x => rawInt x)) (Obj.data_mapFields htd _) (by simp [hsz]) ⟨⟨oL, es, ep, (other L (Ne.symm nt.2.1)).trans hL, hLr⟩, fun b o hb => (other b (fun q => by have := nt.2.2; rw [← q, hb] at this; cases this)).trans (F.keep b o hb), F.above⟩ fun p hp => ?_
  rcases List.mem_cons.mp hp with rfl | hp
  · exact ⟨(other e (Ne.symm hne)).trans ne.1, ne.2⟩
  rcases List.mem_cons.mp hp with rfl | hp
  · exact ⟨Heap.get?_update_self _ nt.1 (Obj.isFreed_of_fields (Obj.data_mapFields htd _)), nt.2⟩
  · have z := N p (.tail _ (.tail _ hp))
    exact ⟨(other p.1 (hap p hp)).trans z.1, z.2⟩
end
end Mine
end
/- Base10 -/
section
open PySem PySem.W PyProof.Rows PySem.Calls
set_option Elab.async false
namespace Mine
set_option maxRecDepth 100000
open TI TT

theorem strs_erase (k : PySem.Str) : ∀ {vs : List Value} {xs : List PySem.Str}, StrsAre vs xs → k ∈ xs → ∃ j, ∃ h : j < vs.length, isStrOf k vs[j] = true ∧ (∀ m (hm : m < vs.length), m < j → isStrOf k vs[m] = false) ∧ StrsAre (vs.eraseIdx j) (xs.erase k)
  | _, _, .nil, h => nomatch h
  | _, _, .cons (vs := vs) y t hs, h => by
    by_cases e : y = k
    · subst e
      refine ⟨0, Nat.succ_pos _, by simp [isStrOf], fun m _ hm => absurd hm (Nat.not_lt_zero _), ?_⟩
      rw [List.erase_cons_head]
      exact hs
    · rcases List.mem_cons.mp h with h | h
      · exact absurd h.symm e
      obtain ⟨j, hj, h1, h2, h3⟩ := strs_erase k hs h
      refine ⟨j + 1, Nat.succ_lt_succ hj, h1, fun m hm hmj => ?_, ?_⟩
      · cases m with
        | zero => simp [isStrOf, e]
        | succ m => exact h2 m (Nat.lt_of_succ_lt_succ hm) (Nat.lt_of_succ_lt_succ hmj)
      · rw [List.erase_cons_tail (by simpa using e)]
        exact .cons y t h3
theorem strs_none (k : PySem.Str) : ∀ {vs : List Value} {xs : List PySem.Str}, StrsAre vs xs → k ∉ xs → ∀ v ∈ vs, isStrOf k v = false
  | _, _, .nil, _, _, hv => nomatch hv
  | _, _, .cons y t hs, h, v, hv => by
    rcases List.mem_cons.mp hv with rfl | hv
    · have : y ≠ k := fun e => h (by rw [e]; exact List.mem_cons_self)
      simp [isStrOf, this]
    · exact strs_none k hs (fun hm => h (List.mem_cons_of_mem _ hm)) v hv

section
variable {prog : Program} {w : World} {A : Around} {E : Value → Shared → Prop} {s : Shared} {h₀ : Heap} {L D : Addr} {m : PySem.Str → Option Value} {news : Led} {vs : List Value} {xs : List PySem.Str} {n : Nat} {k : PySem.Str} {t : Tok}
theorem r_remove {g : Obj → Led} {Q : Value → Shared → Prop} (hA : A.handled = none) (F : Fr h₀ L s.heap m) (N : News h₀ L s.heap news) (U : UpdF D (listOf vs.toArray n) news g) (hi : StrsAre vs xs) (hz : xs.length ≤ 2 ^ 20)
    (hit : k ∈ xs → ∀ h' vs', StrsAre vs' (xs.erase k) → Fr h₀ L h' m → News h₀ L h' (g (listOf vs'.toArray (n + 1))) → Q .none { s with heap := h' })
    (miss : k ∉ xs → ∀ h' tk e, Heap.NewExc s.heap h' e "ValueError" → E (.ref e) { s with heap := h', toks := tk }) :
    wpAny (model prog w) A (call (.builtin "list.remove") [.ref D, .str k t]) Q E s := by
  have hm : (D, listOf vs.toArray n) ∈ news := by
    obtain ⟨pre, post, rfl, _⟩ := (updF_upd (o' := listOf vs.toArray n) U).split
    exact List.mem_append.mpr (.inr (.head _))
  have z := N _ hm
  have l1 : vs.length = xs.length := hi.length
  have heq : ∀ y, y ∈ vs.toArray → PySem.MeetsSeq.EqGives y (.str k t) (isStrOf k y) := fun y hy => eq_isStrOf k t hi y (by simpa using hy)
  by_cases hk : k ∈ xs
  · obtain ⟨j, hj, h1, h2, h3⟩ := strs_erase k hi hk
    obtain ⟨pre, post, e1, e2, a, b⟩ := (updF_upd (o' := listOf (vs.eraseIdx j).toArray (n + 1)) U).split
    subst e1
    refine call_meets PySem.F.slot_list_remove ⟨_, z.1, rfl⟩ PySem.F.entry_list_remove (PySem.F.args_list_remove_2 _ _)
      (MeetsSeq.list_remove D vs.toArray n (.str k t) (isStrOf k) heq j (by simpa using hj) (by simpa using h1) (fun i hi' hlt => by simpa using h2 i (by simpa using hi') hlt) (by rw [List.size_toArray, l1, PySem.sizeLine_eq]; omega))
      ⟨z.1, hit hk _ (vs.eraseIdx j) h3 (F.change (Heap.SameBut.update ..) z.2.1 z.2.2) ?_⟩
    rw [e2]
    refine ki_turn _ N a b ?_ ?_
    · show vs.toArray.eraseIdxIfInBounds j = (vs.eraseIdx j).toArray
      apply Array.toList_inj.mp
      simp [Array.toList_eraseIdxIfInBounds]
    · have hq : (vs.eraseIdx j).toArray.size ≠ vs.toArray.size := by
        rw [List.size_toArray, List.size_toArray, List.length_eraseIdx_of_lt hj]; omega
      rw [if_neg (by simpa using hq)]
  · exact call_meets PySem.F.slot_list_remove ⟨_, z.1, rfl⟩ PySem.F.entry_list_remove (PySem.F.args_list_remove_2 _ _)
      (MeetsSeq.list_remove_none D vs.toArray n (.str k t) (isStrOf k) heq (fun i hi' => by simpa using strs_none k hi hk _ (List.getElem_mem (by simpa using hi')))) ⟨z.1, hA, miss hk⟩
end

section
variable {prog : Program} {w : World} {A : Around} {E : Value → Shared → Prop} {s : Shared} {h₀ : Heap} {L D : Addr} {news : Led} {vs : List Value} {n : Nat}
theorem r_truthy {b : Bool} {Q : Bool → Shared → Prop} (N : News h₀ L s.heap news) (hm : (D, listOf vs.toArray n) ∈ news) (hz : vs.length ≤ 2 ^ 20) (hb : b = !vs.isEmpty) (h : Q b { s with toks := s.toks + 1 + 1 }) : wpAny (model prog w) A (truthy (.ref D)) Q E s := by
  refine wpAny_truthy_list (items := vs.toArray) ⟨_, (N _ hm).1, rfl, _, rfl⟩ (by rw [List.size_toArray]; omega) ?_
  have e : b = _ := hb
  rw [e] at h
  cases vs with
  | nil => exact h
  | cons v r => exact h
end

/-- one name of the former is looked for in the latter -/
noncomputable def uStep (st : List PySem.Str × List PySem.Str) (x : PySem.Str) : List PySem.Str × List PySem.Str := if x ∈ st.2 then (st.1, st.2.erase x) else (st.1 ++ [x], st.2)
/-- all of them, from the last one on -/
noncomputable def uAll (xs : List PySem.Str) (st : List PySem.Str × List PySem.Str) : List PySem.Str × List PySem.Str := xs.reverse.foldl uStep st
theorem uAll_snoc (xs : List PySem.Str) (z : PySem.Str) (st : List PySem.Str × List PySem.Str) : uAll (xs ++ [z]) st = uAll xs (uStep st z) := by
  unfold uAll
  rw [List.reverse_append]
  rfl

/-- what unorderable_list_difference gives -/
noncomputable abbrev MCtr (w : World) (p : PySem.Program) (loose : List PySem.Str) (mean : ExcName → Option Value) (mg mb : PySem.Str → Option Value) (dpN unN : Nat) (f : Addr) (xs ys : List PySem.Str) : Prop :=
  ∀ (dp un : Nat) (gd : Option (List Code)) (cn : PySem.Str) (cs : Scope) (a : Addr) (ccd : Value) (cl : List (PySem.Str × Addr)) (outer : List Env) (h₀ : Heap) (L : Addr) (frs : Led) (s : Shared) (Q E : Value → Shared → Prop) (l1 l2 : Addr) (vs1 vs2 : List Value) (n1 n2 : Nat),
    (∀ b o, h₀.get? b = some o → s.heap.get? b = some o) → (hd.heap_39 w.params).In h₀ → Top p loose mean mg mb h₀ →
    Frs (envX cn cs L a ccd cl :: outer) frs → (∀ q ∈ (l1, listOf vs1.toArray n1) :: (l2, listOf vs2.toArray n2) :: frs, s.heap.get? q.1 = some q.2 ∧ h₀.get? q.1 = none) → StrsAre vs1 xs → StrsAre vs2 ys → l1 ≠ l2 →
    dp + dpN < recursionLimit → un + unN < cLine →
    (∀ (D M : Addr) (vm : List Value) (nm : Nat) (vs1' : List Value) (n1' : Nat) (vs2' : List Value) (n2' : Nat) h' tk' L' m' frs', StrsAre vm (uAll xs ([], ys)).1 → StrsAre vs2' (uAll xs ([], ys)).2 → SameUp frs frs' → Fr (gone s.heap (l1 :: l2 :: frs.map (·.1))) L' h' m' →
      News (gone s.heap (l1 :: l2 :: frs.map (·.1))) L' h' ((D, { cls := .type "tuple", data := .seq #[.ref M, .ref l2] }) :: (M, listOf vm.toArray nm) :: (l1, listOf vs1'.toArray n1') :: (l2, listOf vs2'.toArray n2') :: frs') → Q (.ref D) { s with heap := h', toks := tk' }) →
    wpAny (model PySem.Challenge.pw_kt0010_01 w) (ktrTop dp un gd cn cs L a ccd cl outer) (call (.ref f) [.ref l1, .ref l2]) Q E s
end Mine
end
/- Base11 -/
section
open PySem PySem.W PyProof.Rows PySem.Calls
set_option Elab.async false
namespace Mine
set_option maxRecDepth 100000
open TI TT
theorem allLt_mem {d : Nat} {l : Led} (h : AllLt d l) (p : Addr × Obj) (hp : p ∈ l) : p.1 < d := by
  induction l with
  | nil => exact nomatch hp
  | cons q r ih =>
    cases hp with
    | head => exact h.1
    | tail _ hp => exact ih h.2 hp
theorem all_ne_cons {D : Addr} {p : Addr × Obj} {r : Led} (h : p.1 ≠ D) (h' : ∀ q ∈ r, q.1 ≠ D) (q : Addr × Obj) (hq : q ∈ p :: r) : q.1 ≠ D := by
  cases hq with
  | head => exact h
  | tail _ hq => exact h' q hq
end Mine
end
/- Base12 -/
section
open PySem PySem.W PyProof.Rows PySem.Calls
set_option Elab.async false
namespace Mine
set_option maxRecDepth 100000
open TI TT
/-- a list's own __contains__ -/
noncomputable def hasOf (l : Addr) : Obj := { cls := .type "method-wrapper", data := .fields #[.builtin "list.__contains__", .ref l] }
theorem look_contains : typeLookup (.type "list") (PySem.Str.ofString "__contains__") = pure (some (.builtin "list.__contains__")) := by rw [typeLookup_type, builtinLookup_eq_fast]; kernel_rfl
theorem type_contains : typeOf (.builtin "list.__contains__") = pure (.type "wrapper_descriptor") := by show builtinType _ = _; rw [builtinType_eq_fast]; kernel_rfl
theorem wslot_get : Slot "wrapper_descriptor" "__get__" "wrapper_descriptor.__get__" :=
  .of (owner := "wrapper_descriptor") (n := "__get__") (by rw [typeLookup_type, builtinLookup_eq_fast]; kernel_rfl) (by decide +kernel) (by decide +kernel) (by decide +kernel)
    (by first | exact .inl (by decide +kernel) | exact .inr (by decide +kernel)) (by rw [isSubtype_type]; kernel_rfl)
theorem wentry_get : entryFor table "wrapper_descriptor.__get__" = some Builtin.«wrapper_descriptor.__get__» := entryFor_of_tree (by kernel_rfl)
theorem wargs_get (a b c : Value) : argsOk "wrapper_descriptor.__get__" ⟨[a, b, c], []⟩ := by unfold argsOk; kernel_rfl
theorem wset : typeLookup (.type "wrapper_descriptor") (PySem.Str.ofString "__set__") = pure none := by rw [typeLookup_type, builtinLookup_eq_fast]; kernel_rfl
theorem wdel : typeLookup (.type "wrapper_descriptor") (PySem.Str.ofString "__delete__") = pure none := by rw [typeLookup_type, builtinLookup_eq_fast]; kernel_rfl

section
variable {prog : Program} {w : World} {M : Model} {A : Around} {E : Value → Shared → Prop} {s : Shared}
theorem run_wget {l : Addr} {P : Fin → Shared → Prop} (hT : s.TypeIs (.ref l) "list") (h : P (.done (.ret (.ref s.heap.objs.size))) { s with heap := s.heap.push (hasOf l) }) :
    wpAny M A (Builtin.«wrapper_descriptor.__get__» ⟨[.builtin "list.__contains__", .ref l, .type "list"], []⟩) P E s := by
  unfold Builtin.«wrapper_descriptor.__get__»
  refine wpAny_bind (wpAny_of_eq (a := (.builtin "list.__contains__", some (.ref l), some (.type "list"))) (by first | rfl | kernel_rfl) ?_)
  have e1 : ".".intercalate ("list.__contains__".cutAt '.').dropLast = "list" := by decide +kernel
  have e2 : isSubtype (.type "list") (.type "list") = pure true := by rw [isSubtype_type]; kernel_rfl
  repeat (any_goals (first | assumption | wp_step))
  refine wpAny_of_eq (a := true) (by rw [e1]; exact e2) ?_
  repeat (any_goals (first | assumption | wp_step))
end

theorem meets_contains (a : Addr) (xs : Array Value) (k : Nat) (sl : Array (Option Value)) (u : Tok) :
    Meets (Builtin.«object.__getattribute__» ⟨[.ref a, .str (PySem.Str.ofString "__contains__") u], []⟩) (fun _ R s => s.heap.get? a = some { cls := .type "list", dict := none, data := .seq xs k, slots := sl } ∧ R (.ok (.ret (.ref s.heap.objs.size))) { s with heap := s.heap.push (hasOf a) }) :=
  Meets.of_wp fun prog w A R s hs => by
    obtain ⟨hp, g, d, tk, os⟩ := s
    obtain ⟨hx, hs⟩ := hs
    have hT : (⟨hp, g, d, tk, os⟩ : Shared).TypeIs (.ref a) "list" := ⟨_, hx, rfl⟩
    have f1 := look_contains
    have f2 := type_contains
    have f3 := wslot_get.lookup
    have f4 := wslot_get.bind
    have f5 := wset
    have f6 := wdel
    unfold Builtin.«object.__getattribute__»
    repeat (any_goals (first | assumption | ((with_reducible show wpAny _ _ (call (Value.builtin "wrapper_descriptor.__get__") _ _) _ _ _); refine wpAny_call_entry wslot_get type_contains wentry_get (run_wget hT ?_) (wargs_get _ _ _)) | wp_step))
    exact ⟨_, rfl, wpAny_pure ⟨_, rfl, hs⟩⟩

theorem eq_val {vs : List Value} {xs : List PySem.Str} (hi : StrsAre vs xs) (k : PySem.Str) (t : Tok) : ∀ y, y ∈ vs.toArray → PySem.MeetsSeq.EqGives y (.str k t) (isStrOf k y) := fun y hy => eq_isStrOf k t hi y (by simpa using hy)
theorem any_isStrOf {k : PySem.Str} : ∀ {vs : List Value} {xs : List PySem.Str}, StrsAre vs xs → vs.any (isStrOf k) = decide (k ∈ xs)
  | _, _, .nil => by simp
  | _, _, .cons y t hs => by
    rw [List.any_cons, any_isStrOf hs]
    by_cases e : y = k
    · subst e; simp [isStrOf]
    · have : ¬ k = y := fun z => e z.symm
      simp [isStrOf, e, this]

section
variable {prog : Program} {w : World} {A : Around} {E : Value → Shared → Prop} {s : Shared} {h₀ : Heap} {L : Addr} {m : PySem.Str → Option Value} {news : Led}
/-- skip.__contains__ -/
theorem r_contains_attr {a : Addr} {xs : Array Value} {Q : Value → Shared → Prop} (F : Fr h₀ L s.heap m) (N : News h₀ L s.heap news) (hl₀ : h₀.IsList a xs) (hn₀ : h₀.NoDictAt (.ref a))
    (h : ∀ x h', Fr h₀ L h' m → News h₀ L h' ((x, hasOf a) :: news) → (∀ p ∈ news, p.1 < x) → a < x → Q (.ref x) { s with heap := h', toks := s.toks + 1 }) :
    wpAny (model prog w) A (getAttr (.ref a) (PySem.Str.ofString "__contains__") true) Q E s := by
  have hl : s.heap.IsList a xs := hl₀.at fun o e => F.keep _ o e
  have hn := hn₀.keeps fun b o e => F.keep b o e
  obtain ⟨⟨c, dct, dat, sl⟩, hx, hc, k, hd⟩ := id hl
  have hdict : dct = none := hn.of hx
  simp only at hc hd
  subst hc hd hdict
  have hT : ∀ tk', (⟨s.heap, s.gens, s.drawn, tk', s.os⟩ : Shared).TypeIs (.ref a) "list" := fun _ => ⟨_, hx, rfl⟩
  obtain ⟨hp, g, d, tk, os⟩ := s
  have f3 := PySem.F.slot_list_getattribute.lookup
  have f4 := PySem.F.slot_list_getattribute.bind (.ref a)
  have f5 := am_list_getattr_none
  unfold getAttr getAttrBy
  repeat (any_goals (first | assumption | exact hT _ | ((with_reducible show wpAny _ _ (call (Value.builtin "list.__getattribute__") _ _) _ _ _); refine call_meets PySem.F.slot_list_getattribute (hT _) am_entry_list_getattribute (PySem.F.args_list_getattribute_2 _ _) (meets_contains a xs k sl _) ⟨hx, ?_⟩) | wp_step))
  show wpAny _ _ (handedOut _) Q E _
  have hq := h hp.objs.size (hp.push (hasOf a)) (F.push _) (News.push F N _) (fun p hp => Heap.lt_size (N p hp).1) (Heap.lt_size hx)
  unfold handedOut
  repeat (any_goals (first | assumption | wp_step))

noncomputable def HasAt (x l : Addr) (h : Heap) : Prop := h.get? x = some (hasOf l)
theorem callWith_has0 {M : Model} {pos : Pos} {u l : Addr} {first : List Value} {args : List (Bool × Sem Value)} {Q : Value → Shared → Prop} (hplain : args.any (·.1) = false)
    (h : wpAny M A (evalArgs (.ref u) true args []) (fun x s₁ => HasAt u l s₁.heap ∧ wpAny M A (call (.ref u) (first ++ x.pos) x.kw) Q E s₁) E s) : wpAny M A (callWith pos (.ref u) first args []) Q E s := by
  unfold callWith
  refine wpAny_bind (wpAny_holding (wpAny_mono h (fun x s₁ h₁ => wpAny_bind (wpAny_standAt ?_)) fun _ _ x => x))
  obtain ⟨ho, hcall⟩ := h₁
  simp only [hplain, List.any_nil, Bool.or_false]
  refine wpAny_bind (m := keeperOf (.ref u)) ?_
  unfold keeperOf
  refine wpAny_bind (wpAny_load ho ?_)
  simp only [hasOf, show (Value.type "method-wrapper" != Value.type "method") = true by decide, show (Value.type "method-wrapper" == Value.type "builtin_function_or_method" || Value.type "method-wrapper" == Value.type "method-wrapper") = true by decide, if_true]
  refine wpAny_pure ?_
  exact wpAny_bind (wpAny_mono hcall (fun r s₂ hr => wpAny_bind (wpAny_holding (wpAny_point (wpAny_pure hr)))) fun _ _ x => x)
theorem callWith_has {M : Model} {pos : Pos} {u l : Addr} {first : List Value} {env : Env} {e : Expr} {rest : List Expr} {Q : Value → Shared → Prop}
    (h : wpAny M A (spliced (backTo pos (starEach (e :: rest) env))) (fun vs s₁ => HasAt u l s₁.heap ∧ wpAny M A (call (.ref u) (first ++ vs)) Q E s₁) E s)
    (he : starEach (e :: rest) env = (false, eval e env) :: starEach rest env := by rfl) (hplain : (backTo pos (starEach rest env)).any (·.1) = false := by rfl) :
    wpAny M A (callWith pos (.ref u) first (backTo pos (starEach (e :: rest) env)) []) Q E s := by
  rw [he] at h ⊢
  refine callWith_has0 (l := l) (by show (false || (backTo pos (starEach rest env)).any (·.1)) = false; rw [hplain]; rfl) ?_
  exact evalArgs_plain h
theorem check_has {l : Addr} {k : PySem.Str} {t : Tok} : checkBoundCall "list.__contains__" ⟨[.ref l, .str k t], []⟩ = pure () := by first | kernel_rfl | rfl
theorem quiet_has {as : Args} : (Code.builtin "list.__contains__" as).quiet = true := Code.quiet_builtin _ (by decide +kernel)
theorem r_call_has {x l : Addr} {vs : List Value} {xs : List PySem.Str} {k : PySem.Str} {t : Tok} {Q : Value → Shared → Prop} (ho : HasAt x l s.heap) (hl : s.heap.IsList l vs.toArray) (hi : StrsAre vs xs)
    (h : Q (.bool (decide (k ∈ xs))) s) : wpAny (model prog w) A (call (.ref x) [.str k t]) Q E s := by
  obtain ⟨⟨c, dct, dat, sl⟩, hx, hc, n, hd⟩ := id hl
  simp only at hc hd
  subst hc hd
  refine wpAny_call (codeAny_of_tree ?_)
  show wpAny _ A.in1 (callAny (.ref x) ⟨[.str k t], []⟩) _ _ s
  simp only [callAny]
  refine wpAny_bind (wpAny_load ho ?_)
  simp only [hasOf, show (Value.type "method-wrapper" == Value.type "method" || Value.type "method-wrapper" == Value.type "builtin_function_or_method" || Value.type "method-wrapper" == Value.type "method-wrapper") = true by decide, if_true]
  refine KFB.if_so (by decide) ?_
  refine wpAny_bind (wpAny_of_eq (a := ()) check_has ?_)
  refine wpAny_bind (wpAny_pure (wpAny_pure ?_))
  refine ⟨quiet_has, codeAny_builtin PySem.F.entry_list_contains (PySem.SeqInW.list_containsW l vs.toArray n dct sl (.str k t) (isStrOf k) (eq_val hi k t) prog w _ _ s ⟨hx, ?_⟩)⟩
  rw [List.any_toArray, any_isStrOf hi]
  exact h
end
end Mine
end
/- Base13 -/
section
open PySem PySem.W PyProof.Rows PySem.Calls
set_option Elab.async false
namespace Mine
set_option maxRecDepth 100000
open TI TT
/-- the way into a def over a ledger; the ground's objects are still there -/
theorem code_led2 {prog : Program} {w : World} {A : Around} {s : Shared} {K : Frag} {h₀ : Heap} {L : Addr} {m mg mb : PySem.Str → Option Value} {news : Led} {p : Program} {loose : List PySem.Str} {mean : ExcName → Option Value}
    {R : Result → Shared → Prop} {name qual : PySem.Str} {params : Arguments} {body : List Stmt} {scope : Scope} {dV kV doc pm cdv ct oc : Value} {an od : Option Addr} {osl : Array (Option Value)} {f : Addr} {args : Args} {binds : List (PySem.Str × Value)}
    (F : Fr h₀ L s.heap m) (X₀ : K.In h₀) (N : News h₀ L s.heap news) (T : Top p loose mean mg mb h₀)
    (ho : K.lookup f = some ⟨oc, od, .func (fnOf name qual params body scope dV kV doc pm an cdv ct), osl⟩) (hcd : codeIn K cdv qual = true) (hroom : A.depth < recursionLimit)
    (hbind : BindsTo s (fnOf name qual params body scope dV kV doc pm an cdv ct) args binds) (hloc : ∀ y ∈ binds, scope.names.lookup y.1 = some .local)
    (h : ∀ g L' h₁, (∀ b o, h₀.get? b = some o → g.get? b = some o) → Fr g L' h₁ (fun y => binds.reverse.lookup y) → News g L' h₁ news → K.In g → Top p loose mean mg mb g →
      wpAny (model prog w) (A.deeper (envOf qual scope L' f cdv)) (execs body (envOf qual scope L' f cdv))
        (fun fl s' => LeaveK h₀ L m g R (match fl with | .ret v => v | _ => .none) s')
        (fun e s' => wpAny (model prog w) (A.deeper (envOf qual scope L' f cdv)) (leaving (envOf qual scope L' f cdv) e) (fun _ s'' => R (.error e) s'') (fun e' s'' => R (.error e') s'') s')
        { s with heap := h₁, toks := s.toks + binds.length })
    (hco : scope.isCoroutine = false) (hgen : scope.isGenerator = false) (hk : scope.kind = .function) (hcell : ∀ x ∈ scope.names, x.2 ≠ .cell) : codeAny (model prog w) A (.call (.ref f) args) R s := by
  have nm : ∀ b o, h₀.get? b = some o → b ∉ news.map (·.1) := fun b o e q => by
    obtain ⟨r, hr, rfl⟩ := List.mem_map.mp q
    rw [(N r hr).2.2] at e
    cases e
  have st : ∀ b o, h₀.get? b = some o → (hideAll s.heap (news.map (·.1))).get? b = some o := fun b o e => hideAll_get _ (F.keep b o e) (nm b o e)
  obtain ⟨oL, es, ep, hL, hLd, hLk, hLf⟩ := F.ns
  have hLg : (hideAll s.heap (news.map (·.1))).get? L = some oL := hideAll_get _ hL fun q => by
    obtain ⟨r, hr, e⟩ := List.mem_map.mp q
    exact (N r hr).2.1 e
  have lv : ∀ v s', LeaveK h₀ L m (hideAll s.heap (news.map (·.1))) R v s' → R (.ok (.ret v)) s' := by
    rintro v s' ⟨L', m', news', F', N', k⟩
    refine k ⟨⟨oL, es, ep, F'.keep L oL hLg, hLd, hLk, hLf⟩, fun b o e => F'.keep b o (st b o e), F.above⟩ fun q hq => ⟨(N' q hq).1, fun e => ?_, ?_⟩
    · have h9 := (N' q hq).2.2
      rw [e, hLg] at h9
      cases h9
    · cases e : h₀.get? q.1 with
      | none => rfl
      | some o => have h9 := (N' q hq).2.2; rw [st _ _ e] at h9; cases h9
  refine codeAny_call_def (fd := fnX name qual params body scope [] dV kV doc pm an cdv ct) (body := body) (binds := binds) hroom ((X₀.keeps F.keep) _ _ ho) rfl (T.nolimit.keeps F.keep) (codeRec_of (X₀.keeps F.keep) hcd) rfl hbind hcell hloc (fun h₁ hns hk₁ => ?_) hco hgen hk
  exact wpAny_mono (h _ s.heap.objs.size h₁ st ⟨hns, fun b o e => hk₁ b o (of_hideAll _ e), Nat.le_of_eq (hideAll_size _ _)⟩
    (fun q hq => ⟨hk₁ _ _ (N q hq).1, Nat.ne_of_lt (Heap.lt_size (N q hq).1), hideAll_none _ (List.mem_map_of_mem hq)⟩) (X₀.keeps st) (T.keeps st)) (fun fl s' hl => lv _ _ hl) fun _ _ y => y

/-- the way into a def over a ledger -/
theorem code_led {prog : Program} {w : World} {A : Around} {s : Shared} {K : Frag} {h₀ : Heap} {L : Addr} {m mg mb : PySem.Str → Option Value} {news : Led} {p : Program} {loose : List PySem.Str} {mean : ExcName → Option Value}
    {R : Result → Shared → Prop} {name qual : PySem.Str} {params : Arguments} {body : List Stmt} {scope : Scope} {dV kV doc pm cdv ct oc : Value} {an od : Option Addr} {osl : Array (Option Value)} {f : Addr} {args : Args} {binds : List (PySem.Str × Value)}
    (F : Fr h₀ L s.heap m) (X₀ : K.In h₀) (N : News h₀ L s.heap news) (T : Top p loose mean mg mb h₀)
    (ho : K.lookup f = some ⟨oc, od, .func (fnOf name qual params body scope dV kV doc pm an cdv ct), osl⟩) (hcd : codeIn K cdv qual = true) (hroom : A.depth < recursionLimit)
    (hbind : BindsTo s (fnOf name qual params body scope dV kV doc pm an cdv ct) args binds) (hloc : ∀ y ∈ binds, scope.names.lookup y.1 = some .local)
    (h : ∀ g L' h₁, Fr g L' h₁ (fun y => binds.reverse.lookup y) → News g L' h₁ news → K.In g → Top p loose mean mg mb g →
      wpAny (model prog w) (A.deeper (envOf qual scope L' f cdv)) (execs body (envOf qual scope L' f cdv))
        (fun fl s' => LeaveK h₀ L m g R (match fl with | .ret v => v | _ => .none) s')
        (fun e s' => wpAny (model prog w) (A.deeper (envOf qual scope L' f cdv)) (leaving (envOf qual scope L' f cdv) e) (fun _ s'' => R (.error e) s'') (fun e' s'' => R (.error e') s'') s')
        { s with heap := h₁, toks := s.toks + binds.length })
    (hco : scope.isCoroutine = false) (hgen : scope.isGenerator = false) (hk : scope.kind = .function) (hcell : ∀ x ∈ scope.names, x.2 ≠ .cell) : codeAny (model prog w) A (.call (.ref f) args) R s :=
  code_led2 F X₀ N T ho hcd hroom hbind hloc (fun g L' h₁ _ => h g L' h₁) hco hgen hk hcell


noncomputable def iterObj (l : Addr) (i : Nat) : Obj := { cls := .type "list_iterator", data := .fields #[.ref l, .int i 0] }
noncomputable def endObj (i : Nat) : Obj := { cls := .type "list_iterator", data := .fields #[.none, .int i 0] }
section
variable {prog : Program} {w : World} {A : Around} {E : Value → Shared → Prop} {s : Shared} {h₀ : Heap} {L I l : Addr} {m : PySem.Str → Option Value} {news : Led} {g : Obj → Led} {xs : Array Value} {i : Nat}
theorem r_iter {Q : Value → Shared → Prop} (F : Fr h₀ L s.heap m) (N : News h₀ L s.heap news) (hl₀ : h₀.IsList l xs)
    (h : ∀ x h', Fr h₀ L h' m → News h₀ L h' ((x, iterObj l 0) :: news) → (∀ p ∈ news, p.1 < x) → Q (.ref x) { s with heap := h' }) :
    wpAny (model prog w) A (call (.builtin "iter") [.ref l]) Q E s := by
  have hl : s.heap.IsList l xs := hl₀.at fun o e => F.keep _ o e
  refine call_function_entry (by decide +kernel) (by decide +kernel) kdk_entry_iter (kdk_args_iter _) ?_
  unfold Builtin.«iter»
  refine wpAny_bind (m := someArgs "iter" 1 2 _) (wpAny_of_eq (a := [Value.ref l]) (by first | rfl | kernel_rfl) ?_)
  show wpAny _ _ (pyIter (.ref l) >>= _) _ _ _
  refine wpAny_bind (wpAny_pyIter_list hl ?_)
  exact wpAny_pure ⟨_, rfl, h _ _ (F.push _) (News.push F N _) (fun q hq => Heap.lt_size (N q hq).1)⟩

theorem r_next {Q : Value → Shared → Prop} (hh : A.handled = none) (F : Fr h₀ L s.heap m) (N : News h₀ L s.heap news) (hl₀ : h₀.IsList l xs) (U : UpdF I (iterObj l i) news g)
    (item : ∀ x, xs[i]? = some x → ∀ h', Fr h₀ L h' m → News h₀ L h' (g (iterObj l (i + 1))) → Q x { s with heap := h' })
    (over : xs[i]? = none → ∀ h1 h' tk e, Fr h₀ L h1 m → News h₀ L h1 (g (endObj i)) → Heap.NewExcOf h1 h' e "StopIteration" → E (.ref e) { s with heap := h', toks := tk }) :
    wpAny (model prog w) A (call (.builtin "next") [.ref I]) Q E s := by
  have hl : s.heap.IsList l xs := hl₀.at fun o e => F.keep _ o e
  obtain ⟨ol, hol, _, nl, hdl⟩ := hl
  obtain ⟨pre, post, e1, e2, a, b⟩ := U.split
  subst e1
  have ho := (N (I, iterObj l i) (List.mem_append.mpr (.inr (.head _)))).1
  have hT : s.TypeIs (.ref I) "list_iterator" := ⟨_, ho, rfl⟩
  refine call_function_entry (by decide +kernel) (by decide +kernel) kdk_entry_next (kdk_args_next _) ?_
  unfold Builtin.«next»
  refine wpAny_bind (m := someArgs "next" 1 2 _) (wpAny_of_eq (a := [Value.ref I]) (by first | rfl | kernel_rfl) ?_)
  refine wpAny_bind (wpAny_specialOf hT slot_listiter_next.lookup ?_)
  show wpAny _ _ (callSpecial? (.ref I) "__next__" >>= _) _ _ _
  refine wpAny_bind ?_
  refine wpAny_callSpecial?_slot (name := Str.ofString "__next__") hT slot_listiter_next (wpAny_call_entry slot_listiter_next hT entry_listiter_next ?_ (args_listiter_next _))
  show wpAny _ _ (field (.ref I) 0 >>= _) _ _ s
  refine wpAny_bind (wpAny_field ho rfl (x := .ref l) rfl ?_)
  show wpAny _ _ (if (Value.ref l == Value.none) = true then _ else _) _ _ s
  rw [if_neg (show ¬ ((Value.ref l == Value.none) = true) from Bool.false_ne_true)]
  show wpAny _ _ (field (.ref I) 1 >>= _) _ _ s
  refine wpAny_bind (wpAny_field ho rfl (x := .int i 0) rfl ?_)
  show wpAny _ _ (seqItems? (.ref l) >>= _) _ _ s
  refine wpAny_bind (wpAny_seqItems hol hdl ?_)
  simp only [Int.toNat_natCast]
  cases hx : xs[i]? with
  | some x =>
    obtain ⟨F1, N1⟩ := news_upd (f := Obj.mapFields (·.setIfInBounds 1 (rawInt ((i : Int) + 1)))) (o' := iterObj l (i + 1)) F N a b (by
      show Obj.mapFields _ (iterObj l i) = _
      unfold iterObj
      simp [Obj.mapFields, rawInt]) rfl
    refine wpAny_bind (wpAny_setField ho rfl (by simp) (wpAny_pure ⟨x, rfl, ?_⟩))
    exact wpAny_pure ⟨_, rfl, item x hx _ F1 (by rw [e2]; exact N1)⟩
  | none =>
    obtain ⟨F1, N1⟩ := news_upd (f := Obj.mapFields (·.setIfInBounds 0 .none)) (o' := endObj i) F N a b (by
      show Obj.mapFields _ (iterObj l i) = _
      unfold iterObj endObj
      simp [Obj.mapFields]) rfl
    refine wpAny_bind (wpAny_rule (wpAny_bind (wpAny_setField ho rfl (by simp) ?_)))
    show wpAny _ _ (newExc (.type "StopIteration") [] >>= _) _ _ _
    refine wpAny_bind ?_
    simp only [newExc, newTuple]
    refine wpAny_bind (wpAny_newObj_type ?_ (by size_fits))
    refine wpAny_bind (m := firstArgMember _ _) (wpAny_of_eq (a := Value.none) (by first | rfl | (simp only [firstArgMember]; rfl)) ?_)
    refine wpAny_newObj_type ?_ (by size_fits)
    simp only [raiseNew]
    refine wpAny_bind (wpAny_handled ?_)
    rw [show A.in1.in1.handled = none from hh]
    refine wpAny_bind (wpAny_pure (wpAny_throw ?_))
    refine over hx _ _ _ _ F1 (by rw [e2]; exact N1) ⟨fun b' o' e' => Heap.get?_push_of_some _ (Heap.get?_push_of_some _ e'), ?_, ⟨_, _, Heap.get?_push_size _ rfl, rfl, rfl, ?_⟩⟩
    · refine Heap.get?_none_of_le ?_
      rw [Heap.size_push]
      exact Nat.le_succ _
    · first | rfl | (rw [Array.getElem?_append_left (by simp)]; rfl) | simp
end
end Mine
end
/- Base14 -/
section
open PySem PySem.W PyProof.Rows PySem.Calls
set_option Elab.async false
namespace Mine
set_option maxRecDepth 100000
open TI TT
theorem NoD.fields {p : Addr × Obj} {vs : Array Value} (h : p.2.data = .fields vs) : NoD p := fun es ep e => by rw [h] at e; cases e
theorem NoD.seq {p : Addr × Obj} {vs : Array Value} {n : Nat} (h : p.2.data = .seq vs n) : NoD p := fun es ep e => by rw [h] at e; cases e

theorem off_of {hb h : Heap} {L : Addr} {news : Led} (N : News hb L h news) {q x : Addr × Obj} (hq : q ∈ news) (hx : x ∈ news) (nd : NoD q) (d : ∃ es ep, x.2.data = .dict es ep) : q.1 ≠ x.1 := fun e => by
  have h1 := (N q hq).1
  have h2 := (N x hx).1
  rw [e, h2] at h1
  obtain ⟨es, ep, hd⟩ := d
  exact nd es ep (by rw [← Option.some.inj h1]; exact hd)
/-- back from a call that changed J's object and the frames' slots -/
theorem x_backL {hb g h' : Heap} {L L' : Addr} {chg : Led} {m m' : PySem.Str → Option Value} {frs frs' new add : Led} {oL : Obj} {q0 : Addr × Obj} (F : Fr hb L g m) (N : News hb L g (chg ++ (new ++ frs)))
    (hL : g.get? L = some oL) (FS' : ∀ q ∈ (L, oL) :: frs, ∃ es ep, q.2.data = .dict es ep) (hJ : ∀ q ∈ new, ∀ c ∈ chg, q.1 ≠ c.1) (hnf : ∀ q ∈ new, ∀ p ∈ frs, q.1 ≠ p.1)
    (SU : SameUp ((L, oL) :: frs) (q0 :: frs')) (F' : Fr (gone g (chg.map (·.1) ++ (L :: frs.map (·.1)))) L' h' m') (N' : News (gone g (chg.map (·.1) ++ (L :: frs.map (·.1)))) L' h' (add ++ (q0 :: frs'))) (hND : ∀ q ∈ add, NoD q) :
    SameUp frs frs' ∧ Fr hb L h' m ∧ News hb L h' (add ++ (new ++ frs')) ∧ Apart add new := by
  obtain ⟨hq1, ⟨sl, hq2⟩, SU'⟩ := id SU
  obtain ⟨oL', es, ep, hL2, hLd, hLr⟩ := id F.ns
  rw [hL] at hL2
  obtain rfl := Option.some.inj hL2
  have hbL : hb.get? L = none := Heap.get?_none_of_le F.above
  have offB : ∀ b o, hb.get? b = some o → b ∉ chg.map (·.1) ++ (L :: frs.map (·.1)) := fun b o e hm => by
    rcases List.mem_append.mp hm with hm | hm
    · obtain ⟨q, hq, e'⟩ := List.mem_map.mp hm
      have := (N q (List.mem_append_left _ hq)).2.2
      rw [e', e] at this
      cases this
    rcases List.mem_cons.mp hm with q | hm
    · rw [← q, e] at hbL; cases hbL
    · obtain ⟨q, hq, e'⟩ := List.mem_map.mp hm
      have := (N q (List.mem_append_right _ (List.mem_append_right _ hq))).2.2
      rw [e', e] at this
      cases this
  have offN : ∀ q ∈ new, q.1 ∉ chg.map (·.1) ++ (L :: frs.map (·.1)) := fun q hq hm => by
    rcases List.mem_append.mp hm with hm | hm
    · obtain ⟨c, hc, e'⟩ := List.mem_map.mp hm
      exact hJ q hq c hc e'.symm
    rcases List.mem_cons.mp hm with z | hm
    · exact (N q (List.mem_append_right _ (List.mem_append_left _ hq))).2.1 z
    · obtain ⟨p, hp, e'⟩ := List.mem_map.mp hm
      exact hnf q hq p hp e'.symm
  have hq0 := N' q0 (List.mem_append_right _ (.head _))
  rw [hq1, hq2] at hq0
  have hL' : h'.get? L = some { oL with slots := sl } := hq0.1
  have keepOld : ∀ b o, b ∉ chg.map (·.1) ++ (L :: frs.map (·.1)) → g.get? b = some o → h'.get? b = some o := fun b o hn e => F'.keep b o ((gone_get hn).trans e)
  have none_hb : ∀ q : Addr × Obj, (gone g (chg.map (·.1) ++ (L :: frs.map (·.1)))).get? q.1 = none → hb.get? q.1 = none := fun q h9 => by
    cases e : hb.get? q.1 with
    | none => rfl
    | some o => rw [gone_get (offB _ _ e), F.keep _ _ e] at h9; cases h9
  have offL : ∀ q ∈ add, q.1 ≠ L := fun q hq e => by
    have h1 := (N' q (List.mem_append_left _ hq)).1
    rw [e, hL'] at h1
    have h3 := Option.some.inj h1
    obtain ⟨es', ep', hd'⟩ := FS' (L, oL) (.head _)
    exact hND q hq es' ep' (by rw [← h3]; exact hd')
  refine ⟨SU', ⟨⟨_, es, ep, hL', hLd, hLr⟩, fun b o e => keepOld b o (offB b o e) (F.keep b o e), F.above⟩, fun q hq => ?_, fun q hq y hy e => ?_⟩
  rotate_left
  · have h9 := (N' q (List.mem_append_left _ hq)).2.2
    rw [← e, gone_get (offN y hy), (N y (List.mem_append_right _ (List.mem_append_left _ hy))).1] at h9
    cases h9
  rcases List.mem_append.mp hq with hq | hq
  · have h9 := N' q (List.mem_append_left _ hq)
    exact ⟨h9.1, offL q hq, none_hb q h9.2.2⟩
  rcases List.mem_append.mp hq with hq | hq
  · have z := N q (List.mem_append_right _ (List.mem_append_left _ hq))
    exact ⟨keepOld _ _ (offN q hq) z.1, z.2⟩
  · have h9 := (N' q (List.mem_append_right _ (.tail _ hq))).1
    obtain ⟨x, hx, e⟩ := SU'.fwd q hq
    have h8 := (N x (List.mem_append_right _ (List.mem_append_right _ hx))).2
    exact ⟨h9, by rw [e]; exact h8.1, by rw [e]; exact h8.2⟩
theorem x_back {hb g h' : Heap} {L L' J : Addr} {m m' : PySem.Str → Option Value} {frs frs' new add : Led} {oJ oL : Obj} {q0 : Addr × Obj} (F : Fr hb L g m) (N : News hb L g ((J, oJ) :: (new ++ frs)))
    (hL : g.get? L = some oL) (FS' : ∀ q ∈ (L, oL) :: frs, ∃ es ep, q.2.data = .dict es ep) (hJ : ∀ q ∈ new, q.1 ≠ J) (hnf : ∀ q ∈ new, ∀ p ∈ frs, q.1 ≠ p.1)
    (SU : SameUp ((L, oL) :: frs) (q0 :: frs')) (F' : Fr (gone g (J :: L :: frs.map (·.1))) L' h' m') (N' : News (gone g (J :: L :: frs.map (·.1))) L' h' (add ++ (q0 :: frs'))) (hND : ∀ q ∈ add, NoD q) :
    SameUp frs frs' ∧ Fr hb L h' m ∧ News hb L h' (add ++ (new ++ frs')) := by
  have z := x_backL (chg := [(J, oJ)]) F N hL FS' (fun q hq c hc => by rw [List.mem_singleton.mp hc]; exact hJ q hq) hnf SU F' N' hND
  exact ⟨z.1, z.2.1, z.2.2.1⟩
end Mine
end
/- Base15 -/
section
open PySem PySem.W PyProof.Rows PySem.Calls
set_option Elab.async false
namespace Mine
set_option maxRecDepth 100000
open TI
section
variable {w : World} {p : PySem.Program} {loose : List PySem.Str} {mean : ExcName → Option Value} {mg mb : PySem.Str → Option Value}
/-- a call of such a def, from a def whose ledger ends in the frames around it -/
theorem use_x2 {dpN unN : Nat} {f : Addr} {args : List Value} {new frs : Led} {Pre : Heap → Prop} {Post : Value → Led → Prop} {dp un : Nat} {gd : Option (List Code)} {cn : PySem.Str} {cs : Scope} {a : Addr} {ccd : Value} {cl : List (PySem.Str × Addr)} {outer : List Env} {hb : Heap} {L : Addr} {m : PySem.Str → Option Value} {s : Shared} {Q E : Value → Shared → Prop}
    (C : XCtr w p loose mean mg mb dpN unN f args Pre Post) (F : Fr hb L s.heap m) (X : (hd.heap_39 w.params).In hb) (N : News hb L s.heap (new ++ frs)) (T : Top p loose mean mg mb hb) (FS : Frs outer frs) (hoff : ∀ q ∈ new, ∀ x ∈ frs, q.1 ≠ x.1)
    (hck : cs.kind = .function) (hd : dp + dpN < recursionLimit) (hu : un + unN < cLine)
    (hpre : ∀ g : Heap, (∀ b o, hb.get? b = some o → g.get? b = some o) → (∀ q ∈ new, g.get? q.1 = some q.2) → Pre g)
    (ret : ∀ r add h' tk' frs', Post r add → SameUp frs frs' → Frs outer frs' → Fr hb L h' m → News hb L h' (add ++ (new ++ frs')) → Apart add (new ++ frs') → Q r { s with heap := h', toks := tk' }) :
    wpAny (model PySem.Challenge.pw_kt0010_01 w) (ktrTop dp un gd cn cs L a ccd cl outer) (call (.ref f) args) Q E s := by
  obtain ⟨oL, es, ep, hL, hLd, hLr⟩ := id F.ns
  have hbL : hb.get? L = none := Heap.get?_none_of_le F.above
  have hfr : ∀ q ∈ (L, oL) :: frs, s.heap.get? q.1 = some q.2 ∧ hb.get? q.1 = none := fun q hq => by
    rcases List.mem_cons.mp hq with rfl | hq
    · exact ⟨hL, hbL⟩
    · exact ⟨(N q (List.mem_append_right _ hq)).1, (N q (List.mem_append_right _ hq)).2.2⟩
  have FS' : Frs (envX cn cs L a ccd cl :: outer) ((L, oL) :: frs) := ⟨by show cs.kind ≠ .module; rw [hck]; decide, rfl, ⟨es, ep, hLd⟩, FS⟩
  have offB : ∀ b o, hb.get? b = some o → b ∉ ((L, oL) :: frs).map (·.1) := fun b o e hm => by
    obtain ⟨q, hq, e'⟩ := List.mem_map.mp hm
    have := (hfr q hq).2
    rw [e', e] at this
    cases this
  have offN : ∀ q ∈ new, q.1 ∉ ((L, oL) :: frs).map (·.1) := fun q hq hm => by
    obtain ⟨x, hx, e'⟩ := List.mem_map.mp hm
    have e2 : x.1 = q.1 := e'
    rcases List.mem_cons.mp hx with rfl | hx
    · exact (N q (List.mem_append_left _ hq)).2.1 e2.symm
    · exact hoff q hq x hx e2.symm
  refine C dp un gd cn cs a ccd cl outer hb L ((L, oL) :: frs) s Q E F.keep X T FS' hfr hd hu (hpre _ (fun b o e => (gone_get (offB b o e)).trans (F.keep b o e)) fun q hq => (gone_get (offN q hq)).trans (N q (List.mem_append_left _ hq)).1) ?_
  intro r add h' tk' L' m' frs1 hp hND SU F' N'
  cases frs1 with
  | nil => exact False.elim SU
  | cons q0 frs' =>
    obtain ⟨hq1, ⟨sl, hq2⟩, SU'⟩ := SU
    have hq0 := N' q0 (List.mem_append_right _ (.head _))
    rw [hq1, hq2] at hq0
    have hL' : h'.get? L = some { oL with slots := sl } := hq0.1
    have keepOld : ∀ b o, b ∉ ((L, oL) :: frs).map (·.1) → s.heap.get? b = some o → h'.get? b = some o := fun b o hn e => F'.keep b o ((gone_get hn).trans e)
    have none_hb : ∀ q : Addr × Obj, (gone s.heap (((L, oL) :: frs).map (·.1))).get? q.1 = none → hb.get? q.1 = none := fun q h9 => by
      cases e : hb.get? q.1 with
      | none => rfl
      | some o => rw [gone_get (offB _ _ e), F.keep _ _ e] at h9; cases h9
    have offA : ∀ q ∈ add, q.1 ∉ ((L, oL) :: frs).map (·.1) := fun q hq hm => by
      obtain ⟨x, hx, e'⟩ := List.mem_map.mp hm
      have e2 : x.1 = q.1 := e'
      have h1 := (N' q (List.mem_append_left _ hq)).1
      obtain ⟨es', ep', hd'⟩ := FS'.dict x hx
      obtain ⟨sl', hx'⟩ := (show SameUp ((L, oL) :: frs) (q0 :: frs') from ⟨hq1, ⟨sl, hq2⟩, SU'⟩).back x hx
      have h2 := (N' _ (List.mem_append_right _ hx')).1
      have h2' : h'.get? x.1 = some { x.2 with slots := sl' } := h2
      rw [e2, h1] at h2'
      have h3 := Option.some.inj h2'
      exact hND q hq es' ep' (by rw [h3]; exact hd')
    have freshA : ∀ q ∈ add, s.heap.get? q.1 = none := fun q hq => (gone_get (offA q hq)).symm.trans (N' q (List.mem_append_left _ hq)).2.2
    refine ret r add h' tk' frs' hp SU' (FS.up SU') ⟨⟨_, es, ep, hL', hLd, hLr⟩, fun b o e => keepOld b o (offB b o e) (F.keep b o e), F.above⟩ (fun q hq => ?_) ?_
    · rcases List.mem_append.mp hq with hq | hq
      · have h9 := N' q (List.mem_append_left _ hq)
        refine ⟨h9.1, fun e => offA q hq (List.mem_map.mpr ⟨(L, oL), .head _, e.symm⟩), none_hb q h9.2.2⟩
      rcases List.mem_append.mp hq with hq | hq
      · exact ⟨keepOld _ _ (offN q hq) (N q (List.mem_append_left _ hq)).1, (N q (List.mem_append_left _ hq)).2⟩
      · have h9 := (N' q (List.mem_append_right _ (.tail _ hq))).1
        obtain ⟨x, hx, e⟩ := SU'.fwd q hq
        have h8 := (N x (List.mem_append_right _ hx)).2
        exact ⟨h9, by rw [e]; exact h8.1, by rw [e]; exact h8.2⟩
    · intro q hq y hy e
      rcases List.mem_append.mp hy with hy | hy
      · have h1 := (N y (List.mem_append_left _ hy)).1
        rw [e, freshA q hq] at h1
        cases h1
      · obtain ⟨x, hx, e'⟩ := SU'.fwd y hy
        exact offA q hq (List.mem_map.mpr ⟨x, .tail _ hx, e'.symm.trans e⟩)
theorem use_x {dpN unN : Nat} {f : Addr} {args : List Value} {new frs : Led} {Pre : Heap → Prop} {Post : Value → Led → Prop} {dp un : Nat} {gd : Option (List Code)} {cn : PySem.Str} {cs : Scope} {a : Addr} {ccd : Value} {cl : List (PySem.Str × Addr)} {outer : List Env} {hb : Heap} {L : Addr} {m : PySem.Str → Option Value} {s : Shared} {Q E : Value → Shared → Prop}
    (C : XCtr w p loose mean mg mb dpN unN f args Pre Post) (F : Fr hb L s.heap m) (X : (hd.heap_39 w.params).In hb) (N : News hb L s.heap (new ++ frs)) (T : Top p loose mean mg mb hb) (FS : Frs outer frs) (hnd : ∀ q ∈ new, NoD q)
    (hck : cs.kind = .function) (hd : dp + dpN < recursionLimit) (hu : un + unN < cLine)
    (hpre : ∀ g : Heap, (∀ b o, hb.get? b = some o → g.get? b = some o) → (∀ q ∈ new, g.get? q.1 = some q.2) → Pre g)
    (ret : ∀ r add h' tk' frs', Post r add → SameUp frs frs' → Frs outer frs' → Fr hb L h' m → News hb L h' (add ++ (new ++ frs')) → Apart add (new ++ frs') → Q r { s with heap := h', toks := tk' }) :
    wpAny (model PySem.Challenge.pw_kt0010_01 w) (ktrTop dp un gd cn cs L a ccd cl outer) (call (.ref f) args) Q E s :=
  use_x2 C F X N T FS (fun q hq x hx => off_of N (List.mem_append_left _ hq) (List.mem_append_right _ hx) (hnd q hq) (FS.dict x hx)) hck hd hu hpre ret
end
end Mine
end
/- Base16 -/
section
open PySem PySem.W PyProof.Rows PySem.Calls
set_option Elab.async false
namespace Mine
set_option maxRecDepth 100000
open TI
section
variable {w : World} {p : PySem.Program} {loose : List PySem.Str} {mean : ExcName → Option Value} {mg mb : PySem.Str → Option Value}
/-- such a call from the law's own frame -/
theorem use_x0 {dpN unN : Nat} {f : Addr} {args : List Value} {new : Led} {Pre : Heap → Prop} {Post : Value → Led → Prop} {dp un : Nat} {gd : Option (List Code)} {cn : PySem.Str} {cs : Scope} {a : Addr} {ccd : Value} {cl : List (PySem.Str × Addr)} {hb : Heap} {L : Addr} {m : PySem.Str → Option Value} {s : Shared} {Q E : Value → Shared → Prop}
    (C : XCtr w p loose mean mg mb dpN unN f args Pre Post) (F : Fr hb L s.heap m) (X : (hd.heap_39 w.params).In hb) (N : News hb L s.heap new) (T : Top p loose mean mg mb hb)
    (hck : cs.kind = .function) (hd : dp + dpN < recursionLimit) (hu : un + unN < cLine)
    (hpre : ∀ g : Heap, (∀ b o, hb.get? b = some o → g.get? b = some o) → (∀ q ∈ new, g.get? q.1 = some q.2) → Pre g)
    (ret : ∀ r add h' tk', Post r add → Fr hb L h' m → News hb L h' (add ++ new) → Apart add new → Q r { s with heap := h', toks := tk' }) :
    wpAny (model PySem.Challenge.pw_kt0010_01 w) (ktrTop dp un gd cn cs L a ccd cl []) (call (.ref f) args) Q E s := by
  have e : new = new ++ [] := (List.append_nil new).symm
  refine use_x2 (new := new) (frs := []) C F X (by rw [← e]; exact N) T trivial (fun _ _ _ h => nomatch h) hck hd hu hpre ?_
  intro r add h' tk' frs' hp SU FS F' N' AP
  cases frs' with
  | cons _ _ => exact False.elim SU
  | nil =>
    rw [← e] at N' AP
    exact ret r add h' tk' hp F' N' AP
end
end Mine
end
/- Base17 -/
section
open PySem PySem.W PyProof.Rows PySem.Calls
set_option Elab.async false
namespace Mine
/- patterns taken apart in one step: the goal stands once in the proof, not once a part -/
theorem all2 {T1 T2 : Type} {G : T1 × T2 → Prop} (h : ∀ x1 x2, G (x1, x2)) : ∀ c, G c := fun ⟨x1, x2⟩ => h x1 x2
theorem all3 {T1 T2 T3 : Type} {G : T1 × T2 × T3 → Prop} (h : ∀ x1 x2 x3, G (x1, x2, x3)) : ∀ c, G c := fun ⟨x1, x2, x3⟩ => h x1 x2 x3
theorem all4 {T1 T2 T3 T4 : Type} {G : T1 × T2 × T3 × T4 → Prop} (h : ∀ x1 x2 x3 x4, G (x1, x2, x3, x4)) : ∀ c, G c := fun ⟨x1, x2, x3, x4⟩ => h x1 x2 x3 x4
theorem all5 {T1 T2 T3 T4 T5 : Type} {G : T1 × T2 × T3 × T4 × T5 → Prop} (h : ∀ x1 x2 x3 x4 x5, G (x1, x2, x3, x4, x5)) : ∀ c, G c := fun ⟨x1, x2, x3, x4, x5⟩ => h x1 x2 x3 x4 x5
theorem all6 {T1 T2 T3 T4 T5 T6 : Type} {G : T1 × T2 × T3 × T4 × T5 × T6 → Prop} (h : ∀ x1 x2 x3 x4 x5 x6, G (x1, x2, x3, x4, x5, x6)) : ∀ c, G c := fun ⟨x1, x2, x3, x4, x5, x6⟩ => h x1 x2 x3 x4 x5 x6
theorem all7 {T1 T2 T3 T4 T5 T6 T7 : Type} {G : T1 × T2 × T3 × T4 × T5 × T6 × T7 → Prop} (h : ∀ x1 x2 x3 x4 x5 x6 x7, G (x1, x2, x3, x4, x5, x6, x7)) : ∀ c, G c := fun ⟨x1, x2, x3, x4, x5, x6, x7⟩ => h x1 x2 x3 x4 x5 x6 x7
theorem all8 {T1 T2 T3 T4 T5 T6 T7 T8 : Type} {G : T1 × T2 × T3 × T4 × T5 × T6 × T7 × T8 → Prop} (h : ∀ x1 x2 x3 x4 x5 x6 x7 x8, G (x1, x2, x3, x4, x5, x6, x7, x8)) : ∀ c, G c := fun ⟨x1, x2, x3, x4, x5, x6, x7, x8⟩ => h x1 x2 x3 x4 x5 x6 x7 x8
theorem all9 {T1 T2 T3 T4 T5 T6 T7 T8 T9 : Type} {G : T1 × T2 × T3 × T4 × T5 × T6 × T7 × T8 × T9 → Prop} (h : ∀ x1 x2 x3 x4 x5 x6 x7 x8 x9, G (x1, x2, x3, x4, x5, x6, x7, x8, x9)) : ∀ c, G c := fun ⟨x1, x2, x3, x4, x5, x6, x7, x8, x9⟩ => h x1 x2 x3 x4 x5 x6 x7 x8 x9
theorem all10 {T1 T2 T3 T4 T5 T6 T7 T8 T9 T10 : Type} {G : T1 × T2 × T3 × T4 × T5 × T6 × T7 × T8 × T9 × T10 → Prop} (h : ∀ x1 x2 x3 x4 x5 x6 x7 x8 x9 x10, G (x1, x2, x3, x4, x5, x6, x7, x8, x9, x10)) : ∀ c, G c := fun ⟨x1, x2, x3, x4, x5, x6, x7, x8, x9, x10⟩ => h x1 x2 x3 x4 x5 x6 x7 x8 x9 x10
theorem imp2 {A1 A2 R : Prop} (h : A1 → A2 → R) (c : A1 ∧ A2) : R := h c.1 c.2
theorem imp3 {A1 A2 A3 R : Prop} (h : A1 → A2 → A3 → R) (c : A1 ∧ A2 ∧ A3) : R := h c.1 c.2.1 c.2.2
theorem imp4 {A1 A2 A3 A4 R : Prop} (h : A1 → A2 → A3 → A4 → R) (c : A1 ∧ A2 ∧ A3 ∧ A4) : R := h c.1 c.2.1 c.2.2.1 c.2.2.2
theorem imp5 {A1 A2 A3 A4 A5 R : Prop} (h : A1 → A2 → A3 → A4 → A5 → R) (c : A1 ∧ A2 ∧ A3 ∧ A4 ∧ A5) : R := h c.1 c.2.1 c.2.2.1 c.2.2.2.1 c.2.2.2.2
theorem imp6 {A1 A2 A3 A4 A5 A6 R : Prop} (h : A1 → A2 → A3 → A4 → A5 → A6 → R) (c : A1 ∧ A2 ∧ A3 ∧ A4 ∧ A5 ∧ A6) : R := h c.1 c.2.1 c.2.2.1 c.2.2.2.1 c.2.2.2.2.1 c.2.2.2.2.2
theorem imp7 {A1 A2 A3 A4 A5 A6 A7 R : Prop} (h : A1 → A2 → A3 → A4 → A5 → A6 → A7 → R) (c : A1 ∧ A2 ∧ A3 ∧ A4 ∧ A5 ∧ A6 ∧ A7) : R := h c.1 c.2.1 c.2.2.1 c.2.2.2.1 c.2.2.2.2.1 c.2.2.2.2.2.1 c.2.2.2.2.2.2
theorem imp8 {A1 A2 A3 A4 A5 A6 A7 A8 R : Prop} (h : A1 → A2 → A3 → A4 → A5 → A6 → A7 → A8 → R) (c : A1 ∧ A2 ∧ A3 ∧ A4 ∧ A5 ∧ A6 ∧ A7 ∧ A8) : R := h c.1 c.2.1 c.2.2.1 c.2.2.2.1 c.2.2.2.2.1 c.2.2.2.2.2.1 c.2.2.2.2.2.2.1 c.2.2.2.2.2.2.2
theorem all3331 {T1 T2 T3 T4 T5 T6 T7 T8 T9 T10 : Type} {G : (T1 × T2 × T3) × (T4 × T5 × T6) × (T7 × T8 × T9) × T10 → Prop} (h : ∀ x1 x2 x3 x4 x5 x6 x7 x8 x9 x10, G ((x1, x2, x3), (x4, x5, x6), (x7, x8, x9), x10)) : ∀ c, G c := fun ⟨⟨x1, x2, x3⟩, ⟨x4, x5, x6⟩, ⟨x7, x8, x9⟩, x10⟩ => h x1 x2 x3 x4 x5 x6 x7 x8 x9 x10
theorem imp323 {A B C D E F G H R : Prop} (h : A → B → C → D → E → F → G → H → R) (c : (A ∧ B ∧ C) ∧ (D ∧ E) ∧ F ∧ G ∧ H) : R := h c.1.1 c.1.2.1 c.1.2.2 c.2.1.1 c.2.1.2 c.2.2.1 c.2.2.2.1 c.2.2.2.2
@[elab_as_elim] theorem ex_eq {T V : Type} (v : V) {f : T → V} {R : V → Prop} (c : ∃ a, v = f a) (h : ∀ a, R (f a)) : R v := by
  obtain ⟨a, rfl⟩ := c
  exact h a
@[elab_as_elim] theorem hold_eq_and {V : Type} {x : V} (v : V) {B : Prop} {R : V → Prop} (c : Hold (v = x ∧ B)) (h : B → R x) : R v := by
  obtain ⟨⟨rfl, b⟩⟩ := c
  exact h b
@[elab_as_elim] theorem hold22 {S T V W : Type} (v : V) (w : W) {f : S → T → V} {g : S → T → W} {A B : S → T → Prop} {R : V → W → Prop} (c : Hold (∃ a b, v = f a b ∧ w = g a b ∧ A a b ∧ B a b)) (h : ∀ a b, A a b → B a b → R (f a b) (g a b)) : R v w := by
  obtain ⟨⟨a, b, rfl, rfl, x, y⟩⟩ := c
  exact h a b x y
@[elab_as_elim] theorem hold23 {S T V W : Type} (v : V) (w : W) {f : S → T → V} {g : S → T → W} {A B C : S → T → Prop} {R : V → W → Prop} (c : Hold (∃ a b, v = f a b ∧ w = g a b ∧ A a b ∧ B a b ∧ C a b)) (h : ∀ a b, A a b → B a b → C a b → R (f a b) (g a b)) : R v w := by
  obtain ⟨⟨a, b, rfl, rfl, x, y, z⟩⟩ := c
  exact h a b x y z
@[elab_as_elim] theorem hold44 {S T U V X : Type} (w : X) {g : S → T → U → V → X} {A B C D : S → T → U → V → Prop} {R : X → Prop} (c : Hold (∃ a b c d, w = g a b c d ∧ A a b c d ∧ B a b c d ∧ C a b c d ∧ D a b c d)) (h : ∀ a b c d, A a b c d → B a b c d → C a b c d → D a b c d → R (g a b c d)) : R w := by
  obtain ⟨⟨a, b, c, d, rfl, x, y, z, t⟩⟩ := c
  exact h a b c d x y z t
/- rooms, and small facts of arithmetic: a term costs less than a run of omega -/
theorem room0 {u a c : Nat} (h : u + a < c) : u < c := Nat.lt_of_le_of_lt (Nat.le_add_right _ _) h
theorem room1 {u a b c : Nat} (h : u + a < c) (k : b ≤ a) : u + b < c := Nat.lt_of_le_of_lt (Nat.add_le_add_left k u) h
theorem room2 {u a b d c : Nat} (h : u + a < c) (k : b + d ≤ a) : u + b + d < c := by rw [Nat.add_assoc]; exact room1 h k
theorem room3 {u a b d e c : Nat} (h : u + a < c) (k : b + d + e ≤ a) : u + b + d + e < c := by rw [Nat.add_assoc u, Nat.add_assoc u]; exact room1 h k
theorem nn1 (n : Nat) : (0 : Int) ≤ (n : Int) + 1 := Int.le_add_one (Int.natCast_nonneg n)
theorem lt_int_of {i n : Nat} (h : i < n) : (i : Int) < (n : Int) := Int.ofNat_lt.mpr h
theorem small63 {i n : Nat} (h : i < n) (k : n ≤ 9000000) : (i : Int) < 2 ^ 63 := by omega
theorem sub_one_nat (p : Nat) : ((p : Int) - 1).toNat = p - 1 := Int.toNat_sub p 1
theorem neg_one_nat (n : Nat) : (-1 + (n : Int)).toNat = n - 1 := by rw [Int.add_comm]; exact Int.toNat_sub n 1
theorem dbl1 (p : Nat) : p < 2 * p + 1 := by omega
theorem lt300 {k i : Nat} (h : k ≤ 6 * (i + 1)) (hi : i < 10) : k < 300 := by omega
theorem lt300' {k : Nat} (h : k ≤ 6) : k < 300 := Nat.lt_of_le_of_lt h (by decide)
theorem range_small {n : Nat} (h : n ≤ 1000) : Builtin.Range.small 0 (n : Int) 1 = true := by
  unfold Builtin.Range.small Builtin.Range.rangeFitsLong; rw [rangeSize_nat]; simp only [Bool.and_eq_true, decide_eq_true_eq, Bool.or_eq_true]; refine ⟨⟨⟨⟨?_, ?_⟩, ?_⟩, ?_⟩, ?_⟩ <;> first | decide | omega | (right; simp; omega)
theorem range_small2 {a b : Nat} (ha : a < 300) (hb : b < 300) : Builtin.Range.small 0 ((a : Int) + (b : Int)) 1 = true := by
  rw [← Int.natCast_add]
  exact range_small (Nat.le_of_lt (Nat.lt_trans (Nat.add_lt_add ha hb) (by decide)))
theorem z0 (i : Nat) : (0 : Int) ≤ 0 + (i : Int) := by rw [Int.zero_add]; exact Int.natCast_nonneg i
theorem z1 (i : Nat) : (0 : Int) ≤ 0 + (i : Int) + 1 := Int.le_add_one (z0 i)
theorem zn (i : Nat) : (0 + (i : Int)).toNat = i := by rw [Int.zero_add]; rfl
theorem zn1 (i : Nat) : (0 + (i : Int) + 1).toNat = i + 1 := by rw [Int.zero_add]; rfl
theorem z63 {i n : Nat} (h : i < n - 1) (k : n ≤ 8) : (0 : Int) + (i : Int) < 2 ^ 63 := by omega
theorem z163 {i n : Nat} (h : i < n - 1) (k : n ≤ 8) : (0 : Int) + (i : Int) + 1 < 2 ^ 63 := by omega
theorem len48 (n : Nat) : 4 ≤ min 2 n + (0 + 1 + 1 + 1 + 1) + min (min 4 n - 2) (n - 2) ∧ min 2 n + (0 + 1 + 1 + 1 + 1) + min (min 4 n - 2) (n - 2) ≤ 8 :=
  ⟨Nat.le_trans (Nat.le_add_left 4 _) (Nat.le_add_right _ _), Nat.add_le_add (Nat.add_le_add_right (Nat.min_le_left _ _) _) (Nat.le_trans (Nat.min_le_left _ _) (Nat.sub_le_sub_right (Nat.min_le_left _ _) 2))⟩
theorem one_of {n : Nat} (h : 4 ≤ n ∧ n ≤ 8) : 1 ≤ n := Nat.le_trans (by decide) h.1
theorem pred_size {n : Nat} (h : 4 ≤ n ∧ n ≤ 8) : n - 1 ≤ 16777216 := Nat.le_trans (Nat.sub_le _ _) (Nat.le_trans h.2 (by decide))
theorem lt_of_pred {i n : Nat} (h : i < n - 1) : i < n := Nat.lt_of_lt_of_le h (Nat.sub_le _ _)
theorem pred_lt {n : Nat} (h : 4 ≤ n ∧ n ≤ 8) : n - 1 < n := Nat.sub_lt (one_of h) Nat.one_pos
theorem neg_le {n : Nat} (h : 1 ≤ n) : -(n : Int) ≤ -1 := Int.neg_le_neg (Int.ofNat_le.mpr h)
theorem sub_cons {T : Type} {x : T} {l l' : List T} (h : x ∈ l) (t : ∀ q ∈ l', q ∈ l) : ∀ q ∈ x :: l', q ∈ l := List.forall_mem_cons.mpr ⟨h, t⟩
theorem mem_shuf {T : Type} {x q : T} {a b c : List T} (h : q ∈ (x :: (a ++ b)) ++ c) : q ∈ (x :: (a ++ c)) ++ b := by
  simp only [List.mem_append, List.mem_cons] at h ⊢
  rcases h with (h | h | h) | h
  · exact .inl (.inl h)
  · exact .inl (.inr (.inl h))
  · exact .inr h
  · exact .inl (.inr (.inr h))
/- where my walk stops: each says only which tree stands in the goal -/
section
variable {M : Model} {A : Around} {E : Value → Shared → Prop} {s : Shared} {e : Env}
theorem sW {a : PySem.Expr} {b c : List Stmt} {d : Pos} {Q : Flow → Shared → Prop} (h : wpAny M A (exec (.While a b c d) e) Q E s) : wpAny M A (exec (.While a b c d) e) Q E s := h
theorem sC {a : Addr} {b : List Value} {Q : Value → Shared → Prop} (h : wpAny M A (call (.ref a) b) Q E s) : wpAny M A (call (.ref a) b) Q E s := h
theorem sR {b : List Value} {Q : Value → Shared → Prop} (h : wpAny M A (call (.type "reversed") b) Q E s) : wpAny M A (call (.type "reversed") b) Q E s := h
theorem sE {b : List Value} {Q : Value → Shared → Prop} (h : wpAny M A (call (.type "enumerate") b) Q E s) : wpAny M A (call (.type "enumerate") b) Q E s := h
theorem sM {b : List Value} {Q : Value → Shared → Prop} (h : wpAny M A (call (.builtin "list.remove") b) Q E s) : wpAny M A (call (.builtin "list.remove") b) Q E s := h
theorem sL {a : PySem.Expr} {b : List Comprehension} {c : Scope} {d : Pos} {Q : Value → Shared → Prop} (h : wpAny M A (eval (.ListComp a b c d) e) Q E s) : wpAny M A (eval (.ListComp a b c d) e) Q E s := h
theorem sI {a : Addr} {Q : Value → Shared → Prop} (h : wpAny M A (pyIter (.ref a)) Q E s) : wpAny M A (pyIter (.ref a)) Q E s := h
theorem sA {t : List PySem.Expr} {a : PySem.Expr} {b : List Comprehension} {c : Scope} {d p : Pos} {Q : Flow → Shared → Prop} (h : wpAny M A (exec (.Assign t (.ListComp a b c d) p) e) Q E s) : wpAny M A (exec (.Assign t (.ListComp a b c d) p) e) Q E s := h
theorem sX {a : Stmt} {b : List Stmt} {Q : Flow → Shared → Prop} (h : wpAny M A (execs (a :: b) e) Q E s) : wpAny M A (execs (a :: b) e) Q E s := h
theorem sY {a : Stmt} {Q : Flow → Shared → Prop} (h : wpAny M A (exec a e) Q E s) : wpAny M A (exec a e) Q E s := h
end
section
variable {M : Model} {A : Around} {E : Value → Shared → Prop} {s : Shared} {Q : Value → Shared → Prop}
theorem sG {b : List Value} (h : wpAny M A (call (.type "range") b) Q E s) : wpAny M A (call (.type "range") b) Q E s := h
theorem sT {a b : PySem.Expr} {l : Addr} {i : Int} {t : Tok} (h : wpAny M A (subscriptTail a b (.ref l) (.int i t)) Q E s) : wpAny M A (subscriptTail a b (.ref l) (.int i t)) Q E s := h
theorem sO {o : CmpOp} {a : Value} {b : Addr} (h : wpAny M A (compareOp o a (.ref b)) Q E s) : wpAny M A (compareOp o a (.ref b)) Q E s := h
theorem sS {a : Addr} (h : wpAny M A (call (.type "list") [.ref a]) Q E s) : wpAny M A (call (.type "list") [.ref a]) Q E s := h
end
end Mine
end
section
open PySem PySem.W PyProof.Rows
set_option Elab.async false
namespace Mine
set_option maxRecDepth 100000
set_option maxHeartbeats 0
local macro_rules | `(tactic| k_all) => `(tactic| assumption)
local macro_rules | `(tactic| walk_at "MEM") => `(tactic| first | ((repeat' (first | exact List.Mem.head _ | apply List.Mem.tail)); done) | simp)
local macro_rules | `(tactic| walk_at "SUB") => `(tactic| ((repeat (refine sub_cons ?h9 ?_; (case h9 => walk_at "MEM"))); (first | exact List.forall_mem_nil _ | (intro q hq; (repeat' (first | exact hq | exact List.mem_append_left _ hq | apply List.Mem.tail)); done))))
local macro_rules | `(tactic| walk_at "RM") => `(tactic| first | exact room1 (by assumption) (Nat.le_of_ble_eq_true rfl) | exact room2 (by assumption) (Nat.le_of_ble_eq_true rfl) | exact room3 (by assumption) (Nat.le_of_ble_eq_true rfl) | exact room0 (by assumption) | omega | ktr_room | ktr_units)
local macro_rules | `(tactic| walk_at "IDX") => `(tactic| first | omega | (simp only [List.length_set]; omega) | (simp only [List.length_set] at *; omega) | fail "IDX")
local macro_rules | `(tactic| walk_at "binaryOp RShift int int") => `(tactic| (k_here; refine r_shr1 (by omega) ?_))
local macro_rules | `(tactic| walk_at "compareOp Lt str str") => `(tactic| (k_here; refine r_lt ?_))
local macro_rules | `(tactic| walk_at "compareOp Gt str str") => `(tactic| (k_here; refine r_gt ?_))
local macro_rules | `(tactic| walk_at "setItem ref int") => `(tactic| (k_here; k_dflt (refine r_set (by k_asm) (by k_asm) (by k_upd) (by with_reducible assumption) (by walk_at "IDX") (by walk_at "IDX") (by walk_at "IDX") ?_; k_whole); intro h' F' N' hi'; (try k_sweep)))
local macro_rules | `(tactic| walk_at "subscriptTail Name Name ref int") => `(tactic| walk_at "MYITEM")
local macro_rules | `(tactic| walk_at "subscriptTail Name BinOp ref int") => `(tactic| walk_at "MYITEM")
local macro_rules | `(tactic| walk_at "subscriptTail Name Constant ref int") => `(tactic| walk_at "MYITEM")
local macro_rules | `(tactic| walk_at "MYITEM") => `(tactic| (k_here; k_dflt (refine b_item (by k_asm) (by with_reducible assumption) (by with_reducible assumption) (by walk_at "IDX") (by walk_at "IDX") (by walk_at "IDX") ?_ (by with_unfolding_all rfl) (by intro _; with_unfolding_all rfl); k_whole); intro _))
local macro_rules | `(tactic| walk_at "WPost") => `(tactic| (dsimp only [WPost]))
local macro_rules | `(tactic| walk_at "LPost") => `(tactic| (dsimp only [LPost]))
local macro_rules | `(tactic| walk_at "SZ") => `(tactic| first | omega | (simp only [List.length_append, List.length_cons, List.length_nil, List.length_set]; omega) | (simp only [List.length_append, List.length_cons, List.length_nil, List.length_set] at *; omega) | fail "SZ")
local macro_rules | `(tactic| walk_at "call builtin:list.append") => `(tactic| (k_here; k_dflt (refine r_append (by k_asm) (by k_asm) (by k_upd) (by with_reducible assumption) (by walk_at "SZ") ?_; k_whole); intro h' F' N' hi'; (try k_sweep)))
local macro_rules | `(tactic| walk_at "call builtin:len") => `(tactic| (k_here; k_dflt (refine r_len (by k_asm) (by k_mem) (by with_reducible assumption) (by walk_at "SZ") ?_; k_whole)))
local macro_rules | `(tactic| walk_at "call builtin:list.pop") => `(tactic| (k_here; k_dflt (refine' r_pop ?k1 ?k2 ?k4 ?k3 ?_; (case k1 => k_asm); (case k2 => k_asm); (case k3 => k_upd); (case k4 => walk_at "SZ"); k_whole); intro h' F' N'; (try k_sweep)))
local macro_rules | `(tactic| walk_at "call builtin:list.count") => `(tactic| (k_here; (with_reducible show wpAny _ _ (call (Value.builtin "list.count") [Value.ref _, Value.str _ _]) _ _ _); first
  | k_dflt (refine' r_countB ?k1 ?k2 ?k3 ?_; (case k1 => k_asm); (case k2 => with_reducible assumption); (case k3 => with_reducible assumption); k_whole)
  | k_dflt (refine' r_countN ?k1 ?k2 ?k3 ?_; (case k1 => k_asm); (case k2 => k_mem); (case k3 => first | with_reducible assumption | exact strs_pick (by with_reducible assumption) _ _ _); k_whole)))
local macro_rules | `(tactic| walk_at "getMethod ref") => `(tactic| (k_here; (with_reducible show wpAny _ _ (getMethod (Value.ref _) (PySem.Str.ofString "count") _) _ _ _); k_dflt (refine' m_countB ?k1 ?k2 ?k3 ?_; (case k1 => k_asm); (case k2 => with_reducible assumption); (case k3 => with_reducible assumption); k_whole)))
local macro_rules | `(tactic| walk_at "MYFOR") => `(tactic| (k_here; (rename Fr _ _ _ _ => lF'); (with_unfolding_all refine' For_invVF lF' ?k1 ?k2 ?_; (case k1 => exact rfl); (case k2 => exact rfl); k_whole)))
local macro_rules | `(tactic| walk_at "exec For Name Name cons nil") => `(tactic| walk_at "MYFOR")
local macro_rules | `(tactic| walk_at "exec For Name Subscript cons nil") => `(tactic| walk_at "MYFOR")
local macro_rules | `(tactic| walk_at "exec For Name Call cons nil") => `(tactic| walk_at "MYFOR")
local macro_rules | `(tactic| walk_at "STOP") => `(tactic| with_reducible first
  | refine sW ?_ | refine sC ?_ | refine sR ?_ | refine sE ?_ | refine sL ?_ | refine sA ?_ | refine sM ?_ | refine sI ?_
  | (show CellSrc _ _ _ _ _ _ _ _ _ _ _ _ _ _) | (show SrcD _ _ _ _ _ _ _ _ _ _ _ _ _ _ _) | (show LCg.CompSrc _ _ _ _ _ _ _ _ _ _ _ _ _ _) | (show LCt.CompSrcT _ _ _ _ _ _ _ _ _ _ _ _ _ _ _))
local macro_rules | `(tactic| walk_at "GO") => `(tactic| repeat' (first
  | (k_unfold; (try dsimp only))
  | ((with_reducible first | refine sX ?_ | refine sY ?_); k_fold)
  | ((fail_if_success walk_at "STOP"); first | walk1 | (dsimp only; walk1))
  | (leave1; try dsimp only)
  | fail "no step"))
local macro_rules | `(tactic| walk_at "MYITEM") => `(tactic| (k_here; k_dflt (refine r_item (by k_asm) (by k_mem) (by with_reducible assumption) (by walk_at "IDX") (by walk_at "IDX") (by walk_at "IDX") ?_ (by with_unfolding_all rfl) (by intro _; with_unfolding_all rfl); k_whole); intro _))

example : (PySem.Challenge.rw_kt0010_01 = PySem.Challenge.rw_kt0010_01 ∧ hd.heap_39 = hd.heap_39) := by
  w_top off
  k_fill
  constructor <;> rfl
section
variable {w : World} {p : PySem.Program} {loose : List PySem.Str} {mean : ExcName → Option Value} {mg mb : PySem.Str → Option Value}
example : True := by
  w_top off
  trivial
theorem siftdown_ctr {l : Addr} {vs : List Value} {n : Nat} {rest : Led} {xs : List PySem.Str} {st pos : Nat} {t0 tp : Tok}
    (hs : StrsAre vs xs) (hp : pos < xs.length) (hx : xs.length < 1000) (hoff : ∀ p ∈ rest, p.1 ≠ l) :
    Ctr w p loose mean mg mb 1 100 86 [.ref l, .int (st : Int) t0, .int (pos : Int) tp] ((l, listOf vs.toArray n) :: rest)
      (fun r news' => r = .none ∧ ∃ vs', StrsAre vs' (sdown (xs.getD pos Str.empty) st pos xs) ∧ news' = (l, listOf vs'.toArray n) :: rest) := by
  intro dp un gd cn cs a ccd cl outer h₀ L m s Q E F X N T hd hu hret
  k_dflt (refine wpAny_call ?_; refine' code_led ?k2 ?k3 ?k4 ?k5 ?k6 ?k7 ?k8 ?k9 ?kB ?_ ?c2 ?c3 ?c4 ?c5; (case k2 => k_asm); (case k3 => k_asm); (case k4 => k_asm); (case k5 => k_asm); (case k6 => k_is); (case k7 => k_is); (case k8 => walk_at "RM"); (case k9 => exact BindsTo.of_eq rfl); (case kB => exact locs rfl); (case c2 => exact rfl); (case c3 => exact rfl); (case c4 => exact rfl); (case c5 => decide); k_whole; intro g' L' h' F' N' X' T'; (try dsimp only); k_unmd; (try k_fold))
  walk_at "GO"
  rename_i tx _ _ _
  refine w_while (σ := Nat × Tok × List Value × List PySem.Str) (fun c => (l, listOf c.2.2.1.toArray n) :: rest) (fun c => [(Str.ofString "pos", .int c.1 c.2.1), (Str.ofString "heap", .ref l), (Str.ofString "startpos", .int st t0), (Str.ofString "newitem", .str (xs.getD pos Str.empty) tx)])
      (fun c => StrsAre c.2.2.1 c.2.2.2 ∧ c.1 < c.2.2.2.length ∧ c.2.2.2.length = xs.length ∧ sdown (xs.getD pos Str.empty) st c.1 c.2.2.2 = sdown (xs.getD pos Str.empty) st pos xs) (fun c => c.1) (pos, tp, vs, xs)
      (by k_asm) (by k_asm) (fun _ h => h) (by kst_all) ⟨by assumption, hp, rfl, rfl⟩ ?_ ?_
  · refine all4 fun pos' tp' vs' cur' => ?_
    intro u h tk
    refine imp4 fun hs' hp' hl' hR' => ?_
    intro F' N'
    dsimp only at hs' hp' hl' hR' F' N' ⊢
    (try k_fold)
    walk_at "GO"
    · rename (slt _ _ = true) => hlt
      rename StrsAre (List.set _ _ _) _ => hi
      rename ((st : Int) < _) => hst
      have e1 : ((pos' : Int) - 1).toNat / 2 = (pos' - 1) / 2 := by rw [sub_one_nat]
      have e2 := sdown_go (x := xs.getD pos Str.empty) (st := st) (pos := pos') (xs := cur') (by omega) (by rw [← e1]; exact hlt)
      rw [← e1] at e2
      refine w_end (((pos' : Int) - 1).toNat / 2, _, _, _) (by assumption) (by assumption) (fun _ h => h) (by kst_all) ⟨hi, ?_, ?_, e2.symm.trans hR'⟩ ?_
      · simp only [List.length_set]; rw [sub_one_nat]; exact Nat.lt_of_le_of_lt (Nat.le_trans (Nat.div_le_self _ _) (Nat.sub_le _ _)) hp'
      · simp only [List.length_set]; exact hl'
      · show ((pos' : Int) - 1).toNat / 2 < pos'; rw [sub_one_nat]; exact Nat.lt_of_le_of_lt (Nat.div_le_self _ _) (Nat.sub_lt (by omega) Nat.one_pos)
    · rename (slt _ _ = false) => hlt
      rename StrsAre (List.set _ _ _) _ => hi
      have e1 : ((pos' : Int) - 1).toNat / 2 = (pos' - 1) / 2 := by rw [sub_one_nat]
      have e2 := sdown_brk (x := xs.getD pos Str.empty) (st := st) (pos := pos') (xs := cur') (by rw [← e1]; exact hlt)
      refine hret .none _ _ _ ⟨rfl, _, ?_, rfl⟩ (by assumption) (by assumption)
      rw [← hR', e2]
      exact hi
    · rename (¬ ((st : Int) < _)) => hst
      rename StrsAre (List.set _ _ _) _ => hi
      have e2 := sdown_end (x := xs.getD pos Str.empty) (st := st) (pos := pos') (xs := cur') (by omega)
      refine hret .none _ _ _ ⟨rfl, _, ?_, rfl⟩ (by assumption) (by assumption)
      rw [← hR', e2]
      exact hi
  · walk_at "GO"

theorem siftdown_at {l : Addr} {vs : List Value} {n : Nat} {rest : Led} {xs : List PySem.Str} (st pos : Nat) {i0 ip : Int} {t0 tp : Tok}
    (h0 : i0 = (st : Int)) (h1 : ip = (pos : Int)) (hs : StrsAre vs xs) (hp : pos < xs.length) (hx : xs.length < 1000) (hoff : ∀ p ∈ rest, p.1 ≠ l) :
    Ctr w p loose mean mg mb 1 100 86 [.ref l, .int i0 t0, .int ip tp] ((l, listOf vs.toArray n) :: rest)
      (fun r news' => r = .none ∧ ∃ vs', StrsAre vs' (sdown (xs.getD pos Str.empty) st pos xs) ∧ news' = (l, listOf vs'.toArray n) :: rest) := by
  subst h0; subst h1
  exact siftdown_ctr hs hp hx hoff
end
section
variable {w : World} {p : PySem.Program} {loose : List PySem.Str} {mean : ExcName → Option Value} {mg mb : PySem.Str → Option Value}
example : True := by
  w_top off
  trivial
/-- what stands behind an if whose ways meet again -/
inductive IfMid (h₀ : Heap) (L : Addr) (s : Shared) (ps : Tok → List (PySem.Str × Value)) (ld : Led) (f : Flow) (s' : Shared) : Prop
  | mk (ct : Tok) (h : Heap) (tk : Nat) (m9 : PySem.Str → Option Value) : f = .next → Fr h₀ L h m9 → (∀ p ∈ ps ct, m9 p.1 = some p.2) → News h₀ L h ld → s' = { s with heap := h, toks := tk } → IfMid h₀ L s ps ld f s'
theorem if_mid {M : Model} {A : Around} {x : Sem Flow} {Q : Flow → Shared → Prop} {E : Value → Shared → Prop} {s : Shared} {h₀ h0 : Heap} {L : Addr} {m0 : PySem.Str → Option Value} (_F : Fr h₀ L h0 m0) (ps : Tok → List (PySem.Str × Value)) (ld : Led)
    (hif : wpAny M A x (IfMid h₀ L s ps ld) E s) (rest : ∀ ct h tk u, Fr h₀ L h (kstB u (ps ct)) → News h₀ L h ld → Q .next { s with heap := h, toks := tk }) : wpAny M A x Q E s :=
  wpAny_mono hif (fun _ _ ⟨ct, h, tk, m9, e1, F, hk, N, e2⟩ => by subst e1; subst e2; exact rest ct h tk m9 (fr_named hk F) N) fun _ _ y => y
theorem sF {M : Model} {A : Around} {E : Value → Shared → Prop} {s : Shared} {e : Env} {a : PySem.Expr} {b c : List Stmt} {d : Pos} {Q : Flow → Shared → Prop} (h : wpAny M A (exec (.If a b c d) e) Q E s) : wpAny M A (exec (.If a b c d) e) Q E s := h
theorem siftup_at {l : Addr} {vs : List Value} {n : Nat} {rest : Led} {xs : List PySem.Str} (pos : Nat) {ip : Int} {tp : Tok}
    (h1 : ip = (pos : Int)) (hs : StrsAre vs xs) (hp : pos < xs.length) (hx : xs.length < 1000) (hoff : ∀ p ∈ rest, p.1 ≠ l) :
    Ctr w p loose mean mg mb 2 200 93 [.ref l, .int ip tp] ((l, listOf vs.toArray n) :: rest)
      (fun r news' => r = .none ∧ ∃ vs', StrsAre vs' (siftU pos xs) ∧ news' = (l, listOf vs'.toArray n) :: rest) := by
  subst h1
  intro dp un gd cn cs a ccd cl outer h₀ L m s Q E F X N T hd hu hret
  k_dflt (refine wpAny_call ?_; refine' code_led ?k2 ?k3 ?k4 ?k5 ?k6 ?k7 ?k8 ?k9 ?kB ?_ ?c2 ?c3 ?c4 ?c5; (case k2 => k_asm); (case k3 => k_asm); (case k4 => k_asm); (case k5 => k_asm); (case k6 => k_is); (case k7 => k_is); (case k8 => walk_at "RM"); (case k9 => exact BindsTo.of_eq rfl); (case kB => exact locs rfl); (case c2 => exact rfl); (case c3 => exact rfl); (case c4 => exact rfl); (case c5 => decide); k_whole; intro g' L' h' F' N' X' T'; (try dsimp only); k_unmd; (try k_fold))
  walk_at "GO"
  rename_i tx _ _ _ _ _ _ _
  refine w_while (σ := Nat × Tok × Tok × Tok × List Value × List PySem.Str) (fun c => (l, listOf c.2.2.2.2.1.toArray n) :: rest)
      (fun c => [(Str.ofString "pos", .int c.1 c.2.1), (Str.ofString "heap", .ref l), (Str.ofString "startpos", .int pos tp), (Str.ofString "newitem", .str (xs.getD pos Str.empty) tx), (Str.ofString "childpos", .int (2 * c.1 + 1) c.2.2.1), (Str.ofString "endpos", .int xs.length c.2.2.2.1)])
      (fun c => StrsAre c.2.2.2.2.1 c.2.2.2.2.2 ∧ c.1 < c.2.2.2.2.2.length ∧ c.2.2.2.2.2.length = xs.length ∧ sup (xs.getD pos Str.empty) c.1 c.2.2.2.2.2 = sup (xs.getD pos Str.empty) pos xs) (fun c => xs.length - c.1) (pos, tp, _, _, vs, xs)
      (by k_asm) (by k_asm) (fun _ h => h) (by kst_all) ⟨by assumption, hp, rfl, rfl⟩ ?_ ?_
  · refine all6 fun pos' tp' tc' te' vs' cur' => ?_
    intro u h tk
    refine imp4 fun hs' hp' hl' hR' => ?_
    intro F' N'
    dsimp only at hs' hp' hl' hR' F' N' ⊢
    (try k_fold)
    repeat' (first
      | (k_unfold; (try dsimp only))
      | ((with_reducible refine sX ?_); k_fold)
      | ((fail_if_success with_reducible refine sF ?_); (fail_if_success walk_at "STOP"); first | walk1 | (dsimp only; walk1))
      | (leave1; try dsimp only)
      | fail "no step")
    · have hsup := sup_go (x := xs.getD pos Str.empty) (pos := pos') (xs := cur') (by omega)
      refine if_mid (by k_asm) (fun ct => [(Str.ofString "pos", .int pos' tp'), (Str.ofString "heap", .ref l), (Str.ofString "startpos", .int pos tp), (Str.ofString "newitem", .str (xs.getD pos Str.empty) tx), (Str.ofString "childpos", .int (kid cur' pos') ct), (Str.ofString "endpos", .int xs.length te')]) ((l, listOf vs'.toArray n) :: rest) ?_ ?_
      · walk_at "GO"
        · rename (slt _ _ = true) => hlt
          have hlt' : slt (cur'.getD (2 * pos' + 1) Str.empty) (cur'.getD (2 * pos' + 2) Str.empty) = true := hlt
          have ek : kid cur' pos' = 2 * pos' + 1 := by unfold kid; rw [if_pos (by omega), if_pos hlt']
          exact ⟨_, _, _, _, rfl, by assumption, by rw [ek]; kst_all, by assumption, rfl⟩
        · rename (slt _ _ = false) => hlt
          have hlt' : slt (cur'.getD (2 * pos' + 1) Str.empty) (cur'.getD (2 * pos' + 2) Str.empty) = false := hlt
          have ek : kid cur' pos' = 2 * pos' + 1 + 1 := by unfold kid; rw [if_pos (by omega), if_neg (by rw [hlt']; decide)]
          exact ⟨_, _, _, _, rfl, by assumption, by rw [ek]; kst_all, by assumption, rfl⟩
        · have ek : kid cur' pos' = 2 * pos' + 1 := by unfold kid; rw [if_neg (by omega)]
          exact ⟨_, _, _, _, rfl, by assumption, by rw [ek]; kst_all, by assumption, rfl⟩
      · intro ct h9 tk9 u9 F9 N9
        have hkl : kid cur' pos' < cur'.length := kid_lt (by omega)
        have hkg : pos' < kid cur' pos' := kid_gt cur' pos'
        (try dsimp only)
        walk_at "GO"
        rename StrsAre (List.set _ _ _) _ => hi
        refine w_end (kid cur' pos', _, _, _, _, _) (by assumption) (by assumption) (fun _ h => h) (by kst_all) ⟨hi, ?_, ?_, hsup.symm.trans hR'⟩ ?_
        · simp only [List.length_set]; exact hkl
        · simp only [List.length_set]; exact hl'
        · show xs.length - kid cur' pos' < xs.length - pos'; exact Nat.sub_lt_sub_left (hl' ▸ hp') hkg
    · rename StrsAre (List.set _ _ _) _ => hi
      have e2 := sup_end (x := xs.getD pos Str.empty) (pos := pos') (xs := cur') (by omega)
      refine use_ctr (siftdown_at (xs := cur'.set pos' (xs.getD pos Str.empty)) pos pos' rfl rfl hi (by rw [List.length_set]; exact hp') (by rw [List.length_set]; omega) hoff) (by k_asm) (by k_asm) (by k_asm) (by k_asm) (fun _ h => h) (by walk_at "RM") (by walk_at "RM") ?_
      rintro _ _ h2 tk2 ⟨rfl, vs2, hs2, rfl⟩ F2 N2
      dsimp only
      walk_at "GO"
      refine hret .none _ _ _ ⟨rfl, _, ?_, rfl⟩ (by assumption) (by assumption)
      unfold siftU
      rw [← hR', e2]
      exact hs2
  · walk_at "GO"
end
section
variable {w : World} {p : PySem.Program} {loose : List PySem.Str} {mean : ExcName → Option Value} {mg mb : PySem.Str → Option Value}
example : True := by
  w_top off
  trivial
theorem heappush_at {l : Addr} {vs : List Value} {n : Nat} {rest : Led} {xs : List PySem.Str} {x : PySem.Str} {tx : Tok}
    (hs : StrsAre vs xs) (hx : xs.length < 900) (hoff : ∀ p ∈ rest, p.1 ≠ l) :
    Ctr w p loose mean mg mb 2 200 65 [.ref l, .str x tx] ((l, listOf vs.toArray n) :: rest)
      (fun r news' => r = .none ∧ ∃ vs' n', StrsAre vs' (pushH xs x) ∧ news' = (l, listOf vs'.toArray n') :: rest) := by
  intro dp un gd cn cs a ccd cl outer h₀ L m s Q E F X N T hd hu hret
  k_dflt (refine wpAny_call ?_; refine' code_led ?k2 ?k3 ?k4 ?k5 ?k6 ?k7 ?k8 ?k9 ?kB ?_ ?c2 ?c3 ?c4 ?c5; (case k2 => k_asm); (case k3 => k_asm); (case k4 => k_asm); (case k5 => k_asm); (case k6 => k_is); (case k7 => k_is); (case k8 => walk_at "RM"); (case k9 => exact BindsTo.of_eq rfl); (case kB => exact locs rfl); (case c2 => exact rfl); (case c3 => exact rfl); (case c4 => exact rfl); (case c5 => decide); k_whole; intro g' L' h' F' N' X' T'; (try dsimp only); k_unmd; (try k_fold))
  walk_at "GO"
  rename StrsAre _ _ => hi
  refine use_ctr (siftdown_at (xs := xs ++ [x]) 0 xs.length rfl (by simp only [List.length_append, List.length_cons, List.length_nil]; omega) hi (by simp only [List.length_append, List.length_cons, List.length_nil]; omega) (by simp only [List.length_append, List.length_cons, List.length_nil]; omega) hoff) (by k_asm) (by k_asm) (by k_asm) (by k_asm) (fun _ h => h) (by walk_at "RM") (by walk_at "RM") ?_
  rintro _ _ h2 tk2 ⟨rfl, vs2, hs2, rfl⟩ F2 N2
  dsimp only
  walk_at "GO"
  refine hret .none _ _ _ ⟨rfl, _, _, hs2, rfl⟩ (by assumption) (by assumption)
theorem heappop_at {l : Addr} {vs : List Value} {n : Nat} {rest : Led} {ys : List PySem.Str} {z : PySem.Str}
    (hs : StrsAre vs (ys ++ [z])) (hx : ys.length < 900) (hoff : ∀ p ∈ rest, p.1 ≠ l) :
    Ctr w p loose mean mg mb 3 300 72 [.ref l] ((l, listOf vs.toArray n) :: rest)
      (fun r news' => ∃ vs' n' t, r = .str (popL ys z).1 t ∧ StrsAre vs' (popL ys z).2 ∧ news' = (l, listOf vs'.toArray n') :: rest) := by
  obtain ⟨us, tz, rfl, hus⟩ := strs_snoc_inv hs
  have hul := hus.length
  intro dp un gd cn cs a ccd cl outer h₀ L m s Q E F X N T hd hu hret
  k_dflt (refine wpAny_call ?_; refine' code_led ?k2 ?k3 ?k4 ?k5 ?k6 ?k7 ?k8 ?k9 ?kB ?_ ?c2 ?c3 ?c4 ?c5; (case k2 => k_asm); (case k3 => k_asm); (case k4 => k_asm); (case k5 => k_asm); (case k6 => k_is); (case k7 => k_is); (case k8 => walk_at "RM"); (case k9 => exact BindsTo.of_eq rfl); (case kB => exact locs rfl); (case c2 => exact rfl); (case c3 => exact rfl); (case c4 => exact rfl); (case c5 => decide); k_whole; intro g' L' h' F' N' X' T'; (try dsimp only); k_unmd; (try k_fold))
  walk_at "GO"
  · rename (List.isEmpty _ = true) => he
    have hy : ys = [] := List.length_eq_zero_iff.mp (by rw [← hul, List.isEmpty_iff.mp he]; rfl)
    refine hret _ _ _ _ ⟨_, _, tz, ?_, ?_, rfl⟩ (by assumption) (by assumption)
    · unfold popL; rw [if_pos hy]
    · unfold popL; rw [if_pos hy]; rw [hy] at hus; exact hus
  · rename (List.isEmpty _ = false) => he
    have hpos : 0 < ys.length := by
      rw [← hul]
      cases us with
      | nil => cases he
      | cons a b => simp
    have hy : ys ≠ [] := fun h => by rw [h] at hpos; exact Nat.lt_irrefl _ hpos
    walk_at "GO"
    rename StrsAre (List.set _ _ _) _ => hi
    rename_i t9 _ _ _ _ _ _ _
    refine use_ctr (siftup_at (xs := ys.set 0 z) 0 rfl hi (by rw [List.length_set]; exact hpos) (by rw [List.length_set]; omega) hoff) (by k_asm) (by k_asm) (by k_asm) (by k_asm) (fun _ h => h) (by walk_at "RM") (by walk_at "RM") ?_
    rintro _ _ h2 tk2 ⟨rfl, vs2, hs2, rfl⟩ F2 N2
    dsimp only
    walk_at "GO"
    refine hret _ _ _ _ ⟨_, _, t9, ?_, ?_, rfl⟩ (by assumption) (by assumption)
    · unfold popL; rw [if_neg hy]; rfl
    · unfold popL; rw [if_neg hy]; exact hs2
theorem heapify_at {l : Addr} {vs : List Value} {n : Nat} {rest : Led} {xs : List PySem.Str}
    (hs : StrsAre vs xs) (hx : xs.length < 900) (hoff : ∀ p ∈ rest, p.1 ≠ l) :
    Ctr w p loose mean mg mb 3 300 79 [.ref l] ((l, listOf vs.toArray n) :: rest)
      (fun r news' => r = .none ∧ ∃ vs', StrsAre vs' (heapL (xs.length / 2) xs) ∧ news' = (l, listOf vs'.toArray n) :: rest) := by
  intro dp un gd cn cs a ccd cl outer h₀ L m s Q E F X N T hd hu hret
  k_dflt (refine wpAny_call ?_; refine' code_led ?k2 ?k3 ?k4 ?k5 ?k6 ?k7 ?k8 ?k9 ?kB ?_ ?c2 ?c3 ?c4 ?c5; (case k2 => k_asm); (case k3 => k_asm); (case k4 => k_asm); (case k5 => k_asm); (case k6 => k_is); (case k7 => k_is); (case k8 => walk_at "RM"); (case k9 => exact BindsTo.of_eq rfl); (case kB => exact locs rfl); (case c2 => exact rfl); (case c3 => exact rfl); (case c4 => exact rfl); (case c5 => decide); k_whole; intro g' L' h' F' N' X' T'; (try dsimp only); k_unmd; (try k_fold))
  walk_at "GO"
  refine r_reversed (k := xs.length / 2) (by k_asm) (by k_asm) (by assumption) ?_ (by omega) ?_
  · rw [Int.fdiv_eq_ediv_of_nonneg _ (by decide)]; rfl
  · intro D h1 F1 N1 l1
    dsimp only
    (try k_fold)
    walk_at "GO"
    refine l_rev (σ := List Value × List PySem.Str) (k := xs.length / 2) (fun c => (l, listOf c.1.toArray n) :: rest) (fun _ => [(Str.ofString "x", .ref l)])
      (fun i c => StrsAre c.1 c.2 ∧ c.2.length = xs.length ∧ heapL (xs.length / 2 - i) c.2 = heapL (xs.length / 2) xs) (vs, xs) rfl F1 N1 (.head _) (fun p hp => Nat.ne_of_lt (l1 p hp)) (fun p hp => .tail _ hp) (by kst_all) ⟨by assumption, rfl, rfl⟩ ?_ ?_
    · intro i
      refine all2 fun vs' cur' => ?_
      intro t u h tk own hi
      refine imp3 fun hs' hl' hR' => ?_
      intro ho F' N'
      dsimp only at hs' hl' hR' ho F' N' ⊢
      (try k_fold)
      walk_at "GO"
      have hoff2 : ∀ p ∈ rest ++ own, p.1 ≠ l := fun p hp => (List.mem_append.mp hp).elim (hoff p) fun h => ho p h l (.head _)
      refine use_ctr (siftup_at (xs := cur') (rest := rest ++ own) (xs.length / 2 - 1 - i) rfl (by assumption) (Nat.lt_of_lt_of_le (half_lt hi) (Nat.le_of_eq hl'.symm)) (by omega) hoff2) (by k_asm) (by k_asm) (by k_asm) (by k_asm) (fun _ h => h) (by walk_at "RM") (by walk_at "RM") ?_
      rintro _ _ h2 tk2 ⟨rfl, vs2, hs2, rfl⟩ F2 N2
      dsimp only
      walk_at "GO"
      refine l_end (vs2, siftU (xs.length / 2 - 1 - i) cur') (by assumption) (by assumption) ?_ ?_ ?_ (by kst_all) ⟨hs2, ?_, ?_⟩
      · intro p hp; exact List.mem_append.mpr (.inl hp)
      · intro p hp; exact .tail _ (List.mem_append.mpr (.inr hp))
      · exact ho
      · show (siftU _ cur').length = xs.length
        rw [siftU_len (Nat.lt_of_lt_of_le (half_lt hi) (Nat.le_of_eq hl'.symm))]; exact hl'
      · have e : xs.length / 2 - i = (xs.length / 2 - 1 - i) + 1 := sub_split hi
        rw [e] at hR'
        show heapL (xs.length / 2 - (i + 1)) (siftU (xs.length / 2 - 1 - i) cur') = _
        rw [sub_comm1 (xs.length / 2) i]
        exact hR'
    · refine all2 fun vs' cur' => ?_
      intro u h tk
      refine imp3 fun hs' hl' hR' => ?_
      intro F' N'
      dsimp only at hs' hl' hR' F' N' ⊢
      rw [Nat.sub_self] at hR'
      walk_at "GO"
      refine hret .none _ _ _ ⟨rfl, _, ?_, rfl⟩ (by assumption) (by assumption)
      rw [← hR']
      assumption
end
section
variable {w : World} {p : PySem.Program} {loose : List PySem.Str} {mean : ExcName → Option Value} {mg mb : PySem.Str → Option Value}
example : True := by
  w_top off
  trivial
theorem om_pos {a b i c : Nat} (h : c = a + b - i) (hi : i < a + b) : 0 < c := by rw [h]; exact Nat.sub_pos_of_lt hi
theorem om_pred {a b i c : Nat} (h : c = a + b - i) : c - 1 = a + b - (i + 1) := by rw [h, Nat.sub_sub]
theorem om_succ {a b i : Nat} (hi : i < a + b) : a + b - i = (a + b - (i + 1)) + 1 := (Nat.succ_pred_eq_of_pos (Nat.sub_pos_of_lt hi)).symm
theorem om_less {a b i c : Nat} (h : c = a + b - i) (ha : a < 300) (hb : b < 300) : c - 1 < 900 := by rw [h]; exact Nat.lt_of_le_of_lt (Nat.le_trans (Nat.sub_le _ _) (Nat.sub_le _ _)) (Nat.lt_trans (Nat.add_lt_add ha hb) (by decide))

local macro_rules | `(tactic| k_ne) => `(tactic| first | assumption | (apply Ne.symm; assumption))
theorem in_order_at {l1 l2 : Addr} {vs1 vs2 : List Value} {xs ys : List PySem.Str} (h1 : StrsAre vs1 xs) (h2 : StrsAre vs2 ys) (hx : xs.length < 300) (hy : ys.length < 300) :
    PCtr w p loose mean mg mb 5 500 122 [.ref l1, .ref l2] (fun h => h.IsList l1 vs1.toArray ∧ h.IsList l2 vs2.toArray)
      (fun r add => ∃ D vs' n', r = .ref D ∧ add = [(D, listOf vs'.toArray n')] ∧ StrsAre vs' (inOrd xs ys)) := by
  intro dp un gd cn cs a ccd cl outer h₀ L m s Q E F X T hd hu ⟨hl1, hl2⟩ hret
  k_dflt (refine wpAny_call ?_; refine' code_pure ?k2 ?k3 ?k5 ?k6 ?k7 ?k8 ?k9 ?kB ?kD ?_ ?c2 ?c3 ?c4; (case k2 => k_asm); (case k3 => k_asm); (case k5 => k_asm); (case k6 => k_is); (case k7 => k_is); (case k8 => walk_at "RM"); (case k9 => exact BindsTo.of_eq rfl); (case kB => exact rfl); (case kD => decide +kernel); (case c2 => exact rfl); (case c3 => exact rfl); (case c4 => exact rfl); k_whole; skip)
  intro L1 g1 tk1 cells F1 N1 Y1 X1 T1
  obtain ⟨o1, rfl, d1⟩ := CellsAre.one Y1
  replace d1 : o1.data = .cell none := d1
  clear Y1
  dsimp only
  k_unmd
  k_fold
  walk_at "GO"
  rename_i D c9 hx1 hlt hx2 o9 Fx Nx d9
  refine use_ctr (heapify_at h1 (by omega) ?_) (by k_asm) (by k_asm) (by k_asm) (by k_asm) (fun _ h => h) (by walk_at "RM") (by walk_at "RM") ?_
  · k_all
  rintro _ _ h3 tk3 ⟨rfl, vs3, hs3, rfl⟩ F3 N3
  dsimp only
  walk_at "GO"
  have hL : (heapL (xs.length / 2) xs).length = xs.length := heapL_len _ _ (Nat.div_le_self _ _)
  refine l_base (σ := List Value × Nat × List PySem.Str) (fun c => [(D, listOf c.1.toArray c.2.1), (L1 + 1, o9)]) (fun _ => [(Str.ofString "one", .ref l1), (Str.ofString "other", .ref l2)])
    (fun i c => StrsAre c.1 c.2.2 ∧ c.2.2 = (ys.take i).foldl pushH (heapL (xs.length / 2) xs)) (vs3, c9, heapL (xs.length / 2) xs) rfl hl2 (by k_asm) (by k_asm) (fun _ h => h) (by kst_all) ⟨hs3, rfl⟩ ?_ ?_
  · intro i
    refine all3 fun vs' n' cur' => ?_
    intro v u h tk own hv
    refine imp2 fun hs' hc' => ?_
    intro ho F' N'
    dsimp only at hs' hc' ho F' N' ⊢
    obtain ⟨y, t, rfl, hyi⟩ := h2.item i v hv
    have hil : i < ys.length := (List.getElem?_eq_some_iff.mp hyi).1
    have hlen : cur'.length < 900 := by rw [hc', foldPush_len, hL, List.length_take]; omega
    (try k_unmd)
    (try k_fold)
    walk_at "GO"
    have hoff2 : ∀ p ∈ [(L1 + 1, o9)] ++ own, p.1 ≠ D := fun p hp => by
      rcases List.mem_append.mp hp with hp | hp
      · rw [List.mem_singleton.mp hp]; exact Nat.ne_of_lt hlt
      · exact ho p hp D (.head _)
    refine use_ctr (heappush_at (rest := [(L1 + 1, o9)] ++ own) (by assumption) (by omega) hoff2) (by k_asm) (by k_asm) (by k_asm) (by k_asm) (fun _ h => h) (by walk_at "RM") (by walk_at "RM") ?_
    rintro _ _ h4 tk4 ⟨rfl, vs4, n4, hs4, rfl⟩ F4 N4
    dsimp only
    walk_at "GO"
    refine l_end (vs4, n4, pushH cur' y) (by assumption) (by assumption) ?_ ?_ ho (by kst_all) ⟨hs4, ?_⟩
    · intro p hp; exact List.mem_append.mpr (.inl hp)
    · intro p hp; exact .tail _ (List.mem_append.mpr (.inr hp))
    · show pushH cur' y = (ys.take (i + 1)).foldl pushH _
      rw [List.take_add_one, hyi, List.foldl_append, hc']; rfl
  · refine all3 fun vs' n' cur' => ?_
    intro u h tk
    refine imp2 fun hs' hc' => ?_
    intro F' N'
    dsimp only at hs' hc' F' N' ⊢
    rw [h2.length, List.take_length] at hc'
    (try k_unmd)
    (try k_fold)
    walk_at "GO"
    have hO : cur' = heapOf xs ys := hc'
    clear hL
    have hcl : cur'.length = xs.length + ys.length := by rw [hO]; exact heapOf_len _ _
    refine LCg.ListComp_U (F₀ := by k_asm) (by with_unfolding_all rfl) (by decide) (by rfl) (by decide) (by rfl) ?_
    (try k_unmd)
    (try k_fold)
    walk_at "GO"
    refine LCg.CompSrc.range (n := xs.length + ys.length) (by rfl) (by k_asm) (by k_asm) (by assumption) ?_ ?_ ?_ ?_
    · exact range_small2 hx hy
    · rw [rangeSize_nat]; omega
    · rw [PySem.sizeLine_eq]; omega
    intro g5
    refine comp_rest (fun i rv nx => Hold (∃ vsH nH cur rs, nx = [(D, listOf vsH.toArray nH), (L1 + 1, o9)] ∧ StrsAre vsH cur ∧ StrsAre rv rs ∧ cur.length = xs.length + ys.length - i ∧ rs ++ popN (xs.length + ys.length - i) cur = inOrd xs ys))
      ⟨⟨vs', n', cur', [], rfl, by assumption, .nil, hcl, by rw [hO]; rfl⟩⟩ ?_ ?_
    · intro i v rv nx I oI C oC D2 m₂ h6 tk6 E' hi _
      intro hz9
      refine hold44 nx hz9 fun vsH nH cur rs hs6 hr6 hl6 he6 => ?_
      clear hz9
      intro hC hx6 F6 N6 off6 ne6
      simp only [LCg.Off3, and_true] at off6
      have oa := off6.1.1
      have ob := off6.1.2.1
      have oc := off6.1.2.2
      have od := off6.2.1
      have oe := off6.2.2.1
      have og := off6.2.2.2
      clear off6
      (try k_unmd)
      (try k_fold)
      walk_at "GO"
      have hcp : 0 < cur.length := om_pos hl6 hi
      have hs7 : StrsAre vsH (cur.dropLast ++ [cur.getLastD Str.empty]) := by rw [← snoc_of hcp]; exact hs6
      refine use_ctr (heappop_at (rest := [(I, oI), (C, oC), (D2, LCg.lst rv), (L1 + 1, o9)]) hs7 (by rw [List.length_dropLast]; exact om_less hl6 hx hy) ?_) (by k_asm) (by k_asm) (by k_asm) (by k_asm) (by lcg_sub) (by walk_at "RM") (by walk_at "RM") ?_
      · k_all
      rintro _ _ h7 tk7 ⟨vs7, n7, t7, rfl, hs7, rfl⟩ F7 N7
      (try dsimp only)
      walk_at "GO"
      refine ⟨⟨vs7, n7, (popX cur).2, rs ++ [(popX cur).1], rfl, hs7, strs_snoc' hr6 _ _, ?_, ?_⟩⟩
      · rw [popX_len]; exact om_pred hl6
      · rw [← he6, om_succ hi, List.append_assoc]; rfl
    · intro rv nx
      intro hz9
      refine hold44 nx hz9 fun vsH nH cur rs hs6 hr6 hl6 he6 => ?_
      clear hz9
      rw [Nat.sub_self] at he6
      replace he6 : rs = inOrd xs ys := by rw [← he6]; exact (List.append_nil rs).symm
      intro D8 h8 tk8 F8 N8 o8
      (try dsimp only)
      walk_at "GO"
      refine hret (.ref D8) [(D8, LCg.lst rv)] _ _ _ _ ⟨D8, rv, rv.length, rfl, rfl, by rw [← he6]; exact hr6⟩ (by assumption) (fun q hq => ?_)
      rw [List.mem_singleton.mp hq]; exact N8 _ (.head _)
end
section
variable {w : World} {p : PySem.Program} {loose : List PySem.Str} {mean : ExcName → Option Value} {mg mb : PySem.Str → Option Value}
example : True := by
  w_top off
  trivial
/-- the six names -/
noncomputable def sixN : List PySem.Str := [Str.ofString "a", Str.ofString "aa", Str.ofString "ab", Str.ofString "b", Str.ofString "ba", Str.ofString "c"]
/-- is bit k set? -/
noncomputable def bitOf (b : Int) (k : Nat) : Bool := decide ((b.fdiv (2 ^ k)).fmod 2 = 1)
/-- the listing of a number -/
noncomputable def namesOf (b : Int) : List PySem.Str := keepI (bitOf b) sixN 6

theorem names_at {b : Int} {t : Nat} :
    PCtr w p loose mean mg mb 5 500 112 [.int b t] (fun _ => True)
      (fun r add => ∃ (D : Addr) (vs : List Value) (n : Nat), r = .ref D ∧ add = [(D, listOf vs.toArray n)] ∧ StrsAre vs (namesOf b)) := by
  intro dp un gd cn cs a ccd cl outer h₀ L m s Q E F X T hd hu _ hret
  k_dflt (refine wpAny_call ?_; refine' code_pure ?k2 ?k3 ?k5 ?k6 ?k7 ?k8 ?k9 ?kB ?kD ?_ ?c2 ?c3 ?c4; (case k2 => k_asm); (case k3 => k_asm); (case k5 => k_asm); (case k6 => k_is); (case k7 => k_is); (case k8 => walk_at "RM"); (case k9 => exact BindsTo.of_eq rfl); (case kB => exact rfl); (case kD => decide +kernel); (case c2 => exact rfl); (case c3 => exact rfl); (case c4 => exact rfl); k_whole; skip)
  intro L1 g1 tk1 cells F1 N1 Y1 X1 T1
  obtain ⟨o1, rfl, d1⟩ := CellsAre.one Y1
  replace d1 : o1.data = .cell (some (.int b t)) := d1
  clear Y1
  dsimp only
  k_unmd
  k_fold
  walk_at "GO"
  refine ListComp_enum (_F₀ := by k_asm) (by rfl) (by with_unfolding_all rfl) (by decide) (by rfl) (by decide) (by rfl) (by rfl) (by decide) (by rfl) ?_
  (try k_unmd)
  (try k_fold)
  walk_at "GO"
  refine enum_src (vs := [_, _, _, _, _, _]) (news' := [(L1 + 1, o1)]) (bitOf b) (by assumption) (by assumption) (.head _) (fun p hp => .tail _ hp) (by rw [PySem.sizeLine_eq]; simp) ?_ ?_
  · intro i x t' C oC D ys m₂ h tk E' hi hC hk hn F2 N2 off ne
    have hi6 : i < 6 := (List.getElem?_eq_some_iff.mp hi).1
    have hi7 : (i : Int) < 6 := by omega
    have hi8 : 0 ≤ (i : Int) := by omega
    (try k_unmd)
    (try k_fold)
    walk_at "GO"
  · intro D8 h8 tk8 F8 N8 o8
    (try dsimp only)
    walk_at "GO"
    refine (fun (vs : List Value) (hv : StrsAre vs sixN) (hN : News s.heap L1 h8 ((D8, LCg.lst (keepI (bitOf b) vs 6)) :: [(L1 + 1, o1)])) => hret (.ref D8) [(D8, LCg.lst (keepI (bitOf b) vs 6))] _ _ _ _ ⟨D8, _, _, rfl, rfl, strs_keep hv 6⟩ F8 (fun q hq => ?_)) _ ?_ N8
    · rw [List.mem_singleton.mp hq]; exact hN _ (.head _)
    · exact .cons _ _ (.cons _ _ (.cons _ _ (.cons _ _ (.cons _ _ (.cons _ _ .nil)))))
end
section
variable {w : World} {p : PySem.Program} {loose : List PySem.Str} {mean : ExcName → Option Value} {mg mb : PySem.Str → Option Value}
example : True := by
  w_top off
  trivial
theorem bag_at {l : Addr} {vs : List Value} {xs : List PySem.Str} (hs : StrsAre vs xs) (hx : xs.length < 300) :
    PCtr w p loose mean mg mb 5 500 143 [.ref l] (fun h => h.IsList l vs.toArray)
      (fun r add => ∃ (D : Addr) (vs' : List Value) (n : Nat), r = .ref D ∧ (D, listOf vs'.toArray n) ∈ add ∧ StrsAre vs' (xs ++ pickS xs none none (some 2))) := by
  intro dp un gd cn cs a ccd cl outer h₀ L m s Q E F X T hd hu hl hret
  k_dflt (refine wpAny_call ?_; refine' code_pure0 ?k2 ?k3 ?k5 ?k6 ?k7 ?k8 ?k9 ?kB ?_ ?c2 ?c3 ?c4 ?c5; (case k2 => k_asm); (case k3 => k_asm); (case k5 => k_asm); (case k6 => k_is); (case k7 => k_is); (case k8 => walk_at "RM"); (case k9 => exact BindsTo.of_eq rfl); (case kB => exact locs rfl); (case c2 => exact rfl); (case c3 => exact rfl); (case c4 => exact rfl); (case c5 => decide); k_whole)
  intro L1 g1 F1 N1 X1 T1
  dsimp only
  k_unmd
  k_fold
  walk_at "GO"
  rename_i h2 F2 N2
  refine r_cat (its := vs.toArray) F2 N2 (hl.at fun _ o => F2.keep _ _ o) ⟨_, (N2 _ (.head _)).1, rfl, _, rfl⟩ hs (strs_pick hs none none (some 2)) ?_ ?_
  · have := pickS_le hs none none (some 2)
    omega
  intro h3 F3 N3 s3
  dsimp only
  walk_at "GO"
  refine hret (.ref _) _ _ _ _ _ ⟨_, _, _, rfl, .head _, s3⟩ F3 N3
end
section
variable {w : World} {p : PySem.Program} {loose : List PySem.Str} {mean : ExcName → Option Value} {mg mb : PySem.Str → Option Value}
example : True := by
  w_top off
  trivial
/-- the first list of the two, after i turns -/
noncomputable def diffDown (xs ys : List PySem.Str) : Nat → List PySem.Str
  | 0 => []
  | i + 1 => diffDown xs ys i ++ (if ((ys.count (xs.getD ((xs.length : Int) - 1 + i * -1).toNat Str.empty) : Nat) : Int) ≤ (((pickS xs (some ((xs.length : Int) - 1 + i * -1 + 1)) none none).count (xs.getD ((xs.length : Int) - 1 + i * -1).toNat Str.empty) : Nat) : Int) then [xs.getD ((xs.length : Int) - 1 + i * -1).toNat Str.empty] else [])
/-- the second, after i turns -/
noncomputable def diffUp (xs ys : List PySem.Str) : Nat → List PySem.Str
  | 0 => []
  | i + 1 => diffUp xs ys i ++ (if ((xs.count (ys.getD (0 + (i : Int)).toNat Str.empty) : Nat) : Int) ≤ (((pickS ys none (some (0 + (i : Int))) none).count (ys.getD (0 + (i : Int)).toNat Str.empty) : Nat) : Int) then [ys.getD (0 + (i : Int)).toNat Str.empty] else [])

theorem rangeSize_down (n : Nat) : Builtin.Range.rangeSize ((n : Int) - 1) (-1) (-1) = n := by
  unfold Builtin.Range.rangeSize
  simp
  omega

theorem differ_at {l1 l2 : Addr} {vs1 vs2 : List Value} {xs ys : List PySem.Str} (h1 : StrsAre vs1 xs) (h2 : StrsAre vs2 ys) (hx : xs.length < 300) (hy : ys.length < 300) :
    PCtr w p loose mean mg mb 5 500 148 [.ref l1, .ref l2] (fun h => (h.IsList l1 vs1.toArray ∧ h.NoDictAt (.ref l1)) ∧ (h.IsList l2 vs2.toArray ∧ h.NoDictAt (.ref l2)))
      (fun r add => PairAdd r add (diffDown xs ys xs.length) (diffUp xs ys ys.length)) := by
  intro dp un gd cn cs a ccd cl outer h₀ L m s Q E F X T hd hu ⟨⟨hl1, hn1⟩, ⟨hl2, hn2⟩⟩ hret
  k_dflt (refine wpAny_call ?_; refine' code_pure ?k2 ?k3 ?k5 ?k6 ?k7 ?k8 ?k9 ?kB ?kD ?_ ?c2 ?c3 ?c4; (case k2 => k_asm); (case k3 => k_asm); (case k5 => k_asm); (case k6 => k_is); (case k7 => k_is); (case k8 => walk_at "RM"); (case k9 => exact BindsTo.of_eq rfl); (case kB => exact rfl); (case kD => decide +kernel); (case c2 => exact rfl); (case c3 => exact rfl); (case c4 => exact rfl); k_whole; skip)
  intro L1 g1 tk1 cells F1 N1 Y1 X1 T1
  obtain ⟨o1, o2, rfl, d1, d2⟩ := CellsAre.two Y1
  replace d1 : o1.data = .cell (some (.ref l2)) := d1
  replace d2 : o2.data = .cell (some (.ref l1)) := d2
  clear Y1
  dsimp only
  k_unmd
  k_fold
  walk_at "GO"
  refine Assign_ListComp_D (_F₀ := by k_asm) (by rfl) (by with_unfolding_all rfl) (by with_unfolding_all rfl) (by decide) (by rfl) (by decide) (by rfl) (by rfl) (by rfl) ?_
  (try k_unmd)
  (try k_fold)
  walk_at "GO"
  refine ⟨_, _, _, _, _, _, _, xs.length, _, rfl, rfl, by assumption, by assumption, by assumption, ?_, ?_, ?_, ?_⟩
  · unfold Builtin.Range.small Builtin.Range.rangeFitsLong; rw [rangeSize_down]; simp only [Bool.and_eq_true, decide_eq_true_eq, Bool.or_eq_true]; refine ⟨⟨⟨⟨?_, ?_⟩, ?_⟩, ?_⟩, ?_⟩ <;> first | decide | omega | (right; simp; done) | (right; simp; omega)
  · exact rangeSize_down _
  · rw [PySem.sizeLine_eq]; omega
  rintro _ ⟨g5, rfl⟩
  refine comp_restT (fun i rv nx => Hold (nx = [(L1 + 1 + 1, o1), (L1 + 1, o2)] ∧ StrsAre rv (diffDown xs ys i))) ⟨rfl, .nil⟩ ?_ ?_
  · intro i v rv nx I oI C oC D2 m₂ h6 tk6 E' hi
    intro hz9
    refine ex_eq v hz9 fun tv => ?_
    clear hz9
    intro hz9
    refine hold_eq_and nx hz9 fun hr6 => ?_
    clear hz9
    intro hC hx6 F6 N6 off6 ne6
    simp only [LCg.Off3, and_true] at off6
    (try k_unmd)
    (try k_fold)
    walk_at "GO"
    · refine LCg.CompEnd.intro (by k_asm) (by k_asm) [(L1 + 1 + 1, o1), (L1 + 1, o2)] (by lcg_sub) (by simp only [LCg.Off3, and_true]; exact off6) trivial ⟨rfl, ?_⟩
      have e : diffDown xs ys (i + 1) = diffDown xs ys i ++ [xs.getD ((xs.length : Int) - 1 + i * -1).toNat Str.empty] := congrArg (diffDown xs ys i ++ ·) (if_pos (by assumption))
      rw [e]
      exact strs_snoc' hr6 _ _
    · refine LCg.CompEnd.intro (by k_asm) (by k_asm) [(L1 + 1 + 1, o1), (L1 + 1, o2)] (by lcg_sub) (by simp only [LCg.Off3, and_true]; exact off6) trivial ⟨rfl, ?_⟩
      have e : diffDown xs ys (i + 1) = diffDown xs ys i ++ [] := congrArg (diffDown xs ys i ++ ·) (if_neg (by assumption))
      rw [e, List.append_nil]
      exact hr6
  intro rv nx
  intro hz9
  refine hold_eq_and nx hz9 fun hr6 => ?_
  clear hz9
  have keep6 : Hold (StrsAre rv (diffDown xs ys xs.length)) := ⟨hr6⟩
  intro D8 h8 tk8 F8 N8 o8
  (try dsimp only)
  walk_at "GO"
  refine LCt.ListComp_T (F₀ := by k_asm) (by with_unfolding_all rfl) (by decide) (by rfl) (by decide) (by rfl) ?_
  (try k_unmd)
  (try k_fold)
  walk_at "GO"
  refine LCt.CompSrcT.range (n := ys.length) (by rfl) (by k_asm) (by k_asm) (by assumption) ?_ ?_ ?_ ?_
  · exact range_small (Nat.le_of_lt (Nat.lt_trans hy (by decide)))
  · rw [rangeSize_nat]; omega
  · rw [PySem.sizeLine_eq]; omega
  intro g9
  refine comp_restT (fun i rv2 nx => Hold (nx = [(D8, LCg.lst rv), (L1 + 1 + 1, o1), (L1 + 1, o2)] ∧ StrsAre rv2 (diffUp xs ys i))) ⟨rfl, .nil⟩ ?_ ?_
  · intro i v rv2 nx I oI C oC D2 m₂ h6 tk6 E' hi
    intro hz9
    refine ex_eq v hz9 fun tv => ?_
    clear hz9
    intro hz9
    refine hold_eq_and nx hz9 fun hr7 => ?_
    clear hz9
    intro hC hx6 F6 N6 off6 ne6
    simp only [LCg.Off3, and_true] at off6
    (try k_unmd)
    (try k_fold)
    walk_at "GO"
    · refine LCg.CompEnd.intro (by k_asm) (by k_asm) [(D8, LCg.lst rv), (L1 + 1 + 1, o1), (L1 + 1, o2)] (by lcg_sub) (by simp only [LCg.Off3, and_true]; exact off6) trivial ⟨rfl, ?_⟩
      have e : diffUp xs ys (i + 1) = diffUp xs ys i ++ [ys.getD (0 + (i : Int)).toNat Str.empty] := congrArg (diffUp xs ys i ++ ·) (if_pos (by assumption))
      rw [e]
      exact strs_snoc' hr7 _ _
    · refine LCg.CompEnd.intro (by k_asm) (by k_asm) [(D8, LCg.lst rv), (L1 + 1 + 1, o1), (L1 + 1, o2)] (by lcg_sub) (by simp only [LCg.Off3, and_true]; exact off6) trivial ⟨rfl, ?_⟩
      have e : diffUp xs ys (i + 1) = diffUp xs ys i ++ [] := congrArg (diffUp xs ys i ++ ·) (if_neg (by assumption))
      rw [e, List.append_nil]
      exact hr7
  intro rv2 nx
  intro hz9
  refine hold_eq_and nx hz9 fun hr7 => ?_
  clear hz9
  have keep7 : Hold (StrsAre rv2 (diffUp xs ys ys.length)) := ⟨hr7⟩
  intro D9 h9 tk9 F9 N9 o9
  (try dsimp only)
  walk_at "GO"
  rename_i Dt ht Ft Nt lt kF kN Tc kX
  refine hret (.ref Dt) [(Dt, { cls := .type "tuple", data := .seq #[.ref D8, .ref D9] }), (D8, LCg.lst rv), (D9, LCg.lst rv2)] _ _ _ _ ⟨Dt, D8, D9, rv, rv2, _, _, rfl, rfl, keep6.out, keep7.out⟩ Ft (fun q hq => Nt q ?_)
  rcases List.mem_cons.mp hq with rfl | hq
  · exact .head _
  rcases List.mem_cons.mp hq with rfl | hq
  · exact .tail _ (.tail _ (.head _))
  rw [List.mem_singleton.mp hq]
  exact .tail _ (.head _)
end
section
variable {w : World} {p : PySem.Program} {loose : List PySem.Str} {mean : ExcName → Option Value} {mg mb : PySem.Str → Option Value}
example : True := by
  w_top off
  trivial
/-- how bit k goes from one number to the other -/
noncomputable def chgOf (a b : Int) (k : Nat) : Int := (a.fdiv (2 ^ k)).fmod 2 - (b.fdiv (2 ^ k)).fmod 2

/-- which way, by its place -/
noncomputable def wayOf (i : Nat) : Int := if i = 0 then 1 else -1
/-- the powers of two of the bits that go that way -/
noncomputable def pows (ch : Nat → Int) (way : Int) : Nat → List Int
  | 0 => []
  | i + 1 => pows ch way i ++ (if ch i = way then [2 ^ i] else [])

/-- what goes, what comes, as numbers -/
noncomputable def goesOf (a b : Int) : Int := (pows (chgOf a b) 1 6).sum
noncomputable def comesOf (a b : Int) : Int := (pows (chgOf a b) (-1) 6).sum

theorem chg_at {a1 a2 : Int} {i : Nat} (h : i < 6) : (List.map (chgOf a1 a2) (List.range 6)).getD (0 + (i : Int)).toNat 0 = chgOf a1 a2 i := by
  rw [show (0 + (i : Int)).toNat = i by omega, List.getD_eq_getElem?_getD, List.getElem?_map, List.getElem?_range h]
  rfl

theorem ints_two {ys : List Value} {a b : Int} (h : IntsAre ys [a, b]) : ∃ t u, ys = [.int a t, .int b u] := by
  obtain _ | ⟨_, t, h⟩ := h
  obtain _ | ⟨_, u, h⟩ := h
  obtain _ | _ := h
  exact ⟨t, u, rfl⟩

local macro_rules | `(tactic| k_ne) => `(tactic| first | assumption | (apply Ne.symm; assumption))
theorem patch_at {a1 a2 : Int} {t1 t2 : Nat} :
    PCtr w p loose mean mg mb 10 1500 117 [.int a1 t1, .int a2 t2] (fun _ => True)
      (fun r add => PairAdd r add (namesOf (goesOf a1 a2)) (namesOf (comesOf a1 a2))) := by
  intro dp un gd cn cs a ccd cl outer h₀ L m s Q E F X T hd hu _ hret
  k_dflt (refine wpAny_call ?_; refine' code_pure ?k2 ?k3 ?k5 ?k6 ?k7 ?k8 ?k9 ?kB ?kD ?_ ?c2 ?c3 ?c4; (case k2 => k_asm); (case k3 => k_asm); (case k5 => k_asm); (case k6 => k_is); (case k7 => k_is); (case k8 => walk_at "RM"); (case k9 => exact BindsTo.of_eq rfl); (case kB => exact rfl); (case kD => decide +kernel); (case c2 => exact rfl); (case c3 => exact rfl); (case c4 => exact rfl); k_whole; skip)
  intro L1 g1 tk1 cells F1 N1 Y1 X1 T1
  obtain ⟨o1, o2, o3, rfl, d1, d2, d3⟩ := CellsAre.three Y1
  replace d1 : o1.data = .cell none := d1
  replace d2 : o2.data = .cell (some (.int a2 t2)) := d2
  replace d3 : o3.data = .cell (some (.int a1 t1)) := d3
  clear Y1
  dsimp only
  k_unmd
  k_fold
  walk_at "GO"
  walk1
  refine LCg.ListComp_U (F₀ := by k_asm) (by with_unfolding_all rfl) (by decide) (by rfl) (by decide) (by rfl) ?_
  (try k_unmd)
  (try k_fold)
  walk_at "GO"
  refine LCg.CompSrc.range (n := 6) (by rfl) (by k_asm) (by k_asm) (by assumption) (by decide) (by decide) (by rw [PySem.sizeLine_eq]; decide) ?_
  intro g5
  refine comp_rest (fun i rv nx => Hold (nx = [(L1 + 1 + 1 + 1, o1), (L1 + 1 + 1, o2), (L1 + 1, o3)] ∧ IntsAre rv ((List.range i).map (chgOf a1 a2)))) ⟨rfl, .nil⟩ ?_ ?_
  · intro i v rv nx I oI C oC D2 m₂ h6 tk6 E' hi
    intro hz9
    refine ex_eq v hz9 fun tv => ?_
    clear hz9
    intro hz9
    refine hold_eq_and nx hz9 fun hr6 => ?_
    clear hz9
    intro hC hx6 F6 N6 off6 ne6
    simp only [LCg.Off3, and_true] at off6
    have oa := off6.1.1
    have ob := off6.1.2.1
    have oc9 := off6.1.2.2
    have od := off6.2.1.1
    have oe := off6.2.1.2.1
    have og := off6.2.1.2.2
    have oh := off6.2.2.1
    have oi := off6.2.2.2.1
    have oj := off6.2.2.2.2
    clear off6
    have hi7 : (0 + (i : Int)) < 6 := by omega
    have hi8 : 0 ≤ (0 + (i : Int)) := by omega
    (try k_unmd)
    (try k_fold)
    walk_at "GO"
    refine ⟨rfl, ?_⟩
    rw [List.range_succ, List.map_append]
    have e : chgOf a1 a2 i = (a1.fdiv (2 ^ (0 + (i : Int)).toNat)).fmod 2 - (a2.fdiv (2 ^ (0 + (i : Int)).toNat)).fmod 2 := by rw [show (0 + (i : Int)).toNat = i by omega]; rfl
    show IntsAre _ (_ ++ [chgOf a1 a2 i])
    rw [e]
    exact hr6.append (.cons _ _ .nil)
  intro rv nx
  intro hz9
  refine hold_eq_and nx hz9 fun hr6 => ?_
  clear hz9
  have keep6 : Hold (IntsAre rv ((List.range 6).map (chgOf a1 a2))) := ⟨hr6⟩
  intro D8 h8 tk8 F8 N8 o8
  (try dsimp only)
  walk_at "GO"
  walk1
  refine ListComp_cell (_F₀ := by k_asm) (by rfl) (by with_unfolding_all rfl) (fun _ => rfl) (fun _ => rfl) (by rfl) (by decide) (by with_unfolding_all rfl) ?_
  (try k_unmd)
  (try k_fold)
  walk_at "GO"
  rename_i lw hw Fw Nw lw1
  simp only [List.cons_append, List.nil_append] at Nw
  refine ⟨lw, [_, _], 0, _, (fun i ys => Hold (IntsAre ys ((List.range i).map fun j => (pows (chgOf a1 a2) (wayOf j) 6).sum))), rfl, (by rw [PySem.sizeLine_eq]; simp), .head _, Fw, Nw, ⟨.nil⟩, ?_, ?_⟩
  · intro i v ys I oI C oC D c oc h tk' E' hv hj hoc F2 N2
    obtain ⟨tw, rfl⟩ : ∃ tw, v = .int (wayOf i) tw := by
      match i, hv with
      | 0, hv => exact ⟨_, (Option.some.inj hv).symm⟩
      | 1, hv => exact ⟨_, (Option.some.inj hv).symm⟩
      | i + 2, hv => simp at hv
    (try k_unmd)
    (try k_fold)
    walk_at "GO"
    refine LCt.ListComp_T (F₀ := by k_asm) (by with_unfolding_all rfl) (by decide) (by rfl) (by decide) (by rfl) ?_
    (try k_unmd)
    (try k_fold)
    walk_at "GO"
    refine LCt.CompSrcT.range (n := 6) (by rfl) (by k_asm) (by k_asm) (by assumption) (by decide) (by decide) (by rw [PySem.sizeLine_eq]; decide) ?_
    intro g9
    refine comp_restT (fun i2 rv2 nx => Hold (nx = ((c, oc) :: (I, oI) :: (C, oC) :: (D, LCg.lst ys) :: (lw, listOf #[Value.int 1 _, Value.int (-1) _] 0) :: _) ∧ IntsAre rv2 (pows (chgOf a1 a2) (wayOf i) i2))) ⟨rfl, .nil⟩ ?_ ?_
    · intro i2 v2 rv2 nx I2 oI2 C2 oC2 D2 m2 h6 tk6 E6 hi2
      intro hz9
      refine ex_eq v2 hz9 fun tv => ?_
      clear hz9
      intro hz9
      refine hold_eq_and nx hz9 fun hr7 => ?_
      clear hz9
      intro hC hx6 F6 N6 off6 ne6
      have hi7 : (0 + (i2 : Int)) < 6 := by omega
      have hi8 : 0 ≤ (0 + (i2 : Int)) := by omega
      (try k_unmd)
      (try k_fold)
      walk_at "GO"
      · rename (List.getD _ _ _ = wayOf i) => hc
        refine LCg.CompEnd.intro (by k_asm) (by k_asm) ((c, oc) :: (I, oI) :: (C, oC) :: (D, LCg.lst ys) :: (lw, listOf #[Value.int 1 _, Value.int (-1) _] 0) :: _) (by lcg_sub) off6 trivial ⟨rfl, ?_⟩
        rw [chg_at hi2] at hc
        rw [show pows (chgOf a1 a2) (wayOf i) (i2 + 1) = pows (chgOf a1 a2) (wayOf i) i2 ++ [2 ^ i2] from congrArg (pows (chgOf a1 a2) (wayOf i) i2 ++ ·) (if_pos hc)]
        rw [show (0 + (i2 : Int)).toNat = i2 by omega]
        exact hr7.append (.cons _ _ .nil)
      · rename (List.getD _ _ _ ≠ wayOf i) => hc
        refine LCg.CompEnd.intro (by k_asm) (by k_asm) ((c, oc) :: (I, oI) :: (C, oC) :: (D, LCg.lst ys) :: (lw, listOf #[Value.int 1 _, Value.int (-1) _] 0) :: _) (by lcg_sub) off6 trivial ⟨rfl, ?_⟩
        rw [chg_at hi2] at hc
        rw [show pows (chgOf a1 a2) (wayOf i) (i2 + 1) = pows (chgOf a1 a2) (wayOf i) i2 ++ [] from congrArg (pows (chgOf a1 a2) (wayOf i) i2 ++ ·) (if_neg hc), List.append_nil]
        exact hr7
    · intro rv2 nx
      intro hz9
      refine hold_eq_and nx hz9 fun hr7 => ?_
      clear hz9
      intro D9 h9 tk9 F9 N9 o9
      (try dsimp only)
      walk_at "GO"
      · assumption
      · rename_i Fz Nz
        exact fun p hp => Nz p (.tail _ hp)
      · refine ⟨?_⟩
        rw [List.range_succ, List.map_append]
        exact hj.out.append (.cons _ _ .nil)
  · rintro D9 h9 tk9 ys F9 N9 o9 ⟨hj⟩
    replace hj : IntsAre ys [(pows (chgOf a1 a2) 1 6).sum, (pows (chgOf a1 a2) (-1) 6).sum] := hj
    obtain ⟨t5, t6, rfl⟩ := ints_two hj
    generalize hg : (pows (chgOf a1 a2) 1 6).sum = g at *
    generalize hc : (pows (chgOf a1 a2) (-1) 6).sum = cc at *
    (try dsimp only)
    walk_at "GO"
    refine use_pctr names_at (by k_asm) (by k_asm) (by k_asm) (by k_asm) trivial (by walk_at "RM") (by walk_at "RM") ?_
    rintro _ _ h10 tk10 ⟨Dn, vn, nn, rfl, rfl, hsn⟩ F10 N10 A10 k10
    have keep8 : Hold (StrsAre vn (namesOf g)) := ⟨hsn⟩
    (try dsimp only)
    walk_at "GO"
    refine use_pctr names_at (by k_asm) (by k_asm) (by k_asm) (by k_asm) trivial (by walk_at "RM") (by walk_at "RM") ?_
    rintro _ _ h11 tk11 ⟨Dm, vm, nm, rfl, rfl, hsm⟩ F11 N11 A11 k11
    have keep9 : Hold (StrsAre vm (namesOf cc)) := ⟨hsm⟩
    (try dsimp only)
    walk_at "GO"
    rename_i Dt ht Ft Nt lt kF kN Tc kX
    refine hret (.ref Dt) [(Dt, { cls := .type "tuple", data := .seq #[.ref Dn, .ref Dm] }), (Dn, listOf vn.toArray nn), (Dm, listOf vm.toArray nm)] _ _ _ _ ⟨Dt, Dn, Dm, vn, vm, _, _, rfl, rfl, (by rw [show goesOf a1 a2 = g from hg]; exact keep8.out), (by rw [show comesOf a1 a2 = cc from hc]; exact keep9.out)⟩ Ft (fun q hq => Nt q ?_)
    rcases List.mem_cons.mp hq with rfl | hq
    · exact .head _
    rcases List.mem_cons.mp hq with rfl | hq
    · exact .tail _ (.tail _ (.head _))
    rw [List.mem_singleton.mp hq]
    exact .tail _ (.head _)
end
section
variable {w : World} {p : PySem.Program} {loose : List PySem.Str} {mean : ExcName → Option Value} {mg mb : PySem.Str → Option Value}
example : True := by
  w_top off
  trivial
open TI
local macro_rules | `(tactic| walk_at "subscriptTail Name Name ref int") => `(tactic| (k_here; refine b_item_ctx (by rfl) (by k_asm) (.head _) (by assumption) (by assumption) (by k_asm) (by assumption) (by assumption) (by omega) (by omega) (fun hlt t => ?_) (fun hge h' tk e hx => ?_)))
local macro_rules | `(tactic| walk_at "subscriptTail Name Name ref int") => `(tactic| (k_here; refine b_item_try (by rfl) (by k_asm) (by assumption) (by assumption) (by omega) (by omega) (fun hlt t => ?_) (fun hge h' tk e hx => ?_)))
theorem with_tail {M : Model} {A : Around} {test ty : PySem.Expr} {nm : Option PySem.Str} {hp tp : Pos} {tb hs els fin : List Stmt} {rest : List ExceptHandler} {more : List Stmt} {env : Env} {Wb : Flow → Shared → Prop} {Qb : Shared → Prop} {E : Value → Shared → Prop} {s : Shared} (P : List Stmt → Env → Prop) (tail : P hs env)
    (go : P hs env → wpAny M A (isTrue test env (eval test env)) (fun b s₂ => if b = true then wpAny M A (execs (.Try tb (.ExceptHandler ty nm hs hp :: rest) els fin tp :: more) env) Wb E s₂ else Qb s₂) E s) :
    wpAny M A (isTrue test env (eval test env)) (fun b s₂ => if b = true then wpAny M A (execs (.Try tb (.ExceptHandler ty nm hs hp :: rest) els fin tp :: more) env) Wb E s₂ else Qb s₂) E s := go tail
theorem pre_len {T : Type} {a b c : List T} {n : Nat} (h : a ++ b = c) (k : c.length ≤ n) : a.length ≤ n := by
  rw [← h, List.length_append] at k
  exact Nat.le_trans (Nat.le_add_right _ _) k
theorem sinv_len {xs ys m u : List PySem.Str} {i j : Nat} (h : SInv xs ys i j m u) : m.length ≤ xs.length ∧ u.length ≤ ys.length := ⟨pre_len h.1 (sld_len xs ys).1, pre_len h.2 (sld_len xs ys).2⟩
theorem sld_at {l1 l2 : Addr} {vs1 vs2 : List Value} {xs ys : List PySem.Str} (h1 : StrsAre vs1 xs) (h2 : StrsAre vs2 ys) (hx : xs.length < 300) (hy : ys.length < 300)
    (hdx : ∀ i, i + 1 < xs.length → xs.getD (i + 1) Str.empty ≠ xs.getD i Str.empty) (hdy : ∀ i, i + 1 < ys.length → ys.getD (i + 1) Str.empty ≠ ys.getD i Str.empty) :
    XCtr w p loose mean mg mb 5 500 100 [.ref l1, .ref l2] (fun h => h.IsList l1 vs1.toArray ∧ h.IsList l2 vs2.toArray)
      (fun r add => PairAdd r add (sld xs ys).1 (sld xs ys).2) := by
  intro dp un gd cn cs a ccd cl outer h₀ L frs s Q E keep X T FS hfr hd hu ⟨hl1, hl2⟩ hret
  k_dflt (refine wpAny_call ?_; refine' code_x0 ?k2 ?k3 ?k4 ?kf ?k6 ?k7 ?k8 ?k9 ?kB ?_ ?c2 ?c3 ?c4 ?c5; (case k2 => assumption); (case k3 => k_asm); (case k4 => k_asm); (case kf => assumption); (case k6 => k_is); (case k7 => k_is); (case k8 => walk_at "RM"); (case k9 => exact BindsTo.of_eq rfl); (case kB => exact locs rfl); (case c2 => exact rfl); (case c3 => exact rfl); (case c4 => exact rfl); (case c5 => decide); k_whole)
  intro L1 g1 F1 N1 X1 T1
  revert hl1 hl2 F1 N1 X1 T1 hret
  generalize gone s.heap (frs.map (·.1)) = hb
  intro hl1 hl2 hret F1 N1 X1 T1
  dsimp only
  k_unmd
  k_fold
  walk_at "GO"
  rename_i M hz1 hx1 hz2 tkz _ _ U hx3 hMU hx4 Fx Nx
  have hapU : U ∉ L1 :: frs.map (·.1) := fun hm => by
    rcases List.mem_cons.mp hm with e | hm
    · exact (Nx _ (.head _)).2.1 e
    · obtain ⟨q, hq, e⟩ := List.mem_map.mp hm
      exact Nat.lt_irrefl _ (Nat.lt_trans (e ▸ hx1 q hq : U < M) hMU.1)
  have hapM : M ∉ L1 :: frs.map (·.1) := fun hm => by
    rcases List.mem_cons.mp hm with e | hm
    · exact (Nx _ (.tail _ (.head _))).2.1 e
    · obtain ⟨q, hq, e⟩ := List.mem_map.mp hm
      exact Nat.lt_irrefl _ (e ▸ hx1 q hq : M < M)
  have hoffF : ∀ frs', SameUp frs frs' → ∀ q ∈ frs', q.1 ≠ M ∧ q.1 ≠ U := fun frs' SU q hq => by
    obtain ⟨x, hx, e⟩ := SU.fwd q hq
    rw [e]
    exact ⟨Nat.ne_of_lt (hx1 x hx), Nat.ne_of_lt (Nat.lt_trans (hx1 x hx) hMU.1)⟩
  have hapF : ∀ frs', SameUp frs frs' → U ∉ L1 :: frs'.map (·.1) ∧ M ∉ L1 :: frs'.map (·.1) := fun frs' SU => by
    constructor <;> intro hm <;> rcases List.mem_cons.mp hm with e | hm
    · exact hapU (List.mem_cons.mpr (.inl e))
    · obtain ⟨q, hq, e⟩ := List.mem_map.mp hm
      exact (hoffF frs' SU q hq).2 e
    · exact hapM (List.mem_cons.mpr (.inl e))
    · obtain ⟨q, hq, e⟩ := List.mem_map.mp hm
      exact (hoffF frs' SU q hq).1 e
  refine wpAny_mono (Q := fun f s' => Hold (f = .next ∧ ∃ v12 n12 v14 n14 h14 tk14 m9 frs10, StrsAre v12 (sld xs ys).1 ∧ StrsAre v14 (sld xs ys).2 ∧ SameUp frs frs10 ∧ Fr hb L1 h14 m9 ∧ m9 (Str.ofString "missing") = some (.ref M) ∧ m9 (Str.ofString "unexpected") = some (.ref U)
      ∧ News hb L1 h14 ((U, listOf v14.toArray n14) :: (M, listOf v12.toArray n12) :: frs10) ∧ s' = { s with heap := h14, toks := tk14 })) ?loop ?ret (fun _ _ x => x)
  case ret =>
    rintro _ _ ⟨⟨rfl, v12, n12, v14, n14, h14, tk14, m9, frs10, s13, s15, SU10, F9, e1, e2, N14, rfl⟩⟩
    have F14 := fr_named (ps := [(Str.ofString "missing", .ref M), (Str.ofString "unexpected", .ref U)]) (List.forall_mem_cons.mpr ⟨e1, List.forall_mem_cons.mpr ⟨e2, List.forall_mem_nil _⟩⟩) F9
    clear F9 e1 e2
    (try k_unmd)
    (try k_unfold)
    (try dsimp only)
    walk_at "GO"
    rename_i Dt ht Ft Nt lt
    refine hret (.ref Dt) [(Dt, { cls := .type "tuple", data := .seq #[.ref M, .ref U] }), (M, listOf v12.toArray n12), (U, listOf v14.toArray n14)] _ _ _ _ frs10 ⟨Dt, M, U, v12, v14, _, _, rfl, rfl, s13, s15⟩ ?_ SU10 Ft (fun q hq => Nt q ?_)
    · intro q hq
      rcases List.mem_cons.mp hq with rfl | hq
      · intro es ep e; cases e
      rcases List.mem_cons.mp hq with rfl | hq
      · intro es ep e; cases e
      rw [List.mem_singleton.mp hq]
      intro es ep e; cases e
    rcases List.mem_append.mp hq with hq | hq
    · rcases List.mem_cons.mp hq with rfl | hq
      · exact .head _
      rcases List.mem_cons.mp hq with rfl | hq
      · exact .tail _ (.tail _ (.head _))
      rw [List.mem_singleton.mp hq]
      exact .tail _ (.head _)
    · exact .tail _ (.tail _ (.tail _ hq))
  refine w_while (σ := Nat × Nat × List Value × Nat × List PySem.Str × List Value × Nat × List PySem.Str × Tok × Tok) (fun c => (U, listOf c.2.2.2.2.2.1.toArray c.2.2.2.2.2.2.1) :: (M, listOf c.2.2.1.toArray c.2.2.2.1) :: frs)
     (fun c => [(Str.ofString "expected", .ref l1), (Str.ofString "actual", .ref l2), (Str.ofString "i", .int c.1 c.2.2.2.2.2.2.2.2.1), (Str.ofString "j", .int c.2.1 c.2.2.2.2.2.2.2.2.2), (Str.ofString "missing", .ref M), (Str.ofString "unexpected", .ref U)])
     (fun c => StrsAre c.2.2.1 c.2.2.2.2.1 ∧ StrsAre c.2.2.2.2.2.1 c.2.2.2.2.2.2.2.1 ∧ c.1 ≤ xs.length ∧ c.2.1 ≤ ys.length ∧ SInv xs ys c.1 c.2.1 c.2.2.2.2.1 c.2.2.2.2.2.2.2.1) (fun c => xs.length - c.1 + (ys.length - c.2.1)) (0, 0, [], 0, [], [], 0, [], _, _) (by k_asm) (by k_asm) (fun _ h => h) (by kst_all) ?_ ?_ ?_
  · exact ⟨.nil, .nil, Nat.zero_le _, Nat.zero_le _, rfl, rfl⟩
  · refine all10 fun i j vm nm m vu nu u ti tj => ?_
    intro u0 h tk
    refine imp5 fun hm hu' hi hj hinv => ?_
    intro F' N'
    dsimp only at hm hu' hi hj F' N' hinv ⊢
    have hml := (sinv_len hinv).1
    have hul := (sinv_len hinv).2
    have kpm : Hold (StrsAre vm m) := ⟨hm⟩
    have kpu : Hold (StrsAre vu u) := ⟨hu'⟩
    refine with_tail (P := fun hs env => ∀ (e : Addr) (Q2 : Flow → Shared → Prop) (E2 : Value → Shared → Prop) (i2 j2 : Nat) (ti2 tj2 : Tok) (vm2 vu2 : List Value) (nm2 nu2 : Nat) (m2 u2 : List PySem.Str) (m0 : PySem.Str → Option Value) (frs10 : Led) (sh : Shared),
        SameUp frs frs10 → Fr hb L1 sh.heap m0 → (∀ p ∈ [(Str.ofString "expected", Value.ref l1), (Str.ofString "actual", .ref l2), (Str.ofString "i", .int i2 ti2), (Str.ofString "j", .int j2 tj2), (Str.ofString "missing", .ref M), (Str.ofString "unexpected", .ref U)], m0 p.1 = some p.2) →
        News hb L1 sh.heap ((U, listOf vu2.toArray nu2) :: (M, listOf vm2.toArray nm2) :: frs10) → StrsAre vm2 m2 → StrsAre vu2 u2 → (m2 ++ List.drop i2 xs = (sld xs ys).1 ∧ u2 ++ List.drop j2 ys = (sld xs ys).2) →
        (∀ v12 n12 v14 n14 h14 tk14, StrsAre v12 (sld xs ys).1 → StrsAre v14 (sld xs ys).2 → Fr hb L1 h14 (kstB m0 [(Str.ofString "expected", Value.ref l1), (Str.ofString "actual", .ref l2), (Str.ofString "i", .int i2 ti2), (Str.ofString "j", .int j2 tj2), (Str.ofString "missing", .ref M), (Str.ofString "unexpected", .ref U)]) →
          News hb L1 h14 ((U, listOf v14.toArray n14) :: (M, listOf v12.toArray n12) :: frs10) → Q2 .brk { sh with heap := h14, toks := tk14 }) →
        wpAny (model PySem.Challenge.pw_kt0010_01 w) (((ktrTop dp un gd cn cs L a ccd cl outer).deeper env).mark (some (.ref e))) (execs hs env) Q2 E2 sh) ?tail fun tail9 => ?_
    case tail =>
      clear hm hu' hi hj hml hul hinv kpm kpu F' N'
      intro e9 Q2 E2 i2 j2 ti2 tj2 vm2 vu2 nm2 nu2 m2 u2 m0 frs10 sh SU10 F0 hk0 N11 km ku hend hq9
      have hlm := pre_len hend.1 (sld_len xs ys).1
      have hlu := pre_len hend.2 (sld_len xs ys).2
      replace hq9 : Hold _ := ⟨hq9⟩
      have F11 := fr_named hk0 F0
      clear F0 hk0
      have kpm : Hold (StrsAre vm2 m2) := ⟨km⟩
      have kpu : Hold (StrsAre vu2 u2) := ⟨ku⟩
      clear km ku
      have hbM := (N11 _ (List.mem_cons_of_mem _ List.mem_cons_self)).1
      have hbU := (N11 _ List.mem_cons_self).1
      have hb11 : M < sh.heap.objs.size ∧ U < sh.heap.objs.size := ⟨Heap.lt_size hbM, Heap.lt_size hbU⟩
      clear hbM hbU
      (try k_unmd)
      (try k_fold)
      walk_at "GO"
      refine' r_extend ?xF ?xN ?xU ?xb ?x1 (strs_pick h1 _ _ _) ?_ ?_
      case xF => k_asm
      case xN => k_asm
      case xU => exact .tail (Nat.ne_of_gt (Nat.lt_succ_of_lt hb11.1)) (.tail (Nat.ne_of_gt hMU.1) (.head fun q hq => (hoffF _ SU10 q hq).1))
      case xb => exact List.mem_cons_self
      case x1 => exact kpm.out
      · refine Nat.le_trans (Nat.add_le_add_left (pickS_le h1 _ _ _) _) ?_
        omega
      intro h12 v12 n12 s12 F12 N12
      have s13 : Hold (StrsAre v12 (sld xs ys).1) := ⟨by
        rw [pickS_fromI _ (by omega)] at s12
        simp only [Int.toNat_natCast, toNat_succ] at s12
        rw [← hend.1]
        exact s12⟩
      clear s12
      (try dsimp only at N12)
      have hbM := (N12 _ (List.mem_cons_of_mem _ (List.mem_cons_of_mem _ List.mem_cons_self))).1
      have hbU := (N12 _ (List.mem_cons_of_mem _ List.mem_cons_self)).1
      have hb12 : M < h12.objs.size ∧ U < h12.objs.size := ⟨Heap.lt_size hbM, Heap.lt_size hbU⟩
      clear hbM hbU
      (try dsimp only)
      walk_at "GO"
      refine' r_extend ?yF ?yN ?yU ?yb ?y1 (strs_pick h2 _ _ _) ?_ ?_
      case yF => k_asm
      case yN => k_asm
      case yU =>
        refine .tail (Nat.ne_of_gt (Nat.lt_succ_of_lt hb12.2)) (.tail (Nat.ne_of_gt (Nat.lt_succ_of_lt hb11.2)) (.head fun q hq => ?_))
        rcases List.mem_cons.mp hq with rfl | hq
        · exact Nat.ne_of_lt hMU.1
        · exact (hoffF _ SU10 q hq).2
      case yb => exact List.mem_cons_self
      case y1 => exact kpu.out
      · refine Nat.le_trans (Nat.add_le_add_left (pickS_le h2 _ _ _) _) ?_
        omega
      intro h14 v14 n14 s14 F14 N14
      (try dsimp only at N14)
      have s15 : Hold (StrsAre v14 (sld xs ys).2) := ⟨by
        rw [pickS_fromI _ (by omega)] at s14
        simp only [Int.toNat_natCast, toNat_succ] at s14
        rw [← hend.2]
        exact s14⟩
      clear s14
      (try dsimp only)
      walk_at "GO"
      refine hq9.out v12 n12 v14 n14 h14 _ s13.out s15.out F14 (fun q hq => N14 q ?_)
      exact .tail _ (.tail _ hq)
    replace tail9 : Hold _ := ⟨tail9⟩
    (try k_unmd)
    (try k_fold)
    walk_at "GO"
    · rename (slt _ _ = true) => c1
      simp only [Int.toNat_natCast] at c1
      have hinv2 := sinv_lt hinv (by omega) (by omega) c1
      rename (StrsAre (vm ++ _) _) => hs7
      have kpm2 : Hold (StrsAre (vm ++ [_]) (m ++ [_])) := ⟨hs7⟩
      refine w_while (σ := Unit) (fun _ => (U, listOf vu.toArray nu) :: (M, listOf (vm ++ [_]).toArray (nm + 1)) :: frs)
        (fun _ => [(Str.ofString "expected", .ref l1), (Str.ofString "actual", .ref l2), (Str.ofString "i", .int (i + 1) _), (Str.ofString "j", .int j tj), (Str.ofString "missing", .ref M), (Str.ofString "unexpected", .ref U), (Str.ofString "e", .str _ _), (Str.ofString "a", .str _ _)])
        (fun _ => True) (fun _ => 0) () (by k_asm) (by k_asm) (fun _ h => h) (by kst_all) trivial ?_ ?_
      · rintro _ u1 h1' tk1 _ F1' N1'
        (try k_unmd)
        (try k_fold)
        walk_at "GO"
        · exfalso
          rename ((List.getD xs _ _ == List.getD xs _ _) = true) => ce
          simp only [Int.toNat_natCast, toNat_succ] at ce
          exact hdx i (by omega) (eq_of_beq ce)
        · refine w_end (i + 1, j, vm ++ [_], nm + 1, m ++ [_], vu, nu, u, _, tj) (by assumption) (by assumption) (fun q hq => hq) (by kst_all) ⟨kpm2.out, kpu.out, by omega, hj, hinv2⟩ (Nat.add_lt_add_right (Nat.sub_succ_lt_self _ _ (by omega)) _)
        · rename_i hge hh tk9 e9 hx9
          have hend := sinv_end hinv2 (.inl (by omega))
          refine TLg.noted_newA (l := envX cn cs L a ccd cl :: outer) (frs := frs) (new := [(U, _), (M, _)]) rfl FS hx9 (by assumption) (by assumption) ?_ ?_
          · intro q hq
            rcases List.mem_cons.mp hq with rfl | hq
            · exact hapU
            · rw [List.mem_singleton.mp hq]; exact hapM
          intro h10 frs10 SU10 FS10 H10
          walk_at "GO"
          rename TT.HeldNA _ _ _ _ _ _ _ _ => H10
          refine clause_hitX H10 ?_ ?_
          · intro E2 Q2 hq2
            have F10 := H10.held.fr
            walk_at "GO"
            exact hq2
          intro h11 F11 N11
          refine' tail9.out _ _ _ _ _ _ _ _ _ _ _ _ _ _ frs10 _ SU10 F11 ?xk N11 ?xm ?xu hend ?_
          case xk => kst_all
          case xm => first | exact kpm.out | exact kpm2.out
          case xu => first | exact kpu.out | exact kpu2.out
          intro v12 n12 v14 n14 h14 tk14 s13 s15 F14 N14
          (try dsimp only)
          walk_at "GO"
          exact ⟨⟨rfl, v12, n12, v14, n14, h14, _, _, frs10, s13, s15, SU10, F14, rfl, rfl, N14, rfl⟩⟩
      · walk_at "GO"
    · rename (slt (ys.getD _ _) _ = true) => c1
      rename (slt (xs.getD _ _) _ = false) => c0
      simp only [Int.toNat_natCast] at c1 c0
      have hinv2 := sinv_gt hinv (by omega) (by omega) (by rw [c0]; decide) c1
      rename (StrsAre (vu ++ _) _) => hs7
      have kpu2 : Hold (StrsAre (vu ++ [_]) (u ++ [_])) := ⟨hs7⟩
      refine w_while (σ := Unit) (fun _ => (U, listOf (vu ++ [_]).toArray (nu + 1)) :: (M, listOf vm.toArray nm) :: frs)
        (fun _ => [(Str.ofString "expected", .ref l1), (Str.ofString "actual", .ref l2), (Str.ofString "i", .int i ti), (Str.ofString "j", .int (j + 1) _), (Str.ofString "missing", .ref M), (Str.ofString "unexpected", .ref U), (Str.ofString "e", .str _ _), (Str.ofString "a", .str _ _)])
        (fun _ => True) (fun _ => 0) () (by k_asm) (by k_asm) (fun _ h => h) (by kst_all) trivial ?_ ?_
      · rintro _ u1 h1' tk1 _ F1' N1'
        (try k_unmd)
        (try k_fold)
        walk_at "GO"
        · exfalso
          rename ((List.getD ys _ _ == List.getD ys _ _) = true) => ce
          simp only [Int.toNat_natCast, toNat_succ] at ce
          exact hdy j (by omega) (eq_of_beq ce)
        · refine w_end (i, j + 1, vm, nm, m, vu ++ [_], nu + 1, u ++ [_], ti, _) (by assumption) (by assumption) (fun q hq => hq) (by kst_all) ⟨kpm.out, kpu2.out, hi, (by show j + 1 ≤ ys.length; omega), hinv2⟩ (Nat.add_lt_add_left (Nat.sub_succ_lt_self _ _ (by omega)) _)
        · rename_i hge hh tk9 e9 hx9
          have hend := sinv_end hinv2 (.inr (by omega))
          refine TLg.noted_newA (l := envX cn cs L a ccd cl :: outer) (frs := frs) (new := [(U, _), (M, _)]) rfl FS hx9 (by assumption) (by assumption) ?_ ?_
          · intro q hq
            rcases List.mem_cons.mp hq with rfl | hq
            · exact hapU
            · rw [List.mem_singleton.mp hq]; exact hapM
          intro h10 frs10 SU10 FS10 H10
          walk_at "GO"
          rename TT.HeldNA _ _ _ _ _ _ _ _ => H10
          refine clause_hitX H10 ?_ ?_
          · intro E2 Q2 hq2
            have F10 := H10.held.fr
            walk_at "GO"
            exact hq2
          intro h11 F11 N11
          refine' tail9.out _ _ _ _ _ _ _ _ _ _ _ _ _ _ frs10 _ SU10 F11 ?xk N11 ?xm ?xu hend ?_
          case xk => kst_all
          case xm => first | exact kpm.out | exact kpm2.out
          case xu => first | exact kpu.out | exact kpu2.out
          intro v12 n12 v14 n14 h14 tk14 s13 s15 F14 N14
          (try dsimp only)
          walk_at "GO"
          exact ⟨⟨rfl, v12, n12, v14, n14, h14, _, _, frs10, s13, s15, SU10, F14, rfl, rfl, N14, rfl⟩⟩
      · walk_at "GO"
    · rename (slt (ys.getD _ _) _ = false) => c1
      rename (slt (xs.getD _ _) _ = false) => c0
      simp only [Int.toNat_natCast] at c1 c0
      have hinv2 := sinv_eq hinv (by omega) (by omega) (by rw [c0]; decide) (by rw [c1]; decide)
      refine w_while (σ := Unit) (fun _ => (U, listOf vu.toArray nu) :: (M, listOf vm.toArray nm) :: frs)
        (fun _ => [(Str.ofString "expected", .ref l1), (Str.ofString "actual", .ref l2), (Str.ofString "i", .int (i + 1) _), (Str.ofString "j", .int j tj), (Str.ofString "missing", .ref M), (Str.ofString "unexpected", .ref U), (Str.ofString "e", .str _ _), (Str.ofString "a", .str _ _)])
        (fun _ => True) (fun _ => 0) () (by k_asm) (by k_asm) (fun _ h => h) (by kst_all) trivial ?_ ?_
      · rintro _ u1 h1' tk1 _ F1' N1'
        (try k_unmd)
        (try k_fold)
        walk_at "GO"
        · exfalso
          rename ((List.getD xs _ _ == List.getD xs _ _) = true) => ce
          simp only [Int.toNat_natCast, toNat_succ] at ce
          exact hdx i (by omega) (eq_of_beq ce)
        · refine wpAny_passesOwn (by passes_own) ?_
          refine w_while (σ := Unit) (fun _ => (U, listOf vu.toArray nu) :: (M, listOf vm.toArray nm) :: frs)
            (fun _ => [(Str.ofString "expected", .ref l1), (Str.ofString "actual", .ref l2), (Str.ofString "i", .int (i + 1) _), (Str.ofString "j", .int (j + 1) _), (Str.ofString "missing", .ref M), (Str.ofString "unexpected", .ref U), (Str.ofString "e", .str _ _), (Str.ofString "a", .str _ _)])
            (fun _ => True) (fun _ => 0) () (by k_asm) (by k_asm) (fun _ h => h) (by kst_all) trivial ?_ ?_
          · rintro _ u2 h2' tk2 _ F2' N2'
            (try k_unmd)
            (try k_fold)
            walk_at "GO"
            · exfalso
              rename ((List.getD ys _ _ == List.getD ys _ _) = true) => ce
              simp only [Int.toNat_natCast, toNat_succ] at ce
              exact hdy j (by omega) (eq_of_beq ce)
            · refine w_end (i + 1, j + 1, vm, nm, m, vu, nu, u, _, _) (by assumption) (by assumption) (fun q hq => hq) (by kst_all) ⟨kpm.out, kpu.out, (by show i + 1 ≤ xs.length; omega), (by show j + 1 ≤ ys.length; omega), hinv2⟩ (Nat.add_lt_add (Nat.sub_succ_lt_self _ _ (by omega)) (Nat.sub_succ_lt_self _ _ (by omega)))
            · rename_i hge hh tk9 e9 hx9
              have hend := sinv_end hinv2 (.inr (by omega))
              refine TLg.noted_newA (l := envX cn cs L a ccd cl :: outer) (frs := frs) (new := [(U, _), (M, _)]) rfl FS hx9 (by assumption) (by assumption) ?_ ?_
              · intro q hq
                rcases List.mem_cons.mp hq with rfl | hq
                · exact hapU
                · rw [List.mem_singleton.mp hq]; exact hapM
              intro h10 frs10 SU10 FS10 H10
              walk_at "GO"
              rename TT.HeldNA _ _ _ _ _ _ _ _ => H10
              refine clause_hitX H10 ?_ ?_
              · intro E2 Q2 hq2
                have F10 := H10.held.fr
                walk_at "GO"
                exact hq2
              intro h11 F11 N11
              refine' tail9.out _ _ _ _ _ _ _ _ _ _ _ _ _ _ frs10 _ SU10 F11 ?xk N11 ?xm ?xu hend ?_
              case xk => kst_all
              case xm => first | exact kpm.out | exact kpm2.out
              case xu => first | exact kpu.out | exact kpu2.out
              intro v12 n12 v14 n14 h14 tk14 s13 s15 F14 N14
              (try dsimp only)
              walk_at "GO"
              exact ⟨⟨rfl, v12, n12, v14, n14, h14, _, _, frs10, s13, s15, SU10, F14, rfl, rfl, N14, rfl⟩⟩
          · walk_at "GO"
        · rename_i hge hh tk9 e9 hx9
          obtain ⟨ob9, tp9, he9, hcl9, hd9⟩ := hx9.there
          refine noted2 (l := envX cn cs L a ccd cl :: outer) (frs := frs) (new := [(U, _), (M, _)]) rfl FS hx9.keeps hx9.new he9 hcl9 hd9 rfl (by assumption) (by assumption) ?_ ?_
          · intro q hq
            rcases List.mem_cons.mp hq with rfl | hq
            · exact hapU
            · rw [List.mem_singleton.mp hq]; exact hapM
          clear he9 hcl9 hd9 hx9
          intro h10 frs10 SU10 FS10 H10 hctx
          walk_at "GO"
          rename TT.HeldNA _ _ _ _ _ _ _ _ => H10
          refine held_again H10 ?_
          (try dsimp only)
          obtain ⟨ob, otb, tb, ve, te, hcls, hde, h1e, htd, h3, hne, hap, F11, N11⟩ := held_open H10
          have h2e : ve[2]? = some .none := by
            obtain ⟨ob', ve', q1, q2, q3⟩ := hctx
            have z := (N11 _ (.head _)).1
            rw [q1] at z
            obtain rfl := Option.some.inj z
            rw [hde] at q2
            injection q2 with q2
            subst q2
            exact q3
          clear hctx H10
          refine set_flight hde h1e htd h3 hne hap F11 N11 fun h12 otb2 te2 htd2 h32 F12 N12 => ?_
          clear F11 N11
          simp only [List.cons_append, List.nil_append] at N12
          (try dsimp only)
          refine wpAny_passesOwnAt (by passes_own) ?_
          walk_at "GO"
          refine w_while (σ := Unit) (fun _ => (e9, ob) :: (tb, otb2) :: (U, listOf vu.toArray nu) :: (M, listOf vm.toArray nm) :: frs10)
            (fun _ => [(Str.ofString "expected", .ref l1), (Str.ofString "actual", .ref l2), (Str.ofString "i", .int (i + 1) _), (Str.ofString "j", .int (j + 1) _), (Str.ofString "missing", .ref M), (Str.ofString "unexpected", .ref U), (Str.ofString "e", .str _ _), (Str.ofString "a", .str _ _)])
            (fun _ => True) (fun _ => 0) () (by k_asm) (by k_asm) (fun _ h => h) (by kst_all) trivial ?_ ?_
          · rintro _ u2 h2' tk2 _ F2' N2'
            (try k_unmd)
            (try k_fold)
            walk_at "GO"
            · exfalso
              rename ((List.getD ys _ _ == List.getD ys _ _) = true) => ce
              simp only [Int.toNat_natCast, toNat_succ] at ce
              exact hdy j (by omega) (eq_of_beq ce)
            · have hend := sinv_end hinv2 (.inl (by omega))
              (try dsimp only)
              refine pass_on hcls hde h1e htd2 h32 hne (news := (U, listOf vu.toArray nu) :: (M, listOf vm.toArray nm) :: frs10) hap (by assumption) (by assumption) fun h13 H13 => ?_
              walk_at "GO"
              rename TT.HeldNA _ _ _ _ _ _ _ _ => H13
              refine held_again H13 ?_
              (try dsimp only)
              walk_at "GO"
              rename TT.HeldNA _ _ _ _ _ _ _ _ => H10
              refine clause_hitX H10 ?_ ?_
              · intro E2 Q2 hq2
                have F10 := H10.held.fr
                walk_at "GO"
                exact hq2
              intro h11 F11 N11
              refine' tail9.out _ _ _ _ _ _ _ _ _ _ _ _ _ _ frs10 _ SU10 F11 ?xk N11 ?xm ?xu hend ?_
              case xk => kst_all
              case xm => first | exact kpm.out | exact kpm2.out
              case xu => first | exact kpu.out | exact kpu2.out
              intro v12 n12 v14 n14 h14 tk14 s13 s15 F14 N14
              (try dsimp only)
              walk_at "GO"
              exact ⟨⟨rfl, v12, n12, v14, n14, h14, _, _, frs10, s13, s15, SU10, F14, rfl, rfl, N14, rfl⟩⟩
            · rename_i hge hh tk9 e2 hx9
              have hend := sinv_end hinv2 (.inl (by omega))
              obtain ⟨ob9, tp9, he9, hcl9, hd9⟩ := hx9.there
              refine noted2 (l := envX cn cs L a ccd cl :: outer) (frs := frs10) (new := [(U, listOf vu.toArray nu), (M, listOf vm.toArray nm)]) rfl FS10 hx9.keeps hx9.new he9 hcl9 hd9 rfl (by assumption)
                (fun p hp => (show News hb L1 _ ((e9, ob) :: (tb, otb2) :: (U, listOf vu.toArray nu) :: (M, listOf vm.toArray nm) :: frs10) by assumption) p (.tail _ (.tail _ hp))) ?_ ?_
              · intro q hq
                rcases List.mem_cons.mp hq with rfl | hq
                · exact (hapF _ SU10).1
                · rw [List.mem_singleton.mp hq]; exact (hapF _ SU10).2
              clear he9 hcl9 hd9 hx9
              intro h15 frs15 SU15 FS15 H15 _
              have SU16 := SU10.trans SU15
              clear SU10 FS10
              revert frs15 SU16
              intro frs10 SU15 FS10 H10 SU10
              walk_at "GO"
              rename TT.HeldNA _ _ _ _ _ _ _ _ => H10
              refine clause_hitX H10 ?_ ?_
              · intro E2 Q2 hq2
                have F10 := H10.held.fr
                walk_at "GO"
                exact hq2
              intro h11 F11 N11
              refine' tail9.out _ _ _ _ _ _ _ _ _ _ _ _ _ _ frs10 _ SU10 F11 ?xk N11 ?xm ?xu hend ?_
              case xk => kst_all
              case xm => first | exact kpm.out | exact kpm2.out
              case xu => first | exact kpu.out | exact kpu2.out
              intro v12 n12 v14 n14 h14 tk14 s13 s15 F14 N14
              (try dsimp only)
              walk_at "GO"
              exact ⟨⟨rfl, v12, n12, v14, n14, h14, _, _, frs10, s13, s15, SU10, F14, rfl, rfl, N14, rfl⟩⟩
          · walk_at "GO"
      · walk_at "GO"
    · rename_i hge hh tk9 e9 hx9
      have hend := sinv_end hinv (.inr (by omega))
      refine TLg.noted_newA (l := envX cn cs L a ccd cl :: outer) (frs := frs) (new := [(U, _), (M, _)]) rfl FS hx9 (by assumption) (by assumption) ?_ ?_
      · intro q hq
        rcases List.mem_cons.mp hq with rfl | hq
        · exact hapU
        · rw [List.mem_singleton.mp hq]; exact hapM
      intro h10 frs10 SU10 FS10 H10
      walk_at "GO"
      rename TT.HeldNA _ _ _ _ _ _ _ _ => H10
      refine clause_hitX H10 ?_ ?_
      · intro E2 Q2 hq2
        have F10 := H10.held.fr
        walk_at "GO"
        exact hq2
      intro h11 F11 N11
      refine' tail9.out _ _ _ _ _ _ _ _ _ _ _ _ _ _ frs10 _ SU10 F11 ?xk N11 ?xm ?xu hend ?_
      case xk => kst_all
      case xm => first | exact kpm.out | exact kpm2.out
      case xu => first | exact kpu.out | exact kpu2.out
      intro v12 n12 v14 n14 h14 tk14 s13 s15 F14 N14
      (try dsimp only)
      walk_at "GO"
      exact ⟨⟨rfl, v12, n12, v14, n14, h14, _, _, frs10, s13, s15, SU10, F14, rfl, rfl, N14, rfl⟩⟩
    · rename_i hge hh tk9 e9 hx9
      have hend := sinv_end hinv (.inl (by omega))
      refine TLg.noted_newA (l := envX cn cs L a ccd cl :: outer) (frs := frs) (new := [(U, _), (M, _)]) rfl FS hx9 (by assumption) (by assumption) ?_ ?_
      · intro q hq
        rcases List.mem_cons.mp hq with rfl | hq
        · exact hapU
        · rw [List.mem_singleton.mp hq]; exact hapM
      intro h10 frs10 SU10 FS10 H10
      walk_at "GO"
      rename TT.HeldNA _ _ _ _ _ _ _ _ => H10
      refine clause_hitX H10 ?_ ?_
      · intro E2 Q2 hq2
        have F10 := H10.held.fr
        walk_at "GO"
        exact hq2
      intro h11 F11 N11
      refine' tail9.out _ _ _ _ _ _ _ _ _ _ _ _ _ _ frs10 _ SU10 F11 ?xk N11 ?xm ?xu hend ?_
      case xk => kst_all
      case xm => first | exact kpm.out | exact kpm2.out
      case xu => first | exact kpu.out | exact kpu2.out
      intro v12 n12 v14 n14 h14 tk14 s13 s15 F14 N14
      (try dsimp only)
      walk_at "GO"
      exact ⟨⟨rfl, v12, n12, v14, n14, h14, _, _, frs10, s13, s15, SU10, F14, rfl, rfl, N14, rfl⟩⟩
  · walk_at "GO"
end
section
variable {w : World} {p : PySem.Program} {loose : List PySem.Str} {mean : ExcName → Option Value} {mg mb : PySem.Str → Option Value}
example : True := by
  w_top off
  trivial
open TI
theorem uld_at {xs ys : List PySem.Str} (hx : xs.length < 300) (hy : ys.length < 300) : MCtr w p loose mean mg mb 5 500 107 xs ys := by
  intro dp un gd cn cs a ccd cl outer h₀ L frs s Q E l1 l2 vs1 vs2 n1 n2 keep X T FS hfr' h1 h2 h12 hd hu hret
  have hfr : ∀ q ∈ [(l1, listOf vs1.toArray n1), (l2, listOf vs2.toArray n2)] ++ frs, s.heap.get? q.1 = some q.2 ∧ h₀.get? q.1 = none := hfr'
  have dis : ∀ q ∈ frs, q.1 ≠ l1 ∧ q.1 ≠ l2 := fun q hq => by
    obtain ⟨es, ep, hdq⟩ := FS.dict q hq
    have z := (hfr' q (.tail _ (.tail _ hq))).1
    constructor <;> intro e
    · have z1 := (hfr' _ (.head _)).1
      rw [← e, z] at z1
      rw [Option.some.inj z1] at hdq
      cases hdq
    · have z1 := (hfr' _ (.tail _ (.head _))).1
      rw [← e, z] at z1
      rw [Option.some.inj z1] at hdq
      cases hdq
  clear hfr'
  k_dflt (refine wpAny_call ?_; refine' code_x0 ?k2 ?k3 ?k4 ?kf ?k6 ?k7 ?k8 ?k9 ?kB ?_ ?c2 ?c3 ?c4 ?c5; (case k2 => assumption); (case k3 => k_asm); (case k4 => k_asm); (case kf => assumption); (case k6 => k_is); (case k7 => k_is); (case k8 => walk_at "RM"); (case k9 => exact BindsTo.of_eq rfl); (case kB => exact locs rfl); (case c2 => exact rfl); (case c3 => exact rfl); (case c4 => exact rfl); (case c5 => decide); k_whole)
  intro L1 g1 F1 N1 X1 T1
  revert F1 N1 X1 T1 hret
  show (∀ (D M : Addr) (vm : List Value) (nm : Nat) (vs1' : List Value) (n1' : Nat) (vs2' : List Value) (n2' : Nat) h' tk' L' m' frs', StrsAre vm (uAll xs ([], ys)).1 → StrsAre vs2' (uAll xs ([], ys)).2 → SameUp frs frs' → Fr (gone s.heap (([(l1, listOf vs1.toArray n1), (l2, listOf vs2.toArray n2)] ++ frs).map (·.1))) L' h' m' →
      News (gone s.heap (([(l1, listOf vs1.toArray n1), (l2, listOf vs2.toArray n2)] ++ frs).map (·.1))) L' h' ((D, { cls := .type "tuple", data := .seq #[.ref M, .ref l2] }) :: (M, listOf vm.toArray nm) :: (l1, listOf vs1'.toArray n1') :: (l2, listOf vs2'.toArray n2') :: frs') → Q (.ref D) { s with heap := h', toks := tk' }) → _
  generalize gone s.heap (([(l1, listOf vs1.toArray n1), (l2, listOf vs2.toArray n2)] ++ frs).map (·.1)) = hb
  intro hret F1 N1 X1 T1
  simp only [List.cons_append, List.nil_append] at N1
  dsimp only
  k_unmd
  k_fold
  walk_at "GO"
  rename_i M hM0 lM hM1 FM NM
  have hfs : Hold (∀ frs', SameUp frs frs' → (∀ q ∈ frs', q.1 ≠ l1) ∧ (∀ q ∈ frs', q.1 ≠ l2) ∧ ∀ q ∈ frs', q.1 ≠ M) := ⟨fun frs' SU => by
    refine ⟨fun q hq => ?_, fun q hq => ?_, fun q hq => ?_⟩ <;> obtain ⟨x, hx, e⟩ := SU.fwd q hq <;> rw [e]
    · exact (dis x hx).1
    · exact (dis x hx).2
    · exact Nat.ne_of_lt (allLt_mem lM.2.2 x hx)⟩
  refine w_while (σ := (List Value × Nat × List PySem.Str) × (List Value × Nat × List PySem.Str) × (List Value × Nat × List PySem.Str) × Led) (fun c => (M, listOf c.1.1.toArray c.1.2.1) :: (l1, listOf c.2.1.1.toArray c.2.1.2.1) :: (l2, listOf c.2.2.1.1.toArray c.2.2.1.2.1) :: c.2.2.2)
    (fun c => [(Str.ofString "expected", .ref l1), (Str.ofString "actual", .ref l2), (Str.ofString "missing", .ref M)])
    (fun c => Hold ((StrsAre c.1.1 c.1.2.2 ∧ StrsAre c.2.1.1 c.2.1.2.2 ∧ StrsAre c.2.2.1.1 c.2.2.1.2.2) ∧ (SameUp frs c.2.2.2 ∧ Frs (envX cn cs L a ccd cl :: outer) c.2.2.2) ∧ uAll c.2.1.2.2 (c.1.2.2, c.2.2.1.2.2) = uAll xs ([], ys) ∧ c.1.2.2.length + c.2.1.2.2.length ≤ xs.length ∧ c.2.2.1.2.2.length ≤ ys.length)) (fun c => c.2.1.2.2.length)
    (([], 0, []), (vs1, n1, xs), (vs2, n2, ys), frs) (by k_asm) (by k_asm) (fun _ h => h) (by kst_all) ⟨⟨.nil, h1, h2⟩, ⟨SameUp.refl _, FS⟩, rfl, by simp, Nat.le_refl _⟩ ?_ ?_
  · refine all3331 fun vm nm m v1 k1 cur v2 k2 act frs1 => ?_
    intro u0 h tk
    intro hz9
    refine imp323 (fun hm hcur hact SU1 FS1 hall hz1 hz2 => ?_) hz9.out
    clear hz9
    intro F' N'
    dsimp only at hm hcur hact SU1 FS1 hall hz1 hz2 F' N' ⊢
    have hfs1 := Hold.mk (hfs.out frs1 SU1)
    have hn1 : Hold (l1 ≠ M ∧ l2 ≠ M) := ⟨Nat.ne_of_lt lM.1, Nat.ne_of_lt lM.2.1⟩
    have hap : Hold (∀ q ∈ [(M, listOf vm.toArray nm), (l1, listOf v1.toArray k1), (l2, listOf v2.toArray k2)], q.1 ∉ L1 :: frs1.map (·.1)) := ⟨fun q hq hm => by
      rcases List.mem_cons.mp hm with e | hm
      · exact (N' q (List.mem_append.mpr (.inl hq) : q ∈ [(M, listOf vm.toArray nm), (l1, listOf v1.toArray k1), (l2, listOf v2.toArray k2)] ++ frs1)).2.1 e
      · obtain ⟨x, hx, e⟩ := List.mem_map.mp hm
        simp only [List.mem_cons, List.not_mem_nil, or_false] at hq
        rcases hq with rfl | rfl | rfl
        · exact hfs1.out.2.2 x hx e
        · exact hfs1.out.1 x hx e
        · exact hfs1.out.2.1 x hx e⟩
    rcases List.eq_nil_or_concat cur with rfl | ⟨cur', z, rfl⟩
    · cases hcur
      (try k_unmd)
      (try k_fold)
      walk_at "GO"
      exact hret _ _ _ _ _ _ _ _ _ _ _ _ frs1 (by rw [← hall]; exact hm) (by rw [← hall]; exact hact) SU1 (by assumption) (by assumption)
    · rw [List.concat_eq_append] at hcur hall hz1
      obtain ⟨us, tz, rfl, hus⟩ := strs_snoc_inv hcur
      have hzl : cur'.length + 1 + m.length ≤ xs.length := by rw [List.length_append] at hz1; simp only [List.length_cons, List.length_nil] at hz1; omega
      have kall : Hold (uAll cur' (uStep (m, act) z) = uAll xs ([], ys)) := ⟨by rw [← uAll_snoc]; exact hall⟩
      have kus : Hold (StrsAre us cur' ∧ StrsAre vm m ∧ StrsAre v2 act) := ⟨hus, hm, hact⟩
      clear hus
      (try k_unmd)
      (try k_fold)
      walk_at "GO"
      (try dsimp only)
      refine r_truthy (b := true) (by k_asm) (by k_mem) ?_ (by simp) ?_
      · rw [hcur.length, List.length_append]; simp only [List.length_cons, List.length_nil]; omega
      (try dsimp only)
      walk_at "GO"
      (try dsimp only)
      refine' r_pop (us := us) ?xF ?xN ?xz ?xU ?_
      case xF => k_asm
      case xN => k_asm
      case xU => exact .tail hn1.out.1.symm (.head (all_ne_cons h12.symm hfs1.out.1))
      case xz => rw [kus.out.1.length]; omega
      intro h5 F5 N5
      (try dsimp only)
      walk_at "GO"
      refine' r_remove ?xH ?xF ?xN ?xU kus.out.2.2 ?xz ?hit ?miss
      case xH => rfl
      case xF => k_asm
      case xN => k_asm
      case xU => exact .tail hn1.out.2.symm (.tail h12 (.head hfs1.out.2.1))
      case xz => omega
      case hit =>
        intro hk h6 vs6 hs6 F6 N6
        (try dsimp only)
        walk_at "GO"
        refine w_end ((vm, nm, m), (us, k1 + 1, cur'), (vs6, k2 + 1, act.erase z), frs1) (by assumption) (by assumption) (fun q hq => hq) (by kst_all) ⟨⟨kus.out.2.1, kus.out.1, hs6⟩, ⟨SU1, FS1⟩, ?_, ?_, ?_⟩ (by show cur'.length < (cur'.concat z).length; rw [List.length_concat]; omega)
        · show uAll cur' (m, act.erase z) = _
          rw [← kall.out]
          unfold uStep
          rw [if_pos hk]
        · show m.length + cur'.length ≤ xs.length
          omega
        · show (act.erase z).length ≤ ys.length
          exact Nat.le_trans (List.length_erase_le ..) hz2
      case miss =>
        intro hk h6 tk9 e9 hx9
        (try dsimp only)
        refine TLg.noted_newA (l := envX cn cs L a ccd cl :: outer) (frs := frs1) (new := [(M, _), (l1, _), (l2, _)]) rfl FS1 hx9 (by assumption) (by assumption) ?_ ?_
        · intro q hq
          simp only [List.mem_cons, List.not_mem_nil, or_false] at hq
          rcases hq with rfl | rfl | rfl
          · exact hap.out (M, listOf vm.toArray nm) (.head _)
          · exact hap.out (l1, listOf _ k1) (.tail _ (.head _))
          · exact hap.out (l2, listOf v2.toArray k2) (.tail _ (.tail _ (.head _)))
        intro h10 frs10 SU10 FS10 H10
        walk_at "GO"
        rename TT.HeldNA _ _ _ _ _ _ _ _ => H10
        refine clause_hitX H10 ?_ ?_
        · intro E2 Q2 hq2
          have F10 := H10.held.fr
          walk_at "GO"
          exact hq2
        intro h11 F11 N11
        (try simp only [List.cons_append, List.nil_append] at N11)
        repeat (first | (k_unfold; (try dsimp only)) | walk1 | (dsimp only; walk1))
        (try dsimp only)
        have SUt := SU1.trans SU10
        have hfs2 := hfs.out _ SUt
        refine' r_append ?xF ?xN ?xU kus.out.2.1 ?xz ?_
        case xF => k_asm
        case xN => k_asm
        case xU => exact .head (all_ne_cons hn1.out.1 (all_ne_cons hn1.out.2 hfs2.2.2))
        case xz => omega
        intro h12 F12 N12 hs12
        (try dsimp only)
        walk_at "GO"
        refine w_end ((vm ++ [Value.str z tz], nm + 1, m ++ [z]), (us, k1 + 1, cur'), (v2, k2, act), frs10) (by assumption) (by assumption) (fun q hq => hq) (by kst_all) ⟨⟨hs12, kus.out.1, kus.out.2.2⟩, ⟨SUt, FS10⟩, ?_, ?_, hz2⟩ (by show cur'.length < (cur'.concat z).length; rw [List.length_concat]; omega)
        · show uAll cur' (m ++ [z], act) = _
          rw [← kall.out]
          unfold uStep
          rw [if_neg hk]
        · show (m ++ [z]).length + cur'.length ≤ xs.length
          rw [List.length_append]; simp only [List.length_cons, List.length_nil]
          omega
  · walk_at "GO"
end
section
variable {w : World} {p : PySem.Program} {loose : List PySem.Str} {mean : ExcName → Option Value} {mg mb : PySem.Str → Option Value}
example : True := by
  w_top off
  trivial
open TI
/-- what is left, of the texts from the i-th on -/
noncomputable abbrev leftOf (xs ys : List PySem.Str) (i : Nat) : List PySem.Str := (xs.drop i).filter fun x => decide (x ∉ ys)
noncomputable abbrev ffObj (W dI J : Addr) : Obj := { cls := .ref 47, dict := some dI, data := .plain, slots := #[some (.ref W), some (.ref J)] }
theorem next_at {l1 l2 : Addr} {vs1 vs2 : List Value} {xs ys : List PySem.Str} (h1 : StrsAre vs1 xs) (h2 : StrsAre vs2 ys) (hx : xs.length < 300) (hy : ys.length < 300)
    (dp un : Nat) (gd : Option (List Code)) (cn : PySem.Str) (cs : Scope) (a : Addr) (ccd : Value) (cl : List (PySem.Str × Addr)) (outer : List Env) (h₀ : Heap) (L : Addr) (frs : Led) (s : Shared) (Q E : Value → Shared → Prop) (I dI W J : Addr) (i : Nat)
    (keep : ∀ b o, h₀.get? b = some o → s.heap.get? b = some o) (X : (hd.heap_39 w.params).In h₀) (T : Top p loose mean mg mb h₀)
    (FS : Frs (envX cn cs L a ccd cl :: outer) frs) (hfr' : ∀ q ∈ (J, iterObj l1 i) :: frs, s.heap.get? q.1 = some q.2 ∧ h₀.get? q.1 = none) (hJ : ∀ q ∈ frs, q.1 ≠ J)
    (hd : dp + 2 < recursionLimit) (hu : un + 200 < cLine) (hi : i ≤ xs.length)
    (hpre : (gone s.heap (J :: frs.map (·.1))).IsList l1 vs1.toArray ∧ (gone s.heap (J :: frs.map (·.1))).IsList l2 vs2.toArray ∧ (gone s.heap (J :: frs.map (·.1))).get? I = some (ffObj W dI J) ∧ (gone s.heap (J :: frs.map (·.1))).get? dI = some (dictOf [] 0) ∧ (gone s.heap (J :: frs.map (·.1))).get? W = some (hasOf l2))
    (item : ∀ j x t h' tk' L' m', j ≤ xs.length → i < j → leftOf xs ys i = x :: leftOf xs ys j → Fr (gone s.heap (J :: frs.map (·.1))) L' h' m' → News (gone s.heap (J :: frs.map (·.1))) L' h' ((J, iterObj l1 j) :: frs) → Q (.str x t) { s with heap := h', toks := tk' })
    (stop : ∀ e ob tb otb j h' tk' L' m' frs', leftOf xs ys i = [] → ob.cls = .type "StopIteration" → NoD (e, ob) → NoD (tb, otb) → SameUp frs frs' → Fr (gone s.heap (J :: frs.map (·.1))) L' h' m' → News (gone s.heap (J :: frs.map (·.1))) L' h' ((e, ob) :: (tb, otb) :: (J, endObj j) :: frs') → E (.ref e) { s with heap := h', toks := tk' }) :
    wpAny (model PySem.Challenge.pw_kt0010_01 w) (ktrTop dp un gd cn cs L a ccd cl outer) (call (.ref 43) [.ref I]) Q E s := by
  have hfr : ∀ q ∈ [(J, iterObj l1 i)] ++ frs, s.heap.get? q.1 = some q.2 ∧ h₀.get? q.1 = none := hfr'
  clear hfr'
  k_dflt (refine wpAny_call ?_; refine' code_x0 ?k2 ?k3 ?k4 ?kf ?k6 ?k7 ?k8 ?k9 ?kB ?_ ?c2 ?c3 ?c4 ?c5; (case k2 => assumption); (case k3 => k_asm); (case k4 => k_asm); (case kf => assumption); (case k6 => k_is); (case k7 => k_is); (case k8 => walk_at "RM"); (case k9 => exact BindsTo.of_eq rfl); (case kB => exact locs rfl); (case c2 => exact rfl); (case c3 => exact rfl); (case c4 => exact rfl); (case c5 => decide); k_whole)
  intro L1 g1 F1 N1 X1 T1
  revert F1 N1 X1 T1 item stop hpre
  show ((gone s.heap (([(J, iterObj l1 i)] ++ frs).map (·.1))).IsList l1 vs1.toArray ∧ (gone s.heap (([(J, iterObj l1 i)] ++ frs).map (·.1))).IsList l2 vs2.toArray ∧ (gone s.heap (([(J, iterObj l1 i)] ++ frs).map (·.1))).get? I = some (ffObj W dI J) ∧ (gone s.heap (([(J, iterObj l1 i)] ++ frs).map (·.1))).get? dI = some (dictOf [] 0) ∧ (gone s.heap (([(J, iterObj l1 i)] ++ frs).map (·.1))).get? W = some (hasOf l2)) →
    (∀ j x t h' tk' L' m', j ≤ xs.length → i < j → leftOf xs ys i = x :: leftOf xs ys j → Fr (gone s.heap (([(J, iterObj l1 i)] ++ frs).map (·.1))) L' h' m' → News (gone s.heap (([(J, iterObj l1 i)] ++ frs).map (·.1))) L' h' ((J, iterObj l1 j) :: frs) → Q (.str x t) { s with heap := h', toks := tk' }) →
    (∀ e ob tb otb j h' tk' L' m' frs', leftOf xs ys i = [] → ob.cls = .type "StopIteration" → NoD (e, ob) → NoD (tb, otb) → SameUp frs frs' → Fr (gone s.heap (([(J, iterObj l1 i)] ++ frs).map (·.1))) L' h' m' → News (gone s.heap (([(J, iterObj l1 i)] ++ frs).map (·.1))) L' h' ((e, ob) :: (tb, otb) :: (J, endObj j) :: frs') → E (.ref e) { s with heap := h', toks := tk' }) → _
  generalize gone s.heap (([(J, iterObj l1 i)] ++ frs).map (·.1)) = hb
  intro ⟨hl1, hl2, hbI, hbD, hbW⟩ item stop F1 N1 X1 T1
  simp only [List.cons_append, List.nil_append] at N1
  have inst : ∀ {h : Heap}, (∀ b o, hb.get? b = some o → h.get? b = some o) → InstAt h I (ffObj W dI J) 47 (some (dictOf [] 0)) := fun k => ⟨k _ _ hbI, rfl, rfl, k _ _ hbD⟩
  dsimp only
  k_unmd
  k_fold
  walk_at "GO"
  (refine' get_slot ?k1 ?k2 ?k3 ?k4 ?k5 ?k6 ?k7 ?k8 ?k9 ?kv ?kh ?_; (case k1 => k_asm); (case k2 => k_asm); (case k3 => exact inst (Fr.keep (by k_asm))); (case k4 => k_is); (case k5 => k_is); (case k6 => k_is); (case k7 => k_is); (case k8 => k_is); (case k9 => k_is); (case kv => exact rfl); (case kh => exact rfl))
  walk_at "GO"
  refine w_while (σ := Nat) (fun j => (J, iterObj l1 j) :: frs) (fun j => [(Str.ofString "self", .ref I), (Str.ofString "func", .ref W)])
    (fun j => Hold (leftOf xs ys j = leftOf xs ys i ∧ j ≤ xs.length ∧ i ≤ j)) (fun j => xs.length - j) i (by k_asm) (by k_asm) (fun _ h => h) (by kst_all) ⟨rfl, hi, Nat.le_refl _⟩ ?_ ?_
  · rintro j u0 h tk ⟨hleft, hjx, hij⟩ F' N'
    dsimp only at hleft hjx hij F' N' ⊢
    (try k_unmd)
    (try k_fold)
    walk_at "GO"
    (refine' get_slot ?k1 ?k2 ?k3 ?k4 ?k5 ?k6 ?k7 ?k8 ?k9 ?kv ?kh ?_; (case k1 => k_asm); (case k2 => k_asm); (case k3 => exact inst (Fr.keep (by k_asm))); (case k4 => k_is); (case k5 => k_is); (case k6 => k_is); (case k7 => k_is); (case k8 => k_is); (case k9 => k_is); (case kv => exact rfl); (case kh => exact rfl))
    walk_at "GO"
    refine r_next (xs := vs1.toArray) (i := j) rfl (by k_asm) (by k_asm) hl1 (.head hJ) ?_ ?_
    · intro v hv h5 F5 N5
      (try dsimp only)
      have hjl : j < xs.length := by
        have z := (Array.getElem?_eq_some_iff.mp hv).1
        rw [List.size_toArray, h1.length] at z
        exact z
      obtain ⟨tv, rfl⟩ : ∃ tv, v = .str (xs.getD j Str.empty) tv := by
        obtain ⟨tv, e⟩ := h1.get j (xs.getD j Str.empty) (by rw [List.getElem?_eq_getElem hjl, List.getD_eq_getElem?_getD, List.getElem?_eq_getElem hjl]; rfl)
        refine ⟨tv, ?_⟩
        have hv' : vs1[j]? = some v := by simpa using hv
        rw [e] at hv'
        exact (Option.some.inj hv').symm
      have hstep : leftOf xs ys j = if xs.getD j Str.empty ∉ ys then xs.getD j Str.empty :: leftOf xs ys (j + 1) else leftOf xs ys (j + 1) := by
        unfold leftOf
        rw [List.drop_eq_getElem_cons hjl, List.filter_cons]
        have hg : xs[j] = xs.getD j Str.empty := by rw [List.getD_eq_getElem?_getD, List.getElem?_eq_getElem hjl]; rfl
        rw [hg]
        simp only [decide_eq_true_eq]
      walk_at "GO"
      refine callWith_has (l := l2) ?_
      walk_at "GO"
      · exact Fr.keep (by k_asm) _ _ hbW
      (try dsimp only [List.nil_append, List.cons_append])
      refine r_call_has (l := l2) (xs := ys) (Fr.keep (by k_asm) _ _ hbW) (hl2.at fun o e => Fr.keep (by k_asm) _ _ e) h2 ?_
      by_cases hm : xs.getD j Str.empty ∈ ys
      · rw [decide_eq_true hm]
        rw [if_neg (by simpa using hm)] at hstep
        (try dsimp only)
        walk_at "GO"
        refine w_end (j + 1) (by assumption) (by assumption) (fun q hq => hq) (by kst_all) ⟨hstep.symm.trans hleft, hjl, Nat.le_succ_of_le hij⟩ (by show xs.length - (j + 1) < xs.length - j; omega)
      · rw [decide_eq_false hm]
        rw [if_pos hm] at hstep
        (try dsimp only)
        walk_at "GO"
        exact item (j + 1) _ _ _ _ _ _ hjl (Nat.lt_succ_of_le hij) (hleft.symm.trans hstep) (by assumption) (by assumption)
    · intro hv h5 h6 tk9 e9 F5 N5 hx9
      (try dsimp only)
      obtain ⟨ob9, ve9, he9, hcl9, hd9, hv9⟩ := hx9.there
      have hjn : J ∉ L1 :: frs.map (·.1) := fun hm => by
        rcases List.mem_cons.mp hm with e | hm
        · exact (N5 (J, endObj j) (.head _)).2.1 e
        · obtain ⟨x, hx, e⟩ := List.mem_map.mp hm
          exact hJ x hx e
      have hnil : leftOf xs ys i = [] := by
        rw [← hleft]
        have hlen : xs.length ≤ j := by
          rcases Nat.lt_or_ge j xs.length with z | z
          · exfalso
            rw [List.getElem?_toArray, List.getElem?_eq_getElem (by rw [h1.length]; exact z)] at hv
            cases hv
          · exact z
        unfold leftOf
        rw [List.drop_eq_nil_of_le hlen]
        rfl
      refine wpAny_bind ?_
      refine noted2 (l := envX cn cs L a ccd cl :: outer) (frs := frs) (new := [(J, endObj j)]) rfl FS hx9.keeps hx9.new he9 hcl9 hd9 hv9 F5 N5 ?_ ?_
      · intro q hq
        rw [List.mem_singleton.mp hq]
        exact hjn
      intro h10 frs10 SU10 FS10 H10 _
      obtain ⟨ob, otb, tb, ve, te, hcls, hde, h1e, htd, h3, hne, hap, F11, N11⟩ := held_open H10
      refine set_flight (f := none) hde h1e htd h3 hne hap F11 N11 fun h12 otb2 te2 htd2 h32 F12 N12 => ?_
      exact stop e9 ob tb otb2 j h12 tk9 L1 _ frs10 hnil hcls (NoD.fields hde) (NoD.fields htd2) SU10 F12 N12
  · walk_at "GO"
end
section
variable {w : World} {p : PySem.Program} {loose : List PySem.Str} {mean : ExcName → Option Value} {mg mb : PySem.Str → Option Value}
example : True := by
  w_top off
  trivial
open TI
theorem iter_at {I : Addr} {news : Led} : Ctr w p loose mean mg mb 1 100 36 [.ref I] news (fun r news' => r = .ref I ∧ news' = news) := by
  intro dp un gd cn cs a ccd cl outer h₀ L m s Q E F X N T hd hu hret
  k_dflt (refine wpAny_call ?_; refine' code_led ?k2 ?k3 ?k4 ?k5 ?k6 ?k7 ?k8 ?k9 ?kB ?_ ?c2 ?c3 ?c4 ?c5; (case k2 => k_asm); (case k3 => k_asm); (case k4 => k_asm); (case k5 => k_asm); (case k6 => k_is); (case k7 => k_is); (case k8 => walk_at "RM"); (case k9 => exact BindsTo.of_eq rfl); (case kB => exact locs rfl); (case c2 => exact rfl); (case c3 => exact rfl); (case c4 => exact rfl); (case c5 => decide); k_whole; intro g' L' h' F' N' X' T'; (try dsimp only); k_unmd; (try k_fold))
  walk_at "GO"
  exact hret _ _ _ _ ⟨rfl, rfl⟩ (by assumption) (by assumption)

theorem typeIs_no {x : Addr} {o : Obj} {C : Addr} {s : Shared} (h : s.heap.get? x = some o) : True := trivial

section
variable {l1 l2 : Addr} {vs1 vs2 : List Value} {xs ys : List PySem.Str} {dp un : Nat} {gd : Option (List Code)} {cn : PySem.Str} {cs : Scope} {a : Addr} {ccd : Value} {cl : List (PySem.Str × Addr)} {outer : List Env} {hb : Heap} {L : Addr} {m : PySem.Str → Option Value} {I dI W J : Addr} {frs : Led}

/-- one more of the iterator, from a def over a ledger -/
theorem next_ff (h1 : StrsAre vs1 xs) (h2 : StrsAre vs2 ys) (hx : xs.length < 300) (hy : ys.length < 300) {S : Addr} {acc : List Value} {c i : Nat} {s : Shared} {Q : Option Value → Shared → Prop} {E : Value → Shared → Prop}
    (F : Fr hb L s.heap m) (X : (hd.heap_39 w.params).In hb) (T : Top p loose mean mg mb hb) (FS : Frs outer frs) (hck : cs.kind = .function) (hl1 : hb.IsList l1 vs1.toArray) (hl2 : hb.IsList l2 vs2.toArray)
    (N : News hb L s.heap ((J, iterObj l1 i) :: ([(S, listOf acc.toArray c), (I, ffObj W dI J), (dI, dictOf [] 0), (W, hasOf l2)] ++ frs)))
    (hJ : ∀ q ∈ [(S, listOf acc.toArray c), (I, ffObj W dI J), (dI, dictOf [] 0), (W, hasOf l2)], q.1 ≠ J) (hJf : ∀ q ∈ frs, q.1 ≠ J) (hnf : ∀ q ∈ [(S, listOf acc.toArray c), (I, ffObj W dI J), (dI, dictOf [] 0), (W, hasOf l2)], ∀ p ∈ frs, q.1 ≠ p.1)
    (hd : dp + 2 < recursionLimit) (hu : un + 200 < cLine) (hi : i ≤ xs.length)
    (item : ∀ j x t h' tk', j ≤ xs.length → i < j → leftOf xs ys i = x :: leftOf xs ys j → Fr hb L h' m → News hb L h' ((J, iterObj l1 j) :: ([(S, listOf acc.toArray c), (I, ffObj W dI J), (dI, dictOf [] 0), (W, hasOf l2)] ++ frs)) → Q (some (.str x t)) { s with heap := h', toks := tk' })
    (stop : ∀ e ob tb otb j h' tk' frs', leftOf xs ys i = [] → NoD (e, ob) → NoD (tb, otb) → SameUp frs frs' → Fr hb L h' m → News hb L h' ([(e, ob), (tb, otb), (J, endObj j)] ++ ([(S, listOf acc.toArray c), (I, ffObj W dI J), (dI, dictOf [] 0), (W, hasOf l2)] ++ frs')) → Q none { s with heap := h', toks := tk' }) :
    wpAny (model PySem.Challenge.pw_kt0010_01 w) (ktrTop dp un gd cn cs L a ccd cl outer) (pyNext (.ref I)) Q E s := by
  obtain ⟨oL, es, ep, hL, hLd, hLr⟩ := id F.ns
  have FS' : Frs (envX cn cs L a ccd cl :: outer) ((L, oL) :: frs) := ⟨by show cs.kind ≠ .module; rw [hck]; decide, rfl, ⟨es, ep, hLd⟩, FS⟩
  have hbL : hb.get? L = none := Heap.get?_none_of_le F.above
  have hfr : ∀ q ∈ (J, iterObj l1 i) :: ((L, oL) :: frs), s.heap.get? q.1 = some q.2 ∧ hb.get? q.1 = none := fun q hq => by
    rcases List.mem_cons.mp hq with rfl | hq
    · exact ⟨(N _ (.head _)).1, (N _ (.head _)).2.2⟩
    rcases List.mem_cons.mp hq with rfl | hq
    · exact ⟨hL, hbL⟩
    · exact ⟨(N q (.tail _ (List.mem_append_right _ hq))).1, (N q (.tail _ (List.mem_append_right _ hq))).2.2⟩
  have off : ∀ b, (s.heap.get? b ≠ none → hb.get? b ≠ none) → True := fun _ _ => trivial
  have offB : ∀ b o, hb.get? b = some o → (gone s.heap (J :: ((L, oL) :: frs).map (·.1))).get? b = some o := fun b o e => by
    rw [gone_get fun hm => ?_]
    · exact F.keep b o e
    · obtain ⟨q, hq, e'⟩ := List.mem_map.mp (show b ∈ ((J, iterObj l1 i) :: ((L, oL) :: frs)).map (·.1) from hm)
      have := (hfr q hq).2
      rw [e', e] at this
      cases this
  have offN : ∀ q ∈ [(S, listOf acc.toArray c), (I, ffObj W dI J), (dI, dictOf [] 0), (W, hasOf l2)], (gone s.heap (J :: ((L, oL) :: frs).map (·.1))).get? q.1 = some q.2 := fun q hq => by
    rw [gone_get fun hm => ?_]
    · exact (N q (.tail _ (List.mem_append_left _ hq))).1
    · rcases List.mem_cons.mp hm with z | hm
      · exact hJ q hq z
      rcases List.mem_cons.mp hm with z | hm
      · exact (N q (.tail _ (List.mem_append_left _ hq))).2.1 z
      · obtain ⟨x, hx, e'⟩ := List.mem_map.mp hm
        exact hnf q hq x hx e'.symm
  have hI : InstAt s.heap I (ffObj W dI J) 47 (some (dictOf [] 0)) := ⟨(N _ (.tail _ (.tail _ (.head _)))).1, rfl, rfl, (N _ (.tail _ (.tail _ (.tail _ (.head _))))).1⟩
  refine owit_next (f := 43) F X hI (by k_is) (by k_is) ?_
  refine next_at h1 h2 hx hy dp un gd cn cs a ccd cl outer hb L ((L, oL) :: frs) s _ _ I dI W J i F.keep X T FS' hfr ?_ hd hu hi ⟨hl1.at fun o e => offB _ o e, hl2.at fun o e => offB _ o e, offN (I, ffObj W dI J) (.tail _ (.head _)), offN (dI, dictOf [] 0) (.tail _ (.tail _ (.head _))), offN (W, hasOf l2) (.tail _ (.tail _ (.tail _ (.head _))))⟩ ?_ ?_
  · intro q hq
    rcases List.mem_cons.mp hq with rfl | hq
    · exact fun e => (N (J, iterObj l1 i) (.head _)).2.1 e.symm
    · exact hJf q hq
  · intro j x t h' tk' L' m' hj hij hl F' N'
    obtain ⟨_, F2, N2⟩ := x_back (add := [(J, iterObj l1 j)]) F N hL FS'.dict hJ hnf (SameUp.refl _) F' N' (fun q hq => by rw [List.mem_singleton.mp hq]; exact NoD.fields rfl)
    exact item j x t h' tk' hj hij hl F2 N2
  · intro e ob tb otb j h' tk' L' m' frs1 hl hcl nd1 nd2 SU F' N'
    cases frs1 with
    | nil => exact False.elim SU
    | cons q0 frs' =>
      obtain ⟨SU', F2, N2⟩ := x_back (add := [(e, ob), (tb, otb), (J, endObj j)]) F N hL FS'.dict hJ hnf SU F' N' (fun q hq => by
        simp only [List.mem_cons, List.not_mem_nil, or_false] at hq
        rcases hq with rfl | rfl | rfl
        · exact nd1
        · exact nd2
        · exact NoD.fields rfl)
      unfold OwitStop
      refine wpAny_isInstance (T := "StopIteration") (b := true) ⟨ob, (N2 _ (.head _)).1, hcl⟩ isSubtype_stop ?_
      exact stop e ob tb otb j h' tk' frs' hl nd1 nd2 SU' F2 N2

theorem loop_ff (h1 : StrsAre vs1 xs) (h2 : StrsAre vs2 ys) (hx : xs.length < 300) (hy : ys.length < 300) {S : Addr}
    (X : (hd.heap_39 w.params).In hb) (T : Top p loose mean mg mb hb) (FS : Frs outer frs) (hck : cs.kind = .function) (hl1 : hb.IsList l1 vs1.toArray) (hl2 : hb.IsList l2 vs2.toArray)
    (hJ : ∀ b ∈ [S, I, dI, W], b ≠ J) (hJf : ∀ q ∈ frs, q.1 ≠ J) (hnf : ∀ b ∈ [S, I, dI, W], ∀ p ∈ frs, b ≠ p.1) (hS : ∀ b ∈ [I, dI, W], b ≠ S)
    (hd : dp + 2 < recursionLimit) (hu : un + 201 < cLine) : ∀ (k i : Nat) (acc : List Value) (pre : List PySem.Str) (c : Nat) (s : Shared) (R : Result → Shared → Prop), xs.length - i ≤ k → i ≤ xs.length → pre.length ≤ i → StrsAre acc pre → Fr hb L s.heap m →
    News hb L s.heap ((J, iterObj l1 i) :: ([(S, listOf acc.toArray c), (I, ffObj W dI J), (dI, dictOf [] 0), (W, hasOf l2)] ++ frs)) →
    (∀ e ob tb otb j vs' c' h' tk' frs', StrsAre vs' (pre ++ leftOf xs ys i) → NoD (e, ob) → NoD (tb, otb) → SameUp frs frs' → Fr hb L h' m → News hb L h' ([(e, ob), (tb, otb), (J, endObj j)] ++ ([(S, listOf vs'.toArray c'), (I, ffObj W dI J), (dI, dictOf [] 0), (W, hasOf l2)] ++ frs')) → R (.ok (.ret .none)) { s with heap := h', toks := tk' }) →
    codeAny (model PySem.Challenge.pw_kt0010_01 w) (ktrTop dp un gd cn cs L a ccd cl outer) (.builtin "list.extend.loop" ⟨[.ref S, .ref I, .none], []⟩) R s := by
  intro k
  induction k using Nat.strongRecOn with
  | _ k ih =>
    intro i acc pre c s R hk hi hp hacc F N hR
    refine codeAny_builtin PySem.F.entry_extend_loop ?_
    rw [Around.under_plainId PySem.F.plain_extend_loop _]
    show wpAny _ (ktrTop dp (un + 1) gd cn cs L a ccd cl outer) (pyNext (.ref I) >>= _) _ _ s
    refine wpAny_bind (next_ff (S := S) (acc := acc) (c := c) (i := i) h1 h2 hx hy F X T FS hck hl1 hl2 N ?_ hJf ?_ hd (by omega) hi ?_ ?_)
    · intro q hq
      exact hJ q.1 (by simp only [List.mem_cons, List.not_mem_nil, or_false] at hq ⊢; rcases hq with rfl | rfl | rfl | rfl <;> simp)
    · intro q hq
      exact hnf q.1 (by simp only [List.mem_cons, List.not_mem_nil, or_false] at hq ⊢; rcases hq with rfl | rfl | rfl | rfl <;> simp)
    · intro j x t h' tk' hj hij hl F2 N2
      have nS := N2 (S, listOf acc.toArray c) (.tail _ (.head _))
      show wpAny _ _ (updateSeq S (·.push (.str x t)) >>= _) _ _ _
      refine wpAny_bind ?_
      have hsz : acc.length ≤ 300 := by rw [hacc.length]; exact Nat.le_trans hp (Nat.le_trans hi (Nat.le_of_lt hx))
      have N3 : News hb L (h'.update S (Obj.mapSeq (·.push (Value.str x t)))) ((J, iterObj l1 j) :: ([(S, listOf (acc ++ [Value.str x t]).toArray (c + 1)), (I, ffObj W dI J), (dI, dictOf [] 0), (W, hasOf l2)] ++ frs)) := by
        refine ki_turn (pre := [(J, iterObj l1 j)]) (post := [(I, ffObj W dI J), (dI, dictOf [] 0), (W, hasOf l2)] ++ frs) (·.push (Value.str x t)) N2 ?_ ?_ (by simp) (by simp)
        · intro q hq
          rw [List.mem_singleton.mp hq]
          exact (hJ S (.head _)).symm
        · intro q hq
          rcases List.mem_append.mp hq with hq | hq
          · exact hS q.1 (by simp only [List.mem_cons, List.not_mem_nil, or_false] at hq ⊢; rcases hq with rfl | rfl | rfl <;> simp)
          · exact (hnf S (.head _) q hq).symm
      refine wpAny_updateSeq nS.1 rfl (wpAny_pure ⟨plainId_quiet PySem.F.plain_extend_loop _, ?_⟩) (by rw [PySem.sizeLine_eq, List.size_toArray]; omega) (by rw [PySem.sizeLine_eq, Array.size_push, List.size_toArray]; omega)
      have hk' : xs.length - j < xs.length - i := Nat.sub_lt_sub_left (Nat.lt_of_lt_of_le hij hj) hij
      refine ih (k - 1) (Nat.sub_lt (Nat.lt_of_le_of_lt (Nat.zero_le _) (Nat.lt_of_lt_of_le hk' hk)) Nat.one_pos) j (acc ++ [Value.str x t]) (pre ++ [x]) (c + 1) _ R (Nat.le_sub_one_of_lt (Nat.lt_of_lt_of_le hk' hk)) hj (by rw [List.length_append]; exact Nat.lt_of_le_of_lt hp hij) (strs_snoc' hacc x t) (F2.change (Heap.SameBut.update ..) nS.2.1 nS.2.2) N3 ?_
      intro e ob tb otb j2 vs' c' h2' tk2 frs' hs' nd1 nd2 SU F4 N4
      exact hR e ob tb otb j2 vs' c' h2' tk2 frs' (by rw [hl]; rw [List.append_assoc] at hs'; exact hs') nd1 nd2 SU F4 N4
    · intro e ob tb otb j h' tk' frs' hl nd1 nd2 SU F2 N2
      exact wpAny_pure (hR e ob tb otb j acc c h' tk' frs' (by rw [hl, List.append_nil]; exact hacc) nd1 nd2 SU F2 N2)

theorem list_ff (h1 : StrsAre vs1 xs) (h2 : StrsAre vs2 ys) (hx : xs.length < 300) (hy : ys.length < 300) {s : Shared} {Q E : Value → Shared → Prop}
    (F : Fr hb L s.heap m) (X : (hd.heap_39 w.params).In hb) (T : Top p loose mean mg mb hb) (FS : Frs outer frs) (hck : cs.kind = .function) (hl1 : hb.IsList l1 vs1.toArray) (hl2 : hb.IsList l2 vs2.toArray)
    (N : News hb L s.heap ((J, iterObj l1 0) :: ([(I, ffObj W dI J), (dI, dictOf [] 0), (W, hasOf l2)] ++ frs)))
    (hJ : ∀ b ∈ [I, dI, W], b ≠ J) (hJf : ∀ q ∈ frs, q.1 ≠ J) (hnf : ∀ b ∈ [I, dI, W], ∀ p ∈ frs, b ≠ p.1)
    (hd : dp + 2 < recursionLimit) (hu : un + 210 < cLine)
    (ret : ∀ S e ob tb otb j vs' c' h' tk' frs', StrsAre vs' (leftOf xs ys 0) → NoD (e, ob) → NoD (tb, otb) → SameUp frs frs' → Fr hb L h' m → News hb L h' ([(e, ob), (tb, otb), (J, endObj j)] ++ ([(S, listOf vs'.toArray c'), (I, ffObj W dI J), (dI, dictOf [] 0), (W, hasOf l2)] ++ frs')) → Q (.ref S) { s with heap := h', toks := tk' }) :
    wpAny (model PySem.Challenge.pw_kt0010_01 w) (ktrTop dp un gd cn cs L a ccd cl outer) (call (.type "list") [.ref I]) Q E s := by
  refine callType_codes (Q₁ := fun obj s₁ => obj = .ref s.heap.objs.size ∧ s₁ = { s with heap := s.heap.push { cls := .type "list", data := .seq #[] } }) PySem.F.called_list (PySem.F.typeCall_list_1 _) PySem.F.entry_list_init
    (PySem.code_list_new _ ⟨rfl, rfl⟩) fun obj s₁ h₁ => ?_
  obtain ⟨rfl, rfl⟩ := h₁
  have hS : (s.heap.push { cls := .type "list", data := .seq #[] }).get? s.heap.objs.size = some { cls := .type "list", data := .seq #[] } := Heap.get?_push_size _ rfl
  refine ⟨⟨_, hS, rfl⟩, PySem.F.args_list_init_2 _ _, ?_⟩
  have F2 := F.push { cls := .type "list", data := .seq #[] }
  have N2 : News hb L (s.heap.push { cls := .type "list", data := .seq #[] }) ((s.heap.objs.size, listOf (#[] : Array Value) 0) :: (J, iterObj l1 0) :: ([(I, ffObj W dI J), (dI, dictOf [] 0), (W, hasOf l2)] ++ frs)) := News.push F N _
  have hlt : ∀ q ∈ (J, iterObj l1 0) :: ([(I, ffObj W dI J), (dI, dictOf [] 0), (W, hasOf l2)] ++ frs), q.1 < s.heap.objs.size := fun q hq => Heap.lt_size (N q hq).1
  revert hS F2 N2 hlt
  generalize s.heap.push { cls := .type "list", data := .seq #[] } = g
  generalize s.heap.objs.size = S
  intro hS F2 N2 hlt
  show wpAny _ _ (do let old ← Builtin.List.listItems (.ref S); Builtin.List.listUpdate (.ref S) (fun _ => #[]); letGo old.toList.reverse; Builtin.List.listExtendWith (.ref S) (.ref I) .none) _ _ _
  refine wpAny_bind ?_
  unfold Builtin.List.listItems
  refine wpAny_bind (wpAny_seqItems hS rfl (wpAny_pure ?_))
  show wpAny _ _ (updateSeq S (fun _ => #[]) >>= fun _ => letGo (#[] : Array Value).toList.reverse >>= fun _ => Builtin.List.listExtendWith (.ref S) (.ref I) .none) _ _ _
  refine wpAny_bind (wpAny_updateSeq hS rfl ?_)
  have nS := N2 (S, _) (.head _)
  have apS : ∀ q ∈ (J, iterObj l1 0) :: ([(I, ffObj W dI J), (dI, dictOf [] 0), (W, hasOf l2)] ++ frs), q.1 ≠ S := fun q hq => Nat.ne_of_lt (hlt q hq)
  have N3 := ki_turn (pre := []) (its' := #[]) (n' := 0) (fun _ => (#[] : Array Value)) N2 (fun _ h => nomatch h) apS rfl rfl
  have F3 := F2.change (Heap.SameBut.update g S (Obj.mapSeq fun _ => (#[] : Array Value))) nS.2.1 nS.2.2
  refine wpAny_bind (wpAny_letGo ?_)
  revert N3 F3
  generalize g.update S (Obj.mapSeq fun _ => (#[] : Array Value)) = g3
  intro N3 F3
  simp only [List.nil_append] at N3
  have hI : InstAt g3 I (ffObj W dI J) 47 (some (dictOf [] 0)) := ⟨(N3 _ (.tail _ (.tail _ (.head _)))).1, rfl, rfl, (N3 _ (.tail _ (.tail _ (.tail _ (.head _))))).1⟩
  have hSI : S ≠ I := (apS (I, ffObj W dI J) (.tail _ (.head _))).symm
  unfold Builtin.List.listExtendWith
  refine wpAny_bind (hI.type.here ?_)
  have e1 : Builtin.List.listSameRef (.ref S) (.ref I) = false := by simp [Builtin.List.listSameRef, hSI]
  have e2 : (Value.ref 47 == Value.type "list") = false := by decide
  have e3 : (Value.ref 47 == Value.type "tuple") = false := by decide
  simp only [e1, e2, e3, Bool.or_false, Bool.false_eq_true, if_false]
  have X3 := X.keeps F3.keep
  refine wpAny_bind ?_
  refine owit_iter (f := 36) F3 X hI (by k_is) (by k_is) ?_
  refine use_ctr (iter_at (news := (S, listOf (#[] : Array Value) 0) :: (J, iterObj l1 0) :: ([(I, ffObj W dI J), (dI, dictOf [] 0), (W, hasOf l2)] ++ frs))) F3 X N3 T (fun _ h => h) (by show dp + 1 < _; omega) (by show un + 1 + 1 + 100 < _; omega) ?_
  rintro _ _ h4 tk4 ⟨rfl, rfl⟩ F4 N4
  have hI4 : InstAt h4 I (ffObj W dI J) 47 (some (dictOf [] 0)) := ⟨(N4 _ (.tail _ (.tail _ (.head _)))).1, rfl, rfl, (N4 _ (.tail _ (.tail _ (.tail _ (.head _))))).1⟩
  have X4 := X.keeps F4.keep
  refine owit_it (C := 47) (g := .ref 43) F4 X hI4 (by k_is) ?_
  refine wpAny_bind (wpAny_holding ?_)
  unfold Builtin.List.listLengthHint
  refine wpAny_bind (wpAny_bind (hI4.type.here ((looks_findIn X4 (name := "__len__") (r := none) (by k_is)).here ?_)))
  refine wpAny_bind (wpAny_bind (hI4.type.here ((looks_findIn X4 (name := "__length_hint__") (r := none) (by k_is)).here ?_)))
  refine wpAny_pure ?_
  refine KFB.if_so (by first | rfl | decide +kernel) ?_
  refine wpAny_bind (wpAny_rule ?_)
  refine wpAny_bind ?_
  show wpAny _ _ (updateSeq S (·.push .none) >>= fun _ => updateSeq S (·.pop)) _ _ _
  have nS4 := N4 (S, _) (.head _)
  refine wpAny_bind (wpAny_updateSeq nS4.1 rfl ?_)
  have N4a := ki_turn (pre := []) (its' := #[Value.none]) (n' := 1) (·.push Value.none) N4 (fun _ h => nomatch h) apS rfl rfl
  have F4a := F4.change (Heap.SameBut.update h4 S (Obj.mapSeq (·.push Value.none))) nS4.2.1 nS4.2.2
  clear N4 F4 X4 hI4
  revert N4a F4a
  generalize h4.update S (Obj.mapSeq (·.push Value.none)) = h4a
  intro N4a F4a
  have nS4a := N4a (S, _) (.head _)
  refine wpAny_updateSeq nS4a.1 rfl ?_ (by rw [PySem.sizeLine_eq]; decide) (by rw [PySem.sizeLine_eq]; decide)
  have N4 := ki_turn (pre := []) (its' := #[]) (n' := 2) (·.pop) N4a (fun _ h => nomatch h) apS rfl rfl
  have F4 := F4a.change (Heap.SameBut.update h4a S (Obj.mapSeq (·.pop))) nS4a.2.1 nS4a.2.2
  clear N4a F4a nS4 nS4a
  revert N4 F4
  generalize h4a.update S (Obj.mapSeq (·.pop)) = h4
  intro N4 F4
  simp only [List.nil_append] at N4
  refine wpAny_pure ⟨plainId_quiet PySem.F.plain_extend_loop _, ?_⟩
  have N5 : News hb L h4 ((J, iterObj l1 0) :: ([(S, listOf ([] : List Value).toArray 2), (I, ffObj W dI J), (dI, dictOf [] 0), (W, hasOf l2)] ++ frs)) := fun q hq => by
    rcases List.mem_cons.mp hq with rfl | hq
    · exact N4 _ (.tail _ (.head _))
    rcases List.mem_cons.mp hq with rfl | hq
    · exact N4 _ (.head _)
    · exact N4 _ (.tail _ (.tail _ hq))
  have hS3 : ∀ b ∈ [I, dI, W], b ≠ S := fun b hb' => by
    simp only [List.mem_cons, List.not_mem_nil, or_false] at hb'
    rcases hb' with rfl | rfl | rfl
    · exact apS (b, ffObj W dI J) (.tail _ (.head _))
    · exact apS (b, dictOf [] 0) (.tail _ (.tail _ (.head _)))
    · exact apS (b, hasOf l2) (.tail _ (.tail _ (.tail _ (.head _))))
  refine loop_ff (S := S) (J := J) (W := W) (dI := dI) (frs := frs) (un := un + 1) h1 h2 hx hy X T FS hck hl1 hl2 ?_ hJf ?_ hS3 hd (by omega) xs.length 0 [] [] 2 _ _ (Nat.le_refl _) (Nat.zero_le _) (Nat.le_refl _) .nil F4 N5 ?_
  · intro b hb'
    rcases List.mem_cons.mp hb' with rfl | hb'
    · exact (apS (J, iterObj l1 0) (.head _)).symm
    · exact hJ b hb'
  · intro b hb' q hq
    rcases List.mem_cons.mp hb' with rfl | hb'
    · exact (apS q (.tail _ (List.mem_append_right _ hq))).symm
    · exact hnf b hb' q hq
  · intro e ob tb otb j vs' c' h5 tk5 frs' hs' nd1 nd2 SU F5 N5'
    refine ⟨rfl, ?_⟩
    exact ret S e ob tb otb j vs' c' h5 tk5 frs' hs' nd1 nd2 SU F5 N5'
end
end
section
variable {w : World} {p : PySem.Program} {loose : List PySem.Str} {mean : ExcName → Option Value} {mg mb : PySem.Str → Option Value}
example : True := by
  w_top off
  trivial
open TI
/-- one new list of texts -/
inductive ListAdd (r : Value) (add : Led) (xs : List PySem.Str) : Prop
  | mk (D : Addr) (vs : List Value) (n : Nat) :
    r = .ref D →
    add = [(D, listOf vs.toArray n)] →
    StrsAre vs xs →
    ListAdd r add xs
theorem l1_at {h g : Heap} {l : Addr} {xs : Array Value} (k : ∀ b o, h.get? b = some o → g.get? b = some o) (x : h.IsList l xs) : g.IsList l xs := x.at fun o e => k _ o e
theorem filter_at {l1 l2 : Addr} {vs1 vs2 : List Value} {xs ys : List PySem.Str} (h1 : StrsAre vs1 xs) (h2 : StrsAre vs2 ys) (hx : xs.length < 300) (hy : ys.length < 300) :
    XCtr w p loose mean mg mb 5 500 58 [.ref l1, .ref l2] (fun h => (h.IsList l1 vs1.toArray ∧ h.NoDictAt (.ref l1)) ∧ (h.IsList l2 vs2.toArray ∧ h.NoDictAt (.ref l2)))
      (fun r add => ListAdd r add (xs.filter fun x => decide (x ∉ ys))) := by
  intro dp un gd cn cs a ccd cl outer h₀ L frs s Q E keep X T FS hfr hd hu hpre hret
  k_dflt (refine wpAny_call ?_; refine' code_x0 ?k2 ?k3 ?k4 ?kf ?k6 ?k7 ?k8 ?k9 ?kB ?_ ?c2 ?c3 ?c4 ?c5; (case k2 => assumption); (case k3 => k_asm); (case k4 => k_asm); (case kf => assumption); (case k6 => k_is); (case k7 => k_is); (case k8 => walk_at "RM"); (case k9 => exact BindsTo.of_eq rfl); (case kB => exact locs rfl); (case c2 => exact rfl); (case c3 => exact rfl); (case c4 => exact rfl); (case c5 => decide); k_whole)
  intro L1 g1 F1 N1 X1 T1
  revert F1 N1 X1 T1 hpre hret
  generalize gone s.heap (frs.map (·.1)) = hb
  intro ⟨⟨hl1, hn1⟩, ⟨hl2, hn2⟩⟩ hret F1 N1 X1 T1
  dsimp only
  k_unmd
  k_fold
  walk_at "GO"
  refine r_contains_attr (by k_asm) (by k_asm) hl2 hn2 ?_
  intro W h3 F3 N3 lW lW2
  walk_at "GO"
  refine call_cls (fI := 29) (by k_asm) (by k_asm) (by k_asm) (by k_is) (by k_is) (by k_is) ?_
  intro I dI h4 F4 N4 l4 l5
  (refine' code_led2 ?k2 ?k3 ?k4 ?k5 ?k6 ?k7 ?k8 ?k9 ?kB ?_ ?c2 ?c3 ?c4 ?c5; (case k2 => k_asm); (case k3 => k_asm); (case k4 => k_asm); (case k5 => k_asm); (case k6 => k_is); (case k7 => k_is); (case k8 => ktr_room); (case k9 => exact BindsTo.of_eq rfl); (case kB => exact locs rfl); (case c2 => exact rfl); (case c3 => exact rfl); (case c4 => exact rfl); (case c5 => decide); k_whole; intro g' L' h' gk' F' N' X' T'; (try dsimp only); k_unmd; (try k_fold))
  walk_at "GO"
  refine r_iter (by k_asm) (by k_asm) (l1_at gk' hl1) ?_
  intro J h5 F5 N5 l6
  (try dsimp only)
  walk_at "GO"
  have hJI : J ≠ I := Nat.ne_of_gt (l6 _ (.head _))
  have hrest : ∀ p ∈ (dI, dictOf [] 0) :: (W, hasOf l2) :: frs, p.1 ≠ I := all_ne_cons (Nat.ne_of_lt l5) fun p hp => Nat.ne_of_lt (Nat.lt_trans (l4 p hp) l5)
  (refine' set_slot ?k1 ?k2 ?k3 ?k4 ?k5 ?k6 ?k7 ?k8 ?k9 ?k10 ?k11 ?k12 ?k13 ?_; (case k1 => k_asm); (case k2 => k_asm); (case k3 => k_asm); (case k4 => k_inst); (case k5 => k_is); (case k6 => k_is); (case k7 => k_is); (case k8 => k_is); (case k9 => k_is); (case k10 => decide); (case k11 => k_slotset); (case k12 => exact rfl))
  case k13 => exact .tail hJI (.head hrest)
  intro h6 F6 N6
  (try dsimp only)
  walk_at "GO"
  (try k_fold)
  rename News hb L1 _ _ => N8
  rename Fr hb L1 _ _ => F8
  have hlt : ∀ b ∈ [I, dI, W], b < J := fun b hb' => by
    simp only [List.mem_cons, List.not_mem_nil, or_false] at hb'
    rcases hb' with rfl | rfl | rfl
    · exact l6 (b, _) (.head _)
    · exact l6 (b, _) (.tail _ (.head _))
    · exact l6 (b, _) (.tail _ (.tail _ (.head _)))
  have hgt : ∀ b ∈ [I, dI, W], ∀ q ∈ frs, q.1 < b := fun b hb' q hq => by
    have z1 : q.1 < W := lW q hq
    have z2 : W < dI := l4 (W, hasOf l2) (.head _)
    simp only [List.mem_cons, List.not_mem_nil, or_false] at hb'
    rcases hb' with rfl | rfl | rfl
    · exact Nat.lt_trans z1 (Nat.lt_trans z2 l5)
    · exact Nat.lt_trans z1 z2
    · exact z1
  refine list_ff (J := J) (W := W) (dI := dI) (frs := frs) h1 h2 hx hy F8 X1 T1 FS rfl hl1 hl2 N8 (fun b hb' => Nat.ne_of_lt (hlt b hb')) (fun q hq => ?_) (fun b hb' q hq => Nat.ne_of_gt (hgt b hb' q hq)) (by walk_at "RM") (by walk_at "RM") ?_
  · exact Nat.ne_of_lt (Nat.lt_trans (hgt I (.head _) q hq) (hlt I (.head _)))
  intro S e ob tb otb j vs' c' h9 tk9 frs' hs' nd1 nd2 SU F9 N9
  refine hret (.ref S) [(S, listOf vs'.toArray c')] h9 tk9 L1 _ frs' ⟨S, vs', c', rfl, rfl, hs'⟩ (fun q hq => by rw [List.mem_singleton.mp hq]; exact NoD.seq rfl) SU F9 ?_
  intro q hq
  refine N9 q ?_
  rcases List.mem_append.mp hq with hq | hq
  · rw [List.mem_singleton.mp hq]
    exact .tail _ (.tail _ (.tail _ (.head _)))
  · exact List.mem_append_right _ (List.mem_append_right _ hq)
end
section
variable {w : World} {p : PySem.Program} {loose : List PySem.Str} {mean : ExcName → Option Value} {mg mb : PySem.Str → Option Value}
example : True := by
  w_top off
  trivial
open TI
theorem nod_nil : ∀ q ∈ ([] : Led), NoD q := fun _ h => nomatch h
theorem nod_cons {x : Addr × Obj} {r : Led} (h : NoD x) (k : ∀ q ∈ r, NoD q) : ∀ q ∈ x :: r, NoD q := fun q hq => by
  cases hq with
  | head => exact h
  | tail _ hq => exact k q hq
local macro_rules | `(tactic| walk_at "NOD") => `(tactic| first | exact nod_nil | (refine nod_cons (NoD.seq rfl) ?_; walk_at "NOD"))
noncomputable abbrev tupOf (a b : Addr) : Obj := { cls := .type "tuple", data := .seq #[.ref a, .ref b] }
/-- a pair of text lists stands at T -/
inductive PairAt (h : Heap) (T : Addr) (xs ys : List PySem.Str) : Prop
  | mk (a b : Addr) (va vb : List Value) (na nb : Nat) :
    h.get? T = some (tupOf a b) →
    h.get? a = some (listOf va.toArray na) →
    h.get? b = some (listOf vb.toArray nb) →
    StrsAre va xs →
    StrsAre vb ys →
    PairAt h T xs ys
noncomputable abbrev flt (xs ys : List PySem.Str) : List PySem.Str := xs.filter fun x => decide (x ∉ ys)
theorem isList_of {h : Heap} {a : Addr} {va : List Value} {na : Nat} (e : h.get? a = some (listOf va.toArray na)) : h.IsList a va.toArray := ⟨_, e, rfl, _, rfl⟩
theorem noDict_of {h : Heap} {a : Addr} {va : List Value} {na : Nat} (e : h.get? a = some (listOf va.toArray na)) : h.NoDictAt (.ref a) := by
  exact ⟨_, e, rfl⟩
theorem made_at {T1 T2 : Addr} {x1 y1 x2 y2 : List PySem.Str} (hx1 : x1.length < 300) (hy1 : y1.length < 300) (hx2 : x2.length < 300) (hy2 : y2.length < 300) :
    XCtr w p loose mean mg mb 10 1200 129 [.ref T1, .ref T2] (fun h => PairAt h T1 x1 y1 ∧ PairAt h T2 x2 y2)
      (fun r add => PairAdd r add (inOrd (flt x1 y2) (flt x2 y1)) (inOrd (flt y1 x2) (flt y2 x1))) := by
  intro dp un gd cn cs a ccd cl outer h₀ L frs s Q E keep X T FS hfr hd hu hpre hret
  k_dflt (refine wpAny_call ?_; refine' code_x0 ?k2 ?k3 ?k4 ?kf ?k6 ?k7 ?k8 ?k9 ?kB ?_ ?c2 ?c3 ?c4 ?c5; (case k2 => assumption); (case k3 => k_asm); (case k4 => k_asm); (case kf => assumption); (case k6 => k_is); (case k7 => k_is); (case k8 => walk_at "RM"); (case k9 => exact BindsTo.of_eq rfl); (case kB => exact locs rfl); (case c2 => exact rfl); (case c3 => exact rfl); (case c4 => exact rfl); (case c5 => decide); k_whole)
  intro L1 g1 F1 N1 X1 TT1
  revert F1 N1 X1 TT1 hpre hret
  generalize gone s.heap (frs.map (·.1)) = hb
  intro hpre hret F1 N1 X1 TT1
  dsimp only
  k_unmd
  k_fold
  obtain ⟨⟨a1, b1, va1, vb1, na1, nb1, ht1, ha1, hb1, sa1, sb1⟩, ⟨a2, b2, va2, vb2, na2, nb2, ht2, ha2, hb2, sa2, sb2⟩⟩ := hpre
  have it1 : IsTup hb T1 #[.ref a1, .ref b1] := ⟨_, ht1, rfl, 0, rfl⟩
  have it2 : IsTup hb T2 #[.ref a2, .ref b2] := ⟨_, ht2, rfl, 0, rfl⟩
  walk_at "GO"
  refine use_x (new := []) (filter_at sa1 sb2 hx1 hy2) F1 X1 N1 TT1 FS (by walk_at "NOD") rfl (by walk_at "RM") (by walk_at "RM") ?_ ?_
  · intro g kg _
    exact ⟨⟨isList_of (kg _ _ ha1), noDict_of (kg _ _ ha1)⟩, ⟨isList_of (kg _ _ hb2), noDict_of (kg _ _ hb2)⟩⟩
  rintro _ _ h1 tk1 frs1 ⟨D1, v1, n1, rfl, rfl, s1⟩ SU1 FS1 F1 N1 A1
  replace s1 := Hold.mk s1
  simp only [List.cons_append, List.nil_append] at N1
  (try dsimp only)
  walk_at "GO"
  rename News hb L1 _ _ => Nx
  rename Fr hb L1 _ _ => Fx
  refine use_x (new := [(D1, _)]) (filter_at sa2 sb1 hx2 hy1) Fx X1 Nx TT1 FS1 (by walk_at "NOD") rfl (by walk_at "RM") (by walk_at "RM") ?_ ?_
  · intro g kg _
    exact ⟨⟨isList_of (kg _ _ ha2), noDict_of (kg _ _ ha2)⟩, ⟨isList_of (kg _ _ hb1), noDict_of (kg _ _ hb1)⟩⟩
  rintro _ _ h2 tk2 frs2 ⟨D2, v2, n2, rfl, rfl, s2⟩ SU2 FS2 F2 N2 A2
  replace s2 := Hold.mk s2
  simp only [List.cons_append, List.nil_append] at N2
  (try dsimp only)
  walk_at "GO"
  refine use_pctr (in_order_at s1.out s2.out (Nat.lt_of_le_of_lt (List.length_filter_le ..) hx1) (Nat.lt_of_le_of_lt (List.length_filter_le ..) hx2)) (by k_asm) X1 N2 TT1 ⟨isList_of (N2 _ (.tail _ (.head _))).1, isList_of (N2 _ (.head _)).1⟩ (by walk_at "RM") (by walk_at "RM") ?_
  rintro _ _ h3 tk3 ⟨D3, v3, n3, rfl, rfl, s3⟩ F3 N3 A3 _
  replace s3 := Hold.mk s3
  simp only [List.cons_append, List.nil_append] at N3
  (try dsimp only)
  walk_at "GO"
  rename News hb L1 _ _ => Nx
  rename Fr hb L1 _ _ => Fx
  refine use_x (new := [(D3, _), (D2, _), (D1, _)]) (filter_at sb1 sa2 hy1 hx2) Fx X1 Nx TT1 FS2 (by walk_at "NOD") rfl (by walk_at "RM") (by walk_at "RM") ?_ ?_
  · intro g kg _
    exact ⟨⟨isList_of (kg _ _ hb1), noDict_of (kg _ _ hb1)⟩, ⟨isList_of (kg _ _ ha2), noDict_of (kg _ _ ha2)⟩⟩
  rintro _ _ h4 tk4 frs4 ⟨D4, v4, n4, rfl, rfl, s4⟩ SU4 FS4 F4 N4 A4
  replace s4 := Hold.mk s4
  simp only [List.cons_append, List.nil_append] at N4
  (try dsimp only)
  walk_at "GO"
  rename News hb L1 _ _ => Nx
  rename Fr hb L1 _ _ => Fx
  refine use_x (new := [(D4, _), (D3, _), (D2, _), (D1, _)]) (filter_at sb2 sa1 hy2 hx1) Fx X1 Nx TT1 FS4 (by walk_at "NOD") rfl (by walk_at "RM") (by walk_at "RM") ?_ ?_
  · intro g kg _
    exact ⟨⟨isList_of (kg _ _ hb2), noDict_of (kg _ _ hb2)⟩, ⟨isList_of (kg _ _ ha1), noDict_of (kg _ _ ha1)⟩⟩
  rintro _ _ h5 tk5 frs5 ⟨D5, v5, n5, rfl, rfl, s5⟩ SU5 FS5 F5 N5 A5
  replace s5 := Hold.mk s5
  simp only [List.cons_append, List.nil_append] at N5
  (try dsimp only)
  walk_at "GO"
  refine use_pctr (in_order_at s4.out s5.out (Nat.lt_of_le_of_lt (List.length_filter_le ..) hy1) (Nat.lt_of_le_of_lt (List.length_filter_le ..) hy2)) (by k_asm) X1 N5 TT1 ⟨isList_of (N5 _ (.tail _ (.head _))).1, isList_of (N5 _ (.head _)).1⟩ (by walk_at "RM") (by walk_at "RM") ?_
  rintro _ _ h6 tk6 ⟨D6, v6, n6, rfl, rfl, s6⟩ F6 N6 A6 _
  replace s6 := Hold.mk s6
  simp only [List.cons_append, List.nil_append] at N6
  (try dsimp only)
  walk_at "GO"
  rename News hb L1 _ _ => Nz
  rename Fr hb L1 _ _ => Fz
  refine hret _ [(_, tupOf D3 D6), (D3, listOf v3.toArray n3), (D6, listOf v6.toArray n6)] _ _ L1 _ frs5 ⟨_, D3, D6, v3, v6, n3, n6, rfl, rfl, s3.out, s6.out⟩ (by walk_at "NOD") (((SU1.trans SU2).trans SU4).trans SU5) Fz ?_
  intro q hq
  refine Nz q ?_
  simp only [List.cons_append, List.nil_append, List.mem_cons] at hq ⊢
  rcases hq with h | h | h | h
  · exact .inl h
  · exact .inr (.inr (.inr (.inr (.inl h))))
  · exact .inr (.inl h)
  · exact .inr (.inr (.inr (.inr (.inr (.inr (.inr h))))))
end
section
variable {w : World} {p : PySem.Program} {loose : List PySem.Str} {mean : ExcName → Option Value} {mg mb : PySem.Str → Option Value}
example : True := by
  w_top off
  trivial
open TI
/-- a pair of text lists among the entries -/
inductive PairLed (new : Led) (T : Addr) (z : List PySem.Str × List PySem.Str) : Prop
  | mk (a b : Addr) (va vb : List Value) (na nb : Nat) :
    (T, tupOf a b) ∈ new →
    (a, listOf va.toArray na) ∈ new →
    (b, listOf vb.toArray nb) ∈ new →
    StrsAre va z.1 →
    StrsAre vb z.2 →
    PairLed new T z
theorem PairLed.at {new : Led} {T : Addr} {z : List PySem.Str × List PySem.Str} {g : Heap} (h : PairLed new T z) (k : ∀ q ∈ new, g.get? q.1 = some q.2) : PairAt g T z.1 z.2 := by
  obtain ⟨a, b, va, vb, na, nb, h1, h2, h3, h4, h5⟩ := h
  exact ⟨a, b, va, vb, na, nb, k _ h1, k _ h2, k _ h3, h4, h5⟩
theorem PairLed.mono {new new' : Led} {T : Addr} {z : List PySem.Str × List PySem.Str} (h : PairLed new T z) (k : ∀ q ∈ new, q ∈ new') : PairLed new' T z := by
  obtain ⟨a, b, va, vb, na, nb, h1, h2, h3, h4, h5⟩ := h
  exact ⟨a, b, va, vb, na, nb, k _ h1, k _ h2, k _ h3, h4, h5⟩
theorem PairAt.keeps {g g' : Heap} {T : Addr} {xs ys : List PySem.Str} (h : PairAt g T xs ys) (k : ∀ b o, g.get? b = some o → g'.get? b = some o) : PairAt g' T xs ys := by
  obtain ⟨a, b, va, vb, na, nb, h1, h2, h3, h4, h5⟩ := h
  exact ⟨a, b, va, vb, na, nb, k _ _ h1, k _ _ h2, k _ _ h3, h4, h5⟩
theorem PairAdd.led {r : Value} {add : Led} {xs ys : List PySem.Str} (h : PairAdd r add xs ys) : ∃ T, r = .ref T ∧ PairLed add T (xs, ys) ∧ ∀ q ∈ add, NoD q := by
  obtain ⟨D, D1, D2, v1, v2, n1, n2, rfl, rfl, s1, s2⟩ := h
  exact ⟨D, rfl, ⟨D1, D2, v1, v2, n1, n2, .head _, .tail _ (.head _), .tail _ (.tail _ (.head _)), s1, s2⟩, nod_cons (NoD.seq rfl) (nod_cons (NoD.seq rfl) (nod_cons (NoD.seq rfl) nod_nil))⟩
theorem pick_refs (ts : List Addr) (lo hi st : Option Int) : slicePick ((ts.map Value.ref).toArray) lo hi st = ((pickS ts lo hi st).map Value.ref).toArray := by
  apply Array.toList_inj.mp
  unfold pickS
  simp only [slicePick, List.size_toArray, List.length_map]
  simp [List.map_filterMap]
theorem pick_back (ts : List Addr) (h1 : 3 ≤ ts.length) (h2 : ts.length < 10) : pickS ts (some (-2)) none (some (-1)) = ts.dropLast.reverse := by
  rcases ts with _ | ⟨a1, _ | ⟨a2, _ | ⟨a3, _ | ⟨a4, _ | ⟨a5, _ | ⟨a6, _ | ⟨a7, _ | ⟨a8, _ | ⟨a9, _ | ⟨a10, ts⟩⟩⟩⟩⟩⟩⟩⟩⟩⟩
  · exact absurd h1 (by simp only [List.length_cons, List.length_nil]; omega)
  · exact absurd h1 (by simp only [List.length_cons, List.length_nil]; omega)
  · exact absurd h1 (by simp only [List.length_cons, List.length_nil]; omega)
  · show (sliceRange (sliceBounds (some (-2)) none (some (-1)) 3).1 (sliceBounds (some (-2)) none (some (-1)) 3).2.1 (sliceBounds (some (-2)) none (some (-1)) 3).2.2).filterMap _ = _
    rw [show sliceRange (sliceBounds (some (-2)) none (some (-1)) 3).1 (sliceBounds (some (-2)) none (some (-1)) 3).2.1 (sliceBounds (some (-2)) none (some (-1)) 3).2.2 = [1, 0] by decide +kernel]
    rfl
  · show (sliceRange (sliceBounds (some (-2)) none (some (-1)) 4).1 (sliceBounds (some (-2)) none (some (-1)) 4).2.1 (sliceBounds (some (-2)) none (some (-1)) 4).2.2).filterMap _ = _
    rw [show sliceRange (sliceBounds (some (-2)) none (some (-1)) 4).1 (sliceBounds (some (-2)) none (some (-1)) 4).2.1 (sliceBounds (some (-2)) none (some (-1)) 4).2.2 = [2, 1, 0] by decide +kernel]
    rfl
  · show (sliceRange (sliceBounds (some (-2)) none (some (-1)) 5).1 (sliceBounds (some (-2)) none (some (-1)) 5).2.1 (sliceBounds (some (-2)) none (some (-1)) 5).2.2).filterMap _ = _
    rw [show sliceRange (sliceBounds (some (-2)) none (some (-1)) 5).1 (sliceBounds (some (-2)) none (some (-1)) 5).2.1 (sliceBounds (some (-2)) none (some (-1)) 5).2.2 = [3, 2, 1, 0] by decide +kernel]
    rfl
  · show (sliceRange (sliceBounds (some (-2)) none (some (-1)) 6).1 (sliceBounds (some (-2)) none (some (-1)) 6).2.1 (sliceBounds (some (-2)) none (some (-1)) 6).2.2).filterMap _ = _
    rw [show sliceRange (sliceBounds (some (-2)) none (some (-1)) 6).1 (sliceBounds (some (-2)) none (some (-1)) 6).2.1 (sliceBounds (some (-2)) none (some (-1)) 6).2.2 = [4, 3, 2, 1, 0] by decide +kernel]
    rfl
  · show (sliceRange (sliceBounds (some (-2)) none (some (-1)) 7).1 (sliceBounds (some (-2)) none (some (-1)) 7).2.1 (sliceBounds (some (-2)) none (some (-1)) 7).2.2).filterMap _ = _
    rw [show sliceRange (sliceBounds (some (-2)) none (some (-1)) 7).1 (sliceBounds (some (-2)) none (some (-1)) 7).2.1 (sliceBounds (some (-2)) none (some (-1)) 7).2.2 = [5, 4, 3, 2, 1, 0] by decide +kernel]
    rfl
  · show (sliceRange (sliceBounds (some (-2)) none (some (-1)) 8).1 (sliceBounds (some (-2)) none (some (-1)) 8).2.1 (sliceBounds (some (-2)) none (some (-1)) 8).2.2).filterMap _ = _
    rw [show sliceRange (sliceBounds (some (-2)) none (some (-1)) 8).1 (sliceBounds (some (-2)) none (some (-1)) 8).2.1 (sliceBounds (some (-2)) none (some (-1)) 8).2.2 = [6, 5, 4, 3, 2, 1, 0] by decide +kernel]
    rfl
  · show (sliceRange (sliceBounds (some (-2)) none (some (-1)) 9).1 (sliceBounds (some (-2)) none (some (-1)) 9).2.1 (sliceBounds (some (-2)) none (some (-1)) 9).2.2).filterMap _ = _
    rw [show sliceRange (sliceBounds (some (-2)) none (some (-1)) 9).1 (sliceBounds (some (-2)) none (some (-1)) 9).2.1 (sliceBounds (some (-2)) none (some (-1)) 9).2.2 = [7, 6, 5, 4, 3, 2, 1, 0] by decide +kernel]
    rfl
  · exact absurd h2 (Nat.not_lt.mpr (Nat.le_add_left 10 ts.length))
theorem popN_length : ∀ (n : Nat) (xs : List PySem.Str), (popN n xs).length = n := by
  intro n
  induction n with
  | zero => intro xs; rfl
  | succ n ih => intro xs; exact congrArg Nat.succ (ih _)
theorem inOrd_length (xs ys : List PySem.Str) : (inOrd xs ys).length = xs.length + ys.length := popN_length _ _
noncomputable abbrev Pr2 := List PySem.Str × List PySem.Str
noncomputable def oneOf (a b : Pr2) : Pr2 := (inOrd (flt a.1 b.2) (flt b.1 a.2), inOrd (flt a.2 b.1) (flt b.2 a.1))
noncomputable def frontOf (ps : List Pr2) : Pr2 := (ps.drop 1).foldl oneOf (ps.getD 0 ([], []))
noncomputable def backOf (ps : List Pr2) : Pr2 := (ps.dropLast.reverse).foldl (fun b q => oneOf q b) (ps.getD (ps.length - 1) ([], []))
theorem oneOf_le {a b : Pr2} {i j : Nat} (ha : a.1.length ≤ i ∧ a.2.length ≤ i) (hb : b.1.length ≤ j ∧ b.2.length ≤ j) : (oneOf a b).1.length ≤ i + j ∧ (oneOf a b).2.length ≤ i + j := by
  unfold oneOf
  have h1 := List.length_filter_le (fun x => decide (x ∉ b.2)) a.1
  have h2 := List.length_filter_le (fun x => decide (x ∉ a.2)) b.1
  have h3 := List.length_filter_le (fun x => decide (x ∉ b.1)) a.2
  have h4 := List.length_filter_le (fun x => decide (x ∉ a.1)) b.2
  rw [inOrd_length, inOrd_length]
  exact ⟨Nat.add_le_add (Nat.le_trans h1 ha.1) (Nat.le_trans h2 hb.1), Nat.add_le_add (Nat.le_trans h3 ha.2) (Nat.le_trans h4 hb.2)⟩
noncomputable abbrev refs (ts : List Addr) : List Value := ts.map .ref
theorem refs_at {ts : List Addr} {k : Nat} (h : k < ts.length) : (refs ts)[k]? = some (.ref ts[k]) := by
  unfold refs
  rw [List.getElem?_map, List.getElem?_eq_getElem h]
  rfl
theorem foldl_take {β : Type} (f : Pr2 → β → Pr2) (z : Pr2) (xs : List β) (i : Nat) (h : i < xs.length) : (xs.take (i + 1)).foldl f z = f ((xs.take i).foldl f z) xs[i] := by
  rw [List.take_succ, List.foldl_append, List.getElem?_eq_getElem h]
  rfl
theorem getD_mem0 {ps : List Pr2} {i : Nat} (h : i < ps.length) : ps.getD i ([], []) ∈ ps := by
  rw [List.getD_eq_getElem?_getD, List.getElem?_eq_getElem h]
  exact List.getElem_mem h
/-- what stands after i turns -/
structure TurnAt (ps : List Pr2) (ts : List Addr) (t0 : Addr) (z : Pr2) (nw : Led) (T : Addr) (i : Nat) : Prop where
  here : (i = 0 ∧ T = t0) ∨ PairLed nw T z
  nod : ∀ q ∈ nw, NoD q
  le : z.1.length ≤ 6 * (i + 1) ∧ z.2.length ≤ 6 * (i + 1)
theorem both_at {P : Addr} {n : Nat} {ts : List Addr} {ps : List Pr2} (hlen : ts.length = ps.length) (hl3 : 3 ≤ ts.length) (hl : ts.length < 10) (hsix : ∀ q ∈ ps, q.1.length ≤ 6 ∧ q.2.length ≤ 6) :
    XCtr w p loose mean mg mb 20 2000 136 [.ref P] (fun h => h.get? P = some (listOf (refs ts).toArray n) ∧ ∀ k (h1 : k < ts.length) (h2 : k < ps.length), PairAt h ts[k] ps[k].1 ps[k].2)
      (fun r add => ∃ D Tf Tb n, r = .ref D ∧ (D, listOf [Value.ref Tf, Value.ref Tb].toArray n) ∈ add ∧ PairLed add Tf (frontOf ps) ∧ PairLed add Tb (backOf ps)) := by
  intro dp un gd cn cs a ccd cl outer h₀ L frs s Q E keep X T FS hfr hd hu hpre hret
  have ht0 : 0 < ts.length := Nat.lt_of_lt_of_le (by decide) hl3
  have hp0 : 0 < ps.length := Nat.lt_of_lt_of_le ht0 (Nat.le_of_eq hlen)
  have htl : ts.length - 1 < ts.length := Nat.sub_lt ht0 Nat.one_pos
  have hpt : ts.length - 1 < ps.length := Nat.lt_of_lt_of_le htl (Nat.le_of_eq hlen)
  have hpl : ps.length - 1 < ps.length := Nat.sub_lt hp0 Nat.one_pos
  k_dflt (refine wpAny_call ?_; refine' code_x0 ?k2 ?k3 ?k4 ?kf ?k6 ?k7 ?k8 ?k9 ?kB ?_ ?c2 ?c3 ?c4 ?c5; (case k2 => assumption); (case k3 => k_asm); (case k4 => k_asm); (case kf => assumption); (case k6 => k_is); (case k7 => k_is); (case k8 => walk_at "RM"); (case k9 => exact BindsTo.of_eq rfl); (case kB => exact locs rfl); (case c2 => exact rfl); (case c3 => exact rfl); (case c4 => exact rfl); (case c5 => decide); k_whole)
  intro L1 g1 F1 N1 X1 TT1
  revert F1 N1 X1 TT1 hpre hret
  generalize gone s.heap (frs.map (·.1)) = hb
  intro ⟨hP, hpairs⟩ hret F1 N1 X1 TT1
  have hlP : hb.IsList P (refs ts).toArray := isList_of hP
  have hnP := noDict_of hP
  dsimp only
  k_unmd
  k_fold
  walk_at "GO"
  refine item_listL (l := refs ts) (isList_of (Fr.keep (by k_asm) _ _ hP)) (by decide) (by decide) (refs_at (k := 0) ht0) ?_ (by with_unfolding_all rfl) (by intro _; with_unfolding_all rfl)
  (try dsimp only)
  generalize hT0 : ts[0] = T0
  walk_at "GO"
  refine kde_neg (vs := refs ts) (j := ts.length - 1) (isList_of (Fr.keep (by k_asm) _ _ hP)) (by decide) (by decide) ?_ (refs_at htl) ?_ (by with_unfolding_all rfl)
  · rw [show (refs ts).length = ts.length from List.length_map ..]
    rw [seqIndex_neg (by decide) (neg_le ht0)]
    congr 1
    exact neg_one_nat _
  (try dsimp only)
  generalize hTn : ts[ts.length - 1] = Tn
  walk_at "GO"
  rename_i D5 h5 N5 tk6 h6 F6 N6
  dsimp only at N6 F6
  change wpAny _ _ (pyIter (Value.ref (h5.objs.size + 1))) _ _ _
  generalize h5.objs.size + 1 = S1 at N6 ⊢
  have e1 : slicePick (refs ts).toArray (some 1) none none = (refs (ts.drop 1)).toArray := by
    rw [pick_refs, pickS_fromI _ (by decide)]; rfl
  rw [e1] at N6
  have hd1 : Hold ((refs (ts.drop 1)).length = ts.length - 1) := ⟨by rw [List.length_map, List.length_drop]⟩
  have fold1 : ∀ i, i < ts.length - 1 → ∀ z T nw, TurnAt ps ts T0 z nw T i → True := fun _ _ _ _ _ _ => trivial
  refine l_list (σ := Addr × Led × Led) (l := S1) (vs := refs (ts.drop 1)) (nn := 0) (fun c => (S1, listOf (refs (ts.drop 1)).toArray 0) :: (c.2.1 ++ c.2.2)) (fun c => [(Str.ofString "patches", .ref P), (Str.ofString "front", .ref c.1), (Str.ofString "back", .ref Tn)])
    (fun i c => Hold (TurnAt ps ts T0 (((ps.drop 1).take i).foldl oneOf (ps.getD 0 ([], []))) c.2.1 c.1 i ∧ SameUp frs c.2.2 ∧ Frs (envX cn cs L a ccd cl :: outer) c.2.2))
    (T0, [], frs) rfl (fun c => .head _) (by k_asm) N6 ?_ (by kst_all) ⟨⟨.inl ⟨rfl, rfl⟩, nod_nil, ?_⟩, SameUp.refl _, FS⟩ ?_ ?_
  · intro q hq
    rcases List.mem_cons.mp hq with rfl | hq
    · exact .head _
    · exact .tail _ (.tail _ hq)
  · have z := hsix (ps.getD 0 ([], [])) (getD_mem0 hp0)
    exact ⟨Nat.le_trans z.1 (by omega), Nat.le_trans z.2 (by omega)⟩
  · intro i
    refine all3 fun Tc nw fr => ?_
    intro v u h tk own hv hI hoff F N
    obtain ⟨hT, SU, FSc⟩ := hI.out
    dsimp only at hT SU FSc F N hoff ⊢
    (try k_unmd)
    (try k_fold)
    have hi : i < ts.length - 1 := by
      rw [← hd1.out]
      exact (List.getElem?_eq_some_iff.mp hv).1
    have hi9 : i < 10 := Nat.lt_of_lt_of_le hi (Nat.le_trans (Nat.sub_le _ _) (Nat.le_of_lt hl))
    have hi1 : i + 1 < ts.length := Nat.add_lt_of_lt_sub hi
    have hi2 : i + 1 < ps.length := Nat.lt_of_lt_of_le hi1 (Nat.le_of_eq hlen)
    obtain rfl : v = .ref ts[i + 1] := by
      have z := (List.getElem?_eq_some_iff.mp hv).2
      rw [← z]
      simp only [List.getElem_map, List.getElem_drop]
      congr 2
      omega
    have hz : ((ps.drop 1).take (i + 1)).foldl oneOf (ps.getD 0 ([], [])) = oneOf (((ps.drop 1).take i).foldl oneOf (ps.getD 0 ([], []))) ps[i + 1] := by
      rw [foldl_take _ _ _ _ (by rw [List.length_drop, ← hlen]; exact hi)]
      congr 1
      rw [List.getElem_drop]
      congr 1
      omega
    have hz0 : i = 0 → ((ps.drop 1).take i).foldl oneOf (ps.getD 0 ([], [])) = ps[0] := by
      rintro rfl
      rw [List.take_zero, List.foldl_nil, List.getD_eq_getElem?_getD, List.getElem?_eq_getElem hp0]
      rfl
    generalize ((ps.drop 1).take i).foldl oneOf (ps.getD 0 ([], [])) = zz at hT hz hz0
    have h6i := hsix ps[i + 1] (List.getElem_mem hi2)
    have hle := hT.le
    have Nr : News hb L1 h (((S1, listOf (refs (ts.drop 1)).toArray 0) :: (nw ++ own)) ++ fr) := fun q hq => N q (mem_shuf hq)
    have hof : ∀ q ∈ (S1, listOf (refs (ts.drop 1)).toArray 0) :: (nw ++ own), ∀ x ∈ fr, q.1 ≠ x.1 := fun q hq x hx => by
      rcases List.mem_cons.mp hq with rfl | hq'
      · exact off_of Nr (.head _) (List.mem_append_right _ hx) (NoD.seq rfl) (FSc.dict x hx)
      rcases List.mem_append.mp hq' with hq' | hq'
      · exact off_of Nr (List.mem_append_left _ hq) (List.mem_append_right _ hx) (hT.nod q hq') (FSc.dict x hx)
      · exact hoff q hq' x.1 (List.mem_map.mpr ⟨x, .tail _ (List.mem_append_right _ hx), rfl⟩)
    (try k_unmd)
    (try k_fold)
    walk_at "GO"
    refine use_x2 (new := (S1, listOf (refs (ts.drop 1)).toArray 0) :: (nw ++ own)) (made_at (T1 := Tc) (T2 := ts[i + 1]) (x1 := zz.1) (y1 := zz.2) (x2 := ps[i + 1].1) (y2 := ps[i + 1].2) (lt300 hle.1 hi9) (lt300 hle.2 hi9) (lt300' h6i.1) (lt300' h6i.2)) F X1 Nr TT1 FSc hof rfl (by walk_at "RM") (by walk_at "RM") ?_ ?_
    · intro g kg kn
      refine ⟨?_, (hpairs (i + 1) hi1 hi2).keeps kg⟩
      rcases hT.here with ⟨he, hTe⟩ | hl
      · rw [hz0 he, hTe, ← hT0]
        exact (hpairs 0 ht0 hp0).keeps kg
      · exact hl.at fun q hq => kn q (.tail _ (List.mem_append_left _ hq))
    rintro r add h9 tk9 fr9 hp SU9 FS9 F9 N9 AP
    obtain ⟨T9, rfl, hl9, hnd9⟩ := hp.led
    (try dsimp only)
    walk_at "GO"
    rename News hb L1 _ _ => Nz
    rename Fr hb L1 _ _ => Fz
    refine l_end (T9, add ++ nw, fr9) Fz Nz ?_ ?_ ?_ (by kst_all) ⟨⟨.inr ?_, ?_, ?_⟩, SU.trans SU9, FS9⟩
    · intro q hq
      simp only [List.mem_append, List.mem_cons] at hq ⊢
      rcases hq with h | (h | h) | h <;> simp [h]
    · intro q hq
      simp only [List.mem_append, List.mem_cons]
      simp [hq]
    · intro q hq b hb' e
      have hq' : q ∈ (S1, listOf (refs (ts.drop 1)).toArray 0) :: (nw ++ own) := .tail _ (List.mem_append_right _ hq)
      simp only [List.map_cons, List.map_append, List.mem_cons, List.mem_append, List.mem_map] at hb'
      rcases hb' with h | (⟨x, hx, h⟩ | ⟨x, hx, h⟩) | ⟨x, hx, h⟩
      · exact hoff q hq S1 (.head _) (e.trans h)
      · exact AP x hx q (List.mem_append_left _ hq') (e.trans h.symm)
      · exact hoff q hq x.1 (List.mem_map.mpr ⟨x, .tail _ (List.mem_append_left _ hx), rfl⟩) (e.trans h.symm)
      · obtain ⟨x', hx', h'⟩ := SU9.fwd x hx
        exact hoff q hq x'.1 (List.mem_map.mpr ⟨x', .tail _ (List.mem_append_right _ hx'), rfl⟩) ((e.trans h.symm).trans h')
    · rw [hz]
      exact hl9.mono fun q hq => List.mem_append_left _ hq
    · intro q hq
      rcases List.mem_append.mp hq with hq | hq
      · exact hnd9 q hq
      · exact hT.nod q hq
    · rw [hz]
      exact oneOf_le hle h6i
  · refine all3 fun Tc nw fr => ?_
    intro u h tk hI F N
    obtain ⟨hT, SU, FSc⟩ := hI.out
    dsimp only at hT SU FSc F N ⊢
    have hfront : PairLed nw Tc (frontOf ps) := by
      rcases hT.here with ⟨he, _⟩ | hl
      · rw [hd1.out] at he; omega
      · unfold frontOf
        rw [List.take_of_length_le (by rw [hd1.out, List.length_drop, hlen]; exact Nat.le_refl _)] at hl
        exact hl
    have hnod := hT.nod
    clear hT
    (try k_unmd)
    (try k_fold)
    walk_at "GO"
    rename_i tk7 h7 F7 N7
    dsimp only at N7 F7
    change wpAny _ _ (pyIter (Value.ref (h.objs.size + 1))) _ _ _
    generalize h.objs.size + 1 = S2 at N7 ⊢
    have e2 : slicePick (refs ts).toArray (some (-2)) none (some (-1)) = (refs ts.dropLast.reverse).toArray := by
      rw [pick_refs, pick_back ts hl3 hl]
    rw [e2] at N7
    have hd2 : Hold ((refs ts.dropLast.reverse).length = ts.length - 1) := ⟨by rw [List.length_map, List.length_reverse, List.length_dropLast]⟩
    refine l_list (σ := Addr × Led × Led) (l := S2) (vs := refs ts.dropLast.reverse) (nn := 0) (fun c => (S2, listOf (refs ts.dropLast.reverse).toArray 0) :: (c.2.1 ++ c.2.2)) (fun c => [(Str.ofString "patches", .ref P), (Str.ofString "front", .ref Tc), (Str.ofString "back", .ref c.1)])
      (fun i c => Hold (TurnAt ps ts Tn (((ps.dropLast.reverse).take i).foldl (fun b q => oneOf q b) (ps.getD (ps.length - 1) ([], []))) c.2.1 c.1 i ∧ SameUp frs c.2.2 ∧ Frs (envX cn cs L a ccd cl :: outer) c.2.2 ∧ PairLed c.2.1 Tc (frontOf ps)))
      (Tn, nw, fr) rfl (fun c => .head _) (by k_asm) N7 ?_ (by kst_all) ⟨⟨.inl ⟨rfl, rfl⟩, hnod, ?_⟩, SU, FSc, hfront⟩ ?_ ?_
    · intro q hq
      rcases List.mem_cons.mp hq with rfl | hq
      · exact .head _
      · exact .tail _ (.tail _ hq)
    · have z := hsix (ps.getD (ps.length - 1) ([], [])) (getD_mem0 hpl)
      exact ⟨Nat.le_trans z.1 (by omega), Nat.le_trans z.2 (by omega)⟩
    · intro i
      refine all3 fun Tb nw2 fr2 => ?_
      intro v u2 h2 tk2 own hv hI hoff F N
      obtain ⟨hT, SU2, FSc2, hfr2⟩ := hI.out
      dsimp only at hT SU2 FSc2 hfr2 F N hoff ⊢
      (try k_unmd)
      (try k_fold)
      have hi : i < ts.length - 1 := by
        rw [← hd2.out]
        exact (List.getElem?_eq_some_iff.mp hv).1
      have hi9 : i < 10 := Nat.lt_of_lt_of_le hi (Nat.le_trans (Nat.sub_le _ _) (Nat.le_of_lt hl))
      have hi1 : ts.length - 2 - i < ts.length := Nat.lt_of_le_of_lt (Nat.sub_le _ _) (Nat.sub_lt (Nat.lt_of_lt_of_le (by decide) hl3) (by decide))
      have hi2 : ts.length - 2 - i < ps.length := Nat.lt_of_lt_of_le hi1 (Nat.le_of_eq hlen)
      obtain rfl : v = .ref ts[ts.length - 2 - i] := by
        have z := (List.getElem?_eq_some_iff.mp hv).2
        rw [← z]
        simp only [List.getElem_map, List.getElem_reverse, List.getElem_dropLast, List.length_dropLast]
        congr 2
        try omega
      have hz : ((ps.dropLast.reverse).take (i + 1)).foldl (fun b q => oneOf q b) (ps.getD (ps.length - 1) ([], [])) = oneOf ps[ts.length - 2 - i] (((ps.dropLast.reverse).take i).foldl (fun b q => oneOf q b) (ps.getD (ps.length - 1) ([], []))) := by
        rw [foldl_take _ _ _ _ (by rw [List.length_reverse, List.length_dropLast, ← hlen]; exact hi)]
        congr 1
        rw [List.getElem_reverse, List.getElem_dropLast]
        congr 1
        rw [List.length_dropLast, hlen]
        rfl
      have hz0 : i = 0 → ((ps.dropLast.reverse).take i).foldl (fun b q => oneOf q b) (ps.getD (ps.length - 1) ([], [])) = ps[ts.length - 1] := by
        rintro rfl
        rw [List.take_zero, List.foldl_nil, List.getD_eq_getElem?_getD, List.getElem?_eq_getElem hpl]
        show ps[ps.length - 1] = _
        congr 1
        rw [hlen]
      generalize ((ps.dropLast.reverse).take i).foldl (fun b q => oneOf q b) (ps.getD (ps.length - 1) ([], [])) = zz at hT hz hz0
      have h6i := hsix ps[ts.length - 2 - i] (List.getElem_mem hi2)
      have hle := hT.le
      have Nr : News hb L1 h2 (((S2, listOf (refs ts.dropLast.reverse).toArray 0) :: (nw2 ++ own)) ++ fr2) := fun q hq => N q (mem_shuf hq)
      have hof : ∀ q ∈ (S2, listOf (refs ts.dropLast.reverse).toArray 0) :: (nw2 ++ own), ∀ x ∈ fr2, q.1 ≠ x.1 := fun q hq x hx => by
        rcases List.mem_cons.mp hq with rfl | hq'
        · exact off_of Nr (.head _) (List.mem_append_right _ hx) (NoD.seq rfl) (FSc2.dict x hx)
        rcases List.mem_append.mp hq' with hq' | hq'
        · exact off_of Nr (List.mem_append_left _ hq) (List.mem_append_right _ hx) (hT.nod q hq') (FSc2.dict x hx)
        · exact hoff q hq' x.1 (List.mem_map.mpr ⟨x, .tail _ (List.mem_append_right _ hx), rfl⟩)
      (try k_unmd)
      (try k_fold)
      walk_at "GO"
      refine use_x2 (new := (S2, listOf (refs ts.dropLast.reverse).toArray 0) :: (nw2 ++ own)) (made_at (T1 := ts[ts.length - 2 - i]) (T2 := Tb) (x1 := ps[ts.length - 2 - i].1) (y1 := ps[ts.length - 2 - i].2) (x2 := zz.1) (y2 := zz.2) (lt300' h6i.1) (lt300' h6i.2) (lt300 hle.1 hi9) (lt300 hle.2 hi9)) F X1 Nr TT1 FSc2 hof rfl (by walk_at "RM") (by walk_at "RM") ?_ ?_
      · intro g kg kn
        refine ⟨(hpairs _ hi1 hi2).keeps kg, ?_⟩
        rcases hT.here with ⟨he, hTe⟩ | hl
        · rw [hz0 he, hTe, ← hTn]
          exact (hpairs _ htl hpt).keeps kg
        · exact hl.at fun q hq => kn q (.tail _ (List.mem_append_left _ hq))
      rintro r add h9 tk9 fr9 hp SU9 FS9 F9 N9 AP
      obtain ⟨T9, rfl, hl9, hnd9⟩ := hp.led
      (try dsimp only)
      walk_at "GO"
      rename News hb L1 _ _ => Nz
      rename Fr hb L1 _ _ => Fz
      refine l_end (T9, add ++ nw2, fr9) Fz Nz ?_ ?_ ?_ (by kst_all) ⟨⟨.inr ?_, ?_, ?_⟩, SU2.trans SU9, FS9, hfr2.mono fun q hq => List.mem_append_right _ hq⟩
      · intro q hq
        simp only [List.mem_append, List.mem_cons] at hq ⊢
        rcases hq with h | (h | h) | h <;> simp [h]
      · intro q hq
        simp only [List.mem_append, List.mem_cons]
        simp [hq]
      · intro q hq b hb' e
        have hq' : q ∈ (S2, listOf (refs ts.dropLast.reverse).toArray 0) :: (nw2 ++ own) := .tail _ (List.mem_append_right _ hq)
        simp only [List.map_cons, List.map_append, List.mem_cons, List.mem_append, List.mem_map] at hb'
        rcases hb' with h | (⟨x, hx, h⟩ | ⟨x, hx, h⟩) | ⟨x, hx, h⟩
        · exact hoff q hq S2 (.head _) (e.trans h)
        · exact AP x hx q (List.mem_append_left _ hq') (e.trans h.symm)
        · exact hoff q hq x.1 (List.mem_map.mpr ⟨x, .tail _ (List.mem_append_left _ hx), rfl⟩) (e.trans h.symm)
        · obtain ⟨x', hx', h'⟩ := SU9.fwd x hx
          exact hoff q hq x'.1 (List.mem_map.mpr ⟨x', .tail _ (List.mem_append_right _ hx'), rfl⟩) ((e.trans h.symm).trans h')
      · rw [hz]
        exact hl9.mono fun q hq => List.mem_append_left _ hq
      · intro q hq
        rcases List.mem_append.mp hq with hq | hq
        · exact hnd9 q hq
        · exact hT.nod q hq
      · rw [hz]
        have zl := oneOf_le h6i hle
        exact ⟨Nat.le_trans zl.1 (by omega), Nat.le_trans zl.2 (by omega)⟩
    · refine all3 fun Tb nw2 fr2 => ?_
      intro u2 h2 tk2 hI F N
      obtain ⟨hT, SU2, FSc2, hfr2⟩ := hI.out
      dsimp only at hT SU2 FSc2 hfr2 F N ⊢
      have hback : PairLed nw2 Tb (backOf ps) := by
        rcases hT.here with ⟨he, _⟩ | hl
        · rw [hd2.out] at he; omega
        · unfold backOf
          rw [List.take_of_length_le (by rw [hd2.out, List.length_reverse, List.length_dropLast, hlen]; exact Nat.le_refl _)] at hl
          exact hl
      have hnod2 := hT.nod
      clear hT
      (try k_unmd)
      (try k_fold)
      walk_at "GO"
      rename News hb L1 _ _ => Nz
      rename Fr hb L1 _ _ => Fz
      refine hret _ ((_, listOf [Value.ref Tc, Value.ref Tb].toArray 0) :: nw2) _ _ L1 _ fr2 ⟨_, Tc, Tb, 0, rfl, .head _, hfr2.mono fun q hq => .tail _ hq, hback.mono fun q hq => .tail _ hq⟩ (nod_cons (NoD.seq rfl) hnod2) SU2 Fz ?_
      intro q hq
      refine Nz q ?_
      rcases List.mem_cons.mp hq with rfl | hq
      · exact .head _
      · exact .tail _ (.tail _ hq)
end
section
variable {w : World} {p : PySem.Program} {loose : List PySem.Str} {mean : ExcName → Option Value} {mg mb : PySem.Str → Option Value}
example : True := by
  w_top off
  trivial
open TI TT
/-- unorderable_list_difference, called from the law's own frame -/
theorem use_m0 {dpN unN : Nat} {f : Addr} {xs ys : List PySem.Str} {l1 l2 : Addr} {vs1 vs2 : List Value} {n1 n2 : Nat} {new : Led} {dp un : Nat} {gd : Option (List Code)} {cn : PySem.Str} {cs : Scope} {a : Addr} {ccd : Value} {cl : List (PySem.Str × Addr)} {hb : Heap} {L : Addr} {m : PySem.Str → Option Value} {s : Shared} {Q E : Value → Shared → Prop}
    (C : MCtr w p loose mean mg mb dpN unN f xs ys) (F : Fr hb L s.heap m) (X : (hd.heap_39 w.params).In hb) (N : News hb L s.heap ((l1, listOf vs1.toArray n1) :: (l2, listOf vs2.toArray n2) :: new)) (T : Top p loose mean mg mb hb)
    (h1 : StrsAre vs1 xs) (h2 : StrsAre vs2 ys) (h12 : l1 ≠ l2) (hn : ∀ q ∈ new, q.1 ≠ l1 ∧ q.1 ≠ l2)
    (hck : cs.kind = .function) (hd : dp + dpN < recursionLimit) (hu : un + unN < cLine)
    (ret : ∀ D add h' tk', PairLed add D (uAll xs ([], ys)) → Fr hb L h' m → News hb L h' (add ++ new) → Apart add new → Q (.ref D) { s with heap := h', toks := tk' }) :
    wpAny (model PySem.Challenge.pw_kt0010_01 w) (ktrTop dp un gd cn cs L a ccd cl []) (call (.ref f) [.ref l1, .ref l2]) Q E s := by
  obtain ⟨oL, es, ep, hL, hLd, hLr⟩ := id F.ns
  have FS' : Frs (envX cn cs L a ccd cl :: []) [(L, oL)] := ⟨by show cs.kind ≠ .module; rw [hck]; decide, rfl, ⟨es, ep, hLd⟩, trivial⟩
  have hbL : hb.get? L = none := Heap.get?_none_of_le F.above
  refine C dp un gd cn cs a ccd cl [] hb L [(L, oL)] s Q E l1 l2 vs1 vs2 n1 n2 F.keep X T FS' ?_ h1 h2 h12 hd hu ?_
  · intro q hq
    simp only [List.mem_cons, List.not_mem_nil, or_false] at hq
    rcases hq with rfl | rfl | rfl
    · exact ⟨(N _ (.head _)).1, (N _ (.head _)).2.2⟩
    · exact ⟨(N _ (.tail _ (.head _))).1, (N _ (.tail _ (.head _))).2.2⟩
    · exact ⟨hL, hbL⟩
  · intro D M vm nm vs1' n1' vs2' n2' h' tk' L' m' frs1 s1 s2 SU F' N'
    cases frs1 with
    | nil => exact False.elim SU
    | cons q0 frs' =>
      cases frs' with
      | cons _ _ => exact False.elim SU.2.2
      | nil =>
        obtain ⟨_, F2, N2, A2⟩ := x_backL (chg := [(l1, listOf vs1.toArray n1), (l2, listOf vs2.toArray n2)]) (new := new) (frs := []) (add := [(D, { cls := .type "tuple", data := .seq #[.ref M, .ref l2] }), (M, listOf vm.toArray nm), (l1, listOf vs1'.toArray n1'), (l2, listOf vs2'.toArray n2')]) F (by rw [List.append_nil]; exact N) hL FS'.dict
          (fun q hq c hc => by
            simp only [List.mem_cons, List.not_mem_nil, or_false] at hc
            rcases hc with rfl | rfl
            · exact (hn q hq).1
            · exact (hn q hq).2) (fun _ _ _ h => nomatch h) SU F' N' (fun q hq => by
            simp only [List.mem_cons, List.not_mem_nil, or_false] at hq
            rcases hq with rfl | rfl | rfl | rfl <;> exact NoD.seq rfl)
        rw [List.append_nil] at N2
        exact ret D _ h' tk' ⟨M, l2, vm, vs2', nm, n2', .head _, .tail _ (.head _), .tail _ (.tail _ (.tail _ (.head _))), s1, s2⟩ F2 N2 A2
end
section
variable {w : World} {p : PySem.Program} {loose : List PySem.Str} {mean : ExcName → Option Value} {mg mb : PySem.Str → Option Value}
example : True := by
  w_top off
  trivial
open TI
noncomputable abbrev twoL (elt t1 i1 t2 i2 : PySem.Expr) (scope : Scope) (pos : Pos) : PySem.Expr := .ListComp elt [⟨t1, i1, [], 0⟩, ⟨t2, i2, [], 0⟩] scope pos
theorem turn_two0 (elt t1 i1 t2 i2 : PySem.Expr) (scope : Scope) (pos : Pos) (it acc : Value) (env : Env) :
    compTurn (twoL elt t1 i1 t2 i2 scope pos) 0 it acc env = (standAt i1.pos >>= fun _ => pyNext it >>= fun r => match r with
      | none => pure (.done .next)
      | some v => letOwnedTupleGo t1 it v >>= fun _ => assign t1 env v >>= fun _ => eval i2 env >>= fun x => standAt i2.pos >>= fun _ => foldedSetIterable i2 env x >>= fun x => holding [x] (pyIter x) >>= fun it2 =>
        runOwn (.compStart (twoL elt t1 i1 t2 i2 scope pos) 1 it2 acc env) env >>= fun _ => again (.compLoop (twoL elt t1 i1 t2 i2 scope pos) 0 it acc env)) := by rfl
theorem turn_two1 (elt t1 i1 t2 i2 : PySem.Expr) (scope : Scope) (pos : Pos) (it acc : Value) (env : Env) :
    compTurn (twoL elt t1 i1 t2 i2 scope pos) 1 it acc env = (standAt i2.pos >>= fun _ => pyNext it >>= fun r => match r with
      | none => pure (.done .next)
      | some v => letOwnedTupleGo t2 it v >>= fun _ => assign t2 env v >>= fun _ =>
        (eval elt env >>= fun x => call (.builtin "list.append") [acc, x] >>= fun _ => pure ()) >>= fun _ =>
          again (.compLoop (twoL elt t1 i1 t2 i2 scope pos) 1 it acc env)) := by rfl
section
variable {prog : Program} {A : Around} {R : Result → Shared → Prop} {s : Shared} {elt t1 i1 t2 i2 : PySem.Expr} {scope : Scope} {pos : Pos} {it acc : Value} {env : Env}
theorem two_loop1 (I : Nat → Shared → Prop)
    (turn : ∀ n s, I n s → wpAny (model prog w) A (pyNext it) (fun r s₁ => match r with
      | none => R (.ok .next) s₁
      | some v => wpAny (model prog w) A (assign t2 env v) (fun _ s₂ => wpAny (model prog w) A (eval elt env) (fun x s₃ =>
          wpAny (model prog w) A (call (.builtin "list.append") [acc, x]) (fun _ s₄ => ∃ m, m < n ∧ I m s₄) (notedBy (model prog w) A env fun e s' => R (.error e) s') s₃)
          (notedBy (model prog w) A env fun e s' => R (.error e) s') s₂) (notedBy (model prog w) A env fun e s' => R (.error e) s') s₁) (notedBy (model prog w) A env fun e s' => R (.error e) s') s)
    (n : Nat) (h : I n s) (ht : ∀ v, letOwnedTupleGo t2 it v = pure () := by intro _; rfl) :
    codeAny (model prog w) A (.compLoop (twoL elt t1 i1 t2 i2 scope pos) 1 it acc env) R s := by
  refine codeAny_loop rfl I (fun n s hI => ?_) n h
  show wpAny _ A ((compTurn (twoL elt t1 i1 t2 i2 scope pos) 1 it acc env).onRaise (fun x => do noteFrame x env; theTreesLotGoes x)) _ _ s
  refine wpAny_noted ?_
  rw [turn_two1]
  refine wpAny_bind (wpAny_standAt (wpAny_bind (wpAny_mono (turn n s hI) (fun r s₁ h₁ => ?_) fun _ _ h' => h')))
  cases r with
  | none => exact wpAny_pure h₁
  | some v =>
    refine wpAny_bind (wpAny_of_eq (ht v) ?_)
    exact wpAny_bind (wpAny_mono h₁ (fun _ s₂ h₂ => wpAny_bind (wpAny_bind (wpAny_mono h₂ (fun x s₃ h₃ => wpAny_bind (wpAny_mono h₃
      (fun _ s₄ h₄ => wpAny_pure (wpAny_pure ⟨rfl, h₄⟩)) fun _ _ h' => h')) fun _ _ h' => h'))) fun _ _ h' => h')
theorem two_start1 (h0 : codeAny (model prog w) A (.compLoop (twoL elt t1 i1 t2 i2 scope pos) 1 it acc env) R s)
    (h : wpAny (model prog w) A (pyIter it) (fun it' s' => codeAny (model prog w) A (.compLoop (twoL elt t1 i1 t2 i2 scope pos) 1 it' acc env) R s')
      (notedBy (model prog w) A env fun x s' => R (.error x) s') s) :
    codeAny (model prog w) A (.compStart (twoL elt t1 i1 t2 i2 scope pos) 1 it acc env) R s := by
  refine codeAny_of_tree ?_
  show wpAny _ _ ((compStart (twoL elt t1 i1 t2 i2 scope pos) 1 it acc env).onRaise (fun x => do noteFrame x env; standAt theWindowsPlace)) _ _ s
  refine wpAny_notedAt ?_
  unfold compStart
  show wpAny _ _ (ask >>= _) _ _ s
  refine wpAny_bind (wpAny_askSetting (wpAny_ite ?_))
  split
  · first
      | exact wpAny_bind (wpAny_pure (wpAny_pure (And.intro rfl h0)))
      | exact wpAny_pure (And.intro rfl h0)
  · first
      | exact wpAny_bind (wpAny_rule (wpAny_bind (wpAny_standAt (wpAny_bind (wpAny_mono h (fun it' s' h' => wpAny_pure (And.intro rfl h')) fun _ _ x => x)))))
      | (refine wpAny_bind (wpAny_rule ?_); show wpAny _ _ (standAt i2.pos >>= _) _ _ s; exact wpAny_bind (wpAny_standAt (wpAny_bind (wpAny_mono h (fun it' s' h' => wpAny_pure (And.intro rfl h')) fun _ _ x => x))))
theorem two_loop0 (I : Nat → Shared → Prop)
    (turn : ∀ n s, I n s → wpAny (model prog w) A (pyNext it) (fun r s₁ => match r with
      | none => R (.ok .next) s₁
      | some v => wpAny (model prog w) A (assign t1 env v) (fun _ s₂ => wpAny (model prog w) A (eval i2 env) (fun x s₃ => wpAny (model prog w) A (pyIter x) (fun it2 s₄ =>
          codeAny (model prog w) A (.compStart (twoL elt t1 i1 t2 i2 scope pos) 1 it2 acc env) (fun r s₅ => match r with | .ok _ => ∃ m, m < n ∧ I m s₅ | .error e => cameBackBy (model prog w) A env (notedBy (model prog w) A env fun e s' => R (.error e) s') e s₅) s₄)
          (notedBy (model prog w) A env fun e s' => R (.error e) s') s₃)
          (notedBy (model prog w) A env fun e s' => R (.error e) s') s₂) (notedBy (model prog w) A env fun e s' => R (.error e) s') s₁) (notedBy (model prog w) A env fun e s' => R (.error e) s') s)
    (n : Nat) (h : I n s) (hs : ∀ x, foldedSetIterable i2 env x = pure x) (ht : ∀ v, letOwnedTupleGo t1 it v = pure () := by intro _; rfl) :
    codeAny (model prog w) A (.compLoop (twoL elt t1 i1 t2 i2 scope pos) 0 it acc env) R s := by
  refine codeAny_loop rfl I (fun n s hI => ?_) n h
  show wpAny _ A ((compTurn (twoL elt t1 i1 t2 i2 scope pos) 0 it acc env).onRaise (fun x => do noteFrame x env; theTreesLotGoes x)) _ _ s
  refine wpAny_noted ?_
  rw [turn_two0]
  refine wpAny_bind (wpAny_standAt (wpAny_bind (wpAny_mono (turn n s hI) (fun r s₁ h₁ => ?_) fun _ _ h' => h')))
  cases r with
  | none => exact wpAny_pure h₁
  | some v =>
    refine wpAny_bind (wpAny_of_eq (ht v) ?_)
    refine wpAny_bind (wpAny_mono h₁ (fun _ s₂ h₂ => wpAny_bind (wpAny_mono h₂ (fun x s₃ h₃ => wpAny_bind (wpAny_standAt (wpAny_bind (wpAny_of_eq (hs x) (wpAny_bind (wpAny_holding (wpAny_mono h₃ (fun it2 s₄ h₄ => ?_) fun _ _ h' => h'))))))) fun _ _ h' => h')) fun _ _ h' => h')
    refine wpAny_bind (wpAny_runOwn (h := none) (codeAny_mono (by rw [show A.mark none = A by cases A; rfl]; exact h₄) fun r s₅ h₅ => ?_))
    cases r with
    | ok f => exact wpAny_pure ⟨rfl, h₅⟩
    | error e => exact h₅
end
end
section
variable {w : World} {p : PySem.Program} {loose : List PySem.Str} {mean : ExcName → Option Value} {mg mb : PySem.Str → Option Value}
example : True := by
  w_top off
  trivial
open TI LCg
noncomputable abbrev rngObj (a b c : Int) (t u v : Tok) : Obj := { cls := .type "range", dict := none, data := .fields #[.int a t, .int b u, .int c v], slots := #[] }
/-- the results after i turns -/
noncomputable def resOf (its : Array Value) (cnt : Nat → Nat) (i : Nat) : List Value := (List.range i).flatMap fun j => List.replicate (cnt j) (its.getD j .none)
theorem resOf_succ (its : Array Value) (cnt : Nat → Nat) (i : Nat) : resOf its cnt (i + 1) = resOf its cnt i ++ List.replicate (cnt i) (its.getD i .none) := by
  unfold resOf
  rw [List.range_succ, List.flatMap_append]
  simp
theorem resOf_le (its : Array Value) (cnt : Nat → Nat) (hc : ∀ i, cnt i ≤ 1000) : ∀ i, (resOf its cnt i).length ≤ i * 1000
  | 0 => by simp [resOf]
  | i + 1 => by
    rw [resOf_succ, List.length_append, List.length_replicate]
    have := resOf_le its cnt hc i
    have := hc i
    omega
inductive TwoSrc (prog : Program) (w : World) (A : Around) (h₀ : Heap) (L : Addr) (m : PySem.Str → Option Value) (env : Env) (i2 elt : PySem.Expr) (x1 : PySem.Str) (scope : Scope) (cl : List (PySem.Str × Addr)) (cnt : Nat → Nat) (Q : Value → Shared → Prop) (xv : Value) (s₁ : Shared) : Prop
  | mk ax its k0 news :
    xv = .ref ax →
    A.handled = none →
    Fr h₀ L s₁.heap m →
    News h₀ L s₁.heap news →
    (ax, ({ cls := .type "list", data := .seq its k0 } : Obj)) ∈ news →
    its.size ≤ 100 →
    (∀ i, cnt i ≤ 1000) →
    (∀ i v I oI C oC D oD m₂ h tk (E' : Value → Shared → Prop), its[i]? = some v → NsObj oC m₂ → m₂ x1 = some v → Fr h₀ L h m → News h₀ L h ((I, oI) :: (C, oC) :: (D, oD) :: news) → Off3 I C D news → ((@Ne Nat I C) ∧ (@Ne Nat I D) ∧ (@Ne Nat C D)) →
      wpAny (model prog w) A (eval i2 (compEnvC scope cl C env)) (fun y s₂ => ∃ r t u v' h' tk', y = .ref r ∧ s₂ = { s₁ with heap := h', toks := tk' } ∧ Fr h₀ L h' m ∧ News h₀ L h' ((r, rngObj 0 (cnt i : Int) 1 t u v') :: (I, oI) :: (C, oC) :: (D, oD) :: news)) E' { s₁ with heap := h, toks := tk }) →
    (∀ v C oC m₂ h tk (E' : Value → Shared → Prop) (Q' : Value → Shared → Prop) nx, NsObj oC m₂ → m₂ x1 = some v → Fr h₀ L h m → News h₀ L h ((C, oC) :: nx) → Q' v { s₁ with heap := h, toks := tk } → wpAny (model prog w) A (eval elt (compEnvC scope cl C env)) Q' E' { s₁ with heap := h, toks := tk }) →
    (∀ D h tk, Fr h₀ L h m → News h₀ L h ((D, lst (resOf its cnt its.size)) :: news) → Q (.ref D) { s₁ with heap := h, toks := tk }) →
    TwoSrc prog w A h₀ L m env i2 elt x1 scope cl cnt Q xv s₁

inductive TwoInv0 (h₀ : Heap) (L : Addr) (m : PySem.Str → Option Value) (s₁ : Shared) (I ax C D : Addr) (its : Array Value) (cnt : Nat → Nat) (news : Led) (k : Nat) (s' : Shared) : Prop
  | mk (h' : Heap) (tk i : Nat) (m' : PySem.Str → Option Value) : s' = { s₁ with heap := h', toks := tk } → i ≤ its.size → k = its.size + 1 - i → (h'.IsListIter I ax i ∧ h'.IsList ax its) → Fr h₀ L h' m → h'.Ns C m' → News h₀ L h' ((D, lst (resOf its cnt i)) :: news) → TwoInv0 h₀ L m s₁ I ax C D its cnt news k s'
inductive TwoInv1 (h₀ : Heap) (L : Addr) (m : PySem.Str → Option Value) (s₁ : Shared) (I I2 C D : Addr) (oI : Obj) (x1 : PySem.Str) (v : Value) (n : Nat) (pre : List Value) (news : Led) (k : Nat) (s' : Shared) : Prop
  | mk (h' : Heap) (tk j : Nat) (m' : PySem.Str → Option Value) : s' = { s₁ with heap := h', toks := tk } → j ≤ n → k = n + 1 - j → IsRangeIter h' I2 (0 + (j : Int) * 1) ((n : Int) - (j : Int)) 1 → h'.get? I = some oI → Fr h₀ L h' m → h'.Ns C m' → m' x1 = some v → News h₀ L h' ((D, lst (pre ++ List.replicate j v)) :: news) → TwoInv1 h₀ L m s₁ I I2 C D oI x1 v n pre news k s'

theorem ListComp_two {prog : Program} {A : Around} {E : Value → Shared → Prop} {s : Shared} {env : Env} {h₀ : Heap} {L : Addr} {m : PySem.Str → Option Value} {elt i1 i2 : PySem.Expr} {x1 x2 : PySem.Str} {px1 px2 : Pos} {scope : Scope} {cl : List (PySem.Str × Addr)} {pos : Pos} {Q : Value → Shared → Prop} (cnt : Nat → Nat) (F₀ : Fr h₀ L s.heap m)
    (hclos : closureFor scope env = pure cl) (hcell : ∀ y ∈ scope.names, y.2 ≠ .cell) (hkind : scope.kind = .function)
    (hnames : ∀ y ∈ scope.names, y.2 = .local → scope.names.lookup y.1 = some .local) (hx1 : scope.names.lookup x1 = some .local) (hx2 : scope.names.lookup x2 = some .local) (hx12 : x1 ≠ x2)
    (h : wpAny (model prog w) A (eval i1 env) (TwoSrc prog w A h₀ L m env i2 elt x1 scope cl cnt Q) E s)
    (hs : ∀ x, foldedSetIterable i1 env x = pure x := by intro _; rfl) (hs2 : ∀ (e' : Env) x, foldedSetIterable i2 e' x = pure x := by intro _ _; rfl) :
    wpAny (model prog w) A (eval (.ListComp elt [⟨.Name x1 px1, i1, [], 0⟩, ⟨.Name x2 px2, i2, [], 0⟩] scope pos) env) Q E s := by
  rw [eval_ListComp]
  refine wpAny_comprehension_free (use := none) rfl hs hclos hkind hnames (wpAny_mono h (fun xv s₁ h₁ => ?_) fun _ _ e => e)
  obtain ⟨ax, its, k0, news, rfl, hh, F, N, hm, hsz, hcn, hit2, helt, hQ⟩ := h₁
  have hl : s₁.heap.IsList ax its := ⟨_, (N _ hm).1, rfl, _, rfl⟩
  have hlt : ax < s₁.heap.objs.size := Heap.lt_size (N _ hm).1
  refine wpAny_pyIter_list hl ?_
  generalize hg1 : s₁.heap.push { cls := .type "list_iterator", data := .fields #[.ref ax, .int 0 0] } = g1
  have hI1 : g1.objs.size = s₁.heap.objs.size + 1 := by rw [← hg1, Heap.size_push]
  have up1 : ∀ b o, s₁.heap.get? b = some o → g1.get? b = some o := fun b o e => hg1 ▸ Heap.get?_push_of_some _ e
  have hst : g1.IsListIter s₁.heap.objs.size ax 0 ∧ g1.IsList ax its := ⟨⟨_, hg1 ▸ Heap.get?_push_size _ rfl, rfl, rfl⟩, hl.at fun o e => up1 _ o e⟩
  have freshS : ∀ a, s₁.heap.objs.size ≤ a → h₀.get? a = none := fun a ha => by
    cases e : h₀.get? a with
    | none => rfl
    | some o' => have := F.keep a o' e; exact absurd (Heap.lt_size this) (Nat.not_lt.mpr ha)
  have hLlt : L < s₁.heap.objs.size := F.ns.lt
  have hNlt : ∀ q ∈ news, q.1 < s₁.heap.objs.size := fun q hq => Heap.lt_size (N q hq).1
  have F1 : Fr h₀ L g1 m := F.keeps up1
  have N1 : News h₀ L g1 news := N.grown up1
  have hI₀ : h₀.get? s₁.heap.objs.size = none := freshS _ (Nat.le_refl _)
  have hIL : L ≠ s₁.heap.objs.size := Nat.ne_of_lt hLlt
  generalize s₁.heap.objs.size = I at *
  have W := Walks.list (prog := prog) (w := w) hh I ax (Nat.ne_of_lt hlt) its
  refine wpAny_newObj_type (wpAny_newFunctionEnv hcell (by intro y hy; simp at hy) (fun h₁ hns₁ hsb₁ => ?_) hkind)
  dsimp only at hns₁ hsb₁ ⊢
  generalize hH2 : g1.push { cls := .type "list", dict := none, data := .seq ([] : List Value).toArray } = H2 at hns₁ hsb₁ ⊢
  have hC : H2.objs.size = g1.objs.size + 1 := by rw [← hH2, Heap.size_push]
  have hDC : g1.objs.size ≠ H2.objs.size := by rw [hC]; exact Nat.ne_of_lt (Nat.lt_succ_self _)
  have below : ∀ b, b < g1.objs.size → b ≠ H2.objs.size ∧ b ≠ g1.objs.size := fun b hb => ⟨by rw [hC]; exact Nat.ne_of_lt (Nat.lt_succ_of_lt hb), Nat.ne_of_lt hb⟩
  have hIlt : I < g1.objs.size := by rw [hI1]; exact Nat.lt_succ_self _
  have old : ∀ b o, g1.get? b = some o → h₁.get? b = some o := fun b o e => hsb₁.extBut b o (below b (Heap.lt_size e)).1 (Heap.get?_push_of_some _ (hH2 ▸ Heap.get?_push_of_some _ e))
  have hacc : h₁.get? g1.objs.size = some (lst []) := hsb₁.extBut _ _ hDC (Heap.get?_push_of_some _ (hH2 ▸ Heap.get?_push_size _ rfl))
  have hst₁ := W.frame _ _ _ hst fun b _ o e => old b o e
  have fresh₀ : ∀ a, g1.objs.size ≤ a → h₀.get? a = none := fun a ha => freshS a (Nat.le_of_lt (Nat.lt_of_lt_of_le hIlt ha))
  have hD₀ : h₀.get? g1.objs.size = none := fresh₀ _ (Nat.le_refl _)
  have hC₀ : h₀.get? H2.objs.size = none := fresh₀ _ (by rw [hC]; exact Nat.le_succ _)
  have hLlt1 : L < g1.objs.size := Nat.lt_trans hLlt hIlt
  have hDL : g1.objs.size ≠ L := Ne.symm (below L hLlt1).2
  have hCL : H2.objs.size ≠ L := Ne.symm (below L hLlt1).1
  have hCI : I ≠ H2.objs.size := (below I hIlt).1
  have hDI : I ≠ g1.objs.size := (below I hIlt).2
  have off : ∀ q ∈ news, q.1 ≠ I ∧ q.1 ≠ H2.objs.size ∧ q.1 ≠ g1.objs.size := fun q hq => ⟨Nat.ne_of_lt (hNlt q hq), (below _ (Nat.lt_trans (hNlt q hq) hIlt)).1, (below _ (Nat.lt_trans (hNlt q hq) hIlt)).2⟩
  have axI : ax ≠ I := Nat.ne_of_lt hlt
  have axC : ax ≠ H2.objs.size := (below _ (Nat.lt_trans hlt hIlt)).1
  have axD : ax ≠ g1.objs.size := (below _ (Nat.lt_trans hlt hIlt)).2
  have N1' : News h₀ L h₁ ((g1.objs.size, lst (resOf its cnt 0)) :: news) := fun q hq => by
    rcases List.mem_cons.mp hq with rfl | hq
    · exact ⟨hacc, hDL, hD₀⟩
    · exact ⟨old _ _ (N1 q hq).1, (N1 q hq).2⟩
  generalize H2.objs.size = C at *
  generalize g1.objs.size = D at *
  have loop : ∀ s₃ : Shared, s₃ = { s₁ with heap := h₁, toks := s₁.toks + ([] : List (PySem.Str × Value)).length } →
      codeAny (model prog w) A (.compLoop (twoL elt (.Name x1 px1) i1 (.Name x2 px2) i2 scope pos) 0 (.ref I) (.ref D) (compEnvC scope cl C env))
        (compPost (model prog w) A E (none : Option (Value → Sem Unit)) Q (.ref D) C) s₃ := by
    rintro s₃ rfl
    refine two_loop0 (TwoInv0 h₀ L m s₁ I ax C D its cnt news) ?_ (its.size + 1)
      ⟨h₁, _, 0, _, rfl, Nat.zero_le _, rfl, hst₁, F1.keeps old, hns₁, N1'⟩ (hs2 _)
    rintro k s' ⟨h', tk, i, m', rfl, hi, rfl, hst', F', hn', N'⟩
    by_cases hlt' : i < its.size
    · refine W.item i _ _ _ hlt' hst' fun v h₂ tk₂ hPv hst₂ hk₂ => ?_
      refine wpAny_assign_Name (wpAny_storeName_local (lookup_relabel_local hx1) (hn'.at' fun o e => hk₂ _ o (by simpa using Ne.symm hCI) e) (fun h₃ hn₃ hs₃ => ?_) (by simp [compEnvC, relabel, hkind]))
      have hst₃ : h₃.IsListIter I ax (i + 1) ∧ h₃.IsList ax its := W.frame _ _ _ hst₂ fun b hb o e => hs₃.extBut b o (fun q => by
        have q' : b = C := q
        simp only [List.mem_cons, List.not_mem_nil, or_false] at hb
        rcases hb with hb | hb
        · exact hCI (hb.symm.trans q')
        · exact axC (hb.symm.trans q')) e
      obtain ⟨oI, heI⟩ : ∃ o, h₃.get? I = some o := by obtain ⟨o, e, _⟩ := hst₃.1; exact ⟨o, e⟩
      obtain ⟨oC, heC, hoC⟩ := ns_obj hn₃
      have F₃ : Fr h₀ L h₃ m := (fr_but F' hk₂ hIL hI₀).change hs₃ hCL hC₀
      have N₂ : News h₀ L h₂ ((D, lst (resOf its cnt i)) :: news) := news_but N' hk₂ fun q hq => by
        rcases List.mem_cons.mp hq with rfl | hq
        · exact Ne.symm hDI
        · exact (off q hq).1
      have N₃ : News h₀ L h₃ ((I, oI) :: (C, oC) :: (D, lst (resOf its cnt i)) :: news) := fun q hq => by
        rcases List.mem_cons.mp hq with rfl | hq
        · exact ⟨heI, Ne.symm hIL, hI₀⟩
        rcases List.mem_cons.mp hq with rfl | hq
        · exact ⟨heC, hCL, hC₀⟩
        · have z := N₂ q hq
          refine ⟨hs₃.extBut _ _ ?_ z.1, z.2⟩
          rcases List.mem_cons.mp hq with rfl | hq
          · exact hDC
          · exact (off q hq).2.1
      refine wpAny_mono (hit2 i v I oI C oC D _ _ h₃ _ _ hPv hoC (by simp) F₃ N₃ (Off3.of off) ⟨hCI, hDI, Ne.symm hDC⟩) (fun y s₄ h₄ => ?_) fun _ _ e => e
      obtain ⟨r, t, u, v', h₄, tk₄, rfl, rfl, F₄, N₄⟩ := h₄
      have hr : PySem.IsRange h₄ r 0 (cnt i : Int) 1 t u v' := (N₄ _ (.head _)).1
      refine wpAny_pyIter_range hr (range_small (hcn i)) ?_
      have hsz2 : Builtin.Range.rangeSize 0 (cnt i : Int) 1 = (cnt i : Int) := by rw [rangeSize_nat, Int.sub_zero]; rfl
      rw [hsz2]
      have hL4 : L < h₄.objs.size := F₄.ns.lt
      have hI4 : I < h₄.objs.size := Heap.lt_size (N₄ (I, oI) (.tail _ (.head _))).1
      have hC4 : C < h₄.objs.size := Heap.lt_size (N₄ (C, oC) (.tail _ (.tail _ (.head _)))).1
      have hD4 : D < h₄.objs.size := Heap.lt_size (N₄ (D, _) (.tail _ (.tail _ (.tail _ (.head _))))).1
      have hn4 : ∀ q ∈ news, q.1 < h₄.objs.size := fun q hq => Heap.lt_size (N₄ q (.tail _ (.tail _ (.tail _ (.tail _ hq))))).1
      have h04 : h₀.get? h₄.objs.size = none := by
        cases e : h₀.get? h₄.objs.size with
        | none => rfl
        | some o => exact absurd (Heap.lt_size (F₄.keep _ _ e)) (Nat.lt_irrefl _)
      generalize hg5 : h₄.push _ = g5
      have up5 : ∀ b o, h₄.get? b = some o → g5.get? b = some o := fun b o e => hg5 ▸ Heap.get?_push_of_some _ e
      have hR5 : IsRangeIter g5 h₄.objs.size (0 + ((0 : Nat) : Int) * 1) ((cnt i : Int) - ((0 : Nat) : Int)) 1 := by
        rw [← hg5]
        simpa using Heap.get?_push_size _ rfl
      have F5 : Fr h₀ L g5 m := F₄.keeps up5
      have N5 : News h₀ L g5 ((D, lst (resOf its cnt i ++ List.replicate 0 v)) :: news) := fun q hq => by
        rw [List.replicate_zero, List.append_nil] at hq
        have z := N₄ q (.tail _ (.tail _ (.tail _ hq)))
        exact ⟨up5 _ _ z.1, z.2⟩
      have gI5 : g5.get? I = some oI := up5 _ _ (N₄ (I, oI) (.tail _ (.head _))).1
      have nC5 : g5.Ns C _ := hoC.ns (up5 _ _ (N₄ (C, oC) (.tail _ (.tail _ (.head _)))).1)
      generalize h₄.objs.size = I2 at *
      have W2 := Walks.range (prog := prog) (w := w) hh I2 0 1 (cnt i)
      have hvi : its.getD i .none = v := by simp [Array.getD_eq_getD_getElem?, hPv]
      refine (fun (lp : codeAny _ _ _ _ _) => two_start1 lp (W2.self 0 _ _ _ hR5 lp)) ?_
      refine two_loop1 (TwoInv1 h₀ L m s₁ I I2 C D oI x1 v (cnt i) (resOf its cnt i) news) ?_ (cnt i + 1)
        ⟨g5, _, 0, _, rfl, Nat.zero_le _, rfl, hR5, gI5, F5, nC5, by simp, N5⟩
      rintro k s' ⟨h', tk, j, mC, rfl, hj, rfl, hst6, gI6, F6, nC6, hmx, N6⟩
      by_cases hjl : j < cnt i
      · refine W2.item j _ _ _ hjl hst6 fun v2 h₇ tk₇ hP₇ hst₇ hk₇ => ?_
        have hCne : C ≠ I2 := Nat.ne_of_lt hC4
        refine wpAny_assign_Name (wpAny_storeName_local (lookup_relabel_local hx2) (nC6.at' fun o e => hk₇ _ o (by simpa using hCne) e) (fun h₈ hn₈ hs₈ => ?_) (by simp [compEnvC, relabel, hkind]))
        obtain ⟨oC8, heC8, hoC8⟩ := ns_obj hn₈
        have F₈ : Fr h₀ L h₈ m := (fr_but F6 hk₇ (Nat.ne_of_lt hL4) h04).change hs₈ hCL hC₀
        have N₇ : News h₀ L h₇ ((D, lst (resOf its cnt i ++ List.replicate j v)) :: news) := news_but N6 hk₇ fun q hq => by
          rcases List.mem_cons.mp hq with rfl | hq
          · exact Nat.ne_of_lt hD4
          · exact Nat.ne_of_lt (hn4 q hq)
        have N₈ : News h₀ L h₈ ((C, oC8) :: (D, lst (resOf its cnt i ++ List.replicate j v)) :: news) := fun q hq => by
          rcases List.mem_cons.mp hq with rfl | hq
          · exact ⟨heC8, hCL, hC₀⟩
          · have z := N₇ q hq
            refine ⟨hs₈.extBut _ _ ?_ z.1, z.2⟩
            rcases List.mem_cons.mp hq with rfl | hq
            · exact hDC
            · exact (off q hq).2.1
        have gI8 : h₈.get? I = some oI := hs₈.extBut _ _ hCI (hk₇ _ _ (by simpa using Nat.ne_of_lt hI4) gI6)
        have st8 : IsRangeIter h₈ I2 (0 + ((j + 1 : Nat) : Int) * 1) ((cnt i : Int) - ((j + 1 : Nat) : Int)) 1 := hs₈.extBut _ _ hCne.symm hst₇
        refine helt v C oC8 _ h₈ _ _ _ _ hoC8 (by simp [hx12, hmx]) F₈ N₈ ?_
        have zD := (N₈ (D, _) (.tail _ (.head _))).1
        have hle := resOf_le its cnt hcn i
        have hci := hcn i
        refine append_at (hsz := by rw [List.size_toArray, List.length_append, List.length_replicate, PySem.sizeLine_eq]; omega) zD fun h₉ hs₉ hD₉ => ?_
        refine ⟨cnt i + 1 - (j + 1), meas1 hjl, h₉, _, j + 1, _, rfl, hjl, rfl, hs₉.extBut _ _ (Nat.ne_of_gt hD4) st8, hs₉.extBut _ _ hDI gI8, F₈.change hs₉ hDL hD₀, (hoC8.ns heC8).sameBut hs₉ (Ne.symm hDC), by simp [hx12, hmx], fun q hq => ?_⟩
        rcases List.mem_cons.mp hq with rfl | hq
        · refine ⟨?_, hDL, hD₀⟩
          show h₉.get? D = some (lst _)
          rw [hD₉, List.replicate_succ', ← List.append_assoc]
          exact congrArg some (lst_snoc _ v)
        · have z := N₈ q (.tail _ (.tail _ hq))
          exact ⟨hs₉.extBut _ _ (off q hq).2.2 z.1, z.2⟩
      · obtain rfl : j = cnt i := Nat.le_antisymm hj (Nat.not_lt.mp hjl)
        refine W2.done _ _ _ hst6 fun h₇ tk₇ hk₇ => ?_
        have hCne : C ≠ I2 := Nat.ne_of_lt hC4
        have N₇ : News h₀ L h₇ ((D, lst (resOf its cnt (i + 1))) :: news) := by
          rw [resOf_succ, hvi]
          exact news_but N6 hk₇ fun q hq => by
            rcases List.mem_cons.mp hq with rfl | hq
            · exact Nat.ne_of_lt hD4
            · exact Nat.ne_of_lt (hn4 q hq)
        obtain ⟨oI', eI', cI, dI⟩ := hst₃.1
        rw [heI] at eI'
        obtain rfl := Option.some.inj eI'
        refine ⟨its.size + 1 - (i + 1), meas1 hlt', h₇, _, i + 1, _, rfl, hlt', rfl, ⟨⟨oI, hk₇ _ _ (by simpa using Nat.ne_of_lt hI4) gI6, cI, dI⟩, ⟨_, (N₇ _ (.tail _ hm)).1, rfl, _, rfl⟩⟩, fr_but F6 hk₇ (Nat.ne_of_lt hL4) h04, nC6.at' fun o e => hk₇ _ o (by simpa using hCne) e, N₇⟩
    · obtain rfl : i = its.size := Nat.le_antisymm hi (Nat.not_lt.mp hlt')
      refine W.done _ _ _ hst' fun h₂ tk₂ hk₂ => ?_
      have F₂ := fr_but F' hk₂ hIL hI₀
      have N₂ : News h₀ L h₂ ((D, lst (resOf its cnt its.size)) :: news) := news_but N' hk₂ fun q hq => by
        rcases List.mem_cons.mp hq with rfl | hq
        · exact Ne.symm hDI
        · exact (off q hq).1
      refine ⟨m', hn'.at' fun o e => hk₂ _ o (by simpa using Ne.symm hCI) e, fun h'' hs'' => hQ D h'' tk₂ (F₂.change hs'' hCL hC₀) fun q hq => ⟨hs''.extBut _ _ ?_ (N₂ q hq).1, (N₂ q hq).2⟩⟩
      rcases List.mem_cons.mp hq with rfl | hq
      · exact hDC
      · exact (off q hq).2.1
  exact codeAny_compStart_list (loop _ rfl) (W.self 0 _ _ _ hst₁ (loop _ rfl))
end
section
variable {w : World} {p : PySem.Program} {loose : List PySem.Str} {mean : ExcName → Option Value} {mg mb : PySem.Str → Option Value}
example : True := by
  w_top off
  trivial
theorem slt_iff {x y : PySem.Str} : slt x y = true ↔ x.cps.toList < y.cps.toList := by unfold slt; simp
theorem slt_not {x y : PySem.Str} : slt x y = false ↔ y.cps.toList ≤ x.cps.toList := by
  unfold slt
  rw [decide_eq_false_iff_not]
  exact Iff.rfl
theorem le_tr {x y z : PySem.Str} (h1 : slt y x = false) (h2 : slt z y = false) : slt z x = false := slt_not.mpr (List.le_trans (slt_not.mp h1) (slt_not.mp h2))
theorem slt_irr (x : PySem.Str) : slt x x = false := slt_not.mpr (List.le_refl _)
theorem slt_asym {x y : PySem.Str} (h : slt x y = true) : slt y x = false := by
  cases e : slt y x with
  | false => rfl
  | true => exact absurd (slt_iff.mp e) (List.lt_asymm (slt_iff.mp h))
theorem slt_tr {x y z : PySem.Str} (h1 : slt x y = true) (h2 : slt y z = true) : slt x z = true := slt_iff.mpr (List.lt_trans (slt_iff.mp h1) (slt_iff.mp h2))
theorem slt_eq {x y : PySem.Str} (h1 : slt x y = false) (h2 : slt y x = false) : x = y := by
  have e : x.cps.toList = y.cps.toList := List.le_antisymm (slt_not.mp h2) (slt_not.mp h1)
  cases x; cases y
  congr 1
  exact Array.toList_inj.mp e
theorem slt_ne {x y : PySem.Str} (h : slt x y = true) : x ≠ y := fun e => by rw [e, slt_irr] at h; cases h

theorem ple (i : Nat) : (i - 1) / 2 ≤ i := Nat.le_trans (Nat.div_le_self _ _) (Nat.sub_le _ _)
theorem plt {i : Nat} (h : 0 < i) : (i - 1) / 2 < i := Nat.lt_of_le_of_lt (Nat.div_le_self _ _) (Nat.sub_lt h Nat.one_pos)
theorem half1 (p : Nat) : (2 * p + 1 - 1) / 2 = p := by rw [Nat.add_sub_cancel, Nat.mul_div_cancel_left _ (by decide)]
theorem half2 (p : Nat) : (2 * p + 2 - 1) / 2 = p := by
  show (2 * p + 1) / 2 = p
  rw [Nat.mul_add_div (by decide)]
  rfl
theorem kids {i pos : Nat} (e : (i - 1) / 2 = pos) (h0 : 0 < i) : i = 2 * pos + 1 ∨ i = 2 * pos + 2 := by
  cases i with
  | zero => exact absurd h0 (Nat.lt_irrefl 0)
  | succ j =>
    have z := Nat.div_add_mod j 2
    rw [show j / 2 = pos from e] at z
    rcases Nat.mod_two_eq_zero_or_one j with q | q
    · rw [q] at z; exact .inl (congrArg Nat.succ z.symm)
    · rw [q] at z; exact .inr (congrArg Nat.succ z.symm)
theorem nokid {n pos i : Nat} (h : ¬ 2 * pos + 1 < n) (h0 : 0 < i) (hi : i < n) : (i - 1) / 2 ≠ pos := fun e => by
  rcases kids e h0 with q | q
  · exact h (q ▸ hi)
  · exact h (Nat.lt_of_succ_lt (Nat.lt_of_le_of_lt (Nat.le_of_eq q.symm) hi))
noncomputable abbrev gt' (xs : List PySem.Str) (i : Nat) : PySem.Str := xs.getD i Str.empty
theorem gset {xs : List PySem.Str} {p i : Nat} {v : PySem.Str} (h : p < xs.length) : gt' (xs.set p v) i = if p = i then v else gt' xs i := by
  unfold gt'
  rw [List.getD_eq_getElem?_getD, List.getD_eq_getElem?_getD, List.getElem?_set]
  by_cases e : p = i
  · subst e; simp [h]
  · simp [e]
theorem gt_get {xs : List PySem.Str} {i : Nat} (h : i < xs.length) : gt' xs i = xs[i] := by
  unfold gt'
  rw [List.getD_eq_getElem?_getD, List.getElem?_eq_getElem h]; rfl

/-- each child is no less than its parent, for parents from k on -/
noncomputable def Hp (k : Nat) (xs : List PySem.Str) : Prop := ∀ i, 0 < i → i < xs.length → k ≤ (i - 1) / 2 → slt (gt' xs i) (gt' xs ((i - 1) / 2)) = false
inductive Desc (k : Nat) : Nat → Prop
  | refl : Desc k k
  | step {p c : Nat} : Desc k p → 0 < c → (c - 1) / 2 = p → Desc k c
theorem Desc.le {k p : Nat} (h : Desc k p) : k ≤ p := by
  induction h with
  | refl => exact Nat.le_refl _
  | step _ h0 e ih => exact Nat.le_trans ih (Nat.le_trans (Nat.le_of_eq e.symm) (ple _))
theorem Desc.up {k p : Nat} (h : Desc k p) (hk : k < p) : Desc k ((p - 1) / 2) := by
  cases h with
  | refl => omega
  | step h h0 e => rw [e]; exact h
/-- all is well, but that the entry at pos may be less than its parent -/
noncomputable def Up (k pos : Nat) (ys : List PySem.Str) : Prop :=
  (∀ i, 0 < i → i < ys.length → k ≤ (i - 1) / 2 → i ≠ pos → slt (gt' ys i) (gt' ys ((i - 1) / 2)) = false) ∧
  (k < pos → ∀ c, 0 < c → c < ys.length → (c - 1) / 2 = pos → slt (gt' ys c) (gt' ys ((pos - 1) / 2)) = false)
theorem swap_perm {xs : List PySem.Str} {i j : Nat} {x : PySem.Str} (hi : i < xs.length) (hj : j < xs.length) (h : i ≠ j) : ((xs.set i (gt' xs j)).set j x).Perm (xs.set i x) := by
  have z := List.set_set_perm (as := xs.set i x) (i := i) (j := j) (by rw [List.length_set]; exact hi) (by rw [List.length_set]; exact hj)
  rw [List.getElem_set_self, List.getElem_set_ne h, List.set_set] at z
  rw [gt_get hj]
  exact z
theorem sdown_ok {x : PySem.Str} {k : Nat} : ∀ (f pos : Nat) (xs : List PySem.Str), pos ≤ f → pos < xs.length → Desc k pos → Up k pos (xs.set pos x) → Hp k (sdown x k pos xs) ∧ (sdown x k pos xs).Perm (xs.set pos x) := by
  intro f
  induction f with
  | zero =>
    intro pos xs hf hl hd hu
    rw [sdown_end (by omega)]
    refine ⟨fun i h0 hi hk => ?_, .refl _⟩
    exact hu.1 i h0 hi hk (by omega)
  | succ f ih =>
    intro pos xs hf hl hd hu
    by_cases hk : k < pos
    · have hpl : (pos - 1) / 2 < xs.length := Nat.lt_of_le_of_lt (ple pos) hl
      have hlp : (pos - 1) / 2 < pos := plt (Nat.zero_lt_of_lt hk)
      have hne : pos ≠ (pos - 1) / 2 := Nat.ne_of_gt hlp
      cases hx : slt x (gt' xs ((pos - 1) / 2)) with
      | false =>
        rw [sdown_brk hx]
        refine ⟨fun i h0 hi hk' => ?_, .refl _⟩
        by_cases e : i = pos
        · subst e
          rw [gset hl, if_pos rfl, gset hl, if_neg hne]
          exact hx
        · exact hu.1 i h0 hi hk' e
      | true =>
        rw [sdown_go hk hx]
        have hd' := hd.up hk
        have hpk := hd'.le
        generalize hp : (pos - 1) / 2 = p at *
        have hu1 := hu.1
        have hu2 := hu.2 hk
        have L0 : (xs.set pos x).length = xs.length := List.length_set
        have hl1 : p < (xs.set pos (gt' xs p)).length := by rw [List.length_set]; exact hpl
        have e0 : ∀ i, gt' (xs.set pos x) i = if pos = i then x else gt' xs i := fun i => gset hl
        have e1 : ∀ i, gt' ((xs.set pos (gt' xs p)).set p x) i = if p = i then x else if pos = i then gt' xs p else gt' xs i := fun i => by
          rw [gset hl1]
          by_cases z : p = i
          · rw [if_pos z, if_pos z]
          · rw [if_neg z, if_neg z, gset hl]
        have up' : Up k p ((xs.set pos (gt' xs p)).set p x) := by
          refine ⟨fun i h0 hi hki hip => ?_, fun hkp c h0 hc hcp => ?_⟩
          · rw [List.length_set, List.length_set] at hi
            rw [e1, e1, if_neg (Ne.symm hip)]
            by_cases ei : pos = i
            · subst ei
              rw [if_pos rfl, hp, if_pos rfl]
              exact slt_asym hx
            · rw [if_neg ei]
              by_cases eq1 : p = (i - 1) / 2
              · rw [if_pos eq1]
                have z := hu1 i h0 (by rw [L0]; exact hi) hki (Ne.symm ei)
                rw [e0, e0, if_neg ei, if_neg (fun e => hne (e.trans eq1.symm)), ← eq1] at z
                exact le_tr (slt_asym hx) z
              · rw [if_neg eq1]
                by_cases eq2 : pos = (i - 1) / 2
                · rw [if_pos eq2]
                  have z := hu2 i h0 (by rw [L0]; exact hi) eq2.symm
                  rw [hp, e0, e0, if_neg ei, if_neg hne] at z
                  exact z
                · rw [if_neg eq2]
                  have z := hu1 i h0 (by rw [L0]; exact hi) hki (Ne.symm ei)
                  rw [e0, e0, if_neg ei, if_neg eq2] at z
                  exact z
          · rw [List.length_set, List.length_set] at hc
            have zp := hu1 p (by omega) (by rw [L0]; exact hpl) (by have := hd'.up hkp; exact this.le) (Ne.symm hne)
            rw [e0, e0, if_neg hne, if_neg (Nat.ne_of_gt (Nat.lt_of_le_of_lt (ple p) hlp))] at zp
            rw [e1, e1, if_neg (Nat.ne_of_lt (Nat.lt_of_le_of_lt (Nat.le_of_eq hcp.symm) (plt h0))), if_neg (Nat.ne_of_gt (plt (Nat.zero_lt_of_lt hkp)) : p ≠ (p - 1) / 2), if_neg (Nat.ne_of_gt (Nat.lt_of_le_of_lt (ple p) hlp) : pos ≠ (p - 1) / 2)]
            by_cases ec : pos = c
            · rw [if_pos ec]
              exact zp
            · rw [if_neg ec]
              have z := hu1 c h0 (by rw [L0]; exact hc) (by omega) (Ne.symm ec)
              rw [e0, e0, if_neg ec, if_neg (fun e => hne (e.trans hcp)), hcp] at z
              exact le_tr zp z
        obtain ⟨r1, r2⟩ := ih p (xs.set pos (gt' xs p)) (Nat.le_of_lt_succ (Nat.lt_of_lt_of_le hlp hf)) hl1 hd' up'
        exact ⟨r1, r2.trans (swap_perm hl hpl hne)⟩
    · rw [sdown_end hk]
      refine ⟨fun i h0 hi hk' => ?_, .refl _⟩
      exact hu.1 i h0 hi hk' (Nat.ne_of_gt (Nat.lt_of_le_of_lt (Nat.le_trans (Nat.not_lt.mp hk) hk') (plt h0)))

/-- all is well, but for the entry at pos, which is to be filled -/
noncomputable def Hole (k pos : Nat) (ys : List PySem.Str) : Prop :=
  (∀ i, 0 < i → i < ys.length → k ≤ (i - 1) / 2 → i ≠ pos → (i - 1) / 2 ≠ pos → slt (gt' ys i) (gt' ys ((i - 1) / 2)) = false) ∧
  (k < pos → ∀ c, 0 < c → c < ys.length → (c - 1) / 2 = pos → slt (gt' ys c) (gt' ys ((pos - 1) / 2)) = false)
theorem kid_is (xs : List PySem.Str) (pos : Nat) : kid xs pos = 2 * pos + 1 ∨ kid xs pos = 2 * pos + 2 := by
  unfold kid; split
  · split
    · exact .inl rfl
    · exact .inr rfl
  · exact .inl rfl
theorem kid_min {xs : List PySem.Str} {pos i : Nat} (h : 2 * pos + 1 < xs.length) (hi : i < xs.length) (e : (i - 1) / 2 = pos) (h0 : 0 < i) : slt (gt' xs i) (gt' xs (kid xs pos)) = false := by
  have hh := kids e h0
  unfold kid
  by_cases h2 : 2 * pos + 2 < xs.length
  · rw [if_pos h2]
    cases hx : slt (xs.getD (2 * pos + 1) Str.empty) (xs.getD (2 * pos + 2) Str.empty) with
    | true =>
      rw [if_pos rfl]
      rcases hh with rfl | rfl
      · exact slt_irr _
      · exact slt_asym hx
    | false =>
      rw [if_neg (by decide)]
      rcases hh with rfl | rfl
      · exact hx
      · exact slt_irr _
  · rw [if_neg h2]
    rcases hh with rfl | rfl
    · exact slt_irr _
    · exact absurd hi h2
theorem sup_ok {x : PySem.Str} {k : Nat} : ∀ (f pos : Nat) (xs : List PySem.Str), xs.length - pos ≤ f → pos < xs.length → Desc k pos → Hole k pos xs →
    ∃ q zs, sup x pos xs = (q, zs) ∧ q < zs.length ∧ Desc k q ∧ Up k q zs ∧ gt' zs q = x ∧ zs.Perm (xs.set pos x) := by
  intro f
  induction f with
  | zero => intro pos xs hf hl; omega
  | succ f ih =>
    intro pos xs hf hl hd hh
    by_cases hc : 2 * pos + 1 < xs.length
    · rw [sup_go hc]
      have hcl := kid_lt hc
      have hcg := kid_gt xs pos
      have hmin := fun i hi e h0 => kid_min (xs := xs) (pos := pos) (i := i) hc hi e h0
      have hkp : (kid xs pos - 1) / 2 = pos := by
        rcases kid_is xs pos with e | e
        · rw [e]; exact half1 pos
        · rw [e]; exact half2 pos
      generalize kid xs pos = c at *
      have e1 : ∀ i, gt' (xs.set pos (gt' xs c)) i = if pos = i then gt' xs c else gt' xs i := fun i => gset hl
      obtain ⟨q, zs, r1, r2, r3, r4, r5, r6⟩ := ih c (xs.set pos (gt' xs c)) (by rw [List.length_set]; exact Nat.le_of_lt_succ (Nat.lt_of_lt_of_le (Nat.sub_lt_sub_left hl hcg) hf)) (by rw [List.length_set]; exact hcl) (.step hd (Nat.zero_lt_of_lt hcg) hkp) ⟨fun i h0 hi hki hic hpc => by
        rw [List.length_set] at hi
        rw [e1, e1]
        by_cases ei : pos = i
        · subst ei
          rw [if_pos rfl, if_neg (Nat.ne_of_gt (plt h0))]
          have hkpos : k < pos := Nat.lt_of_le_of_lt hki (plt h0)
          exact hh.2 hkpos c (Nat.zero_lt_of_lt hcg) hcl hkp
        · rw [if_neg ei]
          by_cases ep : pos = (i - 1) / 2
          · rw [if_pos ep]
            exact hmin i hi ep.symm h0
          · rw [if_neg ep]
            exact hh.1 i h0 hi hki (Ne.symm ei) (Ne.symm ep), fun _ d h0 hdl hdp => by
        rw [List.length_set] at hdl
        rw [e1, e1, if_neg (Nat.ne_of_lt (Nat.lt_of_lt_of_le hcg (Nat.le_trans (Nat.le_of_eq hdp.symm) (ple d)))), hkp, if_pos rfl]
        have := hd.le
        have z := hh.1 d h0 hdl (by rw [hdp]; exact Nat.le_trans hd.le (Nat.le_of_lt hcg)) (Nat.ne_of_gt (Nat.lt_of_lt_of_le hcg (Nat.le_trans (Nat.le_of_eq hdp.symm) (ple d)))) (by rw [hdp]; exact Nat.ne_of_gt hcg)
        rw [hdp] at z
        exact z⟩
      exact ⟨q, zs, r1, r2, r3, r4, r5, r6.trans (swap_perm hl hcl (Nat.ne_of_lt hcg))⟩
    · rw [sup_end hc]
      refine ⟨pos, xs.set pos x, rfl, by rw [List.length_set]; exact hl, hd, ⟨fun i h0 hi hki hip => ?_, fun _ c h0 hcl hcp => ?_⟩, by rw [gset hl, if_pos rfl], .refl _⟩
      · rw [List.length_set] at hi
        rw [gset hl, gset hl, if_neg (Ne.symm hip), if_neg (Ne.symm (nokid hc h0 hi))]
        exact hh.1 i h0 hi hki hip (nokid hc h0 hi)
      · rw [List.length_set] at hcl
        exact absurd hcp (nokid hc h0 hcl)
theorem siftU_ok {k : Nat} {xs : List PySem.Str} (hk : k < xs.length) (h : Hp (k + 1) xs) : Hp k (siftU k xs) ∧ (siftU k xs).Perm xs := by
  obtain ⟨q, zs, r1, r2, r3, r4, r5, r6⟩ := sup_ok (x := gt' xs k) (k := k) xs.length k xs (Nat.sub_le _ _) hk .refl ⟨fun i h0 hi hki hik hpk => h i h0 hi (Nat.lt_of_le_of_ne hki (Ne.symm hpk)), fun hkk => absurd hkk (Nat.lt_irrefl _)⟩
  unfold siftU
  rw [r1]
  have e : zs.set q (gt' zs q) = zs := by
    rw [gt_get r2]
    exact List.set_getElem_self r2
  obtain ⟨s1, s2⟩ := sdown_ok (x := gt' zs q) (k := k) q q zs (Nat.le_refl _) r2 r3 (by rw [e]; exact r4)
  rw [e] at s2
  refine ⟨s1, s2.trans (r6.trans ?_)⟩
  rw [gt_get hk]
  exact .of_eq (List.set_getElem_self hk)
theorem heapL_ok : ∀ (m : Nat) (xs : List PySem.Str), m ≤ xs.length → Hp m xs → Hp 0 (heapL m xs) ∧ (heapL m xs).Perm xs
  | 0, xs, _, h => by rw [heapL]; exact ⟨h, .refl _⟩
  | m + 1, xs, hm, h => by
    rw [heapL]
    obtain ⟨h1, h2⟩ := siftU_ok (k := m) (xs := xs) hm h
    obtain ⟨h3, h4⟩ := heapL_ok m (siftU m xs) (by rw [h2.length_eq]; omega) h1
    exact ⟨h3, h4.trans h2⟩
theorem pushH_ok {xs : List PySem.Str} {x : PySem.Str} (h : Hp 0 xs) : Hp 0 (pushH xs x) ∧ (pushH xs x).Perm (x :: xs) := by
  unfold pushH
  have e0 : (xs ++ [x]).getD xs.length Str.empty = x := by simp
  rw [e0]
  have e1 : (xs ++ [x]).set xs.length x = xs ++ [x] := by simp
  have dn : ∀ n, Desc 0 n := by
    intro n
    induction n using Nat.strongRecOn with
    | ind n ih =>
      cases n with
      | zero => exact .refl
      | succ n => exact .step (ih ((n + 1 - 1) / 2) (plt (Nat.succ_pos n))) (Nat.succ_pos n) rfl
  have eg : ∀ i, i < xs.length → gt' (xs ++ [x]) i = gt' xs i := fun i hi => by
    unfold gt'
    rw [List.getD_eq_getElem?_getD, List.getD_eq_getElem?_getD, List.getElem?_append_left hi]
  obtain ⟨s1, s2⟩ := sdown_ok (x := x) (k := 0) xs.length xs.length (xs ++ [x]) (Nat.le_refl _) (by simp) (dn _) (by
    rw [e1]
    refine ⟨fun i h0 hi _ hne => ?_, fun _ c h0 hc hcp => ?_⟩
    · rw [List.length_append] at hi
      simp only [List.length_cons, List.length_nil] at hi
      have hi' : i < xs.length := Nat.lt_of_le_of_ne (Nat.le_of_lt_succ hi) hne
      rw [eg i hi', eg _ (Nat.lt_of_le_of_lt (ple i) hi')]
      exact h i h0 hi' (Nat.zero_le _)
    · rw [List.length_append] at hc
      simp only [List.length_cons, List.length_nil] at hc
      exact absurd hcp (Nat.ne_of_lt (Nat.lt_of_lt_of_le (plt h0) (Nat.le_of_lt_succ hc))))
  rw [e1] at s2
  exact ⟨s1, s2.trans (List.perm_append_singleton x xs)⟩
theorem root_min {xs : List PySem.Str} (h : Hp 0 xs) : ∀ i, i < xs.length → slt (gt' xs i) (gt' xs 0) = false := by
  intro i
  induction i using Nat.strongRecOn with
  | ind i ih =>
    intro hi
    cases i with
    | zero => exact slt_irr _
    | succ i => exact le_tr (ih ((i + 1 - 1) / 2) (plt (Nat.succ_pos i)) (Nat.lt_trans (plt (Nat.succ_pos i)) hi)) (h (i + 1) (Nat.succ_pos i) hi (Nat.zero_le _))
noncomputable abbrev Sorted (xs : List PySem.Str) : Prop := xs.Pairwise fun a b => slt b a = false
theorem popX_ok {xs : List PySem.Str} (h : Hp 0 xs) (h0 : 0 < xs.length) : Hp 0 (popX xs).2 ∧ ((popX xs).1 :: (popX xs).2).Perm xs ∧ ∀ y ∈ xs, slt y (popX xs).1 = false := by
  have hs := snoc_of h0
  have hmem : ∀ y ∈ xs, slt y (gt' xs 0) = false := fun y hy => by
    obtain ⟨i, hi, rfl⟩ := List.getElem_of_mem hy
    rw [← gt_get hi]
    exact root_min h i hi
  have hl : xs.dropLast.length = xs.length - 1 := List.length_dropLast
  generalize xs.getLastD Str.empty = z at hs
  unfold popX
  rw [show xs.getLastD Str.empty = z by rw [hs]; simp]
  generalize xs.dropLast = ys at *
  subst hs
  unfold popL
  by_cases hy : ys = []
  · subst hy
    rw [if_pos rfl]
    exact ⟨fun i _ hi => absurd hi (Nat.not_lt_zero _), .refl _, hmem⟩
  · rw [if_neg hy]
    have hp : 0 < ys.length := List.length_pos_iff.mpr hy
    have eg : ∀ i, i < ys.length → gt' (ys ++ [z]) i = gt' ys i := fun i hi => by
      unfold gt'
      rw [List.getD_eq_getElem?_getD, List.getD_eq_getElem?_getD, List.getElem?_append_left hi]
    obtain ⟨s1, s2⟩ := siftU_ok (k := 0) (xs := ys.set 0 z) (by rw [List.length_set]; exact hp) (fun i hi0 hi hk => by
      rw [List.length_set] at hi
      rw [gset hp, gset hp, if_neg (by omega), if_neg (by omega), ← eg i hi, ← eg _ (Nat.lt_of_le_of_lt (ple i) hi)]
      exact h i hi0 (Nat.lt_of_lt_of_le hi (by rw [List.length_append]; exact Nat.le_add_right _ _)) (Nat.zero_le _))
    refine ⟨s1, (List.Perm.cons _ s2).trans ?_, fun y hy' => by
      have z1 := hmem y hy'
      rw [eg 0 hp] at z1
      exact z1⟩
    cases ys with
    | nil => exact absurd rfl hy
    | cons a r =>
      show (a :: z :: r).Perm (a :: (r ++ [z]))
      exact List.Perm.cons _ (List.perm_append_singleton z r).symm
theorem popN_ok : ∀ (n : Nat) (xs : List PySem.Str), Hp 0 xs → xs.length = n → (popN n xs).Perm xs ∧ Sorted (popN n xs)
  | 0, xs, _, hn => by
    rw [List.eq_nil_of_length_eq_zero hn]
    exact ⟨.refl _, .nil⟩
  | n + 1, xs, h, hn => by
    obtain ⟨h1, h2, h3⟩ := popX_ok h (by omega)
    have hl := h2.length_eq
    simp only [List.length_cons] at hl
    obtain ⟨r1, r2⟩ := popN_ok n (popX xs).2 h1 (by omega)
    show ((popX xs).1 :: popN n (popX xs).2).Perm xs ∧ Sorted ((popX xs).1 :: popN n (popX xs).2)
    refine ⟨(List.Perm.cons _ r1).trans h2, List.pairwise_cons.mpr ⟨fun y hy => h3 y ?_, r2⟩⟩
    exact h2.subset (List.mem_cons_of_mem _ (r1.subset hy))
theorem fold_ok : ∀ (ys xs : List PySem.Str), Hp 0 xs → Hp 0 (ys.foldl pushH xs) ∧ (ys.foldl pushH xs).Perm (xs ++ ys)
  | [], xs, h => ⟨h, by rw [List.append_nil]; exact .refl _⟩
  | y :: ys, xs, h => by
    obtain ⟨h1, h2⟩ := pushH_ok (x := y) h
    obtain ⟨h3, h4⟩ := fold_ok ys (pushH xs y) h1
    refine ⟨h3, h4.trans ((h2.append_right ys).trans ?_)⟩
    exact (List.perm_middle (a := y) (l₁ := xs) (l₂ := ys)).symm
theorem inOrd_ok (xs ys : List PySem.Str) : (inOrd xs ys).Perm (xs ++ ys) ∧ Sorted (inOrd xs ys) := by
  unfold inOrd heapOf
  obtain ⟨h1, h2⟩ := heapL_ok (xs.length / 2) xs (Nat.div_le_self _ _) (fun i h0 hi hk => by omega)
  obtain ⟨h3, h4⟩ := fold_ok ys _ h1
  have hp := h4.trans (h2.append_right ys)
  obtain ⟨h5, h6⟩ := popN_ok (xs.length + ys.length) _ h3 (by rw [hp.length_eq, List.length_append])
  exact ⟨h5.trans hp, h6⟩
theorem sorted_eq : ∀ {xs ys : List PySem.Str}, Sorted xs → Sorted ys → xs.Perm ys → xs = ys
  | [], ys, _, _, h => (List.Perm.nil_eq h)
  | x :: xs, [], _, _, h => absurd h.symm (by intro z; exact absurd (List.Perm.nil_eq z) (by simp))
  | x :: xs, y :: ys, hx, hy, h => by
    obtain ⟨hx1, hx2⟩ := List.pairwise_cons.mp hx
    obtain ⟨hy1, hy2⟩ := List.pairwise_cons.mp hy
    have e : x = y := by
      have m1 : x ∈ y :: ys := h.subset (.head _)
      have m2 : y ∈ x :: xs := h.symm.subset (.head _)
      rcases List.mem_cons.mp m1 with e | m1
      · exact e
      rcases List.mem_cons.mp m2 with e | m2
      · exact e.symm
      exact slt_eq (hy1 x m1) (hx1 y m2)
    subst e
    rw [sorted_eq hx2 hy2 ((List.perm_cons x).mp h)]
end
section
variable {w : World} {p : PySem.Program} {loose : List PySem.Str} {mean : ExcName → Option Value} {mg mb : PySem.Str → Option Value}
example : True := by
  w_top off
  trivial
/-- the names at the places where f holds -/
noncomputable abbrev sub (f : Nat → Bool) : List PySem.Str := keepI f sixN 6
theorem mem_keepI {α : Type} {f : Nat → Bool} {vs : List α} {x : α} : ∀ {n : Nat}, x ∈ keepI f vs n ↔ ∃ k, k < n ∧ f k = true ∧ vs[k]? = some x
  | 0 => ⟨fun h => (nomatch h), fun ⟨_, h, _⟩ => absurd h (Nat.not_lt_zero _)⟩
  | n + 1 => by
    show x ∈ keepI f vs n ++ _ ↔ _
    rw [List.mem_append, mem_keepI]
    constructor
    · rintro (⟨k, h1, h2, h3⟩ | h)
      · exact ⟨k, Nat.lt_succ_of_lt h1, h2, h3⟩
      · refine ⟨n, Nat.lt_succ_self _, ?_⟩
        cases hv : vs[n]? with
        | none => rw [hv] at h; cases h
        | some v =>
          rw [hv] at h
          cases hf : f n with
          | false => simp [hf] at h
          | true => simp [hf] at h; exact ⟨rfl, by rw [h]⟩
    · rintro ⟨k, h1, h2, h3⟩
      by_cases e : k = n
      · subst e
        right
        rw [h3]
        simp [h2]
      · exact .inl ⟨k, by omega, h2, h3⟩
theorem keepI_sub {α : Type} (f : Nat → Bool) (vs : List α) : ∀ n, (keepI f vs n).Sublist (vs.take n)
  | 0 => .slnil
  | n + 1 => by
    show (keepI f vs n ++ _).Sublist _
    rw [List.take_add_one]
    refine (keepI_sub f vs n).append ?_
    cases vs[n]? with
    | none => exact .slnil
    | some v =>
      show (if f n then [v] else []).Sublist [v]
      cases f n with
      | false => exact List.nil_sublist _
      | true => exact List.Sublist.refl _
theorem keepI_congr {α : Type} {f g : Nat → Bool} {vs : List α} : ∀ {n : Nat}, (∀ k, k < n → f k = g k) → keepI f vs n = keepI g vs n
  | 0, _ => rfl
  | n + 1, h => by
    show keepI f vs n ++ _ = keepI g vs n ++ _
    rw [keepI_congr fun k hk => h k (Nat.lt_succ_of_lt hk), h n (Nat.lt_succ_self _)]
noncomputable abbrev Strict (xs : List PySem.Str) : Prop := xs.Pairwise fun a b => slt a b = true
theorem six_strict : Strict sixN := by
  have h : ∀ i : Fin 6, ∀ j : Fin 6, i < j → slt (sixN.getD i Str.empty) (sixN.getD j Str.empty) = true := by decide +kernel
  refine List.pairwise_iff_getElem.mpr fun i j hi hj hij => ?_
  have z := h ⟨i, hi⟩ ⟨j, hj⟩ hij
  rw [List.getD_eq_getElem?_getD, List.getD_eq_getElem?_getD, List.getElem?_eq_getElem hi, List.getElem?_eq_getElem hj] at z
  exact z
theorem sub_strict (f : Nat → Bool) : Strict (sub f) := six_strict.sublist (keepI_sub f sixN 6)
theorem strict_sorted {xs : List PySem.Str} (h : Strict xs) : Sorted xs := h.imp fun h => slt_asym h
theorem strict_nodup {xs : List PySem.Str} (h : Strict xs) : xs.Nodup := h.imp fun h => slt_ne h
theorem strict_ext {xs ys : List PySem.Str} (h1 : Strict xs) (h2 : Strict ys) (h : ∀ x, x ∈ xs ↔ x ∈ ys) : xs = ys :=
  sorted_eq (strict_sorted h1) (strict_sorted h2) ((List.perm_ext_iff_of_nodup (strict_nodup h1) (strict_nodup h2)).mpr h)
theorem six_inj {k l : Nat} {x : PySem.Str} (h1 : sixN[k]? = some x) (h2 : sixN[l]? = some x) : k = l := by
  obtain ⟨hk, e1⟩ := List.getElem?_eq_some_iff.mp h1
  obtain ⟨hl, e2⟩ := List.getElem?_eq_some_iff.mp h2
  rcases Nat.lt_trichotomy k l with h | h | h
  · exact absurd (e1.trans e2.symm) (slt_ne (List.pairwise_iff_getElem.mp six_strict k l hk hl h))
  · exact h
  · exact absurd (e2.trans e1.symm) (slt_ne (List.pairwise_iff_getElem.mp six_strict l k hl hk h))
theorem mem_sub {f : Nat → Bool} {x : PySem.Str} : x ∈ sub f ↔ ∃ k, k < 6 ∧ f k = true ∧ sixN[k]? = some x := mem_keepI
theorem mem_both {f g : Nat → Bool} {x : PySem.Str} : x ∈ sub (fun k => f k && !g k) ↔ x ∈ sub f ∧ x ∉ sub g := by
  rw [mem_sub, mem_sub, mem_sub]
  constructor
  · rintro ⟨k, h1, h2, h3⟩
    rw [Bool.and_eq_true] at h2
    refine ⟨⟨k, h1, h2.1, h3⟩, fun ⟨l, g1, g2, g3⟩ => ?_⟩
    have e := six_inj h3 g3
    subst e
    rw [g2] at h2
    exact absurd h2.2 (by decide)
  · rintro ⟨⟨k, h1, h2, h3⟩, h⟩
    refine ⟨k, h1, ?_, h3⟩
    cases hg : g k with
    | true => exact absurd ⟨k, h1, hg, h3⟩ h
    | false => rw [h2]; rfl
/-- the bits of what goes -/
noncomputable def difB (a b : Int) (k : Nat) : Bool := bitOf a k && !bitOf b k
theorem bit01 (b : Int) (k : Nat) : (b.fdiv (2 ^ k)).fmod 2 = 0 ∨ (b.fdiv (2 ^ k)).fmod 2 = 1 := by
  have h1 := Int.fmod_nonneg_of_pos (b.fdiv (2 ^ k)) (b := 2) (by decide)
  have h2 := Int.fmod_lt_of_pos (b.fdiv (2 ^ k)) (b := 2) (by decide)
  omega
theorem chg_one (a b : Int) (k : Nat) : (chgOf a b k = 1) = (difB a b k = true) := by
  unfold chgOf difB bitOf
  rcases bit01 a k with h | h <;> rcases bit01 b k with h2 | h2 <;> rw [h, h2] <;> simp
theorem chg_neg (a b : Int) (k : Nat) : (chgOf a b k = -1) = (difB b a k = true) := by
  unfold chgOf difB bitOf
  rcases bit01 a k with h | h <;> rcases bit01 b k with h2 | h2 <;> rw [h, h2] <;> simp
/-- a number by six bits -/
noncomputable def num6 (c0 c1 c2 c3 c4 c5 : Bool) : Int := (if c0 then 1 else 0) + (if c1 then 2 else 0) + (if c2 then 4 else 0) + (if c3 then 8 else 0) + (if c4 then 16 else 0) + (if c5 then 32 else 0)
theorem num6_bits : ∀ c0 c1 c2 c3 c4 c5 : Bool, bitOf (num6 c0 c1 c2 c3 c4 c5) 0 = c0 ∧ bitOf (num6 c0 c1 c2 c3 c4 c5) 1 = c1 ∧ bitOf (num6 c0 c1 c2 c3 c4 c5) 2 = c2 ∧ bitOf (num6 c0 c1 c2 c3 c4 c5) 3 = c3 ∧ bitOf (num6 c0 c1 c2 c3 c4 c5) 4 = c4 ∧ bitOf (num6 c0 c1 c2 c3 c4 c5) 5 = c5 := by decide +kernel
theorem sum_pows (ch : Nat → Int) (way : Int) (f : Nat → Bool) (h : ∀ k, (ch k = way) = (f k = true)) : (pows ch way 6).sum = num6 (f 0) (f 1) (f 2) (f 3) (f 4) (f 5) := by
  have e : ∀ k : Nat, (if ch k = way then [(2 : Int) ^ k] else []).sum = if f k then (2 : Int) ^ k else 0 := fun k => by
    by_cases hk : ch k = way
    · rw [if_pos hk, if_pos (by rw [← h k]; exact hk)]; simp
    · rw [if_neg hk, if_neg (by rw [← h k]; exact hk)]; rfl
  show ((((((([] ++ _) ++ _) ++ _) ++ _) ++ _) ++ _) : List Int).sum = _
  rw [List.sum_append, List.sum_append, List.sum_append, List.sum_append, List.sum_append, List.sum_append, e, e, e, e, e, e]
  unfold num6
  simp
theorem six_cases {f g : Nat → Bool} (h0 : f 0 = g 0) (h1 : f 1 = g 1) (h2 : f 2 = g 2) (h3 : f 3 = g 3) (h4 : f 4 = g 4) (h5 : f 5 = g 5) : ∀ k, k < 6 → f k = g k
  | 0, _ => h0
  | 1, _ => h1
  | 2, _ => h2
  | 3, _ => h3
  | 4, _ => h4
  | 5, _ => h5
  | n + 6, h => absurd h (by omega)
theorem goes_names (a b : Int) : namesOf (goesOf a b) = sub (difB a b) := by
  have e : goesOf a b = num6 (difB a b 0) (difB a b 1) (difB a b 2) (difB a b 3) (difB a b 4) (difB a b 5) := sum_pows _ _ _ (chg_one a b)
  obtain ⟨h0, h1, h2, h3, h4, h5⟩ := num6_bits (difB a b 0) (difB a b 1) (difB a b 2) (difB a b 3) (difB a b 4) (difB a b 5)
  rw [← e] at h0 h1 h2 h3 h4 h5
  exact keepI_congr (six_cases h0 h1 h2 h3 h4 h5)
theorem comes_names (a b : Int) : namesOf (comesOf a b) = sub (difB b a) := by
  have e : comesOf a b = num6 (difB b a 0) (difB b a 1) (difB b a 2) (difB b a 3) (difB b a 4) (difB b a 5) := sum_pows _ _ _ (chg_neg a b)
  obtain ⟨h0, h1, h2, h3, h4, h5⟩ := num6_bits (difB b a 0) (difB b a 1) (difB b a 2) (difB b a 3) (difB b a 4) (difB b a 5)
  rw [← e] at h0 h1 h2 h3 h4 h5
  exact keepI_congr (six_cases h0 h1 h2 h3 h4 h5)
theorem mem_goes {a b : Int} {x : PySem.Str} : x ∈ namesOf (goesOf a b) ↔ x ∈ namesOf a ∧ x ∉ namesOf b := by
  rw [goes_names]; exact mem_both
theorem mem_comes {a b : Int} {x : PySem.Str} : x ∈ namesOf (comesOf a b) ↔ x ∈ namesOf b ∧ x ∉ namesOf a := by
  rw [comes_names]; exact mem_both
theorem names_strict (b : Int) : Strict (namesOf b) := sub_strict _
/-- the difference of two lists in order -/
theorem sld_ok : ∀ (n : Nat) (xs ys : List PySem.Str), xs.length + ys.length ≤ n → Strict xs → Strict ys →
    (sld xs ys).1.Sublist xs ∧ (sld xs ys).2.Sublist ys ∧ (∀ z, z ∈ (sld xs ys).1 ↔ z ∈ xs ∧ z ∉ ys) ∧ (∀ z, z ∈ (sld xs ys).2 ↔ z ∈ ys ∧ z ∉ xs)
  | n, [], ys, _, _, _ => by
    rw [sld_nil_left]
    exact ⟨.slnil, .refl _, fun z => by simp, fun z => by simp⟩
  | n, x :: xs, [], _, _, _ => by
    rw [sld_nil_right]
    exact ⟨.refl _, .slnil, fun z => by simp, fun z => by simp⟩
  | 0, x :: xs, y :: ys, h, _, _ => by simp at h
  | n + 1, x :: xs, y :: ys, h, hx, hy => by
    simp only [List.length_cons] at h
    obtain ⟨hx1, hx2⟩ := List.pairwise_cons.mp hx
    obtain ⟨hy1, hy2⟩ := List.pairwise_cons.mp hy
    rw [sld_cons]
    by_cases c : slt x y = true
    · rw [if_pos c]
      obtain ⟨s1, s2, s3, s4⟩ := sld_ok n xs (y :: ys) (by simp only [List.length_cons]; omega) hx2 hy
      have hnx : x ∉ y :: ys := fun hm => by
        rcases List.mem_cons.mp hm with e | hm
        · exact slt_ne c e
        · exact slt_ne (slt_tr c (hy1 x hm)) rfl
      refine ⟨s1.cons₂ x, s2, fun z => ?_, fun z => ?_⟩
      · rw [List.mem_cons, s3, List.mem_cons (a := z) (b := x) (l := xs)]
        constructor
        · rintro (rfl | h)
          · exact ⟨.inl rfl, hnx⟩
          · exact ⟨.inr h.1, h.2⟩
        · rintro ⟨rfl | h, h2⟩
          · exact .inl rfl
          · exact .inr ⟨h, h2⟩
      · rw [s4, List.mem_cons (a := z) (b := x)]
        constructor
        · rintro ⟨h1, h2⟩
          exact ⟨h1, fun h3 => h3.elim (fun e => hnx (e ▸ h1)) h2⟩
        · rintro ⟨h1, h2⟩
          exact ⟨h1, fun h3 => h2 (.inr h3)⟩
    · rw [if_neg c]
      by_cases d : slt y x = true
      · rw [if_pos d]
        obtain ⟨s1, s2, s3, s4⟩ := sld_ok n (x :: xs) ys (by simp only [List.length_cons]; omega) hx hy2
        have hny : y ∉ x :: xs := fun hm => by
          rcases List.mem_cons.mp hm with e | hm
          · exact slt_ne d e
          · exact slt_ne (slt_tr d (hx1 y hm)) rfl
        refine ⟨s1, s2.cons₂ y, fun z => ?_, fun z => ?_⟩
        · rw [s3, List.mem_cons (a := z) (b := y)]
          constructor
          · rintro ⟨h1, h2⟩
            exact ⟨h1, fun h3 => h3.elim (fun e => hny (e ▸ h1)) h2⟩
          · rintro ⟨h1, h2⟩
            exact ⟨h1, fun h3 => h2 (.inr h3)⟩
        · rw [List.mem_cons, s4, List.mem_cons (a := z) (b := y) (l := ys)]
          constructor
          · rintro (rfl | h)
            · exact ⟨.inl rfl, hny⟩
            · exact ⟨.inr h.1, h.2⟩
          · rintro ⟨rfl | h, h2⟩
            · exact .inl rfl
            · exact .inr ⟨h, h2⟩
      · rw [if_neg d]
        obtain rfl := slt_eq (by simpa using c) (by simpa using d)
        obtain ⟨s1, s2, s3, s4⟩ := sld_ok n xs ys (by omega) hx2 hy2
        have hnx : x ∉ xs := fun hm => slt_ne (hx1 x hm) rfl
        have hny : x ∉ ys := fun hm => slt_ne (hy1 x hm) rfl
        refine ⟨s1.cons x, s2.cons x, fun z => ?_, fun z => ?_⟩
        · rw [s3, List.mem_cons, List.mem_cons]
          constructor
          · rintro ⟨h1, h2⟩
            exact ⟨.inr h1, fun h3 => h3.elim (fun e => hnx (e ▸ h1)) h2⟩
          · rintro ⟨h1, h2⟩
            exact ⟨h1.resolve_left fun e => h2 (.inl e), fun h3 => h2 (.inr h3)⟩
        · rw [s4, List.mem_cons, List.mem_cons]
          constructor
          · rintro ⟨h1, h2⟩
            exact ⟨.inr h1, fun h3 => h3.elim (fun e => hny (e ▸ h1)) h2⟩
          · rintro ⟨h1, h2⟩
            exact ⟨h1.resolve_left fun e => h2 (.inl e), fun h3 => h2 (.inr h3)⟩
theorem names_le (b : Int) : (namesOf b).length ≤ 6 := keepI_len _ _ 6
theorem names_step (b : Int) : ∀ i, i + 1 < (namesOf b).length → (namesOf b).getD (i + 1) Str.empty ≠ (namesOf b).getD i Str.empty := fun i hi e => by
  have z := List.pairwise_iff_getElem.mp (names_strict b) i (i + 1) (by omega) hi (by omega)
  rw [← gt_get hi, ← gt_get (by omega : i < (namesOf b).length)] at z
  exact slt_ne z e.symm
noncomputable def Six (xs : List PySem.Str) : Prop := ∀ x ∈ xs, x ∈ sixN
theorem names_six (b : Int) : Six (namesOf b) := fun x hx => List.mem_of_mem_take ((keepI_sub _ _ 6).subset hx)
theorem pair_ok (a b : Int) : sld (namesOf a) (namesOf b) = (namesOf (goesOf a b), namesOf (comesOf a b)) := by
  obtain ⟨s1, s2, s3, s4⟩ := sld_ok _ (namesOf a) (namesOf b) (Nat.le_refl _) (names_strict a) (names_strict b)
  refine Prod.ext (strict_ext ((names_strict a).sublist s1) (names_strict _) fun x => ?_) (strict_ext ((names_strict b).sublist s2) (names_strict _) fun x => ?_)
  · rw [s3, mem_goes]
  · rw [s4, mem_comes]
end
section
variable {w : World} {p : PySem.Program} {loose : List PySem.Str} {mean : ExcName → Option Value} {mg mb : PySem.Str → Option Value}
example : True := by
  w_top off
  trivial
theorem ord_gen {P Q R S T : List PySem.Str} (hP : Strict P) (hR : Strict R) (hT : Strict T) (hd : ∀ x, x ∈ P → x ∉ Q → x ∈ R → x ∈ S) (hm : ∀ x, x ∈ T ↔ (x ∈ P ∧ x ∉ Q) ∨ (x ∈ R ∧ x ∉ S)) : inOrd (flt P Q) (flt R S) = T := by
  have nd : (flt P Q ++ flt R S).Nodup := by
    refine List.nodup_append.mpr ⟨(strict_nodup hP).filter _, (strict_nodup hR).filter _, fun x hx y hy e => ?_⟩
    subst e
    have hx' := List.mem_filter.mp hx
    have hy' := List.mem_filter.mp hy
    exact (of_decide_eq_true hy'.2) (hd x hx'.1 (of_decide_eq_true hx'.2) hy'.1)
  refine sorted_eq (inOrd_ok _ _).2 (strict_sorted hT) ((inOrd_ok _ _).1.trans ((List.perm_ext_iff_of_nodup nd (strict_nodup hT)).mpr fun x => ?_))
  rw [hm, List.mem_append, List.mem_filter, List.mem_filter, decide_eq_true_iff, decide_eq_true_iff]
theorem oneOf_patch (a b c : Int) : oneOf (namesOf (goesOf a b), namesOf (comesOf a b)) (namesOf (goesOf b c), namesOf (comesOf b c)) = (namesOf (goesOf a c), namesOf (comesOf a c)) := by
  have g1 := fun x => mem_goes (a := a) (b := b) (x := x)
  have g2 := fun x => mem_goes (a := b) (b := c) (x := x)
  have g3 := fun x => mem_goes (a := a) (b := c) (x := x)
  have c1 := fun x => mem_comes (a := a) (b := b) (x := x)
  have c2 := fun x => mem_comes (a := b) (b := c) (x := x)
  have c3 := fun x => mem_comes (a := a) (b := c) (x := x)
  have s1 := names_strict (goesOf a b)
  have s2 := names_strict (goesOf b c)
  have s3 := names_strict (goesOf a c)
  have s4 := names_strict (comesOf a b)
  have s5 := names_strict (comesOf b c)
  have s6 := names_strict (comesOf a c)
  generalize namesOf (goesOf a b) = G1 at *
  generalize namesOf (goesOf b c) = G2 at *
  generalize namesOf (goesOf a c) = G3 at *
  generalize namesOf (comesOf a b) = C1 at *
  generalize namesOf (comesOf b c) = C2 at *
  generalize namesOf (comesOf a c) = C3 at *
  generalize namesOf a = A at *
  generalize namesOf b = B at *
  generalize namesOf c = C at *
  show (inOrd (flt G1 C2) (flt G2 C1), inOrd (flt C1 G2) (flt C2 G1)) = (G3, C3)
  rw [ord_gen s1 s2 s3 (fun x h1 h2 h3 => by rw [g1] at h1; rw [g2] at h3; exact absurd h3.1 h1.2) fun x => ?_, ord_gen s4 s5 s6 (fun x h1 h2 h3 => by rw [c1] at h1; rw [c2] at h3; exact absurd h1.1 h3.2) fun x => ?_]
  · rw [c3, g1, g2, c1, c2]
    by_cases ha : x ∈ A <;> by_cases hb : x ∈ B <;> by_cases hc : x ∈ C <;> simp [ha, hb, hc]
  · rw [g3, g1, g2, c1, c2]
    by_cases ha : x ∈ A <;> by_cases hb : x ∈ B <;> by_cases hc : x ∈ C <;> simp [ha, hb, hc]
noncomputable abbrev patchOf (a b : Int) : List PySem.Str × List PySem.Str := (namesOf (goesOf a b), namesOf (comesOf a b))
section
variable {β : Type} {P : Int → Int → β} {op : β → β → β}
theorem front_gen (h : ∀ a b c, op (P a b) (P b c) = P a c) (f : Nat → Int) : ∀ (n : Nat), (((List.range (n + 1)).map fun k => P (f k) (f (k + 1))).drop 1).foldl op (P (f 0) (f 1)) = P (f 0) (f (n + 1))
  | 0 => rfl
  | n + 1 => by
    rw [List.range_succ, List.map_append, List.drop_append_of_le_length (by rw [List.length_map, List.length_range]; omega), List.foldl_append, front_gen h f n, List.map_singleton, List.foldl_cons, List.foldl_nil]
    exact h _ _ _
theorem back_gen (h : ∀ a b c, op (P a b) (P b c) = P a c) (f : Nat → Int) (c : Int) : ∀ (n : Nat), (((List.range n).map fun k => P (f k) (f (k + 1))).reverse).foldl (fun b q => op q b) (P (f n) c) = P (f 0) c
  | 0 => rfl
  | n + 1 => by
    rw [List.range_succ, List.map_append, List.reverse_append, List.map_singleton, List.reverse_singleton, List.singleton_append, List.foldl_cons, h]
    exact back_gen h f c n
theorem both_gen (h : ∀ a b c, op (P a b) (P b c) = P a c) (f : Nat → Int) (d : β) (n : Nat) :
    (((List.range (n + 1)).map fun k => P (f k) (f (k + 1))).drop 1).foldl op (((List.range (n + 1)).map fun k => P (f k) (f (k + 1))).getD 0 d) = P (f 0) (f (n + 1)) ∧
    (((List.range (n + 1)).map fun k => P (f k) (f (k + 1))).dropLast.reverse).foldl (fun b q => op q b) (((List.range (n + 1)).map fun k => P (f k) (f (k + 1))).getD (((List.range (n + 1)).map fun k => P (f k) (f (k + 1))).length - 1) d) = P (f 0) (f (n + 1)) := by
  constructor
  · have e : ((List.range (n + 1)).map fun k => P (f k) (f (k + 1))).getD 0 d = P (f 0) (f 1) := by
      rw [List.range_succ_eq_map]; rfl
    rw [e]
    exact front_gen h f n
  · have e : ((List.range (n + 1)).map fun k => P (f k) (f (k + 1))).getD (((List.range (n + 1)).map fun k => P (f k) (f (k + 1))).length - 1) d = P (f n) (f (n + 1)) := by
      rw [List.length_map, List.length_range, show n + 1 - 1 = n from rfl, List.getD_eq_getElem?_getD, List.getElem?_map, List.getElem?_range (by omega)]; rfl
    rw [e, show ((List.range (n + 1)).map fun k => P (f k) (f (k + 1))).dropLast = (List.range n).map fun k => P (f k) (f (k + 1)) by rw [List.range_succ, List.map_append, List.map_singleton, List.dropLast_concat]]
    exact back_gen h f _ n
end
theorem both_ok (nums : List Int) (h : 4 ≤ nums.length) : frontOf ((List.range (nums.length - 1)).map fun k => patchOf (nums.getD k 0) (nums.getD (k + 1) 0)) = patchOf (nums.getD 0 0) (nums.getD (nums.length - 1) 0) ∧
    backOf ((List.range (nums.length - 1)).map fun k => patchOf (nums.getD k 0) (nums.getD (k + 1) 0)) = patchOf (nums.getD 0 0) (nums.getD (nums.length - 1) 0) := by
  have z := both_gen (P := patchOf) (op := oneOf) oneOf_patch (fun k => nums.getD k 0) ([], []) (nums.length - 2)
  rw [show nums.length - 2 + 1 = nums.length - 1 from (sub_split (i := 1) (Nat.lt_of_lt_of_le (by decide) h)).symm] at z
  exact z
end
section
variable {w : World} {p : PySem.Program} {loose : List PySem.Str} {mean : ExcName → Option Value} {mg mb : PySem.Str → Option Value}
example : True := by
  w_top off
  trivial
noncomputable abbrev bagOf (xs : List PySem.Str) : List PySem.Str := xs ++ pickS xs none none (some 2)
theorem pickS_mem {xs : List PySem.Str} {lo hi st : Option Int} {x : PySem.Str} (h : x ∈ pickS xs lo hi st) : x ∈ xs := by
  unfold pickS at h
  obtain ⟨i, _, hi⟩ := List.mem_filterMap.mp h
  exact List.mem_of_getElem? hi
theorem bag_mem {xs : List PySem.Str} {x : PySem.Str} : x ∈ bagOf xs ↔ x ∈ xs := by
  rw [List.mem_append]
  exact ⟨fun h => h.elim id pickS_mem, .inl⟩
theorem strs_of : ∀ xs : List PySem.Str, StrsAre (xs.map fun x => Value.str x 0) xs
  | [] => .nil
  | x :: r => .cons x 0 (strs_of r)
theorem bag_le (b : Int) : (bagOf (namesOf b)).length ≤ 100 := by
  rw [List.length_append]
  have h1 := names_le b
  have h2 := pickS_le (strs_of (namesOf b)) none none (some 2)
  omega
theorem bag_six (b : Int) : Six (bagOf (namesOf b)) := fun x hx => names_six b x (bag_mem.mp hx)
theorem kept_ok (a z : Int) : (bagOf (namesOf a)).filter (fun x => decide (x ∉ namesOf (goesOf a z))) = (bagOf (namesOf a)).filter (fun x => decide (x ∈ namesOf z)) := by
  refine List.filter_congr fun x hx => ?_
  have ha := bag_mem.mp hx
  have hg := mem_goes (a := a) (b := z) (x := x)
  by_cases hz : x ∈ namesOf z
  · rw [decide_eq_true hz, decide_eq_true]
    exact fun h => (hg.mp h).2 hz
  · rw [decide_eq_false hz, decide_eq_false]
    exact fun h => h (hg.mpr ⟨ha, hz⟩)
/-- each name as often as it was in the bag, a new one once -/
noncomputable def copies (zs bag : List PySem.Str) : List PySem.Str := zs.flatMap fun x => List.replicate (max 1 (bag.count x)) x
theorem copies_sorted {zs bag : List PySem.Str} (h : Strict zs) : Sorted (copies zs bag) := by
  unfold copies
  refine List.pairwise_flatMap.mpr ⟨fun a _ => List.pairwise_replicate.mpr (.inr (slt_irr a)), h.imp fun hab x hx y hy => ?_⟩
  rw [List.eq_of_mem_replicate hx, List.eq_of_mem_replicate hy]
  exact slt_asym hab
theorem copies_count {bag : List PySem.Str} (x : PySem.Str) : ∀ {zs : List PySem.Str}, zs.Nodup → (copies zs bag).count x = if x ∈ zs then max 1 (bag.count x) else 0
  | [], _ => rfl
  | z :: zs, h => by
    obtain ⟨h1, h2⟩ := List.nodup_cons.mp h
    show (List.replicate (max 1 (bag.count z)) z ++ copies zs bag).count x = _
    rw [List.count_append, copies_count x h2, List.count_replicate]
    by_cases e : z = x
    · subst e
      rw [if_pos (by simp), if_neg h1, if_pos (.head _)]
      rfl
    · rw [if_neg (by simpa using e), Nat.zero_add]
      by_cases hx : x ∈ zs
      · rw [if_pos hx, if_pos (.tail _ hx)]
      · rw [if_neg hx, if_neg fun hm => (List.mem_cons.mp hm).elim (fun q => e q.symm) hx]
theorem last_ok (a z : Int) : inOrd ((bagOf (namesOf a)).filter fun x => decide (x ∉ namesOf (goesOf a z))) (namesOf (comesOf a z)) = copies (namesOf z) (bagOf (namesOf a)) := by
  have g1 := fun x => mem_goes (a := a) (b := z) (x := x)
  have c1 := fun x => mem_comes (a := a) (b := z) (x := x)
  have s1 := strict_nodup (names_strict (comesOf a z))
  have s2 := names_strict z
  have hb := fun x => bag_mem (xs := namesOf a) (x := x)
  generalize bagOf (namesOf a) = bag at *
  generalize namesOf (goesOf a z) = G at *
  generalize namesOf (comesOf a z) = C at *
  generalize namesOf a = A at *
  generalize namesOf z = Z at *
  refine sorted_eq (inOrd_ok _ _).2 (copies_sorted s2) ((inOrd_ok _ _).1.trans (List.perm_iff_count.mpr fun x => ?_))
  rw [List.count_append, copies_count x (strict_nodup s2)]
  have hc : C.count x = if x ∈ C then 1 else 0 := s1.count
  have hk : (bag.filter fun x => decide (x ∉ G)).count x = if x ∈ G then 0 else bag.count x := by
    by_cases h : x ∈ G
    · rw [if_pos h]
      refine List.count_eq_zero_of_not_mem fun hm => ?_
      exact (of_decide_eq_true (List.mem_filter.mp hm).2) h
    · rw [if_neg h]
      exact List.count_filter (by simpa using h)
  rw [hc, hk]
  have hbc : x ∈ A → 1 ≤ bag.count x := fun h => List.count_pos_iff.mpr ((hb x).mpr h)
  have hbz : x ∉ A → bag.count x = 0 := fun h => List.count_eq_zero_of_not_mem fun hm => h ((hb x).mp hm)
  by_cases ha : x ∈ A <;> by_cases hz : x ∈ Z
  · rw [if_neg (fun h => ((g1 x).mp h).2 hz), if_neg (fun h => ((c1 x).mp h).2 ha), if_pos hz]
    have := hbc ha
    omega
  · rw [if_pos ((g1 x).mpr ⟨ha, hz⟩), if_neg (fun h => hz ((c1 x).mp h).1), if_neg hz]
  · rw [if_neg (fun h => ha ((g1 x).mp h).1), if_pos ((c1 x).mpr ⟨hz, ha⟩), if_pos hz, hbz ha]
    rfl
  · rw [if_neg (fun h => ha ((g1 x).mp h).1), if_neg (fun h => hz ((c1 x).mp h).1), if_neg hz, hbz ha]
theorem copies_six (a z : Int) : Six (copies (namesOf z) (bagOf (namesOf a))) := fun x hx => by
  obtain ⟨y, hy, h⟩ := List.mem_flatMap.mp hx
  rw [List.eq_of_mem_replicate h]
  exact names_six _ _ hy
end
section
variable {w : World} {p : PySem.Program} {loose : List PySem.Str} {mean : ExcName → Option Value} {mg mb : PySem.Str → Option Value}
example : True := by
  w_top off
  trivial
theorem pickS_to {α : Type} (xs : List α) (k : Nat) (h : k ≤ xs.length) : pickS xs none (some (0 + (k : Int))) none = xs.take k := by
  have e : sliceBounds none (some (0 + (k : Int))) none xs.length = (((0 : Nat) : Int), ((k : Nat) : Int), 1) := by
    simp only [sliceBounds, Option.getD_none, show (1 : Int) > 0 by decide, if_true, if_neg (show ¬ (0 + (k : Int) < 0) by omega)]
    congr 1
    congr 1
    omega
  unfold pickS
  rw [e]
  simp only [sliceRange_one]
  have key : ∀ n, n ≤ xs.length → ((List.range n).map (0 + ·)).filterMap (xs[·]?) = xs.take n := by
    intro n
    induction n with
    | zero => intro _; rfl
    | succ n ih =>
      intro hn
      rw [List.range_succ, List.map_append, List.filterMap_append, ih (by omega), List.take_add_one, List.map_singleton, Nat.zero_add, List.getElem?_eq_getElem (by omega)]
      simp [List.getElem?_eq_getElem (show n < xs.length by omega)]
  rw [Nat.sub_zero]
  exact key k h
/-- those of l, behind pre, of which S has no more to take away -/
noncomputable def remF (S : List PySem.Str) : List PySem.Str → List PySem.Str → List PySem.Str
  | _, [] => []
  | pre, y :: r => (if S.count y ≤ pre.count y then [y] else []) ++ remF S (pre ++ [y]) r
theorem remF_snoc (S : List PySem.Str) (y : PySem.Str) : ∀ (l pre : List PySem.Str), remF S pre (l ++ [y]) = remF S pre l ++ (if S.count y ≤ (pre ++ l).count y then [y] else [])
  | [], pre => by simp [remF]
  | z :: l, pre => by
    show _ ++ remF S (pre ++ [z]) (l ++ [y]) = (_ ++ remF S (pre ++ [z]) l) ++ _
    rw [remF_snoc S y l (pre ++ [z]), List.append_assoc, List.append_assoc]
    rfl
theorem count_cons_ne {x y : PySem.Str} {S : List PySem.Str} (h : y ≠ x) : (x :: S).count y = S.count y := List.count_cons_of_ne (fun e => h e.symm)
theorem count_snoc_ne {x y : PySem.Str} {S : List PySem.Str} (h : y ≠ x) : (S ++ [y]).count x = S.count x := by
  rw [List.count_append, List.count_cons_of_ne h]; rfl
theorem count_snoc {y : PySem.Str} {S : List PySem.Str} : (S ++ [y]).count y = S.count y + 1 := by
  rw [List.count_append, List.count_singleton_self]
theorem remF_same (x : PySem.Str) (S : List PySem.Str) : ∀ (l pre : List PySem.Str), S.count x < pre.count x → remF (x :: S) pre l = remF S pre l
  | [], _, _ => rfl
  | y :: l, pre, h => by
    show _ ++ remF (x :: S) (pre ++ [y]) l = _ ++ remF S (pre ++ [y]) l
    have h2 : S.count x < (pre ++ [y]).count x := Nat.lt_of_lt_of_le h (by rw [List.count_append]; exact Nat.le_add_right _ _)
    rw [remF_same x S l _ h2]
    congr 1
    by_cases e : y = x
    · subst e
      rw [List.count_cons_self, if_pos (by omega), if_pos (by omega)]
    · rw [count_cons_ne e]
theorem remF_erase (x : PySem.Str) (S : List PySem.Str) : ∀ (l pre : List PySem.Str), pre.count x ≤ S.count x → remF (x :: S) pre l = (remF S pre l).erase x
  | [], _, _ => rfl
  | y :: l, pre, h => by
    show (if (x :: S).count y ≤ pre.count y then [y] else []) ++ remF (x :: S) (pre ++ [y]) l = ((if S.count y ≤ pre.count y then [y] else []) ++ remF S (pre ++ [y]) l).erase x
    by_cases e : y = x
    · subst e
      rw [List.count_cons_self, if_neg (by omega), List.nil_append]
      by_cases c : S.count y ≤ pre.count y
      · rw [if_pos c, remF_same y S l _ (by rw [count_snoc]; omega)]
        show _ = (y :: remF S (pre ++ [y]) l).erase y
        rw [List.erase_cons_head]
      · rw [if_neg c, List.nil_append]
        exact remF_erase y S l _ (by rw [count_snoc]; omega)
    · rw [count_cons_ne e, remF_erase x S l _ (by rw [count_snoc_ne e]; exact h)]
      by_cases c : S.count y ≤ pre.count y
      · rw [if_pos c]
        show y :: _ = (y :: remF S (pre ++ [y]) l).erase x
        rw [List.erase_cons_tail (by simpa using e)]
        rfl
      · rw [if_neg c]
        rfl
theorem remF_mem (x : PySem.Str) (S : List PySem.Str) : ∀ (l pre : List PySem.Str), pre.count x ≤ S.count x → (x ∈ remF S pre l ↔ S.count x < pre.count x + l.count x)
  | [], pre, h => by
    simp only [remF, List.count_nil, List.not_mem_nil, false_iff]
    omega
  | y :: l, pre, h => by
    show x ∈ _ ++ remF S (pre ++ [y]) l ↔ _
    rw [List.mem_append]
    by_cases e : y = x
    · subst e
      rw [List.count_cons_self]
      by_cases c : S.count y ≤ pre.count y
      · rw [if_pos c]
        exact ⟨fun _ => by omega, fun _ => .inl (.head _)⟩
      · rw [if_neg c, remF_mem y S l _ (by rw [count_snoc]; omega), count_snoc]
        constructor
        · rintro (h | h)
          · cases h
          · omega
        · intro h
          exact .inr (by omega)
    · rw [List.count_cons_of_ne e, remF_mem x S l _ (by rw [count_snoc_ne e]; exact h), count_snoc_ne e]
      constructor
      · rintro (h | h)
        · exfalso
          by_cases c : S.count y ≤ pre.count y
          · rw [if_pos c] at h
            exact e (List.mem_singleton.mp h).symm
          · rw [if_neg c] at h
            cases h
        · exact h
      · exact .inr
theorem diffUp_eq (xs ys : List PySem.Str) : ∀ j, j ≤ ys.length → diffUp xs ys j = remF xs [] (ys.take j)
  | 0, _ => rfl
  | j + 1, h => by
    have hj : j < ys.length := h
    have e : ys.getD (0 + (j : Int)).toNat Str.empty = ys[j] := by rw [show (0 + (j : Int)).toNat = j by omega]; exact gt_get hj
    show diffUp xs ys j ++ _ = _
    rw [diffUp_eq xs ys j (by omega), List.take_add_one, List.getElem?_eq_getElem hj, e, pickS_to ys j (by omega)]
    show _ = remF xs [] (ys.take j ++ [ys[j]])
    rw [remF_snoc, List.nil_append]
    congr 1
    by_cases c : xs.count ys[j] ≤ (ys.take j).count ys[j]
    · rw [if_pos c, if_pos (by omega)]
    · rw [if_neg c, if_neg (by omega)]
theorem uAll_eq (xs ys : List PySem.Str) : ∀ (S T : List PySem.Str), xs = T ++ S → uAll S ([], ys) = (diffDown xs ys S.length, remF S [] ys)
  | [], T, h => by
    have e : ∀ (l pre : List PySem.Str), remF [] pre l = l := by
      intro l
      induction l with
      | nil => intro _; rfl
      | cons y l ih =>
        intro pre
        show _ ++ remF [] (pre ++ [y]) l = _
        rw [ih, if_pos (by simp)]
        rfl
    rw [e]
    rfl
  | x :: S, T, h => by
    have ih := uAll_eq xs ys S (T ++ [x]) (by rw [h, List.append_assoc]; rfl)
    have e1 : uAll (x :: S) ([], ys) = uStep (uAll S ([], ys)) x := by
      unfold uAll
      rw [List.reverse_cons, List.foldl_append]
      rfl
    have hlen : xs.length = T.length + (S.length + 1) := by rw [h, List.length_append]; rfl
    have ei : ((xs.length : Int) - 1 + (S.length : Int) * -1).toNat = T.length := by omega
    have ex : xs.getD T.length Str.empty = x := by rw [h]; simp
    have ep : pickS xs (some ((xs.length : Int) - 1 + (S.length : Int) * -1 + 1)) none none = S := by
      rw [pickS_fromI _ (by omega), show ((xs.length : Int) - 1 + (S.length : Int) * -1 + 1).toNat = T.length + 1 by omega, h]
      simp
    have em := remF_mem x S ys [] (Nat.zero_le _)
    rw [List.count_nil, Nat.zero_add] at em
    have ee := remF_erase x S ys [] (Nat.zero_le _)
    have ed : diffDown xs ys (S.length + 1) = diffDown xs ys S.length ++ (if ys.count x ≤ S.count x then [x] else []) := by
      show diffDown xs ys S.length ++ _ = _
      rw [ei, ex, ep]
      congr 1
      by_cases c : ys.count x ≤ S.count x
      · rw [if_pos c, if_pos (by omega)]
      · rw [if_neg c, if_neg (by omega)]
    rw [e1, ih]
    show uStep _ x = (diffDown xs ys (S.length + 1), _)
    unfold uStep
    rw [ed, ee]
    by_cases c : ys.count x ≤ S.count x
    · have hn : x ∉ remF S [] ys := fun hm => by have := em.mp hm; omega
      rw [if_neg hn, if_pos c, List.erase_of_not_mem hn]
    · rw [if_pos (em.mpr (by omega)), if_neg c, List.append_nil]
theorem bags_gen (xs ys : List PySem.Str) : uAll xs ([], ys) = (diffDown xs ys xs.length, diffUp xs ys ys.length) := by
  rw [uAll_eq xs ys xs [] rfl, diffUp_eq xs ys _ (Nat.le_refl _), List.take_length]
theorem bags_ok (a b : Int) : uAll (bagOf (namesOf a)) ([], bagOf (namesOf b)) = (diffDown (bagOf (namesOf a)) (bagOf (namesOf b)) (bagOf (namesOf a)).length, diffUp (bagOf (namesOf a)) (bagOf (namesOf b)) (bagOf (namesOf b)).length) := bags_gen _ _
theorem uAll_sub : ∀ (S : List PySem.Str) (ys : List PySem.Str), (∀ x ∈ (uAll S ([], ys)).1, x ∈ S) ∧ (∀ x ∈ (uAll S ([], ys)).2, x ∈ ys)
  | [], ys => ⟨fun x h => (nomatch h), fun x h => h⟩
  | x :: S, ys => by
    obtain ⟨h1, h2⟩ := uAll_sub S ys
    have e1 : uAll (x :: S) ([], ys) = uStep (uAll S ([], ys)) x := by
      unfold uAll
      rw [List.reverse_cons, List.foldl_append]
      rfl
    rw [e1]
    unfold uStep
    split
    · exact ⟨fun y hy => .tail _ (h1 y hy), fun y hy => h2 y (List.mem_of_mem_erase hy)⟩
    · refine ⟨fun y hy => ?_, h2⟩
      rcases List.mem_append.mp hy with hy | hy
      · exact .tail _ (h1 y hy)
      · rw [List.mem_singleton.mp hy]; exact .head _
theorem bags_six (a b : Int) : Six (uAll (bagOf (namesOf a)) ([], bagOf (namesOf b))).1 ∧ Six (uAll (bagOf (namesOf a)) ([], bagOf (namesOf b))).2 := by
  obtain ⟨h1, h2⟩ := uAll_sub (bagOf (namesOf a)) (bagOf (namesOf b))
  exact ⟨fun x hx => bag_six a x (h1 x hx), fun x hx => bag_six b x (h2 x hx)⟩
end
section
variable {w : World} {p : PySem.Program} {loose : List PySem.Str} {mean : ExcName → Option Value} {mg mb : PySem.Str → Option Value}
open TI PySem.SeqAt
noncomputable abbrev pyS (xs : List PySem.Str) : PyData := .list (xs.map .str)
noncomputable abbrev pyP (z : List PySem.Str × List PySem.Str) : PyData := .tuple [pyS z.1, pyS z.2]
noncomputable abbrev pyL (ps : List (List PySem.Str × List PySem.Str)) : PyData := .list (ps.map pyP)
theorem Six.filter {xs : List PySem.Str} (h : Six xs) (f : PySem.Str → Bool) : Six (xs.filter f) := fun x hx => h x (List.mem_filter.mp hx).1
theorem six_ok : ∀ x ∈ sixN, PyData.strOk x = true := by decide +kernel
theorem lay_S0 : ∀ {xs : List PySem.Str}, Six xs → PyData.canLayAll0 (xs.map .str) = true
  | [], _ => by simp [PyData.canLayAll0]
  | x :: r, h => by
    have z := six_ok x (h x (.head _))
    simp [PyData.canLayAll0, PyData.canLay0, lay_S0 (xs := r) fun y hy => h y (.tail _ hy), z]
theorem dep_S0 : ∀ xs : List PySem.Str, PyData.depthAll (xs.map .str) = 0
  | [] => by simp [PyData.depthAll]
  | x :: r => by simp [PyData.depthAll, PyData.depth, dep_S0 r]
theorem lay_S {xs : List PySem.Str} (h : Six xs) : (pyS xs).canLay0 = true := by simp only [PyData.canLay0]; exact lay_S0 h
theorem dep_S (xs : List PySem.Str) : (pyS xs).depth = 1 := by simp only [PyData.depth, dep_S0]
theorem lay_P {z : List PySem.Str × List PySem.Str} (h1 : Six z.1) (h2 : Six z.2) : (pyP z).canLay0 = true := by
  simp only [PyData.canLay0, PyData.canLayAll0, lay_S0 h1, lay_S0 h2, Bool.and_true]
theorem dep_P (z : List PySem.Str × List PySem.Str) : (pyP z).depth = 2 := by
  simp only [PyData.depth, PyData.depthAll, dep_S0]; rfl
theorem lay_L0 : ∀ {ps : List (List PySem.Str × List PySem.Str)}, (∀ z ∈ ps, Six z.1 ∧ Six z.2) → PyData.canLayAll0 (ps.map pyP) = true
  | [], _ => by simp [PyData.canLayAll0]
  | z :: r, h => by
    rw [List.map_cons]
    simp only [PyData.canLayAll0, Bool.and_eq_true]
    exact ⟨lay_P (h z (.head _)).1 (h z (.head _)).2, lay_L0 fun y hy => h y (.tail _ hy)⟩
theorem dep_L0 : ∀ ps : List (List PySem.Str × List PySem.Str), PyData.depthAll (ps.map pyP) ≤ 2
  | [] => by simp [PyData.depthAll]
  | z :: r => by
    rw [List.map_cons]
    simp only [PyData.depthAll]
    have h1 := dep_P z
    have h2 := dep_L0 r
    omega
theorem shaped_S {xs : List PySem.Str} (h : Six xs) : shaped (pyS xs) = true := by
  show ((pyS xs).canLay0 && decide ((pyS xs).depth ≤ 64)) = true
  rw [Bool.and_eq_true]
  exact ⟨lay_S h, decide_eq_true (by rw [dep_S]; omega)⟩
theorem shaped_L {ps : List (List PySem.Str × List PySem.Str)} (h : ∀ z ∈ ps, Six z.1 ∧ Six z.2) : shaped (pyL ps) = true := by
  show ((pyL ps).canLay0 && decide ((pyL ps).depth ≤ 64)) = true
  rw [Bool.and_eq_true]
  have z := dep_L0 ps
  exact ⟨by simp only [PyData.canLay0]; exact lay_L0 h, decide_eq_true (by simp only [PyData.depth]; omega)⟩
theorem reads_S {h : Heap} {a : Addr} {va : List Value} {na : Nat} {xs : List PySem.Str} (e : h.get? a = some (listOf va.toArray na)) (hs : StrsAre va xs) : ∃ as, Reads h (.ref a) (pyS xs) as :=
  ⟨_, Reads.list e rfl rfl (by simpa using hs.reads h)⟩
theorem reads_P {h : Heap} {T : Addr} {xs ys : List PySem.Str} (e : PairAt h T xs ys) : ∃ as, Reads h (.ref T) (pyP (xs, ys)) as := by
  obtain ⟨a, b, va, vb, na, nb, h1, h2, h3, h4, h5⟩ := e
  obtain ⟨as, ra⟩ := reads_S h2 h4
  obtain ⟨bs, rb⟩ := reads_S h3 h5
  exact ⟨_, Reads.tuple h1 rfl rfl (by simpa using ReadsAll.cons ra (.cons rb .nil))⟩
theorem reads_all {h : Heap} : ∀ {ts : List Addr} {ps : List (List PySem.Str × List PySem.Str)}, ts.length = ps.length → (∀ k (h1 : k < ts.length) (h2 : k < ps.length), PairAt h ts[k] ps[k].1 ps[k].2) → ∃ as, ReadsAll h (ts.map Value.ref) (ps.map pyP) as
  | [], [], _, _ => ⟨_, .nil⟩
  | t :: ts, z :: ps, hl, hp => by
    obtain ⟨as, ra⟩ := reads_P (hp 0 (Nat.succ_pos _) (Nat.succ_pos _))
    obtain ⟨bs, rb⟩ := reads_all (ts := ts) (ps := ps) (Nat.succ.inj hl) fun k h1 h2 => hp (k + 1) (Nat.succ_lt_succ h1) (Nat.succ_lt_succ h2)
    exact ⟨_, .cons ra rb⟩
theorem reads_L {h : Heap} {D : Addr} {n : Nat} {ts : List Addr} {ps : List (List PySem.Str × List PySem.Str)} (e : h.get? D = some (listOf (refs ts).toArray n)) (hl : ts.length = ps.length) (hp : ∀ k (h1 : k < ts.length) (h2 : k < ps.length), PairAt h ts[k] ps[k].1 ps[k].2) : ∃ as, Reads h (.ref D) (pyL ps) as := by
  obtain ⟨as, ra⟩ := reads_all hl hp
  exact ⟨_, Reads.list e rfl rfl (by simpa using ra)⟩
theorem canLay_shaped {d : PyData} (h : shaped d = true) : d.canLay0 = true := canLay_of_shaped h
section
variable {prog : Program} {w : World} {A : Around} {E : Value → Shared → Prop} {s : Shared} {a b : Value} {d : PyData} {Q : Value → Shared → Prop}
theorem eq_same (ra : ∃ as, Reads s.heap a d as) (rb : ∃ as, Reads s.heap b d as) (hd : shaped d = true) (hu : A.units + 64 < cLine) (h : Q (.bool true) s) : wpAny (model prog w) A (compareOp .Eq a b) Q E s := by
  obtain ⟨as, ra⟩ := ra
  obtain ⟨bs, rb⟩ := rb
  refine eq_dataH ra rb hd hd hu ?_
  rw [eqv_refl d (canLay_of_shaped hd)]
  exact h
theorem ne_same (ra : ∃ as, Reads s.heap a d as) (rb : ∃ as, Reads s.heap b d as) (hd : shaped d = true) (hu : A.units + 64 < cLine) (h : Q (.bool false) s) : wpAny (model prog w) A (compareOp .NotEq a b) Q E s := by
  obtain ⟨as, ra⟩ := ra
  obtain ⟨bs, rb⟩ := rb
  refine ne_dataH ra rb hd hd hu ?_
  rw [eqv_refl d (canLay_of_shaped hd)]
  exact h
end
end
section
variable {w : World} {p : PySem.Program} {loose : List PySem.Str} {mean : ExcName → Option Value} {mg mb : PySem.Str → Option Value}
example : True := by
  w_top off
  trivial
open TI TT
local macro_rules | `(tactic| walk_at "STOP") => `(tactic| with_reducible first | refine sG ?_ | refine sT ?_ | refine sO ?_ | refine sS ?_)
/-- text lists among the entries -/
noncomputable def ListsIn (nx : Led) (ts : List Addr) (xss : List (List PySem.Str)) : Prop := ts.length = xss.length ∧ ∀ k (h1 : k < ts.length) (h2 : k < xss.length), ∃ va na, (ts[k], listOf va.toArray na) ∈ nx ∧ StrsAre va xss[k]
/-- pairs of text lists among the entries -/
noncomputable def PairsIn (nx : Led) (ts : List Addr) (ps : List (List PySem.Str × List PySem.Str)) : Prop := ts.length = ps.length ∧ ∀ k (h1 : k < ts.length) (h2 : k < ps.length), PairLed nx ts[k] ps[k]
theorem PairsIn.nil (nx : Led) : PairsIn nx [] [] := ⟨rfl, fun _ h => absurd h (Nat.not_lt_zero _)⟩
theorem PairsIn.snoc {nx nx' : Led} {ts : List Addr} {ps : List (List PySem.Str × List PySem.Str)} {D : Addr} {z : List PySem.Str × List PySem.Str} (h : PairsIn nx ts ps) (k : ∀ q ∈ nx, q ∈ nx') (hD : PairLed nx' D z) : PairsIn nx' (ts ++ [D]) (ps ++ [z]) := by
  refine ⟨by rw [List.length_append, List.length_append, h.1]; rfl, fun i h1 h2 => ?_⟩
  have hl := h.1
  by_cases hi : i < ts.length
  · have z := (h.2 i hi (by omega)).mono k
    rw [List.getElem_append_left hi, List.getElem_append_left (by omega)]
    exact z
  · have e : i = ts.length := by
      rw [List.length_append] at h1
      simp only [List.length_cons, List.length_nil] at h1
      omega
    rw [List.getElem_append_right (by omega), List.getElem_append_right (by omega)]
    simp only [e, hl, Nat.sub_self, List.getElem_cons_zero]
    exact hD
theorem range_nat1 {n : Nat} (h : 1 ≤ n) : ((n : Int) - 1) = ((n - 1 : Nat) : Int) := by omega
theorem rsz {n : Nat} (h : 1 ≤ n) : Builtin.Range.rangeSize 0 ((n : Int) - 1) 1 = ((n - 1 : Nat) : Int) := by
  rw [rangeSize_nat]; omega
theorem rsm {n : Nat} (h : 1 ≤ n) (h2 : n ≤ 8) : Builtin.Range.small 0 ((n : Int) - 1) 1 = true := by
  unfold Builtin.Range.small Builtin.Range.rangeFitsLong; rw [rsz h]; simp only [Bool.and_eq_true, decide_eq_true_eq, Bool.or_eq_true]; refine ⟨⟨⟨⟨?_, ?_⟩, ?_⟩, ?_⟩, ?_⟩ <;> first | decide | omega | (right; simp; omega)
theorem ListsIn.nil (nx : Led) : ListsIn nx [] [] := ⟨rfl, fun _ h => absurd h (Nat.not_lt_zero _)⟩
theorem ListsIn.snoc {nx nx' : Led} {ts : List Addr} {xss : List (List PySem.Str)} {D : Addr} {va : List Value} {na : Nat} {xs : List PySem.Str} (h : ListsIn nx ts xss) (k : ∀ q ∈ nx, q ∈ nx') (hD : (D, listOf va.toArray na) ∈ nx') (hs : StrsAre va xs) : ListsIn nx' (ts ++ [D]) (xss ++ [xs]) := by
  refine ⟨by rw [List.length_append, List.length_append, h.1]; rfl, fun i h1 h2 => ?_⟩
  have hl := h.1
  by_cases hi : i < ts.length
  · obtain ⟨va, na, h3, h4⟩ := h.2 i hi (by omega)
    refine ⟨va, na, ?_, ?_⟩
    · rw [List.getElem_append_left hi]; exact k _ h3
    · rw [List.getElem_append_left (by omega)]; exact h4
  · have e : i = ts.length := by
      rw [List.length_append] at h1
      simp only [List.length_cons, List.length_nil] at h1
      omega
    refine ⟨va, na, ?_, ?_⟩
    · rw [List.getElem_append_right (by omega)]
      simp only [e, Nat.sub_self, List.getElem_cons_zero]
      exact hD
    · rw [List.getElem_append_right (by omega)]
      simp only [e, hl, Nat.sub_self, List.getElem_cons_zero]
      exact hs
theorem off1_mem {D : Addr} : ∀ {l : Led}, LCg.Off1 D l → ∀ q ∈ l, q.1 ≠ D
  | [], _, _, h => nomatch h
  | p :: r, x, q, h => by
    cases h with
    | head => exact x.1
    | tail _ h => exact off1_mem x.2 q h
noncomputable abbrev rangeObj (a b c : Int) (t u v : Tok) : Obj := { cls := .type "range", dict := none, data := .fields #[.int a t, .int b u, .int c v], slots := #[] }
theorem r_range {prog : Program} {w : World} {A : Around} {E : Value → Shared → Prop} {s : Shared} {h₀ : Heap} {L : Addr} {m : PySem.Str → Option Value} {news : Led} {n : Int} {t : Tok} {Q : Value → Shared → Prop} (F : Fr h₀ L s.heap m) (N : News h₀ L s.heap news)
    (h : ∀ R h' tk oR t0 t1 t2, oR = rangeObj 0 n 1 t0 t1 t2 → Fr h₀ L h' m → News h₀ L h' ((R, oR) :: news) → (∀ q ∈ news, q.1 < R) → Q (.ref R) { s with heap := h', toks := tk }) :
    wpAny (model prog w) A (call (.type "range") [.int n t]) Q E s :=
  PySem.call_range_1 (h _ _ _ _ _ _ _ rfl (F.push _) (News.push F N _) fun q hq => Heap.lt_size (N q hq).1)
theorem off3_of {I C D : Addr} : ∀ {l : Led}, (∀ q ∈ l, q.1 ≠ I ∧ q.1 ≠ C ∧ q.1 ≠ D) → LCg.Off3 I C D l
  | [], _ => trivial
  | _ :: _, h => ⟨h _ (.head _), off3_of fun q hq => h q (.tail _ hq)⟩
theorem mem_swap {α : Type} {q : α} {a b c : List α} (h : q ∈ a ++ (b ++ c)) : q ∈ b ++ (a ++ c) := by
  simp only [List.mem_append] at h ⊢
  rcases h with h | h | h
  · exact .inr (.inl h)
  · exact .inl h
  · exact .inr (.inr h)
theorem off3_add {I C D : Addr} {oI oC oD : Obj} {nx add : Led} (A : Apart add ((I, oI) :: (C, oC) :: (D, oD) :: nx)) (o : LCg.Off3 I C D nx) (q : Addr × Obj) (hq : q ∈ add ∨ q ∈ nx) : q.1 ≠ I ∧ q.1 ≠ C ∧ q.1 ≠ D := by
  rcases hq with hq | hq
  · exact ⟨(A q hq (I, oI) (.head _)).symm, (A q hq (C, oC) (.tail _ (.head _))).symm, (A q hq (D, oD) (.tail _ (.tail _ (.head _)))).symm⟩
  · exact o.mem q hq
theorem ownOff_add {news add ow : Led} {c1 c2 c3 : Addr} {o1 o2 o3 : Obj} (A : Apart add news) (h1 : (c1, o1) ∈ news) (h2 : (c2, o2) ∈ news) (h3 : (c3, o3) ∈ news) (h : OwnOff ow [c1, c2, c3]) : OwnOff (add ++ ow) [c1, c2, c3] := by
  intro q hq b hb
  rcases List.mem_append.mp hq with hq | hq
  · simp only [List.mem_cons, List.not_mem_nil, or_false] at hb
    rcases hb with rfl | rfl | rfl
    · exact (A q hq _ h1).symm
    · exact (A q hq _ h2).symm
    · exact (A q hq _ h3).symm
  · exact h q hq b hb
theorem ints_at {vs : List Value} {ns : List Int} (h : IntsAre vs ns) {i : Nat} {v : Value} (hv : vs[i]? = some v) : ∃ (hi : i < ns.length) (t : Tok), v = .int ns[i] t := by
  obtain ⟨k, t, rfl, hk⟩ := h.at i v hv
  obtain ⟨hi, rfl⟩ := List.getElem?_eq_some_iff.mp hk
  exact ⟨hi, t, rfl⟩
theorem ListsIn.names {own : Led} {ts : List Addr} {nums : List Int} (h : ListsIn own ts (nums.map namesOf)) {i : Nat} (h1 : i < ts.length) : ∃ va na, (ts[i], listOf va.toArray na) ∈ own ∧ StrsAre va (namesOf (nums.getD i 0)) := by
  have hl : i < nums.length := by have := h.1; rw [List.length_map] at this; omega
  obtain ⟨va, na, h2, h3⟩ := h.2 i h1 (by rw [List.length_map]; exact hl)
  refine ⟨va, na, h2, ?_⟩
  rw [List.getElem_map] at h3
  rw [List.getD_eq_getElem?_getD, List.getElem?_eq_getElem hl]
  exact h3
theorem strs_get {vs : List Value} {xs : List PySem.Str} (h : StrsAre vs xs) {i : Nat} {v : Value} (hv : vs[i]? = some v) : ∃ (hi : i < xs.length) (t : Tok), v = .str xs[i] t := by
  obtain ⟨y, t, rfl, hy⟩ := h.item i v hv
  obtain ⟨hi, rfl⟩ := List.getElem?_eq_some_iff.mp hy
  exact ⟨hi, t, rfl⟩
theorem maxI (n : Nat) : (if (n : Int) > 1 then (n : Int) else 1) = ((max 1 n : Nat) : Int) := by
  split <;> omega
theorem strs_rep (x : PySem.Str) (t : Tok) : ∀ n, StrsAre (List.replicate n (Value.str x t)) (List.replicate n x)
  | 0 => .nil
  | n + 1 => .cons x t (strs_rep x t n)
theorem strs_res {vs : List Value} {xs : List PySem.Str} (h : StrsAre vs xs) (f : PySem.Str → Nat) (cnt : Nat → Nat) (hc : ∀ i, i < xs.length → cnt i = f (xs.getD i Str.empty)) :
    StrsAre (resOf vs.toArray cnt vs.toArray.size) (xs.flatMap fun x => List.replicate (f x) x) := by
  have key : ∀ i, i ≤ xs.length → StrsAre (resOf vs.toArray cnt i) ((xs.take i).flatMap fun x => List.replicate (f x) x) := by
    intro i
    induction i with
    | zero => intro _; exact .nil
    | succ i ih =>
      intro hi
      have hil : i < xs.length := hi
      rw [resOf_succ, List.take_succ, List.getElem?_eq_getElem hil, List.flatMap_append]
      refine (ih (Nat.le_of_lt hil)).append' ?_
      obtain ⟨t, ht⟩ := h.get i xs[i] (List.getElem?_eq_getElem hil)
      have e1 : vs.toArray.getD i .none = .str xs[i] t := by simp [Array.getD_eq_getD_getElem?, ht]
      have e2 : xs.getD i Str.empty = xs[i] := by rw [List.getD_eq_getElem?_getD, List.getElem?_eq_getElem hil]; rfl
      rw [e1, hc i hil, e2]
      show StrsAre _ (([xs[i]] : List PySem.Str).flatMap fun x => List.replicate (f x) x)
      rw [List.flatMap_cons, List.flatMap_nil, List.append_nil]
      exact strs_rep _ _ _
  have z := key xs.length (Nat.le_refl _)
  rw [List.take_length] at z
  rw [List.size_toArray, h.length]
  exact z
theorem law_holds : PySem.Challenge.rw_kt0010_01.Holds := hd (by
  w_strict (
    k_go0
    (all_goals try k_fold)
    walk_at "GO"
    rename Shared => s1
    rename Frag.In _ _ => KX
    rename Top _ _ _ _ _ _ => TX
    rename_i K0 hDf h1 tk1 oc3 oc2 oc1 c3 c2 c1 X0 _ _ _ _ Da wsa ha hIa hCa hLa la lb hb lbl Dc wsc hc hIc lc Dd wsd hdd hId hCd hLd ld De wse he hIe le h5 o5 F5 N5 d5
    generalize hnums : (List.take 2 _ ++ _ ++ _ : List Int) = nums at hIe
    have N6 : News _ _ h5 [(De, listOf wse.toArray 0), (s1.heap.objs.size + 1 + 1 + 1, oc3), (s1.heap.objs.size + 1 + 1, oc2), (s1.heap.objs.size + 1, o5)] := kst_newsOf N5 (by walk_at "SUB")
    clear N5
    have c1' : oc1.data = .cell none := c1
    have c2' : oc2.data = .cell none := c2
    have c3' : oc3.data = .cell none := c3
    clear c1 c2 c3
    have hDe3 : s1.heap.objs.size + 1 + 1 + 1 < De := le.2.2.2.2.1
    have hDe2 : s1.heap.objs.size + 1 + 1 < De := le.2.2.2.2.2.1
    have hDe1 : s1.heap.objs.size + 1 < De := le.2.2.2.2.2.2
    have hnl : 4 ≤ nums.length ∧ nums.length ≤ 8 := by
      rw [← hnums]; simp only [List.length_append, List.length_take, List.length_drop, List.length_cons, List.length_nil]; exact len48 _
    walk1
    refine LCg.ListComp_U (F₀ := by k_asm) (by with_unfolding_all rfl) (by decide) (by rfl) (by decide) (by rfl) ?_
    (try k_unmd)
    (try k_fold)
    walk_at "GO"
    refine LCg.CompSrc.ledger (its := wse.toArray) (k := 0) (by rfl) F5 N6 (.head _) (by rw [PySem.sizeLine_eq, List.size_toArray, hIe.length]; exact Nat.le_trans hnl.2 (by decide)) ?_
    intro g5
    refine comp_rest (fun i rv nx => Hold (∃ ts own, rv = refs ts ∧ nx = own ++ [(De, listOf wse.toArray 0), (s1.heap.objs.size + 1 + 1 + 1, oc3), (s1.heap.objs.size + 1 + 1, oc2), (s1.heap.objs.size + 1, o5)] ∧ ListsIn own ts ((nums.take i).map namesOf) ∧ OwnOff own [s1.heap.objs.size + 1 + 1 + 1, s1.heap.objs.size + 1 + 1, s1.heap.objs.size + 1])) ⟨[], [], rfl, rfl, ListsIn.nil _, fun _ h => nomatch h⟩ ?_ ?_
    · intro i v rv nx I oI C oC D2 m₂ h6 tk6 E' hi hv
      intro hz9
      refine hold22 rv nx hz9 fun ts own hts hoo => ?_
      clear hz9
      intro hC hx6 F6 N6 off6 ne6
      obtain ⟨hin, tv, rfl⟩ := ints_at hIe (i := i) (v := v) (by simpa using hv)
      (try k_unmd)
      (try k_fold)
      walk_at "GO"
      refine use_pctr names_at F6 KX N6 TX trivial (by walk_at "RM") (by walk_at "RM") ?_
      rintro _ _ h10 tk10 ⟨Dn, vn, nn, rfl, rfl, hsn⟩ F10 N10 A10 k10
      (try dsimp only)
      walk_at "GO"
      refine LCg.CompEnd.intro F10 N10 ((Dn, listOf vn.toArray nn) :: (own ++ _)) ?_ ⟨⟨(A10 _ (.head _) (I, oI) (.head _)).symm, (A10 _ (.head _) (C, oC) (.tail _ (.head _))).symm, (A10 _ (.head _) (D2, _) (.tail _ (.tail _ (.head _)))).symm⟩, off6⟩ ?_ ⟨⟨ts ++ [Dn], (Dn, listOf vn.toArray nn) :: own, ?_, rfl, ?_, ?_⟩⟩
      · walk_at "SUB"
      · exact .inr ⟨_, .tail _ (List.mem_append_right _ (.head _)), rfl, _, rfl⟩
      · unfold refs; rw [List.map_append]; rfl
      · rw [List.take_succ, List.getElem?_eq_getElem hin, List.map_append]
        exact hts.snoc (fun q hq => .tail _ hq) (.head _) hsn
      · intro q hq b hb'
        rcases List.mem_cons.mp hq with rfl | hq
        · simp only [List.mem_cons, List.not_mem_nil, or_false] at hb'
          rcases hb' with rfl | rfl | rfl
          · exact (A10 _ (.head _) (_, oc3) (.tail _ (.tail _ (.tail _ (List.mem_append_right _ (.tail _ (.head _))))))).symm
          · exact (A10 _ (.head _) (_, oc2) (.tail _ (.tail _ (.tail _ (List.mem_append_right _ (.tail _ (.tail _ (.head _)))))))).symm
          · exact (A10 _ (.head _) (_, o5) (.tail _ (.tail _ (.tail _ (List.mem_append_right _ (.tail _ (.tail _ (.tail _ (.head _))))))))).symm
        · exact hoo q hq b hb'
    · intro rv nx
      intro hz9
      refine hold22 rv nx hz9 fun ts own hts hoo => ?_
      clear hz9
      have hnz : wse.toArray.size = nums.length := by rw [List.size_toArray]; exact hIe.length
      rw [hnz, List.take_length] at hts
      intro D9 h9 tk9 F9 N9 o9
      (try dsimp only)
      walk_at "GO"
      have N10 : News s1.heap s1.heap.objs.size h9 ((s1.heap.objs.size + 1 + 1, oc2) :: (s1.heap.objs.size + 1, o5) :: (s1.heap.objs.size + 1 + 1 + 1, oc3) :: (De, listOf wse.toArray 0) :: (D9, listOf (refs ts).toArray (refs ts).length) :: own) := kst_newsOf N9 (by walk_at "SUB")
      have hD9 := off1_mem o9
      clear N9 o9
      refine storeX_C F9 N10 rfl (.head ?_) c2' ?_ rfl rfl
      · refine all_ne_cons (Nat.ne_of_lt (Nat.lt_succ_self _)) (all_ne_cons (Nat.ne_of_gt (Nat.lt_succ_self _)) (all_ne_cons (Nat.ne_of_gt hDe2) (all_ne_cons ?_ fun q hq => hoo q hq _ (.tail _ (.head _)))))
        exact (hD9 (_, oc2) (List.mem_append_right _ (.tail _ (.tail _ (.head _))))).symm
      intro h11 o2 F11 N11 d2
      (try dsimp only)
      walk_at "GO"
      rename News s1.heap s1.heap.objs.size _ _ => N12
      rename Fr s1.heap s1.heap.objs.size _ _ => F12
      refine r_range F12 N12 ?_
      intro R h13 tk13 oR r0 r1 r2 eR F13 N13 lR
      clear F12 N12
      (try dsimp only)
      walk_at "GO"
      refine LCg.Assign_ListComp_U (F₀ := by k_asm) (by rfl) (by with_unfolding_all rfl) (by with_unfolding_all rfl) (by decide) (by rfl) (by decide) (by rfl) (by rfl) (by rfl) ?_
      (try k_unmd)
      (try k_fold)
      walk_at "GO"
      rename News s1.heap s1.heap.objs.size _ _ => N14
      rename Fr s1.heap s1.heap.objs.size _ _ => F14
      refine LCg.CompSrc.range (n := nums.length - 1) (by rfl) F14 N14 (t := r0) (u := r1) (v := r2) (a := 0) (b := (nums.length : Int) - 1) (by have z := (N14 (R, oR) (.head _)).1; rw [eR] at z; exact z) (rsm (one_of hnl) hnl.2) (rsz (one_of hnl)) (by rw [PySem.sizeLine_eq]; exact pred_size hnl) ?_
      intro g15
      refine comp_rest (fun i rv nx => Hold (∃ tq ow, rv = refs tq ∧ nx = (R, oR) :: (s1.heap.objs.size + 1 + 1, o2) :: (s1.heap.objs.size + 1, o5) :: (s1.heap.objs.size + 1 + 1 + 1, oc3) :: (De, listOf wse.toArray 0) :: (D9, listOf (refs ts).toArray (refs ts).length) :: ow ∧ (∀ q ∈ own, q ∈ ow) ∧ PairsIn ow tq ((List.range i).map fun k => sld (namesOf (nums.getD k 0)) (namesOf (nums.getD (k + 1) 0))) ∧ OwnOff ow [s1.heap.objs.size + 1 + 1 + 1, s1.heap.objs.size + 1 + 1, s1.heap.objs.size + 1])) ⟨[], own, rfl, rfl, fun _ h => h, PairsIn.nil _, hoo⟩ ?_ ?_
      · intro i v rv nx I oI C oC D2 m₂ h6 tk6 E' hi
        intro hz9
        refine ex_eq v hz9 fun tv => ?_
        clear hz9
        intro hz9
        refine hold23 rv nx hz9 fun tq ow how htq hoq => ?_
        clear hz9
        intro hC hx6 F6 N6 off6 ne6
        have hi1 : i < ts.length := by rw [hts.1, List.length_map]; exact lt_of_pred hi
        have hi2 : i + 1 < ts.length := by rw [hts.1, List.length_map]; exact Nat.add_lt_of_lt_sub hi
        have hm9 : (D9, listOf (refs ts).toArray (refs ts).length) ∈ (I, oI) :: (C, oC) :: (D2, LCg.lst (refs tq)) :: (R, oR) :: (s1.heap.objs.size + 1 + 1, o2) :: (s1.heap.objs.size + 1, o5) :: (s1.heap.objs.size + 1 + 1 + 1, oc3) :: (De, listOf wse.toArray 0) :: (D9, listOf (refs ts).toArray (refs ts).length) :: ow := by
          exact .tail _ (.tail _ (.tail _ (.tail _ (.tail _ (.tail _ (.tail _ (.tail _ (.head _))))))))
        (try k_unmd)
        (try k_fold)
        walk_at "GO"
        refine item_listL (l := refs ts) (N6.isList hm9) (z0 i) (z63 hi hnl.2) (by rw [zn i]; exact refs_at hi1) ?_ (by with_unfolding_all rfl) (by intro _; with_unfolding_all rfl)
        (try dsimp only)
        walk_at "GO"
        refine item_listL (l := refs ts) (N6.isList hm9) (z1 i) (z163 hi hnl.2) (by rw [zn1 i]; exact refs_at hi2) ?_ (by with_unfolding_all rfl) (by intro _; with_unfolding_all rfl)
        (try dsimp only)
        walk_at "GO"
        rename News s1.heap s1.heap.objs.size _ _ => N20
        rename Fr s1.heap s1.heap.objs.size _ _ => F20
        obtain ⟨va, na, hma, hsa⟩ := hts.names hi1
        obtain ⟨vb, nb, hmb, hsb⟩ := hts.names hi2
        refine use_x0 (sld_at hsa hsb (Nat.lt_of_le_of_lt (names_le _) (by decide)) (Nat.lt_of_le_of_lt (names_le _) (by decide)) (names_step _) (names_step _)) F20 KX N20 TX rfl (by walk_at "RM") (by walk_at "RM") ?_ ?_
        · intro g kg kn
          exact ⟨isList_of (kn _ (.tail _ (.tail _ (.tail _ (.tail _ (.tail _ (.tail _ (.tail _ (.tail _ (.tail _ (how _ hma))))))))))), isList_of (kn _ (.tail _ (.tail _ (.tail _ (.tail _ (.tail _ (.tail _ (.tail _ (.tail _ (.tail _ (how _ hmb)))))))))))⟩
        intro r add h21 tk21 hp F21 N21 A21
        obtain ⟨Tn, rfl, hTn, hndn⟩ := hp.led
        (try dsimp only)
        walk_at "GO"
        refine LCg.CompEnd.intro F21 N21 ((R, oR) :: (s1.heap.objs.size + 1 + 1, o2) :: (s1.heap.objs.size + 1, o5) :: (s1.heap.objs.size + 1 + 1 + 1, oc3) :: (De, listOf wse.toArray 0) :: (D9, listOf (refs ts).toArray (refs ts).length) :: (add ++ ow)) (fun q hq => mem_swap (a := [_, _, _, _, _, _, _, _, _]) hq) (off3_of fun q hq => off3_add A21 off6 q (List.mem_append.mp (mem_swap (a := [_, _, _, _, _, _]) hq))) trivial ⟨⟨tq ++ [Tn], add ++ ow, (by unfold refs; rw [List.map_append]; rfl), rfl, (fun q hq => List.mem_append_right _ (how q hq)), ?_, ?_⟩⟩
        · rw [List.range_succ, List.map_append]
          exact htq.snoc (fun q hq => List.mem_append_right _ hq) (hTn.mono fun q hq => List.mem_append_left _ hq)
        · exact ownOff_add A21 (o1 := oc3) (o2 := o2) (o3 := o5) (.tail _ (.tail _ (.tail _ (.tail _ (.tail _ (.tail _ (.head _))))))) (.tail _ (.tail _ (.tail _ (.tail _ (.head _))))) (.tail _ (.tail _ (.tail _ (.tail _ (.tail _ (.head _)))))) hoq
      · intro rv nx hz9
        refine hold23 rv nx hz9 fun tq ow how htq hoq => ?_
        clear hz9
        intro Dp h22 tk22 F22 N22 o22
        (try dsimp only)
        walk_at "GO"
        have hmN : (De, listOf wse.toArray 0) ∈ (Dp, LCg.lst (refs tq)) :: (R, oR) :: (s1.heap.objs.size + 1 + 1, o2) :: (s1.heap.objs.size + 1, o5) :: (s1.heap.objs.size + 1 + 1 + 1, oc3) :: (De, listOf wse.toArray 0) :: (D9, listOf (refs ts).toArray (refs ts).length) :: ow := .tail _ (.tail _ (.tail _ (.tail _ (.tail _ (.head _)))))
        rename News s1.heap s1.heap.objs.size _ _ => N23
        rename Fr s1.heap s1.heap.objs.size _ _ => F23
        obtain ⟨t0, hv0⟩ := hIe.get 0 (nums.getD 0 0) (by rw [List.getD_eq_getElem?_getD, List.getElem?_eq_getElem (one_of hnl)]; rfl)
        obtain ⟨tl, hvl⟩ := hIe.get (nums.length - 1) (nums.getD (nums.length - 1) 0) (by rw [List.getD_eq_getElem?_getD, List.getElem?_eq_getElem (pred_lt hnl)]; rfl)
        refine item_listL (l := wse) (N23.isList hmN) (by omega) (by omega) hv0 ?_ (by with_unfolding_all rfl) (by intro _; with_unfolding_all rfl)
        (try dsimp only)
        walk_at "GO"
        refine kde_neg (vs := wse) (j := nums.length - 1) (N23.isList hmN) (by decide) (by decide) ?_ hvl ?_ (by with_unfolding_all rfl)
        · rw [hIe.length, seqIndex_neg (by decide) (by omega)]
          congr 1
          exact neg_one_nat _
        (try dsimp only)
        walk_at "GO"
        refine use_pctr patch_at F23 KX N23 TX trivial (by walk_at "RM") (by walk_at "RM") ?_
        intro r add h24 tk24 hp F24 N24 A24 _
        obtain ⟨Tw, rfl, hTw, hndw⟩ := hp.led
        have N25 : News s1.heap s1.heap.objs.size h24 ((R, oR) :: (s1.heap.objs.size + 1 + 1, o2) :: (s1.heap.objs.size + 1, o5) :: (s1.heap.objs.size + 1 + 1 + 1, oc3) :: (De, listOf wse.toArray 0) :: (D9, listOf (refs ts).toArray (refs ts).length) :: (Dp, LCg.lst (refs tq)) :: (add ++ ow)) := fun q hq => N24 q (by
          have z := mem_swap (a := [_, _, _, _, _, _, _]) hq
          rcases List.mem_append.mp z with z | z
          · exact List.mem_append_left _ z
          · refine List.mem_append_right _ ?_
            rcases List.mem_append.mp (show q ∈ [(R, oR), (s1.heap.objs.size + 1 + 1, o2), (s1.heap.objs.size + 1, o5), (s1.heap.objs.size + 1 + 1 + 1, oc3), (De, listOf wse.toArray 0), (D9, listOf (refs ts).toArray (refs ts).length)] ++ ((Dp, LCg.lst (refs tq)) :: ow) from z) with z | z
            · exact .tail _ (List.mem_append_left _ z)
            rcases List.mem_cons.mp z with rfl | z
            · exact .head _
            · exact .tail _ (List.mem_append_right [(R, oR), (s1.heap.objs.size + 1 + 1, o2), (s1.heap.objs.size + 1, o5), (s1.heap.objs.size + 1 + 1 + 1, oc3), (De, listOf wse.toArray 0), (D9, listOf (refs ts).toArray (refs ts).length)] z))
        have hoq2 := ownOff_add A24 (o1 := oc3) (o2 := o2) (o3 := o5) (.tail _ (.tail _ (.tail _ (.tail _ (.head _))))) (.tail _ (.tail _ (.head _))) (.tail _ (.tail _ (.tail _ (.head _)))) hoq
        have how2 : ∀ q ∈ own, q ∈ add ++ ow := fun q hq => List.mem_append_right _ (how q hq)
        have htq2 : PairsIn (add ++ ow) tq ((List.range (nums.length - 1)).map fun k => (namesOf (goesOf (nums.getD k 0) (nums.getD (k + 1) 0)), namesOf (comesOf (nums.getD k 0) (nums.getD (k + 1) 0)))) := by
          have e : ((List.range (nums.length - 1)).map fun k => sld (namesOf (nums.getD k 0)) (namesOf (nums.getD (k + 1) 0))) = ((List.range (nums.length - 1)).map fun k => (namesOf (goesOf (nums.getD k 0) (nums.getD (k + 1) 0)), namesOf (comesOf (nums.getD k 0) (nums.getD (k + 1) 0)))) := List.map_congr_left fun k _ => pair_ok _ _
          rw [e] at htq
          exact ⟨htq.1, fun k h1 h2 => (htq.2 k h1 h2).mono fun q hq => List.mem_append_right _ hq⟩
        have hTw2 := hTw.mono fun q hq => (List.mem_append_left ow hq : q ∈ add ++ ow)
        have oDp := off1_mem o22
        have aDp : ∀ q ∈ add, Dp ≠ q.1 := fun q hq => A24 q hq (Dp, LCg.lst (refs tq)) (.head _)
        clear N24 N23 F23 A24 htq hTw hoq
        revert N25 hoq2 how2 htq2 hTw2 aDp
        generalize add ++ ow = ow2
        intro N25 hoq2 how2 htq2 hTw2 aDp
        (try dsimp only)
        walk_at "GO"
        rename Fr s1.heap s1.heap.objs.size _ _ => F25
        refine LCg.ListComp_U (F₀ := by k_asm) (by with_unfolding_all rfl) (by decide) (by rfl) (by decide) (by rfl) ?_
        (try k_unmd)
        (try k_fold)
        walk_at "GO"
        rename Fr s1.heap s1.heap.objs.size _ _ => F26
        rename News s1.heap s1.heap.objs.size _ _ => N26
        refine LCg.CompSrc.range (n := nums.length - 1) (by rfl) F26 N26 (t := r0) (u := r1) (v := r2) (a := 0) (b := (nums.length : Int) - 1) (by have z := (N26 (R, oR) (by walk_at "MEM")).1; rw [eR] at z; exact z) (rsm (one_of hnl) hnl.2) (rsz (one_of hnl)) (by rw [PySem.sizeLine_eq]; exact pred_size hnl) ?_
        intro g26
        refine comp_rest (fun i rv nx => Hold (∃ tr ow, rv = refs tr ∧ nx = (R, oR) :: (s1.heap.objs.size + 1 + 1, o2) :: (s1.heap.objs.size + 1, o5) :: (s1.heap.objs.size + 1 + 1 + 1, oc3) :: (De, listOf wse.toArray 0) :: (D9, listOf (refs ts).toArray (refs ts).length) :: (Dp, LCg.lst (refs tq)) :: ow ∧ (∀ q ∈ ow2, q ∈ ow) ∧ PairsIn ow tr ((List.range i).map fun k => (namesOf (goesOf (nums.getD k 0) (nums.getD (k + 1) 0)), namesOf (comesOf (nums.getD k 0) (nums.getD (k + 1) 0)))) ∧ OwnOff ow [s1.heap.objs.size + 1 + 1 + 1, s1.heap.objs.size + 1 + 1, s1.heap.objs.size + 1])) ⟨[], ow2, rfl, rfl, fun _ h => h, PairsIn.nil _, hoq2⟩ ?_ ?_
        · intro i v rv nx I oI C oC D2 m₂ h6 tk6 E' hi
          intro hz9
          refine ex_eq v hz9 fun tv => ?_
          clear hz9
          intro hz9
          refine hold23 rv nx hz9 fun tr ow how3 htr hoq => ?_
          clear hz9
          intro hC hx6 F6 N6 off6 ne6
          have hmN : (De, listOf wse.toArray 0) ∈ (I, oI) :: (C, oC) :: (D2, LCg.lst (refs tr)) :: (R, oR) :: (s1.heap.objs.size + 1 + 1, o2) :: (s1.heap.objs.size + 1, o5) :: (s1.heap.objs.size + 1 + 1 + 1, oc3) :: (De, listOf wse.toArray 0) :: (D9, listOf (refs ts).toArray (refs ts).length) :: (Dp, LCg.lst (refs tq)) :: ow := .tail _ (.tail _ (.tail _ (.tail _ (.tail _ (.tail _ (.tail _ (.head _)))))))
          obtain ⟨ta, hva⟩ := hIe.get i (nums.getD i 0) (by rw [List.getD_eq_getElem?_getD, List.getElem?_eq_getElem (lt_of_pred hi)]; rfl)
          obtain ⟨tb, hvb⟩ := hIe.get (i + 1) (nums.getD (i + 1) 0) (by rw [List.getD_eq_getElem?_getD, List.getElem?_eq_getElem (Nat.add_lt_of_lt_sub hi)]; rfl)
          (try k_unmd)
          (try k_fold)
          walk_at "GO"
          refine item_listL (l := wse) (N6.isList hmN) (z0 i) (z63 hi hnl.2) (by rw [zn i]; exact hva) ?_ (by with_unfolding_all rfl) (by intro _; with_unfolding_all rfl)
          (try dsimp only)
          walk_at "GO"
          refine item_listL (l := wse) (N6.isList hmN) (z1 i) (z163 hi hnl.2) (by rw [zn1 i]; exact hvb) ?_ (by with_unfolding_all rfl) (by intro _; with_unfolding_all rfl)
          (try dsimp only)
          walk_at "GO"
          rename Fr s1.heap s1.heap.objs.size _ _ => F27
          rename News s1.heap s1.heap.objs.size _ _ => N27
          refine use_pctr patch_at F27 KX N27 TX trivial (by walk_at "RM") (by walk_at "RM") ?_
          intro r add h28 tk28 hp F28 N28 A28 _
          obtain ⟨Tn, rfl, hTn, hndn⟩ := hp.led
          (try dsimp only)
          walk_at "GO"
          refine LCg.CompEnd.intro F28 N28 ((R, oR) :: (s1.heap.objs.size + 1 + 1, o2) :: (s1.heap.objs.size + 1, o5) :: (s1.heap.objs.size + 1 + 1 + 1, oc3) :: (De, listOf wse.toArray 0) :: (D9, listOf (refs ts).toArray (refs ts).length) :: (Dp, LCg.lst (refs tq)) :: (add ++ ow)) (fun q hq => mem_swap (a := [_, _, _, _, _, _, _, _, _, _]) hq) (off3_of fun q hq => off3_add A28 off6 q (List.mem_append.mp (mem_swap (a := [_, _, _, _, _, _, _]) hq))) trivial ⟨⟨tr ++ [Tn], add ++ ow, (by unfold refs; rw [List.map_append]; rfl), rfl, (fun q hq => List.mem_append_right _ (how3 q hq)), ?_, ?_⟩⟩
          · rw [List.range_succ, List.map_append]
            exact htr.snoc (fun q hq => List.mem_append_right _ hq) (hTn.mono fun q hq => List.mem_append_left _ hq)
          · exact ownOff_add A28 (o1 := oc3) (o2 := o2) (o3 := o5) (.tail _ (.tail _ (.tail _ (.tail _ (.tail _ (.tail _ (.head _))))))) (.tail _ (.tail _ (.tail _ (.tail _ (.head _))))) (.tail _ (.tail _ (.tail _ (.tail _ (.tail _ (.head _)))))) hoq
        · intro rv nx
          intro hz9
          refine hold23 rv nx hz9 fun tr ow how3 htr hoq => ?_
          clear hz9
          intro Dr h29 tk29 F29 N29 o29
          (try dsimp only)
          walk_at "GO"
          rename Fr s1.heap s1.heap.objs.size _ _ => F30
          rename News s1.heap s1.heap.objs.size _ _ => N30
          have six2 : ∀ z ∈ (List.range (nums.length - 1)).map fun k => (namesOf (goesOf (nums.getD k 0) (nums.getD (k + 1) 0)), namesOf (comesOf (nums.getD k 0) (nums.getD (k + 1) 0))), Six z.1 ∧ Six z.2 := fun z hz => by
            obtain ⟨k, _, rfl⟩ := List.mem_map.mp hz
            exact ⟨names_six _, names_six _⟩
          refine ne_same (d := pyL ((List.range (nums.length - 1)).map fun k => (namesOf (goesOf (nums.getD k 0) (nums.getD (k + 1) 0)), namesOf (comesOf (nums.getD k 0) (nums.getD (k + 1) 0)))))
            (reads_L (N30 (Dp, LCg.lst (refs tq)) (by walk_at "MEM")).1 htq2.1 fun k h1 h2 => (htq2.2 k h1 h2).at fun q hq => (N30 q ?_).1)
            (reads_L (N30 (Dr, LCg.lst (refs tr)) (by walk_at "MEM")).1 htr.1 fun k h1 h2 => (htr.2 k h1 h2).at fun q hq => (N30 q ?_).1) (shaped_L six2) (by walk_at "RM") ?_
          · exact List.mem_append_right [_, _, _, _, _, _, _, _] (how3 q hq)
          · exact List.mem_append_right [_, _, _, _, _, _, _, _] hq
          (try dsimp only)
          walk_at "GO"
          rename Fr s1.heap s1.heap.objs.size _ _ => F31
          rename News s1.heap s1.heap.objs.size _ _ => N31
          refine use_x0 (both_at (n := (refs tq).length) (ts := tq) (ps := (List.range (nums.length - 1)).map fun k => patchOf (nums.getD k 0) (nums.getD (k + 1) 0)) htq2.1 (by rw [htq2.1, List.length_map, List.length_range]; omega) (by rw [htq2.1, List.length_map, List.length_range]; omega) ?_) F31 KX N31 TX rfl (by walk_at "RM") (by walk_at "RM") ?_ ?_
          · intro z hz
            obtain ⟨k, _, rfl⟩ := List.mem_map.mp hz
            exact ⟨names_le _, names_le _⟩
          · intro g kg kn
            exact ⟨kn (Dp, LCg.lst (refs tq)) (by walk_at "MEM"), fun k h1 h2 => (htq2.2 k h1 h2).at fun q hq => kn q (List.mem_append_right [_, _, _, _, _, _, _, _] (how3 q hq))⟩
          rintro _ add h32 tk32 ⟨Db, Tf, Tb, nb, rfl, hDb, hTf, hTb⟩ F32 N32 A32
          rw [(both_ok nums hnl.1).1] at hTf
          rw [(both_ok nums hnl.1).2] at hTb
          (try dsimp only)
          walk_at "GO"
          rename Fr s1.heap s1.heap.objs.size _ _ => F33
          rename News s1.heap s1.heap.objs.size _ _ => N33
          have sixW : ∀ z ∈ [patchOf (nums.getD 0 0) (nums.getD (nums.length - 1) 0), patchOf (nums.getD 0 0) (nums.getD (nums.length - 1) 0)], Six z.1 ∧ Six z.2 := fun z hz => by
            simp only [List.mem_cons, List.not_mem_nil, or_false, or_self] at hz
            rw [hz]
            exact ⟨names_six _, names_six _⟩
          refine ne_same (d := pyL [patchOf (nums.getD 0 0) (nums.getD (nums.length - 1) 0), patchOf (nums.getD 0 0) (nums.getD (nums.length - 1) 0)])
            (reads_L (ts := [Tf, Tb]) (N33 _ (.tail _ (List.mem_append_left _ hDb))).1 rfl fun k h1 h2 => ?_)
            (reads_L (ts := [Tw, Tw]) (n := 0) (N33 (_, listOf (refs [Tw, Tw]).toArray 0) (.head _)).1 rfl fun k h1 h2 => ?_) (shaped_L sixW) (by walk_at "RM") ?_
          · match k with
            | 0 => exact hTf.at fun q hq => (N33 q (.tail _ (List.mem_append_left _ hq))).1
            | 1 => exact hTb.at fun q hq => (N33 q (.tail _ (List.mem_append_left _ hq))).1
            | k + 2 => exact absurd h1 (by simp)
          · have hw : ∀ q ∈ ow2, _ := fun q hq => (N33 q (.tail _ (List.mem_append_right add (List.mem_append_right [_, _, _, _, _, _, _, _] (how3 q hq))))).1
            match k with
            | 0 => exact hTw2.at hw
            | 1 => exact hTw2.at hw
            | k + 2 => exact absurd h1 (by simp)
          have N34 : News s1.heap s1.heap.objs.size _ ((R, oR) :: (s1.heap.objs.size + 1 + 1, o2) :: (s1.heap.objs.size + 1, o5) :: (s1.heap.objs.size + 1 + 1 + 1, oc3) :: (De, listOf wse.toArray 0) :: (D9, listOf (refs ts).toArray (refs ts).length) :: ow) := fun q hq => N33 q (by
            refine .tail _ (List.mem_append_right add (.tail _ ?_))
            rcases List.mem_append.mp (show q ∈ [(R, oR), (s1.heap.objs.size + 1 + 1, o2), (s1.heap.objs.size + 1, o5), (s1.heap.objs.size + 1 + 1 + 1, oc3), (De, listOf wse.toArray 0), (D9, listOf (refs ts).toArray (refs ts).length)] ++ ow from hq) with z | z
            · exact List.mem_append_left ((Dp, LCg.lst (refs tq)) :: ow) z
            · exact List.mem_append_right [_, _, _, _, _, _] (List.mem_cons_of_mem _ z))
          clear N33
          (try dsimp only)
          walk_at "GO"
          walk1
          refine LCg.ListComp_U (F₀ := by k_asm) (by with_unfolding_all rfl) (by decide) (by rfl) (by decide) (by rfl) ?_
          (try k_unmd)
          (try k_fold)
          walk_at "GO"
          rename Fr s1.heap s1.heap.objs.size _ _ => F35
          rename News s1.heap s1.heap.objs.size _ _ => N35
          have htl : ts.length = nums.length := by rw [hts.1, List.length_map]
          refine LCg.CompSrc.ledger (its := (refs ts).toArray) (k := (refs ts).length) (by rfl) F35 N35 (by walk_at "MEM") (by rw [PySem.sizeLine_eq, List.size_toArray, List.length_map]; omega) ?_
          intro g36
          have hrs : (refs ts).toArray.size = nums.length := by rw [List.size_toArray, List.length_map]; exact htl
          refine comp_rest (fun i rv nx => Hold (∃ tb ow5, rv = refs tb ∧ nx = (R, oR) :: (s1.heap.objs.size + 1 + 1, o2) :: (s1.heap.objs.size + 1, o5) :: (s1.heap.objs.size + 1 + 1 + 1, oc3) :: (De, listOf wse.toArray 0) :: (D9, listOf (refs ts).toArray (refs ts).length) :: ow5 ∧ (∀ q ∈ ow, q ∈ ow5) ∧ ListsIn ow5 tb ((List.range i).map fun k => bagOf (namesOf (nums.getD k 0))) ∧ OwnOff ow5 [s1.heap.objs.size + 1 + 1 + 1, s1.heap.objs.size + 1 + 1, s1.heap.objs.size + 1])) ⟨[], ow, rfl, rfl, fun _ h => h, ListsIn.nil _, hoq⟩ ?_ ?_
          · intro i v rv nx I oI C oC D2 m₂ h6 tk6 E' hi hv
            intro hz9
            refine hold23 rv nx hz9 fun tb ow5 how5 htb hob => ?_
            clear hz9
            intro hC hx6 F6 N6 off6 ne6
            have hit : i < ts.length := by rw [htl]; omega
            obtain rfl : v = .ref ts[i] := by
              have z : (refs ts)[i]? = some v := by simpa using hv
              rw [refs_at hit] at z
              exact (Option.some.inj z).symm
            obtain ⟨va, na, hma, hsa⟩ := hts.names hit
            (try k_unmd)
            (try k_fold)
            walk_at "GO"
            rename Fr s1.heap s1.heap.objs.size _ _ => F37
            rename News s1.heap s1.heap.objs.size _ _ => N37
            refine use_pctr (bag_at hsa (Nat.lt_of_le_of_lt (names_le _) (by decide))) F37 KX N37 TX (isList_of (N37 _ (List.mem_append_right [_, _, _, _, _, _, _, _, _] (how5 _ (how3 _ (how2 _ hma))))).1) (by walk_at "RM") (by walk_at "RM") ?_
            rintro _ add h38 tk38 ⟨Dn, vn, nn, rfl, hmn, hsn⟩ F38 N38 A38 _
            (try dsimp only)
            walk_at "GO"
            refine LCg.CompEnd.intro F38 N38 ((R, oR) :: (s1.heap.objs.size + 1 + 1, o2) :: (s1.heap.objs.size + 1, o5) :: (s1.heap.objs.size + 1 + 1 + 1, oc3) :: (De, listOf wse.toArray 0) :: (D9, listOf (refs ts).toArray (refs ts).length) :: (add ++ ow5)) (fun q hq => mem_swap (a := [_, _, _, _, _, _, _, _, _]) hq) (off3_of fun q hq => off3_add A38 off6 q (List.mem_append.mp (mem_swap (a := [_, _, _, _, _, _]) hq))) (.inr ⟨_, .tail _ (.tail _ (.tail _ (.tail _ (.tail _ (.head _))))), rfl, _, rfl⟩) ⟨⟨tb ++ [Dn], add ++ ow5, (by unfold refs; rw [List.map_append]; rfl), rfl, (fun q hq => List.mem_append_right _ (how5 q hq)), ?_, ?_⟩⟩
            · rw [List.range_succ, List.map_append]
              exact htb.snoc (fun q hq => List.mem_append_right _ hq) (List.mem_append_left _ hmn) hsn
            · exact ownOff_add A38 (o1 := oc3) (o2 := o2) (o3 := o5) (.tail _ (.tail _ (.tail _ (.tail _ (.tail _ (.tail _ (.head _))))))) (.tail _ (.tail _ (.tail _ (.tail _ (.head _))))) (.tail _ (.tail _ (.tail _ (.tail _ (.tail _ (.head _)))))) hob
          · intro rv nx
            intro hz9
            refine hold23 rv nx hz9 fun tb ow5 how5 htb hob => ?_
            clear hz9
            rw [hrs] at htb
            intro Dg h39 tk39 F39 N39 o39
            (try dsimp only)
            walk_at "GO"
            have N40 : News s1.heap s1.heap.objs.size h39 ((s1.heap.objs.size + 1 + 1 + 1, oc3) :: (R, oR) :: (s1.heap.objs.size + 1 + 1, o2) :: (s1.heap.objs.size + 1, o5) :: (De, listOf wse.toArray 0) :: (D9, listOf (refs ts).toArray (refs ts).length) :: (Dg, listOf (refs tb).toArray (refs tb).length) :: ow5) := kst_newsOf N39 (by walk_at "SUB")
            have hDg := off1_mem o39
            refine storeX_C F39 N40 rfl (.head ?_) c3' ?_ rfl rfl
            · refine all_ne_cons ?_ (all_ne_cons (Nat.ne_of_lt (Nat.lt_succ_self _)) (all_ne_cons (Nat.ne_of_lt (Nat.lt_succ_of_lt (Nat.lt_succ_self _))) (all_ne_cons (Nat.ne_of_gt hDe3) (all_ne_cons ?_ (all_ne_cons ?_ fun q hq => hob q hq _ (.head _))))))
              · exact Nat.ne_of_gt (lR (s1.heap.objs.size + 1 + 1 + 1, oc3) (by walk_at "MEM"))
              · exact (hD9 (s1.heap.objs.size + 1 + 1 + 1, oc3) (by walk_at "MEM")).symm
              · exact (hDg (s1.heap.objs.size + 1 + 1 + 1, oc3) (by walk_at "MEM")).symm
            intro h41 o3 F41 N41 d3
            (try dsimp only)
            walk_at "GO"
            refine LCg.ListComp_U (F₀ := by k_asm) (by with_unfolding_all rfl) (by decide) (by rfl) (by decide) (by rfl) ?_
            (try k_unmd)
            (try k_fold)
            walk_at "GO"
            rename Fr s1.heap s1.heap.objs.size _ _ => F42
            rename News s1.heap s1.heap.objs.size _ _ => N42
            have htbl : tb.length = nums.length := by rw [htb.1, List.length_map, List.length_range]
            refine LCg.CompSrc.range (n := nums.length - 1) (by rfl) F42 N42 (t := r0) (u := r1) (v := r2) (a := 0) (b := (nums.length : Int) - 1) (by have z := (N42 (R, oR) (by walk_at "MEM")).1; rw [eR] at z; exact z) (rsm (one_of hnl) hnl.2) (rsz (one_of hnl)) (by rw [PySem.sizeLine_eq]; exact pred_size hnl) ?_
            intro g42
            refine comp_rest (fun i rv nx => Hold (∃ tu ow6, rv = refs tu ∧ nx = (s1.heap.objs.size + 1 + 1 + 1, o3) :: (R, oR) :: (s1.heap.objs.size + 1 + 1, o2) :: (s1.heap.objs.size + 1, o5) :: (De, listOf wse.toArray 0) :: (D9, listOf (refs ts).toArray (refs ts).length) :: (Dg, listOf (refs tb).toArray (refs tb).length) :: ow6 ∧ (∀ q ∈ ow5, q ∈ ow6) ∧ PairsIn ow6 tu ((List.range i).map fun k => uAll (bagOf (namesOf (nums.getD k 0))) ([], bagOf (namesOf (nums.getD (k + 1) 0)))))) ⟨[], ow5, rfl, rfl, fun _ h => h, PairsIn.nil _⟩ ?_ ?_
            · intro i v rv nx I oI C oC D2 m₂ h6 tk6 E' hi
              intro hz9
              refine ex_eq v hz9 fun tv => ?_
              clear hz9
              intro hz9
              refine hold22 rv nx hz9 fun tu ow6 how6 htu => ?_
              clear hz9
              intro hC hx6 F6 N6 off6 ne6
              have hi1 : i < tb.length := by rw [show tb.length = nums.length by assumption]; exact lt_of_pred hi
              have hi2 : i + 1 < tb.length := by rw [show tb.length = nums.length by assumption]; exact Nat.add_lt_of_lt_sub hi
              obtain ⟨va, na, hma, hsa⟩ := htb.2 i hi1 (by rw [← htb.1]; exact hi1)
              obtain ⟨vb, nb, hmb, hsb⟩ := htb.2 (i + 1) hi2 (by rw [← htb.1]; exact hi2)
              rw [List.getElem_map, List.getElem_range] at hsa hsb
              have hla : va.length ≤ 100 := by rw [hsa.length]; exact bag_le _
              have hlb : vb.length ≤ 100 := by rw [hsb.length]; exact bag_le _
              have hmG : (Dg, listOf (refs tb).toArray (refs tb).length) ∈ (I, oI) :: (C, oC) :: (D2, LCg.lst (refs tu)) :: (s1.heap.objs.size + 1 + 1 + 1, o3) :: (R, oR) :: (s1.heap.objs.size + 1 + 1, o2) :: (s1.heap.objs.size + 1, o5) :: (De, listOf wse.toArray 0) :: (D9, listOf (refs ts).toArray (refs ts).length) :: (Dg, listOf (refs tb).toArray (refs tb).length) :: ow6 := .tail _ (.tail _ (.tail _ (.tail _ (.tail _ (.tail _ (.tail _ (.tail _ (.tail _ (.head _)))))))))
              (try k_unmd)
              (try k_fold)
              walk_at "GO"
              refine item_listL (l := refs tb) (N6.isList hmG) (z0 i) (z63 hi hnl.2) (by rw [zn i]; exact refs_at hi1) ?_ (by with_unfolding_all rfl) (by intro _; with_unfolding_all rfl)
              (try dsimp only)
              walk_at "GO"
              rename Fr s1.heap s1.heap.objs.size _ _ => F43
              rename News s1.heap s1.heap.objs.size _ _ => N43
              refine list_copyK F43 N43 (isList_of (na := na) (N43 _ (List.mem_append_right [_, _, _, _, _, _, _, _, _, _] (how6 _ hma))).1) ?_ (by rw [PySem.sizeLine_eq, List.size_toArray]; omega)
              intro Da2 ca h44 F44 N44 l44
              clear F43 N43
              (try dsimp only)
              walk_at "GO"
              rename Fr s1.heap s1.heap.objs.size _ _ => F44
              rename News s1.heap s1.heap.objs.size _ _ => N44
              refine item_listL (l := refs tb) (N44.isList (.tail _ hmG)) (z1 i) (z163 hi hnl.2) (by rw [zn1 i]; exact refs_at hi2) ?_ (by with_unfolding_all rfl) (by intro _; with_unfolding_all rfl)
              (try dsimp only)
              walk_at "GO"
              rename Fr s1.heap s1.heap.objs.size _ _ => F45
              rename News s1.heap s1.heap.objs.size _ _ => N45
              refine list_copyK F45 N45 (isList_of (na := nb) (N45 _ (List.mem_append_right [_, _, _, _, _, _, _, _, _, _, _] (how6 _ hmb))).1) ?_ (by rw [PySem.sizeLine_eq, List.size_toArray]; omega)
              intro Db2 cb h46 F46 N46 l46
              clear F45 N45
              (try dsimp only)
              walk_at "GO"
              rename Fr s1.heap s1.heap.objs.size _ _ => F47
              rename News s1.heap s1.heap.objs.size _ _ => N47
              refine use_m0 (n1 := ca) (n2 := cb) (new := (I, oI) :: (C, oC) :: (D2, LCg.lst (refs tu)) :: (s1.heap.objs.size + 1 + 1 + 1, o3) :: (R, oR) :: (s1.heap.objs.size + 1 + 1, o2) :: (s1.heap.objs.size + 1, o5) :: (De, listOf wse.toArray 0) :: (D9, listOf (refs ts).toArray (refs ts).length) :: (Dg, listOf (refs tb).toArray (refs tb).length) :: ow6) (uld_at (Nat.lt_of_le_of_lt (bag_le _) (by decide)) (Nat.lt_of_le_of_lt (bag_le _) (by decide))) F47 KX (fun q hq => N47 q ?_) TX hsa hsb (Nat.ne_of_lt (l46 (Da2, _) (.head _))) (fun q hq => ⟨Nat.ne_of_lt (l44 q hq), Nat.ne_of_lt (l46 q (.tail _ hq))⟩) rfl (by walk_at "RM") (by walk_at "RM") ?_
              · rcases List.mem_cons.mp hq with rfl | hq
                · exact .tail _ (.head _)
                rcases List.mem_cons.mp hq with rfl | hq
                · exact .head _
                · exact .tail _ (.tail _ hq)
              intro Tn add h48 tk48 hTn F48 N48 A48
              clear F47 N47
              (try dsimp only)
              walk_at "GO"
              refine LCg.CompEnd.intro F48 N48 ((s1.heap.objs.size + 1 + 1 + 1, o3) :: (R, oR) :: (s1.heap.objs.size + 1 + 1, o2) :: (s1.heap.objs.size + 1, o5) :: (De, listOf wse.toArray 0) :: (D9, listOf (refs ts).toArray (refs ts).length) :: (Dg, listOf (refs tb).toArray (refs tb).length) :: (add ++ ow6)) (fun q hq => mem_swap (a := [_, _, _, _, _, _, _, _, _, _]) hq) (off3_of fun q hq => off3_add A48 off6 q (List.mem_append.mp (mem_swap (a := [_, _, _, _, _, _, _]) hq))) trivial ⟨⟨tu ++ [Tn], add ++ ow6, (by unfold refs; rw [List.map_append]; rfl), rfl, (fun q hq => List.mem_append_right _ (how6 q hq)), ?_⟩⟩
              rw [List.range_succ, List.map_append]
              exact htu.snoc (fun q hq => List.mem_append_right _ hq) (hTn.mono fun q hq => List.mem_append_left _ hq)
            · intro rv nx
              intro hz9
              refine hold22 rv nx hz9 fun tu ow6 how6 htu => ?_
              clear hz9
              intro Du h49 tk49 F49 N49 o49
              have N50 : News s1.heap s1.heap.objs.size h49 ((s1.heap.objs.size + 1 + 1 + 1, o3) :: (R, oR) :: (s1.heap.objs.size + 1 + 1, o2) :: (s1.heap.objs.size + 1, o5) :: (De, listOf wse.toArray 0) :: (D9, listOf (refs ts).toArray (refs ts).length) :: (Dg, listOf (refs tb).toArray (refs tb).length) :: (Du, LCg.lst (refs tu)) :: ow6) := kst_newsOf N49 (by walk_at "SUB")
              clear N49
              (try dsimp only)
              walk_at "GO"
              refine LCg.ListComp_U (F₀ := by k_asm) (by with_unfolding_all rfl) (by decide) (by rfl) (by decide) (by rfl) ?_
              (try k_unmd)
              (try k_fold)
              walk_at "GO"
              rename Fr s1.heap s1.heap.objs.size _ _ => F51
              rename News s1.heap s1.heap.objs.size _ _ => N51
              refine LCg.CompSrc.range (n := nums.length - 1) (by rfl) F51 N51 (t := r0) (u := r1) (v := r2) (a := 0) (b := (nums.length : Int) - 1) (by have z := (N51 (R, oR) (by walk_at "MEM")).1; rw [eR] at z; exact z) (rsm (one_of hnl) hnl.2) (rsz (one_of hnl)) (by rw [PySem.sizeLine_eq]; exact pred_size hnl) ?_
              intro g51
              refine comp_rest (fun i rv nx => Hold (∃ tv ow7, rv = refs tv ∧ nx = (s1.heap.objs.size + 1 + 1 + 1, o3) :: (R, oR) :: (s1.heap.objs.size + 1 + 1, o2) :: (s1.heap.objs.size + 1, o5) :: (De, listOf wse.toArray 0) :: (D9, listOf (refs ts).toArray (refs ts).length) :: (Dg, listOf (refs tb).toArray (refs tb).length) :: (Du, LCg.lst (refs tu)) :: ow7 ∧ (∀ q ∈ ow6, q ∈ ow7) ∧ PairsIn ow7 tv ((List.range i).map fun k => (diffDown (bagOf (namesOf (nums.getD k 0))) (bagOf (namesOf (nums.getD (k + 1) 0))) (bagOf (namesOf (nums.getD k 0))).length, diffUp (bagOf (namesOf (nums.getD k 0))) (bagOf (namesOf (nums.getD (k + 1) 0))) (bagOf (namesOf (nums.getD (k + 1) 0))).length)))) ⟨[], ow6, rfl, rfl, fun _ h => h, PairsIn.nil _⟩ ?_ ?_
              · intro i v rv nx I oI C oC D2 m₂ h6 tk6 E' hi
                intro hz9
                refine ex_eq v hz9 fun tx => ?_
                clear hz9
                intro hz9
                refine hold22 rv nx hz9 fun tv ow7 how7 htv => ?_
                clear hz9
                intro hC hx6 F6 N6 off6 ne6
                have hi1 : i < tb.length := by rw [show tb.length = nums.length by assumption]; exact lt_of_pred hi
                have hi2 : i + 1 < tb.length := by rw [show tb.length = nums.length by assumption]; exact Nat.add_lt_of_lt_sub hi
                obtain ⟨va, na, hma, hsa⟩ := htb.2 i hi1 (by rw [← htb.1]; exact hi1)
                obtain ⟨vb, nb, hmb, hsb⟩ := htb.2 (i + 1) hi2 (by rw [← htb.1]; exact hi2)
                rw [List.getElem_map, List.getElem_range] at hsa hsb
                have hmG : (Dg, listOf (refs tb).toArray (refs tb).length) ∈ (I, oI) :: (C, oC) :: (D2, LCg.lst (refs tv)) :: (s1.heap.objs.size + 1 + 1 + 1, o3) :: (R, oR) :: (s1.heap.objs.size + 1 + 1, o2) :: (s1.heap.objs.size + 1, o5) :: (De, listOf wse.toArray 0) :: (D9, listOf (refs ts).toArray (refs ts).length) :: (Dg, listOf (refs tb).toArray (refs tb).length) :: (Du, LCg.lst (refs tu)) :: ow7 := .tail _ (.tail _ (.tail _ (.tail _ (.tail _ (.tail _ (.tail _ (.tail _ (.tail _ (.head _)))))))))
                (try k_unmd)
                (try k_fold)
                walk_at "GO"
                refine item_listL (l := refs tb) (N6.isList hmG) (z0 i) (z63 hi hnl.2) (by rw [zn i]; exact refs_at hi1) ?_ (by with_unfolding_all rfl) (by intro _; with_unfolding_all rfl)
                (try dsimp only)
                walk_at "GO"
                refine item_listL (l := refs tb) (N6.isList hmG) (z1 i) (z163 hi hnl.2) (by rw [zn1 i]; exact refs_at hi2) ?_ (by with_unfolding_all rfl) (by intro _; with_unfolding_all rfl)
                (try dsimp only)
                walk_at "GO"
                rename Fr s1.heap s1.heap.objs.size _ _ => F52
                rename News s1.heap s1.heap.objs.size _ _ => N52
                have ga := (N52 _ (List.mem_append_right [_, _, _, _, _, _, _, _, _, _, _] (how7 _ (how6 _ hma)))).1
                have gb := (N52 _ (List.mem_append_right [_, _, _, _, _, _, _, _, _, _, _] (how7 _ (how6 _ hmb)))).1
                refine use_pctr (differ_at hsa hsb (Nat.lt_of_le_of_lt (bag_le _) (by decide)) (Nat.lt_of_le_of_lt (bag_le _) (by decide))) F52 KX N52 TX ⟨⟨isList_of ga, noDict_of ga⟩, ⟨isList_of gb, noDict_of gb⟩⟩ (by walk_at "RM") (by walk_at "RM") ?_
                intro r add h53 tk53 hp F53 N53 A53 _
                obtain ⟨Tn, rfl, hTn, _⟩ := hp.led
                (try dsimp only)
                walk_at "GO"
                refine LCg.CompEnd.intro F53 N53 ((s1.heap.objs.size + 1 + 1 + 1, o3) :: (R, oR) :: (s1.heap.objs.size + 1 + 1, o2) :: (s1.heap.objs.size + 1, o5) :: (De, listOf wse.toArray 0) :: (D9, listOf (refs ts).toArray (refs ts).length) :: (Dg, listOf (refs tb).toArray (refs tb).length) :: (Du, LCg.lst (refs tu)) :: (add ++ ow7)) (fun q hq => mem_swap (a := [_, _, _, _, _, _, _, _, _, _, _]) hq) (off3_of fun q hq => off3_add A53 off6 q (List.mem_append.mp (mem_swap (a := [_, _, _, _, _, _, _, _]) hq))) trivial ⟨⟨tv ++ [Tn], add ++ ow7, (by unfold refs; rw [List.map_append]; rfl), rfl, (fun q hq => List.mem_append_right _ (how7 q hq)), ?_⟩⟩
                rw [List.range_succ, List.map_append]
                exact htv.snoc (fun q hq => List.mem_append_right _ hq) (hTn.mono fun q hq => List.mem_append_left _ hq)
              · intro rv nx
                intro hz9
                refine hold22 rv nx hz9 fun tv ow7 how7 htv => ?_
                clear hz9
                intro Dv h54 tk54 F54 N54 o54
                (try dsimp only)
                walk_at "GO"
                rename Fr s1.heap s1.heap.objs.size _ _ => F55
                rename News s1.heap s1.heap.objs.size _ _ => N55
                have e8 : ((List.range (nums.length - 1)).map fun k => (diffDown (bagOf (namesOf (nums.getD k 0))) (bagOf (namesOf (nums.getD (k + 1) 0))) (bagOf (namesOf (nums.getD k 0))).length, diffUp (bagOf (namesOf (nums.getD k 0))) (bagOf (namesOf (nums.getD (k + 1) 0))) (bagOf (namesOf (nums.getD (k + 1) 0))).length)) = ((List.range (nums.length - 1)).map fun k => uAll (bagOf (namesOf (nums.getD k 0))) ([], bagOf (namesOf (nums.getD (k + 1) 0)))) := List.map_congr_left fun k _ => (bags_ok _ _).symm
                rw [e8] at htv
                have six3 : ∀ z ∈ ((List.range (nums.length - 1)).map fun k => uAll (bagOf (namesOf (nums.getD k 0))) ([], bagOf (namesOf (nums.getD (k + 1) 0)))), Six z.1 ∧ Six z.2 := fun z hz => by
                  obtain ⟨k, _, rfl⟩ := List.mem_map.mp hz
                  exact bags_six _ _
                refine ne_same (d := pyL ((List.range (nums.length - 1)).map fun k => uAll (bagOf (namesOf (nums.getD k 0))) ([], bagOf (namesOf (nums.getD (k + 1) 0)))))
                  (reads_L (N55 (Du, LCg.lst (refs tu)) (by walk_at "MEM")).1 htu.1 fun k h1 h2 => (htu.2 k h1 h2).at fun q hq => (N55 q ?_).1)
                  (reads_L (N55 (Dv, LCg.lst (refs tv)) (by walk_at "MEM")).1 htv.1 fun k h1 h2 => (htv.2 k h1 h2).at fun q hq => (N55 q ?_).1) (shaped_L six3) (by walk_at "RM") ?_
                · exact List.mem_append_right [_, _, _, _, _, _, _, _, _] (how7 q hq)
                · exact List.mem_append_right [_, _, _, _, _, _, _, _, _] hq
                have N56 : News s1.heap s1.heap.objs.size h54 ((s1.heap.objs.size + 1 + 1 + 1, o3) :: (R, oR) :: (s1.heap.objs.size + 1 + 1, o2) :: (s1.heap.objs.size + 1, o5) :: (De, listOf wse.toArray 0) :: (D9, listOf (refs ts).toArray (refs ts).length) :: (Dg, listOf (refs tb).toArray (refs tb).length) :: ow7) := kst_newsOf N55 (by walk_at "SUB")
                clear N55
                (try dsimp only)
                walk_at "GO"
                obtain ⟨aw, bw, vaw, vbw, naw, nbw, hw1, hw2, hw3, hw4, hw5⟩ := id hTw2
                have up : ∀ q ∈ ow2, q ∈ ow7 := fun q hq => how7 q (how6 q (how5 q (how3 q hq)))
                have h0 : 0 < tb.length := by omega
                obtain ⟨v0, n0, hm0, hs0⟩ := htb.2 0 h0 (by rw [← htb.1]; exact h0)
                rw [List.getElem_map, List.getElem_range] at hs0
                replace hm0 := how7 _ (how6 _ hm0)
                replace hw1 := up _ hw1
                replace hw2 := up _ hw2
                replace hw3 := up _ hw3
                replace hs0 := Hold.mk hs0
                replace hw4 := Hold.mk hw4
                replace hw5 := Hold.mk hw5
                rename Fr s1.heap s1.heap.objs.size _ _ => F57
                have m7 : ∀ q ∈ ow7, q ∈ (s1.heap.objs.size + 1 + 1 + 1, o3) :: (R, oR) :: (s1.heap.objs.size + 1 + 1, o2) :: (s1.heap.objs.size + 1, o5) :: (De, listOf wse.toArray 0) :: (D9, listOf (refs ts).toArray (refs ts).length) :: (Dg, listOf (refs tb).toArray (refs tb).length) :: ow7 := fun q hq => List.mem_append_right [_, _, _, _, _, _, _] hq
                refine item_listL (l := refs tb) (isList_of (na := (refs tb).length) (N56 (Dg, _) (by walk_at "MEM")).1) (by decide) (by decide) (refs_at h0) ?_ (by with_unfolding_all rfl) (by intro _; with_unfolding_all rfl)
                (try dsimp only)
                walk_at "GO"
                refine item_tupleL (l := [.ref aw, .ref bw]) (j := 0) ⟨_, (N56 _ (m7 _ hw1)).1, rfl, 0, rfl⟩ (by decide) (by decide) (by rfl) rfl ?_ (by with_unfolding_all rfl) (by intro _; with_unfolding_all rfl)
                (try dsimp only)
                walk_at "GO"
                refine use_x0 (filter_at hs0.out hw4.out (Nat.lt_of_le_of_lt (bag_le _) (by decide)) (Nat.lt_of_le_of_lt (names_le _) (by decide))) F57 KX N56 TX rfl (by walk_at "RM") (by walk_at "RM") ?_ ?_
                · intro g kg kn
                  exact ⟨⟨isList_of (kn _ (m7 _ hm0)), noDict_of (kn _ (m7 _ hm0))⟩, ⟨isList_of (kn _ (m7 _ hw2)), noDict_of (kn _ (m7 _ hw2))⟩⟩
                rintro _ _ h58 tk58 ⟨Dk, vk, nk, rfl, rfl, hsk⟩ F58 N58 A58
                replace hsk := Hold.mk hsk
                simp only [List.cons_append, List.nil_append] at N58
                clear N56 A58
                (try dsimp only)
                walk_at "GO"
                refine LCt.ListComp_T (F₀ := by k_asm) (by with_unfolding_all rfl) (by decide) (by rfl) (by decide) (by rfl) ?_
                (try k_unmd)
                (try k_fold)
                walk_at "GO"
                rename Fr s1.heap s1.heap.objs.size _ _ => F60
                rename News s1.heap s1.heap.objs.size _ _ => N60
                have m8 : ∀ q ∈ ow7, q ∈ (Dk, listOf vk.toArray nk) :: (s1.heap.objs.size + 1 + 1 + 1, o3) :: (R, oR) :: (s1.heap.objs.size + 1 + 1, o2) :: (s1.heap.objs.size + 1, o5) :: (De, listOf wse.toArray 0) :: (D9, listOf (refs ts).toArray (refs ts).length) :: (Dg, listOf (refs tb).toArray (refs tb).length) :: ow7 := fun q hq => .tail _ (m7 q hq)
                refine item_listL (l := refs tb) (isList_of (na := (refs tb).length) (N60 (Dg, _) (by walk_at "MEM")).1) (by decide) (by decide) (refs_at h0) ?_ (by with_unfolding_all rfl) (by intro _; with_unfolding_all rfl)
                (try dsimp only)
                walk_at "GO"
                rename Fr s1.heap s1.heap.objs.size _ _ => F61
                rename News s1.heap s1.heap.objs.size _ _ => N61
                have hl0 : v0.length ≤ 100 := by rw [hs0.out.length]; exact bag_le _
                refine LCt.CompSrcT.ledger (its := v0.toArray) (k := n0) (by rfl) F61 N61 (m8 _ hm0) (by rw [PySem.sizeLine_eq, List.size_toArray]; omega) ?_
                intro g61
                have htl : ts.length = nums.length := by rw [hts.1, List.length_map]
                have hil : ts.length - 1 < ts.length := by rw [htl]; exact pred_lt hnl
                obtain ⟨vz, nz, hmz, hsz⟩ := hts.names hil
                rw [htl] at hsz
                replace hmz := m8 _ (up _ (how2 _ hmz))
                replace hsz := Hold.mk hsz
                refine comp_restT (fun i rv nx => Hold (nx = (Dk, listOf vk.toArray nk) :: (s1.heap.objs.size + 1 + 1 + 1, o3) :: (R, oR) :: (s1.heap.objs.size + 1 + 1, o2) :: (s1.heap.objs.size + 1, o5) :: (De, listOf wse.toArray 0) :: (D9, listOf (refs ts).toArray (refs ts).length) :: (Dg, listOf (refs tb).toArray (refs tb).length) :: ow7 ∧ StrsAre rv (((bagOf (namesOf (nums.getD 0 0))).take i).filter fun x => decide (x ∈ namesOf (nums.getD (nums.length - 1) 0))))) ⟨rfl, .nil⟩ ?_ ?_
                · intro i v rv nx I oI C oC D2 m₂ h6 tk6 E' hi hv
                  intro hz9
                  refine hold_eq_and nx hz9 fun hr6 => ?_
                  clear hz9
                  intro hC hx6 F6 N6 off6 ne6
                  replace hr6 := Hold.mk hr6
                  obtain ⟨hib, tv, rfl⟩ := strs_get hs0.out (i := i) (v := v) (by simpa using hv)
                  (try k_unmd)
                  (try k_fold)
                  walk_at "GO"
                  have hjn : seqIndex? (-1) (refs ts).length = some (ts.length - 1) := by
                    rw [show (refs ts).length = ts.length from List.length_map ..]
                    rw [seqIndex_neg (by decide) (neg_le (by rw [htl]; exact one_of hnl))]
                    congr 1
                    exact neg_one_nat _
                  refine kde_neg (vs := refs ts) (j := ts.length - 1) (isList_of (na := (refs ts).length) (N6 (D9, _) (by walk_at "MEM")).1) (by decide) (by decide) hjn (refs_at hil) ?_ (by with_unfolding_all rfl)
                  (try dsimp only)
                  walk_at "GO"
                  rename Fr s1.heap s1.heap.objs.size _ _ => F62
                  rename News s1.heap s1.heap.objs.size _ _ => N62
                  refine PySem.SeqInW.in_listW (isStrOf (bagOf (namesOf (nums.getD 0 0)))[i]) (eq_val hsz.out _ _) (isList_of (N62 _ (.tail _ (.tail _ (.tail _ hmz)))).1) ?_
                  rw [List.any_toArray, any_isStrOf hsz.out]
                  have hstep : ((bagOf (namesOf (nums.getD 0 0))).take (i + 1)).filter (fun x => decide (x ∈ namesOf (nums.getD (nums.length - 1) 0))) = ((bagOf (namesOf (nums.getD 0 0))).take i).filter (fun x => decide (x ∈ namesOf (nums.getD (nums.length - 1) 0))) ++ (if (bagOf (namesOf (nums.getD 0 0)))[i] ∈ namesOf (nums.getD (nums.length - 1) 0) then [(bagOf (namesOf (nums.getD 0 0)))[i]] else []) := by
                    rw [List.take_succ, List.getElem?_eq_getElem hib, List.filter_append]
                    congr 1
                    show List.filter _ [_] = _
                    rw [List.filter_cons, List.filter_nil]
                    simp only [decide_eq_true_eq]
                  by_cases hm : (bagOf (namesOf (nums.getD 0 0)))[i] ∈ namesOf (nums.getD (nums.length - 1) 0)
                  · rw [decide_eq_true hm]
                    rw [if_pos hm] at hstep
                    (try dsimp only)
                    walk_at "GO"
                    refine LCg.CompEnd.intro F62 N62 ((Dk, listOf vk.toArray nk) :: (s1.heap.objs.size + 1 + 1 + 1, o3) :: (R, oR) :: (s1.heap.objs.size + 1 + 1, o2) :: (s1.heap.objs.size + 1, o5) :: (De, listOf wse.toArray 0) :: (D9, listOf (refs ts).toArray (refs ts).length) :: (Dg, listOf (refs tb).toArray (refs tb).length) :: ow7) (fun q hq => hq) off6 (.inr ⟨_, m8 _ hm0, rfl, _, rfl⟩) ⟨⟨rfl, ?_⟩⟩
                    rw [hstep]
                    exact strs_snoc' hr6.out _ _
                  · rw [decide_eq_false hm]
                    rw [if_neg hm, List.append_nil] at hstep
                    (try dsimp only)
                    walk_at "GO"
                    refine LCg.CompEnd.intro F62 N62 ((Dk, listOf vk.toArray nk) :: (s1.heap.objs.size + 1 + 1 + 1, o3) :: (R, oR) :: (s1.heap.objs.size + 1 + 1, o2) :: (s1.heap.objs.size + 1, o5) :: (De, listOf wse.toArray 0) :: (D9, listOf (refs ts).toArray (refs ts).length) :: (Dg, listOf (refs tb).toArray (refs tb).length) :: ow7) (fun q hq => hq) off6 (.inr ⟨_, m8 _ hm0, rfl, _, rfl⟩) ⟨⟨rfl, ?_⟩⟩
                    rw [hstep]
                    exact hr6.out
                · intro rv nx
                  intro hz9
                  refine hold_eq_and nx hz9 fun hr6 => ?_
                  clear hz9
                  rw [List.take_of_length_le (by rw [List.size_toArray, hs0.out.length]; exact Nat.le_refl _), ← kept_ok] at hr6
                  intro Dq h63 tk63 F63 N63 o63
                  replace hr6 := Hold.mk hr6
                  (try dsimp only)
                  walk_at "GO"
                  rename Fr s1.heap s1.heap.objs.size _ _ => F64
                  rename News s1.heap s1.heap.objs.size _ _ => N64
                  refine ne_same (d := pyS ((bagOf (namesOf (nums.getD 0 0))).filter fun x => decide (x ∉ namesOf (goesOf (nums.getD 0 0) (nums.getD (nums.length - 1) 0)))))
                    (reads_S (N64 (Dk, _) (.tail _ (.head _))).1 hsk.out) (reads_S (na := rv.length) (N64 (Dq, _) (.head _)).1 hr6.out) (shaped_S ((bag_six _).filter _)) (by walk_at "RM") ?_
                  (try dsimp only)
                  walk_at "GO"
                  rename Fr s1.heap s1.heap.objs.size _ _ => F65
                  rename News s1.heap s1.heap.objs.size _ _ => N65
                  refine item_tupleL (l := [.ref aw, .ref bw]) (j := 1) ⟨_, (N65 _ (.tail _ (m8 _ hw1))).1, rfl, 0, rfl⟩ (by decide) (by decide) (by rfl) rfl ?_ (by with_unfolding_all rfl) (by intro _; with_unfolding_all rfl)
                  (try dsimp only)
                  walk_at "GO"
                  refine use_pctr (in_order_at hsk.out hw5.out (Nat.lt_of_le_of_lt (List.length_filter_le ..) (Nat.lt_of_le_of_lt (bag_le _) (by decide))) (Nat.lt_of_le_of_lt (names_le _) (by decide))) F65 KX N65 TX ⟨isList_of (N65 (Dk, _) (.tail _ (.head _))).1, isList_of (N65 _ (.tail _ (m8 _ hw3))).1⟩ (by walk_at "RM") (by walk_at "RM") ?_
                  rintro _ _ h66 tk66 ⟨Do, vo, no, rfl, rfl, hso⟩ F66 N66 A66 _
                  replace hso := Hold.mk hso
                  simp only [List.cons_append, List.nil_append] at N66
                  (try dsimp only)
                  walk_at "GO"
                  refine ListComp_two (fun i => max 1 ((bagOf (namesOf (nums.getD 0 0))).count ((namesOf (nums.getD (nums.length - 1) 0)).getD i Str.empty))) (F₀ := by k_asm) (by with_unfolding_all rfl) (by decide) (by rfl) (by decide) (by rfl) (by rfl) (by decide) ?_
                  (try k_unmd)
                  (try k_fold)
                  walk_at "GO"
                  rename Fr s1.heap s1.heap.objs.size _ _ => F70
                  rename News s1.heap s1.heap.objs.size _ _ => N70
                  have hjn : seqIndex? (-1) (refs ts).length = some (ts.length - 1) := by
                    rw [show (refs ts).length = ts.length from List.length_map ..]
                    rw [seqIndex_neg (by decide) (neg_le (by rw [show ts.length = nums.length by assumption]; exact one_of hnl))]
                    congr 1
                    exact neg_one_nat _
                  refine kde_neg (vs := refs ts) (j := ts.length - 1) (isList_of (na := (refs ts).length) (N70 (D9, _) (by walk_at "MEM")).1) (by decide) (by decide) hjn (refs_at hil) ?_ (by with_unfolding_all rfl)
                  (try dsimp only)
                  walk_at "GO"
                  have hzl : vz.length ≤ 6 := by rw [hsz.out.length]; exact names_le _
                  refine ⟨_, vz.toArray, nz, _, rfl, rfl, F70, N70, .tail _ (.tail _ hmz), by rw [List.size_toArray]; omega, fun i => ?_, ?_, ?_, ?_⟩
                  · exact Nat.max_le.mpr ⟨by omega, Nat.le_trans List.count_le_length (Nat.le_trans (bag_le _) (by omega))⟩
                  · rintro i v I oI C oC D oD m₂ h6 tk6 E' hv hC hx6 F6 N6 off6 ne6
                    obtain ⟨hib, tv, rfl⟩ := strs_get hsz.out (i := i) (v := v) (by simpa using hv)
                    (try k_unmd)
                    (try k_fold)
                    walk_at "GO"
                    refine item_listL (l := refs tb) (isList_of (na := (refs tb).length) (N6 (Dg, _) (by walk_at "MEM")).1) (by decide) (by decide) (refs_at h0) ?_ (by with_unfolding_all rfl) (by intro _; with_unfolding_all rfl)
                    (try dsimp only)
                    walk_at "GO"
                    have g0 := (N6 _ (.tail _ (.tail _ (.tail _ (.tail _ (.tail _ (m8 _ hm0))))))).1
                    refine getMethod_list_of PySem.F.slot_list_count PySem.F.type_list_count (isList_of g0) (noDict_of g0) ?_
                    (try dsimp only)
                    walk_at "GO"
                    refine r_count (its := v0.toArray) (isList_of g0) (by simpa using hs0.out) ?_
                    (try dsimp only)
                    walk_at "GO"
                    rename Fr s1.heap s1.heap.objs.size _ _ => F71
                    rename News s1.heap s1.heap.objs.size _ _ => N71
                    refine r_range F71 N71 ?_
                    intro R7 h7 tk7 oR7 a7 b7 c7 e7 Fx Nx _
                    subst e7
                    rw [maxI] at Nx
                    refine ⟨R7, a7, b7, c7, h7, tk7, rfl, rfl, Fx, ?_⟩
                    have hgd : (namesOf (nums.getD (nums.length - 1) 0)).getD i Str.empty = (namesOf (nums.getD (nums.length - 1) 0))[i] := by rw [List.getD_eq_getElem?_getD, List.getElem?_eq_getElem hib]; rfl
                    show News _ _ _ ((R7, rngObj 0 ((max 1 (List.count ((namesOf (nums.getD (nums.length - 1) 0)).getD i Str.empty) (bagOf (namesOf (nums.getD 0 0)))) : Nat) : Int) 1 _ _ _) :: _)
                    rw [hgd]
                    exact Nx
                  · intro v C oC m₂ h6 tk6 E' Q' nx hC hx6 F6 N6 hq
                    (try k_unmd)
                    (try k_fold)
                    walk_at "GO"
                    exact hq
                  · intro Dl h72 tk72 F72 N72
                    (try dsimp only)
                    walk_at "GO"
                    rename Fr s1.heap s1.heap.objs.size _ _ => F73
                    rename News s1.heap s1.heap.objs.size _ _ => N73
                    have hcp : StrsAre (resOf vz.toArray (fun i => max 1 ((bagOf (namesOf (nums.getD 0 0))).count ((namesOf (nums.getD (nums.length - 1) 0)).getD i Str.empty))) vz.toArray.size) (copies (namesOf (nums.getD (nums.length - 1) 0)) (bagOf (namesOf (nums.getD 0 0)))) :=
                      strs_res hsz.out (fun x => max 1 ((bagOf (namesOf (nums.getD 0 0))).count x)) _ (fun i _ => rfl)
                    refine eq_same (d := pyS (copies (namesOf (nums.getD (nums.length - 1) 0)) (bagOf (namesOf (nums.getD 0 0)))))
                      (reads_S (N73 (Do, _) (.tail _ (.head _))).1 (by rw [← last_ok]; exact hso.out)) (reads_S (N73 (Dl, _) (.head _)).1 hcp) (shaped_S (copies_six _ _)) (by walk_at "RM") ?_
                    (try dsimp only)
                    walk_at "GO"
                    refine goodW_bool F73 (by assumption) (raisesW_false ?_) ?_
                    · wrow_none_raised
                    · wrow_post))
end
end Mine
end
theorem PySem.Challenge.cw_kt0010_01_holds : PySem.Challenge.rw_kt0010_01.Holds :=
  Mine.law_holds
