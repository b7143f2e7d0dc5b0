import PyProof.Rows.All
import Wide.All
import OpenK.AllK
import Wide.FinOn
import Lean
import PySem.Challenge.RW_rs0180_01
open PySem PySem.W PyProof.Rows
set_option Elab.async false
local macro_rules | `(tactic| walk_at $s:str) => `(tactic| k_extra $s)
local macro_rules | `(tactic| k_mem) => `(tactic| k_extra "mem")
local macro_rules | `(tactic| k_upd) => `(tactic| k_extra "upd")
local macro_rules | `(tactic| size_fits) => `(tactic| k_extra "fits")
section
open PySem PySem.W PyProof.Rows
namespace Mine
def seenProg : Program := { PySem.Challenge.pw_rs0180_01 with main := { PySem.Challenge.pw_rs0180_01.main with body := [0, 7, 9, 11, 12, 13, 14, 15].filterMap (PySem.Challenge.pw_rs0180_01.main.body[·]?) } }
local macro_rules
  | `(tactic| o_law) => `(tactic| refine holds_law (by kernel_rfl) fun said => ?_)
local macro_rules
  | `(tactic| o_head $H) => `(tactic| (
    refine @id ((_ ∧ _) → _) (fun x => holds_open (q := seenProg) (loose := [Str.ofString "insort_right", Str.ofString "bisect_right", Str.ofString "insort_left", Str.ofString "bisect_left", Str.ofString "Whitespace"])
      (Xt := fun s => xlAt seenProg [] s && recOk (RowW.records (OpenRow.toRowW (OpenLaw.row PySem.Challenge.rw_rs0180_01))) s) (XP := XL seenProg []) (Yf := Hook.obs $H) (Ya := Hook.val $H) (YP := Hook.says $H) (N := 1900)
      x.1 (Hook.of $H) (Hook.keeps $H) (fun s e => xl_of s (Bool.and_eq_true_iff.mp e).1) XL.keeps (by rfl) (by rfl) (by rfl) (fun s e => recFacts_of (Bool.and_eq_true_iff.mp e).2) (by rfl) (by assumption) (by decide +kernel) ⟨rfl, rfl, rfl, rfl, rfl, by decide +kernel⟩ ?hw x.2) ?hc))
set_option maxRecDepth 100000 in
set_option maxHeartbeats 8000000 in
open_top hd for PySem.Challenge.rw_rs0180_01
end Mine
end
section
open PySem PySem.W PyProof.Rows PySem.Calls
namespace Mine
theorem frCongr {h₀ h : Heap} {L : Addr} {m m' : Str → Option Value} (F : Fr h₀ L h m) (e : ∀ z, m z = m' z) : Fr h₀ L h m' := by
  k_with_none
  have : m = m' := funext e
  rw [← this]; exact F
theorem newsSub {h₀ h : Heap} {L : Addr} {a b : List (Addr × Obj)} (N : News h₀ L h a) (hs : ∀ p ∈ b, p ∈ a) : News h₀ L h b := fun p hp => N p (hs p hp)
/-- the walk halts here -/
def Stop (P : Prop) : Prop := P
theorem stop_ {P : Prop} (h : Stop P) : P := h
theorem unstop {P : Prop} (h : P) : Stop P := h
/-- what a turn of a while leaves -/
def WhEnd {σ : Type} (h₀ : Heap) (L : Addr) (s : Shared) (fm : σ → Str → Option Value) (nw : σ → List (Addr × Obj)) (P : σ → Prop) (μ : σ → Nat) (c : σ) (s₂ : Shared) : Prop :=
  ∃ (c' : σ) (h' : Heap) (tk : Nat), s₂ = { s with heap := h', toks := tk } ∧ Fr h₀ L h' (fm c') ∧ News h₀ L h' (nw c') ∧ P c' ∧ μ c' < μ c
def WhPost {σ : Type} (h₀ : Heap) (L : Addr) (s : Shared) (fm : σ → Str → Option Value) (nw : σ → List (Addr × Obj)) (P : σ → Prop) (μ : σ → Nat) (Q : Flow → Shared → Prop) (c : σ) (f : Flow) (s₂ : Shared) : Prop :=
  match f with
  | .ret v => Q (.ret v) s₂
  | .brk => Q .next s₂
  | _ => WhEnd h₀ L s fm nw P μ c s₂
theorem WhEnd.intro {σ : Type} {h₀ : Heap} {L : Addr} {s : Shared} {fm : σ → Str → Option Value} {nw : σ → List (Addr × Obj)} {P : σ → Prop} {μ : σ → Nat} {c : σ} {h' : Heap} {tk : Nat} {m' : Str → Option Value} {news' : List (Addr × Obj)} (c' : σ)
    (F : Fr h₀ L h' m') (N : News h₀ L h' news') (e : ∀ z, m' z = fm c' z) (hn : ∀ p ∈ nw c', p ∈ news') (hp : P c') (hm : μ c' < μ c) : WhEnd h₀ L s fm nw P μ c { s with heap := h', toks := tk } :=
  ⟨c', h', tk, rfl, frCongr F e, newsSub N hn, hp, hm⟩
theorem while_ {prog : Program} {w : World} {A : Around} {E : Value → Shared → Prop} {Q : Flow → Shared → Prop} {s : Shared} {env : Env} {h₀ : Heap} {L : Addr} {σ : Type} {test : Expr} {body : List Stmt} {pos : Pos} {m₀ : Str → Option Value} {news : List (Addr × Obj)}
    (fm : (Str → Option Value) → σ → Str → Option Value) (nw : σ → List (Addr × Obj)) (P : σ → Prop) (μ : σ → Nat) (c₀ : σ)
    (F : Fr h₀ L s.heap m₀) (N : News h₀ L s.heap news) (e : ∀ z, m₀ z = fm m₀ c₀ z) (hn : ∀ p ∈ nw c₀, p ∈ news) (hp : P c₀)
    (turn : ∀ (c : σ) h tk, P c → Fr h₀ L h (fm m₀ c) → News h₀ L h (nw c) →
      wpAny (model prog w) A (isTrue test env (eval test env)) (fun b s₂ =>
        if b = true then wpAny (model prog w) A (execs body env) (WhPost h₀ L s (fm m₀) nw P μ Q c) E s₂ else Q .next s₂) E { s with heap := h, toks := tk })
    (hE : PassesOwn (model prog w) A env E := by passes_own) :
    wpAny (model prog w) A (exec (.While test body [] pos) env) Q E s := by
  refine While_inv2 (fun n m nx => ∃ c : σ, m = fm m₀ c ∧ nx = nw c ∧ μ c = n ∧ P c) (frCongr F e) (newsSub N hn) ⟨c₀, rfl, rfl, rfl, hp⟩ ?_ hE
  rintro n m₁ nx h tk F₁ N₁ ⟨c, rfl, rfl, rfl, hp'⟩
  refine wpAny_mono (turn c h tk hp' F₁ N₁) (fun b s₂ p => ?_) fun _ _ x => x
  cases b with
  | false => simpa using p
  | true =>
    simp only [if_true] at p ⊢
    refine wpAny_mono p (fun f s₃ q => ?_) fun _ _ x => x
    cases f with
    | ret v => exact q
    | brk => exact q
    | next =>
      obtain ⟨c', h', tk', rfl, F', N', hp9, hm9⟩ := q
      exact ⟨h', tk', fm m₀ c', nw c', μ c', rfl, F', N', hm9, c', rfl, rfl, rfl, hp9⟩
    | cont =>
      obtain ⟨c', h', tk', rfl, F', N', hp9, hm9⟩ := q
      exact ⟨h', tk', fm m₀ c', nw c', μ c', rfl, F', N', hm9, c', rfl, rfl, rfl, hp9⟩
theorem len_mem {prog : Program} {w : World} {A : Around} {E : Value → Shared → Prop} {s : Shared} {h₀ : Heap} {L l : Addr} {news : List (Addr × Obj)} {vs : List Value} {n : Nat} {Q : Value → Shared → Prop}
    (N : News h₀ L s.heap news) (hm : (l, W.listOf vs.toArray n) ∈ news) (hz : vs.length < 2 ^ 62) (h : ∀ t tk, Q (.int vs.length t) { s with toks := tk }) : wpAny (model prog w) A (call (.builtin "len") [.ref l]) Q E s :=
  len_list (News.isList N hm) (by rw [List.size_toArray]; omega) (by rw [List.size_toArray]; exact h _ _)
theorem item_mem {prog : Program} {w : World} {A : Around} {E : Value → Shared → Prop} {s : Shared} {h₀ : Heap} {L l : Addr} {news : List (Addr × Obj)} {vs : List Value} {n : Nat} {k : Int} {u : Tok} {v : Value} {value slice : Expr} {Q : Value → Shared → Prop}
    (N : News h₀ L s.heap news) (hm : (l, W.listOf vs.toArray n) ∈ news) (h0 : 0 ≤ k) (hz : k < 2 ^ 63) (hx : vs[k.toNat]? = some v) (h : Q v s)
    (hs : subscripted slice false (.ref l) (.int k u) = operate [.ref l, .int k u] (getItem (.ref l) (.int k u)) := by with_unfolding_all rfl) (hg : ∀ r, letTemporaryGo value (.ref l) r = pure () := by intro _; with_unfolding_all rfl) :
    wpAny (model prog w) A (subscriptTail value slice (.ref l) (.int k u)) Q E s :=
  item_list (News.isList N hm) h0 hz (by simpa using hx) h hs hg
theorem item_ints {prog : Program} {w : World} {A : Around} {E : Value → Shared → Prop} {s : Shared} {h₀ : Heap} {L l : Addr} {news : List (Addr × Obj)} {vs : List Value} {ns : List Int} {n : Nat} {k : Int} {u : Tok} {value slice : Expr} {Q : Value → Shared → Prop}
    (N : News h₀ L s.heap news) (hm : (l, W.listOf vs.toArray n) ∈ news) (hI : IntsAre vs ns) (h0 : 0 ≤ k) (hz : vs.length < 2 ^ 62) (hl : k < ns.length) (h : ∀ v t, ns[k.toNat]? = some v → Q (.int v t) s)
    (hs : subscripted slice false (.ref l) (.int k u) = operate [.ref l, .int k u] (getItem (.ref l) (.int k u)) := by with_unfolding_all rfl) (hg : ∀ r, letTemporaryGo value (.ref l) r = pure () := by intro _; with_unfolding_all rfl) :
    wpAny (model prog w) A (subscriptTail value slice (.ref l) (.int k u)) Q E s := by
  have e : ns[k.toNat]? = some ns[k.toNat] := List.getElem?_eq_getElem (by omega)
  obtain ⟨t, ht⟩ := hI.get k.toNat _ e
  have := hI.length
  exact item_mem N hm h0 (by omega) ht (h _ t e) hs hg
theorem item_strs {prog : Program} {w : World} {A : Around} {E : Value → Shared → Prop} {s : Shared} {h₀ : Heap} {L l : Addr} {news : List (Addr × Obj)} {vs : List Value} {ss : List Str} {n : Nat} {k : Int} {u : Tok} {value slice : Expr} {Q : Value → Shared → Prop}
    (N : News h₀ L s.heap news) (hm : (l, W.listOf vs.toArray n) ∈ news) (hS : StrsAre vs ss) (h0 : 0 ≤ k) (hz : vs.length < 2 ^ 62) (hl : k < ss.length) (h : ∀ v t, ss[k.toNat]? = some v → Q (.str v t) s)
    (hs : subscripted slice false (.ref l) (.int k u) = operate [.ref l, .int k u] (getItem (.ref l) (.int k u)) := by with_unfolding_all rfl) (hg : ∀ r, letTemporaryGo value (.ref l) r = pure () := by intro _; with_unfolding_all rfl) :
    wpAny (model prog w) A (subscriptTail value slice (.ref l) (.int k u)) Q E s := by
  have e : ss[k.toNat]? = some ss[k.toNat] := List.getElem?_eq_getElem (by omega)
  obtain ⟨t, ht⟩ := StrsAre.get hS k.toNat _ e
  have := StrsAre.length hS
  exact item_mem N hm h0 (by omega) ht (h _ t e) hs hg
theorem len_text {prog : Program} {w : World} {A : Around} {E : Value → Shared → Prop} {s : Shared} {x : Str} {t : Tok} {Q : Value → Shared → Prop} (hz : x.length ≤ sizeLine) (h : ∀ t tk, Q (.int x.length t) { s with toks := tk }) :
    wpAny (model prog w) A (call (.builtin "len") [.str x t]) Q E s := PyProof.Rows.len_str (by rw [sizeLine_eq] at hz; omega) (h _ _)

theorem item_text {prog : Program} {w : World} {A : Around} {E : Value → Shared → Prop} {s : Shared} {x y : Str} {t u : Tok} {i : Int} {value slice : Expr} {Q : Value → Shared → Prop}
    (h1 : -(x.length : Int) ≤ i) (h2 : i < x.length) (hz : x.length ≤ sizeLine) (e : Txt.item x i = y) (h : ∀ t tk, Q (.str y t) { s with toks := tk })
    (hs : subscripted slice false (.str x t) (.int i u) = operate [.str x t, .int i u] (getItem (.str x t) (.int i u)) := by with_unfolding_all rfl)
    (ht : ∀ r, letTemporaryGo value (.str x t) r = pure () := by intro _; with_unfolding_all rfl) : wpAny (model prog w) A (subscriptTail value slice (.str x t) (.int i u)) Q E s := by
  rw [sizeLine_eq] at hz
  exact item_str (fitsSsize_of (N := 9223372036854775808) (by omega) (by omega) (Int.le_refl _)) h1 h2 (fun _ => by rw [e]; exact h _ _) hs ht
end Mine
end
section
open PySem PySem.W PyProof.Rows PySem.Calls
namespace Mine
/-- the statements and the scope of the def that stands k-th at the top -/
def defB (k : Nat) : List Stmt := match PySem.Challenge.pw_rs0180_01.main.body[k]? with
  | some (.FunctionDef _ _ b _ _ _ _ _ _ _) => b
  | _ => []
def defS (k : Nat) : Scope := match PySem.Challenge.pw_rs0180_01.main.body[k]? with
  | some (.FunctionDef _ _ _ _ _ _ s _ _ _) => s
  | _ => PySem.Challenge.pw_rs0180_01.main.scope
/-- the body of the for that stands k-th -/
def forB (l : List Stmt) (k : Nat) : List Stmt := match l[k]? with
  | some (.For _ _ b _ _) => b
  | _ => []
def tiesS : Scope := defS 13
def turnB : List Stmt := forB (defB 13) 5
def tieB : List Stmt := forB turnB 7
def lawB : List Stmt := defB 15
def lawS : Scope := defS 15
end Mine
end
section
open PySem PySem.W PyProof.Rows
namespace Mine
theorem head_sides {p q : Program} {loose : List Str} {Xt : Shared → Bool} {α : Type} {Yf : Shared → α} {Ya : World → α} {N : Nat} {g0 : Bool} (row : String)
    (e : opening p = plainProg p.main.scope.names) (hN : Nat.ble 600 N = true) (f : ∀ s, fenceModules? p s = some s)
    (h0 : ∀ (w : World) (os : OsState), (topFrom treeTable p (w.withFollow row false) N ⟨boot_heap (w.withFollow row false).params, Array.mk [], boot_drawn, boot_toks, os⟩).map
      (fun s => (openSeen q loose (importedModules p.main.body) Xt g0 s, Yf s)) = some (openGood q loose, Ya (w.withFollow row false)))
    (h1 : ∀ (w : World) (os : OsState), (topFrom treeTable p (w.withFollow row true) N ⟨boot_heap (w.withFollow row true).params, Array.mk [], boot_drawn, boot_toks, os⟩).map
      (fun s => (openSeen q loose (importedModules p.main.body) Xt g0 s, Yf s)) = some (openGood q loose, Ya (w.withFollow row true))) : LeftO p q loose Xt Yf Ya N g0 := fun w => by
  obtain ⟨s₀, a, b⟩ := Option.map_eq_some_iff.mp (boot_open e hN f w)
  obtain ⟨hp, gs, dr, tk, os⟩ := s₀
  simp only [Prod.mk.injEq] at b
  obtain ⟨rfl, rfl, rfl, rfl⟩ := b
  have e := World.withFollow_self w row
  unfold openEnds
  rw [a]
  cases hb : w.params.followText row <;> rw [hb] at e
  · have k := h0 w os; rw [e] at k; exact k
  · have k := h1 w os; rw [e] at k; exact k
def headAs : List Addr := [2, 3, 15, 17, 18, 20, 21, 22, 23, 24, 26, 27, 29, 30, 31, 32, 33, 35, 36, 38, 39, 40, 41, 42, 44, 45, 47, 48, 49, 50, 51, 53, 54, 56, 57, 58, 60, 61, 63, 64, 75, 77, 78, 80, 81, 82, 84, 85, 87, 88, 89, 91, 92, 94, 95, 96, 98, 99, 101, 102, 103, 105, 106, 108, 109, 110, 112, 113, 115, 116, 117, 119, 120, 122, 123, 124, 125, 126, 127, 128, 131, 134, 135, 136, 139, 140, 141, 144, 145, 146, 149, 150, 151, 154, 155]
def headLoose : List Str := [Str.ofString "insort_right", Str.ofString "bisect_right", Str.ofString "insort_left", Str.ofString "bisect_left", Str.ofString "Whitespace"]
def headXt (s : Shared) : Bool := xlAt seenProg [] s && recOk (RowW.records (OpenRow.toRowW (OpenLaw.row PySem.Challenge.rw_rs0180_01))) s
def HeadSide (b : Bool) : Prop := ∀ (w : World) (os : OsState), (topFrom treeTable PySem.Challenge.rw_rs0180_01.row.prog (w.withFollow "special-get-raises" b) 1900 ⟨boot_heap (w.withFollow "special-get-raises" b).params, Array.mk [], boot_drawn, boot_toks, os⟩).map
  (fun s => (openSeen seenProg headLoose (importedModules PySem.Challenge.rw_rs0180_01.row.prog.main.body) headXt true s, (headAs.map s.heap.get?, [142].map s.heap.get?))) = some (openGood seenProg headLoose, ((hd.heap_1 (w.withFollow "special-get-raises" b).params).map (fun p => some p.2), [142].map fun _ => some (tabObj #[])))
set_option maxRecDepth 100000 in
set_option maxHeartbeats 8000000 in
theorem head_side0 : HeadSide false := by unfold HeadSide; intro w os; kernel_rfl
set_option maxRecDepth 100000 in
set_option maxHeartbeats 8000000 in
theorem head_side1 : HeadSide true := by unfold HeadSide; intro w os; kernel_rfl
set_option maxRecDepth 100000 in
set_option maxHeartbeats 8000000 in
theorem head_left {as : List Addr} (ha : as = headAs) (e : ∀ P, as = (hd.heap_1 P).map (·.1)) : LeftO PySem.Challenge.rw_rs0180_01.row.prog seenProg headLoose headXt (kmHook hd.heap_1 as e [142]).obs (kmHook hd.heap_1 as e [142]).val 1900 := by
  subst ha
  exact head_sides "special-get-raises" (by kernel_rfl) rfl (by intro s; kernel_rfl) head_side0 head_side1
end Mine
end
section
open PySem PySem.W PyProof.Rows PySem.Calls
namespace Mine
/-- a point: k blanks and its name -/
def pt (k c : Nat) : Str := ⟨(List.replicate k 32 ++ [c]).toArray⟩
theorem pt_length (k c : Nat) : (pt k c).length = k + 1 := by simp [pt, PySem.Str.length]
theorem pt_at (k c i : Nat) (h : i ≤ k) : (pt k c).cps[i]? = some (if i < k then 32 else c) := by
  k_with_none
  unfold pt
  simp only [List.getElem?_toArray]
  by_cases hi : i < k
  · rw [if_pos hi, List.getElem?_append_left (by simpa using hi), List.getElem?_replicate, if_pos hi]
  · have : i = k := by omega
    subst this
    rw [if_neg hi, List.getElem?_append_right (by simp)]; simp
theorem pt_item (k c : Nat) (i : Int) (h0 : 0 ≤ i) (h : i ≤ k) : Txt.item (pt k c) i = ⟨#[if i < (k : Int) then 32 else c]⟩ := by
  unfold Txt.item Txt.charAt
  have e : seqIndex? i (pt k c).length = some i.toNat := by
    unfold seqIndex?
    rw [pt_length]
    simp; omega
  rw [e, Option.bind_some, pt_at k c _ (by omega), Option.getD_some]
  by_cases hi : i < (k : Int)
  · rw [if_pos hi, if_pos (by omega)]
  · rw [if_neg hi, if_neg (by omega)]
theorem pt_last (k c : Nat) : Txt.item (pt k c) (-1) = ⟨#[c]⟩ := by
  unfold Txt.item Txt.charAt
  have e : seqIndex? (-1) (pt k c).length = some k := by
    unfold seqIndex?
    rw [pt_length]
    simp; omega
  rw [e, Option.bind_some, pt_at k c _ (by omega), Option.getD_some, if_neg (by omega)]
theorem pt_slice (k c : Nat) (i : Int) (h0 : 0 ≤ i) (h : i ≤ k) : Txt.slice (pt k c) (some i) (some ((k : Int) + 1)) = pt (k - i.toNat) c := by
  have e := eq_of_beq (slice_closes (x := pt k c) (i := i) (j := (k : Int) + 1) ⟨h0, by omega, by simp [pt]⟩)
  rw [e]
  unfold pt
  congr 2
  obtain ⟨n, rfl⟩ := Int.eq_ofNat_of_zero_le h0
  simp only [Int.toNat_natCast]
  have hn : n ≤ k := by omega
  rw [List.drop_append_of_le_length (by simpa using hn), List.drop_replicate, List.take_of_length_le (by simp; omega)]
theorem eq_text_t {prog : Program} {w : World} {A : Around} {E : Value → Shared → Prop} {s : Shared} {x y : Str} {t u : Tok} {Q : Value → Shared → Prop} (e : x = y) (h : Q (.bool true) s) : wpAny (model prog w) A (compareOp .Eq (.str x t) (.str y u)) Q E s := by
  subst e; exact PySem.P.eq_str (by rw [beq_self_eq_true]; exact h)
theorem eq_text_f {prog : Program} {w : World} {A : Around} {E : Value → Shared → Prop} {s : Shared} {x y : Str} {t u : Tok} {Q : Value → Shared → Prop} (e : x ≠ y) (h : Q (.bool false) s) : wpAny (model prog w) A (compareOp .Eq (.str x t) (.str y u)) Q E s := by
  refine PySem.P.eq_str ?_
  have : (x.cps.toList == y.cps.toList) = false := by
    cases q : (x.cps.toList == y.cps.toList) with
    | false => rfl
    | true =>
      have := eq_of_beq q
      exact absurd (by cases x; cases y; simp at this; rw [this]) e
  rw [this]; exact h
theorem blank_is : (PySem.Str.ofString " ") = ⟨#[32]⟩ := by decide +kernel
theorem one_ne {n : Nat} (h : n ≠ 32) : (⟨#[n]⟩ : Str) ≠ PySem.Str.ofString " " := by
  rw [blank_is]; intro e; simp at e; exact h e
end Mine
end
section
open PySem PySem.W PyProof.Rows PySem.Calls
namespace Mine
def FeEnd {σ : Type} (h₀ : Heap) (L : Addr) (s : Shared) (fm : σ → Str → Option Value) (nw : σ → List (Addr × Obj)) (fp : List Addr) (x : Str) (P : σ → Prop) (own : List (Addr × Obj)) (s₂ : Shared) : Prop :=
  ∃ (c' : σ) (u : Option Value) (h' : Heap) (tk : Nat), s₂ = { s with heap := h', toks := tk } ∧ Fr h₀ L h' (fun y => if y = x then u else fm c' y) ∧ News h₀ L h' (nw c' ++ own) ∧ (∀ p ∈ nw c', p.1 ∉ fp) ∧ P c'
def FePost {σ : Type} (h₀ : Heap) (L : Addr) (s : Shared) (fm : σ → Str → Option Value) (nw : σ → List (Addr × Obj)) (fp : List Addr) (x : Str) (P : σ → Prop) (own : List (Addr × Obj)) (Q : Flow → Shared → Prop) (f : Flow) (s₂ : Shared) : Prop :=
  match f with
  | .ret v => Q (.ret v) s₂
  | .brk => Q .next s₂
  | _ => FeEnd h₀ L s fm nw fp x P own s₂
theorem FeEnd.intro {σ : Type} {h₀ : Heap} {L : Addr} {s : Shared} {fm : σ → Str → Option Value} {nw : σ → List (Addr × Obj)} {fp : List Addr} {x : Str} {P : σ → Prop} {own : List (Addr × Obj)} {h' : Heap} {tk : Nat} {m' : Str → Option Value} {news' : List (Addr × Obj)} (c' : σ)
    (F : Fr h₀ L h' m') (N : News h₀ L h' news') (e : ∀ z, z ≠ x → m' z = fm c' z) (hn : ∀ p ∈ nw c', p ∈ news') (ho : ∀ p ∈ own, p ∈ news') (hf : ∀ p ∈ nw c', p.1 ∉ fp) (hp : P c') : FeEnd h₀ L s fm nw fp x P own { s with heap := h', toks := tk } :=
  have F0 : Fr h₀ L h' (fun y => if y = x then m' x else fm c' y) := frCongr F fun z => by
    by_cases q : z = x
    · rw [if_pos q, q]
    · rw [if_neg q]; exact e z q
  ⟨c', m' x, h', tk, rfl, F0, newsSub N (fun p hp => (List.mem_append.mp hp).elim (hn p) (ho p)), hf, hp⟩
section
variable {prog : Program} {w : World} {A : Around} {E : Value → Shared → Prop} {s : Shared} {env : Env} {h₀ : Heap} {x : Str} {body : List Stmt} {Q : Flow → Shared → Prop}
theorem loop_core {σ : Type} {I : Addr} {fp : List Addr} {n : Nat} {P₀ : Nat → Value → Prop} {St : Nat → Heap → Prop} {m₀ : Str → Option Value} {keep : List (Addr × Obj)}
    (W : Walks prog w A I fp [I] n P₀ St) (fm : (Str → Option Value) → σ → Str → Option Value) (nw : σ → List (Addr × Obj)) (P : Nat → σ → Prop) (c₀ : σ)
    (hLf : env.locals ∉ fp) (hI0 : h₀.get? I = none) (hk : ∀ p ∈ keep, p.1 ∈ fp ∧ p.1 ≠ I) (hst : St 0 s.heap) (F : Fr h₀ env.locals s.heap m₀) (N : News h₀ env.locals s.heap (nw c₀ ++ keep))
    (e : ∀ z, z ≠ x → m₀ z = fm m₀ c₀ z) (hoff : ∀ p ∈ nw c₀, p.1 ∉ fp) (hp : P 0 c₀)
    (turn : ∀ i v c h tk own, i < n → P₀ i v → P i c → (∀ p ∈ nw c, p.1 ∉ fp) → (∀ p ∈ own, p.1 ∈ fp) → (∀ p ∈ keep, p ∈ own) → (∀ b ∈ fp, h₀.get? b = none → ∀ o, h.get? b = some o → (b, o) ∈ own) → St (i + 1) h →
      Fr h₀ env.locals h (fun y => if y = x then some v else fm m₀ c y) → News h₀ env.locals h (nw c ++ own) →
      wpAny (model prog w) A (execs body env) (FePost h₀ env.locals { s with heap := h, toks := tk } (fm m₀) nw fp x (P (i + 1)) own Q) E { s with heap := h, toks := tk })
    (done : ∀ c u h tk, P n c → Fr h₀ env.locals h (fun y => if y = x then u else fm m₀ c y) → News h₀ env.locals h (nw c ++ keep) → Q .next { s with heap := h, toks := tk }) :
    LoopAtV prog w A h₀ env x body Q E (.ref I) s := by
  k_with_none
  have hIf : I ∈ fp := W.sub I (by simp)
  have F0 : Fr h₀ env.locals s.heap (fun y => if y = x then m₀ x else fm m₀ c₀ y) := frCongr F fun z => by
    by_cases q : z = x
    · rw [if_pos q, q]
    · rw [if_neg q]; exact e z q
  refine ⟨I, fp, [I], n, P₀, St, _, nw c₀ ++ keep, fun i m nx => ∃ (c : σ) (u : Option Value), m = (fun y => if y = x then u else fm m₀ c y) ∧ nx = nw c ++ keep ∧ (∀ p ∈ nw c, p.1 ∉ fp) ∧ P i c, rfl, W, hLf, ?_, ?_, hst, F0, N, ⟨c₀, m₀ x, rfl, rfl, hoff, hp⟩, ?_, ?_⟩
  · intro b hb; rw [List.mem_singleton.mp hb]; exact hI0
  · intro p hp' hm
    have hm := List.mem_singleton.mp hm
    rcases List.mem_append.mp hp' with q | q
    · exact hoff p q (hm ▸ hIf)
    · exact (hk p q).2 hm
  · rintro i v m₁ news₁ s₁ own ⟨h, tk, rfl⟩ hi hPv ⟨c, u, rfl, rfl, hof, hPc⟩ _ hown _ hall hst₁ F₁ N₁
    have F₂ : Fr h₀ env.locals h (fun y => if y = x then some v else fm m₀ c y) := frCongr F₁ fun z => by
      by_cases q : z = x
      · rw [if_pos q, if_pos q]
      · simp only [q, if_false]
    have N₂ : News h₀ env.locals h (nw c ++ (keep ++ own)) := newsSub N₁ fun p hp' => by
      rcases List.mem_append.mp hp' with q | q
      · exact List.mem_append.mpr (.inr (List.mem_append.mpr (.inl q)))
      · rcases List.mem_append.mp q with q | q
        · exact List.mem_append.mpr (.inr (List.mem_append.mpr (.inr q)))
        · exact List.mem_append.mpr (.inl q)
    refine wpAny_mono (turn i v c h tk (keep ++ own) hi hPv hPc hof (fun p hp' => (List.mem_append.mp hp').elim (fun q => (hk p q).1) (hown p)) (fun p hp' => List.mem_append.mpr (.inl hp')) (fun b hb hn o ho => List.mem_append.mpr (.inr (hall b hb hn o ho))) hst₁ F₂ N₂) (fun f s₂ q => ?_) fun _ _ y => y
    have fin : FeEnd h₀ env.locals { s with heap := h, toks := tk } (fm m₀) nw fp x (P (i + 1)) (keep ++ own) s₂ → LoopStepU h₀ env.locals [I] own (fun m nx => ∃ (c : σ) (u : Option Value), m = (fun y => if y = x then u else fm m₀ c y) ∧ nx = nw c ++ keep ∧ (∀ p ∈ nw c, p.1 ∉ fp) ∧ P (i + 1) c) { s with heap := h, toks := tk } .next s₂ := by
      rintro ⟨c', u', h', tk', rfl, F', N', hf', hp'⟩
      refine LoopStepU.intro F' (newsSub N' fun p hp9 => ?_) (fun p hp9 hm => ?_) ⟨c', u', rfl, rfl, hf', hp'⟩
      · rcases List.mem_append.mp hp9 with q | q
        · exact List.mem_append.mpr (.inr (List.mem_append.mpr (.inr q)))
        · rcases List.mem_append.mp q with q | q
          · exact List.mem_append.mpr (.inl q)
          · exact List.mem_append.mpr (.inr (List.mem_append.mpr (.inl q)))
      · have hm := List.mem_singleton.mp hm
        rcases List.mem_append.mp hp9 with q | q
        · exact hf' p q (hm ▸ hIf)
        · exact (hk p q).2 hm
    cases f with
    | ret v => exact .ret q
    | brk => exact .brk q
    | next => exact .next (fin q)
    | cont => exact .cont (fin q)
  · rintro h' tk m' news' F' N' _ ⟨c, u, rfl, rfl, _, hPc⟩
    exact done c u h' tk hPc F' N'
theorem for_text {σ : Type} {xt : Str} {tx : Tok} {m₀ : Str → Option Value} (fm : (Str → Option Value) → σ → Str → Option Value) (nw : σ → List (Addr × Obj)) (P : Nat → σ → Prop) (c₀ : σ)
    (hh : A.handled = none) (F : Fr h₀ env.locals s.heap m₀) {news : List (Addr × Obj)} (N : News h₀ env.locals s.heap news) (hn : ∀ p ∈ nw c₀, p ∈ news) (e : ∀ z, z ≠ x → m₀ z = fm m₀ c₀ z) (hp : P 0 c₀)
    (turn : ∀ I i ch t c h tk own, xt.cps[i]? = some ch → P i c → (∀ p ∈ nw c, p.1 ∉ [I]) → (∀ p ∈ own, p.1 ∈ [I]) → (∃ o, (I, o) ∈ own) →
      Fr h₀ env.locals h (fun y => if y = x then some (.str ⟨#[ch]⟩ t) else fm m₀ c y) → News h₀ env.locals h (nw c ++ own) →
      wpAny (model prog w) A (execs body env) (FePost h₀ env.locals { s with heap := h, toks := tk } (fm m₀) nw [I] x (P (i + 1)) own Q) E { s with heap := h, toks := tk })
    (done : ∀ c u h tk, P xt.length c → Fr h₀ env.locals h (fun y => if y = x then u else fm m₀ c y) → News h₀ env.locals h (nw c) → Q .next { s with heap := h, toks := tk }) :
    wpAny (model prog w) A (pyIter (.str xt tx)) (fun it s₂ => LoopAtV prog w A h₀ env x body Q E it s₂) E s := by
  have N' := newsSub N hn
  have core : ∀ (o : Obj) (St : Nat → Heap → Prop) (W : Walks prog w A s.heap.objs.size [s.heap.objs.size] [s.heap.objs.size] xt.cps.size (SignAt xt) St) (hst : St 0 (s.heap.push o)) (hex : ∀ i h, St i h → ∃ o, h.get? s.heap.objs.size = some o),
      LoopAtV prog w A h₀ env x body Q E (.ref s.heap.objs.size) { s with heap := s.heap.push o } := by
    intro o St W hst hex
    refine loop_core (s := { s with heap := s.heap.push o }) (keep := []) W fm nw P c₀ ?_ ?_ (fun p hp => nomatch hp) hst (F.push _) (fun p hp => ?_) e ?_ hp ?_ ?_
    · intro hm
      exact absurd F.ns.lt ((List.mem_singleton.mp hm) ▸ Nat.lt_irrefl _)
    · exact next_is_new F
    · rw [List.append_nil] at hp
      exact ⟨Heap.get?_push_of_some _ (N' p hp).1, (N' p hp).2⟩
    · intro p hp hI
      exact absurd (Heap.lt_size (N' p hp).1) ((List.mem_singleton.mp hI) ▸ Nat.lt_irrefl _)
    · rintro i v c h tk own hi ⟨ch, u, hc, rfl⟩ hPc hof hown _ hall hst₁ F₁ N₁
      obtain ⟨o', ho'⟩ := hex _ _ hst₁
      exact turn s.heap.objs.size i ch u c h tk own hc hPc hof hown ⟨o', hall _ (by simp) (next_is_new F) o' ho'⟩ F₁ N₁
    · intro c u h tk hPc F₁ N₁
      rw [List.append_nil] at N₁
      exact done c u h tk hPc F₁ N₁
  cases ha : xt.cps.all (· < 128)
  · exact wpAny_pyIter_wide ha (core _ _ (Walks.strWide hh _ xt tx) ⟨_, Heap.get?_push_size _ rfl, rfl, rfl⟩ fun i h st => by obtain ⟨o, ho, _⟩ := st; exact ⟨o, ho⟩)
  · exact wpAny_pyIter_ascii ha (core _ _ (Walks.strAscii hh _ xt tx) ⟨_, Heap.get?_push_size _ rfl, rfl, rfl⟩ fun i h st => by obtain ⟨o, ho, _⟩ := st; exact ⟨o, ho⟩)
theorem for_list {σ : Type} {l : Addr} {vs : List Value} {nn : Nat} {m₀ : Str → Option Value} (fm : (Str → Option Value) → σ → Str → Option Value) (nw : σ → List (Addr × Obj)) (P : Nat → σ → Prop) (c₀ : σ)
    (hh : A.handled = none) (F : Fr h₀ env.locals s.heap m₀) {news : List (Addr × Obj)} (N : News h₀ env.locals s.heap news) (hl : (l, W.listOf vs.toArray nn) ∈ news) (hn : ∀ p ∈ nw c₀, p ∈ news) (hne : ∀ p ∈ nw c₀, p.1 ≠ l) (e : ∀ z, z ≠ x → m₀ z = fm m₀ c₀ z) (hp : P 0 c₀)
    (turn : ∀ I i v c h tk own, vs[i]? = some v → P i c → (∀ p ∈ nw c, p.1 ∉ [I, l]) → (∀ p ∈ own, p.1 ∈ [I, l]) → (l, W.listOf vs.toArray nn) ∈ own → (∃ o, (I, o) ∈ own) →
      Fr h₀ env.locals h (fun y => if y = x then some v else fm m₀ c y) → News h₀ env.locals h (nw c ++ own) →
      wpAny (model prog w) A (execs body env) (FePost h₀ env.locals { s with heap := h, toks := tk } (fm m₀) nw [I, l] x (P (i + 1)) own Q) E { s with heap := h, toks := tk })
    (done : ∀ c u h tk, P vs.length c → Fr h₀ env.locals h (fun y => if y = x then u else fm m₀ c y) → News h₀ env.locals h (nw c ++ [(l, W.listOf vs.toArray nn)]) → Q .next { s with heap := h, toks := tk }) :
    wpAny (model prog w) A (pyIter (.ref l)) (fun it s₂ => LoopAtV prog w A h₀ env x body Q E it s₂) E s := by
  have hls := News.isList N hl
  have hlt : l < s.heap.objs.size := Heap.lt_size (N _ hl).1
  have hne' : l ≠ s.heap.objs.size := Nat.ne_of_lt hlt
  refine wpAny_pyIter_list hls ?_
  have Wk := Walks.list (prog := prog) (w := w) hh s.heap.objs.size l hne' vs.toArray
  have N' := newsSub N hn
  rw [List.size_toArray] at Wk
  refine loop_core (s := { s with heap := s.heap.push _ }) (keep := [(l, W.listOf vs.toArray nn)]) Wk fm nw P c₀ ?_ ?_ ?_ ⟨⟨_, Heap.get?_push_size _ rfl, rfl, rfl⟩, hls.at fun o e => Heap.get?_push_of_some _ e⟩ (F.push _) (fun p hp => ?_) e ?_ hp ?_ ?_
  · intro hm
    rcases List.mem_cons.mp hm with q | hm
    · exact absurd F.ns.lt (q ▸ Nat.lt_irrefl _)
    · exact (N _ hl).2.1 (List.mem_singleton.mp hm).symm
  · exact next_is_new F
  · intro p hp
    rw [List.mem_singleton.mp hp]
    exact ⟨by simp, hne'⟩
  · have : p ∈ news := (List.mem_append.mp hp).elim (hn p) (fun q => by rw [List.mem_singleton.mp q]; exact hl)
    exact ⟨Heap.get?_push_of_some _ (N p this).1, (N p this).2⟩
  · intro p hp hI
    rcases List.mem_cons.mp hI with q | hm
    · exact absurd (Heap.lt_size (N' p hp).1) (q ▸ Nat.lt_irrefl _)
    · exact hne p hp (List.mem_singleton.mp hm)
  · rintro i v c h tk own hi hv hPc hof hown hkp hall hst₁ F₁ N₁
    refine turn s.heap.objs.size i v c h tk own (by simpa using hv) hPc hof hown (hkp _ (by simp)) ?_ F₁ N₁
    obtain ⟨⟨o, ho, _⟩, _⟩ := hst₁
    exact ⟨o, hall _ (by simp) (next_is_new F) o ho⟩
  · intro c u h tk hPc F₁ N₁
    exact done c u h tk hPc F₁ N₁
end
end Mine
end
section
open PySem PySem.W PyProof.Rows PySem.Calls
namespace Mine
/-- what the nanny has counted -/
structure Wc where
  (cs : List Int) (b n nt : Nat)
def bump (cs : List Int) (b : Nat) : List Int :=
  let cs' := if cs.length ≤ b then cs ++ List.replicate (b - cs.length + 1) 0 else cs
  cs'.set b (cs'.getD b 0 + 1)
def wstep (s : Wc) (ch : Nat) : Wc := if ch = 32 then ⟨s.cs, s.b + 1, s.n + 1, s.nt⟩ else ⟨bump s.cs s.b, 0, s.n + 1, s.nt + 1⟩
def wrun (l : List Nat) : Wc := l.foldl wstep ⟨[], 0, 0, 0⟩
structure Ws where
  (D : Addr) (cv : List Value) (e : Nat) (w : Wc) (tb tn tt : Tok)
def wsF (m₀ : Str → Option Value) (c : Ws) : Str → Option Value := fun z => if z = "count" then some (.ref c.D) else if z = "b" then some (.int c.w.b c.tb) else if z = "n" then some (.int c.w.n c.tn) else if z = "nt" then some (.int c.w.nt c.tt) else m₀ z
theorem wsF_of {m₀ m' : Str → Option Value} {c : Ws} {x : Str} (h1 : m' "count" = some (.ref c.D)) (h2 : m' "b" = some (.int c.w.b c.tb)) (h3 : m' "n" = some (.int c.w.n c.tn)) (h4 : m' "nt" = some (.int c.w.nt c.tt)) (h5 : ∀ z : Str, z ≠ x → z ≠ "count" → z ≠ "b" → z ≠ "n" → z ≠ "nt" → m' z = m₀ z) : ∀ z, z ≠ x → m' z = wsF m₀ c z := by
  k_with_none
  intro z hz
  unfold wsF
  by_cases e1 : z = "count"
  · rw [if_pos e1, e1]; exact h1
  · rw [if_neg e1]
    by_cases e2 : z = "b"
    · rw [if_pos e2, e2]; exact h2
    · rw [if_neg e2]
      by_cases e3 : z = "n"
      · rw [if_pos e3, e3]; exact h3
      · rw [if_neg e3]
        by_cases e4 : z = "nt"
        · rw [if_pos e4, e4]; exact h4
        · rw [if_neg e4]; exact h5 z hz e1 e2 e3 e4
def wsP (pre : List Nat) (news : List (Addr × Obj)) (x d : Addr) (i : Nat) (c : Ws) : Prop := i ≤ pre.length ∧ c.w = wrun (pre.take i) ∧ IntsAre c.cv c.w.cs ∧ c.D ≠ x ∧ c.D ≠ d ∧ ∀ p ∈ news, p.1 ≠ c.D
theorem Upd.headLt {d : Addr} {o o' : Obj} {r : List (Addr × Obj)} (h : ∀ p ∈ r, p.1 < d) : Upd d o o' ((d, o) :: r) ((d, o') :: r) := .head fun p hp => Nat.ne_of_lt (h p hp)
theorem wrun_snoc (l : List Nat) (ch : Nat) : wrun (l ++ [ch]) = wstep (wrun l) ch := by unfold wrun; rw [List.foldl_append]; rfl
theorem bump_ge {cs : List Int} {b : Nat} (h : cs.length ≤ b) : bump cs b = (cs ++ List.replicate (b - cs.length + 1) 0).set b ((cs ++ List.replicate (b - cs.length + 1) 0).getD b 0 + 1) := by
  unfold bump; simp only [if_pos h]
theorem bump_lt {cs : List Int} {b : Nat} (h : ¬ cs.length ≤ b) : bump cs b = cs.set b (cs.getD b 0 + 1) := by
  unfold bump; simp only [if_neg h]
theorem flat_one (c : Int) (k : Nat) : (List.replicate k [c]).flatten = List.replicate k c := krep_flat c k
theorem mul_zeros {prog : Program} {w : World} {A : Around} {E : Value → Shared → Prop} {s : Shared} {h₀ : Heap} {L l : Addr} {m : Str → Option Value} {news : List (Addr × Obj)} {v : Value} {x : Int} {u : Tok} {k n : Nat} {Q : Value → Shared → Prop}
    (F : Fr h₀ L s.heap m) (N : News h₀ L s.heap news) (hm : (l, W.listOf [v].toArray n) ∈ news) (hi : IntsAre [v] [0]) (hk : x.toNat = k) (h0 : 0 ≤ x) (hz : k ≤ 10000)
    (h : ∀ D us h', Fr h₀ L h' m → News h₀ L h' ((D, W.listOf (List.toArray us) 0) :: news) → (∀ p ∈ news, p.1 < D) → IntsAre us (List.replicate k 0) → Q (.ref D) { s with heap := h' }) :
    wpAny (model prog w) A (binaryOp .Mult (.ref l) (.int x u)) Q E s :=
  KM.mul F N (News.isList N hm) hi (by omega) (by omega) (by simp; omega) fun D h' F' N' l1 hI _ _ _ _ _ => by
    rw [flat_one, hk] at hI
    rw [hk] at N'
    exact h D _ h' F' N' l1 (by rw [← hk] at hI ⊢; exact hI)
theorem tab_ne {n : Nat} (h : ¬ n = 9) : (⟨#[n]⟩ : Str) ≠ PySem.Str.ofString "\t" := by
  rw [show PySem.Str.ofString "\t" = ⟨#[9]⟩ by decide +kernel]; intro e; simp at e; exact h e
theorem ws_in1 {a b c : Addr × Obj} {l own : List (Addr × Obj)} {p : Addr × Obj} (h : p ∈ a :: b :: c :: l) : p ∈ a :: b :: c :: (l ++ own) := by
  simp only [List.mem_cons, List.mem_append] at h ⊢; grind
theorem ws_in2 {a b c : Addr × Obj} {l own : List (Addr × Obj)} {p : Addr × Obj} (h : p ∈ own) : p ∈ a :: b :: c :: (l ++ own) := by
  simp only [List.mem_cons, List.mem_append]; grind
theorem wrun_next {pre : List Nat} {i ch : Nat} (h : pre[i]? = some ch) : wrun (pre.take (i + 1)) = wstep (wrun (pre.take i)) ch := by
  rw [List.take_add_one, h]; exact wrun_snoc _ _
theorem ws_in3 {a z1 z2 z3 b c : Addr × Obj} {l own : List (Addr × Obj)} {p : Addr × Obj} (h : p ∈ a :: b :: c :: l) : p ∈ a :: z1 :: z2 :: z3 :: b :: c :: (l ++ own) := by
  simp only [List.mem_cons, List.mem_append] at h ⊢; grind
theorem ws_in4 {a z1 z2 z3 b c : Addr × Obj} {l own : List (Addr × Obj)} {p : Addr × Obj} (h : p ∈ own) : p ∈ a :: z1 :: z2 :: z3 :: b :: c :: (l ++ own) := by
  simp only [List.mem_cons, List.mem_append] at h ⊢; grind
theorem ws_off {D I : Addr} {o : Obj} {z1 z2 z3 b c : Addr × Obj} {l own : List (Addr × Obj)} (hD : ∀ p ∈ z1 :: z2 :: z3 :: b :: c :: (l ++ own), p.1 < D) (hI : ∃ o, (I, o) ∈ own) (hoff : ∀ p ∈ z3 :: b :: c :: l, p.1 ∉ [I]) : ∀ p ∈ (D, o) :: b :: c :: l, p.1 ∉ [I] := by
  intro p hp
  rcases List.mem_cons.mp hp with q | q
  · obtain ⟨oi, hI⟩ := hI
    have := hD (I, oi) (by simp only [List.mem_cons, List.mem_append]; grind)
    rw [q]; intro e
    have e := List.mem_singleton.mp e
    have e : D = I := e
    exact absurd this (e ▸ Nat.lt_irrefl _)
  · exact hoff p (.tail _ q)
theorem ws_ne {D x d : Addr} {ox od : Obj} {z1 z2 z3 : Addr × Obj} {l own : List (Addr × Obj)} (hD : ∀ p ∈ z1 :: z2 :: z3 :: (x, ox) :: (d, od) :: (l ++ own), p.1 < D) : D ≠ x ∧ D ≠ d ∧ ∀ p ∈ l, p.1 ≠ D :=
  ⟨Nat.ne_of_gt (hD (x, ox) (by simp)), Nat.ne_of_gt (hD (d, od) (by simp)), fun p hp => Nat.ne_of_lt (hD p (by simp [hp]))⟩
theorem ws_fin3 {h₀ h' : Heap} {L I x d D : Addr} {s : Shared} {m₀ m' : Str → Option Value} {ox od : Obj} {news own : List (Addr × Obj)} {z1 z2 z3 : Addr × Obj} {xn : Str} {pre : List Nat} {i tk e : Nat} {cv : List Value} {tb tn tt : Tok} (w : Wc)
    (F : Fr h₀ L h' m') (N : News h₀ L h' ((D, W.listOf cv.toArray e) :: z1 :: z2 :: z3 :: (x, ox) :: (d, od) :: (news ++ own)))
    (h1 : m' "count" = some (.ref D)) (h2 : m' "b" = some (.int w.b tb)) (h3 : m' "n" = some (.int w.n tn)) (h4 : m' "nt" = some (.int w.nt tt)) (h5 : ∀ z : Str, z ≠ xn → z ≠ "count" → z ≠ "b" → z ≠ "n" → z ≠ "nt" → m' z = m₀ z)
    (hD : ∀ p ∈ z1 :: z2 :: z3 :: (x, ox) :: (d, od) :: (news ++ own), p.1 < D) (hI : ∃ o, (I, o) ∈ own) (hoff : ∀ p ∈ z3 :: (x, ox) :: (d, od) :: news, p.1 ∉ [I]) (hi : i + 1 ≤ pre.length) (hw : w = wrun (pre.take (i + 1))) (hv : IntsAre cv w.cs) :
    FeEnd h₀ L s (wsF m₀) (fun c : Ws => (c.D, W.listOf c.cv.toArray c.e) :: (x, ox) :: (d, od) :: news) [I] xn (wsP pre news x d (i + 1)) own { s with heap := h', toks := tk } :=
  FeEnd.intro (⟨D, cv, e, w, tb, tn, tt⟩ : Ws) F N (wsF_of h1 h2 h3 h4 h5) (fun p hp => ws_in3 hp) (fun p hp => ws_in4 hp) (ws_off hD hI hoff) ⟨hi, hw, hv, ws_ne hD⟩
theorem ws_fin0 {h₀ h' : Heap} {L I x d D : Addr} {s : Shared} {m₀ m' : Str → Option Value} {ox od : Obj} {news own : List (Addr × Obj)} {xn : Str} {pre : List Nat} {i tk e : Nat} {cv cv' : List Value} {e' : Nat} {tb tn tt : Tok} (w : Wc)
    (F : Fr h₀ L h' m') (N : News h₀ L h' ((D, W.listOf cv.toArray e) :: (x, ox) :: (d, od) :: (news ++ own)))
    (h1 : m' "count" = some (.ref D)) (h2 : m' "b" = some (.int w.b tb)) (h3 : m' "n" = some (.int w.n tn)) (h4 : m' "nt" = some (.int w.nt tt)) (h5 : ∀ z : Str, z ≠ xn → z ≠ "count" → z ≠ "b" → z ≠ "n" → z ≠ "nt" → m' z = m₀ z)
    (hD : D ≠ x) (hD' : D ≠ d) (hD2 : ∀ p ∈ news, p.1 ≠ D) (hoff : ∀ p ∈ (D, W.listOf cv'.toArray e') :: (x, ox) :: (d, od) :: news, p.1 ∉ [I]) (hi : i + 1 ≤ pre.length) (hw : w = wrun (pre.take (i + 1))) (hv : IntsAre cv w.cs) :
    FeEnd h₀ L s (wsF m₀) (fun c : Ws => (c.D, W.listOf c.cv.toArray c.e) :: (x, ox) :: (d, od) :: news) [I] xn (wsP pre news x d (i + 1)) own { s with heap := h', toks := tk } :=
  FeEnd.intro (⟨D, cv, e, w, tb, tn, tt⟩ : Ws) F N (wsF_of h1 h2 h3 h4 h5) (fun p hp => ws_in1 hp) (fun p hp => ws_in2 hp) (fun p hp => by
    rcases List.mem_cons.mp hp with q | q
    · rw [q]; show D ∉ [I]; exact hoff (D, W.listOf cv'.toArray e') (.head _)
    · exact hoff p (.tail _ q)) ⟨hi, hw, hv, hD, hD', hD2⟩
theorem ws_pick {g h : Heap} {L l D x d : Addr} {ol oT ox : Obj} {es : List DictEntry} {k : Nat} {news : List (Addr × Obj)} (N : News g L h ((l, ol) :: (D, oT) :: (x, ox) :: (d, dictOf es k) :: news)) :
    ∃ es', es' = es ∧ News g L h ((l, ol) :: (x, ox) :: (d, dictOf es' k) :: news) :=
  ⟨es, rfl, newsSub N fun p hp => by
    rcases List.mem_cons.mp hp with q | q
    · rw [q]; exact .head _
    · exact .tail _ (.tail _ q)⟩
theorem bump_len (cs : List Int) (b : Nat) : (bump cs b).length = max cs.length (b + 1) := by
  unfold bump
  split
  · simp; omega
  · simp; omega
theorem wrun_bound (l : List Nat) : (wrun l).b ≤ l.length ∧ (wrun l).cs.length ≤ l.length + 1 ∧ (wrun l).n ≤ l.length ∧ (wrun l).nt ≤ l.length := by
  have gen : ∀ (l : List Nat) (s : Wc) (k : Nat), s.b ≤ k → s.cs.length ≤ k + 1 → s.n ≤ k → s.nt ≤ k → (l.foldl wstep s).b ≤ k + l.length ∧ (l.foldl wstep s).cs.length ≤ k + l.length + 1 ∧ (l.foldl wstep s).n ≤ k + l.length ∧ (l.foldl wstep s).nt ≤ k + l.length := by
    intro l
    induction l with
    | nil => intro s k h1 h2 h3 h4; simp; omega
    | cons x r ih =>
      intro s k h1 h2 h3 h4
      have := ih (wstep s x) (k + 1) (by unfold wstep; split <;> simp <;> omega) (by unfold wstep; split <;> simp [bump_len] <;> omega) (by unfold wstep; split <;> simp <;> omega) (by unfold wstep; split <;> simp <;> omega)
      simp only [List.foldl_cons, List.length_cons]
      omega
  have := gen l ⟨[], 0, 0, 0⟩ 0 (by simp) (by simp) (by simp) (by simp)
  unfold wrun
  simpa using this
abbrev tupO (vs : List Value) : Obj := { cls := .type "tuple", data := .seq vs.toArray }
/-- what a nanny leaves: itself, its dict, its norm -/
abbrev wsNews (w : World) (x d nrm ct : Addr) (cv : List Value) (W : Wc) (xt : Str) (t tb tn tt : Tok) (sb : Bool) (k1 k2 k3 k4 k5 : Tok) (news : List (Addr × Obj)) : List (Addr × Obj) :=
  (nrm, tupO [.ref ct, .int W.b tb]) :: (ct, tupO cv) :: (x, instObj 126 d) :: (d, dictOf [⟨PyData.keyHash w.params (PySem.Str.ofString "raw"), .str (PySem.Str.ofString "raw") k1, .str xt t⟩, ⟨PyData.keyHash w.params (PySem.Str.ofString "n"), .str (PySem.Str.ofString "n") k2, .int W.n tn⟩, ⟨PyData.keyHash w.params (PySem.Str.ofString "nt"), .str (PySem.Str.ofString "nt") k3, .int W.nt tt⟩, ⟨PyData.keyHash w.params (PySem.Str.ofString "norm"), .str (PySem.Str.ofString "norm") k4, .ref nrm⟩, ⟨PyData.keyHash w.params (PySem.Str.ofString "is_simple"), .str (PySem.Str.ofString "is_simple") k5, .bool sb⟩] 5) :: news
theorem ws_drop {a b z c d : Addr × Obj} {l : List (Addr × Obj)} {p : Addr × Obj} (h : p ∈ a :: b :: c :: d :: l) : p ∈ a :: b :: z :: c :: d :: l := by
  k_with_none
  k_with "exec For Name Attribute cons nil" => (with_reducible refine stop_ ?_)
  k_with "pyIter str" => (with_reducible refine stop_ ?_)
  k_with "compareOp Eq str str" => (k_here; k_dflt (first | refine eq_text_t (by decide +kernel) ?_ | refine eq_text_f (by decide +kernel) ?_ | refine eq_text_f (one_ne (by assumption)) ?_ | refine eq_text_f (tab_ne (by assumption)) ?_))
  k_with "call builtin:len" => (k_here; (with_reducible show wpAny _ _ (call (Value.builtin "len") [Value.ref _]) _ _ _); k_dflt (refine' len_mem ?lN ?lm ?lz ?_; (case lN => k_asm); (case lm => k_mem); (case lz => omega)); intro _ _)
  k_with "binaryOp Mult ref int" => (k_here; k_dflt (refine' mul_zeros ?lF ?lN ?lm ?li ?lk ?l0 ?lz ?_; (case lF => k_asm); (case lN => k_asm); (case lm => k_mem); (case li => exact .cons _ _ .nil); (case lk => assumption); (case l0 => omega); (case lz => omega)); intro _ _ _ _ _ _ _)
  k_with "binaryOp Add ref ref" => (k_here; k_dflt (refine' kmk_add_ints ?lF ?lN ?la ?lb ?li ?lj ?_ ?lz; (case lF => k_asm); (case lN => k_asm); (case la => exact News.isList (by k_asm) (by k_mem)); (case lb => exact News.isList (by k_asm) (by k_mem)); (case li => assumption); (case lj => assumption); (case lz => simp [sizeLine_eq]; omega)); intro _ _ _ _ _ _ _)
  k_with "subscriptTail" => (k_here; (with_reducible show wpAny _ _ (subscriptTail _ _ (Value.ref _) (Value.int _ _)) _ _ _); k_dflt (refine' ksa_sub ?lN ?lm ?li ?l0 ?l1 ?lf ?_; (case lN => k_asm); (case lm => k_mem); (case li => assumption); (case l0 => omega); (case l1 => first | omega | (rw [List.length_append, List.length_replicate]; omega)); (case lf => omega)); intro _)
  k_with "upd" => first | exact Upd.headLt (by assumption) | exact Upd.head (by assumption)
  k_with "setItem ref int" => (k_here; k_dflt (refine' ksa_set ?lF ?lN ?lU ?li ?l0 ?l1 ?lf ?_; (case lF => k_asm); (case lN => k_asm); (case lU => k_upd); (case li => assumption); (case l0 => omega); (case l1 => first | omega | (rw [List.length_append, List.length_replicate]; omega)); (case lf => omega)); intro _ _ _ _ _ _)
  simp only [List.mem_cons] at h ⊢; grind
set_option maxRecDepth 100000 in
set_option maxHeartbeats 8000000 in
theorem ws_make {w : World} {dp un : Nat} {gd : Option (List Code)} {cn : Str} {cs : Scope} {a : Addr} {ccd : Value} {cl : List (Str × Addr)} {outer : List Env} {A₀ : Around} {base h₀ : Heap} {L : Addr} {m : Str → Option Value} {s : Shared} {Q E : Value → Shared → Prop} {p : Program} {loose : List Str} {mean : ExcName → Option Value} {mg mb : Str → Option Value} {news : List (Addr × Obj)} {xt : Str} {t : Tok} {pre post : List Nat} {c0 : Nat}
  (B : Below A₀ base outer h₀) (F : Fr h₀ L s.heap m) (X : (hd.heap_1 w.params).In h₀) (N : News h₀ L s.heap news) (T : Top p loose mean mg mb h₀) (hk : cs.kind = .function)
  (ht : xt.cps.toList = pre ++ c0 :: post) (hp : ∀ x ∈ pre, x = 32 ∨ x = 9) (hc : c0 ≠ 32 ∧ c0 ≠ 9) (hz : pre.length ≤ 500) (hd : dp + 3 < recursionLimit) (hu : un + 24 < cLine)
  (h : ∀ x d nrm ct cv tb tn tt sb k1 k2 k3 k4 k5 h' tk', Fr h₀ L h' m → News h₀ L h' (wsNews w x d nrm ct cv (wrun pre) xt t tb tn tt sb k1 k2 k3 k4 k5 news) → IntsAre cv (wrun pre).cs →
    (∀ p ∈ news, p.1 < d) → d < x → x < ct → ct < nrm → Q (.ref x) { s with heap := h', toks := tk' }) :
  wpAny (model PySem.Challenge.rw_rs0180_01.row.prog w) (ktrTop dp un gd cn cs L a ccd cl outer) (call (.ref 126) [.str xt t]) Q E s := by
  k_with_none
  k_with "exec For Name Attribute cons nil" => (with_reducible refine stop_ ?_)
  k_with "pyIter str" => (with_reducible refine stop_ ?_)
  k_with "compareOp Eq str str" => (k_here; k_dflt (first | refine eq_text_t (by decide +kernel) ?_ | refine eq_text_f (by decide +kernel) ?_ | refine eq_text_f (one_ne (by assumption)) ?_ | refine eq_text_f (tab_ne (by assumption)) ?_))
  k_with "call builtin:len" => (k_here; (with_reducible show wpAny _ _ (call (Value.builtin "len") [Value.ref _]) _ _ _); k_dflt (refine' len_mem ?lN ?lm ?lz ?_; (case lN => k_asm); (case lm => k_mem); (case lz => omega)); intro _ _)
  k_with "binaryOp Mult ref int" => (k_here; k_dflt (refine' mul_zeros ?lF ?lN ?lm ?li ?lk ?l0 ?lz ?_; (case lF => k_asm); (case lN => k_asm); (case lm => k_mem); (case li => exact .cons _ _ .nil); (case lk => assumption); (case l0 => omega); (case lz => omega)); intro _ _ _ _ _ _ _)
  k_with "binaryOp Add ref ref" => (k_here; k_dflt (refine' kmk_add_ints ?lF ?lN ?la ?lb ?li ?lj ?_ ?lz; (case lF => k_asm); (case lN => k_asm); (case la => exact News.isList (by k_asm) (by k_mem)); (case lb => exact News.isList (by k_asm) (by k_mem)); (case li => assumption); (case lj => assumption); (case lz => simp [sizeLine_eq]; omega)); intro _ _ _ _ _ _ _)
  k_with "subscriptTail" => (k_here; (with_reducible show wpAny _ _ (subscriptTail _ _ (Value.ref _) (Value.int _ _)) _ _ _); k_dflt (refine' ksa_sub ?lN ?lm ?li ?l0 ?l1 ?lf ?_; (case lN => k_asm); (case lm => k_mem); (case li => assumption); (case l0 => omega); (case l1 => first | omega | (rw [List.length_append, List.length_replicate]; omega)); (case lf => omega)); intro _)
  k_with "upd" => first | exact Upd.headLt (by assumption) | exact Upd.head (by assumption)
  k_with "setItem ref int" => (k_here; k_dflt (refine' ksa_set ?lF ?lN ?lU ?li ?l0 ?l1 ?lf ?_; (case lF => k_asm); (case lN => k_asm); (case lU => k_upd); (case li => assumption); (case l0 => omega); (case l1 => first | omega | (rw [List.length_append, List.length_replicate]; omega)); (case lf => omega)); intro _ _ _ _ _ _)
  k_with "call type:tuple" => (k_here; k_dflt (refine' kde_tupleOf ?lF ?lN ?ll ?lz ?le ?_; (case lF => k_asm); (case lN => k_asm); (case ll => exact News.isList (by k_asm) (by k_mem)); (case lz => rw [List.size_toArray]; omega); (case le => exact List.toList_toArray)); intro tD tH tF tN tL; (try k_lt tL); (try k_sweep))
  revert X; k_fill; intro X
  k_dflt (refine' call_cls ?k1 ?k2 ?k3 ?k4 ?k5 ?k6 ?_; (case k1 => k_asm); (case k2 => k_asm); (case k3 => k_asm); (case k4 => k_is); (case k5 => k_is); (case k6 => k_is); k_whole; intro x' d' h' F' N' l1 l2; (try k_lt l1); (try k_lt2 l2))
  k_dflt (refine' code_def (binds := [("self", .ref x'), ("ws", .str xt t)]) ?k1 ?k2 ?k3 ?k4 ?k5 ?kA ?kF ?kK ?k6 ?k7 ?k8 ?k9 ?kB ?_ ?c2 ?c3 ?c4 ?c5; (case kA => exact rfl); (case kF => exact rfl); (case kK => first | exact rfl | assumption); (case k1 => k_asm); (case k2 => k_asm); (case k3 => k_asm); (case k4 => k_asm); (case k5 => k_asm); (case k6 => k_is); (case k7 => k_is); (case k8 => ktr_room); (case k9 => first | exact BindsTo.of_eq rfl | (refine' kp_binds ?kx ?ke; (case kx => k_in); (case ke => exact fun _ => rfl))); (case c5 => decide); (case kB => exact locs rfl); (case c2 => exact rfl); (case c3 => exact rfl); (case c4 => exact rfl); k_whole; intro g' L' h' FG' F' N' B' X' T'; (try dsimp only); (try k_lift B'); (try k_fold))
  k_steps
  refine unstop ?_
  refine' For_invVF ?kF rfl rfl ?kG
  case kF => k_asm
  k_steps
  refine unstop ?_
  rename News _ _ _ _ => N1
  obtain ⟨es, hes, N2⟩ := ws_pick N1
  clear N1
  refine' for_text (xt := xt) wsF (fun c : Ws => (c.D, W.listOf c.cv.toArray c.e) :: (x', instObj 126 d') :: (d', dictOf es _) :: news) (wsP pre news x' d') ⟨_, [], 0, ⟨[], 0, 0, 0⟩, _, _, _⟩ ?hh ?kF ?kN (fun _ h => h) ?ke ?kp ?kt ?kd
  case hh => exact rfl
  case kF => k_asm
  case kN => k_asm
  case ke =>
    refine wsF_of ?ea ?eb ?ec ?ed ?ee
    case ea => with_unfolding_all rfl
    case eb => with_unfolding_all rfl
    case ec => with_unfolding_all rfl
    case ed => exact if_pos rfl
    case ee => intro z h1 h2 h3 h4 h5; rfl
  case kp => exact ⟨Nat.zero_le _, rfl, .nil, neN (by dsimp only; omega), neN (by dsimp only; omega), fun p hp => neN (by have e1 := ltN (l1 p hp); have e2 := ltN l2; dsimp only; omega)⟩
  case kd =>
    intro c u h1 tk1 hP _ _
    exfalso
    have h9 := hP.1
    have h8 : xt.length = pre.length + 1 + post.length := by
      show xt.cps.size = _
      rw [← Array.length_toList, ht]; simp; omega
    omega
  case kt =>
    intro I i ch u c h1 tk1 own hch hP hoff hown hI F3 N3
    have hP' := hP
    obtain ⟨p1, p2, p3, p4, p5, p6⟩ := hP'
    simp only [List.cons_append] at N3
    have q1 := wrun_bound (pre.take i)
    rw [← p2, List.length_take] at q1
    have q2 := p3.length
    have hrest : ∀ p ∈ (x', instObj 126 d') :: (d', dictOf es 1) :: (news ++ own), p.1 ≠ c.D := by
      intro p hp
      rcases List.mem_cons.mp hp with q | hp
      · rw [q]; exact p4.symm
      rcases List.mem_cons.mp hp with q | hp
      · rw [q]; exact p5.symm
      rcases List.mem_append.mp hp with q | q
      · exact p6 p q
      · intro e; exact hoff _ (.head _) (e ▸ hown p q)
    have hch' : (pre ++ c0 :: post)[i]? = some ch := by rw [← ht, Array.getElem?_toList]; exact hch
    have hlt : (ch = 32 ∨ ch = 9) → i < pre.length := fun hq => by
      rcases Nat.lt_or_ge i pre.length with q | q
      · exact q
      · have : i = pre.length := by omega
        subst this
        rw [List.getElem?_append_right (Nat.le_refl _), Nat.sub_self] at hch'
        have : c0 = ch := by simpa using hch'
        omega
    have hpre : (ch = 32 ∨ ch = 9) → pre[i]? = some ch := fun hq => by
      have := hlt hq
      rwa [List.getElem?_append_left this] at hch'
    by_cases h32 : ch = 32
    · subst h32
      k_steps
      dsimp only [FePost]
      refine' ws_fin0 ⟨c.w.cs, c.w.b + 1, c.w.n + 1, c.w.nt⟩ ?eF ?eN ?ea ?eb ?ec ?ed ?eg p4 p5 p6 hoff (hlt (.inl rfl)) ?ew ?ev
      case eF => k_asm
      case eN => k_asm
      case ea => with_unfolding_all rfl
      case eb => exact if_pos rfl
      case ec => with_unfolding_all rfl
      case ed => with_unfolding_all rfl
      case eg => intro z h1 h2 h3 h4 h5; simp only [wsF, h1, h2, h3, h4, h5, if_false]
      case ew => rw [wrun_next (hpre (.inl rfl)), ← p2]; rfl
      case ev => exact p3
    by_cases h9 : ch = 9
    · subst h9
      by_cases hb : c.w.cs.length ≤ c.w.b
      · have e : ((c.w.b : Int) - c.cv.length + 1).toNat = c.w.b - c.w.cs.length + 1 := by omega
        k_steps
        dsimp only [FePost]
        refine' ws_fin3 ⟨bump c.w.cs c.w.b, 0, c.w.n + 1, c.w.nt + 1⟩ ?eF ?eN ?ea ?eb ?ec ?ed ?eg ?eD hI hoff (hlt (.inr rfl)) ?ew ?ev
        case eF => k_asm
        case eN => k_asm
        case ea => with_unfolding_all rfl
        case eb => exact if_pos rfl
        case ec => with_unfolding_all rfl
        case ed => with_unfolding_all rfl
        case eg => intro z h1 h2 h3 h4 h5; simp only [wsF, h1, h2, h3, h4, h5, if_false]
        case eD => assumption
        case ew => rw [wrun_next (hpre (.inr rfl)), ← p2]; rfl
        case ev =>
          rename IntsAre _ _ => hq
          show IntsAre _ (bump c.w.cs c.w.b)
          rw [bump_ge hb]
          simpa only [Int.toNat_natCast] using hq
      · k_steps
        dsimp only [FePost]
        refine' ws_fin0 ⟨bump c.w.cs c.w.b, 0, c.w.n + 1, c.w.nt + 1⟩ ?eF ?eN ?ea ?eb ?ec ?ed ?eg p4 p5 p6 hoff (hlt (.inr rfl)) ?ew ?ev
        case eF => k_asm
        case eN => k_asm
        case ea => with_unfolding_all rfl
        case eb => exact if_pos rfl
        case ec => with_unfolding_all rfl
        case ed => with_unfolding_all rfl
        case eg => intro z h1 h2 h3 h4 h5; simp only [wsF, h1, h2, h3, h4, h5, if_false]
        case ew => rw [wrun_next (hpre (.inr rfl)), ← p2]; rfl
        case ev =>
          rename IntsAre _ _ => hq
          show IntsAre _ (bump c.w.cs c.w.b)
          rw [bump_lt hb]
          simpa only [Int.toNat_natCast] using hq
    · have hc0 : ch = c0 ∧ i = pre.length := by
        rcases Nat.lt_or_ge i pre.length with q | q
        · rw [List.getElem?_append_left q] at hch'
          rcases hp ch (List.mem_of_getElem? hch') with r | r
          · exact absurd r h32
          · exact absurd r h9
        · have e : i = pre.length := by omega
          refine ⟨?_, e⟩
          subst e
          rw [List.getElem?_append_right (Nat.le_refl _), Nat.sub_self] at hch'
          simpa using hch'.symm
      subst hes
      obtain ⟨hc0, hi0⟩ := hc0
      rw [hi0, List.take_length] at p2
      have hoffn : OwnOff news [x', d'] := by
        intro p hp b hb
        have e1 := l1 p hp
        have e2 : d' < x' := l2
        rcases List.mem_cons.mp hb with q | q
        · rw [q]; exact Nat.ne_of_lt (Nat.lt_trans e1 e2)
        · rw [List.mem_singleton.mp q]; exact Nat.ne_of_lt e1
      have N4 := newsSub N3 (fun p hp => ws_in1 hp)
      clear N3
      obtain ⟨cD, cv, ce, cw, ctb, ctn, ctt⟩ := c
      dsimp only at p2 p3 p4 p5 p6 q1 q2
      subst p2
      dsimp only at N4
      k_steps
      dsimp only [FePost]
      k_steps
      rename News h₀ L _ (_ :: _ :: _ :: _ :: _ :: _) => N7
      refine' h x' d' _ _ _ _ _ _ _ _ _ _ _ _ _ _ ?eF (newsSub N7 fun p hp => ws_drop hp) p3 l1 l2 ?e1 ?e2
      case eF => k_asm
      case e1 => exact ltN (by omega)
      case e2 => exact ltN (by omega)
end Mine
end
section
open PySem PySem.W PyProof.Rows PySem.Calls PyProof.Rows.LCg
namespace Mine
abbrev Fa := List (Addr × Obj)
section
variable {prog : Program} {w : World} {A : Around} {s : Shared} {h₀ : Heap} {L : Addr} {m : Str → Option Value}
/-- to store a turn's value -/
def GAsg (prog : Program) (w : World) (A : Around) (target : Expr) (cenv : Env) (fa : List Addr) (n : Nat) (P : Nat → Value → Heap → Prop) (Ok : Fa → Prop) (G : Nat → Fa → Prop) : Prop :=
  ∀ i v (s : Shared) (fr : Fa) (Q : Unit → Shared → Prop) (E : Value → Shared → Prop), i < n → P i v s.heap → Ok fr → fr.map (·.1) = fa → (∀ p ∈ fr, s.heap.get? p.1 = some p.2) →
    (∀ h' tk fr', Ok fr' → fr'.map (·.1) = fa → G i fr' → (∀ p ∈ fr', h'.get? p.1 = some p.2) → (∀ b o, b ∉ fa → s.heap.get? b = some o → h'.get? b = some o) → Q () { s with heap := h', toks := tk }) →
    wpAny (model prog w) A (assign target cenv v) Q E s
/-- a loop of a comprehension, what follows the storing left open -/
def GLoop (prog : Program) (w : World) (A : Around) (target : Expr) (cenv : Env) (it : Value) (code : Code) (T : (Value → Shared → Prop) → (Shared → Prop) → Shared → Prop) : Prop :=
  ∀ (R : Result → Shared → Prop), ∃ E₁ : Value → Shared → Prop, ∀ (I : Nat → Shared → Prop), (∀ n s, I n s → wpAny (model prog w) A (pyNext it) (fun r s₁ => match r with
      | none => R (.ok .next) s₁
      | some v => wpAny (model prog w) A (letOwnedTupleGo target it v) (fun _ s₀ => wpAny (model prog w) A (assign target cenv v) (fun _ s₂ => T E₁ (fun s₅ => ∃ k, k < n ∧ I k s₅) s₂) E₁ s₀) E₁ s₁) E₁ s) →
    ∀ n s, I n s → codeAny (model prog w) A code R s
def GEnd {σ : Type} (h₀ : Heap) (L : Addr) (m : Str → Option Value) (s : Shared) (Ok : Fa → Prop) (nw : σ → Fa) (own : Fa) (fp fa : List Addr) (J : σ → Prop) (s₂ : Shared) : Prop :=
  ∃ (c' : σ) (h' : Heap) (tk : Nat) (fr : Fa), s₂ = { s with heap := h', toks := tk } ∧ Ok fr ∧ fr.map (·.1) = fa ∧ Fr h₀ L h' m ∧ News h₀ L h' (fr ++ (nw c' ++ own)) ∧ (∀ p ∈ nw c', p.1 ∉ fp ∧ p.1 ∉ fa) ∧ J c'
theorem gc_core {σ : Type} {target : Expr} {cenv : Env} {code : Code} {T : (Value → Shared → Prop) → (Shared → Prop) → Shared → Prop} {I : Addr} {fp wr fa : List Addr} {n : Nat} {P Md : Nat → Value → Heap → Prop} {St : Nat → Heap → Prop} {Ok : Fa → Prop} {G : Nat → Fa → Prop} {R : Result → Shared → Prop}
    (loop : GLoop prog w A target cenv (.ref I) code T) (Tm : ∀ E K K' s, T E K s → (∀ s, K s → K' s) → T E K' s) (W : KTurns prog w A target I fp wr n P Md St) (asg : GAsg prog w A target cenv fa n P Ok G)
    (nw : σ → Fa) (keep : Fa) (J : Nat → σ → Prop) (c₀ : σ) (fr₀ : Fa)
    (hfa : ∀ b ∈ fa, b ∉ fp ∧ b ≠ L ∧ h₀.get? b = none) (hLf : L ∉ fp) (hwr : ∀ b ∈ wr, h₀.get? b = none) (hkeep : ∀ p ∈ keep, p.1 ∈ fp ∧ p.1 ∉ wr)
    (hst : St 0 s.heap) (F : Fr h₀ L s.heap m) (N : News h₀ L s.heap (fr₀ ++ (nw c₀ ++ keep))) (hoff : ∀ p ∈ nw c₀, p.1 ∉ fp ∧ p.1 ∉ fa) (hok : Ok fr₀) (hfr : fr₀.map (·.1) = fa) (hJ : J 0 c₀)
    (turn : ∀ E i c h tk own fr, i < n → J i c → Ok fr → fr.map (·.1) = fa → G i fr → (∀ p ∈ nw c, p.1 ∉ fp ∧ p.1 ∉ fa) → (∀ p ∈ own, p.1 ∈ fp) → (∀ p ∈ keep, p ∈ own) → (∀ b ∈ fp, h₀.get? b = none → ∀ o, h.get? b = some o → (b, o) ∈ own) → St (i + 1) h →
      Fr h₀ L h m → News h₀ L h (fr ++ (nw c ++ own)) → T E (GEnd h₀ L m { s with heap := h, toks := tk } Ok nw own fp fa (J (i + 1))) { s with heap := h, toks := tk })
    (done : ∀ c h tk fr, J n c → Ok fr → fr.map (·.1) = fa → (∀ p ∈ nw c, p.1 ∉ fp ∧ p.1 ∉ fa) → Fr h₀ L h m → News h₀ L h (fr ++ (nw c ++ keep)) → R (.ok .next) { s with heap := h, toks := tk }) :
    codeAny (model prog w) A code R s := by
  k_with_none
  obtain ⟨E₁, loop⟩ := loop R
  have hLw : L ∉ wr := fun h => hLf (W.sub _ h)
  have old : ∀ b o, h₀.get? b = some o → b ∉ wr := fun b o e hb => by rw [hwr b hb] at e; cases e
  have oldfa : ∀ b o, h₀.get? b = some o → b ∉ fa := fun b o e hb => by rw [(hfa b hb).2.2] at e; cases e
  have hLa : L ∉ fa := fun h => (hfa L h).2.1 rfl
  refine loop (fun k s' => ∃ (c : σ) (h' : Heap) (tk i : Nat) (fr : Fa), s' = { s with heap := h', toks := tk } ∧ St i h' ∧ Fr h₀ L h' m ∧ News h₀ L h' (fr ++ (nw c ++ keep)) ∧ (∀ p ∈ nw c, p.1 ∉ fp ∧ p.1 ∉ fa) ∧ Ok fr ∧ fr.map (·.1) = fa ∧ J i c ∧ i ≤ n ∧ k = n + 1 - i) ?_ (n + 1) s
    ⟨c₀, s.heap, s.toks, 0, fr₀, rfl, hst, F, N, hoff, hok, hfr, hJ, Nat.zero_le _, rfl⟩
  rintro k s' ⟨c, h', tk, i, fr, rfl, hst', F', N', hof', hok', hfr', hJ', hi, rfl⟩
  have mfa : ∀ p ∈ fr, p.1 ∈ fa := fun p hp => by rw [← hfr']; exact List.mem_map_of_mem hp
  have next : ∀ h₁ : Heap, (∀ b o, b ∉ wr → h'.get? b = some o → h₁.get? b = some o) → Fr h₀ L h₁ m ∧ News h₀ L h₁ (fr ++ (nw c ++ keep)) := fun h₁ hk₁ =>
    ⟨⟨F'.ns.at' fun o e => hk₁ _ o hLw e, fun b o e => hk₁ b o (old b o e) (F'.keep b o e), F'.above⟩, fun p hp => ⟨hk₁ _ _ (by
      rcases List.mem_append.mp hp with q | q
      · exact fun hb => (hfa _ (mfa p q)).1 (W.sub _ hb)
      · rcases List.mem_append.mp q with q | q
        · exact fun hb => (hof' p q).1 (W.sub _ hb)
        · exact (hkeep p q).2) (N' p hp).1, (N' p hp).2⟩⟩
  by_cases hlt : i < n
  · refine W.item i _ _ _ hlt hst' fun v h₁ tk₁ hMd hk₁ => ?_
    refine W.go i v _ _ _ hMd fun h₂ hP hst₂ hk₂ => ?_
    obtain ⟨F₂, N₂⟩ := next h₂ fun b o hb x => hk₂ b o hb (hk₁ b o hb x)
    refine asg i v _ fr _ _ hlt hP hok' hfr' (fun p hp => (N₂ p (List.mem_append_left _ hp)).1) fun h₃ tk₃ fr₃ hok₃ hfr₃ hG₃ hfh₃ hk₃ => ?_
    have F₃ : Fr h₀ L h₃ m := ⟨F₂.ns.at' fun o e => hk₃ _ o hLa e, fun b o e => hk₃ b o (oldfa b o e) (F₂.keep b o e), F₂.above⟩
    have st₃ : St (i + 1) h₃ := W.frame _ _ _ hst₂ fun b hb o e => hk₃ b o (fun q => (hfa b q).1 hb) e
    have Nown : News h₀ L h₃ (ownOf h₀ fp h₃) := news_ownOf hLf
    have N₃ : News h₀ L h₃ (fr₃ ++ (nw c ++ ownOf h₀ fp h₃)) := fun p hp => by
      rcases List.mem_append.mp hp with q | q
      · have hm : p.1 ∈ fa := by rw [← hfr₃]; exact List.mem_map_of_mem q
        exact ⟨hfh₃ p q, (hfa _ hm).2⟩
      · rcases List.mem_append.mp q with q | q
        · have z := N₂ p (List.mem_append_right _ (List.mem_append_left _ q))
          exact ⟨hk₃ _ _ (hof' p q).2 z.1, z.2⟩
        · exact Nown p q
    have hkown : ∀ p ∈ keep, p ∈ ownOf h₀ fp h₃ := fun p hp => by
      have z := N₂ p (List.mem_append_right _ (List.mem_append_right _ hp))
      exact mem_ownOf (hkeep p hp).1 z.2.2 (hk₃ _ _ (fun q => (hfa _ q).1 (hkeep p hp).1) z.1)
    refine Tm _ _ _ _ (turn E₁ i c h₃ tk₃ (ownOf h₀ fp h₃) fr₃ hlt hJ' hok₃ hfr₃ hG₃ hof' ownOf_sub hkown (fun b hb hn o e => mem_ownOf hb hn e) st₃ F₃ N₃) ?_
    rintro s₅ ⟨c', h₅, tk₅, fr₅, rfl, ok₅, hfr₅, F₅, N₅, of₅, J₅⟩
    refine ⟨n + 1 - (i + 1), by omega, c', h₅, tk₅, i + 1, fr₅, rfl, ?_, F₅, newsSub N₅ fun p hp => ?_, of₅, ok₅, hfr₅, J₅, hlt, rfl⟩
    · refine W.frame _ _ _ st₃ fun b hb o e => ?_
      cases hn : h₀.get? b with
      | some o₀ =>
        have : o₀ = o := by have q := F₃.keep b o₀ hn; rw [e] at q; exact (Option.some.inj q).symm
        exact this ▸ F₅.keep b o₀ hn
      | none => exact (N₅ _ (List.mem_append_right _ (List.mem_append_right _ (mem_ownOf hb hn e)))).1
    · rcases List.mem_append.mp hp with q | q
      · exact List.mem_append_left _ q
      · rcases List.mem_append.mp q with q | q
        · exact List.mem_append_right _ (List.mem_append_left _ q)
        · exact List.mem_append_right _ (List.mem_append_right _ (hkown p q))
  · have hin : i = n := by omega
    subst hin
    refine W.done _ _ _ hst' fun h₁ tk₁ hk₁ => ?_
    obtain ⟨F₁, N₁⟩ := next h₁ hk₁
    exact done c h₁ tk₁ fr hJ' hok' hfr' hof' F₁ N₁
end
end Mine
end
section
open PySem PySem.W PyProof.Rows PySem.Calls
namespace Mine
abbrev zs (ns : List Nat) : List Int := ns.map fun k : Nat => (k : Int)
theorem fold_rep (k : Nat) : ∀ a : Array Nat, (List.replicate k (#[32] : Array Nat)).foldl (· ++ ·) a = a ++ (List.replicate k 32).toArray := by
  k_with_none
  induction k with
  | zero => intro a; simp
  | succ k ih => intro a; simp only [List.replicate_succ, List.foldl_cons]; rw [ih]; apply Array.ext'; simp
theorem blank_name (k c : Nat) : Txt.mul (PySem.Str.ofString " ") (k : Int) ++ (⟨#[c]⟩ : Str) = pt k c := by
  have e : Txt.mul (PySem.Str.ofString " ") (k : Int) = ⟨(List.replicate k 32).toArray⟩ := by
    unfold Txt.mul
    rw [blank_is]
    by_cases h : k = 0
    · subst h; rfl
    · rw [if_neg (by omega)]
      by_cases h1 : k = 1
      · subst h1; rfl
      · rw [if_neg (by simp [Str.length]; omega)]
        congr 1
        rw [show (k : Int).toNat = k from rfl, fold_rep]
        simp
  rw [e]
  unfold pt
  show (⟨_⟩ : Str) = _
  congr 1
  apply Array.ext'; simp
theorem join_nil (l : List Str) : (Txt.join (PySem.Str.ofString "") l).cps.toList = l.flatMap fun s => s.cps.toList := by
  have e0 : (PySem.Str.ofString "").cps = #[] := by decide +kernel
  have gen : ∀ (r : List Str) (a : Array Nat), (r.foldl (fun acc p => acc ++ ((PySem.Str.ofString "").cps ++ p.cps)) a).toList = a.toList ++ r.flatMap fun s => s.cps.toList := by
    intro r
    induction r with
    | nil => intro a; simp
    | cons x t ih => intro a; rw [List.foldl_cons, ih, e0]; simp
  unfold Txt.join
  cases l with
  | nil => simp [Builtin.Str.glued]; rfl
  | cons x r =>
    have := gen r x.cps
    simpa [Builtin.Str.glued] using this
theorem strs_of {f : Nat → Str} : ∀ {ys : List Value} {k : Nat}, (∀ (j : Nat) (y : Value), ys[j]? = some y → ∃ t, y = Value.str (f (k + j)) t) → StrsAre ys ((List.range' k ys.length).map f)
  | [], _, _ => .nil
  | y :: r, k, h => by
    obtain ⟨t, e⟩ := h 0 y rfl
    rw [e]
    exact .cons _ t (strs_of fun j z hz => by
      obtain ⟨t', e'⟩ := h (j + 1) z (by simpa using hz)
      exact ⟨t', by rw [e']; congr 2; omega⟩)
theorem ints_of {f : Nat → Int} : ∀ {ys : List Value} {k : Nat}, (∀ (j : Nat) (y : Value), ys[j]? = some y → ∃ t, y = Value.int (f (k + j)) t) → IntsAre ys ((List.range' k ys.length).map f)
  | [], _, _ => .nil
  | y :: r, k, h => by
    obtain ⟨t, e⟩ := h 0 y rfl
    rw [e]
    exact .cons _ t (ints_of fun j z hz => by
      obtain ⟨t', e'⟩ := h (j + 1) z (by simpa using hz)
      exact ⟨t', by rw [e']; congr 2; omega⟩)
theorem range_getD {α β : Type} (ns : List α) (d : α) (g : α → β) : (List.range' 0 ns.length).map (fun i => g (ns.getD i d)) = ns.map g := by
  refine List.ext_getElem (by simp) fun i h1 h2 => ?_
  have : i < ns.length := by simpa using h1
  simp [List.getD, List.getElem?_eq_getElem this]
theorem strs_getD {α : Type} {ns : List α} {d : α} {g : α → Str} {ys : List Value} (hl : ys.length = ns.length) (h : ∀ j y, ys[j]? = some y → ∃ t, y = Value.str (g (ns.getD j d)) t) : StrsAre ys (ns.map g) := by
  have := strs_of (f := fun i => g (ns.getD i d)) (ys := ys) (k := 0) fun j y hy => by rw [Nat.zero_add]; exact h j y hy
  rwa [hl, range_getD] at this
theorem ints_getD {α : Type} {ns : List α} {d : α} {g : α → Int} {ys : List Value} (hl : ys.length = ns.length) (h : ∀ j y, ys[j]? = some y → ∃ t, y = Value.int (g (ns.getD j d)) t) : IntsAre ys (ns.map g) := by
  have := ints_of (f := fun i => g (ns.getD i d)) (ys := ys) (k := 0) fun j y hy => by rw [Nat.zero_add]; exact h j y hy
  rwa [hl, range_getD] at this
theorem zs_item {vs : List Value} {ns : List Nat} {i : Nat} {v : Value} (hI : IntsAre vs (zs ns)) (h : vs[i]? = some v) : ∃ t, v = Value.int (ns.getD i 0 : Nat) t := by
  have hl := hI.length
  rw [List.length_map] at hl
  have hi : i < vs.length := (List.getElem?_eq_some_iff.mp h).1
  have e1 : (zs ns)[i]? = some ((ns.getD i 0 : Nat) : Int) := by
    rw [List.getElem?_map, List.getElem?_eq_getElem (by omega)]
    simp [List.getD, List.getElem?_eq_getElem (show i < ns.length by omega)]
  obtain ⟨t, ht⟩ := hI.get i _ e1
  rw [h] at ht
  exact ⟨t, Option.some.inj ht⟩
theorem getD_le {ns : List Nat} {i b : Nat} (h : ∀ k ∈ ns, k ≤ b) : ns.getD i 0 ≤ b := by
  rw [List.getD]
  cases e : ns[i]? with
  | none => exact Nat.zero_le _
  | some k => exact h k (List.mem_of_getElem? e)
theorem pts_sum {ns : List Nat} (h : ∀ k ∈ ns, k ≤ 40) : ((ns.map fun k => pt k 9).map (·.length)).sum ≤ 41 * ns.length := by
  induction ns with
  | nil => simp
  | cons x r ih =>
    have h1 := ih fun k hk => h k (.tail _ hk)
    have h2 := h x (.head _)
    simp only [List.map_cons, List.sum_cons, List.length_cons, pt_length]
    omega
theorem nats_of {b : Nat} : ∀ {ys : List Value}, (∀ (j : Nat) (y : Value), ys[j]? = some y → ∃ (k : Nat) (t : Tok), k ≤ b ∧ y = Value.int k t) → ∃ ms : List Nat, ms.length = ys.length ∧ IntsAre ys (zs ms) ∧ ∀ k ∈ ms, k ≤ b
  | [], _ => ⟨[], rfl, .nil, fun k hk => nomatch hk⟩
  | y :: r, h => by
    obtain ⟨k, t, hk, rfl⟩ := h 0 y rfl
    obtain ⟨ms, h1, h2, h3⟩ := nats_of (ys := r) fun j z hz => h (j + 1) z (by simpa using hz)
    exact ⟨k :: ms, by simp [h1], .cons _ t h2, fun x hx => (List.mem_cons.mp hx).elim (fun e => e ▸ hk) (h3 x)⟩
theorem pow_ok {b : Int} (hb : b = 2 ∨ b = 6 ∨ b = 7) {e : Nat} (he : e ≤ 20) : b ^ e ≠ 0 ∧ (b ^ e).natAbs.log2 < 9000 := by
  have h0 : b ^ e ≠ 0 := Int.pow_ne_zero (by omega)
  refine ⟨h0, ?_⟩
  rw [Int.natAbs_pow]
  have h1 : b.natAbs ≤ 8 := by omega
  have h2 : b.natAbs ^ e ≤ 8 ^ e := Nat.pow_le_pow_left h1 e
  have h3 : (8 : Nat) ^ e ≤ 8 ^ 20 := Nat.pow_le_pow_right (by omega) he
  have h4 : b.natAbs ^ e < 2 ^ 64 := Nat.lt_of_le_of_lt (Nat.le_trans h2 h3) (by decide)
  have h5 : b.natAbs ^ e ≠ 0 := by
    intro q
    have : b.natAbs ≠ 0 := by omega
    exact absurd q (by exact Nat.pos_iff_ne_zero.mp (Nat.pow_pos (by omega)))
  exact Nat.lt_of_lt_of_le ((Nat.log2_lt h5).mpr h4) (by omega)
theorem nat_val {z : Int} {t : Tok} {b : Nat} (h0 : 0 ≤ z) (h1 : z ≤ b) : ∃ (k : Nat) (u : Tok), k ≤ b ∧ Value.int z t = Value.int k u :=
  ⟨z.toNat, t, by omega, by rw [Int.toNat_of_nonneg h0]⟩
theorem enum_item {vs : List Value} {i : Nat} {v : Value} {h : Heap} (x : ∃ T vals, v = Value.ref T ∧ (∃ t x, vs.toArray[i]? = some x ∧ vals = #[Value.int i t, x]) ∧ h.IsTuple T vals) : ∃ T x y, v = Value.ref T ∧ h.IsTuple T #[x, y] ∧ ((∃ t, x = Value.int i t) ∧ vs[i]? = some y) := by
  obtain ⟨T, vals, rfl, ⟨t, x, hx, rfl⟩, hT⟩ := x
  exact ⟨T, _, x, rfl, hT, ⟨t, rfl⟩, by simpa using hx⟩
abbrev leadPre (ns : List Nat) : List Nat := ns.flatMap fun k => List.replicate k 32 ++ [9]
theorem leadPre_len {ns : List Nat} (h : ∀ k ∈ ns, k ≤ 40) : (leadPre ns).length ≤ 41 * ns.length := by
  induction ns with
  | nil => simp
  | cons x r ih =>
    have := ih fun k hk => h k (.tail _ hk)
    have := h x (.head _)
    simp only [leadPre, List.flatMap_cons, List.length_append, List.length_replicate, List.length_cons, List.length_nil] at *
    omega
theorem leadPre_is {ns : List Nat} : ∀ x ∈ leadPre ns, x = 32 ∨ x = 9 := by
  intro x hx
  obtain ⟨k, _, h⟩ := List.mem_flatMap.mp hx
  rcases List.mem_append.mp h with q | q
  · exact .inl (List.eq_of_mem_replicate q)
  · exact .inr (List.mem_singleton.mp q)
theorem lead_text (ns : List Nat) : (Txt.join (PySem.Str.ofString "") (ns.map fun k => pt k 9) ++ PySem.Str.ofString "x").cps.toList = leadPre ns ++ 120 :: [] := by
  show ((Txt.join (PySem.Str.ofString "") (ns.map fun k => pt k 9)).cps ++ (PySem.Str.ofString "x").cps).toList = _
  rw [Array.toList_append, join_nil, show (PySem.Str.ofString "x").cps = #[120] by decide +kernel]
  congr 1
  rw [List.flatMap_map]
  rfl
theorem join_mem {prog : Program} {w : World} {A : Around} {E : Value → Shared → Prop} {s : Shared} {h₀ : Heap} {L D : Addr} {news : List (Addr × Obj)} {ys : List Value} {k : Nat} {x : Str} {t : Tok} {ts : List Str} {Q : Value → Shared → Prop}
    (N : News h₀ L s.heap news) (hm : (D, W.listOf ys.toArray k) ∈ news) (hS : StrsAre ys ts) (hz : (ts.map (·.length)).sum + ts.length * x.length ≤ 16777216) (h : ∀ t' k, Q (.str (Txt.join x ts) t') { s with toks := k }) :
    wpAny (model prog w) A (call (.builtin "str.join") [.str x t, .ref D]) Q E s :=
  join_list (News.isList N hm) (by simpa using hS) hz h
theorem join_len (l : List Str) : (Txt.join (PySem.Str.ofString "") l).length = (l.map (·.length)).sum := by
  show (Txt.join (PySem.Str.ofString "") l).cps.size = _
  rw [← Array.length_toList, join_nil]
  induction l with
  | nil => rfl
  | cons x r ih => simp only [List.flatMap_cons, List.length_append, List.map_cons, List.sum_cons, ih]; simp [PySem.Str.length]
end Mine
end
section
open PySem PySem.W PyProof.Rows PySem.Calls
namespace Mine
abbrev lawEnv (L a : Addr) (ccd : Value) : Env := envX (PySem.Str.ofString "law") lawS L a ccd (cellsFrom (L + 1) lawS.names [])
abbrev lawTop (dp un : Nat) (gd : Option (List Code)) (L a : Addr) (ccd : Value) (outer : List Env) : Around := ktrTop dp un gd (PySem.Str.ofString "law") lawS L a ccd (cellsFrom (L + 1) lawS.names []) outer
theorem ints_get {vs : List Value} {ns : List Int} {i : Nat} {v : Value} (hI : IntsAre vs ns) (h : vs[i]? = some v) : ∃ k t, v = Value.int k t ∧ ns[i]? = some k := by
  k_with_none
  have hl := hI.length
  have hi : i < vs.length := (List.getElem?_eq_some_iff.mp h).1
  have e1 : ns[i]? = some ns[i] := List.getElem?_eq_getElem (by omega)
  obtain ⟨t, ht⟩ := hI.get i _ e1
  rw [h] at ht
  exact ⟨_, t, Option.some.inj ht, e1⟩
theorem ints_pick {vs : List Value} {xs : List Int} (hI : IntsAre vs xs) : ∀ l : List Nat, ∃ zs, IntsAre (l.filterMap (vs.toArray[·]?)) zs
  | [] => ⟨[], .nil⟩
  | i :: l => by
    obtain ⟨zs, hz⟩ := ints_pick hI l
    rw [List.filterMap_cons]
    cases h : vs.toArray[i]? with
    | none => exact ⟨zs, hz⟩
    | some v =>
      obtain ⟨k, t, rfl, _⟩ := ints_get hI (i := i) (v := v) (by simpa using h)
      exact ⟨k :: zs, .cons k t hz⟩
theorem sum_pick {prog : Program} {w : World} {A : Around} {E : Value → Shared → Prop} {s : Shared} {h₀ : Heap} {L D : Addr} {m : Str → Option Value} {news : List (Addr × Obj)} {vs : List Value} {xs : List Int} {lo hi st : Option Int} {Q : Value → Shared → Prop} (hh : A.handled = none)
  (F : Fr h₀ L s.heap m) (N : News h₀ L s.heap news) (hm : (D, ({ cls := .type "list", data := .seq (slicePick vs.toArray lo hi st) } : Obj)) ∈ news) (hI : IntsAre vs xs)
  (h : ∀ z h' tk t', Fr h₀ L h' m → News h₀ L h' news → Q (.int z t') { s with heap := h', toks := tk }) : wpAny (model prog w) A (call (.builtin "sum") [.ref D]) Q E s := by
  obtain ⟨zs, hz⟩ := ints_pick hI (sliceRange (sliceBounds lo hi st vs.toArray.size).1 (sliceBounds lo hi st vs.toArray.size).2.1 (sliceBounds lo hi st vs.toArray.size).2.2)
  exact sumK (vs := (sliceRange (sliceBounds lo hi st vs.toArray.size).1 (sliceBounds lo hi st vs.toArray.size).2.1 (sliceBounds lo hi st vs.toArray.size).2.2).filterMap (vs.toArray[·]?)) hh F N (News.isList N hm) hz fun h' tk t' => h _ h' tk t'
theorem mod_mill (z : Int) (t : Tok) : ∃ (k : Nat) (u : Tok), k ≤ 999999 ∧ Value.int (z.fmod 1000000) t = Value.int k u := by
  have h1 : 0 ≤ z.fmod 1000000 := Int.fmod_nonneg_of_pos _ (by decide)
  have h2 : z.fmod 1000000 < 1000000 := Int.fmod_lt_of_pos _ (by decide)
  obtain ⟨k, hk⟩ := Int.eq_ofNat_of_zero_le h1
  exact ⟨k, t, by omega, by rw [hk]⟩
theorem int_val {x y : Int} {t : Tok} (h : x = y) : ∃ u, Value.int x t = Value.int y u := ⟨t, by rw [h]⟩
theorem menu_many {i : Nat} {v : Int} (h : [(6 : Int), 5, 4, 6, 3, 2, 1][i]? = some v) : ∃ k : Nat, v = k ∧ 1 ≤ k ∧ k ≤ 6 := by
  have hm := List.mem_of_getElem? h
  simp only [List.mem_cons, List.not_mem_nil, or_false] at hm
  rcases hm with q | q | q | q | q | q | q <;> subst q
  · exact ⟨6, rfl, by omega, by omega⟩
  · exact ⟨5, rfl, by omega, by omega⟩
  · exact ⟨4, rfl, by omega, by omega⟩
  · exact ⟨6, rfl, by omega, by omega⟩
  · exact ⟨3, rfl, by omega, by omega⟩
  · exact ⟨2, rfl, by omega, by omega⟩
  · exact ⟨1, rfl, by omega, by omega⟩
theorem menu_manyD {k : Int} (h0 : 0 ≤ k) (h1 : k < 7) : ∃ j : Nat, [(6 : Int), 5, 4, 6, 3, 2, 1].getD k.toNat 0 = j ∧ 1 ≤ j ∧ j ≤ 6 := by
  refine menu_many (i := k.toNat) ?_
  have : k.toNat < 7 := by omega
  rw [List.getD_eq_getElem?_getD, List.getElem?_eq_getElem (show k.toNat < [(6 : Int), 5, 4, 6, 3, 2, 1].length from this)]
  rfl
theorem cell_get {cz : List Nat} {i : Nat} {v : Int} (h3 : ∀ k ∈ cz, k ≤ 999999) (h : (zs cz)[i]? = some v) : 0 ≤ v ∧ v < 1000000 := by
  rw [List.getElem?_map] at h
  obtain ⟨k, hk, rfl⟩ := Option.map_eq_some_iff.mp h
  have := h3 k (List.mem_of_getElem? hk)
  omega
/-- the values that law's first five statements make -/
structure Vv where
  (D Dn Dm x d nrm ct : Addr) (ys yn ym cv : List Value) (qD qN qM : Nat) (xt : Str) (t tb tn tt : Tok) (sb : Bool) (k1 k2 k3 k4 k5 : Tok) (cz nz ms : List Nat) (k : Nat) (tm : Tok)
structure Base (w : World) (v : Vv) (R : Fa) : Prop where
  mD : (v.D, W.listOf v.ys.toArray v.qD) ∈ R
  mN : (v.Dn, W.listOf v.yn.toArray v.qN) ∈ R
  mM : (v.Dm, W.listOf v.ym.toArray v.qM) ∈ R
  mW : ∀ p ∈ wsNews w v.x v.d v.nrm v.ct v.cv (wrun (leadPre v.ms)) v.xt v.t v.tb v.tn v.tt v.sb v.k1 v.k2 v.k3 v.k4 v.k5 [], p ∈ R
  iD : IntsAre v.ys (zs v.cz)
  iN : IntsAre v.yn (zs v.nz)
  iM : IntsAre v.ym (zs v.ms)
  iC : IntsAre v.cv (wrun (leadPre v.ms)).cs
  cl : v.cz.length = 4
  cb : ∀ k ∈ v.cz, k ≤ 999999
  nl : v.nz.length = v.k
  nb : ∀ k ∈ v.nz, k ≤ 5
  ml : v.ms.length = v.k
  mb : ∀ k ∈ v.ms, k ≤ 6
  k1 : 1 ≤ v.k
  k6 : v.k ≤ 6
theorem Base.mono {w : World} {v : Vv} {R R' : Fa} (b : Base w v R) (h : ∀ p ∈ R, p ∈ R') : Base w v R' :=
  ⟨h _ b.mD, h _ b.mN, h _ b.mM, fun p hp => h _ (b.mW p hp), b.iD, b.iN, b.iM, b.iC, b.cl, b.cb, b.nl, b.nb, b.ml, b.mb, b.k1, b.k6⟩
structure Loc (v : Vv) (m : Str → Option Value) : Prop where
  fc : m (PySem.Str.ofString "cells") = some (.ref v.D)
  fk : m (PySem.Str.ofString "many") = some (.int (v.k : Int) v.tm)
  fn : m (PySem.Str.ofString "net") = some (.ref v.Dn)
  fm : m (PySem.Str.ofString "numbers") = some (.ref v.Dm)
  fl : m (PySem.Str.ofString "lead") = some (.ref v.x)
/-- the five cells stand ahead of the rest -/
abbrev cellsN (L : Addr) (o1 o2 o3 o4 o5 : Obj) (R : Fa) : Fa := (L + 1 + 1 + 1 + 1 + 1, o5) :: (L + 1 + 1 + 1 + 1, o4) :: (L + 1 + 1 + 1, o3) :: (L + 1 + 1, o2) :: (L + 1, o1) :: (142, tabObj #[]) :: R
section
variable {L : Addr} {o1 o2 o3 o4 o5 : Obj} {R : Fa}
theorem cl_ne {L p : Nat} (h : L + 1 + 1 + 1 + 1 + 1 < p) : p ≠ L + 1 ∧ p ≠ L + 1 + 1 ∧ p ≠ L + 1 + 1 + 1 ∧ p ≠ L + 1 + 1 + 1 + 1 ∧ p ≠ L + 1 + 1 + 1 + 1 + 1 := by omega
theorem cl_apart (L : Nat) (h : 142 < L) : (∀ i, 1 ≤ i → 142 ≠ L + i) ∧ ∀ i j, i ≠ j → L + i ≠ L + j := ⟨fun i _ => by omega, fun i j h => by omega⟩
theorem upd_counts (hL : @LT.lt Nat _ 142 L) (hR : ∀ p ∈ R, @LT.lt Nat _ (L + 1 + 1 + 1 + 1 + 1) p.1) : UpdF (L + 1 + 1) o2 (cellsN L o1 o2 o3 o4 o5 R) (fun o' => cellsN L o1 o' o3 o4 o5 R) :=
  .tail ((cl_apart L hL).2 5 2 (by decide)) (.tail ((cl_apart L hL).2 4 2 (by decide)) (.tail ((cl_apart L hL).2 3 2 (by decide)) (.head fun p hp => by
    rcases List.mem_cons.mp hp with q | q
    · rw [q]; exact (cl_apart L hL).2 1 2 (by decide)
    rcases List.mem_cons.mp q with q | q
    · rw [q]; exact (cl_apart L hL).1 2 (by decide)
    · exact (cl_ne (hR p q)).2.1)))
theorem upd_down (hL : @LT.lt Nat _ 142 L) (hR : ∀ p ∈ R, @LT.lt Nat _ (L + 1 + 1 + 1 + 1 + 1) p.1) : UpdF (L + 1 + 1 + 1) o3 (cellsN L o1 o2 o3 o4 o5 R) (fun o' => cellsN L o1 o2 o' o4 o5 R) :=
  .tail ((cl_apart L hL).2 5 3 (by decide)) (.tail ((cl_apart L hL).2 4 3 (by decide)) (.head fun p hp => by
    rcases List.mem_cons.mp hp with q | q
    · rw [q]; exact (cl_apart L hL).2 2 3 (by decide)
    rcases List.mem_cons.mp q with q | q
    · rw [q]; exact (cl_apart L hL).2 1 3 (by decide)
    rcases List.mem_cons.mp q with q | q
    · rw [q]; exact (cl_apart L hL).1 3 (by decide)
    · exact (cl_ne (hR p q)).2.2.1))
theorem upd_row (hL : @LT.lt Nat _ 142 L) (hR : ∀ p ∈ R, @LT.lt Nat _ (L + 1 + 1 + 1 + 1 + 1) p.1) : UpdF (L + 1 + 1 + 1 + 1) o4 (cellsN L o1 o2 o3 o4 o5 R) (fun o' => cellsN L o1 o2 o3 o' o5 R) :=
  .tail ((cl_apart L hL).2 5 4 (by decide)) (.head fun p hp => by
    rcases List.mem_cons.mp hp with q | q
    · rw [q]; exact (cl_apart L hL).2 3 4 (by decide)
    rcases List.mem_cons.mp q with q | q
    · rw [q]; exact (cl_apart L hL).2 2 4 (by decide)
    rcases List.mem_cons.mp q with q | q
    · rw [q]; exact (cl_apart L hL).2 1 4 (by decide)
    rcases List.mem_cons.mp q with q | q
    · rw [q]; exact (cl_apart L hL).1 4 (by decide)
    · exact (cl_ne (hR p q)).2.2.2.1)
theorem upd_ties (hL : @LT.lt Nat _ 142 L) (hR : ∀ p ∈ R, @LT.lt Nat _ (L + 1 + 1 + 1 + 1 + 1) p.1) : UpdF (L + 1 + 1 + 1 + 1 + 1) o5 (cellsN L o1 o2 o3 o4 o5 R) (fun o' => cellsN L o1 o2 o3 o4 o' R) :=
  .head fun p hp => by
    rcases List.mem_cons.mp hp with q | q
    · rw [q]; exact (cl_apart L hL).2 4 5 (by decide)
    rcases List.mem_cons.mp q with q | q
    · rw [q]; exact (cl_apart L hL).2 3 5 (by decide)
    rcases List.mem_cons.mp q with q | q
    · rw [q]; exact (cl_apart L hL).2 2 5 (by decide)
    rcases List.mem_cons.mp q with q | q
    · rw [q]; exact (cl_apart L hL).2 1 5 (by decide)
    rcases List.mem_cons.mp q with q | q
    · rw [q]; exact (cl_apart L hL).1 5 (by decide)
    · exact (cl_ne (hR p q)).2.2.2.2
/-- what stands behind the cells came later -/
theorem cells_lt {D : Addr} (h : ∀ p ∈ cellsN L o1 o2 o3 o4 o5 R, @LT.lt Nat _ p.1 D) : @LT.lt Nat _ (L + 1 + 1 + 1 + 1 + 1) D := h (L + 1 + 1 + 1 + 1 + 1, o5) (.head _)
end
def toL (v : Vv) (m : Str → Option Value) : Str → Option Value := fun z => if z = "cells" then some (.ref v.D) else if z = "many" then some (.int (v.k : Int) v.tm) else if z = "net" then some (.ref v.Dn) else if z = "numbers" then some (.ref v.Dm) else if z = "lead" then some (.ref v.x) else m z
theorem toL_of {v : Vv} {m : Str → Option Value} (h : Loc v m) : ∀ z, m z = toL v m z := by
  intro z
  unfold toL
  by_cases e1 : z = "cells"
  · rw [if_pos e1, e1]; exact h.fc
  · rw [if_neg e1]
    by_cases e2 : z = "many"
    · rw [if_pos e2, e2]; exact h.fk
    · rw [if_neg e2]
      by_cases e3 : z = "net"
      · rw [if_pos e3, e3]; exact h.fn
      · rw [if_neg e3]
        by_cases e4 : z = "numbers"
        · rw [if_pos e4, e4]; exact h.fm
        · rw [if_neg e4]
          by_cases e5 : z = "lead"
          · rw [if_pos e5, e5]; exact h.fl
          · rw [if_neg e5]
end Mine
end
section
open PySem PySem.W PyProof.Rows PySem.Calls
namespace Mine
abbrev lamPar (pa : Pos) : Arguments := { posonlyargs := [], args := [{ arg := "text", annotation := none, pos := pa }], vararg := none, kwonlyargs := [], kw_defaults := [], kwarg := none, defaults := [] }
abbrev lamBody (p1 p2 p3 : Pos) : PySem.Expr := .Call (.Name "len" p1) [.Name "text" p2] [] p3
abbrev lamScope : Scope := { kind := .function, names := [(PySem.Str.ofString "text", NameKind.local), (PySem.Str.ofString "len", NameKind.globalImplicit)], isGenerator := false, isCoroutine := false, more := [] }
abbrev lamObj (q : Str) (pa p1 p2 p3 : Pos) (pm : Value) (c' : Addr) (ctv : Value) : Obj := kla_obj (PySem.Str.ofString "<lambda>") q (lamPar pa) (lamBody p1 p2 p3) lamScope [] pm c' ctv
/-- a function of len at f, its code known -/
def LamAt (news : List (Addr × Obj)) (f : Addr) : Prop := ∃ (q : Str) (pa p1 p2 p3 : Pos) (pm : Value) (c' : Addr) (ctv : Value) (oc : Obj) (vs : Array Value) (t : Tok), (f, lamObj q pa p1 p2 p3 pm c' ctv) ∈ news ∧ (c', oc) ∈ news ∧ oc.data = .fields vs ∧ vs[1]? = some (.str q t)
theorem LamAt.sub {a b : List (Addr × Obj)} {f : Addr} (h : LamAt a f) (hs : ∀ p ∈ a, p ∈ b) : LamAt b f := by
  k_with_none
  k_with "mem" => with_reducible assumption
  obtain ⟨q, pa, p1, p2, p3, pm, c', ctv, oc, vs, t, h1, h2, h3, h4⟩ := h
  exact ⟨q, pa, p1, p2, p3, pm, c', ctv, oc, vs, t, hs _ h1, hs _ h2, h3, h4⟩
set_option maxRecDepth 100000 in
set_option maxHeartbeats 8000000 in
theorem lam_len {w : World} {dp un : Nat} {gd : Option (List Code)} {cn : Str} {cs : Scope} {a : Addr} {ccd : Value} {cl : List (Str × Addr)} {outer : List Env} {A₀ : Around} {base h₀ : Heap} {L : Addr} {m : Str → Option Value} {s : Shared} {Q E : Value → Shared → Prop} {p : Program} {loose : List Str} {mean : ExcName → Option Value} {mg mb : Str → Option Value} {news : List (Addr × Obj)} {f : Addr} {x : Str} {tx : Tok}
  (B : Below A₀ base outer h₀) (F : Fr h₀ L s.heap m) (X : (hd.heap_1 w.params).In h₀) (N : News h₀ L s.heap news) (T : Top p loose mean mg mb h₀) (hk : cs.kind = .function)
  (hf : LamAt news f) (hz : x.length ≤ sizeLine) (hd : dp + 1 < recursionLimit) (hu : un + 8 < cLine)
  (h : ∀ t h' tk', Fr h₀ L h' m → News h₀ L h' news → Q (.int x.length t) { s with heap := h', toks := tk' }) :
  wpAny (model PySem.Challenge.rw_rs0180_01.row.prog w) (ktrTop dp un gd cn cs L a ccd cl outer) (call (.ref f) [.str x tx]) Q E s := by
  k_with_none
  k_with "mem" => with_reducible assumption
  k_with "call builtin:len" => (k_here; (with_reducible show wpAny _ _ (call (Value.builtin "len") [Value.str _ _]) _ _ _); (refine' len_text ?lz ?_; (case lz => assumption)); intro _ _)
  revert X; k_fill; intro X
  obtain ⟨q, pa, p1, p2, p3, pm, c', ctv, oc, vs, t, h1, h2, h3, h4⟩ := hf
  refine wpAny_call ?_
  k_dflt (refine' kla_code (binds := [("text", .str x tx)]) ?k1 ?k2 ?k3 ?k4 ?k5 ?kA ?kF ?kK ?k6 ?k7 ?k8 ?k9 ?kB ?_ ?c2 ?c3 ?c4 ?c5; (case kA => exact rfl); (case kF => exact rfl); (case kK => assumption); (case k1 => k_asm); (case k2 => k_asm); (case k3 => k_asm); (case k4 => k_asm); (case k5 => k_asm); (case k6 => exact h1); (case k7 => exact codeRec_news N h2 h3 h4); (case k8 => ktr_room); (case k9 => exact rfl); (case c5 => decide); (case kB => exact locs rfl); (case c2 => exact rfl); (case c3 => exact rfl); (case c4 => exact rfl); k_whole; intro g' L' h' FG' F' N' B' X' T'; (try dsimp only); (try k_lift B'); (try k_fold))
  k_steps
  exact h _ _ _ (by k_asm) (by k_asm)
end Mine
end
section
open PySem PySem.W PyProof.Rows PySem.Calls PyProof.Rows.LCg
namespace Mine
section
variable {prog : Program} {w : World} {A : Around} {s : Shared} {h₀ : Heap} {L : Addr} {m : Str → Option Value} {E : Value → Shared → Prop}
abbrev TList (prog : Program) (w : World) (A : Around) (elt : Expr) (cenv : Env) (D : Addr) (E : Value → Shared → Prop) (K : Shared → Prop) (s : Shared) : Prop :=
  wpAny (model prog w) A (eval elt cenv) (fun x s₄ => wpAny (model prog w) A (call (.builtin "list.append") [.ref D, x]) (fun _ s₅ => K s₅) E s₄) E s
abbrev TTest (prog : Program) (w : World) (A : Around) (c elt : Expr) (cenv : Env) (D : Addr) (E : Value → Shared → Prop) (K : Shared → Prop) (s : Shared) : Prop :=
  wpAny (model prog w) A (isTrue c cenv (eval c cenv)) (fun ok s₃ => if ok = true then TList prog w A elt cenv D E K s₃ else K s₃) E s
abbrev TTwo (prog : Program) (w : World) (A : Around) (e iter : Expr) (cenv : Env) (D : Addr) (E : Value → Shared → Prop) (K : Shared → Prop) (s : Shared) : Prop :=
  wpAny (model prog w) A (eval iter cenv) (fun x s₃ => wpAny (model prog w) A (pyIter x) (fun it s₄ => codeAny (model prog w) A (.compStart e 1 it (.ref D) cenv) (fun r s' => match r with | .ok _ => K s' | .error x => cameBackBy (model prog w) A cenv E x s') s₄) E s₃) E s
theorem tl_mono {elt : Expr} {cenv : Env} {D : Addr} : ∀ E K K' s, TList prog w A elt cenv D E K s → (∀ s, K s → K' s) → TList prog w A elt cenv D E K' s :=
  fun _ _ _ _ h f => wpAny_mono h (fun _ _ h => wpAny_mono h (fun _ _ h => f _ h) fun _ _ e => e) fun _ _ e => e
theorem tt_mono {c elt : Expr} {cenv : Env} {D : Addr} : ∀ E K K' s, TTest prog w A c elt cenv D E K s → (∀ s, K s → K' s) → TTest prog w A c elt cenv D E K' s :=
  fun _ _ _ _ h f => wpAny_mono h (fun b _ h => by
    cases b with
    | true => exact tl_mono _ _ _ _ h f
    | false => exact f _ h) fun _ _ e => e
theorem t2_mono {e iter : Expr} {cenv : Env} {D : Addr} : ∀ E K K' s, TTwo prog w A e iter cenv D E K s → (∀ s, K s → K' s) → TTwo prog w A e iter cenv D E K' s :=
  fun _ _ _ _ h f => wpAny_mono h (fun _ _ h => wpAny_mono h (fun _ _ h => codeAny_mono h fun r _ h => by
    cases r with
    | ok _ => exact f _ h
    | error _ => exact h) fun _ _ e => e) fun _ _ e => e
theorem gl_list {elt target iter : Expr} {scope : Scope} {pos : Pos} {it : Value} {D : Addr} {cenv : Env} : GLoop prog w A target cenv it (.compLoop (.ListComp elt [⟨target, iter, [], 0⟩] scope pos) 0 it (.ref D) cenv) (TList prog w A elt cenv D) :=
  fun R => ⟨notedBy (model prog w) A cenv fun e s' => R (.error e) s', fun I h n _ hI => kcp_loop I h n hI⟩
theorem gl_test {elt target iter c : Expr} {scope : Scope} {pos : Pos} {it : Value} {D : Addr} {cenv : Env} : GLoop prog w A target cenv it (.compLoop (.ListComp elt [⟨target, iter, [c], 0⟩] scope pos) 0 it (.ref D) cenv) (TTest prog w A c elt cenv D) :=
  fun R => ⟨notedBy (model prog w) A cenv fun e s' => R (.error e) s', fun I h n _ hI => kct_loop I h n hI⟩
theorem gl_in {elt target iter : Expr} {g : Comprehension} {scope : Scope} {pos : Pos} {it : Value} {D : Addr} {cenv : Env} : GLoop prog w A target cenv it (.compLoop (.ListComp elt [g, ⟨target, iter, [], 0⟩] scope pos) 1 it (.ref D) cenv) (TList prog w A elt cenv D) := by
  k_with_none
  refine fun R => ⟨notedBy (model prog w) A cenv fun e s' => R (.error e) s', fun I turn n s h => ?_⟩
  refine codeAny_loop rfl I (fun n s hI => ?_) n h
  show wpAny _ A ((compTurn (.ListComp elt [g, ⟨target, iter, [], 0⟩] scope pos) 1 it (.ref D) cenv).onRaise (fun x => do noteFrame x cenv; theTreesLotGoes x)) _ _ s
  refine wpAny_noted ?_
  show wpAny _ A (standAt iter.pos >>= fun _ => pyNext it >>= fun r => _) _ _ s
  refine wpAny_bind (wpAny_standAt (wpAny_bind (wpAny_mono (turn n s hI) (fun r s₁ h₁ => ?_) fun _ _ h' => h')))
  cases r with
  | none => exact wpAny_pure h₁
  | some v =>
    refine wpAny_bind (wpAny_mono h₁ (fun _ s₀ h₀' => ?_) fun _ _ h' => h')
    refine wpAny_bind (wpAny_mono h₀' (fun _ s₂ h₂ => ?_) fun _ _ h' => h')
    refine wpAny_bind (wpAny_tests_nil ?_)
    exact wpAny_bind (wpAny_bind (wpAny_mono h₂ (fun x s₄ h₄ => wpAny_bind (wpAny_mono h₄ (fun _ s₅ h₅ => wpAny_pure (wpAny_pure ⟨rfl, h₅⟩)) fun _ _ h' => h')) fun _ _ h' => h'))
theorem gl_two {elt target iter target2 iter2 : Expr} {ifs2 : List Expr} {scope : Scope} {pos : Pos} {it : Value} {D : Addr} {cenv : Env} (hs : ∀ x, foldedSetIterable iter2 cenv x = pure x) : GLoop prog w A target cenv it (.compLoop (.ListComp elt [⟨target, iter, [], 0⟩, ⟨target2, iter2, ifs2, 0⟩] scope pos) 0 it (.ref D) cenv) (TTwo prog w A (.ListComp elt [⟨target, iter, [], 0⟩, ⟨target2, iter2, ifs2, 0⟩] scope pos) iter2 cenv D) := by
  refine fun R => ⟨notedBy (model prog w) A cenv fun e s' => R (.error e) s', fun I turn n s h => ?_⟩
  refine codeAny_loop rfl I (fun n s hI => ?_) n h
  show wpAny _ A ((compTurn (.ListComp elt [⟨target, iter, [], 0⟩, ⟨target2, iter2, ifs2, 0⟩] scope pos) 0 it (.ref D) cenv).onRaise (fun x => do noteFrame x cenv; theTreesLotGoes x)) _ _ s
  refine wpAny_noted ?_
  show wpAny _ A (standAt iter.pos >>= fun _ => pyNext it >>= fun r => _) _ _ s
  refine wpAny_bind (wpAny_standAt (wpAny_bind (wpAny_mono (turn n s hI) (fun r s₁ h₁ => ?_) fun _ _ h' => h')))
  cases r with
  | none => exact wpAny_pure h₁
  | some v =>
    refine wpAny_bind (wpAny_mono h₁ (fun _ s₀ h₀' => ?_) fun _ _ h' => h')
    refine wpAny_bind (wpAny_mono h₀' (fun _ s₂ h₂ => ?_) fun _ _ h' => h')
    refine wpAny_bind (wpAny_tests_nil ?_)
    refine wpAny_bind (wpAny_mono h₂ (fun x s₄ h₄ => ?_) fun _ _ h' => h')
    refine wpAny_bind (wpAny_standAt ?_)
    refine wpAny_bind (wpAny_of_eq (hs x) ?_)
    refine wpAny_bind (wpAny_holding (wpAny_mono h₄ (fun it2 s₅ h₅ => ?_) fun _ _ h' => h'))
    refine wpAny_bind (wpAny_runOwn (codeAny_mono h₅ fun r s₆ h₆ => ?_))
    cases r with
    | ok f => exact wpAny_pure ⟨rfl, h₆⟩
    | error e => exact h₆
/-- where one turn ends: a value to put behind the others, or none -/
def GEl {σ : Type} (h₀ : Heap) (L : Addr) (m : Str → Option Value) (s : Shared) (fr : Fa) (nw : σ → Fa) (D : Addr) (ys : List Value) (own : Fa) (fp fa : List Addr) (J : List Value → σ → Prop) (ys' : List Value) (s₂ : Shared) : Prop :=
  ∃ (c' : σ) (h' : Heap) (tk : Nat), s₂ = { s with heap := h', toks := tk } ∧ Fr h₀ L h' m ∧ News h₀ L h' (fr ++ ((D, lst ys) :: (nw c' ++ own))) ∧ (∀ p ∈ nw c', p.1 ∉ fp ∧ p.1 ∉ fa ∧ p.1 ≠ D) ∧ J ys' c'
theorem GEl.intro {σ : Type} {s : Shared} {fr : Fa} {nw : σ → Fa} {D : Addr} {ys ys' : List Value} {own : Fa} {fp fa : List Addr} {J : List Value → σ → Prop} {h' : Heap} {tk : Nat} {all : Fa} (c' : σ) (F : Fr h₀ L h' m) (N : News h₀ L h' all) (hs : ∀ p ∈ fr ++ ((D, lst ys) :: (nw c' ++ own)), p ∈ all) (ho : ∀ p ∈ nw c', p.1 ∉ fp ∧ p.1 ∉ fa ∧ p.1 ≠ D) (hJ : J ys' c') :
    GEl h₀ L m s fr nw D ys own fp fa J ys' { s with heap := h', toks := tk } := ⟨c', h', tk, rfl, F, newsSub N hs, ho, hJ⟩
theorem gel_emit {σ : Type} {s s₂ : Shared} {fr : Fa} {nw : σ → Fa} {D : Addr} {ys : List Value} {own : Fa} {fp fa : List Addr} {J : List Value → σ → Prop} {y : Value} {Ok : Fa → Prop} (hok : Ok fr) (hfr : fr.map (·.1) = fa) (hown : ∀ p ∈ own, p.1 ∈ fp) (hDf : D ∉ fp) (hDa : D ∉ fa) (hz : ys.length ≤ sizeLine)
    (h : GEl h₀ L m s fr nw D ys own fp fa J (ys ++ [y]) s₂) :
    wpAny (model prog w) A (call (.builtin "list.append") [.ref D, y]) (fun _ s₅ => GEnd h₀ L m s Ok (fun c : List Value × σ => (D, lst c.1) :: nw c.2) own fp fa (fun c => J c.1 c.2 ∧ ∀ p ∈ nw c.2, p.1 ≠ D) s₅) E s₂ := by
  obtain ⟨c', h', tk, rfl, F, N, ho, hJ⟩ := h
  have zD := N (D, lst ys) (List.mem_append_right _ (.head _))
  refine append_at (hsz := by show ys.toArray.size ≤ sizeLine; rw [List.size_toArray]; exact hz) zD.1 fun h₅ hs₅ hD₅ => ?_
  refine ⟨(ys ++ [y], c'), h₅, tk, fr, rfl, hok, hfr, F.change hs₅ zD.2.1 zD.2.2, fun p hp => ?_, fun p hp => ?_, hJ, fun p hp => (ho p hp).2.2⟩
  · rcases List.mem_append.mp hp with q | q
    · have z := N p (List.mem_append_left _ q)
      refine ⟨hs₅.extBut _ _ (fun e => hDa ?_) z.1, z.2⟩
      rw [← e, ← hfr]; exact List.mem_map_of_mem q
    · rcases List.mem_append.mp q with q | q
      · rcases List.mem_cons.mp q with q | q
        · rw [q]; exact ⟨hD₅.trans (congrArg some (lst_snoc ys y)), zD.2⟩
        · have z := N p (List.mem_append_right _ (.tail _ (List.mem_append_left _ q)))
          exact ⟨hs₅.extBut _ _ (ho p q).2.2 z.1, z.2⟩
      · have z := N p (List.mem_append_right _ (.tail _ (List.mem_append_right _ q)))
        exact ⟨hs₅.extBut _ _ (fun e => hDf (e ▸ hown p q)) z.1, z.2⟩
  · rcases List.mem_cons.mp hp with q | q
    · rw [q]; exact ⟨hDf, hDa⟩
    · exact ⟨(ho p q).1, (ho p q).2.1⟩
theorem gel_skip {σ : Type} {s s₂ : Shared} {fr : Fa} {nw : σ → Fa} {D : Addr} {ys : List Value} {own : Fa} {fp fa : List Addr} {J : List Value → σ → Prop} {Ok : Fa → Prop} (hok : Ok fr) (hfr : fr.map (·.1) = fa) (hDf : D ∉ fp) (hDa : D ∉ fa)
    (h : GEl h₀ L m s fr nw D ys own fp fa J ys s₂) : GEnd h₀ L m s Ok (fun c : List Value × σ => (D, lst c.1) :: nw c.2) own fp fa (fun c => J c.1 c.2 ∧ ∀ p ∈ nw c.2, p.1 ≠ D) s₂ := by
  obtain ⟨c', h', tk, rfl, F, N, ho, hJ⟩ := h
  refine ⟨(ys, c'), h', tk, fr, rfl, hok, hfr, F, newsSub N fun p hp => by simpa using hp, fun p hp => ?_, hJ, fun p hp => (ho p hp).2.2⟩
  rcases List.mem_cons.mp hp with q | q
  · rw [q]; exact ⟨hDf, hDa⟩
  · exact ⟨(ho p q).1, (ho p q).2.1⟩
section
variable {σ : Type} {target : Expr} {cenv : Env} {code : Code} {I D : Addr} {fp wr fa : List Addr} {n : Nat} {P Md : Nat → Value → Heap → Prop} {St : Nat → Heap → Prop} {Ok : Fa → Prop} {G : Nat → Fa → Prop} {R : Result → Shared → Prop}
theorem gc_list {elt : Expr} (loop : GLoop prog w A target cenv (.ref I) code (TList prog w A elt cenv D)) (W : KTurns prog w A target I fp wr n P Md St) (asg : GAsg prog w A target cenv fa n P Ok G)
    (nw : σ → Fa) (keep : Fa) (J : Nat → List Value → σ → Prop) (ys₀ : List Value) (c₀ : σ) (fr₀ : Fa)
    (hfa : ∀ b ∈ fa, b ∉ fp ∧ b ≠ L ∧ h₀.get? b = none) (hLf : L ∉ fp) (hwr : ∀ b ∈ wr, h₀.get? b = none) (hkeep : ∀ p ∈ keep, p.1 ∈ fp ∧ p.1 ∉ wr) (hDf : D ∉ fp) (hDa : D ∉ fa)
    (hst : St 0 s.heap) (F : Fr h₀ L s.heap m) (N : News h₀ L s.heap (fr₀ ++ ((D, lst ys₀) :: (nw c₀ ++ keep)))) (hoff : ∀ p ∈ nw c₀, p.1 ∉ fp ∧ p.1 ∉ fa ∧ p.1 ≠ D) (hok : Ok fr₀) (hfr : fr₀.map (·.1) = fa) (hJ : J 0 ys₀ c₀) (hz : ∀ i ys c, J i ys c → ys.length ≤ sizeLine)
    (turn : ∀ E i ys c h tk own fr, i < n → J i ys c → Ok fr → fr.map (·.1) = fa → G i fr → (∀ p ∈ nw c, p.1 ∉ fp ∧ p.1 ∉ fa ∧ p.1 ≠ D) → (∀ p ∈ own, p.1 ∈ fp) → (∀ p ∈ keep, p ∈ own) → (∀ b ∈ fp, h₀.get? b = none → ∀ o, h.get? b = some o → (b, o) ∈ own) → St (i + 1) h →
      Fr h₀ L h m → News h₀ L h (fr ++ ((D, lst ys) :: (nw c ++ own))) → wpAny (model prog w) A (eval elt cenv) (fun y s₂ => GEl h₀ L m { s with heap := h, toks := tk } fr nw D ys own fp fa (J (i + 1)) (ys ++ [y]) s₂) E { s with heap := h, toks := tk })
    (done : ∀ ys c h tk fr, J n ys c → Ok fr → fr.map (·.1) = fa → (∀ p ∈ nw c, p.1 ∉ fp ∧ p.1 ∉ fa ∧ p.1 ≠ D) → Fr h₀ L h m → News h₀ L h (fr ++ ((D, lst ys) :: (nw c ++ keep))) → R (.ok .next) { s with heap := h, toks := tk }) :
    codeAny (model prog w) A code R s := by
  refine gc_core (σ := List Value × σ) loop tl_mono W asg (fun c => (D, lst c.1) :: nw c.2) keep (fun i c => J i c.1 c.2 ∧ ∀ p ∈ nw c.2, p.1 ≠ D) (ys₀, c₀) fr₀ hfa hLf hwr hkeep hst F (newsSub N fun p hp => by simpa using hp) (fun p hp => ?_) hok hfr ⟨hJ, fun p hp => (hoff p hp).2.2⟩ ?_ ?_
  · rcases List.mem_cons.mp hp with q | q
    · rw [q]; exact ⟨hDf, hDa⟩
    · exact ⟨(hoff p q).1, (hoff p q).2.1⟩
  · rintro E i ⟨ys, c⟩ h tk own fr hi ⟨hJ', hD'⟩ hok' hfr' hG hof hown hkown hall st' F' N'
    refine wpAny_mono (turn E i ys c h tk own fr hi hJ' hok' hfr' hG (fun p hp => ⟨(hof p (.tail _ hp)).1, (hof p (.tail _ hp)).2, hD' p hp⟩) hown hkown hall st' F' (newsSub N' fun p hp => by simpa using hp)) (fun y s₂ q => ?_) fun _ _ e => e
    exact gel_emit (J := J (i + 1)) hok' hfr' hown hDf hDa (hz _ _ _ hJ') q
  · rintro ⟨ys, c⟩ h tk fr ⟨hJ', hD'⟩ hok' hfr' hof F' N'
    exact done ys c h tk fr hJ' hok' hfr' (fun p hp => ⟨(hof p (.tail _ hp)).1, (hof p (.tail _ hp)).2, hD' p hp⟩) F' (newsSub N' fun p hp => by simpa using hp)
theorem gc_test {ct elt : Expr} (loop : GLoop prog w A target cenv (.ref I) code (TTest prog w A ct elt cenv D)) (W : KTurns prog w A target I fp wr n P Md St) (asg : GAsg prog w A target cenv fa n P Ok G)
    (nw : σ → Fa) (keep : Fa) (J : Nat → List Value → σ → Prop) (ys₀ : List Value) (c₀ : σ) (fr₀ : Fa)
    (hfa : ∀ b ∈ fa, b ∉ fp ∧ b ≠ L ∧ h₀.get? b = none) (hLf : L ∉ fp) (hwr : ∀ b ∈ wr, h₀.get? b = none) (hkeep : ∀ p ∈ keep, p.1 ∈ fp ∧ p.1 ∉ wr) (hDf : D ∉ fp) (hDa : D ∉ fa)
    (hst : St 0 s.heap) (F : Fr h₀ L s.heap m) (N : News h₀ L s.heap (fr₀ ++ ((D, lst ys₀) :: (nw c₀ ++ keep)))) (hoff : ∀ p ∈ nw c₀, p.1 ∉ fp ∧ p.1 ∉ fa ∧ p.1 ≠ D) (hok : Ok fr₀) (hfr : fr₀.map (·.1) = fa) (hJ : J 0 ys₀ c₀) (hz : ∀ i ys c, J i ys c → ys.length ≤ sizeLine)
    (turn : ∀ E i ys c h tk own fr, i < n → J i ys c → Ok fr → fr.map (·.1) = fa → G i fr → (∀ p ∈ nw c, p.1 ∉ fp ∧ p.1 ∉ fa ∧ p.1 ≠ D) → (∀ p ∈ own, p.1 ∈ fp) → (∀ p ∈ keep, p ∈ own) → (∀ b ∈ fp, h₀.get? b = none → ∀ o, h.get? b = some o → (b, o) ∈ own) → St (i + 1) h →
      Fr h₀ L h m → News h₀ L h (fr ++ ((D, lst ys) :: (nw c ++ own))) → wpAny (model prog w) A (isTrue ct cenv (eval ct cenv)) (fun ok s₃ => if ok = true then wpAny (model prog w) A (eval elt cenv) (fun y s₂ => GEl h₀ L m { s with heap := h, toks := tk } fr nw D ys own fp fa (J (i + 1)) (ys ++ [y]) s₂) E s₃
        else GEl h₀ L m { s with heap := h, toks := tk } fr nw D ys own fp fa (J (i + 1)) ys s₃) E { s with heap := h, toks := tk })
    (done : ∀ ys c h tk fr, J n ys c → Ok fr → fr.map (·.1) = fa → (∀ p ∈ nw c, p.1 ∉ fp ∧ p.1 ∉ fa ∧ p.1 ≠ D) → Fr h₀ L h m → News h₀ L h (fr ++ ((D, lst ys) :: (nw c ++ keep))) → R (.ok .next) { s with heap := h, toks := tk }) :
    codeAny (model prog w) A code R s := by
  refine gc_core (σ := List Value × σ) loop tt_mono W asg (fun c => (D, lst c.1) :: nw c.2) keep (fun i c => J i c.1 c.2 ∧ ∀ p ∈ nw c.2, p.1 ≠ D) (ys₀, c₀) fr₀ hfa hLf hwr hkeep hst F (newsSub N fun p hp => by simpa using hp) (fun p hp => ?_) hok hfr ⟨hJ, fun p hp => (hoff p hp).2.2⟩ ?_ ?_
  · rcases List.mem_cons.mp hp with q | q
    · rw [q]; exact ⟨hDf, hDa⟩
    · exact ⟨(hoff p q).1, (hoff p q).2.1⟩
  · rintro E i ⟨ys, c⟩ h tk own fr hi ⟨hJ', hD'⟩ hok' hfr' hG hof hown hkown hall st' F' N'
    refine wpAny_mono (turn E i ys c h tk own fr hi hJ' hok' hfr' hG (fun p hp => ⟨(hof p (.tail _ hp)).1, (hof p (.tail _ hp)).2, hD' p hp⟩) hown hkown hall st' F' (newsSub N' fun p hp => by simpa using hp)) (fun ok s₃ q => ?_) fun _ _ e => e
    cases ok with
    | true => exact wpAny_mono q (fun y s₂ q => gel_emit (J := J (i + 1)) hok' hfr' hown hDf hDa (hz _ _ _ hJ') q) fun _ _ e => e
    | false => exact gel_skip (J := J (i + 1)) hok' hfr' hDf hDa q
  · rintro ⟨ys, c⟩ h tk fr ⟨hJ', hD'⟩ hok' hfr' hof F' N'
    exact done ys c h tk fr hJ' hok' hfr' (fun p hp => ⟨(hof p (.tail _ hp)).1, (hof p (.tail _ hp)).2, hD' p hp⟩) F' (newsSub N' fun p hp => by simpa using hp)
end
end
end Mine
end
section
open PySem PySem.W PyProof.Rows PySem.Calls PyProof.Rows.LCg
namespace Mine
section
variable {prog : Program} {w : World} {A : Around} {s : Shared} {h₀ : Heap} {L : Addr} {m : Str → Option Value} {E : Value → Shared → Prop} {env : Env}
/-- what is walked -/
structure GSrc (prog : Program) (w : World) (A : Around) (target : Expr) (h₀ : Heap) (L : Addr) (s : Shared) (I : Addr) (fp wr : List Addr) (n : Nat) (P Md : Nat → Value → Heap → Prop) (St : Nat → Heap → Prop) (keep : Fa) : Prop where
  W : KTurns prog w A target I fp wr n P Md St
  st : St 0 s.heap
  self : ∀ (s' : Shared) (Q : Value → Shared → Prop) (E : Value → Shared → Prop), (∀ b o, s.heap.get? b = some o → s'.heap.get? b = some o) → Q (.ref I) s' → wpAny (model prog w) A (pyIter (.ref I)) Q E s'
  lt : ∀ b ∈ fp, b < s.heap.objs.size ∧ b ≠ L
  wr0 : ∀ b ∈ wr, h₀.get? b = none
  live : ∀ i h, St i h → ∀ b ∈ wr, ∃ o, h.get? b = some o
  keepok : ∀ p ∈ keep, p.1 ∈ fp ∧ p.1 ∉ wr
/-- a comprehension's own dict -/
def Ok1 (C : Addr) (fr : Fa) : Prop := ∃ oC mC, fr = [(C, oC)] ∧ NsObj oC mC
def G1v (C : Addr) (x : Str) (P : Nat → Value → Prop) (i : Nat) (fr : Fa) : Prop := ∃ oC m₂ v, fr = [(C, oC)] ∧ NsObj oC m₂ ∧ m₂ x = some v ∧ P i v
def G2v (C : Addr) (x y : Str) (P : Nat → Value → Value → Prop) (i : Nat) (fr : Fa) : Prop := ∃ oC m₂ v u, fr = [(C, oC)] ∧ NsObj oC m₂ ∧ m₂ x = some v ∧ m₂ y = some u ∧ P i v u
def Ok2 (C cc : Addr) (fr : Fa) : Prop := ∃ oC mC oc v, fr = [(C, oC), (cc, oc)] ∧ NsObj oC mC ∧ oc.data = .cell v
def Gcell (C cc : Addr) (P : Nat → Value → Prop) (i : Nat) (fr : Fa) : Prop := ∃ oC mC oc v, fr = [(C, oC), (cc, oc)] ∧ NsObj oC mC ∧ oc.data = .cell (some v) ∧ P i v
theorem asg_name {C : Addr} {cl : List (Str × Addr)} {scope : Scope} {x : Str} {px : Pos} {n : Nat} {P : Nat → Value → Heap → Prop} {P' : Nat → Value → Prop} (hP : ∀ i v h, P i v h → P' i v) (hkind : scope.kind = .function) (hx : scope.names.lookup x = some .local) :
    GAsg prog w A (.Name x px) (compEnvC scope cl C env) [C] n P (Ok1 C) (G1v C x P') := by
  k_with_none
  rintro i v s fr Q E hi hp ⟨oC, mC, rfl, hN⟩ _ hh hQ
  have hn := hN.ns (hh (C, oC) (.head _))
  refine wpAny_assign_Name (wpAny_storeName_local (lookup_relabel_local hx) hn (fun h₃ hn₃ hs₃ => ?_) (by simp [compEnvC, relabel, hkind]))
  obtain ⟨oC', heC, hoC⟩ := ns_obj hn₃
  refine hQ h₃ _ [(C, oC')] ⟨oC', _, rfl, hoC⟩ rfl ⟨oC', _, v, rfl, hoC, by simp, hP i v _ hp⟩ (fun p hp' => ?_) fun b o hb e => hs₃.extBut b o (fun q => hb (by rw [q]; exact .head _)) e
  rw [List.mem_singleton.mp hp']; exact heC
def Ok1K (C : Addr) (K : (Str → Option Value) → Prop) (fr : Fa) : Prop := ∃ oC mC, fr = [(C, oC)] ∧ NsObj oC mC ∧ K mC
def G1vK (C : Addr) (x : Str) (K : (Str → Option Value) → Prop) (P : Nat → Value → Prop) (i : Nat) (fr : Fa) : Prop := ∃ oC m₂ v, fr = [(C, oC)] ∧ NsObj oC m₂ ∧ m₂ x = some v ∧ P i v ∧ K m₂
theorem asg_nameK {C : Addr} {cl : List (Str × Addr)} {scope : Scope} {x : Str} {px : Pos} {n : Nat} {P : Nat → Value → Heap → Prop} {P' : Nat → Value → Prop} {K : (Str → Option Value) → Prop} (hP : ∀ i v h, P i v h → P' i v) (hK : ∀ mC v, K mC → K (fun z => if z = x then some v else mC z)) (hkind : scope.kind = .function) (hx : scope.names.lookup x = some .local) :
    GAsg prog w A (.Name x px) (compEnvC scope cl C env) [C] n P (Ok1K C K) (G1vK C x K P') := by
  rintro i v s fr Q E hi hp ⟨oC, mC, rfl, hN, hk⟩ _ hh hQ
  have hn := hN.ns (hh (C, oC) (.head _))
  refine wpAny_assign_Name (wpAny_storeName_local (lookup_relabel_local hx) hn (fun h₃ hn₃ hs₃ => ?_) (by simp [compEnvC, relabel, hkind]))
  obtain ⟨oC', heC, hoC⟩ := ns_obj hn₃
  refine hQ h₃ _ [(C, oC')] ⟨oC', _, rfl, hoC, hK _ _ hk⟩ rfl ⟨oC', _, v, rfl, hoC, by simp, hP i v _ hp, hK _ _ hk⟩ (fun p hp' => ?_) fun b o hb e => hs₃.extBut b o (fun q => hb (by rw [q]; exact .head _)) e
  rw [List.mem_singleton.mp hp']; exact heC
theorem asg_pair {C : Addr} {cl : List (Str × Addr)} {scope : Scope} {a b : Str} {pa pb tp : Pos} {kk n : Nat} {P : Nat → Value → Heap → Prop} {P' : Nat → Value → Value → Prop} (hA : A.handled = none) (hP : ∀ i v h, P i v h → ∃ T x y, v = .ref T ∧ h.IsTuple T #[x, y] ∧ P' i x y) (hkind : scope.kind = .function)
    (ha : scope.names.lookup a = some .local) (hb : scope.names.lookup b = some .local) (hab : ¬ a = b) :
    GAsg prog w A (.Tuple [.Name a pa, .Name b pb] kk tp) (compEnvC scope cl C env) [C] n P (Ok1 C) (G2v C a b P') := by
  rintro i v s fr Q E hi hp ⟨oC, mC, rfl, hN⟩ _ hh hQ
  have hn := hN.ns (hh (C, oC) (.head _))
  obtain ⟨T, x, y, rfl, hT, hxy⟩ := hP i v _ hp
  refine kcp_assign (env := compEnvC scope cl C env) hA hT (lookup_relabel_local ha) (lookup_relabel_local hb) (by simp [compEnvC, relabel, hkind]) hn fun h' tk hn' hk => ?_
  obtain ⟨oC', heC, hoC⟩ := ns_obj hn'
  refine hQ h' tk [(C, oC')] ⟨oC', _, rfl, hoC⟩ rfl ⟨oC', _, x, y, rfl, hoC, by simp [hab], by simp, hxy⟩ (fun p hp' => ?_) fun b o hb' e => hk b o (fun q => hb' (by rw [q]; exact .head _)) e
  rw [List.mem_singleton.mp hp']; exact heC
theorem asg_cell {C cc : Addr} {cl : List (Str × Addr)} {scope : Scope} {x : Str} {px : Pos} {n : Nat} {P : Nat → Value → Heap → Prop} {P' : Nat → Value → Prop} (hP : ∀ i v h, P i v h → P' i v) (hkind : scope.kind = .function) (hx : (compEnvC scope cl C env).kindOf x = some .cell) (hc : cl.lookup x = some cc) (hne : C ≠ cc) :
    GAsg prog w A (.Name x px) (compEnvC scope cl C env) [C, cc] n P (Ok2 C cc) (Gcell C cc P') := by
  rintro i v s fr Q E hi hp ⟨oC, mC, oc, v₀, rfl, hN, hd⟩ _ hh hQ
  refine wpAny_assign_Name (wpAny_storeName_cell (c := cc) (v₀ := v₀) hkind hx hc ⟨oc, hh (cc, oc) (.tail _ (.head _)), hd⟩ fun h₃ hc₃ hs₃ => ?_)
  obtain ⟨oc', hec, hdc⟩ := hc₃
  refine hQ h₃ _ [(C, oC), (cc, oc')] ⟨oC, mC, oc', _, rfl, hN, hdc⟩ rfl ⟨oC, mC, oc', v, rfl, hN, hdc, hP i v _ hp⟩ (fun p hp' => ?_) fun b o hb e => hs₃.extBut b o (fun q => hb (by rw [q]; exact .tail _ (.head _))) e
  rcases List.mem_cons.mp hp' with q | q
  · rw [q]; exact hs₃.extBut _ _ hne (hh (C, oC) (.head _))
  · rw [List.mem_singleton.mp q]; exact hec
theorem NsObj.none_ns {h : Heap} {C : Addr} {m : Str → Option Value} (x : h.Ns C m) : ∃ o, h.get? C = some o ∧ NsObj o m := ns_obj x
/-- the list and the own dict are laid -/
theorem gc_open {elt : Expr} {target iter : Expr} {ifs : List Expr} {rest : List Comprehension} {scope : Scope} {cl : List (Str × Addr)} {pos : Pos} {I : Addr} {news : Fa} {RR : Value → Addr → Result → Shared → Prop}
    (hcell : ∀ y ∈ scope.names, y.2 ≠ .cell) (hkind : scope.kind = .function) (F : Fr h₀ L s.heap m) (N : News h₀ L s.heap news)
    (hself : ∀ (s' : Shared) (Q : Value → Shared → Prop) (E : Value → Shared → Prop), (∀ b o, s.heap.get? b = some o → s'.heap.get? b = some o) → Q (.ref I) s' → wpAny (model prog w) A (pyIter (.ref I)) Q E s')
    (go : ∀ D C oC h tk, D = s.heap.objs.size → C = s.heap.objs.size + 1 → NsObj oC (fun _ => none) → Fr h₀ L h m → News h₀ L h ((C, oC) :: (D, lst []) :: news) → h₀.get? C = none → C ≠ L → (∀ b o, s.heap.get? b = some o → h.get? b = some o) →
      codeAny (model prog w) A (.compLoop (.ListComp elt (⟨target, iter, ifs, 0⟩ :: rest) scope pos) 0 (.ref I) (.ref D) (compEnvC scope cl C env)) (RR (.ref D) C) { s with heap := h, toks := tk }) :
    wpAny (model prog w) A (newList []) (fun acc s₃ => wpAny (model prog w) A (newFunctionEnv scope env.globals cl [] env.qual none .none (some env)) (fun cenv s₄ =>
      codeAny (model prog w) A (.compStart (.ListComp elt (⟨target, iter, ifs, 0⟩ :: rest) scope pos) 0 (.ref I) acc { cenv with scope := relabel scope env }) (RR acc cenv.locals) s₄) E s₃) E s := by
  refine wpAny_newObj_type (wpAny_newFunctionEnv hcell (by intro y hy; simp at hy) (fun h₁ hns₁ hsb₁ => ?_) hkind)
  dsimp only at hns₁ hsb₁ ⊢
  generalize hH2 : s.heap.push { cls := .type "list", dict := none, data := .seq ([] : List Value).toArray } = H2 at hns₁ hsb₁ ⊢
  have hC : H2.objs.size = s.heap.objs.size + 1 := by rw [← hH2, Heap.size_push]
  have hDC : s.heap.objs.size ≠ H2.objs.size := by rw [hC]; exact Nat.ne_of_lt (Nat.lt_succ_self _)
  have below : ∀ b, b < s.heap.objs.size → b ≠ H2.objs.size := fun b hb => by rw [hC]; exact Nat.ne_of_lt (Nat.lt_succ_of_lt hb)
  have old : ∀ b o, s.heap.get? b = some o → h₁.get? b = some o := fun b o e => hsb₁.extBut b o (below b (Heap.lt_size e)) (Heap.get?_push_of_some _ (hH2 ▸ Heap.get?_push_of_some _ e))
  have hacc : h₁.get? s.heap.objs.size = some (lst []) := hsb₁.extBut _ _ hDC (Heap.get?_push_of_some _ (hH2 ▸ Heap.get?_push_size _ rfl))
  have fresh : ∀ a, s.heap.objs.size ≤ a → s.heap.get? a = none := fun a ha => by
    cases e : s.heap.get? a with
    | none => rfl
    | some o' => exact absurd (Heap.lt_size e) (Nat.not_lt.mpr ha)
  have fresh₀ : ∀ a, s.heap.objs.size ≤ a → h₀.get? a = none := fun a ha => by
    cases e : h₀.get? a with
    | none => rfl
    | some o' => have := F.keep a o' e; rw [fresh a ha] at this; cases this
  have hLlt : L < s.heap.objs.size := F.ns.lt
  have hDL : s.heap.objs.size ≠ L := Nat.ne_of_gt hLlt
  have hCL : H2.objs.size ≠ L := Ne.symm (below L hLlt)
  obtain ⟨oC, heC, hoC⟩ := ns_obj hns₁
  have hoC' : NsObj oC (fun _ => none) := by
    obtain ⟨es, ep, hd, hk, hf⟩ := hoC
    exact ⟨es, ep, hd, hk, fun z => by rw [hf z]; rfl⟩
  have N₁ : News h₀ L h₁ ((H2.objs.size, oC) :: (s.heap.objs.size, lst []) :: news) := fun p hp => by
    rcases List.mem_cons.mp hp with rfl | hp
    · exact ⟨heC, hCL, fresh₀ _ (by rw [hC]; exact Nat.le_succ _)⟩
    · rcases List.mem_cons.mp hp with rfl | hp
      · exact ⟨hacc, hDL, fresh₀ _ (Nat.le_refl _)⟩
      · exact ⟨old _ _ (N p hp).1, (N p hp).2⟩
  have fin := go s.heap.objs.size H2.objs.size oC h₁ (s.toks + ([] : List (Str × Value)).length) rfl hC hoC' (F.keeps old) N₁ (fresh₀ _ (by rw [hC]; exact Nat.le_succ _)) hCL old
  exact codeAny_compStart_list fin (hself _ _ _ old fin)
/-- the same, with one cell of its own -/
theorem gc_open_cell {elt : Expr} {target iter : Expr} {ifs : List Expr} {rest : List Comprehension} {scope : Scope} {cl : List (Str × Addr)} {pos : Pos} {I : Addr} {news : Fa} {x : Str} {RR : Value → Addr → Result → Shared → Prop}
    (hcs : ∀ k, cellsFrom k scope.names cl = (x, k) :: cl) (hpc : ∀ h, pushCells h scope.names = h.push { cls := .type "cell", data := .cell none }) (F : Fr h₀ L s.heap m) (N : News h₀ L s.heap news)
    (hself : ∀ (s' : Shared) (Q : Value → Shared → Prop) (E : Value → Shared → Prop), (∀ b o, s.heap.get? b = some o → s'.heap.get? b = some o) → Q (.ref I) s' → wpAny (model prog w) A (pyIter (.ref I)) Q E s')
    (go : ∀ D C cc oC h tk, D = s.heap.objs.size → C = s.heap.objs.size + 1 → cc = s.heap.objs.size + 2 → NsObj oC (fun _ => none) → Fr h₀ L h m → News h₀ L h ((C, oC) :: (cc, { cls := .type "cell", data := .cell none }) :: (D, lst []) :: news) → (∀ b ∈ [C, cc], h₀.get? b = none ∧ b ≠ L) → (∀ b o, s.heap.get? b = some o → h.get? b = some o) →
      codeAny (model prog w) A (.compLoop (.ListComp elt (⟨target, iter, ifs, 0⟩ :: rest) scope pos) 0 (.ref I) (.ref D) (compEnvC scope ((x, cc) :: cl) C env)) (RR (.ref D) C) { s with heap := h, toks := tk }) :
    wpAny (model prog w) A (newList []) (fun acc s₃ => wpAny (model prog w) A (newFunctionEnv scope env.globals cl [] env.qual none .none (some env)) (fun cenv s₄ =>
      codeAny (model prog w) A (.compStart (.ListComp elt (⟨target, iter, ifs, 0⟩ :: rest) scope pos) 0 (.ref I) acc { cenv with scope := relabel scope env }) (RR acc cenv.locals) s₄) E s₃) E s := by
  refine wpAny_newObj_type ?_
  simp only [newFunctionEnv, Option.isSome_some, if_true]
  refine wpAny_bind (wpAny_alloc ?_)
  refine wpAny_bind (wpAny_layCells _ (fun name kind cells => by cases hkc : kind == NameKind.cell <;> simp) _ _ _ _ ?_)
  rw [hcs, hpc]
  refine wpAny_bind (wpAny_pure (wpAny_pure ?_))
  dsimp only
  have size1 : (s.heap.push { cls := .type "list", dict := none, data := .seq ([] : List Value).toArray }).objs.size = s.heap.objs.size + 1 := by rw [Heap.size_push]
  have size2 : ((s.heap.push { cls := .type "list", dict := none, data := .seq ([] : List Value).toArray }).push { cls := .type "dict", data := .dict #[] }).objs.size = s.heap.objs.size + 2 := by rw [Heap.size_push, size1]
  have old : ∀ b o, s.heap.get? b = some o → (((s.heap.push { cls := .type "list", dict := none, data := .seq ([] : List Value).toArray }).push { cls := .type "dict", data := .dict #[] }).push { cls := .type "cell", data := .cell none }).get? b = some o :=
    fun b o e => Heap.get?_push_of_some _ (Heap.get?_push_of_some _ (Heap.get?_push_of_some _ e))
  have fresh : ∀ a, s.heap.objs.size ≤ a → s.heap.get? a = none := fun a ha => by
    cases e : s.heap.get? a with
    | none => rfl
    | some o' => exact absurd (Heap.lt_size e) (Nat.not_lt.mpr ha)
  have fresh₀ : ∀ a, s.heap.objs.size ≤ a → h₀.get? a = none := fun a ha => by
    cases e : h₀.get? a with
    | none => rfl
    | some o' => have := F.keep a o' e; rw [fresh a ha] at this; cases this
  have hLlt : L < s.heap.objs.size := F.ns.lt
  have fin := go s.heap.objs.size (s.heap.objs.size + 1) (s.heap.objs.size + 2) { cls := .type "dict", data := .dict #[] } (((s.heap.push { cls := .type "list", dict := none, data := .seq ([] : List Value).toArray }).push { cls := .type "dict", data := .dict #[] }).push { cls := .type "cell", data := .cell none }) s.toks rfl rfl rfl
    ⟨#[], 0, rfl, fun i hi => (by simp at hi), fun _ => rfl⟩ (F.keeps old) (fun p hp => by
      rcases List.mem_cons.mp hp with rfl | hp
      · exact ⟨Heap.get?_push_of_some _ (by rw [← size1]; exact Heap.get?_push_size _ rfl), Nat.ne_of_gt (Nat.lt_succ_of_lt hLlt), fresh₀ _ (Nat.le_succ _)⟩
      · rcases List.mem_cons.mp hp with rfl | hp
        · exact ⟨by rw [← size2]; exact Heap.get?_push_size _ rfl, Nat.ne_of_gt (Nat.lt_succ_of_lt (Nat.lt_succ_of_lt hLlt)), fresh₀ _ (Nat.le_add_right _ _)⟩
        · rcases List.mem_cons.mp hp with rfl | hp
          · exact ⟨Heap.get?_push_of_some _ (Heap.get?_push_of_some _ (Heap.get?_push_size _ rfl)), Nat.ne_of_gt hLlt, fresh₀ _ (Nat.le_refl _)⟩
          · exact ⟨old _ _ (N p hp).1, (N p hp).2⟩) (fun b hb => by
      rcases List.mem_cons.mp hb with rfl | hb
      · exact ⟨fresh₀ _ (Nat.le_succ _), Nat.ne_of_gt (Nat.lt_succ_of_lt hLlt)⟩
      · rw [List.mem_singleton.mp hb]
        exact ⟨fresh₀ _ (Nat.le_add_right _ _), Nat.ne_of_gt (Nat.lt_succ_of_lt (Nat.lt_succ_of_lt hLlt))⟩) old
  rw [size1, size2]
  exact codeAny_compStart_list fin (hself _ _ _ old fin)
end
end Mine
end
section
open PySem PySem.W PyProof.Rows PySem.Calls PyProof.Rows.LCg
namespace Mine
section
variable {prog : Program} {w : World} {A : Around} {s : Shared} {h₀ : Heap} {L : Addr} {m : Str → Option Value} {E : Value → Shared → Prop} {env : Env}
/-- a comprehension, its iterator made -/
def GBlk (prog : Program) (w : World) (A : Around) (E : Value → Shared → Prop) (env : Env) (e : Expr) (scope : Scope) (cl : List (Str × Addr)) (RR : Value → Addr → Result → Shared → Prop) (it : Value) (s₂ : Shared) : Prop :=
  wpAny (model prog w) A (newList []) (fun acc s₃ => wpAny (model prog w) A (newFunctionEnv scope env.globals cl [] env.qual none .none (some env)) (fun cenv s₄ =>
      codeAny (model prog w) A (.compStart e 0 it acc { cenv with scope := relabel scope env }) (RR acc cenv.locals) s₄) E s₃) E s₂
theorem gc_eval {elt : Expr} {g : Comprehension} {gs : List Comprehension} {scope : Scope} {cl : List (Str × Addr)} {pos : Pos} {Q : Value → Shared → Prop} (hg : g.is_async = 0)
    (hclos : closureFor scope env = pure cl) (hkind : scope.kind = .function) (hnames : ∀ y ∈ scope.names, y.2 = .local → scope.names.lookup y.1 = some .local)
    (h : wpAny (model prog w) A (eval g.iter env) (fun xv s₁ => wpAny (model prog w) A (pyIter xv) (GBlk prog w A E env (.ListComp elt (g :: gs) scope pos) scope cl (compPost (model prog w) A E none Q)) E s₁) E s)
    (hs : ∀ x, foldedSetIterable g.iter env x = pure x := by intro _; rfl) :
    wpAny (model prog w) A (eval (.ListComp elt (g :: gs) scope pos) env) Q E s := by
  k_with_none
  rw [eval_ListComp]
  obtain ⟨gt, gi, gf, ga⟩ := g
  dsimp only at hg
  subst hg
  exact wpAny_comprehension_free (use := none) rfl hs hclos hkind hnames h
theorem gc_assign {elt : Expr} {g : Comprehension} {gs : List Comprehension} {scope : Scope} {cl : List (Str × Addr)} {y : Str} {py pos spos : Pos} {Q : Flow → Shared → Prop} (_hy : env.kindOf y = some .local) (hg : g.is_async = 0)
    (hsw : swapsWith (.ListComp elt (g :: gs) scope pos) (some (.Name y py)) spos.line env = pure true)
    (hclos : closureFor scope env = pure cl) (hkind : scope.kind = .function) (hnames : ∀ y ∈ scope.names, y.2 = .local → scope.names.lookup y.1 = some .local)
    (h : wpAny (model prog w) A (eval g.iter env) (fun xv s₁ => wpAny (model prog w) A (pyIter xv) (GBlk prog w A E env (.ListComp elt (g :: gs) scope pos) scope cl (compPost (model prog w) A E (some (assign (.Name y py) env)) (fun _ s' => Q .next s'))) E s₁) E s)
    (hs : ∀ x, foldedSetIterable g.iter env x = pure x := by intro _; rfl) :
    wpAny (model prog w) A (exec (.Assign [.Name y py] (.ListComp elt (g :: gs) scope pos) spos) env) Q E s := by
  rw [exec_Assign_Name_used _ _ _ _ hsw]
  obtain ⟨gt, gi, gf, ga⟩ := g
  dsimp only at hg
  subst hg
  refine wpAny_bind (wpAny_standAt (wpAny_bind ?_))
  show wpAny _ A (do let _ ← comprehension (.ListComp elt (⟨gt, gi, gf, 0⟩ :: gs) scope pos) scope env _ (newList []) false (eval gi env) (some (assign (.Name y py) env))) _ _ s
  exact wpAny_bind (wpAny_mono (wpAny_comprehension_free (use := some (assign (.Name y py) env)) (Q := fun _ s' => Q .next s') rfl hs hclos hkind hnames h) (fun _ s' hq => wpAny_pure (wpAny_pure hq)) fun _ _ e => e)
theorem gc_finE {D C : Addr} {oC : Obj} {mC : Str → Option Value} {r : Fa} {h : Heap} {tk : Nat} {Q : Value → Shared → Prop} (F : Fr h₀ L h m) (hC : h.get? C = some oC) (hN : NsObj oC mC) (N : News h₀ L h r) (hr : ∀ p ∈ r, p.1 ≠ C) (hCL : C ≠ L) (hC₀ : h₀.get? C = none)
    (k : ∀ h', Fr h₀ L h' m → News h₀ L h' r → Q (.ref D) { s with heap := h', toks := tk }) : compPost (model prog w) A E none Q (.ref D) C (.ok .next) { s with heap := h, toks := tk } :=
  ⟨mC, hN.ns hC, fun h' hs => k h' (F.change hs hCL hC₀) fun p hp => ⟨hs.extBut _ _ (hr p hp) (N p hp).1, (N p hp).2⟩⟩
theorem gc_finA {D C : Addr} {oC : Obj} {mC : Str → Option Value} {r : Fa} {h : Heap} {tk : Nat} {y : Str} {py : Pos} (F : Fr h₀ L h m) (hC : h.get? C = some oC) (hN : NsObj oC mC) (N : News h₀ L h r) (hr : ∀ p ∈ r, p.1 ≠ C) (hCL : C ≠ L) (hC₀ : h₀.get? C = none)
    (hLe : env.locals = L) (hy : env.kindOf y = some .local) (hp : (env.scope.kind == .class || (env.scope.kind == .module && env.locals != env.globals)) = false) {Q' : Shared → Prop}
    (k : ∀ h' tk', Fr h₀ L h' (fun z => if z = y then some (.ref D) else m z) → News h₀ L h' r → Q' { s with heap := h', toks := tk' }) : compPost (model prog w) A E (some (assign (.Name y py) env)) (fun _ s' => Q' s') (.ref D) C (.ok .next) { s with heap := h, toks := tk } := by
  subst hLe
  show wpAny _ A (assign (.Name y py) env (.ref D)) _ _ _
  refine wpAny_assign_Name (wpAny_storeName_local hy F.ns (fun h₂ hn₂ hs₂ => ?_) hp)
  have hL₀ : h₀.get? env.locals = none := Heap.get?_none_of_le F.above
  have F₂ : Fr h₀ env.locals h₂ (fun z => if z = y then some (.ref D) else m z) := ⟨hn₂, fun b o e => hs₂.extBut b o (fun q => by rw [q, hL₀] at e; cases e) (F.keep b o e), F.above⟩
  refine ⟨mC, (hN.ns hC).sameBut hs₂ hCL, fun h' hs => k h' _ (F₂.change hs hCL hC₀) fun p hp => ?_⟩
  have z : h₂.get? p.1 = some p.2 := hs₂.extBut _ _ (N p hp).2.1 (N p hp).1
  exact ⟨hs.extBut _ _ (hr p hp) z, (N p hp).2⟩
section
variable {σ : Type} {target iter elt : Expr} {scope : Scope} {cl : List (Str × Addr)} {pos : Pos} {I : Addr} {fp wr : List Addr} {n : Nat} {P Md : Nat → Value → Heap → Prop} {St : Nat → Heap → Prop} {keep : Fa} {G : Addr → Nat → Fa → Prop} {RR : Value → Addr → Result → Shared → Prop}
theorem src_off {D : Addr} (S : GSrc prog w A target h₀ L s I fp wr n P Md St keep) (h : s.heap.objs.size ≤ D) : D ∉ fp := fun hm => absurd (S.lt D hm).1 (Nat.not_lt.mpr h)
theorem gcA (S : GSrc prog w A target h₀ L s I fp wr n P Md St keep) (hcell : ∀ y ∈ scope.names, y.2 ≠ .cell) (hkind : scope.kind = .function) (F : Fr h₀ L s.heap m) (nw : σ → Fa) (c₀ : σ) (N : News h₀ L s.heap (nw c₀ ++ keep)) (hoff : ∀ p ∈ nw c₀, p.1 ∉ fp)
    (asg : ∀ C, GAsg prog w A target (compEnvC scope cl C env) [C] n P (Ok1 C) (G C)) (J : Nat → List Value → σ → Prop) (hJ : J 0 [] c₀) (hz : ∀ i ys c, J i ys c → ys.length ≤ sizeLine)
    (turn : ∀ E D C i ys c h tk own oC, i < n → J i ys c → G C i [(C, oC)] → D ≠ C → D ∉ fp → C ∉ fp → (∀ p ∈ nw c, p.1 ∉ fp ∧ p.1 ∉ [C] ∧ p.1 ≠ D) → (∀ p ∈ own, p.1 ∈ fp) → (∀ p ∈ keep, p ∈ own) → St (i + 1) h → Fr h₀ L h m → News h₀ L h ((C, oC) :: (D, lst ys) :: (nw c ++ own)) →
      wpAny (model prog w) A (eval elt (compEnvC scope cl C env)) (fun y s₂ => GEl h₀ L m { s with heap := h, toks := tk } [(C, oC)] nw D ys own fp [C] (J (i + 1)) (ys ++ [y]) s₂) E { s with heap := h, toks := tk })
    (fin : ∀ D C ys c h tk oC mC, J n ys c → NsObj oC mC → Fr h₀ L h m → News h₀ L h ((C, oC) :: (D, lst ys) :: (nw c ++ keep)) → (∀ p ∈ (D, lst ys) :: (nw c ++ keep), p.1 ≠ C) → (∀ p ∈ nw c₀ ++ keep, p.1 < D) → C ≠ L → h₀.get? C = none → RR (.ref D) C (.ok .next) { s with heap := h, toks := tk }) :
    GBlk prog w A E env (.ListComp elt [⟨target, iter, [], 0⟩] scope pos) scope cl RR (.ref I) s := by
  refine gc_open hcell hkind F N S.self fun D C oC h tk hD hC hoC F' N' hC₀ hCL old => ?_
  have hDf : D ∉ fp := src_off S (by rw [hD]; exact Nat.le_refl _)
  have hCf : C ∉ fp := src_off S (by rw [hC]; exact Nat.le_succ _)
  have hDC : D ≠ C := by rw [hD, hC]; exact Nat.ne_of_lt (Nat.lt_succ_self _)
  have ltD : ∀ p ∈ nw c₀ ++ keep, p.1 < D := fun p hp => by rw [hD]; exact Heap.lt_size (N p hp).1
  refine gc_list (s := { s with heap := h, toks := tk }) (code := .compLoop (.ListComp elt [⟨target, iter, [], 0⟩] scope pos) 0 (.ref I) (.ref D) (compEnvC scope cl C env)) gl_list S.W (asg C) nw keep J [] c₀ [(C, oC)] (fun b hb => ?_) (fun hm => (S.lt L hm).2 rfl) S.wr0 S.keepok hDf (by simpa using hDC) (S.W.frame _ _ _ S.st fun b _ o e => old b o e) F' N' (fun p hp => ⟨hoff p hp, ?_, ?_⟩) ⟨oC, _, rfl, hoC⟩ rfl hJ hz ?_ ?_
  · rw [List.mem_singleton.mp hb]; exact ⟨hCf, hCL, hC₀⟩
  · intro e
    have z := ltD p (List.mem_append_left _ hp)
    rw [List.mem_singleton.mp e, hC, hD] at z
    exact absurd z (Nat.not_lt.mpr (Nat.le_succ _))
  · exact Nat.ne_of_lt (ltD p (List.mem_append_left _ hp))
  · rintro E i ys c h tk own fr hi hJ' ⟨oC', mC', rfl, hN'⟩ _ hG hof hown hkown _ st' F' N'
    exact turn E D C i ys c h tk own oC' hi hJ' hG hDC hDf hCf hof hown hkown st' F' N'
  · rintro ys c h tk fr hJ' ⟨oC', mC', rfl, hN'⟩ _ hof F' N'
    refine fin D C ys c h tk oC' mC' hJ' hN' F' N' (fun p hp => ?_) ltD hCL hC₀
    rcases List.mem_cons.mp hp with q | q
    · rw [q]; exact hDC
    · rcases List.mem_append.mp q with q | q
      · exact fun e => (hof p q).2.1 (by rw [e]; simp)
      · exact fun e => hCf (e ▸ (S.keepok p q).1)
theorem gcB {ct : Expr} (S : GSrc prog w A target h₀ L s I fp wr n P Md St keep) (hcell : ∀ y ∈ scope.names, y.2 ≠ .cell) (hkind : scope.kind = .function) (F : Fr h₀ L s.heap m) (nw : σ → Fa) (c₀ : σ) (N : News h₀ L s.heap (nw c₀ ++ keep)) (hoff : ∀ p ∈ nw c₀, p.1 ∉ fp)
    (asg : ∀ C, GAsg prog w A target (compEnvC scope cl C env) [C] n P (Ok1 C) (G C)) (J : Nat → List Value → σ → Prop) (hJ : J 0 [] c₀) (hz : ∀ i ys c, J i ys c → ys.length ≤ sizeLine)
    (turn : ∀ E D C i ys c h tk own oC, i < n → J i ys c → G C i [(C, oC)] → D ≠ C → D ∉ fp → C ∉ fp → (∀ p ∈ nw c, p.1 ∉ fp ∧ p.1 ∉ [C] ∧ p.1 ≠ D) → (∀ p ∈ own, p.1 ∈ fp) → (∀ p ∈ keep, p ∈ own) → St (i + 1) h → Fr h₀ L h m → News h₀ L h ((C, oC) :: (D, lst ys) :: (nw c ++ own)) →
      wpAny (model prog w) A (isTrue ct (compEnvC scope cl C env) (eval ct (compEnvC scope cl C env))) (fun ok s₃ => if ok = true then wpAny (model prog w) A (eval elt (compEnvC scope cl C env)) (fun y s₂ => GEl h₀ L m { s with heap := h, toks := tk } [(C, oC)] nw D ys own fp [C] (J (i + 1)) (ys ++ [y]) s₂) E s₃
        else GEl h₀ L m { s with heap := h, toks := tk } [(C, oC)] nw D ys own fp [C] (J (i + 1)) ys s₃) E { s with heap := h, toks := tk })
    (fin : ∀ D C ys c h tk oC mC, J n ys c → NsObj oC mC → Fr h₀ L h m → News h₀ L h ((C, oC) :: (D, lst ys) :: (nw c ++ keep)) → (∀ p ∈ (D, lst ys) :: (nw c ++ keep), p.1 ≠ C) → (∀ p ∈ nw c₀ ++ keep, p.1 < D) → C ≠ L → h₀.get? C = none → RR (.ref D) C (.ok .next) { s with heap := h, toks := tk }) :
    GBlk prog w A E env (.ListComp elt [⟨target, iter, [ct], 0⟩] scope pos) scope cl RR (.ref I) s := by
  refine gc_open hcell hkind F N S.self fun D C oC h tk hD hC hoC F' N' hC₀ hCL old => ?_
  have hDf : D ∉ fp := src_off S (by rw [hD]; exact Nat.le_refl _)
  have hCf : C ∉ fp := src_off S (by rw [hC]; exact Nat.le_succ _)
  have hDC : D ≠ C := by rw [hD, hC]; exact Nat.ne_of_lt (Nat.lt_succ_self _)
  have ltD : ∀ p ∈ nw c₀ ++ keep, p.1 < D := fun p hp => by rw [hD]; exact Heap.lt_size (N p hp).1
  refine gc_test (s := { s with heap := h, toks := tk }) (code := .compLoop (.ListComp elt [⟨target, iter, [ct], 0⟩] scope pos) 0 (.ref I) (.ref D) (compEnvC scope cl C env)) gl_test S.W (asg C) nw keep J [] c₀ [(C, oC)] (fun b hb => ?_) (fun hm => (S.lt L hm).2 rfl) S.wr0 S.keepok hDf (by simpa using hDC) (S.W.frame _ _ _ S.st fun b _ o e => old b o e) F' N' (fun p hp => ⟨hoff p hp, ?_, ?_⟩) ⟨oC, _, rfl, hoC⟩ rfl hJ hz ?_ ?_
  · rw [List.mem_singleton.mp hb]; exact ⟨hCf, hCL, hC₀⟩
  · intro e
    have z := ltD p (List.mem_append_left _ hp)
    rw [List.mem_singleton.mp e, hC, hD] at z
    exact absurd z (Nat.not_lt.mpr (Nat.le_succ _))
  · exact Nat.ne_of_lt (ltD p (List.mem_append_left _ hp))
  · rintro E i ys c h tk own fr hi hJ' ⟨oC', mC', rfl, hN'⟩ _ hG hof hown hkown _ st' F' N'
    exact turn E D C i ys c h tk own oC' hi hJ' hG hDC hDf hCf hof hown hkown st' F' N'
  · rintro ys c h tk fr hJ' ⟨oC', mC', rfl, hN'⟩ _ hof F' N'
    refine fin D C ys c h tk oC' mC' hJ' hN' F' N' (fun p hp => ?_) ltD hCL hC₀
    rcases List.mem_cons.mp hp with q | q
    · rw [q]; exact hDC
    · rcases List.mem_append.mp q with q | q
      · exact fun e => (hof p q).2.1 (by rw [e]; simp)
      · exact fun e => hCf (e ▸ (S.keepok p q).1)
theorem gcC {x : Str} {G : Addr → Addr → Nat → Fa → Prop} (S : GSrc prog w A target h₀ L s I fp wr n P Md St keep) (hcs : ∀ k, cellsFrom k scope.names cl = (x, k) :: cl) (hpc : ∀ h, pushCells h scope.names = h.push { cls := .type "cell", data := .cell none }) (F : Fr h₀ L s.heap m) (nw : σ → Fa) (c₀ : σ) (N : News h₀ L s.heap (nw c₀ ++ keep)) (hoff : ∀ p ∈ nw c₀, p.1 ∉ fp)
    (asg : ∀ C cc, C ≠ cc → GAsg prog w A target (compEnvC scope ((x, cc) :: cl) C env) [C, cc] n P (Ok2 C cc) (G C cc)) (J : Nat → List Value → σ → Prop) (hJ : J 0 [] c₀) (hz : ∀ i ys c, J i ys c → ys.length ≤ sizeLine)
    (turn : ∀ E D C cc i ys c h tk own oC oc, i < n → J i ys c → G C cc i [(C, oC), (cc, oc)] → (∀ p ∈ nw c, p.1 ∉ fp ∧ p.1 ∉ [C, cc] ∧ p.1 ≠ D) → D ≠ C → D ≠ cc → C ≠ cc → D ∉ fp → C ∉ fp → cc ∉ fp → (∀ p ∈ own, p.1 ∈ fp) → (∀ p ∈ keep, p ∈ own) → St (i + 1) h → Fr h₀ L h m → News h₀ L h ((C, oC) :: (cc, oc) :: (D, lst ys) :: (nw c ++ own)) →
      wpAny (model prog w) A (eval elt (compEnvC scope ((x, cc) :: cl) C env)) (fun y s₂ => GEl h₀ L m { s with heap := h, toks := tk } [(C, oC), (cc, oc)] nw D ys own fp [C, cc] (J (i + 1)) (ys ++ [y]) s₂) E { s with heap := h, toks := tk })
    (fin : ∀ D C ys c h tk oC mC, J n ys c → NsObj oC mC → Fr h₀ L h m → News h₀ L h ((C, oC) :: (D, lst ys) :: (nw c ++ keep)) → (∀ p ∈ (D, lst ys) :: (nw c ++ keep), p.1 ≠ C) → (∀ p ∈ nw c₀ ++ keep, p.1 < D) → C ≠ L → h₀.get? C = none → RR (.ref D) C (.ok .next) { s with heap := h, toks := tk }) :
    GBlk prog w A E env (.ListComp elt [⟨target, iter, [], 0⟩] scope pos) scope cl RR (.ref I) s := by
  refine gc_open_cell hcs hpc F N S.self fun D C cc oC h tk hD hC hcc hoC F' N' hn old => ?_
  have hDf : D ∉ fp := src_off S (by rw [hD]; exact Nat.le_refl _)
  have hCf : C ∉ fp := src_off S (by rw [hC]; exact Nat.le_succ _)
  have hcf : cc ∉ fp := src_off S (by rw [hcc]; exact Nat.le_add_right _ _)
  have hDC : D ≠ C := by rw [hD, hC]; exact Nat.ne_of_lt (Nat.lt_succ_self _)
  have hDc : D ≠ cc := by rw [hD, hcc]; exact Nat.ne_of_lt (Nat.lt_succ_of_lt (Nat.lt_succ_self _))
  have hCc : C ≠ cc := by rw [hC, hcc]; exact Nat.ne_of_lt (Nat.lt_succ_self _)
  have ltD : ∀ p ∈ nw c₀ ++ keep, p.1 < D := fun p hp => by rw [hD]; exact Heap.lt_size (N p hp).1
  have hCn := hn C (.head _)
  refine gc_list (s := { s with heap := h, toks := tk }) (code := .compLoop (.ListComp elt [⟨target, iter, [], 0⟩] scope pos) 0 (.ref I) (.ref D) (compEnvC scope ((x, cc) :: cl) C env)) gl_list S.W (asg C cc hCc) nw keep J [] c₀ [(C, oC), (cc, _)] (fun b hb => ?_) (fun hm => (S.lt L hm).2 rfl) S.wr0 S.keepok hDf ?_ (S.W.frame _ _ _ S.st fun b _ o e => old b o e) F' N' (fun p hp => ⟨hoff p hp, ?_, ?_⟩) ⟨oC, _, _, _, rfl, hoC, rfl⟩ rfl hJ hz ?_ ?_
  · refine ⟨?_, (hn b hb).2, (hn b hb).1⟩
    rcases List.mem_cons.mp hb with q | q
    · rw [q]; exact hCf
    · rw [List.mem_singleton.mp q]; exact hcf
  · intro q
    rcases List.mem_cons.mp q with q | q
    · exact hDC q
    · exact hDc (List.mem_singleton.mp q)
  · intro e
    have z := ltD p (List.mem_append_left _ hp)
    rcases List.mem_cons.mp e with q | q
    · rw [q, hC, hD] at z
      exact absurd z (Nat.not_lt.mpr (Nat.le_succ _))
    · rw [List.mem_singleton.mp q, hcc, hD] at z
      exact absurd z (Nat.not_lt.mpr (Nat.le_add_right _ _))
  · exact Nat.ne_of_lt (ltD p (List.mem_append_left _ hp))
  · rintro E i ys c h tk own fr hi hJ' ⟨oC', mC', oc', v', rfl, hN', hd'⟩ _ hG hof hown hkown _ st' F' N'
    exact turn E D C cc i ys c h tk own oC' oc' hi hJ' hG hof hDC hDc hCc hDf hCf hcf hown hkown st' F' N'
  · rintro ys c h tk fr hJ' ⟨oC', mC', oc', v', rfl, hN', hd'⟩ _ hof F' N'
    refine fin D C ys c h tk oC' mC' hJ' hN' F' (newsSub N' fun p hp => ?_) (fun p hp => ?_) ltD hCn.2 hCn.1
    · rcases List.mem_cons.mp hp with q | q
      · rw [q]; exact .head _
      · exact .tail _ (.tail _ q)
    rcases List.mem_cons.mp hp with q | q
    · rw [q]; exact hDC
    · rcases List.mem_append.mp q with q | q
      · exact fun e => (hof p q).2.1 (by rw [e]; simp)
      · exact fun e => hCf (e ▸ (S.keepok p q).1)
end
end
end Mine
end
section
open PySem PySem.W PyProof.Rows PySem.Calls PyProof.Rows.LCg
namespace Mine
section
variable {prog : Program} {w : World} {A : Around} {s : Shared} {h₀ : Heap} {L : Addr} {m : Str → Option Value} {E : Value → Shared → Prop} {news : Fa}
theorem fr_new {b : Addr} {h : Heap} (F : Fr h₀ L h m) (hb : h.objs.size ≤ b) : h₀.get? b = none := ktu_new F hb
theorem it_range {r : Addr} {a b : Int} {t u v : Tok} {n : Nat} {K : Value → Shared → Prop} (hh : A.handled = none) (F : Fr h₀ L s.heap m) (N : News h₀ L s.heap news) (hr : IsRange s.heap r a b 1 t u v) (hsm : Builtin.Range.small a b 1 = true) (hn : Builtin.Range.rangeSize a b 1 = ((n : Nat) : Int))
    (k : ∀ I h Md St, (∀ p ∈ news, p.1 < I) → Fr h₀ L h m → News h₀ L h news → (∀ x px, GSrc prog w A (.Name x px) h₀ L { s with heap := h } I [I] [I] n (fun i v _ => ∃ t, v = .int (a + (i : Int)) t) Md St []) → K (.ref I) { s with heap := h }) : wpAny (model prog w) A (pyIter (.ref r)) K E s := by
  k_with_none
  refine wpAny_pyIter_range hr hsm ?_
  refine k _ _ _ _ (fun p hp => Heap.lt_size (N p hp).1) (F.keeps fun _ _ e => Heap.get?_push_of_some _ e) (N.grown fun _ _ e => Heap.get?_push_of_some _ e) fun x px => ⟨KTurns.ofWalks (range_walks hh a n) fun i v s Q E _ hQ => wpAny_pure hQ, ?_, fun s' Q E old hQ => ?_, fun b hb => ?_, fun b hb => ?_, fun i h st b hb => ?_, fun p hp => nomatch hp⟩
  · show IsRangeIter _ _ _ _ _
    rw [hn]; simpa using Heap.get?_push_size _ rfl
  · refine (range_walks hh a n).self 0 s' Q E ?_ hQ
    have z : (s.heap.push { cls := .type "range_iterator", data := .fields #[rawInt a, rawInt (Builtin.Range.rangeSize a b 1), rawInt 1] }).get? s.heap.objs.size = some _ := Heap.get?_push_size _ rfl
    have := old _ _ z
    rw [hn] at this
    show IsRangeIter _ _ _ _ _
    simpa using this
  · rw [List.mem_singleton.mp hb]
    refine ⟨?_, Nat.ne_of_gt F.ns.lt⟩
    show s.heap.objs.size < (s.heap.push _).objs.size
    rw [Heap.size_push]; exact Nat.lt_succ_self _
  · rw [List.mem_singleton.mp hb]; exact fr_new F (Nat.le_refl _)
  · rw [List.mem_singleton.mp hb]; exact ⟨_, st⟩
theorem it_list {l : Addr} {vs : List Value} {nn : Nat} {K : Value → Shared → Prop} (hh : A.handled = none) (F : Fr h₀ L s.heap m) (N : News h₀ L s.heap news) (hl : (l, W.listOf vs.toArray nn) ∈ news)
    (k : ∀ I h Md St, (∀ p ∈ news, p.1 < I) → Fr h₀ L h m → News h₀ L h news → (∀ x px, GSrc prog w A (.Name x px) h₀ L { s with heap := h } I [I, l] [I] vs.length (fun i v _ => vs[i]? = some v) Md St [(l, W.listOf vs.toArray nn)]) → K (.ref I) { s with heap := h }) : wpAny (model prog w) A (pyIter (.ref l)) K E s := by
  have hls := News.isList N hl
  have hlt : l < s.heap.objs.size := Heap.lt_size (N _ hl).1
  have hne : l ≠ s.heap.objs.size := Nat.ne_of_lt hlt
  refine wpAny_pyIter_list hls ?_
  have Wk := Walks.list (prog := prog) (w := w) hh s.heap.objs.size l hne vs.toArray
  rw [show vs.toArray.size = vs.length from List.size_toArray ..] at Wk
  have st : (s.heap.push { cls := .type "list_iterator", data := .fields #[.ref l, .int 0 0] }).IsListIter s.heap.objs.size l 0 ∧ (s.heap.push { cls := .type "list_iterator", data := .fields #[.ref l, .int 0 0] }).IsList l vs.toArray :=
    ⟨⟨_, Heap.get?_push_size _ rfl, rfl, rfl⟩, hls.at fun o e => Heap.get?_push_of_some _ e⟩
  have KT : ∀ x px, KTurns prog w A (.Name x px) s.heap.objs.size [s.heap.objs.size, l] [s.heap.objs.size] vs.length (fun i v _ => vs[i]? = some v) (fun i v h => vs[i]? = some v ∧ (h.IsListIter s.heap.objs.size l (i + 1) ∧ h.IsList l vs.toArray)) (fun i h => h.IsListIter s.heap.objs.size l i ∧ h.IsList l vs.toArray) := by
    intro x px
    have := KTurns.ofWalks (target := .Name x px) Wk fun i v s Q E _ hQ => wpAny_pure hQ
    simpa using this
  refine k _ _ _ _ (fun p hp => Heap.lt_size (N p hp).1) (F.keeps fun _ _ e => Heap.get?_push_of_some _ e) (N.grown fun _ _ e => Heap.get?_push_of_some _ e) fun x px => ⟨KT x px, st, fun s' Q E old hQ => ?_, fun b hb => ?_, fun b hb => ?_, fun i h st b hb => ?_, fun p hp => ?_⟩
  · exact Wk.self 0 s' Q E ⟨st.1.at fun o e => old _ o e, st.2.at fun o e => old _ o e⟩ hQ
  · have : b ≤ s.heap.objs.size ∧ b ≠ L := by
      rcases List.mem_cons.mp hb with q | q
      · exact ⟨Nat.le_of_eq q, q ▸ Nat.ne_of_gt F.ns.lt⟩
      · have q := List.mem_singleton.mp q
        exact ⟨q ▸ Nat.le_of_lt hlt, q ▸ (N _ hl).2.1⟩
    refine ⟨?_, this.2⟩
    show b < (s.heap.push _).objs.size
    rw [Heap.size_push]; exact Nat.lt_succ_of_le this.1
  · rw [List.mem_singleton.mp hb]; exact fr_new F (Nat.le_refl _)
  · rw [List.mem_singleton.mp hb]; obtain ⟨o, e, _⟩ := st.1; exact ⟨o, e⟩
  · rw [List.mem_singleton.mp hp]
    exact ⟨by simp, by simpa using hne⟩
theorem it_text {xt : Str} {tx : Tok} {K : Value → Shared → Prop} (hh : A.handled = none) (F : Fr h₀ L s.heap m) (N : News h₀ L s.heap news) (ha : xt.cps.all (· < 128) = true)
    (k : ∀ I h Md St, (∀ p ∈ news, p.1 < I) → Fr h₀ L h m → News h₀ L h news → (∀ x px, GSrc prog w A (.Name x px) h₀ L { s with heap := h } I [I] [I] xt.cps.size (fun i v _ => SignAt xt i v) Md St []) → K (.ref I) { s with heap := h }) : wpAny (model prog w) A (pyIter (.str xt tx)) K E s := by
  refine wpAny_pyIter_ascii ha ?_
  have st : (s.heap.push { cls := .type "str_ascii_iterator", data := .fields #[.str xt tx, .int 0 0] }).IsStrIter s.heap.objs.size "str_ascii_iterator" xt tx 0 := ⟨_, Heap.get?_push_size _ rfl, rfl, rfl⟩
  refine k _ _ _ _ (fun p hp => Heap.lt_size (N p hp).1) (F.keeps fun _ _ e => Heap.get?_push_of_some _ e) (N.grown fun _ _ e => Heap.get?_push_of_some _ e) fun x px => ⟨KTurns.ofWalks (Walks.strAscii hh _ xt tx) fun i v s Q E _ hQ => wpAny_pure hQ, st, fun s' Q E old hQ => ?_, fun b hb => ?_, fun b hb => ?_, fun i h st b hb => ?_, fun p hp => nomatch hp⟩
  · exact (Walks.strAscii hh _ xt tx).self 0 s' Q E (by obtain ⟨o, ho, r⟩ := st; exact ⟨o, old _ o ho, r⟩) hQ
  · rw [List.mem_singleton.mp hb]
    refine ⟨?_, Nat.ne_of_gt F.ns.lt⟩
    show s.heap.objs.size < (s.heap.push _).objs.size
    rw [Heap.size_push]; exact Nat.lt_succ_self _
  · rw [List.mem_singleton.mp hb]; exact fr_new F (Nat.le_refl _)
  · rw [List.mem_singleton.mp hb]; obtain ⟨o, e, _⟩ := st; exact ⟨o, e⟩
theorem it_enum {l : Addr} {vs : List Value} {nn : Nat} {K : Value → Shared → Prop} (hh : A.handled = none) (F : Fr h₀ L s.heap m) (N : News h₀ L s.heap news) (hl : (l, W.listOf vs.toArray nn) ∈ news)
    (k : ∀ I e h Md St, (∀ p ∈ news, p.1 < I) → (∀ p ∈ news, p.1 < e) → Fr h₀ L h m → News h₀ L h news → (∀ elts kk tp, GSrc prog w A (.Tuple elts kk tp) h₀ L { s with heap := h } e [e, I, l] [e, I] vs.length (fun i v h => ∃ T vals, v = .ref T ∧ (∃ t x, vs.toArray[i]? = some x ∧ vals = #[.int i t, x]) ∧ h.IsTuple T vals) Md St [(l, W.listOf vs.toArray nn)]) → K (.ref e) { s with heap := h }) :
    wpAny (model prog w) A (call (.type "enumerate") [.ref l]) (fun xv s₁ => wpAny (model prog w) A (pyIter xv) K E s₁) E s := by
  have hls := News.isList N hl
  have hlt : l < s.heap.objs.size := Heap.lt_size (N _ hl).1
  refine call_enumerate_list hls fun h' hE hI hsz hk => ?_
  refine wpAny_pyIter_enum hE ?_
  have W0 := WalksT.enumerate (prog := prog) (w := w) hh (s.heap.objs.size + 1) s.heap.objs.size l (Nat.succ_ne_self _) (ktu_ne 1 hlt) (Nat.ne_of_lt hlt) vs.toArray
  rw [show vs.toArray.size = vs.length from List.size_toArray ..] at W0
  have hl' : h'.IsList l vs.toArray := hls.at fun o e => hk l o e
  refine k s.heap.objs.size (s.heap.objs.size + 1) h' _ _ (fun p hp => Heap.lt_size (N p hp).1) (fun p hp => Nat.lt_succ_of_lt (Heap.lt_size (N p hp).1)) (F.keeps hk) (N.grown hk) fun elts kk tp => ⟨KTurns.ofWalksU (elts := elts) (k := kk) (pos := tp) W0.toU, ⟨⟨.none, hE⟩, hI, hl'⟩, fun s' Q E old hQ => ?_, fun b hb => ?_, fun b hb => ?_, fun i h st b hb => ?_, fun p hp => ?_⟩
  · exact W0.self 0 s' Q E ⟨⟨.none, old _ _ hE⟩, hI.at fun o e => old _ o e, hl'.at fun o e => old _ o e⟩ hQ
  · have : b ≤ s.heap.objs.size + 1 ∧ b ≠ L := by
      rcases List.mem_cons.mp hb with q | q
      · exact ⟨Nat.le_of_eq q, q ▸ Nat.ne_of_gt (Nat.lt_succ_of_lt F.ns.lt)⟩
      · rcases List.mem_cons.mp q with q | q
        · exact ⟨q ▸ Nat.le_succ _, q ▸ Nat.ne_of_gt F.ns.lt⟩
        · have q := List.mem_singleton.mp q
          exact ⟨q ▸ Nat.le_of_lt (Nat.lt_succ_of_lt hlt), q ▸ (N _ hl).2.1⟩
    refine ⟨?_, this.2⟩
    show b < h'.objs.size
    rw [hsz]; exact Nat.lt_succ_of_le this.1
  · rcases List.mem_cons.mp hb with q | q
    · rw [q]; exact fr_new F (Nat.le_succ _)
    · rw [List.mem_singleton.mp q]; exact fr_new F (Nat.le_refl _)
  · obtain ⟨⟨old, he⟩, ⟨o, e, _⟩, _⟩ := st
    rcases List.mem_cons.mp hb with q | q
    · rw [q]; exact ⟨_, he⟩
    · rw [List.mem_singleton.mp q]; exact ⟨o, e⟩
  · rw [List.mem_singleton.mp hp]
    refine ⟨by simp, fun q => ?_⟩
    rcases List.mem_cons.mp q with q | q
    · exact ktu_ne 1 hlt q
    · exact Nat.ne_of_lt hlt (List.mem_singleton.mp q)
end
end Mine
end
section
open PySem PySem.W PyProof.Rows PySem.Calls PyProof.Rows.LCg
namespace Mine
section
variable {prog : Program} {w : World} {A : Around} {s : Shared} {h₀ : Heap} {L : Addr} {m : Str → Option Value} {E : Value → Shared → Prop} {env : Env} {news : Fa}
def GOne (h₀ : Heap) (L : Addr) (m : Str → Option Value) (s : Shared) (all : Fa) (R : Value → Prop) (y : Value) (s₂ : Shared) : Prop :=
  ∃ h' tk, s₂ = { s with heap := h', toks := tk } ∧ Fr h₀ L h' m ∧ News h₀ L h' all ∧ R y
theorem GOne.intro {s : Shared} {all more : Fa} {R : Value → Prop} {y : Value} {h' : Heap} {tk : Nat} (F : Fr h₀ L h' m) (N : News h₀ L h' more) (hs : ∀ p ∈ all, p ∈ more) (h : R y) : GOne h₀ L m s all R y { s with heap := h', toks := tk } := ⟨h', tk, rfl, F, newsSub N hs, h⟩
theorem cov_list {l I : Addr} {o : Obj} {h : Heap} (N : News h₀ L h news) (hl : (l, o) ∈ news) (hI : ∀ p ∈ news, p.1 < I) : ∀ p ∈ news, p.1 ∈ [I, l] → p ∈ [(l, o)] := by
  k_with_none
  intro p hp hm
  rcases List.mem_cons.mp hm with q | q
  · exact absurd (hI p hp) (q ▸ Nat.lt_irrefl _)
  · have q := List.mem_singleton.mp q
    have e1 := (N p hp).1
    have e2 := (N _ hl).1
    rw [q] at e1
    have : p.2 = o := Option.some.inj (e1.symm.trans e2)
    obtain ⟨pa, po⟩ := p
    dsimp only at q this
    rw [q, this]; exact .head _
theorem cov_enum {l I e : Addr} {o : Obj} {h : Heap} (N : News h₀ L h news) (hl : (l, o) ∈ news) (hI : ∀ p ∈ news, p.1 < I) (he : ∀ p ∈ news, p.1 < e) : ∀ p ∈ news, p.1 ∈ [e, I, l] → p ∈ [(l, o)] := by
  intro p hp hm
  rcases List.mem_cons.mp hm with q | q
  · exact absurd (he p hp) (q ▸ Nat.lt_irrefl _)
  · exact cov_list N hl hI p hp q
theorem cov_one {I : Addr} (hI : ∀ p ∈ news, p.1 < I) : ∀ p ∈ news, p.1 ∈ [I] → p ∈ ([] : Fa) := by
  intro p hp hm
  exact absurd (hI p hp) (List.mem_singleton.mp hm ▸ Nat.lt_irrefl _)
section
variable {target iter elt : Expr} {scope : Scope} {cl : List (Str × Addr)} {pos : Pos} {I : Addr} {fp wr : List Addr} {n : Nat} {P Md : Nat → Value → Heap → Prop} {St : Nat → Heap → Prop} {keep : Fa} {G : Addr → Nat → Fa → Prop} {RR : Value → Addr → Result → Shared → Prop} {R : Nat → Value → Prop}
theorem compA (S : GSrc prog w A target h₀ L s I fp wr n P Md St keep) (hcell : ∀ y ∈ scope.names, y.2 ≠ .cell) (hkind : scope.kind = .function) (F : Fr h₀ L s.heap m) (N : News h₀ L s.heap news) (hcov : ∀ p ∈ news, p.1 ∈ fp → p ∈ keep) (hkn : ∀ p ∈ keep, p ∈ news) (hn : n ≤ sizeLine)
    (asg : ∀ C, GAsg prog w A target (compEnvC scope cl C env) [C] n P (Ok1 C) (G C))
    (turn : ∀ E D C i ys h tk oC, i < n → G C i [(C, oC)] → D ≠ C → (∀ p ∈ news, p.1 ≠ C ∧ p.1 ≠ D) → Fr h₀ L h m → ∀ own, News h₀ L h ((C, oC) :: (D, lst ys) :: (news ++ own)) →
      wpAny (model prog w) A (eval elt (compEnvC scope cl C env)) (GOne h₀ L m { s with heap := h, toks := tk } ((C, oC) :: (D, lst ys) :: (news ++ own)) (R i)) E { s with heap := h, toks := tk })
    (fin : ∀ D C ys h tk oC mC, ys.length = n → (∀ j y, ys[j]? = some y → R j y) → NsObj oC mC → Fr h₀ L h m → h.get? C = some oC → News h₀ L h ((D, lst ys) :: news) → (∀ p ∈ (D, lst ys) :: news, p.1 ≠ C) → (∀ p ∈ news, p.1 < D) → C ≠ L → h₀.get? C = none → RR (.ref D) C (.ok .next) { s with heap := h, toks := tk }) :
    GBlk prog w A E env (.ListComp elt [⟨target, iter, [], 0⟩] scope pos) scope cl RR (.ref I) s := by
  have mf : ∀ p, p ∈ news.filter (fun p => decide (p.1 ∉ fp)) ↔ p ∈ news ∧ p.1 ∉ fp := fun p => by rw [List.mem_filter]; simp
  have all : ∀ p ∈ news, p ∈ news.filter (fun p => decide (p.1 ∉ fp)) ++ keep := fun p hp => by
    by_cases q : p.1 ∈ fp
    · exact List.mem_append_right _ (hcov p hp q)
    · exact List.mem_append_left _ ((mf p).mpr ⟨hp, q⟩)
  refine gcA (σ := Unit) S hcell hkind F (fun _ => news.filter fun p => decide (p.1 ∉ fp)) () (newsSub N fun p hp => ?_) (fun p hp => ((mf p).mp hp).2) asg (fun i ys _ => ys.length = i ∧ i ≤ n ∧ ∀ j y, ys[j]? = some y → R j y) ⟨rfl, Nat.zero_le _, fun j y h => by simp at h⟩ (fun i ys _ h => by omega) ?_ ?_
  · rcases List.mem_append.mp hp with q | q
    · exact ((mf p).mp q).1
    · exact hkn p q
  · rintro E D C i ys _ h tk own oC hi ⟨hl, _, hR⟩ hG hDC hDf hCf hof hown hkown st' F' N'
    have noff : ∀ p ∈ news, p.1 ≠ C ∧ p.1 ≠ D := fun p hp => by
      by_cases q : p.1 ∈ fp
      · exact ⟨fun e => hCf (e ▸ q), fun e => hDf (e ▸ q)⟩
      · have z := hof p ((mf p).mpr ⟨hp, q⟩)
        exact ⟨fun e => z.2.1 (by rw [e]; simp), z.2.2⟩
    have N2 : News h₀ L h ((C, oC) :: (D, lst ys) :: (news ++ own)) := newsSub N' fun p hp => by
      rcases List.mem_cons.mp hp with q | q
      · rw [q]; exact .head _
      rcases List.mem_cons.mp q with q | q
      · rw [q]; exact .tail _ (.head _)
      rcases List.mem_append.mp q with q | q
      · rcases List.mem_append.mp (all p q) with q | q
        · exact .tail _ (.tail _ (List.mem_append_left _ q))
        · exact .tail _ (.tail _ (List.mem_append_right _ (hkown p q)))
      · exact .tail _ (.tail _ (List.mem_append_right _ q))
    refine wpAny_mono (turn E D C i ys h tk oC hi hG hDC noff F' own N2) (fun y s₂ q => ?_) fun _ _ e => e
    obtain ⟨h₅, tk₅, rfl, F₅, N₅, hy⟩ := q
    refine GEl.intro () F₅ N₅ (fun p hp => ?_) hof ⟨by rw [List.length_append, hl]; rfl, hi, fun j z hz => ?_⟩
    · have hp : p ∈ (C, oC) :: (D, lst ys) :: (news.filter (fun p => decide (p.1 ∉ fp)) ++ own) := hp
      rcases List.mem_cons.mp hp with q | q
      · rw [q]; exact .head _
      rcases List.mem_cons.mp q with q | q
      · rw [q]; exact .tail _ (.head _)
      rcases List.mem_append.mp q with q | q
      · exact .tail _ (.tail _ (List.mem_append_left _ ((mf p).mp q).1))
      · exact .tail _ (.tail _ (List.mem_append_right _ q))
    · rcases Nat.lt_or_ge j ys.length with q | q
      · rw [List.getElem?_append_left q] at hz; exact hR j z hz
      · rw [List.getElem?_append_right q] at hz
        have : j - ys.length = 0 := by
          rcases Nat.eq_zero_or_pos (j - ys.length) with e | e
          · exact e
          · rw [List.getElem?_eq_none (show 1 ≤ j - ys.length from e)] at hz; cases hz
        rw [this] at hz
        have hj : j = i := by omega
        rw [hj]
        have : y = z := by simpa using hz
        rw [← this]; exact hy
  · rintro D C ys _ h tk oC mC ⟨hl, _, hR⟩ hN F' N' hoff hlt hCL hC₀
    have sub : ∀ p ∈ (D, lst ys) :: news, p ∈ (D, lst ys) :: (news.filter (fun p => decide (p.1 ∉ fp)) ++ keep) := fun p hp => by
      rcases List.mem_cons.mp hp with q | q
      · rw [q]; exact .head _
      · exact .tail _ (all p q)
    exact fin D C ys h tk oC mC hl hR hN F' (N' (C, oC) (.head _)).1 (newsSub N' fun p hp => .tail _ (sub p hp)) (fun p hp => hoff p (sub p hp)) (fun p hp => hlt p (all p hp)) hCL hC₀
theorem compE {Q : Value → Shared → Prop} (S : GSrc prog w A target h₀ L s I fp wr n P Md St keep) (hcell : ∀ y ∈ scope.names, y.2 ≠ .cell) (hkind : scope.kind = .function) (F : Fr h₀ L s.heap m) (N : News h₀ L s.heap news) (hcov : ∀ p ∈ news, p.1 ∈ fp → p ∈ keep) (hkn : ∀ p ∈ keep, p ∈ news) (hn : n ≤ sizeLine)
    (asg : ∀ C, GAsg prog w A target (compEnvC scope cl C env) [C] n P (Ok1 C) (G C))
    (turn : ∀ E D C i ys h tk oC, i < n → G C i [(C, oC)] → D ≠ C → (∀ p ∈ news, p.1 ≠ C ∧ p.1 ≠ D) → Fr h₀ L h m → ∀ own, News h₀ L h ((C, oC) :: (D, lst ys) :: (news ++ own)) →
      wpAny (model prog w) A (eval elt (compEnvC scope cl C env)) (GOne h₀ L m { s with heap := h, toks := tk } ((C, oC) :: (D, lst ys) :: (news ++ own)) (R i)) E { s with heap := h, toks := tk })
    (fin : ∀ D ys h tk, ys.length = n → (∀ j y, ys[j]? = some y → R j y) → Fr h₀ L h m → News h₀ L h ((D, lst ys) :: news) → (∀ p ∈ news, p.1 < D) → Q (.ref D) { s with heap := h, toks := tk }) :
    GBlk prog w A E env (.ListComp elt [⟨target, iter, [], 0⟩] scope pos) scope cl (compPost (model prog w) A E none Q) (.ref I) s :=
  compA S hcell hkind F N hcov hkn hn asg turn fun D C ys h tk oC mC hl hR hN F' hC N' hoff hlt hCL hC₀ => gc_finE F' hC hN N' hoff hCL hC₀ fun h' F₂ N₂ => fin D ys h' tk hl hR F₂ N₂ hlt
theorem compS {y : Str} {py : Pos} {Q : Shared → Prop} (S : GSrc prog w A target h₀ L s I fp wr n P Md St keep) (hcell : ∀ y ∈ scope.names, y.2 ≠ .cell) (hkind : scope.kind = .function) (F : Fr h₀ L s.heap m) (N : News h₀ L s.heap news) (hcov : ∀ p ∈ news, p.1 ∈ fp → p ∈ keep) (hkn : ∀ p ∈ keep, p ∈ news) (hn : n ≤ sizeLine)
    (asg : ∀ C, GAsg prog w A target (compEnvC scope cl C env) [C] n P (Ok1 C) (G C))
    (hLe : env.locals = L) (hy : env.kindOf y = some .local) (hp : (env.scope.kind == .class || (env.scope.kind == .module && env.locals != env.globals)) = false)
    (turn : ∀ E D C i ys h tk oC, i < n → G C i [(C, oC)] → D ≠ C → (∀ p ∈ news, p.1 ≠ C ∧ p.1 ≠ D) → Fr h₀ L h m → ∀ own, News h₀ L h ((C, oC) :: (D, lst ys) :: (news ++ own)) →
      wpAny (model prog w) A (eval elt (compEnvC scope cl C env)) (GOne h₀ L m { s with heap := h, toks := tk } ((C, oC) :: (D, lst ys) :: (news ++ own)) (R i)) E { s with heap := h, toks := tk })
    (fin : ∀ D ys h tk, ys.length = n → (∀ j y, ys[j]? = some y → R j y) → Fr h₀ L h (fun z => if z = y then some (.ref D) else m z) → News h₀ L h ((D, lst ys) :: news) → (∀ p ∈ news, p.1 < D) → Q { s with heap := h, toks := tk }) :
    GBlk prog w A E env (.ListComp elt [⟨target, iter, [], 0⟩] scope pos) scope cl (compPost (model prog w) A E (some (assign (.Name y py) env)) (fun _ s' => Q s')) (.ref I) s :=
  compA S hcell hkind F N hcov hkn hn asg turn fun D C ys h tk oC mC hl hR hN F' hC N' hoff hlt hCL hC₀ => gc_finA F' hC hN N' hoff hCL hC₀ hLe hy hp fun h' tk' F₂ N₂ => fin D ys h' tk' hl hR F₂ N₂ hlt
end
end
end Mine
end
section
open PySem PySem.W PyProof.Rows PySem.Calls PyProof.Rows.LCg
namespace Mine
theorem lead_in {a b c d z p : Addr × Obj} {l : List (Addr × Obj)} (h : p ∈ a :: b :: c :: d :: l) : p ∈ a :: b :: c :: d :: z :: l := by
  k_with_none
  k_with "eval ListComp" => (k_here; k_dflt (refine' gc_eval ?gA ?gB ?gC ?gD ?_ ?gE; (case gA => rfl); (case gB => with_unfolding_all rfl); (case gC => rfl); (case gD => decide); (case gE => intro _; rfl)))
  k_with "pyIter ref" => (with_reducible refine stop_ ?_)
  k_with "call builtin:str.join" => (k_here; k_dflt (refine' join_mem ?lN ?lm ?lS ?lz ?_; (case lN => k_asm); (case lm => k_mem); (case lS => assumption); (case lz => assumption)); intro _ _)
  k_with "call ref" => (k_here; k_dflt (refine' ws_make ?lB ?lF ?lX ?lN ?lT ?lK ?lt ?lp ?lc ?lz ?ld ?lu ?_; (case lB => k_asm); (case lF => k_asm); (case lX => k_asm); (case lN => k_asm); (case lT => k_asm); (case lK => first | exact rfl | assumption); (case ld => ktr_room); (case lu => ktr_units); (case lt => exact lead_text _); (case lp => exact leadPre_is); (case lc => decide); (case lz => assumption)); intro _ _ _ _ _ _ _ _ _ _ _ _ _ _ _ _ _ _ _ _ _ _ _)
  k_with "fits" => assumption
  simp only [List.mem_cons] at h ⊢; grind
set_option maxRecDepth 100000 in
set_option maxHeartbeats 8000000 in
theorem lead_make {w : World} {dp un : Nat} {gd : Option (List Code)} {cn : Str} {cs : Scope} {a : Addr} {ccd : Value} {cl : List (Str × Addr)} {outer : List Env} {A₀ : Around} {base h₀ : Heap} {L : Addr} {m : Str → Option Value} {s : Shared} {Q E : Value → Shared → Prop} {p : Program} {loose : List Str} {mean : ExcName → Option Value} {mg mb : Str → Option Value} {news : List (Addr × Obj)} {nm : Addr} {vs : List Value} {ns : List Nat} {n : Nat}
  (B : Below A₀ base outer h₀) (F : Fr h₀ L s.heap m) (X : (hd.heap_1 w.params).In h₀) (N : News h₀ L s.heap news) (T : Top p loose mean mg mb h₀) (hk : cs.kind = .function)
  (hm : (nm, W.listOf vs.toArray n) ∈ news) (hI : IntsAre vs (zs ns)) (hz : ns.length ≤ 6) (hb : ∀ k ∈ ns, k ≤ 40) (hd : dp + 5 < recursionLimit) (hu : un + 100 < cLine)
  (h : ∀ x d nrm ct cv xt t tb tn tt sb k1 k2 k3 k4 k5 h' tk', Fr h₀ L h' m → News h₀ L h' (wsNews w x d nrm ct cv (wrun (leadPre ns)) xt t tb tn tt sb k1 k2 k3 k4 k5 news) → IntsAre cv (wrun (leadPre ns)).cs →
    (∀ p ∈ news, p.1 < d) → d < x → x < ct → ct < nrm → Q (.ref x) { s with heap := h', toks := tk' }) :
  wpAny (model PySem.Challenge.rw_rs0180_01.row.prog w) (ktrTop dp un gd cn cs L a ccd cl outer) (call (.ref 150) [.ref nm]) Q E s := by
  revert X; k_fill; intro X
  refine wpAny_call ?_
  k_dflt (refine' code_def (binds := [("numbers", .ref nm)]) ?k1 ?k2 ?k3 ?k4 ?k5 ?kA ?kF ?kK ?k6 ?k7 ?k8 ?k9 ?kB ?_ ?c2 ?c3 ?c4 ?c5; (case kA => exact rfl); (case kF => exact rfl); (case kK => first | exact rfl | assumption); (case k1 => k_asm); (case k2 => k_asm); (case k3 => k_asm); (case k4 => k_asm); (case k5 => k_asm); (case k6 => k_is); (case k7 => k_is); (case k8 => ktr_room); (case k9 => first | exact BindsTo.of_eq rfl | (refine' kp_binds ?kx ?ke; (case kx => k_in); (case ke => exact fun _ => rfl))); (case c5 => decide); (case kB => exact locs rfl); (case c2 => exact rfl); (case c3 => exact rfl); (case c4 => exact rfl); k_whole; intro g' L' h' FG' F' N' B' X' T'; (try dsimp only); (try k_lift B'); (try k_fold))
  k_steps
  refine unstop ?_
  have hl := hI.length
  rw [List.length_map] at hl
  refine' it_list ?hh ?hF ?hN ?hl ?_
  case hh => rfl
  case hF => k_asm
  case hN => k_asm
  case hl => exact hm
  intro I h1 Md St hI1 F1 N1 S
  refine' compE (news := news) (R := fun i y => ∃ t, y = .str (pt (ns.getD i 0) 9) t) (S _ _) ?ha ?hb F1 N1 ?hc ?hd ?he ?hf ?_ ?_
  case ha => decide
  case hb => rfl
  case hc => exact cov_list N1 hm hI1
  case hd => exact fun p hp => by rw [List.mem_singleton.mp hp]; exact hm
  case he => rw [sizeLine_eq]; omega
  case hf => exact fun C => asg_name (P' := fun i v => vs[i]? = some v) (fun _ _ _ h => h) rfl rfl
  · rintro E D C i ys h2 tk2 oC hi ⟨oC', m₂, v, hoC, hN2, hmx, hv⟩ hDC hoff F2 own N2
    obtain rfl : oC = oC' := by simpa using hoC
    obtain ⟨tv, rfl⟩ := zs_item hI hv
    have hk6 : ns.getD i 0 ≤ 40 := getD_le hb
    generalize ns.getD i 0 = k at *
    k_steps
    rw [show PySem.Str.ofString "\t" = ⟨#[9]⟩ by decide +kernel, blank_name]
    exact GOne.intro (by k_asm) (by k_asm) (fun _ h => h) ⟨_, rfl⟩
  · intro D ys h2 tk2 hyl hyR F2 N2 hlt
    have hS : StrsAre ys (ns.map fun k => pt k 9) := strs_getD (hyl.trans hl) hyR
    have hlen : ((ns.map fun k => pt k 9).map (·.length)).sum + (ns.map fun k => pt k 9).length * (PySem.Str.ofString "").length ≤ 16777216 := by
      have := pts_sum hb
      rw [show (PySem.Str.ofString "").length = 0 by decide +kernel]
      omega
    have hadd : (Txt.join (PySem.Str.ofString "") (ns.map fun k => pt k 9)).length + (PySem.Str.ofString "x").length ≤ sizeLine := by
      have := pts_sum hb
      rw [join_len, show (PySem.Str.ofString "x").length = 1 by decide +kernel, sizeLine_eq]
      omega
    have hpz : (leadPre ns).length ≤ 500 := by
      have := leadPre_len hb
      omega
    try dsimp only
    k_steps
    rename News _ _ _ _ => N7
    rename IntsAre _ _ => hq
    exact h _ _ _ _ _ _ _ _ _ _ _ _ _ _ _ _ _ _ (by k_asm) (newsSub N7 fun p hp => lead_in hp) hq (fun p hp => (by assumption : ∀ p ∈ (D, lst ys) :: news, p.1 < _) p (.tail _ hp)) (by assumption) (by assumption) (by assumption)
end Mine
end
section
open PySem PySem.W PyProof.Rows PySem.Calls PyProof.Rows.LCg
namespace Mine
theorem bent_in {a x y z p : Addr × Obj} {l : List (Addr × Obj)} (h : p ∈ a :: l) : p ∈ a :: x :: y :: z :: l := by
  k_with_none
  k_with "eval ListComp" => (k_here; k_dflt (refine' gc_eval ?gA ?gB ?gC ?gD ?_ ?gE; (case gA => rfl); (case gB => with_unfolding_all rfl); (case gC => rfl); (case gD => decide); (case gE => intro _; rfl)))
  k_with "exec Assign cons ListComp" => (k_here; (first | k_dflt (refine' gc_assign ?gY ?gA ?gS ?gB ?gC ?gD ?_ ?gE; (case gY => rfl); (case gA => rfl); (case gS => with_unfolding_all rfl); (case gB => with_unfolding_all rfl); (case gC => rfl); (case gD => decide); (case gE => intro _; rfl)) | k_dflt (refine' wpAny_Assign_Name ?_ ?gS; (case gS => with_unfolding_all rfl))))
  k_with "pyIter ref" => (with_reducible refine stop_ ?_)
  k_with "call type:enumerate" => (with_reducible refine stop_ ?_)
  k_with "mem" => ((repeat (first | with_reducible assumption | refine List.mem_cons_of_mem _ ?_)); done)
  k_with "binaryOp FloorDiv int int" => (k_here; k_dflt ((refine' floordiv_int ?fA ?_ ?fB); (case fA => exact (pow_ok (by omega) (by omega)).1); (case fB => exact Or.inl (PyProof.noPylong_of_log2 (pow_ok (by omega) (by omega)).2))))
  k_with "call builtin:len" => (k_here; (with_reducible show wpAny _ _ (call (Value.builtin "len") [Value.ref _]) _ _ _); k_dflt (refine' len_mem ?lN ?lm ?lz ?_; (case lN => k_asm); (case lm => k_mem); (case lz => omega)); intro _ _)
  simp only [List.mem_cons] at h ⊢; grind
theorem bent_in2 {a d x y z p : Addr × Obj} {l : List (Addr × Obj)} (h : p ∈ a :: l) : p ∈ a :: d :: x :: y :: z :: l := by
  simp only [List.mem_cons] at h ⊢; grind
set_option maxRecDepth 100000 in
set_option maxHeartbeats 8000000 in
theorem bent_make {w : World} {dp un : Nat} {gd : Option (List Code)} {cn : Str} {cs : Scope} {a : Addr} {ccd : Value} {cl : List (Str × Addr)} {outer : List Env} {A₀ : Around} {base h₀ : Heap} {L : Addr} {m : Str → Option Value} {s : Shared} {Q E : Value → Shared → Prop} {p : Program} {loose : List Str} {mean : ExcName → Option Value} {mg mb : Str → Option Value} {news : List (Addr × Obj)} {nm : Addr} {vs : List Value} {ns : List Nat} {n : Nat} {b : Int} {tb : Tok}
  (B : Below A₀ base outer h₀) (F : Fr h₀ L s.heap m) (X : (hd.heap_1 w.params).In h₀) (N : News h₀ L s.heap news) (T : Top p loose mean mg mb h₀) (hk : cs.kind = .function)
  (hm : (nm, W.listOf vs.toArray n) ∈ news) (hI : IntsAre vs (zs ns)) (hz : ns.length ≤ 6) (hz1 : 1 ≤ ns.length) (hb : ∀ k ∈ ns, k ≤ 5) (hb0 : 0 ≤ b) (hb1 : b < 1000000) (hd : dp + 5 < recursionLimit) (hu : un + 100 < cLine)
  (h : ∀ D ys ms c h' tk', Fr h₀ L h' m → News h₀ L h' ((D, W.listOf (List.toArray ys) c) :: news) → (∀ p ∈ news, p.1 < D) → ms.length = ns.length → IntsAre ys (zs ms) → (∀ k ∈ ms, k ≤ 6) → Q (.ref D) { s with heap := h', toks := tk' }) :
  wpAny (model PySem.Challenge.rw_rs0180_01.row.prog w) (ktrTop dp un gd cn cs L a ccd cl outer) (call (.ref 140) [.ref nm, .int b tb]) Q E s := by
  revert X; k_fill; intro X
  have hl := hI.length
  rw [List.length_map] at hl
  refine wpAny_call ?_
  k_dflt (refine' code_defC (binds := [("numbers", .ref nm), ("bend", .int b tb)]) ?k1 ?k2 ?k3 ?k4 ?k5 ?kA ?kF ?kK ?k6 ?k7 ?k8 ?k9 ?kB ?kD ?_ ?c2 ?c3 ?c4; (case kA => exact rfl); (case kF => exact rfl); (case kK => first | exact rfl | assumption); (case k1 => k_asm); (case k2 => k_asm); (case k3 => k_asm); (case k4 => k_asm); (case k5 => k_asm); (case k6 => k_is); (case k7 => k_is); (case k8 => ktr_room); (case k9 => first | exact BindsTo.of_eq rfl | (refine' kp_binds ?kx ?ke; (case kx => k_in); (case ke => exact fun _ => rfl))); (case kB => exact rfl); (case kD => decide +kernel); (case c2 => exact rfl); (case c3 => exact rfl); (case c4 => exact rfl); k_whole; intro g' L' h' tk' cells' FG' F' N' Y' B' X' T' l1; (try k_lt l1); k_cells Y'; (try simp only [List.cons_append, List.nil_append] at N'); (try dsimp only); (try k_lift B'); (try k_fold))
  rename_i c1 c2 c3 e1 e2 e3
  replace e1 : c1.data = .cell none := e1
  replace e2 : c2.data = .cell none := e2
  replace e3 : c3.data = .cell (some (.int b tb)) := e3
  have hoffn : OwnOff news [L' + 1 + 1 + 1, L' + 1 + 1, L' + 1] := by
    intro p hp b hb
    have e1 := l1 p hp
    rcases List.mem_cons.mp hb with q | q
    · rw [q]; exact Nat.ne_of_lt (Nat.lt_succ_of_lt (Nat.lt_succ_of_lt (Nat.lt_succ_of_lt e1)))
    · rcases List.mem_cons.mp q with q | q
      · rw [q]; exact Nat.ne_of_lt (Nat.lt_succ_of_lt (Nat.lt_succ_of_lt e1))
      · rw [List.mem_singleton.mp q]; exact Nat.ne_of_lt (Nat.lt_succ_of_lt e1)
  k_steps
  · refine unstop ?_
    rename IsRange _ _ _ _ _ _ _ _ => hr
    have e0 : ((zs ns).length : Int) = (ns.length : Int) := by rw [List.length_map]
    refine' it_range (n := (zs ns).length) ?hh ?hF ?hN hr ?hs ?hn ?_
    case hh => rfl
    case hF => k_asm
    case hN => k_asm
    case hs => exact small_one (by omega) (by omega) (by omega) (by omega)
    case hn => exact rangeSize_nat _ _
    intro I h1 Md St hI1 F1 N1 S
    refine' compE (R := fun i y => ∃ (k : Nat) (t : Tok), k ≤ 6 ∧ y = .int k t) (S _ _) ?ha ?hb F1 N1 ?hc ?hd ?he ?hf ?_ ?_
    case ha => decide
    case hb => rfl
    case hc => exact cov_one hI1
    case hd => exact fun p hp => nomatch hp
    case he => rw [sizeLine_eq, List.length_map]; omega
    case hf => exact fun C => asg_name (P' := fun i v => ∃ t, v = .int (0 + (i : Int)) t) (fun _ _ _ h => h) rfl rfl
    · rintro E D C i ys h2 tk2 oC hi ⟨oC', m₂, v, hoC, hN2, hmx, t, rfl⟩ hDC hoff F2 own N2
      obtain rfl : oC = oC' := by simpa using hoC
      have hi6 : i < ns.length := by rw [List.length_map] at hi; exact hi
      try dsimp only
      k_steps
      refine GOne.intro (by k_asm) (by k_asm) (fun _ h => h) (nat_val (Int.fmod_nonneg_of_pos _ (by omega)) ?_)
      have := Int.fmod_lt_of_pos ((b.fdiv 4).fdiv (6 ^ (0 + (i : Int)).toNat)) (show (0 : Int) < 6 by omega)
      omega
    · intro D ys h2 tk2 hyl hyR F2 N2 hlt
      try dsimp only
      k_steps
      obtain ⟨ms, q1, q2, q3⟩ := nats_of hyR
      rename News h₀ L _ _ => N7
      exact h D ys ms _ _ _ (by k_asm) (newsSub N7 fun p hp => bent_in hp) (fun p hp => hlt p (List.mem_cons_of_mem _ (List.mem_cons_of_mem _ (List.mem_cons_of_mem _ hp)))) (by rw [q1, hyl, List.length_map]) q2 q3
  all_goals (
    refine unstop ?_
    refine' it_enum ?hh ?hF ?hN ?hl ?_
    case hh => rfl
    case hF => k_asm
    case hN => k_asm
    case hl => k_mem
    intro I e h1 Md St hI1 he1 F1 N1 S
    refine' compS (R := fun i y => ∃ (k : Nat) (t : Tok), k ≤ 6 ∧ y = .int k t) (S _ _ _) ?ha ?hb F1 N1 ?hc ?hd ?he ?hf ?hL ?hY ?hP ?_ ?_
    case hL => rfl
    case hY => rfl
    case hP => rfl
    case ha => decide
    case hb => rfl
    case hc => exact cov_enum N1 (by k_mem) hI1 he1
    case hd => intro p hp; rw [List.mem_singleton.mp hp]; k_mem
    case he => rw [sizeLine_eq]; omega
    case hf => exact fun C => asg_pair (P' := fun i x y => (∃ t, x = .int i t) ∧ vs[i]? = some y) rfl (fun _ _ _ h => enum_item h) rfl rfl rfl (by decide)
    · rintro E D C i ys h2 tk2 oC hi ⟨oC', m₂, v, u, hoC, hN2, hma, hmb, ⟨t, rfl⟩, hv⟩ hDC hoff F2 own N2
      obtain rfl : oC = oC' := by simpa using hoC
      obtain ⟨tv, rfl⟩ := zs_item (by assumption) hv
      have hk5 : ns.getD i 0 ≤ 5 := getD_le hb
      try dsimp only
      k_steps
      all_goals exact GOne.intro (by k_asm) (by k_asm) (fun _ h => h) (nat_val (by omega) (by omega))
    · intro D ys h2 tk2 hyl hyR F2 N2 hlt
      obtain ⟨ms, q1, q2, q3⟩ := nats_of hyR
      try dsimp only
      k_steps
      refine unstop ?_
      refine' it_enum ?hh ?hF ?hN ?hl ?_
      case hh => rfl
      case hF => k_asm
      case hN => exact N2
      case hl => exact .head _
      intro I e h1 Md St hI1 he1 F1 N1 S
      refine' compE (R := fun i y => ∃ (k : Nat) (t : Tok), k ≤ 6 ∧ y = .int k t) (S _ _ _) ?ha ?hb F1 N1 ?hc ?hd ?he ?hf ?_ ?_
      case ha => decide
      case hb => rfl
      case hc => exact cov_enum N1 (.head _) hI1 he1
      case hd => intro p hp; rw [List.mem_singleton.mp hp]; exact .head _
      case he => rw [sizeLine_eq]; omega
      case hf => exact fun C => asg_pair (P' := fun i x y => (∃ t, x = .int i t) ∧ ys[i]? = some y) rfl (fun _ _ _ h => enum_item h) rfl rfl rfl (by decide)
      · rintro E D C i zs2 h2 tk2 oC hi ⟨oC', m₂, v, u, hoC, hN2, hma, hmb, ⟨t, rfl⟩, hv⟩ hDC hoff F2 own N2
        obtain rfl : oC = oC' := by simpa using hoC
        obtain ⟨tv, rfl⟩ := zs_item q2 hv
        have hk5 : ms.getD i 0 ≤ 6 := getD_le q3
        try dsimp only
        k_steps
        all_goals exact GOne.intro (by k_asm) (by k_asm) (fun _ h => h) (nat_val (by omega) (by omega))
      · intro D2 zs2 h2 tk2 hyl2 hyR2 F2 N2 hlt2
        try dsimp only
        k_steps
        obtain ⟨ms2, p1, p2, p3⟩ := nats_of hyR2
        rename News h₀ L _ _ => N7
        exact h D2 zs2 ms2 _ _ _ (by k_asm) (newsSub N7 fun p hp => bent_in2 hp) (fun p hp => hlt2 p (List.mem_cons_of_mem _ (List.mem_cons_of_mem _ (List.mem_cons_of_mem _ (List.mem_cons_of_mem _ hp))))) (by omega) p2 p3)
end Mine
end
section
open PySem PySem.W PyProof.Rows PySem.Calls PyProof.Rows.LCg
namespace Mine
section
variable {prog : Program} {w : World} {A : Around} {s : Shared} {h₀ : Heap} {L : Addr} {m : Str → Option Value} {E : Value → Shared → Prop} {env : Env} {news : Fa}
theorem it_rangeC {r : Addr} {a b c : Int} {t u v : Tok} {n : Nat} {K : Value → Shared → Prop} (hh : A.handled = none) (F : Fr h₀ L s.heap m) (N : News h₀ L s.heap news) (hr : IsRange s.heap r a b c t u v) (hsm : Builtin.Range.small a b c = true) (hn : Builtin.Range.rangeSize a b c = ((n : Nat) : Int))
    (k : ∀ I h Md St, (∀ p ∈ news, p.1 < I) → Fr h₀ L h m → News h₀ L h news → (∀ x px, GSrc prog w A (.Name x px) h₀ L { s with heap := h } I [I] [I] n (fun i v _ => ∃ t, v = .int (a + i * c) t) Md St []) → K (.ref I) { s with heap := h }) : wpAny (model prog w) A (pyIter (.ref r)) K E s := by
  k_with_none
  refine wpAny_pyIter_range hr hsm ?_
  have Wk := (Walks.range (prog := prog) (w := w) hh s.heap.objs.size a c n)
  have st : IsRangeIter (s.heap.push { cls := .type "range_iterator", data := .fields #[rawInt a, rawInt (Builtin.Range.rangeSize a b c), rawInt c] }) s.heap.objs.size (a + (0 : Nat) * c) ((n : Int) - (0 : Nat)) c := by
    rw [hn]
    have z : (s.heap.push { cls := .type "range_iterator", data := .fields #[rawInt a, rawInt (n : Int), rawInt c] }).get? s.heap.objs.size = some _ := Heap.get?_push_size _ rfl
    show _ = _
    simpa using z
  refine k _ _ _ _ (fun p hp => Heap.lt_size (N p hp).1) (F.keeps fun _ _ e => Heap.get?_push_of_some _ e) (N.grown fun _ _ e => Heap.get?_push_of_some _ e) fun x px => ⟨KTurns.ofWalks Wk fun i v s Q E _ hQ => wpAny_pure hQ, st, fun s' Q E old hQ => ?_, fun b hb => ?_, fun b hb => ?_, fun i h st b hb => ?_, fun p hp => nomatch hp⟩
  · exact Wk.self 0 s' Q E (old _ _ st) hQ
  · rw [List.mem_singleton.mp hb]
    refine ⟨?_, Nat.ne_of_gt F.ns.lt⟩
    show s.heap.objs.size < (s.heap.push _).objs.size
    rw [Heap.size_push]; exact Nat.lt_succ_self _
  · rw [List.mem_singleton.mp hb]; exact fr_new F (Nat.le_refl _)
  · rw [List.mem_singleton.mp hb]; exact ⟨_, st⟩
theorem start_in {elt : Expr} {g : Comprehension} {target iter : Expr} {ifs : List Expr} {scope : Scope} {pos : Pos} {it acc : Value} {cenv : Env} {R : Result → Shared → Prop}
    (h0 : codeAny (model prog w) A (.compLoop (.ListComp elt [g, ⟨target, iter, ifs, 0⟩] scope pos) 1 it acc cenv) R s)
    (h : wpAny (model prog w) A (pyIter it) (fun it' s' => codeAny (model prog w) A (.compLoop (.ListComp elt [g, ⟨target, iter, ifs, 0⟩] scope pos) 1 it' acc cenv) R s')
      (notedBy (model prog w) A cenv fun x s' => R (.error x) s') s) :
    codeAny (model prog w) A (.compStart (.ListComp elt [g, ⟨target, iter, ifs, 0⟩] scope pos) 1 it acc cenv) R s := by
  refine codeAny_of_tree ?_
  show wpAny _ _ ((compStart (.ListComp elt [g, ⟨target, iter, ifs, 0⟩] scope pos) 1 it acc cenv).onRaise (fun x => do noteFrame x cenv; standAt theWindowsPlace)) _ _ s
  refine wpAny_notedAt ?_
  unfold compStart
  show wpAny _ _ (ask >>= _) _ _ s
  refine wpAny_bind (wpAny_askSetting (wpAny_ite ?_))
  split
  · first
      | exact wpAny_bind (wpAny_pure (wpAny_pure (And.intro rfl h0)))
      | exact wpAny_pure (And.intro rfl h0)
  · first
      | exact wpAny_bind (wpAny_rule (wpAny_bind (wpAny_standAt (wpAny_bind (wpAny_mono h (fun it' s' h' => wpAny_pure (And.intro rfl h')) fun _ _ x => x)))))
      | (refine wpAny_bind (wpAny_rule ?_); show wpAny _ _ (standAt iter.pos >>= _) _ _ s; exact wpAny_bind (wpAny_standAt (wpAny_bind (wpAny_mono h (fun it' s' h' => wpAny_pure (And.intro rfl h')) fun _ _ x => x))))
section
variable {σ : Type} {iter elt : Expr} {scope : Scope} {cl : List (Str × Addr)} {pos : Pos} {I : Addr} {n : Nat} {keep : Fa} {RR : Value → Addr → Result → Shared → Prop}
/-- the inner clause, its iterator made -/
def GIn (prog : Program) (w : World) (A : Around) (e : Expr) (cenv : Env) (D : Addr) (E : Value → Shared → Prop) (K : Shared → Prop) (it : Value) (s₄ : Shared) : Prop :=
  codeAny (model prog w) A (.compStart e 1 it (.ref D) cenv) (fun r s' => match r with | .ok _ => K s' | .error x => cameBackBy (model prog w) A cenv E x s') s₄
theorem gc_inner {g : Comprehension} {y : Str} {py : Pos} {C D : Addr} {oC : Obj} {fp wr : List Addr} {P Md : Nat → Value → Heap → Prop} {St : Nat → Heap → Prop} {P' : Nat → Value → Prop} {own : Fa} {fpo : List Addr} {Jo : List Value × σ → Prop} {s₀ : Shared}
    (S : GSrc prog w A (.Name y py) h₀ L s I fp wr n P Md St []) {K : (Str → Option Value) → Prop} (hP : ∀ i v h, P i v h → P' i v) (hK : ∀ mC v, K mC → K (fun z => if z = y then some v else mC z)) (hkind : scope.kind = .function) (hy : scope.names.lookup y = some .local) (F : Fr h₀ L s.heap m) (nw : σ → Fa) (ys₀ : List Value) (c₀ : σ) (N : News h₀ L s.heap ((C, oC) :: (D, lst ys₀) :: (nw c₀ ++ own)))
    (hoff : ∀ p ∈ nw c₀ ++ own, p.1 ∉ fp ∧ p.1 ≠ C ∧ p.1 ≠ D) (hCf : C ∉ fp) (hDf : D ∉ fp) (hDC : D ≠ C) (hN : ∃ mC, NsObj oC mC ∧ K mC) (hs₀ : ∀ h tk, { s with heap := h, toks := tk } = { s₀ with heap := h, toks := tk })
    (J : Nat → List Value → σ → Prop) (hJ : J 0 ys₀ c₀) (hz : ∀ i ys c, J i ys c → ys.length ≤ sizeLine)
    (turn : ∀ E i ys c h tk oC' own', i < n → J i ys c → G1vK C y K P' i [(C, oC')] → (∀ p ∈ nw c ++ own, p.1 ∉ fp ∧ p.1 ∉ [C] ∧ p.1 ≠ D) → (∀ b ∈ wr, ∃ o, (b, o) ∈ own') → Fr h₀ L h m → News h₀ L h ((C, oC') :: (D, lst ys) :: ((nw c ++ own) ++ own')) →
      wpAny (model prog w) A (eval elt (compEnvC scope cl C env)) (fun z s₂ => GEl h₀ L m { s with heap := h, toks := tk } [(C, oC')] (fun c => nw c ++ own) D ys own' fp [C] (J (i + 1)) (ys ++ [z]) s₂) E { s with heap := h, toks := tk })
    (hfin : ∀ ys c, J n ys c → (∀ p ∈ nw c, p.1 ≠ C ∧ p.1 ≠ D) → (∀ p ∈ nw c, p.1 ∉ fpo) ∧ Jo (ys, c)) (hDo : D ∉ fpo) :
    GIn prog w A (.ListComp elt [g, ⟨.Name y py, iter, [], 0⟩] scope pos) (compEnvC scope cl C env) D E (GEnd h₀ L m s₀ (Ok1 C) (fun c : List Value × σ => (D, lst c.1) :: nw c.2) own fpo [C] Jo) (.ref I) s := by
  obtain ⟨mC, hN, hKm⟩ := hN
  have zC := N (C, oC) (.head _)
  have hCL := zC.2.1
  have fin : codeAny (model prog w) A (.compLoop (.ListComp elt [g, ⟨.Name y py, iter, [], 0⟩] scope pos) 1 (.ref I) (.ref D) (compEnvC scope cl C env)) (fun r s' => match r with | .ok _ => GEnd h₀ L m s₀ (Ok1 C) (fun c : List Value × σ => (D, lst c.1) :: nw c.2) own fpo [C] Jo s' | .error x => cameBackBy (model prog w) A (compEnvC scope cl C env) E x s') s := by
    refine gc_list (s := s) gl_in S.W (asg_nameK hP hK hkind hy) (fun c => nw c ++ own) [] J ys₀ c₀ [(C, oC)] (fun b hb => ?_) (fun hm => (S.lt L hm).2 rfl) S.wr0 (fun p hp => nomatch hp) hDf (by simpa using hDC) S.st F (newsSub N fun p hp => by simpa using hp) (fun p hp => ⟨(hoff p hp).1, by simpa using (hoff p hp).2.1, (hoff p hp).2.2⟩) ⟨oC, mC, rfl, hN, hKm⟩ rfl hJ hz ?_ ?_
    · rw [List.mem_singleton.mp hb]; exact ⟨hCf, hCL, zC.2.2⟩
    · rintro E i ys c h tk own' fr hi hJ' ⟨oC', mC', rfl, hN', _⟩ _ hG hof _ _ hall st' F' N'
      exact turn E i ys c h tk oC' own' hi hJ' hG hof (fun b hb => by
        obtain ⟨o, ho⟩ := S.live _ _ st' b hb
        exact ⟨o, hall b (S.W.sub b hb) (S.wr0 b hb) o ho⟩) F' N'
    · rintro ys c h tk fr hJ' ⟨oC', mC', rfl, hN', _⟩ _ hof F' N'
      have q := hfin ys c hJ' fun p hp => ⟨by simpa using (hof p (List.mem_append_left _ hp)).2.1, (hof p (List.mem_append_left _ hp)).2.2⟩
      refine ⟨(ys, c), h, tk, [(C, oC')], hs₀ h tk, ⟨oC', mC', rfl, hN'⟩, rfl, F', newsSub N' fun p hp => by simpa using hp, fun p hp => ?_, q.2⟩
      rcases List.mem_cons.mp hp with e | e
      · rw [e]; exact ⟨hDo, by simpa using hDC⟩
      · exact ⟨q.1 p e, (hof p (List.mem_append_left _ e)).2.1⟩
  exact start_in fin (S.self _ _ _ (fun _ _ e => e) fin)
theorem gcD {x y : Str} {px py : Pos} {iter2 : Expr} {fp wr : List Addr} {P Md : Nat → Value → Heap → Prop} {St : Nat → Heap → Prop} {P' : Nat → Value → Prop} (S : GSrc prog w A (.Name x px) h₀ L s I fp wr n P Md St keep) (hP : ∀ i v h, P i v h → P' i v) (hcell : ∀ y ∈ scope.names, y.2 ≠ .cell) (hkind : scope.kind = .function) (hx : scope.names.lookup x = some .local)
    (hs : ∀ C x, foldedSetIterable iter2 (compEnvC scope cl C env) x = pure x) (F : Fr h₀ L s.heap m) (nw : σ → Fa) (c₀ : σ) (N : News h₀ L s.heap (nw c₀ ++ keep)) (hoff : ∀ p ∈ nw c₀, p.1 ∉ fp)
    (J : Nat → List Value → σ → Prop) (hJ : J 0 [] c₀)
    (turn : ∀ E D C i ys c h tk own oC, i < n → J i ys c → G1v C x P' i [(C, oC)] → D ≠ C → D ∉ fp → C ∉ fp → (∀ b ∈ fp, b < D) → (∀ p ∈ nw c, p.1 ∉ fp ∧ p.1 ∉ [C] ∧ p.1 ≠ D) → (∀ p ∈ own, p.1 ∈ fp) → (∀ p ∈ keep, p ∈ own) → Fr h₀ L h m → News h₀ L h ((C, oC) :: (D, lst ys) :: (nw c ++ own)) →
      wpAny (model prog w) A (eval iter2 (compEnvC scope cl C env)) (fun xv s₃ => wpAny (model prog w) A (pyIter xv) (GIn prog w A (.ListComp elt [⟨.Name x px, iter, [], 0⟩, ⟨.Name y py, iter2, [], 0⟩] scope pos) (compEnvC scope cl C env) D E (GEnd h₀ L m { s with heap := h, toks := tk } (Ok1 C) (fun c : List Value × σ => (D, lst c.1) :: nw c.2) own fp [C] (fun c => J (i + 1) c.1 c.2 ∧ ∀ p ∈ nw c.2, p.1 ≠ D))) E s₃) E { s with heap := h, toks := tk })
    (fin : ∀ D C ys c h tk oC mC, J n ys c → NsObj oC mC → Fr h₀ L h m → News h₀ L h ((C, oC) :: (D, lst ys) :: (nw c ++ keep)) → (∀ p ∈ (D, lst ys) :: (nw c ++ keep), p.1 ≠ C) → (∀ p ∈ nw c₀ ++ keep, p.1 < D) → (∀ p ∈ nw c, p.1 ≠ D) → C ≠ L → h₀.get? C = none → RR (.ref D) C (.ok .next) { s with heap := h, toks := tk }) :
    GBlk prog w A E env (.ListComp elt [⟨.Name x px, iter, [], 0⟩, ⟨.Name y py, iter2, [], 0⟩] scope pos) scope cl RR (.ref I) s := by
  refine gc_open hcell hkind F N S.self fun D C oC h tk hD hC hoC F' N' hC₀ hCL old => ?_
  have hDf : D ∉ fp := src_off S (by rw [hD]; exact Nat.le_refl _)
  have hCf : C ∉ fp := src_off S (by rw [hC]; exact Nat.le_succ _)
  have hDC : D ≠ C := by rw [hD, hC]; exact Nat.ne_of_lt (Nat.lt_succ_self _)
  have ltD : ∀ p ∈ nw c₀ ++ keep, p.1 < D := fun p hp => by rw [hD]; exact Heap.lt_size (N p hp).1
  refine gc_core (σ := List Value × σ) (s := { s with heap := h, toks := tk }) (gl_two (hs C)) t2_mono S.W (asg_name (cl := cl) (env := env) (C := C) hP hkind hx) (fun c => (D, lst c.1) :: nw c.2) keep (fun i c => J i c.1 c.2 ∧ ∀ p ∈ nw c.2, p.1 ≠ D) ([], c₀) [(C, oC)] (fun b hb => ?_) (fun hm => (S.lt L hm).2 rfl) S.wr0 S.keepok (S.W.frame _ _ _ S.st fun b _ o e => old b o e) F' (newsSub N' fun p hp => by simpa using hp) (fun p hp => ?_) ⟨oC, _, rfl, hoC⟩ rfl ⟨hJ, fun p hp => Nat.ne_of_lt (ltD p (List.mem_append_left _ hp))⟩ ?_ ?_
  · rw [List.mem_singleton.mp hb]; exact ⟨hCf, hCL, hC₀⟩
  · rcases List.mem_cons.mp hp with q | q
    · rw [q]; exact ⟨hDf, by simpa using hDC⟩
    · refine ⟨hoff p q, fun e => ?_⟩
      have z := ltD p (List.mem_append_left _ q)
      rw [List.mem_singleton.mp e, hC, hD] at z
      exact absurd z (Nat.not_lt.mpr (Nat.le_succ _))
  · rintro E i ⟨ys, c⟩ h tk own fr hi ⟨hJ', hD'⟩ ⟨oC', mC', rfl, hN'⟩ _ hG hof hown hkown _ st' F' N'
    exact turn E D C i ys c h tk own oC' hi hJ' hG hDC hDf hCf (fun b hb => by rw [hD]; exact (S.lt b hb).1) (fun p hp => ⟨(hof p (.tail _ hp)).1, (hof p (.tail _ hp)).2, hD' p hp⟩) hown hkown F' (newsSub N' fun p hp => by simpa using hp)
  · rintro ⟨ys, c⟩ h tk fr ⟨hJ', hD'⟩ ⟨oC', mC', rfl, hN'⟩ _ hof F' N'
    refine fin D C ys c h tk oC' mC' hJ' hN' F' (newsSub N' fun p hp => by simpa using hp) (fun p hp => ?_) ltD hD' hCL hC₀
    rcases List.mem_cons.mp hp with q | q
    · rw [q]; exact hDC
    · rcases List.mem_append.mp q with q | q
      · exact fun e => (hof p (.tail _ q)).2 (by rw [e]; simp)
      · exact fun e => hCf (e ▸ (S.keepok p q).1)
end
end
end Mine
end
section
open PySem PySem.W PyProof.Rows PySem.Calls PyProof.Rows.LCg
namespace Mine
section
variable {prog : Program} {w : World} {A : Around} {s : Shared} {h₀ : Heap} {L : Addr} {m : Str → Option Value} {E : Value → Shared → Prop} {env : Env} {news : Fa}
variable {target iter elt ct : Expr} {scope : Scope} {cl : List (Str × Addr)} {pos : Pos} {I : Addr} {fp wr : List Addr} {n : Nat} {P Md : Nat → Value → Heap → Prop} {St : Nat → Heap → Prop} {keep : Fa} {G : Addr → Nat → Fa → Prop}
/-- a comprehension with one test that leaves no object behind but its list -/
theorem compB {Q : Value → Shared → Prop} (S : GSrc prog w A target h₀ L s I fp wr n P Md St keep) (hcell : ∀ y ∈ scope.names, y.2 ≠ .cell) (hkind : scope.kind = .function) (F : Fr h₀ L s.heap m) (N : News h₀ L s.heap news) (hcov : ∀ p ∈ news, p.1 ∈ fp → p ∈ keep) (hkn : ∀ p ∈ keep, p ∈ news)
    (asg : ∀ C, GAsg prog w A target (compEnvC scope cl C env) [C] n P (Ok1 C) (G C)) (J : Nat → List Value → Prop) (hJ : J 0 []) (hz : ∀ i ys, J i ys → ys.length ≤ sizeLine)
    (turn : ∀ E D C i ys h tk oC, i < n → J i ys → G C i [(C, oC)] → D ≠ C → (∀ p ∈ news, p.1 ≠ C ∧ p.1 ≠ D) → Fr h₀ L h m → ∀ own, News h₀ L h ((C, oC) :: (D, lst ys) :: (news ++ own)) →
      wpAny (model prog w) A (isTrue ct (compEnvC scope cl C env) (eval ct (compEnvC scope cl C env))) (fun ok s₃ => if ok = true then
        wpAny (model prog w) A (eval elt (compEnvC scope cl C env)) (GOne h₀ L m { s with heap := h, toks := tk } ((C, oC) :: (D, lst ys) :: (news ++ own)) (fun y => J (i + 1) (ys ++ [y]))) E s₃
        else GOne h₀ L m { s with heap := h, toks := tk } ((C, oC) :: (D, lst ys) :: (news ++ own)) (fun _ => J (i + 1) ys) .none s₃) E { s with heap := h, toks := tk })
    (fin : ∀ D ys h tk, J n ys → Fr h₀ L h m → News h₀ L h ((D, lst ys) :: news) → (∀ p ∈ news, p.1 < D) → Q (.ref D) { s with heap := h, toks := tk }) :
    GBlk prog w A E env (.ListComp elt [⟨target, iter, [ct], 0⟩] scope pos) scope cl (compPost (model prog w) A E none Q) (.ref I) s := by
  k_with_none
  have mf : ∀ p, p ∈ news.filter (fun p => decide (p.1 ∉ fp)) ↔ p ∈ news ∧ p.1 ∉ fp := fun p => by rw [List.mem_filter]; simp
  have all : ∀ p ∈ news, p ∈ news.filter (fun p => decide (p.1 ∉ fp)) ++ keep := fun p hp => by
    by_cases q : p.1 ∈ fp
    · exact List.mem_append_right _ (hcov p hp q)
    · exact List.mem_append_left _ ((mf p).mpr ⟨hp, q⟩)
  refine gcB (σ := Unit) S hcell hkind F (fun _ => news.filter fun p => decide (p.1 ∉ fp)) () (newsSub N fun p hp => ?_) (fun p hp => ((mf p).mp hp).2) asg (fun i ys _ => J i ys) hJ (fun i ys _ h => hz i ys h) ?_ ?_
  · rcases List.mem_append.mp hp with q | q
    · exact ((mf p).mp q).1
    · exact hkn p q
  · rintro E D C i ys _ h tk own oC hi hJ' hG hDC hDf hCf hof hown hkown st' F' N'
    have noff : ∀ p ∈ news, p.1 ≠ C ∧ p.1 ≠ D := fun p hp => by
      by_cases q : p.1 ∈ fp
      · exact ⟨fun e => hCf (e ▸ q), fun e => hDf (e ▸ q)⟩
      · have z := hof p ((mf p).mpr ⟨hp, q⟩)
        exact ⟨fun e => z.2.1 (by rw [e]; simp), z.2.2⟩
    have N2 : News h₀ L h ((C, oC) :: (D, lst ys) :: (news ++ own)) := newsSub N' fun p hp => by
      rcases List.mem_cons.mp hp with q | q
      · rw [q]; exact .head _
      rcases List.mem_cons.mp q with q | q
      · rw [q]; exact .tail _ (.head _)
      rcases List.mem_append.mp q with q | q
      · rcases List.mem_append.mp (all p q) with q | q
        · exact .tail _ (.tail _ (List.mem_append_left _ q))
        · exact .tail _ (.tail _ (List.mem_append_right _ (hkown p q)))
      · exact .tail _ (.tail _ (List.mem_append_right _ q))
    have sub : ∀ p ∈ [(C, oC)] ++ ((D, lst ys) :: (news.filter (fun p => decide (p.1 ∉ fp)) ++ own)), p ∈ (C, oC) :: (D, lst ys) :: (news ++ own) := fun p hp => by
      have hp : p ∈ (C, oC) :: (D, lst ys) :: (news.filter (fun p => decide (p.1 ∉ fp)) ++ own) := hp
      rcases List.mem_cons.mp hp with q | q
      · rw [q]; exact .head _
      rcases List.mem_cons.mp q with q | q
      · rw [q]; exact .tail _ (.head _)
      rcases List.mem_append.mp q with q | q
      · exact .tail _ (.tail _ (List.mem_append_left _ ((mf p).mp q).1))
      · exact .tail _ (.tail _ (List.mem_append_right _ q))
    refine wpAny_mono (turn E D C i ys h tk oC hi hJ' hG hDC noff F' own N2) (fun ok s₃ q => ?_) fun _ _ e => e
    cases ok with
    | true =>
      refine wpAny_mono q (fun y s₂ q => ?_) fun _ _ e => e
      obtain ⟨h₅, tk₅, rfl, F₅, N₅, hy⟩ := q
      exact GEl.intro (J := fun ys _ => J (i + 1) ys) () F₅ N₅ sub hof hy
    | false =>
      obtain ⟨h₅, tk₅, rfl, F₅, N₅, hy⟩ := q
      exact GEl.intro (J := fun ys _ => J (i + 1) ys) () F₅ N₅ sub hof hy
  · rintro D C ys _ h tk oC mC hJ' hN F' N' hoff hlt hCL hC₀
    have sub : ∀ p ∈ (D, lst ys) :: news, p ∈ (D, lst ys) :: (news.filter (fun p => decide (p.1 ∉ fp)) ++ keep) := fun p hp => by
      rcases List.mem_cons.mp hp with q | q
      · rw [q]; exact .head _
      · exact .tail _ (all p q)
    exact gc_finE F' (N' (C, oC) (.head _)).1 hN (newsSub N' fun p hp => .tail _ (sub p hp)) (fun p hp => hoff p (sub p hp)) hCL hC₀ fun h' F₂ N₂ => fin D ys h' tk hJ' F₂ N₂ fun p hp => hlt p (all p hp)
/-- a comprehension over a source that holds no object of the ledger, its target a cell of its own -/
theorem compC {x : Str} {G : Addr → Addr → Nat → Fa → Prop} {RR : Value → Addr → Result → Shared → Prop} {R : Nat → Value → Prop} (S : GSrc prog w A target h₀ L s I fp wr n P Md St []) (hcs : ∀ k, cellsFrom k scope.names cl = (x, k) :: cl) (hpc : ∀ h, pushCells h scope.names = h.push { cls := .type "cell", data := .cell none }) (F : Fr h₀ L s.heap m) (N : News h₀ L s.heap news) (hoff : ∀ p ∈ news, p.1 ∉ fp) (hn : n ≤ sizeLine)
    (asg : ∀ C cc, C ≠ cc → GAsg prog w A target (compEnvC scope ((x, cc) :: cl) C env) [C, cc] n P (Ok2 C cc) (G C cc))
    (turn : ∀ E D C cc i ys h tk oC oc, i < n → G C cc i [(C, oC), (cc, oc)] → D ≠ C → D ≠ cc → C ≠ cc → (∀ p ∈ news, p.1 ∉ [C, cc] ∧ p.1 ≠ D) → Fr h₀ L h m → ∀ own, News h₀ L h ((C, oC) :: (cc, oc) :: (D, lst ys) :: (news ++ own)) →
      wpAny (model prog w) A (eval elt (compEnvC scope ((x, cc) :: cl) C env)) (GOne h₀ L m { s with heap := h, toks := tk } ((C, oC) :: (cc, oc) :: (D, lst ys) :: (news ++ own)) (R i)) E { s with heap := h, toks := tk })
    (fin : ∀ D C ys h tk oC mC, ys.length = n → (∀ j y, ys[j]? = some y → R j y) → NsObj oC mC → Fr h₀ L h m → h.get? C = some oC → News h₀ L h ((D, lst ys) :: news) → (∀ p ∈ (D, lst ys) :: news, p.1 ≠ C) → (∀ p ∈ news, p.1 < D) → C ≠ L → h₀.get? C = none → RR (.ref D) C (.ok .next) { s with heap := h, toks := tk }) :
    GBlk prog w A E env (.ListComp elt [⟨target, iter, [], 0⟩] scope pos) scope cl RR (.ref I) s := by
  refine gcC (σ := Unit) S hcs hpc F (fun _ => news) () (by simpa using N) hoff asg (fun i ys _ => ys.length = i ∧ i ≤ n ∧ ∀ j y, ys[j]? = some y → R j y) ⟨rfl, Nat.zero_le _, fun j y h => by simp at h⟩ (fun i ys _ h => by omega) ?_ ?_
  · rintro E D C cc i ys _ h tk own oC oc hi ⟨hl, _, hR⟩ hG hof hDC hDc hCc hDf hCf hcf hown hkown st' F' N'
    refine wpAny_mono (turn E D C cc i ys h tk oC oc hi hG hDC hDc hCc (fun p hp => (hof p hp).2) F' own N') (fun y s₂ q => ?_) fun _ _ e => e
    obtain ⟨h₅, tk₅, rfl, F₅, N₅, hy⟩ := q
    refine GEl.intro () F₅ N₅ (fun p hp => hp) hof ⟨by rw [List.length_append, hl]; rfl, hi, fun j z hz => ?_⟩
    rcases Nat.lt_or_ge j ys.length with q | q
    · rw [List.getElem?_append_left q] at hz; exact hR j z hz
    · rw [List.getElem?_append_right q] at hz
      have : j - ys.length = 0 := by
        rcases Nat.eq_zero_or_pos (j - ys.length) with e | e
        · exact e
        · rw [List.getElem?_eq_none (show 1 ≤ j - ys.length from e)] at hz; cases hz
      rw [this] at hz
      have hj : j = i := by omega
      rw [hj]
      have : y = z := by simpa using hz
      rw [← this]; exact hy
  · rintro D C ys _ h tk oC mC ⟨hl, _, hR⟩ hN F' N' hoff hlt hCL hC₀
    exact fin D C ys h tk oC mC hl hR hN F' (N' (C, oC) (.head _)).1 (newsSub N' fun p hp => List.mem_cons_of_mem _ (by rw [List.append_nil]; exact hp)) (fun p hp => hoff p (by rw [List.append_nil]; exact hp)) (fun p hp => hlt p (List.mem_append_left _ hp)) hCL hC₀
end
end Mine
end
section
open PySem PySem.W PyProof.Rows PySem.Calls PyProof.Rows.LCg
namespace Mine
/-- tuples of two numbers, laid in T -/
inductive PrsAre (T : Fa) : List Value → List (Nat × Nat) → Prop
  | nil : PrsAre T [] []
  | cons {d : Addr} {a b : Nat} {ta tb : Tok} {vs : List Value} {ps : List (Nat × Nat)} : (d, tupO [.int a ta, .int b tb]) ∈ T → PrsAre T vs ps → PrsAre T (.ref d :: vs) ((a, b) :: ps)
theorem PrsAre.mono {T T' : Fa} (h : ∀ p ∈ T, p ∈ T') : ∀ {vs : List Value} {ps : List (Nat × Nat)}, PrsAre T vs ps → PrsAre T' vs ps
  | _, _, .nil => .nil
  | _, _, .cons hm r => .cons (h _ hm) (r.mono h)
theorem PrsAre.snoc {T : Fa} {d : Addr} {a b : Nat} {ta tb : Tok} (hm : (d, tupO [.int a ta, .int b tb]) ∈ T) : ∀ {vs : List Value} {ps : List (Nat × Nat)}, PrsAre T vs ps → PrsAre T (vs ++ [.ref d]) (ps ++ [(a, b)])
  | _, _, .nil => .cons hm .nil
  | _, _, .cons hm' r => .cons hm' (r.snoc hm)
theorem PrsAre.length {T : Fa} : ∀ {vs : List Value} {ps : List (Nat × Nat)}, PrsAre T vs ps → vs.length = ps.length
  | _, _, .nil => rfl
  | _, _, .cons _ r => by simp [r.length]
theorem PrsAre.get {T : Fa} : ∀ {vs : List Value} {ps : List (Nat × Nat)}, PrsAre T vs ps → ∀ {i : Nat} {v : Value}, vs[i]? = some v → ∃ d a b ta tb, v = .ref d ∧ (d, tupO [.int (a : Nat) ta, .int (b : Nat) tb]) ∈ T ∧ ps[i]? = some (a, b)
  | _, _, .nil, i, v, h => by simp at h
  | _, _, .cons hm r, 0, v, h => by
    exact ⟨_, _, _, _, _, (by simpa using h.symm), hm, rfl⟩
  | _, _, .cons hm r, i + 1, v, h => by
    obtain ⟨d, a, b, ta, tb, h1, h2, h3⟩ := r.get (i := i) (v := v) (by simpa using h)
    exact ⟨d, a, b, ta, tb, h1, h2, by simpa using h3⟩
abbrev prs (n : Nat) : List (Nat × Nat) := (List.range n).flatMap fun late => (List.range late).map fun early => (early, late)
theorem prs_succ (n : Nat) : prs (n + 1) = prs n ++ (List.range n).map fun early => (early, n) := by
  k_with_none
  unfold prs; rw [List.range_succ, List.flatMap_append]; simp
theorem prs_len : ∀ n, n ≤ 6 → (prs n).length ≤ 15 := by decide
theorem part_len {i j : Nat} (hi : i < 6) (hj : j ≤ i) : (prs i ++ (List.range j).map fun e => (e, i)).length ≤ 15 := by
  have h1 := prs_len (i + 1) (by omega)
  rw [prs_succ] at h1
  simp only [List.length_append, List.length_map, List.length_range] at h1 ⊢
  omega
theorem pr_in {a b x p : Addr × Obj} {T r own own4 : Fa} (h : p ∈ a :: b :: ((x :: T ++ r) ++ own ++ own4)) : p ∈ x :: a :: b :: (T ++ r ++ own ++ own4) := by
  simp only [List.mem_cons, List.mem_append, List.cons_append] at h ⊢; grind
theorem net_in {a b x p : Addr × Obj} {R : Fa} (h : p ∈ a :: b :: R) : p ∈ a :: b :: x :: R := by
  simp only [List.mem_cons] at h ⊢; grind
theorem net_in2 {a b c d p : Addr × Obj} {T n : Fa} (h : p ∈ a :: b :: c :: (T ++ n)) : p ∈ c :: d :: (T ++ (a :: b :: n)) := by
  simp only [List.mem_cons, List.mem_append] at h ⊢; grind
theorem allLt_mem {d : Nat} : ∀ {l : List (Addr × Obj)}, AllLt d l → ∀ p ∈ l, @LT.lt Nat _ p.1 d
  | [], _, p, hp => nomatch hp
  | x :: r, h, p, hp => by
    rcases List.mem_cons.mp hp with q | q
    · rw [q]; exact h.1
    · exact allLt_mem h.2 p q
theorem in_pair {prog : Program} {w : World} {A : Around} {E : Value → Shared → Prop} {s : Shared} {h₀ : Heap} {L d : Addr} {news : List (Addr × Obj)} {a b x : Int} {ta tb t : Tok} {Q : Value → Shared → Prop}
    (N : News h₀ L s.heap news) (hm : (d, tupO [.int a ta, .int b tb]) ∈ news) (hu : A.units + 64 < cLine) (h1 : (a = x ∨ b = x) → Q (.bool true) s) (h2 : ¬ (a = x ∨ b = x) → Q (.bool false) s) :
    wpAny (model prog w) A (compareOp .In (.int x t) (.ref d)) Q E s := by
  refine PySem.SeqAt.in_tuple_reads (xs := [.int a, .int b]) (d := .int x) (reads_tuple_at (N _ hm).1 rfl rfl (.cons (.int _ _) (.cons (.int _ _) .nil))) (.int _ _) rfl rfl ?_ ?_
  · have : min (PyData.depthAll [PyData.int a, PyData.int b]) (PyData.depth (.int x)) ≤ 0 := by simp [PyData.depthAll, PyData.depth]
    omega
  · by_cases hx : a = x ∨ b = x
    · have e : ([PyData.int a, PyData.int b].any fun y => PyData.eqv y (.int x)) = true := by simpa [PyData.eqv] using hx
      rw [e]; exact h1 hx
    · have e : ([PyData.int a, PyData.int b].any fun y => PyData.eqv y (.int x)) = false := by simpa [PyData.eqv, not_or] using hx
      rw [e]; exact h2 hx
theorem prs_count : ∀ k, k ≤ 6 → ∀ i, i < k → (prs k).countP (fun p => decide (p.1 = i ∨ p.2 = i)) ≤ 5 := by decide +kernel
theorem net_in3 {a b c d p : Addr × Obj} {R n : Fa} (hn : ∀ p ∈ n, p ∈ R) (h : p ∈ a :: n) : p ∈ a :: b :: c :: d :: R := by
  have := hn p
  simp only [List.mem_cons] at h ⊢; grind
set_option maxRecDepth 100000 in
set_option maxHeartbeats 8000000 in
theorem net_make {w : World} {dp un : Nat} {gd : Option (List Code)} {cn : Str} {cs : Scope} {a : Addr} {ccd : Value} {cl : List (Str × Addr)} {outer : List Env} {A₀ : Around} {base h₀ : Heap} {L : Addr} {m : Str → Option Value} {s : Shared} {Q E : Value → Shared → Prop} {p : Program} {loose : List Str} {mean : ExcName → Option Value} {mg mb : Str → Option Value} {news : List (Addr × Obj)} {k : Nat} {tm tf : Tok} {f : Int}
  (B : Below A₀ base outer h₀) (F : Fr h₀ L s.heap m) (X : (hd.heap_1 w.params).In h₀) (N : News h₀ L s.heap news) (T : Top p loose mean mg mb h₀) (hk : cs.kind = .function)
  (hk1 : 1 ≤ k) (hk6 : k ≤ 6) (hf0 : 0 ≤ f) (hf1 : f < 1000000) (hd : dp + 5 < recursionLimit) (hu : un + 100 < cLine)
  (h : ∀ D ys ms c h' tk', Fr h₀ L h' m → News h₀ L h' ((D, W.listOf (List.toArray ys) c) :: news) → (∀ p ∈ news, p.1 < D) → ms.length = k → IntsAre ys (zs ms) → (∀ x ∈ ms, x ≤ 5) → Q (.ref D) { s with heap := h', toks := tk' }) :
  wpAny (model PySem.Challenge.rw_rs0180_01.row.prog w) (ktrTop dp un gd cn cs L a ccd cl outer) (call (.ref 135) [.int (k : Int) tm, .int f tf]) Q E s := by
  k_with_none
  k_with "eval ListComp" => (k_here; k_dflt (refine' gc_eval ?gA ?gB ?gC ?gD ?_ ?gE; (case gA => rfl); (case gB => with_unfolding_all rfl); (case gC => rfl); (case gD => decide); (case gE => intro _; rfl)))
  k_with "exec Assign cons ListComp" => (k_here; (first | k_dflt (refine' gc_assign ?gY ?gA ?gS ?gB ?gC ?gD ?_ ?gE; (case gY => rfl); (case gA => rfl); (case gS => with_unfolding_all rfl); (case gB => with_unfolding_all rfl); (case gC => rfl); (case gD => decide); (case gE => intro _; rfl)) | k_dflt (refine' wpAny_Assign_Name ?_ ?gS; (case gS => with_unfolding_all rfl))))
  k_with "pyIter ref" => (with_reducible refine stop_ ?_)
  k_with "call type:enumerate" => (with_reducible refine stop_ ?_)
  k_with "compareOp In int ref" => (with_reducible refine stop_ ?_)
  k_with "mem" => ((repeat (first | with_reducible assumption | refine List.mem_cons_of_mem _ ?_)); done)
  k_with "binaryOp FloorDiv int int" => (k_here; k_dflt ((refine' floordiv_int ?fA ?_ ?fB); (case fA => exact (pow_ok (by omega) (by omega)).1); (case fB => exact Or.inl (PyProof.noPylong_of_log2 (pow_ok (by omega) (by omega)).2))))
  revert X; k_fill; intro X
  refine wpAny_call ?_
  k_dflt (refine' code_defC (binds := [("many", .int (k : Int) tm), ("figures", .int f tf)]) ?k1 ?k2 ?k3 ?k4 ?k5 ?kA ?kF ?kK ?k6 ?k7 ?k8 ?k9 ?kB ?kD ?_ ?c2 ?c3 ?c4; (case kA => exact rfl); (case kF => exact rfl); (case kK => first | exact rfl | assumption); (case k1 => k_asm); (case k2 => k_asm); (case k3 => k_asm); (case k4 => k_asm); (case k5 => k_asm); (case k6 => k_is); (case k7 => k_is); (case k8 => ktr_room); (case k9 => first | exact BindsTo.of_eq rfl | (refine' kp_binds ?kx ?ke; (case kx => k_in); (case ke => exact fun _ => rfl))); (case kB => exact rfl); (case kD => decide +kernel); (case c2 => exact rfl); (case c3 => exact rfl); (case c4 => exact rfl); k_whole; intro g' L' h' tk' cells' FG' F' N' Y' B' X' T' l1; (try k_lt l1); k_cells Y'; (try simp only [List.cons_append, List.nil_append] at N'); (try dsimp only); (try k_lift B'); (try k_fold))
  rename_i c1 c2 e1 e2
  replace e1 : c1.data = .cell none := e1
  replace e2 : c2.data = .cell (some (.int f tf)) := e2
  have hoffn : OwnOff news [L' + 1 + 1, L' + 1] := by
    intro p hp b hb
    have e1 := l1 p hp
    rcases List.mem_cons.mp hb with q | q
    · rw [q]; exact Nat.ne_of_lt (Nat.lt_succ_of_lt (Nat.lt_succ_of_lt e1))
    · rw [List.mem_singleton.mp q]; exact Nat.ne_of_lt (Nat.lt_succ_of_lt e1)
  k_steps
  refine unstop ?_
  rename IsRange _ _ _ _ _ _ _ _ => hr
  refine' it_range (n := k) ?hh ?hF ?hN hr ?hs ?hn ?_
  case hh => rfl
  case hF => k_asm
  case hN => k_asm
  case hs => exact small_one (by omega) (by omega) (by omega) (by omega)
  case hn => exact rangeSize_nat _ _
  intro I h1 Md St hI1 F1 N1 S
  rename News g' L' h1 _ => N1
  refine' gcD (σ := Fa) (P' := fun i v => ∃ t, v = .int (0 + (i : Int)) t) (S _ _) ?ha ?hb ?hc ?hd ?he F1 (fun T => T ++ ((L' + 1 + 1, c1) :: (L' + 1, c2) :: news)) [] (by simpa using N1) (fun p hp hm => ?hg) (fun i ys T => i ≤ k ∧ PrsAre T ys (prs i) ∧ ∀ p ∈ T, @LT.lt Nat _ I p.1) ⟨Nat.zero_le _, .nil, fun p hp => nomatch hp⟩ ?_ ?_
  case ha => exact fun _ _ _ h => h
  case hb => decide
  case hc => rfl
  case hd => rfl
  case he => exact fun _ _ => rfl
  case hg => exact absurd (hI1 p (by simpa using hp)) (List.mem_singleton.mp hm ▸ Nat.lt_irrefl _)
  · rintro E D C i ys T h2 tk2 own oC hi ⟨hik, hPr, hTI⟩ ⟨oC', m₂, v, hoC, hN2, hmx, t, rfl⟩ hDC hDf hCf hfD hof hown _ F2 N2
    obtain rfl : oC = oC' := by simpa using hoC
    try dsimp only
    k_steps
    refine unstop ?_
    rename IsRange _ _ _ _ _ _ _ _ => hr2
    rename News g' L' _ _ => N5
    refine' it_range (n := i) ?hh ?hF ?hN hr2 ?hs ?hn ?_
    case hh => rfl
    case hF => k_asm
    case hN => exact N5
    case hs => exact small_one (by omega) (by omega) (by omega) (by omega)
    case hn => rw [Int.zero_add]; exact rangeSize_nat _ _
    intro I2 h3 Md2 St2 hI2 F3 N3 S2
    refine' gc_inner (σ := Fa) (own := own) (fpo := [I]) (K := fun mm => mm (PySem.Str.ofString "late") = some (.int (0 + (i : Int)) t)) (P' := fun j v => ∃ t, v = .int (0 + (j : Int)) t) (S2 _ _) (fun _ _ _ h => h) ?hK rfl rfl F3 (fun T => T ++ ((L' + 1 + 1, c1) :: (L' + 1, c2) :: news)) ys T N3 ?hoff ?hCf ?hDf hDC ⟨_, hN2, hmx⟩ (fun _ _ => rfl) (fun j ys T => j ≤ i ∧ PrsAre T ys (prs i ++ (List.range j).map fun e => (e, i)) ∧ ∀ p ∈ T, @LT.lt Nat _ I p.1) ⟨Nat.zero_le _, by simpa using hPr, hTI⟩ ?hz ?turn ?hfin ?hDo
    case hK => exact fun mC v h => h
    case hoff =>
      intro p hp
      refine ⟨fun hm => absurd (hI2 p (List.mem_cons_of_mem _ (List.mem_cons_of_mem _ hp))) (List.mem_singleton.mp hm ▸ Nat.lt_irrefl _), ?_⟩
      rcases List.mem_append.mp hp with q | q
      · exact ⟨fun e => (hof p q).2.1 (by rw [e]; exact .head _), (hof p q).2.2⟩
      · exact ⟨fun e => hCf (e ▸ hown p q), fun e => hDf (e ▸ hown p q)⟩
    case hCf => exact fun hm => absurd (hI2 _ (.head _)) (List.mem_singleton.mp hm ▸ Nat.lt_irrefl _)
    case hDf => exact fun hm => absurd (hI2 (D, _) (.tail _ (.head _))) (List.mem_singleton.mp hm ▸ Nat.lt_irrefl _)
    case hDo => exact hDf
    case hz =>
      rintro j ys T ⟨hj, hp, _⟩
      rw [hp.length, sizeLine_eq]
      have := part_len (show i < 6 by omega) hj
      omega
    case hfin =>
      rintro ys T ⟨_, hp, hTI'⟩ hoffT
      have hlt : ∀ p ∈ T ++ ((L' + 1 + 1, c1) :: (L' + 1, c2) :: news), p.1 ∉ [I] := fun p hp hm => by
        have hm := List.mem_singleton.mp hm
        rcases List.mem_append.mp hp with q | q
        · exact absurd (hTI' p q) (hm ▸ Nat.lt_irrefl _)
        · exact absurd (hI1 p q) (hm ▸ Nat.lt_irrefl _)
      refine ⟨hlt, ⟨by omega, ?_, hTI'⟩, fun p hp => (hoffT p hp).2⟩
      rw [prs_succ]; exact hp
    case turn =>
      rintro E3 j ys3 T3 h4 tk4 oC4 own4 hj ⟨hj', hPr3, hTI3⟩ ⟨oC4', m₄, v4, hoC4, hN4, hmx4, ⟨t4, rfl⟩, hmlate⟩ hof4 hlive4 F4 N4
      obtain rfl : oC4 = oC4' := by simpa using hoC4
      try dsimp only
      k_steps
      rename News g' L' _ _ => N8
      rename _ ∧ _ ∧ AllLt _ _ => l8
      rename_i dn hn8 Fn8
      simp only [Int.zero_add] at N8
      obtain ⟨lC, lD, lA⟩ := l8
      obtain ⟨oI2, hI2m⟩ := hlive4 I2 (.head _)
      have lI2 := allLt_mem lA _ (List.mem_append_right _ hI2m)
      have hID : I < D := hfD I (.head _)
      refine GEl.intro ((dn, tupO [.int (j : Nat) t4, .int (i : Nat) t]) :: T3) (by k_asm) N8 (fun p hp => ?_) (fun p hp => ?_) ⟨by omega, ?_, fun p hp => ?_⟩
      · have hp : p ∈ (C, oC4) :: (D, lst ys3) :: ((_ :: T3 ++ ((L' + 1 + 1, c1) :: (L' + 1, c2) :: news)) ++ own ++ own4) := hp
        exact pr_in hp
      · rcases List.mem_cons.mp hp with q | q
        · rw [q]
          exact ⟨fun hm => absurd lI2 (List.mem_singleton.mp hm ▸ Nat.lt_irrefl _), fun hm => absurd lC (List.mem_singleton.mp hm ▸ Nat.lt_irrefl _), Nat.ne_of_gt lD⟩
        · exact hof4 p q
      · rw [List.range_succ, List.map_append, ← List.append_assoc]
        exact (hPr3.mono fun p hp => .tail _ hp).snoc (.head _)
      · rcases List.mem_cons.mp hp with q | q
        · rw [q]; exact Nat.lt_trans hID lD
        · exact hTI3 p q
  · rintro D C ys T h2 tk2 oC mC ⟨_, hPr, hTI⟩ hN2 F2 N2 hoff hlt hTD hCL hC₀
    refine' gc_finA F2 ?hC hN2 ?hNr ?hr hCL hC₀ ?hL ?hY ?hP ?_
    case hL => rfl
    case hY => rfl
    case hP => rfl
    case hC => exact (N2 (C, oC) (.head _)).1
    case hNr => exact newsSub N2 fun p hp => .tail _ hp
    case hr => exact hoff
    intro h3 tk3 F3 N3
    try dsimp only
    k_steps
    refine unstop ?_
    have hyl : ys.length ≤ 15 := by rw [hPr.length]; exact prs_len k hk6
    simp only [List.append_nil] at N3
    refine' it_enum ?hh ?hF ?hN ?hl ?_
    case hh => rfl
    case hF => k_asm
    case hN => exact N3
    case hl => exact .head _
    intro I3 e3 h4 Md3 St3 hI3 he3 F4 N4 S3
    refine' compB (S3 _ _ _) ?ha ?hb F4 N4 ?hc ?hd ?hf (fun i zs => ∃ qs, PrsAre T zs qs ∧ qs.Sublist ((prs k).take i)) ⟨[], .nil, List.nil_sublist _⟩ ?hz ?_ ?_
    case ha => decide
    case hb => rfl
    case hc => exact cov_enum N4 (.head _) hI3 he3
    case hd => intro p hp; rw [List.mem_singleton.mp hp]; exact .head _
    case hf => exact fun C => asg_pair (P' := fun i x y => (∃ t, x = .int i t) ∧ ys[i]? = some y) rfl (fun _ _ _ h => enum_item h) rfl rfl rfl (by decide)
    case hz =>
      rintro i zs ⟨qs, hq, hs⟩
      rw [hq.length, sizeLine_eq]
      have h1 := hs.length_le
      have h2 := prs_len k hk6
      have h3 : ((prs k).take i).length ≤ (prs k).length := by rw [List.length_take]; omega
      omega
    · rintro E D5 C5 i zs h5 tk5 oC5 hi ⟨qs, hq, hsub⟩ ⟨oC5', m₅, v, u, hoC, hN5, hma, hmb, ⟨t, rfl⟩, hv⟩ hDC hoff5 F5 own N5
      obtain rfl : oC5 = oC5' := by simpa using hoC
      obtain ⟨d, a5, b5, ta, tb, rfl, hdm, hpi⟩ := hPr.get hv
      have hi15 : i < 15 := by omega
      have htk : (prs k).take (i + 1) = (prs k).take i ++ [(a5, b5)] := by rw [List.take_add_one, hpi]; rfl
      have mb : ∀ p ∈ (L' + 1 + 1, c1) :: (L' + 1, c2) :: news, p ∈ ((D, lst ys) :: (T ++ ((L' + 1 + 1, c1) :: (L' + 1, c2) :: news))) ++ own := fun p hp => List.mem_append_left _ (.tail _ (List.mem_append_right _ hp))
      generalize hR : ((D, lst ys) :: (T ++ ((L' + 1 + 1, c1) :: (L' + 1, c2) :: news))) ++ own = R5 at N5 mb ⊢
      have N6 : News g' L' h5 ((C5, oC5) :: (D5, lst zs) :: (L' + 1, c2) :: R5) := newsSub N5 fun p hp => by
        rcases List.mem_cons.mp hp with q | q
        · rw [q]; exact .head _
        rcases List.mem_cons.mp q with q | q
        · rw [q]; exact .tail _ (.head _)
        rcases List.mem_cons.mp q with q | q
        · rw [q]; exact .tail _ (.tail _ (mb _ (.tail _ (.head _))))
        · exact .tail _ (.tail _ q)
      clear N5 hR mb
      try dsimp only
      k_steps
      · refine GOne.intro (by k_asm) (by k_asm) (fun _ h => net_in h) ⟨qs ++ [(a5, b5)], hq.snoc hdm, ?_⟩
        rw [htk]; exact hsub.append (List.Sublist.refl _)
      · refine GOne.intro (by k_asm) (by k_asm) (fun _ h => net_in h) ⟨qs, hq, ?_⟩
        rw [htk]; exact hsub.trans (List.sublist_append_left _ _)
    · rintro D5 zs h5 tk5 ⟨qs, hq, hsub⟩ F5 N5 hlt5
      have hcellI : @LT.lt Nat _ (L' + 1 + 1) I := hI1 (L' + 1 + 1, c1) (.head _)
      have hcellD : @LT.lt Nat _ (L' + 1 + 1) D := hlt (L' + 1 + 1, c1) (by simp)
      have hcellD5 : @LT.lt Nat _ (L' + 1 + 1) D5 := hlt5 (L' + 1 + 1, c1) (.tail _ (List.mem_append_right _ (.head _)))
      have hltn : ∀ p ∈ news, p.1 < D5 := fun p hp => hlt5 p (.tail _ (List.mem_append_right _ (.tail _ (.tail _ hp))))
      have hRoff : OwnOff (T ++ news) [L' + 1 + 1, L' + 1] := by
        intro p hp b hb
        rcases List.mem_append.mp hp with q | q
        · have e1 : @LT.lt Nat _ (L' + 1 + 1) p.1 := Nat.lt_trans hcellI (hTI p q)
          rcases List.mem_cons.mp hb with r | r
          · rw [r]; exact Nat.ne_of_gt e1
          · rw [List.mem_singleton.mp r]; exact Nat.ne_of_gt (Nat.lt_of_succ_lt e1)
        · exact hoffn p q b hb
      have N6 : News g' L' h5 ((L' + 1 + 1, c1) :: (L' + 1, c2) :: (D5, lst zs) :: (T ++ news)) := newsSub N5 fun p hp => net_in2 hp
      have hTR : ∀ p ∈ T, p ∈ T ++ news := fun p hp => List.mem_append_left _ hp
      have hnR : ∀ p ∈ news, p ∈ T ++ news := fun p hp => List.mem_append_right _ hp
      clear N5 N4 N3 N2 N1
      generalize T ++ news = R6 at N6 hRoff hTR hnR
      try dsimp only
      k_steps
      refine unstop ?_
      rename IsRange _ _ _ _ _ _ _ _ => hr7
      rename News g' L' _ _ => N7
      rename _ = Data.cell (some (Value.ref D5)) => hdn
      refine' it_range (n := k) ?hh ?hF ?hN hr7 ?hs ?hn ?_
      case hh => rfl
      case hF => k_asm
      case hN => exact N7
      case hs => exact small_one (by omega) (by omega) (by omega) (by omega)
      case hn => exact rangeSize_nat _ _
      intro I7 h7 Md7 St7 hI7 F7 N8 S7
      clear N7
      refine' compC (x := PySem.Str.ofString "point") (G := fun C cc => Gcell C cc (fun i v => ∃ t, v = .int (0 + (i : Int)) t)) (R := fun _ y => ∃ (q : Nat) (t : Tok), q ≤ 5 ∧ y = .int q t) (S7 _ _) ?ha ?hb F7 N8 ?hc ?hd ?hf ?_ ?_
      case ha => exact fun _ => rfl
      case hb => exact fun _ => rfl
      case hc => exact fun p hp hm => absurd (hI7 p hp) (List.mem_singleton.mp hm ▸ Nat.lt_irrefl _)
      case hd => rw [sizeLine_eq]; omega
      case hf => exact fun C cc hne => asg_cell (fun _ _ _ h => h) rfl rfl (by simp) hne
      · rintro E8 D8 C8 cc8 i ys8 h8 tk8 oC8 oc8 hi8 ⟨oC8', mC8, oc8', v8, hfr8, hN8, hd8, t8, rfl⟩ hDC8 hDc8 hCc8 hoff8 F8 own8 N9
        obtain ⟨rfl, rfl⟩ : oC8 = oC8' ∧ oc8 = oc8' := by simpa using hfr8
        try dsimp only
        k_steps
        refine unstop ?_
        rename News g' L' _ _ => N10
        have mR9 : ∀ p ∈ R6, p ∈ R6 ++ own8 := fun p hp => List.mem_append_left _ hp
        refine' it_list ?hh ?hF ?hN ?hl ?_
        case hh => rfl
        case hF => k_asm
        case hN => exact N10
        case hl => exact .tail _ (.tail _ (.tail _ (.tail _ (.tail _ (.head _)))))
        intro I9 h9 Md9 St9 hI9 F9 N12 S9
        refine' compB (S9 _ _) ?ha ?hb F9 N12 ?hc ?hd ?hf (fun j ws => ws.length = (qs.take j).countP (fun p => decide (p.1 = i ∨ p.2 = i))) rfl ?hz ?_ ?_
        case ha => decide
        case hb => rfl
        case hc => exact cov_list N12 (.tail _ (.tail _ (.tail _ (.tail _ (.tail _ (.head _)))))) hI9
        case hd => intro p hp; rw [List.mem_singleton.mp hp]; exact .tail _ (.tail _ (.tail _ (.tail _ (.tail _ (.head _)))))
        case hf => exact fun C => asg_name (P' := fun i v => zs[i]? = some v) (fun _ _ _ h => h) rfl rfl
        case hz =>
          intro j ws hw
          rw [hw, sizeLine_eq]
          have h1 : ((qs.take j).countP (fun p => decide (p.1 = i ∨ p.2 = i))) ≤ (qs.take j).length := List.countP_le_length
          have h2 : (qs.take j).length ≤ qs.length := by rw [List.length_take]; omega
          have h3 := hsub.length_le
          have h4 : ((prs k).take ys.length).length ≤ (prs k).length := by rw [List.length_take]; omega
          have h5 := prs_len k hk6
          omega
        · rintro E D10 C10 j ws h10 tk10 oC10 hj hw ⟨oC10', m10, v, hoC, hN10, hmx, hv⟩ hDC10 hoff10 F10 own10 N13
          obtain rfl : oC10 = oC10' := by simpa using hoC
          obtain ⟨d, a5, b5, ta, tb, rfl, hdm, hpi⟩ := hq.get hv
          have hdR : (d, tupO [.int a5 ta, .int b5 tb]) ∈ R6 ++ own8 := List.mem_append_left _ (hTR _ hdm)
          have htk : (qs.take (j + 1)) = qs.take j ++ [(a5, b5)] := by rw [List.take_add_one, hpi]; rfl
          try dsimp only
          k_steps
          refine unstop ?_
          refine' in_pair N13 (.tail _ (.tail _ (List.mem_append_left _ (.tail _ (.tail _ (.tail _ (.tail _ (.tail _ (.tail _ hdR))))))))) ?hu ?_ ?_
          case hu => ke_room
          · intro hy
            k_steps
            refine GOne.intro (by k_asm) (by k_asm) (fun _ h => h) ?_
            rw [htk, List.countP_append, List.length_append, hw, List.countP_cons_of_pos (by simpa using (by omega : a5 = i ∨ b5 = i))]
            rfl
          · intro hy
            k_steps
            refine GOne.intro (by k_asm) (by k_asm) (fun _ h => h) ?_
            rw [htk, List.countP_append, hw, List.countP_cons_of_neg (by simpa using (by omega : ¬ (a5 = i ∨ b5 = i)))]
            rfl
        · rintro D10 ws h10 tk10 hw F10 N13 hlt10
          have hq5 : ws.length ≤ 5 := by
            have h1 : (qs.countP (fun p => decide (p.1 = i ∨ p.2 = i))) ≤ (prs k).countP (fun p => decide (p.1 = i ∨ p.2 = i)) :=
              (hsub.trans (List.take_sublist _ _)).countP_le
            have h2 := prs_count k hk6 i hi8
            have h3 : zs.length = qs.length := hq.length
            rw [hw, h3, List.take_length]
            omega
          try dsimp only
          k_steps
          refine' len_mem N13 (.head _) ?hz ?_
          case hz => omega
          intro t9 tk9
          k_steps
          exact GOne.intro (by k_asm) (newsSub N13 fun p hp => .tail _ hp) (fun _ h => h) ⟨ws.length, t9, hq5, rfl⟩
      · intro D8 C8 ys8 h8 tk8 oC8 mC8 hl8 hR8 hN8 F8 hC8 N9 hoff8 hlt8 hCL8 hC08
        refine' gc_finE F8 hC8 hN8 N9 hoff8 hCL8 hC08 ?_
        intro h9 F9 N10
        try dsimp only
        k_steps
        obtain ⟨ms, p1, p2, p3⟩ := nats_of hR8
        rename News h₀ L _ _ => N14
        exact h D8 ys8 ms _ _ _ (by k_asm) (newsSub N14 fun p hp => net_in3 hnR hp) (fun p hp => hlt8 p (.tail _ (.tail _ (.tail _ (hnR p hp))))) (by omega) p2 p3
end Mine
end
section
open PySem PySem.W PyProof.Rows PySem.Calls
namespace Mine
section
variable {prog : Program} {w : World} {A : Around} {s : Shared} {env : Env} {h₀ : Heap} {x : Str} {body : List Stmt} {Q : Flow → Shared → Prop} {E : Value → Shared → Prop}
theorem for_range {σ : Type} {r : Addr} {a b : Int} {t u v : Tok} {n : Nat} {m₀ : Str → Option Value} (fm : (Str → Option Value) → σ → Str → Option Value) (nw : σ → List (Addr × Obj)) (P : Nat → σ → Prop) (c₀ : σ)
    (hh : A.handled = none) (F : Fr h₀ env.locals s.heap m₀) {news : List (Addr × Obj)} (N : News h₀ env.locals s.heap news) (hr : IsRange s.heap r a b 1 t u v) (hsm : Builtin.Range.small a b 1 = true) (hsz : Builtin.Range.rangeSize a b 1 = ((n : Nat) : Int)) (hn : ∀ p ∈ nw c₀, p ∈ news) (e : ∀ z, z ≠ x → m₀ z = fm m₀ c₀ z) (hp : P 0 c₀)
    (turn : ∀ I i t c h tk own, i < n → P i c → (∀ p ∈ nw c, p.1 ∉ [I]) → (∀ p ∈ own, p.1 ∈ [I]) → (∃ o, (I, o) ∈ own) →
      Fr h₀ env.locals h (fun y => if y = x then some (.int (a + (i : Int)) t) else fm m₀ c y) → News h₀ env.locals h (nw c ++ own) →
      wpAny (model prog w) A (execs body env) (FePost h₀ env.locals { s with heap := h, toks := tk } (fm m₀) nw [I] x (P (i + 1)) own Q) E { s with heap := h, toks := tk })
    (done : ∀ c u h tk, P n c → Fr h₀ env.locals h (fun y => if y = x then u else fm m₀ c y) → News h₀ env.locals h (nw c) → Q .next { s with heap := h, toks := tk }) :
    wpAny (model prog w) A (pyIter (.ref r)) (fun it s₂ => LoopAtV prog w A h₀ env x body Q E it s₂) E s := by
  k_with_none
  have N' := newsSub N hn
  refine wpAny_pyIter_range hr hsm ?_
  refine loop_core (s := { s with heap := s.heap.push _ }) (keep := []) (LCg.range_walks (I := s.heap.objs.size) hh a n) fm nw P c₀ ?_ ?_ (fun p hp => nomatch hp) ?_ (F.push _) (fun p hp => ?_) e ?_ hp ?_ ?_
  · intro hm
    exact absurd F.ns.lt ((List.mem_singleton.mp hm) ▸ Nat.lt_irrefl _)
  · exact next_is_new F
  · show IsRangeIter _ _ _ _ _
    rw [hsz]; simpa using Heap.get?_push_size _ rfl
  · rw [List.append_nil] at hp
    exact ⟨Heap.get?_push_of_some _ (N' p hp).1, (N' p hp).2⟩
  · intro p hp hI
    exact absurd (Heap.lt_size (N' p hp).1) ((List.mem_singleton.mp hI) ▸ Nat.lt_irrefl _)
  · rintro i v c h tk own hi ⟨t, rfl⟩ hPc hof hown _ hall hst₁ F₁ N₁
    exact turn s.heap.objs.size i t c h tk own hi hPc hof hown ⟨_, hall _ (by simp) (next_is_new F) _ hst₁⟩ F₁ N₁
  · intro c u h tk hPc F₁ N₁
    rw [List.append_nil] at N₁
    exact done c u h tk hPc F₁ N₁
end
end Mine
end
section
open PySem PySem.W PyProof.Rows PySem.Calls PyProof.Rows.LCg
namespace Mine
theorem la_in1 {a b c p : Addr × Obj} {r : Fa} (h : p ∈ b :: r) : p ∈ a :: b :: c :: r := by
  k_with_none
  simp only [List.mem_cons] at h ⊢; grind
theorem la_in2 {x d nrm ct Dm Dn D Ct L : Addr} {y1 y2 y3 y4 y5 y6 y7 y8 o1 o2 o3 o4 o5 : Obj} {R : Fa} {p : Addr × Obj} (h : p ∈ cellsN L o1 o2 o3 o4 o5 ((Ct, y1) :: (nrm, y2) :: (ct, y3) :: (x, y4) :: (d, y5) :: (Dm, y6) :: (Dn, y7) :: (D, y8) :: R)) : p ∈ (Ct, y1) :: (nrm, y2) :: (ct, y3) :: (x, y4) :: (d, y5) :: (Dm, y6) :: (Dn, y7) :: (D, y8) :: cellsN L o1 o2 o3 o4 o5 R := by
  simp only [List.mem_cons] at h ⊢; grind
set_option maxRecDepth 100000 in
set_option maxHeartbeats 8000000 in
theorem law_a {w : World} {dp un : Nat} {gd : Option (List Code)} {outer : List Env} {A₀ : Around} {base h₀ : Heap} {L a : Addr} {ccd : Value} {s : Shared} {Q : Flow → Shared → Prop} {E : Value → Shared → Prop} {p : Program} {loose : List Str} {mean : ExcName → Option Value} {mg mb m : Str → Option Value} {R : Fa}
  {S : Addr} {vs : List Value} {xs : List Int} {o1 o2 o3 o4 o5 : Obj} {v2 v3 v4 v5 : Option Value}
  (B : Below A₀ base outer h₀) (F : Fr h₀ L s.heap m) (X : (hd.heap_1 w.params).In h₀) (T : Top p loose mean mg mb h₀)
  (N : News h₀ L s.heap ((L + 1 + 1 + 1 + 1 + 1, o5) :: (L + 1 + 1 + 1 + 1, o4) :: (L + 1 + 1 + 1, o3) :: (L + 1 + 1, o2) :: (L + 1, o1) :: (142, tabObj #[]) :: R))
  (d1 : o1.data = .cell (some (.ref S))) (d2 : o2.data = .cell v2) (d3 : o3.data = .cell v3) (d4 : o4.data = .cell v4) (d5 : o5.data = .cell v5)
  (hS : h₀.IsList S vs.toArray) (hI : IntsAre vs xs) (hl : xs.length ≤ 63) (hL : 142 < L) (hR : ∀ p ∈ R, L + 1 + 1 + 1 + 1 + 1 < p.1)
  (hd : dp + 20 < recursionLimit) (hu : un + 400 < cLine)
  (kA : ∀ (v : Vv) (R' : Fa) (Ct : Addr) (cu : List Value) (qc : Nat) (o2' : Obj) (m' : Str → Option Value) (h' : Heap) (tk' : Nat), Base w v R' → Loc v m' → (Ct, W.listOf cu.toArray qc) ∈ R' → IntsAre cu (wrun (leadPre v.ms)).cs → o2'.data = .cell (some (.ref Ct)) → Fr h₀ L h' m' → News h₀ L h' (cellsN L o1 o2' o3 o4 o5 R') → (∀ p ∈ R', @LT.lt Nat _ (L + 1 + 1 + 1 + 1 + 1) p.1) →
    wpAny (model PySem.Challenge.rw_rs0180_01.row.prog w) (lawTop dp un gd L a ccd outer) (execs (lawB.drop 6) (lawEnv L a ccd)) Q E { s with heap := h', toks := tk' }) :
  wpAny (model PySem.Challenge.rw_rs0180_01.row.prog w) (lawTop dp un gd L a ccd outer) (execs lawB (lawEnv L a ccd)) Q E s := by
  k_with_none
  k_with "eval ListComp" => (k_here; k_dflt (refine' gc_eval ?gA ?gB ?gC ?gD ?_ ?gE; (case gA => rfl); (case gB => with_unfolding_all rfl); (case gC => rfl); (case gD => decide); (case gE => intro _; rfl)))
  k_with "exec Assign cons ListComp" => (k_here; (first | k_dflt (refine' gc_assign ?gY ?gA ?gS ?gB ?gC ?gD ?_ ?gE; (case gY => rfl); (case gA => rfl); (case gS => with_unfolding_all rfl); (case gB => with_unfolding_all rfl); (case gC => rfl); (case gD => decide); (case gE => intro _; rfl)) | k_dflt (refine' wpAny_Assign_Name ?_ ?gS; (case gS => with_unfolding_all rfl))))
  k_with "pyIter ref" => (with_reducible refine stop_ ?_)
  k_with "call type:enumerate" => (with_reducible refine stop_ ?_)
  k_with "storeName" => (k_here; k_dflt (first | (refine' storeX_L ?F ?N ?_ ?a ?b; (case F => k_asm); (case N => k_asm); (case a => rfl); (case b => rfl); k_whole; intro _ _ _; (try k_sweep)) | (refine stop_ ?_)))
  k_with "execs cons" => ((with_reducible show wpAny _ _ (execs (PySem.Stmt.Assign [PySem.Expr.Name (PySem.Str.ofString "down") _] _ _ :: _) _) _ _ _); (with_reducible refine stop_ ?_))
  k_with "execs cons Assign cons" => ((with_reducible show wpAny _ _ (execs (PySem.Stmt.Assign [PySem.Expr.Name (PySem.Str.ofString "down") _] _ _ :: _) _) _ _ _); (with_reducible refine stop_ ?_))
  k_with "exec Assign cons ListComp" => (with_reducible refine stop_ ?_)
  k_with "call type:list" => (with_reducible refine stop_ ?_)
  k_with "mem" => ((repeat (first | with_reducible assumption | refine List.mem_cons_of_mem _ ?_)); done)
  k_with "eval Name" => (k_here; k_dflt (first | (refine' nameX_L ?F ?v ?_ ?a ?b; (case F => k_asm); (case a => rfl); (case b => rfl); (case v => rfl); k_whole) | (refine' nameX_K ?F ?X ?T ?e ?_ ?a ?b; (case F => k_asm); (case X => k_asm); (case T => k_asm); (case a => rfl); (case b => rfl); (case e => k_is); k_whole) | (refine' nameX_B ?F ?X ?T ?e ?v ?n ?_ ?a ?b; (case F => k_asm); (case X => k_asm); (case T => k_asm); (case a => rfl); (case b => rfl); (case e => k_is); (case v => boot_fast); (case n => decide); k_whole)))
  k_with "call builtin:sum" => (with_reducible refine stop_ ?_)
  k_with "subscriptTail Name Constant ref int" => (with_reducible refine stop_ ?_)
  k_with "subscriptTail List" => (with_reducible refine stop_ ?_)
  k_with "subscriptTail List BinOp ref int" => (with_reducible refine stop_ ?_)
  k_with "call ref" => (with_reducible refine stop_ ?_)
  generalize hb : lawB = b
  conv at hb => lhs; whnf
  subst hb
  unfold lawTop lawEnv
  generalize hb : lawS = b
  conv at hb => lhs; whnf
  subst hb
  revert X; k_fill; intro X
  k_steps
  refine unstop ?_
  k_dflt (refine' gc_assign ?gY ?gA ?gS ?gB ?gC ?gD ?_ ?gE; (case gY => rfl); (case gA => rfl); (case gS => with_unfolding_all rfl); (case gB => with_unfolding_all rfl); (case gC => rfl); (case gD => decide); (case gE => intro _; rfl))
  k_steps
  refine unstop ?_
  rename News h₀ L _ _ => N1
  refine' it_enum ?hh ?hF N1 (.head _) ?_
  case hh => rfl
  case hF => k_asm
  intro I e h1 Md St hI1 he1 F1 N2 Sr
  refine' compS (R := fun i y => ∃ (k : Nat) (t : Tok), k ≤ 999999 ∧ y = .int k t) (Sr _ _ _) ?ha ?hb F1 N2 ?hc ?hd ?he ?hf ?hL ?hY ?hP ?_ ?_
  case hL => rfl
  case hY => rfl
  case hP => rfl
  case ha => decide
  case hb => rfl
  case hc => exact cov_enum N2 (.head _) hI1 he1
  case hd => intro p hp; rw [List.mem_singleton.mp hp]; exact .head _
  case he => rw [sizeLine_eq]; show 4 ≤ _; omega
  case hf => exact fun C => asg_pair (P' := fun i x y => (∃ t, x = .int i t) ∧ [Value.int 0 s.toks, Value.int 22387 (s.toks + 1), Value.int 10 (s.toks + 1 + 1), Value.int 4321 (s.toks + 1 + 1 + 1)][i]? = some y) rfl (fun _ _ _ h => enum_item h) rfl rfl rfl (by decide)
  · rintro E D C i ys h2 tk2 oC hi ⟨oC', m₂, v, u, hoC, hN2, hma, hmb, ⟨t, rfl⟩, hv⟩ hDC hoff F2 own N3
    obtain rfl : oC = oC' := by simpa using hoC
    obtain ⟨z0, tz, rfl, _⟩ := ints_get (ns := [0, 22387, 10, 4321]) (.cons _ _ (.cons _ _ (.cons _ _ (.cons _ _ .nil)))) hv
    try dsimp only
    k_steps
    refine unstop ?_
    rename News h₀ L _ _ => N4
    refine' sum_pick rfl ?uF N4 (.head _) hI ?_
    case uF => k_asm
    intro z h' tk t' F5 N5
    k_steps
    exact GOne.intro (by k_asm) N5 (fun _ h => .tail _ h) (mod_mill _ _)
  · intro D ys h2 tk2 hyl hyR F2 N3 hlt
    obtain ⟨cz, c1, c2, c3⟩ := nats_of hyR
    have hcl : cz.length = 4 := c1.trans hyl
    clear hyR
    try dsimp only
    k_steps
    refine unstop ?_
    rename News h₀ L _ _ => N4
    refine' item_ints N4 (.tail _ (.head _)) c2 (by decide) ?z1 ?z2 ?_
    case z1 => omega
    case z2 => rw [List.length_map]; omega
    intro x0 t0 hx0
    have hx0 := cell_get c3 hx0
    k_steps
    refine unstop ?_
    have hf0 : 0 ≤ x0.fmod 7 := Int.fmod_nonneg_of_pos _ (by decide)
    have hf1 : x0.fmod 7 < 7 := Int.fmod_lt_of_pos _ (by decide)
    rename News h₀ L _ _ => N5
    refine item_anyK (ns := [6, 5, 4, 6, 3, 2, 1]) (News.isList N5 (.head _)) (.cons _ _ (.cons _ _ (.cons _ _ (.cons _ _ (.cons _ _ (.cons _ _ (.cons _ _ .nil))))))) hf0 hf1 (by omega) ?_
    intro t1
    obtain ⟨k, hk, hk1, hk6⟩ := menu_manyD hf0 hf1
    rw [hk]
    clear hf0 hf1 hx0 hk
    k_steps
    refine unstop ?_
    rename News h₀ L _ _ => N6
    have N7 : News h₀ L _ ((D, lst ys) :: cellsN L o1 o2 o3 o4 o5 R) := newsSub N6 fun p hp => la_in1 hp
    have hlt2 : ∀ p ∈ cellsN L o1 o2 o3 o4 o5 R, @LT.lt Nat _ p.1 D := fun p hp => hlt p (.tail _ hp)
    clear N6 hlt
    refine' item_ints N7 (.head _) c2 (by decide) ?z1 ?z2 ?_
    case z1 => omega
    case z2 => rw [List.length_map]; omega
    intro x1 t1 hx1
    have hx1 := cell_get c3 hx1
    k_steps
    refine unstop ?_
    refine' net_make (k := k) ?lB ?lF ?lX ?lN ?lT ?lK hk1 hk6 hx1.1 hx1.2 ?ld ?lu ?_
    (case lB => k_asm); (case lF => k_asm); (case lX => k_asm); (case lN => k_asm); (case lT => k_asm); (case lK => first | exact rfl | assumption); (case ld => ktr_room); (case lu => ktr_units)
    intro Dn yn nz qn h3 tk3 F3 N8 lDn n1 n2 n3
    clear N7
    k_steps
    refine unstop ?_
    rename News h₀ L _ _ => N9
    refine' item_ints N9 (.tail _ (.head _)) c2 (by decide) ?z1 ?z2 ?_
    case z1 => omega
    case z2 => rw [List.length_map]; omega
    intro x2 t2 hx2
    have hx2 := cell_get c3 hx2
    k_steps
    refine unstop ?_
    refine' bent_make (ns := nz) ?lB ?lF ?lX ?lN ?lT ?lK (.head _) n2 (by omega) (by omega) n3 hx2.1 hx2.2 ?ld ?lu ?_
    (case lB => k_asm); (case lF => k_asm); (case lX => k_asm); (case lN => k_asm); (case lT => k_asm); (case lK => first | exact rfl | assumption); (case ld => ktr_room); (case lu => ktr_units)
    intro Dm ym ms qm h4 tk4 F4 N10 lDm m1 m2 m3
    clear N9
    k_steps
    refine unstop ?_
    rename News h₀ L _ _ => N11
    refine' lead_make (ns := ms) ?lB ?lF ?lX ?lN ?lT ?lK (.head _) m2 (by omega) (fun q hq => Nat.le_trans (m3 q hq) (by omega)) ?ld ?lu ?_
    (case lB => k_asm); (case lF => k_asm); (case lX => k_asm); (case lN => k_asm); (case lT => k_asm); (case lK => first | exact rfl | assumption); (case ld => ktr_room); (case lu => ktr_units)
    intro x d nrm ct cv xt t tb tn tt sb k1 k2 k3 k4 k5 h5 tk5 F5 N12 hcv lx1 lx2 lx3 lx4
    clear N11
    k_steps
    refine unstop ?_
    rename News h₀ L _ _ => N13
    have hcvl : cv.length ≤ 1000 := by
      have e1 := hcv.length
      have e2 := (wrun_bound (leadPre ms)).2.1
      have e3 := leadPre_len (ns := ms) (fun q hq => Nat.le_trans (m3 q hq) (by omega))
      omega
    refine' kup_listOfT (zs := cv) ?uF N13 (.tail _ (.head _)) (List.toList_toArray) ?_ ?uz
    case uF => k_asm
    case uz => rw [List.toList_toArray, sizeLine_eq]; omega
    intro Ct qc h6 F6 N14 l14
    k_steps
    refine unstop ?_
    rename News h₀ L _ _ => N15
    obtain ⟨R', hR'⟩ : ∃ R' : Fa, R' = (Ct, W.listOf cv.toArray qc) :: wsNews w x d nrm ct cv (wrun (leadPre ms)) xt t tb tn tt sb k1 k2 k3 k4 k5 ((Dm, W.listOf (List.toArray ym) qm) :: (Dn, W.listOf (List.toArray yn) qn) :: (D, lst ys) :: R) := ⟨_, rfl⟩
    have N16 : News h₀ L _ (cellsN L o1 o2 o3 o4 o5 R') := newsSub N15 fun p hp => by rw [hR'] at hp; exact la_in2 hp
    have lD : @LT.lt Nat _ (L + 1 + 1 + 1 + 1 + 1) D := cells_lt hlt2
    have lDn' : @LT.lt Nat _ D Dn := lDn (D, _) (.head _)
    have lDm' : @LT.lt Nat _ Dn Dm := lDm (Dn, _) (.head _)
    have ld' : @LT.lt Nat _ Dm d := lx1 (Dm, _) (.head _)
    have lCt : @LT.lt Nat _ ct Ct := l14 (ct, _) (.tail _ (.head _))
    have hR2 : ∀ p ∈ R', @LT.lt Nat _ (L + 1 + 1 + 1 + 1 + 1) p.1 := by
      intro p hp
      have e1 := Nat.lt_trans lD lDn'
      have e2 := Nat.lt_trans e1 lDm'
      have e3 := Nat.lt_trans e2 ld'
      have e4 := Nat.lt_trans e3 lx2
      have e5 := Nat.lt_trans e4 lx3
      have e6 := Nat.lt_trans e5 lx4
      have e7 := Nat.lt_trans e5 lCt
      rw [hR'] at hp
      simp only [wsNews, List.mem_cons] at hp
      rcases hp with q | q | q | q | q | q | q | q | q
      · rw [q]; exact e7
      · rw [q]; exact e6
      · rw [q]; exact e5
      · rw [q]; exact e4
      · rw [q]; exact e3
      · rw [q]; exact e2
      · rw [q]; exact e1
      · rw [q]; exact lD
      · exact hR p q
    refine storeX_C (F := by k_asm) N16 rfl (upd_counts hL hR2) d2 ?_
    intro h7 o2' F7 N17 hd2
    k_steps
    refine unstop ?_
    obtain ⟨qd, mD⟩ : ∃ q, (D, W.listOf ys.toArray q) ∈ R' := ⟨_, by rw [hR']; exact .tail _ (.tail _ (.tail _ (.tail _ (.tail _ (.tail _ (.tail _ (.head _)))))))⟩
    refine kA ⟨D, Dn, Dm, x, d, nrm, ct, ys, yn, ym, cv, qd, qn, qm, xt, t, tb, tn, tt, sb, k1, k2, k3, k4, k5, cz, nz, ms, k, _⟩ R' Ct cv qc o2' _ _ _ ⟨mD, ?_, ?_, ?_, c2, n2, m2, hcv, hcl, c3, n1, n3, by rw [m1, n1], m3, hk1, hk6⟩ ⟨rfl, rfl, rfl, rfl, rfl⟩ (by rw [hR']; exact .head _) hcv hd2 (by k_asm) N17 hR2
    · rw [hR']; exact .tail _ (.tail _ (.tail _ (.tail _ (.tail _ (.tail _ (.head _))))))
    · rw [hR']; exact .tail _ (.tail _ (.tail _ (.tail _ (.tail _ (.head _)))))
    · intro p hp
      rw [hR']
      refine .tail _ ?_
      simp only [wsNews, List.mem_cons, List.not_mem_nil, or_false] at hp
      rcases hp with q | q | q | q
      · rw [q]; exact .head _
      · rw [q]; exact .tail _ (.head _)
      · rw [q]; exact .tail _ (.tail _ (.head _))
      · rw [q]; exact .tail _ (.tail _ (.tail _ (.head _)))
end Mine
end
section
open PySem PySem.W PyProof.Rows PySem.Calls
namespace Mine
structure Bs where
  (lo hi : Int) (tl th : Tok) (mid : Option Value)
def bsF (m₀ : Str → Option Value) (c : Bs) : Str → Option Value := fun z => if z = "lo" then some (.int c.lo c.tl) else if z = "hi" then some (.int c.hi c.th) else if z = "mid" then c.mid else m₀ z
theorem bsF_of {m₀ m' : Str → Option Value} {c : Bs} (h1 : m' "lo" = some (.int c.lo c.tl)) (h2 : m' "hi" = some (.int c.hi c.th)) (h3 : m' "mid" = c.mid) (h4 : ∀ z : Str, z ≠ "lo" → z ≠ "hi" → z ≠ "mid" → m' z = m₀ z) : ∀ z, m' z = bsF m₀ c z := by
  k_with_none
  intro z
  unfold bsF
  by_cases e1 : z = "lo"
  · rw [if_pos e1, e1]; exact h1
  · rw [if_neg e1]
    by_cases e2 : z = "hi"
    · rw [if_pos e2, e2]; exact h2
    · rw [if_neg e2]
      by_cases e3 : z = "mid"
      · rw [if_pos e3, e3]; exact h3
      · rw [if_neg e3]; exact h4 z e1 e2 e3
def bsP (ns : List Int) (p : Int → Bool) (c : Bs) : Prop := 0 ≤ c.lo ∧ c.lo ≤ c.hi ∧ c.hi ≤ ns.length ∧ (∀ (i : Nat) v, (i : Int) < c.lo → ns[i]? = some v → p v = true) ∧ (∀ (i : Nat) v, c.hi ≤ (i : Int) → ns[i]? = some v → p v = false)
theorem bs_mid0 {ns : List Int} {p : Int → Bool} {c : Bs} (h : bsP ns p c) (hl : c.lo < c.hi) : 0 ≤ (c.lo + c.hi).fdiv 2 := by
  obtain ⟨a1, a2, a3, _, _⟩ := h
  rw [Int.fdiv_eq_ediv_of_nonneg _ (by omega)]; omega
theorem bs_mid1 {ns : List Int} {p : Int → Bool} {c : Bs} (h : bsP ns p c) (hl : c.lo < c.hi) : (c.lo + c.hi).fdiv 2 < ns.length := by
  obtain ⟨a1, a2, a3, _, _⟩ := h
  rw [Int.fdiv_eq_ediv_of_nonneg _ (by omega)]; omega
theorem bs_start {ns : List Int} {p : Int → Bool} {t u : Tok} {v : Option Value} : bsP ns p ⟨0, ns.length, t, u, v⟩ :=
  ⟨Int.le_refl _, by show (0 : Int) ≤ ns.length; omega, Int.le_refl _, fun i v h => by have : (i : Int) < 0 := h; omega, fun i v h e => by
    have h : (ns.length : Int) ≤ i := h
    rw [List.getElem?_eq_none (by omega)] at e; cases e⟩
/-- the ints that go right are a head of the list -/
def Mono (ns : List Int) (p : Int → Bool) : Prop := ∀ (i j : Nat) u v, i ≤ j → ns[i]? = some u → ns[j]? = some v → p v = true → p u = true
theorem mono_le {ns : List Int} (x : Int) (hs : ns.Pairwise (· ≤ ·)) : Mono ns (fun v => decide (v ≤ x)) := by
  intro i j u v hij eu ev h
  obtain ⟨hi, rfl⟩ := List.getElem?_eq_some_iff.mp eu
  obtain ⟨hj, rfl⟩ := List.getElem?_eq_some_iff.mp ev
  rcases Nat.lt_or_eq_of_le hij with q | q
  · have := List.pairwise_iff_getElem.mp hs _ _ hi hj q; simp at h ⊢; omega
  · subst q; exact h
theorem mono_lt {ns : List Int} (x : Int) (hs : ns.Pairwise (· ≤ ·)) : Mono ns (fun v => decide (v < x)) := by
  intro i j u v hij eu ev h
  obtain ⟨hi, rfl⟩ := List.getElem?_eq_some_iff.mp eu
  obtain ⟨hj, rfl⟩ := List.getElem?_eq_some_iff.mp ev
  rcases Nat.lt_or_eq_of_le hij with q | q
  · have := List.pairwise_iff_getElem.mp hs _ _ hi hj q; simp at h ⊢; omega
  · subst q; exact h
theorem bs_hi {ns : List Int} {p : Int → Bool} {v : Int} {c : Bs} {t u : Tok} {o : Option Value} (hs : Mono ns p) (h : bsP ns p c) (hl : c.lo < c.hi) (e : ns[((c.lo + c.hi).fdiv 2).toNat]? = some v) (hx : p v = false) : bsP ns p ⟨c.lo, (c.lo + c.hi).fdiv 2, t, u, o⟩ := by
  have m0 := bs_mid0 h hl
  have m1 := bs_mid1 h hl
  obtain ⟨a1, a2, a3, a4, a5⟩ := h
  have em : (c.lo + c.hi).fdiv 2 = (c.lo + c.hi) / 2 := Int.fdiv_eq_ediv_of_nonneg _ (by omega)
  refine ⟨a1, by show c.lo ≤ (c.lo + c.hi).fdiv 2; omega, by show (c.lo + c.hi).fdiv 2 ≤ ns.length; omega, a4, fun i u hi eu => ?_⟩
  have hi : (c.lo + c.hi).fdiv 2 ≤ i := hi
  cases q : p u with
  | false => rfl
  | true => have := hs _ i v u (by omega) e eu q; rw [hx] at this; cases this
theorem bs_lo {ns : List Int} {p : Int → Bool} {v : Int} {c : Bs} {t u : Tok} {o : Option Value} (hs : Mono ns p) (h : bsP ns p c) (hl : c.lo < c.hi) (e : ns[((c.lo + c.hi).fdiv 2).toNat]? = some v) (hx : p v = true) : bsP ns p ⟨(c.lo + c.hi).fdiv 2 + 1, c.hi, t, u, o⟩ := by
  have m0 := bs_mid0 h hl
  have m1 := bs_mid1 h hl
  obtain ⟨a1, a2, a3, a4, a5⟩ := h
  have em : (c.lo + c.hi).fdiv 2 = (c.lo + c.hi) / 2 := Int.fdiv_eq_ediv_of_nonneg _ (by omega)
  refine ⟨by show 0 ≤ (c.lo + c.hi).fdiv 2 + 1; omega, by show (c.lo + c.hi).fdiv 2 + 1 ≤ c.hi; omega, a3, fun i u hi eu => ?_, a5⟩
  have hi : i < (c.lo + c.hi).fdiv 2 + 1 := hi
  exact hs i _ u v (by omega) eu e hx
theorem countP_head {ns : List Int} {p : Int → Bool} {k : Nat} (hk : k ≤ ns.length) (h1 : ∀ (i : Nat) v, i < k → ns[i]? = some v → p v = true) (h2 : ∀ (i : Nat) v, k ≤ i → ns[i]? = some v → p v = false) : ns.countP p = k := by
  rw [← List.take_append_drop k ns, List.countP_append]
  have e1 : (ns.take k).countP p = (ns.take k).length := List.countP_eq_length.mpr fun v hv => by
    obtain ⟨i, hi, rfl⟩ := List.getElem_of_mem hv
    rw [List.length_take] at hi
    refine h1 i _ (by omega) ?_
    rw [List.getElem_take, List.getElem?_eq_getElem (by omega)]
  have e2 : (ns.drop k).countP p = 0 := List.countP_eq_zero.mpr fun v hv => by
    obtain ⟨i, hi, rfl⟩ := List.getElem_of_mem hv
    rw [List.length_drop] at hi
    have := h2 (k + i) ns[k + i] (by omega) (List.getElem?_eq_getElem (by omega))
    rw [List.getElem_drop, this]; simp
  rw [e1, e2, List.length_take]; omega
theorem bs_end {ns : List Int} {p : Int → Bool} {c : Bs} (h : bsP ns p c) (hl : ¬ c.lo < c.hi) : c.lo = (ns.countP p : Nat) := by
  obtain ⟨a1, a2, a3, a4, a5⟩ := h
  have := countP_head (ns := ns) (p := p) (k := c.lo.toNat) (by omega) (fun i v hi e => a4 i v (by omega) e) (fun i v hi e => a5 i v (by omega) e)
  omega
theorem lam_z {ss : List Str} {k : Nat} {v : Str} (h : ∀ s ∈ ss, s.length ≤ sizeLine) (e : ss[k]? = some v) : v.length ≤ sizeLine := h v (List.mem_of_getElem? e)
theorem LamAt.fnAt {h₀ h : Heap} {L : Addr} {news : List (Addr × Obj)} {f : Addr} (N : News h₀ L h news) (x : LamAt news f) : FnAt f h := by
  obtain ⟨q, pa, p1, p2, p3, pm, c', ctv, oc, vs, t, h1, _⟩ := x
  exact FnAt.of N h1
abbrev lens (ss : List Str) : List Int := ss.map fun s => (s.length : Int)
theorem lens_get {ss : List Str} {k : Nat} {v : Str} (h : ss[k]? = some v) : (lens ss)[k]? = some (v.length : Int) := by simp [lens, h]
theorem bs_mid1s {ss : List Str} {p : Int → Bool} {c : Bs} (h : bsP (lens ss) p c) (hl : c.lo < c.hi) : (c.lo + c.hi).fdiv 2 < ss.length := by
  have := bs_mid1 h hl; simpa [lens] using this
section
set_option maxRecDepth 100000 in
set_option maxHeartbeats 8000000 in
theorem bisR_int {w : World} {dp un : Nat} {gd : Option (List Code)} {cn : Str} {cs : Scope} {a : Addr} {ccd : Value} {cl : List (Str × Addr)} {outer : List Env} {A₀ : Around} {base h₀ : Heap} {L : Addr} {m : Str → Option Value} {s : Shared} {Q E : Value → Shared → Prop} {p : Program} {loose : List Str} {mean : ExcName → Option Value} {mg mb : Str → Option Value} {news : List (Addr × Obj)} {row : Addr} {vs : List Value} {ns : List Int} {n : Nat} {x : Int} {t t0 : Tok}
  (B : Below A₀ base outer h₀) (F : Fr h₀ L s.heap m) (X : (hd.heap_1 w.params).In h₀) (N : News h₀ L s.heap news) (T : Top p loose mean mg mb h₀) (hk : cs.kind = .function)
  (hrow : (row, W.listOf vs.toArray n) ∈ news) (hz : vs.length < 2 ^ 62) (hI : IntsAre vs ns) (hs : ns.Pairwise (· ≤ ·)) (hd : dp + 1 < recursionLimit) (hu : un + 8 < cLine)
  (h : ∀ t h' tk', Fr h₀ L h' m → News h₀ L h' news → Q (.int (ns.countP (fun v => decide (v ≤ x))) t) { s with heap := h', toks := tk' }) :
  wpAny (model PySem.Challenge.rw_rs0180_01.row.prog w) (ktrTop dp un gd cn cs L a ccd cl outer) (call (.ref 39) [.ref row, .int x t, .int 0 t0, .none] []) Q E s := by
  k_with_none
  k_with "mem" => with_reducible assumption
  k_with "call builtin:len" => (k_here; (with_reducible show wpAny _ _ (call (Value.builtin "len") [Value.ref _]) _ _ _); (refine' len_mem ?lN ?lm ?lz ?_; (case lN => k_asm); (case lm => k_mem); (case lz => assumption)); intro _ _)
  k_with "exec While Compare cons nil" => (with_reducible refine stop_ ?_)
  k_with "subscriptTail" => (k_here; (with_reducible show wpAny _ _ (subscriptTail _ _ (Value.ref _) (Value.int _ _)) _ _ _); (refine' item_ints ?lN ?lm ?lI ?lz ?ly ?ll ?_; (case lN => k_asm); (case lm => k_mem); (case lI => assumption); (case lz => exact bs_mid0 (by assumption) (by assumption)); (case ly => assumption); (case ll => exact bs_mid1 (by assumption) (by assumption))); intro _ _ _)
  revert X; k_fill; intro X
  have hM := mono_le x hs
  refine wpAny_call ?_
  k_dflt (refine' code_def (binds := [("a", .ref row), ("x", .int x t), ("lo", .int 0 t0), ("hi", .none), ("key", .none)]) ?k1 ?k2 ?k3 ?k4 ?k5 ?kA ?kF ?kK ?k6 ?k7 ?k8 ?k9 ?kB ?_ ?c2 ?c3 ?c4 ?c5; (case kA => exact rfl); (case kF => exact rfl); (case kK => first | exact rfl | assumption); (case k1 => k_asm); (case k2 => k_asm); (case k3 => k_asm); (case k4 => k_asm); (case k5 => k_asm); (case k6 => k_is); (case k7 => k_is); (case k8 => ktr_room); (case k9 => first | exact BindsTo.of_eq rfl | (refine' kp_binds ?kx ?ke; (case kx => k_in); (case ke => exact fun _ => rfl))); (case c5 => decide); (case kB => exact locs rfl); (case c2 => exact rfl); (case c3 => exact rfl); (case c4 => exact rfl); k_whole; intro g' L' h' FG' F' N' B' X' T'; (try dsimp only); (try k_lift B'); (try k_fold))
  k_steps
  refine unstop ?_
  refine' while_ (σ := Bs) bsF (fun _ => news) (bsP ns (fun v => decide (v ≤ x))) (fun c => (c.hi - c.lo).toNat) ⟨0, vs.length, _, _, none⟩ ?kF ?kN ?ke (fun _ h => h) ?kp ?kt
  case kF => k_asm
  case kN => k_asm
  case ke =>
    refine bsF_of ?ea ?eb ?ec ?ed
    case ea => with_unfolding_all rfl
    case eb => exact if_pos rfl
    case ec => with_unfolding_all rfl
    case ed => intro z h1 h2 h3; rfl
  case kp => rw [hI.length]; exact bs_start
  case kt =>
    intro c h1 tk1 hP F2 N2
    k_steps
    · dsimp only [WhPost]
      refine' WhEnd.intro (⟨c.lo, (c.lo + c.hi).fdiv 2, c.tl, _, some (.int ((c.lo + c.hi).fdiv 2) _)⟩ : Bs) ?eF ?eN (bsF_of ?ea ?eb ?ec ?ed) (fun _ h => h) ?ep ?em
      case eF => k_asm
      case eN => k_asm
      case ea => with_unfolding_all rfl
      case eb => exact if_pos rfl
      case ec => with_unfolding_all rfl
      case ed => intro z h1 h2 h3; simp only [bsF, h1, h2, h3, if_false]
      case ep => exact bs_hi hM hP (by assumption) (by assumption) (by simp; omega)
      case em => have := bs_mid1 hP (by assumption); have q := bs_mid0 hP (by assumption); have : (c.lo + c.hi).fdiv 2 = (c.lo + c.hi) / 2 := Int.fdiv_eq_ediv_of_nonneg _ (by omega); dsimp only; omega
    · dsimp only [WhPost]
      refine' WhEnd.intro (⟨(c.lo + c.hi).fdiv 2 + 1, c.hi, _, c.th, some (.int ((c.lo + c.hi).fdiv 2) _)⟩ : Bs) ?eF ?eN (bsF_of ?ea ?eb ?ec ?ed) (fun _ h => h) ?ep ?em
      case eF => k_asm
      case eN => k_asm
      case ea => exact if_pos rfl
      case eb => with_unfolding_all rfl
      case ec => with_unfolding_all rfl
      case ed => intro z h1 h2 h3; simp only [bsF, h1, h2, h3, if_false]
      case ep => exact bs_lo hM hP (by assumption) (by assumption) (by simp; omega)
      case em => have := bs_mid1 hP (by assumption); have q := bs_mid0 hP (by assumption); have : (c.lo + c.hi).fdiv 2 = (c.lo + c.hi) / 2 := Int.fdiv_eq_ediv_of_nonneg _ (by omega); dsimp only; omega
    · rw [bs_end hP (by assumption)]; exact h _ _ _ (by k_asm) (by k_asm)
set_option maxRecDepth 100000 in
set_option maxHeartbeats 8000000 in
theorem bisR_int2 {w : World} {dp un : Nat} {gd : Option (List Code)} {cn : Str} {cs : Scope} {a : Addr} {ccd : Value} {cl : List (Str × Addr)} {outer : List Env} {A₀ : Around} {base h₀ : Heap} {L : Addr} {m : Str → Option Value} {s : Shared} {Q E : Value → Shared → Prop} {p : Program} {loose : List Str} {mean : ExcName → Option Value} {mg mb : Str → Option Value} {news : List (Addr × Obj)} {row : Addr} {vs : List Value} {ns : List Int} {n : Nat} {x : Int} {t t0 : Tok}
  (B : Below A₀ base outer h₀) (F : Fr h₀ L s.heap m) (X : (hd.heap_1 w.params).In h₀) (N : News h₀ L s.heap news) (T : Top p loose mean mg mb h₀) (hk : cs.kind = .function)
  (hrow : (row, W.listOf vs.toArray n) ∈ news) (hz : vs.length < 2 ^ 62) (hI : IntsAre vs ns) (hs : ns.Pairwise (· ≤ ·)) (hd : dp + 1 < recursionLimit) (hu : un + 8 < cLine)
  (h : ∀ t h' tk', Fr h₀ L h' m → News h₀ L h' news → Q (.int (ns.countP (fun v => decide (v ≤ x))) t) { s with heap := h', toks := tk' }) :
  wpAny (model PySem.Challenge.rw_rs0180_01.row.prog w) (ktrTop dp un gd cn cs L a ccd cl outer) (call (.ref 39) [.ref row, .int x t] []) Q E s := by
  revert X; k_fill; intro X
  have hM := mono_le x hs
  refine wpAny_call ?_
  k_dflt (refine' code_def (binds := [("a", .ref row), ("x", .int x t), ("lo", .int 0 209), ("hi", .none), ("key", .none)]) ?k1 ?k2 ?k3 ?k4 ?k5 ?kA ?kF ?kK ?k6 ?k7 ?k8 ?k9 ?kB ?_ ?c2 ?c3 ?c4 ?c5; (case kA => exact rfl); (case kF => exact rfl); (case kK => first | exact rfl | assumption); (case k1 => k_asm); (case k2 => k_asm); (case k3 => k_asm); (case k4 => k_asm); (case k5 => k_asm); (case k6 => k_is); (case k7 => k_is); (case k8 => ktr_room); (case k9 => first | exact BindsTo.of_eq rfl | (refine' kp_binds ?kx ?ke; (case kx => k_in); (case ke => exact fun _ => rfl))); (case c5 => decide); (case kB => exact locs rfl); (case c2 => exact rfl); (case c3 => exact rfl); (case c4 => exact rfl); k_whole; intro g' L' h' FG' F' N' B' X' T'; (try dsimp only); (try k_lift B'); (try k_fold))
  k_steps
  refine unstop ?_
  refine' while_ (σ := Bs) bsF (fun _ => news) (bsP ns (fun v => decide (v ≤ x))) (fun c => (c.hi - c.lo).toNat) ⟨0, vs.length, _, _, none⟩ ?kF ?kN ?ke (fun _ h => h) ?kp ?kt
  case kF => k_asm
  case kN => k_asm
  case ke =>
    refine bsF_of ?ea ?eb ?ec ?ed
    case ea => with_unfolding_all rfl
    case eb => exact if_pos rfl
    case ec => with_unfolding_all rfl
    case ed => intro z h1 h2 h3; rfl
  case kp => rw [hI.length]; exact bs_start
  case kt =>
    intro c h1 tk1 hP F2 N2
    k_steps
    · dsimp only [WhPost]
      refine' WhEnd.intro (⟨c.lo, (c.lo + c.hi).fdiv 2, c.tl, _, some (.int ((c.lo + c.hi).fdiv 2) _)⟩ : Bs) ?eF ?eN (bsF_of ?ea ?eb ?ec ?ed) (fun _ h => h) ?ep ?em
      case eF => k_asm
      case eN => k_asm
      case ea => with_unfolding_all rfl
      case eb => exact if_pos rfl
      case ec => with_unfolding_all rfl
      case ed => intro z h1 h2 h3; simp only [bsF, h1, h2, h3, if_false]
      case ep => exact bs_hi hM hP (by assumption) (by assumption) (by simp; omega)
      case em => have := bs_mid1 hP (by assumption); have q := bs_mid0 hP (by assumption); have : (c.lo + c.hi).fdiv 2 = (c.lo + c.hi) / 2 := Int.fdiv_eq_ediv_of_nonneg _ (by omega); dsimp only; omega
    · dsimp only [WhPost]
      refine' WhEnd.intro (⟨(c.lo + c.hi).fdiv 2 + 1, c.hi, _, c.th, some (.int ((c.lo + c.hi).fdiv 2) _)⟩ : Bs) ?eF ?eN (bsF_of ?ea ?eb ?ec ?ed) (fun _ h => h) ?ep ?em
      case eF => k_asm
      case eN => k_asm
      case ea => exact if_pos rfl
      case eb => with_unfolding_all rfl
      case ec => with_unfolding_all rfl
      case ed => intro z h1 h2 h3; simp only [bsF, h1, h2, h3, if_false]
      case ep => exact bs_lo hM hP (by assumption) (by assumption) (by simp; omega)
      case em => have := bs_mid1 hP (by assumption); have q := bs_mid0 hP (by assumption); have : (c.lo + c.hi).fdiv 2 = (c.lo + c.hi) / 2 := Int.fdiv_eq_ediv_of_nonneg _ (by omega); dsimp only; omega
    · rw [bs_end hP (by assumption)]; exact h _ _ _ (by k_asm) (by k_asm)
set_option maxRecDepth 100000 in
set_option maxHeartbeats 8000000 in
theorem bisL_int2 {w : World} {dp un : Nat} {gd : Option (List Code)} {cn : Str} {cs : Scope} {a : Addr} {ccd : Value} {cl : List (Str × Addr)} {outer : List Env} {A₀ : Around} {base h₀ : Heap} {L : Addr} {m : Str → Option Value} {s : Shared} {Q E : Value → Shared → Prop} {p : Program} {loose : List Str} {mean : ExcName → Option Value} {mg mb : Str → Option Value} {news : List (Addr × Obj)} {row : Addr} {vs : List Value} {ns : List Int} {n : Nat} {x : Int} {t t0 : Tok}
  (B : Below A₀ base outer h₀) (F : Fr h₀ L s.heap m) (X : (hd.heap_1 w.params).In h₀) (N : News h₀ L s.heap news) (T : Top p loose mean mg mb h₀) (hk : cs.kind = .function)
  (hrow : (row, W.listOf vs.toArray n) ∈ news) (hz : vs.length < 2 ^ 62) (hI : IntsAre vs ns) (hs : ns.Pairwise (· ≤ ·)) (hd : dp + 1 < recursionLimit) (hu : un + 8 < cLine)
  (h : ∀ t h' tk', Fr h₀ L h' m → News h₀ L h' news → Q (.int (ns.countP (fun v => decide (v < x))) t) { s with heap := h', toks := tk' }) :
  wpAny (model PySem.Challenge.rw_rs0180_01.row.prog w) (ktrTop dp un gd cn cs L a ccd cl outer) (call (.ref 57) [.ref row, .int x t] []) Q E s := by
  revert X; k_fill; intro X
  have hM := mono_lt x hs
  refine wpAny_call ?_
  k_dflt (refine' code_def (binds := [("a", .ref row), ("x", .int x t), ("lo", .int 0 236), ("hi", .none), ("key", .none)]) ?k1 ?k2 ?k3 ?k4 ?k5 ?kA ?kF ?kK ?k6 ?k7 ?k8 ?k9 ?kB ?_ ?c2 ?c3 ?c4 ?c5; (case kA => exact rfl); (case kF => exact rfl); (case kK => first | exact rfl | assumption); (case k1 => k_asm); (case k2 => k_asm); (case k3 => k_asm); (case k4 => k_asm); (case k5 => k_asm); (case k6 => k_is); (case k7 => k_is); (case k8 => ktr_room); (case k9 => first | exact BindsTo.of_eq rfl | (refine' kp_binds ?kx ?ke; (case kx => k_in); (case ke => exact fun _ => rfl))); (case c5 => decide); (case kB => exact locs rfl); (case c2 => exact rfl); (case c3 => exact rfl); (case c4 => exact rfl); k_whole; intro g' L' h' FG' F' N' B' X' T'; (try dsimp only); (try k_lift B'); (try k_fold))
  k_steps
  refine unstop ?_
  refine' while_ (σ := Bs) bsF (fun _ => news) (bsP ns (fun v => decide (v < x))) (fun c => (c.hi - c.lo).toNat) ⟨0, vs.length, _, _, none⟩ ?kF ?kN ?ke (fun _ h => h) ?kp ?kt
  case kF => k_asm
  case kN => k_asm
  case ke =>
    refine bsF_of ?ea ?eb ?ec ?ed
    case ea => with_unfolding_all rfl
    case eb => exact if_pos rfl
    case ec => with_unfolding_all rfl
    case ed => intro z h1 h2 h3; rfl
  case kp => rw [hI.length]; exact bs_start
  case kt =>
    intro c h1 tk1 hP F2 N2
    k_steps
    · dsimp only [WhPost]
      refine' WhEnd.intro (⟨(c.lo + c.hi).fdiv 2 + 1, c.hi, _, c.th, some (.int ((c.lo + c.hi).fdiv 2) _)⟩ : Bs) ?eF ?eN (bsF_of ?ea ?eb ?ec ?ed) (fun _ h => h) ?ep ?em
      case eF => k_asm
      case eN => k_asm
      case ea => exact if_pos rfl
      case eb => with_unfolding_all rfl
      case ec => with_unfolding_all rfl
      case ed => intro z h1 h2 h3; simp only [bsF, h1, h2, h3, if_false]
      case ep => exact bs_lo hM hP (by assumption) (by assumption) (by simp; omega)
      case em => have := bs_mid1 hP (by assumption); have q := bs_mid0 hP (by assumption); have : (c.lo + c.hi).fdiv 2 = (c.lo + c.hi) / 2 := Int.fdiv_eq_ediv_of_nonneg _ (by omega); dsimp only; omega
    · dsimp only [WhPost]
      refine' WhEnd.intro (⟨c.lo, (c.lo + c.hi).fdiv 2, c.tl, _, some (.int ((c.lo + c.hi).fdiv 2) _)⟩ : Bs) ?eF ?eN (bsF_of ?ea ?eb ?ec ?ed) (fun _ h => h) ?ep ?em
      case eF => k_asm
      case eN => k_asm
      case ea => with_unfolding_all rfl
      case eb => exact if_pos rfl
      case ec => with_unfolding_all rfl
      case ed => intro z h1 h2 h3; simp only [bsF, h1, h2, h3, if_false]
      case ep => exact bs_hi hM hP (by assumption) (by assumption) (by simp; omega)
      case em => have := bs_mid1 hP (by assumption); have q := bs_mid0 hP (by assumption); have : (c.lo + c.hi).fdiv 2 = (c.lo + c.hi) / 2 := Int.fdiv_eq_ediv_of_nonneg _ (by omega); dsimp only; omega
    · rw [bs_end hP (by assumption)]; exact h _ _ _ (by k_asm) (by k_asm)
end
end Mine
end
section
open PySem PySem.W PyProof.Rows PySem.Calls
namespace Mine
set_option maxRecDepth 100000 in
set_option maxHeartbeats 8000000 in
theorem bisR_str {w : World} {dp un : Nat} {gd : Option (List Code)} {cn : Str} {cs : Scope} {a : Addr} {ccd : Value} {cl : List (Str × Addr)} {outer : List Env} {A₀ : Around} {base h₀ : Heap} {L : Addr} {m : Str → Option Value} {s : Shared} {Q E : Value → Shared → Prop} {p : Program} {loose : List Str} {mean : ExcName → Option Value} {mg mb : Str → Option Value} {news : List (Addr × Obj)} {row : Addr} {vs : List Value} {ss : List Str} {f : Addr} {n : Nat} {x : Int} {t t0 : Tok}
  (B : Below A₀ base outer h₀) (F : Fr h₀ L s.heap m) (X : (hd.heap_1 w.params).In h₀) (N : News h₀ L s.heap news) (T : Top p loose mean mg mb h₀) (hk : cs.kind = .function)
  (hrow : (row, W.listOf vs.toArray n) ∈ news) (hz : vs.length < 2 ^ 62) (hI : StrsAre vs ss) (hss : ∀ s ∈ ss, s.length ≤ sizeLine) (hf : LamAt news f) (hs : (lens ss).Pairwise (· ≤ ·)) (hd : dp + 2 < recursionLimit) (hu : un + 16 < cLine)
  (h : ∀ t h' tk', Fr h₀ L h' m → News h₀ L h' news → Q (.int ((lens ss).countP (fun v => decide (v ≤ x))) t) { s with heap := h', toks := tk' }) :
  wpAny (model PySem.Challenge.rw_rs0180_01.row.prog w) (ktrTop dp un gd cn cs L a ccd cl outer) (call (.ref 39) [.ref row, .int x t, .int 0 t0, .none] [("key", .ref f)]) Q E s := by
  k_with_none
  k_with "mem" => with_reducible assumption
  k_with "call builtin:len" => (k_here; (with_reducible show wpAny _ _ (call (Value.builtin "len") [Value.ref _]) _ _ _); (refine' len_mem ?lN ?lm ?lz ?_; (case lN => k_asm); (case lm => k_mem); (case lz => assumption)); intro _ _)
  k_with "exec While Compare cons nil" => (with_reducible refine stop_ ?_)
  k_with "subscriptTail" => (k_here; (with_reducible show wpAny _ _ (subscriptTail _ _ (Value.ref _) (Value.int _ _)) _ _ _); (refine' item_strs ?lN ?lm ?lI ?lz ?ly ?ll ?_; (case lN => k_asm); (case lm => k_mem); (case lI => assumption); (case lz => exact bs_mid0 (by assumption) (by assumption)); (case ly => assumption); (case ll => exact bs_mid1s (by assumption) (by assumption))); intro _ _ _)
  k_with "callWith ref" => (k_here; (refine' callWith_F ?lk ?_; (case lk => exact LamAt.fnAt (by k_asm) (by assumption)); k_whole))
  k_with "And" => (k_here; (with_reducible show FnAt _ _ ∧ _); refine ⟨LamAt.fnAt (by k_asm) (by assumption), ?_⟩; try dsimp only [List.nil_append, List.cons_append])
  k_with "call ref" => (k_here; (with_reducible show wpAny _ _ (call (Value.ref _) [Value.str _ _]) _ _ _); (refine' lam_len ?lB ?lF ?lX ?lN ?lT ?lK ?lL ?lz ?ld ?lu ?_; (case lB => k_asm); (case lF => k_asm); (case lX => k_asm); (case lN => k_asm); (case lT => k_asm); (case lK => first | exact rfl | assumption); (case lL => assumption); (case lz => exact lam_z (by assumption) (by assumption)); (case ld => ktr_room); (case lu => ktr_units)); intro _ _ _ _ _; (try dsimp only))
  revert X; k_fill; intro X
  have hM := mono_le x hs
  refine wpAny_call ?_
  k_dflt (refine' code_def (binds := [("a", .ref row), ("x", .int x t), ("lo", .int 0 t0), ("hi", .none), ("key", .ref f)]) ?k1 ?k2 ?k3 ?k4 ?k5 ?kA ?kF ?kK ?k6 ?k7 ?k8 ?k9 ?kB ?_ ?c2 ?c3 ?c4 ?c5; (case kA => exact rfl); (case kF => exact rfl); (case kK => first | exact rfl | assumption); (case k1 => k_asm); (case k2 => k_asm); (case k3 => k_asm); (case k4 => k_asm); (case k5 => k_asm); (case k6 => k_is); (case k7 => k_is); (case k8 => ktr_room); (case k9 => first | exact BindsTo.of_eq rfl | (refine' kp_binds ?kx ?ke; (case kx => k_in); (case ke => exact fun _ => rfl))); (case c5 => decide); (case kB => exact locs rfl); (case c2 => exact rfl); (case c3 => exact rfl); (case c4 => exact rfl); k_whole; intro g' L' h' FG' F' N' B' X' T'; (try dsimp only); (try k_lift B'); (try k_fold))
  k_steps
  refine unstop ?_
  refine' while_ (σ := Bs) bsF (fun _ => news) (bsP (lens ss) (fun v => decide (v ≤ x))) (fun c => (c.hi - c.lo).toNat) ⟨0, vs.length, _, _, none⟩ ?kF ?kN ?ke (fun _ h => h) ?kp ?kt
  case kF => k_asm
  case kN => k_asm
  case ke =>
    refine bsF_of ?ea ?eb ?ec ?ed
    case ea => with_unfolding_all rfl
    case eb => exact if_pos rfl
    case ec => with_unfolding_all rfl
    case ed => intro z h1 h2 h3; rfl
  case kp => (have e : vs.length = (lens ss).length := (by rw [StrsAre.length hI, List.length_map])); rw [e]; exact bs_start
  case kt =>
    intro c h1 tk1 hP F2 N2
    k_steps
    · dsimp only [WhPost]
      refine' WhEnd.intro (⟨c.lo, (c.lo + c.hi).fdiv 2, c.tl, _, some (.int ((c.lo + c.hi).fdiv 2) _)⟩ : Bs) ?eF ?eN (bsF_of ?ea ?eb ?ec ?ed) (fun _ h => h) ?ep ?em
      case eF => k_asm
      case eN => k_asm
      case ea => with_unfolding_all rfl
      case eb => exact if_pos rfl
      case ec => with_unfolding_all rfl
      case ed => intro z h1 h2 h3; simp only [bsF, h1, h2, h3, if_false]
      case ep => exact bs_hi hM hP (by assumption) (lens_get (by assumption)) (by simp; omega)
      case em => have := bs_mid1 hP (by assumption); have q := bs_mid0 hP (by assumption); have : (c.lo + c.hi).fdiv 2 = (c.lo + c.hi) / 2 := Int.fdiv_eq_ediv_of_nonneg _ (by omega); dsimp only; omega
    · dsimp only [WhPost]
      refine' WhEnd.intro (⟨(c.lo + c.hi).fdiv 2 + 1, c.hi, _, c.th, some (.int ((c.lo + c.hi).fdiv 2) _)⟩ : Bs) ?eF ?eN (bsF_of ?ea ?eb ?ec ?ed) (fun _ h => h) ?ep ?em
      case eF => k_asm
      case eN => k_asm
      case ea => exact if_pos rfl
      case eb => with_unfolding_all rfl
      case ec => with_unfolding_all rfl
      case ed => intro z h1 h2 h3; simp only [bsF, h1, h2, h3, if_false]
      case ep => exact bs_lo hM hP (by assumption) (lens_get (by assumption)) (by simp; omega)
      case em => have := bs_mid1 hP (by assumption); have q := bs_mid0 hP (by assumption); have : (c.lo + c.hi).fdiv 2 = (c.lo + c.hi) / 2 := Int.fdiv_eq_ediv_of_nonneg _ (by omega); dsimp only; omega
    · rw [bs_end hP (by assumption)]; exact h _ _ _ (by k_asm) (by k_asm)
set_option maxRecDepth 100000 in
set_option maxHeartbeats 8000000 in
theorem bisL_str {w : World} {dp un : Nat} {gd : Option (List Code)} {cn : Str} {cs : Scope} {a : Addr} {ccd : Value} {cl : List (Str × Addr)} {outer : List Env} {A₀ : Around} {base h₀ : Heap} {L : Addr} {m : Str → Option Value} {s : Shared} {Q E : Value → Shared → Prop} {p : Program} {loose : List Str} {mean : ExcName → Option Value} {mg mb : Str → Option Value} {news : List (Addr × Obj)} {row : Addr} {vs : List Value} {ss : List Str} {f : Addr} {n : Nat} {x : Int} {t t0 : Tok}
  (B : Below A₀ base outer h₀) (F : Fr h₀ L s.heap m) (X : (hd.heap_1 w.params).In h₀) (N : News h₀ L s.heap news) (T : Top p loose mean mg mb h₀) (hk : cs.kind = .function)
  (hrow : (row, W.listOf vs.toArray n) ∈ news) (hz : vs.length < 2 ^ 62) (hI : StrsAre vs ss) (hss : ∀ s ∈ ss, s.length ≤ sizeLine) (hf : LamAt news f) (hs : (lens ss).Pairwise (· ≤ ·)) (hd : dp + 2 < recursionLimit) (hu : un + 16 < cLine)
  (h : ∀ t h' tk', Fr h₀ L h' m → News h₀ L h' news → Q (.int ((lens ss).countP (fun v => decide (v < x))) t) { s with heap := h', toks := tk' }) :
  wpAny (model PySem.Challenge.rw_rs0180_01.row.prog w) (ktrTop dp un gd cn cs L a ccd cl outer) (call (.ref 57) [.ref row, .int x t, .int 0 t0, .none] [("key", .ref f)]) Q E s := by
  revert X; k_fill; intro X
  have hM := mono_lt x hs
  refine wpAny_call ?_
  k_dflt (refine' code_def (binds := [("a", .ref row), ("x", .int x t), ("lo", .int 0 t0), ("hi", .none), ("key", .ref f)]) ?k1 ?k2 ?k3 ?k4 ?k5 ?kA ?kF ?kK ?k6 ?k7 ?k8 ?k9 ?kB ?_ ?c2 ?c3 ?c4 ?c5; (case kA => exact rfl); (case kF => exact rfl); (case kK => first | exact rfl | assumption); (case k1 => k_asm); (case k2 => k_asm); (case k3 => k_asm); (case k4 => k_asm); (case k5 => k_asm); (case k6 => k_is); (case k7 => k_is); (case k8 => ktr_room); (case k9 => first | exact BindsTo.of_eq rfl | (refine' kp_binds ?kx ?ke; (case kx => k_in); (case ke => exact fun _ => rfl))); (case c5 => decide); (case kB => exact locs rfl); (case c2 => exact rfl); (case c3 => exact rfl); (case c4 => exact rfl); k_whole; intro g' L' h' FG' F' N' B' X' T'; (try dsimp only); (try k_lift B'); (try k_fold))
  k_steps
  refine unstop ?_
  refine' while_ (σ := Bs) bsF (fun _ => news) (bsP (lens ss) (fun v => decide (v < x))) (fun c => (c.hi - c.lo).toNat) ⟨0, vs.length, _, _, none⟩ ?kF ?kN ?ke (fun _ h => h) ?kp ?kt
  case kF => k_asm
  case kN => k_asm
  case ke =>
    refine bsF_of ?ea ?eb ?ec ?ed
    case ea => with_unfolding_all rfl
    case eb => exact if_pos rfl
    case ec => with_unfolding_all rfl
    case ed => intro z h1 h2 h3; rfl
  case kp => (have e : vs.length = (lens ss).length := (by rw [StrsAre.length hI, List.length_map])); rw [e]; exact bs_start
  case kt =>
    intro c h1 tk1 hP F2 N2
    k_steps
    · dsimp only [WhPost]
      refine' WhEnd.intro (⟨(c.lo + c.hi).fdiv 2 + 1, c.hi, _, c.th, some (.int ((c.lo + c.hi).fdiv 2) _)⟩ : Bs) ?eF ?eN (bsF_of ?ea ?eb ?ec ?ed) (fun _ h => h) ?ep ?em
      case eF => k_asm
      case eN => k_asm
      case ea => exact if_pos rfl
      case eb => with_unfolding_all rfl
      case ec => with_unfolding_all rfl
      case ed => intro z h1 h2 h3; simp only [bsF, h1, h2, h3, if_false]
      case ep => exact bs_lo hM hP (by assumption) (lens_get (by assumption)) (by simp; omega)
      case em => have := bs_mid1 hP (by assumption); have q := bs_mid0 hP (by assumption); have : (c.lo + c.hi).fdiv 2 = (c.lo + c.hi) / 2 := Int.fdiv_eq_ediv_of_nonneg _ (by omega); dsimp only; omega
    · dsimp only [WhPost]
      refine' WhEnd.intro (⟨c.lo, (c.lo + c.hi).fdiv 2, c.tl, _, some (.int ((c.lo + c.hi).fdiv 2) _)⟩ : Bs) ?eF ?eN (bsF_of ?ea ?eb ?ec ?ed) (fun _ h => h) ?ep ?em
      case eF => k_asm
      case eN => k_asm
      case ea => with_unfolding_all rfl
      case eb => exact if_pos rfl
      case ec => with_unfolding_all rfl
      case ed => intro z h1 h2 h3; simp only [bsF, h1, h2, h3, if_false]
      case ep => exact bs_hi hM hP (by assumption) (lens_get (by assumption)) (by simp; omega)
      case em => have := bs_mid1 hP (by assumption); have q := bs_mid0 hP (by assumption); have : (c.lo + c.hi).fdiv 2 = (c.lo + c.hi) / 2 := Int.fdiv_eq_ediv_of_nonneg _ (by omega); dsimp only; omega
    · rw [bs_end hP (by assumption)]; exact h _ _ _ (by k_asm) (by k_asm)
end Mine
end
section
open PySem PySem.W PyProof.Rows PySem.Calls
namespace Mine
abbrev insAt {α : Type} (l : List α) (k : Nat) (y : α) : List α := l.take k ++ y :: l.drop k
theorem kl_ins_nat (l : List Value) (k : Nat) (y : Value) (hk : k ≤ l.length) : kl_ins l (k : Int) y = insAt l k y := by
  k_with_none
  unfold kl_ins
  have e : (if (k : Int) < 0 then ((k : Int) + (l.length : Int)).toNat else min (k : Int).toNat l.length) = k := by
    rw [if_neg (by omega)]; omega
  rw [e]
theorem Upd.mem {d : Addr} {o o' : Obj} {a b : List (Addr × Obj)} (U : Upd d o o' a b) : (d, o) ∈ a := by
  obtain ⟨pre, post, rfl, _, _, _⟩ := U.split
  exact List.mem_append.mpr (.inr (.head _))
theorem insMeth {prog : Program} {w : World} {A : Around} {E : Value → Shared → Prop} {s : Shared} {h₀ : Heap} {L D : Addr} {news : List (Addr × Obj)} {its : Array Value} {n : Nat} {pl : Sem Bool} {Q : Value × List Value → Shared → Prop}
  (N : News h₀ L s.heap news) (hm : (D, W.listOf its n) ∈ news) (h : Q (.builtin "list.insert", [.ref D]) s) : wpAny (model prog w) A (getMethod (.ref D) (PySem.Str.ofString "insert") pl) Q E s :=
  kl_method N hm PySem.F.slot_list_insert PySem.F.type_list_insert h
theorem insCall {prog : Program} {w : World} {A : Around} {E : Value → Shared → Prop} {s : Shared} {h₀ : Heap} {L D : Addr} {m : Str → Option Value} {news news' : List (Addr × Obj)} {vs : List Value} {n k : Nat} {u : Tok} {y : Value} {Q : Value → Shared → Prop}
  (F : Fr h₀ L s.heap m) (N : News h₀ L s.heap news) (hk : k ≤ vs.length) (hz : vs.length ≤ 1000) (U : Upd D (W.listOf vs.toArray n) (W.listOf (insAt vs k y).toArray (n + 1)) news news') (h : ∀ h', Fr h₀ L h' m → News h₀ L h' news' → Q .none { s with heap := h' }) :
    wpAny (model prog w) A (call (.builtin "list.insert") [.ref D, .int (k : Int) u, y]) Q E s := by
  refine kl_insert F N ?_ (kl_ins_nat vs k y hk) U (by rw [sizeLine_eq]; show vs.length ≤ _; omega) h
  unfold Builtin.List.listFitsIndex
  simp; omega
set_option maxRecDepth 100000 in
set_option maxHeartbeats 8000000 in
theorem insR_int {w : World} {dp un : Nat} {gd : Option (List Code)} {cn : Str} {cs : Scope} {a : Addr} {ccd : Value} {cl : List (Str × Addr)} {outer : List Env} {A₀ : Around} {base h₀ : Heap} {L : Addr} {m : Str → Option Value} {s : Shared} {Q E : Value → Shared → Prop} {p : Program} {loose : List Str} {mean : ExcName → Option Value} {mg mb : Str → Option Value} {news : List (Addr × Obj)} {news' : List (Addr × Obj)} {row : Addr} {vs : List Value} {ns : List Int} {x : Int} {t : Tok} {n : Nat}
  (B : Below A₀ base outer h₀) (F : Fr h₀ L s.heap m) (X : (hd.heap_1 w.params).In h₀) (N : News h₀ L s.heap news) (T : Top p loose mean mg mb h₀) (hk : cs.kind = .function)
  (hz : vs.length ≤ 1000) (hI : IntsAre vs ns) (hs : ns.Pairwise (· ≤ ·)) (U : Upd row (W.listOf vs.toArray n) (W.listOf (insAt vs (ns.countP fun v => decide (v ≤ x)) (.int x t)).toArray (n + 1)) news news') (hd : dp + 2 < recursionLimit) (hu : un + 16 < cLine)
  (h : ∀ h' tk', Fr h₀ L h' m → News h₀ L h' news' → Q .none { s with heap := h', toks := tk' }) :
  wpAny (model PySem.Challenge.rw_rs0180_01.row.prog w) (ktrTop dp un gd cn cs L a ccd cl outer) (call (.ref 30) [.ref row, .int x t] []) Q E s := by
  k_with_none
  k_with "mem" => first | with_reducible assumption | exact Upd.mem (by assumption)
  k_with "getMethod ref" => (k_here; (with_reducible show wpAny _ _ (getMethod (Value.ref _) (PySem.Str.ofString "insert") _) _ _ _); k_dflt (refine' insMeth ?lN ?lm ?_; (case lN => k_asm); (case lm => k_mem)))
  k_with "call builtin:list.insert" => (k_here; k_dflt (refine' insCall ?lF ?lN ?lk ?lz ?lU ?_; (case lF => k_asm); (case lN => k_asm); (case lU => assumption); (case lz => assumption); (case lk => assumption)); intro _ _ _)
  k_with "call ref" => (k_here; k_dflt (refine' bisR_int ?lB ?lF ?lX ?lN ?lT ?lK ?lm ?lz ?lI ?ls ?ld ?lu ?_; (case lB => k_asm); (case lF => k_asm); (case lX => k_asm); (case lN => k_asm); (case lT => k_asm); (case lK => first | exact rfl | assumption); (case ld => ktr_room); (case lu => ktr_units); (case lm => k_mem); (case lz => assumption); (case lI => assumption); (case ls => assumption)); intro _ _ _ _ _; (try dsimp only))
  revert X; k_fill; intro X
  have hz2 : vs.length < 2 ^ 62 := by omega
  have hk2 : (ns.countP fun v => decide (v ≤ x)) ≤ vs.length := by rw [hI.length]; exact List.countP_le_length
  refine wpAny_call ?_
  k_dflt (refine' code_def (binds := [("a", .ref row), ("x", .int x t), ("lo", .int 0 196), ("hi", .none), ("key", .none)]) ?k1 ?k2 ?k3 ?k4 ?k5 ?kA ?kF ?kK ?k6 ?k7 ?k8 ?k9 ?kB ?_ ?c2 ?c3 ?c4 ?c5; (case kA => exact rfl); (case kF => exact rfl); (case kK => first | exact rfl | assumption); (case k1 => k_asm); (case k2 => k_asm); (case k3 => k_asm); (case k4 => k_asm); (case k5 => k_asm); (case k6 => k_is); (case k7 => k_is); (case k8 => ktr_room); (case k9 => first | exact BindsTo.of_eq rfl | (refine' kp_binds ?kx ?ke; (case kx => k_in); (case ke => exact fun _ => rfl))); (case c5 => decide); (case kB => exact locs rfl); (case c2 => exact rfl); (case c3 => exact rfl); (case c4 => exact rfl); k_whole; intro g' L' h' FG' F' N' B' X' T'; (try dsimp only); (try k_lift B'); (try k_fold))
  k_steps
  exact h _ _ (by k_asm) (by k_asm)
set_option maxRecDepth 100000 in
set_option maxHeartbeats 8000000 in
theorem insR_str {w : World} {dp un : Nat} {gd : Option (List Code)} {cn : Str} {cs : Scope} {a : Addr} {ccd : Value} {cl : List (Str × Addr)} {outer : List Env} {A₀ : Around} {base h₀ : Heap} {L : Addr} {m : Str → Option Value} {s : Shared} {Q E : Value → Shared → Prop} {p : Program} {loose : List Str} {mean : ExcName → Option Value} {mg mb : Str → Option Value} {news : List (Addr × Obj)} {news' : List (Addr × Obj)} {row : Addr} {vs : List Value} {ss : List Str} {f : Addr} {x : Str} {t : Tok} {n : Nat}
  (B : Below A₀ base outer h₀) (F : Fr h₀ L s.heap m) (X : (hd.heap_1 w.params).In h₀) (N : News h₀ L s.heap news) (T : Top p loose mean mg mb h₀) (hk : cs.kind = .function)
  (hz : vs.length ≤ 1000) (hI : StrsAre vs ss) (hss : ∀ s ∈ ss, s.length ≤ sizeLine) (hx : x.length ≤ sizeLine) (hf : LamAt news f) (hs : (lens ss).Pairwise (· ≤ ·)) (U : Upd row (W.listOf vs.toArray n) (W.listOf (insAt vs ((lens ss).countP fun v => decide (v ≤ (x.length : Int))) (.str x t)).toArray (n + 1)) news news') (hd : dp + 3 < recursionLimit) (hu : un + 24 < cLine)
  (h : ∀ h' tk', Fr h₀ L h' m → News h₀ L h' news' → Q .none { s with heap := h', toks := tk' }) :
  wpAny (model PySem.Challenge.rw_rs0180_01.row.prog w) (ktrTop dp un gd cn cs L a ccd cl outer) (call (.ref 30) [.ref row, .str x t] [("key", .ref f)]) Q E s := by
  k_with_none
  k_with "mem" => first | with_reducible assumption | exact Upd.mem (by assumption)
  k_with "getMethod ref" => (k_here; (with_reducible show wpAny _ _ (getMethod (Value.ref _) (PySem.Str.ofString "insert") _) _ _ _); k_dflt (refine' insMeth ?lN ?lm ?_; (case lN => k_asm); (case lm => k_mem)))
  k_with "call builtin:list.insert" => (k_here; k_dflt (refine' insCall ?lF ?lN ?lk ?lz ?lU ?_; (case lF => k_asm); (case lN => k_asm); (case lU => assumption); (case lz => assumption); (case lk => assumption)); intro _ _ _)
  k_with "call ref" => (k_here; k_dflt (refine' bisR_int ?lB ?lF ?lX ?lN ?lT ?lK ?lm ?lz ?lI ?ls ?ld ?lu ?_; (case lB => k_asm); (case lF => k_asm); (case lX => k_asm); (case lN => k_asm); (case lT => k_asm); (case lK => first | exact rfl | assumption); (case ld => ktr_room); (case lu => ktr_units); (case lm => k_mem); (case lz => assumption); (case lI => assumption); (case ls => assumption)); intro _ _ _ _ _; (try dsimp only))
  k_with "callWith ref" => (k_here; k_dflt (refine' callWith_F ?lk ?_; (case lk => exact LamAt.fnAt (by k_asm) (by assumption)); k_whole))
  k_with "And" => (k_here; (with_reducible show FnAt _ _ ∧ _); refine ⟨LamAt.fnAt (by k_asm) (by assumption), ?_⟩; try dsimp only [List.nil_append, List.cons_append])
  k_with "call ref" => (k_here; (with_reducible show wpAny _ _ (call (Value.ref _) [Value.str _ _]) _ _ _); k_dflt (refine' lam_len ?lB ?lF ?lX ?lN ?lT ?lK ?lL ?lz ?ld ?lu ?_; (case lB => k_asm); (case lF => k_asm); (case lX => k_asm); (case lN => k_asm); (case lT => k_asm); (case lK => first | exact rfl | assumption); (case ld => ktr_room); (case lu => ktr_units); (case lL => assumption); (case lz => assumption)); intro _ _ _ _ _; (try dsimp only))
  k_with "call ref" => (k_here; k_dflt (refine' bisR_str ?lB ?lF ?lX ?lN ?lT ?lK ?lm ?lz ?lI ?lS ?lf ?ls ?ld ?lu ?_; (case lB => k_asm); (case lF => k_asm); (case lX => k_asm); (case lN => k_asm); (case lT => k_asm); (case lK => first | exact rfl | assumption); (case ld => ktr_room); (case lu => ktr_units); (case lm => k_mem); (case lz => assumption); (case lI => assumption); (case lS => assumption); (case lf => assumption); (case ls => assumption)); intro _ _ _ _ _; (try dsimp only))
  k_with "call ref" => (k_here; k_dflt (refine' bisL_str ?lB ?lF ?lX ?lN ?lT ?lK ?lm ?lz ?lI ?lS ?lf ?ls ?ld ?lu ?_; (case lB => k_asm); (case lF => k_asm); (case lX => k_asm); (case lN => k_asm); (case lT => k_asm); (case lK => first | exact rfl | assumption); (case ld => ktr_room); (case lu => ktr_units); (case lm => k_mem); (case lz => assumption); (case lI => assumption); (case lS => assumption); (case lf => assumption); (case ls => assumption)); intro _ _ _ _ _; (try dsimp only))
  revert X; k_fill; intro X
  have hz2 : vs.length < 2 ^ 62 := by omega
  have hk2 : ((lens ss).countP fun v => decide (v ≤ (x.length : Int))) ≤ vs.length := by rw [StrsAre.length hI, ← List.length_map (f := fun s => ((PySem.Str.length s : Nat) : Int))]; exact List.countP_le_length
  refine wpAny_call ?_
  k_dflt (refine' code_def (binds := [("a", .ref row), ("x", .str x t), ("lo", .int 0 196), ("hi", .none), ("key", .ref f)]) ?k1 ?k2 ?k3 ?k4 ?k5 ?kA ?kF ?kK ?k6 ?k7 ?k8 ?k9 ?kB ?_ ?c2 ?c3 ?c4 ?c5; (case kA => exact rfl); (case kF => exact rfl); (case kK => first | exact rfl | assumption); (case k1 => k_asm); (case k2 => k_asm); (case k3 => k_asm); (case k4 => k_asm); (case k5 => k_asm); (case k6 => k_is); (case k7 => k_is); (case k8 => ktr_room); (case k9 => first | exact BindsTo.of_eq rfl | (refine' kp_binds ?kx ?ke; (case kx => k_in); (case ke => exact fun _ => rfl))); (case c5 => decide); (case kB => exact locs rfl); (case c2 => exact rfl); (case c3 => exact rfl); (case c4 => exact rfl); k_whole; intro g' L' h' FG' F' N' B' X' T'; (try dsimp only); (try k_lift B'); (try k_fold))
  k_steps
  exact h _ _ (by k_asm) (by k_asm)
set_option maxRecDepth 100000 in
set_option maxHeartbeats 8000000 in
theorem insL_str {w : World} {dp un : Nat} {gd : Option (List Code)} {cn : Str} {cs : Scope} {a : Addr} {ccd : Value} {cl : List (Str × Addr)} {outer : List Env} {A₀ : Around} {base h₀ : Heap} {L : Addr} {m : Str → Option Value} {s : Shared} {Q E : Value → Shared → Prop} {p : Program} {loose : List Str} {mean : ExcName → Option Value} {mg mb : Str → Option Value} {news : List (Addr × Obj)} {news' : List (Addr × Obj)} {row : Addr} {vs : List Value} {ss : List Str} {f : Addr} {x : Str} {t : Tok} {n : Nat}
  (B : Below A₀ base outer h₀) (F : Fr h₀ L s.heap m) (X : (hd.heap_1 w.params).In h₀) (N : News h₀ L s.heap news) (T : Top p loose mean mg mb h₀) (hk : cs.kind = .function)
  (hz : vs.length ≤ 1000) (hI : StrsAre vs ss) (hss : ∀ s ∈ ss, s.length ≤ sizeLine) (hx : x.length ≤ sizeLine) (hf : LamAt news f) (hs : (lens ss).Pairwise (· ≤ ·)) (U : Upd row (W.listOf vs.toArray n) (W.listOf (insAt vs ((lens ss).countP fun v => decide (v < (x.length : Int))) (.str x t)).toArray (n + 1)) news news') (hd : dp + 3 < recursionLimit) (hu : un + 24 < cLine)
  (h : ∀ h' tk', Fr h₀ L h' m → News h₀ L h' news' → Q .none { s with heap := h', toks := tk' }) :
  wpAny (model PySem.Challenge.rw_rs0180_01.row.prog w) (ktrTop dp un gd cn cs L a ccd cl outer) (call (.ref 48) [.ref row, .str x t] [("key", .ref f)]) Q E s := by
  revert X; k_fill; intro X
  have hz2 : vs.length < 2 ^ 62 := by omega
  have hk2 : ((lens ss).countP fun v => decide (v < (x.length : Int))) ≤ vs.length := by rw [StrsAre.length hI, ← List.length_map (f := fun s => ((PySem.Str.length s : Nat) : Int))]; exact List.countP_le_length
  refine wpAny_call ?_
  k_dflt (refine' code_def (binds := [("a", .ref row), ("x", .str x t), ("lo", .int 0 223), ("hi", .none), ("key", .ref f)]) ?k1 ?k2 ?k3 ?k4 ?k5 ?kA ?kF ?kK ?k6 ?k7 ?k8 ?k9 ?kB ?_ ?c2 ?c3 ?c4 ?c5; (case kA => exact rfl); (case kF => exact rfl); (case kK => first | exact rfl | assumption); (case k1 => k_asm); (case k2 => k_asm); (case k3 => k_asm); (case k4 => k_asm); (case k5 => k_asm); (case k6 => k_is); (case k7 => k_is); (case k8 => ktr_room); (case k9 => first | exact BindsTo.of_eq rfl | (refine' kp_binds ?kx ?ke; (case kx => k_in); (case ke => exact fun _ => rfl))); (case c5 => decide); (case kB => exact locs rfl); (case c2 => exact rfl); (case c3 => exact rfl); (case c4 => exact rfl); k_whole; intro g' L' h' FG' F' N' B' X' T'; (try dsimp only); (try k_lift B'); (try k_fold))
  k_steps
  exact h _ _ (by k_asm) (by k_asm)
end Mine
end
section
open PySem PySem.W PyProof.Rows PySem.Calls
namespace Mine
abbrev TK := Keyed × Nat
def tK (X : Array TK) (i : Nat) : Int := match X[i]? with
  | some p => numOf p.1.1
  | none => 0
def tT (X : Array TK) (i : Nat) : Nat := match X[i]? with
  | some p => p.2
  | none => 0
theorem tK_map (X : Array TK) (i : Nat) : K (X.map (·.1)) i = tK X i := by
  k_with_none
  unfold K tK
  rw [Array.getElem?_map]
  cases X[i]? <;> rfl
theorem map_swapIB {α β : Type} (f : α → β) (xs : Array α) (i j : Nat) : (xs.swapIfInBounds i j).map f = (xs.map f).swapIfInBounds i j := by
  apply Array.ext'
  simp only [Array.swapIfInBounds_def, Array.size_map]
  by_cases hi : i < xs.size
  · by_cases hj : j < xs.size
    · simp [hi, hj]
    · simp [hi, hj]
  · simp [hi]
theorem map_foldl_swaps {α β γ : Type} (f : α → β) (p q : γ → Nat) : ∀ (l : List γ) (xs : Array α), (l.foldl (fun a k => a.swapIfInBounds (p k) (q k)) xs).map f = l.foldl (fun a k => a.swapIfInBounds (p k) (q k)) (xs.map f)
  | [], xs => rfl
  | k :: l, xs => by
    simp only [List.foldl_cons]
    rw [map_foldl_swaps f p q l, map_swapIB]
theorem map_bubble {α β : Type} (f : α → β) (xs : Array α) (s d : Nat) : (bubble xs s d).map f = bubble (xs.map f) s d := map_foldl_swaps f _ _ _ _
theorem map_mirror {α β : Type} (f : α → β) (xs : Array α) (i j d : Nat) : (mirror xs i j d).map f = mirror (xs.map f) i j d := map_foldl_swaps f _ _ _ _
theorem tK_congr {X Y : Array TK} {i j : Nat} (h : X[i]? = Y[j]?) : tK X i = tK Y j := by unfold tK; rw [h]
theorem tT_congr {X Y : Array TK} {i j : Nat} (h : X[i]? = Y[j]?) : tT X i = tT Y j := by unfold tT; rw [h]
theorem tK_bubble {xs : Array TK} {src d : Nat} (hs : src < xs.size) (hd : d ≤ src) (k : Nat) :
    tK (bubble xs src d) k = if k = src - d then tK xs src else if src - d < k ∧ k ≤ src then tK xs (k - 1) else tK xs k := by
  have e := getElem?_bubble hs d hd k
  split at e <;> rename_i h1
  · rw [if_pos h1]; exact tK_congr e
  · rw [if_neg h1]
    split at e <;> rename_i h2
    · rw [if_pos h2]; exact tK_congr e
    · rw [if_neg h2]; exact tK_congr e
theorem tT_bubble {xs : Array TK} {src d : Nat} (hs : src < xs.size) (hd : d ≤ src) (k : Nat) :
    tT (bubble xs src d) k = if k = src - d then tT xs src else if src - d < k ∧ k ≤ src then tT xs (k - 1) else tT xs k := by
  have e := getElem?_bubble hs d hd k
  split at e <;> rename_i h1
  · rw [if_pos h1]; exact tT_congr e
  · rw [if_neg h1]
    split at e <;> rename_i h2
    · rw [if_pos h2]; exact tT_congr e
    · rw [if_neg h2]; exact tT_congr e
theorem tK_mirror {xs : Array TK} {i j : Nat} (hj : j ≤ xs.size) (k : Nat) : tK (mirror xs i j ((j - i) / 2)) k = if i ≤ k ∧ k < j then tK xs (i + j - 1 - k) else tK xs k := by
  have e := getElem?_mirror_all (i := i) hj k
  split at e <;> rename_i h1
  · rw [if_pos h1]; exact tK_congr e
  · rw [if_neg h1]; exact tK_congr e
theorem tT_mirror {xs : Array TK} {i j : Nat} (hj : j ≤ xs.size) (k : Nat) : tT (mirror xs i j ((j - i) / 2)) k = if i ≤ k ∧ k < j then tT xs (i + j - 1 - k) else tT xs k := by
  have e := getElem?_mirror_all (i := i) hj k
  split at e <;> rename_i h1
  · rw [if_pos h1]; exact tT_congr e
  · rw [if_neg h1]; exact tT_congr e
structure TB (a₀ : Array Keyed) (st : SortSt) (X : Array TK) : Prop where
  arr : arrOf st = X.map (·.1)
  perm : X.Perm a₀.zipIdx
  kind : kindOf st = oneType'
  failed : failedOf st = none
  pend : pendingOf st = #[]
theorem TB.size {a₀ : Array Keyed} {st : SortSt} {X : Array TK} (h : TB a₀ st X) : X.size = a₀.size := by rw [h.perm.size_eq, Array.size_zipIdx]
theorem TB.base {a₀ : Array Keyed} {st : SortSt} {X : Array TK} (h : TB a₀ st X) : SBase a₀ st := by
  refine ⟨?_, h.kind, h.failed, h.pend⟩
  rw [h.arr]
  have h1 := (Array.perm_iff_toList_perm.mp h.perm).map (·.1)
  rw [Array.toList_zipIdx, List.zipIdx_map_fst, ← Array.toList_map] at h1
  exact Array.perm_iff_toList_perm.mpr h1
theorem TB.K {a₀ : Array Keyed} {st : SortSt} {X : Array TK} (h : TB a₀ st X) (i : Nat) : K (arrOf st) i = tK X i := by rw [h.arr, tK_map]
theorem TB.bubble {a₀ : Array Keyed} {st : SortSt} {X : Array TK} (h : TB a₀ st X) (s d : Nat) : TB a₀ (setArr st (bubble (arrOf st) s d)) (bubble X s d) :=
  ⟨by show PyProof.Rows.bubble (arrOf st) s d = _; rw [h.arr, map_bubble], (bubble_perm _ _ _).trans h.perm, h.kind, h.failed, h.pend⟩
theorem TB.mirror {a₀ : Array Keyed} {st : SortSt} {X : Array TK} (h : TB a₀ st X) (i j d : Nat) : TB a₀ (setArr st (mirror (arrOf st) i j d)) (mirror X i j d) :=
  ⟨by show PyProof.Rows.mirror (arrOf st) i j d = _; rw [h.arr, map_mirror], (mirror_perm _ _ _ _).trans h.perm, h.kind, h.failed, h.pend⟩
/-- sorted up to k, like keys in their order; the rest as it lay -/
structure Up (X : Array TK) (k : Nat) : Prop where
  lt : ∀ i j, i < j → j < k → tK X i < tK X j ∨ (tK X i = tK X j ∧ tT X i < tT X j)
  head : ∀ i, i < k → tT X i < k
  tail : ∀ i, k ≤ i → i < X.size → tT X i = i
/-- falling up to k, like keys against their order but for the last q -/
structure Dn (X : Array TK) (k q : Nat) : Prop where
  lt : ∀ i j, i < j → j < k → tK X j < tK X i ∨ (tK X i = tK X j ∧ (if k ≤ i + q + 1 then tT X i < tT X j else tT X j < tT X i))
  head : ∀ i, i < k → tT X i < k
  tail : ∀ i, k ≤ i → i < X.size → tT X i = i
theorem up_bubble {X : Array TK} {k l : Nat} (hks : k < X.size) (hlk : l ≤ k) (hs : Up X k) (hlo : ∀ i, i < l → tK X i ≤ tK X k) (hhi : ∀ i, l ≤ i → i < k → tK X k < tK X i) : Up (bubble X k (k - l)) (k + 1) := by
  have bK : ∀ i, tK (bubble X k (k - l)) i = if i = l then tK X k else if l < i ∧ i ≤ k then tK X (i - 1) else tK X i := fun i => by
    rw [tK_bubble hks (Nat.sub_le _ _), Nat.sub_sub_self hlk]
  have bT : ∀ i, tT (bubble X k (k - l)) i = if i = l then k else if l < i ∧ i ≤ k then tT X (i - 1) else tT X i := fun i => by
    rw [tT_bubble hks (Nat.sub_le _ _), Nat.sub_sub_self hlk, hs.tail k (Nat.le_refl _) hks]
  refine ⟨fun i j hij hj => ?_, fun i hi => ?_, fun i h1 h2 => ?_⟩
  · have hj := Nat.le_of_lt_succ hj
    rw [bK, bK, bT, bT]
    clear bK bT hks
    by_cases e1 : i = l
    · subst e1
      rw [if_pos rfl, if_neg (Nat.ne_of_gt hij), if_pos ⟨hij, hj⟩]
      exact .inl (hhi _ (Nat.le_sub_one_of_lt hij) (Nat.sub_one_lt_of_le (Nat.zero_lt_of_lt hij) hj))
    · by_cases e2 : j = l
      · subst e2
        rw [if_neg e1, if_pos rfl, if_neg (fun h => Nat.lt_asymm h.1 hij), if_neg e1, if_pos rfl, if_neg (fun h => Nat.lt_asymm h.1 hij)]
        have a2 := hs.head i (Nat.lt_of_lt_of_le hij hlk)
        rcases Int.lt_or_eq_of_le (hlo i hij) with q | q
        · exact .inl q
        · exact .inr ⟨q, a2⟩
      · rw [if_neg e1, if_neg e2, if_neg e1, if_neg e2]
        clear hlo hhi
        by_cases h3 : l < i ∧ i ≤ k
        · have h4 : l < j ∧ j ≤ k := ⟨Nat.lt_trans h3.1 hij, hj⟩
          rw [if_pos h3, if_pos h4, if_pos h3, if_pos h4]
          exact hs.lt _ _ (by omega) (by omega)
        · have h5 : i < l := by omega
          by_cases h4 : l < j ∧ j ≤ k
          · rw [if_neg h3, if_pos h4, if_neg h3, if_pos h4]
            exact hs.lt _ _ (by omega) (by omega)
          · rw [if_neg h3, if_neg h4, if_neg h3, if_neg h4]
            exact hs.lt _ _ hij (by omega)
  · have hi := Nat.le_of_lt_succ hi
    rw [bT]
    split
    · exact Nat.lt_succ_self k
    · split
      · rename_i h
        exact Nat.lt_succ_of_lt (hs.head (i - 1) (Nat.sub_one_lt_of_le (Nat.zero_lt_of_lt h.1) hi))
      · exact Nat.lt_succ_of_lt (hs.head i (by omega))
  · rw [bubble_size] at h2
    rw [bT, if_neg (by omega), if_neg (by omega)]
    exact hs.tail i (Nat.le_of_succ_le h1) h2
section
variable {prog : Program} {w : World} {A : Around} {E : Value → Shared → Prop} {s : Shared} {a₀ : Array Keyed}
theorem tS_lt {st : SortSt} {X : Array TK} {i j : Nat} {Q : Option Bool → SortSt → Prop} (hB : TB a₀ st X) (h0 : IntKeys a₀) (hi : i < a₀.size) (hj : j < a₀.size)
    (h : Q (some (decide (tK X i < tK X j))) st) : wpS (model prog w) A E s (ltAt' i j) Q st :=
  wpS_ltK hB.base h0 hi hj (by rw [hB.K, hB.K]; exact h)
theorem tS_binary {st : SortSt} {X : Array TK} {n ok : Nat} {Q : Bool → SortSt → Prop} (h0 : IntKeys a₀) (hn : n ≤ a₀.size) (hok1 : 1 ≤ ok) (hok : ok ≤ n) (hB : TB a₀ st X) (hs : Up X ok)
    (h : ∀ st' X', TB a₀ st' X' → Up X' n → Q true st') : wpS (model prog w) A E s (binarySort' 0 n ok) Q st := by
  rw [binarySort'_eq]
  simp only [Nat.zero_add]
  refine wpS_bind (wpS_mono (wpS_forRange (I := fun k c st' => c = (none, ()) ∧ ∃ X', TB a₀ st' X' ∧ Up X' k)
    (Q := fun c st' => c = (none, ()) ∧ ∃ X', TB a₀ st' X' ∧ Up X' n) ?step ?fin ?init) ?post)
  case post =>
    rintro c st' ⟨rfl, X', hB', hs'⟩
    exact wpS_pure (h st' X' hB' hs')
  case init =>
    rw [show max ok 1 = ok by omega]
    exact ⟨rfl, X, hB, hs⟩
  case fin =>
    rintro c st' ⟨hc, X', hB', hs'⟩
    rw [show max (max ok 1) n = n by omega] at hs'
    exact ⟨hc, X', hB', hs'⟩
  case step =>
    rintro k c st' hak hkn ⟨rfl, X', hB', hs'⟩
    have hk : k < a₀.size := Nat.lt_of_lt_of_le hkn hn
    clear hn hok1 hok hak hkn hs hB
    refine wpS_bind (wpS_mono (wpS_forRange (I := fun x c st'' => st'' = st' ∧ ∃ l r, c = (none, l, r) ∧ l ≤ r ∧ r ≤ k ∧ r - l ≤ k - x ∧
        (∀ i, i < l → tK X' i ≤ tK X' k) ∧ (∀ i, r ≤ i → i < k → tK X' k < tK X' i))
      (Q := fun c st'' => st'' = st' ∧ ∃ l r, c = (none, l, r) ∧ l ≤ k ∧
        (∀ i, i < l → tK X' i ≤ tK X' k) ∧ (∀ i, l ≤ i → i < k → tK X' k < tK X' i)) ?istep ?ifin ?iinit) ?ipost)
    case iinit => exact ⟨rfl, 0, k, rfl, Nat.zero_le _, Nat.le_refl _, Nat.le_refl _, fun i hi => absurd hi (Nat.not_lt_zero _), fun i h1 h2 => absurd h2 (Nat.not_lt.mpr h1)⟩
    case ifin =>
      rintro c st'' ⟨rfl, l, r, rfl, hlr, hrk, hm, hlo, hhi⟩
      have : l = r := by omega
      subst this
      exact ⟨rfl, l, l, rfl, hrk, hlo, hhi⟩
    case istep =>
      rintro x c st'' _ hxk ⟨rfl, l, r, rfl, hlr, hrk, hm, hlo, hhi⟩
      dsimp only
      by_cases hge : l ≥ r
      · rw [if_pos hge]
        have : l = r := by omega
        subst this
        exact wpS_pure ⟨rfl, l, l, rfl, hrk, hlo, hhi⟩
      · rw [if_neg hge]
        obtain ⟨m, hmm, hm1, hm2, hm3, hm4⟩ : ∃ m, m = (l + r) / 2 ∧ l ≤ m ∧ m < r ∧ m - l ≤ k - (x + 1) ∧ r - (m + 1) ≤ k - (x + 1) := ⟨_, rfl, by omega, by omega, by omega, by omega⟩
        rw [← hmm]
        clear hmm hge hlr hm hxk
        have hmk : m < k := Nat.lt_of_lt_of_le hm2 hrk
        refine wpS_bind (tS_lt hB' h0 hk (Nat.lt_trans hmk hk) ?_)
        by_cases hless : tK X' k < tK X' m
        · simp only [hless, decide_true, if_true]
          refine wpS_pure ⟨rfl, l, m, rfl, hm1, Nat.le_of_lt hmk, hm3, hlo, fun i h1 h2 => ?_⟩
          rcases Nat.lt_or_eq_of_le h1 with q | q
          · exact Int.lt_of_lt_of_le hless ((hs'.lt _ i q h2).elim Int.le_of_lt fun e => Int.le_of_eq e.1)
          · rw [← q]; exact hless
        · simp only [hless, decide_false, Bool.false_eq_true, if_false]
          refine wpS_pure ⟨rfl, m + 1, r, rfl, hm2, hrk, hm4, fun i h1 => ?_, hhi⟩
          have hless := Int.not_lt.mp hless
          rcases Nat.lt_or_eq_of_le (Nat.le_of_lt_succ h1) with q | q
          · exact Int.le_trans ((hs'.lt i _ q hmk).elim Int.le_of_lt fun e => Int.le_of_eq e.1) hless
          · rw [q]; exact hless
    case ipost =>
      rintro c st'' ⟨rfl, l, r, rfl, hlk, hlo, hhi⟩
      show wpS _ _ _ _ (do moveDown' k l; pure (ForInStep.yield (none, ()))) _ _
      rw [moveDown'_eq]
      have hks : k < X'.size := by rw [hB'.size]; exact hk
      exact wpS_bind (wpS_modify (wpS_pure ⟨rfl, _, hB'.bubble k (k - l), up_bubble hks hlk hs' hlo hhi⟩))
theorem tS_asc {st : SortSt} {X : Array TK} {a nrem : Nat} {Q : AscSt → SortSt → Prop} (h0 : IntKeys a₀) (hn : nrem ≤ a₀.size) (ha : 1 ≤ a) (han : a ≤ nrem) (hB : TB a₀ st X) (hs : Up X a)
    (h : ∀ n, a ≤ n → n ≤ nrem → Up X n → (n = nrem ∨ tK X n < tK X (n - 1)) → Q (none, n) st) :
    wpS (model prog w) A E s (ascLoop a nrem) Q st := by
  unfold ascLoop
  refine wpS_forRange (I := fun x c st' => st' = st ∧ c = (none, x) ∧ Up X x) ?step ?fin ⟨rfl, rfl, hs⟩
  case fin =>
    rintro c st' ⟨rfl, rfl, hs'⟩
    rw [show max a nrem = nrem by omega] at hs' ⊢
    exact h nrem han (Nat.le_refl _) hs' (.inl rfl)
  case step =>
    rintro x c st' hax hxn ⟨rfl, rfl, hs'⟩
    dsimp only
    refine wpS_bind (tS_lt hB h0 (by omega) (by omega) ?_)
    by_cases hless : tK X x < tK X (x - 1)
    · simp only [hless, decide_true, if_true]
      exact wpS_pure (h x hax (by omega) hs' (.inr hless))
    · simp only [hless, decide_false, Bool.false_eq_true, if_false]
      have hxs : x < X.size := by rw [hB.size]; omega
      have hT := hs'.tail x (Nat.le_refl _) hxs
      refine wpS_pure ⟨rfl, rfl, fun i j hij hj => ?_, fun i hi => ?_, fun i h1 h2 => hs'.tail i (by omega) h2⟩
      · by_cases hjx : j < x
        · exact hs'.lt i j hij hjx
        · have hj' : j = x := by omega
          subst hj'
          have a1 := hs'.head i hij
          rcases Nat.lt_or_eq_of_le (show i ≤ j - 1 by omega) with q | q
          · have := hs'.lt i (j - 1) q (by omega); omega
          · rw [← q] at hless; omega
      · rcases Nat.lt_or_eq_of_le (show i ≤ x by omega) with q | q
        · have := hs'.head i q; omega
        · rw [q, hT]; omega
theorem tS_tail3 {st : SortSt} {X : Array TK} {n nrem : Nat} {Q : Option Nat → SortSt → Prop} (h0 : IntKeys a₀) (hn : nrem ≤ a₀.size) (h1 : 1 ≤ n) (hnn : n ≤ nrem) (hB : TB a₀ st X)
    (hs : Dn X n 0) (h : ∀ m st' X', TB a₀ st' X' → 1 ≤ m → m ≤ nrem → Up X' m → Q (some m) st') : wpS (model prog w) A E s (tail3 n nrem) Q st := by
  unfold tail3
  have hsz : n ≤ X.size := by rw [hB.size]; omega
  refine wpS_bind (wpS_reverse ?_)
  have hB' := hB.mirror 0 n ((n - 0) / 2)
  refine wpS_bind (tS_asc h0 hn h1 hnn hB' ⟨fun i j hij hj => ?_, fun i hi => ?_, fun i a b => ?_⟩ fun m hm1 hm2 hsm _ => wpS_pure (h m _ _ hB' (by omega) hm2 hsm))
  · rw [tK_mirror hsz, tK_mirror hsz, tT_mirror hsz, tT_mirror hsz, if_pos (by omega), if_pos (by omega), if_pos (by omega), if_pos (by omega)]
    have := hs.lt (0 + n - 1 - j) (0 + n - 1 - i) (by omega) (by omega)
    rw [if_neg (by omega)] at this
    omega
  · rw [tT_mirror hsz, if_pos (by omega)]
    exact hs.head _ (by omega)
  · rw [mirror_size] at b
    rw [tT_mirror hsz, if_neg (by omega)]
    exact hs.tail i a b
theorem dn_flip {X : Array TK} {x q : Nat} (hsz : x ≤ X.size) (hq : q + 1 ≤ x) (he : ∀ i, x - (q + 1) ≤ i → i < x → tK X i = tK X (x - 1)) (hs : Dn X x q) : Dn (mirror X (x - (q + 1)) x ((x - (x - (q + 1))) / 2)) x 0 := by
  refine ⟨fun i j hij hj => ?_, fun i hi => ?_, fun i a b => ?_⟩
  · rw [tK_mirror hsz, tK_mirror hsz, tT_mirror hsz, tT_mirror hsz, if_neg (show ¬ x ≤ i + 0 + 1 by omega)]
    by_cases h1 : x - (q + 1) ≤ i ∧ i < x
    · rw [if_pos h1, if_pos (by omega), if_pos h1, if_pos (by omega)]
      have a1 := he (x - (q + 1) + x - 1 - i) (by omega) (by omega)
      have a2 := he (x - (q + 1) + x - 1 - j) (by omega) (by omega)
      have := hs.lt (x - (q + 1) + x - 1 - j) (x - (q + 1) + x - 1 - i) (by omega) (by omega)
      rw [if_pos (by omega)] at this
      omega
    · rw [if_neg h1, if_neg h1]
      by_cases h2 : x - (q + 1) ≤ j ∧ j < x
      · rw [if_pos h2, if_pos h2]
        have := hs.lt i (x - (q + 1) + x - 1 - j) (by omega) (by omega)
        rw [if_neg (by omega)] at this
        exact this
      · rw [if_neg h2, if_neg h2]
        have := hs.lt i j hij hj
        rw [if_neg (by omega)] at this
        exact this
  · rw [tT_mirror hsz]
    split
    · exact hs.head _ (by omega)
    · exact hs.head _ hi
  · rw [mirror_size] at b
    rw [tT_mirror hsz, if_neg (by omega)]
    exact hs.tail i a b
theorem dn_more {X : Array TK} {x : Nat} (hxs : x < X.size) (hx : 1 ≤ x) (hs : Dn X x 0) (hless : tK X x < tK X (x - 1)) : Dn X (x + 1) 0 := by
  have hT := hs.tail x (Nat.le_refl _) hxs
  refine ⟨fun i j hij hj => ?_, fun i hi => ?_, fun i a b => hs.tail i (by omega) b⟩
  · by_cases hjx : j < x
    · have := hs.lt i j hij hjx
      rw [if_neg (by omega)] at this
      rw [if_neg (by omega)]
      exact this
    · have hj' : j = x := by omega
      subst hj'
      left
      rcases Nat.lt_or_eq_of_le (show i ≤ j - 1 by omega) with q | q
      · have := hs.lt i (j - 1) q (by omega); omega
      · rw [q]; exact hless
  · rcases Nat.lt_or_eq_of_le (show i ≤ x by omega) with q | q
    · have := hs.head i q; omega
    · rw [q, hT]; omega
theorem dn_same {X : Array TK} {x q : Nat} (hxs : x < X.size) (hq : q + 1 ≤ x) (he : ∀ i, x - (q + 1) ≤ i → i < x → tK X i = tK X (x - 1)) (hsx : ∀ i, i < x - (q + 1) → tK X (x - 1) < tK X i) (heqx : tK X x = tK X (x - 1)) (hs : Dn X x q) : Dn X (x + 1) (q + 1) := by
  have hT := hs.tail x (Nat.le_refl _) hxs
  clear hxs
  refine ⟨fun i j hij hj => ?_, fun i hi => ?_, fun i a b => hs.tail i (Nat.le_of_succ_le a) b⟩
  · rcases Nat.lt_or_eq_of_le (Nat.le_of_lt_succ hj) with hjx | e
    · clear hj
      have k := hs.lt i j hij hjx
      by_cases h5 : x ≤ i + q + 1
      · rw [if_pos h5] at k; rw [if_pos (show x + 1 ≤ i + (q + 1) + 1 by omega)]; exact k
      · rw [if_neg h5] at k; rw [if_neg (show ¬ x + 1 ≤ i + (q + 1) + 1 by omega)]; exact k
    · subst e
      clear hj
      by_cases h5 : j + 1 ≤ i + (q + 1) + 1
      · rw [if_pos h5, hT]
        exact .inr ⟨(he i (by omega) hij).trans heqx.symm, hs.head i hij⟩
      · rw [heqx]
        exact .inl (hsx i (by omega))
  · rcases Nat.lt_or_eq_of_le (Nat.le_of_lt_succ hi) with q | q
    · exact Nat.lt_succ_of_lt (hs.head i q)
    · rw [q, hT]; exact Nat.lt_succ_self _
theorem tS_desc {st : SortSt} {X : Array TK} {n nrem : Nat} {Q : DescSt → SortSt → Prop} (h0 : IntKeys a₀) (hn : nrem ≤ a₀.size) (h1 : 1 ≤ n) (hnn : n ≤ nrem) (hB : TB a₀ st X) (hs : Dn X n 0) (hst : ∀ i, i + 1 < n → tK X (n - 1) < tK X i)
    (h : ∀ m neq st' X', TB a₀ st' X' → n ≤ m → m ≤ nrem → Dn X' m neq → neq + 1 ≤ m → (∀ i, m - (neq + 1) ≤ i → i < m → tK X' i = tK X' (m - 1)) → Q (none, m, neq) st') :
    wpS (model prog w) A E s (descLoop n nrem) Q st := by
  unfold descLoop
  refine wpS_forRange (I := fun x c st' => ∃ neq X', c = (none, x, neq) ∧ TB a₀ st' X' ∧ Dn X' x neq ∧ neq + 1 ≤ x ∧ (∀ i, x - (neq + 1) ≤ i → i < x → tK X' i = tK X' (x - 1)) ∧ (∀ i, i < x - (neq + 1) → tK X' (x - 1) < tK X' i)) ?step ?fin
    ⟨0, X, rfl, hB, hs, by omega, fun i h1 h2 => by congr 1; omega, fun i hi => hst i (by omega)⟩
  case fin =>
    rintro c st' ⟨neq, X', rfl, hB', hs', hq, he, _⟩
    rw [show max n nrem = nrem by omega] at hs' hq he ⊢
    exact h nrem neq st' X' hB' hnn (Nat.le_refl _) hs' hq he
  case step =>
    rintro x c st' hax hxn ⟨neq, X', rfl, hB', hs', hq, he, hsx⟩
    dsimp only
    have hxa : x < a₀.size := Nat.lt_of_lt_of_le hxn hn
    have hx1 : 1 ≤ x := Nat.le_trans h1 hax
    have hxs : x < X'.size := by rw [hB'.size]; exact hxa
    have hxb : x - 1 < a₀.size := Nat.lt_of_le_of_lt (Nat.sub_le _ _) hxa
    clear hn h1 hnn hs hst hB
    have e1 : x + 1 - 1 = x := Nat.add_sub_cancel ..
    refine wpS_bind (tS_lt hB' h0 hxa hxb ?_)
    by_cases hless : tK X' x < tK X' (x - 1)
    · simp only [hless, decide_true, if_true]
      clear hxa hxb hax hxn
      by_cases hneq : neq > 0
      · rw [if_pos hneq]
        clear hneq
        have hD := dn_flip (Nat.le_of_lt hxs) hq he hs'
        have hB2 := hB'.mirror (x - (neq + 1)) x ((x - (x - (neq + 1))) / 2)
        have hx2 : x < (mirror X' (x - (neq + 1)) x ((x - (x - (neq + 1))) / 2)).size := by rw [mirror_size]; exact hxs
        have mK := fun i => tK_mirror (i := x - (neq + 1)) (Nat.le_of_lt hxs) i
        have k1 : tK (mirror X' (x - (neq + 1)) x ((x - (x - (neq + 1))) / 2)) x = tK X' x := by rw [mK, if_neg (fun h => Nat.lt_irrefl _ h.2)]
        have k2 : tK (mirror X' (x - (neq + 1)) x ((x - (x - (neq + 1))) / 2)) (x - 1) = tK X' (x - 1) := by rw [mK, if_pos ⟨Nat.sub_le_sub_left (Nat.le_add_left 1 neq) x, Nat.sub_one_lt_of_le hx1 (Nat.le_refl _)⟩]; clear mK k1 hD hB2 hx2 hless; exact he _ (by omega) (by omega)
        have hD2 := dn_more hx2 hx1 hD (by rw [k1, k2]; exact hless)
        refine wpS_bind (wpS_reverse (wpS_pure ⟨0, _, rfl, hB2, hD2, Nat.le_add_left 1 x, fun i h1 h2 => congrArg _ (Nat.le_antisymm (Nat.le_of_lt_succ h2) h1), fun i hi => ?_⟩))
        rw [e1, k1, mK]
        clear k1 k2 hD hD2 hB2 hx2 mK
        refine Int.lt_of_lt_of_le hless ?_
        split
        · rename_i h
          rw [he (x - (neq + 1) + x - 1 - i) (by omega) (by omega)]; exact Int.le_refl _
        · exact Int.le_of_lt (hsx i (by omega))
      · rw [if_neg hneq]
        have : neq = 0 := Nat.eq_zero_of_not_pos hneq
        subst this
        refine wpS_pure ⟨0, X', rfl, hB', dn_more hxs hx1 hs' hless, Nat.le_add_left 1 x, fun i h1 h2 => congrArg _ (Nat.le_antisymm (Nat.le_of_lt_succ h2) h1), fun i hi => ?_⟩
        rw [e1]
        rcases Nat.lt_or_eq_of_le (Nat.le_sub_one_of_lt (show i < x from hi)) with q | q
        · exact Int.lt_trans hless (hsx i q)
        · rw [q]; exact hless
    · simp only [hless, decide_false, Bool.false_eq_true, if_false]
      refine wpS_bind (tS_lt hB' h0 hxb hxa ?_)
      clear hxa hxb
      by_cases hlarger : tK X' (x - 1) < tK X' x
      · simp only [hlarger, decide_true, if_true]
        exact wpS_pure (h x neq st' X' hB' hax (Nat.le_of_lt hxn) hs' hq he)
      · simp only [hlarger, decide_false, Bool.false_eq_true, if_false]
        have heqx : tK X' x = tK X' (x - 1) := Int.le_antisymm (Int.not_lt.mp hlarger) (Int.not_lt.mp hless)
        refine wpS_pure ⟨neq + 1, X', rfl, hB', dn_same hxs hq he hsx heqx hs', Nat.succ_le_succ hq, fun i h1 h2 => ?_, fun i hi => ?_⟩
        · rw [e1]
          rcases Nat.lt_or_eq_of_le (Nat.le_of_lt_succ h2) with q | q
          · rw [heqx]; exact he i (by rwa [Nat.add_sub_add_right] at h1) q
          · rw [q]
        · rw [e1, heqx]; exact hsx i (by rwa [Nat.add_sub_add_right] at hi)
theorem tS_descPart {st : SortSt} {X : Array TK} {n nrem : Nat} {Q : Option Nat → SortSt → Prop} (h0 : IntKeys a₀) (hn : nrem ≤ a₀.size) (hnn : n + 1 ≤ nrem) (hB : TB a₀ st X)
    (hs : Dn X (n + 1) 0) (hst : ∀ i, i < n → tK X n < tK X i) (h : ∀ m st' X', TB a₀ st' X' → 1 ≤ m → m ≤ nrem → Up X' m → Q (some m) st') : wpS (model prog w) A E s (descPart n nrem) Q st := by
  unfold descPart
  refine wpS_bind (wpS_lift (wpAny_rule ⟨rfl, ?_⟩))
  refine wpS_bind (tS_desc h0 hn (by omega) hnn hB hs (fun i hi => hst i (by omega)) fun m neq st' X' hB' hm1 hm2 hs' hq he => ?_)
  dsimp only
  have hsz : m ≤ X'.size := by rw [hB'.size]; omega
  by_cases hneq : neq > 0
  · rw [if_pos hneq]
    exact wpS_bind (wpS_reverse (tS_tail3 h0 hn (by omega) hm2 (hB'.mirror _ _ _) (dn_flip hsz hq he hs') h))
  · rw [if_neg hneq]
    have : neq = 0 := by omega
    subst this
    exact tS_tail3 h0 hn (by omega) hm2 hB' hs' h
theorem tS_countRun {st : SortSt} {X : Array TK} {nrem : Nat} {Q : Option Nat → SortSt → Prop} (h0 : IntKeys a₀) (hn : nrem ≤ a₀.size) (h1 : 1 ≤ nrem) (hB : TB a₀ st X) (hs : Up X 1)
    (h : ∀ m st' X', TB a₀ st' X' → 1 ≤ m → m ≤ nrem → Up X' m → Q (some m) st') : wpS (model prog w) A E s (countRun' 0 nrem) Q st := by
  rw [countRun0_eq]
  refine wpS_bind (tS_asc h0 hn (Nat.le_refl 1) h1 hB hs fun n hn1 hn2 hsn hor => ?_)
  dsimp only
  by_cases hnn : n = nrem
  · rw [if_pos (by simpa using hnn)]
    exact wpS_pure (h n st X hB hn1 hn2 hsn)
  · rw [if_neg (by simpa using hnn)]
    have hlt : tK X n < tK X (n - 1) := hor.resolve_left hnn
    have hxn : n < X.size := by rw [hB.size]; omega
    by_cases hgt : n > 1
    · rw [if_pos hgt]
      refine wpS_bind (tS_lt hB h0 (by omega) (by omega) ?_)
      by_cases hrose : tK X 0 < tK X (n - 1)
      · simp only [hrose, decide_true, if_true]
        exact wpS_pure (h n st X hB hn1 hn2 hsn)
      · simp only [hrose, decide_false, Bool.false_eq_true, if_false]
        have hall : ∀ k, k < n → tK X k = tK X (n - 1) := by
          intro k hk
          have a1 : tK X 0 ≤ tK X k := by
            rcases Nat.eq_zero_or_pos k with q | q
            · rw [q]; exact Int.le_refl _
            · have := hsn.lt 0 k q hk; omega
          have a2 : tK X k ≤ tK X (n - 1) := by
            rcases Nat.lt_or_eq_of_le (show k ≤ n - 1 by omega) with q | q
            · have := hsn.lt k (n - 1) q (by omega); omega
            · rw [q]; exact Int.le_refl _
          omega
        have hsz : n ≤ X.size := by omega
        have hB2 := hB.mirror 0 n ((n - 0) / 2)
        have km : ∀ k, k < n → tK (mirror X 0 n ((n - 0) / 2)) k = tK X (n - 1) := fun k hk => by
          rw [tK_mirror hsz, if_pos (by omega)]; exact hall _ (by omega)
        have kn : tK (mirror X 0 n ((n - 0) / 2)) n = tK X n := by rw [tK_mirror hsz, if_neg (by omega)]
        refine wpS_bind (wpS_reverse (tS_descPart h0 hn (by omega) hB2 (dn_more (by rw [mirror_size]; exact hxn) hn1 ⟨fun i j hij hj => ?_, fun i hi => ?_, fun i a b => ?_⟩ ?_) (fun i hi => ?_) h))
        · right
          rw [km i (by omega), km j hj, if_neg (by omega)]
          refine ⟨rfl, ?_⟩
          rw [tT_mirror hsz, tT_mirror hsz, if_pos (by omega), if_pos (by omega)]
          have := hsn.lt (0 + n - 1 - j) (0 + n - 1 - i) (by omega) (by omega)
          have a1 := hall (0 + n - 1 - j) (by omega)
          have a2 := hall (0 + n - 1 - i) (by omega)
          omega
        · rw [tT_mirror hsz, if_pos (by omega)]; exact hsn.head _ (by omega)
        · rw [mirror_size] at b
          rw [tT_mirror hsz, if_neg (by omega)]; exact hsn.tail i a b
        · rw [kn, km _ (by omega)]; exact hlt
        · rw [kn, km i hi]; exact hlt
    · rw [if_neg hgt]
      have hn1' : n = 1 := by omega
      subst hn1'
      refine tS_descPart h0 hn (by omega) hB (dn_more hxn (Nat.le_refl 1) ⟨fun i j hij hj => by omega, hsn.head, hsn.tail⟩ hlt) (fun i hi => ?_) h
      rw [show i = 1 - 1 by omega]; exact hlt
theorem tS_sortRuns {st : SortSt} {X : Array TK} {Q : Unit → SortSt → Prop} (h0 : IntKeys a₀) (hB : TB a₀ st X) (hs : Up X 1) (h2 : 2 ≤ a₀.size) (h64 : a₀.size < 64)
    (h : ∀ st' X', arrOf st' = X'.map (·.1) → X'.Perm a₀.zipIdx → failedOf st' = none → Up X' a₀.size → Q () st') : wpS (model prog w) A E s sortRuns' Q st := by
  rw [sortRuns'_eq]
  refine wpS_bind (wpS_get ?_)
  dsimp only
  have hmr : minRun' a₀.size a₀.size 0 = a₀.size := by
    obtain ⟨f, hf⟩ : ∃ f, a₀.size = f + 1 := ⟨a₀.size - 1, by omega⟩
    have : minRun' (f + 1) a₀.size 0 = a₀.size := by rw [minRun'_succ, if_pos h64]; rfl
    rwa [← hf] at this
  simp only [hB.base.size, hmr]
  refine wpS_bind (wpS_mono (wpS_forRange
    (I := fun x c st' => (x = 0 ∧ c = (none, 0) ∧ TB a₀ st' X) ∨ (1 ≤ x ∧ c = (none, a₀.size) ∧ pendingOf st' = #[(0, a₀.size, 0)] ∧ failedOf st' = none ∧ ∃ X', arrOf st' = X'.map (·.1) ∧ X'.Perm a₀.zipIdx ∧ Up X' a₀.size))
    (Q := fun c st' => c = (none, a₀.size) ∧ pendingOf st' = #[(0, a₀.size, 0)] ∧ failedOf st' = none ∧ ∃ X', arrOf st' = X'.map (·.1) ∧ X'.Perm a₀.zipIdx ∧ Up X' a₀.size) ?step ?fin (.inl ⟨rfl, rfl, hB⟩)) ?post)
  case fin =>
    rintro c st' (⟨hx, _, _⟩ | ⟨_, hc, hD⟩)
    · omega
    · exact ⟨hc, hD⟩
  case step =>
    rintro x c st' _ hx (⟨rfl, rfl, hB'⟩ | ⟨hx1, rfl, hD⟩)
    · dsimp only
      rw [if_neg (by omega)]
      simp only [Nat.sub_zero, Nat.min_self, Nat.zero_add]
      have don : ∀ st3 X3, TB a₀ st3 X3 → Up X3 a₀.size → (1 ≤ 0 + 1 ∧ ((none, a₀.size) : Option Unit × Nat) = (none, a₀.size) ∧ pendingOf (setPending st3 ((pendingOf st3).push (0, a₀.size, 0))) = #[(0, a₀.size, 0)] ∧ failedOf (setPending st3 ((pendingOf st3).push (0, a₀.size, 0))) = none ∧ ∃ X', arrOf (setPending st3 ((pendingOf st3).push (0, a₀.size, 0))) = X'.map (·.1) ∧ X'.Perm a₀.zipIdx ∧ Up X' a₀.size) := fun st3 X3 hB3 hs3 =>
        ⟨by omega, rfl, by show (pendingOf st3).push _ = _; rw [hB3.pend]; rfl, hB3.failed, X3, hB3.arr, hB3.perm, hs3⟩
      refine wpS_bind (tS_countRun h0 (Nat.le_refl _) (by omega) hB' hs fun m st2 X2 hB2 hm1 hm2 hs2 => ?_)
      dsimp only
      by_cases hlt : m < a₀.size
      · rw [if_pos hlt]
        refine wpS_bind (wpS_lift (wpAny_rule ⟨rfl, ?_⟩))
        refine wpS_bind (tS_binary h0 (Nat.le_refl _) hm1 hm2 hB2 hs2 fun st3 X3 hB3 hs3 => ?_)
        simp only [Bool.not_true, Bool.false_eq_true, if_false]
        refine wpS_bind (wpS_get ?_)
        have hb : (pendingOf st3).back? = none := by rw [hB3.pend]; rfl
        rw [hb]
        dsimp only
        exact wpS_bind (wpS_modify (wpS_pure (.inr ⟨by omega, rfl, (don st3 X3 hB3 hs3).2.2⟩)))
      · rw [if_neg hlt]
        have hm : m = a₀.size := by omega
        subst hm
        refine wpS_bind (wpS_get ?_)
        have hb : (pendingOf st2).back? = none := by rw [hB2.pend]; rfl
        rw [hb]
        dsimp only
        exact wpS_bind (wpS_modify (wpS_pure (.inr ⟨by omega, rfl, (don st2 X2 hB2 hs2).2.2⟩)))
    · dsimp only
      rw [if_pos (Nat.le_refl _)]
      exact wpS_pure ⟨rfl, hD⟩
  case post =>
    rintro c st' ⟨rfl, hp, hf, X', e1, e2, e3⟩
    dsimp only
    refine wpS_bind (wpS_mono (wpS_forRange (I := fun _ c st'' => st'' = st' ∧ c = (none, ())) (Q := fun c st'' => st'' = st' ∧ c = (none, ())) ?_ (fun _ _ hh => hh) ⟨rfl, rfl⟩) ?_)
    · rintro x c st'' _ _ ⟨rfl, rfl⟩
      refine wpS_bind (wpS_get ?_)
      rw [if_pos (by rw [hp]; exact Nat.le_refl 1)]
      exact wpS_pure ⟨rfl, rfl⟩
    · rintro c st'' ⟨rfl, rfl⟩
      exact wpS_pure (h _ X' e1 e2 hf e3)
end
end Mine
end
section
open PySem PySem.W PyProof.Rows PySem.Calls
namespace Mine
/-- what a stable sort by the keys kz makes of vs -/
def Stab (kz : List Int) (vs out : List Value) : Prop :=
  ∃ ps : List ((Int × Value) × Nat), ps.Perm (kz.zip vs).zipIdx ∧ out = ps.map (fun p => p.1.2) ∧ ps.Pairwise (fun p q => p.1.1 < q.1.1 ∨ (p.1.1 = q.1.1 ∧ p.2 < q.2))
theorem zipIdx_map1 {α β : Type} (f : α → β) (l : List α) (k : Nat) : (l.map f).zipIdx k = (l.zipIdx k).map fun p => (f p.1, p.2) := by
  k_with_none
  induction l generalizing k with
  | nil => rfl
  | cons x r ih => simp only [List.map_cons, List.zipIdx_cons, ih]
theorem stab_of {keys : Array Value} {kz : List Int} {vs : List Value} {X : Array TK} (hk : IntsAre keys.toList kz) (hp : X.Perm (keys.zip vs.toArray).zipIdx) (hs : Up X (keys.zip vs.toArray).size) :
    Stab kz vs ((X.map (·.1)).map (·.2)).toList := by
  have hz : (keys.zip vs.toArray).toList = keys.toList.zip vs := ksk_zip keys vs
  have e2 : (keys.toList.zip vs).map (fun p : Keyed => (numOf p.1, p.2)) = kz.zip vs := by
    rw [← hk.nums, List.zip_map_left]
    exact List.map_congr_left fun ⟨x, y⟩ _ => rfl
  have hl : X.toList.Perm (keys.toList.zip vs).zipIdx := by
    have h1 := Array.perm_iff_toList_perm.mp hp
    rwa [Array.toList_zipIdx, hz] at h1
  refine ⟨X.toList.map fun p => ((numOf p.1.1, p.1.2), p.2), ?_, ?_, ?_⟩
  · have h1 := hl.map fun p : TK => ((numOf p.1.1, p.1.2), p.2)
    rw [← e2, zipIdx_map1]
    exact h1
  · simp only [Array.toList_map, List.map_map]
    rfl
  · rw [List.pairwise_iff_getElem]
    intro i j hi hj hij
    have hi' : i < X.size := by simpa using hi
    have hj' : j < X.size := by simpa using hj
    have hx : X.size = (keys.zip vs.toArray).size := by rw [hp.size_eq, Array.size_zipIdx]
    have q := hs.lt i j hij (by omega)
    have k1 : ∀ k (hk : k < X.size), tK X k = numOf X[k].1.1 := fun k hk => by unfold tK; rw [getElem?_pos X k hk]
    have k2 : ∀ k (hk : k < X.size), tT X k = X[k].2 := fun k hk => by unfold tT; rw [getElem?_pos X k hk]
    rw [k1 i hi', k1 j hj', k2 i hi', k2 j hj'] at q
    simpa using q
section
variable {prog : Program} {w : World} {A : Around} {E : Value → Shared → Prop} {s : Shared} {h₀ : Heap} {L : Addr} {m : Str → Option Value} {news : List (Addr × Obj)} {a kS : Addr} {vs : List Value} {kz : List Int} {keys : Array Value} {e e1 : Nat} {P : PySem.Fin → Shared → Prop}
theorem st_tail {st : SortSt} {out : Array Value} (F : Fr h₀ L s.heap m) (N : News h₀ L s.heap (news ++ [(kS, seqObj "list" keys e), (a, seqObj "list" #[] e1)])) (hka : kS ≠ a) (hnk : ∀ p ∈ news, p.1 ≠ kS) (hna : ∀ p ∈ news, p.1 ≠ a)
    (hsz : keys.size ≤ 1000) (ho : (arrOf st).map (·.2) = out) (hos : out.size ≤ 1000) (hfl : failedOf st = none)
    (h : ∀ h' tk c, Fr h₀ L h' m → News h₀ L h' ((a, seqObj "list" out c) :: news) → P (.done (.ret .none)) { s with heap := h', toks := tk }) :
    wpAny (model prog w) A (ksk_tail a false e1 (.ref kS) st) P E s := by
  have nk := N (kS, seqObj "list" keys e) (List.mem_append_right _ (.head _))
  have na := N (a, seqObj "list" #[] e1) (List.mem_append_right _ (.tail _ (.head _)))
  have Nn : News h₀ L s.heap news := fun p hp => N p (List.mem_append_left _ hp)
  have b1 := Heap.SameBut.update s.heap kS (Obj.mapSeq fun _ => (#[] : Array Value))
  have na1 : (s.heap.update kS (Obj.mapSeq fun _ => (#[] : Array Value))).get? a = some (seqObj "list" #[] e1) := (b1.2 a hka.symm).trans na.1
  have b2 := Heap.SameBut.update (s.heap.update kS (Obj.mapSeq fun _ => (#[] : Array Value))) a (Obj.mapSeq fun _ => out)
  obtain ⟨c2, hc2⟩ : ∃ c2, ((s.heap.update kS (Obj.mapSeq fun _ => (#[] : Array Value))).update a (Obj.mapSeq fun _ => out)).get? a = some (seqObj "list" out c2) := ⟨_, get?_update_seq na1 fun _ => out⟩
  have N2 := ksk_news (ksk_news Nn b1 hnk) b2 hna
  unfold ksk_tail
  simp only [ho, Bool.false_eq_true, if_false]
  refine wpAny_bind (listUpdate_at nk.1 rfl ?_ (by rw [sizeLine_eq]; omega) (Nat.zero_le _))
  refine wpAny_bind (wpAny_letGo ?_)
  refine wpAny_bind (seqEpoch_at na1 rfl ?_)
  refine wpAny_bind (listUpdate_at na1 rfl ?_ (Nat.zero_le _) (by rw [sizeLine_eq]; omega))
  rw [hfl]
  simp only [bne_self_eq_false, Bool.false_eq_true, if_false]
  refine wpAny_pure (h _ _ c2 (ksk_fr (ksk_fr F b1 nk.2.1 nk.2.2) b2 na.2.1 na.2.2) fun p hp => ?_)
  rcases List.mem_cons.mp hp with rfl | hp
  · exact ⟨hc2, na.2⟩
  · exact N2 p hp
theorem st_end (F : Fr h₀ L s.heap m) (N : News h₀ L s.heap (news ++ [(kS, seqObj "list" keys e), (a, seqObj "list" #[] e1)])) (hka : kS ≠ a) (hnk : ∀ p ∈ news, p.1 ≠ kS) (hna : ∀ p ∈ news, p.1 ≠ a)
    (hk : IntsAre keys.toList kz) (hlen : kz.length = vs.length) (h64 : vs.length < 64)
    (h : ∀ h' tk out c, Fr h₀ L h' m → News h₀ L h' ((a, seqObj "list" out c) :: news) → Stab kz vs out.toList → P (.done (.ret .none)) { s with heap := h', toks := tk }) :
    wpAny (model prog w) A (ksk_end a false vs.toArray e1 (.ref kS) keys) P E s := by
  have hsz : keys.size = vs.length := by
    have h1 := hk.length
    rw [Array.length_toList] at h1
    omega
  have hzs : (keys.zip vs.toArray).size = vs.length := by rw [Array.size_zip, hsz, List.size_toArray, Nat.min_self]
  have zt : (keys.zip vs.toArray).zipIdx.map (·.1) = keys.zip vs.toArray := Array.zipIdx_map_fst ..
  have fin : ∀ (st : SortSt) (X : Array TK), arrOf st = X.map (·.1) → X.Perm (keys.zip vs.toArray).zipIdx → failedOf st = none → Up X (keys.zip vs.toArray).size → wpAny (model prog w) A (ksk_tail a false e1 (.ref kS) st) P E s := by
    intro st X hx hp hf hs
    have hxz : X.size = vs.length := by rw [hp.size_eq, Array.size_zipIdx, hzs]
    exact st_tail F N hka hnk hna (by omega) (out := (X.map (·.1)).map (·.2)) (by rw [hx]) (by simp only [Array.size_map]; omega) hf fun h' tk c F' N' => h h' tk _ c F' N' (stab_of hk hp hs)
  unfold ksk_end
  simp only [Bool.false_eq_true, if_false]
  have tg : ∀ i, i < (keys.zip vs.toArray).zipIdx.size → tT (keys.zip vs.toArray).zipIdx i = i := fun i hi => by
    unfold tT; rw [getElem?_pos _ i hi]; simp
  by_cases h2 : vs.toArray.size < 2
  · rw [if_pos h2, if_pos h2]
    refine wpAny_bind (wpAny_pure ?_)
    rw [StateT.run_pure]
    refine wpAny_bind (wpAny_pure ?_)
    rw [List.size_toArray] at h2
    refine fin (SortSt.mk' general' (keys.zip vs.toArray) #[] 7 none) _ zt.symm (Array.Perm.refl _) rfl ⟨fun i j hij hj => by omega, fun i hi => ?_, fun i _ hi => tg i hi⟩
    rw [tg i (by rw [Array.size_zipIdx]; exact hi)]; exact hi
  · rw [if_neg h2, if_neg h2]
    rw [List.size_toArray] at h2
    rw [ksk_kind hk (by rw [hsz]; omega)]
    refine wpAny_bind (wpAny_pure ?_)
    refine wpAny_bind (wpAny_mono (tS_sortRuns (a₀ := keys.zip vs.toArray) (X := (keys.zip vs.toArray).zipIdx) (st := SortSt.mk' oneType' (keys.zip vs.toArray) #[] 7 none)
      (Q := fun _ st' => ∃ X, arrOf st' = X.map (·.1) ∧ X.Perm (keys.zip vs.toArray).zipIdx ∧ failedOf st' = none ∧ Up X (keys.zip vs.toArray).size)
      (ksk_intKeys hk) ⟨zt.symm, Array.Perm.refl _, rfl, rfl, rfl⟩ ⟨fun i j hij hj => by omega, fun i hi => ?_, fun i _ hi => tg i hi⟩ (by rw [hzs]; omega) (by rw [hzs]; exact h64) fun st' X' a1 a2 a3 a4 => ⟨X', a1, a2, a3, a4⟩) ?_ fun _ _ e => e)
    · rw [tg i (by rw [Array.size_zipIdx, hzs]; omega)]; exact hi
    · rintro ⟨⟨⟩, st'⟩ s' ⟨rfl, X, a1, a2, a3, a4⟩
      exact fin st' X a1 a2 a3 a4
/-- the keys are asked for one by one -/
theorem st_rest {f : Value} (F : Fr h₀ L s.heap m) (N : News h₀ L s.heap (news ++ [(kS, seqObj "list" #[] 0), (a, seqObj "list" #[] e1)])) (hka : kS ≠ a) (hnk : ∀ p ∈ news, p.1 ≠ kS) (hna : ∀ p ∈ news, p.1 ≠ a)
    (hlen : kz.length = vs.length) (h64 : vs.length < 64)
    (turn : ∀ (i : Nat) (v : Value) (k : Int), vs[i]? = some v → kz[i]? = some k → ∀ (h : Heap) (tk : Nat) (own : List (Addr × Obj)), Fr h₀ L h m → News h₀ L h (news ++ own) →
      wpAny (model prog w) A (call f [v]) (KskEnd h₀ L m (news ++ own) k { s with heap := h, toks := tk }) (fun _ _ => False) { s with heap := h, toks := tk })
    (h : ∀ h' tk out c, Fr h₀ L h' m → News h₀ L h' ((a, seqObj "list" out c) :: news) → Stab kz vs out.toList → P (.done (.ret .none)) { s with heap := h', toks := tk }) :
    wpAny (model prog w) A (ksk_rest a f false vs.toArray e1 (.ref kS)) P E s := by
  unfold ksk_rest
  refine wpAny_bind (wpAny_rule ?_)
  rw [List.forIn_toArray]
  refine wpAny_bind (ksk_fold (fun i s' => ∃ h' tk kA e, s' = { s with heap := h', toks := tk } ∧ Fr h₀ L h' m ∧ News h₀ L h' (news ++ [(kS, seqObj "list" kA e), (a, seqObj "list" #[] e1)]) ∧ IntsAre kA.toList (kz.take i)) vs 0 s
    ⟨s.heap, s.toks, #[], 0, rfl, F, N, by simpa using IntsAre.nil⟩ ?step ?done)
  case step =>
    rintro j x s' hx ⟨h', tk, kA, e, rfl, F', N', hk⟩
    simp only [Nat.zero_add] at hk ⊢
    have hj : j < vs.length := (List.getElem?_eq_some_iff.mp hx).1
    obtain ⟨k, hkj⟩ : ∃ k, kz[j]? = some k := ⟨_, List.getElem?_eq_getElem (by omega)⟩
    have hz : kA.size ≤ vs.length := by
      have h1 := hk.length
      rw [Array.length_toList, List.length_take] at h1
      omega
    refine wpAny_bind (wpAny_attempt (wpAny_mono (turn j x k hx hkj h' tk _ F' N') (fun v s'' he => ?_) fun _ _ hF => hF.elim))
    obtain ⟨g, tk2, t2, rfl, rfl, F2, N2⟩ := he
    try dsimp only
    have nk := N2 (kS, seqObj "list" kA e) (List.mem_append_right _ (.head _))
    have na := N2 (a, seqObj "list" #[] e1) (List.mem_append_right _ (.tail _ (.head _)))
    have b1 := Heap.SameBut.update g kS (Obj.mapSeq (·.push (.int k t2)))
    obtain ⟨c2, hc2⟩ : ∃ c2, (g.update kS (Obj.mapSeq (·.push (.int k t2)))).get? kS = some (seqObj "list" (kA.push (.int k t2)) c2) := ⟨_, get?_update_seq nk.1 (·.push (.int k t2))⟩
    have ek : kz.take (j + 1) = kz.take j ++ [k] := by rw [List.take_add_one, hkj]; simp
    have ea : (kA.push (Value.int k t2)).toList = kA.toList ++ [Value.int k t2] := by simp
    refine wpAny_bind (listUpdate_at nk.1 rfl ?_ (by rw [sizeLine_eq]; omega) (Nat.le_trans (Nat.le_of_eq (Array.size_push ..)) (by rw [sizeLine_eq]; omega)))
    refine wpAny_pure ⟨rfl, _, _, kA.push (.int k t2), c2, rfl, ksk_fr F2 b1 nk.2.1 nk.2.2, fun p hp => ?_, by rw [ea, ek]; exact ksk_snoc hk⟩
    rcases List.mem_append.mp hp with hp | hp
    · exact ksk_news (fun q hq => N2 q (List.mem_append_left _ hq)) b1 hnk p hp
    · rcases List.mem_cons.mp hp with rfl | hp
      · exact ⟨hc2, nk.2⟩
      · rw [List.mem_singleton.mp hp]
        exact ⟨(b1.2 a hka.symm).trans na.1, na.2⟩
  case done =>
    rintro s' ⟨h', tk, kA, e, rfl, F', N', hk⟩
    have hk' : IntsAre kA.toList kz := by
      have e3 : kz.take (0 + vs.length) = kz := List.take_of_length_le (by omega)
      rwa [e3] at hk
    have nk := N' (kS, seqObj "list" kA e) (List.mem_append_right _ (.head _))
    try dsimp only
    refine wpAny_bind (listItems_at nk.1 rfl ?_)
    exact st_end F' N' hka hnk hna hk' hlen h64 fun h3 tk3 out c F3 N3 k3 => h h3 tk3 out c F3 N3 k3
theorem st_sort {f : Value} {n : Nat} (F : Fr h₀ L s.heap m) (N : News h₀ L s.heap news) (ho : s.heap.get? a = some (seqObj "list" vs.toArray n)) (haL : a ≠ L) (ha0 : h₀.get? a = none) (hna : ∀ p ∈ news, p.1 ≠ a)
    (hlen : kz.length = vs.length) (h64 : vs.length < 64)
    (turn : ∀ (i : Nat) (v : Value) (k : Int), vs[i]? = some v → kz[i]? = some k → ∀ (h : Heap) (tk : Nat) (own : List (Addr × Obj)), Fr h₀ L h m → News h₀ L h (news ++ own) →
      wpAny (model prog w) A (call f [v]) (KskEnd h₀ L m (news ++ own) k { s with heap := h, toks := tk }) (fun _ _ => False) { s with heap := h, toks := tk })
    (h : ∀ h' tk out c, Fr h₀ L h' m → News h₀ L h' ((a, seqObj "list" out c) :: news) → Stab kz vs out.toList → P (.done (.ret .none)) { s with heap := h', toks := tk }) :
    wpAny (model prog w) A (ksk_tree a f false) P E s := by
  have ha : a < s.heap.objs.size := Heap.lt_size ho
  have b1 := Heap.SameBut.update s.heap a (Obj.mapSeq fun _ => (#[] : Array Value))
  obtain ⟨e1, ho1⟩ : ∃ e1, (s.heap.update a (Obj.mapSeq fun _ => (#[] : Array Value))).get? a = some (seqObj "list" #[] e1) := ⟨_, get?_update_seq ho fun _ => #[]⟩
  have F1 := ksk_fr F b1 haL ha0
  have N1 := ksk_news N b1 hna
  have hkS : ((s.heap.update a (Obj.mapSeq fun _ => (#[] : Array Value))).push (seqObj "tuple" vs.toArray 0)).objs.size = s.heap.objs.size + 1 := by rw [size_push', Heap.size_update]
  have hLk : L < ((s.heap.update a (Obj.mapSeq fun _ => (#[] : Array Value))).push (seqObj "tuple" vs.toArray 0)).objs.size := (F1.push _).ns.lt
  unfold ksk_tree
  refine wpAny_bind (listItems_at ho rfl ?_)
  refine wpAny_bind (listUpdate_at ho rfl ?_ (by rw [List.size_toArray, sizeLine_eq]; omega) (Nat.zero_le _))
  refine wpAny_bind (seqEpoch_at ho1 rfl ?_)
  refine wpAny_bind (wpAny_newTuple ?_ (by show vs.length ≤ _; rw [sizeLine_eq]; omega))
  refine wpAny_bind (wpAny_newList ?_ (Nat.zero_le _))
  refine wpAny_holding ?_
  refine st_rest (s := { s with heap := ((s.heap.update a (Obj.mapSeq fun _ => (#[] : Array Value))).push (seqObj "tuple" vs.toArray 0)).push (seqObj "list" #[] 0) }) (kS := ((s.heap.update a (Obj.mapSeq fun _ => (#[] : Array Value))).push (seqObj "tuple" vs.toArray 0)).objs.size)
    ((F1.push _).push _) (fun p hp => ?_) (by rw [hkS]; exact Nat.ne_of_gt (Nat.lt_succ_of_lt ha)) (fun p hp => by rw [hkS]; exact Nat.ne_of_lt (Nat.lt_succ_of_lt (Heap.lt_size (N p hp).1))) hna hlen h64 turn h
  rcases List.mem_append.mp hp with hp | hp
  · exact ⟨Heap.get?_push_of_some _ (Heap.get?_push_of_some _ (N1 p hp).1), (N1 p hp).2⟩
  · rcases List.mem_cons.mp hp with rfl | hp
    · exact ⟨Heap.get?_push_size _ rfl, Nat.ne_of_gt hLk, Heap.get?_none_of_le (Nat.le_trans F.above (Nat.le_of_lt hLk))⟩
    · rw [List.mem_singleton.mp hp]
      exact ⟨Heap.get?_push_of_some _ (Heap.get?_push_of_some _ ho1), haL, ha0⟩
end
section
variable {prog : Program} {w : World} {A : Around} {E : Value → Shared → Prop} {s : Shared} {h₀ : Heap} {L l : Addr} {m : Str → Option Value} {news : List (Addr × Obj)} {vs : List Value} {Q : Value → Shared → Prop}
theorem st_sorted {kz : List Int} {q : Addr} (F : Fr h₀ L s.heap m) (N : News h₀ L s.heap news) (hl : s.heap.IsList l vs.toArray) (hlen : kz.length = vs.length) (h64 : vs.length < 64)
    (turn : ∀ (i : Nat) (v : Value) (k : Int), vs[i]? = some v → kz[i]? = some k → ∀ (h : Heap) (tk : Nat) (own : List (Addr × Obj)), Fr h₀ L h m → News h₀ L h (news ++ own) →
      wpAny (model prog w) A.in1.in1 (call (.ref q) [v]) (KskEnd h₀ L m (news ++ own) k { s with heap := h, toks := tk }) (fun _ _ => False) { s with heap := h, toks := tk })
    (h : ∀ D h' tk out c, Fr h₀ L h' m → News h₀ L h' ((D, seqObj "list" out c) :: news) → (∀ q ∈ news, q.1 < D) → Stab kz vs out.toList → Q (.ref D) { s with heap := h', toks := tk }) :
    wpAny (model prog w) A (call (.builtin "sorted") [.ref l] [(PySem.Str.ofString "key", .ref q)]) Q E s := by
  refine call_function_entry_kw kind_sorted plain_sorted entry_sorted (ksk_s1 _ _) ?_
  unfold Builtin.«sorted»
  refine wpAny_bind (m := checkCount "sorted" 1 1 _) (wpAny_pure ?_)
  refine wpAny_bind (collect_list hl ?_ (by rw [sizeLine_eq]; omega))
  refine wpAny_bind (wpAny_newList ?_ (by rw [sizeLine_eq]; omega))
  have hsz : ((s.heap.push (seqObj "list" #[] 0)).update s.heap.objs.size (Obj.mapSeq (· ++ vs.toArray))).objs.size = s.heap.objs.size + 1 := by
    rw [Heap.size_update, size_push']
  have hoL : (((s.heap.push (seqObj "list" #[] 0)).update s.heap.objs.size (Obj.mapSeq (· ++ vs.toArray))).push (seqObj "list" vs.toArray 0)).get? (s.heap.objs.size + 1) = some (seqObj "list" vs.toArray 0) := by
    rw [← hsz]; exact Heap.get?_push_size _ rfl
  have keep : ∀ b o, s.heap.get? b = some o → (((s.heap.push (seqObj "list" #[] 0)).update s.heap.objs.size (Obj.mapSeq (· ++ vs.toArray))).push (seqObj "list" vs.toArray 0)).get? b = some o := fun b o q => by
    have hlt : b < s.heap.objs.size := Heap.lt_size q
    rw [Heap.get?_push_ne _ _ _ (by rw [hsz]; exact Nat.ne_of_lt (Nat.lt_succ_of_lt hlt)), Heap.get?_update_ne _ _ _ _ (Nat.ne_of_lt hlt), Heap.get?_push_ne _ _ _ (Nat.ne_of_lt hlt)]
    exact q
  have hL : L < s.heap.objs.size := F.ns.lt
  show wpAny _ _ _ _ _ { s with heap := ((s.heap.push (seqObj "list" #[] 0)).update s.heap.objs.size (Obj.mapSeq (· ++ vs.toArray))).push (seqObj "list" vs.toArray 0) }
  rw [hsz]
  refine wpAny_bind (wpAny_holding (wpAny_call_entry_kw slot_list_sort ⟨_, hoL, rfl⟩ entry_list_sort ?body (ksk_l1 _ _)))
  case body =>
    show wpAny (model prog w) A.in1.in1 (Builtin.«list.sort» ⟨[.ref (s.heap.objs.size + 1)], [(PySem.Str.ofString "key", .ref q)]⟩) _ _ _
    rw [ksk_t1]
    refine st_sort (s := { s with heap := ((s.heap.push (seqObj "list" #[] 0)).update s.heap.objs.size (Obj.mapSeq (· ++ vs.toArray))).push (seqObj "list" vs.toArray 0) })
      (F.kept keep) (N.grown keep) hoL (Nat.ne_of_gt (Nat.lt_succ_of_lt hL)) (Heap.get?_none_of_le (Nat.le_trans F.above (Nat.le_succ_of_le (Nat.le_of_lt hL))))
      (fun p hp => Nat.ne_of_lt (Nat.lt_succ_of_lt (Heap.lt_size (N p hp).1))) hlen h64 turn fun h' tk out c F' N' k' => ⟨_, rfl, ?_⟩
    exact wpAny_pure ⟨_, rfl, h _ h' tk out c F' N' (fun q hq => Nat.lt_succ_of_lt (Heap.lt_size (N q hq).1)) k'⟩
end
end Mine
end
section
open PySem PySem.W PyProof.Rows PySem.Calls
namespace Mine
/-- put x behind all that is not above it / before all that is not below it -/
def insR {α : Type} (key : α → Int) (r : List α) (x : α) : List α := insAt r (r.countP fun y => decide (key y ≤ key x)) x
def insL {α : Type} (key : α → Int) (r : List α) (x : α) : List α := insAt r (r.countP fun y => decide (key y < key x)) x
def isort {α : Type} (key : α → Int) (l : List α) : List α := l.foldl (insR key) []
theorem map_insR {α β : Type} (f : α → β) (key : β → Int) (r : List α) (x : α) : (insR (fun a => key (f a)) r x).map f = insR key (r.map f) (f x) := by
  k_with_none
  unfold insR insAt
  rw [List.countP_map]
  simp [List.map_take, List.map_drop, Function.comp_def]
theorem map_insL {α β : Type} (f : α → β) (key : β → Int) (r : List α) (x : α) : (insL (fun a => key (f a)) r x).map f = insL key (r.map f) (f x) := by
  unfold insL insAt
  rw [List.countP_map]
  simp [List.map_take, List.map_drop, Function.comp_def]
theorem map_isort {α β : Type} (f : α → β) (key : β → Int) (l : List α) : (isort (fun a => key (f a)) l).map f = isort key (l.map f) := by
  have gen : ∀ (l : List α) (r : List α), (l.foldl (insR fun a => key (f a)) r).map f = (l.map f).foldl (insR key) (r.map f) := by
    intro l
    induction l with
    | nil => intro r; rfl
    | cons x t ih => intro r; simp only [List.foldl_cons, List.map_cons]; rw [ih, map_insR]
  exact gen l []
theorem isort_snoc {α : Type} (key : α → Int) (l : List α) (x : α) : isort key (l ++ [x]) = insR key (isort key l) x := by
  unfold isort; rw [List.foldl_append]; rfl
theorem cut_le {α : Type} (key : α → Int) (v : Int) : ∀ {r : List α}, r.Pairwise (fun a b => key a ≤ key b) → (∀ y ∈ r.take (r.countP fun y => decide (key y ≤ v)), key y ≤ v) ∧ (∀ y ∈ r.drop (r.countP fun y => decide (key y ≤ v)), v < key y)
  | [], _ => by simp
  | x :: t, h => by
    have hx : ∀ y ∈ t, key x ≤ key y := fun y hy => List.rel_of_pairwise_cons h hy
    have ih := cut_le key v (List.Pairwise.of_cons h)
    by_cases q : key x ≤ v
    · rw [List.countP_cons_of_pos (by simpa using q)]
      refine ⟨fun y hy => ?_, fun y hy => ih.2 y (by simpa using hy)⟩
      rcases List.mem_cons.mp (by simpa using hy) with e | e
      · rw [e]; exact q
      · exact ih.1 y e
    · have z : (x :: t).countP (fun y => decide (key y ≤ v)) = 0 := List.countP_eq_zero.mpr fun y hy => by
        rcases List.mem_cons.mp hy with e | e
        · rw [e]; simpa using q
        · have := hx y e; simp; omega
      rw [z]
      refine ⟨by simp, fun y hy => ?_⟩
      rcases List.mem_cons.mp hy with e | e
      · rw [e]; omega
      · have := hx y e; omega
theorem cut_lt {α : Type} (key : α → Int) (v : Int) {r : List α} (h : r.Pairwise (fun a b => key a ≤ key b)) : (∀ y ∈ r.take (r.countP fun y => decide (key y < v)), key y < v) ∧ (∀ y ∈ r.drop (r.countP fun y => decide (key y < v)), v ≤ key y) := by
  have := cut_le key (v - 1) h
  have e : (fun y : α => decide (key y ≤ v - 1)) = fun y => decide (key y < v) := funext fun y => by congr 1; exact propext ⟨fun h => by omega, fun h => by omega⟩
  rw [e] at this
  exact ⟨fun y hy => by have := this.1 y hy; omega, fun y hy => by have := this.2 y hy; omega⟩
theorem insAt_pair {α : Type} {R : α → α → Prop} {r : List α} {k : Nat} {x : α} (h : r.Pairwise R) (h1 : ∀ y ∈ r.take k, R y x) (h2 : ∀ y ∈ r.drop k, R x y) : (insAt r k x).Pairwise R := by
  unfold insAt
  have h' : (r.take k ++ r.drop k).Pairwise R := by rw [List.take_append_drop]; exact h
  rw [List.pairwise_append] at h' ⊢
  refine ⟨h'.1, List.pairwise_cons.mpr ⟨fun y hy => h2 y hy, h'.2.1⟩, fun a ha b hb => ?_⟩
  rcases List.mem_cons.mp hb with e | e
  · rw [e]; exact h1 a ha
  · exact h'.2.2 a ha b e
theorem insAt_end {α : Type} (r : List α) (x : α) : insAt r r.length x = r ++ [x] := by unfold insAt; simp
theorem insAt_perm {α : Type} (r : List α) (k : Nat) (x : α) : (insAt r k x).Perm (x :: r) := by
  unfold insAt
  exact List.perm_middle.trans (by rw [List.take_append_drop])
theorem insR_sorted {α : Type} {key : α → Int} {r : List α} (x : α) (h : r.Pairwise (fun a b => key a ≤ key b)) : (insR key r x).Pairwise (fun a b => key a ≤ key b) :=
  insAt_pair h (cut_le key _ h).1 fun y hy => Int.le_of_lt ((cut_le key _ h).2 y hy)
theorem insL_sorted {α : Type} {key : α → Int} {r : List α} (x : α) (h : r.Pairwise (fun a b => key a ≤ key b)) : (insL key r x).Pairwise (fun a b => key a ≤ key b) :=
  insAt_pair h (fun y hy => Int.le_of_lt ((cut_lt key _ h).1 y hy)) (cut_lt key _ h).2
theorem rev_ind {α : Type} {P : List α → Prop} (h0 : P []) (h1 : ∀ l x, P l → P (l ++ [x])) (l : List α) : P l := by
  have : ∀ r : List α, P r.reverse := by
    intro r
    induction r with
    | nil => exact h0
    | cons x t ih => rw [List.reverse_cons]; exact h1 _ _ ih
  rw [← List.reverse_reverse l]; exact this _
theorem isort_sorted {α : Type} (key : α → Int) (l : List α) : (isort key l).Pairwise (fun a b => key a ≤ key b) :=
  rev_ind (P := fun l => (isort key l).Pairwise (fun a b => key a ≤ key b)) List.Pairwise.nil (fun l x h => by rw [isort_snoc]; exact insR_sorted x h) l
theorem isort_perm {α : Type} (key : α → Int) (l : List α) : (isort key l).Perm l :=
  rev_ind (P := fun l => (isort key l).Perm l) (List.Perm.refl _) (fun l x h => by
    rw [isort_snoc]
    exact (insAt_perm _ _ _).trans ((h.cons x).trans (List.perm_append_comm (l₁ := [x]))) ) l
theorem isort_stab {α : Type} (key : α → Int) (q : List (α × Nat)) : q.Pairwise (fun a b => a.2 < b.2) → (isort (fun p : α × Nat => key p.1) q).Pairwise (fun a b => key a.1 < key b.1 ∨ (key a.1 = key b.1 ∧ a.2 < b.2)) :=
  rev_ind (P := fun q => q.Pairwise (fun a b => a.2 < b.2) → (isort (fun p : α × Nat => key p.1) q).Pairwise (fun a b => key a.1 < key b.1 ∨ (key a.1 = key b.1 ∧ a.2 < b.2))) (fun _ => List.Pairwise.nil) (fun l x ih h => by
    rw [List.pairwise_append] at h
    have hs := isort_sorted (fun p : α × Nat => key p.1) l
    rw [isort_snoc]
    refine insAt_pair (ih h.1) (fun y hy => ?_) fun y hy => .inl ((cut_le (fun p : α × Nat => key p.1) _ hs).2 y hy)
    have h1 := (cut_le (fun p : α × Nat => key p.1) _ hs).1 y hy
    have h2 := h.2.2 y ((isort_perm _ l).mem_iff.mp (List.mem_of_mem_take hy)) x (by simp)
    dsimp only at h1
    omega) q
theorem zip_asc {α : Type} (l : List α) : ∀ k, (l.zipIdx k).Pairwise (fun a b => a.2 < b.2) := by
  induction l with
  | nil => intro k; exact List.Pairwise.nil
  | cons x t ih =>
    intro k
    rw [List.zipIdx_cons]
    refine List.pairwise_cons.mpr ⟨fun p hp => ?_, ih (k + 1)⟩
    have := List.le_snd_of_mem_zipIdx hp
    show k < p.2
    omega
theorem stab_isort {kz : List Int} {vs out : List Value} (h : Stab kz vs out) : out = (isort (fun p : Int × Value => p.1) (kz.zip vs)).map (·.2) := by
  obtain ⟨ps, hp, rfl, hw⟩ := h
  have hq := isort_stab (fun p : Int × Value => p.1) _ (zip_asc (kz.zip vs) 0)
  have hpq := hp.trans (isort_perm (fun p : (Int × Value) × Nat => p.1.1) ((kz.zip vs).zipIdx)).symm
  have e : ps = isort (fun p : (Int × Value) × Nat => p.1.1) ((kz.zip vs).zipIdx) := by
    refine hpq.eq_of_pairwise (le := fun p q => p.1.1 < q.1.1 ∨ (p.1.1 = q.1.1 ∧ p.2 < q.2)) (fun a b _ _ h1 h2 => ?_) hw hq
    omega
  have m1 := map_isort (fun p : (Int × Value) × Nat => p.1) (fun p : Int × Value => p.1) ((kz.zip vs).zipIdx)
  rw [List.zipIdx_map_fst] at m1
  rw [← m1, List.map_map, e]
  rfl
theorem strs_pairs : ∀ {vs : List Value} {ss : List Str}, StrsAre vs ss → ∃ ts : List (Str × Tok), vs = ts.map (fun p => .str p.1 p.2) ∧ ss = ts.map (·.1)
  | _, _, .nil => ⟨[], rfl, rfl⟩
  | _, _, .cons x t h => by
    obtain ⟨ts, rfl, rfl⟩ := strs_pairs h
    exact ⟨(x, t) :: ts, rfl, rfl⟩
theorem pairs_strs : ∀ ts : List (Str × Tok), StrsAre (ts.map (fun p => .str p.1 p.2)) (ts.map (·.1))
  | [] => .nil
  | (x, t) :: r => .cons x t (pairs_strs r)
abbrev lenK (s : Str) : Int := s.length
theorem stab_strs {vs out : List Value} {ss : List Str} (hS : StrsAre vs ss) (h : Stab (lens ss) vs out) : StrsAre out (isort lenK ss) := by
  obtain ⟨ts, rfl, rfl⟩ := strs_pairs hS
  rw [stab_isort h]
  have ez : (lens (ts.map (·.1))).zip (ts.map fun p => Value.str p.1 p.2) = ts.map fun p => (lenK p.1, Value.str p.1 p.2) := by
    clear h hS
    induction ts with
    | nil => rfl
    | cons p r ih => simp only [lens, List.map_cons, List.zip_cons_cons, lenK] at ih ⊢; rw [ih]
  rw [ez]
  have m1 := map_isort (fun p : Str × Tok => (lenK p.1, Value.str p.1 p.2)) (fun p : Int × Value => p.1) ts
  have m2 := map_isort (fun p : Str × Tok => p.1) lenK ts
  rw [← m1, ← m2, List.map_map]
  exact pairs_strs _
/-- one put before a sorted row: the stable sort sets it where insort_left does -/
theorem isort_cons {α : Type} (key : α → Int) (x : α) (r : List α) : r.Pairwise (fun a b => key a ≤ key b) → isort key (x :: r) = insL key r x :=
  rev_ind (P := fun r => r.Pairwise (fun a b => key a ≤ key b) → isort key (x :: r) = insL key r x) (fun _ => rfl) (fun l y ih h => by
    rw [List.pairwise_append] at h
    have hl : ∀ z ∈ l, key z ≤ key y := fun z hz => h.2.2 z hz y (by simp)
    rw [← List.cons_append, isort_snoc, ih h.1]
    have hp : (insL key l x).Perm (x :: l) := insAt_perm _ _ _
    by_cases q : key x ≤ key y
    · have c1 : (insL key l x).countP (fun z => decide (key z ≤ key y)) = (insL key l x).length := List.countP_eq_length.mpr fun z hz => by
        rcases List.mem_cons.mp (hp.mem_iff.mp hz) with e | e
        · rw [e]; simpa using q
        · simpa using hl z e
      have c2 : (l ++ [y]).countP (fun z => decide (key z < key x)) = l.countP (fun z => decide (key z < key x)) := by
        rw [List.countP_append, List.countP_cons_of_neg (by simp; omega)]; simp
      have c3 : l.countP (fun z => decide (key z < key x)) ≤ l.length := List.countP_le_length
      unfold insR
      rw [c1, insAt_end]
      unfold insL insAt
      rw [c2, List.take_append_of_le_length c3, List.drop_append_of_le_length c3]
      simp
    · have c0 : l.countP (fun z => decide (key z < key x)) = l.length := List.countP_eq_length.mpr fun z hz => by have := hl z hz; simp; omega
      have c2 : (l ++ [y]).countP (fun z => decide (key z < key x)) = l.length + 1 := by
        rw [List.countP_append, c0, List.countP_cons_of_pos (by simp; omega)]; simp
      have e1 : insL key l x = l ++ [x] := by unfold insL insAt; rw [c0]; simp
      have c1 : (l ++ [x]).countP (fun z => decide (key z ≤ key y)) = l.length := by
        rw [List.countP_append, List.countP_cons_of_neg (by simpa using q)]
        have : l.countP (fun z => decide (key z ≤ key y)) = l.length := List.countP_eq_length.mpr fun z hz => by simpa using hl z hz
        simp [this]
      rw [e1]
      unfold insR insL insAt
      rw [c1, c2, List.take_of_length_le (l := l ++ [y]) (by simp)]
      simp) r
set_option maxRecDepth 100000 in
set_option maxHeartbeats 8000000 in
theorem sorted_len {w : World} {dp un : Nat} {gd : Option (List Code)} {cn : Str} {cs : Scope} {a : Addr} {ccd : Value} {cl : List (Str × Addr)} {outer : List Env} {A₀ : Around} {base h₀ : Heap} {L : Addr} {m : Str → Option Value} {s : Shared} {Q E : Value → Shared → Prop} {p : Program} {loose : List Str} {mean : ExcName → Option Value} {mg mb : Str → Option Value} {news : List (Addr × Obj)} {l f : Addr} {vs : List Value} {ss : List Str} {n : Nat}
  (B : Below A₀ base outer h₀) (F : Fr h₀ L s.heap m) (X : (hd.heap_1 w.params).In h₀) (N : News h₀ L s.heap news) (T : Top p loose mean mg mb h₀) (hk : cs.kind = .function)
  (hl : (l, W.listOf vs.toArray n) ∈ news) (hS : StrsAre vs ss) (hss : ∀ s ∈ ss, s.length ≤ sizeLine) (h64 : vs.length < 64) (hf : LamAt news f) (hd : dp + 1 < recursionLimit) (hu : un + 16 < cLine)
  (h : ∀ D out c h' tk', Fr h₀ L h' m → News h₀ L h' ((D, W.listOf out.toArray c) :: news) → (∀ p ∈ news, p.1 < D) → StrsAre out (isort lenK ss) → Q (.ref D) { s with heap := h', toks := tk' }) :
  wpAny (model PySem.Challenge.rw_rs0180_01.row.prog w) (ktrTop dp un gd cn cs L a ccd cl outer) (call (.builtin "sorted") [.ref l] [(PySem.Str.ofString "key", .ref f)]) Q E s := by
  refine st_sorted (kz := lens ss) F N (News.isList N hl) (by rw [StrsAre.length hS]; simp) h64 ?_ ?_
  · intro i v k hv hkz g tk own F1 N1
    obtain ⟨y, t, rfl, hy⟩ := StrsAre.item hS i v hv
    have hk' : k = (y.length : Int) := by
      have : (lens ss)[i]? = some (y.length : Int) := by unfold lens; rw [List.getElem?_map, hy]; rfl
      rw [this] at hkz; exact (Option.some.inj hkz).symm
    refine lam_len (un := un + 2) (s := { s with heap := g, toks := tk }) (news := news ++ own) B F1 X N1 T hk (hf.sub fun p hp => List.mem_append.mpr (.inl hp)) (hss y (List.mem_of_getElem? hy)) hd (by omega) ?_
    intro t h' tk' F2 N2
    rw [hk']
    exact KskEnd.intro F2 N2 fun p hp => hp
  · intro D h' tk out c F' N' l1 hst
    have e : out = (out.toList).toArray := by simp
    exact h D out.toList c h' tk F' (by rw [← e]; exact N') l1 (stab_strs hS hst)
end Mine
end
section
open PySem PySem.W PyProof.Rows PySem.Calls
namespace Mine
/-- the greatest -/
def mx (ms : List Nat) : Nat := ms.foldl max 0
/-- how often each comes -/
def cntL (ms : List Nat) : List Nat := (List.range (mx ms + 1)).map fun k => ms.count k
theorem mx_snoc (ms : List Nat) (k : Nat) : mx (ms ++ [k]) = max (mx ms) k := by unfold mx; rw [List.foldl_append]; rfl
theorem mx_ge {ms : List Nat} : ∀ {k : Nat}, k ∈ ms → k ≤ mx ms :=
  rev_ind (P := fun ms => ∀ {k : Nat}, k ∈ ms → k ≤ mx ms) (fun h => nomatch h) (fun l x ih k hk => by
    rw [mx_snoc]
    rcases List.mem_append.mp hk with q | q
    · have := ih q; omega
    · rw [List.mem_singleton.mp q]; omega) ms
theorem mx_mem {ms : List Nat} : ms ≠ [] → mx ms ∈ ms :=
  rev_ind (P := fun ms => ms ≠ [] → mx ms ∈ ms) (fun h => absurd rfl h) (fun l x ih _ => by
    rw [mx_snoc]
    by_cases e : l = []
    · subst e; simp [mx]
    · have := ih e
      by_cases q : mx l ≤ x
      · rw [Nat.max_eq_right q]; simp
      · rw [Nat.max_eq_left (by omega)]; simp [this]) ms
theorem mx_le {ms : List Nat} {b : Nat} (h : ∀ k ∈ ms, k ≤ b) : mx ms ≤ b := by
  k_with_none
  by_cases e : ms = []
  · subst e; simp [mx]
  · exact h _ (mx_mem e)
theorem cntL_len (ms : List Nat) : (cntL ms).length = mx ms + 1 := by simp [cntL]
theorem cntL_get {ms : List Nat} {k : Nat} : (cntL ms).getD k 0 = ms.count k := by
  unfold cntL
  rw [List.getD_eq_getElem?_getD, List.getElem?_map]
  by_cases h : k < mx ms + 1
  · rw [List.getElem?_range h]; rfl
  · rw [List.getElem?_eq_none (by simpa using h)]
    simp only [Option.map_none, Option.getD_none]
    exact (List.count_eq_zero.mpr fun hm => by have := mx_ge hm; omega).symm
theorem bump_getD (cs : List Int) (b j : Nat) : (bump cs b).getD j 0 = cs.getD j 0 + if j = b then 1 else 0 := by
  by_cases h : cs.length ≤ b
  · rw [bump_ge h]
    have hg : (cs ++ List.replicate (b - cs.length + 1) 0).getD j 0 = cs.getD j 0 := by
      simp only [List.getD_eq_getElem?_getD, List.getElem?_append]
      by_cases q : j < cs.length
      · rw [if_pos q]
      · rw [if_neg q, List.getElem?_eq_none (l := cs) (by omega), List.getElem?_replicate]
        split <;> rfl
    rw [List.getD_eq_getElem?_getD, List.getElem?_set]
    by_cases q : b = j
    · subst q
      rw [if_pos rfl, if_pos (by simp; omega), if_pos rfl, hg]; rfl
    · rw [if_neg q, if_neg (fun e => q e.symm), ← List.getD_eq_getElem?_getD, hg]; omega
  · rw [bump_lt h, List.getD_eq_getElem?_getD, List.getElem?_set]
    by_cases q : b = j
    · subst q
      rw [if_pos rfl, if_pos (by omega), if_pos rfl]; rfl
    · rw [if_neg q, if_neg (fun e => q e.symm), ← List.getD_eq_getElem?_getD]; omega
theorem run_one (k : Nat) (c : Wc) : (List.replicate k 32 ++ [9]).foldl wstep c = ⟨bump c.cs (c.b + k), 0, c.n + k + 1, c.nt + 1⟩ := by
  have gen : ∀ (k : Nat) (c : Wc), (List.replicate k 32).foldl wstep c = ⟨c.cs, c.b + k, c.n + k, c.nt⟩ := by
    intro k
    induction k with
    | zero => intro c; rfl
    | succ k ih => intro c; rw [List.replicate_succ, List.foldl_cons, ih]; simp [wstep]; omega
  rw [List.foldl_append, gen]
  rfl
theorem run_lead (ms : List Nat) : (wrun (leadPre ms)).cs = ms.foldl bump [] ∧ (wrun (leadPre ms)).b = 0 ∧ (wrun (leadPre ms)).nt = ms.length :=
  rev_ind (P := fun ms => (wrun (leadPre ms)).cs = ms.foldl bump [] ∧ (wrun (leadPre ms)).b = 0 ∧ (wrun (leadPre ms)).nt = ms.length) ⟨rfl, rfl, rfl⟩ (fun l x ih => by
    have e : wrun (leadPre (l ++ [x])) = (List.replicate x 32 ++ [9]).foldl wstep (wrun (leadPre l)) := by
      unfold wrun leadPre
      rw [List.flatMap_append, List.foldl_append]; simp
    rw [e, run_one, ih.2.1, ih.1, ih.2.2]
    refine ⟨?_, rfl, ?_⟩
    · rw [List.foldl_append, Nat.zero_add]; rfl
    · rw [List.length_append]; rfl) ms
theorem bumps (ms : List Nat) : (∀ j, (ms.foldl bump []).getD j 0 = (ms.count j : Int)) ∧ (ms ≠ [] → (ms.foldl bump []).length = mx ms + 1) ∧ (ms = [] → (ms.foldl bump []).length = 0) :=
  rev_ind (P := fun ms => (∀ j, (ms.foldl bump []).getD j 0 = (ms.count j : Int)) ∧ (ms ≠ [] → (ms.foldl bump []).length = mx ms + 1) ∧ (ms = [] → (ms.foldl bump []).length = 0)) ⟨fun j => by simp, fun h => absurd rfl h, fun _ => rfl⟩ (fun l x ih => by
    refine ⟨fun j => ?_, fun _ => ?_, fun h => by simp at h⟩
    · rw [List.foldl_append]
      show (bump (l.foldl bump []) x).getD j 0 = _
      rw [bump_getD, ih.1, List.count_append, List.count_cons, List.count_nil]
      by_cases q : j = x
      · subst q; simp
      · rw [if_neg q, if_neg (by simpa using fun e => q e.symm)]; simp
    · rw [List.foldl_append]
      show (bump (l.foldl bump []) x).length = _
      rw [bump_len, mx_snoc]
      by_cases q : l = []
      · rw [ih.2.2 q, q]; simp [mx]
      · rw [ih.2.1 q]; omega) ms
theorem lead_cs {ms : List Nat} (h : ms ≠ []) : (wrun (leadPre ms)).cs = zs (cntL ms) := by
  rw [(run_lead ms).1]
  obtain ⟨h1, h2, _⟩ := bumps ms
  have hl : (ms.foldl bump []).length = (zs (cntL ms)).length := by rw [h2 h, List.length_map, cntL_len]
  refine List.ext_getElem hl fun j h3 h4 => ?_
  have e1 := h1 j
  rw [List.getD_eq_getElem?_getD, List.getElem?_eq_getElem h3] at e1
  have e2 := cntL_get (ms := ms) (k := j)
  have h5 : j < (cntL ms).length := by simpa using h4
  rw [List.getD_eq_getElem?_getD, List.getElem?_eq_getElem h5] at e2
  simp only [Option.getD_some] at e1 e2
  rw [e1, List.getElem_map, e2]
/-- from the i greatest sizes on: each as often as it comes -/
def dnL (ms : List Nat) (i : Nat) : List Nat := (List.range i).flatMap fun j => List.replicate (ms.count (mx ms - j)) (mx ms - j)
abbrev downL (ms : List Nat) : List Nat := dnL ms (mx ms + 1)
theorem dnL_succ (ms : List Nat) (i : Nat) : dnL ms (i + 1) = dnL ms i ++ List.replicate (ms.count (mx ms - i)) (mx ms - i) := by
  unfold dnL
  rw [List.range_succ, List.flatMap_append]; simp
theorem dnL_count (ms : List Nat) (k : Nat) : ∀ i, i ≤ mx ms + 1 → (dnL ms i).count k = if mx ms < k + i ∧ k ≤ mx ms then ms.count k else 0 := by
  intro i
  induction i with
  | zero => intro _; rw [if_neg (by omega)]; rfl
  | succ i ih =>
    intro hi
    rw [dnL_succ, List.count_append, ih (by omega), List.count_replicate]
    by_cases q : mx ms - i = k
    · have e1 : (mx ms - i == k) = true := by simpa using q
      have e2 : ¬ (mx ms < k + i ∧ k ≤ mx ms) := by omega
      have e3 : mx ms < k + (i + 1) ∧ k ≤ mx ms := by omega
      rw [if_neg e2, if_pos e3, if_pos e1, q]; omega
    · have e1 : (mx ms - i == k) = false := by simpa using q
      by_cases q2 : mx ms < k + i ∧ k ≤ mx ms
      · have e3 : mx ms < k + (i + 1) ∧ k ≤ mx ms := by omega
        rw [if_pos q2, if_pos e3, e1]; rfl
      · have e3 : ¬ (mx ms < k + (i + 1) ∧ k ≤ mx ms) := by omega
        rw [if_neg q2, if_neg e3, e1]; rfl
theorem down_perm (ms : List Nat) : (downL ms).Perm ms := by
  rw [List.perm_iff_count]
  intro k
  rw [dnL_count ms k _ (Nat.le_refl _)]
  by_cases q : k ≤ mx ms
  · rw [if_pos (by omega)]
  · rw [if_neg (by omega)]
    exact (List.count_eq_zero.mpr fun hm => by have := mx_ge hm; omega).symm
theorem dnL_ge (ms : List Nat) : ∀ i, i ≤ mx ms + 1 → ∀ x ∈ dnL ms i, mx ms < x + i := by
  intro i
  induction i with
  | zero => intro _ x hx; exact nomatch hx
  | succ i ih =>
    intro hi x hx
    rw [dnL_succ] at hx
    rcases List.mem_append.mp hx with q | q
    · have := ih (by omega) x q; omega
    · rw [List.eq_of_mem_replicate q]; omega
theorem dnL_desc (ms : List Nat) : ∀ i, i ≤ mx ms + 1 → (dnL ms i).Pairwise (fun a b => b ≤ a) := by
  intro i
  induction i with
  | zero => intro _; exact .nil
  | succ i ih =>
    intro hi
    rw [dnL_succ, List.pairwise_append]
    refine ⟨ih (by omega), List.pairwise_replicate.mpr (.inr (Nat.le_refl _)), fun a ha b hb => ?_⟩
    rw [List.eq_of_mem_replicate hb]
    have := dnL_ge ms i (by omega) a ha
    omega
theorem dnL_len (ms : List Nat) (i : Nat) (hi : i ≤ mx ms + 1) : (dnL ms i).length ≤ ms.length := by
  have h1 : (dnL ms i).Sublist (downL ms) := by
    have gen : ∀ j, (dnL ms i).Sublist (dnL ms (i + j)) := by
      intro j
      induction j with
      | zero => exact List.Sublist.refl _
      | succ j ih => rw [← Nat.add_assoc, dnL_succ]; exact ih.trans (List.sublist_append_left _ _)
    have := gen (mx ms + 1 - i)
    rwa [show i + (mx ms + 1 - i) = mx ms + 1 by omega] at this
  exact (down_perm ms).length_eq ▸ h1.length_le
/-- the row of the numbers -/
abbrev rowL (ms : List Nat) : List Nat := isort (fun k : Nat => (k : Int)) ms
theorem rowL_perm (ms : List Nat) : (rowL ms).Perm ms := isort_perm _ _
theorem rowL_sorted (ms : List Nat) : (rowL ms).Pairwise (fun a b => a ≤ b) := (isort_sorted (fun k : Nat => (k : Int)) ms).imp fun h => by omega
theorem sorted_eq {a b : List Nat} (h1 : a.Pairwise (fun a b => a ≤ b)) (h2 : b.Pairwise (fun a b => a ≤ b)) (hp : a.Perm b) : a = b :=
  hp.eq_of_pairwise (fun a b _ _ h1 h2 => Nat.le_antisymm h1 h2) h1 h2
theorem row_down (ms : List Nat) : rowL ms = (downL ms).reverse :=
  sorted_eq (rowL_sorted ms) (List.pairwise_reverse.mpr (dnL_desc ms _ (Nat.le_refl _))) ((rowL_perm ms).trans ((down_perm ms).symm.trans (List.reverse_perm _).symm))
theorem cntL_perm {a b : List Nat} (h : a.Perm b) : cntL a = cntL b := by
  have hm : mx a = mx b := by
    have gen : ∀ {a b : List Nat}, a.Perm b → mx a ≤ mx b := fun h => mx_le fun k hk => mx_ge (h.mem_iff.mp hk)
    exact Nat.le_antisymm (gen h) (gen h.symm)
  unfold cntL
  rw [hm]
  exact List.map_congr_left fun k _ => h.count_eq k
theorem perm_cntL {a b : List Nat} (h : cntL a = cntL b) : a.Perm b := by
  rw [List.perm_iff_count]
  intro k
  rw [← cntL_get, ← cntL_get, h]
theorem zs_inj {a b : List Nat} (h : zs a = zs b) : a = b := by
  have := congrArg (List.map Int.toNat) h
  rw [zs, zs, List.map_map, List.map_map] at this
  have e : (Int.toNat ∘ fun k : Nat => (k : Int)) = id := funext fun k => Int.toNat_natCast k
  rw [e, List.map_id, List.map_id] at this
  exact this
theorem count_cut (l : List Nat) (s : Nat) : ((zs l).countP (fun v => decide (v ≤ (s : Int))) : Int) - ((zs l).countP (fun v => decide (v < (s : Int))) : Int) = (l.count s : Int) := by
  induction l with
  | nil => rfl
  | cons x l ih =>
    simp only [zs, List.map_cons, List.countP_cons, List.count_cons, decide_eq_true_eq, beq_iff_eq] at ih ⊢
    by_cases h1 : x < s
    · rw [if_pos (by omega), if_pos (by omega), if_neg (by omega)]; omega
    · by_cases h2 : x = s
      · rw [if_pos (by omega), if_neg (by omega), if_pos h2]; omega
      · rw [if_neg (by omega), if_neg (by omega), if_neg h2]; omega
theorem zs_perm {a b : List Nat} (h : (zs a).Perm (zs b)) : a.Perm b := by
  have := h.map Int.toNat
  rw [zs, zs, List.map_map, List.map_map] at this
  have e : (Int.toNat ∘ fun k : Nat => (k : Int)) = id := funext fun k => Int.toNat_natCast k
  rw [e, List.map_id, List.map_id] at this
  exact this
theorem net_same {ms nz : List Nat} {ns : List Int} (h1 : ms ≠ []) (h2 : nz ≠ []) (hp : ns.Perm (zs nz)) (hs : ns.Pairwise (· ≤ ·)) :
    decide ((wrun (leadPre ms)).cs = (wrun (leadPre nz)).cs ∧ ((wrun (leadPre ms)).b : Int) = (wrun (leadPre nz)).b) = decide (ns = zs (rowL ms)) := by
  refine decide_eq_decide.mpr ?_
  rw [lead_cs h1, lead_cs h2, (run_lead ms).2.1, (run_lead nz).2.1]
  constructor
  · rintro ⟨h, _⟩
    have e1 : ms.Perm nz := perm_cntL (zs_inj h)
    have e2 : ns.Perm (zs (rowL ms)) := hp.trans ((e1.symm.trans (rowL_perm ms).symm).map _)
    exact e2.eq_of_pairwise (fun a b _ _ h1 h2 => Int.le_antisymm h1 h2) hs (List.pairwise_map.mpr ((rowL_sorted ms).imp fun h => by omega))
  · intro h
    rw [h] at hp
    exact ⟨congrArg zs (cntL_perm ((rowL_perm ms).symm.trans (zs_perm hp))), rfl⟩
end Mine
end
section
open PySem PySem.W PyProof.Rows PySem.Calls PyProof.Rows.LCg
namespace Mine
theorem lb_in {D L : Addr} {y o1 o2 o3 o4 o5 : Obj} {R : Fa} {p : Addr × Obj} (h : p ∈ cellsN L o1 o2 o3 o4 o5 ((D, y) :: R)) : p ∈ (D, y) :: (cellsN L o1 o2 o3 o4 o5 R ++ []) := by
  k_with_none
  rw [List.append_nil]; simp only [List.mem_cons] at h ⊢; grind
set_option maxRecDepth 100000 in
set_option maxHeartbeats 8000000 in
theorem law_b {w : World} {dp un : Nat} {gd : Option (List Code)} {outer : List Env} {A₀ : Around} {base h₀ : Heap} {L a : Addr} {ccd : Value} {s : Shared} {Q : Flow → Shared → Prop} {E : Value → Shared → Prop} {p : Program} {loose : List Str} {mean : ExcName → Option Value} {mg mb m : Str → Option Value} {R : Fa} {v : Vv} {o1 o2 o3 o4 o5 : Obj} {Ct : Addr} {cu : List Value} {qc : Nat} {v3 : Option Value}
  (B : Below A₀ base outer h₀) (F : Fr h₀ L s.heap m) (X : (hd.heap_1 w.params).In h₀) (T : Top p loose mean mg mb h₀) (N : News h₀ L s.heap (cellsN L o1 o2 o3 o4 o5 R)) (hb : Base w v R) (hlc : Loc v m) (hL : @LT.lt Nat _ 142 L) (hR : ∀ p ∈ R, @LT.lt Nat _ (L + 1 + 1 + 1 + 1 + 1) p.1) (hd : dp + 20 < recursionLimit) (hu : un + 400 < cLine)
  (d2 : o2.data = .cell (some (.ref Ct))) (d3 : o3.data = .cell v3) (hC : (Ct, W.listOf cu.toArray qc) ∈ R) (hI : IntsAre cu (zs (cntL v.ms)))
  (kB : ∀ (R' : Fa) (Dd : Addr) (dv : List Value) (qd : Nat) (o3' : Obj) (m' : Str → Option Value) (h' : Heap) (tk' : Nat), (∀ p ∈ R, p ∈ R') → Loc v m' → (Dd, W.listOf dv.toArray qd) ∈ R' → IntsAre dv (zs (downL v.ms)) → o3'.data = .cell (some (.ref Dd)) → Fr h₀ L h' m' → News h₀ L h' (cellsN L o1 o2 o3' o4 o5 R') → (∀ p ∈ R', @LT.lt Nat _ (L + 1 + 1 + 1 + 1 + 1) p.1) →
    wpAny (model PySem.Challenge.rw_rs0180_01.row.prog w) (lawTop dp un gd L a ccd outer) (execs (lawB.drop 7) (lawEnv L a ccd)) Q E { s with heap := h', toks := tk' }) :
  wpAny (model PySem.Challenge.rw_rs0180_01.row.prog w) (lawTop dp un gd L a ccd outer) (execs (lawB.drop 6) (lawEnv L a ccd)) Q E s := by
  k_with_none
  k_with "eval ListComp" => (k_here; k_dflt (refine' gc_eval ?gA ?gB ?gC ?gD ?_ ?gE; (case gA => rfl); (case gB => with_unfolding_all rfl); (case gC => rfl); (case gD => decide); (case gE => intro _; rfl)))
  k_with "exec Assign cons ListComp" => (k_here; (first | k_dflt (refine' gc_assign ?gY ?gA ?gS ?gB ?gC ?gD ?_ ?gE; (case gY => rfl); (case gA => rfl); (case gS => with_unfolding_all rfl); (case gB => with_unfolding_all rfl); (case gC => rfl); (case gD => decide); (case gE => intro _; rfl)) | k_dflt (refine' wpAny_Assign_Name ?_ ?gS; (case gS => with_unfolding_all rfl))))
  k_with "pyIter ref" => (with_reducible refine stop_ ?_)
  k_with "call type:enumerate" => (with_reducible refine stop_ ?_)
  k_with "storeName" => (k_here; k_dflt (first | (refine' storeX_L ?F ?N ?_ ?a ?b; (case F => k_asm); (case N => k_asm); (case a => rfl); (case b => rfl); k_whole; intro _ _ _; (try k_sweep)) | (refine stop_ ?_)))
  k_with "execs cons" => ((with_reducible show wpAny _ _ (execs (PySem.Stmt.Assign [PySem.Expr.Name (PySem.Str.ofString "row") _] _ _ :: _) _) _ _ _); (with_reducible refine stop_ ?_))
  k_with "execs cons Assign cons" => ((with_reducible show wpAny _ _ (execs (PySem.Stmt.Assign [PySem.Expr.Name (PySem.Str.ofString "row") _] _ _ :: _) _) _ _ _); (with_reducible refine stop_ ?_))
  k_with "mem" => ((repeat (first | with_reducible assumption | refine List.mem_cons_of_mem _ ?_)); done)
  k_with "eval Name" => (k_here; k_dflt (first | (refine' nameX_L ?F ?v ?_ ?a ?b; (case F => k_asm); (case a => rfl); (case b => rfl); (case v => rfl); k_whole) | (refine' nameX_K ?F ?X ?T ?e ?_ ?a ?b; (case F => k_asm); (case X => k_asm); (case T => k_asm); (case a => rfl); (case b => rfl); (case e => k_is); k_whole) | (refine' nameX_B ?F ?X ?T ?e ?v ?n ?_ ?a ?b; (case F => k_asm); (case X => k_asm); (case T => k_asm); (case a => rfl); (case b => rfl); (case e => k_is); (case v => boot_fast); (case n => decide); k_whole)))
  k_with "call ref" => (with_reducible refine stop_ ?_)
  k_with "call builtin:len" => (with_reducible refine stop_ ?_)
  k_with "subscriptTail Name Name ref int" => (with_reducible refine stop_ ?_)
  generalize hb0 : lawB.drop 6 = b0
  conv at hb0 => lhs; whnf
  subst hb0
  unfold lawTop lawEnv
  generalize hb0 : lawS = b0
  conv at hb0 => lhs; whnf
  subst hb0
  have F1 := frCongr F (toL_of hlc)
  unfold toL at F1
  clear F
  revert X; k_fill; intro X
  have hmx : mx v.ms ≤ 6 := mx_le hb.mb
  have hcl : cu.length = mx v.ms + 1 := by rw [hI.length, List.length_map, cntL_len]
  k_steps
  refine unstop ?_
  rename News h₀ L _ _ => N1
  refine' len_mem N1 (.tail _ (.tail _ (.tail _ (.tail _ (.tail _ (.tail _ hC)))))) ?z ?_
  case z => omega
  intro t1 tk1
  k_steps
  refine unstop ?_
  rename IsRange _ _ _ _ _ _ _ _ => hr
  rename News h₀ L _ _ => N2
  have hsz : ∀ i, i ≤ mx v.ms + 1 → (dnL v.ms i).length ≤ 6 := fun i hi => by
    have e1 := dnL_len v.ms i hi
    have e2 := hb.ml
    have e3 := hb.k6
    omega
  refine' it_rangeC (n := mx v.ms + 1) ?hh ?hF N2 hr ?hs ?hn ?_
  case hh => rfl
  case hF => k_asm
  case hs => exact small_down (by omega) (by omega) (by omega) (by omega)
  case hn => rw [rangeSize_downNat]; congr 1; omega
  intro I h1 Md St hI1 F2 N3 S
  refine' gcD (σ := Unit) (P' := fun i x => ∃ t, x = .int ((cu.length : Int) - 1 + (i : Int) * -1) t) (S _ _) ?ha ?hb ?hc ?hd ?he F2 (fun _ => cellsN L o1 o2 o3 o4 o5 R) () (by simpa using N3) (fun p hp hm => ?hg) (fun i ys _ => i ≤ mx v.ms + 1 ∧ IntsAre ys (zs (dnL v.ms i))) ⟨Nat.zero_le _, .nil⟩ ?_ ?_
  case ha => exact fun _ _ _ h => h
  case hb => decide
  case hc => rfl
  case hd => rfl
  case he => exact fun _ _ => rfl
  case hg => exact absurd (hI1 p hp) (List.mem_singleton.mp hm ▸ Nat.lt_irrefl _)
  · rintro E D C i ys _ h2 tk2 own oC hi ⟨hik, hys⟩ ⟨oC', m₂, x, hoC, hN2, hmx2, t, rfl⟩ hDC hDf hCf hfD hof hown _ F3 N4
    obtain rfl : oC = oC' := by simpa using hoC
    have hsz1 : (cu.length : Int) - 1 + (i : Int) * -1 = ((mx v.ms - i : Nat) : Int) := by omega
    rw [hsz1] at hmx2
    try dsimp only
    k_steps
    refine unstop ?_
    rename News h₀ L _ _ => N5
    refine' item_ints N5 ?w1 hI (by omega) (by omega) ?w2 ?_
    case w1 => exact .tail _ (.tail _ (.tail _ (.tail _ (.tail _ (.tail _ (.tail _ (.tail _ (List.mem_append_left _ hC))))))))
    case w2 => rw [List.length_map, cntL_len]; omega
    intro x2 t2 hx2
    have hx2 : x2 = ((v.ms.count (mx v.ms - i) : Nat) : Int) := by
      have e1 := cntL_get (ms := v.ms) (k := mx v.ms - i)
      rw [List.getD_eq_getElem?_getD] at e1
      rw [List.getElem?_map, Int.toNat_natCast] at hx2
      obtain ⟨q, q1, q2⟩ := Option.map_eq_some_iff.mp hx2
      rw [q1] at e1
      rw [← q2, ← e1]; rfl
    subst hx2
    have hc6 : v.ms.count (mx v.ms - i) ≤ 6 := by
      have e1 := List.count_le_length (a := mx v.ms - i) (l := v.ms)
      have e2 := hb.ml
      have e3 := hb.k6
      omega
    k_steps
    refine unstop ?_
    rename IsRange _ _ _ _ _ _ _ _ => hr2
    rename News h₀ L _ _ => N6
    refine' it_range (n := v.ms.count (mx v.ms - i)) ?hh ?hF N6 hr2 ?hs ?hn ?_
    case hh => rfl
    case hF => k_asm
    case hs => exact small_one (by omega) (by omega) (by omega) (by omega)
    case hn => exact rangeSize_nat _ _
    intro I2 h3 Md2 St2 hI2 F4 N7 S2
    refine' gc_inner (σ := Unit) (own := own) (fpo := [I]) (K := fun mm => mm (PySem.Str.ofString "size") = some (.int ((mx v.ms - i : Nat) : Int) t)) (P' := fun j v => ∃ t, v = .int (0 + (j : Int)) t) (S2 _ _) (fun _ _ _ h => h) ?hK rfl rfl F4 (fun _ => cellsN L o1 o2 o3 o4 o5 R) ys () N7 ?hoff ?hCf ?hDf hDC ⟨_, hN2, hmx2⟩ (fun _ _ => rfl) (fun j ys _ => j ≤ v.ms.count (mx v.ms - i) ∧ IntsAre ys (zs (dnL v.ms i ++ List.replicate j (mx v.ms - i)))) ⟨Nat.zero_le _, by simpa using hys⟩ ?hz ?turn ?hfin ?hDo
    case hK => exact fun mC v h => h
    case hoff =>
      intro p hp
      refine ⟨fun hm => absurd (hI2 p (List.mem_cons_of_mem _ (List.mem_cons_of_mem _ hp))) (List.mem_singleton.mp hm ▸ Nat.lt_irrefl _), ?_⟩
      rcases List.mem_append.mp hp with q | q
      · exact ⟨fun e => (hof p q).2.1 (by rw [e]; exact .head _), (hof p q).2.2⟩
      · exact ⟨fun e => hCf (e ▸ hown p q), fun e => hDf (e ▸ hown p q)⟩
    case hCf => exact fun hm => absurd (hI2 _ (.head _)) (List.mem_singleton.mp hm ▸ Nat.lt_irrefl _)
    case hDf => exact fun hm => absurd (hI2 (D, _) (.tail _ (.head _))) (List.mem_singleton.mp hm ▸ Nat.lt_irrefl _)
    case hDo => exact hDf
    case hz =>
      rintro j ys _ ⟨hj, hp⟩
      rw [hp.length, List.length_map, List.length_append, List.length_replicate, sizeLine_eq]
      have := hsz i (by omega)
      omega
    case hfin =>
      rintro ys _ ⟨_, hp⟩ hoffT
      refine ⟨fun p hp => (hof p hp).1, ⟨by omega, by rw [dnL_succ]; exact hp⟩, fun p hp => (hoffT p hp).2⟩
    case turn =>
      rintro E3 j ys3 _ h4 tk4 oC4 own4 hj ⟨hj', hys3⟩ ⟨oC4', m₄, v4, hoC4, hN4, hmx4, ⟨t4, rfl⟩, hmsize⟩ hof4 hlive4 F5 N8
      obtain rfl : oC4 = oC4' := by simpa using hoC4
      try dsimp only
      k_steps
      refine GEl.intro () (by k_asm) N8 (fun p hp => hp) (fun p hp => hof4 p hp) ⟨by omega, ?_⟩
      rw [List.replicate_succ', ← List.append_assoc, zs, List.map_append]
      exact hys3.append (.cons _ _ .nil)
  · rintro D C ys _ h2 tk2 oC mC ⟨_, hys⟩ hN2 F3 N4 hoff hlt _ hCL hC₀
    refine' gc_finE F3 ?hC hN2 ?hNr ?hr hCL hC₀ ?_
    case hC => exact (N4 (C, oC) (.head _)).1
    case hNr => exact newsSub N4 fun p hp => .tail _ hp
    case hr => exact hoff
    intro h3 F4 N5
    try dsimp only
    k_steps
    refine unstop ?_
    have hlt' : ∀ p ∈ cellsN L o1 o2 o3 o4 o5 R, @LT.lt Nat _ p.1 D := fun p hp => hlt p (List.mem_append_left _ hp)
    obtain ⟨qd, N6⟩ : ∃ qd, News h₀ L h3 (cellsN L o1 o2 o3 o4 o5 ((D, W.listOf ys.toArray qd) :: R)) := ⟨_, newsSub N5 fun p hp => lb_in hp⟩
    have hR2 : ∀ p ∈ (D, W.listOf ys.toArray qd) :: R, @LT.lt Nat _ (L + 1 + 1 + 1 + 1 + 1) p.1 := fun p hp => by
      rcases List.mem_cons.mp hp with q | q
      · rw [q]; exact cells_lt hlt'
      · exact hR p q
    refine storeX_C (F := by k_asm) N6 rfl (upd_down hL hR2) d3 ?_
    intro h7 o3' F7 N7 hd3
    k_steps
    refine unstop ?_
    rename News h₀ L _ _ => N8
    exact kB _ D ys qd o3' _ _ _ (fun p hp => .tail _ hp) ⟨rfl, rfl, rfl, rfl, rfl⟩ (.head _) hys hd3 (by k_asm) N8 hR2
end Mine
end
section
open PySem PySem.W PyProof.Rows PySem.Calls PyProof.Rows.LCg
namespace Mine
structure Rc where
  (rv : List Value) (n : Nat) (mm : Str → Option Value)
theorem zs_insR (r : List Nat) (x : Nat) : insAt (zs r) ((zs r).countP fun v => decide (v ≤ (x : Int))) (x : Int) = zs (insR (fun k : Nat => (k : Int)) r x) := by
  k_with_none
  unfold insR insAt zs
  rw [List.map_append, List.map_cons, List.map_take, List.map_drop, List.countP_map]
  rfl
theorem ints_insAt {vs : List Value} {ns : List Int} (h : IntsAre vs ns) (k : Nat) (x : Int) (t : Tok) : IntsAre (insAt vs k (.int x t)) (insAt ns k x) :=
  (h.take k).append (.cons x t (h.drop k))
abbrev offA (a : Addr) (R : Fa) : Fa := R.filter fun p => decide (p.1 ≠ a)
theorem off_ne {a : Addr} {R : Fa} : ∀ p ∈ offA a R, p.1 ≠ a := fun p hp => by simpa using (List.mem_filter.mp hp).2
theorem off_sub {a : Addr} {R : Fa} : ∀ p ∈ offA a R, p ∈ R := fun p hp => (List.mem_filter.mp hp).1
theorem off_mem {a : Addr} {o : Obj} {R news : Fa} {h₀ h : Heap} {L : Addr} (N : News h₀ L h news) (hs : ∀ p ∈ R, p ∈ news) (ha : (a, o) ∈ R) : ∀ p ∈ R, p ∈ (a, o) :: offA a R := fun p hp => by
  by_cases q : p.1 = a
  · have e1 := (N p (hs p hp)).1
    have e2 := (N _ (hs _ ha)).1
    obtain ⟨p1, p2⟩ := p
    simp only at q
    subst q
    simp only at e1 e2
    rw [e2] at e1
    rw [Option.some.inj e1]; exact .head _
  · exact .tail _ (List.mem_filter.mpr ⟨hp, by simpa using q⟩)
theorem allLt_mem'' {d : Nat} : ∀ {l : List (Addr × Obj)}, AllLt d l → ∀ p ∈ l, @LT.lt Nat _ p.1 d
  | [], _, p, hp => nomatch hp
  | x :: r, h, p, hp => by
    rcases List.mem_cons.mp hp with q | q
    · rw [q]; exact h.1
    · exact allLt_mem'' h.2 p q
theorem lc_in {D L : Addr} {y o1 o2 o3 o4 o5 : Obj} {R : Fa} {p : Addr × Obj} (h : p ∈ cellsN L o1 o2 o3 o4 o5 ((D, y) :: R)) : p ∈ (D, y) :: cellsN L o1 o2 o3 o4 o5 R := by
  simp only [List.mem_cons] at h ⊢; grind
theorem lc_in3 {L rw : Addr} {x o1 o2 o3 o4 o5 : Obj} {R own : Fa} {p : Addr × Obj} (h : p ∈ (rw, x) :: cellsN L o1 o2 o3 o4 o5 R) : p ∈ (rw, x) :: cellsN L o1 o2 o3 o4 o5 (R ++ own) := by
  simp only [List.mem_cons, List.mem_append] at h ⊢; grind
theorem lc_in4 {L : Addr} {x : Addr × Obj} {o1 o2 o3 o4 o5 : Obj} {R : Fa} {p : Addr × Obj} (h : p ∈ R) : p ∈ cellsN L o1 o2 o3 o4 o5 (x :: R) :=
  .tail _ (.tail _ (.tail _ (.tail _ (.tail _ (.tail _ (.tail _ h))))))
theorem lc_in5 {L : Addr} {x y : Addr × Obj} {o1 o2 o3 o4 o5 : Obj} {R : Fa} {p : Addr × Obj} (h : p ∈ cellsN L o1 o2 o3 o4 o5 (x :: y :: R)) : p ∈ (x :: cellsN L o1 o2 o3 o4 o5 R) ++ [y] := by
  simp only [List.mem_cons, List.mem_append, List.cons_append] at h ⊢; grind
theorem lc_in2 {L : Addr} {x : Addr × Obj} {o1 o2 o3 o4 o5 : Obj} {R R' : Fa} {p : Addr × Obj} (hs : ∀ p ∈ R', p ∈ R) (h : p ∈ cellsN L o1 o2 o3 o4 o5 R') : p ∈ cellsN L o1 o2 o3 o4 o5 (x :: R) := by
  simp only [List.mem_cons] at h ⊢
  rcases h with q | q | q | q | q | q | q
  · exact .inl q
  · exact .inr (.inl q)
  · exact .inr (.inr (.inl q))
  · exact .inr (.inr (.inr (.inl q)))
  · exact .inr (.inr (.inr (.inr (.inl q))))
  · exact .inr (.inr (.inr (.inr (.inr (.inl q)))))
  · exact .inr (.inr (.inr (.inr (.inr (.inr (.inr (hs p q)))))))
set_option maxRecDepth 100000 in
set_option maxHeartbeats 8000000 in
theorem law_c {w : World} {dp un : Nat} {gd : Option (List Code)} {outer : List Env} {A₀ : Around} {base h₀ : Heap} {L a : Addr} {ccd : Value} {s : Shared} {Q : Flow → Shared → Prop} {E : Value → Shared → Prop} {p : Program} {loose : List Str} {mean : ExcName → Option Value} {mg mb m : Str → Option Value} {R : Fa} {v : Vv} {o1 o2 o3 o4 o5 : Obj} {v4 : Option Value}
  (B : Below A₀ base outer h₀) (F : Fr h₀ L s.heap m) (X : (hd.heap_1 w.params).In h₀) (T : Top p loose mean mg mb h₀) (N : News h₀ L s.heap (cellsN L o1 o2 o3 o4 o5 R)) (hb : Base w v R) (hlc : Loc v m) (hL : @LT.lt Nat _ 142 L) (hR : ∀ p ∈ R, @LT.lt Nat _ (L + 1 + 1 + 1 + 1 + 1) p.1) (hd : dp + 20 < recursionLimit) (hu : un + 400 < cLine)
  (hE : PassesOwn (model PySem.Challenge.rw_rs0180_01.row.prog w) (lawTop dp un gd L a ccd outer) (lawEnv L a ccd) E) (d4 : o4.data = .cell v4)
  (kC : ∀ (R' : Fa) (rw : Addr) (rv : List Value) (qr : Nat) (o4' : Obj) (m' : Str → Option Value) (h' : Heap) (tk' : Nat), (∀ p ∈ R, p ∈ R') → Loc v m' → (rw, W.listOf rv.toArray qr) ∈ R' → IntsAre rv (zs (rowL v.ms)) → o4'.data = .cell (some (.ref rw)) → Fr h₀ L h' m' → News h₀ L h' (cellsN L o1 o2 o3 o4' o5 R') → (∀ p ∈ R', @LT.lt Nat _ (L + 1 + 1 + 1 + 1 + 1) p.1) →
    wpAny (model PySem.Challenge.rw_rs0180_01.row.prog w) (lawTop dp un gd L a ccd outer) (execs (lawB.drop 9) (lawEnv L a ccd)) Q E { s with heap := h', toks := tk' }) :
  wpAny (model PySem.Challenge.rw_rs0180_01.row.prog w) (lawTop dp un gd L a ccd outer) (execs (lawB.drop 7) (lawEnv L a ccd)) Q E s := by
  k_with_none
  k_with "storeName" => (k_here; k_dflt (first | (refine' storeX_L ?F ?N ?_ ?a ?b; (case F => k_asm); (case N => k_asm); (case a => rfl); (case b => rfl); k_whole; intro _ _ _; (try k_sweep)) | (refine stop_ ?_)))
  k_with "execs cons" => ((with_reducible show wpAny _ _ (execs (PySem.Stmt.Assign [PySem.Expr.Name (PySem.Str.ofString "fits") _] _ _ :: _) _) _ _ _); (with_reducible refine stop_ ?_))
  k_with "execs cons Assign cons" => ((with_reducible show wpAny _ _ (execs (PySem.Stmt.Assign [PySem.Expr.Name (PySem.Str.ofString "fits") _] _ _ :: _) _) _ _ _); (with_reducible refine stop_ ?_))
  k_with "mem" => ((repeat (first | with_reducible assumption | refine List.mem_cons_of_mem _ ?_)); done)
  k_with "eval Name" => (k_here; k_dflt (first | (refine' nameX_L ?F ?v ?_ ?a ?b; (case F => k_asm); (case a => rfl); (case b => rfl); (case v => rfl); k_whole) | (refine' nameX_K ?F ?X ?T ?e ?_ ?a ?b; (case F => k_asm); (case X => k_asm); (case T => k_asm); (case a => rfl); (case b => rfl); (case e => k_is); k_whole) | (refine' nameX_B ?F ?X ?T ?e ?v ?n ?_ ?a ?b; (case F => k_asm); (case X => k_asm); (case T => k_asm); (case a => rfl); (case b => rfl); (case e => k_is); (case v => boot_fast); (case n => decide); k_whole)))
  k_with "call ref" => (with_reducible refine stop_ ?_)
  k_with "pyIter ref" => (with_reducible refine stop_ ?_)
  k_with "execs cons If cons" => (with_reducible refine stop_ ?_)
  k_with "exec For Name Name cons nil" => (with_reducible refine stop_ ?_)
  generalize hb0 : lawB.drop 7 = b0
  conv at hb0 => lhs; whnf
  subst hb0
  unfold lawTop lawEnv
  generalize hb0 : lawS = b0
  conv at hb0 => lhs; whnf
  subst hb0
  have F1 := frCongr F (toL_of hlc)
  unfold toL at F1
  clear F
  revert X; k_fill; intro X
  k_steps
  refine unstop ?_
  rename _ ∧ _ ∧ _ ∧ _ ∧ _ ∧ _ ∧ AllLt _ _ => l1
  rename News h₀ L _ _ => N1
  rename Fr h₀ L _ _ => F2
  rename_i rw h9
  have hRrw : ∀ p ∈ R, @LT.lt Nat _ p.1 rw := allLt_mem'' l1.2.2.2.2.2.2
  have hLrw : @LT.lt Nat _ (L + 1 + 1 + 1 + 1 + 1) rw := l1.1
  have N2 : News h₀ L _ (cellsN L o1 o2 o3 o4 o5 ((rw, W.listOf ([] : List Value).toArray 0) :: R)) := newsSub N1 fun p hp => lc_in hp
  have hR2 : ∀ p ∈ (rw, W.listOf ([] : List Value).toArray 0) :: R, @LT.lt Nat _ (L + 1 + 1 + 1 + 1 + 1) p.1 := fun p hp => by
    rcases List.mem_cons.mp hp with q | q
    · rw [q]; exact hLrw
    · exact hR p q
  refine storeX_C (F := by k_asm) N2 rfl (upd_row hL hR2) d4 ?_
  intro h7 o4' F7 N3 hd4
  clear N1 N2 l1
  k_steps
  refine unstop ?_
  refine' For_invVF (hE := hE) ?kF rfl rfl ?kG
  case kF => k_asm
  k_steps
  refine unstop ?_
  rename News h₀ L _ _ => N4
  rename Fr h₀ L _ _ => F8
  obtain ⟨m0, F10, hl0⟩ : ∃ m0 : Str → Option Value, Fr h₀ L _ m0 ∧ Loc v m0 := ⟨_, F8, ⟨rfl, rfl, rfl, rfl, rfl⟩⟩
  clear F8
  have hDm := hb.mM
  have hDmR : @LT.lt Nat _ v.Dm rw := hRrw _ hDm
  have hDmL : @LT.lt Nat _ (L + 1 + 1 + 1 + 1 + 1) v.Dm := hR _ hDm
  have hne : ∀ (o1 o2 o3 o4 o5 : Obj) (p : Addr × Obj), p ∈ cellsN L o1 o2 o3 o4 o5 (offA v.Dm R) → p.1 ≠ v.Dm := by
    intro o1 o2 o3 o4 o5 p hp
    have hc := cl_ne hDmL
    rcases List.mem_cons.mp hp with q | q
    · rw [q]; exact hc.2.2.2.2.symm
    rcases List.mem_cons.mp q with q | q
    · rw [q]; exact hc.2.2.2.1.symm
    rcases List.mem_cons.mp q with q | q
    · rw [q]; exact hc.2.2.1.symm
    rcases List.mem_cons.mp q with q | q
    · rw [q]; exact hc.2.1.symm
    rcases List.mem_cons.mp q with q | q
    · rw [q]; exact hc.1.symm
    rcases List.mem_cons.mp q with q | q
    · rw [q]; exact Nat.ne_of_lt (Nat.lt_trans hL (Nat.lt_trans (by omega) hDmL))
    · exact off_ne p q
  have hml : v.ym.length = v.ms.length := by rw [hb.iM.length, List.length_map]
  have hmk : v.ms.length = v.k := hb.ml
  have hk6 := hb.k6
  refine' for_list (σ := Rc) (l := v.Dm) (vs := v.ym) (nn := v.qM) (fun _ c => toL v c.mm) (fun c => (rw, W.listOf c.rv.toArray c.n) :: cellsN L o1 o2 o3 o4' o5 (offA v.Dm R)) (fun i c => IntsAre c.rv (zs (rowL (v.ms.take i)))) ⟨[], 0, m0⟩ ?hh F10 N4 ?hl ?hn ?hne ?he ?hp ?ht ?hd
  case hh => rfl
  case hl => exact .tail _ (.tail _ (.tail _ (.tail _ (.tail _ (.tail _ (.tail _ hDm))))))
  case hn =>
    intro p hp
    rcases List.mem_cons.mp hp with q | q
    · rw [q]; exact .tail _ (.tail _ (.tail _ (.tail _ (.tail _ (.tail _ (.head _))))))
    · exact lc_in2 off_sub q
  case hne =>
    intro p hp
    rcases List.mem_cons.mp hp with q | q
    · rw [q]; exact Nat.ne_of_gt hDmR
    · exact hne _ _ _ _ _ p q
  case he => exact fun z _ => toL_of hl0 z
  case hp => exact .nil
  case ht =>
    rintro I i x ⟨rv, rn, mm⟩ h4 tk4 own hv hPc hoff hown hDo hIo F9 N5
    obtain ⟨tx, rfl⟩ := zs_item hb.iM hv
    have hil : i < v.ms.length := by have := (List.getElem?_eq_some_iff.mp hv).1; omega
    have hx : v.ms[i]? = some (v.ms.getD i 0) := by rw [List.getD_eq_getElem?_getD, List.getElem?_eq_getElem hil]; rfl
    generalize v.ms.getD i 0 = x at hx F9
    dsimp only at hPc
    try dsimp only at hoff
    try dsimp only at N5
    try dsimp only [toL] at F9
    have N6 : News h₀ L h4 ((rw, W.listOf rv.toArray rn) :: cellsN L o1 o2 o3 o4' o5 (offA v.Dm R ++ own)) := newsSub N5 fun p hp => hp
    clear N5
    try dsimp only
    k_steps
    refine unstop ?_
    rename News h₀ L _ _ => N7
    have hrl : rv.length ≤ 6 := by
      have e1 := hPc.length
      rw [List.length_map, (rowL_perm _).length_eq, List.length_take] at e1
      omega
    have hIne : ∀ q ∈ own, q.1 ≠ rw := fun q hq e => by
      have e2 := hown q hq
      rw [e] at e2
      exact hoff (rw, W.listOf rv.toArray rn) (.head _) e2
    refine' insR_int (vs := rv) (n := rn) (ns := zs (rowL (v.ms.take i))) ?lB ?lF ?lX ?lN ?lT ?lK (by omega) hPc ?ls (.head ?lU) ?ld ?lu ?_
    (case lB => k_asm); (case lF => k_asm); (case lX => k_asm); (case lN => k_asm); (case lT => k_asm); (case lK => first | exact rfl | assumption); (case ld => ktr_room); (case lu => ktr_units)
    case ls => exact List.pairwise_map.mpr ((rowL_sorted _).imp fun h => by omega)
    case lU =>
      intro q hq
      have hc := cl_ne hLrw
      rcases List.mem_cons.mp hq with e | hq
      · rw [e]; exact hc.2.2.2.2.symm
      rcases List.mem_cons.mp hq with e | hq
      · rw [e]; exact hc.2.2.2.1.symm
      rcases List.mem_cons.mp hq with e | hq
      · rw [e]; exact hc.2.2.1.symm
      rcases List.mem_cons.mp hq with e | hq
      · rw [e]; exact hc.2.1.symm
      rcases List.mem_cons.mp hq with e | hq
      · rw [e]; exact hc.1.symm
      rcases List.mem_cons.mp hq with e | hq
      · rw [e]; exact Nat.ne_of_lt (Nat.lt_trans hL (Nat.lt_trans (by omega) hLrw))
      rcases List.mem_append.mp hq with e | e
      · exact Nat.ne_of_lt (hRrw _ (off_sub _ e))
      · exact hIne _ e
    intro h5 tk5 F11 N8
    k_steps
    dsimp only [FePost]
    rename Fr h₀ L _ _ => F12
    rename News h₀ L _ _ => N9
    obtain ⟨m9, F13, hl9⟩ : ∃ m0 : Str → Option Value, Fr h₀ L _ m0 ∧ Loc v m0 := ⟨_, F12, ⟨rfl, rfl, rfl, rfl, rfl⟩⟩
    refine FeEnd.intro (⟨insAt rv ((zs (rowL (v.ms.take i))).countP fun v => decide (v ≤ (x : Int))) (.int (x : Int) tx), rn + 1, m9⟩ : Rc) F13 N9 (fun z _ => toL_of hl9 z) (fun q hq => ?_) (fun q hq => .tail _ (.tail _ (.tail _ (.tail _ (.tail _ (.tail _ (.tail _ (List.mem_append_right _ hq)))))))) (fun q hq => ?_) ?_
    · exact lc_in3 hq
    · rcases List.mem_cons.mp hq with e | hq
      · rw [e]; exact hoff (rw, W.listOf rv.toArray rn) (.head _)
      · exact hoff q (.tail _ hq)
    · have e : v.ms.take (i + 1) = v.ms.take i ++ [x] := by rw [List.take_add_one, hx]; rfl
      show IntsAre _ (zs (rowL (v.ms.take (i + 1))))
      have e2 : rowL (v.ms.take i ++ [x]) = insR (fun k : Nat => (k : Int)) (rowL (v.ms.take i)) x := isort_snoc _ _ _
      rw [e, e2, ← zs_insR]
      exact ints_insAt hPc _ _ _
  case hd =>
    rintro ⟨rv, rn, mm⟩ u h' tk' hPc F' N'
    dsimp only at hPc
    try dsimp only at N'
    try dsimp only [toL] at F'
    dsimp only
    rw [hml, List.take_length] at hPc
    k_steps
    refine unstop ?_
    rename Fr h₀ L _ _ => F12
    rename News h₀ L _ _ => N9
    obtain ⟨m9, F13, hl9⟩ : ∃ m0 : Str → Option Value, Fr h₀ L _ m0 ∧ Loc v m0 := ⟨_, F12, ⟨rfl, rfl, rfl, rfl, rfl⟩⟩
    refine kC ((rw, W.listOf rv.toArray rn) :: (v.Dm, W.listOf v.ym.toArray v.qM) :: offA v.Dm R) rw rv rn o4' m9 _ _ (fun p hp => .tail _ (off_mem N4 (fun p hp => lc_in4 hp) hDm p hp)) hl9 (.head _) hPc hd4 F13 (newsSub N9 fun p hp => lc_in5 hp) (fun p hp => ?_)
    rcases List.mem_cons.mp hp with e | hp
    · rw [e]; exact hLrw
    rcases List.mem_cons.mp hp with e | hp
    · rw [e]; exact hDmL
    · exact hR p (off_sub p hp)
end Mine
end
section
open PySem PySem.W PyProof.Rows PySem.Calls PyProof.Rows.LCg
namespace Mine
set_option maxRecDepth 100000 in
set_option maxHeartbeats 8000000 in
theorem law_d {w : World} {dp un : Nat} {gd : Option (List Code)} {outer : List Env} {A₀ : Around} {base h₀ : Heap} {L a : Addr} {ccd : Value} {s : Shared} {Q : Flow → Shared → Prop} {E : Value → Shared → Prop} {p : Program} {loose : List Str} {mean : ExcName → Option Value} {mg mb m : Str → Option Value} {R : Fa} {v : Vv} {o1 o2 o3 o4 o5 : Obj} {Ct Dd rw : Addr} {cu dv rv : List Value} {qc qd qr : Nat}
  (B : Below A₀ base outer h₀) (F : Fr h₀ L s.heap m) (X : (hd.heap_1 w.params).In h₀) (T : Top p loose mean mg mb h₀) (N : News h₀ L s.heap (cellsN L o1 o2 o3 o4 o5 R)) (hb : Base w v R) (hlc : Loc v m) (hL : @LT.lt Nat _ 142 L) (hR : ∀ p ∈ R, @LT.lt Nat _ (L + 1 + 1 + 1 + 1 + 1) p.1) (hd : dp + 20 < recursionLimit) (hu : un + 400 < cLine)
  (d2 : o2.data = .cell (some (.ref Ct))) (d3 : o3.data = .cell (some (.ref Dd))) (d4 : o4.data = .cell (some (.ref rw))) (hC : (Ct, W.listOf cu.toArray qc) ∈ R) (hD : (Dd, W.listOf dv.toArray qd) ∈ R) (hr : (rw, W.listOf rv.toArray qr) ∈ R) (iC : IntsAre cu (zs (cntL v.ms))) (iD : IntsAre dv (zs (downL v.ms))) (iR : IntsAre rv (zs (rowL v.ms)))
  (kD : ∀ (R' : Fa) (m' : Str → Option Value) (h' : Heap) (tk' : Nat), (∀ p ∈ R, p ∈ R') → Loc v m' → Fr h₀ L h' m' → News h₀ L h' (cellsN L o1 o2 o3 o4 o5 R') → (∀ p ∈ R', @LT.lt Nat _ (L + 1 + 1 + 1 + 1 + 1) p.1) →
    wpAny (model PySem.Challenge.rw_rs0180_01.row.prog w) (lawTop dp un gd L a ccd outer) (execs (lawB.drop 10) (lawEnv L a ccd)) Q E { s with heap := h', toks := tk' }) :
  wpAny (model PySem.Challenge.rw_rs0180_01.row.prog w) (lawTop dp un gd L a ccd outer) (execs (lawB.drop 9) (lawEnv L a ccd)) Q E s := by
  k_with_none
  k_with "eval ListComp" => (k_here; k_dflt (refine' gc_eval ?gA ?gB ?gC ?gD ?_ ?gE; (case gA => rfl); (case gB => with_unfolding_all rfl); (case gC => rfl); (case gD => decide); (case gE => intro _; rfl)))
  k_with "exec Assign cons ListComp" => (k_here; (first | k_dflt (refine' gc_assign ?gY ?gA ?gS ?gB ?gC ?gD ?_ ?gE; (case gY => rfl); (case gA => rfl); (case gS => with_unfolding_all rfl); (case gB => with_unfolding_all rfl); (case gC => rfl); (case gD => decide); (case gE => intro _; rfl)) | k_dflt (refine' wpAny_Assign_Name ?_ ?gS; (case gS => with_unfolding_all rfl))))
  k_with "pyIter ref" => (with_reducible refine stop_ ?_)
  k_with "call type:enumerate" => (with_reducible refine stop_ ?_)
  k_with "storeName" => (k_here; k_dflt (first | (refine' storeX_L ?F ?N ?_ ?a ?b; (case F => k_asm); (case N => k_asm); (case a => rfl); (case b => rfl); k_whole; intro _ _ _; (try k_sweep)) | (refine stop_ ?_)))
  k_with "mem" => ((repeat (first | with_reducible assumption | refine List.mem_cons_of_mem _ ?_)); done)
  k_with "eval Name" => (k_here; k_dflt (first | (refine' nameX_L ?F ?v ?_ ?a ?b; (case F => k_asm); (case a => rfl); (case b => rfl); (case v => rfl); k_whole) | (refine' nameX_K ?F ?X ?T ?e ?_ ?a ?b; (case F => k_asm); (case X => k_asm); (case T => k_asm); (case a => rfl); (case b => rfl); (case e => k_is); k_whole) | (refine' nameX_B ?F ?X ?T ?e ?v ?n ?_ ?a ?b; (case F => k_asm); (case X => k_asm); (case T => k_asm); (case a => rfl); (case b => rfl); (case e => k_is); (case v => boot_fast); (case n => decide); k_whole)))
  k_with "call ref" => (with_reducible refine stop_ ?_)
  k_with "pyIter ref" => (with_reducible refine stop_ ?_)
  k_with "subscriptTail Name Slice ref ref" => (with_reducible refine stop_ ?_)
  k_with "compareOp NotEq ref ref" => (with_reducible refine stop_ ?_)
  k_with "call builtin:max" => (with_reducible refine stop_ ?_)
  k_with "call builtin:len" => (with_reducible refine stop_ ?_)
  k_with "execs cons If cons" => ((with_reducible show wpAny _ _ (execs (PySem.Stmt.If (PySem.Expr.BoolOp PySem.BoolOp.Or [PySem.Expr.Compare _ [PySem.CmpOp.IsNot] _ _, _] _) _ _ _ :: _) _) _ _ _); (with_reducible refine stop_ ?_))
  generalize hb0 : lawB.drop 9 = b0
  conv at hb0 => lhs; whnf
  subst hb0
  unfold lawTop lawEnv
  generalize hb0 : lawS = b0
  conv at hb0 => lhs; whnf
  subst hb0
  have F1 := frCongr F (toL_of hlc)
  unfold toL at F1
  clear F
  revert X; k_fill; intro X
  have N0 : News h₀ L s.heap (wsNews w v.x v.d v.nrm v.ct v.cv (wrun (leadPre v.ms)) v.xt v.t v.tb v.tn v.tt v.sb v.k1 v.k2 v.k3 v.k4 v.k5 (cellsN L o1 o2 o3 o4 o5 R)) := by
    intro p hp
    simp only [wsNews, List.mem_cons] at hp
    rcases hp with q | q | q | q | q
    · exact N p (.tail _ (.tail _ (.tail _ (.tail _ (.tail _ (.tail _ (hb.mW p (by rw [q]; exact .head _))))))))
    · exact N p (.tail _ (.tail _ (.tail _ (.tail _ (.tail _ (.tail _ (hb.mW p (by rw [q]; exact .tail _ (.head _)))))))))
    · exact N p (.tail _ (.tail _ (.tail _ (.tail _ (.tail _ (.tail _ (hb.mW p (by rw [q]; exact .tail _ (.tail _ (.head _))))))))))
    · exact N p (.tail _ (.tail _ (.tail _ (.tail _ (.tail _ (.tail _ (hb.mW p (by rw [q]; exact .tail _ (.tail _ (.tail _ (.head _)))))))))))
    · exact N p (by simp only [List.mem_cons]; exact q)
  have mR : ∀ p ∈ R, p ∈ wsNews w v.x v.d v.nrm v.ct v.cv (wrun (leadPre v.ms)) v.xt v.t v.tb v.tn v.tt v.sb v.k1 v.k2 v.k3 v.k4 v.k5 (cellsN L o1 o2 o3 o4 o5 R) := fun p hp => .tail _ (.tail _ (.tail _ (.tail _ (.tail _ (.tail _ (.tail _ (.tail _ (.tail _ (.tail _ hp)))))))))
  have hmx : mx v.ms ≤ 6 := mx_le hb.mb
  have hcl : cu.length = mx v.ms + 1 := by rw [iC.length, List.length_map, cntL_len]
  have hdl : dv.length = v.ms.length := by rw [iD.length, List.length_map, (down_perm _).length_eq]
  have hrl : rv.length = v.ms.length := by rw [iR.length, List.length_map, (rowL_perm _).length_eq]
  have hml := hb.ml
  have hk6 := hb.k6
  have hk1 := hb.k1
  clear N
  k_steps
  refine unstop ?_
  rename News h₀ L _ _ => N1
  refine' krv_ints ?F N1 (News.isList N1 (mR _ hD)) (IsPart.int _ _) iD ?_ ?s ?t ?z
  case F => k_asm
  case s => with_unfolding_all rfl
  case t => intro _; with_unfolding_all rfl
  case z => rw [List.size_toArray, sizeLine_eq]; omega
  intro D1 ws h1 F2 N2 l1 iW _
  k_steps
  refine unstop ?_
  rename News h₀ L _ _ => N3
  refine ke_ne_ints (News.isList N3 (.tail _ (mR _ hr))) (News.isList N3 (.head _)) iR iW (by ke_room) ?_
  have hrd : decide (zs (rowL v.ms) = (zs (downL v.ms)).reverse) = true := by
    rw [decide_eq_true_eq, row_down, zs, zs, List.map_reverse]
  rw [hrd]
  simp only [Bool.not_true]
  k_steps
  refine unstop ?_
  rename News h₀ L _ _ => N4
  refine' len_mem N4 (.tail _ (mR _ hC)) ?z ?_
  case z => omega
  intro t1 tk1
  k_steps
  refine unstop ?_
  rename IsRange _ _ _ _ _ _ _ _ => hr1
  rename News h₀ L _ _ => N5
  refine' it_range (n := mx v.ms + 1) ?hh ?hF N5 hr1 ?hs ?hn ?_
  case hh => rfl
  case hF => k_asm
  case hs => exact small_one (by omega) (by omega) (by omega) (by omega)
  case hn => rw [rangeSize_nat, hcl]; rfl
  intro I h2 Md St hI1 F3 N6 S
  have hsr : (zs (rowL v.ms)).Pairwise (· ≤ ·) := List.pairwise_map.mpr ((rowL_sorted _).imp fun h => by omega)
  refine' compE (R := fun i y => ∃ t, y = .int (v.ms.count i : Nat) t) (S _ _) ?ha ?hb F3 N6 ?hc ?hd ?he ?hf ?_ ?_
  case ha => decide
  case hb => rfl
  case hc => exact cov_one hI1
  case hd => exact fun p hp => nomatch hp
  case he => rw [sizeLine_eq]; omega
  case hf => exact fun C => asg_name (P' := fun i x => ∃ t, x = .int (0 + (i : Int)) t) (fun _ _ _ h => h) rfl rfl
  · rintro E D C i ys h3 tk3 oC hi ⟨oC', m₂, x, hoC, hN2, hma, t, rfl⟩ hDC hoff F4 own N7
    obtain rfl : oC = oC' := by simpa using hoC
    rw [Int.zero_add] at hma
    try dsimp only
    k_steps
    refine unstop ?_
    rename News h₀ L _ _ => N8
    refine' bisR_int2 (t0 := 0) (vs := rv) (n := qr) (ns := zs (rowL v.ms)) ?lB ?lF ?lX ?lN ?lT ?lK ?lm (by omega) iR hsr ?ld ?lu ?_
    (case lB => k_asm); (case lF => k_asm); (case lX => k_asm); (case lN => k_asm); (case lT => k_asm); (case lK => first | exact rfl | assumption); (case ld => ktr_room); (case lu => ktr_units)
    case lm => exact .tail _ (.tail _ (List.mem_append_left _ (.tail _ (mR _ hr))))
    intro t2 h4 tk4 F5 N9
    k_steps
    refine unstop ?_
    refine' bisL_int2 (t0 := 0) (vs := rv) (n := qr) (ns := zs (rowL v.ms)) ?lB ?lF ?lX ?lN ?lT ?lK ?lm (by omega) iR hsr ?ld ?lu ?_
    (case lB => k_asm); (case lF => k_asm); (case lX => k_asm); (case lN => k_asm); (case lT => k_asm); (case lK => first | exact rfl | assumption); (case ld => ktr_room); (case lu => ktr_units)
    case lm => exact .tail _ (.tail _ (List.mem_append_left _ (.tail _ (mR _ hr))))
    intro t3 h5 tk5 F6 N10
    k_steps
    exact GOne.intro (by k_asm) (by k_asm) (fun _ h => h) (int_val (by rw [count_cut, (rowL_perm _).count_eq]))
  · intro D ys h3 tk3 hyl hyR F4 N7 hlt
    k_steps
    refine unstop ?_
    rename News h₀ L _ _ => N8
    have iY : IntsAre ys (zs (cntL v.ms)) := by
      have e1 := ints_of (f := fun i => ((v.ms.count i : Nat) : Int)) (ys := ys) (k := 0) fun j y hy => by rw [Nat.zero_add]; exact hyR j y hy
      rw [hyl] at e1
      have e2 : (List.range' 0 (mx v.ms + 1)).map (fun i => ((v.ms.count i : Nat) : Int)) = zs (cntL v.ms) := by
        unfold cntL zs
        rw [List.map_map, List.range_eq_range']; rfl
      rw [e2] at e1
      exact e1
    refine ke_ne_ints (xs := ys) (News.isList N8 (.head _)) (News.isList N8 (.tail _ (.tail _ (mR _ hC)))) iY iC (by ke_room) ?_
    simp only [decide_true, Bool.not_true]
    have hnt : (((wrun (leadPre v.ms)).nt : Nat) : Int) = (v.k : Int) := by rw [(run_lead v.ms).2.2, hml]
    have hne : v.ms ≠ [] := fun e => by have e1 := hb.k1; rw [e] at hml; simp at hml; omega
    k_steps
    · exact absurd hnt (by assumption)
    · refine unstop ?_
      rename News h₀ L _ _ => N9
      refine' len_mem N9 (.tail _ (.tail _ (mR _ hC))) ?z ?_
      case z => omega
      intro t2 tk4
      k_steps
      refine unstop ?_
      rename News h₀ L _ _ => N10
      refine' kso_max ?F N10 (News.isList N10 (.tail _ (.tail _ (mR _ hb.mM)))) hb.iM ?w1 rfl ?_
      case F => k_asm
      case w1 => rw [List.length_map]; omega
      intro h4 M t3 tk5 F5 N11 hM1 hM2
      have hM : M = ((mx v.ms : Nat) : Int) := by
        obtain ⟨q, hq, rfl⟩ := List.mem_map.mp hM1
        have e1 := mx_ge hq
        have e2 := hM2 ((mx v.ms : Nat) : Int) (List.mem_map_of_mem (mx_mem hne))
        omega
      subst hM
      have hcl2 : (cu.length : Int) = ((mx v.ms : Nat) : Int) + 1 := by omega
      k_steps
      · exact absurd hcl2 (by assumption)
      · refine unstop ?_
        rename News h₀ L _ _ => N12
        exact kD R _ _ _ (fun p hp => hp) ⟨rfl, rfl, rfl, rfl, rfl⟩ (by k_asm) (newsSub N12 fun p hp => .tail _ (.tail _ (.tail _ (.tail _ (.tail _ (.tail _ hp)))))) hR
end Mine
end
section
open PySem PySem.W PyProof.Rows PySem.Calls
namespace Mine
theorem eqv_norm (xs ys : List Int) (a b : Int) : PyData.eqv (.tuple [.tuple (xs.map PyData.int), .int a]) (.tuple [.tuple (ys.map PyData.int), .int b]) = decide (xs = ys ∧ a = b) := by
  k_with_none
  simp only [PyData.eqv, PyData.eqvAll, ked_eqvAll, Bool.and_true]
  by_cases h : xs = ys <;> by_cases h' : a = b <;> simp [h, h']
theorem norm_shaped (xs : List Int) (a : Int) : SeqAt.shaped (.tuple [.tuple (xs.map PyData.int), .int a]) = true := by
  simp [SeqAt.shaped, PyData.canLay0, PyData.canLayAll0, PyData.depth, PyData.depthAll, ke_canLayAll0, ke_depthAll]
theorem norm_reads {h₀ h : Heap} {L n c : Addr} {news : List (Addr × Obj)} {cv : List Value} {xs : List Int} {b : Int} {t : Tok} (N : News h₀ L h news) (h1 : (n, tupO [.ref c, .int b t]) ∈ news) (h2 : (c, tupO cv) ∈ news) (hI : IntsAre cv xs) : Reads h (.ref n) (.tuple [.tuple (xs.map PyData.int), .int b]) ([] ++ ([] ++ [])) := by
  refine reads_tuple_at (N _ h1).1 rfl rfl (.cons (reads_tuple_at (N _ h2).1 rfl rfl ?_) (.cons (.int _ _) .nil))
  have := (ke_carried hI).readsAll h
  simpa using this
theorem eq_norms {prog : Program} {w : World} {A : Around} {E : Value → Shared → Prop} {s : Shared} {h₀ : Heap} {L n1 c1 n2 c2 : Addr} {news : List (Addr × Obj)} {v1 v2 : List Value} {xs ys : List Int} {b1 b2 : Int} {t1 t2 : Tok} {Q : Value → Shared → Prop}
    (N : News h₀ L s.heap news) (h1 : (n1, tupO [.ref c1, .int b1 t1]) ∈ news) (h2 : (c1, tupO v1) ∈ news) (h3 : (n2, tupO [.ref c2, .int b2 t2]) ∈ news) (h4 : (c2, tupO v2) ∈ news) (hI : IntsAre v1 xs) (hJ : IntsAre v2 ys) (hu : A.units + 64 < cLine)
    (h : Q (.bool (decide (xs = ys ∧ b1 = b2))) s) : wpAny (model prog w) A (compareOp .Eq (.ref n1) (.ref n2)) Q E s :=
  SeqAt.compareEq_shaped (norm_reads N h1 h2 hI) (norm_reads N h3 h4 hJ) (norm_shaped _ _) (norm_shaped _ _) hu (by rw [eqv_norm]; exact h)
theorem eqv_strs : ∀ ss : List Str, PyData.eqvAll (ss.map PyData.str) (ss.map PyData.str) = true
  | [] => rfl
  | s :: r => by simp only [List.map_cons, PyData.eqvAll, PyData.eqv, eqv_strs r, beq_self_eq_true, Bool.and_true]
theorem strs_lay : ∀ {ss : List Str}, (∀ s ∈ ss, PyData.strOk s = true) → PyData.canLayAll0 (ss.map PyData.str) = true
  | [], _ => rfl
  | s :: r, h => by simp only [List.map_cons, PyData.canLayAll0, PyData.canLay0, h s (.head _), strs_lay (fun x hx => h x (.tail _ hx)), Bool.and_true]
theorem strs_deep : ∀ ss : List Str, PyData.depthAll (ss.map PyData.str) = 0
  | [] => rfl
  | s :: r => by simp [PyData.depthAll, PyData.depth, strs_deep r]
theorem eq_rows {prog : Program} {w : World} {A : Around} {E : Value → Shared → Prop} {s : Shared} {h₀ : Heap} {L a b : Addr} {news : List (Addr × Obj)} {v1 v2 : List Value} {ss : List Str} {k1 k2 : Nat} {Q : Value → Shared → Prop}
    (N : News h₀ L s.heap news) (h1 : (a, W.listOf v1.toArray k1) ∈ news) (h2 : (b, W.listOf v2.toArray k2) ∈ news) (hI : StrsAre v1 ss) (hJ : StrsAre v2 ss) (hk : ∀ s ∈ ss, PyData.strOk s = true) (hu : A.units + 64 < cLine)
    (h : Q (.bool true) s) : wpAny (model prog w) A (compareOp .Eq (.ref a) (.ref b)) Q E s := by
  have hs : SeqAt.shaped (.list (ss.map PyData.str)) = true := by
    simp [SeqAt.shaped, PyData.canLay0, PyData.depth, strs_lay hk, strs_deep]
  refine SeqAt.compareEq_shaped (reads_newData (News.isList N h1) (StrsAre.carried hI)) (reads_newData (News.isList N h2) (StrsAre.carried hJ)) hs hs hu ?_
  rw [show PyData.eqv (.list (ss.map PyData.str)) (.list (ss.map PyData.str)) = true from eqv_strs ss]
  exact h
set_option maxRecDepth 100000 in
set_option maxHeartbeats 8000000 in
theorem ws_equal {w : World} {dp un : Nat} {gd : Option (List Code)} {cn : Str} {cs : Scope} {a : Addr} {ccd : Value} {cl : List (Str × Addr)} {outer : List Env} {A₀ : Around} {base h₀ : Heap} {L : Addr} {m : Str → Option Value} {s : Shared} {Q E : Value → Shared → Prop} {p : Program} {loose : List Str} {mean : ExcName → Option Value} {mg mb : Str → Option Value} {news : List (Addr × Obj)} {x1 d1 n1 c1 x2 d2 n2 c2 : Addr} {v1 v2 : List Value} {W1 W2 : Wc} {xt1 xt2 : Str} {t1 tb1 tn1 tt1 k11 k12 k13 k14 k15 t2 tb2 tn2 tt2 k21 k22 k23 k24 k25 : Tok} {sb1 sb2 : Bool}
  (B : Below A₀ base outer h₀) (F : Fr h₀ L s.heap m) (X : (hd.heap_1 w.params).In h₀) (N : News h₀ L s.heap news) (T : Top p loose mean mg mb h₀) (hk : cs.kind = .function)
  (h1 : ∀ p ∈ wsNews w x1 d1 n1 c1 v1 W1 xt1 t1 tb1 tn1 tt1 sb1 k11 k12 k13 k14 k15 [], p ∈ news) (h2 : ∀ p ∈ wsNews w x2 d2 n2 c2 v2 W2 xt2 t2 tb2 tn2 tt2 sb2 k21 k22 k23 k24 k25 [], p ∈ news)
  (hI : IntsAre v1 W1.cs) (hJ : IntsAre v2 W2.cs) (hd : dp + 1 < recursionLimit) (hu : un + 100 < cLine)
  (h : ∀ h' tk', Fr h₀ L h' m → News h₀ L h' news → Q (.bool (decide (W1.cs = W2.cs ∧ (W1.b : Int) = W2.b))) { s with heap := h', toks := tk' }) :
  wpAny (model PySem.Challenge.rw_rs0180_01.row.prog w) (ktrTop dp un gd cn cs L a ccd cl outer) (call (.ref 102) [.ref x1, .ref x2]) Q E s := by
  k_with_none
  k_with "compareOp Eq ref ref" => (k_here; k_dflt (refine' eq_norms ?lN ?l1 ?l2 ?l3 ?l4 ?lI ?lJ ?lu ?_; (case lN => k_asm); (case l1 => k_mem); (case l2 => k_mem); (case l3 => k_mem); (case l4 => k_mem); (case lI => assumption); (case lJ => assumption); (case lu => ke_room)))
  revert X; k_fill; intro X
  have N9 : News h₀ L s.heap (wsNews w x1 d1 n1 c1 v1 W1 xt1 t1 tb1 tn1 tt1 sb1 k11 k12 k13 k14 k15 (wsNews w x2 d2 n2 c2 v2 W2 xt2 t2 tb2 tn2 tt2 sb2 k21 k22 k23 k24 k25 news)) := by
    intro p hp
    simp only [wsNews, List.mem_cons] at hp h1 h2
    refine N p ?_
    rcases hp with q | q | q | q | q | q | q | q | q
    · exact h1 p (.inl q)
    · exact h1 p (.inr (.inl q))
    · exact h1 p (.inr (.inr (.inl q)))
    · exact h1 p (.inr (.inr (.inr (.inl q))))
    · exact h2 p (.inl q)
    · exact h2 p (.inr (.inl q))
    · exact h2 p (.inr (.inr (.inl q)))
    · exact h2 p (.inr (.inr (.inr (.inl q))))
    · exact q
  clear N
  refine wpAny_call ?_
  k_dflt (refine' code_def (binds := [("self", .ref x1), ("other", .ref x2)]) ?k1 ?k2 ?k3 ?k4 ?k5 ?kA ?kF ?kK ?k6 ?k7 ?k8 ?k9 ?kB ?_ ?c2 ?c3 ?c4 ?c5; (case kA => exact rfl); (case kF => exact rfl); (case kK => first | exact rfl | assumption); (case k1 => k_asm); (case k2 => k_asm); (case k3 => k_asm); (case k4 => k_asm); (case k5 => k_asm); (case k6 => k_is); (case k7 => k_is); (case k8 => ktr_room); (case k9 => first | exact BindsTo.of_eq rfl | (refine' kp_binds ?kx ?ke; (case kx => k_in); (case ke => exact fun _ => rfl))); (case c5 => decide); (case kB => exact locs rfl); (case c2 => exact rfl); (case c3 => exact rfl); (case c4 => exact rfl); k_whole; intro g' L' h' FG' F' N' B' X' T'; (try dsimp only); (try k_lift B'); (try k_fold))
  k_steps
  rename News h₀ L _ _ => N7
  exact h _ _ (by k_asm) (newsSub N7 fun p hp => by simp only [wsNews, List.mem_cons]; exact .inr (.inr (.inr (.inr (.inr (.inr (.inr (.inr hp))))))))
end Mine
end
section
open PySem PySem.W PyProof.Rows PySem.Calls PyProof.Rows.LCg
namespace Mine
theorem le_in {a b c d : Addr × Obj} {l : Fa} {p : Addr × Obj} (h : p ∈ a :: b :: c :: d :: ([] : Fa)) : p ∈ a :: b :: c :: d :: l := by
  k_with_none
  simp only [List.mem_cons, List.not_mem_nil, or_false] at h ⊢; grind
set_option maxRecDepth 100000 in
set_option maxHeartbeats 8000000 in
theorem law_e {w : World} {dp un : Nat} {gd : Option (List Code)} {outer : List Env} {A₀ : Around} {base h₀ : Heap} {L a : Addr} {ccd : Value} {s : Shared} {Q : Flow → Shared → Prop} {E : Value → Shared → Prop} {p : Program} {loose : List Str} {mean : ExcName → Option Value} {mg mb m : Str → Option Value} {R : Fa} {v : Vv} {o1 o2 o3 o4 o5 : Obj} {Ct Dd rw : Addr} {cu dv rv : List Value} {qc qd qr : Nat}
  (B : Below A₀ base outer h₀) (F : Fr h₀ L s.heap m) (X : (hd.heap_1 w.params).In h₀) (T : Top p loose mean mg mb h₀) (N : News h₀ L s.heap (cellsN L o1 o2 o3 o4 o5 R)) (hb : Base w v R) (hlc : Loc v m) (hL : @LT.lt Nat _ 142 L) (hR : ∀ p ∈ R, @LT.lt Nat _ (L + 1 + 1 + 1 + 1 + 1) p.1) (hd : dp + 20 < recursionLimit) (hu : un + 400 < cLine)
  (d2 : o2.data = .cell (some (.ref Ct))) (d3 : o3.data = .cell (some (.ref Dd))) (d4 : o4.data = .cell (some (.ref rw))) (hC : (Ct, W.listOf cu.toArray qc) ∈ R) (hD : (Dd, W.listOf dv.toArray qd) ∈ R) (hr : (rw, W.listOf rv.toArray qr) ∈ R) (iC : IntsAre cu (zs (cntL v.ms))) (iD : IntsAre dv (zs (downL v.ms))) (iR : IntsAre rv (zs (rowL v.ms)))
  (kE : ∀ (R' : Fa) (m' : Str → Option Value) (h' : Heap) (tk' : Nat), (∀ p ∈ R, p ∈ R') → Loc v m' → Fr h₀ L h' m' → News h₀ L h' (cellsN L o1 o2 o3 o4 o5 R') → (∀ p ∈ R', @LT.lt Nat _ (L + 1 + 1 + 1 + 1 + 1) p.1) →
    wpAny (model PySem.Challenge.rw_rs0180_01.row.prog w) (lawTop dp un gd L a ccd outer) (execs (lawB.drop 11) (lawEnv L a ccd)) Q E { s with heap := h', toks := tk' }) :
  wpAny (model PySem.Challenge.rw_rs0180_01.row.prog w) (lawTop dp un gd L a ccd outer) (execs (lawB.drop 10) (lawEnv L a ccd)) Q E s := by
  k_with_none
  k_with "storeName" => (k_here; k_dflt (first | (refine' storeX_L ?F ?N ?_ ?a ?b; (case F => k_asm); (case N => k_asm); (case a => rfl); (case b => rfl); k_whole; intro _ _ _; (try k_sweep)) | (refine stop_ ?_)))
  k_with "execs cons" => ((with_reducible show wpAny _ _ (execs (PySem.Stmt.Assign [PySem.Expr.Name (PySem.Str.ofString "fits") _] _ _ :: _) _) _ _ _); (with_reducible refine stop_ ?_))
  k_with "execs cons Assign cons" => ((with_reducible show wpAny _ _ (execs (PySem.Stmt.Assign [PySem.Expr.Name (PySem.Str.ofString "fits") _] _ _ :: _) _) _ _ _); (with_reducible refine stop_ ?_))
  k_with "mem" => ((repeat (first | with_reducible assumption | refine List.mem_cons_of_mem _ ?_)); done)
  k_with "eval Name" => (k_here; k_dflt (first | (refine' nameX_L ?F ?v ?_ ?a ?b; (case F => k_asm); (case a => rfl); (case b => rfl); (case v => rfl); k_whole) | (refine' nameX_K ?F ?X ?T ?e ?_ ?a ?b; (case F => k_asm); (case X => k_asm); (case T => k_asm); (case a => rfl); (case b => rfl); (case e => k_is); k_whole) | (refine' nameX_B ?F ?X ?T ?e ?v ?n ?_ ?a ?b; (case F => k_asm); (case X => k_asm); (case T => k_asm); (case a => rfl); (case b => rfl); (case e => k_is); (case v => boot_fast); (case n => decide); k_whole)))
  k_with "call ref" => (with_reducible refine stop_ ?_)
  k_with "compareOp Eq ref ref" => (with_reducible refine stop_ ?_)
  k_with "compareOp IsNot" => (with_reducible refine stop_ ?_)
  k_with "compareOp IsNot bool bool" => (with_reducible refine stop_ ?_)
  k_with "call builtin:sorted" => (with_reducible refine stop_ ?_)
  generalize hb0 : lawB.drop 10 = b0
  conv at hb0 => lhs; whnf
  subst hb0
  unfold lawTop lawEnv
  generalize hb0 : lawS = b0
  conv at hb0 => lhs; whnf
  subst hb0
  have F1 := frCongr F (toL_of hlc)
  unfold toL at F1
  clear F
  revert X; k_fill; intro X
  have N0 : News h₀ L s.heap (wsNews w v.x v.d v.nrm v.ct v.cv (wrun (leadPre v.ms)) v.xt v.t v.tb v.tn v.tt v.sb v.k1 v.k2 v.k3 v.k4 v.k5 (cellsN L o1 o2 o3 o4 o5 R)) := by
    intro p hp
    simp only [wsNews, List.mem_cons] at hp
    rcases hp with q | q | q | q | q
    · exact N p (.tail _ (.tail _ (.tail _ (.tail _ (.tail _ (.tail _ (hb.mW p (by rw [q]; exact .head _))))))))
    · exact N p (.tail _ (.tail _ (.tail _ (.tail _ (.tail _ (.tail _ (hb.mW p (by rw [q]; exact .tail _ (.head _)))))))))
    · exact N p (.tail _ (.tail _ (.tail _ (.tail _ (.tail _ (.tail _ (hb.mW p (by rw [q]; exact .tail _ (.tail _ (.head _))))))))))
    · exact N p (.tail _ (.tail _ (.tail _ (.tail _ (.tail _ (.tail _ (hb.mW p (by rw [q]; exact .tail _ (.tail _ (.tail _ (.head _)))))))))))
    · exact N p (by simp only [List.mem_cons]; exact q)
  have mR : ∀ p ∈ R, p ∈ wsNews w v.x v.d v.nrm v.ct v.cv (wrun (leadPre v.ms)) v.xt v.t v.tb v.tn v.tt v.sb v.k1 v.k2 v.k3 v.k4 v.k5 (cellsN L o1 o2 o3 o4 o5 R) := fun p hp => .tail _ (.tail _ (.tail _ (.tail _ (.tail _ (.tail _ (.tail _ (.tail _ (.tail _ (.tail _ hp)))))))))
  have hrl : rv.length = v.ms.length := by rw [iR.length, List.length_map, (rowL_perm _).length_eq]
  have hml := hb.ml
  have hk6 := hb.k6
  have hk1 := hb.k1
  have hrl2 : (rowL v.ms).length = v.ms.length := (rowL_perm _).length_eq
  clear N
  k_steps
  refine unstop ?_
  refine' lead_make (nm := rw) (vs := rv) (n := qr) (ns := rowL v.ms) ?lB ?lF ?lX ?lN ?lT ?lK (mR _ hr) iR (by omega) ?lb ?ld ?lu ?_
  (case lB => k_asm); (case lF => k_asm); (case lX => k_asm); (case lN => k_asm); (case lT => k_asm); (case lK => first | exact rfl | assumption); (case ld => ktr_room); (case lu => ktr_units)
  case lb => exact fun q hq => Nat.le_trans (hb.mb q ((rowL_perm _).mem_iff.mp hq)) (by omega)
  intro x2 d2' nrm2 ct2 cv2 xt2 t2 tb2 tn2 tt2 sb2 k1' k2' k3' k4' k5' h2 tk2 F2 N2 hcv2 l1 l2 l3 l4
  k_steps
  refine unstop ?_
  have mW1 : ∀ p ∈ wsNews w v.x v.d v.nrm v.ct v.cv (wrun (leadPre v.ms)) v.xt v.t v.tb v.tn v.tt v.sb v.k1 v.k2 v.k3 v.k4 v.k5 [], p ∈ wsNews w v.x v.d v.nrm v.ct v.cv (wrun (leadPre v.ms)) v.xt v.t v.tb v.tn v.tt v.sb v.k1 v.k2 v.k3 v.k4 v.k5 (cellsN L o1 o2 o3 o4 o5 R) := fun p hp => mR p (hb.mW p hp)
  refine' ws_equal ?lB ?lF ?lX N2 ?lT ?lK (fun p hp => .tail _ (.tail _ (.tail _ (.tail _ (mW1 p hp))))) (fun p hp => le_in hp) hb.iC hcv2 ?ld ?lu ?_
  case lB => k_asm
  case lF => k_asm
  case lX => k_asm
  case lT => k_asm
  case lK => first | exact rfl | assumption
  case ld => ktr_room
  case lu => ktr_units
  intro h3 tk3 F3 N3
  have hne : v.ms ≠ [] := fun e => by rw [e] at hml; simp at hml; omega
  have hne2 : rowL v.ms ≠ [] := fun e => by rw [e] at hrl2; simp at hrl2; omega
  have hq1 : decide ((wrun (leadPre v.ms)).cs = (wrun (leadPre (rowL v.ms))).cs ∧ ((wrun (leadPre v.ms)).b : Int) = (wrun (leadPre (rowL v.ms))).b) = true := by
    rw [decide_eq_true_eq, lead_cs hne, lead_cs hne2, cntL_perm (rowL_perm v.ms), (run_lead v.ms).2.1, (run_lead (rowL v.ms)).2.1]
    exact ⟨rfl, rfl⟩
  rw [hq1]
  k_steps
  refine unstop ?_
  refine isnot_bool ?_
  simp only [bne_self_eq_false]
  k_steps
  refine unstop ?_
  rename News h₀ L _ _ => N4
  refine' lead_make (nm := v.Dn) (vs := v.yn) (n := v.qN) (ns := v.nz) ?lB ?lF ?lX ?lN ?lT ?lK (.tail _ (.tail _ (.tail _ (.tail _ (mR _ hb.mN))))) hb.iN (by have := hb.nl; omega) ?lb ?ld ?lu ?_
  (case lB => k_asm); (case lF => k_asm); (case lX => k_asm); (case lN => k_asm); (case lT => k_asm); (case lK => first | exact rfl | assumption); (case ld => ktr_room); (case lu => ktr_units)
  case lb => exact fun q hq => Nat.le_trans (hb.nb q hq) (by omega)
  intro x3 d3' nrm3 ct3 cv3 xt3 t3 tb3 tn3 tt3 sb3 g1 g2 g3 g4 g5 h4 tk4 F4 N5 hcv3 l5 l6 l7 l8
  k_steps
  refine unstop ?_
  refine' ws_equal ?lB ?lF ?lX N5 ?lT ?lK (fun p hp => .tail _ (.tail _ (.tail _ (.tail _ (.tail _ (.tail _ (.tail _ (.tail _ (mW1 p hp))))))))) (fun p hp => le_in hp) hb.iC hcv3 ?ld ?lu ?_
  case lB => k_asm
  case lF => k_asm
  case lX => k_asm
  case lT => k_asm
  case lK => first | exact rfl | assumption
  case ld => ktr_room
  case lu => ktr_units
  intro h5 tk5 F5 N6
  k_steps
  refine unstop ?_
  rename News h₀ L _ _ => N7
  refine kso_sorted (by k_asm) N7 (News.isList N7 (.tail _ (.tail _ (.tail _ (.tail _ (.tail _ (.tail _ (.tail _ (.tail _ (mR _ hb.mN)))))))))) hb.iN (by rw [List.length_map]; have := hb.nl; omega) ?_
  intro Ds vs' ns' cs' h6 F6 N8 l9 iS e1 e2 e3 _
  k_steps
  refine unstop ?_
  rename News h₀ L _ _ => N9
  refine ke_eq_ints (News.isList N9 (.head _)) (News.isList N9 (.tail _ (.tail _ (.tail _ (.tail _ (.tail _ (.tail _ (.tail _ (.tail _ (.tail _ (mR _ hr))))))))))) iS iR (by ke_room) ?_
  have hne3 : v.nz ≠ [] := fun e => by have e4 := hb.nl; rw [e] at e4; simp at e4; omega
  rw [net_same hne hne3 e2 e3]
  k_steps
  refine unstop ?_
  refine isnot_bool ?_
  simp only [bne_self_eq_false]
  k_steps
  refine unstop ?_
  rename News h₀ L _ _ => N10
  exact kE R _ _ _ (fun p hp => hp) ⟨rfl, rfl, rfl, rfl, rfl⟩ (by k_asm) (newsSub N10 fun p hp => .tail _ (.tail _ (.tail _ (.tail _ (.tail _ (.tail _ (.tail _ (.tail _ (.tail _ (.tail _ (.tail _ (.tail _ (.tail _ hp))))))))))))) hR
end Mine
end
section
open PySem PySem.W PyProof.Rows
namespace Mine
abbrev keyP (p : Nat × Nat) : Int := p.1
/-- one point's given are tied one by one: given, row, ties -/
def innerT (nm : Nat) : List (Nat × Nat) → List (Nat × Nat) → List (Nat × Nat) → Option (List (Nat × Nat) × List (Nat × Nat))
  | [], row, ties => some (row, ties)
  | (j, d) :: g, row, ties => if j = 0 then none else innerT nm g (insL keyP row (j - 1, d)) (ties ++ [(nm, d)])
/-- a turn: the i-th of the row is taken out -/
def turnT (i : Nat) (row ties : List (Nat × Nat)) : Option (List (Nat × Nat) × List (Nat × Nat)) :=
  match row[i]? with
  | none => none
  | some (k, c) => if (row.eraseIdx i).length < k then none else innerT c ((row.eraseIdx i).drop ((row.eraseIdx i).length - k)) ((row.eraseIdx i).take ((row.eraseIdx i).length - k)) ties
/-- t turns, the places picked by pk -/
def runT (pk : Nat) (row : List (Nat × Nat)) : Nat → Option (List (Nat × Nat) × List (Nat × Nat))
  | 0 => some (row, [])
  | t + 1 => (runT pk row t).bind fun x => turnT (pk / 7 ^ t % x.1.length) x.1 x.2
end Mine
end
section
open PySem PySem.W PyProof.Rows
namespace Mine
/-- insert ahead of those that are not less -/
def insN (x : Nat) : List Nat → List Nat
  | [] => [x]
  | y :: r => if y < x then y :: insN x r else x :: y :: r
def innN : List Nat → List Nat → Option (List Nat)
  | [], row => some row
  | j :: g, row => match j with
    | 0 => none
    | j + 1 => innN g (insN j row)
def turnN (i : Nat) (row : List Nat) : Option (List Nat) :=
  match row[i]? with
  | none => none
  | some k => if (row.eraseIdx i).length < k then none else innN ((row.eraseIdx i).drop ((row.eraseIdx i).length - k)) ((row.eraseIdx i).take ((row.eraseIdx i).length - k))
/-- Erdoes and Gallai, of a descending list -/
def fitB (d : List Nat) (f : Nat) : Bool := decide ((d.take f).sum ≤ f * (f - 1) + ((d.drop f).map fun x => min f x).sum)
def okB (d : List Nat) : Bool := decide (d.sum % 2 = 0) && (List.range d.length).all fun f => fitB d (f + 1)
def stepB (d : List Nat) (i : Nat) : Bool := match turnN i d.reverse with
  | none => !okB d
  | some r => okB r.reverse == okB d
def dsc : Nat → Nat → List (List Nat)
  | 0, _ => [[]]
  | m + 1, hi => (List.range (hi + 1)).flatMap fun x => (dsc m x).map fun l => x :: l
def goodD (m : Nat) (d : List Nat) : Bool := (List.range m).all fun i => stepB d i
def allB (m : Nat) : Bool := (dsc m 6).all (goodD m)
def allP (m x : Nat) : Bool := ((dsc m x).map fun l => x :: l).all (goodD (m + 1))
theorem all1 : allB 1 = true := by decide +kernel
theorem all2 : allB 2 = true := by decide +kernel
theorem all3 : allB 3 = true := by decide +kernel
theorem all4 : allB 4 = true := by decide +kernel
theorem allP50 : allP 4 0 = true := by decide +kernel
theorem allP51 : allP 4 1 = true := by decide +kernel
theorem allP52 : allP 4 2 = true := by decide +kernel
theorem allP53 : allP 4 3 = true := by decide +kernel
theorem allP54 : allP 4 4 = true := by decide +kernel
theorem allP55 : allP 4 5 = true := by decide +kernel
theorem allP56 : allP 4 6 = true := by decide +kernel
theorem allP60 : allP 5 0 = true := by decide +kernel
theorem allP61 : allP 5 1 = true := by decide +kernel
theorem allP62 : allP 5 2 = true := by decide +kernel
theorem allP63 : allP 5 3 = true := by decide +kernel
theorem allP64 : allP 5 4 = true := by decide +kernel
theorem allP65 : allP 5 5 = true := by decide +kernel
theorem allP66 : allP 5 6 = true := by decide +kernel
theorem allB_of {m : Nat} (h : ∀ x, x < 7 → allP m x = true) : allB (m + 1) = true := by
  k_with_none
  unfold allB dsc
  rw [List.all_flatMap]
  exact List.all_eq_true.mpr fun x hx => h x (List.mem_range.mp hx)
theorem all5 : allB 5 = true := allB_of fun x hx => match x, hx with
  | 0, _ => allP50 | 1, _ => allP51 | 2, _ => allP52 | 3, _ => allP53 | 4, _ => allP54 | 5, _ => allP55 | 6, _ => allP56
  | n + 7, h => absurd h (by omega)
theorem all6 : allB 6 = true := allB_of fun x hx => match x, hx with
  | 0, _ => allP60 | 1, _ => allP61 | 2, _ => allP62 | 3, _ => allP63 | 4, _ => allP64 | 5, _ => allP65 | 6, _ => allP66
  | n + 7, h => absurd h (by omega)
theorem dsc_mem : ∀ {d : List Nat} {hi : Nat}, d.Pairwise (fun a b => b ≤ a) → (∀ x ∈ d, x ≤ hi) → d ∈ dsc d.length hi
  | [], _, _, _ => .head _
  | x :: l, hi, hp, hb => by
    rw [List.pairwise_cons] at hp
    rw [List.length_cons, dsc]
    exact List.mem_flatMap.mpr ⟨x, List.mem_range.mpr (by have := hb x (.head _); omega), List.mem_map.mpr ⟨l, dsc_mem hp.2 hp.1, rfl⟩⟩
theorem step_ok {r : List Nat} (hs : r.Pairwise (fun a b => a ≤ b)) (hb : ∀ x ∈ r, x ≤ 6) (hl : r.length ≤ 6) {i : Nat} (hi : i < r.length) :
    match turnN i r with
    | none => okB r.reverse = false
    | some r' => okB r'.reverse = okB r.reverse := by
  have hm : r.reverse ∈ dsc r.length 6 := by
    have := dsc_mem (d := r.reverse) (hi := 6) (List.pairwise_reverse.mpr hs) (fun x hx => hb x (List.mem_reverse.mp hx))
    rwa [List.length_reverse] at this
  have ha : allB r.length = true := by
    have h0 : 0 < r.length := by omega
    generalize r.length = n at hl h0
    match n, hl, h0 with
    | 1, _, _ => exact all1
    | 2, _, _ => exact all2
    | 3, _, _ => exact all3
    | 4, _, _ => exact all4
    | 5, _, _ => exact all5
    | 6, _, _ => exact all6
    | n + 7, h, _ => omega
  have h1 := List.all_eq_true.mp (List.all_eq_true.mp ha _ hm) i (List.mem_range.mpr hi)
  unfold stepB at h1
  rw [List.reverse_reverse] at h1
  cases e : turnN i r with
  | none => rw [e] at h1; simpa using h1
  | some r' => rw [e] at h1; simpa using h1
theorem insN_eq (x : Nat) : ∀ {r : List Nat}, r.Pairwise (fun a b => a ≤ b) → insN x r = insAt r (r.countP fun y => decide (y < x)) x
  | [], _ => rfl
  | y :: r, h => by
    rw [List.pairwise_cons] at h
    rw [insN]
    by_cases q : y < x
    · rw [if_pos q, insN_eq x h.2, List.countP_cons_of_pos (by simpa using q)]; rfl
    · rw [if_neg q]
      have : (y :: r).countP (fun y => decide (y < x)) = 0 := List.countP_eq_zero.mpr fun z hz => by
        rcases List.mem_cons.mp hz with e | e
        · rw [e]; simpa using q
        · have := h.1 z e; simp; omega
      rw [this]; rfl
abbrev fsts (r : List (Nat × Nat)) : List Nat := r.map fun p => p.1
theorem srt_fst {r : List (Nat × Nat)} (h : r.Pairwise fun a b => keyP a ≤ keyP b) : (fsts r).Pairwise (fun a b => a ≤ b) := by
  rw [fsts, List.pairwise_map]
  exact h.imp fun h => by simp only [keyP] at h; omega
theorem insL_fst {r : List (Nat × Nat)} (j d : Nat) (h : r.Pairwise fun a b => keyP a ≤ keyP b) : fsts (insL keyP r (j, d)) = insN j (fsts r) := by
  rw [insN_eq j (srt_fst h)]
  unfold insL insAt fsts
  rw [List.map_append, List.map_cons, List.map_take, List.map_drop, List.countP_map]
  have : (r.countP fun y => decide (keyP y < keyP (j, d))) = r.countP ((fun y => decide (y < j)) ∘ fun p => p.1) := List.countP_congr fun p _ => by simp [keyP]
  rw [this]
theorem inn_fst (nm : Nat) : ∀ (g row ties : List (Nat × Nat)), (row.Pairwise fun a b => keyP a ≤ keyP b) → (innerT nm g row ties).map (fun x => fsts x.1) = innN (fsts g) (fsts row)
  | [], _, _, _ => rfl
  | (0, d) :: g, row, ties, _ => rfl
  | (j + 1, d) :: g, row, ties, h => by
    rw [innerT, if_neg (by omega)]
    show _ = innN (fsts g) (insN j (fsts row))
    rw [← insL_fst j d h]
    exact inn_fst nm g _ _ (insL_sorted _ h)
theorem turn_fst {i : Nat} {row ties : List (Nat × Nat)} (h : row.Pairwise fun a b => keyP a ≤ keyP b) : (turnT i row ties).map (fun x => fsts x.1) = turnN i (fsts row) := by
  have he : (fsts row).eraseIdx i = fsts (row.eraseIdx i) := by
    have gen : ∀ (l : List (Nat × Nat)) (k : Nat), (fsts l).eraseIdx k = fsts (l.eraseIdx k) := by
      intro l
      induction l with
      | nil => intro k; rfl
      | cons x l ih => intro k; cases k with
        | zero => rfl
        | succ k => simp [fsts] at ih ⊢; exact ih k
    exact gen row i
  unfold turnT turnN
  rw [he, fsts, List.getElem?_map]
  cases hr : row[i]? with
  | none => rfl
  | some p =>
    obtain ⟨k, c⟩ := p
    simp only [Option.map_some]
    rw [show (fsts (row.eraseIdx i)).length = (row.eraseIdx i).length from List.length_map _]
    by_cases q : (row.eraseIdx i).length < k
    · rw [if_pos q, if_pos q]; rfl
    · rw [if_neg q, if_neg q]
      have := inn_fst c ((row.eraseIdx i).drop ((row.eraseIdx i).length - k)) ((row.eraseIdx i).take ((row.eraseIdx i).length - k)) ties ((h.sublist (List.eraseIdx_sublist row i)).sublist (List.take_sublist _ _))
      rw [this, fsts, fsts, List.map_drop, List.map_take]
theorem inn_inv (nm : Nat) {b : Nat} : ∀ {g row ties r' ts' : List (Nat × Nat)}, innerT nm g row ties = some (r', ts') → (row.Pairwise fun a b => keyP a ≤ keyP b) → (∀ p ∈ row, p.1 ≤ b) → (∀ p ∈ g, p.1 ≤ b) → (r'.Pairwise fun a b => keyP a ≤ keyP b) ∧ (∀ p ∈ r', p.1 ≤ b) ∧ r'.length = row.length + g.length
  | [], row, ties, r', ts', h, hs, hb, _ => by
    rw [innerT] at h
    obtain ⟨rfl, rfl⟩ := Prod.mk.inj (Option.some.inj h)
    exact ⟨hs, hb, rfl⟩
  | (j, d) :: g, row, ties, r', ts', h, hs, hb, hg => by
    rw [innerT] at h
    by_cases q : j = 0
    · rw [if_pos q] at h; exact nomatch h
    · rw [if_neg q] at h
      have hp := insAt_perm row (row.countP fun y => decide (keyP y < keyP (j - 1, d))) (j - 1, d)
      obtain ⟨h1, h2, h3⟩ := inn_inv nm (b := b) h (insL_sorted _ hs) (fun p hp' => by
        rcases List.mem_cons.mp (hp.mem_iff.mp hp') with e | e
        · rw [e]; have := hg _ (.head _); simp only at this ⊢; omega
        · exact hb p e) (fun p hp => hg p (.tail _ hp))
      refine ⟨h1, h2, ?_⟩
      have h4 : (insL keyP row (j - 1, d)).length = row.length + 1 := hp.length_eq
      rw [h3, h4, List.length_cons]; omega
theorem run_ok {pk : Nat} {row0 : List (Nat × Nat)} (hs : row0.Pairwise fun a b => keyP a ≤ keyP b) (hb : ∀ p ∈ row0, p.1 ≤ 6) (hl : row0.length ≤ 6) : ∀ t, t ≤ row0.length →
    match runT pk row0 t with
    | none => okB (fsts row0).reverse = false
    | some (r, _) => (r.Pairwise fun a b => keyP a ≤ keyP b) ∧ (∀ p ∈ r, p.1 ≤ 6) ∧ r.length + t = row0.length ∧ okB (fsts r).reverse = okB (fsts row0).reverse := by
  intro t
  induction t with
  | zero => intro _; exact ⟨hs, hb, rfl, rfl⟩
  | succ t ih =>
    intro ht
    have ih := ih (by omega)
    rw [runT]
    cases e : runT pk row0 t with
    | none => rw [e] at ih; exact ih
    | some x =>
      obtain ⟨r, ts⟩ := x
      rw [e] at ih
      obtain ⟨h1, h2, h3, h4⟩ := ih
      rw [Option.bind_some]
      have hi : pk / 7 ^ t % r.length < r.length := Nat.mod_lt _ (by omega)
      simp only
      generalize pk / 7 ^ t % r.length = i at hi
      have hst := step_ok (srt_fst h1) (fun x hx => by obtain ⟨p, hp, rfl⟩ := List.mem_map.mp hx; exact h2 p hp) (by rw [List.length_map]; omega) (i := i) (by rw [List.length_map]; exact hi)
      rw [← turn_fst (ties := ts) h1] at hst
      cases e2 : turnT i r ts with
      | none => rw [e2] at hst; rw [← h4]; exact hst
      | some y =>
        obtain ⟨r', ts'⟩ := y
        rw [e2] at hst
        have hst : okB (fsts r').reverse = okB (fsts r).reverse := hst
        unfold turnT at e2
        obtain ⟨⟨k, c⟩, hr⟩ : ∃ p, r[i]? = some p := ⟨_, List.getElem?_eq_getElem hi⟩
        rw [hr] at e2
        simp only at e2
        by_cases q : (r.eraseIdx i).length < k
        · rw [if_pos q] at e2; exact nomatch e2
        · rw [if_neg q] at e2
          have hel : (r.eraseIdx i).length = r.length - 1 := List.length_eraseIdx_of_lt hi
          obtain ⟨g1, g2, g3⟩ := inn_inv c (b := 6) e2 ((h1.sublist (List.eraseIdx_sublist r i)).sublist (List.take_sublist _ _)) (fun p hp => h2 p ((List.eraseIdx_sublist r i).subset (List.mem_of_mem_take hp))) (fun p hp => h2 p ((List.eraseIdx_sublist r i).subset (List.mem_of_mem_drop hp)))
          refine ⟨g1, g2, ?_, hst.trans h4⟩
          rw [List.length_take, List.length_drop] at g3
          omega
theorem run_end {pk : Nat} {row0 : List (Nat × Nat)} (hs : row0.Pairwise fun a b => keyP a ≤ keyP b) (hb : ∀ p ∈ row0, p.1 ≤ 6) (hl : row0.length ≤ 6) :
    (runT pk row0 row0.length = none → okB (fsts row0).reverse = false) ∧ ∀ r ts, runT pk row0 row0.length = some (r, ts) → r = [] ∧ okB (fsts row0).reverse = true := by
  have h := run_ok (pk := pk) hs hb hl row0.length (Nat.le_refl _)
  constructor
  · intro e; rw [e] at h; exact h
  · intro r ts e
    rw [e] at h
    obtain ⟨_, _, h3, h4⟩ := h
    have : r = [] := List.eq_nil_of_length_eq_zero (by omega)
    subst this
    exact ⟨rfl, h4.symm⟩
abbrev cnt (c : Nat) (ts : List (Nat × Nat)) : Nat := (ts.flatMap fun q => [q.1, q.2]).count c
abbrev sumC (c : Nat) (r : List (Nat × Nat)) : Nat := ((r.filter fun p => p.2 == c).map fun p => p.1).sum
theorem sumC_cons (c j d : Nat) (r : List (Nat × Nat)) : sumC c ((j, d) :: r) = (if d = c then j else 0) + sumC c r := by
  unfold sumC
  by_cases h : d = c
  · rw [List.filter_cons_of_pos (by simpa using h), if_pos h]; rfl
  · rw [List.filter_cons_of_neg (by simpa using h), if_neg h]; simp
theorem sumC_perm {c : Nat} {r r' : List (Nat × Nat)} (h : r.Perm r') : sumC c r = sumC c r' := ((h.filter _).map _).sum_nat
theorem sumC_app (c : Nat) (r r' : List (Nat × Nat)) : sumC c (r ++ r') = sumC c r + sumC c r' := by
  unfold sumC; rw [List.filter_append, List.map_append, List.sum_append_nat]
theorem cnt_snoc (c nm d : Nat) (ts : List (Nat × Nat)) : cnt c (ts ++ [(nm, d)]) = cnt c ts + (if nm = c then 1 else 0) + (if d = c then 1 else 0) := by
  unfold cnt
  rw [List.flatMap_append, List.count_append]
  simp only [List.flatMap_cons, List.flatMap_nil, List.append_nil, List.count_cons, List.count_nil, beq_iff_eq]
  omega
theorem inn_cnt (nm c : Nat) : ∀ {g row ties r' ts' : List (Nat × Nat)}, innerT nm g row ties = some (r', ts') → cnt c ts' + sumC c r' = cnt c ties + sumC c row + sumC c g + (if nm = c then g.length else 0)
  | [], row, ties, r', ts', h => by
    rw [innerT] at h
    obtain ⟨rfl, rfl⟩ := Prod.mk.inj (Option.some.inj h)
    simp [sumC]
  | (j, d) :: g, row, ties, r', ts', h => by
    rw [innerT] at h
    by_cases q : j = 0
    · rw [if_pos q] at h; exact nomatch h
    · rw [if_neg q] at h
      have := inn_cnt nm c h
      have hp := sumC_perm (c := c) (insAt_perm row (row.countP fun y => decide (keyP y < keyP (j - 1, d))) (j - 1, d))
      have hp : sumC c (insL keyP row (j - 1, d)) = sumC c ((j - 1, d) :: row) := hp
      rw [this, cnt_snoc, hp, sumC_cons, sumC_cons, List.length_cons]
      by_cases e1 : nm = c <;> by_cases e2 : d = c <;> simp only [e1, e2, if_true, if_false] <;> omega
theorem erase_perm {α : Type} : ∀ {l : List α} {i : Nat} {x : α}, l[i]? = some x → l.Perm (x :: l.eraseIdx i)
  | [], _, _, h => by simp at h
  | y :: l, 0, x, h => by
    have : y = x := by simpa using h
    subst this; exact List.Perm.refl _
  | y :: l, i + 1, x, h => by
    have := erase_perm (l := l) (i := i) (x := x) (by simpa using h)
    exact ((this.cons y).trans (List.Perm.swap _ _ _))
theorem turn_cnt {i c : Nat} {r ts r' ts' : List (Nat × Nat)} (h : turnT i r ts = some (r', ts')) : cnt c ts' + sumC c r' = cnt c ts + sumC c r := by
  unfold turnT at h
  cases hr : r[i]? with
  | none => rw [hr] at h; exact nomatch h
  | some p =>
    obtain ⟨k, d⟩ := p
    rw [hr] at h
    simp only at h
    by_cases q : (r.eraseIdx i).length < k
    · rw [if_pos q] at h; exact nomatch h
    · rw [if_neg q] at h
      have e1 := inn_cnt d c h
      have e2 := sumC_perm (c := c) (erase_perm hr)
      rw [sumC_cons] at e2
      have e3 : sumC c ((r.eraseIdx i).take ((r.eraseIdx i).length - k)) + sumC c ((r.eraseIdx i).drop ((r.eraseIdx i).length - k)) = sumC c (r.eraseIdx i) := by
        rw [← sumC_app, List.take_append_drop]
      rw [List.length_drop] at e1
      rw [e1, e2]
      by_cases e : d = c <;> simp only [e, if_true, if_false] <;> omega
theorem run_cnt {pk c : Nat} {r0 : List (Nat × Nat)} : ∀ {t : Nat} {r ts : List (Nat × Nat)}, runT pk r0 t = some (r, ts) → cnt c ts + sumC c r = sumC c r0
  | 0, r, ts, h => by
    rw [runT] at h
    obtain ⟨rfl, rfl⟩ := Prod.mk.inj (Option.some.inj h)
    simp [cnt]
  | t + 1, r, ts, h => by
    rw [runT] at h
    cases e : runT pk r0 t with
    | none => rw [e] at h; exact nomatch h
    | some x =>
      obtain ⟨r1, ts1⟩ := x
      rw [e, Option.bind_some] at h
      rw [turn_cnt h, run_cnt e]
end Mine
end
section
open PySem PySem.W PyProof.Rows PySem.Calls
namespace Mine
theorem innerT_app (nm : Nat) (g' : List (Nat × Nat)) : ∀ (g row ties : List (Nat × Nat)), innerT nm (g ++ g') row ties = (innerT nm g row ties).bind fun x => innerT nm g' x.1 x.2
  | [], row, ties => rfl
  | (j, d) :: g, row, ties => by
    rw [List.cons_append, innerT, innerT]
    by_cases h : j = 0
    · rw [if_pos h, if_pos h]; rfl
    · rw [if_neg h, if_neg h]; exact innerT_app nm g' g _ _
theorem innerT_step {nm j d i : Nat} {g row ties r ts : List (Nat × Nat)} (e : innerT nm (g.take i) row ties = some (r, ts)) (h : g[i]? = some (j, d)) (hj : j ≠ 0) : innerT nm (g.take (i + 1)) row ties = some (insL keyP r (j - 1, d), ts ++ [(nm, d)]) := by
  k_with_none
  rw [List.take_add_one, h, Option.toList_some, innerT_app, e]
  show innerT nm [(j, d)] r ts = _
  rw [innerT, if_neg hj, innerT]
theorem innerT_stuck {nm d i : Nat} {g row ties r ts : List (Nat × Nat)} (e : innerT nm (g.take i) row ties = some (r, ts)) (h : g[i]? = some (0, d)) : innerT nm g row ties = none := by
  have hi : i < g.length := (List.getElem?_eq_some_iff.mp h).1
  have e1 : g = g.take i ++ (0, d) :: g.drop (i + 1) := by
    rw [(List.getElem?_eq_some_iff.mp h).2.symm, ← List.drop_eq_getElem_cons hi, List.take_append_drop]
  rw [e1, innerT_app, e]
  show innerT nm ((0, d) :: _) r ts = _
  rw [innerT, if_pos rfl]
theorem runT_step {pk i : Nat} {row r ts : List (Nat × Nat)} (e : runT pk row i = some (r, ts)) : runT pk row (i + 1) = turnT (pk / 7 ^ i % r.length) r ts := by
  rw [runT, e]; rfl
theorem runT_none {pk : Nat} {row : List (Nat × Nat)} : ∀ {i n : Nat}, runT pk row i = none → i ≤ n → runT pk row n = none := by
  intro i n h hl
  induction n with
  | zero => obtain rfl : i = 0 := by omega
            exact h
  | succ n ih =>
    by_cases q : i = n + 1
    · rw [← q]; exact h
    · rw [runT, ih (by omega)]; rfl
theorem turn_short {ip kk cc : Nat} {r ts : List (Nat × Nat)} (h : r[ip]? = some (kk, cc)) (hl : (r.eraseIdx ip).length < kk) : turnT ip r ts = none := by
  unfold turnT; rw [h]; simp only; rw [if_pos hl]
theorem turn_go {ip kk cc : Nat} {r ts : List (Nat × Nat)} (h : r[ip]? = some (kk, cc)) (hl : ¬ (r.eraseIdx ip).length < kk) : turnT ip r ts = innerT cc ((r.eraseIdx ip).drop ((r.eraseIdx ip).length - kk)) ((r.eraseIdx ip).take ((r.eraseIdx ip).length - kk)) ts := by
  unfold turnT; rw [h]; simp only; rw [if_neg hl]
theorem strs_erase : ∀ {vs : List Value} {ss : List Str}, StrsAre vs ss → ∀ k : Nat, StrsAre (vs.eraseIdx k) (ss.eraseIdx k)
  | _, _, .nil, _ => .nil
  | _, _, .cons _ _ h, 0 => h
  | _, _, .cons x t h, k + 1 => .cons x t (strs_erase h k)
theorem map_erase {α β : Type} (f : α → β) : ∀ (l : List α) (k : Nat), (l.map f).eraseIdx k = (l.eraseIdx k).map f
  | [], _ => rfl
  | _ :: _, 0 => rfl
  | x :: l, k + 1 => by simp [map_erase f l k]
section
variable {prog : Program} {w : World} {A : Around} {E : Value → Shared → Prop} {s : Shared} {h₀ : Heap} {L l : Addr} {m : Str → Option Value} {news : List (Addr × Obj)} {value slice : PySem.Expr} {vs : List Value} {nn : Nat} {Q : Value → Shared → Prop}
theorem slice_from {k : Nat} {x : Int} {u : Tok} (F : Fr h₀ L s.heap m) (N : News h₀ L s.heap news) (hl : (l, W.listOf vs.toArray nn) ∈ news) (hx : x = k) (hk : k ≤ vs.length) (hz : vs.length ≤ 1000)
    (h : ∀ D h', Fr h₀ L h' m → News h₀ L h' ((D, W.listOf (vs.drop k).toArray 0) :: news) → (∀ p ∈ news, p.1 < D) → Q (.ref D) { s with heap := h' })
    (hs : subscripted slice false (.ref l) (.ref s.heap.objs.size) = operate [.ref s.heap.objs.size, .ref l] (getItem (.ref l) (.ref s.heap.objs.size)) := by with_unfolding_all rfl) (ht : ∀ r, letTemporaryGo value (.ref l) r = pure () := by intro _; with_unfolding_all rfl) :
    wpAny (model prog w) A (subscriptTail value slice (.ref l) (.ref s.heap.objs.size)) Q E { s with heap := s.heap.push { cls := .type "slice", data := .fields #[.int x u, .none, .none] } } := by
  refine kms_slice_lit (zs := vs.drop k) F N (News.isList N hl) (IsPart.int _ _) IsPart.none ?_ h hs ht ?_
  · subst hx
    unfold kms_pick kms_lo kms_hi
    simp only [show ¬ ((k : Int) < 0) by omega, if_false, Int.toNat_natCast]
    rw [Nat.min_eq_left (by simpa using hk), List.take_of_length_le (by simp)]
  · rw [List.size_toArray, sizeLine_eq]; omega
theorem slice_upto {k : Nat} {x : Int} {u : Tok} (F : Fr h₀ L s.heap m) (N : News h₀ L s.heap news) (hl : (l, W.listOf vs.toArray nn) ∈ news) (hx : x = k) (hk : k ≤ vs.length) (hz : vs.length ≤ 1000)
    (h : ∀ D h', Fr h₀ L h' m → News h₀ L h' ((D, W.listOf (vs.take k).toArray 0) :: news) → (∀ p ∈ news, p.1 < D) → Q (.ref D) { s with heap := h' })
    (hs : subscripted slice false (.ref l) (.ref s.heap.objs.size) = operate [.ref s.heap.objs.size, .ref l] (getItem (.ref l) (.ref s.heap.objs.size)) := by with_unfolding_all rfl) (ht : ∀ r, letTemporaryGo value (.ref l) r = pure () := by intro _; with_unfolding_all rfl) :
    wpAny (model prog w) A (subscriptTail value slice (.ref l) (.ref s.heap.objs.size)) Q E { s with heap := s.heap.push { cls := .type "slice", data := .fields #[.none, .int x u, .none] } } := by
  refine kms_slice_lit (zs := vs.take k) F N (News.isList N hl) IsPart.none (IsPart.int _ _) ?_ h hs ht ?_
  · subst hx
    unfold kms_pick kms_lo kms_hi
    simp only [show ¬ ((k : Int) < 0) by omega, if_false, Int.toNat_natCast, List.drop_zero, Nat.sub_zero]
    rw [Nat.min_eq_left (by simpa using hk)]
  · rw [List.size_toArray, sizeLine_eq]; omega
theorem app_mem {n : Nat} {D : Addr} {x : Value} {news' : List (Addr × Obj)} (F : Fr h₀ L s.heap m) (N : News h₀ L s.heap news) (U : Upd D (W.listOf vs.toArray n) (W.listOf (vs ++ [x]).toArray (n + 1)) news news') (hz : vs.length ≤ 10000)
    (h : ∀ h', Fr h₀ L h' m → News h₀ L h' news' → Q .none { s with heap := h' }) : wpAny (model prog w) A (call (.builtin "list.append") [.ref D, x]) Q E s :=
  append_K F N (by rw [List.push_toArray]; exact U) h (by rw [List.size_toArray, sizeLine_eq]; omega)
theorem add_mem {a b : Addr} {ws : List Value} {n k : Nat} (F : Fr h₀ L s.heap m) (N : News h₀ L s.heap news) (ha : (a, W.listOf vs.toArray n) ∈ news) (hb : (b, W.listOf ws.toArray k) ∈ news) (hz : vs.length + ws.length ≤ 10000)
    (h : ∀ D h', Fr h₀ L h' m → News h₀ L h' ((D, W.listOf (vs ++ ws).toArray 0) :: news) → (∀ p ∈ news, p.1 < D) → Q (.ref D) { s with heap := h' }) : wpAny (model prog w) A (binaryOp .Add (.ref a) (.ref b)) Q E s :=
  kmk_add_lit F N (News.isList N ha) (News.isList N hb) rfl h (by simp [sizeLine_eq]; omega)
theorem add_pts {c d : Nat} {t u : Tok} (h : ∀ t' tk, Q (.str ⟨#[c, d]⟩ t') { s with toks := tk }) : wpAny (model prog w) A (binaryOp .Add (.str (pt 0 c) t) (.str ⟨#[d]⟩ u)) Q E s :=
  PyProof.Rows.add_str (fun t' tk => h t' tk) (by rw [pt_length, sizeLine_eq]; show 0 + 1 + 1 ≤ _; omega)
end
end Mine
end
section
open PySem PySem.W PyProof.Rows PySem.Calls PyProof.Rows.LCg
namespace Mine
theorem min_val {i x : Nat} {t u : Tok} : ∃ tm, (if (x : Int) < 1 + (i : Int) then Value.int (x : Int) u else Value.int (1 + (i : Int)) t) = Value.int ((min (i + 1) x : Nat) : Int) tm := by
  k_with_none
  by_cases h : (x : Int) < 1 + (i : Int)
  · exact ⟨u, by rw [if_pos h, Nat.min_eq_right (by omega)]⟩
  · exact ⟨t, by rw [if_neg h, Nat.min_eq_left (by omega)]; congr 1; omega⟩
theorem lf_in {D L : Addr} {y o1 o2 o3 o4 o5 : Obj} {R : Fa} {p : Addr × Obj} (h : p ∈ cellsN L o1 o2 o3 o4 o5 ((D, y) :: R)) : p ∈ (D, y) :: cellsN L o1 o2 o3 o4 o5 R := by
  simp only [List.mem_cons] at h ⊢; grind
theorem min_map (d : List Nat) (f : Nat) : (List.range' 0 (d.length - f)).map (fun j => ((min f (d.getD (f + j) 0) : Nat) : Int)) = zs ((d.drop f).map fun x => min f x) := by
  refine List.ext_getElem (by simp) fun j h1 h2 => ?_
  have h3 : f + j < d.length := by simp at h1; omega
  simp [List.getElem_range', List.getD_eq_getElem?_getD, List.getElem?_eq_getElem h3]
theorem zs_sum (l : List Nat) : (zs l).sum = ((l.sum : Nat) : Int) := by
  induction l with
  | nil => rfl
  | cons x l ih => rw [zs, List.map_cons, List.sum_cons, List.sum_cons, Int.natCast_add]; exact congrArg _ ih
theorem fit_val (d : List Nat) (i : Nat) : Value.bool (decide (((zs d).take (i + 1)).sum ≤ (1 + (i : Int)) * (1 + (i : Int) - 1) + (zs ((d.drop (i + 1)).map fun x => min (i + 1) x)).sum)) = Value.bool (fitB d (i + 1)) := by
  unfold fitB
  have e1 : (zs d).take (i + 1) = zs (d.take (i + 1)) := List.map_take.symm
  have e2 : (1 + (i : Int)) * (1 + (i : Int) - 1) = (((i + 1) * (i + 1 - 1) : Nat) : Int) := by
    rw [Nat.add_sub_cancel, Int.natCast_mul]
    rw [show (1 + (i : Int) - 1) = (i : Int) by omega, show (1 + (i : Int)) = ((i + 1 : Nat) : Int) by omega]
  rw [e1, zs_sum, zs_sum, e2]
  congr 1
  exact decide_eq_decide.mpr (by omega)
set_option maxRecDepth 100000 in
set_option maxHeartbeats 8000000 in
theorem law_f {w : World} {dp un : Nat} {gd : Option (List Code)} {outer : List Env} {A₀ : Around} {base h₀ : Heap} {L a : Addr} {ccd : Value} {s : Shared} {Q : Flow → Shared → Prop} {E : Value → Shared → Prop} {p : Program} {loose : List Str} {mean : ExcName → Option Value} {mg mb m : Str → Option Value} {R : Fa} {v : Vv} {o1 o2 o3 o4 o5 : Obj} {Ct Dd rw : Addr} {cu dv rv : List Value} {qc qd qr : Nat}
  (B : Below A₀ base outer h₀) (F : Fr h₀ L s.heap m) (X : (hd.heap_1 w.params).In h₀) (T : Top p loose mean mg mb h₀) (N : News h₀ L s.heap (cellsN L o1 o2 o3 o4 o5 R)) (hb : Base w v R) (hlc : Loc v m) (hL : @LT.lt Nat _ 142 L) (hR : ∀ p ∈ R, @LT.lt Nat _ (L + 1 + 1 + 1 + 1 + 1) p.1) (hd : dp + 20 < recursionLimit) (hu : un + 400 < cLine)
  (d2 : o2.data = .cell (some (.ref Ct))) (d3 : o3.data = .cell (some (.ref Dd))) (d4 : o4.data = .cell (some (.ref rw))) (hC : (Ct, W.listOf cu.toArray qc) ∈ R) (hD : (Dd, W.listOf dv.toArray qd) ∈ R) (hr : (rw, W.listOf rv.toArray qr) ∈ R) (iC : IntsAre cu (zs (cntL v.ms))) (iD : IntsAre dv (zs (downL v.ms))) (iR : IntsAre rv (zs (rowL v.ms)))
  (kF : ∀ (R' : Fa) (Df : Addr) (fv : List Value) (qf : Nat) (m' : Str → Option Value) (h' : Heap) (tk' : Nat), (∀ p ∈ R, p ∈ R') → Loc v m' → m' (PySem.Str.ofString "fits") = some (.ref Df) → (Df, W.listOf fv.toArray qf) ∈ R' → fv = (List.range v.ms.length).map (fun f => Value.bool (fitB (downL v.ms) (f + 1))) → Fr h₀ L h' m' → News h₀ L h' (cellsN L o1 o2 o3 o4 o5 R') → (∀ p ∈ R', @LT.lt Nat _ (L + 1 + 1 + 1 + 1 + 1) p.1) →
    wpAny (model PySem.Challenge.rw_rs0180_01.row.prog w) (lawTop dp un gd L a ccd outer) (execs (lawB.drop 12) (lawEnv L a ccd)) Q E { s with heap := h', toks := tk' }) :
  wpAny (model PySem.Challenge.rw_rs0180_01.row.prog w) (lawTop dp un gd L a ccd outer) (execs (lawB.drop 11) (lawEnv L a ccd)) Q E s := by
  k_with_none
  k_with "eval ListComp" => (k_here; k_dflt (refine' gc_eval ?gA ?gB ?gC ?gD ?_ ?gE; (case gA => rfl); (case gB => with_unfolding_all rfl); (case gC => rfl); (case gD => decide); (case gE => intro _; rfl)))
  k_with "exec Assign cons ListComp" => (k_here; (first | k_dflt (refine' gc_assign ?gY ?gA ?gS ?gB ?gC ?gD ?_ ?gE; (case gY => rfl); (case gA => rfl); (case gS => with_unfolding_all rfl); (case gB => with_unfolding_all rfl); (case gC => rfl); (case gD => decide); (case gE => intro _; rfl)) | k_dflt (refine' wpAny_Assign_Name ?_ ?gS; (case gS => with_unfolding_all rfl))))
  k_with "pyIter ref" => (with_reducible refine stop_ ?_)
  k_with "call type:enumerate" => (with_reducible refine stop_ ?_)
  k_with "storeName" => (k_here; k_dflt (first | (refine' storeX_L ?F ?N ?_ ?a ?b; (case F => k_asm); (case N => k_asm); (case a => rfl); (case b => rfl); k_whole; intro _ _ _; (try k_sweep)) | (refine stop_ ?_)))
  k_with "mem" => ((repeat (first | with_reducible assumption | refine List.mem_cons_of_mem _ ?_)); done)
  k_with "eval Name" => (k_here; k_dflt (first | (refine' nameX_L ?F ?v ?_ ?a ?b; (case F => k_asm); (case a => rfl); (case b => rfl); (case v => rfl); k_whole) | (refine' nameX_K ?F ?X ?T ?e ?_ ?a ?b; (case F => k_asm); (case X => k_asm); (case T => k_asm); (case a => rfl); (case b => rfl); (case e => k_is); k_whole) | (refine' nameX_B ?F ?X ?T ?e ?v ?n ?_ ?a ?b; (case F => k_asm); (case X => k_asm); (case T => k_asm); (case a => rfl); (case b => rfl); (case e => k_is); (case v => boot_fast); (case n => decide); k_whole)))
  k_with "execs cons Assign cons" => ((with_reducible show wpAny _ _ (execs (PySem.Stmt.Assign [PySem.Expr.Tuple _ _ _] _ _ :: _) _) _ _ _); (with_reducible refine stop_ ?_))
  k_with "execs cons" => ((with_reducible show wpAny _ _ (execs (PySem.Stmt.Assign [PySem.Expr.Tuple _ _ _] _ _ :: _) _) _ _ _); (with_reducible refine stop_ ?_))
  k_with "call ref" => (with_reducible refine stop_ ?_)
  k_with "call builtin:sum" => (with_reducible refine stop_ ?_)
  k_with "call builtin:min" => (with_reducible refine stop_ ?_)
  k_with "subscriptTail Name Slice ref ref" => (with_reducible refine stop_ ?_)
  generalize hb0 : lawB.drop 11 = b0
  conv at hb0 => lhs; whnf
  subst hb0
  unfold lawTop lawEnv
  generalize hb0 : lawS = b0
  conv at hb0 => lhs; whnf
  subst hb0
  have F1 := frCongr F (toL_of hlc)
  unfold toL at F1
  clear F
  revert X; k_fill; intro X
  have mR : ∀ p ∈ R, p ∈ cellsN L o1 o2 o3 o4 o5 R := fun p hp => .tail _ (.tail _ (.tail _ (.tail _ (.tail _ (.tail _ hp)))))
  have hdl : dv.length = v.ms.length := by rw [iD.length, List.length_map, (down_perm _).length_eq]
  have hdl2 : (downL v.ms).length = v.ms.length := (down_perm _).length_eq
  have hml := hb.ml
  have hk6 := hb.k6
  have hk1 := hb.k1
  k_steps
  refine unstop ?_
  rename IsRange _ _ _ _ _ _ _ _ => hr1
  rename News h₀ L _ _ => N1
  refine' it_range (n := v.ms.length) ?hh ?hF N1 hr1 ?hs ?hn ?_
  case hh => rfl
  case hF => k_asm
  case hs => exact small_one (by omega) (by omega) (by omega) (by omega)
  case hn => rw [rangeSize_nat]; congr 1; omega
  intro I h2 Md St hI1 F3 N2 S
  refine' compC (x := PySem.Str.ofString "first") (G := fun C cc => Gcell C cc (fun i x => ∃ t, x = .int (1 + (i : Int)) t)) (R := fun i y => y = .bool (fitB (downL v.ms) (i + 1))) (S _ _) ?ha ?hb F3 N2 ?hc ?hd ?hf ?_ ?_
  case ha => exact fun _ => rfl
  case hb => exact fun _ => rfl
  case hc => exact fun p hp hm => absurd (hI1 p hp) (List.mem_singleton.mp hm ▸ Nat.lt_irrefl _)
  case hd => rw [sizeLine_eq]; omega
  case hf => exact fun C cc hne => asg_cell (fun _ _ _ h => h) rfl rfl (by simp) hne
  · rintro E D C cc i ys h3 tk3 oC oc hi ⟨oC', mC, oc', x, hfr, hN, hdc, t, rfl⟩ hDC hDc hCc hoff F4 own N3
    obtain ⟨rfl, rfl⟩ : oC = oC' ∧ oc = oc' := by simpa using hfr
    try dsimp only
    k_steps
    refine unstop ?_
    rename News h₀ L _ _ => N4
    refine' slice_upto (k := i + 1) ?F N4 (.tail _ (.tail _ (.tail _ (List.mem_append_left _ (mR _ hD))))) ?hx ?hk ?hz ?_
    case F => k_asm
    case hx => omega
    case hk => omega
    case hz => omega
    intro D1 h4 F5 N5 l5
    k_steps
    refine unstop ?_
    rename News h₀ L _ _ => N6
    refine sumK rfl (by k_asm) N6 (News.isList N6 (.head _)) (iD.take (i + 1)) ?_
    intro h5 tk5 t5 F6 N7
    k_steps
    refine unstop ?_
    rename News h₀ L _ _ => N8
    refine' slice_from (k := i + 1) ?F N8 (.tail _ (.tail _ (.tail _ (.tail _ (List.mem_append_left _ (mR _ hD)))))) ?hx ?hk ?hz ?_
    case F => k_asm
    case hx => omega
    case hk => omega
    case hz => omega
    intro D2 h6 F7 N9 l9
    k_steps
    refine unstop ?_
    rename News h₀ L _ _ => N10
    refine' it_list rfl ?F N10 (.head _) ?_
    case F => k_asm
    intro I2 h7 Md2 St2 hI2 F8 N11 S2
    refine' compE (R := fun j y => ∃ t, y = .int ((min (i + 1) ((downL v.ms).getD (i + 1 + j) 0) : Nat) : Int) t) (S2 _ _) ?ha ?hb F8 N11 ?hc ?hd ?he ?hf ?_ ?_
    case ha => decide
    case hb => rfl
    case hc => exact cov_list N11 (.head _) hI2
    case hd => intro p hp; rw [List.mem_singleton.mp hp]; exact .head _
    case he => rw [List.length_drop, sizeLine_eq]; omega
    case hf => exact fun C => asg_name (P' := fun j x => (dv.drop (i + 1))[j]? = some x) (fun _ _ _ h => h) rfl rfl
    · rintro E3 D3 C3 j ys3 h8 tk8 oC3 hj ⟨oC3', m₃, x, hoC3, hN3, hma, hx⟩ hDC3 hoff3 F9 own3 N12
      obtain rfl : oC3 = oC3' := by simpa using hoC3
      rw [List.getElem?_drop] at hx
      obtain ⟨tx, rfl⟩ := zs_item iD hx
      generalize (downL v.ms).getD (i + 1 + j) 0 = x at *
      try dsimp only
      k_steps
      refine unstop ?_
      rename News h₀ L _ _ => N13
      refine min_two_ints rfl fun h9 tk9 hk9 => ?_
      have F10 := Fr.keeps (by k_asm) hk9
      have N14 := News.grown N13 hk9
      obtain ⟨tm, hm⟩ := min_val (i := i) (x := x) (t := t) (u := tx)
      rw [hm]
      exact GOne.intro F10 N14 (fun _ h => h) ⟨_, rfl⟩
    · intro D3 ys3 h8 tk8 hyl3 hyR3 F9 N12 hlt3
      try dsimp only
      k_steps
      refine unstop ?_
      rename News h₀ L _ _ => N13
      have iY : IntsAre ys3 (zs (((downL v.ms).drop (i + 1)).map fun x => min (i + 1) x)) := by
        have e1 := ints_of (f := fun j => ((min (i + 1) ((downL v.ms).getD (i + 1 + j) 0) : Nat) : Int)) (ys := ys3) (k := 0) fun j y hy => by rw [Nat.zero_add]; exact hyR3 j y hy
        rw [hyl3, List.length_drop, hdl, ← hdl2] at e1
        rw [min_map] at e1
        exact e1
      refine sumK (vs := ys3) rfl (by k_asm) N13 (News.isList N13 (.head _)) iY ?_
      intro h9 tk9 t9 F10 N14
      k_steps
      rename News h₀ L _ _ => N15
      exact GOne.intro (by k_asm) N15 (fun p hp => .tail _ (.tail _ (.tail _ hp))) (fit_val _ _)
  · intro D C ys h3 tk3 oC mC hyl hyR hN F4 hC N3 hoff hlt hCL hC0
    refine' gc_finA F4 hC hN N3 hoff hCL hC0 ?hL ?hY ?hP ?_
    case hL => rfl
    case hY => rfl
    case hP => rfl
    intro h4 tk4 F5 N4
    try dsimp only
    k_steps
    refine unstop ?_
    rename News h₀ L _ _ => N5
    obtain ⟨qf, N6⟩ : ∃ qf, News h₀ L _ (cellsN L o1 o2 o3 o4 o5 ((D, W.listOf ys.toArray qf) :: R)) := ⟨_, newsSub N5 fun p hp => lf_in hp⟩
    refine kF _ D ys qf _ _ _ (fun p hp => .tail _ hp) ⟨rfl, rfl, rfl, rfl, rfl⟩ rfl (.head _) ?_ (by k_asm) N6 ?_
    · refine List.ext_getElem (by rw [hyl]; simp) fun j h1 h2 => ?_
      have := hyR j ys[j] (List.getElem?_eq_getElem h1)
      rw [this]; simp
    · intro p hp
      rcases List.mem_cons.mp hp with q | q
      · rw [q]; exact cells_lt hlt
      · exact hR p q
end Mine
end
section
open PySem PySem.W PyProof.Rows PySem.Calls
namespace Mine
/-- the table of nested codes: every one lies in T under the qualname q -/
inductive TabOk (q : Str) (T : List (Addr × Obj)) : List Value → Prop
  | nil : TabOk q T []
  | cons {l k : Int} {t1 t2 t : Tok} {c' : Addr} {oc : Obj} {vs : Array Value} {r : List Value} : (c', oc) ∈ T → oc.data = .fields vs → vs[1]? = some (.str q t) → TabOk q T r → TabOk q T (.int l t1 :: .int k t2 :: .ref c' :: r)
theorem TabOk.triples {q : Str} {T : List (Addr × Obj)} : ∀ {ps : List Value}, TabOk q T ps → TriplesOk ps
  | _, .nil => trivial
  | _, .cons _ _ _ r => by show TriplesOk _; exact r.triples
theorem TabOk.mono {q : Str} {T T' : List (Addr × Obj)} (h : ∀ p ∈ T, p ∈ T') : ∀ {ps : List Value}, TabOk q T ps → TabOk q T' ps
  | _, .nil => .nil
  | _, .cons a b c r => .cons (h _ a) b c (r.mono h)
theorem TabOk.snoc {q : Str} {T : List (Addr × Obj)} {l k : Int} {t1 t2 t : Tok} {c' : Addr} {oc : Obj} {vs : Array Value} (a : (c', oc) ∈ T) (b : oc.data = .fields vs) (c : vs[1]? = some (.str q t)) : ∀ {ps : List Value}, TabOk q T ps → TabOk q T (ps ++ [.int l t1, .int k t2, .ref c'])
  | _, .nil => .cons a b c .nil
  | _, .cons a' b' c'' r => .cons a' b' c'' (r.snoc a b c)
theorem TabOk.hit {q : Str} {T : List (Addr × Obj)} {pos : Pos} {cv : Value} : ∀ {ps : List Value}, TabOk q T ps → codeAmong pos ps = some cv → ∃ (c' : Addr) (oc : Obj) (vs : Array Value) (t : Tok), cv = .ref c' ∧ (c', oc) ∈ T ∧ oc.data = .fields vs ∧ vs[1]? = some (.str q t)
  | _, .nil, h => by simp [codeAmong] at h
  | _, .cons (l := l) (k := k) a b c r, h => by
    unfold codeAmong at h
    split at h
    · exact ⟨_, _, _, _, (Option.some.inj h).symm, a, b, c⟩
    · exact r.hit h
abbrev lamQ : Str := PySem.Str.ofString "_law_ties.<locals>.<lambda>"
theorem lam_make {M : Model} {A : Around} {E : Value → Shared → Prop} {s : Shared} {h₀ : Heap} {L a c P : Addr} {m mg mb : Str → Option Value} {cn : Str} {cs : Scope} {ccd : Value} {rest cod : List (Addr × Obj)}
    {p : Program} {loose : List Str} {mean : ExcName → Option Value} {ps : List Value} {pos pa p1 p2 p3 : Pos} {Q : Value → Shared → Prop}
    (F : Fr h₀ L s.heap m) (N : News h₀ L s.heap ((P, tabObj ps.toArray) :: rest)) (T : Top p loose mean mg mb h₀) (C : CodeHd h₀ c P) (hcd : ccd = .ref c) (hr : ∀ x ∈ rest, x.1 ≠ P)
    (hq : (envX cn cs L a ccd []).qual ++ PySem.Str.ofString "<lambda>" = lamQ) (ht : TabOk lamQ cod ps) (hsub : ∀ x ∈ cod, x ∈ rest)
    (h : ∀ f ps' add h' tk, Fr h₀ L h' m → News h₀ L h' ((P, tabObj (List.toArray ps')) :: (add ++ rest)) → TabOk lamQ (add ++ cod) ps' → (∀ x ∈ add, x.1 ≠ P) → LamAt (add ++ rest) f → (∀ x ∈ rest, ∀ y ∈ add, @LT.lt Nat _ x.1 y.1) → Q (.ref f) { s with heap := h', toks := tk }) :
    wpAny M A (eval (.Lambda (lamPar pa) (lamBody p1 p2 p3) lamScope pos) (envX cn cs L a ccd [])) Q E s := by
  k_with_none
  refine kla_eval rfl ?_
  rw [hq]
  cases hc : codeAmong pos ps with
  | none =>
    refine kla_nest (g := fun o => (P, o) :: rest) (ps := ps.toArray) (clos := []) F N T C hcd (.head hr) (by simpa using ht.triples) (by simpa using hc) rfl ?_
    intro f c' oc vs t ctv h' tk F' N' d1 d2 l1 l2
    have lP : @LT.lt Nat _ P c' := l1 (P, _) (.head _)
    have e : (ps.toArray ++ #[rawInt pos.line, rawInt pos.col, Value.ref c']) = (ps ++ [rawInt pos.line, rawInt pos.col, Value.ref c']).toArray := by simp
    refine h f (ps ++ [rawInt pos.line, rawInt pos.col, .ref c']) [(f, lamObj lamQ pa p1 p2 p3 ((mg "__name__").getD .none) c' ctv), (c', oc)] h' tk F' (newsSub N' fun x hx => ?_) ?_ ?_ ?_ ?_
    · rw [e]
      simp only [List.mem_cons, List.cons_append, List.nil_append] at hx ⊢
      rcases hx with q | q | q | q
      · exact .inr (.inr (.inl q))
      · exact .inl q
      · exact .inr (.inl q)
      · exact .inr (.inr (.inr q))
    · exact (ht.mono fun x hx => .tail _ (.tail _ hx)).snoc (.tail _ (.head _)) d1 d2
    · intro x hx
      rcases List.mem_cons.mp hx with q | q
      · rw [q]; exact Nat.ne_of_gt (Nat.lt_trans lP l2)
      · rw [List.mem_singleton.mp q]; exact Nat.ne_of_gt lP
    · exact ⟨_, _, _, _, _, _, c', ctv, oc, vs, t, .head _, .tail _ (.head _), d1, d2⟩
    · intro x hx y hy
      rcases List.mem_cons.mp hy with q | q
      · rw [q]; exact Nat.lt_trans (l1 x (.tail _ hx)) l2
      · rw [List.mem_singleton.mp q]; exact l1 x (.tail _ hx)
  | some cv =>
    obtain ⟨c', oc, vs, t, rfl, d0, d1, d2⟩ := ht.hit hc
    refine kla_hit (ps := ps.toArray) (clos := []) F N T C hcd (.head _) (by simpa using ht.triples) (by simpa using hc) rfl ?_
    intro f ctv h' tk F' N' l1
    refine h f ps [(f, lamObj lamQ pa p1 p2 p3 ((mg "__name__").getD .none) c' ctv)] h' tk F' (newsSub N' fun x hx => ?_) (ht.mono fun x hx => List.mem_append_right _ hx) ?_ ?_ ?_
    · simp only [List.mem_cons, List.cons_append, List.nil_append] at hx ⊢
      rcases hx with q | q | q
      · exact .inr (.inl q)
      · exact .inl q
      · exact .inr (.inr q)
    · intro x hx
      rw [List.mem_singleton.mp hx]; exact Nat.ne_of_gt (l1 (P, _) (.head _))
    · exact ⟨_, _, _, _, _, _, c', ctv, oc, vs, t, .head _, List.mem_append_right _ (hsub _ d0), d1, d2⟩
    · intro x hx y hy
      rw [List.mem_singleton.mp hy]; exact l1 x (.tail _ hx)
end Mine
end
section
open PySem PySem.W PyProof.Rows PySem.Calls
namespace Mine
theorem kl_cut_of : ∀ {l : List Value} {k : Nat} {y : Value}, l[k]? = some y → kl_cut l k = some (l.take k, y, l.drop (k + 1))
  | [], _, _, h => by simp at h
  | x :: r, 0, y, h => by
    have : x = y := by simpa using h
    subst this; rfl
  | x :: r, k + 1, y, h => by
    have := kl_cut_of (l := r) (k := k) (y := y) (by simpa using h)
    simp [kl_cut, this]
theorem popNat {prog : Program} {w : World} {A : Around} {E : Value → Shared → Prop} {s : Shared} {h₀ : Heap} {L D : Addr} {m : Str → Option Value} {news news' : List (Addr × Obj)} {vs : List Value} {n k : Nat} {i : Int} {u : Tok} {y : Value} {Q : Value → Shared → Prop}
  (F : Fr h₀ L s.heap m) (N : News h₀ L s.heap news) (hi : i = k) (hy : vs[k]? = some y) (hz : vs.length ≤ 1000) (U : Upd D (W.listOf vs.toArray n) (W.listOf (vs.eraseIdx k).toArray (n + 1)) news news') (h : ∀ h', Fr h₀ L h' m → News h₀ L h' news' → Q y { s with heap := h' }) :
    wpAny (model prog w) A (call (.builtin "list.pop") [.ref D, .int i u]) Q E s := by
  k_with_none
  subst hi
  have hk : k < vs.length := (List.getElem?_eq_some_iff.mp hy).1
  rw [List.eraseIdx_eq_take_drop_succ] at U
  refine kl_popAt (its := vs.toArray) (n := n) (p := vs.take k) (q := vs.drop (k + 1)) (k := k) F N ?_ ?_ (kl_cut_of (l := vs) hy) U (by rw [sizeLine_eq]; show vs.length ≤ _; omega) h
  · unfold Builtin.List.listFitsIndex
    simp; omega
  · unfold seqIndex?
    simp; omega
theorem pick_eq {pk : Int} (h0 : 0 ≤ pk) (i n : Nat) : (pk.fdiv (7 ^ (0 + (i : Int)).toNat)).fmod (n : Int) = ((pk.toNat / 7 ^ i % n : Nat) : Int) := by
  obtain ⟨P, rfl⟩ := Int.eq_ofNat_of_zero_le h0
  rw [Int.zero_add, Int.toNat_natCast, Int.toNat_natCast]
  have e7 : ((7 : Int) ^ i) = ((7 ^ i : Nat) : Int) := by rw [Int.natCast_pow]; rfl
  rw [e7, Int.fdiv_eq_ediv_of_nonneg _ (Int.natCast_nonneg _), Int.fmod_eq_emod_of_nonneg _ (Int.natCast_nonneg _)]
  rw [Int.natCast_emod, Int.natCast_ediv]
end Mine
end
section
open PySem PySem.W PyProof.Rows PySem.Calls
namespace Mine
structure Sp where
  (ps am : Int) (tp ta : Tok)
def spF (nm : Str) (m₀ : Str → Option Value) (c : Sp) : Str → Option Value := fun z => if z = nm then some (.int c.ps c.tp) else if z = "amount" then some (.int c.am c.ta) else m₀ z
theorem spF_of {nm : Str} {m₀ m' : Str → Option Value} {c : Sp} (h1 : m' nm = some (.int c.ps c.tp)) (h2 : m' "amount" = some (.int c.am c.ta)) (h4 : ∀ z : Str, z ≠ nm → z ≠ "amount" → m' z = m₀ z) : ∀ z, m' z = spF nm m₀ c z := by
  k_with_none
  k_with "exec While Compare cons nil" => (with_reducible refine stop_ ?_)
  k_with "exec While BoolOp" => (with_reducible refine stop_ ?_)
  k_with "call builtin:len" => (k_here; (with_reducible show wpAny _ _ (call (Value.builtin "len") [Value.str _ _]) _ _ _); (refine' len_text ?lz ?_; (case lz => assumption)); intro _ _)
  k_with "fits" => assumption
  intro z
  unfold spF
  by_cases e1 : z = nm
  · rw [if_pos e1, e1]; exact h1
  · rw [if_neg e1]
    by_cases e2 : z = "amount"
    · rw [if_pos e2, e2]; exact h2
    · rw [if_neg e2]; exact h4 z e1 e2
def spP1 (k j : Nat) (c : Sp) : Prop := 0 ≤ c.ps ∧ c.ps ≤ k ∧ c.am = j - c.ps ∧ 0 ≤ c.am
theorem sp_item {k n : Nat} {c : Sp} (h0 : 0 ≤ c.ps) (h : c.ps < k) : Txt.item (pt k n) c.ps = PySem.Str.ofString " " := by
  rw [pt_item _ _ _ h0 (by omega), if_pos h, blank_is]
theorem sp_item2 {k n : Nat} {i : Int} (h : i = k) : Txt.item (pt k n) i = ⟨#[n]⟩ := by
  rw [pt_item _ _ _ (by omega) (by omega), if_neg (by omega)]
set_option maxRecDepth 100000 in
set_option maxHeartbeats 8000000 in
theorem strip_pt {w : World} {dp un : Nat} {gd : Option (List Code)} {cn : Str} {cs : Scope} {a : Addr} {ccd : Value} {cl : List (Str × Addr)} {outer : List Env} {A₀ : Around} {base h₀ : Heap} {L : Addr} {m : Str → Option Value} {s : Shared} {Q E : Value → Shared → Prop} {p : Program} {loose : List Str} {mean : ExcName → Option Value} {mg mb : Str → Option Value} {news : List (Addr × Obj)} {k j n : Nat} {t tj : Tok}
  (B : Below A₀ base outer h₀) (F : Fr h₀ L s.heap m) (X : (hd.heap_1 w.params).In h₀) (N : News h₀ L s.heap news) (T : Top p loose mean mg mb h₀) (hk : cs.kind = .function)
  (hn : n ≠ 32) (hz : (pt k n).length ≤ sizeLine) (hd : dp + 1 < recursionLimit) (hu : un + 8 < cLine)
  (h : ∀ t h' tk', Fr h₀ L h' m → News h₀ L h' news → Q (.str (pt (k - j) n) t) { s with heap := h', toks := tk' }) :
  wpAny (model PySem.Challenge.rw_rs0180_01.row.prog w) (ktrTop dp un gd cn cs L a ccd cl outer) (call (.ref 64) [.str (pt k n) t, .int j tj]) Q E s := by
  k_with_none
  k_with "exec While Compare cons nil" => (with_reducible refine stop_ ?_)
  k_with "exec While BoolOp" => (with_reducible refine stop_ ?_)
  k_with "call builtin:len" => (k_here; (with_reducible show wpAny _ _ (call (Value.builtin "len") [Value.str _ _]) _ _ _); (refine' len_text ?lz ?_; (case lz => assumption)); intro _ _)
  k_with "fits" => assumption
  k_with "subscriptTail" => (k_here; (with_reducible show wpAny _ _ (subscriptTail _ _ (Value.str _ _) (Value.int _ _)) _ _ _); k_dflt (refine' item_text ?l1 ?l2 ?lz ?le ?_; (case le => first | exact sp_item2 (by assumption) | exact sp_item2 (by rw [pt_length]; omega) | exact sp_item (by assumption) (by assumption)); (case lz => assumption); (case l1 => rw [pt_length]; omega); (case l2 => rw [pt_length]; omega)); intro _ _)
  k_with "compareOp Eq str str" => (k_here; k_dflt (first | refine eq_text_t rfl ?_ | refine eq_text_f (one_ne (by assumption)) ?_))
  revert X; k_fill; intro X
  refine wpAny_call ?_
  k_dflt (refine' code_def (binds := [("s", .str (pt k n) t), ("amount", .int j tj)]) ?k1 ?k2 ?k3 ?k4 ?k5 ?kA ?kF ?kK ?k6 ?k7 ?k8 ?k9 ?kB ?_ ?c2 ?c3 ?c4 ?c5; (case kA => exact rfl); (case kF => exact rfl); (case kK => first | exact rfl | assumption); (case k1 => k_asm); (case k2 => k_asm); (case k3 => k_asm); (case k4 => k_asm); (case k5 => k_asm); (case k6 => k_is); (case k7 => k_is); (case k8 => ktr_room); (case k9 => first | exact BindsTo.of_eq rfl | (refine' kp_binds ?kx ?ke; (case kx => k_in); (case ke => exact fun _ => rfl))); (case c5 => decide); (case kB => exact locs rfl); (case c2 => exact rfl); (case c3 => exact rfl); (case c4 => exact rfl); k_whole; intro g' L' h' FG' F' N' B' X' T'; (try dsimp only); (try k_lift B'); (try k_fold))
  k_steps
  refine unstop ?_
  refine' while_ (σ := Sp) (spF "lpos") (fun _ => news) (spP1 k j) (fun c => c.am.toNat) ⟨0, j, _, _⟩ ?kF ?kN ?ke (fun _ h => h) ?kp ?kt
  case kF => k_asm
  case kN => k_asm
  case ke =>
    refine spF_of ?ea ?eb ?ed
    case ea => exact if_pos rfl
    case eb => with_unfolding_all rfl
    case ed => intro z h1 h2; rfl
  case kp => exact ⟨Int.le_refl _, by show (0 : Int) ≤ k; omega, by show (j : Int) = j - 0; omega, by show (0 : Int) ≤ j; omega⟩
  case kt =>
    intro c h1 tk1 hP F2 N2
    have hP' := hP
    obtain ⟨p1, p2, p3, p4⟩ := hP'
    dsimp only
    by_cases hlt : c.ps < k
    · k_steps
      · dsimp only [WhPost]
        refine' WhEnd.intro (⟨c.ps + 1, c.am - 1, _, _⟩ : Sp) ?eF ?eN (spF_of ?ea ?eb ?ed) (fun _ h => h) ?ep ?em
        case eF => k_asm
        case eN => k_asm
        case ea => with_unfolding_all rfl
        case eb => exact if_pos rfl
        case ed => intro z h1 h2; simp only [spF, h1, h2, if_false]
        case ep => exact ⟨by show 0 ≤ c.ps + 1; omega, by show c.ps + 1 ≤ k; omega, by show c.am - 1 = j - (c.ps + 1); omega, by show 0 ≤ c.am - 1; omega⟩
        case em => dsimp only; omega
      · refine unstop ?_
        refine' while_ (σ := Unit) (fun m _ => m) (fun _ => news) (fun _ => True) (fun _ => 0) () ?kF ?kN ?ke (fun _ h => h) trivial ?kt
        case kF => k_asm
        case kN => k_asm
        case ke => exact fun _ => rfl
        case kt =>
          intro _ h2 tk2 _ F3 N3
          dsimp only
          k_steps
          all_goals first | (exfalso; omega) | skip
          rw [show (((pt k n).length : Int) - 1 + 1) = (k : Int) + 1 by rw [pt_length]; omega, pt_slice _ _ _ p1 p2, show k - c.ps.toNat = k - j by omega]
          exact h _ _ _ (by k_asm) (by k_asm)
    · have hlt' : c.ps = k := by omega
      k_steps
      · refine unstop ?_
        refine' while_ (σ := Unit) (fun m _ => m) (fun _ => news) (fun _ => True) (fun _ => 0) () ?kF ?kN ?ke (fun _ h => h) trivial ?kt
        case kF => k_asm
        case kN => k_asm
        case ke => exact fun _ => rfl
        case kt =>
          intro _ h2 tk2 _ F3 N3
          dsimp only
          k_steps
          all_goals first | (exfalso; omega) | skip
          rw [show (((pt k n).length : Int) - 1 + 1) = (k : Int) + 1 by rw [pt_length]; omega, pt_slice _ _ _ p1 p2, show k - c.ps.toNat = k - j by omega]
          exact h _ _ _ (by k_asm) (by k_asm)
      · refine unstop ?_
        refine' while_ (σ := Unit) (fun m _ => m) (fun _ => news) (fun _ => True) (fun _ => 0) () ?kF ?kN ?ke (fun _ h => h) trivial ?kt
        case kF => k_asm
        case kN => k_asm
        case ke => exact fun _ => rfl
        case kt =>
          intro _ h2 tk2 _ F3 N3
          dsimp only
          k_steps
          all_goals first | (exfalso; omega) | skip
          rw [show (((pt k n).length : Int) - 1 + 1) = (k : Int) + 1 by rw [pt_length]; omega, pt_slice _ _ _ p1 p2, show k - c.ps.toNat = k - j by omega]
          exact h _ _ _ (by k_asm) (by k_asm)
end Mine
end
section
open PySem PySem.W PyProof.Rows PySem.Calls PyProof.Rows.LCg
namespace Mine
abbrev pts (r : List (Nat × Nat)) : List Str := r.map fun p => pt p.1 p.2
abbrev pts0 (ns : List Nat) : List (Nat × Nat) := (List.range' 0 ns.length).map fun i => (ns.getD i 0, 97 + i)
theorem pts_lens (r : List (Nat × Nat)) : lens (pts r) = r.map fun p => (p.1 : Int) + 1 := by
  k_with_none
  unfold lens pts
  rw [List.map_map]
  exact List.map_congr_left fun p _ => by simp [pt_length]
theorem insAt_map {α β : Type} (f : α → β) (r : List α) (k : Nat) (x : α) : (insAt r k x).map f = insAt (r.map f) k (f x) := by
  unfold insAt; simp [List.map_take, List.map_drop]
theorem pts_insR (r : List (Nat × Nat)) (k c : Nat) : insAt (pts r) ((lens (pts r)).countP fun v => decide (v ≤ ((pt k c).length : Int))) (pt k c) = pts (insR keyP r (k, c)) := by
  unfold insR
  rw [show pts (insAt r (r.countP fun y => decide (keyP y ≤ keyP (k, c))) (k, c)) = insAt (pts r) (r.countP fun y => decide (keyP y ≤ keyP (k, c))) (pt k c) from insAt_map _ _ _ _, pts_lens, List.countP_map]
  congr 1
  refine List.countP_congr fun p _ => ?_
  simp only [Function.comp_apply, decide_eq_true_eq, pt_length, keyP]
  omega
theorem pts_insL (r : List (Nat × Nat)) (k c : Nat) : insAt (pts r) ((lens (pts r)).countP fun v => decide (v < ((pt k c).length : Int))) (pt k c) = pts (insL keyP r (k, c)) := by
  unfold insL
  rw [show pts (insAt r (r.countP fun y => decide (keyP y < keyP (k, c))) (k, c)) = insAt (pts r) (r.countP fun y => decide (keyP y < keyP (k, c))) (pt k c) from insAt_map _ _ _ _, pts_lens, List.countP_map]
  congr 1
  refine List.countP_congr fun p _ => ?_
  simp only [Function.comp_apply, decide_eq_true_eq, pt_length, keyP]
  omega
theorem pts_sorted {r : List (Nat × Nat)} (h : r.Pairwise fun a b => keyP a ≤ keyP b) : (lens (pts r)).Pairwise (· ≤ ·) := by
  rw [pts_lens, List.pairwise_map]
  exact h.imp fun h => by simp only [keyP] at h; omega
theorem strs_insAt {vs : List Value} {ss : List Str} (h : StrsAre vs ss) (k : Nat) (x : Str) (t : Tok) : StrsAre (insAt vs k (.str x t)) (insAt ss k x) :=
  StrsAre.append' (h.take' k) (.cons x t (h.drop' k))
theorem cov_zip {l I : Addr} {o : Obj} {h₀ h : Heap} {L : Addr} {news : Fa} (N : News h₀ L h news) (hl : (l, o) ∈ news) (hI : ∀ p ∈ news, p.1 < I) : ∀ p ∈ news, p.1 ∈ [I + 4, I + 2, I + 3, I, I + 1, l] → p ∈ [(l, o)] := by
  intro p hp hm
  have lp := hI p hp
  simp only [List.mem_cons, List.not_mem_nil, or_false] at hm
  rcases hm with q | q | q | q | q | q
  · exact absurd lp (q ▸ Nat.not_lt.mpr (Nat.le_add_right _ _))
  · exact absurd lp (q ▸ Nat.not_lt.mpr (Nat.le_add_right _ _))
  · exact absurd lp (q ▸ Nat.not_lt.mpr (Nat.le_add_right _ _))
  · exact absurd lp (q ▸ Nat.lt_irrefl _)
  · exact absurd lp (q ▸ Nat.not_lt.mpr (Nat.le_add_right _ _))
  · exact cov_list N hl hI p hp (by rw [q]; simp)
theorem abc_at {i c : Nat} (h : (PySem.Str.ofString "abcdef").cps[i]? = some c) : c = 97 + i := by
  have e : (PySem.Str.ofString "abcdef").cps = #[97, 98, 99, 100, 101, 102] := by decide +kernel
  rw [e] at h
  match i, h with
  | 0, h => simpa using h.symm
  | 1, h => simpa using h.symm
  | 2, h => simpa using h.symm
  | 3, h => simpa using h.symm
  | 4, h => simpa using h.symm
  | 5, h => simpa using h.symm
  | n + 6, h => simp at h
structure Tc where
  (rv : List Value) (n : Nat) (ps : List Value) (add : Fa)
abbrev tcN (rw : Addr) (news : Fa) (c : Tc) : Fa := (rw, W.listOf c.rv.toArray c.n) :: (142, tabObj c.ps.toArray) :: (c.add ++ news)
theorem tc_in {a b d p : Addr × Obj} {r : Fa} (h : p ∈ a :: b :: r) : p ∈ a :: d :: b :: r := by
  simp only [List.mem_cons] at h ⊢; grind
theorem allLt_mem' {d : Nat} : ∀ {l : List (Addr × Obj)}, AllLt d l → ∀ p ∈ l, @LT.lt Nat _ p.1 d
  | [], _, p, hp => nomatch hp
  | x :: r, h, p, hp => by
    rcases List.mem_cons.mp hp with q | q
    · rw [q]; exact h.1
    · exact allLt_mem' h.2 p q
theorem tc_in2 {a b p : Addr × Obj} {x n o : Fa} (h : p ∈ b :: a :: (x ++ (n ++ o))) : p ∈ a :: b :: (x ++ n) ++ o := by
  simp only [List.mem_cons, List.mem_append, List.cons_append] at h ⊢; grind
theorem tc_in3 {a b p : Addr × Obj} {x n : Fa} (h : p ∈ a :: b :: (x ++ n)) : p ∈ b :: (x ++ (a :: n)) := by
  simp only [List.mem_cons, List.mem_append] at h ⊢; grind
theorem pts0_le {ns : List Nat} (hb : ∀ k ∈ ns, k ≤ 6) : ∀ p ∈ pts0 ns, p.1 ≤ 6 := by
  intro p hp
  obtain ⟨i, _, rfl⟩ := List.mem_map.mp hp
  exact getD_le hb
theorem pts_size {r : List (Nat × Nat)} (h : ∀ p ∈ r, p.1 ≤ 6) : ∀ s ∈ pts r, s.length ≤ sizeLine := by
  intro s hs
  obtain ⟨p, hp, rfl⟩ := List.mem_map.mp hs
  have := h p hp
  rw [pt_length, sizeLine_eq]; omega
theorem tc_in4 {a b p : Addr × Obj} {x r : Fa} (h : p ∈ x ++ (a :: r)) : p ∈ a :: b :: (x ++ r) := by
  simp only [List.mem_cons, List.mem_append] at h ⊢; grind
theorem tc_in5 {a b p : Addr × Obj} {x y n o : Fa} (h : p ∈ a :: b :: ((x ++ y) ++ n)) : p ∈ a :: b :: (x ++ (y ++ (n ++ o))) := by
  simp only [List.mem_cons, List.mem_append] at h ⊢; grind
theorem tc_in6 {a b d p : Addr × Obj} {r : Fa} (h : p ∈ b :: a :: d :: r) : p ∈ a :: b :: r ++ [d] := by
  simp only [List.mem_cons, List.mem_append, List.cons_append] at h ⊢; grind
theorem tc_in7 {a b d p : Addr × Obj} {x r : Fa} (h : p ∈ d :: a :: b :: (x ++ r)) : p ∈ b :: (x ++ (a :: d :: r)) := by
  simp only [List.mem_cons, List.mem_append] at h ⊢; grind
theorem tc_in8 {a b d p : Addr × Obj} {x r : Fa} (h : p ∈ x ++ (a :: d :: r)) : p ∈ d :: a :: b :: (x ++ r) := by
  simp only [List.mem_cons, List.mem_append] at h ⊢; grind
theorem insR_congr {α : Type} {key key' : α → Int} (h : ∀ a b, key a ≤ key b ↔ key' a ≤ key' b) (r : List α) (x : α) : insR key r x = insR key' r x := by
  unfold insR
  congr 1
  exact List.countP_congr fun y _ => by simp only [decide_eq_true_eq]; exact h y x
theorem isort_congr {α : Type} {key key' : α → Int} (h : ∀ a b, key a ≤ key b ↔ key' a ≤ key' b) (l : List α) : isort key l = isort key' l := by
  unfold isort
  have : insR key = insR key' := funext fun r => funext fun x => insR_congr h r x
  rw [this]
theorem isort_pts (l : List (Nat × Nat)) : isort lenK (pts l) = pts (isort keyP l) := by
  unfold pts
  rw [← map_isort (fun p : Nat × Nat => pt p.1 p.2) lenK l]
  congr 1
  exact isort_congr (fun a b => by simp only [lenK, keyP, pt_length]; omega) l
theorem pts0_ok {ns : List Nat} (hz : ns.length ≤ 6) : ∀ p ∈ pts0 ns, p.2 < 200 := by
  intro p hp
  obtain ⟨i, hi, rfl⟩ := List.mem_map.mp hp
  have := (List.mem_range'_1.mp hi).2
  show 97 + i < 200
  omega
theorem pts0_lo {ns : List Nat} : ∀ p ∈ pts0 ns, 96 < p.2 := by
  intro p hp
  obtain ⟨i, hi, rfl⟩ := List.mem_map.mp hp
  show 96 < 97 + i
  omega
theorem pts_ok {r : List (Nat × Nat)} (h : ∀ p ∈ r, p.2 < 200) : ∀ s ∈ pts r, PyData.strOk s = true := by
  intro s hs
  obtain ⟨p, hp, rfl⟩ := List.mem_map.mp hs
  have := h p hp
  unfold PyData.strOk pt
  rw [Array.all_eq_true_iff_forall_mem]
  intro x hx
  have hx : x ∈ List.replicate p.1 32 ++ [p.2] := by simpa using hx
  rcases List.mem_append.mp hx with q | q
  · rw [List.eq_of_mem_replicate q]; rfl
  · rw [List.mem_singleton.mp q]; simp; omega
theorem tc_in9 {a b c d e g p : Addr × Obj} {r : Fa} (h : p ∈ a :: b :: c :: d :: r) : p ∈ a :: b :: e :: g :: c :: d :: r := by
  simp only [List.mem_cons] at h ⊢; grind
structure Tw where
  (rw : Addr) (rv : List Value) (rn : Nat) (r : List (Nat × Nat)) (tv : List Value) (tn : Nat) (ts : List (Nat × Nat)) (fv : List Value) (fn : Nat) (ps : List Value) (add : Fa) (mm : Str → Option Value)
abbrev twN (tl fl : Addr) (R0 : Fa) (c : Tw) : Fa := (tl, W.listOf c.tv.toArray c.tn) :: (fl, W.listOf c.fv.toArray c.fn) :: (c.rw, W.listOf c.rv.toArray c.rn) :: (142, tabObj c.ps.toArray) :: (c.add ++ R0)
def toM (rw tl fl : Addr) (pk : Int) (tp : Tok) (mm : Str → Option Value) : Str → Option Value := fun z => if z = "row" then some (.ref rw) else if z = "ties" then some (.ref tl) else if z = "fair" then some (.ref fl) else if z = "picks" then some (.int pk tp) else mm z
theorem toM_of {rw tl fl : Addr} {pk : Int} {tp : Tok} {m' : Str → Option Value} (h1 : m' "row" = some (.ref rw)) (h2 : m' "ties" = some (.ref tl)) (h3 : m' "fair" = some (.ref fl)) (h4 : m' "picks" = some (.int pk tp)) : ∀ z, m' z = toM rw tl fl pk tp m' z := by
  intro z
  unfold toM
  by_cases e1 : z = "row"
  · rw [if_pos e1, e1]; exact h1
  · rw [if_neg e1]
    by_cases e2 : z = "ties"
    · rw [if_pos e2, e2]; exact h2
    · rw [if_neg e2]
      by_cases e3 : z = "fair"
      · rw [if_pos e3, e3]; exact h3
      · rw [if_neg e3]
        by_cases e4 : z = "picks"
        · rw [if_pos e4, e4]; exact h4
        · rw [if_neg e4]
theorem tw_in {a b c d p : Addr × Obj} {x o : Fa} (h : p ∈ c :: a :: b :: d :: (x ++ o)) : p ∈ a :: b :: c :: d :: x ++ o := by
  simp only [List.mem_cons, List.mem_append, List.cons_append] at h ⊢; grind
theorem wrun_rep (k : Nat) : (wrun (List.replicate k 32)).n = k := by
  have gen : ∀ (k : Nat) (c : Wc), ((List.replicate k 32).foldl wstep c).n = c.n + k := by
    intro k
    induction k with
    | zero => intro c; rfl
    | succ k ih => intro c; rw [List.replicate_succ, List.foldl_cons, ih]; simp [wstep]; omega
  have := gen k ⟨[], 0, 0, 0⟩
  simpa [wrun] using this
theorem pick2 {g h : Heap} {L a b : Addr} {x y : Obj} {r : Fa} (N : News g L h ((a, x) :: (b, y) :: r)) : ∃ a' b' : Addr, a' = a ∧ b' = b ∧ News g L h ((a', x) :: (b', y) :: r) := ⟨a, b, rfl, rfl, N⟩
end Mine
end
section
open PySem PySem.W PyProof.Rows PySem.Calls
namespace Mine
theorem fsts_pts0 (ms : List Nat) : fsts (pts0 ms) = ms := by
  k_with_none
  unfold fsts pts0
  rw [List.map_map]
  have h := range_getD ms 0 (fun k : Nat => k)
  rw [List.map_id'] at h
  exact h
theorem fsts_row (ms : List Nat) : fsts (isort keyP (pts0 ms)) = rowL ms := by
  refine sorted_eq (srt_fst (isort_sorted keyP (pts0 ms))) (rowL_sorted ms) ?_
  have h1 : (fsts (isort keyP (pts0 ms))).Perm (fsts (pts0 ms)) := (isort_perm keyP (pts0 ms)).map _
  rw [fsts_pts0] at h1
  exact h1.trans (rowL_perm ms).symm
theorem ok_down (ms : List Nat) : okB (fsts (isort keyP (pts0 ms))).reverse = (decide (ms.sum % 2 = 0) && (List.range ms.length).all fun f => fitB (downL ms) (f + 1)) := by
  rw [fsts_row, row_down, List.reverse_reverse]
  unfold okB
  rw [(down_perm ms).sum_nat, (down_perm ms).length_eq]
theorem row0_len (ms : List Nat) : (isort keyP (pts0 ms)).length = ms.length := by rw [(isort_perm _ _).length_eq]; simp
/-- the nanny's ties come to an end just if Erdoes and Gallai say so -/
theorem ties_none {ms : List Nat} {pk : Nat} (hb : ∀ k ∈ ms, k ≤ 6) (hl : ms.length ≤ 6) (h : runT pk (isort keyP (pts0 ms)) ms.length = none) : (decide (ms.sum % 2 = 0) && (List.range ms.length).all fun f => fitB (downL ms) (f + 1)) = false := by
  rw [← ok_down]
  have e := run_end (pk := pk) (row0 := isort keyP (pts0 ms)) (isort_sorted _ _) (fun p hp => pts0_le hb p ((isort_perm _ _).mem_iff.mp hp)) (by rw [row0_len]; exact hl)
  rw [row0_len] at e
  exact e.1 h
theorem ties_some {ms : List Nat} {pk : Nat} {r ts : List (Nat × Nat)} (hb : ∀ k ∈ ms, k ≤ 6) (hl : ms.length ≤ 6) (h : runT pk (isort keyP (pts0 ms)) ms.length = some (r, ts)) :
    (decide (ms.sum % 2 = 0) && (List.range ms.length).all fun f => fitB (downL ms) (f + 1)) = true ∧ ∀ i, i < ms.length → cnt (97 + i) ts = ms.getD i 0 := by
  have e := run_end (pk := pk) (row0 := isort keyP (pts0 ms)) (isort_sorted _ _) (fun p hp => pts0_le hb p ((isort_perm _ _).mem_iff.mp hp)) (by rw [row0_len]; exact hl)
  rw [row0_len, ok_down] at e
  obtain ⟨e1, e2⟩ := e.2 r ts h
  refine ⟨e2, fun i hi => ?_⟩
  have h1 := run_cnt (c := 97 + i) h
  subst e1
  have h2 : sumC (97 + i) (isort keyP (pts0 ms)) = sumC (97 + i) (pts0 ms) := sumC_perm (isort_perm _ _)
  have h3 : sumC (97 + i) (pts0 ms) = ms.getD i 0 := by
    unfold sumC pts0
    rw [List.filter_map, List.map_map]
    have h4 : (List.range' 0 ms.length).filter ((fun p : Nat × Nat => p.2 == 97 + i) ∘ fun j => (ms.getD j 0, 97 + j)) = [i] := by
      have h5 : (List.range' 0 ms.length).filter ((fun p : Nat × Nat => p.2 == 97 + i) ∘ fun j => (ms.getD j 0, 97 + j)) = (List.range' 0 ms.length).filter (fun j => j == i) := by
        refine List.filter_congr fun j _ => ?_
        show (97 + j == 97 + i) = (j == i)
        rw [Bool.eq_iff_iff, beq_iff_eq, beq_iff_eq]; omega
      rw [h5, List.filter_beq, (List.nodup_range' (step := 1)).count, if_pos (by rw [List.mem_range'_1]; omega)]; rfl
    rw [h4]; simp
  have h6 : sumC (97 + i) ([] : List (Nat × Nat)) = 0 := rfl
  omega
theorem countIn_one (c : Nat) (l : List Nat) : PySem.Spec.countIn (.str ⟨#[c]⟩) (l.map fun n => PyData.str ⟨#[n]⟩) = (l.count c : Nat) := by
  induction l with
  | nil => rfl
  | cons x l ih =>
    rw [List.map_cons, PySem.Spec.countIn, ih, PyProof.V.same_str, List.count_cons]
    by_cases h : x = c
    · subst h; simp; omega
    · have h2 : ¬ ((⟨#[x]⟩ : Str) = ⟨#[c]⟩) := fun e => h (by simpa using e)
      simp [h, h2]
theorem tie_count (c : Nat) (ts : List (Nat × Nat)) : Txt.count (Txt.join (PySem.Str.ofString "") (ts.map fun q => (⟨#[q.1, q.2]⟩ : Str))) ⟨#[c]⟩ = (cnt c ts : Nat) := by
  rw [count_is, join_nil, countIn_one, List.flatMap_map]
theorem abc_slice {k : Nat} (h : k ≤ 6) : (Txt.slice (PySem.Str.ofString "abcdef") none (some (k : Int))).cps.toList = List.range' 97 k := by
  match k, h with
  | 0, _ => decide +kernel
  | 1, _ => decide +kernel
  | 2, _ => decide +kernel
  | 3, _ => decide +kernel
  | 4, _ => decide +kernel
  | 5, _ => decide +kernel
  | 6, _ => decide +kernel
  | n + 7, h => omega
end Mine
end
section
open PySem PySem.W PyProof.Rows PySem.Calls PyProof.Rows.LCg
namespace Mine
abbrev Asc (h : Heap) (i : Addr) (x : Str) (t : Tok) (k : Nat) : Prop := h.IsStrIter i "str_ascii_iterator" x t k
theorem asc_at {h h' : Heap} {i : Addr} {x : Str} {t : Tok} {k : Nat} (a : Asc h i x t k) (e : ∀ o, h.get? i = some o → h'.get? i = some o) : Asc h' i x t k := by
  k_with_none
  obtain ⟨o, ho, r⟩ := a; exact ⟨o, e o ho, r⟩
structure ZtApart (z TI TO i1 i2 l2 : Addr) : Prop where
  TIz : TI ≠ z
  TOz : TO ≠ z
  i1z : i1 ≠ z
  i2z : i2 ≠ z
  TITO : TI ≠ TO
  TIi1 : TI ≠ i1
  TIi2 : TI ≠ i2
  TOi1 : TO ≠ i1
  TOi2 : TO ≠ i2
  i12 : i1 ≠ i2
  l2z : l2 ≠ z
  l2TO : l2 ≠ TO
  l2i1 : l2 ≠ i1
  l2i2 : l2 ≠ i2
section
variable {prog : Program} {w : World} {A : Around} {E : Value → Shared → Prop} {s : Shared}
theorem zt_item {z TI TO i1 i2 l2 : Addr} {k1 k2 c : Nat} {x : Str} {t : Tok} {ys : Array Value} {y a b : Value} {Q : Value → Shared → Prop} (D : ZtApart z TI TO i1 i2 l2)
    (hz : IsZip s.heap z TI TO .none) (hTI : IsPair s.heap TI (.ref i1) (.ref i2)) (hTO : IsPair s.heap TO a b)
    (h1 : Asc s.heap i1 x t k1) (h2 : s.heap.IsListIter i2 l2 k2) (hl2 : s.heap.IsList l2 ys) (hx : x.cps[k1]? = some c) (hy : ys[k2]? = some y)
    (hQ : ∀ h' tk u, IsZip h' z TI TO (rawInt s.heap.objs.size) → IsPair h' TO (.str ⟨#[c]⟩ u) y → Asc h' i1 x t (k1 + 1) → h'.IsListIter i2 l2 (k2 + 1) → IsPair h' s.heap.objs.size (.str ⟨#[c]⟩ u) y →
      (∀ c o, c ≠ z → c ≠ TO → c ≠ i1 → c ≠ i2 → s.heap.get? c = some o → h'.get? c = some o) → Q (.ref s.heap.objs.size) { s with heap := h', toks := tk }) :
    wpAny (model prog w) A (Builtin.«zip.__next__» ⟨[.ref z], []⟩) (fun fin s' => ∃ v, fin = .done (.ret v) ∧ Q v s') E s := by
  show wpAny _ _ (field (.ref z) 2 >>= _) _ _ _
  refine wpAny_bind (wpAny_field hz rfl (x := .bool false) rfl ?_)
  show wpAny _ _ (field (.ref z) 3 >>= _) _ _ _
  refine wpAny_bind (wpAny_field hz rfl (x := .ref TI) rfl ?_)
  refine wpAny_bind (wpAny_seqItems hTI rfl ?_)
  show wpAny _ _ (Builtin.SmallTypes.ownedTupleIsFree (.ref z) >>= _) _ _ _
  refine wpAny_bind ?_
  unfold Builtin.SmallTypes.ownedTupleIsFree
  refine wpAny_bind (wpAny_field hz rfl (x := .none) rfl (wpAny_pure ?_))
  simp only [if_true]
  refine wpAny_bind (wpAny_rule ?_)
  refine wpAny_bind (wpAny_field hz rfl (x := .ref TO) rfl ?_)
  refine wpAny_bind (wpAny_setField_rec hz (by simp) fun h₁ hz₁ hs₁ => ?_)
  replace hz₁ : IsZip h₁ z TI TO .ellipsis := hz₁
  refine wpAny_bind ?_
  simp only [List.zipIdx_cons, List.zipIdx_nil, List.forIn_cons, List.forIn_nil]
  refine wpAny_bind (wpAny_bind (wpAny_onRaise ?_))
  show wpAny _ _ (Builtin.SmallTypes.nextOf (.ref i1) >>= _) _ _ _
  refine wpAny_bind (wpAny_nextOf_ascii_item (asc_at h1 fun o e => hs₁.extBut _ _ D.i1z e) hx fun h₂ h1₂ hs₂ => wpAny_pure ?_)
  have hTO₂ : IsPair h₂ TO a b := hs₂.extBut _ _ D.TOi1 (hs₁.extBut _ _ D.TOz hTO)
  refine wpAny_bind (wpAny_seqItems hTO₂ rfl ?_)
  refine wpAny_bind (wpAny_updateSeq_pair hTO₂ fun h₃ hTO₃ hs₃ => ?_)
  replace hTO₃ : IsPair h₃ TO (.str ⟨#[c]⟩ s.toks) b := hTO₃
  refine wpAny_bind (wpAny_letGo (wpAny_pure ?_))
  refine wpAny_bind (wpAny_bind (wpAny_onRaise ?_))
  show wpAny _ _ (Builtin.SmallTypes.nextOf (.ref i2) >>= _) _ _ _
  refine wpAny_bind (wpAny_nextOf_list_item (((h2.extBut hs₁.extBut D.i2z).extBut hs₂.extBut D.i12.symm).extBut hs₃.extBut D.TOi2.symm)
    (((hl2.extBut hs₁.extBut D.l2z).extBut hs₂.extBut D.l2i1).extBut hs₃.extBut D.l2TO) hy fun h₄ h2₄ hs₄ => wpAny_pure ?_)
  have hTO₄ : IsPair h₄ TO (.str ⟨#[c]⟩ s.toks) b := hs₄.extBut _ _ D.TOi2 hTO₃
  refine wpAny_bind (wpAny_seqItems hTO₄ rfl ?_)
  refine wpAny_bind (wpAny_updateSeq_pair hTO₄ fun h₅ hTO₅ hs₅ => ?_)
  replace hTO₅ : IsPair h₅ TO (.str ⟨#[c]⟩ s.toks) y := hTO₅
  refine wpAny_bind (wpAny_letGo (wpAny_pure (wpAny_pure ?_)))
  refine wpAny_bind (wpAny_seqItems hTO₅ rfl ?_)
  refine wpAny_bind (wpAny_newTuple ?_)
  have hsz : h₅.objs.size = s.heap.objs.size := by rw [hs₅.1, hs₄.1, hs₃.1, hs₂.1, hs₁.1]
  have hz₅ : IsZip h₅ z TI TO .ellipsis := hs₅.extBut _ _ D.TOz.symm (hs₄.extBut _ _ D.i2z.symm (hs₃.extBut _ _ D.TOz.symm (hs₂.extBut _ _ D.i1z.symm hz₁)))
  have hk₅ : ∀ c o, c ≠ z → c ≠ TO → c ≠ i1 → c ≠ i2 → s.heap.get? c = some o → h₅.get? c = some o := fun c o c1 c2 c3 c4 e =>
    hs₅.extBut _ _ c2 (hs₄.extBut _ _ c4 (hs₃.extBut _ _ c2 (hs₂.extBut _ _ c3 (hs₁.extBut _ _ c1 e))))
  have h1₅ : Asc h₅ i1 x t (k1 + 1) := asc_at h1₂ fun o e => hs₅.extBut _ _ D.TOi1.symm (hs₄.extBut _ _ D.i12 (hs₃.extBut _ _ D.TOi1.symm e))
  have h2₅ : h₅.IsListIter i2 l2 (k2 + 1) := h2₄.extBut hs₅.extBut D.TOi2.symm
  have hzlt : z < h₅.objs.size := Heap.lt_size hz₅
  have hTOlt : TO < h₅.objs.size := Heap.lt_size hTO₅
  show wpAny _ _ (Builtin.SmallTypes.ownedTupleHandOut (.ref z) (.ref h₅.objs.size) >>= _) _ _ _
  refine wpAny_bind ?_
  unfold Builtin.SmallTypes.ownedTupleHandOut
  have hz₆ : IsZip (h₅.push { cls := .type "tuple", data := .seq #[.str ⟨#[c]⟩ s.toks, y] }) z TI TO .ellipsis := Heap.get?_push_of_some _ hz₅
  refine wpAny_bind (wpAny_setField_rec hz₆ (by simp) fun h₇ hz₇ hs₇ => ?_)
  replace hz₇ : IsZip h₇ z TI TO (rawInt h₅.objs.size) := hz₇
  refine wpAny_setField_rec hz₇ (by simp) fun h₈ hz₈ hs₈ => ?_
  replace hz₈ : IsZip h₈ z TI TO (rawInt h₅.objs.size) := hz₈
  have up : ∀ c o, c ≠ z → h₅.get? c = some o → h₈.get? c = some o := fun c o c1 e => hs₈.extBut _ _ c1 (hs₇.extBut _ _ c1 (Heap.get?_push_of_some _ e))
  have hT₈ : IsPair h₈ h₅.objs.size (.str ⟨#[c]⟩ s.toks) y := hs₈.extBut _ _ (Nat.ne_of_gt hzlt) (hs₇.extBut _ _ (Nat.ne_of_gt hzlt) (Heap.get?_push_size _ rfl))
  rw [hsz] at hz₈ hT₈
  refine wpAny_pure ⟨_, rfl, ?_⟩
  show Q (.ref h₅.objs.size) _
  rw [hsz]
  exact hQ h₈ _ _ hz₈ (up _ _ D.TOz hTO₅) (asc_at h1₅ fun o e => up _ o D.i1z e) (h2₅.at fun o e => up _ o D.i2z e) hT₈ fun c o c1 c2 c3 c4 e => up c o c1 (hk₅ c o c1 c2 c3 c4 e)
theorem zt_end {z TI TO i1 i2 l2 : Addr} {k1 k2 : Nat} {x : Str} {t : Tok} {ys : Array Value} {a b : Value} {Q : Fin → Shared → Prop} (hh : A.handled = none) (D : ZtApart z TI TO i1 i2 l2)
    (hz : IsZip s.heap z TI TO .none) (hTI : IsPair s.heap TI (.ref i1) (.ref i2)) (hTO : IsPair s.heap TO a b)
    (h1 : Asc s.heap i1 x t k1) (h2 : s.heap.IsListIter i2 l2 k2) (hl2 : s.heap.IsList l2 ys) (hend : x.cps[k1]? = none ∨ ys[k2]? = none)
    (hE : ∀ h' tk e, (∀ c o, c ≠ z → c ≠ TO → c ≠ i1 → c ≠ i2 → s.heap.get? c = some o → h'.get? c = some o) → (∃ o, h'.get? e = some o ∧ o.cls = .type "StopIteration") → E (.ref e) { s with heap := h', toks := tk }) :
    wpAny (model prog w) A (Builtin.«zip.__next__» ⟨[.ref z], []⟩) Q E s := by
  show wpAny _ _ (field (.ref z) 2 >>= _) _ _ _
  refine wpAny_bind (wpAny_field hz rfl (x := .bool false) rfl ?_)
  show wpAny _ _ (field (.ref z) 3 >>= _) _ _ _
  refine wpAny_bind (wpAny_field hz rfl (x := .ref TI) rfl ?_)
  refine wpAny_bind (wpAny_seqItems hTI rfl ?_)
  show wpAny _ _ (Builtin.SmallTypes.ownedTupleIsFree (.ref z) >>= _) _ _ _
  refine wpAny_bind ?_
  unfold Builtin.SmallTypes.ownedTupleIsFree
  refine wpAny_bind (wpAny_field hz rfl (x := .none) rfl (wpAny_pure ?_))
  simp only [if_true]
  refine wpAny_bind (wpAny_rule ?_)
  refine wpAny_bind (wpAny_field hz rfl (x := .ref TO) rfl ?_)
  refine wpAny_bind (wpAny_setField_rec hz (by simp) fun h₁ hz₁ hs₁ => ?_)
  replace hz₁ : IsZip h₁ z TI TO .ellipsis := hz₁
  refine wpAny_bind ?_
  simp only [List.zipIdx_cons, List.zipIdx_nil, List.forIn_cons, List.forIn_nil]
  refine wpAny_bind (wpAny_bind (wpAny_onRaise ?_))
  show wpAny _ _ (Builtin.SmallTypes.nextOf (.ref i1) >>= _) _ _ _
  cases hx : x.cps[k1]? with
  | none =>
    refine wpAny_bind (wpAny_nextOf_ascii_end hh (asc_at h1 fun o e => hs₁.extBut _ _ D.i1z e) hx fun h₂ e hs₂ he => ?_)
    obtain ⟨oe, hoe, hce⟩ := he
    have hz₂ : IsZip h₂ z TI TO .ellipsis := hs₂ _ _ D.i1z.symm hz₁
    have hez : e ≠ z := fun x => by subst x; rw [hz₂] at hoe; cases hoe; simp at hce
    refine wpAny_setField_rec hz₂ (by simp) fun h₃ _ hs₃ => hE h₃ _ e (fun c o c1 _ c3 _ x => hs₃.extBut _ _ c1 (hs₂ _ _ c3 (hs₁.extBut _ _ c1 x))) ⟨oe, hs₃.extBut _ _ hez hoe, hce⟩
  | some c =>
    have hy : ys[k2]? = none := by rcases hend with h | h; rw [hx] at h; cases h; exact h
    refine wpAny_bind (wpAny_nextOf_ascii_item (asc_at h1 fun o e => hs₁.extBut _ _ D.i1z e) hx fun h₂ h1₂ hs₂ => wpAny_pure ?_)
    have hTO₂ : IsPair h₂ TO a b := hs₂.extBut _ _ D.TOi1 (hs₁.extBut _ _ D.TOz hTO)
    refine wpAny_bind (wpAny_seqItems hTO₂ rfl ?_)
    refine wpAny_bind (wpAny_updateSeq_pair hTO₂ fun h₃ hTO₃ hs₃ => ?_)
    refine wpAny_bind (wpAny_letGo (wpAny_pure ?_))
    refine wpAny_bind (wpAny_bind (wpAny_onRaise ?_))
    show wpAny _ _ (Builtin.SmallTypes.nextOf (.ref i2) >>= _) _ _ _
    refine wpAny_bind (wpAny_nextOf_list_end hh (((h2.extBut hs₁.extBut D.i2z).extBut hs₂.extBut D.i12.symm).extBut hs₃.extBut D.TOi2.symm)
      (((hl2.extBut hs₁.extBut D.l2z).extBut hs₂.extBut D.l2i1).extBut hs₃.extBut D.l2TO) hy fun h₄ e hs₄ he => ?_)
    obtain ⟨oe, hoe, hce⟩ := he
    have hz₄ : IsZip h₄ z TI TO .ellipsis := hs₄ _ _ D.i2z.symm (hs₃.extBut _ _ D.TOz.symm (hs₂.extBut _ _ D.i1z.symm hz₁))
    have hez : e ≠ z := fun x => by subst x; rw [hz₄] at hoe; cases hoe; simp at hce
    refine wpAny_setField_rec hz₄ (by simp) fun h₅ _ hs₅ => hE h₅ _ e (fun c o c1 c2 c3 c4 x => hs₅.extBut _ _ c1 (hs₄ _ _ c4 (hs₃.extBut _ _ c2 (hs₂.extBut _ _ c3 (hs₁.extBut _ _ c1 x))))) ⟨oe, hs₅.extBut _ _ hez hoe, hce⟩
theorem zt_walks (hh : A.handled = none) (z TI TO i1 i2 l2 : Addr) (D : ZtApart z TI TO i1 i2 l2) (x : Str) (t : Tok) (ys : Array Value) :
    WalksT prog w A z [z, TI, TO, i1, i2, l2] [z, TO, i1, i2] (min x.cps.size ys.size)
      (fun i vals => ∃ c u y, x.cps[i]? = some c ∧ ys[i]? = some y ∧ vals = #[.str ⟨#[c]⟩ u, y])
      (fun i h => IsZip h z TI TO .none ∧ IsPair h TI (.ref i1) (.ref i2) ∧ (∃ a b, IsPair h TO a b) ∧ Asc h i1 x t i ∧ h.IsListIter i2 l2 i ∧ h.IsList l2 ys)
      (fun i T h => IsZip h z TI TO (rawInt T) ∧ IsPair h TI (.ref i1) (.ref i2) ∧ (∃ a b, IsPair h TO a b) ∧ Asc h i1 x t (i + 1) ∧ h.IsListIter i2 l2 (i + 1) ∧ h.IsList l2 ys ∧
        T ≠ z ∧ T ≠ TO ∧ T ≠ i1 ∧ T ≠ i2) where
  sub := fun c hc => by simp at hc ⊢; rcases hc with rfl | rfl | rfl | rfl <;> simp
  frame := fun i h h' hst hk => by
    obtain ⟨hz, hTI, ⟨a, b, hTO⟩, h1, h2, hl2⟩ := hst
    exact ⟨hk z (by simp) _ hz, hk TI (by simp) _ hTI, ⟨a, b, hk TO (by simp) _ hTO⟩, asc_at h1 fun o e => hk i1 (by simp) o e, h2.at fun o e => hk i2 (by simp) o e,
      hl2.at fun o e => hk l2 (by simp) o e⟩
  item := fun i s Q E hi hst hQ => by
    obtain ⟨hz, hTI, ⟨a, b, hTO⟩, h1, h2, hl2⟩ := hst
    have hix : i < x.cps.size := Nat.lt_of_lt_of_le hi (Nat.min_le_left ..)
    have hiy : i < ys.size := Nat.lt_of_lt_of_le hi (Nat.min_le_right ..)
    have lt : ∀ {c o}, s.heap.get? c = some o → s.heap.objs.size ≠ c := fun e => Nat.ne_of_gt (Heap.lt_size e)
    have hT : s.TypeIs (.ref z) "zip" := ⟨_, hz, rfl⟩
    unfold pyNext
    refine wpAny_bind (wpAny_attempt (wpAny_callSpecial?_slot (name := Str.ofString "__next__") hT F.slot_zip_next
      (wpAny_call_entry F.slot_zip_next hT F.entry_zip_next
        (zt_item D hz hTI hTO h1 h2 hl2 (Array.getElem?_eq_getElem hix) (Array.getElem?_eq_getElem hiy) fun h' tk u a1 a2 a3 a4 a5 hk => wpAny_pure ?_) (F.args_zip_next_1 _))))
    exact hQ s.heap.objs.size #[.str ⟨#[x.cps[i]]⟩ u, ys[i]] h' tk ⟨_, u, _, Array.getElem?_eq_getElem hix, Array.getElem?_eq_getElem hiy, rfl⟩ (Nat.le_refl _) ⟨_, a5, rfl, _, rfl⟩
      ⟨a1, hk _ _ D.TIz D.TITO D.TIi1 D.TIi2 hTI, ⟨_, _, a2⟩, a3, a4, hl2.at fun o e => hk _ o D.l2z D.l2TO D.l2i1 D.l2i2 e,
        lt hz, lt hTO, (by obtain ⟨_, e, _⟩ := h1; exact lt e), (by obtain ⟨_, e, _⟩ := h2; exact lt e)⟩
      fun c o hc e => hk c o (fun x => hc (by simp [x])) (fun x => hc (by simp [x])) (fun x => hc (by simp [x])) (fun x => hc (by simp [x])) e
  go := fun elts k pos i T s Q E hm hQ => by
    obtain ⟨hz, hTI, ⟨a, b, hTO⟩, h1, h2, hl2, _⟩ := hm
    refine wpAny_letOwnedTupleGo_zip hz fun h' hz' hs' => hQ h' ⟨hz', hs'.extBut _ _ D.TIz hTI, ⟨a, b, hs'.extBut _ _ D.TOz hTO⟩, asc_at h1 fun o e => hs'.extBut _ _ D.i1z e, h2.extBut hs'.extBut D.i2z,
      hl2.extBut hs'.extBut D.l2z⟩ fun c o hc e => hs'.extBut _ _ (fun x => hc (by simp [x])) e
  apart := fun i T h hm hT => by
    obtain ⟨_, _, _, _, _, _, t1, t2, t3, t4⟩ := hm
    simp at hT
    rcases hT with rfl | rfl | rfl | rfl
    · exact t1 rfl
    · exact t2 rfl
    · exact t3 rfl
    · exact t4 rfl
  done := fun s Q E hst hQ => by
    obtain ⟨hz, hTI, ⟨a, b, hTO⟩, h1, h2, hl2⟩ := hst
    have hend : x.cps[min x.cps.size ys.size]? = none ∨ ys[min x.cps.size ys.size]? = none := by
      rcases Nat.le_total x.cps.size ys.size with h | h
      · exact .inl (by rw [Nat.min_eq_left h]; exact Array.getElem?_eq_none (Nat.le_refl _))
      · exact .inr (by rw [Nat.min_eq_right h]; exact Array.getElem?_eq_none (Nat.le_refl _))
    have hT : s.TypeIs (.ref z) "zip" := ⟨_, hz, rfl⟩
    unfold pyNext
    refine wpAny_bind (wpAny_attempt (wpAny_callSpecial?_slot (name := Str.ofString "__next__") hT F.slot_zip_next
      (wpAny_call_entry F.slot_zip_next hT F.entry_zip_next (zt_end hh D hz hTI hTO h1 h2 hl2 hend fun h' tk e hk he => ?_) (F.args_zip_next_1 _))))
    obtain ⟨o, ho, hc⟩ := he
    refine wpAny_bind (wpAny_isInstance (T := "StopIteration") (b := true) ⟨o, ho, hc⟩ isSubtype_stop ?_)
    exact wpAny_pure (hQ h' tk fun c o hc e =>
      hk c o (fun x => hc (by simp [x])) (fun x => hc (by simp [x])) (fun x => hc (by simp [x])) (fun x => hc (by simp [x])) e)
  self := fun i s Q E hst hQ => wpAny_pyIter_zip hst.1 hQ
end
abbrev ztH1 (h : Heap) (x : Str) (t : Tok) : Heap := h.push { cls := .type "str_ascii_iterator", data := .fields #[.str x t, .int 0 0] }
abbrev ztH2 (h : Heap) (x : Str) (t : Tok) (l2 : Addr) : Heap := (ztH1 h x t).push { cls := .type "list_iterator", data := .fields #[.ref l2, .int 0 0] }
abbrev ztH3 (h : Heap) (x : Str) (t : Tok) (l2 : Addr) : Heap := (ztH2 h x t l2).push { cls := .type "tuple", data := .seq #[.ref h.objs.size, .ref (ztH1 h x t).objs.size] }
abbrev ztH4 (h : Heap) (x : Str) (t : Tok) (l2 : Addr) : Heap := (ztH3 h x t l2).push { cls := .type "tuple", data := .seq #[.none, .none] }
abbrev ztH5 (h : Heap) (x : Str) (t : Tok) (l2 : Addr) : Heap := (ztH4 h x t l2).push { cls := .type "zip", data := .fields #[.none, .bool false, .bool false, .ref (ztH2 h x t l2).objs.size, .ref (ztH3 h x t l2).objs.size] }
set_option maxHeartbeats 2000000 in
theorem meets_zt (x : Str) (t : Tok) (l2 : Addr) (ys : Array Value) (ha : x.cps.all (· < 128) = true) :
    Meets (Builtin.«zip.__new__» ⟨[.type "zip", .str x t, .ref l2], []⟩) (fun _ R s => s.heap.IsList l2 ys ∧
      R (.ok (.ret (.ref (ztH4 s.heap x t l2).objs.size))) { s with heap := ztH5 s.heap x t l2 }) :=
  .of_wp fun prog w A R s h => by
    obtain ⟨hp, g, d, tk, os⟩ := s; obtain ⟨hl2, h⟩ := h
    have hsub := sub_zip
    have hL2 : Heap.IsList (Shared.heap ⟨hp.push { cls := .type "str_ascii_iterator", data := .fields #[.str x t, .int 0 0] }, g, d, tk, os⟩) l2 ys := Heap.IsList.push hl2 _
    wp_walk using wpAny_pyIter_ascii ha, wpAny_pyIter_list hL2
    exact ⟨_, rfl, h⟩
section
variable {prog : Program} {w : World} {A : Around} {E : Value → Shared → Prop} {s : Shared}
theorem call_zt {x : Str} {t : Tok} {l2 : Addr} {ys : Array Value} {Q : Value → Shared → Prop} (ha : x.cps.all (· < 128) = true) (hl2 : s.heap.IsList l2 ys)
    (h : ∀ h', IsZip h' (s.heap.objs.size + 4) (s.heap.objs.size + 2) (s.heap.objs.size + 3) .none → IsPair h' (s.heap.objs.size + 2) (.ref s.heap.objs.size) (.ref (s.heap.objs.size + 1)) →
      IsPair h' (s.heap.objs.size + 3) .none .none → Asc h' s.heap.objs.size x t 0 → h'.IsListIter (s.heap.objs.size + 1) l2 0 → h'.objs.size = s.heap.objs.size + 5 →
      (∀ c o, s.heap.get? c = some o → h'.get? c = some o) → Q (.ref (s.heap.objs.size + 4)) { s with heap := h' }) :
    wpAny (model prog w) A (call (.type "zip") [.str x t, .ref l2]) Q E s := by
  refine callType_new F.called_zip (by decide) (F.typeCall_zip_2 _ _) (F.newCall_zip_2 _ _) (fun obj => F.args_object_init_3 obj _ _) F.entry_zip_new
    (meets_zt x t l2 ys ha) ⟨hl2, ?_⟩
  have z1 : (ztH1 s.heap x t).objs.size = s.heap.objs.size + 1 := Heap.size_push ..
  have z2 : (ztH2 s.heap x t l2).objs.size = s.heap.objs.size + 2 := by rw [Heap.size_push, z1]
  have z3 : (ztH3 s.heap x t l2).objs.size = s.heap.objs.size + 3 := by rw [Heap.size_push, z2]
  have z4 : (ztH4 s.heap x t l2).objs.size = s.heap.objs.size + 4 := by rw [Heap.size_push, z3]
  have z5 : (ztH5 s.heap x t l2).objs.size = s.heap.objs.size + 5 := by rw [Heap.size_push, z4]
  have g5 : (ztH5 s.heap x t l2).get? (ztH4 s.heap x t l2).objs.size = some _ := Heap.get?_push_size _ rfl
  have g4 : (ztH5 s.heap x t l2).get? (ztH3 s.heap x t l2).objs.size = some _ := Heap.get?_push_of_some _ (Heap.get?_push_size _ rfl)
  have g3 : (ztH5 s.heap x t l2).get? (ztH2 s.heap x t l2).objs.size = some _ := Heap.get?_push_of_some _ (Heap.get?_push_of_some _ (Heap.get?_push_size _ rfl))
  have g2 : (ztH5 s.heap x t l2).get? (ztH1 s.heap x t).objs.size = some _ := Heap.get?_push_of_some _ (Heap.get?_push_of_some _ (Heap.get?_push_of_some _ (Heap.get?_push_size _ rfl)))
  have g1 : (ztH5 s.heap x t l2).get? s.heap.objs.size = some _ := Heap.get?_push_of_some _ (Heap.get?_push_of_some _ (Heap.get?_push_of_some _ (Heap.get?_push_of_some _ (Heap.get?_push_size _ rfl))))
  show _ ∧ _
  rw [z2, z3, z4] at g5
  rw [z1, z2] at g3
  rw [z3] at g4
  rw [z1] at g2
  rw [z4]
  exact ⟨⟨_, g5, rfl⟩, h _ g5 g3 g4 ⟨_, g1, rfl, rfl⟩ ⟨_, g2, rfl, rfl⟩ z5 fun c o x =>
    Heap.get?_push_of_some _ (Heap.get?_push_of_some _ (Heap.get?_push_of_some _ (Heap.get?_push_of_some _ (Heap.get?_push_of_some _ x))))⟩
theorem zt_apart (I l2 : Nat) (h2 : l2 < I) : ZtApart (I + 4) (I + 2) (I + 3) I (I + 1) l2 := by
  constructor <;> (first | omega | exact ktu_ne _ h2 | exact Nat.ne_of_lt h2 | (intro e; have e : (_ : Nat) = (_ : Nat) := e; omega))
variable {h₀ : Heap} {L : Addr} {m : Str → Option Value} {news : Fa}
theorem it_zip {x : Str} {t : Tok} {l : Addr} {vs : List Value} {nn : Nat} {K : Value → Shared → Prop} (hh : A.handled = none) (F : Fr h₀ L s.heap m) (N : News h₀ L s.heap news) (ha : x.cps.all (· < 128) = true) (hl : (l, W.listOf vs.toArray nn) ∈ news)
    (k : ∀ I h Md St, (∀ p ∈ news, p.1 < I) → Fr h₀ L h m → News h₀ L h news → (∀ elts kk tp, GSrc prog w A (.Tuple elts kk tp) h₀ L { s with heap := h } (I + 4) [I + 4, I + 2, I + 3, I, I + 1, l] [I + 4, I + 3, I, I + 1] (min x.cps.size vs.length) (fun i v h => ∃ T vals, v = .ref T ∧ (∃ c u y, x.cps[i]? = some c ∧ vs.toArray[i]? = some y ∧ vals = #[.str ⟨#[c]⟩ u, y]) ∧ h.IsTuple T vals) Md St [(l, W.listOf vs.toArray nn)]) → K (.ref (I + 4)) { s with heap := h }) :
    wpAny (model prog w) A (call (.type "zip") [.str x t, .ref l]) (fun xv s₁ => wpAny (model prog w) A (pyIter xv) K E s₁) E s := by
  have hls := News.isList N hl
  have hlt : l < s.heap.objs.size := Heap.lt_size (N _ hl).1
  refine call_zt ha hls fun h' hz hTI hTO h1 h2 hsz hk => ?_
  refine wpAny_pyIter_zip hz ?_
  have W0 := zt_walks (prog := prog) (w := w) hh _ _ _ _ _ l (zt_apart s.heap.objs.size l hlt) x t vs.toArray
  rw [show vs.toArray.size = vs.length from List.size_toArray ..] at W0
  have hl' : h'.IsList l vs.toArray := hls.at fun o e => hk l o e
  refine k s.heap.objs.size h' _ _ (fun p hp => Heap.lt_size (N p hp).1) (F.keeps hk) (N.grown hk) fun elts kk tp => ⟨KTurns.ofWalksU (elts := elts) (k := kk) (pos := tp) W0.toU, ⟨hz, hTI, ⟨_, _, hTO⟩, h1, h2, hl'⟩, fun s' Q E old hQ => ?_, fun b hb => ?_, fun b hb => ?_, fun i h st b hb => ?_, fun p hp => ?_⟩
  · exact W0.self 0 s' Q E ⟨old _ _ hz, old _ _ hTI, ⟨_, _, old _ _ hTO⟩, asc_at h1 fun o e => old _ o e, h2.at fun o e => old _ o e, hl'.at fun o e => old _ o e⟩ hQ
  · have hL := F.ns.lt
    have : b < s.heap.objs.size + 5 ∧ b ≠ L := by
      simp only [List.mem_cons, List.not_mem_nil, or_false] at hb
      rcases hb with q | q | q | q | q | q
      · exact ⟨q ▸ Nat.add_lt_add_left (by omega) _, q ▸ Nat.ne_of_gt (Nat.lt_of_lt_of_le hL (Nat.le_add_right _ _))⟩
      · exact ⟨q ▸ Nat.add_lt_add_left (by omega) _, q ▸ Nat.ne_of_gt (Nat.lt_of_lt_of_le hL (Nat.le_add_right _ _))⟩
      · exact ⟨q ▸ Nat.add_lt_add_left (by omega) _, q ▸ Nat.ne_of_gt (Nat.lt_of_lt_of_le hL (Nat.le_add_right _ _))⟩
      · exact ⟨q ▸ Nat.lt_add_of_pos_right (by omega), q ▸ Nat.ne_of_gt hL⟩
      · exact ⟨q ▸ Nat.add_lt_add_left (by omega) _, q ▸ Nat.ne_of_gt (Nat.lt_of_lt_of_le hL (Nat.le_add_right _ _))⟩
      · exact ⟨q ▸ Nat.lt_of_lt_of_le hlt (Nat.le_add_right _ _), q ▸ (N _ hl).2.1⟩
    refine ⟨?_, this.2⟩
    show b < h'.objs.size
    rw [hsz]; exact this.1
  · simp only [List.mem_cons, List.not_mem_nil, or_false] at hb
    rcases hb with q | q | q | q
    · rw [q]; exact fr_new F (Nat.le_add_right _ _)
    · rw [q]; exact fr_new F (Nat.le_add_right _ _)
    · rw [q]; exact fr_new F (Nat.le_refl _)
    · rw [q]; exact fr_new F (Nat.le_add_right _ _)
  · obtain ⟨s1, s2, ⟨_, _, s3⟩, ⟨o4, s4, _⟩, ⟨o5, s5, _⟩, _⟩ := st
    simp only [List.mem_cons, List.not_mem_nil, or_false] at hb
    rcases hb with q | q | q | q
    · rw [q]; exact ⟨_, s1⟩
    · rw [q]; exact ⟨_, s3⟩
    · rw [q]; exact ⟨_, s4⟩
    · rw [q]; exact ⟨_, s5⟩
  · rw [List.mem_singleton.mp hp]
    refine ⟨by simp, fun q => ?_⟩
    simp only [List.mem_cons, List.not_mem_nil, or_false] at q
    rcases q with q | q | q | q
    · exact ktu_ne 4 hlt q
    · exact ktu_ne 3 hlt q
    · exact Nat.ne_of_lt hlt q
    · exact ktu_ne 1 hlt q
end
end Mine
end
section
open PySem PySem.W PyProof.Rows PySem.Calls PyProof.Rows.LCg
namespace Mine
abbrev tieV (ts : List (Nat × Nat)) : List Str := ts.map fun q => ⟨#[q.1, q.2]⟩
structure Ti where
  (rv : List Value) (rn : Nat) (r : List (Nat × Nat)) (tv : List Value) (tn : Nat) (ts : List (Nat × Nat)) (fv : List Value) (fn : Nat) (ps : List Value) (add : Fa) (mm : Str → Option Value)
abbrev tiN (rw tl fl : Addr) (R2 : Fa) (c : Ti) : Fa := (tl, W.listOf c.tv.toArray c.tn) :: (fl, W.listOf c.fv.toArray c.fn) :: (rw, W.listOf c.rv.toArray c.rn) :: (142, tabObj c.ps.toArray) :: (c.add ++ R2)
def toN (rw tl fl : Addr) (pk : Int) (tp : Tok) (nm : Nat) (tm : Tok) (mm : Str → Option Value) : Str → Option Value := fun z => if z = "row" then some (.ref rw) else if z = "ties" then some (.ref tl) else if z = "fair" then some (.ref fl) else if z = "picks" then some (.int pk tp) else if z = "name" then some (.str (pt 0 nm) tm) else mm z
theorem toN_of {rw tl fl : Addr} {pk : Int} {tp tm : Tok} {nm : Nat} {m' : Str → Option Value} (h1 : m' "row" = some (.ref rw)) (h2 : m' "ties" = some (.ref tl)) (h3 : m' "fair" = some (.ref fl)) (h4 : m' "picks" = some (.int pk tp)) (h5 : m' "name" = some (.str (pt 0 nm) tm)) : ∀ z, m' z = toN rw tl fl pk tp nm tm m' z := by
  k_with_none
  intro z
  unfold toN
  by_cases e1 : z = "row"
  · rw [if_pos e1, e1]; exact h1
  · rw [if_neg e1]
    by_cases e2 : z = "ties"
    · rw [if_pos e2, e2]; exact h2
    · rw [if_neg e2]
      by_cases e3 : z = "fair"
      · rw [if_pos e3, e3]; exact h3
      · rw [if_neg e3]
        by_cases e4 : z = "picks"
        · rw [if_pos e4, e4]; exact h4
        · rw [if_neg e4]
          by_cases e5 : z = "name"
          · rw [if_pos e5, e5]; exact h5
          · rw [if_neg e5]
def tiP (g r0 ts0 : List (Nat × Nat)) (nm : Nat) (cod : Fa) (rw tl fl lo : Addr) (f0 i : Nat) (c : Ti) : Prop :=
  StrsAre c.rv (pts c.r) ∧ innerT nm (g.take i) r0 ts0 = some (c.r, c.ts) ∧ StrsAre c.tv (tieV c.ts) ∧ (∀ v ∈ c.fv, v = Value.bool true) ∧ (c.fv.length ≤ f0 + i ∧ c.ts.length = ts0.length + i) ∧ TabOk lamQ (c.add ++ cod) c.ps ∧ (∀ p ∈ c.add, p.1 ≠ 142 ∧ p.1 ≠ tl ∧ p.1 ≠ fl ∧ p.1 ≠ rw ∧ @LT.lt Nat _ lo p.1) ∧ c.r.length = r0.length + i ∧ (∀ p ∈ c.r, p.1 ≤ 6 ∧ 96 < p.2 ∧ p.2 < 200) ∧ c.r.Pairwise fun a b => keyP a ≤ keyP b
theorem ti_in {a b c d p : Addr × Obj} {x o n : Fa} (h : p ∈ d :: a :: b :: c :: ((x ++ n) ++ o)) : p ∈ a :: b :: c :: d :: (x ++ n) ++ o := by
  simp only [List.mem_cons, List.mem_append, List.cons_append] at h ⊢; grind
theorem ti_in2 {l a b c d e p : Addr × Obj} {r : Fa} (h : p ∈ b :: a :: c :: d :: e :: r) : p ∈ a :: l :: b :: c :: d :: e :: r := by
  simp only [List.mem_cons] at h ⊢; grind
theorem ti_in3 {a b c d e p : Addr × Obj} {x r : Fa} (h : p ∈ a :: b :: c :: d :: e :: (x ++ r)) : p ∈ e :: (x ++ (a :: b :: c :: d :: r)) := by
  simp only [List.mem_cons, List.mem_append] at h ⊢; grind
theorem ti_in4 {a b c d e p : Addr × Obj} {x r : Fa} (h : p ∈ x ++ (a :: b :: c :: d :: r)) : p ∈ a :: b :: c :: d :: e :: (x ++ r) := by
  simp only [List.mem_cons, List.mem_append] at h ⊢; grind
theorem ti_in5 {a b c d e l p : Addr × Obj} {r : Fa} (h : p ∈ e :: a :: b :: c :: d :: r) : p ∈ a :: l :: b :: c :: d :: e :: r := by
  simp only [List.mem_cons] at h ⊢; grind
theorem ti_in6 {a b c d e p : Addr × Obj} {x r : Fa} (h : p ∈ d :: a :: b :: c :: e :: (x ++ r)) : p ∈ e :: (x ++ (a :: b :: c :: d :: r)) := by
  simp only [List.mem_cons, List.mem_append] at h ⊢; grind
theorem ti_in7 {a b c d e p : Addr × Obj} {x r : Fa} (h : p ∈ x ++ (a :: b :: c :: d :: r)) : p ∈ d :: a :: b :: c :: e :: (x ++ r) := by
  simp only [List.mem_cons, List.mem_append] at h ⊢; grind
theorem ti_in8 {a b c d e p : Addr × Obj} {r : Fa} (h : p ∈ c :: a :: b :: e :: r) : p ∈ a :: d :: b :: c :: e :: r := by
  simp only [List.mem_cons] at h ⊢; grind
theorem pt_ne {j d : Nat} (h : j ≠ 0) : pt (j - 1) d ≠ pt j d := by
  intro e
  have := congrArg PySem.Str.length e
  rw [pt_length, pt_length] at this
  omega
set_option maxRecDepth 100000 in
set_option maxHeartbeats 8000000 in
theorem ties_inner {w : World} {dp un : Nat} {gd : Option (List Code)} {outer : List Env} {A₀ : Around} {base h₀ : Heap} {L : Addr} {m₀ : Str → Option Value} {s : Shared} {Q : Flow → Shared → Prop} {E : Value → Shared → Prop} {p : Program} {loose : List Str} {mean : ExcName → Option Value} {mg mb : Str → Option Value}
  {G rw tl fl : Addr} {nm gn f0 : Nat} {tm tp : Tok} {pk : Int} {gv : List Value} {g r0 ts0 : List (Nat × Nat)} {cod R2 : Fa} {c₀ : Ti}
  (B : Below A₀ base outer h₀) (F : Fr h₀ L s.heap m₀) (X : (hd.heap_1 w.params).In h₀) (N : News h₀ L s.heap ((G, W.listOf gv.toArray gn) :: tiN rw tl fl R2 c₀)) (T : Top p loose mean mg mb h₀)
  (hC : CodeHd h₀ 144 142) (e1 : m₀ "row" = some (.ref rw)) (e2 : m₀ "ties" = some (.ref tl)) (e3 : m₀ "fair" = some (.ref fl)) (e4 : m₀ "picks" = some (.int pk tp)) (e5 : m₀ "name" = some (.str (pt 0 nm) tm))
  (hG : StrsAre gv (pts g)) (hg : ∀ p ∈ g, p.1 ≤ 6 ∧ 96 < p.2 ∧ p.2 < 200) (hgl : g.length ≤ 6) (hf0 : f0 ≤ 200) (hr0 : r0.length ≤ 6) (ht0 : ts0.length ≤ 100) (hcod : ∀ p ∈ cod, p ∈ R2)
  (hR2 : ∀ p ∈ R2, p.1 ≠ 142 ∧ p.1 ≠ tl ∧ p.1 ≠ fl ∧ p.1 ≠ rw ∧ p.1 ≠ G) (hd1 : fl ≠ tl) (hd2 : fl ≠ 142) (hd3 : tl ≠ 142) (hd4 : rw ≠ 142) (hd5 : rw ≠ tl) (hd6 : rw ≠ fl) (hg1 : G ≠ 142) (hg2 : G ≠ tl) (hg3 : G ≠ fl) (hg4 : G ≠ rw) (hadd : ∀ p ∈ c₀.add, p.1 ≠ G)
  (hP : tiP g r0 ts0 nm cod rw tl fl G f0 0 c₀) (hd : dp + 8 < recursionLimit) (hu : un + 200 < cLine)
  (hN : innerT nm g r0 ts0 = none → ∀ (T : Addr) (fv : List Value) (fn : Nat) (ps : List Value) (h' : Heap) (tk' : Nat) (m' : Str → Option Value), Fr h₀ L h' m' → News h₀ L h' ((T, tupO [.none, .ref fl]) :: (fl, W.listOf fv.toArray fn) :: (142, tabObj ps.toArray) :: R2) → (∀ v ∈ fv, v = Value.bool true) → fv.length ≤ 300 → @LT.lt Nat _ fl T → Q (.ret (.ref T)) { s with heap := h', toks := tk' })
  (hS : ∀ (c : Ti) (u : Option Value) (h' : Heap) (tk' : Nat), tiP g r0 ts0 nm cod rw tl fl G f0 g.length c → Fr h₀ L h' (fun y => if y = PySem.Str.ofString "point" then u else toN rw tl fl pk tp nm tm c.mm y) → News h₀ L h' (tiN rw tl fl R2 c) → Q .next { s with heap := h', toks := tk' }) :
  wpAny (model PySem.Challenge.rw_rs0180_01.row.prog w) (ktrTop dp un gd (PySem.Str.ofString "_law_ties") tiesS L 145 (.ref 144) [] outer) (pyIter (.ref G)) (fun it s₂ => LoopAtV PySem.Challenge.rw_rs0180_01.row.prog w (ktrTop dp un gd (PySem.Str.ofString "_law_ties") tiesS L 145 (.ref 144) [] outer) h₀ (envX (PySem.Str.ofString "_law_ties") tiesS L 145 (.ref 144) []) (PySem.Str.ofString "point") tieB Q E it s₂) E s := by
  k_with_none
  k_with "eval ListComp" => (k_here; k_dflt (refine' gc_eval ?gA ?gB ?gC ?gD ?_ ?gE; (case gA => rfl); (case gB => with_unfolding_all rfl); (case gC => rfl); (case gD => decide); (case gE => intro _; rfl)))
  k_with "exec Assign cons ListComp" => (k_here; (first | k_dflt (refine' gc_assign ?gY ?gA ?gS ?gB ?gC ?gD ?_ ?gE; (case gY => rfl); (case gA => rfl); (case gS => with_unfolding_all rfl); (case gB => with_unfolding_all rfl); (case gC => rfl); (case gD => decide); (case gE => intro _; rfl)) | k_dflt (refine' wpAny_Assign_Name ?_ ?gS; (case gS => with_unfolding_all rfl))))
  k_with "pyIter ref" => (with_reducible refine stop_ ?_)
  k_with "call type:enumerate" => (with_reducible refine stop_ ?_)
  k_with "call builtin:sorted" => (with_reducible refine stop_ ?_)
  k_with "compareOp Eq ref ref" => (with_reducible refine stop_ ?_)
  k_with "call ref" => (with_reducible refine stop_ ?_)
  k_with "mem" => ((repeat (first | with_reducible assumption | refine List.mem_cons_of_mem _ ?_)); done)
  k_with "compareOp Eq str str" => (with_reducible refine stop_ ?_)
  k_with "call builtin:list.append" => (with_reducible refine stop_ ?_)
  k_with "binaryOp Add ref ref" => (with_reducible refine stop_ ?_)
  k_with "binaryOp Add str str" => (with_reducible refine stop_ ?_)
  k_with "eval Lambda" => (with_reducible refine stop_ ?_)
  k_with "subscriptTail Name UnaryOp str int" => (with_reducible refine stop_ ?_)
  k_with "eval Name" => (k_here; k_dflt (first | (refine' nameX_L ?F ?v ?_ ?a ?b; (case F => k_asm); (case a => rfl); (case b => rfl); (case v => rfl); k_whole) | (refine' nameX_K ?F ?X ?T ?e ?_ ?a ?b; (case F => k_asm); (case X => k_asm); (case T => k_asm); (case a => rfl); (case b => rfl); (case e => k_is); k_whole) | (refine' nameX_B ?F ?X ?T ?e ?v ?n ?_ ?a ?b; (case F => k_asm); (case X => k_asm); (case T => k_asm); (case a => rfl); (case b => rfl); (case e => k_is); (case v => boot_fast); (case n => decide); k_whole)))
  generalize hb : tieB = b
  conv at hb => lhs; whnf
  subst hb
  generalize hb : tiesS = b
  conv at hb => lhs; whnf
  subst hb
  revert X; k_fill; intro X
  have hgvl : gv.length = g.length := by rw [StrsAre.length hG, List.length_map]
  refine' for_list (σ := Ti) (l := G) (vs := gv) (fun _ c => toN rw tl fl pk tp nm tm c.mm) (tiN rw tl fl R2) (tiP g r0 ts0 nm cod rw tl fl G f0) { c₀ with mm := m₀ } ?hh F N (.head _) ?hn ?hne ?he ?hp ?ht ?hd
  case hh => rfl
  case hn => exact fun p hp => .tail _ hp
  case hne =>
    intro p hp
    rcases List.mem_cons.mp hp with q | q
    · rw [q]; exact hg2.symm
    rcases List.mem_cons.mp q with q | q
    · rw [q]; exact hg3.symm
    rcases List.mem_cons.mp q with q | q
    · rw [q]; exact hg4.symm
    rcases List.mem_cons.mp q with q | q
    · rw [q]; exact hg1.symm
    rcases List.mem_append.mp q with q | q
    · exact hadd p q
    · exact (hR2 p q).2.2.2.2
  case he => exact fun z _ => toN_of e1 e2 e3 e4 e5 z
  case hp => exact hP
  case hd =>
    intro c u h' tk' hPc F' N'
    rw [hgvl] at hPc
    exact hS c u h' tk' hPc F' (newsSub N' fun p hp => List.mem_append_left _ hp)
  case ht =>
    rintro I i v ⟨rv, rn, r, tv, tn, ts, fv, fn, qs, add, mm⟩ h4 tk4 own hv ⟨p1, p2, p3, p4, ⟨p5, p5t⟩, p6, p7, p8, p9, p10⟩ hoff hown hGo hIo F4 N4
    obtain ⟨x, tx, rfl, hx⟩ := StrsAre.item hG i v hv
    obtain ⟨⟨j, d⟩, hjd, rfl⟩ : ∃ q : Nat × Nat, g[i]? = some q ∧ pt q.1 q.2 = x := by
      rw [pts, List.getElem?_map] at hx
      exact Option.map_eq_some_iff.mp hx
    have hig : i < g.length := (List.getElem?_eq_some_iff.mp hjd).1
    have hj := hg _ (List.mem_of_getElem? hjd)
    dsimp only at p1 p2 p3 p4 p5 p5t p6 p7 p8 p9 p10 hj
    try dsimp only at hoff
    try dsimp only at N4
    try dsimp only [toN] at F4
    obtain ⟨oI, hIo⟩ := hIo
    have N5 : News h₀ L h4 ((142, tabObj qs.toArray) :: (tl, W.listOf tv.toArray tn) :: (fl, W.listOf fv.toArray fn) :: (rw, W.listOf rv.toArray rn) :: ((add ++ R2) ++ own)) := newsSub N4 fun p hp => ti_in hp
    have hR3 : ∀ p ∈ (add ++ R2) ++ own, p.1 ≠ 142 ∧ p.1 ≠ tl ∧ p.1 ≠ fl ∧ p.1 ≠ rw := fun p hp => by
      rcases List.mem_append.mp hp with q | q
      · rcases List.mem_append.mp q with q | q
        · exact ⟨(p7 p q).1, (p7 p q).2.1, (p7 p q).2.2.1, (p7 p q).2.2.2.1⟩
        · exact ⟨(hR2 p q).1, (hR2 p q).2.1, (hR2 p q).2.2.1, (hR2 p q).2.2.2.1⟩
      · have e := hown p q
        exact ⟨fun e2 => hoff (142, tabObj qs.toArray) (.tail _ (.tail _ (.tail _ (.head _)))) (e2 ▸ e), fun e2 => hoff (tl, W.listOf tv.toArray tn) (.head _) (e2 ▸ e), fun e2 => hoff (fl, W.listOf fv.toArray fn) (.tail _ (.head _)) (e2 ▸ e), fun e2 => hoff (rw, W.listOf rv.toArray rn) (.tail _ (.tail _ (.head _))) (e2 ▸ e)⟩
    have mA : ∀ p ∈ add ++ cod, p ∈ (add ++ R2) ++ own := fun p hp => List.mem_append_left _ ((List.mem_append.mp hp).elim (fun q => List.mem_append_left _ q) fun q => List.mem_append_right _ (hcod p q))
    have mR : ∀ p ∈ add ++ R2, p ∈ (add ++ R2) ++ own := fun p hp => List.mem_append_left _ hp
    have mO : ∀ p ∈ own, p ∈ (add ++ R2) ++ own := fun p hp => List.mem_append_right _ hp
    have hoA : ∀ p ∈ add ++ R2, p.1 ∉ [I, G] := fun p hp => hoff p (.tail _ (.tail _ (.tail _ (.tail _ hp))))
    have hot : tl ∉ [I, G] := hoff (tl, _) (.head _)
    have hof : fl ∉ [I, G] := hoff (fl, _) (.tail _ (.head _))
    have hor : rw ∉ [I, G] := hoff (rw, _) (.tail _ (.tail _ (.head _)))
    have ho2 : 142 ∉ [I, G] := hoff (142, _) (.tail _ (.tail _ (.tail _ (.head _))))
    clear hoff N4
    generalize (add ++ R2) ++ own = R3 at N5 hR3 mA mR mO
    have hrl : rv.length = r.length := by rw [StrsAre.length p1, List.length_map]
    have htl : tv.length = ts.length := by rw [StrsAre.length p3, List.length_map]
    try dsimp only
    k_steps
    refine unstop ?_
    refine' strip_pt (k := j) (j := 1) (n := d) ?vB ?vF ?vX N5 ?vT ?vK ?vn ?vz ?vd ?vu ?_
    case vB => k_asm
    case vF => k_asm
    case vX => k_asm
    case vT => k_asm
    case vK => rfl
    case vn => omega
    case vz => rw [pt_length, sizeLine_eq]; omega
    case vd => ktr_room
    case vu => ktr_units
    intro t10 h11 tk12 F18 N6
    clear N5
    k_steps
    refine unstop ?_
    by_cases hj0 : j = 0
    · subst hj0
      refine eq_text_t rfl ?_
      k_steps
      dsimp only [FePost]
      k_steps
      rename _ < _ ∧ _ ∧ _ ∧ _ ∧ AllLt _ R3 => lT
      rename News h₀ L _ _ => M1
      refine hN (innerT_stuck p2 hjd) _ fv fn qs _ _ _ (by k_asm) (newsSub M1 fun p hp => ?_) p4 (by omega) lT.2.2.1
      rcases List.mem_cons.mp hp with q | q
      · rw [q]; exact .head _
      rcases List.mem_cons.mp q with q | q
      · rw [q]; exact .tail _ (.tail _ (.tail _ (.head _)))
      rcases List.mem_cons.mp q with q | q
      · rw [q]; exact .tail _ (.head _)
      · exact .tail _ (.tail _ (.tail _ (.tail _ (.tail _ (mR _ (List.mem_append_right _ q))))))
    · refine eq_text_f (pt_ne hj0) ?_
      k_steps
      refine unstop ?_
      refine' item_text ?a1 ?a2 ?a3 (pt_last j d) ?_
      case a1 => rw [pt_length]; omega
      case a2 => rw [pt_length]; omega
      case a3 => rw [pt_length, sizeLine_eq]; omega
      intro t11 tk13
      k_steps
      refine unstop ?_
      refine add_pts ?_
      intro t12 tk14
      k_steps
      refine unstop ?_
      rename News h₀ L _ _ => N6
      refine' app_mem (D := tl) ?F N6 (.tail (fun e => hd3 e.symm) (.head ?U)) ?z ?_
      case F => k_asm
      case U =>
        intro p hp
        rcases List.mem_cons.mp hp with q | q
        · rw [q]; exact hd1
        rcases List.mem_cons.mp q with q | q
        · rw [q]; exact hd5
        · exact (hR3 p q).2.1
      case z => omega
      intro h12 F19 N7
      clear N6
      k_steps
      refine unstop ?_
      rename News h₀ L _ _ => N8
      refine' add_mem ?F N8 (.head _) (.tail _ (.tail _ (.tail _ (.tail _ (.head _))))) ?z ?_
      case F => k_asm
      case z => simp; omega
      intro D1 h13 F20 N9 l9
      k_steps
      refine unstop ?_
      have N10 : News h₀ L h13 ((142, tabObj qs.toArray) :: (D1, W.listOf ([Value.str (pt (j - 1) d) t10] ++ rv).toArray 0) :: (tl, W.listOf (tv ++ [Value.str ⟨#[nm, d]⟩ t12]).toArray (tn + 1)) :: (fl, W.listOf fv.toArray fn) :: (rw, W.listOf rv.toArray rn) :: R3) := newsSub N9 fun p hp => ti_in2 hp
      have k142 : @LT.lt Nat _ 142 D1 := l9 (142, tabObj qs.toArray) (.tail _ (.head _))
      have kf1 : @LT.lt Nat _ fl D1 := l9 (fl, _) (.tail _ (.tail _ (.tail _ (.head _))))
      have kt1 : @LT.lt Nat _ tl D1 := l9 (tl, _) (.tail _ (.tail _ (.head _)))
      have kr1 : @LT.lt Nat _ rw D1 := l9 (rw, _) (.tail _ (.tail _ (.tail _ (.tail _ (.head _)))))
      clear N9 N8 l9
      refine' lam_make (ps := qs) (cod := add ++ cod) (rest := (D1, W.listOf ([Value.str (pt (j - 1) d) t10] ++ rv).toArray 0) :: (tl, W.listOf (tv ++ [Value.str ⟨#[nm, d]⟩ t12]).toArray (tn + 1)) :: (fl, W.listOf fv.toArray fn) :: (rw, W.listOf rv.toArray rn) :: R3) ?lF N10 ?lT hC ?lc ?lr ?lq p6 ?lt ?_
      case lF => k_asm
      case lT => k_asm
      case lc => rfl
      case lr =>
        intro x hx
        rcases List.mem_cons.mp hx with q | q
        · rw [q]; exact Nat.ne_of_gt k142
        rcases List.mem_cons.mp q with q | q
        · rw [q]; exact hd3
        rcases List.mem_cons.mp q with q | q
        · rw [q]; exact hd2
        rcases List.mem_cons.mp q with q | q
        · rw [q]; exact hd4
        · exact (hR3 x q).1
      case lq =>
        show (PySem.Str.ofString "_law_ties" ++ PySem.Str.ofString ".<locals>.") ++ PySem.Str.ofString "<lambda>" = lamQ
        decide +kernel
      case lt => exact fun p hp => .tail _ (.tail _ (.tail _ (.tail _ (mA p hp))))
      intro f ps' add' h5 tk5 F5 N11 t6 a6 lam6 lt6
      have N12 : News h₀ L h5 ((D1, W.listOf ([Value.str (pt (j - 1) d) t10] ++ rv).toArray 0) :: (tl, W.listOf (tv ++ [Value.str ⟨#[nm, d]⟩ t12]).toArray (tn + 1)) :: (fl, W.listOf fv.toArray fn) :: (rw, W.listOf rv.toArray rn) :: (142, tabObj (List.toArray ps')) :: (add' ++ R3)) := newsSub N11 fun p hp => ti_in3 hp
      have lam6 := lam6.sub (b := (D1, W.listOf ([Value.str (pt (j - 1) d) t10] ++ rv).toArray 0) :: (tl, W.listOf (tv ++ [Value.str ⟨#[nm, d]⟩ t12]).toArray (tn + 1)) :: (fl, W.listOf fv.toArray fn) :: (rw, W.listOf rv.toArray rn) :: (142, tabObj (List.toArray ps')) :: (add' ++ R3)) fun p hp => ti_in4 hp
      have hI6 : ∀ p ∈ add', @LT.lt Nat _ I p.1 := fun p hp => lt6 (I, oI) (.tail _ (.tail _ (.tail _ (.tail _ (mO _ hIo))))) p hp
      have hG6 : ∀ p ∈ add', @LT.lt Nat _ G p.1 := fun p hp => lt6 (G, _) (.tail _ (.tail _ (.tail _ (.tail _ (mO _ hGo))))) p hp
      have hR4 : ∀ p ∈ add' ++ R3, p.1 ≠ 142 ∧ p.1 ≠ tl ∧ p.1 ≠ fl ∧ p.1 ≠ rw := fun p hp => by
        rcases List.mem_append.mp hp with q | q
        · exact ⟨a6 p q, Nat.ne_of_gt (lt6 (tl, _) (.tail _ (.head _)) p q), Nat.ne_of_gt (lt6 (fl, _) (.tail _ (.tail _ (.head _))) p q), Nat.ne_of_gt (lt6 (rw, _) (.tail _ (.tail _ (.tail _ (.head _)))) p q)⟩
        · exact hR3 p q
      have mA4 : ∀ p ∈ add' ++ (add ++ cod), p ∈ add' ++ R3 := fun p hp => (List.mem_append.mp hp).elim (fun q => List.mem_append_left _ q) fun q => List.mem_append_right _ (mA p q)
      have mR4 : ∀ p ∈ add' ++ (add ++ R2), p ∈ add' ++ R3 := fun p hp => (List.mem_append.mp hp).elim (fun q => List.mem_append_left _ q) fun q => List.mem_append_right _ (mR p q)
      have mO4 : ∀ p ∈ own, p ∈ add' ++ R3 := fun p hp => List.mem_append_right _ (mO p hp)
      have nA4 : ∀ p ∈ add', p.1 ≠ 142 ∧ p.1 ≠ tl ∧ p.1 ≠ fl ∧ p.1 ≠ rw ∧ @LT.lt Nat _ G p.1 := fun p hp => by
        have := hR4 p (List.mem_append_left _ hp)
        exact ⟨this.1, this.2.1, this.2.2.1, this.2.2.2, hG6 p hp⟩
      clear N11 N10 lt6 a6 mA mR mO hR3
      generalize add' ++ R3 = R4 at N12 lam6 hR4 mA4 mR4 mO4
      k_steps
      refine unstop ?_
      show wpAny _ _ (call (.builtin "sorted") [.ref D1] [(PySem.Str.ofString "key", .ref f)]) _ _ _
      refine' sorted_len (f := f) (ss := pts ((j - 1, d) :: r)) ?lB ?lF ?lX N12 ?lT ?lK (.head _) (.cons _ _ p1) ?lS ?lz lam6 ?ld ?lu ?_
      case lB => k_asm
      case lF => k_asm
      case lX => k_asm
      case lT => k_asm
      case lK => rfl
      case lS =>
        refine pts_size fun p hp => ?_
        rcases List.mem_cons.mp hp with q | q
        · rw [q]; show j - 1 ≤ 6; omega
        · exact (p9 p q).1
      case lz => simp; omega
      case ld => ktr_room
      case lu => ktr_units
      intro D2 out c2 h6 tk6 F6 N13 lt8 hS2
      rw [isort_pts, isort_cons _ _ _ p10] at hS2
      k_steps
      refine unstop ?_
      have j142 : @LT.lt Nat _ 142 D2 := lt8 (142, tabObj (List.toArray ps')) (.tail _ (.tail _ (.tail _ (.tail _ (.head _)))))
      have jf2 : @LT.lt Nat _ fl D2 := lt8 (fl, _) (.tail _ (.tail _ (.head _)))
      have jt2 : @LT.lt Nat _ tl D2 := lt8 (tl, _) (.tail _ (.head _))
      have jr2 : @LT.lt Nat _ rw D2 := lt8 (rw, _) (.tail _ (.tail _ (.tail _ (.head _))))
      rename News h₀ L _ _ => N14
      have N15 : News h₀ L _ ((142, tabObj (List.toArray ps')) :: (D2, W.listOf out.toArray c2) :: (tl, W.listOf (tv ++ [Value.str ⟨#[nm, d]⟩ t12]).toArray (tn + 1)) :: (fl, W.listOf fv.toArray fn) :: (rw, W.listOf rv.toArray rn) :: R4) := newsSub N14 fun p hp => ti_in5 hp
      clear N14 lt8
      refine' lam_make (ps := ps') (cod := add' ++ (add ++ cod)) (rest := (D2, W.listOf out.toArray c2) :: (tl, W.listOf (tv ++ [Value.str ⟨#[nm, d]⟩ t12]).toArray (tn + 1)) :: (fl, W.listOf fv.toArray fn) :: (rw, W.listOf rv.toArray rn) :: R4) ?lF N15 ?lT hC ?lc ?lr ?lq t6 ?lt ?_
      case lF => k_asm
      case lT => k_asm
      case lc => rfl
      case lr =>
        intro x hx
        rcases List.mem_cons.mp hx with q | q
        · rw [q]; exact Nat.ne_of_gt j142
        rcases List.mem_cons.mp q with q | q
        · rw [q]; exact hd3
        rcases List.mem_cons.mp q with q | q
        · rw [q]; exact hd2
        rcases List.mem_cons.mp q with q | q
        · rw [q]; exact hd4
        · exact (hR4 x q).1
      case lq =>
        show (PySem.Str.ofString "_law_ties" ++ PySem.Str.ofString ".<locals>.") ++ PySem.Str.ofString "<lambda>" = lamQ
        decide +kernel
      case lt => exact fun p hp => .tail _ (.tail _ (.tail _ (.tail _ (mA4 p hp))))
      intro f2 ps2 add2 h7 tk7 F7 N16 t7 a7 lam7 lt7
      have N17 : News h₀ L h7 ((rw, W.listOf rv.toArray rn) :: (D2, W.listOf out.toArray c2) :: (tl, W.listOf (tv ++ [Value.str ⟨#[nm, d]⟩ t12]).toArray (tn + 1)) :: (fl, W.listOf fv.toArray fn) :: (142, tabObj (List.toArray ps2)) :: (add2 ++ R4)) := newsSub N16 fun p hp => ti_in6 hp
      have lam7 := lam7.sub (b := (rw, W.listOf rv.toArray rn) :: (D2, W.listOf out.toArray c2) :: (tl, W.listOf (tv ++ [Value.str ⟨#[nm, d]⟩ t12]).toArray (tn + 1)) :: (fl, W.listOf fv.toArray fn) :: (142, tabObj (List.toArray ps2)) :: (add2 ++ R4)) fun p hp => ti_in7 hp
      have hI7 : ∀ p ∈ add2, @LT.lt Nat _ I p.1 := fun p hp => lt7 (I, oI) (.tail _ (.tail _ (.tail _ (.tail _ (mO4 _ hIo))))) p hp
      have hG7 : ∀ p ∈ add2, @LT.lt Nat _ G p.1 := fun p hp => lt7 (G, _) (.tail _ (.tail _ (.tail _ (.tail _ (mO4 _ hGo))))) p hp
      have hR5 : ∀ p ∈ add2 ++ R4, p.1 ≠ 142 ∧ p.1 ≠ tl ∧ p.1 ≠ fl ∧ p.1 ≠ rw := fun p hp => by
        rcases List.mem_append.mp hp with q | q
        · exact ⟨a7 p q, Nat.ne_of_gt (lt7 (tl, _) (.tail _ (.head _)) p q), Nat.ne_of_gt (lt7 (fl, _) (.tail _ (.tail _ (.head _))) p q), Nat.ne_of_gt (lt7 (rw, _) (.tail _ (.tail _ (.tail _ (.head _)))) p q)⟩
        · exact hR4 p q
      have mR5 : ∀ p ∈ add2 ++ (add' ++ (add ++ R2)), p ∈ add2 ++ R4 := fun p hp => (List.mem_append.mp hp).elim (fun q => List.mem_append_left _ q) fun q => List.mem_append_right _ (mR4 p q)
      have mO5 : ∀ p ∈ own, p ∈ add2 ++ R4 := fun p hp => List.mem_append_right _ (mO4 p hp)
      have nA5 : ∀ p ∈ add2, p.1 ≠ 142 ∧ p.1 ≠ tl ∧ p.1 ≠ fl ∧ p.1 ≠ rw ∧ @LT.lt Nat _ G p.1 := fun p hp => by
        have := hR5 p (List.mem_append_left _ hp)
        exact ⟨this.1, this.2.1, this.2.2.1, this.2.2.2, hG7 p hp⟩
      clear N16 N15 lt7 a7 mA4 mR4 mO4 hR4
      generalize add2 ++ R4 = R5 at N17 lam7 hR5 mR5 mO5
      k_steps
      refine unstop ?_
      show wpAny _ _ (call (.ref 48) [.ref rw, .str (pt (j - 1) d) t10] [(PySem.Str.ofString "key", .ref f2)]) _ _ _
      refine' insL_str (f := f2) (ss := pts r) ?lB ?lF ?lX N17 ?lT ?lK ?lz p1 ?lS ?lx lam7 ?ls (.head ?lu) ?ld ?le ?_
      case lB => k_asm
      case lF => k_asm
      case lX => k_asm
      case lT => k_asm
      case lK => rfl
      case lz => omega
      case lS => exact pts_size fun p hp => (p9 p hp).1
      case lx => rw [pt_length, sizeLine_eq]; omega
      case ls => exact pts_sorted p10
      case lu =>
        intro x hx
        rcases List.mem_cons.mp hx with q | q
        · rw [q]; exact Nat.ne_of_gt jr2
        rcases List.mem_cons.mp q with q | q
        · rw [q]; exact hd5.symm
        rcases List.mem_cons.mp q with q | q
        · rw [q]; exact hd6.symm
        rcases List.mem_cons.mp q with q | q
        · rw [q]; exact hd4.symm
        · exact (hR5 x q).2.2.2
      case ld => ktr_room
      case le => ktr_units
      intro h8 tk8 F8 N18
      clear N17
      have hS3 := strs_insAt p1 ((lens (pts r)).countP fun v => decide (v < ((pt (j - 1) d).length : Int))) (pt (j - 1) d) t10
      rw [pts_insL] at hS3
      generalize insAt rv _ (Value.str (pt (j - 1) d) t10) = iv at N18 hS3
      k_steps
      refine unstop ?_
      rename News h₀ L _ _ => N19
      refine' eq_rows N19 (.head _) (.tail _ (.head _)) hS3 hS2 ?k2 ?k3 ?_
      case k2 =>
        refine pts_ok fun p hp => ?_
        rcases List.mem_cons.mp ((insAt_perm _ _ _).mem_iff.mp hp) with q | q
        · rw [q]; exact hj.2.2
        · exact (p9 p q).2.2
      case k3 => ke_room
      k_steps
      refine unstop ?_
      rename News h₀ L _ _ => N20
      have N21 : News h₀ L _ ((fl, W.listOf fv.toArray fn) :: (rw, W.listOf iv.toArray (rn + 1)) :: (tl, W.listOf (tv ++ [Value.str ⟨#[nm, d]⟩ t12]).toArray (tn + 1)) :: (142, tabObj (List.toArray ps2)) :: R5) := newsSub N20 fun p hp => ti_in8 hp
      clear N20
      refine' app_mem (D := fl) ?F N21 (.head ?U) ?z ?_
      case F => k_asm
      case U =>
        intro p hp
        rcases List.mem_cons.mp hp with q | q
        · rw [q]; exact hd6
        rcases List.mem_cons.mp q with q | q
        · rw [q]; exact hd1.symm
        rcases List.mem_cons.mp q with q | q
        · rw [q]; exact hd2.symm
        · exact (hR5 p q).2.2.1
      case z => omega
      intro h9 F9 N22
      clear N21
      k_steps
      dsimp only [FePost]
      rename Fr h₀ L _ _ => F23
      rename News h₀ L _ _ => N23
      obtain ⟨m9, F24, g1, g2, g3, g4, g5⟩ : ∃ m9 : Str → Option Value, Fr h₀ L _ m9 ∧ m9 "row" = some (.ref rw) ∧ m9 "ties" = some (.ref tl) ∧ m9 "fair" = some (.ref fl) ∧ m9 "picks" = some (.int pk tp) ∧ m9 "name" = some (.str (pt 0 nm) tm) := ⟨_, F23, by with_unfolding_all rfl, by with_unfolding_all rfl, by with_unfolding_all rfl, by with_unfolding_all rfl, by with_unfolding_all rfl⟩
      refine FeEnd.intro (⟨iv, rn + 1, insL keyP r (j - 1, d), tv ++ [Value.str ⟨#[nm, d]⟩ t12], tn + 1, ts ++ [(nm, d)], fv ++ [Value.bool true], fn + 1, ps2, add2 ++ (add' ++ add), m9⟩ : Ti) F24 N23 (fun z _ => toN_of g1 g2 g3 g4 g5 z) (fun p hp => ?_) (fun p hp => .tail _ (.tail _ (.tail _ (.tail _ (mO5 p hp))))) (fun p hp => ?_) ⟨hS3, innerT_step p2 hjd hj0, ?_, ?_, ⟨?_, ?_⟩, ?_, ?_, ?_, ?_, insL_sorted _ p10⟩
      · rcases List.mem_cons.mp hp with q | q
        · rw [q]; exact .tail _ (.tail _ (.head _))
        rcases List.mem_cons.mp q with q | q
        · rw [q]; exact .head _
        rcases List.mem_cons.mp q with q | q
        · rw [q]; exact .tail _ (.head _)
        rcases List.mem_cons.mp q with q | q
        · rw [q]; exact .tail _ (.tail _ (.tail _ (.head _)))
        · refine .tail _ (.tail _ (.tail _ (.tail _ (mR5 p ?_))))
          have q : p ∈ (add2 ++ (add' ++ add)) ++ R2 := q
          rw [List.append_assoc, List.append_assoc] at q
          exact q
      · rcases List.mem_cons.mp hp with q | q
        · rw [q]; exact hot
        rcases List.mem_cons.mp q with q | q
        · rw [q]; exact hof
        rcases List.mem_cons.mp q with q | q
        · rw [q]; exact hor
        rcases List.mem_cons.mp q with q | q
        · rw [q]; exact ho2
        · have q : p ∈ (add2 ++ (add' ++ add)) ++ R2 := q
          rw [List.append_assoc, List.append_assoc] at q
          have big : ∀ p : Addr × Obj, @LT.lt Nat _ I p.1 → @LT.lt Nat _ G p.1 → p.1 ∉ [I, G] := fun p h1 h2 hm => by
            rcases List.mem_cons.mp hm with e | e
            · exact absurd h1 (e ▸ Nat.lt_irrefl _)
            · exact absurd h2 (List.mem_singleton.mp e ▸ Nat.lt_irrefl _)
          rcases List.mem_append.mp q with q | q
          · exact big p (hI7 p q) (hG7 p q)
          rcases List.mem_append.mp q with q | q
          · exact big p (hI6 p q) (hG6 p q)
          · exact hoA p q
      · show StrsAre _ (tieV (ts ++ [(nm, d)]))
        rw [tieV, List.map_append]
        exact StrsAre.append' p3 (.cons _ _ .nil)
      · intro v hv
        rcases List.mem_append.mp hv with q | q
        · exact p4 v q
        · exact List.mem_singleton.mp q
      · show (fv ++ [Value.bool true]).length ≤ _
        rw [List.length_append]
        show fv.length + 1 ≤ _
        omega
      · show (ts ++ [(nm, d)]).length = _
        rw [List.length_append]
        show ts.length + 1 = _
        omega
      · show TabOk lamQ ((add2 ++ (add' ++ add)) ++ cod) ps2
        rw [List.append_assoc, List.append_assoc]
        exact t7
      · intro p hp
        rcases List.mem_append.mp hp with q | q
        · exact nA5 p q
        rcases List.mem_append.mp q with q | q
        · exact nA4 p q
        · exact p7 p q
      · have e : (insL keyP r (j - 1, d)).length = r.length + 1 := (insAt_perm _ _ _).length_eq
        show (insL keyP r (j - 1, d)).length = _
        omega
      · intro p hp
        rcases List.mem_cons.mp ((insAt_perm _ _ _).mem_iff.mp hp) with q | q
        · rw [q]; exact ⟨by show j - 1 ≤ 6; omega, hj.2⟩
        · exact p9 p q
end Mine
end
section
open PySem PySem.W PyProof.Rows PySem.Calls PyProof.Rows.LCg
namespace Mine
theorem tw_in2 {a b c d p : Addr × Obj} {r : Fa} (h : p ∈ c :: a :: b :: d :: r) : p ∈ a :: b :: c :: d :: r := by
  k_with_none
  simp only [List.mem_cons] at h ⊢; grind
theorem tw_in3 {a b c d e f p : Addr × Obj} {r : Fa} (h : p ∈ b :: e :: d :: a :: f :: ([] ++ r)) : p ∈ a :: b :: d :: c :: e :: f :: r := by
  simp only [List.mem_cons, List.nil_append] at h ⊢; grind
def twP (pk : Int) (rr0 : List (Nat × Nat)) (R0 : Fa) (tl fl : Addr) (nl i : Nat) (c : Tw) : Prop :=
  StrsAre c.rv (pts c.r) ∧ runT pk.toNat rr0 i = some (c.r, c.ts) ∧ StrsAre c.tv (tieV c.ts) ∧ (∀ v ∈ c.fv, v = Value.bool true) ∧ (c.fv.length ≤ 20 * (i + 1) ∧ c.ts.length ≤ 6 * i) ∧ TabOk lamQ (c.add ++ R0) c.ps ∧ (∀ p ∈ c.add ++ R0, p.1 ≠ 142 ∧ p.1 ≠ tl ∧ p.1 ≠ fl ∧ p.1 ≠ c.rw) ∧ c.rw ≠ 142 ∧ c.rw ≠ tl ∧ c.rw ≠ fl ∧ c.r.length + i = nl ∧ (∀ p ∈ c.r, p.1 ≤ 6 ∧ 96 < p.2 ∧ p.2 < 200) ∧ c.r.Pairwise fun a b => keyP a ≤ keyP b
set_option maxRecDepth 100000 in
set_option maxHeartbeats 8000000 in
theorem ties_turn {w : World} {dp un : Nat} {gd : Option (List Code)} {outer : List Env} {A₀ : Around} {base h₀ : Heap} {L : Addr} {s : Shared} {Q : Flow → Shared → Prop} {E : Value → Shared → Prop} {p : Program} {loose : List Str} {mean : ExcName → Option Value} {mg mb : Str → Option Value}
  {tl fl I : Addr} {nl i : Nat} {t tp : Tok} {pk : Int} {rr0 : List (Nat × Nat)} {R0 own : Fa} {c₀ : Tw}
  (B : Below A₀ base outer h₀) (F14 : Fr h₀ L s.heap (fun y => if y = PySem.Str.ofString "turn" then some (.int (0 + (i : Int)) t) else toM c₀.rw tl fl pk tp c₀.mm y)) (X : (hd.heap_1 w.params).In h₀) (N14 : News h₀ L s.heap (twN tl fl R0 c₀ ++ own)) (T : Top p loose mean mg mb h₀)
  (hC : CodeHd h₀ 144 142) (hp0 : 0 ≤ pk) (hp1 : pk < 1000000) (hi : i < nl) (hnl : nl ≤ 6) (hP : twP pk rr0 R0 tl fl nl i c₀) (hoff : ∀ p ∈ twN tl fl R0 c₀, p.1 ∉ [I]) (hown : ∀ p ∈ own, p.1 ∈ [I]) (hIo : ∃ o, (I, o) ∈ own)
  (hftl : fl ≠ tl) (hf142 : fl ≠ 142) (ht142 : tl ≠ 142) (hd : dp + 8 < recursionLimit) (hu : un + 200 < cLine)
  (hE : PassesOwn (model PySem.Challenge.rw_rs0180_01.row.prog w) (ktrTop dp un gd (PySem.Str.ofString "_law_ties") tiesS L 145 (.ref 144) [] outer) (envX (PySem.Str.ofString "_law_ties") tiesS L 145 (.ref 144) []) E)
  (hN : runT pk.toNat rr0 nl = none → ∀ (T : Addr) (fv : List Value) (fn : Nat) (ps : List Value) (h' : Heap) (tk' : Nat) (m' : Str → Option Value), Fr h₀ L h' m' → News h₀ L h' ((T, tupO [.none, .ref fl]) :: (fl, W.listOf fv.toArray fn) :: (142, tabObj ps.toArray) :: R0) → (∀ v ∈ fv, v = Value.bool true) → fv.length ≤ 300 → @LT.lt Nat _ fl T → Q (.ret (.ref T)) { s with heap := h', toks := tk' }) :
  wpAny (model PySem.Challenge.rw_rs0180_01.row.prog w) (ktrTop dp un gd (PySem.Str.ofString "_law_ties") tiesS L 145 (.ref 144) [] outer) (execs turnB (envX (PySem.Str.ofString "_law_ties") tiesS L 145 (.ref 144) [])) (FePost h₀ L s (fun c => toM c.rw tl fl pk tp c.mm) (twN tl fl R0) [I] (PySem.Str.ofString "turn") (twP pk rr0 R0 tl fl nl (i + 1)) own Q) E s := by
  k_with_none
  k_with "eval ListComp" => (k_here; k_dflt (refine' gc_eval ?gA ?gB ?gC ?gD ?_ ?gE; (case gA => rfl); (case gB => with_unfolding_all rfl); (case gC => rfl); (case gD => decide); (case gE => intro _; rfl)))
  k_with "exec Assign cons ListComp" => (k_here; (first | k_dflt (refine' gc_assign ?gY ?gA ?gS ?gB ?gC ?gD ?_ ?gE; (case gY => rfl); (case gA => rfl); (case gS => with_unfolding_all rfl); (case gB => with_unfolding_all rfl); (case gC => rfl); (case gD => decide); (case gE => intro _; rfl)) | k_dflt (refine' wpAny_Assign_Name ?_ ?gS; (case gS => with_unfolding_all rfl))))
  k_with "pyIter ref" => (with_reducible refine stop_ ?_)
  k_with "call type:enumerate" => (with_reducible refine stop_ ?_)
  k_with "call builtin:sorted" => (with_reducible refine stop_ ?_)
  k_with "compareOp Eq ref ref" => (with_reducible refine stop_ ?_)
  k_with "call ref" => (with_reducible refine stop_ ?_)
  k_with "mem" => ((repeat (first | with_reducible assumption | refine List.mem_cons_of_mem _ ?_)); done)
  k_with "binaryOp FloorDiv int int" => (k_here; k_dflt ((refine' floordiv_int ?fA ?_ ?fB); (case fA => exact (pow_ok (by omega) (by omega)).1); (case fB => exact Or.inl (PyProof.noPylong_of_log2 (pow_ok (by omega) (by omega)).2))))
  k_with "call type:zip" => (with_reducible refine stop_ ?_)
  k_with "exec For" => (with_reducible refine stop_ ?_)
  k_with "exec For Name Name cons nil" => (with_reducible refine stop_ ?_)
  k_with "exec For Name Call cons nil" => (with_reducible refine stop_ ?_)
  k_with "compareOp Eq str str" => (with_reducible refine stop_ ?_)
  k_with "call builtin:list.append" => (with_reducible refine stop_ ?_)
  k_with "subscriptTail Name Slice ref ref" => (with_reducible refine stop_ ?_)
  k_with "binaryOp Add ref ref" => (with_reducible refine stop_ ?_)
  k_with "eval Lambda" => (with_reducible refine stop_ ?_)
  k_with "eval Name" => (k_here; k_dflt (first | (refine' nameX_L ?F ?v ?_ ?a ?b; (case F => k_asm); (case a => rfl); (case b => rfl); (case v => rfl); k_whole) | (refine' nameX_K ?F ?X ?T ?e ?_ ?a ?b; (case F => k_asm); (case X => k_asm); (case T => k_asm); (case a => rfl); (case b => rfl); (case e => k_is); k_whole) | (refine' nameX_B ?F ?X ?T ?e ?v ?n ?_ ?a ?b; (case F => k_asm); (case X => k_asm); (case T => k_asm); (case a => rfl); (case b => rfl); (case e => k_is); (case v => boot_fast); (case n => decide); k_whole)))
  generalize hb : turnB = b
  conv at hb => lhs; whnf
  subst hb
  generalize hb : tiesS = b
  conv at hb => lhs; whnf
  subst hb
  revert X; k_fill; intro X
  obtain ⟨rw, rv, rn, r, tv, tn, ts, fv, fn, qs, add, mm⟩ := c₀
  obtain ⟨p1, p2, p3, p4, ⟨p5, p5t⟩, p6, p7, p8, p9, p10, p11, p12, p13⟩ := hP
  dsimp only at p1 p2 p3 p4 p5 p5t p6 p7 p8 p9 p10 p11 p12 p13
  try dsimp only at hoff
  try dsimp only at N14
  try dsimp only [toM] at F14
  have N15 : News h₀ L s.heap ((rw, W.listOf rv.toArray rn) :: (tl, W.listOf tv.toArray tn) :: (fl, W.listOf fv.toArray fn) :: (142, tabObj qs.toArray) :: ((add ++ R0) ++ own)) := newsSub N14 fun p hp => tw_in hp
  clear N14
  have hR1 : ∀ p ∈ (add ++ R0) ++ own, p.1 ≠ 142 ∧ p.1 ≠ tl ∧ p.1 ≠ fl ∧ p.1 ≠ rw := fun p hp => by
    rcases List.mem_append.mp hp with q | q
    · exact p7 p q
    · have e := hown p q
      exact ⟨fun e2 => hoff (142, tabObj qs.toArray) (.tail _ (.tail _ (.tail _ (.head _)))) (e2 ▸ e), fun e2 => hoff (tl, W.listOf tv.toArray tn) (.head _) (e2 ▸ e), fun e2 => hoff (fl, W.listOf fv.toArray fn) (.tail _ (.head _)) (e2 ▸ e), fun e2 => hoff (rw, W.listOf rv.toArray rn) (.tail _ (.tail _ (.head _))) (e2 ▸ e)⟩
  have mA : ∀ p ∈ add ++ R0, p ∈ (add ++ R0) ++ own := fun p hp => List.mem_append_left _ hp
  have mO : ∀ p ∈ own, p ∈ (add ++ R0) ++ own := fun p hp => List.mem_append_right _ hp
  have hA : ∀ p ∈ add ++ R0, p.1 ∉ [I] := fun p hp => hoff p (.tail _ (.tail _ (.tail _ (.tail _ hp))))
  obtain ⟨oI, hIo⟩ := hIo
  have htlI : tl ∉ [I] := hoff (tl, _) (.head _)
  have hflI : fl ∉ [I] := hoff (fl, _) (.tail _ (.head _))
  have h142I : 142 ∉ [I] := hoff (142, _) (.tail _ (.tail _ (.tail _ (.head _))))
  clear hoff
  generalize (add ++ R0) ++ own = R1 at N15 hR1 mA mO
  try dsimp only
  have hrvl : rv.length = r.length := by rw [StrsAre.length p1, List.length_map]
  k_steps
  refine' len_mem N15 (.head _) ?z1 ?_
  case z1 => omega
  intro t8 tk9
  have hpos : (rv.length : Int) ≠ 0 := by omega
  k_steps
  obtain ⟨ip, hip⟩ : ∃ ip : Nat, ip = pk.toNat / 7 ^ i % r.length := ⟨_, rfl⟩
  have hipl : ip < r.length := by rw [hip]; exact Nat.mod_lt _ (by omega)
  obtain ⟨⟨kk, cc⟩, hrk⟩ : ∃ q, r[ip]? = some q := ⟨_, List.getElem?_eq_getElem hipl⟩
  have hsk : (pts r)[ip]? = some (pt kk cc) := by rw [pts, List.getElem?_map, hrk]; rfl
  obtain ⟨tk0, hvk⟩ := StrsAre.get p1 ip _ hsk
  refine' popNat (k := ip) ?qF N15 ?qi hvk ?qz (.head ?qu) ?_
  case qF => k_asm
  case qi => rw [pick_eq hp0, hrvl, hip]
  case qz => omega
  case qu =>
    intro p hp
    rcases List.mem_cons.mp hp with q | q
    · rw [q]; exact p9.symm
    rcases List.mem_cons.mp q with q | q
    · rw [q]; exact p10.symm
    rcases List.mem_cons.mp q with q | q
    · rw [q]; exact p8.symm
    · exact (hR1 p q).2.2.2
  intro h9 F15 N16
  have hrun : runT pk.toNat (rr0) (i + 1) = turnT ip r ts := by rw [runT_step p2, ← hip]
  have hrl2 : (rv.eraseIdx ip).length = r.length - 1 := by rw [List.length_eraseIdx_of_lt (by omega), hrvl]
  have hrl3 : (r.eraseIdx ip).length = r.length - 1 := List.length_eraseIdx_of_lt hipl
  have hE1 : StrsAre (rv.eraseIdx ip) (pts (r.eraseIdx ip)) := by
    have := strs_erase p1 ip
    rw [pts, map_erase] at this; exact this
  have hE2 : ∀ p ∈ r.eraseIdx ip, p.1 ≤ 6 ∧ 96 < p.2 ∧ p.2 < 200 := fun p hp => p12 p ((List.eraseIdx_sublist r ip).subset hp)
  have hE3 : (r.eraseIdx ip).Pairwise fun a b => keyP a ≤ keyP b := p13.sublist (List.eraseIdx_sublist r ip)
  generalize rv.eraseIdx ip = ev at *
  k_steps
  refine unstop ?_
  rename News h₀ L _ _ => N17
  have hrp := p12 _ (List.mem_of_getElem? hrk)
  dsimp only at hrp
  refine' ws_make (pre := List.replicate kk 32) (c0 := cc) (post := []) ?wB ?wF ?wX N17 ?wT ?wK ?wt ?wp ?wc ?wz ?wd ?wu ?_
  case wB => k_asm
  case wF => k_asm
  case wX => k_asm
  case wT => k_asm
  case wK => rfl
  case wt => simp [pt]
  case wp => exact fun x hx => .inl (List.eq_of_mem_replicate hx)
  case wc => exact ⟨by omega, by omega⟩
  case wz => rw [List.length_replicate]; omega
  case wd => ktr_room
  case wu => ktr_units
  intro xw dw nrm ct cv tb tn7 tt sb y1 y2 y3 y4 y5 h10 tk10 F16 N18 hcv lw1 lw2 lw3 lw4
  k_steps
  rename News h₀ L _ _ => N19
  rename Fr h₀ L _ _ => F17
  simp only [wrun_rep] at F17
  have N20 : News h₀ L _ ((rw, W.listOf ev.toArray (rn + 1)) :: (tl, W.listOf tv.toArray tn) :: (fl, W.listOf fv.toArray fn) :: (142, tabObj qs.toArray) :: R1) := newsSub N19 fun p hp => .tail _ (.tail _ (.tail _ (.tail _ hp)))
  clear N19 lw1 lw2 lw3 lw4 hcv
  refine' len_mem N20 (.head _) ?z2 ?_
  case z2 => omega
  intro t9 tk11
  rw [wrun_rep]
  by_cases hlt : ev.length < kk
  · have hlt' : (ev.length : Int) < (kk : Int) := by omega
    k_steps
    dsimp only [FePost]
    k_steps
    rename _ < _ ∧ _ ∧ _ ∧ _ ∧ AllLt _ R1 => lT
    rename News h₀ L _ _ => M1
    refine hN (runT_none (i := i + 1) (by rw [hrun]; exact turn_short hrk (by omega)) (by omega)) _ fv fn qs _ _ _ (by k_asm) (newsSub M1 fun p hp => ?_) p4 (by omega) lT.2.2.1
    rcases List.mem_cons.mp hp with q | q
    · rw [q]; exact .head _
    rcases List.mem_cons.mp q with q | q
    · rw [q]; exact .tail _ (.tail _ (.tail _ (.head _)))
    rcases List.mem_cons.mp q with q | q
    · rw [q]; exact .tail _ (.tail _ (.tail _ (.tail _ (.head _))))
    · exact .tail _ (.tail _ (.tail _ (.tail _ (.tail _ (mA _ (List.mem_append_right _ q))))))
  · have hlt' : ¬ (ev.length : Int) < (kk : Int) := by omega
    k_steps
    refine unstop ?_
    rename News h₀ L _ _ => N21
    refine' strip_pt (k := kk) (j := kk) (n := cc) ?vB ?vF ?vX N21 ?vT ?vK ?vn ?vz ?vd ?vu ?_
    case vB => k_asm
    case vF => k_asm
    case vX => k_asm
    case vT => k_asm
    case vK => rfl
    case vn => omega
    case vz => rw [pt_length, sizeLine_eq]; omega
    case vd => ktr_room
    case vu => ktr_units
    intro t10 h11 tk12 F18 N22
    rw [Nat.sub_self]
    k_steps
    refine' item_text ?a1 ?a2 ?a3 (pt_last kk cc) ?_
    case a1 => rw [pt_length]; omega
    case a2 => rw [pt_length]; omega
    case a3 => rw [pt_length, sizeLine_eq]; omega
    intro t11 tk13
    k_steps
    refine unstop ?_
    refine eq_text_t rfl ?_
    k_steps
    refine unstop ?_
    rename News h₀ L _ _ => N23
    have N24 : News h₀ L _ ((fl, W.listOf fv.toArray fn) :: (rw, W.listOf ev.toArray (rn + 1)) :: (tl, W.listOf tv.toArray tn) :: (142, tabObj qs.toArray) :: R1) := newsSub N23 fun p hp => tw_in2 hp
    clear N23
    refine' app_mem (D := fl) ?F N24 (.head ?U) ?z ?_
    case F => k_asm
    case U =>
      intro p hp
      rcases List.mem_cons.mp hp with q | q
      · rw [q]; exact p10
      rcases List.mem_cons.mp q with q | q
      · rw [q]; exact hftl.symm
      rcases List.mem_cons.mp q with q | q
      · rw [q]; exact hf142.symm
      · exact (hR1 p q).2.2.1
    case z => omega
    intro h12 F19 N25
    clear N24
    k_steps
    rename News h₀ L _ _ => N26
    refine' len_mem N26 (.tail _ (.head _)) ?z3 ?_
    case z3 => omega
    intro t12 tk14
    k_steps
    refine unstop ?_
    rename News h₀ L _ _ => N27
    have hkl : ev.length - kk ≤ ev.length := by omega
    refine' slice_from (k := ev.length - kk) ?F N27 (.tail _ (.head _)) ?hx hkl ?hz ?_
    case F => k_asm
    case hx => omega
    case hz => omega
    intro G h13 F20 N28 lG
    k_steps
    rename News h₀ L _ _ => N29
    refine' len_mem N29 (.tail _ (.tail _ (.head _))) ?z4 ?_
    case z4 => omega
    intro t13 tk15
    k_steps
    refine unstop ?_
    rename News h₀ L _ _ => N30
    refine' slice_upto (k := ev.length - kk) ?F N30 (.tail _ (.tail _ (.head _))) ?hx hkl ?hz ?_
    case F => k_asm
    case hx => omega
    case hz => omega
    intro rw2 h14 F21 N31 lr2
    k_steps
    refine unstop ?_
    refine' For_invVF (hE := hE) ?kF rfl rfl ?kG
    case kF => k_asm
    k_steps
    refine unstop ?_
    rename News h₀ L _ _ => N32
    rename Fr h₀ L _ _ => F33
    have gl : ∀ p ∈ (fl, W.listOf (fv ++ [Value.bool true]).toArray (fn + 1)) :: (rw, W.listOf ev.toArray (rn + 1)) :: (tl, W.listOf tv.toArray tn) :: (142, tabObj qs.toArray) :: R1, @LT.lt Nat _ p.1 G := lG
    have rl : ∀ p ∈ (G, W.listOf (ev.drop (ev.length - kk)).toArray 0) :: (fl, W.listOf (fv ++ [Value.bool true]).toArray (fn + 1)) :: (rw, W.listOf ev.toArray (rn + 1)) :: (tl, W.listOf tv.toArray tn) :: (142, tabObj qs.toArray) :: R1, @LT.lt Nat _ p.1 rw2 := lr2
    have N34 : News h₀ L _ ((G, W.listOf (ev.drop (ev.length - kk)).toArray 0) :: tiN rw2 tl fl R1 ⟨ev.take (ev.length - kk), 0, (r.eraseIdx ip).take (ev.length - kk), tv, tn, ts, fv ++ [Value.bool true], fn + 1, qs, [], fun _ => none⟩) := newsSub N32 fun p hp => tw_in3 hp
    have kG : @LT.lt Nat _ G rw2 := rl (G, _) (.head _)
    have kfG : @LT.lt Nat _ fl G := gl (fl, _) (.head _)
    have ktG : @LT.lt Nat _ tl G := gl (tl, _) (.tail _ (.tail _ (.head _)))
    have k2G : @LT.lt Nat _ 142 G := gl (142, tabObj qs.toArray) (.tail _ (.tail _ (.tail _ (.head _))))
    have kfr : @LT.lt Nat _ fl rw2 := Nat.lt_trans kfG kG
    have ktr : @LT.lt Nat _ tl rw2 := Nat.lt_trans ktG kG
    have k2r : @LT.lt Nat _ 142 rw2 := Nat.lt_trans k2G kG
    have hRG : ∀ p ∈ R1, @LT.lt Nat _ p.1 G := fun p hp => gl p (.tail _ (.tail _ (.tail _ (.tail _ hp))))
    have hIG : @LT.lt Nat _ I G := hRG (I, oI) (mO _ hIo)
    have hel : ev.length = (r.eraseIdx ip).length := by rw [hrl2, hrl3]
    clear N32 lG lr2 gl rl
    have hgo := turn_go (ts := ts) hrk (by omega)
    rw [← hel] at hgo
    have hsum : ((r.eraseIdx ip).take (ev.length - kk)).length + ((r.eraseIdx ip).drop (ev.length - kk)).length = r.length - 1 := by
      rw [List.length_take, List.length_drop]; omega
    have hdl : ((r.eraseIdx ip).drop (ev.length - kk)).length = kk := by rw [List.length_drop]; omega
    obtain ⟨m0, F35, f1, f2, f3, f4, f5⟩ : ∃ m0 : Str → Option Value, Fr h₀ L _ m0 ∧ m0 "row" = some (.ref rw2) ∧ m0 "ties" = some (.ref tl) ∧ m0 "fair" = some (.ref fl) ∧ m0 "picks" = some (.int pk tp) ∧ m0 "name" = some (.str (pt 0 cc) t10) := ⟨_, F33, by with_unfolding_all rfl, by with_unfolding_all rfl, by with_unfolding_all rfl, by with_unfolding_all rfl, by with_unfolding_all rfl⟩
    clear F33
    refine' ties_inner (f0 := fv.length + 1) (g := (r.eraseIdx ip).drop (ev.length - kk)) (r0 := (r.eraseIdx ip).take (ev.length - kk)) (ts0 := ts) (cod := add ++ R0) (nm := cc) ?uB F35 ?uX N34 ?uT hC f1 f2 f3 f4 f5 ?u1 ?u2 ?u3 ?u4 ?u5 ?u6 ?u7 ?u8 hftl hf142 ht142 ?u9 ?u10 ?u11 ?u12 ?u13 ?u14 ?u15 ?u16 ?u17 ?u18 ?u19 ?uN ?uS
    case uB => k_asm
    case uX => k_asm
    case uT => k_asm
    case u1 => exact hE1.drop' _ |> (fun h => by rw [pts, ← List.map_drop] at h; exact h)
    case u2 => exact fun p hp => hE2 p (List.mem_of_mem_drop hp)
    case u3 => omega
    case u4 => omega
    case u5 => omega
    case u6 => omega
    case u7 => exact mA
    case u8 => exact fun p hp => ⟨(hR1 p hp).1, (hR1 p hp).2.1, (hR1 p hp).2.2.1, Nat.ne_of_lt (Nat.lt_trans (hRG p hp) kG), Nat.ne_of_lt (hRG p hp)⟩
    case u9 => exact Nat.ne_of_gt k2r
    case u10 => exact Nat.ne_of_gt ktr
    case u11 => exact Nat.ne_of_gt kfr
    case u12 => exact Nat.ne_of_gt k2G
    case u13 => exact Nat.ne_of_gt ktG
    case u14 => exact Nat.ne_of_gt kfG
    case u15 => exact Nat.ne_of_lt kG
    case u16 => exact fun p hp => nomatch hp
    case u17 =>
      refine ⟨?_, rfl, p3, ?_, ⟨?_, rfl⟩, p6, (fun p hp => (nomatch hp)), rfl, fun p hp => hE2 p (List.mem_of_mem_take hp), hE3.sublist (List.take_sublist _ _)⟩
      · exact hE1.take' _ |> (fun h => by rw [pts, ← List.map_take] at h; exact h)
      · intro v hv
        rcases List.mem_append.mp hv with q | q
        · exact p4 v q
        · exact List.mem_singleton.mp q
      · show (fv ++ [Value.bool true]).length ≤ _
        rw [List.length_append]; exact Nat.le_refl _
    case u18 => exact hd
    case u19 => exact hu
    case uN =>
      intro hnone T fv2 fn2 ps2 h' tk' m' F' N' q1 q2 q3
      refine hN (runT_none (i := i + 1) (by rw [hrun, hgo]; exact hnone) (by omega)) T fv2 fn2 ps2 h' tk' m' F' (newsSub N' fun p hp => ?_) q1 q2 q3
      rcases List.mem_cons.mp hp with q | q
      · rw [q]; exact .head _
      rcases List.mem_cons.mp q with q | q
      · rw [q]; exact .tail _ (.head _)
      rcases List.mem_cons.mp q with q | q
      · rw [q]; exact .tail _ (.tail _ (.head _))
      · exact .tail _ (.tail _ (.tail _ (mA _ (List.mem_append_right _ q))))
    case uS =>
      rintro ⟨rv3, rn3, r3, tv3, tn3, ts3, fv3, fn3, ps3, add3, mm3⟩ u h' tk' ⟨z1, z2, z3, z4, ⟨z5, z5t⟩, z6, z7, z8, z9, z10⟩ F37 N37
      dsimp only at z1 z2 z3 z4 z5 z5t z6 z7 z8 z9 z10
      try dsimp only at N37
      try dsimp only at F37
      dsimp only
      k_steps
      dsimp only [FePost]
      obtain ⟨m9, F38, g1, g2, g3, g4⟩ : ∃ m9 : Str → Option Value, Fr h₀ L h' m9 ∧ m9 "row" = some (.ref rw2) ∧ m9 "ties" = some (.ref tl) ∧ m9 "fair" = some (.ref fl) ∧ m9 "picks" = some (.int pk tp) := ⟨_, F37, by with_unfolding_all rfl, by with_unfolding_all rfl, by with_unfolding_all rfl, by with_unfolding_all rfl⟩
      have z7' : ∀ p ∈ add3 ++ (add ++ R0), p.1 ≠ 142 ∧ p.1 ≠ tl ∧ p.1 ≠ fl ∧ p.1 ≠ rw2 := fun p hp => by
        rcases List.mem_append.mp hp with q | q
        · exact ⟨(z7 p q).1, (z7 p q).2.1, (z7 p q).2.2.1, (z7 p q).2.2.2.1⟩
        · have := hR1 p (mA p q)
          exact ⟨this.1, this.2.1, this.2.2.1, Nat.ne_of_lt (Nat.lt_trans (hRG p (mA p q)) kG)⟩
      have hbig : ∀ x : Addr, @LT.lt Nat _ I x → x ∉ [I] := fun x hx hm => absurd hx (List.mem_singleton.mp hm ▸ Nat.lt_irrefl _)
      refine FeEnd.intro (⟨rw2, rv3, rn3, r3, tv3, tn3, ts3, fv3, fn3, ps3, add3 ++ add, m9⟩ : Tw) F38 N37 (fun z _ => toM_of g1 g2 g3 g4 z) (fun p hp => ?_) (fun p hp => .tail _ (.tail _ (.tail _ (.tail _ (List.mem_append_right _ (mO p hp)))))) (fun p hp => ?_) ⟨z1, ?_, z3, z4, ⟨?_, ?_⟩, ?_, ?_, Nat.ne_of_gt k2r, Nat.ne_of_gt ktr, Nat.ne_of_gt kfr, ?_, z9, z10⟩
      · rcases List.mem_cons.mp hp with q | q
        · rw [q]; exact .head _
        rcases List.mem_cons.mp q with q | q
        · rw [q]; exact .tail _ (.head _)
        rcases List.mem_cons.mp q with q | q
        · rw [q]; exact .tail _ (.tail _ (.head _))
        rcases List.mem_cons.mp q with q | q
        · rw [q]; exact .tail _ (.tail _ (.tail _ (.head _)))
        · have q : p ∈ (add3 ++ add) ++ R0 := q
          rw [List.append_assoc] at q
          rcases List.mem_append.mp q with q | q
          · exact .tail _ (.tail _ (.tail _ (.tail _ (List.mem_append_left _ q))))
          · exact .tail _ (.tail _ (.tail _ (.tail _ (List.mem_append_right _ (mA p q)))))
      · rcases List.mem_cons.mp hp with q | q
        · rw [q]; exact htlI
        rcases List.mem_cons.mp q with q | q
        · rw [q]; exact hflI
        rcases List.mem_cons.mp q with q | q
        · rw [q]; exact hbig _ (Nat.lt_trans hIG kG)
        rcases List.mem_cons.mp q with q | q
        · rw [q]; exact h142I
        · have q : p ∈ (add3 ++ add) ++ R0 := q
          rw [List.append_assoc] at q
          rcases List.mem_append.mp q with q | q
          · exact hbig _ (Nat.lt_trans hIG (z7 p q).2.2.2.2)
          · exact hA p q
      · show runT pk.toNat rr0 (i + 1) = some (r3, ts3)
        rw [hrun, hgo]
        rw [List.take_length] at z2
        exact z2
      · show fv3.length ≤ _
        omega
      · show ts3.length ≤ _
        omega
      · show TabOk lamQ ((add3 ++ add) ++ R0) ps3
        rw [List.append_assoc]
        exact z6
      · intro p hp
        have hp : p ∈ (add3 ++ add) ++ R0 := hp
        rw [List.append_assoc] at hp
        exact z7' p hp
      · show r3.length + (i + 1) = nl
        omega
end Mine
end
section
open PySem PySem.W PyProof.Rows PySem.Calls PyProof.Rows.LCg
namespace Mine
set_option maxRecDepth 100000 in
set_option maxHeartbeats 8000000 in
theorem ties_make {w : World} {dp un : Nat} {gd : Option (List Code)} {cn : Str} {cs : Scope} {a : Addr} {ccd : Value} {cl : List (Str × Addr)} {outer : List Env} {A₀ : Around} {base h₀ : Heap} {L : Addr} {m : Str → Option Value} {s : Shared} {Q E : Value → Shared → Prop} {p : Program} {loose : List Str} {mean : ExcName → Option Value} {mg mb : Str → Option Value} {news : List (Addr × Obj)} {nm : Addr} {vs ps : List Value} {ns : List Nat} {n : Nat} {pk : Int} {tp : Tok}
  (B : Below A₀ base outer h₀) (F : Fr h₀ L s.heap m) (X : (hd.heap_1 w.params).In h₀) (N : News h₀ L s.heap ((142, tabObj ps.toArray) :: news)) (T : Top p loose mean mg mb h₀) (hk : cs.kind = .function)
  (hC : CodeHd h₀ 144 142) (hno : ∀ x ∈ news, x.1 ≠ 142) (htb : TabOk lamQ news ps)
  (hm : (nm, W.listOf vs.toArray n) ∈ news) (hI : IntsAre vs (zs ns)) (hz : ns.length ≤ 6) (hz1 : 1 ≤ ns.length) (hb : ∀ k ∈ ns, k ≤ 6) (hp0 : 0 ≤ pk) (hp1 : pk < 1000000) (hd : dp + 12 < recursionLimit) (hu : un + 300 < cLine)
  (kN0 : runT pk.toNat (isort keyP (pts0 ns)) ns.length = none → ∀ (T fl : Addr) (fv : List Value) (fn : Nat) (ps : List Value) (h' : Heap) (tk' : Nat), Fr h₀ L h' m → News h₀ L h' ((T, tupO [.none, .ref fl]) :: (fl, W.listOf fv.toArray fn) :: (142, tabObj ps.toArray) :: news) → (∀ v ∈ fv, v = Value.bool true) → fv.length ≤ 1000 → (∀ p ∈ news, @LT.lt Nat _ p.1 fl) → @LT.lt Nat _ fl T → Q (.ref T) { s with heap := h', toks := tk' })
  (kS : ∀ r ts, runT pk.toNat (isort keyP (pts0 ns)) ns.length = some (r, ts) → ts.length ≤ 36 → ∀ (T tl fl : Addr) (tv : List Value) (tn : Nat) (fv : List Value) (fn : Nat) (ps : List Value) (h' : Heap) (tk' : Nat), Fr h₀ L h' m → News h₀ L h' ((T, tupO [.ref tl, .ref fl]) :: (tl, W.listOf tv.toArray tn) :: (fl, W.listOf fv.toArray fn) :: (142, tabObj ps.toArray) :: news) → StrsAre tv (ts.map fun q => ⟨#[q.1, q.2]⟩) → (∀ v ∈ fv, v = Value.bool true) → fv.length ≤ 1000 → (∀ p ∈ news, @LT.lt Nat _ p.1 fl) → @LT.lt Nat _ fl tl → @LT.lt Nat _ tl T → Q (.ref T) { s with heap := h', toks := tk' }) :
  wpAny (model PySem.Challenge.rw_rs0180_01.row.prog w) (ktrTop dp un gd cn cs L a ccd cl outer) (call (.ref 145) [.ref nm, .int pk tp]) Q E s := by
  k_with_none
  k_with "eval ListComp" => (k_here; k_dflt (refine' gc_eval ?gA ?gB ?gC ?gD ?_ ?gE; (case gA => rfl); (case gB => with_unfolding_all rfl); (case gC => rfl); (case gD => decide); (case gE => intro _; rfl)))
  k_with "exec Assign cons ListComp" => (k_here; (first | k_dflt (refine' gc_assign ?gY ?gA ?gS ?gB ?gC ?gD ?_ ?gE; (case gY => rfl); (case gA => rfl); (case gS => with_unfolding_all rfl); (case gB => with_unfolding_all rfl); (case gC => rfl); (case gD => decide); (case gE => intro _; rfl)) | k_dflt (refine' wpAny_Assign_Name ?_ ?gS; (case gS => with_unfolding_all rfl))))
  k_with "pyIter ref" => (with_reducible refine stop_ ?_)
  k_with "call type:enumerate" => (with_reducible refine stop_ ?_)
  k_with "call builtin:sorted" => (with_reducible refine stop_ ?_)
  k_with "compareOp Eq ref ref" => (with_reducible refine stop_ ?_)
  k_with "call ref" => (with_reducible refine stop_ ?_)
  k_with "mem" => ((repeat (first | with_reducible assumption | refine List.mem_cons_of_mem _ ?_)); done)
  k_with "binaryOp FloorDiv int int" => (k_here; k_dflt ((refine' floordiv_int ?fA ?_ ?fB); (case fA => exact (pow_ok (by omega) (by omega)).1); (case fB => exact Or.inl (PyProof.noPylong_of_log2 (pow_ok (by omega) (by omega)).2))))
  k_with "call type:zip" => (with_reducible refine stop_ ?_)
  k_with "exec For" => (with_reducible refine stop_ ?_)
  k_with "exec For Name Name cons nil" => (with_reducible refine stop_ ?_)
  k_with "exec For Name Call cons nil" => (with_reducible refine stop_ ?_)
  k_with "compareOp Eq str str" => (with_reducible refine stop_ ?_)
  k_with "call builtin:list.append" => (with_reducible refine stop_ ?_)
  k_with "subscriptTail Name Slice ref ref" => (with_reducible refine stop_ ?_)
  k_with "binaryOp Add ref ref" => (with_reducible refine stop_ ?_)
  k_with "eval Lambda" => (with_reducible refine stop_ ?_)
  k_with "eval Name" => (k_here; k_dflt (first | (refine' nameX_L ?F ?v ?_ ?a ?b; (case F => k_asm); (case a => rfl); (case b => rfl); (case v => rfl); k_whole) | (refine' nameX_K ?F ?X ?T ?e ?_ ?a ?b; (case F => k_asm); (case X => k_asm); (case T => k_asm); (case a => rfl); (case b => rfl); (case e => k_is); k_whole) | (refine' nameX_B ?F ?X ?T ?e ?v ?n ?_ ?a ?b; (case F => k_asm); (case X => k_asm); (case T => k_asm); (case a => rfl); (case b => rfl); (case e => k_is); (case v => boot_fast); (case n => decide); k_whole)))
  revert X; k_fill; intro X
  have hl := hI.length
  rw [List.length_map] at hl
  refine wpAny_call ?_
  k_dflt (refine' code_def (binds := [("numbers", .ref nm), ("picks", .int pk tp)]) ?k1 ?k2 ?k3 ?k4 ?k5 ?kA ?kF ?kK ?k6 ?k7 ?k8 ?k9 ?kB ?_ ?c2 ?c3 ?c4 ?c5; (case kA => exact rfl); (case kF => exact rfl); (case kK => first | exact rfl | assumption); (case k1 => k_asm); (case k2 => k_asm); (case k3 => k_asm); (case k4 => k_asm); (case k5 => k_asm); (case k6 => k_is); (case k7 => k_is); (case k8 => ktr_room); (case k9 => first | exact BindsTo.of_eq rfl | (refine' kp_binds ?kx ?ke; (case kx => k_in); (case ke => exact fun _ => rfl))); (case c5 => decide); (case kB => exact locs rfl); (case c2 => exact rfl); (case c3 => exact rfl); (case c4 => exact rfl); k_whole; intro g' L' h' FG' F' N' B' X' T'; (try dsimp only); (try k_lift B'); (try k_fold))
  k_steps
  refine unstop ?_
  refine' it_zip (l := nm) ?hh ?hF ?hN ?hx ?hl ?_
  case hh => rfl
  case hF => k_asm
  case hN => k_asm
  case hx => decide +kernel
  case hl => exact List.mem_cons_of_mem _ hm
  intro I h1 Md St hI1 F1 N1 S
  have hmin : min (PySem.Str.ofString "abcdef").cps.size vs.length = ns.length := by
    rw [show (PySem.Str.ofString "abcdef").cps.size = 6 by decide +kernel, hl]; omega
  refine' compS (R := fun i y => ∃ t, y = .str (pt (ns.getD i 0) (97 + i)) t) (S _ _ _) ?ha ?hb F1 N1 ?hc ?hd ?he ?hf ?hL ?hY ?hP ?_ ?_
  case hL => rfl
  case hY => rfl
  case hP => rfl
  case ha => decide
  case hb => rfl
  case hc => exact cov_zip N1 (List.mem_cons_of_mem _ hm) hI1
  case hd => intro p hp; rw [List.mem_singleton.mp hp]; exact List.mem_cons_of_mem _ hm
  case he => rw [hmin, sizeLine_eq]; omega
  case hf => exact fun C => asg_pair (P' := fun i x y => (∃ u, x = .str ⟨#[97 + i]⟩ u) ∧ vs[i]? = some y) rfl (fun i v h q => by
      obtain ⟨T, vals, e1, ⟨c, u, y, hc, hy, rfl⟩, hT⟩ := q
      exact ⟨T, _, y, e1, hT, ⟨u, by rw [abc_at hc]⟩, by simpa using hy⟩) rfl rfl rfl (by decide)
  ·
    rintro E D C i ys h2 tk2 oC hi ⟨oC', m₂, v, u, hoC, hN2, hma, hmb, ⟨tc, rfl⟩, hv⟩ hDC hoff F2 own N2
    obtain rfl : oC = oC' := by simpa using hoC
    obtain ⟨tv, rfl⟩ := zs_item hI hv
    have hk5 : ns.getD i 0 ≤ 6 := getD_le hb
    generalize ns.getD i 0 = kk at *
    try dsimp only
    k_steps
    rw [blank_name]
    exact GOne.intro (by k_asm) (by k_asm) (fun _ h => h) ⟨_, rfl⟩
  · intro D ys h2 tk2 hyl hyR F2 N2 hlt
    rw [hmin] at hyl
    have hS : StrsAre ys (pts (pts0 ns)) := by
      have := strs_of (f := fun i => pt (ns.getD i 0) (97 + i)) (ys := ys) (k := 0) fun j y hy => by rw [Nat.zero_add]; exact hyR j y hy
      rw [hyl] at this
      unfold pts pts0
      rw [List.map_map]
      exact this
    clear hyR
    try dsimp only
    k_steps
    refine unstop ?_
    refine' For_invVF ?kF rfl rfl ?kG
    case kF => k_asm
    k_steps
    refine unstop ?_
    rename News g' L' _ _ => N3
    rename _ ∧ _ ∧ AllLt _ _ => l3
    rename_i rw hha hhb F3
    have hC' : CodeHd g' 144 142 := hC.keeps FG'.keep
    have hrD : D ≠ rw := Nat.ne_of_lt l3.1
    have hr142 : (142 : Addr) ≠ rw := Nat.ne_of_lt l3.2.1
    have hnrw : ∀ x ∈ news, x.1 ≠ rw := fun x hx => Nat.ne_of_lt (allLt_mem' l3.2.2 x hx)
    have hnD : ∀ x ∈ news, x.1 ≠ D := fun x hx => Nat.ne_of_lt (hlt x (.tail _ hx))
    have h142D : (142 : Addr) ≠ D := Nat.ne_of_lt (hlt (142, _) (.head _))
    refine' for_list (σ := Tc) (l := D) (vs := ys) (fun m _ => m) (tcN rw news) (fun i c => StrsAre c.rv (pts (isort keyP ((pts0 ns).take i))) ∧ TabOk lamQ (c.add ++ news) c.ps ∧ ∀ p ∈ c.add, p.1 ≠ 142 ∧ p.1 ≠ rw) ⟨[], 0, ps, []⟩ ?hh ?hF ?hN ?hl ?hn ?hne ?he ?hp ?ht ?hd
    case hh => rfl
    case hF => exact F3
    case hN => exact N3
    case hl => exact .tail _ (.head _)
    case hn => intro p hp; exact tc_in hp
    case hne =>
      intro p hp
      rcases List.mem_cons.mp hp with q | q
      · rw [q]; exact hrD.symm
      rcases List.mem_cons.mp q with q | q
      · rw [q]; exact h142D
      · exact hnD p q
    case he => exact fun _ _ => rfl
    case hp => exact ⟨.nil, htb, fun p hp => nomatch hp⟩
    case ht =>
      rintro I i v ⟨rv, rn, qs, add⟩ h4 tk4 own hv ⟨q1, q2, q3⟩ hoff hown hDo hIo F4 N4
      obtain ⟨x, tx, rfl, hx⟩ := StrsAre.item hS i v hv
      dsimp only at q1 q2 q3
      try dsimp only at hoff
      try dsimp only at N4
      try dsimp only at F4
      try dsimp only
      k_steps
      refine unstop ?_
      have h142 : ∀ p ∈ own, p.1 ≠ 142 := fun p hp e => hoff (142, _) (.tail _ (.head _)) (by show (142 : Addr) ∈ _; rw [← e]; exact hown p hp)
      have hrwo : ∀ p ∈ own, p.1 ≠ rw := fun p hp e => hoff (rw, _) (.head _) (by show rw ∈ _; rw [← e]; exact hown p hp)
      have hRr : ∀ x ∈ add ++ (news ++ own), x.1 ≠ 142 ∧ x.1 ≠ rw := fun x hx => by
        rcases List.mem_append.mp hx with q | q
        · exact q3 x q
        rcases List.mem_append.mp q with q | q
        · exact ⟨hno x q, hnrw x q⟩
        · exact ⟨h142 x q, hrwo x q⟩
      have N5 : News g' L' h4 ((142, tabObj qs.toArray) :: (rw, W.listOf rv.toArray rn) :: (add ++ (news ++ own))) := newsSub N4 fun p hp => tc_in2 hp
      refine' lam_make (ps := qs) (cod := add ++ news) (rest := (rw, W.listOf rv.toArray rn) :: (add ++ (news ++ own))) ?lF N5 ?lT hC' ?lc ?lr ?lq q2 ?lt ?_
      case lF => k_asm
      case lT => k_asm
      case lc => rfl
      case lr =>
        intro x hx
        rcases List.mem_cons.mp hx with q | q
        · rw [q]; exact hr142.symm
        · exact (hRr x q).1
      case lq =>
        show (PySem.Str.ofString "_law_ties" ++ PySem.Str.ofString ".<locals>.") ++ PySem.Str.ofString "<lambda>" = lamQ
        decide +kernel
      case lt => exact fun p hp => .tail _ ((List.mem_append.mp hp).elim (fun q => List.mem_append_left _ q) fun q => List.mem_append_right _ (List.mem_append_left _ q))
      intro f ps' add' h5 tk5 F5 N6 t6 a6 lam6 lt6
      have ha'rw : ∀ x ∈ add', x.1 ≠ rw := fun x hx => Nat.ne_of_gt (lt6 (rw, _) (.head _) x hx)
      have N7 : News g' L' h5 ((rw, W.listOf rv.toArray rn) :: (142, tabObj (List.toArray ps')) :: (add' ++ (add ++ (news ++ own)))) := newsSub N6 fun p hp => tc_in3 hp
      k_steps
      refine unstop ?_
      obtain ⟨⟨k, c⟩, hkc, rfl⟩ : ∃ p : Nat × Nat, (pts0 ns)[i]? = some p ∧ pt p.1 p.2 = x := by
        rw [pts, List.getElem?_map] at hx
        exact Option.map_eq_some_iff.mp hx
      have hr6 : ∀ p ∈ isort keyP ((pts0 ns).take i), p.1 ≤ 6 := fun p hp => pts0_le hb p (List.mem_of_mem_take ((isort_perm _ _).mem_iff.mp hp))
      have hlr : rv.length ≤ 6 := by
        have e1 := StrsAre.length q1
        have e2 := (isort_perm keyP ((pts0 ns).take i)).length_eq
        have e3 : ((pts0 ns).take i).length ≤ (pts0 ns).length := by rw [List.length_take]; omega
        have e4 : (pts0 ns).length = ns.length := by simp
        rw [List.length_map] at e1
        omega
      show wpAny _ _ (call (.ref 30) [.ref rw, .str (pt k c) tx] [(PySem.Str.ofString "key", .ref f)]) _ _ _
      refine' insR_str (f := f) (ss := pts (isort keyP ((pts0 ns).take i))) ?lB ?lF ?lX N7 ?lT ?lK ?lz q1 ?lS ?lx ?lf ?ls (.head ?lu) ?ld ?le ?_
      case lB => k_asm
      case lF => k_asm
      case lX => k_asm
      case lT => k_asm
      case lK => rfl
      case lz => omega
      case lS => exact pts_size hr6
      case lx => exact pts_size (pts0_le hb) _ (List.mem_map_of_mem (List.mem_of_getElem? hkc))
      case lf => exact lam6.sub fun p hp => tc_in4 hp
      case ls => exact pts_sorted (isort_sorted _ _)
      case lu =>
        intro x hx
        rcases List.mem_cons.mp hx with q | q
        · rw [q]; exact hr142
        rcases List.mem_append.mp q with q | q
        · exact ha'rw x q
        · exact (hRr x q).2
      case ld => ktr_room
      case le => ktr_units
      intro h6 tk6 F6 N8
      k_steps
      dsimp only [FePost]
      obtain ⟨oI, hIo⟩ := hIo
      have lI : ∀ y ∈ add', @LT.lt Nat _ I y.1 := fun y hy => lt6 (I, oI) (.tail _ (List.mem_append_right _ (List.mem_append_right _ hIo))) y hy
      have lD : ∀ y ∈ add', @LT.lt Nat _ D y.1 := fun y hy => lt6 (D, _) (.tail _ (List.mem_append_right _ (List.mem_append_right _ hDo))) y hy
      refine FeEnd.intro (⟨insAt rv _ (.str (pt k c) tx), rn + 1, ps', add' ++ add⟩ : Tc) (by k_asm) N8 (fun z hz => if_neg hz) (fun p hp => tc_in5 hp) (fun p hp => .tail _ (.tail _ (List.mem_append_right _ (List.mem_append_right _ (List.mem_append_right _ hp))))) ?hf ⟨?ga, ?gb, ?gc⟩
      case hf =>
        intro p hp
        rcases List.mem_cons.mp hp with q | q
        · rw [q]; exact hoff (rw, W.listOf rv.toArray rn) (.head _)
        rcases List.mem_cons.mp q with q | q
        · rw [q]; exact hoff (142, tabObj qs.toArray) (.tail _ (.head _))
        rcases List.mem_append.mp q with q | q
        · rcases List.mem_append.mp q with q | q
          · intro hm
            rcases List.mem_cons.mp hm with r | r
            · exact absurd (lI p q) (r ▸ Nat.lt_irrefl _)
            · exact absurd (lD p q) (List.mem_singleton.mp r ▸ Nat.lt_irrefl _)
          · exact hoff p (.tail _ (.tail _ (List.mem_append_left _ q)))
        · exact hoff p (.tail _ (.tail _ (List.mem_append_right _ q)))
      case ga =>
        have e : (pts0 ns).take (i + 1) = (pts0 ns).take i ++ [(k, c)] := by rw [List.take_add_one, hkc]; rfl
        show StrsAre _ (pts (isort keyP ((pts0 ns).take (i + 1))))
        rw [e, isort_snoc, ← pts_insR]
        exact strs_insAt q1 _ _ _
      case gb => exact t6.mono fun p hp => by rw [List.append_assoc]; exact hp
      case gc =>
        intro p hp
        rcases List.mem_append.mp hp with q | q
        · exact ⟨a6 p q, ha'rw p q⟩
        · exact q3 p q
    case hd =>
      rintro ⟨rv, rn, qs, add⟩ u h4 tk4 ⟨q1, q2, q3⟩ F4 N4
      dsimp only at q1 q2 q3
      try dsimp only at N4
      try dsimp only at F4
      try dsimp only
      k_steps
      refine unstop ?_
      have e0 : (pts0 ns).take ys.length = pts0 ns := List.take_of_length_le (by rw [hyl]; simp)
      rw [e0] at q1
      have N5 : News g' L' h4 ((142, tabObj qs.toArray) :: (rw, W.listOf rv.toArray rn) :: (D, lst ys) :: (add ++ news)) := newsSub N4 fun p hp => tc_in6 hp
      refine' lam_make (ps := qs) (cod := add ++ news) (rest := (rw, W.listOf rv.toArray rn) :: (D, lst ys) :: (add ++ news)) ?lF N5 ?lT hC' ?lc ?lr ?lq q2 ?lt ?_
      case lF => k_asm
      case lT => k_asm
      case lc => rfl
      case lr =>
        intro x hx
        rcases List.mem_cons.mp hx with q | q
        · rw [q]; exact hr142.symm
        rcases List.mem_cons.mp q with q | q
        · rw [q]; exact h142D.symm
        rcases List.mem_append.mp q with q | q
        · exact (q3 x q).1
        · exact hno x q
      case lq =>
        show (PySem.Str.ofString "_law_ties" ++ PySem.Str.ofString ".<locals>.") ++ PySem.Str.ofString "<lambda>" = lamQ
        decide +kernel
      case lt => exact fun p hp => .tail _ (.tail _ hp)
      intro f ps' add' h5 tk5 F5 N6 t6 a6 lam6 lt6
      have N7 : News g' L' h5 ((D, lst ys) :: (rw, W.listOf rv.toArray rn) :: (142, tabObj (List.toArray ps')) :: (add' ++ (add ++ news))) := newsSub N6 fun p hp => tc_in7 hp
      clear N6 N5 N4
      k_steps
      refine unstop ?_
      show wpAny _ _ (call (.builtin "sorted") [.ref D] [(PySem.Str.ofString "key", .ref f)]) _ _ _
      refine' sorted_len (f := f) (ss := pts (pts0 ns)) ?lB ?lF ?lX N7 ?lT ?lK (.head _) hS ?lS ?lz ?lf ?ld ?lu ?_
      case lB => k_asm
      case lF => k_asm
      case lX => k_asm
      case lT => k_asm
      case lK => rfl
      case lS => exact pts_size (pts0_le hb)
      case lz => omega
      case lf => exact lam6.sub fun p hp => tc_in8 hp
      case ld => ktr_room
      case lu => ktr_units
      intro D2 out c2 h6 tk6 F6 N8 lt8 hS2
      rw [isort_pts] at hS2
      k_steps
      refine unstop ?_
      refine' eq_rows N8 ?k1 (.head _) q1 hS2 ?k2 ?k3 ?_
      case k1 => exact .tail _ (.tail _ (.head _))
      case k2 => exact pts_ok (fun p hp => pts0_ok hz p ((isort_perm _ _).mem_iff.mp hp))
      case k3 => ke_room
      k_steps
      refine unstop ?_
      rename News g' L' _ _ => N9
      rename _ < _ ∧ _ ∧ _ ∧ _ ∧ _ ∧ AllLt _ _ => ltl
      rename _ < _ ∧ _ ∧ _ ∧ _ ∧ AllLt _ _ => lfl
      obtain ⟨tl, fl, et, ef, N9⟩ := pick2 N9
      subst et ef
      obtain ⟨lfl1, lfl2, lfl3, lfl4, lfl5⟩ := lfl
      obtain ⟨ltl0, ltl1, ltl2, ltl3, ltl4, ltl5⟩ := ltl
      have N10 : News g' L' _ ((tl, W.listOf ([] : List Value).toArray 0) :: (fl, W.listOf [Value.bool true].toArray 0) :: (rw, W.listOf rv.toArray rn) :: (142, tabObj (List.toArray ps')) :: (add' ++ (add ++ news))) := newsSub N9 fun p hp => tc_in9 hp
      have hR : ∀ x ∈ add' ++ (add ++ news), @LT.lt Nat _ x.1 fl ∧ @LT.lt Nat _ x.1 tl ∧ x.1 ≠ rw ∧ x.1 ≠ 142 := fun x hx => by
        refine ⟨allLt_mem' lfl5 x hx, allLt_mem' ltl5 x hx, ?_⟩
        rcases List.mem_append.mp hx with q | q
        · exact ⟨Nat.ne_of_gt (lt6 (rw, _) (.head _) x q), a6 x q⟩
        rcases List.mem_append.mp q with q | q
        · exact ⟨(q3 x q).2, (q3 x q).1⟩
        · exact ⟨hnrw x q, hno x q⟩
      have hnmR : (nm, W.listOf vs.toArray n) ∈ add' ++ (add ++ news) := List.mem_append_right _ (List.mem_append_right _ hm)
      have hnR : ∀ p ∈ news, p ∈ add' ++ (add ++ news) := fun p hp => List.mem_append_right _ (List.mem_append_right _ hp)
      clear N9 lfl5 ltl5 lt6 a6 lam6 lt8 q3 q2
      generalize add' ++ (add ++ news) = R0 at N10 hR hnmR hnR t6
      refine' For_invVF ?kF2 rfl rfl ?kG2
      case kF2 => k_asm
      k_steps
      refine' len_mem N10 (.tail _ (.tail _ (.tail _ (.tail _ hnmR)))) ?lz ?_
      case lz => omega
      intro t7 tk7
      obtain ⟨nl, hnl⟩ : ∃ nl : Nat, Stop (nl = vs.length) := ⟨_, rfl⟩
      rw [← (show nl = vs.length from hnl)]
      k_steps
      refine unstop ?_
      rename IsRange _ _ _ _ _ _ _ _ => hr
      rename News g' L' _ ((tl, _) :: _) => N11
      have hnl' : nl = vs.length := hnl
      rename Fr g' L' _ _ => F12
      obtain ⟨m0, F13, f1, f2, f3, f4⟩ : ∃ m0 : Str → Option Value, Fr g' L' _ m0 ∧ m0 "row" = some (.ref rw) ∧ m0 "ties" = some (.ref tl) ∧ m0 "fair" = some (.ref fl) ∧ m0 "picks" = some (.int pk tp) := ⟨_, F12, by with_unfolding_all rfl, by with_unfolding_all rfl, by with_unfolding_all rfl, by with_unfolding_all rfl⟩
      clear F12
      have hrl : rv.length = ns.length := by
        rw [StrsAre.length q1, List.length_map, (isort_perm _ _).length_eq]; simp
      refine' for_range (σ := Tw) (n := nl) (fun _ c => toM c.rw tl fl pk tp c.mm) (twN tl fl R0) (twP pk (isort keyP (pts0 ns)) R0 tl fl nl) ⟨rw, rv, rn, isort keyP (pts0 ns), [], 0, [], [.bool true], 0, ps', [], m0⟩ ?hh9 ?hF9 N11 hr ?hs9 ?hn9 ?hi9 ?he9 ?hp9 ?ht9 ?hd9
      case hh9 => rfl
      case hF9 => exact F13
      case hs9 => exact small_one (by omega) (by omega) (by omega) (by omega)
      case hn9 => exact rangeSize_nat _ _
      case hi9 => exact fun p hp => hp
      case he9 =>
        exact fun z _ => toM_of f1 f2 f3 f4 z
      case hp9 =>
        refine ⟨q1, rfl, .nil, fun v hv => List.mem_singleton.mp hv, ⟨by simp, by simp⟩, t6, fun p hp => ?_, hr142.symm, Nat.ne_of_lt ltl3, Nat.ne_of_lt lfl3, ?_, fun p hp => ?_, isort_sorted _ _⟩
        · exact ⟨(hR p hp).2.2.2, Nat.ne_of_lt (hR p hp).2.1, Nat.ne_of_lt (hR p hp).1, (hR p hp).2.2.1⟩
        · rw [(isort_perm _ _).length_eq]; simp; omega
        · have hp := (isort_perm _ _).mem_iff.mp hp
          exact ⟨pts0_le hb p hp, pts0_lo p hp, pts0_ok hz p hp⟩
      case ht9 =>
        intro I i t c h8 tk8 own hi hPc hoff hown hIo F14 N14
        refine' ties_turn ?uB F14 ?uX N14 ?uT hC' hp0 hp1 hi (by omega) hPc hoff hown hIo (Nat.ne_of_lt ltl0) (Nat.ne_of_gt lfl4) (Nat.ne_of_gt ltl4) ?uD ?uU ?uE ?uN
        case uB => k_asm
        case uX => k_asm
        case uT => k_asm
        case uD => ktr_room
        case uU => ktr_units
        case uE => passes_own
        case uN =>
          intro hnone T fv fn ps3 h' tk' m' F' N' z1 z2 z3
          k_steps
          rename News h₀ L _ _ => M1
          refine kN0 (by rw [← hl, ← hnl']; exact hnone) T fl fv fn ps3 _ _ (by k_asm) (newsSub M1 fun p hp => ?_) z1 (by omega) (fun p hp => (hR p (hnR p hp)).1) z3
          rcases List.mem_cons.mp hp with q | q
          · rw [q]; exact .head _
          rcases List.mem_cons.mp q with q | q
          · rw [q]; exact .tail _ (.head _)
          rcases List.mem_cons.mp q with q | q
          · rw [q]; exact .tail _ (.tail _ (.head _))
          · exact .tail _ (.tail _ (.tail _ (hnR p q)))
      case hd9 =>
        rintro ⟨rw2, rv2, rn2, r2, tv2, tn2, ts2, fv2, fn2, ps2, add2, mm2⟩ u h8 tk8 ⟨p1, p2, p3, p4, ⟨p5, p5t⟩, p6, p7, p8, p9, p10, p11, p12, p13⟩ F14 N14
        dsimp only at p1 p2 p3 p4 p5 p5t p6 p7 p8 p9 p10 p11 p12 p13
        try dsimp only at N14
        try dsimp only [toM] at F14
        k_steps
        rename _ < _ ∧ _ ∧ _ ∧ _ ∧ AllLt _ _ => lT
        rename News h₀ L _ _ => M1
        refine kS r2 ts2 (by rw [← hl, ← hnl']; exact p2) (by omega) _ tl fl tv2 tn2 fv2 fn2 ps2 _ _ (by k_asm) (newsSub M1 fun p hp => ?_) p3 p4 (by omega) (fun p hp => (hR p (hnR p hp)).1) ltl0 lT.1
        rcases List.mem_cons.mp hp with q | q
        · rw [q]; exact .head _
        rcases List.mem_cons.mp q with q | q
        · rw [q]; exact .tail _ (.head _)
        rcases List.mem_cons.mp q with q | q
        · rw [q]; exact .tail _ (.tail _ (.head _))
        rcases List.mem_cons.mp q with q | q
        · rw [q]; exact .tail _ (.tail _ (.tail _ (.tail _ (.head _))))
        · exact .tail _ (.tail _ (.tail _ (.tail _ (.tail _ (List.mem_append_right _ (hnR p q))))))
end Mine
end
section
open PySem PySem.W PyProof.Rows PySem.Calls PyProof.Rows.LCg
namespace Mine
theorem bools_car : ∀ bs : List Bool, CarriedAll (bs.map Value.bool) (bs.map PyData.bool)
  | [] => .nil
  | b :: r => .cons (.bool b) (bools_car r)
theorem bools_lay : ∀ bs : List Bool, PyData.canLayAll0 (bs.map PyData.bool) = true
  | [] => rfl
  | b :: r => by rw [List.map_cons, PyData.canLayAll0, bools_lay r]; rfl
theorem bools_deep : ∀ bs : List Bool, PyData.depthAll (bs.map PyData.bool) = 0
  | [] => rfl
  | b :: r => by rw [List.map_cons, PyData.depthAll, bools_deep r]; rfl
theorem bools_any (bs : List Bool) : ((bs.map PyData.bool).any fun y => PyData.eqv y (.bool false)) = !bs.all id := by
  k_with_none
  induction bs with
  | nil => rfl
  | cons b r ih => rw [List.map_cons, List.any_cons, ih, List.all_cons]; cases b <;> simp [PyData.eqv]
section
variable {prog : Program} {w : World} {A : Around} {E : Value → Shared → Prop} {s : Shared} {h₀ : Heap} {L l : Addr} {news : Fa} {vs : List Value} {bs : List Bool} {n : Nat} {Q : Value → Shared → Prop}
theorem in_bools (N : News h₀ L s.heap news) (hm : (l, W.listOf vs.toArray n) ∈ news) (hv : vs = bs.map Value.bool) (hu : A.units + 64 < cLine) (h : Q (.bool (!bs.all id)) s) : wpAny (model prog w) A (compareOp .In (.bool false) (.ref l)) Q E s := by
  subst hv
  refine PySem.SeqAt.in_list_reads (d := .bool false) (reads_newData (News.isList N hm) (bools_car bs)) (.bool _) (bools_lay bs) rfl ?_ (by rw [bools_any]; exact h)
  rw [bools_deep]; have : min 0 (PyData.depth (.bool false)) = 0 := Nat.zero_min _
  omega
theorem notin_bools (N : News h₀ L s.heap news) (hm : (l, W.listOf vs.toArray n) ∈ news) (hv : vs = bs.map Value.bool) (hu : A.units + 64 < cLine) (h : Q (.bool (bs.all id)) s) : wpAny (model prog w) A (compareOp .NotIn (.bool false) (.ref l)) Q E s := by
  subst hv
  refine PySem.SeqAt.notIn_list_reads (d := .bool false) (reads_newData (News.isList N hm) (bools_car bs)) (.bool _) (bools_lay bs) rfl ?_ (by rw [bools_any, Bool.not_not]; exact h)
  rw [bools_deep]; have : min 0 (PyData.depth (.bool false)) = 0 := Nat.zero_min _
  omega
end
theorem trues_map {vs : List Value} (h : ∀ v ∈ vs, v = Value.bool true) : vs = (List.replicate vs.length true).map Value.bool := by
  rw [List.map_replicate]; exact List.eq_replicate_of_mem h
theorem lg_in {L : Addr} {o1 o2 o3 o4 o5 : Obj} {R : Fa} {p : Addr × Obj} (h : p ∈ (142, tabObj #[]) :: (L + 1 + 1 + 1 + 1 + 1, o5) :: (L + 1 + 1 + 1 + 1, o4) :: (L + 1 + 1 + 1, o3) :: (L + 1 + 1, o2) :: (L + 1, o1) :: R) : p ∈ cellsN L o1 o2 o3 o4 o5 R := by
  simp only [List.mem_cons] at h ⊢; grind
theorem lg_in2 {a b c d e f g t p : Addr × Obj} {R : Fa} (h : p ∈ c :: a :: b :: t :: d :: e :: f :: g :: R) : p ∈ a :: b :: t :: c :: d :: e :: f :: g :: R := by
  simp only [List.mem_cons] at h ⊢; grind
theorem lg_in3 {a b x c d e f g t p : Addr × Obj} {R : Fa} (h : p ∈ c :: a :: b :: x :: t :: d :: e :: f :: g :: R) : p ∈ a :: b :: x :: t :: c :: d :: e :: f :: g :: R := by
  simp only [List.mem_cons] at h ⊢; grind
theorem lt5 (L : Nat) : L < L + 1 + 1 + 1 + 1 + 1 := by omega
theorem lg_upd {L : Addr} {o1 o2 o3 o4 : Obj} {R : Fa} (hL : @LT.lt Nat _ 142 L) (hR : ∀ p ∈ R, @LT.lt Nat _ (L + 1 + 1 + 1 + 1 + 1) p.1) : ∀ p ∈ (L + 1 + 1 + 1 + 1, o4) :: (L + 1 + 1 + 1, o3) :: (L + 1 + 1, o2) :: (L + 1, o1) :: R, p.1 ≠ L + 1 + 1 + 1 + 1 + 1 := by
  intro p hp
  rcases List.mem_cons.mp hp with q | hp
  · rw [q]; exact (cl_apart L hL).2 4 5 (by decide)
  rcases List.mem_cons.mp hp with q | hp
  · rw [q]; exact (cl_apart L hL).2 3 5 (by decide)
  rcases List.mem_cons.mp hp with q | hp
  · rw [q]; exact (cl_apart L hL).2 2 5 (by decide)
  rcases List.mem_cons.mp hp with q | hp
  · rw [q]; exact (cl_apart L hL).2 1 5 (by decide)
  · exact (cl_ne (hR p hp)).2.2.2.2
theorem lg_ne {L : Addr} {o1 o2 o3 o4 o5 : Obj} {R : Fa} (hL : @LT.lt Nat _ 142 L) (hR : ∀ p ∈ R, @LT.lt Nat _ (L + 1 + 1 + 1 + 1 + 1) p.1) : ∀ x ∈ (L + 1 + 1 + 1 + 1 + 1, o5) :: (L + 1 + 1 + 1 + 1, o4) :: (L + 1 + 1 + 1, o3) :: (L + 1 + 1, o2) :: (L + 1, o1) :: R, x.1 ≠ 142 := by
  intro p hp
  rcases List.mem_cons.mp hp with q | hp
  · rw [q]; exact ((cl_apart L hL).1 5 (by decide)).symm
  rcases List.mem_cons.mp hp with q | hp
  · rw [q]; exact ((cl_apart L hL).1 4 (by decide)).symm
  rcases List.mem_cons.mp hp with q | hp
  · rw [q]; exact ((cl_apart L hL).1 3 (by decide)).symm
  rcases List.mem_cons.mp hp with q | hp
  · rw [q]; exact ((cl_apart L hL).1 2 (by decide)).symm
  rcases List.mem_cons.mp hp with q | hp
  · rw [q]; exact ((cl_apart L hL).1 1 (by decide)).symm
  · exact Nat.ne_of_gt (Nat.lt_trans hL (Nat.lt_trans (lt5 L) (hR p hp)))
set_option maxRecDepth 100000 in
set_option maxHeartbeats 8000000 in
theorem law_g {w : World} {dp un : Nat} {gd : Option (List Code)} {outer : List Env} {A₀ : Around} {base h₀ : Heap} {L a : Addr} {ccd : Value} {s : Shared} {Q : Flow → Shared → Prop} {E : Value → Shared → Prop} {p : Program} {loose : List Str} {mean : ExcName → Option Value} {mg mb m : Str → Option Value} {R : Fa} {v : Vv} {o1 o2 o3 o4 o5 : Obj} {Ct Dd rw : Addr} {cu dv rv : List Value} {qc qd qr : Nat} {Df : Addr} {fv : List Value} {qf : Nat} {v5 : Option Value}
  (B : Below A₀ base outer h₀) (F : Fr h₀ L s.heap m) (X : (hd.heap_1 w.params).In h₀) (T : Top p loose mean mg mb h₀) (N : News h₀ L s.heap (cellsN L o1 o2 o3 o4 o5 R)) (hb : Base w v R) (hlc : Loc v m) (hL : @LT.lt Nat _ 142 L) (hR : ∀ p ∈ R, @LT.lt Nat _ (L + 1 + 1 + 1 + 1 + 1) p.1) (hd : dp + 20 < recursionLimit) (hu : un + 400 < cLine)
  (d2 : o2.data = .cell (some (.ref Ct))) (d3 : o3.data = .cell (some (.ref Dd))) (d4 : o4.data = .cell (some (.ref rw))) (hC : (Ct, W.listOf cu.toArray qc) ∈ R) (hD : (Dd, W.listOf dv.toArray qd) ∈ R) (hr : (rw, W.listOf rv.toArray qr) ∈ R) (iC : IntsAre cu (zs (cntL v.ms))) (iD : IntsAre dv (zs (downL v.ms))) (iR : IntsAre rv (zs (rowL v.ms)))
  (hCd : CodeHd h₀ 144 142) (d5 : o5.data = .cell v5) (hmf : m (PySem.Str.ofString "fits") = some (.ref Df)) (hf : (Df, W.listOf fv.toArray qf) ∈ R) (iF : fv = (List.range v.ms.length).map (fun f => Value.bool (fitB (downL v.ms) (f + 1))))
  (kG : ∀ h' tk' m' (ps : List Value), Fr h₀ L h' m' → News h₀ L h' [(142, tabObj ps.toArray)] → Q (.ret (.bool true)) { s with heap := h', toks := tk' }) :
  wpAny (model PySem.Challenge.rw_rs0180_01.row.prog w) (lawTop dp un gd L a ccd outer) (execs (lawB.drop 12) (lawEnv L a ccd)) Q E s := by
  k_with_none
  k_with "eval ListComp" => (k_here; k_dflt (refine' gc_eval ?gA ?gB ?gC ?gD ?_ ?gE; (case gA => rfl); (case gB => with_unfolding_all rfl); (case gC => rfl); (case gD => decide); (case gE => intro _; rfl)))
  k_with "exec Assign cons ListComp" => (k_here; (first | k_dflt (refine' gc_assign ?gY ?gA ?gS ?gB ?gC ?gD ?_ ?gE; (case gY => rfl); (case gA => rfl); (case gS => with_unfolding_all rfl); (case gB => with_unfolding_all rfl); (case gC => rfl); (case gD => decide); (case gE => intro _; rfl)) | k_dflt (refine' wpAny_Assign_Name ?_ ?gS; (case gS => with_unfolding_all rfl))))
  k_with "pyIter ref" => (with_reducible refine stop_ ?_)
  k_with "call type:enumerate" => (with_reducible refine stop_ ?_)
  k_with "storeName" => (k_here; k_dflt (first | (refine' storeX_L ?F ?N ?_ ?a ?b; (case F => k_asm); (case N => k_asm); (case a => rfl); (case b => rfl); k_whole; intro _ _ _; (try k_sweep)) | (refine stop_ ?_)))
  k_with "mem" => ((repeat (first | with_reducible assumption | refine List.mem_cons_of_mem _ ?_)); done)
  k_with "eval Name" => (k_here; k_dflt (first | (refine' nameX_L ?F ?v ?_ ?a ?b; (case F => k_asm); (case a => rfl); (case b => rfl); (case v => rfl); k_whole) | (refine' nameX_K ?F ?X ?T ?e ?_ ?a ?b; (case F => k_asm); (case X => k_asm); (case T => k_asm); (case a => rfl); (case b => rfl); (case e => k_is); k_whole) | (refine' nameX_B ?F ?X ?T ?e ?v ?n ?_ ?a ?b; (case F => k_asm); (case X => k_asm); (case T => k_asm); (case a => rfl); (case b => rfl); (case e => k_is); (case v => boot_fast); (case n => decide); k_whole)))
  k_with "pyIter str" => (with_reducible refine stop_ ?_)
  k_with "call builtin:str.join" => (with_reducible refine stop_ ?_)
  k_with "call builtin:str.count" => (with_reducible refine stop_ ?_)
  k_with "compareOp Eq ref ref" => (with_reducible refine stop_ ?_)
  k_with "call ref" => (with_reducible refine stop_ ?_)
  k_with "call builtin:sum" => (with_reducible refine stop_ ?_)
  k_with "compareOp In bool ref" => (with_reducible refine stop_ ?_)
  k_with "compareOp NotIn bool ref" => (with_reducible refine stop_ ?_)
  k_with "compareOp Is bool bool" => (with_reducible refine stop_ ?_)
  k_with "subscriptTail Name Constant ref int" => (with_reducible refine stop_ ?_)
  generalize hb0 : lawB.drop 12 = b0
  conv at hb0 => lhs; whnf
  subst hb0
  unfold lawTop lawEnv
  generalize hb0 : lawS = b0
  conv at hb0 => lhs; whnf
  subst hb0
  have F1 := frCongr F (toL_of hlc)
  unfold toL at F1
  clear F
  revert X; k_fill; intro X
  have F2 : Fr h₀ L s.heap (fun z => if z = PySem.Str.ofString "fits" then some (.ref Df) else toL v m z) := frCongr F1 fun z => by
    by_cases e : z = PySem.Str.ofString "fits"
    · rw [if_pos e, e]; exact ((toL_of hlc _).symm.trans hmf)
    · rw [if_neg e]; rfl
  unfold toL at F2
  clear F1
  have mR : ∀ p ∈ R, p ∈ cellsN L o1 o2 o3 o4 o5 R := fun p hp => .tail _ (.tail _ (.tail _ (.tail _ (.tail _ (.tail _ hp)))))
  have hml := hb.ml
  have hk6 := hb.k6
  have hk1 := hb.k1
  k_steps
  refine unstop ?_
  rename News h₀ L _ _ => N1
  refine' item_ints N1 (mR _ hb.mD) hb.iD (by decide) ?z1 ?z2 ?_
  case z1 => have e1 := hb.iD.length; rw [List.length_map, hb.cl] at e1; omega
  case z2 => rw [List.length_map, hb.cl]; decide
  intro pk tp hpk
  have hpk := cell_get hb.cb hpk
  k_steps
  refine unstop ?_
  rename News h₀ L _ _ => N2
  have N3 : News h₀ L _ ((142, tabObj ([] : List Value).toArray) :: (L + 1 + 1 + 1 + 1 + 1, o5) :: (L + 1 + 1 + 1 + 1, o4) :: (L + 1 + 1 + 1, o3) :: (L + 1 + 1, o2) :: (L + 1, o1) :: R) := newsSub N2 fun p hp => lg_in hp
  have hno : ∀ x ∈ (L + 1 + 1 + 1 + 1 + 1, o5) :: (L + 1 + 1 + 1 + 1, o4) :: (L + 1 + 1 + 1, o3) :: (L + 1 + 1, o2) :: (L + 1, o1) :: R, x.1 ≠ 142 := lg_ne hL hR
  refine' ties_make (ps := []) (ns := v.ms) (vs := v.ym) (n := v.qM) ?lB ?lF ?lX N3 ?lT ?lK hCd hno .nil ?lm hb.iM ?l1 ?l2 hb.mb hpk.1 hpk.2 ?ld ?lu ?kN ?kS
  case lB => k_asm
  case lF => k_asm
  case lX => k_asm
  case lT => k_asm
  case lK => rfl
  case lm => exact .tail _ (.tail _ (.tail _ (.tail _ (.tail _ hb.mM))))
  case l1 => omega
  case l2 => omega
  case ld => ktr_room
  case lu => ktr_units
  case kN =>
    intro hnone Tp fl gv gn pt2 h2 tk2 F3 N4 hg1 hg2 hl1 hl2
    have hX := ties_none hb.mb (by omega) hnone
    have l5 : @LT.lt Nat _ (L + 1 + 1 + 1 + 1 + 1) fl := hl1 _ (.head _)
    k_steps
    refine unstop ?_
    rename News h₀ L _ _ => N5
    have N6 : News h₀ L _ ((L + 1 + 1 + 1 + 1 + 1, o5) :: (Tp, tupO [.none, .ref fl]) :: (fl, W.listOf gv.toArray gn) :: (142, tabObj pt2.toArray) :: (L + 1 + 1 + 1 + 1, o4) :: (L + 1 + 1 + 1, o3) :: (L + 1 + 1, o2) :: (L + 1, o1) :: R) := newsSub N5 fun p hp => lg_in2 hp
    refine storeX_C (F := by k_asm) N6 rfl (.head ?_) d5 ?_
    · intro p hp
      rcases List.mem_cons.mp hp with q | hp
      · rw [q]; exact Nat.ne_of_gt (Nat.lt_trans l5 hl2)
      rcases List.mem_cons.mp hp with q | hp
      · rw [q]; exact Nat.ne_of_gt l5
      rcases List.mem_cons.mp hp with q | hp
      · rw [q]; exact (cl_apart L hL).1 5 (by decide)
      · exact lg_upd hL hR p hp
    intro h3 o5' F4 N7 d5'
    k_steps
    refine unstop ?_
    rename News h₀ L _ _ => N8
    refine in_bools N8 (.tail _ (.tail _ (.head _))) (trues_map hg1) (by ke_room) ?_
    rw [show (List.replicate gv.length true).all id = true by simp]
    simp only [Bool.not_true]
    k_steps
    refine unstop ?_
    rename News h₀ L _ _ => N9
    refine sumK rfl (by k_asm) N9 (News.isList N9 (.tail _ (.tail _ (.tail _ (.tail _ (.tail _ (.tail _ (.tail _ (.tail _ hb.mM))))))))) hb.iM ?_
    intro h4 tk4 t4 F5 N10
    rw [zs_sum]
    k_steps
    · rename Int.fmod _ 2 = 0 => hev
      have hev2 : v.ms.sum % 2 = 0 := by rw [Int.fmod_eq_emod_of_nonneg _ (by decide)] at hev; omega
      have hall : ((List.range v.ms.length).map fun f => fitB (downL v.ms) (f + 1)).all id = false := by
        rw [hev2] at hX
        rw [List.all_map]
        simpa using hX
      refine unstop ?_
      rename News h₀ L _ _ => N11
      refine notin_bools (bs := (List.range v.ms.length).map fun f => fitB (downL v.ms) (f + 1)) N11 (.tail _ (.tail _ (.tail _ (.tail _ (.tail _ (.tail _ (.tail _ (.tail _ hf)))))))) (by rw [iF, List.map_map]; rfl) (by ke_room) ?_
      rw [hall]
      k_steps
      refine unstop ?_
      refine is_bool ?_
      rw [show (true == false) = false from rfl]
      k_steps
      rename News h₀ L _ _ => N16
      exact kG _ _ _ pt2 (by k_asm) (newsSub N16 fun p hp => by rw [List.mem_singleton.mp hp]; exact .tail _ (.tail _ (.tail _ (.head _))))
    · rename Int.fmod _ 2 ≠ 0 => hev
      refine unstop ?_
      refine is_bool ?_
      rw [show ((v.ms.sum : Int).fmod 2 == 0) = false by simpa using hev]
      rw [show (true == false) = false from rfl]
      k_steps
      rename News h₀ L _ _ => N16
      exact kG _ _ _ pt2 (by k_asm) (newsSub N16 fun p hp => by rw [List.mem_singleton.mp hp]; exact .tail _ (.tail _ (.tail _ (.head _))))
  case kS =>
    intro r ts hsome hts Tp tl fl tv tn gv gn pt2 h2 tk2 F3 N4 htv hg1 hg2 hl1 hl2 hl3
    obtain ⟨hX, hY⟩ := ties_some hb.mb (by omega) hsome
    have l5 : @LT.lt Nat _ (L + 1 + 1 + 1 + 1 + 1) fl := hl1 _ (.head _)
    k_steps
    refine unstop ?_
    rename News h₀ L _ _ => N5
    have N6 : News h₀ L _ ((L + 1 + 1 + 1 + 1 + 1, o5) :: (Tp, tupO [.ref tl, .ref fl]) :: (tl, W.listOf tv.toArray tn) :: (fl, W.listOf gv.toArray gn) :: (142, tabObj pt2.toArray) :: (L + 1 + 1 + 1 + 1, o4) :: (L + 1 + 1 + 1, o3) :: (L + 1 + 1, o2) :: (L + 1, o1) :: R) := newsSub N5 fun p hp => lg_in3 hp
    refine storeX_C (F := by k_asm) N6 rfl (.head ?_) d5 ?_
    · intro p hp
      rcases List.mem_cons.mp hp with q | hp
      · rw [q]; exact Nat.ne_of_gt (Nat.lt_trans l5 (Nat.lt_trans hl2 hl3))
      rcases List.mem_cons.mp hp with q | hp
      · rw [q]; exact Nat.ne_of_gt (Nat.lt_trans l5 hl2)
      rcases List.mem_cons.mp hp with q | hp
      · rw [q]; exact Nat.ne_of_gt l5
      rcases List.mem_cons.mp hp with q | hp
      · rw [q]; exact (cl_apart L hL).1 5 (by decide)
      · exact lg_upd hL hR p hp
    intro h3 o5' F4 N7 d5'
    k_steps
    refine unstop ?_
    rename News h₀ L _ _ => N8
    refine in_bools N8 (.tail _ (.tail _ (.tail _ (.head _)))) (trues_map hg1) (by ke_room) ?_
    rw [show (List.replicate gv.length true).all id = true by simp]
    simp only [Bool.not_true]
    k_steps
    refine unstop ?_
    rename News h₀ L _ _ => N9
    refine sumK rfl (by k_asm) N9 (News.isList N9 (.tail _ (.tail _ (.tail _ (.tail _ (.tail _ (.tail _ (.tail _ (.tail _ (.tail _ hb.mM)))))))))) hb.iM ?_
    intro h4 tk4 t4 F5 N10
    rw [zs_sum]
    k_steps
    · rename Int.fmod _ 2 = 0 => hev
      have hall : ((List.range v.ms.length).map fun f => fitB (downL v.ms) (f + 1)).all id = true := by
        rw [Bool.and_eq_true] at hX
        rw [List.all_map]
        exact hX.2
      refine unstop ?_
      rename News h₀ L _ _ => N11
      refine notin_bools (bs := (List.range v.ms.length).map fun f => fitB (downL v.ms) (f + 1)) N11 (.tail _ (.tail _ (.tail _ (.tail _ (.tail _ (.tail _ (.tail _ (.tail _ (.tail _ hf))))))))) (by rw [iF, List.map_map]; rfl) (by ke_room) ?_
      rw [hall]
      k_steps
      refine unstop ?_
      refine is_bool ?_
      rw [show (false == true) = false from rfl]
      k_steps
      refine unstop ?_
      have hsl := abc_slice hk6
      generalize Txt.slice (PySem.Str.ofString "abcdef") none (some (v.k : Int)) = ab at hsl ⊢
      have hsz : ab.cps.size = v.ms.length := by rw [← Array.length_toList, hsl, List.length_range', hml]
      have hasc : ab.cps.all (· < 128) = true := by
        rw [← Array.all_toList, hsl, List.all_eq_true]
        intro q hq
        have := (List.mem_range'_1.mp hq).2
        simp; omega
      rename News h₀ L _ _ => N12
      refine' it_text rfl ?uF N12 hasc ?_
      case uF => k_asm
      intro I h5 Md St hI1 F6 N13 S
      refine' compE (R := fun i y => ∃ t, y = .int ((v.ms.getD i 0 : Nat) : Int) t) (S _ _) ?ha ?hb F6 N13 ?hc ?hd ?he ?hf ?_ ?_
      case ha => decide
      case hb => rfl
      case hc => exact cov_one hI1
      case hd => exact fun p hp => nomatch hp
      case he => rw [hsz, sizeLine_eq]; omega
      case hf => exact fun C => asg_name (P' := fun i x => SignAt ab i x) (fun _ _ _ h => h) rfl rfl
      · rintro E3 D C i ys h6 tk6 oC hi ⟨oC', m₂, x, hoC, hN2, hma, ch, u, hch, rfl⟩ hDC hoff F7 own N14
        obtain rfl : oC = oC' := by simpa using hoC
        have hch : ch = 97 + i := by
          rw [← Array.getElem?_toList, hsl] at hch
          rw [List.getElem?_range' (by omega)] at hch
          simpa using hch.symm
        subst hch
        try dsimp only
        k_steps
        refine unstop ?_
        rename News h₀ L _ _ => N15
        refine' join_mem N15 (.tail _ (.tail _ (List.mem_append_left _ (.tail _ (.tail _ (.head _)))))) htv ?jz ?_
        case jz =>
          have e1 : ((ts.map fun q => (⟨#[q.1, q.2]⟩ : Str)).map (·.length)).sum ≤ 2 * ts.length := by
            clear hsome htv hY hts
            induction ts with
            | nil => simp
            | cons q r ih => rw [List.map_cons, List.map_cons, List.sum_cons, List.length_cons]; have : (⟨#[q.1, q.2]⟩ : Str).length = 2 := rfl; omega
          have e2 : (PySem.Str.ofString "").length = 0 := rfl
          rw [e2]; omega
        intro t5 tk7
        k_steps
        refine unstop ?_
        refine SC.count ?_
        k_steps
        have hil : i < v.ms.length := by omega
        exact GOne.intro (by k_asm) (by k_asm) (fun _ h => h) (int_val (by rw [tie_count, hY i hil]))
      · intro D ys h6 tk6 hyl hyR F7 N14 hlt
        try dsimp only
        k_steps
        refine unstop ?_
        rename News h₀ L _ _ => N15
        have iY : IntsAre ys (zs v.ms) := ints_getD (d := 0) (g := fun k : Nat => (k : Int)) (by rw [hyl, hsz]) hyR
        refine ke_eq_ints (xs := ys) (News.isList N15 (.head _)) (News.isList N15 (.tail _ (.tail _ (.tail _ (.tail _ (.tail _ (.tail _ (.tail _ (.tail _ (.tail _ (.tail _ hb.mM))))))))))) iY hb.iM (by ke_room) ?_
        simp only [decide_true]
        k_steps
        rename News h₀ L _ _ => N16
        exact kG _ _ _ pt2 (by k_asm) (newsSub N16 fun p hp => by rw [List.mem_singleton.mp hp]; exact .tail _ (.tail _ (.tail _ (.tail _ (.tail _ (.head _))))))
    · rename Int.fmod _ 2 ≠ 0 => hev
      refine absurd ?_ hev
      rw [Bool.and_eq_true, decide_eq_true_eq] at hX
      rw [Int.fmod_eq_emod_of_nonneg _ (by decide)]
      have := hX.1
      omega
end Mine
end
section
open PySem PySem.W PyProof.Rows PySem.Calls PyProof.Rows.LCg
namespace Mine
/-- all of law, from its first statement on -/
theorem law_all {w : World} {dp un : Nat} {gd : Option (List Code)} {outer : List Env} {A₀ : Around} {base h₀ : Heap} {L a : Addr} {ccd : Value} {s : Shared} {Q : Flow → Shared → Prop} {E : Value → Shared → Prop} {p : Program} {loose : List Str} {mean : ExcName → Option Value} {mg mb m : Str → Option Value}
  {S : Addr} {vs : List Value} {xs : List Int} {o1 o2 o3 o4 o5 : Obj} {v2 v3 v4 v5 : Option Value}
  (B : Below A₀ base outer h₀) (F : Fr h₀ L s.heap m) (X : (hd.heap_1 w.params).In h₀) (T : Top p loose mean mg mb h₀)
  (N : News h₀ L s.heap ((L + 1 + 1 + 1 + 1 + 1, o5) :: (L + 1 + 1 + 1 + 1, o4) :: (L + 1 + 1 + 1, o3) :: (L + 1 + 1, o2) :: (L + 1, o1) :: (142, tabObj #[]) :: []))
  (d1 : o1.data = .cell (some (.ref S))) (d2 : o2.data = .cell v2) (d3 : o3.data = .cell v3) (d4 : o4.data = .cell v4) (d5 : o5.data = .cell v5)
  (hCd : CodeHd h₀ 144 142) (hE : PassesOwn (model PySem.Challenge.rw_rs0180_01.row.prog w) (lawTop dp un gd L a ccd outer) (lawEnv L a ccd) E)
  (hS : h₀.IsList S vs.toArray) (hI : IntsAre vs xs) (hl : xs.length ≤ 63) (hL : @LT.lt Nat _ 142 L)
  (hd : dp + 20 < recursionLimit) (hu : un + 400 < cLine)
  (kG : ∀ h' tk' m' (ps : List Value), Fr h₀ L h' m' → News h₀ L h' [(142, tabObj ps.toArray)] → Q (.ret (.bool true)) { s with heap := h', toks := tk' }) :
  wpAny (model PySem.Challenge.rw_rs0180_01.row.prog w) (lawTop dp un gd L a ccd outer) (execs lawB (lawEnv L a ccd)) Q E s := by
  k_with_none
  refine law_a B F X T N d1 d2 d3 d4 d5 hS hI hl hL (fun p hp => nomatch hp) hd hu ?_
  intro v R1 Ct cu qc o2' m1 h1 tk1 b1 l1 c1 i1 e2 F1 N1 hR1
  have hne : v.ms ≠ [] := fun e => by have e1 := b1.ml; have e3 := b1.k1; rw [e] at e1; simp at e1; omega
  rw [lead_cs hne] at i1
  refine law_b (s := { s with heap := h1, toks := tk1 }) B F1 X T N1 b1 l1 hL hR1 hd hu e2 d3 c1 i1 ?_
  intro R2 Dd dv qd o3' m2 h2 tk2 r2 l2 c2 i2 e3 F2 N2 hR2
  refine law_c (s := { s with heap := h2, toks := tk2 }) B F2 X T N2 (b1.mono r2) l2 hL hR2 hd hu hE d4 ?_
  intro R3 rw rv qr o4' m3 h3 tk3 r3 l3 c3 i3 e4 F3 N3 hR3
  have b3 := (b1.mono r2).mono r3
  refine law_d (s := { s with heap := h3, toks := tk3 }) B F3 X T N3 b3 l3 hL hR3 hd hu e2 e3 e4 (r3 _ (r2 _ c1)) (r3 _ c2) c3 i1 i2 i3 ?_
  intro R4 m4 h4 tk4 r4 l4 F4 N4 hR4
  refine law_e (s := { s with heap := h4, toks := tk4 }) B F4 X T N4 (b3.mono r4) l4 hL hR4 hd hu e2 e3 e4 (r4 _ (r3 _ (r2 _ c1))) (r4 _ (r3 _ c2)) (r4 _ c3) i1 i2 i3 ?_
  intro R5 m5 h5 tk5 r5 l5 F5 N5 hR5
  have b5 := (b3.mono r4).mono r5
  refine law_f (s := { s with heap := h5, toks := tk5 }) B F5 X T N5 b5 l5 hL hR5 hd hu e2 e3 e4 (r5 _ (r4 _ (r3 _ (r2 _ c1)))) (r5 _ (r4 _ (r3 _ c2))) (r5 _ (r4 _ c3)) i1 i2 i3 ?_
  intro R6 Df fv qf m6 h6 tk6 r6 l6 hmf c6 i6 F6 N6 hR6
  exact law_g (s := { s with heap := h6, toks := tk6 }) B F6 X T N6 (b5.mono r6) l6 hL hR6 hd hu e2 e3 e4 (r6 _ (r5 _ (r4 _ (r3 _ (r2 _ c1))))) (r6 _ (r5 _ (r4 _ (r3 _ c2)))) (r6 _ (r5 _ (r4 _ c3))) i1 i2 i3 hCd d5 hmf c6 i6 (fun h' tk' m' ps F' N' => kG h' tk' m' ps F' N')
set_option maxRecDepth 100000 in
set_option maxHeartbeats 8000000 in
theorem all_holds : PySem.Challenge.rw_rs0180_01.Holds := by
  k_with_none
  k_with "execs cons" => ((with_reducible show wpAny _ _ (execs (PySem.Stmt.Assign [PySem.Expr.Name (PySem.Str.ofString "cells") _] _ _ :: _) _) _ _ _); (with_reducible refine stop_ ?_))
  k_with "execs cons Assign cons" => ((with_reducible show wpAny _ _ (execs (PySem.Stmt.Assign [PySem.Expr.Name (PySem.Str.ofString "cells") _] _ _ :: _) _) _ _ _); (with_reducible refine stop_ ?_))
  refine hd ⟨head_left rfl _, ?_⟩
  k_go0
  all_goals (try k_fold)
  k_steps
  refine unstop ?_
  rename IntsAre _ _ => hI
  rename ¬ _ < _ => hlen
  rename Heap.IsList _ _ _ => hS
  rename CodeHd _ _ _ => hCd
  rename News _ _ _ _ => N1
  rename Fr _ _ _ _ => F1
  rename Below _ _ _ _ => B1
  rename _ < _ => hL
  rename Frag.In _ _ => X1
  rename Top _ _ _ _ _ _ => T1
  refine' law_all (outer := []) B1 F1 X1 T1 N1 ?d1 ?d2 ?d3 ?d4 ?d5 hCd ?hE hS hI ?hl hL ?hd ?hu ?kG
  case d2 => assumption
  case d3 => assumption
  case d4 => assumption
  case d5 => assumption
  case d1 => exact Eq.trans (by assumption) (by with_unfolding_all rfl)
  case hE => passes_own
  case hl => omega
  case hd => decide
  case hu => decide
  case kG =>
    intro h' tk' m' ps F' N'
    dsimp only
    k_steps
end Mine
end
set_option maxRecDepth 100000 in
set_option maxHeartbeats 8000000 in
theorem PySem.Challenge.cw_rs0180_01_holds : PySem.Challenge.rw_rs0180_01.Holds := by
  exact Mine.all_holds
