import PyProof.Rows.All
import Wide.All
import OpenK.AllK
import Wide.FinOn
import Lean
import PySem.Challenge.RW_dg5005_01
open PySem PySem.W PySem.W.X PyProof.Rows PySem.Calls
set_option Elab.async false
set_option maxRecDepth 100000
set_option maxHeartbeats 8000000
set_option linter.unusedVariables false
set_option rowWalk.seconds 0

namespace Mine
section
local macro_rules | `(tactic| o_head $_) => `(tactic| assumption)
/-- only to have the written part of the heap as a constant: frag.heap_1 -/
theorem frag (h : PySem.Challenge.rw_dg5005_01.row.Holds) : PySem.Challenge.rw_dg5005_01.row.Holds := by k_head
end

/-! texts -/
section
variable {prog : Program} {w : World} {A : Around} {E : Value → Shared → Prop} {s : Shared} {x y z : Str} {t u v : Tok} {Q : Value → Shared → Prop}

theorem addT (hsz : x.length + y.length ≤ 16777216) (ht : 0 < s.toks) (h : ∀ t' k, 0 < k → Q (.str (x ++ y) t') { s with toks := k }) :
    wpAny (model prog w) A (binaryOp .Add (.str x t) (.str y u)) Q E s :=
  wpAny_with_toks (n := 1) ht (add_str (fun t' k hk => h t' k hk) (by rw [sizeLine_eq]; exact hsz))
theorem iaddT (hsz : x.length + y.length ≤ 16777216) (ht : 0 < s.toks) (h : ∀ t' k, 0 < k → Q (.str (x ++ y) t') { s with toks := k }) :
    wpAny (model prog w) A (inplaceOp .Add (.str x t) (.str y u)) Q E s :=
  wpAny_with_toks (n := 1) ht (iadd_str (fun t' k hk => h t' k hk) (by rw [sizeLine_eq]; exact hsz))
theorem replaceT (hu : 0 < u) (hv : 0 < v) (huv : u < v) (hyz : (y == z) = false) (hx : x.length ≤ 3149) (hz : z.length ≤ 6) (ht : 0 < s.toks)
    (hq : ∀ t' k, 0 < k → Q (.str (Txt.replace x y z) t') { s with toks := k }) : wpAny (model prog w) A (call (.builtin "str.replace") [.str x t, .str y u, .str z v]) Q E s :=
  wpAny_with_toks (n := 1) ht (SC.replace (Nat.pos_iff_ne_zero.mp hu) (Nat.pos_iff_ne_zero.mp hv) (Nat.ne_of_lt huv) hyz
    (by have h1 : (x.length + 1) * z.length ≤ (x.length + 1) * 6 := Nat.mul_le_mul_left _ hz
        omega) fun t' k hk => hq t' k hk)
end

theorem gentoks {α : Type} {M : Model} {A : Around} {T : Sem α} {Q : α → Shared → Prop} {E : Value → Shared → Prop} {h gs dr o} {n : Nat} (hn : 0 < n)
    (H : ∀ tk : Nat, 0 < tk → wpAny M A T Q E ⟨h, gs, dr, tk, o⟩) : wpAny M A T Q E ⟨h, gs, dr, n, o⟩ := H _ hn

theorem len_replace (x y z : Str) : (Txt.replace x y z).length ≤ x.length + (x.length + 1) * z.length := by
  unfold Txt.replace
  generalize ho : Builtin.Str.occurrences x y 0 x.length (x.length + 1) = occ
  have few := Nat.mul_le_mul_right z.length (show occ.length ≤ x.length + 1 from ho ▸ StrLaws.occ_length_le ..)
  have self := congrArg Str.length (StrLaws.glued_between_self x y (x.length + 1))
  split
  · exact Nat.le_add_right _ _
  · simp only [ho, size_glued, length_partsBetween, Nat.add_sub_cancel] at self ⊢
    exact Nat.add_le_add (Nat.le_trans (Nat.le_add_right _ _) (Nat.le_of_eq self)) few

/-- what _law_plain and escapeHtml make of a text -/
def plainS (x : Str) : Str := Txt.replace (Txt.replace (Txt.replace (Txt.replace x (Str.ofString "&") (Str.ofString "&amp;")) (Str.ofString "<") (Str.ofString "&lt;")) (Str.ofString ">") (Str.ofString "&gt;")) (Str.ofString "\"") (Str.ofString "&quot;")

theorem len_lit_amp : (Str.ofString "&amp;").length = 5 := by decide +kernel
theorem len_lit_lt : (Str.ofString "&lt;").length = 4 := by decide +kernel
theorem len_lit_gt : (Str.ofString "&gt;").length = 4 := by decide +kernel
theorem len_lit_quot : (Str.ofString "&quot;").length = 6 := by decide +kernel

theorem len_r1 (x : Str) (h : x.length ≤ 20) : (Txt.replace x (Str.ofString "&") (Str.ofString "&amp;")).length ≤ 125 := by
  have := len_replace x (Str.ofString "&") (Str.ofString "&amp;")
  rw [len_lit_amp] at this; omega
theorem len_r2 (x : Str) (h : x.length ≤ 125) : (Txt.replace x (Str.ofString "<") (Str.ofString "&lt;")).length ≤ 629 := by
  have := len_replace x (Str.ofString "<") (Str.ofString "&lt;")
  rw [len_lit_lt] at this; omega
theorem len_r3 (x : Str) (h : x.length ≤ 629) : (Txt.replace x (Str.ofString ">") (Str.ofString "&gt;")).length ≤ 3149 := by
  have := len_replace x (Str.ofString ">") (Str.ofString "&gt;")
  rw [len_lit_gt] at this; omega
theorem len_r4 (x : Str) (h : x.length ≤ 3149) : (Txt.replace x (Str.ofString "\"") (Str.ofString "&quot;")).length ≤ 22049 := by
  have := len_replace x (Str.ofString "\"") (Str.ofString "&quot;")
  rw [len_lit_quot] at this; omega
theorem len_plain (x : Str) (h : x.length ≤ 20) : (plainS x).length ≤ 22049 := len_r4 _ (len_r3 _ (len_r2 _ (len_r1 _ h)))
theorem ln_nl : (Str.ofString "\n").length = 1 := by decide +kernel
theorem ln_p : (Str.ofString "<p>").length = 3 := by decide +kernel
theorem ln_pe : (Str.ofString "</p>\n").length = 5 := by decide +kernel
theorem ln_hr : (Str.ofString "<hr").length = 3 := by decide +kernel
theorem ln_gn : (Str.ofString ">\n").length = 2 := by decide +kernel
theorem ln_lt : (Str.ofString "<").length = 1 := by decide +kernel
theorem ln_gt : (Str.ofString ">").length = 1 := by decide +kernel
theorem ln_sp : (Str.ofString " ").length = 1 := by decide +kernel
theorem ln_eq : (Str.ofString "=\"").length = 2 := by decide +kernel
theorem ln_q : (Str.ofString "\"").length = 1 := by decide +kernel
theorem ln_le : (Str.ofString "</").length = 2 := by decide +kernel
theorem ln_sl : (Str.ofString " /").length = 2 := by decide +kernel
theorem ln_em : (Str.ofString "").length = 0 := by decide +kernel
theorem ln_op : (Str.ofString "_open").length = 5 := by decide +kernel
theorem ln_cl : (Str.ofString "_close").length = 6 := by decide +kernel
theorem bnd_r0 {x : Str} (h : x.length ≤ 20) : x.length ≤ 3149 := by omega
theorem bnd_r1 {x : Str} (h : x.length ≤ 20) : (Txt.replace x (Str.ofString "&") (Str.ofString "&amp;")).length ≤ 3149 := Nat.le_trans (len_r1 _ h) (by decide)
theorem bnd_r2 {x : Str} (h : x.length ≤ 20) : (Txt.replace (Txt.replace x (Str.ofString "&") (Str.ofString "&amp;")) (Str.ofString "<") (Str.ofString "&lt;")).length ≤ 3149 := Nat.le_trans (len_r2 _ (len_r1 _ h)) (by decide)
theorem bnd_r3 {x : Str} (h : x.length ≤ 20) : (Txt.replace (Txt.replace (Txt.replace x (Str.ofString "&") (Str.ofString "&amp;")) (Str.ofString "<") (Str.ofString "&lt;")) (Str.ofString ">") (Str.ofString "&gt;")).length ≤ 3149 := len_r3 _ (len_r2 _ (len_r1 _ h))

-- MACROS BEGIN
local macro_rules | `(tactic| tb_start) => `(tactic| first | exact Nat.succ_pos _ | assumption | (refine Nat.add_pos_left ?_ _; tb_start))
local macro_rules | `(tactic| walk_at "execs cons") => `(tactic| (k_here; with_reducible refine gentoks (by tb_start) ?_; intro tk htk; refine wpAny_execs_cons ?_; (try dsimp only)))
local macro_rules | `(tactic| walk_at "execs nil") => `(tactic| (k_here; with_reducible refine gentoks (by tb_start) ?_; intro tk htk; refine wpAny_execs_nil ?_; (try dsimp only)))
local macro_rules | `(tactic| walk_at "call builtin:str.replace") => `(tactic| (k_here; (refine replaceT (by tb_start) (by tb_start) (Nat.lt_succ_self _) (by decide +kernel) (by first | exact bnd_r0 (by assumption) | exact bnd_r1 (by assumption) | exact bnd_r2 (by assumption) | exact bnd_r3 (by assumption)) (by decide +kernel) (by tb_start) ?_); intro t' tk htk))
local macro_rules | `(tactic| tb_rel) => `(tactic| first | omega | (simp only [Str.length_append, ln_nl, ln_p, ln_pe, ln_hr, ln_gn, ln_lt, ln_gt, ln_sp, ln_eq, ln_q, ln_le, ln_sl, ln_em, ln_op, ln_cl]; omega))
local macro_rules | `(tactic| walk_at "binaryOp Add str str") => `(tactic| (k_here; (refine addT ?hsz9 (by tb_start) ?_); (case hsz9 => tb_rel); intro t' tk htk))
local macro_rules | `(tactic| walk_at "inplaceOp Add str str") => `(tactic| (k_here; (refine iaddT ?hsz9 (by tb_start) ?_); (case hsz9 => tb_rel); intro t' tk htk))
-- MACROS END

/-! loops whose state is a ghost σ, and in which the tokens stay above nought -/
def setAll : List (Str × Value) → (Str → Option Value) → (Str → Option Value)
  | [], m => m
  | kv :: r, m => fun z => if z = kv.1 then some kv.2 else setAll r m z
def freeAll : List Str → (Str → Option Value) → (Str → Option Value) → (Str → Option Value)
  | [], _, m => m
  | k :: r, u, m => fun z => if z = k then u z else freeAll r u m z

theorem freeAll_eq {ys : List Str} {u m : Str → Option Value} {z : Str} (h : z ∉ ys → u z = m z) : freeAll ys u m z = u z := by
  induction ys with
  | nil => exact (h (fun x => nomatch x)).symm
  | cons k r ih =>
    unfold freeAll
    by_cases e : z = k
    · rw [if_pos e]
    · rw [if_neg e]; exact ih fun hn => h fun hm => by rcases List.mem_cons.mp hm with h1 | h1; exact e h1; exact hn h1
theorem setAll_eq {kvs : List (Str × Value)} {f m : Str → Option Value} {z : Str} (h1 : ∀ kv ∈ kvs, m kv.1 = some kv.2) (h2 : (∀ kv ∈ kvs, z ≠ kv.1) → m z = f z) : setAll kvs f z = m z := by
  induction kvs with
  | nil => exact (h2 (fun _ x => nomatch x)).symm
  | cons kv r ih =>
    unfold setAll
    by_cases e : z = kv.1
    · rw [if_pos e, e]; exact (h1 kv (.head _)).symm
    · rw [if_neg e]
      exact ih (fun kv' hm => h1 kv' (.tail _ hm)) fun hn => h2 fun kv' hm => by rcases List.mem_cons.mp hm with rfl | hm; exact e; exact hn kv' hm

/-- what m' says: the names of kvs hold their values; all but these, x and ys is as m₀ -/
def MapIs (x : Str) (ys : List Str) (kvs : List (Str × Value)) (m₀ m' : Str → Option Value) : Prop :=
  (∀ kv ∈ kvs, m' kv.1 = some kv.2) ∧ ∀ z, z ≠ x → z ∉ ys → (∀ kv ∈ kvs, z ≠ kv.1) → m' z = m₀ z
theorem MapIs.turn {x : Str} {ys : List Str} {kvs : List (Str × Value)} {m₀ m' : Str → Option Value} {v : Value} (h : MapIs x ys kvs m₀ m') :
    (fun y => if y = x then some v else m' y) = setAll ((x, v) :: kvs) (freeAll ys m' m₀) := by
  funext z
  show _ = if z = x then some v else setAll kvs (freeAll ys m' m₀) z
  by_cases e : z = x
  · rw [if_pos e, if_pos e]
  · rw [if_neg e, if_neg e]
    exact (setAll_eq h.1 fun hn => (freeAll_eq fun hy => h.2 z e hy hn).symm).symm
theorem MapIs.done {x : Str} {ys : List Str} {kvs : List (Str × Value)} {m₀ m' : Str → Option Value} (h : MapIs x ys kvs m₀ m') :
    m' = setAll kvs (freeAll (x :: ys) m' m₀) := by
  funext z
  exact (setAll_eq h.1 fun hn => (freeAll_eq fun hy => h.2 z (fun e => hy (e ▸ .head _)) (fun hm => hy (.tail _ hm)) hn).symm).symm

/-- a turn's head is fed back: x set on top of a map that was free at x -/
theorem setAll_free {x : Str} {ys : List Str} {kvs : List (Str × Value)} {u m₀ : Str → Option Value} {v : Value} :
    (fun y => if y = x then some v else setAll kvs (freeAll (x :: ys) u m₀) y) = setAll ((x, v) :: kvs) (freeAll ys u m₀) := by
  funext z
  show _ = if z = x then some v else setAll kvs (freeAll ys u m₀) z
  split
  · rfl
  · rename_i hz
    have e : freeAll (x :: ys) u m₀ z = freeAll ys u m₀ z := if_neg hz
    clear hz
    induction kvs with
    | nil => exact e
    | cons kv r ih => show (if z = kv.1 then _ else _) = (if z = kv.1 then _ else _); rw [ih]

/-- the cells outside wr are as they were -/
def Off (wr : List Addr) (h h' : Heap) : Prop := ∀ b o, b ∉ wr → h.get? b = some o → h'.get? b = some o
theorem carryF {h₀ h h' : Heap} {L : Addr} {wr : List Addr} {m : Str → Option Value} (new : ∀ b ∈ wr, h₀.get? b = none ∧ b ≠ L) (k : Off wr h h') (F : Fr h₀ L h m) : Fr h₀ L h' m where
  ns := F.ns.at' fun o => k L o fun q => (new L q).2 rfl
  keep := fun b o e => k b o (fun q => nomatch (new b q).1.symm.trans e) (F.keep b o e)
  above := F.above
theorem carryN {h₀ h h' : Heap} {L : Addr} {wr : List Addr} {news : List (Addr × Obj)} (out : ∀ p ∈ news, p.1 ∉ wr) (k : Off wr h h') (N : News h₀ L h news) : News h₀ L h' news := fun p hp => by
  obtain ⟨e, r⟩ := N p hp
  exact ⟨k _ _ (out p hp) e, r⟩

/-- the objects at the addresses ws -/
theorem objsAt {h : Heap} : ∀ {ws : List Addr}, (∀ b ∈ ws, ∃ o, h.get? b = some o) → ∃ its : List (Addr × Obj), its.map (·.1) = ws ∧ ∀ p ∈ its, h.get? p.1 = some p.2
  | [], _ => ⟨[], rfl, fun _ hp => nomatch hp⟩
  | b :: r, hw => by
    obtain ⟨o, ho⟩ := hw b (.head _)
    obtain ⟨its, e, hv⟩ := objsAt fun b' hb => hw b' (.tail _ hb)
    exact ⟨(b, o) :: its, congrArg (b :: ·) e, List.forall_mem_cons.mpr ⟨ho, hv⟩⟩

/-- a cell that the iterator reads: its own, or one that every ledger holds, or an old one -/
def Pinned {σ : Type} (h₀ : Heap) (G : σ → List (Addr × Obj)) (R : Nat → σ → Prop) (ws : List Addr) (b : Addr) : Prop :=
  b ∈ ws ∨ (∃ o, ∀ i a, R i a → (b, o) ∈ G a) ∨ ∃ o, h₀.get? b = some o

/-- the end of a turn -/
def EndT {σ : Type} (h₀ : Heap) (L : Addr) (x : Str) (ys : List Str) (V : σ → List (Str × Value)) (G : σ → List (Addr × Obj)) (m₀ : Str → Option Value) (R : σ → Prop) (I : Addr) (oI : Obj) (s₁ s₂ : Shared) : Prop :=
  ∃ h' tk m' news' σ', s₂ = { s₁ with heap := h', toks := tk } ∧ Fr h₀ L h' m' ∧ News h₀ L h' news' ∧ (I, oI) ∈ news' ∧ (∀ p ∈ G σ', p ∈ news') ∧ (∀ p ∈ G σ', p.1 ≠ I) ∧ R σ' ∧ MapIs x ys (V σ') m₀ m'
def TurnT {σ : Type} (h₀ : Heap) (L : Addr) (x : Str) (ys : List Str) (V : σ → List (Str × Value)) (G : σ → List (Addr × Obj)) (m₀ : Str → Option Value) (R : σ → Prop) (I : Addr) (oI : Obj) (s₁ : Shared) (Q : Flow → Shared → Prop) (f : Flow) (s₂ : Shared) : Prop :=
  match f with
  | .ret v => Q (.ret v) s₂
  | .brk => Q .next s₂
  | _ => EndT h₀ L x ys V G m₀ R I oI s₁ s₂

/-- the end of a turn; its: the iterator's own objects -/
def EndK {σ : Type} (h₀ : Heap) (L : Addr) (x : Str) (ys : List Str) (V : σ → List (Str × Value)) (G : σ → List (Addr × Obj)) (m₀ : Str → Option Value) (R : σ → Prop) (its : List (Addr × Obj)) (s₁ s₂ : Shared) : Prop :=
  ∃ h' tk m' news' σ', s₂ = { s₁ with heap := h', toks := tk } ∧ Fr h₀ L h' m' ∧ News h₀ L h' news' ∧ (∀ p ∈ its, p ∈ news') ∧ (∀ p ∈ G σ', p ∈ news') ∧ (∀ p ∈ G σ', ∀ q ∈ its, p.1 ≠ q.1) ∧ R σ' ∧ MapIs x ys (V σ') m₀ m'
def TurnK {σ : Type} (h₀ : Heap) (L : Addr) (x : Str) (ys : List Str) (V : σ → List (Str × Value)) (G : σ → List (Addr × Obj)) (m₀ : Str → Option Value) (R : σ → Prop) (its : List (Addr × Obj)) (s₁ : Shared) (Q : Flow → Shared → Prop) (f : Flow) (s₂ : Shared) : Prop :=
  match f with
  | .ret v => Q (.ret v) s₂
  | .brk => Q .next s₂
  | _ => EndK h₀ L x ys V G m₀ R its s₁ s₂
theorem EndK.mk' {σ : Type} {L : Addr} {x : Str} {ys : List Str} {V : σ → List (Str × Value)} {G : σ → List (Addr × Obj)} {m₀ m' : Str → Option Value} {R : σ → Prop} {its : List (Addr × Obj)} {s₁ : Shared} {h' : Heap} {tk : Nat} {news' : List (Addr × Obj)} (σ' : σ)
    (F : Fr h₀ L h' m') (N : News h₀ L h' news') (hI : ∀ p ∈ its, p ∈ news') (hG : ∀ p ∈ G σ', p ∈ news') (hn : ∀ p ∈ G σ', ∀ q ∈ its, p.1 ≠ q.1) (hR : R σ') (hM : MapIs x ys (V σ') m₀ m') : EndK h₀ L x ys V G m₀ R its s₁ { s₁ with heap := h', toks := tk } :=
  ⟨h', tk, m', news', σ', rfl, F, N, hI, hG, hn, hR, hM⟩

/-- what holds whenever the loop asks for its next item -/
structure AtHead {σ : Type} (h₀ : Heap) (L : Addr) (x : Str) (ys : List Str) (V : σ → List (Str × Value)) (G : σ → List (Addr × Obj)) (m₀ : Str → Option Value) (R : Nat → σ → Prop) (St : Nat → Heap → Prop) (ws : List Addr) (i : Nat) (h : Heap) (tk : Nat) (u : Str → Option Value) (a : σ) : Prop where
  toks : 0 < tk
  iter : St i h
  ghost : R i a
  frame : Fr h₀ L h (setAll (V a) (freeAll (x :: ys) u m₀))
  ledger : News h₀ L h (G a)
  apart : ∀ p ∈ G a, p.1 ∉ ws

/-- a pinned cell is the same behind a turn -/
theorem pin_stays {σ : Type} {h₀ h h' : Heap} {L : Addr} {m m' : Str → Option Value} {G : σ → List (Addr × Obj)} {R : Nat → σ → Prop} {ws : List Addr} {its news' : List (Addr × Obj)} {i : Nat} {a a' : σ} {b : Addr} {o : Obj}
    (hb : Pinned h₀ G R ws b) (hits : its.map (·.1) = ws) (F : Fr h₀ L h m) (N : News h₀ L h (its ++ G a)) (hR : R i a) (F' : Fr h₀ L h' m') (N' : News h₀ L h' news') (keepI : ∀ p ∈ its, p ∈ news') (keepG : ∀ p ∈ G a', p ∈ news') (hR' : R (i + 1) a')
    (e : h.get? b = some o) : h'.get? b = some o := by
  have go : ∀ o', h.get? b = some o' → h'.get? b = some o' → h'.get? b = some o := fun o' e1 e2 => by rw [e1] at e; exact e ▸ e2
  rcases hb with hb | ⟨o', ho⟩ | ⟨o', ho⟩
  · obtain ⟨⟨c, o'⟩, hq, rfl⟩ := List.mem_map.mp (hits ▸ hb)
    exact go o' (N (c, o') (List.mem_append.mpr (.inl hq))).1 (N' (c, o') (keepI _ hq)).1
  · exact go o' (N (b, o') (List.mem_append.mpr (.inr (ho i a hR)))).1 (N' (b, o') (keepG _ (ho _ a' hR'))).1
  · exact go o' (F.keep b o' ho) (F'.keep b o' ho)

section
variable {prog : Program} {w : World} {A : Around} {E : Value → Shared → Prop} {s : Shared} {env : Env} {h₀ : Heap} {target : Expr} {body : List Stmt} {Q : Flow → Shared → Prop}

/-- the rule of the loop: ws are the cells of the iterator, fp what it reads -/
theorem loopK {σ : Type} {I : Addr} {fp wr ws : List Addr} {n : Nat} {P Md : Nat → Value → Heap → Prop} {St : Nat → Heap → Prop} {m₀ : Str → Option Value} {hp : Heap} {tk0 : Nat} {x : Str}
    (R : Nat → σ → Prop) (V : σ → List (Str × Value)) (G : σ → List (Addr × Obj)) (ys : List Str) {σ₀ : σ}
    (W : KTurns prog w A target I fp wr n P Md St)
    (alive : ∀ i h, St i h → ∀ b ∈ ws, ∃ o, h.get? b = some o) (new : ∀ b ∈ ws, h₀.get? b = none ∧ b ≠ env.locals) (sub : ∀ b ∈ wr, b ∈ ws) (pin : ∀ b ∈ fp, Pinned h₀ G R ws b) (apart : ∀ p ∈ G σ₀, p.1 ∉ ws)
    (st : St 0 hp) (F : Fr h₀ env.locals hp m₀) (N : News h₀ env.locals hp (G σ₀)) (ht : 0 < tk0) (h0 : R 0 σ₀) (hV0 : ∀ kv ∈ V σ₀, m₀ kv.1 = some kv.2) (hE : PassesOwn (model prog w) A env E)
    (turn : ∀ i v σ u h tk its, its.map (·.1) = ws → i < n → P i v h → R i σ → 0 < tk → (∀ p ∈ G σ, p.1 ∉ ws) → Fr h₀ env.locals h (setAll (V σ) (freeAll (x :: ys) u m₀)) → News h₀ env.locals h (its ++ G σ) →
      wpAny (model prog w) A (assign target env v) (fun _ s₂ => wpAny (model prog w) A (execs body env) (TurnK h₀ env.locals x ys V G m₀ (R (i + 1)) its { s with heap := h, toks := tk } Q) E s₂) E { s with heap := h, toks := tk })
    (done : ∀ σ u h tk, R n σ → 0 < tk → Fr h₀ env.locals h (setAll (V σ) (freeAll (x :: ys) u m₀)) → News h₀ env.locals h (G σ) → Q .next { s with heap := h, toks := tk }) :
    codeAny (model prog w) A (.forLoop target (.ref I) body [] env) (fun r s' => match r with | .ok f => Q f s' | .error e => cameBackBy (model prog w) A env E e s') { s with heap := hp, toks := tk0 } := by
  have start : m₀ = setAll (V σ₀) (freeAll (x :: ys) m₀ m₀) := MapIs.done ⟨hV0, fun _ _ _ _ => rfl⟩
  have wn : ∀ b ∈ wr, h₀.get? b = none ∧ b ≠ env.locals := fun b hb => new b (sub b hb)
  refine codeAny_forLoop_any (fun k s' => ∃ i h tk u a, s' = { s with heap := h, toks := tk } ∧ k + i = n ∧ AtHead h₀ env.locals x ys V G m₀ R St ws i h tk u a) ?_ n
    ⟨0, hp, tk0, m₀, σ₀, rfl, rfl, ⟨ht, st, h0, start ▸ F, N, apart⟩⟩
  rintro k s' ⟨i, h, tk, u, a, rfl, hk, H⟩
  have wa : ∀ p ∈ G a, p.1 ∉ wr := fun p hp hb => H.apart p hp (sub _ hb)
  cases k with
  | zero =>
    obtain rfl : i = n := by omega
    refine wpAny_with_toks (n := 1) H.toks (W.done _ _ _ H.iter fun h₁ tk₁ off pos => wpAny_execs_nil ?_)
    exact done a u h₁ tk₁ H.ghost pos (carryF wn off H.frame) (carryN wa off H.ledger)
  | succ k =>
    have lt : i < n := by omega
    refine wpAny_with_toks (n := 1) H.toks (W.item i _ _ _ lt H.iter fun v h₁ tk₁ hMd off₁ pos => W.go i v _ _ _ hMd fun h₂ hP st₂ off₂ => ?_)
    have off : Off wr h h₂ := fun b o hb e => off₂ b o hb (off₁ b o hb e)
    obtain ⟨its, hits, hval⟩ := objsAt (alive _ _ st₂)
    have F₂ := carryF wn off H.frame
    have N₂ : News h₀ env.locals h₂ (its ++ G a) := fun p hp => (List.mem_append.mp hp).elim
      (fun q => ⟨hval p q, (new _ (hits ▸ List.mem_map_of_mem q)).symm⟩) (carryN wa off H.ledger p)
    refine wpAny_mono (wpAny_toks_of (n := 1) pos (turn i v a u h₂ tk₁ its hits lt hP H.ghost pos H.apart F₂ N₂)) (fun _ s₂ B => ?_) fun e s₂ B => hE _ _ B.2
    refine wpAny_mono (wpAny_toks_of (n := 1) B.1 B.2) (fun f s₃ C => ?_) fun e s₃ C => hE _ _ C.2
    have again : EndK h₀ env.locals x ys V G m₀ (R (i + 1)) its { s with heap := h₂, toks := tk₁ } s₃ →
        ∃ k', k' < k + 1 ∧ ∃ i h tk u a, s₃ = { s with heap := h, toks := tk } ∧ k' + i = n ∧ AtHead h₀ env.locals x ys V G m₀ R St ws i h tk u a := by
      rintro ⟨h₃, tk₃, m₃, news₃, a₃, rfl, F₃, N₃, keepI, keepG, off₃, hR₃, hM₃⟩
      refine ⟨k, Nat.lt_succ_self k, i + 1, h₃, tk₃, m₃, a₃, rfl, by omega, ⟨C.1, ?_, hR₃, hM₃.done ▸ F₃, fun p hp => N₃ p (keepG p hp), fun p hp q => ?_⟩⟩
      · exact W.frame _ _ _ st₂ fun b hb o e => pin_stays (pin b hb) hits F₂ N₂ H.ghost F₃ N₃ keepI keepG hR₃ e
      · obtain ⟨c, hc, e⟩ := List.mem_map.mp (hits ▸ q)
        exact off₃ p hp c hc e.symm
    cases f with
    | next => exact again C.2
    | cont => exact again C.2
    | brk => exact C.2
    | ret v => exact C.2

theorem objs_one {a : Addr} {its : List (Addr × Obj)} (e : its.map (·.1) = [a]) : ∃ o, its = [(a, o)] := by
  obtain ⟨p, r, rfl, hp, hr⟩ := List.map_eq_cons_iff.mp e
  rw [List.map_eq_nil_iff.mp hr, ← hp]
  exact ⟨p.2, rfl⟩
theorem objs_two {a b : Addr} {its : List (Addr × Obj)} (e : its.map (·.1) = [a, b]) : ∃ o o', its = [(a, o), (b, o')] := by
  obtain ⟨p, r, rfl, hp, hr⟩ := List.map_eq_cons_iff.mp e
  obtain ⟨o', rfl⟩ := objs_one hr
  rw [← hp]
  exact ⟨p.2, o', rfl⟩
theorem pin_one {σ : Type} {G : σ → List (Addr × Obj)} {R : Nat → σ → Prop} {I l : Addr} (h : Pinned h₀ G R [I] l) : ∀ b ∈ [I, l], Pinned h₀ G R [I] b := fun b hb => by
  rcases List.mem_cons.mp hb with rfl | hb
  · exact .inl (.head _)
  · exact List.mem_singleton.mp hb ▸ h

/-- an iterator of one cell, that was the heap's next -/
theorem loopI {σ : Type} {fp : List Addr} {n : Nat} {P : Nat → Value → Prop} {St : Nat → Heap → Prop} {m₀ : Str → Option Value} {hp : Heap} {oi : Obj} {tk0 : Nat} {x : Str}
    (R : Nat → σ → Prop) (V : σ → List (Str × Value)) (G : σ → List (Addr × Obj)) (ys : List Str) {σ₀ : σ}
    (W : Walks prog w A hp.objs.size fp [hp.objs.size] n P St)
    (lets : ∀ i v (s : Shared) (Q : Unit → Shared → Prop) (E : Value → Shared → Prop), St i s.heap → Q () s → wpAny (model prog w) A (letOwnedTupleGo target (.ref hp.objs.size) v) Q E s)
    (alive : ∀ i h, St i h → ∃ o, h.get? hp.objs.size = some o) (pin : ∀ b ∈ fp, Pinned h₀ G R [hp.objs.size] b)
    (st : St 0 (hp.push oi)) (F : Fr h₀ env.locals hp m₀) (N : News h₀ env.locals hp (G σ₀)) (ht : 0 < tk0) (h0 : R 0 σ₀) (hV0 : ∀ kv ∈ V σ₀, m₀ kv.1 = some kv.2) (hE : PassesOwn (model prog w) A env E)
    (turn : ∀ i v σ u h tk oI, i < n → P i v → R i σ → 0 < tk → (∀ p ∈ G σ, p.1 ≠ hp.objs.size) → Fr h₀ env.locals h (setAll (V σ) (freeAll (x :: ys) u m₀)) → News h₀ env.locals h ((hp.objs.size, oI) :: G σ) →
      wpAny (model prog w) A (assign target env v) (fun _ s₂ => wpAny (model prog w) A (execs body env) (TurnK h₀ env.locals x ys V G m₀ (R (i + 1)) [(hp.objs.size, oI)] { s with heap := h, toks := tk } Q) E s₂) E { s with heap := h, toks := tk })
    (done : ∀ σ u h tk, R n σ → 0 < tk → Fr h₀ env.locals h (setAll (V σ) (freeAll (x :: ys) u m₀)) → News h₀ env.locals h (G σ) → Q .next { s with heap := h, toks := tk }) :
    codeAny (model prog w) A (.forLoop target (.ref hp.objs.size) body [] env) (fun r s' => match r with | .ok f => Q f s' | .error e => cameBackBy (model prog w) A env E e s') { s with heap := hp.push oi, toks := tk0 } := by
  refine loopK R V G ys (ws := [hp.objs.size]) (σ₀ := σ₀) (KTurns.ofWalks W lets) (fun i h hs b hb => List.mem_singleton.mp hb ▸ alive i h hs) (fun b hb => ?_) (fun _ hb => hb) pin (fun p hp' q => ?_)
    st (F.push oi) (N.grown fun _ _ => Heap.get?_push_of_some _) ht h0 hV0 hE (fun i v a u h tk its hits lt hPv hR pos out F' N' => ?_) done
  · rw [List.mem_singleton.mp hb]
    exact ⟨next_is_new F, Nat.ne_of_gt F.ns.lt⟩
  · exact Nat.ne_of_lt (Heap.lt_size (N p hp').1) (List.mem_singleton.mp q)
  · obtain ⟨oI, rfl⟩ := objs_one hits
    exact turn i v a u h tk oI lt hPv hR pos (fun p hp' e => out p hp' (List.mem_singleton.mpr e)) F' N'
end

section
variable {prog : Program} {w : World} {A : Around} {E : Value → Shared → Prop} {s : Shared} {env : Env} {h₀ : Heap} {x : Str} {body : List Stmt} {Q : Flow → Shared → Prop}

/-- the same with a name for its target: the name is set ahead of the body -/
theorem loopN {σ : Type} {fp : List Addr} {n : Nat} {P : Nat → Value → Prop} {St : Nat → Heap → Prop} {m₀ : Str → Option Value} {hp : Heap} {oi : Obj} {tk0 : Nat} {px : Pos}
    (R : Nat → σ → Prop) (V : σ → List (Str × Value)) (G : σ → List (Addr × Obj)) (ys : List Str) {σ₀ : σ}
    (hx : env.kindOf x = some .local) (hc : (env.scope.kind == .class || (env.scope.kind == .module && env.locals != env.globals)) = false)
    (W : Walks prog w A hp.objs.size fp [hp.objs.size] n P St) (alive : ∀ i h, St i h → ∃ o, h.get? hp.objs.size = some o) (pin : ∀ b ∈ fp, Pinned h₀ G R [hp.objs.size] b)
    (st : St 0 (hp.push oi)) (F : Fr h₀ env.locals hp m₀) (N : News h₀ env.locals hp (G σ₀)) (ht : 0 < tk0) (h0 : R 0 σ₀) (hV0 : ∀ kv ∈ V σ₀, m₀ kv.1 = some kv.2) (hE : PassesOwn (model prog w) A env E)
    (turn : ∀ i v σ u h tk I oI, P i v → i < n → R i σ → 0 < tk → (∀ p ∈ G σ, p.1 ≠ I) → Fr h₀ env.locals h (setAll ((x, v) :: V σ) (freeAll ys u m₀)) → News h₀ env.locals h ((I, oI) :: G σ) →
      wpAny (model prog w) A (execs body env) (TurnT h₀ env.locals x ys V G m₀ (R (i + 1)) I oI { s with heap := h, toks := tk } Q) E { s with heap := h, toks := tk })
    (done : ∀ σ u h tk, R n σ → 0 < tk → Fr h₀ env.locals h (setAll (V σ) (freeAll (x :: ys) u m₀)) → News h₀ env.locals h (G σ) → Q .next { s with heap := h, toks := tk }) :
    codeAny (model prog w) A (.forLoop (.Name x px) (.ref hp.objs.size) body [] env) (fun r s' => match r with | .ok f => Q f s' | .error e => cameBackBy (model prog w) A env E e s') { s with heap := hp.push oi, toks := tk0 } := by
  refine loopI (x := x) R V G ys (σ₀ := σ₀) W (fun _ _ _ _ _ _ hq => wpAny_of_eq rfl hq) alive pin st F N ht h0 hV0 hE (fun i v a u h tk oI lt hPv hR pos out F' N' => ?_) done
  refine wpAny_assign_Name (wpAny_storeName_local hx F'.ns (fun h₁ ns same => ?_) hc)
  refine wpAny_mono (turn i v a u h₁ (tk + 1) _ oI hPv lt hR (Nat.succ_pos _) out (setAll_free ▸ F'.set ns same) (N'.set same)) (fun f s₃ C => ?_) fun _ _ e => e
  have conv : EndT h₀ env.locals x ys V G m₀ (R (i + 1)) hp.objs.size oI { s with heap := h₁, toks := tk + 1 } s₃ → EndK h₀ env.locals x ys V G m₀ (R (i + 1)) [(hp.objs.size, oI)] { s with heap := h, toks := tk } s₃ := by
    rintro ⟨h₃, tk₃, m₃, news₃, a₃, e, F₃, N₃, hI, hG, ne, r⟩
    exact ⟨h₃, tk₃, m₃, news₃, a₃, e, F₃, N₃, List.forall_mem_singleton.mpr hI, hG, fun p hp => List.forall_mem_singleton.mpr (ne p hp), r⟩
  cases f with
  | next => exact conv C
  | cont => exact conv C
  | brk => exact C
  | ret v => exact C

theorem iter_listT {σ : Type} {l : Addr} {vs : List Value} {nn : Nat} {m₀ : Str → Option Value} {px : Pos} (R : Nat → σ → Prop) (V : σ → List (Str × Value)) (G : σ → List (Addr × Obj)) (ys : List Str) {σ₀ : σ}
    (hx : env.kindOf x = some .local)
    (hp : (env.scope.kind == .class || (env.scope.kind == .module && env.locals != env.globals)) = false)
    (hh : A.handled = none) (hl : ∀ i σ, R i σ → (l, listOf vs.toArray nn) ∈ G σ) (F : Fr h₀ env.locals s.heap m₀) (N : News h₀ env.locals s.heap (G σ₀)) (ht : 0 < s.toks) (h0 : R 0 σ₀) (hV0 : ∀ kv ∈ V σ₀, m₀ kv.1 = some kv.2)
    (hE : PassesOwn (model prog w) A env E)
    (turn : ∀ i v σ u h tk I oI, vs[i]? = some v → R i σ → 0 < tk → (∀ p ∈ G σ, p.1 ≠ I) → Fr h₀ env.locals h (setAll ((x, v) :: V σ) (freeAll ys u m₀)) → News h₀ env.locals h ((I, oI) :: G σ) →
      wpAny (model prog w) A (execs body env) (TurnT h₀ env.locals x ys V G m₀ (R (i + 1)) I oI { s with heap := h, toks := tk } Q) E { s with heap := h, toks := tk })
    (done : ∀ σ u h tk, R vs.length σ → 0 < tk → Fr h₀ env.locals h (setAll (V σ) (freeAll (x :: ys) u m₀)) → News h₀ env.locals h (G σ) → Q .next { s with heap := h, toks := tk }) :
    wpAny (model prog w) A (pyIter (.ref l)) (fun it s₂ => codeAny (model prog w) A (.forLoop (.Name x px) it body [] env) (fun r s' => match r with | .ok f => Q f s' | .error e => cameBackBy (model prog w) A env E e s') s₂) E s := by
  have cell := N _ (hl 0 σ₀ h0)
  have old : s.heap.IsList l vs.toArray := ⟨_, cell.1, rfl, nn, rfl⟩
  have W := Walks.list (prog := prog) (w := w) hh s.heap.objs.size l (Nat.ne_of_lt (Heap.lt_size cell.1)) vs.toArray
  rw [List.size_toArray] at W
  refine wpAny_pyIter_list old ?_
  exact loopN R V G ys hx hp W (fun _ _ st => let ⟨o, e, _⟩ := st.1; ⟨o, e⟩) (pin_one (.inr (.inl ⟨_, hl⟩))) ⟨⟨_, Heap.get?_push_size _ rfl, rfl, rfl⟩, old.at fun _ => Heap.get?_push_of_some _⟩ F N ht h0 hV0 hE
    (fun i v a u h tk I oI hPv _ => turn i v a u h tk I oI (by simpa using hPv)) done

theorem iter_tupT {σ : Type} {l : Addr} {vs : List Value} {m₀ : Str → Option Value} {px : Pos} (R : Nat → σ → Prop) (V : σ → List (Str × Value)) (G : σ → List (Addr × Obj)) (ys : List Str) {σ₀ : σ}
    (hx : env.kindOf x = some .local)
    (hp : (env.scope.kind == .class || (env.scope.kind == .module && env.locals != env.globals)) = false)
    (hh : A.handled = none) (hl : IsTup h₀ l vs.toArray) (F : Fr h₀ env.locals s.heap m₀) (N : News h₀ env.locals s.heap (G σ₀)) (ht : 0 < s.toks) (h0 : R 0 σ₀) (hV0 : ∀ kv ∈ V σ₀, m₀ kv.1 = some kv.2)
    (hE : PassesOwn (model prog w) A env E)
    (turn : ∀ i v σ u h tk I oI, vs[i]? = some v → R i σ → 0 < tk → (∀ p ∈ G σ, p.1 ≠ I) → Fr h₀ env.locals h (setAll ((x, v) :: V σ) (freeAll ys u m₀)) → News h₀ env.locals h ((I, oI) :: G σ) →
      wpAny (model prog w) A (execs body env) (TurnT h₀ env.locals x ys V G m₀ (R (i + 1)) I oI { s with heap := h, toks := tk } Q) E { s with heap := h, toks := tk })
    (done : ∀ σ u h tk, R vs.length σ → 0 < tk → Fr h₀ env.locals h (setAll (V σ) (freeAll (x :: ys) u m₀)) → News h₀ env.locals h (G σ) → Q .next { s with heap := h, toks := tk }) :
    wpAny (model prog w) A (pyIter (.ref l)) (fun it s₂ => codeAny (model prog w) A (.forLoop (.Name x px) it body [] env) (fun r s' => match r with | .ok f => Q f s' | .error e => cameBackBy (model prog w) A env E e s') s₂) E s := by
  obtain ⟨o₀, e₀, shape⟩ := hl
  have old : s.heap.IsTuple l vs.toArray := ⟨o₀, F.keep _ _ e₀, shape⟩
  have W := Walks.tuple (prog := prog) (w := w) hh s.heap.objs.size l (Nat.ne_of_lt (Heap.lt_size (F.keep _ _ e₀))) vs.toArray
  rw [List.size_toArray] at W
  refine wpAny_pyIter_tuple old ?_
  exact loopN R V G ys hx hp W (fun _ _ st => let ⟨o, e, _⟩ := st.1; ⟨o, e⟩) (pin_one (.inr (.inr ⟨o₀, e₀⟩))) ⟨⟨_, Heap.get?_push_size _ rfl, rfl, rfl⟩, old.at fun _ => Heap.get?_push_of_some _⟩ F N ht h0 hV0 hE
    (fun i v a u h tk I oI hPv _ => turn i v a u h tk I oI (by simpa using hPv)) done

/-- a for over a list of the ledger -/
theorem for_listT {σ : Type} {iter : Expr} {px pos : Pos} {l : Addr} {vs : List Value} {nn : Nat} {m₀ : Str → Option Value} (R : Nat → σ → Prop) (V : σ → List (Str × Value)) (G : σ → List (Addr × Obj)) (ys : List Str) {σ₀ : σ}
    (F : Fr h₀ env.locals s.heap m₀) (N : News h₀ env.locals s.heap (G σ₀)) (ht : 0 < s.toks) (h0 : R 0 σ₀) (hV0 : ∀ kv ∈ V σ₀, m₀ kv.1 = some kv.2)
    (hev : ∀ (Q : Value → Shared → Prop), Q (.ref l) s → wpAny (model prog w) A (eval iter env) Q E s)
    (hl : ∀ i σ, R i σ → (l, listOf vs.toArray nn) ∈ G σ)
    (turn : ∀ i v σ u h tk I oI, vs[i]? = some v → R i σ → 0 < tk → (∀ p ∈ G σ, p.1 ≠ I) → Fr h₀ env.locals h (setAll ((x, v) :: V σ) (freeAll ys u m₀)) → News h₀ env.locals h ((I, oI) :: G σ) →
      wpAny (model prog w) A (execs body env) (TurnT h₀ env.locals x ys V G m₀ (R (i + 1)) I oI { s with heap := h, toks := tk } Q) E { s with heap := h, toks := tk })
    (done : ∀ σ u h tk, R vs.length σ → 0 < tk → Fr h₀ env.locals h (setAll (V σ) (freeAll (x :: ys) u m₀)) → News h₀ env.locals h (G σ) → Q .next { s with heap := h, toks := tk })
    (hE : PassesOwn (model prog w) A env E)
    (hx : env.kindOf x = some .local := by rfl)
    (hp : (env.scope.kind == .class || (env.scope.kind == .module && env.locals != env.globals)) = false := by rfl)
    (hh : A.handled = none := by rfl)
    (hs : ∀ x, foldedSetIterable iter env x = pure x := by intro _; rfl) :
    wpAny (model prog w) A (exec (.For (.Name x px) iter body [] pos) env) Q E s :=
  wpAny_For (hev _ (iter_listT R V G ys hx hp hh hl F N ht h0 hV0 hE turn done)) hs

theorem EndT.mk' {σ : Type} {L : Addr} {ys : List Str} {V : σ → List (Str × Value)} {G : σ → List (Addr × Obj)} {m₀ m' : Str → Option Value} {R : σ → Prop} {I : Addr} {oI : Obj} {s₁ : Shared} {h' : Heap} {tk : Nat} {news' : List (Addr × Obj)} (σ' : σ)
    (F : Fr h₀ L h' m') (N : News h₀ L h' news') (hI : (I, oI) ∈ news') (hG : ∀ p ∈ G σ', p ∈ news') (hn : ∀ p ∈ G σ', p.1 ≠ I) (hR : R σ') (hM : MapIs x ys (V σ') m₀ m') : EndT h₀ L x ys V G m₀ R I oI s₁ { s₁ with heap := h', toks := tk } :=
  ⟨h', tk, m', news', σ', rfl, F, N, hI, hG, hn, hR, hM⟩

/-- one statement walked by cases, the rest walked once -/
theorem cutT {M : Model} {α : Type} {st : Stmt} {L : Addr} {m : Str → Option Value} {news : List (Addr × Obj)} (kvs : α → List (Str × Value)) (ys : List Str) (_F : Fr h₀ L s.heap m) (_N : News h₀ L s.heap news)
    (rest : ∀ (u : Str → Option Value) (c : α) h tk, 0 < tk → Fr h₀ L h (setAll (kvs c) (freeAll ys u m)) → News h₀ L h news → Q .next { s with heap := h, toks := tk })
    (walk : ∀ Q' : Flow → Shared → Prop, (∀ m' c h tk, 0 < tk → Fr h₀ L h m' → News h₀ L h news → (∀ kv ∈ kvs c, m' kv.1 = some kv.2) → (∀ z, z ∉ ys → (∀ kv ∈ kvs c, z ≠ kv.1) → m' z = m z) → Q' .next { s with heap := h, toks := tk }) → wpAny M A (exec st env) Q' E s) :
    wpAny M A (exec st env) Q E s := by
  refine walk Q fun m' c h tk htk F N h1 h2 => rest m' c h tk htk ?_ N
  have e : m' = setAll (kvs c) (freeAll ys m' m) := by
    funext z
    exact (setAll_eq h1 fun hn => (freeAll_eq fun hy => h2 z hy hn).symm).symm
  rw [← e]; exact F
end

section
variable {α : Type} {P : α → Prop} {a b c d : α}
theorem all0 : ∀ x ∈ ([] : List α), P x := fun _ h => nomatch h
theorem all1 (h : P a) : ∀ x ∈ [a], P x := fun _ hx => List.mem_singleton.mp hx ▸ h
theorem all2 (h : P a) (h2 : P b) : ∀ x ∈ [a, b], P x := List.forall_mem_cons.mpr ⟨h, all1 h2⟩
theorem all3 (h : P a) (h2 : P b) (h3 : P c) : ∀ x ∈ [a, b, c], P x := List.forall_mem_cons.mpr ⟨h, all2 h2 h3⟩
theorem all4 (h : P a) (h2 : P b) (h3 : P c) (h4 : P d) : ∀ x ∈ [a, b, c, d], P x := List.forall_mem_cons.mpr ⟨h, all3 h2 h3 h4⟩
end

theorem newsTail {h₀ h : Heap} {L : Addr} {q : Addr × Obj} {l : List (Addr × Obj)} (N : News h₀ L h (q :: l)) : News h₀ L h l := fun p hp => N p (.tail _ hp)

-- MACROS BEGIN
local macro_rules | `(tactic| k_intsEnd) => `(tactic| ((try dsimp only); (first | exact all0 | refine' all1 ?_ | refine' all2 ?_ ?_ | refine' all3 ?_ ?_ ?_ | refine' all4 ?_ ?_ ?_ ?_); (all_goals exact rfl)))
local macro_rules | `(tactic| ktn_open) => `(tactic| (intro z9 h7 h8; (try simp only [List.mem_cons, List.not_mem_nil, or_false, not_false_eq_true, forall_eq_or_imp, forall_eq, ne_eq, not_or] at h7); (try simp only [List.mem_cons, List.not_mem_nil, or_false, not_false_eq_true, forall_eq_or_imp, forall_eq, ne_eq, not_or] at h8); (try dsimp only [setAll, freeAll]); (repeat (first | with_reducible rfl | (with_reducible refine (if_neg h8).trans ?_) | (with_reducible refine (if_neg h8.1).trans ?_) | (with_reducible refine (if_neg h8.2).trans ?_) | (with_reducible refine (if_neg h8.2.1).trans ?_) | (with_reducible refine (if_neg h8.2.2).trans ?_) | (with_reducible refine (if_neg h8.2.2.1).trans ?_) | (with_reducible refine (if_neg h8.2.2.2).trans ?_) | (with_reducible refine (if_neg h7).trans ?_) | (with_reducible refine (if_neg h7.1).trans ?_) | (with_reducible refine (if_neg h7.2).trans ?_) | (with_reducible refine (if_neg h7.2.1).trans ?_) | (with_reducible refine (if_neg h7.2.2).trans ?_) | (with_reducible refine (if_neg h7.2.2.1).trans ?_) | (with_reducible refine (if_neg h7.2.2.2).trans ?_)))))
local macro_rules | `(tactic| ktd_rel) => `(tactic| (refine ⟨?a9, ?b9⟩; (case a9 => k_intsEnd); (case b9 => (intro z9 h6 h7 h8; (try simp only [List.mem_cons, List.not_mem_nil, or_false, not_false_eq_true, forall_eq_or_imp, forall_eq, ne_eq, not_or] at h7); (try simp only [List.mem_cons, List.not_mem_nil, or_false, not_false_eq_true, forall_eq_or_imp, forall_eq, ne_eq, not_or] at h8); (try dsimp only [setAll, freeAll]); (repeat (first | with_reducible rfl | (with_reducible refine (if_neg h6).trans ?_) | (with_reducible refine (if_neg h8).trans ?_) | (with_reducible refine (if_neg h8.1).trans ?_) | (with_reducible refine (if_neg h8.2).trans ?_) | (with_reducible refine (if_neg h8.2.1).trans ?_) | (with_reducible refine (if_neg h8.2.2).trans ?_) | (with_reducible refine (if_neg h8.2.2.1).trans ?_) | (with_reducible refine (if_neg h8.2.2.2).trans ?_) | (with_reducible refine (if_neg h7).trans ?_) | (with_reducible refine (if_neg h7.1).trans ?_) | (with_reducible refine (if_neg h7.2).trans ?_) | (with_reducible refine (if_neg h7.2.1).trans ?_) | (with_reducible refine (if_neg h7.2.2).trans ?_) | (with_reducible refine (if_neg h7.2.2.1).trans ?_) | (with_reducible refine (if_neg h7.2.2.2).trans ?_)))))))
-- MACROS END

section
variable {prog : Program} {w : World} {A : Around} {E : Value → Shared → Prop} {s : Shared} {env : Env} {h₀ : Heap} {target : Expr} {body : List Stmt} {Q : Flow → Shared → Prop} {x : Str}
theorem iter_listK {σ : Type} {l : Addr} {vs : List Value} {nn : Nat} {m₀ : Str → Option Value} (R : Nat → σ → Prop) (V : σ → List (Str × Value)) (G : σ → List (Addr × Obj)) (ys : List Str) {σ₀ : σ}
    (hh : A.handled = none) (hl : ∀ i σ, R i σ → (l, listOf vs.toArray nn) ∈ G σ) (F : Fr h₀ env.locals s.heap m₀) (N : News h₀ env.locals s.heap (G σ₀)) (ht : 0 < s.toks) (h0 : R 0 σ₀) (hV0 : ∀ kv ∈ V σ₀, m₀ kv.1 = some kv.2) (hE : PassesOwn (model prog w) A env E)
    (turn : ∀ i v σ u h tk I oI, vs[i]? = some v → R i σ → 0 < tk → (∀ p ∈ G σ, p.1 ≠ I) → Fr h₀ env.locals h (setAll (V σ) (freeAll (x :: ys) u m₀)) → News h₀ env.locals h ((I, oI) :: G σ) →
      wpAny (model prog w) A (assign target env v) (fun _ s₂ => wpAny (model prog w) A (execs body env) (TurnK h₀ env.locals x ys V G m₀ (R (i + 1)) [(I, oI)] { s with heap := h, toks := tk } Q) E s₂) E { s with heap := h, toks := tk })
    (done : ∀ σ u h tk, R vs.length σ → 0 < tk → Fr h₀ env.locals h (setAll (V σ) (freeAll (x :: ys) u m₀)) → News h₀ env.locals h (G σ) → Q .next { s with heap := h, toks := tk }) :
    wpAny (model prog w) A (pyIter (.ref l)) (fun it s₂ => codeAny (model prog w) A (.forLoop target it body [] env) (fun r s' => match r with | .ok f => Q f s' | .error e => cameBackBy (model prog w) A env E e s') s₂) E s := by
  have cell := N _ (hl 0 σ₀ h0)
  have old : s.heap.IsList l vs.toArray := ⟨_, cell.1, rfl, nn, rfl⟩
  have W := Walks.list (prog := prog) (w := w) hh s.heap.objs.size l (Nat.ne_of_lt (Heap.lt_size cell.1)) vs.toArray
  rw [List.size_toArray] at W
  refine wpAny_pyIter_list old ?_
  exact loopI (x := x) R V G ys W (fun _ _ _ _ _ st hq => letGo_listiter st.1 hq) (fun _ _ st => let ⟨o, e, _⟩ := st.1; ⟨o, e⟩) (pin_one (.inr (.inl ⟨_, hl⟩))) ⟨⟨_, Heap.get?_push_size _ rfl, rfl, rfl⟩, old.at fun _ => Heap.get?_push_of_some _⟩ F N ht h0 hV0 hE
    (fun i v a u h tk oI _ hPv => turn i v a u h tk _ oI (by simpa using hPv)) done

theorem iter_enumK {σ : Type} {elts : List Expr} {kk : Nat} {pos : Pos} {l : Addr} {vs : List Value} {nn : Nat} {m₀ : Str → Option Value} (R : Nat → σ → Prop) (V : σ → List (Str × Value)) (G : σ → List (Addr × Obj)) (ys : List Str) {σ₀ : σ}
    (hh : A.handled = none) (hl : ∀ i σ, R i σ → (l, listOf vs.toArray nn) ∈ G σ) (F : Fr h₀ env.locals s.heap m₀) (N : News h₀ env.locals s.heap (G σ₀)) (ht : 0 < s.toks) (h0 : R 0 σ₀) (hV0 : ∀ kv ∈ V σ₀, m₀ kv.1 = some kv.2) (hE : PassesOwn (model prog w) A env E)
    (turn : ∀ (i : Nat) (v : Value) (σ : σ) u h tk I oI J oJ (T : Addr) (t : Tok), vs[i]? = some v → R i σ → 0 < tk → (∀ p ∈ G σ, p.1 ≠ I) → (∀ p ∈ G σ, p.1 ≠ J) → IsTup h T #[.int (i : Int) t, v] → Fr h₀ env.locals h (setAll (V σ) (freeAll (x :: ys) u m₀)) → News h₀ env.locals h ((I, oI) :: (J, oJ) :: G σ) →
      wpAny (model prog w) A (assign (.Tuple elts kk pos) env (.ref T)) (fun _ s₂ => wpAny (model prog w) A (execs body env) (TurnK h₀ env.locals x ys V G m₀ (R (i + 1)) [(I, oI), (J, oJ)] { s with heap := h, toks := tk } Q) E s₂) E { s with heap := h, toks := tk })
    (done : ∀ σ u h tk, R vs.length σ → 0 < tk → Fr h₀ env.locals h (setAll (V σ) (freeAll (x :: ys) u m₀)) → News h₀ env.locals h (G σ) → Q .next { s with heap := h, toks := tk }) :
    wpAny (model prog w) A (call (.type "enumerate") [.ref l]) (fun xv s₁ => wpAny (model prog w) A (pyIter xv) (fun it s₂ => codeAny (model prog w) A (.forLoop (.Tuple elts kk pos) it body [] env) (fun r s' => match r with | .ok f => Q f s' | .error e => cameBackBy (model prog w) A env E e s') s₂) E s₁) E s := by
  have cell := N _ (hl 0 σ₀ h0)
  have old : s.heap.IsList l vs.toArray := ⟨_, cell.1, rfl, nn, rfl⟩
  have lt : l < s.heap.objs.size := Heap.lt_size cell.1
  have far : ∀ b : Addr, b < s.heap.objs.size → b ≠ s.heap.objs.size + 1 := fun b hb => Nat.ne_of_lt (Nat.lt_succ_of_lt hb)
  refine call_enumerate_list old fun h' en it _ kept => wpAny_pyIter_enum en ?_
  have W := (WalksT.enumerate (prog := prog) (w := w) hh (s.heap.objs.size + 1) s.heap.objs.size l (Nat.succ_ne_self _) (far l lt) (Nat.ne_of_lt lt) vs.toArray).toU
  rw [List.size_toArray] at W
  refine loopK (ws := [s.heap.objs.size + 1, s.heap.objs.size]) (tk0 := s.toks) (x := x) R V G ys (KTurns.ofWalksU W)
    (fun i h st => List.forall_mem_cons.mpr ⟨let ⟨_, e⟩ := st.1; ⟨_, e⟩, List.forall_mem_singleton.mpr (let ⟨o, e, _⟩ := st.2.1; ⟨o, e⟩)⟩)
    (List.forall_mem_cons.mpr ⟨⟨ktu_new F (Nat.le_succ _), (far _ F.ns.lt).symm⟩, List.forall_mem_singleton.mpr ⟨next_is_new F, Nat.ne_of_gt F.ns.lt⟩⟩) (fun _ hb => hb)
    (List.forall_mem_cons.mpr ⟨.inl (.head _), List.forall_mem_cons.mpr ⟨.inl (.tail _ (.head _)), List.forall_mem_singleton.mpr (.inr (.inl ⟨_, hl⟩))⟩⟩)
    (fun p hp q => ?_) ⟨⟨_, en⟩, it, old.at fun _ => kept _ _⟩ (F.keeps kept) (N.grown kept) ht h0 hV0 hE (fun i v a u h tk its hits _ hPv hR pos out F' N' => ?_) done
  · have plt := Heap.lt_size (N p hp).1
    rcases List.mem_cons.mp q with e | q
    · exact far _ plt e
    · exact Nat.ne_of_lt plt (List.mem_singleton.mp q)
  · obtain ⟨T, vals, rfl, ⟨t, y, hy, rfl⟩, hT⟩ := hPv
    obtain ⟨oI, oJ, rfl⟩ := objs_two hits
    exact turn i y a u h tk _ oI _ oJ T t (by simpa using hy) hR pos (fun p hp e => out p hp (List.mem_cons.mpr (.inl e))) (fun p hp e => out p hp (List.mem_cons.mpr (.inr (List.mem_singleton.mpr e)))) hT F' N'
end

section
variable {prog : Program} {w : World} {A : Around} {E : Value → Shared → Prop} {s : Shared} {env : Env} {h₀ : Heap} {body : List Stmt} {Q : Flow → Shared → Prop} {x : Str}
theorem rangeSizeT (n : Nat) : Builtin.Range.rangeSize 0 (n : Int) 1 = (n : Int) := by
  unfold Builtin.Range.rangeSize
  rw [if_pos (by decide), Int.ediv_one]
  split <;> omega
theorem smallT {n : Nat} (h : n ≤ 10000) : Builtin.Range.small 0 (n : Int) 1 = true := small_one (by decide) (by decide) (by omega) (by omega)
theorem iter_rangeT {σ : Type} {n : Nat} {t₀ : Tok} {m₀ : Str → Option Value} {px : Pos} (R : Nat → σ → Prop) (V : σ → List (Str × Value)) (G : σ → List (Addr × Obj)) (ys : List Str) {σ₀ : σ}
    (hx : env.kindOf x = some .local)
    (hp : (env.scope.kind == .class || (env.scope.kind == .module && env.locals != env.globals)) = false)
    (hh : A.handled = none) (hz : n ≤ 10000) (F : Fr h₀ env.locals s.heap m₀) (N : News h₀ env.locals s.heap (G σ₀)) (h0 : R 0 σ₀) (hV0 : ∀ kv ∈ V σ₀, m₀ kv.1 = some kv.2)
    (hE : PassesOwn (model prog w) A env E)
    (turn : ∀ (i : Nat) (t : Tok) σ u h tk I oI, i < n → R i σ → 0 < tk → (∀ p ∈ G σ, p.1 ≠ I) → Fr h₀ env.locals h (setAll ((x, .int (i : Int) t) :: V σ) (freeAll ys u m₀)) → News h₀ env.locals h ((I, oI) :: G σ) →
      wpAny (model prog w) A (execs body env) (TurnT h₀ env.locals x ys V G m₀ (R (i + 1)) I oI { s with heap := h, toks := tk } Q) E { s with heap := h, toks := tk })
    (done : ∀ σ u h tk, R n σ → 0 < tk → Fr h₀ env.locals h (setAll (V σ) (freeAll (x :: ys) u m₀)) → News h₀ env.locals h (G σ) → Q .next { s with heap := h, toks := tk }) :
    wpAny (model prog w) A (call (.type "range") [.int (n : Int) t₀]) (fun xv s₁ => wpAny (model prog w) A (pyIter xv) (fun it s₂ => codeAny (model prog w) A (.forLoop (.Name x px) it body [] env) (fun r s' => match r with | .ok f => Q f s' | .error e => cameBackBy (model prog w) A env E e s') s₂) E s₁) E s := by
  refine call_range_1 ?_
  generalize hob : ({ cls := .type "range", data := .fields #[.int 0 s.toks, .int (n : Int) t₀, .int 1 (s.toks + 1)] } : Obj) = ob
  have cell : IsRange (s.heap.push ob) s.heap.objs.size 0 (n : Int) 1 s.toks t₀ (s.toks + 1) := hob ▸ Heap.get?_push_size _ rfl
  have F1 := F.push ob
  have N1 : News h₀ env.locals (s.heap.push ob) (G σ₀) := N.grown fun _ _ => Heap.get?_push_of_some _
  clear hob
  generalize s.heap.push ob = H at cell F1 N1
  refine wpAny_pyIter_range (s := { s with heap := H, toks := s.toks + 1 + 1 }) cell (smallT hz) ?_
  dsimp only
  rw [rangeSizeT]
  refine loopN R V G ys hx hp ((Walks.range hh _ 0 1 n).bound) (fun _ _ st => ⟨_, st⟩) (fun b hb => .inl hb) ?_ F1 N1 (Nat.succ_pos _) h0 hV0 hE (fun i v a u h tk I oI hPv lt hR pos out F' N' => ?_) done
  · show IsRangeIter _ _ _ _ _
    simpa using Heap.get?_push_size _ rfl
  · obtain ⟨t, rfl⟩ := hPv.2
    refine turn i t a u h tk I oI lt hR pos out ?_ N'
    have e : (0 : Int) + (i : Int) * 1 = (i : Int) := by omega
    exact e ▸ F'
end

section
variable {w : World} {p : Program} {loose : List Str} {mean : ExcName → Option Value} {mg mb : Str → Option Value} {dp un : Nat} {gd : Option (List Code)} {cn : Str} {cs : Scope} {a : Addr} {ccd : Value} {cl : List (Str × Addr)} {outer : List Env} {A₀ : Around} {base h₀ : Heap} {L : Addr} {m : Str → Option Value} {news : List (Addr × Obj)} {s : Shared}
  {Q E : Value → Shared → Prop}

theorem plain_use {x : Str} {t : Tok} (B : Below A₀ base outer h₀) (F : Fr h₀ L s.heap m) (X : (frag.heap_1 w.params).In h₀) (N : News h₀ L s.heap news) (T : Top p loose mean mg mb h₀) (hk : cs.kind = .function)
    (hx : x.length ≤ 20) (hdp : dp + 5 < recursionLimit) (hun : un + 50 < cLine) (ht : 0 < s.toks)
    (hret : ∀ t' h' tk', 0 < tk' → Fr h₀ L h' m → News h₀ L h' news → Q (.str (plainS x) t') { s with heap := h', toks := tk' }) :
    wpAny (model PySem.Challenge.rw_dg5005_01.row.prog w) (ktrTop dp un gd cn cs L a ccd cl outer) (call (.ref 300) [.str x t]) Q E s := by
  revert X
  k_fill
  intro X
  refine wpAny_call ?_
  k_dflt ktr_enter
  k_steps
  all_goals exact hret _ _ _ (by assumption) (by assumption) (by assumption)

theorem esc_use {x : Str} {t : Tok} (B : Below A₀ base outer h₀) (F : Fr h₀ L s.heap m) (X : (frag.heap_1 w.params).In h₀) (N : News h₀ L s.heap news) (T : Top p loose mean mg mb h₀) (hk : cs.kind = .function)
    (hx : x.length ≤ 20) (hdp : dp + 5 < recursionLimit) (hun : un + 50 < cLine) (ht : 0 < s.toks)
    (hret : ∀ t' h' tk', 0 < tk' → Fr h₀ L h' m → News h₀ L h' news → Q (.str (plainS x) t') { s with heap := h', toks := tk' }) :
    wpAny (model PySem.Challenge.rw_dg5005_01.row.prog w) (ktrTop dp un gd cn cs L a ccd cl outer) (call (.ref 35) [.str x t]) Q E s := by
  revert X
  k_fill
  intro X
  refine wpAny_call ?_
  k_dflt ktr_enter
  k_steps
  all_goals exact hret _ _ _ (by assumption) (by assumption) (by assumption)
end

-- MACROS BEGIN
local macro_rules | `(tactic| walk_at "call ref") => `(tactic| (k_here; (with_reducible show wpAny _ _ (call (Value.ref 300) [Value.str _ _]) _ _ _); k_dflt (refine' plain_use ?k1 ?k2 ?k3 ?k4 ?k5 ?k6 ?k7 ?k8 ?k9 ?k10 ?_; (case k1 => k_asm); (case k2 => k_asm); (case k3 => k_asm); (case k4 => k_asm); (case k5 => k_asm); (case k6 => first | exact rfl | assumption); (case k7 => first | assumption | tb_rel | decide +kernel); (case k8 => ktr_room); (case k9 => ktr_units); (case k10 => tb_start); intro t' h' tk htk F' N'; (try k_sweep))))
local macro_rules | `(tactic| walk_at "call ref") => `(tactic| (k_here; (with_reducible show wpAny _ _ (call (Value.ref 35) [Value.str _ _]) _ _ _); k_dflt (refine' esc_use ?k1 ?k2 ?k3 ?k4 ?k5 ?k6 ?k7 ?k8 ?k9 ?k10 ?_; (case k1 => k_asm); (case k2 => k_asm); (case k3 => k_asm); (case k4 => k_asm); (case k5 => k_asm); (case k6 => first | exact rfl | assumption); (case k7 => first | assumption | tb_rel | decide +kernel); (case k8 => ktr_room); (case k9 => ktr_units); (case k10 => tb_start); intro t' h' tk htk F' N'; (try k_sweep))))
-- MACROS END

/-! the tree, and how the ledger bears it -/
def tags5 : List Str := [Str.ofString "ul", Str.ofString "ol", Str.ofString "li", Str.ofString "blockquote", Str.ofString "div"]
def sets7 : List Addr := [279, 280, 282, 284, 287, 289, 292]

inductive Kids where
  | nil
  | words (w : Str) (r : Kids)
  | hidden (w : Str) (r : Kids)
  | rule (r : Kids)
  | box (tag : Str) (i : Addr) (inner r : Kids)
def Kids.size : Kids → Nat
  | .nil => 0
  | .words _ r => r.size + 1
  | .hidden _ r => r.size + 1
  | .rule r => r.size + 1
  | .box _ _ k r => k.size + r.size + 1
def Kids.depth : Kids → Nat
  | .nil => 0
  | .words _ r => r.depth
  | .hidden _ r => r.depth
  | .rule r => r.depth
  | .box _ _ k r => max (k.depth + 1) r.depth

inductive KidsIn (D : List (Addr × Obj)) : List Value → Kids → Prop where
  | nil : KidsIn D [] .nil
  | words {a : Addr} {t u : Tok} {w : Str} {vs : List Value} {r : Kids} : (a, listOf [.str (Str.ofString "words") t, .str w u].toArray 0) ∈ D → w.length ≤ 20 → KidsIn D vs r → KidsIn D (.ref a :: vs) (.words w r)
  | hidden {a : Addr} {t u : Tok} {w : Str} {vs : List Value} {r : Kids} : (a, listOf [.str (Str.ofString "hidden") t, .str w u].toArray 0) ∈ D → w.length ≤ 20 → KidsIn D vs r → KidsIn D (.ref a :: vs) (.hidden w r)
  | rule {a : Addr} {t : Tok} {vs : List Value} {r : Kids} : (a, listOf [.str (Str.ofString "rule") t].toArray 0) ∈ D → KidsIn D vs r → KidsIn D (.ref a :: vs) (.rule r)
  | box {a b i : Addr} {t u : Tok} {n : Nat} {tag : Str} {vi vs : List Value} {k r : Kids} : (a, listOf [.str (Str.ofString "box") t, .str tag u, .ref i, .ref b].toArray 0) ∈ D → tag ∈ tags5 → i ∈ sets7 → (b, listOf vi.toArray n) ∈ D → KidsIn D vi k → KidsIn D vs r → KidsIn D (.ref a :: vs) (.box tag i k r)
theorem KidsIn.mono {D D' : List (Addr × Obj)} {vs : List Value} {k : Kids} (h : KidsIn D vs k) (hs : ∀ p ∈ D, p ∈ D') : KidsIn D' vs k := by
  induction h with
  | nil => exact .nil
  | words h1 h2 _ ih => exact .words (hs _ h1) h2 ih
  | hidden h1 h2 _ ih => exact .hidden (hs _ h1) h2 ih
  | rule h1 _ ih => exact .rule (hs _ h1) ih
  | box h1 h2 h3 h4 _ _ ih1 ih2 => exact .box (hs _ h1) h2 h3 (hs _ h4) ih1 ih2

/-- the attributes of the sets, as texts -/
def attrsOf (i : Addr) : List (Str × Str) :=
  if i = 282 then [(Str.ofString "start", Str.ofString "3")]
  else if i = 284 then [(Str.ofString "class", Str.ofString "a b\"")]
  else if i = 287 then [(Str.ofString "start", Str.ofString "0"), (Str.ofString "id", Str.ofString "<")]
  else if i = 289 then [(Str.ofString "id", Str.ofString "")]
  else if i = 292 then [(Str.ofString "a", Str.ofString "&"), (Str.ofString "b", Str.ofString "c")]
  else []
/-- the writer's way to set them -/
def attrA (out : Str) (l : List (Str × Str)) : Str := l.foldl (fun o p => ((((o ++ Str.ofString " ") ++ p.1) ++ Str.ofString "=\"") ++ plainS p.2) ++ Str.ofString "\"") out

def Kids.startsPlain : Kids → Bool
  | .nil => false
  | .hidden _ _ => false
  | _ => true
/-- _law_html -/
def htmlA (slash : Str) : Str → Bool → Kids → Str
  | out, _, .nil => out
  | out, _, .hidden w r => htmlA slash (out ++ plainS w) true r
  | out, af, .words w r => htmlA slash ((((if af then out ++ Str.ofString "\n" else out) ++ Str.ofString "<p>") ++ plainS w) ++ Str.ofString "</p>\n") false r
  | out, af, .rule r => htmlA slash ((((if af then out ++ Str.ofString "\n" else out) ++ Str.ofString "<hr") ++ slash) ++ Str.ofString ">\n") false r
  | out, af, .box tag i k r =>
    htmlA slash (((((if k.startsPlain then (attrA (((if af then out ++ Str.ofString "\n" else out) ++ Str.ofString "<") ++ tag) (attrsOf i) ++ Str.ofString ">") ++ Str.ofString "\n" else attrA (((if af then out ++ Str.ofString "\n" else out) ++ Str.ofString "<") ++ tag) (attrsOf i) ++ Str.ofString ">") ++ htmlA slash (Str.ofString "") false k) ++ Str.ofString "</") ++ tag) ++ Str.ofString ">\n") false r

theorem item_ledT {prog : Program} {w : World} {A : Around} {E : Value → Shared → Prop} {s : Shared} {h₀ : Heap} {L : Addr} {news : List (Addr × Obj)} {value slice : PySem.Expr} {l : Addr} {vs : List Value} {nn : Nat} {k : Int} {u : Tok} {v : Value} {Q : Value → Shared → Prop}
    (N : News h₀ L s.heap news) (hm : (l, listOf vs.toArray nn) ∈ news) (h0 : 0 ≤ k) (hhi : k < 2 ^ 63) (hx : vs[k.toNat]? = some v) (h : Q v s)
    (hs : subscripted slice false (.ref l) (.int k u) = operate [.ref l, .int k u] (getItem (.ref l) (.int k u)) := by with_unfolding_all rfl) :
    wpAny (model prog w) A (subscriptTail value slice (.ref l) (.int k u)) Q E s :=
  have hl : s.heap.IsList l vs.toArray := ⟨_, (N _ hm).1, rfl, nn, rfl⟩
  tail_any hl.typeIs slot_list_getitem.lookup (wpAny_getItem_list hl h0 hhi (by simpa using hx) h) hs

theorem len_tag {t : Str} (h : t ∈ tags5) : t.length ≤ 10 := by
  have : ∀ t ∈ tags5, t.length ≤ 10 := by decide +kernel
  exact this t h

theorem len_attrA1 (o : Str) (p : Str × Str) (h1 : p.1.length ≤ 20) (h2 : p.2.length ≤ 20) : (((((o ++ Str.ofString " ") ++ p.1) ++ Str.ofString "=\"") ++ plainS p.2) ++ Str.ofString "\"").length ≤ o.length + 22073 := by
  have := len_plain p.2 h2
  simp only [Str.length_append, ln_sp, ln_eq, ln_q]; omega
theorem len_attrA (o : Str) (i : Addr) : (attrA o (attrsOf i)).length ≤ o.length + 44146 := by
  unfold attrsOf attrA
  (repeat' split) <;> simp only [List.foldl_cons, List.foldl_nil]
  · have := len_attrA1 o (Str.ofString "start", Str.ofString "3") (by decide +kernel) (by decide +kernel); simp only at this; omega
  · have := len_attrA1 o (Str.ofString "class", Str.ofString "a b\"") (by decide +kernel) (by decide +kernel); simp only at this; omega
  · have h1 := len_attrA1 o (Str.ofString "start", Str.ofString "0") (by decide +kernel) (by decide +kernel)
    have h2 := len_attrA1 (((((o ++ Str.ofString " ") ++ Str.ofString "start") ++ Str.ofString "=\"") ++ plainS (Str.ofString "0")) ++ Str.ofString "\"") (Str.ofString "id", Str.ofString "<") (by decide +kernel) (by decide +kernel)
    simp only at h1 h2; omega
  · have := len_attrA1 o (Str.ofString "id", Str.ofString "") (by decide +kernel) (by decide +kernel); simp only at this; omega
  · have h1 := len_attrA1 o (Str.ofString "a", Str.ofString "&") (by decide +kernel) (by decide +kernel)
    have h2 := len_attrA1 (((((o ++ Str.ofString " ") ++ Str.ofString "a") ++ Str.ofString "=\"") ++ plainS (Str.ofString "&")) ++ Str.ofString "\"") (Str.ofString "b", Str.ofString "c") (by decide +kernel) (by decide +kernel)
    simp only at h1 h2; omega
  · omega
theorem len_if (b : Bool) (x y : Str) (n : Nat) (h1 : x.length ≤ n) (h2 : y.length ≤ n) : (if b then x else y).length ≤ n := by cases b <;> assumption
theorem len_nlif (b : Bool) (x : Str) : (if b then x ++ Str.ofString "\n" else x).length ≤ x.length + 1 := by
  cases b
  · exact Nat.le_succ _
  · show (x ++ Str.ofString "\n").length ≤ _
    rw [Str.length_append, ln_nl]; exact Nat.le_refl _
theorem len_attrAs : ∀ (l : List (Str × Str)) (o : Str), (∀ p ∈ l, p.1.length ≤ 20 ∧ p.2.length ≤ 20) → (attrA o l).length ≤ o.length + 22073 * l.length
  | [], o, _ => Nat.le_refl _
  | p :: r, o, h => by
    have h1 := len_attrA1 o p (h p (.head _)).1 (h p (.head _)).2
    have h2 := len_attrAs r (((((o ++ Str.ofString " ") ++ p.1) ++ Str.ofString "=\"") ++ plainS p.2) ++ Str.ofString "\"") fun q hq => h q (.tail _ hq)
    refine Nat.le_trans h2 ?_
    rw [List.length_cons]; omega
theorem attrsOf_ok (i : Addr) : ∀ p ∈ attrsOf i, p.1.length ≤ 20 ∧ p.2.length ≤ 20 := by
  unfold attrsOf
  (repeat' split) <;> decide +kernel
theorem attrsOf_len (i : Addr) : (attrsOf i).length ≤ 2 := by
  unfold attrsOf
  (repeat' split) <;> decide
theorem attrA_take (o : Str) (l : List (Str × Str)) (j : Nat) (p : Str × Str) (h : l[j]? = some p) : attrA o (l.take (j + 1)) = ((((attrA o (l.take j) ++ Str.ofString " ") ++ p.1) ++ Str.ofString "=\"") ++ plainS p.2) ++ Str.ofString "\"" := by
  rw [List.take_add_one, h]
  unfold attrA
  rw [List.foldl_append]; rfl

theorem tos3 : Str.ofString (toString (3 : Int)) = Str.ofString "3" := by decide +kernel
theorem tos0 : Str.ofString (toString (0 : Int)) = Str.ofString "0" := by decide +kernel
/-- a pair of the tables -/
def PairIs (h : Heap) (a : Addr) (p : Str × Str) : Prop := ∃ t v, IsTup h a [.str p.1 t, v].toArray ∧ ((∃ n u, v = .int n u ∧ 0 ≤ n ∧ n ≤ 9 ∧ p.2 = Str.ofString (toString n)) ∨ ∃ u, v = .str p.2 u)
def SetIs (h : Heap) (i : Addr) : Prop := ∃ as : List Addr, IsTup h i (as.map Value.ref).toArray ∧ as.length = (attrsOf i).length ∧ ∀ (j : Nat) a, as[j]? = some a → ∃ p, (attrsOf i)[j]? = some p ∧ PairIs h a p
theorem tupAt {K : Frag} {h : Heap} {a : Addr} {o : Obj} {items : Array Value} {n : Nat} (X : K.In h) (e : K.lookup a = some o) (hc : o.cls = .type "tuple") (hd : o.data = .seq items n) : IsTup h a items := ⟨o, X _ _ e, hc, n, hd⟩
theorem setIs_of {P : Params} {h : Heap} {i : Addr} (X : (frag.heap_1 P).In h) (hi : i ∈ sets7) : SetIs h i := by
  simp only [sets7, List.mem_cons, List.not_mem_nil, or_false] at hi
  rcases hi with rfl | rfl | rfl | rfl | rfl | rfl | rfl
  · exact ⟨[], tupAt X rfl rfl rfl, rfl, fun j a e => by cases j <;> cases e⟩
  · exact ⟨[], tupAt X rfl rfl rfl, rfl, fun j a e => by cases j <;> cases e⟩
  · refine ⟨[281], tupAt X rfl rfl rfl, rfl, fun j a e => ?_⟩
    match j, e with
    | 0, e => cases e; exact ⟨_, rfl, _, _, tupAt X rfl rfl rfl, .inl ⟨3, _, rfl, by decide, by decide, tos3.symm⟩⟩
  · refine ⟨[283], tupAt X rfl rfl rfl, rfl, fun j a e => ?_⟩
    match j, e with
    | 0, e => cases e; exact ⟨_, rfl, _, _, tupAt X rfl rfl rfl, .inr ⟨_, rfl⟩⟩
  · refine ⟨[285, 286], tupAt X rfl rfl rfl, rfl, fun j a e => ?_⟩
    match j, e with
    | 0, e => cases e; exact ⟨_, rfl, _, _, tupAt X rfl rfl rfl, .inl ⟨0, _, rfl, by decide, by decide, tos0.symm⟩⟩
    | 1, e => cases e; exact ⟨_, rfl, _, _, tupAt X rfl rfl rfl, .inr ⟨_, rfl⟩⟩
  · refine ⟨[288], tupAt X rfl rfl rfl, rfl, fun j a e => ?_⟩
    match j, e with
    | 0, e => cases e; exact ⟨_, rfl, _, _, tupAt X rfl rfl rfl, .inr ⟨_, rfl⟩⟩
  · refine ⟨[290, 291], tupAt X rfl rfl rfl, rfl, fun j a e => ?_⟩
    match j, e with
    | 0, e => cases e; exact ⟨_, rfl, _, _, tupAt X rfl rfl rfl, .inr ⟨_, rfl⟩⟩
    | 1, e => cases e; exact ⟨_, rfl, _, _, tupAt X rfl rfl rfl, .inr ⟨_, rfl⟩⟩
theorem item_tupT {prog : Program} {w : World} {A : Around} {E : Value → Shared → Prop} {s : Shared} {h₀ : Heap} {L : Addr} {m : Str → Option Value} {value slice : PySem.Expr} {l : Addr} {vs : List Value} {k : Int} {u : Tok} {v : Value} {Q : Value → Shared → Prop}
    (F : Fr h₀ L s.heap m) (hl : IsTup h₀ l vs.toArray) (h0 : 0 ≤ k) (hhi : k < 2 ^ 63) (hx : vs[k.toNat]? = some v) (h : Q v s)
    (hs : subscripted slice false (.ref l) (.int k u) = operate [.ref l, .int k u] (getItem (.ref l) (.int k u)) := by with_unfolding_all rfl) :
    wpAny (model prog w) A (subscriptTail value slice (.ref l) (.int k u)) Q E s := by
  have ht : IsTup s.heap l vs.toArray := IsTup.keeps hl F.keep
  refine tail_any ht.typeIs slot_tuple_getitem.lookup (getItem_tuple ht ?_ ?_ (j := k.toNat) ?_ (x := v) ?_ h) hs
  · omega
  · omega
  · have hlt : k.toNat < vs.length := (List.getElem?_eq_some_iff.mp hx).1
    have e1 : (if k < 0 then k + ((vs.toArray.size : Nat) : Int) else k) = k := if_neg (by omega)
    have e2 : (decide (0 ≤ k) && decide (k < ((vs.toArray.size : Nat) : Int))) = true := by
      rw [List.size_toArray, Bool.and_eq_true]
      exact ⟨decide_eq_true h0, decide_eq_true (by omega)⟩
    unfold seqIndex?
    simp only [e1, e2, if_true]
  · simpa using hx

theorem ne_emptyT {prog : Program} {w : World} {A : Around} {E : Value → Shared → Prop} {s : Shared} {h₀ : Heap} {L : Addr} {news : List (Addr × Obj)} {l b : Addr} {v : Value} {vs : List Value} {nn : Nat} {Q : Value → Shared → Prop}
    (N : News h₀ L s.heap news) (h1 : (l, listOf (v :: vs).toArray nn) ∈ news) (h2 : (b, listOf ([] : List Value).toArray 0) ∈ news) (hu : A.units < cLine) (h : Q (.bool true) s) :
    wpAny (model prog w) A (compareOp .NotEq (.ref l) (.ref b)) Q E s :=
  cmp_ofNotEq (PySem.SeqAt.RcNeAt.lists_lengths ⟨_, (N _ h1).1, rfl, nn, rfl⟩ ⟨_, (N _ h2).1, rfl, 0, rfl⟩ (by simp) hu prog w E Q h)

/-- how the tree's words are bounded -/
def Kids.Ok : Kids → Prop
  | .nil => True
  | .words w r => w.length ≤ 20 ∧ r.Ok
  | .hidden w r => w.length ≤ 20 ∧ r.Ok
  | .rule r => r.Ok
  | .box tag i k r => tag ∈ tags5 ∧ i ∈ sets7 ∧ k.Ok ∧ r.Ok
theorem KidsIn.ok {D : List (Addr × Obj)} {vs : List Value} {k : Kids} (h : KidsIn D vs k) : k.Ok := by
  induction h with
  | nil => exact trivial
  | words _ h2 _ ih => exact ⟨h2, ih⟩
  | hidden _ h2 _ ih => exact ⟨h2, ih⟩
  | rule _ _ ih => exact ih
  | box _ h2 h3 _ _ _ ih1 ih2 => exact ⟨h2, h3, ih1, ih2⟩
theorem len_html (slash : Str) (hsl : slash.length ≤ 20) : ∀ (k : Kids) (out : Str) (af : Bool), k.Ok → (htmlA slash out af k).length ≤ out.length + 100000 * k.size := by
  intro k
  induction k with
  | nil => intro out af _; exact Nat.le_add_right _ _
  | words w r ih =>
    intro out af h
    have h1 := len_plain w h.1
    have h2 := len_nlif af out
    have h3 := ih ((((if af then out ++ Str.ofString "\n" else out) ++ Str.ofString "<p>") ++ plainS w) ++ Str.ofString "</p>\n") false h.2
    simp only [htmlA, Kids.size]
    simp only [Str.length_append, ln_p, ln_pe] at h3 ⊢
    omega
  | hidden w r ih =>
    intro out af h
    have h1 := len_plain w h.1
    have h3 := ih (out ++ plainS w) true h.2
    simp only [htmlA, Kids.size]
    simp only [Str.length_append] at h3 ⊢
    omega
  | rule r ih =>
    intro out af h
    have h2 := len_nlif af out
    have h3 := ih ((((if af then out ++ Str.ofString "\n" else out) ++ Str.ofString "<hr") ++ slash) ++ Str.ofString ">\n") false h
    simp only [htmlA, Kids.size]
    simp only [Str.length_append, ln_hr, ln_gn] at h3 ⊢
    omega
  | box tag i k r ihk ihr =>
    intro out af h
    have h0 := len_tag h.1
    have h1 := len_nlif af out
    have h2 := len_attrA (((if af then out ++ Str.ofString "\n" else out) ++ Str.ofString "<") ++ tag) i
    have h3 := len_nlif k.startsPlain (attrA (((if af then out ++ Str.ofString "\n" else out) ++ Str.ofString "<") ++ tag) (attrsOf i) ++ Str.ofString ">")
    have h4 := ihk (Str.ofString "") false h.2.2.1
    simp only [htmlA, Kids.size]
    refine Nat.le_trans (ihr _ false h.2.2.2) ?_
    simp only [Str.length_append, ln_lt, ln_gt, ln_le, ln_gn, ln_em] at h2 h3 h4 ⊢
    omega

/-- a place where the walk is to stop -/
def Stopped (P : Prop) : Prop := P
theorem stop_here {P : Prop} (h : Stopped P) : P := h
/-- where this stands in the context, the walk stops at the statements that are cut -/
structure StopMark : Prop where
/-- where this stands, a for goes by the rules of this text -/
structure ForMark : Prop where
-- MACROS BEGIN
local macro_rules | `(tactic| walk_at "exec For Name Name cons nil") => `(tactic| (k_here; refine stop_here ?_))
local macro_rules | `(tactic| walk_at "exec If") => `(tactic| (k_here; (have hm9 : StopMark := by assumption); clear hm9; (first | (with_reducible show wpAny _ _ (exec (Stmt.If (Expr.Name _ _) _ _ _) _) _ _ _) | (with_reducible show wpAny _ _ (exec (Stmt.If (Expr.BoolOp _ _ _) _ _ _) _) _ _ _)); refine stop_here ?_))
local macro_rules | `(tactic| walk_at "exec For Name Subscript cons nil") => `(tactic| (k_here; (have hm9 : StopMark := by assumption); clear hm9; refine stop_here ?_))
local macro_rules | `(tactic| walk_at "compareOp NotEq ref ref") => `(tactic| (k_here; k_dflt (refine' ne_emptyT ?k1 ?k2 ?k3 ?k4 ?_; (case k1 => k_asm); (case k2 => k_mem); (case k3 => k_mem); (case k4 => ktr_units); k_whole)))
local macro_rules | `(tactic| k_mem) => `(tactic| ((repeat' (first | with_reducible exact List.mem_cons_self | with_reducible assumption | with_reducible refine List.mem_cons_of_mem _ ?_)); done))
local macro_rules | `(tactic| walk_at "exec For Name Subscript cons nil") => `(tactic| (k_here; (have hm9 : ForMark := by assumption); clear hm9; refine wpAny_For ?_ (by intro _; rfl)))
local macro_rules | `(tactic| walk_at "pyIter ref") => `(tactic| (k_here; (have hm9 : ForMark := by assumption); clear hm9; refine stop_here ?_))
local macro_rules | `(tactic| walk_at "TurnT") => `(tactic| dsimp only [TurnT])
local macro_rules | `(tactic| walk_at "subscriptTail") => `(tactic| (k_here; (with_reducible show wpAny _ _ (subscriptTail _ _ (Value.ref _) (Value.int _ _)) _ _ _); k_dflt (refine' item_tupT ?k1 ?k2 ?k3 ?k4 ?k5 ?_ ?k6; (case k1 => k_asm); (case k2 => with_reducible assumption); (case k3 => decide); (case k4 => decide); (case k5 => rfl); (case k6 => with_unfolding_all rfl); k_whole)))
local macro_rules | `(tactic| walk_at "subscriptTail Name Constant ref int") => `(tactic| (k_here; (with_reducible show wpAny _ _ (subscriptTail _ _ (Value.ref _) (Value.int _ _)) _ _ _); k_dflt (refine' item_tupT ?k1 ?k2 ?k3 ?k4 ?k5 ?_ ?k6; (case k1 => k_asm); (case k2 => with_reducible assumption); (case k3 => decide); (case k4 => decide); (case k5 => rfl); (case k6 => with_unfolding_all rfl); k_whole)))
local macro_rules | `(tactic| walk_at "subscriptTail") => `(tactic| (k_here; (with_reducible show wpAny _ _ (subscriptTail _ _ (Value.ref _) (Value.int _ _)) _ _ _); k_dflt (refine' item_ledT ?k1 ?k2 ?k3 ?k4 ?k5 ?_ ?k6; (case k1 => k_asm); (case k2 => (repeat' (first | with_reducible exact List.mem_cons_self | with_reducible assumption | with_reducible refine List.mem_cons_of_mem _ ?_))); (case k3 => decide); (case k4 => decide); (case k5 => rfl); (case k6 => with_unfolding_all rfl); k_whole)))
local macro_rules | `(tactic| walk_at "subscriptTail Name Constant ref int") => `(tactic| (k_here; (with_reducible show wpAny _ _ (subscriptTail _ _ (Value.ref _) (Value.int _ _)) _ _ _); k_dflt (refine' item_ledT ?k1 ?k2 ?k3 ?k4 ?k5 ?_ ?k6; (case k1 => k_asm); (case k2 => (repeat' (first | with_reducible exact List.mem_cons_self | with_reducible assumption | with_reducible refine List.mem_cons_of_mem _ ?_))); (case k3 => decide); (case k4 => decide); (case k5 => rfl); (case k6 => with_unfolding_all rfl); k_whole)))
-- MACROS END

structure HtmlS where
  out : Str
  t : Tok
  af : Bool
  rest : Kids
def HtmlR (news : List (Addr × Obj)) (slash : Str) (vs : List Value) (k : Kids) (i : Nat) (σ : HtmlS) : Prop :=
  KidsIn news (vs.drop i) σ.rest ∧ htmlA slash σ.out σ.af σ.rest = htmlA slash (Str.ofString "") false k ∧ σ.out.length + 100000 * σ.rest.size ≤ 6300000 ∧ σ.rest.depth ≤ k.depth ∧ σ.rest.size ≤ k.size
def htmlV (σ : HtmlS) : List (Str × Value) := [(Str.ofString "out", .str σ.out σ.t), (Str.ofString "after", .bool σ.af)]

theorem html_end {h₀ h' : Heap} {L I : Addr} {oI : Obj} {m₀ m' : Str → Option Value} {news : List (Addr × Obj)} {slash out' : Str} {vs vs' : List Value} {k r : Kids} {i tk' : Nat} {t' : Tok} {af₁ : Bool} (af' : Bool) {s₁ : Shared} (hvs : vs.drop (i + 1) = vs') (hne : ∀ p ∈ news, p.1 ≠ I)
    (F' : Fr h₀ L h' m') (N' : News h₀ L h' ((I, oI) :: news)) (hM' : MapIs (Str.ofString "kid") [Str.ofString "pair"] [(Str.ofString "out", .str out' t'), (Str.ofString "after", .bool af₁)] m₀ m') (haf : af₁ = af') (hK' : KidsIn news vs' r) (hH' : htmlA slash out' af' r = htmlA slash (Str.ofString "") false k)
    (hB' : out'.length + 100000 * r.size ≤ 6300000) (hD' : r.depth ≤ k.depth) (hS' : r.size ≤ k.size) :
    EndT h₀ L (Str.ofString "kid") [Str.ofString "pair"] htmlV (fun _ => news) m₀ (HtmlR news slash vs k (i + 1)) I oI s₁ { s₁ with heap := h', toks := tk' } := by
  subst haf
  exact EndT.mk' ⟨out', t', af₁, r⟩ F' N' (.head _) (fun p hp => .tail _ hp) hne ⟨hvs ▸ hK', hH', hB', hD', hS'⟩ hM'

/-- what _law_html does -/
def HtmlSpec (w : World) (p : Program) (loose : List Str) (mean : ExcName → Option Value) (mg mb : Str → Option Value) (k : Kids) : Prop :=
  ∀ (dp un : Nat) (gd : Option (List Code)) (cn : Str) (cs : Scope) (a : Addr) (ccd : Value) (cl : List (Str × Addr)) (outer : List Env) (A₀ : Around) (base h₀ : Heap) (L : Addr) (m : Str → Option Value) (news : List (Addr × Obj)) (s : Shared)
    (Q E : Value → Shared → Prop) (l : Addr) (vs : List Value) (nn : Nat) (slash : Str) (t : Tok), Below A₀ base outer h₀ → Fr h₀ L s.heap m → (frag.heap_1 w.params).In h₀ → News h₀ L s.heap news → Top p loose mean mg mb h₀ → cs.kind = .function →
    (l, listOf vs.toArray nn) ∈ news → KidsIn news vs k → k.size ≤ 63 → slash.length ≤ 20 → dp + 10 + k.depth < recursionLimit → un + 100 + 20 * k.depth < cLine → 0 < s.toks →
    (∀ t' h' tk', 0 < tk' → Fr h₀ L h' m → News h₀ L h' news → Q (.str (htmlA slash (Str.ofString "") false k) t') { s with heap := h', toks := tk' }) →
    wpAny (model PySem.Challenge.rw_dg5005_01.row.prog w) (ktrTop dp un gd cn cs L a ccd cl outer) (call (.ref 314) [.ref l, .str slash t]) Q E s

section
variable {w : World} {p : Program} {loose : List Str} {mean : ExcName → Option Value} {mg mb : Str → Option Value}
theorem html_step (k : Kids) (IH : ∀ k', k'.size < k.size → HtmlSpec w p loose mean mg mb k') : HtmlSpec w p loose mean mg mb k := by
  unfold HtmlSpec
  k_fill
  intro dp un gd cn cs a ccd cl outer A₀ base h₀ L m news s Q E l vs nn slash t B F X N T hk hl hK hsz hsl hdp hun ht hret
  refine wpAny_call ?_
  k_dflt ktr_enter
  k_steps
  all_goals (
    (rename Fr _ _ _ _ => F1)
    (rename News _ _ _ _ => N1)
    (unfold Stopped))
  refine' for_listT (l := l) (vs := vs) (nn := nn) (HtmlR news slash vs k) htmlV (fun _ => news) [Str.ofString "pair"] (σ₀ := ⟨Str.ofString "", ?t0, false, k⟩) F1 N1 (by assumption) ?h0 ?hV ?hev (fun _ _ _ => hl) ?turn ?done ?hE
  case hV =>
    intro kv hkv
    simp only [htmlV, List.mem_cons, List.not_mem_nil, or_false] at hkv
    rcases hkv with rfl | rfl
    · exact rfl
    · exact rfl
  case h0 =>
    refine ⟨hK, rfl, ?_, Nat.le_refl _, Nat.le_refl _⟩
    show (Str.ofString "").length + 100000 * k.size ≤ 6300000
    have : (Str.ofString "").length = 0 := by decide
    omega
  case hev => exact fun Q9 h9 => nameX_L F1 rfl h9 rfl rfl
  case hE => passes_own
  case done =>
    clear F1 N1
    rintro ⟨out, t1, af, rest⟩ u h tk ⟨hK2, hH, hB, hD, hS⟩ htk F2 N2
    have hnil : vs.drop vs.length = [] := List.drop_length
    rw [hnil] at hK2
    cases hK2
    dsimp only [setAll, freeAll, htmlV] at F2
    dsimp only [htmlA] at hH
    subst hH
    dsimp only
    k_steps
    exact hret _ _ _ (by assumption) (by assumption) (by assumption)
  case turn =>
    clear F1 N1
    rintro i v ⟨out, t1, af, rest⟩ u h tk I oI hv ⟨hK2, hH, hB, hD, hS⟩ htk hne F2 N2
    have hdr : vs.drop i = v :: vs.drop (i + 1) := by
      obtain ⟨hi, rfl⟩ := List.getElem?_eq_some_iff.mp hv
      exact List.drop_eq_getElem_cons hi
    rw [hdr] at hK2
    dsimp only [setAll, freeAll, htmlV] at F2
    dsimp only at hK2 hH hB hD hS
    generalize hvs : vs.drop (i + 1) = vs' at hK2
    show wpAny _ _ _ _ _ _
    k_fold
    have hstop : StopMark := ⟨⟩
    have hif := len_nlif af out
    cases hK2 with
    | @words a1 t1 u1 w1 _ r h1 h2 h3 =>
      have hpl := len_plain w1 h2
      dsimp only [Kids.size, Kids.depth] at hB hD hS
      dsimp only [htmlA] at hH
      k_steps
      (rename Fr _ _ _ _ => F3)
      (rename News _ _ _ _ => N3)
      unfold Stopped
      refine cutT (fun t' => [(Str.ofString "out", .str (if af then out ++ Str.ofString "\n" else out) t')]) [] F3 N3 ?rest1w ?walk1w
      case walk1w =>
        intro Q' hQ'
        clear hstop
        cases af with
        | true =>
          k_steps
          all_goals exact hQ' _ _ _ _ (by tb_start) (by assumption) (by assumption) (by k_intsEnd) (by ktn_open)
        | false =>
          k_steps
          all_goals exact hQ' _ _ _ _ (by tb_start) (by assumption) (by assumption) (by k_intsEnd) (by ktn_open)
      clear F3 N3
      intro u2 t2 h2' tk2 htk2 F2 N2
      dsimp only [setAll, freeAll] at F2
      k_steps
      refine' html_end false hvs hne ?f9w ?n9w ?hM9w ?e9w h3 hH ?l9w ?d9w ?s9w
      case f9w => assumption
      case n9w => assumption
      case hM9w => ktd_rel
      case e9w => decide +kernel
      case l9w => tb_rel
      case d9w => omega
      case s9w => omega
    | @hidden a1 t1 u1 w1 _ r h1 h2 h3 =>
      have hpl := len_plain w1 h2
      dsimp only [Kids.size, Kids.depth] at hB hD hS
      dsimp only [htmlA] at hH
      k_steps
      refine' html_end true hvs hne ?f9h ?n9h ?hM9h ?e9h h3 hH ?l9h ?d9h ?s9h
      case f9h => assumption
      case n9h => assumption
      case hM9h => ktd_rel
      case e9h => decide +kernel
      case l9h => tb_rel
      case d9h => omega
      case s9h => omega
    | @rule a1 t1 _ r h1 h2 =>
      dsimp only [Kids.size, Kids.depth] at hB hD hS
      dsimp only [htmlA] at hH
      k_steps
      (rename Fr _ _ _ _ => F3)
      (rename News _ _ _ _ => N3)
      unfold Stopped
      refine cutT (fun t' => [(Str.ofString "out", .str (if af then out ++ Str.ofString "\n" else out) t')]) [] F3 N3 ?rest2r ?walk2r
      case walk2r =>
        intro Q' hQ'
        clear hstop
        cases af with
        | true =>
          k_steps
          all_goals exact hQ' _ _ _ _ (by tb_start) (by assumption) (by assumption) (by k_intsEnd) (by ktn_open)
        | false =>
          k_steps
          all_goals exact hQ' _ _ _ _ (by tb_start) (by assumption) (by assumption) (by k_intsEnd) (by ktn_open)
      clear F3 N3
      intro u2 t2 h2' tk2 htk2 F2 N2
      dsimp only [setAll, freeAll] at F2
      k_steps
      refine' html_end false hvs hne ?f9r ?n9r ?hM9r ?e9r h2 hH ?l9r ?d9r ?s9r
      case f9r => assumption
      case n9r => assumption
      case hM9r => ktd_rel
      case e9r => decide +kernel
      case l9r => tb_rel
      case d9r => omega
      case s9r => omega
    | @box a1 b1 i1 t1 u1 n1 tag vi _ k1 r h1 h2 h3 h4 h5 h6 =>
      have htag := len_tag h2
      have hat := len_attrA (((if af then out ++ Str.ofString "\n" else out) ++ Str.ofString "<") ++ tag) i1
      have hlk := len_html slash hsl k1 (Str.ofString "") false h5.ok
      simp only [Str.length_append, ln_lt, ln_em] at hat hlk
      dsimp only [Kids.size, Kids.depth] at hB hD hS
      dsimp only [htmlA] at hH
      k_steps
      (rename Fr _ _ _ _ => F3)
      (rename News _ _ _ _ => N3)
      unfold Stopped
      refine cutT (fun t' => [(Str.ofString "out", .str (if af then out ++ Str.ofString "\n" else out) t')]) [] F3 N3 ?rest3 ?walk3
      case walk3 =>
        intro Q' hQ'
        clear hstop
        cases af with
        | true =>
          k_steps
          all_goals exact hQ' _ _ _ _ (by tb_start) (by assumption) (by assumption) (by k_intsEnd) (by ktn_open)
        | false =>
          k_steps
          all_goals exact hQ' _ _ _ _ (by tb_start) (by assumption) (by assumption) (by k_intsEnd) (by ktn_open)
      clear F3 N3
      intro u2 t2 h2' tk2 htk2 F2 N2
      dsimp only [setAll, freeAll] at F2
      k_steps
      (rename Fr _ _ _ _ => F3)
      (rename News _ _ _ _ => N3)
      unfold Stopped
      refine cutT (fun t' => [(Str.ofString "out", .str (attrA (((if af then out ++ Str.ofString "\n" else out) ++ Str.ofString "<") ++ tag) (attrsOf i1)) t')]) [Str.ofString "pair"] F3 N3 ?rest4 ?walk4
      case walk4 =>
        intro Q' hQ'
        clear hstop
        have hfor : ForMark := ⟨⟩
        have hset := setIs_of (by assumption) h3
        obtain ⟨as, hI1, hlen, hpr⟩ := hset
        k_steps
        (rename Fr _ _ _ _ => F3)
        (rename News _ _ _ _ => N3)
        unfold Stopped
        refine' iter_tupT (σ := Str × Tok) (fun j σ => σ.1 = attrA (((if af then out ++ Str.ofString "\n" else out) ++ Str.ofString "<") ++ tag) ((attrsOf i1).take j)) (fun σ => [(Str.ofString "out", .str σ.1 σ.2)]) (fun _ => (I, oI) :: news) [] (σ₀ := (((if af then out ++ Str.ofString "\n" else out) ++ Str.ofString "<") ++ tag, ?t9)) ?hx9 ?hp9 ?hh9 hI1 F3 N3 ?ht9 ?h09 ?hV9 ?hE9 ?turn9 ?done9
        case hx9 => exact rfl
        case hp9 => exact rfl
        case hh9 => exact rfl
        case ht9 => tb_start
        case h09 => exact rfl
        case hV9 => k_intsEnd
        case hE9 => passes_own
        case done9 =>
          clear F3 N3
          rintro ⟨o9, t9⟩ u9 h9 tk9 hR9 htk9 F9 N9
          have h7 : o9 = attrA (((if af then out ++ Str.ofString "\n" else out) ++ Str.ofString "<") ++ tag) (attrsOf i1) := by
            have h8 := hR9
            rw [List.length_map, hlen, List.take_length] at h8
            exact h8
          subst h7
          dsimp only [setAll, freeAll] at F9
          exact hQ' _ t9 _ _ htk9 F9 N9 (by k_intsEnd) (by ktn_open)
        case turn9 =>
          clear F3 N3 hQ'
          rintro j v ⟨o9, t9⟩ u9 h9 tk9 I9 oI9 hv9 hR9 htk9 hn9 F9 N9
          obtain ⟨a9, ha9, rfl⟩ : ∃ a9, as[j]? = some a9 ∧ v = .ref a9 := by
            rw [List.getElem?_map] at hv9
            cases e : as[j]? with
            | none => rw [e] at hv9; cases hv9
            | some a9 => rw [e] at hv9; exact ⟨a9, rfl, (Option.some.inj hv9).symm⟩
          obtain ⟨p9, hp9, t8, v8, hT9, hv8⟩ := hpr j a9 ha9
          have hok := attrsOf_ok i1 p9 (List.mem_of_getElem? hp9)
          have hok1 := hok.1
          have hok2 := hok.2
          have hpl := len_plain p9.2 hok2
          have h7o : o9 = attrA (((if af then out ++ Str.ofString "\n" else out) ++ Str.ofString "<") ++ tag) ((attrsOf i1).take j) := hR9
          have hb9 : o9.length ≤ 6400000 := by
            have h7 : o9 = attrA (((if af then out ++ Str.ofString "\n" else out) ++ Str.ofString "<") ++ tag) ((attrsOf i1).take j) := hR9
            rw [h7]
            have h6 := len_attrAs ((attrsOf i1).take j) (((if af then out ++ Str.ofString "\n" else out) ++ Str.ofString "<") ++ tag) (fun q hq => attrsOf_ok i1 q (List.mem_of_mem_take hq))
            have h5 : ((attrsOf i1).take j).length ≤ 2 := by have := attrsOf_len i1; rw [List.length_take]; omega
            simp only [Str.length_append, ln_lt] at h6
            omega
          dsimp only [setAll, freeAll] at F9
          rcases hv8 with ⟨n8, u8, rfl, e5, e6, e8⟩ | ⟨u8, rfl⟩
          · have hok3 : (Str.ofString (toString n8)).length ≤ 20 := e8 ▸ hok2
            have hpl3 := len_plain _ hok3
            k_steps
            refine' EndT.mk' (?o8, ?t7) ?f9 ?n9 ?hI9 ?hG9 ?hn9 ?R9 ?M9
            case f9 => assumption
            case n9 => assumption
            case hI9 => exact .head _
            case hG9 => exact fun p hp => .tail _ hp
            case hn9 => exact hn9
            case M9 => ktd_rel
            case R9 =>
              refine Eq.trans ?_ (attrA_take _ _ j _ hp9).symm
              dsimp only
              rw [e8, ← h7o]
          · k_steps
            refine' EndT.mk' (?o8b, ?t7b) ?f9b ?n9b ?hI9b ?hG9b ?hn9b ?R9b ?M9b
            case f9b => assumption
            case n9b => assumption
            case hI9b => exact .head _
            case hG9b => exact fun p hp => .tail _ hp
            case hn9b => exact hn9
            case M9b => ktd_rel
            case R9b =>
              refine Eq.trans ?_ (attrA_take _ _ j _ hp9).symm
              dsimp only
              rw [← h7o]
      clear F3 N3
      intro u3 t3 h3' tk3 htk3 F3 N3
      dsimp only [setAll, freeAll] at F3
      generalize ho4 : attrA (((if af then out ++ Str.ofString "\n" else out) ++ Str.ofString "<") ++ tag) (attrsOf i1) = o4 at hat hH F3
      k_steps
      (rename Fr _ _ _ _ => F5)
      (rename News _ _ _ _ => N5)
      unfold Stopped
      refine cutT (fun t' => [(Str.ofString "out", .str (if k1.startsPlain then (o4 ++ Str.ofString ">") ++ Str.ofString "\n" else o4 ++ Str.ofString ">") t')]) [] F5 N5 ?rest5 ?walk5
      case walk5 =>
        intro Q' hQ'
        clear hstop
        cases h5 with
        | nil =>
          k_steps
          exact hQ' _ _ _ _ (by tb_start) (by assumption) (by first | assumption | exact newsTail (by assumption)) (by k_intsEnd) (by ktn_open)
        | words =>
          k_steps
          exact hQ' _ _ _ _ (by tb_start) (by assumption) (by first | assumption | exact newsTail (by assumption)) (by k_intsEnd) (by ktn_open)
        | hidden =>
          k_steps
          exact hQ' _ _ _ _ (by tb_start) (by assumption) (by first | assumption | exact newsTail (by assumption)) (by k_intsEnd) (by ktn_open)
        | rule =>
          k_steps
          exact hQ' _ _ _ _ (by tb_start) (by assumption) (by first | assumption | exact newsTail (by assumption)) (by k_intsEnd) (by ktn_open)
        | box =>
          k_steps
          exact hQ' _ _ _ _ (by tb_start) (by assumption) (by first | assumption | exact newsTail (by assumption)) (by k_intsEnd) (by ktn_open)
      clear F5 N5
      intro u4 t4 h4' tk4 htk4 F5 N5
      dsimp only [setAll, freeAll] at F5
      have hif5 : (if k1.startsPlain then (o4 ++ Str.ofString ">") ++ Str.ofString "\n" else o4 ++ Str.ofString ">").length ≤ o4.length + 2 :=
        Nat.le_trans (len_nlif _ _) (by rw [Str.length_append, ln_gt]; omega)
      have hd1 : k1.depth + 1 ≤ k.depth := by omega
      k_steps
      k_dflt (refine' IH k1 ?ilt _ _ _ _ _ _ _ _ _ _ _ _ _ _ _ _ _ _ _ vi n1 _ _ ?iB ?iF ?iX ?iN ?iT ?ik ?il ?iK ?isz ?isl ?idp ?iun ?it ?_)
      case ilt => omega
      case iB => k_asm
      case iF => k_asm
      case iX => k_asm
      case iN => k_asm
      case iT => k_asm
      case ik => first | exact rfl | assumption
      case il => k_mem
      case iK => exact h5.mono fun p hp => .tail _ hp
      case isz => omega
      case isl => exact hsl
      case idp => ktr_room
      case iun => ktr_units
      case it => tb_start
      intro t8 h8 tk8 htk8 F8 N8
      k_steps
      refine' html_end false hvs hne ?f9 ?n9 ?hM9 ?e9 h6 hH ?l9 ?d9 ?s9
      case f9 => assumption
      case n9 => assumption
      case hM9 => ktd_rel
      case e9 => decide +kernel
      case l9 => tb_rel
      case d9 => omega
      case s9 => omega
theorem html_spec (k : Kids) : HtmlSpec w p loose mean mg mb k := by
  have all : ∀ n, ∀ k : Kids, k.size < n → HtmlSpec w p loose mean mg mb k := by
    intro n
    induction n with
    | zero => intro k h; exact absurd h (Nat.not_lt_zero _)
    | succ n ih => exact fun k h => html_step k fun k' h' => ih k' (Nat.lt_of_lt_of_le h' (Nat.le_of_lt_succ h))
  exact all _ k (Nat.lt_succ_self _)
end

/-! the plain law: what the renderer tells of the tokens of a tree is what the tree tells -/
theorem app_assoc (a b c : Str) : (a ++ b) ++ c = a ++ (b ++ c) := Str.append_assoc a b c
theorem em_app (a : Str) : Str.ofString "" ++ a = a := by
  have h : Str.ofString "" = Str.mk #[] := by decide +kernel
  rw [h]; show Str.mk (#[] ++ a.cps) = a; rw [Array.empty_append]
theorem app_em (a : Str) : a ++ Str.ofString "" = a := by
  have h : Str.ofString "" = Str.mk #[] := by decide +kernel
  rw [h]; show Str.mk (a.cps ++ #[]) = a; rw [Array.append_empty]

inductive TD where
  | tok (tag : Str) (nst : Int) (hid : Bool) (set : Addr)
  | inl (w : Str)
def TD.hid : TD → Bool
  | .tok _ _ h _ => h
  | .inl _ => false
def lay : Kids → List TD
  | .nil => []
  | .words w r => .tok (Str.ofString "p") 1 false 279 :: .inl w :: .tok (Str.ofString "p") (-1) false 279 :: lay r
  | .hidden w r => .tok (Str.ofString "p") 1 true 279 :: .inl w :: .tok (Str.ofString "p") (-1) true 279 :: lay r
  | .rule r => .tok (Str.ofString "hr") 0 false 279 :: lay r
  | .box tag i k r => .tok tag 1 false i :: (lay k ++ (.tok tag (-1) false 279 :: lay r))

/-- renderAttrs -/
def attrR (r : Str) (l : List (Str × Str)) : Str := l.foldl (fun r p => r ++ ((((Str.ofString " " ++ plainS p.1) ++ Str.ofString "=\"") ++ plainS p.2) ++ Str.ofString "\"")) r
def needLf (tag : Str) (nst : Int) (next : Option TD) : Bool :=
  if nst = 1 then (match next with
    | none => true
    | some (.inl _) => false
    | some (.tok tag' nst' hid' _) => !hid' && !(nst' == -1 && tag' == tag)) else true
/-- renderToken -/
def rTok (slash : Str) (ph : Bool) (tag : Str) (nst : Int) (hid : Bool) (set : Addr) (next : Option TD) : Str :=
  if hid then Str.ofString "" else
    (((if nst ≠ -1 ∧ ph = true then Str.ofString "\n" else Str.ofString "") ++ ((if nst = -1 then Str.ofString "</" else Str.ofString "<") ++ tag)) ++ attrR (Str.ofString "") (attrsOf set)
      ++ (if nst = 0 then slash else Str.ofString "")) ++ (if needLf tag nst next then Str.ofString ">\n" else Str.ofString ">")
def renderAll (slash : Str) : Bool → List TD → Str
  | _, [] => Str.ofString ""
  | _, .inl w :: r => plainS w ++ renderAll slash false r
  | ph, .tok tag nst hid set :: r => rTok slash ph tag nst hid set r.head? ++ renderAll slash hid r

def lastH : Bool → Kids → Bool
  | ph, .nil => ph
  | _, .words _ r => lastH false r
  | _, .hidden _ r => lastH true r
  | _, .rule r => lastH false r
  | _, .box _ _ _ r => lastH false r

theorem attrA_out (l : List (Str × Str)) : ∀ (o : Str), (∀ p ∈ l, plainS p.1 = p.1) → attrA o l = o ++ attrR (Str.ofString "") l := by
  have hR : ∀ (l : List (Str × Str)) (r : Str), attrR r l = r ++ attrR (Str.ofString "") l := by
    intro l
    induction l with
    | nil => intro r; show r = r ++ Str.ofString ""; rw [app_em]
    | cons p t ih =>
      intro r
      show attrR (r ++ _) t = r ++ attrR (Str.ofString "" ++ _) t
      rw [ih, ih (Str.ofString "" ++ _), em_app, app_assoc]
  induction l with
  | nil => intro o _; show o = o ++ Str.ofString ""; rw [app_em]
  | cons p t ih =>
    intro o h
    show attrA (((((o ++ Str.ofString " ") ++ p.1) ++ Str.ofString "=\"") ++ plainS p.2) ++ Str.ofString "\"") t = o ++ attrR (Str.ofString "" ++ ((((Str.ofString " " ++ plainS p.1) ++ Str.ofString "=\"") ++ plainS p.2) ++ Str.ofString "\"")) t
    rw [ih _ fun q hq => h q (.tail _ hq), hR t (Str.ofString "" ++ _), em_app, h p (.head _)]
    simp only [app_assoc]
theorem keys_plain (i : Addr) : ∀ p ∈ attrsOf i, plainS p.1 = p.1 := by
  unfold attrsOf
  (repeat' split) <;> decide +kernel

theorem html_out (slash : Str) : ∀ (k : Kids) (out : Str) (af : Bool), htmlA slash out af k = out ++ htmlA slash (Str.ofString "") af k := by
  have nl : ∀ (af : Bool) (out : Str), (if af then out ++ Str.ofString "\n" else out) = out ++ (if af then Str.ofString "" ++ Str.ofString "\n" else Str.ofString "") := by
    intro af out
    cases af
    · exact (app_em out).symm
    · show out ++ Str.ofString "\n" = out ++ (Str.ofString "" ++ Str.ofString "\n")
      rw [em_app]
  intro k
  induction k with
  | nil => intro out af; exact (app_em out).symm
  | words w r ih =>
    intro out af
    simp only [htmlA]
    rw [ih, ih ((((if af then Str.ofString "" ++ Str.ofString "\n" else Str.ofString "") ++ Str.ofString "<p>") ++ plainS w) ++ Str.ofString "</p>\n"), nl]
    simp only [app_assoc]
  | hidden w r ih =>
    intro out af
    simp only [htmlA]
    rw [ih, ih (Str.ofString "" ++ plainS w), em_app]
    simp only [app_assoc]
  | rule r ih =>
    intro out af
    simp only [htmlA]
    rw [ih, ih ((((if af then Str.ofString "" ++ Str.ofString "\n" else Str.ofString "") ++ Str.ofString "<hr") ++ slash) ++ Str.ofString ">\n"), nl]
    simp only [app_assoc]
  | box tag i k r _ ihr =>
    intro out af
    simp only [htmlA]
    rw [ihr]
    conv => rhs; rw [ihr]
    rw [nl af out]
    rw [attrA_out _ _ (keys_plain i), attrA_out _ (((if af then Str.ofString "" ++ Str.ofString "\n" else Str.ofString "") ++ Str.ofString "<") ++ tag) (keys_plain i)]
    cases k.startsPlain
    · simp only [Bool.false_eq_true, if_false, app_assoc]
    · simp only [if_true, app_assoc]

theorem head_lay (tag : Str) (k : Kids) (rest : List TD) : needLf tag 1 (lay k ++ (.tok tag (-1) false 279 :: rest)).head? = k.startsPlain := by
  cases k with
  | nil => simp [lay, needLf, Kids.startsPlain]
  | words w r => simp [lay, needLf, Kids.startsPlain]
  | hidden w r => simp [lay, needLf, Kids.startsPlain]
  | rule r => simp [lay, needLf, Kids.startsPlain]
  | box t i k r => simp [lay, needLf, Kids.startsPlain]

theorem render_lay (slash : Str) : ∀ (k : Kids) (ph : Bool) (rest : List TD), renderAll slash ph (lay k ++ rest) = htmlA slash (Str.ofString "") ph k ++ renderAll slash (lastH ph k) rest := by
  intro k
  induction k with
  | nil => intro ph rest; simp only [lay, htmlA, lastH, List.nil_append, em_app]
  | words w r ih =>
    intro ph rest
    simp only [lay, htmlA, lastH, List.cons_append, renderAll, List.head?_cons]
    rw [ih, html_out slash r ((((if ph then Str.ofString "" ++ Str.ofString "\n" else Str.ofString "") ++ Str.ofString "<p>") ++ plainS w) ++ Str.ofString "</p>\n")]
    have a1 : attrR (Str.ofString "") (attrsOf 279) = Str.ofString "" := rfl
    have e1 : rTok slash ph (Str.ofString "p") 1 false 279 (some (.inl w)) = (if ph then Str.ofString "" ++ Str.ofString "\n" else Str.ofString "") ++ Str.ofString "<p>" := by
      have c1 : Str.ofString "<p>" = (Str.ofString "<" ++ Str.ofString "p") ++ Str.ofString ">" := by decide +kernel
      rw [c1]
      cases ph <;> simp [rTok, needLf, a1, app_em, em_app, app_assoc]
    have e2 : ∀ nx, rTok slash false (Str.ofString "p") (-1) false 279 nx = Str.ofString "</p>\n" := by
      intro nx
      have c1 : Str.ofString "</p>\n" = (Str.ofString "</" ++ Str.ofString "p") ++ Str.ofString ">\n" := by decide +kernel
      rw [c1]
      simp [rTok, needLf, a1, app_em, em_app, app_assoc]
    rw [e1, e2]
    simp only [app_assoc]
  | hidden w r ih =>
    intro ph rest
    simp only [lay, htmlA, lastH, List.cons_append, renderAll, List.head?_cons]
    rw [ih, html_out slash r (Str.ofString "" ++ plainS w)]
    simp only [rTok, if_true, em_app, app_assoc]
  | rule r ih =>
    intro ph rest
    simp only [lay, htmlA, lastH, List.cons_append, renderAll]
    rw [ih, html_out slash r ((((if ph then Str.ofString "" ++ Str.ofString "\n" else Str.ofString "") ++ Str.ofString "<hr") ++ slash) ++ Str.ofString ">\n")]
    have a1 : attrR (Str.ofString "") (attrsOf 279) = Str.ofString "" := rfl
    have e1 : ∀ nx, rTok slash ph (Str.ofString "hr") 0 false 279 nx = ((((if ph then Str.ofString "" ++ Str.ofString "\n" else Str.ofString "") ++ Str.ofString "<hr") ++ slash) ++ Str.ofString ">\n") := by
      intro nx
      have c1 : Str.ofString "<hr" = Str.ofString "<" ++ Str.ofString "hr" := by decide +kernel
      rw [c1]
      cases ph <;> simp [rTok, needLf, a1, app_em, em_app, app_assoc]
    rw [e1]
    simp only [app_assoc]
  | box tag i k r ihk ihr =>
    intro ph rest
    simp only [lay, htmlA, lastH, List.cons_append, renderAll, List.append_assoc]
    rw [ihk]
    simp only [renderAll]
    rw [ihr]
    have e0 : rTok slash ph tag 1 false i (lay k ++ (.tok tag (-1) false 279 :: (lay r ++ rest))).head? = (if k.startsPlain then (attrA (((if ph then Str.ofString "" ++ Str.ofString "\n" else Str.ofString "") ++ Str.ofString "<") ++ tag) (attrsOf i) ++ Str.ofString ">") ++ Str.ofString "\n" else attrA (((if ph then Str.ofString "" ++ Str.ofString "\n" else Str.ofString "") ++ Str.ofString "<") ++ tag) (attrsOf i) ++ Str.ofString ">") := by
      have c1 : Str.ofString ">\n" = Str.ofString ">" ++ Str.ofString "\n" := by decide +kernel
      unfold rTok
      rw [head_lay, attrA_out _ _ (keys_plain i), c1]
      cases k.startsPlain <;> cases ph <;> simp [app_em, em_app, app_assoc]
    have a1 : attrR (Str.ofString "") (attrsOf 279) = Str.ofString "" := rfl
    have e2 : ∀ b nx, rTok slash b tag (-1) false 279 nx = (Str.ofString "</" ++ tag) ++ Str.ofString ">\n" := by
      intro b nx
      simp [rTok, needLf, a1, app_em, em_app, app_assoc]
    rw [e0, e2]
    rw [html_out slash r (_ ++ Str.ofString ">\n")]
    simp only [app_assoc]

theorem plain_law (slash : Str) (k : Kids) : renderAll slash false (lay k) = htmlA slash (Str.ofString "") false k := by
  have h := render_lay slash k false []
  rw [List.append_nil] at h
  rw [h]; exact app_em _

-- MACROS BEGIN
local macro_rules | `(tactic| k_room) => `(tactic| ktr_room)
local macro_rules | `(tactic| k_units) => `(tactic| ktr_units)
-- MACROS END
/-- a token's dict -/
abbrev tokEs (P : Params) (kd tag : Str) (t1 t2 : Tok) (nst : Int) (t3 : Tok) (atr mt : Addr) (hid : Bool) (u1 u2 u3 u4 u5 u6 u7 : Tok) : List DictEntry :=
  [⟨PyData.keyHash P (Str.ofString "type"), .str (Str.ofString "type") u1, .str kd t1⟩, ⟨PyData.keyHash P (Str.ofString "tag"), .str (Str.ofString "tag") u2, .str tag t2⟩,
   ⟨PyData.keyHash P (Str.ofString "nesting"), .str (Str.ofString "nesting") u3, .int nst t3⟩, ⟨PyData.keyHash P (Str.ofString "attrs"), .str (Str.ofString "attrs") u4, .ref atr⟩,
   ⟨PyData.keyHash P (Str.ofString "meta"), .str (Str.ofString "meta") u5, .ref mt⟩, ⟨PyData.keyHash P (Str.ofString "block"), .str (Str.ofString "block") u6, .bool true⟩,
   ⟨PyData.keyHash P (Str.ofString "hidden"), .str (Str.ofString "hidden") u7, .bool hid⟩]
/-- an empty dict -/
def EmptyD (w : World) (o : Obj) : Prop := Obj.IsDictOf (PySem.strKind PySem.Challenge.rw_dg5005_01.row.prog w) o [] ∧ PyProof.V.FlatPairs PyData.str [] []
theorem allLt_trans {a b : Addr} {l : List (Addr × Obj)} (h : AllLt a l) (hab : a < b) : AllLt b l := allLt_of fun p hp => Nat.lt_trans (ktn_ltOf h p hp) hab

section
variable {w : World} {p : Program} {loose : List Str} {mean : ExcName → Option Value} {mg mb : Str → Option Value} {dp un : Nat} {gd : Option (List Code)} {cn : Str} {cs : Scope} {a : Addr} {ccd : Value} {cl : List (Str × Addr)} {outer : List Env} {A₀ : Around} {base h₀ : Heap} {L : Addr} {m : Str → Option Value} {news : List (Addr × Obj)} {s : Shared}
  {Q E : Value → Shared → Prop}

theorem tok_use {kd tag : Str} {t1 t2 : Tok} {nst : Int} {t3 : Tok} {hid : Bool} (B : Below A₀ base outer h₀) (F : Fr h₀ L s.heap m) (X : (frag.heap_1 w.params).In h₀) (N : News h₀ L s.heap news) (T : Top p loose mean mg mb h₀) (hk : cs.kind = .function)
    (hdp : dp + 8 < recursionLimit) (hun : un + 60 < cLine) (ht : 0 < s.toks)
    (hret : ∀ (x d atr mt : Addr) (oA oM : Obj) (u1 u2 u3 u4 u5 u6 u7 : Tok) h' tk', 0 < tk' → Fr h₀ L h' m → News h₀ L h' ((mt, oM) :: (atr, oA) :: (x, instObj 95 d) :: (d, dictOf (tokEs w.params kd tag t1 t2 nst t3 atr mt hid u1 u2 u3 u4 u5 u6 u7) 7) :: news) →
      EmptyD w oA → AllLt d news → AllLt x ((d, dictOf (tokEs w.params kd tag t1 t2 nst t3 atr mt hid u1 u2 u3 u4 u5 u6 u7) 7) :: news) → AllLt atr ((x, instObj 95 d) :: (d, dictOf (tokEs w.params kd tag t1 t2 nst t3 atr mt hid u1 u2 u3 u4 u5 u6 u7) 7) :: news) →
      AllLt mt ((atr, oA) :: (x, instObj 95 d) :: (d, dictOf (tokEs w.params kd tag t1 t2 nst t3 atr mt hid u1 u2 u3 u4 u5 u6 u7) 7) :: news) → (atr == sysModules) = false → Q (.ref x) { s with heap := h', toks := tk' }) :
    wpAny (model PySem.Challenge.rw_dg5005_01.row.prog w) (ktrTop dp un gd cn cs L a ccd cl outer) (call (.ref 321) [.str kd t1, .str tag t2, .int nst t3, .bool hid]) Q E s := by
  revert X
  k_fill
  intro X
  refine wpAny_call ?_
  k_dflt ktr_enter
  k_steps
  refine' hret _ _ _ _ _ _ _ _ _ _ _ _ _ _ _ ?ht9 ?F9 ?N9 ?e9 ?a1 ?a2 ?a3 ?a4 ?s9
  case ht9 => tb_start
  case F9 => assumption
  case N9 => assumption
  case e9 => exact ⟨by assumption, by assumption⟩
  case a1 => exact allLt_of (by assumption)
  case a2 => exact ⟨by assumption, allLt_trans (allLt_of (by assumption)) (by assumption)⟩
  case a3 => assumption
  case a4 => assumption
  case s9 => assumption
end

theorem iteT {b : Bool} {P Q : Prop} (hb : b = true) (h : P) : if b = true then P else Q := by rw [hb]; exact h
theorem iteF {b : Bool} {P Q : Prop} (hb : b = false) (h : Q) : if b = true then P else Q := by rw [hb]; exact h
theorem iteNT {b : Bool} {P Q : Prop} (hb : b = true) (h : Q) : if (!b) = true then P else Q := by rw [hb]; exact h
theorem iteNF {b : Bool} {P Q : Prop} (hb : b = false) (h : P) : if (!b) = true then P else Q := by rw [hb]; exact h
theorem iteBT {α : Type} [BEq α] {x y : α} {P Q : Prop} (hb : (x == y) = true) (h : Q) : if (x != y) = true then P else Q := by rw [bne, hb]; exact h
theorem iteBF {α : Type} [BEq α] {x y : α} {P Q : Prop} (hb : (x == y) = false) (h : P) : if (x != y) = true then P else Q := by rw [bne, hb]; exact h
theorem allLt_ne {d : Addr} {l : List (Addr × Obj)} (h : AllLt d l) : ∀ p ∈ l, p.1 ≠ d := fun p hp => Nat.ne_of_lt (ktn_ltOf h p hp)
-- MACROS BEGIN
local macro_rules | `(tactic| walk_at "ite") => `(tactic| (k_here; with_reducible first | refine iteT (by assumption) ?_ | refine iteF (by assumption) ?_ | refine iteNT (by assumption) ?_ | refine iteNF (by assumption) ?_ | refine iteBT (by assumption) ?_ | refine iteBF (by assumption) ?_))
local macro_rules | `(tactic| k_all) => `(tactic| first | (refine' List.forall_mem_cons.mpr ⟨?a, ?b⟩; (case a => k_ne); (case b => k_all)) | assumption | exact allLt_ne (by assumption) | exact List.forall_mem_nil _)
local macro_rules | `(tactic| walk_at "call ref") => `(tactic| (k_here; (with_reducible show wpAny _ _ (call (Value.ref 321) [Value.str _ _, Value.str _ _, Value.int _ _, Value.bool _]) _ _ _); k_dflt (refine' tok_use ?k1 ?k2 ?k3 ?k4 ?k5 ?k6 ?k8 ?k9 ?k10 ?_; (case k1 => k_asm); (case k2 => k_asm); (case k3 => k_asm); (case k4 => k_asm); (case k5 => k_asm); (case k6 => first | exact rfl | assumption); (case k8 => ktr_room); (case k9 => ktr_units); (case k10 => tb_start)); intro x' d' a' m' oA' oM' u1' u2' u3' u4' u5' u6' u7' h' tk htk F' N' e' l1 l2 l3 l4 s'; (try simp only [AllLt, and_true] at l1); (repeat (obtain ⟨_, l1⟩ := l1)); (try simp only [AllLt, and_true] at l2); (repeat (obtain ⟨_, l2⟩ := l2)); (try simp only [AllLt, and_true] at l3); (repeat (obtain ⟨_, l3⟩ := l3)); (try simp only [AllLt, and_true] at l4); (repeat (obtain ⟨_, l4⟩ := l4)); (try k_sweep)))
local macro_rules | `(tactic| walk_at "setAttr ref") => `(tactic| (k_here; k_dflt (refine' set_dict ?k1 ?k2 ?k3 ?k4 ?k5 ?k6 ?k7 ?k8 ?k9 ?k10 ?k11 ?k12 ?k13 ?_; (case k1 => k_asm); (case k2 => k_asm); (case k3 => k_asm); (case k4 => k_inst); (case k5 => exact rfl); (case k6 => k_is); (case k7 => k_is); (case k8 => k_is); (case k9 => k_is); (case k10 => k_get); (case k11 => k_put); (case k12 => k_upd); (case k13 => exact Nat.le_of_ble_eq_true rfl); k_whole; intro h' F' N'; (try k_sweep))))
-- MACROS END

/-! how the ledger bears the tokens -/
def kinds : List Str := tags5.map (· ++ Str.ofString "_open") ++ (tags5.map (· ++ Str.ofString "_close") ++ [Str.ofString "hr", Str.ofString "paragraph_open", Str.ofString "paragraph_close"])
inductive KvIs : List (Str × Value) → List (Str × Str) → Prop where
  | nil : KvIs [] []
  | int {k t : Str} {n : Int} {u : Tok} {kvs : List (Str × Value)} {l : List (Str × Str)} : 0 ≤ n → n ≤ 9 → t = Str.ofString (toString n) → KvIs kvs l → KvIs ((k, .int n u) :: kvs) ((k, t) :: l)
  | str {k t : Str} {u : Tok} {kvs : List (Str × Value)} {l : List (Str × Str)} : KvIs kvs l → KvIs ((k, .str t u) :: kvs) ((k, t) :: l)
theorem KvIs.append {a c : List (Str × Value)} {b d : List (Str × Str)} (h : KvIs a b) (h2 : KvIs c d) : KvIs (a ++ c) (b ++ d) := by
  induction h with
  | nil => exact h2
  | int e1 e2 e3 _ ih => exact .int e1 e2 e3 ih
  | str _ ih => exact .str ih
def AttrIs (w : World) (o : Obj) (l : List (Str × Str)) : Prop := ∃ kvs D, Obj.IsDictOf (PySem.strKind PySem.Challenge.rw_dg5005_01.row.prog w) o kvs ∧ PyProof.V.FlatPairs PyData.str kvs D ∧ KvIs kvs l
theorem EmptyD.attr {w : World} {o : Obj} (h : EmptyD w o) : AttrIs w o [] := ⟨[], [], h.1, h.2, .nil⟩
abbrev wordEs (P : Params) (t1 t2 t3 : Tok) (atr mt : Addr) (w1 : Str) (t4 : Tok) (u1 u2 u3 u4 u5 u6 : Tok) : List DictEntry :=
  [⟨PyData.keyHash P (Str.ofString "type"), .str (Str.ofString "type") u1, .str (Str.ofString "text") t1⟩, ⟨PyData.keyHash P (Str.ofString "tag"), .str (Str.ofString "tag") u2, .str (Str.ofString "") t2⟩,
   ⟨PyData.keyHash P (Str.ofString "nesting"), .str (Str.ofString "nesting") u3, .int 0 t3⟩, ⟨PyData.keyHash P (Str.ofString "attrs"), .str (Str.ofString "attrs") u4, .ref atr⟩,
   ⟨PyData.keyHash P (Str.ofString "meta"), .str (Str.ofString "meta") u5, .ref mt⟩, ⟨PyData.keyHash P (Str.ofString "content"), .str (Str.ofString "content") u6, .str w1 t4⟩]
inductive InlIn (w : World) (D : List (Addr × Obj)) : Addr → Str → Prop where
  | none {ch : Addr} {n : Nat} : (ch, listOf ([] : List Value).toArray n) ∈ D → InlIn w D ch (Str.ofString "")
  | word {ch xw dw atr mt : Addr} {n : Nat} {w1 : Str} {t1 t2 t3 t4 u1 u2 u3 u4 u5 u6 : Tok} : w1 ≠ Str.ofString "" → w1.length ≤ 20 → (ch, listOf [.ref xw].toArray n) ∈ D → (xw, instObj 95 dw) ∈ D → (dw, dictOf (wordEs w.params t1 t2 t3 atr mt w1 t4 u1 u2 u3 u4 u5 u6) 6) ∈ D → InlIn w D ch w1
inductive TokIn (w : World) (D : List (Addr × Obj)) : Value → TD → Prop where
  | tok {x d atr mt : Addr} {oA : Obj} {kd tag : Str} {t1 t2 t3 : Tok} {nst : Int} {hid : Bool} {i : Addr} {u1 u2 u3 u4 u5 u6 u7 : Tok} : (x, instObj 95 d) ∈ D → (d, dictOf (tokEs w.params kd tag t1 t2 nst t3 atr mt hid u1 u2 u3 u4 u5 u6 u7) 7) ∈ D → (atr, oA) ∈ D → AttrIs w oA (attrsOf i) → kd ∈ kinds → tag.length ≤ 10 → (atr == sysModules) = false → TokIn w D (.ref x) (.tok tag nst hid i)
  | inl {x d atr mt ch : Addr} {w1 : Str} {t1 t2 t3 : Tok} {u1 u2 u3 u4 u5 u6 u7 u8 : Tok} : (x, instObj 95 d) ∈ D → (d, dictOf (tokEs w.params (Str.ofString "inline") (Str.ofString "") t1 t2 0 t3 atr mt false u1 u2 u3 u4 u5 u6 u7 ++ [⟨PyData.keyHash w.params (Str.ofString "children"), .str (Str.ofString "children") u8, .ref ch⟩]) 8) ∈ D → InlIn w D ch w1 → TokIn w D (.ref x) (.inl w1)
theorem InlIn.mono {w : World} {D D' : List (Addr × Obj)} {ch : Addr} {w1 : Str} (h : InlIn w D ch w1) (hs : ∀ p ∈ D, p ∈ D') : InlIn w D' ch w1 := by
  cases h with
  | none h1 => exact .none (hs _ h1)
  | word h0 h00 h1 h2 h3 => exact .word h0 h00 (hs _ h1) (hs _ h2) (hs _ h3)
theorem TokIn.mono {w : World} {D D' : List (Addr × Obj)} {v : Value} {t : TD} (h : TokIn w D v t) (hs : ∀ p ∈ D, p ∈ D') : TokIn w D' v t := by
  cases h with
  | tok h1 h2 h3 h4 h5 h6 h7 => exact .tok (hs _ h1) (hs _ h2) (hs _ h3) h4 h5 h6 h7
  | inl h1 h2 h3 => exact .inl (hs _ h1) (hs _ h2) (h3.mono hs)
inductive ToksIn (w : World) (D : List (Addr × Obj)) : List Value → List TD → Prop where
  | nil : ToksIn w D [] []
  | cons {v : Value} {t : TD} {vs : List Value} {ts : List TD} : TokIn w D v t → ToksIn w D vs ts → ToksIn w D (v :: vs) (t :: ts)
theorem ToksIn.mono {w : World} {D D' : List (Addr × Obj)} {vs : List Value} {ts : List TD} (h : ToksIn w D vs ts) (hs : ∀ p ∈ D, p ∈ D') : ToksIn w D' vs ts := by
  induction h with
  | nil => exact .nil
  | cons h1 _ ih => exact .cons (h1.mono hs) ih
theorem ToksIn.append {w : World} {D : List (Addr × Obj)} {a c : List Value} {b d : List TD} (h : ToksIn w D a b) (h2 : ToksIn w D c d) : ToksIn w D (a ++ c) (b ++ d) := by
  induction h with
  | nil => exact h2
  | cons h1 _ ih => exact .cons h1 ih
theorem ToksIn.length {w : World} {D : List (Addr × Obj)} {a : List Value} {b : List TD} (h : ToksIn w D a b) : a.length = b.length := by
  induction h with
  | nil => rfl
  | cons _ _ ih => rw [List.length_cons, List.length_cons, ih]
theorem ToksIn.get {w : World} {D : List (Addr × Obj)} {a : List Value} {b : List TD} (h : ToksIn w D a b) : ∀ (i : Nat) v, a[i]? = some v → ∃ t, b[i]? = some t ∧ TokIn w D v t := by
  induction h with
  | nil => intro i v e; cases i <;> cases e
  | cons h1 _ ih =>
    intro i v e
    cases i with
    | zero => cases e; exact ⟨_, rfl, h1⟩
    | succ i => exact ih i v e
theorem lay_len (k : Kids) : (lay k).length ≤ 3 * k.size := by
  induction k with
  | nil => exact Nat.le_refl _
  | words w r ih => simp only [lay, List.length_cons, Kids.size]; omega
  | hidden w r ih => simp only [lay, List.length_cons, Kids.size]; omega
  | rule r ih => simp only [lay, List.length_cons, Kids.size]; omega
  | box t i k r ih1 ih2 => simp only [lay, List.length_cons, List.length_append, Kids.size]; omega

structure LayS where
  tl : List (Addr × Obj)
  tvs : List Value
  n : Nat
  pre : List TD
  rest : Kids
/-- a value of the sets and its text -/
def VIs (v : Value) (tx : Str) : Prop := (∃ n u, v = .int n u ∧ 0 ≤ n ∧ n ≤ 9 ∧ tx = Str.ofString (toString n)) ∨ ∃ u, v = .str tx u
theorem KvIs.keys {a : List (Str × Value)} {b : List (Str × Str)} (h : KvIs a b) : a.map Prod.fst = b.map Prod.fst := by
  induction h with
  | nil => rfl
  | int _ _ _ _ ih => rw [List.map_cons, List.map_cons, ih]
  | str _ ih => rw [List.map_cons, List.map_cons, ih]
theorem KvIs.snoc {a : List (Str × Value)} {b : List (Str × Str)} {k tx : Str} {v : Value} (h : KvIs a b) (hv : VIs v tx) : KvIs (a ++ [(k, v)]) (b ++ [(k, tx)]) := by
  refine h.append ?_
  rcases hv with ⟨n, u, rfl, h1, h2, h3⟩ | ⟨u, rfl⟩
  · exact .int h1 h2 h3 .nil
  · exact .str .nil
theorem stored_new {kvs : List (Str × Value)} {k : Str} {v : Value} (h : k ∉ kvs.map Prod.fst) : PySem.stored kvs k v = kvs ++ [(k, v)] := by
  unfold PySem.stored
  rw [if_neg]
  intro hc
  rw [List.any_eq_true] at hc
  obtain ⟨kv, hm, he⟩ := hc
  exact h (List.mem_map.mpr ⟨kv, hm, of_decide_eq_true he⟩)
theorem set_attrT {w : World} {A : Around} {E : Value → Shared → Prop} {s : Shared} {h₀ : Heap} {L d : Addr} {m : Str → Option Value} {news : List (Addr × Obj)} {g : Obj → List (Addr × Obj)} {o : Obj} {k tx : Str} {v : Value} {u : Tok} {l : List (Str × Str)} {Q : Unit → Shared → Prop}
    (F : Fr h₀ L s.heap m) (N : News h₀ L s.heap news) (U : UpdF d o news g) (ha : AttrIs w o l) (hk : k ∉ l.map Prod.fst) (hl : l.length ≤ 1000) (hv : VIs v tx)
    (h : ∀ h' o', Fr h₀ L h' m → News h₀ L h' (g o') → AttrIs w o' (l ++ [(k, tx)]) → Q () { s with heap := h', toks := s.toks + 1 }) :
    wpAny (model PySem.Challenge.rw_dg5005_01.row.prog w) A (setItem (.ref d) (.str k u) v) Q E s := by
  obtain ⟨kvs, D, hd, hf, hkv⟩ := ha
  have hlen : kvs.length = l.length := by have := congrArg List.length hkv.keys; rwa [List.length_map, List.length_map] at this
  have hfl : ∃ dv, PyProof.V.Flat v dv := by
    rcases hv with ⟨n, u, rfl, _⟩ | ⟨u, rfl⟩
    · exact ⟨_, .int _ _⟩
    · exact ⟨_, .str _ _⟩
  obtain ⟨dv, hfl⟩ := hfl
  refine setItem_K PyProof.V.same_str (strKind_is _ _ _ _) hfl F N U hd hf (fun h' o' F' N' hd' hf' => h h' o' F' N' ?_) ?_
  · rw [stored_new (hkv.keys ▸ hk)] at hd' hf'
    exact ⟨_, _, hd', hf', hkv.snoc hv⟩
  · rw [hf.length, hlen, sizeLine_eq]; omega
theorem attrs_nodup (i : Addr) : ((attrsOf i).map Prod.fst).Nodup := by
  unfold attrsOf
  (repeat' split) <;> decide +kernel
theorem attr_fresh {i : Addr} {j : Nat} {p : Str × Str} (h : (attrsOf i)[j]? = some p) : p.1 ∉ ((attrsOf i).take j).map Prod.fst := by
  have hn := attrs_nodup i
  have hj := (List.getElem?_eq_some_iff.mp h).1
  have e : (attrsOf i) = (attrsOf i).take j ++ (attrsOf i).drop j := (List.take_append_drop j _).symm
  rw [e, List.map_append] at hn
  intro hm
  have hd : (attrsOf i).drop j = (attrsOf i)[j] :: (attrsOf i).drop (j + 1) := List.drop_eq_getElem_cons hj
  have hp : (attrsOf i)[j] = p := (List.getElem?_eq_some_iff.mp h).2
  refine (List.nodup_append.mp hn).2.2 _ hm p.1 ?_ rfl
  rw [hd, hp]; exact List.mem_cons_self
theorem attrTake_succ {l : List (Str × Str)} {j : Nat} {p : Str × Str} (h : l[j]? = some p) : l.take (j + 1) = l.take j ++ [(p.1, p.2)] := by rw [List.take_add_one, h]; rfl
theorem mem_re {α : Type} {A B C T : List α} {i o p : α} (h : p ∈ (A ++ (B ++ C)) ++ (i :: o :: T)) : p ∈ A ++ (o :: (B ++ (C ++ i :: T))) := by
  simp only [List.mem_append, List.mem_cons] at h ⊢
  rcases h with (h | h | h) | h | h | h <;> simp [h]
theorem sepNew {o I y : Addr} {oI : Obj} {T1 T2 : List (Addr × Obj)} (ho : @LT.lt Nat _ o y) (hA : AllLt y T2) (hI : (I, oI) ∈ T2) (hT : ∀ q ∈ T1, q ∈ T2) : y ≠ o ∧ y ≠ I ∧ ∀ q ∈ T1, q.1 ≠ y :=
  ⟨Nat.ne_of_gt ho, Nat.ne_of_gt (ktn_ltOf hA _ hI), fun q hq => Nat.ne_of_lt (ktn_ltOf hA q (hT q hq))⟩
theorem sepOld {o I y : Addr} {T1 : List (Addr × Obj)} (ho : @LT.lt Nat _ o y) (hI : @LT.lt Nat _ I y) (hA : AllLt y T1) : y ≠ o ∧ y ≠ I ∧ ∀ q ∈ T1, q.1 ≠ y :=
  ⟨Nat.ne_of_gt ho, Nat.ne_of_gt hI, fun q hq => Nat.ne_of_lt (ktn_ltOf hA q hq)⟩
theorem kind_open {tag : Str} (h : tag ∈ tags5) : tag ++ Str.ofString "_open" ∈ kinds := List.mem_append.mpr (.inl (List.mem_map.mpr ⟨tag, h, rfl⟩))
theorem kind_close {tag : Str} (h : tag ∈ tags5) : tag ++ Str.ofString "_close" ∈ kinds := List.mem_append.mpr (.inr (List.mem_append.mpr (.inl (List.mem_map.mpr ⟨tag, h, rfl⟩))))
-- MACROS BEGIN
local macro_rules | `(tactic| walk_at "setItem ref str") => `(tactic| (k_here; k_dflt (refine' set_attrT ?F ?N ?U ?a ?k ?l ?v ?_; (case F => k_asm); (case N => k_asm); (case U => k_updF); (case a => with_reducible assumption); (case k => with_reducible assumption); (case l => with_reducible assumption); (case v => with_reducible assumption)); intro h' o' F' N' hA'; (try k_sweep)))
-- MACROS END

def LayR (w : World) (R : List (Addr × Obj)) (o : Addr) (vs : List Value) (k : Kids) (i : Nat) (σ : LayS) : Prop :=
  KidsIn R (vs.drop i) σ.rest ∧ ToksIn w σ.tl σ.tvs σ.pre ∧ lay k = σ.pre ++ lay σ.rest ∧ (∀ p ∈ σ.tl, p.1 ≠ o) ∧ (∀ p ∈ σ.tl, ∀ q ∈ R, p.1 ≠ q.1) ∧ σ.rest.size ≤ k.size ∧ σ.rest.depth ≤ k.depth
def layG (o : Addr) (ovs : List Value) (R : List (Addr × Obj)) (σ : LayS) : List (Addr × Obj) := (o, listOf (ovs ++ σ.tvs).toArray σ.n) :: (σ.tl ++ R)
/-- what _law_lay does -/
def LaySpec (w : World) (p : Program) (loose : List Str) (mean : ExcName → Option Value) (mg mb : Str → Option Value) (k : Kids) : Prop :=
  ∀ (dp un : Nat) (gd : Option (List Code)) (cn : Str) (cs : Scope) (a : Addr) (ccd : Value) (cl : List (Str × Addr)) (outer : List Env) (A₀ : Around) (base h₀ : Heap) (L : Addr) (m : Str → Option Value) (s : Shared)
    (Q E : Value → Shared → Prop) (l o : Addr) (vs ovs : List Value) (nn on : Nat) (R : List (Addr × Obj)), Below A₀ base outer h₀ → Fr h₀ L s.heap m → (frag.heap_1 w.params).In h₀ → News h₀ L s.heap ((o, listOf ovs.toArray on) :: R) → Top p loose mean mg mb h₀ → cs.kind = .function →
    (l, listOf vs.toArray nn) ∈ R → KidsIn R vs k → (∀ p ∈ R, p.1 ≠ o) → k.size ≤ 63 → ovs.length + (lay k).length ≤ 1000 → dp + 12 + k.depth < recursionLimit → un + 100 + 20 * k.depth < cLine → 0 < s.toks →
    (∀ tl tvs n' h' tk', 0 < tk' → Fr h₀ L h' m → News h₀ L h' ((o, listOf (ovs ++ tvs).toArray n') :: (tl ++ R)) → ToksIn w tl tvs (lay k) → (∀ p ∈ tl, p.1 ≠ o) → (∀ p ∈ tl, ∀ q ∈ R, p.1 ≠ q.1) → Q .none { s with heap := h', toks := tk' }) →
    wpAny (model PySem.Challenge.rw_dg5005_01.row.prog w) (ktrTop dp un gd cn cs L a ccd cl outer) (call (.ref 328) [.ref l, .ref o]) Q E s

theorem lay_end {w : World} {h₀ h' : Heap} {L I o : Addr} {oI ob : Obj} {m₀ m' : Str → Option Value} {R T1 tl : List (Addr × Obj)} {vs vs' ovs tvs : List Value} {k r : Kids} {i tk' n' : Nat} {pre : List TD} {s₁ : Shared} {ys : List Str} {N' : List (Addr × Obj)} (new : List (Addr × Obj)) (nvs : List Value) (nts : List TD)
    (F' : Fr h₀ L h' m') (hN : News h₀ L h' N') (hin : ∀ p ∈ new ++ ((I, oI) :: (o, ob) :: T1), p ∈ N') (hM : MapIs (Str.ofString "kid") ys [] m₀ m') (hob : ob = listOf (ovs ++ (tvs ++ nvs)).toArray n') (hTe : tl ++ R = T1) (hnew : ToksIn w new nvs nts) (hlay : lay k = (pre ++ nts) ++ lay r)
    (hsep : ∀ p ∈ new, p.1 ≠ o ∧ p.1 ≠ I ∧ ∀ q ∈ T1, q.1 ≠ p.1) (hT2 : ToksIn w tl tvs pre) (hTo : ∀ p ∈ tl, p.1 ≠ o) (hTR : ∀ p ∈ tl, ∀ q ∈ R, p.1 ≠ q.1) (hIT : ∀ p ∈ T1, p.1 ≠ I) (hIo : @Ne Nat o I)
    (hvs : vs.drop (i + 1) = vs') (hK : KidsIn R vs' r) (hS : r.size ≤ k.size) (hD : r.depth ≤ k.depth) :
    EndT h₀ L (Str.ofString "kid") ys (fun _ => []) (layG o ovs R) m₀ (LayR w R o vs k (i + 1)) I oI s₁ { s₁ with heap := h', toks := tk' } := by
  subst hTe hob
  refine EndT.mk' ⟨new ++ tl, tvs ++ nvs, n', pre ++ nts, r⟩ F' hN (hin _ (List.mem_append.mpr (.inr (.head _)))) ?_ ?_ ⟨hvs ▸ hK, ?_, hlay, ?_, ?_, hS, hD⟩ hM
  · intro p hp
    unfold layG at hp
    rcases List.mem_cons.mp hp with rfl | hp
    · exact hin _ (List.mem_append.mpr (.inr (.tail _ (.head _))))
    · rcases List.mem_append.mp hp with hp | hp
      · rcases List.mem_append.mp hp with hp | hp
        · exact hin _ (List.mem_append.mpr (.inl hp))
        · exact hin _ (List.mem_append.mpr (.inr (.tail _ (.tail _ (List.mem_append.mpr (.inl hp))))))
      · exact hin _ (List.mem_append.mpr (.inr (.tail _ (.tail _ (List.mem_append.mpr (.inr hp))))))
  · intro p hp
    unfold layG at hp
    rcases List.mem_cons.mp hp with rfl | hp
    · exact hIo
    · rcases List.mem_append.mp hp with hp | hp
      · rcases List.mem_append.mp hp with hp | hp
        · exact (hsep p hp).2.1
        · exact hIT p (List.mem_append.mpr (.inl hp))
      · exact hIT p (List.mem_append.mpr (.inr hp))
  · exact (hT2.mono fun p hp => List.mem_append.mpr (.inr hp)).append (hnew.mono fun p hp => List.mem_append.mpr (.inl hp))
  · intro p hp
    rcases List.mem_append.mp hp with hp | hp
    · exact (hsep p hp).1
    · exact hTo p hp
  · intro p hp q hq
    rcases List.mem_append.mp hp with hp | hp
    · exact Ne.symm ((hsep p hp).2.2 q (List.mem_append.mpr (.inr hq)))
    · exact hTR p hp q hq

inductive SplitAt (rest : List (Addr × Obj)) : List (Addr × Obj) → List (Addr × Obj) → Prop where
  | head : SplitAt rest rest []
  | tail {p : Addr × Obj} {l new : List (Addr × Obj)} : SplitAt rest l new → SplitAt rest (p :: l) (p :: new)
theorem SplitAt.eq {rest l new : List (Addr × Obj)} (h : SplitAt rest l new) : l = new ++ rest := by
  induction h with
  | head => rfl
  | tail _ ih => rw [ih]; rfl
theorem toks3 {w : World} {D : List (Addr × Obj)} {v1 v2 v3 : Value} {t1 t2 t3 : TD} (h1 : TokIn w D v1 t1) (h2 : TokIn w D v2 t2) (h3 : TokIn w D v3 t3) : ToksIn w D [v1, v2, v3] [t1, t2, t3] := .cons h1 (.cons h2 (.cons h3 .nil))
theorem tokPlain {w : World} {D : List (Addr × Obj)} {x d atr mt : Addr} {oA : Obj} {kd tag : Str} {t1 t2 t3 : Tok} {nst : Int} {hid : Bool} {u1 u2 u3 u4 u5 u6 u7 : Tok} (h1 : (x, instObj 95 d) ∈ D) (h2 : (d, dictOf (tokEs w.params kd tag t1 t2 nst t3 atr mt hid u1 u2 u3 u4 u5 u6 u7) 7) ∈ D) (h3 : (atr, oA) ∈ D) (he : EmptyD w oA) (hk : kd ∈ kinds) (ht : tag.length ≤ 10) (hs : (atr == sysModules) = false) : TokIn w D (.ref x) (.tok tag nst hid 279) :=
  .tok h1 h2 h3 he.attr hk ht hs
theorem lay_endL {w : World} {h₀ h' : Heap} {L I o : Addr} {oI ob : Obj} {m₀ m' : Str → Option Value} {R T1 tl : List (Addr × Obj)} {vs vs' ovs tvs : List Value} {k r : Kids} {i tk' n' : Nat} {pre : List TD} {s₁ : Shared} {ys : List Str} {N' new : List (Addr × Obj)} {nvs : List Value} (nts : List TD)
    (F' : Fr h₀ L h' m') (hN : News h₀ L h' N') (hin : SplitAt ((I, oI) :: (o, ob) :: T1) N' new) (hM : MapIs (Str.ofString "kid") ys [] m₀ m') (hob : ob = listOf (ovs ++ (tvs ++ nvs)).toArray n') (hTe : tl ++ R = T1) (hnew : ToksIn w new nvs nts) (hlay : lay k = (pre ++ nts) ++ lay r)
    (hle : ∀ p ∈ new, AllLt p.1 T1 ∧ @LT.lt Nat _ o p.1 ∧ @LT.lt Nat _ I p.1) (hT2 : ToksIn w tl tvs pre) (hTo : ∀ p ∈ tl, p.1 ≠ o) (hTR : ∀ p ∈ tl, ∀ q ∈ R, p.1 ≠ q.1) (hIT : ∀ p ∈ T1, p.1 ≠ I) (hIo : @Ne Nat o I)
    (hvs : vs.drop (i + 1) = vs') (hK : KidsIn R vs' r) (hS : r.size ≤ k.size) (hD : r.depth ≤ k.depth) :
    EndT h₀ L (Str.ofString "kid") ys (fun _ => []) (layG o ovs R) m₀ (LayR w R o vs k (i + 1)) I oI s₁ { s₁ with heap := h', toks := tk' } :=
  lay_end new nvs nts F' hN (fun p hp => hin.eq ▸ hp) hM hob hTe hnew hlay (fun p hp => ⟨Nat.ne_of_gt (hle p hp).2.1, Nat.ne_of_gt (hle p hp).2.2, fun q hq => Nat.ne_of_lt (ktn_ltOf (hle p hp).1 q hq)⟩) hT2 hTo hTR hIT hIo hvs hK hS hD

section
local macro_rules | `(tactic| walk_at "call ref") => `(tactic| (k_here; (with_reducible show wpAny _ _ (call (Value.ref 328) [Value.ref _, Value.ref _]) _ _ _); refine stop_here ?_))
local macro_rules | `(tactic| size_fits) => `(tactic| (simp only [List.push_toArray, List.size_toArray, List.length_append, List.length_cons, List.length_nil, sizeLine_eq]; omega))
variable {w : World} {p : Program} {loose : List Str} {mean : ExcName → Option Value} {mg mb : Str → Option Value}
theorem lay_step (k : Kids) (IH : ∀ k', k'.size < k.size → LaySpec w p loose mean mg mb k') : LaySpec w p loose mean mg mb k := by
  unfold LaySpec
  k_fill
  intro dp un gd cn cs a ccd cl outer A₀ base h₀ L m s Q E l o vs ovs nn on R B F X N T hk hl hK hRo hsz hovs hdp hun ht hret
  refine wpAny_call ?_
  k_dflt ktr_enter
  k_steps
  (rename Fr _ _ _ _ => F1)
  (rename News _ _ _ _ => N1)
  (unfold Stopped)
  refine' for_listT (l := l) (vs := vs) (nn := nn) (LayR w R o vs k) (fun _ => []) (layG o ovs R) [Str.ofString "tok", Str.ofString "pair", Str.ofString "shut", Str.ofString "word"] (σ₀ := ⟨[], [], on, [], k⟩) F1 ?N0 (by assumption) ?h0 ?hV ?hev ?hl0 ?turn ?done ?hE
  case N0 => unfold layG; rw [List.append_nil, List.nil_append]; exact N1
  case hV => intro kv hkv; cases hkv
  case h0 => exact ⟨hK, .nil, rfl, fun _ h => (nomatch h), fun _ h => (nomatch h), Nat.le_refl _, Nat.le_refl _⟩
  case hl0 => exact fun i σ hR => List.Mem.tail _ (List.mem_append.mpr (.inr hl))
  case hev => exact fun Q9 h9 => nameX_L F1 rfl h9 rfl rfl
  case hE => passes_own
  case done =>
    clear F1 N1
    rintro ⟨tl, tvs, n, pre, rest⟩ u h tk ⟨hK2, hT2, hL2, hTo, hTR, hS2, hD2⟩ htk F2 N2
    have hnil : vs.drop vs.length = [] := List.drop_length
    dsimp only at hK2 hL2 hT2 hTo hTR
    rw [hnil] at hK2
    cases hK2
    dsimp only [setAll, freeAll] at F2
    have hL3 : lay k = pre := by rw [hL2]; exact List.append_nil _
    dsimp only
    k_steps
    exact hret tl tvs n _ _ (by assumption) (by assumption) (by assumption) (hL3 ▸ hT2) hTo hTR
  case turn =>
    clear F1 N1
    rintro i v ⟨tl, tvs, n, pre, rest⟩ u h tk I oI hv ⟨hK2, hT2, hL2, hTo, hTR, hS2, hD2⟩ htk hne F2 N2
    have hdr : vs.drop i = v :: vs.drop (i + 1) := by
      obtain ⟨hi, rfl⟩ := List.getElem?_eq_some_iff.mp hv
      exact List.drop_eq_getElem_cons hi
    dsimp only at hK2 hL2 hT2 hTo hTR hS2 hD2
    rw [hdr] at hK2
    dsimp only [setAll, freeAll] at F2
    unfold layG at N2 hne
    dsimp only at N2 hne
    have hIo : @Ne Nat o I := hne _ (.head _)
    have hIT : ∀ p ∈ tl ++ R, p.1 ≠ I := fun p hp => hne p (.tail _ hp)
    have hoT : ∀ p ∈ tl ++ R, p.1 ≠ o := fun p hp => (List.mem_append.mp hp).elim (hTo p) (hRo p)
    have hlen2 : ovs.length + tvs.length + (lay rest).length ≤ 1000 := by
      have h1 := hT2.length
      rw [hL2, List.length_append] at hovs
      omega
    have hlen : ovs.length + tvs.length ≤ 1500 := by omega
    generalize hvs : vs.drop (i + 1) = vs' at hK2
    show wpAny _ _ _ _ _ _
    k_fold
    cases hK2 with
    | @words a1 t1 u1 w1 _ r h1 h2 h3 =>
      have h1' : _ ∈ tl ++ R := List.mem_append.mpr (.inr h1)
      dsimp only [Kids.size, Kids.depth] at hS2 hD2
      dsimp only [lay] at hL2
      generalize hTe : tl ++ R = T1 at N2 hIT hoT h1'
      by_cases hw : w1 = Str.ofString ""
      · subst hw
        k_steps
        (repeat (rename _ < _ ∧ _ => hl9; (have hl8 := hl9.2); (have hl7 := hl9.1); clear hl9))
        refine' lay_endL (tl := tl) (pre := pre) [.tok (Str.ofString "p") 1 false 279, .inl _, .tok (Str.ofString "p") (-1) false 279] ?f9wordsa ?n9wordsa ?i9wordsa ?m9wordsa ?b9wordsa hTe ?t9wordsa ?l9wordsa ?e9wordsa hT2 hTo hTR hIT hIo hvs h3 ?z9wordsa ?d9wordsa
        case f9wordsa => assumption
        case n9wordsa => assumption
        case i9wordsa => repeat' (first | with_reducible exact SplitAt.head | with_reducible apply SplitAt.tail)
        case m9wordsa => ktd_rel
        case b9wordsa => (simp only [List.push_toArray, List.append_assoc, List.cons_append, List.nil_append]; rfl)
        case e9wordsa =>
          (repeat' (first | exact List.forall_mem_nil _ | refine List.forall_mem_cons.mpr ⟨⟨?_, ?_, ?_⟩, ?_⟩))
          all_goals (dsimp only; first | with_reducible assumption | exact allLt_of (by assumption) | (refine allLt_trans ?_ (by assumption); assumption) | omega)
        case t9wordsa => (refine' toks3 ?a7words ?b7words ?c7words; (case a7words => (refine' tokPlain ?x1 ?y1 ?z1 ?w1 ?u1 ?v1 ?q1; (case x1 => (repeat' (first | exact List.mem_cons_self | refine List.mem_cons_of_mem _ ?_))); (case y1 => (repeat' (first | exact List.mem_cons_self | refine List.mem_cons_of_mem _ ?_))); (case z1 => (repeat' (first | exact List.mem_cons_self | refine List.mem_cons_of_mem _ ?_))); (case w1 => assumption); (case u1 => decide +kernel); (case v1 => decide +kernel); (case q1 => assumption))); (case b7words => (refine' TokIn.inl ?x4 ?y4 ?z4; (case x4 => (repeat' (first | exact List.mem_cons_self | refine List.mem_cons_of_mem _ ?_))); (case y4 => (repeat' (first | exact List.mem_cons_self | refine List.mem_cons_of_mem _ ?_))); (case z4 => (refine' InlIn.none ?z5; (case z5 => (repeat' (first | exact List.mem_cons_self | refine List.mem_cons_of_mem _ ?_))))))); (case c7words => (refine' tokPlain ?x2 ?y2 ?z2 ?w2 ?u2 ?v2 ?q2; (case x2 => (repeat' (first | exact List.mem_cons_self | refine List.mem_cons_of_mem _ ?_))); (case y2 => (repeat' (first | exact List.mem_cons_self | refine List.mem_cons_of_mem _ ?_))); (case z2 => (repeat' (first | exact List.mem_cons_self | refine List.mem_cons_of_mem _ ?_))); (case w2 => assumption); (case u2 => decide +kernel); (case v2 => decide +kernel); (case q2 => assumption))))
        case l9wordsa => rw [hL2, List.append_assoc]; rfl
        case z9wordsa => omega
        case d9wordsa => exact hD2
      · have hw' : (w1 == Str.ofString "") = false := beq_eq_false_iff_ne.mpr hw
        k_steps
        (repeat (rename _ < _ ∧ _ => hl9; (have hl8 := hl9.2); (have hl7 := hl9.1); clear hl9))
        refine' lay_endL (tl := tl) (pre := pre) [.tok (Str.ofString "p") 1 false 279, .inl _, .tok (Str.ofString "p") (-1) false 279] ?f9wordsb ?n9wordsb ?i9wordsb ?m9wordsb ?b9wordsb hTe ?t9wordsb ?l9wordsb ?e9wordsb hT2 hTo hTR hIT hIo hvs h3 ?z9wordsb ?d9wordsb
        case f9wordsb => assumption
        case n9wordsb => assumption
        case i9wordsb => repeat' (first | with_reducible exact SplitAt.head | with_reducible apply SplitAt.tail)
        case m9wordsb => ktd_rel
        case b9wordsb => (simp only [List.push_toArray, List.append_assoc, List.cons_append, List.nil_append]; rfl)
        case e9wordsb =>
          (repeat' (first | exact List.forall_mem_nil _ | refine List.forall_mem_cons.mpr ⟨⟨?_, ?_, ?_⟩, ?_⟩))
          all_goals (dsimp only; first | with_reducible assumption | exact allLt_of (by assumption) | (refine allLt_trans ?_ (by assumption); assumption) | omega)
        case t9wordsb => (refine' toks3 ?a8words ?b8words ?c8words; (case a8words => (refine' tokPlain ?x1 ?y1 ?z1 ?w1 ?u1 ?v1 ?q1; (case x1 => (repeat' (first | exact List.mem_cons_self | refine List.mem_cons_of_mem _ ?_))); (case y1 => (repeat' (first | exact List.mem_cons_self | refine List.mem_cons_of_mem _ ?_))); (case z1 => (repeat' (first | exact List.mem_cons_self | refine List.mem_cons_of_mem _ ?_))); (case w1 => assumption); (case u1 => decide +kernel); (case v1 => decide +kernel); (case q1 => assumption))); (case b8words => (refine' TokIn.inl ?x4 ?y4 ?z4; (case x4 => (repeat' (first | exact List.mem_cons_self | refine List.mem_cons_of_mem _ ?_))); (case y4 => (repeat' (first | exact List.mem_cons_self | refine List.mem_cons_of_mem _ ?_))); (case z4 => (refine' InlIn.word hw h2 ?z5 ?z6 ?z7; (case z5 => (repeat' (first | exact List.mem_cons_self | refine List.mem_cons_of_mem _ ?_))); (case z6 => (repeat' (first | exact List.mem_cons_self | refine List.mem_cons_of_mem _ ?_))); (case z7 => (repeat' (first | exact List.mem_cons_self | refine List.mem_cons_of_mem _ ?_))))))); (case c8words => (refine' tokPlain ?x2 ?y2 ?z2 ?w2 ?u2 ?v2 ?q2; (case x2 => (repeat' (first | exact List.mem_cons_self | refine List.mem_cons_of_mem _ ?_))); (case y2 => (repeat' (first | exact List.mem_cons_self | refine List.mem_cons_of_mem _ ?_))); (case z2 => (repeat' (first | exact List.mem_cons_self | refine List.mem_cons_of_mem _ ?_))); (case w2 => assumption); (case u2 => decide +kernel); (case v2 => decide +kernel); (case q2 => assumption))))
        case l9wordsb => rw [hL2, List.append_assoc]; rfl
        case z9wordsb => omega
        case d9wordsb => exact hD2
    | @hidden a1 t1 u1 w1 _ r h1 h2 h3 =>
      have h1' : _ ∈ tl ++ R := List.mem_append.mpr (.inr h1)
      dsimp only [Kids.size, Kids.depth] at hS2 hD2
      dsimp only [lay] at hL2
      generalize hTe : tl ++ R = T1 at N2 hIT hoT h1'
      by_cases hw : w1 = Str.ofString ""
      · subst hw
        k_steps
        (repeat (rename _ < _ ∧ _ => hl9; (have hl8 := hl9.2); (have hl7 := hl9.1); clear hl9))
        refine' lay_endL (tl := tl) (pre := pre) [.tok (Str.ofString "p") 1 true 279, .inl _, .tok (Str.ofString "p") (-1) true 279] ?f9hiddena ?n9hiddena ?i9hiddena ?m9hiddena ?b9hiddena hTe ?t9hiddena ?l9hiddena ?e9hiddena hT2 hTo hTR hIT hIo hvs h3 ?z9hiddena ?d9hiddena
        case f9hiddena => assumption
        case n9hiddena => assumption
        case i9hiddena => repeat' (first | with_reducible exact SplitAt.head | with_reducible apply SplitAt.tail)
        case m9hiddena => ktd_rel
        case b9hiddena => (simp only [List.push_toArray, List.append_assoc, List.cons_append, List.nil_append]; rfl)
        case e9hiddena =>
          (repeat' (first | exact List.forall_mem_nil _ | refine List.forall_mem_cons.mpr ⟨⟨?_, ?_, ?_⟩, ?_⟩))
          all_goals (dsimp only; first | with_reducible assumption | exact allLt_of (by assumption) | (refine allLt_trans ?_ (by assumption); assumption) | omega)
        case t9hiddena => (refine' toks3 ?a7hidden ?b7hidden ?c7hidden; (case a7hidden => (refine' tokPlain ?x1 ?y1 ?z1 ?w1 ?u1 ?v1 ?q1; (case x1 => (repeat' (first | exact List.mem_cons_self | refine List.mem_cons_of_mem _ ?_))); (case y1 => (repeat' (first | exact List.mem_cons_self | refine List.mem_cons_of_mem _ ?_))); (case z1 => (repeat' (first | exact List.mem_cons_self | refine List.mem_cons_of_mem _ ?_))); (case w1 => assumption); (case u1 => decide +kernel); (case v1 => decide +kernel); (case q1 => assumption))); (case b7hidden => (refine' TokIn.inl ?x4 ?y4 ?z4; (case x4 => (repeat' (first | exact List.mem_cons_self | refine List.mem_cons_of_mem _ ?_))); (case y4 => (repeat' (first | exact List.mem_cons_self | refine List.mem_cons_of_mem _ ?_))); (case z4 => (refine' InlIn.none ?z5; (case z5 => (repeat' (first | exact List.mem_cons_self | refine List.mem_cons_of_mem _ ?_))))))); (case c7hidden => (refine' tokPlain ?x2 ?y2 ?z2 ?w2 ?u2 ?v2 ?q2; (case x2 => (repeat' (first | exact List.mem_cons_self | refine List.mem_cons_of_mem _ ?_))); (case y2 => (repeat' (first | exact List.mem_cons_self | refine List.mem_cons_of_mem _ ?_))); (case z2 => (repeat' (first | exact List.mem_cons_self | refine List.mem_cons_of_mem _ ?_))); (case w2 => assumption); (case u2 => decide +kernel); (case v2 => decide +kernel); (case q2 => assumption))))
        case l9hiddena => rw [hL2, List.append_assoc]; rfl
        case z9hiddena => omega
        case d9hiddena => exact hD2
      · have hw' : (w1 == Str.ofString "") = false := beq_eq_false_iff_ne.mpr hw
        k_steps
        (repeat (rename _ < _ ∧ _ => hl9; (have hl8 := hl9.2); (have hl7 := hl9.1); clear hl9))
        refine' lay_endL (tl := tl) (pre := pre) [.tok (Str.ofString "p") 1 true 279, .inl _, .tok (Str.ofString "p") (-1) true 279] ?f9hiddenb ?n9hiddenb ?i9hiddenb ?m9hiddenb ?b9hiddenb hTe ?t9hiddenb ?l9hiddenb ?e9hiddenb hT2 hTo hTR hIT hIo hvs h3 ?z9hiddenb ?d9hiddenb
        case f9hiddenb => assumption
        case n9hiddenb => assumption
        case i9hiddenb => repeat' (first | with_reducible exact SplitAt.head | with_reducible apply SplitAt.tail)
        case m9hiddenb => ktd_rel
        case b9hiddenb => (simp only [List.push_toArray, List.append_assoc, List.cons_append, List.nil_append]; rfl)
        case e9hiddenb =>
          (repeat' (first | exact List.forall_mem_nil _ | refine List.forall_mem_cons.mpr ⟨⟨?_, ?_, ?_⟩, ?_⟩))
          all_goals (dsimp only; first | with_reducible assumption | exact allLt_of (by assumption) | (refine allLt_trans ?_ (by assumption); assumption) | omega)
        case t9hiddenb => (refine' toks3 ?a8hidden ?b8hidden ?c8hidden; (case a8hidden => (refine' tokPlain ?x1 ?y1 ?z1 ?w1 ?u1 ?v1 ?q1; (case x1 => (repeat' (first | exact List.mem_cons_self | refine List.mem_cons_of_mem _ ?_))); (case y1 => (repeat' (first | exact List.mem_cons_self | refine List.mem_cons_of_mem _ ?_))); (case z1 => (repeat' (first | exact List.mem_cons_self | refine List.mem_cons_of_mem _ ?_))); (case w1 => assumption); (case u1 => decide +kernel); (case v1 => decide +kernel); (case q1 => assumption))); (case b8hidden => (refine' TokIn.inl ?x4 ?y4 ?z4; (case x4 => (repeat' (first | exact List.mem_cons_self | refine List.mem_cons_of_mem _ ?_))); (case y4 => (repeat' (first | exact List.mem_cons_self | refine List.mem_cons_of_mem _ ?_))); (case z4 => (refine' InlIn.word hw h2 ?z5 ?z6 ?z7; (case z5 => (repeat' (first | exact List.mem_cons_self | refine List.mem_cons_of_mem _ ?_))); (case z6 => (repeat' (first | exact List.mem_cons_self | refine List.mem_cons_of_mem _ ?_))); (case z7 => (repeat' (first | exact List.mem_cons_self | refine List.mem_cons_of_mem _ ?_))))))); (case c8hidden => (refine' tokPlain ?x2 ?y2 ?z2 ?w2 ?u2 ?v2 ?q2; (case x2 => (repeat' (first | exact List.mem_cons_self | refine List.mem_cons_of_mem _ ?_))); (case y2 => (repeat' (first | exact List.mem_cons_self | refine List.mem_cons_of_mem _ ?_))); (case z2 => (repeat' (first | exact List.mem_cons_self | refine List.mem_cons_of_mem _ ?_))); (case w2 => assumption); (case u2 => decide +kernel); (case v2 => decide +kernel); (case q2 => assumption))))
        case l9hiddenb => rw [hL2, List.append_assoc]; rfl
        case z9hiddenb => omega
        case d9hiddenb => exact hD2
    | @rule a1 t1 _ r h1 h2 =>
      have h1' : _ ∈ tl ++ R := List.mem_append.mpr (.inr h1)
      dsimp only [Kids.size, Kids.depth] at hS2 hD2
      dsimp only [lay] at hL2
      generalize hTe : tl ++ R = T1 at N2 hIT hoT h1'
      k_steps
      refine' lay_endL (tl := tl) (pre := pre) [.tok (Str.ofString "hr") 0 false 279] ?f9r ?n9r ?i9r ?m9r ?b9r hTe ?t9r ?l9r ?e9r hT2 hTo hTR hIT hIo hvs h2 ?z9r ?d9r
      case f9r => assumption
      case n9r => assumption
      case i9r => repeat' (first | with_reducible exact SplitAt.head | with_reducible apply SplitAt.tail)
      case m9r => ktd_rel
      case b9r => (simp only [List.push_toArray, List.append_assoc, List.cons_append, List.nil_append]; rfl)
      case e9r =>
        (repeat' (first | exact List.forall_mem_nil _ | refine List.forall_mem_cons.mpr ⟨⟨?_, ?_, ?_⟩, ?_⟩))
        all_goals (dsimp only; first | with_reducible assumption | exact allLt_of (by assumption) | (refine allLt_trans ?_ (by assumption); assumption) | omega)
      case t9r => (refine' ToksIn.cons ?a6 .nil; (case a6 => (refine' tokPlain ?x3 ?y3 ?z3 ?w3 ?u3 ?v3 ?q3; (case x3 => (repeat' (first | exact List.mem_cons_self | refine List.mem_cons_of_mem _ ?_))); (case y3 => (repeat' (first | exact List.mem_cons_self | refine List.mem_cons_of_mem _ ?_))); (case z3 => (repeat' (first | exact List.mem_cons_self | refine List.mem_cons_of_mem _ ?_))); (case w3 => assumption); (case u3 => decide +kernel); (case v3 => decide +kernel); (case q3 => assumption))))
      case l9r => rw [hL2, List.append_assoc]; rfl
      case z9r => omega
      case d9r => exact hD2
    | @box a1 b1 i1 t1 u1 n1 tag vi _ k1 r h1 h2 h3 h4 h5 h6 =>
      have h1' : _ ∈ tl ++ R := List.mem_append.mpr (.inr h1)
      have h4' : _ ∈ tl ++ R := List.mem_append.mpr (.inr h4)
      have h5' : KidsIn (tl ++ R) vi k1 := h5.mono fun p hp => List.mem_append.mpr (.inr hp)
      have htag := len_tag h2
      dsimp only [Kids.size, Kids.depth] at hS2 hD2
      dsimp only [lay] at hL2 hlen2
      simp only [List.length_cons, List.length_append] at hlen2
      have hTin : ∀ p ∈ R, p ∈ tl ++ R := fun p hp => List.mem_append.mpr (.inr hp)
      generalize hTe : tl ++ R = T1 at N2 hIT hoT h1' h4' h5' hTin
      have hset := setIs_of (by assumption) h3
      obtain ⟨as, hI1, hlen1, hpr⟩ := hset
      have hfor : ForMark := ⟨⟩
      k_steps
      clear hfor
      (rename Fr _ _ _ _ => F3)
      (rename News _ _ _ _ => N3)
      unfold Stopped
      rename_i x5 d5 a5 m5 oA5 oM5 _ _ _ _ _ _ _ _ _ _ e5 _ _ _ _ _ _ _ _ _ _ _ _ _ _ _ _ _ _ _ _ _ _
      refine' iter_tupT (σ := Obj) (fun j σ => AttrIs w σ ((attrsOf i1).take j)) (fun _ => []) (fun σ => (m5, oM5) :: (a5, σ) :: (x5, instObj 95 d5) :: (d5, _) :: (I, oI) :: (o, _) :: T1) [] (σ₀ := oA5) ?hx9 ?hp9 ?hh9 hI1 F3 N3 ?ht9 ?h09 ?hV9 ?hE9 ?turn9 ?done9
      case hx9 => exact rfl
      case hp9 => exact rfl
      case hh9 => exact rfl
      case ht9 => tb_start
      case h09 => exact e5.attr
      case hV9 => k_intsEnd
      case hE9 => passes_own
      case turn9 =>
        clear F3 N3
        rintro j v o9 u9 h9 tk9 I9 oI9 hv9 hR9 htk9 hn9 F9 N9
        obtain ⟨a9, ha9, rfl⟩ : ∃ a9, as[j]? = some a9 ∧ v = .ref a9 := by
          rw [List.getElem?_map] at hv9
          cases e : as[j]? with
          | none => rw [e] at hv9; cases hv9
          | some a9 => rw [e] at hv9; exact ⟨a9, rfl, (Option.some.inj hv9).symm⟩
        obtain ⟨p9, hp9, t8, v8, hT9, hv8⟩ := hpr j a9 ha9
        have hfr9 := attr_fresh hp9
        have hl9 : ((attrsOf i1).take j).length ≤ 1000 := by have := attrsOf_len i1; rw [List.length_take]; omega
        have hv9' : VIs v8 p9.2 := hv8
        have hm9 : @Ne Nat m5 I9 := hn9 _ (.head _)
        have ha9' : @Ne Nat a5 I9 := hn9 _ (.tail _ (.head _))
        have hx9 : @Ne Nat x5 I9 := hn9 _ (.tail _ (.tail _ (.head _)))
        have hd9 : @Ne Nat d5 I9 := hn9 _ (.tail _ (.tail _ (.tail _ (.head _))))
        dsimp only [setAll, freeAll] at F9
        k_steps
        refine' EndT.mk' ?o8 ?f9 ?n9 ?hI9 ?hG9 ?hn9 ?R9 ?M9
        case f9 => assumption
        case n9 => assumption
        case M9 => ktd_rel
        case R9 => rw [attrTake_succ hp9]; assumption
        case hI9 => exact .head _
        case hG9 => exact fun p hp => .tail _ hp
        case hn9 => exact List.forall_mem_cons.mpr ⟨hn9 _ (.head _), List.forall_mem_cons.mpr ⟨ha9', fun p hp => hn9 p (.tail _ (.tail _ hp))⟩⟩
      case done9 =>
        clear F3 N3
        rintro o9 u9 h9 tk9 hR9 htk9 F9 N9
        have hA9 : AttrIs w o9 (attrsOf i1) := by
          have h8 := hR9
          rw [List.length_map, hlen1, List.take_length] at h8
          exact h8
        dsimp only [setAll, freeAll] at F9
        k_steps
        unfold Stopped
        (rename Fr _ _ _ _ => F4)
        (rename News _ _ _ _ => N4)
        have hd1 : k1.depth + 1 ≤ k.depth := by omega
        rw [List.push_toArray] at N4
        have hN5 : News _ _ _ ((o, listOf ((ovs ++ tvs) ++ [Value.ref x5]).toArray (n + 1)) :: ((m5, oM5) :: (a5, o9) :: (x5, instObj 95 d5) :: (d5, _) :: (I, oI) :: T1)) := N4.perm (fun p hp => (List.perm_middle (l₁ := [_, _, _, _, _])).mem_iff.mpr hp)
        k_dflt (refine' IH k1 ?ilt _ _ _ _ _ _ _ _ _ _ _ _ _ _ _ _ _ b1 o vi ((ovs ++ tvs) ++ [Value.ref x5]) n1 (n + 1) _ ?iB F4 ?iX hN5 ?iT ?ik ?il ?iK ?iR ?isz ?iov ?idp ?iun ?it ?_)
        case ilt => omega
        case iB => k_asm
        case iX => k_asm
        case iT => k_asm
        case ik => first | exact rfl | assumption
        case il => k_mem
        case iK => exact h5'.mono fun p hp => .tail _ (.tail _ (.tail _ (.tail _ (.tail _ hp))))
        case iR =>
          refine List.forall_mem_cons.mpr ⟨?_, List.forall_mem_cons.mpr ⟨?_, List.forall_mem_cons.mpr ⟨?_, List.forall_mem_cons.mpr ⟨?_, List.forall_mem_cons.mpr ⟨?_, hoT⟩⟩⟩⟩⟩
          all_goals (refine neN ?_; dsimp only; omega)
        case isz => omega
        case iov => simp only [List.length_append, List.length_cons, List.length_nil]; omega
        case idp => ktr_room
        case iun => ktr_units
        case it => tb_start
        intro tl8 tvs8 n8 h8 tk8 htk8 F8 N8 hT8 hTo8 hTR8
        clear F4 N4 hN5
        generalize hT2e : tl8 ++ ((m5, oM5) :: (a5, o9) :: (x5, instObj 95 d5) :: (d5, _) :: (I, oI) :: T1) = T2 at N8
        have hT2o : ∀ p ∈ T2, p.1 ≠ o := by
          subst hT2e
          intro p hp
          rcases List.mem_append.mp hp with hp | hp
          · exact hTo8 p hp
          · refine (List.forall_mem_cons.mpr ⟨?_, List.forall_mem_cons.mpr ⟨?_, List.forall_mem_cons.mpr ⟨?_, List.forall_mem_cons.mpr ⟨?_, List.forall_mem_cons.mpr ⟨?_, hoT⟩⟩⟩⟩⟩ : ∀ p ∈ _, _) p hp
            all_goals (refine neN ?_; dsimp only; omega)
        have hT2I : (I, oI) ∈ T2 := hT2e ▸ List.mem_append.mpr (.inr (.tail _ (.tail _ (.tail _ (.tail _ (.head _))))))
        have hT21 : ∀ q ∈ T1, q ∈ T2 := fun q hq => hT2e ▸ List.mem_append.mpr (.inr (.tail _ (.tail _ (.tail _ (.tail _ (.tail _ hq))))))
        have h1'' := hT21 _ h1'
        have hlen8 : tvs8.length = (lay k1).length := hT8.length
        k_steps
        (rename Fr _ _ _ _ => F6)
        (rename News _ _ _ _ => N6)
        rename_i x7 d7 a7 m7 oA7 oM7 _ _ _ _ _ _ _ _ _ _ e7 _ _ _ _ _ _ _ _ _ _ _ _ _ _ _ _ _ _ _ _
        subst hT2e
        refine' lay_end (tl := tl) (pre := pre) ([_, _, _, _] ++ (tl8 ++ [(m5, oM5), (a5, o9), (x5, instObj 95 d5), (d5, _)])) (Value.ref x5 :: (tvs8 ++ [Value.ref x7])) (TD.tok tag 1 false i1 :: (lay k1 ++ [TD.tok tag (-1) false 279])) F6 N6 (fun p hp => mem_re hp) ?m9b ?b9b hTe ?t9b ?l9b ?s9b hT2 hTo hTR hIT hIo hvs h6 ?z9b ?d9b
        case m9b => ktd_rel
        case b9b => (simp only [List.push_toArray, List.append_assoc, List.cons_append, List.nil_append]; rfl)
        case t9b =>
          refine' ToksIn.cons (TokIn.tok (x := x5) (d := d5) (atr := a5) (oA := o9) ?u1 ?u2 ?u3 hA9 (kind_open h2) htag (by assumption)) ((hT8.mono ?u4).append (.cons (tokPlain (x := x7) (d := d7) (atr := a7) (oA := oA7) ?u5 ?u6 ?u7 e7 (kind_close h2) htag (by assumption)) .nil))
          case u1 => exact List.mem_append.mpr (.inr (List.mem_append.mpr (.inr (by (repeat' (first | exact List.mem_cons_self | refine List.mem_cons_of_mem _ ?_))))))
          case u2 => exact List.mem_append.mpr (.inr (List.mem_append.mpr (.inr (by (repeat' (first | exact List.mem_cons_self | refine List.mem_cons_of_mem _ ?_))))))
          case u3 => exact List.mem_append.mpr (.inr (List.mem_append.mpr (.inr (by (repeat' (first | exact List.mem_cons_self | refine List.mem_cons_of_mem _ ?_))))))
          case u4 => exact fun p hp => List.mem_append.mpr (.inr (List.mem_append.mpr (.inl hp)))
          case u5 => exact List.mem_append.mpr (.inl (by (repeat' (first | exact List.mem_cons_self | refine List.mem_cons_of_mem _ ?_))))
          case u6 => exact List.mem_append.mpr (.inl (by (repeat' (first | exact List.mem_cons_self | refine List.mem_cons_of_mem _ ?_))))
          case u7 => exact List.mem_append.mpr (.inl (by (repeat' (first | exact List.mem_cons_self | refine List.mem_cons_of_mem _ ?_))))
        case l9b => rw [hL2]; simp only [List.append_assoc, List.cons_append, List.nil_append]
        case s9b =>
          intro p hp
          rcases List.mem_append.mp hp with hp | hp
          · refine (List.forall_mem_cons.mpr ⟨?_, List.forall_mem_cons.mpr ⟨?_, List.forall_mem_cons.mpr ⟨?_, List.forall_mem_cons.mpr ⟨?_, List.forall_mem_nil _⟩⟩⟩⟩ : ∀ p ∈ [_, _, _, _], p.1 ≠ o ∧ p.1 ≠ I ∧ ∀ q ∈ T1, q.1 ≠ p.1) p hp
            all_goals exact sepNew (by assumption) (by assumption) hT2I hT21
          · rcases List.mem_append.mp hp with hp | hp
            · exact ⟨hTo8 p hp, hTR8 p hp (I, oI) (.tail _ (.tail _ (.tail _ (.tail _ (.head _))))), fun q hq => Ne.symm (hTR8 p hp q (.tail _ (.tail _ (.tail _ (.tail _ (.tail _ hq))))))⟩
            · refine (List.forall_mem_cons.mpr ⟨?_, List.forall_mem_cons.mpr ⟨?_, List.forall_mem_cons.mpr ⟨?_, List.forall_mem_cons.mpr ⟨?_, List.forall_mem_nil _⟩⟩⟩⟩ : ∀ p ∈ [_, _, _, _], p.1 ≠ o ∧ p.1 ≠ I ∧ ∀ q ∈ T1, q.1 ≠ p.1) p hp
              all_goals exact sepOld (by assumption) (by assumption) (by assumption)
        case z9b => omega
        case d9b => omega
theorem lay_spec (k : Kids) : LaySpec w p loose mean mg mb k := by
  have all : ∀ n, ∀ k : Kids, k.size < n → LaySpec w p loose mean mg mb k := by
    intro n
    induction n with
    | zero => intro k h; exact absurd h (Nat.not_lt_zero _)
    | succ n ih => exact fun k h => lay_step k fun k' h' => ih k' (Nat.lt_of_lt_of_le h' (Nat.le_of_lt_succ h))
  exact all _ k (Nat.lt_succ_self _)
end

/-! _law_tree -/
theorem kids_depth_size (k : Kids) : k.depth ≤ k.size := by
  induction k with
  | nil => exact Nat.le_refl _
  | words w r ih => simp only [Kids.depth, Kids.size]; omega
  | hidden w r ih => simp only [Kids.depth, Kids.size]; omega
  | rule r ih => simp only [Kids.depth, Kids.size]; omega
  | box t i k r ih1 ih2 => simp only [Kids.depth, Kids.size]; omega
def Kids.app : Kids → Kids → Kids
  | .nil, q => q
  | .words w r, q => .words w (r.app q)
  | .hidden w r, q => .hidden w (r.app q)
  | .rule r, q => .rule (r.app q)
  | .box t i k r, q => .box t i k (r.app q)
theorem Kids.app_size (a b : Kids) : (a.app b).size = a.size + b.size := by
  induction a with
  | nil => simp only [Kids.app, Kids.size]; omega
  | words w r ih => simp only [Kids.app, Kids.size]; omega
  | hidden w r ih => simp only [Kids.app, Kids.size]; omega
  | rule r ih => simp only [Kids.app, Kids.size]; omega
  | box t i k r _ ih => simp only [Kids.app, Kids.size]; omega
theorem KidsIn.append {D : List (Addr × Obj)} {a b : List Value} {k q : Kids} (h : KidsIn D a k) (h2 : KidsIn D b q) : KidsIn D (a ++ b) (k.app q) := by
  induction h with
  | nil => exact h2
  | words h1 h3 _ ih => exact .words h1 h3 ih
  | hidden h1 h3 _ ih => exact .hidden h1 h3 ih
  | rule h1 _ ih => exact .rule h1 ih
  | box h1 h3 h4 h5 h6 _ _ ih => exact .box h1 h3 h4 h5 h6 ih

/-- an open list that is not the innermost -/
structure OpenF where
  b : Addr
  vs : List Value
  n : Nat
def OpenF.ent (f : OpenF) : Addr × Obj := (f.b, listOf f.vs.toArray f.n)
/-- the open boxes: g the innermost list's address; sz counts what stands in the outer ones -/
inductive ZipIn (D : List (Addr × Obj)) (root : Addr) : Addr → List OpenF → Nat → Prop where
  | top : ZipIn D root root [] 0
  | down {g b a i : Addr} {t u : Tok} {tag : Str} {cvs : List Value} {n sz : Nat} {k : Kids} {outs : List OpenF} : KidsIn D cvs k → (a, listOf [.str (Str.ofString "box") t, .str tag u, .ref i, .ref g].toArray 0) ∈ D → tag ∈ tags5 → i ∈ sets7 →
      ZipIn D root b outs sz → ZipIn D root g (⟨b, cvs ++ [Value.ref a], n⟩ :: outs) (sz + k.size + 1)
theorem KidsIn.length_le {D : List (Addr × Obj)} {vs : List Value} {k : Kids} (h : KidsIn D vs k) : vs.length ≤ k.size := by
  induction h with
  | nil => exact Nat.le_refl _
  | words _ _ _ ih => simp only [List.length_cons, Kids.size]; omega
  | hidden _ _ _ ih => simp only [List.length_cons, Kids.size]; omega
  | rule _ _ ih => simp only [List.length_cons, Kids.size]; omega
  | box _ _ _ _ _ _ _ ih => simp only [List.length_cons, Kids.size]; omega
theorem ZipIn.mono {D D' : List (Addr × Obj)} {root g : Addr} {outs : List OpenF} {sz : Nat} (h : ZipIn D root g outs sz) (hs : ∀ p ∈ D, p ∈ D') : ZipIn D' root g outs sz := by
  induction h with
  | top => exact .top
  | down h1 h2 h3 h4 _ ih => exact .down (h1.mono hs) (hs _ h2) h3 h4 ih
/-- all boxes closed -/
theorem ZipIn.close {D : List (Addr × Obj)} {root g : Addr} {outs : List OpenF} {sz : Nat} (h : ZipIn D root g outs sz) : ∀ (D' : List (Addr × Obj)) (gvs : List Value) (gn : Nat) (k : Kids), (∀ p ∈ D, p ∈ D') → (∀ f ∈ outs, OpenF.ent f ∈ D') → (g, listOf gvs.toArray gn) ∈ D' → KidsIn D' gvs k →
    ∃ rvs rn rk, (root, listOf rvs.toArray rn) ∈ D' ∧ KidsIn D' rvs rk ∧ rk.size = k.size + sz := by
  induction h with
  | top => exact fun D' gvs gn k _ _ h3 h4 => ⟨gvs, gn, k, h3, h4, (Nat.add_zero _).symm⟩
  | @down g b a i t u tag cvs n sz k0 outs h1 h2 h3 h4 _ ih =>
    intro D' gvs gn k hs ho hg hk
    obtain ⟨rvs, rn, rk, e1, e2, e3⟩ := ih D' (cvs ++ [Value.ref a]) n (k0.app (.box tag i k .nil)) hs (fun f hf => ho f (.tail _ hf)) (ho ⟨b, cvs ++ [Value.ref a], n⟩ (List.mem_cons_self)) ((h1.mono hs).append (.box (hs _ h2) h3 h4 hg hk .nil))
    refine ⟨rvs, rn, rk, e1, e2, ?_⟩
    rw [e3, Kids.app_size]; simp only [Kids.size]; omega

structure TreeS where
  pn : Nat
  g : Addr
  gvs : List Value
  gn : Nat
  outs : List OpenF
  D : List (Addr × Obj)
def pathOf (outs : List OpenF) : List Value := (outs.map fun f => Value.ref f.b).reverse
def TreeR (root pa : Addr) (news : List (Addr × Obj)) (i : Nat) (σ : TreeS) : Prop :=
  ∃ k sz, KidsIn σ.D σ.gvs k ∧ ZipIn σ.D root σ.g σ.outs sz ∧ k.size + sz ≤ i ∧ σ.outs.length ≤ 4 ∧ (pa :: σ.g :: σ.outs.map OpenF.b).Nodup ∧ ∀ p ∈ σ.D ++ news, p.1 ∉ pa :: σ.g :: σ.outs.map OpenF.b
def treeG (pa : Addr) (news : List (Addr × Obj)) (σ : TreeS) : List (Addr × Obj) :=
  (pa, listOf (pathOf σ.outs ++ [Value.ref σ.g]).toArray σ.pn) :: (σ.g, listOf σ.gvs.toArray σ.gn) :: (σ.outs.map OpenF.ent ++ (σ.D ++ news))

section
variable {h₀ h' : Heap} {L I pa root : Addr} {oI : Obj} {m₀ m' : Str → Option Value} {news N' : List (Addr × Obj)} {i tk' : Nat} {s₁ : Shared} {ys : List Str} {σ : TreeS}
/-- nothing changed -/
theorem tree_same (F' : Fr h₀ L h' m') (hN : News h₀ L h' N') (hin : ∀ p ∈ (I, oI) :: treeG pa news σ, p ∈ N') (hne : ∀ p ∈ treeG pa news σ, p.1 ≠ I) (hM : MapIs (Str.ofString "n") ys [] m₀ m') (hR : TreeR root pa news i σ) :
    EndT h₀ L (Str.ofString "n") ys (fun _ => []) (treeG pa news) m₀ (TreeR root pa news (i + 1)) I oI s₁ { s₁ with heap := h', toks := tk' } := by
  obtain ⟨k, sz, h1, h2, h3, h5, h6, h7⟩ := hR
  exact EndT.mk' σ F' hN (hin _ (.head _)) (fun p hp => hin p (.tail _ hp)) hne ⟨k, sz, h1, h2, Nat.le_succ_of_le h3, h5, h6, h7⟩ hM
/-- a leaf added to the innermost list -/
theorem tree_leaf {a gn' : Nat} {oa og : Obj} {k1 : Kids} (F' : Fr h₀ L h' m') (hN : News h₀ L h' N') (hin : ∀ p ∈ (a, oa) :: (I, oI) :: (pa, listOf (pathOf σ.outs ++ [Value.ref σ.g]).toArray σ.pn) :: (σ.g, og) :: (σ.outs.map OpenF.ent ++ (σ.D ++ news)), p ∈ N')
    (hog : og = listOf (σ.gvs ++ [Value.ref a]).toArray gn') (hk1 : KidsIn [(a, oa)] [.ref a] k1) (hs1 : k1.size = 1) (haI : @LT.lt Nat _ I a) (hap : @LT.lt Nat _ pa a) (hag : @LT.lt Nat _ σ.g a) (hall : AllLt a (σ.outs.map OpenF.ent ++ (σ.D ++ news)))
    (hne : ∀ p ∈ treeG pa news σ, p.1 ≠ I) (hM : MapIs (Str.ofString "n") ys [] m₀ m') (hR : TreeR root pa news i σ) :
    EndT h₀ L (Str.ofString "n") ys (fun _ => []) (treeG pa news) m₀ (TreeR root pa news (i + 1)) I oI s₁ { s₁ with heap := h', toks := tk' } := by
  obtain ⟨k, sz, h1, h2, h3, h5, h6, h7⟩ := hR
  subst hog
  have hD : ∀ p ∈ σ.D, p ∈ (a, oa) :: σ.D := fun p hp => .tail _ hp
  have hout : ∀ f ∈ σ.outs, @LT.lt Nat _ f.b a := fun f hf => ktn_ltOf hall f.ent (List.mem_append.mpr (.inl (List.mem_map.mpr ⟨f, hf, rfl⟩)))
  refine EndT.mk' { σ with gvs := σ.gvs ++ [Value.ref a], gn := gn', D := (a, oa) :: σ.D } F' hN (hin _ (.tail _ (.head _))) ?_ ?_ ⟨k.app k1, sz, (h1.mono hD).append (hk1.mono fun p hp => List.mem_singleton.mp hp ▸ .head _), h2.mono hD, ?_, h5, h6, ?_⟩ hM
  · intro p hp
    refine hin p ?_
    rcases List.mem_cons.mp hp with h | hp
    · exact h ▸ .tail _ (.tail _ (.head _))
    · rcases List.mem_cons.mp hp with h | hp
      · exact h ▸ .tail _ (.tail _ (.tail _ (.head _)))
      · rcases List.mem_append.mp hp with hp | hp
        · exact .tail _ (.tail _ (.tail _ (.tail _ (List.mem_append.mpr (.inl hp)))))
        · rcases List.mem_cons.mp hp with h | hp
          · exact h ▸ .head _
          · exact .tail _ (.tail _ (.tail _ (.tail _ (List.mem_append.mpr (.inr hp)))))
  · have n1 : @Ne Nat pa I := hne _ (.head _)
    have n2 : @Ne Nat σ.g I := hne _ (.tail _ (.head _))
    have n3 : ∀ p ∈ σ.outs.map OpenF.ent ++ (σ.D ++ news), p.1 ≠ I := fun p hp => hne p (.tail _ (.tail _ hp))
    refine List.forall_mem_cons.mpr ⟨n1, List.forall_mem_cons.mpr ⟨n2, fun p hp => ?_⟩⟩
    rcases List.mem_append.mp hp with hp | hp
    · exact n3 p (List.mem_append.mpr (.inl hp))
    · rcases List.mem_cons.mp hp with h | hp
      · rw [h]; exact Nat.ne_of_gt haI
      · exact n3 p (List.mem_append.mpr (.inr hp))
  · rw [Kids.app_size, hs1]; omega
  · intro p hp
    rcases List.mem_cons.mp hp with rfl | hp
    · intro hm
      simp only [List.mem_cons, List.mem_map] at hm
      rcases hm with h | h | ⟨f, hf, h⟩
      · exact absurd hap (by show ¬ @LT.lt Nat _ pa a; rw [h]; exact Nat.lt_irrefl _)
      · exact absurd hag (by show ¬ @LT.lt Nat _ σ.g a; rw [h]; exact Nat.lt_irrefl _)
      · exact absurd (hout f hf) (by rw [h]; exact Nat.lt_irrefl _)
    · exact h7 p hp
/-- a box opened -/
theorem tree_push {a c gn' pn' : Nat} {oa og op : Obj} {tag : Str} {i1 : Addr} {t1 t2 : Tok} {cn : Nat} (F' : Fr h₀ L h' m') (hN : News h₀ L h' N') (hin : ∀ p ∈ (a, oa) :: (c, listOf ([] : List Value).toArray cn) :: (I, oI) :: (pa, op) :: (σ.g, og) :: (σ.outs.map OpenF.ent ++ (σ.D ++ news)), p ∈ N')
    (hog : og = listOf (σ.gvs ++ [Value.ref a]).toArray gn') (hop : op = listOf ((pathOf σ.outs ++ [Value.ref σ.g]) ++ [Value.ref c]).toArray pn') (hoa : oa = listOf [.str (Str.ofString "box") t1, .str tag t2, .ref i1, .ref c].toArray 0) (htag : tag ∈ tags5) (hset : i1 ∈ sets7)
    (haI : @LT.lt Nat _ I a) (hap : @LT.lt Nat _ pa a) (hag : @LT.lt Nat _ σ.g a) (hac : @LT.lt Nat _ c a) (hcI : @LT.lt Nat _ I c) (hcp : @LT.lt Nat _ pa c) (hcg : @LT.lt Nat _ σ.g c) (halla : AllLt a (σ.outs.map OpenF.ent ++ (σ.D ++ news))) (hallc : AllLt c (σ.outs.map OpenF.ent ++ (σ.D ++ news))) (hlt : σ.outs.length < 4)
    (hne : ∀ p ∈ treeG pa news σ, p.1 ≠ I) (hM : MapIs (Str.ofString "n") ys [] m₀ m') (hR : TreeR root pa news i σ) :
    EndT h₀ L (Str.ofString "n") ys (fun _ => []) (treeG pa news) m₀ (TreeR root pa news (i + 1)) I oI s₁ { s₁ with heap := h', toks := tk' } := by
  obtain ⟨k, sz, h1, h2, h3, h5, h6, h7⟩ := hR
  subst hog hop hoa
  have hD : ∀ p ∈ σ.D, p ∈ (a, listOf [.str (Str.ofString "box") t1, .str tag t2, .ref i1, .ref c].toArray 0) :: σ.D := fun p hp => .tail _ hp
  have houta : ∀ f ∈ σ.outs, @LT.lt Nat _ f.b a := fun f hf => ktn_ltOf halla f.ent (List.mem_append.mpr (.inl (List.mem_map.mpr ⟨f, hf, rfl⟩)))
  have houtc : ∀ f ∈ σ.outs, @LT.lt Nat _ f.b c := fun f hf => ktn_ltOf hallc f.ent (List.mem_append.mpr (.inl (List.mem_map.mpr ⟨f, hf, rfl⟩)))
  refine EndT.mk' { pn := pn', g := c, gvs := [], gn := cn, outs := ⟨σ.g, σ.gvs ++ [Value.ref a], gn'⟩ :: σ.outs, D := (a, listOf [.str (Str.ofString "box") t1, .str tag t2, .ref i1, .ref c].toArray 0) :: σ.D } F' hN (hin _ (.tail _ (.tail _ (.head _)))) ?_ ?_
    ⟨.nil, sz + k.size + 1, .nil, .down (h1.mono hD) (.head _) htag hset (h2.mono hD), ?_, ?_, ?_, ?_⟩ hM
  · intro p hp
    refine hin p ?_
    rcases List.mem_cons.mp hp with h | hp
    · rw [h]; simp only [pathOf, List.map_cons, List.reverse_cons]; exact .tail _ (.tail _ (.tail _ (.head _)))
    · rcases List.mem_cons.mp hp with h | hp
      · exact h ▸ .tail _ (.head _)
      · rcases List.mem_append.mp hp with hp | hp
        · rcases List.mem_cons.mp hp with h | hp
          · exact h ▸ .tail _ (.tail _ (.tail _ (.tail _ (.head _))))
          · exact .tail _ (.tail _ (.tail _ (.tail _ (.tail _ (List.mem_append.mpr (.inl hp))))))
        · rcases List.mem_cons.mp hp with h | hp
          · exact h ▸ .head _
          · exact .tail _ (.tail _ (.tail _ (.tail _ (.tail _ (List.mem_append.mpr (.inr hp))))))
  · have n1 : @Ne Nat pa I := hne _ (.head _)
    have n2 : @Ne Nat σ.g I := hne _ (.tail _ (.head _))
    have n3 : ∀ p ∈ σ.outs.map OpenF.ent ++ (σ.D ++ news), p.1 ≠ I := fun p hp => hne p (.tail _ (.tail _ hp))
    refine List.forall_mem_cons.mpr ⟨n1, List.forall_mem_cons.mpr ⟨Nat.ne_of_gt hcI, fun p hp => ?_⟩⟩
    rcases List.mem_append.mp hp with hp | hp
    · rcases List.mem_cons.mp hp with h | hp
      · rw [h]; exact n2
      · exact n3 p (List.mem_append.mpr (.inl hp))
    · rcases List.mem_cons.mp hp with h | hp
      · rw [h]; exact Nat.ne_of_gt haI
      · exact n3 p (List.mem_append.mpr (.inr hp))
  · simp only [Kids.size]; omega
  · show σ.outs.length + 1 ≤ 4; omega
  · show (pa :: c :: σ.g :: σ.outs.map OpenF.b).Nodup
    have h8 := List.nodup_cons.mp h6
    refine List.nodup_cons.mpr ⟨?_, List.nodup_cons.mpr ⟨?_, h8.2⟩⟩
    · intro hm
      rcases List.mem_cons.mp hm with h | hm
      · exact Nat.ne_of_lt hcp h
      · exact h8.1 hm
    · intro hm
      rcases List.mem_cons.mp hm with h | hm
      · exact Nat.ne_of_gt hcg h
      · obtain ⟨f, hf, h⟩ := List.mem_map.mp hm
        exact Nat.ne_of_lt (houtc f hf) h
  · show ∀ p : Addr × Obj, p ∈ _ → p.1 ∉ pa :: c :: σ.g :: σ.outs.map OpenF.b
    intro p hp hm
    rcases List.mem_cons.mp hp with rfl | hp
    · simp only [List.mem_cons, List.mem_map] at hm
      rcases hm with h | h | h | ⟨f, hf, h⟩
      · exact Nat.ne_of_gt hap h
      · exact Nat.ne_of_gt hac h
      · exact Nat.ne_of_gt hag h
      · exact Nat.ne_of_lt (houta f hf) h
    · have hpc : @LT.lt Nat _ p.1 c := ktn_ltOf hallc p (List.mem_append.mpr (.inr hp))
      rcases List.mem_cons.mp hm with h | hm
      · exact h7 p hp (h ▸ .head _)
      · rcases List.mem_cons.mp hm with h | hm
        · exact Nat.ne_of_lt hpc h
        · exact h7 p hp (.tail _ hm)
/-- a box closed -/
theorem tree_pop {pn' : Nat} {op : Obj} {f : OpenF} {outs : List OpenF} (ho : σ.outs = f :: outs) (F' : Fr h₀ L h' m') (hN : News h₀ L h' N') (hin : ∀ p ∈ (I, oI) :: (pa, op) :: (σ.g, listOf σ.gvs.toArray σ.gn) :: (σ.outs.map OpenF.ent ++ (σ.D ++ news)), p ∈ N')
    (hop : op = listOf (pathOf σ.outs).toArray pn') (hne : ∀ p ∈ treeG pa news σ, p.1 ≠ I) (hM : MapIs (Str.ofString "n") ys [] m₀ m') (hR : TreeR root pa news i σ) :
    EndT h₀ L (Str.ofString "n") ys (fun _ => []) (treeG pa news) m₀ (TreeR root pa news (i + 1)) I oI s₁ { s₁ with heap := h', toks := tk' } := by
  obtain ⟨k, sz, h1, h2, h3, h5, h6, h7⟩ := hR
  obtain ⟨pn, g, gvs, gn, outs', D⟩ := σ
  dsimp only at ho
  subst ho hop
  cases h2 with
  | @down g b a i1 t u tag cvs n sz k0 outs e1 e2 e3 e4 e5 =>
    dsimp only at h1 h3 h5 h6 h7 e2 hin
    have hD : ∀ p ∈ D, p ∈ (g, listOf gvs.toArray gn) :: D := fun p hp => .tail _ hp
    refine EndT.mk' { pn := pn', g := b, gvs := cvs ++ [Value.ref a], gn := n, outs := outs, D := (g, listOf gvs.toArray gn) :: D } F' hN (hin _ (.head _)) ?_ ?_
      ⟨k0.app (.box tag i1 k .nil), sz, (e1.mono hD).append (.box (hD _ e2) e3 e4 (.head _) (h1.mono hD) .nil), e5.mono hD, ?_, ?_, ?_, ?_⟩ hM
    · intro p hp
      refine hin p ?_
      rcases List.mem_cons.mp hp with h | hp
      · rw [h]; simp only [pathOf, List.map_cons, List.reverse_cons]; exact .tail _ (.head _)
      · rcases List.mem_cons.mp hp with h | hp
        · exact h ▸ .tail _ (.tail _ (.tail _ (List.mem_append.mpr (.inl (.head _)))))
        · rcases List.mem_append.mp hp with hp | hp
          · exact .tail _ (.tail _ (.tail _ (List.mem_append.mpr (.inl (.tail _ hp)))))
          · rcases List.mem_cons.mp hp with h | hp
            · exact h ▸ .tail _ (.tail _ (.head _))
            · exact .tail _ (.tail _ (.tail _ (List.mem_append.mpr (.inr hp))))
    · have n1 : @Ne Nat pa I := hne _ (.head _)
      have n2 : @Ne Nat g I := hne _ (.tail _ (.head _))
      have n4 : @Ne Nat b I := hne _ (.tail _ (.tail _ (List.mem_append.mpr (.inl (.head _)))))
      have n3 : ∀ p ∈ outs.map OpenF.ent ++ (D ++ news), p.1 ≠ I := fun p hp => hne p (.tail _ (.tail _ (.tail _ hp)))
      refine List.forall_mem_cons.mpr ⟨n1, List.forall_mem_cons.mpr ⟨n4, fun p hp => ?_⟩⟩
      rcases List.mem_append.mp hp with hp | hp
      · exact n3 p (List.mem_append.mpr (.inl hp))
      · rcases List.mem_cons.mp hp with h | hp
        · rw [h]; exact n2
        · exact n3 p (List.mem_append.mpr (.inr hp))
    · rw [Kids.app_size]; simp only [Kids.size]; omega
    · show outs.length ≤ 4
      simp only [List.length_cons] at h5; omega
    · have h8 := List.nodup_cons.mp h6
      have h9 := List.nodup_cons.mp h8.2
      exact List.nodup_cons.mpr ⟨fun hm => h8.1 (.tail _ hm), h9.2⟩
    · intro p hp hm
      rcases List.mem_cons.mp hp with rfl | hp
      · have h8 := List.nodup_cons.mp h6
        have h9 := List.nodup_cons.mp h8.2
        rcases List.mem_cons.mp hm with h | hm
        · exact h8.1 (h ▸ .head _)
        · exact h9.1 hm
      · refine h7 p hp ?_
        rcases List.mem_cons.mp hm with h | hm
        · exact h ▸ .head _
        · exact .tail _ (.tail _ hm)
end

/-! rules for _law_tree and the law -/
section
variable {prog : Program} {w : World} {A : Around} {E : Value → Shared → Prop} {s : Shared} {h₀ : Heap} {L : Addr} {m : Str → Option Value} {news news' : List (Addr × Obj)} {value slice : PySem.Expr} {l : Addr} {u : Tok} {k : Int}
theorem modT {a b : Int} {t : Tok} {Q : Value → Shared → Prop} (hb : 0 < b) (ht : 0 < s.toks) (h : ∀ t' k, 0 < k → 0 ≤ a % b → a % b < b → Q (.int (a % b) t') { s with toks := k }) : wpAny (model prog w) A (binaryOp .Mod (.int a t) (.int b u)) Q E s := by
  refine mod_int' (by omega) ?_
  rw [Int.fmod_eq_emod_of_nonneg a (Int.le_of_lt hb)]
  exact h _ _ (Nat.succ_pos _) (Int.emod_nonneg a (by omega)) (Int.emod_lt_of_pos a hb)
theorem modKT {a b c : Int} {t : Tok} {Q : Value → Shared → Prop} (hc : a % b = c) (hb : 0 < b) (ht : 0 < s.toks) (h : ∀ t' k, 0 < k → Q (.int c t') { s with toks := k }) : wpAny (model prog w) A (binaryOp .Mod (.int a t) (.int b u)) Q E s :=
  modT hb ht fun t' k hk _ _ => hc ▸ h t' k hk
theorem lenT {vs : List Value} {nn : Nat} {Q : Value → Shared → Prop} (N : News h₀ L s.heap news) (hm : (l, listOf vs.toArray nn) ∈ news) (hz : vs.length ≤ 16384) (h : ∀ t' k, 0 < k → Q (.int (vs.length : Int) t') { s with toks := k }) : wpAny (model prog w) A (call (.builtin "len") [.ref l]) Q E s := by
  have hl : s.heap.IsList l vs.toArray := ⟨_, (N _ hm).1, rfl, nn, rfl⟩
  refine len_list hl (by simp only [List.size_toArray]; omega) ?_
  have e : vs.toArray.size = vs.length := List.size_toArray
  rw [e]
  exact h _ _ (Nat.succ_pos _)
theorem item_lastT {vs : List Value} {v : Value} {nn : Nat} {Q : Value → Shared → Prop} (N : News h₀ L s.heap news) (hm : (l, listOf (vs ++ [v]).toArray nn) ∈ news) (h : Q v s)
    (hs : subscripted slice false (.ref l) (.int (-1) u) = operate [.ref l, .int (-1) u] (getItem (.ref l) (.int (-1) u)) := by with_unfolding_all rfl) :
    wpAny (model prog w) A (subscriptTail value slice (.ref l) (.int (-1) u)) Q E s := by
  have hl : s.heap.IsList l (vs ++ [v]).toArray := ⟨_, (N _ hm).1, rfl, nn, rfl⟩
  refine tail_any hl.typeIs slot_list_getitem.lookup (wpAny_getItem_list_neg hl (by decide) ?_ (by decide) ?_ h) hs
  · rw [List.size_toArray, List.length_append, List.length_singleton]; omega
  · have e : (-1 + (((vs ++ [v]).toArray.size : Nat) : Int)).toNat = vs.length := by rw [List.size_toArray, List.length_append, List.length_singleton]; omega
    rw [e]; simp
theorem popT {vs : List Value} {v : Value} {nn : Nat} {Q : Value → Shared → Prop} (F : Fr h₀ L s.heap m) (N : News h₀ L s.heap news) (U : Upd l (listOf (vs ++ [v]).toArray nn) (listOf vs.toArray (nn + 1)) news news') (hz : (vs ++ [v]).length ≤ 16384) (h : ∀ h', Fr h₀ L h' m → News h₀ L h' news' → Q v { s with heap := h' }) :
    wpAny (model prog w) A (call (.builtin "list.pop") [.ref l]) Q E s :=
  kl_pop F N (kpa_last v vs) U (by rw [sizeLine_eq]; show (vs ++ [v]).length ≤ _; omega) h
end
theorem fin4 {k : Int} (h0 : 0 ≤ k) (h1 : k < 4) : k.toNat = 0 ∨ k.toNat = 1 ∨ k.toNat = 2 ∨ k.toNat = 3 := by omega
theorem fin5 {k : Int} (h0 : 0 ≤ k) (h1 : k < 5) : k.toNat = 0 ∨ k.toNat = 1 ∨ k.toNat = 2 ∨ k.toNat = 3 ∨ k.toNat = 4 := by omega
theorem fin7 {k : Int} (h0 : 0 ≤ k) (h1 : k < 7) : k.toNat = 0 ∨ k.toNat = 1 ∨ k.toNat = 2 ∨ k.toNat = 3 ∨ k.toNat = 4 ∨ k.toNat = 5 ∨ k.toNat = 6 := by omega
section
variable {prog : Program} {w : World} {A : Around} {E : Value → Shared → Prop} {s : Shared} {h₀ : Heap} {L : Addr} {m : Str → Option Value} {value slice : PySem.Expr} {u : Tok} {k : Int} {P : Params} {Q : Value → Shared → Prop}
theorem words_item (X : (frag.heap_1 P).In h₀) (F : Fr h₀ L s.heap m) (h0 : 0 ≤ k) (h1 : k < 4) (h : ∀ x t, x.length ≤ 20 → Q (.str x t) s)
    (hs : subscripted slice false (.ref 278) (.int k u) = operate [.ref 278, .int k u] (getItem (.ref 278) (.int k u)) := by with_unfolding_all rfl) : wpAny (model prog w) A (subscriptTail value slice (.ref 278) (.int k u)) Q E s := by
  have hT := tupAt (a := 278) X rfl rfl rfl
  rcases fin4 h0 h1 with e | e | e | e <;> exact item_tupT F hT h0 (by omega) (by rw [e]; rfl) (h _ _ (by decide +kernel)) hs
theorem tags_item (X : (frag.heap_1 P).In h₀) (F : Fr h₀ L s.heap m) (h0 : 0 ≤ k) (h1 : k < 5) (h : ∀ x t, x ∈ tags5 → Q (.str x t) s)
    (hs : subscripted slice false (.ref 277) (.int k u) = operate [.ref 277, .int k u] (getItem (.ref 277) (.int k u)) := by with_unfolding_all rfl) : wpAny (model prog w) A (subscriptTail value slice (.ref 277) (.int k u)) Q E s := by
  have hT := tupAt (a := 277) X rfl rfl rfl
  rcases fin5 h0 h1 with e | e | e | e | e <;> exact item_tupT F hT h0 (by omega) (by rw [e]; rfl) (h _ _ (by decide +kernel)) hs
theorem sets_item (X : (frag.heap_1 P).In h₀) (F : Fr h₀ L s.heap m) (h0 : 0 ≤ k) (h1 : k < 7) (h : ∀ i, i ∈ sets7 → Q (.ref i) s)
    (hs : subscripted slice false (.ref 293) (.int k u) = operate [.ref 293, .int k u] (getItem (.ref 293) (.int k u)) := by with_unfolding_all rfl) : wpAny (model prog w) A (subscriptTail value slice (.ref 293) (.int k u)) Q E s := by
  have hT := tupAt (a := 293) X rfl rfl rfl
  rcases fin7 h0 h1 with e | e | e | e | e | e | e <;> exact item_tupT F hT h0 (by omega) (by rw [e]; rfl) (h _ (by decide +kernel)) hs
end
-- MACROS BEGIN
local macro_rules | `(tactic| walk_at "binaryOp Mod int int") => `(tactic| (k_here; (refine modT (by decide) (by tb_start) ?_); intro t' tk htk hm0 hm1))
local macro_rules | `(tactic| walk_at "binaryOp Mod int int") => `(tactic| (k_here; (with_reducible refine modKT (by assumption) ?_ ?_ ?_); decide; tb_start; intro t' tk htk))
local macro_rules | `(tactic| walk_at "call builtin:len") => `(tactic| (k_here; (with_reducible show wpAny _ _ (call (Value.builtin "len") [Value.ref _]) _ _ _); k_dflt (refine' lenT ?k1 ?k2 ?k3 ?_; (case k1 => k_asm); (case k2 => k_mem); (case k3 => ((try simp only [List.length_append, List.length_cons, List.length_nil]); omega))); intro t' tk htk))
local macro_rules | `(tactic| walk_at "call builtin:list.pop") => `(tactic| (k_here; (with_reducible show wpAny _ _ (call (Value.builtin _) [Value.ref _]) _ _ _); k_dflt (refine' popT ?k1 ?k2 ?k3 ?k4 ?_; (case k1 => k_asm); (case k2 => k_asm); (case k3 => k_upd); (case k4 => (simp only [List.length_append, List.length_cons, List.length_nil]; omega)); k_whole); intro h' F' N'; (try k_sweep)))
local macro_rules | `(tactic| walk_at "subscriptTail") => `(tactic| (k_here; (with_reducible show wpAny _ _ (subscriptTail _ _ (Value.ref _) (Value.int (-1) _)) _ _ _); k_dflt (refine' item_lastT ?k1 ?k2 ?_ ?k6; (case k1 => k_asm); (case k2 => (repeat' (first | with_reducible exact List.mem_cons_self | with_reducible assumption | with_reducible refine List.mem_cons_of_mem _ ?_))); (case k6 => with_unfolding_all rfl); k_whole)))
local macro_rules | `(tactic| walk_at "subscriptTail Name UnaryOp ref int") => `(tactic| (k_here; (with_reducible show wpAny _ _ (subscriptTail _ _ (Value.ref _) (Value.int (-1) _)) _ _ _); k_dflt (refine' item_lastT ?k1 ?k2 ?_ ?k6; (case k1 => k_asm); (case k2 => (repeat' (first | with_reducible exact List.mem_cons_self | with_reducible assumption | with_reducible refine List.mem_cons_of_mem _ ?_))); (case k6 => with_unfolding_all rfl); k_whole)))
local macro_rules | `(tactic| walk_at "subscriptTail") => `(tactic| (k_here; (with_reducible show wpAny _ _ (subscriptTail _ _ (Value.ref 278) (Value.int _ _)) _ _ _); k_dflt (refine' words_item ?k1 ?k2 ?k3 ?k4 ?_ ?k6; (case k1 => k_asm); (case k2 => k_asm); (case k3 => omega); (case k4 => omega); (case k6 => with_unfolding_all rfl); k_whole); intro x' t' hx'))
local macro_rules | `(tactic| walk_at "subscriptTail Name BinOp ref int") => `(tactic| (k_here; (with_reducible show wpAny _ _ (subscriptTail _ _ (Value.ref 278) (Value.int _ _)) _ _ _); k_dflt (refine' words_item ?k1 ?k2 ?k3 ?k4 ?_ ?k6; (case k1 => k_asm); (case k2 => k_asm); (case k3 => omega); (case k4 => omega); (case k6 => with_unfolding_all rfl); k_whole); intro x' t' hx'))
local macro_rules | `(tactic| walk_at "subscriptTail") => `(tactic| (k_here; (with_reducible show wpAny _ _ (subscriptTail _ _ (Value.ref 277) (Value.int _ _)) _ _ _); k_dflt (refine' tags_item ?k1 ?k2 ?k3 ?k4 ?_ ?k6; (case k1 => k_asm); (case k2 => k_asm); (case k3 => omega); (case k4 => omega); (case k6 => with_unfolding_all rfl); k_whole); intro x' t' hx'))
local macro_rules | `(tactic| walk_at "subscriptTail Name BinOp ref int") => `(tactic| (k_here; (with_reducible show wpAny _ _ (subscriptTail _ _ (Value.ref 277) (Value.int _ _)) _ _ _); k_dflt (refine' tags_item ?k1 ?k2 ?k3 ?k4 ?_ ?k6; (case k1 => k_asm); (case k2 => k_asm); (case k3 => omega); (case k4 => omega); (case k6 => with_unfolding_all rfl); k_whole); intro x' t' hx'))
local macro_rules | `(tactic| walk_at "subscriptTail") => `(tactic| (k_here; (with_reducible show wpAny _ _ (subscriptTail _ _ (Value.ref 293) (Value.int _ _)) _ _ _); k_dflt (refine' sets_item ?k1 ?k2 ?k3 ?k4 ?_ ?k6; (case k1 => k_asm); (case k2 => k_asm); (case k3 => omega); (case k4 => omega); (case k6 => with_unfolding_all rfl); k_whole); intro i' hi'))
local macro_rules | `(tactic| walk_at "subscriptTail Name BinOp ref int") => `(tactic| (k_here; (with_reducible show wpAny _ _ (subscriptTail _ _ (Value.ref 293) (Value.int _ _)) _ _ _); k_dflt (refine' sets_item ?k1 ?k2 ?k3 ?k4 ?_ ?k6; (case k1 => k_asm); (case k2 => k_asm); (case k3 => omega); (case k4 => omega); (case k6 => with_unfolding_all rfl); k_whole); intro i' hi'))
-- MACROS END

/-- what _law_tree does -/
def TreeSpec (w : World) (p : Program) (loose : List Str) (mean : ExcName → Option Value) (mg mb : Str → Option Value) : Prop :=
  ∀ (dp un : Nat) (gd : Option (List Code)) (cn : Str) (cs : Scope) (a : Addr) (ccd : Value) (cl : List (Str × Addr)) (outer : List Env) (A₀ : Around) (base h₀ : Heap) (L : Addr) (m : Str → Option Value) (s : Shared)
    (Q E : Value → Shared → Prop) (l : Addr) (vs : List Value) (nn : Nat) (news : List (Addr × Obj)), Below A₀ base outer h₀ → Fr h₀ L s.heap m → (frag.heap_1 w.params).In h₀ → News h₀ L s.heap news → Top p loose mean mg mb h₀ → cs.kind = .function →
    (l, listOf vs.toArray nn) ∈ news → (∀ v ∈ vs, ∃ i t, v = .int i t) → vs.length ≤ 63 → dp + 12 < recursionLimit → un + 100 < cLine → 0 < s.toks →
    (∀ tl root rvs rn k h' tk', 0 < tk' → Fr h₀ L h' m → News h₀ L h' (tl ++ news) → (root, listOf rvs.toArray rn) ∈ tl → KidsIn tl rvs k → k.size ≤ vs.length → Q (.ref root) { s with heap := h', toks := tk' }) →
    wpAny (model PySem.Challenge.rw_dg5005_01.row.prog w) (ktrTop dp un gd cn cs L a ccd cl outer) (call (.ref 307) [.ref l]) Q E s

section
variable {w : World} {p : Program} {loose : List Str} {mean : ExcName → Option Value} {mg mb : Str → Option Value}
theorem tree_spec : TreeSpec w p loose mean mg mb := by
  unfold TreeSpec
  k_fill
  intro dp un gd cn cs a ccd cl outer A₀ base h₀ L m s Q E l vs nn news B F X N T hk hl hints hsz hdp hun ht hret
  refine wpAny_call ?_
  k_dflt ktr_enter
  k_steps
  (rename Fr _ _ _ _ => F1)
  (rename News _ _ _ _ => N1)
  (unfold Stopped)
  rename_i root5 _ hr5 _ _ _ pa5 _ hp5 _ _ _
  refine' for_listT (l := l) (vs := vs) (nn := nn) (TreeR root5 pa5 news) (fun _ => []) (treeG pa5 news) [Str.ofString "kind", Str.ofString "word", Str.ofString "inner"] (σ₀ := ⟨0, root5, [], 0, [], []⟩) F1 ?N0 (by assumption) ?h0 ?hV ?hev ?hl0 ?turn ?done ?hE
  case N0 => exact N1
  case hV => intro kv hkv; cases hkv
  case h0 =>
    refine ⟨.nil, 0, .nil, .top, Nat.le_refl _, Nat.zero_le _, ?_, ?_⟩
    · refine List.nodup_cons.mpr ⟨fun hm => ?_, List.nodup_cons.mpr ⟨(fun hm => nomatch hm), List.nodup_nil⟩⟩
      rcases List.mem_cons.mp hm with h | hm
      · exact Nat.ne_of_gt hp5.1 h
      · cases hm
    · intro q hq hm
      have hq' : q ∈ news := hq
      rcases List.mem_cons.mp hm with h | hm
      · exact Nat.ne_of_lt (ktn_ltOf hp5.2 q hq') h
      · rcases List.mem_cons.mp hm with h | hm
        · exact Nat.ne_of_lt (hr5 q hq') h
        · cases hm
  case hl0 => exact fun i σ hR => .tail _ (.tail _ (List.mem_append.mpr (.inr (List.mem_append.mpr (.inr hl)))))
  case hev => exact fun Q9 h9 => nameX_L F1 rfl h9 rfl rfl
  case hE => passes_own
  case done =>
    clear F1 N1
    rintro ⟨pn, g, gvs, gn, outs, D⟩ u h tk hR htk F2 N2
    obtain ⟨k0, sz, e1, e2, e3, e5, e6, e7⟩ := hR
    dsimp only at e1 e2 e3
    obtain ⟨rvs, rn, rk, c1, c2, c3⟩ := e2.close ((g, listOf gvs.toArray gn) :: (outs.map OpenF.ent ++ D)) gvs gn k0 (fun q hq => .tail _ (List.mem_append.mpr (.inr hq))) (fun f hf => .tail _ (List.mem_append.mpr (.inl (List.mem_map.mpr ⟨f, hf, rfl⟩)))) (.head _) (e1.mono fun q hq => .tail _ (List.mem_append.mpr (.inr hq)))
    have N3 : News _ _ _ (((g, listOf gvs.toArray gn) :: (outs.map OpenF.ent ++ D)) ++ news) := N2.perm fun q hq => by
      rcases List.mem_append.mp hq with hq | hq
      · rcases List.mem_cons.mp hq with h | hq
        · exact h ▸ .tail _ (.head _)
        · rcases List.mem_append.mp hq with hq | hq
          · exact .tail _ (.tail _ (List.mem_append.mpr (.inl hq)))
          · exact .tail _ (.tail _ (List.mem_append.mpr (.inr (List.mem_append.mpr (.inl hq)))))
      · exact .tail _ (.tail _ (List.mem_append.mpr (.inr (List.mem_append.mpr (.inr hq)))))
    clear N2
    generalize hT1 : (g, listOf gvs.toArray gn) :: (outs.map OpenF.ent ++ D) = T1 at N3 c1 c2
    dsimp only [setAll, freeAll] at F2
    k_steps
    exact hret T1 root5 rvs rn rk _ _ (by assumption) (by assumption) (by assumption) c1 c2 (by omega)
  case turn =>
    clear F1 N1
    rintro i v ⟨pn, g, gvs, gn, outs, D⟩ u h tk I oI hv hR htk hne F2 N2
    obtain ⟨n, tn, rfl⟩ := hints v (List.mem_of_getElem? hv)
    have hR0 := hR
    obtain ⟨k0, sz, e1, e2, e3, e5, e6, e7⟩ := hR0
    dsimp only at e1 e2 e3 e5 e6 e7
    have hi : i < vs.length := (List.getElem?_eq_some_iff.mp hv).1
    have hgl : gvs.length ≤ 63 := by have := e1.length_le; omega
    have hpl : (pathOf outs).length = outs.length := by unfold pathOf; rw [List.length_reverse, List.length_map]
    have hne0 := hne
    have n1 : @Ne Nat pa5 I := hne _ (.head _)
    have n2 : @Ne Nat g I := hne _ (.tail _ (.head _))
    have n3 : ∀ q ∈ outs.map OpenF.ent ++ (D ++ news), q.1 ≠ I := fun q hq => hne q (.tail _ (.tail _ hq))
    have n4 : @Ne Nat pa5 g := fun h => (List.nodup_cons.mp e6).1 (h ▸ .head _)
    have n5 : ∀ q ∈ outs.map OpenF.ent ++ (D ++ news), q.1 ≠ pa5 ∧ q.1 ≠ g := by
      intro q hq
      have h8 := List.nodup_cons.mp e6
      have h9 := List.nodup_cons.mp h8.2
      rcases List.mem_append.mp hq with hq | hq
      · obtain ⟨f, hf, rfl⟩ := List.mem_map.mp hq
        exact ⟨fun h => h8.1 (.tail _ (List.mem_map.mpr ⟨f, hf, h⟩)), fun h => h9.1 (List.mem_map.mpr ⟨f, hf, h⟩)⟩
      · exact ⟨fun h => e7 q hq (h ▸ .head _), fun h => e7 q hq (h ▸ .tail _ (.head _))⟩
    have n6 : ∀ q ∈ outs.map OpenF.ent ++ (D ++ news), q.1 ≠ pa5 := fun q hq => (n5 q hq).1
    have n7 : ∀ q ∈ outs.map OpenF.ent ++ (D ++ news), q.1 ≠ g := fun q hq => (n5 q hq).2
    unfold treeG at N2
    dsimp only at N2
    clear hne n5
    dsimp only [setAll, freeAll] at F2
    generalize hT1 : outs.map OpenF.ent ++ (D ++ news) = T1 at N2 n3 n6 n7
    generalize hps : pathOf outs = ps at N2 hpl
    show wpAny _ _ _ _ _ _
    k_fold
    have hk6 : n % 6 = 0 ∨ n % 6 = 1 ∨ n % 6 = 2 ∨ n % 6 = 3 ∨ n % 6 = 4 ∨ n % 6 = 5 := by omega
    rcases hk6 with hk6 | hk6 | hk6 | hk6 | hk6 | hk6
    · k_steps
      · (rename Fr _ _ _ _ => F5)
        (rename News _ _ _ _ => N5)
        (rename _ < _ ∧ (_ < _ ∧ (_ < _ ∧ (_ < _ ∧ AllLt _ _))) => hl9)
        (rename _ < _ ∧ (_ < _ ∧ (_ < _ ∧ AllLt _ _)) => hl8)
        have hlt4 : outs.length < 4 := by
          (rename ((_ ++ [_] : List Value).length : Int) < (5 : Int) => hq)
          simp only [List.length_append, List.length_cons, List.length_nil] at hq
          omega
        subst hT1 hps
        refine' tree_push (σ := ⟨pn, g, gvs, gn, outs, D⟩) F5 N5 ?in1 ?og1 ?op1 ?oa1 ?ta1 ?se1 hl9.2.1 hl9.2.2.1 hl9.2.2.2.1 hl9.1 hl8.1 hl8.2.1 hl8.2.2.1 hl9.2.2.2.2 hl8.2.2.2 hlt4 hne0 ?hM1 hR
        case in1 => exact fun q hq => hq
        case og1 => rw [List.push_toArray]
        case op1 => rw [List.push_toArray]
        case oa1 => exact rfl
        case ta1 => assumption
        case se1 => assumption
        case hM1 => ktd_rel
      · (rename Fr _ _ _ _ => F5)
        (rename News _ _ _ _ => N5)
        subst hT1 hps
        exact tree_same (σ := ⟨pn, g, gvs, gn, outs, D⟩) F5 N5 (fun q hq => hq) hne0 (by ktd_rel) hR
    · k_steps
      (rename Fr _ _ _ _ => F5)
      (rename News _ _ _ _ => N5)
      (rename _ < _ ∧ _ => hl9)
      subst hT1 hps
      refine' tree_leaf (σ := ⟨pn, g, gvs, gn, outs, D⟩) (k1 := .words _ .nil) F5 N5 ?in1 ?og1 ?kk1 ?sz1 hl9.1 hl9.2.1 hl9.2.2.1 hl9.2.2.2 hne0 ?hM1 hR
      case in1 => exact fun q hq => hq
      case og1 => rw [List.push_toArray]
      case kk1 => exact .words (.head _) (by assumption) .nil
      case sz1 => exact rfl
      case hM1 => ktd_rel
    · k_steps
      (rename Fr _ _ _ _ => F5)
      (rename News _ _ _ _ => N5)
      (rename _ < _ ∧ _ => hl9)
      subst hT1 hps
      refine' tree_leaf (σ := ⟨pn, g, gvs, gn, outs, D⟩) (k1 := .hidden _ .nil) F5 N5 ?in1 ?og1 ?kk1 ?sz1 hl9.1 hl9.2.1 hl9.2.2.1 hl9.2.2.2 hne0 ?hM1 hR
      case in1 => exact fun q hq => hq
      case og1 => rw [List.push_toArray]
      case kk1 => exact .hidden (.head _) (by assumption) .nil
      case sz1 => exact rfl
      case hM1 => ktd_rel
    · k_steps
      (rename Fr _ _ _ _ => F5)
      (rename News _ _ _ _ => N5)
      (rename _ < _ ∧ _ => hl9)
      subst hT1 hps
      refine' tree_leaf (σ := ⟨pn, g, gvs, gn, outs, D⟩) (k1 := .rule .nil) F5 N5 ?in1 ?og1 ?kk1 ?sz1 hl9.1 hl9.2.1 hl9.2.2.1 hl9.2.2.2 hne0 ?hM1 hR
      case in1 => exact fun q hq => hq
      case og1 => rw [List.push_toArray]
      case kk1 => exact .rule (.head _) .nil
      case sz1 => exact rfl
      case hM1 => ktd_rel
    · k_steps
      · (rename Fr _ _ _ _ => F5)
        (rename News _ _ _ _ => N5)
        have hge : 1 ≤ outs.length := by
          (rename (1 : Int) < ((_ ++ [_] : List Value).length : Int) => hq)
          simp only [List.length_append, List.length_cons, List.length_nil] at hq
          omega
        obtain ⟨f, outs', hof⟩ : ∃ f r, outs = f :: r := by
          cases outs with
          | nil => exact absurd hge (by decide)
          | cons f r => exact ⟨f, r, rfl⟩
        subst hT1 hps
        exact tree_pop (σ := ⟨pn, g, gvs, gn, outs, D⟩) hof F5 N5 (fun q hq => hq) rfl hne0 (by ktd_rel) hR
      · (rename Fr _ _ _ _ => F5)
        (rename News _ _ _ _ => N5)
        subst hT1 hps
        exact tree_same (σ := ⟨pn, g, gvs, gn, outs, D⟩) F5 N5 (fun q hq => hq) hne0 (by ktd_rel) hR
    · k_steps
      (rename Fr _ _ _ _ => F5)
      (rename News _ _ _ _ => N5)
      (rename _ < _ ∧ _ => hl9)
      subst hT1 hps
      refine' tree_leaf (σ := ⟨pn, g, gvs, gn, outs, D⟩) (k1 := .words (Str.ofString "") .nil) F5 N5 ?in1 ?og1 ?kk1 ?sz1 hl9.1 hl9.2.1 hl9.2.2.1 hl9.2.2.2 hne0 ?hM1 hR
      case in1 => exact fun q hq => hq
      case og1 => rw [List.push_toArray]
      case kk1 => exact .words (.head _) (by decide +kernel) .nil
      case sz1 => exact rfl
      case hM1 => ktd_rel
end

/-! renderAttrs -/
theorem KvIs.get {a : List (Str × Value)} {b : List (Str × Str)} (h : KvIs a b) : ∀ (j : Nat) k v, a[j]? = some (k, v) → ∃ tx, b[j]? = some (k, tx) ∧ VIs v tx := by
  induction h with
  | nil => intro j k v e; cases j <;> cases e
  | @int k0 t0 n u kvs l h1 h2 h3 _ ih =>
    intro j k v e
    cases j with
    | zero => cases e; exact ⟨t0, rfl, .inl ⟨n, u, rfl, h1, h2, h3⟩⟩
    | succ j => exact ih j k v e
  | @str k0 t0 u kvs l _ ih =>
    intro j k v e
    cases j with
    | zero => cases e; exact ⟨t0, rfl, .inr ⟨u, rfl⟩⟩
    | succ j => exact ih j k v e
def PairsIn (tl : List (Addr × Obj)) (as : List Addr) (l : List (Str × Str)) : Prop :=
  as.length = l.length ∧ ∀ (j : Nat) (a : Addr), as[j]? = some a → ∃ p t v, l[j]? = some p ∧ (a, ({ cls := .type "tuple", data := .seq #[.str p.1 t, v] } : Obj)) ∈ tl ∧ VIs v p.2
theorem list_itemsT {w : World} {A : Around} {E : Value → Shared → Prop} {s : Shared} {h₀ : Heap} {L v d : Addr} {m : Str → Option Value} {news : List (Addr × Obj)} {od : Obj} {l : List (Str × Str)} {Q : Value → Shared → Prop}
    (hh : A.handled = none) (F : Fr h₀ L s.heap m) (N : News h₀ L s.heap news) (hvw : (v, ({ cls := .type "dict_items", data := .fields #[.ref d] } : Obj)) ∈ news) (hmd : (d, od) ∈ news) (ha : AttrIs w od l) (hl : l.length ≤ 1000) (ht : 0 < s.toks)
    (h : ∀ (B : Addr) (as : List Addr) c tl h' tk, 0 < tk → Fr h₀ L h' m → News h₀ L h' ((B, listOf (as.map Value.ref).toArray c) :: (tl ++ news)) → PairsIn tl as l → Q (.ref B) { s with heap := h', toks := tk }) :
    wpAny (model PySem.Challenge.rw_dg5005_01.row.prog w) A (call (.type "list") [.ref v]) Q E s := by
  obtain ⟨kvs, D, hd, hf, hkv⟩ := ha
  have hlen : kvs.length = l.length := by have := congrArg List.length hkv.keys; rwa [List.length_map, List.length_map] at this
  obtain ⟨ep, hat⟩ := KdkAt.of hd
  refine wpAny_with_toks (n := 1) ht (kdx_call (knd := PySem.strKind _ _) (kvs := kvs) (ep := ep) hh ⟨_, (N _ hvw).1, rfl, rfl⟩ (hat.dictAt (N _ hmd).1) (by rw [hlen, sizeLine_eq]; omega) fun h' tk acc c as hk hS hal hG hacc htk => ?_)
  have ea : acc = (as.map Value.ref).toArray := by rw [← hacc, Array.toArray_toList]
  refine h s.heap.objs.size as c (as.filterMap fun a => (h'.get? a).map fun o => (a, o)) h' tk htk (F.keeps hk) (fun q hq => ?_) ⟨by rw [hal, hlen], fun j a hj => ?_⟩
  · rcases List.mem_cons.mp hq with rfl | hq
    · exact ⟨by rw [← ea]; exact hS, kdx_fresh F (Nat.le_refl _)⟩
    · rcases List.mem_append.mp hq with hq | hq
      · obtain ⟨a, ha, e⟩ := List.mem_filterMap.mp hq
        obtain ⟨o, ho, e⟩ := Option.map_eq_some_iff.mp e
        subst e
        exact ⟨ho, kdx_fresh F (Nat.le_of_lt (hG.above _ ha))⟩
      · exact ⟨hk _ _ (N q hq).1, (N q hq).2⟩
  · obtain ⟨key, k, x, e1, e2, e3⟩ := hG.pairs j a hj
    obtain ⟨t, rfl⟩ := Value.isStrOf_shape e2
    obtain ⟨tx, e4, e5⟩ := hkv.get j k x e1
    exact ⟨(k, tx), t, x, e4, List.mem_filterMap.mpr ⟨a, List.mem_of_getElem? hj, by rw [e3]; rfl⟩, e5⟩
-- MACROS BEGIN
local macro_rules | `(tactic| walk_at "getMethod ref") => `(tactic| (k_here; (with_reducible show wpAny _ _ (getMethod (Value.ref _) (Str.ofString "items") _) _ _ _); k_dflt (refine' kdl_method (knd := PySem.strKind _ _) PySem.F.slot_dict_items PySem.F.type_dict_items ?k1 ?k2 ?k3 ?_; (case k1 => k_asm); (case k2 => k_mem); (case k3 => with_reducible assumption))))
local macro_rules | `(tactic| walk_at "call builtin:dict.items") => `(tactic| (k_here; (with_reducible show wpAny _ _ (call (Value.builtin "dict.items") [Value.ref _]) _ _ _); k_dflt (refine' kdx_view (knd := PySem.strKind _ _) ?k1 ?k2 ?k3 ?k4 ?k5 ?_; (case k1 => k_asm); (case k2 => k_asm); (case k3 => k_mem); (case k4 => with_reducible assumption); (case k5 => with_reducible assumption)); intro D' h' F' N' l1; (try k_sweep)))
local macro_rules | `(tactic| walk_at "call type:list") => `(tactic| (k_here; (with_reducible show wpAny _ _ (call (Value.type "list") [Value.ref _]) _ _ _); k_dflt (refine' list_itemsT ?k1 ?k2 ?k3 ?k4 ?k5 ?k6 ?k7 ?k8 ?_; (case k1 => exact rfl); (case k2 => k_asm); (case k3 => k_asm); (case k4 => k_mem); (case k5 => k_mem); (case k6 => with_reducible assumption); (case k7 => omega); (case k8 => tb_start)); intro B' as' c' tl' h' tk htk F' N' hP'; (try k_sweep)))
local macro_rules | `(tactic| walk_at "exec For Tuple Call cons nil") => `(tactic| (k_here; (have hm9 : ForMark := by assumption); clear hm9; refine wpAny_For ?_ (by intro _; rfl)))
local macro_rules | `(tactic| walk_at "TurnK") => `(tactic| dsimp only [TurnK])
-- MACROS END
theorem len_attrR1 (r : Str) (p : Str × Str) (h1 : p.1.length ≤ 20) (h2 : p.2.length ≤ 20) : (r ++ ((((Str.ofString " " ++ plainS p.1) ++ Str.ofString "=\"") ++ plainS p.2) ++ Str.ofString "\"")).length ≤ r.length + 44110 := by
  have a := len_plain p.1 h1
  have b := len_plain p.2 h2
  simp only [Str.length_append, ln_sp, ln_eq, ln_q]; omega
theorem len_attrR : ∀ (l : List (Str × Str)) (r : Str), (∀ p ∈ l, p.1.length ≤ 20 ∧ p.2.length ≤ 20) → (attrR r l).length ≤ r.length + 44110 * l.length
  | [], r, _ => Nat.le_refl _
  | p :: t, r, h => by
    have h1 := len_attrR1 r p (h p (.head _)).1 (h p (.head _)).2
    have h2 := len_attrR t (r ++ ((((Str.ofString " " ++ plainS p.1) ++ Str.ofString "=\"") ++ plainS p.2) ++ Str.ofString "\"")) fun q hq => h q (.tail _ hq)
    refine Nat.le_trans h2 ?_
    rw [List.length_cons]; omega
theorem attrR_take (r : Str) (l : List (Str × Str)) (j : Nat) (p : Str × Str) (h : l[j]? = some p) : attrR r (l.take (j + 1)) = attrR r (l.take j) ++ ((((Str.ofString " " ++ plainS p.1) ++ Str.ofString "=\"") ++ plainS p.2) ++ Str.ofString "\"") := by
  rw [List.take_add_one, h]
  unfold attrR
  rw [List.foldl_append]; rfl
section
variable {w : World} {p : Program} {loose : List Str} {mean : ExcName → Option Value} {mg mb : Str → Option Value} {dp un : Nat} {gd : Option (List Code)} {cn : Str} {cs : Scope} {a : Addr} {ccd : Value} {cl : List (Str × Addr)} {outer : List Env} {A₀ : Around} {base h₀ : Heap} {L : Addr} {m : Str → Option Value} {news : List (Addr × Obj)} {s : Shared}
  {Q E : Value → Shared → Prop}
theorem attrs_use {x d atr mt : Addr} {oA : Obj} {kd tag : Str} {t1 t2 t3 : Tok} {nst : Int} {hid : Bool} {u1 u2 u3 u4 u5 u6 u7 : Tok} {l : List (Str × Str)} (B : Below A₀ base outer h₀) (F : Fr h₀ L s.heap m) (X : (frag.heap_1 w.params).In h₀) (N : News h₀ L s.heap news) (T : Top p loose mean mg mb h₀) (hk : cs.kind = .function)
    (hx : (x, instObj 95 d) ∈ news) (hd : (d, dictOf (tokEs w.params kd tag t1 t2 nst t3 atr mt hid u1 u2 u3 u4 u5 u6 u7) 7) ∈ news) (ha : (atr, oA) ∈ news) (hA : AttrIs w oA l) (hl : l.length ≤ 2) (hls : ∀ q ∈ l, q.1.length ≤ 20 ∧ q.2.length ≤ 20) (hs : (atr == sysModules) = false)
    (hdp : dp + 10 < recursionLimit) (hun : un + 100 < cLine) (ht : 0 < s.toks)
    (hret : ∀ t' h' tk', 0 < tk' → Fr h₀ L h' m → News h₀ L h' news → Q (.str (attrR (Str.ofString "") l) t') { s with heap := h', toks := tk' }) :
    wpAny (model PySem.Challenge.rw_dg5005_01.row.prog w) (ktrTop dp un gd cn cs L a ccd cl outer) (call (.ref 142) [.ref x]) Q E s := by
  revert X
  k_fill
  intro X
  have hA' := hA
  obtain ⟨kvs9, D9, hd9, hf9, hkv9⟩ := hA'
  clear hf9 hkv9
  have hfor : ForMark := ⟨⟩
  refine wpAny_call ?_
  k_dflt ktr_enter
  k_steps
  clear hfor
  (rename Fr _ _ _ _ => F3)
  (rename News _ _ _ _ => N3)
  (rename PairsIn _ _ _ => hP)
  rename_i B5 as5 c5 tl5 _ _ _ _ _ _ _
  unfold Stopped
  have N4 : News _ _ _ ((B5, listOf (as5.map Value.ref).toArray c5) :: (tl5 ++ news)) := N3.perm fun q hq => by
    rcases List.mem_cons.mp hq with h | hq
    · exact h ▸ .head _
    · rcases List.mem_append.mp hq with hq | hq
      · exact .tail _ (List.mem_append.mpr (.inl hq))
      · exact .tail _ (List.mem_append.mpr (.inr (.tail _ hq)))
  clear N3
  have hT1 : ∀ q ∈ tl5, q ∈ tl5 ++ news := fun q hq => List.mem_append.mpr (.inl hq)
  have hT2 : ∀ q ∈ news, q ∈ tl5 ++ news := fun q hq => List.mem_append.mpr (.inr hq)
  generalize tl5 ++ news = T1 at N4 hT1 hT2
  refine' iter_listK (σ := Str × Tok) (x := Str.ofString "key") (fun j σ => σ.1 = attrR (Str.ofString "") (l.take j)) (fun σ => [(Str.ofString "result", .str σ.1 σ.2)]) (fun _ => (B5, listOf (as5.map Value.ref).toArray c5) :: T1) [Str.ofString "value"] (σ₀ := (Str.ofString "", ?t9)) ?hh9 ?hl9 F3 N4 ?ht9 ?h09 ?hV9 ?hE9 ?turn9 ?done9
  case hh9 => exact rfl
  case hl9 => exact fun _ _ _ => .head _
  case ht9 => tb_start
  case h09 => exact rfl
  case hV9 => k_intsEnd
  case hE9 => passes_own
  case done9 =>
    clear F3 N4
    rintro ⟨o9, t9⟩ u9 h9 tk9 hR9 htk9 F9 N9
    have h7 : o9 = attrR (Str.ofString "") l := by
      have h8 := hR9
      rw [List.length_map, hP.1, List.take_length] at h8
      exact h8
    subst h7
    dsimp only [setAll, freeAll] at F9
    have N8 : News _ _ _ news := fun q hq => N9 q (.tail _ (hT2 q hq))
    clear N9
    k_steps
    exact hret _ _ _ (by assumption) (by assumption) (by assumption)
  case turn9 =>
    clear F3 N4 hret
    rintro j v ⟨o9, t9⟩ u9 h9 tk9 I9 oI9 hv9 hR9 htk9 hn9 F9 N9
    obtain ⟨a9, ha9, rfl⟩ : ∃ a9, as5[j]? = some a9 ∧ v = .ref a9 := by
      rw [List.getElem?_map] at hv9
      cases e : as5[j]? with
      | none => rw [e] at hv9; cases hv9
      | some a9 => rw [e] at hv9; exact ⟨a9, rfl, (Option.some.inj hv9).symm⟩
    obtain ⟨p9, t8, v8, hp9, hm9, hv8⟩ := hP.2 j a9 ha9
    have hm9' := hT1 _ hm9
    have hok := hls p9 (List.mem_of_getElem? hp9)
    have hok1 := hok.1
    have hok2 := hok.2
    have hpl1 := len_plain p9.1 hok1
    have hpl := len_plain p9.2 hok2
    have h7o : o9 = attrR (Str.ofString "") (l.take j) := hR9
    have hb9 : o9.length ≤ 88220 := by
      rw [h7o]
      have h6 := len_attrR (l.take j) (Str.ofString "") (fun q hq => hls q (List.mem_of_mem_take hq))
      have h5 : (l.take j).length ≤ 2 := by rw [List.length_take]; omega
      rw [ln_em] at h6
      omega
    dsimp only [setAll, freeAll] at F9
    rcases hv8 with ⟨n8, u8, rfl, e5, e6, e8⟩ | ⟨u8, rfl⟩
    · have hok3 : (Str.ofString (toString n8)).length ≤ 20 := e8 ▸ hok2
      have hpl3 := len_plain _ hok3
      k_steps
      refine' EndK.mk' (?o8, ?t7) ?f9 ?n9 ?hI9 ?hG9 ?hn9 ?R9 ?M9
      case f9 => assumption
      case n9 => assumption
      case M9 => ktd_rel
      case hI9 => exact fun q hq => List.mem_singleton.mp hq ▸ .head _
      case hG9 => exact fun q hq => .tail _ hq
      case hn9 => exact fun q hq r hr => List.mem_singleton.mp hr ▸ hn9 q hq
      case R9 =>
        refine Eq.trans ?_ (attrR_take _ _ j _ hp9).symm
        dsimp only
        rw [e8, ← h7o]
    · k_steps
      refine' EndK.mk' (?o8b, ?t7b) ?f9 ?n9 ?hI9 ?hG9 ?hn9 ?R9 ?M9
      case f9 => assumption
      case n9 => assumption
      case M9 => ktd_rel
      case hI9 => exact fun q hq => List.mem_singleton.mp hq ▸ .head _
      case hG9 => exact fun q hq => .tail _ hq
      case hn9 => exact fun q hq r hr => List.mem_singleton.mp hr ▸ hn9 q hq
      case R9 =>
        refine Eq.trans ?_ (attrR_take _ _ j _ hp9).symm
        dsimp only
        rw [← h7o]
end

/-! renderToken -/
def AtIx (vs : List Value) (k : Int) (v : Value) : Prop := 0 ≤ k ∧ k < 2 ^ 62 ∧ vs[k.toNat]? = some v
theorem item_ixT {prog : Program} {w : World} {A : Around} {E : Value → Shared → Prop} {s : Shared} {h₀ : Heap} {L : Addr} {news : List (Addr × Obj)} {value slice : PySem.Expr} {l : Addr} {vs : List Value} {nn : Nat} {k : Int} {u : Tok} {v : Value} {Q : Value → Shared → Prop}
    (N : News h₀ L s.heap news) (hm : (l, listOf vs.toArray nn) ∈ news) (hx : AtIx vs k v) (h : Q v s)
    (hs : subscripted slice false (.ref l) (.int k u) = operate [.ref l, .int k u] (getItem (.ref l) (.int k u)) := by with_unfolding_all rfl) :
    wpAny (model prog w) A (subscriptTail value slice (.ref l) (.int k u)) Q E s :=
  item_ledT N hm hx.1 (Int.lt_trans hx.2.1 (by decide)) hx.2.2 h hs
theorem dict_getT {w : World} {A : Around} {E : Value → Shared → Prop} {s : Shared} {h₀ : Heap} {L : Addr} {news : List (Addr × Obj)} {value slice : PySem.Expr} {d : Addr} {o : Obj} {k : Str} {u : Tok} {v : Value} {kvs : List (Str × Value)} {Q : Value → Shared → Prop}
    (N : News h₀ L s.heap news) (hm : (d, o) ∈ news) (hd : Obj.IsDictOf (PySem.strKind PySem.Challenge.rw_dg5005_01.row.prog w) o kvs) (hv : valueAt kvs k = some v) (h : ∀ tk, 0 < tk → Q v { s with toks := tk })
    (hs : subscripted slice false (.ref d) (.str k u) = operate [.ref d, .str k u] (getItem (.ref d) (.str k u)) := by with_unfolding_all rfl) :
    wpAny (model PySem.Challenge.rw_dg5005_01.row.prog w) A (subscriptTail value slice (.ref d) (.str k u)) Q E s := by
  have hdo : s.heap.DictOf (PySem.strKind PySem.Challenge.rw_dg5005_01.row.prog w) d kvs := Heap.dictOf_iff.mpr ⟨o, (N _ hm).1, hd⟩
  exact tail_any hdo.typeIs slot_dict_getitem.lookup (wpAny_getItem_of (strKind_is _ _ _ _) hdo.mapOf hv (h _ (Nat.succ_pos _))) hs
/-- the options -/
def OptIn (w : World) (D : List (Addr × Obj)) (op : Addr) (b : Bool) : Prop :=
  ∃ od dd oo u1 kvs, (op, instObj 272 od) ∈ D ∧ (od, dictOf [⟨PyData.keyHash w.params (Str.ofString "_options"), .str (Str.ofString "_options") u1, .ref dd⟩] 1) ∈ D ∧ (dd, oo) ∈ D ∧
    Obj.IsDictOf (PySem.strKind PySem.Challenge.rw_dg5005_01.row.prog w) oo kvs ∧ valueAt kvs (Str.ofString "xhtmlOut") = some (.bool b)
/-- the writer: an object, its dict -/
def RenIn (w : World) (D : List (Addr × Obj)) (ren ru : Addr) : Prop :=
  ∃ rd u1, (ren, instObj 204 rd) ∈ D ∧ (rd, dictOf [⟨PyData.keyHash w.params (Str.ofString "rules"), .str (Str.ofString "rules") u1, .ref ru⟩] 1) ∈ D
theorem OptIn.mono {w : World} {D D' : List (Addr × Obj)} {op : Addr} {b : Bool} (h : OptIn w D op b) (hs : ∀ p ∈ D, p ∈ D') : OptIn w D' op b := by
  obtain ⟨od, dd, oo, u1, kvs, h1, h2, h3, h4, h5⟩ := h
  exact ⟨od, dd, oo, u1, kvs, hs _ h1, hs _ h2, hs _ h3, h4, h5⟩
theorem RenIn.mono {w : World} {D D' : List (Addr × Obj)} {ren ru : Addr} (h : RenIn w D ren ru) (hs : ∀ p ∈ D, p ∈ D') : RenIn w D' ren ru := by
  obtain ⟨rd, u1, h1, h2⟩ := h
  exact ⟨rd, u1, hs _ h1, hs _ h2⟩
/-- where this stands, the walk stops at an augmented assignment -/
structure StopAug : Prop where
-- MACROS BEGIN
local macro_rules | `(tactic| walk_at "exec AugAssign") => `(tactic| (k_here; (have hm9 : StopAug := by assumption); clear hm9; refine stop_here ?_))
local macro_rules | `(tactic| walk_at "subscriptTail Name Name ref int") => `(tactic| (k_here; (with_reducible show wpAny _ _ (subscriptTail _ _ (Value.ref _) (Value.int _ _)) _ _ _); k_dflt (refine' item_ixT ?k1 ?k2 ?k3 ?_ ?k6; (case k1 => k_asm); (case k2 => (repeat' (first | with_reducible exact List.mem_cons_self | with_reducible assumption | with_reducible refine List.mem_cons_of_mem _ ?_))); (case k3 => with_reducible assumption); (case k6 => with_unfolding_all rfl); k_whole)))
local macro_rules | `(tactic| walk_at "subscriptTail Name BinOp ref int") => `(tactic| (k_here; (with_reducible show wpAny _ _ (subscriptTail _ _ (Value.ref _) (Value.int _ _)) _ _ _); k_dflt (refine' item_ixT ?k1 ?k2 ?k3 ?_ ?k6; (case k1 => k_asm); (case k2 => (repeat' (first | with_reducible exact List.mem_cons_self | with_reducible assumption | with_reducible refine List.mem_cons_of_mem _ ?_))); (case k3 => with_reducible assumption); (case k6 => with_unfolding_all rfl); k_whole)))
local macro_rules | `(tactic| walk_at "subscriptTail Attribute Name Name ref str") => `(tactic| (k_here; (with_reducible show wpAny _ _ (subscriptTail _ _ (Value.ref _) (Value.str _ _)) _ _ _); k_dflt (refine' dict_getT ?k1 ?k2 ?k3 ?k4 ?_ ?k6; (case k1 => k_asm); (case k4 => with_reducible assumption); (case k3 => with_reducible assumption); (case k2 => k_mem); (case k6 => with_unfolding_all rfl); k_whole); intro tk htk))
local macro_rules | `(tactic| walk_at "subscriptTail") => `(tactic| (k_here; (with_reducible show wpAny _ _ (subscriptTail _ _ (Value.ref _) (Value.str _ _)) _ _ _); k_dflt (refine' dict_getT ?k1 ?k2 ?k3 ?k4 ?_ ?k6; (case k1 => k_asm); (case k4 => with_reducible assumption); (case k3 => with_reducible assumption); (case k2 => k_mem); (case k6 => with_unfolding_all rfl); k_whole); intro tk htk))
local macro_rules | `(tactic| walk_at "subscriptTail Attribute Name Attribute Name ref str") => `(tactic| (k_here; (with_reducible show wpAny _ _ (subscriptTail _ _ (Value.ref _) (Value.str _ _)) _ _ _); k_dflt (refine' dict_getT ?k1 ?k2 ?k3 ?k4 ?_ ?k6; (case k1 => k_asm); (case k4 => with_reducible assumption); (case k3 => with_reducible assumption); (case k2 => k_mem); (case k6 => with_unfolding_all rfl); k_whole); intro tk htk))
local macro_rules | `(tactic| walk_at "getMethod ref") => `(tactic| (k_here; (with_reducible show wpAny _ _ (getMethod (Value.ref _) (Str.ofString "renderAttrs") _) _ _ _); k_dflt (refine' kmu_sm ?k1 ?k2 ?k4 ?k5 ?k6 ?k7 ?k8 ?k9 ?k10 ?k11 ?k12 ?k13 ?k14 ?_; (case k1 => k_asm); (case k2 => k_asm); (case k4 => k_inst); (case k5 => k_is); (case k6 => k_is); (case k7 => k_is); (case k8 => k_is); (case k9 => k_is); (case k10 => k_is); (case k11 => decide +kernel); (case k12 => k_get); (case k13 => k_is); (case k14 => k_handed); k_whole)))
local macro_rules | `(tactic| walk_at "call ref") => `(tactic| (k_here; (with_reducible show wpAny _ _ (call (Value.ref 142) [Value.ref _]) _ _ _); k_dflt (refine' attrs_use ?k1 ?k2 ?k3 ?k4 ?k5 ?k6 ?k7 ?k8 ?k9 ?k10 ?k11 ?k12 ?k13 ?k14 ?k15 ?k16 ?_; (case k1 => k_asm); (case k2 => k_asm); (case k3 => k_asm); (case k4 => k_asm); (case k5 => k_asm); (case k6 => first | exact rfl | assumption); (case k7 => k_mem); (case k8 => k_mem); (case k9 => k_mem); (case k10 => with_reducible assumption); (case k11 => with_reducible assumption); (case k12 => with_reducible assumption); (case k13 => with_reducible assumption); (case k14 => ktr_room); (case k15 => ktr_units); (case k16 => tb_start)); intro t' h' tk htk F' N'; (try k_sweep)))
-- MACROS END
/-- renderToken, as the walk writes it -/
def rTokW (xh ph : Bool) (tag : Str) (nst : Int) (l : List (Str × Str)) (nx : Option TD) : Str :=
  (if nst = 0 ∧ xh = true then (((if nst ≠ -1 ∧ ph = true then Str.ofString "" ++ Str.ofString "\n" else Str.ofString "") ++ ((if nst = -1 then Str.ofString "</" else Str.ofString "<") ++ tag)) ++ attrR (Str.ofString "") l) ++ Str.ofString " /"
    else (((if nst ≠ -1 ∧ ph = true then Str.ofString "" ++ Str.ofString "\n" else Str.ofString "") ++ ((if nst = -1 then Str.ofString "</" else Str.ofString "<") ++ tag)) ++ attrR (Str.ofString "") l)) ++ (if needLf tag nst nx then Str.ofString ">\n" else Str.ofString ">")
theorem rTokW_eq (xh ph : Bool) (tag : Str) (nst : Int) (i : Addr) (nx : Option TD) : rTokW xh ph tag nst (attrsOf i) nx = rTok (if xh then Str.ofString " /" else Str.ofString "") ph tag nst false i nx := by
  unfold rTokW rTok
  rw [em_app]
  by_cases h0 : nst = 0
  · subst h0
    cases xh
    · simp only [Bool.false_eq_true, and_false, if_false, if_true, app_em]
    · simp only [and_true, if_true, if_false, Bool.false_eq_true]
  · simp only [h0, false_and, if_false, app_em, Bool.false_eq_true]
/-- the tokens about the place -/
def PrevIs (w : World) (D : List (Addr × Obj)) (vs : List Value) (j : Nat) (ph : Bool) : Prop :=
  (j = 0 ∧ ph = false) ∨ (0 < j ∧ ∃ v t, AtIx vs ((j : Int) - 1) v ∧ TokIn w D v t ∧ t.hid = ph)
def NextIs (w : World) (D : List (Addr × Obj)) (vs : List Value) (j : Nat) (nx : Option TD) : Prop :=
  (j + 1 = vs.length ∧ nx = none) ∨ (j + 1 < vs.length ∧ ∃ v t, AtIx vs ((j : Int) + 1) v ∧ TokIn w D v t ∧ nx = some t)
theorem len_ite2 {c : Prop} [Decidable c] {x y : Str} {n : Nat} (h1 : x.length ≤ n) (h2 : y.length ≤ n) : (if c then x else y).length ≤ n := by split <;> assumption
theorem kinds_inline : ∀ kd ∈ kinds, (kd == Str.ofString "inline") = false := by decide +kernel
section
variable {w : World} {p : Program} {loose : List Str} {mean : ExcName → Option Value} {mg mb : Str → Option Value} {dp un : Nat} {gd : Option (List Code)} {cn : Str} {cs : Scope} {a : Addr} {ccd : Value} {cl : List (Str × Addr)} {outer : List Env} {A₀ : Around} {base h₀ : Heap} {L : Addr} {m : Str → Option Value} {news : List (Addr × Obj)} {s : Shared}
  {Q E : Value → Shared → Prop}
theorem token_use {ren ru op env l : Addr} {vs : List Value} {nn j : Nat} {t : Tok} {v : Value} {tag : Str} {nst : Int} {hid : Bool} {i : Addr} {xh ph : Bool} {nx : Option TD}
    (B : Below A₀ base outer h₀) (F : Fr h₀ L s.heap m) (X : (frag.heap_1 w.params).In h₀) (N : News h₀ L s.heap news) (T : Top p loose mean mg mb h₀) (hk : cs.kind = .function)
    (hR : RenIn w news ren ru) (hO : OptIn w news op xh) (hl : (l, listOf vs.toArray nn) ∈ news) (hlen : vs.length ≤ 10000) (hv : vs[j]? = some v) (hT : TokIn w news v (.tok tag nst hid i)) (hP : PrevIs w news vs j ph) (hN : NextIs w news vs j nx)
    (hdp : dp + 20 < recursionLimit) (hun : un + 200 < cLine) (ht : 0 < s.toks)
    (hret : ∀ t' h' tk', 0 < tk' → Fr h₀ L h' m → News h₀ L h' news → Q (.str (if hid then Str.ofString "" else rTokW xh ph tag nst (attrsOf i) nx) t') { s with heap := h', toks := tk' }) :
    wpAny (model PySem.Challenge.rw_dg5005_01.row.prog w) (ktrTop dp un gd cn cs L a ccd cl outer) (call (.ref 135) [.ref ren, .ref l, .int (j : Int) t, .ref op, .ref env]) Q E s := by
  revert X
  k_fill
  intro X
  have hj : j < vs.length := (List.getElem?_eq_some_iff.mp hv).1
  have hAt : AtIx vs (j : Int) v := ⟨Int.natCast_nonneg _, by omega, by rw [Int.toNat_natCast]; exact hv⟩
  obtain ⟨rd, ur, hR1, hR2⟩ := hR
  obtain ⟨od, dd, oo, uo, kvs, hO1, hO2, hO3, hO4, hO5⟩ := hO
  cases hT with
  | @tok x d atr mt oA kd _ t1 t2 t3 _ _ _ u1 u2 u3 u4 u5 u6 u7 hT1 hT2 hT3 hT4 hT5 hT6 hT7 =>
    have hl2 := attrsOf_len i
    have hls := attrsOf_ok i
    have hla : (attrR (Str.ofString "") (attrsOf i)).length ≤ 88220 := by
      have h1 := len_attrR (attrsOf i) (Str.ofString "") hls
      rw [ln_em] at h1
      omega
    have hstop : StopMark := ⟨⟩
    have haug : StopAug := ⟨⟩
    cases hid with
    | true =>
      clear hP hN
      refine wpAny_call ?_
      k_dflt ktr_enter
      k_steps
      exact hret _ _ _ (by tb_start) (by assumption) (by assumption)
    | false =>
      refine wpAny_call ?_
      k_dflt ktr_enter
      k_steps
      (rename Fr _ _ _ _ => F3)
      (rename News _ _ _ _ => N3)
      unfold Stopped
      obtain ⟨r1, hr1⟩ : ∃ r, r = (if nst ≠ -1 ∧ ph = true then Str.ofString "" ++ Str.ofString "\n" else Str.ofString "") := ⟨_, rfl⟩
      have hln1 : r1.length ≤ 1 := by rw [hr1]; exact len_ite2 (by rw [Str.length_append, ln_em, ln_nl]; exact Nat.le_refl _) (by rw [ln_em]; omega)
      refine cutT (fun t' => [(Str.ofString "result", .str r1 t')]) [] F3 N3 ?rest1 ?walk1
      case walk1 =>
        intro Q' hQ'
        clear hstop haug hret hN
        by_cases hm1 : nst = -1
        · have e : r1 = Str.ofString "" := by rw [hr1, if_neg (fun h => h.1 hm1)]
          subst hm1
          subst e
          k_steps
          all_goals first | (exfalso; omega) | exact hQ' _ _ _ _ (by tb_start) (by assumption) (by assumption) (by k_intsEnd) (by ktn_open)
        · rcases hP with ⟨hj0, hph⟩ | ⟨hj0, v', t', hAp, hTp, hph⟩
          · have e : r1 = Str.ofString "" := by rw [hr1, if_neg (fun h => by rw [hph] at h; exact absurd h.2 (by decide))]
            subst hj0 e
            k_steps
            all_goals first | (exfalso; omega) | exact hQ' _ _ _ _ (by tb_start) (by assumption) (by assumption) (by k_intsEnd) (by ktn_open)
          · cases hTp with
            | inl hp1 hp2 hp3 =>
              have e : r1 = Str.ofString "" := by rw [hr1, if_neg (fun h => nomatch (hph.trans h.2 : false = true))]
              subst e
              k_steps
              all_goals first | (exfalso; omega) | exact hQ' _ _ _ _ (by tb_start) (by assumption) (by assumption) (by k_intsEnd) (by ktn_open)
            | @tok xp dp' atrp mtp oAp kdp tagp tp1 tp2 tp3 nstp hidp ip up1 up2 up3 up4 up5 up6 up7 hp1 hp2 hp3 hp4 hp5 hp6 hp7 =>
              have hph' : hidp = ph := hph
              subst hph'
              cases hidp with
              | false =>
                have e : r1 = Str.ofString "" := by rw [hr1, if_neg (fun h => absurd h.2 (by decide))]
                subst e
                k_steps
                all_goals first | (exfalso; omega) | exact hQ' _ _ _ _ (by tb_start) (by assumption) (by assumption) (by k_intsEnd) (by ktn_open)
              | true =>
                have e : r1 = Str.ofString "" ++ Str.ofString "\n" := by rw [hr1, if_pos ⟨hm1, rfl⟩]
                subst e
                k_steps
                all_goals first | (exfalso; omega) | exact hQ' _ _ _ _ (by tb_start) (by assumption) (by assumption) (by k_intsEnd) (by ktn_open)
      clear F3 N3
      intro w1 w2 h3' tk3 htk3 F3 N3
      dsimp only [setAll, freeAll] at F3
      clear hP
      k_steps
      (rename Fr _ _ _ _ => F3)
      (rename News _ _ _ _ => N3)
      unfold Stopped
      obtain ⟨o2, ho2⟩ : ∃ r, r = (if nst = -1 then Str.ofString "</" else Str.ofString "<") := ⟨_, rfl⟩
      have hln2 : o2.length ≤ 2 := by rw [ho2]; exact len_ite2 (by rw [ln_le]; exact Nat.le_refl _) (by rw [ln_lt]; omega)
      refine cutT (fun t' => [(Str.ofString "result", .str (r1 ++ (o2 ++ tag)) t')]) [] F3 N3 ?rest2 ?walk2
      case walk2 =>
        intro Q' hQ'
        clear hstop haug hret hN
        by_cases hm1 : nst = -1
        · have e : o2 = Str.ofString "</" := by rw [ho2, if_pos hm1]
          clear ho2 hr1
          subst hm1
          subst e
          k_steps
          all_goals first | (exfalso; omega) | exact hQ' _ _ _ _ (by tb_start) (by assumption) (by assumption) (by k_intsEnd) (by ktn_open)
        · have e : o2 = Str.ofString "<" := by rw [ho2, if_neg hm1]
          clear ho2 hr1
          subst e
          k_steps
          all_goals first | (exfalso; omega) | exact hQ' _ _ _ _ (by tb_start) (by assumption) (by assumption) (by k_intsEnd) (by ktn_open)
      clear F3 N3
      intro w1 w2 h3' tk3 htk3 F3 N3
      dsimp only [setAll, freeAll] at F3
      clear haug
      k_steps
      (rename Fr _ _ _ _ => F3)
      (rename News _ _ _ _ => N3)
      unfold Stopped
      obtain ⟨r3, hr3⟩ : ∃ r, r = (r1 ++ (o2 ++ tag)) ++ attrR (Str.ofString "") (attrsOf i) := ⟨_, rfl⟩
      have hln3 : r3.length ≤ 90000 := by rw [hr3]; simp only [Str.length_append]; omega
      rw [← hr3] at F3
      obtain ⟨r4, hr4⟩ : ∃ r, r = (if nst = 0 ∧ xh = true then r3 ++ Str.ofString " /" else r3) := ⟨_, rfl⟩
      have hln4 : r4.length ≤ 90002 := by rw [hr4]; exact len_ite2 (by rw [Str.length_append, ln_sl]; omega) (by omega)
      refine cutT (fun t' => [(Str.ofString "result", .str r4 t')]) [] F3 N3 ?rest4 ?walk4
      case walk4 =>
        intro Q' hQ'
        clear hstop hret hN
        by_cases hm1 : nst = 0
        · clear ho2 hr1
          subst hm1
          cases xh with
          | true =>
            have e : r4 = r3 ++ Str.ofString " /" := by rw [hr4, if_pos ⟨rfl, rfl⟩]
            clear hr4
            subst e
            k_steps
            all_goals first | (exfalso; omega) | exact hQ' _ _ _ _ (by tb_start) (by assumption) (by assumption) (by k_intsEnd) (by ktn_open)
          | false =>
            have e : r4 = r3 := by rw [hr4, if_neg (fun h => absurd h.2 (by decide))]
            clear hr4
            subst e
            k_steps
            all_goals first | (exfalso; omega) | exact hQ' _ _ _ _ (by tb_start) (by assumption) (by assumption) (by k_intsEnd) (by ktn_open)
        · have e : r4 = r3 := by rw [hr4, if_neg (fun h => hm1 h.1)]
          clear hr4
          subst e
          k_steps
          all_goals first | (exfalso; omega) | exact hQ' _ _ _ _ (by tb_start) (by assumption) (by assumption) (by k_intsEnd) (by ktn_open)
      clear F3 N3
      intro w1 w2 h3' tk3 htk3 F3 N3
      dsimp only [setAll, freeAll] at F3
      k_steps
      (rename Fr _ _ _ _ => F3)
      (rename News _ _ _ _ => N3)
      unfold Stopped
      obtain ⟨nb, hnb⟩ : ∃ b, b = needLf tag nst nx := ⟨_, rfl⟩
      refine cutT (fun (_ : Unit) => [(Str.ofString "needLf", .bool nb)]) [Str.ofString "nextToken"] F3 N3 ?rest5 ?walk5
      case walk5 =>
        intro Q' hQ'
        clear hstop hret
        by_cases hm1 : nst = 1
        · clear ho2 hr1 hr4
          subst hm1
          rcases hN with ⟨hj1, hnx⟩ | ⟨hj1, v', t', hAn, hTn, hnx⟩
          · have e : nb = true := by rw [hnb, hnx]; rfl
            clear hnb
            subst e
            k_steps
            all_goals first | (exfalso; omega) | exact hQ' _ () _ _ (by tb_start) (by assumption) (by assumption) (by k_intsEnd) (by ktn_open)
          · subst hnx
            cases hTn with
            | inl hp1 hp2 hp3 =>
              have e : nb = false := by rw [hnb]; rfl
              clear hnb
              subst e
              k_steps
              all_goals first | (exfalso; omega) | exact hQ' _ () _ _ (by tb_start) (by assumption) (by assumption) (by k_intsEnd) (by ktn_open)
            | @tok xp dp' atrp mtp oAp kdp tagp tp1 tp2 tp3 nstp hidp ip up1 up2 up3 up4 up5 up6 up7 hp1 hp2 hp3 hp4 hp5 hp6 hp7 =>
              have hki := kinds_inline kdp hp5
              cases hidp with
              | true =>
                have e : nb = false := by rw [hnb]; rfl
                clear hnb
                subst e
                k_steps
                all_goals first | (exfalso; omega) | exact hQ' _ () _ _ (by tb_start) (by assumption) (by assumption) (by k_intsEnd) (by ktn_open)
              | false =>
                by_cases hmn : nstp = -1
                · subst hmn
                  by_cases htg : tagp = tag
                  · subst htg
                    have hbs : (tagp == tagp) = true := beq_self_eq_true tagp
                    have e : nb = false := by rw [hnb]; unfold needLf; simp
                    clear hnb
                    subst e
                    k_steps
                    all_goals first | (exfalso; omega) | exact hQ' _ () _ _ (by tb_start) (by assumption) (by assumption) (by k_intsEnd) (by ktn_open)
                  · have hbs : (tagp == tag) = false := beq_eq_false_iff_ne.mpr htg
                    have e : nb = true := by rw [hnb]; unfold needLf; simp [hbs]
                    clear hnb
                    subst e
                    k_steps
                    all_goals first | (exfalso; omega) | exact hQ' _ () _ _ (by tb_start) (by assumption) (by assumption) (by k_intsEnd) (by ktn_open)
                · have e : nb = true := by rw [hnb]; unfold needLf; simp [hmn]
                  clear hnb
                  subst e
                  k_steps
                  all_goals first | (exfalso; omega) | exact hQ' _ () _ _ (by tb_start) (by assumption) (by assumption) (by k_intsEnd) (by ktn_open)
        · have e : nb = true := by rw [hnb]; unfold needLf; rw [if_neg hm1]
          clear hnb
          subst e
          k_steps
          all_goals first | (exfalso; omega) | exact hQ' _ () _ _ (by tb_start) (by assumption) (by assumption) (by k_intsEnd) (by ktn_open)
      clear F3 N3 hN
      intro w1 w2 h3' tk3 htk3 F3 N3
      dsimp only [setAll, freeAll] at F3
      clear hstop
      have hfin : rTokW xh ph tag nst (attrsOf i) nx = r4 ++ (if nb then Str.ofString ">\n" else Str.ofString ">") := by
        unfold rTokW
        rw [← hnb, ← hr1, ← ho2, ← hr3, ← hr4]
      simp only [Bool.false_eq_true, if_false, hfin] at hret
      cases nb with
      | true =>
        k_steps
        exact hret _ _ _ (by tb_start) (by assumption) (by assumption)
      | false =>
        k_steps
        exact hret _ _ _ (by tb_start) (by assumption) (by assumption)
end

/-! the pieces of the page -/
def prevHid (ts : List TD) : Nat → Bool
  | 0 => false
  | i + 1 => match ts[i]? with
    | some t => t.hid
    | none => false
def piece (slash : Str) (ph : Bool) (t : TD) (nx : Option TD) : Str :=
  match t with
  | .inl x => plainS x
  | .tok tag nst hid set => rTok slash ph tag nst hid set nx
theorem prevHid_succ {ts : List TD} {i : Nat} {t : TD} (h : ts[i]? = some t) : prevHid ts (i + 1) = t.hid := by
  show (match ts[i]? with | some t => t.hid | none => false) = t.hid
  rw [h]
theorem render_step (slash : Str) (ts : List TD) (i : Nat) (t : TD) (h : ts[i]? = some t) : renderAll slash (prevHid ts i) (ts.drop i) = piece slash (prevHid ts i) t ts[i + 1]? ++ renderAll slash (prevHid ts (i + 1)) (ts.drop (i + 1)) := by
  obtain ⟨hi, ht⟩ := List.getElem?_eq_some_iff.mp h
  have hd : ts.drop i = t :: ts.drop (i + 1) := by rw [← ht]; exact List.drop_eq_getElem_cons hi
  have hp : prevHid ts (i + 1) = t.hid := prevHid_succ h
  rw [hd, hp]
  cases t with
  | inl x => rfl
  | tok tag nst hid set =>
    show rTok slash _ tag nst hid set (ts.drop (i + 1)).head? ++ _ = rTok slash _ tag nst hid set ts[i + 1]? ++ _
    rw [List.head?_drop]; rfl
theorem render_end (slash : Str) (ts : List TD) (b : Bool) : renderAll slash b (ts.drop ts.length) = Str.ofString "" := by rw [List.drop_length]; rfl
/-- how long -/
def TD.Ok : TD → Prop
  | .inl x => x.length ≤ 20
  | .tok tag _ _ _ => tag.length ≤ 10
theorem len_rTok (slash : Str) (hs : slash.length ≤ 20) (ph : Bool) (tag : Str) (ht : tag.length ≤ 10) (nst : Int) (hid : Bool) (set : Addr) (nx : Option TD) : (rTok slash ph tag nst hid set nx).length ≤ 90000 := by
  have h1 := len_attrR (attrsOf set) (Str.ofString "") (attrsOf_ok set)
  have h2 := attrsOf_len set
  rw [ln_em] at h1
  unfold rTok
  refine len_ite2 (by rw [ln_em]; omega) ?_
  simp only [Str.length_append]
  have a1 : (if nst ≠ -1 ∧ ph = true then Str.ofString "\n" else Str.ofString "").length ≤ 1 := len_ite2 (by rw [ln_nl]; omega) (by rw [ln_em]; omega)
  have a2 : (if nst = -1 then Str.ofString "</" else Str.ofString "<").length ≤ 2 := len_ite2 (by rw [ln_le]; omega) (by rw [ln_lt]; omega)
  have a3 : (if nst = 0 then slash else Str.ofString "").length ≤ 20 := len_ite2 hs (by rw [ln_em]; omega)
  have a4 : (if needLf tag nst nx = true then Str.ofString ">\n" else Str.ofString ">").length ≤ 2 := len_ite2 (by rw [ln_gn]; omega) (by rw [ln_gt]; omega)
  omega
theorem len_piece (slash : Str) (hs : slash.length ≤ 20) (ph : Bool) (t : TD) (ht : t.Ok) (nx : Option TD) : (piece slash ph t nx).length ≤ 90000 := by
  cases t with
  | inl x => exact Nat.le_trans (len_plain x ht) (by decide)
  | tok tag nst hid set => exact len_rTok slash hs ph tag ht nst hid set nx
theorem TokIn.okT {w : World} {D : List (Addr × Obj)} {v : Value} {t : TD} (h : TokIn w D v t) : t.Ok := by
  cases h with
  | tok _ _ _ _ _ h6 _ => exact h6
  | inl _ _ h3 =>
    cases h3 with
    | none _ => show (Str.ofString "").length ≤ 20; rw [ln_em]; omega
    | word _ h _ _ _ => exact h
/-- the places about a token -/
theorem prev_of {w : World} {D : List (Addr × Obj)} {vs : List Value} {ts : List TD} (h : ToksIn w D vs ts) (j : Nat) (hj : j ≤ vs.length) (hz : vs.length ≤ 10000) : PrevIs w D vs j (prevHid ts j) := by
  cases j with
  | zero => exact .inl ⟨rfl, rfl⟩
  | succ j =>
    have hv : vs[j]? = some vs[j] := List.getElem?_eq_getElem (by omega)
    obtain ⟨t, ht, hT⟩ := h.get j _ hv
    refine .inr ⟨Nat.succ_pos _, vs[j], t, ⟨by omega, by omega, ?_⟩, hT, ?_⟩
    · have e : (((j + 1 : Nat) : Int) - 1).toNat = j := by omega
      rw [e]; exact hv
    · exact (prevHid_succ ht).symm
theorem next_of {w : World} {D : List (Addr × Obj)} {vs : List Value} {ts : List TD} (h : ToksIn w D vs ts) (j : Nat) (hj : j < vs.length) (hz : vs.length ≤ 10000) : NextIs w D vs j ts[j + 1]? := by
  by_cases h1 : j + 1 = vs.length
  · refine .inl ⟨h1, ?_⟩
    rw [List.getElem?_eq_none]
    rw [← h.length]; omega
  · have h2 : j + 1 < vs.length := by omega
    have hv : vs[j + 1]? = some vs[j + 1] := List.getElem?_eq_getElem h2
    obtain ⟨t, ht, hT⟩ := h.get (j + 1) _ hv
    refine .inr ⟨h2, vs[j + 1], t, ⟨by omega, by omega, ?_⟩, hT, ht⟩
    have e : ((j : Int) + 1).toNat = j + 1 := by omega
    rw [e]; exact hv
/-- ''.join -/
def catS (l : List Str) : Str := l.foldl (fun a b => a ++ b) (Str.ofString "")
theorem catS_snoc (l : List Str) (x : Str) : catS (l ++ [x]) = catS l ++ x := by unfold catS; rw [List.foldl_append]; rfl
theorem join_cat (l : List Str) : Txt.join (Str.ofString "") l = catS l := by
  have h0 : (Str.ofString "").cps = #[] := by decide +kernel
  have key : ∀ (r : List Str) (a : Str), (⟨r.foldl (fun acc p => acc ++ #[] ++ p.cps) a.cps⟩ : Str) = r.foldl (fun a b => a ++ b) a := by
    intro r
    induction r with
    | nil => intro a; rfl
    | cons x r ih =>
      intro a
      rw [List.foldl_cons, List.foldl_cons, Array.append_empty]
      exact ih (a ++ x)
  show PySem.Builtin.Str.glued (Str.ofString "") l = catS l
  unfold PySem.Builtin.Str.glued
  rw [h0]
  cases l with
  | nil => decide +kernel
  | cons x r =>
    show (⟨r.foldl (fun acc p => acc ++ #[] ++ p.cps) x.cps⟩ : Str) = _
    rw [key r x]
    unfold catS
    rw [List.foldl_cons, em_app]
theorem strsAre_snoc {vs : List Value} {ss : List Str} {x : Str} {t : Tok} (h : StrsAre vs ss) : StrsAre (vs ++ [.str x t]) (ss ++ [x]) := by
  induction h with
  | nil => exact .cons x t .nil
  | cons y u _ ih => exact .cons y u ih
theorem strsAre_length {vs : List Value} {ss : List Str} (h : StrsAre vs ss) : vs.length = ss.length := by
  induction h with
  | nil => rfl
  | cons y u _ ih => rw [List.length_cons, List.length_cons, ih]
theorem sum_len_le : ∀ (ss : List Str) (n : Nat), (∀ x ∈ ss, x.length ≤ n) → (ss.map (·.length)).sum ≤ n * ss.length
  | [], n, _ => Nat.zero_le _
  | x :: r, n, h => by
    have h1 := h x (.head _)
    have h2 := sum_len_le r n fun y hy => h y (.tail _ hy)
    rw [List.map_cons, List.sum_cons, List.length_cons, Nat.mul_succ]
    omega
theorem joinT {prog : Program} {w : World} {A : Around} {E : Value → Shared → Prop} {s : Shared} {h₀ : Heap} {L D : Addr} {news : List (Addr × Obj)} {vs : List Value} {ss : List Str} {nn : Nat} {t : Tok} {Q : Value → Shared → Prop} (N : News h₀ L s.heap news) (hm : (D, listOf vs.toArray nn) ∈ news) (hs : StrsAre vs ss)
    (hl : ∀ x ∈ ss, x.length ≤ 90000) (hn : ss.length ≤ 100) (ht : 0 < s.toks) (h : ∀ t' k, 0 < k → Q (.str (catS ss) t') { s with toks := k }) : wpAny (model prog w) A (call (.builtin "str.join") [.str (Str.ofString "") t, .ref D]) Q E s := by
  have hL : s.heap.IsList D vs.toArray := ⟨_, (N _ hm).1, rfl, nn, rfl⟩
  have h1 := sum_len_le ss 90000 hl
  refine wpAny_with_toks (n := 1) ht (join_listC hL hs (by rw [ln_em]; omega) (by omega) fun t' k hk => ?_)
  rw [join_cat]
  exact h t' k hk
-- MACROS BEGIN
local macro_rules | `(tactic| walk_at "call builtin:str.join") => `(tactic| (k_here; (with_reducible show wpAny _ _ (call (Value.builtin _) [Value.str _ _, Value.ref _]) _ _ _); k_dflt (refine' joinT ?k1 ?k2 ?k3 ?k4 ?k5 ?k6 ?_; (case k1 => k_asm); (case k2 => k_mem); (case k3 => with_reducible assumption); (case k4 => with_reducible assumption); (case k5 => omega); (case k6 => tb_start)); intro t' tk htk))
-- MACROS END

/-! renderInline -/
theorem in_dictT {w : World} {A : Around} {E : Value → Shared → Prop} {s : Shared} {h₀ : Heap} {L : Addr} {news : List (Addr × Obj)} {d : Addr} {o : Obj} {k : Str} {u : Tok} {b : Bool} {kvs : List (Str × Value)} {Q : Value → Shared → Prop}
    (N : News h₀ L s.heap news) (hm : (d, o) ∈ news) (hd : Obj.IsDictOf (PySem.strKind PySem.Challenge.rw_dg5005_01.row.prog w) o kvs) (hs : (d == sysModules) = false) (hb : (valueAt kvs k).isSome = b) (h : ∀ tk, 0 < tk → Q (.bool b) { s with toks := tk }) :
    wpAny (model PySem.Challenge.rw_dg5005_01.row.prog w) A (compareOp .In (.str k u) (.ref d)) Q E s := by
  have hdo : s.heap.DictOf (PySem.strKind PySem.Challenge.rw_dg5005_01.row.prog w) d kvs := Heap.dictOf_iff.mpr ⟨o, (N _ hm).1, hd⟩
  subst hb
  exact wpAny_in_of (strKind_is _ _ _ _) hs hdo.mapOf (h _ (Nat.succ_pos _))
/-- the writer's table of rules -/
def RulesIn (w : World) (D : List (Addr × Obj)) (ren ru : Addr) : Prop :=
  ∃ oru kvs q, (ru, oru) ∈ D ∧ Obj.IsDictOf (PySem.strKind PySem.Challenge.rw_dg5005_01.row.prog w) oru kvs ∧ valueAt kvs (Str.ofString "text") = some (.ref q) ∧ (q, methodObj (.ref 201) (.ref ren)) ∈ D ∧ (∀ kd ∈ kinds, valueAt kvs kd = none) ∧ (ru == sysModules) = false
theorem RulesIn.mono {w : World} {D D' : List (Addr × Obj)} {ren ru : Addr} (h : RulesIn w D ren ru) (hs : ∀ p ∈ D, p ∈ D') : RulesIn w D' ren ru := by
  obtain ⟨oru, kvs, q, h1, h2, h3, h4, h5, h6⟩ := h
  exact ⟨oru, kvs, q, hs _ h1, h2, h3, hs _ h4, h5, h6⟩
-- MACROS BEGIN
local macro_rules | `(tactic| walk_at "call type:enumerate") => `(tactic| (k_here; (have hm9 : ForMark := by assumption); clear hm9; refine stop_here ?_))
local macro_rules | `(tactic| walk_at "compareOp In str ref") => `(tactic| (k_here; k_dflt (refine' in_dictT ?k1 ?k2 ?k3 ?k4 ?k5 ?_; (case k1 => k_asm); (case k5 => with_reducible assumption); (case k3 => with_reducible assumption); (case k2 => k_mem); (case k4 => with_reducible assumption)); intro tk htk))
-- MACROS END
section
variable {w : World} {p : Program} {loose : List Str} {mean : ExcName → Option Value} {mg mb : Str → Option Value} {dp un : Nat} {gd : Option (List Code)} {cn : Str} {cs : Scope} {a : Addr} {ccd : Value} {cl : List (Str × Addr)} {outer : List Env} {A₀ : Around} {base h₀ : Heap} {L : Addr} {m : Str → Option Value} {news : List (Addr × Obj)} {s : Shared}
  {Q E : Value → Shared → Prop}
theorem inline_use {ren ru op env ch : Addr} {w1 : Str}
    (B : Below A₀ base outer h₀) (F : Fr h₀ L s.heap m) (X : (frag.heap_1 w.params).In h₀) (N : News h₀ L s.heap news) (T : Top p loose mean mg mb h₀) (hk : cs.kind = .function)
    (hR : RenIn w news ren ru) (hU : RulesIn w news ren ru) (hC : InlIn w news ch w1)
    (hdp : dp + 20 < recursionLimit) (hun : un + 200 < cLine) (ht : 0 < s.toks)
    (hret : ∀ t' h' tk', 0 < tk' → Fr h₀ L h' m → News h₀ L h' news → Q (.str (plainS w1) t') { s with heap := h', toks := tk' }) :
    wpAny (model PySem.Challenge.rw_dg5005_01.row.prog w) (ktrTop dp un gd cn cs L a ccd cl outer) (call (.ref 128) [.ref ren, .ref ch, .ref op, .ref env]) Q E s := by
  revert X
  k_fill
  intro X
  obtain ⟨rd, ur, hR1, hR2⟩ := hR
  obtain ⟨oru, kvs, q, hU1, hU2, hU3, hU4, hU5, hU6⟩ := hU
  obtain ⟨vs, nn, hch, hvs⟩ : ∃ vs nn, (ch, listOf vs.toArray nn) ∈ news ∧ ((vs = [] ∧ w1 = Str.ofString "") ∨ (∃ xw dw atr mt t1 t2 t3 t4 u1 u2 u3 u4 u5 u6, vs = [.ref xw] ∧ w1.length ≤ 20 ∧ (xw, instObj 95 dw) ∈ news ∧ (dw, dictOf (wordEs w.params t1 t2 t3 atr mt w1 t4 u1 u2 u3 u4 u5 u6) 6) ∈ news)) := by
    cases hC with
    | none h => exact ⟨[], _, h, .inl ⟨rfl, rfl⟩⟩
    | word _ h2 h3 h4 h5 => exact ⟨_, _, h3, .inr ⟨_, _, _, _, _, _, _, _, _, _, _, _, _, _, rfl, h2, h4, h5⟩⟩
  have hfor : ForMark := ⟨⟩
  refine wpAny_call ?_
  k_dflt ktr_enter
  k_steps
  clear hfor
  (rename Fr _ _ _ _ => F3)
  (rename News _ _ _ _ => N3)
  unfold Stopped
  rename_i ou5 _ hou5 _ _ _
  refine' iter_enumK (σ := List Value × Nat) (x := Str.ofString "i") (fun i σ => StrsAre σ.1 (if i = 0 then [] else [plainS w1])) (fun _ => []) (fun σ => (ou5, listOf σ.1.toArray σ.2) :: news) [Str.ofString "token"] (σ₀ := ([], 0)) ?hh9 ?hl9 F3 N3 ?ht9 ?h09 ?hV9 ?hE9 ?turn9 ?done9
  case hh9 => exact rfl
  case hl9 => exact fun _ _ _ => .tail _ hch
  case ht9 => tb_start
  case h09 => exact .nil
  case hV9 => k_intsEnd
  case hE9 => passes_own
  case done9 =>
    clear F3 N3
    rintro ⟨ovs, on⟩ u9 h9 tk9 hR9 htk9 F9 N9
    have hS : ∃ ss, StrsAre ovs ss ∧ catS ss = plainS w1 ∧ (∀ x ∈ ss, x.length ≤ 90000) ∧ ss.length ≤ 100 := by
      refine ⟨_, hR9, ?_⟩
      rcases hvs with ⟨rfl, rfl⟩ | ⟨xw, dw, atr, mt, t1, t2, t3, t4, u1, u2, u3, u4, u5, u6, rfl, hw, _, _⟩
      · exact ⟨by decide +kernel, (fun x hx => nomatch hx), by decide⟩
      · refine ⟨em_app _, fun x hx => ?_, Nat.le_of_ble_eq_true rfl⟩
        rw [List.mem_singleton.mp hx]
        exact Nat.le_trans (len_plain w1 hw) (by decide)
    obtain ⟨ss, hS1, hS2, hS3, hS4⟩ := hS
    dsimp only [setAll, freeAll] at F9
    k_steps
    have N8 : News h₀ L _ news := newsTail (by assumption)
    rw [hS2]
    exact hret _ _ _ (by assumption) (by assumption) N8
  case turn9 =>
    clear F3 N3 hret
    rintro j v ⟨ovs, on⟩ u9 h9 tk9 I9 oI9 J9 oJ9 T9 t9 hv9 hR9 htk9 hnI hnJ hT9 F9 N9
    rcases hvs with ⟨rfl, _⟩ | ⟨xw, dw, atr, mt, t1, t2, t3, t4, u1, u2, u3, u4, u5, u6, rfl, hw, hx1, hx2⟩
    · cases j <;> cases hv9
    · cases j with
      | succ j => cases j <;> cases hv9
      | zero =>
        cases hv9
        have hAt : AtIx [Value.ref xw] ((0 : Nat) : Int) (.ref xw) := ⟨Int.le_refl _, by decide, rfl⟩
        have hin : (valueAt kvs (Str.ofString "text")).isSome = true := by rw [hU3]; rfl
        have h1 : @Ne Nat ou5 I9 := hnI _ (.head _)
        have h2 : @Ne Nat ou5 J9 := hnJ _ (.head _)
        have h3 : ∀ p ∈ news, p.1 ≠ I9 := fun p hp => hnI p (.tail _ hp)
        have h4 : ∀ p ∈ news, p.1 ≠ J9 := fun p hp => hnJ p (.tail _ hp)
        have h5 : ∀ p ∈ news, p.1 ≠ ou5 := fun p hp => Nat.ne_of_lt (hou5 p hp)
        cases hR9
        dsimp only [setAll, freeAll] at F9
        k_steps
        (rename News _ _ _ _ => N5)
        dsimp only at N5
        rw [List.push_toArray, List.nil_append] at N5
        obtain ⟨t8, N6⟩ : ∃ t8, News _ _ _ ((I9, oI9) :: (J9, oJ9) :: (ou5, listOf [Value.str (plainS w1) t8].toArray (on + 1)) :: news) := ⟨_, N5⟩
        refine' EndK.mk' ([Value.str (plainS w1) t8], on + 1) ?f9 ?n9 ?hI9 ?hG9 ?hn9 ?R9 ?M9
        case f9 => assumption
        case n9 => exact N6
        case M9 => ktd_rel
        case hI9 => exact List.forall_mem_cons.mpr ⟨.head _, List.forall_mem_cons.mpr ⟨.tail _ (.head _), List.forall_mem_nil _⟩⟩
        case hG9 => exact List.forall_mem_cons.mpr ⟨.tail _ (.tail _ (.head _)), fun q hq => .tail _ (.tail _ (.tail _ hq))⟩
        case hn9 =>
          intro q hq r hr
          rcases List.mem_cons.mp hr with rfl | hr
          · rcases List.mem_cons.mp hq with rfl | hq
            · exact h1
            · exact h3 q hq
          · rw [List.mem_singleton.mp hr]
            rcases List.mem_cons.mp hq with rfl | hq
            · exact h2
            · exact h4 q hq
        case R9 => exact .cons _ _ .nil
end

/-! render -/
theorem PrevIs.mono {w : World} {D D' : List (Addr × Obj)} {vs : List Value} {j : Nat} {ph : Bool} (h : PrevIs w D vs j ph) (hs : ∀ p ∈ D, p ∈ D') : PrevIs w D' vs j ph := by
  rcases h with h | ⟨h1, v, t, h2, h3, h4⟩
  · exact .inl h
  · exact .inr ⟨h1, v, t, h2, h3.mono hs, h4⟩
theorem NextIs.mono {w : World} {D D' : List (Addr × Obj)} {vs : List Value} {j : Nat} {nx : Option TD} (h : NextIs w D vs j nx) (hs : ∀ p ∈ D, p ∈ D') : NextIs w D' vs j nx := by
  rcases h with h | ⟨h1, v, t, h2, h3, h4⟩
  · exact .inl h
  · exact .inr ⟨h1, v, t, h2, h3.mono hs, h4⟩
theorem truthy_listT {prog : Program} {w : World} {A : Around} {E : Value → Shared → Prop} {s : Shared} {h₀ : Heap} {L l : Addr} {news : List (Addr × Obj)} {vs : List Value} {nn : Nat} {b : Bool} {Q : Bool → Shared → Prop} (N : News h₀ L s.heap news) (hm : (l, listOf vs.toArray nn) ∈ news) (hl : vs.length ≤ 1000) (hb : (!vs.isEmpty) = b)
    (ht : 0 < s.toks) (h : ∀ tk, 0 < tk → Q b { s with toks := tk }) : wpAny (model prog w) A (truthy (.ref l)) Q E s := by
  have hL : s.heap.IsList l vs.toArray := ⟨_, (N _ hm).1, rfl, nn, rfl⟩
  have e : (!vs.toArray.isEmpty) = b := by rw [← hb]; simp
  refine wpAny_truthy_list hL (by rw [List.size_toArray]; omega) ?_
  rw [e]
  exact h _ (Nat.succ_pos _)
theorem tokX (xh ph : Bool) (slash tag : Str) (nst : Int) (hid : Bool) (i : Addr) (nx : Option TD) (hs : slash = (if xh then Str.ofString " /" else Str.ofString "")) : (if hid then Str.ofString "" else rTokW xh ph tag nst (attrsOf i) nx) = piece slash ph (.tok tag nst hid i) nx := by
  subst hs
  cases hid with
  | true => rfl
  | false => exact rTokW_eq xh ph tag nst i nx
theorem plain_em : plainS (Str.ofString "") = Str.ofString "" := by decide +kernel
/-- the end of a turn of render -/
theorem render_turn {h₀ h' : Heap} {L I J ou : Addr} {oI oJ : Obj} {m₀ m' : Str → Option Value} {news : List (Addr × Obj)} {ovs : List Value} {ss : List Str} {on j tk' : Nat} {slash x : Str} {t : Tok} {ts : List TD} {td : TD} {s₁ : Shared} {ys : List Str} {ob : Obj}
    (F' : Fr h₀ L h' m') (hN : News h₀ L h' ((I, oI) :: (J, oJ) :: (ou, ob) :: news)) (hM : MapIs (Str.ofString "i") ys [] m₀ m') (hob : ob = listOf (ovs ++ [Value.str x t]).toArray (on + 1)) (h1 : @Ne Nat ou I) (h2 : @Ne Nat ou J) (h3 : ∀ p ∈ news, p.1 ≠ I) (h4 : ∀ p ∈ news, p.1 ≠ J)
    (hS1 : StrsAre ovs ss) (hS2 : (catS ss ++ piece slash (prevHid ts j) td ts[j + 1]?) ++ renderAll slash (prevHid ts (j + 1)) (ts.drop (j + 1)) = renderAll slash false ts) (hS3 : ∀ x ∈ ss, x.length ≤ 90000) (hS4 : ss.length ≤ j) (hx : x = piece slash (prevHid ts j) td ts[j + 1]?) (hl : (piece slash (prevHid ts j) td ts[j + 1]?).length ≤ 90000) :
    EndK (σ := List Value × List Str × Nat) h₀ L (Str.ofString "i") ys (fun _ => []) (fun σ => (ou, listOf σ.1.toArray σ.2.2) :: news) m₀ (fun σ => StrsAre σ.1 σ.2.1 ∧ catS σ.2.1 ++ renderAll slash (prevHid ts (j + 1)) (ts.drop (j + 1)) = renderAll slash false ts ∧ (∀ x ∈ σ.2.1, x.length ≤ 90000) ∧ σ.2.1.length ≤ j + 1) [(I, oI), (J, oJ)] s₁ { s₁ with heap := h', toks := tk' } := by
  subst hob hx
  refine EndK.mk' (ovs ++ [Value.str _ t], ss ++ [_], on + 1) F' hN (List.forall_mem_cons.mpr ⟨.head _, List.forall_mem_cons.mpr ⟨.tail _ (.head _), List.forall_mem_nil _⟩⟩) (fun q hq => .tail _ (.tail _ hq)) ?_ ⟨strsAre_snoc hS1, ?_, ?_, ?_⟩ hM
  · intro q hq r hr
    rcases List.mem_cons.mp hr with rfl | hr
    · rcases List.mem_cons.mp hq with rfl | hq
      · exact h1
      · exact h3 q hq
    · rw [List.mem_singleton.mp hr]
      rcases List.mem_cons.mp hq with rfl | hq
      · exact h2
      · exact h4 q hq
  · show catS (ss ++ [_]) ++ _ = _
    rw [catS_snoc]; exact hS2
  · intro y hy
    rcases List.mem_append.mp hy with hy | hy
    · exact hS3 y hy
    · rw [List.mem_singleton.mp hy]; exact hl
  · show (ss ++ [_]).length ≤ j + 1
    rw [List.length_append, List.length_singleton]; omega
-- MACROS BEGIN
local macro_rules | `(tactic| walk_at "truthy ref") => `(tactic| (k_here; k_dflt (first | (refine' truthy_listT (b := true) ?k1 ?k2 ?k3 ?k4 ?k5 ?_; (case k1 => k_asm); (case k2 => k_mem); (case k3 => exact Nat.le_of_ble_eq_true rfl); (case k4 => exact rfl); (case k5 => tb_start)) | (refine' truthy_listT (b := false) ?k1 ?k2 ?k3 ?k4 ?k5 ?_; (case k1 => k_asm); (case k2 => k_mem); (case k3 => exact Nat.le_of_ble_eq_true rfl); (case k4 => exact rfl); (case k5 => tb_start))); intro tk htk))
local macro_rules | `(tactic| walk_at "call ref") => `(tactic| (k_here; (with_reducible show wpAny _ _ (call (Value.ref 135) [Value.ref _, Value.ref _, Value.int _ _, Value.ref _, Value.ref _]) _ _ _); k_dflt (refine' token_use ?k1 ?k2 ?k3 ?k4 ?k5 ?k6 ?k7 ?k8 ?k9 ?k10 ?k11 ?k12 ?k13 ?k14 ?k15 ?k16 ?k17 ?_; (case k1 => k_asm); (case k2 => k_asm); (case k3 => k_asm); (case k4 => k_asm); (case k5 => k_asm); (case k6 => first | exact rfl | assumption); (case k7 => exact RenIn.mono (by with_reducible assumption) (by (intro p9 hp9; (repeat' (first | with_reducible exact List.mem_cons_self | with_reducible assumption | with_reducible refine List.mem_cons_of_mem _ ?_))))); (case k8 => exact OptIn.mono (by with_reducible assumption) (by (intro p9 hp9; (repeat' (first | with_reducible exact List.mem_cons_self | with_reducible assumption | with_reducible refine List.mem_cons_of_mem _ ?_))))); (case k9 => k_mem); (case k10 => omega); (case k11 => with_reducible assumption); (case k12 => exact TokIn.mono (by with_reducible assumption) (by (intro p9 hp9; (repeat' (first | with_reducible exact List.mem_cons_self | with_reducible assumption | with_reducible refine List.mem_cons_of_mem _ ?_))))); (case k13 => exact PrevIs.mono (by with_reducible assumption) (by (intro p9 hp9; (repeat' (first | with_reducible exact List.mem_cons_self | with_reducible assumption | with_reducible refine List.mem_cons_of_mem _ ?_))))); (case k14 => exact NextIs.mono (by with_reducible assumption) (by (intro p9 hp9; (repeat' (first | with_reducible exact List.mem_cons_self | with_reducible assumption | with_reducible refine List.mem_cons_of_mem _ ?_))))); (case k15 => ktr_room); (case k16 => ktr_units); (case k17 => tb_start)); intro t' h' tk htk F' N'; (try k_sweep)))
local macro_rules | `(tactic| walk_at "call ref") => `(tactic| (k_here; (with_reducible show wpAny _ _ (call (Value.ref 128) [Value.ref _, Value.ref _, Value.ref _, Value.ref _]) _ _ _); k_dflt (refine' inline_use ?k1 ?k2 ?k3 ?k4 ?k5 ?k6 ?k7 ?k8 ?k9 ?k10 ?k11 ?k12 ?_; (case k1 => k_asm); (case k2 => k_asm); (case k3 => k_asm); (case k4 => k_asm); (case k5 => k_asm); (case k6 => first | exact rfl | assumption); (case k7 => exact RenIn.mono (by with_reducible assumption) (by (intro p9 hp9; (repeat' (first | with_reducible exact List.mem_cons_self | with_reducible assumption | with_reducible refine List.mem_cons_of_mem _ ?_))))); (case k8 => exact RulesIn.mono (by with_reducible assumption) (by (intro p9 hp9; (repeat' (first | with_reducible exact List.mem_cons_self | with_reducible assumption | with_reducible refine List.mem_cons_of_mem _ ?_))))); (case k9 => exact InlIn.mono (by with_reducible assumption) (by (intro p9 hp9; (repeat' (first | with_reducible exact List.mem_cons_self | with_reducible assumption | with_reducible refine List.mem_cons_of_mem _ ?_))))); (case k10 => ktr_room); (case k11 => ktr_units); (case k12 => tb_start)); intro t' h' tk htk F' N'; (try k_sweep)))
-- MACROS END
section
variable {w : World} {p : Program} {loose : List Str} {mean : ExcName → Option Value} {mg mb : Str → Option Value} {dp un : Nat} {gd : Option (List Code)} {cn : Str} {cs : Scope} {a : Addr} {ccd : Value} {cl : List (Str × Addr)} {outer : List Env} {A₀ : Around} {base h₀ : Heap} {L : Addr} {m : Str → Option Value} {news : List (Addr × Obj)} {s : Shared}
  {Q E : Value → Shared → Prop}
theorem render_use {ren ru op env l : Addr} {vs : List Value} {ts : List TD} {nn : Nat} {xh : Bool}
    (B : Below A₀ base outer h₀) (F : Fr h₀ L s.heap m) (X : (frag.heap_1 w.params).In h₀) (N : News h₀ L s.heap news) (T : Top p loose mean mg mb h₀) (hk : cs.kind = .function)
    (hR : RenIn w news ren ru) (hU : RulesIn w news ren ru) (hO : OptIn w news op xh) (hl : (l, listOf vs.toArray nn) ∈ news) (hts : ToksIn w news vs ts) (hz : vs.length ≤ 100)
    (hdp : dp + 40 < recursionLimit) (hun : un + 400 < cLine) (ht : 0 < s.toks)
    (hret : ∀ t' h' tk', 0 < tk' → Fr h₀ L h' m → News h₀ L h' news → Q (.str (renderAll (if xh then Str.ofString " /" else Str.ofString "") false ts) t') { s with heap := h', toks := tk' }) :
    wpAny (model PySem.Challenge.rw_dg5005_01.row.prog w) (ktrTop dp un gd cn cs L a ccd cl outer) (call (.ref 121) [.ref ren, .ref l, .ref op, .ref env]) Q E s := by
  revert X
  k_fill
  intro X
  have hR0 := hR
  have hU0 := hU
  obtain ⟨rd, ur, hR1, hR2⟩ := hR0
  obtain ⟨oru, kvs, q, hU1, hU2, hU3, hU4, hU5, hU6⟩ := hU0
  obtain ⟨slash, hslash⟩ : ∃ x, x = (if xh then Str.ofString " /" else Str.ofString "") := ⟨_, rfl⟩
  rw [← hslash] at hret
  have hsl : slash.length ≤ 20 := by rw [hslash]; exact len_ite2 (by rw [ln_sl]; omega) (by rw [ln_em]; omega)
  have hfor : ForMark := ⟨⟩
  refine wpAny_call ?_
  k_dflt ktr_enter
  k_steps
  clear hfor
  (rename Fr _ _ _ _ => F3)
  (rename News _ _ _ _ => N3)
  unfold Stopped
  rename_i ou5 _ hou5 _ _ _
  refine' iter_enumK (σ := List Value × List Str × Nat) (x := Str.ofString "i") (fun i σ => StrsAre σ.1 σ.2.1 ∧ catS σ.2.1 ++ renderAll slash (prevHid ts i) (ts.drop i) = renderAll slash false ts ∧ (∀ x ∈ σ.2.1, x.length ≤ 90000) ∧ σ.2.1.length ≤ i) (fun _ => []) (fun σ => (ou5, listOf σ.1.toArray σ.2.2) :: news) [Str.ofString "token"] (σ₀ := ([], [], 0)) ?hh9 ?hl9 F3 N3 ?ht9 ?h09 ?hV9 ?hE9 ?turn9 ?done9
  case hh9 => exact rfl
  case hl9 => exact fun _ _ _ => .tail _ hl
  case ht9 => tb_start
  case h09 => exact ⟨.nil, em_app _, (fun x hx => nomatch hx), Nat.le_refl _⟩
  case hV9 => k_intsEnd
  case hE9 => passes_own
  case done9 =>
    clear F3 N3
    rintro ⟨ovs, ss, on⟩ u9 h9 tk9 ⟨hS1, hS2, hS3, hS4⟩ htk9 F9 N9
    dsimp only at hS1 hS2 hS3 hS4
    have hS5 : ss.length ≤ 100 := Nat.le_trans hS4 hz
    rw [hts.length, render_end, app_em] at hS2
    dsimp only [setAll, freeAll] at F9
    k_steps
    have N8 : News h₀ L _ news := newsTail (by assumption)
    rw [hS2]
    exact hret _ _ _ (by assumption) (by assumption) N8
  case turn9 =>
    clear F3 N3 hret
    rintro j v ⟨ovs, ss, on⟩ u9 h9 tk9 I9 oI9 J9 oJ9 T9 t9 hv9 ⟨hS1, hS2, hS3, hS4⟩ htk9 hnI hnJ hT9 F9 N9
    dsimp only at hS1 hS2 hS3 hS4
    obtain ⟨t, htj, hTj⟩ := hts.get j v hv9
    have hj : j < vs.length := (List.getElem?_eq_some_iff.mp hv9).1
    have hpr := prev_of hts j (Nat.le_of_lt hj) (by omega)
    have hnx := next_of hts j hj (by omega)
    have hAt : AtIx vs (j : Int) v := ⟨Int.natCast_nonneg _, by omega, by rw [Int.toNat_natCast]; exact hv9⟩
    have hstep := render_step slash ts j t htj
    have hlp := len_piece slash hsl (prevHid ts j) t hTj.okT ts[j + 1]?
    have hon : ovs.length ≤ 100 := by rw [strsAre_length hS1]; omega
    rw [hstep, ← app_assoc] at hS2
    have h1 : @Ne Nat ou5 I9 := hnI _ (.head _)
    have h2 : @Ne Nat ou5 J9 := hnJ _ (.head _)
    have h3 : ∀ p ∈ news, p.1 ≠ I9 := fun p hp => hnI p (.tail _ hp)
    have h4 : ∀ p ∈ news, p.1 ≠ J9 := fun p hp => hnJ p (.tail _ hp)
    have h5 : ∀ p ∈ news, p.1 ≠ ou5 := fun p hp => Nat.ne_of_lt (hou5 p hp)
    dsimp only [setAll, freeAll] at F9
    have hTk := hTj
    cases hTj with
    | @tok x d atr mt oA kd tag t1 t2 t3 nst hid i u1 u2 u3 u4 u5 u6 u7 hT1 hT2 hT3 hT4 hT5 hT6 hT7 =>
      have hki := kinds_inline kd hT5
      have hin : (valueAt kvs kd).isSome = false := by rw [hU5 kd hT5]; rfl
      k_steps
      (rename Fr _ _ _ _ => F5)
      (rename News _ _ _ _ => N5)
      refine' render_turn F5 N5 ?hM9 ?hob h1 h2 h3 h4 hS1 hS2 hS3 hS4 ?hx9 hlp
      case hM9 => ktd_rel
      case hob => (dsimp only; rw [List.push_toArray])
      case hx9 => exact tokX _ _ _ _ _ _ _ _ hslash
    | @inl x d atr mt ch w1 t1 t2 t3 u1 u2 u3 u4 u5 u6 u7 u8 hi1 hi2 hi3 =>
      have hi4 := hi3
      cases hi4 with
      | none hc =>
        k_steps
        (rename Fr _ _ _ _ => F5)
        (rename News _ _ _ _ => N5)
        have hpe : piece slash (prevHid ts j) (.inl (Str.ofString "")) ts[j + 1]? = Str.ofString "" := plain_em
        rw [hpe, app_em] at hS2
        refine' EndK.mk' (ovs, ss, on) F5 N5 ?hI9 ?hG9 ?hn9 ?R9 ?M9
        case M9 => ktd_rel
        case hI9 => exact List.forall_mem_cons.mpr ⟨.head _, List.forall_mem_cons.mpr ⟨.tail _ (.head _), List.forall_mem_nil _⟩⟩
        case hG9 => exact fun q hq => .tail _ (.tail _ hq)
        case R9 => exact ⟨hS1, hS2, hS3, Nat.le_succ_of_le hS4⟩
        case hn9 =>
          intro q hq r hr
          rcases List.mem_cons.mp hr with rfl | hr
          · exact hnI q hq
          · rw [List.mem_singleton.mp hr]; exact hnJ q hq
      | word hc1 hc2 hc3 hc4 hc5 =>
        k_steps
        (rename Fr _ _ _ _ => F5)
        (rename News _ _ _ _ => N5)
        refine' render_turn F5 N5 ?hM9 ?hob h1 h2 h3 h4 hS1 hS2 hS3 hS4 ?hx9 hlp
        case hM9 => ktd_rel
        case hob => (dsimp only; rw [List.push_toArray])
        case hx9 => exact rfl
end

/-! the written part of the head that knows the tokens, as ours -/
theorem frag_of {K1 K2 : Frag} {h : Heap} (X : K1.In h) (e : (K2.map fun p => K1.lookup p.1) = K2.map fun p => some p.2) : K2.In h := fun a o hl => by
  have hm := mem_of_lookupK hl
  have key : ∀ (l : Frag), (l.map fun p => K1.lookup p.1) = (l.map fun p => some p.2) → ∀ p ∈ l, K1.lookup p.1 = some p.2 := by
    intro l
    induction l with
    | nil => intro _ p hp; cases hp
    | cons q r ih =>
      intro e p hp
      rw [List.map_cons, List.map_cons] at e
      injection e with e1 e2
      rcases List.mem_cons.mp hp with rfl | hp
      · exact e1
      · exact ih e2 p hp
  exact X a o (key K2 e _ hm)
/-- one statement walked by cases, the rest walked once; the ledger may differ -/
theorem cutN {A : Around} {E : Value → Shared → Prop} {s : Shared} {env : Env} {h₀ : Heap} {Q : Flow → Shared → Prop} {M : Model} {α : Type} {st : Stmt} {L : Addr} {m : Str → Option Value} (P : α → Prop) (kvs : α → List (Str × Value)) (nw : α → List (Addr × Obj)) (ys : List Str) (_F : Fr h₀ L s.heap m)
    (rest : ∀ (u : Str → Option Value) (c : α) h tk, P c → 0 < tk → Fr h₀ L h (setAll (kvs c) (freeAll ys u m)) → News h₀ L h (nw c) → Q .next { s with heap := h, toks := tk })
    (walk : ∀ Q' : Flow → Shared → Prop, (∀ m' c h tk, P c → 0 < tk → Fr h₀ L h m' → News h₀ L h (nw c) → (∀ kv ∈ kvs c, m' kv.1 = some kv.2) → (∀ z, z ∉ ys → (∀ kv ∈ kvs c, z ≠ kv.1) → m' z = m z) → Q' .next { s with heap := h, toks := tk }) → wpAny M A (exec st env) Q' E s) :
    wpAny M A (exec st env) Q E s := by
  refine walk Q fun m' c h tk hP htk F N h1 h2 => rest m' c h tk hP htk ?_ N
  have e : m' = setAll (kvs c) (freeAll ys m' m) := by
    funext z
    exact (setAll_eq h1 fun hn => (freeAll_eq fun hy => h2 z hy hn).symm).symm
  rw [← e]; exact F
theorem ints_mem {vs : List Value} {ns : List Int} (h : IntsAre vs ns) : ∀ v ∈ vs, ∃ i t, v = .int i t := by
  induction h with
  | nil => intro v hv; cases hv
  | cons i t _ ih =>
    intro v hv
    rcases List.mem_cons.mp hv with rfl | hv
    · exact ⟨_, _, rfl⟩
    · exact ih v hv
/-- where this stands, the walk stops at any if -/
structure IfMark : Prop where
/-- where this stands, the walk stops at an assignment of an if expression -/
structure AsgMark : Prop where
theorem news_head {g h : Heap} {L : Addr} {q : Addr × Obj} {l : List (Addr × Obj)} (N : News g L h (q :: l)) : News g L h [q] := fun p hp => by
  rw [List.mem_singleton.mp hp]; exact N q (.head _)
theorem valueAt_cons {k x : Str} {v : Value} {l : List (Str × Value)} : valueAt ((x, v) :: l) k = if x = k then some v else valueAt l k := by
  unfold valueAt
  rw [List.find?_cons]
  by_cases h : x = k
  · rw [if_pos h]; simp only [h, decide_true, Option.map_some]
  · rw [if_neg h]; simp only [h, decide_false]
theorem opt_valueAt {kvs : List (Str × Value)} {D : List (PyData × PyData)} {b : Bool} {k : Str} (hf : PyProof.V.FlatPairs PyData.str kvs ((.str k, .bool b) :: D)) : valueAt kvs k = some (.bool b) := by
  generalize hE : ((PyData.str k, PyData.bool b) :: D) = E at hf
  cases hf with
  | nil => cases hE
  | @cons k' v d kvs' D' hv h =>
    injection hE with e1 e2
    injection e1 with e3 e4
    injection e3 with e5
    subst e5 e4
    rw [PyProof.V.Flat.bool_inv hv, valueAt_cons, if_pos rfl]
def ruleKeys : List Str := [Str.ofString "code_block", Str.ofString "code_inline", Str.ofString "fence", Str.ofString "hardbreak", Str.ofString "image", Str.ofString "softbreak", Str.ofString "text"]
theorem rules_text (q1 q2 q3 q4 q5 q6 q7 : Value) : valueAt [(Str.ofString "code_block", q1), (Str.ofString "code_inline", q2), (Str.ofString "fence", q3), (Str.ofString "hardbreak", q4), (Str.ofString "image", q5), (Str.ofString "softbreak", q6), (Str.ofString "text", q7)] (Str.ofString "text") = some q7 := by
  have h : ∀ x ∈ [Str.ofString "code_block", Str.ofString "code_inline", Str.ofString "fence", Str.ofString "hardbreak", Str.ofString "image", Str.ofString "softbreak"], x ≠ Str.ofString "text" := by decide +kernel
  simp only [List.forall_mem_cons] at h
  obtain ⟨h1, h2, h3, h4, h5, h6, _⟩ := h
  rw [valueAt_cons, if_neg h1, valueAt_cons, if_neg h2, valueAt_cons, if_neg h3, valueAt_cons, if_neg h4, valueAt_cons, if_neg h5, valueAt_cons, if_neg h6, valueAt_cons, if_pos rfl]
theorem rules_kinds (q1 q2 q3 q4 q5 q6 q7 : Value) : ∀ kd ∈ kinds, valueAt [(Str.ofString "code_block", q1), (Str.ofString "code_inline", q2), (Str.ofString "fence", q3), (Str.ofString "hardbreak", q4), (Str.ofString "image", q5), (Str.ofString "softbreak", q6), (Str.ofString "text", q7)] kd = none := by
  intro kd hkd
  have h : ∀ kd ∈ kinds, ∀ x ∈ ruleKeys, x ≠ kd := by decide +kernel
  have h := h kd hkd
  unfold ruleKeys at h
  simp only [List.forall_mem_cons] at h
  obtain ⟨h1, h2, h3, h4, h5, h6, h7, _⟩ := h
  rw [valueAt_cons, if_neg h1, valueAt_cons, if_neg h2, valueAt_cons, if_neg h3, valueAt_cons, if_neg h4, valueAt_cons, if_neg h5, valueAt_cons, if_neg h6, valueAt_cons, if_neg h7]
  rfl
section
variable {w : World} {g h : Heap} {L : Addr} {D : List (Addr × Obj)}
theorem renOf {ren ru rd : Addr} {u1 : Tok} (_N : News g L h D) (h1 : (ren, instObj 204 rd) ∈ D) (h2 : (rd, dictOf [⟨PyData.keyHash w.params (Str.ofString "rules"), .str (Str.ofString "rules") u1, .ref ru⟩] 1) ∈ D) : RenIn w D ren ru := ⟨rd, u1, h1, h2⟩
theorem rulesOf {ren ru q : Addr} {oru : Obj} {kvs : List (Str × Value)} (_R : RenIn w D ren ru) (h1 : (ru, oru) ∈ D) (h2 : Obj.IsDictOf (PySem.strKind PySem.Challenge.rw_dg5005_01.row.prog w) oru kvs) (h3 : valueAt kvs (Str.ofString "text") = some (.ref q)) (h5 : ∀ kd ∈ kinds, valueAt kvs kd = none) (h4 : (q, methodObj (.ref 201) (.ref ren)) ∈ D) (h6 : (ru == sysModules) = false) : RulesIn w D ren ru := ⟨oru, kvs, q, h1, h2, h3, h4, h5, h6⟩
theorem optOf {op od dd : Addr} {oo : Obj} {u1 : Tok} {kvs : List (Str × Value)} {b : Bool} (_N : News g L h D) (h1 : (op, instObj 272 od) ∈ D) (h2 : (od, dictOf [⟨PyData.keyHash w.params (Str.ofString "_options"), .str (Str.ofString "_options") u1, .ref dd⟩] 1) ∈ D) (h3 : (dd, oo) ∈ D) (h4 : Obj.IsDictOf (PySem.strKind PySem.Challenge.rw_dg5005_01.row.prog w) oo kvs) (h5 : valueAt kvs (Str.ofString "xhtmlOut") = some (.bool b)) : OptIn w D op b := ⟨od, dd, oo, u1, kvs, h1, h2, h3, h4, h5⟩
theorem memOf {q : Addr × Obj} (_N : News g L h D) (h : q ∈ D) : q ∈ D := h
theorem toksOf {T : List (Addr × Obj)} {vs : List Value} {ts : List TD} (_N : News g L h D) (h : ToksIn w T vs ts) (hs : ∀ p ∈ T, p ∈ D) : ToksIn w D vs ts := h.mono hs
end
theorem slash_of {sl : Str} {b : Bool} (h : sl = Str.ofString " /" ∨ sl = Str.ofString "") (hb : (sl != Str.ofString "") = b) : sl = (if b then Str.ofString " /" else Str.ofString "") := by
  subst hb
  rcases h with h | h <;> subst h <;> decide +kernel
theorem optCast {w : World} {D : List (Addr × Obj)} {op : Addr} {b c : Bool} (h : OptIn w D op b) (e : b = c) : OptIn w D op c := e ▸ h
theorem law_turn {h₀ h' : Heap} {L I : Addr} {oI : Obj} {m₀ m' : Str → Option Value} {D N' : List (Addr × Obj)} {o o' sl page : Str} {t' : Tok} {ts : List TD} {td : TD} {j tk' : Nat} {ys : List Str} {s₁ : Shared}
    (F' : Fr h₀ L h' m') (hN : News h₀ L h' N') (hin : ∀ p ∈ (I, oI) :: D, p ∈ N') (hne : ∀ p ∈ D, p.1 ≠ I) (hM : MapIs (Str.ofString "k") ys [(Str.ofString "told", .str o' t')] m₀ m') (ho : o' = o ++ piece sl (prevHid ts j) td ts[j + 1]?)
    (hR : (o ++ piece sl (prevHid ts j) td ts[j + 1]?) ++ renderAll sl (prevHid ts (j + 1)) (ts.drop (j + 1)) = page) (hL : o.length ≤ 90000 * j) (hlp : (piece sl (prevHid ts j) td ts[j + 1]?).length ≤ 90000) :
    EndT (σ := Str × Tok) h₀ L (Str.ofString "k") ys (fun σ => [(Str.ofString "told", .str σ.1 σ.2)]) (fun _ => D) m₀ (fun σ => σ.1 ++ renderAll sl (prevHid ts (j + 1)) (ts.drop (j + 1)) = page ∧ σ.1.length ≤ 90000 * (j + 1)) I oI s₁ { s₁ with heap := h', toks := tk' } := by
  subst ho
  refine EndT.mk' (_, t') F' hN (hin _ (.head _)) (fun q hq => hin q (.tail _ hq)) hne ⟨hR, ?_⟩ hM
  show (o ++ piece sl (prevHid ts j) td ts[j + 1]?).length ≤ _
  rw [Str.length_append]; omega
section
variable {w : World} {p : Program} {loose : List Str} {mean : ExcName → Option Value} {mg mb : Str → Option Value} {dp un : Nat} {gd : Option (List Code)} {cn : Str} {cs : Scope} {a : Addr} {ccd : Value} {cl : List (Str × Addr)} {outer : List Env} {A₀ : Around} {base h₀ : Heap} {L : Addr} {m : Str → Option Value} {news : List (Addr × Obj)} {s : Shared}
  {Q E : Value → Shared → Prop}
theorem render_use2 {ren ru op env l : Addr} {vs : List Value} {ts : List TD} {nn : Nat} {xh : Bool} {v : Str}
    (B : Below A₀ base outer h₀) (F : Fr h₀ L s.heap m) (X : (frag.heap_1 w.params).In h₀) (N : News h₀ L s.heap news) (T : Top p loose mean mg mb h₀) (hk : cs.kind = .function)
    (hR : RenIn w news ren ru) (hU : RulesIn w news ren ru) (hO : OptIn w news op xh) (hl : (l, listOf vs.toArray nn) ∈ news) (hts : ToksIn w news vs ts) (hz : vs.length ≤ 100) (hv : renderAll (if xh then Str.ofString " /" else Str.ofString "") false ts = v)
    (hdp : dp + 40 < recursionLimit) (hun : un + 400 < cLine) (ht : 0 < s.toks)
    (hret : ∀ t' h' tk', 0 < tk' → Fr h₀ L h' m → News h₀ L h' news → Q (.str v t') { s with heap := h', toks := tk' }) :
    wpAny (model PySem.Challenge.rw_dg5005_01.row.prog w) (ktrTop dp un gd cn cs L a ccd cl outer) (call (.ref 121) [.ref ren, .ref l, .ref op, .ref env]) Q E s := by
  subst hv
  exact render_use B F X N T hk hR hU hO hl hts hz hdp hun ht hret
end

section
local macro_rules | `(tactic| k_head) => `(tactic| z_head)
open_top hd for PySem.Challenge.rw_dg5005_01
end

-- MACROS BEGIN
local macro_rules | `(tactic| walk_at "call ref") => `(tactic| (k_here; (first | (with_reducible show wpAny _ _ (call (Value.ref 307) [Value.ref _]) _ _ _) | (with_reducible show wpAny _ _ (call (Value.ref 314) [Value.ref _, Value.str _ _]) _ _ _) | (with_reducible show wpAny _ _ (call (Value.ref 328) [Value.ref _, Value.ref _]) _ _ _) | (with_reducible show wpAny _ _ (call (Value.ref 121) [Value.ref _, Value.ref _, Value.ref _, Value.ref _]) _ _ _)); refine stop_here ?_))
local macro_rules | `(tactic| walk_at "exec If") => `(tactic| (k_here; (have hm9 : IfMark := by assumption); clear hm9; refine stop_here ?_))
local macro_rules | `(tactic| walk_at "exec Assign") => `(tactic| (k_here; (have hm9 : AsgMark := by assumption); clear hm9; (with_reducible show wpAny _ _ (exec (Stmt.Assign _ (Expr.IfExp _ _ _ _) _) _) _ _ _); refine stop_here ?_))
local macro_rules | `(tactic| walk_at "exec For Name Call cons nil") => `(tactic| (k_here; (have hm9 : ForMark := by assumption); clear hm9; with_reducible refine wpAny_For ?_ ?_; rotate_left; (intro _; k_dflt (exact rfl))))
local macro_rules | `(tactic| walk_at "call type:range") => `(tactic| (k_here; (have hm9 : ForMark := by assumption); clear hm9; refine stop_here ?_))
-- MACROS END
theorem law_walk : PySem.Challenge.rw_dg5005_01.Holds := hd (by
  have hreg : PySem.Challenge.rw_dg5005_01 = PySem.Challenge.rw_dg5005_01 ∧ frag.heap_1 = frag.heap_1 := by k_fill; exact ⟨rfl, rfl⟩
  clear hreg
  intro w s₀ s₁ mg mb G y fa o pm cd doc dV kV ho hd hcd hD hmg hg args vals as L hpre hlay hrd hwl hlo
  obtain ⟨_, KI, _, ZT⟩ := z_facts (by intro P; kernel_rfl) y
  have KX0 : (frag.heap_1 w.params).In s₀.heap := frag_of KI (by kernel_rfl)
  have KX := Frag.In.keeps KX0 (Laid.keeps L)
  clear y KI KX0
  k_behind G ho hd hcd hD hmg hpre hlay hrd hwl hlo cd
  have htk := script_toks L ZT
  have htk0 : 0 < s₁.toks := Nat.lt_of_lt_of_le (by decide) htk
  show wpAny _ _ _ _ _ _
  k_fold
  have hfor : ForMark := ⟨⟩
  have hifm : IfMark := ⟨⟩
  k_steps
  (rename Fr _ _ _ _ => F3)
  (rename News _ _ _ _ => N3)
  unfold Stopped
  refine cutN (α := Addr × List Value) (fun c => (∀ v ∈ c.2, ∃ i t, v = .int i t) ∧ c.2.length ≤ 20) (fun c => [(Str.ofString "nums", .ref c.1)]) (fun c => [(c.1, listOf c.2.toArray 0)]) [] F3 ?rest1 ?walk1
  case walk1 =>
    intro Q' hQ'
    clear hifm
    k_steps
    · (rename IntsAre _ _ => hI9)
      (rename News _ _ _ _ => N4)
      (rename ((List.take 20 _).length : Int) < 2 => hlt)
      have hlen := hI9.length
      rw [List.length_append] at hlen
      have e3 : [(0 : Int), 2, 1].length = 3 := rfl
      refine hQ' _ (_, _) _ _ ⟨ints_mem hI9, ?_⟩ (by tb_start) (by assumption) (news_head N4) (by k_intsEnd) (by ktn_open)
      dsimp only
      omega
    · (rename IntsAre _ _ => hI9)
      (rename News _ _ _ _ => N4)
      have hlen := hI9.length
      rw [List.length_take] at hlen
      refine hQ' _ (_, _) _ _ ⟨ints_mem hI9, ?_⟩ (by tb_start) (by assumption) (news_head N4) (by k_intsEnd) (by ktn_open)
      dsimp only
      omega
  clear F3 N3
  rintro u1 ⟨nl, nvs⟩ h1 tk1 ⟨hints, hnl⟩ htk1 F3 N3
  dsimp only at hints hnl
  dsimp only [setAll, freeAll] at F3
  clear hifm
  have hasg : AsgMark := ⟨⟩
  k_steps
  (rename Fr _ _ _ _ => F3)
  (rename News _ _ _ _ => N3)
  unfold Stopped
  k_dflt (refine' tree_spec _ _ _ _ _ _ _ _ _ _ _ _ _ _ _ _ _ nl nvs 0 _ ?iB F3 ?iX N3 ?iT ?ik ?il hints ?isz ?idp ?iun ?it ?_)
  case iB => k_asm
  case iX => k_asm
  case iT => k_asm
  case ik => first | exact rfl | assumption
  case il => exact .head _
  case isz => omega
  case idp => ktr_room
  case iun => ktr_units
  case it => tb_start
  intro T1 root rvs rn k h2 tk2 htk2 F4 N4 hroot hkids hksz
  have hksz2 : k.size ≤ 20 := Nat.le_trans hksz hnl
  have N5 : News _ _ _ T1 := N4.perm fun q hq => List.mem_append.mpr (.inl hq)
  clear N4
  k_steps
  (rename Fr _ _ _ _ => F3)
  (rename News _ _ _ _ => N3)
  unfold Stopped
  refine cutN (α := Str × Tok) (fun c => c.1 = Str.ofString " /" ∨ c.1 = Str.ofString "") (fun c => [(Str.ofString "slash", .str c.1 c.2)]) (fun _ => T1) [] F3 ?rest2 ?walk2
  case walk2 =>
    intro Q' hQ'
    clear hasg
    k_steps
    · refine hQ' _ (_, _) _ _ (.inl rfl) (by tb_start) (by assumption) (by assumption) (by k_intsEnd) (by ktn_open)
    · refine hQ' _ (_, _) _ _ (.inr rfl) (by tb_start) (by assumption) (by assumption) (by k_intsEnd) (by ktn_open)
  clear F3 N3
  rintro u2 ⟨sl, st⟩ h3 tk3 hsl htk3 F3 N3
  dsimp only at hsl
  dsimp only [setAll, freeAll] at F3
  clear hasg
  obtain ⟨xh, hxh⟩ : ∃ b, (sl != Str.ofString "") = b := ⟨_, rfl⟩
  have hslx := slash_of hsl hxh
  have hsl20 : sl.length ≤ 20 := by rcases hsl with h | h <;> rw [h] <;> decide +kernel
  k_steps
  (rename Fr _ _ _ _ => F4)
  (rename News _ _ _ _ => N4)
  unfold Stopped
  k_dflt (refine' html_spec k _ _ _ _ _ _ _ _ _ _ _ _ _ _ _ _ _ _ root rvs rn sl st ?iB F4 ?iX N4 ?iT ?ik hroot hkids ?isz hsl20 ?idp ?iun ?it ?_)
  case iB => k_asm
  case iX => k_asm
  case iT => k_asm
  case ik => first | exact rfl | assumption
  case isz => omega
  case idp => have := kids_depth_size k; ktr_room
  case iun => have := kids_depth_size k; ktr_units
  case it => tb_start
  clear F4 N4
  intro pt h4 tk4 htk4 F4 N4
  generalize hpage : htmlA sl (Str.ofString "") false k = page at F4
  k_steps
  (rename Fr _ _ _ _ => F5)
  (rename News _ _ _ _ => N5)
  unfold Stopped
  rename_i tkl5 _ htl5 _ _ _
  k_dflt (refine' lay_spec k _ _ _ _ _ _ _ _ _ _ _ _ _ _ _ _ _ root tkl5 rvs [] rn 0 T1 ?iB F5 ?iX N5 ?iT ?ik hroot hkids ?iR ?isz ?iov ?idp ?iun ?it ?_)
  case iB => k_asm
  case iX => k_asm
  case iT => k_asm
  case ik => first | exact rfl | assumption
  case iR => exact fun q hq => Nat.ne_of_lt (htl5 q hq)
  case isz => omega
  case iov => have := lay_len k; rw [List.length_nil]; omega
  case idp => have := kids_depth_size k; ktr_room
  case iun => have := kids_depth_size k; ktr_units
  case it => tb_start
  clear F5 N5
  intro tl tvs tn h5 tk5 htk5 F5 N5 htoks _ _
  rw [List.nil_append] at N5
  have htlen : tvs.length ≤ 60 := by have h8 := htoks.length; have h9 := lay_len k; omega
  have htoks2 : ToksIn w (tl ++ T1) tvs (lay k) := htoks.mono fun q hq => List.mem_append.mpr (.inl hq)
  generalize tl ++ T1 = T2 at N5 htoks2
  k_steps
  (rename Fr _ _ _ _ => F6)
  (rename News _ _ _ _ => N6)
  unfold Stopped
  have hRen := renOf (w := w) N6 (by (repeat' (first | exact List.mem_cons_self | refine List.mem_cons_of_mem _ ?_))) (by (repeat' (first | exact List.mem_cons_self | refine List.mem_cons_of_mem _ ?_)))
  have hRul := rulesOf hRen (by (repeat' (first | exact List.mem_cons_self | refine List.mem_cons_of_mem _ ?_))) (by assumption) (rules_text _ _ _ _ _ _ _) (rules_kinds _ _ _ _ _ _ _) (by (repeat' (first | exact List.mem_cons_self | refine List.mem_cons_of_mem _ ?_))) (by assumption)
  have hOpt := optOf (w := w) N6 (by (repeat' (first | exact List.mem_cons_self | refine List.mem_cons_of_mem _ ?_))) (by (repeat' (first | exact List.mem_cons_self | refine List.mem_cons_of_mem _ ?_))) (by (repeat' (first | exact List.mem_cons_self | refine List.mem_cons_of_mem _ ?_))) (by assumption) (opt_valueAt (by assumption))
  have hOpt := optCast hOpt hxh
  have hTk := memOf (q := (tkl5, listOf tvs.toArray tn)) N6 (by (repeat' (first | exact List.mem_cons_self | refine List.mem_cons_of_mem _ ?_)))
  have hTs := toksOf N6 htoks2 (by intro q hq; repeat' (first | exact hq | refine List.mem_cons_of_mem _ ?_))
  refine (?_ : ∀ D, News _ _ _ D → RenIn w D _ _ → RulesIn w D _ _ → OptIn w D _ xh → (tkl5, listOf tvs.toArray tn) ∈ D → ToksIn w D tvs (lay k) → _) _ N6 hRen hRul hOpt hTk hTs
  clear N6 hRen hRul hOpt hTk hTs htoks htoks2
  intro D N6 hRen hRul hOpt hTk hTs
  have hRen0 := hRen
  obtain ⟨rd, ur, hR1, hR2⟩ := hRen0
  have hplain : renderAll sl false (lay k) = page := (plain_law sl k).trans hpage
  generalize lay k = ts at hTs hplain
  clear hfor
  refine' iter_rangeT (σ := Str × Tok) (fun i σ => σ.1 ++ renderAll sl (prevHid ts i) (ts.drop i) = page ∧ σ.1.length ≤ 90000 * i) (fun σ => [(Str.ofString "told", .str σ.1 σ.2)]) (fun _ => D) [] (σ₀ := (Str.ofString "", ?t9)) ?hx9 ?hp9 ?hh9 ?hz9 F6 N6 ?h09 ?hV9 ?hE9 ?turn9 ?done9
  case hx9 => exact rfl
  case hp9 => exact rfl
  case hh9 => exact rfl
  case hz9 => omega
  case h09 => exact ⟨(em_app _).trans hplain, by rw [ln_em]; omega⟩
  case hV9 => k_intsEnd
  case hE9 => passes_own
  case done9 =>
    clear F6 N6
    rintro ⟨o9, t9⟩ u9 h9 tk9 ⟨hR9, hL9⟩ htk9 F9 N9
    dsimp only at hR9
    rw [hTs.length, render_end, app_em] at hR9
    subst hR9
    have hpp : (o9 == o9) = true := beq_self_eq_true o9
    dsimp only [setAll, freeAll] at F9
    k_steps
    (rename Fr _ _ _ _ => F5)
    (rename News _ _ _ _ => N5)
    unfold Stopped
    have hv9 : renderAll (if xh then Str.ofString " /" else Str.ofString "") false ts = o9 := hslx ▸ hplain
    k_dflt (refine' render_use2 ?kB F5 ?kX N5 ?kT ?kk ?kR ?kU ?kO ?kl ?kts ?kz hv9 ?kdp ?kun ?kt ?_)
    case kB => k_asm
    case kX => k_asm
    case kT => k_asm
    case kk => first | exact rfl | assumption
    case kR => exact RenIn.mono hRen (by (intro p9 hp9; (repeat' (first | with_reducible exact List.mem_cons_self | with_reducible assumption | with_reducible refine List.mem_cons_of_mem _ ?_))))
    case kU => exact RulesIn.mono hRul (by (intro p9 hp9; (repeat' (first | with_reducible exact List.mem_cons_self | with_reducible assumption | with_reducible refine List.mem_cons_of_mem _ ?_))))
    case kO => exact OptIn.mono hOpt (by (intro p9 hp9; (repeat' (first | with_reducible exact List.mem_cons_self | with_reducible assumption | with_reducible refine List.mem_cons_of_mem _ ?_))))
    case kl => k_mem
    case kts => exact ToksIn.mono hTs (by (intro p9 hp9; (repeat' (first | with_reducible exact List.mem_cons_self | with_reducible assumption | with_reducible refine List.mem_cons_of_mem _ ?_))))
    case kz => omega
    case kdp => ktr_room
    case kun => ktr_units
    case kt => tb_start
    clear F5 N5
    intro t8 h8 tk8 htk8 F8 N8
    iterate 2 walk1
    k_unfold
    dsimp only
    exact goodW_bool F8 hg (fun _ => rfl) (by rw [hpp]; first | kernel_rfl | rfl | (simp [OpenLaw.row]; done))
  case turn9 =>
    clear F6 N6
    rintro j t8 ⟨o9, t9⟩ u9 h9 tk9 I9 oI9 hj ⟨hR9, hL9⟩ htk9 hn9 F9 N9
    dsimp only at hR9 hL9
    have hvj : tvs[j]? = some tvs[j] := List.getElem?_eq_getElem hj
    generalize tvs[j] = v9 at hvj
    obtain ⟨td, htj, hTj⟩ := hTs.get j v9 hvj
    have hpr := prev_of hTs j (Nat.le_of_lt hj) (by omega)
    have hnx := next_of hTs j hj (by omega)
    have hAt : AtIx tvs (j : Int) v9 := ⟨Int.natCast_nonneg _, by omega, by rw [Int.toNat_natCast]; exact hvj⟩
    have hstep := render_step sl ts j td htj
    have hlp := len_piece sl hsl20 (prevHid ts j) td hTj.okT ts[j + 1]?
    have hL10 : o9.length ≤ 6000000 := by omega
    rw [hstep, ← app_assoc] at hR9
    dsimp only [setAll, freeAll] at F9
    have hTk9 := hTj
    cases hTj with
    | @tok x d atr mt oA kd tag t1 t2 t3 nst hid i u1 u2 u3 u4 u5 u6 u7 hT1 hT2 hT3 hT4 hT5 hT6 hT7 =>
      have hki := kinds_inline kd hT5
      have hpx := tokX xh (prevHid ts j) sl tag nst hid i ts[j + 1]? hslx
      have hpl : (if hid then Str.ofString "" else rTokW xh (prevHid ts j) tag nst (attrsOf i) ts[j + 1]?).length ≤ 90000 := by rw [hpx]; exact hlp
      k_steps
      (rename Fr _ _ _ _ => F5)
      (rename News _ _ _ _ => N5)
      refine' law_turn F5 N5 ?in9 hn9 ?hM9 ?ho9 hR9 hL9 hlp
      case in9 => exact fun q hq => .tail _ hq
      case hM9 => ktd_rel
      case ho9 => rw [hpx]
    | @inl x d atr mt ch w1 t1 t2 t3 u1 u2 u3 u4 u5 u6 u7 u8 hi1 hi2 hi3 =>
      have hpl : (plainS w1).length ≤ 90000 := hlp
      k_steps
      (rename Fr _ _ _ _ => F5)
      (rename News _ _ _ _ => N5)
      refine' law_turn F5 N5 ?in9 hn9 ?hM9 ?ho9 hR9 hL9 hlp
      case in9 => exact fun q hq => .tail _ hq
      case hM9 => ktd_rel
      case ho9 => exact rfl)


end Mine
theorem PySem.Challenge.cw_dg5005_01_holds : PySem.Challenge.rw_dg5005_01.Holds :=
  Mine.law_walk
