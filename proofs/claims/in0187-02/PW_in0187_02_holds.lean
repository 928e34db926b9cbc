import PyProof.Rows.All
import Wide.All
import OpenK.AllK
import Wide.FinOn
import ObjForm.ListNI
import KE.KPop
import KE.KPopAny
import OpenK.KCell
import PyProof.CompFree
import KE.KSuper
import KE.KSuperObj
import KE.KBoundM
import KE.KLam
import KE.KNest
import PyProof.Rows.RuleB_small
import PyProof.Rows.RuleB_xor
import OpenK.KEqL
import KE.KSliceW
import PyProof.Rows.ListMul
import PyProof.Rows.ListMulCarried
import KE.LcSums
import PySem.Challenge.RW_in0187_02
open PySem PySem.W PySem.Calls PyProof.Rows Builtin Builtin.ObjectAttr
set_option Elab.async false
set_option linter.unusedVariables false
set_option maxRecDepth 100000
set_option maxHeartbeats 8000000
namespace Mine
open_top hd for PySem.Challenge.rw_in0187_02
theorem fill : (PySem.Challenge.rw_in0187_02, hd.heap_39) = (PySem.Challenge.rw_in0187_02, hd.heap_39) := by k_fill; rfl
section
/-- everything outside S stays -/
def Ch (S : List Addr) (h h' : Heap) : Prop := ∀ a o, a ∉ S → h.get? a = some o → h'.get? a = some o
abbrev cellO (v : Option Value) : Obj := { cls := .type "cell", data := .cell v }
/-- a cell whose head isn't told -/
abbrev cellW (cl : Value) (di : Option Addr) (sl : Array (Option Value)) (v : Option Value) : Obj := ⟨cl, di, .cell v, sl⟩
abbrev tupO (vs : List Value) : Obj := { cls := .type "tuple", data := .seq vs.toArray }
/-- tuples stay -/
def TK (h h' : Heap) : Prop := ∀ a vs, h.get? a = some (tupO vs) → h'.get? a = some (tupO vs)

theorem Ch.refl (S : List Addr) (h : Heap) : Ch S h h := fun _ _ _ e => e
theorem Ch.trans {S : List Addr} {a b c : Heap} (x : Ch S a b) (y : Ch S b c) : Ch S a c := fun q o n e => y q o n (x q o n e)
theorem Ch.mono {S T : List Addr} {a b : Heap} (x : Ch S a b) (h : ∀ q, q ∈ S → q ∈ T) : Ch T a b := fun q o n e => x q o (fun m => n (h q m)) e
theorem Ch.of_same {a : Addr} {h h' : Heap} (x : Heap.SameBut a h h') : Ch [a] h h' := fun q o n e => (x.2 q (by simpa using n)).trans e
theorem TK.refl (h : Heap) : TK h h := fun _ _ e => e
theorem TK.trans {a b c : Heap} (x : TK a b) (y : TK b c) : TK a c := fun q o e => y q o (x q o e)
theorem TK.of_keep {a b : Heap} (x : ∀ q o, a.get? q = some o → b.get? q = some o) : TK a b := fun q _ e => x q _ e
theorem TK.of_ch {S : List Addr} {a b : Heap} (x : Ch S a b) (h : ∀ q ∈ S, ∀ vs, a.get? q ≠ some (tupO vs)) : TK a b := fun q vs e => x q _ (fun m => h q m vs e) e

/-- a list of values bears a list of data -/
def RelL {κ : Type} (R : Value → κ → Prop) (vs : List Value) (ks : List κ) : Prop :=
  vs.length = ks.length ∧ ∀ (i : Nat) (v : Value) (k : κ), vs[i]? = some v → ks[i]? = some k → R v k

section
variable {κ : Type} {R R' : Value → κ → Prop} {vs : List Value} {ks : List κ}
theorem RelL.mono (h : RelL R vs ks) (hr : ∀ v k, R v k → R' v k) : RelL R' vs ks := ⟨h.1, fun i v k a b => hr v k (h.2 i v k a b)⟩
theorem RelL.nil : RelL R [] [] := ⟨rfl, fun i v k a _ => by simp at a⟩
theorem RelL.get (h : RelL R vs ks) {i : Nat} {k : κ} (hk : ks[i]? = some k) : ∃ v, vs[i]? = some v ∧ R v k := by
  have hi : i < ks.length := (List.getElem?_eq_some_iff.mp hk).1
  have hi' : i < vs.length := h.1 ▸ hi
  exact ⟨vs[i], List.getElem?_eq_getElem hi', h.2 i _ _ (List.getElem?_eq_getElem hi') hk⟩
theorem RelL.set (h : RelL R vs ks) {i : Nat} {v : Value} {k : κ} (hr : R v k) : RelL R (vs.set i v) (ks.set i k) := by
  refine ⟨by simp [h.1], fun j v' k' a b => ?_⟩
  rw [List.getElem?_set] at a b
  by_cases e : i = j
  · subst e
    simp only [if_true] at a b
    split at a
    · split at b
      · cases a; cases b; exact hr
      · cases b
    · cases a
  · simp only [e, if_false] at a b
    exact h.2 j v' k' a b
theorem RelL.push (h : RelL R vs ks) {v : Value} {k : κ} (hr : R v k) : RelL R (vs ++ [v]) (ks ++ [k]) := by
  refine ⟨by simp [h.1], fun j v' k' a b => ?_⟩
  by_cases e : j < vs.length
  · rw [List.getElem?_append_left e] at a
    rw [List.getElem?_append_left (h.1 ▸ e)] at b
    exact h.2 j v' k' a b
  · have e' : vs.length ≤ j := Nat.le_of_not_lt e
    rw [List.getElem?_append_right e'] at a
    rw [List.getElem?_append_right (h.1 ▸ e')] at b
    rw [h.1] at a
    cases hj : j - ks.length with
    | zero => rw [hj] at a b; cases a; cases b; exact hr
    | succ n => rw [hj] at a; simp at a
theorem RelL.take (h : RelL R vs ks) (n : Nat) : RelL R (vs.take n) (ks.take n) := by
  refine ⟨by simp [h.1], fun j v' k' a b => ?_⟩
  rw [List.getElem?_take] at a b
  split at a
  · rename_i hj
    rw [if_pos hj] at b
    exact h.2 j v' k' a b
  · cases a
theorem RelL.dropLast (h : RelL R vs ks) : RelL R vs.dropLast ks.dropLast := by
  rw [List.dropLast_eq_take, List.dropLast_eq_take, ← h.1]; exact h.take _
theorem RelL.cons {v : Value} {k : κ} (hr : R v k) (h : RelL R vs ks) : RelL R (v :: vs) (k :: ks) := by
  refine ⟨by simp [h.1], fun j v' k' a b => ?_⟩
  cases j with
  | zero => cases a; cases b; exact hr
  | succ j => exact h.2 j v' k' (by simpa using a) (by simpa using b)
end

/-- values in an order that the program's < tells -/
structure Ordv (κ : Type) where
  rel : Heap → Value → κ → Prop
  lt : κ → κ → Bool
  keep : ∀ {h h' : Heap} {v : Value} {k : κ}, TK h h' → rel h v k → rel h' v k
  cmp : ∀ {prog : Program} {w : World} {A : Around} {E : Value → Shared → Prop} {s : Shared} {a b : Value} {x y : κ} {Q : Value → Shared → Prop},
    A.units < cLine → rel s.heap a x → rel s.heap b y → Q (.bool (lt x y)) s → wpAny (model prog w) A (compareOp .Lt a b) Q E s

/-- the ground: the text's objects and the top -/
structure Base (w : World) (p : Program) (loose : List Str) (mean : ExcName → Option Value) (mg mb : Str → Option Value) (b : Heap) : Prop where
  X : (hd.heap_39 w.params).In b
  T : Top p loose mean mg mb b

section
variable {w : World} {p : Program} {loose : List Str} {mean : ExcName → Option Value} {mg mb : Str → Option Value} {b h : Heap}
theorem Base.keeps (B : Base w p loose mean mg mb b) (k : b.StaysIn h) : Base w p loose mean mg mb h := ⟨B.X.keeps k, B.T.keeps k⟩
end

section
variable {prog : Program} {w : World} {A : Around} {E : Value → Shared → Prop} {s : Shared} {env : Env} {Q : Flow → Shared → Prop}
theorem while_ind {test : Expr} {body : List Stmt} {pos : Pos} (I : Nat → Shared → Prop)
    (turn : ∀ n s, I n s → wpAny (model prog w) A (isTrue test env (eval test env)) (fun b s₂ =>
      if b = true then wpAny (model prog w) A (execs body env) (fun f s₃ => match f with
          | .next | .cont => ∃ m, m < n ∧ I m s₃
          | .brk => Q .next s₃
          | .ret v => Q (.ret v) s₃) (fun _ _ => False) s₂
      else Q .next s₂) (fun _ _ => False) s)
    (n : Nat) (h : I n s) : wpAny (model prog w) A (exec (.While test body [] pos) env) Q E s := by
  refine wpAny_While (codeAny_whileLoop I (fun n s' hI => ?_) n h)
  refine wpAny_mono (turn n s' hI) (fun b s₂ h₂ => ?_) fun _ _ x => x.elim
  cases b with
  | false =>
    simp only [Bool.false_eq_true, if_false] at h₂ ⊢
    exact wpAny_execs_nil h₂
  | true =>
    simp only [if_true] at h₂ ⊢
    exact wpAny_mono h₂ (fun f s₃ h₃ => by cases f <;> exact h₃) fun _ _ x => x.elim
theorem next_cut {st : Stmt} (Y : Shared → Prop) (h1 : wpAny (model prog w) A (exec st env) (fun f s' => f = .next ∧ Y s') (fun _ _ => False) s) (h2 : ∀ s', Y s' → Q .next s') :
    wpAny (model prog w) A (exec st env) Q E s := wpAny_mono h1 (fun f s' h => by rw [h.1]; exact h2 s' h.2) fun _ _ x => x.elim
theorem while_cut {test : Expr} {body : List Stmt} {pos : Pos} (I : Nat → Shared → Prop) (X : Shared → Prop)
    (turn : ∀ n s, I n s → wpAny (model prog w) A (isTrue test env (eval test env)) (fun b s₂ =>
      if b = true then wpAny (model prog w) A (execs body env) (fun f s₃ => match f with
          | .next | .cont => ∃ m, m < n ∧ I m s₃
          | .brk => X s₃
          | .ret v => Q (.ret v) s₃) (fun _ _ => False) s₂
      else X s₂) (fun _ _ => False) s)
    (n : Nat) (h : I n s) (fin : ∀ s', X s' → Q .next s') : wpAny (model prog w) A (exec (.While test body [] pos) env) Q E s := by
  refine while_ind I (fun n s' hI => wpAny_mono (turn n s' hI) (fun b s₂ h₂ => ?_) fun _ _ x => x) n h
  cases b with
  | false =>
    simp only [Bool.false_eq_true, if_false] at h₂ ⊢
    exact fin _ h₂
  | true =>
    simp only [if_true] at h₂ ⊢
    exact wpAny_mono h₂ (fun f s₃ h₃ => by cases f <;> first | exact h₃ | exact fin _ h₃) fun _ _ x => x
end

/-- the frame, the ledger, the ground -/
structure FB (w : World) (p : Program) (loose : List Str) (mean : ExcName → Option Value) (mg mb : Str → Option Value) (g : Heap) (L : Addr) (h : Heap) (m : Str → Option Value) (news : List (Addr × Obj)) : Prop where
  ns : h.Ns L m
  keep : ∀ a o, g.get? a = some o → h.get? a = some o
  out : g.get? L = none
  N : ∀ q ∈ news, h.get? q.1 = some q.2 ∧ q.1 ≠ L ∧ g.get? q.1 = none
  B : Base w p loose mean mg mb g

section
variable {w : World} {p : Program} {loose : List Str} {mean : ExcName → Option Value} {mg mb : Str → Option Value} {g g' h h' : Heap} {L l : Addr} {m m' : Str → Option Value} {news news' : List (Addr × Obj)} {o o' : Obj}
theorem FB.at_ (f : FB w p loose mean mg mb g L h m news) {a : Addr} {o : Obj} (hm : (a, o) ∈ news) : h.get? a = some o := (f.N _ hm).1
theorem FB.new_ (f : FB w p loose mean mg mb g L h m news) {a : Addr} {o : Obj} (hm : (a, o) ∈ news) : g.get? a = none := (f.N _ hm).2.2
theorem FB.ch (f : FB w p loose mean mg mb g L h m news) (C : Ch [l] h h') (U : Upd l o o' news news') (ho : h'.get? l = some o') : FB w p loose mean mg mb g L h' m news' := by
  obtain ⟨pre, post, rfl, rfl, h1, h2⟩ := U.split
  have z := f.N (l, o) (List.mem_append_right _ (.head _))
  obtain ⟨oL, es, ep, hL, r⟩ := f.ns
  refine ⟨⟨oL, es, ep, C _ _ (by simpa using Ne.symm z.2.1) hL, r⟩, fun b x e => C _ _ (by rw [List.mem_singleton]; rintro rfl; rw [z.2.2] at e; cases e) (f.keep b x e), f.out, fun p hp => ?_, f.B⟩
  rcases List.mem_append.mp hp with hp | hp
  · have y := f.N p (List.mem_append_left _ hp)
    exact ⟨C _ _ (by simpa using h1 p hp) y.1, y.2⟩
  · rcases List.mem_cons.mp hp with rfl | hp
    · exact ⟨ho, z.2⟩
    · have y := f.N p (List.mem_append_right _ (.tail _ hp))
      exact ⟨C _ _ (by simpa using h2 p hp) y.1, y.2⟩
theorem FB.loc (f : FB w p loose mean mg mb g L h m news) (hn : h'.Ns L m') (hs : Heap.SameBut L h h') : FB w p loose mean mg mb g L h' m' news :=
  ⟨hn, fun a x e => (hs.2 a (by rintro rfl; rw [f.out] at e; cases e)).trans (f.keep a x e), f.out, fun q hq => ⟨(hs.2 _ (f.N q hq).2.1).trans (f.N q hq).1, (f.N q hq).2⟩, f.B⟩
theorem FB.all (f : FB w p loose mean mg mb g L h m news) (k : ∀ a o, h.get? a = some o → h'.get? a = some o) : FB w p loose mean mg mb g L h' m news :=
  ⟨f.ns.keeps k, fun a x e => k _ _ (f.keep a x e), f.out, fun q hq => ⟨k _ _ (f.N q hq).1, (f.N q hq).2⟩, f.B⟩
theorem FB.sub (f : FB w p loose mean mg mb g L h m news) (k : ∀ q ∈ news', q ∈ news) : FB w p loose mean mg mb g L h m news' :=
  ⟨f.ns, f.keep, f.out, fun q hq => f.N q (k q hq), f.B⟩
theorem FB.cons (f : FB w p loose mean mg mb g L h m news) (ho : h.get? l = some o) (hL : l ≠ L) (hg : g.get? l = none) : FB w p loose mean mg mb g L h m ((l, o) :: news) :=
  ⟨f.ns, f.keep, f.out, fun q hq => by rcases List.mem_cons.mp hq with rfl | hq; exact ⟨ho, hL, hg⟩; exact f.N q hq, f.B⟩
theorem FB.push (f : FB w p loose mean mg mb g L h m news) (o : Obj) (hf : o.isFreed = false := by rfl) : FB w p loose mean mg mb g L (h.push o) m ((h.objs.size, o) :: news) := by
  obtain ⟨oL, _, _, hL, _⟩ := f.ns
  refine (f.all fun a x e => Heap.get?_push_of_some _ e).cons (Heap.get?_push_size _ hf) (Nat.ne_of_gt (Heap.lt_size hL)) ?_
  cases hq : g.get? h.objs.size with
  | none => rfl
  | some o' => exact absurd (Heap.lt_size (f.keep _ _ hq)) (Nat.lt_irrefl _)
theorem FB.lt (f : FB w p loose mean mg mb g L h m news) : ∀ q ∈ news, q.1 < h.objs.size := fun q hq => Heap.lt_size (f.N q hq).1
theorem FB.back (f : FB w p loose mean mg mb g' L h m news) (k : g.StaysIn g') (B : Base w p loose mean mg mb g) : FB w p loose mean mg mb g L h m news :=
  have none_ : ∀ a, g'.get? a = none → g.get? a = none := fun a e => by
    cases q : g.get? a with
    | none => rfl
    | some o => rw [k a o q] at e; cases e
  ⟨f.ns, fun a o e => f.keep a o (k a o e), none_ _ f.out, fun q hq => ⟨(f.N q hq).1, (f.N q hq).2.1, none_ _ (f.N q hq).2.2⟩, B⟩
theorem FB.rebase (f : FB w p loose mean mg mb g L h m news) (hs : ∀ q ∈ news', q ∈ news) (hnt : ∀ q ∈ news', ∀ vs, q.2 ≠ tupO vs) :
    ∃ g', FB w p loose mean mg mb g' L h m news' ∧ g.StaysIn g' ∧ Ch (L :: news'.map (·.1)) h g' ∧ TK h g' := by
  have out : ∀ a, g.get? a ≠ none → a ∉ L :: news'.map (·.1) := fun a e hm => by
    rcases List.mem_cons.mp hm with rfl | hm
    · exact e f.out
    · obtain ⟨q, hq, rfl⟩ := List.mem_map.mp hm
      exact e (f.N q (hs q hq)).2.2
  have st : g.StaysIn (hideAll h (L :: news'.map (·.1))) := fun a o e => hideAll_get _ (f.keep a o e) (out a (by rw [e]; simp))
  refine ⟨hideAll h (L :: news'.map (·.1)), ⟨f.ns, fun a o e => of_hideAll _ e, hideAll_none _ (.head _), fun q hq => ⟨(f.N q (hs q hq)).1, (f.N q (hs q hq)).2.1, hideAll_none _ (.tail _ (List.mem_map_of_mem hq))⟩, f.B.keeps st⟩, st,
    fun a o n e => hideAll_get _ e n, fun a vs e => hideAll_get _ e fun hm => ?_⟩
  rcases List.mem_cons.mp hm with rfl | hm
  · obtain ⟨oL, es, ep, hL, hd, _⟩ := f.ns
    rw [e] at hL; cases hL; cases hd
  · obtain ⟨q, hq, rfl⟩ := List.mem_map.mp hm
    have z := (f.N q (hs q hq)).1
    rw [e] at z
    exact hnt q hq vs (Option.some.inj z).symm
end

section
variable {prog : Program} {w : World} {A : Around} {E : Value → Shared → Prop} {p : Program} {loose : List Str} {mean : ExcName → Option Value} {mg mb : Str → Option Value} {b h : Heap} {ge : Array GenState} {dr : Drawn} {tk : Nat} {os : OsState}
  {name qual : Str} {params : Arguments} {body : List Stmt} {scope : Scope} {dV kV doc pm cdv ct oc : Value} {an od : Option Addr} {osl : Array (Option Value)} {f : Addr} {vals : List Value} {binds : List (Str × Value)} {news : List (Addr × Obj)} {Q : Value → Shared → Prop}

theorem hide_base (B : Base w p loose mean mg mb b) (hb : b.StaysIn h) (N : ∀ q ∈ news, h.get? q.1 = some q.2 ∧ b.get? q.1 = none ∧ ∀ vs, q.2 ≠ tupO vs) :
    b.StaysIn (hideAll h (news.map (·.1))) ∧ Base w p loose mean mg mb (hideAll h (news.map (·.1))) ∧ TK h (hideAll h (news.map (·.1))) := by
  have st : b.StaysIn (hideAll h (news.map (·.1))) := fun a o e => hideAll_get _ (hb a o e) fun q => by
    obtain ⟨p, hp, e2⟩ := List.mem_map.mp q
    rw [← e2, (N p hp).2.1] at e; cases e
  refine ⟨st, B.keeps st, fun a vs e => hideAll_get _ e fun m => ?_⟩
  obtain ⟨q, hq, e2⟩ := List.mem_map.mp m
  have z := N q hq
  rw [e2, e] at z
  exact z.2.2 vs (Option.some.inj z.1).symm

/-- a def of the text is called: its frame stands over what stays -/
theorem mk_enter (B : Base w p loose mean mg mb b) (hb : b.StaysIn h) (N : ∀ q ∈ news, h.get? q.1 = some q.2 ∧ b.get? q.1 = none ∧ ∀ vs, q.2 ≠ tupO vs)
    (ho : (hd.heap_39 w.params).lookup f = some ⟨oc, od, .func (fnOf name qual params body scope dV kV doc pm an cdv ct), osl⟩) (hcd : codeIn (hd.heap_39 w.params) cdv qual = true) (hroom : A.depth < recursionLimit)
    (hbind : ∀ s, BindsTo s (fnOf name qual params body scope dV kV doc pm an cdv ct) ⟨vals, []⟩ binds) (hloc : ∀ y ∈ binds, scope.names.lookup y.1 = some .local)
    (q : ∀ g L h₁ tk', FB w p loose mean mg mb g L h₁ (fun y => binds.reverse.lookup y) news → Ch (news.map (·.1)) h g → TK h g → b.StaysIn g →
      wpAny (model prog w) (A.deeper (envOf qual scope L f cdv)) (execs body (envOf qual scope L f cdv))
        (fun fl s' => Q (match fl with | .ret v => v | _ => .none) s') (fun _ _ => False) ⟨h₁, ge, dr, tk', os⟩)
    (hco : scope.isCoroutine = false) (hgen : scope.isGenerator = false) (hk : scope.kind = .function)
    (hcell : ∀ x ∈ scope.names, x.2 ≠ .cell) : wpAny (model prog w) A (call (.ref f) vals) Q E ⟨h, ge, dr, tk, os⟩ := by
  have BH := B.keeps hb
  obtain ⟨st, Bg, tg⟩ := hide_base B hb N
  refine wpAny_call (codeAny_call_def (fd := fnOf name qual params body scope dV kV doc pm an cdv ct) (body := body) (binds := binds) hroom (BH.X _ _ ho) rfl BH.T.nolimit (codeRec_of BH.X hcd) rfl (hbind _) hcell hloc (fun h₁ hns hk₁ => ?_) hco hgen hk)
  refine wpAny_mono (q (hideAll h (news.map (·.1))) h.objs.size h₁ _ ⟨hns, fun a o e => hk₁ a o (of_hideAll _ e), ?_, fun q hq => ⟨hk₁ _ _ (N q hq).1, Nat.ne_of_lt (Heap.lt_size (N q hq).1), hideAll_none _ (List.mem_map_of_mem hq)⟩, Bg⟩ (fun a o ha e => hideAll_get _ e ha) tg st) (fun _ _ x => x) fun _ _ x => x.elim
  cases e : (hideAll h (news.map (·.1))).get? h.objs.size with
  | none => rfl
  | some o => exact absurd (Heap.lt_size (of_hideAll _ e)) (Nat.lt_irrefl _)
end

theorem cells_one {cm : Str → Option Value} {n : Str} {c : Addr} {cells : List (Addr × Obj)} (x : CellsAre cm [(n, c)] cells) : ∃ cl di sl, cells = [(c, cellW cl di sl (cm n))] := by
  obtain ⟨⟨cl, di, da, sl⟩, rfl, hd⟩ := x.one
  dsimp only at hd
  subst hd
  exact ⟨cl, di, sl, rfl⟩
theorem cells_two {cm : Str → Option Value} {n n' : Str} {c c' : Addr} {cells : List (Addr × Obj)} (x : CellsAre cm [(n, c), (n', c')] cells) : ∃ cl di sl cl' di' sl', cells = [(c, cellW cl di sl (cm n)), (c', cellW cl' di' sl' (cm n'))] := by
  obtain ⟨⟨cl, di, da, sl⟩, ⟨cl', di', da', sl'⟩, rfl, hd, hd'⟩ := x.two
  dsimp only at hd hd'
  subst hd hd'
  exact ⟨cl, di, sl, cl', di', sl', rfl⟩
theorem cells_three {cm : Str → Option Value} {n n' n'' : Str} {c c' c'' : Addr} {cells : List (Addr × Obj)} (x : CellsAre cm [(n, c), (n', c'), (n'', c'')] cells) : ∃ cl di sl cl' di' sl' cl'' di'' sl'', cells = [(c, cellW cl di sl (cm n)), (c', cellW cl' di' sl' (cm n')), (c'', cellW cl'' di'' sl'' (cm n''))] := by
  obtain ⟨⟨cl, di, da, sl⟩, ⟨cl', di', da', sl'⟩, ⟨cl'', di'', da'', sl''⟩, rfl, hd, hd', hd''⟩ := x.three
  dsimp only at hd hd' hd''
  subst hd hd' hd''
  exact ⟨cl, di, sl, cl', di', sl', cl'', di'', sl'', rfl⟩
section
variable {prog : Program} {w : World} {A : Around} {E : Value → Shared → Prop} {p : Program} {loose : List Str} {mean : ExcName → Option Value} {mg mb : Str → Option Value} {b h : Heap} {ge : Array GenState} {dr : Drawn} {tk : Nat} {os : OsState}
  {name qual : Str} {params : Arguments} {body : List Stmt} {scope : Scope} {dV kV doc pm cdv ct oc : Value} {an od : Option Addr} {osl : Array (Option Value)} {f : Addr} {vals : List Value} {binds : List (Str × Value)} {news : List (Addr × Obj)} {Q : Value → Shared → Prop}
/-- a def with cells is called -/
theorem mk_enterC (B : Base w p loose mean mg mb b) (hb : b.StaysIn h) (N : ∀ q ∈ news, h.get? q.1 = some q.2 ∧ b.get? q.1 = none ∧ ∀ vs, q.2 ≠ tupO vs)
    (ho : (hd.heap_39 w.params).lookup f = some ⟨oc, od, .func (fnX name qual params body scope [] dV kV doc pm an cdv ct), osl⟩) (hcd : codeIn (hd.heap_39 w.params) cdv qual = true) (hroom : A.depth < recursionLimit)
    (hbind : ∀ s, BindsTo s (fnX name qual params body scope [] dV kV doc pm an cdv ct) ⟨vals, []⟩ binds)
    (hkind : ∀ n, ∀ x ∈ binds, scope.names.lookup x.1 = some .local ∨ (scope.names.lookup x.1 = some .cell ∧ ((cellsFrom n scope.names []).lookup x.1).isSome = true))
    (hnd : ((cellsFrom 0 scope.names []).map (·.1)).Nodup)
    (q : ∀ g L h₁ tk' cells, FB w p loose mean mg mb g L h₁ (bindL (envOfC qual scope L f cdv).kindOf binds fun _ => none) (cells ++ news) → CellsAre (bindC (envOfC qual scope L f cdv).kindOf binds fun _ => none) (cellsFrom (L + 1) scope.names []) cells →
      Ch (news.map (·.1)) h g → TK h g → b.StaysIn g →
      wpAny (model prog w) (A.deeper (envOfC qual scope L f cdv)) (execs body (envOfC qual scope L f cdv))
        (fun fl s' => Q (match fl with | .ret v => v | _ => .none) s') (fun _ _ => False) ⟨h₁, ge, dr, tk', os⟩)
    (hco : scope.isCoroutine = false) (hgen : scope.isGenerator = false) (hk : scope.kind = .function) : wpAny (model prog w) A (call (.ref f) vals) Q E ⟨h, ge, dr, tk, os⟩ := by
  have BH := B.keeps hb
  obtain ⟨st, Bg, tg⟩ := hide_base B hb N
  refine wpAny_call (codeAny_call_function hroom (BH.X _ _ ho) rfl hco hgen rfl (codeRec_of BH.X hcd) (hbind _ _ _ _ _ ?_))
  refine wpAny_newFunctionEnv_cells hk (hkind _) fun env' he s' x => ?_
  subst he
  refine ⟨BH.T.nolimit.keeps x.toInCall.keep, codeAny_func ?_⟩
  obtain ⟨h₁, tk, rfl, _⟩ := x.done
  have hk₁ := x.toInCall.keep
  obtain ⟨cells, NC, Y⟩ := Cl.news (h₀ := h) (Nat.le_refl _) fun n c hm => ⟨x.cell n c (lookup_of_mem_nodup (cellsFrom_names scope.names 0 (h.objs.size + 1) [] [] rfl ▸ hnd) hm), x.above n c hm⟩
  refine wpAny_mono (q (hideAll h (news.map (·.1))) h.objs.size h₁ tk cells ⟨x.toInCall.ns, fun a o e => hk₁ a o (of_hideAll _ e), ?_, fun q hq => ?_, Bg⟩ Y (fun a o ha e => hideAll_get _ e ha) tg st) (fun _ _ x => x) fun _ _ x => x.elim
  · cases e : (hideAll h (news.map (·.1))).get? h.objs.size with
    | none => rfl
    | some o => exact absurd (Heap.lt_size (of_hideAll _ e)) (Nat.lt_irrefl _)
  · rcases List.mem_append.mp hq with hp | hp
    · refine ⟨(NC _ hp).1, (NC _ hp).2.1, ?_⟩
      cases q1 : (hideAll h (news.map (·.1))).get? q.1 with
      | none => rfl
      | some o => have := of_hideAll _ q1; rw [(NC _ hp).2.2] at this; cases this
    · exact ⟨hk₁ _ _ (N q hp).1, Nat.ne_of_lt (Heap.lt_size (N q hp).1), hideAll_none _ (List.mem_map_of_mem hp)⟩
end
/-- a def's end: what it changed -/
theorem ch_of {w : World} {p : Program} {loose : List Str} {mean : ExcName → Option Value} {mg mb : Str → Option Value} {g h h' : Heap} {L : Addr} {m : Str → Option Value} {news : List (Addr × Obj)} {S : List Addr} (hg : Ch S h g) (f : FB w p loose mean mg mb g L h' m news) : Ch S h h' := fun a o n e => f.keep a o (hg a o n e)
end
section
def seqQ (N : Shared → Prop) (Q : Flow → Shared → Prop) (f : Flow) (s : Shared) : Prop := match f with
  | .next => N s
  | f => Q f s

section
variable {prog : Program} {w : World} {A : Around} {E : Value → Shared → Prop} {p : Program} {loose : List Str} {mean : ExcName → Option Value} {mg mb : Str → Option Value}
  {g h : Heap} {L : Addr} {m : Str → Option Value} {news news' : List (Addr × Obj)} {env : Env} {ge : Array GenState} {dr : Drawn} {tk : Nat} {os : OsState} {s : Shared}

theorem seq_next {N : Shared → Prop} {Q : Flow → Shared → Prop} (h : N s) : seqQ N Q .next s := h
theorem seq_ret {N : Shared → Prop} {Q : Flow → Shared → Prop} {v : Value} (h : Q (.ret v) s) : seqQ N Q (.ret v) s := h
theorem seq_brk {N : Shared → Prop} {Q : Flow → Shared → Prop} (h : Q .brk s) : seqQ N Q .brk s := h
theorem seq_cont {N : Shared → Prop} {Q : Flow → Shared → Prop} (h : Q .cont s) : seqQ N Q .cont s := h

section stm
variable {Q : Flow → Shared → Prop}
theorem mw_cons {st : Stmt} {rest : List Stmt} (h : wpAny (model prog w) A (exec st env) (seqQ (fun s' => wpAny (model prog w) A (execs rest env) Q E s') Q) E s) : wpAny (model prog w) A (execs (st :: rest) env) Q E s :=
  wpAny_execs_cons (wpAny_mono h (fun f s' x => by cases f <;> exact x) fun _ _ x => x)
theorem mw_nil (h : Q .next s) : wpAny (model prog w) A (execs [] env) Q E s := wpAny_execs_nil h
theorem mw_asg {x : Str} {pos' pos : Pos} {value : Expr} (h : wpAny (model prog w) A (eval value env) (fun v s₁ => wpAny (model prog w) A (storeName env x v) (fun _ => Q .next) E s₁) E s)
    (hs : swapsWith value (some (.Name x pos')) pos.line env = pure false) : wpAny (model prog w) A (exec (.Assign [.Name x pos'] value pos) env) Q E s := wpAny_Assign_Name h hs
theorem mw_asgS {o i : Expr} {pos' pos : Pos} {value : Expr} (h : wpAny (model prog w) A (eval value env) (fun v s₁ => wpAny (model prog w) A (eval o env) (fun ov s₂ => wpAny (model prog w) A (eval i env) (fun iv s₃ =>
      wpAny (model prog w) A (setItem ov iv v) (fun _ => Q .next) E s₃) E s₂) E s₁) E s)
    (hs : swapsWith value (some (.Subscript o i pos')) pos.line env = pure false) : wpAny (model prog w) A (exec (.Assign [.Subscript o i pos'] value pos) env) Q E s := wpAny_Assign_Subscript h hs
theorem mw_aug {x : Str} {pos' pos : Pos} {op : Operator} {value : Expr} (h : wpAny (model prog w) A (loadName env x) (fun old s₁ => wpAny (model prog w) A (eval value env) (fun v s₂ => wpAny (model prog w) A (inplaceOp op old v)
      (fun r s₃ => wpAny (model prog w) A (storeName env x r) (fun _ => Q .next) E s₃) E s₂) E s₁) E s) :
    wpAny (model prog w) A (exec (.AugAssign (.Name x pos') op value pos) env) Q E s := wpAny_AugAssign_Name h
theorem mw_expr {e : Expr} {pos : Pos} (h : wpAny (model prog w) A (eval e env) (fun _ s' => Q .next s') E s)
    (hi : interactive env = false) (hs : swapsWith e none pos.line env = pure false) : wpAny (model prog w) A (exec (.Expr e pos) env) Q E s := wpAny_Expr_any h hi hs
theorem mw_if {test : Expr} {body orelse : List Stmt} {pos : Pos} (h : wpAny (model prog w) A (isTrue test env (eval test env)) (fun b s₂ => if b = true then wpAny (model prog w) A (execs body env) Q E s₂ else wpAny (model prog w) A (execs orelse env) Q E s₂) E s) :
    wpAny (model prog w) A (exec (.If test body orelse pos) env) Q E s := wpAny_If h
theorem mw_ret {e : Expr} {pos : Pos} (h : wpAny (model prog w) A (eval e env) (fun v s' => Q (.ret v) s') E s) : wpAny (model prog w) A (exec (.Return (some e) pos) env) Q E s := wpAny_Return_some h
theorem mw_brk {pos : Pos} (h : Q .brk s) : wpAny (model prog w) A (exec (.Break pos) env) Q E s := fun _ _ _ => h
theorem mw_cont {pos : Pos} (h : Q .cont s) : wpAny (model prog w) A (exec (.Continue pos) env) Q E s := fun _ _ _ => h
end stm

section nam
variable {Q : Value → Shared → Prop} {x : Str} {pos : Pos} {v : Value}
theorem mw_local (f : FB w p loose mean mg mb g env.locals h m news) (hv : m x = some v) (q : Q v ⟨h, ge, dr, tk, os⟩) (hl : env.kindOf x = some .local) (hk : env.scope.kind = .function) (hd : (x == ("__debug__" : Str)) = false) :
    wpAny (model prog w) A (eval (.Name x pos) env) Q E ⟨h, ge, dr, tk, os⟩ := wpAny_Name (wpAny_loadName_local hk hl f.ns hv q) hd
theorem mw_cell {c : Addr} {cl : Value} {di : Option Addr} {sl : Array (Option Value)} (f : FB w p loose mean mg mb g L h m news) (hc : env.cells.lookup x = some c) (hm : (c, cellW cl di sl (some v)) ∈ news) (q : Q v ⟨h, ge, dr, tk, os⟩) (hl : env.kindOf x = some .cell) (hk : env.scope.kind = .function) (hd : (x == ("__debug__" : Str)) = false) :
    wpAny (model prog w) A (eval (.Name x pos) env) Q E ⟨h, ge, dr, tk, os⟩ := wpAny_Name (wpAny_loadName_cell hk hl hc ⟨_, f.at_ hm, rfl⟩ q) hd
theorem mw_free {c : Addr} {cl : Value} {di : Option Addr} {sl : Array (Option Value)} (f : FB w p loose mean mg mb g L h m news) (hc : env.cells.lookup x = some c) (hm : (c, cellW cl di sl (some v)) ∈ news) (q : Q v ⟨h, ge, dr, tk, os⟩) (hl : env.kindOf x = some .free) (hk : env.scope.kind = .function) (hd : (x == ("__debug__" : Str)) = false)
    (hn : (x == ("__classdict__" : Str)) = false) : wpAny (model prog w) A (eval (.Name x pos) env) Q E ⟨h, ge, dr, tk, os⟩ := wpAny_Name (wpAny_loadName_free hk hl hc ⟨_, f.at_ hm, rfl⟩ q hn) hd
theorem mw_glob (f : FB w p loose mean mg mb g L h m news) (e : nsIn (hd.heap_39 w.params) mainGlobals x = some (some v)) (q : Q v ⟨h, ge, dr, tk, os⟩) (hl : env.kindOf x = some .globalImplicit) (hk : env.scope.kind = .function) (hd : (x == ("__debug__" : Str)) = false) (hg : env.globals = mainGlobals) :
    wpAny (model prog w) A (eval (.Name x pos) env) Q E ⟨h, ge, dr, tk, os⟩ :=
  Name_function_global hk hl (loadGlobal_global (env := env) (hg ▸ f.B.T.g.keeps f.keep) (mg_of f.B.X f.B.T.g e) q) hd
theorem mw_built (f : FB w p loose mean mg mb g L h m news) (e : nsIn (hd.heap_39 w.params) mainGlobals x = some none) (hv : bootBuiltins x = some v) (q : Q v ⟨h, ge, dr, tk, os⟩) (hl : env.kindOf x = some .globalImplicit) (hk : env.scope.kind = .function) (hd : (x == ("__debug__" : Str)) = false)
    (hg : env.globals = mainGlobals) (hb : env.builtins = builtinsNs) (hn : x ≠ "__name__") : wpAny (model prog w) A (eval (.Name x pos) env) Q E ⟨h, ge, dr, tk, os⟩ :=
  Name_function_global hk hl (loadGlobal_builtin (env := env) (hg ▸ f.B.T.g.keeps f.keep) (mg_none_of f.B.X f.B.T.g e) (hb ▸ f.B.T.b.keeps f.keep) ((f.B.T.builtins x hn).trans hv) q) hd
theorem mw_ldl (f : FB w p loose mean mg mb g env.locals h m news) (hv : m x = some v) (q : Q v ⟨h, ge, dr, tk, os⟩) (hl : env.kindOf x = some .local) (hk : env.scope.kind = .function) :
    wpAny (model prog w) A (loadName env x) Q E ⟨h, ge, dr, tk, os⟩ := wpAny_loadName_local hk hl f.ns hv q
theorem mw_ldc {c : Addr} {cl : Value} {di : Option Addr} {sl : Array (Option Value)} (f : FB w p loose mean mg mb g L h m news) (hc : env.cells.lookup x = some c) (hm : (c, cellW cl di sl (some v)) ∈ news) (q : Q v ⟨h, ge, dr, tk, os⟩) (hl : env.kindOf x = some .cell) (hk : env.scope.kind = .function) :
    wpAny (model prog w) A (loadName env x) Q E ⟨h, ge, dr, tk, os⟩ := wpAny_loadName_cell hk hl hc ⟨_, f.at_ hm, rfl⟩ q
end nam

theorem mw_st {x : Str} {v : Value} {Q : Unit → Shared → Prop} (f : FB w p loose mean mg mb g env.locals h m news) (q : ∀ h' tk', FB w p loose mean mg mb g env.locals h' (fun y => if y = x then some v else m y) news → Q () ⟨h', ge, dr, tk', os⟩)
    (hl : env.kindOf x = some .local) (hp : (env.scope.kind == .class || (env.scope.kind == .module && env.locals != env.globals)) = false) : wpAny (model prog w) A (storeName env x v) Q E ⟨h, ge, dr, tk, os⟩ :=
  wpAny_storeName_local hl f.ns (fun h' hn hs => q h' _ (f.loc hn hs)) hp
theorem mw_stc {x : Str} {v : Value} {v₀ : Option Value} {c : Addr} {cl : Value} {di : Option Addr} {sl : Array (Option Value)} {Q : Unit → Shared → Prop} (f : FB w p loose mean mg mb g L h m news) (hc : env.cells.lookup x = some c) (U : Upd c (cellW cl di sl v₀) (cellW cl di sl (some v)) news news')
    (q : ∀ h', FB w p loose mean mg mb g L h' m news' → Q () ⟨h', ge, dr, tk, os⟩) (hl : env.kindOf x = some .cell) (hk : env.scope.kind = .function) : wpAny (model prog w) A (storeName env x v) Q E ⟨h, ge, dr, tk, os⟩ := by
  have hm : (c, cellW cl di sl v₀) ∈ news := by
    obtain ⟨pre, post, rfl, _⟩ := U.split
    exact List.mem_append_right _ (.head _)
  have hc0 := f.at_ hm
  unfold storeName
  simp only [hl, hk]
  refine wpAny_bind (wpAny_cellOf hc ?_)
  unfold cellSet
  refine wpAny_bind (wpAny_load hc0 ?_)
  refine wpAny_update hc0 ?_
  exact q _ (f.ch (Ch.of_same (Heap.SameBut.update ..)) U (Heap.get?_update_self _ hc0 rfl))

section exp
variable {Q : Value → Shared → Prop} {pos : Pos}
theorem mw_int {i : Int} {k : Nat} (q : ∀ t tk', Q (.int i t) ⟨h, ge, dr, tk', os⟩) : wpAny (model prog w) A (eval (.Constant (.int i) k pos) env) Q E ⟨h, ge, dr, tk, os⟩ := wpAny_Constant_int (q _ _)
theorem mw_bool {c : Bool} {k : Nat} (q : Q (.bool c) s) : wpAny (model prog w) A (eval (.Constant (.bool c) k pos) env) Q E s := Constant_bool q
theorem mw_bin {l r : Expr} {op : Operator} (q : wpAny (model prog w) A (eval l env) (fun a s₁ => wpAny (model prog w) A (eval r env) (fun b s₂ => wpAny (model prog w) A (binaryOp op a b) Q E s₂) E s₁) E s) :
    wpAny (model prog w) A (eval (.BinOp l op r pos) env) Q E s := wpAny_BinOp q
theorem mw_un {op : UnaryOp} {e : Expr} (q : wpAny (model prog w) A (eval e env) (fun v s₁ => wpAny (model prog w) A (unaryOp op v) Q E s₁) E s) : wpAny (model prog w) A (eval (.UnaryOp op e pos) env) Q E s := UnaryOp_ q
theorem mw_cmp {l r : Expr} {op : CmpOp} (q : wpAny (model prog w) A (eval l env) (fun a s₁ => wpAny (model prog w) A (eval r env) (fun b s₂ => wpAny (model prog w) A (compareOp op a b) Q E s₂) E s₁) E s)
    (hm : behindInMarks op r = false) : wpAny (model prog w) A (eval (.Compare l [op] [r] pos) env) Q E s := wpAny_Compare1 q hm
theorem mw_sub {o i : Expr} (q : wpAny (model prog w) A (eval o env) (fun ov s₁ => wpAny (model prog w) A (eval i env) (fun iv s₂ => wpAny (model prog w) A (subscriptTail o i ov iv) Q E s₂) E s₁) E s) :
    wpAny (model prog w) A (eval (.Subscript o i pos) env) Q E s := Subscript_ q
theorem mw_tuple {es : List Expr} {k : Nat} (q : wpAny (model prog w) A (spliced (backTo pos (starEach es env))) (fun vs s₁ => wpAny (model prog w) A (newTuple vs) Q E s₁) E s) : wpAny (model prog w) A (eval (.Tuple es k pos) env) Q E s := Tuple_ q
theorem mw_list {es : List Expr} (q : wpAny (model prog w) A (spliced (backTo pos (starEach es env))) (fun vs s₁ => wpAny (model prog w) A (newList vs) Q E s₁) E s) : wpAny (model prog w) A (eval (.List es pos) env) Q E s := List_ q
theorem mw_ifexp {t b e : Expr} (q : wpAny (model prog w) A (isTrue t env (eval t env)) (fun c s₂ => if c = true then wpAny (model prog w) A (eval b env) Q E s₂ else wpAny (model prog w) A (eval e env) Q E s₂) E s) :
    wpAny (model prog w) A (eval (.IfExp t b e pos) env) Q E s := IfExp_ q
theorem mw_and {e₁ e₂ : Expr} {rest : List Expr} (q : wpAny (model prog w) A (eval e₁ env) (fun v s₁ => wpAny (model prog w) A (truthy v) (fun c s₂ => if c = true then wpAny (model prog w) A (eval (.BoolOp .And (e₂ :: rest) pos) env) Q E s₂ else Q v s₂) E s₁) E s) :
    wpAny (model prog w) A (eval (.BoolOp .And (e₁ :: e₂ :: rest) pos) env) Q E s := BoolOp_and q
theorem mw_or {e₁ e₂ : Expr} {rest : List Expr} (q : wpAny (model prog w) A (eval e₁ env) (fun v s₁ => wpAny (model prog w) A (truthy v) (fun c s₂ => if c = true then Q v s₂ else wpAny (model prog w) A (eval (.BoolOp .Or (e₂ :: rest) pos) env) Q E s₂) E s₁) E s) :
    wpAny (model prog w) A (eval (.BoolOp .Or (e₁ :: e₂ :: rest) pos) env) Q E s := BoolOp_or q
theorem mw_bone {op : BoolOp} {e : Expr} (q : wpAny (model prog w) A (eval e env) Q E s) : wpAny (model prog w) A (eval (.BoolOp op [e] pos) env) Q E s := BoolOp_one q
theorem mw_call {fe : Expr} {args : List Expr} (q : wpAny (model prog w) A (eval fe env) (fun f s₁ => wpAny (model prog w) A (callWith pos f [] (backTo pos (starEach args env)) []) Q E s₁) E s)
    (he : eval (.Call fe args [] pos) env = (do callWith pos (← eval fe env) [] (backTo pos (starEach args env)) (backToKw pos (keywordEach [] env)))) : wpAny (model prog w) A (eval (.Call fe args [] pos) env) Q E s := Call_ q he
theorem mw_spn {Q : List Value → Shared → Prop} (q : Q [] s) : wpAny (model prog w) A (spliced (backTo pos (starEach [] env))) Q E s := args_nil q
theorem mw_spc {Q : List Value → Shared → Prop} {e : Expr} {rest : List Expr} (q : wpAny (model prog w) A (eval e env) (fun v s₁ => wpAny (model prog w) A (spliced (backTo pos (starEach rest env))) (fun vs s₂ => Q (v :: vs) s₂) E s₁) E s)
    (he : starEach (e :: rest) env = (false, eval e env) :: starEach rest env) : wpAny (model prog w) A (spliced (backTo pos (starEach (e :: rest) env))) Q E s := args_cons q he
end exp

section tst
variable {Q : Bool → Shared → Prop} {pos : Pos} {whole : Sem Value}
theorem mt_cmp {l r : Expr} {op : CmpOp} (q : wpAny (model prog w) A (eval l env) (fun a s₁ => wpAny (model prog w) A (eval r env) (fun b s₂ => wpAny (model prog w) A (compareOp op a b) (fun c s₃ => wpAny (model prog w) A (truthy c) Q E s₃) E s₂) E s₁) E s)
    (hm : behindInMarks op r = false) : wpAny (model prog w) A (isTrue (.Compare l [op] [r] pos) env whole) Q E s := wpAny_isTrue_Compare1 q hm
theorem mt_not {x : Expr} (q : wpAny (model prog w) A (isTrue x env (eval x env)) (fun c s' => Q (!c) s') E s) : wpAny (model prog w) A (isTrue (.UnaryOp .Not x pos) env whole) Q E s := isTrue_not q
theorem mt_and0 (q : Q true s) : wpAny (model prog w) A (isTrue (.BoolOp .And [] pos) env whole) Q E s := isTrue_and_nil q
theorem mt_and {x : Expr} {rest : List Expr} (q : wpAny (model prog w) A (isTrue x env (eval x env)) (fun c s' => if c = true then wpAny (model prog w) A (isTrue (.BoolOp .And rest pos) env whole) Q E s' else Q false s') E s) :
    wpAny (model prog w) A (isTrue (.BoolOp .And (x :: rest) pos) env whole) Q E s := isTrue_and q
theorem mt_or0 (q : Q false s) : wpAny (model prog w) A (isTrue (.BoolOp .Or [] pos) env whole) Q E s := isTrue_or_nil q
theorem mt_or {x : Expr} {rest : List Expr} (q : wpAny (model prog w) A (isTrue x env (eval x env)) (fun c s' => if c = true then Q true s' else wpAny (model prog w) A (isTrue (.BoolOp .Or rest pos) env whole) Q E s') E s) :
    wpAny (model prog w) A (isTrue (.BoolOp .Or (x :: rest) pos) env whole) Q E s := isTrue_or q
theorem mt_name {x : Str} {px : Pos} (q : wpAny (model prog w) A (eval (.Name x px) env) (fun v s₁ => wpAny (model prog w) A (truthy v) Q E s₁) E s) : wpAny (model prog w) A (isTrue (.Name x px) env (eval (.Name x px) env)) Q E s := isTrue_plain q
theorem mt_call {fe : Expr} {args : List Expr} {kws : List Keyword} (q : wpAny (model prog w) A (eval (.Call fe args kws pos) env) (fun v s₁ => wpAny (model prog w) A (truthy v) Q E s₁) E s) : wpAny (model prog w) A (isTrue (.Call fe args kws pos) env (eval (.Call fe args kws pos) env)) Q E s := isTrue_plain q
theorem mt_bool {b : Bool} (q : Q b s) : wpAny (model prog w) A (truthy (.bool b)) Q E s := wpAny_truthy_bool q
end tst

section ops
variable {Q : Value → Shared → Prop} {a b : Int} {t u : Tok}
theorem mo_add (q : ∀ t' tk', Q (.int (a + b) t') ⟨h, ge, dr, tk', os⟩) : wpAny (model prog w) A (binaryOp .Add (.int a t) (.int b u)) Q E ⟨h, ge, dr, tk, os⟩ := add_int (q _ _)
theorem mo_iadd (q : ∀ t' tk', Q (.int (a + b) t') ⟨h, ge, dr, tk', os⟩) : wpAny (model prog w) A (inplaceOp .Add (.int a t) (.int b u)) Q E ⟨h, ge, dr, tk, os⟩ := iadd_int (q _ _)
theorem mo_sub (q : ∀ t' tk', Q (.int (a - b) t') ⟨h, ge, dr, tk', os⟩) : wpAny (model prog w) A (binaryOp .Sub (.int a t) (.int b u)) Q E ⟨h, ge, dr, tk, os⟩ := sub_int (q _ _)
theorem mo_mul (hm : IntMulOk a b) (q : ∀ t' tk', Q (.int (a * b) t') ⟨h, ge, dr, tk', os⟩) : wpAny (model prog w) A (binaryOp .Mult (.int a t) (.int b u)) Q E ⟨h, ge, dr, tk, os⟩ := mul_int (q _ _) hm
theorem mo_shr1 (h0 : 0 ≤ a) (q : ∀ t' tk', Q (.int (a / 2) t') ⟨h, ge, dr, tk', os⟩) : wpAny (model prog w) A (binaryOp .RShift (.int a t) (.int 1 u)) Q E ⟨h, ge, dr, tk, os⟩ := wpAny_rshift1_int h0 (q _ _)
theorem mo_neg (q : ∀ t' tk', Q (.int (-a) t') ⟨h, ge, dr, tk', os⟩) : wpAny (model prog w) A (unaryOp .USub (.int a t)) Q E ⟨h, ge, dr, tk, os⟩ := neg_int (q _ _)
theorem mo_not {v : Value} (q : wpAny (model prog w) A (truthy v) (fun c s' => Q (.bool (!c)) s') E s) : wpAny (model prog w) A (unaryOp .Not v) Q E s := not_of q
theorem mc_lt (q : Q (.bool (decide (a < b))) s) : wpAny (model prog w) A (compareOp .Lt (.int a t) (.int b u)) Q E s := lt_int q
theorem mc_gt (q : Q (.bool (decide (b < a))) s) : wpAny (model prog w) A (compareOp .Gt (.int a t) (.int b u)) Q E s := gt_int q
theorem mc_le (q : Q (.bool (decide (a ≤ b))) s) : wpAny (model prog w) A (compareOp .LtE (.int a t) (.int b u)) Q E s := le_int q
theorem mc_ge (q : Q (.bool (decide (b ≤ a))) s) : wpAny (model prog w) A (compareOp .GtE (.int a t) (.int b u)) Q E s := ge_int q
theorem mc_eq (q : Q (.bool (a == b)) s) : wpAny (model prog w) A (compareOp .Eq (.int a t) (.int b u)) Q E s := eq_int q
theorem mc_ne (q : Q (.bool (a != b)) s) : wpAny (model prog w) A (compareOp .NotEq (.int a t) (.int b u)) Q E s := ne_int q
end ops

section cal
variable {Q : Value → Shared → Prop} {pos : Pos} {f : Value} {first : List Value}
theorem mk_def {e : Expr} {rest : List Expr} (fb : FB w p loose mean mg mb g L h m news) (hk : keepIn (hd.heap_39 w.params) f = true) (q : wpAny (model prog w) A (spliced (backTo pos (starEach (e :: rest) env))) (fun vs s₁ => (hd.heap_39 w.params).In s₁.heap ∧ wpAny (model prog w) A (call f vs) Q E s₁) E s)
    (he : starEach (e :: rest) env = (false, eval e env) :: starEach rest env) (hp : (backTo pos (starEach rest env)).any (·.1) = false) : wpAny (model prog w) A (callWith pos f [] (backTo pos (starEach (e :: rest) env)) []) Q E s :=
  callWith_K fb.B.X hk q he hp
theorem mk_bi {id : String} {e : Expr} {rest : List Expr} (q : wpAny (model prog w) A (spliced (backTo pos (starEach (e :: rest) env))) (fun vs s₁ => wpAny (model prog w) A (call (.builtin id) vs) Q E s₁) E s)
    (he : starEach (e :: rest) env = (false, eval e env) :: starEach rest env) (hp : (backTo pos (starEach rest env)).any (·.1) = false) : wpAny (model prog w) A (callWith pos (.builtin id) [] (backTo pos (starEach (e :: rest) env)) []) Q E s :=
  PyProof.Rows.callWith_builtin1 q he hp
theorem mk_m0 {id : String} (q : wpAny (model prog w) A (call (.builtin id) first) Q E s) : wpAny (model prog w) A (callWith pos (.builtin id) first (backTo pos (starEach [] env)) []) Q E s := callWith_method0 q
theorem mk_m1 {id : String} {e : Expr} {rest : List Expr} (q : wpAny (model prog w) A (spliced (backTo pos (starEach (e :: rest) env))) (fun vs s₁ => wpAny (model prog w) A (call (.builtin id) (first ++ vs)) Q E s₁) E s)
    (he : starEach (e :: rest) env = (false, eval e env) :: starEach rest env) (hp : (backTo pos (starEach rest env)).any (·.1) = false) : wpAny (model prog w) A (callWith pos (.builtin id) first (backTo pos (starEach (e :: rest) env)) []) Q E s :=
  callWith_method1 q he hp
theorem mk_in (fb : FB w p loose mean mg mb g L h m news) (q : wpAny (model prog w) A (call f first) Q E ⟨h, ge, dr, tk, os⟩) : (hd.heap_39 w.params).In (Shared.mk h ge dr tk os).heap ∧ wpAny (model prog w) A (call f first) Q E ⟨h, ge, dr, tk, os⟩ := ⟨fb.B.X.keeps fb.keep, q⟩
theorem mk_meth {o : Expr} {name : Str} {apos : Pos} {args : List Expr} {pl : Sem Bool} (q : wpAny (model prog w) A (eval o env) (fun ov s₁ => wpAny (model prog w) A (getMethod ov name pl) (fun fx s₂ => wpAny (model prog w) A (callWith pos fx.1 fx.2 (backTo pos (starEach args env)) []) Q E s₂) E s₁) E s)
    (he : eval (.Call (.Attribute o name apos) args [] pos) env = (do
      let ov ← eval o env
      standAt apos.atName
      let (f, first) ← holding [ov] (getMethod ov name pl)
      callWith pos f first (backTo pos (starEach args env)) [])) : wpAny (model prog w) A (eval (.Call (.Attribute o name apos) args [] pos) env) Q E s := MethodCall_ q he
end cal

section lst
variable {l : Addr} {vs : List Value} {n : Nat}
theorem isList_of {h : Heap} (ho : h.get? l = some (listOf vs.toArray n)) : h.IsList l vs.toArray := PySem.IsL.isList (n := n) ho
theorem upd_mem {o o' : Obj} {news news' : List (Addr × Obj)} (U : Upd l o o' news news') : (l, o) ∈ news := by
  obtain ⟨pre, post, rfl, _⟩ := U.split
  exact List.mem_append_right _ (.head _)
theorem ml_item {o i : Expr} {k : Int} {t : Tok} {v : Value} {Q : Value → Shared → Prop} (f : FB w p loose mean mg mb g L h m news) (hm : (l, listOf vs.toArray n) ∈ news) (h0 : 0 ≤ k) (hhi : k < 2 ^ 63) (hx : vs[k.toNat]? = some v) (q : Q v ⟨h, ge, dr, tk, os⟩)
    (hs : subscripted i false (.ref l) (.int k t) = operate [.ref l, .int k t] (getItem (.ref l) (.int k t))) : wpAny (model prog w) A (subscriptTail o i (.ref l) (.int k t)) Q E ⟨h, ge, dr, tk, os⟩ :=
  have hl := isList_of (f.at_ hm)
  tail_any hl.typeIs slot_list_getitem.lookup (wpAny_getItem_list hl h0 hhi (by simpa using hx) q) hs
theorem mapSeq_any (its : Array Value) (n : Nat) (F : Array Value → Array Value) : Obj.mapSeq F (listOf its n) = listOf (F its) (if (F its).size == its.size then n else n + 1) := rfl
theorem ml_set {k : Int} {t : Tok} {v : Value} {Q : Unit → Shared → Prop} (f : FB w p loose mean mg mb g L h m news) (U : Upd l (listOf vs.toArray n) (listOf (vs.set k.toNat v).toArray n) news news') (h0 : 0 ≤ k) (hhi : k < 2 ^ 63) (hn : k < vs.length)
    (q : ∀ h', FB w p loose mean mg mb g L h' m news' → Q () ⟨h', ge, dr, tk, os⟩) : wpAny (model prog w) A (setItem (.ref l) (.int k t) v) Q E ⟨h, ge, dr, tk, os⟩ := by
  have z := f.at_ (upd_mem U)
  refine ki_setAt (s := ⟨h, ge, dr, tk, os⟩) z h0 hhi (by simpa using hn) (q _ (f.ch (Ch.of_same (Heap.SameBut.update ..)) U ?_))
  have e : vs.toArray.setIfInBounds k.toNat v = (vs.set k.toNat v).toArray := by
    apply Array.toList_inj.mp
    simp
  rw [Heap.get?_update_self _ z (by rw [mapSeq_any]; rfl), mapSeq_any, e]
  simp
theorem ml_pop {v : Value} {Q : Value → Shared → Prop} (f : FB w p loose mean mg mb g L h m news) (U : Upd l (listOf (vs ++ [v]).toArray n) (listOf vs.toArray (n + 1)) news news') (hz : vs.length + 1 ≤ sizeLine)
    (q : ∀ h', FB w p loose mean mg mb g L h' m news' → Q v ⟨h', ge, dr, tk, os⟩) : wpAny (model prog w) A (call (.builtin "list.pop") [.ref l]) Q E ⟨h, ge, dr, tk, os⟩ := by
  have z := f.at_ (upd_mem U)
  have hz' : (vs ++ [v]).toArray.size ≤ sizeLine := by simpa using hz
  have hk : (vs ++ [v]).toArray.size - 1 = vs.length := by simp
  have hy : (vs ++ [v]).toArray[(vs ++ [v]).toArray.size - 1]? = some v := by rw [hk]; simp
  refine call_meets PySem.F.slot_list_pop ⟨_, z, rfl⟩ PySem.F.entry_list_pop (PySem.F.args_list_pop_1 _) (PySem.MeetsSeq.list_pop_last l _ n v hy hz') ⟨z, q _ (f.ch (Ch.of_same (Heap.SameBut.update ..)) U ?_)⟩
  have e : (vs ++ [v]).toArray.eraseIdxIfInBounds ((vs ++ [v]).toArray.size - 1) = vs.toArray := by rw [hk, kl_erase, List.append_nil]
  rw [Heap.get?_update_self _ z (by rw [mapSeq_any]; rfl), mapSeq_any, e]
  simp
theorem ml_push {v : Value} {Q : Value → Shared → Prop} (f : FB w p loose mean mg mb g L h m news) (U : Upd l (listOf vs.toArray n) (listOf (vs ++ [v]).toArray (n + 1)) news news') (hz : vs.length ≤ sizeLine)
    (q : ∀ h', FB w p loose mean mg mb g L h' m news' → Q .none ⟨h', ge, dr, tk, os⟩) : wpAny (model prog w) A (call (.builtin "list.append") [.ref l, v]) Q E ⟨h, ge, dr, tk, os⟩ :=
  append_at (s := ⟨h, ge, dr, tk, os⟩) (f.at_ (upd_mem U)) (fun h' hs ho => q h' (f.ch (Ch.of_same hs) U (by rw [ho]; simp))) (by rw [List.size_toArray]; exact hz)
theorem ml_len {Q : Value → Shared → Prop} (f : FB w p loose mean mg mb g L h m news) (hm : (l, listOf vs.toArray n) ∈ news) (hz : vs.length ≤ sizeLine) (q : ∀ t' tk', Q (.int (vs.length : Nat) t') ⟨h, ge, dr, tk', os⟩) :
    wpAny (model prog w) A (call (.builtin "len") [.ref l]) Q E ⟨h, ge, dr, tk, os⟩ := by
  rw [sizeLine_eq] at hz
  exact call_len_list (s := ⟨h, ge, dr, tk, os⟩) (isList_of (f.at_ hm)) (by simp; omega) (by simpa using q _ _)
theorem ml_true {Q : Bool → Shared → Prop} (f : FB w p loose mean mg mb g L h m news) (hm : (l, listOf vs.toArray n) ∈ news) (hz : vs.length ≤ sizeLine) (q : ∀ tk', Q (!vs.isEmpty) ⟨h, ge, dr, tk', os⟩) :
    wpAny (model prog w) A (truthy (.ref l)) Q E ⟨h, ge, dr, tk, os⟩ := by
  rw [sizeLine_eq] at hz
  exact wpAny_truthy_list (s := ⟨h, ge, dr, tk, os⟩) (isList_of (f.at_ hm)) (by simp; omega) (by simpa using q _)
theorem ml_meth {name : Str} {id : String} {pl : Sem Bool} {Q : Value × List Value → Shared → Prop} (f : FB w p loose mean mg mb g L h m news) (hm : (l, listOf vs.toArray n) ∈ news) (slot : Slot "list" name id) (hty : typeOf (.builtin id) = pure (.type "method_descriptor"))
    (q : Q (.builtin id, [.ref l]) ⟨h, ge, dr, tk, os⟩) : wpAny (model prog w) A (getMethod (.ref l) name pl) Q E ⟨h, ge, dr, tk, os⟩ :=
  getMethod_builtin (s := ⟨h, ge, dr, tk, os⟩) ⟨_, f.at_ hm, rfl⟩ PySem.F.plainAttrs_list slot hty (fun a e => by cases e; exact ⟨_, f.at_ hm, rfl⟩) q
theorem ml_new {Q : Value → Shared → Prop} (f : FB w p loose mean mg mb g L h m news) (hz : vs.length ≤ sizeLine) (q : ∀ l h', FB w p loose mean mg mb g L h' m ((l, listOf vs.toArray 0) :: news) → (∀ p ∈ news, p.1 < l) → Q (.ref l) ⟨h', ge, dr, tk, os⟩) :
    wpAny (model prog w) A (newList vs) Q E ⟨h, ge, dr, tk, os⟩ := wpAny_newObj_type (s := ⟨h, ge, dr, tk, os⟩) (q _ _ (f.push _) f.lt) (by show vs.toArray.size ≤ sizeLine; rw [List.size_toArray]; exact hz)
theorem ml_tup {Q : Value → Shared → Prop} (f : FB w p loose mean mg mb g L h m news) (hz : vs.length ≤ sizeLine) (q : ∀ a h', FB w p loose mean mg mb g L h' m ((a, tupO vs) :: news) → (∀ p ∈ news, p.1 < a) → Q (.ref a) ⟨h', ge, dr, tk, os⟩) :
    wpAny (model prog w) A (newTuple vs) Q E ⟨h, ge, dr, tk, os⟩ := wpAny_newObj_type (s := ⟨h, ge, dr, tk, os⟩) (q _ _ (f.push _) f.lt) (by show vs.toArray.size ≤ sizeLine; rw [List.size_toArray]; exact hz)
end lst
end
end
section
def sdF {κ : Type} (lt : κ → κ → Bool) (st : Nat) (x : κ) (pos : Nat) (ks : List κ) : List κ :=
  if st < pos then
    match ks[(pos - 1) / 2]? with
    | some y => if lt x y then sdF lt st x ((pos - 1) / 2) (ks.set pos y) else ks.set pos x
    | none => ks.set pos x
  else ks.set pos x
termination_by pos
decreasing_by omega

local macro_rules | `(tactic| walk_at "m1") => `(tactic| first
  | (with_reducible refine seq_next ?_)
  | ((with_reducible refine' mw_local ?f ?v ?_ ?l ?k ?d); (case l => rfl); (case k => rfl); (case f => assumption); (case d => decide); (case v => first | rfl | assumption))
  | (with_reducible refine mw_cons ?_)
  | (with_reducible refine mw_nil ?_)
  | ((with_reducible refine' mw_asg ?_ ?s); (case s => rfl))
  | ((with_reducible refine' mw_st ?f ?_ ?l ?k); (case l => rfl); (case k => rfl); (case f => assumption); intro _ _ _)
  | ((with_reducible refine' mw_glob ?f ?e ?_ ?l ?k ?d ?g); (case l => rfl); (case k => rfl); (case f => assumption); (case e => k_is); (case d => decide); (case g => rfl))
  | ((with_reducible refine' mw_built ?f ?e ?v ?_ ?l ?k ?d ?g ?b ?n); (case l => rfl); (case k => rfl); (case f => assumption); (case e => k_is); (case v => boot_by_name); (case d => decide); (case g => rfl); (case b => rfl); (case n => decide))
  | ((with_reducible refine' mw_cell ?f ?c ?m ?_ ?l ?k ?d); (case l => rfl); (case k => rfl); (case f => assumption); (case c => rfl); (case m => k_mem); (case d => decide))
  | ((with_reducible refine' mw_free ?f ?c ?m ?_ ?l ?k ?d ?n); (case l => rfl); (case k => rfl); (case f => assumption); (case c => rfl); (case m => k_mem); (case d => decide); (case n => decide))
  | ((with_reducible refine mw_int ?_); intro _ _)
  | (with_reducible refine mw_bin ?_)
  | ((with_reducible refine mo_add ?_); intro _ _)
  | ((with_reducible refine mo_sub ?_); intro _ _)
  | ((with_reducible refine mo_iadd ?_); intro _ _)
  | ((with_reducible refine' mw_expr ?_ ?a ?b); (case a => rfl); (case b => rfl))
  | ((with_reducible refine' mw_call ?_ ?a); (case a => rfl))
  | (with_reducible refine mw_spn ?_)
  | ((with_reducible refine' mw_spc ?_ ?a); (case a => rfl))
  | ((with_reducible refine' mk_in ?f ?_); (case f => assumption))
  | ((with_reducible refine' mk_bi ?_ ?a ?b); (case a => rfl); (case b => rfl))
  | ((with_reducible refine' mk_def ?f ?k ?_ ?a ?b); (case f => assumption); (case k => k_is); (case a => rfl); (case b => rfl))
  | (with_reducible refine mw_if ?_)
  | ((with_reducible refine' mt_cmp ?_ ?a); (case a => rfl))
  | (with_reducible refine mt_bool ?_)
  | (with_reducible refine mc_lt ?_)
  | (with_reducible refine mc_gt ?_)
  | (with_reducible refine mc_eq ?_)
  | (with_reducible refine mc_ne ?_)
  | (with_reducible refine mc_le ?_)
  | (with_reducible refine mc_ge ?_)
  | (with_reducible refine mw_sub ?_)
  | ((with_reducible refine' mw_asgS ?_ ?s); (case s => rfl))
  | (with_reducible refine mw_ret ?_)
  | (with_reducible refine seq_ret ?_)
  | (with_reducible refine seq_brk ?_)
  | (with_reducible refine seq_cont ?_)
  | (with_reducible refine mw_brk ?_)
  | (with_reducible refine mw_cont ?_)
  | (with_reducible refine mt_and ?_)
  | (with_reducible refine mt_and0 ?_)
  | (with_reducible refine mt_or ?_)
  | (with_reducible refine mt_or0 ?_)
  | (with_reducible refine mt_not ?_)
  | (with_reducible refine mt_name ?_)
  | (with_reducible refine mt_call ?_)
  | (with_reducible refine mw_tuple ?_)
  | (with_reducible refine mw_list ?_)
  | ((with_reducible refine' mw_cmp ?_ ?a); (case a => rfl))
  | (with_reducible refine mw_un ?_)
  | ((with_reducible refine mo_neg ?_); intro _ _)
  | (with_reducible refine mo_not ?_)
  | (with_reducible refine mw_ifexp ?_)
  | (with_reducible refine mw_and ?_)
  | (with_reducible refine mw_or ?_)
  | (with_reducible refine mw_bone ?_)
  | (with_reducible refine mw_bool ?_)
  | ((with_reducible refine' ml_len ?f ?m ?z ?_); (case f => assumption); (case m => k_mem); (case z => (rw [sizeLine_eq]; omega)); intro _ _)
  | ((with_reducible refine' mo_shr1 ?z ?_); (case z => omega); intro _ _)
  | ((with_reducible refine' mk_meth ?_ ?a); (case a => rfl))
  | (with_reducible refine mk_m0 ?_)
  | ((with_reducible refine' mk_m1 ?_ ?a ?b); (case a => rfl); (case b => rfl))
  | ((with_reducible refine mw_aug ?_))
  | ((with_reducible refine' mw_ldl ?f ?v ?_ ?l ?k); (case l => rfl); (case k => rfl); (case f => assumption); (case v => first | rfl | assumption))
  | ((with_reducible refine' mw_ldc ?f ?c ?m ?_ ?l ?k); (case l => rfl); (case k => rfl); (case f => assumption); (case c => rfl); (case m => k_mem))
  | ((with_reducible refine' mw_stc ?f ?c ?u ?_ ?l ?k); (case l => rfl); (case k => rfl); (case f => assumption); (case c => rfl); (case u => k_upd); intro _ _))
local macro_rules | `(tactic| walk_at "go") => `(tactic| repeat' walk_at "m1")
local macro_rules | `(tactic| walk_at "goI") => `(tactic| repeat' ((fail_if_success (with_reducible show wpAny _ _ (exec (Stmt.If _ _ _ _) _) _ _ _)); walk_at "m1"))

section
variable {prog : Program} {w : World} {A : Around} {E : Value → Shared → Prop} {p : Program} {loose : List Str} {mean : ExcName → Option Value} {mg mb : Str → Option Value} {b h : Heap} {ge : Array GenState} {dr : Drawn} {tk : Nat} {os : OsState}
  {κ : Type} (V : Ordv κ) {l : Addr} {vs : List Value} {ks : List κ} {c : Nat} {Q : Value → Shared → Prop}

theorem siftdown_spec (B : Base w p loose mean mg mb b) (hb : b.StaysIn h) (hl : h.get? l = some (listOf vs.toArray c)) (hlb : b.get? l = none) (hr : RelL (V.rel h) vs ks)
    {st pos : Nat} {t1 t2 : Tok} {x : κ} (hx : ks[pos]? = some x) (hz : ks.length ≤ 1000000) (hd : A.depth < recursionLimit) (hu : A.units + 20 < cLine)
    (hQ : ∀ h' tk' vs' c', Ch [l] h h' → h'.get? l = some (listOf vs'.toArray c') → RelL (V.rel h') vs' (sdF V.lt st x pos ks) → Q .none ⟨h', ge, dr, tk', os⟩) :
    wpAny (model prog w) A (call (.ref 60) [.ref l, .int st t1, .int pos t2]) Q E ⟨h, ge, dr, tk, os⟩ := by
  have BX := B.X
  refine' mk_enter (news := [(l, listOf vs.toArray c)]) (binds := [("heap", .ref l), ("startpos", .int st t1), ("pos", .int pos t2)]) B hb (by simp [hl, hlb]) ?k6 ?k7 hd ?k9 ?kB ?_ ?c2 ?c3 ?c4 ?c5
  case k6 => k_is
  case k7 => k_is
  case k9 => exact fun _ => BindsTo.of_eq rfl
  case kB => exact locs rfl
  case c2 => exact rfl
  case c3 => exact rfl
  case c4 => exact rfl
  case c5 => decide
  intro g L h₁ tk₁ fb hg tg hbg
  clear BX
  have X := fb.B.X
  have hr' := hr.mono fun _ _ => V.keep tg
  obtain ⟨v0, hv0, r0⟩ := hr'.get hx
  have hpos := (List.getElem?_eq_some_iff.mp hx).1
  walk_at "go"
  refine ml_item (by assumption) (by k_mem) (by omega) (by omega) (by simpa using hv0) ?_ rfl
  walk_at "go"
  (with_reducible rename FB _ _ _ _ _ _ _ _ _ _ _ => f1)
  refine while_cut (fun n s' => ∃ ks' vs' m h tk, s' = ⟨h, ge, dr, tk, os⟩ ∧ FB w p loose mean mg mb g L h m [(l, listOf vs'.toArray c)] ∧ RelL (V.rel g) vs' ks' ∧ ks'.length = ks.length ∧ n < ks'.length ∧
      m "heap" = some (.ref l) ∧ m "startpos" = some (.int st t1) ∧ (∃ t, m "pos" = some (.int n t)) ∧ m "newitem" = some v0 ∧ sdF V.lt st x n ks' = sdF V.lt st x pos ks)
    (fun s' => ∃ ks' vs' m h tk n, s' = ⟨h, ge, dr, tk, os⟩ ∧ FB w p loose mean mg mb g L h m [(l, listOf vs'.toArray c)] ∧ RelL (V.rel g) vs' ks' ∧ ks'.length = ks.length ∧ n < ks'.length ∧
      m "heap" = some (.ref l) ∧ (∃ t, m "pos" = some (.int (n : Nat) t)) ∧ m "newitem" = some v0 ∧ ks'.set n x = sdF V.lt st x pos ks) ?turn pos ?start ?fin
  case start => exact ⟨ks, vs, _, _, _, rfl, f1, hr', rfl, hpos, rfl, rfl, ⟨_, rfl⟩, rfl, rfl⟩
  case turn =>
    rintro n s' ⟨ks', vs', m, h, tk, rfl, f, R, hlen, hn, m1, m2, ⟨t3, m3⟩, m4, e⟩
    clear f1
    walk_at "go"
    by_cases hc : st < n
    · rw [if_pos (by simp; omega)]
      walk_at "go"
      have hp : (n - 1) / 2 < ks'.length := by omega
      obtain ⟨y, hy⟩ : ∃ y, ks'[(n - 1) / 2]? = some y := ⟨_, List.getElem?_eq_getElem hp⟩
      obtain ⟨vy, hvy, ry⟩ := R.get hy
      refine ml_item (v := vy) (by assumption) (by k_mem) (by omega) (by omega) ?_ ?_ rfl
      · have : ((↑n - 1 : Int) / 2).toNat = (n - 1) / 2 := by omega
        rw [this]; exact hvy
      walk_at "go"
      (with_reducible rename FB _ _ _ _ _ _ _ _ _ _ _ => f2)
      refine V.cmp (x := x) (y := y) (by show A.units + 3 < cLine; omega) (V.keep (TK.of_keep f2.keep) r0) (V.keep (TK.of_keep f2.keep) ry) ?_
      cases hlt : V.lt x y with
      | true =>
        walk_at "go"
        rw [if_pos rfl]
        walk_at "go"
        refine ml_set f2 (by k_upd) (by omega) (by omega) (by rw [R.1]; omega) ?_
        intro h3 f3
        walk_at "go"
        (with_reducible rename FB _ _ _ _ _ _ _ _ _ _ _ => f4)
        refine ⟨(n - 1) / 2, by omega, ks'.set n y, vs'.set n vy, _, _, _, rfl, f4, R.set ry, by simpa using hlen, by simpa using hp, m1, m2, ?_, m4, ?_⟩
        · have : ((↑n - 1 : Int) / 2) = (((n - 1) / 2 : Nat) : Int) := by omega
          rw [← this]; exact ⟨_, rfl⟩
        · rw [← e]
          conv => rhs; unfold sdF
          rw [if_pos hc, hy]
          simp [hlt]
      | false =>
        walk_at "go"
        rw [if_neg (by simp)]
        walk_at "go"
        refine ⟨ks', vs', _, _, _, n, rfl, f2, R, hlen, hn, m1, ⟨_, m3⟩, m4, ?_⟩
        rw [← e]
        conv => rhs; unfold sdF
        rw [if_pos hc, hy]
        simp [hlt]
    · rw [if_neg (by simp; omega)]
      refine ⟨ks', vs', m, h, _, n, rfl, f, R, hlen, hn, m1, ⟨_, m3⟩, m4, ?_⟩
      rw [← e]
      unfold sdF
      rw [if_neg hc]
  case fin =>
    rintro s' ⟨ks', vs', m, h, tk, n, rfl, f, R, hlen, hn, m1, ⟨t3, m3⟩, m4, e⟩
    clear f1
    walk_at "go"
    have hn' : n < vs'.length := by rw [R.1]; exact hn
    refine ml_set f (by k_upd) (by omega) (by omega) (by omega) ?_
    intro h2 f2
    walk_at "go"
    refine hQ _ _ (vs'.set n v0) c (ch_of (by simpa using hg) f2) (f2.N _ (List.Mem.head _)).1 ?_
    rw [← e]
    exact (R.set r0).mono fun _ _ => V.keep (TK.of_keep f2.keep)
end
end
section
def suPick {κ : Type} (lt : κ → κ → Bool) (ks : List κ) (c : Nat) : Nat :=
  match ks[c]?, ks[c + 1]? with
  | some a, some b => if lt a b then c else c + 1
  | _, _ => c
theorem suPick_ge {κ : Type} (lt : κ → κ → Bool) (ks : List κ) (c : Nat) : c ≤ suPick lt ks c ∧ suPick lt ks c ≤ c + 1 := by
  unfold suPick
  split
  · split <;> omega
  · omega
def suF {κ : Type} (lt : κ → κ → Bool) (pos : Nat) (ks : List κ) : Nat × List κ :=
  if 2 * pos + 1 < ks.length then
    match h : ks[suPick lt ks (2 * pos + 1)]? with
    | some y => suF lt (suPick lt ks (2 * pos + 1)) (ks.set pos y)
    | none => (pos, ks)
  else (pos, ks)
termination_by ks.length - pos
decreasing_by
  have h1 := (List.getElem?_eq_some_iff.mp h).1
  have h2 := suPick_ge lt ks (2 * pos + 1)
  simp only [List.length_set]
  omega
theorem suPick_lt {κ : Type} (lt : κ → κ → Bool) (ks : List κ) (c : Nat) (h : c < ks.length) : suPick lt ks c < ks.length := by
  unfold suPick
  split
  · rename_i h2
    have := (List.getElem?_eq_some_iff.mp h2).1
    split <;> omega
  · exact h
theorem suF_step {κ : Type} {lt : κ → κ → Bool} {pos : Nat} {ks : List κ} {y : κ} (h : 2 * pos + 1 < ks.length) (hy : ks[suPick lt ks (2 * pos + 1)]? = some y) : suF lt pos ks = suF lt (suPick lt ks (2 * pos + 1)) (ks.set pos y) := by
  conv => lhs; unfold suF
  rw [if_pos h]
  split
  · rename_i h2; rw [hy] at h2; cases h2; rfl
  · rename_i h2; rw [hy] at h2; cases h2
theorem suF_end {κ : Type} {lt : κ → κ → Bool} {pos : Nat} {ks : List κ} (h : ¬ 2 * pos + 1 < ks.length) : suF lt pos ks = (pos, ks) := by
  unfold suF
  rw [if_neg h]
def siftup {κ : Type} (lt : κ → κ → Bool) (x : κ) (pos : Nat) (ks : List κ) : List κ :=
  sdF lt pos x (suF lt pos ks).1 ((suF lt pos ks).2.set (suF lt pos ks).1 x)

local macro_rules | `(tactic| walk_at "m1") => `(tactic| first
  | (with_reducible refine seq_next ?_)
  | ((with_reducible refine' mw_local ?f ?v ?_ ?l ?k ?d); (case l => rfl); (case k => rfl); (case f => assumption); (case d => decide); (case v => first | rfl | assumption))
  | (with_reducible refine mw_cons ?_)
  | (with_reducible refine mw_nil ?_)
  | ((with_reducible refine' mw_asg ?_ ?s); (case s => rfl))
  | ((with_reducible refine' mw_st ?f ?_ ?l ?k); (case l => rfl); (case k => rfl); (case f => assumption); intro _ _ _)
  | ((with_reducible refine' mw_glob ?f ?e ?_ ?l ?k ?d ?g); (case l => rfl); (case k => rfl); (case f => assumption); (case e => k_is); (case d => decide); (case g => rfl))
  | ((with_reducible refine' mw_built ?f ?e ?v ?_ ?l ?k ?d ?g ?b ?n); (case l => rfl); (case k => rfl); (case f => assumption); (case e => k_is); (case v => boot_by_name); (case d => decide); (case g => rfl); (case b => rfl); (case n => decide))
  | ((with_reducible refine' mw_cell ?f ?c ?m ?_ ?l ?k ?d); (case l => rfl); (case k => rfl); (case f => assumption); (case c => rfl); (case m => k_mem); (case d => decide))
  | ((with_reducible refine' mw_free ?f ?c ?m ?_ ?l ?k ?d ?n); (case l => rfl); (case k => rfl); (case f => assumption); (case c => rfl); (case m => k_mem); (case d => decide); (case n => decide))
  | ((with_reducible refine mw_int ?_); intro _ _)
  | (with_reducible refine mw_bin ?_)
  | ((with_reducible refine mo_add ?_); intro _ _)
  | ((with_reducible refine mo_sub ?_); intro _ _)
  | ((with_reducible refine mo_iadd ?_); intro _ _)
  | ((with_reducible refine' mw_expr ?_ ?a ?b); (case a => rfl); (case b => rfl))
  | ((with_reducible refine' mw_call ?_ ?a); (case a => rfl))
  | (with_reducible refine mw_spn ?_)
  | ((with_reducible refine' mw_spc ?_ ?a); (case a => rfl))
  | ((with_reducible refine' mk_in ?f ?_); (case f => assumption))
  | ((with_reducible refine' mk_bi ?_ ?a ?b); (case a => rfl); (case b => rfl))
  | ((with_reducible refine' mk_def ?f ?k ?_ ?a ?b); (case f => assumption); (case k => k_is); (case a => rfl); (case b => rfl))
  | (with_reducible refine mw_if ?_)
  | ((with_reducible refine' mt_cmp ?_ ?a); (case a => rfl))
  | (with_reducible refine mt_bool ?_)
  | (with_reducible refine mc_lt ?_)
  | (with_reducible refine mc_gt ?_)
  | (with_reducible refine mc_eq ?_)
  | (with_reducible refine mc_ne ?_)
  | (with_reducible refine mc_le ?_)
  | (with_reducible refine mc_ge ?_)
  | (with_reducible refine mw_sub ?_)
  | ((with_reducible refine' mw_asgS ?_ ?s); (case s => rfl))
  | (with_reducible refine mw_ret ?_)
  | (with_reducible refine seq_ret ?_)
  | (with_reducible refine seq_brk ?_)
  | (with_reducible refine seq_cont ?_)
  | (with_reducible refine mw_brk ?_)
  | (with_reducible refine mw_cont ?_)
  | (with_reducible refine mt_and ?_)
  | (with_reducible refine mt_and0 ?_)
  | (with_reducible refine mt_or ?_)
  | (with_reducible refine mt_or0 ?_)
  | (with_reducible refine mt_not ?_)
  | (with_reducible refine mt_name ?_)
  | (with_reducible refine mt_call ?_)
  | (with_reducible refine mw_tuple ?_)
  | (with_reducible refine mw_list ?_)
  | ((with_reducible refine' mw_cmp ?_ ?a); (case a => rfl))
  | (with_reducible refine mw_un ?_)
  | ((with_reducible refine mo_neg ?_); intro _ _)
  | (with_reducible refine mo_not ?_)
  | (with_reducible refine mw_ifexp ?_)
  | (with_reducible refine mw_and ?_)
  | (with_reducible refine mw_or ?_)
  | (with_reducible refine mw_bone ?_)
  | (with_reducible refine mw_bool ?_)
  | ((with_reducible refine' ml_len ?f ?m ?z ?_); (case f => assumption); (case m => k_mem); (case z => (rw [sizeLine_eq]; omega)); intro _ _)
  | ((with_reducible refine' mo_shr1 ?z ?_); (case z => omega); intro _ _)
  | ((with_reducible refine' mk_meth ?_ ?a); (case a => rfl))
  | (with_reducible refine mk_m0 ?_)
  | ((with_reducible refine' mk_m1 ?_ ?a ?b); (case a => rfl); (case b => rfl))
  | ((with_reducible refine mw_aug ?_))
  | ((with_reducible refine' mw_ldl ?f ?v ?_ ?l ?k); (case l => rfl); (case k => rfl); (case f => assumption); (case v => first | rfl | assumption))
  | ((with_reducible refine' mw_ldc ?f ?c ?m ?_ ?l ?k); (case l => rfl); (case k => rfl); (case f => assumption); (case c => rfl); (case m => k_mem))
  | ((with_reducible refine' mw_stc ?f ?c ?u ?_ ?l ?k); (case l => rfl); (case k => rfl); (case f => assumption); (case c => rfl); (case u => k_upd); intro _ _))
local macro_rules | `(tactic| walk_at "go") => `(tactic| repeat' walk_at "m1")
local macro_rules | `(tactic| walk_at "goI") => `(tactic| repeat' ((fail_if_success (with_reducible show wpAny _ _ (exec (Stmt.If _ _ _ _) _) _ _ _)); walk_at "m1"))

section
variable {prog : Program} {w : World} {A : Around} {E : Value → Shared → Prop} {p : Program} {loose : List Str} {mean : ExcName → Option Value} {mg mb : Str → Option Value} {b h : Heap} {ge : Array GenState} {dr : Drawn} {tk : Nat} {os : OsState}
  {κ : Type} (V : Ordv κ) {l : Addr} {vs : List Value} {ks : List κ} {c : Nat} {Q : Value → Shared → Prop}

theorem siftup_spec (B : Base w p loose mean mg mb b) (hb : b.StaysIn h) (hl : h.get? l = some (listOf vs.toArray c)) (hlb : b.get? l = none) (hr : RelL (V.rel h) vs ks)
    {pos : Nat} {t2 : Tok} {x : κ} (hx : ks[pos]? = some x) (hz : ks.length ≤ 1000000) (hd : A.depth + 1 < recursionLimit) (hu : A.units + 30 < cLine)
    (hQ : ∀ h' tk' vs' c', Ch [l] h h' → h'.get? l = some (listOf vs'.toArray c') → RelL (V.rel h') vs' (siftup V.lt x pos ks) → Q .none ⟨h', ge, dr, tk', os⟩) :
    wpAny (model prog w) A (call (.ref 67) [.ref l, .int pos t2]) Q E ⟨h, ge, dr, tk, os⟩ := by
  have BX := B.X
  have hvl := hr.1
  refine' mk_enter (news := [(l, listOf vs.toArray c)]) (binds := [("heap", .ref l), ("pos", .int pos t2)]) B hb (by simp [hl, hlb]) ?k6 ?k7 (by omega) ?k9 ?kB ?_ ?c2 ?c3 ?c4 ?c5
  case k6 => k_is
  case k7 => k_is
  case k9 => exact fun _ => BindsTo.of_eq rfl
  case kB => exact locs rfl
  case c2 => exact rfl
  case c3 => exact rfl
  case c4 => exact rfl
  case c5 => decide
  intro g L h₁ tk₁ fb hg tg hbg
  clear BX
  have X := fb.B.X
  have hr' := hr.mono fun _ _ => V.keep tg
  obtain ⟨v0, hv0, r0⟩ := hr'.get hx
  have hpos := (List.getElem?_eq_some_iff.mp hx).1
  walk_at "go"
  refine ml_item (by assumption) (by k_mem) (by omega) (by omega) (by simpa using hv0) ?_ rfl
  walk_at "go"
  refine mo_mul ?_ ?_
  · exact IntMulOk.of_left (intBits_le_64 (by omega) (by omega))
  intro _ _
  walk_at "go"
  (with_reducible rename FB _ _ _ _ _ _ _ _ _ _ _ => f1)
  refine while_cut (fun n s' => ∃ ks' vs' m h tk q, n = ks'.length - q ∧ s' = ⟨h, ge, dr, tk, os⟩ ∧ FB w p loose mean mg mb g L h m [(l, listOf vs'.toArray c)] ∧ RelL (V.rel g) vs' ks' ∧ ks'.length = ks.length ∧ q < ks'.length ∧
      m "heap" = some (.ref l) ∧ (∃ t, m "endpos" = some (.int (ks.length : Nat) t)) ∧ (∃ t, m "startpos" = some (.int (pos : Nat) t)) ∧ (∃ t, m "pos" = some (.int (q : Nat) t)) ∧ (∃ t, m "childpos" = some (.int (2 * (q : Nat) + 1) t)) ∧ m "newitem" = some v0 ∧ suF V.lt q ks' = suF V.lt pos ks)
    (fun s' => ∃ ks' vs' m h tk q, s' = ⟨h, ge, dr, tk, os⟩ ∧ FB w p loose mean mg mb g L h m [(l, listOf vs'.toArray c)] ∧ RelL (V.rel g) vs' ks' ∧ ks'.length = ks.length ∧ q < ks'.length ∧
      m "heap" = some (.ref l) ∧ (∃ t, m "startpos" = some (.int (pos : Nat) t)) ∧ (∃ t, m "pos" = some (.int (q : Nat) t)) ∧ m "newitem" = some v0 ∧ (q, ks') = suF V.lt pos ks) ?turn (ks.length - pos) ?start ?fin
  case start => exact ⟨ks, vs, _, _, _, pos, rfl, rfl, f1, hr', rfl, hpos, rfl, ⟨_, by rw [← hvl]; rfl⟩, ⟨_, rfl⟩, ⟨_, rfl⟩, ⟨_, rfl⟩, rfl, rfl⟩
  case turn =>
    rintro n s' ⟨ks', vs', m, h, tk, q, hn, rfl, f, R, hlen, hq, m1, ⟨t3, m3⟩, ⟨t4, m4⟩, ⟨t5, m5⟩, ⟨t6, m6⟩, m7, e⟩
    clear f1
    walk_at "go"
    by_cases hc : 2 * q + 1 < ks.length
    · rw [if_pos (by simp; omega)]
      walk_at "goI"
      (with_reducible rename FB _ _ _ _ _ _ _ _ _ _ _ => f2)
      have hpk := suPick_ge V.lt ks' (2 * q + 1)
      have hpl := suPick_lt V.lt ks' (2 * q + 1) (by omega)
      refine next_cut (fun s' => ∃ m h tk, s' = ⟨h, ge, dr, tk, os⟩ ∧ FB w p loose mean mg mb g L h m [(l, listOf vs'.toArray c)] ∧ m "heap" = some (.ref l) ∧ (∃ t, m "endpos" = some (.int (ks.length : Nat) t)) ∧ (∃ t, m "startpos" = some (.int (pos : Nat) t)) ∧ (∃ t, m "pos" = some (.int (q : Nat) t)) ∧ (∃ t, m "childpos" = some (.int (suPick V.lt ks' (2 * q + 1) : Nat) t)) ∧ m "newitem" = some v0) ?ifs ?rest
      case ifs =>
        walk_at "go"
        obtain ⟨y1, hy1⟩ : ∃ y, ks'[2 * q + 1]? = some y := ⟨_, List.getElem?_eq_getElem (by omega)⟩
        obtain ⟨v1, hv1, r1⟩ := R.get hy1
        by_cases hc2 : 2 * q + 1 + 1 < ks'.length
        · obtain ⟨y2, hy2⟩ : ∃ y, ks'[2 * q + 1 + 1]? = some y := ⟨_, List.getElem?_eq_getElem hc2⟩
          obtain ⟨v2, hv2, r2⟩ := R.get hy2
          rw [if_pos (by simp; omega)]
          walk_at "go"
          refine ml_item (v := v1) f2 (by k_mem) (by omega) (by omega) ?_ ?_ rfl
          · rw [show ((2 * (q : Int) + 1).toNat) = 2 * q + 1 by omega]; exact hv1
          walk_at "go"
          refine ml_item (v := v2) f2 (by k_mem) (by omega) (by omega) ?_ ?_ rfl
          · rw [show ((2 * (q : Int) + 1 + 1).toNat) = 2 * q + 1 + 1 by omega]; exact hv2
          refine V.cmp (x := y1) (y := y2) (by show A.units + 3 < cLine; omega) (V.keep (TK.of_keep f2.keep) r1) (V.keep (TK.of_keep f2.keep) r2) ?_
          have hpick : suPick V.lt ks' (2 * q + 1) = if V.lt y1 y2 then 2 * q + 1 else 2 * q + 1 + 1 := by unfold suPick; rw [hy1, hy2]
          cases hlt : V.lt y1 y2 with
          | true =>
            rw [hlt, if_pos rfl] at hpick
            walk_at "go"
            rw [if_neg (by simp)]
            rw [if_neg (by simp)]
            walk_at "go"
            exact ⟨rfl, _, _, _, rfl, f2, m1, ⟨_, m3⟩, ⟨_, m4⟩, ⟨_, m5⟩, by rw [hpick]; exact ⟨_, m6⟩, m7⟩
          | false =>
            rw [hlt, if_neg (by simp)] at hpick
            walk_at "go"
            rw [if_pos (by simp)]
            walk_at "go"
            rw [if_pos rfl]
            walk_at "go"
            (with_reducible rename FB _ _ _ _ _ _ _ _ _ _ _ => f3)
            exact ⟨rfl, _, _, _, rfl, f3, m1, ⟨_, m3⟩, ⟨_, m4⟩, ⟨_, m5⟩, by rw [hpick]; exact ⟨_, rfl⟩, m7⟩
        · rw [if_neg (by simp; omega), if_neg (by simp)]
          walk_at "go"
          have hpick : suPick V.lt ks' (2 * q + 1) = 2 * q + 1 := by
            unfold suPick
            rw [List.getElem?_eq_none (by omega : ks'.length ≤ 2 * q + 1 + 1)]
            cases ks'[2 * q + 1]? <;> rfl
          exact ⟨rfl, _, _, _, rfl, f2, m1, ⟨_, m3⟩, ⟨_, m4⟩, ⟨_, m5⟩, by rw [hpick]; exact ⟨_, m6⟩, m7⟩
      case rest =>
        rintro s' ⟨m, h, tk, rfl, f, m1, ⟨t3, m3⟩, ⟨t4, m4⟩, ⟨t5, m5⟩, ⟨t6, m6⟩, m7⟩
        clear f2
        generalize hcq : suPick V.lt ks' (2 * q + 1) = cq at *
        obtain ⟨y, hy⟩ : ∃ y, ks'[cq]? = some y := ⟨_, List.getElem?_eq_getElem hpl⟩
        obtain ⟨vy, hvy, ry⟩ := R.get hy
        walk_at "go"
        refine ml_item (v := vy) f (by k_mem) (by omega) (by omega) (by simpa using hvy) ?_ rfl
        walk_at "go"
        refine ml_set f (by k_upd) (by omega) (by omega) (by rw [R.1]; omega) ?_
        intro h3 f3
        walk_at "go"
        refine mo_mul ?_ ?_
        · exact IntMulOk.of_left (intBits_le_64 (by omega) (by omega))
        intro _ _
        walk_at "go"
        (with_reducible rename FB _ _ _ _ _ _ _ _ _ _ _ => f4)
        refine ⟨ks'.length - cq, by omega, ks'.set q y, vs'.set q vy, _, _, _, cq, by simp, rfl, f4, R.set ry, by simpa using hlen, by simpa using hpl, m1, ⟨_, m3⟩, ⟨_, m4⟩, ⟨_, rfl⟩, ⟨_, rfl⟩, m7, ?_⟩
        rw [← e]
        subst hcq
        rw [suF_step (by omega) hy]
    · rw [if_neg (by simp; omega)]
      exact ⟨ks', vs', m, h, _, q, rfl, f, R, hlen, hq, m1, ⟨_, m4⟩, ⟨_, m5⟩, m7, by rw [← e, suF_end (by omega)]⟩
  case fin =>
    rintro s' ⟨ks', vs', m, h, tk, q, rfl, f, R, hlen, hq, m1, ⟨t4, m4⟩, ⟨t5, m5⟩, m7, e⟩
    clear f1
    walk_at "go"
    have hn' : q < vs'.length := by rw [R.1]; exact hq
    refine ml_set f (by k_upd) (by omega) (by omega) (by omega) ?_
    intro h2 f2
    walk_at "go"
    have R2 := (R.set r0 (i := q)).mono fun _ _ => V.keep (TK.of_keep f2.keep)
    refine siftdown_spec V (ks := ks'.set q x) f2.B f2.keep (f2.N _ (List.Mem.head _)).1 (f2.N _ (List.Mem.head _)).2.2 R2 (x := x) (by rw [List.getElem?_set]; simp [hq]) (by simpa using (by omega)) (by show A.depth + 1 < _; omega) (by show A.units + 3 + 20 < _; omega) ?_
    intro h3 tk3 vs3 c3 C3 hl3 R3
    have f3 := f2.ch C3 (o' := listOf vs3.toArray c3) (by k_upd) hl3
    walk_at "go"
    refine hQ _ _ vs3 c3 (ch_of (by simpa using hg) f3) hl3 ?_
    have e1 : (suF V.lt pos ks).1 = q := by rw [← e]
    have e2 : (suF V.lt pos ks).2 = ks' := by rw [← e]
    rw [siftup, e1, e2]
    exact R3
end
end
section
local macro_rules | `(tactic| walk_at "m1") => `(tactic| first
  | (with_reducible refine seq_next ?_)
  | ((with_reducible refine' mw_local ?f ?v ?_ ?l ?k ?d); (case l => rfl); (case k => rfl); (case f => assumption); (case d => decide); (case v => first | rfl | assumption))
  | (with_reducible refine mw_cons ?_)
  | (with_reducible refine mw_nil ?_)
  | ((with_reducible refine' mw_asg ?_ ?s); (case s => rfl))
  | ((with_reducible refine' mw_st ?f ?_ ?l ?k); (case l => rfl); (case k => rfl); (case f => assumption); intro _ _ _)
  | ((with_reducible refine' mw_glob ?f ?e ?_ ?l ?k ?d ?g); (case l => rfl); (case k => rfl); (case f => assumption); (case e => k_is); (case d => decide); (case g => rfl))
  | ((with_reducible refine' mw_built ?f ?e ?v ?_ ?l ?k ?d ?g ?b ?n); (case l => rfl); (case k => rfl); (case f => assumption); (case e => k_is); (case v => boot_by_name); (case d => decide); (case g => rfl); (case b => rfl); (case n => decide))
  | ((with_reducible refine' mw_cell ?f ?c ?m ?_ ?l ?k ?d); (case l => rfl); (case k => rfl); (case f => assumption); (case c => rfl); (case m => k_mem); (case d => decide))
  | ((with_reducible refine' mw_free ?f ?c ?m ?_ ?l ?k ?d ?n); (case l => rfl); (case k => rfl); (case f => assumption); (case c => rfl); (case m => k_mem); (case d => decide); (case n => decide))
  | ((with_reducible refine mw_int ?_); intro _ _)
  | (with_reducible refine mw_bin ?_)
  | ((with_reducible refine mo_add ?_); intro _ _)
  | ((with_reducible refine mo_sub ?_); intro _ _)
  | ((with_reducible refine mo_iadd ?_); intro _ _)
  | ((with_reducible refine' mw_expr ?_ ?a ?b); (case a => rfl); (case b => rfl))
  | ((with_reducible refine' mw_call ?_ ?a); (case a => rfl))
  | (with_reducible refine mw_spn ?_)
  | ((with_reducible refine' mw_spc ?_ ?a); (case a => rfl))
  | ((with_reducible refine' mk_in ?f ?_); (case f => assumption))
  | ((with_reducible refine' mk_bi ?_ ?a ?b); (case a => rfl); (case b => rfl))
  | ((with_reducible refine' mk_def ?f ?k ?_ ?a ?b); (case f => assumption); (case k => k_is); (case a => rfl); (case b => rfl))
  | (with_reducible refine mw_if ?_)
  | ((with_reducible refine' mt_cmp ?_ ?a); (case a => rfl))
  | (with_reducible refine mt_bool ?_)
  | (with_reducible refine mc_lt ?_)
  | (with_reducible refine mc_gt ?_)
  | (with_reducible refine mc_eq ?_)
  | (with_reducible refine mc_ne ?_)
  | (with_reducible refine mc_le ?_)
  | (with_reducible refine mc_ge ?_)
  | (with_reducible refine mw_sub ?_)
  | ((with_reducible refine' mw_asgS ?_ ?s); (case s => rfl))
  | (with_reducible refine mw_ret ?_)
  | (with_reducible refine seq_ret ?_)
  | (with_reducible refine seq_brk ?_)
  | (with_reducible refine seq_cont ?_)
  | (with_reducible refine mw_brk ?_)
  | (with_reducible refine mw_cont ?_)
  | (with_reducible refine mt_and ?_)
  | (with_reducible refine mt_and0 ?_)
  | (with_reducible refine mt_or ?_)
  | (with_reducible refine mt_or0 ?_)
  | (with_reducible refine mt_not ?_)
  | (with_reducible refine mt_name ?_)
  | (with_reducible refine mt_call ?_)
  | (with_reducible refine mw_tuple ?_)
  | (with_reducible refine mw_list ?_)
  | ((with_reducible refine' mw_cmp ?_ ?a); (case a => rfl))
  | (with_reducible refine mw_un ?_)
  | ((with_reducible refine mo_neg ?_); intro _ _)
  | (with_reducible refine mo_not ?_)
  | (with_reducible refine mw_ifexp ?_)
  | (with_reducible refine mw_and ?_)
  | (with_reducible refine mw_or ?_)
  | (with_reducible refine mw_bone ?_)
  | (with_reducible refine mw_bool ?_)
  | ((with_reducible refine' ml_len ?f ?m ?z ?_); (case f => assumption); (case m => k_mem); (case z => (rw [sizeLine_eq]; omega)); intro _ _)
  | ((with_reducible refine' mo_shr1 ?z ?_); (case z => omega); intro _ _)
  | ((with_reducible refine' mk_meth ?_ ?a); (case a => rfl))
  | (with_reducible refine mk_m0 ?_)
  | ((with_reducible refine' mk_m1 ?_ ?a ?b); (case a => rfl); (case b => rfl))
  | ((with_reducible refine mw_aug ?_))
  | ((with_reducible refine' mw_ldl ?f ?v ?_ ?l ?k); (case l => rfl); (case k => rfl); (case f => assumption); (case v => first | rfl | assumption))
  | ((with_reducible refine' mw_ldc ?f ?c ?m ?_ ?l ?k); (case l => rfl); (case k => rfl); (case f => assumption); (case c => rfl); (case m => k_mem))
  | ((with_reducible refine' mw_stc ?f ?c ?u ?_ ?l ?k); (case l => rfl); (case k => rfl); (case f => assumption); (case c => rfl); (case u => k_upd); intro _ _))
local macro_rules | `(tactic| walk_at "go") => `(tactic| repeat' walk_at "m1")
local macro_rules | `(tactic| walk_at "goI") => `(tactic| repeat' ((fail_if_success (with_reducible show wpAny _ _ (exec (Stmt.If _ _ _ _) _) _ _ _)); walk_at "m1"))

theorem split_last {α : Type} {l : List α} {x : α} (h : l.getLast? = some x) : l = l.dropLast ++ [x] := by
  cases l with
  | nil => cases h
  | cons a r =>
    have e := List.dropLast_concat_getLast (l := a :: r) (by simp)
    rw [List.getLast?_eq_some_getLast (by simp)] at h
    cases h
    exact e.symm
def hpush {κ : Type} (lt : κ → κ → Bool) (ks : List κ) (x : κ) : List κ := sdF lt 0 x ks.length (ks ++ [x])
def hpop {κ : Type} (lt : κ → κ → Bool) (ks : List κ) : Option (κ × List κ) :=
  match ks.getLast?, ks.dropLast with
  | none, _ => none
  | some x, [] => some (x, [])
  | some x, y :: r => some (y, siftup lt x 0 (x :: r))
section
variable {prog : Program} {w : World} {A : Around} {E : Value → Shared → Prop} {p : Program} {loose : List Str} {mean : ExcName → Option Value} {mg mb : Str → Option Value} {b h : Heap} {ge : Array GenState} {dr : Drawn} {tk : Nat} {os : OsState}
  {κ : Type} (V : Ordv κ) {l : Addr} {vs : List Value} {ks : List κ} {c : Nat} {Q : Value → Shared → Prop}

theorem heappush_spec (B : Base w p loose mean mg mb b) (hb : b.StaysIn h) (hl : h.get? l = some (listOf vs.toArray c)) (hlb : b.get? l = none) (hr : RelL (V.rel h) vs ks)
    {v : Value} {x : κ} (hv : V.rel h v x) (hz : ks.length < 1000000) (hd : A.depth + 2 < recursionLimit) (hu : A.units + 40 < cLine)
    (hQ : ∀ h' tk' vs' c', Ch [l] h h' → h'.get? l = some (listOf vs'.toArray c') → RelL (V.rel h') vs' (hpush V.lt ks x) → Q .none ⟨h', ge, dr, tk', os⟩) :
    wpAny (model prog w) A (call (.ref 39) [.ref l, v]) Q E ⟨h, ge, dr, tk, os⟩ := by
  have BX := B.X
  have hvl := hr.1
  refine' mk_enter (news := [(l, listOf vs.toArray c)]) (binds := [("heap", .ref l), ("item", v)]) B hb (by simp [hl, hlb]) ?k6 ?k7 (by omega) ?k9 ?kB ?_ ?c2 ?c3 ?c4 ?c5
  case k6 => k_is
  case k7 => k_is
  case k9 => exact fun _ => BindsTo.of_eq rfl
  case kB => exact locs rfl
  case c2 => exact rfl
  case c3 => exact rfl
  case c4 => exact rfl
  case c5 => decide
  intro g L h₁ tk₁ fb hg tg hbg
  clear BX
  have X := fb.B.X
  have hr' := hr.mono fun _ _ => V.keep tg
  have hv' := V.keep tg hv
  walk_at "go"
  refine ml_meth fb (by k_mem) PySem.F.slot_list_append PySem.F.type_list_append ?_
  walk_at "go"
  refine ml_push fb (by k_upd) (by rw [sizeLine_eq]; omega) ?_
  intro h2 f2
  have hpl : (vs ++ [v]).length ≤ 1000000 := by simp; omega
  walk_at "go"
  have e1 : ((vs ++ [v]).length : Int) - 1 = (ks.length : Nat) := by simp; omega
  rw [e1]
  refine siftdown_spec V (st := 0) (pos := ks.length) (ks := ks ++ [x]) (x := x) f2.B f2.keep (f2.at_ (.head _)) (f2.new_ (.head _)) ((hr'.push hv').mono fun _ _ => V.keep (TK.of_keep f2.keep)) (by simp) (by simp; omega) (by show A.depth + 1 < _; omega) (by show A.units + 3 + 20 < _; omega) ?_
  intro h3 tk3 vs3 c3 C3 hl3 R3
  have f3 := f2.ch C3 (o' := listOf vs3.toArray c3) (by k_upd) hl3
  walk_at "go"
  exact hQ _ _ vs3 c3 (ch_of (by simpa using hg) f3) hl3 R3

theorem heappop_spec (B : Base w p loose mean mg mb b) (hb : b.StaysIn h) (hl : h.get? l = some (listOf vs.toArray c)) (hlb : b.get? l = none) (hr : RelL (V.rel h) vs ks)
    {y : κ} {ks' : List κ} (hp : hpop V.lt ks = some (y, ks')) (hz : ks.length ≤ 1000000) (hd : A.depth + 2 < recursionLimit) (hu : A.units + 40 < cLine)
    (hQ : ∀ h' tk' vs' c' v, Ch [l] h h' → h'.get? l = some (listOf vs'.toArray c') → RelL (V.rel h') vs' ks' → V.rel h' v y → Q v ⟨h', ge, dr, tk', os⟩) :
    wpAny (model prog w) A (call (.ref 46) [.ref l]) Q E ⟨h, ge, dr, tk, os⟩ := by
  have BX := B.X
  have hvl := hr.1
  refine' mk_enter (news := [(l, listOf vs.toArray c)]) (binds := [("heap", .ref l)]) B hb (by simp [hl, hlb]) ?k6 ?k7 (by omega) ?k9 ?kB ?_ ?c2 ?c3 ?c4 ?c5
  case k6 => k_is
  case k7 => k_is
  case k9 => exact fun _ => BindsTo.of_eq rfl
  case kB => exact locs rfl
  case c2 => exact rfl
  case c3 => exact rfl
  case c4 => exact rfl
  case c5 => decide
  intro g L h₁ tk₁ fb hg tg hbg
  clear BX
  have X := fb.B.X
  have hr' := hr.mono fun _ _ => V.keep tg
  obtain ⟨x, hx⟩ : ∃ x, ks.getLast? = some x := by
    cases e : ks.getLast? with
    | none => rw [hpop, e] at hp; cases hp
    | some x => exact ⟨x, rfl⟩
  have hks : ks = ks.dropLast ++ [x] := split_last hx
  have hne : 0 < ks.length := by rw [hks]; simp
  obtain ⟨v, hv, rv⟩ := hr'.get (i := ks.length - 1) (k := x) (by rw [← List.getLast?_eq_getElem?]; exact hx)
  have hvs : vs = vs.dropLast ++ [v] := by
    refine split_last ?_
    rw [List.getLast?_eq_getElem?, hvl]; exact hv
  have hrd := hr'.dropLast
  generalize vs.dropLast = us at *
  subst hvs
  have hul : us.length = ks.dropLast.length := hrd.1
  have hzl : us.length + 1 ≤ 1000000 := by simp at hvl; omega
  walk_at "go"
  refine ml_meth fb (by k_mem) PySem.F.slot_list_pop PySem.F.type_list_pop ?_
  walk_at "go"
  refine ml_pop fb (by k_upd) (by rw [sizeLine_eq]; omega) ?_
  intro h2 f2
  walk_at "go"
  (with_reducible rename FB _ _ _ _ _ _ _ _ _ _ _ => f3)
  refine ml_true f3 (by k_mem) (by rw [sizeLine_eq]; omega) ?_
  intro tk4
  cases us with
  | nil =>
    walk_at "go"
    rw [if_neg (by simp)]
    walk_at "go"
    have e0 : ks.dropLast = [] := List.eq_nil_of_length_eq_zero hul.symm
    rw [hpop, hx, e0] at hp
    simp at hp
    obtain ⟨rfl, rfl⟩ := hp
    exact hQ _ _ [] _ v (ch_of (by simpa using hg) f3) (f3.at_ (.head _)) RelL.nil (V.keep (TK.of_keep f3.keep) rv)
  | cons u us =>
    obtain ⟨z, zs, e0⟩ : ∃ z zs, ks.dropLast = z :: zs := by
      cases e : ks.dropLast with
      | nil => rw [e] at hul; simp at hul
      | cons z zs => exact ⟨z, zs, rfl⟩
    rw [hpop, hx, e0] at hp
    simp at hp
    obtain ⟨rfl, rfl⟩ := hp
    have hl0 := congrArg List.length e0
    rw [e0] at hrd
    have ru : V.rel g u z := hrd.2 0 u z rfl rfl
    have rx := hrd.set (i := 0) rv
    walk_at "go"
    rw [if_pos (by simp)]
    walk_at "go"
    refine ml_item (v := u) f3 (by k_mem) (by omega) (by omega) rfl ?_ rfl
    walk_at "go"
    (with_reducible rename FB _ _ _ _ _ _ _ _ _ _ _ => f4)
    refine ml_set f4 (by k_upd) (by omega) (by omega) (by simp) ?_
    intro h5 f5
    walk_at "go"
    refine siftup_spec V (pos := 0) (ks := x :: zs) (x := x) f5.B f5.keep (f5.at_ (.head _)) (f5.new_ (.head _)) (rx.mono fun _ _ => V.keep (TK.of_keep f5.keep)) rfl (by simp at hl0 ⊢; omega) (by show A.depth + 1 + 1 < _; omega) (by show A.units + 3 + 30 < _; omega) ?_
    intro h6 tk6 vs6 c6 C6 hl6 R6
    have f6 := f5.ch C6 (o' := listOf vs6.toArray c6) (by k_upd) hl6
    walk_at "go"
    exact hQ _ _ vs6 c6 u (ch_of (by simpa using hg) f6) hl6 R6 (V.keep (TK.of_keep f6.keep) ru)
end
end
section
theorem ne_tup {o : Obj} (h : (o.cls == .type "tuple") = false) : ∀ vs, o ≠ tupO vs := fun vs e => by
  rw [e] at h
  exact absurd h (by simp)
theorem lst_ne (its : Array Value) (n : Nat) : ∀ vs, listOf its n ≠ tupO vs := ne_tup (by show (Value.type "list" == Value.type "tuple") = false; decide +kernel)
theorem cellW_ne (cl : Value) (di : Option Addr) (sl : Array (Option Value)) (v : Option Value) : ∀ vs, cellW cl di sl v ≠ tupO vs := fun vs e => by cases e
theorem rit_ne (d : Data) : ∀ vs, ({ cls := .type "range_iterator", data := d } : Obj) ≠ tupO vs := ne_tup (by show (Value.type "range_iterator" == Value.type "tuple") = false; decide +kernel)
theorem cell_ne (v : Option Value) : ∀ vs, cellO v ≠ tupO vs := ne_tup (by show (Value.type "cell" == Value.type "tuple") = false; decide +kernel)

section
variable {prog : Program} {w : World} {A : Around} {E : Value → Shared → Prop} {s : Shared}
theorem forLoop_gen {R : Result → Shared → Prop} {target : Expr} {it : Value} {body : List Stmt} {env : Env} (I : Nat → Shared → Prop)
    (turn : ∀ n s, I n s → wpAny (model prog w) A (pyNext it) (fun r s₁ => match r with
      | none => R (.ok .next) s₁
      | some v => wpAny (model prog w) A (letOwnedTupleGo target it v) (fun _ s₁ => wpAny (model prog w) A (assign target env v) (fun _ s₂ => wpAny (model prog w) A (execs body env) (fun f s₃ => match f with
          | .next | .cont => ∃ m, m < n ∧ I m s₃
          | .brk => R (.ok .next) s₃
          | .ret v => R (.ok (.ret v)) s₃) (fun _ _ => False) s₂) (fun _ _ => False) s₁) (fun _ _ => False) s₁) (fun _ _ => False) s)
    (n : Nat) (h : I n s) : codeAny (model prog w) A (.forLoop target it body [] env) R s := by
  refine codeAny_loop' rfl I (fun n s hI => ?_) n h
  show wpAny _ _ ((forTurn target it body [] env).onRaise (fun x => do noteFrame x env; theTreesLotGoes x)) _ _ s
  refine wpAny_noted ?_
  simp only [forTurn]
  refine wpAny_bind (wpAny_standAt (wpAny_bind (wpAny_onRaise (wpAny_mono (turn n s hI) (fun r s₁ h₁ => ?_) fun _ _ h' => h'.elim))))
  cases r with
  | none => exact wpAny_pure (.inr ⟨rfl, codeAny_block (wpAny_execs_nil h₁)⟩)
  | some v =>
    refine wpAny_bind (wpAny_mono h₁ (fun _ s₁ h₁ => wpAny_bind (wpAny_mono h₁ (fun _ s₂ h₂ => wpAny_bind (wpAny_mono h₂ (fun f s₃ h₃ => ?_) fun _ _ h' => h'.elim)) fun _ _ h' => h'.elim)) fun _ _ h' => h'.elim)
    cases f with
    | next => exact wpAny_pure (.inl ⟨rfl, h₃⟩)
    | cont => exact wpAny_pure (.inl ⟨rfl, h₃⟩)
    | brk => exact wpAny_pure h₃
    | ret v => exact wpAny_pure h₃
end

section
variable {prog : Program} {w : World} {A : Around} {E : Value → Shared → Prop} {p : Program} {loose : List Str} {mean : ExcName → Option Value} {mg mb : Str → Option Value} {g h : Heap} {ge : Array GenState} {dr : Drawn} {tk : Nat} {os : OsState} {env : Env}
  {m : Str → Option Value} {news : List (Addr × Obj)}

/-- a for over what walks, by what holds of the frame and the ledger between the turns -/
theorem for_fb {R : Result → Shared → Prop} {target : Expr} {body : List Stmt} {I : Addr} {fp : List Addr} {n : Nat} {P : Nat → Value → Prop} {St : Nat → Heap → Prop} (W : Walks prog w A I fp [I] n P St)
    (hI : ∀ i h, St i h → ∃ o, h.get? I = some o ∧ ∀ vs, o ≠ tupO vs)
    (J : Nat → Heap → (Str → Option Value) → List (Addr × Obj) → Prop)
    (hJ : ∀ i h h' m news, TK h h' → J i h m news → J i h' m news)
    (hnt : ∀ i h m news, J i h m news → ∀ q ∈ news, ∀ vs, q.2 ≠ tupO vs)
    (f : FB w p loose mean mg mb g env.locals h m news) (hIn : I ∉ news.map (·.1)) (hIL : I ≠ env.locals) (hIg : g.get? I = none) (hfp : ∀ b ∈ fp, b = I ∨ ∃ o, g.get? b = some o)
    (hst : St 0 h) (hj : J 0 h m news)
    (turn : ∀ i v g' h tk m news, i < n → P i v → J i h m news → FB w p loose mean mg mb g' env.locals h m news → g.StaysIn g' → TK h g' →
      wpAny (model prog w) A (letOwnedTupleGo target (.ref I) v) (fun _ s₁ => wpAny (model prog w) A (assign target env v) (fun _ s₂ => wpAny (model prog w) A (execs body env) (fun f s₃ => match f with
          | .next | .cont => ∃ h' tk' m' news', s₃ = ⟨h', ge, dr, tk', os⟩ ∧ FB w p loose mean mg mb g' env.locals h' m' news' ∧ J (i + 1) h' m' news'
          | .brk => R (.ok .next) s₃
          | .ret v => R (.ok (.ret v)) s₃) (fun _ _ => False) s₂) (fun _ _ => False) s₁) (fun _ _ => False) ⟨h, ge, dr, tk, os⟩)
    (fin : ∀ h tk m news, J n h m news → FB w p loose mean mg mb g env.locals h m news → R (.ok .next) ⟨h, ge, dr, tk, os⟩) :
    codeAny (model prog w) A (.forLoop target (.ref I) body [] env) R ⟨h, ge, dr, tk, os⟩ := by
  refine forLoop_gen (fun k s => ∃ i h tk m news, k = n - i ∧ i ≤ n ∧ s = ⟨h, ge, dr, tk, os⟩ ∧ FB w p loose mean mg mb g env.locals h m news ∧ I ∉ news.map (·.1) ∧ St i h ∧ J i h m news) ?_ n
    ⟨0, h, tk, m, news, rfl, Nat.zero_le _, rfl, f, hIn, hst, hj⟩
  rintro k s ⟨i, h, tk, m, news, rfl, hi, rfl, f, hIn, hst, hj⟩
  obtain ⟨oI, hoI, hnI⟩ := hI i h hst
  have step : ∀ h', (∀ b o, b ∉ [I] → h.get? b = some o → h'.get? b = some o) → FB w p loose mean mg mb g env.locals h' m news ∧ TK h h' := by
    intro h' hk
    have hk' : Ch [I] h h' := fun a o hn e => hk a o hn e
    refine ⟨⟨?_, fun a o e => hk _ _ (by rintro hm; rw [List.mem_singleton] at hm; subst hm; rw [hIg] at e; cases e) (f.keep a o e), f.out, fun q hq => ⟨hk _ _ (fun hm => hIn (by rw [List.mem_singleton] at hm; exact hm ▸ List.mem_map_of_mem hq)) (f.N q hq).1, (f.N q hq).2⟩, f.B⟩,
      TK.of_ch hk' fun q hq vs e => ?_⟩
    · obtain ⟨oL, es, ep, hL, r⟩ := f.ns
      exact ⟨oL, es, ep, hk _ _ (by simpa using Ne.symm hIL) hL, r⟩
    · rw [List.mem_singleton] at hq; subst hq
      rw [hoI] at e; exact hnI vs (Option.some.inj e)
  by_cases hin : i < n
  · refine W.item i ⟨h, ge, dr, tk, os⟩ _ _ hin hst fun v h' tk' hP hst' hk => ?_
    obtain ⟨f', t'⟩ := step h' hk
    have hj' := hJ _ _ _ _ _ t' hj
    obtain ⟨g', f2, st2, ch2, tk2⟩ := f'.rebase (news' := news) (fun _ hq => hq) (hnt _ _ _ _ hj')
    have hIg' : ∃ o, g'.get? I = some o := by
      obtain ⟨o, ho, _⟩ := hI _ _ hst'
      refine ⟨o, ch2 I o ?_ ho⟩
      intro hm
      rcases List.mem_cons.mp hm with e | hm
      · exact hIL e
      · exact hIn hm
    refine wpAny_mono (turn i v g' h' tk' m news hin hP hj' f2 st2 tk2) (fun _ s₁ x => wpAny_mono x (fun _ s₂ x => wpAny_mono x (fun fl s₃ x => ?_) fun _ _ e => e) fun _ _ e => e) fun _ _ e => e
    have next : (∃ h' tk' m' news', s₃ = ⟨h', ge, dr, tk', os⟩ ∧ FB w p loose mean mg mb g' env.locals h' m' news' ∧ J (i + 1) h' m' news') → ∃ k', k' < n - i ∧ ∃ i h tk m news, k' = n - i ∧ i ≤ n ∧ s₃ = ⟨h, ge, dr, tk, os⟩ ∧ FB w p loose mean mg mb g env.locals h m news ∧ I ∉ news.map (·.1) ∧ St i h ∧ J i h m news := by
      rintro ⟨h3, tk3, m3, news3, rfl, f3, j3⟩
      refine ⟨n - (i + 1), by omega, i + 1, h3, tk3, m3, news3, rfl, hin, rfl, f3.back st2 f.B, fun hm => ?_, W.frame _ _ _ hst' fun b hb o e => f3.keep b o ?_, j3⟩
      · obtain ⟨q, hq, e⟩ := List.mem_map.mp hm
        have z := (f3.N q hq).2.2
        rw [e] at z
        obtain ⟨o, ho⟩ := hIg'
        rw [ho] at z; cases z
      · rcases hfp b hb with rfl | ⟨o', ho'⟩
        · obtain ⟨o2, ho2⟩ := hIg'
          rw [ho2]
          exact (f2.keep _ _ ho2).symm.trans e
        · have e1 := st2 _ _ ho'
          rw [e1]
          exact (f2.keep _ _ e1).symm.trans e
    cases fl with
    | next => exact next x
    | cont => exact next x
    | brk => exact x
    | ret v => exact x
  · have e : i = n := by omega
    subst e
    refine W.done ⟨h, ge, dr, tk, os⟩ _ _ hst fun h' tk' hk => ?_
    obtain ⟨f', t'⟩ := step h' hk
    exact fin h' tk' m news (hJ _ _ _ _ _ t' hj) f'
end
end
section
abbrev rangeO (a b c : Int) (t u v : Tok) : Obj := { cls := .type "range", dict := none, data := .fields #[.int a t, .int b u, .int c v], slots := #[] }
theorem sub_range_reversed : isSubtype (.type "range_iterator") (.type "reversed") = pure false := by rw [isSubtype_type]; kernel_rfl

theorem range_rev_meets (r : Addr) (a b c : Int) (t u v : Tok)
    (hc0 : ¬(!(Builtin.Range.rangeFitsLong a && Builtin.Range.rangeFitsLong b && Builtin.Range.rangeFitsLong c && Builtin.Range.rangeFitsLong (-c) && Builtin.Range.rangeFitsLong (a - c) && Builtin.Range.rangeFitsLong (Builtin.Range.rangeSize a b c))) = true) :
    Meets (Builtin.«range.__reversed__» ⟨[.ref r], []⟩) (fun _ R s => s.heap.get? r = some { cls := .type "range", dict := none, data := .fields #[.int a t, .int b u, .int c v], slots := #[] } ∧
      R (.ok (.ret (Value.ref s.heap.objs.size))) { s with heap := s.heap.push { cls := Value.type (if (Builtin.Range.rangeFitsLong a && Builtin.Range.rangeFitsLong b && Builtin.Range.rangeFitsLong c && Builtin.Range.rangeFitsLong (-c) && Builtin.Range.rangeFitsLong (a - c) && Builtin.Range.rangeFitsLong (Builtin.Range.rangeSize a b c)) = true then "range_iterator" else "longrange_iterator"), data := Data.fields #[rawInt (a + (Builtin.Range.rangeSize a b c - 1) * c), rawInt (Builtin.Range.rangeSize a b c), rawInt (-c)] } }) :=
  .of_wp fun prog w A R s h => by obtain ⟨hp, g, d, tk, os⟩ := s; obtain ⟨hl, h⟩ := h; wp_walk; exact ⟨_, rfl, h⟩

section
variable {prog : Program} {w : World} {A : Around} {E : Value → Shared → Prop} {p : Program} {loose : List Str} {mean : ExcName → Option Value} {mg mb : Str → Option Value} {g h : Heap} {ge : Array GenState} {dr : Drawn} {tk : Nat} {os : OsState} {env : Env}
  {L : Addr} {m : Str → Option Value} {news : List (Addr × Obj)} {s : Shared}

theorem mw_for {Q : Flow → Shared → Prop} {target iter : Expr} {body : List Stmt} {pos : Pos}
    (q : wpAny (model prog w) A (eval iter env) (fun x s₁ => wpAny (model prog w) A (pyIter x) (fun it s₂ => codeAny (model prog w) A (.forLoop target it body [] env) (fun r s' => match r with | .ok f => Q f s' | .error _ => False) s₂) (fun _ _ => False) s₁) (fun _ _ => False) s)
    (hs : ∀ x, foldedSetIterable iter env x = pure x) : wpAny (model prog w) A (exec (.For target iter body [] pos) env) Q E s :=
  wpAny_For (wpAny_mono q (fun x s₁ x₁ => wpAny_mono x₁ (fun it s₂ x₂ => codeAny_mono x₂ fun r s' x₃ => by cases r with | ok f => exact x₃ | error e => exact x₃.elim) fun _ _ e => e.elim) fun _ _ e => e.elim) hs

theorem mw_asgN {x : Str} {pos : Pos} {v : Value} {Q : Unit → Shared → Prop} (f : FB w p loose mean mg mb g env.locals h m news) (q : ∀ h' tk', FB w p loose mean mg mb g env.locals h' (fun y => if y = x then some v else m y) news → Q () ⟨h', ge, dr, tk', os⟩)
    (hl : env.kindOf x = some .local) (hp : (env.scope.kind == .class || (env.scope.kind == .module && env.locals != env.globals)) = false) : wpAny (model prog w) A (assign (.Name x pos) env v) Q E ⟨h, ge, dr, tk, os⟩ :=
  wpAny_assign_Name (mw_st f q hl hp)
theorem mw_goN {x : Str} {pos : Pos} {it v : Value} {Q : Unit → Shared → Prop} (q : Q () s) : wpAny (model prog w) A (letOwnedTupleGo (.Name x pos) it v) Q E s := wpAny_pure q

theorem FB.fresh (f : FB w p loose mean mg mb g L h m news) (o : Obj) (hf : o.isFreed = false := by rfl) :
    FB w p loose mean mg mb g L (h.push o) m news ∧ (h.push o).get? h.objs.size = some o ∧ h.objs.size ∉ news.map (·.1) ∧ h.objs.size ≠ L ∧ g.get? h.objs.size = none := by
  have f1 := f.push o hf
  have z := f1.N _ (.head _)
  refine ⟨f1.sub fun q hq => .tail _ hq, z.1, fun hm => ?_, z.2.1, z.2.2⟩
  obtain ⟨q, hq, e⟩ := List.mem_map.mp hm
  exact absurd (f.lt q hq) (by rw [e]; exact Nat.lt_irrefl _)

/-- what a new iterator keeps off -/
structure Off (g : Heap) (L : Addr) (news : List (Addr × Obj)) (I : Addr) : Prop where
  n : I ∉ news.map (·.1)
  l : I ≠ L
  g : g.get? I = none

theorem mi_range {b : Int} {t : Tok} {Q : Value → Shared → Prop} (f : FB w p loose mean mg mb g L h m news)
    (q : ∀ r h' tk' u v, FB w p loose mean mg mb g L h' m ((r, rangeO 0 b 1 u t v) :: news) → (∀ q ∈ news, q.1 < r) → Q (.ref r) ⟨h', ge, dr, tk', os⟩) : wpAny (model prog w) A (call (.type "range") [.int b t]) Q E ⟨h, ge, dr, tk, os⟩ :=
  call_range_1 (s := ⟨h, ge, dr, tk, os⟩) (q _ _ _ _ _ (f.push _) f.lt)
theorem mi_rangeIter {r : Addr} {b : Nat} {t u v : Tok} {Q : Value → Shared → Prop} (f : FB w p loose mean mg mb g L h m news) (hm : (r, rangeO 0 b 1 u t v) ∈ news) (hb : b < 2 ^ 62)
    (q : ∀ I h', FB w p loose mean mg mb g L h' m news → Off g L news I → IsRangeIter h' I 0 b 1 → Q (.ref I) ⟨h', ge, dr, tk, os⟩) : wpAny (model prog w) A (pyIter (.ref r)) Q E ⟨h, ge, dr, tk, os⟩ := by
  refine wpAny_pyIter_range (s := ⟨h, ge, dr, tk, os⟩) (f.at_ hm) (small_one (by omega) (by omega) (by omega) (by omega)) ?_
  obtain ⟨f1, e1, e2, e3, e4⟩ := f.fresh { cls := .type "range_iterator", data := .fields #[rawInt 0, rawInt (Builtin.Range.rangeSize 0 b 1), rawInt 1] }
  refine q _ _ f1 ⟨e2, e3, e4⟩ ?_
  rw [rangeSize_one] at e1
  have e : (if (0 : Int) < (b : Nat) then ((b : Nat) : Int) - 0 else 0) = (b : Nat) := by split <;> omega
  rw [e] at e1
  rw [rangeSize_one, e]
  exact e1
theorem code_reversed_range {r : Addr} {a b : Int} {t u v : Tok} {Q₁ : Value → Shared → Prop} (hr : s.heap.get? r = some (rangeO a b 1 t u v)) (ha : -(2 ^ 62) ≤ a ∧ a < 2 ^ 62) (hb : -(2 ^ 62) ≤ b ∧ b < 2 ^ 62)
    (h : Q₁ (.ref s.heap.objs.size) { s with heap := s.heap.push { cls := .type "range_iterator", data := .fields #[rawInt (a + (Builtin.Range.rangeSize a b 1 - 1) * 1), rawInt (Builtin.Range.rangeSize a b 1), rawInt (-1)] } }) :
    codeAny (model prog w) A (.call (.builtin "reversed.__new__") ⟨[.type "reversed", .ref r], []⟩) (wants Q₁ E) s := by
  have hT : s.TypeIs (.ref r) "range" := ⟨_, hr, rfl⟩
  refine codeAny_of_tree ?_
  show wpAny _ A.in1 (do checkBuiltinCall "reversed.__new__" ⟨[.type "reversed", .ref r], []⟩; again (.builtin "reversed.__new__" ⟨[.type "reversed", .ref r], []⟩)) _ _ s
  refine wpAny_bind (wpAny_of_eq (F.newCall_reversed_1 _) (wpAny_pure ⟨plainId_quiet F.plain_reversed_new _, codeAny_builtin F.entry_reversed_new ?_⟩))
  rw [Around.under_plainId F.plain_reversed_new _]
  unfold Builtin.«reversed.__new__»
  refine wpAny_bind (wpAny_of_eq (newClass_reversed _) ?_)
  try dsimp only
  refine wpAny_bind (wpAny_of_eq (a := ()) (by first | rfl | kernel_rfl) ?_)
  refine wpAny_bind (wpAny_of_eq (a := ()) (by first | rfl | kernel_rfl) ?_)
  try dsimp only
  refine wpAny_bind (wpAny_specialOf hT F.slot_range_reversed.lookup ?_)
  try dsimp only
  refine wpAny_bind (wpAny_of_eq (F.slot_range_reversed.bind _) ?_)
  try dsimp only
  first
  | rw [if_neg (show ¬ ((Value.builtin "range.__reversed__" == Value.none) = true) from Bool.false_ne_true)]
  | (show wpAny _ _ (if (Value.builtin "range.__reversed__" == Value.none) = true then _ else _) _ _ _; rw [if_neg (show ¬ ((Value.builtin "range.__reversed__" == Value.none) = true) from Bool.false_ne_true)])
  refine wpAny_bind (wpAny_rule ?_)
  have one : wpAny (model prog w) A.in1 (call (.builtin "range.__reversed__") [.ref r]) Q₁ E s := by
    have sm : (Builtin.Range.rangeFitsLong a && Builtin.Range.rangeFitsLong b && Builtin.Range.rangeFitsLong 1 && Builtin.Range.rangeFitsLong (-1) && Builtin.Range.rangeFitsLong (a - 1) && Builtin.Range.rangeFitsLong (Builtin.Range.rangeSize a b 1)) = true := by
      rw [rangeSize_one]
      simp only [Builtin.Range.rangeFitsLong, Bool.and_eq_true, decide_eq_true_eq]
      split <;> omega
    refine call_meets F.slot_range_reversed hT F.entry_range_reversed (F.args_range_reversed_1 _) (range_rev_meets r a b 1 t u v (by rw [sm]; decide)) ⟨hr, ?_⟩
    simp only [sm, if_true]
    exact h
  refine wpAny_bind (m := runValue (.call (.builtin "range.__reversed__") ⟨[.ref r], []⟩)) (wpAny_mono (show wpAny _ _ (call (.builtin "range.__reversed__") [.ref r]) _ _ _ from one) (fun v s' hv => ?_) fun _ _ e => e)
  first
  | exact wpAny_pure hv
  | exact wpAny_bind (wpAny_pure (wpAny_pure hv))
theorem mi_reversed {r : Addr} {b : Nat} {t u v : Tok} {Q : Value → Shared → Prop} (f : FB w p loose mean mg mb g L h m news) (hm : (r, rangeO 0 b 1 u t v) ∈ news) (hb : b < 2 ^ 62)
    (q : ∀ I h', FB w p loose mean mg mb g L h' m news → Off g L news I → IsRangeIter h' I ((b : Nat) - 1) b (-1) → Q (.ref I) ⟨h', ge, dr, tk, os⟩) : wpAny (model prog w) A (call (.type "reversed") [.ref r]) Q E ⟨h, ge, dr, tk, os⟩ := by
  refine callType_other (s := ⟨h, ge, dr, tk, os⟩) (U := "range_iterator") (Q₁ := fun obj s₁ => obj = .ref h.objs.size ∧ s₁ = ⟨h.push { cls := .type "range_iterator", data := .fields #[rawInt (0 + (Builtin.Range.rangeSize 0 b 1 - 1) * 1), rawInt (Builtin.Range.rangeSize 0 b 1), rawInt (-1)] }, ge, dr, tk, os⟩)
    (by decide +kernel) F.create_reversed ⟨_, _, F.mro_reversed⟩ F.made_reversed sub_range_reversed (F.typeCall_reversed_1 _) (code_reversed_range (f.at_ hm) (by omega) (by omega) ⟨rfl, rfl⟩) ?_
  rintro obj s₁ ⟨rfl, rfl⟩
  obtain ⟨f1, e1, e2, e3, e4⟩ := f.fresh { cls := .type "range_iterator", data := .fields #[rawInt (0 + (Builtin.Range.rangeSize 0 b 1 - 1) * 1), rawInt (Builtin.Range.rangeSize 0 b 1), rawInt (-1)] }
  refine ⟨⟨_, e1, rfl⟩, q _ _ f1 ⟨e2, e3, e4⟩ ?_⟩
  rw [rangeSize_one] at e1
  have e : (if (0 : Int) < (b : Nat) then ((b : Nat) : Int) - 0 else 0) = (b : Nat) := by split <;> omega
  have e5 : (0 : Int) + ((b : Nat) - 1) * 1 = (b : Nat) - 1 := by omega
  rw [e, e5] at e1
  rw [rangeSize_one, e, e5]
  exact e1
theorem mi_rangeSelf {I : Addr} {x left step : Int} {Q : Value → Shared → Prop} (hi : IsRangeIter h I x left step) (q : Q (.ref I) ⟨h, ge, dr, tk, os⟩) : wpAny (model prog w) A (pyIter (.ref I)) Q E ⟨h, ge, dr, tk, os⟩ :=
  wpAny_pyIter_rangeiter (s := ⟨h, ge, dr, tk, os⟩) hi q
theorem mi_list {l : Addr} {items : Array Value} {Q : Value → Shared → Prop} (f : FB w p loose mean mg mb g L h m news) (hl : h.IsList l items)
    (q : ∀ I h', FB w p loose mean mg mb g L h' m news → Off g L news I → h'.IsListIter I l 0 → h'.IsList l items → l ≠ I → Q (.ref I) ⟨h', ge, dr, tk, os⟩) : wpAny (model prog w) A (pyIter (.ref l)) Q E ⟨h, ge, dr, tk, os⟩ := by
  refine wpAny_pyIter_list (s := ⟨h, ge, dr, tk, os⟩) hl ?_
  obtain ⟨f1, e1, e2, e3, e4⟩ := f.fresh { cls := .type "list_iterator", data := .fields #[.ref l, .int 0 0] }
  obtain ⟨o, ho, _⟩ := id hl
  exact q _ _ f1 ⟨e2, e3, e4⟩ ⟨_, e1, rfl, rfl⟩ (hl.push _) (Nat.ne_of_lt (Heap.lt_size ho))
theorem mk_ty {pos : Pos} {T : String} {e : Expr} {rest : List Expr} {Q : Value → Shared → Prop} (q : wpAny (model prog w) A (spliced (backTo pos (starEach (e :: rest) env))) (fun vs s₁ => wpAny (model prog w) A (call (.type T) vs) Q E s₁) E s)
    (he : starEach (e :: rest) env = (false, eval e env) :: starEach rest env) (hp : (backTo pos (starEach rest env)).any (·.1) = false) : wpAny (model prog w) A (callWith pos (.type T) [] (backTo pos (starEach (e :: rest) env)) []) Q E s :=
  PyProof.Rows.callWith_type1 q he hp
theorem mo_fdiv {a b : Int} {t u : Tok} {Q : Value → Shared → Prop} (hb : b ≠ 0) (hs : b.natAbs < 1073741824) (q : ∀ t' tk', Q (.int (a.fdiv b) t') ⟨h, ge, dr, tk', os⟩) : wpAny (model prog w) A (binaryOp .FloorDiv (.int a t) (.int b u)) Q E ⟨h, ge, dr, tk, os⟩ :=
  floordiv_int hb (q _ _) (.inl (PyProof.noPylong_small hs))
theorem mo_mod {a b : Int} {t u : Tok} {Q : Value → Shared → Prop} (hb : b ≠ 0) (q : ∀ t' tk', Q (.int (a.fmod b) t') ⟨h, ge, dr, tk', os⟩) : wpAny (model prog w) A (binaryOp .Mod (.int a t) (.int b u)) Q E ⟨h, ge, dr, tk, os⟩ :=
  mod_int' hb (q _ _)
theorem fdiv_nat (a b : Nat) : ((a : Int).fdiv (b : Nat)) = ((a / b : Nat) : Int) := by
  rw [Int.fdiv_eq_ediv_of_nonneg _ (by omega)]; rfl
theorem fmod_nat (a b : Nat) : ((a : Int).fmod (b : Nat)) = ((a % b : Nat) : Int) := by
  rw [Int.fmod_eq_emod_of_nonneg _ (by omega)]; rfl
end
end
section
local macro_rules | `(tactic| walk_at "m1") => `(tactic| first
  | (with_reducible refine seq_next ?_)
  | ((with_reducible refine' mw_local ?f ?v ?_ ?l ?k ?d); (case l => rfl); (case k => rfl); (case f => assumption); (case d => decide); (case v => first | rfl | assumption))
  | (with_reducible refine mw_cons ?_)
  | (with_reducible refine mw_nil ?_)
  | ((with_reducible refine' mw_asg ?_ ?s); (case s => rfl))
  | ((with_reducible refine' mw_st ?f ?_ ?l ?k); (case l => rfl); (case k => rfl); (case f => assumption); intro _ _ _)
  | ((with_reducible refine' mw_glob ?f ?e ?_ ?l ?k ?d ?g); (case l => rfl); (case k => rfl); (case f => assumption); (case e => k_is); (case d => decide); (case g => rfl))
  | ((with_reducible refine' mw_built ?f ?e ?v ?_ ?l ?k ?d ?g ?b ?n); (case l => rfl); (case k => rfl); (case f => assumption); (case e => k_is); (case v => boot_by_name); (case d => decide); (case g => rfl); (case b => rfl); (case n => decide))
  | ((with_reducible refine' mw_cell ?f ?c ?m ?_ ?l ?k ?d); (case l => rfl); (case k => rfl); (case f => assumption); (case c => rfl); (case m => k_mem); (case d => decide))
  | ((with_reducible refine' mw_free ?f ?c ?m ?_ ?l ?k ?d ?n); (case l => rfl); (case k => rfl); (case f => assumption); (case c => rfl); (case m => k_mem); (case d => decide); (case n => decide))
  | ((with_reducible refine mw_int ?_); intro _ _)
  | (with_reducible refine mw_bin ?_)
  | ((with_reducible refine mo_add ?_); intro _ _)
  | ((with_reducible refine mo_sub ?_); intro _ _)
  | ((with_reducible refine mo_iadd ?_); intro _ _)
  | ((with_reducible refine' mw_expr ?_ ?a ?b); (case a => rfl); (case b => rfl))
  | ((with_reducible refine' mw_call ?_ ?a); (case a => rfl))
  | (with_reducible refine mw_spn ?_)
  | ((with_reducible refine' mw_spc ?_ ?a); (case a => rfl))
  | ((with_reducible refine' mk_in ?f ?_); (case f => assumption))
  | ((with_reducible refine' mk_bi ?_ ?a ?b); (case a => rfl); (case b => rfl))
  | ((with_reducible refine' mk_def ?f ?k ?_ ?a ?b); (case f => assumption); (case k => k_is); (case a => rfl); (case b => rfl))
  | (with_reducible refine mw_if ?_)
  | ((with_reducible refine' mt_cmp ?_ ?a); (case a => rfl))
  | (with_reducible refine mt_bool ?_)
  | (with_reducible refine mc_lt ?_)
  | (with_reducible refine mc_gt ?_)
  | (with_reducible refine mc_eq ?_)
  | (with_reducible refine mc_ne ?_)
  | (with_reducible refine mc_le ?_)
  | (with_reducible refine mc_ge ?_)
  | (with_reducible refine mw_sub ?_)
  | ((with_reducible refine' mw_asgS ?_ ?s); (case s => rfl))
  | (with_reducible refine mw_ret ?_)
  | (with_reducible refine seq_ret ?_)
  | (with_reducible refine seq_brk ?_)
  | (with_reducible refine seq_cont ?_)
  | (with_reducible refine mw_brk ?_)
  | (with_reducible refine mw_cont ?_)
  | (with_reducible refine mt_and ?_)
  | (with_reducible refine mt_and0 ?_)
  | (with_reducible refine mt_or ?_)
  | (with_reducible refine mt_or0 ?_)
  | (with_reducible refine mt_not ?_)
  | (with_reducible refine mt_name ?_)
  | (with_reducible refine mt_call ?_)
  | (with_reducible refine mw_tuple ?_)
  | (with_reducible refine mw_list ?_)
  | ((with_reducible refine' mw_cmp ?_ ?a); (case a => rfl))
  | (with_reducible refine mw_un ?_)
  | ((with_reducible refine mo_neg ?_); intro _ _)
  | (with_reducible refine mo_not ?_)
  | (with_reducible refine mw_ifexp ?_)
  | (with_reducible refine mw_and ?_)
  | (with_reducible refine mw_or ?_)
  | (with_reducible refine mw_bone ?_)
  | (with_reducible refine mw_bool ?_)
  | ((with_reducible refine' ml_len ?f ?m ?z ?_); (case f => assumption); (case m => k_mem); (case z => (rw [sizeLine_eq]; omega)); intro _ _)
  | ((with_reducible refine' mo_shr1 ?z ?_); (case z => omega); intro _ _)
  | ((with_reducible refine' mk_meth ?_ ?a); (case a => rfl))
  | (with_reducible refine mk_m0 ?_)
  | ((with_reducible refine' mk_m1 ?_ ?a ?b); (case a => rfl); (case b => rfl))
  | ((with_reducible refine mw_aug ?_))
  | ((with_reducible refine' mw_ldl ?f ?v ?_ ?l ?k); (case l => rfl); (case k => rfl); (case f => assumption); (case v => first | rfl | assumption))
  | ((with_reducible refine' mw_ldc ?f ?c ?m ?_ ?l ?k); (case l => rfl); (case k => rfl); (case f => assumption); (case c => rfl); (case m => k_mem))
  | ((with_reducible refine' mw_stc ?f ?c ?u ?_ ?l ?k); (case l => rfl); (case k => rfl); (case f => assumption); (case c => rfl); (case u => k_upd); intro _ _))
local macro_rules | `(tactic| walk_at "go") => `(tactic| repeat' walk_at "m1")
local macro_rules | `(tactic| walk_at "goI") => `(tactic| repeat' ((fail_if_success (with_reducible show wpAny _ _ (exec (Stmt.If _ _ _ _) _) _ _ _)); walk_at "m1"))

def hify {κ : Type} (lt : κ → κ → Bool) : Nat → List κ → List κ
  | 0, ks => ks
  | k + 1, ks => hify lt k (match ks[k]? with | some x => siftup lt x k ks | none => ks)
theorem hify_step {κ : Type} {lt : κ → κ → Bool} {k : Nat} {ks : List κ} {x : κ} (h : ks[k]? = some x) : hify lt (k + 1) ks = hify lt k (siftup lt x k ks) := by
  rw [hify, h]
theorem sdF_length {κ : Type} (lt : κ → κ → Bool) (st : Nat) (x : κ) (pos : Nat) (ks : List κ) : (sdF lt st x pos ks).length = ks.length := by
  induction pos using Nat.strongRecOn generalizing ks with
  | ind pos ih =>
    unfold sdF
    split
    · split
      · split
        · rw [ih _ (by omega)]; simp
        · simp
      · simp
    · simp
theorem suF_length {κ : Type} (lt : κ → κ → Bool) (pos : Nat) (ks : List κ) : (suF lt pos ks).2.length = ks.length := by
  generalize hn : ks.length - pos = n
  induction n using Nat.strongRecOn generalizing pos ks with
  | ind n ih =>
    by_cases h : 2 * pos + 1 < ks.length
    · obtain ⟨y, hy⟩ : ∃ y, ks[suPick lt ks (2 * pos + 1)]? = some y := ⟨_, List.getElem?_eq_getElem (suPick_lt lt ks _ h)⟩
      have h2 := suPick_ge lt ks (2 * pos + 1)
      rw [suF_step h hy, ih (ks.length - suPick lt ks (2 * pos + 1)) (by omega) _ _ (by simp)]
      simp
    · rw [suF_end h]
theorem siftup_length {κ : Type} (lt : κ → κ → Bool) (x : κ) (pos : Nat) (ks : List κ) : (siftup lt x pos ks).length = ks.length := by
  unfold siftup
  rw [sdF_length, List.length_set, suF_length]
section
variable {prog : Program} {w : World} {A : Around} {E : Value → Shared → Prop} {p : Program} {loose : List Str} {mean : ExcName → Option Value} {mg mb : Str → Option Value} {b h : Heap} {ge : Array GenState} {dr : Drawn} {tk : Nat} {os : OsState}
  {κ : Type} (V : Ordv κ) {l : Addr} {vs : List Value} {ks : List κ} {c : Nat} {Q : Value → Shared → Prop}

theorem heapify_spec (B : Base w p loose mean mg mb b) (hb : b.StaysIn h) (hl : h.get? l = some (listOf vs.toArray c)) (hlb : b.get? l = none) (hr : RelL (V.rel h) vs ks)
    (hz : ks.length ≤ 1000000) (hd : A.depth + 2 < recursionLimit) (hu : A.units + 40 < cLine) (hh : A.handled = none)
    (hQ : ∀ h' tk' vs' c', Ch [l] h h' → h'.get? l = some (listOf vs'.toArray c') → RelL (V.rel h') vs' (hify V.lt (ks.length / 2) ks) → Q .none ⟨h', ge, dr, tk', os⟩) :
    wpAny (model prog w) A (call (.ref 53) [.ref l]) Q E ⟨h, ge, dr, tk, os⟩ := by
  have BX := B.X
  have hvl := hr.1
  refine' mk_enter (news := [(l, listOf vs.toArray c)]) (binds := [("x", .ref l)]) B hb (by simp [hl, hlb]) ?k6 ?k7 (by omega) ?k9 ?kB ?_ ?c2 ?c3 ?c4 ?c5
  case k6 => k_is
  case k7 => k_is
  case k9 => exact fun _ => BindsTo.of_eq rfl
  case kB => exact locs rfl
  case c2 => exact rfl
  case c3 => exact rfl
  case c4 => exact rfl
  case c5 => decide
  intro g L h₁ tk₁ fb hg tg hbg
  clear BX
  have X := fb.B.X
  have hr' := hr.mono fun _ _ => V.keep tg
  walk_at "go"
  refine mw_for ?_ (fun _ => rfl)
  walk_at "go"
  refine mk_ty ?_ rfl rfl
  walk_at "go"
  refine mk_ty ?_ rfl rfl
  walk_at "go"
  refine mo_fdiv (by decide) (by decide) ?_
  intro t2 tk2
  walk_at "go"
  rw [show ((vs.length : Int).fdiv 2) = ((ks.length / 2 : Nat) : Int) by rw [hvl]; exact fdiv_nat _ 2]
  (with_reducible rename FB _ _ _ _ _ _ _ _ _ _ _ => f2)
  refine mi_range f2 ?_
  intro r h3 tk3 u v f3 lr
  have hrl : l < r := lr _ (.head _)
  walk_at "go"
  refine mi_reversed f3 (by k_mem) (by omega) ?_
  intro I h4 f4 of4 hi4
  refine mi_rangeSelf hi4 ?_
  have f5 := f4.sub (news' := [(l, listOf vs.toArray c)]) (fun q hq => .tail _ hq)
  have hh' : (A.deeper (envOf "heapify" { kind := ScopeKind.function, names := [("x", .local), ("n", .local), ("i", .local), ("len", .globalImplicit), ("reversed", .globalImplicit), ("range", .globalImplicit), ("_siftup", .globalImplicit)], isGenerator := false, isCoroutine := false } L 53 (.ref 52))).handled = none := hh
  refine for_fb (Walks.range (prog := prog) (w := w) hh' I ((ks.length / 2 : Nat) - 1) (-1) (ks.length / 2)) (fun i h hi => ⟨_, hi, rit_ne _⟩)
    (fun i h m news => ∃ vs' ks' c', news = [(l, listOf vs'.toArray c')] ∧ RelL (V.rel h) vs' ks' ∧ ks'.length = ks.length ∧ m "x" = some (.ref l) ∧ hify V.lt (ks.length / 2 - i) ks' = hify V.lt (ks.length / 2) ks)
    ?hJ ?hnt f5 (fun hm => of4.n (by simp at hm ⊢; exact .inr hm)) of4.l of4.g (fun b hb => .inl (by simpa using hb)) (by simpa using hi4) ⟨vs, ks, c, rfl, ?_, rfl, rfl, rfl⟩ ?turn ?fin
  case hJ =>
    rintro i h h' m news t ⟨vs', ks', c', e1, e2, e3⟩
    exact ⟨vs', ks', c', e1, e2.mono fun _ _ => V.keep t, e3⟩
  case hnt =>
    rintro i h m news ⟨vs', ks', c', rfl, _⟩ q hq vs
    rw [List.mem_singleton] at hq; subst hq
    exact lst_ne _ _ vs
  case turn =>
    rintro i v g' h tk m news hi ⟨t, rfl⟩ ⟨vs', ks', c', rfl, R, hlen, m1, e⟩ f st2 tk2
    have hk : ((ks.length / 2 : Nat) : Int) - 1 + (i : Int) * -1 = ((ks.length / 2 - 1 - i : Nat) : Int) := by omega
    rw [hk]
    refine mw_goN (mw_asgN f ?_ rfl rfl)
    intro h7 tk7 f7
    obtain ⟨x, hx⟩ : ∃ x, ks'[ks.length / 2 - 1 - i]? = some x := ⟨_, List.getElem?_eq_getElem (by omega)⟩
    walk_at "go"
    (with_reducible rename FB _ _ _ _ _ _ _ _ _ _ _ => f8)
    refine siftup_spec V (x := x) f8.B f8.keep (f8.at_ (.head _)) (f8.new_ (.head _)) (R.mono fun _ _ => V.keep (tk2.trans (TK.of_keep f8.keep))) hx (by omega) ?_ ?_ ?_
    · show A.depth + 1 + 1 < _; omega
    · show A.units + 3 + 30 < _; omega
    intro h9 tk9 vs9 c9 C9 hl9 R9
    have f9 := f8.ch C9 (o' := listOf vs9.toArray c9) (by k_upd) hl9
    walk_at "go"
    refine ⟨_, _, _, _, rfl, f9, vs9, _, c9, rfl, R9, by rw [siftup_length, hlen], m1, ?_⟩
    rw [← e, show ks.length / 2 - i = (ks.length / 2 - (i + 1)) + 1 by omega, hify_step (by rw [show ks.length / 2 - (i + 1) = ks.length / 2 - 1 - i by omega]; exact hx), show ks.length / 2 - (i + 1) = ks.length / 2 - 1 - i by omega]
  case fin =>
    rintro h tk m news ⟨vs', ks', c', rfl, R, hlen, m1, e⟩ f
    walk_at "go"
    refine hQ _ _ vs' c' (ch_of (by simpa using hg) f) (f.at_ (.head _)) ?_
    rw [← e, Nat.sub_self]
    exact R
  exact hr'.mono fun _ _ => V.keep (TK.of_keep f5.keep)
end
end
section
section
variable {prog : Program} {w : World} {A : Around} {E : Value → Shared → Prop} {p : Program} {loose : List Str} {mean : ExcName → Option Value} {mg mb : Str → Option Value} {g h : Heap} {ge : Array GenState} {dr : Drawn} {tk : Nat} {os : OsState} {L : Addr}
  {m : Str → Option Value} {news : List (Addr × Obj)}
/-- what walks, whatever a turn does -/
theorem walk_turn {I : Addr} {fp : List Addr} {n : Nat} {P : Nat → Value → Prop} {St : Nat → Heap → Prop} (W : Walks prog w A I fp [I] n P St) (X : Shared → Prop) (T : Value → (Shared → Prop) → Shared → Prop) (Tm : ∀ v X Y s, (∀ s, X s → Y s) → T v X s → T v Y s)
    (hI : ∀ i h, St i h → ∃ o, h.get? I = some o ∧ ∀ vs, o ≠ tupO vs)
    (J : Nat → Heap → (Str → Option Value) → List (Addr × Obj) → Prop)
    (hJ : ∀ i h h' m news, TK h h' → J i h m news → J i h' m news)
    (hnt : ∀ i h m news, J i h m news → ∀ q ∈ news, ∀ vs, q.2 ≠ tupO vs)
    (f : FB w p loose mean mg mb g L h m news) (hIn : I ∉ news.map (·.1)) (hIL : I ≠ L) (hIg : g.get? I = none) (hfp : ∀ b ∈ fp, b = I ∨ ∃ o, g.get? b = some o)
    (hst : St 0 h) (hj : J 0 h m news)
    (turn : ∀ i v g' h tk m news, i < n → P i v → J i h m news → FB w p loose mean mg mb g' L h m news → g.StaysIn g' → TK h g' →
      T v (fun s₃ => ∃ h' tk' m' news', s₃ = ⟨h', ge, dr, tk', os⟩ ∧ FB w p loose mean mg mb g' L h' m' news' ∧ J (i + 1) h' m' news') ⟨h, ge, dr, tk, os⟩)
    (fin : ∀ h tk m news, J n h m news → FB w p loose mean mg mb g L h m news → X ⟨h, ge, dr, tk, os⟩) :
    ∃ Iv : Nat → Shared → Prop, (∃ k, Iv k ⟨h, ge, dr, tk, os⟩) ∧ (∀ k s, Iv k s → ∃ i, St i s.heap) ∧ ∀ k s, Iv k s → wpAny (model prog w) A (pyNext (.ref I)) (fun r s₁ => match r with
      | none => X s₁
      | some v => T v (fun s₃ => ∃ k', k' < k ∧ Iv k' s₃) s₁) (fun _ _ => False) s := by
  refine ⟨fun k s => ∃ i h tk m news, k = n - i ∧ i ≤ n ∧ s = ⟨h, ge, dr, tk, os⟩ ∧ FB w p loose mean mg mb g L h m news ∧ I ∉ news.map (·.1) ∧ St i h ∧ J i h m news,
    ⟨n, 0, h, tk, m, news, rfl, Nat.zero_le _, rfl, f, hIn, hst, hj⟩, ?_, ?_⟩
  · rintro k s ⟨i, h, tk, m, news, rfl, hi, rfl, f, hIn, hst, hj⟩
    exact ⟨i, hst⟩
  rintro k s ⟨i, h, tk, m, news, rfl, hi, rfl, f, hIn, hst, hj⟩
  obtain ⟨oI, hoI, hnI⟩ := hI i h hst
  have step : ∀ h', (∀ b o, b ∉ [I] → h.get? b = some o → h'.get? b = some o) → FB w p loose mean mg mb g L h' m news ∧ TK h h' := by
    intro h' hk
    have hk' : Ch [I] h h' := fun a o hn e => hk a o hn e
    refine ⟨⟨?_, fun a o e => hk _ _ (by rintro hm; rw [List.mem_singleton] at hm; subst hm; rw [hIg] at e; cases e) (f.keep a o e), f.out, fun q hq => ⟨hk _ _ (fun hm => hIn (by rw [List.mem_singleton] at hm; exact hm ▸ List.mem_map_of_mem hq)) (f.N q hq).1, (f.N q hq).2⟩, f.B⟩,
      TK.of_ch hk' fun q hq vs e => ?_⟩
    · obtain ⟨oL, es, ep, hL, r⟩ := f.ns
      exact ⟨oL, es, ep, hk _ _ (by simpa using Ne.symm hIL) hL, r⟩
    · rw [List.mem_singleton] at hq; subst hq
      rw [hoI] at e; exact hnI vs (Option.some.inj e)
  by_cases hin : i < n
  · refine W.item i ⟨h, ge, dr, tk, os⟩ _ _ hin hst fun v h' tk' hP hst' hk => ?_
    obtain ⟨f', t'⟩ := step h' hk
    have hj' := hJ _ _ _ _ _ t' hj
    obtain ⟨g', f2, st2, ch2, tk2⟩ := f'.rebase (news' := news) (fun _ hq => hq) (hnt _ _ _ _ hj')
    have hIg' : ∃ o, g'.get? I = some o := by
      obtain ⟨o, ho, _⟩ := hI _ _ hst'
      refine ⟨o, ch2 I o ?_ ho⟩
      intro hm
      rcases List.mem_cons.mp hm with e | hm
      · exact hIL e
      · exact hIn hm
    refine Tm v _ _ _ ?_ (turn i v g' h' tk' m news hin hP hj' f2 st2 tk2)
    rintro s₃ ⟨h3, tk3, m3, news3, rfl, f3, j3⟩
    refine ⟨n - (i + 1), by omega, i + 1, h3, tk3, m3, news3, rfl, hin, rfl, f3.back st2 f.B, fun hm => ?_, W.frame _ _ _ hst' fun b hb o e => f3.keep b o ?_, j3⟩
    · obtain ⟨q, hq, e⟩ := List.mem_map.mp hm
      have z := (f3.N q hq).2.2
      rw [e] at z
      obtain ⟨o, ho⟩ := hIg'
      rw [ho] at z; cases z
    · rcases hfp b hb with rfl | ⟨o', ho'⟩
      · obtain ⟨o2, ho2⟩ := hIg'
        rw [ho2]
        exact (f2.keep _ _ ho2).symm.trans e
      · have e1 := st2 _ _ ho'
        rw [e1]
        exact (f2.keep _ _ e1).symm.trans e
  · have e : i = n := by omega
    subst e
    refine W.done ⟨h, ge, dr, tk, os⟩ _ _ hst fun h' tk' hk => ?_
    obtain ⟨f', t'⟩ := step h' hk
    exact fin h' tk' m news (hJ _ _ _ _ _ t' hj) f'
end
def compTests (ifs : List Expr) (env : Env) : Sem Bool := forIn ifs true fun c r => if r = true then do let ok ← isTrue c env (eval c env); pure (ForInStep.yield ok) else pure (ForInStep.yield r)
def compForm (target : Expr) (ipos : Pos) (ifs : List Expr) (inner : Sem Fin → Sem Fin) (e : Expr) (d : Nat) (it acc : Value) (env : Env) : Sem Fin :=
  standAt ipos >>= fun _ => pyNext it >>= fun r => match r with
    | none => pure (.done .next)
    | some v => letOwnedTupleGo target it v >>= fun _ => assign target env v >>= fun _ => compTests ifs env >>= fun ok =>
      if ok = true then inner (again (.compLoop e d it acc env)) else again (.compLoop e d it acc env)
def compEmit (elt : Expr) (acc : Value) (env : Env) (k : Sem Fin) : Sem Fin := (do let _ ← call (.builtin "list.append") [acc, ← eval elt env]; pure ()) >>= fun _ => k
def compDeeper (iter : Expr) (e : Expr) (d : Nat) (acc : Value) (env : Env) (k : Sem Fin) : Sem Fin := do
  let x ← eval iter env
  standAt iter.pos
  let x ← foldedSetIterable iter env x
  let _ ← runOwn (.compStart e d (← holding [x] (pyIter x)) acc env) env
  k
theorem comp_form1 (elt target iter : Expr) (ifs : List Expr) (scope : Scope) (pos : Pos) (it acc : Value) (env : Env) : compTurn (.ListComp elt [⟨target, iter, ifs, 0⟩] scope pos) 0 it acc env =
    compForm target iter.pos ifs (compEmit elt acc env) (.ListComp elt [⟨target, iter, ifs, 0⟩] scope pos) 0 it acc env := by rfl
theorem comp_form2a (elt target iter target' iter' : Expr) (ifs ifs' : List Expr) (scope : Scope) (pos : Pos) (it acc : Value) (env : Env) : compTurn (.ListComp elt [⟨target, iter, ifs, 0⟩, ⟨target', iter', ifs', 0⟩] scope pos) 0 it acc env =
    compForm target iter.pos ifs (compDeeper iter' (.ListComp elt [⟨target, iter, ifs, 0⟩, ⟨target', iter', ifs', 0⟩] scope pos) 1 acc env) (.ListComp elt [⟨target, iter, ifs, 0⟩, ⟨target', iter', ifs', 0⟩] scope pos) 0 it acc env := by rfl
theorem comp_form2b (elt target iter target' iter' : Expr) (ifs ifs' : List Expr) (scope : Scope) (pos : Pos) (it acc : Value) (env : Env) : compTurn (.ListComp elt [⟨target, iter, ifs, 0⟩, ⟨target', iter', ifs', 0⟩] scope pos) 1 it acc env =
    compForm target' iter'.pos ifs' (compEmit elt acc env) (.ListComp elt [⟨target, iter, ifs, 0⟩, ⟨target', iter', ifs', 0⟩] scope pos) 1 it acc env := by rfl
section
variable {prog : Program} {w : World} {A : Around} {E : Value → Shared → Prop} {env : Env} {s : Shared}
/-- what a turn must do -/
def CompT (prog : Program) (w : World) (A : Around) (env : Env) (target : Expr) (ifs : List Expr) (it : Value) (inner : (Shared → Prop) → Shared → Prop) (v : Value) (X : Shared → Prop) (s : Shared) : Prop :=
  wpAny (model prog w) A (letOwnedTupleGo target it v) (fun _ s₁ => wpAny (model prog w) A (assign target env v) (fun _ s₂ => wpAny (model prog w) A (compTests ifs env) (fun ok s₃ =>
    if ok = true then inner X s₃ else X s₃) (fun _ _ => False) s₂) (fun _ _ => False) s₁) (fun _ _ => False) s
theorem CompT.mono {target : Expr} {ifs : List Expr} {it : Value} {inner : (Shared → Prop) → Shared → Prop} (hm : ∀ X Y s, (∀ s, X s → Y s) → inner X s → inner Y s) (v : Value) (X Y : Shared → Prop) (s : Shared) (h : ∀ s, X s → Y s) (x : CompT prog w A env target ifs it inner v X s) :
    CompT prog w A env target ifs it inner v Y s := wpAny_mono x (fun _ _ x => wpAny_mono x (fun _ _ x => wpAny_mono x (fun ok s₃ x => by
      cases ok with
      | true => simp only [if_true] at x ⊢; exact hm _ _ _ h x
      | false => simp only [Bool.false_eq_true, if_false] at x ⊢; exact h _ x) fun _ _ e => e) fun _ _ e => e) fun _ _ e => e
theorem compLoop_gen {e : Expr} {d : Nat} {it acc : Value} {target : Expr} {ipos : Pos} {ifs : List Expr} {inner : Sem Fin → Sem Fin} {inner' : (Shared → Prop) → Shared → Prop} {R : Result → Shared → Prop}
    (heq : compTurn e d it acc env = compForm target ipos ifs inner e d it acc env) (hfr : (Code.compLoop e d it acc env).isFrame = false) (hq : (Code.compLoop e d it acc env).quiet = true) (hA : A.under (Code.compLoop e d it acc env) = A)
    (hin : ∀ X s, inner' X s → ∀ k Q', (∀ s, X s → wpAny (model prog w) A k Q' (fun _ _ => False) s) → wpAny (model prog w) A (inner k) Q' (fun _ _ => False) s)
    (I : Nat → Shared → Prop)
    (turn : ∀ n s, I n s → wpAny (model prog w) A (pyNext it) (fun r s₁ => match r with
      | none => R (.ok .next) s₁
      | some v => CompT prog w A env target ifs it inner' v (fun s₃ => ∃ m, m < n ∧ I m s₃) s₁) (fun _ _ => False) s)
    (n : Nat) (h : I n s) : codeAny (model prog w) A (.compLoop e d it acc env) R s := by
  refine codeAny_loop hq I (fun n s hI => ?_) n h
  rw [hA]
  show wpAny _ _ (if (Code.compLoop e d it acc env).isFrame = true then (compTurn e d it acc env).onRaise (leaving env) else (compTurn e d it acc env).onRaise (fun x => do noteFrame x env; theTreesLotGoes x)) _ _ s
  rw [if_neg (by rw [hfr]; decide)]
  refine wpAny_noted ?_
  rw [heq]
  unfold compForm
  refine wpAny_mono (Q := fun fin s' => match fin with | .done f => R (.ok f) s' | .again c' => c' = Code.compLoop e d it acc env ∧ ∃ m, m < n ∧ I m s') (E := fun _ _ => False) (wpAny_bind (wpAny_standAt (wpAny_bind (wpAny_mono (turn n s hI) (fun r s₁ h₁ => ?_) fun _ _ h' => h')))) (fun _ _ x => x) fun _ _ x => x.elim
  cases r with
  | none => exact wpAny_pure h₁
  | some v =>
    refine wpAny_bind (wpAny_mono h₁ (fun _ s₁ h₁ => wpAny_bind (wpAny_mono h₁ (fun _ s₂ h₂ => wpAny_bind (wpAny_mono h₂ (fun ok s₃ h₃ => ?_) fun _ _ h' => h')) fun _ _ h' => h')) fun _ _ h' => h')
    cases ok with
    | false => simp only [Bool.false_eq_true, if_false] at h₃ ⊢; exact wpAny_pure ⟨rfl, h₃⟩
    | true => simp only [if_true] at h₃ ⊢; exact hin _ _ h₃ _ _ fun s hs => wpAny_pure ⟨rfl, hs⟩
/-- an element laid down -/
def emitP (prog : Program) (w : World) (A : Around) (elt : Expr) (acc : Value) (env : Env) (X : Shared → Prop) (s : Shared) : Prop :=
  wpAny (model prog w) A (eval elt env) (fun x s₁ => wpAny (model prog w) A (call (.builtin "list.append") [acc, x]) (fun _ s₂ => X s₂) (fun _ _ => False) s₁) (fun _ _ => False) s
theorem emit_ok {elt : Expr} {acc : Value} (X : Shared → Prop) (s : Shared) (h : emitP prog w A elt acc env X s) (k : Sem Fin) (Q' : Fin → Shared → Prop) (hk : ∀ s, X s → wpAny (model prog w) A k Q' (fun _ _ => False) s) :
    wpAny (model prog w) A (compEmit elt acc env k) Q' (fun _ _ => False) s := by
  unfold compEmit
  exact wpAny_bind (wpAny_bind (wpAny_mono h (fun x s₁ h₁ => wpAny_bind (wpAny_mono h₁ (fun _ s₂ h₂ => wpAny_pure (hk _ h₂)) fun _ _ e => e)) fun _ _ e => e))
/-- the next clause walked -/
def deeperP (prog : Program) (w : World) (A : Around) (iter e : Expr) (d : Nat) (acc : Value) (env : Env) (X : Shared → Prop) (s : Shared) : Prop :=
  wpAny (model prog w) A (eval iter env) (fun x s₁ => foldedSetIterable iter env x = pure x ∧ wpAny (model prog w) A (pyIter x) (fun it s₂ => codeAny (model prog w) (A.mark none) (.compStart e d it acc env) (fun r s' => match r with | .ok _ => X s' | .error _ => False) s₂) (fun _ _ => False) s₁) (fun _ _ => False) s
theorem deeper_ok {iter e : Expr} {d : Nat} {acc : Value} (X : Shared → Prop) (s : Shared) (h : deeperP prog w A iter e d acc env X s) (k : Sem Fin) (Q' : Fin → Shared → Prop) (hk : ∀ s, X s → wpAny (model prog w) A k Q' (fun _ _ => False) s) :
    wpAny (model prog w) A (compDeeper iter e d acc env k) Q' (fun _ _ => False) s := by
  unfold compDeeper
  refine wpAny_bind (wpAny_mono h (fun x s₁ h₁ => wpAny_bind (wpAny_standAt (wpAny_bind (wpAny_of_eq h₁.1 (wpAny_bind (wpAny_holding (wpAny_mono h₁.2 (fun it s₂ h₂ => wpAny_bind (wpAny_runOwn (codeAny_mono h₂ fun r s' h' => ?_))) fun _ _ e => e))))))) fun _ _ e => e)
  cases r with
  | ok f => exact hk _ h'
  | error e => exact h'.elim
theorem compStart_gen {elt : Expr} {gens : List Comprehension} {scope : Scope} {pos : Pos} {d : Nat} {it acc : Value} {gc : Comprehension} {R : Result → Shared → Prop} (hg : gens[d]? = some gc) (ha : gc.is_async = 0) (hA : A.under (Code.compStart (.ListComp elt gens scope pos) d it acc env) = A)
    (h0 : codeAny (model prog w) A (.compLoop (.ListComp elt gens scope pos) d it acc env) R s)
    (h : wpAny (model prog w) A (pyIter it) (fun it' s' => codeAny (model prog w) A (.compLoop (.ListComp elt gens scope pos) d it' acc env) R s') (fun _ _ => False) s) :
    codeAny (model prog w) A (.compStart (.ListComp elt gens scope pos) d it acc env) R s := by
  refine codeAny_of_tree ?_
  rw [hA]
  show wpAny _ _ ((compStart (.ListComp elt gens scope pos) d it acc env).onRaise (fun x => do noteFrame x env; standAt theWindowsPlace)) _ _ s
  refine wpAny_notedAt ?_
  unfold compStart
  have e1 : (clausesOf (.ListComp elt gens scope pos))[d]? = some gc := hg
  rw [e1]
  simp only [Option.elim_some, ha, bne_self_eq_false, Bool.false_eq_true, if_false]
  refine wpAny_bind (wpAny_askSetting (wpAny_ite ?_))
  split
  · exact wpAny_pure (And.intro rfl h0)
  · refine wpAny_bind (wpAny_rule ?_)
    refine wpAny_bind (wpAny_standAt (wpAny_bind (wpAny_mono h (fun it' s' h' => wpAny_pure (And.intro rfl h')) fun _ _ x => x.elim)))
end
end
section
section
variable {prog : Program} {w : World} {A : Around} {E : Value → Shared → Prop} {p : Program} {loose : List Str} {mean : ExcName → Option Value} {mg mb : Str → Option Value} {g h : Heap} {ge : Array GenState} {dr : Drawn} {tk : Nat} {os : OsState} {L : Addr} {env : Env}
  {m : Str → Option Value} {news : List (Addr × Obj)}
theorem mw_comp {elt target iter : Expr} {ifs : List Expr} {rest : List Comprehension} {scope : Scope} {cl : List (Str × Addr)} {pos : Pos} {s : Shared} {Q : Value → Shared → Prop}
    (h : wpAny (model prog w) A (eval iter env) (fun x s₁ => wpAny (model prog w) A (pyIter x) (fun it s₂ => wpAny (model prog w) A (newList []) (fun acc s₃ =>
      wpAny (model prog w) A (newFunctionEnv scope env.globals cl [] env.qual none .none (some env)) (fun cenv s₄ =>
        codeAny (model prog w) A (.compStart (.ListComp elt (⟨target, iter, ifs, 0⟩ :: rest) scope pos) 0 it acc { cenv with scope := relabel scope env }) (compPost (model prog w) A E none Q acc cenv.locals) s₄) E s₃) E s₂) E s₁) E s)
    (hclos : closureFor scope env = pure cl) (hs : ∀ x, foldedSetIterable iter env x = pure x) (hkind : scope.kind = .function) (hnames : ∀ x ∈ scope.names, x.2 = .local → scope.names.lookup x.1 = some .local) :
    wpAny (model prog w) A (eval (.ListComp elt (⟨target, iter, ifs, 0⟩ :: rest) scope pos) env) Q E s := by
  rw [eval_ListComp]
  exact wpAny_comprehension_free (use := none) rfl hs hclos hkind hnames h
theorem FB.hide (f : FB w p loose mean mg mb g L h m news) {hs : List Addr} (hl : ∀ a ∈ hs, a ≠ L ∧ g.get? a = none) :
    g.StaysIn (hideAll h (hs ++ news.map (·.1))) ∧ (∃ oL es ep, (hideAll h (hs ++ news.map (·.1))).get? L = some oL ∧ oL.data = .dict es ep) ∧ Base w p loose mean mg mb (hideAll h (hs ++ news.map (·.1))) := by
  have st : g.StaysIn (hideAll h (hs ++ news.map (·.1))) := fun a o e => hideAll_get _ (f.keep a o e) fun hm => by
    rcases List.mem_append.mp hm with hm | hm
    · rw [(hl a hm).2] at e; cases e
    · obtain ⟨q, hq, rfl⟩ := List.mem_map.mp hm
      rw [(f.N q hq).2.2] at e; cases e
  refine ⟨st, ?_, f.B.keeps st⟩
  obtain ⟨oL, es, ep, hL, hd, _⟩ := f.ns
  refine ⟨oL, es, ep, hideAll_get _ hL fun hm => ?_, hd⟩
  rcases List.mem_append.mp hm with hm | hm
  · exact (hl L hm).1 rfl
  · obtain ⟨q, hq, e⟩ := List.mem_map.mp hm
    exact (f.N q hq).2.1 e
/-- a comprehension's own frame, over the frame of its def -/
theorem comp_enter (f : FB w p loose mean mg mb g L h m news) {I : Addr} (hIL : I ≠ L) (hIg : g.get? I = none) (hIn : I ∉ news.map (·.1)) (hIh : ∃ o, h.get? I = some o ∧ ∀ vs, o ≠ tupO vs) (hnt : ∀ q ∈ news, ∀ vs, q.2 ≠ tupO vs)
    {scope : Scope} {cl : List (Str × Addr)} {e : Expr} {it : Value} {Q : Value → Shared → Prop} (hcell : ∀ y ∈ scope.names, y.2 ≠ .cell) (hkind : scope.kind = .function)
    (q : ∀ g₁ D C h₁ tk', FB w p loose mean mg mb g₁ C h₁ (fun _ => none) ((D, listOf #[] 0) :: news) → g.StaysIn g₁ → Ch (I :: news.map (·.1)) h g₁ → TK h g₁ → (∀ a o, h.get? a = some o → h₁.get? a = some o) → I ≠ C → I ≠ D → g₁.get? I = none → h.get? D = none →
      codeAny (model prog w) A (.compStart e 0 it (.ref D) (compEnvC scope cl C env)) (fun r s' => match r with
        | .ok _ => ∃ h' tk' m' news', s' = ⟨h', ge, dr, tk', os⟩ ∧ FB w p loose mean mg mb g₁ C h' m' news' ∧ (∀ h'', FB w p loose mean mg mb g L h'' m news' → TK h' h'' → Q (.ref D) ⟨h'', ge, dr, tk', os⟩)
        | .error _ => False) ⟨h₁, ge, dr, tk', os⟩) :
    wpAny (model prog w) A (newList []) (fun acc s₃ =>
      wpAny (model prog w) A (newFunctionEnv scope env.globals cl [] env.qual none .none (some env)) (fun cenv s₄ =>
        codeAny (model prog w) A (.compStart e 0 it acc { cenv with scope := relabel scope env }) (compPost (model prog w) A E none Q acc cenv.locals) s₄) E s₃) E ⟨h, ge, dr, tk, os⟩ := by
  obtain ⟨st, ⟨oL, esL, epL, hgL, hdL⟩, Bg⟩ := f.hide (hs := [I]) (by intro a ha; rw [List.mem_singleton] at ha; subst ha; exact ⟨hIL, hIg⟩)
  have tg : TK h (hideAll h ([I] ++ news.map (·.1))) := fun a vs e => hideAll_get _ e fun hm => by
    rcases List.mem_append.mp hm with hm | hm
    · rw [List.mem_singleton] at hm; subst hm
      obtain ⟨o, ho, hne⟩ := hIh
      rw [e] at ho; exact hne vs (Option.some.inj ho).symm
    · obtain ⟨r, hr, rfl⟩ := List.mem_map.mp hm
      have z := (f.N r hr).1
      rw [e] at z
      exact hnt r hr vs (Option.some.inj z).symm
  refine wpAny_newObj_type (s := ⟨h, ge, dr, tk, os⟩) (wpAny_newFunctionEnv hcell (by intro y hy; simp at hy) (fun h₁ hns hsb => ?_) hkind)
  have hD : (h.push { cls := .type "list", data := .seq ([] : List Value).toArray }).get? h.objs.size = some (listOf #[] 0) := Heap.get?_push_at rfl rfl
  generalize hH : h.push { cls := .type "list", dict := none, data := .seq ([] : List Value).toArray } = H at hns hsb hD ⊢
  have kH : ∀ a o, h.get? a = some o → H.get? a = some o := fun a o e => hH ▸ Heap.get?_push_of_some _ e
  have sz : H.objs.size = h.objs.size + 1 := by rw [← hH, Heap.size_push]
  have k1 : ∀ a o, H.get? a = some o → h₁.get? a = some o := fun a o e => hsb.extBut a o (Nat.ne_of_lt (Heap.lt_size e)) (Heap.get?_push_of_some _ e)
  have gl : ∀ a o, (hideAll h ([I] ++ news.map (·.1))).get? a = some o → h₁.get? a = some o := fun a o e => k1 _ _ (kH _ _ (of_hideAll _ e))
  have gn : ∀ a, h.get? a = none → (hideAll h ([I] ++ news.map (·.1))).get? a = none := fun a e => by
    cases e1 : (hideAll h ([I] ++ news.map (·.1))).get? a with
    | none => rfl
    | some o => rw [of_hideAll _ e1] at e; cases e
  have hCn : h.get? H.objs.size = none := Heap.get?_none_of_le (by rw [sz]; exact Nat.le_succ _)
  have hDn : h.get? h.objs.size = none := Heap.get?_none_of_le (Nat.le_refl _)
  have fC : FB w p loose mean mg mb (hideAll h ([I] ++ news.map (·.1))) H.objs.size h₁ (fun _ => none) ((h.objs.size, listOf #[] 0) :: news) := by
    refine ⟨hns, gl, gn _ hCn, fun r hr => ?_, Bg⟩
    rcases List.mem_cons.mp hr with rfl | hr
    · exact ⟨k1 _ _ hD, by show h.objs.size ≠ H.objs.size; rw [sz]; exact Nat.ne_of_lt (Nat.lt_succ_self _), gn _ hDn⟩
    · have z := f.N r hr
      exact ⟨k1 _ _ (kH _ _ z.1), Nat.ne_of_lt (by rw [sz]; exact Nat.lt_succ_of_lt (Heap.lt_size z.1)), hideAll_none _ (List.mem_append_right _ (List.mem_map_of_mem hr))⟩
  obtain ⟨oI, hoI, _⟩ := hIh
  refine codeAny_mono (q _ h.objs.size H.objs.size h₁ _ fC st (fun a o n e => hideAll_get _ e (by simpa using n)) tg (fun a o e => k1 _ _ (kH _ _ e)) (fun e => by rw [e, hCn] at hoI; cases hoI) (fun e => by rw [e, hDn] at hoI; cases hoI) (hideAll_none _ (.head _)) hDn) (fun r s' x => ?_)
  cases r with
  | error x' => exact x.elim
  | ok fl =>
    obtain ⟨h', tk', m', news', rfl, f', k⟩ := x
    refine ⟨m', f'.ns, fun h'' hs0 => ?_⟩
    have hs : Heap.SameBut H.objs.size h' h'' := hs0
    refine k h'' ⟨?_, fun a o e => ?_, f.out, fun r hr => ?_, f.B⟩ (TK.of_ch (Ch.of_same hs) ?_)
    · obtain ⟨o, es, ep, hL', hd', r⟩ := f.ns
      have e1 := f'.keep _ _ hgL
      have e2 : h.get? L = some oL := of_hideAll _ hgL
      rw [hL'] at e2; cases e2
      refine ⟨oL, es, ep, (hs.2 _ ?_).trans e1, hd', r⟩
      intro e3
      rw [e3, hCn] at hL'; cases hL'
    · refine (hs.2 a ?_).trans (f'.keep _ _ (st a o e))
      intro e3
      rw [e3] at e
      rw [f.keep _ _ e] at hCn; cases hCn
    · have z := f'.N r hr
      refine ⟨(hs.2 _ z.2.1).trans z.1, fun e => ?_, ?_⟩
      · have := z.2.2
        rw [e, hgL] at this; cases this
      · cases e : g.get? r.1 with
        | none => rfl
        | some o => have := z.2.2; rw [st _ _ e] at this; cases this
    · intro r hr vs e
      rw [List.mem_singleton] at hr; subst hr
      obtain ⟨o, es, ep, hC', hd', _⟩ := f'.ns
      rw [hC'] at e; cases e; cases hd'
end
end
section
section
variable {M : Model} {h : Heap} {p : Params}
def FdObj (h : Heap) : Prop := ∃ oc od cd sl, h.get? 93 = some ⟨oc, od, .cls cd, sl⟩ ∧ cd.mro = [.ref 93, .type "collections.defaultdict", .type "dict", .type "object"] ∧ cd.abstract = false ∧ cd.hasDel = false ∧ cd.mro.isEmpty = false ∧ sl.toList[4]? = some (some (.builtin "dict.__new__")) ∧ cd.hasDict = true ∧ cd.name = "FreezableDefaultDict" ∧ cd.qualname = "FreezableDefaultDict"
theorem fd_obj_of {K : Frag} (X : K.In h) {oc : Value} {od : Option Addr} {cd : ClassData} {sl : Array (Option Value)} (e : K.lookup 93 = some ⟨oc, od, .cls cd, sl⟩) (hm : cd.mro = [.ref 93, .type "collections.defaultdict", .type "dict", .type "object"]) (h1 : cd.abstract = false) (h2 : cd.hasDel = false)
    (h4 : sl.toList[4]? = some (some (.builtin "dict.__new__"))) (h5 : cd.hasDict = true) (h6 : cd.name = "FreezableDefaultDict") (h7 : cd.qualname = "FreezableDefaultDict") : FdObj h := ⟨oc, od, cd, sl, X _ _ e, hm, h1, h2, by rw [hm]; rfl, h4, h5, h6, h7⟩
theorem fd_obj (X : (hd.heap_39 p).In h) : FdObj h := by
  refine' fd_obj_of X ?e ?a ?b ?c ?d ?f ?g ?i
  case e => k_is
  all_goals rfl
theorem fd_mro (X : (hd.heap_39 p).In h) : Looks M h (mroOf (.ref 93)) [.ref 93, .type "collections.defaultdict", .type "dict", .type "object"] := by
  obtain ⟨oc, od, cd, sl, ho, hm, _⟩ := fd_obj X
  have hC : Looks M h (classData 93) cd := (Looks.ld (part := none) ho).andThen .now
  exact hm ▸ hC.andThen .now
theorem fd_made (X : (hd.heap_39 p).In h) : Looks M h (Bind.madeBy (.ref 93)) (some "dict.__new__") := by
  intro A Q E s k q
  obtain ⟨oc, od, cd, sl, ho, hm, _, _, _, h4, _⟩ := fd_obj X
  unfold Bind.madeBy
  refine wpAny_bind (fd_mro X A _ E s k ?_)
  rw [List.forIn_cons]
  refine wpAny_bind (wpAny_bind (wpAny_bind (wpAny_bind (wpAny_loadPart (k _ _ ho) (wpAny_pure ?_)))))
  dsimp only
  rw [← Array.getElem?_toList, h4]
  exact wpAny_pure (wpAny_pure (wpAny_pure q))
theorem fd_base (X : (hd.heap_39 p).In h) : Looks M h (Bind.staticBase (.ref 93)) (.ref 93) := by
  intro A Q E s k q
  unfold Bind.staticBase
  refine wpAny_bind (fd_mro X A _ E s k ?_)
  rw [List.forIn_cons]
  exact wpAny_bind (wpAny_bind (wpAny_bind (fd_made X A _ E s k (wpAny_pure (wpAny_pure (wpAny_pure q))))))
theorem fd_call (X : (hd.heap_39 p).In h) : Looks M h (specialOf (.ref 93) "__call__") (some (.builtin "type.__call__")) := looks_specialIn X (by k_is)
theorem fd_typ (X : (hd.heap_39 p).In h) : Looks M h (isInstance (.ref 93) (.type "type")) true := looks_instIn X (by k_is)
theorem fd_self (X : (hd.heap_39 p).In h) : Looks M h (isSubtype (.ref 93) (.ref 93)) true := looks_mroIn X (by k_is)
theorem fd_subD (X : (hd.heap_39 p).In h) : Looks M h (isSubtype (.ref 93) (.type "dict")) true := looks_mroIn X (by k_is)
theorem fd_subX (X : (hd.heap_39 p).In h) : Looks M h (isSubtype (.ref 93) (.type "collections.defaultdict")) true := looks_mroIn X (by k_is)
theorem fd_subO (X : (hd.heap_39 p).In h) : Looks M h (isSubtype (.ref 93) (.type "collections.OrderedDict")) false := looks_mroIn X (by k_is)
theorem fd_find (X : (hd.heap_39 p).In h) {name : Str} {r : Option Value} (e : findIn (hd.heap_39 p) (.ref 93) name = some r) : Looks M h (typeLookup (.ref 93) name) r := looks_findIn X e
theorem fd_init (X : (hd.heap_39 p).In h) : Looks M h (typeLookup (.ref 93) "__init__") (some (.builtin "collections.defaultdict.__init__")) := looks_findIn X (by k_is)
theorem fd_getitem (X : (hd.heap_39 p).In h) : Looks M h (typeLookup (.ref 93) "__getitem__") (some (.builtin "dict.__getitem__")) := looks_findIn X (by k_is)
theorem fd_iter (X : (hd.heap_39 p).In h) : Looks M h (typeLookup (.ref 93) "__iter__") (some (.builtin "dict.__iter__")) := looks_findIn X (by k_is)
theorem fd_missing (X : (hd.heap_39 p).In h) : Looks M h (typeLookup (.ref 93) "__missing__") (some (.ref 83)) := looks_findIn X (by k_is)
end
theorem ty_list : typeOf (.type "list") = pure (.type "type") := by kernel_rfl
theorem ty_list_call {M : Model} {h : Heap} : Looks M h (specialOf (.type "list") "__call__") (some (.builtin "type.__call__")) := (Looks.of_pure ty_list).andThen (Looks.of_pure PySem.F.lookup_type_call)
/-- the book as an object -/
abbrev bookO (dx : Addr) (es : Array DictEntry) (ep : Nat) : Obj := { cls := .ref 93, dict := some dx, data := .dict es ep, slots := #[some (.type "list")] }
theorem dn_kind : builtinKind "dict.__new__" = some .builtinFn := by decide +kernel
theorem dn_split : splitId "dict.__new__" = some ("dict", "__new__") := by decide +kernel
theorem dn_entry : entryFor table "dict.__new__" = some Builtin.«dict.__new__» := entryFor_of_tree (by kernel_rfl)
theorem dn_quiet : (Code.builtin "dict.__new__" ⟨[], []⟩).quiet = true := by decide +kernel
theorem ddi_kind : builtinKind "collections.defaultdict.__init__" = some .slot := by decide +kernel
theorem ddi_split : splitId "collections.defaultdict.__init__" = some ("collections.defaultdict", "__init__") := by decide +kernel
theorem ddi_entry : entryFor table "collections.defaultdict.__init__" = some Builtin.«collections.defaultdict.__init__» := entryFor_of_tree (by kernel_rfl)
theorem ddi_plain : plainId "collections.defaultdict.__init__" = true := by decide +kernel
theorem ddi_args (a : Value) : argsOk "collections.defaultdict.__init__" ⟨[a, .type "list"], []⟩ := by unfold argsOk; kernel_rfl
theorem di_kind : builtinKind "dict.__init__" = some .slot := by decide +kernel
theorem di_split : splitId "dict.__init__" = some ("dict", "__init__") := by decide +kernel
theorem di_entry : entryFor table "dict.__init__" = some Builtin.«dict.__init__» := entryFor_of_tree (by kernel_rfl)
theorem di_plain : plainId "dict.__init__" = true := by decide +kernel
theorem di_args (a : Value) : argsOk "dict.__init__" ⟨[a], []⟩ := by unfold argsOk; kernel_rfl
section
variable {prog : Program} {w : World} {A : Around} {R : Result → Shared → Prop} {h : Heap} {g : Array GenState} {d : Drawn} {t : Nat} {os : OsState} {E : Value → Shared → Prop}
theorem fd_new (X : (hd.heap_39 w.params).In h)
    (hq : R (.ok (.ret (.ref (h.objs.size + 1)))) ⟨(h.push emptyDict).push { cls := .ref 93, dict := some h.objs.size, data := .dict #[] }, g, d, t, os⟩) :
    codeAny (model prog w) A (.call (.builtin "dict.__new__") ⟨[.ref 93, .type "list"], []⟩) R ⟨h, g, d, t, os⟩ := by
  obtain ⟨oc, od, cd, sl, hC, hm, e1, e2, e4, h4, hd, _⟩ := fd_obj X
  have made := fd_made (M := model prog w) X
  have base := fd_base (M := model prog w) X
  have subD := fd_subD (M := model prog w) X
  have mro := fd_mro (M := model prog w) X
  refine codeAny_call_builtin_code (Code.quiet_builtin _ (by decide +kernel)) ?_
  simp only [checkBuiltinCall, dn_kind, dn_split]
  repeat (first | simp only [bne_self_eq_false, Bool.false_eq_true, if_false] | lk)
  refine codeAny_builtin dn_entry ?_
  unfold Builtin.«dict.__new__» isType loadHead
  have hC' := Heap.get?_push_of_some { cls := .ref 93, dict := some h.objs.size, data := .dict #[] } (Heap.get?_push_of_some emptyDict hC)
  repeat lk
  rw [e2]
  repeat lk
  rw [Heap.size_push]
  exact hq
theorem fd_init_run {b : Heap} {x dx : Addr} (Xb : (hd.heap_39 w.params).In b) (hb : b.StaysIn h) (hxb : b.get? x = none) (hx : h.get? x = some { cls := .ref 93, dict := some dx, data := .dict #[] })
    (hq : ∀ h', Heap.SameBut x h h' → h'.get? x = some (bookO dx #[] 0) → R (.ok (.ret .none)) ⟨h', g, d, t, os⟩) :
    codeAny (model prog w) A (.call (.builtin "collections.defaultdict.__init__") ⟨[.ref x, .type "list"], []⟩) R ⟨h, g, d, t, os⟩ := by
  have X : (Mine.hd.heap_39 w.params).In h := Xb.keeps hb
  have t1 : Looks (model prog w) h (typeOf (.ref x)) (.ref 93) := (Looks.ld hx).andThen .now
  have inX : Looks (model prog w) h (isInstance (.ref x) (.type "collections.defaultdict")) true := t1.andThen (fd_subX (M := model prog w) X)
  refine codeAny_call_builtin ddi_plain ddi_entry (@check_slot (model prog w) _ _ _ "collections.defaultdict.__init__" "collections.defaultdict" "__init__" (.ref x) [.type "list"] [] _ ddi_kind ddi_split inX (ddi_args _) ?_)
  unfold Builtin.«collections.defaultdict.__init__» Builtin.Collections_defaultdict.setFactory
  have tl : Looks (model prog w) h (specialOf (.type "list") "__call__") (some (.builtin "type.__call__")) := ty_list_call
  show wpAny _ _ (if (Value.type "list" != Value.none) = true then _ else _) _ _ _
  rw [if_pos (by decide +kernel)]
  repeat (first | with_reducible refine wpAny_call ?_ | lk)
  refine wpAny_updatePart hx ?_
  generalize hf : (fun (o : Obj) => { o with slots := (o.slots ++ Array.replicate (0 + 1 - o.slots.size) none).setIfInBounds 0 [Value.type "list"].head? }) = f
  have hg : (h.update x f).get? x = some (bookO dx #[] 0) := by subst hf; exact Heap.get?_update_self _ hx rfl
  have hs : Heap.SameBut x h (h.update x f) := Heap.SameBut.update ..
  have hne : ∀ b o, b ≠ x → h.get? b = some o → (h.update x f).get? b = some o := fun b o e e1 => (hs.2 b e).trans e1
  have X' : (Mine.hd.heap_39 w.params).In (h.update x f) := Xb.keeps fun b o e1 => hne b o (by rintro rfl; rw [hxb] at e1; cases e1) (hb _ _ e1)
  generalize h.update x f = h' at *
  have t2 : Looks (model prog w) h' (typeOf (.ref x)) (.ref 93) := (Looks.ld hg).andThen .now
  have inD : Looks (model prog w) h' (isInstance (.ref x) (.type "dict")) true := t2.andThen (fd_subD (M := model prog w) X')
  have sO := fd_subO (M := model prog w) X'
  repeat (first | with_reducible refine wpAny_call ?_ | with_reducible refine wpAny_runValue ?_ | lk)
  refine codeAny_builtin di_entry ?_
  unfold Builtin.«dict.__init__»
  repeat (first | with_reducible refine wpAny_call ?_ | with_reducible refine wpAny_runValue ?_ | lk)
  exact hq _ hs hg
theorem fd_make {b : Heap} (Xb : (hd.heap_39 w.params).In b) (hb : b.StaysIn h) {Q : Value → Shared → Prop}
    (hq : ∀ x dx h', (∀ a o, h.get? a = some o → h'.get? a = some o) → h.objs.size ≤ dx → dx < x → h'.get? x = some (bookO dx #[] 0) → h'.get? dx = some emptyDict → Q (.ref x) ⟨h', g, d, t, os⟩) :
    wpAny (model prog w) A (call (.ref 93) [.type "list"]) Q E ⟨h, g, d, t, os⟩ := by
  have X : (Mine.hd.heap_39 w.params).In h := Xb.keeps hb
  obtain ⟨oc, od, cd, sl, hC, hm, e1, e2, e4, h4, hd, _⟩ := fd_obj X
  have made := fd_made (M := model prog w) X
  have call := fd_call (M := model prog w) X
  have typ := fd_typ (M := model prog w) X
  have mro := fd_mro (M := model prog w) X
  refine wpAny_call (codeAny_of_tree ?_)
  show wpAny _ _ (callAny (.ref 93) _) _ _ _
  refine nd_load hC ?_
  show wpAny _ _ (callAny.viaDunder (.ref 93) _) _ _ _
  unfold callAny.viaDunder
  refine wpAny_bind (call.at ?_)
  dsimp only
  rw [tc_bind]
  refine wpAny_bind (wpAny_pure (wpAny_bind (wpAny_pure ?_)))
  refine wpAny_pure (a := Fin.again (.call (.builtin "type.__call__") ⟨.ref 93 :: [.type "list"], []⟩)) (And.intro rfl ?_)
  refine codeAny_call_builtin_at (Code.quiet_builtin _ (by decide +kernel)) entry_typeCall (check_slot tc_kind tc_split typ (tc_args _ _ _) ?_)
  unfold Builtin.«type.__call__»
  repeat (first | simp only [e4] | with_reducible refine wpAny_call ?_ | lk)
  refine fd_new X ?_
  have k : ∀ b o, h.get? b = some o → ((h.push emptyDict).push { cls := .ref 93, dict := some h.objs.size, data := .dict #[] }).get? b = some o := fun b o e => Heap.get?_push_of_some _ (Heap.get?_push_of_some _ e)
  have hx : ((h.push emptyDict).push { cls := .ref 93, dict := some h.objs.size, data := .dict #[] }).get? (h.objs.size + 1) = some { cls := .ref 93, dict := some h.objs.size, data := .dict #[] } := by heap_get
  have hdx : ((h.push emptyDict).push { cls := .ref 93, dict := some h.objs.size, data := .dict #[] }).get? h.objs.size = some emptyDict := Heap.get?_push_of_some _ (Heap.get?_push_at rfl rfl)
  have hxn : h.get? (h.objs.size + 1) = none := Heap.get?_none_of_le (Nat.le_succ _)
  have X' : (Mine.hd.heap_39 w.params).In ((h.push emptyDict).push { cls := .ref 93, dict := some h.objs.size, data := .dict #[] }) := X.keeps k
  have t1 : Looks (model prog w) ((h.push emptyDict).push { cls := .ref 93, dict := some h.objs.size, data := .dict #[] }) (typeOf (.ref (h.objs.size + 1))) (.ref 93) := (Looks.ld hx).andThen .now
  have s1 := fd_self (M := model prog w) X'
  have i1 := fd_init (M := model prog w) X'
  unfold isInstance callSpecial? specialOf
  repeat (first | with_reducible refine wpAny_call ?_ | lk)
  refine fd_init_run X k hxn hx fun h' hs hg => ?_
  repeat lk
  exact hq _ _ _ (fun a o e => (hs.2 a (by rintro rfl; rw [hxn] at e; cases e)).trans (k _ _ e)) (Nat.le_refl _) (Nat.lt_succ_self _) hg ((hs.2 _ (Nat.ne_of_lt (Nat.lt_succ_self _))).trans hdx)
end
end
section
theorem check_method {M : Model} {A : Around} {E : Value → Shared → Prop} {s : Shared} {i owner n : String} {self : Value} {rest : List Value} {kw : List (Str × Value)} {Q : Unit → Shared → Prop}
    (hk : builtinKind i = some .method) (hs : splitId i = some (owner, n)) (hi : Looks M s.heap (isInstance self (.type owner)) true) (ha : argsOk i ⟨self :: rest, kw⟩) (q : Q () s) :
    wpAny M A (checkBuiltinCall i ⟨self :: rest, kw⟩) Q E s := by
  simp only [checkBuiltinCall, hk, hs]
  refine wpAny_bind (hi.here ?_)
  simp only [Bool.not_true, Bool.false_eq_true, if_false]
  cases hsig : Manifest.signature? i with
  | none => exact wpAny_pure q
  | some sig =>
    simp only [argsOk, hsig] at ha
    have h2 : Bind.checkArgs i sig ⟨self :: rest, kw⟩ = pure () := ha
    show wpAny M A (Bind.checkArgs i sig ⟨self :: rest, kw⟩) Q E s
    rw [h2]; exact wpAny_pure q
theorem dgi_kind : builtinKind "dict.__getitem__" = some .method := by decide +kernel
theorem dgi_split : splitId "dict.__getitem__" = some ("dict", "__getitem__") := by decide +kernel
theorem dgi_plain : plainId "dict.__getitem__" = true := by decide +kernel

/-- what the book holds: its keys, each with its list's place -/
abbrev Ents := List (Nat × Tok × Addr)
def bookEs (ents : Ents) : Array DictEntry := (ents.map fun e => (⟨hashInt ((e.1 : Nat) : Int), .int ((e.1 : Nat) : Int) e.2.1, .ref e.2.2⟩ : DictEntry)).toArray
theorem bookEs_int (ents : Ents) : IntKeys (bookEs ents) := by
  intro e he
  unfold bookEs at he
  rw [List.mem_toArray, List.mem_map] at he
  obtain ⟨x, _, rfl⟩ := he
  exact ⟨_, _, rfl, rfl⟩
def entAt (ents : Ents) (k : Nat) : Option Addr := (ents.find? fun e => e.1 == k).map (·.2.2)
theorem bookEs_get (ents : Ents) (k : Nat) : (((bookEs ents).findIdx? fun e => Value.isInt ((k : Nat) : Int) e.key).bind fun i => ((bookEs ents)[i]?).map (·.val)) = (entAt ents k).map .ref := by
  have e := findBy_of_findIdx? Value.isInt (bookEs ents) ((k : Nat) : Int)
  have e2 : findBy Value.isInt (bookEs ents) ((k : Nat) : Int) = (entAt ents k).map .ref := by
    unfold findBy bookEs entAt
    rw [List.find?_toArray, List.find?_map, Option.map_map, Option.map_map]
    have e3 : (Value.isInt ((k : Nat) : Int) ∘ fun (e : DictEntry) => e.key) ∘ (fun (e : Nat × Tok × Addr) => (⟨hashInt ((e.1 : Nat) : Int), .int ((e.1 : Nat) : Int) e.2.1, .ref e.2.2⟩ : DictEntry)) = fun e => e.1 == k := by
      funext e
      show ((((e.1 : Nat) : Int)) == ((k : Nat) : Int)) = (e.1 == k)
      rw [Bool.eq_iff_iff, beq_iff_eq, beq_iff_eq]
      omega
    rw [show (fun (e : DictEntry) => Value.isInt ((k : Nat) : Int) e.key) = (Value.isInt ((k : Nat) : Int) ∘ fun (e : DictEntry) => e.key) from rfl, e3]
    rfl
  rw [← e2, e]
  cases ((bookEs ents).findIdx? fun e => Value.isInt ((k : Nat) : Int) e.key) <;> rfl
section
variable {prog : Program} {w : World} {A : Around} {R : Result → Shared → Prop} {h : Heap} {ge : Array GenState} {dr : Drawn} {tk : Nat} {os : OsState} {E : Value → Shared → Prop} {s : Shared}
theorem dictGet_es {d : Addr} {o : Obj} {es ep} {k : Int} {t : Tok} {Q : Option Value → Shared → Prop} (ho : h.get? d = some o)
    (hd : o.data = .dict es ep) (hk : IntKeys es) (q : Q ((es.findIdx? fun e => Value.isInt k e.key).bind fun i => (es[i]?).map (·.val)) ⟨h, ge, dr, tk + 1, os⟩) :
    wpAny (model prog w) A (dictGet d (.int k t)) Q E ⟨h, ge, dr, tk, os⟩ := by
  unfold dictGet
  refine wpAny_holding (wpAny_bind (wpAny_pyHash_int (wpAny_bind (wpAny_dictFind_int (s := ⟨h, ge, dr, tk + 1, os⟩) ho hd hk ?_))))
  cases hi : es.findIdx? fun e => Value.isInt k e.key with
  | none => rw [hi] at q; exact wpAny_pure q
  | some i => rw [hi] at q; exact wpAny_bind (wpAny_dictEntries (s := ⟨h, ge, dr, tk + 1, os⟩) ho hd (wpAny_pure q))
theorem fd_sub {b : Heap} (Xb : (hd.heap_39 w.params).In b) (hb : b.StaysIn h) {x dx : Addr} {es : Array DictEntry} {ep : Nat} (hx : h.get? x = some (bookO dx es ep)) {value slice : Expr} {k : Int} {t : Tok} {Q : Value → Shared → Prop}
    (hs : subscripted slice false (.ref x) (.int k t) = operate [.ref x, .int k t] (getItem (.ref x) (.int k t)))
    (q : wpAny (model prog w) A (call (.builtin "dict.__getitem__") [.ref x, .int k t]) Q E ⟨h, ge, dr, tk, os⟩) :
    wpAny (model prog w) A (subscriptTail value slice (.ref x) (.int k t)) Q E ⟨h, ge, dr, tk, os⟩ := by
  have X : (Mine.hd.heap_39 w.params).In h := Xb.keeps hb
  have t1 : Looks (model prog w) h (typeOf (.ref x)) (.ref 93) := (Looks.ld hx).andThen .now
  have gi := fd_getitem (M := model prog w) X
  have sp : Looks (model prog w) h (specialOf (.ref x) "__getitem__") (some (.builtin "dict.__getitem__")) := t1.andThen gi
  unfold subscriptTail getitemInPython
  refine wpAny_bind (wpAny_bind (sp.at (wpAny_pure ?_)))
  rw [hs]
  refine wpAny_bind (wpAny_operating ?_)
  unfold getItem sequenceKey callSpecial?
  have hn : noSeq (Mine.hd.heap_39 w.params) 93 = true := by k_is
  refine wpAny_holding (wpAny_bind (wpAny_bind (t1.at ?_)))
  refine wpAny_bind ((anyM_none X hn).here ?_)
  rw [if_pos (show (!false) = true from rfl)]
  refine wpAny_pure (wpAny_bind (wpAny_bind (sp.at (wpAny_holding ?_))))
  rw [PySem.slot_dict_getitem.bind]
  refine wpAny_bind (wpAny_pure (wpAny_bind (wpAny_mono q (fun v s' hv => ?_) fun _ _ e => e)))
  refine wpAny_pure (wpAny_pure ?_)
  show wpAny (model prog w) A (letTemporaryGo value (.ref x) v >>= fun _ => pure v) Q E s'
  exact wpAny_bind (wpAny_letTemporaryGo (wpAny_pure hv))
/-- a key is looked up in the book -/
theorem fd_look {b : Heap} (Xb : (hd.heap_39 w.params).In b) (hb : b.StaysIn h) {x dx : Addr} {ents : Ents} {ep : Nat} {odx : Obj} (hx : h.get? x = some (bookO dx (bookEs ents) ep)) (hdx : h.get? dx = some odx) {k : Nat} {t : Tok} {Q : Value → Shared → Prop}
    (hit : ∀ l tk', entAt ents k = some l → Q (.ref l) ⟨h, ge, dr, tk', os⟩)
    (miss : ∀ tk', entAt ents k = none → wpAny (model prog w) A.in1 (call (.ref 83) [.ref x, .int ((k : Nat) : Int) t]) Q E ⟨h, ge, dr, tk', os⟩) :
    wpAny (model prog w) A (call (.builtin "dict.__getitem__") [.ref x, .int ((k : Nat) : Int) t]) Q E ⟨h, ge, dr, tk, os⟩ := by
  have X : (Mine.hd.heap_39 w.params).In h := Xb.keeps hb
  have t1 : Looks (model prog w) h (typeOf (.ref x)) (.ref 93) := (Looks.ld hx).andThen .now
  have inD : Looks (model prog w) h (isInstance (.ref x) (.type "dict")) true := t1.andThen (fd_subD (M := model prog w) X)
  refine wpAny_call (codeAny_call_builtin dgi_plain PySem.entry_dict_getitem (@check_method (model prog w) _ _ _ "dict.__getitem__" "dict" "__getitem__" (.ref x) [.int ((k : Nat) : Int) t] [] _ dgi_kind dgi_split inD (PySem.args_dict_getitem _ _) ?_))
  unfold Builtin.«dict.__getitem__»
  repeat (first | with_reducible refine dictGet_es hx rfl (bookEs_int ents) ?_ | with_reducible refine wpAny_call ?_ | with_reducible refine wpAny_runValue ?_ | lk)
  rw [bookEs_get]
  cases he : entAt ents k with
  | some l => exact wpAny_pure (hit l _ he)
  | none =>
    refine wpAny_bind (PySem.wpAny_missed_int (wpAny_bind (t1.at ?_)))
    rw [if_pos (by decide +kernel)]
    have I : InstAt h x (bookO dx (bookEs ents) ep) 93 (some odx) := ⟨hx, rfl, rfl, hdx⟩
    refine wpAny_bind (special_fn (s := ⟨h, ge, dr, tk + 1, os⟩) X I (f := 83) (by k_is) (by k_is) (wpAny_mono (miss _ he) (fun v s' hv => ?_) fun _ _ e => e))
    exact wpAny_bind (wpAny_rule (wpAny_pure hv))
end
end
section
theorem kga_kind : builtinKind "getattr" = none := by decide +kernel
theorem kga_plain : plainId "getattr" = true := by decide +kernel
theorem kga_entry : entryFor table "getattr" = some Builtin.«getattr» := entryFor_of_tree (by kernel_rfl)
theorem kga_args (a b c : Value) : argsOk "getattr" ⟨[a, b, c], []⟩ := by unfold argsOk; kernel_rfl
theorem dga_kind : builtinKind "collections.defaultdict.__getattribute__" = some .slot := by decide +kernel
theorem dga_split : splitId "collections.defaultdict.__getattribute__" = some ("collections.defaultdict", "__getattribute__") := by decide +kernel
theorem dga_plain : plainId "collections.defaultdict.__getattribute__" = true := by decide +kernel
theorem dga_entry : entryFor table "collections.defaultdict.__getattribute__" = some Builtin.«object.__getattribute__» :=
  entryFor_alias (id' := "object.__getattribute__") (by kernel_rfl) (by first | rfl | decide +kernel) (by decide +kernel) (by kernel_rfl)
theorem dga_args (a b : Value) : argsOk "collections.defaultdict.__getattribute__" ⟨[a, b], []⟩ := by unfold argsOk; kernel_rfl
theorem dga_bind (self : Value) : bindSpecial (.builtin "collections.defaultdict.__getattribute__") self = pure (.builtin "collections.defaultdict.__getattribute__", [self]) :=
  (Slot.of (T := "collections.defaultdict") (name := "__getattribute__") (owner := "collections.defaultdict") (n := "__getattribute__") (by rw [typeLookup_type, builtinLookup_eq_fast]; kernel_rfl) (by decide +kernel) (by decide +kernel) (by decide +kernel)
    (.inl (by decide +kernel)) (by rw [isSubtype_type]; kernel_rfl)).bind self
theorem sub_attrErr : isSubtype (.type "AttributeError") (.type "AttributeError") = pure true := by rw [isSubtype_type]; kernel_rfl
theorem first_attrErr (v : Value) : firstArgMember (.type "AttributeError") [v] = pure .none := by
  have e : ((Manifest.find? "AttributeError").elim false fun t => t.mro.contains "StopIteration" || t.mro.contains "SystemExit") = false := by decide +kernel
  simp only [firstArgMember, e]; rfl
abbrev attrErrO (t : Addr) (a c : Value) : Obj := { cls := .type "AttributeError", data := .fields #[.ref t, .none, .none, .none, .bool false, .none, a, c] }
theorem attrErr_new {M : Model} {A : Around} {h : Heap} {ge : Array GenState} {dr : Drawn} {tk : Nat} {os : OsState} {E : Value → Shared → Prop} {v : Value} {Q : Value → Shared → Prop}
    (q : ∀ h' e t, (∀ a o, h.get? a = some o → h'.get? a = some o) → h.get? e = none → h'.get? e = some (attrErrO t (rawInt 0) (rawInt 0)) → Q (.ref e) ⟨h', ge, dr, tk, os⟩) : wpAny M A (newExc (.type "AttributeError") [v]) Q E ⟨h, ge, dr, tk, os⟩ := by
  unfold newExc newTuple
  refine wpAny_bind (wpAny_newObj_type ?_ (by show [v].toArray.size ≤ sizeLine; rw [List.size_toArray, sizeLine_eq]; simp))
  rw [first_attrErr]
  refine wpAny_bind (wpAny_pure (wpAny_newObj_type (q _ _ _ (fun a o e => Heap.get?_push_of_some _ (Heap.get?_push_of_some _ e)) ?_ (Heap.get?_push_size _ rfl)) (by size_fits)))
  exact Heap.get?_none_of_le (by simp)
section
variable {prog : Program} {w : World} {A : Around} {R : Result → Shared → Prop} {h : Heap} {ge : Array GenState} {dr : Drawn} {tk : Nat} {os : OsState} {E : Value → Shared → Prop} {s : Shared} {Q : Value → Shared → Prop}
  {b : Heap} {x dx : Addr} {es : Array DictEntry} {ep : Nat} {odx : Obj} {t : Tok} {d : Value}
/-- what getattr with a default asks -/
theorem fd_getattr (Xb : (hd.heap_39 w.params).In b) (hb : b.StaysIn h) (hx : h.get? x = some (bookO dx es ep)) (hdx : h.get? dx = some odx)
    (q : wpAny (model prog w) A.in1 (getAttrBy? (.ref x) (.str "_frozen" t)) (fun o s' => match o with | some v => Q v s' | none => Q d s') E ⟨h, ge, dr, tk, os⟩) :
    wpAny (model prog w) A (call (.builtin "getattr") [.ref x, .str "_frozen" t, d]) Q E ⟨h, ge, dr, tk, os⟩ := by
  have X : (Mine.hd.heap_39 w.params).In h := Xb.keeps hb
  have t1 : Looks (model prog w) h (typeOf (.ref x)) (.ref 93) := (Looks.ld hx).andThen .now
  have sM : Looks (model prog w) h (isSubtype (.ref 93) (.type "module")) false := looks_mroIn X (by k_is)
  refine Calls.call_function_entry kga_kind kga_plain kga_entry (kga_args _ _ _) ?_
  unfold Builtin.«getattr»
  refine wpAny_bind (wpAny_of_eq (a := [.ref x, .str "_frozen" t, d]) (by first | rfl | kernel_rfl) ?_)
  dsimp only
  refine wpAny_bind (wpAny_of_eq (a := ()) (by first | rfl | kernel_rfl) ?_)
  refine wpAny_bind (wpAny_of_eq (a := none) (by first | rfl | kernel_rfl) ?_)
  dsimp only
  repeat ((fail_if_success (with_reducible show wpAny _ _ (getAttrBy? _ _) _ _ _)); lk)
  refine wpAny_mono q (fun o s' ho => ?_) fun _ _ e => e
  cases o with
  | some v => exact wpAny_pure ⟨_, rfl, ho⟩
  | none => exact wpAny_pure ⟨_, rfl, ho⟩
/-- how the book's attributes are looked up -/
theorem fd_by (Xb : (hd.heap_39 w.params).In b) (hb : b.StaysIn h) (hx : h.get? x = some (bookO dx es ep)) (hdx : h.get? dx = some odx) {name : Str} {fill expr : Bool}
    (q : wpAny (model prog w) A.in1 (Builtin.«object.__getattribute__» ⟨[.ref x, .str name t], []⟩) (fun fin s' => match fin with | .done (.ret v) => wpAny (model prog w) A (handedOut v) Q E s' | _ => False)
      (fun e s' => wpAny (model prog w) A (getattributeRaised (.ref x) (.str name t) (.ref 93) e none fill expr) Q E s') ⟨h, ge, dr, tk, os⟩) :
    wpAny (model prog w) A (getAttrBy (.ref x) (.str name t) fill expr) Q E ⟨h, ge, dr, tk, os⟩ := by
  have X : (Mine.hd.heap_39 w.params).In h := Xb.keeps hb
  have I : InstAt h x (bookO dx es ep) 93 (some odx) := ⟨hx, rfl, rfl, hdx⟩
  have L0 := I.type (M := model prog w)
  have L1 : Looks (model prog w) h (typeLookup (.ref 93) "__getattribute__") (some (.builtin "collections.defaultdict.__getattribute__")) := looks_findIn X (by k_is)
  have L2 : Looks (model prog w) h (typeLookup (.ref 93) "__getattr__") none := looks_findIn X (by k_is)
  have inX : Looks (model prog w) h (isInstance (.ref x) (.type "collections.defaultdict")) true := L0.andThen (fd_subX (M := model prog w) X)
  unfold getAttrBy
  refine wpAny_holding (wpAny_bind (L0.at (wpAny_bind (L1.at ?_))))
  show wpAny _ _ (getAttrByItsOwn _ _ _ _ _ _) _ _ _
  unfold getAttrByItsOwn hookBefore callGetattribute boundAndCalled
  refine wpAny_bind (L2.at (wpAny_bind (wpAny_attempt (wpAny_holding ?_))))
  have e1 : ∀ t1 t2 : Sem Value, (if (expr && onTheHeap (Value.builtin "collections.defaultdict.__getattribute__")) = true then t1 else t2) = t2 := fun t1 t2 => by cases expr <;> rfl
  rw [e1, dga_bind]
  refine wpAny_bind (wpAny_pure (wpAny_call ?_))
  refine codeAny_call_builtin dga_plain dga_entry (@check_slot (model prog w) _ _ _ "collections.defaultdict.__getattribute__" "collections.defaultdict" "__getattribute__" (.ref x) [.str name t] [] _ dga_kind dga_split inX (dga_args _ _) ?_)
  refine wpAny_mono q (fun fin s' z => ?_) fun _ _ z => z
  rcases fin with (_ | _ | _ | _) | _ <;> first | exact z | exact z.elim
theorem fd_frozen_none (Xb : (hd.heap_39 w.params).In b) (hb : b.StaysIn h) (hx : h.get? x = some (bookO dx es ep)) (hdx : h.get? dx = some emptyDict) (hh : A.handled = none) {Q : Option Value → Shared → Prop}
    (q : ∀ h' tk', (∀ a o, h.get? a = some o → h'.get? a = some o) → Q none ⟨h', ge, dr, tk', os⟩) : wpAny (model prog w) A (getAttrBy? (.ref x) (.str "_frozen" t)) Q E ⟨h, ge, dr, tk, os⟩ := by
  have X : (Mine.hd.heap_39 w.params).In h := Xb.keeps hb
  have I : InstAt h x (bookO dx es ep) 93 (some emptyDict) := ⟨hx, rfl, rfl, hdx⟩
  have L0 := I.type (M := model prog w)
  have hc : ∃ cd, clsIn (Mine.hd.heap_39 w.params) 93 = some cd ∧ cd.hasDict = true := by
    have : hasDictIn (Mine.hd.heap_39 w.params) 93 = true := by k_is
    exact any_some this
  have hf : findObj (Mine.hd.heap_39 w.params) 93 (some emptyDict) "_frozen" = some .missing := by
    obtain ⟨cd, hc, hd⟩ := hc
    unfold findObj
    have ho : PySem.W.ownOf cd (some emptyDict) "_frozen" = some none := by unfold PySem.W.ownOf; rw [if_pos hd]; rfl
    have ha : findIn (Mine.hd.heap_39 w.params) (.ref 93) "_frozen" = some none := by k_is
    rw [hc, Option.bind_some, ha, Option.bind_some]
    simp only [Option.bind_some, ho]
    rw [if_neg (by rw [show copiedNames.contains (Str.ofString "_frozen") = false by decide +kernel]; simp)]
  have L3 := looks_find (M := model prog w) X I hf
  obtain ⟨oc, od, cd, sl, hC, hm, _, _, _, _, _, hname, _⟩ := fd_obj X
  unfold getAttrBy?
  refine wpAny_bind (wpAny_attempt (fd_by Xb hb hx hdx ?_))
  unfold Builtin.«object.__getattribute__»
  repeat ((fail_if_success (with_reducible show wpAny _ _ (find _ _ _) _ _ _)); lk)
  refine L3.at ?_
  dsimp only
  rw [if_neg (by decide +kernel), if_neg (by decide +kernel)]
  have nm : Looks (model prog w) h (typeNameOfCut 100 (.ref x)) "FreezableDefaultDict" := by
    intro A Q E s k q
    unfold typeNameOfCut shownTypeOf typeNameCut
    refine wpAny_bind (wpAny_bind (L0 _ _ _ _ k ?_))
    show wpAny _ A (if (Value.ref 93 == Value.type "builtin_function_or_method") = true then _ else pure (Value.ref 93)) _ E s
    rw [if_neg (by decide +kernel)]
    refine wpAny_pure (wpAny_bind (wpAny_bind (wpAny_load (k _ _ hC) (wpAny_pure ?_))))
    dsimp only
    rw [hname]
    rw [if_pos (by decide +kernel)]
    exact wpAny_pure q
  unfold noSuchAttribute raiseAttrError
  refine wpAny_bind (nm.at ?_)
  with_reducible refine wpAny_bind ?_
  refine wpAny_mkStr ?_ (Nat.le_trans (m := 100) (by decide +kernel) (by rw [sizeLine_eq]; omega))
  with_reducible refine wpAny_bind ?_
  refine attrErr_new ?_
  intro h' e tt k1 hne he
  with_reducible refine wpAny_bind ?_
  refine wpAny_mkText ?_
  have te : Looks (model prog w) h' (typeOf (.ref e)) (.type "AttributeError") := (Looks.ld he).andThen .now
  have se : Looks (model prog w) h' (isInstance (.ref e) (.type "AttributeError")) true := te.andThen (Looks.of_pure sub_attrErr)
  with_reducible refine wpAny_bind ?_
  unfold noteAttr lacksNameAndObj
  repeat ((fail_if_success (with_reducible show wpAny _ _ (layMembers _ _ _) _ _ _)); lk)
  dsimp only
  unfold layMembers
  refine wpAny_bind (wpAny_load he ?_)
  dsimp only
  refine wpAny_update he ?_
  have he2 : (h'.update e (Obj.mapFields fun vs => vs.extract 0 6 ++ #[.str (Str.ofString "_frozen") (tk + 1), .ref x])).get? e = some (attrErrO tt (.str (Str.ofString "_frozen") (tk + 1)) (.ref x)) := Heap.get?_update_self _ he rfl
  have hs : Heap.SameBut e h' (h'.update e (Obj.mapFields fun vs => vs.extract 0 6 ++ #[.str (Str.ofString "_frozen") (tk + 1), .ref x])) := Heap.SameBut.update ..
  generalize h'.update e _ = h2 at *
  have te2 : Looks (model prog w) h2 (typeOf (.ref e)) (.type "AttributeError") := (Looks.ld he2).andThen .now
  have se2 : Looks (model prog w) h2 (isInstance (.ref e) (.type "AttributeError")) true := te2.andThen (Looks.of_pure sub_attrErr)
  refine wpAny_raiseNew_none hh ?_
  unfold getattributeRaised hookBehind hookOrError attributeErrorLeaves
  refine wpAny_bind (se2.at ?_)
  rw [if_pos rfl]
  refine wpAny_bind (wpAny_pure ?_)
  show wpAny _ _ (throw (Value.ref e)) _ _ _
  refine wpAny_throw ?_
  refine wpAny_bind (se2.at ?_)
  rw [if_pos rfl]
  refine wpAny_pure (q _ _ fun a o ha => (hs.2 a ?_).trans (k1 _ _ ha))
  rintro rfl
  rw [hne] at ha; cases ha
end
end
section
section
variable {prog : Program} {w : World} {A : Around} {h : Heap} {ge : Array GenState} {dr : Drawn} {tk : Nat} {os : OsState} {E : Value → Shared → Prop} {s : Shared} {Q : Value → Shared → Prop}
theorem callBorrowed_of {M : Model} {f : Value} {pos : List Value} (q : wpAny M A (call f pos) Q E s) : wpAny M A (callBorrowed f pos) Q E s := by
  intro Γ p hΓ
  have z := q Γ p hΓ
  rw [Sem.wp_cmd_call] at z
  unfold callBorrowed
  rw [Sem.wp_call]
  refine (iff_of_eq ?_).mp z
  congr 1
  funext r s'
  cases r with
  | error e => rfl
  | ok f => cases f <;> rfl
theorem code_list_new0 {Q₁ : Value → Shared → Prop}
    (q : Q₁ (.ref s.heap.objs.size) { s with heap := s.heap.push { cls := .type "list", data := .seq #[] } }) :
    codeAny (model prog w) A (.call (.builtin "list.__new__") ⟨[.type "list"], []⟩) (wants Q₁ E) s := by
  have nc : checkBuiltinCall "list.__new__" ⟨[.type "list"], []⟩ = pure () := by kernel_rfl
  refine codeAny_of_tree ?_
  show wpAny _ A.in1 (do checkBuiltinCall "list.__new__" ⟨[.type "list"], []⟩; again (.builtin "list.__new__" ⟨[.type "list"], []⟩)) _ _ s
  refine wpAny_bind (wpAny_of_eq nc (wpAny_pure ⟨plainId_quiet PySem.F.plain_list_new _, codeAny_builtin_stack PySem.F.entry_list_new rfl fun p st => ?_⟩))
  rw [Around.under_plainId PySem.F.plain_list_new _]
  have hsub := sub_list_self
  have hown := owner_list_new
  obtain ⟨hp, g, d, tk, os⟩ := s
  simp only [hown]
  wp_walk
  exact q
theorem list0_args (a : Value) : argsOk "list.__init__" ⟨[a], []⟩ := by unfold argsOk; kernel_rfl
theorem list0_entry : entryFor table "list.__init__" = some Builtin.«list.__init__» := entryFor_of_tree (by kernel_rfl)
/-- list() -/
theorem list0 (q : ∀ h' c, (∀ a o, h.get? a = some o → h'.get? a = some o) → h'.get? h.objs.size = some (listOf #[] c) → Q (.ref h.objs.size) ⟨h', ge, dr, tk, os⟩) :
    wpAny (model prog w) A (call (.type "list") []) Q E ⟨h, ge, dr, tk, os⟩ := by
  have ct : checkTypeCall "list" ⟨[], []⟩ = pure () := by kernel_rfl
  refine callType_codes (Q₁ := fun obj s₁ => obj = .ref h.objs.size ∧ s₁ = ⟨h.push { cls := .type "list", data := .seq #[] }, ge, dr, tk, os⟩) PySem.F.called_list ct list0_entry (code_list_new0 ⟨rfl, rfl⟩) ?_
  rintro obj s₁ ⟨rfl, rfl⟩
  have ho : (h.push { cls := .type "list", data := .seq #[] }).get? h.objs.size = some { cls := .type "list", data := .seq #[] } := Heap.get?_push_at rfl rfl
  refine ⟨⟨_, ho, rfl⟩, list0_args _, ?_⟩
  unfold Builtin.«list.__init__»
  repeat ((fail_if_success (with_reducible show wpAny _ _ (update _ _) _ _ _)); lk)
  refine wpAny_update ho ?_
  have ho2 : ((h.push { cls := .type "list", data := .seq #[] }).update h.objs.size (Obj.mapSeq fun x => #[])).get? h.objs.size = some (listOf #[] 0) := Heap.get?_update_self _ ho rfl
  have hs : Heap.SameBut h.objs.size (h.push { cls := .type "list", data := .seq #[] }) ((h.push { cls := .type "list", data := .seq #[] }).update h.objs.size (Obj.mapSeq fun x => #[])) := Heap.SameBut.update ..
  have hk : ∀ a o, h.get? a = some o → ((h.push { cls := .type "list", data := .seq #[] }).update h.objs.size (Obj.mapSeq fun x => #[])).get? a = some o := fun a o e =>
    (hs.2 a (Nat.ne_of_lt (Heap.lt_size e))).trans (Heap.get?_push_of_some _ e)
  generalize (h.push { cls := .type "list", data := .seq #[] }).update h.objs.size (Obj.mapSeq fun x => #[]) = h2 at *
  refine wpAny_lookBehind ho2 (pastItsLine_seq (by rw [sizeLine_eq]; simp)) ?_
  refine wpAny_bind (wpAny_letGo ?_)
  refine wpAny_pure ⟨rfl, q _ _ hk ho2⟩
end
end
section
theorem ddm_entry : entryFor table "collections.defaultdict.__missing__" = some Builtin.«collections.defaultdict.__missing__» := entryFor_of_tree (by kernel_rfl)
theorem ddm_plain : plainId "collections.defaultdict.__missing__" = true := by decide +kernel
theorem ddm_sig : Manifest.signature? "collections.defaultdict.__missing__" = some ⟨.oneArg, "defaultdict.__missing__", "__missing__", .self, [{ name := "object", kind := .posOnly, required := true }]⟩ := by kernel_rfl
theorem ddm_kind : builtinKind "collections.defaultdict.__missing__" = some .method := by decide +kernel
theorem ddm_check (x : Addr) (k : Int) (t : Tok) : Bind.checkArgs "collections.defaultdict.__missing__" ⟨.oneArg, "FreezableDefaultDict.__missing__", "__missing__", .self, [{ name := "object", kind := .posOnly, required := true }]⟩ ⟨[.ref x, .int k t], []⟩ = pure () := by kernel_rfl
abbrev mthO (f x : Value) : Obj := { cls := .type "builtin_function_or_method", data := .fields #[f, x] }
section
variable {prog : Program} {w : World} {A : Around} {h : Heap} {ge : Array GenState} {dr : Drawn} {tk : Nat} {os : OsState} {E : Value → Shared → Prop} {s : Shared} {Q : Value → Shared → Prop}
  {b : Heap} {x dx mth : Addr} {ents : Ents} {ep : Nat} {odx : Obj} {t : Tok} {k : Nat}
theorem bookEs_none {ents : Ents} {k : Nat} (hn : entAt ents k = none) : ((bookEs ents).findIdx? fun e => Value.isInt ((k : Nat) : Int) e.key) = none := by
  have e := bookEs_get ents k
  rw [hn] at e
  cases hi : (bookEs ents).findIdx? fun e => Value.isInt ((k : Nat) : Int) e.key with
  | none => rfl
  | some i =>
    rw [hi] at e
    obtain ⟨hlt, _⟩ := Array.findIdx?_eq_some_iff_getElem.mp hi
    simp [Array.getElem?_eq_getElem hlt] at e
theorem bookEs_push (ents : Ents) (k : Nat) (t : Tok) (l : Addr) : (bookEs ents).push ⟨hashInt ((k : Nat) : Int), .int ((k : Nat) : Int) t, .ref l⟩ = bookEs (ents ++ [(k, t, l)]) := by
  unfold bookEs
  simp
theorem bookEs_size (ents : Ents) : (bookEs ents).size = ents.length := by unfold bookEs; simp
theorem setdef_entry : entryFor table "dict.setdefault" = some Builtin.«dict.setdefault» := entryFor_of_tree (by kernel_rfl)
theorem book_setdefault (Xb : (hd.heap_39 w.params).In b) (hb : b.StaysIn h) (hx : h.get? x = some (bookO dx (bookEs ents) ep)) (hn : entAt ents k = none) (hz : ents.length ≤ 1000000) {l : Addr} {R : Result → Shared → Prop}
    (q : ∀ h' tk', Heap.SameBut x h h' → h'.get? x = some (bookO dx (bookEs (ents ++ [(k, t, l)])) (ep + 1)) → R (.ok (.ret (.ref l))) ⟨h', ge, dr, tk', os⟩) :
    codeAny (model prog w) A (.builtin "dict.setdefault" ⟨[.ref x, .int ((k : Nat) : Int) t, .ref l], []⟩) R ⟨h, ge, dr, tk, os⟩ := by
  have X : (Mine.hd.heap_39 w.params).In h := Xb.keeps hb
  have t1 : Looks (model prog w) h (typeOf (.ref x)) (.ref 93) := (Looks.ld hx).andThen .now
  have sO := fd_subO (M := model prog w) X
  refine codeAny_builtin setdef_entry ?_
  unfold Builtin.«dict.setdefault»
  have fin : ∀ A' tk', wpAny (model prog w) A' (do ret (← dictSetDefault x (.int ((k : Nat) : Int) t) (.ref l))) (fun fin s' => match fin with | .done f => R (.ok f) s' | .again c' => c'.quiet = true ∧ codeAny (model prog w) A c' R s') (fun e s' => R (.error e) s') ⟨h, ge, dr, tk', os⟩ := by
    intro A' tk'
    unfold dictSetDefault
    refine wpAny_bind (wpAny_holding (wpAny_bind (wpAny_pyHash_int (wpAny_bind (wpAny_dictFind_int (s := ⟨h, ge, dr, tk' + 1, os⟩) hx rfl (bookEs_int ents) ?_)))))
    rw [bookEs_none hn]
    refine wpAny_bind (wpAny_rule (wpAny_bind (wpAny_updateDictKeys (s := ⟨h, ge, dr, tk' + 1, os⟩) (hz := by rw [bookEs_size, sizeLine_eq]; omega) hx rfl (wpAny_pure (wpAny_pure (q _ _ (Heap.SameBut.update ..) ?_))))))
    rw [Heap.get?_update_self _ hx rfl, ← bookEs_push]
    rfl
  repeat ((fail_if_success (with_reducible show wpAny _ _ (ite _ _ _ >>= _) _ _ _)); (fail_if_success (with_reducible show wpAny _ _ (dictSetDefault _ _ _ >>= _) _ _ _)); lk)
  split
  · refine wpAny_bind (dictGet_es hx rfl (bookEs_int ents) ?_)
    rw [bookEs_get, hn]
    show wpAny _ _ (Dict.missed x (.int ((k : Nat) : Int) t) >>= _) _ _ _
    exact wpAny_bind (PySem.wpAny_missed_int (fin _ _))
  · exact fin _ _
theorem dd_missing (Xb : (hd.heap_39 w.params).In b) (hb : b.StaysIn h) (hxb : b.get? x = none) (hx : h.get? x = some (bookO dx (bookEs ents) ep))
    (hm : h.get? mth = some (mthO (.builtin "collections.defaultdict.__missing__") (.ref x))) (hn : entAt ents k = none) (hz : ents.length ≤ 1000000)
    (q : ∀ l h' tk' c, Ch [x] h h' → h.get? l = none → h'.get? l = some (listOf #[] c) → h'.get? x = some (bookO dx (bookEs (ents ++ [(k, t, l)])) (ep + 1)) → Q (.ref l) ⟨h', ge, dr, tk', os⟩) :
    wpAny (model prog w) A (call (.ref mth) [.int ((k : Nat) : Int) t]) Q E ⟨h, ge, dr, tk, os⟩ := by
  have X : (Mine.hd.heap_39 w.params).In h := Xb.keeps hb
  obtain ⟨oc, od, cd, sl, hC, hmro, _, _, _, _, _, hname, hqn⟩ := fd_obj X
  have t1 : Looks (model prog w) h (typeOf (.ref x)) (.ref 93) := (Looks.ld hx).andThen .now
  have sM : Looks (model prog w) h (isSubtype (.ref 93) (.type "module")) false := looks_mroIn X (by k_is)
  have tC : Looks (model prog w) h (typeOf (.ref 93)) (.type "type") := looks_typeIn X (by k_is)
  refine wpAny_call (codeAny_of_tree ?_)
  show wpAny _ _ (callAny (.ref mth) _) _ _ _
  refine nd_load hm ?_
  repeat ((fail_if_success (with_reducible show wpAny _ _ (checkBoundCall _ _) _ _ _)); lk)
  unfold checkBoundCall
  rw [ddm_sig, ddm_kind]
  repeat ((fail_if_success (with_reducible show wpAny _ _ (Bind.checkArgs _ _ _) _ _ _)); lk)
  rw [hqn]
  refine wpAny_of_eq (ddm_check x k t) ?_
  refine wpAny_pure ⟨Code.quiet_builtin _ (by decide +kernel), codeAny_builtin ddm_entry ?_⟩
  show wpAny _ _ (Builtin.«collections.defaultdict.__missing__» ⟨[.ref x, .int ((k : Nat) : Int) t], []⟩) _ _ _
  unfold Builtin.«collections.defaultdict.__missing__» Builtin.Collections_defaultdict.factory?
  repeat ((fail_if_success (with_reducible show wpAny _ _ (callOutOfASlot _ _) _ _ _)); lk)
  have bx : borrowsExactly (.type "list") = pure true := rfl
  unfold callOutOfASlot
  rw [bx]
  refine wpAny_bind (wpAny_pure ?_)
  rw [if_pos rfl]
  refine callBorrowed_of (list0 ?_)
  intro h1 c1 k1 hl1
  refine wpAny_pure ⟨Code.quiet_builtin _ (by decide +kernel), book_setdefault Xb (fun a o e => k1 _ _ (hb a o e)) (k1 _ _ hx) hn hz ?_⟩
  intro h2 tk2 s2 hx2
  have hne : x ≠ h.objs.size := Nat.ne_of_lt (Heap.lt_size hx)
  exact q _ _ _ c1 (fun a o n e => (s2.2 a (by simpa using n)).trans (k1 _ _ e)) (Heap.get?_none_of_le (Nat.le_refl _)) ((s2.2 _ (Ne.symm hne)).trans hl1) hx2
end
end
section
section
variable {M : Model} {A : Around} {c : Code} {E : Value → Shared → Prop} {s : Shared} {env : Env}
theorem at_spn {Q : List Value → Shared → Prop} (q : Q [] s) : PySem.wpAt M A c (spliced []) Q E s := PySem.wpAt_of_wpAny (spliced_nil q)
theorem at_spc {x : Sem Value} {rest : List (Bool × Sem Value)} {Q : List Value → Shared → Prop}
    (q : PySem.wpAt M A c x (fun v s₁ => PySem.wpAt M A c (spliced rest) (fun vs s₂ => Q (v :: vs) s₂) E s₁) E s) : PySem.wpAt M A c (spliced ((false, x) :: rest)) Q E s := by
  rw [spliced]
  refine PySem.wpAt_bind (ks_wpAt_mono q (fun v s₁ h₁ => ?_) fun _ _ x => x)
  simp only [Bool.false_eq_true, if_false]
  exact PySem.wpAt_bind (PySem.wpAt_of_wpAny (wpAny_pure (PySem.wpAt_bind (ks_wpAt_holding (ks_wpAt_mono h₁ (fun vs s₂ h₂ => PySem.wpAt_of_wpAny (wpAny_pure h₂)) fun _ _ x => x)))))
theorem at_bi {pos : Pos} {id : String} {x : Sem Value} {rest : List (Bool × Sem Value)} {Q : Value → Shared → Prop} (hplain : rest.any (·.1) = false)
    (q : PySem.wpAt M A c (spliced ((false, x) :: rest)) (fun vs s₁ => wpAny M A (call (.builtin id) vs) Q E s₁) E s) : PySem.wpAt M A c (callWith pos (.builtin id) [] ((false, x) :: rest) []) Q E s := by
  unfold callWith
  refine PySem.wpAt_bind (ks_wpAt_holding ?_)
  unfold evalArgs
  show PySem.wpAt M A c (spliced ((false, x) :: rest) >>= _) _ E s
  refine PySem.wpAt_bind (ks_wpAt_mono q (fun vs s₁ h₁ => ?_) fun _ _ x => x)
  refine ks_wpAt_holding (PySem.wpAt_of_wpAny (wpAny_bind (wpAny_pure (wpAny_bind (wpAny_pure (wpAny_pure ?_))))))
  refine PySem.wpAt_of_wpAny (wpAny_bind (wpAny_standAt ?_))
  have e : (((false, x) :: rest).any (·.1)) = false := by show (false || rest.any (·.1)) = false; rw [hplain]; rfl
  simp only [e, List.any_nil, Bool.or_false]
  refine wpAny_bind (wpAny_pure ?_)
  exact wpAny_bind (wpAny_mono h₁ (fun r s₂ hr => wpAny_bind (wpAny_holding (wpAny_point (wpAny_pure hr)))) fun _ _ x => x)
theorem at_call {fe : Expr} {args : List Expr} {pos : Pos} {Q : Value → Shared → Prop} (q : PySem.wpAt M A c (eval fe env) (fun f s₁ => PySem.wpAt M A c (callWith pos f [] (backTo pos (starEach args env)) []) Q E s₁) E s)
    (he : eval (.Call fe args [] pos) env = (do callWith pos (← eval fe env) [] (backTo pos (starEach args env)) (backToKw pos (keywordEach [] env)))) : PySem.wpAt M A c (eval (.Call fe args [] pos) env) Q E s := by
  rw [he]
  exact PySem.wpAt_bind q
theorem at_attr {value : Expr} {attr : Str} {pos : Pos} {Q : Value → Shared → Prop} (q : PySem.wpAt (M) A c (attributeBase value attr env (eval value env)) (fun o s₁ => wpAny M A (getAttr o attr true) (fun r s₂ => wpAny M A (letTemporaryGo value o r) (fun _ s₃ => Q r s₃) E s₂) E s₁) E s)
    (he : eval (.Attribute value attr pos) env = (do
      let o ← attributeBase value attr env (eval value env)
      standAt pos.atName
      let r ← holding [o] (getAttr o attr true)
      letTemporaryGo value o r
      pure r)) : PySem.wpAt M A c (eval (.Attribute value attr pos) env) Q E s := by
  rw [he]
  refine PySem.wpAt_bind (ks_wpAt_mono q (fun o s₁ h₁ => ?_) fun _ _ x => x)
  exact PySem.wpAt_of_wpAny (wpAny_bind (wpAny_standAt (wpAny_bind (wpAny_holding (wpAny_mono h₁ (fun r s₂ h₂ => wpAny_bind (wpAny_mono h₂ (fun _ _ h₃ => wpAny_pure h₃) fun _ _ x => x)) fun _ _ x => x)))))
end
/-- what super() asks of the program -/
structure SupOk (prog : Program) : Prop where
  file : ((prog.main.file : Str) == Str.ofString "/claim/cut.py") = true
  top : (prog.main.scope.names.lookup ("super" : Str)).isSome = false
theorem md_typ : typeOf (.builtin "collections.defaultdict.__missing__") = pure (.type "method_descriptor") := by kernel_rfl
theorem md_slot : Slot "method_descriptor" "__get__" "method_descriptor.__get__" := .of (owner := "method_descriptor") (n := "__get__") (by rw [typeLookup_type, builtinLookup_eq_fast]; kernel_rfl) (by decide +kernel) (by decide +kernel) (by decide +kernel)
  (by first | exact .inl (by decide +kernel) | exact .inr (by decide +kernel)) (by rw [isSubtype_type]; kernel_rfl)
theorem md_entry : entryFor table "method_descriptor.__get__" = some Builtin.«method_descriptor.__get__» := entryFor_of_tree (by kernel_rfl)
theorem md_args (a b c : Value) : argsOk "method_descriptor.__get__" ⟨[a, b, c], []⟩ := by unfold argsOk; kernel_rfl
theorem dict_no : builtinOwn "dict" "__missing__" = none := by decide +kernel
theorem dd_own : builtinOwn "collections.defaultdict" "__missing__" = some (.builtin "collections.defaultdict.__missing__") := by kernel_rfl
section
variable {prog : Program} {w : World} {A : Around} {h : Heap} {ge : Array GenState} {dr : Drawn} {tk : Nat} {os : OsState} {E : Value → Shared → Prop} {s : Shared} {Q : Value → Shared → Prop}
  {b : Heap} {x dx so : Addr} {es : Array DictEntry} {ep : Nat} {odx : Obj} {t : Tok} {k : Nat}
theorem sup_attr (Xb : (hd.heap_39 w.params).In b) (hb : b.StaysIn h) (T : nsIn (hd.heap_39 w.params) cStatics "thirdparty.any" = some none) (hxb : b.get? x = none) (hx : h.get? x = some (bookO dx es ep)) (hso : h.get? so = some (ks_superObj 93 x 93))
    (q : ∀ mth h' tk', (∀ a o, h.get? a = some o → h'.get? a = some o) → h.get? mth = none → h'.get? mth = some (mthO (.builtin "collections.defaultdict.__missing__") (.ref x)) → Q (.ref mth) ⟨h', ge, dr, tk', os⟩) :
    wpAny (model prog w) A (getAttr (.ref so) "__missing__" true) Q E ⟨h, ge, dr, tk, os⟩ := by
  have X : (Mine.hd.heap_39 w.params).In h := Xb.keeps hb
  have hlk := F.ks_slot_super_ga.lookup
  have hno : Looks (model prog w) h (opaqueClassAbove (.ref 93)) none := looks_opaque X T
  have hC := fd_mro (M := model prog w) X
  have t1 : Looks (model prog w) h (typeOf (.ref x)) (.ref 93) := (Looks.ld hx).andThen .now
  have sX := fd_subX (M := model prog w) X
  have hT : ∀ t', (⟨h, ge, dr, t', os⟩ : Shared).TypeIs (.ref so) "super" := fun _ => ⟨_, hso, rfl⟩
  have hne : (Value.ref x == Value.ref 93) = false := by
    have : x ≠ 93 := by
      rintro rfl
      obtain ⟨_, _, _, _, hC, _⟩ := fd_obj Xb
      rw [hxb] at hC; cases hC
    simp [this]
  unfold getAttr getAttrBy
  refine wpAny_bind (wpAny_mkText (wpAny_holding (wpAny_bind (wpAny_typeOf (hT _) (wpAny_bind (wpAny_of_eq hlk ?_))))))
  show wpAny _ _ (getAttrByItsOwn (.ref so) (.str "__missing__" tk) (.type "super") (.builtin "super.__getattribute__") true true) _ _ _
  unfold getAttrByItsOwn hookBefore callGetattribute boundAndCalled
  refine wpAny_bind (wpAny_of_eq (show (if onTheHeap (.type "super") then typeLookup (.type "super") "__getattr__" else pure none) = pure none from rfl) ?_)
  refine wpAny_bind (wpAny_attempt (wpAny_holding ?_))
  show wpAny _ _ (bindSpecial (.builtin "super.__getattribute__") (.ref so) >>= _) _ _ _
  refine wpAny_bind (wpAny_of_eq (F.ks_slot_super_ga.bind _) ?_)
  refine wpAny_call_entry F.ks_slot_super_ga (hT _) F.ks_entry_super_ga ?_ (F.ks_gaArgs_super _ _)
  have hdt : (ks_superObj 93 x 93 : Obj).data = .fields #[.ref 93, .ref x, .ref 93] := rfl
  have f0 : (#[.ref 93, .ref x, .ref 93] : Array Value)[0]? = some (.ref 93) := rfl
  have f1 : (#[.ref 93, .ref x, .ref 93] : Array Value)[1]? = some (.ref x) := rfl
  have f2 : (#[.ref 93, .ref x, .ref 93] : Array Value)[2]? = some (.ref 93) := rfl
  unfold Builtin.«super.__getattribute__»
  have c1 : Looks (model prog w) h (classOwn (.type "collections.defaultdict") "__missing__") (some (.builtin "collections.defaultdict.__missing__")) := Looks.of_pure (by show pure (builtinOwn _ _) = _; rw [dd_own])
  have c2 : Looks (model prog w) h (typeOf (.builtin "collections.defaultdict.__missing__")) (.type "method_descriptor") := Looks.of_pure md_typ
  have c3 : Looks (model prog w) h (typeLookup (.type "method_descriptor") "__get__") (some (.builtin "method_descriptor.__get__")) := Looks.of_pure md_slot.lookup
  have dw : ([Value.ref 93, .type "collections.defaultdict", .type "dict", .type "object"].dropWhile (fun x => x != Value.ref 93)).drop 1 = [.type "collections.defaultdict", .type "dict", .type "object"] := by decide +kernel
  repeat (first
    | (with_reducible refine wpAny_field hso hdt f0 ?_) | (with_reducible refine wpAny_field hso hdt f1 ?_) | (with_reducible refine wpAny_field hso hdt f2 ?_)
    | (with_reducible refine ks_wpAny_notOpaque hno ?_)
    | (with_reducible refine Looks.at hC ?_; rw [dw])
    | (with_reducible refine Looks.at c1 ?_) | (with_reducible refine Looks.at c2 ?_) | (with_reducible refine Looks.at c3 ?_)
    | (simp only [hne, Bool.false_eq_true, if_false]; with_reducible refine wpAny_call_entry md_slot md_typ md_entry ?_ (md_args _ _ _))
    | wp_step
    | dsimp only)
  rw [hne]
  refine codeAny_call_builtin md_slot.plain md_entry (md_slot.check _ _ _ _ _ _ _ _ md_typ (md_args _ _ _) ?_)
  unfold Builtin.«method_descriptor.__get__»
  have inX : Looks (model prog w) h (isInstance (.ref x) (.type "collections.defaultdict")) true := t1.andThen sX
  repeat (first | (with_reducible refine wpAny_newObj_type ?_ (by size_fits)) | lk)
  exact ⟨_, rfl, wpAny_pure (q _ _ _ (fun a o e => Heap.get?_push_of_some _ e) (Heap.get?_none_of_le (Nat.le_refl _)) (Heap.get?_push_size _ rfl))⟩
end
end
section
section
variable {prog : Program} {w : World} {A : Around} {E : Value → Shared → Prop} {p : Program} {loose : List Str} {mean : ExcName → Option Value} {mg mb : Str → Option Value} {b h : Heap} {ge : Array GenState} {dr : Drawn} {tk : Nat} {os : OsState}
  {name qual : Str} {params : Arguments} {body : List Stmt} {scope : Scope} {dV kV doc pm cdv ct oc : Value} {an od : Option Addr} {osl : Array (Option Value)} {f cc : Addr} {vals : List Value} {binds : List (Str × Value)} {news : List (Addr × Obj)} {Q : Value → Shared → Prop}
/-- a def of a class is called whose code names the class -/
theorem mk_enterAt (B : Base w p loose mean mg mb b) (hb : b.StaysIn h) (N : ∀ q ∈ news, h.get? q.1 = some q.2 ∧ b.get? q.1 = none ∧ ∀ vs, q.2 ≠ tupO vs)
    (ho : (hd.heap_39 w.params).lookup f = some ⟨oc, od, .func (ksFn name qual params body scope dV kV doc pm an cdv ct cc), osl⟩) (hcd : codeIn (hd.heap_39 w.params) cdv qual = true) (hroom : A.depth < recursionLimit)
    (hbind : ∀ s, BindsTo s (ksFn name qual params body scope dV kV doc pm an cdv ct cc) ⟨vals, []⟩ binds) (hloc : ∀ y ∈ binds, scope.names.lookup y.1 = some .local)
    (q : ∀ g L h₁ tk', FB w p loose mean mg mb g L h₁ (fun y => binds.reverse.lookup y) news → Ch (news.map (·.1)) h g → TK h g → b.StaysIn g →
      PySem.wpAt (model prog w) (A.deeper (ksEnv qual scope L f cdv cc)) (.func body (ksEnv qual scope L f cdv cc)) (execs body (ksEnv qual scope L f cdv cc))
        (fun fl s' => Q (match fl with | .ret v => v | _ => .none) s') (fun _ _ => False) ⟨h₁, ge, dr, tk', os⟩)
    (hco : scope.isCoroutine = false) (hgen : scope.isGenerator = false) (hk : scope.kind = .function)
    (hcell : ∀ x ∈ scope.names, x.2 ≠ .cell) : wpAny (model prog w) A (call (.ref f) vals) Q E ⟨h, ge, dr, tk, os⟩ := by
  have BH := B.keeps hb
  obtain ⟨st, Bg, tg⟩ := hide_base B hb N
  refine wpAny_call (ks_codeAny_call_defAt (fd := ksFn name qual params body scope dV kV doc pm an cdv ct cc) (body := body) (binds := binds) hroom (BH.X _ _ ho) rfl BH.T.nolimit (codeRec_of BH.X hcd) rfl (hbind _) hcell hloc (fun h₁ hns hk₁ => ?_) hco hgen hk)
  refine ks_wpAt_mono (q (hideAll h (news.map (·.1))) h.objs.size h₁ _ ⟨hns, fun a o e => hk₁ a o (of_hideAll _ e), ?_, fun q hq => ⟨hk₁ _ _ (N q hq).1, Nat.ne_of_lt (Heap.lt_size (N q hq).1), hideAll_none _ (List.mem_map_of_mem hq)⟩, Bg⟩ (fun a o ha e => hideAll_get _ e ha) tg st) (fun _ _ x => x) fun _ _ x => x.elim
  cases e : (hideAll h (news.map (·.1))).get? h.objs.size with
  | none => rfl
  | some o => exact absurd (Heap.lt_size (of_hideAll _ e)) (Nat.lt_irrefl _)
end
section
variable {prog : Program} {w : World} {A : Around} {E : Value → Shared → Prop} {p : Program} {loose : List Str} {mean : ExcName → Option Value} {mg mb : Str → Option Value} {b h : Heap} {ge : Array GenState} {dr : Drawn} {tk : Nat} {os : OsState}
  {x dx : Addr} {ents : Ents} {ep : Nat} {odx : Obj} {t : Tok} {k : Nat} {Q : Value → Shared → Prop}
local macro_rules | `(tactic| walk_at "m1") => `(tactic| first
  | (with_reducible refine seq_next ?_)
  | ((with_reducible refine' mw_local ?f ?v ?_ ?l ?k ?d); (case l => rfl); (case k => rfl); (case f => assumption); (case d => decide); (case v => first | rfl | assumption))
  | (with_reducible refine mw_cons ?_)
  | (with_reducible refine mw_nil ?_)
  | ((with_reducible refine' mw_asg ?_ ?s); (case s => rfl))
  | ((with_reducible refine' mw_st ?f ?_ ?l ?k); (case l => rfl); (case k => rfl); (case f => assumption); intro _ _ _)
  | ((with_reducible refine' mw_glob ?f ?e ?_ ?l ?k ?d ?g); (case l => rfl); (case k => rfl); (case f => assumption); (case e => k_is); (case d => decide); (case g => rfl))
  | ((with_reducible refine' mw_built ?f ?e ?v ?_ ?l ?k ?d ?g ?b ?n); (case l => rfl); (case k => rfl); (case f => assumption); (case e => k_is); (case v => boot_by_name); (case d => decide); (case g => rfl); (case b => rfl); (case n => decide))
  | ((with_reducible refine' mw_cell ?f ?c ?m ?_ ?l ?k ?d); (case l => rfl); (case k => rfl); (case f => assumption); (case c => rfl); (case m => k_mem); (case d => decide))
  | ((with_reducible refine' mw_free ?f ?c ?m ?_ ?l ?k ?d ?n); (case l => rfl); (case k => rfl); (case f => assumption); (case c => rfl); (case m => k_mem); (case d => decide); (case n => decide))
  | ((with_reducible refine mw_int ?_); intro _ _)
  | (with_reducible refine mw_bin ?_)
  | ((with_reducible refine mo_add ?_); intro _ _)
  | ((with_reducible refine mo_sub ?_); intro _ _)
  | ((with_reducible refine mo_iadd ?_); intro _ _)
  | ((with_reducible refine' mw_expr ?_ ?a ?b); (case a => rfl); (case b => rfl))
  | ((with_reducible refine' mw_call ?_ ?a); (case a => rfl))
  | (with_reducible refine mw_spn ?_)
  | ((with_reducible refine' mw_spc ?_ ?a); (case a => rfl))
  | ((with_reducible refine' mk_in ?f ?_); (case f => assumption))
  | ((with_reducible refine' mk_bi ?_ ?a ?b); (case a => rfl); (case b => rfl))
  | ((with_reducible refine' mk_def ?f ?k ?_ ?a ?b); (case f => assumption); (case k => k_is); (case a => rfl); (case b => rfl))
  | (with_reducible refine mw_if ?_)
  | ((with_reducible refine' mt_cmp ?_ ?a); (case a => rfl))
  | (with_reducible refine mt_bool ?_)
  | (with_reducible refine mc_lt ?_)
  | (with_reducible refine mc_gt ?_)
  | (with_reducible refine mc_eq ?_)
  | (with_reducible refine mc_ne ?_)
  | (with_reducible refine mc_le ?_)
  | (with_reducible refine mc_ge ?_)
  | (with_reducible refine mw_sub ?_)
  | ((with_reducible refine' mw_asgS ?_ ?s); (case s => rfl))
  | (with_reducible refine mw_ret ?_)
  | (with_reducible refine seq_ret ?_)
  | (with_reducible refine seq_brk ?_)
  | (with_reducible refine seq_cont ?_)
  | (with_reducible refine mw_brk ?_)
  | (with_reducible refine mw_cont ?_)
  | (with_reducible refine mt_and ?_)
  | (with_reducible refine mt_and0 ?_)
  | (with_reducible refine mt_or ?_)
  | (with_reducible refine mt_or0 ?_)
  | (with_reducible refine mt_not ?_)
  | (with_reducible refine mt_name ?_)
  | (with_reducible refine mt_call ?_)
  | (with_reducible refine mw_tuple ?_)
  | (with_reducible refine mw_list ?_)
  | ((with_reducible refine' mw_cmp ?_ ?a); (case a => rfl))
  | (with_reducible refine mw_un ?_)
  | ((with_reducible refine mo_neg ?_); intro _ _)
  | (with_reducible refine mo_not ?_)
  | (with_reducible refine mw_ifexp ?_)
  | (with_reducible refine mw_and ?_)
  | (with_reducible refine mw_or ?_)
  | (with_reducible refine mw_bone ?_)
  | (with_reducible refine mw_bool ?_)
  | ((with_reducible refine' ml_len ?f ?m ?z ?_); (case f => assumption); (case m => k_mem); (case z => (rw [sizeLine_eq]; omega)); intro _ _)
  | ((with_reducible refine' mo_shr1 ?z ?_); (case z => omega); intro _ _)
  | ((with_reducible refine' mk_meth ?_ ?a); (case a => rfl))
  | (with_reducible refine mk_m0 ?_)
  | ((with_reducible refine' mk_m1 ?_ ?a ?b); (case a => rfl); (case b => rfl))
  | ((with_reducible refine mw_aug ?_))
  | ((with_reducible refine' mw_ldl ?f ?v ?_ ?l ?k); (case l => rfl); (case k => rfl); (case f => assumption); (case v => first | rfl | assumption))
  | ((with_reducible refine' mw_ldc ?f ?c ?m ?_ ?l ?k); (case l => rfl); (case k => rfl); (case f => assumption); (case c => rfl); (case m => k_mem))
  | ((with_reducible refine' mw_stc ?f ?c ?u ?_ ?l ?k); (case l => rfl); (case k => rfl); (case f => assumption); (case c => rfl); (case u => k_upd); intro _ _))
local macro_rules | `(tactic| walk_at "go") => `(tactic| repeat' walk_at "m1")
local macro_rules | `(tactic| walk_at "goI") => `(tactic| repeat' ((fail_if_success (with_reducible show wpAny _ _ (exec (Stmt.If _ _ _ _) _) _ _ _)); walk_at "m1"))

theorem book_ne (dx : Addr) (es : Array DictEntry) (ep : Nat) : ∀ vs, bookO dx es ep ≠ tupO vs := ne_tup (by show (Value.ref 93 == Value.type "tuple") = false; decide +kernel)
theorem callWith_mth {M : Model} {A : Around} {E : Value → Shared → Prop} {s : Shared} {pos : Pos} {a : Addr} {f y : Value} {e : Expr} {rest : List Expr} {env : Env} {Q : Value → Shared → Prop}
    (q : wpAny M A (spliced (backTo pos (starEach (e :: rest) env))) (fun vs s₁ => s₁.heap.get? a = some (mthO f y) ∧ wpAny M A (call (.ref a) vs) Q E s₁) E s)
    (he : starEach (e :: rest) env = (false, eval e env) :: starEach rest env) (hp : (backTo pos (starEach rest env)).any (·.1) = false) :
    wpAny M A (callWith pos (.ref a) [] (backTo pos (starEach (e :: rest) env)) []) Q E s := by
  rw [he] at q ⊢
  unfold callWith
  refine wpAny_bind (wpAny_holding (evalArgs_plain (wpAny_mono q (fun vs s₁ h₁ => wpAny_bind (wpAny_standAt ?_)) fun _ _ x => x)))
  have hs : (backTo pos ((false, eval e env) :: starEach rest env)).any (·.1) = false := by show (false || (backTo pos (starEach rest env)).any (·.1)) = false; rw [hp]; rfl
  simp only [hs, List.any_nil, Bool.or_false]
  refine wpAny_bind (m := keeperOf (.ref a)) ?_
  unfold keeperOf
  refine wpAny_bind (wpAny_load h₁.1 ?_)
  dsimp only
  rw [if_pos (by decide +kernel)]
  refine wpAny_pure ?_
  rw [if_pos (by decide +kernel)]
  exact wpAny_bind (wpAny_mono h₁.2 (fun r s₂ hr => wpAny_bind (wpAny_holding (wpAny_point (wpAny_pure hr)))) fun _ _ x => x)
theorem at_spcE {M : Model} {A : Around} {c : Code} {E : Value → Shared → Prop} {s : Shared} {env : Env} {pos : Pos} {e : Expr} {rest : List Expr} {Q : List Value → Shared → Prop}
    (q : PySem.wpAt M A c (eval e env) (fun v s₁ => PySem.wpAt M A c (spliced (backTo pos (starEach rest env))) (fun vs s₂ => Q (v :: vs) s₂) E s₁) E s)
    (he : starEach (e :: rest) env = (false, eval e env) :: starEach rest env) : PySem.wpAt M A c (spliced (backTo pos (starEach (e :: rest) env))) Q E s := by
  rw [he]; exact at_spc q
theorem at_spnE {M : Model} {A : Around} {c : Code} {E : Value → Shared → Prop} {s : Shared} {env : Env} {pos : Pos} {Q : List Value → Shared → Prop} (q : Q [] s) : PySem.wpAt M A c (spliced (backTo pos (starEach [] env))) Q E s := at_spn q
theorem at_biE {M : Model} {A : Around} {c : Code} {E : Value → Shared → Prop} {s : Shared} {env : Env} {pos : Pos} {id : String} {e : Expr} {rest : List Expr} {Q : Value → Shared → Prop}
    (q : PySem.wpAt M A c (spliced (backTo pos (starEach (e :: rest) env))) (fun vs s₁ => wpAny M A (call (.builtin id) vs) Q E s₁) E s)
    (he : starEach (e :: rest) env = (false, eval e env) :: starEach rest env) (hp : (backTo pos (starEach rest env)).any (·.1) = false) : PySem.wpAt M A c (callWith pos (.builtin id) [] (backTo pos (starEach (e :: rest) env)) []) Q E s := by
  rw [he] at q ⊢; exact at_bi hp q
theorem FB.more {w : World} {p : Program} {loose : List Str} {mean : ExcName → Option Value} {mg mb : Str → Option Value} {g h h' : Heap} {L l : Addr} {m : Str → Option Value} {news : List (Addr × Obj)} {o : Obj}
    (f : FB w p loose mean mg mb g L h m news) (k : ∀ a o, h.get? a = some o → h'.get? a = some o) (hn : h.get? l = none) (ho : h'.get? l = some o) : FB w p loose mean mg mb g L h' m ((l, o) :: news) := by
  refine (f.all k).cons ho ?_ ?_
  · obtain ⟨oL, _, _, hL, _⟩ := f.ns
    rintro rfl; rw [hn] at hL; cases hL
  · cases e : g.get? l with
    | none => rfl
    | some o => rw [f.keep _ _ e] at hn; cases hn
theorem mw_ldb {prog : Program} {w : World} {A : Around} {E : Value → Shared → Prop} {p : Program} {loose : List Str} {mean : ExcName → Option Value} {mg mb : Str → Option Value} {g h : Heap} {L : Addr} {m : Str → Option Value} {news : List (Addr × Obj)} {ge : Array GenState} {dr : Drawn} {tk : Nat} {os : OsState} {x : Str} {v : Value} {env : Env} {Q : Value → Shared → Prop}
    (f : FB w p loose mean mg mb g L h m news) (e : nsIn (hd.heap_39 w.params) mainGlobals x = some none) (hv : bootBuiltins x = some v) (q : Q v ⟨h, ge, dr, tk, os⟩) (hl : env.kindOf x = some .globalImplicit) (hk : env.scope.kind = .function)
    (hg : env.globals = mainGlobals) (hb : env.builtins = builtinsNs) (hn : x ≠ "__name__") : wpAny (model prog w) A (loadName env x) Q E ⟨h, ge, dr, tk, os⟩ :=
  ks_loadName_global hk hl (loadGlobal_builtin (env := env) (hg ▸ f.B.T.g.keeps f.keep) (mg_none_of f.B.X f.B.T.g e) (hb ▸ f.B.T.b.keeps f.keep) ((f.B.T.builtins x hn).trans hv) q)
theorem sup_node {prog : Program} {w : World} {A : Around} {E : Value → Shared → Prop} {p : Program} {loose : List Str} {mean : ExcName → Option Value} {mg mb : Str → Option Value} {g h : Heap} {L x dx : Addr} {es : Array DictEntry} {ep : Nat} {m : Str → Option Value} {news : List (Addr × Obj)} {ge : Array GenState} {dr : Drawn} {tk : Nat} {os : OsState} {Q : Value → Shared → Prop}
    {body : List Stmt} {qn : Str} {scope : Scope} {p0 p1 : Pos} {attr : Str} {whole : Sem Value} {fd : FuncData} {ar : Arg} {vs : Array Value} {tf : Tok} {oc ccl cl : Value} {od cdd cld : Option Addr} {osl ccs csl : Array (Option Value)} {f cda : Addr}
    (S : SupOk prog) (fb : FB w p loose mean mg mb g L h m news) (hx : h.get? x = some (bookO dx es ep)) (hf : (hd.heap_39 w.params).lookup f = some ⟨oc, od, .func fd, osl⟩) (hcode : (hd.heap_39 w.params).lookup cda = some ⟨ccl, cdd, .fields vs, ccs⟩)
    (hcell : (hd.heap_39 w.params).lookup 71 = some ⟨cl, cld, .cell (some (.ref 93)), csl⟩)
    (hp : (fd.params.posonlyargs ++ fd.params.args).head? = some ar) (hvs : vs[2]? = some (.str (Str.ofString "/claim/cut.py") tf)) (hv : m ar.arg = some (.ref x)) (hsup : nsIn (hd.heap_39 w.params) mainGlobals "super" = some none) (hboot : bootBuiltins "super" = some (.type "super"))
    (hat : (attr == ("__class__" : Str)) = false) (hks : scope.names.lookup ("super" : Str) = some .globalImplicit) (hkc : scope.names.lookup ("__class__" : Str) = some .free) (hka : scope.names.lookup ar.arg = some .local) (hk : scope.kind = .function)
    (q : ∀ so h2, FB w p loose mean mg mb g L h2 m ((so, ks_superObj 93 x 93) :: news) → (∀ a o, h.get? a = some o → h2.get? a = some o) → Q (.ref so) ⟨h2, ge, dr, tk, os⟩) :
    PySem.wpAt (model prog w) A (.func body (ksEnv qn scope L f (.ref cda) 71)) (attributeBase (.Call (.Name "super" p0) [] [] p1) attr (ksEnv qn scope L f (.ref cda) 71) whole) Q E ⟨h, ge, dr, tk, os⟩ := by
  have XH : (Mine.hd.heap_39 w.params).In h := fb.B.X.keeps fb.keep
  obtain ⟨_, _, cd, _, hC, hmro, _⟩ := fd_obj XH
  refine ks_wpAt_super_base (env := ksEnv qn scope L f (.ref cda) 71) hks hkc hat rfl (XH _ _ hf) rfl hp rfl (XH _ _ hcode) rfl hvs S.file S.top ?_
  refine mw_ldb fb hsup hboot ?_ hks hk rfl rfl (by decide)
  refine ⟨rfl, ?_⟩
  refine wpAny_loadName_free hk hkc rfl ⟨_, XH _ _ hcell, rfl⟩ ?_
  refine wpAny_loadName_local hk hka fb.ns hv ?_
  refine ks_wpAny_isType_cls hC rfl ⟨rfl, ?_⟩
  refine ks_wpAny_call_super hC rfl hx rfl (fun c e => by cases e) (fd_self XH) fun h2 hso k2 => ?_
  exact q _ _ (fb.more (l := h.objs.size) (o := ks_superObj 93 x 93) k2 (Heap.get?_none_of_le (Nat.le_refl _)) hso) k2
/-- `__missing__` of a book that isn't frozen -/
theorem missing_spec (S : SupOk prog) (B : Base w p loose mean mg mb b) (hb : b.StaysIn h) (hxb : b.get? x = none) (hx : h.get? x = some (bookO dx (bookEs ents) ep)) (hdb : b.get? dx = some emptyDict)
    (hn : entAt ents k = none) (hz : ents.length ≤ 1000000)
    (hd : A.depth + 2 < recursionLimit) (hu : A.units + 40 < cLine) (hh : A.handled = none)
    (q : ∀ l h' tk' c, Ch [x] h h' → h.get? l = none → h'.get? l = some (listOf #[] c) → h'.get? x = some (bookO dx (bookEs (ents ++ [(k, t, l)])) (ep + 1)) → Q (.ref l) ⟨h', ge, dr, tk', os⟩) :
    wpAny (model prog w) A (call (.ref 83) [.ref x, .int ((k : Nat) : Int) t]) Q E ⟨h, ge, dr, tk, os⟩ := by
  have BX := B.X
  refine' mk_enterAt (news := [(x, bookO dx (bookEs ents) ep)]) (binds := [("self", .ref x), ("key", .int ((k : Nat) : Int) t)]) B hb ?k0 ?k6 ?k7 (by omega) ?k9 ?kB ?_ ?c2 ?c3 ?c4 ?c5
  case k0 =>
    intro q hq; rw [List.mem_singleton] at hq; subst hq
    exact ⟨hx, hxb, book_ne _ _ _⟩
  case k6 => k_is
  case k7 => k_is
  case k9 => exact fun _ => BindsTo.of_eq rfl
  case kB => exact locs rfl
  case c2 => exact rfl
  case c3 => exact rfl
  case c4 => exact rfl
  case c5 => decide
  intro g L h₁ tk₁ fb hg tg hbg
  clear BX
  have X := fb.B.X
  have hgx : g.get? x = none := fb.new_ (.head _)
  refine ks_wpAt_execs_cons (ks_wpAt_Return_some (at_call ?_ rfl))
  refine at_call ?_ rfl
  refine PySem.wpAt_of_wpAny ?_
  refine' mw_built fb ?e ?v ?_ ?l ?k ?d ?g ?b ?n
  case l => rfl
  case k => rfl
  case e => k_is
  case v => boot_by_name
  case d => decide
  case g => rfl
  case b => rfl
  case n => decide
  refine at_biE ?_ rfl rfl
  refine at_spcE (PySem.wpAt_of_wpAny ?_) rfl
  refine' mw_local fb ?v ?_ ?l ?k ?d
  case l => rfl
  case k => rfl
  case d => decide
  case v => rfl
  refine at_spcE (PySem.wpAt_of_wpAny ?_) rfl
  refine wpAny_Constant_str ?_
  refine at_spcE (at_attr ?_ rfl) rfl
  have hx1 : h₁.get? x = some (bookO dx (bookEs ents) ep) := fb.at_ (.head _)
  refine' sup_node S fb hx1 ?hf ?hcc ?hcl ?hp ?hvs ?hv ?hsup ?hboot ?hat ?hks ?hkc ?hka ?hk ?_
  case hf => k_is
  case hcc => k_is
  case hcl => k_is
  case hsup => k_is
  case hboot => boot_by_name
  case hat => decide +kernel
  all_goals try rfl
  intro so h2 f2 k2
  have g2 : g.StaysIn h2 := fun a o e => k2 _ _ (fb.keep a o e)
  have no : nsIn (Mine.hd.heap_39 w.params) cStatics "thirdparty.any" = some none := by k_is
  refine sup_attr fb.B.X g2 no hgx (k2 _ _ hx1) (f2.at_ (.head _)) ?_
  intro mth h3 tk3 k3 hmn hm
  have f3 := (f2.sub (news' := [(x, bookO dx (bookEs ents) ep)]) (fun q hq => .tail _ hq)).more k3 hmn hm
  refine wpAny_letTemporaryGo (at_spnE ?_)
  have hdg : g.get? dx = some emptyDict := hbg _ _ hdb
  refine fd_getattr fb.B.X f3.keep (f3.at_ (.tail _ (.head _))) (f3.keep _ _ hdg) ?_
  refine fd_frozen_none fb.B.X f3.keep (f3.at_ (.tail _ (.head _))) (f3.keep _ _ hdg) ?hh ?_
  case hh => exact hh
  intro h4 tk4 k4
  have f4 := f3.all k4
  refine PySem.wpAt_of_wpAny (callWith_mth (f := .builtin "collections.defaultdict.__missing__") (y := .ref x) ?_ rfl rfl)
  walk_at "go"
  refine ⟨f4.at_ (.head _), ?_⟩
  refine dd_missing fb.B.X f4.keep hgx (f4.at_ (.tail _ (.head _))) (f4.at_ (.head _)) hn hz ?_
  intro l h5 tk5 c5 C5 ln hl hx5
  have f5 := (f4.sub (news' := [(x, bookO dx (bookEs ents) ep)]) (fun q hq => .tail _ hq)).ch C5 (o' := bookO dx (bookEs (ents ++ [(k, t, l)])) (ep + 1)) (by k_upd) hx5
  refine q l h5 tk5 c5 (ch_of (by simpa using hg) f5) ?_ hl hx5
  cases e : h.get? l with
  | none => rfl
  | some o =>
    by_cases e1 : l = x
    · subst e1; rw [f4.at_ (.tail _ (.head _))] at ln; cases ln
    · rw [f4.keep _ _ (hg _ _ (by simpa using e1) e)] at ln; cases ln
end
end
section
section
variable {prog : Program} {w : World} {A : Around} {E : Value → Shared → Prop} {p : Program} {loose : List Str} {mean : ExcName → Option Value} {mg mb : Str → Option Value} {b h : Heap} {ge : Array GenState} {dr : Drawn} {tk : Nat} {os : OsState}
  {x dx : Addr} {es : Array DictEntry} {ep : Nat} {t : Tok} {k : Nat} {Q : Value → Shared → Prop}
local macro_rules | `(tactic| walk_at "m1") => `(tactic| first
  | (with_reducible refine seq_next ?_)
  | ((with_reducible refine' mw_local ?f ?v ?_ ?l ?k ?d); (case l => rfl); (case k => rfl); (case f => assumption); (case d => decide); (case v => first | rfl | assumption))
  | (with_reducible refine mw_cons ?_)
  | (with_reducible refine mw_nil ?_)
  | ((with_reducible refine' mw_asg ?_ ?s); (case s => rfl))
  | ((with_reducible refine' mw_st ?f ?_ ?l ?k); (case l => rfl); (case k => rfl); (case f => assumption); intro _ _ _)
  | ((with_reducible refine' mw_glob ?f ?e ?_ ?l ?k ?d ?g); (case l => rfl); (case k => rfl); (case f => assumption); (case e => k_is); (case d => decide); (case g => rfl))
  | ((with_reducible refine' mw_built ?f ?e ?v ?_ ?l ?k ?d ?g ?b ?n); (case l => rfl); (case k => rfl); (case f => assumption); (case e => k_is); (case v => boot_by_name); (case d => decide); (case g => rfl); (case b => rfl); (case n => decide))
  | ((with_reducible refine' mw_cell ?f ?c ?m ?_ ?l ?k ?d); (case l => rfl); (case k => rfl); (case f => assumption); (case c => rfl); (case m => k_mem); (case d => decide))
  | ((with_reducible refine' mw_free ?f ?c ?m ?_ ?l ?k ?d ?n); (case l => rfl); (case k => rfl); (case f => assumption); (case c => rfl); (case m => k_mem); (case d => decide); (case n => decide))
  | ((with_reducible refine mw_int ?_); intro _ _)
  | (with_reducible refine mw_bin ?_)
  | ((with_reducible refine mo_add ?_); intro _ _)
  | ((with_reducible refine mo_sub ?_); intro _ _)
  | ((with_reducible refine mo_iadd ?_); intro _ _)
  | ((with_reducible refine' mw_expr ?_ ?a ?b); (case a => rfl); (case b => rfl))
  | ((with_reducible refine' mw_call ?_ ?a); (case a => rfl))
  | (with_reducible refine mw_spn ?_)
  | ((with_reducible refine' mw_spc ?_ ?a); (case a => rfl))
  | ((with_reducible refine' mk_in ?f ?_); (case f => assumption))
  | ((with_reducible refine' mk_bi ?_ ?a ?b); (case a => rfl); (case b => rfl))
  | ((with_reducible refine' mk_def ?f ?k ?_ ?a ?b); (case f => assumption); (case k => k_is); (case a => rfl); (case b => rfl))
  | (with_reducible refine mw_if ?_)
  | ((with_reducible refine' mt_cmp ?_ ?a); (case a => rfl))
  | (with_reducible refine mt_bool ?_)
  | (with_reducible refine mc_lt ?_)
  | (with_reducible refine mc_gt ?_)
  | (with_reducible refine mc_eq ?_)
  | (with_reducible refine mc_ne ?_)
  | (with_reducible refine mc_le ?_)
  | (with_reducible refine mc_ge ?_)
  | (with_reducible refine mw_sub ?_)
  | ((with_reducible refine' mw_asgS ?_ ?s); (case s => rfl))
  | (with_reducible refine mw_ret ?_)
  | (with_reducible refine seq_ret ?_)
  | (with_reducible refine seq_brk ?_)
  | (with_reducible refine seq_cont ?_)
  | (with_reducible refine mw_brk ?_)
  | (with_reducible refine mw_cont ?_)
  | (with_reducible refine mt_and ?_)
  | (with_reducible refine mt_and0 ?_)
  | (with_reducible refine mt_or ?_)
  | (with_reducible refine mt_or0 ?_)
  | (with_reducible refine mt_not ?_)
  | (with_reducible refine mt_name ?_)
  | (with_reducible refine mt_call ?_)
  | (with_reducible refine mw_tuple ?_)
  | (with_reducible refine mw_list ?_)
  | ((with_reducible refine' mw_cmp ?_ ?a); (case a => rfl))
  | (with_reducible refine mw_un ?_)
  | ((with_reducible refine mo_neg ?_); intro _ _)
  | (with_reducible refine mo_not ?_)
  | (with_reducible refine mw_ifexp ?_)
  | (with_reducible refine mw_and ?_)
  | (with_reducible refine mw_or ?_)
  | (with_reducible refine mw_bone ?_)
  | (with_reducible refine mw_bool ?_)
  | ((with_reducible refine' ml_len ?f ?m ?z ?_); (case f => assumption); (case m => k_mem); (case z => (rw [sizeLine_eq]; omega)); intro _ _)
  | ((with_reducible refine' mo_shr1 ?z ?_); (case z => omega); intro _ _)
  | ((with_reducible refine' mk_meth ?_ ?a); (case a => rfl))
  | (with_reducible refine mk_m0 ?_)
  | ((with_reducible refine' mk_m1 ?_ ?a ?b); (case a => rfl); (case b => rfl))
  | ((with_reducible refine mw_aug ?_))
  | ((with_reducible refine' mw_ldl ?f ?v ?_ ?l ?k); (case l => rfl); (case k => rfl); (case f => assumption); (case v => first | rfl | assumption))
  | ((with_reducible refine' mw_ldc ?f ?c ?m ?_ ?l ?k); (case l => rfl); (case k => rfl); (case f => assumption); (case c => rfl); (case m => k_mem))
  | ((with_reducible refine' mw_stc ?f ?c ?u ?_ ?l ?k); (case l => rfl); (case k => rfl); (case f => assumption); (case c => rfl); (case u => k_upd); intro _ _))
local macro_rules | `(tactic| walk_at "go") => `(tactic| repeat' walk_at "m1")
local macro_rules | `(tactic| walk_at "goI") => `(tactic| repeat' ((fail_if_success (with_reducible show wpAny _ _ (exec (Stmt.If _ _ _ _) _) _ _ _)); walk_at "m1"))

theorem tab_ne (ps : Array Value) : ∀ vs, tabObj ps ≠ tupO vs := fun vs e => by cases e
theorem dict_ne (es : Array DictEntry) (ep : Nat) : ∀ vs, ({ cls := .type "dict", data := .dict es ep } : Obj) ≠ tupO vs := ne_tup (by show (Value.type "dict" == Value.type "tuple") = false; decide +kernel)
theorem FB.apart {g h : Heap} {L a c : Addr} {m : Str → Option Value} {news : List (Addr × Obj)} {o o' : Obj} (f : FB w p loose mean mg mb g L h m news) (h1 : (a, o) ∈ news) (h2 : (c, o') ∈ news) (hne : o.data ≠ o'.data) : a ≠ c := by
  rintro rfl
  have z := (f.N _ h1).1
  have z2 := (f.N _ h2).1
  dsimp only at z z2
  rw [z] at z2
  exact hne (congrArg Obj.data (Option.some.inj z2))
theorem wpAny_of_at {α : Type} {M : Model} {A : Around} {t : Sem α} {Q : α → Shared → Prop} {E : Value → Shared → Prop} {s : Shared} (h : ∀ c, PySem.wpAt M A c t Q E s) : wpAny M A t Q E s := fun Γ p hΓ => h Γ.code Γ p rfl hΓ
theorem codeHd_of {K : Frag} {h : Heap} (X : K.In h) {c P : Addr} {od : Option Addr} {vs : Array Value} {sl : Array (Option Value)} (e : K.lookup c = some ⟨.type "code", od, .fields vs, sl⟩) {file : Str} {flags text : Int} {tf tg tt : Tok} {inF : Bool} (h11 : vs[11]? = some (.ref P)) (h11' : vs.getD 11 .none = .ref P) (h18 : vs.getD 18 .none = .str file tf)
    (h7 : vs.getD 7 .none = .int flags tg) (h9 : vs.getD 9 .none = .bool inF) (h10 : vs.getD 10 .none = .int text tt) (hne : c ≠ P) : CodeHd h c P := ⟨_, vs, file, tf, flags, tg, inF, text, tt, X _ _ e, rfl, rfl, h11, h11', h18, h7, h9, h10, hne⟩
theorem frozen_code {w : World} {h : Heap} (X : (hd.heap_39 w.params).In h) : CodeHd h 89 85 := by
  refine' codeHd_of X ?e ?a ?b ?c ?d ?f ?g ?i
  case e => k_is
  case i => decide
  case a => exact rfl
  case b => exact rfl
  case c => exact rfl
  case d => exact rfl
  case f => exact rfl
  case g => exact rfl
theorem fb_lambda {g h : Heap} {L c P : Addr} {m : Str → Option Value} {news : List (Addr × Obj)} {gf : Obj → List (Addr × Obj)} {env : Env} {name qual : Str} {params : Arguments} {body : Expr} {scope : Scope} {ps : Array Value} {pos : Pos} {firstLine : Nat} {clos : List (Str × Addr)}
    (fb : FB w p loose mean mg mb g L h m news) (C : CodeHd g c P) (hcd : env.code = .ref c) (hge : env.globals = mainGlobals) (U : UpdF P (tabObj ps) news gf) (ht : TriplesOk ps.toList) (hnf : codeAmong pos ps.toList = none) (hcl : closureFor scope env = pure clos)
    (q : ∀ f c' oc vs t ctv pm h' tk', FB w p loose mean mg mb g L h' m ((f, kla_obj name qual params body scope clos pm c' ctv) :: (c', oc) :: gf (tabObj (ps ++ #[rawInt pos.line, rawInt pos.col, .ref c']))) → oc.data = .fields vs → vs[1]? = some (.str qual t) → Ch [P] h h' → Q (.ref f) ⟨h', ge, dr, tk', os⟩) :
    wpAny (model prog w) A (makeFunction name qual params (.expr body) scope env [] [] [] pos firstLine) Q E ⟨h, ge, dr, tk, os⟩ := by
  obtain ⟨own, rest, rfl, hgr, h1, h2⟩ := U.split
  have hm := fb.N (P, tabObj ps) (List.mem_append_right _ (.head _))
  have hgs := fb.B.T.g.keeps fb.keep
  obtain ⟨bm, ob, b1, b2, b3, b4, b5, b6⟩ := fb.B.T.bmain
  have hgP : mainGlobals ≠ P := fun q => by
    obtain ⟨o, es, ep, e, hd, _⟩ := hgs
    rw [q, hm.1] at e; cases e; cases hd
  have hbP : bm ≠ P := fun q => by
    have e := fb.keep _ _ b3
    rw [q, hm.1] at e; cases e; cases b4
  have hbG : bm ≠ mainGlobals := fun q => by
    obtain ⟨o, es, ep, e, hd, _⟩ := fb.B.T.g
    rw [q, e] at b3; cases b3; rw [hd] at b6; cases b6
  refine kla_makeFunction (s := ⟨h, ge, dr, tk, os⟩) (mg := mg) hcl hge hgs hcd (C.keeps fb.keep) hm.1 ht hnf hgP ⟨bm, ob, b1, b2, hbG, hbP, fb.keep _ _ b3, b4, b5, b6⟩ fun c' ctv h' tk hx hge hlt hrec htb => ?_
  obtain ⟨c₂, oc, vs, t, e2, hoc, hd, hv⟩ := hrec
  cases e2
  have hLs : L < h.objs.size := fb.ns.lt
  have hLc : L < c' := Nat.lt_of_lt_of_le hLs hge
  have old : ∀ b o, g.get? b = some o → h'.get? b = some o := fun b o e => hx b o (fun q => by rw [q, hm.2.2] at e; cases e) (fb.keep b o e)
  have fresh : ∀ b, h.objs.size ≤ b → g.get? b = none := fun b hb => by
    cases e : g.get? b with
    | none => rfl
    | some o => exact absurd (Heap.lt_size (fb.keep _ _ e)) (Nat.not_lt.mpr hb)
  refine q h'.objs.size c' oc vs t ctv ((mg "__name__").getD .none) _ tk ⟨(fb.ns.extBut hx hm.2.1.symm).push _, fun b o e => Heap.get?_push_of_some _ (old b o e), fb.out, fun q hq => ?_, fb.B⟩ hd hv (fun a o n e => Heap.get?_push_of_some _ (hx a o (by simpa using n) e))
  rcases List.mem_cons.mp hq with rfl | hq
  · exact ⟨Heap.get?_push_size _ rfl, Nat.ne_of_gt (Nat.lt_trans hLc hlt), fresh _ (Nat.le_trans hge (Nat.le_of_lt hlt))⟩
  · rcases List.mem_cons.mp hq with rfl | hq
    · exact ⟨Heap.get?_push_of_some _ hoc, Nat.ne_of_gt hLc, fresh _ hge⟩
    · rw [hgr] at hq
      rcases List.mem_append.mp hq with hq | hq
      · have n := fb.N q (List.mem_append_left _ hq)
        exact ⟨Heap.get?_push_of_some _ (hx _ _ (h1 q hq) n.1), n.2⟩
      · rcases List.mem_cons.mp hq with rfl | hq
        · exact ⟨Heap.get?_push_of_some _ htb, hm.2⟩
        · have n := fb.N q (List.mem_append_right _ (.tail _ hq))
          exact ⟨Heap.get?_push_of_some _ (hx _ _ (h2 q hq) n.1), n.2⟩
theorem refuse_dd (self : Value) : refuseLoop self "__setattr__" [.ref 93, .type "collections.defaultdict", .type "dict", .type "object"] = pure () := by
  rw [refuseLoop_ref]; kernel_rfl
abbrev frozenEs (w : World) (t : Tok) (v : Value) : Array DictEntry := #[⟨PyData.keyHash w.params "_frozen", .str "_frozen" t, v⟩]
theorem fd_setfrozen {v : Value} {Q : Unit → Shared → Prop} (Xb : (hd.heap_39 w.params).In b) (hb : b.StaysIn h) (hx : h.get? x = some (bookO dx es ep)) (hdx : h.get? dx = some emptyDict)
    (q : ∀ h' tk' t n, Heap.SameBut dx h h' → h'.get? dx = some { cls := .type "dict", data := .dict (frozenEs w t v) n } → Q () ⟨h', ge, dr, tk', os⟩) :
    wpAny (model prog w) A (setAttr (.ref x) "_frozen" v) Q E ⟨h, ge, dr, tk, os⟩ := by
  have X : (Mine.hd.heap_39 w.params).In h := Xb.keeps hb
  have I : InstAt h x (bookO dx es ep) 93 (some emptyDict) := ⟨hx, rfl, rfl, hdx⟩
  have sub : Looks (model prog w) h (isInstance (.ref x) (.type "object")) true := I.type.andThen (looks_mroIn X (by k_is))
  have hm := fd_mro (M := model prog w) X
  have ha : Looks (model prog w) h (typeLookup (.ref 93) "_frozen") none := looks_findIn X (by k_is)
  obtain ⟨oc, od, cd, sl, hC, _, _, _, _, _, hdict, _⟩ := fd_obj X
  have hcd : Looks (model prog w) h (classData 93) cd := (Looks.ld (part := none) hC).andThen .now
  have SF := PySem.F.store_object
  refine set_plain (s := ⟨h, ge, dr, tk, os⟩) X I (by k_is) ?_
  refine codeAny_call_builtin SF.slot.plain SF.entry (@check_slot (model prog w) _ _ ⟨h, ge, dr, tk + 1, os⟩ "object.__setattr__" "object" "__setattr__" (.ref x) [.str "_frozen" tk, v] [] _ SF.kind SF.split sub (SF.args (.ref x) (.str "_frozen" tk) v) ?_)
  rw [osa_eq, refuse_eq]
  refine wpAny_bind (wpAny_bind (I.type.at (wpAny_bind (hm.at ?_))))
  rw [refuse_dd]
  refine wpAny_pure (wpAny_bind (I.type.at (wpAny_bind (ha.at ?_))))
  refine wpAny_bind (wpAny_pure ?_)
  show wpAny _ _ (storeInOwnDict (.ref x) (.ref 93) (.str "_frozen" tk) "_frozen" v false) _ _ _
  unfold storeInOwnDict ownDictForStores instanceDict
  refine wpAny_bind (wpAny_pure (wpAny_bind (wpAny_bind (wpAny_loadPart hx (wpAny_bind (hcd.at ?_))))))
  rw [hdict]
  refine wpAny_pure (a := some dx) (wpAny_bind (wpAny_pure (wpAny_bind ?_)))
  unfold nsSet
  refine wpAny_bind (wpAny_bind (wpAny_askSetting (wpAny_pure (wpAny_bind (wpAny_mkText (wpAny_bind (wpAny_loadPart hdx ?_)))))))
  dsimp only
  rw [if_neg (by decide +kernel)]
  refine wpAny_updatePart hdx ?_
  have D' : (h.update dx (Obj.putName "_frozen" (PyData.keyHash w.params "_frozen") (.str "_frozen" (tk + 1)) v)).get? dx = some { cls := .type "dict", data := .dict (frozenEs w (tk + 1) v) 1 } := Heap.get?_update_self _ hdx rfl
  refine wpAny_bind (wpAny_lookBehind D' (pastItsLine_dict (by rw [sizeLine_eq]; simp)) ?_)
  exact wpAny_pure (q _ _ _ _ (Heap.SameBut.update ..) D')
/-- the mark that `freeze` lays -/
def Froz (w : World) (h : Heap) (x dx : Addr) : Prop := ∃ (f c' c : Addr) (oc : Obj) (vs : Array Value) (t t3 : Tok) (n3 : Nat) (ctv pm cl : Value) (di : Option Addr) (sl : Array (Option Value)) (p1 p2 p3 pp : Pos) (qual : Str),
  h.get? dx = some { cls := .type "dict", data := .dict (frozenEs w t3 (.ref f)) n3 } ∧
  h.get? f = some (kla_obj "<lambda>" qual ⟨[], [⟨"key", none, pp⟩], none, [], [], none, []⟩ (.Call (.Attribute (.Name "self" p1) "default_factory" p2) [] [] p3) { kind := .function, names := [("key", .local), ("self", .free)], isGenerator := false, isCoroutine := false } [("self", c)] pm c' ctv) ∧
  h.get? c = some (cellW cl di sl (some (.ref x))) ∧ h.get? c' = some oc ∧ oc.data = .fields vs ∧ vs[1]? = some (.str qual t) ∧ (p2.endLine == p3.line) = true
theorem Froz.keeps {w : World} {h h' : Heap} {x dx : Addr} (F : Froz w h x dx) (k : ∀ a o, h.get? a = some o → h'.get? a = some o) : Froz w h' x dx :=
  let ⟨f, c', c, oc, vs, t, t3, n3, ctv, pm, cl, di, sl, p1, p2, p3, pp, qual, h1, h2, h3, h4, r⟩ := F
  ⟨f, c', c, oc, vs, t, t3, n3, ctv, pm, cl, di, sl, p1, p2, p3, pp, qual, k _ _ h1, k _ _ h2, k _ _ h3, k _ _ h4, r⟩
/-- `freeze` -/
theorem freeze_spec (B : Base w p loose mean mg mb b) (hb : b.StaysIn h) (hxb : b.get? x = none) (hx : h.get? x = some (bookO dx es ep)) (hdx : h.get? dx = some emptyDict) (hdb : b.get? dx = none) (htb : b.get? 85 = none) (ht : h.get? 85 = some (tabObj #[]))
    (hd : A.depth + 2 < recursionLimit) (hu : A.units + 40 < cLine) (hh : A.handled = none)
    (q : ∀ h' tk' ps, Ch [dx, 85] h h' → Froz w h' x dx → h'.get? 85 = some (tabObj ps) → Q .none ⟨h', ge, dr, tk', os⟩) :
    wpAny (model prog w) A (call (.ref 90) [.ref x]) Q E ⟨h, ge, dr, tk, os⟩ := by
  have BX := B.X
  refine' mk_enterC (news := [(x, bookO dx es ep), (dx, emptyDict), (85, tabObj #[])]) (binds := [("self", .ref x)]) B hb ?k0 ?k6 ?k7 (by omega) ?k9 ?kB ?kN ?_ ?c2 ?c3 ?c4
  case k0 =>
    intro q hq
    rcases List.mem_cons.mp hq with rfl | hq
    · exact ⟨hx, hxb, book_ne _ _ _⟩
    rcases List.mem_cons.mp hq with rfl | hq
    · exact ⟨hdx, hdb, dict_ne _ _⟩
    rw [List.mem_singleton] at hq; subst hq
    exact ⟨ht, htb, tab_ne _⟩
  case k6 => k_is
  case k7 => k_is
  case k9 => exact fun _ => BindsTo.of_eq rfl
  case kB =>
    intro n y hy
    rw [List.mem_singleton] at hy; subst hy
    exact .inr ⟨rfl, rfl⟩
  case kN => decide
  case c2 => exact rfl
  case c3 => exact rfl
  case c4 => exact rfl
  intro g L h₁ tk₁ cells fb hcs hg tg hbg
  obtain ⟨cl, di, sl, rfl⟩ := cells_one hcs
  clear BX
  have X := fb.B.X
  replace fb : FB w p loose mean mg mb g L h₁ (fun _ => none) [(L + 1, cellW cl di sl (some (.ref x))), (x, bookO dx es ep), (dx, emptyDict), (85, tabObj #[])] := fb
  walk_at "go"
  have n1 : @Ne Nat x 85 := by rintro rfl; rw [ht] at hx; cases hx
  have n2 : @Ne Nat dx 85 := by rintro rfl; rw [ht] at hdx; cases hdx
  have n4 : @Ne Nat x dx := by
    rintro rfl; rw [hdx] at hx
    exact absurd (congrArg Obj.cls (Option.some.inj hx)) (by simp)
  have n5 : @Ne Nat (L + 1) 85 := fun e => by
    have z := fb.N _ (.head _)
    have z2 := fb.N (85, tabObj #[]) (by k_mem)
    rw [show ((L + 1 : Nat), _).1 = L + 1 from rfl, e, z2.1] at z
    cases z.1
  refine wpAny_of_at fun c => ks_wpAt_Assign_Attr (PySem.wpAt_of_wpAny ?_) rfl
  refine kla_eval rfl ?_
  refine' fb_lambda fb ?C ?cd ?ge ?U ?t ?n ?cl ?_
  case C => exact frozen_code fb.B.X
  case cd => exact rfl
  case ge => exact rfl
  case U => k_updF
  case t => kn_triples
  case n => kn_among
  case cl => exact rfl
  intro f c' oc vs t ctv pm h2 tk2 f2 hoc hvs C2
  try dsimp only at f2
  refine' mw_cell f2 ?c1 ?c2 ?_ ?c3 ?c4 ?c5
  case c1 => rfl
  case c2 => k_mem
  case c3 => rfl
  case c4 => rfl
  case c5 => decide
  refine fd_setfrozen f2.B.X f2.keep (f2.at_ (by k_mem)) (f2.at_ (by k_mem)) ?_
  intro h3 tk3 t3 n3 s3 hd3
  have a1 : @Ne Nat dx f := f2.apart (o := emptyDict) (by k_mem) (.head _) (by intro e; cases e)
  have a2 : @Ne Nat dx c' := f2.apart (o := emptyDict) (by k_mem) (.tail _ (.head _)) (by rw [hoc]; intro e; cases e)
  have a3 : @Ne Nat dx (L + 1) := f2.apart (o := emptyDict) (o' := cellW cl di sl (some (.ref x))) (by k_mem) (by k_mem) (by intro e; cases e)
  have f3 := f2.ch (Ch.of_same s3) (o' := { cls := .type "dict", data := .dict (frozenEs w t3 (.ref f)) n3 }) (by k_upd) hd3
  walk_at "go"
  refine q _ _ _ (fun a o n e => ?_) ⟨f, c', L + 1, oc, vs, t, t3, n3, ctv, pm, cl, di, sl, _, _, _, _, _, hd3, f3.at_ (.head _), f3.at_ (.tail _ (.tail _ (.head _))), f3.at_ (.tail _ (.head _)), hoc, hvs, rfl⟩ (f3.at_ (o := tabObj _) (by k_mem))
  by_cases e1 : a = x
  · subst e1
    rw [hx] at e; cases e
    exact f3.at_ (by k_mem)
  · refine f3.keep _ _ (hg _ _ ?_ e)
    intro hm
    rcases List.mem_cons.mp hm with hm | hm
    · exact e1 hm
    · exact n hm
end
end
section
theorem mbd_slot : Slot "member_descriptor" "__get__" "member_descriptor.__get__" := .of (owner := "member_descriptor") (n := "__get__") (by rw [typeLookup_type, builtinLookup_eq_fast]; kernel_rfl) (by decide +kernel) (by decide +kernel) (by decide +kernel)
  (by first | exact .inl (by decide +kernel) | exact .inr (by decide +kernel)) (by rw [isSubtype_type]; kernel_rfl)
theorem mbd_entry : entryFor table "member_descriptor.__get__" = some Builtin.«member_descriptor.__get__» := entryFor_of_tree (by kernel_rfl)
theorem mbd_args (a b c : Value) : argsOk "member_descriptor.__get__" ⟨[a, b, c], []⟩ := by unfold argsOk; kernel_rfl
theorem mbd_typ : typeOf (.builtin "collections.defaultdict.default_factory") = pure (.type "member_descriptor") := by kernel_rfl
theorem df_entry : entryFor table "collections.defaultdict.default_factory" = some Builtin.«collections.defaultdict.default_factory» := entryFor_of_tree (by kernel_rfl)
theorem df_owner : (".".intercalate ("collections.defaultdict.default_factory".cutAt '.').dropLast) = "collections.defaultdict" := by
  have e0 : "collections.defaultdict.default_factory".cutAt '.' = ["collections", "defaultdict", "default_factory"] := by first | rfl | decide +kernel
  rw [e0]; decide +kernel
section
variable {prog : Program} {w : World} {A : Around} {E : Value → Shared → Prop} {p : Program} {loose : List Str} {mean : ExcName → Option Value} {mg mb : Str → Option Value} {b h : Heap} {ge : Array GenState} {dr : Drawn} {tk : Nat} {os : OsState}
  {x dx : Addr} {es : Array DictEntry} {ep : Nat} {t : Tok} {k : Nat} {Q : Value → Shared → Prop}
theorem fd_frozen_some (Xb : (hd.heap_39 w.params).In b) (hb : b.StaysIn h) (hx : h.get? x = some (bookO dx es ep)) {t3 : Tok} {n3 : Nat} {f : Addr} (hdx : h.get? dx = some { cls := .type "dict", data := .dict (frozenEs w t3 (.ref f)) n3 }) {Q : Option Value → Shared → Prop}
    (q : Q (some (.ref f)) ⟨h, ge, dr, tk, os⟩) : wpAny (model prog w) A (getAttrBy? (.ref x) (.str "_frozen" t)) Q E ⟨h, ge, dr, tk, os⟩ := by
  have X : (Mine.hd.heap_39 w.params).In h := Xb.keeps hb
  have I : InstAt h x (bookO dx es ep) 93 (some { cls := .type "dict", data := .dict (frozenEs w t3 (.ref f)) n3 }) := ⟨hx, rfl, rfl, hdx⟩
  have L0 := I.type (M := model prog w)
  have hf : findObj (Mine.hd.heap_39 w.params) 93 (some { cls := .type "dict", data := .dict (frozenEs w t3 (.ref f)) n3 }) "_frozen" = some (.value (.ref f)) :=
    findObj_own (attr := none) (by k_is) (by k_is) (by k_is) rfl
  have L3 := looks_find (M := model prog w) X I hf
  unfold getAttrBy?
  refine wpAny_bind (wpAny_attempt (fd_by Xb hb hx hdx ?_))
  unfold Builtin.«object.__getattribute__»
  repeat ((fail_if_success (with_reducible show wpAny _ _ (find _ _ _) _ _ _)); lk)
  refine L3.at ?_
  exact wpAny_pure (wpAny_pure (wpAny_pure q))
theorem fd_factory (Xb : (hd.heap_39 w.params).In b) (hb : b.StaysIn h) (hx : h.get? x = some (bookO dx es ep)) {odx : Obj} (hdx : h.get? dx = some odx) (hdo : lookIn "default_factory" odx = some none) {expr : Bool}
    (q : ∀ tk', Q (.type "list") ⟨h, ge, dr, tk', os⟩) : wpAny (model prog w) A (getAttr (.ref x) "default_factory" expr) Q E ⟨h, ge, dr, tk, os⟩ := by
  have X : (Mine.hd.heap_39 w.params).In h := Xb.keeps hb
  have I : InstAt h x (bookO dx es ep) 93 (some odx) := ⟨hx, rfl, rfl, hdx⟩
  have L0 := I.type (M := model prog w)
  have hc : ∃ cd, clsIn (Mine.hd.heap_39 w.params) 93 = some cd ∧ cd.hasDict = true := by
    have : hasDictIn (Mine.hd.heap_39 w.params) 93 = true := by k_is
    exact any_some this
  have hf : findObj (Mine.hd.heap_39 w.params) 93 (some odx) "default_factory" = some (.bind (.builtin "member_descriptor.__get__") (.builtin "collections.defaultdict.default_factory")) := by
    obtain ⟨cd, hc, hd⟩ := hc
    unfold findObj
    have ha : findIn (Mine.hd.heap_39 w.params) (.ref 93) "default_factory" = some (some (.builtin "collections.defaultdict.default_factory")) := by k_is
    have hg : specialIn (Mine.hd.heap_39 w.params) (.builtin "collections.defaultdict.default_factory") "__get__" = some (some (.builtin "member_descriptor.__get__")) := by k_is
    have ht : takesIn (Mine.hd.heap_39 w.params) (.builtin "collections.defaultdict.default_factory") = some true := by k_is
    rw [hc, Option.bind_some, ha, Option.bind_some]
    simp only [hg, ht, Option.bind_some]
  have L3 := looks_find (M := model prog w) X I hf
  have sX : Looks (model prog w) h (isSubtype (.ref 93) (.type (".".intercalate ("collections.defaultdict.default_factory".cutAt '.').dropLast))) true := by rw [df_owner]; exact fd_subX (M := model prog w) X
  unfold getAttr
  refine wpAny_bind (wpAny_mkText (fd_by (tk := tk + 1) Xb hb hx hdx ?_))
  unfold Builtin.«object.__getattribute__»
  repeat ((fail_if_success (with_reducible show wpAny _ _ (find _ _ _) _ _ _)); lk)
  refine L3.at ?_
  show wpAny _ _ (bindTo _ _ _ _) _ _ _
  unfold bindTo
  repeat ((fail_if_success (with_reducible show wpAny _ _ (call _ _ _) _ _ _)); lk)
  refine wpAny_call (codeAny_call_builtin mbd_slot.plain mbd_entry (mbd_slot.check _ _ _ _ _ _ _ _ mbd_typ (mbd_args _ _ _) ?_))
  unfold Builtin.«member_descriptor.__get__» Getset_descriptor.descrGet Getset_descriptor.descrGetter Getset_descriptor.descrCheckInstance
  repeat ((fail_if_success (with_reducible show wpAny _ _ (again _) _ _ _)); lk)
  refine wpAny_pure (a := Fin.again (.builtin "collections.defaultdict.default_factory" ⟨[.ref x], []⟩)) (And.intro (Code.quiet_builtin _ (by decide +kernel)) (codeAny_builtin df_entry ?_))
  unfold Builtin.«collections.defaultdict.default_factory» Builtin.Collections_defaultdict.factory?
  repeat lk
  have e : ((Option.filter (fun x => x != Value.none) (#[some (Value.type "list")] : Array (Option Value))[0]?.join).getD Value.none) = .type "list" := by decide +kernel
  rw [e]
  exact q _
theorem getM_factory (Xb : (hd.heap_39 w.params).In b) (hb : b.StaysIn h) (hx : h.get? x = some (bookO dx es ep)) {odx : Obj} (hdx : h.get? dx = some odx) (hdo : lookIn "default_factory" odx = some none) {pl : Sem Bool} {Q : Value × List Value → Shared → Prop}
    (q : ∀ tk', Q (.type "list", []) ⟨h, ge, dr, tk', os⟩) : wpAny (model prog w) A (getMethod (.ref x) "default_factory" pl) Q E ⟨h, ge, dr, tk, os⟩ := by
  have X : (Mine.hd.heap_39 w.params).In h := Xb.keeps hb
  have I : InstAt h x (bookO dx es ep) 93 (some odx) := ⟨hx, rfl, rfl, hdx⟩
  have L0 := I.type (M := model prog w)
  have L1 : Looks (model prog w) h (specialOf (.ref x) "__getattribute__") (some (.builtin "collections.defaultdict.__getattribute__")) := L0.andThen (looks_findIn X (by k_is))
  have L2 : Looks (model prog w) h (specialOf (.ref x) "__getattr__") none := L0.andThen (looks_findIn X (by k_is))
  have L3 : Looks (model prog w) h (specialOf (.ref x) "default_factory") (some (.builtin "collections.defaultdict.default_factory")) := L0.andThen (looks_findIn X (by k_is))
  have L4 : Looks (model prog w) h (typeOf (.builtin "collections.defaultdict.default_factory")) (.type "member_descriptor") := Looks.of_pure mbd_typ
  unfold getMethod
  refine wpAny_bind (L1.at ?_)
  dsimp only
  rw [if_neg (by decide +kernel)]
  refine wpAny_bind (L2.at ?_)
  rw [if_neg (by simp)]
  refine wpAny_bind (L3.at (wpAny_bind (L4.at ?_)))
  rw [if_pos (by decide +kernel)]
  exact wpAny_bind (fd_factory Xb hb hx hdx hdo fun tk' => wpAny_pure (q tk'))
theorem callWith_fn {M : Model} {A : Around} {E : Value → Shared → Prop} {s : Shared} {pos : Pos} {a : Addr} {o : Obj} {fd : FuncData} {e : Expr} {rest : List Expr} {env : Env} {Q : Value → Shared → Prop} (ho : s.heap.get? a = some o) (hd : o.data = .func fd)
    (q : wpAny M A (spliced (backTo pos (starEach (e :: rest) env))) (fun vs s₁ => (s₁.heap.get? a = some o ∧ o.data = .func fd) ∧ wpAny M A (call (.ref a) vs) Q E s₁) E s)
    (he : starEach (e :: rest) env = (false, eval e env) :: starEach rest env) : wpAny M A (callWith pos (.ref a) [] (backTo pos (starEach (e :: rest) env)) []) Q E s := by
  rw [he] at q ⊢
  exact callWith_function (evalArgs_plain q)
theorem callWith_ty0 {M : Model} {A : Around} {E : Value → Shared → Prop} {s : Shared} {pos : Pos} {T : String} {env : Env} {Q : Value → Shared → Prop} (q : wpAny M A (call (.type T) []) Q E s) :
    wpAny M A (callWith pos (.type T) [] (backTo pos (starEach [] env)) []) Q E s := by
  show wpAny M A (callWith pos (.type T) [] [] []) Q E s
  unfold callWith
  refine wpAny_bind (wpAny_holding (PyProof.Rows.evalArgs_none (wpAny_bind (wpAny_standAt ?_))))
  refine wpAny_bind (wpAny_pure ?_)
  exact wpAny_bind (wpAny_mono q (fun r s₂ hr => wpAny_bind (wpAny_holding (wpAny_point (wpAny_pure hr)))) fun _ _ x => x)
theorem meth_eq {env : Env} {p1 p2 p3 : Pos} (hp : (p2.endLine == p3.line) = true) : eval (.Call (.Attribute (.Name "self" p1) "default_factory" p2) [] [] p3) env = (do
      let ov ← eval (.Name "self" p1) env
      standAt p2.atName
      let (f, first) ← holding [ov] (getMethod ov "default_factory" (do return (← importBound (.Name "self" p1) env).getD true))
      callWith p3 f first (backTo p3 (starEach [] env)) []) := by
  rw [show eval (.Call (.Attribute (.Name "self" p1) "default_factory" p2) [] [] p3) env = (do
    let ov ← attributeBase (.Name "self" p1) "default_factory" env (eval (.Name "self" p1) env)
    standAt p2.atName
    methodCall (.Name "self" p1) "default_factory" p2 p3 env ov 0 (backTo p3 (starEach [] env)) (backToKw p3 (keywordEach [] env))) from rfl]
  unfold methodCall methodCallPos
  simp only [hp, Bool.or_true, if_true]
  rfl
/-- the mark is called: an empty list -/
theorem frozen_call (B : Base w p loose mean mg mb b) (hb : b.StaysIn h) (hx : h.get? x = some (bookO dx es ep)) {odx : Obj} (hdx : h.get? dx = some odx) (hdo : lookIn "default_factory" odx = some none) {v : Value}
    {f c' c : Addr} {oc : Obj} {vs : Array Value} {t : Tok} {ctv pm cl : Value} {di : Option Addr} {sl : Array (Option Value)} {p1 p2 p3 pp : Pos} {qual : Str}
    (F2 : h.get? f = some (kla_obj "<lambda>" qual ⟨[], [⟨"key", none, pp⟩], none, [], [], none, []⟩ (.Call (.Attribute (.Name "self" p1) "default_factory" p2) [] [] p3) { kind := .function, names := [("key", .local), ("self", .free)], isGenerator := false, isCoroutine := false } [("self", c)] pm c' ctv))
    (F3 : h.get? c = some (cellW cl di sl (some (.ref x)))) (F4 : h.get? c' = some oc) (F5 : oc.data = .fields vs) (F6 : vs[1]? = some (.str qual t)) (F7 : (p2.endLine == p3.line) = true) (hd : A.depth < recursionLimit)
    (q : ∀ l h' tk' c, (∀ a o, h.get? a = some o → h'.get? a = some o) → h.get? l = none → h'.get? l = some (listOf #[] c) → Q (.ref l) ⟨h', ge, dr, tk', os⟩) :
    wpAny (model prog w) A (call (.ref f) [v]) Q E ⟨h, ge, dr, tk, os⟩ := by
  have BH := B.keeps hb
  refine wpAny_call (kla_callFunE hd F2 rfl rfl rfl rfl ⟨c', oc, vs, t, rfl, F4, F5, F6⟩ ?_)
  have hbind : bindArgs (kla_fn "<lambda>" qual ⟨[], [⟨"key", none, pp⟩], none, [], [], none, []⟩ (.Call (.Attribute (.Name "self" p1) "default_factory" p2) [] [] p3) { kind := .function, names := [("key", .local), ("self", .free)], isGenerator := false, isCoroutine := false } [("self", c)] pm (.ref c') ctv) ⟨[v], []⟩ = pure [(("key" : Str), v)] := rfl
  rw [hbind]
  refine wpAny_pure (wpAny_newFunctionEnv (by show ∀ x ∈ [(("key" : Str), NameKind.local), ("self", NameKind.free)], x.2 ≠ NameKind.cell; decide) (by intro y hy; rw [List.mem_singleton] at hy; subst hy; rfl) (fun h₁ hns hsb => ⟨BH.T.nolimit.fresh _ hsb, ?_⟩) rfl)
  have hk₁ : ∀ b o, h.get? b = some o → h₁.get? b = some o := fun b o e => hsb.extBut b o (Nat.ne_of_lt (Heap.lt_size e)) (Heap.get?_push_of_some _ e)
  show codeAny _ _ (.expr _ (envX qual { kind := .function, names := [("key", .local), ("self", .free)], isGenerator := false, isCoroutine := false } h.objs.size f (.ref c') [("self", c)])) _ _
  refine kla_codeExpr ?_
  refine mk_meth ?_ (meth_eq F7)
  refine wpAny_Name (wpAny_loadName_free rfl rfl rfl ⟨_, hk₁ _ _ F3, rfl⟩ ?_) (by decide +kernel)
  refine getM_factory B.X (fun a o e => hk₁ _ _ (hb a o e)) (hk₁ _ _ hx) (hk₁ _ _ hdx) hdo fun tk' => ?_
  refine callWith_ty0 (list0 fun h' c k hl => ?_)
  refine q _ h' _ c (fun a o e => k _ _ (hk₁ _ _ e)) ?_ hl
  cases e : h.get? h₁.objs.size with
  | none => rfl
  | some o => exact absurd (Heap.lt_size (hk₁ _ _ e)) (Nat.lt_irrefl _)
local macro_rules | `(tactic| walk_at "m1") => `(tactic| first
  | (with_reducible refine seq_next ?_)
  | ((with_reducible refine' mw_local ?f ?v ?_ ?l ?k ?d); (case l => rfl); (case k => rfl); (case f => assumption); (case d => decide); (case v => first | rfl | assumption))
  | (with_reducible refine mw_cons ?_)
  | (with_reducible refine mw_nil ?_)
  | ((with_reducible refine' mw_asg ?_ ?s); (case s => rfl))
  | ((with_reducible refine' mw_st ?f ?_ ?l ?k); (case l => rfl); (case k => rfl); (case f => assumption); intro _ _ _)
  | ((with_reducible refine' mw_glob ?f ?e ?_ ?l ?k ?d ?g); (case l => rfl); (case k => rfl); (case f => assumption); (case e => k_is); (case d => decide); (case g => rfl))
  | ((with_reducible refine' mw_built ?f ?e ?v ?_ ?l ?k ?d ?g ?b ?n); (case l => rfl); (case k => rfl); (case f => assumption); (case e => k_is); (case v => boot_by_name); (case d => decide); (case g => rfl); (case b => rfl); (case n => decide))
  | ((with_reducible refine' mw_cell ?f ?c ?m ?_ ?l ?k ?d); (case l => rfl); (case k => rfl); (case f => assumption); (case c => rfl); (case m => k_mem); (case d => decide))
  | ((with_reducible refine' mw_free ?f ?c ?m ?_ ?l ?k ?d ?n); (case l => rfl); (case k => rfl); (case f => assumption); (case c => rfl); (case m => k_mem); (case d => decide); (case n => decide))
  | ((with_reducible refine mw_int ?_); intro _ _)
  | (with_reducible refine mw_bin ?_)
  | ((with_reducible refine mo_add ?_); intro _ _)
  | ((with_reducible refine mo_sub ?_); intro _ _)
  | ((with_reducible refine mo_iadd ?_); intro _ _)
  | ((with_reducible refine' mw_expr ?_ ?a ?b); (case a => rfl); (case b => rfl))
  | ((with_reducible refine' mw_call ?_ ?a); (case a => rfl))
  | (with_reducible refine mw_spn ?_)
  | ((with_reducible refine' mw_spc ?_ ?a); (case a => rfl))
  | ((with_reducible refine' mk_in ?f ?_); (case f => assumption))
  | ((with_reducible refine' mk_bi ?_ ?a ?b); (case a => rfl); (case b => rfl))
  | ((with_reducible refine' mk_def ?f ?k ?_ ?a ?b); (case f => assumption); (case k => k_is); (case a => rfl); (case b => rfl))
  | (with_reducible refine mw_if ?_)
  | ((with_reducible refine' mt_cmp ?_ ?a); (case a => rfl))
  | (with_reducible refine mt_bool ?_)
  | (with_reducible refine mc_lt ?_)
  | (with_reducible refine mc_gt ?_)
  | (with_reducible refine mc_eq ?_)
  | (with_reducible refine mc_ne ?_)
  | (with_reducible refine mc_le ?_)
  | (with_reducible refine mc_ge ?_)
  | (with_reducible refine mw_sub ?_)
  | ((with_reducible refine' mw_asgS ?_ ?s); (case s => rfl))
  | (with_reducible refine mw_ret ?_)
  | (with_reducible refine seq_ret ?_)
  | (with_reducible refine seq_brk ?_)
  | (with_reducible refine seq_cont ?_)
  | (with_reducible refine mw_brk ?_)
  | (with_reducible refine mw_cont ?_)
  | (with_reducible refine mt_and ?_)
  | (with_reducible refine mt_and0 ?_)
  | (with_reducible refine mt_or ?_)
  | (with_reducible refine mt_or0 ?_)
  | (with_reducible refine mt_not ?_)
  | (with_reducible refine mt_name ?_)
  | (with_reducible refine mt_call ?_)
  | (with_reducible refine mw_tuple ?_)
  | (with_reducible refine mw_list ?_)
  | ((with_reducible refine' mw_cmp ?_ ?a); (case a => rfl))
  | (with_reducible refine mw_un ?_)
  | ((with_reducible refine mo_neg ?_); intro _ _)
  | (with_reducible refine mo_not ?_)
  | (with_reducible refine mw_ifexp ?_)
  | (with_reducible refine mw_and ?_)
  | (with_reducible refine mw_or ?_)
  | (with_reducible refine mw_bone ?_)
  | (with_reducible refine mw_bool ?_)
  | ((with_reducible refine' ml_len ?f ?m ?z ?_); (case f => assumption); (case m => k_mem); (case z => (rw [sizeLine_eq]; omega)); intro _ _)
  | ((with_reducible refine' mo_shr1 ?z ?_); (case z => omega); intro _ _)
  | ((with_reducible refine' mk_meth ?_ ?a); (case a => rfl))
  | (with_reducible refine mk_m0 ?_)
  | ((with_reducible refine' mk_m1 ?_ ?a ?b); (case a => rfl); (case b => rfl))
  | ((with_reducible refine mw_aug ?_))
  | ((with_reducible refine' mw_ldl ?f ?v ?_ ?l ?k); (case l => rfl); (case k => rfl); (case f => assumption); (case v => first | rfl | assumption))
  | ((with_reducible refine' mw_ldc ?f ?c ?m ?_ ?l ?k); (case l => rfl); (case k => rfl); (case f => assumption); (case c => rfl); (case m => k_mem))
  | ((with_reducible refine' mw_stc ?f ?c ?u ?_ ?l ?k); (case l => rfl); (case k => rfl); (case f => assumption); (case c => rfl); (case u => k_upd); intro _ _))
local macro_rules | `(tactic| walk_at "go") => `(tactic| repeat' walk_at "m1")
local macro_rules | `(tactic| walk_at "goI") => `(tactic| repeat' ((fail_if_success (with_reducible show wpAny _ _ (exec (Stmt.If _ _ _ _) _) _ _ _)); walk_at "m1"))

/-- `__missing__` of a book that is frozen -/
theorem missing_frozen (S : SupOk prog) (B : Base w p loose mean mg mb b) (hb : b.StaysIn h) (hxb : b.get? x = none) {ents : Ents} (hx : h.get? x = some (bookO dx (bookEs ents) ep)) (F : Froz w b x dx)
    (hd : A.depth + 3 < recursionLimit) (hu : A.units + 40 < cLine) (hh : A.handled = none)
    (q : ∀ l h' tk' c, (∀ a o, h.get? a = some o → h'.get? a = some o) → h.get? l = none → h'.get? l = some (listOf #[] c) → Q (.ref l) ⟨h', ge, dr, tk', os⟩) :
    wpAny (model prog w) A (call (.ref 83) [.ref x, .int ((k : Nat) : Int) t]) Q E ⟨h, ge, dr, tk, os⟩ := by
  have BX := B.X
  refine' mk_enterAt (news := [(x, bookO dx (bookEs ents) ep)]) (binds := [("self", .ref x), ("key", .int ((k : Nat) : Int) t)]) B hb ?k0 ?k6 ?k7 (by omega) ?k9 ?kB ?_ ?c2 ?c3 ?c4 ?c5
  case k0 =>
    intro q hq; rw [List.mem_singleton] at hq; subst hq
    exact ⟨hx, hxb, book_ne _ _ _⟩
  case k6 => k_is
  case k7 => k_is
  case k9 => exact fun _ => BindsTo.of_eq rfl
  case kB => exact locs rfl
  case c2 => exact rfl
  case c3 => exact rfl
  case c4 => exact rfl
  case c5 => decide
  intro g L h₁ tk₁ fb hg tg hbg
  clear BX
  have X := fb.B.X
  have hgx : g.get? x = none := fb.new_ (.head _)
  refine ks_wpAt_execs_cons (ks_wpAt_Return_some (at_call ?_ rfl))
  refine at_call ?_ rfl
  refine PySem.wpAt_of_wpAny ?_
  refine' mw_built fb ?e ?v ?_ ?l ?k ?d ?g ?b ?n
  case l => rfl
  case k => rfl
  case e => k_is
  case v => boot_by_name
  case d => decide
  case g => rfl
  case b => rfl
  case n => decide
  refine at_biE ?_ rfl rfl
  refine at_spcE (PySem.wpAt_of_wpAny ?_) rfl
  refine' mw_local fb ?v ?_ ?l ?k ?d
  case l => rfl
  case k => rfl
  case d => decide
  case v => rfl
  refine at_spcE (PySem.wpAt_of_wpAny ?_) rfl
  refine wpAny_Constant_str ?_
  refine at_spcE (at_attr ?_ rfl) rfl
  have hx1 : h₁.get? x = some (bookO dx (bookEs ents) ep) := fb.at_ (.head _)
  refine' sup_node S fb hx1 ?hf ?hcc ?hcl ?hp ?hvs ?hv ?hsup ?hboot ?hat ?hks ?hkc ?hka ?hk ?_
  case hf => k_is
  case hcc => k_is
  case hcl => k_is
  case hsup => k_is
  case hboot => boot_by_name
  case hat => decide +kernel
  all_goals try rfl
  intro so h2 f2 k2
  have g2 : g.StaysIn h2 := fun a o e => k2 _ _ (fb.keep a o e)
  have no : nsIn (Mine.hd.heap_39 w.params) cStatics "thirdparty.any" = some none := by k_is
  refine sup_attr fb.B.X g2 no hgx (k2 _ _ hx1) (f2.at_ (.head _)) ?_
  intro mth h3 tk3 k3 hmn hm
  have f3 := (f2.sub (news' := [(x, bookO dx (bookEs ents) ep)]) (fun q hq => .tail _ hq)).more k3 hmn hm
  refine wpAny_letTemporaryGo (at_spnE ?_)
  obtain ⟨f, c', c, oc, vs, t1, t3, n3, ctv, pm, cl, di, sl, p1, p2, p3, pp, qual, F1, F2, F3, F4, F5, F6, F7⟩ := F.keeps hbg
  refine fd_getattr fb.B.X f3.keep (f3.at_ (.tail _ (.head _))) (f3.keep _ _ F1) ?_
  refine fd_frozen_some fb.B.X f3.keep (f3.at_ (.tail _ (.head _))) (f3.keep _ _ F1) ?_
  refine PySem.wpAt_of_wpAny (callWith_fn (f3.keep _ _ F2) rfl ?_ rfl)
  walk_at "go"
  refine ⟨⟨f3.keep _ _ F2, rfl⟩, ?_⟩
  refine frozen_call fb.B f3.keep (f3.at_ (.tail _ (.head _))) (f3.keep _ _ F1) rfl (f3.keep _ _ F2) (f3.keep _ _ F3) (f3.keep _ _ F4) F5 F6 F7 ?_ ?_
  · show A.depth + 1 < _; omega
  intro l h5 tk5 c5 k5 ln hl
  have all : ∀ a o, h.get? a = some o → h3.get? a = some o := fun a o e => by
    by_cases e1 : a = x
    · subst e1; rw [hx] at e; cases e; exact f3.at_ (.tail _ (.head _))
    · exact f3.keep _ _ (hg _ _ (by simpa using e1) e)
  refine q l h5 tk5 c5 (fun a o e => k5 _ _ (all _ _ e)) ?_ hl
  cases e : h.get? l with
  | none => rfl
  | some o => rw [all _ _ e] at ln; cases ln
end
end
section
/-- a key's row of the book -/
structure Row where
  key : Nat
  tok : Tok
  addr : Addr
  vals : List Value
  ver : Nat
structure BookV where
  x : Addr
  dx : Addr
  ep : Nat
  rows : List Row
abbrev Row.lst (r : Row) : Obj := listOf r.vals.toArray r.ver
def BookV.ents (bk : BookV) : Ents := bk.rows.map fun r => (r.key, r.tok, r.addr)
def bookN (bk : BookV) : List (Addr × Obj) := (bk.x, bookO bk.dx (bookEs bk.ents) bk.ep) :: bk.rows.map fun r => (r.addr, r.lst)
def BookV.add (bk : BookV) (k : Nat) (t : Tok) (l : Addr) (c : Nat) : BookV := { bk with ep := bk.ep + 1, rows := bk.rows ++ [⟨k, t, l, [], c⟩] }
def BookV.put (bk : BookV) (i : Nat) (vs : List Value) (c : Nat) : BookV := { bk with rows := bk.rows.modify i fun r => { r with vals := vs, ver := c } }
/-- the book bears data -/
structure BookR {κ : Type} (V : Ordv κ) (h : Heap) (bk : BookV) (D : List (Nat × List κ)) : Prop where
  xs : (bk.x == sysModules) = false
  nd : (bk.rows.map Row.addr).Nodup
  len : bk.rows.length = D.length
  rel : ∀ (i : Nat) (r : Row) (d : Nat × List κ), bk.rows[i]? = some r → D[i]? = some d → r.key = d.1 ∧ RelL (V.rel h) r.vals d.2
/-- what stands fast: whether the book is frozen -/
def Dxf (w : World) (g : Heap) (bk : BookV) (fr : Bool) : Prop := if fr = true then Froz w g bk.x bk.dx else g.get? bk.dx = some emptyDict
theorem Dxf.keeps {w : World} {g g' : Heap} {bk : BookV} {fr : Bool} (d : Dxf w g bk fr) (k : g.StaysIn g') : Dxf w g' bk fr := by
  unfold Dxf at *
  cases fr with
  | true => simp only [if_true] at *; exact d.keeps k
  | false => simp only [Bool.false_eq_true, if_false] at *; exact k _ _ d
theorem BookR.mono {κ : Type} {V : Ordv κ} {h h' : Heap} {bk : BookV} {D : List (Nat × List κ)} (R : BookR V h bk D) (t : TK h h') : BookR V h' bk D :=
  ⟨R.xs, R.nd, R.len, fun i r d a b => ⟨(R.rel i r d a b).1, (R.rel i r d a b).2.mono fun _ _ => V.keep t⟩⟩
theorem bookN_ne (bk : BookV) : ∀ q ∈ bookN bk, ∀ vs, q.2 ≠ tupO vs := by
  intro q hq
  rcases List.mem_cons.mp hq with rfl | hq
  · exact book_ne _ _ _
  · obtain ⟨r, _, rfl⟩ := List.mem_map.mp hq
    exact lst_ne _ _
theorem bookN_row {bk : BookV} {i : Nat} {r : Row} (h : bk.rows[i]? = some r) : (r.addr, r.lst) ∈ bookN bk := .tail _ (List.mem_map_of_mem (f := fun r : Row => (r.addr, r.lst)) (List.mem_of_getElem? h))
theorem bookN_x (bk : BookV) : (bk.x, bookO bk.dx (bookEs bk.ents) bk.ep) ∈ bookN bk := .head _
/-- the place of a key -/
def keyAt {κ : Type} (D : List (Nat × κ)) (k : Nat) : Option Nat := D.findIdx? fun d => d.1 == k
theorem keys_eq {κ : Type} {V : Ordv κ} {h : Heap} {bk : BookV} {D : List (Nat × List κ)} (R : BookR V h bk D) : bk.rows.map Row.key = D.map (·.1) := by
  apply List.ext_getElem?
  intro i
  rw [List.getElem?_map, List.getElem?_map]
  by_cases hi : i < bk.rows.length
  · have hi2 : i < D.length := R.len ▸ hi
    rw [List.getElem?_eq_getElem hi, List.getElem?_eq_getElem hi2]
    exact congrArg some (R.rel i _ _ (List.getElem?_eq_getElem hi) (List.getElem?_eq_getElem hi2)).1
  · rw [List.getElem?_eq_none (Nat.not_lt.mp hi), List.getElem?_eq_none (by rw [← R.len]; exact Nat.not_lt.mp hi)]
    rfl
theorem entAt_rows (bk : BookV) (k : Nat) : entAt bk.ents k = (bk.rows.find? fun r => r.key == k).map Row.addr := by
  unfold entAt BookV.ents
  rw [List.find?_map, Option.map_map]
  rfl
theorem keyAt_rows {κ : Type} {V : Ordv κ} {h : Heap} {bk : BookV} {D : List (Nat × List κ)} (R : BookR V h bk D) (k : Nat) : keyAt D k = bk.rows.findIdx? fun r => r.key == k := by
  have e1 : keyAt D k = (D.map (·.1)).findIdx? fun a => a == k := by unfold keyAt; rw [List.findIdx?_map]; rfl
  have e2 : (bk.rows.findIdx? fun r => r.key == k) = (bk.rows.map Row.key).findIdx? fun a => a == k := by rw [List.findIdx?_map]; rfl
  rw [e1, e2, keys_eq R]
theorem entAt_some {κ : Type} {V : Ordv κ} {h : Heap} {bk : BookV} {D : List (Nat × List κ)} (R : BookR V h bk D) {k : Nat} {l : Addr} (e : entAt bk.ents k = some l) : ∃ i r, keyAt D k = some i ∧ bk.rows[i]? = some r ∧ r.addr = l := by
  rw [entAt_rows] at e
  obtain ⟨r, hr, rfl⟩ := Option.map_eq_some_iff.mp e
  rw [keyAt_rows R]
  cases hi : bk.rows.findIdx? fun r => r.key == k with
  | none =>
    have := List.findIdx?_eq_none_iff.mp hi r (List.mem_of_find?_eq_some hr)
    rw [List.find?_some hr] at this; cases this
  | some i =>
    obtain ⟨hlt, hp, hno⟩ := List.findIdx?_eq_some_iff_getElem.mp hi
    refine ⟨i, bk.rows[i], rfl, List.getElem?_eq_getElem hlt, ?_⟩
    have : bk.rows.find? (fun r => r.key == k) = some bk.rows[i] := by
      rw [List.find?_eq_some_iff_getElem]
      exact ⟨hp, i, hlt, rfl, fun j hj => by simpa using hno j hj⟩
    rw [hr] at this
    cases this; rfl
theorem entAt_none {κ : Type} {V : Ordv κ} {h : Heap} {bk : BookV} {D : List (Nat × List κ)} (R : BookR V h bk D) {k : Nat} (e : entAt bk.ents k = none) : keyAt D k = none := by
  rw [entAt_rows, Option.map_eq_none_iff] at e
  rw [keyAt_rows R, List.findIdx?_eq_none_iff]
  intro r hr
  have := List.find?_eq_none.mp e r hr
  simpa using this
section
variable {w : World} {p : Program} {loose : List Str} {mean : ExcName → Option Value} {mg mb : Str → Option Value} {g h h' : Heap} {L a : Addr} {m : Str → Option Value} {news news' : List (Addr × Obj)}
/-- one address is changed: what stays known -/
theorem FB.chg (f : FB w p loose mean mg mb g L h m news) (C : Ch [a] h h') (ha : ∃ o, (a, o) ∈ news)
    (hn : ∀ q ∈ news', (q ∈ news ∧ q.1 ≠ a) ∨ (h'.get? q.1 = some q.2 ∧ (q.1 = a ∨ h.get? q.1 = none))) : FB w p loose mean mg mb g L h' m news' := by
  obtain ⟨o, ho⟩ := ha
  have z := f.N _ ho
  obtain ⟨oL, es, ep, hL, r⟩ := f.ns
  refine ⟨⟨oL, es, ep, C _ _ (by simpa using Ne.symm z.2.1) hL, r⟩, fun b x e => C _ _ (by rw [List.mem_singleton]; rintro rfl; rw [z.2.2] at e; cases e) (f.keep b x e), f.out, fun q hq => ?_, f.B⟩
  rcases hn q hq with ⟨h1, h2⟩ | ⟨h1, rfl | h2⟩
  · exact ⟨C _ _ (by simpa using h2) (f.N q h1).1, (f.N q h1).2⟩
  · exact ⟨h1, z.2⟩
  · refine ⟨h1, ?_, ?_⟩
    · intro e; rw [e, hL] at h2; cases h2
    · cases e : g.get? q.1 with
      | none => rfl
      | some o => rw [f.keep _ _ e] at h2; cases h2
end
theorem BookR.put {κ : Type} {V : Ordv κ} {h h' : Heap} {bk : BookV} {D : List (Nat × List κ)} (R : BookR V h bk D) (t : TK h h') {i : Nat} {vs : List Value} {c : Nat} {ks : List κ} (hr : RelL (V.rel h') vs ks) : BookR V h' (bk.put i vs c) (D.modify i fun d => (d.1, ks)) := by
  refine ⟨R.xs, ?_, by simp [BookV.put, R.len], fun j r d hj hd => ?_⟩
  · have : (bk.put i vs c).rows.map Row.addr = bk.rows.map Row.addr := by
      unfold BookV.put
      apply List.ext_getElem?
      intro j
      simp only [List.getElem?_map, List.getElem?_modify]
      cases bk.rows[j]? with
      | none => rfl
      | some r => by_cases e : i = j <;> simp [e]
    rw [this]; exact R.nd
  · unfold BookV.put at hj
    rw [List.getElem?_modify] at hj hd
    obtain ⟨r0, h0, rfl⟩ := Option.map_eq_some_iff.mp hj
    obtain ⟨d0, g0, rfl⟩ := Option.map_eq_some_iff.mp hd
    have z := R.rel j r0 d0 h0 g0
    by_cases e : i = j
    · simp only [e, if_true]; exact ⟨z.1, hr⟩
    · simp only [e, if_false]; exact ⟨z.1, z.2.mono fun _ _ => V.keep t⟩
theorem BookR.add {κ : Type} {V : Ordv κ} {h h' : Heap} {bk : BookV} {D : List (Nat × List κ)} (R : BookR V h bk D) (t : TK h h') {k : Nat} {tk : Tok} {l : Addr} {c : Nat} (hl : l ∉ bk.rows.map Row.addr) : BookR V h' (bk.add k tk l c) (D ++ [(k, [])]) := by
  refine ⟨R.xs, ?_, by simp [BookV.add, R.len], fun j r d hj hd => ?_⟩
  · unfold BookV.add
    rw [List.map_append, List.nodup_append]
    refine ⟨R.nd, by simp, ?_⟩
    intro a ha b hb
    rw [List.map_cons, List.map_nil, List.mem_singleton] at hb
    subst hb
    rintro rfl
    exact hl ha
  · unfold BookV.add at hj
    by_cases e : j < bk.rows.length
    · rw [List.getElem?_append_left e] at hj
      rw [List.getElem?_append_left (R.len ▸ e)] at hd
      exact ⟨(R.rel j r d hj hd).1, (R.rel j r d hj hd).2.mono fun _ _ => V.keep t⟩
    · rw [List.getElem?_append_right (Nat.not_lt.mp e)] at hj
      rw [List.getElem?_append_right (by rw [← R.len]; exact Nat.not_lt.mp e), ← R.len] at hd
      cases hq : j - bk.rows.length with
      | zero => rw [hq] at hj hd; cases hj; cases hd; exact ⟨rfl, RelL.nil⟩
      | succ n => rw [hq] at hj; simp at hj
theorem bookN_put {bk : BookV} {i : Nat} {r : Row} {vs : List Value} {c : Nat} (hr : bk.rows[i]? = some r) (nd : (bk.rows.map Row.addr).Nodup) (hx : r.addr ≠ bk.x) : ∀ q ∈ bookN (bk.put i vs c), (q ∈ bookN bk ∧ q.1 ≠ r.addr) ∨ (q = (r.addr, listOf vs.toArray c)) := by
  intro q hq
  have he : (bk.put i vs c).ents = bk.ents := by
    unfold BookV.put BookV.ents
    apply List.ext_getElem?
    intro j
    simp only [List.getElem?_map, List.getElem?_modify]
    cases bk.rows[j]? with
    | none => rfl
    | some r => by_cases e : i = j <;> simp [e]
  rcases List.mem_cons.mp hq with rfl | hq
  · left
    rw [he]
    exact ⟨bookN_x bk, fun e => hx e.symm⟩
  · obtain ⟨r2, hr2, rfl⟩ := List.mem_map.mp hq
    obtain ⟨j, hj⟩ := List.mem_iff_getElem?.mp hr2
    unfold BookV.put at hj
    rw [List.getElem?_modify] at hj
    obtain ⟨r0, h0, rfl⟩ := Option.map_eq_some_iff.mp hj
    by_cases e : i = j
    · subst e
      rw [hr] at h0; cases h0
      right; simp [Row.lst]
    · left
      simp only [e, if_false]
      refine ⟨bookN_row h0, fun e2 => e ?_⟩
      have hi := (List.getElem?_eq_some_iff.mp hr).1
      have hj2 := (List.getElem?_eq_some_iff.mp h0).1
      refine (List.getElem?_inj (l := bk.rows.map Row.addr) (by simpa using hi) nd).mp ?_
      rw [List.getElem?_map, List.getElem?_map, hr, h0]
      exact congrArg some e2.symm
end
section
section
variable {prog : Program} {w : World} {A : Around} {E : Value → Shared → Prop} {p : Program} {loose : List Str} {mean : ExcName → Option Value} {mg mb : Str → Option Value} {g h : Heap} {ge : Array GenState} {dr : Drawn} {tk : Nat} {os : OsState} {L : Addr} {m : Str → Option Value} {news : List (Addr × Obj)}
  {κ : Type} {V : Ordv κ} {bk : BookV} {D : List (Nat × List κ)} {fr : Bool} {Q : Value → Shared → Prop}
/-- book[k] -/
theorem fb_bookGet (S : SupOk prog) (f : FB w p loose mean mg mb g L h m news) (hs : ∀ q ∈ bookN bk, q ∈ news) (R : BookR V h bk D) (Z : Dxf w g bk fr) (hz : D.length ≤ 1000000)
    (hd : A.depth + 8 < recursionLimit) (hu : A.units + 80 < cLine) (hh : A.handled = none) {value slice : Expr} {k : Nat} {t : Tok}
    (hsl : subscripted slice false (.ref bk.x) (.int ((k : Nat) : Int) t) = operate [.ref bk.x, .int ((k : Nat) : Int) t] (getItem (.ref bk.x) (.int ((k : Nat) : Int) t)))
    (hit : ∀ i r tk', keyAt D k = some i → bk.rows[i]? = some r → Q (.ref r.addr) ⟨h, ge, dr, tk', os⟩)
    (missU : fr = false → keyAt D k = none → ∀ l h' tk' c, h.get? l = none → (∀ news', (∀ q ∈ news', (q ∈ news ∧ q.1 ≠ bk.x) ∨ q ∈ bookN (bk.add k t l c)) → FB w p loose mean mg mb g L h' m news') → BookR V h' (bk.add k t l c) (D ++ [(k, [])]) → TK h h' →
      Q (.ref l) ⟨h', ge, dr, tk', os⟩)
    (missF : fr = true → keyAt D k = none → ∀ l h' tk' c, FB w p loose mean mg mb g L h' m ((l, listOf #[] c) :: news) → (∀ q ∈ news, q.1 ≠ l) → (∀ a o, h.get? a = some o → h'.get? a = some o) → Q (.ref l) ⟨h', ge, dr, tk', os⟩) :
    wpAny (model prog w) A (subscriptTail value slice (.ref bk.x) (.int ((k : Nat) : Int) t)) Q E ⟨h, ge, dr, tk, os⟩ := by
  have hx := f.at_ (hs _ (bookN_x bk))
  have hxg := f.new_ (hs _ (bookN_x bk))
  have hdx : ∃ odx, g.get? bk.dx = some odx := by
    unfold Dxf at Z
    cases fr with
    | true =>
      simp only [if_true] at Z
      obtain ⟨f, c', c, oc, vs, t, t3, n3, ctv, pm, cl, di, sl, p1, p2, p3, pp, qual, h1, _⟩ := Z
      exact ⟨_, h1⟩
    | false => simp only [Bool.false_eq_true, if_false] at Z; exact ⟨_, Z⟩
  obtain ⟨odx, hdx⟩ := hdx
  refine fd_sub f.B.X f.keep hx hsl (fd_look f.B.X f.keep hx (f.keep _ _ hdx) (fun l tk' e => ?_) (fun tk' e => ?_))
  · obtain ⟨i, r, e1, e2, rfl⟩ := entAt_some R e
    exact hit i r tk' e1 e2
  · have kn := entAt_none R e
    cases fr with
    | false =>
      refine missing_spec S f.B f.keep hxg hx Z e (by unfold BookV.ents; rw [List.length_map, R.len]; exact hz) ?_ ?_ ?_ ?_
      · show A.depth + 2 < _; omega
      · show A.units + 1 + 40 < _; omega
      · exact hh
      intro l h' tk' c C ln hl hx'
      have ln' : l ∉ bk.rows.map Row.addr := fun hm => by
        obtain ⟨r, hr, rfl⟩ := List.mem_map.mp hm
        obtain ⟨j, hj⟩ := List.mem_iff_getElem?.mp hr
        rw [f.at_ (hs _ (bookN_row hj))] at ln; cases ln
      have tkk : TK h h' := TK.of_ch C fun q hq vs e => by
        rw [List.mem_singleton] at hq; subst hq
        rw [hx] at e; exact book_ne _ _ _ vs (Option.some.inj e)
      refine missU rfl kn l h' tk' c ln (fun news' hn => f.chg C ⟨_, hs _ (bookN_x bk)⟩ fun q hq => ?_) (R.add tkk ln') tkk
      rcases hn q hq with h1 | h1
      · exact .inl h1
      · rcases List.mem_cons.mp h1 with rfl | h1
        · right
          refine ⟨?_, .inl rfl⟩
          show h'.get? bk.x = _
          rw [hx']
          unfold BookV.add BookV.ents
          simp
        · obtain ⟨r, hr, rfl⟩ := List.mem_map.mp h1
          unfold BookV.add at hr
          rcases List.mem_append.mp hr with hr | hr
          · obtain ⟨j, hj⟩ := List.mem_iff_getElem?.mp hr
            refine .inl ⟨hs _ (bookN_row hj), f.apart (hs _ (bookN_row hj)) (hs _ (bookN_x bk)) (by intro e; cases e)⟩
          · rw [List.mem_singleton] at hr; subst hr
            exact .inr ⟨hl, .inr ln⟩
    | true =>
      refine missing_frozen S f.B f.keep hxg hx Z ?_ ?_ ?_ ?_
      · show A.depth + 3 < _; omega
      · show A.units + 1 + 40 < _; omega
      · exact hh
      intro l h' tk' c k1 ln hl
      refine missF rfl kn l h' tk' c (f.more k1 ln hl) (fun q hq e => ?_) k1
      rw [← e, (f.N q hq).1] at ln; cases ln
end
end
section
/-- whole numbers, in their order -/
def natV : Ordv Nat where
  rel := fun _ v k => ∃ t, v = .int ((k : Nat) : Int) t
  lt := fun a b => decide (a < b)
  keep := fun _ h => h
  cmp := by
    intro prog w A E s a b x y Q _ ha hb q
    obtain ⟨t, rfl⟩ := ha
    obtain ⟨u, rfl⟩ := hb
    refine mc_lt ?_
    have e : decide (((x : Nat) : Int) < ((y : Nat) : Int)) = decide (x < y) := by simp
    rw [e]; exact q
theorem natV_ints {h : Heap} : ∀ {vs : List Value} {ks : List Nat}, RelL (natV.rel h) vs ks → IntsAre vs (ks.map fun k => ((k : Nat) : Int))
  | [], [], _ => .nil
  | [], _ :: _, h => by have := h.1; simp at this
  | _ :: _, [], h => by have := h.1; simp at this
  | v :: vs, k :: ks, h => by
    obtain ⟨t, rfl⟩ := h.2 0 v k rfl rfl
    exact .cons _ _ (natV_ints (h := ‹Heap›) ⟨by simpa using h.1, fun i v k a b => h.2 (i + 1) v k a b⟩)
theorem or_eq_xor_and (a b : Nat) : (a ||| b) = (a ^^^ b) + (a &&& b) := by
  induction a using Nat.strongRecOn generalizing b with
  | ind a ih =>
    by_cases h : a = 0
    · subst h; simp
    · have e := ih (a / 2) (by omega) (b / 2)
      rw [← Nat.or_div_two, ← Nat.xor_div_two, ← Nat.and_div_two] at e
      have o := @Nat.or_mod_two_eq_one a b
      have x := @Nat.xor_mod_two_eq_one a b
      have n := @Nat.and_mod_two_eq_one a b
      omega
theorem bitAnd_nat (a b : Nat) : Builtin.bitAnd (a : Int) (b : Int) = ((a &&& b : Nat) : Int) := by
  unfold Builtin.bitAnd
  rw [decide_eq_true (by omega), decide_eq_true (by omega)]
  rfl
theorem bitOr_nat (a b : Nat) : Builtin.bitOr (a : Int) (b : Int) = ((a ||| b : Nat) : Int) := by
  have n : ∀ x : Nat, Builtin.bitNot (Builtin.bitNot (x : Int)) = (x : Int) := fun x => by unfold Builtin.bitNot; omega
  have neg : ∀ x : Nat, ¬ (0 ≤ Builtin.bitNot (x : Int)) := fun x => by unfold Builtin.bitNot; omega
  unfold Builtin.bitOr Builtin.bitAnd
  rw [decide_eq_false (neg a), decide_eq_false (neg b)]
  dsimp only
  rw [n, n, n]
  rfl
theorem bitXor_nat (a b : Nat) : Builtin.bitXor (a : Int) (b : Int) = ((a ^^^ b : Nat) : Int) := by
  unfold Builtin.bitXor
  rw [bitOr_nat, bitAnd_nat, or_eq_xor_and]
  omega
/-- how many binary figures -/
def bl (x : Nat) : Nat := if x = 0 then 0 else Nat.log2 x + 1
theorem bl_le {x s : Nat} : 2 ^ s ≤ x ↔ s < bl x := by
  unfold bl
  split
  · rename_i h; subst h
    have : 0 < 2 ^ s := Nat.two_pow_pos s
    omega
  · rename_i h
    rw [Nat.lt_succ_iff, Nat.le_log2 h]
section
variable {prog : Program} {w : World} {A : Around} {E : Value → Shared → Prop} {p : Program} {loose : List Str} {mean : ExcName → Option Value} {mg mb : Str → Option Value} {b h : Heap} {ge : Array GenState} {dr : Drawn} {tk : Nat} {os : OsState} {Q : Value → Shared → Prop}
theorem mo_pow2 {n : Nat} {t u : Tok} (hn : n ≤ 1000000) (q : ∀ t' tk', Q (.int ((2 ^ n : Nat) : Int) t') ⟨h, ge, dr, tk', os⟩) : wpAny (model prog w) A (binaryOp .Pow (.int 2 t) (.int ((n : Nat) : Int) u)) Q E ⟨h, ge, dr, tk, os⟩ := by
  refine pow_int_small (s := ⟨h, ge, dr, tk, os⟩) (by omega) (by omega) (by decide) ?_
  have e : (2 : Int) ^ (((n : Nat) : Int)).toNat = ((2 ^ n : Nat) : Int) := by simp
  rw [e]; exact q _ _
theorem mo_xor {a c : Nat} {t u : Tok} (q : ∀ t' tk', Q (.int ((a ^^^ c : Nat) : Int) t') ⟨h, ge, dr, tk', os⟩) : wpAny (model prog w) A (binaryOp .BitXor (.int ((a : Nat) : Int) t) (.int ((c : Nat) : Int) u)) Q E ⟨h, ge, dr, tk, os⟩ :=
  xor_int (s := ⟨h, ge, dr, tk, os⟩) (by rw [bitXor_nat]; exact q _ _)
local macro_rules | `(tactic| walk_at "m1") => `(tactic| first
  | (with_reducible refine seq_next ?_)
  | ((with_reducible refine' mw_local ?f ?v ?_ ?l ?k ?d); (case l => rfl); (case k => rfl); (case f => assumption); (case d => decide); (case v => first | rfl | assumption))
  | (with_reducible refine mw_cons ?_)
  | (with_reducible refine mw_nil ?_)
  | ((with_reducible refine' mw_asg ?_ ?s); (case s => rfl))
  | ((with_reducible refine' mw_st ?f ?_ ?l ?k); (case l => rfl); (case k => rfl); (case f => assumption); intro _ _ _)
  | ((with_reducible refine' mw_glob ?f ?e ?_ ?l ?k ?d ?g); (case l => rfl); (case k => rfl); (case f => assumption); (case e => k_is); (case d => decide); (case g => rfl))
  | ((with_reducible refine' mw_built ?f ?e ?v ?_ ?l ?k ?d ?g ?b ?n); (case l => rfl); (case k => rfl); (case f => assumption); (case e => k_is); (case v => boot_by_name); (case d => decide); (case g => rfl); (case b => rfl); (case n => decide))
  | ((with_reducible refine' mw_cell ?f ?c ?m ?_ ?l ?k ?d); (case l => rfl); (case k => rfl); (case f => assumption); (case c => rfl); (case m => k_mem); (case d => decide))
  | ((with_reducible refine' mw_free ?f ?c ?m ?_ ?l ?k ?d ?n); (case l => rfl); (case k => rfl); (case f => assumption); (case c => rfl); (case m => k_mem); (case d => decide); (case n => decide))
  | ((with_reducible refine mw_int ?_); intro _ _)
  | (with_reducible refine mw_bin ?_)
  | ((with_reducible refine mo_add ?_); intro _ _)
  | ((with_reducible refine mo_sub ?_); intro _ _)
  | ((with_reducible refine mo_iadd ?_); intro _ _)
  | ((with_reducible refine' mw_expr ?_ ?a ?b); (case a => rfl); (case b => rfl))
  | ((with_reducible refine' mw_call ?_ ?a); (case a => rfl))
  | (with_reducible refine mw_spn ?_)
  | ((with_reducible refine' mw_spc ?_ ?a); (case a => rfl))
  | ((with_reducible refine' mk_in ?f ?_); (case f => assumption))
  | ((with_reducible refine' mk_bi ?_ ?a ?b); (case a => rfl); (case b => rfl))
  | ((with_reducible refine' mk_def ?f ?k ?_ ?a ?b); (case f => assumption); (case k => k_is); (case a => rfl); (case b => rfl))
  | (with_reducible refine mw_if ?_)
  | ((with_reducible refine' mt_cmp ?_ ?a); (case a => rfl))
  | (with_reducible refine mt_bool ?_)
  | (with_reducible refine mc_lt ?_)
  | (with_reducible refine mc_gt ?_)
  | (with_reducible refine mc_eq ?_)
  | (with_reducible refine mc_ne ?_)
  | (with_reducible refine mc_le ?_)
  | (with_reducible refine mc_ge ?_)
  | (with_reducible refine mw_sub ?_)
  | ((with_reducible refine' mw_asgS ?_ ?s); (case s => rfl))
  | (with_reducible refine mw_ret ?_)
  | (with_reducible refine seq_ret ?_)
  | (with_reducible refine seq_brk ?_)
  | (with_reducible refine seq_cont ?_)
  | (with_reducible refine mw_brk ?_)
  | (with_reducible refine mw_cont ?_)
  | (with_reducible refine mt_and ?_)
  | (with_reducible refine mt_and0 ?_)
  | (with_reducible refine mt_or ?_)
  | (with_reducible refine mt_or0 ?_)
  | (with_reducible refine mt_not ?_)
  | (with_reducible refine mt_name ?_)
  | (with_reducible refine mt_call ?_)
  | (with_reducible refine mw_tuple ?_)
  | (with_reducible refine mw_list ?_)
  | ((with_reducible refine' mw_cmp ?_ ?a); (case a => rfl))
  | (with_reducible refine mw_un ?_)
  | ((with_reducible refine mo_neg ?_); intro _ _)
  | (with_reducible refine mo_not ?_)
  | (with_reducible refine mw_ifexp ?_)
  | (with_reducible refine mw_and ?_)
  | (with_reducible refine mw_or ?_)
  | (with_reducible refine mw_bone ?_)
  | (with_reducible refine mw_bool ?_)
  | ((with_reducible refine' ml_len ?f ?m ?z ?_); (case f => assumption); (case m => k_mem); (case z => (rw [sizeLine_eq]; omega)); intro _ _)
  | ((with_reducible refine' mo_shr1 ?z ?_); (case z => omega); intro _ _)
  | ((with_reducible refine' mk_meth ?_ ?a); (case a => rfl))
  | (with_reducible refine mk_m0 ?_)
  | ((with_reducible refine' mk_m1 ?_ ?a ?b); (case a => rfl); (case b => rfl))
  | ((with_reducible refine mw_aug ?_))
  | ((with_reducible refine' mw_ldl ?f ?v ?_ ?l ?k); (case l => rfl); (case k => rfl); (case f => assumption); (case v => first | rfl | assumption))
  | ((with_reducible refine' mw_ldc ?f ?c ?m ?_ ?l ?k); (case l => rfl); (case k => rfl); (case f => assumption); (case c => rfl); (case m => k_mem))
  | ((with_reducible refine' mw_stc ?f ?c ?u ?_ ?l ?k); (case l => rfl); (case k => rfl); (case f => assumption); (case c => rfl); (case u => k_upd); intro _ _))
local macro_rules | `(tactic| walk_at "go") => `(tactic| repeat' walk_at "m1")
local macro_rules | `(tactic| walk_at "goI") => `(tactic| repeat' ((fail_if_success (with_reducible show wpAny _ _ (exec (Stmt.If _ _ _ _) _) _ _ _)); walk_at "m1"))

/-- `_law_size` -/
theorem size_spec (B : Base w p loose mean mg mb b) (hb : b.StaysIn h) {n l : Nat} {t u : Tok} (hd : A.depth + 2 < recursionLimit) (hu : A.units + 40 < cLine) (hz : bl (n ^^^ l) ≤ 1000)
    (q : ∀ h' tk' t', (∀ a o, h.get? a = some o → h'.get? a = some o) → Q (.int ((bl (n ^^^ l) : Nat) : Int) t') ⟨h', ge, dr, tk', os⟩) :
    wpAny (model prog w) A (call (.ref 104) [.int ((n : Nat) : Int) t, .int ((l : Nat) : Int) u]) Q E ⟨h, ge, dr, tk, os⟩ := by
  have BX := B.X
  refine' mk_enter (news := []) (binds := [("number", .int ((n : Nat) : Int) t), ("last", .int ((l : Nat) : Int) u)]) B hb (by simp) ?k6 ?k7 (by omega) ?k9 ?kB ?_ ?c2 ?c3 ?c4 ?c5
  case k6 => k_is
  case k7 => k_is
  case k9 => exact fun _ => BindsTo.of_eq rfl
  case kB => exact locs rfl
  case c2 => exact rfl
  case c3 => exact rfl
  case c4 => exact rfl
  case c5 => decide
  intro g L h₁ tk₁ fb hg tg hbg
  clear BX
  have X := fb.B.X
  walk_at "go"
  clear fb
  (with_reducible rename FB _ _ _ _ _ _ _ _ _ _ _ => f1)
  refine while_cut (fun j s' => ∃ i m h tk, j = bl (n ^^^ l) - i ∧ i ≤ bl (n ^^^ l) ∧ s' = ⟨h, ge, dr, tk, os⟩ ∧ FB w p loose mean mg mb g L h m [] ∧ m "number" = some (.int ((n : Nat) : Int) t) ∧ m "last" = some (.int ((l : Nat) : Int) u) ∧ ∃ t, m "size" = some (.int ((i : Nat) : Int) t))
    (fun s' => ∃ m h tk, s' = ⟨h, ge, dr, tk, os⟩ ∧ FB w p loose mean mg mb g L h m [] ∧ ∃ t, m "size" = some (.int ((bl (n ^^^ l) : Nat) : Int) t)) ?turn (bl (n ^^^ l)) ?start ?fin
  case start => exact ⟨0, _, _, _, rfl, Nat.zero_le _, rfl, f1, rfl, rfl, _, rfl⟩
  case turn =>
    rintro j s' ⟨i, m, h, tk, rfl, hi, rfl, f, m1, m2, t3, m3⟩
    clear f1
    walk_at "go"
    refine mo_pow2 (by omega) fun t4 tk4 => ?_
    walk_at "go"
    refine mo_xor fun t5 tk5 => ?_
    walk_at "go"
    have e : decide (((2 ^ i : Nat) : Int) ≤ ((n ^^^ l : Nat) : Int)) = decide (i < bl (n ^^^ l)) := by
      rw [decide_eq_decide, ← bl_le]; omega
    rw [e]
    by_cases hc : i < bl (n ^^^ l)
    · rw [if_pos (by simpa using hc)]
      walk_at "go"
      (with_reducible rename FB _ _ _ _ _ _ _ _ _ _ _ => f2)
      exact ⟨_, by omega, i + 1, _, _, _, rfl, hc, rfl, f2, m1, m2, _, rfl⟩
    · rw [if_neg (by simpa using hc)]
      have e2 : i = bl (n ^^^ l) := by omega
      exact ⟨m, h, _, rfl, f, t3, e2 ▸ m3⟩
  case fin =>
    rintro s' ⟨m, h, tk, rfl, f, t3, m3⟩
    clear f1
    walk_at "go"
    exact q _ _ _ fun a o e => f.keep _ _ (hg _ _ (by simp) e)
end
end
section
section
variable {w : World} {p : Program} {loose : List Str} {mean : ExcName → Option Value} {mg mb : Str → Option Value} {g h h' : Heap} {L : Addr} {m : Str → Option Value} {news : List (Addr × Obj)} {κ : Type} {V : Ordv κ} {bk : BookV} {D : List (Nat × List κ)}
/-- a list of the book is changed -/
theorem FB.bookPut (f : FB w p loose mean mg mb g L h m news) (hs : ∀ q ∈ bookN bk, q ∈ news) (R : BookR V h bk D) {i : Nat} {r : Row} (hr : bk.rows[i]? = some r) {vs' : List Value} {c' : Nat} {ks' : List κ} (C : Ch [r.addr] h h') (hl : h'.get? r.addr = some (listOf vs'.toArray c')) (hk : RelL (V.rel h') vs' ks') :
    (∀ news', (∀ q ∈ news', (q ∈ news ∧ q.1 ≠ r.addr) ∨ q ∈ bookN (bk.put i vs' c')) → FB w p loose mean mg mb g L h' m news') ∧ BookR V h' (bk.put i vs' c') (D.modify i fun d => (d.1, ks')) ∧ TK h h' := by
  have hrn := hs _ (bookN_row hr)
  have tkk : TK h h' := TK.of_ch C fun q hq vs e => by
    rw [List.mem_singleton] at hq; subst hq
    rw [f.at_ hrn] at e
    exact lst_ne _ _ vs (Option.some.inj e)
  have hx : r.addr ≠ bk.x := f.apart hrn (hs _ (bookN_x bk)) (by intro e; cases e)
  refine ⟨fun news' hn => f.chg C ⟨_, hrn⟩ fun q hq => ?_, R.put tkk hk, tkk⟩
  rcases hn q hq with h1 | h1
  · exact .inl h1
  · rcases bookN_put hr R.nd hx q h1 with ⟨h2, h3⟩ | rfl
    · exact .inl ⟨hs _ h2, h3⟩
    · exact .inr ⟨hl, .inl rfl⟩
theorem put_x (bk : BookV) (i : Nat) (vs : List Value) (c : Nat) : (bk.put i vs c).x = bk.x := rfl
theorem put_dx (bk : BookV) (i : Nat) (vs : List Value) (c : Nat) : (bk.put i vs c).dx = bk.dx := rfl
theorem add_x (bk : BookV) (k : Nat) (t : Tok) (l : Addr) (c : Nat) : (bk.add k t l c).x = bk.x := rfl
theorem add_dx (bk : BookV) (k : Nat) (t : Tok) (l : Addr) (c : Nat) : (bk.add k t l c).dx = bk.dx := rfl
theorem add_row (bk : BookV) (k : Nat) (t : Tok) (l : Addr) (c : Nat) : (bk.add k t l c).rows[bk.rows.length]? = some ⟨k, t, l, [], c⟩ := by simp [BookV.add]
theorem BookR.row {D : List (Nat × List κ)} (R : BookR V h bk D) {i : Nat} {d : Nat × List κ} (hd : D[i]? = some d) : ∃ r, bk.rows[i]? = some r ∧ r.key = d.1 ∧ RelL (V.rel h) r.vals d.2 := by
  have hi : i < bk.rows.length := by rw [R.len]; exact (List.getElem?_eq_some_iff.mp hd).1
  exact ⟨_, List.getElem?_eq_getElem hi, R.rel i _ _ (List.getElem?_eq_getElem hi) hd⟩
end
/-- the book's keys so far -/
def emptyD (n : Nat) : List (Nat × List Nat) := (List.range n).map fun k => (k, [])
theorem emptyD_key (n k : Nat) : keyAt (emptyD n) k = if k < n then some k else none := by
  unfold keyAt emptyD
  rw [List.findIdx?_map]
  by_cases h : k < n
  · rw [if_pos h, List.findIdx?_eq_some_iff_getElem]
    refine ⟨by simpa using h, by simp, fun j hj => ?_⟩
    simp only [Function.comp, List.getElem_range]
    simp; omega
  · rw [if_neg h, List.findIdx?_eq_none_iff]
    intro x hx
    have := List.mem_range.mp hx
    simp; omega
theorem emptyD_succ (n : Nat) : emptyD (n + 1) = emptyD n ++ [(n, [])] := by unfold emptyD; rw [List.range_succ, List.map_append]; rfl
section
variable {prog : Program} {w : World} {A : Around} {E : Value → Shared → Prop} {p : Program} {loose : List Str} {mean : ExcName → Option Value} {mg mb : Str → Option Value} {b h : Heap} {ge : Array GenState} {dr : Drawn} {tk : Nat} {os : OsState} {Q : Value → Shared → Prop}
local macro_rules | `(tactic| walk_at "m1") => `(tactic| first
  | (with_reducible refine seq_next ?_)
  | ((with_reducible refine' mw_local ?f ?v ?_ ?l ?k ?d); (case l => rfl); (case k => rfl); (case f => assumption); (case d => decide); (case v => first | rfl | assumption))
  | (with_reducible refine mw_cons ?_)
  | (with_reducible refine mw_nil ?_)
  | ((with_reducible refine' mw_asg ?_ ?s); (case s => rfl))
  | ((with_reducible refine' mw_st ?f ?_ ?l ?k); (case l => rfl); (case k => rfl); (case f => assumption); intro _ _ _)
  | ((with_reducible refine' mw_glob ?f ?e ?_ ?l ?k ?d ?g); (case l => rfl); (case k => rfl); (case f => assumption); (case e => k_is); (case d => decide); (case g => rfl))
  | ((with_reducible refine' mw_built ?f ?e ?v ?_ ?l ?k ?d ?g ?b ?n); (case l => rfl); (case k => rfl); (case f => assumption); (case e => k_is); (case v => boot_by_name); (case d => decide); (case g => rfl); (case b => rfl); (case n => decide))
  | ((with_reducible refine' mw_cell ?f ?c ?m ?_ ?l ?k ?d); (case l => rfl); (case k => rfl); (case f => assumption); (case c => rfl); (case m => k_mem); (case d => decide))
  | ((with_reducible refine' mw_free ?f ?c ?m ?_ ?l ?k ?d ?n); (case l => rfl); (case k => rfl); (case f => assumption); (case c => rfl); (case m => k_mem); (case d => decide); (case n => decide))
  | ((with_reducible refine mw_int ?_); intro _ _)
  | (with_reducible refine mw_bin ?_)
  | ((with_reducible refine mo_add ?_); intro _ _)
  | ((with_reducible refine mo_sub ?_); intro _ _)
  | ((with_reducible refine mo_iadd ?_); intro _ _)
  | ((with_reducible refine' mw_expr ?_ ?a ?b); (case a => rfl); (case b => rfl))
  | ((with_reducible refine' mw_call ?_ ?a); (case a => rfl))
  | (with_reducible refine mw_spn ?_)
  | ((with_reducible refine' mw_spc ?_ ?a); (case a => rfl))
  | ((with_reducible refine' mk_in ?f ?_); (case f => assumption))
  | ((with_reducible refine' mk_bi ?_ ?a ?b); (case a => rfl); (case b => rfl))
  | ((with_reducible refine' mk_def ?f ?k ?_ ?a ?b); (case f => assumption); (case k => k_is); (case a => rfl); (case b => rfl))
  | (with_reducible refine mw_if ?_)
  | ((with_reducible refine' mt_cmp ?_ ?a); (case a => rfl))
  | (with_reducible refine mt_bool ?_)
  | (with_reducible refine mc_lt ?_)
  | (with_reducible refine mc_gt ?_)
  | (with_reducible refine mc_eq ?_)
  | (with_reducible refine mc_ne ?_)
  | (with_reducible refine mc_le ?_)
  | (with_reducible refine mc_ge ?_)
  | (with_reducible refine mw_sub ?_)
  | ((with_reducible refine' mw_asgS ?_ ?s); (case s => rfl))
  | (with_reducible refine mw_ret ?_)
  | (with_reducible refine seq_ret ?_)
  | (with_reducible refine seq_brk ?_)
  | (with_reducible refine seq_cont ?_)
  | (with_reducible refine mw_brk ?_)
  | (with_reducible refine mw_cont ?_)
  | (with_reducible refine mt_and ?_)
  | (with_reducible refine mt_and0 ?_)
  | (with_reducible refine mt_or ?_)
  | (with_reducible refine mt_or0 ?_)
  | (with_reducible refine mt_not ?_)
  | (with_reducible refine mt_name ?_)
  | (with_reducible refine mt_call ?_)
  | (with_reducible refine mw_tuple ?_)
  | (with_reducible refine mw_list ?_)
  | ((with_reducible refine' mw_cmp ?_ ?a); (case a => rfl))
  | (with_reducible refine mw_un ?_)
  | ((with_reducible refine mo_neg ?_); intro _ _)
  | (with_reducible refine mo_not ?_)
  | (with_reducible refine mw_ifexp ?_)
  | (with_reducible refine mw_and ?_)
  | (with_reducible refine mw_or ?_)
  | (with_reducible refine mw_bone ?_)
  | (with_reducible refine mw_bool ?_)
  | ((with_reducible refine' ml_len ?f ?m ?z ?_); (case f => assumption); (case m => k_mem); (case z => (rw [sizeLine_eq]; omega)); intro _ _)
  | ((with_reducible refine' mo_shr1 ?z ?_); (case z => omega); intro _ _)
  | ((with_reducible refine' mk_meth ?_ ?a); (case a => rfl))
  | (with_reducible refine mk_m0 ?_)
  | ((with_reducible refine' mk_m1 ?_ ?a ?b); (case a => rfl); (case b => rfl))
  | ((with_reducible refine mw_aug ?_))
  | ((with_reducible refine' mw_ldl ?f ?v ?_ ?l ?k); (case l => rfl); (case k => rfl); (case f => assumption); (case v => first | rfl | assumption))
  | ((with_reducible refine' mw_ldc ?f ?c ?m ?_ ?l ?k); (case l => rfl); (case k => rfl); (case f => assumption); (case c => rfl); (case m => k_mem))
  | ((with_reducible refine' mw_stc ?f ?c ?u ?_ ?l ?k); (case l => rfl); (case k => rfl); (case f => assumption); (case c => rfl); (case u => k_upd); intro _ _))
local macro_rules | `(tactic| walk_at "go") => `(tactic| repeat' walk_at "m1")
local macro_rules | `(tactic| walk_at "goI") => `(tactic| repeat' ((fail_if_success (with_reducible show wpAny _ _ (exec (Stmt.If _ _ _ _) _) _ _ _)); walk_at "m1"))

theorem getM_freeze {x dx : Addr} {es : Array DictEntry} {ep : Nat} (Xb : (hd.heap_39 w.params).In b) (hb : b.StaysIn h) (hx : h.get? x = some (bookO dx es ep)) (hdx : h.get? dx = some emptyDict) {pl : Sem Bool} {Q : Value × List Value → Shared → Prop}
    (q : Q (.ref 90, [.ref x]) ⟨h, ge, dr, tk, os⟩) : wpAny (model prog w) A (getMethod (.ref x) "freeze" pl) Q E ⟨h, ge, dr, tk, os⟩ := by
  have X : (Mine.hd.heap_39 w.params).In h := Xb.keeps hb
  have I : InstAt h x (bookO dx es ep) 93 (some emptyDict) := ⟨hx, rfl, rfl, hdx⟩
  have L0 := I.type (M := model prog w)
  have L1 : Looks (model prog w) h (specialOf (.ref x) "__getattribute__") (some (.builtin "collections.defaultdict.__getattribute__")) := L0.andThen (looks_findIn X (by k_is))
  have L2 : Looks (model prog w) h (specialOf (.ref x) "__getattr__") none := L0.andThen (looks_findIn X (by k_is))
  have L3 : Looks (model prog w) h (specialOf (.ref x) "freeze") (some (.ref 90)) := L0.andThen (looks_findIn X (by k_is))
  have L4 : Looks (model prog w) h (typeOf (.ref 90)) (.type "function") := looks_typeIn X (by k_is)
  have L5 : nsLook "freeze" emptyDict = pure none := nsLook_of rfl
  unfold getMethod
  refine wpAny_bind (L1.at ?_)
  dsimp only
  rw [if_neg (by decide +kernel)]
  refine wpAny_bind (L2.at ?_)
  rw [if_neg (by simp)]
  refine wpAny_bind (L3.at (wpAny_bind (L4.at ?_)))
  rw [if_neg (by decide +kernel)]
  refine wpAny_bind (wpAny_loadPart hx ?_)
  dsimp only
  unfold nsGet
  refine wpAny_bind (wpAny_bind (wpAny_loadPart hdx ?_))
  rw [L5]
  refine wpAny_pure ?_
  rw [if_neg (by simp)]
  exact wpAny_bind (wpAny_rule (wpAny_pure q))
theorem callWith_fn0 {M : Model} {A : Around} {E : Value → Shared → Prop} {s : Shared} {pos : Pos} {a : Addr} {o : Obj} {fd : FuncData} {first : List Value} {env : Env} {Q : Value → Shared → Prop} (ho : s.heap.get? a = some o) (hd : o.data = .func fd)
    (q : wpAny M A (call (.ref a) (first ++ [])) Q E s) : wpAny M A (callWith pos (.ref a) first (backTo pos (starEach [] env)) []) Q E s :=
  callWith_function (args := []) (PyProof.Rows.evalArgs_none ⟨⟨ho, hd⟩, q⟩)
theorem fn_data {K : Frag} {h : Heap} (X : K.In h) {a : Addr} {oc : Value} {od : Option Addr} {fd : FuncData} {sl : Array (Option Value)} (e : K.lookup a = some ⟨oc, od, .func fd, sl⟩) : ∃ o fd, h.get? a = some o ∧ o.data = .func fd := ⟨_, _, X _ _ e, rfl⟩
theorem bookN_nf (bk : BookV) : ∀ q ∈ bookN bk, ∀ vs, q.2.data ≠ .fields vs := by
  intro q hq vs e
  rcases List.mem_cons.mp hq with rfl | hq
  · cases e
  · obtain ⟨r, _, rfl⟩ := List.mem_map.mp hq
    cases e
/-- `_law_book` -/
theorem lawbook_spec (S : SupOk prog) (B : Base w p loose mean mg mb b) (hb : b.StaysIn h) (htb : b.get? 85 = none) {ps : Array Value} (ht : h.get? 85 = some (tabObj ps)) {n : Nat} {t : Tok} (hp : 0 < n → ps = #[]) (hn : n ≤ 1000)
    (hd : A.depth + 20 < recursionLimit) (hu : A.units + 200 < cLine) (hh : A.handled = none)
    (q : ∀ h' tk' bk ps', Ch [85] h h' → h'.get? 85 = some (tabObj ps') → (∀ q ∈ bookN bk, h'.get? q.1 = some q.2 ∧ h.get? q.1 = none) → BookR natV h' bk (emptyD n) → Dxf w h' bk (decide (0 < n)) → (∀ q ∈ bookN bk, q.1 ≠ bk.dx) → (n = 0 → ps' = ps) → Q (.ref bk.x) ⟨h', ge, dr, tk', os⟩) :
    wpAny (model prog w) A (call (.ref 111) [.int ((n : Nat) : Int) t]) Q E ⟨h, ge, dr, tk, os⟩ := by
  have BX := B.X
  refine' mk_enter (news := [(85, tabObj ps)]) (binds := [("count", .int ((n : Nat) : Int) t)]) B hb ?k0 ?k6 ?k7 (by omega) ?k9 ?kB ?_ ?c2 ?c3 ?c4 ?c5
  case k0 =>
    intro q hq; rw [List.mem_singleton] at hq; subst hq
    exact ⟨ht, htb, tab_ne _⟩
  case k6 => k_is
  case k7 => k_is
  case k9 => exact fun _ => BindsTo.of_eq rfl
  case kB => exact locs rfl
  case c2 => exact rfl
  case c3 => exact rfl
  case c4 => exact rfl
  case c5 => decide
  intro g L h₁ tk₁ fb hg tg hbg
  clear BX
  have X := fb.B.X
  walk_at "go"
  refine fd_make fb.B.X fb.keep ?_
  intro x dx h2 k2 hdx0 hxdx hx2 hdx2
  have xsys : (x == sysModules) = false := by
    have h2 : ∃ o, h₁.get? 2 = some o := by
      obtain ⟨mc, a, _⟩ := fb.B.T.nolimit
      obtain ⟨o, _, _, e, _⟩ := a
      exact ⟨o, fb.keep _ _ e⟩
    obtain ⟨o2, e2⟩ := h2
    have h3 : (2 : Nat) < h₁.objs.size := Heap.lt_size e2
    have e : @Ne Nat x 1 := by omega
    simpa [sysModules] using e
  have nx : h₁.get? x = none := Heap.get?_none_of_le (Nat.le_trans hdx0 (Nat.le_of_lt hxdx))
  have ndx : h₁.get? dx = none := Heap.get?_none_of_le hdx0
  have gdx : g.get? dx = none := by
    cases e : g.get? dx with
    | none => rfl
    | some o => rw [fb.keep _ _ e] at ndx; cases ndx
  have f2 := (fb.more k2 nx hx2).cons hdx2 (by rintro rfl; obtain ⟨oL, _, _, hL, _⟩ := fb.ns; rw [hL] at ndx; cases ndx) gdx
  walk_at "go"
  clear fb
  refine mw_for ?_ (fun _ => rfl)
  walk_at "go"
  refine mk_ty ?_ rfl rfl
  walk_at "go"
  (with_reducible rename FB _ _ _ _ _ _ _ _ _ _ _ => f3)
  have n85 : @Ne Nat x 85 := f3.apart (o := bookO dx #[] 0) (o' := tabObj ps) (by k_mem) (by k_mem) (by intro e; cases e)
  have ndx85 : @Ne Nat dx 85 := f3.apart (o := emptyDict) (o' := tabObj ps) (by k_mem) (by k_mem) (by intro e; cases e)
  have xdx : @Ne Nat x dx := Nat.ne_of_gt hxdx
  obtain ⟨g1, fr, st6, ch6, tk6⟩ := f3.rebase (news' := [(85, tabObj ps), (x, bookO dx #[] 0)]) (by simp) (by
    intro q hq
    rcases List.mem_cons.mp hq with rfl | hq
    · exact tab_ne _
    · rw [List.mem_singleton] at hq; subst hq; exact book_ne _ _ _)
  have g1dx : g1.get? dx = some emptyDict := by
    refine ch6 _ _ ?_ (f3.at_ (by k_mem))
    have z := f3.N (dx, emptyDict) (by k_mem)
    intro hm
    rcases List.mem_cons.mp hm with hm | hm
    · exact z.2.1 hm
    · simp only [List.map_cons, List.map_nil, List.mem_cons, List.not_mem_nil, or_false] at hm
      rcases hm with hm | hm
      · exact ndx85 hm
      · exact xdx hm.symm
  refine mi_range fr ?_
  intro r h4 tk4 u v f4 lr
  refine mi_rangeIter f4 (by k_mem) (by omega) ?_
  intro I h5 f5 of5 hi5
  have f6 := f5.sub (news' := [(85, tabObj ps)] ++ bookN ⟨x, dx, 0, []⟩) (fun q hq => .tail _ hq)
  have hh' : (A.deeper (envOf "_law_book" { kind := ScopeKind.function, names := [("count", .local), ("book", .local), ("size", .local), ("FreezableDefaultDict", .globalImplicit), ("list", .globalImplicit), ("range", .globalImplicit), ("heapify", .globalImplicit)], isGenerator := false, isCoroutine := false } L 111 (.ref 110))).handled = none := hh
  refine for_fb (Walks.range (prog := prog) (w := w) hh' I 0 1 n) (fun i h hi => ⟨_, hi, rit_ne _⟩)
    (fun i h m news => ∃ bk, news = [(85, tabObj ps)] ++ bookN bk ∧ BookR natV h bk (emptyD i) ∧ bk.x = x ∧ bk.dx = dx ∧ m "book" = some (.ref x) ∧ ∃ t, m "count" = some (.int ((n : Nat) : Int) t))
    ?hJ ?hnt f6 (fun hm => of5.n (List.mem_cons_of_mem _ hm)) of5.l of5.g (fun b hb => .inl (by simpa using hb)) (by simpa using hi5) ⟨_, rfl, ⟨xsys, List.nodup_nil, rfl, fun i r d a => by simp at a⟩, rfl, rfl, rfl, _, rfl⟩ ?turn ?fin
  case hJ =>
    rintro i h h' m news t ⟨bk, e1, R, e2⟩
    exact ⟨bk, e1, R.mono t, e2⟩
  case hnt =>
    rintro i h m news ⟨bk, rfl, _⟩ q hq vs
    rcases List.mem_append.mp hq with hq | hq
    · rw [List.mem_singleton] at hq; subst hq
      exact tab_ne _ vs
    · exact bookN_ne bk q hq vs
  case turn =>
    rintro i v g' h tk m news hi ⟨t7, rfl⟩ ⟨bk, rfl, R, e1, e2, m1, m2⟩ f st7 tk7
    rw [show (0 : Int) + (i : Int) * 1 = ((i : Nat) : Int) by omega]
    refine mw_goN (mw_asgN f ?_ rfl rfl)
    intro h7 tk7' f7
    walk_at "go"
    (with_reducible rename FB _ _ _ _ _ _ _ _ _ _ _ => f8)
    have Z : Dxf w g' bk false := by
      show g'.get? bk.dx = some emptyDict
      rw [e2]; exact st7 _ _ g1dx
    have R8 := (R.mono tk7).mono (TK.of_keep f8.keep)
    rw [← e1]
    refine fb_bookGet S f8 (fun q hq => List.mem_append_right _ hq) R8 Z (by simp [emptyD]; omega) ?_ ?_ ?_ rfl ?_ ?_ ?_
    · show A.depth + 1 + 8 < _; omega
    · show A.units + 3 + 80 < _; omega
    · exact hh
    · intro j r tk' hj hr
      rw [emptyD_key, if_neg (Nat.lt_irrefl _)] at hj; cases hj
    · intro _ hk l h9 tk9 c9 _ F9 R9 t9
      have hrow := add_row bk i t7 l c9
      have f9 := F9 ([(85, tabObj ps)] ++ bookN (bk.add i t7 l c9)) (fun q hq => by
        rcases List.mem_append.mp hq with hq | hq
        · refine .inl ⟨List.mem_append_left _ hq, ?_⟩
          rw [List.mem_singleton] at hq; subst hq
          exact f8.apart (o := tabObj ps) (List.mem_append_left _ (.head _)) (List.mem_append_right _ (bookN_x bk)) (by intro e; cases e)
        · exact .inr hq)
      walk_at "go"
      have hb9 : ∀ q ∈ bookN (bk.add i t7 l c9), q ∈ [(85, tabObj ps)] ++ bookN (bk.add i t7 l c9) := fun q hq => List.mem_append_right _ hq
      refine heapify_spec natV (ks := []) (vs := []) f9.B f9.keep (f9.at_ (hb9 _ (bookN_row hrow))) (f9.new_ (hb9 _ (bookN_row hrow))) RelL.nil (by simp) ?_ ?_ ?_ ?_
      · show A.depth + 1 + 2 < _; omega
      · show A.units + 3 + 40 < _; omega
      · exact hh
      intro h10 tk10 vs10 c10 C10 hl10 R10
      obtain ⟨F11, R11, t11⟩ := f9.bookPut hb9 R9 hrow C10 hl10 R10
      have f11 := F11 ([(85, tabObj ps)] ++ bookN ((bk.add i t7 l c9).put bk.rows.length vs10 c10)) (fun q hq => by
        rcases List.mem_append.mp hq with hq | hq
        · refine .inl ⟨List.mem_append_left _ hq, ?_⟩
          rw [List.mem_singleton] at hq; subst hq
          exact f9.apart (o := tabObj ps) (List.mem_append_left _ (.head _)) (hb9 _ (bookN_row hrow)) (by intro e; cases e)
        · exact .inr hq)
      walk_at "go"
      refine ⟨_, _, _, _, rfl, f11, _, rfl, ?_, rfl, e2, by rw [e1]; exact m1, m2⟩
      have e3 : (emptyD i ++ [(i, [])]).modify bk.rows.length (fun d => (d.1, hify natV.lt (([] : List Nat).length / 2) [])) = emptyD (i + 1) := by
        rw [emptyD_succ, R.len]
        apply List.ext_getElem?
        intro j
        rw [List.getElem?_modify]
        by_cases hj : (emptyD i).length = j
        · subst hj
          rw [List.getElem?_append_right (Nat.le_refl _), Nat.sub_self]
          simp [hify]
        · simp [hj]
      rw [← e3]; exact R11
    · intro e; cases e
  case fin =>
    rintro h tk m news ⟨bk, rfl, R, e1, e2, m1, t8, m2⟩ f
    have fb2 := f.back st6 f3.B
    have hdx8 : h.get? dx = some emptyDict := f.keep _ _ g1dx
    have hxx : (x, bookO dx (bookEs bk.ents) bk.ep) ∈ [(85, tabObj ps)] ++ bookN bk := by
      have := bookN_x bk
      rw [e1, e2] at this
      exact List.mem_append_right _ this
    have nqd : ∀ q ∈ bookN bk, @Ne Nat q.1 dx := fun q hq e => by
      have z := f.new_ (List.mem_append_right [(85, tabObj ps)] hq)
      rw [show q.1 = dx from e, g1dx] at z; cases z
    have fin : ∀ h' tk' ps', (∀ a o, a ≠ 85 → a ≠ dx → h.get? a = some o → h'.get? a = some o) → TK h h' → h'.get? 85 = some (tabObj ps') → Dxf w h' bk (decide (0 < n)) → (n = 0 → ps' = ps) → Q (.ref x) ⟨h', ge, dr, tk', os⟩ := by
      intro h' tk' ps' C t' h85 Zf hz0
      rw [← e1]
      refine q h' tk' bk ps' (fun a o na e => ?_) h85 (fun q hq => ⟨C _ _ ?_ ?_ (fb2.at_ (List.mem_append_right _ hq)), ?_⟩) (R.mono t') Zf (fun q hq => ?_) hz0
      · have ga := hg _ _ (by simpa using na) e
        refine C _ _ (by simpa using na) ?_ (fb2.keep _ _ ga)
        rintro rfl; rw [gdx] at ga; cases ga
      · exact (fb2.apart (List.mem_append_right _ hq) (List.mem_append_left _ (.head _)) (bookN_nf bk q hq _))
      · exact nqd q hq
      · cases e : (_ : Heap).get? q.1 with
        | none => rfl
        | some o =>
          have := hg _ _ (by simpa using (fb2.apart (List.mem_append_right _ hq) (List.mem_append_left _ (.head _)) (bookN_nf bk q hq _))) e
          rw [fb2.new_ (List.mem_append_right _ hq)] at this; cases this
      · rw [e2]; exact nqd q hq
    walk_at "go"
    by_cases hn0 : 0 < n
    · rw [if_pos (by simp; omega)]
      walk_at "go"
      refine getM_freeze fb2.B.X fb2.keep (fb2.at_ hxx) hdx8 ?_
      obtain ⟨o90, fd90, ho90, hd90⟩ : ∃ o fd, h.get? 90 = some o ∧ o.data = .func fd := by
        refine' fn_data (fb2.B.X.keeps fb2.keep) ?e
        case e => k_is
      refine callWith_fn0 ho90 hd90 ?_
      refine freeze_spec fb2.B fb2.keep (fb2.new_ hxx) (fb2.at_ hxx) hdx8 gdx (fb2.new_ (.head _)) (by rw [← hp hn0]; exact fb2.at_ (.head _)) ?_ ?_ ?_ ?_
      · show A.depth + 1 + 2 < _; omega
      · show A.units + 3 + 40 < _; omega
      · exact hh
      intro h10 tk10 ps10 C10 Fz h85
      have f10 : FB w p loose mean mg mb g L h10 m [] := by
        obtain ⟨oL, esL, epL, hL, rL⟩ := fb2.ns
        refine ⟨⟨oL, esL, epL, C10 _ _ ?_ hL, rL⟩, fun a o e => C10 _ _ ?_ (fb2.keep a o e), fb2.out, by simp, fb2.B⟩
        · intro hm
          rcases List.mem_cons.mp hm with hm | hm
          · exact (f3.N (dx, emptyDict) (by k_mem)).2.1 hm.symm
          · rw [List.mem_singleton] at hm
            exact (fb2.N (85, tabObj ps) (.head _)).2.1 hm.symm
        · intro hm
          rcases List.mem_cons.mp hm with hm | hm
          · subst hm; rw [gdx] at e; cases e
          · rw [List.mem_singleton] at hm; subst hm
            rw [fb2.new_ (.head _)] at e; cases e
      walk_at "go"
      refine fin _ _ ps10 (fun a o n1 n2 e => C10 _ _ (by simp; exact ⟨n2, n1⟩) e) (TK.of_ch C10 ?_) h85 ?_ (fun e => absurd e (by omega))
      · intro a ha vs e
        rcases List.mem_cons.mp ha with rfl | ha
        · rw [hdx8] at e; exact dict_ne _ _ vs (Option.some.inj e)
        · rw [List.mem_singleton] at ha; subst ha
          rw [fb2.at_ (.head _)] at e; exact tab_ne _ vs (Option.some.inj e)
      · unfold Dxf
        rw [if_pos (by simpa using hn0), e1, e2]
        exact Fz
    · rw [if_neg (by simp; omega)]
      walk_at "go"
      refine fin _ _ ps (fun a o _ _ e => e) (TK.refl _) (fb2.at_ (.head _)) ?_ (fun _ => rfl)
      unfold Dxf
      rw [if_neg (by simpa using hn0), e2]
      exact hdx8
end
end
section
def lookD {κ : Type} (fr : Bool) (D : List (Nat × List κ)) (k : Nat) : List (Nat × List κ) := match keyAt D k with
  | some _ => D
  | none => if fr = true then D else D ++ [(k, [])]
def lstD {κ : Type} (D : List (Nat × List κ)) (k : Nat) : List κ := match keyAt D k with
  | some i => (D[i]?.map (·.2)).getD []
  | none => []
def setD {κ : Type} (D : List (Nat × List κ)) (k : Nat) (ks : List κ) : List (Nat × List κ) := match keyAt D k with
  | some i => D.modify i fun d => (d.1, ks)
  | none => D
def Apart (extra : List (Addr × Obj)) (bk : BookV) : Prop := ∀ q ∈ extra, ∀ q' ∈ bookN bk, q.1 ≠ q'.1
theorem keyAt_push {κ : Type} {D : List (Nat × List κ)} {k : Nat} {ks : List κ} (h : keyAt D k = none) : keyAt (D ++ [(k, ks)]) k = some D.length := by
  unfold keyAt at *
  rw [List.findIdx?_append, h]
  simp
section
variable {w : World} {p : Program} {loose : List Str} {mean : ExcName → Option Value} {mg mb : Str → Option Value} {g h h' : Heap} {L : Addr} {m : Str → Option Value} {extra : List (Addr × Obj)} {κ : Type} {V : Ordv κ} {bk : BookV} {D : List (Nat × List κ)}
theorem bookN_put_fst (bk : BookV) (i : Nat) (vs : List Value) (c : Nat) : ∀ q ∈ bookN (bk.put i vs c), ∃ q' ∈ bookN bk, q'.1 = q.1 := by
  intro q hq
  rcases List.mem_cons.mp hq with rfl | hq
  · exact ⟨_, bookN_x bk, rfl⟩
  · obtain ⟨r2, hr2, rfl⟩ := List.mem_map.mp hq
    obtain ⟨j, hj⟩ := List.mem_iff_getElem?.mp hr2
    unfold BookV.put at hj
    rw [List.getElem?_modify] at hj
    obtain ⟨r0, h0, rfl⟩ := Option.map_eq_some_iff.mp hj
    refine ⟨_, bookN_row h0, ?_⟩
    by_cases e : i = j <;> simp [e]
theorem Apart.put (a : Apart extra bk) (i : Nat) (vs : List Value) (c : Nat) : Apart extra (bk.put i vs c) := fun q hq q' hq' e => by
  obtain ⟨q2, h2, e2⟩ := bookN_put_fst bk i vs c q' hq'
  exact a q hq q2 h2 (e.trans e2.symm)
theorem Apart.add (a : Apart extra bk) {k : Nat} {t : Tok} {l : Addr} {c : Nat} (hl : ∀ q ∈ extra, q.1 ≠ l) : Apart extra (bk.add k t l c) := fun q hq q' hq' e => by
  rcases List.mem_cons.mp hq' with rfl | hq'
  · exact a q hq _ (bookN_x bk) e
  · obtain ⟨r, hr, rfl⟩ := List.mem_map.mp hq'
    unfold BookV.add at hr
    rcases List.mem_append.mp hr with hr | hr
    · obtain ⟨j, hj⟩ := List.mem_iff_getElem?.mp hr
      exact a q hq _ (bookN_row hj) e
    · rw [List.mem_singleton] at hr; subst hr
      exact hl q hq e
/-- a list of the book is changed, the rest beside the book stands -/
theorem book_put (f : FB w p loose mean mg mb g L h m (extra ++ bookN bk)) (ap : Apart extra bk) (R : BookR V h bk D) {i : Nat} {r : Row} (hr : bk.rows[i]? = some r) {vs' : List Value} {c' : Nat} {ks' : List κ} (C : Ch [r.addr] h h') (hl : h'.get? r.addr = some (listOf vs'.toArray c')) (hk : RelL (V.rel h') vs' ks') :
    FB w p loose mean mg mb g L h' m (extra ++ bookN (bk.put i vs' c')) ∧ Apart extra (bk.put i vs' c') ∧ BookR V h' (bk.put i vs' c') (D.modify i fun d => (d.1, ks')) ∧ TK h h' := by
  obtain ⟨F, R', t⟩ := f.bookPut (fun q hq => List.mem_append_right _ hq) R hr C hl hk
  refine ⟨F _ fun q hq => ?_, ap.put _ _ _, R', t⟩
  rcases List.mem_append.mp hq with hq | hq
  · exact .inl ⟨List.mem_append_left _ hq, ap q hq _ (bookN_row hr)⟩
  · exact .inr hq
end
section
variable {prog : Program} {w : World} {A : Around} {E : Value → Shared → Prop} {p : Program} {loose : List Str} {mean : ExcName → Option Value} {mg mb : Str → Option Value} {g h : Heap} {ge : Array GenState} {dr : Drawn} {tk : Nat} {os : OsState} {L : Addr} {m : Str → Option Value} {extra : List (Addr × Obj)}
  {κ : Type} {V : Ordv κ} {bk : BookV} {D : List (Nat × List κ)} {fr : Bool} {Q : Value → Shared → Prop}
/-- book[k], beside the book `extra` stands -/
theorem book_at (S : SupOk prog) {x : Addr} (ex : bk.x = x) (f : FB w p loose mean mg mb g L h m (extra ++ bookN bk)) (ap : Apart extra bk) (R : BookR V h bk D) (Z : Dxf w g bk fr) (hz : D.length ≤ 1000000)
    (hd : A.depth + 8 < recursionLimit) (hu : A.units + 80 < cLine) (hh : A.handled = none) {value slice : Expr} {k : Nat} {t : Tok}
    (hsl : subscripted slice false (.ref x) (.int ((k : Nat) : Int) t) = operate [.ref x, .int ((k : Nat) : Int) t] (getItem (.ref x) (.int ((k : Nat) : Int) t)))
    (inb : ∀ bk' i r h' tk', FB w p loose mean mg mb g L h' m (extra ++ bookN bk') → Apart extra bk' → BookR V h' bk' (lookD fr D k) → Dxf w g bk' fr → bk'.x = x → bk'.dx = bk.dx → keyAt (lookD fr D k) k = some i → bk'.rows[i]? = some r → TK h h' → Q (.ref r.addr) ⟨h', ge, dr, tk', os⟩)
    (out : fr = true → keyAt D k = none → ∀ l h' tk' c, FB w p loose mean mg mb g L h' m ((l, listOf #[] c) :: (extra ++ bookN bk)) → (∀ q ∈ extra ++ bookN bk, q.1 ≠ l) → BookR V h' bk D → (∀ a o, h.get? a = some o → h'.get? a = some o) → Q (.ref l) ⟨h', ge, dr, tk', os⟩) :
    wpAny (model prog w) A (subscriptTail value slice (.ref x) (.int ((k : Nat) : Int) t)) Q E ⟨h, ge, dr, tk, os⟩ := by
  subst ex
  refine fb_bookGet S f (fun q hq => List.mem_append_right _ hq) R Z hz hd hu hh hsl ?_ ?_ ?_
  · intro i r tk' hi hr
    have e : lookD fr D k = D := by unfold lookD; rw [hi]
    exact inb bk i r h tk' f ap (by rw [e]; exact R) Z rfl rfl (by rw [e]; exact hi) hr (TK.refl _)
  · intro hf hn l h' tk' c ln F R' t'
    subst hf
    have e : lookD false D k = D ++ [(k, [])] := by unfold lookD; rw [hn]; rfl
    have hl : ∀ q ∈ extra, q.1 ≠ l := fun q hq e => by
      have z := (f.N q (List.mem_append_left _ hq)).1
      rw [e, ln] at z; cases z
    refine inb (bk.add k t l c) D.length ⟨k, t, l, [], c⟩ h' tk' (F _ fun q hq => ?_) (ap.add hl) (by rw [e]; exact R') Z rfl rfl (by rw [e]; exact keyAt_push hn) (by rw [← R.len]; exact add_row bk k t l c) t'
    rcases List.mem_append.mp hq with hq | hq
    · exact .inl ⟨List.mem_append_left _ hq, ap q hq _ (bookN_x bk)⟩
    · exact .inr hq
  · intro hf hn l h' tk' c F hl k1
    exact out hf hn l h' tk' c F hl (R.mono (TK.of_keep k1)) k1
end
/-- book[k] where k is a key -/
theorem book_hit {prog : Program} {w : World} {A : Around} {E : Value → Shared → Prop} {p : Program} {loose : List Str} {mean : ExcName → Option Value} {mg mb : Str → Option Value} {g h : Heap} {ge : Array GenState} {dr : Drawn} {tk : Nat} {os : OsState} {L : Addr} {m : Str → Option Value} {news : List (Addr × Obj)}
    {κ : Type} {V : Ordv κ} {bk : BookV} {D : List (Nat × List κ)} {fr : Bool} {Q : Value → Shared → Prop} (S : SupOk prog) {x : Addr} (ex : bk.x = x) (f : FB w p loose mean mg mb g L h m news) (hs : ∀ q ∈ bookN bk, q ∈ news) (R : BookR V h bk D) (Z : Dxf w g bk fr) (hz : D.length ≤ 1000000)
    (hd : A.depth + 8 < recursionLimit) (hu : A.units + 80 < cLine) (hh : A.handled = none) {value slice : Expr} {k i : Nat} {t : Tok} (hk : keyAt D k = some i)
    (hsl : subscripted slice false (.ref x) (.int ((k : Nat) : Int) t) = operate [.ref x, .int ((k : Nat) : Int) t] (getItem (.ref x) (.int ((k : Nat) : Int) t)))
    (q : ∀ r tk', bk.rows[i]? = some r → Q (.ref r.addr) ⟨h, ge, dr, tk', os⟩) :
    wpAny (model prog w) A (subscriptTail value slice (.ref x) (.int ((k : Nat) : Int) t)) Q E ⟨h, ge, dr, tk, os⟩ := by
  subst ex
  refine fb_bookGet S f hs R Z hz hd hu hh hsl ?_ ?_ ?_
  · intro j r tk' hj hr
    rw [hk] at hj; cases hj
    exact q r tk' hr
  · intro _ hn; rw [hk] at hn; cases hn
  · intro _ hn; rw [hk] at hn; cases hn
theorem BookR.nat {h h' : Heap} {bk : BookV} {D : List (Nat × List Nat)} (R : BookR natV h bk D) : BookR natV h' bk D := ⟨R.xs, R.nd, R.len, R.rel⟩
theorem ml_eq {prog : Program} {w : World} {A : Around} {E : Value → Shared → Prop} {s : Shared} {Q : Value → Shared → Prop} {a b : Addr} {vs us : List Value} {ns ms : List Nat} {c d : Nat} (ha : s.heap.get? a = some (listOf vs.toArray c)) (hi : RelL (natV.rel s.heap) vs ns)
    (hb : s.heap.get? b = some (listOf us.toArray d)) (hj : RelL (natV.rel s.heap) us ms) (hu : A.units + 64 < cLine) (q : Q (.bool (decide (ns = ms))) s) : wpAny (model prog w) A (compareOp .Eq (.ref a) (.ref b)) Q E s := by
  refine eq_intsK (isList_of ha) (natV_ints hi) (isList_of hb) (natV_ints hj) hu ?_
  have e : decide (ns.map (fun k => ((k : Nat) : Int)) = ms.map (fun k => ((k : Nat) : Int))) = decide (ns = ms) := by
    rw [decide_eq_decide]
    exact ⟨fun h => List.map_inj_right (fun x y e => by omega) |>.mp h, fun h => by rw [h]⟩
  rw [e]; exact q
theorem ml_ne {prog : Program} {w : World} {A : Around} {E : Value → Shared → Prop} {s : Shared} {Q : Value → Shared → Prop} {a b : Addr} {vs us : List Value} {ns ms : List Nat} {c d : Nat} (ha : s.heap.get? a = some (listOf vs.toArray c)) (hi : RelL (natV.rel s.heap) vs ns)
    (hb : s.heap.get? b = some (listOf us.toArray d)) (hj : RelL (natV.rel s.heap) us ms) (hu : A.units + 64 < cLine) (q : Q (.bool (!decide (ns = ms))) s) : wpAny (model prog w) A (compareOp .NotEq (.ref a) (.ref b)) Q E s := by
  refine ne_intsK (isList_of ha) (natV_ints hi) (isList_of hb) (natV_ints hj) hu ?_
  have e : decide (ns.map (fun k => ((k : Nat) : Int)) = ms.map (fun k => ((k : Nat) : Int))) = decide (ns = ms) := by
    rw [decide_eq_decide]
    exact ⟨fun h => List.map_inj_right (fun x y e => by omega) |>.mp h, fun h => by rw [h]⟩
  rw [e]; exact q
section
variable {prog : Program} {w : World} {A : Around} {p : Program} {loose : List Str} {mean : ExcName → Option Value} {mg mb : Str → Option Value} {g h : Heap} {ge : Array GenState} {dr : Drawn} {tk : Nat} {os : OsState} {env : Env} {m : Str → Option Value} {news : List (Addr × Obj)}
theorem emitP_mono {elt : Expr} {acc : Value} (X Y : Shared → Prop) (s : Shared) (h : ∀ s, X s → Y s) (x : emitP prog w A elt acc env X s) : emitP prog w A elt acc env Y s :=
  wpAny_mono x (fun _ _ x => wpAny_mono x (fun _ s x => h s x) fun _ _ e => e) fun _ _ e => e
theorem deeperP_mono {iter e : Expr} {d : Nat} {acc : Value} (X Y : Shared → Prop) (s : Shared) (h : ∀ s, X s → Y s) (x : deeperP prog w A iter e d acc env X s) : deeperP prog w A iter e d acc env Y s :=
  wpAny_mono x (fun _ _ x => ⟨x.1, wpAny_mono x.2 (fun _ _ x => codeAny_mono x fun r s x => by cases r with | ok f => exact h s x | error e => exact x) fun _ _ e => e⟩) fun _ _ e => e
/-- a comprehension of one clause, from its first turn on -/
theorem comp1_go {elt target iter : Expr} {ifs : List Expr} {scope : Scope} {pos : Pos} {acc : Value} {R : Result → Shared → Prop} {I : Addr} {fp : List Addr} {n : Nat} {P : Nat → Value → Prop} {St : Nat → Heap → Prop} (W : Walks prog w A I fp [I] n P St)
    (hI : ∀ i h, St i h → ∃ o, h.get? I = some o ∧ ∀ vs, o ≠ tupO vs)
    (J : Nat → Heap → (Str → Option Value) → List (Addr × Obj) → Prop)
    (hJ : ∀ i h h' m news, TK h h' → J i h m news → J i h' m news)
    (hnt : ∀ i h m news, J i h m news → ∀ q ∈ news, ∀ vs, q.2 ≠ tupO vs)
    (f : FB w p loose mean mg mb g env.locals h m news) (hIn : I ∉ news.map (·.1)) (hIL : I ≠ env.locals) (hIg : g.get? I = none) (hfp : ∀ b ∈ fp, b = I ∨ ∃ o, g.get? b = some o)
    (hst : St 0 h) (hj : J 0 h m news)
    (turn : ∀ i v g' h tk m news, i < n → P i v → J i h m news → FB w p loose mean mg mb g' env.locals h m news → g.StaysIn g' → TK h g' →
      CompT prog w A env target ifs (.ref I) (emitP prog w A elt acc env) v (fun s₃ => ∃ h' tk' m' news', s₃ = ⟨h', ge, dr, tk', os⟩ ∧ FB w p loose mean mg mb g' env.locals h' m' news' ∧ J (i + 1) h' m' news') ⟨h, ge, dr, tk, os⟩)
    (fin : ∀ h tk m news, J n h m news → FB w p loose mean mg mb g env.locals h m news → R (.ok .next) ⟨h, ge, dr, tk, os⟩) :
    codeAny (model prog w) A (.compStart (.ListComp elt [⟨target, iter, ifs, 0⟩] scope pos) 0 (.ref I) acc env) R ⟨h, ge, dr, tk, os⟩ := by
  obtain ⟨Iv, ⟨k, hk⟩, _, turn'⟩ := walk_turn W (R (.ok .next)) (CompT prog w A env target ifs (.ref I) (emitP prog w A elt acc env)) (fun v X Y s hXY x => CompT.mono (fun X Y s h x => emitP_mono X Y s h x) v X Y s hXY x) hI J hJ hnt f hIn hIL hIg hfp hst hj turn fin
  have loop : codeAny (model prog w) A (.compLoop (.ListComp elt [⟨target, iter, ifs, 0⟩] scope pos) 0 (.ref I) acc env) R ⟨h, ge, dr, tk, os⟩ :=
    compLoop_gen (comp_form1 elt target iter ifs scope pos (.ref I) acc env) rfl rfl rfl (fun X s hx k Q' hk => emit_ok X s hx k Q' hk) Iv turn' k hk
  exact compStart_gen (gc := ⟨target, iter, ifs, 0⟩) rfl rfl rfl loop (W.self 0 _ _ _ hst loop)
end
theorem tests_nil {M : Model} {A : Around} {E : Value → Shared → Prop} {s : Shared} {env : Env} {Q : Bool → Shared → Prop} (q : Q true s) : wpAny M A (compTests [] env) Q E s := wpAny_pure q
theorem tests_one {M : Model} {A : Around} {E : Value → Shared → Prop} {s : Shared} {env : Env} {c : Expr} {Q : Bool → Shared → Prop} (q : wpAny M A (isTrue c env (eval c env)) Q E s) : wpAny M A (compTests [c] env) Q E s := by
  unfold compTests
  rw [List.forIn_cons]
  refine wpAny_bind ?_
  rw [if_pos rfl]
  refine wpAny_bind (wpAny_mono q (fun b s' hb => wpAny_pure ?_) fun _ _ e => e)
  dsimp only
  rw [List.forIn_nil]
  exact wpAny_pure hb
end
section
/-- popped again and again -/
def popN {κ : Type} (lt : κ → κ → Bool) (ks : List κ) : Nat → List κ × List κ
  | 0 => ([], ks)
  | n + 1 => match hpop lt (popN lt ks n).2 with
    | some (y, b) => ((popN lt ks n).1 ++ [y], b)
    | none => popN lt ks n
theorem hpop_some {κ : Type} (lt : κ → κ → Bool) {ks : List κ} (h : ks ≠ []) : ∃ y b, hpop lt ks = some (y, b) ∧ b.length + 1 = ks.length := by
  cases hx : ks.getLast? with
  | none => rw [List.getLast?_eq_none_iff] at hx; exact absurd hx h
  | some x =>
    have e := congrArg List.length (split_last hx)
    rw [List.length_append, List.length_singleton] at e
    unfold hpop
    rw [hx]
    cases hd : ks.dropLast with
    | nil => rw [hd] at e; exact ⟨x, [], rfl, by simpa using e.symm⟩
    | cons y r =>
      rw [hd] at e
      refine ⟨y, _, rfl, ?_⟩
      rw [siftup_length]; simpa using e.symm
theorem popN_len {κ : Type} (lt : κ → κ → Bool) (ks : List κ) : ∀ n, n ≤ ks.length → (popN lt ks n).2.length + n = ks.length ∧ (popN lt ks n).1.length = n
  | 0, _ => ⟨rfl, rfl⟩
  | n + 1, h => by
    have ih := popN_len lt ks n (by omega)
    obtain ⟨y, b, e, hb⟩ := hpop_some lt (ks := (popN lt ks n).2) (by intro e; rw [e] at ih; simp at ih; omega)
    simp only [popN, e]
    exact ⟨by omega, by simp [ih.2]⟩
def pushD (fr : Bool) (l : Nat) (D : List (Nat × List Nat)) (n : Nat) : List (Nat × List Nat) :=
  setD (lookD fr D (bl (n ^^^ l))) (bl (n ^^^ l)) (hpush natV.lt (lstD (lookD fr D (bl (n ^^^ l))) (bl (n ^^^ l))) n)
def touchD {κ : Type} (fr : Bool) (D : List (Nat × List κ)) (n : Nat) : List (Nat × List κ) := (List.range n).foldl (fun D k => lookD fr D k) D
theorem touchD_succ {κ : Type} (fr : Bool) (D : List (Nat × List κ)) (n : Nat) : touchD fr D (n + 1) = lookD fr (touchD fr D n) n := by unfold touchD; rw [List.range_succ, List.foldl_append]; rfl
theorem keyAt_lt {κ : Type} {D : List (Nat × κ)} {k i : Nat} (h : keyAt D k = some i) : ∃ d, D[i]? = some d ∧ d.1 = k := by
  obtain ⟨hlt, hp, _⟩ := List.findIdx?_eq_some_iff_getElem.mp h
  exact ⟨_, List.getElem?_eq_getElem hlt, by simpa using hp⟩
theorem lstD_at {κ : Type} {D : List (Nat × List κ)} {k i : Nat} {d : Nat × List κ} (h : keyAt D k = some i) (hd : D[i]? = some d) : lstD D k = d.2 := by unfold lstD; rw [h]; simp [hd]
theorem keyAt_append {κ : Type} {D : List (Nat × List κ)} {k j : Nat} {ks : List κ} : keyAt (D ++ [(k, ks)]) j = match keyAt D j with | some i => some i | none => if k = j then some D.length else none := by
  unfold keyAt
  rw [List.findIdx?_append]
  cases hj : D.findIdx? fun d => d.1 == j with
  | some i => rfl
  | none => by_cases e : k = j <;> simp [e]
theorem lstD_look {κ : Type} (fr : Bool) (D : List (Nat × List κ)) (k j : Nat) : lstD (lookD fr D k) j = lstD D j := by
  unfold lookD
  cases hk : keyAt D k with
  | some i => rfl
  | none =>
    dsimp only
    split
    · rfl
    · unfold lstD
      rw [keyAt_append]
      cases hj : keyAt D j with
      | some i =>
        obtain ⟨d, hd, _⟩ := keyAt_lt hj
        dsimp only
        rw [List.getElem?_append_left (List.getElem?_eq_some_iff.mp hd).1]
      | none =>
        dsimp only
        by_cases e : k = j
        · rw [if_pos e]; simp
        · rw [if_neg e]
theorem lstD_touch {κ : Type} (fr : Bool) (D : List (Nat × List κ)) (n j : Nat) : lstD (touchD fr D n) j = lstD D j := by
  induction n with
  | zero => rfl
  | succ n ih => rw [touchD_succ, lstD_look, ih]
theorem lookD_len {κ : Type} (fr : Bool) (D : List (Nat × List κ)) (k : Nat) : (lookD fr D k).length ≤ D.length + 1 := by
  unfold lookD
  split
  · omega
  · split
    · omega
    · simp
theorem touchD_len {κ : Type} (fr : Bool) (D : List (Nat × List κ)) (n : Nat) : (touchD fr D n).length ≤ D.length + n := by
  induction n with
  | zero => exact Nat.le_refl _
  | succ n ih => rw [touchD_succ]; have := lookD_len fr (touchD fr D n) n; omega
section
variable {prog : Program} {w : World} {A : Around} {E : Value → Shared → Prop} {p : Program} {loose : List Str} {mean : ExcName → Option Value} {mg mb : Str → Option Value} {g h : Heap} {ge : Array GenState} {dr : Drawn} {tk : Nat} {os : OsState} {L : Addr} {m : Str → Option Value} {news news' : List (Addr × Obj)} {env : Env}
theorem mw_stcG {x : Str} {v : Value} {v₀ : Option Value} {c : Addr} {cl : Value} {di : Option Addr} {sl : Array (Option Value)} {Q : Unit → Shared → Prop} (f : FB w p loose mean mg mb g L h m news) (hc : env.cells.lookup x = some c) (hm : (c, cellW cl di sl v₀) ∈ news) (hn : ∀ q ∈ news', (q ∈ news ∧ q.1 ≠ c) ∨ q = (c, cellW cl di sl (some v)))
    (q : ∀ h', FB w p loose mean mg mb g L h' m news' → TK h h' → Q () ⟨h', ge, dr, tk, os⟩) (hl : env.kindOf x = some .cell) (hk : env.scope.kind = .function) : wpAny (model prog w) A (storeName env x v) Q E ⟨h, ge, dr, tk, os⟩ := by
  have hc0 := f.at_ hm
  unfold storeName
  simp only [hl, hk]
  refine wpAny_bind (wpAny_cellOf hc ?_)
  unfold cellSet
  refine wpAny_bind (wpAny_load hc0 ?_)
  refine wpAny_update hc0 ?_
  have hs : Heap.SameBut c h (h.update c fun o => { o with data := .cell (some v) }) := Heap.SameBut.update ..
  have ho : (h.update c fun o => { o with data := .cell (some v) }).get? c = some (cellW cl di sl (some v)) := Heap.get?_update_self _ hc0 rfl
  refine q _ (f.chg (Ch.of_same hs) ⟨_, hm⟩ fun r hr => ?_) (TK.of_ch (Ch.of_same hs) fun r hr vs e => ?_)
  · rcases hn r hr with h1 | rfl
    · exact .inl h1
    · exact .inr ⟨ho, .inl rfl⟩
  · rw [List.mem_singleton] at hr; subst hr
    rw [hc0] at e; exact cellW_ne _ _ _ _ vs (Option.some.inj e)
end
theorem ml_pushG {prog : Program} {w : World} {A : Around} {E : Value → Shared → Prop} {p : Program} {loose : List Str} {mean : ExcName → Option Value} {mg mb : Str → Option Value} {g h : Heap} {ge : Array GenState} {dr : Drawn} {tk : Nat} {os : OsState} {L l : Addr} {m : Str → Option Value} {news news' : List (Addr × Obj)} {vs : List Value} {n : Nat} {v : Value} {Q : Value → Shared → Prop}
    (f : FB w p loose mean mg mb g L h m news) (hm : (l, listOf vs.toArray n) ∈ news) (hn : ∀ q ∈ news', (q ∈ news ∧ q.1 ≠ l) ∨ q = (l, listOf (vs ++ [v]).toArray (n + 1))) (hz : vs.length ≤ sizeLine)
    (q : ∀ h', FB w p loose mean mg mb g L h' m news' → TK h h' → Q .none ⟨h', ge, dr, tk, os⟩) : wpAny (model prog w) A (call (.builtin "list.append") [.ref l, v]) Q E ⟨h, ge, dr, tk, os⟩ :=
  append_at (s := ⟨h, ge, dr, tk, os⟩) (f.at_ hm) (fun h' hs ho => q h' (f.chg (Ch.of_same hs) ⟨_, hm⟩ fun r hr => by
    rcases hn r hr with h1 | rfl
    · exact .inl h1
    · exact .inr ⟨by rw [ho]; simp, .inl rfl⟩) (TK.of_ch (Ch.of_same hs) fun r hr vs' e => by
      rw [List.mem_singleton] at hr; subst hr
      rw [f.at_ hm] at e; exact lst_ne _ _ vs' (Option.some.inj e))) (by rw [List.size_toArray]; exact hz)
theorem keyAt_modify {κ : Type} {D : List (Nat × κ)} {i : Nat} {F : κ → κ} (k : Nat) : keyAt (D.modify i fun d => (d.1, F d.2)) k = keyAt D k := by
  unfold keyAt
  have e : ∀ (l : List (Nat × κ)), (l.findIdx? fun d => d.1 == k) = (l.map (·.1)).findIdx? fun a => a == k := fun l => by rw [List.findIdx?_map]; rfl
  rw [e, e]
  congr 1
  apply List.ext_getElem?
  intro j
  simp only [List.getElem?_map, List.getElem?_modify]
  cases D[j]? with
  | none => rfl
  | some d => by_cases e : i = j <;> simp [e]
theorem modify_twice {κ : Type} (D : List (Nat × List κ)) (i : Nat) (X Y : List κ) : (D.modify i fun d => (d.1, X)).modify i (fun d => (d.1, Y)) = D.modify i fun d => (d.1, Y) := by
  apply List.ext_getElem?
  intro j
  simp only [List.getElem?_modify]
  cases D[j]? with
  | none => rfl
  | some d => by_cases e : i = j <;> simp [e]
theorem hpush_len {κ : Type} (lt : κ → κ → Bool) (ks : List κ) (x : κ) : (hpush lt ks x).length = ks.length + 1 := by unfold hpush; rw [sdF_length]; simp
theorem lookD_all {κ : Type} {fr : Bool} {D : List (Nat × List κ)} {k B : Nat} (h : ∀ d ∈ D, d.2.length ≤ B) : ∀ d ∈ lookD fr D k, d.2.length ≤ B := by
  intro d hd
  unfold lookD at hd
  split at hd
  · exact h d hd
  · split at hd
    · exact h d hd
    · rcases List.mem_append.mp hd with hd | hd
      · exact h d hd
      · rw [List.mem_singleton] at hd; subst hd; simp
theorem touchD_all {κ : Type} {fr : Bool} {D : List (Nat × List κ)} {n B : Nat} (h : ∀ d ∈ D, d.2.length ≤ B) : ∀ d ∈ touchD fr D n, d.2.length ≤ B := by
  induction n with
  | zero => exact h
  | succ n ih => rw [touchD_succ]; exact lookD_all ih
theorem lstD_all {κ : Type} {D : List (Nat × List κ)} {k B : Nat} (h : ∀ d ∈ D, d.2.length ≤ B) : (lstD D k).length ≤ B := by
  unfold lstD
  cases hk : keyAt D k with
  | none => simp
  | some j =>
    obtain ⟨d0, hd0, _⟩ := keyAt_lt hk
    simp only [hd0, Option.map_some, Option.getD_some]
    exact h d0 (List.mem_of_getElem? hd0)
theorem setD_all {κ : Type} {D : List (Nat × List κ)} {k B : Nat} {ks : List κ} (h : ∀ d ∈ D, d.2.length ≤ B) (hk : ks.length ≤ B) : ∀ d ∈ setD D k ks, d.2.length ≤ B := by
  intro d hd
  unfold setD at hd
  split at hd
  · obtain ⟨j, hj⟩ := List.mem_iff_getElem?.mp hd
    rw [List.getElem?_modify] at hj
    obtain ⟨d0, h0, rfl⟩ := Option.map_eq_some_iff.mp hj
    split
    · exact hk
    · exact h _ (List.mem_of_getElem? h0)
  · exact h d hd
theorem setD_len {κ : Type} (D : List (Nat × List κ)) (k : Nat) (ks : List κ) : (setD D k ks).length = D.length := by
  unfold setD
  split
  · simp
  · rfl
theorem pushes_bound {fr : Bool} {l B : Nat} : ∀ (ns : List Nat) (D : List (Nat × List Nat)), (∀ d ∈ D, d.2.length ≤ B) → (∀ d ∈ ns.foldl (pushD fr l) D, d.2.length ≤ B + ns.length) ∧ (ns.foldl (pushD fr l) D).length ≤ D.length + ns.length := by
  intro ns
  induction ns generalizing B with
  | nil => intro D h; exact ⟨h, Nat.le_refl _⟩
  | cons n r ih =>
    intro D h
    have h1 : ∀ d ∈ pushD fr l D n, d.2.length ≤ B + 1 := by
      unfold pushD
      refine setD_all (fun d hd => Nat.le_succ_of_le (lookD_all h d hd)) ?_
      rw [hpush_len]
      exact Nat.succ_le_succ (lstD_all (lookD_all h))
    have h2 : (pushD fr l D n).length ≤ D.length + 1 := by
      unfold pushD; rw [setD_len]; exact lookD_len fr D _
    obtain ⟨a, b⟩ := ih (B := B + 1) (pushD fr l D n) h1
    refine ⟨fun d hd => ?_, ?_⟩
    · have := a d hd; simp only [List.length_cons]; omega
    · simp only [List.foldl_cons, List.length_cons]; omega
/-- cells lie beside a book -/
theorem FB.cellsApart {w : World} {p : Program} {loose : List Str} {mean : ExcName → Option Value} {mg mb : Str → Option Value} {g h : Heap} {L : Addr} {m : Str → Option Value} {news : List (Addr × Obj)} {bk : BookV} (f : FB w p loose mean mg mb g L h m news) (hs : ∀ q ∈ bookN bk, q ∈ news) {c : Addr} {cl : Value} {di : Option Addr} {sl : Array (Option Value)} {v : Option Value} (hm : (c, cellW cl di sl v) ∈ news) :
    ∀ q' ∈ bookN bk, c ≠ q'.1 := fun q' hq' => f.apart hm (hs q' hq') (by
      rcases List.mem_cons.mp hq' with rfl | hq'
      · intro e; cases e
      · obtain ⟨r, _, rfl⟩ := List.mem_map.mp hq'
        intro e; cases e)
section
variable {prog : Program} {w : World} {A : Around} {E : Value → Shared → Prop} {p : Program} {loose : List Str} {mean : ExcName → Option Value} {mg mb : Str → Option Value} {b h : Heap} {ge : Array GenState} {dr : Drawn} {tk : Nat} {os : OsState} {Q : Value → Shared → Prop}
local macro_rules | `(tactic| walk_at "m1") => `(tactic| first
  | (with_reducible refine seq_next ?_)
  | ((with_reducible refine' mw_local ?f ?v ?_ ?l ?k ?d); (case l => rfl); (case k => rfl); (case f => assumption); (case d => decide); (case v => first | rfl | assumption))
  | (with_reducible refine mw_cons ?_)
  | (with_reducible refine mw_nil ?_)
  | ((with_reducible refine' mw_asg ?_ ?s); (case s => rfl))
  | ((with_reducible refine' mw_st ?f ?_ ?l ?k); (case l => rfl); (case k => rfl); (case f => assumption); intro _ _ _)
  | ((with_reducible refine' mw_glob ?f ?e ?_ ?l ?k ?d ?g); (case l => rfl); (case k => rfl); (case f => assumption); (case e => k_is); (case d => decide); (case g => rfl))
  | ((with_reducible refine' mw_built ?f ?e ?v ?_ ?l ?k ?d ?g ?b ?n); (case l => rfl); (case k => rfl); (case f => assumption); (case e => k_is); (case v => boot_by_name); (case d => decide); (case g => rfl); (case b => rfl); (case n => decide))
  | ((with_reducible refine' mw_cell ?f ?c ?m ?_ ?l ?k ?d); (case l => rfl); (case k => rfl); (case f => assumption); (case c => rfl); (case m => k_mem); (case d => decide))
  | ((with_reducible refine' mw_free ?f ?c ?m ?_ ?l ?k ?d ?n); (case l => rfl); (case k => rfl); (case f => assumption); (case c => rfl); (case m => k_mem); (case d => decide); (case n => decide))
  | ((with_reducible refine mw_int ?_); intro _ _)
  | (with_reducible refine mw_bin ?_)
  | ((with_reducible refine mo_add ?_); intro _ _)
  | ((with_reducible refine mo_sub ?_); intro _ _)
  | ((with_reducible refine mo_iadd ?_); intro _ _)
  | ((with_reducible refine' mw_expr ?_ ?a ?b); (case a => rfl); (case b => rfl))
  | ((with_reducible refine' mw_call ?_ ?a); (case a => rfl))
  | (with_reducible refine mw_spn ?_)
  | ((with_reducible refine' mw_spc ?_ ?a); (case a => rfl))
  | ((with_reducible refine' mk_in ?f ?_); (case f => assumption))
  | ((with_reducible refine' mk_bi ?_ ?a ?b); (case a => rfl); (case b => rfl))
  | ((with_reducible refine' mk_def ?f ?k ?_ ?a ?b); (case f => assumption); (case k => k_is); (case a => rfl); (case b => rfl))
  | (with_reducible refine mw_if ?_)
  | ((with_reducible refine' mt_cmp ?_ ?a); (case a => rfl))
  | (with_reducible refine mt_bool ?_)
  | (with_reducible refine mc_lt ?_)
  | (with_reducible refine mc_gt ?_)
  | (with_reducible refine mc_eq ?_)
  | (with_reducible refine mc_ne ?_)
  | (with_reducible refine mc_le ?_)
  | (with_reducible refine mc_ge ?_)
  | (with_reducible refine mw_sub ?_)
  | ((with_reducible refine' mw_asgS ?_ ?s); (case s => rfl))
  | (with_reducible refine mw_ret ?_)
  | (with_reducible refine seq_ret ?_)
  | (with_reducible refine seq_brk ?_)
  | (with_reducible refine seq_cont ?_)
  | (with_reducible refine mw_brk ?_)
  | (with_reducible refine mw_cont ?_)
  | (with_reducible refine mt_and ?_)
  | (with_reducible refine mt_and0 ?_)
  | (with_reducible refine mt_or ?_)
  | (with_reducible refine mt_or0 ?_)
  | (with_reducible refine mt_not ?_)
  | (with_reducible refine mt_name ?_)
  | (with_reducible refine mt_call ?_)
  | (with_reducible refine mw_tuple ?_)
  | (with_reducible refine mw_list ?_)
  | ((with_reducible refine' mw_cmp ?_ ?a); (case a => rfl))
  | (with_reducible refine mw_un ?_)
  | ((with_reducible refine mo_neg ?_); intro _ _)
  | (with_reducible refine mo_not ?_)
  | (with_reducible refine mw_ifexp ?_)
  | (with_reducible refine mw_and ?_)
  | (with_reducible refine mw_or ?_)
  | (with_reducible refine mw_bone ?_)
  | (with_reducible refine mw_bool ?_)
  | ((with_reducible refine' ml_len ?f ?m ?z ?_); (case f => assumption); (case m => k_mem); (case z => (rw [sizeLine_eq]; omega)); intro _ _)
  | ((with_reducible refine' mo_shr1 ?z ?_); (case z => omega); intro _ _)
  | ((with_reducible refine' mk_meth ?_ ?a); (case a => rfl))
  | (with_reducible refine mk_m0 ?_)
  | ((with_reducible refine' mk_m1 ?_ ?a ?b); (case a => rfl); (case b => rfl))
  | ((with_reducible refine mw_aug ?_))
  | ((with_reducible refine' mw_ldl ?f ?v ?_ ?l ?k); (case l => rfl); (case k => rfl); (case f => assumption); (case v => first | rfl | assumption))
  | ((with_reducible refine' mw_ldc ?f ?c ?m ?_ ?l ?k); (case l => rfl); (case k => rfl); (case f => assumption); (case c => rfl); (case m => k_mem))
  | ((with_reducible refine' mw_stc ?f ?c ?u ?_ ?l ?k); (case l => rfl); (case k => rfl); (case f => assumption); (case c => rfl); (case u => k_upd); intro _ _))
local macro_rules | `(tactic| walk_at "go") => `(tactic| repeat' walk_at "m1")
local macro_rules | `(tactic| walk_at "goI") => `(tactic| repeat' ((fail_if_success (with_reducible show wpAny _ _ (exec (Stmt.If _ _ _ _) _) _ _ _)); walk_at "m1"))

/-- `_law_least` -/
theorem least_spec (S : SupOk prog) (B : Base w p loose mean mg mb b) (hb : b.StaysIn h) {bk : BookV} {D : List (Nat × List Nat)} {fr : Bool} (hN : ∀ q ∈ bookN bk, h.get? q.1 = some q.2 ∧ b.get? q.1 = none) (R : BookR natV h bk D) (Z : Dxf w b bk fr)
    {s : Nat} (hs0 : ∀ j, j < s → lstD D j = []) (hs1 : lstD D s ≠ []) (hsz : s ≤ 1000) (hDz : D.length ≤ 1000) (hlz : ∀ d ∈ D, d.2.length ≤ 1000)
    (hd : A.depth + 20 < recursionLimit) (hu : A.units + 300 < cLine) (hh : A.handled = none)
    {y : Nat} {k1 : List Nat} (hp : hpop natV.lt (lstD D s) = some (y, k1)) (hbl : ∀ n ∈ (popN natV.lt k1 k1.length).1, bl (n ^^^ y) ≤ 1000)
    (q : ∀ h' tk' t' bk', Ch ((bookN bk).map (·.1)) h h' → (∀ q ∈ bookN bk', h'.get? q.1 = some q.2 ∧ (q.1 ∈ (bookN bk).map (·.1) ∨ h.get? q.1 = none)) → BookR natV h' bk' ((popN natV.lt k1 k1.length).1.foldl (pushD fr y) (setD (touchD fr D s) s [])) → bk'.x = bk.x → bk'.dx = bk.dx → Q (.int ((y : Nat) : Int) t') ⟨h', ge, dr, tk', os⟩) :
    wpAny (model prog w) A (call (.ref 116) [.ref bk.x]) Q E ⟨h, ge, dr, tk, os⟩ := by
  have BX := B.X
  refine' mk_enterC (news := bookN bk) (binds := [("book", .ref bk.x)]) B hb ?k0 ?k6 ?k7 (by omega) ?k9 ?kB ?kN ?_ ?c2 ?c3 ?c4
  case k0 => exact fun q hq => ⟨(hN q hq).1, (hN q hq).2, bookN_ne bk q hq⟩
  case k6 => k_is
  case k7 => k_is
  case k9 => exact fun _ => BindsTo.of_eq rfl
  case kB =>
    intro n y hy
    rw [List.mem_singleton] at hy; subst hy
    exact .inr ⟨rfl, rfl⟩
  case kN => decide
  case c2 => exact rfl
  case c3 => exact rfl
  case c4 => exact rfl
  intro g L h₁ tk₁ cells fb hcs hg tg hbg
  obtain ⟨cl1, di1, sl1, cl2, di2, sl2, rfl⟩ := cells_two hcs
  clear BX
  have X := fb.B.X
  replace fb : FB w p loose mean mg mb g L h₁ (fun _ => none) ((L + 1 + 1, cellW cl1 di1 sl1 none) :: (L + 1, cellW cl2 di2 sl2 (some (.ref bk.x))) :: bookN bk) := fb
  have R1 := (R.mono tg).mono (TK.of_keep fb.keep)
  have Z1 := Z.keeps hbg
  have n12 : @Ne Nat (L + 1 + 1) (L + 1) := by omega
  walk_at "go"
  rename_i tq tkq
  refine mw_stcG (news' := (L + 1 + 1, cellW cl1 di1 sl1 (some (.int 0 tq))) :: (L + 1, cellW cl2 di2 sl2 (some (.ref bk.x))) :: bookN bk) fb rfl (.head _) ?_ ?_ rfl rfl
  · intro r hr
    rcases List.mem_cons.mp hr with rfl | hr
    · exact .inr rfl
    · refine .inl ⟨.tail _ hr, ?_⟩
      rcases List.mem_cons.mp hr with rfl | hr
      · exact n12.symm
      · exact (fb.cellsApart (bk := bk) (fun q hq => .tail _ (.tail _ hq)) (.head _) r hr).symm
  intro h2 f2 t2
  clear fb
  walk_at "go"
  refine while_cut (fun j s' => ∃ i bk' h tk t, j = s - i ∧ i ≤ s ∧ s' = ⟨h, ge, dr, tk, os⟩ ∧ FB w p loose mean mg mb g L h (fun _ => none) ((L + 1 + 1, cellW cl1 di1 sl1 (some (.int ((i : Nat) : Int) t))) :: (L + 1, cellW cl2 di2 sl2 (some (.ref bk.x))) :: bookN bk') ∧
      BookR natV h bk' (touchD fr D i) ∧ Dxf w g bk' fr ∧ bk'.x = bk.x ∧ bk'.dx = bk.dx)
    (fun s' => ∃ bk' h tk t, s' = ⟨h, ge, dr, tk, os⟩ ∧ FB w p loose mean mg mb g L h (fun _ => none) ((L + 1 + 1, cellW cl1 di1 sl1 (some (.int ((s : Nat) : Int) t))) :: (L + 1, cellW cl2 di2 sl2 (some (.ref bk.x))) :: bookN bk') ∧
      BookR natV h bk' (touchD fr D s) ∧ Dxf w g bk' fr ∧ bk'.x = bk.x ∧ bk'.dx = bk.dx) ?turn s ?start ?fin
  case start => exact ⟨0, bk, _, _, _, rfl, Nat.zero_le _, rfl, f2, R1.mono t2, Z1, rfl, rfl⟩
  case turn =>
    rintro j s' ⟨i, bk', h, tk, t, rfl, hi, rfl, f, R', Z', ex, ed⟩
    clear f2
    walk_at "go"
    have ap : Apart [(L + 1 + 1, cellW cl1 di1 sl1 (some (.int ((i : Nat) : Int) t))), (L + 1, cellW cl2 di2 sl2 (some (.ref bk.x)))] bk' := by
      intro q hq
      rcases List.mem_cons.mp hq with rfl | hq
      · exact f.cellsApart (fun q hq => .tail _ (.tail _ hq)) (.head _)
      · rw [List.mem_singleton] at hq; subst hq
        exact f.cellsApart (fun q hq => .tail _ (.tail _ hq)) (.tail _ (.head _))
    have key : decide (lstD D i = []) = decide (i < s) := by
      by_cases hc : i < s
      · rw [hs0 i hc]; simp [hc]
      · have : i = s := by omega
        subst this; simp [hs1]
    have tl := touchD_len fr D i
    refine book_at S ex (extra := [(L + 1 + 1, cellW cl1 di1 sl1 (some (.int ((i : Nat) : Int) t))), (L + 1, cellW cl2 di2 sl2 (some (.ref bk.x)))]) f ap R' Z' (by omega) ?_ ?_ ?_ rfl ?_ ?_
    · show A.depth + 1 + 8 < _; omega
    · show A.units + 3 + 80 < _; omega
    · exact hh
    · intro bk2 i2 r h3 tk3 f3 ap3 R3 Z3 ex3 ed3 hi2 hr t3
      rw [← touchD_succ] at R3 hi2
      obtain ⟨d, hdi, hdk⟩ := keyAt_lt hi2
      have hrel := R3.rel i2 r d hr hdi
      have hlst : lstD D i = d.2 := by rw [← lstD_touch fr D (i + 1) i]; exact lstD_at hi2 hdi
      walk_at "go"
      refine ml_new f3 (by simp) ?_
      intro e h4 f4 le
      have hrow4 := f4.at_ (.tail _ (List.mem_append_right _ (bookN_row hr)))
      refine ml_eq hrow4 hrel.2 (f4.at_ (.head _)) (ms := []) RelL.nil ?_ ?_
      · show A.units + 3 + 64 < _; omega
      rw [← hlst, key]
      walk_at "go"
      by_cases hc : i < s
      · rw [if_pos (by simpa using hc)]
        walk_at "go"
        (with_reducible rename FB _ _ _ _ _ _ _ _ _ _ _ => f5)
        rename_i tq5 tkq5
        have f6 := f5.sub (news' := (L + 1 + 1, cellW cl1 di1 sl1 (some (.int ((i : Nat) : Int) t))) :: (L + 1, cellW cl2 di2 sl2 (some (.ref bk.x))) :: bookN bk2) (fun q hq => .tail _ hq)
        refine mw_stcG (news' := (L + 1 + 1, cellW cl1 di1 sl1 (some (.int (((i + 1 : Nat) : Nat) : Int) tq5))) :: (L + 1, cellW cl2 di2 sl2 (some (.ref bk.x))) :: bookN bk2) f6 rfl (.head _) ?_ ?_ rfl rfl
        · intro r hr
          rcases List.mem_cons.mp hr with rfl | hr
          · exact .inr rfl
          · refine .inl ⟨.tail _ hr, ?_⟩
            rcases List.mem_cons.mp hr with rfl | hr
            · exact n12.symm
            · exact (f6.cellsApart (bk := bk2) (fun q hq => .tail _ (.tail _ hq)) (.head _) r hr).symm
        intro h7 f7 t7
        walk_at "go"
        exact ⟨_, by omega, i + 1, bk2, _, _, _, rfl, hc, rfl, f7, R3.nat, Z3, ex3, ed3.trans ed⟩
      · rw [if_neg (by simpa using hc)]
        have e5 : i = s := by omega
        subst e5
        have e6 : touchD fr D (i + 1) = touchD fr D i := by
          rw [touchD_succ]
          unfold lookD
          cases hk : keyAt (touchD fr D i) i with
          | some j => rfl
          | none =>
            exfalso
            apply hs1
            rw [← lstD_touch fr D i i]
            unfold lstD; rw [hk]
        exact ⟨bk2, h4, _, t, rfl, f4.sub (fun q hq => .tail _ hq), e6 ▸ R3.nat, Z3, ex3, ed3.trans ed⟩
    · intro hf hn l h3 tk3 c3 f3 hl R3 k3
      have hc : i < s := by
        by_cases hc : i < s
        · exact hc
        · exfalso
          have e5 : i = s := by omega
          subst e5
          apply hs1
          rw [← lstD_touch fr D i i]
          unfold lstD; rw [hn]
      have e6 : touchD fr D (i + 1) = touchD fr D i := by
        rw [touchD_succ]
        unfold lookD
        rw [hn]; dsimp only; rw [if_pos hf]
      walk_at "go"
      refine ml_new f3 (by simp) ?_
      intro e h4 f4 le
      refine ml_eq (ns := []) (ms := []) (f4.at_ (.tail _ (.head _))) RelL.nil (f4.at_ (.head _)) RelL.nil ?_ ?_
      · show A.units + 3 + 64 < _; omega
      walk_at "go"
      rw [if_pos (by simp)]
      walk_at "go"
      (with_reducible rename FB _ _ _ _ _ _ _ _ _ _ _ => f5)
      rename_i tq5 tkq5
      have f6 := f5.sub (news' := (L + 1 + 1, cellW cl1 di1 sl1 (some (.int ((i : Nat) : Int) t))) :: (L + 1, cellW cl2 di2 sl2 (some (.ref bk.x))) :: bookN bk') (fun q hq => .tail _ (.tail _ hq))
      refine mw_stcG (news' := (L + 1 + 1, cellW cl1 di1 sl1 (some (.int (((i + 1 : Nat) : Nat) : Int) tq5))) :: (L + 1, cellW cl2 di2 sl2 (some (.ref bk.x))) :: bookN bk') f6 rfl (.head _) ?_ ?_ rfl rfl
      · intro r hr
        rcases List.mem_cons.mp hr with rfl | hr
        · exact .inr rfl
        · refine .inl ⟨.tail _ hr, ?_⟩
          rcases List.mem_cons.mp hr with rfl | hr
          · exact n12.symm
          · exact (f6.cellsApart (bk := bk') (fun q hq => .tail _ (.tail _ hq)) (.head _) r hr).symm
      intro h7 f7 t7
      walk_at "go"
      exact ⟨_, by omega, i + 1, bk', _, _, _, rfl, hc, rfl, f7, e6 ▸ R3.nat, Z', ex, ed⟩
  case fin =>
    rintro s' ⟨bk', h, tk, t, rfl, f, R', Z', ex, ed⟩
    clear f2
    obtain ⟨i, hi⟩ : ∃ i, keyAt (touchD fr D s) s = some i := by
      cases hk : keyAt (touchD fr D s) s with
      | some i => exact ⟨i, rfl⟩
      | none => exact absurd (by rw [← lstD_touch fr D s s]; unfold lstD; rw [hk]) hs1
    obtain ⟨d, hdi, hdk⟩ := keyAt_lt hi
    have hlst : lstD D s = d.2 := by rw [← lstD_touch fr D s s]; exact lstD_at hi hdi
    have tl := touchD_len fr D s
    have hkl : (lstD D s).length ≤ 1000 := by
      unfold lstD
      cases hk : keyAt D s with
      | none => simp
      | some j =>
        obtain ⟨d0, hd0, _⟩ := keyAt_lt hk
        simp only [hd0, Option.map_some, Option.getD_some]
        exact hlz d0 (List.mem_of_getElem? hd0)
    have ap : Apart [(L + 1 + 1, cellW cl1 di1 sl1 (some (.int ((s : Nat) : Int) t))), (L + 1, cellW cl2 di2 sl2 (some (.ref bk.x)))] bk' := by
      intro q hq
      rcases List.mem_cons.mp hq with rfl | hq
      · exact f.cellsApart (fun q hq => .tail _ (.tail _ hq)) (.head _)
      · rw [List.mem_singleton] at hq; subst hq
        exact f.cellsApart (fun q hq => .tail _ (.tail _ hq)) (.tail _ (.head _))
    walk_at "go"
    refine book_hit S ex f (fun q hq => .tail _ (.tail _ hq)) R' Z' (by omega) ?_ ?_ ?_ hi rfl ?_
    · show A.depth + 1 + 8 < _; omega
    · show A.units + 3 + 80 < _; omega
    · exact hh
    intro r tk3 hr
    walk_at "go"
    have hrel := (R'.rel i r d hr hdi).2
    refine heappop_spec natV (ks := d.2) f.B f.keep (f.at_ (.tail _ (.tail _ (bookN_row hr)))) (f.new_ (.tail _ (.tail _ (bookN_row hr)))) hrel (by rw [← hlst]; exact hp) (by rw [← hlst]; omega) ?_ ?_ ?_
    · show A.depth + 1 + 2 < _; omega
    · show A.units + 3 + 40 < _; omega
    intro h4 tk4 vs4 c4 v4 C4 hl4 R4 ry
    obtain ⟨t4, rfl⟩ := ry
    obtain ⟨f4, ap4, Rk4, t4'⟩ := book_put f ap R' hr C4 hl4 R4
    clear f
    replace f4 : FB w p loose mean mg mb g L h4 (fun _ => none) ((L + 1 + 1, cellW cl1 di1 sl1 (some (.int ((s : Nat) : Int) t))) :: (L + 1, cellW cl2 di2 sl2 (some (.ref bk.x))) :: bookN (bk'.put i vs4 c4)) := f4
    have key4 : keyAt ((touchD fr D s).modify i fun d => (d.1, k1)) s = some i := by
      rw [keyAt_modify (F := fun _ => k1)]; exact hi
    have Z4 : Dxf w g (bk'.put i vs4 c4) fr := Z'
    walk_at "go"
    (with_reducible rename FB _ _ _ _ _ _ _ _ _ _ _ => f5)
    clear f4
    refine mw_for ?_ (fun _ => rfl)
    refine mw_comp (cl := [("size", L + 1 + 1), ("book", L + 1)]) ?_ ?clos (fun _ => rfl) rfl ?names
    case clos => rfl
    case names => decide
    walk_at "go"
    refine mk_ty ?_ rfl rfl
    walk_at "go"
    refine book_hit S (bk := bk'.put i vs4 c4) ex f5 (fun q hq => .tail _ (.tail _ hq)) Rk4.nat Z4 (by simp; omega) ?_ ?_ ?_ key4 rfl ?_
    · show A.depth + 1 + 8 < _; omega
    · show A.units + 3 + 80 < _; omega
    · exact hh
    intro r5 tk5 hr5
    walk_at "go"
    have hd4 : ((touchD fr D s).modify i fun d => (d.1, k1))[i]? = some (d.1, k1) := by rw [List.getElem?_modify, hdi]; simp
    have hrel5 := (Rk4.rel i r5 (d.1, k1) hr5 hd4).2
    have hk1 : k1.length + 1 = (lstD D s).length := by
      obtain ⟨y', b', e1, e2⟩ := hpop_some natV.lt hs1
      rw [hp] at e1; cases e1; exact e2
    refine ml_len f5 (.tail _ (.tail _ (bookN_row hr5))) (by rw [hrel5.1, sizeLine_eq]; show k1.length ≤ _; omega) ?_
    intro t6 tk6
    rw [show r5.vals.length = k1.length from hrel5.1]
    walk_at "go"
    refine mi_range f5 ?_
    intro rg h7 tk7 u7 v7 f7 lr7
    refine mi_rangeIter f7 (by k_mem) (by omega) ?_
    intro I h8 f8 of8 hi8
    have f9 := f8.sub (news' := (L + 1 + 1, cellW cl1 di1 sl1 (some (.int ((s : Nat) : Int) t))) :: (L + 1, cellW cl2 di2 sl2 (some (.ref bk.x))) :: bookN (bk'.put i vs4 c4)) (fun q hq => .tail _ hq)
    have nt9 : ∀ q ∈ (L + 1 + 1, cellW cl1 di1 sl1 (some (.int ((s : Nat) : Int) t))) :: (L + 1, cellW cl2 di2 sl2 (some (.ref bk.x))) :: bookN (bk'.put i vs4 c4), ∀ vs, q.2 ≠ tupO vs := by
      intro q hq
      rcases List.mem_cons.mp hq with rfl | hq
      · exact cellW_ne _ _ _ _
      rcases List.mem_cons.mp hq with rfl | hq
      · exact cellW_ne _ _ _ _
      · exact bookN_ne _ q hq
    refine comp_enter f9 of8.l of8.g (fun hm => of8.n (List.mem_cons_of_mem _ hm)) ⟨_, hi8, rit_ne _⟩ nt9 (by decide) rfl ?_
    intro g1 Dl C h10 tk10 f10 st10 ch10 tk10' k10 hIC hID hIg1 hDn
    have Z10 : Dxf w g1 (bk'.put i vs4 c4) fr := Z4.keeps st10
    have hi10 : IsRangeIter h10 I 0 (k1.length : Nat) 1 := k10 _ _ hi8
    have hh' : (A.deeper (envOfC "_law_least" { kind := .function, names := [("book", .cell), ("size", .cell), ("least", .local), ("number", .local), ("heappop", .globalImplicit), ("range", .globalImplicit), ("len", .globalImplicit), ("heappush", .globalImplicit), ("_law_size", .globalImplicit)], isGenerator := false, isCoroutine := false, more := [("fast", .str "book"), ("fast", .str "size"), ("fast", .str "least"), ("fast", .str "turn"), ("fast", .str "number")] } L 116 (.ref 115))).handled = none := hh
    refine comp1_go (Walks.range (prog := prog) (w := w) hh' I 0 1 k1.length) (fun i h hi => ⟨_, hi, rit_ne _⟩)
      (fun j h m news => ∃ bk2 vs c, news = (Dl, listOf vs.toArray c) :: (L + 1 + 1, cellW cl1 di1 sl1 (some (.int ((s : Nat) : Int) t))) :: (L + 1, cellW cl2 di2 sl2 (some (.ref bk.x))) :: bookN bk2 ∧ RelL (natV.rel h) vs (popN natV.lt k1 j).1 ∧
        BookR natV h bk2 ((touchD fr D s).modify i fun d => (d.1, (popN natV.lt k1 j).2)) ∧ bk2.x = bk.x ∧ bk2.dx = bk.dx ∧ ∀ q ∈ bookN bk2, @Ne Nat q.1 Dl)
      ?hJ ?hnt f10 ?hIn hIC hIg1 (fun b hb => .inl (by simpa using hb)) (by simpa using hi10) ?j0 ?turn ?fin
    case hJ =>
      rintro j h h' m news t0 ⟨bk2, vs, c, e1, r1, r2, r3⟩
      exact ⟨bk2, vs, c, e1, r1, r2.nat, r3⟩
    case hnt =>
      rintro j h m news ⟨bk2, vs, c, rfl, _⟩ q hq
      rcases List.mem_cons.mp hq with rfl | hq
      · exact lst_ne _ _
      rcases List.mem_cons.mp hq with rfl | hq
      · exact cellW_ne _ _ _ _
      rcases List.mem_cons.mp hq with rfl | hq
      · exact cellW_ne _ _ _ _
      · exact bookN_ne _ q hq
    case hIn =>
      intro hm
      rcases List.mem_cons.mp hm with hm | hm
      · exact hID hm
      · exact of8.n (List.mem_cons_of_mem _ hm)
    case j0 =>
      refine ⟨bk'.put i vs4 c4, [], 0, rfl, RelL.nil, Rk4.nat, ex, ed, fun q hq e => ?_⟩
      have z := (f9.N q (.tail _ (.tail _ hq))).1
      rw [show q.1 = Dl from e, hDn] at z; cases z
    case turn =>
      rintro j v g' h tk m news hj ⟨t0, rfl⟩ ⟨bk2, vs, c, rfl, r1, r2, r3, r4, r5⟩ f st' tk'
      have Z2 : Dxf w g' bk2 fr := by
        have := Z10.keeps st'
        unfold Dxf at this ⊢
        rw [r3, r4]
        rw [show (bk'.put i vs4 c4).x = bk.x from ex, show (bk'.put i vs4 c4).dx = bk.dx from ed] at this
        exact this
      unfold CompT
      refine mw_goN (mw_asgN f ?_ rfl rfl)
      intro h11 tk11 f11
      clear f
      refine tests_nil ?_
      rw [if_pos rfl]
      unfold emitP
      walk_at "go"
      have hb11 : ∀ q ∈ bookN bk2, q ∈ (Dl, listOf vs.toArray c) :: (L + 1 + 1, cellW cl1 di1 sl1 (some (.int ((s : Nat) : Int) t))) :: (L + 1, cellW cl2 di2 sl2 (some (.ref bk.x))) :: bookN bk2 := fun q hq => .tail _ (.tail _ (.tail _ hq))
      have key11 : keyAt ((touchD fr D s).modify i fun d => (d.1, (popN natV.lt k1 j).2)) s = some i := by
        rw [keyAt_modify (F := fun _ => (popN natV.lt k1 j).2)]; exact hi
      have hd11 : ((touchD fr D s).modify i fun d => (d.1, (popN natV.lt k1 j).2))[i]? = some (d.1, (popN natV.lt k1 j).2) := by rw [List.getElem?_modify, hdi]; simp
      refine book_hit S (bk := bk2) r3 f11 hb11 r2.nat Z2 (by simp; omega) ?_ ?_ ?_ key11 rfl ?_
      · show A.depth + 1 + 8 < _; omega
      · show A.units + 3 + 80 < _; omega
      · exact hh
      intro r12 tk12 hr12
      walk_at "go"
      have hrel12 := (r2.rel i r12 _ hr12 hd11).2
      have hpl := popN_len natV.lt k1 j (by omega)
      obtain ⟨y12, b12, e12, l12⟩ := hpop_some natV.lt (ks := (popN natV.lt k1 j).2) (by intro e; rw [e] at hpl; simp at hpl; omega)
      refine heappop_spec natV (ks := (popN natV.lt k1 j).2) f11.B f11.keep (f11.at_ (hb11 _ (bookN_row hr12))) (f11.new_ (hb11 _ (bookN_row hr12))) hrel12 e12 (by omega) ?_ ?_ ?_
      · show A.depth + 1 + 2 < _; omega
      · show A.units + 3 + 40 < _; omega
      intro h13 tk13 vs13 c13 v13 C13 hl13 R13 ry13
      obtain ⟨f13, ap13, Rk13, t13⟩ := book_put (extra := [(Dl, listOf vs.toArray c), (L + 1 + 1, cellW cl1 di1 sl1 (some (.int ((s : Nat) : Int) t))), (L + 1, cellW cl2 di2 sl2 (some (.ref bk.x)))]) f11 (by
        intro q hq
        rcases List.mem_cons.mp hq with rfl | hq
        · exact fun q' hq' => (r5 q' hq').symm
        rcases List.mem_cons.mp hq with rfl | hq
        · exact f11.cellsApart hb11 (.tail _ (.head _))
        · rw [List.mem_singleton] at hq; subst hq
          exact f11.cellsApart hb11 (.tail _ (.tail _ (.head _)))) r2.nat hr12 C13 hl13 R13
      have nD : ∀ q ∈ bookN (bk2.put i vs13 c13), @Ne Nat q.1 Dl := fun q hq => (ap13 _ (.head _) q hq).symm
      have pn : popN natV.lt k1 (j + 1) = ((popN natV.lt k1 j).1 ++ [y12], b12) := by simp only [popN, e12]
      refine ml_pushG (news' := (Dl, listOf (vs ++ [v13]).toArray (c + 1)) :: (L + 1 + 1, cellW cl1 di1 sl1 (some (.int ((s : Nat) : Int) t))) :: (L + 1, cellW cl2 di2 sl2 (some (.ref bk.x))) :: bookN (bk2.put i vs13 c13)) f13 (.head _) (fun q hq => ?_) (by rw [r1.1, hpl.2, sizeLine_eq]; omega) ?_
      · rcases List.mem_cons.mp hq with rfl | hq
        · exact .inr rfl
        · refine .inl ⟨.tail _ hq, ?_⟩
          rcases List.mem_cons.mp hq with rfl | hq
          · exact f13.apart (o := cellW cl1 di1 sl1 (some (.int ((s : Nat) : Int) t))) (o' := listOf vs.toArray c) (.tail _ (.head _)) (.head _) (by intro e; cases e)
          rcases List.mem_cons.mp hq with rfl | hq
          · exact f13.apart (o := cellW cl2 di2 sl2 (some (.ref bk.x))) (o' := listOf vs.toArray c) (.tail _ (.tail _ (.head _))) (.head _) (by intro e; cases e)
          · exact nD q hq
      intro h14 f14 t14
      refine ⟨_, _, _, _, rfl, f14, _, _, _, rfl, ?_, ?_, r3, r4, nD⟩
      · rw [pn]; exact r1.push ry13
      · rw [pn]
        have := Rk13.nat (h' := h14)
        rw [modify_twice] at this
        exact this
    case fin =>
      rintro h tk m news ⟨bk2, vs, c, rfl, r1, r2, r3, r4, r5⟩ f
      refine ⟨_, _, _, _, rfl, f, fun h15 f15 t15 => ?_⟩
      clear f f10 f9 f8 f7 f5
      have nt15 : ∀ q ∈ (L + 1 + 1, cellW cl1 di1 sl1 (some (.int ((s : Nat) : Int) t))) :: (L + 1, cellW cl2 di2 sl2 (some (.ref bk.x))) :: bookN bk2, ∀ vs, q.2 ≠ tupO vs := by
        intro q hq
        rcases List.mem_cons.mp hq with rfl | hq
        · exact cellW_ne _ _ _ _
        rcases List.mem_cons.mp hq with rfl | hq
        · exact cellW_ne _ _ _ _
        · exact bookN_ne _ q hq
      obtain ⟨g2, f16, st16, ch16, tk16⟩ := f15.rebase (fun q hq => List.Mem.tail _ hq) nt15
      have hDl2 : g2.get? Dl = some (listOf vs.toArray c) := by
        refine ch16 _ _ ?_ (f15.at_ (.head _))
        intro hm
        rcases List.mem_cons.mp hm with hm | hm
        · exact (f15.N _ (.head _)).2.1 hm
        · obtain ⟨q, hq, e⟩ := List.mem_map.mp hm
          rcases List.mem_cons.mp hq with rfl | hq
          · exact f15.apart (o := cellW cl1 di1 sl1 (some (.int ((s : Nat) : Int) t))) (o' := listOf vs.toArray c) (.tail _ (.head _)) (.head _) (by intro e; cases e) e
          rcases List.mem_cons.mp hq with rfl | hq
          · exact f15.apart (o := cellW cl2 di2 sl2 (some (.ref bk.x))) (o' := listOf vs.toArray c) (.tail _ (.tail _ (.head _))) (.head _) (by intro e; cases e) e
          · exact r5 q hq e
      have Z16 : Dxf w g2 bk2 fr := by
        have := Z4.keeps st16
        unfold Dxf at this ⊢
        rw [r3, r4]
        rw [show (bk'.put i vs4 c4).x = bk.x from ex, show (bk'.put i vs4 c4).dx = bk.dx from ed] at this
        exact this
      have outs := popN_len natV.lt k1 k1.length (Nat.le_refl _)
      have rest0 : (popN natV.lt k1 k1.length).2 = [] := List.eq_nil_of_length_eq_zero (by omega)
      have e0 : (touchD fr D s).modify i (fun d => (d.1, (popN natV.lt k1 k1.length).2)) = setD (touchD fr D s) s [] := by
        rw [rest0]; unfold setD; rw [hi]
      rw [e0] at r2
      refine mi_list f16 (isList_of (f16.keep _ _ hDl2)) ?_
      intro I2 h17 f17 of17 hit17 hl17 nI2
      refine for_fb (Walks.list (prog := prog) (w := w) hh' I2 Dl nI2 vs.toArray) (fun i h hi => by obtain ⟨o, ho, hc, _⟩ := hi.1; exact ⟨o, ho, ne_tup (by rw [hc]; show (Value.type "list_iterator" == Value.type "tuple") = false; decide +kernel)⟩)
        (fun j h m news => ∃ bk3, news = (L + 1 + 1, cellW cl1 di1 sl1 (some (.int ((s : Nat) : Int) t))) :: (L + 1, cellW cl2 di2 sl2 (some (.ref bk.x))) :: bookN bk3 ∧
          BookR natV h bk3 (((popN natV.lt k1 k1.length).1.take j).foldl (pushD fr y) (setD (touchD fr D s) s [])) ∧ bk3.x = bk.x ∧ bk3.dx = bk.dx ∧ m "least" = some (.int ((y : Nat) : Int) t4))
        ?hJ ?hnt f17 of17.n of17.l of17.g ?hfp ⟨hit17, hl17⟩ ⟨bk2, rfl, r2.nat, r3, r4, rfl⟩ ?turn ?fin
      case hJ =>
        rintro j h h' m news t0 ⟨bk3, e1, q1, q2⟩
        exact ⟨bk3, e1, q1.nat, q2⟩
      case hnt =>
        rintro j h m news ⟨bk3, rfl, _⟩ q hq
        rcases List.mem_cons.mp hq with rfl | hq
        · exact cellW_ne _ _ _ _
        rcases List.mem_cons.mp hq with rfl | hq
        · exact cellW_ne _ _ _ _
        · exact bookN_ne _ q hq
      case hfp =>
        intro b hb
        rcases List.mem_cons.mp hb with rfl | hb
        · exact .inl rfl
        · rw [List.mem_singleton] at hb; subst hb
          exact .inr ⟨_, hDl2⟩
      case turn =>
        rintro j v g' h tk m news hj hv ⟨bk3, rfl, q1, q2, q3, q4⟩ f st' tk'
        have hv' : vs[j]? = some v := by simpa using hv
        have hjl : j < (popN natV.lt k1 k1.length).1.length := by rw [← r1.1]; simpa using hj
        obtain ⟨n, hn⟩ : ∃ n, (popN natV.lt k1 k1.length).1[j]? = some n := ⟨_, List.getElem?_eq_getElem hjl⟩
        obtain ⟨tn, rfl⟩ := r1.2 j v n hv' hn
        have hnm : n ∈ (popN natV.lt k1 k1.length).1 := List.mem_of_getElem? hn
        have etk : (popN natV.lt k1 k1.length).1.take (j + 1) = (popN natV.lt k1 k1.length).1.take j ++ [n] := by rw [List.take_add_one, hn]; rfl
        generalize hD3 : ((popN natV.lt k1 k1.length).1.take j).foldl (pushD fr y) (setD (touchD fr D s) s []) = D3 at q1
        have bd := pushes_bound (fr := fr) (l := y) (B := 1000) ((popN natV.lt k1 k1.length).1.take j) (setD (touchD fr D s) s []) (setD_all (touchD_all hlz) (by simp))
        rw [hD3, setD_len] at bd
        have tkl : ((popN natV.lt k1 k1.length).1.take j).length ≤ 1000 := by rw [List.length_take]; omega
        have Z18 : Dxf w g' bk3 fr := by
          have := Z16.keeps st'
          unfold Dxf at this ⊢
          rw [q2, q3]
          rw [r3, r4] at this
          exact this
        refine mw_goN (mw_asgN f ?_ rfl rfl)
        intro h18 tk18 f18
        clear f
        walk_at "go"
        refine size_spec f18.B f18.keep (n := n) (l := y) ?_ ?_ (hbl n hnm) ?_
        · show A.depth + 1 + 2 < _; omega
        · show A.units + 3 + 40 < _; omega
        intro h19 tk19 t19 k19
        have f19 := f18.all k19
        clear f18
        walk_at "go"
        have ap19 : Apart [(L + 1 + 1, cellW cl1 di1 sl1 (some (.int ((s : Nat) : Int) t))), (L + 1, cellW cl2 di2 sl2 (some (.ref bk.x)))] bk3 := by
          intro q hq
          rcases List.mem_cons.mp hq with rfl | hq
          · exact f19.cellsApart (fun q hq => .tail _ (.tail _ hq)) (.head _)
          · rw [List.mem_singleton] at hq; subst hq
            exact f19.cellsApart (fun q hq => .tail _ (.tail _ hq)) (.tail _ (.head _))
        refine book_at S q2 (extra := [(L + 1 + 1, cellW cl1 di1 sl1 (some (.int ((s : Nat) : Int) t))), (L + 1, cellW cl2 di2 sl2 (some (.ref bk.x)))]) f19 ap19 q1.nat Z18 (by omega) ?_ ?_ ?_ rfl ?_ ?_
        · show A.depth + 1 + 8 < _; omega
        · show A.units + 3 + 80 < _; omega
        · exact hh
        · intro bk4 i4 r4' h20 tk20 f20 ap20 R20 Z20 ex20 ed20 hi4 hr4 t20
          obtain ⟨d4, hdi4, hdk4⟩ := keyAt_lt hi4
          have hl4' := lstD_at hi4 hdi4
          have hln : d4.2.length ≤ 1000 + ((popN natV.lt k1 k1.length).1.take j).length := lookD_all bd.1 d4 (List.mem_of_getElem? hdi4)
          replace f20 : FB w p loose mean mg mb g' L h20 _ ((L + 1 + 1, cellW cl1 di1 sl1 (some (.int ((s : Nat) : Int) t))) :: (L + 1, cellW cl2 di2 sl2 (some (.ref bk.x))) :: bookN bk4) := f20
          clear f19
          walk_at "go"
          refine heappush_spec natV (ks := d4.2) (x := n) f20.B f20.keep (f20.at_ (.tail _ (.tail _ (bookN_row hr4)))) (f20.new_ (.tail _ (.tail _ (bookN_row hr4)))) (R20.rel i4 r4' d4 hr4 hdi4).2 ⟨tn, rfl⟩ (by omega) ?_ ?_ ?_
          · show A.depth + 1 + 2 < _; omega
          · show A.units + 3 + 40 < _; omega
          intro h21 tk21 vs21 c21 C21 hl21 R21
          obtain ⟨f21, ap21, Rk21, t21⟩ := book_put (extra := [(L + 1 + 1, cellW cl1 di1 sl1 (some (.int ((s : Nat) : Int) t))), (L + 1, cellW cl2 di2 sl2 (some (.ref bk.x)))]) f20 ap20 R20 hr4 C21 hl21 R21
          clear f20
          walk_at "go"
          refine ⟨_, _, _, _, rfl, f21, _, rfl, ?_, ex20, ed20.trans q3, q4⟩
          have e22 : (lookD fr D3 (bl (n ^^^ y))).modify i4 (fun d => (d.1, hpush natV.lt d4.2 n)) = pushD fr y D3 n := by
            unfold pushD
            rw [hl4']
            unfold setD
            rw [hi4]
          rw [etk, List.foldl_append, hD3]
          show BookR natV h21 _ (pushD fr y D3 n)
          rw [← e22]; exact Rk21
        · intro hf hn0 l h20 tk20 c20 f20 hl20 R20 k20
          replace f20 : FB w p loose mean mg mb g' L h20 _ ((l, listOf #[] c20) :: (L + 1 + 1, cellW cl1 di1 sl1 (some (.int ((s : Nat) : Int) t))) :: (L + 1, cellW cl2 di2 sl2 (some (.ref bk.x))) :: bookN bk3) := f20
          clear f19
          walk_at "go"
          refine heappush_spec natV (ks := []) (vs := []) (x := n) f20.B f20.keep (f20.at_ (.head _)) (f20.new_ (.head _)) RelL.nil ⟨tn, rfl⟩ (by simp) ?_ ?_ ?_
          · show A.depth + 1 + 2 < _; omega
          · show A.units + 3 + 40 < _; omega
          intro h21 tk21 vs21 c21 C21 hl21 R21
          have f21 := f20.chg (news' := (L + 1 + 1, cellW cl1 di1 sl1 (some (.int ((s : Nat) : Int) t))) :: (L + 1, cellW cl2 di2 sl2 (some (.ref bk.x))) :: bookN bk3) C21 ⟨_, .head _⟩ (fun q hq => .inl ⟨.tail _ hq, hl20 q hq⟩)
          clear f20
          walk_at "go"
          refine ⟨_, _, _, _, rfl, f21, _, rfl, ?_, q2, q3, q4⟩
          have e22 : pushD fr y D3 n = D3 := by
            have e23 : lookD fr D3 (bl (n ^^^ y)) = D3 := by unfold lookD; rw [hn0]; dsimp only; rw [if_pos hf]
            unfold pushD setD
            rw [e23, hn0]
          rw [etk, List.foldl_append, hD3]
          show BookR natV h21 _ (pushD fr y D3 n)
          rw [e22]; exact R20.nat
      case fin =>
        rintro h tk m news ⟨bk3, rfl, q1, q2, q3, q4⟩ f
        have f20 := f.back st16 f15.B
        clear f
        walk_at "go"
        have e9 : (popN natV.lt k1 k1.length).1.take vs.toArray.size = (popN natV.lt k1 k1.length).1 := by
          rw [List.take_of_length_le]; rw [← r1.1]; simp
        rw [e9] at q1
        refine q h _ t4 bk3 (ch_of hg f20) (fun q hq => ?_) q1.nat q2 q3
        have z := f20.N q (.tail _ (.tail _ hq))
        refine ⟨z.1, ?_⟩
        by_cases hm : q.1 ∈ (bookN bk).map (·.1)
        · exact .inl hm
        · right
          cases e : (_ : Heap).get? q.1 with
          | none => rfl
          | some o =>
            have := hg _ _ hm e
            rw [z.2.2] at this; cases this
end
end
section
abbrev keyItO (d : Addr) (i n ep : Nat) : Obj := { cls := .type "dict_keyiterator", data := .fields #[.ref d, .int ((i : Nat) : Int) 0, .int ((n : Nat) : Int) 0, .int ((ep : Nat) : Int) 0] }
section
variable {prog : Program} {w : World} {A : Around} {E : Value → Shared → Prop} {h : Heap} {ge : Array GenState} {dr : Drawn} {tk : Nat} {os : OsState}
  {x dx I : Addr} {ents : Ents} {ep i : Nat}
theorem book_next (hI : h.get? I = some (keyItO x i ents.length ep)) (hx : h.get? x = some (bookO dx (bookEs ents) ep)) {e : Nat × Tok × Addr} (he : ents[i]? = some e) {Q : Option Value → Shared → Prop}
    (q : ∀ h', Heap.SameBut I h h' → h'.get? I = some (keyItO x (i + 1) ents.length ep) → Q (some (.int ((e.1 : Nat) : Int) e.2.1)) ⟨h', ge, dr, tk, os⟩) :
    wpAny (model prog w) A (pyNext (.ref I)) Q E ⟨h, ge, dr, tk, os⟩ := by
  have hT : (⟨h, ge, dr, tk, os⟩ : Shared).TypeIs (.ref I) "dict_keyiterator" := ⟨_, hI, rfl⟩
  have tI : Looks (model prog w) h (typeOf (.ref I)) (.type "dict_keyiterator") := (Looks.ld hI).andThen .now
  unfold pyNext
  refine wpAny_bind (wpAny_attempt (wpAny_callSpecial?_slot (name := Str.ofString "__next__") hT PySem.F.slot_dict_keyiterator_next
    (wpAny_call_entry PySem.F.slot_dict_keyiterator_next hT PySem.F.entry_dict_keyiterator_next ?_ (PySem.F.args_dict_keyiterator_next_1 _))))
  unfold Builtin.«dict_keyiterator.__next__»
  have hown : Dict_items.ownsTuple ((Manifest.find? "dict_keyiterator").elim "dict_keyiterator" fun x => x.tpName) = false := by decide +kernel
  have sz : (bookEs ents).size = ents.length := bookEs_size ents
  iterate 40 lk
  refine wpAny_load hI (wpAny_pure ?_)
  rw [hown]
  show wpAny _ _ (if (Value.ref x == Value.none) = true then _ else _) _ _ _
  rw [if_neg (show ¬ ((Value.ref x == Value.none) = true) from Bool.false_ne_true)]
  refine wpAny_bind (wpAny_pure (wpAny_bind (wpAny_dictEntries hx rfl ?_)))
  rw [if_neg (by rw [sz]; simp)]
  refine wpAny_bind (wpAny_pure (wpAny_bind (wpAny_dictEpoch hx rfl ?_)))
  rw [if_neg (by simp)]
  refine wpAny_pure ?_
  have hen : (bookEs ents)[i]? = some ⟨hashInt ((e.1 : Nat) : Int), .int ((e.1 : Nat) : Int) e.2.1, .ref e.2.2⟩ := by unfold bookEs; simp [he]
  have hi : (if ((i : Nat) : Int) < 0 then none else (bookEs ents)[((i : Nat) : Int).toNat]?) = some ⟨hashInt ((e.1 : Nat) : Int), .int ((e.1 : Nat) : Int) e.2.1, .ref e.2.2⟩ := by
    rw [if_neg (by omega), Int.toNat_natCast]; exact hen
  dsimp only
  rw [hi]
  dsimp only
  have mro : mroOf (.type "dict_keyiterator") = pure [.type "dict_keyiterator", .type "object"] := by rw [mroOf_type]; kernel_rfl
  have io : ∀ (h : Heap) (l : List String), Looks (model prog w) h (typeOf (.ref I)) (.type "dict_keyiterator") → Looks (model prog w) h (Dict_items.isOneOf (.ref I) l) (l.any fun t => [Value.type "dict_keyiterator", .type "object"].contains (.type t)) := fun h l tI => tI.andThen ((Looks.of_pure mro).andThen .now)
  have io1 := io h
  repeat ((fail_if_success (with_reducible show wpAny _ _ (setField _ _ _) _ _ _)); (first | (with_reducible refine wpAny_typeNameOfWhole_keyiter hT ?_) | (with_reducible refine Looks.at (io1 _ tI) ?_) | lk))
  refine wpAny_setField_rec hI (by rw [if_neg (by decide +kernel)]; simp) ?_
  intro h2 hI2 s2
  rw [if_neg (by decide +kernel), if_neg (by decide +kernel)] at hI2
  have tI2 : Looks (model prog w) h2 (typeOf (.ref I)) (.type "dict_keyiterator") := (Looks.ld hI2).andThen .now
  have io2 := io h2
  repeat (first | (with_reducible refine Looks.at (io2 _ tI2) ?_) | lk)
  exact ⟨_, rfl, wpAny_pure (q h2 s2 (by rw [hI2]; rfl))⟩
theorem book_end (hh : A.handled = none) (hI : h.get? I = some (keyItO x ents.length ents.length ep)) (hx : h.get? x = some (bookO dx (bookEs ents) ep)) {Q : Option Value → Shared → Prop}
    (q : ∀ h', Heap.ExtBut I h h' → Q none ⟨h', ge, dr, tk, os⟩) : wpAny (model prog w) A (pyNext (.ref I)) Q E ⟨h, ge, dr, tk, os⟩ := by
  have hT : (⟨h, ge, dr, tk, os⟩ : Shared).TypeIs (.ref I) "dict_keyiterator" := ⟨_, hI, rfl⟩
  have tI : Looks (model prog w) h (typeOf (.ref I)) (.type "dict_keyiterator") := (Looks.ld hI).andThen .now
  unfold pyNext
  refine wpAny_bind (wpAny_attempt (wpAny_callSpecial?_slot (name := Str.ofString "__next__") hT PySem.F.slot_dict_keyiterator_next
    (wpAny_call_entry PySem.F.slot_dict_keyiterator_next hT PySem.F.entry_dict_keyiterator_next ?_ (PySem.F.args_dict_keyiterator_next_1 _))))
  unfold Builtin.«dict_keyiterator.__next__»
  have hown : Dict_items.ownsTuple ((Manifest.find? "dict_keyiterator").elim "dict_keyiterator" fun x => x.tpName) = false := by decide +kernel
  have sz : (bookEs ents).size = ents.length := bookEs_size ents
  iterate 40 lk
  refine wpAny_load hI (wpAny_pure ?_)
  rw [hown]
  show wpAny _ _ (if (Value.ref x == Value.none) = true then _ else _) _ _ _
  rw [if_neg (show ¬ ((Value.ref x == Value.none) = true) from Bool.false_ne_true)]
  refine wpAny_bind (wpAny_pure (wpAny_bind (wpAny_dictEntries hx rfl ?_)))
  rw [if_neg (by rw [sz]; simp)]
  refine wpAny_bind (wpAny_pure (wpAny_bind (wpAny_dictEpoch hx rfl ?_)))
  rw [if_neg (by simp)]
  refine wpAny_pure ?_
  have hi : (if ((ents.length : Nat) : Int) < 0 then none else (bookEs ents)[((ents.length : Nat) : Int).toNat]?) = none := by
    rw [if_neg (by omega), Int.toNat_natCast, ← sz]; simp
  dsimp only
  rw [hi]
  dsimp only
  repeat ((fail_if_success (with_reducible show wpAny _ _ (setField _ _ _) _ _ _)); (first | (with_reducible refine wpAny_typeNameOfWhole_keyiter hT ?_) | lk))
  refine wpAny_setField_rec hI (by rw [if_neg (by decide +kernel)]; simp) ?_
  intro h2 hI2 s2
  have first : firstArgMember (.type "StopIteration") [] = pure .none := by
    have e : ((Manifest.find? "StopIteration").elim false fun t => t.mro.contains "StopIteration" || t.mro.contains "SystemExit") = true := by decide +kernel
    simp only [firstArgMember, e]; rfl
  have ssub : isSubtype (.type "StopIteration") (.type "StopIteration") = pure true := by rw [isSubtype_type]; kernel_rfl
  refine wpAny_bind ?_
  unfold newExc newTuple
  refine wpAny_bind (wpAny_newObj_type ?_ (by size_fits))
  rw [first]
  refine wpAny_bind (wpAny_pure (wpAny_newObj_type ?_ (by size_fits)))
  refine wpAny_raiseNew_none hh ?_
  refine wpAny_bind (wpAny_isInstance (T := "StopIteration") (b := true) ⟨_, Heap.get?_push_at rfl rfl, rfl⟩ ssub ?_)
  rw [if_pos rfl]
  exact wpAny_pure (q _ fun b o n e => Heap.get?_push_of_some _ (Heap.get?_push_of_some _ ((s2.2 b n).trans e)))
end
theorem dit_slot : Slot "dict" "__iter__" "dict.__iter__" := .of (owner := "dict") (n := "__iter__") (by rw [typeLookup_type, builtinLookup_eq_fast]; kernel_rfl) (by decide +kernel) (by decide +kernel) (by decide +kernel)
  (by first | exact .inl (by decide +kernel) | exact .inr (by decide +kernel)) (by rw [isSubtype_type]; kernel_rfl)
theorem dit_kind : builtinKind "dict.__iter__" = some .slot := by decide +kernel
theorem dit_split : splitId "dict.__iter__" = some ("dict", "__iter__") := by decide +kernel
theorem dit_entry : entryFor table "dict.__iter__" = some Builtin.«dict.__iter__» := entryFor_of_tree (by kernel_rfl)
theorem dit_args (a : Value) : argsOk "dict.__iter__" ⟨[a], []⟩ := by unfold argsOk; kernel_rfl
theorem Walks_book {prog : Program} {w : World} {A : Around} (hh : A.handled = none) (I x dx : Addr) (hne : x ≠ I) (ents : Ents) (ep : Nat) :
    Walks prog w A I [I, x] [I] ents.length (fun i v => ∃ e, ents[i]? = some e ∧ v = .int ((e.1 : Nat) : Int) e.2.1) (fun i h => h.get? I = some (keyItO x i ents.length ep) ∧ h.get? x = some (bookO dx (bookEs ents) ep)) where
  sub := fun b hb => by simp at hb; simp [hb]
  frame := fun _ _ _ st hk => ⟨hk I (by simp) _ st.1, hk x (by simp) _ st.2⟩
  item := fun i s Q E hi st hQ => by
    obtain ⟨h, ge, dr, tk, os⟩ := s
    obtain ⟨e, he⟩ : ∃ e, ents[i]? = some e := ⟨_, List.getElem?_eq_getElem hi⟩
    refine book_next st.1 st.2 he fun h' hs hI => ?_
    exact hQ _ h' tk ⟨e, he, rfl⟩ ⟨hI, (hs.2 x hne).trans st.2⟩ fun b o hb e => (hs.2 b (by simpa using hb)).trans e
  done := fun s Q E st hQ => by
    obtain ⟨h, ge, dr, tk, os⟩ := s
    exact book_end hh st.1 st.2 fun h' hs => hQ h' tk fun b o hb e => hs b o (by simpa using hb) e
  self := fun _ s _ _ st hQ => wpAny_pyIter_keyiter (s := s) ⟨_, st.1, rfl, rfl⟩ hQ
section
variable {prog : Program} {w : World} {A : Around} {E : Value → Shared → Prop} {b h : Heap} {ge : Array GenState} {dr : Drawn} {tk : Nat} {os : OsState} {x dx : Addr} {ents : Ents} {ep : Nat} {Q : Value → Shared → Prop}
theorem dln_kind : builtinKind "dict.__len__" = some .slot := by decide +kernel
theorem dln_split : splitId "dict.__len__" = some ("dict", "__len__") := by decide +kernel
theorem len_kind : builtinKind "len" = none := by decide +kernel
theorem len_plain : plainId "len" = true := by decide +kernel
theorem len_entry : entryFor table "len" = some Builtin.«len» := entryFor_of_tree (by kernel_rfl)
theorem len_args (a : Value) : argsOk "len" ⟨[a], []⟩ := by unfold argsOk; kernel_rfl
theorem len_book (xs : (x == sysModules) = false) (Xb : (hd.heap_39 w.params).In b) (hb : b.StaysIn h) (hx : h.get? x = some (bookO dx (bookEs ents) ep)) (hz : ents.length ≤ 1000000)
    (q : ∀ t tk', Q (.int ((ents.length : Nat) : Int) t) ⟨h, ge, dr, tk', os⟩) : wpAny (model prog w) A (call (.builtin "len") [.ref x]) Q E ⟨h, ge, dr, tk, os⟩ := by
  have X2 : (Mine.hd.heap_39 w.params).In h := Xb.keeps hb
  have t1 : Looks (model prog w) h (typeOf (.ref x)) (.ref 93) := (Looks.ld hx).andThen .now
  have ln1 : Looks (model prog w) h (specialOf (.ref x) "__len__") (some (.builtin "dict.__len__")) := t1.andThen (looks_findIn X2 (by k_is))
  have sO := fd_subO (M := model prog w) X2
  have inD : Looks (model prog w) h (isInstance (.ref x) (.type "dict")) true := t1.andThen (fd_subD (M := model prog w) X2)
  refine Calls.call_function_entry len_kind len_plain len_entry (len_args _) ?_
  unfold Builtin.«len»
  refine wpAny_bind (wpAny_of_eq (a := .ref x) (by first | rfl | kernel_rfl) ?_)
  unfold callSpecial?
  refine wpAny_bind (wpAny_bind (ln1.at (wpAny_holding ?_)))
  rw [PySem.F.slot_dict_len.bind]
  refine wpAny_bind (wpAny_pure (wpAny_bind (wpAny_call (codeAny_call_builtin PySem.F.slot_dict_len.plain PySem.F.entry_dict_len (@check_slot (model prog w) _ _ _ "dict.__len__" "dict" "__len__" (.ref x) [] [] _ dln_kind dln_split inD (PySem.F.args_dict_len_1 _) ?_)))))
  unfold Builtin.«dict.__len__» Dict.pendingCount
  repeat ((fail_if_success (with_reducible show wpAny _ _ (dictSize _) _ _ _)); lk)
  unfold dictSize
  refine wpAny_bind (wpAny_dictEntries hx rfl (wpAny_pure ?_))
  rw [if_neg (by rw [xs]; decide)]
  refine wpAny_bind (wpAny_pure ?_)
  rw [bookEs_size]
  refine wpAny_bind (wpAny_mkInt ?_)
  refine wpAny_pure (wpAny_pure ?_)
  dsimp only
  have e : ((ents.length : Nat) : Int) + ((0 : Nat) : Int) = ((ents.length : Nat) : Int) := by omega
  rw [e]
  refine wpAny_bind (wpAny_holding ?_)
  refine wpAny_of_eq (a := ((ents.length : Nat) : Int)) (by first | rfl | kernel_rfl) ?_
  refine wpAny_bind (wpAny_letGo ?_)
  rw [if_neg (by omega), if_neg (by omega)]
  exact wpAny_bind (wpAny_mkInt (wpAny_pure ⟨_, rfl, q _ _⟩))
theorem hint_book (xs : (x == sysModules) = false) (Xb : (hd.heap_39 w.params).In b) (hb : b.StaysIn h) (hx : h.get? x = some (bookO dx (bookEs ents) ep)) (hz : ents.length ≤ 1000000) {Q : Bool → Shared → Prop}
    (q : ∀ r tk', Q r ⟨h, ge, dr, tk', os⟩) : wpAny (model prog w) A (List.listLengthHint (.ref x)) Q E ⟨h, ge, dr, tk, os⟩ := by
  have X2 : (Mine.hd.heap_39 w.params).In h := Xb.keeps hb
  have t1 : Looks (model prog w) h (typeOf (.ref x)) (.ref 93) := (Looks.ld hx).andThen .now
  have ln1 : Looks (model prog w) h (specialOf (.ref x) "__len__") (some (.builtin "dict.__len__")) := t1.andThen (looks_findIn X2 (by k_is))
  have inD : Looks (model prog w) h (isInstance (.ref x) (.type "dict")) true := t1.andThen (fd_subD (M := model prog w) X2)
  unfold List.listLengthHint
  refine wpAny_bind (ln1.at ?_)
  dsimp only
  rw [dln_split]
  dsimp only
  refine wpAny_bind (inD.at ?_)
  rw [if_neg (by decide), if_pos (by decide +kernel)]
  refine wpAny_bind (t1.at ?_)
  dsimp only
  refine wpAny_bind (len_book xs Xb hb hx hz fun t tk' => ?_)
  exact wpAny_bind (wpAny_of_eq (a := some ((ents.length : Nat) : Int)) (by first | rfl | kernel_rfl) (wpAny_pure (q _ _)))
theorem list_book (xs : (x == sysModules) = false) (Xb : (hd.heap_39 w.params).In b) (hb : b.StaysIn h) (hx : h.get? x = some (bookO dx (bookEs ents) ep)) (hh : A.handled = none) (hz : ents.length ≤ 1000000)
    (q : ∀ l h' tk' vs c, (∀ a o, h.get? a = some o → h'.get? a = some o) → h.get? l = none → h'.get? l = some (listOf vs.toArray c) → RelL (natV.rel h') vs (ents.map (·.1)) → Q (.ref l) ⟨h', ge, dr, tk', os⟩) :
    wpAny (model prog w) A (call (.type "list") [.ref x]) Q E ⟨h, ge, dr, tk, os⟩ := by
  refine callType_codes (Q₁ := fun obj s₁ => obj = .ref h.objs.size ∧ s₁ = ⟨h.push { cls := .type "list", data := .seq #[] }, ge, dr, tk, os⟩) PySem.F.called_list (PySem.F.typeCall_list_1 _) list0_entry (code_list_new _ ⟨rfl, rfl⟩) ?_
  rintro obj s₁ ⟨rfl, rfl⟩
  have ho : (h.push { cls := .type "list", data := .seq #[] }).get? h.objs.size = some { cls := .type "list", data := .seq #[] } := Heap.get?_push_at rfl rfl
  refine ⟨⟨_, ho, rfl⟩, PySem.F.args_list_init_2 _ _, ?_⟩
  unfold Builtin.«list.__init__»
  repeat ((fail_if_success (with_reducible show wpAny _ _ (update _ _) _ _ _)); lk)
  refine wpAny_update ho ?_
  have ho2 : ((h.push { cls := .type "list", data := .seq #[] }).update h.objs.size (Obj.mapSeq fun x => #[])).get? h.objs.size = some (listOf #[] 0) := Heap.get?_update_self _ ho rfl
  have hs : Heap.SameBut h.objs.size (h.push { cls := .type "list", data := .seq #[] }) ((h.push { cls := .type "list", data := .seq #[] }).update h.objs.size (Obj.mapSeq fun x => #[])) := Heap.SameBut.update ..
  have hk : ∀ a o, h.get? a = some o → ((h.push { cls := .type "list", data := .seq #[] }).update h.objs.size (Obj.mapSeq fun x => #[])).get? a = some o := fun a o e =>
    (hs.2 a (Nat.ne_of_lt (Heap.lt_size e))).trans (Heap.get?_push_of_some _ e)
  generalize (h.push { cls := .type "list", data := .seq #[] }).update h.objs.size (Obj.mapSeq fun x => #[]) = h2 at *
  refine wpAny_lookBehind ho2 (pastItsLine_seq (by rw [sizeLine_eq]; simp)) ?_
  refine wpAny_bind (wpAny_letGo ?_)
  have hx2 := hk _ _ hx
  have X2 : (Mine.hd.heap_39 w.params).In h2 := Xb.keeps fun a o e => hk _ _ (hb a o e)
  have t1 : Looks (model prog w) h2 (typeOf (.ref x)) (.ref 93) := (Looks.ld hx2).andThen .now
  have nl : (h.objs.size == x) = false := by
    have := Nat.ne_of_gt (Heap.lt_size hx)
    simpa using this
  unfold List.listExtendWith
  refine wpAny_bind (t1.at ?_)
  rw [if_neg (by rw [show List.listSameRef (.ref h.objs.size) (.ref x) = false from nl]; decide +kernel)]
  have it1 : Looks (model prog w) h2 (specialOf (.ref x) "__iter__") (some (.builtin "dict.__iter__")) := t1.andThen (fd_iter (M := model prog w) X2)
  refine wpAny_bind ?_
  unfold pyIter
  refine wpAny_bind (it1.at ?_)
  dsimp only
  refine wpAny_bind ?_
  unfold callSpecialIfBoundUnlessNone? bindSpecialIfBound?
  refine wpAny_holding (wpAny_bind ?_)
  refine wpAny_bind (it1.at ?_)
  dsimp only
  have sO := fd_subO (M := model prog w) X2
  have inD : Looks (model prog w) h2 (isInstance (.ref x) (.type "dict")) true := t1.andThen (fd_subD (M := model prog w) X2)
  refine wpAny_bind (wpAny_askSetting ?_)
  rw [dit_slot.bind]
  refine wpAny_mono (Q := fun a s' => a = some (.builtin "dict.__iter__", [.ref x]) ∧ s' = ⟨h2, ge, dr, tk, os⟩) (E := fun _ _ => False) ?_ ?_ fun _ _ e => e.elim
  · refine wpAny_ite ?_
    split
    · exact wpAny_bind (wpAny_pure (wpAny_pure ⟨rfl, rfl⟩))
    · exact wpAny_tryCatch (wpAny_bind (wpAny_pure (wpAny_pure ⟨rfl, rfl⟩)))
  rintro _ _ ⟨rfl, rfl⟩
  dsimp only
  rw [if_neg (by decide +kernel)]
  refine wpAny_bind (wpAny_call (codeAny_call_builtin dit_slot.plain dit_entry (@check_slot (model prog w) _ _ _ "dict.__iter__" "dict" "__iter__" (.ref x) [] [] _ dit_kind dit_split inD (dit_args _) ?_)))
  unfold Builtin.«dict.__iter__»
  repeat ((fail_if_success (with_reducible show wpAny _ _ (Dict.showsAll _) _ _ _)); lk)
  unfold Dict.showsAll
  rw [if_neg (by rw [xs]; decide)]
  refine wpAny_pure ?_
  refine wpAny_bind (wpAny_dictEntries hx2 rfl (wpAny_bind (wpAny_dictEpoch hx2 rfl ?_)))
  unfold newFields
  refine wpAny_bind (wpAny_newObj_type ?_ (by size_fits))
  have hI : (h2.push (keyItO x 0 ents.length ep)).get? h2.objs.size = some (keyItO x 0 ents.length ep) := Heap.get?_push_at rfl rfl
  have eI : ({ cls := .type "dict_keyiterator", data := .fields #[.ref x, rawInt 0, rawInt (bookEs ents).size, rawInt ep] } : Obj) = keyItO x 0 ents.length ep := by rw [bookEs_size]; rfl
  have k3 : ∀ a o, h2.get? a = some o → (h2.push (keyItO x 0 ents.length ep)).get? a = some o := fun a o e => Heap.get?_push_of_some _ e
  have xI : x ≠ h2.objs.size := Nat.ne_of_lt (Heap.lt_size hx2)
  have hIn : h2.get? h2.objs.size = none := Heap.get?_none_of_le (Nat.le_refl _)
  have lI : h.objs.size ≠ h2.objs.size := Nat.ne_of_lt (Heap.lt_size ho2)
  refine wpAny_pure (wpAny_pure ?_)
  dsimp only
  rw [show (({ cls := Value.type "dict_keyiterator", data := Data.fields [Value.ref x, rawInt 0, rawInt (bookEs ents).size, rawInt ep].toArray } : Obj)) = keyItO x 0 ents.length ep from eI]
  generalize h2.push (keyItO x 0 ents.length ep) = h3 at *
  generalize h2.objs.size = I at *
  have hx3 := k3 _ _ hx2
  have ho3 := k3 _ _ ho2
  have hTI : (⟨h3, ge, dr, tk, os⟩ : Shared).TypeIs (.ref I) "dict_keyiterator" := ⟨_, hI, rfl⟩
  refine wpAny_bind (wpAny_specialOf hTI PySem.F.slot_dict_keyiterator_next.lookup (wpAny_pure ?_))
  refine wpAny_bind (wpAny_holding (hint_book xs Xb (fun a o e => k3 _ _ (hk _ _ (hb a o e))) hx3 hz fun r tk4 => ?_))
  have fin : ∀ h4 tk4 c4, (∀ a o, a ≠ h.objs.size → h3.get? a = some o → h4.get? a = some o) → h4.get? h.objs.size = some (listOf #[] c4) →
      codeAny (model prog w) A.in1 (.builtin "list.extend.loop" ⟨[.ref h.objs.size, .ref I, .none], []⟩) (wants (fun r s₂ => r = Value.none ∧ Q (Value.ref h.objs.size) s₂) E) ⟨h4, ge, dr, tk4, os⟩ := by
    intro h4 tk4 c4 k4 ho4
    have lx : h.objs.size ≠ x := Nat.ne_of_gt (Heap.lt_size hx)
    refine codeAny_extend_loopS (Walks_book (A := A.in1.in1) hh I x dx xI ents ep).toS (by rw [sizeLine_eq]; omega) h.objs.size (by simp; exact ⟨lI, lx⟩) .none ents.length 0 ⟨h4, ge, dr, tk4, os⟩ #[] c4 rfl (Nat.zero_le _) ⟨k4 _ _ (Ne.symm lI) hI, k4 _ _ (Ne.symm lx) hx3⟩ ho4 (ItemsOf.nil _) ?_
    rintro ⟨h5, g5, d5, t5, o5⟩ acc c5 hm hS hacc
    have e1 : g5 = ge := hm.gens
    have e2 : d5 = dr := hm.drawn
    have e3 : o5 = os := hm.os
    subst e1 e2 e3
    refine ⟨rfl, q _ h5 t5 acc.toList c5 (fun a o e => ?_) (Heap.get?_none_of_le (Nat.le_refl _)) (by rw [Array.toArray_toList]; exact hS) ⟨by rw [Array.length_toList, hacc.1, List.length_map], fun j v n hv hn => ?_⟩⟩
    · have aS : a ≠ h.objs.size := Nat.ne_of_lt (Heap.lt_size e)
      have aI : a ≠ I := by rintro rfl; rw [hk _ _ e] at hIn; cases hIn
      exact hm.heap a o (by simp; exact ⟨aS, aI⟩) (k4 _ _ aS (k3 _ _ (hk _ _ e)))
    · obtain ⟨e, he, rfl⟩ := hacc.2 j v (by simpa using hv)
      rw [List.getElem?_map, he] at hn
      cases hn
      exact ⟨_, rfl⟩
  split
  · unfold List.listTouch List.listUpdate
    refine wpAny_bind (wpAny_rule (wpAny_bind (wpAny_bind (wpAny_updateSeq ho3 rfl ?_ (by rw [sizeLine_eq]; simp) (by rw [sizeLine_eq]; simp)))))
    have u1 : (h3.update h.objs.size (Obj.mapSeq fun x => x.push Value.none)).get? h.objs.size = some (listOf #[.none] 1) := Heap.get?_update_self _ ho3 rfl
    have s1 : Heap.SameBut h.objs.size h3 (h3.update h.objs.size (Obj.mapSeq fun x => x.push Value.none)) := Heap.SameBut.update ..
    dsimp only
    generalize h3.update h.objs.size (Obj.mapSeq fun x => x.push Value.none) = h4 at *
    refine wpAny_updateSeq u1 rfl ?_ (by rw [sizeLine_eq]; simp) (by rw [sizeLine_eq]; simp)
    have u2 : (h4.update h.objs.size (Obj.mapSeq fun x => x.pop)).get? h.objs.size = some (listOf #[] 2) := Heap.get?_update_self _ u1 rfl
    have s2 : Heap.SameBut h.objs.size h4 (h4.update h.objs.size (Obj.mapSeq fun x => x.pop)) := Heap.SameBut.update ..
    dsimp only
    generalize h4.update h.objs.size (Obj.mapSeq fun x => x.pop) = h5 at *
    exact wpAny_pure ⟨Code.quiet_builtin _ (by decide +kernel), fin h5 tk4 2 (fun a o ne e => (s2.2 a ne).trans ((s1.2 a ne).trans e)) u2⟩
  · exact wpAny_pure ⟨Code.quiet_builtin _ (by decide +kernel), fin h3 tk4 0 (fun a o _ e => e) ho3⟩
end
end
section
/-- a total order by a Boolean less-than -/
structure Tot {κ : Type} (lt : κ → κ → Bool) : Prop where
  asym : ∀ a b, lt a b = true → lt b a = false
  tr : ∀ a b c, lt b a = false → lt c b = false → lt c a = false
/-- i is j's father -/
def Kid (i j : Nat) : Prop := j = 2 * i + 1 ∨ j = 2 * i + 2
/-- the order holds along all edges from st on -/
def HeapFrom {κ : Type} (lt : κ → κ → Bool) (st : Nat) (ks : List κ) : Prop := ∀ i j a b, st ≤ i → Kid i j → ks[i]? = some a → ks[j]? = some b → lt b a = false
inductive Desc (st : Nat) : Nat → Prop where
  | self : Desc st st
  | kid {i j : Nat} : Desc st i → Kid i j → Desc st j
theorem Desc.ge {st p : Nat} (d : Desc st p) : st ≤ p := by
  induction d with
  | self => exact Nat.le_refl _
  | kid _ k ih => rcases k with rfl | rfl <;> omega
theorem Desc.up {st p : Nat} (d : Desc st p) (h : st < p) : Desc st ((p - 1) / 2) ∧ Kid ((p - 1) / 2) p := by
  cases d with
  | self => omega
  | kid d k =>
    rename_i i
    have e : (p - 1) / 2 = i := by rcases k with rfl | rfl <;> omega
    rw [e]; exact ⟨d, k⟩
theorem Desc.zero (p : Nat) : Desc 0 p := by
  induction p using Nat.strongRecOn with
  | ind p ih =>
    rcases Nat.eq_zero_or_pos p with rfl | h
    · exact .self
    · exact .kid (ih ((p - 1) / 2) (by omega)) (by unfold Kid; omega)
/-- the order holds but at the hole -/
structure Hole {κ : Type} (lt : κ → κ → Bool) (st pos : Nat) (ks : List κ) : Prop where
  desc : Desc st pos
  edge : ∀ i j a b, st ≤ i → i ≠ pos → j ≠ pos → Kid i j → ks[i]? = some a → ks[j]? = some b → lt b a = false
  grand : ∀ i j a b, st ≤ i → Kid i pos → Kid pos j → ks[i]? = some a → ks[j]? = some b → lt b a = false
theorem sdF_heap {κ : Type} {lt : κ → κ → Bool} (T : Tot lt) (st : Nat) (x : κ) (pos : Nat) (ks : List κ) (hp : pos < ks.length) (H : Hole lt st pos ks) (C : ∀ j b, Kid pos j → ks[j]? = some b → lt b x = false) :
    HeapFrom lt st (sdF lt st x pos ks) := by
  induction pos using Nat.strongRecOn generalizing ks with
  | ind pos ih =>
    have put : (∀ i a, st ≤ i → Kid i pos → ks[i]? = some a → lt x a = false) → HeapFrom lt st (ks.set pos x) := by
      intro hu i j a b hi hk ha hb
      have hne : i ≠ j := by rcases hk with rfl | rfl <;> omega
      by_cases e1 : i = pos
      · subst e1
        rw [List.getElem?_set_self hp] at ha
        rw [List.getElem?_set_ne hne] at hb
        cases ha
        exact C j b hk hb
      · rw [List.getElem?_set_ne (Ne.symm e1)] at ha
        by_cases e2 : j = pos
        · subst e2
          rw [List.getElem?_set_self hp] at hb
          cases hb
          exact hu i a hi hk ha
        · rw [List.getElem?_set_ne (Ne.symm e2)] at hb
          exact H.edge i j a b hi e1 e2 hk ha hb
    unfold sdF
    split
    · rename_i hlt
      obtain ⟨d, k⟩ := H.desc.up hlt
      have hpl : (pos - 1) / 2 < pos := by omega
      split
      · rename_i y hy
        split
        · rename_i hxy
          refine ih _ hpl (ks.set pos y) (by rw [List.length_set]; omega) ⟨d, ?_, ?_⟩ ?_
          · intro i j a b hi n1 n2 hk ha hb
            have hne : i ≠ j := by rcases hk with rfl | rfl <;> omega
            by_cases e1 : i = pos
            · subst e1
              rw [List.getElem?_set_self hp] at ha
              rw [List.getElem?_set_ne hne] at hb
              cases ha
              exact H.grand _ j _ b d.ge k hk hy hb
            · rw [List.getElem?_set_ne (Ne.symm e1)] at ha
              by_cases e2 : j = pos
              · subst e2
                exact absurd (by rcases hk with h | h <;> rcases k with k | k <;> omega) n1
              · rw [List.getElem?_set_ne (Ne.symm e2)] at hb
                exact H.edge i j a b hi e1 e2 hk ha hb
          · intro i j a b hi hk hk' ha hb
            have e1 : i ≠ pos := by rcases hk with h | h <;> omega
            rw [List.getElem?_set_ne (Ne.symm e1)] at ha
            have hya : lt y a = false := H.edge i _ a y hi e1 (Nat.ne_of_lt hpl) hk ha hy
            by_cases e2 : j = pos
            · subst e2
              rw [List.getElem?_set_self hp] at hb
              cases hb
              exact hya
            · rw [List.getElem?_set_ne (Ne.symm e2)] at hb
              exact T.tr a y b hya (H.edge _ j y b d.ge (Nat.ne_of_lt hpl) e2 hk' hy hb)
          · intro j b hk hb
            by_cases e2 : j = pos
            · subst e2
              rw [List.getElem?_set_self hp] at hb
              cases hb
              exact T.asym x y hxy
            · rw [List.getElem?_set_ne (Ne.symm e2)] at hb
              exact T.tr x y b (T.asym x y hxy) (H.edge _ j y b d.ge (Nat.ne_of_lt hpl) e2 hk hy hb)
        · rename_i hxy
          refine put fun i a hi hk ha => ?_
          have e : i = (pos - 1) / 2 := by rcases hk with h | h <;> omega
          subst e
          rw [hy] at ha; cases ha
          simpa using hxy
      · rename_i hy
        exact absurd (List.getElem?_eq_none_iff.mp hy) (by omega)
    · refine put fun i a hi hk ha => ?_
      have := H.desc.ge
      rcases hk with h | h <;> omega
end
section
theorem Tot.irr {κ : Type} {lt : κ → κ → Bool} (T : Tot lt) (a : κ) : lt a a = false := by
  cases h : lt a a with
  | false => rfl
  | true => have := T.asym a a h; rw [h] at this; cases this
theorem suPick_least {κ : Type} {lt : κ → κ → Bool} (T : Tot lt) {ks : List κ} {pos : Nat} {y : κ} (hy : ks[suPick lt ks (2 * pos + 1)]? = some y) {j : Nat} {b : κ} (hk : Kid pos j) (hb : ks[j]? = some b) : lt b y = false := by
  unfold suPick at hy
  split at hy
  · rename_i a c ha hc
    split at hy
    · rename_i hlt
      rw [ha] at hy; cases hy
      rcases hk with rfl | rfl
      · rw [ha] at hb; cases hb; exact T.irr _
      · rw [hc] at hb; cases hb; exact T.asym _ _ hlt
    · rename_i hlt
      rw [hc] at hy; cases hy
      rcases hk with rfl | rfl
      · rw [ha] at hb; cases hb; simpa using hlt
      · rw [hc] at hb; cases hb; exact T.irr _
  · rename_i hn
    rcases hk with rfl | rfl
    · rw [hy] at hb; cases hb; exact T.irr _
    · exact absurd hb (hn _ _ hy)
theorem suPick_kid {κ : Type} (lt : κ → κ → Bool) (ks : List κ) (pos : Nat) : Kid pos (suPick lt ks (2 * pos + 1)) := by
  have := suPick_ge lt ks (2 * pos + 1)
  unfold Kid; omega
theorem suF_hole {κ : Type} {lt : κ → κ → Bool} (T : Tot lt) (st : Nat) : ∀ n pos (ks : List κ), ks.length - pos = n → pos < ks.length → Hole lt st pos ks →
    Hole lt st (suF lt pos ks).1 (suF lt pos ks).2 ∧ (suF lt pos ks).1 < ks.length ∧ (suF lt pos ks).2.length = ks.length ∧ ks.length ≤ 2 * (suF lt pos ks).1 + 1 ∧
      ∀ x, ((suF lt pos ks).2.set (suF lt pos ks).1 x).Perm (ks.set pos x) := by
  intro n
  induction n using Nat.strongRecOn with
  | ind n ih =>
    intro pos ks hn hp H
    have kid := suPick_kid lt ks pos
    unfold suF
    split
    · rename_i hlt
      split
      · rename_i y hy
        have hc := (List.getElem?_eq_some_iff.mp hy).1
        have hpc : pos < suPick lt ks (2 * pos + 1) := by rcases kid with h | h <;> omega
        have pd := @suPick_least κ lt T ks pos y hy
        generalize suPick lt ks (2 * pos + 1) = c at *
        have r := ih (ks.length - c) (by omega) c (ks.set pos y) (by rw [List.length_set]) (by rw [List.length_set]; exact hc) ⟨H.desc.kid kid, ?_, ?_⟩
        · rw [List.length_set] at r
          refine ⟨r.1, r.2.1, r.2.2.1, r.2.2.2.1, fun x => (r.2.2.2.2 x).trans ?_⟩
          have hy' : (ks.set pos x)[c]'(by rw [List.length_set]; exact hc) = y := by
            rw [List.getElem_set_ne (Nat.ne_of_lt hpc)]; exact (List.getElem?_eq_some_iff.mp hy).2
          have sp := List.set_set_perm (as := ks.set pos x) (i := pos) (j := c) (by rw [List.length_set]; exact hp) (by rw [List.length_set]; exact hc)
          rw [hy', List.getElem_set_self, List.set_set] at sp
          exact sp
        · intro i j a b hi n1 n2 hk ha hb
          have hne : i ≠ j := by rcases hk with rfl | rfl <;> omega
          by_cases e1 : i = pos
          · subst e1
            rw [List.getElem?_set_self hp] at ha
            rw [List.getElem?_set_ne hne] at hb
            cases ha
            exact pd hk hb
          · rw [List.getElem?_set_ne (Ne.symm e1)] at ha
            by_cases e2 : j = pos
            · subst e2
              rw [List.getElem?_set_self hp] at hb
              cases hb
              exact H.grand i c a y hi hk kid ha hy
            · rw [List.getElem?_set_ne (Ne.symm e2)] at hb
              exact H.edge i j a b hi e1 e2 hk ha hb
        · intro i j a b hi hk hk' ha hb
          have e : i = pos := by rcases hk with h | h <;> rcases kid with h' | h' <;> omega
          subst e
          rw [List.getElem?_set_self hp] at ha
          cases ha
          have e2 : j ≠ i := by rcases hk' with h | h <;> omega
          rw [List.getElem?_set_ne (Ne.symm e2)] at hb
          exact H.edge c j y b (Nat.le_trans H.desc.ge (Nat.le_of_lt hpc)) (Nat.ne_of_gt hpc) e2 hk' hy hb
      · rename_i hy
        have hl := List.getElem?_eq_none_iff.mp hy
        refine ⟨H, hp, rfl, ?_, fun x => .rfl⟩
        unfold suPick at hl
        split at hl
        · rename_i h1 h2
          have := (List.getElem?_eq_some_iff.mp h1).1
          have := (List.getElem?_eq_some_iff.mp h2).1
          split at hl <;> omega
        · omega
    · exact ⟨H, hp, rfl, by omega, fun x => .rfl⟩
theorem sdF_perm {κ : Type} (lt : κ → κ → Bool) (st : Nat) (x : κ) (pos : Nat) (ks : List κ) (hp : pos < ks.length) : (sdF lt st x pos ks).Perm (ks.set pos x) := by
  induction pos using Nat.strongRecOn generalizing ks with
  | ind pos ih =>
    unfold sdF
    split
    · rename_i hlt
      split
      · rename_i y hy
        have hc := (List.getElem?_eq_some_iff.mp hy).1
        split
        · refine (ih _ (by omega) _ (by rw [List.length_set]; exact hc)).trans ?_
          have hne : pos ≠ (pos - 1) / 2 := by omega
          have hy' : (ks.set pos x)[(pos - 1) / 2]'(by rw [List.length_set]; exact hc) = y := by
            rw [List.getElem_set_ne hne]; exact (List.getElem?_eq_some_iff.mp hy).2
          have sp := List.set_set_perm (as := ks.set pos x) (i := pos) (j := (pos - 1) / 2) (by rw [List.length_set]; exact hp) (by rw [List.length_set]; exact hc)
          rw [hy', List.getElem_set_self, List.set_set] at sp
          exact sp
        · exact .rfl
      · exact .rfl
    · exact .rfl
/-- siftup: from a hole at st (the order holds behind st) it makes the order hold from st on -/
theorem siftup_heap {κ : Type} {lt : κ → κ → Bool} (T : Tot lt) (x : κ) (st : Nat) (ks : List κ) (hp : st < ks.length) (H : HeapFrom lt (st + 1) ks) :
    HeapFrom lt st (siftup lt x st ks) ∧ (siftup lt x st ks).Perm (ks.set st x) := by
  have H0 : Hole lt st st ks := ⟨.self, fun i j a b hi n1 _ hk ha hb => H i j a b (by omega) hk ha hb, fun i j a b hi hk _ _ _ => by rcases hk with h | h <;> omega⟩
  obtain ⟨h1, h2, h3, h4, h5⟩ := suF_hole T st _ st ks rfl hp H0
  unfold siftup
  generalize (suF lt st ks).1 = q at *
  generalize (suF lt st ks).2 = k1 at *
  have hq : q < (k1.set q x).length := by rw [List.length_set]; omega
  have out : ∀ j b, Kid q j → (k1.set q x)[j]? = some b → False := fun j b hk hb => by
    have := (List.getElem?_eq_some_iff.mp hb).1
    rw [List.length_set] at this
    rcases hk with h | h <;> omega
  refine ⟨sdF_heap T st x q _ hq ⟨h1.desc, ?_, fun i j a b _ _ hk _ hb => (out j b hk hb).elim⟩ fun j b hk hb => (out j b hk hb).elim, ((sdF_perm lt st x q _ hq).trans (by rw [List.set_set])).trans (h5 x)⟩
  intro i j a b hi n1 n2 hk ha hb
  rw [List.getElem?_set_ne (Ne.symm n1)] at ha
  rw [List.getElem?_set_ne (Ne.symm n2)] at hb
  exact h1.edge i j a b hi n1 n2 hk ha hb
end
section
theorem hpush_heap {κ : Type} {lt : κ → κ → Bool} (T : Tot lt) {ks : List κ} (x : κ) (H : HeapFrom lt 0 ks) : HeapFrom lt 0 (hpush lt ks x) ∧ (hpush lt ks x).Perm (x :: ks) := by
  unfold hpush
  have hq : ks.length < (ks ++ [x]).length := by rw [List.length_append]; simp
  have out : ∀ j b, Kid ks.length j → (ks ++ [x])[j]? = some b → False := fun j b hk hb => by
    have := (List.getElem?_eq_some_iff.mp hb).1
    rw [List.length_append, List.length_singleton] at this
    rcases hk with h | h <;> omega
  refine ⟨sdF_heap T 0 x _ _ hq ⟨Desc.zero _, ?_, fun i j a b _ _ hk _ hb => (out j b hk hb).elim⟩ fun j b hk hb => (out j b hk hb).elim, (sdF_perm lt 0 x _ _ hq).trans ?_⟩
  · intro i j a b hi n1 n2 hk ha hb
    have la := (List.getElem?_eq_some_iff.mp ha).1
    have lb := (List.getElem?_eq_some_iff.mp hb).1
    rw [List.length_append, List.length_singleton] at la lb
    rw [List.getElem?_append_left (by omega)] at ha hb
    exact H i j a b hi hk ha hb
  · rw [List.set_append_right _ _ (Nat.le_refl _), Nat.sub_self]
    exact List.perm_append_singleton x ks
theorem heap_least {κ : Type} {lt : κ → κ → Bool} (T : Tot lt) {ks : List κ} {y : κ} (H : HeapFrom lt 0 ks) (hy : ks[0]? = some y) : ∀ b ∈ ks, lt b y = false := by
  have key : ∀ (i : Nat) (b : κ), ks[i]? = some b → lt b y = false := by
    intro i
    induction i using Nat.strongRecOn with
    | ind i ih =>
      intro b hb
      rcases Nat.eq_zero_or_pos i with rfl | h
      · rw [hy] at hb; cases hb; exact T.irr _
      · obtain ⟨_, k⟩ := (Desc.zero i).up h
        have hl := (List.getElem?_eq_some_iff.mp hb).1
        have e := List.getElem?_eq_getElem (l := ks) (i := (i - 1) / 2) (by omega)
        exact T.tr _ _ _ (ih _ (by omega) _ e) (H _ _ _ _ (Nat.zero_le _) k e hb)
  intro b hb
  obtain ⟨i, hi, rfl⟩ := List.mem_iff_getElem.mp hb
  exact key i _ (List.getElem?_eq_getElem hi)
theorem hpop_heap {κ : Type} {lt : κ → κ → Bool} (T : Tot lt) {ks k : List κ} {y : κ} (H : HeapFrom lt 0 ks) (hp : hpop lt ks = some (y, k)) : HeapFrom lt 0 k ∧ (y :: k).Perm ks ∧ ∀ b ∈ ks, lt b y = false := by
  cases hx : ks.getLast? with
  | none => unfold hpop at hp; rw [hx] at hp; cases hp
  | some x =>
    have e := split_last hx
    unfold hpop at hp
    rw [hx] at hp
    cases hd : ks.dropLast with
    | nil =>
      rw [hd] at hp e
      simp only [Option.some.injEq, Prod.mk.injEq] at hp
      obtain ⟨rfl, rfl⟩ := hp
      subst e
      refine ⟨fun i j a b _ _ ha _ => by simp at ha, .rfl, fun b hb => ?_⟩
      rw [List.nil_append, List.mem_singleton] at hb
      subst hb; exact T.irr _
    | cons z r =>
      rw [hd] at hp e
      simp only [Option.some.injEq, Prod.mk.injEq] at hp
      obtain ⟨rfl, rfl⟩ := hp
      subst e
      have H1 : HeapFrom lt 1 (x :: r) := by
        intro i j a b hi hk ha hb
        have la := (List.getElem?_eq_some_iff.mp ha).1
        have lb := (List.getElem?_eq_some_iff.mp hb).1
        have tr : ∀ i, 1 ≤ i → i < (x :: r).length → (z :: r ++ [x])[i]? = (x :: r)[i]? := by
          intro i h1 h2
          obtain ⟨i, rfl⟩ : ∃ m, i = m + 1 := ⟨i - 1, by omega⟩
          rw [List.cons_append, List.getElem?_cons_succ, List.getElem?_cons_succ, List.getElem?_append_left (by simpa using h2)]
        exact H i j a b (Nat.zero_le _) hk (by rw [tr i hi la]; exact ha) (by rw [tr j (by rcases hk with h | h <;> omega) lb]; exact hb)
      obtain ⟨g1, g2⟩ := siftup_heap T x 0 (x :: r) (by simp) H1
      refine ⟨g1, ((g2.trans (by rw [List.set_cons_zero])).cons z).trans ?_, heap_least T H rfl⟩
      rw [List.cons_append]
      exact (List.perm_append_singleton x r).symm.cons z
theorem hify_heap {κ : Type} {lt : κ → κ → Bool} (T : Tot lt) : ∀ n (ks : List κ), n ≤ ks.length → HeapFrom lt n ks → HeapFrom lt 0 (hify lt n ks) ∧ (hify lt n ks).Perm ks
  | 0, ks, _, H => ⟨H, .rfl⟩
  | n + 1, ks, hn, H => by
    have e := List.getElem?_eq_getElem (l := ks) (i := n) (by omega)
    rw [hify_step e]
    obtain ⟨g1, g2⟩ := siftup_heap T ks[n] n ks (by omega) H
    rw [List.set_getElem_self] at g2
    obtain ⟨r1, r2⟩ := hify_heap T n _ (by rw [g2.length_eq]; omega) g1
    exact ⟨r1, r2.trans g2⟩
theorem half_heap {κ : Type} {lt : κ → κ → Bool} (ks : List κ) : HeapFrom lt (ks.length / 2) ks := by
  intro i j a b hi hk ha hb
  have lb := (List.getElem?_eq_some_iff.mp hb).1
  rcases hk with h | h <;> omega
theorem popN_heap {κ : Type} {lt : κ → κ → Bool} (T : Tot lt) {ks : List κ} (H : HeapFrom lt 0 ks) : ∀ n, HeapFrom lt 0 (popN lt ks n).2 ∧ ((popN lt ks n).1 ++ (popN lt ks n).2).Perm ks ∧
    (∀ a ∈ (popN lt ks n).1, ∀ b ∈ (popN lt ks n).2, lt b a = false) ∧ (popN lt ks n).1.Pairwise (fun a b => lt b a = false)
  | 0 => ⟨H, .rfl, fun a ha => by simp [popN] at ha, by simp [popN]⟩
  | n + 1 => by
    obtain ⟨h1, h2, h3, h4⟩ := popN_heap T H n
    unfold popN
    split
    · rename_i y k hp
      obtain ⟨g1, g2, g3⟩ := hpop_heap T h1 hp
      have yin : y ∈ (popN lt ks n).2 := g2.subset (List.mem_cons_self ..)
      refine ⟨g1, ?_, ?_, ?_⟩
      · rw [List.append_assoc, List.singleton_append]
        exact (g2.append_left _).trans h2
      · intro a ha b hb
        have bin := g2.subset (List.mem_cons_of_mem y hb)
        rcases List.mem_append.mp ha with ha | ha
        · exact h3 a ha b bin
        · rw [List.mem_singleton] at ha; subst ha
          exact g3 b bin
      · rw [List.pairwise_append]
        refine ⟨h4, List.pairwise_singleton _ _, fun a ha b hb => ?_⟩
        rw [List.mem_singleton] at hb; subst hb
        exact h3 a ha _ yin
    · exact ⟨h1, h2, h3, h4⟩
end
section
theorem tot_nat : Tot natV.lt := by
  constructor
  · intro a b h
    have h : decide (a < b) = true := h
    show decide (b < a) = false
    simp only [decide_eq_true_eq, decide_eq_false_iff_not] at *
    omega
  · intro a b c h1 h2
    have h1 : decide (b < a) = false := h1
    have h2 : decide (c < b) = false := h2
    show decide (c < a) = false
    simp only [decide_eq_false_iff_not] at *
    omega
theorem bl_lt {x s : Nat} : x < 2 ^ s ↔ bl x ≤ s := by
  have := @bl_le x s
  omega
/-- agreeing in all figures from s on -/
theorem xor_lt_pow {a b s : Nat} : a ^^^ b < 2 ^ s ↔ a / 2 ^ s = b / 2 ^ s := by
  have e : (a ^^^ b) / 2 ^ s = (a / 2 ^ s) ^^^ (b / 2 ^ s) := by
    rw [← Nat.shiftRight_eq_div_pow, ← Nat.shiftRight_eq_div_pow, ← Nat.shiftRight_eq_div_pow, Nat.shiftRight_xor_distrib]
  constructor
  · intro h
    rw [Nat.div_eq_of_lt h] at e
    have c := congrArg (· ^^^ (b / 2 ^ s)) e
    simp only [Nat.zero_xor, Nat.xor_assoc, Nat.xor_self, Nat.xor_zero] at c
    exact c.symm
  · intro h
    rw [h, Nat.xor_self] at e
    rcases Nat.div_eq_zero_iff.mp e with h | h
    · have := Nat.two_pow_pos s; omega
    · exact h
/-- bl (a ^^^ b) ≤ s: the numbers agree from the figure s on -/
theorem bl_xor {a b s : Nat} : bl (a ^^^ b) ≤ s ↔ a / 2 ^ s = b / 2 ^ s := by rw [← bl_lt, xor_lt_pow]
/-- the least y of a list whose key is s under l: any n that isn't below y goes no higher under y than it stood under l -/
theorem div_mono_eq {l y n s : Nat} (h1 : l ≤ y) (h2 : y ≤ n) (h : n / 2 ^ s = l / 2 ^ s) : n / 2 ^ s = y / 2 ^ s := by
  have a := Nat.div_le_div_right (c := 2 ^ s) h1
  have b := Nat.div_le_div_right (c := 2 ^ s) h2
  omega
theorem bl_xor_self {n : Nat} : bl (n ^^^ n) = 0 := by rw [Nat.xor_self]; rfl
/-- n and y have the same key s > 0 under l: then they agree in one figure more -/
theorem bl_same {l y n s : Nat} (hn : bl (n ^^^ l) = s + 1) (hy : bl (y ^^^ l) = s + 1) : n / 2 ^ s = y / 2 ^ s := by
  have n1 : n / 2 ^ (s + 1) = l / 2 ^ (s + 1) := bl_xor.mp (by omega)
  have y1 : y / 2 ^ (s + 1) = l / 2 ^ (s + 1) := bl_xor.mp (by omega)
  have n2 : n / 2 ^ s ≠ l / 2 ^ s := fun e => by have := bl_xor.mpr e; omega
  have y2 : y / 2 ^ s ≠ l / 2 ^ s := fun e => by have := bl_xor.mpr e; omega
  rw [Nat.pow_succ, ← Nat.div_div_eq_div_mul, ← Nat.div_div_eq_div_mul] at n1 y1
  omega
/-- another key k ≠ s under l stays the key under y, if k is behind s -/
theorem bl_keep {l y n s k : Nat} (hy : bl (y ^^^ l) ≤ s) (hn : bl (n ^^^ l) = k) (h : s < k) : bl (n ^^^ y) = k := by
  have e : ∀ j, s ≤ j → y / 2 ^ j = l / 2 ^ j := fun j hj => bl_xor.mp (by omega)
  obtain ⟨k, rfl⟩ : ∃ m, k = m + 1 := ⟨k - 1, by omega⟩
  have a : bl (n ^^^ y) ≤ k + 1 := bl_xor.mpr ((bl_xor.mp (by omega)).trans (e (k + 1) (by omega)).symm)
  have b : ¬ bl (n ^^^ y) ≤ k := fun c => by
    have d := (bl_xor.mp c).trans (e k (by omega))
    have := bl_xor.mpr d
    omega
  omega
/-- behind s all are bigger -/
theorem bl_bigger {l y n s k : Nat} (hln : l ≤ n) (hy : bl (y ^^^ l) ≤ s) (hn : bl (n ^^^ l) = k) (h : s < k) : y < n := by
  obtain ⟨k, rfl⟩ : ∃ m, k = m + 1 := ⟨k - 1, by omega⟩
  have e : y / 2 ^ k = l / 2 ^ k := bl_xor.mp (by omega)
  have b : n / 2 ^ k ≠ l / 2 ^ k := fun d => by have := bl_xor.mpr d; omega
  have c := Nat.div_le_div_right (c := 2 ^ k) hln
  apply Nat.lt_of_not_le
  intro d
  have := Nat.div_le_div_right (c := 2 ^ k) d
  omega
end
section
theorem keyAt_none_iff {κ : Type} {D : List (Nat × κ)} {k : Nat} : keyAt D k = none ↔ k ∉ D.map (·.1) := by
  unfold keyAt
  rw [List.findIdx?_eq_none_iff]
  constructor
  · intro h hm
    obtain ⟨d, hd, rfl⟩ := List.mem_map.mp hm
    have := h d hd
    simp at this
  · intro h d hd
    have : d.1 ≠ k := fun e => h (e ▸ List.mem_map_of_mem hd)
    simpa using this
theorem keyAt_split {κ : Type} {D : List (Nat × List κ)} {k i : Nat} (h : keyAt D k = some i) :
    ∃ pre old post, D = pre ++ (k, old) :: post ∧ lstD D k = old ∧ ∀ ks, setD D k ks = pre ++ (k, ks) :: post := by
  obtain ⟨d, hd, rfl⟩ := keyAt_lt h
  have hl := (List.getElem?_eq_some_iff.mp hd).1
  have he := (List.getElem?_eq_some_iff.mp hd).2
  have sp : D = D.take i ++ (d.1, d.2) :: D.drop (i + 1) := by
    have : D.drop i = d :: D.drop (i + 1) := by rw [List.drop_eq_getElem_cons hl, he]
    rw [show ((d.1, d.2) : Nat × List κ) = d from rfl, ← this, List.take_append_drop]
  refine ⟨D.take i, d.2, D.drop (i + 1), sp, lstD_at h hd, fun ks => ?_⟩
  unfold setD
  rw [h]
  show D.modify i _ = _
  apply List.ext_getElem?
  intro j
  rw [List.getElem?_modify]
  by_cases e : j < i
  · rw [List.getElem?_append_left (by rw [List.length_take]; omega), List.getElem?_take_of_lt e]
    have ne : ¬ i = j := by omega
    simp [ne]
  · have lt : (D.take i).length = i := by rw [List.length_take]; omega
    rw [List.getElem?_append_right (by omega), lt]
    by_cases e2 : j = i
    · subst e2
      rw [Nat.sub_self, hd]; simp
    · obtain ⟨m, rfl⟩ : ∃ m, j = i + (m + 1) := ⟨j - i - 1, by omega⟩
      rw [Nat.add_sub_cancel_left, List.getElem?_cons_succ, List.getElem?_drop, show i + 1 + m = i + (m + 1) by omega]
      simp
end
section
/-- all numbers of the book -/
def flatD (D : List (Nat × List Nat)) : List Nat := D.flatMap (·.2)
structure Good (last : Nat) (D : List (Nat × List Nat)) : Prop where
  keys : (D.map (·.1)).Nodup
  heap : ∀ d ∈ D, HeapFrom natV.lt 0 d.2
  key : ∀ d ∈ D, ∀ n ∈ d.2, last ≤ n ∧ bl (n ^^^ last) = d.1
theorem heap_nil {κ : Type} (lt : κ → κ → Bool) (st : Nat) : HeapFrom lt st [] := fun i j a b _ _ ha _ => by simp at ha
theorem hpush_nil {κ : Type} (lt : κ → κ → Bool) (x : κ) : hpush lt [] x = [x] := by
  unfold hpush sdF; rfl
theorem Good.look {last : Nat} {D : List (Nat × List Nat)} (G : Good last D) (fr : Bool) (k : Nat) : Good last (lookD fr D k) ∧ flatD (lookD fr D k) = flatD D := by
  unfold lookD
  split
  · exact ⟨G, rfl⟩
  · rename_i hn
    split
    · exact ⟨G, rfl⟩
    · refine ⟨⟨?_, ?_, ?_⟩, by simp [flatD]⟩
      · rw [List.map_append, List.nodup_append]
        refine ⟨G.keys, by simp, fun a ha b hb e => ?_⟩
        simp at hb
        subst e; subst hb
        exact keyAt_none_iff.mp hn ha
      · intro d hd
        rcases List.mem_append.mp hd with hd | hd
        · exact G.heap d hd
        · rw [List.mem_singleton] at hd; subst hd; exact heap_nil _ _
      · intro d hd
        rcases List.mem_append.mp hd with hd | hd
        · exact G.key d hd
        · rw [List.mem_singleton] at hd; subst hd
          intro n hn'; cases hn'
/-- another list in the place of a list: what it needs -/
theorem Good.set {last : Nat} {D : List (Nat × List Nat)} (G : Good last D) {k i : Nat} (hk : keyAt D k = some i) {ks : List Nat} (hh : HeapFrom natV.lt 0 ks) (hks : ∀ n ∈ ks, last ≤ n ∧ bl (n ^^^ last) = k) :
    Good last (setD D k ks) ∧ (lstD D k ++ flatD (setD D k ks)).Perm (ks ++ flatD D) ∧ (setD D k ks).map (·.1) = D.map (·.1) := by
  obtain ⟨pre, old, post, rfl, e1, e2⟩ := keyAt_split hk
  rw [e1, e2]
  refine ⟨⟨by simpa using G.keys, ?_, ?_⟩, ?_, by simp⟩
  · intro d hd
    rcases List.mem_append.mp hd with hd | hd
    · exact G.heap d (List.mem_append_left _ hd)
    · rcases List.mem_cons.mp hd with rfl | hd
      · exact hh
      · exact G.heap d (List.mem_append_right _ (List.mem_cons_of_mem _ hd))
  · intro d hd
    rcases List.mem_append.mp hd with hd | hd
    · exact G.key d (List.mem_append_left _ hd)
    · rcases List.mem_cons.mp hd with rfl | hd
      · exact hks
      · exact G.key d (List.mem_append_right _ (List.mem_cons_of_mem _ hd))
  · simp only [flatD, List.flatMap_append, List.flatMap_cons]
    rw [List.perm_iff_count]
    intro a
    simp only [List.count_append]
    omega
end
section
theorem lookD_at {κ : Type} {D : List (Nat × List κ)} {k : Nat} (fr : Bool) (h : fr = false ∨ k ∈ D.map (·.1)) : ∃ i, keyAt (lookD fr D k) k = some i := by
  unfold lookD
  split
  · rename_i hn; exact ⟨_, hn⟩
  · rename_i hn
    rcases h with rfl | h
    · rw [if_neg (by decide)]
      exact ⟨_, keyAt_push hn⟩
    · exact absurd h (keyAt_none_iff.mp hn)
theorem pushD_good {last n : Nat} {D : List (Nat × List Nat)} (G : Good last D) (fr : Bool) (hl : last ≤ n) (h : fr = false ∨ bl (n ^^^ last) ∈ D.map (·.1)) :
    Good last (pushD fr last D n) ∧ (flatD (pushD fr last D n)).Perm (n :: flatD D) ∧ (pushD fr last D n).map (·.1) = (lookD fr D (bl (n ^^^ last))).map (·.1) := by
  obtain ⟨g1, g2⟩ := G.look fr (bl (n ^^^ last))
  obtain ⟨i, hi⟩ := lookD_at fr h
  unfold pushD
  generalize lookD fr D (bl (n ^^^ last)) = D1 at *
  obtain ⟨pre, old, post, e, e1, -⟩ := keyAt_split hi
  have hin : ((bl (n ^^^ last), lstD D1 (bl (n ^^^ last))) : Nat × List Nat) ∈ D1 := by rw [e1, e]; simp
  obtain ⟨p1, p2⟩ := hpush_heap tot_nat n (g1.heap _ hin)
  obtain ⟨s1, s2, s3⟩ := g1.set hi p1 fun m hm => by
    rcases List.mem_cons.mp (p2.subset hm) with rfl | hm
    · exact ⟨hl, rfl⟩
    · exact g1.key _ hin m hm
  refine ⟨s1, ?_, s3⟩
  rw [← g2]
  rw [List.perm_iff_count] at *
  intro a
  have a1 := s2 a
  have a2 := p2 a
  simp only [List.count_append, List.count_cons] at *
  omega
theorem pushD_lost {last n : Nat} {D : List (Nat × List Nat)} (h : bl (n ^^^ last) ∉ D.map (·.1)) : pushD true last D n = D := by
  have hn := keyAt_none_iff.mpr h
  unfold pushD
  have e : lookD true D (bl (n ^^^ last)) = D := by unfold lookD; rw [hn]; rfl
  rw [e]
  unfold setD
  rw [hn]
end
section
theorem touchD_good {last : Nat} {D : List (Nat × List Nat)} (G : Good last D) (fr : Bool) : ∀ n, Good last (touchD fr D n) ∧ flatD (touchD fr D n) = flatD D
  | 0 => ⟨G, rfl⟩
  | n + 1 => by
    rw [touchD_succ]
    obtain ⟨h1, h2⟩ := touchD_good G fr n
    obtain ⟨g1, g2⟩ := h1.look fr n
    exact ⟨g1, g2.trans h2⟩
/-- pushing them all -/
theorem pushAll_good {last : Nat} (fr : Bool) : ∀ (ns : List Nat) {D : List (Nat × List Nat)}, Good last D → (∀ n ∈ ns, last ≤ n) → (fr = false ∨ ∀ n ∈ ns, bl (n ^^^ last) ∈ D.map (·.1)) →
    Good last (ns.foldl (pushD fr last) D) ∧ (flatD (ns.foldl (pushD fr last) D)).Perm (ns ++ flatD D) ∧ (fr = true → (ns.foldl (pushD fr last) D).map (·.1) = D.map (·.1))
  | [], D, G, _, _ => ⟨G, .rfl, fun _ => rfl⟩
  | n :: ns, D, G, hl, hk => by
    obtain ⟨g1, g2, g3⟩ := pushD_good G fr (hl n (List.mem_cons_self ..)) (hk.imp id fun h => h n (List.mem_cons_self ..))
    have kf : fr = true → (pushD fr last D n).map (·.1) = D.map (·.1) := by
      rintro rfl
      rw [g3]
      unfold lookD
      split <;> rfl
    obtain ⟨r1, r2, r3⟩ := pushAll_good fr ns g1 (fun m hm => hl m (List.mem_cons_of_mem _ hm)) (by
      cases fr with
      | false => exact .inl rfl
      | true =>
        refine .inr fun m hm => ?_
        rw [kf rfl]
        rcases hk with h | h
        · cases h
        · exact h m (List.mem_cons_of_mem _ hm))
    rw [List.foldl_cons]
    refine ⟨r1, r2.trans ?_, fun e => (r3 e).trans (kf e)⟩
    refine (g2.append_left ns).trans ?_
    rw [List.cons_append]
    exact List.perm_middle
end
section
/-- an entry's list is the list at its key -/
theorem lstD_mem {κ : Type} {D : List (Nat × List κ)} (hn : (D.map (·.1)).Nodup) {d : Nat × List κ} (hd : d ∈ D) : lstD D d.1 = d.2 := by
  obtain ⟨k, ks⟩ := d
  show lstD D k = ks
  cases hk : keyAt D k with
  | none => exact absurd (List.mem_map_of_mem (f := (·.1)) hd) (keyAt_none_iff.mp hk)
  | some i =>
    obtain ⟨pre, old, post, e, e1, -⟩ := keyAt_split hk
    rw [e1]
    subst e
    rw [List.map_append, List.map_cons, List.nodup_append, List.nodup_cons] at hn
    obtain ⟨_, ⟨n1, _⟩, n2⟩ := hn
    rcases List.mem_append.mp hd with hd | hd
    · exact absurd rfl (n2 k (List.mem_map_of_mem (f := (·.1)) hd) k (List.mem_cons_self ..))
    · rcases List.mem_cons.mp hd with h | hd
      · cases h; rfl
      · exact absurd (List.mem_map_of_mem (f := (·.1)) hd) n1
end
section
theorem take_good {last s y : Nat} {k1 : List Nat} {D : List (Nat × List Nat)} (G : Good last D) (fr : Bool) (h0 : ∀ j, j < s → lstD D j = []) (h1 : lstD D s ≠ []) (hp : hpop natV.lt (lstD D s) = some (y, k1)) (hk : fr = true → ∀ j, j < s → j ∈ D.map (·.1)) :
    Good y ((popN natV.lt k1 k1.length).1.foldl (pushD fr y) (setD (touchD fr D s) s [])) ∧
      (y :: flatD ((popN natV.lt k1 k1.length).1.foldl (pushD fr y) (setD (touchD fr D s) s []))).Perm (flatD D) ∧ (∀ n ∈ flatD D, y ≤ n) ∧ last ≤ y ∧
      (fr = true → ((popN natV.lt k1 k1.length).1.foldl (pushD fr y) (setD (touchD fr D s) s [])).map (·.1) = (touchD fr D s).map (·.1)) := by
  obtain ⟨G1, f1⟩ := touchD_good G fr s
  have l1 : ∀ j, lstD (touchD fr D s) j = lstD D j := lstD_touch fr D s
  rw [← f1]
  rw [← l1 s] at h1 hp
  have h0 : ∀ j, j < s → lstD (touchD fr D s) j = [] := fun j hj => (l1 j).trans (h0 j hj)
  have hk : fr = true → ∀ j, j < s → j ∈ (touchD fr D s).map (·.1) := by
    intro e j hj
    have kt : ∀ n, touchD true D n = D := fun n => by
      induction n with
      | zero => rfl
      | succ n ih => rw [touchD_succ, ih]; unfold lookD; split <;> rfl
    subst e
    rw [kt]
    exact hk rfl j hj
  generalize touchD fr D s = D1 at *
  have hks : ∃ i, keyAt D1 s = some i := by
    cases h : keyAt D1 s with
    | some i => exact ⟨i, rfl⟩
    | none => exact absurd (by unfold lstD; rw [h]) h1
  obtain ⟨i, hi⟩ := hks
  have hin : ((s, lstD D1 s) : Nat × List Nat) ∈ D1 := by
    obtain ⟨pre, old, post, e, e1, -⟩ := keyAt_split hi
    rw [e1, e]; simp
  obtain ⟨p1, p2, p3⟩ := hpop_heap tot_nat (G1.heap _ hin) hp
  have p3 : ∀ b ∈ lstD D1 s, y ≤ b := fun b hb => by
    have h : decide (b < y) = false := p3 b hb
    simpa using h
  have yk := G1.key _ hin y (p2.subset (List.mem_cons_self ..))
  have far : ∀ d ∈ D1, ∀ n ∈ d.2, d.1 ≠ s → s < d.1 ∧ y < n ∧ bl (n ^^^ y) = d.1 := by
    intro d hd n hn ne
    have ld := lstD_mem G1.keys hd
    have gt : s < d.1 := by
      apply Nat.lt_of_le_of_ne _ (Ne.symm ne)
      apply Nat.le_of_not_lt
      intro lt
      rw [h0 _ lt] at ld
      rw [← ld] at hn; cases hn
    have kn := G1.key d hd n hn
    exact ⟨gt, bl_bigger kn.1 (Nat.le_of_eq yk.2) kn.2 gt, bl_keep (Nat.le_of_eq yk.2) kn.2 gt⟩
  obtain ⟨s1, s2, s3⟩ := G1.set hi (heap_nil natV.lt 0) (ks := []) (fun n hn => by cases hn)
  have memD : ∀ d ∈ setD D1 s [], ∀ n ∈ d.2, d ∈ D1 ∧ d.1 ≠ s := by
    intro d hd n hn
    obtain ⟨pre, old, post, e, e1, e2⟩ := keyAt_split hi
    have nd := G1.keys
    rw [e, List.map_append, List.map_cons, List.nodup_append, List.nodup_cons] at nd
    obtain ⟨_, ⟨n1, _⟩, n2⟩ := nd
    rw [e2] at hd
    rcases List.mem_append.mp hd with hd | hd
    · exact ⟨by rw [e]; exact List.mem_append_left _ hd, fun h => n2 d.1 (List.mem_map_of_mem (f := (·.1)) hd) s (List.mem_cons_self ..) h⟩
    · rcases List.mem_cons.mp hd with rfl | hd
      · cases hn
      · exact ⟨by rw [e]; exact List.mem_append_right _ (List.mem_cons_of_mem _ hd), fun h => n1 (h ▸ List.mem_map_of_mem (f := (·.1)) hd)⟩
  have G2 : Good y (setD D1 s []) := ⟨s1.keys, s1.heap, fun d hd n hn => by
    obtain ⟨m1, m2⟩ := memD d hd n hn
    obtain ⟨a, b, c⟩ := far d m1 n hn m2
    exact ⟨Nat.le_of_lt b, c⟩⟩
  obtain ⟨-, o2, -, -⟩ := popN_heap tot_nat p1 k1.length
  have ol := (popN_len natV.lt k1 k1.length (Nat.le_refl _)).1
  have on : (popN natV.lt k1 k1.length).2 = [] := List.length_eq_zero_iff.mp (by omega)
  rw [on, List.append_nil] at o2
  have oin : ∀ n ∈ (popN natV.lt k1 k1.length).1, n ∈ lstD D1 s := fun n hn => p2.subset (List.mem_cons_of_mem _ (o2.subset hn))
  obtain ⟨r1, r2, r3⟩ := pushAll_good fr (popN natV.lt k1 k1.length).1 G2 (fun n hn => p3 n (oin n hn)) (by
    cases fr with
    | false => exact .inl rfl
    | true =>
      refine .inr fun n hn => ?_
      rw [s3]
      have kn := (G1.key _ hin n (oin n hn)).2
      cases s with
      | zero =>
        have a : n / 2 ^ 0 = y / 2 ^ 0 := (bl_xor.mp (Nat.le_of_eq kn)).trans (bl_xor.mp (Nat.le_of_eq yk.2)).symm
        have b : bl (n ^^^ y) = 0 := Nat.le_zero.mp (bl_xor.mpr a)
        rw [b]
        exact List.mem_map_of_mem (f := (·.1)) hin
      | succ s => exact hk rfl _ (Nat.lt_succ_of_le (bl_xor.mpr (bl_same kn yk.2))))
  refine ⟨r1, ?_, ?_, yk.1, fun e => (r3 e).trans s3⟩
  · rw [List.perm_iff_count] at *
    intro a
    have a1 := r2 a
    have a2 := s2 a
    have a3 := p2 a
    have a4 := o2 a
    simp only [List.count_append, List.count_cons, List.nil_append] at *
    omega
  · intro n hn
    obtain ⟨d, hd, hn⟩ := List.mem_flatMap.mp hn
    by_cases e : d.1 = s
    · have := lstD_mem G1.keys hd
      rw [e] at this
      rw [← this] at hn
      exact p3 n hn
    · exact Nat.le_of_lt (far d hd n hn e).2.1
end
section
/-- what `_law_holds` asks of each number -/
theorem holds_num {n l k : Nat} (h : bl (n ^^^ l) = k) : n / 2 ^ k = l / 2 ^ k ∧ (0 < k → n * 2 / 2 ^ k ≠ l * 2 / 2 ^ k) := by
  refine ⟨bl_xor.mp (Nat.le_of_eq h), fun hk e => ?_⟩
  obtain ⟨j, rfl⟩ : ∃ m, k = m + 1 := ⟨k - 1, by omega⟩
  rw [Nat.pow_succ, Nat.mul_div_mul_right _ _ (by decide), Nat.mul_div_mul_right _ _ (by decide)] at e
  have := bl_xor.mpr e
  omega
/-- what `_law_comes_in` asks -/
theorem comes_in {n l c : Nat} (hc : 0 < c) : n / 2 ^ (c - 1) = l / 2 ^ (c - 1) ↔ bl (n ^^^ l) < c := by
  rw [← bl_xor]; omega
end
section
structure Inv (fr : Bool) (cnt base B N : Nat) (D : List (Nat × List Nat)) (hp row : List Nat) (last : Nat) : Prop where
  good : Good last D
  perm : (flatD D).Perm row
  srt : row.Pairwise (· ≤ ·)
  hperm : hp.Perm row
  hheap : HeapFrom natV.lt 0 hp
  keysF : fr = true → D.map (·.1) = List.range cnt
  keysU : ∀ d ∈ D, d.1 ≤ 9
  lastB : last ≤ B
  rowB : ∀ n ∈ row, n ≤ B
  agree : fr = true → last / 2 ^ (cnt - 1) = base / 2 ^ (cnt - 1)
  len : row.length ≤ N
section
variable {fr : Bool} {cnt base B N : Nat} {D : List (Nat × List Nat)} {hp row : List Nat} {last : Nat}
theorem Inv.mono (I : Inv fr cnt base B N D hp row last) {B' N' : Nat} (hB : B ≤ B') (hN : N ≤ N') : Inv fr cnt base B' N' D hp row last :=
  ⟨I.good, I.perm, I.srt, I.hperm, I.hheap, I.keysF, I.keysU, Nat.le_trans I.lastB hB, fun n hn => Nat.le_trans (I.rowB n hn) hB, I.agree, Nat.le_trans I.len hN⟩
theorem bl_small {a b : Nat} (ha : a < 512) (hb : b < 512) : bl (a ^^^ b) ≤ 9 := bl_lt.mp (Nat.xor_lt_two_pow (n := 9) ha hb)
theorem nodup_len : ∀ (n : Nat) (l : List Nat), l.Nodup → (∀ x ∈ l, x < n) → l.length ≤ n
  | 0, l, _, h => by
    cases l with
    | nil => exact Nat.le_refl _
    | cons a r => exact absurd (h a (.head _)) (Nat.not_lt_zero _)
  | n + 1, l, hn, h => by
    by_cases hm : n ∈ l
    · have e := List.length_erase_of_mem hm
      have := nodup_len n (l.erase n) (hn.erase n) fun x hx => by
        have z := (hn.mem_erase_iff).mp hx
        have := h x z.2
        have := z.1
        omega
      omega
    · have := nodup_len n l hn fun x hx => by
        have := h x hx
        have : x ≠ n := fun e => hm (e ▸ hx)
        omega
      omega
theorem Inv.dlen (I : Inv fr cnt base B N D hp row last) : D.length ≤ 10 := by
  have e : D.length = (D.map (·.1)).length := by simp
  rw [e]
  refine nodup_len 10 _ I.good.keys fun x hx => ?_
  obtain ⟨d, hd, rfl⟩ := List.mem_map.mp hx
  have := I.keysU d hd; omega
theorem mem_flat {d : Nat × List Nat} (hd : d ∈ D) {n : Nat} (hn : n ∈ d.2) : n ∈ flatD D := List.mem_flatMap.mpr ⟨d, hd, hn⟩
theorem len_flat : ∀ {D : List (Nat × List Nat)} {d : Nat × List Nat}, d ∈ D → d.2.length ≤ (flatD D).length
  | x :: D, d, hd => by
    unfold flatD
    rw [List.flatMap_cons, List.length_append]
    rcases List.mem_cons.mp hd with rfl | hd
    · omega
    · have := len_flat hd
      unfold flatD at this
      omega
theorem Inv.flen (I : Inv fr cnt base B N D hp row last) : (flatD D).length ≤ N := by rw [I.perm.length_eq]; exact I.len
theorem Inv.llen (I : Inv fr cnt base B N D hp row last) : ∀ d ∈ D, d.2.length ≤ N := fun d hd => Nat.le_trans (len_flat hd) I.flen
theorem Inv.numB (I : Inv fr cnt base B N D hp row last) : ∀ d ∈ D, ∀ n ∈ d.2, n ≤ B := fun d hd n hn => I.rowB n (I.perm.subset (mem_flat hd hn))
theorem lookD_keysU {κ : Type} {fr : Bool} {D : List (Nat × List κ)} {k K : Nat} (h : ∀ d ∈ D, d.1 ≤ K) (hk : k ≤ K) : ∀ d ∈ lookD fr D k, d.1 ≤ K := by
  intro d hd
  unfold lookD at hd
  split at hd
  · exact h d hd
  · split at hd
    · exact h d hd
    · rcases List.mem_append.mp hd with hd | hd
      · exact h d hd
      · rw [List.mem_singleton] at hd; subst hd; exact hk
theorem keysU_of_map {D D' : List (Nat × List Nat)} {K : Nat} (e : D.map (·.1) = D'.map (·.1)) (h : ∀ d ∈ D', d.1 ≤ K) : ∀ d ∈ D, d.1 ≤ K := fun d hd => by
  have : d.1 ∈ D'.map (·.1) := e ▸ List.mem_map_of_mem (f := (·.1)) hd
  obtain ⟨d', hd', e'⟩ := List.mem_map.mp this
  rw [← e']; exact h d' hd'
theorem look_true_keys {κ : Type} (D : List (Nat × List κ)) (k : Nat) : lookD true D k = D := by
  unfold lookD
  split <;> rfl
/-- whether a number comes in is whether its list is there -/
theorem Inv.there (I : Inv fr cnt base B N D hp row last) (hf : fr = decide (0 < cnt)) (n : Nat) : (cnt = 0 ∨ n / 2 ^ (cnt - 1) = base / 2 ^ (cnt - 1)) ↔ (fr = false ∨ bl (n ^^^ last) ∈ D.map (·.1)) := by
  cases fr with
  | false =>
    have : ¬ 0 < cnt := by simpa using hf.symm
    simp; left; omega
  | true =>
    have hc : 0 < cnt := by simpa using hf.symm
    rw [I.keysF rfl, List.mem_range, ← I.agree rfl, comes_in hc]
    simp; omega
theorem Inv.pushIn (I : Inv fr cnt base B N D hp row last) (hf : fr = decide (0 < cnt)) {n : Nat} (hn : last ≤ n) (hB : B ≤ 511) (hn2 : n ≤ 511) (hc : cnt = 0 ∨ n / 2 ^ (cnt - 1) = base / 2 ^ (cnt - 1)) {row' : List Nat} (hp' : row'.Perm (row ++ [n])) (hs : row'.Pairwise (· ≤ ·)) {B' : Nat} (hB' : B ≤ B') (hnB : n ≤ B') :
    Inv fr cnt base B' (N + 1) (pushD fr last D n) (hpush natV.lt hp n) row' last := by
  obtain ⟨g1, g2, g3⟩ := pushD_good I.good fr hn ((I.there hf n).mp hc)
  obtain ⟨h1, h2⟩ := hpush_heap tot_nat n I.hheap
  have kb : bl (n ^^^ last) ≤ 9 := bl_small (by omega) (by have := I.lastB; omega)
  have pr : (n :: row).Perm row' := by
    refine List.Perm.trans ?_ hp'.symm
    exact (List.perm_append_comm (l₁ := [n]) (l₂ := row))
  refine ⟨g1, g2.trans ((I.perm.cons n).trans pr), hs, h2.trans ((I.hperm.cons n).trans pr), h1, fun e => ?_, ?_, Nat.le_trans I.lastB hB', fun m hm => ?_, I.agree, ?_⟩
  · subst e
    rw [g3, look_true_keys]; exact I.keysF rfl
  · exact keysU_of_map g3 (lookD_keysU I.keysU kb)
  · rcases List.mem_cons.mp (pr.symm.subset hm) with rfl | hm
    · exact hnB
    · exact Nat.le_trans (I.rowB m hm) hB'
  · rw [← pr.length_eq]; simpa using I.len
theorem Inv.pushOut (I : Inv fr cnt base B N D hp row last) (hf : fr = decide (0 < cnt)) {n : Nat} (hc : ¬ (cnt = 0 ∨ n / 2 ^ (cnt - 1) = base / 2 ^ (cnt - 1))) :
    pushD fr last D n = D := by
  rw [I.there hf n] at hc
  have h1 : fr = true := by cases fr with
    | true => rfl
    | false => exact absurd (.inl rfl) hc
  subst h1
  exact pushD_lost fun h => hc (.inr h)
/-- what is there to take -/
theorem Inv.first (I : Inv fr cnt base B N D hp row last) (hr : row ≠ []) : ∃ s, (∀ j, j < s → lstD D j = []) ∧ lstD D s ≠ [] ∧ s ≤ 9 ∧ (fr = true → s < cnt) := by
  have ex : ∃ s, lstD D s ≠ [] := by
    cases row with
    | nil => exact absurd rfl hr
    | cons a r =>
      have : a ∈ flatD D := I.perm.symm.subset (.head _)
      obtain ⟨d, hd, hn⟩ := List.mem_flatMap.mp this
      refine ⟨d.1, ?_⟩
      rw [lstD_mem I.good.keys hd]
      intro e; rw [e] at hn; cases hn
  have least : ∀ n, lstD D n ≠ [] → ∃ s, (∀ j, j < s → lstD D j = []) ∧ lstD D s ≠ [] := by
    intro n
    induction n using Nat.strongRecOn with
    | ind n ih =>
      intro hn
      by_cases h : ∃ j, j < n ∧ lstD D j ≠ []
      · obtain ⟨j, hj, e⟩ := h
        exact ih j hj e
      · refine ⟨n, fun j hj => ?_, hn⟩
        apply Classical.byContradiction
        intro e
        exact h ⟨j, hj, e⟩
  obtain ⟨s0, hs0⟩ := ex
  obtain ⟨s, h1, h2⟩ := least s0 hs0
  have km : s ∈ D.map (·.1) := by
    apply Classical.byContradiction
    intro e
    apply h2
    unfold lstD
    rw [keyAt_none_iff.mpr e]
  refine ⟨s, h1, h2, ?_, fun e => ?_⟩
  · obtain ⟨d, hd, rfl⟩ := List.mem_map.mp km
    exact I.keysU d hd
  · rw [I.keysF e, List.mem_range] at km; exact km
theorem touch_true (D : List (Nat × List Nat)) (n : Nat) : touchD true D n = D := by
  induction n with
  | zero => rfl
  | succ n ih => rw [touchD_succ, ih, look_true_keys]
theorem touchD_keysU {fr : Bool} {D : List (Nat × List Nat)} {K : Nat} (h : ∀ d ∈ D, d.1 ≤ K) : ∀ n, n ≤ K + 1 → ∀ d ∈ touchD fr D n, d.1 ≤ K
  | 0, _ => h
  | n + 1, hn => by rw [touchD_succ]; exact lookD_keysU (touchD_keysU h n (by omega)) (by omega)
theorem setD_keys (D : List (Nat × List Nat)) (k : Nat) (ks : List Nat) : (setD D k ks).map (·.1) = D.map (·.1) := by
  cases hk : keyAt D k with
  | none => unfold setD; rw [hk]
  | some i =>
    obtain ⟨pre, old, post, e, _, e2⟩ := keyAt_split hk
    rw [e2, e]; simp
theorem pushAll_keysU {fr : Bool} {last K : Nat} : ∀ (ns : List Nat) {D : List (Nat × List Nat)}, (∀ d ∈ D, d.1 ≤ K) → (∀ n ∈ ns, bl (n ^^^ last) ≤ K) → ∀ d ∈ ns.foldl (pushD fr last) D, d.1 ≤ K
  | [], D, h, _ => h
  | n :: ns, D, h, hn => by
    rw [List.foldl_cons]
    refine pushAll_keysU ns ?_ fun m hm => hn m (.tail _ hm)
    unfold pushD
    exact keysU_of_map (setD_keys _ _ _) (lookD_keysU h (hn n (.head _)))
theorem Inv.take (I : Inv fr cnt base B N D hp row last) (hf : fr = decide (0 < cnt)) (hB : B ≤ 511) {y0 : Nat} {r0 : List Nat} (hr : row = y0 :: r0) {s : Nat} (h0 : ∀ j, j < s → lstD D j = []) (h1 : lstD D s ≠ []) (hs : fr = true → s < cnt) (hs9 : s ≤ 9) {y : Nat} {k1 : List Nat} (hp1 : hpop natV.lt (lstD D s) = some (y, k1)) {y2 : Nat} {hp2 : List Nat} (hpp : hpop natV.lt hp = some (y2, hp2)) :
    y = y0 ∧ y2 = y0 ∧ (∀ n ∈ (popN natV.lt k1 k1.length).1, bl (n ^^^ y) ≤ 9) ∧ Inv fr cnt base B (N - 1) ((popN natV.lt k1 k1.length).1.foldl (pushD fr y) (setD (touchD fr D s) s [])) hp2 r0 y := by
  subst hr
  obtain ⟨t1, t2, t3, t4, t5⟩ := take_good I.good fr h0 h1 hp1 (fun e j hj => by rw [I.keysF e, List.mem_range]; exact Nat.lt_trans hj (hs e))
  have least0 : ∀ n ∈ y0 :: r0, y0 ≤ n := fun n hn => by
    rcases List.mem_cons.mp hn with rfl | hn
    · exact Nat.le_refl _
    · exact (List.pairwise_cons.mp I.srt).1 n hn
  have ym : y ∈ y0 :: r0 := I.perm.subset (t2.subset (.head _))
  have e1 : y = y0 := Nat.le_antisymm (t3 y0 (I.perm.symm.subset (.head _))) (least0 y ym)
  obtain ⟨q1, q2, q3⟩ := hpop_heap tot_nat I.hheap hpp
  have y2m : y2 ∈ y0 :: r0 := I.hperm.subset (q2.subset (.head _))
  have e2 : y2 = y0 := by
    have h : decide (y0 < y2) = false := q3 y0 (I.hperm.symm.subset (.head _))
    have h' : ¬ y0 < y2 := by simpa using h
    exact Nat.le_antisymm (by omega) (least0 y2 y2m)
  have yB : y ≤ B := I.rowB y ym
  have outs : ∀ n ∈ (popN natV.lt k1 k1.length).1, n ∈ flatD D := fun n hn => by
    obtain ⟨-, o2, -, -⟩ := popN_heap tot_nat (hpop_heap tot_nat (I.good.heap _ (by
      cases hk : keyAt D s with
      | none => exact absurd (by unfold lstD; rw [hk]) h1
      | some i =>
        obtain ⟨pre, old, post, e, e', -⟩ := keyAt_split hk
        show ((s, lstD D s) : Nat × List Nat) ∈ D
        rw [e', e]; simp)) hp1).1 k1.length
    have hk1 : n ∈ k1 := o2.subset (List.mem_append_left _ hn)
    cases hk : keyAt D s with
    | none => exact absurd (by unfold lstD; rw [hk]) h1
    | some i =>
      obtain ⟨pre, old, post, e, e', -⟩ := keyAt_split hk
      have hd : ((s, lstD D s) : Nat × List Nat) ∈ D := by rw [e', e]; simp
      exact mem_flat hd ((hpop_heap tot_nat (I.good.heap _ hd) hp1).2.1.subset (.tail _ hk1))
  have outsB : ∀ n ∈ (popN natV.lt k1 k1.length).1, bl (n ^^^ y) ≤ 9 := fun n hn => bl_small (by have := I.rowB n (I.perm.subset (outs n hn)); omega) (by omega)
  refine ⟨e1, e2, outsB, ?_⟩
  subst e1
  subst e2
  have pr : (flatD ((popN natV.lt k1 k1.length).1.foldl (pushD fr y2) (setD (touchD fr D s) s []))).Perm r0 := (t2.trans I.perm).cons_inv
  refine ⟨t1, pr, (List.pairwise_cons.mp I.srt).2, (q2.trans I.hperm).cons_inv, q1, fun e => ?_, ?_, yB, fun n hn => I.rowB n (.tail _ hn), fun e => ?_, ?_⟩
  · subst e
    rw [t5 rfl, touch_true]; exact I.keysF rfl
  · exact pushAll_keysU _ (keysU_of_map (setD_keys _ _ _) (touchD_keysU I.keysU s (by omega))) outsB
  · subst e
    have hc : 0 < cnt := by simpa using hf.symm
    have m : y2 ∈ flatD D := I.perm.symm.subset (.head _)
    obtain ⟨d, hd, hn⟩ := List.mem_flatMap.mp m
    have k := (I.good.key d hd y2 hn).2
    have kl : d.1 < cnt := by
      have := List.mem_map_of_mem (f := (·.1)) hd
      rw [I.keysF rfl, List.mem_range] at this; exact this
    rw [← I.agree rfl]
    exact (comes_in hc).mpr (by omega)
  · have := I.len
    simp at this; omega
end
/-- how many calls put in -/
def pc (xs : List Int) : Nat := xs.foldl (fun n x => if 0 < x.fmod 3 then n + 1 else n) 0
/-- how many numbers lie inside at the most -/
def rb (xs : List Int) : Nat := xs.foldl (fun n x => if 0 < x.fmod 3 then n + 1 else n - 1) 0
theorem pc_take {xs : List Int} {i : Nat} {x : Int} (h : xs[i]? = some x) : pc (xs.take (i + 1)) = if 0 < x.fmod 3 then pc (xs.take i) + 1 else pc (xs.take i) := by
  unfold pc
  rw [List.take_add_one, h, List.foldl_append]; rfl
theorem rb_take {xs : List Int} {i : Nat} {x : Int} (h : xs[i]? = some x) : rb (xs.take (i + 1)) = if 0 < x.fmod 3 then rb (xs.take i) + 1 else rb (xs.take i) - 1 := by
  unfold rb
  rw [List.take_add_one, h, List.foldl_append]; rfl
theorem pc_fold (xs : List Int) : ∀ n, n ≤ xs.foldl (fun n x => if 0 < x.fmod 3 then n + 1 else n) n := by
  induction xs with
  | nil => intro n; exact Nat.le_refl _
  | cons x xs ih =>
    intro n
    rw [List.foldl_cons]
    refine Nat.le_trans ?_ (ih _)
    split <;> omega
theorem pc_le (xs : List Int) (i : Nat) : pc (xs.take i) ≤ pc xs := by
  conv => rhs; rw [← List.take_append_drop i xs]
  unfold pc
  rw [List.foldl_append]
  exact pc_fold _ _
theorem rb_le_pc (xs : List Int) : ∀ n m, n ≤ m → xs.foldl (fun n x => if 0 < x.fmod 3 then n + 1 else n - 1) n ≤ xs.foldl (fun n x => if 0 < x.fmod 3 then n + 1 else n) m := by
  induction xs with
  | nil => intro n m h; exact h
  | cons x xs ih =>
    intro n m h
    rw [List.foldl_cons, List.foldl_cons]
    refine ih _ _ ?_
    split <;> omega
theorem Inv.skip {fr : Bool} {cnt base B N N' : Nat} {D : List (Nat × List Nat)} {hp : List Nat} {last : Nat} (I : Inv fr cnt base B N D hp [] last) : Inv fr cnt base B N' D hp [] last :=
  ⟨I.good, I.perm, I.srt, I.hperm, I.hheap, I.keysF, I.keysU, I.lastB, I.rowB, I.agree, Nat.zero_le _⟩
theorem Inv.start (cnt base : Nat) (hc : cnt ≤ 10) (hb : base ≤ 63) : Inv (decide (0 < cnt)) cnt base 63 0 (emptyD cnt) [] [] base := by
  have mp : (emptyD cnt).map (·.1) = List.range cnt := by unfold emptyD; rw [List.map_map]; exact List.map_id _
  have em : ∀ d ∈ emptyD cnt, d.1 < cnt ∧ d.2 = [] := fun d hd => by
    unfold emptyD at hd
    obtain ⟨k, hk, rfl⟩ := List.mem_map.mp hd
    exact ⟨List.mem_range.mp hk, rfl⟩
  have fl : flatD (emptyD cnt) = [] := by
    unfold flatD
    rw [List.flatMap_eq_nil_iff]
    exact fun d hd => (em d hd).2
  refine ⟨⟨by rw [mp]; exact List.nodup_range, fun d hd => ?_, fun d hd n hn => ?_⟩, by rw [fl], .nil, .rfl, heap_nil _ _, fun _ => mp, fun d hd => ?_, hb, fun n hn => absurd hn (List.not_mem_nil), fun _ => rfl, Nat.le_refl _⟩
  · rw [(em d hd).2]; exact heap_nil _ _
  · rw [(em d hd).2] at hn; cases hn
  · have := (em d hd).1; omega
end
section
theorem natV_of_ints {h : Heap} {vs : List Value} {ns : List Int} (hI : IntsAre vs ns) (h0 : ∀ n ∈ ns, 0 ≤ n) : RelL (natV.rel h) vs (ns.map Int.toNat) := by
  induction hI with
  | nil => exact RelL.nil
  | @cons n t vs ns _ ih =>
    have r := ih fun m hm => h0 m (.tail _ hm)
    refine ⟨by simpa using r.1, fun i v k hv hk => ?_⟩
    cases i with
    | zero =>
      simp only [List.map_cons, List.getElem?_cons_zero, Option.some.injEq] at hv hk
      subst hv; subst hk
      exact ⟨t, by rw [Int.toNat_of_nonneg (h0 n (.head _))]⟩
    | succ i => exact r.2 i v k (by simpa using hv) (by simpa using hk)
section
variable {prog : Program} {w : World} {A : Around} {E : Value → Shared → Prop} {p : Program} {loose : List Str} {mean : ExcName → Option Value} {mg mb : Str → Option Value} {g h : Heap} {ge : Array GenState} {dr : Drawn} {tk : Nat} {os : OsState}
  {L : Addr} {m : Str → Option Value} {news : List (Addr × Obj)} {Q : Value → Shared → Prop}
theorem FB.grow (f : FB w p loose mean mg mb g L h m news) {h' : Heap} {l : Addr} {o : Obj} (k : ∀ a o, h.get? a = some o → h'.get? a = some o) (hn : h.get? l = none) (hl : h'.get? l = some o) :
    FB w p loose mean mg mb g L h' m ((l, o) :: news) ∧ (∀ q ∈ news, q.1 ≠ l) := by
  refine ⟨(f.all k).cons hl ?_ ?_, fun q hq e => ?_⟩
  · obtain ⟨oL, _, _, hL, _⟩ := f.ns
    rintro rfl; rw [hn] at hL; cases hL
  · cases e : g.get? l with
    | none => rfl
    | some o => rw [f.keep _ _ e] at hn; cases hn
  · have := (f.N q hq).1
    rw [e, hn] at this; cases this
theorem ml_listBook (f : FB w p loose mean mg mb g L h m news) {bk : BookV} {D : List (Nat × List Nat)} (R : BookR natV h bk D) (hx : h.get? bk.x = some (bookO bk.dx (bookEs bk.ents) bk.ep)) (hh : A.handled = none) (hz : D.length ≤ 1000000)
    (q : ∀ l h' tk' vs c, FB w p loose mean mg mb g L h' m ((l, listOf vs.toArray c) :: news) → (∀ q ∈ news, q.1 ≠ l) → RelL (natV.rel h') vs (D.map (·.1)) → (∀ a o, h.get? a = some o → h'.get? a = some o) → Q (.ref l) ⟨h', ge, dr, tk', os⟩) :
    wpAny (model prog w) A (call (.type "list") [.ref bk.x]) Q E ⟨h, ge, dr, tk, os⟩ := by
  refine list_book R.xs f.B.X f.keep hx hh (by unfold BookV.ents; rw [List.length_map, R.len]; exact hz) ?_
  intro l h' tk' vs c k hn hl hr
  obtain ⟨f', n'⟩ := f.grow k hn hl
  refine q l h' tk' vs c f' n' ?_ k
  have e : bk.ents.map (·.1) = D.map (·.1) := by
    rw [← keys_eq R]
    unfold BookV.ents
    rw [List.map_map]; rfl
  rw [← e]; exact hr
theorem ml_sorted (f : FB w p loose mean mg mb g L h m news) {l : Addr} {vs : List Value} {ks : List Nat} {c : Nat} (hl : h.get? l = some (listOf vs.toArray c)) (hr : RelL (natV.rel h) vs ks) (h64 : ks.length < 64)
    (q : ∀ l' h' vs' ks' c', FB w p loose mean mg mb g L h' m ((l', listOf vs'.toArray c') :: news) → (∀ q ∈ news, q.1 ≠ l') → RelL (natV.rel h') vs' ks' → ks'.Perm ks → ks'.Pairwise (· ≤ ·) → (∀ a o, h.get? a = some o → h'.get? a = some o) → Q (.ref l') ⟨h', ge, dr, tk, os⟩) :
    wpAny (model prog w) A (call (.builtin "sorted") [.ref l]) Q E ⟨h, ge, dr, tk, os⟩ := by
  refine sorted_ints (s := ⟨h, ge, dr, tk, os⟩) (isList_of hl) (natV_ints hr) (by rw [hr.1]; exact h64) ?_
  intro out ns' i1 i2 i3
  obtain ⟨e, he⟩ := sortedAll_at h vs out
  obtain ⟨f', n'⟩ := f.grow (fun _ _ => sortedAll_old) (Heap.get?_none_of_le (Nat.le_succ _)) he
  have pos : ∀ n ∈ ns', 0 ≤ n := fun n hn => by
    obtain ⟨k, _, rfl⟩ := List.mem_map.mp (i2.subset hn)
    omega
  refine q _ _ out.toList (ns'.map Int.toNat) e (by simpa using f') n' (natV_of_ints i1 pos) ?_ ?_ (fun _ _ => sortedAll_old)
  · have := i2.map Int.toNat
    rw [List.map_map] at this
    have e : (Int.toNat ∘ fun k => ((k : Nat) : Int)) = fun k => k := by funext k; simp
    rw [e, List.map_id'] at this
    exact this
  · rw [List.pairwise_map]
    exact i3.imp fun h => by omega
end
end
section
theorem lit_ne {h : Heap} {I l : Addr} {i : Nat} (hi : h.IsListIter I l i) : ∃ o, h.get? I = some o ∧ ∀ vs, o ≠ tupO vs := by
  obtain ⟨o, ho, hc, _⟩ := hi
  exact ⟨o, ho, ne_tup (by rw [hc]; show (Value.type "list_iterator" == Value.type "tuple") = false; decide +kernel)⟩
section
variable {prog : Program} {w : World} {A : Around} {E : Value → Shared → Prop} {p : Program} {loose : List Str} {mean : ExcName → Option Value} {mg mb : Str → Option Value} {g h : Heap} {ge : Array GenState} {dr : Drawn} {tk : Nat} {os : OsState}
  {L : Addr} {m : Str → Option Value} {news : List (Addr × Obj)} {env : Env}
theorem mi_listK {l : Addr} {items : Array Value} {Q : Value → Shared → Prop} (f : FB w p loose mean mg mb g L h m news) (hl : h.IsList l items)
    (q : ∀ I h', FB w p loose mean mg mb g L h' m news → Off g L news I → h'.IsListIter I l 0 → h'.IsList l items → l ≠ I → (∀ a o, h.get? a = some o → h'.get? a = some o) → Q (.ref I) ⟨h', ge, dr, tk, os⟩) : wpAny (model prog w) A (pyIter (.ref l)) Q E ⟨h, ge, dr, tk, os⟩ := by
  refine wpAny_pyIter_list (s := ⟨h, ge, dr, tk, os⟩) hl ?_
  obtain ⟨f1, e1, e2, e3, e4⟩ := f.fresh { cls := .type "list_iterator", data := .fields #[.ref l, .int 0 0] }
  obtain ⟨o, ho, _⟩ := id hl
  exact q _ _ f1 ⟨e2, e3, e4⟩ ⟨_, e1, rfl, rfl⟩ (hl.push _) (Nat.ne_of_lt (Heap.lt_size ho)) (fun a o e => Heap.get?_push_of_some _ e)
/-- the frame's map after a store -/
abbrev setM (m : Str → Option Value) (x : Str) (v : Value) : Str → Option Value := fun y => if y = x then some v else m y
theorem mw_stK {x : Str} {v : Value} {Q : Unit → Shared → Prop} (f : FB w p loose mean mg mb g env.locals h m news) (q : ∀ h' tk', FB w p loose mean mg mb g env.locals h' (setM m x v) news → TK h h' → Q () ⟨h', ge, dr, tk', os⟩)
    (hl : env.kindOf x = some .local) (hp : (env.scope.kind == .class || (env.scope.kind == .module && env.locals != env.globals)) = false) : wpAny (model prog w) A (storeName env x v) Q E ⟨h, ge, dr, tk, os⟩ :=
  wpAny_storeName_local hl f.ns (fun h' hn hs => q h' _ (f.loc hn hs) (TK.of_ch (Ch.of_same hs) fun r hr vs e => by
    rw [List.mem_singleton] at hr; subst hr
    obtain ⟨oL, es, ep, hL, hd, _⟩ := f.ns
    rw [hL] at e; cases e; cases hd)) hp
theorem mw_asgK {x : Str} {pos : Pos} {v : Value} {Q : Unit → Shared → Prop} (f : FB w p loose mean mg mb g env.locals h m news) (q : ∀ h' tk', FB w p loose mean mg mb g env.locals h' (setM m x v) news → TK h h' → Q () ⟨h', ge, dr, tk', os⟩)
    (hl : env.kindOf x = some .local) (hp : (env.scope.kind == .class || (env.scope.kind == .module && env.locals != env.globals)) = false) : wpAny (model prog w) A (assign (.Name x pos) env v) Q E ⟨h, ge, dr, tk, os⟩ :=
  wpAny_assign_Name (mw_stK f q hl hp)
/-- a for by a name over a list of the base -/
theorem for_list {R : Result → Shared → Prop} {x : Str} {px : Pos} {body : List Stmt} {l : Addr} {vs : List Value} {c : Nat} (hh : A.handled = none)
    (J : Nat → Heap → (Str → Option Value) → List (Addr × Obj) → Prop)
    (hJ : ∀ i h h' m news, TK h h' → J i h m news → J i h' m news)
    (hnt : ∀ i h m news, J i h m news → ∀ q ∈ news, ∀ vs, q.2 ≠ tupO vs)
    (f : FB w p loose mean mg mb g env.locals h m news) (hl : g.get? l = some (listOf vs.toArray c)) (hj : J 0 h m news)
    (hk : env.kindOf x = some .local) (hp : (env.scope.kind == .class || (env.scope.kind == .module && env.locals != env.globals)) = false)
    (turn : ∀ i v g' h tk m news, vs[i]? = some v → J i h m news → FB w p loose mean mg mb g' env.locals h (setM m x v) news → g.StaysIn g' →
      wpAny (model prog w) A (execs body env) (fun fl s₃ => match fl with
          | .next | .cont => ∃ h' tk' m' news', s₃ = ⟨h', ge, dr, tk', os⟩ ∧ FB w p loose mean mg mb g' env.locals h' m' news' ∧ J (i + 1) h' m' news'
          | .brk => R (.ok .next) s₃
          | .ret v => R (.ok (.ret v)) s₃) (fun _ _ => False) ⟨h, ge, dr, tk, os⟩)
    (fin : ∀ h tk m news, J vs.length h m news → FB w p loose mean mg mb g env.locals h m news → R (.ok .next) ⟨h, ge, dr, tk, os⟩) :
    wpAny (model prog w) A (pyIter (.ref l)) (fun it s₂ => codeAny (model prog w) A (.forLoop (.Name x px) it body [] env) R s₂) E ⟨h, ge, dr, tk, os⟩ := by
  refine mi_listK f (isList_of (f.keep _ _ hl)) ?_
  intro I h2 f2 of2 it2 li2 nI k2
  refine for_fb (Walks.list (prog := prog) (w := w) hh I l nI vs.toArray) (fun i h hi => lit_ne hi.1) J hJ hnt f2 of2.n of2.l of2.g ?_ ⟨it2, li2⟩ (hJ _ _ _ _ _ (TK.of_keep k2) hj) ?_ ?_
  · intro b hb
    rcases List.mem_cons.mp hb with rfl | hb
    · exact .inl rfl
    · rw [List.mem_singleton] at hb; subst hb
      exact .inr ⟨_, hl⟩
  · intro i v g' h3 tk3 m3 news3 hi hv hj3 f3 st3 t3
    refine mw_goN (mw_asgK f3 ?_ hk hp)
    intro h4 tk4 f4 t4
    exact turn i v g' h4 tk4 m3 news3 (by simpa using hv) (hJ _ _ _ _ _ t4 hj3) f4 st3
  · intro h3 tk3 m3 news3 hj3 f3
    refine fin h3 tk3 m3 news3 ?_ f3
    simpa using hj3
/-- a comprehension of one clause by a name -/
theorem comp_walk {elt iter : Expr} {x : Str} {px : Pos} {ifs : List Expr} {scope : Scope} {cl : List (Str × Addr)} {pos : Pos} {Q : Value → Shared → Prop} {I : Addr} {fp : List Addr} {n : Nat} {P : Nat → Value → Prop} {St : Nat → Heap → Prop}
    (W : Walks prog w A I fp [I] n P St) (hI : ∀ i h, St i h → ∃ o, h.get? I = some o ∧ ∀ vs, o ≠ tupO vs)
    (J : Nat → Heap → List Value → List (Addr × Obj) → Prop)
    (hJ : ∀ i h h' acc news, TK h h' → J i h acc news → J i h' acc news)
    (hnt : ∀ i h acc news, J i h acc news → ∀ q ∈ news, ∀ vs, q.2 ≠ tupO vs) (hlen : ∀ i h acc news, J i h acc news → acc.length ≤ i) (hz : n ≤ 1000000)
    (f : FB w p loose mean mg mb g L h m news) (of : Off g L news I) (hfp : ∀ b ∈ fp, b = I ∨ ∃ o, g.get? b = some o) (hst : St 0 h) (hframe : ∀ h', (∀ a o, h.get? a = some o → h'.get? a = some o) → St 0 h') (hj : J 0 h [] news)
    (hcell : ∀ y ∈ scope.names, y.2 ≠ .cell) (hkind : scope.kind = .function)
    (hk : ∀ C, (compEnvC scope cl C env).kindOf x = some .local) (hp : ∀ C, ((compEnvC scope cl C env).scope.kind == .class || ((compEnvC scope cl C env).scope.kind == .module && (compEnvC scope cl C env).locals != (compEnvC scope cl C env).globals)) = false)
    (hloc : ∀ C, (compEnvC scope cl C env).locals = C)
    (turn : ∀ i v g' C h tk m acc news, i < n → P i v → J i h acc news → FB w p loose mean mg mb g' C h (setM m x v) news → g.StaysIn g' →
      wpAny (model prog w) A (compTests ifs (compEnvC scope cl C env)) (fun ok s₃ => if ok = true then
          wpAny (model prog w) A (eval elt (compEnvC scope cl C env)) (fun u s₄ => ∃ h' tk' m' news', s₄ = ⟨h', ge, dr, tk', os⟩ ∧ FB w p loose mean mg mb g' C h' m' news' ∧ J (i + 1) h' (acc ++ [u]) news') (fun _ _ => False) s₃
        else ∃ h' tk' m' news', s₃ = ⟨h', ge, dr, tk', os⟩ ∧ FB w p loose mean mg mb g' C h' m' news' ∧ J (i + 1) h' acc news') (fun _ _ => False) ⟨h, ge, dr, tk, os⟩)
    (fin : ∀ D h tk acc c news, J n h acc news → FB w p loose mean mg mb g L h m ((D, listOf acc.toArray c) :: news) → (∀ q ∈ news, q.1 ≠ D) → Q (.ref D) ⟨h, ge, dr, tk, os⟩) :
    wpAny (model prog w) A (newList []) (fun acc s₃ =>
      wpAny (model prog w) A (newFunctionEnv scope env.globals cl [] env.qual none .none (some env)) (fun cenv s₄ =>
        codeAny (model prog w) A (.compStart (.ListComp elt [⟨.Name x px, iter, ifs, 0⟩] scope pos) 0 (.ref I) acc { cenv with scope := relabel scope env }) (compPost (model prog w) A E none Q acc cenv.locals) s₄) E s₃) E ⟨h, ge, dr, tk, os⟩ := by
  refine comp_enter f of.l of.g of.n (hI _ _ hst) (hnt _ _ _ _ hj) hcell hkind ?_
  intro g1 D C h1 tk1 f1 st1 ch1 t1 k1 hIC hID hIg hDn
  have hCl := hloc C
  generalize hce : compEnvC scope cl C env = cenv at *
  subst hCl
  refine comp1_go W hI (fun i h m news0 => ∃ acc c news, news0 = (D, listOf acc.toArray c) :: news ∧ J i h acc news ∧ ∀ q ∈ news, q.1 ≠ D) ?hJ ?hnt f1 ?hIn hIC hIg ?hfp (hframe _ k1) ⟨[], 0, news, rfl, hJ _ _ _ _ _ (TK.of_keep k1) hj, fun q hq e => ?_⟩ ?turn ?fin
  case hJ =>
    rintro i h h' m news0 t ⟨acc, c, news, rfl, j, e⟩
    exact ⟨acc, c, news, rfl, hJ _ _ _ _ _ t j, e⟩
  case hnt =>
    rintro i h m news0 ⟨acc, c, news, rfl, j, e⟩ q hq
    rcases List.mem_cons.mp hq with rfl | hq
    · exact lst_ne _ _
    · exact hnt _ _ _ _ j q hq
  case hIn =>
    intro hm
    rcases List.mem_cons.mp hm with hm | hm
    · exact hID hm
    · exact of.n hm
  case hfp =>
    intro b hb
    rcases hfp b hb with rfl | ⟨o, ho⟩
    · exact .inl rfl
    · exact .inr ⟨o, st1 _ _ ho⟩
  · have := (f.N q hq).1
    rw [e, hDn] at this; cases this
  case turn =>
    rintro i v g2 h2 tk2 m2 news0 hi hv ⟨acc, c, news2, rfl, j2, e2⟩ f2 st2 t2
    unfold CompT
    have hk' : cenv.kindOf x = some .local := by rw [← hce]; exact hk _
    have hp' := hp cenv.locals
    rw [hce] at hp'
    refine mw_goN (mw_asgK f2 ?_ hk' hp')
    intro h3 tk3 f3 t3
    obtain ⟨g3, f4, st4, ch4, t4⟩ := f3.rebase (news' := news2) (fun q hq => .tail _ hq) (hnt _ _ _ _ j2)
    have hD4 : g3.get? D = some (listOf acc.toArray c) := by
      refine ch4 _ _ ?_ (f3.at_ (.head _))
      intro hm
      rcases List.mem_cons.mp hm with hm | hm
      · exact (f3.N _ (.head _)).2.1 hm
      · obtain ⟨q, hq, e⟩ := List.mem_map.mp hm
        exact e2 q hq e
    have tn := turn i v g3 cenv.locals h3 tk3 m2 acc news2 hi hv (hJ _ _ _ _ _ t3 j2) f4 (fun a o e => st4 _ _ (st2 _ _ (st1 _ _ e)))
    rw [hce] at tn
    have ap : ∀ {h' m' news'}, FB w p loose mean mg mb g3 cenv.locals h' m' news' → ∀ q ∈ news', q.1 ≠ D := fun f q hq e => by
      have := f.new_ hq
      rw [show q.1 = D from e, hD4] at this; cases this
    have bk : ∀ {h' m' news'}, FB w p loose mean mg mb g3 cenv.locals h' m' news' → FB w p loose mean mg mb g2 cenv.locals h' m' ((D, listOf acc.toArray c) :: news') := fun f =>
      (f.back st4 f2.B).cons (f.keep _ _ hD4) (f3.N _ (.head _)).2.1 (f3.N _ (.head _)).2.2
    refine wpAny_mono tn (fun ok s₃ x => ?_) fun _ _ e => e
    cases ok with
    | false =>
      simp only [Bool.false_eq_true, if_false] at x ⊢
      obtain ⟨h', tk', m', news', rfl, f5, j5⟩ := x
      exact ⟨h', tk', m', _, rfl, bk f5, acc, c, news', rfl, j5, ap f5⟩
    | true =>
      simp only [if_true] at x ⊢
      unfold emitP
      refine wpAny_mono x (fun u s₄ y => ?_) fun _ _ e => e
      obtain ⟨h', tk', m', news', rfl, f5, j5⟩ := y
      have hl := hlen _ _ _ _ j2
      refine ml_pushG (news' := (D, listOf (acc ++ [u]).toArray (c + 1)) :: news') (bk f5) (.head _) (fun q hq => ?_) (by rw [sizeLine_eq]; omega) ?_
      · rcases List.mem_cons.mp hq with rfl | hq
        · exact .inr rfl
        · exact .inl ⟨.tail _ hq, ap f5 q hq⟩
      intro h6 f6 t6
      exact ⟨h6, tk', m', _, rfl, f6, _, _, news', rfl, hJ _ _ _ _ _ t6 j5, ap f5⟩
  case fin =>
    rintro h2 tk2 m2 news0 ⟨acc, c, news2, rfl, j2, e2⟩ f2
    refine ⟨_, _, _, _, rfl, f2, fun h3 f3 t3 => fin D h3 tk2 acc c news2 (hJ _ _ _ _ _ t3 j2) f3 e2⟩
/-- over a list of the base -/
theorem comp_list {elt iter : Expr} {x : Str} {px : Pos} {ifs : List Expr} {scope : Scope} {cl : List (Str × Addr)} {pos : Pos} {Q : Value → Shared → Prop} {l : Addr} {vs : List Value} {c : Nat} (hh : A.handled = none)
    (J : Nat → Heap → List Value → List (Addr × Obj) → Prop)
    (hJ : ∀ i h h' acc news, TK h h' → J i h acc news → J i h' acc news)
    (hnt : ∀ i h acc news, J i h acc news → ∀ q ∈ news, ∀ vs, q.2 ≠ tupO vs) (hlen : ∀ i h acc news, J i h acc news → acc.length ≤ i) (hz : vs.length ≤ 1000000)
    (f : FB w p loose mean mg mb g L h m news) (hl : g.get? l = some (listOf vs.toArray c)) (hj : J 0 h [] news)
    (hcell : ∀ y ∈ scope.names, y.2 ≠ .cell) (hkind : scope.kind = .function)
    (hk : ∀ C, (compEnvC scope cl C env).kindOf x = some .local) (hp : ∀ C, ((compEnvC scope cl C env).scope.kind == .class || ((compEnvC scope cl C env).scope.kind == .module && (compEnvC scope cl C env).locals != (compEnvC scope cl C env).globals)) = false)
    (hloc : ∀ C, (compEnvC scope cl C env).locals = C)
    (turn : ∀ i v g' C h tk m acc news, vs[i]? = some v → J i h acc news → FB w p loose mean mg mb g' C h (setM m x v) news → g.StaysIn g' →
      wpAny (model prog w) A (compTests ifs (compEnvC scope cl C env)) (fun ok s₃ => if ok = true then
          wpAny (model prog w) A (eval elt (compEnvC scope cl C env)) (fun u s₄ => ∃ h' tk' m' news', s₄ = ⟨h', ge, dr, tk', os⟩ ∧ FB w p loose mean mg mb g' C h' m' news' ∧ J (i + 1) h' (acc ++ [u]) news') (fun _ _ => False) s₃
        else ∃ h' tk' m' news', s₃ = ⟨h', ge, dr, tk', os⟩ ∧ FB w p loose mean mg mb g' C h' m' news' ∧ J (i + 1) h' acc news') (fun _ _ => False) ⟨h, ge, dr, tk, os⟩)
    (fin : ∀ D h tk acc c news, J vs.length h acc news → FB w p loose mean mg mb g L h m ((D, listOf acc.toArray c) :: news) → (∀ q ∈ news, q.1 ≠ D) → Q (.ref D) ⟨h, ge, dr, tk, os⟩) :
    wpAny (model prog w) A (pyIter (.ref l)) (fun it s₂ => wpAny (model prog w) A (newList []) (fun acc s₃ =>
      wpAny (model prog w) A (newFunctionEnv scope env.globals cl [] env.qual none .none (some env)) (fun cenv s₄ =>
        codeAny (model prog w) A (.compStart (.ListComp elt [⟨.Name x px, iter, ifs, 0⟩] scope pos) 0 it acc { cenv with scope := relabel scope env }) (compPost (model prog w) A E none Q acc cenv.locals) s₄) E s₃) E s₂) E ⟨h, ge, dr, tk, os⟩ := by
  refine mi_listK f (isList_of (f.keep _ _ hl)) ?_
  intro I h2 f2 of2 it2 li2 nI k2
  refine comp_walk (Walks.list (prog := prog) (w := w) hh I l nI vs.toArray) (fun i h hi => lit_ne hi.1) J hJ hnt hlen (by simpa using hz) f2 of2 ?_ ⟨it2, li2⟩ (fun h' k => ⟨it2.at fun o e => k _ _ e, li2.at fun o e => k _ _ e⟩) (hJ _ _ _ _ _ (TK.of_keep k2) hj) hcell hkind hk hp hloc ?_ ?_
  · intro b hb
    rcases List.mem_cons.mp hb with rfl | hb
    · exact .inl rfl
    · rw [List.mem_singleton] at hb; subst hb
      exact .inr ⟨_, hl⟩
  · intro i v g' C h3 tk3 m3 acc news3 hi hv
    exact turn i v g' C h3 tk3 m3 acc news3 (by simpa using hv)
  · intro D h3 tk3 acc c3 news3 hj3
    exact fin D h3 tk3 acc c3 news3 (by simpa using hj3)
/-- over range(n) -/
theorem comp_range {elt iter : Expr} {x : Str} {px : Pos} {ifs : List Expr} {scope : Scope} {cl : List (Str × Addr)} {pos : Pos} {Q : Value → Shared → Prop} {n : Nat} {t : Tok} (hh : A.handled = none)
    (J : Nat → Heap → List Value → List (Addr × Obj) → Prop)
    (hJ : ∀ i h h' acc news, TK h h' → J i h acc news → J i h' acc news)
    (hnt : ∀ i h acc news, J i h acc news → ∀ q ∈ news, ∀ vs, q.2 ≠ tupO vs) (hlen : ∀ i h acc news, J i h acc news → acc.length ≤ i) (hz : n ≤ 1000000)
    (f : FB w p loose mean mg mb g L h m news) (hj : J 0 h [] news)
    (hcell : ∀ y ∈ scope.names, y.2 ≠ .cell) (hkind : scope.kind = .function)
    (hk : ∀ C, (compEnvC scope cl C env).kindOf x = some .local) (hp : ∀ C, ((compEnvC scope cl C env).scope.kind == .class || ((compEnvC scope cl C env).scope.kind == .module && (compEnvC scope cl C env).locals != (compEnvC scope cl C env).globals)) = false)
    (hloc : ∀ C, (compEnvC scope cl C env).locals = C)
    (turn : ∀ i t g' C h tk m acc news, i < n → J i h acc news → FB w p loose mean mg mb g' C h (setM m x (.int ((i : Nat) : Int) t)) news → g.StaysIn g' →
      wpAny (model prog w) A (compTests ifs (compEnvC scope cl C env)) (fun ok s₃ => if ok = true then
          wpAny (model prog w) A (eval elt (compEnvC scope cl C env)) (fun u s₄ => ∃ h' tk' m' news', s₄ = ⟨h', ge, dr, tk', os⟩ ∧ FB w p loose mean mg mb g' C h' m' news' ∧ J (i + 1) h' (acc ++ [u]) news') (fun _ _ => False) s₃
        else ∃ h' tk' m' news', s₃ = ⟨h', ge, dr, tk', os⟩ ∧ FB w p loose mean mg mb g' C h' m' news' ∧ J (i + 1) h' acc news') (fun _ _ => False) ⟨h, ge, dr, tk, os⟩)
    (fin : ∀ D h tk acc c news, J n h acc news → FB w p loose mean mg mb g L h m ((D, listOf acc.toArray c) :: news) → (∀ q ∈ news, q.1 ≠ D) → Q (.ref D) ⟨h, ge, dr, tk, os⟩) :
    wpAny (model prog w) A (call (.type "range") [.int ((n : Nat) : Int) t]) (fun x₁ s₁ => wpAny (model prog w) A (pyIter x₁) (fun it s₂ => wpAny (model prog w) A (newList []) (fun acc s₃ =>
      wpAny (model prog w) A (newFunctionEnv scope env.globals cl [] env.qual none .none (some env)) (fun cenv s₄ =>
        codeAny (model prog w) A (.compStart (.ListComp elt [⟨.Name x px, iter, ifs, 0⟩] scope pos) 0 it acc { cenv with scope := relabel scope env }) (compPost (model prog w) A E none Q acc cenv.locals) s₄) E s₃) E s₂) E s₁) E ⟨h, ge, dr, tk, os⟩ := by
  refine call_range_1 (s := ⟨h, ge, dr, tk, os⟩) ?_
  have kr : ∀ a o, h.get? a = some o → (h.push (rangeO 0 n 1 tk t (tk + 1))).get? a = some o := fun a o e => Heap.get?_push_of_some _ e
  have fr := f.push (rangeO 0 n 1 tk t (tk + 1))
  refine wpAny_pyIter_range (s := ⟨h.push (rangeO 0 n 1 tk t (tk + 1)), ge, dr, _, os⟩) (fr.at_ (.head _)) (small_one (by omega) (by omega) (by omega) (by omega)) ?_
  obtain ⟨f1, e1, e2, e3, e4⟩ := fr.fresh { cls := .type "range_iterator", data := .fields #[rawInt 0, rawInt (Builtin.Range.rangeSize 0 n 1), rawInt 1] }
  rw [rangeSize_one] at e1
  have e : (if (0 : Int) < (n : Nat) then ((n : Nat) : Int) - 0 else 0) = (n : Nat) := by split <;> omega
  rw [e] at e1
  rw [rangeSize_one, e]
  have k2 : ∀ a o, (h.push (rangeO 0 n 1 tk t (tk + 1))).get? a = some o → ((h.push (rangeO 0 n 1 tk t (tk + 1))).push { cls := .type "range_iterator", data := .fields #[rawInt 0, rawInt ((n : Nat) : Int), rawInt 1] }).get? a = some o := fun a o e => Heap.get?_push_of_some _ e
  have f2 := (f.all kr).all k2
  generalize hI : (h.push (rangeO 0 n 1 tk t (tk + 1))).objs.size = I at *
  refine comp_walk (Walks.range (prog := prog) (w := w) hh I 0 1 n) (fun i h hi => ⟨_, hi, rit_ne _⟩) J hJ hnt hlen hz f2 ⟨fun hm => e2 (List.mem_cons_of_mem _ hm), e3, e4⟩ (fun b hb => .inl (by simpa using hb)) (by simpa using e1) (fun h' k => by simpa using k _ _ e1) (hJ _ _ _ _ _ (TK.of_keep fun a o e => k2 _ _ (kr _ _ e)) hj) hcell hkind hk hp hloc ?_ fin
  rintro i v g' C h3 tk3 m3 acc news3 hi ⟨t7, rfl⟩
  rw [show (0 : Int) + (i : Int) * 1 = ((i : Nat) : Int) by omega]
  exact turn i t7 g' C h3 tk3 m3 acc news3 hi
end
end
section
theorem RelL.append {κ : Type} {R : Value → κ → Prop} {a b : List Value} {x y : List κ} (h1 : RelL R a x) (h2 : RelL R b y) : RelL R (a ++ b) (x ++ y) := by
  refine ⟨by simp [h1.1, h2.1], fun j v k hv hk => ?_⟩
  by_cases e : j < a.length
  · rw [List.getElem?_append_left e] at hv
    rw [List.getElem?_append_left (h1.1 ▸ e)] at hk
    exact h1.2 j v k hv hk
  · rw [List.getElem?_append_right (Nat.le_of_not_lt e)] at hv
    rw [List.getElem?_append_right (by rw [← h1.1]; exact Nat.le_of_not_lt e), ← h1.1] at hk
    exact h2.2 _ v k hv hk
theorem keyAt_nodup {κ : Type} {D : List (Nat × κ)} (hn : (D.map (·.1)).Nodup) {i : Nat} {d : Nat × κ} (hd : D[i]? = some d) : keyAt D d.1 = some i := by
  have hi := (List.getElem?_eq_some_iff.mp hd).1
  cases hk : keyAt D d.1 with
  | none =>
    have := List.findIdx?_eq_none_iff.mp hk d (List.mem_of_getElem? hd)
    simp at this
  | some j =>
    obtain ⟨d', hd', e⟩ := keyAt_lt hk
    have hj := (List.getElem?_eq_some_iff.mp hd').1
    have : j = i := (List.getElem?_inj (l := D.map (·.1)) (by simpa using hj) hn).mp (by rw [List.getElem?_map, List.getElem?_map, hd, hd']; simp [e])
    rw [this]
/-- the lists of the book, in its order -/
def BookV.lists (bk : BookV) (i : Nat) : List Value := (bk.rows[i]?.map Row.vals).getD []
theorem BookR.flat {κ : Type} {V : Ordv κ} {h : Heap} {bk : BookV} {D : List (Nat × List κ)} (R : BookR V h bk D) : ∀ i, i ≤ D.length → RelL (V.rel h) ((List.range i).flatMap bk.lists) ((D.take i).flatMap (·.2))
  | 0, _ => by simpa using RelL.nil
  | i + 1, hi => by
    have ih := R.flat i (by omega)
    obtain ⟨d, hd⟩ : ∃ d, D[i]? = some d := ⟨_, List.getElem?_eq_getElem (by omega)⟩
    obtain ⟨r, hr, _, rr⟩ := R.row hd
    rw [List.range_succ, List.flatMap_append, List.take_add_one, hd, List.flatMap_append]
    refine ih.append ?_
    simp only [List.flatMap_cons, List.flatMap_nil, List.append_nil, Option.toList]
    unfold BookV.lists
    rw [hr]
    exact rr
theorem flat_le {κ : Type} (D : List (Nat × List κ)) (i : Nat) : ((D.take i).flatMap (·.2)).length ≤ (D.flatMap (·.2)).length := by
  conv => rhs; rw [← List.take_append_drop i D, List.flatMap_append, List.length_append]
  omega
theorem sorted_unique : ∀ {a b : List Nat}, a.Perm b → a.Pairwise (· ≤ ·) → b.Pairwise (· ≤ ·) → a = b
  | a, b, p, ha, hb => List.Perm.eq_of_pairwise (fun x y _ _ h1 h2 => Nat.le_antisymm h1 h2) ha hb p
section
variable {prog : Program} {w : World} {A : Around} {E : Value → Shared → Prop} {p : Program} {loose : List Str} {mean : ExcName → Option Value} {mg mb : Str → Option Value} {g h : Heap} {ge : Array GenState} {dr : Drawn} {tk : Nat} {os : OsState}
  {L : Addr} {m : Str → Option Value} {news : List (Addr × Obj)} {env : Env}
/-- book[k], the book in the base, k a key -/
theorem book_hitB {κ : Type} {V : Ordv κ} {bk : BookV} {D : List (Nat × List κ)} {fr : Bool} {Q : Value → Shared → Prop} (f : FB w p loose mean mg mb g L h m news) (hs : ∀ q ∈ bookN bk, h.get? q.1 = some q.2) (R : BookR V h bk D) (Z : Dxf w g bk fr)
    {value slice : Expr} {k i : Nat} {t : Tok} (hk : keyAt D k = some i)
    (hsl : subscripted slice false (.ref bk.x) (.int ((k : Nat) : Int) t) = operate [.ref bk.x, .int ((k : Nat) : Int) t] (getItem (.ref bk.x) (.int ((k : Nat) : Int) t)))
    (q : ∀ r tk', bk.rows[i]? = some r → Q (.ref r.addr) ⟨h, ge, dr, tk', os⟩) :
    wpAny (model prog w) A (subscriptTail value slice (.ref bk.x) (.int ((k : Nat) : Int) t)) Q E ⟨h, ge, dr, tk, os⟩ := by
  have hx := hs _ (bookN_x bk)
  have hdx : ∃ odx, g.get? bk.dx = some odx := by
    unfold Dxf at Z
    cases fr with
    | true =>
      simp only [if_true] at Z
      obtain ⟨f, c', c, oc, vs, t, t3, n3, ctv, pm, cl, di, sl, p1, p2, p3, pp, qual, h1, _⟩ := Z
      exact ⟨_, h1⟩
    | false => simp only [Bool.false_eq_true, if_false] at Z; exact ⟨_, Z⟩
  obtain ⟨odx, hdx⟩ := hdx
  refine fd_sub f.B.X f.keep hx hsl (fd_look f.B.X f.keep hx (f.keep _ _ hdx) (fun l tk' e => ?_) (fun tk' e => ?_))
  · obtain ⟨j, r, e1, e2, rfl⟩ := entAt_some R e
    rw [hk] at e1; cases e1
    exact q r tk' e2
  · have := entAt_none R e
    rw [hk] at this; cases this
/-- the inner walk of a comprehension of two clauses over names -/
theorem comp2_in {x y : Str} {px py pn : Pos} {iter iter' : Expr} {scope : Scope} {pos : Pos} {D l : Addr} {vs acc : List Value} {c ca : Nat} {R : Result → Shared → Prop} (hh : (A.mark none).handled = none)
    (f : FB w p loose mean mg mb g env.locals h m ((D, listOf acc.toArray ca) :: news)) (hl : g.get? l = some (listOf vs.toArray c)) (hnt : ∀ q ∈ news, ∀ vs, q.2 ≠ tupO vs) (hD : ∀ q ∈ news, q.1 ≠ D)
    (hk : env.kindOf y = some .local) (hf : env.scope.kind = .function) (hp : (env.scope.kind == .class || (env.scope.kind == .module && env.locals != env.globals)) = false) (hd : (y == ("__debug__" : Str)) = false) (hz : acc.length + vs.length ≤ 1000000)
    (fin : ∀ h tk m c, FB w p loose mean mg mb g env.locals h m ((D, listOf (acc ++ vs).toArray c) :: news) → R (.ok .next) ⟨h, ge, dr, tk, os⟩) :
    wpAny (model prog w) A (pyIter (.ref l)) (fun it s₂ => codeAny (model prog w) (A.mark none) (.compStart (.ListComp (.Name y pn) [⟨.Name x px, iter, [], 0⟩, ⟨.Name y py, iter', [], 0⟩] scope pos) 1 it (.ref D) env) R s₂) E ⟨h, ge, dr, tk, os⟩ := by
  refine mi_listK f (isList_of (f.keep _ _ hl)) ?_
  intro I h2 f2 of2 it2 li2 nI k2
  have W := Walks.list (prog := prog) (w := w) hh I l nI vs.toArray
  refine Exists.elim (walk_turn (p := p) (loose := loose) (mean := mean) (mg := mg) (mb := mb) (ge := ge) (dr := dr) (tk := tk) (os := os) W (R (.ok .next)) (CompT prog w (A.mark none) env (.Name y py) [] (.ref I) (emitP prog w (A.mark none) (.Name y pn) (.ref D) env)) (fun v X Y s hXY x => CompT.mono (fun X Y s h x => emitP_mono X Y s h x) v X Y s hXY x) (fun i h hi => lit_ne hi.1)
    (fun i h m news0 => ∃ c, news0 = (D, listOf (acc ++ vs.take i).toArray c) :: news)
    (by rintro i h h' m news0 t e; exact e) (by
      rintro i h m news0 ⟨c, rfl⟩ q hq
      rcases List.mem_cons.mp hq with rfl | hq
      · exact lst_ne _ _
      · exact hnt q hq) f2 of2.n of2.l of2.g (by
      intro b hb
      rcases List.mem_cons.mp hb with rfl | hb
      · exact .inl rfl
      · rw [List.mem_singleton] at hb; subst hb
        exact .inr ⟨_, hl⟩) ⟨it2, li2⟩ ⟨ca, by simp⟩ ?turn ?fin) ?rest
  case turn =>
    rintro i v g' h3 tk3 m3 news0 hi hv ⟨c3, rfl⟩ f3 st3 t3
    have hv' : vs[i]? = some v := by simpa using hv
    unfold CompT
    refine mw_goN (mw_asgK f3 ?_ hk hp)
    intro h4 tk4 f4 t4
    refine tests_nil ?_
    rw [if_pos rfl]
    unfold emitP
    refine mw_local f4 (v := v) (by show (if y = y then some v else _) = _; rw [if_pos rfl]) ?_ hk hf hd
    refine ml_pushG (news' := (D, listOf (acc ++ vs.take i ++ [v]).toArray (c3 + 1)) :: news) f4 (.head _) (fun q hq => ?_) ?_ ?_
    · rcases List.mem_cons.mp hq with rfl | hq
      · exact .inr rfl
      · exact .inl ⟨.tail _ hq, hD q hq⟩
    · rw [sizeLine_eq, List.length_append, List.length_take]; omega
    intro h5 f5 t5
    refine ⟨h5, _, _, _, rfl, f5, c3 + 1, ?_⟩
    rw [List.take_add_one, hv', List.append_assoc]; rfl
  case fin =>
    rintro h3 tk3 m3 news0 ⟨c3, rfl⟩ f3
    refine fin h3 tk3 m3 c3 ?_
    have e : vs.take vs.toArray.size = vs := by simp
    rw [e] at f3; exact f3
  rintro Iv ⟨⟨k, hk0⟩, _, turn'⟩
  have loop : codeAny (model prog w) (A.mark none) (.compLoop (.ListComp (.Name y pn) [⟨.Name x px, iter, [], 0⟩, ⟨.Name y py, iter', [], 0⟩] scope pos) 1 (.ref I) (.ref D) env) R ⟨h2, ge, dr, tk, os⟩ :=
    compLoop_gen (comp_form2b (.Name y pn) (.Name x px) iter (.Name y py) iter' [] [] scope pos (.ref I) (.ref D) env) rfl rfl rfl (fun X s hx k Q' hk => emit_ok X s hx k Q' hk) Iv turn' k hk0
  exact compStart_gen (gc := ⟨.Name y py, iter', [], 0⟩) rfl rfl rfl loop (W.self 0 _ _ _ ⟨it2, li2⟩ loop)
/-- [y for x in l for y in iter'] -/
theorem comp2_names {x y : Str} {px py pn : Pos} {iter iter' : Expr} {scope : Scope} {cl : List (Str × Addr)} {pos : Pos} {Q : Value → Shared → Prop} {l : Addr} {vs : List Value} {c : Nat} (hh : A.handled = none) (hh' : (A.mark none).handled = none) (lists : Nat → List Value)
    (hnt : ∀ q ∈ news, ∀ vs, q.2 ≠ tupO vs) (hz : ∀ i, i ≤ vs.length → ((List.range i).flatMap lists).length ≤ 1000000)
    (f : FB w p loose mean mg mb g L h m news) (hl : g.get? l = some (listOf vs.toArray c))
    (hcell : ∀ y ∈ scope.names, y.2 ≠ .cell) (hkind : scope.kind = .function)
    (hk : ∀ C, (compEnvC scope cl C env).kindOf x = some .local) (hky : ∀ C, (compEnvC scope cl C env).kindOf y = some .local) (hf : ∀ C, (compEnvC scope cl C env).scope.kind = .function) (hp : ∀ C, ((compEnvC scope cl C env).scope.kind == .class || ((compEnvC scope cl C env).scope.kind == .module && (compEnvC scope cl C env).locals != (compEnvC scope cl C env).globals)) = false)
    (hd : (y == ("__debug__" : Str)) = false) (hloc : ∀ C, (compEnvC scope cl C env).locals = C) (hfold : ∀ C x, foldedSetIterable iter' (compEnvC scope cl C env) x = pure x)
    (turn : ∀ i v g' C h tk m, vs[i]? = some v → FB w p loose mean mg mb g' C h (setM m x v) news → g.StaysIn g' →
      wpAny (model prog w) A (eval iter' (compEnvC scope cl C env)) (fun u s₄ => ∃ lu cu h' tk' m', u = .ref lu ∧ s₄ = ⟨h', ge, dr, tk', os⟩ ∧ g.get? lu = some (listOf (lists i).toArray cu) ∧ FB w p loose mean mg mb g' C h' m' news) (fun _ _ => False) ⟨h, ge, dr, tk, os⟩)
    (fin : ∀ D h tk c, FB w p loose mean mg mb g L h m ((D, listOf ((List.range vs.length).flatMap lists).toArray c) :: news) → (∀ q ∈ news, q.1 ≠ D) → Q (.ref D) ⟨h, ge, dr, tk, os⟩) :
    wpAny (model prog w) A (pyIter (.ref l)) (fun it s₂ => wpAny (model prog w) A (newList []) (fun acc s₃ =>
      wpAny (model prog w) A (newFunctionEnv scope env.globals cl [] env.qual none .none (some env)) (fun cenv s₄ =>
        codeAny (model prog w) A (.compStart (.ListComp (.Name y pn) [⟨.Name x px, iter, [], 0⟩, ⟨.Name y py, iter', [], 0⟩] scope pos) 0 it acc { cenv with scope := relabel scope env }) (compPost (model prog w) A E none Q acc cenv.locals) s₄) E s₃) E s₂) E ⟨h, ge, dr, tk, os⟩ := by
  refine mi_listK f (isList_of (f.keep _ _ hl)) ?_
  intro I h2 f2 of2 it2 li2 nI k2
  refine comp_enter f2 of2.l of2.g of2.n (lit_ne it2) hnt hcell hkind ?_
  intro g1 D C h1 tk1 f1 st1 ch1 t1 k1 hIC hID hIg hDn
  have hCl := hloc C
  generalize hce : compEnvC scope cl C env = cenv at *
  subst hCl
  have hD : ∀ q ∈ news, q.1 ≠ D := fun q hq e => by
    have := (f2.N q hq).1
    rw [e, hDn] at this; cases this
  have W := Walks.list (prog := prog) (w := w) (A := A) hh I l nI vs.toArray
  have st0 : h1.IsListIter I l 0 ∧ h1.IsList l vs.toArray := ⟨it2.at fun o e => k1 _ _ e, li2.at fun o e => k1 _ _ e⟩
  refine Exists.elim (walk_turn (p := p) (loose := loose) (mean := mean) (mg := mg) (mb := mb) (ge := ge) (dr := dr) (tk := tk1) (os := os) W (fun s => ∃ h' tk' m' news', s = ⟨h', ge, dr, tk', os⟩ ∧ FB w p loose mean mg mb g1 cenv.locals h' m' news' ∧ (∀ h'', FB w p loose mean mg mb g L h'' m news' → TK h' h'' → Q (.ref D) ⟨h'', ge, dr, tk', os⟩))
    (CompT prog w A cenv (.Name x px) [] (.ref I) (deeperP prog w A iter' (.ListComp (.Name y pn) [⟨.Name x px, iter, [], 0⟩, ⟨.Name y py, iter', [], 0⟩] scope pos) 1 (.ref D) cenv)) (fun v X Y s hXY x => CompT.mono (fun X Y s h x => deeperP_mono X Y s h x) v X Y s hXY x) (fun i h hi => lit_ne hi.1)
    (fun i h m news0 => ∃ c, news0 = (D, listOf ((List.range i).flatMap lists).toArray c) :: news)
    (by rintro i h h' m news0 t e; exact e) (by
      rintro i h m news0 ⟨c, rfl⟩ q hq
      rcases List.mem_cons.mp hq with rfl | hq
      · exact lst_ne _ _
      · exact hnt q hq) f1 (by
      intro hm
      rcases List.mem_cons.mp hm with hm | hm
      · exact hID hm
      · exact of2.n hm) hIC hIg (by
      intro b hb
      rcases List.mem_cons.mp hb with rfl | hb
      · exact .inl rfl
      · rw [List.mem_singleton] at hb; subst hb
        exact .inr ⟨_, st1 _ _ hl⟩) st0 ⟨0, rfl⟩ ?turn ?fin) ?rest
  case turn =>
    rintro i v g' h3 tk3 m3 news0 hi hv ⟨c3, rfl⟩ f3 st3 t3
    have hv' : vs[i]? = some v := by simpa using hv
    have hil := (List.getElem?_eq_some_iff.mp hv').1
    unfold CompT
    have hk1 : cenv.kindOf x = some .local := by rw [← hce]; exact hk _
    have hky1 : cenv.kindOf y = some .local := by rw [← hce]; exact hky _
    have hp1 := hp cenv.locals
    have hf1 := hf cenv.locals
    rw [hce] at hp1 hf1
    refine mw_goN (mw_asgK f3 ?_ hk1 hp1)
    intro h4 tk4 f4 t4
    refine tests_nil ?_
    rw [if_pos rfl]
    unfold deeperP
    obtain ⟨g4, f5, st5, ch5, t5⟩ := f4.rebase (news' := news) (fun q hq => .tail _ hq) hnt
    have hD5 : g4.get? D = some (listOf ((List.range i).flatMap lists).toArray c3) := by
      refine ch5 _ _ ?_ (f4.at_ (.head _))
      intro hm
      rcases List.mem_cons.mp hm with hm | hm
      · exact (f4.N _ (.head _)).2.1 hm
      · obtain ⟨q, hq, e⟩ := List.mem_map.mp hm
        exact hD q hq e
    have tn := turn i v g4 cenv.locals h4 tk4 m3 hv' f5 (fun a o e => st5 _ _ (st3 _ _ (st1 _ _ e)))
    rw [hce] at tn
    refine wpAny_mono tn (fun u s₄ x4 => ?_) fun _ _ e => e
    obtain ⟨lu, cu, h', tk', m', rfl, rfl, hlu, f6⟩ := x4
    have hfo := hfold cenv.locals (.ref lu)
    rw [hce] at hfo
    refine ⟨hfo, ?_⟩
    have f7 := (f6.back st5 f4.B).cons (f6.keep _ _ hD5) (f4.N _ (.head _)).2.1 (f4.N _ (.head _)).2.2
    have hz1 := hz (i + 1) (by omega)
    rw [List.range_succ, List.flatMap_append, List.length_append] at hz1
    simp only [List.flatMap_cons, List.flatMap_nil, List.append_nil] at hz1
    refine comp2_in hh' f7 (st3 _ _ (st1 _ _ hlu)) hnt hD hky1 hf1 hp1 hd hz1 ?_
    intro h8 tk8 m8 c8 f8
    refine ⟨h8, tk8, m8, _, rfl, f8, c8, ?_⟩
    rw [List.range_succ, List.flatMap_append]; simp
  case fin =>
    rintro h3 tk3 m3 news0 ⟨c3, rfl⟩ f3
    refine ⟨h3, tk3, m3, _, rfl, f3, fun h4 f4 t4 => fin D h4 tk3 c3 ?_ hD⟩
    have e : vs.toArray.size = vs.length := by simp
    rw [e] at f4; exact f4
  rintro Iv ⟨⟨k, hk0⟩, _, turn'⟩
  have loop : codeAny (model prog w) A (.compLoop (.ListComp (.Name y pn) [⟨.Name x px, iter, [], 0⟩, ⟨.Name y py, iter', [], 0⟩] scope pos) 0 (.ref I) (.ref D) cenv) (fun r s' => match r with
        | .ok _ => ∃ h' tk' m' news', s' = ⟨h', ge, dr, tk', os⟩ ∧ FB w p loose mean mg mb g1 cenv.locals h' m' news' ∧ (∀ h'', FB w p loose mean mg mb g L h'' m news' → TK h' h'' → Q (.ref D) ⟨h'', ge, dr, tk', os⟩)
        | .error _ => False) ⟨h1, ge, dr, tk1, os⟩ :=
    compLoop_gen (comp_form2a (.Name y pn) (.Name x px) iter (.Name y py) iter' [] [] scope pos (.ref I) (.ref D) cenv) rfl rfl rfl (fun X s hx k Q' hk => deeper_ok X s hx k Q' hk) Iv turn' k hk0
  exact compStart_gen (gc := ⟨.Name x px, iter, [], 0⟩) rfl rfl rfl loop (W.self 0 _ _ _ st0 loop)
theorem mo_fdivN {a b : Nat} {t u : Tok} {Q : Value → Shared → Prop} (hb : 0 < b) (hs : b < 1073741824) (q : ∀ t' tk', Q (.int ((a / b : Nat) : Int) t') ⟨h, ge, dr, tk', os⟩) : wpAny (model prog w) A (binaryOp .FloorDiv (.int ((a : Nat) : Int) t) (.int ((b : Nat) : Int) u)) Q E ⟨h, ge, dr, tk, os⟩ :=
  mo_fdiv (by omega) (by omega) (by rw [fdiv_nat]; exact q)
theorem mo_mulN {a b : Nat} {t u : Tok} {Q : Value → Shared → Prop} (hb : b < 2 ^ 64) (q : ∀ t' tk', Q (.int ((a * b : Nat) : Int) t') ⟨h, ge, dr, tk', os⟩) : wpAny (model prog w) A (binaryOp .Mult (.int ((a : Nat) : Int) t) (.int ((b : Nat) : Int) u)) Q E ⟨h, ge, dr, tk, os⟩ :=
  mo_mul (.of_right (intBits_le_64 (by omega) (by omega))) (by
    intro t' tk'
    have := q t' tk'
    rwa [Int.natCast_mul] at this)
end
end
section
local macro_rules | `(tactic| walk_at "m1") => `(tactic| first
  | (with_reducible refine seq_next ?_)
  | ((with_reducible refine' mw_local ?f ?v ?_ ?l ?k ?d); (case l => rfl); (case k => rfl); (case f => assumption); (case d => decide); (case v => first | rfl | assumption))
  | (with_reducible refine mw_cons ?_)
  | (with_reducible refine mw_nil ?_)
  | ((with_reducible refine' mw_asg ?_ ?s); (case s => rfl))
  | ((with_reducible refine' mw_st ?f ?_ ?l ?k); (case l => rfl); (case k => rfl); (case f => assumption); intro _ _ _)
  | ((with_reducible refine' mw_glob ?f ?e ?_ ?l ?k ?d ?g); (case l => rfl); (case k => rfl); (case f => assumption); (case e => k_is); (case d => decide); (case g => rfl))
  | ((with_reducible refine' mw_built ?f ?e ?v ?_ ?l ?k ?d ?g ?b ?n); (case l => rfl); (case k => rfl); (case f => assumption); (case e => k_is); (case v => boot_by_name); (case d => decide); (case g => rfl); (case b => rfl); (case n => decide))
  | ((with_reducible refine' mw_cell ?f ?c ?m ?_ ?l ?k ?d); (case l => rfl); (case k => rfl); (case f => assumption); (case c => rfl); (case m => k_mem); (case d => decide))
  | ((with_reducible refine' mw_free ?f ?c ?m ?_ ?l ?k ?d ?n); (case l => rfl); (case k => rfl); (case f => assumption); (case c => rfl); (case m => k_mem); (case d => decide); (case n => decide))
  | ((with_reducible refine mw_int ?_); intro _ _)
  | (with_reducible refine mw_bin ?_)
  | ((with_reducible refine mo_add ?_); intro _ _)
  | ((with_reducible refine mo_sub ?_); intro _ _)
  | ((with_reducible refine mo_iadd ?_); intro _ _)
  | ((with_reducible refine' mw_expr ?_ ?a ?b); (case a => rfl); (case b => rfl))
  | ((with_reducible refine' mw_call ?_ ?a); (case a => rfl))
  | (with_reducible refine mw_spn ?_)
  | ((with_reducible refine' mw_spc ?_ ?a); (case a => rfl))
  | ((with_reducible refine' mk_in ?f ?_); (case f => assumption))
  | ((with_reducible refine' mk_bi ?_ ?a ?b); (case a => rfl); (case b => rfl))
  | ((with_reducible refine' mk_def ?f ?k ?_ ?a ?b); (case f => assumption); (case k => k_is); (case a => rfl); (case b => rfl))
  | (with_reducible refine mw_if ?_)
  | ((with_reducible refine' mt_cmp ?_ ?a); (case a => rfl))
  | (with_reducible refine mt_bool ?_)
  | (with_reducible refine mc_lt ?_)
  | (with_reducible refine mc_gt ?_)
  | (with_reducible refine mc_eq ?_)
  | (with_reducible refine mc_ne ?_)
  | (with_reducible refine mc_le ?_)
  | (with_reducible refine mc_ge ?_)
  | (with_reducible refine mw_sub ?_)
  | ((with_reducible refine' mw_asgS ?_ ?s); (case s => rfl))
  | (with_reducible refine mw_ret ?_)
  | (with_reducible refine seq_ret ?_)
  | (with_reducible refine seq_brk ?_)
  | (with_reducible refine seq_cont ?_)
  | (with_reducible refine mw_brk ?_)
  | (with_reducible refine mw_cont ?_)
  | (with_reducible refine mt_and ?_)
  | (with_reducible refine mt_and0 ?_)
  | (with_reducible refine mt_or ?_)
  | (with_reducible refine mt_or0 ?_)
  | (with_reducible refine mt_not ?_)
  | (with_reducible refine mt_name ?_)
  | (with_reducible refine mt_call ?_)
  | (with_reducible refine mw_tuple ?_)
  | (with_reducible refine mw_list ?_)
  | ((with_reducible refine' mw_cmp ?_ ?a); (case a => rfl))
  | (with_reducible refine mw_un ?_)
  | ((with_reducible refine mo_neg ?_); intro _ _)
  | (with_reducible refine mo_not ?_)
  | (with_reducible refine mw_ifexp ?_)
  | (with_reducible refine mw_and ?_)
  | (with_reducible refine mw_or ?_)
  | (with_reducible refine mw_bone ?_)
  | (with_reducible refine mw_bool ?_)
  | ((with_reducible refine' ml_len ?f ?m ?z ?_); (case f => assumption); (case m => k_mem); (case z => (rw [sizeLine_eq]; omega)); intro _ _)
  | ((with_reducible refine' mo_shr1 ?z ?_); (case z => omega); intro _ _)
  | ((with_reducible refine' mk_meth ?_ ?a); (case a => rfl))
  | (with_reducible refine mk_m0 ?_)
  | ((with_reducible refine' mk_m1 ?_ ?a ?b); (case a => rfl); (case b => rfl))
  | ((with_reducible refine mw_aug ?_))
  | ((with_reducible refine' mw_ldl ?f ?v ?_ ?l ?k); (case l => rfl); (case k => rfl); (case f => assumption); (case v => first | rfl | assumption))
  | ((with_reducible refine' mw_ldc ?f ?c ?m ?_ ?l ?k); (case l => rfl); (case k => rfl); (case f => assumption); (case c => rfl); (case m => k_mem))
  | ((with_reducible refine' mw_stc ?f ?c ?u ?_ ?l ?k); (case l => rfl); (case k => rfl); (case f => assumption); (case c => rfl); (case u => k_upd); intro _ _))
local macro_rules | `(tactic| walk_at "go") => `(tactic| repeat' walk_at "m1")
local macro_rules | `(tactic| walk_at "goI") => `(tactic| repeat' ((fail_if_success (with_reducible show wpAny _ _ (exec (Stmt.If _ _ _ _) _) _ _ _)); walk_at "m1"))

section
variable {prog : Program} {w : World} {A : Around} {E : Value → Shared → Prop} {p : Program} {loose : List Str} {mean : ExcName → Option Value} {mg mb : Str → Option Value} {b h : Heap} {ge : Array GenState} {dr : Drawn} {tk : Nat} {os : OsState}
  {Q : Value → Shared → Prop}
/-- `_law_holds`: the book and the row lie in the base -/
theorem holds_spec (S : SupOk prog) (B : Base w p loose mean mg mb b) (hb : b.StaysIn h) {bk : BookV} {D : List (Nat × List Nat)} {fr : Bool} (hN : ∀ q ∈ bookN bk, b.get? q.1 = some q.2) (R : BookR natV b bk D) (Z : Dxf w b bk fr)
    {l : Nat} {tl : Tok} (hD : ∀ d ∈ D, ∀ n ∈ d.2, bl (n ^^^ l) = d.1) (hnd : (D.map (·.1)).Nodup) (hkz : ∀ d ∈ D, d.1 ≤ 20) (hlz : ∀ d ∈ D, ∀ n ∈ d.2, n ≤ 1000000) (hl0 : l ≤ 1000000) (hDz : D.length ≤ 1000) (hfz : (flatD D).length < 64)
    {rl : Addr} {rv : List Value} {row : List Nat} {rc : Nat} (hrl : b.get? rl = some (listOf rv.toArray rc)) (hrr : RelL (natV.rel b) rv row) (hrp : (flatD D).Perm row) (hrs : row.Pairwise (· ≤ ·))
    (hd : A.depth + 20 < recursionLimit) (hu : A.units + 300 < cLine) (hh : A.handled = none)
    (q : ∀ h' tk', (∀ a o, h.get? a = some o → h'.get? a = some o) → Q (.bool true) ⟨h', ge, dr, tk', os⟩) :
    wpAny (model prog w) A (call (.ref 121) [.ref bk.x, .int ((l : Nat) : Int) tl, .ref rl]) Q E ⟨h, ge, dr, tk, os⟩ := by
  have BX := B.X
  refine' mk_enterC (news := []) (binds := [("book", .ref bk.x), ("last", .int ((l : Nat) : Int) tl), ("row", .ref rl)]) B hb ?k0 ?k6 ?k7 (by omega) ?k9 ?kB ?kN ?_ ?c2 ?c3 ?c4
  case k0 => exact fun q hq => by cases hq
  case k6 => k_is
  case k7 => k_is
  case k9 => exact fun _ => BindsTo.of_eq rfl
  case kB =>
    intro n y hy
    rcases List.mem_cons.mp hy with rfl | hy
    · exact .inr ⟨rfl, rfl⟩
    rcases List.mem_cons.mp hy with rfl | hy
    · exact .inl rfl
    · rw [List.mem_singleton] at hy; subst hy
      exact .inl rfl
  case kN => decide
  case c2 => exact rfl
  case c3 => exact rfl
  case c4 => exact rfl
  intro g L h₁ tk₁ cells fb hcs hg tg hbg
  obtain ⟨cl1, di1, sl1, rfl⟩ := cells_one hcs
  clear BX
  obtain ⟨m0, ml0, mr0, f0⟩ : ∃ m : Str → Option Value, m "last" = some (.int ((l : Nat) : Int) tl) ∧ m "row" = some (.ref rl) ∧ FB w p loose mean mg mb g L h₁ m [(L + 1, cellW cl1 di1 sl1 (some (.ref bk.x)))] := ⟨_, rfl, rfl, fb⟩
  clear fb
  have X := f0.B.X
  have R1 : ∀ h, BookR natV h bk D := fun h => R.nat
  have hgN : ∀ q ∈ bookN bk, g.get? q.1 = some q.2 := fun q hq => hbg _ _ (hN q hq)
  have Z1 := Z.keeps hbg
  have hgl : g.get? rl = some (listOf rv.toArray rc) := hbg _ _ hrl
  walk_at "go"
  refine mw_for ?_ (fun _ => rfl)
  walk_at "go"
  refine mk_ty ?_ rfl rfl
  walk_at "go"
  refine ml_listBook f0 (R1 _) (f0.keep _ _ (hgN _ (bookN_x bk))) hh (by omega) ?_
  intro l1 h2 tk2 kv kc f2 n2 kr k2
  have cne : ∀ q ∈ [(L + 1, cellW cl1 di1 sl1 (some (.ref bk.x)))], ∀ vs, q.2 ≠ tupO vs := by
    intro q hq; rw [List.mem_singleton] at hq; subst hq; exact cellW_ne _ _ _ _
  obtain ⟨g2, f3, st3, ch3, tk3⟩ := f2.rebase (news' := [(L + 1, cellW cl1 di1 sl1 (some (.ref bk.x)))]) (fun q hq => .tail _ hq) cne
  have hl1 : g2.get? l1 = some (listOf kv.toArray kc) := by
    refine ch3 _ _ ?_ (f2.at_ (.head _))
    intro hm
    rcases List.mem_cons.mp hm with hm | hm
    · exact (f2.N _ (.head _)).2.1 hm
    · rw [List.map_singleton, List.mem_singleton] at hm
      exact n2 _ (.head _) hm.symm
  refine for_list (by exact hh) (fun j h m news => news = [(L + 1, cellW cl1 di1 sl1 (some (.ref bk.x)))] ∧ m "last" = some (.int ((l : Nat) : Int) tl) ∧ m "row" = some (.ref rl)) (fun _ _ _ _ _ _ e => e) (fun _ _ _ _ e => e.1 ▸ cne) f3 hl1 ⟨rfl, ml0, mr0⟩ rfl rfl ?turn ?fin
  case turn =>
    rintro j v g3 h4 tk4 m4 news4 hv ⟨rfl, m1, m2⟩ f4 st4
    have hjl := (List.getElem?_eq_some_iff.mp hv).1
    obtain ⟨d, hd⟩ : ∃ d, D[j]? = some d := ⟨_, List.getElem?_eq_getElem (by rw [kr.1, List.length_map] at hjl; exact hjl)⟩
    have hdm := List.mem_of_getElem? hd
    obtain ⟨td, rfl⟩ := kr.2 j v d.1 hv (by rw [List.getElem?_map, hd]; rfl)
    obtain ⟨i, hi⟩ : ∃ i, keyAt D d.1 = some i := by
      cases hk : keyAt D d.1 with
      | some i => exact ⟨i, rfl⟩
      | none => exact absurd (List.mem_map_of_mem (f := (·.1)) hdm) (keyAt_none_iff.mp hk)
    have hst : g.StaysIn g3 := fun a o e => st4 _ _ (st3 _ _ e)
    walk_at "go"
    refine mo_pow2 (by have := hkz d hdm; omega) fun t5 tk5 => ?_
    walk_at "go"
    rename_i h5 tk5' f5
    refine mw_for ?_ (fun _ => rfl)
    walk_at "go"
    refine book_hitB f5 (fun q hq => f5.keep _ _ (hst _ _ (hgN q hq))) (R1 _) (Z1.keeps hst) hi rfl ?_
    intro r tk6 hr
    have hrd : RelL (natV.rel g3) r.vals d.2 := by
      obtain ⟨d', hd', e'⟩ := keyAt_lt hi
      have := (R1 g3).rel i r d' hr hd'
      have e2 := lstD_at hi hd'
      have e3 := lstD_mem hnd hdm
      rw [← e3, e2]; exact this.2
    refine for_list (by exact hh) (fun j h m news => news = [(L + 1, cellW cl1 di1 sl1 (some (.ref bk.x)))] ∧ m "last" = some (.int ((l : Nat) : Int) tl) ∧ m "row" = some (.ref rl) ∧ m "size" = some (.int ((d.1 : Nat) : Int) td) ∧ m "block" = some (.int ((2 ^ d.1 : Nat) : Int) t5)) (fun _ _ _ _ _ _ e => e) (fun _ _ _ _ e => e.1 ▸ cne) f5 (hst _ _ (hgN _ (bookN_row hr))) ⟨rfl, m1, m2, rfl, rfl⟩ rfl rfl ?turn2 ?fin2
    case turn2 =>
      rintro j2 v2 g6 h6 tk6 m6 news6 hv2 ⟨rfl, m61, m62, m63, m64⟩ f6 st6
      obtain ⟨n, hn⟩ : ∃ n, d.2[j2]? = some n := ⟨_, List.getElem?_eq_getElem (by rw [← hrd.1]; exact (List.getElem?_eq_some_iff.mp hv2).1)⟩
      have hnm := List.mem_of_getElem? hn
      obtain ⟨tn, rfl⟩ := hrd.2 j2 v2 n hv2 hn
      walk_at "go"
      have hp2 : 0 < 2 ^ d.1 := Nat.two_pow_pos _
      have hp3 : 2 ^ d.1 < 1073741824 := Nat.lt_of_le_of_lt (Nat.pow_le_pow_right (by decide) (hkz d hdm)) (by decide)
      obtain ⟨an1, an2⟩ := holds_num (hD d hdm n hnm)
      refine mo_fdivN hp2 hp3 fun t7 tk7 => ?_
      walk_at "go"
      refine mo_fdivN hp2 hp3 fun t8 tk8 => ?_
      walk_at "go"
      rw [if_neg (by rw [an1]; simp)]
      walk_at "go"
      by_cases hk0 : 0 < d.1
      · rw [if_pos (by simpa using hk0)]
        walk_at "go"
        refine mo_mulN (b := 2) (by decide) fun t9 tk9 => ?_
        walk_at "go"
        refine mo_fdivN hp2 hp3 fun t10 tk10 => ?_
        walk_at "go"
        refine mo_mulN (b := 2) (by decide) fun t11 tk11 => ?_
        walk_at "go"
        refine mo_fdivN hp2 hp3 fun t12 tk12 => ?_
        walk_at "go"
        have ne : ((((n * 2 / 2 ^ d.1 : Nat) : Int)) == ((l * 2 / 2 ^ d.1 : Nat) : Int)) = false := by
          rw [beq_eq_false_iff_ne]
          have := an2 hk0
          omega
        rw [ne, if_neg (by decide), if_neg (by decide)]
        walk_at "go"
        exact ⟨_, _, _, _, rfl, f6, rfl, m61, m62, m63, m64⟩
      · rw [if_neg (by simpa using hk0), if_neg (by decide)]
        walk_at "go"
        exact ⟨_, _, _, _, rfl, f6, rfl, m61, m62, m63, m64⟩
    case fin2 =>
      rintro h7 tk7 m7 news7 ⟨rfl, m71, m72, m73, m74⟩ f7
      dsimp only
      walk_at "go"
      exact ⟨_, _, _, _, rfl, f7, rfl, m71, m72⟩
  case fin =>
    rintro h4 tk4 m4 news4 ⟨rfl, m1, m2⟩ f4
    have f5 := f4.back st3 f2.B
    clear f4
    dsimp only
    walk_at "go"
    refine mw_comp (cl := [("book", L + 1)]) ?_ ?clos (fun _ => rfl) rfl ?names
    case clos => rfl
    case names => decide
    walk_at "go"
    refine mk_ty ?_ rfl rfl
    walk_at "go"
    have f6 := f5
    clear f5
    refine ml_listBook f6 (R1 _) (f6.keep _ _ (hgN _ (bookN_x bk))) hh (by omega) ?_
    intro l3 h7 tk7 kv7 kc7 f7 n7 kr7 k7
    clear f6
    obtain ⟨g8, f8, st8, ch8, tk8⟩ := f7.rebase (news' := [(L + 1, cellW cl1 di1 sl1 (some (.ref bk.x)))]) (fun q hq => .tail _ hq) cne
    have hl8 : g8.get? l3 = some (listOf kv7.toArray kc7) := by
      refine ch8 _ _ ?_ (f7.at_ (.head _))
      intro hm
      rcases List.mem_cons.mp hm with hm | hm
      · exact (f7.N _ (.head _)).2.1 hm
      · rw [List.map_singleton, List.mem_singleton] at hm
        exact n7 _ (.head _) hm.symm
    have hkl : kv7.length = D.length := by rw [kr7.1, List.length_map]
    refine comp2_names (env := envOfC _ _ _ _ _) (by exact hh) (by exact hh) bk.lists cne (fun i hi => ?_) f8 hl8 ?hcell ?hkind ?hk ?hky ?hf ?hp ?hdb ?hloc ?hfold ?turn ?fin
    case hcell => decide
    case hkind => rfl
    case hk => exact fun _ => rfl
    case hky => exact fun _ => rfl
    case hf => exact fun _ => rfl
    case hp => exact fun _ => rfl
    case hdb => decide
    case hloc => exact fun _ => rfl
    case hfold => exact fun _ _ => rfl
    · rw [((R1 h7).flat i (by omega)).1]
      have := flat_le D i
      unfold flatD at hfz
      omega
    case turn =>
      intro j v g9 C h9 tk9 m9 hv f9 st9
      have hjl := (List.getElem?_eq_some_iff.mp hv).1
      obtain ⟨d, hd⟩ : ∃ d, D[j]? = some d := ⟨_, List.getElem?_eq_getElem (by omega)⟩
      obtain ⟨td, rfl⟩ := kr7.2 j v d.1 hv (by rw [List.getElem?_map, hd]; rfl)
      have hst : g.StaysIn g9 := fun a o e => st9 _ _ (st8 _ _ e)
      walk_at "go"
      refine book_hitB f9 (fun q hq => f9.keep _ _ (hst _ _ (hgN q hq))) (R1 _) (Z1.keeps hst) (keyAt_nodup hnd hd) rfl ?_
      intro r tk10 hr
      refine ⟨_, r.ver, _, _, _, rfl, rfl, ?_, f9⟩
      unfold BookV.lists
      rw [hr]
      exact st8 _ _ (hgN _ (bookN_row hr))
    case fin =>
      intro Dl h9 tk9 c9 f9 n9
      have R9 : RelL (natV.rel h9) ((List.range kv7.length).flatMap bk.lists) (flatD D) := by
        have := (R1 h9).flat D.length (Nat.le_refl _)
        rw [List.take_length] at this
        rw [hkl]; exact this
      walk_at "go"
      refine ml_sorted f9 (f9.at_ (.head _)) R9 hfz ?_
      intro l4 h10 vs10 ks10 c10 f10 n10 r10 p10 s10 k10
      walk_at "go"
      refine ml_eq (f10.at_ (.head _)) r10 (f10.keep _ _ (st8 _ _ hgl)) hrr ?_ ?_
      · show A.units + 3 + 64 < _; omega
      rw [decide_eq_true (sorted_unique (p10.trans hrp) s10 hrs)]
      walk_at "go"
      exact q _ _ fun a o e => f10.keep _ _ (st8 _ _ (hg _ _ (by simp) e))
end
end
section
section
variable {w : World} {p : Program} {loose : List Str} {mean : ExcName → Option Value} {mg mb : Str → Option Value} {g h h' : Heap} {L : Addr} {m : Str → Option Value} {news news' : List (Addr × Obj)}
/-- some addresses are changed: what stays known -/
theorem FB.chgs {S : List Addr} (f : FB w p loose mean mg mb g L h m news) (C : Ch S h h') (hS : ∀ a ∈ S, ∃ o, (a, o) ∈ news)
    (hn : ∀ q ∈ news', (q ∈ news ∧ q.1 ∉ S) ∨ (h'.get? q.1 = some q.2 ∧ (q.1 ∈ S ∨ h.get? q.1 = none))) : FB w p loose mean mg mb g L h' m news' := by
  obtain ⟨oL, es, ep, hL, r⟩ := f.ns
  have nL : L ∉ S := fun hm => by obtain ⟨o, ho⟩ := hS _ hm; exact (f.N _ ho).2.1 rfl
  refine ⟨⟨oL, es, ep, C _ _ nL hL, r⟩, fun b x e => C _ _ (fun hm => ?_) (f.keep b x e), f.out, fun q hq => ?_, f.B⟩
  · obtain ⟨o, ho⟩ := hS _ hm
    have := f.new_ ho
    rw [e] at this; cases this
  · rcases hn q hq with ⟨h1, h2⟩ | ⟨h1, h2 | h2⟩
    · exact ⟨C _ _ h2 (f.N q h1).1, (f.N q h1).2⟩
    · obtain ⟨o, ho⟩ := hS _ h2
      exact ⟨h1, (f.N _ ho).2⟩
    · refine ⟨h1, ?_, ?_⟩
      · intro e; rw [e, hL] at h2; cases h2
      · cases e : g.get? q.1 with
        | none => rfl
        | some o => rw [f.keep _ _ e] at h2; cases h2
end
/-- the book is changed, the rest beside it stands -/
theorem book_chgs {w : World} {p : Program} {loose : List Str} {mean : ExcName → Option Value} {mg mb : Str → Option Value} {g h h' : Heap} {L : Addr} {m : Str → Option Value} {extra : List (Addr × Obj)} {bk bk' : BookV} (f : FB w p loose mean mg mb g L h m (extra ++ bookN bk)) (ap : Apart extra bk)
    (C : Ch ((bookN bk).map (·.1)) h h') (hn : ∀ q ∈ bookN bk', h'.get? q.1 = some q.2 ∧ (q.1 ∈ (bookN bk).map (·.1) ∨ h.get? q.1 = none)) :
    FB w p loose mean mg mb g L h' m (extra ++ bookN bk') ∧ Apart extra bk' ∧ TK h h' := by
  refine ⟨f.chgs C (fun a ha => ?_) fun q hq => ?_, fun q hq q' hq' e => ?_, TK.of_ch C fun a ha vs e => ?_⟩
  · obtain ⟨q, hq, rfl⟩ := List.mem_map.mp ha
    exact ⟨q.2, List.mem_append_right _ hq⟩
  · rcases List.mem_append.mp hq with hq | hq
    · refine .inl ⟨List.mem_append_left _ hq, fun hm => ?_⟩
      obtain ⟨q', hq', e⟩ := List.mem_map.mp hm
      exact ap q hq q' hq' e.symm
    · exact .inr (hn q hq)
  · rcases (hn q' hq').2 with hm | hm
    · obtain ⟨q2, hq2, e2⟩ := List.mem_map.mp hm
      exact ap q hq q2 hq2 (e.trans e2.symm)
    · have := (f.N q (List.mem_append_left _ hq)).1
      rw [e, hm] at this; cases this
  · obtain ⟨q, hq, rfl⟩ := List.mem_map.mp ha
    rw [f.at_ (List.mem_append_right _ hq)] at e
    exact bookN_ne bk q hq vs (Option.some.inj e)
local macro_rules | `(tactic| walk_at "m1") => `(tactic| first
  | (with_reducible refine seq_next ?_)
  | ((with_reducible refine' mw_local ?f ?v ?_ ?l ?k ?d); (case l => rfl); (case k => rfl); (case f => assumption); (case d => decide); (case v => first | rfl | assumption))
  | (with_reducible refine mw_cons ?_)
  | (with_reducible refine mw_nil ?_)
  | ((with_reducible refine' mw_asg ?_ ?s); (case s => rfl))
  | ((with_reducible refine' mw_st ?f ?_ ?l ?k); (case l => rfl); (case k => rfl); (case f => assumption); intro _ _ _)
  | ((with_reducible refine' mw_glob ?f ?e ?_ ?l ?k ?d ?g); (case l => rfl); (case k => rfl); (case f => assumption); (case e => k_is); (case d => decide); (case g => rfl))
  | ((with_reducible refine' mw_built ?f ?e ?v ?_ ?l ?k ?d ?g ?b ?n); (case l => rfl); (case k => rfl); (case f => assumption); (case e => k_is); (case v => boot_by_name); (case d => decide); (case g => rfl); (case b => rfl); (case n => decide))
  | ((with_reducible refine' mw_cell ?f ?c ?m ?_ ?l ?k ?d); (case l => rfl); (case k => rfl); (case f => assumption); (case c => rfl); (case m => k_mem); (case d => decide))
  | ((with_reducible refine' mw_free ?f ?c ?m ?_ ?l ?k ?d ?n); (case l => rfl); (case k => rfl); (case f => assumption); (case c => rfl); (case m => k_mem); (case d => decide); (case n => decide))
  | ((with_reducible refine mw_int ?_); intro _ _)
  | (with_reducible refine mw_bin ?_)
  | ((with_reducible refine mo_add ?_); intro _ _)
  | ((with_reducible refine mo_sub ?_); intro _ _)
  | ((with_reducible refine mo_iadd ?_); intro _ _)
  | ((with_reducible refine' mw_expr ?_ ?a ?b); (case a => rfl); (case b => rfl))
  | ((with_reducible refine' mw_call ?_ ?a); (case a => rfl))
  | (with_reducible refine mw_spn ?_)
  | ((with_reducible refine' mw_spc ?_ ?a); (case a => rfl))
  | ((with_reducible refine' mk_in ?f ?_); (case f => assumption))
  | ((with_reducible refine' mk_bi ?_ ?a ?b); (case a => rfl); (case b => rfl))
  | ((with_reducible refine' mk_def ?f ?k ?_ ?a ?b); (case f => assumption); (case k => k_is); (case a => rfl); (case b => rfl))
  | (with_reducible refine mw_if ?_)
  | ((with_reducible refine' mt_cmp ?_ ?a); (case a => rfl))
  | (with_reducible refine mt_bool ?_)
  | (with_reducible refine mc_lt ?_)
  | (with_reducible refine mc_gt ?_)
  | (with_reducible refine mc_eq ?_)
  | (with_reducible refine mc_ne ?_)
  | (with_reducible refine mc_le ?_)
  | (with_reducible refine mc_ge ?_)
  | (with_reducible refine mw_sub ?_)
  | ((with_reducible refine' mw_asgS ?_ ?s); (case s => rfl))
  | (with_reducible refine mw_ret ?_)
  | (with_reducible refine seq_ret ?_)
  | (with_reducible refine seq_brk ?_)
  | (with_reducible refine seq_cont ?_)
  | (with_reducible refine mw_brk ?_)
  | (with_reducible refine mw_cont ?_)
  | (with_reducible refine mt_and ?_)
  | (with_reducible refine mt_and0 ?_)
  | (with_reducible refine mt_or ?_)
  | (with_reducible refine mt_or0 ?_)
  | (with_reducible refine mt_not ?_)
  | (with_reducible refine mt_name ?_)
  | (with_reducible refine mt_call ?_)
  | (with_reducible refine mw_tuple ?_)
  | (with_reducible refine mw_list ?_)
  | ((with_reducible refine' mw_cmp ?_ ?a); (case a => rfl))
  | (with_reducible refine mw_un ?_)
  | ((with_reducible refine mo_neg ?_); intro _ _)
  | (with_reducible refine mo_not ?_)
  | (with_reducible refine mw_ifexp ?_)
  | (with_reducible refine mw_and ?_)
  | (with_reducible refine mw_or ?_)
  | (with_reducible refine mw_bone ?_)
  | (with_reducible refine mw_bool ?_)
  | ((with_reducible refine' ml_len ?f ?m ?z ?_); (case f => assumption); (case m => k_mem); (case z => (rw [sizeLine_eq]; omega)); intro _ _)
  | ((with_reducible refine' mo_shr1 ?z ?_); (case z => omega); intro _ _)
  | ((with_reducible refine' mk_meth ?_ ?a); (case a => rfl))
  | (with_reducible refine mk_m0 ?_)
  | ((with_reducible refine' mk_m1 ?_ ?a ?b); (case a => rfl); (case b => rfl))
  | ((with_reducible refine mw_aug ?_))
  | ((with_reducible refine' mw_ldl ?f ?v ?_ ?l ?k); (case l => rfl); (case k => rfl); (case f => assumption); (case v => first | rfl | assumption))
  | ((with_reducible refine' mw_ldc ?f ?c ?m ?_ ?l ?k); (case l => rfl); (case k => rfl); (case f => assumption); (case c => rfl); (case m => k_mem))
  | ((with_reducible refine' mw_stc ?f ?c ?u ?_ ?l ?k); (case l => rfl); (case k => rfl); (case f => assumption); (case c => rfl); (case u => k_upd); intro _ _))
local macro_rules | `(tactic| walk_at "go") => `(tactic| repeat' walk_at "m1")
local macro_rules | `(tactic| walk_at "goI") => `(tactic| repeat' ((fail_if_success (with_reducible show wpAny _ _ (exec (Stmt.If _ _ _ _) _) _ _ _)); walk_at "m1"))

section
variable {prog : Program} {w : World} {A : Around} {E : Value → Shared → Prop} {p : Program} {loose : List Str} {mean : ExcName → Option Value} {mg mb : Str → Option Value} {b h : Heap} {ge : Array GenState} {dr : Drawn} {tk : Nat} {os : OsState}
  {Q : Value → Shared → Prop}
/-- `_law_comes_in` -/
theorem comes_spec (B : Base w p loose mean mg mb b) (hb : b.StaysIn h) {n l c : Nat} {t1 t2 t3 : Tok} (hc : c ≤ 20) (hd : A.depth + 20 < recursionLimit) (hu : A.units + 300 < cLine)
    (q : ∀ h' tk', (∀ a o, h.get? a = some o → h'.get? a = some o) → Q (.bool (decide (c = 0 ∨ n / 2 ^ (c - 1) = l / 2 ^ (c - 1)))) ⟨h', ge, dr, tk', os⟩) :
    wpAny (model prog w) A (call (.ref 128) [.int ((n : Nat) : Int) t1, .int ((l : Nat) : Int) t2, .int ((c : Nat) : Int) t3]) Q E ⟨h, ge, dr, tk, os⟩ := by
  have BX := B.X
  refine' mk_enter (news := []) (binds := [("number", .int ((n : Nat) : Int) t1), ("base", .int ((l : Nat) : Int) t2), ("count", .int ((c : Nat) : Int) t3)]) B hb (by simp) ?k6 ?k7 (by omega) ?k9 ?kB ?_ ?c2 ?c3 ?c4 ?c5
  case k6 => k_is
  case k7 => k_is
  case k9 => exact fun _ => BindsTo.of_eq rfl
  case kB => exact locs rfl
  case c2 => exact rfl
  case c3 => exact rfl
  case c4 => exact rfl
  case c5 => decide
  intro g L h₁ tk₁ fb hg tg hbg
  clear BX
  have X := fb.B.X
  walk_at "go"
  by_cases h0 : c = 0
  · subst h0
    rw [if_pos (by simp)]
    exact q _ _ fun a o e => fb.keep _ _ (hg _ _ (by simp) e)
  · have e0 : (((c : Nat) : Int) == 0) = false := by simpa using h0
    rw [if_neg (by rw [e0]; decide)]
    walk_at "go"
    have e1 : ((c : Nat) : Int) - 1 = ((c - 1 : Nat) : Int) := by omega
    rw [e1]
    refine mo_pow2 (by omega) fun t5 tk5 => ?_
    have hp2 : 0 < 2 ^ (c - 1) := Nat.two_pow_pos _
    have hp3 : 2 ^ (c - 1) < 1073741824 := Nat.lt_of_le_of_lt (Nat.pow_le_pow_right (by decide) (show c - 1 ≤ 20 by omega)) (by decide)
    refine mo_fdivN hp2 hp3 fun t7 tk7 => ?_
    walk_at "go"
    rw [e1]
    refine mo_pow2 (by omega) fun t8 tk8 => ?_
    refine mo_fdivN hp2 hp3 fun t9 tk9 => ?_
    walk_at "go"
    have e2 : ((((n / 2 ^ (c - 1) : Nat) : Int)) == ((l / 2 ^ (c - 1) : Nat) : Int)) = decide (c = 0 ∨ n / 2 ^ (c - 1) = l / 2 ^ (c - 1)) := by
      rw [Bool.eq_iff_iff, beq_iff_eq, decide_eq_true_eq]
      omega
    rw [e2]
    exact q _ _ fun a o e => fb.keep _ _ (hg _ _ (by simp) e)
end
end
section
section
variable {prog : Program} {w : World} {A : Around} {E : Value → Shared → Prop} {p : Program} {loose : List Str} {mean : ExcName → Option Value} {mg mb : Str → Option Value} {g h : Heap} {ge : Array GenState} {dr : Drawn} {tk : Nat} {os : OsState}
  {L : Addr} {m : Str → Option Value} {news : List (Addr × Obj)} {env : Env} {s : Shared} {Q : Value → Shared → Prop}
theorem FB.pushed (f : FB w p loose mean mg mb g L h m news) (o : Obj) (hf : o.isFreed = false := by rfl) : FB w p loose mean mg mb g L (h.push o) m ((h.objs.size, o) :: news) ∧ (∀ q ∈ news, q.1 ≠ h.objs.size) ∧ (∀ a o', h.get? a = some o' → (h.push o).get? a = some o') :=
  ⟨f.push o hf, fun q hq e => absurd (f.lt q hq) (by rw [e]; exact Nat.lt_irrefl _), fun _ _ e => Heap.get?_push_of_some _ e⟩
theorem ml_newK {vs : List Value} (f : FB w p loose mean mg mb g L h m news) (hz : vs.length ≤ 1000000)
    (q : ∀ l h', FB w p loose mean mg mb g L h' m ((l, listOf vs.toArray 0) :: news) → (∀ q ∈ news, q.1 ≠ l) → (∀ a o, h.get? a = some o → h'.get? a = some o) → Q (.ref l) ⟨h', ge, dr, tk, os⟩) :
    wpAny (model prog w) A (newList vs) Q E ⟨h, ge, dr, tk, os⟩ := by
  obtain ⟨f1, n1, k1⟩ := f.pushed (listOf vs.toArray 0)
  exact wpAny_newObj_type (s := ⟨h, ge, dr, tk, os⟩) (q _ _ f1 n1 k1) (by show vs.toArray.size ≤ sizeLine; rw [List.size_toArray, sizeLine_eq]; omega)
theorem ml_tupK {vs : List Value} (f : FB w p loose mean mg mb g L h m news) (hz : vs.length ≤ 1000000)
    (q : ∀ l h', FB w p loose mean mg mb g L h' m ((l, tupO vs) :: news) → (∀ q ∈ news, q.1 ≠ l) → (∀ a o, h.get? a = some o → h'.get? a = some o) → Q (.ref l) ⟨h', ge, dr, tk, os⟩) :
    wpAny (model prog w) A (newTuple vs) Q E ⟨h, ge, dr, tk, os⟩ := by
  obtain ⟨f1, n1, k1⟩ := f.pushed (tupO vs)
  exact wpAny_newObj_type (s := ⟨h, ge, dr, tk, os⟩) (q _ _ f1 n1 k1) (by show vs.toArray.size ≤ sizeLine; rw [List.size_toArray, sizeLine_eq]; omega)
/-- list + list -/
theorem ml_add {l b : Addr} {vs ws : List Value} {n n2 : Nat} (f : FB w p loose mean mg mb g L h m news) (ho : h.get? l = some (listOf vs.toArray n)) (ho2 : h.get? b = some (listOf ws.toArray n2)) (hz : vs.length + ws.length ≤ 1000000)
    (q : ∀ D h', FB w p loose mean mg mb g L h' m ((D, listOf (vs ++ ws).toArray 0) :: news) → (∀ q ∈ news, q.1 ≠ D) → (∀ a o, h.get? a = some o → h'.get? a = some o) → Q (.ref D) ⟨h', ge, dr, tk, os⟩) :
    wpAny (model prog w) A (binaryOp .Add (.ref l) (.ref b)) Q E ⟨h, ge, dr, tk, os⟩ := by
  have e : vs.toArray ++ ws.toArray = (vs ++ ws).toArray := by simp
  refine concat_meets ⟨_, ho, rfl⟩ ⟨_, ho2, rfl⟩ noFill_list_add seq_list_add PySem.F.slot_list_add PySem.F.entry_list_add (PySem.F.args_list_add_2 _ _) (list_addW l b vs.toArray ws.toArray n n2 none none #[] #[] (by rw [sizeLine_eq]; simp; omega)) ⟨ho, ho2, ?_⟩
  rw [e]
  obtain ⟨f1, n1, k1⟩ := f.pushed (listOf (vs ++ ws).toArray 0)
  exact q _ _ f1 n1 k1
def SliceQ (M : Model) (A : Around) (E : Value → Shared → Prop) (o l u : Value) (Q : Value → Shared → Prop) (s : Shared) : Prop :=
  ({ s with heap := s.heap.push { cls := .type "slice", data := .fields #[l, u, .none] } } : Shared).TypeIs o "list" ∧ wpAny M A (getItem o (.ref s.heap.objs.size)) Q E { s with heap := s.heap.push { cls := .type "slice", data := .fields #[l, u, .none] } }
theorem mw_slice {value : Expr} {lower upper : Option Expr} {p' pos : Pos}
    (q : wpAny (model prog w) A (eval value env) (fun o s₁ => wpAny (model prog w) A (evalPart lower env) (fun l s₂ => wpAny (model prog w) A (evalPart upper env) (fun u s₃ => SliceQ (model prog w) A E o l u Q s₃) E s₂) E s₁) E s)
    (ht : ∀ o r, letTemporaryGo value o r = pure ()) : wpAny (model prog w) A (eval (.Subscript value (.Slice lower upper none p') pos) env) Q E s :=
  wpAny_Subscript_Slice list_getitem_lookup (wpAny_mono q (fun o s₁ x => wpAny_Slice (wpAny_mono x (fun l s₂ x => wpAny_mono x (fun u s₃ x => wpAny_pure x) fun _ _ e => e) fun _ _ e => e)) fun _ _ e => e) ht
theorem ml_slice {l : Addr} {vs : List Value} {n : Nat} {lo hi : Option Int} {vl vu : Value} (f : FB w p loose mean mg mb g L h m news) (ho : h.get? l = some (listOf vs.toArray n)) (pl : IsPart vl lo) (pu : IsPart vu hi) (hz : vs.length ≤ 1000000)
    (q : ∀ D h', FB w p loose mean mg mb g L h' m ((D, listOf (kms_pick vs lo hi).toArray 0) :: news) → (∀ q ∈ news, q.1 ≠ D) → (∀ a o, h.get? a = some o → h'.get? a = some o) → Q (.ref D) ⟨h', ge, dr, tk, os⟩) :
    SliceQ (model prog w) A E (.ref l) vl vu Q ⟨h, ge, dr, tk, os⟩ := by
  obtain ⟨f1, n1, k1⟩ := f.pushed { cls := .type "slice", data := .fields #[vl, vu, .none] }
  refine ⟨⟨_, k1 _ _ ho, rfl⟩, ?_⟩
  refine wpAny_getItem_list_slice (s := ⟨h.push { cls := .type "slice", data := .fields #[vl, vu, .none] }, ge, dr, tk, os⟩) (isList_of (k1 _ _ ho)) (Heap.IsSliceOf.new ..) pl pu .none (by simp) ?_ (by rw [sizeLine_eq]; simp; omega)
  have e : slicePick vs.toArray lo hi none = (kms_pick vs lo hi).toArray := kms_pick_eq vs.toArray lo hi
  rw [e]
  obtain ⟨f2, n2, k2⟩ := f1.pushed (listOf (kms_pick vs lo hi).toArray 0)
  refine q _ _ (f2.sub fun q hq => ?_) (fun q hq => n2 q (.tail _ hq)) fun a o e => k2 _ _ (k1 _ _ e)
  rcases List.mem_cons.mp hq with rfl | hq
  · exact .head _
  · exact .tail _ (.tail _ hq)
theorem mo_addN {a b : Nat} {t u : Tok} (q : ∀ t' tk', Q (.int ((a + b : Nat) : Int) t') ⟨h, ge, dr, tk', os⟩) : wpAny (model prog w) A (binaryOp .Add (.int ((a : Nat) : Int) t) (.int ((b : Nat) : Int) u)) Q E ⟨h, ge, dr, tk, os⟩ :=
  mo_add (by
    intro t' tk'
    have := q t' tk'
    rwa [Int.natCast_add] at this)
theorem ml_itemH {l : Addr} {vs : List Value} {n : Nat} {o i : Expr} {k : Int} {t : Tok} {v : Value} (hm : h.get? l = some (listOf vs.toArray n)) (h0 : 0 ≤ k) (hhi : k < 2 ^ 63) (hx : vs[k.toNat]? = some v) (q : Q v ⟨h, ge, dr, tk, os⟩)
    (hs : subscripted i false (.ref l) (.int k t) = operate [.ref l, .int k t] (getItem (.ref l) (.int k t))) : wpAny (model prog w) A (subscriptTail o i (.ref l) (.int k t)) Q E ⟨h, ge, dr, tk, os⟩ :=
  have hl := isList_of hm
  tail_any hl.typeIs slot_list_getitem.lookup (wpAny_getItem_list (s := ⟨h, ge, dr, tk, os⟩) hl h0 hhi (by simpa using hx) q) hs
theorem ml_sliceT {value slice : Expr} {l : Addr} {vs : List Value} {n : Nat} {lo hi : Option Int} {vl vu : Value} (f : FB w p loose mean mg mb g L h m news) (ho : h.get? l = some (listOf vs.toArray n)) (pl : IsPart vl lo) (pu : IsPart vu hi) (hz : vs.length ≤ 1000000)
    (q : ∀ D h', FB w p loose mean mg mb g L h' m ((D, listOf (kms_pick vs lo hi).toArray 0) :: news) → (∀ q ∈ news, q.1 ≠ D) → (∀ a o, h.get? a = some o → h'.get? a = some o) → Q (.ref D) ⟨h', ge, dr, tk, os⟩)
    (hs : subscripted slice false (.ref l) (.ref h.objs.size) = operate [.ref h.objs.size, .ref l] (getItem (.ref l) (.ref h.objs.size))) (ht : ∀ r, letTemporaryGo value (.ref l) r = pure ()) :
    wpAny (model prog w) A (subscriptTail value slice (.ref l) (.ref h.objs.size)) Q E ⟨h.push { cls := .type "slice", data := .fields #[vl, vu, .none] }, ge, dr, tk, os⟩ := by
  have z := ml_slice (prog := prog) (A := A) (E := E) (ge := ge) (dr := dr) (tk := tk) (os := os) f ho pl pu hz q
  exact subscriptTail_ops z.1 list_getitem_lookup z.2 hs ht
end
end
section
section
variable {prog : Program} {w : World} {A : Around} {E : Value → Shared → Prop} {p : Program} {loose : List Str} {mean : ExcName → Option Value} {mg mb : Str → Option Value} {g h : Heap} {ge : Array GenState} {dr : Drawn} {tk : Nat} {os : OsState}
  {L : Addr} {m : Str → Option Value} {news : List (Addr × Obj)} {Q : Value → Shared → Prop}
theorem ml_sum {l : Addr} {vs : List Value} {ns : List Int} {n : Nat} (f : FB w p loose mean mg mb g L h m news) (hh : A.handled = none) (hl : h.get? l = some (listOf vs.toArray n)) (hi : IntsAre vs ns)
    (q : ∀ h' tk' t', FB w p loose mean mg mb g L h' m news → (∀ a o, h.get? a = some o → h'.get? a = some o) → Q (.int ns.sum t') ⟨h', ge, dr, tk', os⟩) : wpAny (model prog w) A (call (.builtin "sum") [.ref l]) Q E ⟨h, ge, dr, tk, os⟩ := by
  obtain ⟨xs, hx⟩ := hi.allInts.items
  have hl' : h.IsList l (intItems xs) := hx ▸ isList_of hl
  refine sum_intListG (s := ⟨h, ge, dr, tk, os⟩) hh hl' fun h' tk' t' hk => ?_
  have e1 : ns = xs.toList.map (·.1) := by
    rw [← nums_intItems, ← hx]
    exact (show numsOf vs.toArray.toList = ns from hi.numsOf).symm
  have e2 : preSum (numAt xs) xs.size = ns.sum := by
    rw [preSum_eq, List.take_of_length_le (by simp), e1]
  rw [e2]
  exact q h' tk' t' (f.all hk) hk
/-- [x] * n -/
theorem ml_mul {l : Addr} {vs : List Value} {k : Nat} {x : Nat} {u : Tok} (f : FB w p loose mean mg mb g L h m news) (hl : h.get? l = some (listOf vs.toArray k)) (hne : vs ≠ []) (hz : vs.length * x ≤ 1000000) (hx : x ≤ 1000000)
    (q : ∀ D h', FB w p loose mean mg mb g L h' m ((D, listOf ((List.replicate x vs).flatten).toArray 0) :: news) → (∀ q ∈ news, q.1 ≠ D) → (∀ a o, h.get? a = some o → h'.get? a = some o) → Q (.ref D) ⟨h', ge, dr, tk, os⟩) :
    wpAny (model prog w) A (binaryOp .Mult (.ref l) (.int ((x : Nat) : Int) u)) Q E ⟨h, ge, dr, tk, os⟩ := by
  have e0 : vs.toArray.isEmpty = false := by
    cases vs with
    | nil => exact absurd rfl hne
    | cons a r => rfl
  have hlo : -(2 ^ 63 : Int) ≤ ((x : Nat) : Int) := by omega
  have hhi : ((x : Nat) : Int) < 2 ^ 63 := by omega
  have hsz : vs.toArray.size * (((x : Nat) : Int)).toNat ≤ 2 ^ 24 := by rw [List.size_toArray, Int.toNat_natCast]; omega
  generalize hX : ((x : Nat) : Int) = X at *
  have hxn : X.toNat = x := by rw [← hX, Int.toNat_natCast]
  refine wpAny_binaryOp_repeat_ref (T := "list") (U := "int") (by decide) ⟨_, hl, rfl⟩ (fun s' => typeIs_int s' X u) noFill_list_mul PySem.F.fills_int_mul PySem.F.slot_int_rmul repeat_list PySem.F.slot_int_index.lookup
    (call_meets PySem.F.slot_int_rmul (typeIs_int _ X u) PySem.F.entry_int_rmul (PySem.F.args_int_rmul_2 _ _) (int___rmul___int_list X u l vs.toArray k)
      ⟨hl, rfl, ⟨_, hl, rfl⟩, call_meets PySem.F.slot_list_mul ⟨_, hl, rfl⟩ PySem.F.entry_list_mul (PySem.F.args_list_mul_2 _ _)
        (AutoListH.list___mul___list_int_3 l vs.toArray k X u (by simp [Builtin.List.listFitsIndex]; omega) (by omega) (by simp [Builtin.List.listTooLong, sizeLine]; omega))
        ⟨hl, ?_⟩⟩)
  obtain ⟨f1, n1, k1⟩ := f.pushed (listOf ((List.replicate x vs).flatten).toArray 0)
  have e : List.foldl (fun x1 x2 => x1 ++ x2) #[] (List.replicate (if vs.toArray.isEmpty = true then 0 else X.toNat) vs.toArray) = ((List.replicate x vs).flatten).toArray := by
    rw [e0]
    simp only [Bool.false_eq_true, if_false, listMul_foldl, hxn, List.nil_append]
  rw [e]
  exact q _ _ f1 n1 k1
theorem ml_listRange {r : Addr} {n : Nat} {t u v : Tok} (f : FB w p loose mean mg mb g L h m news) (hh : A.handled = none) (hr : h.get? r = some (rangeO 0 n 1 t u v)) (hn : n ≤ 1000000)
    (q : ∀ D h' tk' vs c, FB w p loose mean mg mb g L h' m ((D, listOf vs.toArray c) :: news) → (∀ q ∈ news, q.1 ≠ D) → (∀ a o, h.get? a = some o → h'.get? a = some o) → RelL (natV.rel h') vs (List.range n) → Q (.ref D) ⟨h', ge, dr, tk', os⟩) :
    wpAny (model prog w) A (call (.type "list") [.ref r]) Q E ⟨h, ge, dr, tk, os⟩ := by
  refine call_list_range (s := ⟨h, ge, dr, tk, os⟩) (n := n) hh hr (small_one (by omega) (by omega) (by omega) (by omega)) (by rw [rangeSize_one]; split <;> omega) (by omega) fun h' tk' acc' c' hk hS' hacc => ?_
  obtain ⟨f', n'⟩ := f.grow hk (Heap.get?_none_of_le (Nat.le_refl _)) hS'
  refine q _ h' tk' acc'.toList c' (by simpa using f') n' hk ⟨by simp [hacc.1], fun j v k hv hk' => ?_⟩
  obtain ⟨tk, rfl⟩ := hacc.2 j v (by simpa using hv)
  obtain ⟨hj, ej⟩ := List.getElem?_eq_some_iff.mp hk'
  rw [List.getElem_range] at ej
  subst ej
  exact ⟨tk, by congr 1; omega⟩
end
end
section
theorem ints_get {vs : List Value} {ns : List Int} (h : IntsAre vs ns) : ∀ {i : Nat} {v : Value} {x : Int}, vs[i]? = some v → ns[i]? = some x → ∃ t, v = .int x t := by
  induction h with
  | nil => intro i v x h; simp at h
  | @cons n t vs ns _ ih =>
    intro i v x hv hx
    cases i with
    | zero => simp at hv hx; subst hv; subst hx; exact ⟨t, rfl⟩
    | succ i => exact ih (by simpa using hv) (by simpa using hx)
structure RunS (w : World) (g : Heap) (x dx cl : Addr) (cnt base : Nat) (t1 t2 : Tok) (B N : Nat) (h : Heap) (m : Str → Option Value) (news : List (Addr × Obj)) (bk : BookV) (D : List (Nat × List Nat)) (hp row : List Nat) (last : Nat) (tl : Tok) (hl : Addr) (hv : List Value) (hc : Nat) (rl : Addr) (rv : List Value) (rc : Nat) : Prop where
  en : news = [(hl, listOf hv.toArray hc), (rl, listOf rv.toArray rc)] ++ bookN bk
  hr : hl ≠ rl
  ap : Apart [(hl, listOf hv.toArray hc), (rl, listOf rv.toArray rc)] bk
  R : BookR natV h bk D
  ex : bk.x = x
  ed : bk.dx = dx
  rh : RelL (natV.rel h) hv hp
  rr : RelL (natV.rel h) rv row
  I : Inv (decide (0 < cnt)) cnt base B N D hp row last
  m1 : m "book" = some (.ref x)
  m2 : m "count" = some (.int ((cnt : Nat) : Int) t1)
  m3 : m "base" = some (.int ((base : Nat) : Int) t2)
  m4 : m "heap" = some (.ref hl)
  m5 : m "row" = some (.ref rl)
  m6 : m "last" = some (.int ((last : Nat) : Int) tl)
local macro_rules | `(tactic| walk_at "goE") => `(tactic| repeat' ((fail_if_success (with_reducible show wpAny _ _ (exec (Stmt.Expr _ _) _) _ _ _)); walk_at "m1"))
/-- the same, where the book's address bears another name -/
theorem least_specX {prog : Program} {w : World} {A : Around} {E : Value → Shared → Prop} {p : Program} {loose : List Str} {mean : ExcName → Option Value} {mg mb : Str → Option Value} {b h : Heap} {ge : Array GenState} {dr : Drawn} {tk : Nat} {os : OsState} {Q : Value → Shared → Prop}
    (S : SupOk prog) (B : Base w p loose mean mg mb b) (hb : b.StaysIn h) {bk : BookV} {D : List (Nat × List Nat)} {fr : Bool} {x : Addr} (ex : bk.x = x) (hN : ∀ q ∈ bookN bk, h.get? q.1 = some q.2 ∧ b.get? q.1 = none) (R : BookR natV h bk D) (Z : Dxf w b bk fr)
    {s : Nat} (hs0 : ∀ j, j < s → lstD D j = []) (hs1 : lstD D s ≠ []) (hsz : s ≤ 1000) (hDz : D.length ≤ 1000) (hlz : ∀ d ∈ D, d.2.length ≤ 1000)
    (hd : A.depth + 20 < recursionLimit) (hu : A.units + 300 < cLine) (hh : A.handled = none)
    {y : Nat} {k1 : List Nat} (hp : hpop natV.lt (lstD D s) = some (y, k1)) (hbl : ∀ n ∈ (popN natV.lt k1 k1.length).1, bl (n ^^^ y) ≤ 1000)
    (q : ∀ h' tk' t' bk', Ch ((bookN bk).map (·.1)) h h' → (∀ q ∈ bookN bk', h'.get? q.1 = some q.2 ∧ (q.1 ∈ (bookN bk).map (·.1) ∨ h.get? q.1 = none)) → BookR natV h' bk' ((popN natV.lt k1 k1.length).1.foldl (pushD fr y) (setD (touchD fr D s) s [])) → bk'.x = x → bk'.dx = bk.dx → Q (.int ((y : Nat) : Int) t') ⟨h', ge, dr, tk', os⟩) :
    wpAny (model prog w) A (call (.ref 116) [.ref x]) Q E ⟨h, ge, dr, tk, os⟩ := by
  subst ex
  exact least_spec S B hb hN R Z hs0 hs1 hsz hDz hlz hd hu hh hp hbl q
theorem holds_specX {prog : Program} {w : World} {A : Around} {E : Value → Shared → Prop} {p : Program} {loose : List Str} {mean : ExcName → Option Value} {mg mb : Str → Option Value} {b h : Heap} {ge : Array GenState} {dr : Drawn} {tk : Nat} {os : OsState} {Q : Value → Shared → Prop}
    (S : SupOk prog) (B : Base w p loose mean mg mb b) (hb : b.StaysIn h) {bk : BookV} {fr : Bool} {cnt base BB N : Nat} {D : List (Nat × List Nat)} {hp row : List Nat} {l : Nat} {tl : Tok} {x : Addr} (ex : bk.x = x) (hN : ∀ q ∈ bookN bk, b.get? q.1 = some q.2) (R : BookR natV b bk D) (Z : Dxf w b bk fr)
    (I : Inv fr cnt base BB N D hp row l) (hB : BB ≤ 511) (hNz : N < 64) {rl : Addr} {rv : List Value} {rc : Nat} (hrl : b.get? rl = some (listOf rv.toArray rc)) (hrr : RelL (natV.rel b) rv row)
    (hd : A.depth + 20 < recursionLimit) (hu : A.units + 300 < cLine) (hh : A.handled = none)
    (q : ∀ h' tk', (∀ a o, h.get? a = some o → h'.get? a = some o) → Q (.bool true) ⟨h', ge, dr, tk', os⟩) :
    wpAny (model prog w) A (call (.ref 121) [.ref x, .int ((l : Nat) : Int) tl, .ref rl]) Q E ⟨h, ge, dr, tk, os⟩ := by
  subst ex
  exact holds_spec S B hb hN R Z (fun d hd n hn => (I.good.key d hd n hn).2) I.good.keys (fun d hd => Nat.le_trans (I.keysU d hd) (by decide)) (fun d hd n hn => Nat.le_trans (I.numB d hd n hn) (by omega)) (Nat.le_trans I.lastB (by omega)) (Nat.le_trans I.dlen (by decide)) (Nat.lt_of_le_of_lt I.flen hNz) hrl hrr I.perm I.srt hd hu hh q
local macro_rules | `(tactic| walk_at "m1") => `(tactic| first
  | (with_reducible refine seq_next ?_)
  | ((with_reducible refine' mw_local ?f ?v ?_ ?l ?k ?d); (case l => rfl); (case k => rfl); (case f => assumption); (case d => decide); (case v => first | rfl | assumption))
  | (with_reducible refine mw_cons ?_)
  | (with_reducible refine mw_nil ?_)
  | ((with_reducible refine' mw_asg ?_ ?s); (case s => rfl))
  | ((with_reducible refine' mw_st ?f ?_ ?l ?k); (case l => rfl); (case k => rfl); (case f => assumption); intro _ _ _)
  | ((with_reducible refine' mw_glob ?f ?e ?_ ?l ?k ?d ?g); (case l => rfl); (case k => rfl); (case f => assumption); (case e => k_is); (case d => decide); (case g => rfl))
  | ((with_reducible refine' mw_built ?f ?e ?v ?_ ?l ?k ?d ?g ?b ?n); (case l => rfl); (case k => rfl); (case f => assumption); (case e => k_is); (case v => boot_by_name); (case d => decide); (case g => rfl); (case b => rfl); (case n => decide))
  | ((with_reducible refine' mw_cell ?f ?c ?m ?_ ?l ?k ?d); (case l => rfl); (case k => rfl); (case f => assumption); (case c => rfl); (case m => k_mem); (case d => decide))
  | ((with_reducible refine' mw_free ?f ?c ?m ?_ ?l ?k ?d ?n); (case l => rfl); (case k => rfl); (case f => assumption); (case c => rfl); (case m => k_mem); (case d => decide); (case n => decide))
  | ((with_reducible refine mw_int ?_); intro _ _)
  | (with_reducible refine mw_bin ?_)
  | ((with_reducible refine mo_add ?_); intro _ _)
  | ((with_reducible refine mo_sub ?_); intro _ _)
  | ((with_reducible refine mo_iadd ?_); intro _ _)
  | ((with_reducible refine' mw_expr ?_ ?a ?b); (case a => rfl); (case b => rfl))
  | ((with_reducible refine' mw_call ?_ ?a); (case a => rfl))
  | (with_reducible refine mw_spn ?_)
  | ((with_reducible refine' mw_spc ?_ ?a); (case a => rfl))
  | ((with_reducible refine' mk_in ?f ?_); (case f => assumption))
  | ((with_reducible refine' mk_bi ?_ ?a ?b); (case a => rfl); (case b => rfl))
  | ((with_reducible refine' mk_def ?f ?k ?_ ?a ?b); (case f => assumption); (case k => k_is); (case a => rfl); (case b => rfl))
  | (with_reducible refine mw_if ?_)
  | ((with_reducible refine' mt_cmp ?_ ?a); (case a => rfl))
  | (with_reducible refine mt_bool ?_)
  | (with_reducible refine mc_lt ?_)
  | (with_reducible refine mc_gt ?_)
  | (with_reducible refine mc_eq ?_)
  | (with_reducible refine mc_ne ?_)
  | (with_reducible refine mc_le ?_)
  | (with_reducible refine mc_ge ?_)
  | (with_reducible refine mw_sub ?_)
  | ((with_reducible refine' mw_asgS ?_ ?s); (case s => rfl))
  | (with_reducible refine mw_ret ?_)
  | (with_reducible refine seq_ret ?_)
  | (with_reducible refine seq_brk ?_)
  | (with_reducible refine seq_cont ?_)
  | (with_reducible refine mw_brk ?_)
  | (with_reducible refine mw_cont ?_)
  | (with_reducible refine mt_and ?_)
  | (with_reducible refine mt_and0 ?_)
  | (with_reducible refine mt_or ?_)
  | (with_reducible refine mt_or0 ?_)
  | (with_reducible refine mt_not ?_)
  | (with_reducible refine mt_name ?_)
  | (with_reducible refine mt_call ?_)
  | (with_reducible refine mw_tuple ?_)
  | (with_reducible refine mw_list ?_)
  | ((with_reducible refine' mw_cmp ?_ ?a); (case a => rfl))
  | (with_reducible refine mw_un ?_)
  | ((with_reducible refine mo_neg ?_); intro _ _)
  | (with_reducible refine mo_not ?_)
  | (with_reducible refine mw_ifexp ?_)
  | (with_reducible refine mw_and ?_)
  | (with_reducible refine mw_or ?_)
  | (with_reducible refine mw_bone ?_)
  | (with_reducible refine mw_bool ?_)
  | ((with_reducible refine' ml_len ?f ?m ?z ?_); (case f => assumption); (case m => k_mem); (case z => (rw [sizeLine_eq]; omega)); intro _ _)
  | ((with_reducible refine' mo_shr1 ?z ?_); (case z => omega); intro _ _)
  | ((with_reducible refine' mk_meth ?_ ?a); (case a => rfl))
  | (with_reducible refine mk_m0 ?_)
  | ((with_reducible refine' mk_m1 ?_ ?a ?b); (case a => rfl); (case b => rfl))
  | ((with_reducible refine mw_aug ?_))
  | ((with_reducible refine' mw_ldl ?f ?v ?_ ?l ?k); (case l => rfl); (case k => rfl); (case f => assumption); (case v => first | rfl | assumption))
  | ((with_reducible refine' mw_ldc ?f ?c ?m ?_ ?l ?k); (case l => rfl); (case k => rfl); (case f => assumption); (case c => rfl); (case m => k_mem))
  | ((with_reducible refine' mw_stc ?f ?c ?u ?_ ?l ?k); (case l => rfl); (case k => rfl); (case f => assumption); (case c => rfl); (case u => k_upd); intro _ _))
local macro_rules | `(tactic| walk_at "go") => `(tactic| repeat' walk_at "m1")
local macro_rules | `(tactic| walk_at "goI") => `(tactic| repeat' ((fail_if_success (with_reducible show wpAny _ _ (exec (Stmt.If _ _ _ _) _) _ _ _)); walk_at "m1"))

section
variable {prog : Program} {w : World} {A : Around} {E : Value → Shared → Prop} {p : Program} {loose : List Str} {mean : ExcName → Option Value} {mg mb : Str → Option Value} {b h : Heap} {ge : Array GenState} {dr : Drawn} {tk : Nat} {os : OsState}
  {Q : Value → Shared → Prop}
/-- `_law_run` -/
theorem run_spec (S : SupOk prog) (B : Base w p loose mean mg mb b) (hb : b.StaysIn h) {bk : BookV} {cnt base : Nat} {t1 t2 : Tok} (hN : ∀ q ∈ bookN bk, h.get? q.1 = some q.2 ∧ b.get? q.1 = none) (R : BookR natV h bk (emptyD cnt)) (Z : Dxf w b bk (decide (0 < cnt)))
    {cl : Addr} {cv : List Value} {cc : Nat} {xs : List Int} (hcl : b.get? cl = some (listOf cv.toArray cc)) (hci : IntsAre cv xs) (hpc : pc xs ≤ 14) (hrb : rb xs = 0) (hcnt : cnt ≤ 10) (hbase : base ≤ 63)
    (hd : A.depth + 40 < recursionLimit) (hu : A.units + 600 < cLine) (hh : A.handled = none)
    (q : ∀ h' tk' bk' D', Ch ((bookN bk).map (·.1)) h h' → (∀ q ∈ bookN bk', h'.get? q.1 = some q.2 ∧ (q.1 ∈ (bookN bk).map (·.1) ∨ h.get? q.1 = none)) → BookR natV h' bk' D' → (D'.map (·.1)).Nodup → (0 < cnt → D'.map (·.1) = List.range cnt) → (∀ d ∈ D', d.1 ≤ 9) → bk'.x = bk.x → bk'.dx = bk.dx → Q (.bool true) ⟨h', ge, dr, tk', os⟩) :
    wpAny (model prog w) A (call (.ref 135) [.ref bk.x, .int ((cnt : Nat) : Int) t1, .int ((base : Nat) : Int) t2, .ref cl]) Q E ⟨h, ge, dr, tk, os⟩ := by
  have BX := B.X
  refine' mk_enter (news := bookN bk) (binds := [("book", .ref bk.x), ("count", .int ((cnt : Nat) : Int) t1), ("base", .int ((base : Nat) : Int) t2), ("calls", .ref cl)]) B hb ?k0 ?k6 ?k7 (by omega) ?k9 ?kB ?_ ?c2 ?c3 ?c4 ?c5
  case k0 => exact fun q hq => ⟨(hN q hq).1, (hN q hq).2, bookN_ne bk q hq⟩
  case k6 => k_is
  case k7 => k_is
  case k9 => exact fun _ => BindsTo.of_eq rfl
  case kB => exact locs rfl
  case c2 => exact rfl
  case c3 => exact rfl
  case c4 => exact rfl
  case c5 => decide
  intro g L h₁ tk₁ fb hg tg hbg
  clear BX
  have X := fb.B.X
  have Z1 := Z.keeps hbg
  have hgcl := hbg _ _ hcl
  walk_at "go"
  refine ml_newK fb (by simp) ?_
  intro hl h2 f2 n2 k2
  walk_at "go"
  rename_i h3 tk3 f3
  clear f2
  refine ml_newK f3 (by simp) ?_
  intro rl h4 f4 n4 k4
  clear f3
  walk_at "go"
  rename_i h5 tk5 f5 h6 tk6 f6
  clear f4 f5
  refine mw_for ?_ (fun _ => rfl)
  walk_at "go"
  have f7 := f6.sub (news' := [(hl, listOf ([] : List Value).toArray 0), (rl, listOf ([] : List Value).toArray 0)] ++ bookN bk) (fun q hq => by
    simp only [List.cons_append, List.nil_append, List.mem_cons] at hq ⊢
    rcases hq with h | h | h
    · exact .inr (.inl h)
    · exact .inl h
    · exact .inr (.inr h))
  clear f6
  have sz : cv.length = xs.length := hci.length
  refine for_list (by exact hh) (fun i h m news => ∃ bk' D hp row last tl hl hv hc rl rv rc, RunS w g bk.x bk.dx cl cnt base t1 t2 (63 + 31 * pc (xs.take i)) (rb (xs.take i)) h m news bk' D hp row last tl hl hv hc rl rv rc) ?hJ ?hnt f7 hgcl ?j0 rfl rfl ?turn ?fin
  case hJ =>
    rintro i h h' m news t ⟨bk', D, hp, row, last, tl, hl, hv, hc, rl, rv, rc, s⟩
    exact ⟨bk', D, hp, row, last, tl, hl, hv, hc, rl, rv, rc, s.en, s.hr, s.ap, s.R.nat, s.ex, s.ed, s.rh, s.rr, s.I, s.m1, s.m2, s.m3, s.m4, s.m5, s.m6⟩
  case hnt =>
    rintro i h m news ⟨bk', D, hp, row, last, tl, hl, hv, hc, rl, rv, rc, s⟩ q hq
    rw [s.en] at hq
    simp only [List.cons_append, List.nil_append, List.mem_cons] at hq
    rcases hq with rfl | rfl | hq
    · exact lst_ne _ _
    · exact lst_ne _ _
    · exact bookN_ne _ q hq
  case j0 =>
    refine ⟨bk, emptyD cnt, [], [], base, t2, hl, [], 0, rl, [], 0, rfl, fun e => ?_, ?_, R.nat, rfl, rfl, RelL.nil, RelL.nil, Inv.start cnt base hcnt hbase, rfl, rfl, rfl, rfl, rfl, rfl⟩
    · exact n4 _ (.head _) e
    · intro q hq q' hq' e
      simp only [List.mem_cons, List.not_mem_nil, or_false] at hq
      rcases hq with rfl | rfl
      · exact n2 q' hq' e.symm
      · exact n4 q' (.tail _ hq') e.symm
  case turn =>
    rintro i v g' h8 tk8 m8 news8 hv8 ⟨bk', D, hp, row, last, tl, hl, hv, hc, rl, rv, rc, s⟩ f8 st8
    obtain ⟨x, hx⟩ : ∃ x, xs[i]? = some x := ⟨_, List.getElem?_eq_getElem (by rw [← sz]; exact (List.getElem?_eq_some_iff.mp hv8).1)⟩
    obtain ⟨tx, rfl⟩ : ∃ t, v = .int x t := ints_get hci hv8 hx
    refine mw_cons ?_
    refine next_cut (fun s' => ∃ h' tk' m' news' bk' D hp row last tl hl hv hc rl rv rc, s' = ⟨h', ge, dr, tk', os⟩ ∧ FB w p loose mean mg mb g' L h' m' news' ∧ RunS w g bk.x bk.dx cl cnt base t1 t2 (63 + 31 * pc (xs.take (i + 1))) (rb (xs.take (i + 1))) h' m' news' bk' D hp row last tl hl hv hc rl rv rc) ?one ?two
    case one =>
      obtain ⟨rfl, hr, ap, Rk, ex, ed, rh, rr, I, m1, m2, m3, m4, m5, m6⟩ := s
      clear hv8
      have Z8 : Dxf w g' bk' (decide (0 < cnt)) := by
        have := Z1.keeps st8
        unfold Dxf at this ⊢
        rw [ex, ed]; exact this
      have pcl := pc_le xs i
      have pcl1 := pc_le xs (i + 1)
      have rbl := rb_le_pc (xs.take i) 0 0 (Nat.le_refl _)
      have rbl : rb (xs.take i) ≤ pc (xs.take i) := rbl
      have pt := pc_take hx
      have rt := rb_take hx
      walk_at "go"
      refine mo_mod (by decide) fun t9 tk9 => ?_
      walk_at "go"
      by_cases hc0 : 0 < x.fmod 3
      · rw [if_pos (by simpa using hc0)]
        rw [if_pos hc0] at pt rt
        walk_at "go"
        refine mo_fdiv (by decide) (by decide) fun t10 tk10 => ?_
        walk_at "go"
        refine mo_mod (by decide) fun t11 tk11 => ?_
        obtain ⟨r, er, hr31⟩ : ∃ r : Nat, (x.fdiv 3).fmod 32 = (r : Int) ∧ r ≤ 31 := by
          have h1 := Int.fmod_nonneg_of_pos (a := x.fdiv 3) (b := 32) (by decide)
          have h2 := Int.fmod_lt_of_pos (x.fdiv 3) (b := 32) (by decide)
          exact ⟨((x.fdiv 3).fmod 32).toNat, by omega, by omega⟩
        rw [er]
        refine mo_addN fun t12 tk12 => ?_
        walk_at "goE"
        rename_i h12 tk13 f12
        clear f8
        obtain ⟨M, q1, q2, q3, q4, q5, q6, q7, f13⟩ : ∃ M : Str → Option Value, M "book" = some (.ref bk.x) ∧ M "count" = some (.int ((cnt : Nat) : Int) t1) ∧ M "base" = some (.int ((base : Nat) : Int) t2) ∧ M "heap" = some (.ref hl) ∧ M "row" = some (.ref rl) ∧ M "last" = some (.int ((last : Nat) : Int) tl) ∧ M "number" = some (.int ((last + r : Nat) : Int) t12) ∧ FB w p loose mean mg mb g' L h12 M ([(hl, listOf hv.toArray hc), (rl, listOf rv.toArray rc)] ++ bookN bk') := by
          refine Exists.intro _ (And.intro ?_ (And.intro ?_ (And.intro ?_ (And.intro ?_ (And.intro ?_ (And.intro ?_ (And.intro ?_ f12)))))))
          · exact m1
          · exact m2
          · exact m3
          · exact m4
          · exact m5
          · exact m6
          · rfl
        clear f12
        have lB := I.lastB
        have dl := I.dlen
        have ll := I.llen
        refine next_cut (fun s' => ∃ h' tk' bk3, s' = ⟨h', ge, dr, tk', os⟩ ∧ FB w p loose mean mg mb g' L h' M ([(hl, listOf hv.toArray hc), (rl, listOf rv.toArray rc)] ++ bookN bk3) ∧ Apart [(hl, listOf hv.toArray hc), (rl, listOf rv.toArray rc)] bk3 ∧ BookR natV h' bk3 (pushD (decide (0 < cnt)) last D (last + r)) ∧ bk3.x = bk.x ∧ bk3.dx = bk.dx) ?pa ?pb
        case pa =>
          walk_at "go"
          refine size_spec f13.B f13.keep (n := last + r) (l := last) ?_ ?_ (Nat.le_trans (bl_small (by omega) (by omega)) (by omega)) ?_
          · show A.depth + 1 + 2 < _; omega
          · show A.units + 3 + 40 < _; omega
          intro h14 tk14 t14 k14
          have f14 := f13.all k14
          clear f13
          walk_at "go"
          refine book_at S ex (extra := [(hl, listOf hv.toArray hc), (rl, listOf rv.toArray rc)]) f14 ap Rk.nat Z8 (by omega) ?_ ?_ ?_ rfl ?_ ?_
          · show A.depth + 1 + 8 < _; omega
          · show A.units + 3 + 80 < _; omega
          · exact hh
          · intro bk4 i4 r4 h20 tk20 f20 ap20 R20 Z20 ex20 ed20 hi4 hr4 t20
            obtain ⟨d4, hdi4, hdk4⟩ := keyAt_lt hi4
            have hl4' := lstD_at hi4 hdi4
            have hln : d4.2.length ≤ rb (xs.take i) := lookD_all ll d4 (List.mem_of_getElem? hdi4)
            clear f14
            walk_at "go"
            refine heappush_spec natV (ks := d4.2) (x := last + r) f20.B f20.keep (f20.at_ (List.mem_append_right _ (bookN_row hr4))) (f20.new_ (List.mem_append_right _ (bookN_row hr4))) (R20.rel i4 r4 d4 hr4 hdi4).2 ⟨t12, rfl⟩ (by omega) ?_ ?_ ?_
            · show A.depth + 1 + 2 < _; omega
            · show A.units + 3 + 40 < _; omega
            intro h21 tk21 vs21 c21 C21 hl21 R21
            obtain ⟨f21, ap21, Rk21, t21⟩ := book_put (extra := [(hl, listOf hv.toArray hc), (rl, listOf rv.toArray rc)]) f20 ap20 R20 hr4 C21 hl21 R21
            clear f20
            refine ⟨rfl, _, _, _, rfl, f21, ap21, ?_, ex20, ed20.trans ed⟩
            have e22 : (lookD (decide (0 < cnt)) D (bl ((last + r) ^^^ last))).modify i4 (fun d => (d.1, hpush natV.lt d4.2 (last + r))) = pushD (decide (0 < cnt)) last D (last + r) := by
              unfold pushD
              rw [hl4']
              unfold setD
              rw [hi4]
            rw [← e22]; exact Rk21
          · intro hf hn0 l h20 tk20 c20 f20 hl20 R20 k20
            clear f14
            walk_at "go"
            refine heappush_spec natV (ks := []) (vs := []) (x := last + r) f20.B f20.keep (f20.at_ (.head _)) (f20.new_ (.head _)) RelL.nil ⟨t12, rfl⟩ (by simp) ?_ ?_ ?_
            · show A.depth + 1 + 2 < _; omega
            · show A.units + 3 + 40 < _; omega
            intro h21 tk21 vs21 c21 C21 hl21 R21
            have f21 := f20.chg (news' := [(hl, listOf hv.toArray hc), (rl, listOf rv.toArray rc)] ++ bookN bk') C21 ⟨_, .head _⟩ (fun q hq => .inl ⟨.tail _ hq, hl20 q hq⟩)
            clear f20
            refine ⟨rfl, _, _, _, rfl, f21, ap, ?_, ex, ed⟩
            have e22 : pushD (decide (0 < cnt)) last D (last + r) = D := by
              have e23 : lookD (decide (0 < cnt)) D (bl ((last + r) ^^^ last)) = D := by unfold lookD; rw [hn0]; dsimp only; rw [if_pos hf]
              unfold pushD setD
              rw [e23, hn0]
            rw [e22]; exact R20.nat
        case pb =>
          rintro s' ⟨h14, tk14, bk3, rfl, f14, ap3, R3, ex3, ed3⟩
          clear f13
          walk_at "go"
          refine comes_spec f14.B f14.keep (n := last + r) (l := base) (c := cnt) (by omega) ?_ ?_ ?_
          · show A.depth + 1 + 20 < _; omega
          · show A.units + 3 + 300 < _; omega
          intro h15 tk15 k15
          have f15 := f14.all k15
          clear f14
          walk_at "go"
          by_cases hcm : cnt = 0 ∨ (last + r) / 2 ^ (cnt - 1) = base / 2 ^ (cnt - 1)
          · rw [if_pos (by simpa using hcm)]
            walk_at "go"
            have hpl : hp.length ≤ rb (xs.take i) := by rw [I.hperm.length_eq]; exact I.len
            refine heappush_spec natV (ks := hp) (x := last + r) f15.B f15.keep (f15.at_ (.head _)) (f15.new_ (.head _)) rh ⟨t12, rfl⟩ (by omega) ?_ ?_ ?_
            · show A.depth + 1 + 2 < _; omega
            · show A.units + 3 + 40 < _; omega
            intro h16 tk16 vs16 c16 C16 hl16 R16
            have f16 := f15.chg (news' := [(hl, listOf vs16.toArray c16), (rl, listOf rv.toArray rc)] ++ bookN bk3) C16 ⟨_, .head _⟩ (fun q hq => by
              simp only [List.cons_append, List.nil_append, List.mem_cons] at hq
              rcases hq with rfl | rfl | hq
              · exact .inr ⟨hl16, .inl rfl⟩
              · exact .inl ⟨.tail _ (.head _), hr.symm⟩
              · exact .inl ⟨.tail _ (.tail _ hq), fun e => ap3 _ (.head _) q hq e.symm⟩)
            have ap16 : Apart [(hl, listOf vs16.toArray c16), (rl, listOf rv.toArray rc)] bk3 := by
              intro q hq q' hq' e
              simp only [List.mem_cons, List.not_mem_nil, or_false] at hq
              rcases hq with rfl | rfl
              · exact ap3 _ (.head _) q' hq' e
              · exact ap3 _ (.tail _ (.head _)) q' hq' e
            clear f15
            walk_at "go"
            refine ml_newK f16 (by simp) ?_
            intro l17 h17 f17 n17 k17
            walk_at "go"
            have rvl : rv.length ≤ rb (xs.take i) := by rw [rr.1]; exact I.len
            refine ml_add f17 (f17.at_ (.tail _ (.tail _ (.head _)))) (f17.at_ (.head _)) (by simp; omega) ?_
            intro l18 h18 f18 n18 k18
            walk_at "go"
            have R18 : RelL (natV.rel h18) (rv ++ [.int ((last + r : Nat) : Int) t12]) (row ++ [last + r]) := RelL.push rr ⟨t12, rfl⟩
            refine ml_sorted f18 (f18.at_ (.head _)) R18 (by have := I.len; simp; omega) ?_
            intro l19 h19 vs19 ks19 c19 f19 n19 R19 p19 s19 k19
            walk_at "go"
            rename_i h20 tk20 f20
            have f21 := f20.sub (news' := [(hl, listOf vs16.toArray c16), (l19, listOf vs19.toArray c19)] ++ bookN bk3) (fun q hq => by
              simp only [List.cons_append, List.nil_append, List.mem_cons] at hq ⊢
              rcases hq with h | h | h
              · exact .inr (.inr (.inr (.inl h)))
              · exact .inl h
              · exact .inr (.inr (.inr (.inr (.inr h)))))
            refine ⟨rfl, _, _, _, _, bk3, _, _, _, last, tl, hl, vs16, c16, l19, vs19, c19, rfl, f21, rfl, ?_, ?_, R3.nat, ex3, ed3, R16, R19, ?_, q1, q2, q3, q4, rfl, q6⟩
            · exact fun e => n19 _ (.tail _ (.tail _ (.head _))) e
            · intro q hq q' hq' e
              simp only [List.mem_cons, List.not_mem_nil, or_false] at hq
              rcases hq with rfl | rfl
              · exact ap3 _ (.head _) q' hq' e
              · exact n19 q' (.tail _ (.tail _ (.tail _ (.tail _ hq')))) e.symm
            · rw [rt]
              exact I.pushIn rfl (by omega) (by omega) (by omega) hcm p19 s19 (by omega) (by omega)
          · rw [if_neg (by simpa using hcm)]
            walk_at "go"
            have e22 := I.pushOut rfl hcm
            rw [e22] at R3
            exact ⟨rfl, _, _, _, _, bk3, D, hp, row, last, tl, hl, hv, hc, rl, rv, rc, rfl, f15, rfl, hr, ap3, R3.nat, ex3, ed3, rh, rr, I.mono (by omega) (by omega), q1, q2, q3, q4, q5, q6⟩
      · rw [if_neg (by simpa using hc0)]
        rw [if_neg hc0] at pt rt
        walk_at "go"
        obtain ⟨M, q1, q2, q3, q4, q5, q6, f13⟩ : ∃ M : Str → Option Value, M "book" = some (.ref bk.x) ∧ M "count" = some (.int ((cnt : Nat) : Int) t1) ∧ M "base" = some (.int ((base : Nat) : Int) t2) ∧ M "heap" = some (.ref hl) ∧ M "row" = some (.ref rl) ∧ M "last" = some (.int ((last : Nat) : Int) tl) ∧ FB w p loose mean mg mb g' L h8 M ([(hl, listOf hv.toArray hc), (rl, listOf rv.toArray rc)] ++ bookN bk') := by
          refine Exists.intro _ (And.intro ?_ (And.intro ?_ (And.intro ?_ (And.intro ?_ (And.intro ?_ (And.intro ?_ f8))))))
          · exact m1
          · exact m2
          · exact m3
          · exact m4
          · exact m5
          · exact m6
        clear f8
        refine ml_newK f13 (by simp) ?_
        intro l14 h14 f14 n14 k14
        refine ml_ne (f14.at_ (.tail _ (.tail _ (.head _)))) rr (f14.at_ (.head _)) (ms := []) RelL.nil ?_ ?_
        · show A.units + 3 + 64 < _; omega
        walk_at "go"
        have f15 := f14.sub (news' := [(hl, listOf hv.toArray hc), (rl, listOf rv.toArray rc)] ++ bookN bk') (fun q hq => .tail _ hq)
        clear f14 f13
        cases hrow : row with
        | nil =>
          subst hrow
          rw [if_neg (by simp)]
          walk_at "go"
          exact ⟨rfl, _, _, _, _, bk', D, hp, [], last, tl, hl, hv, hc, rl, rv, rc, rfl, f15, rfl, hr, ap, Rk.nat, ex, ed, rh, rr, (I.mono (by omega) (Nat.le_refl _)).skip, q1, q2, q3, q4, q5, q6⟩
        | cons y0 r0 =>
          rw [if_pos (by simp)]
          walk_at "go"
          subst hrow
          obtain ⟨s0, z0, z1, z2, z3⟩ := I.first (by simp)
          obtain ⟨y, k1, hp1, hp1l⟩ := hpop_some natV.lt z1
          have hplen : hp.length = r0.length + 1 := by rw [I.hperm.length_eq]; rfl
          obtain ⟨y2, hp2, hpp, _⟩ := hpop_some natV.lt (ks := hp) (by intro e; rw [e] at hplen; simp at hplen)
          have hpl : hp.length ≤ rb (xs.take i) := by rw [I.hperm.length_eq]; exact I.len
          have dl := I.dlen
          have ll := I.llen
          obtain ⟨e1, e2, eb, I2⟩ := I.take rfl (by omega) rfl z0 z1 z3 z2 hp1 hpp
          subst e2
          refine least_specX S f15.B f15.keep ex (fun q hq => ⟨f15.at_ (List.mem_append_right _ hq), f15.new_ (List.mem_append_right _ hq)⟩) Rk.nat Z8 z0 z1 (by omega) (by omega) (fun d hd => by have := ll d hd; omega) ?_ ?_ ?_ hp1 (fun n hn => by have := eb n hn; omega) ?_
          · show A.depth + 1 + 20 < _; omega
          · show A.units + 3 + 300 < _; omega
          · exact hh
          intro h16 tk16 t16 bk4 C16 n16 R16 ex4 ed4
          obtain ⟨f16, ap16, t16'⟩ := book_chgs (extra := [(hl, listOf hv.toArray hc), (rl, listOf rv.toArray rc)]) f15 ap C16 n16
          clear f15
          walk_at "go"
          (with_reducible rename FB _ _ _ _ _ _ _ _ _ _ _ => f17)
          clear f16
          obtain ⟨v0, hv0, t0, rfl⟩ := rr.get (i := 0) (k := y2) rfl
          have rvl : rv.length ≤ rb (xs.take i) := by rw [rr.1]; exact I.len
          refine ml_itemH (f17.at_ (.tail _ (.head _))) (by omega) (by omega) hv0 ?_ rfl
          walk_at "go"
          (with_reducible rename FB _ _ _ _ _ _ _ _ _ _ _ => f18)
          clear f17
          refine wpAny_Slice (evalPart_some_step ?_)
          walk_at "go"
          refine evalPart_none_step (evalPart_none_step ?_)
          refine ml_sliceT f18 (f18.at_ (.tail _ (.head _))) (.int 1 _) .none (by omega) ?_ (by with_unfolding_all rfl) (by intro _; with_unfolding_all rfl)
          intro l19 h19 f19 n19 k19
          have e19 : kms_pick rv (some 1) none = rv.drop 1 := by
            unfold kms_pick kms_lo kms_hi
            simp only [Int.reduceLT, if_false, show (1 : Int).toNat = 1 from rfl]
            have : min 1 rv.length = 1 := by have := rr.1; simp at this; omega
            rw [this, List.take_of_length_le (by simp)]
          rw [e19] at f19
          walk_at "go"
          (with_reducible rename FB _ _ _ _ _ _ _ _ _ _ _ => f20)
          clear f18 f19
          rw [e1, if_neg (by simp)]
          walk_at "go"
          refine heappop_spec natV (ks := hp) f20.B f20.keep (f20.at_ (.tail _ (.head _))) (f20.new_ (.tail _ (.head _))) rh hpp (by omega) ?_ ?_ ?_
          · show A.depth + 1 + 2 < _; omega
          · show A.units + 3 + 40 < _; omega
          intro h21 tk21 vs21 c21 v21 C21 hl21 R21 r21
          obtain ⟨t21, rfl⟩ := r21
          have f21 := f20.chg (news' := [(hl, listOf vs21.toArray c21), (l19, listOf (rv.drop 1).toArray 0)] ++ bookN bk4) C21 ⟨_, .tail _ (.head _)⟩ (fun q hq => by
            simp only [List.cons_append, List.nil_append, List.mem_cons] at hq
            rcases hq with rfl | rfl | hq
            · exact .inr ⟨hl21, .inl rfl⟩
            · exact .inl ⟨.head _, fun e => n19 _ (.head _) e.symm⟩
            · exact .inl ⟨.tail _ (.tail _ (.tail _ hq)), fun e => ap16 _ (.head _) q hq e.symm⟩)
          clear f20
          walk_at "go"
          rw [if_neg (by simp)]
          walk_at "go"
          rw [if_neg (by decide)]
          walk_at "go"
          subst e1
          have rd : RelL (natV.rel h21) (rv.drop 1) r0 := by
            refine ⟨by have := rr.1; simp at this ⊢; omega, fun j v k hv hk => rr.2 (j + 1) v k ?_ (by simpa using hk)⟩
            rw [List.getElem?_drop] at hv
            rw [Nat.add_comm]; exact hv
          refine ⟨rfl, _, _, _, _, bk4, _, hp2, r0, _, _, hl, vs21, c21, l19, rv.drop 1, 0, rfl, f21, rfl, ?_, ?_, R16.nat, ex4, ed4.trans ed, R21, rd, ?_, q1, q2, q3, q4, rfl, rfl⟩
          · exact fun e => n19 _ (.head _) e
          · intro q hq q' hq' e
            simp only [List.mem_cons, List.not_mem_nil, or_false] at hq
            rcases hq with rfl | rfl
            · exact ap16 _ (.head _) q' hq' e
            · exact n19 q' (.tail _ (.tail _ hq')) e.symm
          · rw [rt]
            exact I2.mono (by omega) (Nat.le_refl _)
    case two =>
      rintro s' ⟨h9, tk9, m9, news9, bk9, D9, hp9, row9, last9, tl9, hl9, hv9, hc9, rl9, rv9, rc9, rfl, f9, s9⟩
      obtain ⟨rfl, hr9, ap9, Rk9, ex9, ed9, rh9, rr9, I9, m91, m92, m93, m94, m95, m96⟩ := s9
      clear f8
      walk_at "go"
      have cne : ∀ q ∈ ([] : List (Addr × Obj)), ∀ vs, q.2 ≠ tupO vs := fun q hq => by cases hq
      obtain ⟨g10, f10, st10, ch10, t10⟩ := f9.rebase (news' := []) (fun q hq => by cases hq) cne
      have in10 : ∀ q ∈ [(hl9, listOf hv9.toArray hc9), (rl9, listOf rv9.toArray rc9)] ++ bookN bk9, g10.get? q.1 = some q.2 := fun q hq => ch10 _ _ (fun hm => by
        rw [List.map_nil, List.mem_singleton] at hm
        exact (f9.N q hq).2.1 hm) (f9.N q hq).1
      have Z10 : Dxf w g10 bk9 (decide (0 < cnt)) := by
        have := (Z1.keeps st8).keeps st10
        unfold Dxf at this ⊢
        rw [ex9, ed9]; exact this
      have pcl1 := pc_le xs (i + 1)
      have rbl := rb_le_pc (xs.take (i + 1)) 0 0 (Nat.le_refl _)
      have rbl : rb (xs.take (i + 1)) ≤ pc (xs.take (i + 1)) := rbl
      refine holds_specX S f10.B f10.keep ex9 (fun q hq => in10 q (List.mem_append_right _ hq)) Rk9.nat Z10 I9 (by omega) (by omega) (in10 _ (.tail _ (.head _))) rr9 ?_ ?_ ?_ ?_
      · show A.depth + 1 + 20 < _; omega
      · show A.units + 3 + 300 < _; omega
      · exact hh
      intro h11 tk11 k11
      have f11 := f9.all k11
      clear f9
      walk_at "go"
      rw [if_neg (by decide)]
      walk_at "go"
      exact ⟨_, _, _, _, rfl, f11, bk9, D9, hp9, row9, last9, tl9, hl9, hv9, hc9, rl9, rv9, rc9, rfl, hr9, ap9, Rk9.nat, ex9, ed9, rh9, rr9, I9, m91, m92, m93, m94, m95, m96⟩
  case fin =>
    rintro h8 tk8 m8 news8 ⟨bk', D, hp, row, last, tl, hl, hv, hc, rl, rv, rc, s⟩ f8
    obtain ⟨rfl, hr, ap, Rk, ex, ed, rh, rr, I, m1, m2, m3, m4, m5, m6⟩ := s
    dsimp only
    rw [show xs.take cv.length = xs by rw [sz]; exact List.take_length] at I
    walk_at "go"
    refine ml_newK f8 (by simp) ?_
    intro l9 h9 f9 n9 k9
    have row0 : row = [] := List.eq_nil_of_length_eq_zero (by have := I.len; rw [hrb] at this; omega)
    subst row0
    have hp0 : hp = [] := I.hperm.eq_nil
    subst hp0
    refine ml_eq (f9.at_ (.tail _ (.head _))) rh (f9.at_ (.head _)) (ms := []) RelL.nil ?_ ?_
    · show A.units + 3 + 64 < _; omega
    walk_at "go"
    refine q _ _ bk' D (ch_of hg f9) (fun q hq => ?_) Rk.nat I.good.keys (fun hc => I.keysF (by simpa using hc)) I.keysU ex ed
    have z := f9.N q (.tail _ (List.mem_append_right _ hq))
    refine ⟨z.1, ?_⟩
    by_cases hm : q.1 ∈ (bookN bk).map (·.1)
    · exact .inl hm
    · right
      cases e : h.get? q.1 with
      | none => rfl
      | some o =>
        have := hg _ _ hm e
        rw [z.2.2] at this; cases this
end
end
section
theorem Dxf.ch {w : World} {h g : Heap} {bk : BookV} {fr : Bool} {S : List Addr} (Z : Dxf w h bk fr) (C : Ch S h g) (h1 : bk.dx ∉ S) (h2 : ∀ a ∈ S, ∀ o, h.get? a = some o → (∃ es ep, o.data = .dict es ep) ∨ ∃ xs n, o.data = .seq xs n) : Dxf w g bk fr := by
  unfold Dxf at *
  cases fr with
  | false => simp only [Bool.false_eq_true, if_false] at *; exact C _ _ h1 Z
  | true =>
    simp only [if_true] at *
    obtain ⟨f, c', c, oc, vs, t, t3, n3, ctv, pm, cl, di, sl, p1, p2, p3, pp, qual, e1, e2, e3, e4, e5, r⟩ := Z
    refine ⟨f, c', c, oc, vs, t, t3, n3, ctv, pm, cl, di, sl, p1, p2, p3, pp, qual, C _ _ h1 e1, C _ _ (fun hm => ?_) e2, C _ _ (fun hm => ?_) e3, C _ _ (fun hm => ?_) e4, e5, r⟩
    · rcases h2 _ hm _ e2 with ⟨_, _, e⟩ | ⟨_, _, e⟩ <;> cases e
    · rcases h2 _ hm _ e3 with ⟨_, _, e⟩ | ⟨_, _, e⟩ <;> cases e
    · rcases h2 _ hm _ e4 with ⟨_, _, e⟩ | ⟨_, _, e⟩ <;> rw [e5] at e <;> cases e
theorem dx_ne_frame {w : World} {h : Heap} {bk : BookV} {fr : Bool} {L : Addr} {m : Str → Option Value} {v : Value} (Z : Dxf w h bk fr) (N : h.Ns L m) (hm : m "count" = some v) : bk.dx ≠ L := by
  obtain ⟨o, es, ep, hL, hd, _, hf⟩ := N
  intro e
  have hc := hf "count"
  rw [hm] at hc
  unfold Dxf at Z
  cases fr with
  | false =>
    simp only [Bool.false_eq_true, if_false] at Z
    rw [e, hL] at Z
    cases Z
    cases hd
    have : nsFind #[] "count" = none := rfl
    rw [this] at hc; cases hc
  | true =>
    simp only [if_true] at Z
    obtain ⟨f, c', c, oc, vs, t, t3, n3, ctv, pm, cl, di, sl, p1, p2, p3, pp, qual, e1, _⟩ := Z
    rw [e, hL] at e1
    cases e1
    cases hd
    have : nsFind (frozenEs w t3 (.ref f)) "count" = none := rfl
    rw [this] at hc; cases hc
local macro_rules | `(tactic| walk_at "m1") => `(tactic| first
  | (with_reducible refine seq_next ?_)
  | ((with_reducible refine' mw_local ?f ?v ?_ ?l ?k ?d); (case l => rfl); (case k => rfl); (case f => assumption); (case d => decide); (case v => first | rfl | assumption))
  | (with_reducible refine mw_cons ?_)
  | (with_reducible refine mw_nil ?_)
  | ((with_reducible refine' mw_asg ?_ ?s); (case s => rfl))
  | ((with_reducible refine' mw_st ?f ?_ ?l ?k); (case l => rfl); (case k => rfl); (case f => assumption); intro _ _ _)
  | ((with_reducible refine' mw_glob ?f ?e ?_ ?l ?k ?d ?g); (case l => rfl); (case k => rfl); (case f => assumption); (case e => k_is); (case d => decide); (case g => rfl))
  | ((with_reducible refine' mw_built ?f ?e ?v ?_ ?l ?k ?d ?g ?b ?n); (case l => rfl); (case k => rfl); (case f => assumption); (case e => k_is); (case v => boot_by_name); (case d => decide); (case g => rfl); (case b => rfl); (case n => decide))
  | ((with_reducible refine' mw_cell ?f ?c ?m ?_ ?l ?k ?d); (case l => rfl); (case k => rfl); (case f => assumption); (case c => rfl); (case m => k_mem); (case d => decide))
  | ((with_reducible refine' mw_free ?f ?c ?m ?_ ?l ?k ?d ?n); (case l => rfl); (case k => rfl); (case f => assumption); (case c => rfl); (case m => k_mem); (case d => decide); (case n => decide))
  | ((with_reducible refine mw_int ?_); intro _ _)
  | (with_reducible refine mw_bin ?_)
  | ((with_reducible refine mo_add ?_); intro _ _)
  | ((with_reducible refine mo_sub ?_); intro _ _)
  | ((with_reducible refine mo_iadd ?_); intro _ _)
  | ((with_reducible refine' mw_expr ?_ ?a ?b); (case a => rfl); (case b => rfl))
  | ((with_reducible refine' mw_call ?_ ?a); (case a => rfl))
  | (with_reducible refine mw_spn ?_)
  | ((with_reducible refine' mw_spc ?_ ?a); (case a => rfl))
  | ((with_reducible refine' mk_in ?f ?_); (case f => assumption))
  | ((with_reducible refine' mk_bi ?_ ?a ?b); (case a => rfl); (case b => rfl))
  | ((with_reducible refine' mk_def ?f ?k ?_ ?a ?b); (case f => assumption); (case k => k_is); (case a => rfl); (case b => rfl))
  | (with_reducible refine mw_if ?_)
  | ((with_reducible refine' mt_cmp ?_ ?a); (case a => rfl))
  | (with_reducible refine mt_bool ?_)
  | (with_reducible refine mc_lt ?_)
  | (with_reducible refine mc_gt ?_)
  | (with_reducible refine mc_eq ?_)
  | (with_reducible refine mc_ne ?_)
  | (with_reducible refine mc_le ?_)
  | (with_reducible refine mc_ge ?_)
  | (with_reducible refine mw_sub ?_)
  | ((with_reducible refine' mw_asgS ?_ ?s); (case s => rfl))
  | (with_reducible refine mw_ret ?_)
  | (with_reducible refine seq_ret ?_)
  | (with_reducible refine seq_brk ?_)
  | (with_reducible refine seq_cont ?_)
  | (with_reducible refine mw_brk ?_)
  | (with_reducible refine mw_cont ?_)
  | (with_reducible refine mt_and ?_)
  | (with_reducible refine mt_and0 ?_)
  | (with_reducible refine mt_or ?_)
  | (with_reducible refine mt_or0 ?_)
  | (with_reducible refine mt_not ?_)
  | (with_reducible refine mt_name ?_)
  | (with_reducible refine mt_call ?_)
  | (with_reducible refine mw_tuple ?_)
  | (with_reducible refine mw_list ?_)
  | ((with_reducible refine' mw_cmp ?_ ?a); (case a => rfl))
  | (with_reducible refine mw_un ?_)
  | ((with_reducible refine mo_neg ?_); intro _ _)
  | (with_reducible refine mo_not ?_)
  | (with_reducible refine mw_ifexp ?_)
  | (with_reducible refine mw_and ?_)
  | (with_reducible refine mw_or ?_)
  | (with_reducible refine mw_bone ?_)
  | (with_reducible refine mw_bool ?_)
  | ((with_reducible refine' ml_len ?f ?m ?z ?_); (case f => assumption); (case m => k_mem); (case z => (rw [sizeLine_eq]; omega)); intro _ _)
  | ((with_reducible refine' mo_shr1 ?z ?_); (case z => omega); intro _ _)
  | ((with_reducible refine' mk_meth ?_ ?a); (case a => rfl))
  | (with_reducible refine mk_m0 ?_)
  | ((with_reducible refine' mk_m1 ?_ ?a ?b); (case a => rfl); (case b => rfl))
  | ((with_reducible refine mw_aug ?_))
  | ((with_reducible refine' mw_ldl ?f ?v ?_ ?l ?k); (case l => rfl); (case k => rfl); (case f => assumption); (case v => first | rfl | assumption))
  | ((with_reducible refine' mw_ldc ?f ?c ?m ?_ ?l ?k); (case l => rfl); (case k => rfl); (case f => assumption); (case c => rfl); (case m => k_mem))
  | ((with_reducible refine' mw_stc ?f ?c ?u ?_ ?l ?k); (case l => rfl); (case k => rfl); (case f => assumption); (case c => rfl); (case u => k_upd); intro _ _))
local macro_rules | `(tactic| walk_at "go") => `(tactic| repeat' walk_at "m1")
local macro_rules | `(tactic| walk_at "goI") => `(tactic| repeat' ((fail_if_success (with_reducible show wpAny _ _ (exec (Stmt.If _ _ _ _) _) _ _ _)); walk_at "m1"))

section
variable {prog : Program} {w : World} {A : Around} {E : Value → Shared → Prop} {p : Program} {loose : List Str} {mean : ExcName → Option Value} {mg mb : Str → Option Value} {b h : Heap} {ge : Array GenState} {dr : Drawn} {tk : Nat} {os : OsState}
  {Q : Value → Shared → Prop}
/-- `_law_is_right` -/
theorem right_spec (S : SupOk prog) (B : Base w p loose mean mg mb b) (hb : b.StaysIn h) (htb : b.get? 85 = none) {ps : Array Value} (ht : h.get? 85 = some (tabObj ps)) {n base : Nat} {t1 t2 : Tok} (hp : 0 < n → ps = #[]) (hn : n ≤ 10) (hbase : base ≤ 63)
    {cl : Addr} {cv : List Value} {cc : Nat} {xs : List Int} (hcl : b.get? cl = some (listOf cv.toArray cc)) (hci : IntsAre cv xs) (hpc : pc xs ≤ 14) (hrb : rb xs = 0)
    (hd : A.depth + 60 < recursionLimit) (hu : A.units + 1000 < cLine) (hh : A.handled = none)
    (q : ∀ h' tk' ps', Ch [85] h h' → h'.get? 85 = some (tabObj ps') → (n = 0 → ps' = ps) → Q (.bool true) ⟨h', ge, dr, tk', os⟩) :
    wpAny (model prog w) A (call (.ref 140) [.int ((n : Nat) : Int) t1, .int ((base : Nat) : Int) t2, .ref cl]) Q E ⟨h, ge, dr, tk, os⟩ := by
  have BX := B.X
  refine' mk_enter (news := [(85, tabObj ps)]) (binds := [("count", .int ((n : Nat) : Int) t1), ("base", .int ((base : Nat) : Int) t2), ("calls", .ref cl)]) B hb ?k0 ?k6 ?k7 (by omega) ?k9 ?kB ?_ ?c2 ?c3 ?c4 ?c5
  case k0 =>
    intro q hq; rw [List.mem_singleton] at hq; subst hq
    exact ⟨ht, htb, tab_ne _⟩
  case k6 => k_is
  case k7 => k_is
  case k9 => exact fun _ => BindsTo.of_eq rfl
  case kB => exact locs rfl
  case c2 => exact rfl
  case c3 => exact rfl
  case c4 => exact rfl
  case c5 => decide
  intro g L h₁ tk₁ fb hg tg hbg
  clear BX
  have X := fb.B.X
  have hgcl := hbg _ _ hcl
  obtain ⟨M, f0, m1, m2, m3⟩ : ∃ M : Str → Option Value, FB w p loose mean mg mb g L h₁ M [(85, tabObj ps)] ∧ M "count" = some (.int ((n : Nat) : Int) t1) ∧ M "base" = some (.int ((base : Nat) : Int) t2) ∧ M "calls" = some (.ref cl) := ⟨_, fb, rfl, rfl, rfl⟩
  clear fb
  walk_at "go"
  refine lawbook_spec S f0.B f0.keep (f0.new_ (.head _)) (f0.at_ (.head _)) hp (by omega) ?_ ?_ ?_ ?_
  · show A.depth + 1 + 20 < _; omega
  · show A.units + 3 + 200 < _; omega
  · exact hh
  intro h2 tk2 bk ps' C2 ht2 hN2 R2 Z2 nd2 hps
  have n85 : ∀ q ∈ bookN bk, q.1 ≠ 85 := fun q hq e => by
    have := (hN2 q hq).2
    rw [e, f0.at_ (.head _)] at this; cases this
  have f2 : FB w p loose mean mg mb g L h2 M ([(85, tabObj ps')] ++ bookN bk) := f0.chgs C2 (fun a ha => ⟨tabObj ps, by rw [List.mem_singleton] at ha; subst ha; exact .head _⟩) fun q hq => by
    rcases List.mem_append.mp hq with hq | hq
    · rw [List.mem_singleton] at hq; subst hq
      exact .inr ⟨ht2, .inl (.head _)⟩
    · exact .inr ⟨(hN2 q hq).1, .inr (hN2 q hq).2⟩
  have dxL := dx_ne_frame Z2 f2.ns m1
  clear f0
  obtain ⟨g3, f3, st3, ch3, t3⟩ := f2.rebase (news' := bookN bk) (fun q hq => List.mem_append_right _ hq) (bookN_ne bk)
  have Z3 : Dxf w g3 bk (decide (0 < n)) := by
    refine Z2.ch ch3 (fun hm => ?_) (fun a ha o ho => ?_)
    · rcases List.mem_cons.mp hm with hm | hm
      · exact dxL hm
      · obtain ⟨q, hq, e⟩ := List.mem_map.mp hm
        exact nd2 q hq e
    · rcases List.mem_cons.mp ha with rfl | ha
      · obtain ⟨oL, es, ep, hL, hd', _⟩ := f2.ns
        rw [hL] at ho; cases ho
        exact .inl ⟨es, ep, hd'⟩
      · obtain ⟨q, hq, rfl⟩ := List.mem_map.mp ha
        rw [f3.at_ hq] at ho; cases ho
        rcases List.mem_cons.mp hq with rfl | hq
        · exact .inl ⟨_, _, rfl⟩
        · obtain ⟨r, _, rfl⟩ := List.mem_map.mp hq
          exact .inr ⟨_, _, rfl⟩
  have h85 : g3.get? 85 = some (tabObj ps') := by
    refine ch3 _ _ (fun hm => ?_) ht2
    rcases List.mem_cons.mp hm with hm | hm
    · exact (f2.N _ (.head _)).2.1 hm
    · obtain ⟨q, hq, e⟩ := List.mem_map.mp hm
      exact n85 q hq e
  have fin : ∀ h' tk', (∀ a o, g3.get? a = some o → h'.get? a = some o) → Q (.bool true) ⟨h', ge, dr, tk', os⟩ := fun h' tk' k =>
    q h' tk' ps' (fun a o na e => k _ _ (st3 _ _ (hg _ _ (by simpa using na) e))) (k _ _ h85) hps
  clear f2
  walk_at "go"
  (with_reducible rename FB _ _ _ _ _ _ _ _ _ _ _ => f4)
  obtain ⟨M, f4, m0, m1, m2, m3⟩ : ∃ M' : Str → Option Value, FB w p loose mean mg mb g3 L _ M' (bookN bk) ∧ M' "book" = some (.ref bk.x) ∧ M' "count" = some (.int ((n : Nat) : Int) t1) ∧ M' "base" = some (.int ((base : Nat) : Int) t2) ∧ M' "calls" = some (.ref cl) := ⟨_, f4, rfl, m1, m2, m3⟩
  refine run_spec S f4.B f4.keep (fun q hq => ⟨f4.at_ hq, f4.new_ hq⟩) R2.nat Z3 (st3 _ _ hgcl) hci hpc hrb hn hbase ?_ ?_ ?_ ?_
  · show A.depth + 1 + 40 < _; omega
  · show A.units + 3 + 600 < _; omega
  · exact hh
  intro h5 tk5 bk5 D5 C5 n5 R5 nd5 kF5 kU5 ex5 ed5
  obtain ⟨f5, -, t5⟩ := book_chgs (extra := []) f4 (fun q hq => by cases hq) C5 n5
  clear f4 f3
  replace f5 : FB w p loose mean mg mb g3 L h5 M (bookN bk5) := f5
  have dl5 : D5.length ≤ 10 := by
    have := nodup_len 10 _ nd5 fun x hx => by
      obtain ⟨d, hd, rfl⟩ := List.mem_map.mp hx
      have := kU5 d hd; omega
    simpa using this
  walk_at "go"
  rw [if_neg (by decide)]
  walk_at "go"
  by_cases hn0 : n = 0
  · subst hn0
    rw [if_pos (by simp)]
    walk_at "go"
    refine mw_comp (cl := []) ?_ ?clos (fun _ => rfl) rfl ?names
    case clos => rfl
    case names => decide
    walk_at "go"
    refine mk_ty ?_ rfl rfl
    walk_at "go"
    rw [← ex5]
    refine ml_listBook f5 R5.nat (f5.at_ (bookN_x bk5)) hh (by omega) ?_
    intro l6 h6 tk6 kv6 kc6 f6 n6 kr6 k6
    obtain ⟨g7, f7, st7, ch7, t7⟩ := f6.rebase (news' := []) (fun q hq => by cases hq) (fun q hq => by cases hq)
    have hl7 : g7.get? l6 = some (listOf kv6.toArray kc6) := ch7 _ _ (fun hm => by
      rw [List.map_nil, List.mem_singleton] at hm
      exact (f6.N _ (.head _)).2.1 hm) (f6.at_ (.head _))
    refine comp_list (env := envOf _ _ _ _ _) (by exact hh) (fun i h acc news => acc = [] ∧ news = []) (fun _ _ _ _ _ _ e => e) (fun _ _ _ _ e q hq => by rw [e.2] at hq; cases hq) (fun _ _ _ _ e => by rw [e.1]; exact Nat.zero_le _) (by rw [kr6.1, List.length_map]; omega) f7 hl7 ⟨rfl, rfl⟩ ?hcell ?hkind ?hk ?hp ?hloc ?turn ?fin
    case hcell => decide
    case hkind => rfl
    case hk => exact fun _ => rfl
    case hp => exact fun _ => rfl
    case hloc => exact fun _ => rfl
    case turn =>
      rintro i v g8 C h8 tk8 m8 acc news8 hv ⟨rfl, rfl⟩ f8 st8
      have hil := (List.getElem?_eq_some_iff.mp hv).1
      obtain ⟨d, hd⟩ : ∃ d, D5[i]? = some d := ⟨_, List.getElem?_eq_getElem (by rw [kr6.1, List.length_map] at hil; exact hil)⟩
      obtain ⟨td, rfl⟩ := kr6.2 i v d.1 hv (by rw [List.getElem?_map, hd]; rfl)
      have := kU5 d (List.mem_of_getElem? hd)
      refine tests_one ?_
      walk_at "go"
      rw [decide_eq_false (by omega), if_neg (by decide)]
      exact ⟨_, _, _, _, rfl, f8, rfl, rfl⟩
    case fin =>
      rintro Dl h9 tk9 acc c9 news9 ⟨rfl, rfl⟩ f9 n9
      walk_at "go"
      refine ml_newK f9 (by simp) ?_
      intro l10 h10 f10 n10 k10
      refine ml_eq (f10.at_ (.tail _ (.head _))) (ns := []) RelL.nil (f10.at_ (.head _)) (ms := []) RelL.nil ?_ ?_
      · show A.units + 3 + 64 < _; omega
      walk_at "go"
      exact fin _ _ fun a o e => f10.keep _ _ (st7 _ _ e)
  · rw [if_neg (by simpa using hn0)]
    walk_at "go"
    refine mk_ty ?_ rfl rfl
    walk_at "go"
    rw [← ex5]
    refine ml_listBook f5 R5.nat (f5.at_ (bookN_x bk5)) hh (by omega) ?_
    intro l6 h6 tk6 kv6 kc6 f6 n6 kr6 k6
    walk_at "go"
    refine mk_ty ?_ rfl rfl
    walk_at "go"
    refine mk_ty ?_ rfl rfl
    walk_at "go"
    refine mi_range f6 ?_
    intro r7 h7 tk7 u7 v7 f7 lr7
    walk_at "go"
    refine ml_listRange f7 hh (f7.at_ (.head _)) (by omega) ?_
    intro l8 h8 tk8 vs8 c8 f8 n8 k8 r8
    walk_at "go"
    refine ml_eq (f8.at_ (.tail _ (.tail _ (.head _)))) kr6 (f8.at_ (.head _)) r8 ?_ ?_
    · show A.units + 3 + 64 < _; omega
    rw [kF5 (by omega), decide_eq_true rfl]
    walk_at "go"
    exact fin _ _ fun a o e => f8.keep _ _ e
end
end
section
theorem fold_le (xs : List Int) : ∀ n, xs.foldl (fun n x => if 0 < x.fmod 3 then n + 1 else n) n ≤ n + xs.length := by
  induction xs with
  | nil => intro n; exact Nat.le_refl _
  | cons x xs ih =>
    intro n
    rw [List.foldl_cons, List.length_cons]
    have i2 := ih (if 0 < x.fmod 3 then n + 1 else n)
    have e : (if 0 < x.fmod 3 then n + 1 else n) ≤ n + 1 := by split <;> omega
    omega
theorem fold_le' (xs : List Int) : ∀ n, xs.foldl (fun n x => if 0 < x.fmod 3 then n + 1 else n - 1) n ≤ n + xs.length := by
  induction xs with
  | nil => intro n; exact Nat.le_refl _
  | cons x xs ih =>
    intro n
    rw [List.foldl_cons, List.length_cons]
    have i2 := ih (if 0 < x.fmod 3 then n + 1 else n - 1)
    have e : (if 0 < x.fmod 3 then n + 1 else n - 1) ≤ n + 1 := by split <;> omega
    omega
theorem calls_facts (ds : List Int) (h : ds.length ≤ 6) : pc ([10, 23, 5, 0, 7, 3] ++ ds ++ (List.replicate 10 [0]).flatten) ≤ 14 ∧ rb ([10, 23, 5, 0, 7, 3] ++ ds ++ (List.replicate 10 [0]).flatten) = 0 := by
  have h1 := fold_le ds 4
  have h2 := fold_le' ds 2
  constructor
  · unfold pc
    rw [List.foldl_append, List.foldl_append]
    have e : List.foldl (fun n (x : Int) => if 0 < x.fmod 3 then n + 1 else n) 0 [10, 23, 5, 0, 7, 3] = 4 := by decide
    rw [e]
    generalize List.foldl (fun n (x : Int) => if 0 < x.fmod 3 then n + 1 else n) 4 ds = k at *
    have e2 : List.foldl (fun n (x : Int) => if 0 < x.fmod 3 then n + 1 else n) k (List.replicate 10 [0]).flatten = k := by rfl
    rw [e2]; omega
  · unfold rb
    rw [List.foldl_append, List.foldl_append]
    have e : List.foldl (fun n (x : Int) => if 0 < x.fmod 3 then n + 1 else n - 1) 0 [10, 23, 5, 0, 7, 3] = 2 := by decide
    rw [e]
    generalize List.foldl (fun n (x : Int) => if 0 < x.fmod 3 then n + 1 else n - 1) 2 ds = k at *
    have e2 : List.foldl (fun n (x : Int) => if 0 < x.fmod 3 then n + 1 else n - 1) k (List.replicate 10 [0]).flatten = k - 1 - 1 - 1 - 1 - 1 - 1 - 1 - 1 - 1 - 1 := by rfl
    rw [e2]; omega
theorem ints_append {vs ws : List Value} {ns ms : List Int} (h1 : IntsAre vs ns) (h2 : IntsAre ws ms) : IntsAre (vs ++ ws) (ns ++ ms) := by
  induction h1 with
  | nil => exact h2
  | cons n t _ ih => exact .cons n t ih
section
variable {prog : Program} {w : World} {A : Around} {E : Value → Shared → Prop} {p : Program} {loose : List Str} {mean : ExcName → Option Value} {mg mb : Str → Option Value} {g h : Heap} {ge : Array GenState} {dr : Drawn} {tk : Nat} {os : OsState}
  {L : Addr} {m : Str → Option Value} {news : List (Addr × Obj)} {Q : Value → Shared → Prop}
theorem ml_sliceI {value slice : Expr} {l : Addr} {vs : List Value} {lo hi : Option Int} {vl vu : Value} (f : FB w p loose mean mg mb g L h m news) (hl : h.IsList l vs.toArray) (pl : IsPart vl lo) (pu : IsPart vu hi) (hz : vs.length ≤ 1000000)
    (q : ∀ D h', FB w p loose mean mg mb g L h' m ((D, listOf (kms_pick vs lo hi).toArray 0) :: news) → (∀ q ∈ news, q.1 ≠ D) → (∀ a o, h.get? a = some o → h'.get? a = some o) → Q (.ref D) ⟨h', ge, dr, tk, os⟩)
    (hs : subscripted slice false (.ref l) (.ref h.objs.size) = operate [.ref h.objs.size, .ref l] (getItem (.ref l) (.ref h.objs.size))) (ht : ∀ r, letTemporaryGo value (.ref l) r = pure ()) :
    wpAny (model prog w) A (subscriptTail value slice (.ref l) (.ref h.objs.size)) Q E ⟨h.push { cls := .type "slice", data := .fields #[vl, vu, .none] }, ge, dr, tk, os⟩ := by
  obtain ⟨f1, n1, k1⟩ := f.pushed { cls := .type "slice", data := .fields #[vl, vu, .none] }
  refine subscriptTail_ops (Heap.IsList.typeIs (s := ⟨h.push { cls := .type "slice", data := .fields #[vl, vu, .none] }, ge, dr, tk, os⟩) (hl.push _)) list_getitem_lookup
    (wpAny_getItem_list_slice (hl.push _) (Heap.IsSliceOf.new ..) pl pu .none (by simp) ?_ (by rw [sizeLine_eq]; simp; omega)) hs ht
  have e : slicePick vs.toArray lo hi none = (kms_pick vs lo hi).toArray := kms_pick_eq vs.toArray lo hi
  rw [e]
  obtain ⟨f2, n2, k2⟩ := f1.pushed (listOf (kms_pick vs lo hi).toArray 0)
  refine q _ _ (f2.sub fun q hq => ?_) (fun q hq => n2 q (.tail _ hq)) fun a o e => k2 _ _ (k1 _ _ e)
  rcases List.mem_cons.mp hq with rfl | hq
  · exact .head _
  · exact .tail _ (.tail _ hq)
end
theorem pick_upto (vs : List Value) (k : Nat) : kms_pick vs none (some (k : Int)) = vs.take k := by
  unfold kms_pick kms_lo kms_hi
  dsimp only
  rw [if_neg (by omega)]
  simp only [List.drop_zero, Nat.sub_zero, Int.toNat_natCast]
  by_cases h : k ≤ vs.length
  · rw [Nat.min_eq_left h]
  · rw [Nat.min_eq_right (by omega), List.take_of_length_le (Nat.le_refl _), List.take_of_length_le (by omega)]
theorem SupOk.of {prog : Program} (h1 : ((prog.main.file : Str) == Str.ofString "/claim/cut.py") = true) (h2 : (prog.main.scope.names.lookup ("super" : Str)).isSome = false) : SupOk prog := ⟨h1, h2⟩
theorem ints_rep10 (t : Tok) : IntsAre (List.replicate 10 [Value.int 0 t]).flatten (List.replicate 10 [(0 : Int)]).flatten :=
  .cons 0 t (.cons 0 t (.cons 0 t (.cons 0 t (.cons 0 t (.cons 0 t (.cons 0 t (.cons 0 t (.cons 0 t (.cons 0 t .nil)))))))))
theorem ints_six (a b c d e f : Tok) : IntsAre [Value.int 10 a, .int 23 b, .int 5 c, .int 0 d, .int 7 e, .int 3 f] [10, 23, 5, 0, 7, 3] := .cons _ _ (.cons _ _ (.cons _ _ (.cons _ _ (.cons _ _ (.cons _ _ .nil)))))
end
end Mine
open Mine
local macro_rules | `(tactic| walk_at "m1") => `(tactic| first
  | (with_reducible refine seq_next ?_)
  | ((with_reducible refine' mw_local ?f ?v ?_ ?l ?k ?d); (case l => rfl); (case k => rfl); (case f => assumption); (case d => decide); (case v => first | rfl | assumption))
  | (with_reducible refine mw_cons ?_)
  | (with_reducible refine mw_nil ?_)
  | ((with_reducible refine' mw_asg ?_ ?s); (case s => rfl))
  | ((with_reducible refine' mw_st ?f ?_ ?l ?k); (case l => rfl); (case k => rfl); (case f => assumption); intro _ _ _)
  | ((with_reducible refine' mw_glob ?f ?e ?_ ?l ?k ?d ?g); (case l => rfl); (case k => rfl); (case f => assumption); (case e => k_is); (case d => decide); (case g => rfl))
  | ((with_reducible refine' mw_built ?f ?e ?v ?_ ?l ?k ?d ?g ?b ?n); (case l => rfl); (case k => rfl); (case f => assumption); (case e => k_is); (case v => boot_by_name); (case d => decide); (case g => rfl); (case b => rfl); (case n => decide))
  | ((with_reducible refine' mw_cell ?f ?c ?m ?_ ?l ?k ?d); (case l => rfl); (case k => rfl); (case f => assumption); (case c => rfl); (case m => k_mem); (case d => decide))
  | ((with_reducible refine' mw_free ?f ?c ?m ?_ ?l ?k ?d ?n); (case l => rfl); (case k => rfl); (case f => assumption); (case c => rfl); (case m => k_mem); (case d => decide); (case n => decide))
  | ((with_reducible refine mw_int ?_); intro _ _)
  | (with_reducible refine mw_bin ?_)
  | ((with_reducible refine mo_add ?_); intro _ _)
  | ((with_reducible refine mo_sub ?_); intro _ _)
  | ((with_reducible refine mo_iadd ?_); intro _ _)
  | ((with_reducible refine' mw_expr ?_ ?a ?b); (case a => rfl); (case b => rfl))
  | ((with_reducible refine' mw_call ?_ ?a); (case a => rfl))
  | (with_reducible refine mw_spn ?_)
  | ((with_reducible refine' mw_spc ?_ ?a); (case a => rfl))
  | ((with_reducible refine' mk_in ?f ?_); (case f => assumption))
  | ((with_reducible refine' mk_bi ?_ ?a ?b); (case a => rfl); (case b => rfl))
  | ((with_reducible refine' mk_def ?f ?k ?_ ?a ?b); (case f => assumption); (case k => k_is); (case a => rfl); (case b => rfl))
  | (with_reducible refine mw_if ?_)
  | ((with_reducible refine' mt_cmp ?_ ?a); (case a => rfl))
  | (with_reducible refine mt_bool ?_)
  | (with_reducible refine mc_lt ?_)
  | (with_reducible refine mc_gt ?_)
  | (with_reducible refine mc_eq ?_)
  | (with_reducible refine mc_ne ?_)
  | (with_reducible refine mc_le ?_)
  | (with_reducible refine mc_ge ?_)
  | (with_reducible refine mw_sub ?_)
  | ((with_reducible refine' mw_asgS ?_ ?s); (case s => rfl))
  | (with_reducible refine mw_ret ?_)
  | (with_reducible refine seq_ret ?_)
  | (with_reducible refine seq_brk ?_)
  | (with_reducible refine seq_cont ?_)
  | (with_reducible refine mw_brk ?_)
  | (with_reducible refine mw_cont ?_)
  | (with_reducible refine mt_and ?_)
  | (with_reducible refine mt_and0 ?_)
  | (with_reducible refine mt_or ?_)
  | (with_reducible refine mt_or0 ?_)
  | (with_reducible refine mt_not ?_)
  | (with_reducible refine mt_name ?_)
  | (with_reducible refine mt_call ?_)
  | (with_reducible refine mw_tuple ?_)
  | (with_reducible refine mw_list ?_)
  | ((with_reducible refine' mw_cmp ?_ ?a); (case a => rfl))
  | (with_reducible refine mw_un ?_)
  | ((with_reducible refine mo_neg ?_); intro _ _)
  | (with_reducible refine mo_not ?_)
  | (with_reducible refine mw_ifexp ?_)
  | (with_reducible refine mw_and ?_)
  | (with_reducible refine mw_or ?_)
  | (with_reducible refine mw_bone ?_)
  | (with_reducible refine mw_bool ?_)
  | ((with_reducible refine' ml_len ?f ?m ?z ?_); (case f => assumption); (case m => k_mem); (case z => (rw [sizeLine_eq]; omega)); intro _ _)
  | ((with_reducible refine' mo_shr1 ?z ?_); (case z => omega); intro _ _)
  | ((with_reducible refine' mk_meth ?_ ?a); (case a => rfl))
  | (with_reducible refine mk_m0 ?_)
  | ((with_reducible refine' mk_m1 ?_ ?a ?b); (case a => rfl); (case b => rfl))
  | ((with_reducible refine mw_aug ?_))
  | ((with_reducible refine' mw_ldl ?f ?v ?_ ?l ?k); (case l => rfl); (case k => rfl); (case f => assumption); (case v => first | rfl | assumption))
  | ((with_reducible refine' mw_ldc ?f ?c ?m ?_ ?l ?k); (case l => rfl); (case k => rfl); (case f => assumption); (case c => rfl); (case m => k_mem))
  | ((with_reducible refine' mw_stc ?f ?c ?u ?_ ?l ?k); (case l => rfl); (case k => rfl); (case f => assumption); (case c => rfl); (case u => k_upd); intro _ _))
local macro_rules | `(tactic| walk_at "go") => `(tactic| repeat' walk_at "m1")
local macro_rules | `(tactic| walk_at "goI") => `(tactic| repeat' ((fail_if_success (with_reducible show wpAny _ _ (exec (Stmt.If _ _ _ _) _) _ _ _)); walk_at "m1"))

theorem PySem.Challenge.cw_in0187_02_holds : PySem.Challenge.rw_in0187_02.Holds := by
  refine Mine.hd ?_
  k_go0
  (with_reducible rename Fr _ _ _ _ => F0)
  (with_reducible rename News _ _ _ _ => N0)
  (with_reducible rename PyProof.Rows.Top topProg _ _ _ _ _ => T0)
  (with_reducible rename Frag.In _ _ => X0)
  (with_reducible rename ¬ _ < _ => hlen)
  (with_reducible rename IntsAre _ _ => hI0)
  (with_reducible rename _ = #[] => hg0)
  have f0 := FB.mk F0.ns F0.keep (Heap.get?_none_of_le F0.above) N0 (Base.mk X0 T0)
  rename_i w s0 s1 mg mb G Yh fa ob pm cd doc kV ho hcd V1 V2 T1 B1 TE1 TW1 xs hs lay hL hr lay2 u1 u2 sc vs u3 ra w1 r0 hr2 u4 u5 hD h1 K1 w9
  have S : SupOk PySem.Challenge.rw_in0187_02.row.prog := .of (by decide +kernel) (by decide +kernel)
  have hxl : xs.length ≤ 63 := by omega
  have hvl : vs.length = xs.length := hI0.length
  refine wpAny_mono (Q := fun fl s' => fl = Flow.ret (.bool true) ∧ (∀ b o, (ghostOf s1.heap [(89, 85)]).get? b = some o → s'.heap.get? b = some o) ∧ (∃ ps, s'.heap.get? 85 = some (tabObj ps)) ∧ s'.os = s1.os ∧ s'.gens = s1.gens) (E := fun _ _ => False) ?walk ?fin (fun _ _ e => e.elim)
  case fin =>
    rintro fl s' ⟨rfl, k, ⟨ps, hps⟩, e1, e2⟩
    refine ⟨⟨.inl ⟨_, .bool true, [], rfl, raisesW_false ?r1, .bool true, ?r2, unshared_nil⟩, k, e1, e2.trans hg0⟩, ⟨ps, hps⟩, True.intro⟩
    case r1 => wrow_none_raised
    case r2 => wrow_post
  case walk =>
    obtain ⟨M, f1, m1⟩ : ∃ M : Str → Option Value, FB w topProg _ _ mg mb (ghostOf s1.heap [(89, 85)]) s1.heap.objs.size h1 M [(85, tabObj #[])] ∧ M "script" = some (.ref sc) := ⟨_, f0, rfl⟩
    clear f0 F0
    walk_at "go"
    refine wpAny_Slice (evalPart_none_step (evalPart_some_step ?_))
    walk_at "go"
    refine evalPart_none_step ?_
    refine ml_sliceI f1 (lifted.at fun o e => f1.keep _ _ e) .none (.int 6 _) (by omega) ?_ (by with_unfolding_all rfl) (by intro _; with_unfolding_all rfl)
    intro l2 h2 f2 n2 k2
    have e2 : kms_pick vs none (some 6) = vs.take 6 := pick_upto vs 6
    rw [e2] at f2
    have i2 : IntsAre (vs.take 6) (xs.take 6) := hI0.take 6
    clear f1
    walk_at "go"
    rename_i h3 tk3 f3
    clear f2
    refine ml_sum f3 rfl (f3.at_ (.head _)) i2 ?_
    intro h4 tk4 t4 f4 k4
    clear f3
    walk_at "go"
    refine mo_mod (by decide) fun t5 tk5 => ?_
    obtain ⟨base, eb, hb63⟩ : ∃ r : Nat, ((xs.take 6).sum).fmod 64 = (r : Int) ∧ r ≤ 63 := by
      have h1 := Int.fmod_nonneg_of_pos (a := (xs.take 6).sum) (b := 64) (by decide)
      have h2 := Int.fmod_lt_of_pos ((xs.take 6).sum) (b := 64) (by decide)
      exact ⟨(((xs.take 6).sum).fmod 64).toNat, by omega, by omega⟩
    rw [eb]
    walk_at "go"
    rename_i h6 tk6 f6
    clear f4
    refine ml_sum f6 rfl (f6.at_ (.head _)) i2 ?_
    intro h7 tk7 t7 f7 k7
    clear f6
    walk_at "go"
    refine mo_fdiv (by decide) (by decide) fun t8 tk8 => ?_
    walk_at "go"
    refine mo_mod (by decide) fun t9 tk9 => ?_
    obtain ⟨c, ec, hc2⟩ : ∃ r : Nat, (((xs.take 6).sum).fdiv 64).fmod 3 = (r : Int) ∧ r ≤ 2 := by
      have h1 := Int.fmod_nonneg_of_pos (a := ((xs.take 6).sum).fdiv 64) (b := 3) (by decide)
      have h2 := Int.fmod_lt_of_pos (((xs.take 6).sum).fdiv 64) (b := 3) (by decide)
      exact ⟨((((xs.take 6).sum).fdiv 64).fmod 3).toNat, by omega, by omega⟩
    rw [ec]
    refine wpAny_mono (mw_int (q := ?_)) (fun _ _ x => x) (fun _ _ x => x)
    intro t10 tk10
    refine mo_addN (b := 3) fun t11 tk11 => ?_
    walk_at "go"
    (with_reducible rename FB _ _ _ _ _ _ _ _ _ _ _ => f12)
    clear f7
    refine ml_newK f12 (by simp) ?_
    intro l13 h13 f13 n13 k13
    clear f12
    walk_at "go"
    refine ml_add f13 (f13.at_ (.head _)) (f13.at_ (.tail _ (.head _))) (by simp; omega) ?_
    intro l14 h14 f14 n14 k14
    clear f13
    walk_at "go"
    refine ml_newK f14 (by simp) ?_
    intro l15 h15 f15 n15 k15
    clear f14
    walk_at "go"
    refine ml_mul (x := 10) f15 (f15.at_ (.head _)) (by simp) (by simp) (by decide) ?_
    intro l16 h16 f16 n16 k16
    clear f15
    refine ml_add f16 (f16.at_ (.tail _ (.tail _ (.head _)))) (f16.at_ (.head _)) (by simp; omega) ?_
    intro l17 h17 f17 n17 k17
    clear f16
    walk_at "go"
    (with_reducible rename FB _ _ _ _ _ _ _ _ _ _ _ => f18)
    clear f17
    have cf := calls_facts (xs.take 6) (by rw [List.length_take]; omega)
    obtain ⟨M2, f19, q1, q2, q3⟩ : ∃ M2 : Str → Option Value, FB w topProg _ _ mg mb (ghostOf s1.heap [(89, 85)]) s1.heap.objs.size _ M2 _ ∧ M2 "base" = some (.int ((base : Nat) : Int) t5) ∧ M2 "count" = some (.int ((c + 3 : Nat) : Int) t11) ∧ M2 "calls" = some (.ref l17) := ⟨_, f18, rfl, rfl, rfl⟩
    obtain ⟨g20, f20, st20, ch20, t20⟩ := f19.rebase (news' := [(85, tabObj #[])]) (fun q hq => by rw [List.mem_singleton] at hq; subst hq; exact .tail _ (.tail _ (.tail _ (.tail _ (.tail _ (.tail _ (.head _))))))) (fun q hq => by rw [List.mem_singleton] at hq; subst hq; exact tab_ne _)
    have n85 : l17 ≠ 85 := fun e => n17 _ (.tail _ (.tail _ (.tail _ (.tail _ (.tail _ (.head _)))))) e.symm
    have hcl := ch20 _ _ (fun hm => by
      rcases List.mem_cons.mp hm with hm | hm
      · exact (f19.N _ (.head _)).2.1 hm
      · rw [List.map_singleton, List.mem_singleton] at hm; exact n85 hm) (f19.at_ (.head _))
    have room : callerA.depth + 100 < recursionLimit := by decide
    have units : callerA.units + 1003 < cLine := by decide
    refine right_spec S f20.B f20.keep (f20.new_ (.head _)) (f20.at_ (.head _)) (n := 0) (fun e => absurd e (Nat.lt_irrefl _)) (by decide) hb63 hcl (ints_append (ints_append (ints_six _ _ _ _ _ _) i2) (ints_rep10 _)) cf.1 cf.2 ?_ ?_ rfl ?_
    · show callerA.depth + 1 + 60 < _; omega
    · show callerA.units + 3 + 1000 < _; omega
    intro h21 tk21 ps21 C21 ht21 e21
    have f21 : FB w topProg _ _ mg mb g20 s1.heap.objs.size h21 M2 [(85, tabObj ps21)] := f20.chgs C21 (fun a ha => ⟨tabObj #[], by rw [List.mem_singleton] at ha; subst ha; exact .head _⟩) fun q hq => by
      rw [List.mem_singleton] at hq; subst hq
      exact .inr ⟨ht21, .inl (.head _)⟩
    have e21 := e21 rfl
    subst e21
    clear f20 f19 f18
    walk_at "go"
    rw [if_pos rfl]
    walk_at "go"
    refine right_spec S f21.B f21.keep (f21.new_ (.head _)) (f21.at_ (.head _)) (n := c + 3) (fun _ => rfl) (by omega) hb63 hcl (ints_append (ints_append (ints_six _ _ _ _ _ _) i2) (ints_rep10 _)) cf.1 cf.2 ?_ ?_ rfl ?_
    · show callerA.depth + 1 + 60 < _; omega
    · show callerA.units + 3 + 1000 < _; omega
    intro h22 tk22 ps22 C22 ht22 e22
    refine ⟨rfl, fun b o e => C22 _ _ ?_ (f21.keep _ _ (st20 _ _ e)), ⟨ps22, ht22⟩, rfl, rfl⟩
    intro hm
    rw [List.mem_singleton] at hm; subst hm
    have := f21.new_ (.head _)
    rw [st20 _ _ e] at this; cases this
