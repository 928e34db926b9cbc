import PyProof.Rows.All
import Wide.All
import OpenK.AllK
import Wide.FinOn
import ObjForm.ListNI
import KE.KPop
import KE.KPopAny
import OpenK.KCell
import PyProof.CompFree
import KE.KSuper
import KE.KSuperObj
import KE.KBoundM
import KE.KLam
import KE.KNest
import PyProof.Rows.RuleB_small
import PyProof.Rows.RuleB_xor
import OpenK.KEqL
import KE.KSliceW
import PyProof.Rows.ListMul
import PyProof.Rows.ListMulCarried
import KE.LcSums
import KE.KSortTup
import KE.KSorted
import PySem.Challenge.RW_in0187_01
open PySem PySem.W PySem.Calls PyProof.Rows Builtin Builtin.ObjectAttr
set_option Elab.async false
set_option linter.unusedVariables false
set_option maxRecDepth 100000
set_option maxHeartbeats 8000000
namespace Mine
open_top hd for PySem.Challenge.rw_in0187_01
theorem fill : (PySem.Challenge.rw_in0187_01, hd.heap_39) = (PySem.Challenge.rw_in0187_01, hd.heap_39) := by k_fill; rfl
section
theorem bdk {a k j n m : Nat} (h : a + n < m) (hk : k + j ≤ n) : a + k + j < m := by (first | lia | omega)
/-- everything outside S stays -/
noncomputable def Ch (S : List Addr) (h h' : Heap) : Prop := ∀ a o, a ∉ S → h.get? a = some o → h'.get? a = some o
/-- a cell whose head isn't told -/
noncomputable abbrev cellW (cl : Value) (di : Option Addr) (sl : Array (Option Value)) (v : Option Value) : Obj := ⟨cl, di, .cell v, sl⟩
noncomputable abbrev tupO (vs : List Value) : Obj := { cls := .type "tuple", data := .seq vs.toArray }
/-- tuples stay -/
noncomputable def TK (h h' : Heap) : Prop := ∀ a vs, h.get? a = some (tupO vs) → h'.get? a = some (tupO vs)

theorem Ch.refl (S : List Addr) (h : Heap) : Ch S h h := fun _ _ _ e => e
theorem Ch.trans {S : List Addr} {a b c : Heap} (x : Ch S a b) (y : Ch S b c) : Ch S a c := fun q o n e => y q o n (x q o n e)
theorem Ch.mono {S T : List Addr} {a b : Heap} (x : Ch S a b) (h : ∀ q, q ∈ S → q ∈ T) : Ch T a b := fun q o n e => x q o (fun m => n (h q m)) e
theorem Ch.of_same {a : Addr} {h h' : Heap} (x : Heap.SameBut a h h') : Ch [a] h h' := fun q o n e => (x.2 q (by simpa using n)).trans e
theorem TK.refl (h : Heap) : TK h h := fun _ _ e => e
theorem TK.trans {a b c : Heap} (x : TK a b) (y : TK b c) : TK a c := fun q o e => y q o (x q o e)
theorem TK.of_keep {a b : Heap} (x : ∀ q o, a.get? q = some o → b.get? q = some o) : TK a b := fun q _ e => x q _ e
theorem TK.of_ch {S : List Addr} {a b : Heap} (x : Ch S a b) (h : ∀ q ∈ S, ∀ vs, a.get? q ≠ some (tupO vs)) : TK a b := fun q vs e => x q _ (fun m => h q m vs e) e

/-- a list of values bears a list of data -/
noncomputable def RelL {κ : Type} (R : Value → κ → Prop) (vs : List Value) (ks : List κ) : Prop :=
  vs.length = ks.length ∧ ∀ (i : Nat) (v : Value) (k : κ), vs[i]? = some v → ks[i]? = some k → R v k

section
variable {κ : Type} {R R' : Value → κ → Prop} {vs : List Value} {ks : List κ}
theorem RelL.mono (h : RelL R vs ks) (hr : ∀ v k, R v k → R' v k) : RelL R' vs ks := ⟨h.1, fun i v k a b => hr v k (h.2 i v k a b)⟩
theorem RelL.nil : RelL R [] [] := ⟨rfl, fun i v k a _ => by simp at a⟩
theorem RelL.get (h : RelL R vs ks) {i : Nat} {k : κ} (hk : ks[i]? = some k) : ∃ v, vs[i]? = some v ∧ R v k := by
  have hi : i < ks.length := (List.getElem?_eq_some_iff.mp hk).1
  have hi' : i < vs.length := h.1 ▸ hi
  exact ⟨vs[i], List.getElem?_eq_getElem hi', h.2 i _ _ (List.getElem?_eq_getElem hi') hk⟩
theorem RelL.set (h : RelL R vs ks) {i : Nat} {v : Value} {k : κ} (hr : R v k) : RelL R (vs.set i v) (ks.set i k) := by
  refine ⟨by simp [h.1], fun j v' k' a b => ?_⟩
  rw [List.getElem?_set] at a b
  by_cases e : i = j
  · subst e
    simp only [if_true] at a b
    split at a
    · split at b
      · cases a; cases b; exact hr
      · cases b
    · cases a
  · simp only [e, if_false] at a b
    exact h.2 j v' k' a b
theorem RelL.push (h : RelL R vs ks) {v : Value} {k : κ} (hr : R v k) : RelL R (vs ++ [v]) (ks ++ [k]) := by
  refine ⟨by simp [h.1], fun j v' k' a b => ?_⟩
  by_cases e : j < vs.length
  · rw [List.getElem?_append_left e] at a
    rw [List.getElem?_append_left (h.1 ▸ e)] at b
    exact h.2 j v' k' a b
  · have e' : vs.length ≤ j := Nat.le_of_not_lt e
    rw [List.getElem?_append_right e'] at a
    rw [List.getElem?_append_right (h.1 ▸ e')] at b
    rw [h.1] at a
    cases hj : j - ks.length with
    | zero => rw [hj] at a b; cases a; cases b; exact hr
    | succ n => rw [hj] at a; simp at a
theorem RelL.take (h : RelL R vs ks) (n : Nat) : RelL R (vs.take n) (ks.take n) := by
  refine ⟨by simp [h.1], fun j v' k' a b => ?_⟩
  rw [List.getElem?_take] at a b
  split at a
  · rename_i hj
    rw [if_pos hj] at b
    exact h.2 j v' k' a b
  · cases a
theorem RelL.dropLast (h : RelL R vs ks) : RelL R vs.dropLast ks.dropLast := by
  rw [List.dropLast_eq_take, List.dropLast_eq_take, ← h.1]; exact h.take _
theorem RelL.cons {v : Value} {k : κ} (hr : R v k) (h : RelL R vs ks) : RelL R (v :: vs) (k :: ks) := by
  refine ⟨by simp [h.1], fun j v' k' a b => ?_⟩
  cases j with
  | zero => cases a; cases b; exact hr
  | succ j => exact h.2 j v' k' (by simpa using a) (by simpa using b)
end

/-- values in an order that the program's < tells -/
structure Ordv (κ : Type) where
  rel : Heap → Value → κ → Prop
  lt : κ → κ → Bool
  keep : ∀ {h h' : Heap} {v : Value} {k : κ}, TK h h' → rel h v k → rel h' v k
  cmp : ∀ {prog : Program} {w : World} {A : Around} {E : Value → Shared → Prop} {s : Shared} {a b : Value} {x y : κ} {Q : Value → Shared → Prop},
    A.units < cLine → rel s.heap a x → rel s.heap b y → Q (.bool (lt x y)) s → wpAny (model prog w) A (compareOp .Lt a b) Q E s

/-- the ground: the text's objects and the top -/
structure Base (w : World) (p : Program) (loose : List Str) (mean : ExcName → Option Value) (mg mb : Str → Option Value) (b : Heap) : Prop where
  X : (hd.heap_39 w.params).In b
  T : Top p loose mean mg mb b

section
variable {w : World} {p : Program} {loose : List Str} {mean : ExcName → Option Value} {mg mb : Str → Option Value} {b h : Heap}
theorem Base.keeps (B : Base w p loose mean mg mb b) (k : b.StaysIn h) : Base w p loose mean mg mb h := ⟨B.X.keeps k, B.T.keeps k⟩
end

section
variable {prog : Program} {w : World} {A : Around} {E : Value → Shared → Prop} {s : Shared} {env : Env} {Q : Flow → Shared → Prop}
theorem while_ind {test : Expr} {body : List Stmt} {pos : Pos} (I : Nat → Shared → Prop)
    (turn : ∀ n s, I n s → wpAny (model prog w) A (isTrue test env (eval test env)) (fun b s₂ =>
      if b = true then wpAny (model prog w) A (execs body env) (fun f s₃ => match f with
          | .next | .cont => ∃ m, m < n ∧ I m s₃
          | .brk => Q .next s₃
          | .ret v => Q (.ret v) s₃) (fun _ _ => False) s₂
      else Q .next s₂) (fun _ _ => False) s)
    (n : Nat) (h : I n s) : wpAny (model prog w) A (exec (.While test body [] pos) env) Q E s := by
  refine wpAny_While (codeAny_whileLoop I (fun n s' hI => ?_) n h)
  refine wpAny_mono (turn n s' hI) (fun b s₂ h₂ => ?_) fun _ _ x => x.elim
  cases b with
  | false =>
    simp only [Bool.false_eq_true, if_false] at h₂ ⊢
    exact wpAny_execs_nil h₂
  | true =>
    simp only [if_true] at h₂ ⊢
    exact wpAny_mono h₂ (fun f s₃ h₃ => by cases f <;> exact h₃) fun _ _ x => x.elim
/-- the walk's end behind a name, so that a long one isn't written out at each step -/
theorem wpHide {α : Type} {M : Model} {A : Around} {x : Sem α} {Q : α → Shared → Prop} {E : Value → Shared → Prop} {s : Shared} (q : ∀ Q' : α → Shared → Prop, (∀ v s', Q v s' → Q' v s') → wpAny M A x Q' E s) : wpAny M A x Q E s := q Q fun _ _ h => h
theorem next_cut {st : Stmt} (Y : Shared → Prop) (h1 : wpAny (model prog w) A (exec st env) (fun f s' => f = .next ∧ Y s') (fun _ _ => False) s) (h2 : ∀ s', Y s' → Q .next s') :
    wpAny (model prog w) A (exec st env) Q E s := wpAny_mono h1 (fun f s' h => by rw [h.1]; exact h2 s' h.2) fun _ _ x => x.elim
theorem while_cut {test : Expr} {body : List Stmt} {pos : Pos} (I : Nat → Shared → Prop) (X : Shared → Prop)
    (turn : ∀ n s, I n s → wpAny (model prog w) A (isTrue test env (eval test env)) (fun b s₂ =>
      if b = true then wpAny (model prog w) A (execs body env) (fun f s₃ => match f with
          | .next | .cont => ∃ m, m < n ∧ I m s₃
          | .brk => X s₃
          | .ret v => Q (.ret v) s₃) (fun _ _ => False) s₂
      else X s₂) (fun _ _ => False) s)
    (n : Nat) (h : I n s) (fin : ∀ s', X s' → Q .next s') : wpAny (model prog w) A (exec (.While test body [] pos) env) Q E s := by
  refine while_ind I (fun n s' hI => wpAny_mono (turn n s' hI) (fun b s₂ h₂ => ?_) fun _ _ x => x) n h
  cases b with
  | false =>
    simp only [Bool.false_eq_true, if_false] at h₂ ⊢
    exact fin _ h₂
  | true =>
    simp only [if_true] at h₂ ⊢
    exact wpAny_mono h₂ (fun f s₃ h₃ => by cases f <;> first | exact h₃ | exact fin _ h₃) fun _ _ x => x
end

/-- the frame, the ledger, the ground -/
structure FB (w : World) (p : Program) (loose : List Str) (mean : ExcName → Option Value) (mg mb : Str → Option Value) (g : Heap) (L : Addr) (h : Heap) (m : Str → Option Value) (news : List (Addr × Obj)) : Prop where
  ns : h.Ns L m
  keep : ∀ a o, g.get? a = some o → h.get? a = some o
  out : g.get? L = none
  N : ∀ q ∈ news, h.get? q.1 = some q.2 ∧ q.1 ≠ L ∧ g.get? q.1 = none
  B : Base w p loose mean mg mb g

section
variable {w : World} {p : Program} {loose : List Str} {mean : ExcName → Option Value} {mg mb : Str → Option Value} {g g' h h' : Heap} {L l : Addr} {m m' : Str → Option Value} {news news' : List (Addr × Obj)} {o o' : Obj}
theorem FB.at_ (f : FB w p loose mean mg mb g L h m news) {a : Addr} {o : Obj} (hm : (a, o) ∈ news) : h.get? a = some o := (f.N _ hm).1
theorem FB.new_ (f : FB w p loose mean mg mb g L h m news) {a : Addr} {o : Obj} (hm : (a, o) ∈ news) : g.get? a = none := (f.N _ hm).2.2
theorem FB.ch (f : FB w p loose mean mg mb g L h m news) (C : Ch [l] h h') (U : Upd l o o' news news') (ho : h'.get? l = some o') : FB w p loose mean mg mb g L h' m news' := by
  obtain ⟨pre, post, rfl, rfl, h1, h2⟩ := U.split
  have z := f.N (l, o) (List.mem_append_right _ (.head _))
  obtain ⟨oL, es, ep, hL, r⟩ := f.ns
  refine ⟨⟨oL, es, ep, C _ _ (by simpa using Ne.symm z.2.1) hL, r⟩, fun b x e => C _ _ (by rw [List.mem_singleton]; rintro rfl; rw [z.2.2] at e; cases e) (f.keep b x e), f.out, fun p hp => ?_, f.B⟩
  rcases List.mem_append.mp hp with hp | hp
  · have y := f.N p (List.mem_append_left _ hp)
    exact ⟨C _ _ (by simpa using h1 p hp) y.1, y.2⟩
  · rcases List.mem_cons.mp hp with rfl | hp
    · exact ⟨ho, z.2⟩
    · have y := f.N p (List.mem_append_right _ (.tail _ hp))
      exact ⟨C _ _ (by simpa using h2 p hp) y.1, y.2⟩
theorem FB.loc (f : FB w p loose mean mg mb g L h m news) (hn : h'.Ns L m') (hs : Heap.SameBut L h h') : FB w p loose mean mg mb g L h' m' news :=
  ⟨hn, fun a x e => (hs.2 a (by rintro rfl; rw [f.out] at e; cases e)).trans (f.keep a x e), f.out, fun q hq => ⟨(hs.2 _ (f.N q hq).2.1).trans (f.N q hq).1, (f.N q hq).2⟩, f.B⟩
theorem FB.all (f : FB w p loose mean mg mb g L h m news) (k : ∀ a o, h.get? a = some o → h'.get? a = some o) : FB w p loose mean mg mb g L h' m news :=
  ⟨f.ns.keeps k, fun a x e => k _ _ (f.keep a x e), f.out, fun q hq => ⟨k _ _ (f.N q hq).1, (f.N q hq).2⟩, f.B⟩
theorem FB.sub (f : FB w p loose mean mg mb g L h m news) (k : ∀ q ∈ news', q ∈ news) : FB w p loose mean mg mb g L h m news' :=
  ⟨f.ns, f.keep, f.out, fun q hq => f.N q (k q hq), f.B⟩
theorem FB.cons (f : FB w p loose mean mg mb g L h m news) (ho : h.get? l = some o) (hL : l ≠ L) (hg : g.get? l = none) : FB w p loose mean mg mb g L h m ((l, o) :: news) :=
  ⟨f.ns, f.keep, f.out, fun q hq => by rcases List.mem_cons.mp hq with rfl | hq; exact ⟨ho, hL, hg⟩; exact f.N q hq, f.B⟩
theorem FB.push (f : FB w p loose mean mg mb g L h m news) (o : Obj) (hf : o.isFreed = false := by rfl) : FB w p loose mean mg mb g L (h.push o) m ((h.objs.size, o) :: news) := by
  obtain ⟨oL, _, _, hL, _⟩ := f.ns
  refine (f.all fun a x e => Heap.get?_push_of_some _ e).cons (Heap.get?_push_size _ hf) (Nat.ne_of_gt (Heap.lt_size hL)) ?_
  cases hq : g.get? h.objs.size with
  | none => rfl
  | some o' => exact absurd (Heap.lt_size (f.keep _ _ hq)) (Nat.lt_irrefl _)
theorem FB.lt (f : FB w p loose mean mg mb g L h m news) : ∀ q ∈ news, q.1 < h.objs.size := fun q hq => Heap.lt_size (f.N q hq).1
theorem FB.back (f : FB w p loose mean mg mb g' L h m news) (k : g.StaysIn g') (B : Base w p loose mean mg mb g) : FB w p loose mean mg mb g L h m news :=
  have none_ : ∀ a, g'.get? a = none → g.get? a = none := fun a e => by
    cases q : g.get? a with
    | none => rfl
    | some o => rw [k a o q] at e; cases e
  ⟨f.ns, fun a o e => f.keep a o (k a o e), none_ _ f.out, fun q hq => ⟨(f.N q hq).1, (f.N q hq).2.1, none_ _ (f.N q hq).2.2⟩, B⟩
theorem FB.rebase (f : FB w p loose mean mg mb g L h m news) (hs : ∀ q ∈ news', q ∈ news) (hnt : ∀ q ∈ news', ∀ vs, q.2 ≠ tupO vs) :
    ∃ g', FB w p loose mean mg mb g' L h m news' ∧ g.StaysIn g' ∧ Ch (L :: news'.map (·.1)) h g' ∧ TK h g' := by
  have out : ∀ a, g.get? a ≠ none → a ∉ L :: news'.map (·.1) := fun a e hm => by
    rcases List.mem_cons.mp hm with rfl | hm
    · exact e f.out
    · obtain ⟨q, hq, rfl⟩ := List.mem_map.mp hm
      exact e (f.N q (hs q hq)).2.2
  have st : g.StaysIn (hideAll h (L :: news'.map (·.1))) := fun a o e => hideAll_get _ (f.keep a o e) (out a (by rw [e]; simp))
  refine ⟨hideAll h (L :: news'.map (·.1)), ⟨f.ns, fun a o e => of_hideAll _ e, hideAll_none _ (.head _), fun q hq => ⟨(f.N q (hs q hq)).1, (f.N q (hs q hq)).2.1, hideAll_none _ (.tail _ (List.mem_map_of_mem hq))⟩, f.B.keeps st⟩, st,
    fun a o n e => hideAll_get _ e n, fun a vs e => hideAll_get _ e fun hm => ?_⟩
  rcases List.mem_cons.mp hm with rfl | hm
  · obtain ⟨oL, es, ep, hL, hd, _⟩ := f.ns
    rw [e] at hL; cases hL; cases hd
  · obtain ⟨q, hq, rfl⟩ := List.mem_map.mp hm
    have z := (f.N q (hs q hq)).1
    rw [e] at z
    exact hnt q hq vs (Option.some.inj z).symm
end

section
variable {prog : Program} {w : World} {A : Around} {E : Value → Shared → Prop} {p : Program} {loose : List Str} {mean : ExcName → Option Value} {mg mb : Str → Option Value} {b h : Heap} {ge : Array GenState} {dr : Drawn} {tk : Nat} {os : OsState}
  {name qual : Str} {params : Arguments} {body : List Stmt} {scope : Scope} {dV kV doc pm cdv ct oc : Value} {an od : Option Addr} {osl : Array (Option Value)} {f : Addr} {vals : List Value} {binds : List (Str × Value)} {news : List (Addr × Obj)} {Q : Value → Shared → Prop}

theorem hide_base (B : Base w p loose mean mg mb b) (hb : b.StaysIn h) (N : ∀ q ∈ news, h.get? q.1 = some q.2 ∧ b.get? q.1 = none ∧ ∀ vs, q.2 ≠ tupO vs) :
    b.StaysIn (hideAll h (news.map (·.1))) ∧ Base w p loose mean mg mb (hideAll h (news.map (·.1))) ∧ TK h (hideAll h (news.map (·.1))) := by
  have st : b.StaysIn (hideAll h (news.map (·.1))) := fun a o e => hideAll_get _ (hb a o e) fun q => by
    obtain ⟨p, hp, e2⟩ := List.mem_map.mp q
    rw [← e2, (N p hp).2.1] at e; cases e
  refine ⟨st, B.keeps st, fun a vs e => hideAll_get _ e fun m => ?_⟩
  obtain ⟨q, hq, e2⟩ := List.mem_map.mp m
  have z := N q hq
  rw [e2, e] at z
  exact z.2.2 vs (Option.some.inj z.1).symm

/-- a def of the text is called: its frame stands over what stays -/
theorem mk_enter (B : Base w p loose mean mg mb b) (hb : b.StaysIn h) (N : ∀ q ∈ news, h.get? q.1 = some q.2 ∧ b.get? q.1 = none ∧ ∀ vs, q.2 ≠ tupO vs)
    (ho : (hd.heap_39 w.params).lookup f = some ⟨oc, od, .func (fnOf name qual params body scope dV kV doc pm an cdv ct), osl⟩) (hcd : codeIn (hd.heap_39 w.params) cdv qual = true) (hroom : A.depth < recursionLimit)
    (hbind : ∀ s, BindsTo s (fnOf name qual params body scope dV kV doc pm an cdv ct) ⟨vals, []⟩ binds) (hloc : ∀ y ∈ binds, scope.names.lookup y.1 = some .local)
    (q : ∀ g L h₁ tk', FB w p loose mean mg mb g L h₁ (fun y => binds.reverse.lookup y) news → Ch (news.map (·.1)) h g → TK h g → b.StaysIn g →
      wpAny (model prog w) (A.deeper (envOf qual scope L f cdv)) (execs body (envOf qual scope L f cdv))
        (fun fl s' => Q (match fl with | .ret v => v | _ => .none) s') (fun _ _ => False) ⟨h₁, ge, dr, tk', os⟩)
    (hco : scope.isCoroutine = false) (hgen : scope.isGenerator = false) (hk : scope.kind = .function)
    (hcell : ∀ x ∈ scope.names, x.2 ≠ .cell) : wpAny (model prog w) A (call (.ref f) vals) Q E ⟨h, ge, dr, tk, os⟩ := by
  have BH := B.keeps hb
  obtain ⟨st, Bg, tg⟩ := hide_base B hb N
  refine wpAny_call (codeAny_call_def (fd := fnOf name qual params body scope dV kV doc pm an cdv ct) (body := body) (binds := binds) hroom (BH.X _ _ ho) rfl BH.T.nolimit (codeRec_of BH.X hcd) rfl (hbind _) hcell hloc (fun h₁ hns hk₁ => ?_) hco hgen hk)
  refine wpAny_mono (q (hideAll h (news.map (·.1))) h.objs.size h₁ _ ⟨hns, fun a o e => hk₁ a o (of_hideAll _ e), ?_, fun q hq => ⟨hk₁ _ _ (N q hq).1, Nat.ne_of_lt (Heap.lt_size (N q hq).1), hideAll_none _ (List.mem_map_of_mem hq)⟩, Bg⟩ (fun a o ha e => hideAll_get _ e ha) tg st) (fun _ _ x => x) fun _ _ x => x.elim
  cases e : (hideAll h (news.map (·.1))).get? h.objs.size with
  | none => rfl
  | some o => exact absurd (Heap.lt_size (of_hideAll _ e)) (Nat.lt_irrefl _)
end

theorem cells_one {cm : Str → Option Value} {n : Str} {c : Addr} {cells : List (Addr × Obj)} (x : CellsAre cm [(n, c)] cells) : ∃ cl di sl, cells = [(c, cellW cl di sl (cm n))] := by
  obtain ⟨⟨cl, di, da, sl⟩, rfl, hd⟩ := x.one
  dsimp only at hd
  subst hd
  exact ⟨cl, di, sl, rfl⟩
theorem cells_two {cm : Str → Option Value} {n n' : Str} {c c' : Addr} {cells : List (Addr × Obj)} (x : CellsAre cm [(n, c), (n', c')] cells) : ∃ cl di sl cl' di' sl', cells = [(c, cellW cl di sl (cm n)), (c', cellW cl' di' sl' (cm n'))] := by
  obtain ⟨⟨cl, di, da, sl⟩, ⟨cl', di', da', sl'⟩, rfl, hd, hd'⟩ := x.two
  dsimp only at hd hd'
  subst hd hd'
  exact ⟨cl, di, sl, cl', di', sl', rfl⟩
theorem cells_three {cm : Str → Option Value} {n n' n'' : Str} {c c' c'' : Addr} {cells : List (Addr × Obj)} (x : CellsAre cm [(n, c), (n', c'), (n'', c'')] cells) : ∃ cl di sl cl' di' sl' cl'' di'' sl'', cells = [(c, cellW cl di sl (cm n)), (c', cellW cl' di' sl' (cm n')), (c'', cellW cl'' di'' sl'' (cm n''))] := by
  obtain ⟨⟨cl, di, da, sl⟩, ⟨cl', di', da', sl'⟩, ⟨cl'', di'', da'', sl''⟩, rfl, hd, hd', hd''⟩ := x.three
  dsimp only at hd hd' hd''
  subst hd hd' hd''
  exact ⟨cl, di, sl, cl', di', sl', cl'', di'', sl'', rfl⟩
section
variable {prog : Program} {w : World} {A : Around} {E : Value → Shared → Prop} {p : Program} {loose : List Str} {mean : ExcName → Option Value} {mg mb : Str → Option Value} {b h : Heap} {ge : Array GenState} {dr : Drawn} {tk : Nat} {os : OsState}
  {name qual : Str} {params : Arguments} {body : List Stmt} {scope : Scope} {dV kV doc pm cdv ct oc : Value} {an od : Option Addr} {osl : Array (Option Value)} {f : Addr} {vals : List Value} {binds : List (Str × Value)} {news : List (Addr × Obj)} {Q : Value → Shared → Prop}
/-- a def with cells is called -/
theorem mk_enterC (B : Base w p loose mean mg mb b) (hb : b.StaysIn h) (N : ∀ q ∈ news, h.get? q.1 = some q.2 ∧ b.get? q.1 = none ∧ ∀ vs, q.2 ≠ tupO vs)
    (ho : (hd.heap_39 w.params).lookup f = some ⟨oc, od, .func (fnX name qual params body scope [] dV kV doc pm an cdv ct), osl⟩) (hcd : codeIn (hd.heap_39 w.params) cdv qual = true) (hroom : A.depth < recursionLimit)
    (hbind : ∀ s, BindsTo s (fnX name qual params body scope [] dV kV doc pm an cdv ct) ⟨vals, []⟩ binds)
    (hkind : ∀ n, ∀ x ∈ binds, scope.names.lookup x.1 = some .local ∨ (scope.names.lookup x.1 = some .cell ∧ ((cellsFrom n scope.names []).lookup x.1).isSome = true))
    (hnd : ((cellsFrom 0 scope.names []).map (·.1)).Nodup)
    (q : ∀ g L h₁ tk' cells, FB w p loose mean mg mb g L h₁ (bindL (envOfC qual scope L f cdv).kindOf binds fun _ => none) (cells ++ news) → CellsAre (bindC (envOfC qual scope L f cdv).kindOf binds fun _ => none) (cellsFrom (L + 1) scope.names []) cells →
      Ch (news.map (·.1)) h g → TK h g → b.StaysIn g →
      wpAny (model prog w) (A.deeper (envOfC qual scope L f cdv)) (execs body (envOfC qual scope L f cdv))
        (fun fl s' => Q (match fl with | .ret v => v | _ => .none) s') (fun _ _ => False) ⟨h₁, ge, dr, tk', os⟩)
    (hco : scope.isCoroutine = false) (hgen : scope.isGenerator = false) (hk : scope.kind = .function) : wpAny (model prog w) A (call (.ref f) vals) Q E ⟨h, ge, dr, tk, os⟩ := by
  have BH := B.keeps hb
  obtain ⟨st, Bg, tg⟩ := hide_base B hb N
  refine wpAny_call (codeAny_call_function hroom (BH.X _ _ ho) rfl hco hgen rfl (codeRec_of BH.X hcd) (hbind _ _ _ _ _ ?_))
  refine wpAny_newFunctionEnv_cells hk (hkind _) fun env' he s' x => ?_
  subst he
  refine ⟨BH.T.nolimit.keeps x.toInCall.keep, codeAny_func ?_⟩
  obtain ⟨h₁, tk, rfl, _⟩ := x.done
  have hk₁ := x.toInCall.keep
  obtain ⟨cells, NC, Y⟩ := Cl.news (h₀ := h) (Nat.le_refl _) fun n c hm => ⟨x.cell n c (lookup_of_mem_nodup (cellsFrom_names scope.names 0 (h.objs.size + 1) [] [] rfl ▸ hnd) hm), x.above n c hm⟩
  refine wpAny_mono (q (hideAll h (news.map (·.1))) h.objs.size h₁ tk cells ⟨x.toInCall.ns, fun a o e => hk₁ a o (of_hideAll _ e), ?_, fun q hq => ?_, Bg⟩ Y (fun a o ha e => hideAll_get _ e ha) tg st) (fun _ _ x => x) fun _ _ x => x.elim
  · cases e : (hideAll h (news.map (·.1))).get? h.objs.size with
    | none => rfl
    | some o => exact absurd (Heap.lt_size (of_hideAll _ e)) (Nat.lt_irrefl _)
  · rcases List.mem_append.mp hq with hp | hp
    · refine ⟨(NC _ hp).1, (NC _ hp).2.1, ?_⟩
      cases q1 : (hideAll h (news.map (·.1))).get? q.1 with
      | none => rfl
      | some o => have := of_hideAll _ q1; rw [(NC _ hp).2.2] at this; cases this
    · exact ⟨hk₁ _ _ (N q hp).1, Nat.ne_of_lt (Heap.lt_size (N q hp).1), hideAll_none _ (List.mem_map_of_mem hp)⟩
end
/-- a def's end: what it changed -/
theorem ch_of {w : World} {p : Program} {loose : List Str} {mean : ExcName → Option Value} {mg mb : Str → Option Value} {g h h' : Heap} {L : Addr} {m : Str → Option Value} {news : List (Addr × Obj)} {S : List Addr} (hg : Ch S h g) (f : FB w p loose mean mg mb g L h' m news) : Ch S h h' := fun a o n e => f.keep a o (hg a o n e)
end
section
noncomputable def seqQ (N : Shared → Prop) (Q : Flow → Shared → Prop) (f : Flow) (s : Shared) : Prop := match f with
  | .next => N s
  | f => Q f s

section
variable {prog : Program} {w : World} {A : Around} {E : Value → Shared → Prop} {p : Program} {loose : List Str} {mean : ExcName → Option Value} {mg mb : Str → Option Value}
  {g h : Heap} {L : Addr} {m : Str → Option Value} {news news' : List (Addr × Obj)} {env : Env} {ge : Array GenState} {dr : Drawn} {tk : Nat} {os : OsState} {s : Shared}

theorem seq_next {N : Shared → Prop} {Q : Flow → Shared → Prop} (h : N s) : seqQ N Q .next s := h
theorem seq_ret {N : Shared → Prop} {Q : Flow → Shared → Prop} {v : Value} (h : Q (.ret v) s) : seqQ N Q (.ret v) s := h
theorem seq_brk {N : Shared → Prop} {Q : Flow → Shared → Prop} (h : Q .brk s) : seqQ N Q .brk s := h
theorem seq_cont {N : Shared → Prop} {Q : Flow → Shared → Prop} (h : Q .cont s) : seqQ N Q .cont s := h

section stm
variable {Q : Flow → Shared → Prop}
theorem mw_cons {st : Stmt} {rest : List Stmt} (h : wpAny (model prog w) A (exec st env) (seqQ (fun s' => wpAny (model prog w) A (execs rest env) Q E s') Q) E s) : wpAny (model prog w) A (execs (st :: rest) env) Q E s :=
  wpAny_execs_cons (wpAny_mono h (fun f s' x => by cases f <;> exact x) fun _ _ x => x)
theorem mw_nil (h : Q .next s) : wpAny (model prog w) A (execs [] env) Q E s := wpAny_execs_nil h
theorem mw_asg {x : Str} {pos' pos : Pos} {value : Expr} (h : wpAny (model prog w) A (eval value env) (fun v s₁ => wpAny (model prog w) A (storeName env x v) (fun _ => Q .next) E s₁) E s)
    (hs : swapsWith value (some (.Name x pos')) pos.line env = pure false) : wpAny (model prog w) A (exec (.Assign [.Name x pos'] value pos) env) Q E s := wpAny_Assign_Name h hs
theorem mw_asgS {o i : Expr} {pos' pos : Pos} {value : Expr} (h : wpAny (model prog w) A (eval value env) (fun v s₁ => wpAny (model prog w) A (eval o env) (fun ov s₂ => wpAny (model prog w) A (eval i env) (fun iv s₃ =>
      wpAny (model prog w) A (setItem ov iv v) (fun _ => Q .next) E s₃) E s₂) E s₁) E s)
    (hs : swapsWith value (some (.Subscript o i pos')) pos.line env = pure false) : wpAny (model prog w) A (exec (.Assign [.Subscript o i pos'] value pos) env) Q E s := wpAny_Assign_Subscript h hs
theorem mw_aug {x : Str} {pos' pos : Pos} {op : Operator} {value : Expr} (h : wpAny (model prog w) A (loadName env x) (fun old s₁ => wpAny (model prog w) A (eval value env) (fun v s₂ => wpAny (model prog w) A (inplaceOp op old v)
      (fun r s₃ => wpAny (model prog w) A (storeName env x r) (fun _ => Q .next) E s₃) E s₂) E s₁) E s) :
    wpAny (model prog w) A (exec (.AugAssign (.Name x pos') op value pos) env) Q E s := wpAny_AugAssign_Name h
theorem mw_expr {e : Expr} {pos : Pos} (h : wpAny (model prog w) A (eval e env) (fun _ s' => Q .next s') E s)
    (hi : interactive env = false) (hs : swapsWith e none pos.line env = pure false) : wpAny (model prog w) A (exec (.Expr e pos) env) Q E s := wpAny_Expr_any h hi hs
theorem mw_if {test : Expr} {body orelse : List Stmt} {pos : Pos} (h : wpAny (model prog w) A (isTrue test env (eval test env)) (fun b s₂ => if b = true then wpAny (model prog w) A (execs body env) Q E s₂ else wpAny (model prog w) A (execs orelse env) Q E s₂) E s) :
    wpAny (model prog w) A (exec (.If test body orelse pos) env) Q E s := wpAny_If h
theorem mw_ret {e : Expr} {pos : Pos} (h : wpAny (model prog w) A (eval e env) (fun v s' => Q (.ret v) s') E s) : wpAny (model prog w) A (exec (.Return (some e) pos) env) Q E s := wpAny_Return_some h
theorem mw_brk {pos : Pos} (h : Q .brk s) : wpAny (model prog w) A (exec (.Break pos) env) Q E s := fun _ _ _ => h
theorem mw_cont {pos : Pos} (h : Q .cont s) : wpAny (model prog w) A (exec (.Continue pos) env) Q E s := fun _ _ _ => h
end stm

section nam
variable {Q : Value → Shared → Prop} {x : Str} {pos : Pos} {v : Value}
theorem mw_local (f : FB w p loose mean mg mb g env.locals h m news) (hv : m x = some v) (q : Q v ⟨h, ge, dr, tk, os⟩) (hl : env.kindOf x = some .local) (hk : env.scope.kind = .function) (hd : (x == ("__debug__" : Str)) = false) :
    wpAny (model prog w) A (eval (.Name x pos) env) Q E ⟨h, ge, dr, tk, os⟩ := wpAny_Name (wpAny_loadName_local hk hl f.ns hv q) hd
theorem mw_cell {c : Addr} {cl : Value} {di : Option Addr} {sl : Array (Option Value)} (f : FB w p loose mean mg mb g L h m news) (hc : env.cells.lookup x = some c) (hm : (c, cellW cl di sl (some v)) ∈ news) (q : Q v ⟨h, ge, dr, tk, os⟩) (hl : env.kindOf x = some .cell) (hk : env.scope.kind = .function) (hd : (x == ("__debug__" : Str)) = false) :
    wpAny (model prog w) A (eval (.Name x pos) env) Q E ⟨h, ge, dr, tk, os⟩ := wpAny_Name (wpAny_loadName_cell hk hl hc ⟨_, f.at_ hm, rfl⟩ q) hd
theorem mw_free {c : Addr} {cl : Value} {di : Option Addr} {sl : Array (Option Value)} (f : FB w p loose mean mg mb g L h m news) (hc : env.cells.lookup x = some c) (hm : (c, cellW cl di sl (some v)) ∈ news) (q : Q v ⟨h, ge, dr, tk, os⟩) (hl : env.kindOf x = some .free) (hk : env.scope.kind = .function) (hd : (x == ("__debug__" : Str)) = false)
    (hn : (x == ("__classdict__" : Str)) = false) : wpAny (model prog w) A (eval (.Name x pos) env) Q E ⟨h, ge, dr, tk, os⟩ := wpAny_Name (wpAny_loadName_free hk hl hc ⟨_, f.at_ hm, rfl⟩ q hn) hd
theorem mw_glob (f : FB w p loose mean mg mb g L h m news) (e : nsIn (hd.heap_39 w.params) mainGlobals x = some (some v)) (q : Q v ⟨h, ge, dr, tk, os⟩) (hl : env.kindOf x = some .globalImplicit) (hk : env.scope.kind = .function) (hd : (x == ("__debug__" : Str)) = false) (hg : env.globals = mainGlobals) :
    wpAny (model prog w) A (eval (.Name x pos) env) Q E ⟨h, ge, dr, tk, os⟩ :=
  Name_function_global hk hl (loadGlobal_global (env := env) (hg ▸ f.B.T.g.keeps f.keep) (mg_of f.B.X f.B.T.g e) q) hd
theorem mw_built (f : FB w p loose mean mg mb g L h m news) (e : nsIn (hd.heap_39 w.params) mainGlobals x = some none) (hv : bootBuiltins x = some v) (q : Q v ⟨h, ge, dr, tk, os⟩) (hl : env.kindOf x = some .globalImplicit) (hk : env.scope.kind = .function) (hd : (x == ("__debug__" : Str)) = false)
    (hg : env.globals = mainGlobals) (hb : env.builtins = builtinsNs) (hn : x ≠ "__name__") : wpAny (model prog w) A (eval (.Name x pos) env) Q E ⟨h, ge, dr, tk, os⟩ :=
  Name_function_global hk hl (loadGlobal_builtin (env := env) (hg ▸ f.B.T.g.keeps f.keep) (mg_none_of f.B.X f.B.T.g e) (hb ▸ f.B.T.b.keeps f.keep) ((f.B.T.builtins x hn).trans hv) q) hd
theorem mw_ldl (f : FB w p loose mean mg mb g env.locals h m news) (hv : m x = some v) (q : Q v ⟨h, ge, dr, tk, os⟩) (hl : env.kindOf x = some .local) (hk : env.scope.kind = .function) :
    wpAny (model prog w) A (loadName env x) Q E ⟨h, ge, dr, tk, os⟩ := wpAny_loadName_local hk hl f.ns hv q
theorem mw_ldc {c : Addr} {cl : Value} {di : Option Addr} {sl : Array (Option Value)} (f : FB w p loose mean mg mb g L h m news) (hc : env.cells.lookup x = some c) (hm : (c, cellW cl di sl (some v)) ∈ news) (q : Q v ⟨h, ge, dr, tk, os⟩) (hl : env.kindOf x = some .cell) (hk : env.scope.kind = .function) :
    wpAny (model prog w) A (loadName env x) Q E ⟨h, ge, dr, tk, os⟩ := wpAny_loadName_cell hk hl hc ⟨_, f.at_ hm, rfl⟩ q
end nam

theorem mw_st {x : Str} {v : Value} {Q : Unit → Shared → Prop} (f : FB w p loose mean mg mb g env.locals h m news) (q : ∀ h' tk', FB w p loose mean mg mb g env.locals h' (fun y => if y = x then some v else m y) news → Q () ⟨h', ge, dr, tk', os⟩)
    (hl : env.kindOf x = some .local) (hp : (env.scope.kind == .class || (env.scope.kind == .module && env.locals != env.globals)) = false) : wpAny (model prog w) A (storeName env x v) Q E ⟨h, ge, dr, tk, os⟩ :=
  wpAny_storeName_local hl f.ns (fun h' hn hs => q h' _ (f.loc hn hs)) hp
theorem mw_stc {x : Str} {v : Value} {v₀ : Option Value} {c : Addr} {cl : Value} {di : Option Addr} {sl : Array (Option Value)} {Q : Unit → Shared → Prop} (f : FB w p loose mean mg mb g L h m news) (hc : env.cells.lookup x = some c) (U : Upd c (cellW cl di sl v₀) (cellW cl di sl (some v)) news news')
    (q : ∀ h', FB w p loose mean mg mb g L h' m news' → Q () ⟨h', ge, dr, tk, os⟩) (hl : env.kindOf x = some .cell) (hk : env.scope.kind = .function) : wpAny (model prog w) A (storeName env x v) Q E ⟨h, ge, dr, tk, os⟩ := by
  have hm : (c, cellW cl di sl v₀) ∈ news := by
    obtain ⟨pre, post, rfl, _⟩ := U.split
    exact List.mem_append_right _ (.head _)
  have hc0 := f.at_ hm
  unfold storeName
  simp only [hl, hk]
  refine wpAny_bind (wpAny_cellOf hc ?_)
  unfold cellSet
  refine wpAny_bind (wpAny_load hc0 ?_)
  refine wpAny_update hc0 ?_
  exact q _ (f.ch (Ch.of_same (Heap.SameBut.update ..)) U (Heap.get?_update_self _ hc0 rfl))

section exp
variable {Q : Value → Shared → Prop} {pos : Pos}
theorem mw_int {i : Int} {k : Nat} (q : ∀ t tk', Q (.int i t) ⟨h, ge, dr, tk', os⟩) : wpAny (model prog w) A (eval (.Constant (.int i) k pos) env) Q E ⟨h, ge, dr, tk, os⟩ := wpAny_Constant_int (q _ _)
theorem mw_bool {c : Bool} {k : Nat} (q : Q (.bool c) s) : wpAny (model prog w) A (eval (.Constant (.bool c) k pos) env) Q E s := Constant_bool q
theorem mw_bin {l r : Expr} {op : Operator} (q : wpAny (model prog w) A (eval l env) (fun a s₁ => wpAny (model prog w) A (eval r env) (fun b s₂ => wpAny (model prog w) A (binaryOp op a b) Q E s₂) E s₁) E s) :
    wpAny (model prog w) A (eval (.BinOp l op r pos) env) Q E s := wpAny_BinOp q
theorem mw_un {op : UnaryOp} {e : Expr} (q : wpAny (model prog w) A (eval e env) (fun v s₁ => wpAny (model prog w) A (unaryOp op v) Q E s₁) E s) : wpAny (model prog w) A (eval (.UnaryOp op e pos) env) Q E s := UnaryOp_ q
theorem mw_cmp {l r : Expr} {op : CmpOp} (q : wpAny (model prog w) A (eval l env) (fun a s₁ => wpAny (model prog w) A (eval r env) (fun b s₂ => wpAny (model prog w) A (compareOp op a b) Q E s₂) E s₁) E s)
    (hm : behindInMarks op r = false) : wpAny (model prog w) A (eval (.Compare l [op] [r] pos) env) Q E s := wpAny_Compare1 q hm
theorem mw_sub {o i : Expr} (q : wpAny (model prog w) A (eval o env) (fun ov s₁ => wpAny (model prog w) A (eval i env) (fun iv s₂ => wpAny (model prog w) A (subscriptTail o i ov iv) Q E s₂) E s₁) E s) :
    wpAny (model prog w) A (eval (.Subscript o i pos) env) Q E s := Subscript_ q
theorem mw_tuple {es : List Expr} {k : Nat} (q : wpAny (model prog w) A (spliced (backTo pos (starEach es env))) (fun vs s₁ => wpAny (model prog w) A (newTuple vs) Q E s₁) E s) : wpAny (model prog w) A (eval (.Tuple es k pos) env) Q E s := Tuple_ q
theorem mw_list {es : List Expr} (q : wpAny (model prog w) A (spliced (backTo pos (starEach es env))) (fun vs s₁ => wpAny (model prog w) A (newList vs) Q E s₁) E s) : wpAny (model prog w) A (eval (.List es pos) env) Q E s := List_ q
theorem mw_ifexp {t b e : Expr} (q : wpAny (model prog w) A (isTrue t env (eval t env)) (fun c s₂ => if c = true then wpAny (model prog w) A (eval b env) Q E s₂ else wpAny (model prog w) A (eval e env) Q E s₂) E s) :
    wpAny (model prog w) A (eval (.IfExp t b e pos) env) Q E s := IfExp_ q
theorem mw_and {e₁ e₂ : Expr} {rest : List Expr} (q : wpAny (model prog w) A (eval e₁ env) (fun v s₁ => wpAny (model prog w) A (truthy v) (fun c s₂ => if c = true then wpAny (model prog w) A (eval (.BoolOp .And (e₂ :: rest) pos) env) Q E s₂ else Q v s₂) E s₁) E s) :
    wpAny (model prog w) A (eval (.BoolOp .And (e₁ :: e₂ :: rest) pos) env) Q E s := BoolOp_and q
theorem mw_or {e₁ e₂ : Expr} {rest : List Expr} (q : wpAny (model prog w) A (eval e₁ env) (fun v s₁ => wpAny (model prog w) A (truthy v) (fun c s₂ => if c = true then Q v s₂ else wpAny (model prog w) A (eval (.BoolOp .Or (e₂ :: rest) pos) env) Q E s₂) E s₁) E s) :
    wpAny (model prog w) A (eval (.BoolOp .Or (e₁ :: e₂ :: rest) pos) env) Q E s := BoolOp_or q
theorem mw_bone {op : BoolOp} {e : Expr} (q : wpAny (model prog w) A (eval e env) Q E s) : wpAny (model prog w) A (eval (.BoolOp op [e] pos) env) Q E s := BoolOp_one q
theorem mw_call {fe : Expr} {args : List Expr} (q : wpAny (model prog w) A (eval fe env) (fun f s₁ => wpAny (model prog w) A (callWith pos f [] (backTo pos (starEach args env)) []) Q E s₁) E s)
    (he : eval (.Call fe args [] pos) env = (do callWith pos (← eval fe env) [] (backTo pos (starEach args env)) (backToKw pos (keywordEach [] env)))) : wpAny (model prog w) A (eval (.Call fe args [] pos) env) Q E s := Call_ q he
theorem mw_spn {Q : List Value → Shared → Prop} (q : Q [] s) : wpAny (model prog w) A (spliced (backTo pos (starEach [] env))) Q E s := args_nil q
theorem mw_spc {Q : List Value → Shared → Prop} {e : Expr} {rest : List Expr} (q : wpAny (model prog w) A (eval e env) (fun v s₁ => wpAny (model prog w) A (spliced (backTo pos (starEach rest env))) (fun vs s₂ => Q (v :: vs) s₂) E s₁) E s)
    (he : starEach (e :: rest) env = (false, eval e env) :: starEach rest env) : wpAny (model prog w) A (spliced (backTo pos (starEach (e :: rest) env))) Q E s := args_cons q he
end exp

section tst
variable {Q : Bool → Shared → Prop} {pos : Pos} {whole : Sem Value}
theorem mt_cmp {l r : Expr} {op : CmpOp} (q : wpAny (model prog w) A (eval l env) (fun a s₁ => wpAny (model prog w) A (eval r env) (fun b s₂ => wpAny (model prog w) A (compareOp op a b) (fun c s₃ => wpAny (model prog w) A (truthy c) Q E s₃) E s₂) E s₁) E s)
    (hm : behindInMarks op r = false) : wpAny (model prog w) A (isTrue (.Compare l [op] [r] pos) env whole) Q E s := wpAny_isTrue_Compare1 q hm
theorem mt_not {x : Expr} (q : wpAny (model prog w) A (isTrue x env (eval x env)) (fun c s' => Q (!c) s') E s) : wpAny (model prog w) A (isTrue (.UnaryOp .Not x pos) env whole) Q E s := isTrue_not q
theorem mt_and0 (q : Q true s) : wpAny (model prog w) A (isTrue (.BoolOp .And [] pos) env whole) Q E s := isTrue_and_nil q
theorem mt_and {x : Expr} {rest : List Expr} (q : wpAny (model prog w) A (isTrue x env (eval x env)) (fun c s' => if c = true then wpAny (model prog w) A (isTrue (.BoolOp .And rest pos) env whole) Q E s' else Q false s') E s) :
    wpAny (model prog w) A (isTrue (.BoolOp .And (x :: rest) pos) env whole) Q E s := isTrue_and q
theorem mt_or0 (q : Q false s) : wpAny (model prog w) A (isTrue (.BoolOp .Or [] pos) env whole) Q E s := isTrue_or_nil q
theorem mt_or {x : Expr} {rest : List Expr} (q : wpAny (model prog w) A (isTrue x env (eval x env)) (fun c s' => if c = true then Q true s' else wpAny (model prog w) A (isTrue (.BoolOp .Or rest pos) env whole) Q E s') E s) :
    wpAny (model prog w) A (isTrue (.BoolOp .Or (x :: rest) pos) env whole) Q E s := isTrue_or q
theorem mt_name {x : Str} {px : Pos} (q : wpAny (model prog w) A (eval (.Name x px) env) (fun v s₁ => wpAny (model prog w) A (truthy v) Q E s₁) E s) : wpAny (model prog w) A (isTrue (.Name x px) env (eval (.Name x px) env)) Q E s := isTrue_plain q
theorem mt_call {fe : Expr} {args : List Expr} {kws : List Keyword} (q : wpAny (model prog w) A (eval (.Call fe args kws pos) env) (fun v s₁ => wpAny (model prog w) A (truthy v) Q E s₁) E s) : wpAny (model prog w) A (isTrue (.Call fe args kws pos) env (eval (.Call fe args kws pos) env)) Q E s := isTrue_plain q
theorem mt_bool {b : Bool} (q : Q b s) : wpAny (model prog w) A (truthy (.bool b)) Q E s := wpAny_truthy_bool q
end tst

section ops
variable {Q : Value → Shared → Prop} {a b : Int} {t u : Tok}
theorem mo_add (q : ∀ t' tk', Q (.int (a + b) t') ⟨h, ge, dr, tk', os⟩) : wpAny (model prog w) A (binaryOp .Add (.int a t) (.int b u)) Q E ⟨h, ge, dr, tk, os⟩ := add_int (q _ _)
theorem mo_iadd (q : ∀ t' tk', Q (.int (a + b) t') ⟨h, ge, dr, tk', os⟩) : wpAny (model prog w) A (inplaceOp .Add (.int a t) (.int b u)) Q E ⟨h, ge, dr, tk, os⟩ := iadd_int (q _ _)
theorem mo_sub (q : ∀ t' tk', Q (.int (a - b) t') ⟨h, ge, dr, tk', os⟩) : wpAny (model prog w) A (binaryOp .Sub (.int a t) (.int b u)) Q E ⟨h, ge, dr, tk, os⟩ := sub_int (q _ _)
theorem mo_mul (hm : IntMulOk a b) (q : ∀ t' tk', Q (.int (a * b) t') ⟨h, ge, dr, tk', os⟩) : wpAny (model prog w) A (binaryOp .Mult (.int a t) (.int b u)) Q E ⟨h, ge, dr, tk, os⟩ := mul_int (q _ _) hm
theorem mo_shr1 (h0 : 0 ≤ a) (q : ∀ t' tk', Q (.int (a / 2) t') ⟨h, ge, dr, tk', os⟩) : wpAny (model prog w) A (binaryOp .RShift (.int a t) (.int 1 u)) Q E ⟨h, ge, dr, tk, os⟩ := wpAny_rshift1_int h0 (q _ _)
theorem mo_neg (q : ∀ t' tk', Q (.int (-a) t') ⟨h, ge, dr, tk', os⟩) : wpAny (model prog w) A (unaryOp .USub (.int a t)) Q E ⟨h, ge, dr, tk, os⟩ := neg_int (q _ _)
theorem mo_not {v : Value} (q : wpAny (model prog w) A (truthy v) (fun c s' => Q (.bool (!c)) s') E s) : wpAny (model prog w) A (unaryOp .Not v) Q E s := not_of q
theorem mc_lt (q : Q (.bool (decide (a < b))) s) : wpAny (model prog w) A (compareOp .Lt (.int a t) (.int b u)) Q E s := lt_int q
theorem mc_gt (q : Q (.bool (decide (b < a))) s) : wpAny (model prog w) A (compareOp .Gt (.int a t) (.int b u)) Q E s := gt_int q
theorem mc_le (q : Q (.bool (decide (a ≤ b))) s) : wpAny (model prog w) A (compareOp .LtE (.int a t) (.int b u)) Q E s := le_int q
theorem mc_ge (q : Q (.bool (decide (b ≤ a))) s) : wpAny (model prog w) A (compareOp .GtE (.int a t) (.int b u)) Q E s := ge_int q
theorem mc_eq (q : Q (.bool (a == b)) s) : wpAny (model prog w) A (compareOp .Eq (.int a t) (.int b u)) Q E s := eq_int q
theorem mc_ne (q : Q (.bool (a != b)) s) : wpAny (model prog w) A (compareOp .NotEq (.int a t) (.int b u)) Q E s := ne_int q
end ops

section cal
variable {Q : Value → Shared → Prop} {pos : Pos} {f : Value} {first : List Value}
theorem mk_def {e : Expr} {rest : List Expr} (fb : FB w p loose mean mg mb g L h m news) (hk : keepIn (hd.heap_39 w.params) f = true) (q : wpAny (model prog w) A (spliced (backTo pos (starEach (e :: rest) env))) (fun vs s₁ => (hd.heap_39 w.params).In s₁.heap ∧ wpAny (model prog w) A (call f vs) Q E s₁) E s)
    (he : starEach (e :: rest) env = (false, eval e env) :: starEach rest env) (hp : (backTo pos (starEach rest env)).any (·.1) = false) : wpAny (model prog w) A (callWith pos f [] (backTo pos (starEach (e :: rest) env)) []) Q E s :=
  callWith_K fb.B.X hk q he hp
theorem mk_bi {id : String} {e : Expr} {rest : List Expr} (q : wpAny (model prog w) A (spliced (backTo pos (starEach (e :: rest) env))) (fun vs s₁ => wpAny (model prog w) A (call (.builtin id) vs) Q E s₁) E s)
    (he : starEach (e :: rest) env = (false, eval e env) :: starEach rest env) (hp : (backTo pos (starEach rest env)).any (·.1) = false) : wpAny (model prog w) A (callWith pos (.builtin id) [] (backTo pos (starEach (e :: rest) env)) []) Q E s :=
  PyProof.Rows.callWith_builtin1 q he hp
theorem mk_m0 {id : String} (q : wpAny (model prog w) A (call (.builtin id) first) Q E s) : wpAny (model prog w) A (callWith pos (.builtin id) first (backTo pos (starEach [] env)) []) Q E s := callWith_method0 q
theorem mk_m1 {id : String} {e : Expr} {rest : List Expr} (q : wpAny (model prog w) A (spliced (backTo pos (starEach (e :: rest) env))) (fun vs s₁ => wpAny (model prog w) A (call (.builtin id) (first ++ vs)) Q E s₁) E s)
    (he : starEach (e :: rest) env = (false, eval e env) :: starEach rest env) (hp : (backTo pos (starEach rest env)).any (·.1) = false) : wpAny (model prog w) A (callWith pos (.builtin id) first (backTo pos (starEach (e :: rest) env)) []) Q E s :=
  callWith_method1 q he hp
theorem mk_in (fb : FB w p loose mean mg mb g L h m news) (q : wpAny (model prog w) A (call f first) Q E ⟨h, ge, dr, tk, os⟩) : (hd.heap_39 w.params).In (Shared.mk h ge dr tk os).heap ∧ wpAny (model prog w) A (call f first) Q E ⟨h, ge, dr, tk, os⟩ := ⟨fb.B.X.keeps fb.keep, q⟩
theorem mk_meth {o : Expr} {name : Str} {apos : Pos} {args : List Expr} {pl : Sem Bool} (q : wpAny (model prog w) A (eval o env) (fun ov s₁ => wpAny (model prog w) A (getMethod ov name pl) (fun fx s₂ => wpAny (model prog w) A (callWith pos fx.1 fx.2 (backTo pos (starEach args env)) []) Q E s₂) E s₁) E s)
    (he : eval (.Call (.Attribute o name apos) args [] pos) env = (do
      let ov ← eval o env
      standAt apos.atName
      let (f, first) ← holding [ov] (getMethod ov name pl)
      callWith pos f first (backTo pos (starEach args env)) [])) : wpAny (model prog w) A (eval (.Call (.Attribute o name apos) args [] pos) env) Q E s := MethodCall_ q he
end cal

section lst
variable {l : Addr} {vs : List Value} {n : Nat}
theorem isList_of {h : Heap} (ho : h.get? l = some (listOf vs.toArray n)) : h.IsList l vs.toArray := PySem.IsL.isList (n := n) ho
theorem upd_mem {o o' : Obj} {news news' : List (Addr × Obj)} (U : Upd l o o' news news') : (l, o) ∈ news := by
  obtain ⟨pre, post, rfl, _⟩ := U.split
  exact List.mem_append_right _ (.head _)
theorem ml_item {o i : Expr} {k : Int} {t : Tok} {v : Value} {Q : Value → Shared → Prop} (f : FB w p loose mean mg mb g L h m news) (hm : (l, listOf vs.toArray n) ∈ news) (h0 : 0 ≤ k) (hhi : k < 2 ^ 63) (hx : vs[k.toNat]? = some v) (q : Q v ⟨h, ge, dr, tk, os⟩)
    (hs : subscripted i false (.ref l) (.int k t) = operate [.ref l, .int k t] (getItem (.ref l) (.int k t))) : wpAny (model prog w) A (subscriptTail o i (.ref l) (.int k t)) Q E ⟨h, ge, dr, tk, os⟩ :=
  have hl := isList_of (f.at_ hm)
  tail_any hl.typeIs slot_list_getitem.lookup (wpAny_getItem_list hl h0 hhi (by simpa using hx) q) hs
theorem mapSeq_any (its : Array Value) (n : Nat) (F : Array Value → Array Value) : Obj.mapSeq F (listOf its n) = listOf (F its) (if (F its).size == its.size then n else n + 1) := rfl
theorem ml_set {k : Int} {t : Tok} {v : Value} {Q : Unit → Shared → Prop} (f : FB w p loose mean mg mb g L h m news) (U : Upd l (listOf vs.toArray n) (listOf (vs.set k.toNat v).toArray n) news news') (h0 : 0 ≤ k) (hhi : k < 2 ^ 63) (hn : k < vs.length)
    (q : ∀ h', FB w p loose mean mg mb g L h' m news' → Q () ⟨h', ge, dr, tk, os⟩) : wpAny (model prog w) A (setItem (.ref l) (.int k t) v) Q E ⟨h, ge, dr, tk, os⟩ := by
  have z := f.at_ (upd_mem U)
  refine ki_setAt (s := ⟨h, ge, dr, tk, os⟩) z h0 hhi (by simpa using hn) (q _ (f.ch (Ch.of_same (Heap.SameBut.update ..)) U ?_))
  have e : vs.toArray.setIfInBounds k.toNat v = (vs.set k.toNat v).toArray := by
    apply Array.toList_inj.mp
    simp
  rw [Heap.get?_update_self _ z (by rw [mapSeq_any]; rfl), mapSeq_any, e]
  simp
theorem ml_pop {v : Value} {Q : Value → Shared → Prop} (f : FB w p loose mean mg mb g L h m news) (U : Upd l (listOf (vs ++ [v]).toArray n) (listOf vs.toArray (n + 1)) news news') (hz : vs.length + 1 ≤ sizeLine)
    (q : ∀ h', FB w p loose mean mg mb g L h' m news' → Q v ⟨h', ge, dr, tk, os⟩) : wpAny (model prog w) A (call (.builtin "list.pop") [.ref l]) Q E ⟨h, ge, dr, tk, os⟩ := by
  have z := f.at_ (upd_mem U)
  have hz' : (vs ++ [v]).toArray.size ≤ sizeLine := by simpa using hz
  have hk : (vs ++ [v]).toArray.size - 1 = vs.length := by simp
  have hy : (vs ++ [v]).toArray[(vs ++ [v]).toArray.size - 1]? = some v := by rw [hk]; simp
  refine call_meets PySem.F.slot_list_pop ⟨_, z, rfl⟩ PySem.F.entry_list_pop (PySem.F.args_list_pop_1 _) (PySem.MeetsSeq.list_pop_last l _ n v hy hz') ⟨z, q _ (f.ch (Ch.of_same (Heap.SameBut.update ..)) U ?_)⟩
  have e : (vs ++ [v]).toArray.eraseIdxIfInBounds ((vs ++ [v]).toArray.size - 1) = vs.toArray := by rw [hk, kl_erase, List.append_nil]
  rw [Heap.get?_update_self _ z (by rw [mapSeq_any]; rfl), mapSeq_any, e]
  simp
theorem ml_push {v : Value} {Q : Value → Shared → Prop} (f : FB w p loose mean mg mb g L h m news) (U : Upd l (listOf vs.toArray n) (listOf (vs ++ [v]).toArray (n + 1)) news news') (hz : vs.length ≤ sizeLine)
    (q : ∀ h', FB w p loose mean mg mb g L h' m news' → Q .none ⟨h', ge, dr, tk, os⟩) : wpAny (model prog w) A (call (.builtin "list.append") [.ref l, v]) Q E ⟨h, ge, dr, tk, os⟩ :=
  append_at (s := ⟨h, ge, dr, tk, os⟩) (f.at_ (upd_mem U)) (fun h' hs ho => q h' (f.ch (Ch.of_same hs) U (by rw [ho]; simp))) (by rw [List.size_toArray]; exact hz)
theorem ml_len {Q : Value → Shared → Prop} (f : FB w p loose mean mg mb g L h m news) (hm : (l, listOf vs.toArray n) ∈ news) (hz : vs.length ≤ sizeLine) (q : ∀ t' tk', Q (.int (vs.length : Nat) t') ⟨h, ge, dr, tk', os⟩) :
    wpAny (model prog w) A (call (.builtin "len") [.ref l]) Q E ⟨h, ge, dr, tk, os⟩ := by
  rw [sizeLine_eq] at hz
  exact call_len_list (s := ⟨h, ge, dr, tk, os⟩) (isList_of (f.at_ hm)) (by simp; (first | lia | omega)) (by simpa using q _ _)
theorem ml_true {Q : Bool → Shared → Prop} (f : FB w p loose mean mg mb g L h m news) (hm : (l, listOf vs.toArray n) ∈ news) (hz : vs.length ≤ sizeLine) (q : ∀ tk', Q (!vs.isEmpty) ⟨h, ge, dr, tk', os⟩) :
    wpAny (model prog w) A (truthy (.ref l)) Q E ⟨h, ge, dr, tk, os⟩ := by
  rw [sizeLine_eq] at hz
  exact wpAny_truthy_list (s := ⟨h, ge, dr, tk, os⟩) (isList_of (f.at_ hm)) (by simp; (first | lia | omega)) (by simpa using q _)
theorem ml_meth {name : Str} {id : String} {pl : Sem Bool} {Q : Value × List Value → Shared → Prop} (f : FB w p loose mean mg mb g L h m news) (hm : (l, listOf vs.toArray n) ∈ news) (slot : Slot "list" name id) (hty : typeOf (.builtin id) = pure (.type "method_descriptor"))
    (q : Q (.builtin id, [.ref l]) ⟨h, ge, dr, tk, os⟩) : wpAny (model prog w) A (getMethod (.ref l) name pl) Q E ⟨h, ge, dr, tk, os⟩ :=
  getMethod_builtin (s := ⟨h, ge, dr, tk, os⟩) ⟨_, f.at_ hm, rfl⟩ PySem.F.plainAttrs_list slot hty (fun a e => by cases e; exact ⟨_, f.at_ hm, rfl⟩) q
end lst
end
end
local macro_rules | `(tactic| walk_at "m1") => do
  let one (n : Lean.Name) (p : String) (k : Nat) : Lean.MacroM (Lean.TSyntax ``Lean.Parser.Tactic.tacticSeq) := do
    let cs := p.toList
    let nm (i : Nat) : Lean.Ident := Lean.mkIdent (Lean.Name.mkNum `zz i)
    let mut args : Array Lean.Term := #[]
    let mut i := 0
    for c in cs do
      args := args.push (← if c == '_' then `(?_) else `(?$(nm i)))
      i := i + 1
    let mut ts : Array (Lean.TSyntax `tactic) := #[← if cs.length == 1 && p == "_" then `(tactic| with_reducible refine $(Lean.mkIdent n) ?_) else `(tactic| with_reducible refine' $(Lean.mkIdent n) $args*)]
    for q in "raiBRmuvosd".toList do
      i := 0
      for c in cs do
        if c == q then
          let t ← match c with
            | 'a' => `(tactic| assumption)
            | 'i' => `(tactic| k_is)
            | 'B' => `(tactic| boot_by_name)
            | 'm' => `(tactic| k_mem)
            | 'u' => `(tactic| k_upd)
            | 'v' => `(tactic| first | rfl | assumption)
            | 'o' => `(tactic| omega)
            | 's' => `(tactic| (rw [sizeLine_eq]; omega))
            | 'd' => `(tactic| decide)
            | _ => `(tactic| rfl)
          ts := ts.push (← `(tactic| case $(nm i):ident => $t:tactic))
        i := i + 1
    for _ in [0:k] do ts := ts.push (← `(tactic| intro _))
    `(Lean.Parser.Tactic.tacticSeq| $[$ts:tactic];*)
  let mut alts : Array (Lean.TSyntax ``Lean.Parser.Tactic.tacticSeq) := #[]
  for g in " _ seq_next; av_rrd mw_local; _ mw_cons mw_nil; _r mw_asg;iii a_rr mw_st; ai_rrdR mw_glob; aiB_rrdRRd mw_built; aRm_rrd mw_cell; aRm_rrdd mw_free;ii _ mw_int; _ mw_bin;ii _ mo_add mo_sub mo_iadd; _rr mw_expr; _r mw_call; _ mw_spn; _r mw_spc; a_ mk_in; _rr mk_bi; ai_RR mk_def; _ mw_if; _r mt_cmp; _ mt_bool mc_lt mc_gt mc_eq mc_ne mc_le mc_ge mw_sub; _r mw_asgS; _ mw_ret seq_ret seq_brk seq_cont mw_brk mw_cont mt_and mt_and0 mt_or mt_or0 mt_not mt_name mt_call mw_tuple mw_list; _r mw_cmp; _ mw_un;ii _ mo_neg; _ mo_not mw_ifexp mw_and mw_or mw_bone mw_bool;ii ams_ ml_len;ii o_ mo_shr1; _r mk_meth; _ mk_m0; _rr mk_m1; _ mw_aug; av_rr mw_ldl; aRm_rr mw_ldc;ii aRu_rr mw_stc".splitOn ";" do
    let ws := g.splitOn " "
    for n in ws.drop 2 do alts := alts.push (← one (.str `Mine n) (ws.getD 1 "") (ws.headD "").length)
  `(tactic| first $[| $alts:tacticSeq]*)
local macro_rules | `(tactic| walk_at "go") => `(tactic| repeat' walk_at "m1")
local macro_rules | `(tactic| walk_at "goI") => `(tactic| repeat' ((fail_if_success (with_reducible show wpAny _ _ (exec (Stmt.If _ _ _ _) _) _ _ _)); walk_at "m1"))

section
noncomputable def sdF {κ : Type} (lt : κ → κ → Bool) (st : Nat) (x : κ) (pos : Nat) (ks : List κ) : List κ :=
  if st < pos then
    match ks[(pos - 1) / 2]? with
    | some y => if lt x y then sdF lt st x ((pos - 1) / 2) (ks.set pos y) else ks.set pos x
    | none => ks.set pos x
  else ks.set pos x
termination_by pos
decreasing_by (first | lia | omega)

section
variable {prog : Program} {w : World} {A : Around} {E : Value → Shared → Prop} {p : Program} {loose : List Str} {mean : ExcName → Option Value} {mg mb : Str → Option Value} {b h : Heap} {ge : Array GenState} {dr : Drawn} {tk : Nat} {os : OsState}
  {κ : Type} (V : Ordv κ) {l : Addr} {vs : List Value} {ks : List κ} {c : Nat} {Q : Value → Shared → Prop}

theorem siftdown_spec (B : Base w p loose mean mg mb b) (hb : b.StaysIn h) (hl : h.get? l = some (listOf vs.toArray c)) (hlb : b.get? l = none) (hr : RelL (V.rel h) vs ks)
    {st pos : Nat} {t1 t2 : Tok} {x : κ} (hx : ks[pos]? = some x) (hz : ks.length ≤ 1000000) (hd : A.depth < recursionLimit) (hu : A.units + 20 < cLine)
    (hQ : ∀ h' tk' vs' c', Ch [l] h h' → h'.get? l = some (listOf vs'.toArray c') → RelL (V.rel h') vs' (sdF V.lt st x pos ks) → Q .none ⟨h', ge, dr, tk', os⟩) :
    wpAny (model prog w) A (call (.ref 60) [.ref l, .int st t1, .int pos t2]) Q E ⟨h, ge, dr, tk, os⟩ := by
  have BX := B.X
  refine' mk_enter (news := [(l, listOf vs.toArray c)]) (binds := [("heap", .ref l), ("startpos", .int st t1), ("pos", .int pos t2)]) B hb (by simp [hl, hlb]) ?k6 ?k7 hd ?k9 ?kB ?_ ?c2 ?c3 ?c4 ?c5
  case k6 => k_is
  case k7 => k_is
  case k9 => exact fun _ => BindsTo.of_eq rfl
  case kB => exact locs rfl
  case c2 => exact rfl
  case c3 => exact rfl
  case c4 => exact rfl
  case c5 => decide
  intro g L h₁ tk₁ fb hg tg hbg
  clear BX
  have X := fb.B.X
  have hr' := hr.mono fun _ _ => V.keep tg
  obtain ⟨v0, hv0, r0⟩ := hr'.get hx
  have hpos := (List.getElem?_eq_some_iff.mp hx).1
  walk_at "go"
  refine ml_item (by assumption) (by k_mem) (by (first | lia | omega)) (by (first | lia | omega)) (by simpa using hv0) ?_ rfl
  walk_at "go"
  (with_reducible rename FB _ _ _ _ _ _ _ _ _ _ _ => f1)
  refine while_cut (fun n s' => ∃ ks' vs' m h tk, s' = ⟨h, ge, dr, tk, os⟩ ∧ FB w p loose mean mg mb g L h m [(l, listOf vs'.toArray c)] ∧ RelL (V.rel g) vs' ks' ∧ ks'.length = ks.length ∧ n < ks'.length ∧
      m "heap" = some (.ref l) ∧ m "startpos" = some (.int st t1) ∧ (∃ t, m "pos" = some (.int n t)) ∧ m "newitem" = some v0 ∧ sdF V.lt st x n ks' = sdF V.lt st x pos ks)
    (fun s' => ∃ ks' vs' m h tk n, s' = ⟨h, ge, dr, tk, os⟩ ∧ FB w p loose mean mg mb g L h m [(l, listOf vs'.toArray c)] ∧ RelL (V.rel g) vs' ks' ∧ ks'.length = ks.length ∧ n < ks'.length ∧
      m "heap" = some (.ref l) ∧ (∃ t, m "pos" = some (.int (n : Nat) t)) ∧ m "newitem" = some v0 ∧ ks'.set n x = sdF V.lt st x pos ks) ?turn pos ?start ?fin
  case start => exact ⟨ks, vs, _, _, _, rfl, f1, hr', rfl, hpos, rfl, rfl, ⟨_, rfl⟩, rfl, rfl⟩
  case turn =>
    rintro n s' ⟨ks', vs', m, h, tk, rfl, f, R, hlen, hn, m1, m2, ⟨t3, m3⟩, m4, e⟩
    clear f1
    refine wpHide ?_
    intro Q1 hQ1
    walk_at "go"
    refine hQ1 _ _ ?_
    clear hQ1 Q1
    by_cases hc : st < n
    · rw [if_pos (by simp; (first | lia | omega))]
      refine wpHide ?_
      intro Q2 hQ2
      walk_at "go"
      have hp : (n - 1) / 2 < ks'.length := by (first | lia | omega)
      obtain ⟨y, hy⟩ : ∃ y, ks'[(n - 1) / 2]? = some y := ⟨_, List.getElem?_eq_getElem hp⟩
      obtain ⟨vy, hvy, ry⟩ := R.get hy
      refine ml_item (v := vy) (by assumption) (by k_mem) (by (first | lia | omega)) (by (first | lia | omega)) ?_ ?_ rfl
      · have : ((↑n - 1 : Int) / 2).toNat = (n - 1) / 2 := by (first | lia | omega)
        rw [this]; exact hvy
      walk_at "go"
      (with_reducible rename FB _ _ _ _ _ _ _ _ _ _ _ => f2)
      refine V.cmp (x := x) (y := y) (by show A.units + 3 < cLine; (first | lia | omega)) (V.keep (TK.of_keep f2.keep) r0) (V.keep (TK.of_keep f2.keep) ry) ?_
      cases hlt : V.lt x y with
      | true =>
        walk_at "go"
        rw [if_pos rfl]
        walk_at "go"
        refine ml_set f2 (by k_upd) (by (first | lia | omega)) (by (first | lia | omega)) (by rw [R.1]; (first | lia | omega)) ?_
        intro h3 f3
        walk_at "go"
        (with_reducible rename FB _ _ _ _ _ _ _ _ _ _ _ => f4)
        refine hQ2 _ _ ⟨(n - 1) / 2, by (first | lia | omega), ks'.set n y, vs'.set n vy, _, _, _, rfl, f4, R.set ry, by simpa using hlen, by simpa using hp, m1, m2, ?_, m4, ?_⟩
        · have : ((↑n - 1 : Int) / 2) = (((n - 1) / 2 : Nat) : Int) := by (first | lia | omega)
          rw [← this]; exact ⟨_, rfl⟩
        · rw [← e]
          conv => rhs; unfold sdF
          rw [if_pos hc, hy]
          simp [hlt]
      | false =>
        walk_at "go"
        rw [if_neg (by simp)]
        walk_at "go"
        refine hQ2 _ _ ⟨ks', vs', _, _, _, n, rfl, f2, R, hlen, hn, m1, ⟨_, m3⟩, m4, ?_⟩
        rw [← e]
        conv => rhs; unfold sdF
        rw [if_pos hc, hy]
        simp [hlt]
    · rw [if_neg (by simp; (first | lia | omega))]
      refine ⟨ks', vs', m, h, _, n, rfl, f, R, hlen, hn, m1, ⟨_, m3⟩, m4, ?_⟩
      rw [← e]
      unfold sdF
      rw [if_neg hc]
  case fin =>
    rintro s' ⟨ks', vs', m, h, tk, n, rfl, f, R, hlen, hn, m1, ⟨t3, m3⟩, m4, e⟩
    clear f1
    walk_at "go"
    have hn' : n < vs'.length := by rw [R.1]; exact hn
    refine ml_set f (by k_upd) (by (first | lia | omega)) (by (first | lia | omega)) (by (first | lia | omega)) ?_
    intro h2 f2
    walk_at "go"
    refine hQ _ _ (vs'.set n v0) c (ch_of (by simpa using hg) f2) (f2.N _ (List.Mem.head _)).1 ?_
    rw [← e]
    exact (R.set r0).mono fun _ _ => V.keep (TK.of_keep f2.keep)
end
end
section
noncomputable def suPick {κ : Type} (lt : κ → κ → Bool) (ks : List κ) (c : Nat) : Nat :=
  match ks[c]?, ks[c + 1]? with
  | some a, some b => if lt a b then c else c + 1
  | _, _ => c
theorem suPick_ge {κ : Type} (lt : κ → κ → Bool) (ks : List κ) (c : Nat) : c ≤ suPick lt ks c ∧ suPick lt ks c ≤ c + 1 := by
  unfold suPick
  split
  · split <;> (first | lia | omega)
  · (first | lia | omega)
noncomputable def suF {κ : Type} (lt : κ → κ → Bool) (pos : Nat) (ks : List κ) : Nat × List κ :=
  if 2 * pos + 1 < ks.length then
    match h : ks[suPick lt ks (2 * pos + 1)]? with
    | some y => suF lt (suPick lt ks (2 * pos + 1)) (ks.set pos y)
    | none => (pos, ks)
  else (pos, ks)
termination_by ks.length - pos
decreasing_by
  have h1 := (List.getElem?_eq_some_iff.mp h).1
  have h2 := suPick_ge lt ks (2 * pos + 1)
  simp only [List.length_set]
  (first | lia | omega)
theorem suPick_lt {κ : Type} (lt : κ → κ → Bool) (ks : List κ) (c : Nat) (h : c < ks.length) : suPick lt ks c < ks.length := by
  unfold suPick
  split
  · rename_i h2
    have := (List.getElem?_eq_some_iff.mp h2).1
    split <;> (first | lia | omega)
  · exact h
theorem suF_step {κ : Type} {lt : κ → κ → Bool} {pos : Nat} {ks : List κ} {y : κ} (h : 2 * pos + 1 < ks.length) (hy : ks[suPick lt ks (2 * pos + 1)]? = some y) : suF lt pos ks = suF lt (suPick lt ks (2 * pos + 1)) (ks.set pos y) := by
  conv => lhs; unfold suF
  rw [if_pos h]
  split
  · rename_i h2; rw [hy] at h2; cases h2; rfl
  · rename_i h2; rw [hy] at h2; cases h2
theorem suF_end {κ : Type} {lt : κ → κ → Bool} {pos : Nat} {ks : List κ} (h : ¬ 2 * pos + 1 < ks.length) : suF lt pos ks = (pos, ks) := by
  unfold suF
  rw [if_neg h]
noncomputable def siftup {κ : Type} (lt : κ → κ → Bool) (x : κ) (pos : Nat) (ks : List κ) : List κ :=
  sdF lt pos x (suF lt pos ks).1 ((suF lt pos ks).2.set (suF lt pos ks).1 x)

section
variable {prog : Program} {w : World} {A : Around} {E : Value → Shared → Prop} {p : Program} {loose : List Str} {mean : ExcName → Option Value} {mg mb : Str → Option Value} {b h : Heap} {ge : Array GenState} {dr : Drawn} {tk : Nat} {os : OsState}
  {κ : Type} (V : Ordv κ) {l : Addr} {vs : List Value} {ks : List κ} {c : Nat} {Q : Value → Shared → Prop}

theorem siftup_spec (B : Base w p loose mean mg mb b) (hb : b.StaysIn h) (hl : h.get? l = some (listOf vs.toArray c)) (hlb : b.get? l = none) (hr : RelL (V.rel h) vs ks)
    {pos : Nat} {t2 : Tok} {x : κ} (hx : ks[pos]? = some x) (hz : ks.length ≤ 1000000) (hd : A.depth + 1 < recursionLimit) (hu : A.units + 30 < cLine)
    (hQ : ∀ h' tk' vs' c', Ch [l] h h' → h'.get? l = some (listOf vs'.toArray c') → RelL (V.rel h') vs' (siftup V.lt x pos ks) → Q .none ⟨h', ge, dr, tk', os⟩) :
    wpAny (model prog w) A (call (.ref 67) [.ref l, .int pos t2]) Q E ⟨h, ge, dr, tk, os⟩ := by
  have BX := B.X
  have hvl := hr.1
  refine' mk_enter (news := [(l, listOf vs.toArray c)]) (binds := [("heap", .ref l), ("pos", .int pos t2)]) B hb (by simp [hl, hlb]) ?k6 ?k7 (by (first | lia | omega)) ?k9 ?kB ?_ ?c2 ?c3 ?c4 ?c5
  case k6 => k_is
  case k7 => k_is
  case k9 => exact fun _ => BindsTo.of_eq rfl
  case kB => exact locs rfl
  case c2 => exact rfl
  case c3 => exact rfl
  case c4 => exact rfl
  case c5 => decide
  intro g L h₁ tk₁ fb hg tg hbg
  clear BX
  have X := fb.B.X
  have hr' := hr.mono fun _ _ => V.keep tg
  obtain ⟨v0, hv0, r0⟩ := hr'.get hx
  have hpos := (List.getElem?_eq_some_iff.mp hx).1
  walk_at "go"
  refine ml_item (by assumption) (by k_mem) (by (first | lia | omega)) (by (first | lia | omega)) (by simpa using hv0) ?_ rfl
  walk_at "go"
  refine mo_mul ?_ ?_
  · exact IntMulOk.of_left (intBits_le_64 (by (first | lia | omega)) (by (first | lia | omega)))
  intro _ _
  walk_at "go"
  (with_reducible rename FB _ _ _ _ _ _ _ _ _ _ _ => f1)
  refine while_cut (fun n s' => ∃ ks' vs' m h tk q, n = ks'.length - q ∧ s' = ⟨h, ge, dr, tk, os⟩ ∧ FB w p loose mean mg mb g L h m [(l, listOf vs'.toArray c)] ∧ RelL (V.rel g) vs' ks' ∧ ks'.length = ks.length ∧ q < ks'.length ∧
      m "heap" = some (.ref l) ∧ (∃ t, m "endpos" = some (.int (ks.length : Nat) t)) ∧ (∃ t, m "startpos" = some (.int (pos : Nat) t)) ∧ (∃ t, m "pos" = some (.int (q : Nat) t)) ∧ (∃ t, m "childpos" = some (.int (2 * (q : Nat) + 1) t)) ∧ m "newitem" = some v0 ∧ suF V.lt q ks' = suF V.lt pos ks)
    (fun s' => ∃ ks' vs' m h tk q, s' = ⟨h, ge, dr, tk, os⟩ ∧ FB w p loose mean mg mb g L h m [(l, listOf vs'.toArray c)] ∧ RelL (V.rel g) vs' ks' ∧ ks'.length = ks.length ∧ q < ks'.length ∧
      m "heap" = some (.ref l) ∧ (∃ t, m "startpos" = some (.int (pos : Nat) t)) ∧ (∃ t, m "pos" = some (.int (q : Nat) t)) ∧ m "newitem" = some v0 ∧ (q, ks') = suF V.lt pos ks) ?turn (ks.length - pos) ?start ?fin
  case start => exact ⟨ks, vs, _, _, _, pos, rfl, rfl, f1, hr', rfl, hpos, rfl, ⟨_, by rw [← hvl]; rfl⟩, ⟨_, rfl⟩, ⟨_, rfl⟩, ⟨_, rfl⟩, rfl, rfl⟩
  case turn =>
    rintro n s' ⟨ks', vs', m, h, tk, q, hn, rfl, f, R, hlen, hq, m1, ⟨t3, m3⟩, ⟨t4, m4⟩, ⟨t5, m5⟩, ⟨t6, m6⟩, m7, e⟩
    clear f1
    refine wpHide ?_
    intro Q1 hQ1
    walk_at "go"
    refine hQ1 _ _ ?_
    clear hQ1 Q1
    by_cases hc : 2 * q + 1 < ks.length
    · rw [if_pos (by simp; (first | lia | omega))]
      refine wpHide ?_
      intro Q2 hQ2
      walk_at "goI"
      (with_reducible rename FB _ _ _ _ _ _ _ _ _ _ _ => f2)
      have hpk := suPick_ge V.lt ks' (2 * q + 1)
      have hpl := suPick_lt V.lt ks' (2 * q + 1) (by (first | lia | omega))
      refine next_cut (fun s' => ∃ m h tk, s' = ⟨h, ge, dr, tk, os⟩ ∧ FB w p loose mean mg mb g L h m [(l, listOf vs'.toArray c)] ∧ m "heap" = some (.ref l) ∧ (∃ t, m "endpos" = some (.int (ks.length : Nat) t)) ∧ (∃ t, m "startpos" = some (.int (pos : Nat) t)) ∧ (∃ t, m "pos" = some (.int (q : Nat) t)) ∧ (∃ t, m "childpos" = some (.int (suPick V.lt ks' (2 * q + 1) : Nat) t)) ∧ m "newitem" = some v0) ?ifs ?rest
      case ifs =>
        refine wpHide ?_
        intro Q3 hQ3
        walk_at "go"
        obtain ⟨y1, hy1⟩ : ∃ y, ks'[2 * q + 1]? = some y := ⟨_, List.getElem?_eq_getElem (by (first | lia | omega))⟩
        obtain ⟨v1, hv1, r1⟩ := R.get hy1
        by_cases hc2 : 2 * q + 1 + 1 < ks'.length
        · obtain ⟨y2, hy2⟩ : ∃ y, ks'[2 * q + 1 + 1]? = some y := ⟨_, List.getElem?_eq_getElem hc2⟩
          obtain ⟨v2, hv2, r2⟩ := R.get hy2
          rw [if_pos (by simp; (first | lia | omega))]
          walk_at "go"
          refine ml_item (v := v1) f2 (by k_mem) (by (first | lia | omega)) (by (first | lia | omega)) ?_ ?_ rfl
          · rw [show ((2 * (q : Int) + 1).toNat) = 2 * q + 1 by (first | lia | omega)]; exact hv1
          walk_at "go"
          refine ml_item (v := v2) f2 (by k_mem) (by (first | lia | omega)) (by (first | lia | omega)) ?_ ?_ rfl
          · rw [show ((2 * (q : Int) + 1 + 1).toNat) = 2 * q + 1 + 1 by (first | lia | omega)]; exact hv2
          refine V.cmp (x := y1) (y := y2) (by show A.units + 3 < cLine; (first | lia | omega)) (V.keep (TK.of_keep f2.keep) r1) (V.keep (TK.of_keep f2.keep) r2) ?_
          have hpick : suPick V.lt ks' (2 * q + 1) = if V.lt y1 y2 then 2 * q + 1 else 2 * q + 1 + 1 := by unfold suPick; rw [hy1, hy2]
          cases hlt : V.lt y1 y2 with
          | true =>
            rw [hlt, if_pos rfl] at hpick
            walk_at "go"
            rw [if_neg (by simp)]
            rw [if_neg (by simp)]
            walk_at "go"
            exact hQ3 _ _ ⟨rfl, _, _, _, rfl, f2, m1, ⟨_, m3⟩, ⟨_, m4⟩, ⟨_, m5⟩, by rw [hpick]; exact ⟨_, m6⟩, m7⟩
          | false =>
            rw [hlt, if_neg (by simp)] at hpick
            walk_at "go"
            rw [if_pos (by simp)]
            walk_at "go"
            rw [if_pos rfl]
            walk_at "go"
            (with_reducible rename FB _ _ _ _ _ _ _ _ _ _ _ => f3)
            exact hQ3 _ _ ⟨rfl, _, _, _, rfl, f3, m1, ⟨_, m3⟩, ⟨_, m4⟩, ⟨_, m5⟩, by rw [hpick]; exact ⟨_, rfl⟩, m7⟩
        · rw [if_neg (by simp; (first | lia | omega)), if_neg (by simp)]
          walk_at "go"
          have hpick : suPick V.lt ks' (2 * q + 1) = 2 * q + 1 := by
            unfold suPick
            rw [List.getElem?_eq_none (by (first | lia | omega) : ks'.length ≤ 2 * q + 1 + 1)]
            cases ks'[2 * q + 1]? <;> rfl
          exact hQ3 _ _ ⟨rfl, _, _, _, rfl, f2, m1, ⟨_, m3⟩, ⟨_, m4⟩, ⟨_, m5⟩, by rw [hpick]; exact ⟨_, m6⟩, m7⟩
      case rest =>
        rintro s' ⟨m, h, tk, rfl, f, m1, ⟨t3, m3⟩, ⟨t4, m4⟩, ⟨t5, m5⟩, ⟨t6, m6⟩, m7⟩
        clear f2
        generalize hcq : suPick V.lt ks' (2 * q + 1) = cq at *
        obtain ⟨y, hy⟩ : ∃ y, ks'[cq]? = some y := ⟨_, List.getElem?_eq_getElem hpl⟩
        obtain ⟨vy, hvy, ry⟩ := R.get hy
        walk_at "go"
        refine ml_item (v := vy) f (by k_mem) (by (first | lia | omega)) (by (first | lia | omega)) (by simpa using hvy) ?_ rfl
        walk_at "go"
        refine ml_set f (by k_upd) (by (first | lia | omega)) (by (first | lia | omega)) (by rw [R.1]; (first | lia | omega)) ?_
        intro h3 f3
        walk_at "go"
        refine mo_mul ?_ ?_
        · exact IntMulOk.of_left (intBits_le_64 (by (first | lia | omega)) (by (first | lia | omega)))
        intro _ _
        walk_at "go"
        (with_reducible rename FB _ _ _ _ _ _ _ _ _ _ _ => f4)
        refine hQ2 _ _ ⟨ks'.length - cq, by (first | lia | omega), ks'.set q y, vs'.set q vy, _, _, _, cq, by simp, rfl, f4, R.set ry, by simpa using hlen, by simpa using hpl, m1, ⟨_, m3⟩, ⟨_, m4⟩, ⟨_, rfl⟩, ⟨_, rfl⟩, m7, ?_⟩
        rw [← e]
        subst hcq
        rw [suF_step (by (first | lia | omega)) hy]
    · rw [if_neg (by simp; (first | lia | omega))]
      exact ⟨ks', vs', m, h, _, q, rfl, f, R, hlen, hq, m1, ⟨_, m4⟩, ⟨_, m5⟩, m7, by rw [← e, suF_end (by (first | lia | omega))]⟩
  case fin =>
    rintro s' ⟨ks', vs', m, h, tk, q, rfl, f, R, hlen, hq, m1, ⟨t4, m4⟩, ⟨t5, m5⟩, m7, e⟩
    clear f1
    walk_at "go"
    have hn' : q < vs'.length := by rw [R.1]; exact hq
    refine ml_set f (by k_upd) (by (first | lia | omega)) (by (first | lia | omega)) (by (first | lia | omega)) ?_
    intro h2 f2
    walk_at "go"
    have R2 := (R.set r0 (i := q)).mono fun _ _ => V.keep (TK.of_keep f2.keep)
    refine siftdown_spec V (ks := ks'.set q x) f2.B f2.keep (f2.N _ (List.Mem.head _)).1 (f2.N _ (List.Mem.head _)).2.2 R2 (x := x) (by rw [List.getElem?_set]; simp [hq]) (by simpa using (by (first | lia | omega))) (by show A.depth + 1 < _; (first | lia | omega)) (by show A.units + 3 + 20 < _; exact bdk (by assumption) (by decide)) ?_
    intro h3 tk3 vs3 c3 C3 hl3 R3
    have f3 := f2.ch C3 (o' := listOf vs3.toArray c3) (by k_upd) hl3
    walk_at "go"
    refine hQ _ _ vs3 c3 (ch_of (by simpa using hg) f3) hl3 ?_
    have e1 : (suF V.lt pos ks).1 = q := by rw [← e]
    have e2 : (suF V.lt pos ks).2 = ks' := by rw [← e]
    rw [siftup, e1, e2]
    exact R3
end
end
section
theorem split_last {α : Type} {l : List α} {x : α} (h : l.getLast? = some x) : l = l.dropLast ++ [x] := by
  cases l with
  | nil => cases h
  | cons a r =>
    have e := List.dropLast_concat_getLast (l := a :: r) (by simp)
    rw [List.getLast?_eq_some_getLast (by simp)] at h
    cases h
    exact e.symm
noncomputable def hpush {κ : Type} (lt : κ → κ → Bool) (ks : List κ) (x : κ) : List κ := sdF lt 0 x ks.length (ks ++ [x])
noncomputable def hpop {κ : Type} (lt : κ → κ → Bool) (ks : List κ) : Option (κ × List κ) :=
  match ks.getLast?, ks.dropLast with
  | none, _ => none
  | some x, [] => some (x, [])
  | some x, y :: r => some (y, siftup lt x 0 (x :: r))
section
variable {prog : Program} {w : World} {A : Around} {E : Value → Shared → Prop} {p : Program} {loose : List Str} {mean : ExcName → Option Value} {mg mb : Str → Option Value} {b h : Heap} {ge : Array GenState} {dr : Drawn} {tk : Nat} {os : OsState}
  {κ : Type} (V : Ordv κ) {l : Addr} {vs : List Value} {ks : List κ} {c : Nat} {Q : Value → Shared → Prop}

theorem heappush_spec (B : Base w p loose mean mg mb b) (hb : b.StaysIn h) (hl : h.get? l = some (listOf vs.toArray c)) (hlb : b.get? l = none) (hr : RelL (V.rel h) vs ks)
    {v : Value} {x : κ} (hv : V.rel h v x) (hz : ks.length < 1000000) (hd : A.depth + 2 < recursionLimit) (hu : A.units + 40 < cLine)
    (hQ : ∀ h' tk' vs' c', Ch [l] h h' → h'.get? l = some (listOf vs'.toArray c') → RelL (V.rel h') vs' (hpush V.lt ks x) → Q .none ⟨h', ge, dr, tk', os⟩) :
    wpAny (model prog w) A (call (.ref 39) [.ref l, v]) Q E ⟨h, ge, dr, tk, os⟩ := by
  have BX := B.X
  have hvl := hr.1
  refine' mk_enter (news := [(l, listOf vs.toArray c)]) (binds := [("heap", .ref l), ("item", v)]) B hb (by simp [hl, hlb]) ?k6 ?k7 (by (first | lia | omega)) ?k9 ?kB ?_ ?c2 ?c3 ?c4 ?c5
  case k6 => k_is
  case k7 => k_is
  case k9 => exact fun _ => BindsTo.of_eq rfl
  case kB => exact locs rfl
  case c2 => exact rfl
  case c3 => exact rfl
  case c4 => exact rfl
  case c5 => decide
  intro g L h₁ tk₁ fb hg tg hbg
  clear BX
  have X := fb.B.X
  have hr' := hr.mono fun _ _ => V.keep tg
  have hv' := V.keep tg hv
  walk_at "go"
  refine ml_meth fb (by k_mem) PySem.F.slot_list_append PySem.F.type_list_append ?_
  walk_at "go"
  refine ml_push fb (by k_upd) (by rw [sizeLine_eq]; (first | lia | omega)) ?_
  intro h2 f2
  have hpl : (vs ++ [v]).length ≤ 1000000 := by simp; (first | lia | omega)
  walk_at "go"
  have e1 : ((vs ++ [v]).length : Int) - 1 = (ks.length : Nat) := by simp; (first | lia | omega)
  rw [e1]
  refine siftdown_spec V (st := 0) (pos := ks.length) (ks := ks ++ [x]) (x := x) f2.B f2.keep (f2.at_ (.head _)) (f2.new_ (.head _)) ((hr'.push hv').mono fun _ _ => V.keep (TK.of_keep f2.keep)) (by simp) (by simp; (first | lia | omega)) (by show A.depth + 1 < _; (first | lia | omega)) (by show A.units + 3 + 20 < _; exact bdk (by assumption) (by decide)) ?_
  intro h3 tk3 vs3 c3 C3 hl3 R3
  have f3 := f2.ch C3 (o' := listOf vs3.toArray c3) (by k_upd) hl3
  walk_at "go"
  exact hQ _ _ vs3 c3 (ch_of (by simpa using hg) f3) hl3 R3

theorem heappop_spec (B : Base w p loose mean mg mb b) (hb : b.StaysIn h) (hl : h.get? l = some (listOf vs.toArray c)) (hlb : b.get? l = none) (hr : RelL (V.rel h) vs ks)
    {y : κ} {ks' : List κ} (hp : hpop V.lt ks = some (y, ks')) (hz : ks.length ≤ 1000000) (hd : A.depth + 2 < recursionLimit) (hu : A.units + 40 < cLine)
    (hQ : ∀ h' tk' vs' c' v, Ch [l] h h' → h'.get? l = some (listOf vs'.toArray c') → RelL (V.rel h') vs' ks' → V.rel h' v y → Q v ⟨h', ge, dr, tk', os⟩) :
    wpAny (model prog w) A (call (.ref 46) [.ref l]) Q E ⟨h, ge, dr, tk, os⟩ := by
  have BX := B.X
  have hvl := hr.1
  refine' mk_enter (news := [(l, listOf vs.toArray c)]) (binds := [("heap", .ref l)]) B hb (by simp [hl, hlb]) ?k6 ?k7 (by (first | lia | omega)) ?k9 ?kB ?_ ?c2 ?c3 ?c4 ?c5
  case k6 => k_is
  case k7 => k_is
  case k9 => exact fun _ => BindsTo.of_eq rfl
  case kB => exact locs rfl
  case c2 => exact rfl
  case c3 => exact rfl
  case c4 => exact rfl
  case c5 => decide
  intro g L h₁ tk₁ fb hg tg hbg
  clear BX
  have X := fb.B.X
  have hr' := hr.mono fun _ _ => V.keep tg
  obtain ⟨x, hx⟩ : ∃ x, ks.getLast? = some x := by
    cases e : ks.getLast? with
    | none => rw [hpop, e] at hp; cases hp
    | some x => exact ⟨x, rfl⟩
  have hks : ks = ks.dropLast ++ [x] := split_last hx
  have hne : 0 < ks.length := by rw [hks]; simp
  obtain ⟨v, hv, rv⟩ := hr'.get (i := ks.length - 1) (k := x) (by rw [← List.getLast?_eq_getElem?]; exact hx)
  have hvs : vs = vs.dropLast ++ [v] := by
    refine split_last ?_
    rw [List.getLast?_eq_getElem?, hvl]; exact hv
  have hrd := hr'.dropLast
  generalize vs.dropLast = us at *
  subst hvs
  have hul : us.length = ks.dropLast.length := hrd.1
  have hzl : us.length + 1 ≤ 1000000 := by simp at hvl; (first | lia | omega)
  walk_at "go"
  refine ml_meth fb (by k_mem) PySem.F.slot_list_pop PySem.F.type_list_pop ?_
  walk_at "go"
  refine ml_pop fb (by k_upd) (by rw [sizeLine_eq]; (first | lia | omega)) ?_
  intro h2 f2
  walk_at "go"
  (with_reducible rename FB _ _ _ _ _ _ _ _ _ _ _ => f3)
  refine ml_true f3 (by k_mem) (by rw [sizeLine_eq]; (first | lia | omega)) ?_
  intro tk4
  cases us with
  | nil =>
    walk_at "go"
    rw [if_neg (by simp)]
    walk_at "go"
    have e0 : ks.dropLast = [] := List.eq_nil_of_length_eq_zero hul.symm
    rw [hpop, hx, e0] at hp
    simp at hp
    obtain ⟨rfl, rfl⟩ := hp
    exact hQ _ _ [] _ v (ch_of (by simpa using hg) f3) (f3.at_ (.head _)) RelL.nil (V.keep (TK.of_keep f3.keep) rv)
  | cons u us =>
    obtain ⟨z, zs, e0⟩ : ∃ z zs, ks.dropLast = z :: zs := by
      cases e : ks.dropLast with
      | nil => rw [e] at hul; simp at hul
      | cons z zs => exact ⟨z, zs, rfl⟩
    rw [hpop, hx, e0] at hp
    simp at hp
    obtain ⟨rfl, rfl⟩ := hp
    have hl0 := congrArg List.length e0
    rw [e0] at hrd
    have ru : V.rel g u z := hrd.2 0 u z rfl rfl
    have rx := hrd.set (i := 0) rv
    walk_at "go"
    rw [if_pos (by simp)]
    walk_at "go"
    refine ml_item (v := u) f3 (by k_mem) (by (first | lia | omega)) (by (first | lia | omega)) rfl ?_ rfl
    walk_at "go"
    (with_reducible rename FB _ _ _ _ _ _ _ _ _ _ _ => f4)
    refine ml_set f4 (by k_upd) (by (first | lia | omega)) (by (first | lia | omega)) (by simp) ?_
    intro h5 f5
    walk_at "go"
    refine siftup_spec V (pos := 0) (ks := x :: zs) (x := x) f5.B f5.keep (f5.at_ (.head _)) (f5.new_ (.head _)) (rx.mono fun _ _ => V.keep (TK.of_keep f5.keep)) rfl (by simp at hl0 ⊢; (first | lia | omega)) (by show A.depth + 1 + 1 < _; exact bdk (by assumption) (by decide)) (by show A.units + 3 + 30 < _; exact bdk (by assumption) (by decide)) ?_
    intro h6 tk6 vs6 c6 C6 hl6 R6
    have f6 := f5.ch C6 (o' := listOf vs6.toArray c6) (by k_upd) hl6
    walk_at "go"
    exact hQ _ _ vs6 c6 u (ch_of (by simpa using hg) f6) hl6 R6 (V.keep (TK.of_keep f6.keep) ru)
end
end
section
theorem ne_tup {o : Obj} (h : (o.cls == .type "tuple") = false) : ∀ vs, o ≠ tupO vs := fun vs e => by
  rw [e] at h
  exact absurd h (by simp)
theorem lst_ne (its : Array Value) (n : Nat) : ∀ vs, listOf its n ≠ tupO vs := ne_tup (by show (Value.type "list" == Value.type "tuple") = false; decide +kernel)
theorem cellW_ne (cl : Value) (di : Option Addr) (sl : Array (Option Value)) (v : Option Value) : ∀ vs, cellW cl di sl v ≠ tupO vs := fun vs e => by cases e
theorem rit_ne (d : Data) : ∀ vs, ({ cls := .type "range_iterator", data := d } : Obj) ≠ tupO vs := ne_tup (by show (Value.type "range_iterator" == Value.type "tuple") = false; decide +kernel)
section
variable {prog : Program} {w : World} {A : Around} {E : Value → Shared → Prop} {s : Shared}
theorem forLoop_gen {R : Result → Shared → Prop} {target : Expr} {it : Value} {body : List Stmt} {env : Env} (I : Nat → Shared → Prop)
    (turn : ∀ n s, I n s → wpAny (model prog w) A (pyNext it) (fun r s₁ => match r with
      | none => R (.ok .next) s₁
      | some v => wpAny (model prog w) A (letOwnedTupleGo target it v) (fun _ s₁ => wpAny (model prog w) A (assign target env v) (fun _ s₂ => wpAny (model prog w) A (execs body env) (fun f s₃ => match f with
          | .next | .cont => ∃ m, m < n ∧ I m s₃
          | .brk => R (.ok .next) s₃
          | .ret v => R (.ok (.ret v)) s₃) (fun _ _ => False) s₂) (fun _ _ => False) s₁) (fun _ _ => False) s₁) (fun _ _ => False) s)
    (n : Nat) (h : I n s) : codeAny (model prog w) A (.forLoop target it body [] env) R s := by
  refine codeAny_loop' rfl I (fun n s hI => ?_) n h
  show wpAny _ _ ((forTurn target it body [] env).onRaise (fun x => do noteFrame x env; theTreesLotGoes x)) _ _ s
  refine wpAny_noted ?_
  simp only [forTurn]
  refine wpAny_bind (wpAny_standAt (wpAny_bind (wpAny_onRaise (wpAny_mono (turn n s hI) (fun r s₁ h₁ => ?_) fun _ _ h' => h'.elim))))
  cases r with
  | none => exact wpAny_pure (.inr ⟨rfl, codeAny_block (wpAny_execs_nil h₁)⟩)
  | some v =>
    refine wpAny_bind (wpAny_mono h₁ (fun _ s₁ h₁ => wpAny_bind (wpAny_mono h₁ (fun _ s₂ h₂ => wpAny_bind (wpAny_mono h₂ (fun f s₃ h₃ => ?_) fun _ _ h' => h'.elim)) fun _ _ h' => h'.elim)) fun _ _ h' => h'.elim)
    cases f with
    | next => exact wpAny_pure (.inl ⟨rfl, h₃⟩)
    | cont => exact wpAny_pure (.inl ⟨rfl, h₃⟩)
    | brk => exact wpAny_pure h₃
    | ret v => exact wpAny_pure h₃
end

section
variable {prog : Program} {w : World} {A : Around} {E : Value → Shared → Prop} {p : Program} {loose : List Str} {mean : ExcName → Option Value} {mg mb : Str → Option Value} {g h : Heap} {ge : Array GenState} {dr : Drawn} {tk : Nat} {os : OsState} {env : Env}
  {m : Str → Option Value} {news : List (Addr × Obj)}

/-- a for over what walks, by what holds of the frame and the ledger between the turns -/
theorem for_fbS {R : Result → Shared → Prop} {target : Expr} {body : List Stmt} {I : Addr} {fp : List Addr} {n : Nat} {P : Nat → Value → Prop} {St : Nat → Heap → Prop} (W : Walks prog w A I fp [I] n P St)
    (hI : ∀ i h, St i h → ∃ o, h.get? I = some o ∧ ∀ vs, o ≠ tupO vs)
    (J : Nat → Heap → (Str → Option Value) → List (Addr × Obj) → Prop)
    (hJ : ∀ i h h' m news, TK h h' → J i h m news → J i h' m news)
    (hnt : ∀ i h m news, J i h m news → ∀ q ∈ news, ∀ vs, q.2 ≠ tupO vs)
    (f : FB w p loose mean mg mb g env.locals h m news) (hIn : I ∉ news.map (·.1)) (hIL : I ≠ env.locals) (hIg : g.get? I = none) (hfp : ∀ b ∈ fp, b = I ∨ ∃ o, g.get? b = some o)
    (hst : St 0 h) (hj : J 0 h m news)
    (turn : ∀ i v g' h tk m news, i < n → P i v → St (i + 1) h → J i h m news → FB w p loose mean mg mb g' env.locals h m news → g.StaysIn g' → TK h g' →
      wpAny (model prog w) A (letOwnedTupleGo target (.ref I) v) (fun _ s₁ => wpAny (model prog w) A (assign target env v) (fun _ s₂ => wpAny (model prog w) A (execs body env) (fun f s₃ => match f with
          | .next | .cont => ∃ h' tk' m' news', s₃ = ⟨h', ge, dr, tk', os⟩ ∧ FB w p loose mean mg mb g' env.locals h' m' news' ∧ J (i + 1) h' m' news'
          | .brk => R (.ok .next) s₃
          | .ret v => R (.ok (.ret v)) s₃) (fun _ _ => False) s₂) (fun _ _ => False) s₁) (fun _ _ => False) ⟨h, ge, dr, tk, os⟩)
    (fin : ∀ h tk m news, J n h m news → FB w p loose mean mg mb g env.locals h m news → R (.ok .next) ⟨h, ge, dr, tk, os⟩) :
    codeAny (model prog w) A (.forLoop target (.ref I) body [] env) R ⟨h, ge, dr, tk, os⟩ := by
  refine forLoop_gen (fun k s => ∃ i h tk m news, k = n - i ∧ i ≤ n ∧ s = ⟨h, ge, dr, tk, os⟩ ∧ FB w p loose mean mg mb g env.locals h m news ∧ I ∉ news.map (·.1) ∧ St i h ∧ J i h m news) ?_ n
    ⟨0, h, tk, m, news, rfl, Nat.zero_le _, rfl, f, hIn, hst, hj⟩
  rintro k s ⟨i, h, tk, m, news, rfl, hi, rfl, f, hIn, hst, hj⟩
  obtain ⟨oI, hoI, hnI⟩ := hI i h hst
  have step : ∀ h', (∀ b o, b ∉ [I] → h.get? b = some o → h'.get? b = some o) → FB w p loose mean mg mb g env.locals h' m news ∧ TK h h' := by
    intro h' hk
    have hk' : Ch [I] h h' := fun a o hn e => hk a o hn e
    refine ⟨⟨?_, fun a o e => hk _ _ (by rintro hm; rw [List.mem_singleton] at hm; subst hm; rw [hIg] at e; cases e) (f.keep a o e), f.out, fun q hq => ⟨hk _ _ (fun hm => hIn (by rw [List.mem_singleton] at hm; exact hm ▸ List.mem_map_of_mem hq)) (f.N q hq).1, (f.N q hq).2⟩, f.B⟩,
      TK.of_ch hk' fun q hq vs e => ?_⟩
    · obtain ⟨oL, es, ep, hL, r⟩ := f.ns
      exact ⟨oL, es, ep, hk _ _ (by simpa using Ne.symm hIL) hL, r⟩
    · rw [List.mem_singleton] at hq; subst hq
      rw [hoI] at e; exact hnI vs (Option.some.inj e)
  by_cases hin : i < n
  · refine W.item i ⟨h, ge, dr, tk, os⟩ _ _ hin hst fun v h' tk' hP hst' hk => ?_
    obtain ⟨f', t'⟩ := step h' hk
    have hj' := hJ _ _ _ _ _ t' hj
    obtain ⟨g', f2, st2, ch2, tk2⟩ := f'.rebase (news' := news) (fun _ hq => hq) (hnt _ _ _ _ hj')
    have hIg' : ∃ o, g'.get? I = some o := by
      obtain ⟨o, ho, _⟩ := hI _ _ hst'
      refine ⟨o, ch2 I o ?_ ho⟩
      intro hm
      rcases List.mem_cons.mp hm with e | hm
      · exact hIL e
      · exact hIn hm
    refine wpAny_mono (turn i v g' h' tk' m news hin hP hst' hj' f2 st2 tk2) (fun _ s₁ x => wpAny_mono x (fun _ s₂ x => wpAny_mono x (fun fl s₃ x => ?_) fun _ _ e => e) fun _ _ e => e) fun _ _ e => e
    have next : (∃ h' tk' m' news', s₃ = ⟨h', ge, dr, tk', os⟩ ∧ FB w p loose mean mg mb g' env.locals h' m' news' ∧ J (i + 1) h' m' news') → ∃ k', k' < n - i ∧ ∃ i h tk m news, k' = n - i ∧ i ≤ n ∧ s₃ = ⟨h, ge, dr, tk, os⟩ ∧ FB w p loose mean mg mb g env.locals h m news ∧ I ∉ news.map (·.1) ∧ St i h ∧ J i h m news := by
      rintro ⟨h3, tk3, m3, news3, rfl, f3, j3⟩
      refine ⟨n - (i + 1), by (first | lia | omega), i + 1, h3, tk3, m3, news3, rfl, hin, rfl, f3.back st2 f.B, fun hm => ?_, W.frame _ _ _ hst' fun b hb o e => f3.keep b o ?_, j3⟩
      · obtain ⟨q, hq, e⟩ := List.mem_map.mp hm
        have z := (f3.N q hq).2.2
        rw [e] at z
        obtain ⟨o, ho⟩ := hIg'
        rw [ho] at z; cases z
      · rcases hfp b hb with rfl | ⟨o', ho'⟩
        · obtain ⟨o2, ho2⟩ := hIg'
          rw [ho2]
          exact (f2.keep _ _ ho2).symm.trans e
        · have e1 := st2 _ _ ho'
          rw [e1]
          exact (f2.keep _ _ e1).symm.trans e
    cases fl with
    | next => exact next x
    | cont => exact next x
    | brk => exact x
    | ret v => exact x
  · have e : i = n := by (first | lia | omega)
    subst e
    refine W.done ⟨h, ge, dr, tk, os⟩ _ _ hst fun h' tk' hk => ?_
    obtain ⟨f', t'⟩ := step h' hk
    exact fin h' tk' m news (hJ _ _ _ _ _ t' hj) f'
theorem for_fb {R : Result → Shared → Prop} {target : Expr} {body : List Stmt} {I : Addr} {fp : List Addr} {n : Nat} {P : Nat → Value → Prop} {St : Nat → Heap → Prop} (W : Walks prog w A I fp [I] n P St)
    (hI : ∀ i h, St i h → ∃ o, h.get? I = some o ∧ ∀ vs, o ≠ tupO vs)
    (J : Nat → Heap → (Str → Option Value) → List (Addr × Obj) → Prop)
    (hJ : ∀ i h h' m news, TK h h' → J i h m news → J i h' m news)
    (hnt : ∀ i h m news, J i h m news → ∀ q ∈ news, ∀ vs, q.2 ≠ tupO vs)
    (f : FB w p loose mean mg mb g env.locals h m news) (hIn : I ∉ news.map (·.1)) (hIL : I ≠ env.locals) (hIg : g.get? I = none) (hfp : ∀ b ∈ fp, b = I ∨ ∃ o, g.get? b = some o)
    (hst : St 0 h) (hj : J 0 h m news)
    (turn : ∀ i v g' h tk m news, i < n → P i v → J i h m news → FB w p loose mean mg mb g' env.locals h m news → g.StaysIn g' → TK h g' →
      wpAny (model prog w) A (letOwnedTupleGo target (.ref I) v) (fun _ s₁ => wpAny (model prog w) A (assign target env v) (fun _ s₂ => wpAny (model prog w) A (execs body env) (fun f s₃ => match f with
          | .next | .cont => ∃ h' tk' m' news', s₃ = ⟨h', ge, dr, tk', os⟩ ∧ FB w p loose mean mg mb g' env.locals h' m' news' ∧ J (i + 1) h' m' news'
          | .brk => R (.ok .next) s₃
          | .ret v => R (.ok (.ret v)) s₃) (fun _ _ => False) s₂) (fun _ _ => False) s₁) (fun _ _ => False) ⟨h, ge, dr, tk, os⟩)
    (fin : ∀ h tk m news, J n h m news → FB w p loose mean mg mb g env.locals h m news → R (.ok .next) ⟨h, ge, dr, tk, os⟩) :
    codeAny (model prog w) A (.forLoop target (.ref I) body [] env) R ⟨h, ge, dr, tk, os⟩ :=
  for_fbS W hI J hJ hnt f hIn hIL hIg hfp hst hj (fun i v g' h tk m news hi hP _ hj' => turn i v g' h tk m news hi hP hj') fin
end
end
section
noncomputable abbrev rangeO (a b c : Int) (t u v : Tok) : Obj := { cls := .type "range", dict := none, data := .fields #[.int a t, .int b u, .int c v], slots := #[] }
theorem sub_range_reversed : isSubtype (.type "range_iterator") (.type "reversed") = pure false := by rw [isSubtype_type]; kernel_rfl

theorem range_rev_meets (r : Addr) (a b c : Int) (t u v : Tok)
    (hc0 : ¬(!(Builtin.Range.rangeFitsLong a && Builtin.Range.rangeFitsLong b && Builtin.Range.rangeFitsLong c && Builtin.Range.rangeFitsLong (-c) && Builtin.Range.rangeFitsLong (a - c) && Builtin.Range.rangeFitsLong (Builtin.Range.rangeSize a b c))) = true) :
    Meets (Builtin.«range.__reversed__» ⟨[.ref r], []⟩) (fun _ R s => s.heap.get? r = some { cls := .type "range", dict := none, data := .fields #[.int a t, .int b u, .int c v], slots := #[] } ∧
      R (.ok (.ret (Value.ref s.heap.objs.size))) { s with heap := s.heap.push { cls := Value.type (if (Builtin.Range.rangeFitsLong a && Builtin.Range.rangeFitsLong b && Builtin.Range.rangeFitsLong c && Builtin.Range.rangeFitsLong (-c) && Builtin.Range.rangeFitsLong (a - c) && Builtin.Range.rangeFitsLong (Builtin.Range.rangeSize a b c)) = true then "range_iterator" else "longrange_iterator"), data := Data.fields #[rawInt (a + (Builtin.Range.rangeSize a b c - 1) * c), rawInt (Builtin.Range.rangeSize a b c), rawInt (-c)] } }) :=
  .of_wp fun prog w A R s h => by obtain ⟨hp, g, d, tk, os⟩ := s; obtain ⟨hl, h⟩ := h; wp_walk; exact ⟨_, rfl, h⟩

section
variable {prog : Program} {w : World} {A : Around} {E : Value → Shared → Prop} {p : Program} {loose : List Str} {mean : ExcName → Option Value} {mg mb : Str → Option Value} {g h : Heap} {ge : Array GenState} {dr : Drawn} {tk : Nat} {os : OsState} {env : Env}
  {L : Addr} {m : Str → Option Value} {news : List (Addr × Obj)} {s : Shared}

theorem mw_for {Q : Flow → Shared → Prop} {target iter : Expr} {body : List Stmt} {pos : Pos}
    (q : wpAny (model prog w) A (eval iter env) (fun x s₁ => wpAny (model prog w) A (pyIter x) (fun it s₂ => codeAny (model prog w) A (.forLoop target it body [] env) (fun r s' => match r with | .ok f => Q f s' | .error _ => False) s₂) (fun _ _ => False) s₁) (fun _ _ => False) s)
    (hs : ∀ x, foldedSetIterable iter env x = pure x) : wpAny (model prog w) A (exec (.For target iter body [] pos) env) Q E s :=
  wpAny_For (wpAny_mono q (fun x s₁ x₁ => wpAny_mono x₁ (fun it s₂ x₂ => codeAny_mono x₂ fun r s' x₃ => by cases r with | ok f => exact x₃ | error e => exact x₃.elim) fun _ _ e => e.elim) fun _ _ e => e.elim) hs

theorem mw_asgN {x : Str} {pos : Pos} {v : Value} {Q : Unit → Shared → Prop} (f : FB w p loose mean mg mb g env.locals h m news) (q : ∀ h' tk', FB w p loose mean mg mb g env.locals h' (fun y => if y = x then some v else m y) news → Q () ⟨h', ge, dr, tk', os⟩)
    (hl : env.kindOf x = some .local) (hp : (env.scope.kind == .class || (env.scope.kind == .module && env.locals != env.globals)) = false) : wpAny (model prog w) A (assign (.Name x pos) env v) Q E ⟨h, ge, dr, tk, os⟩ :=
  wpAny_assign_Name (mw_st f q hl hp)
theorem mw_goN {x : Str} {pos : Pos} {it v : Value} {Q : Unit → Shared → Prop} (q : Q () s) : wpAny (model prog w) A (letOwnedTupleGo (.Name x pos) it v) Q E s := wpAny_pure q

theorem FB.fresh (f : FB w p loose mean mg mb g L h m news) (o : Obj) (hf : o.isFreed = false := by rfl) :
    FB w p loose mean mg mb g L (h.push o) m news ∧ (h.push o).get? h.objs.size = some o ∧ h.objs.size ∉ news.map (·.1) ∧ h.objs.size ≠ L ∧ g.get? h.objs.size = none := by
  have f1 := f.push o hf
  have z := f1.N _ (.head _)
  refine ⟨f1.sub fun q hq => .tail _ hq, z.1, fun hm => ?_, z.2.1, z.2.2⟩
  obtain ⟨q, hq, e⟩ := List.mem_map.mp hm
  exact absurd (f.lt q hq) (by rw [e]; exact Nat.lt_irrefl _)

/-- what a new iterator keeps off -/
structure Off (g : Heap) (L : Addr) (news : List (Addr × Obj)) (I : Addr) : Prop where
  n : I ∉ news.map (·.1)
  l : I ≠ L
  g : g.get? I = none

theorem mi_range {b : Int} {t : Tok} {Q : Value → Shared → Prop} (f : FB w p loose mean mg mb g L h m news)
    (q : ∀ r h' tk' u v, FB w p loose mean mg mb g L h' m ((r, rangeO 0 b 1 u t v) :: news) → (∀ q ∈ news, q.1 < r) → Q (.ref r) ⟨h', ge, dr, tk', os⟩) : wpAny (model prog w) A (call (.type "range") [.int b t]) Q E ⟨h, ge, dr, tk, os⟩ :=
  call_range_1 (s := ⟨h, ge, dr, tk, os⟩) (q _ _ _ _ _ (f.push _) f.lt)
theorem mi_rangeIter {r : Addr} {b : Nat} {t u v : Tok} {Q : Value → Shared → Prop} (f : FB w p loose mean mg mb g L h m news) (hm : (r, rangeO 0 b 1 u t v) ∈ news) (hb : b < 2 ^ 62)
    (q : ∀ I h', FB w p loose mean mg mb g L h' m news → Off g L news I → IsRangeIter h' I 0 b 1 → Q (.ref I) ⟨h', ge, dr, tk, os⟩) : wpAny (model prog w) A (pyIter (.ref r)) Q E ⟨h, ge, dr, tk, os⟩ := by
  refine wpAny_pyIter_range (s := ⟨h, ge, dr, tk, os⟩) (f.at_ hm) (small_one (by (first | lia | omega)) (by (first | lia | omega)) (by (first | lia | omega)) (by (first | lia | omega))) ?_
  obtain ⟨f1, e1, e2, e3, e4⟩ := f.fresh { cls := .type "range_iterator", data := .fields #[rawInt 0, rawInt (Builtin.Range.rangeSize 0 b 1), rawInt 1] }
  refine q _ _ f1 ⟨e2, e3, e4⟩ ?_
  rw [rangeSize_one] at e1
  have e : (if (0 : Int) < (b : Nat) then ((b : Nat) : Int) - 0 else 0) = (b : Nat) := by split <;> (first | lia | omega)
  rw [e] at e1
  rw [rangeSize_one, e]
  exact e1
theorem code_reversed_range {r : Addr} {a b : Int} {t u v : Tok} {Q₁ : Value → Shared → Prop} (hr : s.heap.get? r = some (rangeO a b 1 t u v)) (ha : -(2 ^ 62) ≤ a ∧ a < 2 ^ 62) (hb : -(2 ^ 62) ≤ b ∧ b < 2 ^ 62)
    (h : Q₁ (.ref s.heap.objs.size) { s with heap := s.heap.push { cls := .type "range_iterator", data := .fields #[rawInt (a + (Builtin.Range.rangeSize a b 1 - 1) * 1), rawInt (Builtin.Range.rangeSize a b 1), rawInt (-1)] } }) :
    codeAny (model prog w) A (.call (.builtin "reversed.__new__") ⟨[.type "reversed", .ref r], []⟩) (wants Q₁ E) s := by
  have hT : s.TypeIs (.ref r) "range" := ⟨_, hr, rfl⟩
  refine codeAny_of_tree ?_
  show wpAny _ A.in1 (do checkBuiltinCall "reversed.__new__" ⟨[.type "reversed", .ref r], []⟩; again (.builtin "reversed.__new__" ⟨[.type "reversed", .ref r], []⟩)) _ _ s
  refine wpAny_bind (wpAny_of_eq (F.newCall_reversed_1 _) (wpAny_pure ⟨plainId_quiet F.plain_reversed_new _, codeAny_builtin F.entry_reversed_new ?_⟩))
  rw [Around.under_plainId F.plain_reversed_new _]
  unfold Builtin.«reversed.__new__»
  refine wpAny_bind (wpAny_of_eq (newClass_reversed _) ?_)
  try dsimp only
  refine wpAny_bind (wpAny_of_eq (a := ()) (by first | rfl | kernel_rfl) ?_)
  refine wpAny_bind (wpAny_of_eq (a := ()) (by first | rfl | kernel_rfl) ?_)
  try dsimp only
  refine wpAny_bind (wpAny_specialOf hT F.slot_range_reversed.lookup ?_)
  try dsimp only
  refine wpAny_bind (wpAny_of_eq (F.slot_range_reversed.bind _) ?_)
  try dsimp only
  first
  | rw [if_neg (show ¬ ((Value.builtin "range.__reversed__" == Value.none) = true) from Bool.false_ne_true)]
  | (show wpAny _ _ (if (Value.builtin "range.__reversed__" == Value.none) = true then _ else _) _ _ _; rw [if_neg (show ¬ ((Value.builtin "range.__reversed__" == Value.none) = true) from Bool.false_ne_true)])
  refine wpAny_bind (wpAny_rule ?_)
  have one : wpAny (model prog w) A.in1 (call (.builtin "range.__reversed__") [.ref r]) Q₁ E s := by
    have sm : (Builtin.Range.rangeFitsLong a && Builtin.Range.rangeFitsLong b && Builtin.Range.rangeFitsLong 1 && Builtin.Range.rangeFitsLong (-1) && Builtin.Range.rangeFitsLong (a - 1) && Builtin.Range.rangeFitsLong (Builtin.Range.rangeSize a b 1)) = true := by
      rw [rangeSize_one]
      simp only [Builtin.Range.rangeFitsLong, Bool.and_eq_true, decide_eq_true_eq]
      split <;> (first | lia | omega)
    refine call_meets F.slot_range_reversed hT F.entry_range_reversed (F.args_range_reversed_1 _) (range_rev_meets r a b 1 t u v (by rw [sm]; decide)) ⟨hr, ?_⟩
    simp only [sm, if_true]
    exact h
  refine wpAny_bind (m := runValue (.call (.builtin "range.__reversed__") ⟨[.ref r], []⟩)) (wpAny_mono (show wpAny _ _ (call (.builtin "range.__reversed__") [.ref r]) _ _ _ from one) (fun v s' hv => ?_) fun _ _ e => e)
  first
  | exact wpAny_pure hv
  | exact wpAny_bind (wpAny_pure (wpAny_pure hv))
theorem mi_reversed {r : Addr} {b : Nat} {t u v : Tok} {Q : Value → Shared → Prop} (f : FB w p loose mean mg mb g L h m news) (hm : (r, rangeO 0 b 1 u t v) ∈ news) (hb : b < 2 ^ 62)
    (q : ∀ I h', FB w p loose mean mg mb g L h' m news → Off g L news I → IsRangeIter h' I ((b : Nat) - 1) b (-1) → Q (.ref I) ⟨h', ge, dr, tk, os⟩) : wpAny (model prog w) A (call (.type "reversed") [.ref r]) Q E ⟨h, ge, dr, tk, os⟩ := by
  refine callType_other (s := ⟨h, ge, dr, tk, os⟩) (U := "range_iterator") (Q₁ := fun obj s₁ => obj = .ref h.objs.size ∧ s₁ = ⟨h.push { cls := .type "range_iterator", data := .fields #[rawInt (0 + (Builtin.Range.rangeSize 0 b 1 - 1) * 1), rawInt (Builtin.Range.rangeSize 0 b 1), rawInt (-1)] }, ge, dr, tk, os⟩)
    (by decide +kernel) F.create_reversed ⟨_, _, F.mro_reversed⟩ F.made_reversed sub_range_reversed (F.typeCall_reversed_1 _) (code_reversed_range (f.at_ hm) (by (first | lia | omega)) (by (first | lia | omega)) ⟨rfl, rfl⟩) ?_
  rintro obj s₁ ⟨rfl, rfl⟩
  obtain ⟨f1, e1, e2, e3, e4⟩ := f.fresh { cls := .type "range_iterator", data := .fields #[rawInt (0 + (Builtin.Range.rangeSize 0 b 1 - 1) * 1), rawInt (Builtin.Range.rangeSize 0 b 1), rawInt (-1)] }
  refine ⟨⟨_, e1, rfl⟩, q _ _ f1 ⟨e2, e3, e4⟩ ?_⟩
  rw [rangeSize_one] at e1
  have e : (if (0 : Int) < (b : Nat) then ((b : Nat) : Int) - 0 else 0) = (b : Nat) := by split <;> (first | lia | omega)
  have e5 : (0 : Int) + ((b : Nat) - 1) * 1 = (b : Nat) - 1 := by (first | lia | omega)
  rw [e, e5] at e1
  rw [rangeSize_one, e, e5]
  exact e1
theorem mi_rangeSelf {I : Addr} {x left step : Int} {Q : Value → Shared → Prop} (hi : IsRangeIter h I x left step) (q : Q (.ref I) ⟨h, ge, dr, tk, os⟩) : wpAny (model prog w) A (pyIter (.ref I)) Q E ⟨h, ge, dr, tk, os⟩ :=
  wpAny_pyIter_rangeiter (s := ⟨h, ge, dr, tk, os⟩) hi q
theorem mk_ty {pos : Pos} {T : String} {e : Expr} {rest : List Expr} {Q : Value → Shared → Prop} (q : wpAny (model prog w) A (spliced (backTo pos (starEach (e :: rest) env))) (fun vs s₁ => wpAny (model prog w) A (call (.type T) vs) Q E s₁) E s)
    (he : starEach (e :: rest) env = (false, eval e env) :: starEach rest env) (hp : (backTo pos (starEach rest env)).any (·.1) = false) : wpAny (model prog w) A (callWith pos (.type T) [] (backTo pos (starEach (e :: rest) env)) []) Q E s :=
  PyProof.Rows.callWith_type1 q he hp
theorem mo_fdiv {a b : Int} {t u : Tok} {Q : Value → Shared → Prop} (hb : b ≠ 0) (hs : b.natAbs < 1073741824) (q : ∀ t' tk', Q (.int (a.fdiv b) t') ⟨h, ge, dr, tk', os⟩) : wpAny (model prog w) A (binaryOp .FloorDiv (.int a t) (.int b u)) Q E ⟨h, ge, dr, tk, os⟩ :=
  floordiv_int hb (q _ _) (.inl (PyProof.noPylong_small hs))
theorem mo_mod {a b : Int} {t u : Tok} {Q : Value → Shared → Prop} (hb : b ≠ 0) (q : ∀ t' tk', Q (.int (a.fmod b) t') ⟨h, ge, dr, tk', os⟩) : wpAny (model prog w) A (binaryOp .Mod (.int a t) (.int b u)) Q E ⟨h, ge, dr, tk, os⟩ :=
  mod_int' hb (q _ _)
theorem fdiv_nat (a b : Nat) : ((a : Int).fdiv (b : Nat)) = ((a / b : Nat) : Int) := by
  rw [Int.fdiv_eq_ediv_of_nonneg _ (by (first | lia | omega))]; rfl
end
end
section
noncomputable def hify {κ : Type} (lt : κ → κ → Bool) : Nat → List κ → List κ
  | 0, ks => ks
  | k + 1, ks => hify lt k (match ks[k]? with | some x => siftup lt x k ks | none => ks)
theorem hify_step {κ : Type} {lt : κ → κ → Bool} {k : Nat} {ks : List κ} {x : κ} (h : ks[k]? = some x) : hify lt (k + 1) ks = hify lt k (siftup lt x k ks) := by
  rw [hify, h]
theorem sdF_length {κ : Type} (lt : κ → κ → Bool) (st : Nat) (x : κ) (pos : Nat) (ks : List κ) : (sdF lt st x pos ks).length = ks.length := by
  induction pos using Nat.strongRecOn generalizing ks with
  | ind pos ih =>
    unfold sdF
    split
    · split
      · split
        · rw [ih _ (by (first | lia | omega))]; simp
        · simp
      · simp
    · simp
theorem suF_length {κ : Type} (lt : κ → κ → Bool) (pos : Nat) (ks : List κ) : (suF lt pos ks).2.length = ks.length := by
  generalize hn : ks.length - pos = n
  induction n using Nat.strongRecOn generalizing pos ks with
  | ind n ih =>
    by_cases h : 2 * pos + 1 < ks.length
    · obtain ⟨y, hy⟩ : ∃ y, ks[suPick lt ks (2 * pos + 1)]? = some y := ⟨_, List.getElem?_eq_getElem (suPick_lt lt ks _ h)⟩
      have h2 := suPick_ge lt ks (2 * pos + 1)
      rw [suF_step h hy, ih (ks.length - suPick lt ks (2 * pos + 1)) (by (first | lia | omega)) _ _ (by simp)]
      simp
    · rw [suF_end h]
theorem siftup_length {κ : Type} (lt : κ → κ → Bool) (x : κ) (pos : Nat) (ks : List κ) : (siftup lt x pos ks).length = ks.length := by
  unfold siftup
  rw [sdF_length, List.length_set, suF_length]
section
variable {prog : Program} {w : World} {A : Around} {E : Value → Shared → Prop} {p : Program} {loose : List Str} {mean : ExcName → Option Value} {mg mb : Str → Option Value} {b h : Heap} {ge : Array GenState} {dr : Drawn} {tk : Nat} {os : OsState}
  {κ : Type} (V : Ordv κ) {l : Addr} {vs : List Value} {ks : List κ} {c : Nat} {Q : Value → Shared → Prop}

theorem heapify_spec (B : Base w p loose mean mg mb b) (hb : b.StaysIn h) (hl : h.get? l = some (listOf vs.toArray c)) (hlb : b.get? l = none) (hr : RelL (V.rel h) vs ks)
    (hz : ks.length ≤ 1000000) (hd : A.depth + 2 < recursionLimit) (hu : A.units + 40 < cLine) (hh : A.handled = none)
    (hQ : ∀ h' tk' vs' c', Ch [l] h h' → h'.get? l = some (listOf vs'.toArray c') → RelL (V.rel h') vs' (hify V.lt (ks.length / 2) ks) → Q .none ⟨h', ge, dr, tk', os⟩) :
    wpAny (model prog w) A (call (.ref 53) [.ref l]) Q E ⟨h, ge, dr, tk, os⟩ := by
  have BX := B.X
  have hvl := hr.1
  refine' mk_enter (news := [(l, listOf vs.toArray c)]) (binds := [("x", .ref l)]) B hb (by simp [hl, hlb]) ?k6 ?k7 (by (first | lia | omega)) ?k9 ?kB ?_ ?c2 ?c3 ?c4 ?c5
  case k6 => k_is
  case k7 => k_is
  case k9 => exact fun _ => BindsTo.of_eq rfl
  case kB => exact locs rfl
  case c2 => exact rfl
  case c3 => exact rfl
  case c4 => exact rfl
  case c5 => decide
  intro g L h₁ tk₁ fb hg tg hbg
  clear BX
  have X := fb.B.X
  have hr' := hr.mono fun _ _ => V.keep tg
  walk_at "go"
  refine mw_for ?_ (fun _ => rfl)
  walk_at "go"
  refine mk_ty ?_ rfl rfl
  walk_at "go"
  refine mk_ty ?_ rfl rfl
  walk_at "go"
  refine mo_fdiv (by decide) (by decide) ?_
  intro t2 tk2
  walk_at "go"
  rw [show ((vs.length : Int).fdiv 2) = ((ks.length / 2 : Nat) : Int) by rw [hvl]; exact fdiv_nat _ 2]
  (with_reducible rename FB _ _ _ _ _ _ _ _ _ _ _ => f2)
  refine mi_range f2 ?_
  intro r h3 tk3 u v f3 lr
  have hrl : l < r := lr _ (.head _)
  walk_at "go"
  refine mi_reversed f3 (by k_mem) (by (first | lia | omega)) ?_
  intro I h4 f4 of4 hi4
  refine mi_rangeSelf hi4 ?_
  have f5 := f4.sub (news' := [(l, listOf vs.toArray c)]) (fun q hq => .tail _ hq)
  refine for_fb (Walks.range (prog := prog) (w := w) (by exact hh) I ((ks.length / 2 : Nat) - 1) (-1) (ks.length / 2)) (fun i h hi => ⟨_, hi, rit_ne _⟩)
    (fun i h m news => ∃ vs' ks' c', news = [(l, listOf vs'.toArray c')] ∧ RelL (V.rel h) vs' ks' ∧ ks'.length = ks.length ∧ m "x" = some (.ref l) ∧ hify V.lt (ks.length / 2 - i) ks' = hify V.lt (ks.length / 2) ks)
    ?hJ ?hnt f5 (fun hm => of4.n (by simp at hm ⊢; exact .inr hm)) of4.l of4.g (fun b hb => .inl (by simpa using hb)) (by simpa using hi4) ⟨vs, ks, c, rfl, ?_, rfl, rfl, rfl⟩ ?turn ?fin
  case hJ =>
    rintro i h h' m news t ⟨vs', ks', c', e1, e2, e3⟩
    exact ⟨vs', ks', c', e1, e2.mono fun _ _ => V.keep t, e3⟩
  case hnt =>
    rintro i h m news ⟨vs', ks', c', rfl, _⟩ q hq vs
    rw [List.mem_singleton] at hq; subst hq
    exact lst_ne _ _ vs
  case turn =>
    rintro i v g' h tk m news hi ⟨t, rfl⟩ ⟨vs', ks', c', rfl, R, hlen, m1, e⟩ f st2 tk2
    have hk : ((ks.length / 2 : Nat) : Int) - 1 + (i : Int) * -1 = ((ks.length / 2 - 1 - i : Nat) : Int) := by (first | lia | omega)
    rw [hk]
    refine mw_goN (mw_asgN f ?_ rfl rfl)
    intro h7 tk7 f7
    refine wpHide ?_
    intro Q1 hQ1
    obtain ⟨x, hx⟩ : ∃ x, ks'[ks.length / 2 - 1 - i]? = some x := ⟨_, List.getElem?_eq_getElem (by (first | lia | omega))⟩
    walk_at "go"
    (with_reducible rename FB _ _ _ _ _ _ _ _ _ _ _ => f8)
    refine siftup_spec V (x := x) f8.B f8.keep (f8.at_ (.head _)) (f8.new_ (.head _)) (R.mono fun _ _ => V.keep (tk2.trans (TK.of_keep f8.keep))) hx (by (first | lia | omega)) ?_ ?_ ?_
    · show A.depth + 1 + 1 < _; exact bdk (by assumption) (by decide)
    · show A.units + 3 + 30 < _; exact bdk (by assumption) (by decide)
    intro h9 tk9 vs9 c9 C9 hl9 R9
    have f9 := f8.ch C9 (o' := listOf vs9.toArray c9) (by k_upd) hl9
    walk_at "go"
    refine hQ1 _ _ ⟨_, _, _, _, rfl, f9, vs9, _, c9, rfl, R9, by rw [siftup_length, hlen], m1, ?_⟩
    rw [← e, show ks.length / 2 - i = (ks.length / 2 - (i + 1)) + 1 by (first | lia | omega), hify_step (by rw [show ks.length / 2 - (i + 1) = ks.length / 2 - 1 - i by (first | lia | omega)]; exact hx), show ks.length / 2 - (i + 1) = ks.length / 2 - 1 - i by (first | lia | omega)]
  case fin =>
    rintro h tk m news ⟨vs', ks', c', rfl, R, hlen, m1, e⟩ f
    walk_at "go"
    refine hQ _ _ vs' c' (ch_of (by simpa using hg) f) (f.at_ (.head _)) ?_
    rw [← e, Nat.sub_self]
    exact R
  exact hr'.mono fun _ _ => V.keep (TK.of_keep f5.keep)
end
end
section
section
variable {prog : Program} {w : World} {A : Around} {E : Value → Shared → Prop} {p : Program} {loose : List Str} {mean : ExcName → Option Value} {mg mb : Str → Option Value} {g h : Heap} {ge : Array GenState} {dr : Drawn} {tk : Nat} {os : OsState} {L : Addr}
  {m : Str → Option Value} {news : List (Addr × Obj)}
/-- what walks, whatever a turn does -/
theorem walk_turn {I : Addr} {fp : List Addr} {n : Nat} {P : Nat → Value → Prop} {St : Nat → Heap → Prop} (W : Walks prog w A I fp [I] n P St) (X : Shared → Prop) (T : Value → (Shared → Prop) → Shared → Prop) (Tm : ∀ v X Y s, (∀ s, X s → Y s) → T v X s → T v Y s)
    (hI : ∀ i h, St i h → ∃ o, h.get? I = some o ∧ ∀ vs, o ≠ tupO vs)
    (J : Nat → Heap → (Str → Option Value) → List (Addr × Obj) → Prop)
    (hJ : ∀ i h h' m news, TK h h' → J i h m news → J i h' m news)
    (hnt : ∀ i h m news, J i h m news → ∀ q ∈ news, ∀ vs, q.2 ≠ tupO vs)
    (f : FB w p loose mean mg mb g L h m news) (hIn : I ∉ news.map (·.1)) (hIL : I ≠ L) (hIg : g.get? I = none) (hfp : ∀ b ∈ fp, b = I ∨ ∃ o, g.get? b = some o)
    (hst : St 0 h) (hj : J 0 h m news)
    (turn : ∀ i v g' h tk m news, i < n → P i v → J i h m news → FB w p loose mean mg mb g' L h m news → g.StaysIn g' → TK h g' →
      T v (fun s₃ => ∃ h' tk' m' news', s₃ = ⟨h', ge, dr, tk', os⟩ ∧ FB w p loose mean mg mb g' L h' m' news' ∧ J (i + 1) h' m' news') ⟨h, ge, dr, tk, os⟩)
    (fin : ∀ h tk m news, J n h m news → FB w p loose mean mg mb g L h m news → X ⟨h, ge, dr, tk, os⟩) :
    ∃ Iv : Nat → Shared → Prop, (∃ k, Iv k ⟨h, ge, dr, tk, os⟩) ∧ (∀ k s, Iv k s → ∃ i, St i s.heap) ∧ ∀ k s, Iv k s → wpAny (model prog w) A (pyNext (.ref I)) (fun r s₁ => match r with
      | none => X s₁
      | some v => T v (fun s₃ => ∃ k', k' < k ∧ Iv k' s₃) s₁) (fun _ _ => False) s := by
  refine ⟨fun k s => ∃ i h tk m news, k = n - i ∧ i ≤ n ∧ s = ⟨h, ge, dr, tk, os⟩ ∧ FB w p loose mean mg mb g L h m news ∧ I ∉ news.map (·.1) ∧ St i h ∧ J i h m news,
    ⟨n, 0, h, tk, m, news, rfl, Nat.zero_le _, rfl, f, hIn, hst, hj⟩, ?_, ?_⟩
  · rintro k s ⟨i, h, tk, m, news, rfl, hi, rfl, f, hIn, hst, hj⟩
    exact ⟨i, hst⟩
  rintro k s ⟨i, h, tk, m, news, rfl, hi, rfl, f, hIn, hst, hj⟩
  obtain ⟨oI, hoI, hnI⟩ := hI i h hst
  have step : ∀ h', (∀ b o, b ∉ [I] → h.get? b = some o → h'.get? b = some o) → FB w p loose mean mg mb g L h' m news ∧ TK h h' := by
    intro h' hk
    have hk' : Ch [I] h h' := fun a o hn e => hk a o hn e
    refine ⟨⟨?_, fun a o e => hk _ _ (by rintro hm; rw [List.mem_singleton] at hm; subst hm; rw [hIg] at e; cases e) (f.keep a o e), f.out, fun q hq => ⟨hk _ _ (fun hm => hIn (by rw [List.mem_singleton] at hm; exact hm ▸ List.mem_map_of_mem hq)) (f.N q hq).1, (f.N q hq).2⟩, f.B⟩,
      TK.of_ch hk' fun q hq vs e => ?_⟩
    · obtain ⟨oL, es, ep, hL, r⟩ := f.ns
      exact ⟨oL, es, ep, hk _ _ (by simpa using Ne.symm hIL) hL, r⟩
    · rw [List.mem_singleton] at hq; subst hq
      rw [hoI] at e; exact hnI vs (Option.some.inj e)
  by_cases hin : i < n
  · refine W.item i ⟨h, ge, dr, tk, os⟩ _ _ hin hst fun v h' tk' hP hst' hk => ?_
    obtain ⟨f', t'⟩ := step h' hk
    have hj' := hJ _ _ _ _ _ t' hj
    obtain ⟨g', f2, st2, ch2, tk2⟩ := f'.rebase (news' := news) (fun _ hq => hq) (hnt _ _ _ _ hj')
    have hIg' : ∃ o, g'.get? I = some o := by
      obtain ⟨o, ho, _⟩ := hI _ _ hst'
      refine ⟨o, ch2 I o ?_ ho⟩
      intro hm
      rcases List.mem_cons.mp hm with e | hm
      · exact hIL e
      · exact hIn hm
    refine Tm v _ _ _ ?_ (turn i v g' h' tk' m news hin hP hj' f2 st2 tk2)
    rintro s₃ ⟨h3, tk3, m3, news3, rfl, f3, j3⟩
    refine ⟨n - (i + 1), by (first | lia | omega), i + 1, h3, tk3, m3, news3, rfl, hin, rfl, f3.back st2 f.B, fun hm => ?_, W.frame _ _ _ hst' fun b hb o e => f3.keep b o ?_, j3⟩
    · obtain ⟨q, hq, e⟩ := List.mem_map.mp hm
      have z := (f3.N q hq).2.2
      rw [e] at z
      obtain ⟨o, ho⟩ := hIg'
      rw [ho] at z; cases z
    · rcases hfp b hb with rfl | ⟨o', ho'⟩
      · obtain ⟨o2, ho2⟩ := hIg'
        rw [ho2]
        exact (f2.keep _ _ ho2).symm.trans e
      · have e1 := st2 _ _ ho'
        rw [e1]
        exact (f2.keep _ _ e1).symm.trans e
  · have e : i = n := by (first | lia | omega)
    subst e
    refine W.done ⟨h, ge, dr, tk, os⟩ _ _ hst fun h' tk' hk => ?_
    obtain ⟨f', t'⟩ := step h' hk
    exact fin h' tk' m news (hJ _ _ _ _ _ t' hj) f'
end
noncomputable def compTests (ifs : List Expr) (env : Env) : Sem Bool := forIn ifs true fun c r => if r = true then do let ok ← isTrue c env (eval c env); pure (ForInStep.yield ok) else pure (ForInStep.yield r)
noncomputable def compForm (target : Expr) (ipos : Pos) (ifs : List Expr) (inner : Sem Fin → Sem Fin) (e : Expr) (d : Nat) (it acc : Value) (env : Env) : Sem Fin :=
  standAt ipos >>= fun _ => pyNext it >>= fun r => match r with
    | none => pure (.done .next)
    | some v => letOwnedTupleGo target it v >>= fun _ => assign target env v >>= fun _ => compTests ifs env >>= fun ok =>
      if ok = true then inner (again (.compLoop e d it acc env)) else again (.compLoop e d it acc env)
noncomputable def compEmit (elt : Expr) (acc : Value) (env : Env) (k : Sem Fin) : Sem Fin := (do let _ ← call (.builtin "list.append") [acc, ← eval elt env]; pure ()) >>= fun _ => k
theorem comp_form1 (elt target iter : Expr) (ifs : List Expr) (scope : Scope) (pos : Pos) (it acc : Value) (env : Env) : compTurn (.ListComp elt [⟨target, iter, ifs, 0⟩] scope pos) 0 it acc env =
    compForm target iter.pos ifs (compEmit elt acc env) (.ListComp elt [⟨target, iter, ifs, 0⟩] scope pos) 0 it acc env := by rfl
section
variable {prog : Program} {w : World} {A : Around} {E : Value → Shared → Prop} {env : Env} {s : Shared}
/-- what a turn must do -/
noncomputable def CompT (prog : Program) (w : World) (A : Around) (env : Env) (target : Expr) (ifs : List Expr) (it : Value) (inner : (Shared → Prop) → Shared → Prop) (v : Value) (X : Shared → Prop) (s : Shared) : Prop :=
  wpAny (model prog w) A (letOwnedTupleGo target it v) (fun _ s₁ => wpAny (model prog w) A (assign target env v) (fun _ s₂ => wpAny (model prog w) A (compTests ifs env) (fun ok s₃ =>
    if ok = true then inner X s₃ else X s₃) (fun _ _ => False) s₂) (fun _ _ => False) s₁) (fun _ _ => False) s
theorem CompT.mono {target : Expr} {ifs : List Expr} {it : Value} {inner : (Shared → Prop) → Shared → Prop} (hm : ∀ X Y s, (∀ s, X s → Y s) → inner X s → inner Y s) (v : Value) (X Y : Shared → Prop) (s : Shared) (h : ∀ s, X s → Y s) (x : CompT prog w A env target ifs it inner v X s) :
    CompT prog w A env target ifs it inner v Y s := wpAny_mono x (fun _ _ x => wpAny_mono x (fun _ _ x => wpAny_mono x (fun ok s₃ x => by
      cases ok with
      | true => simp only [if_true] at x ⊢; exact hm _ _ _ h x
      | false => simp only [Bool.false_eq_true, if_false] at x ⊢; exact h _ x) fun _ _ e => e) fun _ _ e => e) fun _ _ e => e
theorem compLoop_gen {e : Expr} {d : Nat} {it acc : Value} {target : Expr} {ipos : Pos} {ifs : List Expr} {inner : Sem Fin → Sem Fin} {inner' : (Shared → Prop) → Shared → Prop} {R : Result → Shared → Prop}
    (heq : compTurn e d it acc env = compForm target ipos ifs inner e d it acc env) (hfr : (Code.compLoop e d it acc env).isFrame = false) (hq : (Code.compLoop e d it acc env).quiet = true) (hA : A.under (Code.compLoop e d it acc env) = A)
    (hin : ∀ X s, inner' X s → ∀ k Q', (∀ s, X s → wpAny (model prog w) A k Q' (fun _ _ => False) s) → wpAny (model prog w) A (inner k) Q' (fun _ _ => False) s)
    (I : Nat → Shared → Prop)
    (turn : ∀ n s, I n s → wpAny (model prog w) A (pyNext it) (fun r s₁ => match r with
      | none => R (.ok .next) s₁
      | some v => CompT prog w A env target ifs it inner' v (fun s₃ => ∃ m, m < n ∧ I m s₃) s₁) (fun _ _ => False) s)
    (n : Nat) (h : I n s) : codeAny (model prog w) A (.compLoop e d it acc env) R s := by
  refine codeAny_loop hq I (fun n s hI => ?_) n h
  rw [hA]
  show wpAny _ _ (if (Code.compLoop e d it acc env).isFrame = true then (compTurn e d it acc env).onRaise (leaving env) else (compTurn e d it acc env).onRaise (fun x => do noteFrame x env; theTreesLotGoes x)) _ _ s
  rw [if_neg (by rw [hfr]; decide)]
  refine wpAny_noted ?_
  rw [heq]
  unfold compForm
  refine wpAny_mono (Q := fun fin s' => match fin with | .done f => R (.ok f) s' | .again c' => c' = Code.compLoop e d it acc env ∧ ∃ m, m < n ∧ I m s') (E := fun _ _ => False) (wpAny_bind (wpAny_standAt (wpAny_bind (wpAny_mono (turn n s hI) (fun r s₁ h₁ => ?_) fun _ _ h' => h')))) (fun _ _ x => x) fun _ _ x => x.elim
  cases r with
  | none => exact wpAny_pure h₁
  | some v =>
    refine wpAny_bind (wpAny_mono h₁ (fun _ s₁ h₁ => wpAny_bind (wpAny_mono h₁ (fun _ s₂ h₂ => wpAny_bind (wpAny_mono h₂ (fun ok s₃ h₃ => ?_) fun _ _ h' => h')) fun _ _ h' => h')) fun _ _ h' => h')
    cases ok with
    | false => simp only [Bool.false_eq_true, if_false] at h₃ ⊢; exact wpAny_pure ⟨rfl, h₃⟩
    | true => simp only [if_true] at h₃ ⊢; exact hin _ _ h₃ _ _ fun s hs => wpAny_pure ⟨rfl, hs⟩
/-- an element laid down -/
noncomputable def emitP (prog : Program) (w : World) (A : Around) (elt : Expr) (acc : Value) (env : Env) (X : Shared → Prop) (s : Shared) : Prop :=
  wpAny (model prog w) A (eval elt env) (fun x s₁ => wpAny (model prog w) A (call (.builtin "list.append") [acc, x]) (fun _ s₂ => X s₂) (fun _ _ => False) s₁) (fun _ _ => False) s
theorem emit_ok {elt : Expr} {acc : Value} (X : Shared → Prop) (s : Shared) (h : emitP prog w A elt acc env X s) (k : Sem Fin) (Q' : Fin → Shared → Prop) (hk : ∀ s, X s → wpAny (model prog w) A k Q' (fun _ _ => False) s) :
    wpAny (model prog w) A (compEmit elt acc env k) Q' (fun _ _ => False) s := by
  unfold compEmit
  exact wpAny_bind (wpAny_bind (wpAny_mono h (fun x s₁ h₁ => wpAny_bind (wpAny_mono h₁ (fun _ s₂ h₂ => wpAny_pure (hk _ h₂)) fun _ _ e => e)) fun _ _ e => e))
theorem compStart_gen {elt : Expr} {gens : List Comprehension} {scope : Scope} {pos : Pos} {d : Nat} {it acc : Value} {gc : Comprehension} {R : Result → Shared → Prop} (hg : gens[d]? = some gc) (ha : gc.is_async = 0) (hA : A.under (Code.compStart (.ListComp elt gens scope pos) d it acc env) = A)
    (h0 : codeAny (model prog w) A (.compLoop (.ListComp elt gens scope pos) d it acc env) R s)
    (h : wpAny (model prog w) A (pyIter it) (fun it' s' => codeAny (model prog w) A (.compLoop (.ListComp elt gens scope pos) d it' acc env) R s') (fun _ _ => False) s) :
    codeAny (model prog w) A (.compStart (.ListComp elt gens scope pos) d it acc env) R s := by
  refine codeAny_of_tree ?_
  rw [hA]
  show wpAny _ _ ((compStart (.ListComp elt gens scope pos) d it acc env).onRaise (fun x => do noteFrame x env; standAt theWindowsPlace)) _ _ s
  refine wpAny_notedAt ?_
  unfold compStart
  have e1 : (clausesOf (.ListComp elt gens scope pos))[d]? = some gc := hg
  rw [e1]
  simp only [Option.elim_some, ha, bne_self_eq_false, Bool.false_eq_true, if_false]
  refine wpAny_bind (wpAny_askSetting (wpAny_ite ?_))
  split
  · exact wpAny_pure (And.intro rfl h0)
  · refine wpAny_bind (wpAny_rule ?_)
    refine wpAny_bind (wpAny_standAt (wpAny_bind (wpAny_mono h (fun it' s' h' => wpAny_pure (And.intro rfl h')) fun _ _ x => x.elim)))
end
end
section
section
variable {prog : Program} {w : World} {A : Around} {E : Value → Shared → Prop} {p : Program} {loose : List Str} {mean : ExcName → Option Value} {mg mb : Str → Option Value} {g h : Heap} {ge : Array GenState} {dr : Drawn} {tk : Nat} {os : OsState} {L : Addr} {env : Env}
  {m : Str → Option Value} {news : List (Addr × Obj)}
theorem mw_comp {elt target iter : Expr} {ifs : List Expr} {rest : List Comprehension} {scope : Scope} {cl : List (Str × Addr)} {pos : Pos} {s : Shared} {Q : Value → Shared → Prop}
    (h : wpAny (model prog w) A (eval iter env) (fun x s₁ => wpAny (model prog w) A (pyIter x) (fun it s₂ => wpAny (model prog w) A (newList []) (fun acc s₃ =>
      wpAny (model prog w) A (newFunctionEnv scope env.globals cl [] env.qual none .none (some env)) (fun cenv s₄ =>
        codeAny (model prog w) A (.compStart (.ListComp elt (⟨target, iter, ifs, 0⟩ :: rest) scope pos) 0 it acc { cenv with scope := relabel scope env }) (compPost (model prog w) A E none Q acc cenv.locals) s₄) E s₃) E s₂) E s₁) E s)
    (hclos : closureFor scope env = pure cl) (hs : ∀ x, foldedSetIterable iter env x = pure x) (hkind : scope.kind = .function) (hnames : ∀ x ∈ scope.names, x.2 = .local → scope.names.lookup x.1 = some .local) :
    wpAny (model prog w) A (eval (.ListComp elt (⟨target, iter, ifs, 0⟩ :: rest) scope pos) env) Q E s := by
  rw [eval_ListComp]
  exact wpAny_comprehension_free (use := none) rfl hs hclos hkind hnames h
theorem FB.hide (f : FB w p loose mean mg mb g L h m news) {hs : List Addr} (hl : ∀ a ∈ hs, a ≠ L ∧ g.get? a = none) :
    g.StaysIn (hideAll h (hs ++ news.map (·.1))) ∧ (∃ oL es ep, (hideAll h (hs ++ news.map (·.1))).get? L = some oL ∧ oL.data = .dict es ep) ∧ Base w p loose mean mg mb (hideAll h (hs ++ news.map (·.1))) := by
  have st : g.StaysIn (hideAll h (hs ++ news.map (·.1))) := fun a o e => hideAll_get _ (f.keep a o e) fun hm => by
    rcases List.mem_append.mp hm with hm | hm
    · rw [(hl a hm).2] at e; cases e
    · obtain ⟨q, hq, rfl⟩ := List.mem_map.mp hm
      rw [(f.N q hq).2.2] at e; cases e
  refine ⟨st, ?_, f.B.keeps st⟩
  obtain ⟨oL, es, ep, hL, hd, _⟩ := f.ns
  refine ⟨oL, es, ep, hideAll_get _ hL fun hm => ?_, hd⟩
  rcases List.mem_append.mp hm with hm | hm
  · exact (hl L hm).1 rfl
  · obtain ⟨q, hq, e⟩ := List.mem_map.mp hm
    exact (f.N q hq).2.1 e
/-- a comprehension's own frame, over the frame of its def -/
theorem comp_enter (f : FB w p loose mean mg mb g L h m news) {I : Addr} (hIL : I ≠ L) (hIg : g.get? I = none) (hIn : I ∉ news.map (·.1)) (hIh : ∃ o, h.get? I = some o ∧ ∀ vs, o ≠ tupO vs) (hnt : ∀ q ∈ news, ∀ vs, q.2 ≠ tupO vs)
    {scope : Scope} {cl : List (Str × Addr)} {e : Expr} {it : Value} {Q : Value → Shared → Prop} (hcell : ∀ y ∈ scope.names, y.2 ≠ .cell) (hkind : scope.kind = .function)
    (q : ∀ g₁ D C h₁ tk', FB w p loose mean mg mb g₁ C h₁ (fun _ => none) ((D, listOf #[] 0) :: news) → g.StaysIn g₁ → Ch (I :: news.map (·.1)) h g₁ → TK h g₁ → (∀ a o, h.get? a = some o → h₁.get? a = some o) → I ≠ C → I ≠ D → g₁.get? I = none → h.get? D = none →
      codeAny (model prog w) A (.compStart e 0 it (.ref D) (compEnvC scope cl C env)) (fun r s' => match r with
        | .ok _ => ∃ h' tk' m' news', s' = ⟨h', ge, dr, tk', os⟩ ∧ FB w p loose mean mg mb g₁ C h' m' news' ∧ (∀ h'', FB w p loose mean mg mb g L h'' m news' → TK h' h'' → Q (.ref D) ⟨h'', ge, dr, tk', os⟩)
        | .error _ => False) ⟨h₁, ge, dr, tk', os⟩) :
    wpAny (model prog w) A (newList []) (fun acc s₃ =>
      wpAny (model prog w) A (newFunctionEnv scope env.globals cl [] env.qual none .none (some env)) (fun cenv s₄ =>
        codeAny (model prog w) A (.compStart e 0 it acc { cenv with scope := relabel scope env }) (compPost (model prog w) A E none Q acc cenv.locals) s₄) E s₃) E ⟨h, ge, dr, tk, os⟩ := by
  obtain ⟨st, ⟨oL, esL, epL, hgL, hdL⟩, Bg⟩ := f.hide (hs := [I]) (by intro a ha; rw [List.mem_singleton] at ha; subst ha; exact ⟨hIL, hIg⟩)
  have tg : TK h (hideAll h ([I] ++ news.map (·.1))) := fun a vs e => hideAll_get _ e fun hm => by
    rcases List.mem_append.mp hm with hm | hm
    · rw [List.mem_singleton] at hm; subst hm
      obtain ⟨o, ho, hne⟩ := hIh
      rw [e] at ho; exact hne vs (Option.some.inj ho).symm
    · obtain ⟨r, hr, rfl⟩ := List.mem_map.mp hm
      have z := (f.N r hr).1
      rw [e] at z
      exact hnt r hr vs (Option.some.inj z).symm
  refine wpAny_newObj_type (s := ⟨h, ge, dr, tk, os⟩) (wpAny_newFunctionEnv hcell (by intro y hy; simp at hy) (fun h₁ hns hsb => ?_) hkind)
  have hD : (h.push { cls := .type "list", data := .seq ([] : List Value).toArray }).get? h.objs.size = some (listOf #[] 0) := Heap.get?_push_at rfl rfl
  generalize hH : h.push { cls := .type "list", dict := none, data := .seq ([] : List Value).toArray } = H at hns hsb hD ⊢
  have kH : ∀ a o, h.get? a = some o → H.get? a = some o := fun a o e => hH ▸ Heap.get?_push_of_some _ e
  have sz : H.objs.size = h.objs.size + 1 := by rw [← hH, Heap.size_push]
  have k1 : ∀ a o, H.get? a = some o → h₁.get? a = some o := fun a o e => hsb.extBut a o (Nat.ne_of_lt (Heap.lt_size e)) (Heap.get?_push_of_some _ e)
  have gl : ∀ a o, (hideAll h ([I] ++ news.map (·.1))).get? a = some o → h₁.get? a = some o := fun a o e => k1 _ _ (kH _ _ (of_hideAll _ e))
  have gn : ∀ a, h.get? a = none → (hideAll h ([I] ++ news.map (·.1))).get? a = none := fun a e => by
    cases e1 : (hideAll h ([I] ++ news.map (·.1))).get? a with
    | none => rfl
    | some o => rw [of_hideAll _ e1] at e; cases e
  have hCn : h.get? H.objs.size = none := Heap.get?_none_of_le (by rw [sz]; exact Nat.le_succ _)
  have hDn : h.get? h.objs.size = none := Heap.get?_none_of_le (Nat.le_refl _)
  have fC : FB w p loose mean mg mb (hideAll h ([I] ++ news.map (·.1))) H.objs.size h₁ (fun _ => none) ((h.objs.size, listOf #[] 0) :: news) := by
    refine ⟨hns, gl, gn _ hCn, fun r hr => ?_, Bg⟩
    rcases List.mem_cons.mp hr with rfl | hr
    · exact ⟨k1 _ _ hD, by show h.objs.size ≠ H.objs.size; rw [sz]; exact Nat.ne_of_lt (Nat.lt_succ_self _), gn _ hDn⟩
    · have z := f.N r hr
      exact ⟨k1 _ _ (kH _ _ z.1), Nat.ne_of_lt (by rw [sz]; exact Nat.lt_succ_of_lt (Heap.lt_size z.1)), hideAll_none _ (List.mem_append_right _ (List.mem_map_of_mem hr))⟩
  obtain ⟨oI, hoI, _⟩ := hIh
  refine codeAny_mono (q _ h.objs.size H.objs.size h₁ _ fC st (fun a o n e => hideAll_get _ e (by simpa using n)) tg (fun a o e => k1 _ _ (kH _ _ e)) (fun e => by rw [e, hCn] at hoI; cases hoI) (fun e => by rw [e, hDn] at hoI; cases hoI) (hideAll_none _ (.head _)) hDn) (fun r s' x => ?_)
  cases r with
  | error x' => exact x.elim
  | ok fl =>
    obtain ⟨h', tk', m', news', rfl, f', k⟩ := x
    refine ⟨m', f'.ns, fun h'' hs0 => ?_⟩
    have hs : Heap.SameBut H.objs.size h' h'' := hs0
    refine k h'' ⟨?_, fun a o e => ?_, f.out, fun r hr => ?_, f.B⟩ (TK.of_ch (Ch.of_same hs) ?_)
    · obtain ⟨o, es, ep, hL', hd', r⟩ := f.ns
      have e1 := f'.keep _ _ hgL
      have e2 : h.get? L = some oL := of_hideAll _ hgL
      rw [hL'] at e2; cases e2
      refine ⟨oL, es, ep, (hs.2 _ ?_).trans e1, hd', r⟩
      intro e3
      rw [e3, hCn] at hL'; cases hL'
    · refine (hs.2 a ?_).trans (f'.keep _ _ (st a o e))
      intro e3
      rw [e3] at e
      rw [f.keep _ _ e] at hCn; cases hCn
    · have z := f'.N r hr
      refine ⟨(hs.2 _ z.2.1).trans z.1, fun e => ?_, ?_⟩
      · have := z.2.2
        rw [e, hgL] at this; cases this
      · cases e : g.get? r.1 with
        | none => rfl
        | some o => have := z.2.2; rw [st _ _ e] at this; cases this
    · intro r hr vs e
      rw [List.mem_singleton] at hr; subst hr
      obtain ⟨o, es, ep, hC', hd', _⟩ := f'.ns
      rw [hC'] at e; cases e; cases hd'
end
end
section
section
variable {M : Model} {h : Heap} {p : Params}
noncomputable def FdObj (h : Heap) : Prop := ∃ oc od cd sl, h.get? 93 = some ⟨oc, od, .cls cd, sl⟩ ∧ cd.mro = [.ref 93, .type "collections.defaultdict", .type "dict", .type "object"] ∧ cd.abstract = false ∧ cd.hasDel = false ∧ cd.mro.isEmpty = false ∧ sl.toList[4]? = some (some (.builtin "dict.__new__")) ∧ cd.hasDict = true ∧ cd.name = "FreezableDefaultDict" ∧ cd.qualname = "FreezableDefaultDict"
theorem fd_obj_of {K : Frag} (X : K.In h) {oc : Value} {od : Option Addr} {cd : ClassData} {sl : Array (Option Value)} (e : K.lookup 93 = some ⟨oc, od, .cls cd, sl⟩) (hm : cd.mro = [.ref 93, .type "collections.defaultdict", .type "dict", .type "object"]) (h1 : cd.abstract = false) (h2 : cd.hasDel = false)
    (h4 : sl.toList[4]? = some (some (.builtin "dict.__new__"))) (h5 : cd.hasDict = true) (h6 : cd.name = "FreezableDefaultDict") (h7 : cd.qualname = "FreezableDefaultDict") : FdObj h := ⟨oc, od, cd, sl, X _ _ e, hm, h1, h2, by rw [hm]; rfl, h4, h5, h6, h7⟩
theorem fd_obj (X : (hd.heap_39 p).In h) : FdObj h := by
  refine' fd_obj_of X ?e ?a ?b ?c ?d ?f ?g ?i
  case e => k_is
  all_goals rfl
theorem fd_mro (X : (hd.heap_39 p).In h) : Looks M h (mroOf (.ref 93)) [.ref 93, .type "collections.defaultdict", .type "dict", .type "object"] := by
  obtain ⟨oc, od, cd, sl, ho, hm, _⟩ := fd_obj X
  have hC : Looks M h (classData 93) cd := (Looks.ld (part := none) ho).andThen .now
  exact hm ▸ hC.andThen .now
theorem fd_made (X : (hd.heap_39 p).In h) : Looks M h (Bind.madeBy (.ref 93)) (some "dict.__new__") := by
  intro A Q E s k q
  obtain ⟨oc, od, cd, sl, ho, hm, _, _, _, h4, _⟩ := fd_obj X
  unfold Bind.madeBy
  refine wpAny_bind (fd_mro X A _ E s k ?_)
  rw [List.forIn_cons]
  refine wpAny_bind (wpAny_bind (wpAny_bind (wpAny_bind (wpAny_loadPart (k _ _ ho) (wpAny_pure ?_)))))
  dsimp only
  rw [← Array.getElem?_toList, h4]
  exact wpAny_pure (wpAny_pure (wpAny_pure q))
theorem fd_base (X : (hd.heap_39 p).In h) : Looks M h (Bind.staticBase (.ref 93)) (.ref 93) := by
  intro A Q E s k q
  unfold Bind.staticBase
  refine wpAny_bind (fd_mro X A _ E s k ?_)
  rw [List.forIn_cons]
  exact wpAny_bind (wpAny_bind (wpAny_bind (fd_made X A _ E s k (wpAny_pure (wpAny_pure (wpAny_pure q))))))
theorem fd_call (X : (hd.heap_39 p).In h) : Looks M h (specialOf (.ref 93) "__call__") (some (.builtin "type.__call__")) := looks_specialIn X (by k_is)
theorem fd_typ (X : (hd.heap_39 p).In h) : Looks M h (isInstance (.ref 93) (.type "type")) true := looks_instIn X (by k_is)
theorem fd_self (X : (hd.heap_39 p).In h) : Looks M h (isSubtype (.ref 93) (.ref 93)) true := looks_mroIn X (by k_is)
theorem fd_subD (X : (hd.heap_39 p).In h) : Looks M h (isSubtype (.ref 93) (.type "dict")) true := looks_mroIn X (by k_is)
theorem fd_subX (X : (hd.heap_39 p).In h) : Looks M h (isSubtype (.ref 93) (.type "collections.defaultdict")) true := looks_mroIn X (by k_is)
theorem fd_subO (X : (hd.heap_39 p).In h) : Looks M h (isSubtype (.ref 93) (.type "collections.OrderedDict")) false := looks_mroIn X (by k_is)
theorem fd_init (X : (hd.heap_39 p).In h) : Looks M h (typeLookup (.ref 93) "__init__") (some (.builtin "collections.defaultdict.__init__")) := looks_findIn X (by k_is)
theorem fd_getitem (X : (hd.heap_39 p).In h) : Looks M h (typeLookup (.ref 93) "__getitem__") (some (.builtin "dict.__getitem__")) := looks_findIn X (by k_is)
theorem fd_iter (X : (hd.heap_39 p).In h) : Looks M h (typeLookup (.ref 93) "__iter__") (some (.builtin "dict.__iter__")) := looks_findIn X (by k_is)
end
theorem ty_list : typeOf (.type "list") = pure (.type "type") := by kernel_rfl
theorem ty_list_call {M : Model} {h : Heap} : Looks M h (specialOf (.type "list") "__call__") (some (.builtin "type.__call__")) := (Looks.of_pure ty_list).andThen (Looks.of_pure PySem.F.lookup_type_call)
/-- the book as an object -/
noncomputable abbrev bookO (dx : Addr) (es : Array DictEntry) (ep : Nat) : Obj := { cls := .ref 93, dict := some dx, data := .dict es ep, slots := #[some (.type "list")] }
theorem dn_kind : builtinKind "dict.__new__" = some .builtinFn := by decide +kernel
theorem dn_split : splitId "dict.__new__" = some ("dict", "__new__") := by decide +kernel
theorem dn_entry : entryFor table "dict.__new__" = some Builtin.«dict.__new__» := entryFor_of_tree (by kernel_rfl)
theorem ddi_kind : builtinKind "collections.defaultdict.__init__" = some .slot := by decide +kernel
theorem ddi_split : splitId "collections.defaultdict.__init__" = some ("collections.defaultdict", "__init__") := by decide +kernel
theorem ddi_entry : entryFor table "collections.defaultdict.__init__" = some Builtin.«collections.defaultdict.__init__» := entryFor_of_tree (by kernel_rfl)
theorem ddi_plain : plainId "collections.defaultdict.__init__" = true := by decide +kernel
theorem ddi_args (a : Value) : argsOk "collections.defaultdict.__init__" ⟨[a, .type "list"], []⟩ := by unfold argsOk; kernel_rfl
theorem di_entry : entryFor table "dict.__init__" = some Builtin.«dict.__init__» := entryFor_of_tree (by kernel_rfl)
section
variable {prog : Program} {w : World} {A : Around} {R : Result → Shared → Prop} {h : Heap} {g : Array GenState} {d : Drawn} {t : Nat} {os : OsState} {E : Value → Shared → Prop}
theorem fd_new (X : (hd.heap_39 w.params).In h)
    (hq : R (.ok (.ret (.ref (h.objs.size + 1)))) ⟨(h.push emptyDict).push { cls := .ref 93, dict := some h.objs.size, data := .dict #[] }, g, d, t, os⟩) :
    codeAny (model prog w) A (.call (.builtin "dict.__new__") ⟨[.ref 93, .type "list"], []⟩) R ⟨h, g, d, t, os⟩ := by
  obtain ⟨oc, od, cd, sl, hC, hm, e1, e2, e4, h4, hd, _⟩ := fd_obj X
  have made := fd_made (M := model prog w) X
  have base := fd_base (M := model prog w) X
  have subD := fd_subD (M := model prog w) X
  have mro := fd_mro (M := model prog w) X
  refine codeAny_call_builtin_code (Code.quiet_builtin _ (by decide +kernel)) ?_
  simp only [checkBuiltinCall, dn_kind, dn_split]
  repeat (first | simp only [bne_self_eq_false, Bool.false_eq_true, if_false] | lk)
  refine codeAny_builtin dn_entry ?_
  unfold Builtin.«dict.__new__» isType loadHead
  have hC' := Heap.get?_push_of_some { cls := .ref 93, dict := some h.objs.size, data := .dict #[] } (Heap.get?_push_of_some emptyDict hC)
  repeat lk
  rw [e2]
  repeat lk
  rw [Heap.size_push]
  exact hq
theorem fd_init_run {b : Heap} {x dx : Addr} (Xb : (hd.heap_39 w.params).In b) (hb : b.StaysIn h) (hxb : b.get? x = none) (hx : h.get? x = some { cls := .ref 93, dict := some dx, data := .dict #[] })
    (hq : ∀ h', Heap.SameBut x h h' → h'.get? x = some (bookO dx #[] 0) → R (.ok (.ret .none)) ⟨h', g, d, t, os⟩) :
    codeAny (model prog w) A (.call (.builtin "collections.defaultdict.__init__") ⟨[.ref x, .type "list"], []⟩) R ⟨h, g, d, t, os⟩ := by
  have X : (Mine.hd.heap_39 w.params).In h := Xb.keeps hb
  have t1 : Looks (model prog w) h (typeOf (.ref x)) (.ref 93) := (Looks.ld hx).andThen .now
  have inX : Looks (model prog w) h (isInstance (.ref x) (.type "collections.defaultdict")) true := t1.andThen (fd_subX (M := model prog w) X)
  refine codeAny_call_builtin ddi_plain ddi_entry (@check_slot (model prog w) _ _ _ "collections.defaultdict.__init__" "collections.defaultdict" "__init__" (.ref x) [.type "list"] [] _ ddi_kind ddi_split inX (ddi_args _) ?_)
  unfold Builtin.«collections.defaultdict.__init__» Builtin.Collections_defaultdict.setFactory
  have tl : Looks (model prog w) h (specialOf (.type "list") "__call__") (some (.builtin "type.__call__")) := ty_list_call
  show wpAny _ _ (if (Value.type "list" != Value.none) = true then _ else _) _ _ _
  rw [if_pos (by decide +kernel)]
  repeat (first | with_reducible refine wpAny_call ?_ | lk)
  refine wpAny_updatePart hx ?_
  generalize hf : (fun (o : Obj) => { o with slots := (o.slots ++ Array.replicate (0 + 1 - o.slots.size) none).setIfInBounds 0 [Value.type "list"].head? }) = f
  have hg : (h.update x f).get? x = some (bookO dx #[] 0) := by subst hf; exact Heap.get?_update_self _ hx rfl
  have hs : Heap.SameBut x h (h.update x f) := Heap.SameBut.update ..
  have hne : ∀ b o, b ≠ x → h.get? b = some o → (h.update x f).get? b = some o := fun b o e e1 => (hs.2 b e).trans e1
  have X' : (Mine.hd.heap_39 w.params).In (h.update x f) := Xb.keeps fun b o e1 => hne b o (by rintro rfl; rw [hxb] at e1; cases e1) (hb _ _ e1)
  generalize h.update x f = h' at *
  have t2 : Looks (model prog w) h' (typeOf (.ref x)) (.ref 93) := (Looks.ld hg).andThen .now
  have inD : Looks (model prog w) h' (isInstance (.ref x) (.type "dict")) true := t2.andThen (fd_subD (M := model prog w) X')
  have sO := fd_subO (M := model prog w) X'
  repeat (first | with_reducible refine wpAny_call ?_ | with_reducible refine wpAny_runValue ?_ | lk)
  refine codeAny_builtin di_entry ?_
  unfold Builtin.«dict.__init__»
  repeat (first | with_reducible refine wpAny_call ?_ | with_reducible refine wpAny_runValue ?_ | lk)
  exact hq _ hs hg
theorem fd_make {b : Heap} (Xb : (hd.heap_39 w.params).In b) (hb : b.StaysIn h) {Q : Value → Shared → Prop}
    (hq : ∀ x dx h', (∀ a o, h.get? a = some o → h'.get? a = some o) → h.objs.size ≤ dx → dx < x → h'.get? x = some (bookO dx #[] 0) → h'.get? dx = some emptyDict → Q (.ref x) ⟨h', g, d, t, os⟩) :
    wpAny (model prog w) A (call (.ref 93) [.type "list"]) Q E ⟨h, g, d, t, os⟩ := by
  have X : (Mine.hd.heap_39 w.params).In h := Xb.keeps hb
  obtain ⟨oc, od, cd, sl, hC, hm, e1, e2, e4, h4, hd, _⟩ := fd_obj X
  have made := fd_made (M := model prog w) X
  have call := fd_call (M := model prog w) X
  have typ := fd_typ (M := model prog w) X
  have mro := fd_mro (M := model prog w) X
  refine wpAny_call (codeAny_of_tree ?_)
  show wpAny _ _ (callAny (.ref 93) _) _ _ _
  refine nd_load hC ?_
  show wpAny _ _ (callAny.viaDunder (.ref 93) _) _ _ _
  unfold callAny.viaDunder
  refine wpAny_bind (call.at ?_)
  dsimp only
  rw [tc_bind]
  refine wpAny_bind (wpAny_pure (wpAny_bind (wpAny_pure ?_)))
  refine wpAny_pure (a := Fin.again (.call (.builtin "type.__call__") ⟨.ref 93 :: [.type "list"], []⟩)) (And.intro rfl ?_)
  refine codeAny_call_builtin_at (Code.quiet_builtin _ (by decide +kernel)) entry_typeCall (check_slot tc_kind tc_split typ (tc_args _ _ _) ?_)
  unfold Builtin.«type.__call__»
  repeat (first | simp only [e4] | with_reducible refine wpAny_call ?_ | lk)
  refine fd_new X ?_
  have k : ∀ b o, h.get? b = some o → ((h.push emptyDict).push { cls := .ref 93, dict := some h.objs.size, data := .dict #[] }).get? b = some o := fun b o e => Heap.get?_push_of_some _ (Heap.get?_push_of_some _ e)
  have hx : ((h.push emptyDict).push { cls := .ref 93, dict := some h.objs.size, data := .dict #[] }).get? (h.objs.size + 1) = some { cls := .ref 93, dict := some h.objs.size, data := .dict #[] } := by heap_get
  have hdx : ((h.push emptyDict).push { cls := .ref 93, dict := some h.objs.size, data := .dict #[] }).get? h.objs.size = some emptyDict := Heap.get?_push_of_some _ (Heap.get?_push_at rfl rfl)
  have hxn : h.get? (h.objs.size + 1) = none := Heap.get?_none_of_le (Nat.le_succ _)
  have X' : (Mine.hd.heap_39 w.params).In ((h.push emptyDict).push { cls := .ref 93, dict := some h.objs.size, data := .dict #[] }) := X.keeps k
  have t1 : Looks (model prog w) ((h.push emptyDict).push { cls := .ref 93, dict := some h.objs.size, data := .dict #[] }) (typeOf (.ref (h.objs.size + 1))) (.ref 93) := (Looks.ld hx).andThen .now
  have s1 := fd_self (M := model prog w) X'
  have i1 := fd_init (M := model prog w) X'
  unfold isInstance callSpecial? specialOf
  repeat (first | with_reducible refine wpAny_call ?_ | lk)
  refine fd_init_run X k hxn hx fun h' hs hg => ?_
  repeat lk
  exact hq _ _ _ (fun a o e => (hs.2 a (by rintro rfl; rw [hxn] at e; cases e)).trans (k _ _ e)) (Nat.le_refl _) (Nat.lt_succ_self _) hg ((hs.2 _ (Nat.ne_of_lt (Nat.lt_succ_self _))).trans hdx)
end
end
section
theorem check_method {M : Model} {A : Around} {E : Value → Shared → Prop} {s : Shared} {i owner n : String} {self : Value} {rest : List Value} {kw : List (Str × Value)} {Q : Unit → Shared → Prop}
    (hk : builtinKind i = some .method) (hs : splitId i = some (owner, n)) (hi : Looks M s.heap (isInstance self (.type owner)) true) (ha : argsOk i ⟨self :: rest, kw⟩) (q : Q () s) :
    wpAny M A (checkBuiltinCall i ⟨self :: rest, kw⟩) Q E s := by
  simp only [checkBuiltinCall, hk, hs]
  refine wpAny_bind (hi.here ?_)
  simp only [Bool.not_true, Bool.false_eq_true, if_false]
  cases hsig : Manifest.signature? i with
  | none => exact wpAny_pure q
  | some sig =>
    simp only [argsOk, hsig] at ha
    have h2 : Bind.checkArgs i sig ⟨self :: rest, kw⟩ = pure () := ha
    show wpAny M A (Bind.checkArgs i sig ⟨self :: rest, kw⟩) Q E s
    rw [h2]; exact wpAny_pure q
theorem dgi_kind : builtinKind "dict.__getitem__" = some .method := by decide +kernel
theorem dgi_split : splitId "dict.__getitem__" = some ("dict", "__getitem__") := by decide +kernel
theorem dgi_plain : plainId "dict.__getitem__" = true := by decide +kernel

/-- what the book holds: its keys, each with its list's place -/
noncomputable abbrev Ents := List (Nat × Tok × Addr)
noncomputable def bookEs (ents : Ents) : Array DictEntry := (ents.map fun e => (⟨hashInt ((e.1 : Nat) : Int), .int ((e.1 : Nat) : Int) e.2.1, .ref e.2.2⟩ : DictEntry)).toArray
theorem bookEs_int (ents : Ents) : IntKeys (bookEs ents) := by
  intro e he
  unfold bookEs at he
  rw [List.mem_toArray, List.mem_map] at he
  obtain ⟨x, _, rfl⟩ := he
  exact ⟨_, _, rfl, rfl⟩
noncomputable def entAt (ents : Ents) (k : Nat) : Option Addr := (ents.find? fun e => e.1 == k).map (·.2.2)
theorem bookEs_get (ents : Ents) (k : Nat) : (((bookEs ents).findIdx? fun e => Value.isInt ((k : Nat) : Int) e.key).bind fun i => ((bookEs ents)[i]?).map (·.val)) = (entAt ents k).map .ref := by
  have e := findBy_of_findIdx? Value.isInt (bookEs ents) ((k : Nat) : Int)
  have e2 : findBy Value.isInt (bookEs ents) ((k : Nat) : Int) = (entAt ents k).map .ref := by
    unfold findBy bookEs entAt
    rw [List.find?_toArray, List.find?_map, Option.map_map, Option.map_map]
    have e3 : (Value.isInt ((k : Nat) : Int) ∘ fun (e : DictEntry) => e.key) ∘ (fun (e : Nat × Tok × Addr) => (⟨hashInt ((e.1 : Nat) : Int), .int ((e.1 : Nat) : Int) e.2.1, .ref e.2.2⟩ : DictEntry)) = fun e => e.1 == k := by
      funext e
      show ((((e.1 : Nat) : Int)) == ((k : Nat) : Int)) = (e.1 == k)
      rw [Bool.eq_iff_iff, beq_iff_eq, beq_iff_eq]
      (first | lia | omega)
    rw [show (fun (e : DictEntry) => Value.isInt ((k : Nat) : Int) e.key) = (Value.isInt ((k : Nat) : Int) ∘ fun (e : DictEntry) => e.key) from rfl, e3]
    rfl
  rw [← e2, e]
  cases ((bookEs ents).findIdx? fun e => Value.isInt ((k : Nat) : Int) e.key) <;> rfl
section
variable {prog : Program} {w : World} {A : Around} {R : Result → Shared → Prop} {h : Heap} {ge : Array GenState} {dr : Drawn} {tk : Nat} {os : OsState} {E : Value → Shared → Prop} {s : Shared}
theorem dictGet_es {d : Addr} {o : Obj} {es ep} {k : Int} {t : Tok} {Q : Option Value → Shared → Prop} (ho : h.get? d = some o)
    (hd : o.data = .dict es ep) (hk : IntKeys es) (q : Q ((es.findIdx? fun e => Value.isInt k e.key).bind fun i => (es[i]?).map (·.val)) ⟨h, ge, dr, tk + 1, os⟩) :
    wpAny (model prog w) A (dictGet d (.int k t)) Q E ⟨h, ge, dr, tk, os⟩ := by
  unfold dictGet
  refine wpAny_holding (wpAny_bind (wpAny_pyHash_int (wpAny_bind (wpAny_dictFind_int (s := ⟨h, ge, dr, tk + 1, os⟩) ho hd hk ?_))))
  cases hi : es.findIdx? fun e => Value.isInt k e.key with
  | none => rw [hi] at q; exact wpAny_pure q
  | some i => rw [hi] at q; exact wpAny_bind (wpAny_dictEntries (s := ⟨h, ge, dr, tk + 1, os⟩) ho hd (wpAny_pure q))
theorem fd_sub {b : Heap} (Xb : (hd.heap_39 w.params).In b) (hb : b.StaysIn h) {x dx : Addr} {es : Array DictEntry} {ep : Nat} (hx : h.get? x = some (bookO dx es ep)) {value slice : Expr} {k : Int} {t : Tok} {Q : Value → Shared → Prop}
    (hs : subscripted slice false (.ref x) (.int k t) = operate [.ref x, .int k t] (getItem (.ref x) (.int k t)))
    (q : wpAny (model prog w) A (call (.builtin "dict.__getitem__") [.ref x, .int k t]) Q E ⟨h, ge, dr, tk, os⟩) :
    wpAny (model prog w) A (subscriptTail value slice (.ref x) (.int k t)) Q E ⟨h, ge, dr, tk, os⟩ := by
  have X : (Mine.hd.heap_39 w.params).In h := Xb.keeps hb
  have t1 : Looks (model prog w) h (typeOf (.ref x)) (.ref 93) := (Looks.ld hx).andThen .now
  have gi := fd_getitem (M := model prog w) X
  have sp : Looks (model prog w) h (specialOf (.ref x) "__getitem__") (some (.builtin "dict.__getitem__")) := t1.andThen gi
  unfold subscriptTail getitemInPython
  refine wpAny_bind (wpAny_bind (sp.at (wpAny_pure ?_)))
  rw [hs]
  refine wpAny_bind (wpAny_operating ?_)
  unfold getItem sequenceKey callSpecial?
  have hn : noSeq (Mine.hd.heap_39 w.params) 93 = true := by k_is
  refine wpAny_holding (wpAny_bind (wpAny_bind (t1.at ?_)))
  refine wpAny_bind ((anyM_none X hn).here ?_)
  rw [if_pos (show (!false) = true from rfl)]
  refine wpAny_pure (wpAny_bind (wpAny_bind (sp.at (wpAny_holding ?_))))
  rw [PySem.slot_dict_getitem.bind]
  refine wpAny_bind (wpAny_pure (wpAny_bind (wpAny_mono q (fun v s' hv => ?_) fun _ _ e => e)))
  refine wpAny_pure (wpAny_pure ?_)
  show wpAny (model prog w) A (letTemporaryGo value (.ref x) v >>= fun _ => pure v) Q E s'
  exact wpAny_bind (wpAny_letTemporaryGo (wpAny_pure hv))
/-- a key is looked up in the book -/
theorem fd_look {b : Heap} (Xb : (hd.heap_39 w.params).In b) (hb : b.StaysIn h) {x dx : Addr} {ents : Ents} {ep : Nat} {odx : Obj} (hx : h.get? x = some (bookO dx (bookEs ents) ep)) (hdx : h.get? dx = some odx) {k : Nat} {t : Tok} {Q : Value → Shared → Prop}
    (hit : ∀ l tk', entAt ents k = some l → Q (.ref l) ⟨h, ge, dr, tk', os⟩)
    (miss : ∀ tk', entAt ents k = none → wpAny (model prog w) A.in1 (call (.ref 83) [.ref x, .int ((k : Nat) : Int) t]) Q E ⟨h, ge, dr, tk', os⟩) :
    wpAny (model prog w) A (call (.builtin "dict.__getitem__") [.ref x, .int ((k : Nat) : Int) t]) Q E ⟨h, ge, dr, tk, os⟩ := by
  have X : (Mine.hd.heap_39 w.params).In h := Xb.keeps hb
  have t1 : Looks (model prog w) h (typeOf (.ref x)) (.ref 93) := (Looks.ld hx).andThen .now
  have inD : Looks (model prog w) h (isInstance (.ref x) (.type "dict")) true := t1.andThen (fd_subD (M := model prog w) X)
  refine wpAny_call (codeAny_call_builtin dgi_plain PySem.entry_dict_getitem (@check_method (model prog w) _ _ _ "dict.__getitem__" "dict" "__getitem__" (.ref x) [.int ((k : Nat) : Int) t] [] _ dgi_kind dgi_split inD (PySem.args_dict_getitem _ _) ?_))
  unfold Builtin.«dict.__getitem__»
  repeat (first | with_reducible refine dictGet_es hx rfl (bookEs_int ents) ?_ | with_reducible refine wpAny_call ?_ | with_reducible refine wpAny_runValue ?_ | lk)
  rw [bookEs_get]
  cases he : entAt ents k with
  | some l => exact wpAny_pure (hit l _ he)
  | none =>
    refine wpAny_bind (PySem.wpAny_missed_int (wpAny_bind (t1.at ?_)))
    rw [if_pos (by decide +kernel)]
    have I : InstAt h x (bookO dx (bookEs ents) ep) 93 (some odx) := ⟨hx, rfl, rfl, hdx⟩
    refine wpAny_bind (special_fn (s := ⟨h, ge, dr, tk + 1, os⟩) X I (f := 83) (by k_is) (by k_is) (wpAny_mono (miss _ he) (fun v s' hv => ?_) fun _ _ e => e))
    exact wpAny_bind (wpAny_rule (wpAny_pure hv))
end
end
section
theorem kga_kind : builtinKind "getattr" = none := by decide +kernel
theorem kga_plain : plainId "getattr" = true := by decide +kernel
theorem kga_entry : entryFor table "getattr" = some Builtin.«getattr» := entryFor_of_tree (by kernel_rfl)
theorem kga_args (a b c : Value) : argsOk "getattr" ⟨[a, b, c], []⟩ := by unfold argsOk; kernel_rfl
theorem dga_kind : builtinKind "collections.defaultdict.__getattribute__" = some .slot := by decide +kernel
theorem dga_split : splitId "collections.defaultdict.__getattribute__" = some ("collections.defaultdict", "__getattribute__") := by decide +kernel
theorem dga_plain : plainId "collections.defaultdict.__getattribute__" = true := by decide +kernel
theorem dga_entry : entryFor table "collections.defaultdict.__getattribute__" = some Builtin.«object.__getattribute__» :=
  entryFor_alias (id' := "object.__getattribute__") (by kernel_rfl) (by first | rfl | decide +kernel) (by decide +kernel) (by kernel_rfl)
theorem dga_args (a b : Value) : argsOk "collections.defaultdict.__getattribute__" ⟨[a, b], []⟩ := by unfold argsOk; kernel_rfl
theorem dga_bind (self : Value) : bindSpecial (.builtin "collections.defaultdict.__getattribute__") self = pure (.builtin "collections.defaultdict.__getattribute__", [self]) :=
  (Slot.of (T := "collections.defaultdict") (name := "__getattribute__") (owner := "collections.defaultdict") (n := "__getattribute__") (by rw [typeLookup_type, builtinLookup_eq_fast]; kernel_rfl) (by decide +kernel) (by decide +kernel) (by decide +kernel)
    (.inl (by decide +kernel)) (by rw [isSubtype_type]; kernel_rfl)).bind self
theorem sub_attrErr : isSubtype (.type "AttributeError") (.type "AttributeError") = pure true := by rw [isSubtype_type]; kernel_rfl
theorem first_attrErr (v : Value) : firstArgMember (.type "AttributeError") [v] = pure .none := by
  have e : ((Manifest.find? "AttributeError").elim false fun t => t.mro.contains "StopIteration" || t.mro.contains "SystemExit") = false := by decide +kernel
  simp only [firstArgMember, e]; rfl
noncomputable abbrev attrErrO (t : Addr) (a c : Value) : Obj := { cls := .type "AttributeError", data := .fields #[.ref t, .none, .none, .none, .bool false, .none, a, c] }
theorem attrErr_new {M : Model} {A : Around} {h : Heap} {ge : Array GenState} {dr : Drawn} {tk : Nat} {os : OsState} {E : Value → Shared → Prop} {v : Value} {Q : Value → Shared → Prop}
    (q : ∀ h' e t, (∀ a o, h.get? a = some o → h'.get? a = some o) → h.get? e = none → h'.get? e = some (attrErrO t (rawInt 0) (rawInt 0)) → Q (.ref e) ⟨h', ge, dr, tk, os⟩) : wpAny M A (newExc (.type "AttributeError") [v]) Q E ⟨h, ge, dr, tk, os⟩ := by
  unfold newExc newTuple
  refine wpAny_bind (wpAny_newObj_type ?_ (by show [v].toArray.size ≤ sizeLine; rw [List.size_toArray, sizeLine_eq]; simp))
  rw [first_attrErr]
  refine wpAny_bind (wpAny_pure (wpAny_newObj_type (q _ _ _ (fun a o e => Heap.get?_push_of_some _ (Heap.get?_push_of_some _ e)) ?_ (Heap.get?_push_size _ rfl)) (by size_fits)))
  exact Heap.get?_none_of_le (by simp)
section
variable {prog : Program} {w : World} {A : Around} {R : Result → Shared → Prop} {h : Heap} {ge : Array GenState} {dr : Drawn} {tk : Nat} {os : OsState} {E : Value → Shared → Prop} {s : Shared} {Q : Value → Shared → Prop}
  {b : Heap} {x dx : Addr} {es : Array DictEntry} {ep : Nat} {odx : Obj} {t : Tok} {d : Value}
/-- what getattr with a default asks -/
theorem fd_getattr (Xb : (hd.heap_39 w.params).In b) (hb : b.StaysIn h) (hx : h.get? x = some (bookO dx es ep)) (hdx : h.get? dx = some odx)
    (q : wpAny (model prog w) A.in1 (getAttrBy? (.ref x) (.str "_frozen" t)) (fun o s' => match o with | some v => Q v s' | none => Q d s') E ⟨h, ge, dr, tk, os⟩) :
    wpAny (model prog w) A (call (.builtin "getattr") [.ref x, .str "_frozen" t, d]) Q E ⟨h, ge, dr, tk, os⟩ := by
  have X : (Mine.hd.heap_39 w.params).In h := Xb.keeps hb
  have t1 : Looks (model prog w) h (typeOf (.ref x)) (.ref 93) := (Looks.ld hx).andThen .now
  have sM : Looks (model prog w) h (isSubtype (.ref 93) (.type "module")) false := looks_mroIn X (by k_is)
  refine Calls.call_function_entry kga_kind kga_plain kga_entry (kga_args _ _ _) ?_
  unfold Builtin.«getattr»
  refine wpAny_bind (wpAny_of_eq (a := [.ref x, .str "_frozen" t, d]) (by first | rfl | kernel_rfl) ?_)
  dsimp only
  refine wpAny_bind (wpAny_of_eq (a := ()) (by first | rfl | kernel_rfl) ?_)
  refine wpAny_bind (wpAny_of_eq (a := none) (by first | rfl | kernel_rfl) ?_)
  dsimp only
  repeat ((fail_if_success (with_reducible show wpAny _ _ (getAttrBy? _ _) _ _ _)); lk)
  refine wpAny_mono q (fun o s' ho => ?_) fun _ _ e => e
  cases o with
  | some v => exact wpAny_pure ⟨_, rfl, ho⟩
  | none => exact wpAny_pure ⟨_, rfl, ho⟩
/-- how the book's attributes are looked up -/
theorem fd_by (Xb : (hd.heap_39 w.params).In b) (hb : b.StaysIn h) (hx : h.get? x = some (bookO dx es ep)) (hdx : h.get? dx = some odx) {name : Str} {fill expr : Bool}
    (q : wpAny (model prog w) A.in1 (Builtin.«object.__getattribute__» ⟨[.ref x, .str name t], []⟩) (fun fin s' => match fin with | .done (.ret v) => wpAny (model prog w) A (handedOut v) Q E s' | _ => False)
      (fun e s' => wpAny (model prog w) A (getattributeRaised (.ref x) (.str name t) (.ref 93) e none fill expr) Q E s') ⟨h, ge, dr, tk, os⟩) :
    wpAny (model prog w) A (getAttrBy (.ref x) (.str name t) fill expr) Q E ⟨h, ge, dr, tk, os⟩ := by
  have X : (Mine.hd.heap_39 w.params).In h := Xb.keeps hb
  have I : InstAt h x (bookO dx es ep) 93 (some odx) := ⟨hx, rfl, rfl, hdx⟩
  have L0 := I.type (M := model prog w)
  have L1 : Looks (model prog w) h (typeLookup (.ref 93) "__getattribute__") (some (.builtin "collections.defaultdict.__getattribute__")) := looks_findIn X (by k_is)
  have L2 : Looks (model prog w) h (typeLookup (.ref 93) "__getattr__") none := looks_findIn X (by k_is)
  have inX : Looks (model prog w) h (isInstance (.ref x) (.type "collections.defaultdict")) true := L0.andThen (fd_subX (M := model prog w) X)
  unfold getAttrBy
  refine wpAny_holding (wpAny_bind (L0.at (wpAny_bind (L1.at ?_))))
  show wpAny _ _ (getAttrByItsOwn _ _ _ _ _ _) _ _ _
  unfold getAttrByItsOwn hookBefore callGetattribute boundAndCalled
  refine wpAny_bind (L2.at (wpAny_bind (wpAny_attempt (wpAny_holding ?_))))
  have e1 : ∀ t1 t2 : Sem Value, (if (expr && onTheHeap (Value.builtin "collections.defaultdict.__getattribute__")) = true then t1 else t2) = t2 := fun t1 t2 => by cases expr <;> rfl
  rw [e1, dga_bind]
  refine wpAny_bind (wpAny_pure (wpAny_call ?_))
  refine codeAny_call_builtin dga_plain dga_entry (@check_slot (model prog w) _ _ _ "collections.defaultdict.__getattribute__" "collections.defaultdict" "__getattribute__" (.ref x) [.str name t] [] _ dga_kind dga_split inX (dga_args _ _) ?_)
  refine wpAny_mono q (fun fin s' z => ?_) fun _ _ z => z
  rcases fin with (_ | _ | _ | _) | _ <;> first | exact z | exact z.elim
theorem fd_frozen_none (Xb : (hd.heap_39 w.params).In b) (hb : b.StaysIn h) (hx : h.get? x = some (bookO dx es ep)) (hdx : h.get? dx = some emptyDict) (hh : A.handled = none) {Q : Option Value → Shared → Prop}
    (q : ∀ h' tk', (∀ a o, h.get? a = some o → h'.get? a = some o) → Q none ⟨h', ge, dr, tk', os⟩) : wpAny (model prog w) A (getAttrBy? (.ref x) (.str "_frozen" t)) Q E ⟨h, ge, dr, tk, os⟩ := by
  have X : (Mine.hd.heap_39 w.params).In h := Xb.keeps hb
  have I : InstAt h x (bookO dx es ep) 93 (some emptyDict) := ⟨hx, rfl, rfl, hdx⟩
  have L0 := I.type (M := model prog w)
  have hc : ∃ cd, clsIn (Mine.hd.heap_39 w.params) 93 = some cd ∧ cd.hasDict = true := by
    have : hasDictIn (Mine.hd.heap_39 w.params) 93 = true := by k_is
    exact any_some this
  have hf : findObj (Mine.hd.heap_39 w.params) 93 (some emptyDict) "_frozen" = some .missing := by
    obtain ⟨cd, hc, hd⟩ := hc
    unfold findObj
    have ho : PySem.W.ownOf cd (some emptyDict) "_frozen" = some none := by unfold PySem.W.ownOf; rw [if_pos hd]; rfl
    have ha : findIn (Mine.hd.heap_39 w.params) (.ref 93) "_frozen" = some none := by k_is
    rw [hc, Option.bind_some, ha, Option.bind_some]
    simp only [Option.bind_some, ho]
    rw [if_neg (by rw [show copiedNames.contains (Str.ofString "_frozen") = false by decide +kernel]; simp)]
  have L3 := looks_find (M := model prog w) X I hf
  obtain ⟨oc, od, cd, sl, hC, hm, _, _, _, _, _, hname, _⟩ := fd_obj X
  unfold getAttrBy?
  refine wpAny_bind (wpAny_attempt (fd_by Xb hb hx hdx ?_))
  unfold Builtin.«object.__getattribute__»
  repeat ((fail_if_success (with_reducible show wpAny _ _ (find _ _ _) _ _ _)); lk)
  refine L3.at ?_
  dsimp only
  rw [if_neg (by decide +kernel), if_neg (by decide +kernel)]
  have nm : Looks (model prog w) h (typeNameOfCut 100 (.ref x)) "FreezableDefaultDict" := by
    intro A Q E s k q
    unfold typeNameOfCut shownTypeOf typeNameCut
    refine wpAny_bind (wpAny_bind (L0 _ _ _ _ k ?_))
    show wpAny _ A (if (Value.ref 93 == Value.type "builtin_function_or_method") = true then _ else pure (Value.ref 93)) _ E s
    rw [if_neg (by decide +kernel)]
    refine wpAny_pure (wpAny_bind (wpAny_bind (wpAny_load (k _ _ hC) (wpAny_pure ?_))))
    dsimp only
    rw [hname]
    rw [if_pos (by decide +kernel)]
    exact wpAny_pure q
  unfold noSuchAttribute raiseAttrError
  refine wpAny_bind (nm.at ?_)
  with_reducible refine wpAny_bind ?_
  refine wpAny_mkStr ?_ (Nat.le_trans (m := 100) (by decide +kernel) (by rw [sizeLine_eq]; (first | lia | omega)))
  with_reducible refine wpAny_bind ?_
  refine attrErr_new ?_
  intro h' e tt k1 hne he
  with_reducible refine wpAny_bind ?_
  refine wpAny_mkText ?_
  have te : Looks (model prog w) h' (typeOf (.ref e)) (.type "AttributeError") := (Looks.ld he).andThen .now
  have se : Looks (model prog w) h' (isInstance (.ref e) (.type "AttributeError")) true := te.andThen (Looks.of_pure sub_attrErr)
  with_reducible refine wpAny_bind ?_
  unfold noteAttr lacksNameAndObj
  repeat ((fail_if_success (with_reducible show wpAny _ _ (layMembers _ _ _) _ _ _)); lk)
  dsimp only
  unfold layMembers
  refine wpAny_bind (wpAny_load he ?_)
  dsimp only
  refine wpAny_update he ?_
  have he2 : (h'.update e (Obj.mapFields fun vs => vs.extract 0 6 ++ #[.str (Str.ofString "_frozen") (tk + 1), .ref x])).get? e = some (attrErrO tt (.str (Str.ofString "_frozen") (tk + 1)) (.ref x)) := Heap.get?_update_self _ he rfl
  have hs : Heap.SameBut e h' (h'.update e (Obj.mapFields fun vs => vs.extract 0 6 ++ #[.str (Str.ofString "_frozen") (tk + 1), .ref x])) := Heap.SameBut.update ..
  generalize h'.update e _ = h2 at *
  have te2 : Looks (model prog w) h2 (typeOf (.ref e)) (.type "AttributeError") := (Looks.ld he2).andThen .now
  have se2 : Looks (model prog w) h2 (isInstance (.ref e) (.type "AttributeError")) true := te2.andThen (Looks.of_pure sub_attrErr)
  refine wpAny_raiseNew_none hh ?_
  unfold getattributeRaised hookBehind hookOrError attributeErrorLeaves
  refine wpAny_bind (se2.at ?_)
  rw [if_pos rfl]
  refine wpAny_bind (wpAny_pure ?_)
  show wpAny _ _ (throw (Value.ref e)) _ _ _
  refine wpAny_throw ?_
  refine wpAny_bind (se2.at ?_)
  rw [if_pos rfl]
  refine wpAny_pure (q _ _ fun a o ha => (hs.2 a ?_).trans (k1 _ _ ha))
  rintro rfl
  rw [hne] at ha; cases ha
end
end
section
section
variable {prog : Program} {w : World} {A : Around} {h : Heap} {ge : Array GenState} {dr : Drawn} {tk : Nat} {os : OsState} {E : Value → Shared → Prop} {s : Shared} {Q : Value → Shared → Prop}
theorem callBorrowed_of {M : Model} {f : Value} {pos : List Value} (q : wpAny M A (call f pos) Q E s) : wpAny M A (callBorrowed f pos) Q E s := by
  intro Γ p hΓ
  have z := q Γ p hΓ
  rw [Sem.wp_cmd_call] at z
  unfold callBorrowed
  rw [Sem.wp_call]
  refine (iff_of_eq ?_).mp z
  congr 1
  funext r s'
  cases r with
  | error e => rfl
  | ok f => cases f <;> rfl
theorem code_list_new0 {Q₁ : Value → Shared → Prop}
    (q : Q₁ (.ref s.heap.objs.size) { s with heap := s.heap.push { cls := .type "list", data := .seq #[] } }) :
    codeAny (model prog w) A (.call (.builtin "list.__new__") ⟨[.type "list"], []⟩) (wants Q₁ E) s := by
  have nc : checkBuiltinCall "list.__new__" ⟨[.type "list"], []⟩ = pure () := by kernel_rfl
  refine codeAny_of_tree ?_
  show wpAny _ A.in1 (do checkBuiltinCall "list.__new__" ⟨[.type "list"], []⟩; again (.builtin "list.__new__" ⟨[.type "list"], []⟩)) _ _ s
  refine wpAny_bind (wpAny_of_eq nc (wpAny_pure ⟨plainId_quiet PySem.F.plain_list_new _, codeAny_builtin_stack PySem.F.entry_list_new rfl fun p st => ?_⟩))
  rw [Around.under_plainId PySem.F.plain_list_new _]
  have hsub := sub_list_self
  have hown := owner_list_new
  obtain ⟨hp, g, d, tk, os⟩ := s
  simp only [hown]
  wp_walk
  exact q
theorem list0_args (a : Value) : argsOk "list.__init__" ⟨[a], []⟩ := by unfold argsOk; kernel_rfl
theorem list0_entry : entryFor table "list.__init__" = some Builtin.«list.__init__» := entryFor_of_tree (by kernel_rfl)
/-- list() -/
theorem list0 (q : ∀ h' c, (∀ a o, h.get? a = some o → h'.get? a = some o) → h'.get? h.objs.size = some (listOf #[] c) → Q (.ref h.objs.size) ⟨h', ge, dr, tk, os⟩) :
    wpAny (model prog w) A (call (.type "list") []) Q E ⟨h, ge, dr, tk, os⟩ := by
  have ct : checkTypeCall "list" ⟨[], []⟩ = pure () := by kernel_rfl
  refine callType_codes (Q₁ := fun obj s₁ => obj = .ref h.objs.size ∧ s₁ = ⟨h.push { cls := .type "list", data := .seq #[] }, ge, dr, tk, os⟩) PySem.F.called_list ct list0_entry (code_list_new0 ⟨rfl, rfl⟩) ?_
  rintro obj s₁ ⟨rfl, rfl⟩
  have ho : (h.push { cls := .type "list", data := .seq #[] }).get? h.objs.size = some { cls := .type "list", data := .seq #[] } := Heap.get?_push_at rfl rfl
  refine ⟨⟨_, ho, rfl⟩, list0_args _, ?_⟩
  unfold Builtin.«list.__init__»
  repeat ((fail_if_success (with_reducible show wpAny _ _ (update _ _) _ _ _)); lk)
  refine wpAny_update ho ?_
  have ho2 : ((h.push { cls := .type "list", data := .seq #[] }).update h.objs.size (Obj.mapSeq fun x => #[])).get? h.objs.size = some (listOf #[] 0) := Heap.get?_update_self _ ho rfl
  have hs : Heap.SameBut h.objs.size (h.push { cls := .type "list", data := .seq #[] }) ((h.push { cls := .type "list", data := .seq #[] }).update h.objs.size (Obj.mapSeq fun x => #[])) := Heap.SameBut.update ..
  have hk : ∀ a o, h.get? a = some o → ((h.push { cls := .type "list", data := .seq #[] }).update h.objs.size (Obj.mapSeq fun x => #[])).get? a = some o := fun a o e =>
    (hs.2 a (Nat.ne_of_lt (Heap.lt_size e))).trans (Heap.get?_push_of_some _ e)
  generalize (h.push { cls := .type "list", data := .seq #[] }).update h.objs.size (Obj.mapSeq fun x => #[]) = h2 at *
  refine wpAny_lookBehind ho2 (pastItsLine_seq (by rw [sizeLine_eq]; simp)) ?_
  refine wpAny_bind (wpAny_letGo ?_)
  refine wpAny_pure ⟨rfl, q _ _ hk ho2⟩
end
end
section
theorem ddm_entry : entryFor table "collections.defaultdict.__missing__" = some Builtin.«collections.defaultdict.__missing__» := entryFor_of_tree (by kernel_rfl)
theorem ddm_sig : Manifest.signature? "collections.defaultdict.__missing__" = some ⟨.oneArg, "defaultdict.__missing__", "__missing__", .self, [{ name := "object", kind := .posOnly, required := true }]⟩ := by kernel_rfl
theorem ddm_kind : builtinKind "collections.defaultdict.__missing__" = some .method := by decide +kernel
theorem ddm_check (x : Addr) (k : Int) (t : Tok) : Bind.checkArgs "collections.defaultdict.__missing__" ⟨.oneArg, "FreezableDefaultDict.__missing__", "__missing__", .self, [{ name := "object", kind := .posOnly, required := true }]⟩ ⟨[.ref x, .int k t], []⟩ = pure () := by kernel_rfl
noncomputable abbrev mthO (f x : Value) : Obj := { cls := .type "builtin_function_or_method", data := .fields #[f, x] }
section
variable {prog : Program} {w : World} {A : Around} {h : Heap} {ge : Array GenState} {dr : Drawn} {tk : Nat} {os : OsState} {E : Value → Shared → Prop} {s : Shared} {Q : Value → Shared → Prop}
  {b : Heap} {x dx mth : Addr} {ents : Ents} {ep : Nat} {odx : Obj} {t : Tok} {k : Nat}
theorem bookEs_none {ents : Ents} {k : Nat} (hn : entAt ents k = none) : ((bookEs ents).findIdx? fun e => Value.isInt ((k : Nat) : Int) e.key) = none := by
  have e := bookEs_get ents k
  rw [hn] at e
  cases hi : (bookEs ents).findIdx? fun e => Value.isInt ((k : Nat) : Int) e.key with
  | none => rfl
  | some i =>
    rw [hi] at e
    obtain ⟨hlt, _⟩ := Array.findIdx?_eq_some_iff_getElem.mp hi
    simp [Array.getElem?_eq_getElem hlt] at e
theorem bookEs_push (ents : Ents) (k : Nat) (t : Tok) (l : Addr) : (bookEs ents).push ⟨hashInt ((k : Nat) : Int), .int ((k : Nat) : Int) t, .ref l⟩ = bookEs (ents ++ [(k, t, l)]) := by
  unfold bookEs
  simp
theorem bookEs_size (ents : Ents) : (bookEs ents).size = ents.length := by unfold bookEs; simp
theorem setdef_entry : entryFor table "dict.setdefault" = some Builtin.«dict.setdefault» := entryFor_of_tree (by kernel_rfl)
theorem book_setdefault (Xb : (hd.heap_39 w.params).In b) (hb : b.StaysIn h) (hx : h.get? x = some (bookO dx (bookEs ents) ep)) (hn : entAt ents k = none) (hz : ents.length ≤ 1000000) {l : Addr} {R : Result → Shared → Prop}
    (q : ∀ h' tk', Heap.SameBut x h h' → h'.get? x = some (bookO dx (bookEs (ents ++ [(k, t, l)])) (ep + 1)) → R (.ok (.ret (.ref l))) ⟨h', ge, dr, tk', os⟩) :
    codeAny (model prog w) A (.builtin "dict.setdefault" ⟨[.ref x, .int ((k : Nat) : Int) t, .ref l], []⟩) R ⟨h, ge, dr, tk, os⟩ := by
  have X : (Mine.hd.heap_39 w.params).In h := Xb.keeps hb
  have t1 : Looks (model prog w) h (typeOf (.ref x)) (.ref 93) := (Looks.ld hx).andThen .now
  have sO := fd_subO (M := model prog w) X
  refine codeAny_builtin setdef_entry ?_
  unfold Builtin.«dict.setdefault»
  have fin : ∀ A' tk', wpAny (model prog w) A' (do ret (← dictSetDefault x (.int ((k : Nat) : Int) t) (.ref l))) (fun fin s' => match fin with | .done f => R (.ok f) s' | .again c' => c'.quiet = true ∧ codeAny (model prog w) A c' R s') (fun e s' => R (.error e) s') ⟨h, ge, dr, tk', os⟩ := by
    intro A' tk'
    unfold dictSetDefault
    refine wpAny_bind (wpAny_holding (wpAny_bind (wpAny_pyHash_int (wpAny_bind (wpAny_dictFind_int (s := ⟨h, ge, dr, tk' + 1, os⟩) hx rfl (bookEs_int ents) ?_)))))
    rw [bookEs_none hn]
    refine wpAny_bind (wpAny_rule (wpAny_bind (wpAny_updateDictKeys (s := ⟨h, ge, dr, tk' + 1, os⟩) (hz := by rw [bookEs_size, sizeLine_eq]; (first | lia | omega)) hx rfl (wpAny_pure (wpAny_pure (q _ _ (Heap.SameBut.update ..) ?_))))))
    rw [Heap.get?_update_self _ hx rfl, ← bookEs_push]
    rfl
  repeat ((fail_if_success (with_reducible show wpAny _ _ (ite _ _ _ >>= _) _ _ _)); (fail_if_success (with_reducible show wpAny _ _ (dictSetDefault _ _ _ >>= _) _ _ _)); lk)
  split
  · refine wpAny_bind (dictGet_es hx rfl (bookEs_int ents) ?_)
    rw [bookEs_get, hn]
    show wpAny _ _ (Dict.missed x (.int ((k : Nat) : Int) t) >>= _) _ _ _
    exact wpAny_bind (PySem.wpAny_missed_int (fin _ _))
  · exact fin _ _
theorem dd_missing (Xb : (hd.heap_39 w.params).In b) (hb : b.StaysIn h) (hxb : b.get? x = none) (hx : h.get? x = some (bookO dx (bookEs ents) ep))
    (hm : h.get? mth = some (mthO (.builtin "collections.defaultdict.__missing__") (.ref x))) (hn : entAt ents k = none) (hz : ents.length ≤ 1000000)
    (q : ∀ l h' tk' c, Ch [x] h h' → h.get? l = none → h'.get? l = some (listOf #[] c) → h'.get? x = some (bookO dx (bookEs (ents ++ [(k, t, l)])) (ep + 1)) → Q (.ref l) ⟨h', ge, dr, tk', os⟩) :
    wpAny (model prog w) A (call (.ref mth) [.int ((k : Nat) : Int) t]) Q E ⟨h, ge, dr, tk, os⟩ := by
  have X : (Mine.hd.heap_39 w.params).In h := Xb.keeps hb
  obtain ⟨oc, od, cd, sl, hC, hmro, _, _, _, _, _, hname, hqn⟩ := fd_obj X
  have t1 : Looks (model prog w) h (typeOf (.ref x)) (.ref 93) := (Looks.ld hx).andThen .now
  have sM : Looks (model prog w) h (isSubtype (.ref 93) (.type "module")) false := looks_mroIn X (by k_is)
  have tC : Looks (model prog w) h (typeOf (.ref 93)) (.type "type") := looks_typeIn X (by k_is)
  refine wpAny_call (codeAny_of_tree ?_)
  show wpAny _ _ (callAny (.ref mth) _) _ _ _
  refine nd_load hm ?_
  repeat ((fail_if_success (with_reducible show wpAny _ _ (checkBoundCall _ _) _ _ _)); lk)
  unfold checkBoundCall
  rw [ddm_sig, ddm_kind]
  repeat ((fail_if_success (with_reducible show wpAny _ _ (Bind.checkArgs _ _ _) _ _ _)); lk)
  rw [hqn]
  refine wpAny_of_eq (ddm_check x k t) ?_
  refine wpAny_pure ⟨Code.quiet_builtin _ (by decide +kernel), codeAny_builtin ddm_entry ?_⟩
  show wpAny _ _ (Builtin.«collections.defaultdict.__missing__» ⟨[.ref x, .int ((k : Nat) : Int) t], []⟩) _ _ _
  unfold Builtin.«collections.defaultdict.__missing__» Builtin.Collections_defaultdict.factory?
  repeat ((fail_if_success (with_reducible show wpAny _ _ (callOutOfASlot _ _) _ _ _)); lk)
  have bx : borrowsExactly (.type "list") = pure true := rfl
  unfold callOutOfASlot
  rw [bx]
  refine wpAny_bind (wpAny_pure ?_)
  rw [if_pos rfl]
  refine callBorrowed_of (list0 ?_)
  intro h1 c1 k1 hl1
  refine wpAny_pure ⟨Code.quiet_builtin _ (by decide +kernel), book_setdefault Xb (fun a o e => k1 _ _ (hb a o e)) (k1 _ _ hx) hn hz ?_⟩
  intro h2 tk2 s2 hx2
  have hne : x ≠ h.objs.size := Nat.ne_of_lt (Heap.lt_size hx)
  exact q _ _ _ c1 (fun a o n e => (s2.2 a (by simpa using n)).trans (k1 _ _ e)) (Heap.get?_none_of_le (Nat.le_refl _)) ((s2.2 _ (Ne.symm hne)).trans hl1) hx2
end
end
section
section
variable {M : Model} {A : Around} {c : Code} {E : Value → Shared → Prop} {s : Shared} {env : Env}
theorem at_spn {Q : List Value → Shared → Prop} (q : Q [] s) : PySem.wpAt M A c (spliced []) Q E s := PySem.wpAt_of_wpAny (spliced_nil q)
theorem at_spc {x : Sem Value} {rest : List (Bool × Sem Value)} {Q : List Value → Shared → Prop}
    (q : PySem.wpAt M A c x (fun v s₁ => PySem.wpAt M A c (spliced rest) (fun vs s₂ => Q (v :: vs) s₂) E s₁) E s) : PySem.wpAt M A c (spliced ((false, x) :: rest)) Q E s := by
  rw [spliced]
  refine PySem.wpAt_bind (ks_wpAt_mono q (fun v s₁ h₁ => ?_) fun _ _ x => x)
  simp only [Bool.false_eq_true, if_false]
  exact PySem.wpAt_bind (PySem.wpAt_of_wpAny (wpAny_pure (PySem.wpAt_bind (ks_wpAt_holding (ks_wpAt_mono h₁ (fun vs s₂ h₂ => PySem.wpAt_of_wpAny (wpAny_pure h₂)) fun _ _ x => x)))))
theorem at_bi {pos : Pos} {id : String} {x : Sem Value} {rest : List (Bool × Sem Value)} {Q : Value → Shared → Prop} (hplain : rest.any (·.1) = false)
    (q : PySem.wpAt M A c (spliced ((false, x) :: rest)) (fun vs s₁ => wpAny M A (call (.builtin id) vs) Q E s₁) E s) : PySem.wpAt M A c (callWith pos (.builtin id) [] ((false, x) :: rest) []) Q E s := by
  unfold callWith
  refine PySem.wpAt_bind (ks_wpAt_holding ?_)
  unfold evalArgs
  show PySem.wpAt M A c (spliced ((false, x) :: rest) >>= _) _ E s
  refine PySem.wpAt_bind (ks_wpAt_mono q (fun vs s₁ h₁ => ?_) fun _ _ x => x)
  refine ks_wpAt_holding (PySem.wpAt_of_wpAny (wpAny_bind (wpAny_pure (wpAny_bind (wpAny_pure (wpAny_pure ?_))))))
  refine PySem.wpAt_of_wpAny (wpAny_bind (wpAny_standAt ?_))
  have e : (((false, x) :: rest).any (·.1)) = false := by show (false || rest.any (·.1)) = false; rw [hplain]; rfl
  simp only [e, List.any_nil, Bool.or_false]
  refine wpAny_bind (wpAny_pure ?_)
  exact wpAny_bind (wpAny_mono h₁ (fun r s₂ hr => wpAny_bind (wpAny_holding (wpAny_point (wpAny_pure hr)))) fun _ _ x => x)
theorem at_call {fe : Expr} {args : List Expr} {pos : Pos} {Q : Value → Shared → Prop} (q : PySem.wpAt M A c (eval fe env) (fun f s₁ => PySem.wpAt M A c (callWith pos f [] (backTo pos (starEach args env)) []) Q E s₁) E s)
    (he : eval (.Call fe args [] pos) env = (do callWith pos (← eval fe env) [] (backTo pos (starEach args env)) (backToKw pos (keywordEach [] env)))) : PySem.wpAt M A c (eval (.Call fe args [] pos) env) Q E s := by
  rw [he]
  exact PySem.wpAt_bind q
theorem at_attr {value : Expr} {attr : Str} {pos : Pos} {Q : Value → Shared → Prop} (q : PySem.wpAt (M) A c (attributeBase value attr env (eval value env)) (fun o s₁ => wpAny M A (getAttr o attr true) (fun r s₂ => wpAny M A (letTemporaryGo value o r) (fun _ s₃ => Q r s₃) E s₂) E s₁) E s)
    (he : eval (.Attribute value attr pos) env = (do
      let o ← attributeBase value attr env (eval value env)
      standAt pos.atName
      let r ← holding [o] (getAttr o attr true)
      letTemporaryGo value o r
      pure r)) : PySem.wpAt M A c (eval (.Attribute value attr pos) env) Q E s := by
  rw [he]
  refine PySem.wpAt_bind (ks_wpAt_mono q (fun o s₁ h₁ => ?_) fun _ _ x => x)
  exact PySem.wpAt_of_wpAny (wpAny_bind (wpAny_standAt (wpAny_bind (wpAny_holding (wpAny_mono h₁ (fun r s₂ h₂ => wpAny_bind (wpAny_mono h₂ (fun _ _ h₃ => wpAny_pure h₃) fun _ _ x => x)) fun _ _ x => x)))))
end
/-- what super() asks of the program -/
structure SupOk (prog : Program) : Prop where
  file : ((prog.main.file : Str) == Str.ofString "/claim/cut.py") = true
  top : (prog.main.scope.names.lookup ("super" : Str)).isSome = false
theorem md_typ : typeOf (.builtin "collections.defaultdict.__missing__") = pure (.type "method_descriptor") := by kernel_rfl
theorem md_slot : Slot "method_descriptor" "__get__" "method_descriptor.__get__" := .of (owner := "method_descriptor") (n := "__get__") (by rw [typeLookup_type, builtinLookup_eq_fast]; kernel_rfl) (by decide +kernel) (by decide +kernel) (by decide +kernel)
  (by first | exact .inl (by decide +kernel) | exact .inr (by decide +kernel)) (by rw [isSubtype_type]; kernel_rfl)
theorem md_entry : entryFor table "method_descriptor.__get__" = some Builtin.«method_descriptor.__get__» := entryFor_of_tree (by kernel_rfl)
theorem md_args (a b c : Value) : argsOk "method_descriptor.__get__" ⟨[a, b, c], []⟩ := by unfold argsOk; kernel_rfl
theorem dd_own : builtinOwn "collections.defaultdict" "__missing__" = some (.builtin "collections.defaultdict.__missing__") := by kernel_rfl
section
variable {prog : Program} {w : World} {A : Around} {h : Heap} {ge : Array GenState} {dr : Drawn} {tk : Nat} {os : OsState} {E : Value → Shared → Prop} {s : Shared} {Q : Value → Shared → Prop}
  {b : Heap} {x dx so : Addr} {es : Array DictEntry} {ep : Nat} {odx : Obj} {t : Tok} {k : Nat}
theorem sup_attr (Xb : (hd.heap_39 w.params).In b) (hb : b.StaysIn h) (T : nsIn (hd.heap_39 w.params) cStatics "thirdparty.any" = some none) (hxb : b.get? x = none) (hx : h.get? x = some (bookO dx es ep)) (hso : h.get? so = some (ks_superObj 93 x 93))
    (q : ∀ mth h' tk', (∀ a o, h.get? a = some o → h'.get? a = some o) → h.get? mth = none → h'.get? mth = some (mthO (.builtin "collections.defaultdict.__missing__") (.ref x)) → Q (.ref mth) ⟨h', ge, dr, tk', os⟩) :
    wpAny (model prog w) A (getAttr (.ref so) "__missing__" true) Q E ⟨h, ge, dr, tk, os⟩ := by
  have X : (Mine.hd.heap_39 w.params).In h := Xb.keeps hb
  have hlk := F.ks_slot_super_ga.lookup
  have hno : Looks (model prog w) h (opaqueClassAbove (.ref 93)) none := looks_opaque X T
  have hC := fd_mro (M := model prog w) X
  have t1 : Looks (model prog w) h (typeOf (.ref x)) (.ref 93) := (Looks.ld hx).andThen .now
  have sX := fd_subX (M := model prog w) X
  have hT : ∀ t', (⟨h, ge, dr, t', os⟩ : Shared).TypeIs (.ref so) "super" := fun _ => ⟨_, hso, rfl⟩
  have hne : (Value.ref x == Value.ref 93) = false := by
    have : x ≠ 93 := by
      rintro rfl
      obtain ⟨_, _, _, _, hC, _⟩ := fd_obj Xb
      rw [hxb] at hC; cases hC
    simp [this]
  unfold getAttr getAttrBy
  refine wpAny_bind (wpAny_mkText (wpAny_holding (wpAny_bind (wpAny_typeOf (hT _) (wpAny_bind (wpAny_of_eq hlk ?_))))))
  show wpAny _ _ (getAttrByItsOwn (.ref so) (.str "__missing__" tk) (.type "super") (.builtin "super.__getattribute__") true true) _ _ _
  unfold getAttrByItsOwn hookBefore callGetattribute boundAndCalled
  refine wpAny_bind (wpAny_of_eq (show (if onTheHeap (.type "super") then typeLookup (.type "super") "__getattr__" else pure none) = pure none from rfl) ?_)
  refine wpAny_bind (wpAny_attempt (wpAny_holding ?_))
  show wpAny _ _ (bindSpecial (.builtin "super.__getattribute__") (.ref so) >>= _) _ _ _
  refine wpAny_bind (wpAny_of_eq (F.ks_slot_super_ga.bind _) ?_)
  refine wpAny_call_entry F.ks_slot_super_ga (hT _) F.ks_entry_super_ga ?_ (F.ks_gaArgs_super _ _)
  have hdt : (ks_superObj 93 x 93 : Obj).data = .fields #[.ref 93, .ref x, .ref 93] := rfl
  have f0 : (#[.ref 93, .ref x, .ref 93] : Array Value)[0]? = some (.ref 93) := rfl
  have f1 : (#[.ref 93, .ref x, .ref 93] : Array Value)[1]? = some (.ref x) := rfl
  have f2 : (#[.ref 93, .ref x, .ref 93] : Array Value)[2]? = some (.ref 93) := rfl
  unfold Builtin.«super.__getattribute__»
  have c1 : Looks (model prog w) h (classOwn (.type "collections.defaultdict") "__missing__") (some (.builtin "collections.defaultdict.__missing__")) := Looks.of_pure (by show pure (builtinOwn _ _) = _; rw [dd_own])
  have c2 : Looks (model prog w) h (typeOf (.builtin "collections.defaultdict.__missing__")) (.type "method_descriptor") := Looks.of_pure md_typ
  have c3 : Looks (model prog w) h (typeLookup (.type "method_descriptor") "__get__") (some (.builtin "method_descriptor.__get__")) := Looks.of_pure md_slot.lookup
  have dw : ([Value.ref 93, .type "collections.defaultdict", .type "dict", .type "object"].dropWhile (fun x => x != Value.ref 93)).drop 1 = [.type "collections.defaultdict", .type "dict", .type "object"] := by decide +kernel
  repeat (first
    | (with_reducible refine wpAny_field hso hdt f0 ?_) | (with_reducible refine wpAny_field hso hdt f1 ?_) | (with_reducible refine wpAny_field hso hdt f2 ?_)
    | (with_reducible refine ks_wpAny_notOpaque hno ?_)
    | (with_reducible refine Looks.at hC ?_; rw [dw])
    | (with_reducible refine Looks.at c1 ?_) | (with_reducible refine Looks.at c2 ?_) | (with_reducible refine Looks.at c3 ?_)
    | (simp only [hne, Bool.false_eq_true, if_false]; with_reducible refine wpAny_call_entry md_slot md_typ md_entry ?_ (md_args _ _ _))
    | wp_step
    | dsimp only)
  rw [hne]
  refine codeAny_call_builtin md_slot.plain md_entry (md_slot.check _ _ _ _ _ _ _ _ md_typ (md_args _ _ _) ?_)
  unfold Builtin.«method_descriptor.__get__»
  have inX : Looks (model prog w) h (isInstance (.ref x) (.type "collections.defaultdict")) true := t1.andThen sX
  repeat (first | (with_reducible refine wpAny_newObj_type ?_ (by size_fits)) | lk)
  exact ⟨_, rfl, wpAny_pure (q _ _ _ (fun a o e => Heap.get?_push_of_some _ e) (Heap.get?_none_of_le (Nat.le_refl _)) (Heap.get?_push_size _ rfl))⟩
end
end
section
section
variable {prog : Program} {w : World} {A : Around} {E : Value → Shared → Prop} {p : Program} {loose : List Str} {mean : ExcName → Option Value} {mg mb : Str → Option Value} {b h : Heap} {ge : Array GenState} {dr : Drawn} {tk : Nat} {os : OsState}
  {name qual : Str} {params : Arguments} {body : List Stmt} {scope : Scope} {dV kV doc pm cdv ct oc : Value} {an od : Option Addr} {osl : Array (Option Value)} {f cc : Addr} {vals : List Value} {binds : List (Str × Value)} {news : List (Addr × Obj)} {Q : Value → Shared → Prop}
/-- a def of a class is called whose code names the class -/
theorem mk_enterAt (B : Base w p loose mean mg mb b) (hb : b.StaysIn h) (N : ∀ q ∈ news, h.get? q.1 = some q.2 ∧ b.get? q.1 = none ∧ ∀ vs, q.2 ≠ tupO vs)
    (ho : (hd.heap_39 w.params).lookup f = some ⟨oc, od, .func (ksFn name qual params body scope dV kV doc pm an cdv ct cc), osl⟩) (hcd : codeIn (hd.heap_39 w.params) cdv qual = true) (hroom : A.depth < recursionLimit)
    (hbind : ∀ s, BindsTo s (ksFn name qual params body scope dV kV doc pm an cdv ct cc) ⟨vals, []⟩ binds) (hloc : ∀ y ∈ binds, scope.names.lookup y.1 = some .local)
    (q : ∀ g L h₁ tk', FB w p loose mean mg mb g L h₁ (fun y => binds.reverse.lookup y) news → Ch (news.map (·.1)) h g → TK h g → b.StaysIn g →
      PySem.wpAt (model prog w) (A.deeper (ksEnv qual scope L f cdv cc)) (.func body (ksEnv qual scope L f cdv cc)) (execs body (ksEnv qual scope L f cdv cc))
        (fun fl s' => Q (match fl with | .ret v => v | _ => .none) s') (fun _ _ => False) ⟨h₁, ge, dr, tk', os⟩)
    (hco : scope.isCoroutine = false) (hgen : scope.isGenerator = false) (hk : scope.kind = .function)
    (hcell : ∀ x ∈ scope.names, x.2 ≠ .cell) : wpAny (model prog w) A (call (.ref f) vals) Q E ⟨h, ge, dr, tk, os⟩ := by
  have BH := B.keeps hb
  obtain ⟨st, Bg, tg⟩ := hide_base B hb N
  refine wpAny_call (ks_codeAny_call_defAt (fd := ksFn name qual params body scope dV kV doc pm an cdv ct cc) (body := body) (binds := binds) hroom (BH.X _ _ ho) rfl BH.T.nolimit (codeRec_of BH.X hcd) rfl (hbind _) hcell hloc (fun h₁ hns hk₁ => ?_) hco hgen hk)
  refine ks_wpAt_mono (q (hideAll h (news.map (·.1))) h.objs.size h₁ _ ⟨hns, fun a o e => hk₁ a o (of_hideAll _ e), ?_, fun q hq => ⟨hk₁ _ _ (N q hq).1, Nat.ne_of_lt (Heap.lt_size (N q hq).1), hideAll_none _ (List.mem_map_of_mem hq)⟩, Bg⟩ (fun a o ha e => hideAll_get _ e ha) tg st) (fun _ _ x => x) fun _ _ x => x.elim
  cases e : (hideAll h (news.map (·.1))).get? h.objs.size with
  | none => rfl
  | some o => exact absurd (Heap.lt_size (of_hideAll _ e)) (Nat.lt_irrefl _)
end
section
variable {prog : Program} {w : World} {A : Around} {E : Value → Shared → Prop} {p : Program} {loose : List Str} {mean : ExcName → Option Value} {mg mb : Str → Option Value} {b h : Heap} {ge : Array GenState} {dr : Drawn} {tk : Nat} {os : OsState}
  {x dx : Addr} {ents : Ents} {ep : Nat} {odx : Obj} {t : Tok} {k : Nat} {Q : Value → Shared → Prop}
theorem book_ne (dx : Addr) (es : Array DictEntry) (ep : Nat) : ∀ vs, bookO dx es ep ≠ tupO vs := ne_tup (by show (Value.ref 93 == Value.type "tuple") = false; decide +kernel)
theorem callWith_mth {M : Model} {A : Around} {E : Value → Shared → Prop} {s : Shared} {pos : Pos} {a : Addr} {f y : Value} {e : Expr} {rest : List Expr} {env : Env} {Q : Value → Shared → Prop}
    (q : wpAny M A (spliced (backTo pos (starEach (e :: rest) env))) (fun vs s₁ => s₁.heap.get? a = some (mthO f y) ∧ wpAny M A (call (.ref a) vs) Q E s₁) E s)
    (he : starEach (e :: rest) env = (false, eval e env) :: starEach rest env) (hp : (backTo pos (starEach rest env)).any (·.1) = false) :
    wpAny M A (callWith pos (.ref a) [] (backTo pos (starEach (e :: rest) env)) []) Q E s := by
  rw [he] at q ⊢
  unfold callWith
  refine wpAny_bind (wpAny_holding (evalArgs_plain (wpAny_mono q (fun vs s₁ h₁ => wpAny_bind (wpAny_standAt ?_)) fun _ _ x => x)))
  have hs : (backTo pos ((false, eval e env) :: starEach rest env)).any (·.1) = false := by show (false || (backTo pos (starEach rest env)).any (·.1)) = false; rw [hp]; rfl
  simp only [hs, List.any_nil, Bool.or_false]
  refine wpAny_bind (m := keeperOf (.ref a)) ?_
  unfold keeperOf
  refine wpAny_bind (wpAny_load h₁.1 ?_)
  dsimp only
  rw [if_pos (by decide +kernel)]
  refine wpAny_pure ?_
  rw [if_pos (by decide +kernel)]
  exact wpAny_bind (wpAny_mono h₁.2 (fun r s₂ hr => wpAny_bind (wpAny_holding (wpAny_point (wpAny_pure hr)))) fun _ _ x => x)
theorem at_spcE {M : Model} {A : Around} {c : Code} {E : Value → Shared → Prop} {s : Shared} {env : Env} {pos : Pos} {e : Expr} {rest : List Expr} {Q : List Value → Shared → Prop}
    (q : PySem.wpAt M A c (eval e env) (fun v s₁ => PySem.wpAt M A c (spliced (backTo pos (starEach rest env))) (fun vs s₂ => Q (v :: vs) s₂) E s₁) E s)
    (he : starEach (e :: rest) env = (false, eval e env) :: starEach rest env) : PySem.wpAt M A c (spliced (backTo pos (starEach (e :: rest) env))) Q E s := by
  rw [he]; exact at_spc q
theorem at_spnE {M : Model} {A : Around} {c : Code} {E : Value → Shared → Prop} {s : Shared} {env : Env} {pos : Pos} {Q : List Value → Shared → Prop} (q : Q [] s) : PySem.wpAt M A c (spliced (backTo pos (starEach [] env))) Q E s := at_spn q
theorem at_biE {M : Model} {A : Around} {c : Code} {E : Value → Shared → Prop} {s : Shared} {env : Env} {pos : Pos} {id : String} {e : Expr} {rest : List Expr} {Q : Value → Shared → Prop}
    (q : PySem.wpAt M A c (spliced (backTo pos (starEach (e :: rest) env))) (fun vs s₁ => wpAny M A (call (.builtin id) vs) Q E s₁) E s)
    (he : starEach (e :: rest) env = (false, eval e env) :: starEach rest env) (hp : (backTo pos (starEach rest env)).any (·.1) = false) : PySem.wpAt M A c (callWith pos (.builtin id) [] (backTo pos (starEach (e :: rest) env)) []) Q E s := by
  rw [he] at q ⊢; exact at_bi hp q
theorem FB.more {w : World} {p : Program} {loose : List Str} {mean : ExcName → Option Value} {mg mb : Str → Option Value} {g h h' : Heap} {L l : Addr} {m : Str → Option Value} {news : List (Addr × Obj)} {o : Obj}
    (f : FB w p loose mean mg mb g L h m news) (k : ∀ a o, h.get? a = some o → h'.get? a = some o) (hn : h.get? l = none) (ho : h'.get? l = some o) : FB w p loose mean mg mb g L h' m ((l, o) :: news) := by
  refine (f.all k).cons ho ?_ ?_
  · obtain ⟨oL, _, _, hL, _⟩ := f.ns
    rintro rfl; rw [hn] at hL; cases hL
  · cases e : g.get? l with
    | none => rfl
    | some o => rw [f.keep _ _ e] at hn; cases hn
theorem mw_ldb {prog : Program} {w : World} {A : Around} {E : Value → Shared → Prop} {p : Program} {loose : List Str} {mean : ExcName → Option Value} {mg mb : Str → Option Value} {g h : Heap} {L : Addr} {m : Str → Option Value} {news : List (Addr × Obj)} {ge : Array GenState} {dr : Drawn} {tk : Nat} {os : OsState} {x : Str} {v : Value} {env : Env} {Q : Value → Shared → Prop}
    (f : FB w p loose mean mg mb g L h m news) (e : nsIn (hd.heap_39 w.params) mainGlobals x = some none) (hv : bootBuiltins x = some v) (q : Q v ⟨h, ge, dr, tk, os⟩) (hl : env.kindOf x = some .globalImplicit) (hk : env.scope.kind = .function)
    (hg : env.globals = mainGlobals) (hb : env.builtins = builtinsNs) (hn : x ≠ "__name__") : wpAny (model prog w) A (loadName env x) Q E ⟨h, ge, dr, tk, os⟩ :=
  ks_loadName_global hk hl (loadGlobal_builtin (env := env) (hg ▸ f.B.T.g.keeps f.keep) (mg_none_of f.B.X f.B.T.g e) (hb ▸ f.B.T.b.keeps f.keep) ((f.B.T.builtins x hn).trans hv) q)
theorem sup_node {prog : Program} {w : World} {A : Around} {E : Value → Shared → Prop} {p : Program} {loose : List Str} {mean : ExcName → Option Value} {mg mb : Str → Option Value} {g h : Heap} {L x dx : Addr} {es : Array DictEntry} {ep : Nat} {m : Str → Option Value} {news : List (Addr × Obj)} {ge : Array GenState} {dr : Drawn} {tk : Nat} {os : OsState} {Q : Value → Shared → Prop}
    {body : List Stmt} {qn : Str} {scope : Scope} {p0 p1 : Pos} {attr : Str} {whole : Sem Value} {fd : FuncData} {ar : Arg} {vs : Array Value} {tf : Tok} {oc ccl cl : Value} {od cdd cld : Option Addr} {osl ccs csl : Array (Option Value)} {f cda : Addr}
    (S : SupOk prog) (fb : FB w p loose mean mg mb g L h m news) (hx : h.get? x = some (bookO dx es ep)) (hf : (hd.heap_39 w.params).lookup f = some ⟨oc, od, .func fd, osl⟩) (hcode : (hd.heap_39 w.params).lookup cda = some ⟨ccl, cdd, .fields vs, ccs⟩)
    (hcell : (hd.heap_39 w.params).lookup 71 = some ⟨cl, cld, .cell (some (.ref 93)), csl⟩)
    (hp : (fd.params.posonlyargs ++ fd.params.args).head? = some ar) (hvs : vs[2]? = some (.str (Str.ofString "/claim/cut.py") tf)) (hv : m ar.arg = some (.ref x)) (hsup : nsIn (hd.heap_39 w.params) mainGlobals "super" = some none) (hboot : bootBuiltins "super" = some (.type "super"))
    (hat : (attr == ("__class__" : Str)) = false) (hks : scope.names.lookup ("super" : Str) = some .globalImplicit) (hkc : scope.names.lookup ("__class__" : Str) = some .free) (hka : scope.names.lookup ar.arg = some .local) (hk : scope.kind = .function)
    (q : ∀ so h2, FB w p loose mean mg mb g L h2 m ((so, ks_superObj 93 x 93) :: news) → (∀ a o, h.get? a = some o → h2.get? a = some o) → Q (.ref so) ⟨h2, ge, dr, tk, os⟩) :
    PySem.wpAt (model prog w) A (.func body (ksEnv qn scope L f (.ref cda) 71)) (attributeBase (.Call (.Name "super" p0) [] [] p1) attr (ksEnv qn scope L f (.ref cda) 71) whole) Q E ⟨h, ge, dr, tk, os⟩ := by
  have XH : (Mine.hd.heap_39 w.params).In h := fb.B.X.keeps fb.keep
  obtain ⟨_, _, cd, _, hC, hmro, _⟩ := fd_obj XH
  refine ks_wpAt_super_base (env := ksEnv qn scope L f (.ref cda) 71) hks hkc hat rfl (XH _ _ hf) rfl hp rfl (XH _ _ hcode) rfl hvs S.file S.top ?_
  refine mw_ldb fb hsup hboot ?_ hks hk rfl rfl (by decide)
  refine ⟨rfl, ?_⟩
  refine wpAny_loadName_free hk hkc rfl ⟨_, XH _ _ hcell, rfl⟩ ?_
  refine wpAny_loadName_local hk hka fb.ns hv ?_
  refine ks_wpAny_isType_cls hC rfl ⟨rfl, ?_⟩
  refine ks_wpAny_call_super hC rfl hx rfl (fun c e => by cases e) (fd_self XH) fun h2 hso k2 => ?_
  exact q _ _ (fb.more (l := h.objs.size) (o := ks_superObj 93 x 93) k2 (Heap.get?_none_of_le (Nat.le_refl _)) hso) k2
/-- `__missing__` of a book that isn't frozen -/
theorem missing_spec (S : SupOk prog) (B : Base w p loose mean mg mb b) (hb : b.StaysIn h) (hxb : b.get? x = none) (hx : h.get? x = some (bookO dx (bookEs ents) ep)) (hdb : b.get? dx = some emptyDict)
    (hn : entAt ents k = none) (hz : ents.length ≤ 1000000)
    (hd : A.depth + 2 < recursionLimit) (hu : A.units + 40 < cLine) (hh : A.handled = none)
    (q : ∀ l h' tk' c, Ch [x] h h' → h.get? l = none → h'.get? l = some (listOf #[] c) → h'.get? x = some (bookO dx (bookEs (ents ++ [(k, t, l)])) (ep + 1)) → Q (.ref l) ⟨h', ge, dr, tk', os⟩) :
    wpAny (model prog w) A (call (.ref 83) [.ref x, .int ((k : Nat) : Int) t]) Q E ⟨h, ge, dr, tk, os⟩ := by
  have BX := B.X
  refine' mk_enterAt (news := [(x, bookO dx (bookEs ents) ep)]) (binds := [("self", .ref x), ("key", .int ((k : Nat) : Int) t)]) B hb ?k0 ?k6 ?k7 (by (first | lia | omega)) ?k9 ?kB ?_ ?c2 ?c3 ?c4 ?c5
  case k0 =>
    intro q hq; rw [List.mem_singleton] at hq; subst hq
    exact ⟨hx, hxb, book_ne _ _ _⟩
  case k6 => k_is
  case k7 => k_is
  case k9 => exact fun _ => BindsTo.of_eq rfl
  case kB => exact locs rfl
  case c2 => exact rfl
  case c3 => exact rfl
  case c4 => exact rfl
  case c5 => decide
  intro g L h₁ tk₁ fb hg tg hbg
  clear BX
  have X := fb.B.X
  have hgx : g.get? x = none := fb.new_ (.head _)
  refine ks_wpAt_execs_cons (ks_wpAt_Return_some (at_call ?_ rfl))
  refine at_call ?_ rfl
  refine PySem.wpAt_of_wpAny ?_
  refine' mw_built fb ?e ?v ?_ ?l ?k ?d ?g ?b ?n
  case l => rfl
  case k => rfl
  case e => k_is
  case v => boot_by_name
  case d => decide
  case g => rfl
  case b => rfl
  case n => decide
  refine at_biE ?_ rfl rfl
  refine at_spcE (PySem.wpAt_of_wpAny ?_) rfl
  refine' mw_local fb ?v ?_ ?l ?k ?d
  case l => rfl
  case k => rfl
  case d => decide
  case v => rfl
  refine at_spcE (PySem.wpAt_of_wpAny ?_) rfl
  refine wpAny_Constant_str ?_
  refine at_spcE (at_attr ?_ rfl) rfl
  have hx1 : h₁.get? x = some (bookO dx (bookEs ents) ep) := fb.at_ (.head _)
  refine' sup_node S fb hx1 ?hf ?hcc ?hcl ?hp ?hvs ?hv ?hsup ?hboot ?hat ?hks ?hkc ?hka ?hk ?_
  case hf => k_is
  case hcc => k_is
  case hcl => k_is
  case hsup => k_is
  case hboot => boot_by_name
  case hat => decide +kernel
  all_goals try rfl
  intro so h2 f2 k2
  have g2 : g.StaysIn h2 := fun a o e => k2 _ _ (fb.keep a o e)
  have no : nsIn (Mine.hd.heap_39 w.params) cStatics "thirdparty.any" = some none := by k_is
  refine sup_attr fb.B.X g2 no hgx (k2 _ _ hx1) (f2.at_ (.head _)) ?_
  intro mth h3 tk3 k3 hmn hm
  have f3 := (f2.sub (news' := [(x, bookO dx (bookEs ents) ep)]) (fun q hq => .tail _ hq)).more k3 hmn hm
  refine wpAny_letTemporaryGo (at_spnE ?_)
  have hdg : g.get? dx = some emptyDict := hbg _ _ hdb
  refine fd_getattr fb.B.X f3.keep (f3.at_ (.tail _ (.head _))) (f3.keep _ _ hdg) ?_
  refine fd_frozen_none fb.B.X f3.keep (f3.at_ (.tail _ (.head _))) (f3.keep _ _ hdg) ?hh ?_
  case hh => exact hh
  intro h4 tk4 k4
  have f4 := f3.all k4
  refine PySem.wpAt_of_wpAny (callWith_mth (f := .builtin "collections.defaultdict.__missing__") (y := .ref x) ?_ rfl rfl)
  walk_at "go"
  refine ⟨f4.at_ (.head _), ?_⟩
  refine dd_missing fb.B.X f4.keep hgx (f4.at_ (.tail _ (.head _))) (f4.at_ (.head _)) hn hz ?_
  intro l h5 tk5 c5 C5 ln hl hx5
  have f5 := (f4.sub (news' := [(x, bookO dx (bookEs ents) ep)]) (fun q hq => .tail _ hq)).ch C5 (o' := bookO dx (bookEs (ents ++ [(k, t, l)])) (ep + 1)) (by k_upd) hx5
  refine q l h5 tk5 c5 (ch_of (by simpa using hg) f5) ?_ hl hx5
  cases e : h.get? l with
  | none => rfl
  | some o =>
    by_cases e1 : l = x
    · subst e1; rw [f4.at_ (.tail _ (.head _))] at ln; cases ln
    · rw [f4.keep _ _ (hg _ _ (by simpa using e1) e)] at ln; cases ln
end
end
section
section
variable {prog : Program} {w : World} {A : Around} {E : Value → Shared → Prop} {p : Program} {loose : List Str} {mean : ExcName → Option Value} {mg mb : Str → Option Value} {b h : Heap} {ge : Array GenState} {dr : Drawn} {tk : Nat} {os : OsState}
  {x dx : Addr} {es : Array DictEntry} {ep : Nat} {t : Tok} {k : Nat} {Q : Value → Shared → Prop}
theorem tab_ne (ps : Array Value) : ∀ vs, tabObj ps ≠ tupO vs := fun vs e => by cases e
theorem dict_ne (es : Array DictEntry) (ep : Nat) : ∀ vs, ({ cls := .type "dict", data := .dict es ep } : Obj) ≠ tupO vs := ne_tup (by show (Value.type "dict" == Value.type "tuple") = false; decide +kernel)
theorem FB.apart {g h : Heap} {L a c : Addr} {m : Str → Option Value} {news : List (Addr × Obj)} {o o' : Obj} (f : FB w p loose mean mg mb g L h m news) (h1 : (a, o) ∈ news) (h2 : (c, o') ∈ news) (hne : o.data ≠ o'.data) : a ≠ c := by
  rintro rfl
  have z := (f.N _ h1).1
  have z2 := (f.N _ h2).1
  dsimp only at z z2
  rw [z] at z2
  exact hne (congrArg Obj.data (Option.some.inj z2))
theorem wpAny_of_at {α : Type} {M : Model} {A : Around} {t : Sem α} {Q : α → Shared → Prop} {E : Value → Shared → Prop} {s : Shared} (h : ∀ c, PySem.wpAt M A c t Q E s) : wpAny M A t Q E s := fun Γ p hΓ => h Γ.code Γ p rfl hΓ
theorem codeHd_of {K : Frag} {h : Heap} (X : K.In h) {c P : Addr} {od : Option Addr} {vs : Array Value} {sl : Array (Option Value)} (e : K.lookup c = some ⟨.type "code", od, .fields vs, sl⟩) {file : Str} {flags text : Int} {tf tg tt : Tok} {inF : Bool} (h11 : vs[11]? = some (.ref P)) (h11' : vs.getD 11 .none = .ref P) (h18 : vs.getD 18 .none = .str file tf)
    (h7 : vs.getD 7 .none = .int flags tg) (h9 : vs.getD 9 .none = .bool inF) (h10 : vs.getD 10 .none = .int text tt) (hne : c ≠ P) : CodeHd h c P := ⟨_, vs, file, tf, flags, tg, inF, text, tt, X _ _ e, rfl, rfl, h11, h11', h18, h7, h9, h10, hne⟩
theorem frozen_code {w : World} {h : Heap} (X : (hd.heap_39 w.params).In h) : CodeHd h 89 85 := by
  refine' codeHd_of X ?e ?a ?b ?c ?d ?f ?g ?i
  case e => k_is
  case i => decide
  case a => exact rfl
  case b => exact rfl
  case c => exact rfl
  case d => exact rfl
  case f => exact rfl
  case g => exact rfl
theorem fb_lambda {g h : Heap} {L c P : Addr} {m : Str → Option Value} {news : List (Addr × Obj)} {gf : Obj → List (Addr × Obj)} {env : Env} {name qual : Str} {params : Arguments} {body : Expr} {scope : Scope} {ps : Array Value} {pos : Pos} {firstLine : Nat} {clos : List (Str × Addr)}
    (fb : FB w p loose mean mg mb g L h m news) (C : CodeHd g c P) (hcd : env.code = .ref c) (hge : env.globals = mainGlobals) (U : UpdF P (tabObj ps) news gf) (ht : TriplesOk ps.toList) (hnf : codeAmong pos ps.toList = none) (hcl : closureFor scope env = pure clos)
    (q : ∀ f c' oc vs t ctv pm h' tk', FB w p loose mean mg mb g L h' m ((f, kla_obj name qual params body scope clos pm c' ctv) :: (c', oc) :: gf (tabObj (ps ++ #[rawInt pos.line, rawInt pos.col, .ref c']))) → oc.data = .fields vs → vs[1]? = some (.str qual t) → Ch [P] h h' → Q (.ref f) ⟨h', ge, dr, tk', os⟩) :
    wpAny (model prog w) A (makeFunction name qual params (.expr body) scope env [] [] [] pos firstLine) Q E ⟨h, ge, dr, tk, os⟩ := by
  obtain ⟨own, rest, rfl, hgr, h1, h2⟩ := U.split
  have hm := fb.N (P, tabObj ps) (List.mem_append_right _ (.head _))
  have hgs := fb.B.T.g.keeps fb.keep
  obtain ⟨bm, ob, b1, b2, b3, b4, b5, b6⟩ := fb.B.T.bmain
  have hgP : mainGlobals ≠ P := fun q => by
    obtain ⟨o, es, ep, e, hd, _⟩ := hgs
    rw [q, hm.1] at e; cases e; cases hd
  have hbP : bm ≠ P := fun q => by
    have e := fb.keep _ _ b3
    rw [q, hm.1] at e; cases e; cases b4
  have hbG : bm ≠ mainGlobals := fun q => by
    obtain ⟨o, es, ep, e, hd, _⟩ := fb.B.T.g
    rw [q, e] at b3; cases b3; rw [hd] at b6; cases b6
  refine kla_makeFunction (s := ⟨h, ge, dr, tk, os⟩) (mg := mg) hcl hge hgs hcd (C.keeps fb.keep) hm.1 ht hnf hgP ⟨bm, ob, b1, b2, hbG, hbP, fb.keep _ _ b3, b4, b5, b6⟩ fun c' ctv h' tk hx hge hlt hrec htb => ?_
  obtain ⟨c₂, oc, vs, t, e2, hoc, hd, hv⟩ := hrec
  cases e2
  have hLs : L < h.objs.size := fb.ns.lt
  have hLc : L < c' := Nat.lt_of_lt_of_le hLs hge
  have old : ∀ b o, g.get? b = some o → h'.get? b = some o := fun b o e => hx b o (fun q => by rw [q, hm.2.2] at e; cases e) (fb.keep b o e)
  have fresh : ∀ b, h.objs.size ≤ b → g.get? b = none := fun b hb => by
    cases e : g.get? b with
    | none => rfl
    | some o => exact absurd (Heap.lt_size (fb.keep _ _ e)) (Nat.not_lt.mpr hb)
  refine q h'.objs.size c' oc vs t ctv ((mg "__name__").getD .none) _ tk ⟨(fb.ns.extBut hx hm.2.1.symm).push _, fun b o e => Heap.get?_push_of_some _ (old b o e), fb.out, fun q hq => ?_, fb.B⟩ hd hv (fun a o n e => Heap.get?_push_of_some _ (hx a o (by simpa using n) e))
  rcases List.mem_cons.mp hq with rfl | hq
  · exact ⟨Heap.get?_push_size _ rfl, Nat.ne_of_gt (Nat.lt_trans hLc hlt), fresh _ (Nat.le_trans hge (Nat.le_of_lt hlt))⟩
  · rcases List.mem_cons.mp hq with rfl | hq
    · exact ⟨Heap.get?_push_of_some _ hoc, Nat.ne_of_gt hLc, fresh _ hge⟩
    · rw [hgr] at hq
      rcases List.mem_append.mp hq with hq | hq
      · have n := fb.N q (List.mem_append_left _ hq)
        exact ⟨Heap.get?_push_of_some _ (hx _ _ (h1 q hq) n.1), n.2⟩
      · rcases List.mem_cons.mp hq with rfl | hq
        · exact ⟨Heap.get?_push_of_some _ htb, hm.2⟩
        · have n := fb.N q (List.mem_append_right _ (.tail _ hq))
          exact ⟨Heap.get?_push_of_some _ (hx _ _ (h2 q hq) n.1), n.2⟩
theorem refuse_dd (self : Value) : refuseLoop self "__setattr__" [.ref 93, .type "collections.defaultdict", .type "dict", .type "object"] = pure () := by
  rw [refuseLoop_ref]; kernel_rfl
noncomputable abbrev frozenEs (w : World) (t : Tok) (v : Value) : Array DictEntry := #[⟨PyData.keyHash w.params "_frozen", .str "_frozen" t, v⟩]
theorem fd_setfrozen {v : Value} {Q : Unit → Shared → Prop} (Xb : (hd.heap_39 w.params).In b) (hb : b.StaysIn h) (hx : h.get? x = some (bookO dx es ep)) (hdx : h.get? dx = some emptyDict)
    (q : ∀ h' tk' t n, Heap.SameBut dx h h' → h'.get? dx = some { cls := .type "dict", data := .dict (frozenEs w t v) n } → Q () ⟨h', ge, dr, tk', os⟩) :
    wpAny (model prog w) A (setAttr (.ref x) "_frozen" v) Q E ⟨h, ge, dr, tk, os⟩ := by
  have X : (Mine.hd.heap_39 w.params).In h := Xb.keeps hb
  have I : InstAt h x (bookO dx es ep) 93 (some emptyDict) := ⟨hx, rfl, rfl, hdx⟩
  have sub : Looks (model prog w) h (isInstance (.ref x) (.type "object")) true := I.type.andThen (looks_mroIn X (by k_is))
  have hm := fd_mro (M := model prog w) X
  have ha : Looks (model prog w) h (typeLookup (.ref 93) "_frozen") none := looks_findIn X (by k_is)
  obtain ⟨oc, od, cd, sl, hC, _, _, _, _, _, hdict, _⟩ := fd_obj X
  have hcd : Looks (model prog w) h (classData 93) cd := (Looks.ld (part := none) hC).andThen .now
  have SF := PySem.F.store_object
  refine set_plain (s := ⟨h, ge, dr, tk, os⟩) X I (by k_is) ?_
  refine codeAny_call_builtin SF.slot.plain SF.entry (@check_slot (model prog w) _ _ ⟨h, ge, dr, tk + 1, os⟩ "object.__setattr__" "object" "__setattr__" (.ref x) [.str "_frozen" tk, v] [] _ SF.kind SF.split sub (SF.args (.ref x) (.str "_frozen" tk) v) ?_)
  rw [osa_eq, refuse_eq]
  refine wpAny_bind (wpAny_bind (I.type.at (wpAny_bind (hm.at ?_))))
  rw [refuse_dd]
  refine wpAny_pure (wpAny_bind (I.type.at (wpAny_bind (ha.at ?_))))
  refine wpAny_bind (wpAny_pure ?_)
  show wpAny _ _ (storeInOwnDict (.ref x) (.ref 93) (.str "_frozen" tk) "_frozen" v false) _ _ _
  unfold storeInOwnDict ownDictForStores instanceDict
  refine wpAny_bind (wpAny_pure (wpAny_bind (wpAny_bind (wpAny_loadPart hx (wpAny_bind (hcd.at ?_))))))
  rw [hdict]
  refine wpAny_pure (a := some dx) (wpAny_bind (wpAny_pure (wpAny_bind ?_)))
  unfold nsSet
  refine wpAny_bind (wpAny_bind (wpAny_askSetting (wpAny_pure (wpAny_bind (wpAny_mkText (wpAny_bind (wpAny_loadPart hdx ?_)))))))
  dsimp only
  rw [if_neg (by decide +kernel)]
  refine wpAny_updatePart hdx ?_
  have D' : (h.update dx (Obj.putName "_frozen" (PyData.keyHash w.params "_frozen") (.str "_frozen" (tk + 1)) v)).get? dx = some { cls := .type "dict", data := .dict (frozenEs w (tk + 1) v) 1 } := Heap.get?_update_self _ hdx rfl
  refine wpAny_bind (wpAny_lookBehind D' (pastItsLine_dict (by rw [sizeLine_eq]; simp)) ?_)
  exact wpAny_pure (q _ _ _ _ (Heap.SameBut.update ..) D')
/-- the mark that `freeze` lays -/
inductive Froz (w : World) (h : Heap) (x dx : Addr) : Prop
  | mk (f c' c : Addr) (oc : Obj) (vs : Array Value) (t t3 : Tok) (n3 : Nat) (ctv pm cl : Value) (di : Option Addr) (sl : Array (Option Value)) (p1 p2 p3 pp : Pos) (qual : Str)
    (h1 : h.get? dx = some { cls := .type "dict", data := .dict (frozenEs w t3 (.ref f)) n3 })
    (h2 : h.get? f = some (kla_obj "<lambda>" qual ⟨[], [⟨"key", none, pp⟩], none, [], [], none, []⟩ (.Call (.Attribute (.Name "self" p1) "default_factory" p2) [] [] p3) { kind := .function, names := [("key", .local), ("self", .free)], isGenerator := false, isCoroutine := false } [("self", c)] pm c' ctv))
    (h3 : h.get? c = some (cellW cl di sl (some (.ref x)))) (h4 : h.get? c' = some oc) (h5 : oc.data = .fields vs) (h6 : vs[1]? = some (.str qual t)) (h7 : (p2.endLine == p3.line) = true) : Froz w h x dx
theorem Froz.keeps {w : World} {h h' : Heap} {x dx : Addr} (F : Froz w h x dx) (k : ∀ a o, h.get? a = some o → h'.get? a = some o) : Froz w h' x dx := by
  cases F with
  | mk f c' c oc vs t t3 n3 ctv pm cl di sl p1 p2 p3 pp qual h1 h2 h3 h4 h5 h6 h7 => exact .mk f c' c oc vs t t3 n3 ctv pm cl di sl p1 p2 p3 pp qual (k _ _ h1) (k _ _ h2) (k _ _ h3) (k _ _ h4) h5 h6 h7
/-- `freeze` -/
theorem freeze_spec (B : Base w p loose mean mg mb b) (hb : b.StaysIn h) (hxb : b.get? x = none) (hx : h.get? x = some (bookO dx es ep)) (hdx : h.get? dx = some emptyDict) (hdb : b.get? dx = none) (htb : b.get? 85 = none) (ht : h.get? 85 = some (tabObj #[]))
    (hd : A.depth + 2 < recursionLimit) (hu : A.units + 40 < cLine) (hh : A.handled = none)
    (q : ∀ h' tk' ps, Ch [dx, 85] h h' → Froz w h' x dx → h'.get? 85 = some (tabObj ps) → Q .none ⟨h', ge, dr, tk', os⟩) :
    wpAny (model prog w) A (call (.ref 90) [.ref x]) Q E ⟨h, ge, dr, tk, os⟩ := by
  have BX := B.X
  refine' mk_enterC (news := [(x, bookO dx es ep), (dx, emptyDict), (85, tabObj #[])]) (binds := [("self", .ref x)]) B hb ?k0 ?k6 ?k7 (by (first | lia | omega)) ?k9 ?kB ?kN ?_ ?c2 ?c3 ?c4
  case k0 =>
    intro q hq
    rcases List.mem_cons.mp hq with rfl | hq
    · exact ⟨hx, hxb, book_ne _ _ _⟩
    rcases List.mem_cons.mp hq with rfl | hq
    · exact ⟨hdx, hdb, dict_ne _ _⟩
    rw [List.mem_singleton] at hq; subst hq
    exact ⟨ht, htb, tab_ne _⟩
  case k6 => k_is
  case k7 => k_is
  case k9 => exact fun _ => BindsTo.of_eq rfl
  case kB =>
    intro n y hy
    rw [List.mem_singleton] at hy; subst hy
    exact .inr ⟨rfl, rfl⟩
  case kN => decide
  case c2 => exact rfl
  case c3 => exact rfl
  case c4 => exact rfl
  intro g L h₁ tk₁ cells fb hcs hg tg hbg
  obtain ⟨cl, di, sl, rfl⟩ := cells_one hcs
  clear BX
  have X := fb.B.X
  replace fb : FB w p loose mean mg mb g L h₁ (fun _ => none) [(L + 1, cellW cl di sl (some (.ref x))), (x, bookO dx es ep), (dx, emptyDict), (85, tabObj #[])] := fb
  walk_at "go"
  have n1 : @Ne Nat x 85 := by rintro rfl; rw [ht] at hx; cases hx
  have n2 : @Ne Nat dx 85 := by rintro rfl; rw [ht] at hdx; cases hdx
  have n4 : @Ne Nat x dx := by
    rintro rfl; rw [hdx] at hx
    exact absurd (congrArg Obj.cls (Option.some.inj hx)) (by simp)
  have n5 : @Ne Nat (L + 1) 85 := fun e => by
    have z := fb.N _ (.head _)
    have z2 := fb.N (85, tabObj #[]) (by k_mem)
    rw [show ((L + 1 : Nat), _).1 = L + 1 from rfl, e, z2.1] at z
    cases z.1
  refine wpAny_of_at fun c => ks_wpAt_Assign_Attr (PySem.wpAt_of_wpAny ?_) rfl
  refine kla_eval rfl ?_
  refine' fb_lambda fb ?C ?cd ?ge ?U ?t ?n ?cl ?_
  case C => exact frozen_code fb.B.X
  case cd => exact rfl
  case ge => exact rfl
  case U => k_updF
  case t => kn_triples
  case n => kn_among
  case cl => exact rfl
  intro f c' oc vs t ctv pm h2 tk2 f2 hoc hvs C2
  try dsimp only at f2
  refine' mw_cell f2 ?c1 ?c2 ?_ ?c3 ?c4 ?c5
  case c1 => rfl
  case c2 => k_mem
  case c3 => rfl
  case c4 => rfl
  case c5 => decide
  refine fd_setfrozen f2.B.X f2.keep (f2.at_ (by k_mem)) (f2.at_ (by k_mem)) ?_
  intro h3 tk3 t3 n3 s3 hd3
  have a1 : @Ne Nat dx f := f2.apart (o := emptyDict) (by k_mem) (.head _) (by intro e; cases e)
  have a2 : @Ne Nat dx c' := f2.apart (o := emptyDict) (by k_mem) (.tail _ (.head _)) (by rw [hoc]; intro e; cases e)
  have a3 : @Ne Nat dx (L + 1) := f2.apart (o := emptyDict) (o' := cellW cl di sl (some (.ref x))) (by k_mem) (by k_mem) (by intro e; cases e)
  have f3 := f2.ch (Ch.of_same s3) (o' := { cls := .type "dict", data := .dict (frozenEs w t3 (.ref f)) n3 }) (by k_upd) hd3
  walk_at "go"
  refine q _ _ _ (fun a o n e => ?_) ⟨f, c', L + 1, oc, vs, t, t3, n3, ctv, pm, cl, di, sl, _, _, _, _, _, hd3, f3.at_ (.head _), f3.at_ (.tail _ (.tail _ (.head _))), f3.at_ (.tail _ (.head _)), hoc, hvs, rfl⟩ (f3.at_ (o := tabObj _) (by k_mem))
  by_cases e1 : a = x
  · subst e1
    rw [hx] at e; cases e
    exact f3.at_ (by k_mem)
  · refine f3.keep _ _ (hg _ _ ?_ e)
    intro hm
    rcases List.mem_cons.mp hm with hm | hm
    · exact e1 hm
    · exact n hm
end
end
section
theorem mbd_slot : Slot "member_descriptor" "__get__" "member_descriptor.__get__" := .of (owner := "member_descriptor") (n := "__get__") (by rw [typeLookup_type, builtinLookup_eq_fast]; kernel_rfl) (by decide +kernel) (by decide +kernel) (by decide +kernel)
  (by first | exact .inl (by decide +kernel) | exact .inr (by decide +kernel)) (by rw [isSubtype_type]; kernel_rfl)
theorem mbd_entry : entryFor table "member_descriptor.__get__" = some Builtin.«member_descriptor.__get__» := entryFor_of_tree (by kernel_rfl)
theorem mbd_args (a b c : Value) : argsOk "member_descriptor.__get__" ⟨[a, b, c], []⟩ := by unfold argsOk; kernel_rfl
theorem mbd_typ : typeOf (.builtin "collections.defaultdict.default_factory") = pure (.type "member_descriptor") := by kernel_rfl
theorem df_entry : entryFor table "collections.defaultdict.default_factory" = some Builtin.«collections.defaultdict.default_factory» := entryFor_of_tree (by kernel_rfl)
theorem df_owner : (".".intercalate ("collections.defaultdict.default_factory".cutAt '.').dropLast) = "collections.defaultdict" := by
  have e0 : "collections.defaultdict.default_factory".cutAt '.' = ["collections", "defaultdict", "default_factory"] := by first | rfl | decide +kernel
  rw [e0]; decide +kernel
section
variable {prog : Program} {w : World} {A : Around} {E : Value → Shared → Prop} {p : Program} {loose : List Str} {mean : ExcName → Option Value} {mg mb : Str → Option Value} {b h : Heap} {ge : Array GenState} {dr : Drawn} {tk : Nat} {os : OsState}
  {x dx : Addr} {es : Array DictEntry} {ep : Nat} {t : Tok} {k : Nat} {Q : Value → Shared → Prop}
theorem fd_frozen_some (Xb : (hd.heap_39 w.params).In b) (hb : b.StaysIn h) (hx : h.get? x = some (bookO dx es ep)) {t3 : Tok} {n3 : Nat} {f : Addr} (hdx : h.get? dx = some { cls := .type "dict", data := .dict (frozenEs w t3 (.ref f)) n3 }) {Q : Option Value → Shared → Prop}
    (q : Q (some (.ref f)) ⟨h, ge, dr, tk, os⟩) : wpAny (model prog w) A (getAttrBy? (.ref x) (.str "_frozen" t)) Q E ⟨h, ge, dr, tk, os⟩ := by
  have X : (Mine.hd.heap_39 w.params).In h := Xb.keeps hb
  have I : InstAt h x (bookO dx es ep) 93 (some { cls := .type "dict", data := .dict (frozenEs w t3 (.ref f)) n3 }) := ⟨hx, rfl, rfl, hdx⟩
  have L0 := I.type (M := model prog w)
  have hf : findObj (Mine.hd.heap_39 w.params) 93 (some { cls := .type "dict", data := .dict (frozenEs w t3 (.ref f)) n3 }) "_frozen" = some (.value (.ref f)) :=
    findObj_own (attr := none) (by k_is) (by k_is) (by k_is) rfl
  have L3 := looks_find (M := model prog w) X I hf
  unfold getAttrBy?
  refine wpAny_bind (wpAny_attempt (fd_by Xb hb hx hdx ?_))
  unfold Builtin.«object.__getattribute__»
  repeat ((fail_if_success (with_reducible show wpAny _ _ (find _ _ _) _ _ _)); lk)
  refine L3.at ?_
  exact wpAny_pure (wpAny_pure (wpAny_pure q))
theorem fd_factory (Xb : (hd.heap_39 w.params).In b) (hb : b.StaysIn h) (hx : h.get? x = some (bookO dx es ep)) {odx : Obj} (hdx : h.get? dx = some odx) (hdo : lookIn "default_factory" odx = some none) {expr : Bool}
    (q : ∀ tk', Q (.type "list") ⟨h, ge, dr, tk', os⟩) : wpAny (model prog w) A (getAttr (.ref x) "default_factory" expr) Q E ⟨h, ge, dr, tk, os⟩ := by
  have X : (Mine.hd.heap_39 w.params).In h := Xb.keeps hb
  have I : InstAt h x (bookO dx es ep) 93 (some odx) := ⟨hx, rfl, rfl, hdx⟩
  have L0 := I.type (M := model prog w)
  have hc : ∃ cd, clsIn (Mine.hd.heap_39 w.params) 93 = some cd ∧ cd.hasDict = true := by
    have : hasDictIn (Mine.hd.heap_39 w.params) 93 = true := by k_is
    exact any_some this
  have hf : findObj (Mine.hd.heap_39 w.params) 93 (some odx) "default_factory" = some (.bind (.builtin "member_descriptor.__get__") (.builtin "collections.defaultdict.default_factory")) := by
    obtain ⟨cd, hc, hd⟩ := hc
    unfold findObj
    have ha : findIn (Mine.hd.heap_39 w.params) (.ref 93) "default_factory" = some (some (.builtin "collections.defaultdict.default_factory")) := by k_is
    have hg : specialIn (Mine.hd.heap_39 w.params) (.builtin "collections.defaultdict.default_factory") "__get__" = some (some (.builtin "member_descriptor.__get__")) := by k_is
    have ht : takesIn (Mine.hd.heap_39 w.params) (.builtin "collections.defaultdict.default_factory") = some true := by k_is
    rw [hc, Option.bind_some, ha, Option.bind_some]
    simp only [hg, ht, Option.bind_some]
  have L3 := looks_find (M := model prog w) X I hf
  have sX : Looks (model prog w) h (isSubtype (.ref 93) (.type (".".intercalate ("collections.defaultdict.default_factory".cutAt '.').dropLast))) true := by rw [df_owner]; exact fd_subX (M := model prog w) X
  unfold getAttr
  refine wpAny_bind (wpAny_mkText (fd_by (tk := tk + 1) Xb hb hx hdx ?_))
  unfold Builtin.«object.__getattribute__»
  repeat ((fail_if_success (with_reducible show wpAny _ _ (find _ _ _) _ _ _)); lk)
  refine L3.at ?_
  show wpAny _ _ (bindTo _ _ _ _) _ _ _
  unfold bindTo
  repeat ((fail_if_success (with_reducible show wpAny _ _ (call _ _ _) _ _ _)); lk)
  refine wpAny_call (codeAny_call_builtin mbd_slot.plain mbd_entry (mbd_slot.check _ _ _ _ _ _ _ _ mbd_typ (mbd_args _ _ _) ?_))
  unfold Builtin.«member_descriptor.__get__» Getset_descriptor.descrGet Getset_descriptor.descrGetter Getset_descriptor.descrCheckInstance
  repeat ((fail_if_success (with_reducible show wpAny _ _ (again _) _ _ _)); lk)
  refine wpAny_pure (a := Fin.again (.builtin "collections.defaultdict.default_factory" ⟨[.ref x], []⟩)) (And.intro (Code.quiet_builtin _ (by decide +kernel)) (codeAny_builtin df_entry ?_))
  unfold Builtin.«collections.defaultdict.default_factory» Builtin.Collections_defaultdict.factory?
  repeat lk
  have e : ((Option.filter (fun x => x != Value.none) (#[some (Value.type "list")] : Array (Option Value))[0]?.join).getD Value.none) = .type "list" := by decide +kernel
  rw [e]
  exact q _
theorem getM_factory (Xb : (hd.heap_39 w.params).In b) (hb : b.StaysIn h) (hx : h.get? x = some (bookO dx es ep)) {odx : Obj} (hdx : h.get? dx = some odx) (hdo : lookIn "default_factory" odx = some none) {pl : Sem Bool} {Q : Value × List Value → Shared → Prop}
    (q : ∀ tk', Q (.type "list", []) ⟨h, ge, dr, tk', os⟩) : wpAny (model prog w) A (getMethod (.ref x) "default_factory" pl) Q E ⟨h, ge, dr, tk, os⟩ := by
  have X : (Mine.hd.heap_39 w.params).In h := Xb.keeps hb
  have I : InstAt h x (bookO dx es ep) 93 (some odx) := ⟨hx, rfl, rfl, hdx⟩
  have L0 := I.type (M := model prog w)
  have L1 : Looks (model prog w) h (specialOf (.ref x) "__getattribute__") (some (.builtin "collections.defaultdict.__getattribute__")) := L0.andThen (looks_findIn X (by k_is))
  have L2 : Looks (model prog w) h (specialOf (.ref x) "__getattr__") none := L0.andThen (looks_findIn X (by k_is))
  have L3 : Looks (model prog w) h (specialOf (.ref x) "default_factory") (some (.builtin "collections.defaultdict.default_factory")) := L0.andThen (looks_findIn X (by k_is))
  have L4 : Looks (model prog w) h (typeOf (.builtin "collections.defaultdict.default_factory")) (.type "member_descriptor") := Looks.of_pure mbd_typ
  unfold getMethod
  refine wpAny_bind (L1.at ?_)
  dsimp only
  rw [if_neg (by decide +kernel)]
  refine wpAny_bind (L2.at ?_)
  rw [if_neg (by simp)]
  refine wpAny_bind (L3.at (wpAny_bind (L4.at ?_)))
  rw [if_pos (by decide +kernel)]
  exact wpAny_bind (fd_factory Xb hb hx hdx hdo fun tk' => wpAny_pure (q tk'))
theorem callWith_fn {M : Model} {A : Around} {E : Value → Shared → Prop} {s : Shared} {pos : Pos} {a : Addr} {o : Obj} {fd : FuncData} {e : Expr} {rest : List Expr} {env : Env} {Q : Value → Shared → Prop} (ho : s.heap.get? a = some o) (hd : o.data = .func fd)
    (q : wpAny M A (spliced (backTo pos (starEach (e :: rest) env))) (fun vs s₁ => (s₁.heap.get? a = some o ∧ o.data = .func fd) ∧ wpAny M A (call (.ref a) vs) Q E s₁) E s)
    (he : starEach (e :: rest) env = (false, eval e env) :: starEach rest env) : wpAny M A (callWith pos (.ref a) [] (backTo pos (starEach (e :: rest) env)) []) Q E s := by
  rw [he] at q ⊢
  exact callWith_function (evalArgs_plain q)
theorem callWith_ty0 {M : Model} {A : Around} {E : Value → Shared → Prop} {s : Shared} {pos : Pos} {T : String} {env : Env} {Q : Value → Shared → Prop} (q : wpAny M A (call (.type T) []) Q E s) :
    wpAny M A (callWith pos (.type T) [] (backTo pos (starEach [] env)) []) Q E s := by
  show wpAny M A (callWith pos (.type T) [] [] []) Q E s
  unfold callWith
  refine wpAny_bind (wpAny_holding (PyProof.Rows.evalArgs_none (wpAny_bind (wpAny_standAt ?_))))
  refine wpAny_bind (wpAny_pure ?_)
  exact wpAny_bind (wpAny_mono q (fun r s₂ hr => wpAny_bind (wpAny_holding (wpAny_point (wpAny_pure hr)))) fun _ _ x => x)
theorem meth_eq {env : Env} {p1 p2 p3 : Pos} (hp : (p2.endLine == p3.line) = true) : eval (.Call (.Attribute (.Name "self" p1) "default_factory" p2) [] [] p3) env = (do
      let ov ← eval (.Name "self" p1) env
      standAt p2.atName
      let (f, first) ← holding [ov] (getMethod ov "default_factory" (do return (← importBound (.Name "self" p1) env).getD true))
      callWith p3 f first (backTo p3 (starEach [] env)) []) := by
  rw [show eval (.Call (.Attribute (.Name "self" p1) "default_factory" p2) [] [] p3) env = (do
    let ov ← attributeBase (.Name "self" p1) "default_factory" env (eval (.Name "self" p1) env)
    standAt p2.atName
    methodCall (.Name "self" p1) "default_factory" p2 p3 env ov 0 (backTo p3 (starEach [] env)) (backToKw p3 (keywordEach [] env))) from rfl]
  unfold methodCall methodCallPos
  simp only [hp, Bool.or_true, if_true]
  rfl
/-- the mark is called: an empty list -/
theorem frozen_call (B : Base w p loose mean mg mb b) (hb : b.StaysIn h) (hx : h.get? x = some (bookO dx es ep)) {odx : Obj} (hdx : h.get? dx = some odx) (hdo : lookIn "default_factory" odx = some none) {v : Value}
    {f c' c : Addr} {oc : Obj} {vs : Array Value} {t : Tok} {ctv pm cl : Value} {di : Option Addr} {sl : Array (Option Value)} {p1 p2 p3 pp : Pos} {qual : Str}
    (F2 : h.get? f = some (kla_obj "<lambda>" qual ⟨[], [⟨"key", none, pp⟩], none, [], [], none, []⟩ (.Call (.Attribute (.Name "self" p1) "default_factory" p2) [] [] p3) { kind := .function, names := [("key", .local), ("self", .free)], isGenerator := false, isCoroutine := false } [("self", c)] pm c' ctv))
    (F3 : h.get? c = some (cellW cl di sl (some (.ref x)))) (F4 : h.get? c' = some oc) (F5 : oc.data = .fields vs) (F6 : vs[1]? = some (.str qual t)) (F7 : (p2.endLine == p3.line) = true) (hd : A.depth < recursionLimit)
    (q : ∀ l h' tk' c, (∀ a o, h.get? a = some o → h'.get? a = some o) → h.get? l = none → h'.get? l = some (listOf #[] c) → Q (.ref l) ⟨h', ge, dr, tk', os⟩) :
    wpAny (model prog w) A (call (.ref f) [v]) Q E ⟨h, ge, dr, tk, os⟩ := by
  have BH := B.keeps hb
  refine wpAny_call (kla_callFunE hd F2 rfl rfl rfl rfl ⟨c', oc, vs, t, rfl, F4, F5, F6⟩ ?_)
  have hbind : bindArgs (kla_fn "<lambda>" qual ⟨[], [⟨"key", none, pp⟩], none, [], [], none, []⟩ (.Call (.Attribute (.Name "self" p1) "default_factory" p2) [] [] p3) { kind := .function, names := [("key", .local), ("self", .free)], isGenerator := false, isCoroutine := false } [("self", c)] pm (.ref c') ctv) ⟨[v], []⟩ = pure [(("key" : Str), v)] := rfl
  rw [hbind]
  refine wpAny_pure (wpAny_newFunctionEnv (by show ∀ x ∈ [(("key" : Str), NameKind.local), ("self", NameKind.free)], x.2 ≠ NameKind.cell; decide) (by intro y hy; rw [List.mem_singleton] at hy; subst hy; rfl) (fun h₁ hns hsb => ⟨BH.T.nolimit.fresh _ hsb, ?_⟩) rfl)
  have hk₁ : ∀ b o, h.get? b = some o → h₁.get? b = some o := fun b o e => hsb.extBut b o (Nat.ne_of_lt (Heap.lt_size e)) (Heap.get?_push_of_some _ e)
  show codeAny _ _ (.expr _ (envX qual { kind := .function, names := [("key", .local), ("self", .free)], isGenerator := false, isCoroutine := false } h.objs.size f (.ref c') [("self", c)])) _ _
  refine kla_codeExpr ?_
  refine mk_meth ?_ (meth_eq F7)
  refine wpAny_Name (wpAny_loadName_free rfl rfl rfl ⟨_, hk₁ _ _ F3, rfl⟩ ?_) (by decide +kernel)
  refine getM_factory B.X (fun a o e => hk₁ _ _ (hb a o e)) (hk₁ _ _ hx) (hk₁ _ _ hdx) hdo fun tk' => ?_
  refine callWith_ty0 (list0 fun h' c k hl => ?_)
  refine q _ h' _ c (fun a o e => k _ _ (hk₁ _ _ e)) ?_ hl
  cases e : h.get? h₁.objs.size with
  | none => rfl
  | some o => exact absurd (Heap.lt_size (hk₁ _ _ e)) (Nat.lt_irrefl _)
/-- `__missing__` of a book that is frozen -/
theorem missing_frozen (S : SupOk prog) (B : Base w p loose mean mg mb b) (hb : b.StaysIn h) (hxb : b.get? x = none) {ents : Ents} (hx : h.get? x = some (bookO dx (bookEs ents) ep)) (F : Froz w b x dx)
    (hd : A.depth + 3 < recursionLimit) (hu : A.units + 40 < cLine) (hh : A.handled = none)
    (q : ∀ l h' tk' c, (∀ a o, h.get? a = some o → h'.get? a = some o) → h.get? l = none → h'.get? l = some (listOf #[] c) → Q (.ref l) ⟨h', ge, dr, tk', os⟩) :
    wpAny (model prog w) A (call (.ref 83) [.ref x, .int ((k : Nat) : Int) t]) Q E ⟨h, ge, dr, tk, os⟩ := by
  have BX := B.X
  refine' mk_enterAt (news := [(x, bookO dx (bookEs ents) ep)]) (binds := [("self", .ref x), ("key", .int ((k : Nat) : Int) t)]) B hb ?k0 ?k6 ?k7 (by (first | lia | omega)) ?k9 ?kB ?_ ?c2 ?c3 ?c4 ?c5
  case k0 =>
    intro q hq; rw [List.mem_singleton] at hq; subst hq
    exact ⟨hx, hxb, book_ne _ _ _⟩
  case k6 => k_is
  case k7 => k_is
  case k9 => exact fun _ => BindsTo.of_eq rfl
  case kB => exact locs rfl
  case c2 => exact rfl
  case c3 => exact rfl
  case c4 => exact rfl
  case c5 => decide
  intro g L h₁ tk₁ fb hg tg hbg
  clear BX
  have X := fb.B.X
  have hgx : g.get? x = none := fb.new_ (.head _)
  refine ks_wpAt_execs_cons (ks_wpAt_Return_some (at_call ?_ rfl))
  refine at_call ?_ rfl
  refine PySem.wpAt_of_wpAny ?_
  refine' mw_built fb ?e ?v ?_ ?l ?k ?d ?g ?b ?n
  case l => rfl
  case k => rfl
  case e => k_is
  case v => boot_by_name
  case d => decide
  case g => rfl
  case b => rfl
  case n => decide
  refine at_biE ?_ rfl rfl
  refine at_spcE (PySem.wpAt_of_wpAny ?_) rfl
  refine' mw_local fb ?v ?_ ?l ?k ?d
  case l => rfl
  case k => rfl
  case d => decide
  case v => rfl
  refine at_spcE (PySem.wpAt_of_wpAny ?_) rfl
  refine wpAny_Constant_str ?_
  refine at_spcE (at_attr ?_ rfl) rfl
  have hx1 : h₁.get? x = some (bookO dx (bookEs ents) ep) := fb.at_ (.head _)
  refine' sup_node S fb hx1 ?hf ?hcc ?hcl ?hp ?hvs ?hv ?hsup ?hboot ?hat ?hks ?hkc ?hka ?hk ?_
  case hf => k_is
  case hcc => k_is
  case hcl => k_is
  case hsup => k_is
  case hboot => boot_by_name
  case hat => decide +kernel
  all_goals try rfl
  intro so h2 f2 k2
  have g2 : g.StaysIn h2 := fun a o e => k2 _ _ (fb.keep a o e)
  have no : nsIn (Mine.hd.heap_39 w.params) cStatics "thirdparty.any" = some none := by k_is
  refine sup_attr fb.B.X g2 no hgx (k2 _ _ hx1) (f2.at_ (.head _)) ?_
  intro mth h3 tk3 k3 hmn hm
  have f3 := (f2.sub (news' := [(x, bookO dx (bookEs ents) ep)]) (fun q hq => .tail _ hq)).more k3 hmn hm
  refine wpAny_letTemporaryGo (at_spnE ?_)
  obtain ⟨f, c', c, oc, vs, t1, t3, n3, ctv, pm, cl, di, sl, p1, p2, p3, pp, qual, F1, F2, F3, F4, F5, F6, F7⟩ := F.keeps hbg
  refine fd_getattr fb.B.X f3.keep (f3.at_ (.tail _ (.head _))) (f3.keep _ _ F1) ?_
  refine fd_frozen_some fb.B.X f3.keep (f3.at_ (.tail _ (.head _))) (f3.keep _ _ F1) ?_
  refine PySem.wpAt_of_wpAny (callWith_fn (f3.keep _ _ F2) rfl ?_ rfl)
  walk_at "go"
  refine ⟨⟨f3.keep _ _ F2, rfl⟩, ?_⟩
  refine frozen_call fb.B f3.keep (f3.at_ (.tail _ (.head _))) (f3.keep _ _ F1) rfl (f3.keep _ _ F2) (f3.keep _ _ F3) (f3.keep _ _ F4) F5 F6 F7 ?_ ?_
  · show A.depth + 1 < _; (first | lia | omega)
  intro l h5 tk5 c5 k5 ln hl
  have all : ∀ a o, h.get? a = some o → h3.get? a = some o := fun a o e => by
    by_cases e1 : a = x
    · subst e1; rw [hx] at e; cases e; exact f3.at_ (.tail _ (.head _))
    · exact f3.keep _ _ (hg _ _ (by simpa using e1) e)
  refine q l h5 tk5 c5 (fun a o e => k5 _ _ (all _ _ e)) ?_ hl
  cases e : h.get? l with
  | none => rfl
  | some o => rw [all _ _ e] at ln; cases ln
end
end
section
/-- a key's row of the book -/
structure Row where
  key : Nat
  tok : Tok
  addr : Addr
  vals : List Value
  ver : Nat
structure BookV where
  x : Addr
  dx : Addr
  ep : Nat
  rows : List Row
noncomputable abbrev Row.lst (r : Row) : Obj := listOf r.vals.toArray r.ver
noncomputable def BookV.ents (bk : BookV) : Ents := bk.rows.map fun r => (r.key, r.tok, r.addr)
noncomputable def bookN (bk : BookV) : List (Addr × Obj) := (bk.x, bookO bk.dx (bookEs bk.ents) bk.ep) :: bk.rows.map fun r => (r.addr, r.lst)
noncomputable def BookV.add (bk : BookV) (k : Nat) (t : Tok) (l : Addr) (c : Nat) : BookV := { bk with ep := bk.ep + 1, rows := bk.rows ++ [⟨k, t, l, [], c⟩] }
noncomputable def BookV.put (bk : BookV) (i : Nat) (vs : List Value) (c : Nat) : BookV := { bk with rows := bk.rows.modify i fun r => { r with vals := vs, ver := c } }
/-- the book bears data -/
structure BookR {κ : Type} (V : Ordv κ) (h : Heap) (bk : BookV) (D : List (Nat × List κ)) : Prop where
  xs : (bk.x == sysModules) = false
  nd : (bk.rows.map Row.addr).Nodup
  len : bk.rows.length = D.length
  rel : ∀ (i : Nat) (r : Row) (d : Nat × List κ), bk.rows[i]? = some r → D[i]? = some d → r.key = d.1 ∧ RelL (V.rel h) r.vals d.2
/-- what stands fast: whether the book is frozen -/
noncomputable def Dxf (w : World) (g : Heap) (bk : BookV) (fr : Bool) : Prop := if fr = true then Froz w g bk.x bk.dx else g.get? bk.dx = some emptyDict
theorem Dxf.keeps {w : World} {g g' : Heap} {bk : BookV} {fr : Bool} (d : Dxf w g bk fr) (k : g.StaysIn g') : Dxf w g' bk fr := by
  unfold Dxf at *
  cases fr with
  | true => simp only [if_true] at *; exact d.keeps k
  | false => simp only [Bool.false_eq_true, if_false] at *; exact k _ _ d
theorem BookR.mono {κ : Type} {V : Ordv κ} {h h' : Heap} {bk : BookV} {D : List (Nat × List κ)} (R : BookR V h bk D) (t : TK h h') : BookR V h' bk D :=
  ⟨R.xs, R.nd, R.len, fun i r d a b => ⟨(R.rel i r d a b).1, (R.rel i r d a b).2.mono fun _ _ => V.keep t⟩⟩
theorem bookN_ne (bk : BookV) : ∀ q ∈ bookN bk, ∀ vs, q.2 ≠ tupO vs := by
  intro q hq
  rcases List.mem_cons.mp hq with rfl | hq
  · exact book_ne _ _ _
  · obtain ⟨r, _, rfl⟩ := List.mem_map.mp hq
    exact lst_ne _ _
theorem bookN_row {bk : BookV} {i : Nat} {r : Row} (h : bk.rows[i]? = some r) : (r.addr, r.lst) ∈ bookN bk := .tail _ (List.mem_map_of_mem (f := fun r : Row => (r.addr, r.lst)) (List.mem_of_getElem? h))
theorem bookN_x (bk : BookV) : (bk.x, bookO bk.dx (bookEs bk.ents) bk.ep) ∈ bookN bk := .head _
/-- the place of a key -/
noncomputable def keyAt {κ : Type} (D : List (Nat × κ)) (k : Nat) : Option Nat := D.findIdx? fun d => d.1 == k
theorem keys_eq {κ : Type} {V : Ordv κ} {h : Heap} {bk : BookV} {D : List (Nat × List κ)} (R : BookR V h bk D) : bk.rows.map Row.key = D.map (·.1) := by
  apply List.ext_getElem?
  intro i
  rw [List.getElem?_map, List.getElem?_map]
  by_cases hi : i < bk.rows.length
  · have hi2 : i < D.length := R.len ▸ hi
    rw [List.getElem?_eq_getElem hi, List.getElem?_eq_getElem hi2]
    exact congrArg some (R.rel i _ _ (List.getElem?_eq_getElem hi) (List.getElem?_eq_getElem hi2)).1
  · rw [List.getElem?_eq_none (Nat.not_lt.mp hi), List.getElem?_eq_none (by rw [← R.len]; exact Nat.not_lt.mp hi)]
    rfl
theorem entAt_rows (bk : BookV) (k : Nat) : entAt bk.ents k = (bk.rows.find? fun r => r.key == k).map Row.addr := by
  unfold entAt BookV.ents
  rw [List.find?_map, Option.map_map]
  rfl
theorem keyAt_rows {κ : Type} {V : Ordv κ} {h : Heap} {bk : BookV} {D : List (Nat × List κ)} (R : BookR V h bk D) (k : Nat) : keyAt D k = bk.rows.findIdx? fun r => r.key == k := by
  have e1 : keyAt D k = (D.map (·.1)).findIdx? fun a => a == k := by unfold keyAt; rw [List.findIdx?_map]; rfl
  have e2 : (bk.rows.findIdx? fun r => r.key == k) = (bk.rows.map Row.key).findIdx? fun a => a == k := by rw [List.findIdx?_map]; rfl
  rw [e1, e2, keys_eq R]
theorem entAt_some {κ : Type} {V : Ordv κ} {h : Heap} {bk : BookV} {D : List (Nat × List κ)} (R : BookR V h bk D) {k : Nat} {l : Addr} (e : entAt bk.ents k = some l) : ∃ i r, keyAt D k = some i ∧ bk.rows[i]? = some r ∧ r.addr = l := by
  rw [entAt_rows] at e
  obtain ⟨r, hr, rfl⟩ := Option.map_eq_some_iff.mp e
  rw [keyAt_rows R]
  cases hi : bk.rows.findIdx? fun r => r.key == k with
  | none =>
    have := List.findIdx?_eq_none_iff.mp hi r (List.mem_of_find?_eq_some hr)
    rw [List.find?_some hr] at this; cases this
  | some i =>
    obtain ⟨hlt, hp, hno⟩ := List.findIdx?_eq_some_iff_getElem.mp hi
    refine ⟨i, bk.rows[i], rfl, List.getElem?_eq_getElem hlt, ?_⟩
    have : bk.rows.find? (fun r => r.key == k) = some bk.rows[i] := by
      rw [List.find?_eq_some_iff_getElem]
      exact ⟨hp, i, hlt, rfl, fun j hj => by simpa using hno j hj⟩
    rw [hr] at this
    cases this; rfl
theorem entAt_none {κ : Type} {V : Ordv κ} {h : Heap} {bk : BookV} {D : List (Nat × List κ)} (R : BookR V h bk D) {k : Nat} (e : entAt bk.ents k = none) : keyAt D k = none := by
  rw [entAt_rows, Option.map_eq_none_iff] at e
  rw [keyAt_rows R, List.findIdx?_eq_none_iff]
  intro r hr
  have := List.find?_eq_none.mp e r hr
  simpa using this
section
variable {w : World} {p : Program} {loose : List Str} {mean : ExcName → Option Value} {mg mb : Str → Option Value} {g h h' : Heap} {L a : Addr} {m : Str → Option Value} {news news' : List (Addr × Obj)}
/-- one address is changed: what stays known -/
theorem FB.chg (f : FB w p loose mean mg mb g L h m news) (C : Ch [a] h h') (ha : ∃ o, (a, o) ∈ news)
    (hn : ∀ q ∈ news', (q ∈ news ∧ q.1 ≠ a) ∨ (h'.get? q.1 = some q.2 ∧ (q.1 = a ∨ h.get? q.1 = none))) : FB w p loose mean mg mb g L h' m news' := by
  obtain ⟨o, ho⟩ := ha
  have z := f.N _ ho
  obtain ⟨oL, es, ep, hL, r⟩ := f.ns
  refine ⟨⟨oL, es, ep, C _ _ (by simpa using Ne.symm z.2.1) hL, r⟩, fun b x e => C _ _ (by rw [List.mem_singleton]; rintro rfl; rw [z.2.2] at e; cases e) (f.keep b x e), f.out, fun q hq => ?_, f.B⟩
  rcases hn q hq with ⟨h1, h2⟩ | ⟨h1, rfl | h2⟩
  · exact ⟨C _ _ (by simpa using h2) (f.N q h1).1, (f.N q h1).2⟩
  · exact ⟨h1, z.2⟩
  · refine ⟨h1, ?_, ?_⟩
    · intro e; rw [e, hL] at h2; cases h2
    · cases e : g.get? q.1 with
      | none => rfl
      | some o => rw [f.keep _ _ e] at h2; cases h2
end
theorem BookR.put {κ : Type} {V : Ordv κ} {h h' : Heap} {bk : BookV} {D : List (Nat × List κ)} (R : BookR V h bk D) (t : TK h h') {i : Nat} {vs : List Value} {c : Nat} {ks : List κ} (hr : RelL (V.rel h') vs ks) : BookR V h' (bk.put i vs c) (D.modify i fun d => (d.1, ks)) := by
  refine ⟨R.xs, ?_, by simp [BookV.put, R.len], fun j r d hj hd => ?_⟩
  · have : (bk.put i vs c).rows.map Row.addr = bk.rows.map Row.addr := by
      unfold BookV.put
      apply List.ext_getElem?
      intro j
      simp only [List.getElem?_map, List.getElem?_modify]
      cases bk.rows[j]? with
      | none => rfl
      | some r => by_cases e : i = j <;> simp [e]
    rw [this]; exact R.nd
  · unfold BookV.put at hj
    rw [List.getElem?_modify] at hj hd
    obtain ⟨r0, h0, rfl⟩ := Option.map_eq_some_iff.mp hj
    obtain ⟨d0, g0, rfl⟩ := Option.map_eq_some_iff.mp hd
    have z := R.rel j r0 d0 h0 g0
    by_cases e : i = j
    · simp only [e, if_true]; exact ⟨z.1, hr⟩
    · simp only [e, if_false]; exact ⟨z.1, z.2.mono fun _ _ => V.keep t⟩
theorem BookR.add {κ : Type} {V : Ordv κ} {h h' : Heap} {bk : BookV} {D : List (Nat × List κ)} (R : BookR V h bk D) (t : TK h h') {k : Nat} {tk : Tok} {l : Addr} {c : Nat} (hl : l ∉ bk.rows.map Row.addr) : BookR V h' (bk.add k tk l c) (D ++ [(k, [])]) := by
  refine ⟨R.xs, ?_, by simp [BookV.add, R.len], fun j r d hj hd => ?_⟩
  · unfold BookV.add
    rw [List.map_append, List.nodup_append]
    refine ⟨R.nd, by simp, ?_⟩
    intro a ha b hb
    rw [List.map_cons, List.map_nil, List.mem_singleton] at hb
    subst hb
    rintro rfl
    exact hl ha
  · unfold BookV.add at hj
    by_cases e : j < bk.rows.length
    · rw [List.getElem?_append_left e] at hj
      rw [List.getElem?_append_left (R.len ▸ e)] at hd
      exact ⟨(R.rel j r d hj hd).1, (R.rel j r d hj hd).2.mono fun _ _ => V.keep t⟩
    · rw [List.getElem?_append_right (Nat.not_lt.mp e)] at hj
      rw [List.getElem?_append_right (by rw [← R.len]; exact Nat.not_lt.mp e), ← R.len] at hd
      cases hq : j - bk.rows.length with
      | zero => rw [hq] at hj hd; cases hj; cases hd; exact ⟨rfl, RelL.nil⟩
      | succ n => rw [hq] at hj; simp at hj
theorem bookN_put {bk : BookV} {i : Nat} {r : Row} {vs : List Value} {c : Nat} (hr : bk.rows[i]? = some r) (nd : (bk.rows.map Row.addr).Nodup) (hx : r.addr ≠ bk.x) : ∀ q ∈ bookN (bk.put i vs c), (q ∈ bookN bk ∧ q.1 ≠ r.addr) ∨ (q = (r.addr, listOf vs.toArray c)) := by
  intro q hq
  have he : (bk.put i vs c).ents = bk.ents := by
    unfold BookV.put BookV.ents
    apply List.ext_getElem?
    intro j
    simp only [List.getElem?_map, List.getElem?_modify]
    cases bk.rows[j]? with
    | none => rfl
    | some r => by_cases e : i = j <;> simp [e]
  rcases List.mem_cons.mp hq with rfl | hq
  · left
    rw [he]
    exact ⟨bookN_x bk, fun e => hx e.symm⟩
  · obtain ⟨r2, hr2, rfl⟩ := List.mem_map.mp hq
    obtain ⟨j, hj⟩ := List.mem_iff_getElem?.mp hr2
    unfold BookV.put at hj
    rw [List.getElem?_modify] at hj
    obtain ⟨r0, h0, rfl⟩ := Option.map_eq_some_iff.mp hj
    by_cases e : i = j
    · subst e
      rw [hr] at h0; cases h0
      right; simp [Row.lst]
    · left
      simp only [e, if_false]
      refine ⟨bookN_row h0, fun e2 => e ?_⟩
      have hi := (List.getElem?_eq_some_iff.mp hr).1
      have hj2 := (List.getElem?_eq_some_iff.mp h0).1
      refine (List.getElem?_inj (l := bk.rows.map Row.addr) (by simpa using hi) nd).mp ?_
      rw [List.getElem?_map, List.getElem?_map, hr, h0]
      exact congrArg some e2.symm
end
section
section
variable {prog : Program} {w : World} {A : Around} {E : Value → Shared → Prop} {p : Program} {loose : List Str} {mean : ExcName → Option Value} {mg mb : Str → Option Value} {g h : Heap} {ge : Array GenState} {dr : Drawn} {tk : Nat} {os : OsState} {L : Addr} {m : Str → Option Value} {news : List (Addr × Obj)}
  {κ : Type} {V : Ordv κ} {bk : BookV} {D : List (Nat × List κ)} {fr : Bool} {Q : Value → Shared → Prop}
/-- book[k] -/
theorem fb_bookGet (S : SupOk prog) (f : FB w p loose mean mg mb g L h m news) (hs : ∀ q ∈ bookN bk, q ∈ news) (R : BookR V h bk D) (Z : Dxf w g bk fr) (hz : D.length ≤ 1000000)
    (hd : A.depth + 8 < recursionLimit) (hu : A.units + 80 < cLine) (hh : A.handled = none) {value slice : Expr} {k : Nat} {t : Tok}
    (hsl : subscripted slice false (.ref bk.x) (.int ((k : Nat) : Int) t) = operate [.ref bk.x, .int ((k : Nat) : Int) t] (getItem (.ref bk.x) (.int ((k : Nat) : Int) t)))
    (hit : ∀ i r tk', keyAt D k = some i → bk.rows[i]? = some r → Q (.ref r.addr) ⟨h, ge, dr, tk', os⟩)
    (missU : fr = false → keyAt D k = none → ∀ l h' tk' c, h.get? l = none → (∀ news', (∀ q ∈ news', (q ∈ news ∧ q.1 ≠ bk.x) ∨ q ∈ bookN (bk.add k t l c)) → FB w p loose mean mg mb g L h' m news') → BookR V h' (bk.add k t l c) (D ++ [(k, [])]) → TK h h' →
      Q (.ref l) ⟨h', ge, dr, tk', os⟩)
    (missF : fr = true → keyAt D k = none → ∀ l h' tk' c, FB w p loose mean mg mb g L h' m ((l, listOf #[] c) :: news) → (∀ q ∈ news, q.1 ≠ l) → (∀ a o, h.get? a = some o → h'.get? a = some o) → Q (.ref l) ⟨h', ge, dr, tk', os⟩) :
    wpAny (model prog w) A (subscriptTail value slice (.ref bk.x) (.int ((k : Nat) : Int) t)) Q E ⟨h, ge, dr, tk, os⟩ := by
  have hx := f.at_ (hs _ (bookN_x bk))
  have hxg := f.new_ (hs _ (bookN_x bk))
  have hdx : ∃ odx, g.get? bk.dx = some odx := by
    unfold Dxf at Z
    cases fr with
    | true =>
      simp only [if_true] at Z
      obtain ⟨f, c', c, oc, vs, t, t3, n3, ctv, pm, cl, di, sl, p1, p2, p3, pp, qual, h1, _⟩ := Z
      exact ⟨_, h1⟩
    | false => simp only [Bool.false_eq_true, if_false] at Z; exact ⟨_, Z⟩
  obtain ⟨odx, hdx⟩ := hdx
  refine fd_sub f.B.X f.keep hx hsl (fd_look f.B.X f.keep hx (f.keep _ _ hdx) (fun l tk' e => ?_) (fun tk' e => ?_))
  · obtain ⟨i, r, e1, e2, rfl⟩ := entAt_some R e
    exact hit i r tk' e1 e2
  · have kn := entAt_none R e
    cases fr with
    | false =>
      refine missing_spec S f.B f.keep hxg hx Z e (by unfold BookV.ents; rw [List.length_map, R.len]; exact hz) ?_ ?_ ?_ ?_
      · show A.depth + 2 < _; (first | lia | omega)
      · show A.units + 1 + 40 < _; exact bdk (by assumption) (by decide)
      · exact hh
      intro l h' tk' c C ln hl hx'
      have ln' : l ∉ bk.rows.map Row.addr := fun hm => by
        obtain ⟨r, hr, rfl⟩ := List.mem_map.mp hm
        obtain ⟨j, hj⟩ := List.mem_iff_getElem?.mp hr
        rw [f.at_ (hs _ (bookN_row hj))] at ln; cases ln
      have tkk : TK h h' := TK.of_ch C fun q hq vs e => by
        rw [List.mem_singleton] at hq; subst hq
        rw [hx] at e; exact book_ne _ _ _ vs (Option.some.inj e)
      refine missU rfl kn l h' tk' c ln (fun news' hn => f.chg C ⟨_, hs _ (bookN_x bk)⟩ fun q hq => ?_) (R.add tkk ln') tkk
      rcases hn q hq with h1 | h1
      · exact .inl h1
      · rcases List.mem_cons.mp h1 with rfl | h1
        · right
          refine ⟨?_, .inl rfl⟩
          show h'.get? bk.x = _
          rw [hx']
          unfold BookV.add BookV.ents
          simp
        · obtain ⟨r, hr, rfl⟩ := List.mem_map.mp h1
          unfold BookV.add at hr
          rcases List.mem_append.mp hr with hr | hr
          · obtain ⟨j, hj⟩ := List.mem_iff_getElem?.mp hr
            refine .inl ⟨hs _ (bookN_row hj), f.apart (hs _ (bookN_row hj)) (hs _ (bookN_x bk)) (by intro e; cases e)⟩
          · rw [List.mem_singleton] at hr; subst hr
            exact .inr ⟨hl, .inr ln⟩
    | true =>
      refine missing_frozen S f.B f.keep hxg hx Z ?_ ?_ ?_ ?_
      · show A.depth + 3 < _; (first | lia | omega)
      · show A.units + 1 + 40 < _; exact bdk (by assumption) (by decide)
      · exact hh
      intro l h' tk' c k1 ln hl
      refine missF rfl kn l h' tk' c (f.more k1 ln hl) (fun q hq e => ?_) k1
      rw [← e, (f.N q hq).1] at ln; cases ln
end
end
section
/-- whole numbers, in their order -/
noncomputable def natV : Ordv Nat where
  rel := fun _ v k => ∃ t, v = .int ((k : Nat) : Int) t
  lt := fun a b => decide (a < b)
  keep := fun _ h => h
  cmp := by
    intro prog w A E s a b x y Q _ ha hb q
    obtain ⟨t, rfl⟩ := ha
    obtain ⟨u, rfl⟩ := hb
    refine mc_lt ?_
    have e : decide (((x : Nat) : Int) < ((y : Nat) : Int)) = decide (x < y) := by simp
    rw [e]; exact q
section
variable {prog : Program} {w : World} {A : Around} {E : Value → Shared → Prop} {p : Program} {loose : List Str} {mean : ExcName → Option Value} {mg mb : Str → Option Value} {b h : Heap} {ge : Array GenState} {dr : Drawn} {tk : Nat} {os : OsState} {Q : Value → Shared → Prop}
end
end
section
section
variable {w : World} {p : Program} {loose : List Str} {mean : ExcName → Option Value} {mg mb : Str → Option Value} {g h h' : Heap} {L : Addr} {m : Str → Option Value} {news : List (Addr × Obj)} {κ : Type} {V : Ordv κ} {bk : BookV} {D : List (Nat × List κ)}
/-- a list of the book is changed -/
theorem FB.bookPut (f : FB w p loose mean mg mb g L h m news) (hs : ∀ q ∈ bookN bk, q ∈ news) (R : BookR V h bk D) {i : Nat} {r : Row} (hr : bk.rows[i]? = some r) {vs' : List Value} {c' : Nat} {ks' : List κ} (C : Ch [r.addr] h h') (hl : h'.get? r.addr = some (listOf vs'.toArray c')) (hk : RelL (V.rel h') vs' ks') :
    (∀ news', (∀ q ∈ news', (q ∈ news ∧ q.1 ≠ r.addr) ∨ q ∈ bookN (bk.put i vs' c')) → FB w p loose mean mg mb g L h' m news') ∧ BookR V h' (bk.put i vs' c') (D.modify i fun d => (d.1, ks')) ∧ TK h h' := by
  have hrn := hs _ (bookN_row hr)
  have tkk : TK h h' := TK.of_ch C fun q hq vs e => by
    rw [List.mem_singleton] at hq; subst hq
    rw [f.at_ hrn] at e
    exact lst_ne _ _ vs (Option.some.inj e)
  have hx : r.addr ≠ bk.x := f.apart hrn (hs _ (bookN_x bk)) (by intro e; cases e)
  refine ⟨fun news' hn => f.chg C ⟨_, hrn⟩ fun q hq => ?_, R.put tkk hk, tkk⟩
  rcases hn q hq with h1 | h1
  · exact .inl h1
  · rcases bookN_put hr R.nd hx q h1 with ⟨h2, h3⟩ | rfl
    · exact .inl ⟨hs _ h2, h3⟩
    · exact .inr ⟨hl, .inl rfl⟩
theorem add_row (bk : BookV) (k : Nat) (t : Tok) (l : Addr) (c : Nat) : (bk.add k t l c).rows[bk.rows.length]? = some ⟨k, t, l, [], c⟩ := by simp [BookV.add]
theorem BookR.row {D : List (Nat × List κ)} (R : BookR V h bk D) {i : Nat} {d : Nat × List κ} (hd : D[i]? = some d) : ∃ r, bk.rows[i]? = some r ∧ r.key = d.1 ∧ RelL (V.rel h) r.vals d.2 := by
  have hi : i < bk.rows.length := by rw [R.len]; exact (List.getElem?_eq_some_iff.mp hd).1
  exact ⟨_, List.getElem?_eq_getElem hi, R.rel i _ _ (List.getElem?_eq_getElem hi) hd⟩
end
section
variable {prog : Program} {w : World} {A : Around} {E : Value → Shared → Prop} {p : Program} {loose : List Str} {mean : ExcName → Option Value} {mg mb : Str → Option Value} {b h : Heap} {ge : Array GenState} {dr : Drawn} {tk : Nat} {os : OsState} {Q : Value → Shared → Prop}
theorem getM_freeze {x dx : Addr} {es : Array DictEntry} {ep : Nat} (Xb : (hd.heap_39 w.params).In b) (hb : b.StaysIn h) (hx : h.get? x = some (bookO dx es ep)) (hdx : h.get? dx = some emptyDict) {pl : Sem Bool} {Q : Value × List Value → Shared → Prop}
    (q : Q (.ref 90, [.ref x]) ⟨h, ge, dr, tk, os⟩) : wpAny (model prog w) A (getMethod (.ref x) "freeze" pl) Q E ⟨h, ge, dr, tk, os⟩ := by
  have X : (Mine.hd.heap_39 w.params).In h := Xb.keeps hb
  have I : InstAt h x (bookO dx es ep) 93 (some emptyDict) := ⟨hx, rfl, rfl, hdx⟩
  have L0 := I.type (M := model prog w)
  have L1 : Looks (model prog w) h (specialOf (.ref x) "__getattribute__") (some (.builtin "collections.defaultdict.__getattribute__")) := L0.andThen (looks_findIn X (by k_is))
  have L2 : Looks (model prog w) h (specialOf (.ref x) "__getattr__") none := L0.andThen (looks_findIn X (by k_is))
  have L3 : Looks (model prog w) h (specialOf (.ref x) "freeze") (some (.ref 90)) := L0.andThen (looks_findIn X (by k_is))
  have L4 : Looks (model prog w) h (typeOf (.ref 90)) (.type "function") := looks_typeIn X (by k_is)
  have L5 : nsLook "freeze" emptyDict = pure none := nsLook_of rfl
  unfold getMethod
  refine wpAny_bind (L1.at ?_)
  dsimp only
  rw [if_neg (by decide +kernel)]
  refine wpAny_bind (L2.at ?_)
  rw [if_neg (by simp)]
  refine wpAny_bind (L3.at (wpAny_bind (L4.at ?_)))
  rw [if_neg (by decide +kernel)]
  refine wpAny_bind (wpAny_loadPart hx ?_)
  dsimp only
  unfold nsGet
  refine wpAny_bind (wpAny_bind (wpAny_loadPart hdx ?_))
  rw [L5]
  refine wpAny_pure ?_
  rw [if_neg (by simp)]
  exact wpAny_bind (wpAny_rule (wpAny_pure q))
theorem callWith_fn0 {M : Model} {A : Around} {E : Value → Shared → Prop} {s : Shared} {pos : Pos} {a : Addr} {o : Obj} {fd : FuncData} {first : List Value} {env : Env} {Q : Value → Shared → Prop} (ho : s.heap.get? a = some o) (hd : o.data = .func fd)
    (q : wpAny M A (call (.ref a) (first ++ [])) Q E s) : wpAny M A (callWith pos (.ref a) first (backTo pos (starEach [] env)) []) Q E s :=
  callWith_function (args := []) (PyProof.Rows.evalArgs_none ⟨⟨ho, hd⟩, q⟩)
theorem fn_data {K : Frag} {h : Heap} (X : K.In h) {a : Addr} {oc : Value} {od : Option Addr} {fd : FuncData} {sl : Array (Option Value)} (e : K.lookup a = some ⟨oc, od, .func fd, sl⟩) : ∃ o fd, h.get? a = some o ∧ o.data = .func fd := ⟨_, _, X _ _ e, rfl⟩
end
end
section
noncomputable def lookD {κ : Type} (fr : Bool) (D : List (Nat × List κ)) (k : Nat) : List (Nat × List κ) := match keyAt D k with
  | some _ => D
  | none => if fr = true then D else D ++ [(k, [])]
noncomputable def lstD {κ : Type} (D : List (Nat × List κ)) (k : Nat) : List κ := match keyAt D k with
  | some i => (D[i]?.map (·.2)).getD []
  | none => []
noncomputable def setD {κ : Type} (D : List (Nat × List κ)) (k : Nat) (ks : List κ) : List (Nat × List κ) := match keyAt D k with
  | some i => D.modify i fun d => (d.1, ks)
  | none => D
noncomputable def Apart (extra : List (Addr × Obj)) (bk : BookV) : Prop := ∀ q ∈ extra, ∀ q' ∈ bookN bk, q.1 ≠ q'.1
theorem keyAt_push {κ : Type} {D : List (Nat × List κ)} {k : Nat} {ks : List κ} (h : keyAt D k = none) : keyAt (D ++ [(k, ks)]) k = some D.length := by
  unfold keyAt at *
  rw [List.findIdx?_append, h]
  simp
section
variable {w : World} {p : Program} {loose : List Str} {mean : ExcName → Option Value} {mg mb : Str → Option Value} {g h h' : Heap} {L : Addr} {m : Str → Option Value} {extra : List (Addr × Obj)} {κ : Type} {V : Ordv κ} {bk : BookV} {D : List (Nat × List κ)}
theorem bookN_put_fst (bk : BookV) (i : Nat) (vs : List Value) (c : Nat) : ∀ q ∈ bookN (bk.put i vs c), ∃ q' ∈ bookN bk, q'.1 = q.1 := by
  intro q hq
  rcases List.mem_cons.mp hq with rfl | hq
  · exact ⟨_, bookN_x bk, rfl⟩
  · obtain ⟨r2, hr2, rfl⟩ := List.mem_map.mp hq
    obtain ⟨j, hj⟩ := List.mem_iff_getElem?.mp hr2
    unfold BookV.put at hj
    rw [List.getElem?_modify] at hj
    obtain ⟨r0, h0, rfl⟩ := Option.map_eq_some_iff.mp hj
    refine ⟨_, bookN_row h0, ?_⟩
    by_cases e : i = j <;> simp [e]
theorem Apart.put (a : Apart extra bk) (i : Nat) (vs : List Value) (c : Nat) : Apart extra (bk.put i vs c) := fun q hq q' hq' e => by
  obtain ⟨q2, h2, e2⟩ := bookN_put_fst bk i vs c q' hq'
  exact a q hq q2 h2 (e.trans e2.symm)
theorem Apart.add (a : Apart extra bk) {k : Nat} {t : Tok} {l : Addr} {c : Nat} (hl : ∀ q ∈ extra, q.1 ≠ l) : Apart extra (bk.add k t l c) := fun q hq q' hq' e => by
  rcases List.mem_cons.mp hq' with rfl | hq'
  · exact a q hq _ (bookN_x bk) e
  · obtain ⟨r, hr, rfl⟩ := List.mem_map.mp hq'
    unfold BookV.add at hr
    rcases List.mem_append.mp hr with hr | hr
    · obtain ⟨j, hj⟩ := List.mem_iff_getElem?.mp hr
      exact a q hq _ (bookN_row hj) e
    · rw [List.mem_singleton] at hr; subst hr
      exact hl q hq e
/-- a list of the book is changed, the rest beside the book stands -/
theorem book_put (f : FB w p loose mean mg mb g L h m (extra ++ bookN bk)) (ap : Apart extra bk) (R : BookR V h bk D) {i : Nat} {r : Row} (hr : bk.rows[i]? = some r) {vs' : List Value} {c' : Nat} {ks' : List κ} (C : Ch [r.addr] h h') (hl : h'.get? r.addr = some (listOf vs'.toArray c')) (hk : RelL (V.rel h') vs' ks') :
    FB w p loose mean mg mb g L h' m (extra ++ bookN (bk.put i vs' c')) ∧ Apart extra (bk.put i vs' c') ∧ BookR V h' (bk.put i vs' c') (D.modify i fun d => (d.1, ks')) ∧ TK h h' := by
  obtain ⟨F, R', t⟩ := f.bookPut (fun q hq => List.mem_append_right _ hq) R hr C hl hk
  refine ⟨F _ fun q hq => ?_, ap.put _ _ _, R', t⟩
  rcases List.mem_append.mp hq with hq | hq
  · exact .inl ⟨List.mem_append_left _ hq, ap q hq _ (bookN_row hr)⟩
  · exact .inr hq
end
section
variable {prog : Program} {w : World} {A : Around} {E : Value → Shared → Prop} {p : Program} {loose : List Str} {mean : ExcName → Option Value} {mg mb : Str → Option Value} {g h : Heap} {ge : Array GenState} {dr : Drawn} {tk : Nat} {os : OsState} {L : Addr} {m : Str → Option Value} {extra : List (Addr × Obj)}
  {κ : Type} {V : Ordv κ} {bk : BookV} {D : List (Nat × List κ)} {fr : Bool} {Q : Value → Shared → Prop}
/-- book[k], beside the book `extra` stands -/
theorem book_at (S : SupOk prog) {x : Addr} (ex : bk.x = x) (f : FB w p loose mean mg mb g L h m (extra ++ bookN bk)) (ap : Apart extra bk) (R : BookR V h bk D) (Z : Dxf w g bk fr) (hz : D.length ≤ 1000000)
    (hd : A.depth + 8 < recursionLimit) (hu : A.units + 80 < cLine) (hh : A.handled = none) {value slice : Expr} {k : Nat} {t : Tok}
    (hsl : subscripted slice false (.ref x) (.int ((k : Nat) : Int) t) = operate [.ref x, .int ((k : Nat) : Int) t] (getItem (.ref x) (.int ((k : Nat) : Int) t)))
    (inb : ∀ bk' i r h' tk', FB w p loose mean mg mb g L h' m (extra ++ bookN bk') → Apart extra bk' → BookR V h' bk' (lookD fr D k) → Dxf w g bk' fr → bk'.x = x → bk'.dx = bk.dx → keyAt (lookD fr D k) k = some i → bk'.rows[i]? = some r → TK h h' → Q (.ref r.addr) ⟨h', ge, dr, tk', os⟩)
    (out : fr = true → keyAt D k = none → ∀ l h' tk' c, FB w p loose mean mg mb g L h' m ((l, listOf #[] c) :: (extra ++ bookN bk)) → (∀ q ∈ extra ++ bookN bk, q.1 ≠ l) → BookR V h' bk D → (∀ a o, h.get? a = some o → h'.get? a = some o) → Q (.ref l) ⟨h', ge, dr, tk', os⟩) :
    wpAny (model prog w) A (subscriptTail value slice (.ref x) (.int ((k : Nat) : Int) t)) Q E ⟨h, ge, dr, tk, os⟩ := by
  subst ex
  refine fb_bookGet S f (fun q hq => List.mem_append_right _ hq) R Z hz hd hu hh hsl ?_ ?_ ?_
  · intro i r tk' hi hr
    have e : lookD fr D k = D := by unfold lookD; rw [hi]
    exact inb bk i r h tk' f ap (by rw [e]; exact R) Z rfl rfl (by rw [e]; exact hi) hr (TK.refl _)
  · intro hf hn l h' tk' c ln F R' t'
    subst hf
    have e : lookD false D k = D ++ [(k, [])] := by unfold lookD; rw [hn]; rfl
    have hl : ∀ q ∈ extra, q.1 ≠ l := fun q hq e => by
      have z := (f.N q (List.mem_append_left _ hq)).1
      rw [e, ln] at z; cases z
    refine inb (bk.add k t l c) D.length ⟨k, t, l, [], c⟩ h' tk' (F _ fun q hq => ?_) (ap.add hl) (by rw [e]; exact R') Z rfl rfl (by rw [e]; exact keyAt_push hn) (by rw [← R.len]; exact add_row bk k t l c) t'
    rcases List.mem_append.mp hq with hq | hq
    · exact .inl ⟨List.mem_append_left _ hq, ap q hq _ (bookN_x bk)⟩
    · exact .inr hq
  · intro hf hn l h' tk' c F hl k1
    exact out hf hn l h' tk' c F hl (R.mono (TK.of_keep k1)) k1
end
/-- book[k] where k is a key -/
theorem book_hit {prog : Program} {w : World} {A : Around} {E : Value → Shared → Prop} {p : Program} {loose : List Str} {mean : ExcName → Option Value} {mg mb : Str → Option Value} {g h : Heap} {ge : Array GenState} {dr : Drawn} {tk : Nat} {os : OsState} {L : Addr} {m : Str → Option Value} {news : List (Addr × Obj)}
    {κ : Type} {V : Ordv κ} {bk : BookV} {D : List (Nat × List κ)} {fr : Bool} {Q : Value → Shared → Prop} (S : SupOk prog) {x : Addr} (ex : bk.x = x) (f : FB w p loose mean mg mb g L h m news) (hs : ∀ q ∈ bookN bk, q ∈ news) (R : BookR V h bk D) (Z : Dxf w g bk fr) (hz : D.length ≤ 1000000)
    (hd : A.depth + 8 < recursionLimit) (hu : A.units + 80 < cLine) (hh : A.handled = none) {value slice : Expr} {k i : Nat} {t : Tok} (hk : keyAt D k = some i)
    (hsl : subscripted slice false (.ref x) (.int ((k : Nat) : Int) t) = operate [.ref x, .int ((k : Nat) : Int) t] (getItem (.ref x) (.int ((k : Nat) : Int) t)))
    (q : ∀ r tk', bk.rows[i]? = some r → Q (.ref r.addr) ⟨h, ge, dr, tk', os⟩) :
    wpAny (model prog w) A (subscriptTail value slice (.ref x) (.int ((k : Nat) : Int) t)) Q E ⟨h, ge, dr, tk, os⟩ := by
  subst ex
  refine fb_bookGet S f hs R Z hz hd hu hh hsl ?_ ?_ ?_
  · intro j r tk' hj hr
    rw [hk] at hj; cases hj
    exact q r tk' hr
  · intro _ hn; rw [hk] at hn; cases hn
  · intro _ hn; rw [hk] at hn; cases hn
section
variable {prog : Program} {w : World} {A : Around} {p : Program} {loose : List Str} {mean : ExcName → Option Value} {mg mb : Str → Option Value} {g h : Heap} {ge : Array GenState} {dr : Drawn} {tk : Nat} {os : OsState} {env : Env} {m : Str → Option Value} {news : List (Addr × Obj)}
theorem emitP_mono {elt : Expr} {acc : Value} (X Y : Shared → Prop) (s : Shared) (h : ∀ s, X s → Y s) (x : emitP prog w A elt acc env X s) : emitP prog w A elt acc env Y s :=
  wpAny_mono x (fun _ _ x => wpAny_mono x (fun _ s x => h s x) fun _ _ e => e) fun _ _ e => e
/-- a comprehension of one clause, from its first turn on -/
theorem comp1_go {elt target iter : Expr} {ifs : List Expr} {scope : Scope} {pos : Pos} {acc : Value} {R : Result → Shared → Prop} {I : Addr} {fp : List Addr} {n : Nat} {P : Nat → Value → Prop} {St : Nat → Heap → Prop} (W : Walks prog w A I fp [I] n P St)
    (hI : ∀ i h, St i h → ∃ o, h.get? I = some o ∧ ∀ vs, o ≠ tupO vs)
    (J : Nat → Heap → (Str → Option Value) → List (Addr × Obj) → Prop)
    (hJ : ∀ i h h' m news, TK h h' → J i h m news → J i h' m news)
    (hnt : ∀ i h m news, J i h m news → ∀ q ∈ news, ∀ vs, q.2 ≠ tupO vs)
    (f : FB w p loose mean mg mb g env.locals h m news) (hIn : I ∉ news.map (·.1)) (hIL : I ≠ env.locals) (hIg : g.get? I = none) (hfp : ∀ b ∈ fp, b = I ∨ ∃ o, g.get? b = some o)
    (hst : St 0 h) (hj : J 0 h m news)
    (turn : ∀ i v g' h tk m news, i < n → P i v → J i h m news → FB w p loose mean mg mb g' env.locals h m news → g.StaysIn g' → TK h g' →
      CompT prog w A env target ifs (.ref I) (emitP prog w A elt acc env) v (fun s₃ => ∃ h' tk' m' news', s₃ = ⟨h', ge, dr, tk', os⟩ ∧ FB w p loose mean mg mb g' env.locals h' m' news' ∧ J (i + 1) h' m' news') ⟨h, ge, dr, tk, os⟩)
    (fin : ∀ h tk m news, J n h m news → FB w p loose mean mg mb g env.locals h m news → R (.ok .next) ⟨h, ge, dr, tk, os⟩) :
    codeAny (model prog w) A (.compStart (.ListComp elt [⟨target, iter, ifs, 0⟩] scope pos) 0 (.ref I) acc env) R ⟨h, ge, dr, tk, os⟩ := by
  obtain ⟨Iv, ⟨k, hk⟩, _, turn'⟩ := walk_turn W (R (.ok .next)) (CompT prog w A env target ifs (.ref I) (emitP prog w A elt acc env)) (fun v X Y s hXY x => CompT.mono (fun X Y s h x => emitP_mono X Y s h x) v X Y s hXY x) hI J hJ hnt f hIn hIL hIg hfp hst hj turn fin
  have loop : codeAny (model prog w) A (.compLoop (.ListComp elt [⟨target, iter, ifs, 0⟩] scope pos) 0 (.ref I) acc env) R ⟨h, ge, dr, tk, os⟩ :=
    compLoop_gen (comp_form1 elt target iter ifs scope pos (.ref I) acc env) rfl rfl rfl (fun X s hx k Q' hk => emit_ok X s hx k Q' hk) Iv turn' k hk
  exact compStart_gen (gc := ⟨target, iter, ifs, 0⟩) rfl rfl rfl loop (W.self 0 _ _ _ hst loop)
end
theorem tests_nil {M : Model} {A : Around} {E : Value → Shared → Prop} {s : Shared} {env : Env} {Q : Bool → Shared → Prop} (q : Q true s) : wpAny M A (compTests [] env) Q E s := wpAny_pure q
theorem tests_one {M : Model} {A : Around} {E : Value → Shared → Prop} {s : Shared} {env : Env} {c : Expr} {Q : Bool → Shared → Prop} (q : wpAny M A (isTrue c env (eval c env)) Q E s) : wpAny M A (compTests [c] env) Q E s := by
  unfold compTests
  rw [List.forIn_cons]
  refine wpAny_bind ?_
  rw [if_pos rfl]
  refine wpAny_bind (wpAny_mono q (fun b s' hb => wpAny_pure ?_) fun _ _ e => e)
  dsimp only
  rw [List.forIn_nil]
  exact wpAny_pure hb
end
section
/-- popped again and again -/
noncomputable def popN {κ : Type} (lt : κ → κ → Bool) (ks : List κ) : Nat → List κ × List κ
  | 0 => ([], ks)
  | n + 1 => match hpop lt (popN lt ks n).2 with
    | some (y, b) => ((popN lt ks n).1 ++ [y], b)
    | none => popN lt ks n
theorem hpop_some {κ : Type} (lt : κ → κ → Bool) {ks : List κ} (h : ks ≠ []) : ∃ y b, hpop lt ks = some (y, b) ∧ b.length + 1 = ks.length := by
  cases hx : ks.getLast? with
  | none => rw [List.getLast?_eq_none_iff] at hx; exact absurd hx h
  | some x =>
    have e := congrArg List.length (split_last hx)
    rw [List.length_append, List.length_singleton] at e
    unfold hpop
    rw [hx]
    cases hd : ks.dropLast with
    | nil => rw [hd] at e; exact ⟨x, [], rfl, by simpa using e.symm⟩
    | cons y r =>
      rw [hd] at e
      refine ⟨y, _, rfl, ?_⟩
      rw [siftup_length]; simpa using e.symm
theorem popN_len {κ : Type} (lt : κ → κ → Bool) (ks : List κ) : ∀ n, n ≤ ks.length → (popN lt ks n).2.length + n = ks.length ∧ (popN lt ks n).1.length = n
  | 0, _ => ⟨rfl, rfl⟩
  | n + 1, h => by
    have ih := popN_len lt ks n (by (first | lia | omega))
    obtain ⟨y, b, e, hb⟩ := hpop_some lt (ks := (popN lt ks n).2) (by intro e; rw [e] at ih; simp at ih; (first | lia | omega))
    simp only [popN, e]
    exact ⟨by (first | lia | omega), by simp [ih.2]⟩
theorem keyAt_lt {κ : Type} {D : List (Nat × κ)} {k i : Nat} (h : keyAt D k = some i) : ∃ d, D[i]? = some d ∧ d.1 = k := by
  obtain ⟨hlt, hp, _⟩ := List.findIdx?_eq_some_iff_getElem.mp h
  exact ⟨_, List.getElem?_eq_getElem hlt, by simpa using hp⟩
theorem lstD_at {κ : Type} {D : List (Nat × List κ)} {k i : Nat} {d : Nat × List κ} (h : keyAt D k = some i) (hd : D[i]? = some d) : lstD D k = d.2 := by unfold lstD; rw [h]; simp [hd]
theorem keyAt_append {κ : Type} {D : List (Nat × List κ)} {k j : Nat} {ks : List κ} : keyAt (D ++ [(k, ks)]) j = match keyAt D j with | some i => some i | none => if k = j then some D.length else none := by
  unfold keyAt
  rw [List.findIdx?_append]
  cases hj : D.findIdx? fun d => d.1 == j with
  | some i => rfl
  | none => by_cases e : k = j <;> simp [e]
theorem lstD_look {κ : Type} (fr : Bool) (D : List (Nat × List κ)) (k j : Nat) : lstD (lookD fr D k) j = lstD D j := by
  unfold lookD
  cases hk : keyAt D k with
  | some i => rfl
  | none =>
    dsimp only
    split
    · rfl
    · unfold lstD
      rw [keyAt_append]
      cases hj : keyAt D j with
      | some i =>
        obtain ⟨d, hd, _⟩ := keyAt_lt hj
        dsimp only
        rw [List.getElem?_append_left (List.getElem?_eq_some_iff.mp hd).1]
      | none =>
        dsimp only
        by_cases e : k = j
        · rw [if_pos e]; simp
        · rw [if_neg e]
theorem lookD_len {κ : Type} (fr : Bool) (D : List (Nat × List κ)) (k : Nat) : (lookD fr D k).length ≤ D.length + 1 := by
  unfold lookD
  split
  · (first | lia | omega)
  · split
    · (first | lia | omega)
    · simp
section
variable {prog : Program} {w : World} {A : Around} {E : Value → Shared → Prop} {p : Program} {loose : List Str} {mean : ExcName → Option Value} {mg mb : Str → Option Value} {g h : Heap} {ge : Array GenState} {dr : Drawn} {tk : Nat} {os : OsState} {L : Addr} {m : Str → Option Value} {news news' : List (Addr × Obj)} {env : Env}
theorem mw_stcG {x : Str} {v : Value} {v₀ : Option Value} {c : Addr} {cl : Value} {di : Option Addr} {sl : Array (Option Value)} {Q : Unit → Shared → Prop} (f : FB w p loose mean mg mb g L h m news) (hc : env.cells.lookup x = some c) (hm : (c, cellW cl di sl v₀) ∈ news) (hn : ∀ q ∈ news', (q ∈ news ∧ q.1 ≠ c) ∨ q = (c, cellW cl di sl (some v)))
    (q : ∀ h', FB w p loose mean mg mb g L h' m news' → TK h h' → Q () ⟨h', ge, dr, tk, os⟩) (hl : env.kindOf x = some .cell) (hk : env.scope.kind = .function) : wpAny (model prog w) A (storeName env x v) Q E ⟨h, ge, dr, tk, os⟩ := by
  have hc0 := f.at_ hm
  unfold storeName
  simp only [hl, hk]
  refine wpAny_bind (wpAny_cellOf hc ?_)
  unfold cellSet
  refine wpAny_bind (wpAny_load hc0 ?_)
  refine wpAny_update hc0 ?_
  have hs : Heap.SameBut c h (h.update c fun o => { o with data := .cell (some v) }) := Heap.SameBut.update ..
  have ho : (h.update c fun o => { o with data := .cell (some v) }).get? c = some (cellW cl di sl (some v)) := Heap.get?_update_self _ hc0 rfl
  refine q _ (f.chg (Ch.of_same hs) ⟨_, hm⟩ fun r hr => ?_) (TK.of_ch (Ch.of_same hs) fun r hr vs e => ?_)
  · rcases hn r hr with h1 | rfl
    · exact .inl h1
    · exact .inr ⟨ho, .inl rfl⟩
  · rw [List.mem_singleton] at hr; subst hr
    rw [hc0] at e; exact cellW_ne _ _ _ _ vs (Option.some.inj e)
end
theorem ml_pushG {prog : Program} {w : World} {A : Around} {E : Value → Shared → Prop} {p : Program} {loose : List Str} {mean : ExcName → Option Value} {mg mb : Str → Option Value} {g h : Heap} {ge : Array GenState} {dr : Drawn} {tk : Nat} {os : OsState} {L l : Addr} {m : Str → Option Value} {news news' : List (Addr × Obj)} {vs : List Value} {n : Nat} {v : Value} {Q : Value → Shared → Prop}
    (f : FB w p loose mean mg mb g L h m news) (hm : (l, listOf vs.toArray n) ∈ news) (hn : ∀ q ∈ news', (q ∈ news ∧ q.1 ≠ l) ∨ q = (l, listOf (vs ++ [v]).toArray (n + 1))) (hz : vs.length ≤ sizeLine)
    (q : ∀ h', FB w p loose mean mg mb g L h' m news' → TK h h' → Q .none ⟨h', ge, dr, tk, os⟩) : wpAny (model prog w) A (call (.builtin "list.append") [.ref l, v]) Q E ⟨h, ge, dr, tk, os⟩ :=
  append_at (s := ⟨h, ge, dr, tk, os⟩) (f.at_ hm) (fun h' hs ho => q h' (f.chg (Ch.of_same hs) ⟨_, hm⟩ fun r hr => by
    rcases hn r hr with h1 | rfl
    · exact .inl h1
    · exact .inr ⟨by rw [ho]; simp, .inl rfl⟩) (TK.of_ch (Ch.of_same hs) fun r hr vs' e => by
      rw [List.mem_singleton] at hr; subst hr
      rw [f.at_ hm] at e; exact lst_ne _ _ vs' (Option.some.inj e))) (by rw [List.size_toArray]; exact hz)
theorem keyAt_modify {κ : Type} {D : List (Nat × κ)} {i : Nat} {F : κ → κ} (k : Nat) : keyAt (D.modify i fun d => (d.1, F d.2)) k = keyAt D k := by
  unfold keyAt
  have e : ∀ (l : List (Nat × κ)), (l.findIdx? fun d => d.1 == k) = (l.map (·.1)).findIdx? fun a => a == k := fun l => by rw [List.findIdx?_map]; rfl
  rw [e, e]
  congr 1
  apply List.ext_getElem?
  intro j
  simp only [List.getElem?_map, List.getElem?_modify]
  cases D[j]? with
  | none => rfl
  | some d => by_cases e : i = j <;> simp [e]
theorem modify_twice {κ : Type} (D : List (Nat × List κ)) (i : Nat) (X Y : List κ) : (D.modify i fun d => (d.1, X)).modify i (fun d => (d.1, Y)) = D.modify i fun d => (d.1, Y) := by
  apply List.ext_getElem?
  intro j
  simp only [List.getElem?_modify]
  cases D[j]? with
  | none => rfl
  | some d => by_cases e : i = j <;> simp [e]
theorem hpush_len {κ : Type} (lt : κ → κ → Bool) (ks : List κ) (x : κ) : (hpush lt ks x).length = ks.length + 1 := by unfold hpush; rw [sdF_length]; simp
theorem setD_len {κ : Type} (D : List (Nat × List κ)) (k : Nat) (ks : List κ) : (setD D k ks).length = D.length := by
  unfold setD
  split
  · simp
  · rfl
/-- cells lie beside a book -/
theorem FB.cellsApart {w : World} {p : Program} {loose : List Str} {mean : ExcName → Option Value} {mg mb : Str → Option Value} {g h : Heap} {L : Addr} {m : Str → Option Value} {news : List (Addr × Obj)} {bk : BookV} (f : FB w p loose mean mg mb g L h m news) (hs : ∀ q ∈ bookN bk, q ∈ news) {c : Addr} {cl : Value} {di : Option Addr} {sl : Array (Option Value)} {v : Option Value} (hm : (c, cellW cl di sl v) ∈ news) :
    ∀ q' ∈ bookN bk, c ≠ q'.1 := fun q' hq' => f.apart hm (hs q' hq') (by
      rcases List.mem_cons.mp hq' with rfl | hq'
      · intro e; cases e
      · obtain ⟨r, _, rfl⟩ := List.mem_map.mp hq'
        intro e; cases e)
end
section
noncomputable abbrev keyItO (d : Addr) (i n ep : Nat) : Obj := { cls := .type "dict_keyiterator", data := .fields #[.ref d, .int ((i : Nat) : Int) 0, .int ((n : Nat) : Int) 0, .int ((ep : Nat) : Int) 0] }
section
variable {prog : Program} {w : World} {A : Around} {E : Value → Shared → Prop} {h : Heap} {ge : Array GenState} {dr : Drawn} {tk : Nat} {os : OsState}
  {x dx I : Addr} {ents : Ents} {ep i : Nat}
theorem book_next (hI : h.get? I = some (keyItO x i ents.length ep)) (hx : h.get? x = some (bookO dx (bookEs ents) ep)) {e : Nat × Tok × Addr} (he : ents[i]? = some e) {Q : Option Value → Shared → Prop}
    (q : ∀ h', Heap.SameBut I h h' → h'.get? I = some (keyItO x (i + 1) ents.length ep) → Q (some (.int ((e.1 : Nat) : Int) e.2.1)) ⟨h', ge, dr, tk, os⟩) :
    wpAny (model prog w) A (pyNext (.ref I)) Q E ⟨h, ge, dr, tk, os⟩ := by
  have hT : (⟨h, ge, dr, tk, os⟩ : Shared).TypeIs (.ref I) "dict_keyiterator" := ⟨_, hI, rfl⟩
  have tI : Looks (model prog w) h (typeOf (.ref I)) (.type "dict_keyiterator") := (Looks.ld hI).andThen .now
  unfold pyNext
  refine wpAny_bind (wpAny_attempt (wpAny_callSpecial?_slot (name := Str.ofString "__next__") hT PySem.F.slot_dict_keyiterator_next
    (wpAny_call_entry PySem.F.slot_dict_keyiterator_next hT PySem.F.entry_dict_keyiterator_next ?_ (PySem.F.args_dict_keyiterator_next_1 _))))
  unfold Builtin.«dict_keyiterator.__next__»
  have hown : Dict_items.ownsTuple ((Manifest.find? "dict_keyiterator").elim "dict_keyiterator" fun x => x.tpName) = false := by decide +kernel
  have sz : (bookEs ents).size = ents.length := bookEs_size ents
  iterate 40 lk
  refine wpAny_load hI (wpAny_pure ?_)
  rw [hown]
  show wpAny _ _ (if (Value.ref x == Value.none) = true then _ else _) _ _ _
  rw [if_neg (show ¬ ((Value.ref x == Value.none) = true) from Bool.false_ne_true)]
  refine wpAny_bind (wpAny_pure (wpAny_bind (wpAny_dictEntries hx rfl ?_)))
  rw [if_neg (by rw [sz]; simp)]
  refine wpAny_bind (wpAny_pure (wpAny_bind (wpAny_dictEpoch hx rfl ?_)))
  rw [if_neg (by simp)]
  refine wpAny_pure ?_
  have hen : (bookEs ents)[i]? = some ⟨hashInt ((e.1 : Nat) : Int), .int ((e.1 : Nat) : Int) e.2.1, .ref e.2.2⟩ := by unfold bookEs; simp [he]
  have hi : (if ((i : Nat) : Int) < 0 then none else (bookEs ents)[((i : Nat) : Int).toNat]?) = some ⟨hashInt ((e.1 : Nat) : Int), .int ((e.1 : Nat) : Int) e.2.1, .ref e.2.2⟩ := by
    rw [if_neg (by (first | lia | omega)), Int.toNat_natCast]; exact hen
  dsimp only
  rw [hi]
  dsimp only
  have mro : mroOf (.type "dict_keyiterator") = pure [.type "dict_keyiterator", .type "object"] := by rw [mroOf_type]; kernel_rfl
  have io : ∀ (h : Heap) (l : List String), Looks (model prog w) h (typeOf (.ref I)) (.type "dict_keyiterator") → Looks (model prog w) h (Dict_items.isOneOf (.ref I) l) (l.any fun t => [Value.type "dict_keyiterator", .type "object"].contains (.type t)) := fun h l tI => tI.andThen ((Looks.of_pure mro).andThen .now)
  have io1 := io h
  repeat ((fail_if_success (with_reducible show wpAny _ _ (setField _ _ _) _ _ _)); (first | (with_reducible refine wpAny_typeNameOfWhole_keyiter hT ?_) | (with_reducible refine Looks.at (io1 _ tI) ?_) | lk))
  refine wpAny_setField_rec hI (by rw [if_neg (by decide +kernel)]; simp) ?_
  intro h2 hI2 s2
  rw [if_neg (by decide +kernel), if_neg (by decide +kernel)] at hI2
  have tI2 : Looks (model prog w) h2 (typeOf (.ref I)) (.type "dict_keyiterator") := (Looks.ld hI2).andThen .now
  have io2 := io h2
  repeat (first | (with_reducible refine Looks.at (io2 _ tI2) ?_) | lk)
  exact ⟨_, rfl, wpAny_pure (q h2 s2 (by rw [hI2]; rfl))⟩
theorem book_end (hh : A.handled = none) (hI : h.get? I = some (keyItO x ents.length ents.length ep)) (hx : h.get? x = some (bookO dx (bookEs ents) ep)) {Q : Option Value → Shared → Prop}
    (q : ∀ h', Heap.ExtBut I h h' → Q none ⟨h', ge, dr, tk, os⟩) : wpAny (model prog w) A (pyNext (.ref I)) Q E ⟨h, ge, dr, tk, os⟩ := by
  have hT : (⟨h, ge, dr, tk, os⟩ : Shared).TypeIs (.ref I) "dict_keyiterator" := ⟨_, hI, rfl⟩
  have tI : Looks (model prog w) h (typeOf (.ref I)) (.type "dict_keyiterator") := (Looks.ld hI).andThen .now
  unfold pyNext
  refine wpAny_bind (wpAny_attempt (wpAny_callSpecial?_slot (name := Str.ofString "__next__") hT PySem.F.slot_dict_keyiterator_next
    (wpAny_call_entry PySem.F.slot_dict_keyiterator_next hT PySem.F.entry_dict_keyiterator_next ?_ (PySem.F.args_dict_keyiterator_next_1 _))))
  unfold Builtin.«dict_keyiterator.__next__»
  have hown : Dict_items.ownsTuple ((Manifest.find? "dict_keyiterator").elim "dict_keyiterator" fun x => x.tpName) = false := by decide +kernel
  have sz : (bookEs ents).size = ents.length := bookEs_size ents
  iterate 40 lk
  refine wpAny_load hI (wpAny_pure ?_)
  rw [hown]
  show wpAny _ _ (if (Value.ref x == Value.none) = true then _ else _) _ _ _
  rw [if_neg (show ¬ ((Value.ref x == Value.none) = true) from Bool.false_ne_true)]
  refine wpAny_bind (wpAny_pure (wpAny_bind (wpAny_dictEntries hx rfl ?_)))
  rw [if_neg (by rw [sz]; simp)]
  refine wpAny_bind (wpAny_pure (wpAny_bind (wpAny_dictEpoch hx rfl ?_)))
  rw [if_neg (by simp)]
  refine wpAny_pure ?_
  have hi : (if ((ents.length : Nat) : Int) < 0 then none else (bookEs ents)[((ents.length : Nat) : Int).toNat]?) = none := by
    rw [if_neg (by (first | lia | omega)), Int.toNat_natCast, ← sz]; simp
  dsimp only
  rw [hi]
  dsimp only
  repeat ((fail_if_success (with_reducible show wpAny _ _ (setField _ _ _) _ _ _)); (first | (with_reducible refine wpAny_typeNameOfWhole_keyiter hT ?_) | lk))
  refine wpAny_setField_rec hI (by rw [if_neg (by decide +kernel)]; simp) ?_
  intro h2 hI2 s2
  have first : firstArgMember (.type "StopIteration") [] = pure .none := by
    have e : ((Manifest.find? "StopIteration").elim false fun t => t.mro.contains "StopIteration" || t.mro.contains "SystemExit") = true := by decide +kernel
    simp only [firstArgMember, e]; rfl
  have ssub : isSubtype (.type "StopIteration") (.type "StopIteration") = pure true := by rw [isSubtype_type]; kernel_rfl
  refine wpAny_bind ?_
  unfold newExc newTuple
  refine wpAny_bind (wpAny_newObj_type ?_ (by size_fits))
  rw [first]
  refine wpAny_bind (wpAny_pure (wpAny_newObj_type ?_ (by size_fits)))
  refine wpAny_raiseNew_none hh ?_
  refine wpAny_bind (wpAny_isInstance (T := "StopIteration") (b := true) ⟨_, Heap.get?_push_at rfl rfl, rfl⟩ ssub ?_)
  rw [if_pos rfl]
  exact wpAny_pure (q _ fun b o n e => Heap.get?_push_of_some _ (Heap.get?_push_of_some _ ((s2.2 b n).trans e)))
end
theorem dit_slot : Slot "dict" "__iter__" "dict.__iter__" := .of (owner := "dict") (n := "__iter__") (by rw [typeLookup_type, builtinLookup_eq_fast]; kernel_rfl) (by decide +kernel) (by decide +kernel) (by decide +kernel)
  (by first | exact .inl (by decide +kernel) | exact .inr (by decide +kernel)) (by rw [isSubtype_type]; kernel_rfl)
theorem dit_kind : builtinKind "dict.__iter__" = some .slot := by decide +kernel
theorem dit_split : splitId "dict.__iter__" = some ("dict", "__iter__") := by decide +kernel
theorem dit_entry : entryFor table "dict.__iter__" = some Builtin.«dict.__iter__» := entryFor_of_tree (by kernel_rfl)
theorem dit_args (a : Value) : argsOk "dict.__iter__" ⟨[a], []⟩ := by unfold argsOk; kernel_rfl
theorem Walks_book {prog : Program} {w : World} {A : Around} (hh : A.handled = none) (I x dx : Addr) (hne : x ≠ I) (ents : Ents) (ep : Nat) :
    Walks prog w A I [I, x] [I] ents.length (fun i v => ∃ e, ents[i]? = some e ∧ v = .int ((e.1 : Nat) : Int) e.2.1) (fun i h => h.get? I = some (keyItO x i ents.length ep) ∧ h.get? x = some (bookO dx (bookEs ents) ep)) where
  sub := fun b hb => by simp at hb; simp [hb]
  frame := fun _ _ _ st hk => ⟨hk I (by simp) _ st.1, hk x (by simp) _ st.2⟩
  item := fun i s Q E hi st hQ => by
    obtain ⟨h, ge, dr, tk, os⟩ := s
    obtain ⟨e, he⟩ : ∃ e, ents[i]? = some e := ⟨_, List.getElem?_eq_getElem hi⟩
    refine book_next st.1 st.2 he fun h' hs hI => ?_
    exact hQ _ h' tk ⟨e, he, rfl⟩ ⟨hI, (hs.2 x hne).trans st.2⟩ fun b o hb e => (hs.2 b (by simpa using hb)).trans e
  done := fun s Q E st hQ => by
    obtain ⟨h, ge, dr, tk, os⟩ := s
    exact book_end hh st.1 st.2 fun h' hs => hQ h' tk fun b o hb e => hs b o (by simpa using hb) e
  self := fun _ s _ _ st hQ => wpAny_pyIter_keyiter (s := s) ⟨_, st.1, rfl, rfl⟩ hQ
section
variable {prog : Program} {w : World} {A : Around} {E : Value → Shared → Prop} {b h : Heap} {ge : Array GenState} {dr : Drawn} {tk : Nat} {os : OsState} {x dx : Addr} {ents : Ents} {ep : Nat} {Q : Value → Shared → Prop}
theorem dln_kind : builtinKind "dict.__len__" = some .slot := by decide +kernel
theorem dln_split : splitId "dict.__len__" = some ("dict", "__len__") := by decide +kernel
theorem len_kind : builtinKind "len" = none := by decide +kernel
theorem len_plain : plainId "len" = true := by decide +kernel
theorem len_entry : entryFor table "len" = some Builtin.«len» := entryFor_of_tree (by kernel_rfl)
theorem len_args (a : Value) : argsOk "len" ⟨[a], []⟩ := by unfold argsOk; kernel_rfl
theorem len_book (xs : (x == sysModules) = false) (Xb : (hd.heap_39 w.params).In b) (hb : b.StaysIn h) (hx : h.get? x = some (bookO dx (bookEs ents) ep)) (hz : ents.length ≤ 1000000)
    (q : ∀ t tk', Q (.int ((ents.length : Nat) : Int) t) ⟨h, ge, dr, tk', os⟩) : wpAny (model prog w) A (call (.builtin "len") [.ref x]) Q E ⟨h, ge, dr, tk, os⟩ := by
  have X2 : (Mine.hd.heap_39 w.params).In h := Xb.keeps hb
  have t1 : Looks (model prog w) h (typeOf (.ref x)) (.ref 93) := (Looks.ld hx).andThen .now
  have ln1 : Looks (model prog w) h (specialOf (.ref x) "__len__") (some (.builtin "dict.__len__")) := t1.andThen (looks_findIn X2 (by k_is))
  have sO := fd_subO (M := model prog w) X2
  have inD : Looks (model prog w) h (isInstance (.ref x) (.type "dict")) true := t1.andThen (fd_subD (M := model prog w) X2)
  refine Calls.call_function_entry len_kind len_plain len_entry (len_args _) ?_
  unfold Builtin.«len»
  refine wpAny_bind (wpAny_of_eq (a := .ref x) (by first | rfl | kernel_rfl) ?_)
  unfold callSpecial?
  refine wpAny_bind (wpAny_bind (ln1.at (wpAny_holding ?_)))
  rw [PySem.F.slot_dict_len.bind]
  refine wpAny_bind (wpAny_pure (wpAny_bind (wpAny_call (codeAny_call_builtin PySem.F.slot_dict_len.plain PySem.F.entry_dict_len (@check_slot (model prog w) _ _ _ "dict.__len__" "dict" "__len__" (.ref x) [] [] _ dln_kind dln_split inD (PySem.F.args_dict_len_1 _) ?_)))))
  unfold Builtin.«dict.__len__» Dict.pendingCount
  repeat ((fail_if_success (with_reducible show wpAny _ _ (dictSize _) _ _ _)); lk)
  unfold dictSize
  refine wpAny_bind (wpAny_dictEntries hx rfl (wpAny_pure ?_))
  rw [if_neg (by rw [xs]; decide)]
  refine wpAny_bind (wpAny_pure ?_)
  rw [bookEs_size]
  refine wpAny_bind (wpAny_mkInt ?_)
  refine wpAny_pure (wpAny_pure ?_)
  dsimp only
  have e : ((ents.length : Nat) : Int) + ((0 : Nat) : Int) = ((ents.length : Nat) : Int) := by (first | lia | omega)
  rw [e]
  refine wpAny_bind (wpAny_holding ?_)
  refine wpAny_of_eq (a := ((ents.length : Nat) : Int)) (by first | rfl | kernel_rfl) ?_
  refine wpAny_bind (wpAny_letGo ?_)
  rw [if_neg (by (first | lia | omega)), if_neg (by (first | lia | omega))]
  exact wpAny_bind (wpAny_mkInt (wpAny_pure ⟨_, rfl, q _ _⟩))
theorem hint_book (xs : (x == sysModules) = false) (Xb : (hd.heap_39 w.params).In b) (hb : b.StaysIn h) (hx : h.get? x = some (bookO dx (bookEs ents) ep)) (hz : ents.length ≤ 1000000) {Q : Bool → Shared → Prop}
    (q : ∀ r tk', Q r ⟨h, ge, dr, tk', os⟩) : wpAny (model prog w) A (List.listLengthHint (.ref x)) Q E ⟨h, ge, dr, tk, os⟩ := by
  have X2 : (Mine.hd.heap_39 w.params).In h := Xb.keeps hb
  have t1 : Looks (model prog w) h (typeOf (.ref x)) (.ref 93) := (Looks.ld hx).andThen .now
  have ln1 : Looks (model prog w) h (specialOf (.ref x) "__len__") (some (.builtin "dict.__len__")) := t1.andThen (looks_findIn X2 (by k_is))
  have inD : Looks (model prog w) h (isInstance (.ref x) (.type "dict")) true := t1.andThen (fd_subD (M := model prog w) X2)
  unfold List.listLengthHint
  refine wpAny_bind (ln1.at ?_)
  dsimp only
  rw [dln_split]
  dsimp only
  refine wpAny_bind (inD.at ?_)
  rw [if_neg (by decide), if_pos (by decide +kernel)]
  refine wpAny_bind (t1.at ?_)
  dsimp only
  refine wpAny_bind (len_book xs Xb hb hx hz fun t tk' => ?_)
  exact wpAny_bind (wpAny_of_eq (a := some ((ents.length : Nat) : Int)) (by first | rfl | kernel_rfl) (wpAny_pure (q _ _)))
theorem list_book (xs : (x == sysModules) = false) (Xb : (hd.heap_39 w.params).In b) (hb : b.StaysIn h) (hx : h.get? x = some (bookO dx (bookEs ents) ep)) (hh : A.handled = none) (hz : ents.length ≤ 1000000)
    (q : ∀ l h' tk' vs c, (∀ a o, h.get? a = some o → h'.get? a = some o) → h.get? l = none → h'.get? l = some (listOf vs.toArray c) → RelL (natV.rel h') vs (ents.map (·.1)) → Q (.ref l) ⟨h', ge, dr, tk', os⟩) :
    wpAny (model prog w) A (call (.type "list") [.ref x]) Q E ⟨h, ge, dr, tk, os⟩ := by
  refine callType_codes (Q₁ := fun obj s₁ => obj = .ref h.objs.size ∧ s₁ = ⟨h.push { cls := .type "list", data := .seq #[] }, ge, dr, tk, os⟩) PySem.F.called_list (PySem.F.typeCall_list_1 _) list0_entry (code_list_new _ ⟨rfl, rfl⟩) ?_
  rintro obj s₁ ⟨rfl, rfl⟩
  have ho : (h.push { cls := .type "list", data := .seq #[] }).get? h.objs.size = some { cls := .type "list", data := .seq #[] } := Heap.get?_push_at rfl rfl
  refine ⟨⟨_, ho, rfl⟩, PySem.F.args_list_init_2 _ _, ?_⟩
  unfold Builtin.«list.__init__»
  repeat ((fail_if_success (with_reducible show wpAny _ _ (update _ _) _ _ _)); lk)
  refine wpAny_update ho ?_
  have ho2 : ((h.push { cls := .type "list", data := .seq #[] }).update h.objs.size (Obj.mapSeq fun x => #[])).get? h.objs.size = some (listOf #[] 0) := Heap.get?_update_self _ ho rfl
  have hs : Heap.SameBut h.objs.size (h.push { cls := .type "list", data := .seq #[] }) ((h.push { cls := .type "list", data := .seq #[] }).update h.objs.size (Obj.mapSeq fun x => #[])) := Heap.SameBut.update ..
  have hk : ∀ a o, h.get? a = some o → ((h.push { cls := .type "list", data := .seq #[] }).update h.objs.size (Obj.mapSeq fun x => #[])).get? a = some o := fun a o e =>
    (hs.2 a (Nat.ne_of_lt (Heap.lt_size e))).trans (Heap.get?_push_of_some _ e)
  generalize (h.push { cls := .type "list", data := .seq #[] }).update h.objs.size (Obj.mapSeq fun x => #[]) = h2 at *
  refine wpAny_lookBehind ho2 (pastItsLine_seq (by rw [sizeLine_eq]; simp)) ?_
  refine wpAny_bind (wpAny_letGo ?_)
  have hx2 := hk _ _ hx
  have X2 : (Mine.hd.heap_39 w.params).In h2 := Xb.keeps fun a o e => hk _ _ (hb a o e)
  have t1 : Looks (model prog w) h2 (typeOf (.ref x)) (.ref 93) := (Looks.ld hx2).andThen .now
  have nl : (h.objs.size == x) = false := by
    have := Nat.ne_of_gt (Heap.lt_size hx)
    simpa using this
  unfold List.listExtendWith
  refine wpAny_bind (t1.at ?_)
  rw [if_neg (by rw [show List.listSameRef (.ref h.objs.size) (.ref x) = false from nl]; decide +kernel)]
  have it1 : Looks (model prog w) h2 (specialOf (.ref x) "__iter__") (some (.builtin "dict.__iter__")) := t1.andThen (fd_iter (M := model prog w) X2)
  refine wpAny_bind ?_
  unfold pyIter
  refine wpAny_bind (it1.at ?_)
  dsimp only
  refine wpAny_bind ?_
  unfold callSpecialIfBoundUnlessNone? bindSpecialIfBound?
  refine wpAny_holding (wpAny_bind ?_)
  refine wpAny_bind (it1.at ?_)
  dsimp only
  have sO := fd_subO (M := model prog w) X2
  have inD : Looks (model prog w) h2 (isInstance (.ref x) (.type "dict")) true := t1.andThen (fd_subD (M := model prog w) X2)
  refine wpAny_bind (wpAny_askSetting ?_)
  rw [dit_slot.bind]
  refine wpAny_mono (Q := fun a s' => a = some (.builtin "dict.__iter__", [.ref x]) ∧ s' = ⟨h2, ge, dr, tk, os⟩) (E := fun _ _ => False) ?_ ?_ fun _ _ e => e.elim
  · refine wpAny_ite ?_
    split
    · exact wpAny_bind (wpAny_pure (wpAny_pure ⟨rfl, rfl⟩))
    · exact wpAny_tryCatch (wpAny_bind (wpAny_pure (wpAny_pure ⟨rfl, rfl⟩)))
  rintro _ _ ⟨rfl, rfl⟩
  dsimp only
  rw [if_neg (by decide +kernel)]
  refine wpAny_bind (wpAny_call (codeAny_call_builtin dit_slot.plain dit_entry (@check_slot (model prog w) _ _ _ "dict.__iter__" "dict" "__iter__" (.ref x) [] [] _ dit_kind dit_split inD (dit_args _) ?_)))
  unfold Builtin.«dict.__iter__»
  repeat ((fail_if_success (with_reducible show wpAny _ _ (Dict.showsAll _) _ _ _)); lk)
  unfold Dict.showsAll
  rw [if_neg (by rw [xs]; decide)]
  refine wpAny_pure ?_
  refine wpAny_bind (wpAny_dictEntries hx2 rfl (wpAny_bind (wpAny_dictEpoch hx2 rfl ?_)))
  unfold newFields
  refine wpAny_bind (wpAny_newObj_type ?_ (by size_fits))
  have hI : (h2.push (keyItO x 0 ents.length ep)).get? h2.objs.size = some (keyItO x 0 ents.length ep) := Heap.get?_push_at rfl rfl
  have eI : ({ cls := .type "dict_keyiterator", data := .fields #[.ref x, rawInt 0, rawInt (bookEs ents).size, rawInt ep] } : Obj) = keyItO x 0 ents.length ep := by rw [bookEs_size]; rfl
  have k3 : ∀ a o, h2.get? a = some o → (h2.push (keyItO x 0 ents.length ep)).get? a = some o := fun a o e => Heap.get?_push_of_some _ e
  have xI : x ≠ h2.objs.size := Nat.ne_of_lt (Heap.lt_size hx2)
  have hIn : h2.get? h2.objs.size = none := Heap.get?_none_of_le (Nat.le_refl _)
  have lI : h.objs.size ≠ h2.objs.size := Nat.ne_of_lt (Heap.lt_size ho2)
  refine wpAny_pure (wpAny_pure ?_)
  dsimp only
  rw [show (({ cls := Value.type "dict_keyiterator", data := Data.fields [Value.ref x, rawInt 0, rawInt (bookEs ents).size, rawInt ep].toArray } : Obj)) = keyItO x 0 ents.length ep from eI]
  generalize h2.push (keyItO x 0 ents.length ep) = h3 at *
  generalize h2.objs.size = I at *
  have hx3 := k3 _ _ hx2
  have ho3 := k3 _ _ ho2
  have hTI : (⟨h3, ge, dr, tk, os⟩ : Shared).TypeIs (.ref I) "dict_keyiterator" := ⟨_, hI, rfl⟩
  refine wpAny_bind (wpAny_specialOf hTI PySem.F.slot_dict_keyiterator_next.lookup (wpAny_pure ?_))
  refine wpAny_bind (wpAny_holding (hint_book xs Xb (fun a o e => k3 _ _ (hk _ _ (hb a o e))) hx3 hz fun r tk4 => ?_))
  have fin : ∀ h4 tk4 c4, (∀ a o, a ≠ h.objs.size → h3.get? a = some o → h4.get? a = some o) → h4.get? h.objs.size = some (listOf #[] c4) →
      codeAny (model prog w) A.in1 (.builtin "list.extend.loop" ⟨[.ref h.objs.size, .ref I, .none], []⟩) (wants (fun r s₂ => r = Value.none ∧ Q (Value.ref h.objs.size) s₂) E) ⟨h4, ge, dr, tk4, os⟩ := by
    intro h4 tk4 c4 k4 ho4
    have lx : h.objs.size ≠ x := Nat.ne_of_gt (Heap.lt_size hx)
    refine codeAny_extend_loopS (Walks_book (A := A.in1.in1) hh I x dx xI ents ep).toS (by rw [sizeLine_eq]; (first | lia | omega)) h.objs.size (by simp; exact ⟨lI, lx⟩) .none ents.length 0 ⟨h4, ge, dr, tk4, os⟩ #[] c4 rfl (Nat.zero_le _) ⟨k4 _ _ (Ne.symm lI) hI, k4 _ _ (Ne.symm lx) hx3⟩ ho4 (ItemsOf.nil _) ?_
    rintro ⟨h5, g5, d5, t5, o5⟩ acc c5 hm hS hacc
    have e1 : g5 = ge := hm.gens
    have e2 : d5 = dr := hm.drawn
    have e3 : o5 = os := hm.os
    subst e1 e2 e3
    refine ⟨rfl, q _ h5 t5 acc.toList c5 (fun a o e => ?_) (Heap.get?_none_of_le (Nat.le_refl _)) (by rw [Array.toArray_toList]; exact hS) ⟨by rw [Array.length_toList, hacc.1, List.length_map], fun j v n hv hn => ?_⟩⟩
    · have aS : a ≠ h.objs.size := Nat.ne_of_lt (Heap.lt_size e)
      have aI : a ≠ I := by rintro rfl; rw [hk _ _ e] at hIn; cases hIn
      exact hm.heap a o (by simp; exact ⟨aS, aI⟩) (k4 _ _ aS (k3 _ _ (hk _ _ e)))
    · obtain ⟨e, he, rfl⟩ := hacc.2 j v (by simpa using hv)
      rw [List.getElem?_map, he] at hn
      cases hn
      exact ⟨_, rfl⟩
  split
  · unfold List.listTouch List.listUpdate
    refine wpAny_bind (wpAny_rule (wpAny_bind (wpAny_bind (wpAny_updateSeq ho3 rfl ?_ (by rw [sizeLine_eq]; simp) (by rw [sizeLine_eq]; simp)))))
    have u1 : (h3.update h.objs.size (Obj.mapSeq fun x => x.push Value.none)).get? h.objs.size = some (listOf #[.none] 1) := Heap.get?_update_self _ ho3 rfl
    have s1 : Heap.SameBut h.objs.size h3 (h3.update h.objs.size (Obj.mapSeq fun x => x.push Value.none)) := Heap.SameBut.update ..
    dsimp only
    generalize h3.update h.objs.size (Obj.mapSeq fun x => x.push Value.none) = h4 at *
    refine wpAny_updateSeq u1 rfl ?_ (by rw [sizeLine_eq]; simp) (by rw [sizeLine_eq]; simp)
    have u2 : (h4.update h.objs.size (Obj.mapSeq fun x => x.pop)).get? h.objs.size = some (listOf #[] 2) := Heap.get?_update_self _ u1 rfl
    have s2 : Heap.SameBut h.objs.size h4 (h4.update h.objs.size (Obj.mapSeq fun x => x.pop)) := Heap.SameBut.update ..
    dsimp only
    generalize h4.update h.objs.size (Obj.mapSeq fun x => x.pop) = h5 at *
    exact wpAny_pure ⟨Code.quiet_builtin _ (by decide +kernel), fin h5 tk4 2 (fun a o ne e => (s2.2 a ne).trans ((s1.2 a ne).trans e)) u2⟩
  · exact wpAny_pure ⟨Code.quiet_builtin _ (by decide +kernel), fin h3 tk4 0 (fun a o _ e => e) ho3⟩
end
end
section
/-- a total order by a Boolean less-than -/
structure Tot {κ : Type} (lt : κ → κ → Bool) : Prop where
  asym : ∀ a b, lt a b = true → lt b a = false
  tr : ∀ a b c, lt b a = false → lt c b = false → lt c a = false
/-- i is j's father -/
noncomputable def Kid (i j : Nat) : Prop := j = 2 * i + 1 ∨ j = 2 * i + 2
/-- the order holds along all edges from st on -/
noncomputable def HeapFrom {κ : Type} (lt : κ → κ → Bool) (st : Nat) (ks : List κ) : Prop := ∀ i j a b, st ≤ i → Kid i j → ks[i]? = some a → ks[j]? = some b → lt b a = false
inductive Desc (st : Nat) : Nat → Prop where
  | self : Desc st st
  | kid {i j : Nat} : Desc st i → Kid i j → Desc st j
theorem Desc.ge {st p : Nat} (d : Desc st p) : st ≤ p := by
  induction d with
  | self => exact Nat.le_refl _
  | kid _ k ih => rcases k with rfl | rfl <;> (first | lia | omega)
theorem Desc.up {st p : Nat} (d : Desc st p) (h : st < p) : Desc st ((p - 1) / 2) ∧ Kid ((p - 1) / 2) p := by
  cases d with
  | self => (first | lia | omega)
  | kid d k =>
    rename_i i
    have e : (p - 1) / 2 = i := by rcases k with rfl | rfl <;> (first | lia | omega)
    rw [e]; exact ⟨d, k⟩
theorem Desc.zero (p : Nat) : Desc 0 p := by
  induction p using Nat.strongRecOn with
  | ind p ih =>
    rcases Nat.eq_zero_or_pos p with rfl | h
    · exact .self
    · exact .kid (ih ((p - 1) / 2) (by (first | lia | omega))) (by unfold Kid; (first | lia | omega))
/-- the order holds but at the hole -/
structure Hole {κ : Type} (lt : κ → κ → Bool) (st pos : Nat) (ks : List κ) : Prop where
  desc : Desc st pos
  edge : ∀ i j a b, st ≤ i → i ≠ pos → j ≠ pos → Kid i j → ks[i]? = some a → ks[j]? = some b → lt b a = false
  grand : ∀ i j a b, st ≤ i → Kid i pos → Kid pos j → ks[i]? = some a → ks[j]? = some b → lt b a = false
theorem sdF_heap {κ : Type} {lt : κ → κ → Bool} (T : Tot lt) (st : Nat) (x : κ) (pos : Nat) (ks : List κ) (hp : pos < ks.length) (H : Hole lt st pos ks) (C : ∀ j b, Kid pos j → ks[j]? = some b → lt b x = false) :
    HeapFrom lt st (sdF lt st x pos ks) := by
  induction pos using Nat.strongRecOn generalizing ks with
  | ind pos ih =>
    have put : (∀ i a, st ≤ i → Kid i pos → ks[i]? = some a → lt x a = false) → HeapFrom lt st (ks.set pos x) := by
      intro hu i j a b hi hk ha hb
      have hne : i ≠ j := by rcases hk with rfl | rfl <;> (first | lia | omega)
      by_cases e1 : i = pos
      · subst e1
        rw [List.getElem?_set_self hp] at ha
        rw [List.getElem?_set_ne hne] at hb
        cases ha
        exact C j b hk hb
      · rw [List.getElem?_set_ne (Ne.symm e1)] at ha
        by_cases e2 : j = pos
        · subst e2
          rw [List.getElem?_set_self hp] at hb
          cases hb
          exact hu i a hi hk ha
        · rw [List.getElem?_set_ne (Ne.symm e2)] at hb
          exact H.edge i j a b hi e1 e2 hk ha hb
    unfold sdF
    split
    · rename_i hlt
      obtain ⟨d, k⟩ := H.desc.up hlt
      have hpl : (pos - 1) / 2 < pos := by (first | lia | omega)
      split
      · rename_i y hy
        split
        · rename_i hxy
          refine ih _ hpl (ks.set pos y) (by rw [List.length_set]; (first | lia | omega)) ⟨d, ?_, ?_⟩ ?_
          · intro i j a b hi n1 n2 hk ha hb
            have hne : i ≠ j := by rcases hk with rfl | rfl <;> (first | lia | omega)
            by_cases e1 : i = pos
            · subst e1
              rw [List.getElem?_set_self hp] at ha
              rw [List.getElem?_set_ne hne] at hb
              cases ha
              exact H.grand _ j _ b d.ge k hk hy hb
            · rw [List.getElem?_set_ne (Ne.symm e1)] at ha
              by_cases e2 : j = pos
              · subst e2
                exact absurd (by rcases hk with h | h <;> rcases k with k | k <;> (first | lia | omega)) n1
              · rw [List.getElem?_set_ne (Ne.symm e2)] at hb
                exact H.edge i j a b hi e1 e2 hk ha hb
          · intro i j a b hi hk hk' ha hb
            have e1 : i ≠ pos := by rcases hk with h | h <;> (first | lia | omega)
            rw [List.getElem?_set_ne (Ne.symm e1)] at ha
            have hya : lt y a = false := H.edge i _ a y hi e1 (Nat.ne_of_lt hpl) hk ha hy
            by_cases e2 : j = pos
            · subst e2
              rw [List.getElem?_set_self hp] at hb
              cases hb
              exact hya
            · rw [List.getElem?_set_ne (Ne.symm e2)] at hb
              exact T.tr a y b hya (H.edge _ j y b d.ge (Nat.ne_of_lt hpl) e2 hk' hy hb)
          · intro j b hk hb
            by_cases e2 : j = pos
            · subst e2
              rw [List.getElem?_set_self hp] at hb
              cases hb
              exact T.asym x y hxy
            · rw [List.getElem?_set_ne (Ne.symm e2)] at hb
              exact T.tr x y b (T.asym x y hxy) (H.edge _ j y b d.ge (Nat.ne_of_lt hpl) e2 hk hy hb)
        · rename_i hxy
          refine put fun i a hi hk ha => ?_
          have e : i = (pos - 1) / 2 := by rcases hk with h | h <;> (first | lia | omega)
          subst e
          rw [hy] at ha; cases ha
          simpa using hxy
      · rename_i hy
        exact absurd (List.getElem?_eq_none_iff.mp hy) (by (first | lia | omega))
    · refine put fun i a hi hk ha => ?_
      have := H.desc.ge
      rcases hk with h | h <;> (first | lia | omega)
end
section
theorem Tot.irr {κ : Type} {lt : κ → κ → Bool} (T : Tot lt) (a : κ) : lt a a = false := by
  cases h : lt a a with
  | false => rfl
  | true => have := T.asym a a h; rw [h] at this; cases this
theorem suPick_least {κ : Type} {lt : κ → κ → Bool} (T : Tot lt) {ks : List κ} {pos : Nat} {y : κ} (hy : ks[suPick lt ks (2 * pos + 1)]? = some y) {j : Nat} {b : κ} (hk : Kid pos j) (hb : ks[j]? = some b) : lt b y = false := by
  unfold suPick at hy
  split at hy
  · rename_i a c ha hc
    split at hy
    · rename_i hlt
      rw [ha] at hy; cases hy
      rcases hk with rfl | rfl
      · rw [ha] at hb; cases hb; exact T.irr _
      · rw [hc] at hb; cases hb; exact T.asym _ _ hlt
    · rename_i hlt
      rw [hc] at hy; cases hy
      rcases hk with rfl | rfl
      · rw [ha] at hb; cases hb; simpa using hlt
      · rw [hc] at hb; cases hb; exact T.irr _
  · rename_i hn
    rcases hk with rfl | rfl
    · rw [hy] at hb; cases hb; exact T.irr _
    · exact absurd hb (hn _ _ hy)
theorem suPick_kid {κ : Type} (lt : κ → κ → Bool) (ks : List κ) (pos : Nat) : Kid pos (suPick lt ks (2 * pos + 1)) := by
  have := suPick_ge lt ks (2 * pos + 1)
  unfold Kid; (first | lia | omega)
theorem suF_hole {κ : Type} {lt : κ → κ → Bool} (T : Tot lt) (st : Nat) : ∀ n pos (ks : List κ), ks.length - pos = n → pos < ks.length → Hole lt st pos ks →
    Hole lt st (suF lt pos ks).1 (suF lt pos ks).2 ∧ (suF lt pos ks).1 < ks.length ∧ (suF lt pos ks).2.length = ks.length ∧ ks.length ≤ 2 * (suF lt pos ks).1 + 1 ∧
      ∀ x, ((suF lt pos ks).2.set (suF lt pos ks).1 x).Perm (ks.set pos x) := by
  intro n
  induction n using Nat.strongRecOn with
  | ind n ih =>
    intro pos ks hn hp H
    have kid := suPick_kid lt ks pos
    unfold suF
    split
    · rename_i hlt
      split
      · rename_i y hy
        have hc := (List.getElem?_eq_some_iff.mp hy).1
        have hpc : pos < suPick lt ks (2 * pos + 1) := by rcases kid with h | h <;> (first | lia | omega)
        have pd := @suPick_least κ lt T ks pos y hy
        generalize suPick lt ks (2 * pos + 1) = c at *
        have r := ih (ks.length - c) (by (first | lia | omega)) c (ks.set pos y) (by rw [List.length_set]) (by rw [List.length_set]; exact hc) ⟨H.desc.kid kid, ?_, ?_⟩
        · rw [List.length_set] at r
          refine ⟨r.1, r.2.1, r.2.2.1, r.2.2.2.1, fun x => (r.2.2.2.2 x).trans ?_⟩
          have hy' : (ks.set pos x)[c]'(by rw [List.length_set]; exact hc) = y := by
            rw [List.getElem_set_ne (Nat.ne_of_lt hpc)]; exact (List.getElem?_eq_some_iff.mp hy).2
          have sp := List.set_set_perm (as := ks.set pos x) (i := pos) (j := c) (by rw [List.length_set]; exact hp) (by rw [List.length_set]; exact hc)
          rw [hy', List.getElem_set_self, List.set_set] at sp
          exact sp
        · intro i j a b hi n1 n2 hk ha hb
          have hne : i ≠ j := by rcases hk with rfl | rfl <;> (first | lia | omega)
          by_cases e1 : i = pos
          · subst e1
            rw [List.getElem?_set_self hp] at ha
            rw [List.getElem?_set_ne hne] at hb
            cases ha
            exact pd hk hb
          · rw [List.getElem?_set_ne (Ne.symm e1)] at ha
            by_cases e2 : j = pos
            · subst e2
              rw [List.getElem?_set_self hp] at hb
              cases hb
              exact H.grand i c a y hi hk kid ha hy
            · rw [List.getElem?_set_ne (Ne.symm e2)] at hb
              exact H.edge i j a b hi e1 e2 hk ha hb
        · intro i j a b hi hk hk' ha hb
          have e : i = pos := by rcases hk with h | h <;> rcases kid with h' | h' <;> (first | lia | omega)
          subst e
          rw [List.getElem?_set_self hp] at ha
          cases ha
          have e2 : j ≠ i := by rcases hk' with h | h <;> (first | lia | omega)
          rw [List.getElem?_set_ne (Ne.symm e2)] at hb
          exact H.edge c j y b (Nat.le_trans H.desc.ge (Nat.le_of_lt hpc)) (Nat.ne_of_gt hpc) e2 hk' hy hb
      · rename_i hy
        have hl := List.getElem?_eq_none_iff.mp hy
        refine ⟨H, hp, rfl, ?_, fun x => .rfl⟩
        unfold suPick at hl
        split at hl
        · rename_i h1 h2
          have := (List.getElem?_eq_some_iff.mp h1).1
          have := (List.getElem?_eq_some_iff.mp h2).1
          split at hl <;> (first | lia | omega)
        · (first | lia | omega)
    · exact ⟨H, hp, rfl, by (first | lia | omega), fun x => .rfl⟩
theorem sdF_perm {κ : Type} (lt : κ → κ → Bool) (st : Nat) (x : κ) (pos : Nat) (ks : List κ) (hp : pos < ks.length) : (sdF lt st x pos ks).Perm (ks.set pos x) := by
  induction pos using Nat.strongRecOn generalizing ks with
  | ind pos ih =>
    unfold sdF
    split
    · rename_i hlt
      split
      · rename_i y hy
        have hc := (List.getElem?_eq_some_iff.mp hy).1
        split
        · refine (ih _ (by (first | lia | omega)) _ (by rw [List.length_set]; exact hc)).trans ?_
          have hne : pos ≠ (pos - 1) / 2 := by (first | lia | omega)
          have hy' : (ks.set pos x)[(pos - 1) / 2]'(by rw [List.length_set]; exact hc) = y := by
            rw [List.getElem_set_ne hne]; exact (List.getElem?_eq_some_iff.mp hy).2
          have sp := List.set_set_perm (as := ks.set pos x) (i := pos) (j := (pos - 1) / 2) (by rw [List.length_set]; exact hp) (by rw [List.length_set]; exact hc)
          rw [hy', List.getElem_set_self, List.set_set] at sp
          exact sp
        · exact .rfl
      · exact .rfl
    · exact .rfl
/-- siftup: from a hole at st (the order holds behind st) it makes the order hold from st on -/
theorem siftup_heap {κ : Type} {lt : κ → κ → Bool} (T : Tot lt) (x : κ) (st : Nat) (ks : List κ) (hp : st < ks.length) (H : HeapFrom lt (st + 1) ks) :
    HeapFrom lt st (siftup lt x st ks) ∧ (siftup lt x st ks).Perm (ks.set st x) := by
  have H0 : Hole lt st st ks := ⟨.self, fun i j a b hi n1 _ hk ha hb => H i j a b (by (first | lia | omega)) hk ha hb, fun i j a b hi hk _ _ _ => by rcases hk with h | h <;> (first | lia | omega)⟩
  obtain ⟨h1, h2, h3, h4, h5⟩ := suF_hole T st _ st ks rfl hp H0
  unfold siftup
  generalize (suF lt st ks).1 = q at *
  generalize (suF lt st ks).2 = k1 at *
  have hq : q < (k1.set q x).length := by rw [List.length_set]; (first | lia | omega)
  have out : ∀ j b, Kid q j → (k1.set q x)[j]? = some b → False := fun j b hk hb => by
    have := (List.getElem?_eq_some_iff.mp hb).1
    rw [List.length_set] at this
    rcases hk with h | h <;> (first | lia | omega)
  refine ⟨sdF_heap T st x q _ hq ⟨h1.desc, ?_, fun i j a b _ _ hk _ hb => (out j b hk hb).elim⟩ fun j b hk hb => (out j b hk hb).elim, ((sdF_perm lt st x q _ hq).trans (by rw [List.set_set])).trans (h5 x)⟩
  intro i j a b hi n1 n2 hk ha hb
  rw [List.getElem?_set_ne (Ne.symm n1)] at ha
  rw [List.getElem?_set_ne (Ne.symm n2)] at hb
  exact h1.edge i j a b hi n1 n2 hk ha hb
end
section
theorem hpush_heap {κ : Type} {lt : κ → κ → Bool} (T : Tot lt) {ks : List κ} (x : κ) (H : HeapFrom lt 0 ks) : HeapFrom lt 0 (hpush lt ks x) ∧ (hpush lt ks x).Perm (x :: ks) := by
  unfold hpush
  have hq : ks.length < (ks ++ [x]).length := by rw [List.length_append]; simp
  have out : ∀ j b, Kid ks.length j → (ks ++ [x])[j]? = some b → False := fun j b hk hb => by
    have := (List.getElem?_eq_some_iff.mp hb).1
    rw [List.length_append, List.length_singleton] at this
    rcases hk with h | h <;> (first | lia | omega)
  refine ⟨sdF_heap T 0 x _ _ hq ⟨Desc.zero _, ?_, fun i j a b _ _ hk _ hb => (out j b hk hb).elim⟩ fun j b hk hb => (out j b hk hb).elim, (sdF_perm lt 0 x _ _ hq).trans ?_⟩
  · intro i j a b hi n1 n2 hk ha hb
    have la := (List.getElem?_eq_some_iff.mp ha).1
    have lb := (List.getElem?_eq_some_iff.mp hb).1
    rw [List.length_append, List.length_singleton] at la lb
    rw [List.getElem?_append_left (by (first | lia | omega))] at ha hb
    exact H i j a b hi hk ha hb
  · rw [List.set_append_right _ _ (Nat.le_refl _), Nat.sub_self]
    exact List.perm_append_singleton x ks
theorem heap_least {κ : Type} {lt : κ → κ → Bool} (T : Tot lt) {ks : List κ} {y : κ} (H : HeapFrom lt 0 ks) (hy : ks[0]? = some y) : ∀ b ∈ ks, lt b y = false := by
  have key : ∀ (i : Nat) (b : κ), ks[i]? = some b → lt b y = false := by
    intro i
    induction i using Nat.strongRecOn with
    | ind i ih =>
      intro b hb
      rcases Nat.eq_zero_or_pos i with rfl | h
      · rw [hy] at hb; cases hb; exact T.irr _
      · obtain ⟨_, k⟩ := (Desc.zero i).up h
        have hl := (List.getElem?_eq_some_iff.mp hb).1
        have e := List.getElem?_eq_getElem (l := ks) (i := (i - 1) / 2) (by (first | lia | omega))
        exact T.tr _ _ _ (ih _ (by (first | lia | omega)) _ e) (H _ _ _ _ (Nat.zero_le _) k e hb)
  intro b hb
  obtain ⟨i, hi, rfl⟩ := List.mem_iff_getElem.mp hb
  exact key i _ (List.getElem?_eq_getElem hi)
theorem hpop_heap {κ : Type} {lt : κ → κ → Bool} (T : Tot lt) {ks k : List κ} {y : κ} (H : HeapFrom lt 0 ks) (hp : hpop lt ks = some (y, k)) : HeapFrom lt 0 k ∧ (y :: k).Perm ks ∧ ∀ b ∈ ks, lt b y = false := by
  cases hx : ks.getLast? with
  | none => unfold hpop at hp; rw [hx] at hp; cases hp
  | some x =>
    have e := split_last hx
    unfold hpop at hp
    rw [hx] at hp
    cases hd : ks.dropLast with
    | nil =>
      rw [hd] at hp e
      simp only [Option.some.injEq, Prod.mk.injEq] at hp
      obtain ⟨rfl, rfl⟩ := hp
      subst e
      refine ⟨fun i j a b _ _ ha _ => by simp at ha, .rfl, fun b hb => ?_⟩
      rw [List.nil_append, List.mem_singleton] at hb
      subst hb; exact T.irr _
    | cons z r =>
      rw [hd] at hp e
      simp only [Option.some.injEq, Prod.mk.injEq] at hp
      obtain ⟨rfl, rfl⟩ := hp
      subst e
      have H1 : HeapFrom lt 1 (x :: r) := by
        intro i j a b hi hk ha hb
        have la := (List.getElem?_eq_some_iff.mp ha).1
        have lb := (List.getElem?_eq_some_iff.mp hb).1
        have tr : ∀ i, 1 ≤ i → i < (x :: r).length → (z :: r ++ [x])[i]? = (x :: r)[i]? := by
          intro i h1 h2
          obtain ⟨i, rfl⟩ : ∃ m, i = m + 1 := ⟨i - 1, by (first | lia | omega)⟩
          rw [List.cons_append, List.getElem?_cons_succ, List.getElem?_cons_succ, List.getElem?_append_left (by simpa using h2)]
        exact H i j a b (Nat.zero_le _) hk (by rw [tr i hi la]; exact ha) (by rw [tr j (by rcases hk with h | h <;> (first | lia | omega)) lb]; exact hb)
      obtain ⟨g1, g2⟩ := siftup_heap T x 0 (x :: r) (by simp) H1
      refine ⟨g1, ((g2.trans (by rw [List.set_cons_zero])).cons z).trans ?_, heap_least T H rfl⟩
      rw [List.cons_append]
      exact (List.perm_append_singleton x r).symm.cons z
theorem hify_heap {κ : Type} {lt : κ → κ → Bool} (T : Tot lt) : ∀ n (ks : List κ), n ≤ ks.length → HeapFrom lt n ks → HeapFrom lt 0 (hify lt n ks) ∧ (hify lt n ks).Perm ks
  | 0, ks, _, H => ⟨H, .rfl⟩
  | n + 1, ks, hn, H => by
    have e := List.getElem?_eq_getElem (l := ks) (i := n) (by (first | lia | omega))
    rw [hify_step e]
    obtain ⟨g1, g2⟩ := siftup_heap T ks[n] n ks (by (first | lia | omega)) H
    rw [List.set_getElem_self] at g2
    obtain ⟨r1, r2⟩ := hify_heap T n _ (by rw [g2.length_eq]; (first | lia | omega)) g1
    exact ⟨r1, r2.trans g2⟩
theorem half_heap {κ : Type} {lt : κ → κ → Bool} (ks : List κ) : HeapFrom lt (ks.length / 2) ks := by
  intro i j a b hi hk ha hb
  have lb := (List.getElem?_eq_some_iff.mp hb).1
  rcases hk with h | h <;> (first | lia | omega)
theorem popN_heap {κ : Type} {lt : κ → κ → Bool} (T : Tot lt) {ks : List κ} (H : HeapFrom lt 0 ks) : ∀ n, HeapFrom lt 0 (popN lt ks n).2 ∧ ((popN lt ks n).1 ++ (popN lt ks n).2).Perm ks ∧
    (∀ a ∈ (popN lt ks n).1, ∀ b ∈ (popN lt ks n).2, lt b a = false) ∧ (popN lt ks n).1.Pairwise (fun a b => lt b a = false)
  | 0 => ⟨H, .rfl, fun a ha => by simp [popN] at ha, by simp [popN]⟩
  | n + 1 => by
    obtain ⟨h1, h2, h3, h4⟩ := popN_heap T H n
    unfold popN
    split
    · rename_i y k hp
      obtain ⟨g1, g2, g3⟩ := hpop_heap T h1 hp
      have yin : y ∈ (popN lt ks n).2 := g2.subset (List.mem_cons_self ..)
      refine ⟨g1, ?_, ?_, ?_⟩
      · rw [List.append_assoc, List.singleton_append]
        exact (g2.append_left _).trans h2
      · intro a ha b hb
        have bin := g2.subset (List.mem_cons_of_mem y hb)
        rcases List.mem_append.mp ha with ha | ha
        · exact h3 a ha b bin
        · rw [List.mem_singleton] at ha; subst ha
          exact g3 b bin
      · rw [List.pairwise_append]
        refine ⟨h4, List.pairwise_singleton _ _, fun a ha b hb => ?_⟩
        rw [List.mem_singleton] at hb; subst hb
        exact h3 a ha _ yin
    · exact ⟨h1, h2, h3, h4⟩
end
section
section
variable {prog : Program} {w : World} {A : Around} {E : Value → Shared → Prop} {p : Program} {loose : List Str} {mean : ExcName → Option Value} {mg mb : Str → Option Value} {g h : Heap} {ge : Array GenState} {dr : Drawn} {tk : Nat} {os : OsState}
  {L : Addr} {m : Str → Option Value} {news : List (Addr × Obj)} {Q : Value → Shared → Prop}
theorem FB.grow (f : FB w p loose mean mg mb g L h m news) {h' : Heap} {l : Addr} {o : Obj} (k : ∀ a o, h.get? a = some o → h'.get? a = some o) (hn : h.get? l = none) (hl : h'.get? l = some o) :
    FB w p loose mean mg mb g L h' m ((l, o) :: news) ∧ (∀ q ∈ news, q.1 ≠ l) := by
  refine ⟨(f.all k).cons hl ?_ ?_, fun q hq e => ?_⟩
  · obtain ⟨oL, _, _, hL, _⟩ := f.ns
    rintro rfl; rw [hn] at hL; cases hL
  · cases e : g.get? l with
    | none => rfl
    | some o => rw [f.keep _ _ e] at hn; cases hn
  · have := (f.N q hq).1
    rw [e, hn] at this; cases this
end
end
section
theorem lit_ne {h : Heap} {I l : Addr} {i : Nat} (hi : h.IsListIter I l i) : ∃ o, h.get? I = some o ∧ ∀ vs, o ≠ tupO vs := by
  obtain ⟨o, ho, hc, _⟩ := hi
  exact ⟨o, ho, ne_tup (by rw [hc]; show (Value.type "list_iterator" == Value.type "tuple") = false; decide +kernel)⟩
section
variable {prog : Program} {w : World} {A : Around} {E : Value → Shared → Prop} {p : Program} {loose : List Str} {mean : ExcName → Option Value} {mg mb : Str → Option Value} {g h : Heap} {ge : Array GenState} {dr : Drawn} {tk : Nat} {os : OsState}
  {L : Addr} {m : Str → Option Value} {news : List (Addr × Obj)} {env : Env}
theorem mi_listK {l : Addr} {items : Array Value} {Q : Value → Shared → Prop} (f : FB w p loose mean mg mb g L h m news) (hl : h.IsList l items)
    (q : ∀ I h', FB w p loose mean mg mb g L h' m news → Off g L news I → h'.IsListIter I l 0 → h'.IsList l items → l ≠ I → (∀ a o, h.get? a = some o → h'.get? a = some o) → Q (.ref I) ⟨h', ge, dr, tk, os⟩) : wpAny (model prog w) A (pyIter (.ref l)) Q E ⟨h, ge, dr, tk, os⟩ := by
  refine wpAny_pyIter_list (s := ⟨h, ge, dr, tk, os⟩) hl ?_
  obtain ⟨f1, e1, e2, e3, e4⟩ := f.fresh { cls := .type "list_iterator", data := .fields #[.ref l, .int 0 0] }
  obtain ⟨o, ho, _⟩ := id hl
  exact q _ _ f1 ⟨e2, e3, e4⟩ ⟨_, e1, rfl, rfl⟩ (hl.push _) (Nat.ne_of_lt (Heap.lt_size ho)) (fun a o e => Heap.get?_push_of_some _ e)
/-- the frame's map after a store -/
noncomputable abbrev setM (m : Str → Option Value) (x : Str) (v : Value) : Str → Option Value := fun y => if y = x then some v else m y
theorem mw_stK {x : Str} {v : Value} {Q : Unit → Shared → Prop} (f : FB w p loose mean mg mb g env.locals h m news) (q : ∀ h' tk', FB w p loose mean mg mb g env.locals h' (setM m x v) news → TK h h' → Q () ⟨h', ge, dr, tk', os⟩)
    (hl : env.kindOf x = some .local) (hp : (env.scope.kind == .class || (env.scope.kind == .module && env.locals != env.globals)) = false) : wpAny (model prog w) A (storeName env x v) Q E ⟨h, ge, dr, tk, os⟩ :=
  wpAny_storeName_local hl f.ns (fun h' hn hs => q h' _ (f.loc hn hs) (TK.of_ch (Ch.of_same hs) fun r hr vs e => by
    rw [List.mem_singleton] at hr; subst hr
    obtain ⟨oL, es, ep, hL, hd, _⟩ := f.ns
    rw [hL] at e; cases e; cases hd)) hp
theorem mw_asgK {x : Str} {pos : Pos} {v : Value} {Q : Unit → Shared → Prop} (f : FB w p loose mean mg mb g env.locals h m news) (q : ∀ h' tk', FB w p loose mean mg mb g env.locals h' (setM m x v) news → TK h h' → Q () ⟨h', ge, dr, tk', os⟩)
    (hl : env.kindOf x = some .local) (hp : (env.scope.kind == .class || (env.scope.kind == .module && env.locals != env.globals)) = false) : wpAny (model prog w) A (assign (.Name x pos) env v) Q E ⟨h, ge, dr, tk, os⟩ :=
  wpAny_assign_Name (mw_stK f q hl hp)
/-- a for by a name over a list of the base -/
theorem for_list {R : Result → Shared → Prop} {x : Str} {px : Pos} {body : List Stmt} {l : Addr} {vs : List Value} {c : Nat} (hh : A.handled = none)
    (J : Nat → Heap → (Str → Option Value) → List (Addr × Obj) → Prop)
    (hJ : ∀ i h h' m news, TK h h' → J i h m news → J i h' m news)
    (hnt : ∀ i h m news, J i h m news → ∀ q ∈ news, ∀ vs, q.2 ≠ tupO vs)
    (f : FB w p loose mean mg mb g env.locals h m news) (hl : g.get? l = some (listOf vs.toArray c)) (hj : J 0 h m news)
    (hk : env.kindOf x = some .local) (hp : (env.scope.kind == .class || (env.scope.kind == .module && env.locals != env.globals)) = false)
    (turn : ∀ i v g' h tk m news, vs[i]? = some v → J i h m news → FB w p loose mean mg mb g' env.locals h (setM m x v) news → g.StaysIn g' →
      wpAny (model prog w) A (execs body env) (fun fl s₃ => match fl with
          | .next | .cont => ∃ h' tk' m' news', s₃ = ⟨h', ge, dr, tk', os⟩ ∧ FB w p loose mean mg mb g' env.locals h' m' news' ∧ J (i + 1) h' m' news'
          | .brk => R (.ok .next) s₃
          | .ret v => R (.ok (.ret v)) s₃) (fun _ _ => False) ⟨h, ge, dr, tk, os⟩)
    (fin : ∀ h tk m news, J vs.length h m news → FB w p loose mean mg mb g env.locals h m news → R (.ok .next) ⟨h, ge, dr, tk, os⟩) :
    wpAny (model prog w) A (pyIter (.ref l)) (fun it s₂ => codeAny (model prog w) A (.forLoop (.Name x px) it body [] env) R s₂) E ⟨h, ge, dr, tk, os⟩ := by
  refine mi_listK f (isList_of (f.keep _ _ hl)) ?_
  intro I h2 f2 of2 it2 li2 nI k2
  refine for_fb (Walks.list (prog := prog) (w := w) hh I l nI vs.toArray) (fun i h hi => lit_ne hi.1) J hJ hnt f2 of2.n of2.l of2.g ?_ ⟨it2, li2⟩ (hJ _ _ _ _ _ (TK.of_keep k2) hj) ?_ ?_
  · intro b hb
    rcases List.mem_cons.mp hb with rfl | hb
    · exact .inl rfl
    · rw [List.mem_singleton] at hb; subst hb
      exact .inr ⟨_, hl⟩
  · intro i v g' h3 tk3 m3 news3 hi hv hj3 f3 st3 t3
    refine mw_goN (mw_asgK f3 ?_ hk hp)
    intro h4 tk4 f4 t4
    exact turn i v g' h4 tk4 m3 news3 (by simpa using hv) (hJ _ _ _ _ _ t4 hj3) f4 st3
  · intro h3 tk3 m3 news3 hj3 f3
    refine fin h3 tk3 m3 news3 ?_ f3
    simpa using hj3
/-- a comprehension of one clause by a name -/
theorem comp_walk {elt iter : Expr} {x : Str} {px : Pos} {ifs : List Expr} {scope : Scope} {cl : List (Str × Addr)} {pos : Pos} {Q : Value → Shared → Prop} {I : Addr} {fp : List Addr} {n : Nat} {P : Nat → Value → Prop} {St : Nat → Heap → Prop}
    (W : Walks prog w A I fp [I] n P St) (hI : ∀ i h, St i h → ∃ o, h.get? I = some o ∧ ∀ vs, o ≠ tupO vs)
    (J : Nat → Heap → List Value → List (Addr × Obj) → Prop)
    (hJ : ∀ i h h' acc news, TK h h' → J i h acc news → J i h' acc news)
    (hnt : ∀ i h acc news, J i h acc news → ∀ q ∈ news, ∀ vs, q.2 ≠ tupO vs) (hlen : ∀ i h acc news, J i h acc news → acc.length ≤ i) (hz : n ≤ 1000000)
    (f : FB w p loose mean mg mb g L h m news) (of : Off g L news I) (hfp : ∀ b ∈ fp, b = I ∨ ∃ o, g.get? b = some o) (hst : St 0 h) (hframe : ∀ h', (∀ a o, h.get? a = some o → h'.get? a = some o) → St 0 h') (hj : J 0 h [] news)
    (hcell : ∀ y ∈ scope.names, y.2 ≠ .cell) (hkind : scope.kind = .function)
    (hk : ∀ C, (compEnvC scope cl C env).kindOf x = some .local) (hp : ∀ C, ((compEnvC scope cl C env).scope.kind == .class || ((compEnvC scope cl C env).scope.kind == .module && (compEnvC scope cl C env).locals != (compEnvC scope cl C env).globals)) = false)
    (hloc : ∀ C, (compEnvC scope cl C env).locals = C)
    (turn : ∀ i v g' C h tk m acc news, i < n → P i v → J i h acc news → FB w p loose mean mg mb g' C h (setM m x v) news → g.StaysIn g' →
      wpAny (model prog w) A (compTests ifs (compEnvC scope cl C env)) (fun ok s₃ => if ok = true then
          wpAny (model prog w) A (eval elt (compEnvC scope cl C env)) (fun u s₄ => ∃ h' tk' m' news', s₄ = ⟨h', ge, dr, tk', os⟩ ∧ FB w p loose mean mg mb g' C h' m' news' ∧ J (i + 1) h' (acc ++ [u]) news') (fun _ _ => False) s₃
        else ∃ h' tk' m' news', s₃ = ⟨h', ge, dr, tk', os⟩ ∧ FB w p loose mean mg mb g' C h' m' news' ∧ J (i + 1) h' acc news') (fun _ _ => False) ⟨h, ge, dr, tk, os⟩)
    (fin : ∀ D h tk acc c news, J n h acc news → FB w p loose mean mg mb g L h m ((D, listOf acc.toArray c) :: news) → (∀ q ∈ news, q.1 ≠ D) → Q (.ref D) ⟨h, ge, dr, tk, os⟩) :
    wpAny (model prog w) A (newList []) (fun acc s₃ =>
      wpAny (model prog w) A (newFunctionEnv scope env.globals cl [] env.qual none .none (some env)) (fun cenv s₄ =>
        codeAny (model prog w) A (.compStart (.ListComp elt [⟨.Name x px, iter, ifs, 0⟩] scope pos) 0 (.ref I) acc { cenv with scope := relabel scope env }) (compPost (model prog w) A E none Q acc cenv.locals) s₄) E s₃) E ⟨h, ge, dr, tk, os⟩ := by
  refine comp_enter f of.l of.g of.n (hI _ _ hst) (hnt _ _ _ _ hj) hcell hkind ?_
  intro g1 D C h1 tk1 f1 st1 ch1 t1 k1 hIC hID hIg hDn
  have hCl := hloc C
  generalize hce : compEnvC scope cl C env = cenv at *
  subst hCl
  refine comp1_go W hI (fun i h m news0 => ∃ acc c news, news0 = (D, listOf acc.toArray c) :: news ∧ J i h acc news ∧ ∀ q ∈ news, q.1 ≠ D) ?hJ ?hnt f1 ?hIn hIC hIg ?hfp (hframe _ k1) ⟨[], 0, news, rfl, hJ _ _ _ _ _ (TK.of_keep k1) hj, fun q hq e => ?_⟩ ?turn ?fin
  case hJ =>
    rintro i h h' m news0 t ⟨acc, c, news, rfl, j, e⟩
    exact ⟨acc, c, news, rfl, hJ _ _ _ _ _ t j, e⟩
  case hnt =>
    rintro i h m news0 ⟨acc, c, news, rfl, j, e⟩ q hq
    rcases List.mem_cons.mp hq with rfl | hq
    · exact lst_ne _ _
    · exact hnt _ _ _ _ j q hq
  case hIn =>
    intro hm
    rcases List.mem_cons.mp hm with hm | hm
    · exact hID hm
    · exact of.n hm
  case hfp =>
    intro b hb
    rcases hfp b hb with rfl | ⟨o, ho⟩
    · exact .inl rfl
    · exact .inr ⟨o, st1 _ _ ho⟩
  · have := (f.N q hq).1
    rw [e, hDn] at this; cases this
  case turn =>
    rintro i v g2 h2 tk2 m2 news0 hi hv ⟨acc, c, news2, rfl, j2, e2⟩ f2 st2 t2
    unfold CompT
    have hk' : cenv.kindOf x = some .local := by rw [← hce]; exact hk _
    have hp' := hp cenv.locals
    rw [hce] at hp'
    refine mw_goN (mw_asgK f2 ?_ hk' hp')
    intro h3 tk3 f3 t3
    obtain ⟨g3, f4, st4, ch4, t4⟩ := f3.rebase (news' := news2) (fun q hq => .tail _ hq) (hnt _ _ _ _ j2)
    have hD4 : g3.get? D = some (listOf acc.toArray c) := by
      refine ch4 _ _ ?_ (f3.at_ (.head _))
      intro hm
      rcases List.mem_cons.mp hm with hm | hm
      · exact (f3.N _ (.head _)).2.1 hm
      · obtain ⟨q, hq, e⟩ := List.mem_map.mp hm
        exact e2 q hq e
    have tn := turn i v g3 cenv.locals h3 tk3 m2 acc news2 hi hv (hJ _ _ _ _ _ t3 j2) f4 (fun a o e => st4 _ _ (st2 _ _ (st1 _ _ e)))
    rw [hce] at tn
    have ap : ∀ {h' m' news'}, FB w p loose mean mg mb g3 cenv.locals h' m' news' → ∀ q ∈ news', q.1 ≠ D := fun f q hq e => by
      have := f.new_ hq
      rw [show q.1 = D from e, hD4] at this; cases this
    have bk : ∀ {h' m' news'}, FB w p loose mean mg mb g3 cenv.locals h' m' news' → FB w p loose mean mg mb g2 cenv.locals h' m' ((D, listOf acc.toArray c) :: news') := fun f =>
      (f.back st4 f2.B).cons (f.keep _ _ hD4) (f3.N _ (.head _)).2.1 (f3.N _ (.head _)).2.2
    refine wpAny_mono tn (fun ok s₃ x => ?_) fun _ _ e => e
    cases ok with
    | false =>
      simp only [Bool.false_eq_true, if_false] at x ⊢
      obtain ⟨h', tk', m', news', rfl, f5, j5⟩ := x
      exact ⟨h', tk', m', _, rfl, bk f5, acc, c, news', rfl, j5, ap f5⟩
    | true =>
      simp only [if_true] at x ⊢
      unfold emitP
      refine wpAny_mono x (fun u s₄ y => ?_) fun _ _ e => e
      obtain ⟨h', tk', m', news', rfl, f5, j5⟩ := y
      have hl := hlen _ _ _ _ j2
      refine ml_pushG (news' := (D, listOf (acc ++ [u]).toArray (c + 1)) :: news') (bk f5) (.head _) (fun q hq => ?_) (by rw [sizeLine_eq]; (first | lia | omega)) ?_
      · rcases List.mem_cons.mp hq with rfl | hq
        · exact .inr rfl
        · exact .inl ⟨.tail _ hq, ap f5 q hq⟩
      intro h6 f6 t6
      exact ⟨h6, tk', m', _, rfl, f6, _, _, news', rfl, hJ _ _ _ _ _ t6 j5, ap f5⟩
  case fin =>
    rintro h2 tk2 m2 news0 ⟨acc, c, news2, rfl, j2, e2⟩ f2
    refine ⟨_, _, _, _, rfl, f2, fun h3 f3 t3 => fin D h3 tk2 acc c news2 (hJ _ _ _ _ _ t3 j2) f3 e2⟩
/-- over a list of the base -/
theorem comp_list {elt iter : Expr} {x : Str} {px : Pos} {ifs : List Expr} {scope : Scope} {cl : List (Str × Addr)} {pos : Pos} {Q : Value → Shared → Prop} {l : Addr} {vs : List Value} {c : Nat} (hh : A.handled = none)
    (J : Nat → Heap → List Value → List (Addr × Obj) → Prop)
    (hJ : ∀ i h h' acc news, TK h h' → J i h acc news → J i h' acc news)
    (hnt : ∀ i h acc news, J i h acc news → ∀ q ∈ news, ∀ vs, q.2 ≠ tupO vs) (hlen : ∀ i h acc news, J i h acc news → acc.length ≤ i) (hz : vs.length ≤ 1000000)
    (f : FB w p loose mean mg mb g L h m news) (hl : g.get? l = some (listOf vs.toArray c)) (hj : J 0 h [] news)
    (hcell : ∀ y ∈ scope.names, y.2 ≠ .cell) (hkind : scope.kind = .function)
    (hk : ∀ C, (compEnvC scope cl C env).kindOf x = some .local) (hp : ∀ C, ((compEnvC scope cl C env).scope.kind == .class || ((compEnvC scope cl C env).scope.kind == .module && (compEnvC scope cl C env).locals != (compEnvC scope cl C env).globals)) = false)
    (hloc : ∀ C, (compEnvC scope cl C env).locals = C)
    (turn : ∀ i v g' C h tk m acc news, vs[i]? = some v → J i h acc news → FB w p loose mean mg mb g' C h (setM m x v) news → g.StaysIn g' →
      wpAny (model prog w) A (compTests ifs (compEnvC scope cl C env)) (fun ok s₃ => if ok = true then
          wpAny (model prog w) A (eval elt (compEnvC scope cl C env)) (fun u s₄ => ∃ h' tk' m' news', s₄ = ⟨h', ge, dr, tk', os⟩ ∧ FB w p loose mean mg mb g' C h' m' news' ∧ J (i + 1) h' (acc ++ [u]) news') (fun _ _ => False) s₃
        else ∃ h' tk' m' news', s₃ = ⟨h', ge, dr, tk', os⟩ ∧ FB w p loose mean mg mb g' C h' m' news' ∧ J (i + 1) h' acc news') (fun _ _ => False) ⟨h, ge, dr, tk, os⟩)
    (fin : ∀ D h tk acc c news, J vs.length h acc news → FB w p loose mean mg mb g L h m ((D, listOf acc.toArray c) :: news) → (∀ q ∈ news, q.1 ≠ D) → Q (.ref D) ⟨h, ge, dr, tk, os⟩) :
    wpAny (model prog w) A (pyIter (.ref l)) (fun it s₂ => wpAny (model prog w) A (newList []) (fun acc s₃ =>
      wpAny (model prog w) A (newFunctionEnv scope env.globals cl [] env.qual none .none (some env)) (fun cenv s₄ =>
        codeAny (model prog w) A (.compStart (.ListComp elt [⟨.Name x px, iter, ifs, 0⟩] scope pos) 0 it acc { cenv with scope := relabel scope env }) (compPost (model prog w) A E none Q acc cenv.locals) s₄) E s₃) E s₂) E ⟨h, ge, dr, tk, os⟩ := by
  refine mi_listK f (isList_of (f.keep _ _ hl)) ?_
  intro I h2 f2 of2 it2 li2 nI k2
  refine comp_walk (Walks.list (prog := prog) (w := w) hh I l nI vs.toArray) (fun i h hi => lit_ne hi.1) J hJ hnt hlen (by simpa using hz) f2 of2 ?_ ⟨it2, li2⟩ (fun h' k => ⟨it2.at fun o e => k _ _ e, li2.at fun o e => k _ _ e⟩) (hJ _ _ _ _ _ (TK.of_keep k2) hj) hcell hkind hk hp hloc ?_ ?_
  · intro b hb
    rcases List.mem_cons.mp hb with rfl | hb
    · exact .inl rfl
    · rw [List.mem_singleton] at hb; subst hb
      exact .inr ⟨_, hl⟩
  · intro i v g' C h3 tk3 m3 acc news3 hi hv
    exact turn i v g' C h3 tk3 m3 acc news3 (by simpa using hv)
  · intro D h3 tk3 acc c3 news3 hj3
    exact fin D h3 tk3 acc c3 news3 (by simpa using hj3)
/-- over range(n) -/
theorem comp_range {elt iter : Expr} {x : Str} {px : Pos} {ifs : List Expr} {scope : Scope} {cl : List (Str × Addr)} {pos : Pos} {Q : Value → Shared → Prop} {n : Nat} {t : Tok} (hh : A.handled = none)
    (J : Nat → Heap → List Value → List (Addr × Obj) → Prop)
    (hJ : ∀ i h h' acc news, TK h h' → J i h acc news → J i h' acc news)
    (hnt : ∀ i h acc news, J i h acc news → ∀ q ∈ news, ∀ vs, q.2 ≠ tupO vs) (hlen : ∀ i h acc news, J i h acc news → acc.length ≤ i) (hz : n ≤ 1000000)
    (f : FB w p loose mean mg mb g L h m news) (hj : J 0 h [] news)
    (hcell : ∀ y ∈ scope.names, y.2 ≠ .cell) (hkind : scope.kind = .function)
    (hk : ∀ C, (compEnvC scope cl C env).kindOf x = some .local) (hp : ∀ C, ((compEnvC scope cl C env).scope.kind == .class || ((compEnvC scope cl C env).scope.kind == .module && (compEnvC scope cl C env).locals != (compEnvC scope cl C env).globals)) = false)
    (hloc : ∀ C, (compEnvC scope cl C env).locals = C)
    (turn : ∀ i t g' C h tk m acc news, i < n → J i h acc news → FB w p loose mean mg mb g' C h (setM m x (.int ((i : Nat) : Int) t)) news → g.StaysIn g' →
      wpAny (model prog w) A (compTests ifs (compEnvC scope cl C env)) (fun ok s₃ => if ok = true then
          wpAny (model prog w) A (eval elt (compEnvC scope cl C env)) (fun u s₄ => ∃ h' tk' m' news', s₄ = ⟨h', ge, dr, tk', os⟩ ∧ FB w p loose mean mg mb g' C h' m' news' ∧ J (i + 1) h' (acc ++ [u]) news') (fun _ _ => False) s₃
        else ∃ h' tk' m' news', s₃ = ⟨h', ge, dr, tk', os⟩ ∧ FB w p loose mean mg mb g' C h' m' news' ∧ J (i + 1) h' acc news') (fun _ _ => False) ⟨h, ge, dr, tk, os⟩)
    (fin : ∀ D h tk acc c news, J n h acc news → FB w p loose mean mg mb g L h m ((D, listOf acc.toArray c) :: news) → (∀ q ∈ news, q.1 ≠ D) → Q (.ref D) ⟨h, ge, dr, tk, os⟩) :
    wpAny (model prog w) A (call (.type "range") [.int ((n : Nat) : Int) t]) (fun x₁ s₁ => wpAny (model prog w) A (pyIter x₁) (fun it s₂ => wpAny (model prog w) A (newList []) (fun acc s₃ =>
      wpAny (model prog w) A (newFunctionEnv scope env.globals cl [] env.qual none .none (some env)) (fun cenv s₄ =>
        codeAny (model prog w) A (.compStart (.ListComp elt [⟨.Name x px, iter, ifs, 0⟩] scope pos) 0 it acc { cenv with scope := relabel scope env }) (compPost (model prog w) A E none Q acc cenv.locals) s₄) E s₃) E s₂) E s₁) E ⟨h, ge, dr, tk, os⟩ := by
  refine call_range_1 (s := ⟨h, ge, dr, tk, os⟩) ?_
  have kr : ∀ a o, h.get? a = some o → (h.push (rangeO 0 n 1 tk t (tk + 1))).get? a = some o := fun a o e => Heap.get?_push_of_some _ e
  have fr := f.push (rangeO 0 n 1 tk t (tk + 1))
  refine wpAny_pyIter_range (s := ⟨h.push (rangeO 0 n 1 tk t (tk + 1)), ge, dr, _, os⟩) (fr.at_ (.head _)) (small_one (by (first | lia | omega)) (by (first | lia | omega)) (by (first | lia | omega)) (by (first | lia | omega))) ?_
  obtain ⟨f1, e1, e2, e3, e4⟩ := fr.fresh { cls := .type "range_iterator", data := .fields #[rawInt 0, rawInt (Builtin.Range.rangeSize 0 n 1), rawInt 1] }
  rw [rangeSize_one] at e1
  have e : (if (0 : Int) < (n : Nat) then ((n : Nat) : Int) - 0 else 0) = (n : Nat) := by split <;> (first | lia | omega)
  rw [e] at e1
  rw [rangeSize_one, e]
  have k2 : ∀ a o, (h.push (rangeO 0 n 1 tk t (tk + 1))).get? a = some o → ((h.push (rangeO 0 n 1 tk t (tk + 1))).push { cls := .type "range_iterator", data := .fields #[rawInt 0, rawInt ((n : Nat) : Int), rawInt 1] }).get? a = some o := fun a o e => Heap.get?_push_of_some _ e
  have f2 := (f.all kr).all k2
  generalize hI : (h.push (rangeO 0 n 1 tk t (tk + 1))).objs.size = I at *
  refine comp_walk (Walks.range (prog := prog) (w := w) hh I 0 1 n) (fun i h hi => ⟨_, hi, rit_ne _⟩) J hJ hnt hlen hz f2 ⟨fun hm => e2 (List.mem_cons_of_mem _ hm), e3, e4⟩ (fun b hb => .inl (by simpa using hb)) (by simpa using e1) (fun h' k => by simpa using k _ _ e1) (hJ _ _ _ _ _ (TK.of_keep fun a o e => k2 _ _ (kr _ _ e)) hj) hcell hkind hk hp hloc ?_ fin
  rintro i v g' C h3 tk3 m3 acc news3 hi ⟨t7, rfl⟩
  rw [show (0 : Int) + (i : Int) * 1 = ((i : Nat) : Int) by (first | lia | omega)]
  exact turn i t7 g' C h3 tk3 m3 acc news3 hi
end
end
section
theorem RelL.append {κ : Type} {R : Value → κ → Prop} {a b : List Value} {x y : List κ} (h1 : RelL R a x) (h2 : RelL R b y) : RelL R (a ++ b) (x ++ y) := by
  refine ⟨by simp [h1.1, h2.1], fun j v k hv hk => ?_⟩
  by_cases e : j < a.length
  · rw [List.getElem?_append_left e] at hv
    rw [List.getElem?_append_left (h1.1 ▸ e)] at hk
    exact h1.2 j v k hv hk
  · rw [List.getElem?_append_right (Nat.le_of_not_lt e)] at hv
    rw [List.getElem?_append_right (by rw [← h1.1]; exact Nat.le_of_not_lt e), ← h1.1] at hk
    exact h2.2 _ v k hv hk
theorem keyAt_nodup {κ : Type} {D : List (Nat × κ)} (hn : (D.map (·.1)).Nodup) {i : Nat} {d : Nat × κ} (hd : D[i]? = some d) : keyAt D d.1 = some i := by
  have hi := (List.getElem?_eq_some_iff.mp hd).1
  cases hk : keyAt D d.1 with
  | none =>
    have := List.findIdx?_eq_none_iff.mp hk d (List.mem_of_getElem? hd)
    simp at this
  | some j =>
    obtain ⟨d', hd', e⟩ := keyAt_lt hk
    have hj := (List.getElem?_eq_some_iff.mp hd').1
    have : j = i := (List.getElem?_inj (l := D.map (·.1)) (by simpa using hj) hn).mp (by rw [List.getElem?_map, List.getElem?_map, hd, hd']; simp [e])
    rw [this]
/-- the lists of the book, in its order -/
noncomputable def BookV.lists (bk : BookV) (i : Nat) : List Value := (bk.rows[i]?.map Row.vals).getD []
section
variable {prog : Program} {w : World} {A : Around} {E : Value → Shared → Prop} {p : Program} {loose : List Str} {mean : ExcName → Option Value} {mg mb : Str → Option Value} {g h : Heap} {ge : Array GenState} {dr : Drawn} {tk : Nat} {os : OsState}
  {L : Addr} {m : Str → Option Value} {news : List (Addr × Obj)} {env : Env}
end
end
section
section
variable {w : World} {p : Program} {loose : List Str} {mean : ExcName → Option Value} {mg mb : Str → Option Value} {g h h' : Heap} {L : Addr} {m : Str → Option Value} {news news' : List (Addr × Obj)}
/-- some addresses are changed: what stays known -/
theorem FB.chgs {S : List Addr} (f : FB w p loose mean mg mb g L h m news) (C : Ch S h h') (hS : ∀ a ∈ S, ∃ o, (a, o) ∈ news)
    (hn : ∀ q ∈ news', (q ∈ news ∧ q.1 ∉ S) ∨ (h'.get? q.1 = some q.2 ∧ (q.1 ∈ S ∨ h.get? q.1 = none))) : FB w p loose mean mg mb g L h' m news' := by
  obtain ⟨oL, es, ep, hL, r⟩ := f.ns
  have nL : L ∉ S := fun hm => by obtain ⟨o, ho⟩ := hS _ hm; exact (f.N _ ho).2.1 rfl
  refine ⟨⟨oL, es, ep, C _ _ nL hL, r⟩, fun b x e => C _ _ (fun hm => ?_) (f.keep b x e), f.out, fun q hq => ?_, f.B⟩
  · obtain ⟨o, ho⟩ := hS _ hm
    have := f.new_ ho
    rw [e] at this; cases this
  · rcases hn q hq with ⟨h1, h2⟩ | ⟨h1, h2 | h2⟩
    · exact ⟨C _ _ h2 (f.N q h1).1, (f.N q h1).2⟩
    · obtain ⟨o, ho⟩ := hS _ h2
      exact ⟨h1, (f.N _ ho).2⟩
    · refine ⟨h1, ?_, ?_⟩
      · intro e; rw [e, hL] at h2; cases h2
      · cases e : g.get? q.1 with
        | none => rfl
        | some o => rw [f.keep _ _ e] at h2; cases h2
end
/-- the book is changed, the rest beside it stands -/
theorem book_chgs {w : World} {p : Program} {loose : List Str} {mean : ExcName → Option Value} {mg mb : Str → Option Value} {g h h' : Heap} {L : Addr} {m : Str → Option Value} {extra : List (Addr × Obj)} {bk bk' : BookV} (f : FB w p loose mean mg mb g L h m (extra ++ bookN bk)) (ap : Apart extra bk)
    (C : Ch ((bookN bk).map (·.1)) h h') (hn : ∀ q ∈ bookN bk', h'.get? q.1 = some q.2 ∧ (q.1 ∈ (bookN bk).map (·.1) ∨ h.get? q.1 = none)) :
    FB w p loose mean mg mb g L h' m (extra ++ bookN bk') ∧ Apart extra bk' ∧ TK h h' := by
  refine ⟨f.chgs C (fun a ha => ?_) fun q hq => ?_, fun q hq q' hq' e => ?_, TK.of_ch C fun a ha vs e => ?_⟩
  · obtain ⟨q, hq, rfl⟩ := List.mem_map.mp ha
    exact ⟨q.2, List.mem_append_right _ hq⟩
  · rcases List.mem_append.mp hq with hq | hq
    · refine .inl ⟨List.mem_append_left _ hq, fun hm => ?_⟩
      obtain ⟨q', hq', e⟩ := List.mem_map.mp hm
      exact ap q hq q' hq' e.symm
    · exact .inr (hn q hq)
  · rcases (hn q' hq').2 with hm | hm
    · obtain ⟨q2, hq2, e2⟩ := List.mem_map.mp hm
      exact ap q hq q2 hq2 (e.trans e2.symm)
    · have := (f.N q (List.mem_append_left _ hq)).1
      rw [e, hm] at this; cases this
  · obtain ⟨q, hq, rfl⟩ := List.mem_map.mp ha
    rw [f.at_ (List.mem_append_right _ hq)] at e
    exact bookN_ne bk q hq vs (Option.some.inj e)
end
section
section
variable {prog : Program} {w : World} {A : Around} {E : Value → Shared → Prop} {p : Program} {loose : List Str} {mean : ExcName → Option Value} {mg mb : Str → Option Value} {g h : Heap} {ge : Array GenState} {dr : Drawn} {tk : Nat} {os : OsState}
  {L : Addr} {m : Str → Option Value} {news : List (Addr × Obj)} {env : Env} {s : Shared} {Q : Value → Shared → Prop}
theorem FB.pushed (f : FB w p loose mean mg mb g L h m news) (o : Obj) (hf : o.isFreed = false := by rfl) : FB w p loose mean mg mb g L (h.push o) m ((h.objs.size, o) :: news) ∧ (∀ q ∈ news, q.1 ≠ h.objs.size) ∧ (∀ a o', h.get? a = some o' → (h.push o).get? a = some o') :=
  ⟨f.push o hf, fun q hq e => absurd (f.lt q hq) (by rw [e]; exact Nat.lt_irrefl _), fun _ _ e => Heap.get?_push_of_some _ e⟩
theorem ml_newK {vs : List Value} (f : FB w p loose mean mg mb g L h m news) (hz : vs.length ≤ 1000000)
    (q : ∀ l h', FB w p loose mean mg mb g L h' m ((l, listOf vs.toArray 0) :: news) → (∀ q ∈ news, q.1 ≠ l) → (∀ a o, h.get? a = some o → h'.get? a = some o) → Q (.ref l) ⟨h', ge, dr, tk, os⟩) :
    wpAny (model prog w) A (newList vs) Q E ⟨h, ge, dr, tk, os⟩ := by
  obtain ⟨f1, n1, k1⟩ := f.pushed (listOf vs.toArray 0)
  exact wpAny_newObj_type (s := ⟨h, ge, dr, tk, os⟩) (q _ _ f1 n1 k1) (by show vs.toArray.size ≤ sizeLine; rw [List.size_toArray, sizeLine_eq]; (first | lia | omega))
theorem ml_tupK {vs : List Value} (f : FB w p loose mean mg mb g L h m news) (hz : vs.length ≤ 1000000)
    (q : ∀ l h', FB w p loose mean mg mb g L h' m ((l, tupO vs) :: news) → (∀ q ∈ news, q.1 ≠ l) → (∀ a o, h.get? a = some o → h'.get? a = some o) → Q (.ref l) ⟨h', ge, dr, tk, os⟩) :
    wpAny (model prog w) A (newTuple vs) Q E ⟨h, ge, dr, tk, os⟩ := by
  obtain ⟨f1, n1, k1⟩ := f.pushed (tupO vs)
  exact wpAny_newObj_type (s := ⟨h, ge, dr, tk, os⟩) (q _ _ f1 n1 k1) (by show vs.toArray.size ≤ sizeLine; rw [List.size_toArray, sizeLine_eq]; (first | lia | omega))
/-- list + list -/
theorem ml_add {l b : Addr} {vs ws : List Value} {n n2 : Nat} (f : FB w p loose mean mg mb g L h m news) (ho : h.get? l = some (listOf vs.toArray n)) (ho2 : h.get? b = some (listOf ws.toArray n2)) (hz : vs.length + ws.length ≤ 1000000)
    (q : ∀ D h', FB w p loose mean mg mb g L h' m ((D, listOf (vs ++ ws).toArray 0) :: news) → (∀ q ∈ news, q.1 ≠ D) → (∀ a o, h.get? a = some o → h'.get? a = some o) → Q (.ref D) ⟨h', ge, dr, tk, os⟩) :
    wpAny (model prog w) A (binaryOp .Add (.ref l) (.ref b)) Q E ⟨h, ge, dr, tk, os⟩ := by
  have e : vs.toArray ++ ws.toArray = (vs ++ ws).toArray := by simp
  refine concat_meets ⟨_, ho, rfl⟩ ⟨_, ho2, rfl⟩ noFill_list_add seq_list_add PySem.F.slot_list_add PySem.F.entry_list_add (PySem.F.args_list_add_2 _ _) (list_addW l b vs.toArray ws.toArray n n2 none none #[] #[] (by rw [sizeLine_eq]; simp; (first | lia | omega))) ⟨ho, ho2, ?_⟩
  rw [e]
  obtain ⟨f1, n1, k1⟩ := f.pushed (listOf (vs ++ ws).toArray 0)
  exact q _ _ f1 n1 k1
theorem ml_itemH {l : Addr} {vs : List Value} {n : Nat} {o i : Expr} {k : Int} {t : Tok} {v : Value} (hm : h.get? l = some (listOf vs.toArray n)) (h0 : 0 ≤ k) (hhi : k < 2 ^ 63) (hx : vs[k.toNat]? = some v) (q : Q v ⟨h, ge, dr, tk, os⟩)
    (hs : subscripted i false (.ref l) (.int k t) = operate [.ref l, .int k t] (getItem (.ref l) (.int k t))) : wpAny (model prog w) A (subscriptTail o i (.ref l) (.int k t)) Q E ⟨h, ge, dr, tk, os⟩ :=
  have hl := isList_of hm
  tail_any hl.typeIs slot_list_getitem.lookup (wpAny_getItem_list (s := ⟨h, ge, dr, tk, os⟩) hl h0 hhi (by simpa using hx) q) hs
end
end
section
section
variable {prog : Program} {w : World} {A : Around} {E : Value → Shared → Prop} {p : Program} {loose : List Str} {mean : ExcName → Option Value} {mg mb : Str → Option Value} {g h : Heap} {ge : Array GenState} {dr : Drawn} {tk : Nat} {os : OsState}
  {L : Addr} {m : Str → Option Value} {news : List (Addr × Obj)} {Q : Value → Shared → Prop}
theorem ml_sum {l : Addr} {vs : List Value} {ns : List Int} {n : Nat} (f : FB w p loose mean mg mb g L h m news) (hh : A.handled = none) (hl : h.get? l = some (listOf vs.toArray n)) (hi : IntsAre vs ns)
    (q : ∀ h' tk' t', FB w p loose mean mg mb g L h' m news → (∀ a o, h.get? a = some o → h'.get? a = some o) → Q (.int ns.sum t') ⟨h', ge, dr, tk', os⟩) : wpAny (model prog w) A (call (.builtin "sum") [.ref l]) Q E ⟨h, ge, dr, tk, os⟩ := by
  obtain ⟨xs, hx⟩ := hi.allInts.items
  have hl' : h.IsList l (intItems xs) := hx ▸ isList_of hl
  refine sum_intListG (s := ⟨h, ge, dr, tk, os⟩) hh hl' fun h' tk' t' hk => ?_
  have e1 : ns = xs.toList.map (·.1) := by
    rw [← nums_intItems, ← hx]
    exact (show numsOf vs.toArray.toList = ns from hi.numsOf).symm
  have e2 : preSum (numAt xs) xs.size = ns.sum := by
    rw [preSum_eq, List.take_of_length_le (by simp), e1]
  rw [e2]
  exact q h' tk' t' (f.all hk) hk
end
end
section
section
variable {prog : Program} {w : World} {A : Around} {E : Value → Shared → Prop} {p : Program} {loose : List Str} {mean : ExcName → Option Value} {mg mb : Str → Option Value} {g h : Heap} {ge : Array GenState} {dr : Drawn} {tk : Nat} {os : OsState}
  {L : Addr} {m : Str → Option Value} {news : List (Addr × Obj)} {env : Env}
noncomputable abbrev cellV (v : Option Value) : Obj := cellW (.type "cell") none #[] v
/-- a frame with one cell of its own -/
theorem newEnv_one {scope : Scope} {globals : Addr} {cl : List (Str × Addr)} {qual x : Str} {Q : Env → Shared → Prop} (hc : ∀ n, cellsFrom n scope.names cl = (x, n) :: cl) (hpc : ∀ h, pushCells h scope.names = h.push (cellV none))
    (q : Q { scope := scope, locals := h.objs.size, globals := globals, cells := (x, h.objs.size + 1) :: cl, qual := qual, func := none, code := env.code, frame := env.frame, builtins := env.builtins } ⟨(h.push { cls := .type "dict", data := .dict #[] }).push (cellV none), ge, dr, tk, os⟩) :
    wpAny (model prog w) A (newFunctionEnv scope globals cl [] qual none .none (some env)) Q E ⟨h, ge, dr, tk, os⟩ := by
  simp only [newFunctionEnv, Option.isSome_some, if_true]
  refine wpAny_bind (wpAny_alloc ?_)
  refine wpAny_bind (wpAny_layCells _ (fun name kind cells => by cases hkc : kind == NameKind.cell <;> simp [hkc]) _ _ _ _ ?_)
  rw [hc, hpc]
  rw [show ({ (⟨h, ge, dr, tk, os⟩ : Shared) with heap := (⟨h, ge, dr, tk, os⟩ : Shared).heap.push { cls := .type "dict", data := .dict #[] } } : Shared).heap.objs.size = h.objs.size + 1 from Heap.size_push ..]
  rw [List.forIn_nil]
  exact wpAny_bind (wpAny_pure (wpAny_pure q))
/-- a comprehension's frame goes -/
theorem comp_leave {G h' : Heap} {C : Addr} {m' : Str → Option Value} {news' : List (Addr × Obj)} {Q : Shared → Prop} (f : FB w p loose mean mg mb g L h m news) (st : g.StaysIn G) (hGL : ∃ oL, G.get? L = some oL) (hGh : ∀ a o, G.get? a = some o → h.get? a = some o) (hCn : h.get? C = none)
    (f' : FB w p loose mean mg mb G C h' m' news') (k : ∀ h'', FB w p loose mean mg mb g L h'' m news' → TK h' h'' → Q ⟨h'', ge, dr, tk, os⟩) :
    ∃ m, h'.Ns C m ∧ ∀ h'', Heap.SameBut C h' h'' → Q ⟨h'', ge, dr, tk, os⟩ := by
  obtain ⟨oL, hgL⟩ := hGL
  refine ⟨m', f'.ns, fun h'' hs => ?_⟩
  refine k h'' ⟨?_, fun a o e => ?_, f.out, fun r hr => ?_, f.B⟩ (TK.of_ch (Ch.of_same hs) ?_)
  · obtain ⟨o, es, ep, hL', hd', r⟩ := f.ns
    have e1 := f'.keep _ _ hgL
    have e2 : h.get? L = some oL := hGh _ _ hgL
    rw [hL'] at e2; cases e2
    refine ⟨oL, es, ep, (hs.2 _ ?_).trans e1, hd', r⟩
    intro e3
    rw [e3, hCn] at hL'; cases hL'
  · refine (hs.2 a ?_).trans (f'.keep _ _ (st a o e))
    intro e3
    rw [e3] at e
    rw [f.keep _ _ e] at hCn; cases hCn
  · have z := f'.N r hr
    refine ⟨(hs.2 _ z.2.1).trans z.1, fun e => ?_, ?_⟩
    · have := z.2.2
      rw [e, hgL] at this; cases this
    · cases e : g.get? r.1 with
      | none => rfl
      | some o => have := z.2.2; rw [st _ _ e] at this; cases this
  · intro r hr vs e
    rw [List.mem_singleton] at hr; subst hr
    obtain ⟨o, es, ep, hC', hd', _⟩ := f'.ns
    rw [hC'] at e; cases e; cases hd'
/-- a comprehension's own frame with one cell, over the frame of its def -/
theorem comp_enter1 (f : FB w p loose mean mg mb g L h m news) {I : Addr} (hIL : I ≠ L) (hIg : g.get? I = none) (hIn : I ∉ news.map (·.1)) (hIh : ∃ o, h.get? I = some o ∧ ∀ vs, o ≠ tupO vs) (hnt : ∀ q ∈ news, ∀ vs, q.2 ≠ tupO vs)
    {scope : Scope} {cl : List (Str × Addr)} {x : Str} {e : Expr} {Q : Value → Shared → Prop} {it : Value} (hc : ∀ n, cellsFrom n scope.names cl = (x, n) :: cl) (hpc : ∀ h, pushCells h scope.names = h.push (cellV none))
    (q : ∀ g₁ D C h₁ tk', FB w p loose mean mg mb g₁ C h₁ (fun _ => none) ((C + 1, cellV none) :: (D, listOf #[] 0) :: news) → g.StaysIn g₁ → Ch (I :: news.map (·.1)) h g₁ → TK h g₁ → (∀ a o, h.get? a = some o → h₁.get? a = some o) → I ≠ C → I ≠ D → I ≠ C + 1 → g₁.get? I = none → h.get? D = none → D ≠ C + 1 → h.get? (C + 1) = none →
      codeAny (model prog w) A (.compStart e 0 it (.ref D) (compEnvC scope ((x, C + 1) :: cl) C env)) (fun r s' => match r with
        | .ok _ => ∃ h' tk' m' news', s' = ⟨h', ge, dr, tk', os⟩ ∧ FB w p loose mean mg mb g₁ C h' m' news' ∧ (∀ h'', FB w p loose mean mg mb g L h'' m news' → TK h' h'' → Q (.ref D) ⟨h'', ge, dr, tk', os⟩)
        | .error _ => False) ⟨h₁, ge, dr, tk', os⟩) :
    wpAny (model prog w) A (newList []) (fun acc s₃ =>
      wpAny (model prog w) A (newFunctionEnv scope env.globals cl [] env.qual none .none (some env)) (fun cenv s₄ =>
        codeAny (model prog w) A (.compStart e 0 it acc { cenv with scope := relabel scope env }) (compPost (model prog w) A E none Q acc cenv.locals) s₄) E s₃) E ⟨h, ge, dr, tk, os⟩ := by
  obtain ⟨st, ⟨oL, esL, epL, hgL, hdL⟩, Bg⟩ := f.hide (hs := [I]) (by intro a ha; rw [List.mem_singleton] at ha; subst ha; exact ⟨hIL, hIg⟩)
  have tg : TK h (hideAll h ([I] ++ news.map (·.1))) := fun a vs e => hideAll_get _ e fun hm => by
    rcases List.mem_append.mp hm with hm | hm
    · rw [List.mem_singleton] at hm; subst hm
      obtain ⟨o, ho, hne⟩ := hIh
      rw [e] at ho; exact hne vs (Option.some.inj ho).symm
    · obtain ⟨r, hr, rfl⟩ := List.mem_map.mp hm
      have z := (f.N r hr).1
      rw [e] at z
      exact hnt r hr vs (Option.some.inj z).symm
  refine wpAny_newObj_type (s := ⟨h, ge, dr, tk, os⟩) (newEnv_one hc hpc ?_)
  have kH : ∀ a o, h.get? a = some o → (h.push { cls := .type "list", data := .seq ([] : List Value).toArray }).get? a = some o := fun a o e => Heap.get?_push_of_some _ e
  have hD : (h.push { cls := .type "list", data := .seq ([] : List Value).toArray }).get? h.objs.size = some (listOf #[] 0) := Heap.get?_push_at rfl rfl
  have sz : (h.push { cls := .type "list", dict := none, data := .seq ([] : List Value).toArray }).objs.size = h.objs.size + 1 := Heap.size_push ..
  generalize h.push { cls := .type "list", dict := none, data := .seq ([] : List Value).toArray } = H at *
  have k1 : ∀ a o, H.get? a = some o → ((H.push { cls := .type "dict", data := .dict #[] }).push (cellV none)).get? a = some o := fun a o e => Heap.get?_push_of_some _ (Heap.get?_push_of_some _ e)
  have hns : ((H.push { cls := .type "dict", data := .dict #[] }).push (cellV none)).Ns H.objs.size fun _ => none := (Heap.Ns.new H (.type "dict")).keeps fun b o e => Heap.get?_push_of_some _ e
  have hcl : ((H.push { cls := .type "dict", data := .dict #[] }).push (cellV none)).get? (H.objs.size + 1) = some (cellV none) := by
    have := Heap.get?_push_size (H.push { cls := .type "dict", data := .dict #[] }) (o := cellV none) rfl
    rwa [Heap.size_push] at this
  generalize (H.push { cls := .type "dict", data := .dict #[] }).push (cellV none) = h₁ at *
  have gl : ∀ a o, (hideAll h ([I] ++ news.map (·.1))).get? a = some o → h₁.get? a = some o := fun a o e => k1 _ _ (kH _ _ (of_hideAll _ e))
  have gn : ∀ a, h.get? a = none → (hideAll h ([I] ++ news.map (·.1))).get? a = none := fun a e => by
    cases e1 : (hideAll h ([I] ++ news.map (·.1))).get? a with
    | none => rfl
    | some o => rw [of_hideAll _ e1] at e; cases e
  have hCn : h.get? H.objs.size = none := Heap.get?_none_of_le (by rw [sz]; exact Nat.le_succ _)
  have hCn1 : h.get? (H.objs.size + 1) = none := Heap.get?_none_of_le (by rw [sz]; exact Nat.le_succ_of_le (Nat.le_succ _))
  have hDn : h.get? h.objs.size = none := Heap.get?_none_of_le (Nat.le_refl _)
  have nlt : ∀ {a o}, h.get? a = some o → a < H.objs.size := fun e => by rw [sz]; exact Nat.lt_succ_of_lt (Heap.lt_size e)
  have fC : FB w p loose mean mg mb (hideAll h ([I] ++ news.map (·.1))) H.objs.size h₁ (fun _ => none) ((H.objs.size + 1, cellV none) :: (h.objs.size, listOf #[] 0) :: news) := by
    refine ⟨hns, gl, gn _ hCn, fun r hr => ?_, Bg⟩
    rcases List.mem_cons.mp hr with rfl | hr
    · exact ⟨hcl, Nat.succ_ne_self _, gn _ hCn1⟩
    rcases List.mem_cons.mp hr with rfl | hr
    · exact ⟨k1 _ _ hD, by show h.objs.size ≠ H.objs.size; rw [sz]; exact Nat.ne_of_lt (Nat.lt_succ_self _), gn _ hDn⟩
    · have z := f.N r hr
      exact ⟨k1 _ _ (kH _ _ z.1), Nat.ne_of_lt (nlt z.1), hideAll_none _ (List.mem_append_right _ (List.mem_map_of_mem hr))⟩
  obtain ⟨oI, hoI, _⟩ := hIh
  refine codeAny_mono (q _ h.objs.size H.objs.size h₁ _ fC st (fun a o n e => hideAll_get _ e (by simpa using n)) tg (fun a o e => k1 _ _ (kH _ _ e)) (fun e => by rw [e, hCn] at hoI; cases hoI) (fun e => by rw [e, hDn] at hoI; cases hoI) (fun e => by rw [e, hCn1] at hoI; cases hoI) (hideAll_none _ (.head _)) hDn (by rw [sz]; exact Nat.ne_of_lt (Nat.lt_succ_of_lt (Nat.lt_succ_self _))) hCn1) (fun r s' x => ?_)
  cases r with
  | error x' => exact x.elim
  | ok fl =>
    obtain ⟨h', tk', m', news', rfl, f', k⟩ := x
    exact comp_leave (Q := fun s => Q (.ref h.objs.size) s) f st ⟨oL, hgL⟩ (fun a o e => of_hideAll _ e) hCn f' k
theorem mw_asgC {x : Str} {v : Value} {v₀ : Option Value} {c : Addr} {pos : Pos} {Q : Unit → Shared → Prop} (f : FB w p loose mean mg mb g L h m ((c, cellV v₀) :: news)) (hc : env.cells.lookup x = some c) (ap : ∀ q ∈ news, q.1 ≠ c)
    (q : ∀ h', FB w p loose mean mg mb g L h' m ((c, cellV (some v)) :: news) → TK h h' → Q () ⟨h', ge, dr, tk, os⟩) (hl : env.kindOf x = some .cell) (hk : env.scope.kind = .function) : wpAny (model prog w) A (assign (.Name x pos) env v) Q E ⟨h, ge, dr, tk, os⟩ :=
  wpAny_assign_Name (mw_stcG (news' := (c, cellV (some v)) :: news) f hc (.head _) (fun q hq => by
    rcases List.mem_cons.mp hq with rfl | hq
    · exact .inr rfl
    · exact .inl ⟨.tail _ hq, ap q hq⟩) q hl hk)
/-- a comprehension of one clause by a name that lies in a cell -/
theorem comp_walk1 {elt iter : Expr} {x : Str} {px : Pos} {ifs : List Expr} {scope : Scope} {cl : List (Str × Addr)} {pos : Pos} {Q : Value → Shared → Prop} {I : Addr} {fp : List Addr} {n : Nat} {P : Nat → Value → Prop} {St : Nat → Heap → Prop}
    (W : Walks prog w A I fp [I] n P St) (hI : ∀ i h, St i h → ∃ o, h.get? I = some o ∧ ∀ vs, o ≠ tupO vs)
    (J : Nat → Heap → List Value → List (Addr × Obj) → Prop)
    (hJ : ∀ i h h' acc news, TK h h' → J i h acc news → J i h' acc news)
    (hnt : ∀ i h acc news, J i h acc news → ∀ q ∈ news, ∀ vs, q.2 ≠ tupO vs) (hlen : ∀ i h acc news, J i h acc news → acc.length ≤ i) (hz : n ≤ 1000000)
    (f : FB w p loose mean mg mb g L h m news) (of : Off g L news I) (hfp : ∀ b ∈ fp, b = I ∨ ∃ o, g.get? b = some o) (hst : St 0 h) (hframe : ∀ h', (∀ a o, h.get? a = some o → h'.get? a = some o) → St 0 h') (hj : J 0 h [] news)
    (hc : ∀ n, cellsFrom n scope.names cl = (x, n) :: cl) (hpc : ∀ h, pushCells h scope.names = h.push (cellV none))
    (hk : ∀ C, (compEnvC scope ((x, C + 1) :: cl) C env).kindOf x = some .cell) (hf : ∀ C, (compEnvC scope ((x, C + 1) :: cl) C env).scope.kind = .function)
    (hloc : ∀ C, (compEnvC scope ((x, C + 1) :: cl) C env).locals = C) (hcel : ∀ C, (compEnvC scope ((x, C + 1) :: cl) C env).cells.lookup x = some (C + 1))
    (turn : ∀ i v g' C h tk m acc news, i < n → P i v → J i h acc news → FB w p loose mean mg mb g' C h m ((C + 1, cellV (some v)) :: news) → g.StaysIn g' →
      wpAny (model prog w) A (compTests ifs (compEnvC scope ((x, C + 1) :: cl) C env)) (fun ok s₃ => if ok = true then
          wpAny (model prog w) A (eval elt (compEnvC scope ((x, C + 1) :: cl) C env)) (fun u s₄ => ∃ h' tk' m' news', s₄ = ⟨h', ge, dr, tk', os⟩ ∧ FB w p loose mean mg mb g' C h' m' ((C + 1, cellV (some v)) :: news') ∧ (∀ q ∈ news', q.1 ≠ C + 1) ∧ J (i + 1) h' (acc ++ [u]) news') (fun _ _ => False) s₃
        else ∃ h' tk' m' news', s₃ = ⟨h', ge, dr, tk', os⟩ ∧ FB w p loose mean mg mb g' C h' m' ((C + 1, cellV (some v)) :: news') ∧ (∀ q ∈ news', q.1 ≠ C + 1) ∧ J (i + 1) h' acc news') (fun _ _ => False) ⟨h, ge, dr, tk, os⟩)
    (fin : ∀ D h tk acc c news, J n h acc news → FB w p loose mean mg mb g L h m ((D, listOf acc.toArray c) :: news) → (∀ q ∈ news, q.1 ≠ D) → Q (.ref D) ⟨h, ge, dr, tk, os⟩) :
    wpAny (model prog w) A (newList []) (fun acc s₃ =>
      wpAny (model prog w) A (newFunctionEnv scope env.globals cl [] env.qual none .none (some env)) (fun cenv s₄ =>
        codeAny (model prog w) A (.compStart (.ListComp elt [⟨.Name x px, iter, ifs, 0⟩] scope pos) 0 (.ref I) acc { cenv with scope := relabel scope env }) (compPost (model prog w) A E none Q acc cenv.locals) s₄) E s₃) E ⟨h, ge, dr, tk, os⟩ := by
  refine comp_enter1 f of.l of.g of.n (hI _ _ hst) (hnt _ _ _ _ hj) hc hpc ?_
  intro g1 D C h1 tk1 f1 st1 ch1 t1 k1 hIC hID hICc hIg hDn hDC hCcn
  have hCl := hloc C
  have hk1 := hk C
  have hf1 := hf C
  have hc1 := hcel C
  have turn1 := fun i v g' => turn i v g' C
  generalize hce : compEnvC scope ((x, C + 1) :: cl) C env = cenv at *
  subst hCl
  refine comp1_go W hI (fun i h m news0 => ∃ acc c news v, news0 = (cenv.locals + 1, cellV v) :: (D, listOf acc.toArray c) :: news ∧ J i h acc news ∧ (∀ q ∈ news, q.1 ≠ D) ∧ ∀ q ∈ news, q.1 ≠ cenv.locals + 1) ?hJ ?hnt f1 ?hIn hIC hIg ?hfp (hframe _ k1) ⟨[], 0, news, none, rfl, hJ _ _ _ _ _ (TK.of_keep k1) hj, fun q hq e => ?_, fun q hq e => ?_⟩ ?turn ?fin
  case hJ =>
    rintro i h h' m news0 t ⟨acc, c, news, v, rfl, j, e⟩
    exact ⟨acc, c, news, v, rfl, hJ _ _ _ _ _ t j, e⟩
  case hnt =>
    rintro i h m news0 ⟨acc, c, news, v, rfl, j, e⟩ q hq
    rcases List.mem_cons.mp hq with rfl | hq
    · exact cellW_ne _ _ _ _
    rcases List.mem_cons.mp hq with rfl | hq
    · exact lst_ne _ _
    · exact hnt _ _ _ _ j q hq
  case hIn =>
    intro hm
    rcases List.mem_cons.mp hm with hm | hm
    · exact hICc hm
    rcases List.mem_cons.mp hm with hm | hm
    · exact hID hm
    · exact of.n hm
  case hfp =>
    intro b hb
    rcases hfp b hb with rfl | ⟨o, ho⟩
    · exact .inl rfl
    · exact .inr ⟨o, st1 _ _ ho⟩
  · have := (f.N q hq).1
    rw [e, hDn] at this; cases this
  · have := (f.N q hq).1
    rw [e, hCcn] at this; cases this
  case turn =>
    rintro i v g2 h2 tk2 m2 news0 hi hv ⟨acc, c, news2, v0, rfl, j2, e2, e3⟩ f2 st2 t2
    unfold CompT
    refine mw_goN (mw_asgC f2 hc1 ?_ ?_ hk1 hf1)
    · intro q hq
      rcases List.mem_cons.mp hq with rfl | hq
      · exact hDC
      · exact e3 q hq
    intro h3 f3 t3
    have nt3 : ∀ q ∈ (cenv.locals + 1, cellV (some v)) :: news2, ∀ vs, q.2 ≠ tupO vs := fun q hq => by
      rcases List.mem_cons.mp hq with rfl | hq
      · exact cellW_ne _ _ _ _
      · exact hnt _ _ _ _ j2 q hq
    obtain ⟨g3, f4, st4, ch4, t4⟩ := f3.rebase (news' := (cenv.locals + 1, cellV (some v)) :: news2) (fun q hq => by
      rcases List.mem_cons.mp hq with rfl | hq
      · exact .head _
      · exact .tail _ (.tail _ hq)) nt3
    have hD4 : g3.get? D = some (listOf acc.toArray c) := by
      refine ch4 _ _ ?_ (f3.at_ (.tail _ (.head _)))
      intro hm
      rcases List.mem_cons.mp hm with hm | hm
      · exact (f3.N _ (.tail _ (.head _))).2.1 hm
      rcases List.mem_cons.mp hm with hm | hm
      · exact hDC hm
      · obtain ⟨q, hq, e⟩ := List.mem_map.mp hm
        exact e2 q hq e
    have tn := turn1 i v g3 h3 tk2 m2 acc news2 hi hv (hJ _ _ _ _ _ t3 j2) f4 (fun a o e => st4 _ _ (st2 _ _ (st1 _ _ e)))
    have ap : ∀ {h' m' news'}, FB w p loose mean mg mb g3 cenv.locals h' m' ((cenv.locals + 1, cellV (some v)) :: news') → ∀ q ∈ news', q.1 ≠ D := fun f q hq e => by
      have := f.new_ (.tail _ hq)
      rw [show q.1 = D from e, hD4] at this; cases this
    have bk : ∀ {h' m' news'}, FB w p loose mean mg mb g3 cenv.locals h' m' ((cenv.locals + 1, cellV (some v)) :: news') → FB w p loose mean mg mb g2 cenv.locals h' m' ((cenv.locals + 1, cellV (some v)) :: (D, listOf acc.toArray c) :: news') := fun f =>
      ((f.back st4 f2.B).cons (f.keep _ _ hD4) (f3.N _ (.tail _ (.head _))).2.1 (f3.N _ (.tail _ (.head _))).2.2).sub fun q hq => by
        rcases List.mem_cons.mp hq with rfl | hq
        · exact .tail _ (.head _)
        rcases List.mem_cons.mp hq with rfl | hq
        · exact .head _
        · exact .tail _ (.tail _ hq)
    refine wpAny_mono tn (fun ok s₃ x => ?_) fun _ _ e => e
    cases ok with
    | false =>
      simp only [Bool.false_eq_true, if_false] at x ⊢
      obtain ⟨h', tk', m', news', rfl, f5, a5, j5⟩ := x
      exact ⟨h', tk', m', _, rfl, bk f5, acc, c, news', some v, rfl, j5, ap f5, a5⟩
    | true =>
      simp only [if_true] at x ⊢
      unfold emitP
      refine wpAny_mono x (fun u s₄ y => ?_) fun _ _ e => e
      obtain ⟨h', tk', m', news', rfl, f5, a5, j5⟩ := y
      have hl := hlen _ _ _ _ j2
      refine ml_pushG (news' := (cenv.locals + 1, cellV (some v)) :: (D, listOf (acc ++ [u]).toArray (c + 1)) :: news') (bk f5) (.tail _ (.head _)) (fun q hq => ?_) (by rw [sizeLine_eq]; (first | lia | omega)) ?_
      · rcases List.mem_cons.mp hq with rfl | hq
        · exact .inl ⟨.head _, Ne.symm hDC⟩
        rcases List.mem_cons.mp hq with rfl | hq
        · exact .inr rfl
        · exact .inl ⟨.tail _ (.tail _ hq), ap f5 q hq⟩
      intro h6 f6 t6
      exact ⟨h6, tk', m', _, rfl, f6, _, _, news', some v, rfl, hJ _ _ _ _ _ t6 j5, ap f5, a5⟩
  case fin =>
    rintro h2 tk2 m2 news0 ⟨acc, c, news2, v0, rfl, j2, e2, e3⟩ f2
    refine ⟨_, _, _, _, rfl, f2, fun h3 f3 t3 => fin D h3 tk2 acc c news2 (hJ _ _ _ _ _ t3 j2) (f3.sub fun q hq => .tail _ hq) e2⟩
/-- over a list of the base -/
theorem comp_list1 {elt iter : Expr} {x : Str} {px : Pos} {ifs : List Expr} {scope : Scope} {cl : List (Str × Addr)} {pos : Pos} {Q : Value → Shared → Prop} {l : Addr} {vs : List Value} {c : Nat} (hh : A.handled = none)
    (J : Nat → Heap → List Value → List (Addr × Obj) → Prop)
    (hJ : ∀ i h h' acc news, TK h h' → J i h acc news → J i h' acc news)
    (hnt : ∀ i h acc news, J i h acc news → ∀ q ∈ news, ∀ vs, q.2 ≠ tupO vs) (hlen : ∀ i h acc news, J i h acc news → acc.length ≤ i) (hz : vs.length ≤ 1000000)
    (f : FB w p loose mean mg mb g L h m news) (hl : g.get? l = some (listOf vs.toArray c)) (hj : J 0 h [] news)
    (hc : ∀ n, cellsFrom n scope.names cl = (x, n) :: cl) (hpc : ∀ h, pushCells h scope.names = h.push (cellV none))
    (hk : ∀ C, (compEnvC scope ((x, C + 1) :: cl) C env).kindOf x = some .cell) (hf : ∀ C, (compEnvC scope ((x, C + 1) :: cl) C env).scope.kind = .function)
    (hloc : ∀ C, (compEnvC scope ((x, C + 1) :: cl) C env).locals = C) (hcel : ∀ C, (compEnvC scope ((x, C + 1) :: cl) C env).cells.lookup x = some (C + 1))
    (turn : ∀ i v g' C h tk m acc news, vs[i]? = some v → J i h acc news → FB w p loose mean mg mb g' C h m ((C + 1, cellV (some v)) :: news) → g.StaysIn g' →
      wpAny (model prog w) A (compTests ifs (compEnvC scope ((x, C + 1) :: cl) C env)) (fun ok s₃ => if ok = true then
          wpAny (model prog w) A (eval elt (compEnvC scope ((x, C + 1) :: cl) C env)) (fun u s₄ => ∃ h' tk' m' news', s₄ = ⟨h', ge, dr, tk', os⟩ ∧ FB w p loose mean mg mb g' C h' m' ((C + 1, cellV (some v)) :: news') ∧ (∀ q ∈ news', q.1 ≠ C + 1) ∧ J (i + 1) h' (acc ++ [u]) news') (fun _ _ => False) s₃
        else ∃ h' tk' m' news', s₃ = ⟨h', ge, dr, tk', os⟩ ∧ FB w p loose mean mg mb g' C h' m' ((C + 1, cellV (some v)) :: news') ∧ (∀ q ∈ news', q.1 ≠ C + 1) ∧ J (i + 1) h' acc news') (fun _ _ => False) ⟨h, ge, dr, tk, os⟩)
    (fin : ∀ D h tk acc c news, J vs.length h acc news → FB w p loose mean mg mb g L h m ((D, listOf acc.toArray c) :: news) → (∀ q ∈ news, q.1 ≠ D) → Q (.ref D) ⟨h, ge, dr, tk, os⟩) :
    wpAny (model prog w) A (pyIter (.ref l)) (fun it s₂ => wpAny (model prog w) A (newList []) (fun acc s₃ =>
      wpAny (model prog w) A (newFunctionEnv scope env.globals cl [] env.qual none .none (some env)) (fun cenv s₄ =>
        codeAny (model prog w) A (.compStart (.ListComp elt [⟨.Name x px, iter, ifs, 0⟩] scope pos) 0 it acc { cenv with scope := relabel scope env }) (compPost (model prog w) A E none Q acc cenv.locals) s₄) E s₃) E s₂) E ⟨h, ge, dr, tk, os⟩ := by
  refine mi_listK f (isList_of (f.keep _ _ hl)) ?_
  intro I h2 f2 of2 it2 li2 nI k2
  refine comp_walk1 (Walks.list (prog := prog) (w := w) hh I l nI vs.toArray) (fun i h hi => lit_ne hi.1) J hJ hnt hlen (by simpa using hz) f2 of2 ?_ ⟨it2, li2⟩ (fun h' k => ⟨it2.at fun o e => k _ _ e, li2.at fun o e => k _ _ e⟩) (hJ _ _ _ _ _ (TK.of_keep k2) hj) hc hpc hk hf hloc hcel ?_ ?_
  · intro b hb
    rcases List.mem_cons.mp hb with rfl | hb
    · exact .inl rfl
    · rw [List.mem_singleton] at hb; subst hb
      exact .inr ⟨_, hl⟩
  · intro i v g' C h3 tk3 m3 acc news3 hi hv
    exact turn i v g' C h3 tk3 m3 acc news3 (by simpa using hv)
  · intro D h3 tk3 acc c3 news3 hj3
    exact fin D h3 tk3 acc c3 news3 (by simpa using hj3)
end
end
section
/-- the order of tuples of whole numbers -/
noncomputable def lexL : List Int → List Int → Bool
  | [], [] => false
  | [], _ :: _ => true
  | _ :: _, [] => false
  | x :: r, y :: q => if x = y then lexL r q else decide (x < y)
theorem lexL_irr : ∀ a : List Int, lexL a a = false
  | [] => rfl
  | x :: r => by unfold lexL; rw [if_pos rfl]; exact lexL_irr r
theorem lexL_asym : ∀ a b : List Int, lexL a b = true → lexL b a = false
  | [], [], _ => rfl
  | [], _ :: _, _ => rfl
  | _ :: _, [], h => by cases h
  | x :: r, y :: q, h => by
    unfold lexL at h ⊢
    by_cases e : x = y
    · subst e
      rw [if_pos rfl] at h ⊢
      exact lexL_asym r q h
    · rw [if_neg e] at h
      rw [if_neg (Ne.symm e)]
      have h : x < y := by simpa using h
      simp; (first | lia | omega)
theorem lexL_tr : ∀ a b c : List Int, lexL b a = false → lexL c b = false → lexL c a = false
  | _, _, [], h1, h2 => by
    rename_i a b
    cases b with
    | nil => exact h1
    | cons y q => cases h2
  | [], _, _ :: _, _, _ => rfl
  | _ :: _, [], _ :: _, h1, _ => by cases h1
  | x :: r, y :: q, z :: s, h1, h2 => by
    unfold lexL at h1 h2 ⊢
    by_cases e1 : y = x
    · subst e1
      rw [if_pos rfl] at h1
      by_cases e2 : z = y
      · subst e2
        rw [if_pos rfl] at h2 ⊢
        exact lexL_tr r q s h1 h2
      · rw [if_neg e2] at h2 ⊢; exact h2
    · rw [if_neg e1] at h1
      have h1 : ¬ y < x := by simpa using h1
      by_cases e2 : z = y
      · subst e2
        rw [if_neg e1]; simpa using h1
      · rw [if_neg e2] at h2
        have h2 : ¬ z < y := by simpa using h2
        rw [if_neg (by (first | lia | omega))]; simp; (first | lia | omega)
theorem lexL_tot : Tot lexL := ⟨lexL_asym, lexL_tr⟩
theorem lexL_eq : ∀ {a b : List Int}, lexL a b = false → lexL b a = false → a = b
  | [], [], _, _ => rfl
  | [], _ :: _, h, _ => by cases h
  | _ :: _, [], _, h => by cases h
  | x :: r, y :: q, h1, h2 => by
    unfold lexL at h1 h2
    by_cases e : x = y
    · subst e
      rw [if_pos rfl] at h1 h2
      rw [lexL_eq h1 h2]
    · rw [if_neg e] at h1
      rw [if_neg (Ne.symm e)] at h2
      have h1 : ¬ x < y := by simpa using h1
      have h2 : ¬ y < x := by simpa using h2
      exact absurd (by (first | lia | omega)) e
theorem tlt_eq (x y : Value) : Builtin.«tuple.__lt__» ⟨[x, y], []⟩ = (do
    let (a, [b]) ← slotArgs "__lt__" 1 ⟨[x, y], []⟩ | unsupported "internal:tuple.compare"
    if !(← isInstance b (.type "tuple")) then return ← ret .notImplemented
    let xs ← Builtin.Tuple.tupleItemsOf a
    let ys ← Builtin.Tuple.tupleItemsOf b
    for (p, q) in xs.toList.zip ys.toList do
      if !(← eqBool p q) then
        rule "tuple.compare.by-the-first-pair-that-differs"; return ← ret (← richCompare .Lt p q)
    ret (Builtin.Tuple.tupleCompareSizes .Lt xs.size ys.size)) := rfl
/-- tuples of whole numbers, in their order -/
noncomputable def tupR (h : Heap) (v : Value) (k : List Int) : Prop := ∃ a vs, v = .ref a ∧ h.get? a = some (tupO vs) ∧ IntsAre vs k
section
variable {prog : Program} {w : World} {A : Around} {E : Value → Shared → Prop} {s : Shared}
theorem tlt_loop {R : Option PySem.Fin × Unit → Shared → Prop} : ∀ {vs us : List Value} {x y : List Int}, IntsAre vs x → IntsAre us y → (R (some (.done (.ret (.bool (lexL x y)))), ()) s) → (lexL x y = decide (x.length < y.length) → R (none, ()) s) →
    wpAny (model prog w) A (forIn (vs.zip us) ((none, ()) : Option PySem.Fin × Unit) fun x __s => do
            let __do_lift ← eqBool x.fst x.snd
            if (!__do_lift) = true then do
                rule "tuple.compare.by-the-first-pair-that-differs"
                let __do_lift ← richCompare CmpOp.Lt x.fst x.snd
                let __do_lift ← ret __do_lift
                pure (ForInStep.done (some __do_lift, ()))
              else pure (ForInStep.yield (none, ()))) R E s
  | _, _, _, _, .nil, .nil, _, h2 => by rw [List.zip_nil_left, List.forIn_nil]; exact wpAny_pure (h2 rfl)
  | _, _, _, _, .nil, .cons y u hy, _, h2 => by rw [List.zip_nil_left, List.forIn_nil]; exact wpAny_pure (h2 rfl)
  | _, _, _, _, .cons x t hx, .nil, _, h2 => by rw [List.zip_nil_right, List.forIn_nil]; exact wpAny_pure (h2 rfl)
  | _, _, _, _, .cons x t hx, .cons y u hy, h1, h2 => by
    rw [List.zip_cons_cons, List.forIn_cons]
    refine wpAny_bind (wpAny_bind (wpAny_eqBool_int ?_))
    unfold lexL at h1 h2
    by_cases e : x = y
    · rw [if_pos e] at h1 h2
      rw [if_neg (by simpa using e)]
      exact wpAny_pure (tlt_loop hx hy h1 fun e' => h2 (by rw [e']; simp))
    · rw [if_neg e] at h1 h2
      rw [if_pos (by simpa using e)]
      refine wpAny_bind (wpAny_rule (wpAny_bind ?_))
      show wpAny (model prog w) A (compareOp .Lt (.int x t) (.int y u)) _ E s
      refine lt_int (wpAny_bind (wpAny_pure (wpAny_pure ?_)))
      exact wpAny_pure h1
theorem tup_items {a : Addr} {vs : List Value} {Q : Array Value → Shared → Prop} (ha : s.heap.get? a = some (tupO vs)) (q : Q vs.toArray s) : wpAny (model prog w) A (Builtin.Tuple.tupleItemsOf (.ref a)) Q E s := by
  unfold Builtin.Tuple.tupleItemsOf
  exact wpAny_bind (wpAny_seqItems ha rfl (wpAny_pure q))
theorem tup_lt {a b : Addr} {vs us : List Value} {x y : List Int} {Q : Value → Shared → Prop} (hu : A.units < cLine) (ha : s.heap.get? a = some (tupO vs)) (hx : IntsAre vs x) (hb : s.heap.get? b = some (tupO us)) (hy : IntsAre us y) (q : Q (.bool (lexL x y)) s) :
    wpAny (model prog w) A (compareOp .Lt (.ref a) (.ref b)) Q E s := by
  show wpAny (model prog w) A (richCompare .Lt (.ref a) (.ref b)) Q E s
  have Ta : s.TypeIs (.ref a) "tuple" := ⟨_, ha, rfl⟩
  have Tb : s.TypeIs (.ref b) "tuple" := ⟨_, hb, rfl⟩
  refine wpAny_richCompare_same_room Ta Tb PySem.F.slot_tuple_lt (wpAny_call_entry PySem.F.slot_tuple_lt Ta PySem.F.entry_tuple_lt ?_ (PySem.F.args_tuple_lt_2 _ _)) hu
  rw [tlt_eq]
  refine wpAny_bind (wpAny_of_eq (a := (.ref a, [.ref b])) rfl ?_)
  dsimp only
  refine wpAny_bind (wpAny_isInstance Tb AutoSeq1.sub_tuple_tuple ?_)
  rw [if_neg (by decide)]
  refine wpAny_bind (tup_items ha ?_)
  refine wpAny_bind (tup_items hb ?_)
  dsimp only
  refine wpAny_bind (tlt_loop hx hy ?_ fun e => ?_)
  · exact wpAny_pure ⟨_, rfl, by simp, q⟩
  · refine wpAny_pure ⟨_, rfl, by unfold Builtin.Tuple.tupleCompareSizes; simp, ?_⟩
    rw [e] at q
    unfold Builtin.Tuple.tupleCompareSizes
    dsimp only
    rw [List.size_toArray, List.size_toArray, hx.length, hy.length]
    exact q
end
noncomputable def tupV : Ordv (List Int) where
  rel := tupR
  lt := lexL
  keep := fun t ⟨a, vs, e, ha, hi⟩ => ⟨a, vs, e, t _ _ ha, hi⟩
  cmp := by
    rintro prog w A E s a b x y Q hu ⟨p, vs, rfl, hp, hx⟩ ⟨q, us, rfl, hq, hy⟩ h
    exact tup_lt hu hp hx hq hy h
end
section
/-- the arrangement holds each place once -/
noncomputable def OkP (n : Nat) (p : Array Nat) : Prop := p.Perm (List.range n).toArray
theorem OkP.size {n : Nat} {p : Array Nat} (h : OkP n p) : p.size = n := by
  have := h.size_eq
  simpa using this
theorem OkP.lt {n : Nat} {p : Array Nat} (h : OkP n p) {i : Nat} (hi : i < n) : p.getD i 0 < n := by
  have hs : i < p.size := by rw [h.size]; exact hi
  have e : p.getD i 0 = p[i] := by simp [Array.getD, hs]
  have hm : p[i] ∈ (List.range n) := by
    have := (Array.perm_iff_toList_perm.mp h).subset (show p[i] ∈ p.toList by simp)
    simpa using this
  rw [e]; exact List.mem_range.mp hm
theorem getD_q {p q : Array Nat} {i j : Nat} (h : p[i]? = q[j]?) : p.getD i 0 = q.getD j 0 := by
  rw [Array.getD_eq_getD_getElem?, Array.getD_eq_getD_getElem?, h]
theorem rev_ok {n : Nat} {p : Array Nat} (h : OkP n p) (i j : Nat) : OkP n (kas_rev p i j) := (mirror_perm _ _ _ _).trans h
theorem rev_at {n : Nat} {p : Array Nat} (h : OkP n p) {i j : Nat} (hj : j ≤ n) (k : Nat) : (kas_rev p i j).getD k 0 = if i ≤ k ∧ k < j then p.getD (i + j - 1 - k) 0 else p.getD k 0 := by
  have e := getElem?_mirror_all (xs := p) (i := i) (j := j) (by rw [h.size]; exact hj) k
  split
  · rename_i hc; rw [if_pos hc] at e; exact getD_q e
  · rename_i hc; rw [if_neg hc] at e; exact getD_q e
theorem Tot.last {c : Nat → Nat → Bool} (T : Tot c) (p : Array Nat) (a : Nat) (i : Nat) (h1 : a - 1 - 0 ≤ i) (h2 : i < a) : c (p.getD (a - 1) 0) (p.getD i 0) = false := by
  have e : i = a - 1 := by (first | lia | omega)
  rw [e]; exact T.irr _
noncomputable def Up (c : Nat → Nat → Bool) (p : Array Nat) (m : Nat) : Prop := ∀ i j, i < j → j < m → c (p.getD j 0) (p.getD i 0) = false
noncomputable def Dn (c : Nat → Nat → Bool) (p : Array Nat) (m : Nat) : Prop := ∀ i j, i < j → j < m → c (p.getD i 0) (p.getD j 0) = false
section
variable {c : Nat → Nat → Bool} (T : Tot c) {n : Nat} {cmp : Nat → Nat → (Bool → Shared → Prop) → Shared → Prop} {s : Shared} (hcmp : ∀ i j C, i < n → j < n → C (c i j) s → cmp i j C s)
include T hcmp
theorem asc_up {Q : Nat → Shared → Prop} {p : Array Nat} (hp : OkP n p) : ∀ (f a : Nat), 1 ≤ a → a + f ≤ n → Up c p a → (∀ m, a ≤ m → m ≤ a + f → Up c p m → (m = a + f ∨ c (p.getD m 0) (p.getD (m - 1) 0) = true) → Q m s) → (kas_asc p f a).kasWp cmp Q s
  | 0, a, _, _, h, q => q a (Nat.le_refl _) (Nat.le_refl _) h (.inl rfl)
  | f + 1, a, h1, hf, h, q => by
    show cmp (p.getD a 0) (p.getD (a - 1) 0) _ s
    refine hcmp _ _ _ (hp.lt (by (first | lia | omega))) (hp.lt (by (first | lia | omega))) ?_
    cases e : c (p.getD a 0) (p.getD (a - 1) 0) with
    | true => exact q a (Nat.le_refl _) (by (first | lia | omega)) h (.inr e)
    | false =>
      refine asc_up hp f (a + 1) (by (first | lia | omega)) (by (first | lia | omega)) (fun i j hij hj => ?_) (fun m h2 h3 h4 h5 => q m (by (first | lia | omega)) (by (first | lia | omega)) h4 (h5.imp (fun h => by (first | lia | omega)) id))
      by_cases hja : j = a
      · subst hja
        by_cases hi : i = j - 1
        · subst hi; exact e
        · exact T.tr _ _ _ (h i (j - 1) (by (first | lia | omega)) (by (first | lia | omega))) e
      · exact h i j hij (by (first | lia | omega))
theorem desc_dn {Q : Array Nat × Nat × Nat → Shared → Prop} : ∀ (f : Nat) (p : Array Nat) (a k : Nat), OkP n p → k + 1 ≤ a → a + f ≤ n → Dn c p a → (∀ i, a - 1 - k ≤ i → i < a → c (p.getD (a - 1) 0) (p.getD i 0) = false) →
    (∀ p' m k', OkP n p' → k' + 1 ≤ m → m ≤ n → Dn c p' m → (∀ i, m - 1 - k' ≤ i → i < m → c (p'.getD (m - 1) 0) (p'.getD i 0) = false) → Q (p', m, k') s) → (kas_desc f p a k).kasWp cmp Q s
  | 0, p, a, k, hp, hk, hf, h, he, q => q p a k hp hk (by (first | lia | omega)) h he
  | f + 1, p, a, k, hp, hk, hf, h, he, q => by
    show cmp (p.getD a 0) (p.getD (a - 1) 0) _ s
    refine hcmp _ _ _ (hp.lt (by (first | lia | omega))) (hp.lt (by (first | lia | omega))) ?_
    have low : ∀ i, i < a → c (p.getD i 0) (p.getD (a - 1) 0) = false := fun i hi => by
      by_cases e : i = a - 1
      · subst e; exact T.irr _
      · exact h i (a - 1) (by (first | lia | omega)) (by (first | lia | omega))
    cases e : c (p.getD a 0) (p.getD (a - 1) 0) with
    | true =>
      have low2 : ∀ i, i < a → c (p.getD i 0) (p.getD a 0) = false := fun i hi => T.tr _ _ _ (T.asym _ _ e) (low i hi)
      simp only [if_true]
      by_cases hk0 : k > 0
      · rw [if_pos hk0]
        have at1 := rev_at hp (i := a - (k + 1)) (j := a) (by (first | lia | omega))
        refine desc_dn f _ (a + 1) 0 (rev_ok hp _ _) (by (first | lia | omega)) (by (first | lia | omega)) (fun i j hij hj => ?_) (T.last _ _) q
        rw [at1, at1]
        by_cases hja : j = a
        · subst hja
          rw [if_neg (c := _ ∧ j < j) (by (first | lia | omega))]
          split
          · exact low2 _ (by (first | lia | omega))
          · exact low2 _ (by (first | lia | omega))
        · by_cases hi : a - (k + 1) ≤ i ∧ i < a
          · rw [if_pos hi, if_pos (by (first | lia | omega))]
            exact T.tr _ _ _ (he _ (by (first | lia | omega)) (by (first | lia | omega))) (low _ (by (first | lia | omega)))
          · rw [if_neg hi]
            split
            · exact h i _ (by (first | lia | omega)) (by (first | lia | omega))
            · exact h i j hij (by (first | lia | omega))
      · rw [if_neg hk0]
        refine desc_dn f p (a + 1) 0 hp (by (first | lia | omega)) (by (first | lia | omega)) (fun i j hij hj => ?_) (T.last _ _) q
        by_cases hja : j = a
        · subst hja; exact low2 i hij
        · exact h i j hij (by (first | lia | omega))
    | false =>
      show cmp (p.getD (a - 1) 0) (p.getD a 0) _ s
      refine hcmp _ _ _ (hp.lt (by (first | lia | omega))) (hp.lt (by (first | lia | omega))) ?_
      cases e2 : c (p.getD (a - 1) 0) (p.getD a 0) with
      | true => exact q p a k hp hk (by (first | lia | omega)) h he
      | false =>
        refine desc_dn f p (a + 1) (k + 1) hp (by (first | lia | omega)) (by (first | lia | omega)) (fun i j hij hj => ?_) (fun i h1 h2 => ?_) q
        · by_cases hja : j = a
          · subst hja; exact T.tr _ _ _ e2 (low i hij)
          · exact h i j hij (by (first | lia | omega))
        · rw [Nat.add_sub_cancel]
          by_cases hia : i = a
          · subst hia; exact T.irr _
          · exact T.tr _ _ _ (he i (by (first | lia | omega)) (by (first | lia | omega))) e
omit T hcmp in
theorem rev_up {p : Array Nat} (hp : OkP n p) {m : Nat} (hm : m ≤ n) (h : Dn c p m) : Up c (kas_rev p 0 m) m := by
  intro i j hij hj
  rw [rev_at hp hm, rev_at hp hm, if_pos (by (first | lia | omega)), if_pos (by (first | lia | omega))]
  exact h _ _ (by (first | lia | omega)) (by (first | lia | omega))
omit T hcmp in
theorem rev_dn {p : Array Nat} (hp : OkP n p) {m : Nat} (hm : m ≤ n) (h : Up c p m) : Dn c (kas_rev p 0 m) m := by
  intro i j hij hj
  rw [rev_at hp hm, rev_at hp hm, if_pos (by (first | lia | omega)), if_pos (by (first | lia | omega))]
  exact h _ _ (by (first | lia | omega)) (by (first | lia | omega))
theorem tail_up {Q : Nat × Array Nat → Shared → Prop} {p : Array Nat} (hp : OkP n p) {m : Nat} (h1 : 1 ≤ m) (hm : m ≤ n) (h : Dn c p m) (q : ∀ k p', OkP n p' → 1 ≤ k → k ≤ n → Up c p' k → Q (k, p') s) : (kas_tail3 m n p).kasWp cmp Q s := by
  unfold kas_tail3
  rw [KasT.kasWp_bind]
  exact asc_up T hcmp (rev_ok hp _ _) (n - m) m h1 (by (first | lia | omega)) (rev_up hp hm h) fun k a b u _ => q k _ (rev_ok hp _ _) (by (first | lia | omega)) (by (first | lia | omega)) u
theorem part_up {Q : Nat × Array Nat → Shared → Prop} {p : Array Nat} (hp : OkP n p) {m : Nat} (h1 : 1 ≤ m) (hm : m + 1 ≤ n) (h : Dn c p (m + 1)) (q : ∀ k p', OkP n p' → 1 ≤ k → k ≤ n → Up c p' k → Q (k, p') s) : (kas_descPart m n p).kasWp cmp Q s := by
  unfold kas_descPart
  rw [KasT.kasWp_bind]
  refine desc_dn T hcmp (n - (m + 1)) p (m + 1) 0 hp (by (first | lia | omega)) (by (first | lia | omega)) h (T.last _ _) ?_
  intro p' k r hp' hr hk hd he
  dsimp only
  have low : ∀ i, i < k → c (p'.getD i 0) (p'.getD (k - 1) 0) = false := fun i hi => by
    by_cases e : i = k - 1
    · subst e; exact T.irr _
    · exact hd i (k - 1) (by (first | lia | omega)) (by (first | lia | omega))
  by_cases hr0 : r > 0
  · rw [if_pos hr0]
    refine tail_up T hcmp (rev_ok hp' _ _) (by (first | lia | omega)) hk (fun i j hij hj => ?_) q
    have at1 := rev_at hp' (i := k - (r + 1)) (j := k) (by (first | lia | omega))
    rw [at1, at1]
    by_cases hi : k - (r + 1) ≤ i ∧ i < k
    · rw [if_pos hi, if_pos (by (first | lia | omega))]
      exact T.tr _ _ _ (he _ (by (first | lia | omega)) (by (first | lia | omega))) (low _ (by (first | lia | omega)))
    · rw [if_neg hi]
      split
      · exact hd i _ (by (first | lia | omega)) (by (first | lia | omega))
      · exact hd i j hij (by (first | lia | omega))
  · rw [if_neg hr0]
    exact tail_up T hcmp hp' (by (first | lia | omega)) hk hd q
theorem count_up {Q : Nat × Array Nat → Shared → Prop} {p : Array Nat} (hp : OkP n p) (h1 : 1 ≤ n) (q : ∀ k p', OkP n p' → 1 ≤ k → k ≤ n → Up c p' k → Q (k, p') s) : (kas_count n p).kasWp cmp Q s := by
  unfold kas_count
  rw [KasT.kasWp_bind]
  refine asc_up T hcmp hp (n - 1) 1 (Nat.le_refl _) (by (first | lia | omega)) (fun i j hij hj => by (first | lia | omega)) ?_
  intro m h2 h3 hu hs
  by_cases e1 : m = n
  · rw [if_pos (by simpa using e1)]
    exact q m p hp (by (first | lia | omega)) (by (first | lia | omega)) hu
  · rw [if_neg (by simpa using e1)]
    have hs : c (p.getD m 0) (p.getD (m - 1) 0) = true := hs.resolve_left (by (first | lia | omega))
    have up1 : ∀ i, i < m → c (p.getD (m - 1) 0) (p.getD i 0) = false := fun i hi => by
      by_cases e : i = m - 1
      · subst e; exact T.irr _
      · exact hu i (m - 1) (by (first | lia | omega)) (by (first | lia | omega))
    by_cases e2 : m > 1
    · rw [if_pos e2]
      show cmp (p.getD 0 0) (p.getD (m - 1) 0) _ s
      refine hcmp _ _ _ (hp.lt (by (first | lia | omega))) (hp.lt (by (first | lia | omega))) ?_
      cases e3 : c (p.getD 0 0) (p.getD (m - 1) 0) with
      | true => exact q m p hp (by (first | lia | omega)) (by (first | lia | omega)) hu
      | false =>
        simp only [Bool.false_eq_true, if_false]
        have hd := rev_dn hp (m := m) (by (first | lia | omega)) hu
        refine part_up T hcmp (rev_ok hp _ _) (by (first | lia | omega)) (by (first | lia | omega)) (fun i j hij hj => ?_) q
        by_cases hjm : j = m
        · subst hjm
          rw [rev_at hp (by (first | lia | omega)), rev_at hp (by (first | lia | omega)), if_pos (by (first | lia | omega)), if_neg (by (first | lia | omega))]
          have low : c (p.getD (0 + j - 1 - i) 0) (p.getD (j - 1) 0) = false := by
            by_cases e : 0 + j - 1 - i = 0
            · rw [e]; exact e3
            · exact T.tr _ _ _ e3 (hu 0 (0 + j - 1 - i) (by (first | lia | omega)) (by (first | lia | omega)))
          exact T.tr _ _ _ (T.asym _ _ hs) low
        · exact hd i j hij (by (first | lia | omega))
    · rw [if_neg e2]
      have e4 : m = 1 := by (first | lia | omega)
      subst e4
      refine part_up T hcmp hp (by (first | lia | omega)) (by (first | lia | omega)) (fun i j hij hj => ?_) q
      have ei : i = 0 := by (first | lia | omega)
      have ej : j = 1 := by (first | lia | omega)
      subst ei; subst ej
      exact T.asym _ _ hs
theorem place_at {Q : Nat → Shared → Prop} {p : Array Nat} (hp : OkP n p) {k : Nat} (hk : k < n) (hu : Up c p k) : ∀ (f l r : Nat), r ≤ k → l ≤ r → r - l ≤ f → (∀ i, i < l → c (p.getD k 0) (p.getD i 0) = false) → (∀ i, r ≤ i → i < k → c (p.getD k 0) (p.getD i 0) = true) →
    (∀ l, l ≤ k → (∀ i, i < l → c (p.getD k 0) (p.getD i 0) = false) → (∀ i, l ≤ i → i < k → c (p.getD k 0) (p.getD i 0) = true) → Q l s) → (kas_place p k f l r).kasWp cmp Q s
  | 0, l, r, hr, hl, hf, h1, h2, q => q l (by (first | lia | omega)) h1 fun i h3 h4 => h2 i (by (first | lia | omega)) h4
  | f + 1, l, r, hr, hl, hf, h1, h2, q => by
    unfold kas_place
    by_cases hlr : l ≥ r
    · rw [if_pos hlr]
      exact q l (by (first | lia | omega)) h1 fun i h3 h4 => h2 i (by (first | lia | omega)) h4
    · rw [if_neg hlr]
      show cmp (p.getD k 0) (p.getD ((l + r) / 2) 0) _ s
      refine hcmp _ _ _ (hp.lt hk) (hp.lt (by (first | lia | omega))) ?_
      cases e : c (p.getD k 0) (p.getD ((l + r) / 2) 0) with
      | true =>
        simp only [if_true]
        refine place_at hp hk hu f l ((l + r) / 2) (by (first | lia | omega)) (by (first | lia | omega)) (by (first | lia | omega)) h1 (fun i h3 h4 => ?_) q
        by_cases e2 : i = (l + r) / 2
        · subst e2; exact e
        · cases e3 : c (p.getD k 0) (p.getD i 0) with
          | true => rfl
          | false =>
            have := T.tr _ _ _ (hu ((l + r) / 2) i (by (first | lia | omega)) h4) e3
            rw [e] at this; cases this
      | false =>
        simp only [Bool.false_eq_true, if_false]
        refine place_at hp hk hu f ((l + r) / 2 + 1) r hr (by (first | lia | omega)) (by (first | lia | omega)) (fun i h3 => ?_) h2 q
        by_cases e2 : i = (l + r) / 2
        · subst e2; exact e
        · exact T.tr _ _ _ (hu i ((l + r) / 2) (by (first | lia | omega)) (by (first | lia | omega))) e
theorem bin_up {Q : Array Nat → Shared → Prop} : ∀ (f : Nat) (p : Array Nat) (k : Nat), OkP n p → k + f ≤ n → Up c p k → (∀ p', OkP n p' → Up c p' (k + f) → Q p' s) → (kas_bin f p k).kasWp cmp Q s
  | 0, p, k, hp, hf, hu, q => q p hp hu
  | f + 1, p, k, hp, hf, hu, q => by
    show ((kas_place p k k 0 k).bind fun l => kas_bin f (bubble p k (k - l)) (k + 1)).kasWp cmp Q s
    rw [KasT.kasWp_bind]
    refine place_at T hcmp hp (by (first | lia | omega)) hu k 0 k (Nat.le_refl _) (Nat.zero_le _) (by (first | lia | omega)) (fun i hi => by (first | lia | omega)) (fun i h1 h2 => by (first | lia | omega)) ?_
    intro l hl h1 h2
    have at1 : ∀ j, (bubble p k (k - l)).getD j 0 = if j = l then p.getD k 0 else if l < j ∧ j ≤ k then p.getD (j - 1) 0 else p.getD j 0 := by
      intro j
      have e := getElem?_bubble (xs := p) (src := k) (by rw [hp.size]; (first | lia | omega)) (k - l) (by (first | lia | omega)) j
      rw [show k - (k - l) = l by (first | lia | omega)] at e
      split
      · rename_i hc; rw [if_pos hc] at e; exact getD_q e
      · rename_i hc
        rw [if_neg hc] at e
        split
        · rename_i hc2; rw [if_pos hc2] at e; exact getD_q e
        · rename_i hc2; rw [if_neg hc2] at e; exact getD_q e
    refine bin_up f _ (k + 1) ((bubble_perm _ _ _).trans hp) (by (first | lia | omega)) (fun i j hij hj => ?_) (fun p' a b => q p' a (by rw [show k + (f + 1) = k + 1 + f by (first | lia | omega)]; exact b))
    rw [at1, at1]
    by_cases ej : j = l
    · subst ej
      rw [if_pos rfl, if_neg (by (first | lia | omega)), if_neg (by (first | lia | omega))]
      exact h1 i hij
    · rw [if_neg ej]
      by_cases ei : i = l
      · subst ei
        rw [if_pos rfl, if_pos (by (first | lia | omega))]
        exact T.asym _ _ (h2 (j - 1) (by (first | lia | omega)) (by (first | lia | omega)))
      · rw [if_neg ei]
        by_cases c1 : l < j ∧ j ≤ k
        · rw [if_pos c1]
          split
          · exact hu _ _ (by (first | lia | omega)) (by (first | lia | omega))
          · exact hu _ _ (by (first | lia | omega)) (by (first | lia | omega))
        · rw [if_neg c1, if_neg (by (first | lia | omega))]
          exact hu _ _ hij (by (first | lia | omega))
theorem sort_up {Q : Array Nat → Shared → Prop} (h1 : 1 ≤ n) (q : ∀ p, OkP n p → Up c p n → Q p s) : (kas_sort n).kasWp cmp Q s := by
  unfold kas_sort
  rw [KasT.kasWp_bind]
  refine count_up T hcmp (Array.Perm.refl _) h1 ?_
  intro k p hp hk1 hkn hu
  dsimp only
  by_cases hk : k < n
  · rw [if_pos hk]
    have e : max k 1 = k := by (first | lia | omega)
    rw [e]
    refine bin_up T hcmp (n - k) p k hp (by (first | lia | omega)) hu fun p' a b => q p' a ?_
    rw [show k + (n - k) = n by (first | lia | omega)] at b; exact b
  · rw [if_neg hk]
    have e : k = n := by (first | lia | omega)
    subst e
    exact q p hp hu
end
end
section
/-- an empty heap, and all that a heap holds beside a frame: so the kit's rules over Fr and News serve a frame over any ground -/
noncomputable def noH : Heap := {}
noncomputable def allN (h : Heap) (L : Addr) : List (Addr × Obj) := (List.range h.objs.size).filterMap fun a => if a = L then none else (h.get? a).map fun o => (a, o)
theorem noH_get (a : Addr) : noH.get? a = none := Heap.get?_none_of_le (Nat.zero_le _)
theorem mem_allN {h : Heap} {L : Addr} {q : Addr × Obj} : q ∈ allN h L ↔ q.1 ≠ L ∧ h.get? q.1 = some q.2 := by
  unfold allN
  rw [List.mem_filterMap]
  constructor
  · rintro ⟨a, _, e⟩
    split at e
    · cases e
    · rename_i ne
      obtain ⟨o, ho, rfl⟩ := Option.map_eq_some_iff.mp e
      exact ⟨ne, ho⟩
  · rintro ⟨ne, ho⟩
    refine ⟨q.1, List.mem_range.mpr (Heap.lt_size ho), ?_⟩
    rw [if_neg ne, ho]; rfl
theorem nw0 (h : Heap) (L : Addr) : News noH L h (allN h L) := fun q hq => ⟨(mem_allN.mp hq).2, (mem_allN.mp hq).1, noH_get _⟩
section
variable {w : World} {p : Program} {loose : List Str} {mean : ExcName → Option Value} {mg mb : Str → Option Value} {g h h' : Heap} {L : Addr} {m m' : Str → Option Value} {news : List (Addr × Obj)}
theorem FB.fr0 (f : FB w p loose mean mg mb g L h m news) : Fr noH L h m := ⟨f.ns, fun b o e => (by rw [noH_get] at e; cases e), Nat.zero_le _⟩
theorem FB.back0 (f : FB w p loose mean mg mb g L h m news) (F : Fr noH L h' m') (N : ∀ q ∈ allN h L, h'.get? q.1 = some q.2) : FB w p loose mean mg mb g L h' m' news ∧ TK h h' := by
  have k : ∀ a o, a ≠ L → h.get? a = some o → h'.get? a = some o := fun a o ne e => N (a, o) (mem_allN.mpr ⟨ne, e⟩)
  refine ⟨⟨F.ns, fun a o e => k a o (by rintro rfl; rw [f.out] at e; cases e) (f.keep a o e), f.out, fun q hq => ⟨k _ _ (f.N q hq).2.1 (f.N q hq).1, (f.N q hq).2⟩, f.B⟩, fun a vs e => k a _ ?_ e⟩
  rintro rfl
  obtain ⟨oL, es, ep, hL, hd, _⟩ := f.ns
  rw [e] at hL; cases hL; cases hd
end
section
variable {prog : Program} {w : World} {A : Around} {E : Value → Shared → Prop} {s : Shared}
theorem katlex_ints {b : Bool} {Q : Bool → Shared → Prop} : ∀ {vs us : List Value} {x y : List Int}, IntsAre vs x → IntsAre us y → ∀ i, Q (lexL x y) s → KatLex prog w A b (decide (vs.length < us.length)) Q (vs.zip us) i s
  | _, _, _, _, .nil, .nil, _, q => q
  | _, _, _, _, .nil, .cons y u hy, _, q => q
  | _, _, _, _, .cons x t hx, .nil, _, q => q
  | _, _, _, _, .cons (vs := vs) x t hx, .cons (vs := us) y u hy, i, q => by
    unfold lexL at q
    have ih := katlex_ints (b := b) (Q := Q) hx hy (i + 1)
    rw [List.zip_cons_cons]
    have e0 : decide ((Value.int x t :: vs).length < (Value.int y u :: us).length) = decide (vs.length < us.length) := by simp
    rw [e0]
    refine kat_cons (wpAny_eqBool_int ?_)
    by_cases e : x = y
    · rw [if_pos e] at q
      rw [show (x == y) = true by simpa using e]
      exact kat_yes (ih q)
    · rw [if_neg e] at q
      rw [show (x == y) = false by simpa using e]
      refine kat_no ?_
      cases hb : (b && i == 0) with
      | true => exact oneLt_int q
      | false => exact kat_one _ _ (lt_int q)
theorem ask_tup {b : Bool} {vs : List Value} {ks : List (List Int)} (hr : RelL (tupR s.heap) vs ks) {i j : Nat} (hi : i < ks.length) (hj : j < ks.length) {C : Bool → Shared → Prop} (q : C (lexL (ks.getD i []) (ks.getD j [])) s) : kas_ask prog w A (tuples' b) vs i j C s := by
  unfold kas_ask
  obtain ⟨v, hv, a, xs, rfl, ha, hx⟩ := hr.get (List.getElem?_eq_getElem hi)
  obtain ⟨u, hu, c, ys, rfl, hc, hy⟩ := hr.get (List.getElem?_eq_getElem hj)
  rw [List.getD_eq_getElem?_getD, List.getD_eq_getElem?_getD, hv, hu]
  rw [List.getD_eq_getElem?_getD, List.getD_eq_getElem?_getD, List.getElem?_eq_getElem hi, List.getElem?_eq_getElem hj] at q
  refine kat_lt ha rfl hc rfl ?_
  have := katlex_ints (prog := prog) (w := w) (A := A) (b := b) (Q := C) (s := s) hx hy 0 q
  simpa using this
theorem firsts_of {h : Heap} : ∀ {vs : List Value} {ks : List (List Int)}, RelL (tupR h) vs ks → (∀ k ∈ ks, k ≠ []) → ∃ fs, KatTups h vs fs ∧ fs.length = vs.length ∧ ∀ f ∈ fs, ∃ n t, f = .int n t
  | [], [], _, _ => ⟨[], .nil, rfl, fun f hf => by cases hf⟩
  | [], _ :: _, h, _ => by have := h.1; simp at this
  | _ :: _, [], h, _ => by have := h.1; simp at this
  | v :: vs, k :: ks, hr, hk => by
    obtain ⟨a, xs, rfl, ha, hx⟩ := hr.2 0 v k rfl rfl
    obtain ⟨fs, h1, h2, h3⟩ := firsts_of (h := h) (vs := vs) (ks := ks) ⟨by simpa using hr.1, fun i v k a b => hr.2 (i + 1) v k a b⟩ fun k hk' => hk k (.tail _ hk')
    cases hx with
    | nil => exact absurd rfl (hk [] (.head _))
    | @cons n t xs ns hx =>
      refine ⟨.int n t :: fs, .cons ha rfl rfl rfl h1, by simp [h2], fun f hf => ?_⟩
      rcases List.mem_cons.mp hf with rfl | hf
      · exact ⟨n, t, rfl⟩
      · exact h3 f hf
theorem lex_places (ks : List (List Int)) : Tot (fun i j : Nat => lexL (ks.getD i []) (ks.getD j [])) := ⟨fun a b => lexL_asym _ _, fun a b c => lexL_tr _ _ _⟩
theorem map_getD_range {α : Type} (d : α) (ks : List α) : (List.range ks.length).map (fun i => ks.getD i d) = ks := by
  apply List.ext_getElem?
  intro i
  rw [List.getElem?_map]
  by_cases hi : i < ks.length
  · rw [List.getElem?_range hi, List.getElem?_eq_getElem hi]
    simp [hi]
  · rw [List.getElem?_eq_none (by simpa using hi), List.getElem?_eq_none (by simpa using hi)]; rfl
theorem sorted_out {h : Heap} {vs : List Value} {ks : List (List Int)} (hr : RelL (tupR h) vs ks) {p : Array Nat} (hp : OkP ks.length p) (hu : Up (fun i j : Nat => lexL (ks.getD i []) (ks.getD j [])) p ks.length) :
    RelL (tupR h) (p.toList.map fun i => vs.getD i Value.none) (p.toList.map fun i => ks.getD i []) ∧ (p.toList.map fun i => ks.getD i []).Perm ks ∧ (p.toList.map fun i => ks.getD i []).Pairwise (fun a b => lexL b a = false) := by
  have pl : p.toList.Perm (List.range ks.length) := Array.perm_iff_toList_perm.mp hp
  refine ⟨⟨by simp, fun i v k hv hk => ?_⟩, ?_, ?_⟩
  · rw [List.getElem?_map] at hv hk
    obtain ⟨x, hx, rfl⟩ := Option.map_eq_some_iff.mp hv
    rw [hx] at hk
    simp only [Option.map_some, Option.some.injEq] at hk
    subst hk
    have hxl : x < ks.length := List.mem_range.mp (pl.subset (List.mem_of_getElem? hx))
    obtain ⟨v, hv, r⟩ := hr.get (List.getElem?_eq_getElem hxl)
    rw [List.getD_eq_getElem?_getD, List.getD_eq_getElem?_getD, hv, List.getElem?_eq_getElem hxl]
    exact r
  · have := pl.map (fun i => ks.getD i [])
    rwa [map_getD_range] at this
  · rw [List.pairwise_map, List.pairwise_iff_getElem]
    intro i j hi hj hij
    have hsz : p.toList.length = ks.length := by rw [pl.length_eq, List.length_range]
    have := hu i j hij (by (first | lia | omega))
    have ei : p.getD i 0 = p.toList[i] := by
      have : i < p.size := by simpa using hi
      simp [Array.getD, this]
    have ej : p.getD j 0 = p.toList[j] := by
      have : j < p.size := by simpa using hj
      simp [Array.getD, this]
    rw [ei, ej] at this
    exact this
end
section
variable {prog : Program} {w : World} {A : Around} {E : Value → Shared → Prop} {p : Program} {loose : List Str} {mean : ExcName → Option Value} {mg mb : Str → Option Value} {g h : Heap} {ge : Array GenState} {dr : Drawn} {tk : Nat} {os : OsState}
  {L : Addr} {m : Str → Option Value} {news : List (Addr × Obj)} {Q : Value → Shared → Prop}
theorem ml_sortedT2 {l : Addr} {vs : List Value} {ks : List (List Int)} {c : Nat} (f : FB w p loose mean mg mb g L h m news) (hl : h.get? l = some (listOf vs.toArray c)) (hr : RelL (tupR h) vs ks) (h2 : 2 ≤ ks.length) (h64 : ks.length < 64) (hne : ∀ k ∈ ks, k ≠ [])
    (q : ∀ l' h' vs' ks' c', FB w p loose mean mg mb g L h' m ((l', listOf vs'.toArray c') :: news) → (∀ q ∈ news, q.1 ≠ l') → RelL (tupR h') vs' ks' → ks'.Perm ks → ks'.Pairwise (fun a b => lexL b a = false) → TK h h' → Q (.ref l') ⟨h', ge, dr, tk, os⟩) :
    wpAny (model prog w) A (call (.builtin "sorted") [.ref l]) Q E ⟨h, ge, dr, tk, os⟩ := by
  refine kat_sorted (s := ⟨h, ge, dr, tk, os⟩) f.fr0 (nw0 h L) (isList_of hl) (by rw [hr.1]; exact h2) (by rw [hr.1]; exact h64) ?_
  intro D e1 h1 F1 N1 lD
  obtain ⟨f1, t1⟩ := f.back0 F1 fun q hq => (N1 q (.tail _ hq)).1
  have hr1 : RelL (tupR h1) vs ks := hr.mono fun _ _ => tupV.keep t1
  obtain ⟨fs, k1, k2, k3⟩ := firsts_of hr1 hne
  refine kat_kind (T := .type "int") k1 (by rw [k2, hr.1]; (first | lia | omega)) (fun v hv => ?_) (by decide +kernel) ?_
  · obtain ⟨n, t, rfl⟩ := k3 v hv
    exact Looks.of_pure rfl
  rw [hr.1]
  refine sort_up (lex_places ks) (fun i j C hi hj hC => ask_tup (s := ⟨h1, ge, dr, tk, os⟩) hr1 hi hj hC) (by (first | lia | omega)) ?_
  intro P hP hU
  obtain ⟨o1, o2, o3⟩ := sorted_out hr hP hU
  refine KasFin.intro F1 N1 (.head fun q hq => Nat.ne_of_lt (lD q hq)) ?_
  intro h3 c3 F3 N3
  obtain ⟨f3, t3⟩ := f.back0 F3 fun q hq => (N3 q (.tail _ hq)).1
  have hD := N3 _ (.head _)
  have hDn : h.get? D = none := by
    cases e : h.get? D with
    | none => rfl
    | some o => exact absurd (lD (D, o) (mem_allN.mpr ⟨hD.2.1, e⟩)) (Nat.lt_irrefl _)
  refine q D h3 _ _ c3 (f3.cons hD.1 hD.2.1 ?_) (fun q hq e => ?_) (o1.mono fun _ _ => tupV.keep t3) o2 o3 t3
  · cases e : g.get? D with
    | none => rfl
    | some o => rw [f.keep _ _ e] at hDn; cases hDn
  · have := (f.N q hq).1
    rw [e, hDn] at this; cases this
end
end
section
theorem tupR.chg {h h' : Heap} {v : Value} {k : List Int} {S : List Addr} (r : tupR h v k) (C : Ch S h h') (hS : ∀ a ∈ S, ∀ vs, h.get? a ≠ some (tupO vs)) : tupR h' v k := tupV.keep (TK.of_ch C hS) r
section
variable {prog : Program} {w : World} {A : Around} {E : Value → Shared → Prop} {R : Result → Shared → Prop} {s : Shared}
/-- the least of two tuples, the loop -/
theorem min2_loop (hh : A.handled = none) {l I S : Addr} {v1 v2 : Value} {k1 k2 : List Int} {c : Nat} (hlI : l ≠ I) (hSI : S ≠ I) (hSl : S ≠ l) (hs : s.heap.IsListIter I l 0 ∧ s.heap.IsList l #[v1, v2]) (hS : s.heap.get? S = some (listOf #[] c))
    (r1 : tupR s.heap v1 k1) (r2 : tupR s.heap v2 k2) (hu : A.units + 8 < cLine)
    (hR : ∀ h' tk, (∀ b o, b ≠ I → b ≠ S → s.heap.get? b = some o → h'.get? b = some o) → R (.ok (.ret (if lexL k2 k1 = true then v2 else v1))) { s with heap := h', toks := tk }) :
    codeAny (model prog w) A (.builtin "min.loop" ⟨[.ref I, .none, .ref S], []⟩) R s := by
  have hname : (toString "min" ++ toString ".loop" : String) = "min.loop" := by decide
  have W := Walks.list (prog := prog) (w := w) (A := A.in1) hh I l hlI #[v1, v2]
  have hSf : S ∉ [I, l] := by simp; exact ⟨hSI, hSl⟩
  have nt : ∀ (h : Heap) (xs : Array Value) (c : Nat), h.get? S = some (listOf xs c) → ∀ a ∈ [S], ∀ vs, h.get? a ≠ some (tupO vs) := fun h xs c e a ha vs e2 => by
    rw [List.mem_singleton] at ha; subst ha
    rw [e] at e2; exact lst_ne _ _ vs (Option.some.inj e2)
  have ntI : ∀ (h : Heap) (i : Nat), h.IsListIter I l i → ∀ a ∈ [I], ∀ vs, h.get? a ≠ some (tupO vs) := fun h i hi a ha vs e2 => by
    rw [List.mem_singleton] at ha; subst ha
    obtain ⟨o, ho, hn⟩ := lit_ne hi
    rw [ho] at e2; exact hn vs (Option.some.inj e2)
  refine codeAny_builtin PySem.F.entry_min_loop ?_
  rw [Around.under_plainId PySem.F.plain_min_loop _]
  show wpAny _ A.in1 (seqItems? (.ref S) >>= _) _ _ s
  refine wpAny_bind (wpAny_seqItems hS rfl ?_)
  show wpAny _ A.in1 (tryCatch (pyNext (.ref I)) _ >>= _) _ _ s
  refine wpAny_bind (wpAny_tryCatch (W.item 0 s _ _ (by simp) hs fun v h' tk hP hst' hk' => ?_))
  have e1 : v1 = v := by simpa using hP
  subst e1
  have hS' := hk' S _ (by simpa using hSI) hS
  show wpAny _ A.in1 (updateSeq S (fun _ => #[v1, v1]) >>= _) _ _ _
  refine wpAny_bind ?_
  refine wpAny_updateSeq hS' rfl ?_
  have C1 : Ch [I] s.heap h' := fun a o n e => hk' a o n e
  have hs1 : Heap.SameBut S h' (h'.update S (Obj.mapSeq fun _ => #[v1, v1])) := Heap.SameBut.update ..
  have ho1 : (h'.update S (Obj.mapSeq fun _ => #[v1, v1])).get? S = some (listOf #[v1, v1] (if (#[v1, v1] : Array Value).size == (#[] : Array Value).size then c else c + 1)) := Heap.get?_update_self _ hS' rfl
  have r1' := (r1.chg C1 (ntI _ _ hs.1)).chg (Ch.of_same hs1) (nt _ _ _ hS')
  have r2' := (r2.chg C1 (ntI _ _ hs.1)).chg (Ch.of_same hs1) (nt _ _ _ hS')
  have hst1 : _ := W.frame _ _ _ hst' fun b hbf o e => (hs1.2 b (fun h : b = S => hSf (h ▸ hbf))).trans e
  have k1' : ∀ b o, b ≠ I → b ≠ S → s.heap.get? b = some o → (h'.update S (Obj.mapSeq fun _ => #[v1, v1])).get? b = some o := fun b o n1 n2 e => (hs1.2 b n2).trans (hk' b o (by simpa using n1) e)
  generalize h'.update S (Obj.mapSeq fun _ => #[v1, v1]) = h1 at *
  rw [hname]
  refine wpAny_pure ⟨plainId_quiet PySem.F.plain_min_loop _, ?_⟩
  refine codeAny_builtin PySem.F.entry_min_loop ?_
  rw [Around.under_plainId PySem.F.plain_min_loop _]
  show wpAny _ A.in1 (seqItems? (.ref S) >>= _) _ _ _
  refine wpAny_bind (wpAny_seqItems ho1 rfl ?_)
  show wpAny _ A.in1 (tryCatch (pyNext (.ref I)) _ >>= _) _ _ _
  refine wpAny_bind (wpAny_tryCatch (W.item 1 ⟨h1, s.gens, s.drawn, tk, s.os⟩ _ _ (by simp) hst1 fun v h2 tk2 hP2 hst2 hk2 => ?_))
  have e2 : v2 = v := by simpa using hP2
  subst e2
  have hS2 := hk2 S _ (by simpa using hSI) ho1
  have C2 : Ch [I] h1 h2 := fun a o n e => hk2 a o n e
  have r1'' := r1'.chg C2 (ntI _ _ hst1.1)
  have r2'' := r2'.chg C2 (ntI _ _ hst1.1)
  have k2' : ∀ b o, b ≠ I → b ≠ S → s.heap.get? b = some o → h2.get? b = some o := fun b o n1 n2 e => hk2 b o (by simpa using n1) (k1' b o n1 n2 e)
  show wpAny _ A.in1 (tryCatch (holding [v2, v2] (richCompare .Lt v2 v1 >>= _)) _ >>= _) _ _ _
  refine wpAny_bind (wpAny_tryCatch (wpAny_holding (wpAny_bind ?_)))
  have fin : ∀ (h3 : Heap) (vb : Value) (tk3 c3 : Nat), h3.get? S = some (listOf #[vb, vb] c3) → h3.IsListIter I l 2 ∧ h3.IsList l #[v1, v2] → (∀ b o, b ≠ I → b ≠ S → s.heap.get? b = some o → h3.get? b = some o) → vb = (if lexL k2 k1 = true then v2 else v1) →
      codeAny (model prog w) A (.builtin "min.loop" ⟨[.ref I, .none, .ref S], []⟩) R ⟨h3, s.gens, s.drawn, tk3, s.os⟩ := by
    intro h3 vb tk3 c3 hS3 hst3 k3 hvb
    refine codeAny_builtin PySem.F.entry_min_loop ?_
    rw [Around.under_plainId PySem.F.plain_min_loop _]
    show wpAny _ A.in1 (seqItems? (.ref S) >>= _) _ _ _
    refine wpAny_bind (wpAny_seqItems hS3 rfl ?_)
    show wpAny _ A.in1 (tryCatch (pyNext (.ref I)) _ >>= _) _ _ _
    refine wpAny_bind (wpAny_tryCatch (W.done ⟨h3, s.gens, s.drawn, tk3, s.os⟩ _ _ hst3 fun h4 tk4 hk4 => ?_))
    have hS4 := hk4 S _ (by simpa using hSI) hS3
    show wpAny _ A.in1 (updateSeq S (fun _ => #[]) >>= _) _ _ _
    refine wpAny_bind ?_
    refine wpAny_updateSeq hS4 rfl (wpAny_bind (wpAny_letGo (wpAny_pure ?_)))
    rw [hvb]
    exact hR _ tk4 fun b o n1 n2 e => (Heap.get?_update_other _ _ (Ne.symm n2)).trans (hk4 b o (by simpa using n1) (k3 b o n1 n2 e))
  refine tupV.cmp (x := k2) (y := k1) (by show A.units + 1 < cLine; (first | lia | omega)) r2'' r1'' ?_
  refine wpAny_bind (wpAny_holding (wpAny_truthy_bool ?_))
  refine wpAny_bind (wpAny_letGo (wpAny_pure ?_))
  show wpAny _ _ (if lexL k2 k1 = true then _ else _) _ _ _
  cases hb : lexL k2 k1 with
  | true =>
    simp only [if_true]
    refine wpAny_bind ?_
    refine wpAny_updateSeq hS2 rfl (wpAny_bind (wpAny_letGo ?_))
    rw [hname]
    refine wpAny_pure ⟨plainId_quiet PySem.F.plain_min_loop _, ?_⟩
    have hs3 : Heap.SameBut S h2 (h2.update S (Obj.mapSeq fun _ => #[v2, v2])) := Heap.SameBut.update ..
    exact fin _ v2 _ _ (Heap.get?_update_self _ hS2 rfl) (W.frame _ _ _ hst2 fun b hbf o e => (hs3.2 b (fun h : b = S => hSf (h ▸ hbf))).trans e) (fun b o n1 n2 e => (hs3.2 b n2).trans (k2' b o n1 n2 e)) (by rw [hb]; rfl)
  | false =>
    simp only [Bool.false_eq_true, if_false]
    refine wpAny_bind (wpAny_letGo ?_)
    rw [hname]
    refine wpAny_pure ⟨plainId_quiet PySem.F.plain_min_loop _, ?_⟩
    exact fin _ v1 _ _ hS2 hst2 k2' (by rw [hb]; rfl)
end
end
section
theorem keyAt_none_iff {κ : Type} {D : List (Nat × κ)} {k : Nat} : keyAt D k = none ↔ k ∉ D.map (·.1) := by
  unfold keyAt
  rw [List.findIdx?_eq_none_iff]
  constructor
  · intro h hm
    obtain ⟨d, hd, rfl⟩ := List.mem_map.mp hm
    have := h d hd
    simp at this
  · intro h d hd
    have : d.1 ≠ k := fun e => h (e ▸ List.mem_map_of_mem hd)
    simpa using this
theorem keyAt_split {κ : Type} {D : List (Nat × List κ)} {k i : Nat} (h : keyAt D k = some i) :
    ∃ pre old post, D = pre ++ (k, old) :: post ∧ lstD D k = old ∧ ∀ ks, setD D k ks = pre ++ (k, ks) :: post := by
  obtain ⟨d, hd, rfl⟩ := keyAt_lt h
  have hl := (List.getElem?_eq_some_iff.mp hd).1
  have he := (List.getElem?_eq_some_iff.mp hd).2
  have sp : D = D.take i ++ (d.1, d.2) :: D.drop (i + 1) := by
    have : D.drop i = d :: D.drop (i + 1) := by rw [List.drop_eq_getElem_cons hl, he]
    rw [show ((d.1, d.2) : Nat × List κ) = d from rfl, ← this, List.take_append_drop]
  refine ⟨D.take i, d.2, D.drop (i + 1), sp, lstD_at h hd, fun ks => ?_⟩
  unfold setD
  rw [h]
  show D.modify i _ = _
  apply List.ext_getElem?
  intro j
  rw [List.getElem?_modify]
  by_cases e : j < i
  · rw [List.getElem?_append_left (by rw [List.length_take]; (first | lia | omega)), List.getElem?_take_of_lt e]
    have ne : ¬ i = j := by (first | lia | omega)
    simp [ne]
  · have lt : (D.take i).length = i := by rw [List.length_take]; (first | lia | omega)
    rw [List.getElem?_append_right (by (first | lia | omega)), lt]
    by_cases e2 : j = i
    · subst e2
      rw [Nat.sub_self, hd]; simp
    · obtain ⟨m, rfl⟩ : ∃ m, j = i + (m + 1) := ⟨j - i - 1, by (first | lia | omega)⟩
      rw [Nat.add_sub_cancel_left, List.getElem?_cons_succ, List.getElem?_drop, show i + 1 + m = i + (m + 1) by (first | lia | omega)]
      simp
end
section
/-- a way: home, place, length -/
noncomputable abbrev Way := Nat × Nat × Nat
noncomputable def pairW (w : Way) : List Int := [((w.2.2 : Nat) : Int), ((w.2.1 : Nat) : Int)]
noncomputable def Wof (ws : List Way) (u : Nat) : List (List Int) := (ws.filter fun w => w.1 == u).map pairW
theorem mem_Wof {ws : List Way} {u : Nat} {x : List Int} : x ∈ Wof ws u ↔ ∃ v l, (u, v, l) ∈ ws ∧ x = [((l : Nat) : Int), ((v : Nat) : Int)] := by
  unfold Wof
  rw [List.mem_map]
  constructor
  · rintro ⟨⟨a, b, c⟩, hm, rfl⟩
    obtain ⟨h1, h2⟩ := List.mem_filter.mp hm
    have : a = u := by simpa using h2
    subst this
    exact ⟨b, c, h1, rfl⟩
  · rintro ⟨v, l, hm, rfl⟩
    exact ⟨(u, v, l), List.mem_filter.mpr ⟨hm, by simp⟩, rfl⟩
theorem mem_Wof2 {ws : List Way} {u l v : Nat} : [((l : Nat) : Int), ((v : Nat) : Int)] ∈ Wof ws u ↔ (u, v, l) ∈ ws := by
  rw [mem_Wof]
  constructor
  · rintro ⟨v', l', hm, e⟩
    simp only [List.cons.injEq, and_true] at e
    have h1 : l = l' := by (first | lia | omega)
    have h2 : v = v' := by (first | lia | omega)
    subst h1; subst h2; exact hm
  · intro h; exact ⟨v, l, h, rfl⟩
structure GoodWays (ws : List Way) : Prop where
  home : ∀ w ∈ ws, w.1 < 7
  place : ∀ w ∈ ws, w.2.1 < 7
  len1 : ∀ w ∈ ws, 1 ≤ w.2.2
  len4 : ∀ w ∈ ws, w.2.2 ≤ 4
/-- a walk of so many ways, so long -/
inductive Walk (ws : List Way) (a : Nat) : Nat → Nat → Nat → Prop where
  | nil : Walk ws a 0 a 0
  | snoc {k u v d l : Nat} : Walk ws a k u d → (u, v, l) ∈ ws → Walk ws a (k + 1) v (d + l)
theorem Walk.le4 {ws : List Way} (G : GoodWays ws) {a k v d : Nat} (h : Walk ws a k v d) : d ≤ 4 * k := by
  induction h with
  | nil => exact Nat.le_refl _
  | snoc _ hw ih => have := G.len4 _ hw; simp at this; (first | lia | omega)
theorem lstD_set {κ : Type} {D : List (Nat × List κ)} {k i : Nat} (hk : keyAt D k = some i) (ks : List κ) : lstD (setD D k ks) k = ks ∧ (∀ j, j ≠ k → lstD (setD D k ks) j = lstD D j) := by
  obtain ⟨d, hd, e⟩ := keyAt_lt hk
  have es : setD D k ks = D.modify i fun d => (d.1, ks) := by unfold setD; rw [hk]
  constructor
  · rw [es]
    have h2 : keyAt (D.modify i fun d => (d.1, ks)) k = some i := by rw [keyAt_modify (F := fun _ => ks)]; exact hk
    exact lstD_at (d := (d.1, ks)) h2 (by rw [List.getElem?_modify, hd]; simp)
  · intro j hj
    rw [es]
    unfold lstD
    rw [keyAt_modify (F := fun _ => ks)]
    cases hj2 : keyAt D j with
    | none => rfl
    | some i2 =>
      obtain ⟨d2, hd2, e2⟩ := keyAt_lt hj2
      have ne : i ≠ i2 := by
        rintro rfl
        rw [hd] at hd2; cases hd2
        exact hj (e2.symm.trans e)
      dsimp only
      rw [List.getElem?_modify, hd2]
      simp [ne]
theorem setD_fst {κ : Type} (D : List (Nat × List κ)) (k : Nat) (ks : List κ) : (setD D k ks).map (·.1) = D.map (·.1) := by
  cases hk : keyAt D k with
  | none => unfold setD; rw [hk]
  | some i =>
    obtain ⟨pre, old, post, e, _, e2⟩ := keyAt_split hk
    rw [e2, e]; simp
theorem lookD_fst {κ : Type} (fr : Bool) (D : List (Nat × List κ)) (k : Nat) : (lookD fr D k).map (·.1) = if fr = false ∧ k ∉ D.map (·.1) then D.map (·.1) ++ [k] else D.map (·.1) := by
  unfold lookD
  cases hk : keyAt D k with
  | some i =>
    dsimp only
    have : k ∈ D.map (·.1) := by
      obtain ⟨d, hd, rfl⟩ := keyAt_lt hk
      exact List.mem_map_of_mem (f := (·.1)) (List.mem_of_getElem? hd)
    rw [if_neg (by simp [this])]
  | none =>
    dsimp only
    have hm := keyAt_none_iff.mp hk
    cases fr with
    | true => simp
    | false => simp [hm]
theorem setD_mem {κ : Type} {D : List (Nat × List κ)} {k : Nat} {ks : List κ} {d : Nat × List κ} (hd : d ∈ setD D k ks) : d ∈ D ∨ d.2 = ks := by
  unfold setD at hd
  split at hd
  · obtain ⟨j, hj⟩ := List.mem_iff_getElem?.mp hd
    rw [List.getElem?_modify] at hj
    obtain ⟨d0, h0, rfl⟩ := Option.map_eq_some_iff.mp hj
    split
    · exact .inr rfl
    · exact .inl (List.mem_of_getElem? h0)
  · exact .inl hd
theorem lookD_mem {κ : Type} {fr : Bool} {D : List (Nat × List κ)} {k : Nat} {d : Nat × List κ} (hd : d ∈ lookD fr D k) : d ∈ D ∨ d.2 = [] := by
  unfold lookD at hd
  split at hd
  · exact .inl hd
  · split at hd
    · exact .inl hd
    · rcases List.mem_append.mp hd with hd | hd
      · exact .inl hd
      · rw [List.mem_singleton] at hd; subst hd; exact .inr rfl
theorem lookD_nodup {κ : Type} {fr : Bool} {D : List (Nat × List κ)} {k : Nat} (h : (D.map (·.1)).Nodup) : ((lookD fr D k).map (·.1)).Nodup := by
  rw [lookD_fst]
  split
  · rename_i hc
    rw [List.nodup_append]
    refine ⟨h, by simp, fun a ha b hb e => ?_⟩
    rw [List.mem_singleton] at hb
    subst hb; subst e; exact hc.2 ha
  · exact h
theorem key_of_lst {κ : Type} {D : List (Nat × List κ)} {k : Nat} (h : lstD D k ≠ []) : ∃ i, keyAt D k = some i := by
  cases hk : keyAt D k with
  | some i => exact ⟨i, rfl⟩
  | none => exact absurd (by unfold lstD; rw [hk]) h
/-- how much the book holds -/
noncomputable def totD {κ : Type} (D : List (Nat × List κ)) : Nat := (D.map fun d => d.2.length).sum
theorem totD_look {κ : Type} (fr : Bool) (D : List (Nat × List κ)) (k : Nat) : totD (lookD fr D k) = totD D := by
  unfold lookD totD
  split
  · rfl
  · split
    · rfl
    · simp
theorem totD_set {κ : Type} {D : List (Nat × List κ)} {k i : Nat} (hk : keyAt D k = some i) (ks : List κ) : totD (setD D k ks) + (lstD D k).length = totD D + ks.length := by
  obtain ⟨pre, old, post, e, e1, e2⟩ := keyAt_split hk
  rw [e2, e1, e]
  unfold totD
  simp only [List.map_append, List.map_cons, List.sum_append, List.sum_cons]
  (first | lia | omega)
/-- the offer: a home's least way, off its list, into the heap -/
noncomputable def offD (fr : Bool) (D : List (Nat × List (List Int))) (u : Nat) : List (Nat × List (List Int)) := match hpop lexL (lstD D u) with
  | some (_, k) => setD (lookD fr D u) u k
  | none => lookD fr D u
noncomputable def offH (D : List (Nat × List (List Int))) (u : Nat) (H : List (List Int)) (far rank : Int) : List (List Int) := match hpop lexL (lstD D u) with
  | some (y, _) => hpush lexL H [far + y.getD 0 0, rank, y.getD 1 0, far, ((u : Nat) : Int)]
  | none => H
theorem off_spec {fr : Bool} {D : List (Nat × List (List Int))} {u : Nat} {H : List (List Int)} {far rank : Int} (hn : (D.map (·.1)).Nodup) (hh : ∀ d ∈ D, HeapFrom lexL 0 d.2) (hH : HeapFrom lexL 0 H) :
    ((offD fr D u).map (·.1)).Nodup ∧ (offD fr D u).map (·.1) = (lookD fr D u).map (·.1) ∧ (∀ d ∈ offD fr D u, HeapFrom lexL 0 d.2) ∧ HeapFrom lexL 0 (offH D u H far rank) ∧ (∀ j, j ≠ u → lstD (offD fr D u) j = lstD D j) ∧
      totD (offD fr D u) + (offH D u H far rank).length = totD D + H.length ∧
      ((lstD D u = [] ∧ lstD (offD fr D u) u = [] ∧ offH D u H far rank = H) ∨
        ∃ y, (y :: lstD (offD fr D u) u).Perm (lstD D u) ∧ (∀ x ∈ lstD D u, lexL x y = false) ∧ (offH D u H far rank).Perm ([far + y.getD 0 0, rank, y.getD 1 0, far, ((u : Nat) : Int)] :: H)) := by
  by_cases he : lstD D u = []
  · have hp : hpop lexL (lstD D u) = none := by rw [he]; rfl
    have e1 : offD fr D u = lookD fr D u := by unfold offD; rw [hp]
    have e2 : offH D u H far rank = H := by unfold offH; rw [hp]
    rw [e1, e2]
    refine ⟨lookD_nodup hn, rfl, fun d hd => ?_, hH, fun j _ => lstD_look _ _ _ _, by rw [totD_look], .inl ⟨he, by rw [lstD_look]; exact he, rfl⟩⟩
    rcases lookD_mem hd with h | h
    · exact hh d h
    · rw [h]; exact fun i j a b _ _ ha _ => by simp at ha
  · obtain ⟨y, k, hp, hl⟩ := hpop_some lexL he
    have e1 : offD fr D u = setD (lookD fr D u) u k := by unfold offD; rw [hp]
    have e2 : offH D u H far rank = hpush lexL H [far + y.getD 0 0, rank, y.getD 1 0, far, ((u : Nat) : Int)] := by unfold offH; rw [hp]
    rw [e1, e2]
    have hl1 : lstD (lookD fr D u) u ≠ [] := by rw [lstD_look]; exact he
    obtain ⟨i, hi⟩ := key_of_lst hl1
    obtain ⟨s1, s2⟩ := lstD_set hi k
    obtain ⟨i0, hi0⟩ := key_of_lst he
    have hin : ((u, lstD D u) : Nat × List (List Int)) ∈ D := by
      obtain ⟨pre, old, post, e, e', -⟩ := keyAt_split hi0
      rw [e', e]; simp
    obtain ⟨q1, q2, q3⟩ := hpop_heap lexL_tot (hh _ hin) hp
    obtain ⟨p1, p2⟩ := hpush_heap lexL_tot [far + y.getD 0 0, rank, y.getD 1 0, far, ((u : Nat) : Int)] hH
    have ht := totD_set hi k
    rw [totD_look, lstD_look] at ht
    refine ⟨by rw [setD_fst]; exact lookD_nodup hn, setD_fst _ _ _, fun d hd => ?_, p1, fun j hj => by rw [s2 j hj, lstD_look], ?_, .inr ⟨y, by rw [s1]; exact q2, q3, p2⟩⟩
    · rcases setD_mem hd with h | h
      · rcases lookD_mem h with h | h
        · exact hh d h
        · rw [h]; exact fun i j a b _ _ ha _ => by simp at ha
      · rw [h]; exact q1
    · rw [hpush_len]; (first | lia | omega)
end
section
noncomputable def tri (s : Nat × Nat × Nat) : List Int := [((s.1 : Nat) : Int), ((s.2.1 : Nat) : Int), ((s.2.2 : Nat) : Int)]
noncomputable def five (f r v b : Nat) (u : Int) : List Int := [((f : Nat) : Int), ((r : Nat) : Int), ((v : Nat) : Int), ((b : Nat) : Int), u]
theorem five_inj {f r v b f' r' v' b' : Nat} {u u' : Int} (h : five f r v b u = five f' r' v' b' u') : f = f' ∧ r = r' ∧ v = v' ∧ b = b' ∧ u = u' := by
  unfold five at h
  simp only [List.cons.injEq, and_true] at h
  (first | lia | omega)
theorem lex2 {a b c d : Int} : lexL [a, b] [c, d] = false ↔ c < a ∨ (a = c ∧ d ≤ b) := by
  simp only [lexL]
  by_cases e : a = c
  · subst e
    rw [if_pos rfl]
    by_cases e2 : b = d
    · subst e2; simp
    · rw [if_neg e2, decide_eq_false_iff_not]; (first | lia | omega)
  · rw [if_neg e, decide_eq_false_iff_not]; (first | lia | omega)
theorem lex3 {a b c x y z : Int} : lexL [a, b, c] [x, y, z] = false ↔ x < a ∨ (a = x ∧ (y < b ∨ (b = y ∧ z ≤ c))) := by
  rw [lexL]
  by_cases e : a = x
  · subst e
    rw [if_pos rfl, lex2]; simp
  · rw [if_neg e, decide_eq_false_iff_not]; (first | lia | omega)
theorem take3 {a b : List Int} (h : lexL a b = false) {x y z x' y' z' : Int} {r r' : List Int} (ha : a = x :: y :: z :: r) (hb : b = x' :: y' :: z' :: r') : lexL [x, y, z] [x', y', z'] = false := by
  subst ha; subst hb
  rw [lex3]
  rw [lexL] at h
  by_cases e : x = x'
  · rw [if_pos e, lexL] at h
    by_cases e2 : y = y'
    · rw [if_pos e2, lexL] at h
      by_cases e3 : z = z'
      · (first | lia | omega)
      · rw [if_neg e3] at h
        have h : ¬ z < z' := by simpa using h
        (first | lia | omega)
    · rw [if_neg e2] at h
      have h : ¬ y < y' := by simpa using h
      (first | lia | omega)
  · rw [if_neg e] at h
    have h : ¬ x < x' := by simpa using h
    (first | lia | omega)
/-- a place is settled as near, from as good a post -/
noncomputable def Done (S : List (Nat × Nat × Nat)) (v d r : Nat) : Prop := ∃ f' r', (f', r', v) ∈ S ∧ (f' < d ∨ (f' = d ∧ r' ≤ r))
theorem Done.mono {S S' : List (Nat × Nat × Nat)} {v d r : Nat} (h : Done S v d r) (hs : ∀ s ∈ S, s ∈ S') : Done S' v d r := by
  obtain ⟨f, r', h1, h2⟩ := h
  exact ⟨f, r', hs _ h1, h2⟩
noncomputable def Cand (ws : List Way) (post : Nat → Nat) (D : List (Nat × List (List Int))) (S : List (Nat × Nat × Nat)) (e : List Int) : Prop :=
  (∃ r, r < 2 ∧ e = five 0 r (post r) 0 (-1)) ∨ ∃ f r u l v : Nat, (f, r, u) ∈ S ∧ (u, v, l) ∈ ws ∧ e = five (f + l) r v f ((u : Nat) : Int) ∧ ∀ x ∈ lstD D u, lexL x [((l : Nat) : Int), ((v : Nat) : Int)] = false
/-- between two turns: what is popped and not yet dealt with stands in P -/
structure SI (ws : List Way) (post : Nat → Nat) (P : List Int → Prop) (D : List (Nat × List (List Int))) (H : List (List Int)) (S : List (Nat × Nat × Nat)) : Prop where
  keys : (D.map (·.1)).Nodup
  dheap : ∀ d ∈ D, HeapFrom lexL 0 d.2
  hheap : HeapFrom lexL 0 H
  sub : ∀ u, ∀ x ∈ lstD D u, x ∈ Wof ws u
  fresh : ∀ u, u ∉ S.map (·.2.2) → (lstD D u).Perm (Wof ws u)
  cand : ∀ e ∈ H, Cand ws post D S e
  pend : ∀ f r u, (f, r, u) ∈ S → ∀ l v : Nat, (u, v, l) ∈ ws → Done S v (f + l) r ∨ five (f + l) r v f ((u : Nat) : Int) ∈ H ∨ [((l : Nat) : Int), ((v : Nat) : Int)] ∈ lstD D u ∨ P (five (f + l) r v f ((u : Nat) : Int))
  alive : ∀ f r u, (f, r, u) ∈ S → lstD D u ≠ [] → ∃ l v : Nat, five (f + l) r v f ((u : Nat) : Int) ∈ H
  posts : ∀ r, r < 2 → Done S (post r) 0 r ∨ five 0 r (post r) 0 (-1) ∈ H ∨ P (five 0 r (post r) 0 (-1))
  srt : S.Pairwise (fun a b => lexL (tri b) (tri a) = false)
  low : ∀ s ∈ S, ∀ e ∈ H, lexL (e.take 3) (tri s) = false
  nod : (S.map (·.2.2)).Nodup
  walk : ∀ i f r v, S[i]? = some (f, r, v) → r < 2 ∧ v < 7 ∧ ∃ k, k ≤ i ∧ Walk ws (post r) k v f
theorem cand_five {ws : List Way} {post : Nat → Nat} {D : List (Nat × List (List Int))} {S : List (Nat × Nat × Nat)} {e : List Int} (c : Cand ws post D S e) : ∃ f r v b : Nat, ∃ u : Int, e = five f r v b u ∧ (u = -1 ∨ ∃ u' : Nat, u = ((u' : Nat) : Int)) := by
  rcases c with ⟨r, _, rfl⟩ | ⟨f, r, u, l, v, _, _, rfl, _⟩
  · exact ⟨_, _, _, _, _, rfl, .inl rfl⟩
  · exact ⟨_, _, _, _, _, rfl, .inr ⟨u, rfl⟩⟩
theorem five_take {f r v b f' r' v' b' : Nat} {u u' : Int} (h : lexL (five f r v b u) (five f' r' v' b' u') = false) : lexL (tri (f, r, v)) (tri (f', r', v')) = false := take3 h rfl rfl
theorem uniqS {S : List (Nat × Nat × Nat)} (h : (S.map (·.2.2)).Nodup) {f r f' r' u : Nat} (h1 : (f, r, u) ∈ S) (h2 : (f', r', u) ∈ S) : f = f' ∧ r = r' := by
  obtain ⟨i, hi⟩ := List.mem_iff_getElem?.mp h1
  obtain ⟨j, hj⟩ := List.mem_iff_getElem?.mp h2
  have li := (List.getElem?_eq_some_iff.mp hi).1
  have e : i = j := (List.getElem?_inj (l := S.map (·.2.2)) (by simpa using li) h).mp (by rw [List.getElem?_map, List.getElem?_map, hi, hj]; rfl)
  subst e
  rw [hi] at hj
  cases hj; exact ⟨rfl, rfl⟩
section
variable {ws : List Way} {post : Nat → Nat} {D : List (Nat × List (List Int))} {H H1 : List (List Int)} {S : List (Nat × Nat × Nat)} {e : List Int} {fr : Bool}
/-- the popped candidate -/
structure Pop (ws : List Way) (post : Nat → Nat) (D : List (Nat × List (List Int))) (H : List (List Int)) (S : List (Nat × Nat × Nat)) (e : List Int) : Prop where
  cand : Cand ws post D S e
  least : ∀ b ∈ H, lexL b e = false
  low : ∀ s ∈ S, lexL (e.take 3) (tri s) = false
/-- the step, up to the first offer -/
theorem pop_first (G : GoodWays ws) (I : SI ws post (fun _ => False) D H S) (hp : hpop lexL H = some (e, H1)) :
    (∃ r, r < 2 ∧ e = five 0 r (post r) 0 (-1) ∧ SI ws post (fun x => x = e) D H1 S ∧ Pop ws post D H1 S e) ∨
    (∃ f r u l v : Nat, (f, r, u) ∈ S ∧ (u, v, l) ∈ ws ∧ e = five (f + l) r v f ((u : Nat) : Int) ∧ SI ws post (fun x => x = e) (offD fr D u) (offH D u H1 ((f : Nat) : Int) ((r : Nat) : Int)) S ∧ Pop ws post (offD fr D u) (offH D u H1 ((f : Nat) : Int) ((r : Nat) : Int)) S e) := by
  obtain ⟨q1, q2, q3⟩ := hpop_heap lexL_tot I.hheap hp
  have mH : ∀ x, x ∈ H ↔ x = e ∨ x ∈ H1 := fun x => by rw [← q2.mem_iff, List.mem_cons]
  have ce := I.cand e ((mH e).mpr (.inl rfl))
  have lowe : ∀ s ∈ S, lexL (e.take 3) (tri s) = false := fun s hs => I.low s hs e ((mH e).mpr (.inl rfl))
  have least : ∀ b ∈ H1, lexL b e = false := fun b hb => q3 b ((mH b).mpr (.inr hb))
  have pend : ∀ f r u, (f, r, u) ∈ S → ∀ l v : Nat, (u, v, l) ∈ ws → Done S v (f + l) r ∨ five (f + l) r v f ((u : Nat) : Int) ∈ H1 ∨ [((l : Nat) : Int), ((v : Nat) : Int)] ∈ lstD D u ∨ five (f + l) r v f ((u : Nat) : Int) = e := fun f r u hs l v hw => by
    rcases I.pend f r u hs l v hw with h | h | h | h
    · exact .inl h
    · rcases (mH _).mp h with h | h
      · exact .inr (.inr (.inr h))
      · exact .inr (.inl h)
    · exact .inr (.inr (.inl h))
    · exact h.elim
  have posts : ∀ r, r < 2 → Done S (post r) 0 r ∨ five 0 r (post r) 0 (-1) ∈ H1 ∨ five 0 r (post r) 0 (-1) = e := fun r hr => by
    rcases I.posts r hr with h | h | h
    · exact .inl h
    · rcases (mH _).mp h with h | h
      · exact .inr (.inr h)
      · exact .inr (.inl h)
    · exact h.elim
  rcases id ce with ⟨r, hr, rfl⟩ | ⟨f, r, u, l, v, hs, hw, rfl, hmin⟩
  · left
    refine ⟨r, hr, rfl, ⟨I.keys, I.dheap, q1, I.sub, I.fresh, fun x hx => I.cand x ((mH x).mpr (.inr hx)), pend, fun f r u hs hl => ?_, posts, I.srt, fun s hs x hx => I.low s hs x ((mH x).mpr (.inr hx)), I.nod, I.walk⟩, ⟨ce, least, lowe⟩⟩
    obtain ⟨l, v, h⟩ := I.alive f r u hs hl
    rcases (mH _).mp h with h | h
    · have := (five_inj h).2.2.2.2; (first | lia | omega)
    · exact ⟨l, v, h⟩
  · right
    refine ⟨f, r, u, l, v, hs, hw, rfl, ?_⟩
    obtain ⟨o1, o2, o3, o4, o5, o6, o7⟩ := off_spec (fr := fr) (u := u) (far := ((f : Nat) : Int)) (rank := ((r : Nat) : Int)) I.keys I.dheap q1
    generalize hD' : offD fr D u = D' at *
    generalize hH' : offH D u H1 ((f : Nat) : Int) ((r : Nat) : Int) = H' at *
    have um : u ∈ S.map (·.2.2) := List.mem_map_of_mem (f := (·.2.2)) hs
    have subD : ∀ j, ∀ x ∈ lstD D' j, x ∈ lstD D j := fun j x hx => by
      by_cases e : j = u
      · subst e
        rcases o7 with ⟨_, h, _⟩ | ⟨y, h, _⟩
        · rw [h] at hx; cases hx
        · exact h.subset (.tail _ hx)
      · rw [o5 j e] at hx; exact hx
    have candUp : ∀ x, Cand ws post D S x → Cand ws post D' S x := fun x c => by
      rcases c with h | ⟨f, r, u, l, v, h1, h2, h3, h4⟩
      · exact .inl h
      · exact .inr ⟨f, r, u, l, v, h1, h2, h3, fun z hz => h4 z (subD _ _ hz)⟩
    rcases o7 with ⟨n1, n2, n3⟩ | ⟨y, n1, n2, n3⟩
    · subst n3
      refine ⟨⟨o1, o3, o4, fun j x hx => I.sub j x (subD _ _ hx), fun j hj => by rw [o5 j (fun e => hj (e ▸ um))]; exact I.fresh j hj, fun x hx => candUp x (I.cand x ((mH x).mpr (.inr hx))), fun f' r' u' hs' l' v' hw' => ?_, fun f' r' u' hs' hl' => ?_, posts, I.srt, fun s hs x hx => I.low s hs x ((mH x).mpr (.inr hx)), I.nod, I.walk⟩, ⟨candUp _ ce, least, lowe⟩⟩
      · rcases pend f' r' u' hs' l' v' hw' with h | h | h | h
        · exact .inl h
        · exact .inr (.inl h)
        · by_cases e : u' = u
          · subst e; rw [n1] at h; cases h
          · exact .inr (.inr (.inl (by rw [o5 _ e]; exact h)))
        · exact .inr (.inr (.inr h))
      · have ne : u' ≠ u := by rintro rfl; exact hl' n2
        rw [o5 _ ne] at hl'
        obtain ⟨l2, v2, h⟩ := I.alive f' r' u' hs' hl'
        rcases (mH _).mp h with h | h
        · have := (five_inj h).2.2.2.2
          exact absurd (by (first | lia | omega)) ne
        · exact ⟨l2, v2, h⟩
    · have ym : y ∈ lstD D u := n1.subset (.head _)
      obtain ⟨yv, yl, yw, rfl⟩ := mem_Wof.mp (I.sub u y ym)
      have enew : [((f : Nat) : Int) + [((yl : Nat) : Int), ((yv : Nat) : Int)].getD 0 0, ((r : Nat) : Int), [((yl : Nat) : Int), ((yv : Nat) : Int)].getD 1 0, ((f : Nat) : Int), ((u : Nat) : Int)] = five (f + yl) r yv f ((u : Nat) : Int) := by
        unfold five; simp
      rw [enew] at n3
      have mH' : ∀ x, x ∈ H' ↔ x = five (f + yl) r yv f ((u : Nat) : Int) ∨ x ∈ H1 := fun x => by rw [n3.mem_iff, List.mem_cons]
      have geE : lexL (five (f + yl) r yv f ((u : Nat) : Int)) (five (f + l) r v f ((u : Nat) : Int)) = false := by
        have := lex2.mp (hmin _ ym)
        unfold five
        rw [lexL]
        by_cases e1 : (((f + yl : Nat) : Int)) = (((f + l : Nat) : Int))
        · rw [if_pos e1, lexL, if_pos rfl, lexL]
          by_cases e2 : ((yv : Nat) : Int) = ((v : Nat) : Int)
          · rw [if_pos e2]; exact lexL_irr _
          · rw [if_neg e2]; simp; (first | lia | omega)
        · rw [if_neg e1]; simp; (first | lia | omega)
      refine ⟨⟨o1, o3, o4, fun j x hx => I.sub j x (subD _ _ hx), fun j hj => by rw [o5 j (fun e => hj (e ▸ um))]; exact I.fresh j hj, fun x hx => ?_, fun f' r' u' hs' l' v' hw' => ?_, fun f' r' u' hs' hl' => ?_, fun r hr => ?_, I.srt, fun s hs x hx => ?_, I.nod, I.walk⟩, ⟨candUp _ ce, fun b hb => ?_, lowe⟩⟩
      · rcases (mH' x).mp hx with rfl | hx
        · exact .inr ⟨f, r, u, yl, yv, hs, yw, rfl, fun z hz => n2 z (subD _ _ hz)⟩
        · exact candUp x (I.cand x ((mH x).mpr (.inr hx)))
      · rcases pend f' r' u' hs' l' v' hw' with h | h | h | h
        · exact .inl h
        · exact .inr (.inl ((mH' _).mpr (.inr h)))
        · by_cases e : u' = u
          · subst e
            obtain ⟨rfl, rfl⟩ := uniqS I.nod hs hs'
            rcases List.mem_cons.mp (n1.symm.subset h) with h | h
            · simp only [List.cons.injEq, and_true] at h
              have h1 : l' = yl := by (first | lia | omega)
              have h2 : v' = yv := by (first | lia | omega)
              subst h1; subst h2
              exact .inr (.inl ((mH' _).mpr (.inl rfl)))
            · exact .inr (.inr (.inl h))
          · exact .inr (.inr (.inl (by rw [o5 _ e]; exact h)))
        · exact .inr (.inr (.inr h))
      · by_cases e : u' = u
        · subst e
          obtain ⟨rfl, rfl⟩ := uniqS I.nod hs hs'
          exact ⟨yl, yv, (mH' _).mpr (.inl rfl)⟩
        · rw [o5 _ e] at hl'
          obtain ⟨l2, v2, h⟩ := I.alive f' r' u' hs' hl'
          rcases (mH _).mp h with h | h
          · have := (five_inj h).2.2.2.2
            exact absurd (by (first | lia | omega)) e
          · exact ⟨l2, v2, (mH' _).mpr (.inr h)⟩
      · rcases posts r hr with h | h | h
        · exact .inl h
        · exact .inr (.inl ((mH' _).mpr (.inr h)))
        · exact .inr (.inr h)
      · rcases (mH' x).mp hx with rfl | hx
        · exact lexL_tr _ _ _ (lowe s hs) (five_take geE)
        · exact I.low s hs x ((mH x).mpr (.inr hx))
      · rcases (mH' b).mp hb with rfl | hb
        · exact geE
        · exact least b hb
/-- the candidate's place was settled before -/
theorem settle_old {f r v b : Nat} {u : Int} (I : SI ws post (fun x => x = e) D H S) (P : Pop ws post D H S e) (he : e = five f r v b u) (hv : v ∈ S.map (·.2.2)) : SI ws post (fun _ => False) D H S := by
  have dn : Done S v f r := by
    obtain ⟨⟨f', r', v'⟩, hs, e'⟩ := List.mem_map.mp hv
    have ev : v' = v := e'
    subst ev
    have := P.low _ hs
    rw [he] at this
    have := lex3.mp (show lexL [((f : Nat) : Int), ((r : Nat) : Int), ((v' : Nat) : Int)] [((f' : Nat) : Int), ((r' : Nat) : Int), ((v' : Nat) : Int)] = false from this)
    exact ⟨f', r', hs, by (first | lia | omega)⟩
  refine ⟨I.keys, I.dheap, I.hheap, I.sub, I.fresh, I.cand, fun f' r' u' hs l' v' hw => ?_, I.alive, fun r' hr => ?_, I.srt, I.low, I.nod, I.walk⟩
  · rcases I.pend f' r' u' hs l' v' hw with h | h | h | h
    · exact .inl h
    · exact .inr (.inl h)
    · exact .inr (.inr (.inl h))
    · rw [he] at h
      obtain ⟨rfl, rfl, rfl, _⟩ := five_inj h
      exact .inl dn
  · rcases I.posts r' hr with h | h | h
    · exact .inl h
    · exact .inr (.inl h)
    · rw [he] at h
      obtain ⟨rfl, rfl, rfl, _⟩ := five_inj h
      exact .inl dn
/-- the candidate's place is new: it is settled, and its first way is offered -/
theorem settle_new {f r v b : Nat} {u : Int} (G : GoodWays ws) (hpost : ∀ r, r < 2 → post r < 7) (I : SI ws post (fun x => x = e) D H S) (P : Pop ws post D H S e) (he : e = five f r v b u) (hv : v ∉ S.map (·.2.2)) :
    SI ws post (fun _ => False) (offD fr D v) (offH D v H ((f : Nat) : Int) ((r : Nat) : Int)) (S ++ [(f, r, v)]) := by
  obtain ⟨o1, o2, o3, o4, o5, o6, o7⟩ := off_spec (fr := fr) (u := v) (far := ((f : Nat) : Int)) (rank := ((r : Nat) : Int)) I.keys I.dheap I.hheap
  generalize hD' : offD fr D v = D' at *
  generalize hH' : offH D v H ((f : Nat) : Int) ((r : Nat) : Int) = H' at *
  have subD : ∀ j, ∀ x ∈ lstD D' j, x ∈ lstD D j := fun j x hx => by
    by_cases e : j = v
    · subst e
      rcases o7 with ⟨_, h, _⟩ | ⟨y, h, _⟩
      · rw [h] at hx; cases hx
      · exact h.subset (.tail _ hx)
    · rw [o5 j e] at hx; exact hx
  have inS : ∀ s ∈ S, s ∈ S ++ [(f, r, v)] := fun s hs => List.mem_append_left _ hs
  have self : (f, r, v) ∈ S ++ [(f, r, v)] := List.mem_append_right _ (.head _)
  have dn : Done (S ++ [(f, r, v)]) v f r := ⟨f, r, self, .inr ⟨rfl, Nat.le_refl _⟩⟩
  have candUp : ∀ x, Cand ws post D S x → Cand ws post D' (S ++ [(f, r, v)]) x := fun x c => by
    rcases c with h | ⟨f, r, u, l, v, h1, h2, h3, h4⟩
    · exact .inl h
    · exact .inr ⟨f, r, u, l, v, inS _ h1, h2, h3, fun z hz => h4 z (subD _ _ hz)⟩
  have neV : ∀ {f' r' u'}, (f', r', u') ∈ S → u' ≠ v := fun hs e => hv (e ▸ List.mem_map_of_mem (f := (·.2.2)) hs)
  have hS : ∀ s, s ∈ S ++ [(f, r, v)] → s ∈ S ∨ s = (f, r, v) := fun s hs => by
    rcases List.mem_append.mp hs with h | h
    · exact .inl h
    · exact .inr (List.mem_singleton.mp h)
  have mH' : (H' = H ∧ lstD D v = [] ∧ lstD D' v = []) ∨ ∃ yv yl, (v, yv, yl) ∈ ws ∧ (∀ x, x ∈ H' ↔ x = five (f + yl) r yv f ((v : Nat) : Int) ∨ x ∈ H) ∧ ([((yl : Nat) : Int), ((yv : Nat) : Int)] :: lstD D' v).Perm (lstD D v) ∧ ∀ x ∈ lstD D v, lexL x [((yl : Nat) : Int), ((yv : Nat) : Int)] = false := by
    rcases o7 with ⟨n1, n2, n3⟩ | ⟨y, n1, n2, n3⟩
    · exact .inl ⟨n3, n1, n2⟩
    · right
      obtain ⟨yv, yl, yw, rfl⟩ := mem_Wof.mp (I.sub v y (n1.subset (.head _)))
      refine ⟨yv, yl, yw, fun x => ?_, n1, n2⟩
      have enew : [((f : Nat) : Int) + [((yl : Nat) : Int), ((yv : Nat) : Int)].getD 0 0, ((r : Nat) : Int), [((yl : Nat) : Int), ((yv : Nat) : Int)].getD 1 0, ((f : Nat) : Int), ((v : Nat) : Int)] = five (f + yl) r yv f ((v : Nat) : Int) := by
        unfold five; simp
      rw [enew] at n3
      rw [n3.mem_iff, List.mem_cons]
  have upH : ∀ x ∈ H, x ∈ H' := fun x hx => by
    rcases mH' with ⟨h, _⟩ | ⟨_, _, _, h, _⟩
    · rw [h]; exact hx
    · exact (h x).mpr (.inr hx)
  have lowE : ∀ s ∈ S, lexL (tri (f, r, v)) (tri s) = false := fun s hs => by
    have := P.low s hs
    rw [he] at this; exact this
  refine ⟨o1, o3, o4, fun j x hx => I.sub j x (subD _ _ hx), fun j hj => ?_, fun x hx => ?_, fun f' r' u' hs l' v' hw => ?_, fun f' r' u' hs hl => ?_, fun r' hr => ?_, ?_, fun s hs x hx => ?_, ?_, fun i f' r' v' hi => ?_⟩
  · rw [List.map_append, List.mem_append] at hj
    rw [o5 j (fun e => hj (.inr (by simp [e])))]
    exact I.fresh j fun h => hj (.inl h)
  · rcases mH' with ⟨h, _⟩ | ⟨yv, yl, yw, h, n1, n2⟩
    · rw [h] at hx; exact candUp x (I.cand x hx)
    · rcases (h x).mp hx with rfl | hx
      · exact .inr ⟨f, r, v, yl, yv, self, yw, rfl, fun z hz => n2 z (subD _ _ hz)⟩
      · exact candUp x (I.cand x hx)
  · rcases hS _ hs with hs | hs
    · rcases I.pend f' r' u' hs l' v' hw with h | h | h | h
      · exact .inl (h.mono inS)
      · exact .inr (.inl (upH _ h))
      · exact .inr (.inr (.inl (by rw [o5 _ (neV hs)]; exact h)))
      · rw [he] at h
        obtain ⟨rfl, rfl, rfl, _⟩ := five_inj h
        exact .inl dn
    · cases hs
      have inW := (I.fresh v hv).symm.subset (mem_Wof2.mpr hw)
      rcases mH' with ⟨_, h, _⟩ | ⟨yv, yl, yw, h, n1, n2⟩
      · rw [h] at inW; cases inW
      · rcases List.mem_cons.mp (n1.symm.subset inW) with e | e
        · simp only [List.cons.injEq, and_true] at e
          have h1 : l' = yl := by (first | lia | omega)
          have h2 : v' = yv := by (first | lia | omega)
          subst h1; subst h2
          exact .inr (.inl ((h _).mpr (.inl rfl)))
        · exact .inr (.inr (.inl e))
  · rcases hS _ hs with hs | hs
    · rw [o5 _ (neV hs)] at hl
      obtain ⟨l, v, h⟩ := I.alive f' r' u' hs hl
      exact ⟨l, v, upH _ h⟩
    · cases hs
      rcases mH' with ⟨_, _, h⟩ | ⟨yv, yl, yw, h, n1, n2⟩
      · exact absurd h hl
      · exact ⟨yl, yv, (h _).mpr (.inl rfl)⟩
  · rcases I.posts r' hr with h | h | h
    · exact .inl (h.mono inS)
    · exact .inr (.inl (upH _ h))
    · rw [he] at h
      obtain ⟨rfl, rfl, rfl, _⟩ := five_inj h
      exact .inl dn
  · rw [List.pairwise_append]
    refine ⟨I.srt, by simp, fun a ha b hb => ?_⟩
    rw [List.mem_singleton] at hb; subst hb
    exact lowE a ha
  · have base : ∀ y ∈ H, lexL (y.take 3) (tri (f, r, v)) = false := fun y hy => by
      obtain ⟨f2, r2, v2, b2, u2, rfl, _⟩ := cand_five (I.cand y hy)
      have := P.least _ hy
      rw [he] at this
      exact five_take this
    have new : ∀ yl yv, (v, yv, yl) ∈ ws → lexL ((five (f + yl) r yv f ((v : Nat) : Int)).take 3) (tri (f, r, v)) = false := fun yl yv hw => by
      have := G.len1 _ hw
      show lexL [(((f + yl : Nat) : Int)), ((r : Nat) : Int), ((yv : Nat) : Int)] [((f : Nat) : Int), ((r : Nat) : Int), ((v : Nat) : Int)] = false
      rw [lex3]; left; simp at this; (first | lia | omega)
    rcases mH' with ⟨h, _⟩ | ⟨yv, yl, yw, h, n1, n2⟩
    · rw [h] at hx
      rcases hS _ hs with hs | rfl
      · exact I.low s hs x hx
      · exact base x hx
    · rcases (h x).mp hx with rfl | hx
      · rcases hS _ hs with hs | rfl
        · exact lexL_tr _ _ _ (lowE s hs) (new yl yv yw)
        · exact new yl yv yw
      · rcases hS _ hs with hs | rfl
        · exact I.low s hs x hx
        · exact base x hx
  · rw [List.map_append, List.nodup_append]
    refine ⟨I.nod, by simp, fun a ha b hb e => ?_⟩
    simp only [List.map_cons, List.map_nil, List.mem_singleton] at hb
    subst hb; subst e; exact hv ha
  · by_cases hil : i < S.length
    · rw [List.getElem?_append_left hil] at hi
      exact I.walk i f' r' v' hi
    · rw [List.getElem?_append_right (Nat.le_of_not_lt hil)] at hi
      cases hk : i - S.length with
      | succ n => rw [hk] at hi; simp at hi
      | zero =>
        rw [hk] at hi
        simp only [List.getElem?_cons_zero, Option.some.injEq] at hi
        cases hi
        rcases P.cand with ⟨r2, hr2, e2⟩ | ⟨f2, r2, u2, l2, v2, hs2, hw2, e2, _⟩
        · rw [he] at e2
          obtain ⟨rfl, rfl, rfl, _⟩ := five_inj e2
          exact ⟨hr2, hpost _ hr2, 0, Nat.zero_le _, .nil⟩
        · rw [he] at e2
          obtain ⟨rfl, rfl, rfl, _⟩ := five_inj e2
          obtain ⟨j, hj⟩ := List.mem_iff_getElem?.mp hs2
          have lj := (List.getElem?_eq_some_iff.mp hj).1
          obtain ⟨a1, a2, k, a3, a4⟩ := I.walk j _ _ _ hj
          exact ⟨a1, G.place _ hw2, k + 1, by (first | lia | omega), .snoc a4 hw2⟩
end
end
section
/-- all is settled -/
structure FinS (ws : List Way) (post : Nat → Nat) (S : List (Nat × Nat × Nat)) : Prop where
  c1 : ∀ f r u, (f, r, u) ∈ S → ∀ l v : Nat, (u, v, l) ∈ ws → Done S v (f + l) r
  c2 : ∀ r, r < 2 → Done S (post r) 0 r
  srt : S.Pairwise (fun a b => lexL (tri b) (tri a) = false)
  nod : (S.map (·.2.2)).Nodup
  walk : ∀ i f r v, S[i]? = some (f, r, v) → r < 2 ∧ v < 7 ∧ ∃ k, k ≤ i ∧ Walk ws (post r) k v f
theorem SI.fin {ws : List Way} {post : Nat → Nat} {D : List (Nat × List (List Int))} {S : List (Nat × Nat × Nat)} (I : SI ws post (fun _ => False) D [] S) : FinS ws post S ∧ ∀ u, u ∈ S.map (·.2.2) → lstD D u = [] := by
  have em : ∀ f r u, (f, r, u) ∈ S → lstD D u = [] := fun f r u hs => by
    apply Classical.byContradiction
    intro h
    obtain ⟨l, v, hm⟩ := I.alive f r u hs h
    cases hm
  refine ⟨⟨fun f r u hs l v hw => ?_, fun r hr => ?_, I.srt, I.nod, I.walk⟩, fun u hu => ?_⟩
  · rcases I.pend f r u hs l v hw with h | h | h | h
    · exact h
    · cases h
    · rw [em f r u hs] at h; cases h
    · exact h.elim
  · rcases I.posts r hr with h | h | h
    · exact h
    · cases h
    · exact h.elim
  · obtain ⟨⟨f, r, u'⟩, hs, e⟩ := List.mem_map.mp hu
    have e : u' = u := e
    subst e
    exact em f r u' hs
theorem FinS.reach {ws : List Way} {post : Nat → Nat} {S : List (Nat × Nat × Nat)} (F : FinS ws post S) {r : Nat} (hr : r < 2) {k v d : Nat} (h : Walk ws (post r) k v d) : Done S v d r := by
  induction h with
  | nil => exact F.c2 r hr
  | @snoc k u v d l _ hw ih =>
    obtain ⟨f', r', hs, hd⟩ := ih
    obtain ⟨f2, r2, hs2, hd2⟩ := F.c1 f' r' u hs l v hw
    exact ⟨f2, r2, hs2, by (first | lia | omega)⟩
/-- shortening along a way -/
noncomputable def relax (t : List Int) (w : Way) : List Int := t.set w.2.1 (min (t.getD w.2.1 0) (t.getD w.1 0 + ((w.2.2 : Nat) : Int)))
noncomputable def bfStart (p : Nat) : List Int := (List.range 7).map fun v => if v = p then 0 else 99
noncomputable def bfN (ws : List Way) (p : Nat) : Nat → List Int
  | 0 => bfStart p
  | n + 1 => ws.foldl relax (bfN ws p n)
theorem getD_set (t : List Int) (i j : Nat) (x : Int) : (t.set i x).getD j 0 = if i = j ∧ i < t.length then x else t.getD j 0 := by
  rw [List.getD_eq_getElem?_getD, List.getD_eq_getElem?_getD, List.getElem?_set]
  by_cases e : i = j
  · subst e
    by_cases hl : i < t.length
    · simp [hl]
    · simp [hl]
  · simp [e]
theorem relax_at (t : List Int) (w : Way) (v : Nat) : (relax t w).getD v 0 = if w.2.1 = v ∧ w.2.1 < t.length then min (t.getD w.2.1 0) (t.getD w.1 0 + ((w.2.2 : Nat) : Int)) else t.getD v 0 := getD_set _ _ _ _
theorem relax_le (t : List Int) (w : Way) (v : Nat) : (relax t w).getD v 0 ≤ t.getD v 0 := by
  rw [relax_at]
  split
  · rename_i h; rw [← h.1]; exact Int.min_le_left ..
  · exact Int.le_refl _
theorem relax_len (t : List Int) (w : Way) : (relax t w).length = t.length := by simp [relax]
theorem fold_len (ws : List Way) : ∀ t, (ws.foldl relax t).length = t.length := by
  induction ws with
  | nil => intro t; rfl
  | cons w ws ih => intro t; rw [List.foldl_cons, ih, relax_len]
theorem fold_down (ws : List Way) : ∀ t v, (ws.foldl relax t).getD v 0 ≤ t.getD v 0 := by
  induction ws with
  | nil => intro t v; exact Int.le_refl _
  | cons w ws ih => intro t v; rw [List.foldl_cons]; exact Int.le_trans (ih _ _) (relax_le _ _ _)
theorem fold_hit {ws : List Way} {w : Way} (hw : w ∈ ws) : ∀ t, w.2.1 < t.length → (ws.foldl relax t).getD w.2.1 0 ≤ t.getD w.1 0 + ((w.2.2 : Nat) : Int) := by
  induction ws with
  | nil => cases hw
  | cons x ws ih =>
    intro t hl
    rw [List.foldl_cons]
    rcases List.mem_cons.mp hw with rfl | hw
    · refine Int.le_trans (fold_down _ _ _) ?_
      rw [relax_at, if_pos ⟨rfl, hl⟩]
      exact Int.min_le_right ..
    · refine Int.le_trans (ih hw _ (by rw [relax_len]; exact hl)) ?_
      have := relax_le t x w.1
      (first | lia | omega)
structure BI (ws : List Way) (p : Nat) (t : List Int) : Prop where
  len : t.length = 7
  top : ∀ v, v < 7 → t.getD v 0 ≤ 99
  snd : ∀ v, v < 7 → t.getD v 0 < 99 → ∃ k d : Nat, Walk ws p k v d ∧ t.getD v 0 = ((d : Nat) : Int)
theorem BI.relax1 {ws : List Way} (G : GoodWays ws) {p : Nat} {t : List Int} (B : BI ws p t) {w : Way} (hw : w ∈ ws) : BI ws p (relax t w) := by
  refine ⟨by rw [relax_len]; exact B.len, fun v hv => Int.le_trans (relax_le _ _ _) (B.top v hv), fun v hv h => ?_⟩
  rw [relax_at] at h ⊢
  by_cases c : w.2.1 = v ∧ w.2.1 < t.length
  · rw [if_pos c] at h ⊢
    by_cases e : t.getD w.2.1 0 ≤ t.getD w.1 0 + ((w.2.2 : Nat) : Int)
    · rw [Int.min_eq_left e] at h ⊢
      obtain ⟨rfl, _⟩ := c
      exact B.snd _ hv h
    · rw [Int.min_eq_right (by (first | lia | omega))] at h ⊢
      obtain ⟨rfl, _⟩ := c
      obtain ⟨k, d, hk, hd⟩ := B.snd w.1 (G.home w hw) (by (first | lia | omega))
      exact ⟨k + 1, d + w.2.2, .snoc hk hw, by rw [hd]; (first | lia | omega)⟩
  · rw [if_neg c] at h ⊢
    exact B.snd v hv h
theorem BI.fold {ws : List Way} (G : GoodWays ws) {p : Nat} : ∀ (vs : List Way) {t : List Int}, (∀ w ∈ vs, w ∈ ws) → BI ws p t → BI ws p (vs.foldl relax t)
  | [], t, _, B => B
  | w :: vs, t, h, B => BI.fold G vs (fun x hx => h x (.tail _ hx)) (B.relax1 G (h w (.head _)))
theorem bfStart_at (p v : Nat) (hv : v < 7) : (bfStart p).getD v 0 = if v = p then 0 else 99 := by
  unfold bfStart
  rw [List.getD_eq_getElem?_getD, List.getElem?_map, List.getElem?_range hv]
  rfl
theorem bf_ok {ws : List Way} (G : GoodWays ws) {p : Nat} : ∀ n, BI ws p (bfN ws p n) ∧ ∀ k v d, k ≤ n → Walk ws p k v d → v < 7 → (bfN ws p n).getD v 0 ≤ ((d : Nat) : Int)
  | 0 => by
    refine ⟨⟨by simp [bfN, bfStart], fun v hv => ?_, fun v hv h => ?_⟩, fun k v d hk h hv => ?_⟩
    · show (bfStart p).getD v 0 ≤ 99
      rw [bfStart_at p v hv]; split <;> (first | lia | omega)
    · have h : (bfStart p).getD v 0 < 99 := h
      rw [bfStart_at p v hv] at h
      by_cases e : v = p
      · subst e
        exact ⟨0, 0, .nil, by show (bfStart _).getD _ 0 = _; rw [bfStart_at _ _ hv, if_pos rfl]; rfl⟩
      · rw [if_neg e] at h; (first | lia | omega)
    · have : k = 0 := by (first | lia | omega)
      subst this
      cases h
      show (bfStart _).getD _ 0 ≤ _
      rw [bfStart_at _ _ hv, if_pos rfl]
      exact Int.le_refl _
  | n + 1 => by
    obtain ⟨b1, b2⟩ := bf_ok G (p := p) n
    refine ⟨BI.fold G ws (fun _ h => h) b1, fun k v d hk h hv => ?_⟩
    cases h with
    | nil => exact Int.le_trans (fold_down _ _ _) (b2 0 _ 0 (Nat.zero_le _) .nil hv)
    | @snoc k u _ d l hw hm =>
      have h1 := b2 k u d (by (first | lia | omega)) hw (G.home _ hm)
      have h2 := fold_hit hm (bfN ws p n) (by rw [b1.len]; exact G.place _ hm)
      refine Int.le_trans h2 ?_
      simp at h1 ⊢; (first | lia | omega)
noncomputable def best (t0 t1 : List Int) (v : Nat) : List Int := if lexL [t1.getD v 0, 1, ((v : Nat) : Int)] [t0.getD v 0, 0, ((v : Nat) : Int)] = true then [t1.getD v 0, 1, ((v : Nat) : Int)] else [t0.getD v 0, 0, ((v : Nat) : Int)]
noncomputable def dueL (t0 t1 : List Int) : List (List Int) := ((List.range 7).map (best t0 t1)).filter fun x => decide (x.getD 0 0 < 99)
theorem best_eq (t0 t1 : List Int) (v : Nat) : best t0 t1 v = if t1.getD v 0 < t0.getD v 0 then [t1.getD v 0, 1, ((v : Nat) : Int)] else [t0.getD v 0, 0, ((v : Nat) : Int)] := by
  have e : (lexL [t1.getD v 0, 1, ((v : Nat) : Int)] [t0.getD v 0, 0, ((v : Nat) : Int)] = true) ↔ t1.getD v 0 < t0.getD v 0 := by
    constructor
    · intro h
      apply Classical.byContradiction
      intro hn
      have : lexL [t1.getD v 0, 1, ((v : Nat) : Int)] [t0.getD v 0, 0, ((v : Nat) : Int)] = false := lex3.mpr (by (first | lia | omega))
      rw [this] at h; cases h
    · intro h
      cases hc : lexL [t1.getD v 0, 1, ((v : Nat) : Int)] [t0.getD v 0, 0, ((v : Nat) : Int)] with
      | true => rfl
      | false => have := lex3.mp hc; (first | lia | omega)
  unfold best
  by_cases h : t1.getD v 0 < t0.getD v 0
  · rw [if_pos h, if_pos (e.mpr h)]
  · rw [if_neg h, if_neg fun x => h (e.mp x)]
theorem eq_of_sorted_mem : ∀ {a b : List (List Int)}, a.Pairwise (fun x y => lexL x y = true) → b.Pairwise (fun x y => lexL x y = true) → (∀ x, x ∈ a ↔ x ∈ b) → a = b
  | [], b, _, _, h => by
    cases b with
    | nil => rfl
    | cons y q => exact absurd ((h y).mpr (.head _)) (List.not_mem_nil)
  | x :: r, b, ha, hb, h => by
    cases b with
    | nil => exact absurd ((h x).mp (.head _)) (List.not_mem_nil)
    | cons y q =>
      have pa := List.pairwise_cons.mp ha
      have pb := List.pairwise_cons.mp hb
      have e : x = y := by
        rcases List.mem_cons.mp ((h x).mp (.head _)) with e | hx
        · exact e
        · rcases List.mem_cons.mp ((h y).mpr (.head _)) with e | hy
          · exact e.symm
          · have h1 := pb.1 x hx
            have h2 := lexL_asym _ _ (pa.1 y hy)
            rw [h1] at h2; cases h2
      subst e
      rw [eq_of_sorted_mem pa.2 pb.2 fun z => ?_]
      constructor
      · intro hz
        rcases List.mem_cons.mp ((h z).mp (.tail _ hz)) with e | hz'
        · subst e
          have := pa.1 z hz
          rw [lexL_irr] at this; cases this
        · exact hz'
      · intro hz
        rcases List.mem_cons.mp ((h z).mpr (.tail _ hz)) with e | hz'
        · subst e
          have := pb.1 z hz
          rw [lexL_irr] at this; cases this
        · exact hz'
theorem strict_of {l : List (List Int)} (hs : l.Pairwise (fun a b => lexL b a = false)) (hn : l.Nodup) : l.Pairwise (fun a b => lexL a b = true) := by
  have := hs.and hn
  refine this.imp fun ⟨h1, h2⟩ => ?_
  cases h : lexL _ _ with
  | true => rfl
  | false => exact absurd (lexL_eq h h1) h2
theorem sLen {ws : List Way} {post : Nat → Nat} {S : List (Nat × Nat × Nat)} (F : FinS ws post S) : S.length ≤ 7 := by
  have : ∀ (n : Nat) (l : List Nat), l.Nodup → (∀ x ∈ l, x < n) → l.length ≤ n := by
    intro n
    induction n with
    | zero =>
      intro l _ h
      cases l with
      | nil => exact Nat.le_refl _
      | cons a r => exact absurd (h a (.head _)) (Nat.not_lt_zero _)
    | succ n ih =>
      intro l hn h
      by_cases hm : n ∈ l
      · have e := List.length_erase_of_mem hm
        have := ih (l.erase n) (hn.erase n) fun x hx => by
          have z := (hn.mem_erase_iff).mp hx
          have := h x z.2
          have := z.1
          (first | lia | omega)
        (first | lia | omega)
      · have := ih l hn fun x hx => by
          have := h x hx
          have : x ≠ n := fun e => hm (e ▸ hx)
          (first | lia | omega)
        (first | lia | omega)
  have h := this 7 (S.map (·.2.2)) F.nod fun x hx => by
    obtain ⟨s, hs, rfl⟩ := List.mem_map.mp hx
    obtain ⟨i, hi⟩ := List.mem_iff_getElem?.mp hs
    exact (F.walk i s.1 s.2.1 s.2.2 hi).2.1
  simpa using h
theorem tri_inj {a b : Nat × Nat × Nat} (h : tri a = tri b) : a = b := by
  obtain ⟨a1, a2, a3⟩ := a
  obtain ⟨b1, b2, b3⟩ := b
  unfold tri at h
  simp only [List.cons.injEq, and_true] at h
  obtain ⟨h1, h2, h3⟩ := h
  have e1 : a1 = b1 := by (first | lia | omega)
  have e2 : a2 = b2 := by (first | lia | omega)
  have e3 : a3 = b3 := by (first | lia | omega)
  rw [e1, e2, e3]
/-- what is settled is what is due -/
theorem due_eq {ws : List Way} (G : GoodWays ws) {post : Nat → Nat} (hpost : ∀ r, r < 2 → post r < 7) {S : List (Nat × Nat × Nat)} (F : FinS ws post S) {out : List (List Int)} (hp : out.Perm (dueL (bfN ws (post 0) 6) (bfN ws (post 1) 6))) (hs : out.Pairwise (fun a b => lexL b a = false)) : out = S.map tri := by
  obtain ⟨b0, c0⟩ := bf_ok G (p := post 0) 6
  obtain ⟨b1, c1⟩ := bf_ok G (p := post 1) 6
  generalize bfN ws (post 0) 6 = t0 at *
  generalize bfN ws (post 1) 6 = t1 at *
  have sl := sLen F
  have inS : ∀ s ∈ S, s.2.2 < 7 ∧ best t0 t1 s.2.2 = tri s ∧ s.1 < 99 := by
    rintro ⟨f, r, v⟩ hs
    obtain ⟨i, hi⟩ := List.mem_iff_getElem?.mp hs
    have hil := (List.getElem?_eq_some_iff.mp hi).1
    obtain ⟨hr, hv, k, hk, hw⟩ := F.walk i f r v hi
    have f24 := hw.le4 G
    refine ⟨hv, ?_, by show f < 99; (first | lia | omega)⟩
    have le0 : t0.getD v 0 = 99 ∨ ∃ d : Nat, t0.getD v 0 = ((d : Nat) : Int) ∧ (f < d ∨ (f = d ∧ r ≤ 0)) := by
      by_cases h : t0.getD v 0 < 99
      · right
        obtain ⟨k, d, h1, h2⟩ := b0.snd v hv h
        obtain ⟨f', r', h3, h4⟩ := F.reach (r := 0) (by decide) h1
        obtain ⟨rfl, rfl⟩ := uniqS F.nod hs h3
        exact ⟨d, h2, h4⟩
      · left; have := b0.top v hv; (first | lia | omega)
    have le1 : t1.getD v 0 = 99 ∨ ∃ d : Nat, t1.getD v 0 = ((d : Nat) : Int) ∧ (f < d ∨ (f = d ∧ r ≤ 1)) := by
      by_cases h : t1.getD v 0 < 99
      · right
        obtain ⟨k, d, h1, h2⟩ := b1.snd v hv h
        obtain ⟨f', r', h3, h4⟩ := F.reach (r := 1) (by decide) h1
        obtain ⟨rfl, rfl⟩ := uniqS F.nod hs h3
        exact ⟨d, h2, h4⟩
      · left; have := b1.top v hv; (first | lia | omega)
    show best t0 t1 v = tri (f, r, v)
    rw [best_eq]
    have hr2 : r = 0 ∨ r = 1 := by (first | lia | omega)
    rcases hr2 with rfl | rfl
    · have u := c0 k v f (by (first | lia | omega)) hw hv
      have e0 : t0.getD v 0 = ((f : Nat) : Int) := by
        rcases le0 with h | ⟨d, h, _⟩ <;> (first | lia | omega)
      rw [if_neg (by rcases le1 with h | ⟨d, h, _⟩ <;> (first | lia | omega)), e0]
      rfl
    · have u := c1 k v f (by (first | lia | omega)) hw hv
      have e1 : t1.getD v 0 = ((f : Nat) : Int) := by
        rcases le1 with h | ⟨d, h, _⟩ <;> (first | lia | omega)
      rw [if_pos (by rcases le0 with h | ⟨d, h, _⟩ <;> (first | lia | omega)), e1]
      rfl
  have nodB : (dueL t0 t1).Nodup := by
    unfold dueL
    refine List.Pairwise.filter _ ?_
    refine List.pairwise_map.mpr ((List.nodup_range (n := 7)).imp fun {a b} hab e => hab ?_)
    rw [best_eq, best_eq] at e
    split at e <;> split at e <;> simp only [List.cons.injEq, and_true] at e <;> (first | lia | omega)
  refine eq_of_sorted_mem (strict_of hs (hp.nodup_iff.mpr nodB)) (strict_of ?_ ?_) fun x => ?_
  · exact List.pairwise_map.mpr F.srt
  · refine List.pairwise_map.mpr ((List.pairwise_map.mp F.nod).imp fun {a b} hab e => hab ?_)
    rw [tri_inj e]
  · rw [hp.mem_iff]
    unfold dueL
    rw [List.mem_filter, List.mem_map, List.mem_map]
    constructor
    · rintro ⟨⟨v, hv, rfl⟩, h99⟩
      have hv := List.mem_range.mp hv
      have h99 : (best t0 t1 v).getD 0 0 < 99 := by simpa using h99
      have : ∃ s ∈ S, s.2.2 = v := by
        rw [best_eq] at h99
        split at h99
        · obtain ⟨k, d, h1, _⟩ := b1.snd v hv h99
          obtain ⟨f', r', h3, _⟩ := F.reach (r := 1) (by decide) h1
          exact ⟨_, h3, rfl⟩
        · obtain ⟨k, d, h1, _⟩ := b0.snd v hv h99
          obtain ⟨f', r', h3, _⟩ := F.reach (r := 0) (by decide) h1
          exact ⟨_, h3, rfl⟩
      obtain ⟨s, hs, rfl⟩ := this
      exact ⟨s, hs, (inS s hs).2.1.symm⟩
    · rintro ⟨s, hs, rfl⟩
      obtain ⟨h1, h2, h3⟩ := inS s hs
      refine ⟨⟨s.2.2, List.mem_range.mpr h1, h2⟩, ?_⟩
      show decide (((s.1 : Nat) : Int) < 99) = true
      simp; (first | lia | omega)
end
section
section
variable {prog : Program} {w : World} {A : Around} {E : Value → Shared → Prop} {p : Program} {loose : List Str} {mean : ExcName → Option Value} {mg mb : Str → Option Value} {g h : Heap} {ge : Array GenState} {dr : Drawn} {tk : Nat} {os : OsState}
  {L : Addr} {m : Str → Option Value} {news : List (Addr × Obj)} {env : Env} {s : Shared}
theorem tup_is {h : Heap} {t : Addr} {vs : List Value} (ht : h.get? t = some (tupO vs)) : h.IsTuple t vs.toArray := ⟨_, ht, rfl, 0, rfl⟩
theorem ml_unpack {elts : List Expr} {x1 : Nat} {pos : Pos} {t : Addr} {vs : List Value} {Q : Unit → Shared → Prop} (hh : A.handled = none) (f : FB w p loose mean mg mb g L h m news) (ht : h.get? t = some (tupO vs)) (hn : (assignEach elts env).length = vs.length) (hstar : (assignEach elts env).findIdx? (·.1) = none)
    (q : ∀ h', FB w p loose mean mg mb g L h' m news → (∀ a o, h.get? a = some o → h'.get? a = some o) → wpAny (model prog w) A (assignInOrder ((assignEach elts env).map (·.2)) vs) Q E ⟨h', ge, dr, tk, os⟩) :
    wpAny (model prog w) A (assign (.Tuple elts x1 pos) env (.ref t)) Q E ⟨h, ge, dr, tk, os⟩ := by
  refine wpAny_assign_Tuple (s := ⟨h, ge, dr, tk, os⟩) hh (tup_is ht) (by simpa using hn) hstar ?_
  intro h' hx
  have k : ∀ a o, h.get? a = some o → h'.get? a = some o := fun a o e => hx a o (Nat.ne_of_lt (Heap.lt_size e)) e
  exact q h' (f.all k) k
theorem mw_ord0 {ts : List (Value → Sem Unit)} {Q : Unit → Shared → Prop} (q : Q () s) : wpAny (model prog w) A (assignInOrder ts []) Q E s := by
  cases ts <;> exact wpAny_pure q
theorem mw_ordc {t : Value → Sem Unit} {ts : List (Value → Sem Unit)} {v : Value} {vs : List Value} {Q : Unit → Shared → Prop} (q : wpAny (model prog w) A (t v) (fun _ s' => wpAny (model prog w) A (assignInOrder ts vs) Q E s') E s) :
    wpAny (model prog w) A (assignInOrder (t :: ts) (v :: vs)) Q E s := wpAny_bind (wpAny_holding (wpAny_mono q (fun _ _ x => x) fun _ _ x => x))
/-- x not in a list of whole numbers -/
theorem ml_notin {l : Addr} {vs : List Value} {ns : List Nat} {c k : Nat} {t : Tok} {Q : Value → Shared → Prop} (hl : h.get? l = some (listOf vs.toArray c)) (hr : RelL (natV.rel h) vs ns) (q : Q (.bool (!decide (k ∈ ns))) ⟨h, ge, dr, tk, os⟩) :
    wpAny (model prog w) A (compareOp .NotIn (.int ((k : Nat) : Int) t) (.ref l)) Q E ⟨h, ge, dr, tk, os⟩ := by
  refine PySem.SeqAt.notIn_listAt (s := ⟨h, ge, dr, tk, os⟩) (fun v => match v with | .int n _ => n == ((k : Nat) : Int) | _ => false) (isList_of hl) (fun y hy => ?_) ?_
  · obtain ⟨i, hi⟩ := List.mem_iff_getElem?.mp (show y ∈ vs by simpa using hy)
    obtain ⟨n, hn⟩ : ∃ n, ns[i]? = some n := ⟨_, List.getElem?_eq_getElem (by rw [← hr.1]; exact (List.getElem?_eq_some_iff.mp hi).1)⟩
    obtain ⟨u, rfl⟩ := hr.2 i y n hi hn
    intro prog w E Q hq
    exact wpAny_eqBool_int hq
  · have e : (vs.toArray.any fun v => match v with | .int n _ => n == ((k : Nat) : Int) | _ => false) = decide (k ∈ ns) := by
      rw [List.any_toArray, Bool.eq_iff_iff, List.any_eq_true, decide_eq_true_eq]
      constructor
      · rintro ⟨y, hy, e⟩
        obtain ⟨i, hi⟩ := List.mem_iff_getElem?.mp hy
        obtain ⟨n, hn⟩ : ∃ n, ns[i]? = some n := ⟨_, List.getElem?_eq_getElem (by rw [← hr.1]; exact (List.getElem?_eq_some_iff.mp hi).1)⟩
        obtain ⟨u, rfl⟩ := hr.2 i y n hi hn
        have : ((n : Nat) : Int) = ((k : Nat) : Int) := by simpa using e
        have : n = k := by (first | lia | omega)
        subst this
        exact List.mem_of_getElem? hn
      · intro hk
        obtain ⟨i, hi⟩ := List.mem_iff_getElem?.mp hk
        obtain ⟨v, hv, u, rfl⟩ := hr.get hi
        exact ⟨_, List.mem_of_getElem? hv, by simp⟩
    rw [e]; exact q
theorem ml_tupItem {value slice : Expr} {t : Addr} {vs : List Value} {k : Nat} {u : Tok} {x : Value} {Q : Value → Shared → Prop} (ht : h.get? t = some (tupO vs)) (hx : vs[k]? = some x) (hk : k < 1000) (q : Q x ⟨h, ge, dr, tk, os⟩)
    (hs : subscripted slice false (.ref t) (.int ((k : Nat) : Int) u) = operate [.ref t, .int ((k : Nat) : Int) u] (getItem (.ref t) (.int ((k : Nat) : Int) u))) (hg : ∀ r, letTemporaryGo value (.ref t) r = pure ()) :
    wpAny (model prog w) A (subscriptTail value slice (.ref t) (.int ((k : Nat) : Int) u)) Q E ⟨h, ge, dr, tk, os⟩ := by
  have hlt := (List.getElem?_eq_some_iff.mp hx).1
  refine item_tupleL (s := ⟨h, ge, dr, tk, os⟩) (j := k) (l := vs) ?_ (by (first | lia | omega)) (by (first | lia | omega)) ?_ hx q hs hg
  · exact tup_is ht
  · have := seqIndex_of (k := ((k : Nat) : Int)) (n := vs.length) (by (first | lia | omega)) (by (first | lia | omega))
    simpa using this
/-- the least of two tuples in a list -/
theorem ml_min2 {l : Addr} {v1 v2 : Value} {k1 k2 : List Int} {c : Nat} {Q : Value → Shared → Prop} (hh : A.handled = none) (hu : A.units + 16 < cLine) (f : FB w p loose mean mg mb g L h m news) (hl : h.get? l = some (listOf #[v1, v2] c)) (r1 : tupR h v1 k1) (r2 : tupR h v2 k2)
    (q : ∀ h' tk', FB w p loose mean mg mb g L h' m news → (∀ a o, h.get? a = some o → h'.get? a = some o) → Q (if lexL k2 k1 = true then v2 else v1) ⟨h', ge, dr, tk', os⟩) :
    wpAny (model prog w) A (call (.builtin "min") [.ref l]) Q E ⟨h, ge, dr, tk, os⟩ := by
  have hname : (toString "min" ++ toString ".loop" : String) = "min.loop" := by decide
  refine call_function_tree PySem.F.kind_min PySem.F.plain_min PySem.F.entry_min (PySem.F.args_min1 _) ?_
  show wpAny _ A.in1 (Builtin.Builtins.bindParams "min" ["key", "default"] 0 ⟨[], []⟩ >>= _) _ _ _
  refine wpAny_bind (wpAny_of_eq (show Builtin.Builtins.bindParams "min" ["key", "default"] 0 ⟨[], []⟩ = pure [none, none] from rfl) ?_)
  refine wpAny_bind (wpAny_pure ?_)
  have hL : h.IsList l #[v1, v2] := ⟨_, hl, rfl, c, rfl⟩
  refine wpAny_bind (wpAny_pyIter_list (s := ⟨h, ge, dr, tk, os⟩) hL ?_)
  have lI : l < h.objs.size := Heap.lt_size hl
  refine wpAny_bind (wpAny_newObj_type ?_)
  rw [hname]
  have k1' : ∀ a o, h.get? a = some o → (h.push { cls := .type "list_iterator", data := .fields #[.ref l, .int 0 0] }).get? a = some o := fun a o e => Heap.get?_push_of_some _ e
  have hI : (h.push { cls := .type "list_iterator", data := .fields #[.ref l, .int 0 0] }).get? h.objs.size = some { cls := .type "list_iterator", data := .fields #[.ref l, .int 0 0] } := Heap.get?_push_at rfl rfl
  have sz : (h.push { cls := .type "list_iterator", data := .fields #[.ref l, .int 0 0] }).objs.size = h.objs.size + 1 := Heap.size_push ..
  show wpAny _ _ _ _ _ ⟨(h.push { cls := .type "list_iterator", data := .fields #[.ref l, .int 0 0] }).push _, ge, dr, tk, os⟩
  generalize h.push { cls := .type "list_iterator", data := .fields #[.ref l, .int 0 0] } = h1 at *
  have k2' : ∀ a o, h1.get? a = some o → (h1.push { cls := .type "list", data := .seq ([] : List Value).toArray }).get? a = some o := fun a o e => Heap.get?_push_of_some _ e
  have hS : (h1.push { cls := .type "list", data := .seq ([] : List Value).toArray }).get? h1.objs.size = some (listOf #[] 0) := Heap.get?_push_at rfl rfl
  generalize h1.push { cls := .type "list", data := .seq ([] : List Value).toArray } = h2 at *
  have kk : ∀ a o, h.get? a = some o → h2.get? a = some o := fun a o e => k2' _ _ (k1' _ _ e)
  refine wpAny_pure ⟨plainId_quiet PySem.F.plain_min_loop _, ?_⟩
  refine min2_loop (s := ⟨h2, ge, dr, tk, os⟩) hh (Nat.ne_of_lt lI) (by rw [sz]; exact Nat.succ_ne_self _) (by rw [sz]; exact Nat.ne_of_gt (Nat.lt_succ_of_lt lI)) ⟨⟨_, k2' _ _ hI, rfl, rfl⟩, hL.at fun o e => kk _ _ e⟩ hS (tupV.keep (TK.of_keep kk) r1) (tupV.keep (TK.of_keep kk) r2) (by (first | lia | omega)) ?_
  intro h3 tk3 k3
  have k4 : ∀ a o, h.get? a = some o → h3.get? a = some o := fun a o e => k3 a o (Nat.ne_of_lt (Heap.lt_size e)) (by rw [sz]; exact Nat.ne_of_lt (Nat.lt_succ_of_lt (Heap.lt_size e))) (kk _ _ e)
  exact q h3 tk3 (f.all k4) k4
theorem ml_minI {a b : Int} {t u : Tok} {Q : Value → Shared → Prop} (hh : A.handled = none) (f : FB w p loose mean mg mb g L h m news) (q : ∀ h' tk' t', FB w p loose mean mg mb g L h' m news → (∀ a o, h.get? a = some o → h'.get? a = some o) → Q (.int (min a b) t') ⟨h', ge, dr, tk', os⟩) :
    wpAny (model prog w) A (call (.builtin "min") [.int a t, .int b u]) Q E ⟨h, ge, dr, tk, os⟩ := by
  refine min_two_ints (s := ⟨h, ge, dr, tk, os⟩) hh ?_
  intro h' tk' k
  by_cases e : b < a
  · rw [if_pos e]
    have := q h' tk' u (f.all k) k
    rwa [Int.min_def, if_neg (by (first | lia | omega))] at this
  · rw [if_neg e]
    have := q h' tk' t (f.all k) k
    rwa [Int.min_def, if_pos (by (first | lia | omega))] at this
/-- a for by a tuple of names over a list of tuples of the base -/
theorem for_listT {R : Result → Shared → Prop} {elts : List Expr} {x1 : Nat} {px : Pos} {body : List Stmt} {l : Addr} {vs : List Value} {c : Nat} (hh : A.handled = none) (hT : ∀ v ∈ vs, ∃ T, v = .ref T)
    (J : Nat → Heap → (Str → Option Value) → List (Addr × Obj) → Prop)
    (hJ : ∀ i h h' m news, TK h h' → J i h m news → J i h' m news)
    (hnt : ∀ i h m news, J i h m news → ∀ q ∈ news, ∀ vs, q.2 ≠ tupO vs)
    (f : FB w p loose mean mg mb g env.locals h m news) (hl : g.get? l = some (listOf vs.toArray c)) (hj : J 0 h m news)
    (turn : ∀ i v g' h tk m news, vs[i]? = some v → J i h m news → FB w p loose mean mg mb g' env.locals h m news → g.StaysIn g' → TK h g' →
      wpAny (model prog w) A (assign (.Tuple elts x1 px) env v) (fun _ s₂ => wpAny (model prog w) A (execs body env) (fun fl s₃ => match fl with
          | .next | .cont => ∃ h' tk' m' news', s₃ = ⟨h', ge, dr, tk', os⟩ ∧ FB w p loose mean mg mb g' env.locals h' m' news' ∧ J (i + 1) h' m' news'
          | .brk => R (.ok .next) s₃
          | .ret v => R (.ok (.ret v)) s₃) (fun _ _ => False) s₂) (fun _ _ => False) ⟨h, ge, dr, tk, os⟩)
    (fin : ∀ h tk m news, J vs.length h m news → FB w p loose mean mg mb g env.locals h m news → R (.ok .next) ⟨h, ge, dr, tk, os⟩) :
    wpAny (model prog w) A (pyIter (.ref l)) (fun it s₂ => codeAny (model prog w) A (.forLoop (.Tuple elts x1 px) it body [] env) R s₂) E ⟨h, ge, dr, tk, os⟩ := by
  refine mi_listK f (isList_of (f.keep _ _ hl)) ?_
  intro I h2 f2 of2 it2 li2 nI k2
  refine for_fbS (Walks.list (prog := prog) (w := w) hh I l nI vs.toArray) (fun i h hi => lit_ne hi.1) J hJ hnt f2 of2.n of2.l of2.g ?_ ⟨it2, li2⟩ (hJ _ _ _ _ _ (TK.of_keep k2) hj) ?_ ?_
  · intro b hb
    rcases List.mem_cons.mp hb with rfl | hb
    · exact .inl rfl
    · rw [List.mem_singleton] at hb; subst hb
      exact .inr ⟨_, hl⟩
  · intro i v g' h3 tk3 m3 news3 hi hv hst hj3 f3 st3 t3
    have hv' : vs[i]? = some v := by simpa using hv
    obtain ⟨T, rfl⟩ := hT v (List.mem_of_getElem? hv')
    refine wpAny_letOwnedTupleGo_listiter (s := ⟨h3, ge, dr, tk3, os⟩) hst.1 ?_
    exact turn i _ g' h3 tk3 m3 news3 hv' hj3 f3 st3 t3
  · intro h3 tk3 m3 news3 hj3 f3
    refine fin h3 tk3 m3 news3 ?_ f3
    simpa using hj3
end
end
section
section
variable {prog : Program} {w : World} {A : Around} {E : Value → Shared → Prop} {p : Program} {loose : List Str} {mean : ExcName → Option Value} {mg mb : Str → Option Value} {g h : Heap} {ge : Array GenState} {dr : Drawn} {tk : Nat} {os : OsState}
  {L : Addr} {m : Str → Option Value} {news : List (Addr × Obj)} {env : Env}
/-- a comprehension is at its end: what its def's frame is, and its own -/
structure Lv (w : World) (p : Program) (loose : List Str) (mean : ExcName → Option Value) (mg mb : Str → Option Value) (g : Heap) (L : Addr) (m : Str → Option Value) (C : Addr) (h : Heap) (news : List (Addr × Obj)) : Prop where
  f : FB w p loose mean mg mb g L h m news
  ns : ∃ mC, h.Ns C mC
  cL : C ≠ L
  gC : g.get? C = none
  nC : ∀ q ∈ news, q.1 ≠ C
theorem lv_of {G h' : Heap} {C : Addr} {m' : Str → Option Value} {news' : List (Addr × Obj)} (f : FB w p loose mean mg mb g L h m news) (st : g.StaysIn G) (hGL : ∃ oL, G.get? L = some oL) (hGh : ∀ a o, G.get? a = some o → h.get? a = some o) (hCn : h.get? C = none)
    (f' : FB w p loose mean mg mb G C h' m' news') : Lv w p loose mean mg mb g L m C h' news' := by
  obtain ⟨oL, hgL⟩ := hGL
  refine ⟨⟨?_, fun a o e => f'.keep _ _ (st a o e), f.out, fun r hr => ?_, f.B⟩, ⟨_, f'.ns⟩, ?_, ?_, fun q hq => (f'.N q hq).2.1⟩
  · obtain ⟨o, es, ep, hL', hd', r⟩ := f.ns
    have e1 := f'.keep _ _ hgL
    have e2 : h.get? L = some oL := hGh _ _ hgL
    rw [hL'] at e2; cases e2
    exact ⟨oL, es, ep, e1, hd', r⟩
  · have z := f'.N r hr
    refine ⟨z.1, fun e => ?_, ?_⟩
    · have := z.2.2
      rw [e, hgL] at this; cases this
    · cases e : g.get? r.1 with
      | none => rfl
      | some o => have := z.2.2; rw [st _ _ e] at this; cases this
  · rintro rfl
    have := hGh _ _ hgL
    rw [hCn] at this; cases this
  · cases e : g.get? C with
    | none => rfl
    | some o => rw [f.keep _ _ e] at hCn; cases hCn
theorem Lv.go {C : Addr} {h' h'' : Heap} {m' : Str → Option Value} {news' : List (Addr × Obj)} (hC : ∃ mC, h'.Ns C mC) (cL : C ≠ L) (gC : g.get? C = none) (nC : ∀ q ∈ news', q.1 ≠ C) (f : FB w p loose mean mg mb g L h' m' news') (hs : Heap.SameBut C h' h'') : FB w p loose mean mg mb g L h'' m' news' ∧ TK h' h'' := by
  refine ⟨⟨?_, fun a o e => (hs.2 a ?_).trans (f.keep a o e), f.out, fun r hr => ⟨(hs.2 _ (nC r hr)).trans (f.N r hr).1, (f.N r hr).2⟩, f.B⟩, TK.of_ch (Ch.of_same hs) ?_⟩
  · obtain ⟨o, es, ep, hL', r⟩ := f.ns
    exact ⟨o, es, ep, (hs.2 _ (Ne.symm cL)).trans hL', r⟩
  · rintro rfl; rw [gC] at e; cases e
  · intro r hr vs e
    rw [List.mem_singleton] at hr; subst hr
    obtain ⟨mC, o, es, ep, hC', hd', _⟩ := hC
    rw [hC'] at e; cases e; cases hd'
theorem post_use {C D : Addr} {h' : Heap} {fl : Flow} {news' : List (Addr × Obj)} {y : Str} {py : Pos} {Q : Value → Shared → Prop} (v : Lv w p loose mean mg mb g env.locals m C h' news') (hl : env.kindOf y = some .local) (hp : (env.scope.kind == .class || (env.scope.kind == .module && env.locals != env.globals)) = false)
    (q : ∀ h'' tk'', FB w p loose mean mg mb g env.locals h'' (setM m y (.ref D)) news' → TK h' h'' → Q .none ⟨h'', ge, dr, tk'', os⟩) :
    compPost (model prog w) A E (some (assign (.Name y py) env)) Q (.ref D) C (.ok fl) ⟨h', ge, dr, tk, os⟩ := by
  show wpAny (model prog w) A (assign (.Name y py) env (.ref D)) _ E _
  refine wpAny_assign_Name (wpAny_storeName_local hl v.f.ns (fun h2 hn hs => ?_) hp)
  obtain ⟨mC, hC⟩ := v.ns
  have hC2 : h2.Ns C mC := hC.sameBut hs v.cL
  have f2 := v.f.loc (m' := setM m y (.ref D)) hn hs
  have t2 : TK h' h2 := TK.of_ch (Ch.of_same hs) fun r hr vs e => by
    rw [List.mem_singleton] at hr; subst hr
    obtain ⟨oL, es, ep, hL, hd, _⟩ := v.f.ns
    rw [hL] at e; cases e; cases hd
  refine ⟨mC, hC2, fun h3 hs3 => ?_⟩
  obtain ⟨f3, t3⟩ := Lv.go ⟨mC, hC2⟩ v.cL v.gC v.nC f2 hs3
  exact q h3 _ f3 (t2.trans t3)
/-- a name is given a comprehension's list -/
theorem mw_asgComp {y : Str} {py : Pos} {elt target iter : Expr} {ifs : List Expr} {rest : List Comprehension} {scope : Scope} {cl : List (Str × Addr)} {pos spos : Pos} {s : Shared} {Q : Flow → Shared → Prop}
    (h : wpAny (model prog w) A (eval iter env) (fun x s₁ => wpAny (model prog w) A (pyIter x) (fun it s₂ => wpAny (model prog w) A (newList []) (fun acc s₃ =>
      wpAny (model prog w) A (newFunctionEnv scope env.globals cl [] env.qual none .none (some env)) (fun cenv s₄ =>
        codeAny (model prog w) A (.compStart (.ListComp elt (⟨target, iter, ifs, 0⟩ :: rest) scope pos) 0 it acc { cenv with scope := relabel scope env }) (compPost (model prog w) A E (some (assign (.Name y py) env)) (fun _ => Q .next) acc cenv.locals) s₄) E s₃) E s₂) E s₁) E s)
    (hclos : closureFor scope env = pure cl) (hs : ∀ x, foldedSetIterable iter env x = pure x) (hkind : scope.kind = .function) (hnames : ∀ x ∈ scope.names, x.2 = .local → scope.names.lookup x.1 = some .local)
    (hsw : swapsWith (.ListComp elt (⟨target, iter, ifs, 0⟩ :: rest) scope pos) (some (.Name y py)) spos.line env = pure true) :
    wpAny (model prog w) A (exec (.Assign [.Name y py] (.ListComp elt (⟨target, iter, ifs, 0⟩ :: rest) scope pos) spos) env) Q E s := by
  rw [exec_Assign_Name_used _ _ _ _ hsw]
  refine wpAny_bind (wpAny_standAt (wpAny_bind ?_))
  show wpAny _ A (do let _ ← comprehension (.ListComp elt (⟨target, iter, ifs, 0⟩ :: rest) scope pos) scope env _ (newList []) false (eval iter env) (some (assign (.Name y py) env))) _ _ s
  exact wpAny_bind (wpAny_mono (wpAny_comprehension_free (use := some (assign (.Name y py) env)) (Q := fun _ s' => Q .next s') rfl hs hclos hkind hnames h) (fun _ s' hq => wpAny_pure (wpAny_pure hq)) fun _ _ e => e)
/-- a comprehension's own frame, over the frame of its def -/
theorem comp_enterR (f : FB w p loose mean mg mb g L h m news) {I : Addr} (hIL : I ≠ L) (hIg : g.get? I = none) (hIn : I ∉ news.map (·.1)) (hIh : ∃ o, h.get? I = some o ∧ ∀ vs, o ≠ tupO vs) (hnt : ∀ q ∈ news, ∀ vs, q.2 ≠ tupO vs)
    {scope : Scope} {cl : List (Str × Addr)} {e : Expr} {it : Value} {RR : Value → Addr → Result → Shared → Prop} {Fin : Addr → Heap → Nat → List (Addr × Obj) → Prop} (hcell : ∀ y ∈ scope.names, y.2 ≠ .cell) (hkind : scope.kind = .function)
    (hRR : ∀ D C fl h' tk' news', Lv w p loose mean mg mb g L m C h' news' → Fin D h' tk' news' → RR (.ref D) C (.ok fl) ⟨h', ge, dr, tk', os⟩)
    (q : ∀ g₁ D C h₁ tk', FB w p loose mean mg mb g₁ C h₁ (fun _ => none) ((D, listOf #[] 0) :: news) → g.StaysIn g₁ → Ch (I :: news.map (·.1)) h g₁ → TK h g₁ → (∀ a o, h.get? a = some o → h₁.get? a = some o) → I ≠ C → I ≠ D → g₁.get? I = none → h.get? D = none →
      codeAny (model prog w) A (.compStart e 0 it (.ref D) (compEnvC scope cl C env)) (fun r s' => match r with
        | .ok _ => ∃ h' tk' m' news', s' = ⟨h', ge, dr, tk', os⟩ ∧ FB w p loose mean mg mb g₁ C h' m' news' ∧ Fin D h' tk' news'
        | .error _ => False) ⟨h₁, ge, dr, tk', os⟩) :
    wpAny (model prog w) A (newList []) (fun acc s₃ =>
      wpAny (model prog w) A (newFunctionEnv scope env.globals cl [] env.qual none .none (some env)) (fun cenv s₄ =>
        codeAny (model prog w) A (.compStart e 0 it acc { cenv with scope := relabel scope env }) (RR acc cenv.locals) s₄) E s₃) E ⟨h, ge, dr, tk, os⟩ := by
  obtain ⟨st, ⟨oL, esL, epL, hgL, hdL⟩, Bg⟩ := f.hide (hs := [I]) (by intro a ha; rw [List.mem_singleton] at ha; subst ha; exact ⟨hIL, hIg⟩)
  have tg : TK h (hideAll h ([I] ++ news.map (·.1))) := fun a vs e => hideAll_get _ e fun hm => by
    rcases List.mem_append.mp hm with hm | hm
    · rw [List.mem_singleton] at hm; subst hm
      obtain ⟨o, ho, hne⟩ := hIh
      rw [e] at ho; exact hne vs (Option.some.inj ho).symm
    · obtain ⟨r, hr, rfl⟩ := List.mem_map.mp hm
      have z := (f.N r hr).1
      rw [e] at z
      exact hnt r hr vs (Option.some.inj z).symm
  refine wpAny_newObj_type (s := ⟨h, ge, dr, tk, os⟩) (wpAny_newFunctionEnv hcell (by intro y hy; simp at hy) (fun h₁ hns hsb => ?_) hkind)
  have hD : (h.push { cls := .type "list", data := .seq ([] : List Value).toArray }).get? h.objs.size = some (listOf #[] 0) := Heap.get?_push_at rfl rfl
  generalize hH : h.push { cls := .type "list", dict := none, data := .seq ([] : List Value).toArray } = H at hns hsb hD ⊢
  have kH : ∀ a o, h.get? a = some o → H.get? a = some o := fun a o e => hH ▸ Heap.get?_push_of_some _ e
  have sz : H.objs.size = h.objs.size + 1 := by rw [← hH, Heap.size_push]
  have k1 : ∀ a o, H.get? a = some o → h₁.get? a = some o := fun a o e => hsb.extBut a o (Nat.ne_of_lt (Heap.lt_size e)) (Heap.get?_push_of_some _ e)
  have gl : ∀ a o, (hideAll h ([I] ++ news.map (·.1))).get? a = some o → h₁.get? a = some o := fun a o e => k1 _ _ (kH _ _ (of_hideAll _ e))
  have gn : ∀ a, h.get? a = none → (hideAll h ([I] ++ news.map (·.1))).get? a = none := fun a e => by
    cases e1 : (hideAll h ([I] ++ news.map (·.1))).get? a with
    | none => rfl
    | some o => rw [of_hideAll _ e1] at e; cases e
  have hCn : h.get? H.objs.size = none := Heap.get?_none_of_le (by rw [sz]; exact Nat.le_succ _)
  have hDn : h.get? h.objs.size = none := Heap.get?_none_of_le (Nat.le_refl _)
  have fC : FB w p loose mean mg mb (hideAll h ([I] ++ news.map (·.1))) H.objs.size h₁ (fun _ => none) ((h.objs.size, listOf #[] 0) :: news) := by
    refine ⟨hns, gl, gn _ hCn, fun r hr => ?_, Bg⟩
    rcases List.mem_cons.mp hr with rfl | hr
    · exact ⟨k1 _ _ hD, by show h.objs.size ≠ H.objs.size; rw [sz]; exact Nat.ne_of_lt (Nat.lt_succ_self _), gn _ hDn⟩
    · have z := f.N r hr
      exact ⟨k1 _ _ (kH _ _ z.1), Nat.ne_of_lt (by rw [sz]; exact Nat.lt_succ_of_lt (Heap.lt_size z.1)), hideAll_none _ (List.mem_append_right _ (List.mem_map_of_mem hr))⟩
  obtain ⟨oI, hoI, _⟩ := hIh
  refine codeAny_mono (q _ h.objs.size H.objs.size h₁ _ fC st (fun a o n e => hideAll_get _ e (by simpa using n)) tg (fun a o e => k1 _ _ (kH _ _ e)) (fun e => by rw [e, hCn] at hoI; cases hoI) (fun e => by rw [e, hDn] at hoI; cases hoI) (hideAll_none _ (.head _)) hDn) (fun r s' x => ?_)
  cases r with
  | error x' => exact x.elim
  | ok fl =>
    obtain ⟨h', tk', m', news', rfl, f', k⟩ := x
    exact hRR _ _ fl _ _ _ (lv_of f st ⟨_, hgL⟩ (fun a o e => of_hideAll _ e) hCn f') k
/-- a comprehension's own frame with one cell, over the frame of its def -/
theorem comp_enter1R (f : FB w p loose mean mg mb g L h m news) {I : Addr} (hIL : I ≠ L) (hIg : g.get? I = none) (hIn : I ∉ news.map (·.1)) (hIh : ∃ o, h.get? I = some o ∧ ∀ vs, o ≠ tupO vs) (hnt : ∀ q ∈ news, ∀ vs, q.2 ≠ tupO vs)
    {scope : Scope} {cl : List (Str × Addr)} {x : Str} {e : Expr} {it : Value} {RR : Value → Addr → Result → Shared → Prop} {Fin : Addr → Heap → Nat → List (Addr × Obj) → Prop} (hc : ∀ n, cellsFrom n scope.names cl = (x, n) :: cl) (hpc : ∀ h, pushCells h scope.names = h.push (cellV none))
    (hRR : ∀ D C fl h' tk' news', Lv w p loose mean mg mb g L m C h' news' → Fin D h' tk' news' → RR (.ref D) C (.ok fl) ⟨h', ge, dr, tk', os⟩)
    (q : ∀ g₁ D C h₁ tk', FB w p loose mean mg mb g₁ C h₁ (fun _ => none) ((C + 1, cellV none) :: (D, listOf #[] 0) :: news) → g.StaysIn g₁ → Ch (I :: news.map (·.1)) h g₁ → TK h g₁ → (∀ a o, h.get? a = some o → h₁.get? a = some o) → I ≠ C → I ≠ D → I ≠ C + 1 → g₁.get? I = none → h.get? D = none → D ≠ C + 1 → h.get? (C + 1) = none →
      codeAny (model prog w) A (.compStart e 0 it (.ref D) (compEnvC scope ((x, C + 1) :: cl) C env)) (fun r s' => match r with
        | .ok _ => ∃ h' tk' m' news', s' = ⟨h', ge, dr, tk', os⟩ ∧ FB w p loose mean mg mb g₁ C h' m' news' ∧ Fin D h' tk' news'
        | .error _ => False) ⟨h₁, ge, dr, tk', os⟩) :
    wpAny (model prog w) A (newList []) (fun acc s₃ =>
      wpAny (model prog w) A (newFunctionEnv scope env.globals cl [] env.qual none .none (some env)) (fun cenv s₄ =>
        codeAny (model prog w) A (.compStart e 0 it acc { cenv with scope := relabel scope env }) (RR acc cenv.locals) s₄) E s₃) E ⟨h, ge, dr, tk, os⟩ := by
  obtain ⟨st, ⟨oL, esL, epL, hgL, hdL⟩, Bg⟩ := f.hide (hs := [I]) (by intro a ha; rw [List.mem_singleton] at ha; subst ha; exact ⟨hIL, hIg⟩)
  have tg : TK h (hideAll h ([I] ++ news.map (·.1))) := fun a vs e => hideAll_get _ e fun hm => by
    rcases List.mem_append.mp hm with hm | hm
    · rw [List.mem_singleton] at hm; subst hm
      obtain ⟨o, ho, hne⟩ := hIh
      rw [e] at ho; exact hne vs (Option.some.inj ho).symm
    · obtain ⟨r, hr, rfl⟩ := List.mem_map.mp hm
      have z := (f.N r hr).1
      rw [e] at z
      exact hnt r hr vs (Option.some.inj z).symm
  refine wpAny_newObj_type (s := ⟨h, ge, dr, tk, os⟩) (newEnv_one hc hpc ?_)
  have kH : ∀ a o, h.get? a = some o → (h.push { cls := .type "list", data := .seq ([] : List Value).toArray }).get? a = some o := fun a o e => Heap.get?_push_of_some _ e
  have hD : (h.push { cls := .type "list", data := .seq ([] : List Value).toArray }).get? h.objs.size = some (listOf #[] 0) := Heap.get?_push_at rfl rfl
  have sz : (h.push { cls := .type "list", dict := none, data := .seq ([] : List Value).toArray }).objs.size = h.objs.size + 1 := Heap.size_push ..
  generalize h.push { cls := .type "list", dict := none, data := .seq ([] : List Value).toArray } = H at *
  have k1 : ∀ a o, H.get? a = some o → ((H.push { cls := .type "dict", data := .dict #[] }).push (cellV none)).get? a = some o := fun a o e => Heap.get?_push_of_some _ (Heap.get?_push_of_some _ e)
  have hns : ((H.push { cls := .type "dict", data := .dict #[] }).push (cellV none)).Ns H.objs.size fun _ => none := (Heap.Ns.new H (.type "dict")).keeps fun b o e => Heap.get?_push_of_some _ e
  have hcl : ((H.push { cls := .type "dict", data := .dict #[] }).push (cellV none)).get? (H.objs.size + 1) = some (cellV none) := by
    have := Heap.get?_push_size (H.push { cls := .type "dict", data := .dict #[] }) (o := cellV none) rfl
    rwa [Heap.size_push] at this
  generalize (H.push { cls := .type "dict", data := .dict #[] }).push (cellV none) = h₁ at *
  have gl : ∀ a o, (hideAll h ([I] ++ news.map (·.1))).get? a = some o → h₁.get? a = some o := fun a o e => k1 _ _ (kH _ _ (of_hideAll _ e))
  have gn : ∀ a, h.get? a = none → (hideAll h ([I] ++ news.map (·.1))).get? a = none := fun a e => by
    cases e1 : (hideAll h ([I] ++ news.map (·.1))).get? a with
    | none => rfl
    | some o => rw [of_hideAll _ e1] at e; cases e
  have hCn : h.get? H.objs.size = none := Heap.get?_none_of_le (by rw [sz]; exact Nat.le_succ _)
  have hCn1 : h.get? (H.objs.size + 1) = none := Heap.get?_none_of_le (by rw [sz]; exact Nat.le_succ_of_le (Nat.le_succ _))
  have hDn : h.get? h.objs.size = none := Heap.get?_none_of_le (Nat.le_refl _)
  have nlt : ∀ {a o}, h.get? a = some o → a < H.objs.size := fun e => by rw [sz]; exact Nat.lt_succ_of_lt (Heap.lt_size e)
  have fC : FB w p loose mean mg mb (hideAll h ([I] ++ news.map (·.1))) H.objs.size h₁ (fun _ => none) ((H.objs.size + 1, cellV none) :: (h.objs.size, listOf #[] 0) :: news) := by
    refine ⟨hns, gl, gn _ hCn, fun r hr => ?_, Bg⟩
    rcases List.mem_cons.mp hr with rfl | hr
    · exact ⟨hcl, Nat.succ_ne_self _, gn _ hCn1⟩
    rcases List.mem_cons.mp hr with rfl | hr
    · exact ⟨k1 _ _ hD, by show h.objs.size ≠ H.objs.size; rw [sz]; exact Nat.ne_of_lt (Nat.lt_succ_self _), gn _ hDn⟩
    · have z := f.N r hr
      exact ⟨k1 _ _ (kH _ _ z.1), Nat.ne_of_lt (nlt z.1), hideAll_none _ (List.mem_append_right _ (List.mem_map_of_mem hr))⟩
  obtain ⟨oI, hoI, _⟩ := hIh
  refine codeAny_mono (q _ h.objs.size H.objs.size h₁ _ fC st (fun a o n e => hideAll_get _ e (by simpa using n)) tg (fun a o e => k1 _ _ (kH _ _ e)) (fun e => by rw [e, hCn] at hoI; cases hoI) (fun e => by rw [e, hDn] at hoI; cases hoI) (fun e => by rw [e, hCn1] at hoI; cases hoI) (hideAll_none _ (.head _)) hDn (by rw [sz]; exact Nat.ne_of_lt (Nat.lt_succ_of_lt (Nat.lt_succ_self _))) hCn1) (fun r s' x => ?_)
  cases r with
  | error x' => exact x.elim
  | ok fl =>
    obtain ⟨h', tk', m', news', rfl, f', k⟩ := x
    exact hRR _ _ fl _ _ _ (lv_of f st ⟨oL, hgL⟩ (fun a o e => of_hideAll _ e) hCn f') k
/-- a comprehension of one clause by a name -/
theorem comp_walkR {elt iter : Expr} {x : Str} {px : Pos} {ifs : List Expr} {scope : Scope} {cl : List (Str × Addr)} {pos : Pos} {RR : Value → Addr → Result → Shared → Prop} {I : Addr} {fp : List Addr} {n : Nat} {P : Nat → Value → Prop} {St : Nat → Heap → Prop}
    (W : Walks prog w A I fp [I] n P St) (hI : ∀ i h, St i h → ∃ o, h.get? I = some o ∧ ∀ vs, o ≠ tupO vs)
    (J : Nat → Heap → List Value → List (Addr × Obj) → Prop)
    (hJ : ∀ i h h' acc news, TK h h' → J i h acc news → J i h' acc news)
    (hnt : ∀ i h acc news, J i h acc news → ∀ q ∈ news, ∀ vs, q.2 ≠ tupO vs) (hlen : ∀ i h acc news, J i h acc news → acc.length ≤ i) (hz : n ≤ 1000000)
    (f : FB w p loose mean mg mb g L h m news) (of : Off g L news I) (hfp : ∀ b ∈ fp, b = I ∨ ∃ o, g.get? b = some o) (hst : St 0 h) (hframe : ∀ h', (∀ a o, h.get? a = some o → h'.get? a = some o) → St 0 h') (hj : J 0 h [] news)
    (hcell : ∀ y ∈ scope.names, y.2 ≠ .cell) (hkind : scope.kind = .function)
    (hk : ∀ C, (compEnvC scope cl C env).kindOf x = some .local) (hp : ∀ C, ((compEnvC scope cl C env).scope.kind == .class || ((compEnvC scope cl C env).scope.kind == .module && (compEnvC scope cl C env).locals != (compEnvC scope cl C env).globals)) = false)
    (hloc : ∀ C, (compEnvC scope cl C env).locals = C)
    (turn : ∀ i v g' C h tk m acc news, i < n → P i v → J i h acc news → FB w p loose mean mg mb g' C h (setM m x v) news → g.StaysIn g' →
      wpAny (model prog w) A (compTests ifs (compEnvC scope cl C env)) (fun ok s₃ => if ok = true then
          wpAny (model prog w) A (eval elt (compEnvC scope cl C env)) (fun u s₄ => ∃ h' tk' m' news', s₄ = ⟨h', ge, dr, tk', os⟩ ∧ FB w p loose mean mg mb g' C h' m' news' ∧ J (i + 1) h' (acc ++ [u]) news') (fun _ _ => False) s₃
        else ∃ h' tk' m' news', s₃ = ⟨h', ge, dr, tk', os⟩ ∧ FB w p loose mean mg mb g' C h' m' news' ∧ J (i + 1) h' acc news') (fun _ _ => False) ⟨h, ge, dr, tk, os⟩)
    (fin : ∀ D C fl h tk acc c news, J n h acc news → Lv w p loose mean mg mb g L m C h ((D, listOf acc.toArray c) :: news) → (∀ q ∈ news, q.1 ≠ D) → RR (.ref D) C (.ok fl) ⟨h, ge, dr, tk, os⟩) :
    wpAny (model prog w) A (newList []) (fun acc s₃ =>
      wpAny (model prog w) A (newFunctionEnv scope env.globals cl [] env.qual none .none (some env)) (fun cenv s₄ =>
        codeAny (model prog w) A (.compStart (.ListComp elt [⟨.Name x px, iter, ifs, 0⟩] scope pos) 0 (.ref I) acc { cenv with scope := relabel scope env }) (RR acc cenv.locals) s₄) E s₃) E ⟨h, ge, dr, tk, os⟩ := by
  refine comp_enterR (RR := RR) (Fin := fun D h' tk' news' => ∃ acc c news, news' = (D, listOf acc.toArray c) :: news ∧ J n h' acc news ∧ ∀ q ∈ news, q.1 ≠ D) f of.l of.g of.n (hI _ _ hst) (hnt _ _ _ _ hj) hcell hkind (fun D C fl h' tk' news' v x => by
    obtain ⟨acc, c, news, rfl, j, e⟩ := x
    exact fin D C fl h' tk' acc c news j v e) ?_
  intro g1 D C h1 tk1 f1 st1 ch1 t1 k1 hIC hID hIg hDn
  have hCl := hloc C
  generalize hce : compEnvC scope cl C env = cenv at *
  subst hCl
  refine comp1_go W hI (fun i h m news0 => ∃ acc c news, news0 = (D, listOf acc.toArray c) :: news ∧ J i h acc news ∧ ∀ q ∈ news, q.1 ≠ D) ?hJ ?hnt f1 ?hIn hIC hIg ?hfp (hframe _ k1) ⟨[], 0, news, rfl, hJ _ _ _ _ _ (TK.of_keep k1) hj, fun q hq e => ?_⟩ ?turn ?fin
  case hJ =>
    rintro i h h' m news0 t ⟨acc, c, news, rfl, j, e⟩
    exact ⟨acc, c, news, rfl, hJ _ _ _ _ _ t j, e⟩
  case hnt =>
    rintro i h m news0 ⟨acc, c, news, rfl, j, e⟩ q hq
    rcases List.mem_cons.mp hq with rfl | hq
    · exact lst_ne _ _
    · exact hnt _ _ _ _ j q hq
  case hIn =>
    intro hm
    rcases List.mem_cons.mp hm with hm | hm
    · exact hID hm
    · exact of.n hm
  case hfp =>
    intro b hb
    rcases hfp b hb with rfl | ⟨o, ho⟩
    · exact .inl rfl
    · exact .inr ⟨o, st1 _ _ ho⟩
  · have := (f.N q hq).1
    rw [e, hDn] at this; cases this
  case turn =>
    rintro i v g2 h2 tk2 m2 news0 hi hv ⟨acc, c, news2, rfl, j2, e2⟩ f2 st2 t2
    unfold CompT
    have hk' : cenv.kindOf x = some .local := by rw [← hce]; exact hk _
    have hp' := hp cenv.locals
    rw [hce] at hp'
    refine mw_goN (mw_asgK f2 ?_ hk' hp')
    intro h3 tk3 f3 t3
    obtain ⟨g3, f4, st4, ch4, t4⟩ := f3.rebase (news' := news2) (fun q hq => .tail _ hq) (hnt _ _ _ _ j2)
    have hD4 : g3.get? D = some (listOf acc.toArray c) := by
      refine ch4 _ _ ?_ (f3.at_ (.head _))
      intro hm
      rcases List.mem_cons.mp hm with hm | hm
      · exact (f3.N _ (.head _)).2.1 hm
      · obtain ⟨q, hq, e⟩ := List.mem_map.mp hm
        exact e2 q hq e
    have tn := turn i v g3 cenv.locals h3 tk3 m2 acc news2 hi hv (hJ _ _ _ _ _ t3 j2) f4 (fun a o e => st4 _ _ (st2 _ _ (st1 _ _ e)))
    rw [hce] at tn
    have ap : ∀ {h' m' news'}, FB w p loose mean mg mb g3 cenv.locals h' m' news' → ∀ q ∈ news', q.1 ≠ D := fun f q hq e => by
      have := f.new_ hq
      rw [show q.1 = D from e, hD4] at this; cases this
    have bk : ∀ {h' m' news'}, FB w p loose mean mg mb g3 cenv.locals h' m' news' → FB w p loose mean mg mb g2 cenv.locals h' m' ((D, listOf acc.toArray c) :: news') := fun f =>
      (f.back st4 f2.B).cons (f.keep _ _ hD4) (f3.N _ (.head _)).2.1 (f3.N _ (.head _)).2.2
    refine wpAny_mono tn (fun ok s₃ x => ?_) fun _ _ e => e
    cases ok with
    | false =>
      simp only [Bool.false_eq_true, if_false] at x ⊢
      obtain ⟨h', tk', m', news', rfl, f5, j5⟩ := x
      exact ⟨h', tk', m', _, rfl, bk f5, acc, c, news', rfl, j5, ap f5⟩
    | true =>
      simp only [if_true] at x ⊢
      unfold emitP
      refine wpAny_mono x (fun u s₄ y => ?_) fun _ _ e => e
      obtain ⟨h', tk', m', news', rfl, f5, j5⟩ := y
      have hl := hlen _ _ _ _ j2
      refine ml_pushG (news' := (D, listOf (acc ++ [u]).toArray (c + 1)) :: news') (bk f5) (.head _) (fun q hq => ?_) (by rw [sizeLine_eq]; (first | lia | omega)) ?_
      · rcases List.mem_cons.mp hq with rfl | hq
        · exact .inr rfl
        · exact .inl ⟨.tail _ hq, ap f5 q hq⟩
      intro h6 f6 t6
      exact ⟨h6, tk', m', _, rfl, f6, _, _, news', rfl, hJ _ _ _ _ _ t6 j5, ap f5⟩
  case fin =>
    rintro h2 tk2 m2 news0 ⟨acc, c, news2, rfl, j2, e2⟩ f2
    exact ⟨_, _, _, _, rfl, f2, acc, c, news2, rfl, j2, e2⟩
/-- over a list of the base -/
theorem comp_listR {elt iter : Expr} {x : Str} {px : Pos} {ifs : List Expr} {scope : Scope} {cl : List (Str × Addr)} {pos : Pos} {RR : Value → Addr → Result → Shared → Prop} {l : Addr} {vs : List Value} {c : Nat} (hh : A.handled = none)
    (J : Nat → Heap → List Value → List (Addr × Obj) → Prop)
    (hJ : ∀ i h h' acc news, TK h h' → J i h acc news → J i h' acc news)
    (hnt : ∀ i h acc news, J i h acc news → ∀ q ∈ news, ∀ vs, q.2 ≠ tupO vs) (hlen : ∀ i h acc news, J i h acc news → acc.length ≤ i) (hz : vs.length ≤ 1000000)
    (f : FB w p loose mean mg mb g L h m news) (hl : g.get? l = some (listOf vs.toArray c)) (hj : J 0 h [] news)
    (hcell : ∀ y ∈ scope.names, y.2 ≠ .cell) (hkind : scope.kind = .function)
    (hk : ∀ C, (compEnvC scope cl C env).kindOf x = some .local) (hp : ∀ C, ((compEnvC scope cl C env).scope.kind == .class || ((compEnvC scope cl C env).scope.kind == .module && (compEnvC scope cl C env).locals != (compEnvC scope cl C env).globals)) = false)
    (hloc : ∀ C, (compEnvC scope cl C env).locals = C)
    (turn : ∀ i v g' C h tk m acc news, vs[i]? = some v → J i h acc news → FB w p loose mean mg mb g' C h (setM m x v) news → g.StaysIn g' →
      wpAny (model prog w) A (compTests ifs (compEnvC scope cl C env)) (fun ok s₃ => if ok = true then
          wpAny (model prog w) A (eval elt (compEnvC scope cl C env)) (fun u s₄ => ∃ h' tk' m' news', s₄ = ⟨h', ge, dr, tk', os⟩ ∧ FB w p loose mean mg mb g' C h' m' news' ∧ J (i + 1) h' (acc ++ [u]) news') (fun _ _ => False) s₃
        else ∃ h' tk' m' news', s₃ = ⟨h', ge, dr, tk', os⟩ ∧ FB w p loose mean mg mb g' C h' m' news' ∧ J (i + 1) h' acc news') (fun _ _ => False) ⟨h, ge, dr, tk, os⟩)
    (fin : ∀ D C fl h tk acc c news, J vs.length h acc news → Lv w p loose mean mg mb g L m C h ((D, listOf acc.toArray c) :: news) → (∀ q ∈ news, q.1 ≠ D) → RR (.ref D) C (.ok fl) ⟨h, ge, dr, tk, os⟩) :
    wpAny (model prog w) A (pyIter (.ref l)) (fun it s₂ => wpAny (model prog w) A (newList []) (fun acc s₃ =>
      wpAny (model prog w) A (newFunctionEnv scope env.globals cl [] env.qual none .none (some env)) (fun cenv s₄ =>
        codeAny (model prog w) A (.compStart (.ListComp elt [⟨.Name x px, iter, ifs, 0⟩] scope pos) 0 it acc { cenv with scope := relabel scope env }) (RR acc cenv.locals) s₄) E s₃) E s₂) E ⟨h, ge, dr, tk, os⟩ := by
  refine mi_listK f (isList_of (f.keep _ _ hl)) ?_
  intro I h2 f2 of2 it2 li2 nI k2
  refine comp_walkR (Walks.list (prog := prog) (w := w) hh I l nI vs.toArray) (fun i h hi => lit_ne hi.1) J hJ hnt hlen (by simpa using hz) f2 of2 ?_ ⟨it2, li2⟩ (fun h' k => ⟨it2.at fun o e => k _ _ e, li2.at fun o e => k _ _ e⟩) (hJ _ _ _ _ _ (TK.of_keep k2) hj) hcell hkind hk hp hloc ?_ ?_
  · intro b hb
    rcases List.mem_cons.mp hb with rfl | hb
    · exact .inl rfl
    · rw [List.mem_singleton] at hb; subst hb
      exact .inr ⟨_, hl⟩
  · intro i v g' C h3 tk3 m3 acc news3 hi hv
    exact turn i v g' C h3 tk3 m3 acc news3 (by simpa using hv)
  · intro D C fl h3 tk3 acc c3 news3 hj3
    exact fin D C fl h3 tk3 acc c3 news3 (by simpa using hj3)
/-- over range(n) -/
theorem comp_rangeR {elt iter : Expr} {x : Str} {px : Pos} {ifs : List Expr} {scope : Scope} {cl : List (Str × Addr)} {pos : Pos} {RR : Value → Addr → Result → Shared → Prop} {n : Nat} {t : Tok} (hh : A.handled = none)
    (J : Nat → Heap → List Value → List (Addr × Obj) → Prop)
    (hJ : ∀ i h h' acc news, TK h h' → J i h acc news → J i h' acc news)
    (hnt : ∀ i h acc news, J i h acc news → ∀ q ∈ news, ∀ vs, q.2 ≠ tupO vs) (hlen : ∀ i h acc news, J i h acc news → acc.length ≤ i) (hz : n ≤ 1000000)
    (f : FB w p loose mean mg mb g L h m news) (hj : J 0 h [] news)
    (hcell : ∀ y ∈ scope.names, y.2 ≠ .cell) (hkind : scope.kind = .function)
    (hk : ∀ C, (compEnvC scope cl C env).kindOf x = some .local) (hp : ∀ C, ((compEnvC scope cl C env).scope.kind == .class || ((compEnvC scope cl C env).scope.kind == .module && (compEnvC scope cl C env).locals != (compEnvC scope cl C env).globals)) = false)
    (hloc : ∀ C, (compEnvC scope cl C env).locals = C)
    (turn : ∀ i t g' C h tk m acc news, i < n → J i h acc news → FB w p loose mean mg mb g' C h (setM m x (.int ((i : Nat) : Int) t)) news → g.StaysIn g' →
      wpAny (model prog w) A (compTests ifs (compEnvC scope cl C env)) (fun ok s₃ => if ok = true then
          wpAny (model prog w) A (eval elt (compEnvC scope cl C env)) (fun u s₄ => ∃ h' tk' m' news', s₄ = ⟨h', ge, dr, tk', os⟩ ∧ FB w p loose mean mg mb g' C h' m' news' ∧ J (i + 1) h' (acc ++ [u]) news') (fun _ _ => False) s₃
        else ∃ h' tk' m' news', s₃ = ⟨h', ge, dr, tk', os⟩ ∧ FB w p loose mean mg mb g' C h' m' news' ∧ J (i + 1) h' acc news') (fun _ _ => False) ⟨h, ge, dr, tk, os⟩)
    (fin : ∀ D C fl h tk acc c news, J n h acc news → Lv w p loose mean mg mb g L m C h ((D, listOf acc.toArray c) :: news) → (∀ q ∈ news, q.1 ≠ D) → RR (.ref D) C (.ok fl) ⟨h, ge, dr, tk, os⟩) :
    wpAny (model prog w) A (call (.type "range") [.int ((n : Nat) : Int) t]) (fun x₁ s₁ => wpAny (model prog w) A (pyIter x₁) (fun it s₂ => wpAny (model prog w) A (newList []) (fun acc s₃ =>
      wpAny (model prog w) A (newFunctionEnv scope env.globals cl [] env.qual none .none (some env)) (fun cenv s₄ =>
        codeAny (model prog w) A (.compStart (.ListComp elt [⟨.Name x px, iter, ifs, 0⟩] scope pos) 0 it acc { cenv with scope := relabel scope env }) (RR acc cenv.locals) s₄) E s₃) E s₂) E s₁) E ⟨h, ge, dr, tk, os⟩ := by
  refine call_range_1 (s := ⟨h, ge, dr, tk, os⟩) ?_
  have kr : ∀ a o, h.get? a = some o → (h.push (rangeO 0 n 1 tk t (tk + 1))).get? a = some o := fun a o e => Heap.get?_push_of_some _ e
  have fr := f.push (rangeO 0 n 1 tk t (tk + 1))
  refine wpAny_pyIter_range (s := ⟨h.push (rangeO 0 n 1 tk t (tk + 1)), ge, dr, _, os⟩) (fr.at_ (.head _)) (small_one (by (first | lia | omega)) (by (first | lia | omega)) (by (first | lia | omega)) (by (first | lia | omega))) ?_
  obtain ⟨f1, e1, e2, e3, e4⟩ := fr.fresh { cls := .type "range_iterator", data := .fields #[rawInt 0, rawInt (Builtin.Range.rangeSize 0 n 1), rawInt 1] }
  rw [rangeSize_one] at e1
  have e : (if (0 : Int) < (n : Nat) then ((n : Nat) : Int) - 0 else 0) = (n : Nat) := by split <;> (first | lia | omega)
  rw [e] at e1
  rw [rangeSize_one, e]
  have k2 : ∀ a o, (h.push (rangeO 0 n 1 tk t (tk + 1))).get? a = some o → ((h.push (rangeO 0 n 1 tk t (tk + 1))).push { cls := .type "range_iterator", data := .fields #[rawInt 0, rawInt ((n : Nat) : Int), rawInt 1] }).get? a = some o := fun a o e => Heap.get?_push_of_some _ e
  have f2 := (f.all kr).all k2
  generalize hI : (h.push (rangeO 0 n 1 tk t (tk + 1))).objs.size = I at *
  refine comp_walkR (Walks.range (prog := prog) (w := w) hh I 0 1 n) (fun i h hi => ⟨_, hi, rit_ne _⟩) J hJ hnt hlen hz f2 ⟨fun hm => e2 (List.mem_cons_of_mem _ hm), e3, e4⟩ (fun b hb => .inl (by simpa using hb)) (by simpa using e1) (fun h' k => by simpa using k _ _ e1) (hJ _ _ _ _ _ (TK.of_keep fun a o e => k2 _ _ (kr _ _ e)) hj) hcell hkind hk hp hloc ?_ fin
  rintro i v g' C h3 tk3 m3 acc news3 hi ⟨t7, rfl⟩
  rw [show (0 : Int) + (i : Int) * 1 = ((i : Nat) : Int) by (first | lia | omega)]
  exact turn i t7 g' C h3 tk3 m3 acc news3 hi
/-- a comprehension of one clause by a name that lies in a cell -/
theorem comp_walk1R {elt iter : Expr} {x : Str} {px : Pos} {ifs : List Expr} {scope : Scope} {cl : List (Str × Addr)} {pos : Pos} {RR : Value → Addr → Result → Shared → Prop} {I : Addr} {fp : List Addr} {n : Nat} {P : Nat → Value → Prop} {St : Nat → Heap → Prop}
    (W : Walks prog w A I fp [I] n P St) (hI : ∀ i h, St i h → ∃ o, h.get? I = some o ∧ ∀ vs, o ≠ tupO vs)
    (J : Nat → Heap → List Value → List (Addr × Obj) → Prop)
    (hJ : ∀ i h h' acc news, TK h h' → J i h acc news → J i h' acc news)
    (hnt : ∀ i h acc news, J i h acc news → ∀ q ∈ news, ∀ vs, q.2 ≠ tupO vs) (hlen : ∀ i h acc news, J i h acc news → acc.length ≤ i) (hz : n ≤ 1000000)
    (f : FB w p loose mean mg mb g L h m news) (of : Off g L news I) (hfp : ∀ b ∈ fp, b = I ∨ ∃ o, g.get? b = some o) (hst : St 0 h) (hframe : ∀ h', (∀ a o, h.get? a = some o → h'.get? a = some o) → St 0 h') (hj : J 0 h [] news)
    (hc : ∀ n, cellsFrom n scope.names cl = (x, n) :: cl) (hpc : ∀ h, pushCells h scope.names = h.push (cellV none))
    (hk : ∀ C, (compEnvC scope ((x, C + 1) :: cl) C env).kindOf x = some .cell) (hf : ∀ C, (compEnvC scope ((x, C + 1) :: cl) C env).scope.kind = .function)
    (hloc : ∀ C, (compEnvC scope ((x, C + 1) :: cl) C env).locals = C) (hcel : ∀ C, (compEnvC scope ((x, C + 1) :: cl) C env).cells.lookup x = some (C + 1))
    (turn : ∀ i v g' C h tk m acc news, i < n → P i v → J i h acc news → FB w p loose mean mg mb g' C h m ((C + 1, cellV (some v)) :: news) → g.StaysIn g' →
      wpAny (model prog w) A (compTests ifs (compEnvC scope ((x, C + 1) :: cl) C env)) (fun ok s₃ => if ok = true then
          wpAny (model prog w) A (eval elt (compEnvC scope ((x, C + 1) :: cl) C env)) (fun u s₄ => ∃ h' tk' m' news', s₄ = ⟨h', ge, dr, tk', os⟩ ∧ FB w p loose mean mg mb g' C h' m' ((C + 1, cellV (some v)) :: news') ∧ (∀ q ∈ news', q.1 ≠ C + 1) ∧ J (i + 1) h' (acc ++ [u]) news') (fun _ _ => False) s₃
        else ∃ h' tk' m' news', s₃ = ⟨h', ge, dr, tk', os⟩ ∧ FB w p loose mean mg mb g' C h' m' ((C + 1, cellV (some v)) :: news') ∧ (∀ q ∈ news', q.1 ≠ C + 1) ∧ J (i + 1) h' acc news') (fun _ _ => False) ⟨h, ge, dr, tk, os⟩)
    (fin : ∀ D C fl h tk acc c news, J n h acc news → Lv w p loose mean mg mb g L m C h ((D, listOf acc.toArray c) :: news) → (∀ q ∈ news, q.1 ≠ D) → RR (.ref D) C (.ok fl) ⟨h, ge, dr, tk, os⟩) :
    wpAny (model prog w) A (newList []) (fun acc s₃ =>
      wpAny (model prog w) A (newFunctionEnv scope env.globals cl [] env.qual none .none (some env)) (fun cenv s₄ =>
        codeAny (model prog w) A (.compStart (.ListComp elt [⟨.Name x px, iter, ifs, 0⟩] scope pos) 0 (.ref I) acc { cenv with scope := relabel scope env }) (RR acc cenv.locals) s₄) E s₃) E ⟨h, ge, dr, tk, os⟩ := by
  refine comp_enter1R (RR := RR) (Fin := fun D h' tk' news' => ∃ acc c news, ∃ v : Addr × Option Value, news' = (v.1, cellV v.2) :: (D, listOf acc.toArray c) :: news ∧ J n h' acc news ∧ ∀ q ∈ news, q.1 ≠ D) f of.l of.g of.n (hI _ _ hst) (hnt _ _ _ _ hj) hc hpc (fun D C fl h' tk' news' v x => by
    obtain ⟨acc, c, news, v2, rfl, j, e⟩ := x
    exact fin D C fl h' tk' acc c news j ⟨v.f.sub fun q hq => .tail _ hq, v.ns, v.cL, v.gC, fun q hq => v.nC q (.tail _ hq)⟩ e) ?_
  intro g1 D C h1 tk1 f1 st1 ch1 t1 k1 hIC hID hICc hIg hDn hDC hCcn
  have hCl := hloc C
  have hk1 := hk C
  have hf1 := hf C
  have hc1 := hcel C
  have turn1 := fun i v g' => turn i v g' C
  generalize hce : compEnvC scope ((x, C + 1) :: cl) C env = cenv at *
  subst hCl
  refine comp1_go W hI (fun i h m news0 => ∃ acc c news v, news0 = (cenv.locals + 1, cellV v) :: (D, listOf acc.toArray c) :: news ∧ J i h acc news ∧ (∀ q ∈ news, q.1 ≠ D) ∧ ∀ q ∈ news, q.1 ≠ cenv.locals + 1) ?hJ ?hnt f1 ?hIn hIC hIg ?hfp (hframe _ k1) ⟨[], 0, news, none, rfl, hJ _ _ _ _ _ (TK.of_keep k1) hj, fun q hq e => ?_, fun q hq e => ?_⟩ ?turn ?fin
  case hJ =>
    rintro i h h' m news0 t ⟨acc, c, news, v, rfl, j, e⟩
    exact ⟨acc, c, news, v, rfl, hJ _ _ _ _ _ t j, e⟩
  case hnt =>
    rintro i h m news0 ⟨acc, c, news, v, rfl, j, e⟩ q hq
    rcases List.mem_cons.mp hq with rfl | hq
    · exact cellW_ne _ _ _ _
    rcases List.mem_cons.mp hq with rfl | hq
    · exact lst_ne _ _
    · exact hnt _ _ _ _ j q hq
  case hIn =>
    intro hm
    rcases List.mem_cons.mp hm with hm | hm
    · exact hICc hm
    rcases List.mem_cons.mp hm with hm | hm
    · exact hID hm
    · exact of.n hm
  case hfp =>
    intro b hb
    rcases hfp b hb with rfl | ⟨o, ho⟩
    · exact .inl rfl
    · exact .inr ⟨o, st1 _ _ ho⟩
  · have := (f.N q hq).1
    rw [e, hDn] at this; cases this
  · have := (f.N q hq).1
    rw [e, hCcn] at this; cases this
  case turn =>
    rintro i v g2 h2 tk2 m2 news0 hi hv ⟨acc, c, news2, v0, rfl, j2, e2, e3⟩ f2 st2 t2
    unfold CompT
    refine mw_goN (mw_asgC f2 hc1 ?_ ?_ hk1 hf1)
    · intro q hq
      rcases List.mem_cons.mp hq with rfl | hq
      · exact hDC
      · exact e3 q hq
    intro h3 f3 t3
    have nt3 : ∀ q ∈ (cenv.locals + 1, cellV (some v)) :: news2, ∀ vs, q.2 ≠ tupO vs := fun q hq => by
      rcases List.mem_cons.mp hq with rfl | hq
      · exact cellW_ne _ _ _ _
      · exact hnt _ _ _ _ j2 q hq
    obtain ⟨g3, f4, st4, ch4, t4⟩ := f3.rebase (news' := (cenv.locals + 1, cellV (some v)) :: news2) (fun q hq => by
      rcases List.mem_cons.mp hq with rfl | hq
      · exact .head _
      · exact .tail _ (.tail _ hq)) nt3
    have hD4 : g3.get? D = some (listOf acc.toArray c) := by
      refine ch4 _ _ ?_ (f3.at_ (.tail _ (.head _)))
      intro hm
      rcases List.mem_cons.mp hm with hm | hm
      · exact (f3.N _ (.tail _ (.head _))).2.1 hm
      rcases List.mem_cons.mp hm with hm | hm
      · exact hDC hm
      · obtain ⟨q, hq, e⟩ := List.mem_map.mp hm
        exact e2 q hq e
    have tn := turn1 i v g3 h3 tk2 m2 acc news2 hi hv (hJ _ _ _ _ _ t3 j2) f4 (fun a o e => st4 _ _ (st2 _ _ (st1 _ _ e)))
    have ap : ∀ {h' m' news'}, FB w p loose mean mg mb g3 cenv.locals h' m' ((cenv.locals + 1, cellV (some v)) :: news') → ∀ q ∈ news', q.1 ≠ D := fun f q hq e => by
      have := f.new_ (.tail _ hq)
      rw [show q.1 = D from e, hD4] at this; cases this
    have bk : ∀ {h' m' news'}, FB w p loose mean mg mb g3 cenv.locals h' m' ((cenv.locals + 1, cellV (some v)) :: news') → FB w p loose mean mg mb g2 cenv.locals h' m' ((cenv.locals + 1, cellV (some v)) :: (D, listOf acc.toArray c) :: news') := fun f =>
      ((f.back st4 f2.B).cons (f.keep _ _ hD4) (f3.N _ (.tail _ (.head _))).2.1 (f3.N _ (.tail _ (.head _))).2.2).sub fun q hq => by
        rcases List.mem_cons.mp hq with rfl | hq
        · exact .tail _ (.head _)
        rcases List.mem_cons.mp hq with rfl | hq
        · exact .head _
        · exact .tail _ (.tail _ hq)
    refine wpAny_mono tn (fun ok s₃ x => ?_) fun _ _ e => e
    cases ok with
    | false =>
      simp only [Bool.false_eq_true, if_false] at x ⊢
      obtain ⟨h', tk', m', news', rfl, f5, a5, j5⟩ := x
      exact ⟨h', tk', m', _, rfl, bk f5, acc, c, news', some v, rfl, j5, ap f5, a5⟩
    | true =>
      simp only [if_true] at x ⊢
      unfold emitP
      refine wpAny_mono x (fun u s₄ y => ?_) fun _ _ e => e
      obtain ⟨h', tk', m', news', rfl, f5, a5, j5⟩ := y
      have hl := hlen _ _ _ _ j2
      refine ml_pushG (news' := (cenv.locals + 1, cellV (some v)) :: (D, listOf (acc ++ [u]).toArray (c + 1)) :: news') (bk f5) (.tail _ (.head _)) (fun q hq => ?_) (by rw [sizeLine_eq]; (first | lia | omega)) ?_
      · rcases List.mem_cons.mp hq with rfl | hq
        · exact .inl ⟨.head _, Ne.symm hDC⟩
        rcases List.mem_cons.mp hq with rfl | hq
        · exact .inr rfl
        · exact .inl ⟨.tail _ (.tail _ hq), ap f5 q hq⟩
      intro h6 f6 t6
      exact ⟨h6, tk', m', _, rfl, f6, _, _, news', some v, rfl, hJ _ _ _ _ _ t6 j5, ap f5, a5⟩
  case fin =>
    rintro h2 tk2 m2 news0 ⟨acc, c, news2, v0, rfl, j2, e2, e3⟩ f2
    exact ⟨_, _, _, _, rfl, f2, acc, c, news2, (_, v0), rfl, j2, e2⟩
/-- over a list of the base -/
theorem comp_list1R {elt iter : Expr} {x : Str} {px : Pos} {ifs : List Expr} {scope : Scope} {cl : List (Str × Addr)} {pos : Pos} {RR : Value → Addr → Result → Shared → Prop} {l : Addr} {vs : List Value} {c : Nat} (hh : A.handled = none)
    (J : Nat → Heap → List Value → List (Addr × Obj) → Prop)
    (hJ : ∀ i h h' acc news, TK h h' → J i h acc news → J i h' acc news)
    (hnt : ∀ i h acc news, J i h acc news → ∀ q ∈ news, ∀ vs, q.2 ≠ tupO vs) (hlen : ∀ i h acc news, J i h acc news → acc.length ≤ i) (hz : vs.length ≤ 1000000)
    (f : FB w p loose mean mg mb g L h m news) (hl : g.get? l = some (listOf vs.toArray c)) (hj : J 0 h [] news)
    (hc : ∀ n, cellsFrom n scope.names cl = (x, n) :: cl) (hpc : ∀ h, pushCells h scope.names = h.push (cellV none))
    (hk : ∀ C, (compEnvC scope ((x, C + 1) :: cl) C env).kindOf x = some .cell) (hf : ∀ C, (compEnvC scope ((x, C + 1) :: cl) C env).scope.kind = .function)
    (hloc : ∀ C, (compEnvC scope ((x, C + 1) :: cl) C env).locals = C) (hcel : ∀ C, (compEnvC scope ((x, C + 1) :: cl) C env).cells.lookup x = some (C + 1))
    (turn : ∀ i v g' C h tk m acc news, vs[i]? = some v → J i h acc news → FB w p loose mean mg mb g' C h m ((C + 1, cellV (some v)) :: news) → g.StaysIn g' →
      wpAny (model prog w) A (compTests ifs (compEnvC scope ((x, C + 1) :: cl) C env)) (fun ok s₃ => if ok = true then
          wpAny (model prog w) A (eval elt (compEnvC scope ((x, C + 1) :: cl) C env)) (fun u s₄ => ∃ h' tk' m' news', s₄ = ⟨h', ge, dr, tk', os⟩ ∧ FB w p loose mean mg mb g' C h' m' ((C + 1, cellV (some v)) :: news') ∧ (∀ q ∈ news', q.1 ≠ C + 1) ∧ J (i + 1) h' (acc ++ [u]) news') (fun _ _ => False) s₃
        else ∃ h' tk' m' news', s₃ = ⟨h', ge, dr, tk', os⟩ ∧ FB w p loose mean mg mb g' C h' m' ((C + 1, cellV (some v)) :: news') ∧ (∀ q ∈ news', q.1 ≠ C + 1) ∧ J (i + 1) h' acc news') (fun _ _ => False) ⟨h, ge, dr, tk, os⟩)
    (fin : ∀ D C fl h tk acc c news, J vs.length h acc news → Lv w p loose mean mg mb g L m C h ((D, listOf acc.toArray c) :: news) → (∀ q ∈ news, q.1 ≠ D) → RR (.ref D) C (.ok fl) ⟨h, ge, dr, tk, os⟩) :
    wpAny (model prog w) A (pyIter (.ref l)) (fun it s₂ => wpAny (model prog w) A (newList []) (fun acc s₃ =>
      wpAny (model prog w) A (newFunctionEnv scope env.globals cl [] env.qual none .none (some env)) (fun cenv s₄ =>
        codeAny (model prog w) A (.compStart (.ListComp elt [⟨.Name x px, iter, ifs, 0⟩] scope pos) 0 it acc { cenv with scope := relabel scope env }) (RR acc cenv.locals) s₄) E s₃) E s₂) E ⟨h, ge, dr, tk, os⟩ := by
  refine mi_listK f (isList_of (f.keep _ _ hl)) ?_
  intro I h2 f2 of2 it2 li2 nI k2
  refine comp_walk1R (Walks.list (prog := prog) (w := w) hh I l nI vs.toArray) (fun i h hi => lit_ne hi.1) J hJ hnt hlen (by simpa using hz) f2 of2 ?_ ⟨it2, li2⟩ (fun h' k => ⟨it2.at fun o e => k _ _ e, li2.at fun o e => k _ _ e⟩) (hJ _ _ _ _ _ (TK.of_keep k2) hj) hc hpc hk hf hloc hcel ?_ ?_
  · intro b hb
    rcases List.mem_cons.mp hb with rfl | hb
    · exact .inl rfl
    · rw [List.mem_singleton] at hb; subst hb
      exact .inr ⟨_, hl⟩
  · intro i v g' C h3 tk3 m3 acc news3 hi hv
    exact turn i v g' C h3 tk3 m3 acc news3 (by simpa using hv)
  · intro D C fl h3 tk3 acc c3 news3 hj3
    exact fin D C fl h3 tk3 acc c3 news3 (by simpa using hj3)
/-- over range(n) -/
theorem comp_range1R {elt iter : Expr} {x : Str} {px : Pos} {ifs : List Expr} {scope : Scope} {cl : List (Str × Addr)} {pos : Pos} {RR : Value → Addr → Result → Shared → Prop} {n : Nat} {t : Tok} (hh : A.handled = none)
    (J : Nat → Heap → List Value → List (Addr × Obj) → Prop)
    (hJ : ∀ i h h' acc news, TK h h' → J i h acc news → J i h' acc news)
    (hnt : ∀ i h acc news, J i h acc news → ∀ q ∈ news, ∀ vs, q.2 ≠ tupO vs) (hlen : ∀ i h acc news, J i h acc news → acc.length ≤ i) (hz : n ≤ 1000000)
    (f : FB w p loose mean mg mb g L h m news) (hj : J 0 h [] news)
    (hc : ∀ n, cellsFrom n scope.names cl = (x, n) :: cl) (hpc : ∀ h, pushCells h scope.names = h.push (cellV none))
    (hk : ∀ C, (compEnvC scope ((x, C + 1) :: cl) C env).kindOf x = some .cell) (hf : ∀ C, (compEnvC scope ((x, C + 1) :: cl) C env).scope.kind = .function)
    (hloc : ∀ C, (compEnvC scope ((x, C + 1) :: cl) C env).locals = C) (hcel : ∀ C, (compEnvC scope ((x, C + 1) :: cl) C env).cells.lookup x = some (C + 1))
    (turn : ∀ i t g' C h tk m acc news, i < n → J i h acc news → FB w p loose mean mg mb g' C h m ((C + 1, cellV (some (.int ((i : Nat) : Int) t))) :: news) → g.StaysIn g' →
      wpAny (model prog w) A (compTests ifs (compEnvC scope ((x, C + 1) :: cl) C env)) (fun ok s₃ => if ok = true then
          wpAny (model prog w) A (eval elt (compEnvC scope ((x, C + 1) :: cl) C env)) (fun u s₄ => ∃ h' tk' m' news', s₄ = ⟨h', ge, dr, tk', os⟩ ∧ FB w p loose mean mg mb g' C h' m' ((C + 1, cellV (some (.int ((i : Nat) : Int) t))) :: news') ∧ (∀ q ∈ news', q.1 ≠ C + 1) ∧ J (i + 1) h' (acc ++ [u]) news') (fun _ _ => False) s₃
        else ∃ h' tk' m' news', s₃ = ⟨h', ge, dr, tk', os⟩ ∧ FB w p loose mean mg mb g' C h' m' ((C + 1, cellV (some (.int ((i : Nat) : Int) t))) :: news') ∧ (∀ q ∈ news', q.1 ≠ C + 1) ∧ J (i + 1) h' acc news') (fun _ _ => False) ⟨h, ge, dr, tk, os⟩)
    (fin : ∀ D C fl h tk acc c news, J n h acc news → Lv w p loose mean mg mb g L m C h ((D, listOf acc.toArray c) :: news) → (∀ q ∈ news, q.1 ≠ D) → RR (.ref D) C (.ok fl) ⟨h, ge, dr, tk, os⟩) :
    wpAny (model prog w) A (call (.type "range") [.int ((n : Nat) : Int) t]) (fun x₁ s₁ => wpAny (model prog w) A (pyIter x₁) (fun it s₂ => wpAny (model prog w) A (newList []) (fun acc s₃ =>
      wpAny (model prog w) A (newFunctionEnv scope env.globals cl [] env.qual none .none (some env)) (fun cenv s₄ =>
        codeAny (model prog w) A (.compStart (.ListComp elt [⟨.Name x px, iter, ifs, 0⟩] scope pos) 0 it acc { cenv with scope := relabel scope env }) (RR acc cenv.locals) s₄) E s₃) E s₂) E s₁) E ⟨h, ge, dr, tk, os⟩ := by
  refine call_range_1 (s := ⟨h, ge, dr, tk, os⟩) ?_
  have kr : ∀ a o, h.get? a = some o → (h.push (rangeO 0 n 1 tk t (tk + 1))).get? a = some o := fun a o e => Heap.get?_push_of_some _ e
  have fr := f.push (rangeO 0 n 1 tk t (tk + 1))
  refine wpAny_pyIter_range (s := ⟨h.push (rangeO 0 n 1 tk t (tk + 1)), ge, dr, _, os⟩) (fr.at_ (.head _)) (small_one (by (first | lia | omega)) (by (first | lia | omega)) (by (first | lia | omega)) (by (first | lia | omega))) ?_
  obtain ⟨f1, e1, e2, e3, e4⟩ := fr.fresh { cls := .type "range_iterator", data := .fields #[rawInt 0, rawInt (Builtin.Range.rangeSize 0 n 1), rawInt 1] }
  rw [rangeSize_one] at e1
  have e : (if (0 : Int) < (n : Nat) then ((n : Nat) : Int) - 0 else 0) = (n : Nat) := by split <;> (first | lia | omega)
  rw [e] at e1
  rw [rangeSize_one, e]
  have k2 : ∀ a o, (h.push (rangeO 0 n 1 tk t (tk + 1))).get? a = some o → ((h.push (rangeO 0 n 1 tk t (tk + 1))).push { cls := .type "range_iterator", data := .fields #[rawInt 0, rawInt ((n : Nat) : Int), rawInt 1] }).get? a = some o := fun a o e => Heap.get?_push_of_some _ e
  have f2 := (f.all kr).all k2
  generalize hI : (h.push (rangeO 0 n 1 tk t (tk + 1))).objs.size = I at *
  refine comp_walk1R (Walks.range (prog := prog) (w := w) hh I 0 1 n) (fun i h hi => ⟨_, hi, rit_ne _⟩) J hJ hnt hlen hz f2 ⟨fun hm => e2 (List.mem_cons_of_mem _ hm), e3, e4⟩ (fun b hb => .inl (by simpa using hb)) (by simpa using e1) (fun h' k => by simpa using k _ _ e1) (hJ _ _ _ _ _ (TK.of_keep fun a o e => k2 _ _ (kr _ _ e)) hj) hc hpc hk hf hloc hcel ?_ fin
  rintro i v g' C h3 tk3 m3 acc news3 hi ⟨t7, rfl⟩
  rw [show (0 : Int) + (i : Int) * 1 = ((i : Nat) : Int) by (first | lia | omega)]
  exact turn i t7 g' C h3 tk3 m3 acc news3 hi
end
end
section
theorem ints_at {vs : List Value} {ns : List Int} (h : IntsAre vs ns) : ∀ {i : Nat}, i < ns.length → ∃ t, vs[i]? = some (.int (ns.getD i 0) t) := by
  induction h with
  | nil => intro i hi; simp at hi
  | @cons n t vs ns _ ih =>
    intro i hi
    cases i with
    | zero => exact ⟨t, by simp⟩
    | succ i =>
      obtain ⟨t', e⟩ := ih (i := i) (by simpa using hi)
      exact ⟨t', by simpa using e⟩
theorem ints_set {vs : List Value} {ns : List Int} (h : IntsAre vs ns) : ∀ (i : Nat) (x : Int) (t : Tok), IntsAre (vs.set i (.int x t)) (ns.set i x) := by
  induction h with
  | nil => intro i x t; exact .nil
  | @cons n u vs ns h ih =>
    intro i x t
    cases i with
    | zero => exact .cons x t h
    | succ i => exact .cons n u (ih i x t)
theorem ints_snoc {vs : List Value} {ns : List Int} (h : IntsAre vs ns) (x : Int) (t : Tok) : IntsAre (vs ++ [.int x t]) (ns ++ [x]) := by
  induction h with
  | nil => exact .cons x t .nil
  | cons n u _ ih => exact .cons n u ih
noncomputable def wayT (w : Way) : List Int := [((w.1 : Nat) : Int), ((w.2.1 : Nat) : Int), ((w.2.2 : Nat) : Int)]
theorem way_tup {h : Heap} {v : Value} {w : Way} (r : tupR h v (wayT w)) : ∃ T t1 t2 t3, v = .ref T ∧ h.get? T = some (tupO [.int ((w.1 : Nat) : Int) t1, .int ((w.2.1 : Nat) : Int) t2, .int ((w.2.2 : Nat) : Int) t3]) := by
  obtain ⟨T, vs, rfl, hT, hi⟩ := r
  unfold wayT at hi
  cases hi with
  | cons _ t1 hi =>
    cases hi with
    | cons _ t2 hi =>
      cases hi with
      | cons _ t3 hi =>
        cases hi
        exact ⟨T, t1, t2, t3, rfl, hT⟩
section
variable {prog : Program} {w : World} {A : Around} {E : Value → Shared → Prop} {p : Program} {loose : List Str} {mean : ExcName → Option Value} {mg mb : Str → Option Value} {g h : Heap} {ge : Array GenState} {dr : Drawn} {tk : Nat} {os : OsState}
  {L : Addr} {m : Str → Option Value} {news : List (Addr × Obj)} {env : Env} {s : Shared}
/-- a for by a name over range(n) -/
theorem for_range {R : Result → Shared → Prop} {x : Str} {px : Pos} {body : List Stmt} {n : Nat} {t : Tok} (hh : A.handled = none) (hn : n ≤ 1000000)
    (J : Nat → Heap → (Str → Option Value) → List (Addr × Obj) → Prop)
    (hJ : ∀ i h h' m news, TK h h' → J i h m news → J i h' m news)
    (hnt : ∀ i h m news, J i h m news → ∀ q ∈ news, ∀ vs, q.2 ≠ tupO vs)
    (f : FB w p loose mean mg mb g env.locals h m news) (hj : J 0 h m news)
    (hk : env.kindOf x = some .local) (hp : (env.scope.kind == .class || (env.scope.kind == .module && env.locals != env.globals)) = false)
    (turn : ∀ i t g' h tk m news, i < n → J i h m news → FB w p loose mean mg mb g' env.locals h (setM m x (.int ((i : Nat) : Int) t)) news → g.StaysIn g' →
      wpAny (model prog w) A (execs body env) (fun fl s₃ => match fl with
          | .next | .cont => ∃ h' tk' m' news', s₃ = ⟨h', ge, dr, tk', os⟩ ∧ FB w p loose mean mg mb g' env.locals h' m' news' ∧ J (i + 1) h' m' news'
          | .brk => R (.ok .next) s₃
          | .ret v => R (.ok (.ret v)) s₃) (fun _ _ => False) ⟨h, ge, dr, tk, os⟩)
    (fin : ∀ h tk m news, J n h m news → FB w p loose mean mg mb g env.locals h m news → R (.ok .next) ⟨h, ge, dr, tk, os⟩) :
    wpAny (model prog w) A (call (.type "range") [.int ((n : Nat) : Int) t]) (fun x₁ s₁ => wpAny (model prog w) A (pyIter x₁) (fun it s₂ => codeAny (model prog w) A (.forLoop (.Name x px) it body [] env) R s₂) (fun _ _ => False) s₁) E ⟨h, ge, dr, tk, os⟩ := by
  refine call_range_1 (s := ⟨h, ge, dr, tk, os⟩) ?_
  have kr : ∀ a o, h.get? a = some o → (h.push (rangeO 0 n 1 tk t (tk + 1))).get? a = some o := fun a o e => Heap.get?_push_of_some _ e
  have fr := f.push (rangeO 0 n 1 tk t (tk + 1))
  refine wpAny_pyIter_range (s := ⟨h.push (rangeO 0 n 1 tk t (tk + 1)), ge, dr, _, os⟩) (fr.at_ (.head _)) (small_one (by (first | lia | omega)) (by (first | lia | omega)) (by (first | lia | omega)) (by (first | lia | omega))) ?_
  obtain ⟨f1, e1, e2, e3, e4⟩ := fr.fresh { cls := .type "range_iterator", data := .fields #[rawInt 0, rawInt (Builtin.Range.rangeSize 0 n 1), rawInt 1] }
  rw [rangeSize_one] at e1
  have e : (if (0 : Int) < (n : Nat) then ((n : Nat) : Int) - 0 else 0) = (n : Nat) := by split <;> (first | lia | omega)
  rw [e] at e1
  rw [rangeSize_one, e]
  have k2 : ∀ a o, (h.push (rangeO 0 n 1 tk t (tk + 1))).get? a = some o → ((h.push (rangeO 0 n 1 tk t (tk + 1))).push { cls := .type "range_iterator", data := .fields #[rawInt 0, rawInt ((n : Nat) : Int), rawInt 1] }).get? a = some o := fun a o e => Heap.get?_push_of_some _ e
  have f2 := (f.all kr).all k2
  generalize hI : (h.push (rangeO 0 n 1 tk t (tk + 1))).objs.size = I at *
  refine for_fb (Walks.range (prog := prog) (w := w) hh I 0 1 n) (fun i h hi => ⟨_, hi, rit_ne _⟩) J hJ hnt f2 (fun hm => e2 (List.mem_cons_of_mem _ hm)) e3 e4 (fun b hb => .inl (by simpa using hb)) (by simpa using e1) (hJ _ _ _ _ _ (TK.of_keep fun a o e => k2 _ _ (kr _ _ e)) hj) ?_ fin
  rintro i v g' h3 tk3 m3 news3 hi ⟨t7, rfl⟩ hj3 f3 st3 t3
  rw [show (0 : Int) + (i : Int) * 1 = ((i : Nat) : Int) by (first | lia | omega)]
  refine mw_goN (mw_asgK f3 ?_ hk hp)
  intro h4 tk4 f4 t4
  exact turn i t7 g' h4 tk4 m3 news3 hi (hJ _ _ _ _ _ t4 hj3) f4 st3
end
end
section
section
variable {prog : Program} {w : World} {A : Around} {E : Value → Shared → Prop} {p : Program} {loose : List Str} {mean : ExcName → Option Value} {mg mb : Str → Option Value} {b h : Heap} {ge : Array GenState} {dr : Drawn} {tk : Nat} {os : OsState}
  {Q : Value → Shared → Prop}
/-- `_law_far` -/
theorem far_spec (B : Base w p loose mean mg mb b) (hb : b.StaysIn h) {ws : List Way} (G : GoodWays ws) {wl : Addr} {wv : List Value} {wc : Nat} (hwl : b.get? wl = some (listOf wv.toArray wc)) (hwr : RelL (tupR b) wv (ws.map wayT)) {q0 : Nat} {t0 : Tok}
    (hd : A.depth + 20 < recursionLimit) (hu : A.units + 300 < cLine) (hh : A.handled = none)
    (q : ∀ l h' tk' vs c, (∀ a o, h.get? a = some o → h'.get? a = some o) → h.get? l = none → h'.get? l = some (listOf vs.toArray c) → IntsAre vs (bfN ws q0 6) → Q (.ref l) ⟨h', ge, dr, tk', os⟩) :
    wpAny (model prog w) A (call (.ref 126) [.ref wl, .int ((q0 : Nat) : Int) t0]) Q E ⟨h, ge, dr, tk, os⟩ := by
  have BX := B.X
  refine' mk_enterC (news := []) (binds := [("ways", .ref wl), ("post", .int ((q0 : Nat) : Int) t0)]) B hb ?k0 ?k6 ?k7 (by (first | lia | omega)) ?k9 ?kB ?kN ?_ ?c2 ?c3 ?c4
  case k0 => exact fun q hq => by cases hq
  case k6 => k_is
  case k7 => k_is
  case k9 => exact fun _ => BindsTo.of_eq rfl
  case kB =>
    intro n y hy
    rcases List.mem_cons.mp hy with rfl | hy
    · exact .inl rfl
    · rw [List.mem_singleton] at hy; subst hy
      exact .inr ⟨rfl, rfl⟩
  case kN => decide
  case c2 => exact rfl
  case c3 => exact rfl
  case c4 => exact rfl
  intro g L h₁ tk₁ cells fb hcs hg tg hbg
  obtain ⟨cl1, di1, sl1, rfl⟩ := cells_one hcs
  clear BX
  obtain ⟨m0, f0, ml0⟩ : ∃ m : Str → Option Value, FB w p loose mean mg mb g L h₁ m [(L + 1, cellW cl1 di1 sl1 (some (.int ((q0 : Nat) : Int) t0)))] ∧ m "ways" = some (.ref wl) := ⟨_, fb, rfl⟩
  clear fb
  have X := f0.B.X
  have hgw := hbg _ _ hwl
  have hgr : RelL (tupR g) wv (ws.map wayT) := hwr.mono fun _ _ => tupV.keep (TK.of_keep hbg)
  have cne : ∀ q ∈ [(L + 1, cellW cl1 di1 sl1 (some (.int ((q0 : Nat) : Int) t0)))], ∀ vs, q.2 ≠ tupO vs := by
    intro q hq; rw [List.mem_singleton] at hq; subst hq; exact cellW_ne _ _ _ _
  walk_at "go"
  refine mw_asgComp (cl := [("post", L + 1)]) ?_ ?clos (fun _ => rfl) rfl ?names rfl
  case clos => rfl
  case names => decide
  walk_at "go"
  refine mk_ty ?_ rfl rfl
  walk_at "go"
  refine comp_rangeR (n := 7) (env := envOfC _ _ _ _ _) (by exact hh) (fun i h acc news => IntsAre acc (((List.range 7).take i).map fun v => if v = q0 then 0 else 99) ∧ news = [(L + 1, cellW cl1 di1 sl1 (some (.int ((q0 : Nat) : Int) t0)))]) (fun _ _ _ _ _ _ e => e) (fun _ _ _ _ e => e.2 ▸ cne) (fun i _ _ _ e => by rw [e.1.length]; simp; (first | lia | omega)) (by (first | lia | omega)) f0 ⟨.nil, rfl⟩ ?hcell ?hkind ?hk ?hp ?hloc ?turn ?fin
  case hcell => decide
  case hkind => rfl
  case hk => exact fun _ => rfl
  case hp => exact fun _ => rfl
  case hloc => exact fun _ => rfl
  case turn =>
    rintro i t g2 C h2 tk2 m2 acc news2 hi ⟨i2, rfl⟩ f2 st2
    refine tests_nil ?_
    rw [if_pos rfl]
    refine wpHide ?_
    intro Q0 hQ0
    walk_at "go"
    have etk : (List.range 7).take (i + 1) = (List.range 7).take i ++ [i] := by rw [List.take_add_one, List.getElem?_range hi]; rfl
    by_cases e : i = q0
    · subst e
      rw [if_pos (by simp)]
      walk_at "go"
      refine hQ0 _ _ ⟨_, _, _, _, rfl, f2, ?_, rfl⟩
      rw [etk, List.map_append, List.map_singleton, if_pos rfl]
      exact ints_snoc i2 _ _
    · rw [if_neg (by simp; (first | lia | omega))]
      walk_at "go"
      refine hQ0 _ _ ⟨_, _, _, _, rfl, f2, ?_, rfl⟩
      rw [etk, List.map_append, List.map_singleton, if_neg e]
      exact ints_snoc i2 _ _
  case fin =>
    rintro Dl C fl h3 tk3 acc c3 news3 ⟨i3, rfl⟩ v3 n3
    replace i3 : IntsAre acc (bfN ws q0 0) := i3
    refine post_use v3 rfl rfl ?_
    intro h4 tk4 f4 t4
    walk_at "go"
    refine mw_for ?_ (fun _ => rfl)
    walk_at "go"
    refine mk_ty ?_ rfl rfl
    walk_at "go"
    have nDC : @Ne Nat Dl (L + 1) := fun e => n3 _ (.head _) e.symm
    have cne2 : ∀ vs c, ∀ q ∈ [(Dl, listOf vs c), (L + 1, cellW cl1 di1 sl1 (some (.int ((q0 : Nat) : Int) t0)))], ∀ xs, q.2 ≠ tupO xs := by
      intro vs c q hq
      rcases List.mem_cons.mp hq with rfl | hq
      · exact lst_ne _ _
      · exact cne q hq
    refine for_range (n := 6) (env := envOfC _ _ _ _ _) (by exact hh) (by (first | lia | omega)) (fun i h m news => ∃ vs c, news = [(Dl, listOf vs.toArray c), (L + 1, cellW cl1 di1 sl1 (some (.int ((q0 : Nat) : Int) t0)))] ∧ IntsAre vs (bfN ws q0 i) ∧ m "ways" = some (.ref wl) ∧ m "far" = some (.ref Dl)) ?hJ ?hnt f4 ⟨acc, c3, rfl, i3, ml0, rfl⟩ rfl rfl ?turn2 ?fin2
    case hJ => exact fun _ _ _ _ _ _ e => e
    case hnt =>
      rintro i h m news ⟨vs, c, rfl, _⟩
      exact cne2 _ _
    case turn2 =>
      rintro i t g5 h5 tk5 m5 news5 hi ⟨vs, c, rfl, i5, m51, m52⟩ f5 st5
      refine wpHide ?_
      intro Q1 hQ1
      walk_at "go"
      refine mw_for ?_ (fun _ => rfl)
      walk_at "go"
      have hr5 : RelL (tupR g5) wv (ws.map wayT) := hgr.mono fun _ _ => tupV.keep (TK.of_keep st5)
      refine for_listT (env := envOfC _ _ _ _ _) (by exact hh) (fun v hv => ?_) (fun j h m news => ∃ vs c, news = [(Dl, listOf vs.toArray c), (L + 1, cellW cl1 di1 sl1 (some (.int ((q0 : Nat) : Int) t0)))] ∧ IntsAre vs ((ws.take j).foldl relax (bfN ws q0 i)) ∧ m "ways" = some (.ref wl) ∧ m "far" = some (.ref Dl)) ?hJ2 ?hnt2 f5 (st5 _ _ hgw) ⟨vs, c, rfl, i5, m51, m52⟩ ?turn3 ?fin3
      · obtain ⟨j, hj⟩ := List.mem_iff_getElem?.mp hv
        have hjl := (List.getElem?_eq_some_iff.mp hj).1
        obtain ⟨a, xs, e, _⟩ := hr5.2 j v _ hj (List.getElem?_eq_getElem (by rw [← hr5.1]; exact hjl))
        exact ⟨a, e⟩
      case hJ2 => exact fun _ _ _ _ _ _ e => e
      case hnt2 =>
        rintro i h m news ⟨vs, c, rfl, _⟩
        exact cne2 _ _
      case turn3 =>
        rintro j v g6 h6 tk6 m6 news6 hv ⟨vs, c, rfl, i6, m61, m62⟩ f6 st6 t6
        have hjl : j < ws.length := by
          have := (List.getElem?_eq_some_iff.mp hv).1
          rw [hr5.1, List.length_map] at this; exact this
        obtain ⟨way, hw⟩ : ∃ way, ws[j]? = some way := ⟨_, List.getElem?_eq_getElem hjl⟩
        have hwm := List.mem_of_getElem? hw
        obtain ⟨T, t1, t2, t3, rfl, hT⟩ := way_tup (hr5.2 j v (wayT way) hv (by rw [List.getElem?_map, hw]; rfl))
        refine ml_unpack (by exact hh) f6 (f6.keep _ _ (st6 _ _ hT)) rfl rfl ?_
        intro h7 f7 k7
        refine mw_ordc (mw_asgK f7 ?_ rfl rfl)
        intro h8 tk8 f8 t8
        refine mw_ordc (mw_asgK f8 ?_ rfl rfl)
        intro h9 tk9 f9 t9
        refine mw_ordc (mw_asgK f9 ?_ rfl rfl)
        intro h10 tk10 f10 t10
        refine mw_ord0 ?_
        refine wpHide ?_
        intro Q2 hQ2
        have len6 : ((ws.take j).foldl relax (bfN ws q0 i)).length = 7 := by rw [fold_len]; exact (bf_ok G i).1.len
        have hpl := G.place way hwm
        have hho := G.home way hwm
        obtain ⟨u1, hu1⟩ := ints_at i6 (i := way.2.1) (by (first | lia | omega))
        obtain ⟨u2, hu2⟩ := ints_at i6 (i := way.1) (by (first | lia | omega))
        walk_at "go"
        refine ml_itemH (f10.at_ (.head _)) (by (first | lia | omega)) (by (first | lia | omega)) (by simpa using hu1) ?_ rfl
        walk_at "go"
        refine ml_itemH (f10.at_ (.head _)) (by (first | lia | omega)) (by (first | lia | omega)) (by simpa using hu2) ?_ rfl
        walk_at "go"
        refine ml_minI (by exact hh) f10 ?_
        intro h11 tk11 t11 f11 k11
        clear f10 f9 f8 f7 f6
        walk_at "go"
        refine ml_set f11 (by k_upd) (by (first | lia | omega)) (by (first | lia | omega)) (by rw [i6.length]; (first | lia | omega)) ?_
        intro h12 f12
        walk_at "go"
        refine hQ2 _ _ ⟨_, _, _, _, rfl, f12, _, c, rfl, ?_, m61, m62⟩
        have etk : ws.take (j + 1) = ws.take j ++ [way] := by rw [List.take_add_one, hw]; rfl
        rw [etk, List.foldl_append]
        have := ints_set i6 way.2.1 (min (((ws.take j).foldl relax (bfN ws q0 i)).getD way.2.1 0) (((ws.take j).foldl relax (bfN ws q0 i)).getD way.1 0 + ((way.2.2 : Nat) : Int))) t11
        simpa [relax] using this
      case fin3 =>
        rintro h6 tk6 m6 news6 ⟨vs, c, rfl, i6, m61, m62⟩ f6
        dsimp only
        walk_at "go"
        refine hQ1 _ _ ⟨_, _, _, _, rfl, f6, vs, c, rfl, ?_, m61, m62⟩
        have e : wv.length = ws.length := by rw [hr5.1, List.length_map]
        rw [e, List.take_length] at i6
        exact i6
    case fin2 =>
      rintro h6 tk6 m6 news6 ⟨vs, c, rfl, i6, m61, m62⟩ f6
      dsimp only
      walk_at "go"
      refine q Dl h6 _ vs c (fun a o e => f6.keep _ _ (hg _ _ (by simp) e)) ?_ (f6.at_ (.head _)) i6
      cases e : h.get? Dl with
      | none => rfl
      | some o =>
        have := hg _ _ (by simp) e
        rw [f6.new_ (.head _)] at this; cases this
end
end
section
/-- lists that are made one by one -/
noncomputable def KN (K : List (Addr × List Value × Nat)) : List (Addr × Obj) := K.map fun k => (k.1, listOf k.2.1.toArray k.2.2)
theorem KN_ne (K : List (Addr × List Value × Nat)) : ∀ q ∈ KN K, ∀ vs, q.2 ≠ tupO vs := fun q hq => by
  obtain ⟨k, _, rfl⟩ := List.mem_map.mp hq
  exact lst_ne _ _
/-- the lists of ways' lengths, one for each post -/
noncomputable def FarK (ws : List Way) (qs : List Nat) (K : List (Addr × List Value × Nat)) : Prop := ∀ (j : Nat) (k : Addr × List Value × Nat) (q' : Nat), K[j]? = some k → qs[j]? = some q' → IntsAre k.2.1 (bfN ws q' 6)
theorem FB.ne2 {w : World} {p : Program} {loose : List Str} {mean : ExcName → Option Value} {mg mb : Str → Option Value} {g h : Heap} {L : Addr} {m : Str → Option Value} {news : List (Addr × Obj)} (f : FB w p loose mean mg mb g L h m news) {q1 q2 : Addr × Obj} (h1 : q1 ∈ news) (h2 : q2 ∈ news) (hn : q1.2 ≠ q2.2) : @Ne Nat q1.1 q2.1 := fun e => by
  have a := (f.N _ h1).1
  have b := (f.N _ h2).1
  rw [show q1.1 = q2.1 from e, b] at a
  exact hn (Option.some.inj a).symm
theorem two_of {κ : Type} {R : Value → κ → Prop} {vs : List Value} {a b : κ} (h : RelL R vs [a, b]) : ∃ v1 v2, vs = [v1, v2] ∧ R v1 a ∧ R v2 b := by
  obtain ⟨e, r⟩ := h
  match vs, e, r with
  | [x, y], _, r => exact ⟨x, y, rfl, r 0 x a rfl rfl, r 1 y b rfl rfl⟩
theorem pick2 {g : Heap} {k0 k1 : Addr × List Value × Nat} {d0 d1 : List Int} {i j : Nat} (hk0 : g.get? k0.1 = some (listOf k0.2.1.toArray k0.2.2)) (hk1 : g.get? k1.1 = some (listOf k1.2.1.toArray k1.2.2)) (h0 : IntsAre k0.2.1 d0) (h1 : IntsAre k1.2.1 d1) (l0 : d0.length = 7) (l1 : d1.length = 7) (hj : j < 2) :
    ∃ (kj : Addr × List Value × Nat) (dj : List Int), (List.map (fun k : Addr × List Value × Nat => Value.ref k.1) [k0, k1])[j]? = some (.ref kj.1) ∧ g.get? kj.1 = some (listOf kj.2.1.toArray kj.2.2) ∧ IntsAre kj.2.1 dj ∧ dj.length = 7 ∧ ([[d0.getD i 0, 0, ((i : Nat) : Int)], [d1.getD i 0, 1, ((i : Nat) : Int)]] : List (List Int))[j]? = some [dj.getD i 0, ((j : Nat) : Int), ((i : Nat) : Int)] := by
  rcases (show j = 0 ∨ j = 1 by (first | lia | omega)) with rfl | rfl
  · exact ⟨k0, d0, rfl, hk0, h0, l0, rfl⟩
  · exact ⟨k1, d1, rfl, hk1, h1, l1, rfl⟩
theorem lst_cell {vs : Array Value} {n : Nat} {cl : Value} {di : Option Addr} {sl : Array (Option Value)} {v : Option Value} : listOf vs n ≠ cellW cl di sl v := by
  intro e; cases e
theorem KN_at {K : List (Addr × List Value × Nat)} {i : Nat} {k : Addr × List Value × Nat} (h : K[i]? = some k) : (k.1, listOf k.2.1.toArray k.2.2) ∈ KN K := List.mem_map_of_mem (f := fun k : Addr × List Value × Nat => (k.1, listOf k.2.1.toArray k.2.2)) (List.mem_of_getElem? h)
section
variable {prog : Program} {w : World} {A : Around} {E : Value → Shared → Prop} {p : Program} {loose : List Str} {mean : ExcName → Option Value} {mg mb : Str → Option Value} {b h : Heap} {ge : Array GenState} {dr : Drawn} {tk : Nat} {os : OsState}
  {Q : Value → Shared → Prop}
/-- `_law_due` -/
theorem due_spec (B : Base w p loose mean mg mb b) (hb : b.StaysIn h) {ws : List Way} (G : GoodWays ws) {wl : Addr} {wv : List Value} {wc : Nat} (hwl : b.get? wl = some (listOf wv.toArray wc)) (hwr : RelL (tupR b) wv (ws.map wayT))
    {pl : Addr} {pv : List Value} {pc : Nat} {q0 q1 : Nat} (hpl : b.get? pl = some (listOf pv.toArray pc)) (hpr : RelL (natV.rel b) pv [q0, q1]) (h2 : 2 ≤ (dueL (bfN ws q0 6) (bfN ws q1 6)).length)
    (hd : A.depth + 60 < recursionLimit) (hu : A.units + 600 < cLine) (hh : A.handled = none)
    (q : ∀ l h' tk' vs c out, (∀ a o, h.get? a = some o → h'.get? a = some o) → h.get? l = none → h'.get? l = some (listOf vs.toArray c) → RelL (tupR h') vs out → out.Perm (dueL (bfN ws q0 6) (bfN ws q1 6)) → out.Pairwise (fun a b => lexL b a = false) → Q (.ref l) ⟨h', ge, dr, tk', os⟩) :
    wpAny (model prog w) A (call (.ref 131) [.ref wl, .ref pl]) Q E ⟨h, ge, dr, tk, os⟩ := by
  have BX := B.X
  refine' mk_enterC (news := []) (binds := [("ways", .ref wl), ("posts", .ref pl)]) B hb ?k0 ?k6 ?k7 (by (first | lia | omega)) ?k9 ?kB ?kN ?_ ?c2 ?c3 ?c4
  case k0 => exact fun q hq => by cases hq
  case k6 => k_is
  case k7 => k_is
  case k9 => exact fun _ => BindsTo.of_eq rfl
  case kB =>
    intro n y hy
    rcases List.mem_cons.mp hy with rfl | hy
    · exact .inr ⟨rfl, rfl⟩
    · rw [List.mem_singleton] at hy; subst hy
      exact .inl rfl
  case kN => decide
  case c2 => exact rfl
  case c3 => exact rfl
  case c4 => exact rfl
  intro g L h₁ tk₁ cells fb hcs hg tg hbg
  obtain ⟨cl1, di1, sl1, cl2, di2, sl2, rfl⟩ := cells_two hcs
  clear BX
  obtain ⟨m0, f0, ml0⟩ : ∃ m : Str → Option Value, FB w p loose mean mg mb g L h₁ m [(L + 1 + 1, cellW cl1 di1 sl1 none), (L + 1, cellW cl2 di2 sl2 (some (.ref wl)))] ∧ m "posts" = some (.ref pl) := ⟨_, fb, rfl⟩
  clear fb
  have X := f0.B.X
  have hgw := hbg _ _ hwl
  have hgp := hbg _ _ hpl
  have hgr : RelL (tupR g) wv (ws.map wayT) := hwr.mono fun _ _ => tupV.keep (TK.of_keep hbg)
  have n12 : @Ne Nat (L + 1 + 1) (L + 1) := by (first | lia | omega)
  have cne : ∀ v, ∀ q ∈ [(L + 1 + 1, cellW cl1 di1 sl1 v), (L + 1, cellW cl2 di2 sl2 (some (.ref wl)))], ∀ vs, q.2 ≠ tupO vs := by
    intro v q hq
    rcases List.mem_cons.mp hq with rfl | hq
    · exact cellW_ne _ _ _ _
    · rw [List.mem_singleton] at hq; subst hq; exact cellW_ne _ _ _ _
  walk_at "go"
  refine mw_comp (cl := [("ways", L + 1)]) ?_ ?clos (fun _ => rfl) rfl ?names
  case clos => rfl
  case names => decide
  walk_at "go"
  refine comp_list (env := envOfC _ _ _ _ _) (by exact hh) (fun i h acc news => ∃ K : List (Addr × List Value × Nat), acc = K.map (fun k => Value.ref k.1) ∧ news = KN K ++ [(L + 1 + 1, cellW cl1 di1 sl1 none), (L + 1, cellW cl2 di2 sl2 (some (.ref wl)))] ∧ K.length = i ∧ FarK ws [q0, q1] K) (fun _ _ _ _ _ _ e => e) ?hnt (fun i _ _ _ e => by obtain ⟨K, rfl, _, e, _⟩ := e; simp; (first | lia | omega)) (by rw [hpr.1]; show 2 ≤ _; (first | lia | omega)) f0 hgp ⟨[], rfl, rfl, rfl, fun j k q' h => by simp at h⟩ ?hcell ?hkind ?hk ?hp ?hloc ?turn ?fin
  case hnt =>
    rintro i h acc news ⟨K, _, rfl, _⟩ q hq
    rcases List.mem_append.mp hq with hq | hq
    · exact KN_ne K q hq
    · exact cne _ q hq
  case hcell => decide
  case hkind => rfl
  case hk => exact fun _ => rfl
  case hp => exact fun _ => rfl
  case hloc => exact fun _ => rfl
  case turn =>
    rintro i v g2 C h2 tk2 m2 acc news2 hv ⟨K, rfl, rfl, hK, hKi⟩ f2 st2
    have hil : i < 2 := by
      have := (List.getElem?_eq_some_iff.mp hv).1
      rw [hpr.1] at this; exact this
    obtain ⟨qi, hqi⟩ : ∃ qi, [q0, q1][i]? = some qi := ⟨_, List.getElem?_eq_getElem hil⟩
    obtain ⟨ti, rfl⟩ := hpr.2 i v qi hv hqi
    refine tests_nil ?_
    rw [if_pos rfl]
    refine wpHide ?_
    intro Q1 hQ1
    walk_at "go"
    refine far_spec f2.B f2.keep (wl := wl) G (st2 _ _ hgw) (hgr.mono fun _ _ => tupV.keep (TK.of_keep st2)) ?_ ?_ (by exact hh) ?_
    · show A.depth + 1 + 20 < _; exact bdk (by assumption) (by decide)
    · show A.units + 3 + 300 < _; exact bdk (by assumption) (by decide)
    intro l h5 tk5 vs c k5 n5 l5 i5
    obtain ⟨f5, d5⟩ := f2.grow k5 n5 l5
    refine hQ1 _ _ ⟨_, _, _, _, rfl, f5.sub (news' := KN (K ++ [(l, vs, c)]) ++ [(L + 1 + 1, cellW cl1 di1 sl1 none), (L + 1, cellW cl2 di2 sl2 (some (.ref wl)))]) ?_, K ++ [(l, vs, c)], by simp, rfl, by simp [hK], ?_⟩
    · intro q hq
      simp only [KN, List.map_append, List.append_assoc, List.mem_append, List.map_cons, List.map_nil, List.mem_cons, List.not_mem_nil, or_false] at hq ⊢
      rcases hq with hq | hq | hq | hq
      · exact .inr (.inl hq)
      · exact .inl hq
      · exact .inr (.inr (.inl hq))
      · exact .inr (.inr (.inr hq))
    · intro j k q' hk hq
      rcases Nat.lt_or_ge j K.length with hj | hj
      · rw [List.getElem?_append_left hj] at hk
        exact hKi j k q' hk hq
      · rw [List.getElem?_append_right hj] at hk
        obtain ⟨e, rfl⟩ : j - K.length = 0 ∧ k = (l, vs, c) := by
          cases e : j - K.length with
          | zero => rw [e] at hk; simp at hk; exact ⟨rfl, hk.symm⟩
          | succ n => rw [e] at hk; simp at hk
        have ej : j = i := by (first | lia | omega)
        subst ej
        rw [hqi] at hq; cases hq
        exact i5
  case fin =>
    rintro Tl h3 tk3 acc c3 news3 ⟨K, rfl, rfl, hK, hKi⟩ f3 n3
    rw [hpr.1] at hK
    replace hK : K.length = 2 := hK
    refine mw_stcG (news' := (Tl, listOf (List.map (fun k : Addr × List Value × Nat => Value.ref k.1) K).toArray c3) :: (KN K ++ [(L + 1 + 1, cellW cl1 di1 sl1 (some (.ref Tl))), (L + 1, cellW cl2 di2 sl2 (some (.ref wl)))])) f3 rfl (.tail _ (List.mem_append_right _ (.head _))) ?_ ?_ rfl rfl
    · intro q hq
      rcases List.mem_cons.mp hq with rfl | hq
      · exact .inl ⟨.head _, fun e => n3 _ (List.mem_append_right _ (.head _)) e.symm⟩
      · rcases List.mem_append.mp hq with hq | hq
        · refine .inl ⟨.tail _ (List.mem_append_left _ hq), fun e => ?_⟩
          have a := (f3.N q (.tail _ (List.mem_append_left _ hq))).1
          have b := (f3.N _ (.tail _ (List.mem_append_right _ (.head _)))).1
          obtain ⟨k, _, rfl⟩ := List.mem_map.mp hq
          rw [e] at a
          rw [a] at b
          cases b
        · rcases List.mem_cons.mp hq with rfl | hq
          · exact .inr rfl
          · rw [List.mem_singleton] at hq; subst hq
            exact .inl ⟨.tail _ (List.mem_append_right _ (.tail _ (.head _))), fun e => n12 e.symm⟩
    intro h4 f4 t4
    obtain ⟨g5, f5, st5, ch5, t5⟩ := f4.rebase (news' := [(L + 1 + 1, cellW cl1 di1 sl1 (some (.ref Tl))), (L + 1, cellW cl2 di2 sl2 (some (.ref wl)))]) (fun q hq => .tail _ (List.mem_append_right _ hq)) (cne _)
    have hc4 : ∀ q ∈ (Tl, listOf (List.map (fun k : Addr × List Value × Nat => Value.ref k.1) K).toArray c3) :: KN K, g5.get? q.1 = some q.2 := by
      intro q hq
      have hq4 : q ∈ (Tl, listOf (List.map (fun k : Addr × List Value × Nat => Value.ref k.1) K).toArray c3) :: (KN K ++ [(L + 1 + 1, cellW cl1 di1 sl1 (some (.ref Tl))), (L + 1, cellW cl2 di2 sl2 (some (.ref wl)))]) := by
        rcases List.mem_cons.mp hq with rfl | hq
        · exact .head _
        · exact .tail _ (List.mem_append_left _ hq)
      have hql : ∃ a n, q.2 = listOf a n := by
        rcases List.mem_cons.mp hq with rfl | hq
        · exact ⟨_, _, rfl⟩
        · obtain ⟨k, _, rfl⟩ := List.mem_map.mp hq
          exact ⟨_, _, rfl⟩
      obtain ⟨a, n, hqa⟩ := hql
      refine ch5 _ _ ?_ (f4.N _ hq4).1
      intro hm
      rcases List.mem_cons.mp hm with hm | hm
      · exact (f4.N _ hq4).2.1 hm
      · rcases List.mem_cons.mp hm with hm | hm
        · exact f4.ne2 hq4 (.tail _ (List.mem_append_right _ (.head _))) (by rw [hqa]; exact lst_cell) hm
        · rw [List.map_singleton, List.mem_singleton] at hm
          exact f4.ne2 hq4 (.tail _ (List.mem_append_right _ (.tail _ (.head _)))) (by rw [hqa]; exact lst_cell) hm
    obtain ⟨k0, k1, rfl⟩ : ∃ k0 k1, K = [k0, k1] := by
      match K, hK with
      | [a, b], _ => exact ⟨a, b, rfl⟩
    have hTl := hc4 _ (.head _)
    have hk0 := hc4 _ (.tail _ (.head _))
    have hk1 := hc4 _ (.tail _ (.tail _ (.head _)))
    have hi0 : IntsAre k0.2.1 (bfN ws q0 6) := hKi 0 k0 q0 rfl rfl
    have hi1 : IntsAre k1.2.1 (bfN ws q1 6) := hKi 1 k1 q1 rfl rfl
    dsimp only at hTl hk0 hk1
    clear f4 f3 hc4 hKi n3
    have cne5 : ∀ q ∈ [(L + 1 + 1, cellW cl1 di1 sl1 (some (.ref Tl))), (L + 1, cellW cl2 di2 sl2 (some (.ref wl)))], ∀ vs, q.2 ≠ tupO vs := cne _
    have cni : ∀ q ∈ [(L + 1 + 1, cellW cl1 di1 sl1 (some (.ref Tl))), (L + 1, cellW cl2 di2 sl2 (some (.ref wl)))], ∀ x u, cellV (some (.int x u)) ≠ q.2 := by
      intro q hq x u e
      rcases List.mem_cons.mp hq with rfl | hq
      · cases e
      · rw [List.mem_singleton] at hq; subst hq; cases e
    generalize hN : [(L + 1 + 1, cellW cl1 di1 sl1 (some (.ref Tl))), (L + 1, cellW cl2 di2 sl2 (some (.ref wl)))] = N at f5 cne5 cni
    have hct : (L + 1 + 1, cellW cl1 di1 sl1 (some (.ref Tl))) ∈ N := by rw [← hN]; exact .head _
    clear hN
    walk_at "go"
    refine mw_asgComp (cl := [("tables", L + 1 + 1)]) ?_ ?clos2 (fun _ => rfl) rfl ?names2 rfl
    case clos2 => rfl
    case names2 => decide
    walk_at "go"
    refine mk_ty ?_ rfl rfl
    walk_at "go"
    refine comp_range1R (n := 7) (env := envOfC _ _ _ _ _) (by exact hh) (fun i h acc news => RelL (tupR h) acc (((List.range 7).take i).map (best (bfN ws q0 6) (bfN ws q1 6))) ∧ news = N) ?hJ2 ?hnt2 (fun i _ _ _ e => by rw [e.1.1]; simp; (first | lia | omega)) (by (first | lia | omega)) f5 ⟨RelL.nil, rfl⟩ ?hc2 ?hpc2 ?hk2 ?hf2 ?hloc2 ?hcel2 ?turn2 ?fin2
    case hJ2 => exact fun _ _ _ _ _ t e => ⟨e.1.mono fun _ _ => tupV.keep t, e.2⟩
    case hnt2 => exact fun _ _ _ _ e => e.2 ▸ cne5
    case hc2 => exact fun _ => rfl
    case hpc2 => exact fun _ => rfl
    case hk2 => exact fun _ => rfl
    case hf2 => exact fun _ => rfl
    case hloc2 => exact fun _ => rfl
    case hcel2 => exact fun _ => rfl
    case turn2 =>
      rintro i t g6 C h6 tk6 m6 acc0 news6 hi ⟨r6, rfl⟩ f6 st6
      refine tests_nil ?_
      rw [if_pos rfl]
      refine wpHide ?_
      intro Q2 hQ2
      walk_at "go"
      refine mw_comp (cl := [("tables", L + 1 + 1), ("place", C + 1)]) ?_ ?clos3 (fun _ => rfl) rfl ?names3
      case clos3 => rfl
      case names3 => decide
      walk_at "go"
      refine mk_ty ?_ rfl rfl
      walk_at "go"
      refine comp_range (n := 2) (env := compEnvC _ _ _ _) (by exact hh) (fun j h acc news => RelL (tupR h) acc (([[(bfN ws q0 6).getD i 0, 0, ((i : Nat) : Int)], [(bfN ws q1 6).getD i 0, 1, ((i : Nat) : Int)]] : List (List Int)).take j) ∧ news = (C + 1, cellV (some (.int ((i : Nat) : Int) t))) :: news6 ∧ RelL (tupR h) acc0 (((List.range 7).take i).map (best (bfN ws q0 6) (bfN ws q1 6)))) ?hJ3 ?hnt3 (fun j _ _ _ e => by rw [e.1.1]; simp; (first | lia | omega)) (by (first | lia | omega)) f6 ⟨RelL.nil, rfl, r6⟩ ?hcell3 ?hkind3 ?hk3 ?hp3 ?hloc3 ?turn3 ?fin3
      case hJ3 => exact fun _ _ _ _ _ t e => ⟨e.1.mono fun _ _ => tupV.keep t, e.2.1, e.2.2.mono fun _ _ => tupV.keep t⟩
      case hnt3 =>
        intro _ _ _ _ e q hq
        rw [e.2.1] at hq
        rcases List.mem_cons.mp hq with rfl | hq
        · exact cellW_ne _ _ _ _
        · exact cne5 q hq
      case hcell3 => decide
      case hkind3 => rfl
      case hk3 => exact fun _ => rfl
      case hp3 => exact fun _ => rfl
      case hloc3 => exact fun _ => rfl
      case turn3 =>
        rintro j u g8 C2 h8 tk8 m8 acc8 news8 hj ⟨r8, rfl, r8a⟩ f8 st8
        have hct8 : (L + 1 + 1, cellW cl1 di1 sl1 (some (.ref Tl))) ∈ (C + 1, cellV (some (.int ((i : Nat) : Int) t))) :: news6 := .tail _ hct
        refine tests_nil ?_
        rw [if_pos rfl]
        refine wpHide ?_
        intro Q3 hQ3
        walk_at "go"
        obtain ⟨kj, dj, ej, hkj, hij, hlj, hdj⟩ := pick2 (i := i) hk0 hk1 hi0 hi1 (bf_ok G (p := q0) 6).1.len (bf_ok G (p := q1) 6).1.len hj
        refine ml_itemH (f8.keep _ _ (st8 _ _ (st6 _ _ hTl))) (by (first | lia | omega)) (by (first | lia | omega)) (by simpa using ej) ?_ rfl
        walk_at "go"
        obtain ⟨ud, hud⟩ := ints_at hij (i := i) (by (first | lia | omega))
        refine ml_itemH (f8.keep _ _ (st8 _ _ (st6 _ _ hkj))) (by (first | lia | omega)) (by (first | lia | omega)) (by simpa using hud) ?_ rfl
        walk_at "go"
        refine ml_tupK f8 (by simp) ?_
        intro T h9 f9 n9 k9
        refine hQ3 _ _ ⟨_, _, _, _, rfl, f9.sub (news' := (C + 1, cellV (some (.int ((i : Nat) : Int) t))) :: news6) (fun q hq => .tail _ hq), ?_, rfl, r8a.mono fun _ _ => tupV.keep (TK.of_keep k9)⟩
        rw [List.take_add_one, hdj]
        exact (r8.mono fun _ _ => tupV.keep (TK.of_keep k9)).push ⟨T, _, rfl, (f9.N _ (.head _)).1, .cons _ _ (.cons _ _ (.cons _ _ .nil))⟩
      case fin3 =>
        rintro Pl h8 tk8 acc8 c8 news8 ⟨r8, rfl, r8a⟩ f8 n8
        walk_at "go"
        obtain ⟨v1, v2, rfl, s1, s2⟩ : ∃ v1 v2, acc8 = [v1, v2] ∧ tupR h8 v1 [(bfN ws q0 6).getD i 0, 0, ((i : Nat) : Int)] ∧ tupR h8 v2 [(bfN ws q1 6).getD i 0, 1, ((i : Nat) : Int)] := by
          rw [show ([[(bfN ws q0 6).getD i 0, 0, ((i : Nat) : Int)], [(bfN ws q1 6).getD i 0, 1, ((i : Nat) : Int)]] : List (List Int)).take 2 = [[(bfN ws q0 6).getD i 0, 0, ((i : Nat) : Int)], [(bfN ws q1 6).getD i 0, 1, ((i : Nat) : Int)]] from rfl] at r8
          exact two_of r8
        refine ml_min2 (by exact hh) ?_ f8 (f8.N _ (.head _)).1 s1 s2 ?_
        · show A.units + 3 + 16 < _; exact bdk (by assumption) (by decide)
        intro h9 tk9 f9 k9
        refine hQ2 _ _ ⟨_, _, _, _, rfl, f9.sub (fun q hq => .tail _ hq), fun q hq e => ?_, ?_, rfl⟩
        · exact f6.ne2 (.head _) (.tail _ hq) (cni q hq _ _) e.symm
        · have etk : (List.range 7).take (i + 1) = (List.range 7).take i ++ [i] := by rw [List.take_add_one, List.getElem?_range hi]; rfl
          rw [etk, List.map_append]
          refine (r8a.mono fun _ _ => tupV.keep (TK.of_keep k9)).append ?_
          · refine RelL.cons ?_ RelL.nil
            unfold best
            split
            · exact tupV.keep (TK.of_keep k9) s2
            · exact tupV.keep (TK.of_keep k9) s1
    case fin2 =>
      rintro Bl C fl h6 tk6 acc c6 news6 ⟨r6, rfl⟩ v6 n6
      refine post_use v6 rfl rfl ?_
      intro h7 tk7 f7 t7
      obtain ⟨g8, f8, st8, ch8, t8⟩ := f7.rebase (news' := news6) (fun q hq => .tail _ hq) cne5
      have hBl : g8.get? Bl = some (listOf acc.toArray c6) := by
        refine ch8 _ _ ?_ (f7.N _ (.head _)).1
        intro hm
        rcases List.mem_cons.mp hm with hm | hm
        · exact (f7.N _ (.head _)).2.1 hm
        · obtain ⟨q, hq, e⟩ := List.mem_map.mp hm
          exact n6 q hq e
      rw [show (List.range 7).take 7 = List.range 7 from rfl] at r6
      have r8 : RelL (tupR h7) acc ((List.range 7).map (best (bfN ws q0 6) (bfN ws q1 6))) := r6.mono fun _ _ => tupV.keep t7
      have r8g : RelL (tupR g8) acc ((List.range 7).map (best (bfN ws q0 6) (bfN ws q1 6))) := r8.mono fun _ _ => tupV.keep t8
      clear f7 f5 v6 r6
      walk_at "go"
      refine mw_comp (cl := []) ?_ ?clos4 (fun _ => rfl) rfl ?names4
      case clos4 => rfl
      case names4 => decide
      walk_at "go"
      refine comp_list (env := envOfC _ _ _ _ _) (by exact hh) (fun i h acc news => RelL (tupR h) acc ((((List.range 7).map (best (bfN ws q0 6) (bfN ws q1 6))).take i).filter fun x => decide (x.getD 0 0 < 99)) ∧ news = news6) (fun _ _ _ _ _ t e => ⟨e.1.mono fun _ _ => tupV.keep t, e.2⟩) (fun _ _ _ _ e => e.2 ▸ cne5) (fun i _ _ _ e => by rw [e.1.1]; exact Nat.le_trans (List.length_filter_le _ _) (by simp; (first | lia | omega))) (by rw [r8.1]; simp) f8 hBl ⟨RelL.nil, rfl⟩ ?hcell4 ?hkind4 ?hk4 ?hp4 ?hloc4 ?turn4 ?fin4
      case hcell4 => decide
      case hkind4 => rfl
      case hk4 => exact fun _ => rfl
      case hp4 => exact fun _ => rfl
      case hloc4 => exact fun _ => rfl
      case turn4 =>
        rintro i v g9 C2 h9 tk9 m9 acc9 news9 hv ⟨r9, rfl⟩ f9 st9
        obtain ⟨k, hk⟩ : ∃ k, ((List.range 7).map (best (bfN ws q0 6) (bfN ws q1 6)))[i]? = some k := ⟨_, List.getElem?_eq_getElem (by rw [← r8.1]; exact (List.getElem?_eq_some_iff.mp hv).1)⟩
        obtain ⟨T, xs, rfl, hT, hxs⟩ := r8g.2 i v k hv hk
        have hT9 := f9.keep _ _ (st9 _ _ hT)
        obtain ⟨x, u, xs', ks', rfl, rfl⟩ : ∃ x u xs' ks', xs = .int x u :: xs' ∧ k = x :: ks' := by
          rw [List.getElem?_map] at hk
          obtain ⟨vv, hvv, e⟩ := Option.map_eq_some_iff.mp hk
          rw [best_eq] at e
          split at e <;> subst e <;> cases hxs <;> exact ⟨_, _, _, _, rfl, rfl⟩
        refine tests_one ?_
        walk_at "go"
        refine ml_tupItem (k := 0) hT9 rfl (by (first | lia | omega)) ?_ rfl (fun _ => rfl)
        walk_at "go"
        have etk : ((List.range 7).map (best (bfN ws q0 6) (bfN ws q1 6))).take (i + 1) = ((List.range 7).map (best (bfN ws q0 6) (bfN ws q1 6))).take i ++ [x :: ks'] := by rw [List.take_add_one, hk]; rfl
        by_cases e99 : x < 99
        · rw [if_pos (by simpa using e99)]
          walk_at "go"
          refine ⟨_, _, _, _, rfl, f9, ?_, rfl⟩
          rw [etk, List.filter_append, List.filter_cons_of_pos (by simpa using e99)]
          exact r9.push ⟨T, _, rfl, hT9, hxs⟩
        · rw [if_neg (by simpa using e99)]
          refine ⟨_, _, _, _, rfl, f9, ?_, rfl⟩
          rw [etk, List.filter_append, List.filter_cons_of_neg (by simpa using e99)]
          simpa using r9
      case fin4 =>
        rintro Pl h9 tk9 acc9 c9 news9 ⟨r9, rfl⟩ f9 n9
        walk_at "go"
        have el : acc.length = ((List.range 7).map (best (bfN ws q0 6) (bfN ws q1 6))).length := r8.1
        rw [el, List.take_length] at r9
        have r9d : RelL (tupR h9) acc9 (dueL (bfN ws q0 6) (bfN ws q1 6)) := r9
        have hdl : (dueL (bfN ws q0 6) (bfN ws q1 6)).length ≤ 7 := by
          unfold dueL
          exact Nat.le_trans (List.length_filter_le _ _) (by simp)
        refine ml_sortedT2 f9 (f9.N _ (.head _)).1 r9d h2 (by (first | lia | omega)) (fun k hk => ?_) ?_
        · unfold dueL at hk
          obtain ⟨vv, _, e⟩ := List.mem_map.mp (List.mem_filter.mp hk).1
          rw [best_eq] at e
          split at e <;> subst e <;> exact List.cons_ne_nil _ _
        intro Rl h10 vs10 out c10 f10 n10 r10 p10 w10 t10
        walk_at "go"
        refine q Rl h10 _ vs10 c10 out (fun a o e => f10.keep _ _ (st8 _ _ (st5 _ _ (hg _ _ (by simp) e)))) ?_ (f10.at_ (.head _)) r10 p10 w10
        cases e : h.get? Rl with
        | none => rfl
        | some o =>
          have := st8 _ _ (st5 _ _ (hg _ _ (by simp) e))
          rw [f10.new_ (.head _)] at this; cases this
end
end
section
/-- the map of the ways: what each way does to it -/
noncomputable def mapStep (fr : Bool) (D : List (Nat × List (List Int))) (w : Way) : List (Nat × List (List Int)) :=
  setD (lookD false D w.1) w.1 (if fr = true then lstD D w.1 ++ [pairW w] else hpush lexL (lstD D w.1) (pairW w))
noncomputable def mapW (fr : Bool) (ws : List Way) : List (Nat × List (List Int)) := ws.foldl (mapStep fr) []
noncomputable def hifyN (D : List (Nat × List (List Int))) : Nat → List (Nat × List (List Int))
  | 0 => D
  | j + 1 => (hifyN D j).modify j fun d => (d.1, hify lexL (d.2.length / 2) d.2)
noncomputable def mapF (fr : Bool) (ws : List Way) : List (Nat × List (List Int)) := if fr = true then hifyN (mapW true ws) (mapW true ws).length else mapW false ws
noncomputable def homesOf (ws : List Way) : List Nat := ws.foldl (fun l w => if w.1 ∈ l then l else l ++ [w.1]) []
theorem lstD_in {κ : Type} {D : List (Nat × List κ)} (hn : (D.map (·.1)).Nodup) {d : Nat × List κ} (hd : d ∈ D) : lstD D d.1 = d.2 := by
  obtain ⟨i, hi⟩ := List.mem_iff_getElem?.mp hd
  exact lstD_at (keyAt_nodup hn hi) hi
theorem lstD_cases {κ : Type} (D : List (Nat × List κ)) (u : Nat) : lstD D u = [] ∨ ∃ d ∈ D, d.1 = u ∧ lstD D u = d.2 := by
  cases hk : keyAt D u with
  | none => left; unfold lstD; rw [hk]
  | some i =>
    obtain ⟨d, hd, e⟩ := keyAt_lt hk
    exact .inr ⟨d, List.mem_of_getElem? hd, e, lstD_at hk hd⟩
theorem key_look {κ : Type} (D : List (Nat × List κ)) (k : Nat) : ∃ i, keyAt (lookD false D k) k = some i := by
  cases hk : keyAt (lookD false D k) k with
  | some i => exact ⟨i, rfl⟩
  | none =>
    refine absurd ?_ (keyAt_none_iff.mp hk)
    rw [lookD_fst]
    split
    · exact List.mem_append_right _ (.head _)
    · rename_i h
      exact Classical.byContradiction fun hn => h ⟨rfl, hn⟩
theorem Wof_snoc (ws : List Way) (w : Way) (u : Nat) : Wof (ws ++ [w]) u = Wof ws u ++ (if w.1 = u then [pairW w] else []) := by
  unfold Wof
  rw [List.filter_append, List.map_append]
  congr 1
  by_cases e : w.1 = u
  · rw [if_pos e, List.filter_cons_of_pos (by simpa using e)]; rfl
  · rw [if_neg e, List.filter_cons_of_neg (by simpa using e)]; rfl
theorem Wof_len (ws : List Way) (u : Nat) : (Wof ws u).length ≤ ws.length := by
  unfold Wof
  rw [List.length_map]
  exact List.length_filter_le _ _
theorem homes_snoc (ws : List Way) (w : Way) : homesOf (ws ++ [w]) = if w.1 ∈ homesOf ws then homesOf ws else homesOf ws ++ [w.1] := by
  unfold homesOf
  rw [List.foldl_append]; rfl
structure MapOk (fr : Bool) (ws : List Way) (D : List (Nat × List (List Int))) : Prop where
  keys : D.map (·.1) = homesOf ws
  nod : (D.map (·.1)).Nodup
  perm : ∀ u, (lstD D u).Perm (Wof ws u)
  heap : fr = false → ∀ d ∈ D, HeapFrom lexL 0 d.2
  few : D.length ≤ ws.length
theorem MapOk.step {fr : Bool} {ws : List Way} {D : List (Nat × List (List Int))} (M : MapOk fr ws D) (w : Way) : MapOk fr (ws ++ [w]) (mapStep fr D w) := by
  obtain ⟨i, hi⟩ := key_look D w.1
  have hn := lookD_nodup (fr := false) (k := w.1) M.nod
  have hheap : fr = false → HeapFrom lexL 0 (hpush lexL (lstD D w.1) (pairW w)) ∧ (hpush lexL (lstD D w.1) (pairW w)).Perm (pairW w :: lstD D w.1) := fun e => by
    refine hpush_heap lexL_tot (pairW w) ?_
    rcases lstD_cases D w.1 with h | ⟨d, hd, _, h⟩
    · rw [h]; intro i j a b _ _ h1; simp at h1
    · rw [h]; exact M.heap e d hd
  refine ⟨?_, ?_, fun u => ?_, fun e d hd => ?_, ?_⟩
  · unfold mapStep
    rw [setD_fst, lookD_fst, homes_snoc, M.keys]
    by_cases h : w.1 ∈ homesOf ws
    · rw [if_neg (by simp [h]), if_pos h]
    · rw [if_pos (by simp [h]), if_neg h]
  · unfold mapStep
    rw [setD_fst]; exact hn
  · unfold mapStep
    obtain ⟨s1, s2⟩ := lstD_set hi (if fr = true then lstD D w.1 ++ [pairW w] else hpush lexL (lstD D w.1) (pairW w))
    rw [Wof_snoc]
    by_cases e : w.1 = u
    · subst e
      rw [s1, if_pos rfl]
      cases fr with
      | true => simp only [if_true]; exact (M.perm _).append_right _
      | false =>
        simp only [Bool.false_eq_true, if_false]
        exact (hheap rfl).2.trans (((M.perm _).cons _).trans (List.perm_append_comm (l₁ := [pairW w])))
    · rw [s2 u (Ne.symm e), lstD_look, if_neg e, List.append_nil]
      exact M.perm u
  · subst e
    unfold mapStep at hd
    rcases setD_mem hd with h | h
    · rcases lookD_mem h with h | h
      · exact M.heap rfl d h
      · rw [h]; intro i j a b _ _ h1; simp at h1
    · rw [h]; simp only [Bool.false_eq_true, if_false]; exact (hheap rfl).1
  · unfold mapStep
    rw [setD_len, List.length_append]
    exact Nat.le_trans (lookD_len _ _ _) (Nat.succ_le_succ M.few)
theorem MapOk.fold {fr : Bool} : ∀ (vs : List Way) {ws : List Way} {D : List (Nat × List (List Int))}, MapOk fr ws D → MapOk fr (ws ++ vs) (vs.foldl (mapStep fr) D)
  | [], ws, D, M => by rw [List.append_nil]; exact M
  | v :: vs, ws, D, M => by
    have := MapOk.fold vs (M.step v)
    rw [List.append_assoc] at this
    exact this
theorem mapW_ok (fr : Bool) (ws : List Way) : MapOk fr ws (mapW fr ws) :=
  MapOk.fold (ws := []) ws ⟨rfl, List.nodup_nil, fun _ => List.Perm.refl _, fun _ d hd => (by cases hd), Nat.le_refl _⟩
theorem MapOk.small {fr : Bool} {ws : List Way} {D : List (Nat × List (List Int))} (M : MapOk fr ws D) : ∀ d ∈ D, d.2.length ≤ ws.length := fun d hd => by
  rw [← lstD_in M.nod hd, (M.perm d.1).length_eq]
  exact Wof_len _ _
theorem MapOk.lst {fr : Bool} {ws : List Way} {D : List (Nat × List (List Int))} (M : MapOk fr ws D) (u : Nat) : (lstD D u).length ≤ ws.length := by
  rw [(M.perm u).length_eq]
  exact Wof_len _ _
theorem hifyN_at (D : List (Nat × List (List Int))) : ∀ (j i : Nat), (hifyN D j)[i]? = (D[i]?).map fun d => if i < j then (d.1, hify lexL (d.2.length / 2) d.2) else d
  | 0, i => by simp [hifyN]
  | j + 1, i => by
    unfold hifyN
    rw [List.getElem?_modify, hifyN_at D j i]
    cases h : D[i]? with
    | none => rfl
    | some d =>
      by_cases e : j = i
      · subst e; simp
      · by_cases h2 : i < j
        · have h3 : i < j + 1 := by (first | lia | omega)
          simp [e, h2, h3]
        · have h3 : ¬ i < j + 1 := by (first | lia | omega)
          simp [e, h2, h3]
theorem hifyN_fst (D : List (Nat × List (List Int))) (j : Nat) : (hifyN D j).map (·.1) = D.map (·.1) := by
  apply List.ext_getElem?
  intro i
  rw [List.getElem?_map, List.getElem?_map, hifyN_at]
  cases D[i]? with
  | none => rfl
  | some d =>
    simp only [Option.map_some]
    split <;> rfl
theorem hifyN_len (D : List (Nat × List (List Int))) (j : Nat) : (hifyN D j).length = D.length := by
  have := congrArg List.length (hifyN_fst D j)
  simpa using this
theorem mapF_ok (fr : Bool) (ws : List Way) : MapOk false ws (mapF fr ws) := by
  cases fr with
  | false => exact mapW_ok false ws
  | true =>
    have M := mapW_ok true ws
    unfold mapF
    rw [if_pos rfl]
    generalize mapW true ws = D at M
    have hf := hifyN_fst D D.length
    have hp : ∀ d : Nat × List (List Int), HeapFrom lexL 0 (hify lexL (d.2.length / 2) d.2) ∧ (hify lexL (d.2.length / 2) d.2).Perm d.2 := fun d => hify_heap lexL_tot _ _ (Nat.div_le_self _ _) (half_heap _)
    refine ⟨hf.trans M.keys, by rw [hf]; exact M.nod, fun u => ?_, fun _ d hd => ?_, by rw [hifyN_len]; exact M.few⟩
    · have hk : keyAt (hifyN D D.length) u = keyAt D u := by
        cases h : keyAt D u with
        | none => rw [keyAt_none_iff, hf]; exact keyAt_none_iff.mp h
        | some i =>
          obtain ⟨d, hd, e⟩ := keyAt_lt h
          subst e
          have hlt := (List.getElem?_eq_some_iff.mp hd).1
          have := keyAt_nodup (D := hifyN D D.length) (by rw [hf]; exact M.nod) (i := i) (d := (d.1, hify lexL (d.2.length / 2) d.2)) (by rw [hifyN_at, hd]; simp [hlt])
          exact this
      cases h : keyAt D u with
      | none =>
        have : lstD (hifyN D D.length) u = lstD D u := by unfold lstD; rw [hk, h]
        rw [this]; exact M.perm u
      | some i =>
        obtain ⟨d, hd, e⟩ := keyAt_lt h
        have hlt := (List.getElem?_eq_some_iff.mp hd).1
        rw [lstD_at (d := (d.1, hify lexL (d.2.length / 2) d.2)) (hk.trans h) (by rw [hifyN_at, hd]; simp [hlt])]
        refine (hp d).2.trans ?_
        rw [← lstD_at h hd]
        exact M.perm u
    · obtain ⟨i, hi⟩ := List.mem_iff_getElem?.mp hd
      rw [hifyN_at] at hi
      obtain ⟨d0, h0, rfl⟩ := Option.map_eq_some_iff.mp hi
      have hlt := (List.getElem?_eq_some_iff.mp h0).1
      rw [if_pos hlt]
      exact (hp d0).1
end
section
section
variable {prog : Program} {w : World} {A : Around} {E : Value → Shared → Prop} {p : Program} {loose : List Str} {mean : ExcName → Option Value} {mg mb : Str → Option Value} {g h : Heap} {ge : Array GenState} {dr : Drawn} {tk : Nat} {os : OsState} {L : Addr} {m : Str → Option Value} {news : List (Addr × Obj)} {Q : Value → Shared → Prop}
theorem ml_listBookG {κ : Type} {V : Ordv κ} (f : FB w p loose mean mg mb g L h m news) {bk : BookV} {D : List (Nat × List κ)} (R : BookR V h bk D) (hx : h.get? bk.x = some (bookO bk.dx (bookEs bk.ents) bk.ep)) (hh : A.handled = none) (hz : D.length ≤ 1000000)
    (q : ∀ l h' tk' vs c, FB w p loose mean mg mb g L h' m ((l, listOf vs.toArray c) :: news) → (∀ q ∈ news, q.1 ≠ l) → RelL (natV.rel h') vs (D.map (·.1)) → (∀ a o, h.get? a = some o → h'.get? a = some o) → Q (.ref l) ⟨h', ge, dr, tk', os⟩) :
    wpAny (model prog w) A (call (.type "list") [.ref bk.x]) Q E ⟨h, ge, dr, tk, os⟩ := by
  refine list_book R.xs f.B.X f.keep hx hh (by unfold BookV.ents; rw [List.length_map, R.len]; exact hz) ?_
  intro l h' tk' vs c k hn hl hr
  obtain ⟨f', n'⟩ := f.grow k hn hl
  refine q l h' tk' vs c f' n' ?_ k
  have e : bk.ents.map (·.1) = D.map (·.1) := by
    rw [← keys_eq R]
    unfold BookV.ents
    rw [List.map_map]; rfl
  rw [← e]; exact hr
end
theorem BookR.lst {κ : Type} {V : Ordv κ} {h : Heap} {bk : BookV} {D : List (Nat × List κ)} (R : BookR V h bk D) {k i : Nat} {r : Row} (hk : keyAt D k = some i) (hr : bk.rows[i]? = some r) : RelL (V.rel h) r.vals (lstD D k) := by
  obtain ⟨d, hd, _⟩ := keyAt_lt hk
  rw [lstD_at hk hd]
  exact (R.rel i r d hr hd).2
theorem setD_eq {κ : Type} {D : List (Nat × List κ)} {k i : Nat} (hk : keyAt D k = some i) (ks : List κ) : setD D k ks = D.modify i fun d => (d.1, ks) := by unfold setD; rw [hk]
theorem mapW_succ {fr : Bool} {ws : List Way} {j : Nat} {w : Way} (hw : ws[j]? = some w) : mapW fr (ws.take (j + 1)) = mapStep fr (mapW fr (ws.take j)) w := by
  unfold mapW
  rw [List.take_add_one, hw, List.foldl_append]; rfl
theorem fb_far {w : World} {p : Program} {loose : List Str} {mean : ExcName → Option Value} {mg mb : Str → Option Value} {g h : Heap} {L : Addr} {m : Str → Option Value} {bk : BookV} (f : FB w p loose mean mg mb g L h m (bookN bk)) {a : Addr} {o : Obj} (e : h.get? a = some o) (hd : ∀ es ep, o.data ≠ .dict es ep) (hs : ∀ vs n, o ≠ listOf vs n) : a ∉ L :: (bookN bk).map (·.1) := by
  intro hm
  rcases List.mem_cons.mp hm with rfl | hm
  · obtain ⟨oL, es, ep, hL, hdL, _⟩ := f.ns
    rw [hL] at e; cases e
    exact hd _ _ hdL
  · obtain ⟨q, hq, rfl⟩ := List.mem_map.mp hm
    rw [(f.N q hq).1] at e
    cases e
    rcases List.mem_cons.mp hq with rfl | hq
    · exact hd _ _ rfl
    · obtain ⟨r, _, rfl⟩ := List.mem_map.mp hq
      exact hs _ _ rfl
section
variable {prog : Program} {w : World} {A : Around} {E : Value → Shared → Prop} {p : Program} {loose : List Str} {mean : ExcName → Option Value} {mg mb : Str → Option Value} {b h : Heap} {ge : Array GenState} {dr : Drawn} {tk : Nat} {os : OsState} {Q : Value → Shared → Prop}
/-- `_law_map` -/
theorem map_spec (S : SupOk prog) (B : Base w p loose mean mg mb b) (hb : b.StaysIn h) {ws : List Way} (G : GoodWays ws) (hws : ws.length ≤ 100) {wl : Addr} {wv : List Value} {wc : Nat} (hwl : b.get? wl = some (listOf wv.toArray wc)) (hwr : RelL (tupR b) wv (ws.map wayT))
    (htb : b.get? 85 = none) {ps : Array Value} (ht : h.get? 85 = some (tabObj ps)) {fr : Bool} (hp : fr = true → ps = #[])
    (hd : A.depth + 20 < recursionLimit) (hu : A.units + 200 < cLine) (hh : A.handled = none)
    (q : ∀ h' tk' bk ps', Ch [85] h h' → h'.get? 85 = some (tabObj ps') → (∀ q ∈ bookN bk, h'.get? q.1 = some q.2 ∧ h.get? q.1 = none) → BookR tupV h' bk (mapF fr ws) → Dxf w h' bk fr → (∀ q ∈ bookN bk, q.1 ≠ bk.dx) → (fr = false → ps' = ps) → Q (.ref bk.x) ⟨h', ge, dr, tk', os⟩) :
    wpAny (model prog w) A (call (.ref 104) [.ref wl, .bool fr]) Q E ⟨h, ge, dr, tk, os⟩ := by
  have BX := B.X
  refine' mk_enter (news := [(85, tabObj ps)]) (binds := [("ways", .ref wl), ("frozen", .bool fr)]) B hb ?k0 ?k6 ?k7 (by (first | lia | omega)) ?k9 ?kB ?_ ?c2 ?c3 ?c4 ?c5
  case k0 =>
    intro q hq; rw [List.mem_singleton] at hq; subst hq
    exact ⟨ht, htb, tab_ne _⟩
  case k6 => k_is
  case k7 => k_is
  case k9 => exact fun _ => BindsTo.of_eq rfl
  case kB => exact locs rfl
  case c2 => exact rfl
  case c3 => exact rfl
  case c4 => exact rfl
  case c5 => decide
  intro g L h₁ tk₁ fb hg tg hbg
  clear BX
  have X := fb.B.X
  have hgw := hbg _ _ hwl
  have hgr : RelL (tupR g) wv (ws.map wayT) := hwr.mono fun _ _ => tupV.keep (TK.of_keep hbg)
  walk_at "go"
  refine fd_make fb.B.X fb.keep ?_
  intro x dx h2 k2 hdx0 hxdx hx2 hdx2
  have xsys : (x == sysModules) = false := by
    have h2 : ∃ o, h₁.get? 2 = some o := by
      obtain ⟨mc, a, _⟩ := fb.B.T.nolimit
      obtain ⟨o, _, _, e, _⟩ := a
      exact ⟨o, fb.keep _ _ e⟩
    obtain ⟨o2, e2⟩ := h2
    have h3 : (2 : Nat) < h₁.objs.size := Heap.lt_size e2
    have e : @Ne Nat x 1 := by (first | lia | omega)
    simpa [sysModules] using e
  have nx : h₁.get? x = none := Heap.get?_none_of_le (Nat.le_trans hdx0 (Nat.le_of_lt hxdx))
  have ndx : h₁.get? dx = none := Heap.get?_none_of_le hdx0
  have gdx : g.get? dx = none := by
    cases e : g.get? dx with
    | none => rfl
    | some o => rw [fb.keep _ _ e] at ndx; cases ndx
  have f2 := (fb.more k2 nx hx2).cons hdx2 (by rintro rfl; obtain ⟨oL, _, _, hL, _⟩ := fb.ns; rw [hL] at ndx; cases ndx) gdx
  walk_at "go"
  clear fb
  refine mw_for ?_ (fun _ => rfl)
  walk_at "go"
  (with_reducible rename FB _ _ _ _ _ _ _ _ _ _ _ => f3)
  have n85 : @Ne Nat x 85 := f3.apart (o := bookO dx #[] 0) (o' := tabObj ps) (by k_mem) (by k_mem) (by intro e; cases e)
  have ndx85 : @Ne Nat dx 85 := f3.apart (o := emptyDict) (o' := tabObj ps) (by k_mem) (by k_mem) (by intro e; cases e)
  have xdx : @Ne Nat x dx := Nat.ne_of_gt hxdx
  obtain ⟨g1, fr1, st6, ch6, tk6⟩ := f3.rebase (news' := [(85, tabObj ps), (x, bookO dx #[] 0)]) (by simp) (by
    intro q hq
    rcases List.mem_cons.mp hq with rfl | hq
    · exact tab_ne _
    · rw [List.mem_singleton] at hq; subst hq; exact book_ne _ _ _)
  have g1dx : g1.get? dx = some emptyDict := by
    refine ch6 _ _ ?_ (f3.at_ (by k_mem))
    have z := f3.N (dx, emptyDict) (by k_mem)
    intro hm
    rcases List.mem_cons.mp hm with hm | hm
    · exact z.2.1 hm
    · simp only [List.map_cons, List.map_nil, List.mem_cons, List.not_mem_nil, or_false] at hm
      rcases hm with hm | hm
      · exact ndx85 hm
      · exact xdx hm.symm
  have hr5 : RelL (tupR g1) wv (ws.map wayT) := hgr.mono fun _ _ => tupV.keep (TK.of_keep st6)
  refine for_listT (env := envOf _ _ _ _ _) (by exact hh) (fun v hv => ?_) (fun i h m news => ∃ bk, news = [(85, tabObj ps)] ++ bookN bk ∧ Apart [(85, tabObj ps)] bk ∧ BookR tupV h bk (mapW fr (ws.take i)) ∧ bk.x = x ∧ bk.dx = dx ∧ m "book" = some (.ref x) ∧ m "frozen" = some (.bool fr)) ?hJ ?hnt fr1 (st6 _ _ hgw) ⟨⟨x, dx, 0, []⟩, rfl, ?ap0, ⟨xsys, List.nodup_nil, rfl, fun i r d a => by simp at a⟩, rfl, rfl, rfl, rfl⟩ ?turn ?fin
  · obtain ⟨j, hj⟩ := List.mem_iff_getElem?.mp hv
    have hjl := (List.getElem?_eq_some_iff.mp hj).1
    obtain ⟨a, xs, e, _⟩ := hr5.2 j v _ hj (List.getElem?_eq_getElem (by rw [← hr5.1]; exact hjl))
    exact ⟨a, e⟩
  case ap0 =>
    intro q hq q' hq'
    rw [List.mem_singleton] at hq; subst hq
    rcases List.mem_cons.mp hq' with rfl | hq'
    · exact fun e => n85 e.symm
    · cases hq'
  case hJ =>
    rintro i h h' m news t ⟨bk, e1, ap, R, e2⟩
    exact ⟨bk, e1, ap, R.mono t, e2⟩
  case hnt =>
    rintro i h m news ⟨bk, rfl, _⟩ q hq vs
    rcases List.mem_append.mp hq with hq | hq
    · rw [List.mem_singleton] at hq; subst hq
      exact tab_ne _ vs
    · exact bookN_ne bk q hq vs
  case turn =>
    rintro j v g6 h6 tk6 m6 news6 hv ⟨bk, rfl, ap6, R6, e1, e2, m61, m62⟩ f6 st6 t6
    have hjl : j < ws.length := by
      have := (List.getElem?_eq_some_iff.mp hv).1
      rw [hr5.1, List.length_map] at this; exact this
    obtain ⟨way, hw⟩ : ∃ way, ws[j]? = some way := ⟨_, List.getElem?_eq_getElem hjl⟩
    have hwm := List.mem_of_getElem? hw
    obtain ⟨T, t1, t2, t3, rfl, hT⟩ := way_tup (hr5.2 j v (wayT way) hv (by rw [List.getElem?_map, hw]; rfl))
    refine ml_unpack (by exact hh) f6 (f6.keep _ _ (st6 _ _ hT)) rfl rfl ?_
    intro h7 f7 k7
    refine mw_ordc (mw_asgK f7 ?_ rfl rfl)
    intro h8 tk8 f8 t8
    refine mw_ordc (mw_asgK f8 ?_ rfl rfl)
    intro h9 tk9 f9 t9
    refine mw_ordc (mw_asgK f9 ?_ rfl rfl)
    intro h10 tk10 f10 t10
    refine mw_ord0 ?_
    refine wpHide ?_
    intro Q1 hQ1
    have R10 : BookR tupV h10 bk (mapW fr (ws.take j)) := R6.mono ((TK.of_keep k7).trans (t8.trans (t9.trans t10)))
    clear f6 f7 f8 f9
    have Z10 : Dxf w g6 bk false := by
      show g6.get? bk.dx = some emptyDict
      rw [e2]; exact st6 _ _ g1dx
    have M := mapW_ok fr (ws.take j)
    have hM := M.few
    have hM2 := M.lst way.1
    have hlt : (ws.take j).length ≤ 100 := by rw [List.length_take]; (first | lia | omega)
    walk_at "go"
    by_cases hfr : fr = true
    · rw [if_pos hfr]
      walk_at "go"
      refine book_at S e1 f10 ap6 R10 Z10 (by (first | lia | omega)) ?_ ?_ (by exact hh) rfl ?_ (fun e => by cases e)
      · show A.depth + 1 + 8 < _; exact bdk (by assumption) (by decide)
      · show A.units + 3 + 80 < _; exact bdk (by assumption) (by decide)
      intro bk' i r h11 tk11 f11 ap11 R11 Z11 ex11 ed11 hk11 hr11 t11
      clear f10
      have hrel := R11.lst hk11 hr11
      rw [lstD_look] at hrel
      refine ml_meth f11 (List.mem_append_right _ (bookN_row hr11)) PySem.F.slot_list_append PySem.F.type_list_append ?_
      walk_at "go"
      refine ml_tupK f11 (by simp) ?_
      intro P h12 f12 n12 k12
      have hP := f12.at_ (.head _)
      have f13 := f12.sub (news' := [(85, tabObj ps)] ++ bookN bk') (fun q hq => .tail _ hq)
      have R13 := R11.mono (TK.of_keep k12)
      have hrel13 : RelL (tupR h12) r.vals (lstD (mapW fr (ws.take j)) way.1) := hrel.mono fun _ _ => tupV.keep (TK.of_keep k12)
      clear f12
      walk_at "go"
      refine append_at (s := ⟨h12, ge, dr, _, os⟩) (f13.at_ (List.mem_append_right _ (bookN_row hr11))) (fun h14 hs ho => ?_) (by rw [List.size_toArray, hrel.1, sizeLine_eq]; (first | lia | omega))
      have ho2 : h14.get? r.addr = some (listOf (r.vals ++ [Value.ref P]).toArray (r.ver + 1)) := by rw [ho]; simp
      have tk14 : TK h12 h14 := TK.of_ch (Ch.of_same hs) fun a ha vs' e => by
        rw [List.mem_singleton] at ha; subst ha
        rw [f13.at_ (List.mem_append_right _ (bookN_row hr11))] at e; exact lst_ne _ _ vs' (Option.some.inj e)
      have rnew : RelL (tupR h14) (r.vals ++ [Value.ref P]) (lstD (mapW fr (ws.take j)) way.1 ++ [pairW way]) := (hrel13.mono fun _ _ => tupV.keep tk14).push ⟨P, _, rfl, tk14 _ _ hP, .cons _ _ (.cons _ _ .nil)⟩
      obtain ⟨f15, ap15, R15, t15⟩ := book_put f13 ap11 R13 hr11 (Ch.of_same hs) ho2 rnew
      walk_at "go"
      refine hQ1 _ _ ⟨_, _, _, _, rfl, f15, bk'.put i (r.vals ++ [Value.ref P]) (r.ver + 1), rfl, ap15, ?_, ex11, ed11.trans e2, m61, m62⟩
      rw [mapW_succ hw]
      unfold mapStep
      rw [setD_eq hk11, if_pos hfr]
      exact R15
    · rw [if_neg hfr]
      walk_at "go"
      refine book_at S e1 f10 ap6 R10 Z10 (by (first | lia | omega)) ?_ ?_ (by exact hh) rfl ?_ (fun e => by cases e)
      · show A.depth + 1 + 8 < _; exact bdk (by assumption) (by decide)
      · show A.units + 3 + 80 < _; exact bdk (by assumption) (by decide)
      intro bk' i r h11 tk11 f11 ap11 R11 Z11 ex11 ed11 hk11 hr11 t11
      clear f10
      have hrel := R11.lst hk11 hr11
      rw [lstD_look] at hrel
      walk_at "go"
      refine ml_tupK f11 (by simp) ?_
      intro P h12 f12 n12 k12
      have hP := f12.at_ (.head _)
      have f13 := f12.sub (news' := [(85, tabObj ps)] ++ bookN bk') (fun q hq => .tail _ hq)
      have R13 := R11.mono (TK.of_keep k12)
      have hrel13 : RelL (tupR h12) r.vals (lstD (mapW fr (ws.take j)) way.1) := hrel.mono fun _ _ => tupV.keep (TK.of_keep k12)
      clear f12
      walk_at "go"
      refine heappush_spec tupV f13.B f13.keep (f13.at_ (List.mem_append_right _ (bookN_row hr11))) (f13.new_ (List.mem_append_right _ (bookN_row hr11))) hrel13 (x := pairW way) ⟨P, _, rfl, hP, .cons _ _ (.cons _ _ .nil)⟩ (by (first | lia | omega)) ?_ ?_ ?_
      · show A.depth + 1 + 2 < _; exact bdk (by assumption) (by decide)
      · show A.units + 3 + 40 < _; exact bdk (by assumption) (by decide)
      intro h14 tk14 vs14 c14 C14 hl14 R14
      obtain ⟨f15, ap15, R15, t15⟩ := book_put f13 ap11 R13 hr11 C14 hl14 R14
      walk_at "go"
      refine hQ1 _ _ ⟨_, _, _, _, rfl, f15, bk'.put i vs14 c14, rfl, ap15, ?_, ex11, ed11.trans e2, m61, m62⟩
      rw [mapW_succ hw]
      unfold mapStep
      rw [setD_eq hk11, if_neg hfr]
      exact R15
  case fin =>
    rintro h6 tk6 m6 news6 ⟨bk, rfl, ap6, R6, e1, e2, m61, m62⟩ f6
    dsimp only
    walk_at "go"
    have el : wv.length = ws.length := by rw [hr5.1, List.length_map]
    rw [el, List.take_length] at R6
    have M := mapW_ok fr ws
    have fb2 := f6.back st6 f3.B
    have hdx6 : h6.get? dx = some emptyDict := f6.keep _ _ g1dx
    have nqd : ∀ q ∈ bookN bk, @Ne Nat q.1 dx := fun q hq e => by
      have z := f6.new_ (List.mem_append_right [(85, tabObj ps)] hq)
      rw [show q.1 = dx from e, g1dx] at z; cases z
    have fin : ∀ bk' h' tk' ps', bk'.x = x → bk'.dx = dx → (∀ q ∈ bookN bk', h'.get? q.1 = some q.2 ∧ g.get? q.1 = none ∧ @Ne Nat q.1 dx ∧ @Ne Nat q.1 85) → (∀ a o, a ≠ 85 → g.get? a = some o → h'.get? a = some o) → h'.get? 85 = some (tabObj ps') → BookR tupV h' bk' (mapF fr ws) → Dxf w h' bk' fr → (fr = false → ps' = ps) → Q (.ref x) ⟨h', ge, dr, tk', os⟩ := by
      intro bk' h' tk' ps' ex ed hN C h85 RF Zf hz0
      rw [← ex]
      refine q h' tk' bk' ps' (fun a o na e => ?_) h85 (fun q hq => ⟨(hN q hq).1, ?_⟩) RF Zf (fun q hq => ?_) hz0
      · have ga := hg _ _ (by simpa using na) e
        exact C _ _ (by simpa using na) ga
      · cases e : h.get? q.1 with
        | none => rfl
        | some o =>
          have := hg _ _ (by simpa using (hN q hq).2.2.2) e
          rw [(hN q hq).2.1] at this; cases this
      · rw [ed]; exact (hN q hq).2.2.1
    have n85q : ∀ q ∈ bookN bk, @Ne Nat q.1 85 := fun q hq => (ap6 _ (.head _) q hq).symm
    by_cases hfr : fr = true
    · rw [if_pos hfr]
      walk_at "go"
      have hxx : (x, bookO dx (bookEs bk.ents) bk.ep) ∈ [(85, tabObj ps)] ++ bookN bk := by
        have := bookN_x bk
        rw [e1, e2] at this
        exact List.mem_append_right _ this
      refine getM_freeze fb2.B.X fb2.keep (fb2.at_ hxx) hdx6 ?_
      obtain ⟨o90, fd90, ho90, hd90⟩ : ∃ o fd, h6.get? 90 = some o ∧ o.data = .func fd := by
        refine' fn_data (fb2.B.X.keeps fb2.keep) ?e
        case e => k_is
      refine callWith_fn0 ho90 hd90 ?_
      refine freeze_spec fb2.B fb2.keep (fb2.new_ hxx) (fb2.at_ hxx) hdx6 gdx (fb2.new_ (.head _)) (by rw [← hp hfr]; exact fb2.at_ (.head _)) ?_ ?_ ?_ ?_
      · show A.depth + 1 + 2 < _; exact bdk (by assumption) (by decide)
      · show A.units + 3 + 40 < _; exact bdk (by assumption) (by decide)
      · exact hh
      intro h10 tk10 ps10 C10 Fz h85
      have keep10 : ∀ a o, @Ne Nat a dx → @Ne Nat a 85 → h6.get? a = some o → h10.get? a = some o := fun a o n1 n2 e => C10 _ _ (by simp; exact ⟨n1, n2⟩) e
      have t10 : TK h6 h10 := TK.of_ch C10 fun a ha vs e => by
        rcases List.mem_cons.mp ha with rfl | ha
        · rw [hdx6] at e; exact dict_ne _ _ vs (Option.some.inj e)
        · rw [List.mem_singleton] at ha; subst ha
          rw [fb2.at_ (.head _)] at e; exact tab_ne _ vs (Option.some.inj e)
      have f10 : FB w p loose mean mg mb g L h10 m6 (bookN bk) := by
        obtain ⟨oL, esL, epL, hL, rL⟩ := fb2.ns
        refine ⟨⟨oL, esL, epL, keep10 _ _ ?_ ?_ hL, rL⟩, fun a o e => keep10 _ _ ?_ ?_ (fb2.keep a o e), fb2.out, fun r hr => ⟨keep10 _ _ (nqd r hr) (n85q r hr) (fb2.at_ (List.mem_append_right _ hr)), (fb2.N r (List.mem_append_right _ hr)).2⟩, fb2.B⟩
        · exact fun e => (f3.N (dx, emptyDict) (by k_mem)).2.1 e.symm
        · exact fun e => (fb2.N (85, tabObj ps) (.head _)).2.1 e.symm
        · rintro rfl; rw [gdx] at e; cases e
        · rintro rfl; rw [fb2.new_ (.head _)] at e; cases e
      obtain ⟨g3, f11, st11, ch11, t11⟩ := f10.rebase (news' := bookN bk) (fun q hq => hq) (bookN_ne bk)
      have Z11 : Dxf w g3 bk true := by
        show Froz w g3 bk.x bk.dx
        rw [e1, e2]
        obtain ⟨zf, c', c, oc, vs, t, t3, n3, ctv, pm, cl, di, sl, p1, p2, p3, pp, qual, z1, z2, z3, z4, z5, z6, z7⟩ := Fz
        refine ⟨zf, c', c, oc, vs, t, t3, n3, ctv, pm, cl, di, sl, p1, p2, p3, pp, qual, ch11 _ _ ?_ z1, ch11 _ _ (fb_far f10 z2 ?_ ?_) z2, ch11 _ _ (fb_far f10 z3 ?_ ?_) z3, ch11 _ _ (fb_far f10 z4 ?_ ?_) z4, z5, z6, z7⟩
        · intro hm
          rcases List.mem_cons.mp hm with hm | hm
          · exact (f3.N (dx, emptyDict) (by k_mem)).2.1 hm
          · obtain ⟨q, hq, e⟩ := List.mem_map.mp hm
            exact nqd q hq e
        · intro es ep e; cases e
        · intro vs n e; have := congrArg Obj.data e; cases this
        · intro es ep e; cases e
        · intro vs n e; have := congrArg Obj.data e; cases this
        · intro es ep e; rw [z5] at e; cases e
        · intro vs n e; rw [e] at z5; cases z5
      have R11 : BookR tupV h10 bk (mapW fr ws) := R6.mono t10
      have g3_85 : g3.get? 85 = some (tabObj ps10) := ch11 _ _ (fun hm => by
        rcases List.mem_cons.mp hm with hm | hm
        · exact (fb2.N (85, tabObj ps) (.head _)).2.1 hm
        · obtain ⟨q, hq, e⟩ := List.mem_map.mp hm
          exact n85q q hq e) h85
      have g3_dx : ∃ o, g3.get? dx = some o := by
        obtain ⟨zf, c', c, oc, vs, t, t3, n3, ctv, pm, cl, di, sl, p1, p2, p3, pp, qual, z1, _, _, _, _, _, _⟩ := (show Froz w g3 bk.x bk.dx from Z11)
        exact ⟨_, by rw [← e2]; exact z1⟩
      clear f10 fb2 f6 f3 fr1 f2
      rw [show mapW fr ws = mapW true ws by rw [hfr]] at R11 M
      generalize hDD : mapW true ws = D at R11 M
      have hMf := M.few
      walk_at "go"
      refine mw_for ?_ (fun _ => rfl)
      walk_at "go"
      refine mk_ty ?_ rfl rfl
      walk_at "go"
      rw [← e1]
      refine ml_listBookG f11 R11 (f11.at_ (bookN_x bk)) hh (by (first | lia | omega)) ?_
      intro l1 h12 tk12 kv kc f12 n12 kr k12
      obtain ⟨g4, f13, st13, ch13, t13⟩ := f12.rebase (news' := bookN bk) (fun q hq => .tail _ hq) (bookN_ne bk)
      have hl1 : g4.get? l1 = some (listOf kv.toArray kc) := by
        refine ch13 _ _ ?_ (f12.at_ (.head _))
        intro hm
        rcases List.mem_cons.mp hm with hm | hm
        · exact (f12.N _ (.head _)).2.1 hm
        · obtain ⟨q, hq, e⟩ := List.mem_map.mp hm
          exact n12 q hq e
      have kr2 : RelL (natV.rel g4) kv (D.map (·.1)) := kr
      have Z13 := Z11.keeps st13
      clear f12 f11
      refine for_list (by exact hh) (fun j h m news => ∃ bk', news = bookN bk' ∧ BookR tupV h bk' (hifyN D j) ∧ bk'.x = x ∧ bk'.dx = dx ∧ m "book" = some (.ref x)) ?hJ2 ?hnt2 f13 hl1 ⟨bk, rfl, R11.mono (TK.of_keep k12), e1, e2, m61⟩ rfl rfl ?turn2 ?fin2
      case hJ2 =>
        rintro i h h' m news t ⟨bk', e1, R, e2⟩
        exact ⟨bk', e1, R.mono t, e2⟩
      case hnt2 =>
        rintro i h m news ⟨bk', rfl, _⟩
        exact bookN_ne bk'
      case turn2 =>
        rintro j v g5 h14 tk14 m14 news14 hv ⟨bk2, rfl, R14, x14, d14, mb14⟩ f14 st14
        have hjl : j < D.length := by
          have := (List.getElem?_eq_some_iff.mp hv).1
          rw [kr2.1, List.length_map] at this; exact this
        obtain ⟨d, hdj⟩ : ∃ d, D[j]? = some d := ⟨_, List.getElem?_eq_getElem hjl⟩
        obtain ⟨td, rfl⟩ := kr2.2 j v d.1 hv (by rw [List.getElem?_map, hdj]; rfl)
        have hat : (hifyN D j)[j]? = some d := by rw [hifyN_at, hdj]; simp
        have hkj : keyAt (hifyN D j) d.1 = some j := keyAt_nodup (by rw [hifyN_fst]; exact M.nod) hat
        have hsm := M.small d (List.mem_of_getElem? hdj)
        have Z14 : Dxf w g5 bk2 true := by
          have := Z13.keeps st14
          unfold Dxf at this ⊢
          rw [x14, d14]
          rw [e1, e2] at this
          exact this
        walk_at "go"
        refine book_hit S x14 f14 (fun q hq => hq) R14 Z14 (by rw [hifyN_len]; (first | lia | omega)) ?_ ?_ (by exact hh) hkj rfl ?_
        · show A.depth + 1 + 8 < _; exact bdk (by assumption) (by decide)
        · show A.units + 3 + 80 < _; exact bdk (by assumption) (by decide)
        intro r tk15 hr
        walk_at "go"
        refine heapify_spec tupV f14.B f14.keep (f14.at_ (bookN_row hr)) (f14.new_ (bookN_row hr)) (R14.rel j r d hr hat).2 (by (first | lia | omega)) ?_ ?_ ?_ ?_
        · show A.depth + 1 + 2 < _; exact bdk (by assumption) (by decide)
        · show A.units + 3 + 40 < _; exact bdk (by assumption) (by decide)
        · exact hh
        intro h16 tk16 vs16 c16 C16 hl16 R16
        obtain ⟨f17, _, R17, t17⟩ := book_put (extra := []) f14 (fun q hq => by cases hq) R14 hr C16 hl16 R16
        walk_at "go"
        refine ⟨_, _, _, _, rfl, f17, bk2.put j vs16 c16, rfl, ?_, x14, d14, mb14⟩
        have e3 : hifyN D (j + 1) = (hifyN D j).modify j fun d' => (d'.1, hify lexL (d.2.length / 2) d.2) := by
          show (hifyN D j).modify j _ = _
          apply List.ext_getElem?
          intro i
          rw [List.getElem?_modify, List.getElem?_modify]
          by_cases e : j = i
          · subst e
            rw [hat]; simp
          · simp [e]
        rw [e3]; exact R17
      case fin2 =>
        rintro h14 tk14 m14 news14 ⟨bk2, rfl, R14, x14, d14, mb14⟩ f14
        dsimp only
        walk_at "go"
        have elk : kv.length = D.length := by rw [kr2.1, List.length_map]
        rw [elk] at R14
        have none3 : ∀ q ∈ bookN bk2, g3.get? q.1 = none := fun q hq => by
          cases e : g3.get? q.1 with
          | none => rfl
          | some o =>
            have := st13 _ _ e
            rw [f14.new_ hq] at this; cases this
        refine fin bk2 h14 _ ps10 x14 d14 (fun q hq => ⟨f14.at_ hq, ?_, ?_, ?_⟩) (fun a o _ e => f14.keep _ _ (st13 _ _ (st11 _ _ e))) (f14.keep _ _ (st13 _ _ g3_85)) ?_ ?_ (fun e => absurd hfr (by rw [e]; decide))
        · cases e : g.get? q.1 with
          | none => rfl
          | some o =>
            have := st11 _ _ e
            rw [none3 q hq] at this; cases this
        · intro e
          obtain ⟨o, ho⟩ := g3_dx
          have := none3 q hq
          rw [show q.1 = dx from e, ho] at this; cases this
        · intro e
          have := none3 q hq
          rw [show q.1 = 85 from e, g3_85] at this; cases this
        · unfold mapF
          rw [if_pos hfr, hDD]; exact R14
        · rw [hfr]
          have := (Z13.keeps f14.keep)
          unfold Dxf at this ⊢
          rw [x14, d14]
          rw [e1, e2] at this
          exact this
    · rw [if_neg hfr]
      walk_at "go"
      have e0 : fr = false := by simpa using hfr
      refine fin bk h6 _ ps e1 e2 (fun q hq => ⟨fb2.at_ (List.mem_append_right _ hq), fb2.new_ (List.mem_append_right _ hq), nqd q hq, n85q q hq⟩) (fun a o _ e => fb2.keep _ _ e) (fb2.at_ (.head _)) ?_ ?_ (fun _ => rfl)
      · unfold mapF
        rw [if_neg hfr, ← e0]; exact R6
      · subst e0
        show h6.get? bk.dx = some emptyDict
        rw [e2]; exact hdx6
end
end
section
/-- what tuples of whole numbers, and lists of them, read as -/
noncomputable def tupD (k : List Int) : PyData := .tuple (k.map PyData.int)
theorem reads_tup {h : Heap} {v : Value} {k : List Int} (r : tupR h v k) : Reads h v (tupD k) [] := by
  obtain ⟨a, vs, rfl, ha, hi⟩ := r
  exact Reads.tuple ha rfl rfl (by simpa using readsAll_of_ints hi)
theorem readsAll_ex {κ : Type} {R : Value → κ → Prop} {F : κ → PyData} {h : Heap} (hF : ∀ v k, R v k → ∃ as, Reads h v (F k) as) : ∀ {vs : List Value} {ks : List κ}, RelL R vs ks → ∃ as, ReadsAll h vs (ks.map F) as
  | [], [], _ => ⟨_, .nil⟩
  | [], _ :: _, r => by have := r.1; simp at this
  | _ :: _, [], r => by have := r.1; simp at this
  | v :: vs, k :: ks, r => by
    obtain ⟨as, h1⟩ := hF v k (r.2 0 v k rfl rfl)
    obtain ⟨bs, h2⟩ := readsAll_ex hF (vs := vs) (ks := ks) ⟨by have := r.1; simpa using this, fun i a b h1 h2 => r.2 (i + 1) a b (by simpa using h1) (by simpa using h2)⟩
    exact ⟨_, .cons h1 h2⟩
theorem reads_list {κ : Type} {R : Value → κ → Prop} {F : κ → PyData} {h : Heap} (hF : ∀ v k, R v k → ∃ as, Reads h v (F k) as) {a : Addr} {vs : List Value} {c : Nat} {ks : List κ} (ha : h.get? a = some (listOf vs.toArray c)) (r : RelL R vs ks) : ∃ as, Reads h (.ref a) (.list (ks.map F)) as := by
  obtain ⟨as, h1⟩ := readsAll_ex hF r
  exact ⟨_, Reads.list ha rfl rfl (by simpa using h1)⟩
theorem layAll {κ : Type} {F : κ → PyData} (hF : ∀ k, (F k).canLay0 = true) : ∀ ks : List κ, PyData.canLayAll0 (ks.map F) = true
  | [] => by simp [PyData.canLayAll0]
  | k :: r => by simp [PyData.canLayAll0, hF k, layAll hF r]
theorem depAll {κ : Type} {F : κ → PyData} {n : Nat} (hF : ∀ k, (F k).depth ≤ n) : ∀ ks : List κ, PyData.depthAll (ks.map F) ≤ n
  | [] => by simp [PyData.depthAll]
  | k :: r => by
    have h1 := depAll hF r
    have h2 := hF k
    simp only [List.map_cons, PyData.depthAll]
    (first | lia | omega)
theorem tupD_lay (k : List Int) : (tupD k).canLay0 = true := by
  unfold tupD
  simp only [PyData.canLay0]; exact canLayAll0_ints k
theorem tupD_dep (k : List Int) : (tupD k).depth ≤ 2 := by
  have := W.depthAll_ints k
  unfold tupD
  simp only [PyData.depth]; (first | lia | omega)
noncomputable def keptD (x : Nat × List (List Int)) : PyData := .tuple [.int ((x.1 : Nat) : Int), .list (x.2.map tupD)]
theorem keptD_lay (x : Nat × List (List Int)) : (keptD x).canLay0 = true := by
  unfold keptD
  simp [PyData.canLay0, PyData.canLayAll0, layAll tupD_lay]
theorem keptD_dep (x : Nat × List (List Int)) : (keptD x).depth ≤ 5 := by
  have := depAll tupD_dep x.2
  unfold keptD
  simp only [PyData.depth, PyData.depthAll]
  (first | lia | omega)
open PySem.SeqAt in
theorem shaped_list {κ : Type} {F : κ → PyData} (h1 : ∀ k, (F k).canLay0 = true) (h2 : ∀ k, (F k).depth ≤ 5) (ks : List κ) : shaped (.list (ks.map F)) = true := by
  have h3 := depAll h2 ks
  show (PyData.canLay0 (.list (ks.map F)) && decide (PyData.depth (.list (ks.map F)) ≤ 64)) = true
  rw [Bool.and_eq_true]
  refine ⟨by simp only [PyData.canLay0]; exact layAll h1 ks, decide_eq_true ?_⟩
  simp only [PyData.depth]; (first | lia | omega)
section
variable {prog : Program} {w : World} {A : Around} {E : Value → Shared → Prop} {s : Shared} {a b : Addr} {c d : Nat} {Q : Value → Shared → Prop}
/-- two lists that read alike are equal -/
theorem ml_eqSame {κ : Type} {R R' : Value → κ → Prop} {F : κ → PyData} (hF : ∀ v k, R v k → ∃ as, Reads s.heap v (F k) as) (hF' : ∀ v k, R' v k → ∃ as, Reads s.heap v (F k) as) (h1 : ∀ k, (F k).canLay0 = true) (h2 : ∀ k, (F k).depth ≤ 5) {vs us : List Value} {ks : List κ}
    (ha : s.heap.get? a = some (listOf vs.toArray c)) (ra : RelL R vs ks) (hb : s.heap.get? b = some (listOf us.toArray d)) (rb : RelL R' us ks) (hu : A.units + 64 < cLine) (q : Q (.bool true) s) : wpAny (model prog w) A (compareOp .Eq (.ref a) (.ref b)) Q E s := by
  obtain ⟨as, e1⟩ := reads_list hF ha ra
  obtain ⟨bs, e2⟩ := reads_list hF' hb rb
  refine eq_dataH e1 e2 (shaped_list h1 h2 ks) (shaped_list h1 h2 ks) hu ?_
  rw [PySem.SeqAt.eqv_refl _ (by simp only [PyData.canLay0]; exact layAll h1 ks)]
  exact q
/-- a list of tuples against the empty list -/
theorem ml_neT0 {vs : List Value} {ks : List (List Int)} (ha : s.heap.get? a = some (listOf vs.toArray c)) (ra : RelL (tupR s.heap) vs ks) (hb : s.heap.get? b = some (listOf #[] d)) (hu : A.units + 64 < cLine) (q : Q (.bool (!decide (ks = []))) s) : wpAny (model prog w) A (compareOp .NotEq (.ref a) (.ref b)) Q E s := by
  obtain ⟨as, e1⟩ := reads_list (F := tupD) (fun v k r => ⟨_, reads_tup r⟩) ha ra
  obtain ⟨bs, e2⟩ := reads_list (κ := List Int) (F := tupD) (R := fun _ _ => False) (fun v k r => r.elim) (vs := []) hb (RelL.nil)
  refine ne_dataH e1 e2 (shaped_list tupD_lay (fun k => Nat.le_trans (tupD_dep k) (by decide)) ks) (shaped_list (F := tupD) tupD_lay (fun k => Nat.le_trans (tupD_dep k) (by decide)) []) hu ?_
  cases ks with
  | nil => simpa [PyData.eqv, PyData.eqvAll] using q
  | cons k r => simpa [PyData.eqv, PyData.eqvAll] using q
end
end
section
theorem offD_nil {fr : Bool} {D : List (Nat × List (List Int))} {u : Nat} (h : lstD D u = []) : offD fr D u = lookD fr D u := by
  unfold offD; rw [h]; rfl
theorem offH_nil {D : List (Nat × List (List Int))} {u : Nat} {H : List (List Int)} {far rank : Int} (h : lstD D u = []) : offH D u H far rank = H := by
  unfold offH; rw [h]; rfl
section
variable {prog : Program} {w : World} {A : Around} {E : Value → Shared → Prop} {p : Program} {loose : List Str} {mean : ExcName → Option Value} {mg mb : Str → Option Value} {b h : Heap} {ge : Array GenState} {dr : Drawn} {tk : Nat} {os : OsState} {Q : Value → Shared → Prop}
/-- `_law_offer` -/
theorem offer_spec (S : SupOk prog) (B : Base w p loose mean mg mb b) (hb : b.StaysIn h) {bk : BookV} {D : List (Nat × List (List Int))} {fr : Bool} {hl : Addr} {hv : List Value} {hc : Nat} {H : List (List Int)}
    (hN : ∀ q ∈ [(hl, listOf hv.toArray hc)] ++ bookN bk, h.get? q.1 = some q.2 ∧ b.get? q.1 = none) (ap : Apart [(hl, listOf hv.toArray hc)] bk) (R : BookR tupV h bk D) (Z : Dxf w b bk fr) (hr : RelL (tupR h) hv H)
    {far rank u : Nat} {t1 t2 t3 : Tok} (hDz : D.length ≤ 1000) (hlz : (lstD D u).length ≤ 1000) (hHz : H.length ≤ 1000) (hy : ∀ y k, hpop lexL (lstD D u) = some (y, k) → ∃ l v : Nat, y = [((l : Nat) : Int), ((v : Nat) : Int)])
    (hd : A.depth + 20 < recursionLimit) (hu : A.units + 200 < cLine) (hh : A.handled = none)
    (q : ∀ h' tk' bk' hv' hc', Ch (([(hl, listOf hv.toArray hc)] ++ bookN bk).map (·.1)) h h' → (∀ q ∈ [(hl, listOf hv'.toArray hc')] ++ bookN bk', h'.get? q.1 = some q.2 ∧ (q.1 ∈ ([(hl, listOf hv.toArray hc)] ++ bookN bk).map (·.1) ∨ h.get? q.1 = none)) → Apart [(hl, listOf hv'.toArray hc')] bk' →
      BookR tupV h' bk' (offD fr D u) → RelL (tupR h') hv' (offH D u H ((far : Nat) : Int) ((rank : Nat) : Int)) → bk'.x = bk.x → bk'.dx = bk.dx → Q .none ⟨h', ge, dr, tk', os⟩) :
    wpAny (model prog w) A (call (.ref 111) [.ref bk.x, .ref hl, .int ((far : Nat) : Int) t1, .int ((rank : Nat) : Int) t2, .int ((u : Nat) : Int) t3]) Q E ⟨h, ge, dr, tk, os⟩ := by
  have BX := B.X
  refine' mk_enter (news := [(hl, listOf hv.toArray hc)] ++ bookN bk) (binds := [("book", .ref bk.x), ("heap", .ref hl), ("far", .int ((far : Nat) : Int) t1), ("rank", .int ((rank : Nat) : Int) t2), ("home", .int ((u : Nat) : Int) t3)]) B hb ?k0 ?k6 ?k7 (by (first | lia | omega)) ?k9 ?kB ?_ ?c2 ?c3 ?c4 ?c5
  case k0 =>
    intro q hq
    refine ⟨(hN q hq).1, (hN q hq).2, ?_⟩
    rcases List.mem_append.mp hq with hq | hq
    · rw [List.mem_singleton] at hq; subst hq
      exact lst_ne _ _
    · exact bookN_ne bk q hq
  case k6 => k_is
  case k7 => k_is
  case k9 => exact fun _ => BindsTo.of_eq rfl
  case kB => exact locs rfl
  case c2 => exact rfl
  case c3 => exact rfl
  case c4 => exact rfl
  case c5 => decide
  intro g L h₁ tk₁ fb hg tg hbg
  clear BX
  have X := fb.B.X
  have R1 := (R.mono tg).mono (TK.of_keep fb.keep)
  have hr1 : RelL (tupR h₁) hv H := (hr.mono fun _ _ => tupV.keep tg).mono fun _ _ => tupV.keep (TK.of_keep fb.keep)
  have Z1 := Z.keeps hbg
  walk_at "go"
  refine book_at S rfl fb ap R1 Z1 (by (first | lia | omega)) ?_ ?_ (by exact hh) rfl ?_ ?_
  · show A.depth + 1 + 8 < _; exact bdk (by assumption) (by decide)
  · show A.units + 3 + 80 < _; exact bdk (by assumption) (by decide)
  · intro bk2 i r h2 tk2 f2 ap2 R2 Z2 ex2 ed2 hk2 hr2 t2'
    clear fb
    have hrel := R2.lst hk2 hr2
    rw [lstD_look] at hrel
    have hr2' : RelL (tupR h2) hv H := hr1.mono fun _ _ => tupV.keep t2'
    refine mw_stK f2 ?_ rfl rfl
    intro h3 tk3 f3 t3'
    clear f2
    walk_at "go"
    refine ml_newK f3 (by simp) ?_
    intro E0 h4 f4 n4 k4
    have t4 : TK h2 h4 := t3'.trans (TK.of_keep k4)
    have hE0 := f4.at_ (.head _)
    have f5 := f4.sub (news' := [(hl, listOf hv.toArray hc)] ++ bookN bk2) (fun q hq => .tail _ hq)
    clear f4 f3
    have R5 := R2.mono t4
    have hrel5 : RelL (tupR h4) r.vals (lstD D u) := hrel.mono fun _ _ => tupV.keep t4
    have hr5 : RelL (tupR h4) hv H := hr2'.mono fun _ _ => tupV.keep t4
    have hmr : (r.addr, r.lst) ∈ [(hl, listOf hv.toArray hc)] ++ bookN bk2 := List.mem_append_right _ (bookN_row hr2)
    walk_at "go"
    refine ml_neT0 (f5.at_ hmr) hrel5 hE0 ?_ ?_
    · show A.units + 3 + 64 < _; exact bdk (by assumption) (by decide)
    walk_at "go"
    have done : ∀ h' tk' bk' hv' hc' m', FB w p loose mean mg mb g L h' m' ([(hl, listOf hv'.toArray hc')] ++ bookN bk') → Apart [(hl, listOf hv'.toArray hc')] bk' → BookR tupV h' bk' (offD fr D u) → RelL (tupR h') hv' (offH D u H ((far : Nat) : Int) ((rank : Nat) : Int)) → bk'.x = bk.x → bk'.dx = bk.dx → Q .none ⟨h', ge, dr, tk', os⟩ := by
      intro h' tk' bk' hv' hc' m' f' ap' R' r' x' d'
      refine q h' tk' bk' hv' hc' (ch_of hg f') (fun q hq => ?_) ap' R' r' x' d'
      have z := f'.N q hq
      refine ⟨z.1, ?_⟩
      by_cases hm : q.1 ∈ ([(hl, listOf hv.toArray hc)] ++ bookN bk).map (·.1)
      · exact .inl hm
      · right
        cases e : h.get? q.1 with
        | none => rfl
        | some o =>
          have := hg _ _ hm e
          rw [z.2.2] at this; cases this
    by_cases he : lstD D u = []
    · rw [if_neg (by simp [he])]
      walk_at "go"
      refine done _ _ bk2 hv hc _ f5 ap2 ?_ ?_ ex2 ed2
      · rw [offD_nil he]; exact R5
      · rw [offH_nil he]; exact hr5
    · rw [if_pos (by simp [he])]
      walk_at "go"
      obtain ⟨y, ks, hpp, hpl⟩ := hpop_some lexL he
      obtain ⟨ly, vy, ey⟩ := hy y ks hpp
      refine Assign_Tuple ?_ rfl rfl
      walk_at "go"
      refine heappop_spec tupV f5.B f5.keep (f5.at_ hmr) (f5.new_ hmr) hrel5 hpp (by (first | lia | omega)) ?_ ?_ ?_
      · show A.depth + 1 + 2 < _; exact bdk (by assumption) (by decide)
      · show A.units + 3 + 40 < _; exact bdk (by assumption) (by decide)
      intro h6 tk6 vs6 c6 v6 C6 hl6 R6 ry6
      obtain ⟨f7, ap7, R7, t7⟩ := book_put f5 ap2 R5 hr2 C6 hl6 R6
      clear f5
      subst ey
      obtain ⟨T, xs, rfl, hT, hxs⟩ := ry6
      have hr6 : RelL (tupR h6) hv H := hr5.mono fun _ _ => tupV.keep t7
      obtain ⟨ul, uv, rfl⟩ : ∃ ul uv, xs = [.int ((ly : Nat) : Int) ul, .int ((vy : Nat) : Int) uv] := by
        cases hxs with
        | cons _ ul h => cases h with
          | cons _ uv h => cases h; exact ⟨ul, uv, rfl⟩
      refine ml_unpack (by exact hh) f7 hT rfl rfl ?_
      intro h8 f8 k8
      refine mw_ordc (mw_asgK f8 ?_ rfl rfl)
      intro h9 tk9 f9 t9
      refine mw_ordc (mw_asgK f9 ?_ rfl rfl)
      intro h10 tk10 f10 t10
      refine mw_ord0 ?_
      clear f7 f8 f9
      have t11 : TK h6 h10 := (TK.of_keep k8).trans (t9.trans t10)
      walk_at "go"
      refine ml_tupK f10 (by simp) ?_
      intro P h12 f12 n12 k12
      have hP := f12.at_ (.head _)
      have f13 := f12.sub (news' := [(hl, listOf hv.toArray hc)] ++ bookN (bk2.put i vs6 c6)) (fun q hq => .tail _ hq)
      clear f12 f10
      have t13 : TK h6 h12 := t11.trans (TK.of_keep k12)
      have R13 := R7.mono t13
      have hr13 : RelL (tupR h12) hv H := hr6.mono fun _ _ => tupV.keep t13
      walk_at "go"
      refine heappush_spec tupV f13.B f13.keep (f13.at_ (.head _)) (f13.new_ (.head _)) hr13 (x := [((far : Nat) : Int) + ((ly : Nat) : Int), ((rank : Nat) : Int), ((vy : Nat) : Int), ((far : Nat) : Int), ((u : Nat) : Int)]) ⟨P, _, rfl, hP, .cons _ _ (.cons _ _ (.cons _ _ (.cons _ _ (.cons _ _ .nil))))⟩ (by (first | lia | omega)) ?_ ?_ ?_
      · show A.depth + 1 + 2 < _; exact bdk (by assumption) (by decide)
      · show A.units + 3 + 40 < _; exact bdk (by assumption) (by decide)
      intro h14 tk14 vs14 c14 C14 hl14 R14
      have f15 : FB w p loose mean mg mb g L h14 _ ([(hl, listOf vs14.toArray c14)] ++ bookN (bk2.put i vs6 c6)) := f13.chg C14 ⟨_, .head _⟩ fun q hq => by
        rcases List.mem_append.mp hq with hq | hq
        · rw [List.mem_singleton] at hq; subst hq
          exact .inr ⟨hl14, .inl rfl⟩
        · exact .inl ⟨List.mem_append_right _ hq, fun e => ap7 _ (.head _) q hq e.symm⟩
      have t15 : TK h12 h14 := TK.of_ch C14 fun a ha vs' e => by
        rw [List.mem_singleton] at ha; subst ha
        rw [f13.at_ (.head _)] at e; exact lst_ne _ _ vs' (Option.some.inj e)
      walk_at "go"
      refine done _ _ (bk2.put i vs6 c6) vs14 c14 _ f15 (fun q hq q' hq' => ?_) ?_ ?_ ex2 ed2
      · rw [List.mem_singleton] at hq; subst hq
        exact ap7 _ (.head _) q' hq'
      · unfold offD
        rw [hpp]
        dsimp only
        rw [setD_eq hk2]
        exact R13.mono t15
      · unfold offH
        rw [hpp]
        exact R14
  · intro hf hn l h2 tk2 c f2 n2 R2 k2
    refine mw_stK f2 ?_ rfl rfl
    intro h3 tk3 f3 t3'
    clear f2
    walk_at "go"
    refine ml_newK f3 (by simp) ?_
    intro E0 h4 f4 n4 k4
    have t4 : TK h2 h4 := t3'.trans (TK.of_keep k4)
    have hE0 := f4.at_ (.head _)
    have hl4 := f4.at_ (.tail _ (.head _))
    walk_at "go"
    refine ml_neT0 (ks := []) (vs := []) hl4 RelL.nil hE0 ?_ ?_
    · show A.units + 3 + 64 < _; exact bdk (by assumption) (by decide)
    walk_at "go"
    rw [if_neg (by simp)]
    walk_at "go"
    have he : lstD D u = [] := by unfold lstD; rw [hn]
    have f5 := f4.sub (news' := [(hl, listOf hv.toArray hc)] ++ bookN bk) (fun q hq => .tail _ (.tail _ hq))
    refine q h4 _ bk hv hc (ch_of hg f5) (fun q hq => ⟨f5.at_ hq, .inl (List.mem_map_of_mem hq)⟩) ap ?_ ?_ rfl rfl
    · rw [offD_nil he]
      have e : lookD fr D u = D := by unfold lookD; rw [hn]; simp [hf]
      rw [e]; exact R2.mono t4
    · rw [offH_nil he]
      exact hr1.mono fun _ _ => tupV.keep ((TK.of_keep k2).trans t4)
end
end
section
theorem nodup_lt : ∀ (n : Nat) (l : List Nat), l.Nodup → (∀ x ∈ l, x < n) → l.length ≤ n := by
  intro n
  induction n with
  | zero =>
    intro l _ h
    cases l with
    | nil => exact Nat.le_refl _
    | cons a r => exact absurd (h a (.head _)) (Nat.not_lt_zero _)
  | succ n ih =>
    intro l hn h
    by_cases hm : n ∈ l
    · have e := List.length_erase_of_mem hm
      have := ih (l.erase n) (hn.erase n) fun x hx => by
        have z := (hn.mem_erase_iff).mp hx
        have := h x z.2
        have := z.1
        (first | lia | omega)
      (first | lia | omega)
    · have := ih l hn fun x hx => by
        have := h x hx
        have : x ≠ n := fun e => hm (e ▸ hx)
        (first | lia | omega)
      (first | lia | omega)
noncomputable def keysOf (fr : Bool) (ws : List Way) (S : List (Nat × Nat × Nat)) : List Nat := if fr = true then homesOf ws else homesOf ws ++ (S.map (·.2.2)).filter (fun v => !decide (v ∈ homesOf ws))
theorem lst_tot {κ : Type} : ∀ (D : List (Nat × List κ)) (u : Nat), (lstD D u).length ≤ totD D := fun D u => by
  rcases lstD_cases D u with h | ⟨d, hd, _, h⟩
  · rw [h]; exact Nat.zero_le _
  · rw [h]
    unfold totD
    obtain ⟨a, b, e⟩ := List.append_of_mem hd
    rw [e, List.map_append, List.sum_append, List.map_cons, List.sum_cons]
    (first | lia | omega)
/-- between two turns of the loop -/
structure LI (fr : Bool) (ws : List Way) (post : Nat → Nat) (D : List (Nat × List (List Int))) (H : List (List Int)) (S : List (Nat × Nat × Nat)) : Prop where
  si : SI ws post (fun _ => False) D H S
  keys : D.map (·.1) = keysOf fr ws S
  tot : totD D + H.length ≤ ws.length + 2
/-- within a turn, `e` is popped -/
structure LM (fr : Bool) (ws : List Way) (post : Nat → Nat) (e : List Int) (n : Nat) (D : List (Nat × List (List Int))) (H : List (List Int)) (S : List (Nat × Nat × Nat)) : Prop where
  si : SI ws post (fun x => x = e) D H S
  pop : Pop ws post D H S e
  keys : D.map (·.1) = keysOf fr ws S
  tot : totD D + H.length + 1 = n
section
variable {fr : Bool} {ws : List Way} {post : Nat → Nat} {D : List (Nat × List (List Int))} {H H1 : List (List Int)} {S : List (Nat × Nat × Nat)} {e : List Int} {P : List Int → Prop} {n : Nat}
theorem SI.pairs (I : SI ws post P D H S) {u : Nat} {y : List Int} {k : List (List Int)} (hp : hpop lexL (lstD D u) = some (y, k)) : ∃ l v : Nat, y = [((l : Nat) : Int), ((v : Nat) : Int)] := by
  have hh : HeapFrom lexL 0 (lstD D u) := by
    rcases lstD_cases D u with h | ⟨d, hd, _, h⟩
    · rw [h]; intro i j a b _ _ h1; simp at h1
    · rw [h]; exact I.dheap d hd
  obtain ⟨_, q2, _⟩ := hpop_heap lexL_tot hh hp
  obtain ⟨v, l, _, e⟩ := mem_Wof.mp (I.sub u y (q2.mem_iff.mp (.head _)))
  exact ⟨l, v, e⟩
theorem keysOf_len (fr : Bool) (ws : List Way) (S : List (Nat × Nat × Nat)) : (keysOf fr ws S).length ≤ (homesOf ws).length + S.length := by
  unfold keysOf
  split
  · (first | lia | omega)
  · rw [List.length_append]
    have := List.length_filter_le (fun v => !decide (v ∈ homesOf ws)) (S.map (·.2.2))
    rw [List.length_map] at this
    (first | lia | omega)
theorem homes_len (ws : List Way) : (homesOf ws).length ≤ ws.length := by
  rw [← (mapW_ok false ws).keys, List.length_map]
  exact (mapW_ok false ws).few
theorem SI.sLen (I : SI ws post P D H S) : S.length ≤ 7 := by
  have h := nodup_lt 7 (S.map (·.2.2)) I.nod fun x hx => by
    obtain ⟨s, hs, rfl⟩ := List.mem_map.mp hx
    obtain ⟨i, hi⟩ := List.mem_iff_getElem?.mp hs
    exact (I.walk i s.1 s.2.1 s.2.2 hi).2.1
  simpa using h
theorem SI.few (I : SI ws post P D H S) (hk : D.map (·.1) = keysOf fr ws S) : D.length ≤ ws.length + 7 := by
  have h1 := congrArg List.length hk
  rw [List.length_map] at h1
  have h2 := keysOf_len fr ws S
  have h3 := homes_len ws
  have h4 := I.sLen
  (first | lia | omega)
theorem off_keys_old (hk : D.map (·.1) = keysOf fr ws S) {u : Nat} (hu : u ∈ S.map (·.2.2)) : (lookD fr D u).map (·.1) = keysOf fr ws S := by
  rw [lookD_fst, hk]
  rw [if_neg]
  rintro ⟨rfl, h⟩
  unfold keysOf at h
  simp only [Bool.false_eq_true, if_false, List.mem_append, List.mem_filter, not_or] at h
  exact h.2 ⟨hu, by simpa using h.1⟩
theorem off_keys_new (hk : D.map (·.1) = keysOf fr ws S) {f r v : Nat} (hv : v ∉ S.map (·.2.2)) : (lookD fr D v).map (·.1) = keysOf fr ws (S ++ [(f, r, v)]) := by
  rw [lookD_fst, hk]
  unfold keysOf
  cases fr with
  | true => simp
  | false =>
    simp only [Bool.false_eq_true, if_false, true_and, List.map_append, List.filter_append, List.map_cons, List.map_nil]
    by_cases h : v ∈ homesOf ws
    · rw [if_neg (by simp [h]), List.filter_cons_of_neg (by simpa using h)]
      simp
    · rw [if_pos, List.filter_cons_of_pos (by simpa using h)]
      · simp
      · intro hm
        rcases List.mem_append.mp hm with hm | hm
        · exact h hm
        · exact hv (List.mem_filter.mp hm).1
theorem LI.pop (G : GoodWays ws) (I : LI fr ws post D H S) (hp : hpop lexL H = some (e, H1)) :
    ∃ f r v b : Nat, ∃ u : Int, e = five f r v b u ∧ ((u = -1 ∧ LM fr ws post e (totD D + H.length) D H1 S) ∨ ∃ u' : Nat, u = ((u' : Nat) : Int) ∧ LM fr ws post e (totD D + H.length) (offD fr D u') (offH D u' H1 ((b : Nat) : Int) ((r : Nat) : Int)) S) := by
  obtain ⟨q1, q2, _⟩ := hpop_heap lexL_tot I.si.hheap hp
  have hl := q2.length_eq
  rw [List.length_cons] at hl
  rcases pop_first (fr := fr) G I.si hp with ⟨r, _, he, s1, s2⟩ | ⟨f, r, u, l, v, hs, _, he, s1, s2⟩
  · exact ⟨0, r, post r, 0, -1, he, .inl ⟨rfl, s1, s2, I.keys, by (first | lia | omega)⟩⟩
  · obtain ⟨_, o2, _, _, _, o6, _⟩ := off_spec (fr := fr) (u := u) (far := ((f : Nat) : Int)) (rank := ((r : Nat) : Int)) I.si.keys I.si.dheap q1
    refine ⟨f + l, r, v, f, ((u : Nat) : Int), he, .inr ⟨u, rfl, s1, s2, ?_, by (first | lia | omega)⟩⟩
    rw [o2]
    exact off_keys_old I.keys (List.mem_map.mpr ⟨_, hs, rfl⟩)
theorem LM.old (M : LM fr ws post e n D H S) (hn : n ≤ ws.length + 2) {f r v b : Nat} {u : Int} (he : e = five f r v b u) (hv : v ∈ S.map (·.2.2)) : LI fr ws post D H S ∧ totD D + H.length < n :=
  ⟨⟨settle_old M.si M.pop he hv, M.keys, by have := M.tot; (first | lia | omega)⟩, by have := M.tot; (first | lia | omega)⟩
theorem LM.new (G : GoodWays ws) (hpost : ∀ r, r < 2 → post r < 7) (M : LM fr ws post e n D H S) (hn : n ≤ ws.length + 2) {f r v b : Nat} {u : Int} (he : e = five f r v b u) (hv : v ∉ S.map (·.2.2)) :
    LI fr ws post (offD fr D v) (offH D v H ((f : Nat) : Int) ((r : Nat) : Int)) (S ++ [(f, r, v)]) ∧ totD (offD fr D v) + (offH D v H ((f : Nat) : Int) ((r : Nat) : Int)).length < n := by
  obtain ⟨_, o2, _, _, _, o6, _⟩ := off_spec (fr := fr) (u := v) (far := ((f : Nat) : Int)) (rank := ((r : Nat) : Int)) M.si.keys M.si.dheap M.si.hheap
  have := M.tot
  refine ⟨⟨settle_new G hpost M.si M.pop he hv, ?_, by (first | lia | omega)⟩, by (first | lia | omega)⟩
  rw [o2]
  exact off_keys_new M.keys hv
end
theorem totD_step (fr : Bool) (D : List (Nat × List (List Int))) (w : Way) : totD (mapStep fr D w) = totD D + 1 := by
  obtain ⟨i, hi⟩ := key_look D w.1
  unfold mapStep
  have h := totD_set hi (if fr = true then lstD D w.1 ++ [pairW w] else hpush lexL (lstD D w.1) (pairW w))
  rw [lstD_look, totD_look] at h
  have e : (if fr = true then lstD D w.1 ++ [pairW w] else hpush lexL (lstD D w.1) (pairW w)).length = (lstD D w.1).length + 1 := by
    split
    · simp
    · exact hpush_len _ _ _
  (first | lia | omega)
theorem totD_fold (fr : Bool) : ∀ (vs : List Way) (D : List (Nat × List (List Int))), totD (vs.foldl (mapStep fr) D) = totD D + vs.length
  | [], D => rfl
  | v :: vs, D => by
    rw [List.foldl_cons, totD_fold fr vs, totD_step, List.length_cons]
    (first | lia | omega)
theorem totD_W (fr : Bool) (ws : List Way) : totD (mapW fr ws) = ws.length := by
  unfold mapW
  rw [totD_fold]
  show 0 + _ = _
  (first | lia | omega)
theorem hify_len (ks : List (List Int)) : (hify lexL (ks.length / 2) ks).length = ks.length := (hify_heap lexL_tot _ _ (Nat.div_le_self _ _) (half_heap _)).2.length_eq
theorem totD_F (fr : Bool) (ws : List Way) : totD (mapF fr ws) = ws.length := by
  unfold mapF
  split
  · rw [← totD_W true ws]
    unfold totD
    congr 1
    apply List.ext_getElem?
    intro i
    rw [List.getElem?_map, List.getElem?_map, hifyN_at]
    cases h : (mapW true ws)[i]? with
    | none => rfl
    | some d =>
      simp only [Option.map_some]
      split
      · rw [hify_len]
      · rfl
  · exact totD_W false ws
/-- where the loop begins -/
theorem LI.init (fr : Bool) (ws : List Way) (post : Nat → Nat) : LI fr ws post (mapF fr ws) [five 0 0 (post 0) 0 (-1), five 0 1 (post 1) 0 (-1)] [] := by
  have M := mapF_ok fr ws
  refine ⟨⟨M.nod, M.heap rfl, ?_, fun u x hx => (M.perm u).mem_iff.mp hx, fun u _ => M.perm u, fun e he => ?_, fun f r u h => (by cases h), fun f r u h => (by cases h), fun r hr => ?_, .nil, fun s h => (by cases h), List.nodup_nil, fun i f r v h => (by simp at h)⟩, ?_, ?_⟩
  · intro i j a b _ hk ha hb
    have lb := (List.getElem?_eq_some_iff.mp hb).1
    have hj : j = 1 ∧ i = 0 := by
      have : j < 2 := lb
      unfold Kid at hk
      (first | lia | omega)
    obtain ⟨rfl, rfl⟩ := hj
    simp only [List.getElem?_cons_zero, List.getElem?_cons_succ, Option.some.injEq] at ha hb
    subst ha; subst hb
    simp [five, lexL]
  · left
    rcases List.mem_cons.mp he with rfl | he
    · exact ⟨0, by decide, rfl⟩
    · rw [List.mem_singleton] at he; subst he
      exact ⟨1, by decide, rfl⟩
  · right; left
    rcases (show r = 0 ∨ r = 1 by (first | lia | omega)) with rfl | rfl
    · exact .head _
    · exact .tail _ (.head _)
  · rw [M.keys]
    unfold keysOf
    simp
  · rw [totD_F]
    simp
end
section
noncomputable def postF (q0 q1 : Nat) : Nat → Nat := fun r => if r = 0 then q0 else q1
section
variable {w : World} {p : Program} {loose : List Str} {mean : ExcName → Option Value} {mg mb : Str → Option Value} {g h h' : Heap} {L : Addr} {m : Str → Option Value}
/-- after an offer: the frame of the loop -/
theorem off_back {hl sl : Addr} {hv hv' sv : List Value} {hc hc' sc : Nat} {c : Addr × Obj} {bk bk' : BookV} (f : FB w p loose mean mg mb g L h m ([(hl, listOf hv.toArray hc), (sl, listOf sv.toArray sc), c] ++ bookN bk)) (ap : Apart [(hl, listOf hv.toArray hc), (sl, listOf sv.toArray sc), c] bk) (n1 : hl ≠ sl) (n2 : hl ≠ c.1)
    (C : Ch (([(hl, listOf hv.toArray hc)] ++ bookN bk).map (·.1)) h h') (hn : ∀ q ∈ [(hl, listOf hv'.toArray hc')] ++ bookN bk', h'.get? q.1 = some q.2 ∧ (q.1 ∈ ([(hl, listOf hv.toArray hc)] ++ bookN bk).map (·.1) ∨ h.get? q.1 = none)) (ap1 : Apart [(hl, listOf hv'.toArray hc')] bk') :
    FB w p loose mean mg mb g L h' m ([(hl, listOf hv'.toArray hc'), (sl, listOf sv.toArray sc), c] ++ bookN bk') ∧ Apart [(hl, listOf hv'.toArray hc'), (sl, listOf sv.toArray sc), c] bk' ∧ TK h h' := by
  have out : ∀ q ∈ [(sl, listOf sv.toArray sc), c], q ∈ [(hl, listOf hv.toArray hc), (sl, listOf sv.toArray sc), c] ++ bookN bk ∧ q.1 ≠ hl ∧ ∀ q' ∈ bookN bk, q.1 ≠ q'.1 := by
    intro q hq
    rcases List.mem_cons.mp hq with rfl | hq
    · exact ⟨.tail _ (.head _), n1.symm, ap _ (.tail _ (.head _))⟩
    · rw [List.mem_singleton] at hq; subst hq
      exact ⟨.tail _ (.tail _ (.head _)), n2.symm, ap _ (.tail _ (.tail _ (.head _)))⟩
  have nm : ∀ q ∈ [(sl, listOf sv.toArray sc), c], q.1 ∉ ([(hl, listOf hv.toArray hc)] ++ bookN bk).map (·.1) := by
    intro q hq hm
    obtain ⟨q', hq', e⟩ := List.mem_map.mp hm
    rcases List.mem_append.mp hq' with h1 | h1
    · rw [List.mem_singleton] at h1; subst h1
      exact (out q hq).2.1 e.symm
    · exact (out q hq).2.2 q' h1 e.symm
  refine ⟨f.chgs C (fun a ha => ?_) fun q hq => ?_, fun q hq q' hq' e => ?_, TK.of_ch C fun a ha vs e => ?_⟩
  · obtain ⟨q, hq, rfl⟩ := List.mem_map.mp ha
    refine ⟨q.2, ?_⟩
    rcases List.mem_append.mp hq with h1 | h1
    · rw [List.mem_singleton] at h1; subst h1
      exact .head _
    · exact List.mem_append_right _ h1
  · rcases List.mem_append.mp hq with h1 | h1
    · rcases List.mem_cons.mp h1 with rfl | h1
      · exact .inr (hn _ (.head _))
      · exact .inl ⟨(out q h1).1, nm q h1⟩
    · exact .inr (hn q (List.mem_append_right _ h1))
  · rcases List.mem_cons.mp hq with rfl | h1
    · exact ap1 _ (.head _) q' hq' e
    · rcases (hn q' (List.mem_append_right _ hq')).2 with hm | hm
      · rw [← e] at hm
        exact nm q h1 hm
      · have := (f.N q (out q h1).1).1
        rw [e, hm] at this; cases this
  · obtain ⟨q, hq, rfl⟩ := List.mem_map.mp ha
    rcases List.mem_append.mp hq with h1 | h1
    · rw [List.mem_singleton] at h1; subst h1
      rw [(f.N _ (.head _)).1] at e
      exact lst_ne _ _ vs (Option.some.inj e)
    · rw [(f.N q (List.mem_append_right _ h1)).1] at e
      exact bookN_ne bk q h1 vs (Option.some.inj e)
end
section
variable {prog : Program} {w : World} {A : Around} {E : Value → Shared → Prop} {p : Program} {loose : List Str} {mean : ExcName → Option Value} {mg mb : Str → Option Value} {b h : Heap} {ge : Array GenState} {dr : Drawn} {tk : Nat} {os : OsState} {Q : Value → Shared → Prop}
/-- `_law_settled` -/
theorem settled_spec (S : SupOk prog) (B : Base w p loose mean mg mb b) (hb : b.StaysIn h) {ws : List Way} (G : GoodWays ws) (hws : ws.length ≤ 100) {pl : Addr} {pv : List Value} {pc : Nat} {q0 q1 : Nat} (hpl : b.get? pl = some (listOf pv.toArray pc)) (hpr : RelL (natV.rel b) pv [q0, q1]) (hq0 : q0 < 7) (hq1 : q1 < 7)
    {bk : BookV} {fr : Bool} (hN : ∀ q ∈ bookN bk, h.get? q.1 = some q.2 ∧ b.get? q.1 = none) (R : BookR tupV h bk (mapF fr ws)) (Z : Dxf w b bk fr)
    (hd : A.depth + 40 < recursionLimit) (hu : A.units + 400 < cLine) (hh : A.handled = none)
    (q : ∀ h' tk' bk' l vs c D T, Ch ((bookN bk).map (·.1)) h h' → (∀ q ∈ bookN bk', h'.get? q.1 = some q.2 ∧ (q.1 ∈ (bookN bk).map (·.1) ∨ h.get? q.1 = none)) → BookR tupV h' bk' D → LI fr ws (postF q0 q1) D [] T →
      h'.get? l = some (listOf vs.toArray c) → h.get? l = none → (∀ q ∈ bookN bk', q.1 ≠ l) → RelL (tupR h') vs (T.map tri) → bk'.x = bk.x → bk'.dx = bk.dx → Q (.ref l) ⟨h', ge, dr, tk', os⟩) :
    wpAny (model prog w) A (call (.ref 116) [.ref bk.x, .ref pl]) Q E ⟨h, ge, dr, tk, os⟩ := by
  have BX := B.X
  refine' mk_enterC (news := bookN bk) (binds := [("book", .ref bk.x), ("posts", .ref pl)]) B hb ?k0 ?k6 ?k7 (by (first | lia | omega)) ?k9 ?kB ?kN ?_ ?c2 ?c3 ?c4
  case k0 => exact fun q hq => ⟨(hN q hq).1, (hN q hq).2, bookN_ne bk q hq⟩
  case k6 => k_is
  case k7 => k_is
  case k9 => exact fun _ => BindsTo.of_eq rfl
  case kB =>
    intro n y hy
    rcases List.mem_cons.mp hy with rfl | hy
    · exact .inl rfl
    · rw [List.mem_singleton] at hy; subst hy
      exact .inr ⟨rfl, rfl⟩
  case kN => decide
  case c2 => exact rfl
  case c3 => exact rfl
  case c4 => exact rfl
  intro g L h₁ tk₁ cells fb hcs hg tg hbg
  obtain ⟨cl1, di1, sl1, rfl⟩ := cells_one hcs
  clear BX
  obtain ⟨m0, f0, ml0⟩ : ∃ m : Str → Option Value, FB w p loose mean mg mb g L h₁ m ((L + 1, cellW cl1 di1 sl1 (some (.ref pl))) :: bookN bk) ∧ m "book" = some (.ref bk.x) := ⟨_, fb, rfl⟩
  clear fb
  have X := f0.B.X
  have R1 := (R.mono tg).mono (TK.of_keep f0.keep)
  have Z1 := Z.keeps hbg
  have hgp := hbg _ _ hpl
  have cne : ∀ bk : BookV, ∀ q ∈ (L + 1, cellW cl1 di1 sl1 (some (.ref pl))) :: bookN bk, ∀ vs, q.2 ≠ tupO vs := by
    intro bk q hq
    rcases List.mem_cons.mp hq with rfl | hq
    · exact cellW_ne _ _ _ _
    · exact bookN_ne bk q hq
  walk_at "go"
  refine mw_asgComp (cl := [("posts", L + 1)]) ?_ ?clos (fun _ => rfl) rfl ?names rfl
  case clos => rfl
  case names => decide
  walk_at "go"
  refine mk_ty ?_ rfl rfl
  walk_at "go"
  refine comp_rangeR (n := 2) (env := envOfC _ _ _ _ _) (by exact hh) (fun i h acc news => RelL (tupR h) acc (([five 0 0 (postF q0 q1 0) 0 (-1), five 0 1 (postF q0 q1 1) 0 (-1)] : List (List Int)).take i) ∧ news = (L + 1, cellW cl1 di1 sl1 (some (.ref pl))) :: bookN bk ∧ BookR tupV h bk (mapF fr ws)) (fun _ _ _ _ _ t e => ⟨e.1.mono fun _ _ => tupV.keep t, e.2.1, e.2.2.mono t⟩) (fun _ _ _ _ e => e.2.1 ▸ cne bk) (fun i _ _ _ e => by rw [e.1.1]; simp; (first | lia | omega)) (by (first | lia | omega)) f0 ⟨RelL.nil, rfl, R1⟩ ?hcell ?hkind ?hk ?hp ?hloc ?turn ?fin
  case hcell => decide
  case hkind => rfl
  case hk => exact fun _ => rfl
  case hp => exact fun _ => rfl
  case hloc => exact fun _ => rfl
  case turn =>
    rintro i t g2 C h2 tk2 m2 acc news2 hi ⟨r2, rfl, R2⟩ f2 st2
    refine tests_nil ?_
    rw [if_pos rfl]
    walk_at "go"
    obtain ⟨qi, tq, hqi, hti⟩ : ∃ qi tq, pv[i]? = some (.int ((qi : Nat) : Int) tq) ∧ ([five 0 0 (postF q0 q1 0) 0 (-1), five 0 1 (postF q0 q1 1) 0 (-1)] : List (List Int))[i]? = some [0, ((i : Nat) : Int), ((qi : Nat) : Int), 0, -1] := by
      rcases (show i = 0 ∨ i = 1 by (first | lia | omega)) with rfl | rfl
      · obtain ⟨v, hv, t, rfl⟩ := hpr.get (i := 0) (k := q0) rfl
        exact ⟨q0, t, hv, rfl⟩
      · obtain ⟨v, hv, t, rfl⟩ := hpr.get (i := 1) (k := q1) rfl
        exact ⟨q1, t, hv, rfl⟩
    refine ml_itemH (f2.keep _ _ (st2 _ _ hgp)) (by (first | lia | omega)) (by (first | lia | omega)) (by simpa using hqi) ?_ rfl
    walk_at "go"
    refine ml_tupK f2 (by simp) ?_
    intro T h9 f9 n9 k9
    refine ⟨_, _, _, _, rfl, f9.sub (news' := (L + 1, cellW cl1 di1 sl1 (some (.ref pl))) :: bookN bk) (fun q hq => .tail _ hq), ?_, rfl, R2.mono (TK.of_keep k9)⟩
    rw [List.take_add_one, hti]
    exact (r2.mono fun _ _ => tupV.keep (TK.of_keep k9)).push ⟨T, _, rfl, (f9.N _ (.head _)).1, .cons _ _ (.cons _ _ (.cons _ _ (.cons _ _ (.cons _ _ .nil))))⟩
  case fin =>
    rintro Hl C fl h3 tk3 acc c3 news3 ⟨r3, rfl, R3⟩ v3 n3
    rw [show ([five 0 0 (postF q0 q1 0) 0 (-1), five 0 1 (postF q0 q1 1) 0 (-1)] : List (List Int)).take 2 = [five 0 0 (postF q0 q1 0) 0 (-1), five 0 1 (postF q0 q1 1) 0 (-1)] from rfl] at r3
    refine post_use v3 rfl rfl ?_
    intro h4 tk4 f4 t4
    clear v3
    walk_at "go"
    refine ml_newK f4 (by simp) ?_
    intro Sl h5 f5 n5 k5
    refine mw_stK f5 ?_ rfl rfl
    intro h6 tk6 f6 t6
    clear f5 f4
    have t36 : TK h3 h6 := t4.trans ((TK.of_keep k5).trans t6)
    have nHS : @Ne Nat Hl Sl := n5 _ (.head _)
    have nHC : @Ne Nat Hl (L + 1) := (n3 _ (.head _)).symm
    obtain ⟨M0, f7, mb7, mh7, ms7⟩ : ∃ M, FB w p loose mean mg mb g L h6 M ([(Hl, listOf acc.toArray c3), (Sl, listOf ([] : List Value).toArray 0), (L + 1, cellW cl1 di1 sl1 (some (.ref pl)))] ++ bookN bk) ∧ M "book" = some (.ref bk.x) ∧ M "heap" = some (.ref Hl) ∧ M "settled" = some (.ref Sl) := by
      refine ⟨_, f6.sub (fun q hq => ?_), ml0, rfl, rfl⟩
      rcases List.mem_cons.mp hq with rfl | hq
      · exact .tail _ (.head _)
      · rcases List.mem_cons.mp hq with rfl | hq
        · exact .head _
        · exact .tail _ (.tail _ hq)
    clear f6
    have ap7 : Apart [(Hl, listOf acc.toArray c3), (Sl, listOf ([] : List Value).toArray 0), (L + 1, cellW cl1 di1 sl1 (some (.ref pl)))] bk := by
      intro q hq q' hq'
      rcases List.mem_cons.mp hq with rfl | hq
      · exact (n3 _ (.tail _ hq')).symm
      rcases List.mem_cons.mp hq with rfl | hq
      · exact (n5 _ (.tail _ (.tail _ hq'))).symm
      · rw [List.mem_singleton] at hq; subst hq
        exact f7.cellsApart (fun q hq => List.mem_append_right _ hq) (.tail _ (.tail _ (.head _))) q' hq'
    have r7 : RelL (tupR h6) acc [five 0 0 (postF q0 q1 0) 0 (-1), five 0 1 (postF q0 q1 1) 0 (-1)] := r3.mono fun _ _ => tupV.keep t36
    have R7 := R3.mono t36
    have nSC : @Ne Nat Sl (L + 1) := (n5 _ (.tail _ (.head _))).symm
    walk_at "go"
    refine while_cut (fun n s' => ∃ (bk' : BookV) (hv : List Value) (hc : Nat) (sv : List Value) (sc : Nat) (D : List (Nat × List (List Int))) (H : List (List Int)) (T : List (Nat × Nat × Nat)) (h : Heap) (tk : Nat) (m : Str → Option Value), n = totD D + H.length ∧ s' = ⟨h, ge, dr, tk, os⟩ ∧ FB w p loose mean mg mb g L h m ([(Hl, listOf hv.toArray hc), (Sl, listOf sv.toArray sc), (L + 1, cellW cl1 di1 sl1 (some (.ref pl)))] ++ bookN bk') ∧
        Apart [(Hl, listOf hv.toArray hc), (Sl, listOf sv.toArray sc), (L + 1, cellW cl1 di1 sl1 (some (.ref pl)))] bk' ∧ BookR tupV h bk' D ∧ RelL (tupR h) hv H ∧ RelL (tupR h) sv (T.map tri) ∧ LI fr ws (postF q0 q1) D H T ∧ bk'.x = bk.x ∧ bk'.dx = bk.dx ∧ m "book" = some (.ref bk.x) ∧ m "heap" = some (.ref Hl) ∧ m "settled" = some (.ref Sl))
      (fun s' => ∃ (bk' : BookV) (hv : List Value) (hc : Nat) (sv : List Value) (sc : Nat) (D : List (Nat × List (List Int))) (T : List (Nat × Nat × Nat)) (h : Heap) (tk : Nat) (m : Str → Option Value), s' = ⟨h, ge, dr, tk, os⟩ ∧ FB w p loose mean mg mb g L h m ([(Hl, listOf hv.toArray hc), (Sl, listOf sv.toArray sc), (L + 1, cellW cl1 di1 sl1 (some (.ref pl)))] ++ bookN bk') ∧
        Apart [(Hl, listOf hv.toArray hc), (Sl, listOf sv.toArray sc), (L + 1, cellW cl1 di1 sl1 (some (.ref pl)))] bk' ∧ BookR tupV h bk' D ∧ RelL (tupR h) sv (T.map tri) ∧ LI fr ws (postF q0 q1) D [] T ∧ bk'.x = bk.x ∧ bk'.dx = bk.dx ∧ m "settled" = some (.ref Sl))
      ?wturn (totD (mapF fr ws) + 2) ?wstart ?wfin
    case wstart => exact ⟨bk, acc, c3, [], 0, mapF fr ws, _, [], _, _, _, rfl, rfl, f7, ap7, R7, r7, RelL.nil, LI.init fr ws _, rfl, rfl, mb7, mh7, ms7⟩
    case wfin =>
      rintro s' ⟨bk', hv, hc, sv, sc, D, T, h9, tk9, m9, rfl, f9, ap9, R9, r9, I9, x9, d9, ms9⟩
      walk_at "go"
      have none_ : ∀ a, @Not (a ∈ (bookN bk).map (·.1)) → g.get? a = none → h.get? a = none := fun a hm hg0 => by
        cases e : h.get? a with
        | none => rfl
        | some o =>
          have := hg _ _ hm e
          rw [hg0] at this; cases this
      refine q h9 _ bk' Sl sv sc D T (ch_of hg f9) (fun q hq => ?_) R9 I9 (f9.at_ (.tail _ (.head _))) ?_ (fun q hq e => ap9 _ (.tail _ (.head _)) q hq e.symm) r9 x9 d9
      · have z := f9.N q (List.mem_append_right _ hq)
        refine ⟨z.1, ?_⟩
        by_cases hm : q.1 ∈ (bookN bk).map (·.1)
        · exact .inl hm
        · exact .inr (none_ _ hm z.2.2)
      · refine none_ _ (fun hm => ?_) (f9.new_ (.tail _ (.head _)))
        obtain ⟨q, hq, e⟩ := List.mem_map.mp hm
        exact n5 q (.tail _ (.tail _ hq)) e
    case wturn =>
      rintro n s' ⟨bk', hv, hc, sv, sc, D, H, T, h9, tk9, m9, rfl, rfl, f9, ap9, R9, rH9, rT9, I9, x9, d9, mb9, mh9, ms9⟩
      clear f7
      refine wpHide ?_
      intro Q1 hQ1
      walk_at "go"
      refine ml_newK f9 (by simp) ?_
      intro E0 h10 f10 n10 k10
      have hE0 := f10.at_ (.head _)
      have f11 := f10.sub (news' := [(Hl, listOf hv.toArray hc), (Sl, listOf sv.toArray sc), (L + 1, cellW cl1 di1 sl1 (some (.ref pl)))] ++ bookN bk') (fun q hq => .tail _ hq)
      have R11 := R9.mono (TK.of_keep k10)
      have rH11 : RelL (tupR h10) hv H := rH9.mono fun _ _ => tupV.keep (TK.of_keep k10)
      have rT11 : RelL (tupR h10) sv (T.map tri) := rT9.mono fun _ _ => tupV.keep (TK.of_keep k10)
      clear f10 f9
      walk_at "go"
      refine ml_neT0 (f11.at_ (.head _)) rH11 hE0 ?_ ?_
      · show A.units + 3 + 64 < _; exact bdk (by assumption) (by decide)
      walk_at "go"
      refine hQ1 _ _ ?_
      clear hQ1 Q1
      by_cases hH : H = []
      · subst hH
        rw [if_neg (by simp)]
        exact ⟨bk', hv, hc, sv, sc, D, T, _, _, _, rfl, f11, ap9, R11, rT11, I9, x9, d9, ms9⟩
      · rw [if_pos (by simp [hH])]
        refine wpHide ?_
        intro Q2 hQ2
        walk_at "go"
        refine Assign_Tuple ?_ rfl rfl
        walk_at "go"
        obtain ⟨e, H1, hpp, hpl⟩ := hpop_some lexL hH
        have hHz : totD D + H.length ≤ ws.length + 2 := I9.tot
        refine heappop_spec tupV f11.B f11.keep (f11.at_ (.head _)) (f11.new_ (.head _)) rH11 hpp (by (first | lia | omega)) ?_ ?_ ?_
        · show A.depth + 1 + 2 < _; exact bdk (by assumption) (by decide)
        · show A.units + 3 + 40 < _; exact bdk (by assumption) (by decide)
        intro h12 tk12 vs12 c12 v12 C12 hl12 rH12 rv12
        have t12 : TK h10 h12 := TK.of_ch C12 fun a ha vs' e => by
          rw [List.mem_singleton] at ha; subst ha
          rw [f11.at_ (.head _)] at e; exact lst_ne _ _ vs' (Option.some.inj e)
        have f13 : FB w p loose mean mg mb g L h12 m9 ([(Hl, listOf vs12.toArray c12), (Sl, listOf sv.toArray sc), (L + 1, cellW cl1 di1 sl1 (some (.ref pl)))] ++ bookN bk') := f11.chg C12 ⟨_, .head _⟩ fun q hq => by
          rcases List.mem_append.mp hq with h1 | h1
          · rcases List.mem_cons.mp h1 with rfl | h1
            · exact .inr ⟨hl12, .inl rfl⟩
            rcases List.mem_cons.mp h1 with rfl | h1
            · exact .inl ⟨.tail _ (.head _), nHS.symm⟩
            · rw [List.mem_singleton] at h1; subst h1
              exact .inl ⟨.tail _ (.tail _ (.head _)), nHC.symm⟩
          · exact .inl ⟨List.mem_append_right _ h1, fun e => ap9 _ (.head _) q h1 e.symm⟩
        have ap13 : Apart [(Hl, listOf vs12.toArray c12), (Sl, listOf sv.toArray sc), (L + 1, cellW cl1 di1 sl1 (some (.ref pl)))] bk' := by
          intro q hq q' hq'
          rcases List.mem_cons.mp hq with rfl | hq
          · exact ap9 _ (.head _) q' hq'
          · exact ap9 _ (.tail _ hq) q' hq'
        have R13 := R11.mono t12
        have rT13 : RelL (tupR h12) sv (T.map tri) := rT11.mono fun _ _ => tupV.keep t12
        clear f11
        obtain ⟨f, r, v, bb, u, he, hcase⟩ := LI.pop G I9 hpp
        obtain ⟨P, xs, rfl, hP, hxs⟩ := rv12
        obtain ⟨u1, u2, u3, u4, u5, rfl⟩ : ∃ u1 u2 u3 u4 u5, xs = [.int ((f : Nat) : Int) u1, .int ((r : Nat) : Int) u2, .int ((v : Nat) : Int) u3, .int ((bb : Nat) : Int) u4, .int u u5] := by
          rw [he] at hxs
          unfold five at hxs
          cases hxs with
          | cons _ u1 h => cases h with
            | cons _ u2 h => cases h with
              | cons _ u3 h => cases h with
                | cons _ u4 h => cases h with
                  | cons _ u5 h => cases h; exact ⟨u1, u2, u3, u4, u5, rfl⟩
        refine ml_unpack (by exact hh) f13 hP rfl rfl ?_
        intro h14 f14 k14
        refine mw_ordc (mw_asgK f14 ?_ rfl rfl)
        intro h15 tk15 f15 t15
        refine mw_ordc (mw_asgK f15 ?_ rfl rfl)
        intro h16 tk16 f16 t16
        refine mw_ordc (mw_asgK f16 ?_ rfl rfl)
        intro h17 tk17 f17 t17
        refine mw_ordc (mw_asgK f17 ?_ rfl rfl)
        intro h18 tk18 f18 t18
        refine mw_ordc (mw_asgK f18 ?_ rfl rfl)
        intro h19 tk19 f19 t19
        refine mw_ord0 ?_
        have t20 : TK h12 h19 := (TK.of_keep k14).trans (t15.trans (t16.trans (t17.trans (t18.trans t19))))
        obtain ⟨M, f20, M1, M2, M3, M4, M5, M6, M7, M8⟩ : ∃ M, FB w p loose mean mg mb g L h19 M ([(Hl, listOf vs12.toArray c12), (Sl, listOf sv.toArray sc), (L + 1, cellW cl1 di1 sl1 (some (.ref pl)))] ++ bookN bk') ∧ M "book" = some (.ref bk.x) ∧ M "heap" = some (.ref Hl) ∧ M "settled" = some (.ref Sl) ∧
            M "far" = some (.int ((f : Nat) : Int) u1) ∧ M "rank" = some (.int ((r : Nat) : Int) u2) ∧ M "place" = some (.int ((v : Nat) : Int) u3) ∧ M "base" = some (.int ((bb : Nat) : Int) u4) ∧ M "home" = some (.int u u5) := ⟨_, f19, mb9, mh9, ms9, rfl, rfl, rfl, rfl, rfl⟩
        clear f13 f14 f15 f16 f17 f18 f19
        have R20 := R13.mono t20
        have rT20 : RelL (tupR h19) sv (T.map tri) := rT13.mono fun _ _ => tupV.keep t20
        have rH20 : RelL (tupR h19) vs12 H1 := RelL.mono rH12 fun _ _ => tupV.keep t20
        have Z20 : Dxf w g bk' fr := by
          unfold Dxf at Z1 ⊢
          rw [x9, d9]; exact Z1
        have hTz := I9.si.sLen
        have hDz := I9.si.few I9.keys
        walk_at "goI"
        refine next_cut (fun s' => ∃ (bk2 : BookV) (hv2 : List Value) (hc2 : Nat) (D2 : List (Nat × List (List Int))) (H2 : List (List Int)) (h' : Heap) (tk' : Nat), s' = ⟨h', ge, dr, tk', os⟩ ∧ FB w p loose mean mg mb g L h' M ([(Hl, listOf hv2.toArray hc2), (Sl, listOf sv.toArray sc), (L + 1, cellW cl1 di1 sl1 (some (.ref pl)))] ++ bookN bk2) ∧
          Apart [(Hl, listOf hv2.toArray hc2), (Sl, listOf sv.toArray sc), (L + 1, cellW cl1 di1 sl1 (some (.ref pl)))] bk2 ∧ BookR tupV h' bk2 D2 ∧ RelL (tupR h') hv2 H2 ∧ RelL (tupR h') sv (T.map tri) ∧ LM fr ws (postF q0 q1) e (totD D + H.length) D2 H2 T ∧ bk2.x = bk.x ∧ bk2.dx = bk.dx) ?one ?two
        case one =>
          refine wpHide ?_
          intro Q3 hQ3
          rcases hcase with ⟨rfl, LM0⟩ | ⟨u', rfl, LM0⟩
          · walk_at "go"
            rw [if_neg (by decide)]
            walk_at "go"
            exact hQ3 _ _ ⟨rfl, bk', vs12, c12, D, H1, _, _, rfl, f20, ap13, R20, rH20, rT20, LM0, x9, d9⟩
          · walk_at "go"
            rw [if_pos (by simp)]
            walk_at "go"
            rw [← x9]
            have hlst := lst_tot D u'
            refine offer_spec S f20.B f20.keep (hl := Hl) (hv := vs12) (hc := c12) (fun q hq => ?_) (fun q hq => ap13 q ?_) R20 Z20 rH20 (by (first | lia | omega)) (by (first | lia | omega)) (by (first | lia | omega)) (fun y k h => I9.si.pairs h) ?_ ?_ (by exact hh) ?_
            · rcases List.mem_append.mp hq with hq | hq
              · rw [List.mem_singleton] at hq; subst hq
                exact ⟨f20.at_ (.head _), f20.new_ (.head _)⟩
              · exact ⟨f20.at_ (List.mem_append_right _ hq), f20.new_ (List.mem_append_right _ hq)⟩
            · rw [List.mem_singleton] at hq; subst hq
              exact .head _
            · show A.depth + 1 + 20 < _; exact bdk (by assumption) (by decide)
            · show A.units + 3 + 200 < _; exact bdk (by assumption) (by decide)
            intro h22 tk22 bk22 hv22 hc22 C22 N22 ap22 R22 rH22 x22 d22
            obtain ⟨f23, ap23, t23⟩ := off_back f20 ap13 nHS nHC C22 N22 ap22
            walk_at "go"
            exact hQ3 _ _ ⟨rfl, bk22, hv22, hc22, _, _, _, _, rfl, f23, ap23, R22, rH22, rT20.mono fun _ _ => tupV.keep t23, LM0, x22.trans x9, d22.trans d9⟩
        case two =>
          rintro s' ⟨bk2, hv2, hc2, D2, H2, h21, tk21, rfl, f21, ap21, R21, rH21, rT21, LM21, x21, d21⟩
          clear f20
          have cne2 : ∀ q ∈ [(Hl, listOf hv2.toArray hc2), (L + 1, cellW cl1 di1 sl1 (some (.ref pl)))] ++ bookN bk2, ∀ vs, q.2 ≠ tupO vs := by
            intro q hq
            rcases List.mem_cons.mp hq with rfl | hq
            · exact lst_ne _ _
            · exact cne bk2 q hq
          obtain ⟨g6, f22, st6, ch6, t6'⟩ := f21.rebase (news' := [(Hl, listOf hv2.toArray hc2), (L + 1, cellW cl1 di1 sl1 (some (.ref pl)))] ++ bookN bk2) (fun q hq => by
            rcases List.mem_cons.mp hq with rfl | hq
            · exact .head _
            · exact .tail _ (.tail _ hq)) cne2
          have hSl : g6.get? Sl = some (listOf sv.toArray sc) := by
            refine ch6 _ _ ?_ (f21.at_ (.tail _ (.head _)))
            intro hm
            rcases List.mem_cons.mp hm with hm | hm
            · exact (f21.N _ (.tail _ (.head _))).2.1 hm
            · obtain ⟨q, hq, e⟩ := List.mem_map.mp hm
              rcases List.mem_cons.mp hq with rfl | hq
              · exact nHS e
              rcases List.mem_cons.mp hq with rfl | hq
              · exact nSC e.symm
              · exact ap21 _ (.tail _ (.head _)) q hq e.symm
          have nSL : Sl ≠ L := (f21.N _ (.tail _ (.head _))).2.1
          have gSl : g.get? Sl = none := f21.new_ (.tail _ (.head _))
          have B21 := f21.B
          have rT6 : RelL (tupR g6) sv (T.map tri) := rT21.mono fun _ _ => tupV.keep t6'
          clear f21
          walk_at "go"
          refine mw_comp (cl := []) ?_ ?clos2 (fun _ => rfl) rfl ?names2
          case clos2 => rfl
          case names2 => decide
          walk_at "go"
          refine comp_list (env := envOfC _ _ _ _ _) (by exact hh) (fun (i : Nat) (h : Heap) (acc : List Value) (news : List (Addr × Obj)) => RelL (natV.rel h) acc ((T.take i).map (fun s : Nat × Nat × Nat => s.2.2)) ∧ news = [(Hl, listOf hv2.toArray hc2), (L + 1, cellW cl1 di1 sl1 (some (.ref pl)))] ++ bookN bk2 ∧ BookR tupV h bk2 D2 ∧ RelL (tupR h) hv2 H2 ∧ RelL (tupR h) sv (T.map tri))
            (fun _ _ _ _ _ t e => ⟨e.1.mono fun _ _ => natV.keep t, e.2.1, e.2.2.1.mono t, e.2.2.2.1.mono fun _ _ => tupV.keep t, e.2.2.2.2.mono fun _ _ => tupV.keep t⟩) (fun _ _ _ _ e => e.2.1 ▸ cne2) (fun i _ _ _ e => by rw [e.1.1]; simp; (first | lia | omega)) (by rw [rT21.1, List.length_map]; (first | lia | omega)) f22 hSl ⟨RelL.nil, rfl, R21, rH21, rT21⟩ ?hcell2 ?hkind2 ?hk2 ?hp2 ?hloc2 ?turn2 ?fin2
          case hcell2 => decide
          case hkind2 => rfl
          case hk2 => exact fun _ => rfl
          case hp2 => exact fun _ => rfl
          case hloc2 => exact fun _ => rfl
          case turn2 =>
            rintro i w0 g8 C2 h24 tk24 m24 acc24 news24 hv ⟨i24, rfl, R24, rH24, rT24⟩ f24 st24
            obtain ⟨s0, hs0⟩ : ∃ s0, T[i]? = some s0 := ⟨_, List.getElem?_eq_getElem (by have := (List.getElem?_eq_some_iff.mp hv).1; rw [rT21.1, List.length_map] at this; exact this)⟩
            obtain ⟨P2, ys, rfl, hP2, hys⟩ := rT6.2 i w0 (tri s0) hv (by rw [List.getElem?_map, hs0]; rfl)
            obtain ⟨y1, y2, y3, rfl⟩ : ∃ y1 y2 y3, ys = [.int ((s0.1 : Nat) : Int) y1, .int ((s0.2.1 : Nat) : Int) y2, .int ((s0.2.2 : Nat) : Int) y3] := by
              unfold tri at hys
              cases hys with
              | cons _ y1 h => cases h with
                | cons _ y2 h => cases h with
                  | cons _ y3 h => cases h; exact ⟨y1, y2, y3, rfl⟩
            refine tests_nil ?_
            rw [if_pos rfl]
            walk_at "go"
            refine ml_tupItem (k := 2) (f24.keep _ _ (st24 _ _ hP2)) rfl (by (first | lia | omega)) ?_ rfl (fun _ => rfl)
            walk_at "go"
            refine ⟨_, _, _, _, rfl, f24, ?_, rfl, R24, rH24, rT24⟩
            rw [List.take_add_one, hs0]
            simp only [Option.toList_some, List.map_append, List.map_cons, List.map_nil]
            exact i24.push ⟨y3, rfl⟩
          case fin2 =>
            rintro Pl h24 tk24 acc24 c24 news24 ⟨i24, rfl, R24, rH24, rT24⟩ f24 n24
            have eT : sv.length = T.length := by rw [rT21.1, List.length_map]
            rw [eT, List.take_length] at i24
            have hPl := f24.at_ (.head _)
            have hSl24 : h24.get? Sl = some (listOf sv.toArray sc) := f24.keep _ _ hSl
            have f25 := ((f24.back st6 B21).cons hSl24 nSL gSl).sub (news' := [(Hl, listOf hv2.toArray hc2), (Sl, listOf sv.toArray sc), (L + 1, cellW cl1 di1 sl1 (some (.ref pl)))] ++ bookN bk2) (fun q hq => by
              rcases List.mem_cons.mp hq with rfl | hq
              · exact .tail _ (.tail _ (.head _))
              rcases List.mem_cons.mp hq with rfl | hq
              · exact .head _
              · exact .tail _ (.tail _ (.tail _ hq)))
            clear f24 f22
            walk_at "go"
            refine ml_notin hPl i24 ?_
            walk_at "go"
            by_cases hv0 : v ∈ T.map (·.2.2)
            · rw [if_neg (by simpa using hv0)]
              walk_at "go"
              obtain ⟨I30, l30⟩ := LM21.old hHz he hv0
              exact hQ2 _ _ ⟨_, l30, bk2, hv2, hc2, sv, sc, D2, H2, T, _, _, _, rfl, rfl, f25, ap21, R24, rH24, rT24, I30, x21, d21, M1, M2, M3⟩
            · rw [if_pos (by simpa using hv0)]
              walk_at "go"
              refine ml_meth f25 (.tail _ (.head _)) PySem.F.slot_list_append PySem.F.type_list_append ?_
              walk_at "go"
              refine ml_tupK f25 (by simp) ?_
              intro P3 h26 f26 n26 k26
              have hP3 := f26.at_ (.head _)
              have f27 := f26.sub (news' := [(Hl, listOf hv2.toArray hc2), (Sl, listOf sv.toArray sc), (L + 1, cellW cl1 di1 sl1 (some (.ref pl)))] ++ bookN bk2) (fun q hq => .tail _ hq)
              clear f26 f25
              walk_at "go"
              refine append_at (s := ⟨h26, ge, dr, _, os⟩) (f27.at_ (.tail _ (.head _))) (fun h28 hs ho => ?_) (by rw [List.size_toArray, rT21.1, List.length_map, sizeLine_eq]; (first | lia | omega))
              have ho2 : h28.get? Sl = some (listOf (sv ++ [Value.ref P3]).toArray (sc + 1)) := by rw [ho]; simp
              have t28 : TK h26 h28 := TK.of_ch (Ch.of_same hs) fun a ha vs' e => by
                rw [List.mem_singleton] at ha; subst ha
                rw [f27.at_ (.tail _ (.head _))] at e; exact lst_ne _ _ vs' (Option.some.inj e)
              have t2428 : TK h24 h28 := (TK.of_keep k26).trans t28
              have f29 : FB w p loose mean mg mb g L h28 M ([(Hl, listOf hv2.toArray hc2), (Sl, listOf (sv ++ [Value.ref P3]).toArray (sc + 1)), (L + 1, cellW cl1 di1 sl1 (some (.ref pl)))] ++ bookN bk2) := f27.chg (Ch.of_same hs) ⟨_, .tail _ (.head _)⟩ fun q hq => by
                rcases List.mem_append.mp hq with h1 | h1
                · rcases List.mem_cons.mp h1 with rfl | h1
                  · exact .inl ⟨.head _, nHS⟩
                  rcases List.mem_cons.mp h1 with rfl | h1
                  · exact .inr ⟨ho2, .inl rfl⟩
                  · rw [List.mem_singleton] at h1; subst h1
                    exact .inl ⟨.tail _ (.tail _ (.head _)), nSC.symm⟩
                · exact .inl ⟨List.mem_append_right _ h1, fun e => ap21 _ (.tail _ (.head _)) q h1 e.symm⟩
              have ap29 : Apart [(Hl, listOf hv2.toArray hc2), (Sl, listOf (sv ++ [Value.ref P3]).toArray (sc + 1)), (L + 1, cellW cl1 di1 sl1 (some (.ref pl)))] bk2 := by
                intro q hq q' hq'
                rcases List.mem_cons.mp hq with rfl | hq
                · exact ap21 _ (.head _) q' hq'
                rcases List.mem_cons.mp hq with rfl | hq
                · exact ap21 _ (.tail _ (.head _)) q' hq'
                · exact ap21 _ (.tail _ (.tail _ hq)) q' hq'
              have R29 := R24.mono t2428
              have rH29 : RelL (tupR h28) hv2 H2 := rH24.mono fun _ _ => tupV.keep t2428
              have rT29 : RelL (tupR h28) (sv ++ [Value.ref P3]) ((T ++ [(f, r, v)]).map tri) := by
                rw [List.map_append]
                exact (rT24.mono fun _ _ => tupV.keep t2428).push ⟨P3, _, rfl, t28 _ _ hP3, .cons _ _ (.cons _ _ (.cons _ _ .nil))⟩
              have Z29 : Dxf w g bk2 fr := by
                unfold Dxf at Z1 ⊢
                rw [x21, d21]; exact Z1
              have hD2z := LM21.si.few LM21.keys
              have hM2 := LM21.tot
              have hlst2 := lst_tot D2 v
              clear f27
              walk_at "go"
              rw [← x21]
              refine offer_spec S f29.B f29.keep (hl := Hl) (hv := hv2) (hc := hc2) (fun q hq => ?_) (fun q hq => ap29 q ?_) R29 Z29 rH29 (by (first | lia | omega)) (by (first | lia | omega)) (by (first | lia | omega)) (fun y k h => LM21.si.pairs h) ?_ ?_ (by exact hh) ?_
              · rcases List.mem_append.mp hq with hq | hq
                · rw [List.mem_singleton] at hq; subst hq
                  exact ⟨f29.at_ (.head _), f29.new_ (.head _)⟩
                · exact ⟨f29.at_ (List.mem_append_right _ hq), f29.new_ (List.mem_append_right _ hq)⟩
              · rw [List.mem_singleton] at hq; subst hq
                exact .head _
              · show A.depth + 1 + 20 < _; exact bdk (by assumption) (by decide)
              · show A.units + 3 + 200 < _; exact bdk (by assumption) (by decide)
              intro h30 tk30 bk30 hv30 hc30 C30 N30 ap30 R30 rH30 x30 d30
              obtain ⟨f31, ap31, t31⟩ := off_back f29 ap29 nHS nHC C30 N30 ap30
              walk_at "go"
              obtain ⟨I30, l30⟩ := LM21.new G (fun r hr => by unfold postF; split <;> assumption) hHz he hv0
              exact hQ2 _ _ ⟨_, l30, bk30, hv30, hc30, _, _, _, _, _, _, _, _, rfl, rfl, f31, ap31, R30, rH30, rT29.mono fun _ _ => tupV.keep t31, I30, x30.trans x21, d30.trans d21, M1, M2, M3⟩
end
end
section
/-- what is drawn from the book at the end -/
noncomputable def keptL (D : List (Nat × List (List Int))) : List (Nat × List (List Int)) := D.map fun d => (d.1, (popN lexL d.2 d.2.length).1)
noncomputable def drainN (D : List (Nat × List (List Int))) : Nat → List (Nat × List (List Int))
  | 0 => D
  | j + 1 => (drainN D j).modify j fun d => (d.1, (popN lexL d.2 d.2.length).2)
theorem drainN_at (D : List (Nat × List (List Int))) : ∀ (j i : Nat), (drainN D j)[i]? = (D[i]?).map fun d => if i < j then (d.1, (popN lexL d.2 d.2.length).2) else d
  | 0, i => by simp [drainN]
  | j + 1, i => by
    unfold drainN
    rw [List.getElem?_modify, drainN_at D j i]
    cases h : D[i]? with
    | none => rfl
    | some d =>
      by_cases e : j = i
      · subst e; simp
      · by_cases h2 : i < j
        · have h3 : i < j + 1 := by (first | lia | omega)
          simp [e, h2, h3]
        · have h3 : ¬ i < j + 1 := by (first | lia | omega)
          simp [e, h2, h3]
theorem drainN_fst (D : List (Nat × List (List Int))) (j : Nat) : (drainN D j).map (·.1) = D.map (·.1) := by
  apply List.ext_getElem?
  intro i
  rw [List.getElem?_map, List.getElem?_map, drainN_at]
  cases D[i]? with
  | none => rfl
  | some d =>
    simp only [Option.map_some]
    split <;> rfl
theorem drainN_len (D : List (Nat × List (List Int))) (j : Nat) : (drainN D j).length = D.length := by
  have := congrArg List.length (drainN_fst D j)
  simpa using this
theorem modify_self {κ : Type} {D : List (Nat × List κ)} {j : Nat} {d : Nat × List κ} (h : D[j]? = some d) : (D.modify j fun d' => (d'.1, d.2)) = D := by
  apply List.ext_getElem?
  intro i
  rw [List.getElem?_modify]
  by_cases e : j = i
  · subst e; rw [h]; simp
  · simp [e]
theorem modify_eq {κ : Type} {D : List (Nat × List κ)} {j : Nat} {d : Nat × List κ} (h : D[j]? = some d) (F : List κ → List κ) : (D.modify j fun d' => (d'.1, F d'.2)) = D.modify j fun d' => (d'.1, F d.2) := by
  apply List.ext_getElem?
  intro i
  rw [List.getElem?_modify, List.getElem?_modify]
  by_cases e : j = i
  · subst e; rw [h]; simp
  · simp [e]
/-- a tuple of a place and a list -/
noncomputable def keptT (h : Heap) (v : Value) (x : (Addr × List Value × Nat) × (Nat × List (List Int))) : Prop := ∃ T t, v = .ref T ∧ h.get? T = some (tupO [.int ((x.2.1 : Nat) : Int) t, .ref x.1.1]) ∧ RelL (tupR h) x.1.2.1 x.2.2
theorem keptT.keep {h h' : Heap} {v : Value} {x : (Addr × List Value × Nat) × (Nat × List (List Int))} (t : TK h h') (k : keptT h v x) : keptT h' v x := by
  obtain ⟨T, u, e, hT, r⟩ := k
  exact ⟨T, u, e, t _ _ hT, r.mono fun _ _ => tupV.keep t⟩
theorem popN_le {κ : Type} (lt : κ → κ → Bool) (ks : List κ) : ∀ n, (popN lt ks n).1.length ≤ n
  | 0 => Nat.le_refl _
  | n + 1 => by
    have ih := popN_le lt ks n
    unfold popN
    split
    · rw [List.length_append]; exact Nat.succ_le_succ ih
    · (first | lia | omega)
theorem keptL_at {D : List (Nat × List (List Int))} {j : Nat} {d : Nat × List (List Int)} (h : D[j]? = some d) : (keptL D)[j]? = some (d.1, (popN lexL d.2 d.2.length).1) := by
  unfold keptL
  rw [List.getElem?_map, h]; rfl
theorem KN_snoc (K : List (Addr × List Value × Nat)) (k : Addr × List Value × Nat) : KN (K ++ [k]) = KN K ++ [(k.1, listOf k.2.1.toArray k.2.2)] := by
  unfold KN
  rw [List.map_append]; rfl
end
section
section
variable {prog : Program} {w : World} {A : Around} {E : Value → Shared → Prop} {p : Program} {loose : List Str} {mean : ExcName → Option Value} {mg mb : Str → Option Value} {b h : Heap} {ge : Array GenState} {dr : Drawn} {tk : Nat} {os : OsState} {Q : Value → Shared → Prop}
/-- `_law_kept` -/
theorem kept_spec (S : SupOk prog) (B : Base w p loose mean mg mb b) (hb : b.StaysIn h) {bk : BookV} {fr : Bool} {D : List (Nat × List (List Int))} (hN : ∀ q ∈ bookN bk, h.get? q.1 = some q.2 ∧ b.get? q.1 = none) (R : BookR tupV h bk D) (Z : Dxf w b bk fr) (hnd : (D.map (·.1)).Nodup) (hDz : D.length ≤ 1000) (hlz : ∀ d ∈ D, d.2.length ≤ 1000)
    (hd : A.depth + 40 < recursionLimit) (hu : A.units + 400 < cLine) (hh : A.handled = none)
    (q : ∀ h' tk' l vs c KX, Ch ((bookN bk).map (·.1)) h h' → (∀ q ∈ (l, listOf vs.toArray c) :: KN (KX.map (·.1)), h'.get? q.1 = some q.2 ∧ (q.1 ∈ (bookN bk).map (·.1) ∨ h.get? q.1 = none)) → RelL (keptT h') vs KX → KX.map (·.2) = keptL D → Q (.ref l) ⟨h', ge, dr, tk', os⟩) :
    wpAny (model prog w) A (call (.ref 121) [.ref bk.x]) Q E ⟨h, ge, dr, tk, os⟩ := by
  have BX := B.X
  refine' mk_enterC (news := bookN bk) (binds := [("book", .ref bk.x)]) B hb ?k0 ?k6 ?k7 (by (first | lia | omega)) ?k9 ?kB ?kN ?_ ?c2 ?c3 ?c4
  case k0 => exact fun q hq => ⟨(hN q hq).1, (hN q hq).2, bookN_ne bk q hq⟩
  case k6 => k_is
  case k7 => k_is
  case k9 => exact fun _ => BindsTo.of_eq rfl
  case kB =>
    intro n y hy
    rw [List.mem_singleton] at hy; subst hy
    exact .inr ⟨rfl, rfl⟩
  case kN => decide
  case c2 => exact rfl
  case c3 => exact rfl
  case c4 => exact rfl
  intro g L h₁ tk₁ cells fb hcs hg tg hbg
  obtain ⟨cl1, di1, sl1, rfl⟩ := cells_one hcs
  clear BX
  have X := fb.B.X
  obtain ⟨m0, f0⟩ : ∃ m : Str → Option Value, FB w p loose mean mg mb g L h₁ m ([(L + 1, cellW cl1 di1 sl1 (some (.ref bk.x)))] ++ bookN bk) := ⟨_, fb⟩
  clear fb
  have R1 := (R.mono tg).mono (TK.of_keep f0.keep)
  have Z1 := Z.keeps hbg
  walk_at "go"
  refine mw_comp (cl := [("book", L + 1)]) ?_ ?clos (fun _ => rfl) rfl ?names
  case clos => rfl
  case names => decide
  walk_at "go"
  refine mk_ty ?_ rfl rfl
  walk_at "go"
  refine ml_listBookG f0 R1 (f0.at_ (List.mem_append_right _ (bookN_x bk))) hh (by (first | lia | omega)) ?_
  intro l1 h2 tk2 kv kc f2 n2 kr k2
  have nt0 : ∀ q ∈ [(L + 1, cellW cl1 di1 sl1 (some (.ref bk.x)))] ++ bookN bk, ∀ vs, q.2 ≠ tupO vs := by
    intro q hq
    rcases List.mem_cons.mp hq with rfl | hq
    · exact cellW_ne _ _ _ _
    · exact bookN_ne bk q hq
  obtain ⟨g3, f3, st3, ch3, tk3⟩ := f2.rebase (news' := [(L + 1, cellW cl1 di1 sl1 (some (.ref bk.x)))] ++ bookN bk) (fun q hq => .tail _ hq) nt0
  have hl1 : g3.get? l1 = some (listOf kv.toArray kc) := by
    refine ch3 _ _ ?_ (f2.at_ (.head _))
    intro hm
    rcases List.mem_cons.mp hm with hm | hm
    · exact (f2.N _ (.head _)).2.1 hm
    · obtain ⟨q, hq, e⟩ := List.mem_map.mp hm
      exact n2 q hq e
  have B2 := f2.B
  have Z3 := Z1.keeps st3
  clear f2 f0
  refine comp_list1 (env := envOfC _ _ _ _ _) (by exact hh) (fun (i : Nat) (h : Heap) (acc : List Value) (news : List (Addr × Obj)) => ∃ (KX : List ((Addr × List Value × Nat) × (Nat × List (List Int)))) (bk2 : BookV), news = (KN (KX.map (·.1)) ++ [(L + 1, cellW cl1 di1 sl1 (some (.ref bk.x)))]) ++ bookN bk2 ∧ Apart (KN (KX.map (·.1)) ++ [(L + 1, cellW cl1 di1 sl1 (some (.ref bk.x)))]) bk2 ∧
      RelL (keptT h) acc KX ∧ KX.map (·.2) = (keptL D).take i ∧ BookR tupV h bk2 (drainN D i) ∧ bk2.x = bk.x ∧ bk2.dx = bk.dx ∧ acc.length = i) ?hJ ?hnt (fun i _ _ _ e => by obtain ⟨_, _, _, _, _, _, _, _, _, e⟩ := e; (first | lia | omega)) (by rw [kr.1, List.length_map]; (first | lia | omega)) f3 hl1 ⟨[], bk, rfl, ?ap0, RelL.nil, rfl, R1.mono (TK.of_keep k2), rfl, rfl, rfl⟩ ?hc ?hpc ?hk ?hf ?hloc ?hcel ?turn ?fin
  case hJ =>
    rintro i h h' acc news t ⟨KX, bk2, e1, e2, e3, e4, e5, e6⟩
    exact ⟨KX, bk2, e1, e2, e3.mono fun _ _ => keptT.keep t, e4, e5.mono t, e6⟩
  case hnt =>
    rintro i h acc news ⟨KX, bk2, rfl, _⟩ q hq
    rcases List.mem_append.mp hq with hq | hq
    · rcases List.mem_append.mp hq with hq | hq
      · exact KN_ne _ q hq
      · rw [List.mem_singleton] at hq; subst hq
        exact cellW_ne _ _ _ _
    · exact bookN_ne bk2 q hq
  case ap0 =>
    intro q hq
    replace hq : q ∈ [(L + 1, cellW cl1 di1 sl1 (some (.ref bk.x)))] := hq
    rw [List.mem_singleton] at hq; subst hq
    exact f3.cellsApart (fun q hq => List.mem_append_right _ hq) (.head _)
  case hc => exact fun _ => rfl
  case hpc => exact fun _ => rfl
  case hk => exact fun _ => rfl
  case hf => exact fun _ => rfl
  case hloc => exact fun _ => rfl
  case hcel => exact fun _ => rfl
  case turn =>
    rintro j v g4 C h4 tk4 m4 acc news4 hv ⟨KX, bk2, rfl, ap4, r4, e4, R4, x4, d4, l4⟩ f4 st4
    have hjl : j < D.length := by
      have := (List.getElem?_eq_some_iff.mp hv).1
      rw [kr.1, List.length_map] at this; exact this
    obtain ⟨d, hdj⟩ : ∃ d, D[j]? = some d := ⟨_, List.getElem?_eq_getElem hjl⟩
    obtain ⟨td, rfl⟩ := kr.2 j v d.1 hv (by rw [List.getElem?_map, hdj]; rfl)
    have hat : (drainN D j)[j]? = some d := by rw [drainN_at, hdj]; simp
    have hkj : keyAt (drainN D j) d.1 = some j := keyAt_nodup (by rw [drainN_fst]; exact hnd) hat
    have hsm := hlz d (List.mem_of_getElem? hdj)
    obtain ⟨ex, hex⟩ : ∃ ex, ex = (C + 1, cellV (some (.int ((d.1 : Nat) : Int) td))) :: (KN (KX.map (·.1)) ++ [(L + 1, cellW cl1 di1 sl1 (some (.ref bk.x)))]) := ⟨_, rfl⟩
    have f5 : FB w p loose mean mg mb g4 C h4 m4 (ex ++ bookN bk2) := by rw [hex]; exact f4
    clear f4
    have m1 : (C + 1, cellV (some (.int ((d.1 : Nat) : Int) td))) ∈ ex := by rw [hex]; exact .head _
    have m2 : (L + 1, cellW cl1 di1 sl1 (some (.ref bk.x))) ∈ ex := by rw [hex]; exact .tail _ (List.mem_append_right _ (.head _))
    have m1' := List.mem_append_left (bookN bk2) m1
    have m2' := List.mem_append_left (bookN bk2) m2
    have nt5 : ∀ bk3 : BookV, ∀ q ∈ ex ++ bookN bk3, ∀ vs, q.2 ≠ tupO vs := by
      intro bk3 q hq
      rcases List.mem_append.mp hq with hq | hq
      · rw [hex] at hq
        rcases List.mem_cons.mp hq with rfl | hq
        · exact cellW_ne _ _ _ _
        rcases List.mem_append.mp hq with hq | hq
        · exact KN_ne _ q hq
        · rw [List.mem_singleton] at hq; subst hq
          exact cellW_ne _ _ _ _
      · exact bookN_ne bk3 q hq
    have ap5 : Apart ex bk2 := by
      intro q hq
      rw [hex] at hq
      rcases List.mem_cons.mp hq with rfl | hq
      · exact f5.cellsApart (fun q hq => List.mem_append_right _ hq) m1'
      · exact ap4 q hq
    have Zb : ∀ {g' : Heap} {bk3 : BookV}, g4.StaysIn g' → bk3.x = bk.x → bk3.dx = bk.dx → Dxf w g' bk3 fr := by
      intro g' bk3 st e1 e2
      have := (Z3.keeps st4).keeps st
      unfold Dxf at this ⊢
      rw [e1, e2]; exact this
    refine tests_nil ?_
    rw [if_pos rfl]
    refine wpHide ?_
    intro Q1 hQ1
    walk_at "go"
    refine mw_comp (cl := [("home", C + 1), ("book", L + 1)]) ?_ ?clos2 (fun _ => rfl) rfl ?names2
    case clos2 => rfl
    case names2 => decide
    walk_at "go"
    refine mk_ty ?_ rfl rfl
    walk_at "go"
    refine book_hit S x4 f5 (fun q hq => List.mem_append_right _ hq) R4 (Zb (fun _ _ e => e) x4 d4) (by rw [drainN_len]; (first | lia | omega)) ?_ ?_ (by exact hh) hkj rfl ?_
    · show A.depth + 1 + 8 < _; exact bdk (by assumption) (by decide)
    · show A.units + 3 + 80 < _; exact bdk (by assumption) (by decide)
    intro r tk5 hr
    walk_at "go"
    have hrel := (R4.rel j r d hr hat).2
    refine ml_len f5 (List.mem_append_right _ (bookN_row hr)) (by rw [hrel.1, sizeLine_eq]; (first | lia | omega)) ?_
    intro t6 tk6
    rw [show r.vals.length = d.2.length from hrel.1]
    walk_at "go"
    refine comp_range (n := d.2.length) (env := compEnvC _ _ _ _) (by exact hh) (fun (k : Nat) (h : Heap) (acc' : List Value) (news : List (Addr × Obj)) => ∃ bk3 : BookV, news = ex ++ bookN bk3 ∧ Apart ex bk3 ∧ RelL (tupR h) acc' (popN lexL d.2 k).1 ∧ BookR tupV h bk3 ((drainN D j).modify j fun d' => (d'.1, (popN lexL d.2 k).2)) ∧ bk3.x = bk.x ∧ bk3.dx = bk.dx ∧ RelL (keptT h) acc KX)
      ?hJ3 ?hnt3 (fun k _ _ _ e => by obtain ⟨_, _, _, e, _⟩ := e; rw [e.1]; exact popN_le _ _ _) (by (first | lia | omega)) f5 ⟨bk2, rfl, ap5, RelL.nil, ?b0, x4, d4, r4⟩ ?hcell3 ?hkind3 ?hk3 ?hp3 ?hloc3 ?turn3 ?fin3
    case hJ3 =>
      rintro k h h' acc news t ⟨bk3, e1, e2, e3, e4, e5, e6, e7⟩
      exact ⟨bk3, e1, e2, e3.mono fun _ _ => tupV.keep t, e4.mono t, e5, e6, e7.mono fun _ _ => keptT.keep t⟩
    case hnt3 =>
      rintro k h acc news ⟨bk3, rfl, _⟩
      exact nt5 bk3
    case b0 =>
      show BookR tupV h4 bk2 ((drainN D j).modify j fun d' => (d'.1, d.2))
      rw [modify_self hat]; exact R4
    case hcell3 => decide
    case hkind3 => rfl
    case hk3 => exact fun _ => rfl
    case hp3 => exact fun _ => rfl
    case hloc3 => exact fun _ => rfl
    case turn3 =>
      rintro k t g6 C2 h6 tk7 m6 acc6 news6 hk ⟨bk3, rfl, ap6, r6, R6, x6, d6, r6k⟩ f6 st6
      have m1'' := List.mem_append_left (bookN bk3) m1
      have m2'' := List.mem_append_left (bookN bk3) m2
      refine tests_nil ?_
      rw [if_pos rfl]
      refine wpHide ?_
      intro Q3 hQ3
      walk_at "go"
      have key6 : keyAt ((drainN D j).modify j fun d' => (d'.1, (popN lexL d.2 k).2)) d.1 = some j := by
        rw [keyAt_modify (F := fun _ => (popN lexL d.2 k).2)]; exact hkj
      have hat6 : ((drainN D j).modify j fun d' => (d'.1, (popN lexL d.2 k).2))[j]? = some (d.1, (popN lexL d.2 k).2) := by rw [List.getElem?_modify, hat]; simp
      refine book_hit S x6 f6 (fun q hq => List.mem_append_right _ hq) R6 (Zb st6 x6 d6) (by rw [List.length_modify, drainN_len]; (first | lia | omega)) ?_ ?_ (by exact hh) key6 rfl ?_
      · show A.depth + 1 + 8 < _; exact bdk (by assumption) (by decide)
      · show A.units + 3 + 80 < _; exact bdk (by assumption) (by decide)
      intro r7 tk8 hr7
      walk_at "go"
      have hrel7 := (R6.rel j r7 _ hr7 hat6).2
      have hpl := popN_len lexL d.2 k (by (first | lia | omega))
      obtain ⟨y, ks, hpp, hpl2⟩ := hpop_some lexL (ks := (popN lexL d.2 k).2) (by intro e; rw [e] at hpl; simp at hpl; (first | lia | omega))
      have hmr : (r7.addr, r7.lst) ∈ ex ++ bookN bk3 := List.mem_append_right _ (bookN_row hr7)
      refine heappop_spec tupV f6.B f6.keep (f6.at_ hmr) (f6.new_ hmr) hrel7 hpp (by show (popN lexL d.2 k).2.length ≤ _; (first | lia | omega)) ?_ ?_ ?_
      · show A.depth + 1 + 2 < _; exact bdk (by assumption) (by decide)
      · show A.units + 3 + 40 < _; exact bdk (by assumption) (by decide)
      intro h9 tk9 vs9 c9 v9 C9 hl9 R9 ry9
      obtain ⟨f10, ap10, R10, t10⟩ := book_put f6 ap6 R6 hr7 C9 hl9 R9
      have pn : popN lexL d.2 (k + 1) = ((popN lexL d.2 k).1 ++ [y], ks) := by simp only [popN, hpp]
      refine hQ3 _ _ ⟨_, _, _, _, rfl, f10, bk3.put j vs9 c9, rfl, ap10, ?_, ?_, x6, d6, r6k.mono fun _ _ => keptT.keep t10⟩
      · rw [pn]; exact (r6.mono fun _ _ => tupV.keep t10).push ry9
      · rw [pn]
        rw [modify_twice] at R10
        exact R10
    case fin3 =>
      rintro Pl h8 tk8 acc8 c8 news8 ⟨bk3, rfl, ap8, r8, R8, x8, d8, r8k⟩ f8 n8
      walk_at "go"
      refine ml_tupK f8 (by simp) ?_
      intro T h9 f9 n9 k9
      have hT := f9.at_ (.head _)
      have t9 : TK h8 h9 := TK.of_keep k9
      have f10 := f9.sub (news' := (C + 1, cellV (some (.int ((d.1 : Nat) : Int) td))) :: ((KN ((KX ++ [((Pl, acc8, c8), (d.1, (popN lexL d.2 d.2.length).1))]).map (·.1)) ++ [(L + 1, cellW cl1 di1 sl1 (some (.ref bk.x)))]) ++ bookN bk3)) (fun q hq => by
        rw [List.map_append, List.map_singleton, KN_snoc] at hq
        rcases List.mem_cons.mp hq with rfl | hq
        · exact .tail _ (.tail _ (List.mem_append_left _ m1))
        rcases List.mem_append.mp hq with hq | hq
        · rcases List.mem_append.mp hq with hq | hq
          · rcases List.mem_append.mp hq with hq | hq
            · refine .tail _ (.tail _ (List.mem_append_left _ ?_))
              rw [hex]
              exact .tail _ (List.mem_append_left _ hq)
            · rw [List.mem_singleton] at hq; subst hq
              exact .tail _ (.head _)
          · rw [List.mem_singleton] at hq; subst hq
            exact .tail _ (.tail _ (List.mem_append_left _ m2))
        · exact .tail _ (.tail _ (List.mem_append_right _ hq)))
      refine hQ1 _ _ ⟨_, _, _, _, rfl, f10, fun q hq => ?_, KX ++ [((Pl, acc8, c8), (d.1, (popN lexL d.2 d.2.length).1))], bk3, rfl, ?_, ?_, ?_, ?_, x8, d8, by simp [l4]⟩
      · refine (f10.ne2 (.head _) (.tail _ hq) ?_).symm
        intro e
        rcases List.mem_append.mp hq with hq | hq
        · rcases List.mem_append.mp hq with hq | hq
          · obtain ⟨k, _, rfl⟩ := List.mem_map.mp hq
            exact lst_cell e.symm
          · rw [List.mem_singleton] at hq; subst hq
            cases e
        · rcases List.mem_cons.mp hq with rfl | hq
          · cases e
          · obtain ⟨k, _, rfl⟩ := List.mem_map.mp hq
            exact lst_cell e.symm
      · intro q hq q' hq'
        rw [List.map_append, List.map_singleton, KN_snoc] at hq
        rcases List.mem_append.mp hq with hq | hq
        · rcases List.mem_append.mp hq with hq | hq
          · exact ap8 q (by rw [hex]; exact .tail _ (List.mem_append_left _ hq)) q' hq'
          · rw [List.mem_singleton] at hq; subst hq
            exact fun e => n8 q' (List.mem_append_right _ hq') e.symm
        · rw [List.mem_singleton] at hq; subst hq
          exact ap8 _ m2 q' hq'
      · exact (r8k.mono fun _ _ => keptT.keep t9).push ⟨T, td, rfl, hT, r8.mono fun _ _ => tupV.keep t9⟩
      · rw [List.map_append, e4, List.take_add_one, keptL_at hdj]; rfl
      · have := R8.mono t9
        show BookR tupV h9 bk3 ((drainN D j).modify j fun d' => (d'.1, (popN lexL d'.2 d'.2.length).2))
        rw [modify_eq hat (fun l => (popN lexL l l.length).2)]
        exact this
  case fin =>
    rintro Dl h4 tk4 acc c4 news4 ⟨KX, bk2, rfl, ap4, r4, e4, R4, x4, d4, l4⟩ f4 n4
    walk_at "go"
    have f5 := f4.back st3 B2
    have el : kv.length = D.length := by rw [kr.1, List.length_map]
    have ek : (keptL D).length = D.length := by unfold keptL; rw [List.length_map]
    rw [el, ← ek, List.take_length] at e4
    refine q h4 _ Dl acc c4 KX (ch_of hg f5) (fun q hq => ?_) r4 e4
    have hq' : q ∈ (Dl, listOf acc.toArray c4) :: (KN (KX.map (·.1)) ++ [(L + 1, cellW cl1 di1 sl1 (some (.ref bk.x)))] ++ bookN bk2) := by
      rcases List.mem_cons.mp hq with rfl | hq
      · exact .head _
      · exact .tail _ (List.mem_append_left _ (List.mem_append_left _ hq))
    have z := f5.N q hq'
    refine ⟨z.1, ?_⟩
    by_cases hm : q.1 ∈ (bookN bk).map (·.1)
    · exact .inl hm
    · right
      cases e : h.get? q.1 with
      | none => rfl
      | some o =>
        have := hg _ _ hm e
        rw [z.2.2] at this; cases this
end
end
section
section
variable {prog : Program} {w : World} {A : Around} {E : Value → Shared → Prop} {s : Shared}
theorem list_sort01 {a : Addr} {vs : List Value} {n : Nat} {P : PySem.Fin → Shared → Prop} (ho : s.heap.get? a = some (seqObj "list" vs.toArray n)) (hlt : vs.length < 2)
    (h : P (.done (.ret .none)) { s with heap := sortedHeap s.heap a vs ((arrOf (SortSt.mk' general' (vs.toArray.zip vs.toArray) #[] 7 none)).map (·.2)) }) :
    wpAny (model prog w) A (Builtin.«list.sort» ⟨[.ref a], []⟩) P E s := by
  rw [list_sort_plain]
  have ha : a < s.heap.objs.size := Heap.lt_size ho
  refine wpAny_bind (listItems_at ho rfl ?_)
  refine wpAny_bind (listUpdate_at ho rfl ?_)
  obtain ⟨e1, ho1⟩ : ∃ e1, (s.heap.update a (Obj.mapSeq fun _ => #[])).get? a = some (seqObj "list" #[] e1) := ⟨_, get?_update_seq ho (fun _ => #[])⟩
  refine wpAny_bind (seqEpoch_at ho1 rfl ?_)
  refine wpAny_bind (wpAny_newTuple ?_)
  refine wpAny_bind (wpAny_newList ?_)
  refine wpAny_holding ?_
  have ho6 : (((s.heap.update a (Obj.mapSeq fun _ => #[])).push (seqObj "tuple" vs.toArray 0)).push (seqObj "list" #[] 0)).get? a = some (seqObj "list" #[] e1) := by
    rw [Heap.get?_push_ne _ _ _ (by rw [size_push', Heap.size_update]; exact Nat.ne_of_lt (Nat.lt_succ_of_lt ha)), Heap.get?_push_ne _ _ _ (by rw [Heap.size_update]; exact Nat.ne_of_lt ha)]
    exact ho1
  show wpAny (model prog w) A _ P E { s with heap := ((s.heap.update a (Obj.mapSeq fun _ => #[])).push (seqObj "tuple" vs.toArray 0)).push (seqObj "list" #[] 0) }
  dsimp only
  have hsz : vs.toArray.size = vs.length := by simp
  have h2 : vs.toArray.size < 2 := by (first | lia | omega)
  rw [if_pos h2, if_pos h2]
  refine wpAny_bind (wpAny_pure ?_)
  rw [StateT.run_pure]
  refine wpAny_bind (wpAny_pure ?_)
  dsimp only
  refine wpAny_bind (seqEpoch_at ho6 rfl ?_)
  refine wpAny_bind (listUpdate_at ho6 rfl ?_ (hsz2 := by rw [Array.size_map]; show (pairsOf vs).size ≤ _; rw [pairsOf_size, sizeLine_eq]; (first | lia | omega)))
  simp only [bne_self_eq_false, Bool.false_eq_true, if_false]
  exact wpAny_pure h
theorem sorted01 {l : Addr} {vs : List Value} {Q : Value → Shared → Prop} (hl : s.heap.IsList l vs.toArray) (hlt : vs.length < 2)
    (h : Q (.ref (s.heap.objs.size + 1)) { s with heap := sortedAll s.heap vs vs.toArray }) :
    wpAny (model prog w) A (call (.builtin "sorted") [.ref l]) Q E s := by
  have ea : (arrOf (SortSt.mk' general' (vs.toArray.zip vs.toArray) #[] 7 none)).map (·.2) = vs.toArray := by
    show (vs.toArray.zip vs.toArray).map (·.2) = vs.toArray
    apply Array.toList_inj.mp
    rw [Array.toList_map, Array.toList_zip]
    exact List.map_snd_zip (Nat.le_refl _)
  refine Calls.call_function_entry kind_sorted plain_sorted entry_sorted (args_sorted1 _) ?_
  unfold Builtin.«sorted»
  refine wpAny_bind (m := PySem.checkCount "sorted" 1 1 _) (wpAny_pure ?_)
  refine wpAny_bind (collect_list hl ?_ (by rw [sizeLine_eq]; (first | lia | omega)))
  refine wpAny_bind (wpAny_newList ?_ (by rw [sizeLine_eq]; (first | lia | omega)))
  have hsz : ((s.heap.push (seqObj "list" #[] 0)).update s.heap.objs.size (Obj.mapSeq (· ++ vs.toArray))).objs.size = s.heap.objs.size + 1 := by
    rw [Heap.size_update, size_push']
  have hoL : (((s.heap.push (seqObj "list" #[] 0)).update s.heap.objs.size (Obj.mapSeq (· ++ vs.toArray))).push (seqObj "list" vs.toArray 0)).get? (s.heap.objs.size + 1) = some (seqObj "list" vs.toArray 0) := by
    rw [← hsz]; exact Heap.get?_push_size _ rfl
  show wpAny _ _ _ _ _ { s with heap := ((s.heap.push (seqObj "list" #[] 0)).update s.heap.objs.size (Obj.mapSeq (· ++ vs.toArray))).push (seqObj "list" vs.toArray 0) }
  rw [hsz]
  refine wpAny_bind (wpAny_holding (wpAny_call_entry slot_list_sort ⟨_, hoL, rfl⟩ entry_list_sort (list_sort01 hoL hlt ⟨_, rfl, ?_⟩) (args_list_sort _)))
  rw [ea]
  exact wpAny_pure ⟨_, rfl, h⟩
end
section
variable {prog : Program} {w : World} {A : Around} {E : Value → Shared → Prop} {p : Program} {loose : List Str} {mean : ExcName → Option Value} {mg mb : Str → Option Value} {g h : Heap} {ge : Array GenState} {dr : Drawn} {tk : Nat} {os : OsState}
  {L : Addr} {m : Str → Option Value} {news : List (Addr × Obj)} {Q : Value → Shared → Prop}
/-- sorted, over tuples of whole numbers -/
theorem ml_sortedT {l : Addr} {vs : List Value} {ks : List (List Int)} {c : Nat} (f : FB w p loose mean mg mb g L h m news) (hl : h.get? l = some (listOf vs.toArray c)) (hr : RelL (tupR h) vs ks) (h64 : ks.length < 64) (hne : ∀ k ∈ ks, k ≠ [])
    (q : ∀ l' h' vs' ks' c', FB w p loose mean mg mb g L h' m ((l', listOf vs'.toArray c') :: news) → (∀ q ∈ news, q.1 ≠ l') → RelL (tupR h') vs' ks' → ks'.Perm ks → ks'.Pairwise (fun a b => lexL b a = false) → TK h h' → Q (.ref l') ⟨h', ge, dr, tk, os⟩) :
    wpAny (model prog w) A (call (.builtin "sorted") [.ref l]) Q E ⟨h, ge, dr, tk, os⟩ := by
  by_cases h2 : 2 ≤ ks.length
  · exact ml_sortedT2 f hl hr h2 h64 hne q
  · refine sorted01 (s := ⟨h, ge, dr, tk, os⟩) (isList_of hl) (by rw [hr.1]; (first | lia | omega)) ?_
    obtain ⟨e, he⟩ := sortedAll_at h vs vs.toArray
    obtain ⟨f', n'⟩ := f.grow (fun _ _ => sortedAll_old) (Heap.get?_none_of_le (Nat.le_succ _)) he
    refine q _ _ vs ks e f' n' (hr.mono fun _ _ => tupV.keep (TK.of_keep fun _ _ => sortedAll_old)) (List.Perm.refl _) ?_ (TK.of_keep fun _ _ => sortedAll_old)
    match ks, h2 with
    | [], _ => exact .nil
    | [k], _ => exact List.pairwise_singleton _ _
    | _ :: _ :: _, h2 => simp at h2
end
end
section
/-- where the place of a settled tuple lies -/
theorem tri_tup {h : Heap} {v : Value} {s0 : Nat × Nat × Nat} (r : tupR h v (tri s0)) : ∃ P y1 y2 y3, v = .ref P ∧ h.get? P = some (tupO [.int ((s0.1 : Nat) : Int) y1, .int ((s0.2.1 : Nat) : Int) y2, .int ((s0.2.2 : Nat) : Int) y3]) := by
  obtain ⟨P2, ys, rfl, hP2, hys⟩ := r
  unfold tri at hys
  cases hys with
  | cons _ y1 h => cases h with
    | cons _ y2 h => cases h with
      | cons _ y3 h => cases h; exact ⟨P2, y1, y2, y3, rfl, hP2⟩
noncomputable def SortedK (ws : List Way) (R : List Nat) (X : List (Nat × List (List Int))) : Prop := ∀ x ∈ X, x.2.Perm (if x.1 ∈ R then [] else Wof ws x.1) ∧ x.2.Pairwise (fun a b => lexL b a = false)
noncomputable def selW (ws : List Way) (u : Nat) (R : List Nat) : List (List Int) := (ws.filter fun w => decide (w.1 = u) && !decide (u ∈ R)).map pairW
theorem selW_eq (ws : List Way) (u : Nat) (R : List Nat) : selW ws u R = if u ∈ R then [] else Wof ws u := by
  unfold selW Wof
  by_cases h : u ∈ R
  · rw [if_pos h]
    have : (ws.filter fun w => decide (w.1 = u) && !decide (u ∈ R)) = [] := by
      rw [List.filter_eq_nil_iff]
      intro a _
      simp [h]
    rw [this]; rfl
  · rw [if_neg h]
    congr 2
    funext w
    simp [h]
    rfl
theorem selW_snoc (ws : List Way) (w : Way) (u : Nat) (R : List Nat) : selW (ws ++ [w]) u R = selW ws u R ++ (if w.1 = u ∧ u ∉ R then [pairW w] else []) := by
  unfold selW
  rw [List.filter_append, List.map_append]
  congr 1
  by_cases e : w.1 = u ∧ u ∉ R
  · rw [if_pos e, List.filter_cons_of_pos (by simp [e.1, e.2])]; rfl
  · rw [if_neg e, List.filter_cons_of_neg (by simp only [Bool.and_eq_true, decide_eq_true_eq, Bool.not_eq_true', decide_eq_false_iff_not]; exact e)]; rfl
theorem selW_len (ws : List Way) (u : Nat) (R : List Nat) : (selW ws u R).length ≤ ws.length := by
  unfold selW
  rw [List.length_map]
  exact List.length_filter_le _ _
section
variable {prog : Program} {w : World} {A : Around} {E : Value → Shared → Prop} {p : Program} {loose : List Str} {mean : ExcName → Option Value} {mg mb : Str → Option Value} {b h : Heap} {ge : Array GenState} {dr : Drawn} {tk : Nat} {os : OsState} {Q : Value → Shared → Prop}
/-- `_law_due_kept` -/
theorem duekept_spec (B : Base w p loose mean mg mb b) (hb : b.StaysIn h) {ws : List Way} (G : GoodWays ws) (hws : ws.length ≤ 40) {wl : Addr} {wv : List Value} {wc : Nat} (hwl : b.get? wl = some (listOf wv.toArray wc)) (hwr : RelL (tupR b) wv (ws.map wayT))
    {ul : Addr} {uv : List Value} {uc : Nat} {T : List (Nat × Nat × Nat)} (hul : b.get? ul = some (listOf uv.toArray uc)) (hur : RelL (tupR b) uv (T.map tri)) (hT : T.length ≤ 7) {fr : Bool}
    (hd : A.depth + 40 < recursionLimit) (hu : A.units + 400 < cLine) (hh : A.handled = none)
    (q : ∀ h' tk' l vs c KX, (∀ a o, h.get? a = some o → h'.get? a = some o) → (∀ q ∈ (l, listOf vs.toArray c) :: KN (KX.map (·.1)), h'.get? q.1 = some q.2 ∧ h.get? q.1 = none) → RelL (keptT h') vs KX → (KX.map (·.2)).map (·.1) = keysOf fr ws T → SortedK ws (T.map (fun s : Nat × Nat × Nat => s.2.2)) (KX.map (·.2)) → Q (.ref l) ⟨h', ge, dr, tk', os⟩) :
    wpAny (model prog w) A (call (.ref 136) [.ref wl, .ref ul, .bool fr]) Q E ⟨h, ge, dr, tk, os⟩ := by
  have BX := B.X
  refine' mk_enterC (news := []) (binds := [("ways", .ref wl), ("due", .ref ul), ("frozen", .bool fr)]) B hb ?k0 ?k6 ?k7 (by (first | lia | omega)) ?k9 ?kB ?kN ?_ ?c2 ?c3 ?c4
  case k0 => exact fun q hq => by cases hq
  case k6 => k_is
  case k7 => k_is
  case k9 => exact fun _ => BindsTo.of_eq rfl
  case kB =>
    intro n y hy
    rcases List.mem_cons.mp hy with rfl | hy
    · exact .inr ⟨rfl, rfl⟩
    rcases List.mem_cons.mp hy with rfl | hy
    · exact .inl rfl
    · rw [List.mem_singleton] at hy; subst hy
      exact .inl rfl
  case kN => decide
  case c2 => exact rfl
  case c3 => exact rfl
  case c4 => exact rfl
  intro g L h₁ tk₁ cells fb hcs hg tg hbg
  obtain ⟨a3, b3, d3, a2, b2, d2, a1, b1, d1, rfl⟩ := cells_three hcs
  clear BX
  have X := fb.B.X
  obtain ⟨m0, f0, mu0, mf0⟩ : ∃ m : Str → Option Value, FB w p loose mean mg mb g L h₁ m [(L + 1 + 1 + 1, cellW a3 b3 d3 none), (L + 1 + 1, cellW a2 b2 d2 none), (L + 1, cellW a1 b1 d1 (some (.ref wl)))] ∧ m "due" = some (.ref ul) ∧ m "frozen" = some (.bool fr) := ⟨_, fb, rfl, rfl⟩
  clear fb
  have hgw := hbg _ _ hwl
  have hgu := hbg _ _ hul
  have hgr : RelL (tupR g) wv (ws.map wayT) := hwr.mono fun _ _ => tupV.keep (TK.of_keep hbg)
  have hgur : RelL (tupR g) uv (T.map tri) := hur.mono fun _ _ => tupV.keep (TK.of_keep hbg)
  have n12 : @Ne Nat (L + 1 + 1) (L + 1) := by (first | lia | omega)
  have n13 : @Ne Nat (L + 1 + 1 + 1) (L + 1) := by (first | lia | omega)
  have n23 : @Ne Nat (L + 1 + 1 + 1) (L + 1 + 1) := by (first | lia | omega)
  have cne : ∀ v1 v2 v3, ∀ q ∈ [(L + 1 + 1 + 1, cellW a3 b3 d3 v1), (L + 1 + 1, cellW a2 b2 d2 v2), (L + 1, cellW a1 b1 d1 v3)], ∀ vs, q.2 ≠ tupO vs := by
    intro v1 v2 v3 q hq
    rcases List.mem_cons.mp hq with rfl | hq
    · exact cellW_ne _ _ _ _
    rcases List.mem_cons.mp hq with rfl | hq
    · exact cellW_ne _ _ _ _
    · rw [List.mem_singleton] at hq; subst hq; exact cellW_ne _ _ _ _
  walk_at "go"
  refine ml_newK f0 (by simp) ?_
  intro Hl h2 f2 n2 k2
  refine mw_stcG (news' := [(Hl, listOf ([] : List Value).toArray 0), (L + 1 + 1 + 1, cellW a3 b3 d3 none), (L + 1 + 1, cellW a2 b2 d2 (some (.ref Hl))), (L + 1, cellW a1 b1 d1 (some (.ref wl)))]) f2 rfl (.tail _ (.tail _ (.head _))) ?_ ?_ rfl rfl
  · intro q hq
    rcases List.mem_cons.mp hq with rfl | hq
    · exact .inl ⟨.head _, (n2 _ (.tail _ (.head _))).symm⟩
    rcases List.mem_cons.mp hq with rfl | hq
    · exact .inl ⟨.tail _ (.head _), n23⟩
    rcases List.mem_cons.mp hq with rfl | hq
    · exact .inr rfl
    · rw [List.mem_singleton] at hq; subst hq
      exact .inl ⟨.tail _ (.tail _ (.tail _ (.head _))), n12.symm⟩
  intro h3 f3 t3
  have nH1 : @Ne Nat Hl (L + 1) := (n2 _ (.tail _ (.tail _ (.head _)))).symm
  have nH2 : @Ne Nat Hl (L + 1 + 1) := (n2 _ (.tail _ (.head _))).symm
  have nH3 : @Ne Nat Hl (L + 1 + 1 + 1) := (n2 _ (.head _)).symm
  clear f2 f0
  walk_at "go"
  refine mw_for ?_ (fun _ => rfl)
  walk_at "go"
  have hnt1 : ∀ (hv : List Value) (hc : Nat), ∀ q ∈ [(Hl, listOf hv.toArray hc), (L + 1 + 1 + 1, cellW a3 b3 d3 none), (L + 1 + 1, cellW a2 b2 d2 (some (.ref Hl))), (L + 1, cellW a1 b1 d1 (some (.ref wl)))], ∀ vs, q.2 ≠ tupO vs := by
    intro hv hc q hq
    rcases List.mem_cons.mp hq with rfl | hq
    · exact lst_ne _ _
    · exact cne _ _ _ q hq
  refine for_list (env := envOfC _ _ _ _ _) (by exact hh) (fun (i : Nat) (h : Heap) (m : Str → Option Value) (news : List (Addr × Obj)) => ∃ (hv : List Value) (hc : Nat), news = [(Hl, listOf hv.toArray hc), (L + 1 + 1 + 1, cellW a3 b3 d3 none), (L + 1 + 1, cellW a2 b2 d2 (some (.ref Hl))), (L + 1, cellW a1 b1 d1 (some (.ref wl)))] ∧ RelL (natV.rel h) hv (homesOf (ws.take i)) ∧ m "due" = some (.ref ul) ∧ m "frozen" = some (.bool fr))
    ?hJ ?hnt f3 hgw ⟨[], 0, rfl, RelL.nil, mu0, mf0⟩ rfl rfl ?turn ?fin
  case hJ =>
    rintro i h h' m news t ⟨hv, hc, e1, r1, e2⟩
    exact ⟨hv, hc, e1, r1.mono fun _ _ => natV.keep t, e2⟩
  case hnt =>
    rintro i h m news ⟨hv, hc, rfl, _⟩
    exact hnt1 _ _
  case turn =>
    rintro i v g4 h4 tk4 m4 news4 hv ⟨hv4, hc4, rfl, r4, mu4, mf4⟩ f4 st4
    refine wpHide ?_
    intro Q1 hQ1
    have hil : i < ws.length := by
      have := (List.getElem?_eq_some_iff.mp hv).1
      rw [hgr.1, List.length_map] at this; exact this
    obtain ⟨way, hw⟩ : ∃ way, ws[i]? = some way := ⟨_, List.getElem?_eq_getElem hil⟩
    obtain ⟨P, t1, t2, t3', rfl, hP⟩ := way_tup (hgr.2 i v (wayT way) hv (by rw [List.getElem?_map, hw]; rfl))
    have etk : ws.take (i + 1) = ws.take i ++ [way] := by rw [List.take_add_one, hw]; rfl
    have hml := homes_len (ws.take i)
    have hP4 := f4.keep _ _ (st4 _ _ hP)
    walk_at "go"
    refine ml_tupItem (k := 0) hP4 rfl (by (first | lia | omega)) ?_ rfl (fun _ => rfl)
    walk_at "go"
    refine ml_notin (f4.at_ (.head _)) r4 ?_
    walk_at "go"
    by_cases hm : way.1 ∈ homesOf (ws.take i)
    · rw [if_neg (by simpa using hm)]
      walk_at "go"
      refine hQ1 _ _ ⟨_, _, _, _, rfl, f4, hv4, hc4, rfl, ?_, mu4, mf4⟩
      rw [etk, homes_snoc, if_pos hm]; exact r4
    · rw [if_pos (by simpa using hm)]
      walk_at "go"
      refine ml_meth f4 (.head _) PySem.F.slot_list_append PySem.F.type_list_append ?_
      walk_at "go"
      refine ml_tupItem (k := 0) hP4 rfl (by (first | lia | omega)) ?_ rfl (fun _ => rfl)
      walk_at "go"
      refine ml_pushG (news' := [(Hl, listOf (hv4 ++ [Value.int ((way.1 : Nat) : Int) t1]).toArray (hc4 + 1)), (L + 1 + 1 + 1, cellW a3 b3 d3 none), (L + 1 + 1, cellW a2 b2 d2 (some (.ref Hl))), (L + 1, cellW a1 b1 d1 (some (.ref wl)))]) f4 (.head _) (fun q hq => ?_) (by rw [r4.1, sizeLine_eq]; rw [List.length_take] at hml; (first | lia | omega)) ?_
      · rcases List.mem_cons.mp hq with rfl | hq
        · exact .inr rfl
        refine .inl ⟨.tail _ hq, ?_⟩
        rcases List.mem_cons.mp hq with rfl | hq
        · exact nH3.symm
        rcases List.mem_cons.mp hq with rfl | hq
        · exact nH2.symm
        · rw [List.mem_singleton] at hq; subst hq
          exact nH1.symm
      intro h5 f5 t5
      walk_at "go"
      refine hQ1 _ _ ⟨_, _, _, _, rfl, f5, _, _, rfl, ?_, mu4, mf4⟩
      rw [etk, homes_snoc, if_neg hm]
      exact (r4.mono fun _ _ => natV.keep t5).push ⟨t1, rfl⟩
  case fin =>
    rintro h4 tk4 m4 news4 ⟨hv4, hc4, rfl, r4, mu4, mf4⟩ f4
    dsimp only
    clear f3
    have el : wv.length = ws.length := by rw [hgr.1, List.length_map]
    rw [el, List.take_length] at r4
    have hml := homes_len ws
    walk_at "go"
    refine mw_comp (cl := []) ?_ ?clos (fun _ => rfl) rfl ?names
    case clos => rfl
    case names => decide
    walk_at "go"
    refine comp_list (env := envOfC _ _ _ _ _) (by exact hh) (fun (i : Nat) (h : Heap) (acc : List Value) (news : List (Addr × Obj)) => RelL (natV.rel h) acc ((T.take i).map (fun s : Nat × Nat × Nat => s.2.2)) ∧ news = [(Hl, listOf hv4.toArray hc4), (L + 1 + 1 + 1, cellW a3 b3 d3 none), (L + 1 + 1, cellW a2 b2 d2 (some (.ref Hl))), (L + 1, cellW a1 b1 d1 (some (.ref wl)))])
      (fun _ _ _ _ _ t e => ⟨e.1.mono fun _ _ => natV.keep t, e.2⟩) (fun _ _ _ _ e => e.2 ▸ hnt1 _ _) (fun i _ _ _ e => by rw [e.1.1]; simp; (first | lia | omega)) (by rw [hgur.1, List.length_map]; (first | lia | omega)) f4 hgu ⟨RelL.nil, rfl⟩ ?hcell2 ?hkind2 ?hk2 ?hp2 ?hloc2 ?turn2 ?fin2
    case hcell2 => decide
    case hkind2 => rfl
    case hk2 => exact fun _ => rfl
    case hp2 => exact fun _ => rfl
    case hloc2 => exact fun _ => rfl
    case turn2 =>
      rintro i w0 g8 C2 h24 tk24 m24 acc24 news24 hv ⟨i24, rfl⟩ f24 st24
      obtain ⟨s0, hs0⟩ : ∃ s0, T[i]? = some s0 := ⟨_, List.getElem?_eq_getElem (by have := (List.getElem?_eq_some_iff.mp hv).1; rw [hgur.1, List.length_map] at this; exact this)⟩
      obtain ⟨P2, y1, y2, y3, rfl, hP2⟩ := tri_tup (hgur.2 i w0 (tri s0) hv (by rw [List.getElem?_map, hs0]; rfl))
      refine tests_nil ?_
      rw [if_pos rfl]
      walk_at "go"
      refine ml_tupItem (k := 2) (f24.keep _ _ (st24 _ _ hP2)) rfl (by (first | lia | omega)) ?_ rfl (fun _ => rfl)
      walk_at "go"
      refine ⟨_, _, _, _, rfl, f24, ?_, rfl⟩
      rw [List.take_add_one, hs0]
      simp only [Option.toList_some, List.map_append, List.map_cons, List.map_nil]
      exact i24.push ⟨y3, rfl⟩
    case fin2 =>
      rintro Rl h5 tk5 acc5 c5 news5 ⟨i5, rfl⟩ f5 n5
      have eT : uv.length = T.length := by rw [hgur.1, List.length_map]
      rw [eT, List.take_length] at i5
      clear f4
      refine mw_stcG (news' := [(Rl, listOf acc5.toArray c5), (Hl, listOf hv4.toArray hc4), (L + 1 + 1 + 1, cellW a3 b3 d3 (some (.ref Rl))), (L + 1 + 1, cellW a2 b2 d2 (some (.ref Hl))), (L + 1, cellW a1 b1 d1 (some (.ref wl)))]) f5 rfl (.tail _ (.tail _ (.head _))) ?_ ?_ rfl rfl
      · intro q hq
        rcases List.mem_cons.mp hq with rfl | hq
        · exact .inl ⟨.head _, (n5 _ (.tail _ (.head _))).symm⟩
        rcases List.mem_cons.mp hq with rfl | hq
        · exact .inl ⟨.tail _ (.head _), nH3⟩
        rcases List.mem_cons.mp hq with rfl | hq
        · exact .inr rfl
        rcases List.mem_cons.mp hq with rfl | hq
        · exact .inl ⟨.tail _ (.tail _ (.tail _ (.head _))), n23.symm⟩
        · rw [List.mem_singleton] at hq; subst hq
          exact .inl ⟨.tail _ (.tail _ (.tail _ (.tail _ (.head _)))), n13.symm⟩
      intro h6 f6 t6
      have nt6 := cne (some (.ref Rl)) (some (.ref Hl)) (some (.ref wl))
      obtain ⟨g7, f7, st7, ch7, t7⟩ := f6.rebase (news' := [(L + 1 + 1 + 1, cellW a3 b3 d3 (some (.ref Rl))), (L + 1 + 1, cellW a2 b2 d2 (some (.ref Hl))), (L + 1, cellW a1 b1 d1 (some (.ref wl)))]) (fun q hq => .tail _ (.tail _ hq)) nt6
      have hRl : g7.get? Rl = some (listOf acc5.toArray c5) := by
        refine ch7 _ _ ?_ (f6.at_ (.head _))
        intro hm
        rcases List.mem_cons.mp hm with hm | hm
        · exact (f6.N _ (.head _)).2.1 hm
        · simp only [List.map_cons, List.map_nil, List.mem_cons, List.not_mem_nil, or_false] at hm
          rcases hm with hm | hm | hm
          · exact n5 _ (.tail _ (.head _)) hm.symm
          · exact n5 _ (.tail _ (.tail _ (.head _))) hm.symm
          · exact n5 _ (.tail _ (.tail _ (.tail _ (.head _)))) hm.symm
      have hHl : g7.get? Hl = some (listOf hv4.toArray hc4) := by
        refine ch7 _ _ ?_ (f6.at_ (.tail _ (.head _)))
        intro hm
        rcases List.mem_cons.mp hm with hm | hm
        · exact (f6.N _ (.tail _ (.head _))).2.1 hm
        · simp only [List.map_cons, List.map_nil, List.mem_cons, List.not_mem_nil, or_false] at hm
          rcases hm with hm | hm | hm
          · exact nH3 hm
          · exact nH2 hm
          · exact nH1 hm
      have B6 := f6.B
      have hgr7 : RelL (tupR g7) wv (ws.map wayT) := hgr.mono fun _ _ => tupV.keep (TK.of_keep st7)
      have hgw7 := st7 _ _ hgw
      have rR : ∀ h, RelL (natV.rel h) acc5 (T.map (fun s : Nat × Nat × Nat => s.2.2)) := fun h => i5
      have rH : ∀ h, RelL (natV.rel h) hv4 (homesOf ws) := fun h => r4
      clear f6 f5
      walk_at "go"
      refine mw_asgComp (cl := [("ways", L + 1), ("reached", L + 1 + 1 + 1)]) ?_ ?clos3 (fun _ => rfl) rfl ?names3 rfl
      case clos3 => rfl
      case names3 => decide
      walk_at "go"
      have cni : ∀ q ∈ [(L + 1 + 1 + 1, cellW a3 b3 d3 (some (.ref Rl))), (L + 1 + 1, cellW a2 b2 d2 (some (.ref Hl))), (L + 1, cellW a1 b1 d1 (some (.ref wl)))], ∀ x u, cellV (some (.int x u)) ≠ q.2 := by
        intro q hq x u e
        rcases List.mem_cons.mp hq with rfl | hq
        · cases e
        rcases List.mem_cons.mp hq with rfl | hq
        · cases e
        · rw [List.mem_singleton] at hq; subst hq; cases e
      generalize hN : [(L + 1 + 1 + 1, cellW a3 b3 d3 (some (.ref Rl))), (L + 1 + 1, cellW a2 b2 d2 (some (.ref Hl))), (L + 1, cellW a1 b1 d1 (some (.ref wl)))] = N at f7 nt6 cni
      have mR : (L + 1 + 1 + 1, cellW a3 b3 d3 (some (.ref Rl))) ∈ N := by rw [← hN]; exact .head _
      have mH : (L + 1 + 1, cellW a2 b2 d2 (some (.ref Hl))) ∈ N := by rw [← hN]; exact .tail _ (.head _)
      have mW : (L + 1, cellW a1 b1 d1 (some (.ref wl))) ∈ N := by rw [← hN]; exact .tail _ (.tail _ (.head _))
      clear hN
      have ntK : ∀ K : List (Addr × List Value × Nat), ∀ q ∈ KN K ++ N, ∀ vs, q.2 ≠ tupO vs := by
        intro K q hq
        rcases List.mem_append.mp hq with hq | hq
        · exact KN_ne _ q hq
        · exact nt6 q hq
      refine comp_list1R (env := envOfC _ _ _ _ _) (by exact hh) (fun (i : Nat) (h : Heap) (acc : List Value) (news : List (Addr × Obj)) => ∃ (KX : List ((Addr × List Value × Nat) × (Nat × List (List Int)))), news = KN (KX.map (·.1)) ++ N ∧ RelL (keptT h) acc KX ∧ (KX.map (·.2)).map (·.1) = (homesOf ws).take i ∧ SortedK ws (T.map (fun s : Nat × Nat × Nat => s.2.2)) (KX.map (·.2)) ∧ acc.length = i)
        ?hJ3 ?hnt3 (fun i _ _ _ e => by obtain ⟨_, _, _, _, _, e⟩ := e; (first | lia | omega)) (by rw [(rH h6).1]; (first | lia | omega)) f7 hHl ⟨[], rfl, RelL.nil, rfl, (fun x hx => by cases hx), rfl⟩ ?hc3 ?hpc3 ?hk3 ?hf3 ?hloc3 ?hcel3 ?turn3 ?fin3
      case hJ3 =>
        rintro i h h' acc news t ⟨KX, e1, e2, e3⟩
        exact ⟨KX, e1, e2.mono fun _ _ => keptT.keep t, e3⟩
      case hnt3 =>
        rintro i h acc news ⟨KX, rfl, _⟩
        exact ntK _
      case hc3 => exact fun _ => rfl
      case hpc3 => exact fun _ => rfl
      case hk3 => exact fun _ => rfl
      case hf3 => exact fun _ => rfl
      case hloc3 => exact fun _ => rfl
      case hcel3 => exact fun _ => rfl
      case turn3 =>
        rintro j v g8 C h8 tk8 m8 acc8 news8 hv ⟨KX, rfl, r8, e8, s8, l8⟩ f8 st8
        obtain ⟨u, hu8⟩ : ∃ u, (homesOf ws)[j]? = some u := ⟨_, List.getElem?_eq_getElem (by have := (List.getElem?_eq_some_iff.mp hv).1; rw [(rH h6).1] at this; exact this)⟩
        obtain ⟨tu, rfl⟩ := (rH h6).2 j v u hv hu8
        have mW8 : (L + 1, cellW a1 b1 d1 (some (.ref wl))) ∈ (C + 1, cellV (some (.int ((u : Nat) : Int) tu))) :: (KN (KX.map (·.1)) ++ N) := .tail _ (List.mem_append_right _ mW)
        have mR8 : (L + 1 + 1 + 1, cellW a3 b3 d3 (some (.ref Rl))) ∈ (C + 1, cellV (some (.int ((u : Nat) : Int) tu))) :: (KN (KX.map (·.1)) ++ N) := .tail _ (List.mem_append_right _ mR)
        refine tests_nil ?_
        rw [if_pos rfl]
        refine wpHide ?_
        intro Q3 hQ3
        walk_at "go"
        refine mw_comp (cl := [("reached", L + 1 + 1 + 1), ("home", C + 1)]) ?_ ?clos4 (fun _ => rfl) rfl ?names4
        case clos4 => rfl
        case names4 => decide
        walk_at "go"
        refine comp_list (env := compEnvC _ _ _ _) (by exact hh) (fun (k : Nat) (h : Heap) (acc : List Value) (news : List (Addr × Obj)) => RelL (tupR h) acc (selW (ws.take k) u (T.map (fun s : Nat × Nat × Nat => s.2.2))) ∧ news = (C + 1, cellV (some (.int ((u : Nat) : Int) tu))) :: (KN (KX.map (·.1)) ++ N) ∧ RelL (keptT h) acc8 KX)
          (fun _ _ _ _ _ t e => ⟨e.1.mono fun _ _ => tupV.keep t, e.2.1, e.2.2.mono fun _ _ => keptT.keep t⟩) ?hnt4 (fun k _ _ _ e => by rw [e.1.1]; exact Nat.le_trans (selW_len _ _ _) (by rw [List.length_take]; (first | lia | omega))) (by (first | lia | omega)) f8 (st8 _ _ hgw7) ⟨RelL.nil, rfl, r8⟩ ?hcell4 ?hkind4 ?hk4 ?hp4 ?hloc4 ?turn4 ?fin4
        case hnt4 =>
          intro k h acc news e q hq
          rw [e.2.1] at hq
          rcases List.mem_cons.mp hq with rfl | hq
          · exact cellW_ne _ _ _ _
          · exact ntK _ q hq
        case hcell4 => decide
        case hkind4 => rfl
        case hk4 => exact fun _ => rfl
        case hp4 => exact fun _ => rfl
        case hloc4 => exact fun _ => rfl
        case turn4 =>
          rintro k v9 g9 C2 h9 tk9 m9 acc9 news9 hv9 ⟨r9, rfl, rk9⟩ f9 st9
          have hkl : k < ws.length := by
            have := (List.getElem?_eq_some_iff.mp hv9).1
            rw [hgr.1, List.length_map] at this; exact this
          obtain ⟨way, hw⟩ : ∃ way, ws[k]? = some way := ⟨_, List.getElem?_eq_getElem hkl⟩
          obtain ⟨P, t1, t2, t3', rfl, hP⟩ := way_tup (hgr7.2 k v9 (wayT way) hv9 (by rw [List.getElem?_map, hw]; rfl))
          have etk : ws.take (k + 1) = ws.take k ++ [way] := by rw [List.take_add_one, hw]; rfl
          have hP9 := f9.keep _ _ (st9 _ _ (st8 _ _ hP))
          have hR9 := f9.keep _ _ (st9 _ _ (st8 _ _ hRl))
          refine wpHide ?_
          intro Q4 hQ4
          refine tests_one ?_
          walk_at "go"
          refine ml_tupItem (k := 0) hP9 rfl (by (first | lia | omega)) ?_ rfl (fun _ => rfl)
          walk_at "go"
          by_cases e : way.1 = u
          · rw [if_pos (by simp [e])]
            walk_at "go"
            refine ml_notin hR9 (rR h9) ?_
            walk_at "go"
            by_cases hm : u ∈ T.map (fun s : Nat × Nat × Nat => s.2.2)
            · rw [if_neg (by simpa using hm)]
              refine hQ4 _ _ ⟨_, _, _, _, rfl, f9, ?_, rfl, rk9⟩
              rw [etk, selW_snoc, if_neg (fun x => x.2 hm), List.append_nil]
              exact r9
            · rw [if_pos (by simpa using hm)]
              walk_at "go"
              refine hQ4 _ _ ?_
              clear hQ4 Q4
              rw [if_pos rfl]
              refine wpHide ?_
              intro Q4 hQ4
              walk_at "go"
              refine ml_tupItem (k := 2) hP9 rfl (by (first | lia | omega)) ?_ rfl (fun _ => rfl)
              walk_at "go"
              refine ml_tupItem (k := 1) hP9 rfl (by (first | lia | omega)) ?_ rfl (fun _ => rfl)
              walk_at "go"
              refine ml_tupK f9 (by simp) ?_
              intro P3 h10 f10 n10 k10
              have hP3 := f10.at_ (.head _)
              refine hQ4 _ _ ⟨_, _, _, _, rfl, f10.sub (fun q hq => .tail _ hq), ?_, rfl, rk9.mono fun _ _ => keptT.keep (TK.of_keep k10)⟩
              rw [etk, selW_snoc, if_pos ⟨e, hm⟩]
              exact (r9.mono fun _ _ => tupV.keep (TK.of_keep k10)).push ⟨P3, _, rfl, hP3, .cons _ _ (.cons _ _ .nil)⟩
          · rw [if_neg (by simp; (first | lia | omega))]
            walk_at "go"
            refine hQ4 _ _ ⟨_, _, _, _, rfl, f9, ?_, rfl, rk9⟩
            rw [etk, selW_snoc, if_neg (fun x => e x.1), List.append_nil]
            exact r9
        case fin4 =>
          rintro Fl h9 tk9 acc9 c9 news9 ⟨r9, rfl, rk9⟩ f9 n9
          walk_at "go"
          rw [el, List.take_length, selW_eq] at r9
          have hWl : (if u ∈ T.map (fun s : Nat × Nat × Nat => s.2.2) then [] else Wof ws u).length ≤ ws.length := by
            rw [← selW_eq]; exact selW_len _ _ _
          refine ml_sortedT f9 (f9.at_ (.head _)) r9 (by (first | lia | omega)) (fun k hk => ?_) ?_
          · split at hk
            · cases hk
            · unfold Wof at hk
              obtain ⟨w0, _, rfl⟩ := List.mem_map.mp hk
              exact List.cons_ne_nil _ _
          intro Sl h10 vs10 out c10 f10 n10 r10 p10 w10 t10
          walk_at "go"
          refine ml_tupK f10 (by simp) ?_
          intro P3 h11 f11 n11 k11
          have hP3 := f11.at_ (.head _)
          have f12 := f11.sub (news' := (C + 1, cellV (some (.int ((u : Nat) : Int) tu))) :: (KN ((KX ++ [((Sl, vs10, c10), (u, out))]).map (·.1)) ++ N)) (fun q hq => by
            rw [List.map_append, List.map_singleton, KN_snoc] at hq
            rcases List.mem_cons.mp hq with rfl | hq
            · exact .tail _ (.tail _ (.tail _ (.head _)))
            rcases List.mem_append.mp hq with hq | hq
            · rcases List.mem_append.mp hq with hq | hq
              · exact .tail _ (.tail _ (.tail _ (.tail _ (List.mem_append_left _ hq))))
              · rw [List.mem_singleton] at hq; subst hq
                exact .tail _ (.head _)
            · exact .tail _ (.tail _ (.tail _ (.tail _ (List.mem_append_right _ hq)))))
          refine hQ3 _ _ ⟨_, _, _, _, rfl, f12, fun q hq => ?_, KX ++ [((Sl, vs10, c10), (u, out))], rfl, ?_, ?_, ?_, by simp [l8]⟩
          · refine (f12.ne2 (.head _) (.tail _ hq) ?_).symm
            intro e
            rcases List.mem_append.mp hq with hq | hq
            · obtain ⟨k, _, rfl⟩ := List.mem_map.mp hq
              exact lst_cell e.symm
            · exact cni q hq _ _ e
          · exact (rk9.mono fun _ _ => keptT.keep (t10.trans (TK.of_keep k11))).push ⟨P3, tu, rfl, hP3, r10.mono fun _ _ => tupV.keep (TK.of_keep k11)⟩
          · rw [List.map_append, List.map_append, e8, List.take_add_one, hu8]; rfl
          · intro x hx
            rw [List.map_append] at hx
            rcases List.mem_append.mp hx with hx | hx
            · exact s8 x hx
            · rw [List.map_singleton, List.mem_singleton] at hx; subst hx
              exact ⟨p10, w10⟩
      case fin3 =>
        rintro Kl C fl h8 tk8 acc8 c8 news8 ⟨KX, rfl, r8, e8, s8, l8⟩ v8 n8
        refine post_use v8 rfl rfl ?_
        intro h9 tk9 f9 t9
        clear v8
        have eHl : hv4.length = (homesOf ws).length := (rH h6).1
        rw [eHl, List.take_length] at e8
        have r9 : RelL (keptT h9) acc8 KX := r8.mono fun _ _ => keptT.keep t9
        have none7 : ∀ a, g7.get? a = none → h.get? a = none := fun a e7 => by
          cases e : h.get? a with
          | none => rfl
          | some o =>
            have := st7 _ _ (hg _ _ (by simp) e)
            rw [e7] at this; cases this
        have fin : ∀ h' tk' l vs c KX' m' news', FB w p loose mean mg mb g7 L h' m' news' → (∀ q ∈ (l, listOf vs.toArray c) :: KN (KX'.map (·.1)), q ∈ news') → RelL (keptT h') vs KX' → (KX'.map (·.2)).map (·.1) = keysOf fr ws T → SortedK ws (T.map (fun s : Nat × Nat × Nat => s.2.2)) (KX'.map (·.2)) → Q (.ref l) ⟨h', ge, dr, tk', os⟩ := by
          intro h' tk' l vs c KX' m' news' f' hn' r' e' s'
          exact q h' tk' l vs c KX' (fun a o e => f'.keep _ _ (st7 _ _ (hg _ _ (by simp) e))) (fun q hq => ⟨f'.at_ (hn' q hq), none7 _ (f'.new_ (hn' q hq))⟩) r' e' s'
        walk_at "go"
        by_cases hfr : fr = true
        · rw [if_pos hfr]
          walk_at "go"
          refine fin _ _ Kl acc8 c8 KX _ _ f9 (fun q hq => ?_) r9 ?_ s8
          · rcases List.mem_cons.mp hq with rfl | hq
            · exact .head _
            · exact .tail _ (List.mem_append_left _ hq)
          · unfold keysOf
            rw [if_pos hfr]; exact e8
        · rw [if_neg hfr]
          walk_at "go"
          refine mw_comp (cl := [("homes", L + 1 + 1)]) ?_ ?clos5 (fun _ => rfl) rfl ?names5
          case clos5 => rfl
          case names5 => decide
          have mR9 : (L + 1 + 1 + 1, cellW a3 b3 d3 (some (.ref Rl))) ∈ (Kl, listOf acc8.toArray c8) :: (KN (KX.map (·.1)) ++ N) := .tail _ (List.mem_append_right _ mR)
          walk_at "go"
          refine comp_list (env := envOfC _ _ _ _ _) (by exact hh) (fun (i : Nat) (h : Heap) (acc : List Value) (news : List (Addr × Obj)) => ∃ (KX2 : List ((Addr × List Value × Nat) × (Nat × List (List Int)))), news = KN (KX2.map (·.1)) ++ ((Kl, listOf acc8.toArray c8) :: (KN (KX.map (·.1)) ++ N)) ∧ RelL (keptT h) acc KX2 ∧ KX2.map (·.2) = (((T.map (fun s : Nat × Nat × Nat => s.2.2)).take i).filter (fun v => !decide (v ∈ homesOf ws))).map (fun v => (v, [])) ∧ RelL (keptT h) acc8 KX)
            ?hJ5 ?hnt5 (fun i _ _ _ e => ?len5) (by rw [(rR h6).1, List.length_map]; (first | lia | omega)) f9 hRl ⟨[], rfl, RelL.nil, rfl, r9⟩ ?hcell5 ?hkind5 ?hk5 ?hp5 ?hloc5 ?turn5 ?fin5
          case len5 =>
            obtain ⟨KX2, _, e2, e3, _⟩ := e
            have := congrArg List.length e3
            rw [List.length_map, List.length_map] at this
            rw [e2.1, this]
            exact Nat.le_trans (List.length_filter_le _ _) (by rw [List.length_take]; (first | lia | omega))
          case hJ5 =>
            rintro i h h' acc news t ⟨KX2, e1, e2, e3, e4⟩
            exact ⟨KX2, e1, e2.mono fun _ _ => keptT.keep t, e3, e4.mono fun _ _ => keptT.keep t⟩
          case hnt5 =>
            rintro i h acc news ⟨KX2, rfl, _⟩ q hq
            rcases List.mem_append.mp hq with hq | hq
            · exact KN_ne _ q hq
            rcases List.mem_cons.mp hq with rfl | hq
            · exact lst_ne _ _
            · exact ntK _ q hq
          case hcell5 => decide
          case hkind5 => rfl
          case hk5 => exact fun _ => rfl
          case hp5 => exact fun _ => rfl
          case hloc5 => exact fun _ => rfl
          case turn5 =>
            rintro i v10 g10 C2 h10 tk10 m10 acc10 news10 hv10 ⟨KX2, rfl, r10, e10, rk10⟩ f10 st10
            obtain ⟨u, hu10⟩ : ∃ u, (T.map (fun s : Nat × Nat × Nat => s.2.2))[i]? = some u := ⟨_, List.getElem?_eq_getElem (by have := (List.getElem?_eq_some_iff.mp hv10).1; rw [(rR h6).1] at this; exact this)⟩
            obtain ⟨tu, rfl⟩ := (rR h6).2 i v10 u hv10 hu10
            have mH10 : (L + 1 + 1, cellW a2 b2 d2 (some (.ref Hl))) ∈ KN (KX2.map (·.1)) ++ ((Kl, listOf acc8.toArray c8) :: (KN (KX.map (·.1)) ++ N)) := List.mem_append_right _ (.tail _ (List.mem_append_right _ mH))
            have hH10 := f10.keep _ _ (st10 _ _ hHl)
            refine wpHide ?_
            intro Q5 hQ5
            refine tests_one ?_
            walk_at "go"
            refine ml_notin hH10 (rH h10) ?_
            walk_at "go"
            refine hQ5 _ _ ?_
            clear hQ5 Q5
            by_cases hm : u ∈ homesOf ws
            · rw [if_neg (by simpa using hm)]
              refine ⟨_, _, _, _, rfl, f10, KX2, rfl, r10, ?_, rk10⟩
              rw [List.take_add_one, hu10, List.filter_append]
              simp only [Option.toList_some]
              rw [List.filter_cons_of_neg (by simpa using hm), List.filter_nil, List.append_nil]
              exact e10
            · rw [if_pos (by simpa using hm)]
              refine wpHide ?_
              intro Q5 hQ5
              walk_at "go"
              refine ml_newK f10 (by simp) ?_
              intro El h11 f11 n11 k11
              walk_at "go"
              refine ml_tupK f11 (by simp) ?_
              intro P3 h12 f12 n12 k12
              have hP3 := f12.at_ (.head _)
              have t12 : TK h10 h12 := (TK.of_keep k11).trans (TK.of_keep k12)
              obtain ⟨kx, hkx⟩ : ∃ kx : (Addr × List Value × Nat) × (Nat × List (List Int)), kx = ((El, [], 0), (u, [])) := ⟨_, rfl⟩
              have f13 := f12.sub (news' := KN ((KX2 ++ [kx]).map (fun x : (Addr × List Value × Nat) × (Nat × List (List Int)) => x.1)) ++ ((Kl, listOf acc8.toArray c8) :: (KN (KX.map (·.1)) ++ N))) (fun q hq => by
                rw [List.map_append, List.map_singleton, KN_snoc, hkx] at hq
                rcases List.mem_append.mp hq with hq | hq
                · rcases List.mem_append.mp hq with hq | hq
                  · exact .tail _ (.tail _ (List.mem_append_left _ hq))
                  · rw [List.mem_singleton] at hq; subst hq
                    exact .tail _ (.head _)
                · exact .tail _ (.tail _ (List.mem_append_right _ hq)))
              have k13 : keptT h12 (.ref P3) kx := by rw [hkx]; exact ⟨P3, tu, rfl, hP3, RelL.nil⟩
              refine hQ5 _ _ ⟨_, _, _, _, rfl, f13, KX2 ++ [kx], rfl, (r10.mono fun _ _ => keptT.keep t12).push k13, ?_, rk10.mono fun _ _ => keptT.keep t12⟩
              rw [List.take_add_one, hu10, List.filter_append]
              simp only [Option.toList_some]
              rw [List.filter_cons_of_pos (by simpa using hm), List.filter_nil, List.map_append, List.map_append, e10, hkx]
              rfl
          case fin5 =>
            rintro Xl h10 tk10 acc10 c10 news10 ⟨KX2, rfl, r10, e10, rk10⟩ f10 n10
            have eRl : acc5.length = (T.map (fun s : Nat × Nat × Nat => s.2.2)).length := (rR h6).1
            rw [eRl, List.take_length] at e10
            walk_at "go"
            have hz1 : acc8.length ≤ 40 := by rw [l8]; (first | lia | omega)
            have hz2 : acc10.length ≤ 40 := by
              have := congrArg List.length e10
              rw [List.length_map, List.length_map] at this
              have h2 := List.length_filter_le (fun v => !decide (v ∈ homesOf ws)) (T.map (fun s : Nat × Nat × Nat => s.2.2))
              rw [List.length_map] at h2
              rw [r10.1]; (first | lia | omega)
            refine ml_add f10 (f10.at_ (.tail _ (List.mem_append_right _ (.head _)))) (f10.at_ (.head _)) (by (first | lia | omega)) ?_
            intro Dl h11 f11 n11 k11
            walk_at "go"
            refine fin _ _ Dl (acc8 ++ acc10) 0 (KX ++ KX2) _ _ f11 (fun q hq => ?_) ((rk10.append r10).mono fun _ _ => keptT.keep (TK.of_keep k11)) ?_ ?_
            · rcases List.mem_cons.mp hq with rfl | hq
              · exact .head _
              · unfold KN at hq
                rw [List.map_append, List.map_append] at hq
                rcases List.mem_append.mp hq with hq | hq
                · exact .tail _ (.tail _ (List.mem_append_right _ (.tail _ (List.mem_append_left _ hq))))
                · exact .tail _ (.tail _ (List.mem_append_left _ hq))
            · unfold keysOf
              rw [if_neg hfr, List.map_append, List.map_append, e8, e10, List.map_map]
              congr 1
              have : ((fun x : Nat × List (List Int) => x.1) ∘ fun v => (v, ([] : List (List Int)))) = fun v => v := rfl
              rw [this, List.map_id']
            · intro x hx
              rw [List.map_append] at hx
              rcases List.mem_append.mp hx with hx | hx
              · exact s8 x hx
              · rw [e10] at hx
                obtain ⟨v, hv, rfl⟩ := List.mem_map.mp hx
                have hvm := (List.mem_filter.mp hv).1
                refine ⟨?_, .nil⟩
                rw [if_pos hvm]
end
end
section
theorem lex_unique {a b : List (List Int)} (p : a.Perm b) (ha : a.Pairwise (fun x y => lexL y x = false)) (hb : b.Pairwise (fun x y => lexL y x = false)) : a = b :=
  List.Perm.eq_of_pairwise (fun _ _ _ _ h1 h2 => lexL_eq h2 h1) ha hb p
theorem keptL_sorted {fr : Bool} {ws : List Way} {post : Nat → Nat} {D : List (Nat × List (List Int))} {T : List (Nat × Nat × Nat)} (I : LI fr ws post D [] T) : (keptL D).map (·.1) = keysOf fr ws T ∧ SortedK ws (T.map (fun s : Nat × Nat × Nat => s.2.2)) (keptL D) := by
  constructor
  · unfold keptL
    rw [List.map_map]
    exact I.keys
  · intro x hx
    unfold keptL at hx
    obtain ⟨d, hd, rfl⟩ := List.mem_map.mp hx
    obtain ⟨_, p2, _, p4⟩ := popN_heap lexL_tot (I.si.dheap d hd) d.2.length
    have hl := (popN_len lexL d.2 d.2.length (Nat.le_refl _)).1
    have he : (popN lexL d.2 d.2.length).2 = [] := List.length_eq_zero_iff.mp (by (first | lia | omega))
    rw [he, List.append_nil] at p2
    refine ⟨p2.trans ?_, p4⟩
    rw [← lstD_in I.si.keys hd]
    split
    · rename_i h
      rw [I.si.fin.2 d.1 h]
    · rename_i h
      exact I.si.fresh d.1 h
theorem kept_eq {ws : List Way} {R : List Nat} : ∀ {a b : List (Nat × List (List Int))}, a.map (·.1) = b.map (·.1) → SortedK ws R a → SortedK ws R b → a = b
  | [], [], _, _, _ => rfl
  | [], _ :: _, h, _, _ => by simp at h
  | _ :: _, [], h, _, _ => by simp at h
  | x :: a, y :: b, h, ha, hb => by
    simp only [List.map_cons, List.cons.injEq] at h
    have h1 := ha x (.head _)
    have h2 := hb y (.head _)
    rw [h.1] at h1
    have e : x = y := Prod.ext h.1 (lex_unique (h1.1.trans h2.1.symm) h1.2 h2.2)
    rw [e, kept_eq h.2 (fun z hz => ha z (.tail _ hz)) (fun z hz => hb z (.tail _ hz))]
theorem due_two {q0 q1 : Nat} {ws : List Way} (G : GoodWays ws) (h0 : q0 < 7) (h1 : q1 < 7) (hne : q0 ≠ q1) : 2 ≤ (dueL (bfN ws q0 6) (bfN ws q1 6)).length := by
  obtain ⟨b0, c0⟩ := bf_ok G (p := q0) 6
  obtain ⟨b1, c1⟩ := bf_ok G (p := q1) 6
  generalize bfN ws q0 6 = t0 at *
  generalize bfN ws q1 6 = t1 at *
  have z0 : t0.getD q0 0 ≤ 0 := by simpa using c0 0 q0 0 (by (first | lia | omega)) .nil h0
  have z1 : t1.getD q1 0 ≤ 0 := by simpa using c1 0 q1 0 (by (first | lia | omega)) .nil h1
  have inn : ∀ v, v < 7 → (v = q0 ∨ v = q1) → best t0 t1 v ∈ dueL t0 t1 := by
    intro v hv h
    unfold dueL
    refine List.mem_filter.mpr ⟨List.mem_map_of_mem (List.mem_range.mpr hv), ?_⟩
    rw [best_eq]
    rcases h with rfl | rfl <;> split
    · refine decide_eq_true ?_
      show t1.getD v 0 < 99
      (first | lia | omega)
    · refine decide_eq_true ?_
      show t0.getD v 0 < 99
      (first | lia | omega)
    · refine decide_eq_true ?_
      show t1.getD v 0 < 99
      (first | lia | omega)
    · refine decide_eq_true ?_
      show t0.getD v 0 < 99
      (first | lia | omega)
  have m0 := inn q0 h0 (.inl rfl)
  have m1 := inn q1 h1 (.inr rfl)
  have ne : best t0 t1 q0 ≠ best t0 t1 q1 := by
    intro e
    rw [best_eq, best_eq] at e
    split at e <;> split at e <;> simp only [List.cons.injEq, and_true] at e <;> (first | lia | omega)
  generalize dueL t0 t1 = l at m0 m1
  match l, m0, m1 with
  | [], h, _ => cases h
  | [a], h, h' =>
    rw [List.mem_singleton] at h h'
    exact absurd (h.trans h'.symm) ne
  | _ :: _ :: _, _, _ => simp
end
section
theorem Dxf.ch {w : World} {h g : Heap} {bk : BookV} {fr : Bool} {S : List Addr} (Z : Dxf w h bk fr) (C : Ch S h g) (h1 : bk.dx ∉ S) (h2 : ∀ a ∈ S, ∀ o, h.get? a = some o → (∃ es ep, o.data = .dict es ep) ∨ ∃ xs n, o.data = .seq xs n) : Dxf w g bk fr := by
  unfold Dxf at *
  cases fr with
  | false => simp only [Bool.false_eq_true, if_false] at *; exact C _ _ h1 Z
  | true =>
    simp only [if_true] at *
    obtain ⟨f, c', c, oc, vs, t, t3, n3, ctv, pm, cl, di, sl, p1, p2, p3, pp, qual, e1, e2, e3, e4, e5, e6, e7⟩ := Z
    refine ⟨f, c', c, oc, vs, t, t3, n3, ctv, pm, cl, di, sl, p1, p2, p3, pp, qual, C _ _ h1 e1, C _ _ (fun hm => ?_) e2, C _ _ (fun hm => ?_) e3, C _ _ (fun hm => ?_) e4, e5, e6, e7⟩
    · rcases h2 _ hm _ e2 with ⟨_, _, e⟩ | ⟨_, _, e⟩ <;> cases e
    · rcases h2 _ hm _ e3 with ⟨_, _, e⟩ | ⟨_, _, e⟩ <;> cases e
    · rcases h2 _ hm _ e4 with ⟨_, _, e⟩ | ⟨_, _, e⟩ <;> rw [e5] at e <;> cases e
theorem dx_ne_frame {w : World} {h : Heap} {bk : BookV} {fr : Bool} {L : Addr} {m : Str → Option Value} {v : Value} (Z : Dxf w h bk fr) (N : h.Ns L m) (hm : m "ways" = some v) : bk.dx ≠ L := by
  obtain ⟨o, es, ep, hL, hd, _, hf⟩ := N
  intro e
  have hc := hf "ways"
  rw [hm] at hc
  unfold Dxf at Z
  cases fr with
  | false =>
    simp only [Bool.false_eq_true, if_false] at Z
    rw [e, hL] at Z
    cases Z
    cases hd
    have : nsFind #[] "ways" = none := rfl
    rw [this] at hc; cases hc
  | true =>
    simp only [if_true] at Z
    obtain ⟨f, c', c, oc, vs, t, t3, n3, ctv, pm, cl, di, sl, p1, p2, p3, pp, qual, e1, _⟩ := Z
    rw [e, hL] at e1
    cases e1
    cases hd
    have : nsFind (frozenEs w t3 (.ref f)) "ways" = none := rfl
    rw [this] at hc; cases hc
noncomputable def keptR (h : Heap) (v : Value) (x : Nat × List (List Int)) : Prop := ∃ kx : (Addr × List Value × Nat) × (Nat × List (List Int)), kx.2 = x ∧ keptT h v kx ∧ h.get? kx.1.1 = some (listOf kx.1.2.1.toArray kx.1.2.2)
theorem kept_rel {h : Heap} {vs : List Value} {KX : List ((Addr × List Value × Nat) × (Nat × List (List Int)))} (r : RelL (keptT h) vs KX) (hn : ∀ q ∈ KN (KX.map (fun x : (Addr × List Value × Nat) × (Nat × List (List Int)) => x.1)), h.get? q.1 = some q.2) : RelL (keptR h) vs (KX.map (fun x : (Addr × List Value × Nat) × (Nat × List (List Int)) => x.2)) := by
  refine ⟨by rw [List.length_map]; exact r.1, fun i v k hv hk => ?_⟩
  rw [List.getElem?_map] at hk
  obtain ⟨kx, hkx, rfl⟩ := Option.map_eq_some_iff.mp hk
  refine ⟨kx, rfl, r.2 i v kx hv hkx, ?_⟩
  exact hn (kx.1.1, listOf kx.1.2.1.toArray kx.1.2.2) (KN_at (i := i) (by rw [List.getElem?_map, hkx]; rfl))
theorem kept_reads {h : Heap} {v : Value} {x : Nat × List (List Int)} (r : keptR h v x) : ∃ as, Reads h v (keptD x) as := by
  obtain ⟨kx, rfl, ⟨T, t, rfl, hT, rr⟩, hl⟩ := r
  obtain ⟨as, e1⟩ := reads_list (F := tupD) (fun v k r => ⟨_, reads_tup r⟩) hl rr
  exact ⟨_, Reads.tuple hT rfl rfl (ReadsAll.cons (Reads.int _ _) (ReadsAll.cons e1 .nil))⟩
section
variable {prog : Program} {w : World} {A : Around} {E : Value → Shared → Prop} {p : Program} {loose : List Str} {mean : ExcName → Option Value} {mg mb : Str → Option Value} {b h : Heap} {ge : Array GenState} {dr : Drawn} {tk : Nat} {os : OsState}
  {Q : Value → Shared → Prop}
/-- `_law_is_right` -/
theorem right_spec (S : SupOk prog) (B : Base w p loose mean mg mb b) (hb : b.StaysIn h) (htb : b.get? 85 = none) {ps : Array Value} (ht : h.get? 85 = some (tabObj ps)) {fr : Bool} (hp : fr = true → ps = #[])
    {ws : List Way} (G : GoodWays ws) (hws : ws.length ≤ 40) {wl : Addr} {wv : List Value} {wc : Nat} (hwl : b.get? wl = some (listOf wv.toArray wc)) (hwr : RelL (tupR b) wv (ws.map wayT))
    {pl : Addr} {pv : List Value} {pc : Nat} {q0 q1 : Nat} (hpl : b.get? pl = some (listOf pv.toArray pc)) (hpr : RelL (natV.rel b) pv [q0, q1]) (hq0 : q0 < 7) (hq1 : q1 < 7)
    {ul : Addr} {uv : List Value} {uc : Nat} {out : List (List Int)} (hul : b.get? ul = some (listOf uv.toArray uc)) (hur : RelL (tupR b) uv out) (hop : out.Perm (dueL (bfN ws q0 6) (bfN ws q1 6))) (hos : out.Pairwise (fun a b => lexL b a = false))
    (hd : A.depth + 60 < recursionLimit) (hu : A.units + 1000 < cLine) (hh : A.handled = none)
    (q : ∀ h' tk' ps', Ch [85] h h' → h'.get? 85 = some (tabObj ps') → (fr = false → ps' = ps) → Q (.bool true) ⟨h', ge, dr, tk', os⟩) :
    wpAny (model prog w) A (call (.ref 143) [.ref wl, .ref pl, .ref ul, .bool fr]) Q E ⟨h, ge, dr, tk, os⟩ := by
  have BX := B.X
  refine' mk_enter (news := [(85, tabObj ps)]) (binds := [("ways", .ref wl), ("posts", .ref pl), ("due", .ref ul), ("frozen", .bool fr)]) B hb ?k0 ?k6 ?k7 (by (first | lia | omega)) ?k9 ?kB ?_ ?c2 ?c3 ?c4 ?c5
  case k0 =>
    intro q hq; rw [List.mem_singleton] at hq; subst hq
    exact ⟨ht, htb, tab_ne _⟩
  case k6 => k_is
  case k7 => k_is
  case k9 => exact fun _ => BindsTo.of_eq rfl
  case kB => exact locs rfl
  case c2 => exact rfl
  case c3 => exact rfl
  case c4 => exact rfl
  case c5 => decide
  intro g L h₁ tk₁ fb hg tg hbg
  clear BX
  have X := fb.B.X
  have hgw := hbg _ _ hwl
  have hgp := hbg _ _ hpl
  have hgu := hbg _ _ hul
  have hgwr : RelL (tupR g) wv (ws.map wayT) := hwr.mono fun _ _ => tupV.keep (TK.of_keep hbg)
  have hgur : RelL (tupR g) uv out := hur.mono fun _ _ => tupV.keep (TK.of_keep hbg)
  obtain ⟨M, f0, m1, m2, m3, m4⟩ : ∃ M : Str → Option Value, FB w p loose mean mg mb g L h₁ M [(85, tabObj ps)] ∧ M "ways" = some (.ref wl) ∧ M "posts" = some (.ref pl) ∧ M "due" = some (.ref ul) ∧ M "frozen" = some (.bool fr) := ⟨_, fb, rfl, rfl, rfl, rfl⟩
  clear fb
  walk_at "go"
  refine map_spec S f0.B f0.keep G (by (first | lia | omega)) hgw hgwr (f0.new_ (.head _)) (f0.at_ (.head _)) hp ?_ ?_ ?_ ?_
  · show A.depth + 1 + 20 < _; exact bdk (by assumption) (by decide)
  · show A.units + 3 + 200 < _; exact bdk (by assumption) (by decide)
  · exact hh
  intro h2 tk2 bk ps' C2 ht2 hN2 R2 Z2 nd2 hps
  have n85 : ∀ q ∈ bookN bk, q.1 ≠ 85 := fun q hq e => by
    have := (hN2 q hq).2
    rw [e, f0.at_ (.head _)] at this; cases this
  have f2 : FB w p loose mean mg mb g L h2 M ([(85, tabObj ps')] ++ bookN bk) := f0.chgs C2 (fun a ha => ⟨tabObj ps, by rw [List.mem_singleton] at ha; subst ha; exact .head _⟩) fun q hq => by
    rcases List.mem_append.mp hq with hq | hq
    · rw [List.mem_singleton] at hq; subst hq
      exact .inr ⟨ht2, .inl (.head _)⟩
    · exact .inr ⟨(hN2 q hq).1, .inr (hN2 q hq).2⟩
  have dxL := dx_ne_frame Z2 f2.ns m1
  clear f0
  obtain ⟨g3, f3, st3, ch3, t3⟩ := f2.rebase (news' := bookN bk) (fun q hq => List.mem_append_right _ hq) (bookN_ne bk)
  have Z3 : Dxf w g3 bk fr := by
    refine Z2.ch ch3 (fun hm => ?_) (fun a ha o ho => ?_)
    · rcases List.mem_cons.mp hm with hm | hm
      · exact dxL hm
      · obtain ⟨q, hq, e⟩ := List.mem_map.mp hm
        exact nd2 q hq e
    · rcases List.mem_cons.mp ha with rfl | ha
      · obtain ⟨oL, es, ep, hL, hd', _⟩ := f2.ns
        rw [hL] at ho; cases ho
        exact .inl ⟨es, ep, hd'⟩
      · obtain ⟨q, hq, rfl⟩ := List.mem_map.mp ha
        rw [f3.at_ hq] at ho; cases ho
        rcases List.mem_cons.mp hq with rfl | hq
        · exact .inl ⟨_, _, rfl⟩
        · obtain ⟨r, _, rfl⟩ := List.mem_map.mp hq
          exact .inr ⟨_, _, rfl⟩
  have h85 : g3.get? 85 = some (tabObj ps') := by
    refine ch3 _ _ (fun hm => ?_) ht2
    rcases List.mem_cons.mp hm with hm | hm
    · exact (f2.N _ (.head _)).2.1 hm
    · obtain ⟨q, hq, e⟩ := List.mem_map.mp hm
      exact n85 q hq e
  have fin : ∀ h' tk', (∀ a o, g3.get? a = some o → h'.get? a = some o) → Q (.bool true) ⟨h', ge, dr, tk', os⟩ := fun h' tk' k =>
    q h' tk' ps' (fun a o na e => k _ _ (st3 _ _ (hg _ _ (by simpa using na) e))) (k _ _ h85) hps
  clear f2
  refine mw_stK f3 ?_ rfl rfl
  intro h4 tk4 f4 t4
  obtain ⟨M, f4, m0, m1, m2, m3, m4⟩ : ∃ M' : Str → Option Value, FB w p loose mean mg mb g3 L h4 M' (bookN bk) ∧ M' "book" = some (.ref bk.x) ∧ M' "ways" = some (.ref wl) ∧ M' "posts" = some (.ref pl) ∧ M' "due" = some (.ref ul) ∧ M' "frozen" = some (.bool fr) := ⟨_, f4, rfl, m1, m2, m3, m4⟩
  have R4 := R2.mono t4
  clear f3
  walk_at "go"
  refine settled_spec S f4.B f4.keep G (by (first | lia | omega)) (st3 _ _ hgp) hpr hq0 hq1 (fun q hq => ⟨f4.at_ hq, f4.new_ hq⟩) R4 Z3 ?_ ?_ (by exact hh) ?_
  · show A.depth + 1 + 40 < _; exact bdk (by assumption) (by decide)
  · show A.units + 3 + 400 < _; exact bdk (by assumption) (by decide)
  intro h5 tk5 bk5 l5 vs5 c5 D T C5 n5 R5 I5 hl5 ln5 nl5 r5 x5 d5
  obtain ⟨f5, -, t5⟩ := book_chgs (extra := []) f4 (fun q hq => by cases hq) C5 n5
  replace f5 : FB w p loose mean mg mb g3 L h5 M (bookN bk5) := f5
  have l5L : l5 ≠ L := by
    rintro rfl
    obtain ⟨o, _, _, hL, _⟩ := f4.ns
    rw [hL] at ln5; cases ln5
  clear f4
  have Z5 : Dxf w g3 bk5 fr := by
    unfold Dxf at Z3 ⊢
    rw [x5, d5]; exact Z3
  have hu5 : h5.get? ul = some (listOf uv.toArray uc) := f5.keep _ _ (st3 _ _ hgu)
  have eout : out = T.map tri := due_eq G (post := postF q0 q1) (fun r hr => by unfold postF; split <;> assumption) I5.si.fin.1 hop hos
  subst eout
  have ru5 : RelL (tupR h5) uv (T.map tri) := (hgur.mono fun _ _ => tupV.keep (TK.of_keep st3)).mono fun _ _ => tupV.keep (TK.of_keep f5.keep)
  walk_at "go"
  refine ml_eqSame (s := ⟨h5, ge, dr, _, os⟩) (F := tupD) (fun v k r => ⟨_, reads_tup r⟩) (fun v k r => ⟨_, reads_tup r⟩) tupD_lay (fun k => Nat.le_trans (tupD_dep k) (by decide)) hl5 r5 hu5 ru5 ?_ ?_
  · show A.units + 3 + 64 < _; exact bdk (by assumption) (by decide)
  walk_at "go"
  rw [if_pos rfl]
  walk_at "go"
  rw [← x5]
  have hkL := keptL_sorted I5
  have hDz := I5.si.few I5.keys
  refine kept_spec S f5.B f5.keep (fun q hq => ⟨f5.at_ hq, f5.new_ hq⟩) R5 Z5 I5.si.keys (by (first | lia | omega)) (fun d hd => ?_) ?_ ?_ (by exact hh) ?_
  · have h1 := lst_tot D d.1
    rw [lstD_in I5.si.keys hd] at h1
    have h2 := I5.tot
    (first | lia | omega)
  · show A.depth + 1 + 40 < _; exact bdk (by assumption) (by decide)
  · show A.units + 3 + 400 < _; exact bdk (by assumption) (by decide)
  intro h7 tk7 l7 vs7 c7 KX C7 n7 r7 e7
  have f7 : FB w p loose mean mg mb g3 L h7 M ((l7, listOf vs7.toArray c7) :: KN (KX.map (fun x : (Addr × List Value × Nat) × (Nat × List (List Int)) => x.1))) := f5.chgs C7 (fun a ha => by
    obtain ⟨q, hq, rfl⟩ := List.mem_map.mp ha
    exact ⟨q.2, hq⟩) fun q hq => .inr (n7 q hq)
  clear f5
  have hu7 : g3.get? ul = some (listOf uv.toArray uc) := st3 _ _ hgu
  have ru7 : RelL (tupR g3) uv (T.map tri) := hgur.mono fun _ _ => tupV.keep (TK.of_keep st3)
  have rw7 : RelL (tupR g3) wv (ws.map wayT) := hgwr.mono fun _ _ => tupV.keep (TK.of_keep st3)
  walk_at "go"
  refine duekept_spec f7.B f7.keep G hws (st3 _ _ hgw) rw7 hu7 ru7 I5.si.sLen ?_ ?_ (by exact hh) ?_
  · show A.depth + 1 + 40 < _; exact bdk (by assumption) (by decide)
  · show A.units + 3 + 400 < _; exact bdk (by assumption) (by decide)
  intro h8 tk8 l8 vs8 c8 KX8 k8 n8 r8 e8 s8
  have f8 := f7.all k8
  have r7' : RelL (keptR h8) vs7 (keptL D) := by
    rw [← e7]
    exact kept_rel (r7.mono fun _ _ => keptT.keep (TK.of_keep k8)) fun q hq => f8.at_ (.tail _ hq)
  have r8' : RelL (keptR h8) vs8 (keptL D) := by
    rw [← kept_eq (e8.trans hkL.1.symm) s8 hkL.2]
    exact kept_rel r8 fun q hq => (n8 q (.tail _ hq)).1
  walk_at "go"
  refine ml_eqSame (s := ⟨h8, ge, dr, _, os⟩) (F := keptD) (fun v k r => kept_reads r) (fun v k r => kept_reads r) keptD_lay keptD_dep (f8.at_ (.head _)) r7' (n8 _ (.head _)).1 r8' ?_ ?_
  · show A.units + 3 + 64 < _; exact bdk (by assumption) (by decide)
  walk_at "go"
  exact fin _ _ fun a o e => f8.keep _ _ e
end
end
section
theorem ints_append {vs ws : List Value} {ns ms : List Int} (h1 : IntsAre vs ns) (h2 : IntsAre ws ms) : IntsAre (vs ++ ws) (ns ++ ms) := by
  induction h1 with
  | nil => exact h2
  | cons n t _ ih => exact .cons n t ih
section
variable {prog : Program} {w : World} {A : Around} {E : Value → Shared → Prop} {p : Program} {loose : List Str} {mean : ExcName → Option Value} {mg mb : Str → Option Value} {g h : Heap} {ge : Array GenState} {dr : Drawn} {tk : Nat} {os : OsState}
  {L : Addr} {m : Str → Option Value} {news : List (Addr × Obj)} {Q : Value → Shared → Prop}
theorem ml_sliceI {value slice : Expr} {l : Addr} {vs : List Value} {lo hi : Option Int} {vl vu : Value} (f : FB w p loose mean mg mb g L h m news) (hl : h.IsList l vs.toArray) (pl : IsPart vl lo) (pu : IsPart vu hi) (hz : vs.length ≤ 1000000)
    (q : ∀ D h', FB w p loose mean mg mb g L h' m ((D, listOf (kms_pick vs lo hi).toArray 0) :: news) → (∀ q ∈ news, q.1 ≠ D) → (∀ a o, h.get? a = some o → h'.get? a = some o) → Q (.ref D) ⟨h', ge, dr, tk, os⟩)
    (hs : subscripted slice false (.ref l) (.ref h.objs.size) = operate [.ref h.objs.size, .ref l] (getItem (.ref l) (.ref h.objs.size))) (ht : ∀ r, letTemporaryGo value (.ref l) r = pure ()) :
    wpAny (model prog w) A (subscriptTail value slice (.ref l) (.ref h.objs.size)) Q E ⟨h.push { cls := .type "slice", data := .fields #[vl, vu, .none] }, ge, dr, tk, os⟩ := by
  obtain ⟨f1, n1, k1⟩ := f.pushed { cls := .type "slice", data := .fields #[vl, vu, .none] }
  refine subscriptTail_ops (Heap.IsList.typeIs (s := ⟨h.push { cls := .type "slice", data := .fields #[vl, vu, .none] }, ge, dr, tk, os⟩) (hl.push _)) list_getitem_lookup
    (wpAny_getItem_list_slice (hl.push _) (Heap.IsSliceOf.new ..) pl pu .none (by simp) ?_ (by rw [sizeLine_eq]; simp; (first | lia | omega))) hs ht
  have e : slicePick vs.toArray lo hi none = (kms_pick vs lo hi).toArray := kms_pick_eq vs.toArray lo hi
  rw [e]
  obtain ⟨f2, n2, k2⟩ := f1.pushed (listOf (kms_pick vs lo hi).toArray 0)
  refine q _ _ (f2.sub fun q hq => ?_) (fun q hq => n2 q (.tail _ hq)) fun a o e => k2 _ _ (k1 _ _ e)
  rcases List.mem_cons.mp hq with rfl | hq
  · exact .head _
  · exact .tail _ (.tail _ hq)
end
theorem pick_upto (vs : List Value) (k : Nat) : kms_pick vs none (some (k : Int)) = vs.take k := by
  unfold kms_pick kms_lo kms_hi
  dsimp only
  rw [if_neg (by (first | lia | omega))]
  simp only [List.drop_zero, Nat.sub_zero, Int.toNat_natCast]
  by_cases h : k ≤ vs.length
  · rw [Nat.min_eq_left h]
  · rw [Nat.min_eq_right (by (first | lia | omega)), List.take_of_length_le (Nat.le_refl _), List.take_of_length_le (by (first | lia | omega))]
theorem SupOk.of {prog : Program} (h1 : ((prog.main.file : Str) == Str.ofString "/claim/cut.py") = true) (h2 : (prog.main.scope.names.lookup ("super" : Str)).isSome = false) : SupOk prog := ⟨h1, h2⟩
/-- the way that a drawn number stands for -/
noncomputable def wayOf (x : Int) : Way := ((x.fmod 7).toNat, ((x.fdiv 7).fmod 7).toNat, ((x.fdiv 49).fmod 4).toNat + 1)
theorem fmod_to (x : Int) {b : Int} (hb : 0 < b) : x.fmod b = (((x.fmod b).toNat : Nat) : Int) ∧ (((x.fmod b).toNat : Nat) : Int) < b := by
  have h1 := Int.fmod_nonneg_of_pos (a := x) hb
  have h2 := Int.fmod_lt_of_pos x hb
  (first | lia | omega)
theorem ways_good (l : List Int) : GoodWays (l.map wayOf) := by
  have e : ∀ w ∈ l.map wayOf, ∃ x, w = wayOf x := fun w hw => by
    obtain ⟨x, _, rfl⟩ := List.mem_map.mp hw
    exact ⟨x, rfl⟩
  refine ⟨fun w hw => ?_, fun w hw => ?_, fun w hw => ?_, fun w hw => ?_⟩ <;> obtain ⟨x, rfl⟩ := e w hw
  · have := (fmod_to x (b := 7) (by decide)).2
    show (x.fmod 7).toNat < 7
    (first | lia | omega)
  · have := (fmod_to (x.fdiv 7) (b := 7) (by decide)).2
    show ((x.fdiv 7).fmod 7).toNat < 7
    (first | lia | omega)
  · show 1 ≤ ((x.fdiv 49).fmod 4).toNat + 1
    (first | lia | omega)
  · have := (fmod_to (x.fdiv 49) (b := 4) (by decide)).2
    show ((x.fdiv 49).fmod 4).toNat + 1 ≤ 4
    (first | lia | omega)
theorem ints_six (a b c d e f : Tok) : IntsAre [Value.int 14 a, .int 91 b, .int 126 c, .int 23 d, .int 36 e, .int 178 f] [14, 91, 126, 23, 36, 178] := .cons _ _ (.cons _ _ (.cons _ _ (.cons _ _ (.cons _ _ (.cons _ _ .nil)))))
theorem ints_get {vs : List Value} {ns : List Int} (h : IntsAre vs ns) {i : Nat} {v : Value} (hv : vs[i]? = some v) : ∃ x t, v = .int x t ∧ ns[i]? = some x := by
  induction h generalizing i with
  | nil => simp at hv
  | cons n t _ ih =>
    cases i with
    | zero => simp at hv; exact ⟨n, t, hv.symm, by simp⟩
    | succ i =>
      obtain ⟨x, u, e1, e2⟩ := ih (i := i) (by simpa using hv)
      exact ⟨x, u, e1, by simpa using e2⟩
end
theorem z_end : PySem.Challenge.rw_in0187_01.Holds := by
  refine Mine.hd ?_
  k_go0
  (with_reducible rename Fr _ _ _ _ => F0)
  (with_reducible rename News _ _ _ _ => N0)
  (with_reducible rename PyProof.Rows.Top topProg _ _ _ _ _ => T0)
  (with_reducible rename Frag.In _ _ => X0)
  (with_reducible rename ¬ _ < _ => hlen)
  (with_reducible rename IntsAre _ _ => hI0)
  (with_reducible rename _ = #[] => hg0)
  have f0 := FB.mk F0.ns F0.keep (Heap.get?_none_of_le F0.above) N0 (Base.mk X0 T0)
  rename_i w s0 s1 mg mb G Yh fa ob pm cd doc kV ho hcd V1 V2 T1 B1 TE1 TW1 xs hs lay hL hr lay2 u1 u2 sc vs u3 ra w1 r0 hr2 u4 u5 hD h1 K1 w9
  have S : SupOk PySem.Challenge.rw_in0187_01.row.prog := .of (by decide +kernel) (by decide +kernel)
  have hxl : xs.length ≤ 63 := by (first | lia | omega)
  have hvl : vs.length = xs.length := hI0.length
  refine wpAny_mono (Q := fun fl s' => fl = Flow.ret (.bool true) ∧ (∀ b o, (ghostOf s1.heap [(89, 85)]).get? b = some o → s'.heap.get? b = some o) ∧ (∃ ps, s'.heap.get? 85 = some (tabObj ps)) ∧ s'.os = s1.os ∧ s'.gens = s1.gens) (E := fun _ _ => False) ?walk ?fin (fun _ _ e => e.elim)
  case fin =>
    rintro fl s' ⟨rfl, k, ⟨ps, hps⟩, e1, e2⟩
    refine ⟨⟨.inl ⟨_, .bool true, [], rfl, raisesW_false ?r1, .bool true, ?r2, unshared_nil⟩, k, e1, e2.trans hg0⟩, ⟨ps, hps⟩, True.intro⟩
    case r1 => wrow_none_raised
    case r2 => wrow_post
  case walk =>
    obtain ⟨M, f1, m1⟩ : ∃ M : Str → Option Value, FB w topProg _ _ mg mb (ghostOf s1.heap [(89, 85)]) s1.heap.objs.size h1 M [(85, tabObj #[])] ∧ M "script" = some (.ref sc) := ⟨_, f0, rfl⟩
    clear f0 F0
    refine wpHide ?_
    intro QW hQW
    walk_at "go"
    refine wpAny_Slice (evalPart_none_step (evalPart_some_step ?_))
    walk_at "go"
    refine evalPart_none_step ?_
    refine ml_sliceI f1 (lifted.at fun o e => f1.keep _ _ e) .none (.int 8 _) (by (first | lia | omega)) ?_ (by with_unfolding_all rfl) (by intro _; with_unfolding_all rfl)
    intro l2 h2 f2 n2 k2
    have e2 : kms_pick vs none (some 8) = vs.take 8 := pick_upto vs 8
    rw [e2] at f2
    have i2 : IntsAre (vs.take 8) (xs.take 8) := hI0.take 8
    clear f1
    refine mw_stK f2 ?_ rfl rfl
    intro h3 tk3 f3 t3
    obtain ⟨M3, f3, md3⟩ : ∃ M3 : Str → Option Value, FB w topProg _ _ mg mb (ghostOf s1.heap [(89, 85)]) s1.heap.objs.size h3 M3 [(l2, PySem.W.listOf (vs.take 8).toArray 0), (85, tabObj #[])] ∧ M3 "drawn" = some (.ref l2) := ⟨_, f3, rfl⟩
    clear f2
    (with_reducible refine seq_next ?_)
    (with_reducible refine mw_cons ?_)
    refine mw_asgComp (cl := []) ?_ ?clos ?fs ?kk ?names ?sw
    case clos => rfl
    case fs => exact fun _ => rfl
    case kk => rfl
    case names => decide
    case sw => rfl
    walk_at "go"
    rename_i ta _ tb _ tc _ td _ te _ tf _
    refine ml_newK f3 (by simp) ?_
    intro l4 h4 f4 n4 k4
    clear f3
    walk_at "go"
    refine ml_add f4 (f4.at_ (.head _)) (f4.at_ (.tail _ (.head _))) (by simp; (first | lia | omega)) ?_
    intro l5 h5 f5 n5 k5
    clear f4
    obtain ⟨vv, f5, i5⟩ : ∃ vv : List Value, FB w topProg _ _ mg mb (ghostOf s1.heap [(89, 85)]) s1.heap.objs.size h5 M3 [(l5, PySem.W.listOf vv.toArray 0), (l2, PySem.W.listOf (vs.take 8).toArray 0), (85, tabObj #[])] ∧ IntsAre vv ([14, 91, 126, 23, 36, 178] ++ xs.take 8) := by
      refine ⟨[Value.int 14 ta, Value.int 91 tb, Value.int 126 tc, Value.int 23 td, Value.int 36 te, Value.int 178 tf] ++ vs.take 8, f5.sub (fun q hq => ?_), ints_append (ints_six _ _ _ _ _ _) i2⟩
      rcases List.mem_cons.mp hq with rfl | hq
      · exact .head _
      · exact .tail _ (.tail _ hq)
    have n5' : (85 : Addr) ≠ l5 := n5 _ (.tail _ (.tail _ (.head _)))
    have hnl : ([14, 91, 126, 23, 36, 178] ++ xs.take 8).length ≤ 14 := by
      rw [List.length_append, List.length_take]
      simp
      (first | lia | omega)
    generalize [14, 91, 126, 23, 36, 178] ++ xs.take 8 = nums at i5 hnl
    have tne : ∀ q ∈ [((85 : Addr), tabObj #[])], ∀ vs, q.2 ≠ tupO vs := fun q hq => by rw [List.mem_singleton] at hq; subst hq; exact tab_ne _
    obtain ⟨g6, f6, st6, ch6, t6⟩ := f5.rebase (news' := [(85, tabObj #[])]) (fun q hq => by rw [List.mem_singleton] at hq; subst hq; exact .tail _ (.tail _ (.head _))) tne
    have hl5 := ch6 _ _ (fun hm => by
      rcases List.mem_cons.mp hm with hm | hm
      · exact (f5.N _ (.head _)).2.1 hm
      · rw [List.map_singleton, List.mem_singleton] at hm; exact n5' hm.symm) (f5.at_ (.head _))
    have hl2 := ch6 _ _ (fun hm => by
      rcases List.mem_cons.mp hm with hm | hm
      · exact (f5.N _ (.tail _ (.head _))).2.1 hm
      · rw [List.map_singleton, List.mem_singleton] at hm; exact n2 _ (.head _) hm.symm) (f5.at_ (.tail _ (.head _)))
    clear f5
    walk_at "go"
    refine comp_listR (env := envOf _ _ _ _ _) (by exact rfl) (fun (i : Nat) (h : Heap) (acc : List Value) (news : List (Addr × Obj)) => RelL (tupR h) acc ((nums.take i).map fun x => wayT (wayOf x)) ∧ news = [(85, tabObj #[])]) (fun _ _ _ _ _ t e => ⟨e.1.mono fun _ _ => tupV.keep t, e.2⟩) (fun _ _ _ _ e => e.2 ▸ tne) (fun i _ _ _ e => by rw [e.1.1]; simp; (first | lia | omega)) (by rw [i5.length]; (first | lia | omega)) f6 hl5 ⟨RelL.nil, rfl⟩ ?hcell ?hkind ?hk ?hp ?hloc ?turn ?fin2
    case hcell => decide
    case hkind => rfl
    case hk => exact fun _ => rfl
    case hp => exact fun _ => rfl
    case hloc => exact fun _ => rfl
    case turn =>
      rintro i v g7 C h7 tk7 m7 acc7 news7 hv ⟨r7, rfl⟩ f7 st7
      obtain ⟨x, tx, rfl, hx⟩ := ints_get i5 hv
      refine tests_nil ?_
      rw [if_pos rfl]
      walk_at "go"
      refine mo_mod (by decide) fun t8 tk8 => ?_
      walk_at "go"
      refine mo_fdiv (by decide) (by decide) fun t9 tk9 => ?_
      walk_at "go"
      refine mo_mod (by decide) fun t10 tk10 => ?_
      walk_at "go"
      refine mo_fdiv (by decide) (by decide) fun t11 tk11 => ?_
      walk_at "go"
      refine mo_mod (by decide) fun t12 tk12 => ?_
      walk_at "go"
      refine ml_tupK f7 (by simp) ?_
      intro P h8 f8 n8 k8
      have hP := f8.at_ (.head _)
      refine ⟨_, _, _, _, rfl, f8.sub (fun q hq => .tail _ hq), ?_, rfl⟩
      rw [List.take_add_one, hx]
      simp only [Option.toList_some, List.map_append, List.map_cons, List.map_nil]
      refine (r7.mono fun _ _ => tupV.keep (TK.of_keep k8)).push ⟨P, _, rfl, hP, ?_⟩
      unfold wayT wayOf
      dsimp only
      rw [← (fmod_to x (b := 7) (by decide)).1, ← (fmod_to (x.fdiv 7) (b := 7) (by decide)).1, Int.natCast_add, ← (fmod_to (x.fdiv 49) (b := 4) (by decide)).1]
      exact .cons _ _ (.cons _ _ (.cons _ _ .nil))
    case fin2 =>
      rintro Wl C fl h7 tk7 acc7 c7 news7 ⟨r7, rfl⟩ v7 n7
      refine post_use v7 rfl rfl ?_
      intro h8 tk8 f8 t8
      clear v7
      rw [i5.length, List.take_length] at r7
      have r8 : RelL (tupR h8) acc7 (nums.map fun x => wayT (wayOf x)) := r7.mono fun _ _ => tupV.keep t8
      have n85W : (85 : Addr) ≠ Wl := n7 _ (.head _)
      obtain ⟨M8, f8, md8, mw8⟩ : ∃ M8 : Str → Option Value, FB w topProg _ _ mg mb g6 s1.heap.objs.size h8 M8 [(Wl, PySem.W.listOf acc7.toArray c7), (85, tabObj #[])] ∧ M8 "drawn" = some (.ref l2) ∧ M8 "ways" = some (.ref Wl) := ⟨_, f8, md3, rfl⟩
      clear f6
      have S8 := S
      walk_at "go"
      refine ml_sum f8 rfl (f8.keep _ _ hl2) i2 ?_
      intro h9 tk9 t9 f9 k9
      clear f8
      walk_at "go"
      refine mo_mod (by decide) fun t10 tk10 => ?_
      obtain ⟨r, er, hr⟩ : ∃ r : Nat, ((xs.take 8).sum).fmod 6 = (r : Int) ∧ r < 6 := by
        have h := fmod_to ((xs.take 8).sum) (b := 6) (by decide)
        exact ⟨_, h.1, by (first | lia | omega)⟩
      rw [er]
      walk_at "go"
      refine ml_newK f9 (by simp) ?_
      intro Pl h11 f11 n11 k11
      clear f9
      refine mw_stK f11 ?_ rfl rfl
      intro h12 tk12 f12 t12
      clear f11
      obtain ⟨pv, M12, f12, rp, mw12, mp12⟩ : ∃ (pv : List Value) (M12 : Str → Option Value), FB w topProg _ _ mg mb g6 s1.heap.objs.size h12 M12 [(Pl, PySem.W.listOf pv.toArray 0), (Wl, PySem.W.listOf acc7.toArray c7), (85, tabObj #[])] ∧ (∀ h, RelL (natV.rel h) pv [0, r + 1]) ∧ M12 "ways" = some (.ref Wl) ∧ M12 "posts" = some (.ref Pl) := ⟨_, _, f12, fun h => RelL.cons ⟨_, rfl⟩ (RelL.cons ⟨_, rfl⟩ RelL.nil), mw8, rfl⟩
      have G := ways_good nums
      obtain ⟨g13, f13, st13, ch13, t13⟩ := f12.rebase (news' := [(85, tabObj #[])]) (fun q hq => by rw [List.mem_singleton] at hq; subst hq; exact .tail _ (.tail _ (.head _))) tne
      have hPl := ch13 _ _ (fun hm => by
        rcases List.mem_cons.mp hm with hm | hm
        · exact (f12.N _ (.head _)).2.1 hm
        · rw [List.map_singleton, List.mem_singleton] at hm; exact n11 _ (.tail _ (.head _)) hm.symm) (f12.at_ (.head _))
      have hWl := ch13 _ _ (fun hm => by
        rcases List.mem_cons.mp hm with hm | hm
        · exact (f12.N _ (.tail _ (.head _))).2.1 hm
        · rw [List.map_singleton, List.mem_singleton] at hm; exact n85W hm.symm) (f12.at_ (.tail _ (.head _)))
      have r13 : RelL (tupR g13) acc7 ((nums.map wayOf).map wayT) := by
        rw [List.map_map]
        exact r8.mono fun _ _ => tupV.keep ((TK.of_keep k9).trans ((TK.of_keep k11).trans (t12.trans t13)))
      clear f12
      have room : callerA.depth + 100 < recursionLimit := by decide
      have units : callerA.units + 1003 < cLine := by decide
      walk_at "go"
      refine due_spec f13.B f13.keep G hWl r13 hPl (rp _) (due_two G (by decide) (by (first | lia | omega)) (by (first | lia | omega))) ?_ ?_ rfl ?_
      · show callerA.depth + 1 + 60 < _; exact bdk (by assumption) (by decide)
      · show callerA.units + 3 + 600 < _; exact bdk (by assumption) (by decide)
      intro ul h14 tk14 uv uc out k14 n14 l14 r14 p14 s14
      obtain ⟨f14, nn14⟩ := f13.grow k14 n14 l14
      refine mw_stK f14 ?_ rfl rfl
      intro h15 tk15 f15 t15
      clear f14 f13
      obtain ⟨M15, f15, mw15, mp15, mu15⟩ : ∃ (M15 : Str → Option Value), FB w topProg _ _ mg mb g13 s1.heap.objs.size h15 M15 [(ul, PySem.W.listOf uv.toArray uc), (85, tabObj #[])] ∧ M15 "ways" = some (.ref Wl) ∧ M15 "posts" = some (.ref Pl) ∧ M15 "due" = some (.ref ul) := ⟨_, f15, mw12, mp12, rfl⟩
      obtain ⟨g16, f16, st16, ch16, t16⟩ := f15.rebase (news' := [(85, tabObj #[])]) (fun q hq => by rw [List.mem_singleton] at hq; subst hq; exact .tail _ (.head _)) tne
      have hul := ch16 _ _ (fun hm => by
        rcases List.mem_cons.mp hm with hm | hm
        · exact (f15.N _ (.head _)).2.1 hm
        · rw [List.map_singleton, List.mem_singleton] at hm; exact nn14 _ (.head _) hm.symm) (f15.at_ (.head _))
      have r16 : RelL (tupR g16) uv out := r14.mono fun _ _ => tupV.keep (t15.trans t16)
      have r16w : RelL (tupR g16) acc7 ((nums.map wayOf).map wayT) := r13.mono fun _ _ => tupV.keep (TK.of_keep st16)
      have hWl16 := st16 _ _ hWl
      have hPl16 := st16 _ _ hPl
      have hlen16 : (nums.map wayOf).length ≤ 40 := by rw [List.length_map]; (first | lia | omega)
      clear f15
      walk_at "go"
      refine right_spec S f16.B f16.keep (f16.new_ (.head _)) (f16.at_ (.head _)) (fr := false) (fun e => by cases e) G hlen16 hWl16 r16w hPl16 (rp _) (by decide) (by (first | lia | omega)) hul r16 p14 s14 ?_ ?_ rfl ?_
      · show callerA.depth + 1 + 60 < _; exact bdk (by assumption) (by decide)
      · show callerA.units + 3 + 1000 < _; exact bdk (by assumption) (by decide)
      intro h17 tk17 ps17 C17 ht17 e17
      have f17 : FB w topProg _ _ mg mb g16 s1.heap.objs.size h17 M15 [(85, tabObj ps17)] := f16.chgs C17 (fun a ha => ⟨tabObj #[], by rw [List.mem_singleton] at ha; subst ha; exact .head _⟩) fun q hq => by
        rw [List.mem_singleton] at hq; subst hq
        exact .inr ⟨ht17, .inl (.head _)⟩
      have e17 := e17 rfl
      subst e17
      clear f16
      walk_at "go"
      rw [if_pos rfl]
      walk_at "go"
      refine right_spec S f17.B f17.keep (f17.new_ (.head _)) (f17.at_ (.head _)) (fr := true) (fun _ => rfl) G hlen16 hWl16 r16w hPl16 (rp _) (by decide) (by (first | lia | omega)) hul r16 p14 s14 ?_ ?_ rfl ?_
      · show callerA.depth + 1 + 60 < _; exact bdk (by assumption) (by decide)
      · show callerA.units + 3 + 1000 < _; exact bdk (by assumption) (by decide)
      intro h18 tk18 ps18 C18 ht18 e18
      refine hQW _ _ ⟨rfl, fun b o e => C18 _ _ ?_ (f17.keep _ _ (st16 _ _ (st13 _ _ (st6 _ _ e)))), ⟨ps18, ht18⟩, rfl, rfl⟩
      intro hm
      rw [List.mem_singleton] at hm; subst hm
      have := f17.new_ (.head _)
      rw [st16 _ _ (st13 _ _ (st6 _ _ e))] at this; cases this
end Mine
theorem PySem.Challenge.cw_in0187_01_holds : PySem.Challenge.rw_in0187_01.Holds :=
  Mine.z_end
