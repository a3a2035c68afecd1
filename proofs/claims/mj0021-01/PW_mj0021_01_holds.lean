import PyProof.Rows.All
import Wide.All
import OpenK.AllK
import Wide.FinOn
import PySem.Challenge.RW_mj0021_01
open PySem PySem.W PyProof.Rows
set_option Elab.async false
set_option maxRecDepth 100000
set_option maxHeartbeats 8000000
set_option linter.unusedVariables false

section
-- Hd
namespace Mine
open_top hd for PySem.Challenge.rw_mj0021_01
end Mine

-- A1
namespace Mine
theorem opq {P : Prop} (h : ∀ G : Prop, (P → G) → G) : P := h P id
theorem gen_goal {α : Type} {M : Model} {A : Around} {c : Sem α} {Q : α → Shared → Prop} {E : Value → Shared → Prop} {s : Shared}
    (h : ∀ (QQ : α → Shared → Prop), (∀ f s', Q f s' → QQ f s') → wpAny M A c QQ (fun _ _ => False) s) : wpAny M A c Q E s := wpAny_mono (h Q fun _ _ q => q) (fun _ _ x => x) fun _ _ x => x.elim

noncomputable abbrev Pg : Program := Challenge.rw_mj0021_01.row.prog
noncomputable abbrev lst (vs : List Value) (n : Nat) : Obj := { cls := .type "list", data := .seq vs.toArray n }

structure Gr (w : World) (mg mb : Str → Option Value) (b : Heap) : Prop where
  kx : (hd.heap_39 w.params).In b
  top : TopRead hd.view_39 (looseW hd.view_39 []) mg mb b

theorem Gr.keeps {w mg mb b b'} (G : Gr w mg mb b) (h : b.StaysIn b') : Gr w mg mb b' := ⟨G.kx.keeps h, G.top.keeps h⟩

/-- s' is s with a later heap, only the addresses of D turned -/
noncomputable def Chg (D : List Addr) (s s' : Shared) : Prop :=
  ∃ h' tk, s' = { s with heap := h', toks := tk } ∧ ∀ b o, b ∉ D → s.heap.get? b = some o → h'.get? b = some o

/-- room for k calls below -/
noncomputable def Room (k : Nat) (A : Around) : Prop := A.depth + k < recursionLimit ∧ A.units + 20 * k < cLine

theorem Room.call {k n : Nat} {A : Around} {env : Env} (h : Room n A) (hk : k + 1 ≤ n) : Room k (A.deeper env) :=
  ⟨Nat.lt_of_le_of_lt (Nat.le_trans (Nat.le_of_eq ((Nat.add_assoc _ 1 k).trans (congrArg (A.depth + ·) (Nat.add_comm 1 k)))) (Nat.add_le_add_left hk A.depth)) h.1,
   Nat.lt_of_le_of_lt (Nat.le_trans (Nat.le_of_eq (Nat.add_assoc _ 3 (20 * k))) (Nat.add_le_add_left (Nat.le_trans (Nat.le_trans (Nat.le_of_eq (Nat.add_comm 3 (20 * k))) (Nat.add_le_add_left (by decide : 3 ≤ 20) (20 * k))) (Nat.mul_le_mul_left 20 hk)) A.units)) h.2⟩
theorem Room.units {k n : Nat} {A : Around} (h : Room n A) (hk : k ≤ 20 * n) : A.units + k < cLine := Nat.lt_of_le_of_lt (Nat.add_le_add_left hk _) h.2

theorem enter {w : World} {mg mb : Str → Option Value} {b : Heap} {A : Around} {s : Shared} {R : Result → Shared → Prop} (D : List (Addr × Obj)) {name qual : Str} {params : Arguments} {body : List Stmt} {scope : Scope} {dV kV doc pm cdv ct oc : Value} {an od : Option Addr} {osl : Array (Option Value)} {f : Addr} {args : Args} {binds : List (Str × Value)}
    (G : Gr w mg mb b) (hb : b.StaysIn s.heap) (hD : ∀ p ∈ D, b.get? p.1 = none) (hl : ∀ p ∈ D, s.heap.get? p.1 = some p.2)
    (ho : (hd.heap_39 w.params).lookup f = some ⟨oc, od, .func (fnOf name qual params body scope dV kV doc pm an cdv ct), osl⟩) (hcd : codeIn (hd.heap_39 w.params) cdv qual = true) (hroom : A.depth < recursionLimit)
    (hbind : BindsTo s (fnOf name qual params body scope dV kV doc pm an cdv ct) args binds) (hloc : ∀ y ∈ binds, scope.names.lookup y.1 = some .local)
    (h : ∀ g L h₁, Gr w mg mb g → (∀ b o, b ∉ D.map (·.1) → s.heap.get? b = some o → g.get? b = some o) → Fr g L h₁ (fun y => binds.reverse.lookup y) → News g L h₁ D →
      wpAny (model Pg w) (A.deeper (envOf qual scope L f cdv)) (execs body (envOf qual scope L f cdv))
        (fun fl s' => R (.ok (.ret (match fl with | .ret v => v | _ => .none))) s')
        (fun e s' => wpAny (model Pg w) (A.deeper (envOf qual scope L f cdv)) (leaving (envOf qual scope L f cdv) e) (fun _ s'' => R (.error e) s'') (fun e' s'' => R (.error e') s'') s')
        { s with heap := h₁, toks := s.toks + binds.length })
    (hco : scope.isCoroutine = false := by rfl) (hgen : scope.isGenerator = false := by rfl) (hk : scope.kind = .function := by rfl)
    (hcell : ∀ x ∈ scope.names, x.2 ≠ .cell := by decide) : codeAny (model Pg w) A (.call (.ref f) args) R s := by
  have X : (hd.heap_39 w.params).In s.heap := G.kx.keeps hb
  refine codeAny_call_def (fd := fnOf name qual params body scope dV kV doc pm an cdv ct) (body := body) (binds := binds) hroom (X _ _ ho) rfl (G.top.nolimit.keeps hb) (codeRec_of X hcd) rfl hbind hcell hloc (fun h₁ hns hk₁ => ?_) hco hgen hk
  have st : b.StaysIn (hideAll s.heap (D.map (·.1))) := fun a o e => hideAll_get _ (hb a o e) fun q => by
    obtain ⟨p, hp, rfl⟩ := List.mem_map.mp q
    rw [hD p hp] at e; cases e
  refine h (hideAll s.heap (D.map (·.1))) s.heap.objs.size h₁ (G.keeps st) (fun a o n e => hideAll_get _ e n)
    ⟨hns, fun a o e => hk₁ a o (of_hideAll _ e), Nat.le_of_eq (hideAll_size _ _)⟩
    (fun p hp => ⟨hk₁ _ _ (hl p hp), Nat.ne_of_lt (Heap.lt_size (hl p hp)), hideAll_none _ (List.mem_map_of_mem hp)⟩)

end Mine

-- A2
namespace Mine

/-- the values are, place by place, writings of the ranks -/
structure Are (rep : Value → Int → Prop) (vs : List Value) (R : List Int) : Prop where
  len : vs.length = R.length
  at' : ∀ (i : Nat) (v : Value) (r : Int), vs[i]? = some v → R[i]? = some r → rep v r

theorem Are.get {rep : Value → Int → Prop} {vs : List Value} {R : List Int} (h : Are rep vs R) {i : Nat} {r : Int} (hr : R[i]? = some r) : ∃ v, vs[i]? = some v ∧ rep v r := by
  have hi : i < vs.length := by
    have := (List.getElem?_eq_some_iff.mp hr).1
    rw [h.len]; exact this
  exact ⟨vs[i], List.getElem?_eq_getElem hi, h.at' i _ _ (List.getElem?_eq_getElem hi) hr⟩
theorem Are.set {rep : Value → Int → Prop} {vs : List Value} {R : List Int} (h : Are rep vs R) {i : Nat} {v : Value} {r : Int} (hr : rep v r) : Are rep (vs.set i v) (R.set i r) := by
  refine ⟨by simp [h.len], fun j v' r' hv hr' => ?_⟩
  rw [List.getElem?_set] at hv hr'
  by_cases e : i = j
  · subst e
    simp only [if_true] at hv hr'
    split at hv
    · split at hr'
      · cases hv; cases hr'; exact hr
      · cases hr'
    · cases hv
  · rw [if_neg e] at hv hr'
    exact h.at' j _ _ hv hr'

/-- the comparison that the writings obey, wherever b stays -/
noncomputable def LtOK (w : World) (b : Heap) (rep : Value → Int → Prop) : Prop :=
  ∀ {A : Around} {E : Value → Shared → Prop} {s : Shared} {Q : Value → Shared → Prop} {v v' : Value} {r r' : Int}, b.StaysIn s.heap → A.units + 10 < cLine → rep v r → rep v' r' →
    (∀ tk, Q (.bool (decide (r < r'))) { s with toks := tk }) → wpAny (model Challenge.rw_mj0021_01.row.prog w) A (compareOp .Lt v v') Q E s
theorem LtOK.mono {w b b' rep} (h : LtOK w b rep) (hb : b.StaysIn b') : LtOK w b' rep := fun hs => h (fun a o e => hs a o (hb a o e))

section
variable {prog : Program} {w : World} {A : Around} {E : Value → Shared → Prop} {s : Shared} {h₀ : Heap} {L D : Addr} {m : Str → Option Value} {news news' : List (Addr × Obj)} {vs : List Value} {n : Nat} {k : Int} {t : Tok}

theorem my_get {value slice : PySem.Expr} {v : Value} {Q : Value → Shared → Prop} (N : News h₀ L s.heap news) (hm : (D, lst vs n) ∈ news) (h0 : 0 ≤ k) (hfit : k < 2 ^ 63) (hx : vs[k.toNat]? = some v) (h : Q v s)
    (hs : subscripted slice false (.ref D) (.int k t) = operate [.ref D, .int k t] (getItem (.ref D) (.int k t)) := by with_unfolding_all rfl) :
    wpAny (model prog w) A (subscriptTail value slice (.ref D) (.int k t)) Q E s :=
  have hL : s.heap.IsList D vs.toArray := PySem.IsL.isList (n := n) (N _ hm).1
  tail_any hL.typeIs slot_list_getitem.lookup (wpAny_getItem_list hL h0 hfit (by simpa using hx) h) hs

theorem my_set {v : Value} {Q : Unit → Shared → Prop} (F : Fr h₀ L s.heap m) (N : News h₀ L s.heap news) (U : Upd D (lst vs n) (lst (vs.set k.toNat v) n) news news') (h0 : 0 ≤ k) (hfit : k < 2 ^ 63) (h1 : k < vs.length)
    (h : ∀ h', Fr h₀ L h' m → News h₀ L h' news' → Q () { s with heap := h' }) :
    wpAny (model prog w) A (setItem (.ref D) (.int k t) v) Q E s := by
  obtain ⟨pre, post, rfl, rfl, a, b⟩ := U.split
  have z := N (D, lst vs n) (List.mem_append.mpr (.inr (.head _)))
  refine ki_setAt z.1 h0 hfit (by simpa using h1) (h _ (F.change (Heap.SameBut.update ..) z.2.1 z.2.2) (ki_turn _ N a b ?_ ?_))
  · show vs.toArray.setIfInBounds k.toNat v = (vs.set k.toNat v).toArray
    apply Array.toList_inj.mp
    simp
  · simp

theorem my_len {Q : Value → Shared → Prop} (N : News h₀ L s.heap news) (hm : (D, lst vs n) ∈ news) (hz : (vs.length : Int) < 2 ^ 63) (h : Q (.int vs.length (s.toks + 1)) { s with toks := s.toks + 1 + 1 }) :
    wpAny (model prog w) A (call (.builtin "len") [.ref D]) Q E s :=
  len_list (PySem.IsL.isList (n := n) (N _ hm).1) (by simpa using hz) (by simpa using h)
end

theorem ix_s {k n : Nat} (h : k < n) (hn : n < 1000) : (k : Int) < 2 ^ 63 := Int.lt_of_lt_of_le (Int.ofNat_lt.mpr (Nat.lt_trans h hn)) (by decide)
theorem ix_n {n : Nat} (hn : n < 1000) : (n : Int) < 2 ^ 63 := Int.lt_of_lt_of_le (Int.ofNat_lt.mpr hn) (by decide)
theorem half_lt {c n : Nat} (h : c < n) : (c - 1) / 2 < n := Nat.lt_of_le_of_lt (Nat.le_trans (Nat.div_le_self _ _) (Nat.sub_le _ _)) h
theorem half_lt' {c : Nat} (h : 0 < c) : (c - 1) / 2 < c := Nat.lt_of_le_of_lt (Nat.div_le_self _ _) (Nat.sub_lt h (by decide))
theorem lookup_ite {x y : Str} {v : Value} {r : List (Str × Value)} : List.lookup y ((x, v) :: r) = if y = x then some v else List.lookup y r := by
  rw [List.lookup_cons]
  by_cases e : y = x
  · subst e; simp
  · have : (y == x) = false := beq_eq_false_iff_ne.mpr e
    simp [this, e]
theorem names_eq (l : List Str) {f g : Str → Option Value} (h1 : ∀ x ∈ l, f x = g x) (h2 : ∀ y, y ∉ l → f y = g y) : f = g := by
  funext y
  by_cases h : y ∈ l
  · exact h1 y h
  · exact h2 y h

/-- a frame's map by its names -/
noncomputable def asc : List (Str × Option Value) → Str → Option Value
  | [], _ => none
  | (x, v) :: r, y => if y = x then v else asc r y

theorem half_pos {c : Nat} (h : 0 < c) : ((c : Int) - 1).fdiv (2 ^ Int.toNat 1) = (((c - 1) / 2 : Nat) : Int) := by
  cases c with
  | zero => cases h
  | succ n => exact (congrArg (fun z : Int => z.fdiv 2) (Int.add_sub_cancel (n : Int) 1)).trans (Int.ofNat_fdiv n 2).symm
theorem turn_lt {n i : Nat} (h : i < n) : n + 1 - (i + 1) < n + 1 - i := Nat.sub_lt_sub_left (Nat.lt_succ_of_lt h) (Nat.lt_succ_self i)
theorem down_le {n p k m : Nat} (hp : p < n) (h : p < k) (hm : n - p ≤ m + 1) : n - k ≤ m := Nat.le_of_lt_succ (Nat.lt_of_lt_of_le (Nat.sub_lt_sub_left hp h) hm)
theorem down_zero {n p : Nat} (h : n - p ≤ 0) : n ≤ p := Nat.le_of_sub_eq_zero (Nat.le_zero.mp h)
theorem lt_kid (p : Nat) : p < 2 * p + 1 := Nat.lt_succ_of_le (Nat.le_mul_of_pos_left p (by decide))
theorem pos_of {a b : Nat} (h : a < b) : 0 < b := Nat.lt_of_le_of_lt (Nat.zero_le a) h

theorem chg_end {D : List (Addr × Obj)} {s : Shared} {g h : Heap} {L : Addr} {m : Str → Option Value} {tk : Nat} (hg : ∀ b o, b ∉ D.map (·.1) → s.heap.get? b = some o → g.get? b = some o) (F : Fr g L h m) :
    Chg (D.map (·.1)) s { s with heap := h, toks := tk } := ⟨h, tk, rfl, fun b o n e => F.keep b o (hg b o n e)⟩
theorem fr_chg {g h h' : Heap} {L : Addr} {m : Str → Option Value} {D : List Addr} (F : Fr g L h m) (hD : ∀ d ∈ D, g.get? d = none ∧ d ≠ L) (hk : ∀ b o, b ∉ D → h.get? b = some o → h'.get? b = some o) : Fr g L h' m := by
  obtain ⟨oL, es, ep, hL, r⟩ := F.ns
  refine ⟨⟨oL, es, ep, hk L oL (fun q => (hD L q).2 rfl) hL, r⟩, fun b o e => hk b o (fun q => ?_) (F.keep b o e), F.above⟩
  rw [(hD b q).1] at e; cases e
end Mine

-- A3
namespace Mine

noncomputable def sdLoop (R : List Int) (x : Int) (st : Nat) (pos : Nat) : List Int :=
  if st < pos then
    if x < R.getD ((pos - 1) / 2) 0 then sdLoop (R.set pos (R.getD ((pos - 1) / 2) 0)) x st ((pos - 1) / 2)
    else R.set pos x
  else R.set pos x
termination_by pos
decreasing_by exact half_lt' (Nat.lt_of_le_of_lt (Nat.zero_le _) (by assumption))

noncomputable abbrev sdM (d : Addr) (st : Nat) (t1 : Tok) (x : Value) (p : Int) (t : Tok) (pp pv : Option Value) : Str → Option Value := asc [
  (Str.ofString "pos", some (.int p t)), (Str.ofString "parent", pv), (Str.ofString "parentpos", pp),
  (Str.ofString "newitem", some x), (Str.ofString "startpos", some (.int st t1)), (Str.ofString "heap", some (.ref d))]

noncomputable def sdJ (rep : Value → Int → Prop) (d : Addr) (n : Nat) (st : Nat) (t1 : Tok) (x : Value) (xr : Int) (len : Nat) (fin : List Int) (c : Nat) (m : Str → Option Value) (news : List (Addr × Obj)) : Prop :=
  ∃ (p : Nat) (t : Tok) (pp pv : Option Value) (vs : List Value) (R : List Int), m = sdM d st t1 x p t pp pv ∧ news = [(d, lst vs n)] ∧ Are rep vs R ∧ R.length = len ∧ c = p ∧ p < len ∧ sdLoop R xr st p = fin


theorem siftdown_ok {w : World} {mg mb : Str → Option Value} {b : Heap} {A : Around} {s : Shared} {Rr : Result → Shared → Prop} {d : Addr} {vs : List Value} {n : Nat} {st p : Nat} {t1 t2 : Tok} {rep : Value → Int → Prop} {R : List Int} {x : Int}
    (G : Gr w mg mb b) (hb : b.StaysIn s.heap) (hd : b.get? d = none) (hl : s.heap.get? d = some (lst vs n)) (hroom : Room 2 A)
    (hlt : LtOK w b rep) (hR : Are rep vs R) (hx : R[p]? = some x) (hsm : R.length < 1000)
    (k : ∀ s' vs', Chg [d] s s' → s'.heap.get? d = some (lst vs' n) → Are rep vs' (sdLoop R x st p) → Rr (.ok (.ret .none)) s') :
    codeAny (model Challenge.rw_mj0021_01.row.prog w) A (.call (.ref 56) ⟨[.ref d, .int st t1, .int p t2], []⟩) Rr s := by
  have G' := G.kx
  revert G'
  k_fill
  intro G'
  refine' enter (binds := [(Str.ofString "heap", .ref d), (Str.ofString "startpos", .int st t1), (Str.ofString "pos", .int p t2)]) [(d, lst vs n)] G hb ?h1 ?h2 ?ho ?hcd ?hr ?bi ?lo ?_ ?c1 ?c2 ?c3 ?c4
  case h1 => simpa using hd
  case h2 => simpa using hl
  case ho => k_is
  case hcd => k_is
  case hr => exact Nat.lt_of_le_of_lt (Nat.le_add_right _ _) hroom.1
  case bi => exact BindsTo.of_eq rfl
  case lo => exact locs rfl
  case c1 => exact rfl
  case c2 => exact rfl
  case c3 => exact rfl
  case c4 => decide
  intro g L h₁ G₁ hg F' N'
  have KX := G₁.kx
  have T' := G₁.top
  refine gen_goal fun QQ hQQ => ?_
  obtain ⟨v, hv, hrv⟩ := hR.get hx
  have hp := (List.getElem?_eq_some_iff.mp hx).1
  (repeat' (first | (k_unfold; (try dsimp only)) | ((fail_if_success (with_reducible show wpAny _ _ (exec (Stmt.While _ _ _ _) _) _ _ _)); (fail_if_success (with_reducible show wpAny _ _ (exec (Stmt.For _ _ _ _ _) _) _ _ _)); (fail_if_success (with_reducible show wpAny _ _ (call (Value.ref _) _) _ _ _)); (fail_if_success (with_reducible show wpAny _ _ (compareOp _ (Value.ref _) (Value.ref _)) _ _ _)); (fail_if_success (with_reducible show wpAny _ _ (exec (Stmt.Assign _ (Expr.ListComp _ _ _ _) _) _) _ _ _)); (fail_if_success (with_reducible show wpAny _ _ (eval (Expr.ListComp _ _ _ _) _) _ _ _)); (first | walk1 | (dsimp only; walk1)); (try dsimp only)) | fail "no step"))
  refine my_get (v := v) N' (List.Mem.head _) (Int.natCast_nonneg p) (ix_s hp hsm) (by simpa using hv) ?_ (by with_unfolding_all rfl)
  (repeat' (first | (k_unfold; (try dsimp only)) | ((fail_if_success (with_reducible show wpAny _ _ (exec (Stmt.While _ _ _ _) _) _ _ _)); (fail_if_success (with_reducible show wpAny _ _ (exec (Stmt.For _ _ _ _ _) _) _ _ _)); (fail_if_success (with_reducible show wpAny _ _ (call (Value.ref _) _) _ _ _)); (fail_if_success (with_reducible show wpAny _ _ (compareOp _ (Value.ref _) (Value.ref _)) _ _ _)); (fail_if_success (with_reducible show wpAny _ _ (exec (Stmt.Assign _ (Expr.ListComp _ _ _ _) _) _) _ _ _)); (fail_if_success (with_reducible show wpAny _ _ (eval (Expr.ListComp _ _ _ _) _) _ _ _)); (first | walk1 | (dsimp only; walk1)); (try dsimp only)) | fail "no step"))
  rename_i h2 F2 N2
  refine While_inv2 (sdJ rep d n st t1 v x R.length (sdLoop R x st p)) (n₀ := p) F2 N2 ?_ ?_ ?_
  · refine ⟨p, t2, none, none, vs, R, ?_, rfl, hR, rfl, rfl, hp, rfl⟩
    refine names_eq [Str.ofString "pos", Str.ofString "parent", Str.ofString "parentpos", Str.ofString "newitem", Str.ofString "startpos", Str.ofString "heap"] ?_ ?_
    · (repeat' (first | exact rfl | exact List.forall_mem_nil _ | (refine List.forall_mem_cons.mpr ⟨?_, ?_⟩)))
    · ((intro y hy; (simp only [List.mem_cons, List.not_mem_nil, or_false, not_or] at hy); (simp only [List.reverse_cons, List.reverse_nil, List.nil_append, List.cons_append, Mine.lookup_ite, List.lookup_nil, Mine.asc, hy, if_false])))
  · intro c m₁ news₁ h₃ tk₃ F₃ N₃ hJ
    refine opq fun GG hGG => ?_
    obtain ⟨p, t, pp, pv, vs, R, rfl, rfl, hR, hlen, rfl, hp, hfin⟩ := hJ
    refine hGG ?_
    clear hGG
    have hb2 : b.StaysIn g := fun a o e => hg a o (by intro q; simp at q; subst q; rw [hd] at e; cases e) (hb a o e)
    (repeat' (first | (k_unfold; (try dsimp only)) | ((fail_if_success (with_reducible show wpAny _ _ (exec (Stmt.While _ _ _ _) _) _ _ _)); (fail_if_success (with_reducible show wpAny _ _ (exec (Stmt.For _ _ _ _ _) _) _ _ _)); (fail_if_success (with_reducible show wpAny _ _ (call (Value.ref _) _) _ _ _)); (fail_if_success (with_reducible show wpAny _ _ (compareOp _ (Value.ref _) (Value.ref _)) _ _ _)); (fail_if_success (with_reducible show wpAny _ _ (exec (Stmt.Assign _ (Expr.ListComp _ _ _ _) _) _) _ _ _)); (fail_if_success (with_reducible show wpAny _ _ (eval (Expr.ListComp _ _ _ _) _) _ _ _)); (first | walk1 | (dsimp only; walk1)); (try dsimp only)) | fail "no step"))
    · rename_i hc h' F' N'
      have hc' : 0 < c := by omega
      have hq : (c - 1) / 2 < R.length := by rw [hlen]; exact half_lt hp
      obtain ⟨v', hv', hrv'⟩ := hR.get (List.getElem?_eq_getElem hq)
      simp only [half_pos hc'] at F' ⊢
      refine my_get (v := v') N' (List.Mem.head _) (Int.natCast_nonneg _) (ix_s (half_lt hp) hsm) (by rw [Int.toNat_natCast]; exact hv') ?_ (by with_unfolding_all rfl)
      (repeat' (first | (k_unfold; (try dsimp only)) | ((fail_if_success (with_reducible show wpAny _ _ (exec (Stmt.While _ _ _ _) _) _ _ _)); (fail_if_success (with_reducible show wpAny _ _ (exec (Stmt.For _ _ _ _ _) _) _ _ _)); (fail_if_success (with_reducible show wpAny _ _ (call (Value.ref _) _) _ _ _)); (fail_if_success (with_reducible show wpAny _ _ (compareOp _ (Value.ref _) (Value.ref _)) _ _ _)); (fail_if_success (with_reducible show wpAny _ _ (exec (Stmt.Assign _ (Expr.ListComp _ _ _ _) _) _) _ _ _)); (fail_if_success (with_reducible show wpAny _ _ (eval (Expr.ListComp _ _ _ _) _) _ _ _)); (first | walk1 | (dsimp only; walk1)); (try dsimp only)) | fail "no step"))
      rename_i h4 F4 N4
      refine hlt (fun a o e => F4.keep a o (hb2 a o e)) (hroom.units (k := 13) (by decide)) hrv hrv' fun tk => ?_
      (repeat' (first | (k_unfold; (try dsimp only)) | ((fail_if_success (with_reducible show wpAny _ _ (exec (Stmt.While _ _ _ _) _) _ _ _)); (fail_if_success (with_reducible show wpAny _ _ (exec (Stmt.For _ _ _ _ _) _) _ _ _)); (fail_if_success (with_reducible show wpAny _ _ (call (Value.ref _) _) _ _ _)); (fail_if_success (with_reducible show wpAny _ _ (compareOp _ (Value.ref _) (Value.ref _)) _ _ _)); (fail_if_success (with_reducible show wpAny _ _ (exec (Stmt.Assign _ (Expr.ListComp _ _ _ _) _) _) _ _ _)); (fail_if_success (with_reducible show wpAny _ _ (eval (Expr.ListComp _ _ _ _) _) _ _ _)); (first | walk1 | (dsimp only; walk1)); (try dsimp only)) | fail "no step"))
      · rename_i hlt4
        refine my_set F4 N4 (.head (List.forall_mem_nil _)) (Int.natCast_nonneg c) (ix_s hp hsm) (Int.ofNat_lt.mpr (by rw [hR.len, hlen]; exact hp)) fun h5 F5 N5 => ?_
        (repeat' (first | (k_unfold; (try dsimp only)) | ((fail_if_success (with_reducible show wpAny _ _ (exec (Stmt.While _ _ _ _) _) _ _ _)); (fail_if_success (with_reducible show wpAny _ _ (exec (Stmt.For _ _ _ _ _) _) _ _ _)); (fail_if_success (with_reducible show wpAny _ _ (call (Value.ref _) _) _ _ _)); (fail_if_success (with_reducible show wpAny _ _ (compareOp _ (Value.ref _) (Value.ref _)) _ _ _)); (fail_if_success (with_reducible show wpAny _ _ (exec (Stmt.Assign _ (Expr.ListComp _ _ _ _) _) _) _ _ _)); (fail_if_success (with_reducible show wpAny _ _ (eval (Expr.ListComp _ _ _ _) _) _ _ _)); (first | walk1 | (dsimp only; walk1)); (try dsimp only)) | fail "no step"))
        rename_i h6 F6 N6
        refine ⟨h6, _, _, _, (c - 1) / 2, rfl, F6, N6, half_lt' hc', (c - 1) / 2, tk₃ + 1 + 1 + 1, some (.int (((c - 1) / 2 : Nat) : Int) (tk₃ + 1 + 1 + 1)), some v', _, _, ?_, rfl, hR.set hrv', (List.length_set ..).trans hlen, rfl, half_lt hp, ?_⟩
        · refine names_eq [Str.ofString "pos", Str.ofString "parent", Str.ofString "parentpos", Str.ofString "newitem", Str.ofString "startpos", Str.ofString "heap"] ?_ ?_
          · (repeat' (first | exact rfl | exact List.forall_mem_nil _ | (refine List.forall_mem_cons.mpr ⟨?_, ?_⟩)))
          · ((intro y hy; (simp only [List.mem_cons, List.not_mem_nil, or_false, not_or] at hy); (simp only [List.reverse_cons, List.reverse_nil, List.nil_append, List.cons_append, Mine.lookup_ite, List.lookup_nil, Mine.asc, hy, if_false])))
        · rw [← hfin]
          conv => rhs; rw [sdLoop]
          have e1 : R.getD ((c - 1) / 2) 0 = R[(c - 1) / 2] := by simp [List.getD, List.getElem?_eq_getElem hq]
          rw [if_pos (by omega), e1, if_pos hlt4, Int.toNat_natCast]
      · rename_i hlt4
        dsimp only [WhileStep2]
        (repeat' (first | (k_unfold; (try dsimp only)) | ((fail_if_success (with_reducible show wpAny _ _ (exec (Stmt.While _ _ _ _) _) _ _ _)); (fail_if_success (with_reducible show wpAny _ _ (exec (Stmt.For _ _ _ _ _) _) _ _ _)); (fail_if_success (with_reducible show wpAny _ _ (call (Value.ref _) _) _ _ _)); (fail_if_success (with_reducible show wpAny _ _ (compareOp _ (Value.ref _) (Value.ref _)) _ _ _)); (fail_if_success (with_reducible show wpAny _ _ (exec (Stmt.Assign _ (Expr.ListComp _ _ _ _) _) _) _ _ _)); (fail_if_success (with_reducible show wpAny _ _ (eval (Expr.ListComp _ _ _ _) _) _ _ _)); (first | walk1 | (dsimp only; walk1)); (try dsimp only)) | fail "no step"))
        refine my_set F4 N4 (.head (List.forall_mem_nil _)) (Int.natCast_nonneg c) (ix_s hp hsm) (Int.ofNat_lt.mpr (by rw [hR.len, hlen]; exact hp)) fun h5 F5 N5 => ?_
        (repeat' (first | (k_unfold; (try dsimp only)) | ((fail_if_success (with_reducible show wpAny _ _ (exec (Stmt.While _ _ _ _) _) _ _ _)); (fail_if_success (with_reducible show wpAny _ _ (exec (Stmt.For _ _ _ _ _) _) _ _ _)); (fail_if_success (with_reducible show wpAny _ _ (call (Value.ref _) _) _ _ _)); (fail_if_success (with_reducible show wpAny _ _ (compareOp _ (Value.ref _) (Value.ref _)) _ _ _)); (fail_if_success (with_reducible show wpAny _ _ (exec (Stmt.Assign _ (Expr.ListComp _ _ _ _) _) _) _ _ _)); (fail_if_success (with_reducible show wpAny _ _ (eval (Expr.ListComp _ _ _ _) _) _ _ _)); (first | walk1 | (dsimp only; walk1)); (try dsimp only)) | fail "no step"))
        have e1 : R.getD ((c - 1) / 2) 0 = R[(c - 1) / 2] := by simp [List.getD, List.getElem?_eq_getElem hq]
        refine hQQ _ _ (k _ _ (chg_end hg F5) (N5 _ (List.Mem.head _)).1 ?_)
        rw [← hfin, sdLoop, if_pos (by omega), e1, if_neg hlt4]
        exact hR.set hrv
    · rename_i hge
      refine my_set F₃ N₃ (.head (List.forall_mem_nil _)) (Int.natCast_nonneg c) (ix_s hp hsm) (Int.ofNat_lt.mpr (by rw [hR.len, hlen]; exact hp)) fun h5 F5 N5 => ?_
      (repeat' (first | (k_unfold; (try dsimp only)) | ((fail_if_success (with_reducible show wpAny _ _ (exec (Stmt.While _ _ _ _) _) _ _ _)); (fail_if_success (with_reducible show wpAny _ _ (exec (Stmt.For _ _ _ _ _) _) _ _ _)); (fail_if_success (with_reducible show wpAny _ _ (call (Value.ref _) _) _ _ _)); (fail_if_success (with_reducible show wpAny _ _ (compareOp _ (Value.ref _) (Value.ref _)) _ _ _)); (fail_if_success (with_reducible show wpAny _ _ (exec (Stmt.Assign _ (Expr.ListComp _ _ _ _) _) _) _ _ _)); (fail_if_success (with_reducible show wpAny _ _ (eval (Expr.ListComp _ _ _ _) _) _ _ _)); (first | walk1 | (dsimp only; walk1)); (try dsimp only)) | fail "no step"))
      refine hQQ _ _ (k _ _ (chg_end hg F5) (N5 _ (List.Mem.head _)).1 ?_)
      rw [← hfin, sdLoop, if_neg (by omega)]
      exact hR.set hrv
  · passes_own
end Mine

-- A4
namespace Mine

noncomputable def kidOf (R : List Int) (pos : Nat) : Nat := if 2 * pos + 1 + 1 < R.length ∧ ¬ R.getD (2 * pos + 1) 0 < R.getD (2 * pos + 1 + 1) 0 then 2 * pos + 1 + 1 else 2 * pos + 1

theorem ix_d1 {p n : Nat} (h : 2 * p + 1 < n) : n - (2 * p + 1) < n - p :=
  have h1 := lt_kid p
  Nat.sub_lt_sub_left (Nat.lt_trans h1 h) h1
theorem ix_d2 {p n : Nat} (h : 2 * p + 1 + 1 < n) : n - (2 * p + 1 + 1) < n - p :=
  have h1 := Nat.lt_succ_of_lt (lt_kid p)
  Nat.sub_lt_sub_left (Nat.lt_trans h1 h) h1
theorem kid_d {R : List Int} {p : Nat} {x : Int} (h : 2 * p + 1 < R.length) : (R.set p x).length - kidOf R p < R.length - p := by
  rw [List.length_set]
  unfold kidOf
  split
  · next q => exact ix_d2 q.1
  · exact ix_d1 h

noncomputable def suLoop (R : List Int) (x : Int) (st : Nat) (pos : Nat) : List Int :=
  if 2 * pos + 1 < R.length then suLoop (R.set pos (R.getD (kidOf R pos) 0)) x st (kidOf R pos)
  else sdLoop (R.set pos x) x st pos
termination_by R.length - pos
decreasing_by exact kid_d ‹_›

noncomputable abbrev suM (d : Addr) (en st : Nat) (t0 t1 : Tok) (x : Value) (p : Int) (t : Tok) (c : Int) (tc : Tok) (rp : Option Value) : Str → Option Value := asc [
  (Str.ofString "childpos", some (.int c tc)), (Str.ofString "pos", some (.int p t)), (Str.ofString "rightpos", rp),
  (Str.ofString "newitem", some x), (Str.ofString "startpos", some (.int st t1)), (Str.ofString "endpos", some (.int en t0)), (Str.ofString "heap", some (.ref d))]

noncomputable def suJ (rep : Value → Int → Prop) (d : Addr) (n : Nat) (len st : Nat) (x : Value) (xr : Int) (fin : List Int) (c : Nat) (m : Str → Option Value) (news : List (Addr × Obj)) : Prop :=
  ∃ (p : Nat) (t tc t0 t1 : Tok) (rp : Option Value) (vs : List Value) (R : List Int), m = suM d len st t0 t1 x p t (2 * p + 1) tc rp ∧ news = [(d, lst vs n)] ∧ Are rep vs R ∧ R.length = len ∧ c = len - p ∧ p < len ∧ suLoop R xr st p = fin

noncomputable def suN : List Str := [Str.ofString "childpos", Str.ofString "pos", Str.ofString "rightpos", Str.ofString "newitem", Str.ofString "startpos", Str.ofString "endpos", Str.ofString "heap"]
theorem suJ.mk {rep : Value → Int → Prop} {d : Addr} {n len st c : Nat} {x : Value} {xr : Int} {fin : List Int} {m : Str → Option Value} {p : Nat} {t tc t0 t1 : Tok} {rp : Option Value} {vs : List Value} {R : List Int}
    (h1 : ∀ y ∈ suN, m y = suM d len st t0 t1 x p t (2 * p + 1) tc rp y) (h2 : ∀ y, y ∉ suN → m y = suM d len st t0 t1 x p t (2 * p + 1) tc rp y)
    (hR : Are rep vs R) (hl : R.length = len) (hc : c = len - p) (hp : p < len) (hf : suLoop R xr st p = fin) : suJ rep d n len st x xr fin c m [(d, lst vs n)] :=
  ⟨p, t, tc, t0, t1, rp, vs, R, names_eq suN h1 h2, rfl, hR, hl, hc, hp, hf⟩
theorem step_next {h₀ h' : Heap} {L : Addr} {s : Shared} {J : Nat → (Str → Option Value) → List (Addr × Obj) → Prop} {Q : Flow → Shared → Prop} {n n' tk : Nat} {m₂ : Str → Option Value} {news₂ : List (Addr × Obj)}
    (F : Fr h₀ L h' m₂) (N : News h₀ L h' news₂) (hn : n' < n) (hJ : J n' m₂ news₂) : WhileStep2 h₀ L s J Q n .next { s with heap := h', toks := tk } := ⟨h', tk, m₂, news₂, n', rfl, F, N, hn, hJ⟩



theorem su_step {R : List Int} {x : Int} {st p k : Nat} (h : 2 * p + 1 < R.length) (hk : kidOf R p = k) (hk2 : k < R.length) : suLoop (R.set p R[k]) x st k = suLoop R x st p := by
  conv => rhs; rw [suLoop]
  have e1 : R.getD k 0 = R[k] := by simp [List.getD, List.getElem?_eq_getElem hk2]
  rw [if_pos h, hk, e1]

theorem ix_e1 (p : Nat) : 2 * (p : Int) + 1 = ((2 * p + 1 : Nat) : Int) := rfl
theorem ix_e2 (p : Nat) : 2 * (p : Int) + 1 + 1 = ((2 * p + 1 + 1 : Nat) : Int) := rfl
theorem ix_t1 (p : Nat) : (2 * (p : Int) + 1).toNat = 2 * p + 1 := rfl
theorem ix_t2 (p : Nat) : (2 * (p : Int) + 1 + 1).toNat = 2 * p + 1 + 1 := rfl
theorem siftup_ok {w : World} {mg mb : Str → Option Value} {b : Heap} {A : Around} {s : Shared} {Rr : Result → Shared → Prop} {d : Addr} {vs : List Value} {n : Nat} {p : Nat} {t2 : Tok} {rep : Value → Int → Prop} {R₀ : List Int} {x : Int}
    (G : Gr w mg mb b) (hb : b.StaysIn s.heap) (hd : b.get? d = none) (hl : s.heap.get? d = some (lst vs n)) (hroom : Room 4 A)
    (hlt : LtOK w b rep) (hR : Are rep vs R₀) (hx : R₀[p]? = some x) (hsm : R₀.length < 1000)
    (k : ∀ s' vs', Chg [d] s s' → s'.heap.get? d = some (lst vs' n) → Are rep vs' (suLoop R₀ x p p) → Rr (.ok (.ret .none)) s') :
    codeAny (model Challenge.rw_mj0021_01.row.prog w) A (.call (.ref 63) ⟨[.ref d, .int p t2], []⟩) Rr s := by
  have G' := G.kx
  revert G'
  k_fill
  intro G'
  refine' enter (binds := [(Str.ofString "heap", .ref d), (Str.ofString "pos", .int p t2)]) [(d, lst vs n)] G hb ?h1 ?h2 ?ho ?hcd ?hr ?bi ?lo ?_ ?c1 ?c2 ?c3 ?c4
  case h1 => simpa using hd
  case h2 => simpa using hl
  case ho => k_is
  case hcd => k_is
  case hr => exact Nat.lt_of_le_of_lt (Nat.le_add_right _ _) hroom.1
  case bi => exact BindsTo.of_eq rfl
  case lo => exact locs rfl
  case c1 => exact rfl
  case c2 => exact rfl
  case c3 => exact rfl
  case c4 => decide
  intro g L h₁ G₁ hg F' N'
  have KX := G₁.kx
  have T' := G₁.top
  refine gen_goal fun QQ hQQ => ?_
  have hb2 : b.StaysIn g := fun a o e => hg a o (by intro q; simp at q; subst q; rw [hd] at e; cases e) (hb a o e)
  obtain ⟨v, hv, hrv⟩ := hR.get hx
  have hp := (List.getElem?_eq_some_iff.mp hx).1
  have hvl : vs.length < 1000 := by rw [hR.len]; exact hsm
  (repeat' (first | (k_unfold; (try dsimp only)) | ((fail_if_success (with_reducible show wpAny _ _ (exec (Stmt.While _ _ _ _) _) _ _ _)); (fail_if_success (with_reducible show wpAny _ _ (exec (Stmt.For _ _ _ _ _) _) _ _ _)); (fail_if_success (with_reducible show wpAny _ _ (call (Value.ref _) _) _ _ _)); (fail_if_success (with_reducible show wpAny _ _ (compareOp _ (Value.ref _) (Value.ref _)) _ _ _)); (fail_if_success (with_reducible show wpAny _ _ (exec (Stmt.Assign _ (Expr.ListComp _ _ _ _) _) _) _ _ _)); (fail_if_success (with_reducible show wpAny _ _ (eval (Expr.ListComp _ _ _ _) _) _ _ _)); (first | walk1 | (dsimp only; walk1)); (try dsimp only)) | fail "no step"))
  refine my_len N' (List.Mem.head _) (ix_n hvl) ?_
  (repeat' (first | (k_unfold; (try dsimp only)) | ((fail_if_success (with_reducible show wpAny _ _ (exec (Stmt.While _ _ _ _) _) _ _ _)); (fail_if_success (with_reducible show wpAny _ _ (exec (Stmt.For _ _ _ _ _) _) _ _ _)); (fail_if_success (with_reducible show wpAny _ _ (call (Value.ref _) _) _ _ _)); (fail_if_success (with_reducible show wpAny _ _ (compareOp _ (Value.ref _) (Value.ref _)) _ _ _)); (fail_if_success (with_reducible show wpAny _ _ (exec (Stmt.Assign _ (Expr.ListComp _ _ _ _) _) _) _ _ _)); (fail_if_success (with_reducible show wpAny _ _ (eval (Expr.ListComp _ _ _ _) _) _ _ _)); (first | walk1 | (dsimp only; walk1)); (try dsimp only)) | fail "no step"))
  rename_i h2 F2 N2
  refine my_get (v := v) N2 (List.Mem.head _) (Int.natCast_nonneg p) (ix_s hp hsm) (by simpa using hv) ?_ (by with_unfolding_all rfl)
  (repeat' (first | (k_unfold; (try dsimp only)) | ((fail_if_success (with_reducible show wpAny _ _ (exec (Stmt.While _ _ _ _) _) _ _ _)); (fail_if_success (with_reducible show wpAny _ _ (exec (Stmt.For _ _ _ _ _) _) _ _ _)); (fail_if_success (with_reducible show wpAny _ _ (call (Value.ref _) _) _ _ _)); (fail_if_success (with_reducible show wpAny _ _ (compareOp _ (Value.ref _) (Value.ref _)) _ _ _)); (fail_if_success (with_reducible show wpAny _ _ (exec (Stmt.Assign _ (Expr.ListComp _ _ _ _) _) _) _ _ _)); (fail_if_success (with_reducible show wpAny _ _ (eval (Expr.ListComp _ _ _ _) _) _ _ _)); (first | walk1 | (dsimp only; walk1)); (try dsimp only)) | fail "no step"))
  rename_i h3 F3 N3
  rw [hR.len] at F3
  refine While_inv2 (suJ rep d n R₀.length p v x (suLoop R₀ x p p)) (n₀ := R₀.length - p) F3 N3 ?_ ?_ ?_
  · refine suJ.mk (by (repeat' (first | exact rfl | exact List.forall_mem_nil _ | (refine List.forall_mem_cons.mpr ⟨?_, ?_⟩)))) ?_ hR rfl rfl hp rfl
    (unfold suN; ((intro y hy; (simp only [List.mem_cons, List.not_mem_nil, or_false, not_or] at hy); (simp only [List.reverse_cons, List.reverse_nil, List.nil_append, List.cons_append, Mine.lookup_ite, List.lookup_nil, Mine.asc, hy, if_false]))))
  · intro c m₁ news₁ h₄ tk₄ F₄ N₄ hJ
    refine opq fun GG hGG => ?_
    obtain ⟨p, t, tc, t0, t1, rp, vs, R, rfl, rfl, hR, hlen, rfl, hp, hfin⟩ := hJ
    refine hGG ?_
    clear hGG
    (repeat' (first | (k_unfold; (try dsimp only)) | ((fail_if_success (with_reducible show wpAny _ _ (exec (Stmt.While _ _ _ _) _) _ _ _)); (fail_if_success (with_reducible show wpAny _ _ (exec (Stmt.For _ _ _ _ _) _) _ _ _)); (fail_if_success (with_reducible show wpAny _ _ (call (Value.ref _) _) _ _ _)); (fail_if_success (with_reducible show wpAny _ _ (compareOp _ (Value.ref _) (Value.ref _)) _ _ _)); (fail_if_success (with_reducible show wpAny _ _ (exec (Stmt.Assign _ (Expr.ListComp _ _ _ _) _) _) _ _ _)); (fail_if_success (with_reducible show wpAny _ _ (eval (Expr.ListComp _ _ _ _) _) _ _ _)); (first | walk1 | (dsimp only; walk1)); (try dsimp only)) | fail "no step"))
    · rename_i hc _ h5 F5 N5 hr
      have ha : 2 * p + 1 < R.length := by omega
      have hb5 : 2 * p + 1 + 1 < R.length := by omega
      obtain ⟨va, hva, hrva⟩ := hR.get (List.getElem?_eq_getElem ha)
      obtain ⟨vb, hvb, hrvb⟩ := hR.get (List.getElem?_eq_getElem hb5)
      have ea : R.getD (2 * p + 1) 0 = R[2 * p + 1] := by simp [List.getD, List.getElem?_eq_getElem ha]
      have eb : R.getD (2 * p + 1 + 1) 0 = R[2 * p + 1 + 1] := by simp [List.getD, List.getElem?_eq_getElem hb5]
      refine my_get (v := va) N5 (List.Mem.head _) (Int.natCast_nonneg (2 * p + 1)) (ix_s (hlen ▸ ha : 2 * p + 1 < R₀.length) hsm) (by rw [ix_t1]; exact hva) ?_ (by with_unfolding_all rfl)
      (repeat' (first | (k_unfold; (try dsimp only)) | ((fail_if_success (with_reducible show wpAny _ _ (exec (Stmt.While _ _ _ _) _) _ _ _)); (fail_if_success (with_reducible show wpAny _ _ (exec (Stmt.For _ _ _ _ _) _) _ _ _)); (fail_if_success (with_reducible show wpAny _ _ (call (Value.ref _) _) _ _ _)); (fail_if_success (with_reducible show wpAny _ _ (compareOp _ (Value.ref _) (Value.ref _)) _ _ _)); (fail_if_success (with_reducible show wpAny _ _ (exec (Stmt.Assign _ (Expr.ListComp _ _ _ _) _) _) _ _ _)); (fail_if_success (with_reducible show wpAny _ _ (eval (Expr.ListComp _ _ _ _) _) _ _ _)); (first | walk1 | (dsimp only; walk1)); (try dsimp only)) | fail "no step"))
      refine my_get (v := vb) N5 (List.Mem.head _) (Int.natCast_nonneg (2 * p + 1 + 1)) (ix_s (hlen ▸ hb5 : 2 * p + 1 + 1 < R₀.length) hsm) (by rw [ix_t2]; exact hvb) ?_ (by with_unfolding_all rfl)
      (repeat' (first | (k_unfold; (try dsimp only)) | ((fail_if_success (with_reducible show wpAny _ _ (exec (Stmt.While _ _ _ _) _) _ _ _)); (fail_if_success (with_reducible show wpAny _ _ (exec (Stmt.For _ _ _ _ _) _) _ _ _)); (fail_if_success (with_reducible show wpAny _ _ (call (Value.ref _) _) _ _ _)); (fail_if_success (with_reducible show wpAny _ _ (compareOp _ (Value.ref _) (Value.ref _)) _ _ _)); (fail_if_success (with_reducible show wpAny _ _ (exec (Stmt.Assign _ (Expr.ListComp _ _ _ _) _) _) _ _ _)); (fail_if_success (with_reducible show wpAny _ _ (eval (Expr.ListComp _ _ _ _) _) _ _ _)); (first | walk1 | (dsimp only; walk1)); (try dsimp only)) | fail "no step"))
      refine hlt (fun a o e => F5.keep a o (hb2 a o e)) (hroom.units (k := 13) (by decide)) hrva hrvb fun tk => ?_
      (repeat' (first | (k_unfold; (try dsimp only)) | ((fail_if_success (with_reducible show wpAny _ _ (exec (Stmt.While _ _ _ _) _) _ _ _)); (fail_if_success (with_reducible show wpAny _ _ (exec (Stmt.For _ _ _ _ _) _) _ _ _)); (fail_if_success (with_reducible show wpAny _ _ (call (Value.ref _) _) _ _ _)); (fail_if_success (with_reducible show wpAny _ _ (compareOp _ (Value.ref _) (Value.ref _)) _ _ _)); (fail_if_success (with_reducible show wpAny _ _ (exec (Stmt.Assign _ (Expr.ListComp _ _ _ _) _) _) _ _ _)); (fail_if_success (with_reducible show wpAny _ _ (eval (Expr.ListComp _ _ _ _) _) _ _ _)); (first | walk1 | (dsimp only; walk1)); (try dsimp only)) | fail "no step"))
      · rename_i hlt5
        have hk2 := ha
        have hkid : kidOf R p = 2 * p + 1 := by unfold kidOf; rw [ea, eb, if_neg (by intro q; exact q.2 hlt5)]
        obtain ⟨vk, hvk, hrvk⟩ := hR.get (List.getElem?_eq_getElem hk2)
        refine my_get (v := vk) N5 (List.Mem.head _) (Int.natCast_nonneg (2 * p + 1)) (ix_s (hlen ▸ hk2 : 2 * p + 1 < R₀.length) hsm) (by rw [ix_t1]; exact hvk) ?_ (by with_unfolding_all rfl)
        (repeat' (first | (k_unfold; (try dsimp only)) | ((fail_if_success (with_reducible show wpAny _ _ (exec (Stmt.While _ _ _ _) _) _ _ _)); (fail_if_success (with_reducible show wpAny _ _ (exec (Stmt.For _ _ _ _ _) _) _ _ _)); (fail_if_success (with_reducible show wpAny _ _ (call (Value.ref _) _) _ _ _)); (fail_if_success (with_reducible show wpAny _ _ (compareOp _ (Value.ref _) (Value.ref _)) _ _ _)); (fail_if_success (with_reducible show wpAny _ _ (exec (Stmt.Assign _ (Expr.ListComp _ _ _ _) _) _) _ _ _)); (fail_if_success (with_reducible show wpAny _ _ (eval (Expr.ListComp _ _ _ _) _) _ _ _)); (first | walk1 | (dsimp only; walk1)); (try dsimp only)) | fail "no step"))
        refine my_set F5 N5 (.head (List.forall_mem_nil _)) (Int.natCast_nonneg p) (ix_s hp hsm) (Int.ofNat_lt.mpr (by rw [hR.len, hlen]; exact hp)) fun h8 F8 N8 => ?_
        (repeat' (first | (k_unfold; (try dsimp only)) | ((fail_if_success (with_reducible show wpAny _ _ (exec (Stmt.While _ _ _ _) _) _ _ _)); (fail_if_success (with_reducible show wpAny _ _ (exec (Stmt.For _ _ _ _ _) _) _ _ _)); (fail_if_success (with_reducible show wpAny _ _ (call (Value.ref _) _) _ _ _)); (fail_if_success (with_reducible show wpAny _ _ (compareOp _ (Value.ref _) (Value.ref _)) _ _ _)); (fail_if_success (with_reducible show wpAny _ _ (exec (Stmt.Assign _ (Expr.ListComp _ _ _ _) _) _) _ _ _)); (fail_if_success (with_reducible show wpAny _ _ (eval (Expr.ListComp _ _ _ _) _) _ _ _)); (first | walk1 | (dsimp only; walk1)); (try dsimp only)) | fail "no step"))
        rename_i h9 F9 N9
        rw [ix_e1] at F9
        refine step_next F9 N9 (n' := R₀.length - (2 * p + 1)) (ix_d1 (hlen ▸ hk2)) (suJ.mk (p := 2 * p + 1) (by (repeat' (first | exact rfl | exact List.forall_mem_nil _ | (refine List.forall_mem_cons.mpr ⟨?_, ?_⟩)))) ?_ (hR.set hrvk) ((List.length_set ..).trans hlen) rfl (hlen ▸ hk2) ?_)
        · (unfold suN; ((intro y hy; (simp only [List.mem_cons, List.not_mem_nil, or_false, not_or] at hy); (simp only [List.reverse_cons, List.reverse_nil, List.nil_append, List.cons_append, Mine.lookup_ite, List.lookup_nil, Mine.asc, hy, if_false]))))
        · rw [Int.toNat_natCast, ← hfin]
          exact su_step ha hkid hk2
      · rename_i hlt5 h7 F7 N7
        have hk2 := hb5
        have hkid : kidOf R p = 2 * p + 1 + 1 := by unfold kidOf; rw [ea, eb, if_pos ⟨hb5, hlt5⟩]
        obtain ⟨vk, hvk, hrvk⟩ := hR.get (List.getElem?_eq_getElem hk2)
        refine my_get (v := vk) N7 (List.Mem.head _) (Int.natCast_nonneg (2 * p + 1 + 1)) (ix_s (hlen ▸ hk2 : 2 * p + 1 + 1 < R₀.length) hsm) (by rw [ix_t2]; exact hvk) ?_ (by with_unfolding_all rfl)
        (repeat' (first | (k_unfold; (try dsimp only)) | ((fail_if_success (with_reducible show wpAny _ _ (exec (Stmt.While _ _ _ _) _) _ _ _)); (fail_if_success (with_reducible show wpAny _ _ (exec (Stmt.For _ _ _ _ _) _) _ _ _)); (fail_if_success (with_reducible show wpAny _ _ (call (Value.ref _) _) _ _ _)); (fail_if_success (with_reducible show wpAny _ _ (compareOp _ (Value.ref _) (Value.ref _)) _ _ _)); (fail_if_success (with_reducible show wpAny _ _ (exec (Stmt.Assign _ (Expr.ListComp _ _ _ _) _) _) _ _ _)); (fail_if_success (with_reducible show wpAny _ _ (eval (Expr.ListComp _ _ _ _) _) _ _ _)); (first | walk1 | (dsimp only; walk1)); (try dsimp only)) | fail "no step"))
        refine my_set F7 N7 (.head (List.forall_mem_nil _)) (Int.natCast_nonneg p) (ix_s hp hsm) (Int.ofNat_lt.mpr (by rw [hR.len, hlen]; exact hp)) fun h8 F8 N8 => ?_
        (repeat' (first | (k_unfold; (try dsimp only)) | ((fail_if_success (with_reducible show wpAny _ _ (exec (Stmt.While _ _ _ _) _) _ _ _)); (fail_if_success (with_reducible show wpAny _ _ (exec (Stmt.For _ _ _ _ _) _) _ _ _)); (fail_if_success (with_reducible show wpAny _ _ (call (Value.ref _) _) _ _ _)); (fail_if_success (with_reducible show wpAny _ _ (compareOp _ (Value.ref _) (Value.ref _)) _ _ _)); (fail_if_success (with_reducible show wpAny _ _ (exec (Stmt.Assign _ (Expr.ListComp _ _ _ _) _) _) _ _ _)); (fail_if_success (with_reducible show wpAny _ _ (eval (Expr.ListComp _ _ _ _) _) _ _ _)); (first | walk1 | (dsimp only; walk1)); (try dsimp only)) | fail "no step"))
        rename_i h9 F9 N9
        rw [ix_e2] at F9
        refine step_next F9 N9 (n' := R₀.length - (2 * p + 1 + 1)) (ix_d2 (hlen ▸ hk2)) (suJ.mk (p := 2 * p + 1 + 1) (by (repeat' (first | exact rfl | exact List.forall_mem_nil _ | (refine List.forall_mem_cons.mpr ⟨?_, ?_⟩)))) ?_ (hR.set hrvk) ((List.length_set ..).trans hlen) rfl (hlen ▸ hk2) ?_)
        · (unfold suN; ((intro y hy; (simp only [List.mem_cons, List.not_mem_nil, or_false, not_or] at hy); (simp only [List.reverse_cons, List.reverse_nil, List.nil_append, List.cons_append, Mine.lookup_ite, List.lookup_nil, Mine.asc, hy, if_false]))))
        · rw [Int.toNat_natCast, ← hfin]
          exact su_step ha hkid hk2
    · rename_i hc _ h5 F5 N5 hr
      have hk2 : 2 * p + 1 < R.length := by omega
      have hkid : kidOf R p = 2 * p + 1 := by unfold kidOf; rw [if_neg (by omega)]
      obtain ⟨vk, hvk, hrvk⟩ := hR.get (List.getElem?_eq_getElem hk2)
      refine my_get (v := vk) N5 (List.Mem.head _) (Int.natCast_nonneg (2 * p + 1)) (ix_s (hlen ▸ hk2 : 2 * p + 1 < R₀.length) hsm) (by rw [ix_t1]; exact hvk) ?_ (by with_unfolding_all rfl)
      (repeat' (first | (k_unfold; (try dsimp only)) | ((fail_if_success (with_reducible show wpAny _ _ (exec (Stmt.While _ _ _ _) _) _ _ _)); (fail_if_success (with_reducible show wpAny _ _ (exec (Stmt.For _ _ _ _ _) _) _ _ _)); (fail_if_success (with_reducible show wpAny _ _ (call (Value.ref _) _) _ _ _)); (fail_if_success (with_reducible show wpAny _ _ (compareOp _ (Value.ref _) (Value.ref _)) _ _ _)); (fail_if_success (with_reducible show wpAny _ _ (exec (Stmt.Assign _ (Expr.ListComp _ _ _ _) _) _) _ _ _)); (fail_if_success (with_reducible show wpAny _ _ (eval (Expr.ListComp _ _ _ _) _) _ _ _)); (first | walk1 | (dsimp only; walk1)); (try dsimp only)) | fail "no step"))
      refine my_set F5 N5 (.head (List.forall_mem_nil _)) (Int.natCast_nonneg p) (ix_s hp hsm) (Int.ofNat_lt.mpr (by rw [hR.len, hlen]; exact hp)) fun h8 F8 N8 => ?_
      (repeat' (first | (k_unfold; (try dsimp only)) | ((fail_if_success (with_reducible show wpAny _ _ (exec (Stmt.While _ _ _ _) _) _ _ _)); (fail_if_success (with_reducible show wpAny _ _ (exec (Stmt.For _ _ _ _ _) _) _ _ _)); (fail_if_success (with_reducible show wpAny _ _ (call (Value.ref _) _) _ _ _)); (fail_if_success (with_reducible show wpAny _ _ (compareOp _ (Value.ref _) (Value.ref _)) _ _ _)); (fail_if_success (with_reducible show wpAny _ _ (exec (Stmt.Assign _ (Expr.ListComp _ _ _ _) _) _) _ _ _)); (fail_if_success (with_reducible show wpAny _ _ (eval (Expr.ListComp _ _ _ _) _) _ _ _)); (first | walk1 | (dsimp only; walk1)); (try dsimp only)) | fail "no step"))
      rename_i h9 F9 N9
      rw [ix_e1] at F9
      refine step_next F9 N9 (n' := R₀.length - (2 * p + 1)) (ix_d1 (hlen ▸ hk2)) (suJ.mk (p := 2 * p + 1) (by (repeat' (first | exact rfl | exact List.forall_mem_nil _ | (refine List.forall_mem_cons.mpr ⟨?_, ?_⟩)))) ?_ (hR.set hrvk) ((List.length_set ..).trans hlen) rfl (hlen ▸ hk2) ?_)
      · (unfold suN; ((intro y hy; (simp only [List.mem_cons, List.not_mem_nil, or_false, not_or] at hy); (simp only [List.reverse_cons, List.reverse_nil, List.nil_append, List.cons_append, Mine.lookup_ite, List.lookup_nil, Mine.asc, hy, if_false]))))
      · rw [Int.toNat_natCast, ← hfin]
        exact su_step hk2 hkid hk2
    · rename_i hge
      refine my_set F₄ N₄ (.head (List.forall_mem_nil _)) (Int.natCast_nonneg p) (ix_s hp hsm) (Int.ofNat_lt.mpr (by rw [hR.len, hlen]; exact hp)) fun h5 F5 N5 => ?_
      (repeat' (first | (k_unfold; (try dsimp only)) | ((fail_if_success (with_reducible show wpAny _ _ (exec (Stmt.While _ _ _ _) _) _ _ _)); (fail_if_success (with_reducible show wpAny _ _ (exec (Stmt.For _ _ _ _ _) _) _ _ _)); (fail_if_success (with_reducible show wpAny _ _ (call (Value.ref _) _) _ _ _)); (fail_if_success (with_reducible show wpAny _ _ (compareOp _ (Value.ref _) (Value.ref _)) _ _ _)); (fail_if_success (with_reducible show wpAny _ _ (exec (Stmt.Assign _ (Expr.ListComp _ _ _ _) _) _) _ _ _)); (fail_if_success (with_reducible show wpAny _ _ (eval (Expr.ListComp _ _ _ _) _) _ _ _)); (first | walk1 | (dsimp only; walk1)); (try dsimp only)) | fail "no step"))
      have hgd : g.get? d = none := (N5 _ (List.Mem.head _)).2.2
      refine wpAny_call (siftdown_ok (R := R.set p x) (x := x) G₁ F5.keep hgd (N5 _ (List.Mem.head _)).1 (hroom.call (by decide)) (hlt.mono hb2) (hR.set hrv) ?_ ?_ fun s' vs' hch hls hRs => ?_)
      · rw [List.getElem?_set_self (hlen.symm ▸ hp)]
      · rw [List.length_set, hlen]; exact hsm
      · obtain ⟨h6, tk6, rfl, hk6⟩ := hch
        have F6 := fr_chg F5 (fun q hq => by rw [List.mem_singleton.mp hq]; exact (N5 _ (List.Mem.head _)).2.symm) hk6
        dsimp only
        (repeat' (first | (k_unfold; (try dsimp only)) | ((fail_if_success (with_reducible show wpAny _ _ (exec (Stmt.While _ _ _ _) _) _ _ _)); (fail_if_success (with_reducible show wpAny _ _ (exec (Stmt.For _ _ _ _ _) _) _ _ _)); (fail_if_success (with_reducible show wpAny _ _ (call (Value.ref _) _) _ _ _)); (fail_if_success (with_reducible show wpAny _ _ (compareOp _ (Value.ref _) (Value.ref _)) _ _ _)); (fail_if_success (with_reducible show wpAny _ _ (exec (Stmt.Assign _ (Expr.ListComp _ _ _ _) _) _) _ _ _)); (fail_if_success (with_reducible show wpAny _ _ (eval (Expr.ListComp _ _ _ _) _) _ _ _)); (first | walk1 | (dsimp only; walk1)); (try dsimp only)) | fail "no step"))
        refine hQQ _ _ (k _ _ (chg_end hg F6) hls ?_)
        rw [← hfin, suLoop, if_neg (by omega)]
        exact hRs
  · passes_own
end Mine

-- A5
namespace Mine



theorem Are.push {rep : Value → Int → Prop} {vs : List Value} {R : List Int} {v : Value} {x : Int} (h : Are rep vs R) (hx : rep v x) : Are rep (vs ++ [v]) (R ++ [x]) := by
  refine ⟨by simp [h.len], fun i v' r' hv hr => ?_⟩
  rw [List.getElem?_append] at hv hr
  rw [h.len] at hv
  split at hv
  · rw [if_pos (by assumption)] at hr
    exact h.at' i _ _ hv hr
  · rw [if_neg (by assumption)] at hr
    cases e : i - R.length with
    | zero => rw [e] at hv hr; cases hv; cases hr; exact hx
    | succ j => rw [e] at hv; cases hv

theorem heappush_ok {w : World} {mg mb : Str → Option Value} {b : Heap} {A : Around} {s : Shared} {Rr : Result → Shared → Prop} {d : Addr} {vs : List Value} {n : Nat} {v : Value} {rep : Value → Int → Prop} {R : List Int} {x : Int}
    (G : Gr w mg mb b) (hb : b.StaysIn s.heap) (hd : b.get? d = none) (hl : s.heap.get? d = some (lst vs n)) (hroom : Room 4 A)
    (hlt : LtOK w b rep) (hR : Are rep vs R) (hx : rep v x) (hsm : R.length < 999)
    (k : ∀ s' vs', Chg [d] s s' → s'.heap.get? d = some (lst vs' (n + 1)) → Are rep vs' (sdLoop (R ++ [x]) x 0 R.length) → Rr (.ok (.ret .none)) s') :
    codeAny (model Challenge.rw_mj0021_01.row.prog w) A (.call (.ref 21) ⟨[.ref d, v], []⟩) Rr s := by
  have G' := G.kx
  revert G'
  k_fill
  intro G'
  refine' enter (binds := [(Str.ofString "heap", .ref d), (Str.ofString "item", v)]) [(d, lst vs n)] G hb ?h1 ?h2 ?ho ?hcd ?hr ?bi ?lo ?_ ?c1 ?c2 ?c3 ?c4
  case h1 => simpa using hd
  case h2 => simpa using hl
  case ho => k_is
  case hcd => k_is
  case hr => exact Nat.lt_of_le_of_lt (Nat.le_add_right _ _) hroom.1
  case bi => exact BindsTo.of_eq rfl
  case lo => exact locs rfl
  case c1 => exact rfl
  case c2 => exact rfl
  case c3 => exact rfl
  case c4 => decide
  intro g L h₁ G₁ hg F' N'
  have KX := G₁.kx
  have T' := G₁.top
  refine gen_goal fun QQ hQQ => ?_
  have hb2 : b.StaysIn g := fun a o e => hg a o (by intro q; simp at q; subst q; rw [hd] at e; cases e) (hb a o e)
  have hvl : vs.length < 999 := by rw [hR.len]; exact hsm
  (repeat' (first | (k_unfold; (try dsimp only)) | ((fail_if_success (with_reducible show wpAny _ _ (exec (Stmt.While _ _ _ _) _) _ _ _)); (fail_if_success (with_reducible show wpAny _ _ (exec (Stmt.For _ _ _ _ _) _) _ _ _)); (fail_if_success (with_reducible show wpAny _ _ (call (Value.ref _) _) _ _ _)); (fail_if_success (with_reducible show wpAny _ _ (compareOp _ (Value.ref _) (Value.ref _)) _ _ _)); (fail_if_success (with_reducible show wpAny _ _ (exec (Stmt.Assign _ (Expr.ListComp _ _ _ _) _) _) _ _ _)); (fail_if_success (with_reducible show wpAny _ _ (eval (Expr.ListComp _ _ _ _) _) _ _ _)); (first | walk1 | (dsimp only; walk1)); (try dsimp only)) | fail "no step"))
  rename_i h2 F2 N2
  refine my_len N2 (List.Mem.head _) (by simp; omega) ?_
  (repeat' (first | (k_unfold; (try dsimp only)) | ((fail_if_success (with_reducible show wpAny _ _ (exec (Stmt.While _ _ _ _) _) _ _ _)); (fail_if_success (with_reducible show wpAny _ _ (exec (Stmt.For _ _ _ _ _) _) _ _ _)); (fail_if_success (with_reducible show wpAny _ _ (call (Value.ref _) _) _ _ _)); (fail_if_success (with_reducible show wpAny _ _ (compareOp _ (Value.ref _) (Value.ref _)) _ _ _)); (fail_if_success (with_reducible show wpAny _ _ (exec (Stmt.Assign _ (Expr.ListComp _ _ _ _) _) _) _ _ _)); (fail_if_success (with_reducible show wpAny _ _ (eval (Expr.ListComp _ _ _ _) _) _ _ _)); (first | walk1 | (dsimp only; walk1)); (try dsimp only)) | fail "no step"))
  have hgd : g.get? d = none := (N2 _ (List.Mem.head _)).2.2
  rw [show (((vs ++ [v]).length : Nat) : Int) - 1 = ((R.length : Nat) : Int) from by rw [List.length_append, hR.len]; simp]
  refine wpAny_call (siftdown_ok (st := 0) (p := R.length) (R := R ++ [x]) (x := x) G₁ F2.keep hgd (N2 _ (List.Mem.head _)).1 (hroom.call (by decide)) (hlt.mono hb2) (hR.push hx) ?_ ?_ fun s' vs' hch hls hRs => ?_)
  · simp
  · simp; omega
  · obtain ⟨h6, tk6, rfl, hk6⟩ := hch
    have F6 := fr_chg F2 (fun q hq => by rw [List.mem_singleton.mp hq]; exact (N2 _ (List.Mem.head _)).2.symm) hk6
    dsimp only
    (repeat' (first | (k_unfold; (try dsimp only)) | ((fail_if_success (with_reducible show wpAny _ _ (exec (Stmt.While _ _ _ _) _) _ _ _)); (fail_if_success (with_reducible show wpAny _ _ (exec (Stmt.For _ _ _ _ _) _) _ _ _)); (fail_if_success (with_reducible show wpAny _ _ (call (Value.ref _) _) _ _ _)); (fail_if_success (with_reducible show wpAny _ _ (compareOp _ (Value.ref _) (Value.ref _)) _ _ _)); (fail_if_success (with_reducible show wpAny _ _ (exec (Stmt.Assign _ (Expr.ListComp _ _ _ _) _) _) _ _ _)); (fail_if_success (with_reducible show wpAny _ _ (eval (Expr.ListComp _ _ _ _) _) _ _ _)); (first | walk1 | (dsimp only; walk1)); (try dsimp only)) | fail "no step"))
    exact hQQ _ _ (k _ _ (chg_end hg F6) hls hRs)
end Mine

-- A6
namespace Mine



noncomputable def ppR (R : List Int) (x : Int) : Int × List Int := match R with
  | [] => (x, [])
  | r :: t => if r < x then (r, suLoop (x :: t) x 0 0) else (x, r :: t)

theorem heappushpop_ok {w : World} {mg mb : Str → Option Value} {b : Heap} {A : Around} {s : Shared} {Rr : Result → Shared → Prop} {d : Addr} {vs : List Value} {n : Nat} {v : Value} {rep : Value → Int → Prop} {R : List Int} {x : Int}
    (G : Gr w mg mb b) (hb : b.StaysIn s.heap) (hd : b.get? d = none) (hl : s.heap.get? d = some (lst vs n)) (hroom : Room 6 A) (hh : A.handled = none)
    (hlt : LtOK w b rep) (hR : Are rep vs R) (hx : rep v x) (hsm : R.length < 999)
    (k : ∀ s' vs' v', Chg [d] s s' → s'.heap.get? d = some (lst vs' n) → Are rep vs' (ppR R x).2 → rep v' (ppR R x).1 → Rr (.ok (.ret v')) s') :
    codeAny (model Challenge.rw_mj0021_01.row.prog w) A (.call (.ref 42) ⟨[.ref d, v], []⟩) Rr s := by
  have G' := G.kx
  revert G'
  k_fill
  intro G'
  refine' enter (binds := [(Str.ofString "heap", .ref d), (Str.ofString "item", v)]) [(d, lst vs n)] G hb ?h1 ?h2 ?ho ?hcd ?hr ?bi ?lo ?_ ?c1 ?c2 ?c3 ?c4
  case h1 => simpa using hd
  case h2 => simpa using hl
  case ho => k_is
  case hcd => k_is
  case hr => exact Nat.lt_of_le_of_lt (Nat.le_add_right _ _) hroom.1
  case bi => exact BindsTo.of_eq rfl
  case lo => exact locs rfl
  case c1 => exact rfl
  case c2 => exact rfl
  case c3 => exact rfl
  case c4 => decide
  intro g L h₁ G₁ hg F' N'
  have KX := G₁.kx
  have T' := G₁.top
  refine gen_goal fun QQ hQQ => ?_
  have hb2 : b.StaysIn g := fun a o e => hg a o (by intro q; simp at q; subst q; rw [hd] at e; cases e) (hb a o e)
  have hvl : vs.length < 999 := by rw [hR.len]; exact hsm
  (repeat' (first | (k_unfold; (try dsimp only)) | ((fail_if_success (with_reducible show wpAny _ _ (exec (Stmt.While _ _ _ _) _) _ _ _)); (fail_if_success (with_reducible show wpAny _ _ (exec (Stmt.For _ _ _ _ _) _) _ _ _)); (fail_if_success (with_reducible show wpAny _ _ (call (Value.ref _) _) _ _ _)); (fail_if_success (with_reducible show wpAny _ _ (compareOp _ (Value.ref _) (Value.ref _)) _ _ _)); (fail_if_success (with_reducible show wpAny _ _ (exec (Stmt.Assign _ (Expr.ListComp _ _ _ _) _) _) _ _ _)); (fail_if_success (with_reducible show wpAny _ _ (eval (Expr.ListComp _ _ _ _) _) _ _ _)); (first | walk1 | (dsimp only; walk1)); (try dsimp only)) | fail "no step"))
  · rename_i he
    have e1 : R = [] := by
      have e2 := hR.len
      rw [List.isEmpty_iff.mp he] at e2
      exact List.eq_nil_of_length_eq_zero e2.symm
    subst e1
    exact hQQ _ _ (k _ _ _ (chg_end hg F') (N' _ (List.Mem.head _)).1 hR hx)
  · rename_i he
    cases R with
    | nil =>
      rw [List.eq_nil_of_length_eq_zero hR.len] at he
      cases he
    | cons r t =>
      obtain ⟨v0, hv0, hrv0⟩ := hR.get (i := 0) (r := r) rfl
      have hvl0 : 0 < vs.length := by rw [hR.len]; simp
      refine my_get (v := v0) N' (List.Mem.head _) (by decide) (by decide) hv0 ?_ (by with_unfolding_all rfl)
      (repeat' (first | (k_unfold; (try dsimp only)) | ((fail_if_success (with_reducible show wpAny _ _ (exec (Stmt.While _ _ _ _) _) _ _ _)); (fail_if_success (with_reducible show wpAny _ _ (exec (Stmt.For _ _ _ _ _) _) _ _ _)); (fail_if_success (with_reducible show wpAny _ _ (call (Value.ref _) _) _ _ _)); (fail_if_success (with_reducible show wpAny _ _ (compareOp _ (Value.ref _) (Value.ref _)) _ _ _)); (fail_if_success (with_reducible show wpAny _ _ (exec (Stmt.Assign _ (Expr.ListComp _ _ _ _) _) _) _ _ _)); (fail_if_success (with_reducible show wpAny _ _ (eval (Expr.ListComp _ _ _ _) _) _ _ _)); (first | walk1 | (dsimp only; walk1)); (try dsimp only)) | fail "no step"))
      refine hlt (fun a o e => F'.keep a o (hb2 a o e)) (hroom.units (k := 13) (by decide)) hrv0 hx fun tk => ?_
      (repeat' (first | (k_unfold; (try dsimp only)) | ((fail_if_success (with_reducible show wpAny _ _ (exec (Stmt.While _ _ _ _) _) _ _ _)); (fail_if_success (with_reducible show wpAny _ _ (exec (Stmt.For _ _ _ _ _) _) _ _ _)); (fail_if_success (with_reducible show wpAny _ _ (call (Value.ref _) _) _ _ _)); (fail_if_success (with_reducible show wpAny _ _ (compareOp _ (Value.ref _) (Value.ref _)) _ _ _)); (fail_if_success (with_reducible show wpAny _ _ (exec (Stmt.Assign _ (Expr.ListComp _ _ _ _) _) _) _ _ _)); (fail_if_success (with_reducible show wpAny _ _ (eval (Expr.ListComp _ _ _ _) _) _ _ _)); (first | walk1 | (dsimp only; walk1)); (try dsimp only)) | fail "no step"))
      · rename_i hlt2
        refine my_get (v := v0) N' (List.Mem.head _) (by decide) (by decide) hv0 ?_ (by with_unfolding_all rfl)
        (repeat' (first | (k_unfold; (try dsimp only)) | ((fail_if_success (with_reducible show wpAny _ _ (exec (Stmt.While _ _ _ _) _) _ _ _)); (fail_if_success (with_reducible show wpAny _ _ (exec (Stmt.For _ _ _ _ _) _) _ _ _)); (fail_if_success (with_reducible show wpAny _ _ (call (Value.ref _) _) _ _ _)); (fail_if_success (with_reducible show wpAny _ _ (compareOp _ (Value.ref _) (Value.ref _)) _ _ _)); (fail_if_success (with_reducible show wpAny _ _ (exec (Stmt.Assign _ (Expr.ListComp _ _ _ _) _) _) _ _ _)); (fail_if_success (with_reducible show wpAny _ _ (eval (Expr.ListComp _ _ _ _) _) _ _ _)); (first | walk1 | (dsimp only; walk1)); (try dsimp only)) | fail "no step"))
        rename_i D2 h2 F2 N2 lt2
        refine unpackN_ F2 N2 (N2.isTup (List.Mem.head _)) hh rfl rfl fun h3 F3 N3 => ?_
        (repeat' (first | (k_unfold; (try dsimp only)) | ((fail_if_success (with_reducible show wpAny _ _ (exec (Stmt.While _ _ _ _) _) _ _ _)); (fail_if_success (with_reducible show wpAny _ _ (exec (Stmt.For _ _ _ _ _) _) _ _ _)); (fail_if_success (with_reducible show wpAny _ _ (call (Value.ref _) _) _ _ _)); (fail_if_success (with_reducible show wpAny _ _ (compareOp _ (Value.ref _) (Value.ref _)) _ _ _)); (fail_if_success (with_reducible show wpAny _ _ (exec (Stmt.Assign _ (Expr.ListComp _ _ _ _) _) _) _ _ _)); (fail_if_success (with_reducible show wpAny _ _ (eval (Expr.ListComp _ _ _ _) _) _ _ _)); (first | walk1 | (dsimp only; walk1)); (try dsimp only)) | fail "no step"))
        rename_i h4 F4 N4
        refine my_set F4 N4 (.tail (Nat.ne_of_gt lt2) (.head (List.forall_mem_nil _))) (by decide) (by decide) (Int.natCast_pos.mpr hvl0) fun h5 F5 N5 => ?_
        (repeat' (first | (k_unfold; (try dsimp only)) | ((fail_if_success (with_reducible show wpAny _ _ (exec (Stmt.While _ _ _ _) _) _ _ _)); (fail_if_success (with_reducible show wpAny _ _ (exec (Stmt.For _ _ _ _ _) _) _ _ _)); (fail_if_success (with_reducible show wpAny _ _ (call (Value.ref _) _) _ _ _)); (fail_if_success (with_reducible show wpAny _ _ (compareOp _ (Value.ref _) (Value.ref _)) _ _ _)); (fail_if_success (with_reducible show wpAny _ _ (exec (Stmt.Assign _ (Expr.ListComp _ _ _ _) _) _) _ _ _)); (fail_if_success (with_reducible show wpAny _ _ (eval (Expr.ListComp _ _ _ _) _) _ _ _)); (first | walk1 | (dsimp only; walk1)); (try dsimp only)) | fail "no step"))
        have M5 : News g L h5 [(d, lst (vs.set 0 v) n)] := fun p hp => N5 p (.tail _ hp)
        refine wpAny_call (siftup_ok (p := 0) (R₀ := x :: t) (x := x) G₁ F5.keep (M5 _ (List.Mem.head _)).2.2 (M5 _ (List.Mem.head _)).1 (hroom.call (by decide)) (hlt.mono hb2) (hR.set hx) ?_ ?_ fun s' vs' hch hls hRs => ?_)
        · rfl
        · exact Nat.lt_trans (show (x :: t).length < 999 from hsm) (by decide)
        · obtain ⟨h6, tk6, rfl, hk6⟩ := hch
          have F6 := fr_chg F5 (fun q hq => by rw [List.mem_singleton.mp hq]; exact (M5 _ (List.Mem.head _)).2.symm) hk6
          dsimp only
          (repeat' (first | (k_unfold; (try dsimp only)) | ((fail_if_success (with_reducible show wpAny _ _ (exec (Stmt.While _ _ _ _) _) _ _ _)); (fail_if_success (with_reducible show wpAny _ _ (exec (Stmt.For _ _ _ _ _) _) _ _ _)); (fail_if_success (with_reducible show wpAny _ _ (call (Value.ref _) _) _ _ _)); (fail_if_success (with_reducible show wpAny _ _ (compareOp _ (Value.ref _) (Value.ref _)) _ _ _)); (fail_if_success (with_reducible show wpAny _ _ (exec (Stmt.Assign _ (Expr.ListComp _ _ _ _) _) _) _ _ _)); (fail_if_success (with_reducible show wpAny _ _ (eval (Expr.ListComp _ _ _ _) _) _ _ _)); (first | walk1 | (dsimp only; walk1)); (try dsimp only)) | fail "no step"))
          exact hQQ _ _ (k _ _ _ (chg_end hg F6) hls (by rw [ppR, if_pos hlt2]; exact hRs) (by rw [ppR, if_pos hlt2]; exact hrv0))
      · rename_i hlt2
        refine hQQ _ _ (k _ _ _ (chg_end hg F') (N' _ (List.Mem.head _)).1 ?_ ?_)
        · rw [ppR, if_neg hlt2]; exact hR
        · rw [ppR, if_neg hlt2]; exact hx

theorem heapreplace_ok {w : World} {mg mb : Str → Option Value} {b : Heap} {A : Around} {s : Shared} {Rr : Result → Shared → Prop} {d : Addr} {vs : List Value} {n : Nat} {v : Value} {rep : Value → Int → Prop} {R : List Int} {x r : Int}
    (G : Gr w mg mb b) (hb : b.StaysIn s.heap) (hd : b.get? d = none) (hl : s.heap.get? d = some (lst vs n)) (hroom : Room 6 A)
    (hlt : LtOK w b rep) (hR : Are rep vs (r :: R)) (hx : rep v x) (hsm : R.length < 999)
    (k : ∀ s' vs' v', Chg [d] s s' → s'.heap.get? d = some (lst vs' n) → Are rep vs' (suLoop (x :: R) x 0 0) → rep v' r → Rr (.ok (.ret v')) s') :
    codeAny (model Challenge.rw_mj0021_01.row.prog w) A (.call (.ref 35) ⟨[.ref d, v], []⟩) Rr s := by
  have G' := G.kx
  revert G'
  k_fill
  intro G'
  refine' enter (binds := [(Str.ofString "heap", .ref d), (Str.ofString "item", v)]) [(d, lst vs n)] G hb ?h1 ?h2 ?ho ?hcd ?hr ?bi ?lo ?_ ?c1 ?c2 ?c3 ?c4
  case h1 => simpa using hd
  case h2 => simpa using hl
  case ho => k_is
  case hcd => k_is
  case hr => exact Nat.lt_of_le_of_lt (Nat.le_add_right _ _) hroom.1
  case bi => exact BindsTo.of_eq rfl
  case lo => exact locs rfl
  case c1 => exact rfl
  case c2 => exact rfl
  case c3 => exact rfl
  case c4 => decide
  intro g L h₁ G₁ hg F' N'
  have KX := G₁.kx
  have T' := G₁.top
  refine gen_goal fun QQ hQQ => ?_
  have hb2 : b.StaysIn g := fun a o e => hg a o (by intro q; simp at q; subst q; rw [hd] at e; cases e) (hb a o e)
  have hvl : vs.length < 1000 := by rw [hR.len]; simp; omega
  obtain ⟨v0, hv0, hrv0⟩ := hR.get (i := 0) (r := r) rfl
  have hvl0 : 0 < vs.length := by rw [hR.len]; simp
  (repeat' (first | (k_unfold; (try dsimp only)) | ((fail_if_success (with_reducible show wpAny _ _ (exec (Stmt.While _ _ _ _) _) _ _ _)); (fail_if_success (with_reducible show wpAny _ _ (exec (Stmt.For _ _ _ _ _) _) _ _ _)); (fail_if_success (with_reducible show wpAny _ _ (call (Value.ref _) _) _ _ _)); (fail_if_success (with_reducible show wpAny _ _ (compareOp _ (Value.ref _) (Value.ref _)) _ _ _)); (fail_if_success (with_reducible show wpAny _ _ (exec (Stmt.Assign _ (Expr.ListComp _ _ _ _) _) _) _ _ _)); (fail_if_success (with_reducible show wpAny _ _ (eval (Expr.ListComp _ _ _ _) _) _ _ _)); (first | walk1 | (dsimp only; walk1)); (try dsimp only)) | fail "no step"))
  refine my_get (v := v0) N' (List.Mem.head _) (by decide) (by decide) hv0 ?_ (by with_unfolding_all rfl)
  (repeat' (first | (k_unfold; (try dsimp only)) | ((fail_if_success (with_reducible show wpAny _ _ (exec (Stmt.While _ _ _ _) _) _ _ _)); (fail_if_success (with_reducible show wpAny _ _ (exec (Stmt.For _ _ _ _ _) _) _ _ _)); (fail_if_success (with_reducible show wpAny _ _ (call (Value.ref _) _) _ _ _)); (fail_if_success (with_reducible show wpAny _ _ (compareOp _ (Value.ref _) (Value.ref _)) _ _ _)); (fail_if_success (with_reducible show wpAny _ _ (exec (Stmt.Assign _ (Expr.ListComp _ _ _ _) _) _) _ _ _)); (fail_if_success (with_reducible show wpAny _ _ (eval (Expr.ListComp _ _ _ _) _) _ _ _)); (first | walk1 | (dsimp only; walk1)); (try dsimp only)) | fail "no step"))
  rename_i h2 F2 N2
  refine my_set F2 N2 (.head (List.forall_mem_nil _)) (by decide) (by decide) (Int.natCast_pos.mpr hvl0) fun h5 F5 N5 => ?_
  (repeat' (first | (k_unfold; (try dsimp only)) | ((fail_if_success (with_reducible show wpAny _ _ (exec (Stmt.While _ _ _ _) _) _ _ _)); (fail_if_success (with_reducible show wpAny _ _ (exec (Stmt.For _ _ _ _ _) _) _ _ _)); (fail_if_success (with_reducible show wpAny _ _ (call (Value.ref _) _) _ _ _)); (fail_if_success (with_reducible show wpAny _ _ (compareOp _ (Value.ref _) (Value.ref _)) _ _ _)); (fail_if_success (with_reducible show wpAny _ _ (exec (Stmt.Assign _ (Expr.ListComp _ _ _ _) _) _) _ _ _)); (fail_if_success (with_reducible show wpAny _ _ (eval (Expr.ListComp _ _ _ _) _) _ _ _)); (first | walk1 | (dsimp only; walk1)); (try dsimp only)) | fail "no step"))
  refine wpAny_call (siftup_ok (p := 0) (R₀ := x :: R) (x := x) G₁ F5.keep (N5 _ (List.Mem.head _)).2.2 (N5 _ (List.Mem.head _)).1 (hroom.call (by decide)) (hlt.mono hb2) (hR.set hx) ?_ ?_ fun s' vs' hch hls hRs => ?_)
  · rfl
  · simp; omega
  · obtain ⟨h6, tk6, rfl, hk6⟩ := hch
    have F6 := fr_chg F5 (fun q hq => by rw [List.mem_singleton.mp hq]; exact (N5 _ (List.Mem.head _)).2.symm) hk6
    dsimp only
    (repeat' (first | (k_unfold; (try dsimp only)) | ((fail_if_success (with_reducible show wpAny _ _ (exec (Stmt.While _ _ _ _) _) _ _ _)); (fail_if_success (with_reducible show wpAny _ _ (exec (Stmt.For _ _ _ _ _) _) _ _ _)); (fail_if_success (with_reducible show wpAny _ _ (call (Value.ref _) _) _ _ _)); (fail_if_success (with_reducible show wpAny _ _ (compareOp _ (Value.ref _) (Value.ref _)) _ _ _)); (fail_if_success (with_reducible show wpAny _ _ (exec (Stmt.Assign _ (Expr.ListComp _ _ _ _) _) _) _ _ _)); (fail_if_success (with_reducible show wpAny _ _ (eval (Expr.ListComp _ _ _ _) _) _ _ _)); (first | walk1 | (dsimp only; walk1)); (try dsimp only)) | fail "no step"))
    exact hQQ _ _ (k _ _ _ (chg_end hg F6) hls hRs hrv0)

theorem heappop_ok {w : World} {mg mb : Str → Option Value} {b : Heap} {A : Around} {s : Shared} {Rr : Result → Shared → Prop} {d : Addr} {vs : List Value} {n : Nat} {v : Value} {rep : Value → Int → Prop} {R : List Int} {x : Int}
    (G : Gr w mg mb b) (hb : b.StaysIn s.heap) (hd : b.get? d = none) (hl : s.heap.get? d = some (lst (vs ++ [v]) n)) (hroom : Room 6 A)
    (hlt : LtOK w b rep) (hR : Are rep vs R) (hx : rep v x) (hsm : R.length < 999)
    (k : ∀ s' vs' v', Chg [d] s s' → s'.heap.get? d = some (lst vs' (n + 1)) → Are rep vs' (if R = [] then [] else suLoop (R.set 0 x) x 0 0) → rep v' (R.getD 0 x) → Rr (.ok (.ret v')) s') :
    codeAny (model Challenge.rw_mj0021_01.row.prog w) A (.call (.ref 28) ⟨[.ref d], []⟩) Rr s := by
  have G' := G.kx
  revert G'
  k_fill
  intro G'
  refine' enter (binds := [(Str.ofString "heap", .ref d)]) [(d, lst (vs ++ [v]) n)] G hb ?h1 ?h2 ?ho ?hcd ?hr ?bi ?lo ?_ ?c1 ?c2 ?c3 ?c4
  case h1 => simpa using hd
  case h2 => simpa using hl
  case ho => k_is
  case hcd => k_is
  case hr => exact Nat.lt_of_le_of_lt (Nat.le_add_right _ _) hroom.1
  case bi => exact BindsTo.of_eq rfl
  case lo => exact locs rfl
  case c1 => exact rfl
  case c2 => exact rfl
  case c3 => exact rfl
  case c4 => decide
  intro g L h₁ G₁ hg F' N'
  have KX := G₁.kx
  have T' := G₁.top
  refine gen_goal fun QQ hQQ => ?_
  have hb2 : b.StaysIn g := fun a o e => hg a o (by intro q; simp at q; subst q; rw [hd] at e; cases e) (hb a o e)
  have hvl : vs.length < 999 := by rw [hR.len]; exact hsm
  (repeat' (first | (k_unfold; (try dsimp only)) | ((fail_if_success (with_reducible show wpAny _ _ (exec (Stmt.While _ _ _ _) _) _ _ _)); (fail_if_success (with_reducible show wpAny _ _ (exec (Stmt.For _ _ _ _ _) _) _ _ _)); (fail_if_success (with_reducible show wpAny _ _ (call (Value.ref _) _) _ _ _)); (fail_if_success (with_reducible show wpAny _ _ (compareOp _ (Value.ref _) (Value.ref _)) _ _ _)); (fail_if_success (with_reducible show wpAny _ _ (exec (Stmt.Assign _ (Expr.ListComp _ _ _ _) _) _) _ _ _)); (fail_if_success (with_reducible show wpAny _ _ (eval (Expr.ListComp _ _ _ _) _) _ _ _)); (first | walk1 | (dsimp only; walk1)); (try dsimp only)) | fail "no step"))
  refine kl_pop (its := (vs ++ [v]).toArray) (p := vs) (y := v) F' N' (kpa_last v vs) (.head (List.forall_mem_nil _)) (by rw [sizeLine_eq]; simp; omega) fun h2 F2 N2 => ?_
  (repeat' (first | (k_unfold; (try dsimp only)) | ((fail_if_success (with_reducible show wpAny _ _ (exec (Stmt.While _ _ _ _) _) _ _ _)); (fail_if_success (with_reducible show wpAny _ _ (exec (Stmt.For _ _ _ _ _) _) _ _ _)); (fail_if_success (with_reducible show wpAny _ _ (call (Value.ref _) _) _ _ _)); (fail_if_success (with_reducible show wpAny _ _ (compareOp _ (Value.ref _) (Value.ref _)) _ _ _)); (fail_if_success (with_reducible show wpAny _ _ (exec (Stmt.Assign _ (Expr.ListComp _ _ _ _) _) _) _ _ _)); (fail_if_success (with_reducible show wpAny _ _ (eval (Expr.ListComp _ _ _ _) _) _ _ _)); (first | walk1 | (dsimp only; walk1)); (try dsimp only)) | fail "no step"))
  · rename_i h3 F3 N3 tk3 he
    have e1 : R = [] := by
      have e2 := hR.len
      rw [List.isEmpty_iff.mp he] at e2
      exact List.eq_nil_of_length_eq_zero e2.symm
    subst e1
    exact hQQ _ _ (k _ _ _ (chg_end hg F3) (N3 _ (List.Mem.head _)).1 hR hx)
  · rename_i h3 F3 N3 tk3 he
    cases R with
    | nil =>
      rw [List.eq_nil_of_length_eq_zero hR.len] at he
      cases he
    | cons r t =>
      obtain ⟨v0, hv0, hrv0⟩ := hR.get (i := 0) (r := r) rfl
      have hvl0 : 0 < vs.length := by rw [hR.len]; simp
      refine my_get (v := v0) N3 (List.Mem.head _) (by decide) (by decide) hv0 ?_ (by with_unfolding_all rfl)
      (repeat' (first | (k_unfold; (try dsimp only)) | ((fail_if_success (with_reducible show wpAny _ _ (exec (Stmt.While _ _ _ _) _) _ _ _)); (fail_if_success (with_reducible show wpAny _ _ (exec (Stmt.For _ _ _ _ _) _) _ _ _)); (fail_if_success (with_reducible show wpAny _ _ (call (Value.ref _) _) _ _ _)); (fail_if_success (with_reducible show wpAny _ _ (compareOp _ (Value.ref _) (Value.ref _)) _ _ _)); (fail_if_success (with_reducible show wpAny _ _ (exec (Stmt.Assign _ (Expr.ListComp _ _ _ _) _) _) _ _ _)); (fail_if_success (with_reducible show wpAny _ _ (eval (Expr.ListComp _ _ _ _) _) _ _ _)); (first | walk1 | (dsimp only; walk1)); (try dsimp only)) | fail "no step"))
      rename_i h4 F4 N4
      refine my_set F4 N4 (.head (List.forall_mem_nil _)) (by decide) (by decide) (Int.natCast_pos.mpr hvl0) fun h5 F5 N5 => ?_
      (repeat' (first | (k_unfold; (try dsimp only)) | ((fail_if_success (with_reducible show wpAny _ _ (exec (Stmt.While _ _ _ _) _) _ _ _)); (fail_if_success (with_reducible show wpAny _ _ (exec (Stmt.For _ _ _ _ _) _) _ _ _)); (fail_if_success (with_reducible show wpAny _ _ (call (Value.ref _) _) _ _ _)); (fail_if_success (with_reducible show wpAny _ _ (compareOp _ (Value.ref _) (Value.ref _)) _ _ _)); (fail_if_success (with_reducible show wpAny _ _ (exec (Stmt.Assign _ (Expr.ListComp _ _ _ _) _) _) _ _ _)); (fail_if_success (with_reducible show wpAny _ _ (eval (Expr.ListComp _ _ _ _) _) _ _ _)); (first | walk1 | (dsimp only; walk1)); (try dsimp only)) | fail "no step"))
      refine wpAny_call (siftup_ok (p := 0) (R₀ := (r :: t).set 0 x) (x := x) G₁ F5.keep (N5 _ (List.Mem.head _)).2.2 (N5 _ (List.Mem.head _)).1 (hroom.call (by decide)) (hlt.mono hb2) (hR.set hx) ?_ ?_ fun s' vs' hch hls hRs => ?_)
      · rfl
      · exact Nat.lt_trans (show (x :: t).length < 999 from hsm) (by decide)
      · obtain ⟨h6, tk6, rfl, hk6⟩ := hch
        have F6 := fr_chg F5 (fun q hq => by rw [List.mem_singleton.mp hq]; exact (N5 _ (List.Mem.head _)).2.symm) hk6
        dsimp only
        (repeat' (first | (k_unfold; (try dsimp only)) | ((fail_if_success (with_reducible show wpAny _ _ (exec (Stmt.While _ _ _ _) _) _ _ _)); (fail_if_success (with_reducible show wpAny _ _ (exec (Stmt.For _ _ _ _ _) _) _ _ _)); (fail_if_success (with_reducible show wpAny _ _ (call (Value.ref _) _) _ _ _)); (fail_if_success (with_reducible show wpAny _ _ (compareOp _ (Value.ref _) (Value.ref _)) _ _ _)); (fail_if_success (with_reducible show wpAny _ _ (exec (Stmt.Assign _ (Expr.ListComp _ _ _ _) _) _) _ _ _)); (fail_if_success (with_reducible show wpAny _ _ (eval (Expr.ListComp _ _ _ _) _) _ _ _)); (first | walk1 | (dsimp only; walk1)); (try dsimp only)) | fail "no step"))
        exact hQQ _ _ (k _ _ _ (chg_end hg F6) hls (by rw [if_neg (by simp)]; exact hRs) hrv0)

end Mine

-- B1
namespace Mine
section
variable {prog : Program} {w : World} {A : Around} {E : Value → Shared → Prop} {s : Shared}

theorem sub_ri_reversed : isSubtype (.type "range_iterator") (.type "reversed") = pure false := by rw [isSubtype_type]; kernel_rfl

noncomputable abbrev riObj (k : Int) : Obj := { cls := .type "range_iterator", data := .fields #[rawInt (k - 1), rawInt k, rawInt (-1)] }

theorem range_size1 {a b : Int} (h : a ≤ b) : Builtin.Range.rangeSize a b 1 = b - a := by
  unfold Builtin.Range.rangeSize
  rw [if_pos (by decide)]
  split
  · rw [Int.ediv_one, Int.sub_add_cancel]
  · next q => rw [Int.le_antisymm h (Int.not_lt.mp q), Int.sub_self]
theorem range_size0 {k : Int} (h : 0 ≤ k) : Builtin.Range.rangeSize 0 k 1 = k := (range_size1 h).trans (Int.sub_zero k)
theorem lo62 (n : Nat) : -(2 ^ 62) ≤ (n : Int) := Int.le_trans (by decide) (Int.natCast_nonneg n)
theorem hi62 {n : Nat} (h : n < 1000000) : (n : Int) < 2 ^ 62 := Int.lt_trans (Int.ofNat_lt.mpr h) (by decide)
theorem small_nat {n : Nat} (h : n < 1000000) : Builtin.Range.small 0 n 1 = true := small_one (by decide) (by decide) (lo62 n) (hi62 h)

noncomputable abbrev revSmall (a b c : Int) : Bool := Builtin.Range.rangeFitsLong a && Builtin.Range.rangeFitsLong b && Builtin.Range.rangeFitsLong c && Builtin.Range.rangeFitsLong (-c) && Builtin.Range.rangeFitsLong (a - c) && Builtin.Range.rangeFitsLong (Builtin.Range.rangeSize a b c)

theorem range_reversed_meets (r : Addr) (a b c : Int) (t u v : Tok) (hc0 : ¬(!revSmall a b c) = true) :
    Meets (Builtin.«range.__reversed__» ⟨[.ref r], []⟩) (fun _ R s => s.heap.get? r = some { cls := .type "range", dict := none, data := .fields #[.int a t, .int b u, .int c v], slots := #[] } ∧ R (.ok (.ret (Value.ref s.heap.objs.size))) { s with heap := s.heap.push { cls := Value.type (if revSmall a b c = true then "range_iterator" else "longrange_iterator"), data := Data.fields #[rawInt (a + (Builtin.Range.rangeSize a b c - 1) * c), rawInt (Builtin.Range.rangeSize a b c), rawInt (-c)] }, toks := s.toks }) :=
  .of_wp fun prog w A R s h => by obtain ⟨hp, g, d, tk, os⟩ := s; obtain ⟨hl, h⟩ := h; unfold revSmall at *; wp_walk; exact ⟨_, rfl, h⟩

theorem call_range_reversed {r : Addr} {k : Int} {t u v : Tok} {Q : Value → Shared → Prop} (hr : IsRange s.heap r 0 k 1 t u v) (h0 : 0 ≤ k) (h1 : k < 1000)
    (h : Q (.ref s.heap.objs.size) { s with heap := s.heap.push (riObj k) }) : wpAny (model prog w) A (call (.builtin "range.__reversed__") [.ref r]) Q E s := by
  have hT : s.TypeIs (.ref r) "range" := ⟨_, hr, rfl⟩
  have hs : revSmall 0 k 1 = true := by
    have e : Builtin.Range.rangeFitsLong k = true := by
      unfold Builtin.Range.rangeFitsLong
      rw [decide_eq_true (Int.le_trans (by decide) h0), decide_eq_true (Int.lt_trans h1 (by decide))]; rfl
    unfold revSmall
    rw [range_size0 h0, e]; decide
  refine call_meets F.slot_range_reversed hT F.entry_range_reversed (F.args_range_reversed_1 _) (range_reversed_meets r 0 k 1 t u v (by rw [hs]; decide)) ⟨hr, ?_⟩
  rw [if_pos hs, range_size0 h0, show (0 : Int) + (k - 1) * 1 = k - 1 from (Int.zero_add _).trans (Int.mul_one _)]
  exact h

theorem code_reversed_range {r : Addr} {k : Int} {t u v : Tok} {Q₁ : Value → Shared → Prop} (hr : IsRange s.heap r 0 k 1 t u v) (h0 : 0 ≤ k) (h1 : k < 1000)
    (h : Q₁ (.ref s.heap.objs.size) { s with heap := s.heap.push (riObj k) }) :
    codeAny (model prog w) A (.call (.builtin "reversed.__new__") ⟨[.type "reversed", .ref r], []⟩) (wants Q₁ E) s := by
  have hT : s.TypeIs (.ref r) "range" := ⟨_, hr, rfl⟩
  refine codeAny_of_tree ?_
  show wpAny _ A.in1 (do checkBuiltinCall "reversed.__new__" ⟨[.type "reversed", .ref r], []⟩; again (.builtin "reversed.__new__" ⟨[.type "reversed", .ref r], []⟩)) _ _ s
  refine wpAny_bind (wpAny_of_eq (F.newCall_reversed_1 _) (wpAny_pure ⟨plainId_quiet F.plain_reversed_new _, codeAny_builtin F.entry_reversed_new ?_⟩))
  rw [Around.under_plainId F.plain_reversed_new _]
  unfold Builtin.«reversed.__new__»
  refine wpAny_bind (wpAny_of_eq (newClass_reversed _) ?_)
  try dsimp only
  refine wpAny_bind (wpAny_of_eq (a := ()) (by first | rfl | kernel_rfl) ?_)
  refine wpAny_bind (wpAny_of_eq (a := ()) (by first | rfl | kernel_rfl) ?_)
  try dsimp only
  refine wpAny_bind (wpAny_specialOf hT F.slot_range_reversed.lookup ?_)
  try dsimp only
  refine wpAny_bind (wpAny_of_eq (F.slot_range_reversed.bind _) ?_)
  try dsimp only
  rw [if_neg (show ¬ ((Value.builtin "range.__reversed__" == Value.none) = true) from Bool.false_ne_true)]
  refine wpAny_bind (wpAny_rule ?_)
  refine wpAny_bind (m := runValue (.call (.builtin "range.__reversed__") ⟨[.ref r], []⟩)) (show wpAny _ _ (call (.builtin "range.__reversed__") [.ref r]) _ _ _ from call_range_reversed hr h0 h1 ?_)
  first
  | exact wpAny_pure h
  | exact wpAny_bind (wpAny_pure (wpAny_pure h))

theorem call_reversed_range {r : Addr} {k : Int} {t u v : Tok} {Q : Value → Shared → Prop} (hr : IsRange s.heap r 0 k 1 t u v) (h0 : 0 ≤ k) (h1 : k < 1000)
    (h : Q (.ref s.heap.objs.size) { s with heap := s.heap.push (riObj k) }) : wpAny (model prog w) A (call (.type "reversed") [.ref r]) Q E s := by
  refine callType_other (U := "range_iterator") (Q₁ := fun obj s₁ => obj = .ref s.heap.objs.size ∧ s₁ = { s with heap := s.heap.push (riObj k) }) (by decide +kernel) F.create_reversed ⟨_, _, F.mro_reversed⟩ F.made_reversed sub_ri_reversed (F.typeCall_reversed_1 _) (code_reversed_range hr h0 h1 ⟨rfl, rfl⟩) ?_
  rintro obj s₁ ⟨rfl, rfl⟩
  exact ⟨⟨_, Heap.get?_push_size _ rfl, rfl⟩, h⟩
end
end Mine

-- B2
namespace Mine

/-- what a turn of a loop must reach -/
noncomputable def TurnEnd (h₀ : Heap) (L I : Addr) (oI : Obj) (Jn : (Str → Option Value) → List (Addr × Obj) → Prop) (Q : Flow → Shared → Prop) (s₁ : Shared) (f : Flow) (s₂ : Shared) : Prop :=
  match f with
  | .ret v => Q (.ret v) s₂
  | .brk => Q .next s₂
  | _ => ∃ h' tk m' news', s₂ = { s₁ with heap := h', toks := tk } ∧ Fr h₀ L h' m' ∧ News h₀ L h' ((I, oI) :: news') ∧ (∀ p ∈ news', p.1 ≠ I) ∧ Jn m' news'

section
variable {prog : Program} {w : World} {A : Around} {E : Value → Shared → Prop} {s : Shared} {env : Env} {h₀ : Heap}

theorem TurnEnd.next {L I : Addr} {oI : Obj} {Jn : (Str → Option Value) → List (Addr × Obj) → Prop} {Q : Flow → Shared → Prop} {s₁ : Shared} {h' : Heap} {tk : Nat} {m' : Str → Option Value} {news' : List (Addr × Obj)}
    (F : Fr h₀ L h' m') (N : News h₀ L h' ((I, oI) :: news')) (off : ∀ p ∈ news', p.1 ≠ I) (hJ : Jn m' news') : TurnEnd h₀ L I oI Jn Q s₁ .next { s₁ with heap := h', toks := tk } :=
  ⟨h', tk, m', news', rfl, F, N, off, hJ⟩

theorem loop_iter {x : Str} {body : List Stmt} {Q : Flow → Shared → Prop} {I : Addr} {fp : List Addr} {n : Nat} {P : Nat → Value → Prop} {St : Nat → Heap → Prop} {m : Str → Option Value} {news : List (Addr × Obj)}
    (W : Walks prog w A I fp [I] n P St) (hIo : ∀ i h, St i h → ∃ o, h.get? I = some o) (hfp : ∀ b ∈ fp, b = I ∨ ∃ o, h₀.get? b = some o)
    (hst : St 0 s.heap) (F : Fr h₀ env.locals s.heap m) (N : News h₀ env.locals s.heap news) (hIL : I ≠ env.locals) (hI0 : h₀.get? I = none) (off : ∀ p ∈ news, p.1 ≠ I)
    (J : Nat → (Str → Option Value) → List (Addr × Obj) → Prop) (h0 : J 0 m news)
    (turn : ∀ i v m₁ news₁ h tk oI, i < n → P i v → J i m₁ news₁ → (∀ p ∈ news₁, p.1 ≠ I) → Fr h₀ env.locals h (fun y => if y = x then some v else m₁ y) → News h₀ env.locals h ((I, oI) :: news₁) →
      wpAny (model prog w) A (execs body env) (TurnEnd h₀ env.locals I oI (J (i + 1)) Q { s with heap := h, toks := tk }) E { s with heap := h, toks := tk })
    (done : ∀ m' news' h tk, J n m' news' → Fr h₀ env.locals h m' → News h₀ env.locals h news' → Q .next { s with heap := h, toks := tk }) :
    LoopAtV prog w A h₀ env x body Q E (.ref I) s := by
  have hLfp : env.locals ∉ fp := fun q => by
    rcases hfp _ q with e | ⟨o, e⟩
    · exact hIL e.symm
    · rw [Heap.get?_none_of_le F.above] at e; cases e
  refine ⟨I, fp, [I], n, P, St, m, news, J, rfl, W, hLfp, ?_, ?_, hst, F, N, h0, ?_, ?_⟩
  · intro b hb; rw [List.mem_singleton.mp hb]; exact hI0
  · intro p hp q; exact off p hp (List.mem_singleton.mp q)
  · rintro i v m₁ news₁ s₁ own ⟨h, tk, rfl⟩ hi hP hJ hoff hown hown2 hown3 hst' F₁ N₁
    obtain ⟨oI, eI⟩ := hIo _ _ hst'
    have off₁ : ∀ p ∈ news₁, p.1 ≠ I := fun p hp q => hoff p hp (List.mem_singleton.mpr q)
    have own1 : ∀ p ∈ own, p = (I, oI) := fun p hp => by
      rcases hfp _ (hown p hp) with e | ⟨o, e⟩
      · have e2 := hown2 p hp
        rw [e] at e2
        have e3 : some oI = some p.2 := eI.symm.trans e2
        cases p; cases e; cases e3; rfl
      · have := (N₁ p (List.mem_append_left _ hp)).2.2
        rw [this] at e; cases e
    have N2 : News h₀ env.locals h ((I, oI) :: news₁) := fun p hp => by
      rcases List.mem_cons.mp hp with rfl | hp
      · exact ⟨eI, hIL, hI0⟩
      · exact N₁ p (List.mem_append_right _ hp)
    refine wpAny_mono (turn i v m₁ news₁ h tk oI hi hP hJ off₁ F₁ N2) (fun f s₂ p => ?_) fun _ _ e => e
    have fin : (∃ h' tk' m' news', s₂ = { ({ s with heap := h, toks := tk } : Shared) with heap := h', toks := tk' } ∧ Fr h₀ env.locals h' m' ∧ News h₀ env.locals h' ((I, oI) :: news') ∧ (∀ p ∈ news', p.1 ≠ I) ∧ J (i + 1) m' news') →
        LoopStepU h₀ env.locals [I] own (J (i + 1)) { s with heap := h, toks := tk } .next s₂ := by
      rintro ⟨h', tk', m', news', e, F', N', o', hJ'⟩
      refine ⟨rfl, h', tk', m', news', e, F', ?_, fun p hp q => o' p hp (List.mem_singleton.mp q), hJ'⟩
      intro p hp
      rcases List.mem_append.mp hp with hp | hp
      · rw [own1 p hp]; exact N' _ (List.Mem.head _)
      · exact N' p (List.mem_cons_of_mem _ hp)
    cases f with
    | ret v => exact .ret p
    | brk => exact .brk p
    | next => exact .next (fin p)
    | cont => exact .cont (fin p)
  · intro h' tk m' news' F' N' _ hJ
    exact done m' news' h' tk hJ F' N'

theorem news_upd {g h h' : Heap} {L d : Addr} {o o' : Obj} {news news' : List (Addr × Obj)} (N : News g L h news) (U : Upd d o o' news news') (hk : ∀ b o, b ∉ [d] → h.get? b = some o → h'.get? b = some o) (hd : h'.get? d = some o') : News g L h' news' := by
  obtain ⟨pre, post, rfl, rfl, a, b⟩ := U.split
  intro p hp
  rcases List.mem_append.mp hp with hp | hp
  · exact ⟨hk _ _ (fun q => a p hp (List.mem_singleton.mp q)) (N p (List.mem_append_left _ hp)).1, (N p (List.mem_append_left _ hp)).2⟩
  · rcases List.mem_cons.mp hp with rfl | hp
    · exact ⟨hd, (N (d, o) (List.mem_append_right _ (List.Mem.head _))).2⟩
    · exact ⟨hk _ _ (fun q => b p hp (List.mem_singleton.mp q)) (N p (List.mem_append_right _ (List.mem_cons_of_mem _ hp))).1, (N p (List.mem_append_right _ (List.mem_cons_of_mem _ hp))).2⟩

theorem loop_range {x : Str} {body : List Stmt} {Q : Flow → Shared → Prop} {I : Addr} {a c : Int} {n : Nat} {m : Str → Option Value} {news : List (Addr × Obj)}
    (J : Nat → (Str → Option Value) → List (Addr × Obj) → Prop) (hh : A.handled = none) (hit : IsRangeIter s.heap I a n c)
    (F : Fr h₀ env.locals s.heap m) (N : News h₀ env.locals s.heap news) (hIL : I ≠ env.locals) (hI0 : h₀.get? I = none) (off : ∀ p ∈ news, p.1 ≠ I) (h0 : J 0 m news)
    (turn : ∀ i t m₁ news₁ h tk oI, i < n → J i m₁ news₁ → (∀ p ∈ news₁, p.1 ≠ I) → Fr h₀ env.locals h (fun y => if y = x then some (.int (a + i * c) t) else m₁ y) → News h₀ env.locals h ((I, oI) :: news₁) →
      wpAny (model prog w) A (execs body env) (TurnEnd h₀ env.locals I oI (J (i + 1)) Q { s with heap := h, toks := tk }) E { s with heap := h, toks := tk })
    (done : ∀ m' news' h tk, J n m' news' → Fr h₀ env.locals h m' → News h₀ env.locals h news' → Q .next { s with heap := h, toks := tk }) :
    LoopAtV prog w A h₀ env x body Q E (.ref I) s :=
  loop_iter (Walks.range hh I a c n) (fun _ _ st => ⟨_, st⟩) (fun b hb => .inl (List.mem_singleton.mp hb)) (by simpa using hit) F N hIL hI0 off J h0
    (fun i v m₁ news₁ h tk oI hi hP hJ o F₁ N₁ => by obtain ⟨t, rfl⟩ := hP; exact turn i t m₁ news₁ h tk oI hi hJ o F₁ N₁) done
end
end Mine

-- B3
namespace Mine


theorem sdLoop_len (R : List Int) (x : Int) (st p : Nat) : (sdLoop R x st p).length = R.length := by
  induction p using Nat.strongRecOn generalizing R with
  | _ p ih =>
    rw [sdLoop]
    split
    · rename_i hq
      split
      · rw [ih _ (half_lt' (pos_of hq)), List.length_set]
      · rw [List.length_set]
    · rw [List.length_set]

theorem kid_bounds {R : List Int} {p : Nat} (h : 2 * p + 1 < R.length) : p < kidOf R p ∧ kidOf R p < R.length := by
  unfold kidOf
  split
  · next q => exact ⟨Nat.lt_succ_of_lt (lt_kid p), q.1⟩
  · exact ⟨lt_kid p, h⟩

theorem suLoop_len (x : Int) (st : Nat) : ∀ (k : Nat) (R : List Int) (p : Nat), R.length - p ≤ k → (suLoop R x st p).length = R.length := by
  intro k
  induction k with
  | zero =>
    intro R p h
    rw [suLoop, if_neg (fun q => Nat.not_lt.mpr (down_zero h) (Nat.lt_trans (lt_kid p) q)), sdLoop_len, List.length_set]
  | succ k ih =>
    intro R p h
    rw [suLoop]
    split
    · rename_i hc
      have := kid_bounds hc
      rw [ih _ _ (by rw [List.length_set]; exact down_le (Nat.lt_trans this.1 this.2) this.1 h), List.length_set]
    · rw [sdLoop_len, List.length_set]

/-- heapify's loop: places k-1, .., 0 -/
noncomputable def hfLoop (R : List Int) : Nat → List Int
  | 0 => R
  | k + 1 => hfLoop (suLoop R (R.getD k 0) k k) k
noncomputable def hfR (R : List Int) : List Int := hfLoop R (R.length / 2)

theorem hfLoop_len (k : Nat) : ∀ (R : List Int), (hfLoop R k).length = R.length := by
  induction k with
  | zero => intro R; rfl
  | succ k ih => intro R; rw [hfLoop, ih, suLoop_len _ _ _ _ _ (Nat.le_refl _)]

noncomputable abbrev hfM (d : Addr) (iv : Option Value) (nn : Int) (t : Tok) : Str → Option Value := asc [(Str.ofString "i", iv), (Str.ofString "n", some (.int nn t)), (Str.ofString "x", some (.ref d))]
noncomputable def hfJ (rep : Value → Int → Prop) (d : Addr) (n : Nat) (len : Nat) (fin : List Int) (i : Nat) (m : Str → Option Value) (news : List (Addr × Obj)) : Prop :=
  ∃ (t : Tok) (iv : Option Value) (vs : List Value) (R : List Int), m = hfM d iv len t ∧ news = [(d, lst vs n)] ∧ Are rep vs R ∧ R.length = len ∧ hfLoop R (len / 2 - i) = fin
noncomputable def hfN : List Str := [Str.ofString "i", Str.ofString "n", Str.ofString "x"]
theorem hfJ.mk {rep : Value → Int → Prop} {d : Addr} {n len i : Nat} {fin : List Int} {m : Str → Option Value} {t : Tok} {iv : Option Value} {vs : List Value} {R : List Int}
    (h1 : ∀ y ∈ hfN, m y = hfM d iv len t y) (h2 : ∀ y, y ∉ hfN → m y = hfM d iv len t y) (hR : Are rep vs R) (hl : R.length = len) (hf : hfLoop R (len / 2 - i) = fin) : hfJ rep d n len fin i m [(d, lst vs n)] :=
  ⟨t, iv, vs, R, names_eq hfN h1 h2, rfl, hR, hl, hf⟩

theorem hb_1 {m i l : Nat} (hi : i < m) (hm : m ≤ l) : m - 1 - i < l := Nat.lt_of_lt_of_le (Nat.lt_of_le_of_lt (Nat.sub_le _ _) (Nat.sub_lt (pos_of hi) (by decide))) hm
theorem hb_3 {m i : Nat} : m - (i + 1) = m - 1 - i := by rw [Nat.sub_sub, Nat.add_comm]
theorem hb_2 {m i : Nat} (hi : i < m) : m - i = (m - 1 - i) + 1 := by rw [← hb_3]; exact (Nat.succ_pred_eq_of_pos (Nat.sub_pos_of_lt hi)).symm
theorem hb_4 {m i : Nat} (hi : i < m) : ((m : Nat) : Int) - 1 + (i : Int) * (-1) = ((m - 1 - i : Nat) : Int) := by
  rw [← hb_3, Int.ofNat_sub hi, Int.mul_neg, Int.mul_one]
  show _ = (m : Int) - ((i : Int) + 1)
  rw [Int.add_comm (i : Int) 1, ← Int.sub_sub]
  exact Int.sub_eq_add_neg.symm
theorem heapify_ok {w : World} {mg mb : Str → Option Value} {b : Heap} {A : Around} {s : Shared} {Rr : Result → Shared → Prop} {d : Addr} {vs : List Value} {n : Nat} {rep : Value → Int → Prop} {R : List Int}
    (G : Gr w mg mb b) (hb : b.StaysIn s.heap) (hd : b.get? d = none) (hl : s.heap.get? d = some (lst vs n)) (hroom : Room 6 A) (hh : A.handled = none)
    (hlt : LtOK w b rep) (hR : Are rep vs R) (hsm : R.length < 999)
    (k : ∀ s' vs', Chg [d] s s' → s'.heap.get? d = some (lst vs' n) → Are rep vs' (hfR R) → Rr (.ok (.ret .none)) s') :
    codeAny (model Challenge.rw_mj0021_01.row.prog w) A (.call (.ref 49) ⟨[.ref d], []⟩) Rr s := by
  have G' := G.kx
  revert G'
  k_fill
  intro G'
  refine' enter (binds := [(Str.ofString "x", .ref d)]) [(d, lst vs n)] G hb ?h1 ?h2 ?ho ?hcd ?hr ?bi ?lo ?_ ?c1 ?c2 ?c3 ?c4
  case h1 => simpa using hd
  case h2 => simpa using hl
  case ho => k_is
  case hcd => k_is
  case hr => exact Nat.lt_of_le_of_lt (Nat.le_add_right _ _) hroom.1
  case bi => exact BindsTo.of_eq rfl
  case lo => exact locs rfl
  case c1 => exact rfl
  case c2 => exact rfl
  case c3 => exact rfl
  case c4 => decide
  intro g L h₁ G₁ hg F' N'
  have KX := G₁.kx
  have T' := G₁.top
  refine gen_goal fun QQ hQQ => ?_
  have hb2 : b.StaysIn g := fun a o e => hg a o (by intro q; simp at q; subst q; rw [hd] at e; cases e) (hb a o e)
  have hvl : vs.length < 999 := by rw [hR.len]; exact hsm
  (repeat' (first | (k_unfold; (try dsimp only)) | ((fail_if_success (with_reducible show wpAny _ _ (exec (Stmt.While _ _ _ _) _) _ _ _)); (fail_if_success (with_reducible show wpAny _ _ (exec (Stmt.For _ _ _ _ _) _) _ _ _)); (fail_if_success (with_reducible show wpAny _ _ (call (Value.ref _) _) _ _ _)); (fail_if_success (with_reducible show wpAny _ _ (compareOp _ (Value.ref _) (Value.ref _)) _ _ _)); (fail_if_success (with_reducible show wpAny _ _ (exec (Stmt.Assign _ (Expr.ListComp _ _ _ _) _) _) _ _ _)); (fail_if_success (with_reducible show wpAny _ _ (eval (Expr.ListComp _ _ _ _) _) _ _ _)); (first | walk1 | (dsimp only; walk1)); (try dsimp only)) | fail "no step"))
  refine my_len N' (List.Mem.head _) (ix_n (Nat.lt_trans hvl (by decide))) ?_
  (repeat' (first | (k_unfold; (try dsimp only)) | ((fail_if_success (with_reducible show wpAny _ _ (exec (Stmt.While _ _ _ _) _) _ _ _)); (fail_if_success (with_reducible show wpAny _ _ (exec (Stmt.For _ _ _ _ _) _) _ _ _)); (fail_if_success (with_reducible show wpAny _ _ (call (Value.ref _) _) _ _ _)); (fail_if_success (with_reducible show wpAny _ _ (compareOp _ (Value.ref _) (Value.ref _)) _ _ _)); (fail_if_success (with_reducible show wpAny _ _ (exec (Stmt.Assign _ (Expr.ListComp _ _ _ _) _) _) _ _ _)); (fail_if_success (with_reducible show wpAny _ _ (eval (Expr.ListComp _ _ _ _) _) _ _ _)); (first | walk1 | (dsimp only; walk1)); (try dsimp only)) | fail "no step"))
  refine For_invV g rfl rfl ?_
  (repeat' (first | (k_unfold; (try dsimp only)) | ((fail_if_success (with_reducible show wpAny _ _ (exec (Stmt.While _ _ _ _) _) _ _ _)); (fail_if_success (with_reducible show wpAny _ _ (exec (Stmt.For _ _ _ _ _) _) _ _ _)); (fail_if_success (with_reducible show wpAny _ _ (call (Value.ref _) _) _ _ _)); (fail_if_success (with_reducible show wpAny _ _ (compareOp _ (Value.ref _) (Value.ref _)) _ _ _)); (fail_if_success (with_reducible show wpAny _ _ (exec (Stmt.Assign _ (Expr.ListComp _ _ _ _) _) _) _ _ _)); (fail_if_success (with_reducible show wpAny _ _ (eval (Expr.ListComp _ _ _ _) _) _ _ _)); (first | walk1 | (dsimp only; walk1)); (try dsimp only)) | fail "no step"))
  rename_i h2 tk2 t1 t2 t3 hr F2 N2 _
  have hlen := hR.len
  have hk2 : ((vs.length : Int).fdiv 2) = ((R.length / 2 : Nat) : Int) := by
    rw [hlen, Int.fdiv_eq_ediv_of_nonneg _ (by decide)]; first | rfl | exact (Int.natCast_ediv R.length 2).symm | omega
  rw [hk2] at hr
  rw [hlen] at F2
  refine call_reversed_range hr (by omega) (by omega) ?_
  refine wpAny_pyIter_rangeiter (it := h2.objs.size) (Heap.get?_push_size _ rfl) ?_
  have up : ∀ b o, h2.get? b = some o → (h2.push (riObj ((R.length / 2 : Nat) : Int))).get? b = some o := fun b o e => Heap.get?_push_of_some _ e
  refine loop_range (a := ((R.length / 2 : Nat) : Int) - 1) (c := -1) (n := R.length / 2) (hfJ rep d n R.length (hfR R)) hh (Heap.get?_push_size _ rfl) (F2.keeps up) (N2.grown up) (Nat.ne_of_gt F2.ns.lt) (next_is_new F2) (fun p hp => Nat.ne_of_lt (Heap.lt_size (N2 p hp).1)) ?_ ?_ ?_
  · refine hfJ.mk (by (repeat' (first | exact rfl | exact List.forall_mem_nil _ | (refine List.forall_mem_cons.mpr ⟨?_, ?_⟩)))) ?_ hR rfl rfl
    unfold hfN
    ((intro y hy; (simp only [List.mem_cons, List.not_mem_nil, or_false, not_or] at hy); (simp only [List.reverse_cons, List.reverse_nil, List.nil_append, List.cons_append, Mine.lookup_ite, List.lookup_nil, Mine.asc, hy, if_false])))
  · rintro i tv m₁ news₁ h tk oI hi ⟨tn, iv, vs, R', rfl, rfl, hR', hlen', hfin⟩ off F3 N3
    have hv : ((R.length / 2 : Nat) : Int) - 1 + (i : Int) * (-1) = ((R.length / 2 - 1 - i : Nat) : Int) := hb_4 hi
    simp only [hv] at F3
    have hp : R.length / 2 - 1 - i < R'.length := by rw [hlen']; exact hb_1 hi (Nat.div_le_self _ _)
    (repeat' (first | (k_unfold; (try dsimp only)) | ((fail_if_success (with_reducible show wpAny _ _ (exec (Stmt.While _ _ _ _) _) _ _ _)); (fail_if_success (with_reducible show wpAny _ _ (exec (Stmt.For _ _ _ _ _) _) _ _ _)); (fail_if_success (with_reducible show wpAny _ _ (call (Value.ref _) _) _ _ _)); (fail_if_success (with_reducible show wpAny _ _ (compareOp _ (Value.ref _) (Value.ref _)) _ _ _)); (fail_if_success (with_reducible show wpAny _ _ (exec (Stmt.Assign _ (Expr.ListComp _ _ _ _) _) _) _ _ _)); (fail_if_success (with_reducible show wpAny _ _ (eval (Expr.ListComp _ _ _ _) _) _ _ _)); (first | walk1 | (dsimp only; walk1)); (try dsimp only)) | fail "no step"))
    have M3 : News g L h [(d, lst vs n)] := fun p hp => N3 p (.tail _ hp)
    have hgd : g.get? d = none := (M3 _ (List.Mem.head _)).2.2
    refine wpAny_call (siftup_ok (p := R.length / 2 - 1 - i) (R₀ := R') (x := R'[R.length / 2 - 1 - i]) G₁ F3.keep hgd (M3 _ (List.Mem.head _)).1 (hroom.call (by decide)) (hlt.mono hb2) hR' (List.getElem?_eq_getElem hp) (by rw [hlen']; exact Nat.lt_trans hsm (by decide)) fun s' vs' hch hls hRs => ?_)
    · obtain ⟨h6, tk6, rfl, hk6⟩ := hch
      have F6 := fr_chg F3 (fun q hq => by rw [List.mem_singleton.mp hq]; exact (M3 _ (List.Mem.head _)).2.symm) hk6
      dsimp only
      (repeat' (first | (k_unfold; (try dsimp only)) | ((fail_if_success (with_reducible show wpAny _ _ (exec (Stmt.While _ _ _ _) _) _ _ _)); (fail_if_success (with_reducible show wpAny _ _ (exec (Stmt.For _ _ _ _ _) _) _ _ _)); (fail_if_success (with_reducible show wpAny _ _ (call (Value.ref _) _) _ _ _)); (fail_if_success (with_reducible show wpAny _ _ (compareOp _ (Value.ref _) (Value.ref _)) _ _ _)); (fail_if_success (with_reducible show wpAny _ _ (exec (Stmt.Assign _ (Expr.ListComp _ _ _ _) _) _) _ _ _)); (fail_if_success (with_reducible show wpAny _ _ (eval (Expr.ListComp _ _ _ _) _) _ _ _)); (first | walk1 | (dsimp only; walk1)); (try dsimp only)) | fail "no step"))
      have e1 : R'.getD (R.length / 2 - 1 - i) 0 = R'[R.length / 2 - 1 - i] := by simp [List.getD, List.getElem?_eq_getElem hp]
      refine TurnEnd.next F6 (news_upd N3 (.tail (Ne.symm (off _ (List.Mem.head _))) (.head (List.forall_mem_nil _))) hk6 hls) (fun p hp => by rw [List.mem_singleton.mp hp]; exact off (d, lst vs n) (List.Mem.head _))
        (hfJ.mk (by (repeat' (first | exact rfl | exact List.forall_mem_nil _ | (refine List.forall_mem_cons.mpr ⟨?_, ?_⟩)))) ?_ hRs ?_ ?_)
      · unfold hfN
        ((intro y hy; (simp only [List.mem_cons, List.not_mem_nil, or_false, not_or] at hy); (simp only [List.reverse_cons, List.reverse_nil, List.nil_append, List.cons_append, Mine.lookup_ite, List.lookup_nil, Mine.asc, hy, if_false])))
      · rw [suLoop_len _ _ _ _ _ (Nat.le_refl _), hlen']
      · rw [← hfin, ← e1, show R.length / 2 - i = (R.length / 2 - 1 - i) + 1 from hb_2 hi, hfLoop]
        congr 1
        exact hb_3
  · rintro m' news' h tk ⟨tn, iv, vs, R', rfl, rfl, hR', hlen', hfin⟩ F3 N3
    dsimp only
    (repeat' (first | (k_unfold; (try dsimp only)) | ((fail_if_success (with_reducible show wpAny _ _ (exec (Stmt.While _ _ _ _) _) _ _ _)); (fail_if_success (with_reducible show wpAny _ _ (exec (Stmt.For _ _ _ _ _) _) _ _ _)); (fail_if_success (with_reducible show wpAny _ _ (call (Value.ref _) _) _ _ _)); (fail_if_success (with_reducible show wpAny _ _ (compareOp _ (Value.ref _) (Value.ref _)) _ _ _)); (fail_if_success (with_reducible show wpAny _ _ (exec (Stmt.Assign _ (Expr.ListComp _ _ _ _) _) _) _ _ _)); (fail_if_success (with_reducible show wpAny _ _ (eval (Expr.ListComp _ _ _ _) _) _ _ _)); (first | walk1 | (dsimp only; walk1)); (try dsimp only)) | fail "no step"))
    refine hQQ _ _ (k _ _ (chg_end hg F3) (N3 _ (List.Mem.head _)).1 ?_)
    rw [← hfin, Nat.sub_self]
    exact hR'
end Mine

-- C1
namespace Mine

/-- a pair of ints, as a tuple at an address -/
noncomputable def IsPair (h : Heap) (p : Addr) (a b : Int) : Prop := ∃ o n t u, h.get? p = some o ∧ o.cls = .type "tuple" ∧ o.data = .seq #[.int a t, .int b u] n
theorem IsPair.keeps {h h' : Heap} {p : Addr} {a b : Int} (x : IsPair h p a b) (k : h.StaysIn h') : IsPair h' p a b :=
  let ⟨o, n, t, u, e, r⟩ := x; ⟨o, n, t, u, k _ _ e, r⟩
section
variable {prog : Program} {w : World} {A : Around} {E : Value → Shared → Prop} {s : Shared}
theorem IsPair.typeIs {p : Addr} {a b : Int} (x : IsPair s.heap p a b) : s.TypeIs (.ref p) "tuple" := let ⟨o, _, _, _, e, c, _⟩ := x; ⟨o, e, c⟩

theorem int_lt_rich {a b : Int} {t u : Tok} {Q : Value → Shared → Prop} (h : Q (.bool (decide (a < b))) s) : wpAny (model prog w) A (richCompare .Lt (.int a t) (.int b u)) Q E s :=
  show wpAny (model prog w) A (compareOp .Lt (.int a t) (.int b u)) Q E s from PyProof.Rows.lt_int h

theorem tuple_lt_tree {p q : Addr} {a1 a2 b1 b2 : Int} {P : Fin → Shared → Prop} (hx : IsPair s.heap p a1 a2) (hy : IsPair s.heap q b1 b2)
    (h : P (.done (.ret (.bool (decide (a1 < b1 ∨ a1 = b1 ∧ a2 < b2))))) s) :
    wpAny (model prog w) A (Builtin.«tuple.__lt__» ⟨[.ref p, .ref q], []⟩) P E s := by
  have hTb := hy.typeIs
  obtain ⟨oa, na, ta, ua, hoa, _, hda⟩ := hx
  obtain ⟨ob, nb, tb, ub, hob, _, hdb⟩ := hy
  show wpAny _ _ (isInstance (.ref q) (.type "tuple") >>= _) _ _ s
  refine wpAny_bind (wpAny_isInstance hTb isSubtype_tuple_tuple ?_)
  simp only [Bool.not_true, Bool.false_eq_true, if_false]
  refine wpAny_bind (wpAny_tupleItemsOf hoa hda ?_)
  refine wpAny_bind (wpAny_tupleItemsOf hob hdb ?_)
  refine wpAny_bind ?_
  show wpAny _ _ (forIn [(Value.int a1 ta, Value.int b1 tb), (Value.int a2 ua, Value.int b2 ub)] _ _) _ _ s
  rw [List.forIn_cons]
  refine wpAny_bind (wpAny_bind (wpAny_eqBool_int ?_))
  by_cases h1 : a1 = b1
  · subst h1
    simp only [beq_self_eq_true, Bool.not_true, Bool.false_eq_true, if_false]
    refine wpAny_pure ?_
    dsimp only
    rw [List.forIn_cons]
    refine wpAny_bind (wpAny_bind (wpAny_eqBool_int ?_))
    by_cases h2 : a2 = b2
    · subst h2
      simp only [beq_self_eq_true, Bool.not_true, Bool.false_eq_true, if_false]
      refine wpAny_pure ?_
      dsimp only
      rw [List.forIn_nil]
      refine wpAny_pure ?_
      dsimp only
      refine wpAny_pure ?_
      rw [show decide (a1 < a1 ∨ a1 = a1 ∧ a2 < a2) = false from by simp] at h
      exact h
    · rw [show (a2 == b2) = false from by simpa using h2]
      simp only [Bool.not_false, if_true]
      refine wpAny_bind (wpAny_rule (wpAny_bind (int_lt_rich (wpAny_bind (wpAny_pure (wpAny_pure ?_))))))
      dsimp only
      refine wpAny_pure (wpAny_pure ?_)
      rw [show decide (a1 < a1 ∨ a1 = a1 ∧ a2 < b2) = decide (a2 < b2) from by simp] at h
      exact h
  · rw [show (a1 == b1) = false from by simpa using h1]
    simp only [Bool.not_false, if_true]
    refine wpAny_bind (wpAny_rule (wpAny_bind (int_lt_rich (wpAny_bind (wpAny_pure (wpAny_pure ?_))))))
    dsimp only
    refine wpAny_pure (wpAny_pure ?_)
    rw [show decide (a1 < b1 ∨ a1 = b1 ∧ a2 < b2) = decide (a1 < b1) from by simp [h1]] at h
    exact h

theorem lt_pair {p q : Addr} {a1 a2 b1 b2 : Int} {Q : Value → Shared → Prop} (hu : A.units < cLine) (hx : IsPair s.heap p a1 a2) (hy : IsPair s.heap q b1 b2)
    (h : Q (.bool (decide (a1 < b1 ∨ a1 = b1 ∧ a2 < b2))) s) : wpAny (model prog w) A (compareOp .Lt (.ref p) (.ref q)) Q E s :=
  show wpAny (model prog w) A (richCompare .Lt (.ref p) (.ref q)) Q E s from
  wpAny_richCompare_same_room (op := .Lt) hx.typeIs hy.typeIs F.slot_tuple_lt
    (wpAny_call_entry F.slot_tuple_lt hx.typeIs F.entry_tuple_lt (tuple_lt_tree hx hy ⟨_, rfl, (fun e => nomatch e), h⟩) (F.args_tuple_lt_2 _ _)) hu
end

/-- the three writings of a rank -/
noncomputable def repI (rk : List (Int × Int)) (v : Value) (r : Int) : Prop := ∃ a t, v = .int a t ∧ (a, r) ∈ rk
noncomputable def repR (v : Value) (r : Int) : Prop := ∃ t, v = .int r t
noncomputable def repP (b : Heap) (v : Value) (r : Int) : Prop := ∃ p, v = .ref p ∧ IsPair b p (r.fdiv 4) (r.fmod 4)
theorem repP.keeps {b b' : Heap} {v : Value} {r : Int} (h : repP b v r) (k : b.StaysIn b') : repP b' v r := let ⟨p, e, x⟩ := h; ⟨p, e, x.keeps k⟩
/-- ranks go as the items -/
noncomputable def Mono (rk : List (Int × Int)) : Prop := ∀ p ∈ rk, ∀ q ∈ rk, (p.1 < q.1 ↔ p.2 < q.2)

theorem ltI {w : World} {b : Heap} {rk : List (Int × Int)} (hm : Mono rk) : LtOK w b (repI rk) := by
  intro A E s Q v v' r r' _ _ h1 h2 k
  obtain ⟨a, t, rfl, m1⟩ := h1
  obtain ⟨a', t', rfl, m2⟩ := h2
  refine PyProof.Rows.lt_int ?_
  have e : decide (a < a') = decide (r < r') := by
    have := hm _ m1 _ m2
    simp only at this
    simp [this]
  rw [e]
  exact k s.toks
theorem ltR {w : World} {b : Heap} : LtOK w b repR := by
  intro A E s Q v v' r r' _ _ h1 h2 k
  obtain ⟨t, rfl⟩ := h1
  obtain ⟨t', rfl⟩ := h2
  exact PyProof.Rows.lt_int (k s.toks)
theorem pair_lt (r r' : Int) : (r.fdiv 4 < r'.fdiv 4 ∨ r.fdiv 4 = r'.fdiv 4 ∧ r.fmod 4 < r'.fmod 4) ↔ r < r' := by
  rw [Int.fdiv_eq_ediv_of_nonneg _ (by decide), Int.fdiv_eq_ediv_of_nonneg _ (by decide), Int.fmod_eq_emod_of_nonneg _ (by decide), Int.fmod_eq_emod_of_nonneg _ (by decide)]
  have e := Int.emod_add_mul_ediv r 4
  have e' := Int.emod_add_mul_ediv r' 4
  constructor
  · rintro (h | ⟨h1, h2⟩)
    · exact Int.not_le.mp fun q => absurd (Int.ediv_le_ediv (by decide) q) (Int.not_le.mpr h)
    · rw [← e, ← e', h1]; exact Int.add_lt_add_right h2 _
  · intro h
    rcases Int.lt_or_eq_of_le (Int.ediv_le_ediv (by decide : (0 : Int) < 4) (Int.le_of_lt h)) with q | q
    · exact .inl q
    · rw [← e, ← e', q] at h
      exact .inr ⟨q, Int.lt_of_add_lt_add_right h⟩
theorem ltP {w : World} {b : Heap} : LtOK w b (repP b) := by
  intro A E s Q v v' r r' hb hu h1 h2 k
  obtain ⟨p, rfl, x⟩ := h1
  obtain ⟨q, rfl, y⟩ := h2
  refine lt_pair (Nat.lt_of_le_of_lt (Nat.le_add_right _ _) hu) (x.keeps hb) (y.keeps hb) ?_
  rw [show decide (r.fdiv 4 < r'.fdiv 4 ∨ r.fdiv 4 = r'.fdiv 4 ∧ r.fmod 4 < r'.fmod 4) = decide (r < r') from by simp [pair_lt]]
  exact k s.toks

theorem enterC {w : World} {mg mb : Str → Option Value} {b : Heap} {A : Around} {s : Shared} {R : Result → Shared → Prop} (D : List (Addr × Obj)) {name qual : Str} {params : Arguments} {body : List Stmt} {scope : Scope} {dV kV doc pm cdv ct oc : Value} {an od : Option Addr} {osl : Array (Option Value)} {f : Addr} {args : Args} {binds : List (Str × Value)}
    (G : Gr w mg mb b) (hb : b.StaysIn s.heap) (hD : ∀ p ∈ D, b.get? p.1 = none) (hl : ∀ p ∈ D, s.heap.get? p.1 = some p.2)
    (ho : (hd.heap_39 w.params).lookup f = some ⟨oc, od, .func (fnOf name qual params body scope dV kV doc pm an cdv ct), osl⟩) (hcd : codeIn (hd.heap_39 w.params) cdv qual = true) (hroom : A.depth < recursionLimit)
    (hbind : BindsTo s (fnOf name qual params body scope dV kV doc pm an cdv ct) args binds)
    (hkind : ∀ n, ∀ x ∈ binds, scope.names.lookup x.1 = some .local ∨ (scope.names.lookup x.1 = some .cell ∧ ((cellsFrom n scope.names []).lookup x.1).isSome = true))
    (hnd : ((cellsFrom 0 scope.names []).map (·.1)).Nodup)
    (h : ∀ g L h₁ tk cells, Gr w mg mb g → (∀ b o, b ∉ D.map (·.1) → s.heap.get? b = some o → g.get? b = some o) → Fr g L h₁ (bindL (envOfC qual scope L f cdv).kindOf binds fun _ => none) → News g L h₁ (cells ++ D) →
      CellsAre (bindC (envOfC qual scope L f cdv).kindOf binds fun _ => none) (cellsFrom (L + 1) scope.names []) cells → (∀ p ∈ D, p.1 < L) →
      wpAny (model Pg w) (A.deeper (envOfC qual scope L f cdv)) (execs body (envOfC qual scope L f cdv))
        (fun fl s' => R (.ok (.ret (match fl with | .ret v => v | _ => .none))) s')
        (fun e s' => wpAny (model Pg w) (A.deeper (envOfC qual scope L f cdv)) (leaving (envOfC qual scope L f cdv) e) (fun _ s'' => R (.error e) s'') (fun e' s'' => R (.error e') s'') s')
        { s with heap := h₁, toks := tk })
    (hco : scope.isCoroutine = false := by rfl) (hgen : scope.isGenerator = false := by rfl) (hk : scope.kind = .function := by rfl) : codeAny (model Pg w) A (.call (.ref f) args) R s := by
  have X : (hd.heap_39 w.params).In s.heap := G.kx.keeps hb
  have st : b.StaysIn (hideAll s.heap (D.map (·.1))) := fun a o e => hideAll_get _ (hb a o e) fun q => by
    obtain ⟨p, hp, rfl⟩ := List.mem_map.mp q
    rw [hD p hp] at e; cases e
  refine codeAny_call_function hroom (X _ _ ho) rfl hco hgen rfl (codeRec_of X hcd) (hbind _ _ _ _ ?_)
  refine wpAny_newFunctionEnv_cells hk (hkind _) fun env' he s' x => ?_
  subst he
  refine ⟨(G.top.nolimit.keeps hb).keeps x.toInCall.keep, codeAny_func ?_⟩
  obtain ⟨h₁, tk, rfl, _⟩ := x.done
  have hk₁ := x.toInCall.keep
  obtain ⟨cells, NC, Y⟩ := Cl.news (h₀ := s.heap) (Nat.le_refl _) fun n c hm => ⟨x.cell n c (lookup_of_mem_nodup (cellsFrom_names scope.names 0 (s.heap.objs.size + 1) [] [] rfl ▸ hnd) hm), x.above n c hm⟩
  refine h (hideAll s.heap (D.map (·.1))) s.heap.objs.size h₁ tk cells (G.keeps st) (fun a o n e => hideAll_get _ e n)
    ⟨x.toInCall.ns, fun a o e => hk₁ a o (of_hideAll _ e), Nat.le_of_eq (hideAll_size _ _)⟩ (fun p hp => ?_) Y (fun p hp => Heap.lt_size (hl p hp))
  rcases List.mem_append.mp hp with hp | hp
  · refine ⟨(NC p hp).1, (NC p hp).2.1, ?_⟩
    cases q : (hideAll s.heap (D.map (·.1))).get? p.1 with
    | none => rfl
    | some o => have := of_hideAll _ q; rw [(NC p hp).2.2] at this; cases this
  · exact ⟨hk₁ _ _ (hl p hp), Nat.ne_of_lt (Heap.lt_size (hl p hp)), hideAll_none _ (List.mem_map_of_mem hp)⟩

end Mine

-- C2
namespace Mine


noncomputable abbrev idxExc (h h' : Heap) (e : Addr) (msg : String) : Prop := ∃ t, Heap.MadeExcOf h h' e (.type "IndexError") [.str msg t]
section
variable {prog : Program} {w : World} {A : Around} {E : Value → Shared → Prop} {s : Shared}
theorem raise_idx {α : Type} {msg : String} {Q : α → Shared → Prop} (hh : A.handled = none)
    (h : ∀ h' tk e, idxExc s.heap h' e msg → E (.ref e) { s with heap := h', toks := tk }) :
    wpAny (model prog w) A (raiseErrorWords "IndexError" msg : Sem α) Q E s := by
  unfold raiseErrorWords
  refine wpAny_bind (wpAny_mkText (wpAny_bind ?_))
  unfold newExc newTuple
  refine wpAny_bind (wpAny_newObj_type ?_)
  refine wpAny_bind (m := firstArgMember _ _) (wpAny_of_eq (a := Value.none) (by simp only [firstArgMember, plainExc_IndexError.first]; rfl) ?_)
  rw [plainExc_IndexError.own]
  refine wpAny_newObj_type ?_
  unfold raiseNew
  refine wpAny_bind (wpAny_handled ?_)
  rw [hh]
  refine wpAny_throw ?_
  refine h _ _ _ ⟨s.toks, ⟨fun b o hb => Heap.get?_push_of_some _ (Heap.get?_push_of_some _ hb), Heap.get?_none_of_le (by simp), ⟨s.heap.objs.size, (Heap.get?_push_size _ rfl).trans (by simp), Heap.get?_none_of_le (Nat.le_refl _), ?_⟩⟩⟩
  exact Heap.get?_push_of_some _ (Heap.get?_push_size _ rfl)

theorem pop_empty {d : Addr} {n : Nat} {Q : Value → Shared → Prop} (hh : A.handled = none) (hl : s.heap.get? d = some (lst [] n))
    (h : ∀ h' tk e, idxExc s.heap h' e "pop from empty list" → E (.ref e) { s with heap := h', toks := tk }) :
    wpAny (model prog w) A (call (.builtin "list.pop") [.ref d]) Q E s := by
  have hT : s.TypeIs (.ref d) "list" := ⟨_, hl, rfl⟩
  refine wpAny_call_entry F.slot_list_pop hT F.entry_list_pop ?_ (F.args_list_pop_1 _)
  unfold Builtin.«list.pop»
  refine wpAny_bind (wpAny_of_eq (a := (Value.ref d, [])) rfl ?_)
  dsimp only
  refine wpAny_bind (wpAny_pure ?_)
  rw [if_neg (by decide)]
  refine wpAny_bind (wpAny_listItems hl rfl ?_)
  rw [if_pos (by rfl)]
  refine wpAny_bind (wpAny_rule ?_)
  exact wpAny_bind (raise_idx hh h)

theorem getItem_empty {d : Addr} {n : Nat} {k : Int} {t : Tok} {Q : Value → Shared → Prop} (hk : k = 0) (hh : A.handled = none) (hl : s.heap.get? d = some (lst [] n))
    (h : ∀ h' tk e, idxExc s.heap h' e "list index out of range" → E (.ref e) { s with heap := h', toks := tk }) :
    wpAny (model prog w) A (getItem (.ref d) (.int k t)) Q E s := by
  have hL : s.heap.IsList d #[] := PySem.IsL.isList (n := n) hl
  unfold getItem
  try with_reducible refine wpAny_holding ?_
  first | refine wpAny_bind (wpAny_pure ?_) | skip
  refine wpAny_bind (wpAny_sequenceKey hL.typeIs (by decide) ?_)
  refine wpAny_bind (wpAny_callSpecial?_slot (name := Str.ofString "__getitem__") hL.typeIs slot_list_getitem
    (wpAny_call_entry slot_list_getitem hL.typeIs entry_list_getitem ?_ (args_list_getitem _ _)))
  show wpAny _ _ (Builtin.List.listSubscript? (.int k t) >>= _) _ _ s
  refine wpAny_bind (wpAny_listSubscript_int (fitsIndex_both (by omega) (by omega)) ?_)
  cases k with
  | negSucc j => cases hk
  | ofNat j =>
    show wpAny _ _ ((seqItemAt d j >>= fun r => pure (r.map (j, ·))) >>= _) _ _ s
    refine wpAny_bind (wpAny_bind (wpAny_seqItemAt hl rfl (wpAny_pure ?_)))
    rw [show (([] : List Value).toArray)[j]? = none from by simp]
    first
    | exact wpAny_bind (wpAny_rule (raise_idx hh h))
    | exact wpAny_bind (wpAny_rule (wpAny_bind (raise_idx hh h)))
    | exact wpAny_bind (wpAny_bind (wpAny_rule (raise_idx hh h)))
    | exact wpAny_rule (raise_idx hh h)

theorem get_empty {value slice : PySem.Expr} {d : Addr} {n : Nat} {t : Tok} {Q : Value → Shared → Prop} (hh : A.handled = none) (hl : s.heap.get? d = some (lst [] n))
    (h : ∀ h' tk e, idxExc s.heap h' e "list index out of range" → E (.ref e) { s with heap := h', toks := tk })
    (hs : subscripted slice false (.ref d) (.int 0 t) = operate [.ref d, .int 0 t] (getItem (.ref d) (.int 0 t)) := by with_unfolding_all rfl) :
    wpAny (model prog w) A (subscriptTail value slice (.ref d) (.int 0 t)) Q E s := by
  have hL : s.heap.IsList d #[] := PySem.IsL.isList (n := n) hl
  exact tail_any hL.typeIs slot_list_getitem.lookup (getItem_empty rfl hh hl h) hs
end

/-- the frames below stand in h, none of them in B -/
structure Sees (A : Around) (l : List Env) (B h : Heap) : Prop where
  stack : A.frames = some l
  stays : B.StaysIn h
  frames : h.FunFrames B l

theorem leave_empty {M : Model} {A : Around} {E : Value → Shared → Prop} {s s' : Shared} {B h₁ : Heap} {l : List Env} {env : Env} {L e : Addr} {m : Str → Option Value} {msg : String} {Q : Unit → Shared → Prop} (S : Sees A l B s.heap) (hf : env.frame = some L) (hk : env.scope.kind ≠ .module)
    (hL : s.heap.get? L = none) (hn : h₁.Ns L m) (hall : ∀ a o, s.heap.get? a = some o → h₁.get? a = some o) (hx : idxExc h₁ s'.heap e msg)
    (k : ∀ h'' t tk', Heap.FlyingW B l e (.type "IndexError") (.ref t) h'' → h''.TupAt t [.str msg tk'] → B.get? t = none → s.heap.UpToSlots h'' → Q () { s' with heap := h'' }) :
    wpAny M (A.deeper env) (leaving env (.ref e)) Q E s' := by
  have hLB : B.get? L = none := by
    cases q : B.get? L with
    | none => rfl
    | some o => have := S.stays L o q; rw [hL] at this; cases this
  obtain ⟨t0, hx⟩ := hx
  refine wpAny_leaves_madeW (base := B) (h := h₁) (Around.frames_deeper S.stack) hf (fun a o e => hall a o (S.stays a o e)) (.cons hk hf hn hLB (S.frames.of_keeps fun a o e _ => ⟨o, hall a o e, rfl⟩)) hx fun h'' t x1 x2 x3 x4 => ?_
  exact k h'' t t0 x1 x2 x3 (((Heap.UpToSlots.of_keeps hall).trans (Heap.UpToSlots.of_keeps hx.keeps)).trans x4)

theorem heappop_empty {w : World} {mg mb : Str → Option Value} {b : Heap} {A : Around} {s : Shared} {Rr : Result → Shared → Prop} {d : Addr} {n : Nat} {B : Heap} {l : List Env}
    (G : Gr w mg mb b) (hb : b.StaysIn s.heap) (hd : b.get? d = none) (hl : s.heap.get? d = some (lst [] n)) (hroom : Room 6 A) (hh : A.handled = none) (S : Sees A l B s.heap)
    (k : ∀ h' tk e t tk', Heap.FlyingW B l e (.type "IndexError") (.ref t) h' → h'.TupAt t [.str "pop from empty list" tk'] → B.get? t = none → s.heap.UpToSlots h' → Rr (.error (.ref e)) { s with heap := h', toks := tk }) :
    codeAny (model Challenge.rw_mj0021_01.row.prog w) A (.call (.ref 28) ⟨[.ref d], []⟩) Rr s := by
  have G' := G.kx
  revert G'
  k_fill
  intro G'
  refine' enter (binds := [(Str.ofString "heap", .ref d)]) [(d, lst [] n)] G hb ?h1 ?h2 ?ho ?hcd ?hr ?bi ?lo ?_ ?c1 ?c2 ?c3 ?c4
  case h1 => simpa using hd
  case h2 => simpa using hl
  case ho => k_is
  case hcd => k_is
  case hr => exact Nat.lt_of_le_of_lt (Nat.le_add_right _ _) hroom.1
  case bi => exact BindsTo.of_eq rfl
  case lo => exact locs rfl
  case c1 => exact rfl
  case c2 => exact rfl
  case c3 => exact rfl
  case c4 => decide
  intro g L h₁ G₁ hg F' N'
  have KX := G₁.kx
  have T' := G₁.top
  have hb2 : b.StaysIn g := fun a o e => hg a o (by intro q; simp at q; subst q; rw [hd] at e; cases e) (hb a o e)
  have hall : ∀ a o, s.heap.get? a = some o → h₁.get? a = some o := fun a o e => by
    by_cases q : a = d
    · subst q; rw [hl] at e; cases e; exact (N' _ (List.Mem.head _)).1
    · exact F'.keep a o (hg a o (by simpa using q) e)
  have hLs : s.heap.get? L = none := by
    cases q : s.heap.get? L with
    | none => rfl
    | some o =>
      have := hg L o (by have := (N' _ (List.Mem.head _)).2.1; simpa using Ne.symm this) q
      rw [Heap.get?_none_of_le F'.above] at this; cases this
  (repeat' (first | (k_unfold; (try dsimp only)) | ((fail_if_success (with_reducible show wpAny _ _ (exec (Stmt.While _ _ _ _) _) _ _ _)); (fail_if_success (with_reducible show wpAny _ _ (exec (Stmt.For _ _ _ _ _) _) _ _ _)); (fail_if_success (with_reducible show wpAny _ _ (call (Value.ref _) _) _ _ _)); (fail_if_success (with_reducible show wpAny _ _ (compareOp _ (Value.ref _) (Value.ref _)) _ _ _)); (fail_if_success (with_reducible show wpAny _ _ (exec (Stmt.Assign _ (Expr.ListComp _ _ _ _) _) _) _ _ _)); (fail_if_success (with_reducible show wpAny _ _ (eval (Expr.ListComp _ _ _ _) _) _ _ _)); (first | walk1 | (dsimp only; walk1)); (try dsimp only)) | fail "no step"))
  refine pop_empty hh (N' _ (List.Mem.head _)).1 fun h2 tk2 e hx => ?_
  exact leave_empty S rfl (show ScopeKind.function ≠ ScopeKind.module by decide) hLs F'.ns hall hx fun h'' t tk' x1 x2 x3 x4 => k h'' _ e t tk' x1 x2 x3 x4

theorem heapreplace_empty {w : World} {mg mb : Str → Option Value} {b : Heap} {A : Around} {s : Shared} {Rr : Result → Shared → Prop} {d : Addr} {v : Value} {n : Nat} {B : Heap} {l : List Env}
    (G : Gr w mg mb b) (hb : b.StaysIn s.heap) (hd : b.get? d = none) (hl : s.heap.get? d = some (lst [] n)) (hroom : Room 6 A) (hh : A.handled = none) (S : Sees A l B s.heap)
    (k : ∀ h' tk e t tk', Heap.FlyingW B l e (.type "IndexError") (.ref t) h' → h'.TupAt t [.str "list index out of range" tk'] → B.get? t = none → s.heap.UpToSlots h' → Rr (.error (.ref e)) { s with heap := h', toks := tk }) :
    codeAny (model Challenge.rw_mj0021_01.row.prog w) A (.call (.ref 35) ⟨[.ref d, v], []⟩) Rr s := by
  have G' := G.kx
  revert G'
  k_fill
  intro G'
  refine' enter (binds := [(Str.ofString "heap", .ref d), (Str.ofString "item", v)]) [(d, lst [] n)] G hb ?h1 ?h2 ?ho ?hcd ?hr ?bi ?lo ?_ ?c1 ?c2 ?c3 ?c4
  case h1 => simpa using hd
  case h2 => simpa using hl
  case ho => k_is
  case hcd => k_is
  case hr => exact Nat.lt_of_le_of_lt (Nat.le_add_right _ _) hroom.1
  case bi => exact BindsTo.of_eq rfl
  case lo => exact locs rfl
  case c1 => exact rfl
  case c2 => exact rfl
  case c3 => exact rfl
  case c4 => decide
  intro g L h₁ G₁ hg F' N'
  have KX := G₁.kx
  have T' := G₁.top
  have hb2 : b.StaysIn g := fun a o e => hg a o (by intro q; simp at q; subst q; rw [hd] at e; cases e) (hb a o e)
  have hall : ∀ a o, s.heap.get? a = some o → h₁.get? a = some o := fun a o e => by
    by_cases q : a = d
    · subst q; rw [hl] at e; cases e; exact (N' _ (List.Mem.head _)).1
    · exact F'.keep a o (hg a o (by simpa using q) e)
  have hLs : s.heap.get? L = none := by
    cases q : s.heap.get? L with
    | none => rfl
    | some o =>
      have := hg L o (by have := (N' _ (List.Mem.head _)).2.1; simpa using Ne.symm this) q
      rw [Heap.get?_none_of_le F'.above] at this; cases this
  (repeat' (first | (k_unfold; (try dsimp only)) | ((fail_if_success (with_reducible show wpAny _ _ (exec (Stmt.While _ _ _ _) _) _ _ _)); (fail_if_success (with_reducible show wpAny _ _ (exec (Stmt.For _ _ _ _ _) _) _ _ _)); (fail_if_success (with_reducible show wpAny _ _ (call (Value.ref _) _) _ _ _)); (fail_if_success (with_reducible show wpAny _ _ (compareOp _ (Value.ref _) (Value.ref _)) _ _ _)); (fail_if_success (with_reducible show wpAny _ _ (exec (Stmt.Assign _ (Expr.ListComp _ _ _ _) _) _) _ _ _)); (fail_if_success (with_reducible show wpAny _ _ (eval (Expr.ListComp _ _ _ _) _) _ _ _)); (first | walk1 | (dsimp only; walk1)); (try dsimp only)) | fail "no step"))
  refine get_empty hh (N' _ (List.Mem.head _)).1 (fun h2 tk2 e hx => ?_) (by with_unfolding_all rfl)
  exact leave_empty S rfl (show ScopeKind.function ≠ ScopeKind.module by decide) hLs F'.ns hall hx fun h'' t tk' x1 x2 x3 x4 => k h'' _ e t tk' x1 x2 x3 x4
end Mine

-- C3
namespace Mine


inductive Ans where
  | nothing
  | rank (r : Int)
  | text (s : String)

noncomputable def ansIs (rep : Value → Int → Prop) : Ans → Value → Prop
  | .nothing, v => v = .none
  | .rank r, v => rep v r
  | .text m, v => ∃ t, v = .str m t

noncomputable def popR (R : List Int) : Ans × List Int := match R.reverse with
  | [] => (.text "pop from empty list", [])
  | x :: ri => (.rank (ri.reverse.getD 0 x), if ri.reverse = [] then [] else suLoop (ri.reverse.set 0 x) x 0 0)
noncomputable def rplR (R : List Int) (x : Int) : Ans × List Int := match R with
  | [] => (.text "list index out of range", [])
  | r :: t => (.rank r, suLoop (x :: t) x 0 0)
noncomputable def callR (R : List Int) (kind : Int) (x : Int) : Ans × List Int :=
  if kind < 2 then (.nothing, sdLoop (R ++ [x]) x 0 R.length)
  else if kind = 2 then popR R
  else if kind = 3 then (.rank (ppR R x).1, (ppR R x).2)
  else rplR R x

noncomputable abbrev frsOf (l : List Env) : List Addr := l.filterMap (·.frame)
/-- s' is s with a later heap; only the addresses of D turned, and the slots of the frames fs -/
noncomputable def ChgF (D fs : List Addr) (s s' : Shared) : Prop :=
  ∃ h' tk, s' = { s with heap := h', toks := tk } ∧ (∀ a o, a ∉ D → a ∉ fs → s.heap.get? a = some o → h'.get? a = some o) ∧ (∀ a o, a ∉ D → a ∈ fs → s.heap.get? a = some o → ∃ sl, h'.get? a = some { o with slots := sl })
theorem Chg.toF {D fs : List Addr} {s s' : Shared} (h : Chg D s s') : ChgF D fs s s' := by
  obtain ⟨h', tk, rfl, k⟩ := h
  exact ⟨h', tk, rfl, fun a o n _ e => k a o n e, fun a o n _ e => ⟨o.slots, k a o n e⟩⟩

/-- the frames below: they stand in h -/
structure FrOK (A : Around) (l : List Env) (h : Heap) : Prop where
  stack : A.frames = some l
  frames : h.FunFrames (hideAll h (frsOf l)) l

theorem enter2 {w : World} {mg mb : Str → Option Value} {b : Heap} {A : Around} {s : Shared} {R : Result → Shared → Prop} (D : List (Addr × Obj)) {name qual : Str} {params : Arguments} {body : List Stmt} {scope : Scope} {dV kV doc pm cdv ct oc : Value} {an od : Option Addr} {osl : Array (Option Value)} {f : Addr} {args : Args} {binds : List (Str × Value)}
    (G : Gr w mg mb b) (hb : b.StaysIn s.heap) (hD : ∀ p ∈ D, b.get? p.1 = none) (hl : ∀ p ∈ D, s.heap.get? p.1 = some p.2)
    (ho : (hd.heap_39 w.params).lookup f = some ⟨oc, od, .func (fnOf name qual params body scope dV kV doc pm an cdv ct), osl⟩) (hcd : codeIn (hd.heap_39 w.params) cdv qual = true) (hroom : A.depth < recursionLimit)
    (hbind : BindsTo s (fnOf name qual params body scope dV kV doc pm an cdv ct) args binds) (hloc : ∀ y ∈ binds, scope.names.lookup y.1 = some .local)
    (h : ∀ g L h₁, Gr w mg mb g → (∀ b o, b ∉ D.map (·.1) → s.heap.get? b = some o → g.get? b = some o) → Fr g L h₁ (fun y => binds.reverse.lookup y) → News g L h₁ D → s.heap.objs.size ≤ L → s.heap.StaysIn h₁ →
      wpAny (model Pg w) (A.deeper (envOf qual scope L f cdv)) (execs body (envOf qual scope L f cdv))
        (fun fl s' => R (.ok (.ret (match fl with | .ret v => v | _ => .none))) s')
        (fun e s' => wpAny (model Pg w) (A.deeper (envOf qual scope L f cdv)) (leaving (envOf qual scope L f cdv) e) (fun _ s'' => R (.error e) s'') (fun e' s'' => R (.error e') s'') s')
        { s with heap := h₁, toks := s.toks + binds.length })
    (hco : scope.isCoroutine = false := by rfl) (hgen : scope.isGenerator = false := by rfl) (hk : scope.kind = .function := by rfl)
    (hcell : ∀ x ∈ scope.names, x.2 ≠ .cell := by decide) : codeAny (model Pg w) A (.call (.ref f) args) R s := by
  have X : (hd.heap_39 w.params).In s.heap := G.kx.keeps hb
  refine codeAny_call_def (fd := fnOf name qual params body scope dV kV doc pm an cdv ct) (body := body) (binds := binds) hroom (X _ _ ho) rfl (G.top.nolimit.keeps hb) (codeRec_of X hcd) rfl hbind hcell hloc (fun h₁ hns hk₁ => ?_) hco hgen hk
  have st : b.StaysIn (hideAll s.heap (D.map (·.1))) := fun a o e => hideAll_get _ (hb a o e) fun q => by
    obtain ⟨p, hp, rfl⟩ := List.mem_map.mp q
    rw [hD p hp] at e; cases e
  refine h (hideAll s.heap (D.map (·.1))) s.heap.objs.size h₁ (G.keeps st) (fun a o n e => hideAll_get _ e n)
    ⟨hns, fun a o e => hk₁ a o (of_hideAll _ e), Nat.le_of_eq (hideAll_size _ _)⟩
    (fun p hp => ⟨hk₁ _ _ (hl p hp), Nat.ne_of_lt (Heap.lt_size (hl p hp)), hideAll_none _ (List.mem_map_of_mem hp)⟩) (Nat.le_refl _) hk₁

/-- the frames' objects as ledger entries -/
noncomputable def frEntries (h : Heap) (l : List Env) : List (Addr × Obj) := (frsOf l).filterMap fun a => (h.get? a).map fun o => (a, o)
theorem frEntries_mem {h : Heap} {l : List Env} {p : Addr × Obj} (hp : p ∈ frEntries h l) : p.1 ∈ frsOf l ∧ h.get? p.1 = some p.2 := by
  obtain ⟨a, ha, e⟩ := List.mem_filterMap.mp hp
  obtain ⟨o, eo, rfl⟩ := Option.map_eq_some_iff.mp e
  exact ⟨ha, eo⟩
theorem mem_frEntries {h : Heap} {l : List Env} {a : Addr} {o : Obj} (ha : a ∈ frsOf l) (e : h.get? a = some o) : (a, o) ∈ frEntries h l :=
  List.mem_filterMap.mpr ⟨a, ha, by rw [e]; rfl⟩

theorem caught_idx {w : World} {mg mb : Str → Option Value} {A : Around} {E : Value → Shared → Prop} {s' : Shared} {B h₁ : Heap} {l : List Env} {L a e t : Addr} {m : Str → Option Value} {name : Str} {scope : Scope} {cd : Value}
    {vs : List Value} {n : Str} {b₀ : Stmt} {suite : List Stmt} {pos np : Pos} {rest : List ExceptHandler} {Q : Flow → Shared → Prop}
    (GB : Gr w mg mb B) (hfr : A.frames = some l) (hfl : Heap.FlyingW B (envOf name scope L a cd :: l) e (.type "IndexError") (.ref t) s'.heap) (htup : s'.heap.TupAt t vs) (hnew : B.get? t = none)
    (F : Fr B L h₁ m) (hsm : h₁.UpToSlots s'.heap) (hLl : L ∉ frsOf l) (ex : nsIn (hd.heap_39 w.params) mainGlobals ("IndexError" : Str) = some none)
    (k : ∀ h₆ h' tk, h₁.UpToSlots h₆ → Fr B L h' (fun y => if y = n then some (.ref e) else m y) → News B L h' (frEntries h₆ l) → h'.ExcAt e "IndexError" (.ref t) → h'.TupAt t vs →
      wpAny (model Pg w) ((A.deeper (envOf name scope L a cd)).mark (some (.ref e))) (execs (b₀ :: suite) (envOf name scope L a cd))
        (fun f s₄ => wpAny (model Pg w) (A.deeper (envOf name scope L a cd)) (do bindName (envOf name scope L a cd) n .none; unbindBehindTheSuite (envOf name scope L a cd) n pos) (fun _ s₅ => Q f s₅) E s₄)
        (AsSuiteRaised (model Pg w) ((A.deeper (envOf name scope L a cd)).mark (some (.ref e))) (envOf name scope L a cd) n pos (notedBy (model Pg w) ((A.deeper (envOf name scope L a cd)).mark (some (.ref e))) (envOf name scope L a cd) (cameBackBy (model Pg w) (A.deeper (envOf name scope L a cd)) (envOf name scope L a cd) E)))
        { s' with heap := h', toks := tk })
    (hk : scope.kind = .function := by rfl) (hlo : (envOf name scope L a cd).kindOf n = some .local := by rfl) (hx : (envOf name scope L a cd).kindOf ("IndexError" : Str) = some .globalImplicit := by rfl) :
    wpAny (model Pg w) (A.deeper (envOf name scope L a cd)) (noteFrame (.ref e) (envOf name scope L a cd))
      (fun _ s₂ => wpAny (model Pg w) (A.deeper (envOf name scope L a cd)) (setFlight (.ref e) none) (fun _ s₃ =>
        wpAny (model Pg w) (A.deeper (envOf name scope L a cd)) (handleBy (.ref e) (envOf name scope L a cd) (.ExceptHandler (some (.Name ("IndexError" : Str) np)) (some n) (b₀ :: suite) pos :: rest)) Q E s₃) E s₂) E s' := by
  refine wpAny_looks_onW (Around.frames_deeper hfr) rfl hfl fun h₄ hheld₄ hsm₄ => ?_
  refine wpAny_landsW hheld₄ fun h₅ hheld hsm₅' => ?_
  have hsm₅ := hsm₄.trans hsm₅'
  have F₅ := F.of_stays hheld.1 (hsm.trans hsm₅)
  obtain ⟨ob, hob, hobc⟩ := hheld.there
  refine wpAny_handleBy_builtin_as (X := "IndexError") (T := "IndexError") (b := true) PySem.F.isExc_IndexError PySem.F.notTuple_IndexError (by rw [isSubtype_type]; kernel_rfl)
    (name_B F₅ GB.kx GB.top ex PyProof.Rows.Boot.«IndexError» (by decide) ⟨rfl, ⟨ob, hob, hobc⟩, ?_⟩ hk hx (by decide))
  refine lands_againW hheld fun h₆ hfl₆ hsm₆ => ?_
  have F₆ := F.of_stays hfl₆.1 ((hsm.trans hsm₅).trans hsm₆)
  obtain ⟨oe, ws, hoe, hoec, hoed, hoe0⟩ := hfl₆.first
  obtain ⟨ot, nt, hot, hotc, hotd⟩ := (htup.of_slots hsm₅).of_slots hsm₆
  have N₆ := News.more F₆ (News.more F₆ News.nil hot (fun es n q => by rw [hotd] at q; cases q) hnew) hoe (fun es n q => by rw [hoed] at q; cases q) hfl₆.2.1
  have Nl : News B L h₆ (frEntries h₆ l) := fun p hp => by
    obtain ⟨h1, h2⟩ := frEntries_mem hp
    refine ⟨h2, fun q => hLl (q ▸ h1), ?_⟩
    obtain ⟨env, he, hf⟩ := List.mem_filterMap.mp h1
    exact (hfl₆.2.2.1.mem (List.mem_filterMap.mpr ⟨env, List.mem_cons_of_mem _ he, hf⟩)).1
  refine stN F₆ (news := [(e, oe), (t, ot)] ++ frEntries h₆ l) (fun q hq => (List.mem_append.mp hq).elim (N₆ q) (Nl q)) (fun h₇ F₇ N₇ => ?_) hk hlo
  exact k h₆ h₇ _ ((hsm.trans hsm₅).trans hsm₆) F₇ (fun q hq => N₇ q (List.mem_append_right _ hq)) ⟨oe, ws, (N₇ (e, oe) (List.Mem.head _)).1, hoec, hoed, hoe0⟩ ⟨ot, nt, (N₇ (t, ot) (.tail _ (.head _))).1, hotc, hotd⟩

theorem law_call_ok {w : World} {mg mb : Str → Option Value} {b : Heap} {A : Around} {s : Shared} {Rr : Result → Shared → Prop} {d : Addr} {vs : List Value} {n : Nat} {kind : Int} {tkd : Tok} {v : Value} {rep : Value → Int → Prop} {R : List Int} {x : Int} {l : List Env}
    (G : Gr w mg mb b) (hb : b.StaysIn s.heap) (hd : b.get? d = none) (hl : s.heap.get? d = some (lst vs n)) (hroom : Room 8 A) (hh : A.handled = none) (S : FrOK A l s.heap) (hfb : ∀ a ∈ frsOf l, b.get? a = none) (hdf : d ∉ frsOf l)
    (hlt : LtOK w b rep) (hR : Are rep vs R) (hx : rep v x) (hsm : R.length < 999)
    (k : ∀ s' vs' v' n', ChgF [d] (frsOf l) s s' → s'.heap.get? d = some (lst vs' n') → Are rep vs' (callR R kind x).2 → ansIs rep (callR R kind x).1 v' → Rr (.ok (.ret v')) s') :
    codeAny (model Challenge.rw_mj0021_01.row.prog w) A (.call (.ref 77) ⟨[.ref d, .int kind tkd, v], []⟩) Rr s := by
  have G' := G.kx
  revert G'
  k_fill
  intro G'
  refine' enter2 (binds := [(Str.ofString "heap", .ref d), (Str.ofString "kind", .int kind tkd), (Str.ofString "item", v)]) [(d, lst vs n)] G hb ?h1 ?h2 ?ho ?hcd ?hr ?bi ?lo ?_ ?c1 ?c2 ?c3 ?c4
  case h1 => simpa using hd
  case h2 => simpa using hl
  case ho => k_is
  case hcd => k_is
  case hr => exact Nat.lt_of_le_of_lt (Nat.le_add_right _ _) hroom.1
  case bi => exact BindsTo.of_eq rfl
  case lo => exact locs rfl
  case c1 => exact rfl
  case c2 => exact rfl
  case c3 => exact rfl
  case c4 => decide
  intro g L h₁ G₁ hg F' N' hLs hall
  have KX := G₁.kx
  have T' := G₁.top
  refine gen_goal fun QQ hQQ => ?_
  have hb2 : b.StaysIn g := fun a o e => hg a o (by intro q; simp at q; subst q; rw [hd] at e; cases e) (hb a o e)
  have hgd : g.get? d = none := (N' _ (List.Mem.head _)).2.2
  have hNd : h₁.get? d = some (lst vs n) := (N' _ (List.Mem.head _)).1
  -- what the raise needs
  have hBs : (hideAll s.heap (frsOf l)).StaysIn s.heap := fun a o e => of_hideAll _ e
  have hBL : (hideAll s.heap (frsOf l)).get? L = none := Heap.get?_none_of_le (by rw [hideAll_size]; exact hLs)
  have hbB : b.StaysIn (hideAll s.heap (frsOf l)) := fun a o e => hideAll_get _ (hb a o e) fun q => by rw [hfb a q] at e; cases e
  have GB := G.keeps hbB
  have hLl : L ∉ frsOf l := fun q => by
    obtain ⟨_, o, ho, _⟩ := S.frames.mem q
    exact absurd (Heap.lt_size ho) (Nat.not_lt.mpr hLs)
  have ex : nsIn (Mine.hd.heap_39 w.params) mainGlobals ("IndexError" : Str) = some none := by k_is
  (repeat' (first | (k_unfold; (try dsimp only)) | ((fail_if_success (with_reducible show wpAny _ _ (exec (Stmt.While _ _ _ _) _) _ _ _)); (fail_if_success (with_reducible show wpAny _ _ (exec (Stmt.For _ _ _ _ _) _) _ _ _)); (fail_if_success (with_reducible show wpAny _ _ (call (Value.ref _) _) _ _ _)); (fail_if_success (with_reducible show wpAny _ _ (compareOp _ (Value.ref _) (Value.ref _)) _ _ _)); (fail_if_success (with_reducible show wpAny _ _ (exec (Stmt.Assign _ (Expr.ListComp _ _ _ _) _) _) _ _ _)); (fail_if_success (with_reducible show wpAny _ _ (eval (Expr.ListComp _ _ _ _) _) _ _ _)); (first | walk1 | (dsimp only; walk1)); (try dsimp only)) | fail "no step"))
  · rename_i hk
    have ec : callR R kind x = (.nothing, sdLoop (R ++ [x]) x 0 R.length) := by unfold callR; rw [if_pos hk]
    refine wpAny_call (heappush_ok (x := x) G₁ F'.keep hgd hNd (hroom.call (by decide))  (hlt.mono hb2) hR hx ?_ fun s' vs' hch hls hRs => ?_)
    · exact hsm
    · obtain ⟨h6, tk6, rfl, hk6⟩ := hch
      refine hQQ _ _ (k _ _ _ _ (Chg.toF ⟨h6, tk6, rfl, fun a o na e => hk6 a o na (hall a o e)⟩) hls ?_ ?_)
      · rw [ec]; exact hRs
      · rw [ec]; rfl
  · rename_i hk1 _ hk
    have ec : callR R kind x = popR R := by unfold callR; rw [if_neg hk1, if_pos hk]
    rcases List.eq_nil_or_concat R with rfl | ⟨R', x', rfl⟩
    · have hvs : vs = [] := List.eq_nil_of_length_eq_zero hR.len
      subst hvs
      have FB : Fr (hideAll s.heap (frsOf l)) L h₁ _ := ⟨F'.ns, fun a o e => hall a o (of_hideAll _ e), by rw [hideAll_size]; exact hLs⟩
      refine wpAny_call (heappop_empty (B := hideAll s.heap (frsOf l)) G₁ F'.keep hgd hNd (hroom.call (by decide)) hh ⟨Around.frames_deeper S.stack, fun a o e => hall a o (hBs a o e), .cons (show ScopeKind.function ≠ ScopeKind.module by decide) rfl F'.ns hBL (S.frames.of_keeps fun a o e _ => ⟨o, hall a o e, rfl⟩)⟩ fun h' tk e t tk' hfl htup hnew hsl => ?_)
      · dsimp only
        refine caught_idx GB S.stack hfl htup hnew FB hsl hLl ex fun h₆ h7 tk7 hsl6 F7 N7 hex7 htup7 => ?_
        clear F' N' FB
        have KXB := GB.kx
        have TB := GB.top
        (repeat' (first | (k_unfold; (try dsimp only)) | ((fail_if_success (with_reducible show wpAny _ _ (exec (Stmt.While _ _ _ _) _) _ _ _)); (fail_if_success (with_reducible show wpAny _ _ (exec (Stmt.For _ _ _ _ _) _) _ _ _)); (fail_if_success (with_reducible show wpAny _ _ (call (Value.ref _) _) _ _ _)); (fail_if_success (with_reducible show wpAny _ _ (compareOp _ (Value.ref _) (Value.ref _)) _ _ _)); (fail_if_success (with_reducible show wpAny _ _ (exec (Stmt.Assign _ (Expr.ListComp _ _ _ _) _) _) _ _ _)); (fail_if_success (with_reducible show wpAny _ _ (eval (Expr.ListComp _ _ _ _) _) _ _ _)); (first | walk1 | (dsimp only; walk1)); (try dsimp only)) | fail "no step"))
        refine P.str_of_exc_one PySem.F.excStr_IndexError ?_ hex7 htup7 ?_
        · exact hroom.units (k := 5) (by decide)
        (repeat' (first | (k_unfold; (try dsimp only)) | ((fail_if_success (with_reducible show wpAny _ _ (exec (Stmt.While _ _ _ _) _) _ _ _)); (fail_if_success (with_reducible show wpAny _ _ (exec (Stmt.For _ _ _ _ _) _) _ _ _)); (fail_if_success (with_reducible show wpAny _ _ (call (Value.ref _) _) _ _ _)); (fail_if_success (with_reducible show wpAny _ _ (compareOp _ (Value.ref _) (Value.ref _)) _ _ _)); (fail_if_success (with_reducible show wpAny _ _ (exec (Stmt.Assign _ (Expr.ListComp _ _ _ _) _) _) _ _ _)); (fail_if_success (with_reducible show wpAny _ _ (eval (Expr.ListComp _ _ _ _) _) _ _ _)); (first | walk1 | (dsimp only; walk1)); (try dsimp only)) | fail "no step"))
        refine name_goes F7 N7 fun h8 m8 F8 N8 => ?_
        refine hQQ _ _ (k _ _ _ n ⟨h8, _, rfl, fun a o na nf e => F8.keep a o (hideAll_get _ e nf), fun a o na hf e => ?_⟩ (F8.keep d _ (hideAll_get _ hl hdf)) ?_ ?_)
        · obtain ⟨_, o', ho', hdat⟩ := S.frames.mem hf
          rw [e] at ho'; cases ho'
          obtain ⟨sl, hs⟩ := hsl6 a o (hall a o e) hdat
          exact ⟨sl, (N8 _ (mem_frEntries hf hs)).1⟩
        · rw [ec]; exact hR
        · rw [ec]; exact ⟨tk', rfl⟩
    · obtain ⟨v0, vi, hvi⟩ : ∃ v0 vi, vs = vi ++ [v0] := by
        rcases List.eq_nil_or_concat vs with q | ⟨vi, v0, q⟩
        · have := hR.len; rw [q] at this; simp at this
        · exact ⟨v0, vi, by simpa using q⟩
      subst hvi
      have hR2 : Are rep vi R' := by
        have hlen := hR.len
        simp at hlen
        refine ⟨hlen, fun i v r hv hr => hR.at' i v r ?_ ?_⟩
        · rw [List.getElem?_append_left (List.getElem?_eq_some_iff.mp hv).1]; exact hv
        · rw [List.concat_eq_append, List.getElem?_append_left (List.getElem?_eq_some_iff.mp hr).1]; exact hr
      have hx2 : rep v0 x' := by
        have hlen := hR.len
        simp at hlen
        exact hR.at' vi.length v0 x' (by simp) (by rw [List.concat_eq_append, hlen]; simp)
      have ep : popR (R'.concat x') = (.rank (R'.getD 0 x'), if R' = [] then [] else suLoop (R'.set 0 x') x' 0 0) := by
        unfold popR
        simp
      refine wpAny_call (heappop_ok G₁ F'.keep hgd hNd (hroom.call (by decide)) (hlt.mono hb2) hR2 hx2 ?_ fun s' vs' v' hch hls hRs hrv => ?_)
      · simp at hsm; omega
      · obtain ⟨h6, tk6, rfl, hk6⟩ := hch
        refine hQQ _ _ (k _ _ _ _ (Chg.toF ⟨h6, tk6, rfl, fun a o na e => hk6 a o na (hall a o e)⟩) hls ?_ ?_)
        · rw [ec, ep]; exact hRs
        · rw [ec, ep]; exact hrv
  · rename_i hk1 _ hk2 _ hk
    have ec : callR R kind x = (.rank (ppR R x).1, (ppR R x).2) := by unfold callR; rw [if_neg hk1, if_neg hk2, if_pos hk]
    refine wpAny_call (heappushpop_ok  G₁ F'.keep hgd hNd (hroom.call (by decide)) hh (hlt.mono hb2) hR hx ?_ fun s' vs' v' hch hls hRs hrv => ?_)
    · exact hsm
    · obtain ⟨h6, tk6, rfl, hk6⟩ := hch
      refine hQQ _ _ (k _ _ _ _ (Chg.toF ⟨h6, tk6, rfl, fun a o na e => hk6 a o na (hall a o e)⟩) hls ?_ ?_)
      · rw [ec]; exact hRs
      · rw [ec]; exact hrv
  · rename_i hk1 _ hk2 _ hk
    have ec : callR R kind x = rplR R x := by unfold callR; rw [if_neg hk1, if_neg hk2, if_neg hk]
    cases R with
    | nil =>
      have hvs : vs = [] := List.eq_nil_of_length_eq_zero hR.len
      subst hvs
      have FB : Fr (hideAll s.heap (frsOf l)) L h₁ _ := ⟨F'.ns, fun a o e => hall a o (of_hideAll _ e), by rw [hideAll_size]; exact hLs⟩
      refine wpAny_call (heapreplace_empty (B := hideAll s.heap (frsOf l)) G₁ F'.keep hgd hNd (hroom.call (by decide)) hh ⟨Around.frames_deeper S.stack, fun a o e => hall a o (hBs a o e), .cons (show ScopeKind.function ≠ ScopeKind.module by decide) rfl F'.ns hBL (S.frames.of_keeps fun a o e _ => ⟨o, hall a o e, rfl⟩)⟩ fun h' tk e t tk' hfl htup hnew hsl => ?_)
      · dsimp only
        refine caught_idx GB S.stack hfl htup hnew FB hsl hLl ex fun h₆ h7 tk7 hsl6 F7 N7 hex7 htup7 => ?_
        clear F' N' FB
        have KXB := GB.kx
        have TB := GB.top
        (repeat' (first | (k_unfold; (try dsimp only)) | ((fail_if_success (with_reducible show wpAny _ _ (exec (Stmt.While _ _ _ _) _) _ _ _)); (fail_if_success (with_reducible show wpAny _ _ (exec (Stmt.For _ _ _ _ _) _) _ _ _)); (fail_if_success (with_reducible show wpAny _ _ (call (Value.ref _) _) _ _ _)); (fail_if_success (with_reducible show wpAny _ _ (compareOp _ (Value.ref _) (Value.ref _)) _ _ _)); (fail_if_success (with_reducible show wpAny _ _ (exec (Stmt.Assign _ (Expr.ListComp _ _ _ _) _) _) _ _ _)); (fail_if_success (with_reducible show wpAny _ _ (eval (Expr.ListComp _ _ _ _) _) _ _ _)); (first | walk1 | (dsimp only; walk1)); (try dsimp only)) | fail "no step"))
        refine P.str_of_exc_one PySem.F.excStr_IndexError ?_ hex7 htup7 ?_
        · exact hroom.units (k := 5) (by decide)
        (repeat' (first | (k_unfold; (try dsimp only)) | ((fail_if_success (with_reducible show wpAny _ _ (exec (Stmt.While _ _ _ _) _) _ _ _)); (fail_if_success (with_reducible show wpAny _ _ (exec (Stmt.For _ _ _ _ _) _) _ _ _)); (fail_if_success (with_reducible show wpAny _ _ (call (Value.ref _) _) _ _ _)); (fail_if_success (with_reducible show wpAny _ _ (compareOp _ (Value.ref _) (Value.ref _)) _ _ _)); (fail_if_success (with_reducible show wpAny _ _ (exec (Stmt.Assign _ (Expr.ListComp _ _ _ _) _) _) _ _ _)); (fail_if_success (with_reducible show wpAny _ _ (eval (Expr.ListComp _ _ _ _) _) _ _ _)); (first | walk1 | (dsimp only; walk1)); (try dsimp only)) | fail "no step"))
        refine name_goes F7 N7 fun h8 m8 F8 N8 => ?_
        refine hQQ _ _ (k _ _ _ n ⟨h8, _, rfl, fun a o na nf e => F8.keep a o (hideAll_get _ e nf), fun a o na hf e => ?_⟩ (F8.keep d _ (hideAll_get _ hl hdf)) ?_ ?_)
        · obtain ⟨_, o', ho', hdat⟩ := S.frames.mem hf
          rw [e] at ho'; cases ho'
          obtain ⟨sl, hs⟩ := hsl6 a o (hall a o e) hdat
          exact ⟨sl, (N8 _ (mem_frEntries hf hs)).1⟩
        · rw [ec]; exact hR
        · rw [ec]; exact ⟨tk', rfl⟩
    | cons r t =>
      refine wpAny_call (heapreplace_ok  G₁ F'.keep hgd hNd (hroom.call (by decide))  (hlt.mono hb2) hR hx ?_ fun s' vs' v' hch hls hRs hrv => ?_)
      · simp at hsm ⊢; omega
      · obtain ⟨h6, tk6, rfl, hk6⟩ := hch
        refine hQQ _ _ (k _ _ _ _ (Chg.toF ⟨h6, tk6, rfl, fun a o na e => hk6 a o na (hall a o e)⟩) hls ?_ ?_)
        · rw [ec]; exact hRs
        · rw [ec]; exact hrv

end Mine

-- C4
namespace Mine


noncomputable def itemOf (v : Int) : Int := if (v.fdiv 5).fmod 2 = 0 then ((v.fdiv 5).fdiv 2).fmod 4 else (v.fdiv 5).fmod 1000 - 500

theorem law_item_ok {w : World} {mg mb : Str → Option Value} {b : Heap} {A : Around} {s : Shared} {Rr : Result → Shared → Prop} {v : Int} {t : Tok}
    (G : Gr w mg mb b) (hb : b.StaysIn s.heap) (hroom : Room 2 A)
    (k : ∀ s' t', Chg [] s s' → Rr (.ok (.ret (.int (itemOf v) t'))) s') :
    codeAny (model Challenge.rw_mj0021_01.row.prog w) A (.call (.ref 70) ⟨[.int v t], []⟩) Rr s := by
  have G' := G.kx
  revert G'
  k_fill
  intro G'
  refine' enter (binds := [(Str.ofString "v", .int v t)]) [] G hb ?h1 ?h2 ?ho ?hcd ?hr ?bi ?lo ?_ ?c1 ?c2 ?c3 ?c4
  case h1 => simp
  case h2 => simp
  case ho => k_is
  case hcd => k_is
  case hr => exact Nat.lt_of_le_of_lt (Nat.le_add_right _ _) hroom.1
  case bi => exact BindsTo.of_eq rfl
  case lo => exact locs rfl
  case c1 => exact rfl
  case c2 => exact rfl
  case c3 => exact rfl
  case c4 => decide
  intro g L h₁ G₁ hg F' N'
  have KX := G₁.kx
  have T' := G₁.top
  refine gen_goal fun QQ hQQ => ?_
  have hb2 : b.StaysIn g := fun a o e => hg a o (by simp) (hb a o e)
  (repeat' (first | (k_unfold; (try dsimp only)) | ((fail_if_success (with_reducible show wpAny _ _ (exec (Stmt.While _ _ _ _) _) _ _ _)); (fail_if_success (with_reducible show wpAny _ _ (exec (Stmt.For _ _ _ _ _) _) _ _ _)); (fail_if_success (with_reducible show wpAny _ _ (call (Value.ref _) _) _ _ _)); (fail_if_success (with_reducible show wpAny _ _ (compareOp _ (Value.ref _) (Value.ref _)) _ _ _)); (fail_if_success (with_reducible show wpAny _ _ (exec (Stmt.Assign _ (Expr.ListComp _ _ _ _) _) _) _ _ _)); (fail_if_success (with_reducible show wpAny _ _ (eval (Expr.ListComp _ _ _ _) _) _ _ _)); (first | walk1 | (dsimp only; walk1)); (try dsimp only)) | fail "no step"))
  · rename_i h2 F2 N2 tk2 hc
    have e : itemOf v = ((v.fdiv 5).fdiv 2).fmod 4 := by unfold itemOf; rw [if_pos hc]
    rw [← e]
    exact hQQ _ _ (k _ _ (chg_end hg F2))
  · rename_i h2 F2 N2 tk2 hc
    have e : itemOf v = (v.fdiv 5).fmod 1000 - 500 := by unfold itemOf; rw [if_neg hc]
    rw [← e]
    exact hQQ _ _ (k _ _ (chg_end hg F2))

theorem law_pair_ok {w : World} {mg mb : Str → Option Value} {b : Heap} {A : Around} {s : Shared} {Rr : Result → Shared → Prop} {r : Int} {t : Tok}
    (G : Gr w mg mb b) (hb : b.StaysIn s.heap) (hroom : Room 2 A)
    (k : ∀ s' p, Chg [] s s' → s.heap.get? p = none → IsPair s'.heap p (r.fdiv 4) (r.fmod 4) → Rr (.ok (.ret (.ref p))) s') :
    codeAny (model Challenge.rw_mj0021_01.row.prog w) A (.call (.ref 84) ⟨[.int r t], []⟩) Rr s := by
  have G' := G.kx
  revert G'
  k_fill
  intro G'
  refine' enter (binds := [(Str.ofString "rank", .int r t)]) [] G hb ?h1 ?h2 ?ho ?hcd ?hr ?bi ?lo ?_ ?c1 ?c2 ?c3 ?c4
  case h1 => simp
  case h2 => simp
  case ho => k_is
  case hcd => k_is
  case hr => exact Nat.lt_of_le_of_lt (Nat.le_add_right _ _) hroom.1
  case bi => exact BindsTo.of_eq rfl
  case lo => exact locs rfl
  case c1 => exact rfl
  case c2 => exact rfl
  case c3 => exact rfl
  case c4 => decide
  intro g L h₁ G₁ hg F' N'
  have KX := G₁.kx
  have T' := G₁.top
  refine gen_goal fun QQ hQQ => ?_
  have hb2 : b.StaysIn g := fun a o e => hg a o (by simp) (hb a o e)
  (repeat' (first | (k_unfold; (try dsimp only)) | ((fail_if_success (with_reducible show wpAny _ _ (exec (Stmt.While _ _ _ _) _) _ _ _)); (fail_if_success (with_reducible show wpAny _ _ (exec (Stmt.For _ _ _ _ _) _) _ _ _)); (fail_if_success (with_reducible show wpAny _ _ (call (Value.ref _) _) _ _ _)); (fail_if_success (with_reducible show wpAny _ _ (compareOp _ (Value.ref _) (Value.ref _)) _ _ _)); (fail_if_success (with_reducible show wpAny _ _ (exec (Stmt.Assign _ (Expr.ListComp _ _ _ _) _) _) _ _ _)); (fail_if_success (with_reducible show wpAny _ _ (eval (Expr.ListComp _ _ _ _) _) _ _ _)); (first | walk1 | (dsimp only; walk1)); (try dsimp only)) | fail "no step"))
  rename_i D2 h2 F2 N2 _
  refine hQQ _ _ (k _ D2 (chg_end hg F2) ?_ ⟨_, _, _, _, (N2 _ (List.Mem.head _)).1, rfl, rfl⟩)
  cases q : s.heap.get? D2 with
  | none => rfl
  | some o =>
    have := hg D2 o (by simp) q
    rw [(N2 _ (List.Mem.head _)).2.2] at this; cases this
end Mine

-- C5
namespace Mine


structure RanksOK (w : World) (h : Heap) (K : Addr) (rk : List (Int × Int)) : Prop where
  low : (K == sysModules) = false
  dict : ∃ kvs, h.DictOf (intKind Pg w) K kvs ∧ ∀ p ∈ rk, ∃ t, valueAt kvs p.1 = some (.int p.2 t)

section
variable {prog : Program} {w : World} {A : Around} {h₀ : Heap} {L : Addr} {m : Str → Option Value} {env : Env} {elt : PySem.Expr} {x : Str} {scope : Scope} {cl : List (Str × Addr)} {s : Shared} {S : List (Addr × Obj) → Prop} {P : Nat → Value → Prop} {Fin : List Value → List (Addr × Obj) → Prop} {news : List (Addr × Obj)}
theorem comp_inv {n : Nat} (Inv : Nat → List Value → List (Addr × Obj) → Prop) (h0 : Inv 0 [] news)
    (turn : ∀ i v ys nw I oI C oC D m₂ h tk (QT : Value → Shared → Prop), (∀ f s', LCg.CompEnd h₀ L m { s with heap := h, toks := tk } I oI C oC D (LCg.lst ys) S (fun y nw' => Inv (i + 1) (ys ++ [y]) nw') f s' → QT f s') → i < n → P i v → Inv i ys nw → LCg.NsObj oC m₂ → m₂ x = some v → Fr h₀ L h m → News h₀ L h ((I, oI) :: (C, oC) :: (D, LCg.lst ys) :: nw) → LCg.Off3 I C D nw → ((@Ne Nat I C) ∧ (@Ne Nat I D) ∧ (@Ne Nat C D)) →
      wpAny (model prog w) A (eval elt (compEnvC scope cl C env)) QT (fun _ _ => False) { s with heap := h, toks := tk })
    (fin : ∀ ys nw, Inv n ys nw → Fin ys nw) : LCg.CompRest prog w A h₀ L m env elt x scope cl s S P Fin n 0 [] news := by
  have key : ∀ (j i : Nat) (ys : List Value) (nw : List (Addr × Obj)), i + j = n → Inv i ys nw → LCg.CompRest prog w A h₀ L m env elt x scope cl s S P Fin j i ys nw := by
    intro j
    induction j with
    | zero =>
      intro i ys nw hi hI
      have e : i = n := by omega
      subst e
      exact LCg.CompRest.zero (fin ys nw hI)
    | succ j ih =>
      intro i ys nw hi hI
      refine LCg.CompRest.succ ?_
      intro v I oI C oC D m₂ h tk E' hv hC hx F N off ne
      refine wpAny_mono (turn i v ys nw I oI C oC D m₂ h tk _ (fun _ _ q => q) (by omega) hv hI hC hx F N off ne) (fun y s₂ hq => ?_) fun _ _ e => e.elim
      obtain ⟨h', tk', nw', e, F', N', off', hS, hI'⟩ := hq
      exact ⟨h', tk', nw', e, F', N', off', hS, ih (i + 1) _ _ (by omega) hI'⟩
  exact key n 0 [] news (by omega) h0
end

theorem comp_out {h₀ : Heap} {L I C D : Addr} {m : Str → Option Value} {s₁ : Shared} {oI oC oD : Obj} {S : List (Addr × Obj) → Prop} {rest : Value → List (Addr × Obj) → Prop} {y : Value} {h' : Heap} {tk : Nat} {all : List (Addr × Obj)} {QT : Value → Shared → Prop}
    (hQT : ∀ f s', LCg.CompEnd h₀ L m s₁ I oI C oC D oD S rest f s' → QT f s')
    (F : Fr h₀ L h' m) (N : News h₀ L h' all) (news' : List (Addr × Obj)) (sub : ∀ p ∈ (I, oI) :: (C, oC) :: (D, oD) :: news', p ∈ all) (off : LCg.Off3 I C D news') (hS : S news') (r : rest y news') : QT y { s₁ with heap := h', toks := tk } := hQT _ _ (LCg.CompEnd.intro F N news' sub off hS r)

theorem are_cons {rep : Value → Int → Prop} {v : Value} {vs : List Value} {r : Int} {R : List Int} (h : Are rep (v :: vs) (r :: R)) : rep v r ∧ Are rep vs R :=
  ⟨h.at' 0 v r rfl rfl, by have := h.len; simpa using this, fun i v' r' hv hr => h.at' (i + 1) v' r' (by simpa using hv) (by simpa using hr)⟩
theorem Are.nil {rep : Value → Int → Prop} : Are rep [] [] := ⟨rfl, fun i v r h => by simp at h⟩
theorem Are.cons {rep : Value → Int → Prop} {v : Value} {vs : List Value} {r : Int} {R : List Int} (h : rep v r) (t : Are rep vs R) : Are rep (v :: vs) (r :: R) :=
  ⟨by simp [t.len], fun i v' r' hv hr => by
    cases i with
    | zero => cases hv; cases hr; exact h
    | succ i => exact t.at' i v' r' (by simpa using hv) (by simpa using hr)⟩
theorem are_ints : ∀ {vs : List Value} {R : List Int}, Are repR vs R → IntsAre vs R
  | [], [], _ => .nil
  | [], _ :: _, h => by have := h.len; simp at this
  | _ :: _, [], h => by have := h.len; simp at this
  | v :: vs, r :: R, h => by
    obtain ⟨⟨t, rfl⟩, h2⟩ := are_cons h
    exact .cons r t (are_ints h2)
theorem ints_are : ∀ {vs : List Value} {R : List Int}, IntsAre vs R → Are repR vs R
  | _, _, .nil => .nil
  | _, _, .cons r t h => .cons ⟨t, rfl⟩ (ints_are h)

theorem DictOf.stays {w : World} {h h' : Heap} {d : Addr} {kvs : List (Int × Value)} (x : h.DictOf (intKind Pg w) d kvs) (k : h.StaysIn h') : h'.DictOf (intKind Pg w) d kvs :=
  let ⟨o, es, ep, e, r⟩ := x; ⟨o, es, ep, k _ _ e, r⟩
theorem RanksOK.stays {w : World} {h h' : Heap} {K : Addr} {rk : List (Int × Int)} (x : RanksOK w h K rk) (k : h.StaysIn h') : RanksOK w h' K rk :=
  ⟨x.low, let ⟨kvs, a, b⟩ := x.dict; ⟨kvs, DictOf.stays a k, b⟩⟩
theorem my_item {w : World} {A : Around} {E : Value → Shared → Prop} {s : Shared} {value slice : PySem.Expr} {d : Addr} {kvs : List (Int × Value)} {k : Int} {t : Tok} {v : Value} {Q : Value → Shared → Prop}
    (hD : s.heap.DictOf (intKind Pg w) d kvs) (hl : valueAt kvs k = some v) (h : Q v { s with toks := s.toks + 1 })
    (hs : subscripted slice false (.ref d) (.int k t) = operate [.ref d, .int k t] (getItem (.ref d) (.int k t)) := by with_unfolding_all rfl) (hg : ∀ r, letTemporaryGo value (.ref d) r = pure () := by intro _; with_unfolding_all rfl) :
    wpAny (model Pg w) A (subscriptTail value slice (.ref d) (.int k t)) Q E s :=
  subscriptTail_builtin hD.typeIs slot_dict_getitem.lookup (wpAny_getItem_of (knd := intKind Pg w) (by simp [intKind, Value.isInt]) hD.mapOf hl h) hs hg

/-- pairs as data -/
noncomputable def pairD (r : Int) : PyData := .tuple [.int (r.fdiv 4), .int (r.fmod 4)]
theorem pairs_reads {h : Heap} : ∀ {vs : List Value} {R : List Int}, Are (repP h) vs R → ReadsAll h vs (R.map pairD) []
  | [], [], _ => .nil
  | [], _ :: _, h => by have := h.len; simp at this
  | _ :: _, [], h => by have := h.len; simp at this
  | v :: vs, r :: R, h => by
    obtain ⟨⟨p, rfl, o, n, t, u, e, c, d⟩, h2⟩ := are_cons h
    exact readsAll_cons_val (reads_tuple_at e c d (readsAll_cons_val (.int _ _) (readsAll_cons_val (.int _ _) .nil))) (pairs_reads h2)
theorem pairs_canLay : ∀ R : List Int, PyData.canLayAll0 (R.map pairD) = true
  | [] => rfl
  | _ :: r => by simp [PyData.canLayAll0, PyData.canLay0, pairD, pairs_canLay r]
theorem pairs_depth : ∀ R : List Int, PyData.depthAll (R.map pairD) ≤ 1
  | [] => by simp [PyData.depthAll]
  | _ :: r => by have := pairs_depth r; simp [PyData.depthAll, PyData.depth, pairD]; omega
theorem pairs_shaped (R : List Int) : SeqAt.shaped (.list (R.map pairD)) = true := by
  have := pairs_depth R
  simp [SeqAt.shaped, PyData.canLay0, PyData.depth, pairs_canLay]
  omega
theorem pairs_eqvAll : ∀ R : List Int, PyData.eqvAll (R.map pairD) (R.map pairD) = true
  | [] => by simp [PyData.eqvAll]
  | _ :: r => by simp [PyData.eqvAll, PyData.eqv, pairD, pairs_eqvAll r]
theorem eq_pairs {w : World} {A : Around} {E : Value → Shared → Prop} {s : Shared} {a b : Addr} {xs ys : List Value} {R : List Int} {Q : Value → Shared → Prop}
    (ha : s.heap.IsList a xs.toArray) (hb : s.heap.IsList b ys.toArray) (hi : Are (repP s.heap) xs R) (hj : Are (repP s.heap) ys R) (hu : A.units + 64 < cLine) (h : Q (.bool true) s) :
    wpAny (model Pg w) A (compareOp .Eq (.ref a) (.ref b)) Q E s := by
  obtain ⟨oa, ea, ca, na, da⟩ := ha
  obtain ⟨ob, eb, cb, nb, db⟩ := hb
  refine eq_dataH (reads_list_at ea ca da (pairs_reads hi)) (reads_list_at eb cb db (pairs_reads hj)) (pairs_shaped R) (pairs_shaped R) hu ?_
  rw [show PyData.eqv (.list (R.map pairD)) (.list (R.map pairD)) = true from by simp [PyData.eqv, pairs_eqvAll]]
  exact h

/-- pairs that the ledger holds -/
noncomputable def repL (ps : List (Addr × Obj)) (v : Value) (r : Int) : Prop := ∃ p o n t u, v = .ref p ∧ (p, o) ∈ ps ∧ o.cls = .type "tuple" ∧ o.data = .seq #[.int (r.fdiv 4) t, .int (r.fmod 4) u] n
theorem repL.more {ps ps' : List (Addr × Obj)} {v : Value} {r : Int} (h : repL ps v r) (k : ∀ p ∈ ps, p ∈ ps') : repL ps' v r :=
  let ⟨p, o, n, t, u, e, m, c⟩ := h; ⟨p, o, n, t, u, e, k _ m, c⟩
theorem Are.mono {rep rep' : Value → Int → Prop} {vs : List Value} {R : List Int} (h : Are rep vs R) (k : ∀ v r, rep v r → rep' v r) : Are rep' vs R := ⟨h.len, fun i v r hv hr => k v r (h.at' i v r hv hr)⟩
theorem Are.take_push {rep : Value → Int → Prop} {vs : List Value} {R : List Int} {i : Nat} {v : Value} (h : Are rep vs (R.take i)) (hi : i < R.length) (hx : rep v R[i]) : Are rep (vs ++ [v]) (R.take (i + 1)) := by
  rw [List.take_add_one, List.getElem?_eq_getElem hi]
  exact h.push hx

theorem law_alike_ok {w : World} {mg mb : Str → Option Value} {b : Heap} {A : Around} {s : Shared} {Rr : Result → Shared → Prop} {H K d1 d2 d3 : Addr} {v1 v2 v3 : List Value} {nH n1 n2 n3 : Nat} {R : List Int} {rk : List (Int × Int)}
    (G : Gr w mg mb b) (hb : b.StaysIn s.heap) (hroom : Room 4 A) (hh : A.handled = none)
    (hH : s.heap.get? H = some (lst [.ref d1, .ref d2, .ref d3] nH)) (h1 : s.heap.get? d1 = some (lst v1 n1)) (h2 : s.heap.get? d2 = some (lst v2 n2)) (h3 : s.heap.get? d3 = some (lst v3 n3))
    (hK : RanksOK w s.heap K rk) (r1 : Are (repI rk) v1 R) (r2 : Are repR v2 R) (r3 : Are (repP b) v3 R) (hsm : R.length < 999)
    (k : ∀ s', Chg [] s s' → Rr (.ok (.ret (.bool true))) s') :
    codeAny (model Challenge.rw_mj0021_01.row.prog w) A (.call (.ref 89) ⟨[.ref H, .ref K], []⟩) Rr s := by
  have G' := G.kx
  revert G'
  k_fill
  intro G'
  refine' enterC (binds := [(Str.ofString "heaps", .ref H), (Str.ofString "ranks", .ref K)]) [] G hb ?h1 ?h2 ?ho ?hcd ?hr ?bi ?lo ?nd ?_ ?c1 ?c2 ?c3
  case h1 => simp
  case h2 => simp
  case ho => k_is
  case hcd => k_is
  case hr => exact Nat.lt_of_le_of_lt (Nat.le_add_right _ _) hroom.1
  case bi => exact BindsTo.of_eq rfl
  case lo => intro n x hx; simp only [List.mem_cons, List.not_mem_nil, or_false] at hx; rcases hx with rfl | rfl; exact .inl rfl; exact .inr ⟨rfl, rfl⟩
  case nd => decide
  case c1 => exact rfl
  case c2 => exact rfl
  case c3 => exact rfl
  intro g L h₁ tk0 cells G₁ hg F' N' Y hDL
  have KX := G₁.kx
  have T' := G₁.top
  refine gen_goal fun QQ hQQ => ?_
  have hb2 : b.StaysIn g := fun a o e => hg a o (by simp) (hb a o e)
  have Y1 := CellsAre.one Y
  obtain ⟨oY, hE, dY⟩ := Y1
  subst hE
  clear Y
  replace dY : oY.data = .cell (some (.ref K)) := dY
  replace N' : News g L h₁ [(L + 1, oY)] := N'
  have gH : g.IsList H [.ref d1, .ref d2, .ref d3].toArray := PySem.IsL.isList (n := nH) (hg _ _ (by simp) hH)
  have g1 : g.IsList d1 v1.toArray := PySem.IsL.isList (n := n1) (hg _ _ (by simp) h1)
  have g2 : g.IsList d2 v2.toArray := PySem.IsL.isList (n := n2) (hg _ _ (by simp) h2)
  have g3 : g.IsList d3 v3.toArray := PySem.IsL.isList (n := n3) (hg _ _ (by simp) h3)
  have l1 : v1.length < 999 := by rw [r1.len]; exact hsm
  have l2 : v2.length < 999 := by rw [r2.len]; exact hsm
  (repeat' (first | (k_unfold; (try dsimp only)) | ((fail_if_success (with_reducible show wpAny _ _ (exec (Stmt.While _ _ _ _) _) _ _ _)); (fail_if_success (with_reducible show wpAny _ _ (exec (Stmt.For _ _ _ _ _) _) _ _ _)); (fail_if_success (with_reducible show wpAny _ _ (call (Value.ref _) _) _ _ _)); (fail_if_success (with_reducible show wpAny _ _ (compareOp _ (Value.ref _) (Value.ref _)) _ _ _)); (fail_if_success (with_reducible show wpAny _ _ (exec (Stmt.Assign _ (Expr.ListComp _ _ _ _) _) _) _ _ _)); (fail_if_success (with_reducible show wpAny _ _ (eval (Expr.ListComp _ _ _ _) _) _ _ _)); (first | walk1 | (dsimp only; walk1)); (try dsimp only)) | fail "no step"))
  refine LCg.Assign_ListComp_U (F₀ := F') (by rfl) (by with_unfolding_all rfl) (by with_unfolding_all rfl) (by decide) (by rfl) (by decide) (by rfl) (by rfl) (by rfl) ?_
  (repeat' (first | (k_unfold; (try dsimp only)) | ((fail_if_success (with_reducible show wpAny _ _ (exec (Stmt.While _ _ _ _) _) _ _ _)); (fail_if_success (with_reducible show wpAny _ _ (exec (Stmt.For _ _ _ _ _) _) _ _ _)); (fail_if_success (with_reducible show wpAny _ _ (call (Value.ref _) _) _ _ _)); (fail_if_success (with_reducible show wpAny _ _ (compareOp _ (Value.ref _) (Value.ref _)) _ _ _)); (fail_if_success (with_reducible show wpAny _ _ (exec (Stmt.Assign _ (Expr.ListComp _ _ _ _) _) _) _ _ _)); (fail_if_success (with_reducible show wpAny _ _ (eval (Expr.ListComp _ _ _ _) _) _ _ _)); (first | walk1 | (dsimp only; walk1)); (try dsimp only)) | fail "no step"))
  refine LCg.CompSrc.base hh F' N' g1 (by rw [sizeLine_eq]; first | exact Nat.le_trans (Nat.le_of_eq r1.len) (Nat.le_trans (Nat.le_of_lt hsm) (by decide)) | exact Nat.le_trans (Nat.le_of_eq r2.len) (Nat.le_trans (Nat.le_of_lt hsm) (by decide)) | exact Nat.le_trans (Nat.le_of_eq r3.len) (Nat.le_trans (Nat.le_of_lt hsm) (by decide)) | (simp; omega)) fun g' => ?_
  refine comp_inv (fun i ys nw => nw = [(L + 1, oY)] ∧ Are repR ys (R.take i)) ⟨rfl, by simpa using Are.nil⟩ ?_ ?_
  · rintro i v ys nw I oI C oC D m₂ h tk QT hQT hi hv ⟨rfl, hy⟩ hC hx F N off ne
    have hi' : i < R.length := by rw [← r1.len]; simpa using hi
    obtain ⟨a, ta, rfl, hrk⟩ := r1.at' i v R[i] (by simpa using hv) (List.getElem?_eq_getElem hi')
    obtain ⟨kvs, hdk, hval⟩ := hK.dict
    obtain ⟨tr, hvr⟩ := hval _ hrk
    (repeat' (first | (k_unfold; (try dsimp only)) | ((fail_if_success (with_reducible show wpAny _ _ (exec (Stmt.While _ _ _ _) _) _ _ _)); (fail_if_success (with_reducible show wpAny _ _ (exec (Stmt.For _ _ _ _ _) _) _ _ _)); (fail_if_success (with_reducible show wpAny _ _ (call (Value.ref _) _) _ _ _)); (fail_if_success (with_reducible show wpAny _ _ (compareOp _ (Value.ref _) (Value.ref _)) _ _ _)); (fail_if_success (with_reducible show wpAny _ _ (exec (Stmt.Assign _ (Expr.ListComp _ _ _ _) _) _) _ _ _)); (fail_if_success (with_reducible show wpAny _ _ (eval (Expr.ListComp _ _ _ _) _) _ _ _)); (first | walk1 | (dsimp only; walk1)); (try dsimp only)) | fail "no step"))
    have hgs : s.heap.StaysIn h := fun a o e => F.keep a o (hg a o (by simp) e)
    refine my_item (DictOf.stays hdk hgs) hvr ?_ (by with_unfolding_all rfl) (by intro _; with_unfolding_all rfl)
    exact comp_out hQT F N [(L + 1, oY)] (fun _ hp => hp) off (.inl g1) ⟨rfl, hy.take_push hi' ⟨_, rfl⟩⟩
  · rintro ys nw ⟨rfl, hy⟩ D h tk F N off
    rw [show R.take v1.toArray.size = R from by rw [show v1.toArray.size = R.length from by simpa using r1.len]; exact List.take_length] at hy
    clear F' N'
    dsimp only
    (repeat' (first | (k_unfold; (try dsimp only)) | ((fail_if_success (with_reducible show wpAny _ _ (exec (Stmt.While _ _ _ _) _) _ _ _)); (fail_if_success (with_reducible show wpAny _ _ (exec (Stmt.For _ _ _ _ _) _) _ _ _)); (fail_if_success (with_reducible show wpAny _ _ (call (Value.ref _) _) _ _ _)); (fail_if_success (with_reducible show wpAny _ _ (compareOp _ (Value.ref _) (Value.ref _)) _ _ _)); (fail_if_success (with_reducible show wpAny _ _ (exec (Stmt.Assign _ (Expr.ListComp _ _ _ _) _) _) _ _ _)); (fail_if_success (with_reducible show wpAny _ _ (eval (Expr.ListComp _ _ _ _) _) _ _ _)); (first | walk1 | (dsimp only; walk1)); (try dsimp only)) | fail "no step"))
    refine LCg.Assign_ListComp_U (F₀ := F) (by rfl) (by with_unfolding_all rfl) (by with_unfolding_all rfl) (by decide) (by rfl) (by decide) (by rfl) (by rfl) (by rfl) ?_
    (repeat' (first | (k_unfold; (try dsimp only)) | ((fail_if_success (with_reducible show wpAny _ _ (exec (Stmt.While _ _ _ _) _) _ _ _)); (fail_if_success (with_reducible show wpAny _ _ (exec (Stmt.For _ _ _ _ _) _) _ _ _)); (fail_if_success (with_reducible show wpAny _ _ (call (Value.ref _) _) _ _ _)); (fail_if_success (with_reducible show wpAny _ _ (compareOp _ (Value.ref _) (Value.ref _)) _ _ _)); (fail_if_success (with_reducible show wpAny _ _ (exec (Stmt.Assign _ (Expr.ListComp _ _ _ _) _) _) _ _ _)); (fail_if_success (with_reducible show wpAny _ _ (eval (Expr.ListComp _ _ _ _) _) _ _ _)); (first | walk1 | (dsimp only; walk1)); (try dsimp only)) | fail "no step"))
    refine LCg.CompSrc.base hh F N g2 (by rw [sizeLine_eq]; first | exact Nat.le_trans (Nat.le_of_eq r1.len) (Nat.le_trans (Nat.le_of_lt hsm) (by decide)) | exact Nat.le_trans (Nat.le_of_eq r2.len) (Nat.le_trans (Nat.le_of_lt hsm) (by decide)) | exact Nat.le_trans (Nat.le_of_eq r3.len) (Nat.le_trans (Nat.le_of_lt hsm) (by decide)) | (simp; omega)) fun g'' => ?_
    refine comp_inv (fun i zs nw => ∃ ps, nw = ps ++ [(D, LCg.lst ys), (L + 1, oY)] ∧ Are (repL ps) zs (R.take i)) ⟨[], rfl, by simpa using Are.nil⟩ ?_ ?_
    · rintro i v zs nw I oI C oC D' m₂ h' tk' QT hQT hi hv ⟨ps, rfl, hz⟩ hC hx F2 N2 off2 ne
      have hi' : i < R.length := by rw [← r2.len]; simpa using hi
      obtain ⟨ta, rfl⟩ := r2.at' i v R[i] (by simpa using hv) (List.getElem?_eq_getElem hi')
      have F2h := And.intro F2 True.intro
      (repeat' (first | (k_unfold; (try dsimp only)) | ((fail_if_success (with_reducible show wpAny _ _ (exec (Stmt.While _ _ _ _) _) _ _ _)); (fail_if_success (with_reducible show wpAny _ _ (exec (Stmt.For _ _ _ _ _) _) _ _ _)); (fail_if_success (with_reducible show wpAny _ _ (call (Value.ref _) _) _ _ _)); (fail_if_success (with_reducible show wpAny _ _ (compareOp _ (Value.ref _) (Value.ref _)) _ _ _)); (fail_if_success (with_reducible show wpAny _ _ (exec (Stmt.Assign _ (Expr.ListComp _ _ _ _) _) _) _ _ _)); (fail_if_success (with_reducible show wpAny _ _ (eval (Expr.ListComp _ _ _ _) _) _ _ _)); (first | walk1 | (dsimp only; walk1)); (try dsimp only)) | fail "no step"))
      have F2 := F2h.1
      refine wpAny_call (law_pair_ok G₁ F2.keep (hroom.call (by decide)) fun s' p hch hp0 hpp => ?_)
      · obtain ⟨h6, tk6, rfl, hk6⟩ := hch
        have up : ∀ b o, h'.get? b = some o → h6.get? b = some o := fun b o e => hk6 b o (by simp) e
        obtain ⟨op, np, tp, up', ep, cp, dp⟩ := hpp
        have neq : ∀ q ∈ (I, oI) :: (C, oC) :: (D', LCg.lst zs) :: (ps ++ [(D, LCg.lst ys), (L + 1, oY)]), q.1 ≠ p := fun q hq e => by
          have := (N2 q hq).1; rw [e] at this; rw [hp0] at this; cases this
        have hpL : p ≠ L := fun e => by
          obtain ⟨o, _, _, eL, _⟩ := F2.ns
          rw [← e, hp0] at eL; cases eL
        have hpg : g.get? p = none := by
          cases q : g.get? p with
          | none => rfl
          | some o => have := F2.keep p o q; rw [hp0] at this; cases this
        refine comp_out hQT (F2.keeps up) (all := (p, op) :: (I, oI) :: (C, oC) :: (D', LCg.lst zs) :: (ps ++ [(D, LCg.lst ys), (L + 1, oY)])) ?_ ((p, op) :: (ps ++ [(D, LCg.lst ys), (L + 1, oY)])) ?_ ⟨⟨?_, ?_, ?_⟩, off2⟩ (.inl g2) ⟨(p, op) :: ps, rfl, ?_⟩
        · intro q hq
          rcases List.mem_cons.mp hq with rfl | hq
          · exact ⟨ep, hpL, hpg⟩
          · exact N2.grown up q hq
        · intro q hq
          rcases List.mem_cons.mp hq with rfl | hq
          · exact .tail _ (.head _)
          rcases List.mem_cons.mp hq with rfl | hq
          · exact .tail _ (.tail _ (.head _))
          rcases List.mem_cons.mp hq with rfl | hq
          · exact .tail _ (.tail _ (.tail _ (.head _)))
          rcases List.mem_cons.mp hq with rfl | hq
          · exact .head _
          · exact .tail _ (.tail _ (.tail _ (.tail _ hq)))
        · exact Ne.symm (neq (I, oI) (.head _))
        · exact Ne.symm (neq (C, oC) (.tail _ (.head _)))
        · exact Ne.symm (neq (D', LCg.lst zs) (.tail _ (.tail _ (.head _))))
        · exact (hz.mono fun v r q => q.more fun x hx => .tail _ hx).take_push hi' ⟨p, op, np, tp, up', rfl, .head _, cp, dp⟩
    · rintro zs nw ⟨ps, rfl, hz⟩ D2 h2' tk2 F2 N2 off2
      rw [show R.take v2.toArray.size = R from by rw [show v2.toArray.size = R.length from by simpa using r2.len]; exact List.take_length] at hz
      clear F N
      dsimp only
      (repeat' (first | (k_unfold; (try dsimp only)) | ((fail_if_success (with_reducible show wpAny _ _ (exec (Stmt.While _ _ _ _) _) _ _ _)); (fail_if_success (with_reducible show wpAny _ _ (exec (Stmt.For _ _ _ _ _) _) _ _ _)); (fail_if_success (with_reducible show wpAny _ _ (call (Value.ref _) _) _ _ _)); (fail_if_success (with_reducible show wpAny _ _ (compareOp _ (Value.ref _) (Value.ref _)) _ _ _)); (fail_if_success (with_reducible show wpAny _ _ (exec (Stmt.Assign _ (Expr.ListComp _ _ _ _) _) _) _ _ _)); (fail_if_success (with_reducible show wpAny _ _ (eval (Expr.ListComp _ _ _ _) _) _ _ _)); (first | walk1 | (dsimp only; walk1)); (try dsimp only)) | fail "no step"))
      have hgs : s.heap.StaysIn h2' := fun a o e => F2.keep a o (hg a o (by simp) e)
      have iD : (⟨h2', s.gens, s.drawn, tk2, s.os⟩ : Shared).heap.IsList D ys.toArray := PySem.IsL.isList (N2 (D, LCg.lst ys) (.tail _ (List.mem_append_right _ (.head _)))).1
      have iD2 : h2'.IsList D2 zs.toArray := PySem.IsL.isList (N2 (D2, LCg.lst zs) (.head _)).1
      refine ke_eq_ints iD (g2.at fun o e => F2.keep _ o e) (are_ints hy) (are_ints r2) ?_ ?_
      · exact hroom.units (k := 67) (by decide)
      rw [show decide (R = R) = true from decide_eq_true rfl]
      (repeat' (first | (k_unfold; (try dsimp only)) | ((fail_if_success (with_reducible show wpAny _ _ (exec (Stmt.While _ _ _ _) _) _ _ _)); (fail_if_success (with_reducible show wpAny _ _ (exec (Stmt.For _ _ _ _ _) _) _ _ _)); (fail_if_success (with_reducible show wpAny _ _ (call (Value.ref _) _) _ _ _)); (fail_if_success (with_reducible show wpAny _ _ (compareOp _ (Value.ref _) (Value.ref _)) _ _ _)); (fail_if_success (with_reducible show wpAny _ _ (exec (Stmt.Assign _ (Expr.ListComp _ _ _ _) _) _) _ _ _)); (fail_if_success (with_reducible show wpAny _ _ (eval (Expr.ListComp _ _ _ _) _) _ _ _)); (first | walk1 | (dsimp only; walk1)); (try dsimp only)) | fail "no step"))
      refine eq_pairs (R := R) iD2 (g3.at fun o e => F2.keep _ o e) ?_ (r3.mono fun v r q => q.keeps fun a o e => hgs a o (hb a o e)) ?_ ?_
      · refine hz.mono fun v r q => ?_
        obtain ⟨p, o, n, t, u, e, m, c, dd⟩ := q
        exact ⟨p, e, o, n, t, u, (N2 (p, o) (.tail _ (List.mem_append_left _ m))).1, c, dd⟩
      · exact hroom.units (k := 67) (by decide)
      (repeat' (first | (k_unfold; (try dsimp only)) | ((fail_if_success (with_reducible show wpAny _ _ (exec (Stmt.While _ _ _ _) _) _ _ _)); (fail_if_success (with_reducible show wpAny _ _ (exec (Stmt.For _ _ _ _ _) _) _ _ _)); (fail_if_success (with_reducible show wpAny _ _ (call (Value.ref _) _) _ _ _)); (fail_if_success (with_reducible show wpAny _ _ (compareOp _ (Value.ref _) (Value.ref _)) _ _ _)); (fail_if_success (with_reducible show wpAny _ _ (exec (Stmt.Assign _ (Expr.ListComp _ _ _ _) _) _) _ _ _)); (fail_if_success (with_reducible show wpAny _ _ (eval (Expr.ListComp _ _ _ _) _) _ _ _)); (first | walk1 | (dsimp only; walk1)); (try dsimp only)) | fail "no step"))
      exact hQQ _ _ (k _ ⟨h2', _, rfl, fun a o _ e => hgs a o e⟩)
end Mine

-- D1
namespace Mine
section
variable {prog : Program} {w : World} {A : Around} {E : Value → Shared → Prop} {s : Shared} {env : Env} {h₀ : Heap} {L : Addr} {m : Str → Option Value} {news : List (Addr × Obj)}

/-- a comprehension's block: what its loop must do, from a fresh list D and a fresh namespace C -/
theorem comp_block {e : PySem.Expr} {elt target iter : PySem.Expr} {ifs : List PySem.Expr} {rest : List Comprehension} {scope : Scope} {pos : Pos} {cl : List (Str × Addr)} {s₂ : Shared} {I : Addr} {RR : Value → Addr → Result → Shared → Prop}
    (he : e = .ListComp elt (⟨target, iter, ifs, 0⟩ :: rest) scope pos) (hcell : ∀ y ∈ scope.names, y.2 ≠ .cell) (hkind : scope.kind = .function)
    (self : ∀ (s₃ : Shared) (Q : Value → Shared → Prop) (E' : Value → Shared → Prop), s₂.heap.StaysIn s₃.heap → Q (.ref I) s₃ → wpAny (model prog w) A (pyIter (.ref I)) Q E' s₃)
    (loop : ∀ D C h₁ tk m', s₂.heap.objs.size ≤ D → s₂.heap.objs.size ≤ C → D ≠ C → s₂.heap.StaysIn h₁ → h₁.get? D = some (LCg.lst []) → h₁.Ns C m' →
      codeAny (model prog w) A (.compLoop e 0 (.ref I) (.ref D) (compEnvC scope cl C env)) (RR (.ref D) C) { s₂ with heap := h₁, toks := tk }) :
    wpAny (model prog w) A (newList []) (fun acc s₃ => wpAny (model prog w) A (newFunctionEnv scope env.globals cl [] env.qual none .none (some env)) (fun cenv s₄ =>
      codeAny (model prog w) A (.compStart e 0 (.ref I) acc { cenv with scope := relabel scope env }) (RR acc cenv.locals) s₄) E s₃) E s₂ := by
  subst he
  refine wpAny_newObj_type (wpAny_newFunctionEnv hcell (by intro y hy; simp at hy) (fun h₁ hns₁ hsb₁ => ?_) hkind)
  dsimp only at hns₁ hsb₁ ⊢
  generalize hH2 : s₂.heap.push { cls := .type "list", dict := none, data := .seq ([] : List Value).toArray } = H2 at hns₁ hsb₁ ⊢
  have hC : H2.objs.size = s₂.heap.objs.size + 1 := by rw [← hH2, Heap.size_push]
  have hDC : s₂.heap.objs.size ≠ H2.objs.size := by rw [hC]; exact Nat.ne_of_lt (Nat.lt_succ_self _)
  have below : ∀ b, b < s₂.heap.objs.size → b ≠ H2.objs.size := fun b hb => by rw [hC]; exact Nat.ne_of_lt (Nat.lt_succ_of_lt hb)
  have old : s₂.heap.StaysIn h₁ := fun b o e => hsb₁.extBut b o (below b (Heap.lt_size e)) (Heap.get?_push_of_some _ (hH2 ▸ Heap.get?_push_of_some _ e))
  have hacc : h₁.get? s₂.heap.objs.size = some (LCg.lst []) := hsb₁.extBut _ _ hDC (Heap.get?_push_of_some _ (hH2 ▸ Heap.get?_push_size _ rfl))
  have lp := fun tk => loop s₂.heap.objs.size H2.objs.size h₁ tk _ (Nat.le_refl _) (by rw [hC]; exact Nat.le_succ _) hDC old hacc hns₁
  exact codeAny_compStart_list (lp _) (self _ _ _ old (lp _))

theorem enum_loop {elt iter : PySem.Expr} {xa xb : Str} {pa pb tp : Pos} {kk : Nat} {scope : Scope} {cl : List (Str × Addr)} {pos : Pos} {e it l D C : Addr} {items : Array Value} {h₁ : Heap} {tk₁ : Nat} {m₁ : Str → Option Value} {R : Result → Shared → Prop} (Fy : Nat → Value → Prop)
    (hh : A.handled = none) (hei : e ≠ it) (hle : l ≠ e) (hli : l ≠ it) (hCf : C ∉ [e, it, l]) (hDf : D ∉ [e, it, l]) (hDC : D ≠ C) (hCL : C ≠ L) (hDL : D ≠ L) (heL : L ∉ [e, it]) (hC₀ : h₀.get? C = none) (hD₀ : h₀.get? D = none) (he₀ : ∀ b ∈ [e, it], h₀.get? b = none)
    (hnC : ∀ p ∈ news, p.1 ≠ C) (hnD : ∀ p ∈ news, p.1 ≠ D) (hne : ∀ p ∈ news, p.1 ∉ [e, it]) (hsz : items.size ≤ sizeLine)
    (hkind : scope.kind = .function) (hxa : scope.names.lookup xa = some .local) (hxb : scope.names.lookup xb = some .local) (hab : xa ≠ xb)
    (hst : (∃ old, IsEnum h₁ e it 0 old) ∧ h₁.IsListIter it l 0 ∧ h₁.IsList l items) (F : Fr h₀ L h₁ m) (N : News h₀ L h₁ ((D, LCg.lst []) :: news)) (hn : h₁.Ns C m₁)
    (helt : ∀ (i : Nat) x t oC m₂ h tk (E' : Value → Shared → Prop), items[i]? = some x → LCg.NsObj oC m₂ → m₂ xa = some (.int i t) → m₂ xb = some x → Fr h₀ L h m → News h₀ L h ((C, oC) :: news) →
      wpAny (model prog w) A (eval elt (compEnvC scope cl C env)) (fun y s₃ => Fy i y ∧ Keeps { s with heap := h, toks := tk } s₃) E' { s with heap := h, toks := tk })
    (fin : ∀ h tk m' ys, ys.length = items.size → (∀ i y, ys[i]? = some y → Fy i y) → Fr h₀ L h m → News h₀ L h ((D, LCg.lst ys) :: news) → h.Ns C m' → R (.ok .next) { s with heap := h, toks := tk }) :
    codeAny (model prog w) A (.compLoop (.ListComp elt [⟨.Tuple [.Name xa pa, .Name xb pb] kk tp, iter, [], 0⟩] scope pos) 0 (.ref e) (.ref D) (compEnvC scope cl C env)) R { s with heap := h₁, toks := tk₁ } := by
  have W := WalksT.enumerate (prog := prog) (w := w) (A := A) hh e it l hei hle hli items
  have hCw : C ∉ [e, it] := fun q => hCf (W.sub _ q)
  have hDw : D ∉ [e, it] := fun q => hDf (W.sub _ q)
  refine LCp.codeAny_compLoop_pair
    (fun k s' => ∃ h' tk i ys m', s' = { s with heap := h', toks := tk } ∧ i ≤ items.size ∧ k = items.size + 1 - i ∧ ys.length = i ∧ (∀ j y, ys[j]? = some y → Fy j y) ∧
      ((∃ old, IsEnum h' e it i old) ∧ h'.IsListIter it l i ∧ h'.IsList l items) ∧ Fr h₀ L h' m ∧ h'.Ns C m' ∧ News h₀ L h' ((D, LCg.lst ys) :: news)) ?_ (items.size + 1)
    ⟨h₁, tk₁, 0, [], m₁, rfl, Nat.zero_le _, rfl, rfl, by simp, hst, F, hn, N⟩
  rintro k s' ⟨h', tk, i, ys, m', rfl, hi, rfl, hyl, hFy, hst', F', hn', N'⟩
  have frW : ∀ {h h' : Heap} {m : Str → Option Value}, Fr h₀ L h m → (∀ b o, b ∉ [e, it] → h.get? b = some o → h'.get? b = some o) → Fr h₀ L h' m := fun F k =>
    ⟨F.ns.at' fun o e' => k _ o heL e', fun b o e' => k b o (fun q => by rw [he₀ b q] at e'; cases e') (F.keep b o e'), F.above⟩
  have nwW : ∀ {h h' : Heap} {nw : List (Addr × Obj)}, News h₀ L h nw → (∀ p ∈ nw, p.1 ∉ [e, it]) → (∀ b o, b ∉ [e, it] → h.get? b = some o → h'.get? b = some o) → News h₀ L h' nw := fun N hn k p hp => ⟨k _ _ (hn p hp) (N p hp).1, (N p hp).2⟩
  have offW : ∀ {ys : List Value}, ∀ p ∈ (D, LCg.lst ys) :: news, p.1 ∉ [e, it] := fun p hp => by
    rcases List.mem_cons.mp hp with rfl | hp
    · exact hDw
    · exact hne p hp
  by_cases hlt : i < items.size
  · refine W.item i _ _ _ hlt hst' fun T vals h₂ tk₂ hP _ hT hmid hk₂ => ?_
    obtain ⟨t, x, hx, rfl⟩ := hP
    have F₂ := frW F' hk₂
    have N₂ := nwW N' offW hk₂
    have n₂ : h₂.Ns C m' := hn'.at' fun o e' => hk₂ _ o hCw e'
    have hTw := W.apart _ _ _ hmid
    refine W.go _ _ _ i T _ _ _ hmid fun h₃ hst₃ hk₃ => ?_
    have F₃ := frW F₂ hk₃
    have N₃ := nwW N₂ offW hk₃
    have n₃ : h₃.Ns C m' := n₂.at' fun o e' => hk₃ _ o hCw e'
    have hT₃ : IsTup h₃ T #[.int i t, x] := by obtain ⟨o, ho, r⟩ := hT; exact ⟨o, hk₃ _ _ hTw ho, r⟩
    refine assign_Tuple_tuple hh hT₃ rfl rfl fun h₅ he => ?_
    have he' : h₃.StaysIn h₅ := fun b o e => he b o (Nat.ne_of_lt (Heap.lt_size e)) e
    refine assignInOrder_cons (wpAny_assign_Name (wpAny_storeName_local (lookup_relabel_local hxa) (n₃.at' fun o e => he' _ o e) (fun h₆ hn₆ hs₆ => ?_) (by simp [compEnvC, relabel, hkind])))
    refine assignInOrder_cons (wpAny_assign_Name (wpAny_storeName_local (lookup_relabel_local hxb) hn₆ (fun h₇ hn₇ hs₇ => ?_) (by simp [compEnvC, relabel, hkind])))
    refine assignInOrder_nil ?_
    have old7 : ∀ b o, b ≠ C → h₃.get? b = some o → h₇.get? b = some o := fun b o hb e => hs₇.extBut b o hb (hs₆.extBut b o hb (he' b o e))
    have hst₇ := W.frame _ _ h₇ hst₃ fun b hb o e => old7 b o (fun q => hCf (q ▸ hb)) e
    obtain ⟨oC, heC, hoC⟩ := LCg.ns_obj hn₇
    have F₇ : Fr h₀ L h₇ m := ((F₃.keeps he').change hs₆ hCL hC₀).change hs₇ hCL hC₀
    have N₇ : News h₀ L h₇ news := fun p hp => ⟨old7 _ _ (hnC p hp) (N₃ p (List.mem_cons_of_mem _ hp)).1, (N₃ p (List.mem_cons_of_mem _ hp)).2⟩
    have D₇ : h₇.get? D = some (LCg.lst ys) := old7 _ _ hDC (N₃ _ List.mem_cons_self).1
    refine wpAny_mono (helt i x t oC _ h₇ _ _ hx hoC (by simp [hab]) (by simp) F₇ (fun p hp => ?_)) (fun y s₈ h₈ => ?_) fun _ _ e => e
    · rcases List.mem_cons.mp hp with rfl | hp
      · exact ⟨heC, hCL, hC₀⟩
      · exact N₇ p hp
    obtain ⟨hy, h₈, tk₈, rfl, hk₈⟩ := h₈
    refine append_at (hsz := by show ys.toArray.size ≤ sizeLine; rw [List.size_toArray, hyl]; exact Nat.le_trans hi hsz) (hk₈ _ _ D₇) fun h₉ hs₉ hD₉ => ?_
    refine ⟨items.size + 1 - (i + 1), turn_lt hlt, h₉, tk₈, i + 1, ys ++ [y], _, rfl, hlt, rfl, by simp [hyl], fun j z hz => ?_, W.frame _ _ _ hst₇ fun b hb o e => hs₉.extBut b o (fun q => hDf (q ▸ hb)) (hk₈ b o e),
      (F₇.keeps hk₈).change hs₉ hDL hD₀, (hn₇.keeps hk₈).sameBut hs₉ (Ne.symm hDC), fun p hp => ?_⟩
    · rcases Nat.lt_trichotomy j ys.length with q | q | q
      · rw [List.getElem?_append_left q] at hz; exact hFy j z hz
      · rw [q, List.getElem?_append_right (Nat.le_refl _)] at hz
        simp at hz
        rw [q, hyl, ← hz]; exact hy
      · rw [List.getElem?_eq_none (by simp; omega)] at hz; cases hz
    · rcases List.mem_cons.mp hp with rfl | hp
      · exact ⟨hD₉.trans (congrArg some (LCg.lst_snoc ys y)), hDL, hD₀⟩
      · exact ⟨hs₉.extBut _ _ (hnD p hp) (hk₈ _ _ (N₇ p hp).1), (N₇ p hp).2⟩
  · obtain rfl : i = items.size := Nat.le_antisymm hi (Nat.not_lt.mp hlt)
    refine W.done _ _ _ hst' fun h₂ tk₂ hk₂ => ?_
    exact fin h₂ tk₂ m' ys hyl hFy (frW F' hk₂) (nwW N' offW hk₂) (hn'.at' fun o e' => hk₂ _ o hCw e')

/-- what stands where «enumerate(..)» has been called, for a comprehension over it -/
noncomputable def EnumSrc (prog : Program) (w : World) (A : Around) (h₀ : Heap) (L : Addr) (m : Str → Option Value) (env : Env) (elt : PySem.Expr) (xa xb : Str) (scope : Scope) (cl : List (Str × Addr)) (Fin : Shared → List Value → List (Addr × Obj) → Prop) (xv : Value) (s₁ : Shared) : Prop :=
  ∃ (e it l : Addr) (items : Array Value) (news : List (Addr × Obj)) (Fy : Nat → Value → Prop), xv = .ref e ∧ A.handled = none ∧ e ≠ it ∧ l ≠ e ∧ l ≠ it ∧ L ∉ [e, it] ∧ (∀ b ∈ [e, it], h₀.get? b = none) ∧ (∀ p ∈ news, p.1 ∉ [e, it]) ∧ items.size ≤ sizeLine ∧
    ((∃ old, IsEnum s₁.heap e it 0 old) ∧ s₁.heap.IsListIter it l 0 ∧ s₁.heap.IsList l items) ∧ Fr h₀ L s₁.heap m ∧ News h₀ L s₁.heap news ∧
    (∀ C (i : Nat) x t oC m₂ h tk (E' : Value → Shared → Prop), items[i]? = some x → LCg.NsObj oC m₂ → m₂ xa = some (.int i t) → m₂ xb = some x → Fr h₀ L h m → News h₀ L h ((C, oC) :: news) →
      wpAny (model prog w) A (eval elt (compEnvC scope cl C env)) (fun y s₃ => Fy i y ∧ Keeps { s₁ with heap := h, toks := tk } s₃) E' { s₁ with heap := h, toks := tk }) ∧
    ∀ ys, ys.length = items.size → (∀ i y, ys[i]? = some y → Fy i y) → Fin s₁ ys news

theorem enum_block {elt iter : PySem.Expr} {xa xb : Str} {pa pb tp : Pos} {kk : Nat} {scope : Scope} {cl : List (Str × Addr)} {pos : Pos} {Fin : Shared → List Value → List (Addr × Obj) → Prop} {RR : Value → Addr → Result → Shared → Prop} {xv : Value} {s₁ : Shared}
    (hcell : ∀ y ∈ scope.names, y.2 ≠ .cell) (hkind : scope.kind = .function) (hxa : scope.names.lookup xa = some .local) (hxb : scope.names.lookup xb = some .local) (hab : xa ≠ xb)
    (h : EnumSrc prog w A h₀ L m env elt xa xb scope cl Fin xv s₁)
    (hRR : ∀ D C h tk m' ys nw, Fr h₀ L h m → News h₀ L h ((D, LCg.lst ys) :: nw) → LCg.Off1 D nw → h.Ns C m' → h₀.get? C = none → h₀.get? D = none → C ≠ L → D ≠ L → C ≠ D → (∀ p ∈ nw, p.1 ≠ C) → Fin s₁ ys nw → RR (.ref D) C (.ok .next) { s₁ with heap := h, toks := tk }) :
    wpAny (model prog w) A (pyIter xv) (fun it s₂ => wpAny (model prog w) A (newList []) (fun acc s₃ => wpAny (model prog w) A (newFunctionEnv scope env.globals cl [] env.qual none .none (some env)) (fun cenv s₄ =>
      codeAny (model prog w) A (.compStart (.ListComp elt [⟨.Tuple [.Name xa pa, .Name xb pb] kk tp, iter, [], 0⟩] scope pos) 0 it acc { cenv with scope := relabel scope env }) (RR acc cenv.locals) s₄) E s₃) E s₂) E s₁ := by
  obtain ⟨e, it, l, items, news, Fy, rfl, hh, hei, hle, hli, heL, he₀, hne, hsz, hst, F, N, helt, hfin⟩ := h
  have W := WalksT.enumerate (prog := prog) (w := w) (A := A) hh e it l hei hle hli items
  refine W.self 0 _ _ _ hst ?_
  have hlts : ∀ b ∈ [e, it, l], b < s₁.heap.objs.size := by
    obtain ⟨⟨old, h1⟩, ⟨o2, h2, _⟩, ⟨o3, h3, _⟩⟩ := hst
    intro b hb
    rcases List.mem_cons.mp hb with rfl | hb
    · exact Heap.lt_size h1
    rcases List.mem_cons.mp hb with rfl | hb
    · exact Heap.lt_size h2
    · rw [List.mem_singleton.mp hb]; exact Heap.lt_size h3
  have fresh₀ : ∀ a, s₁.heap.objs.size ≤ a → h₀.get? a = none := fun a ha => by
    cases q : h₀.get? a with
    | none => rfl
    | some o => exact absurd (Heap.lt_size (F.keep a o q)) (Nat.not_lt.mpr ha)
  have hLlt : L < s₁.heap.objs.size := F.ns.lt
  refine comp_block rfl hcell hkind (fun s₃ Q E' k hq => W.self 0 _ _ _ (W.frame _ _ _ hst fun b _ o e => k b o e) hq) fun D C h₁ tk m₁ hD hC hDC st hDl hns => ?_
  have hCL : C ≠ L := fun q => absurd hLlt (by rw [← q]; exact Nat.not_lt.mpr hC)
  have hDL : D ≠ L := fun q => absurd hLlt (by rw [← q]; exact Nat.not_lt.mpr hD)
  refine enum_loop Fy hh hei hle hli (fun q => absurd (hlts _ q) (Nat.not_lt.mpr hC)) (fun q => absurd (hlts _ q) (Nat.not_lt.mpr hD)) hDC (hCL : C ≠ L) (hDL : D ≠ L) heL (fresh₀ _ hC) (fresh₀ _ hD) he₀
    (fun p hp q => absurd (Heap.lt_size (N p hp).1) (Nat.not_lt.mpr (q ▸ hC))) (fun p hp q => absurd (Heap.lt_size (N p hp).1) (Nat.not_lt.mpr (q ▸ hD))) hne hsz hkind hxa hxb hab (W.frame _ _ _ hst fun b _ o e => st b o e) (F.keeps st) (fun p hp => ?_) hns
    (fun i x t oC m₂ h tk E' hx hC' h1 h2 F' N' => helt C i x t oC m₂ h tk E' hx hC' h1 h2 F' N') fun h tk m' ys hl hy F' N' hn' => ?_
  · rcases List.mem_cons.mp hp with rfl | hp
    · exact ⟨hDl, hDL, fresh₀ _ hD⟩
    · exact ⟨st _ _ (N p hp).1, (N p hp).2⟩
  · refine hRR D C h tk m' ys news F' N' ?_ hn' (fresh₀ _ hC) (fresh₀ _ hD) hCL hDL (Ne.symm hDC) (fun p hp q => absurd (Heap.lt_size (N p hp).1) (Nat.not_lt.mpr (q ▸ hC))) (hfin ys hl hy)
    have key : ∀ nw : List (Addr × Obj), (∀ p ∈ nw, p.1 ≠ D) → LCg.Off1 D nw := by
      intro nw
      induction nw with
      | nil => intro _; trivial
      | cons p r ih => intro hh; exact ⟨hh p List.mem_cons_self, ih fun q hq => hh q (List.mem_cons_of_mem _ hq)⟩
    exact key news fun p hp q => absurd (Heap.lt_size (N p hp).1) (Nat.not_lt.mpr (q ▸ hD))

theorem ListComp_E {elt iter : PySem.Expr} {xa xb : Str} {pa pb tp : Pos} {kk : Nat} {scope : Scope} {cl : List (Str × Addr)} {pos : Pos} {Q : Value → Shared → Prop} (F₀ : Fr h₀ L s.heap m)
    (hclos : closureFor scope env = pure cl) (hcell : ∀ y ∈ scope.names, y.2 ≠ .cell) (hkind : scope.kind = .function)
    (hnames : ∀ y ∈ scope.names, y.2 = .local → scope.names.lookup y.1 = some .local) (hxa : scope.names.lookup xa = some .local) (hxb : scope.names.lookup xb = some .local) (hab : xa ≠ xb)
    (h : wpAny (model prog w) A (eval iter env) (EnumSrc prog w A h₀ L m env elt xa xb scope cl (fun s₂ => LCg.FinE h₀ L m s₂ Q)) E s)
    (hs : ∀ x, foldedSetIterable iter env x = pure x := by intro _; rfl) :
    wpAny (model prog w) A (eval (.ListComp elt [⟨.Tuple [.Name xa pa, .Name xb pb] kk tp, iter, [], 0⟩] scope pos) env) Q E s := by
  rw [eval_ListComp]
  refine wpAny_comprehension_free (use := none) rfl hs hclos hkind hnames (wpAny_mono h (fun xv s₁ h₁ => ?_) fun _ _ e => e)
  refine enum_block hcell hkind hxa hxb hab h₁ fun D C h tk m' ys nw F' N' o1 hn hC₀ hD₀ hCL hDL hCD offC fin => ?_
  refine ⟨m', hn, fun h'' hs'' => fin D h'' tk (F'.change hs'' hCL hC₀) (fun p hp => ?_) o1⟩
  refine ⟨hs''.extBut _ _ ?_ (N' p hp).1, (N' p hp).2⟩
  rcases List.mem_cons.mp hp with rfl | hp
  · exact Ne.symm hCD
  · exact offC p hp

theorem Assign_ListComp_E {elt iter : PySem.Expr} {xa xb y : Str} {pa pb tp py : Pos} {kk : Nat} {scope : Scope} {cl : List (Str × Addr)} {pos spos : Pos} {Q : Flow → Shared → Prop} (F₀ : Fr h₀ L s.heap m) (hLe : env.locals = L)
    (hsw : swapsWith (.ListComp elt [⟨.Tuple [.Name xa pa, .Name xb pb] kk tp, iter, [], 0⟩] scope pos) (some (.Name y py)) spos.line env = pure true)
    (hclos : closureFor scope env = pure cl) (hcell : ∀ z ∈ scope.names, z.2 ≠ .cell) (hkind : scope.kind = .function)
    (hnames : ∀ z ∈ scope.names, z.2 = .local → scope.names.lookup z.1 = some .local) (hxa : scope.names.lookup xa = some .local) (hxb : scope.names.lookup xb = some .local) (hab : xa ≠ xb)
    (hy : env.kindOf y = some .local) (hp : (env.scope.kind == .class || (env.scope.kind == .module && env.locals != env.globals)) = false)
    (h : wpAny (model prog w) A (eval iter env) (EnumSrc prog w A h₀ L m env elt xa xb scope cl (fun s₂ => LCg.FinA h₀ L m s₂ y Q)) E s)
    (hs : ∀ x, foldedSetIterable iter env x = pure x := by intro _; rfl) :
    wpAny (model prog w) A (exec (.Assign [.Name y py] (.ListComp elt [⟨.Tuple [.Name xa pa, .Name xb pb] kk tp, iter, [], 0⟩] scope pos) spos) env) Q E s := by
  subst hLe
  rw [exec_Assign_Name_used _ _ _ _ hsw]
  refine wpAny_bind (wpAny_standAt (wpAny_bind ?_))
  show wpAny _ A (do let _ ← comprehension (.ListComp elt [⟨.Tuple [.Name xa pa, .Name xb pb] kk tp, iter, [], 0⟩] scope pos) scope env _ (newList []) false (eval iter env) (some (assign (.Name y py) env))) _ _ s
  refine wpAny_bind (wpAny_mono (wpAny_comprehension_free (use := some (assign (.Name y py) env)) (Q := fun _ s' => Q .next s') rfl hs hclos hkind hnames
    (wpAny_mono h (fun xv s₁ h₁ => ?_) fun _ _ e => e)) (fun _ s' hq => wpAny_pure (wpAny_pure hq)) fun _ _ e => e)
  refine enum_block hcell hkind hxa hxb hab h₁ fun D C h' tk m' ys nw F' N' o1 hn hC₀ hD₀ hCL hDL hCD offC fin => ?_
  show wpAny _ A (assign (.Name y py) env (.ref D)) _ _ _
  refine wpAny_assign_Name (wpAny_storeName_local hy F'.ns (fun h₂ hn₂ hs₂ => ?_) hp)
  have hL₀ : h₀.get? env.locals = none := Heap.get?_none_of_le F'.above
  have F₂ : Fr h₀ env.locals h₂ (fun z => if z = y then some (.ref D) else m z) := ⟨hn₂, fun b o e => hs₂.extBut b o (fun q => by rw [q, hL₀] at e; cases e) (F'.keep b o e), F'.above⟩
  refine ⟨m', hn.sameBut hs₂ hCL, fun h'' hs'' => fin D h'' _ (F₂.change hs'' hCL hC₀) (fun p hp => ?_) o1⟩
  have z : h₂.get? p.1 = some p.2 := hs₂.extBut _ _ (N' p hp).2.1 (N' p hp).1
  refine ⟨hs''.extBut _ _ ?_ z, (N' p hp).2⟩
  rcases List.mem_cons.mp hp with rfl | hp
  · exact Ne.symm hCD
  · exact offC p hp

theorem enum_call {elt : PySem.Expr} {xa xb : Str} {scope : Scope} {cl : List (Str × Addr)} {l : Addr} {items : Array Value} {Fin : Shared → List Value → List (Addr × Obj) → Prop} (Fy : Nat → Value → Prop)
    (hh : A.handled = none) (F : Fr h₀ L s.heap m) (N : News h₀ L s.heap news) (hl : s.heap.IsList l items) (hsz : items.size ≤ sizeLine)
    (helt : ∀ C (i : Nat) x t oC m₂ h tk (E' : Value → Shared → Prop), items[i]? = some x → LCg.NsObj oC m₂ → m₂ xa = some (.int i t) → m₂ xb = some x → Fr h₀ L h m → News h₀ L h ((C, oC) :: news) →
      wpAny (model prog w) A (eval elt (compEnvC scope cl C env)) (fun y s₃ => Fy i y ∧ Keeps { s with heap := h, toks := tk } s₃) E' { s with heap := h, toks := tk })
    (fin : ∀ h' ys, ys.length = items.size → (∀ i y, ys[i]? = some y → Fy i y) → Fin { s with heap := h' } ys news) :
    wpAny (model prog w) A (call (.type "enumerate") [.ref l]) (EnumSrc prog w A h₀ L m env elt xa xb scope cl Fin) E s := by
  have hlt : l < s.heap.objs.size := by obtain ⟨_, e, _⟩ := hl; exact Heap.lt_size e
  have hLlt : L < s.heap.objs.size := F.ns.lt
  have fresh₀ : ∀ a, s.heap.objs.size ≤ a → h₀.get? a = none := fun a ha => by
    cases q : h₀.get? a with
    | none => rfl
    | some o => exact absurd (Heap.lt_size (F.keep a o q)) (Nat.not_lt.mpr ha)
  have lo : ∀ b ∈ [s.heap.objs.size + 1, s.heap.objs.size], s.heap.objs.size ≤ b := by simp
  refine call_enumerate_list hl fun h' he hi hz hk => ?_
  refine ⟨s.heap.objs.size + 1, s.heap.objs.size, l, items, news, Fy, rfl, hh, Nat.succ_ne_self _, Nat.ne_of_lt (Nat.lt_succ_of_lt hlt), Nat.ne_of_lt hlt, fun q => absurd hLlt (Nat.not_lt.mpr (lo _ q)), fun b hb => fresh₀ _ (lo b hb),
    fun p hp q => absurd (Heap.lt_size (N p hp).1) (Nat.not_lt.mpr (lo _ q)), hsz, ⟨⟨_, he⟩, hi, hl.at fun o e => hk _ o e⟩, F.keeps hk, N.grown hk, ?_, fun ys h1 h2 => fin h' ys h1 h2⟩
  intro C i x t oC m₂ h tk E' h1 h2 h3 h4 h5 h6
  exact helt C i x t oC m₂ h tk E' h1 h2 h3 h4 h5 h6
end
end Mine

-- D2
namespace Mine


section
variable {prog : Program} {w : World} {A : Around} {h₀ : Heap} {L : Addr} {m : Str → Option Value} {env : Env} {ct elt : PySem.Expr} {x : Str} {scope : Scope} {cl : List (Str × Addr)} {s : Shared} {S : List (Addr × Obj) → Prop} {P : Nat → Value → Prop} {Fin : List Value → List (Addr × Obj) → Prop} {news : List (Addr × Obj)}
theorem comp_invT {n : Nat} (Inv : Nat → List Value → List (Addr × Obj) → Prop) (h0 : Inv 0 [] news)
    (turn : ∀ i v ys nw I oI C oC D m₂ h tk (E' : Value → Shared → Prop), i < n → P i v → Inv i ys nw → LCg.NsObj oC m₂ → m₂ x = some v → Fr h₀ L h m → News h₀ L h ((I, oI) :: (C, oC) :: (D, LCg.lst ys) :: nw) → LCg.Off3 I C D nw → ((@Ne Nat I C) ∧ (@Ne Nat I D) ∧ (@Ne Nat C D)) →
      wpAny (model prog w) A (isTrue ct (compEnvC scope cl C env) (eval ct (compEnvC scope cl C env))) (fun ok s' => if ok = true then
        wpAny (model prog w) A (eval elt (compEnvC scope cl C env)) (LCg.CompEnd h₀ L m { s with heap := h, toks := tk } I oI C oC D (LCg.lst ys) S (fun y nw' => Inv (i + 1) (ys ++ [y]) nw')) E' s'
        else LCg.CompEnd h₀ L m { s with heap := h, toks := tk } I oI C oC D (LCg.lst ys) S (fun _ nw' => Inv (i + 1) ys nw') Value.none s') E' { s with heap := h, toks := tk })
    (fin : ∀ ys nw, Inv n ys nw → Fin ys nw) : LCt.CompRestT prog w A h₀ L m env ct elt x scope cl s S P Fin n 0 [] news := by
  have key : ∀ (j i : Nat) (ys : List Value) (nw : List (Addr × Obj)), i + j = n → Inv i ys nw → LCt.CompRestT prog w A h₀ L m env ct elt x scope cl s S P Fin j i ys nw := by
    intro j
    induction j with
    | zero =>
      intro i ys nw hi hI
      have e : i = n := by omega
      subst e
      exact LCt.CompRestT.zero (fin ys nw hI)
    | succ j ih =>
      intro i ys nw hi hI
      refine LCt.CompRestT.succ ?_
      intro v I oI C oC D m₂ h tk E' hv hC hx F N off ne
      refine wpAny_mono (turn i v ys nw I oI C oC D m₂ h tk E' (by omega) hv hI hC hx F N off ne) (fun ok s₂ hq => ?_) fun _ _ e => e
      cases ok with
      | true =>
        simp only [if_true] at hq ⊢
        refine wpAny_mono hq (fun y s₃ hr => ?_) fun _ _ e => e
        obtain ⟨h', tk', nw', e, F', N', off', hS, hI'⟩ := hr
        exact ⟨h', tk', nw', e, F', N', off', hS, ih (i + 1) _ _ (by omega) hI'⟩
      | false =>
        simp only [Bool.false_eq_true, if_false] at hq ⊢
        obtain ⟨h', tk', nw', e, F', N', off', hS, hI'⟩ := hq
        exact ⟨h', tk', nw', e, F', N', off', hS, ih (i + 1) _ _ (by omega) hI'⟩
  exact key n 0 [] news (by omega) h0
end

noncomputable def thereTo (C : List Int) (i : Nat) : List Int := ((List.range i).filter fun j => decide (C.getD j 0 ≠ 0)).map fun (j : Nat) => (j : Int)
noncomputable def thereR (C : List Int) : List Int := thereTo C C.length
noncomputable def updR (C : List Int) (k : Int) (f : Int → Int) : List Int := C.mapIdx fun j n => if (j : Int) = k then f n else n
noncomputable def plusR (C : List Int) (k : Int) : List Int := updR C k (· + 1)
noncomputable def minusR (C : List Int) (k : Int) : List Int := updR C k (· - 1)
noncomputable def leastR (C : List Int) (kind rank : Int) : Int := if kind = 3 then (thereR C).foldl min rank else (thereR C).getD 0 0
noncomputable def toldR (C : List Int) (kind rank : Int) : Ans × List Int :=
  if kind < 2 then (.nothing, plusR C rank)
  else if kind = 2 ∧ thereR C = [] then (.text "pop from empty list", C)
  else if kind = 4 ∧ thereR C = [] then (.text "list index out of range", C)
  else (.rank (leastR C kind rank), minusR (if kind = 2 then C else plusR C rank) (leastR C kind rank))

theorem thereTo_succ (C : List Int) (i : Nat) : thereTo C (i + 1) = if C.getD i 0 = 0 then thereTo C i else thereTo C i ++ [(i : Int)] := by
  unfold thereTo
  rw [List.range_succ, List.filter_append, List.map_append]
  by_cases h : C.getD i 0 = 0
  · rw [if_pos h, List.filter_cons_of_neg (by simpa using h)]; simp
  · rw [if_neg h, List.filter_cons_of_pos (by simpa using h)]; simp

theorem updR_len (C : List Int) (k : Int) (f : Int → Int) : (updR C k f).length = C.length := by simp [updR]
theorem updR_at {C : List Int} {k : Int} {f : Int → Int} {i : Nat} (h : i < C.length) : (updR C k f)[i]? = some (if (i : Int) = k then f C[i] else C[i]) := by
  simp [updR, h]
theorem are_of_each {rep : Value → Int → Prop} {ys : List Value} {R : List Int} (h1 : ys.length = R.length) (h2 : ∀ (i : Nat) y, ys[i]? = some y → ∀ r, R[i]? = some r → rep y r) : Are rep ys R := ⟨h1, fun i v r hv hr => h2 i v hv r hr⟩

theorem foldl_min : ∀ (l : List Int) (r : Int), (l.foldl min r ∈ l ++ [r]) ∧ (∀ a ∈ l ++ [r], l.foldl min r ≤ a)
  | [], r => by simp
  | x :: l, r => by
    obtain ⟨h1, h2⟩ := foldl_min l (min r x)
    simp only [List.foldl_cons]
    simp only [List.mem_append, List.mem_singleton] at h1 h2
    constructor
    · simp only [List.cons_append, List.mem_cons, List.mem_append, List.not_mem_nil, or_false]
      rcases h1 with h1 | h1
      · exact .inr (.inl h1)
      · rcases Int.le_total r x with q | q
        · rw [h1, Int.min_eq_left q]; exact .inr (.inr rfl)
        · rw [h1, Int.min_eq_right q]; exact .inl rfl
    · intro a ha
      simp only [List.cons_append, List.mem_cons, List.mem_append, List.not_mem_nil, or_false] at ha
      have h3 := h2 (min r x) (.inr rfl)
      rcases ha with rfl | ha | rfl
      · omega
      · exact h2 a (.inl ha)
      · omega
theorem min_unique {l : List Int} {r M : Int} (h1 : M ∈ l ++ [r]) (h2 : ∀ a ∈ l ++ [r], M ≤ a) : M = l.foldl min r := by
  obtain ⟨h3, h4⟩ := foldl_min l r
  have := h2 _ h3
  have := h4 _ h1
  omega

theorem sz_k {vs : List Value} (h : vs.length < 1000) : vs.toArray.size ≤ sizeLine := by rw [sizeLine_eq]; exact Nat.le_trans (Nat.le_of_lt h) (by decide)
theorem small_k {n : Nat} (h : n < 1000) : Builtin.Range.small 0 n 1 = true := small_nat (Nat.lt_trans h (by decide))
theorem five_ways : ∀ {k : Int}, 0 ≤ k → k ≤ 4 → k = 0 ∨ k = 1 ∨ k = 2 ∨ k = 3 ∨ k = 4
  | .ofNat 0, _, _ => .inl rfl
  | .ofNat 1, _, _ => .inr (.inl rfl)
  | .ofNat 2, _, _ => .inr (.inr (.inl rfl))
  | .ofNat 3, _, _ => .inr (.inr (.inr (.inl rfl)))
  | .ofNat 4, _, _ => .inr (.inr (.inr (.inr rfl)))
  | .ofNat (n + 5), _, h => absurd (Int.ofNat_le.mp h) (Nat.not_le.mpr (Nat.lt_add_left n (by decide)))
  | .negSucc _, h, _ => absurd h (by simp)
theorem law_told_ok {w : World} {mg mb : Str → Option Value} {b : Heap} {A : Around} {s : Shared} {Rr : Result → Shared → Prop} {c : Addr} {cs : List Value} {nc : Nat} {C : List Int} {kind rank : Int} {t1 t2 : Tok}
    (G : Gr w mg mb b) (hb : b.StaysIn s.heap) (hroom : Room 4 A) (hh : A.handled = none) (hc : s.heap.get? c = some (lst cs nc)) (hC : Are repR cs C) (hsm : C.length < 999) (hk0 : 0 ≤ kind) (hk4 : kind ≤ 4)
    (k : ∀ s' T oT nt va c' cs' nc', Chg [] s s' → s.heap.get? T = none → s'.heap.get? T = some oT → oT.cls = .type "tuple" → oT.data = .seq #[va, .ref c'] nt → (c' = c ∨ s.heap.get? c' = none) → s'.heap.get? c' = some (lst cs' nc') →
      Are repR cs' (toldR C kind rank).2 → ansIs repR (toldR C kind rank).1 va → Rr (.ok (.ret (.ref T))) s') :
    codeAny (model Challenge.rw_mj0021_01.row.prog w) A (.call (.ref 99) ⟨[.ref c, .int kind t1, .int rank t2], []⟩) Rr s := by
  have G' := G.kx
  revert G'
  k_fill
  intro G'
  refine' enterC (binds := [(Str.ofString "counts", .ref c), (Str.ofString "kind", .int kind t1), (Str.ofString "rank", .int rank t2)]) [] G hb ?h1 ?h2 ?ho ?hcd ?hr ?bi ?lo ?nd ?_ ?c1 ?c2 ?c3
  case h1 => simp
  case h2 => simp
  case ho => k_is
  case hcd => k_is
  case hr => exact Nat.lt_of_le_of_lt (Nat.le_add_right _ _) hroom.1
  case bi => exact BindsTo.of_eq rfl
  case lo => intro n x hx; simp only [List.mem_cons, List.not_mem_nil, or_false] at hx; rcases hx with rfl | rfl | rfl; exact .inr ⟨rfl, rfl⟩; exact .inl rfl; exact .inr ⟨rfl, rfl⟩
  case nd => decide
  case c1 => exact rfl
  case c2 => exact rfl
  case c3 => exact rfl
  intro g L h₁ tk0 cells G₁ hg F' N' Y hDL
  have KX := G₁.kx
  have T' := G₁.top
  refine gen_goal fun QQ hQQ => ?_
  have hb2 : b.StaysIn g := fun a o e => hg a o (by simp) (hb a o e)
  have Y1 := CellsAre.three Y
  obtain ⟨o1, o2, o3, hE, q1, q2, q3⟩ := Y1
  subst hE
  clear Y
  replace q1 : o1.data = .cell none := q1
  replace q2 : o2.data = .cell (some (.int rank t2)) := q2
  replace q3 : o3.data = .cell (some (.ref c)) := q3
  replace N' : News g L h₁ [(L + 1 + 1 + 1, o1), (L + 1 + 1, o2), (L + 1, o3)] := N'
  have gc : g.IsList c cs.toArray := PySem.IsL.isList (n := nc) (hg _ _ (by simp) hc)
  have lc : cs.length < 999 := by rw [hC.len]; exact hsm
  have ic := are_ints hC
  (repeat' (first | (k_unfold; (try dsimp only)) | ((fail_if_success (with_reducible show wpAny _ _ (exec (Stmt.While _ _ _ _) _) _ _ _)); (fail_if_success (with_reducible show wpAny _ _ (exec (Stmt.For _ _ _ _ _) _) _ _ _)); (fail_if_success (with_reducible show wpAny _ _ (call (Value.ref _) _) _ _ _)); (fail_if_success (with_reducible show wpAny _ _ (compareOp _ (Value.ref _) (Value.ref _)) _ _ _)); (fail_if_success (with_reducible show wpAny _ _ (exec (Stmt.Assign _ (Expr.ListComp _ _ _ _) _) _) _ _ _)); (fail_if_success (with_reducible show wpAny _ _ (eval (Expr.ListComp _ _ _ _) _) _ _ _)); (first | walk1 | (dsimp only; walk1)); (try dsimp only)) | fail "no step"))
  refine LCt.Assign_ListComp_T (F₀ := F') (by rfl) (by with_unfolding_all rfl) (by with_unfolding_all rfl) (by decide) (by rfl) (by decide) (by rfl) (by rfl) (by rfl) ?_
  (repeat' (first | (k_unfold; (try dsimp only)) | ((fail_if_success (with_reducible show wpAny _ _ (exec (Stmt.While _ _ _ _) _) _ _ _)); (fail_if_success (with_reducible show wpAny _ _ (exec (Stmt.For _ _ _ _ _) _) _ _ _)); (fail_if_success (with_reducible show wpAny _ _ (call (Value.ref _) _) _ _ _)); (fail_if_success (with_reducible show wpAny _ _ (compareOp _ (Value.ref _) (Value.ref _)) _ _ _)); (fail_if_success (with_reducible show wpAny _ _ (exec (Stmt.Assign _ (Expr.ListComp _ _ _ _) _) _) _ _ _)); (fail_if_success (with_reducible show wpAny _ _ (eval (Expr.ListComp _ _ _ _) _) _ _ _)); (first | walk1 | (dsimp only; walk1)); (try dsimp only)) | fail "no step"))
  rename_i h2 tk2 t1' t2' t3' hr F2 N2 _
  refine LCt.CompSrcT.range (n := C.length) hh F2 N2 hr (small_k (Nat.lt_trans hsm (by decide))) (rangeSize_nat _ _) (by rw [sizeLine_eq]; exact Nat.le_trans (Nat.le_of_lt hsm) (by decide)) fun g' => ?_
  refine comp_invT (fun i ys nw => nw = [(L + 1 + 1 + 1, o1), (L + 1 + 1, o2), (L + 1, o3)] ∧ Are repR ys (thereTo C i)) ⟨rfl, Are.nil⟩ ?_ ?_
  · rintro i v ys nw I oI Cc oC D m₂ h tk E' hi ⟨tv, rfl⟩ ⟨rfl, hy⟩ hC' hx F N off ne
    rw [Int.zero_add] at hx
    have hil : i < cs.length := by rw [hC.len]; exact hi
    have hv : cs[i]? = some cs[i] := List.getElem?_eq_getElem hil
    obtain ⟨tc, hci⟩ := hC.at' i _ C[i] hv (List.getElem?_eq_getElem hi)
    rw [hci] at hv
    have Fh := And.intro F True.intro
    have Nh := And.intro N True.intro
    (repeat' (first | (k_unfold; (try dsimp only)) | ((fail_if_success (with_reducible show wpAny _ _ (exec (Stmt.While _ _ _ _) _) _ _ _)); (fail_if_success (with_reducible show wpAny _ _ (exec (Stmt.For _ _ _ _ _) _) _ _ _)); (fail_if_success (with_reducible show wpAny _ _ (call (Value.ref _) _) _ _ _)); (fail_if_success (with_reducible show wpAny _ _ (compareOp _ (Value.ref _) (Value.ref _)) _ _ _)); (fail_if_success (with_reducible show wpAny _ _ (exec (Stmt.Assign _ (Expr.ListComp _ _ _ _) _) _) _ _ _)); (fail_if_success (with_reducible show wpAny _ _ (eval (Expr.ListComp _ _ _ _) _) _ _ _)); (first | walk1 | (dsimp only; walk1)); (try dsimp only)) | fail "no step"))
    · rename_i hz
      rw [Int.toNat_natCast] at hz
      refine LCg.CompEnd.intro Fh.1 Nh.1 _ (fun _ hp => hp) off trivial ⟨rfl, ?_⟩
      rw [thereTo_succ, if_neg hz]
      exact hy.push ⟨_, rfl⟩
    · rename_i hz
      rw [Int.toNat_natCast] at hz
      refine LCg.CompEnd.intro Fh.1 Nh.1 _ (fun _ hp => hp) off trivial ⟨rfl, ?_⟩
      rw [thereTo_succ, if_pos hz]
      exact hy
  · rintro ys nw ⟨rfl, hy⟩ D h tk F N off
    clear F2 N2 hr
    dsimp only
    (repeat' (first | (k_unfold; (try dsimp only)) | ((fail_if_success (with_reducible show wpAny _ _ (exec (Stmt.While _ _ _ _) _) _ _ _)); (fail_if_success (with_reducible show wpAny _ _ (exec (Stmt.For _ _ _ _ _) _) _ _ _)); (fail_if_success (with_reducible show wpAny _ _ (call (Value.ref _) _) _ _ _)); (fail_if_success (with_reducible show wpAny _ _ (compareOp _ (Value.ref _) (Value.ref _)) _ _ _)); (fail_if_success (with_reducible show wpAny _ _ (exec (Stmt.Assign _ (Expr.ListComp _ _ _ _) _) _) _ _ _)); (fail_if_success (with_reducible show wpAny _ _ (eval (Expr.ListComp _ _ _ _) _) _ _ _)); (first | walk1 | (dsimp only; walk1)); (try dsimp only)) | fail "no step"))
    refine Assign_ListComp_E (F₀ := F) (by rfl) (by with_unfolding_all rfl) (by with_unfolding_all rfl) (by decide) (by rfl) (by decide) (by rfl) (by rfl) (by decide) (by rfl) (by rfl) ?_
    (repeat' (first | (k_unfold; (try dsimp only)) | ((fail_if_success (with_reducible show wpAny _ _ (exec (Stmt.While _ _ _ _) _) _ _ _)); (fail_if_success (with_reducible show wpAny _ _ (exec (Stmt.For _ _ _ _ _) _) _ _ _)); (fail_if_success (with_reducible show wpAny _ _ (call (Value.ref _) _) _ _ _)); (fail_if_success (with_reducible show wpAny _ _ (compareOp _ (Value.ref _) (Value.ref _)) _ _ _)); (fail_if_success (with_reducible show wpAny _ _ (exec (Stmt.Assign _ (Expr.ListComp _ _ _ _) _) _) _ _ _)); (fail_if_success (with_reducible show wpAny _ _ (eval (Expr.ListComp _ _ _ _) _) _ _ _)); (first | walk1 | (dsimp only; walk1)); (try dsimp only)) | fail "no step"))
    refine enum_call (fun i y => ∀ r, (plusR C rank)[i]? = some r → repR y r) hh F N (gc.at fun o e => F.keep _ o e) (sz_k (Nat.lt_trans lc (by decide))) ?_ ?_
    · intro Cc i x t oC m₂ h tk E' hx hCc ha hbn Fe Ne
      have hil : i < cs.length := by simpa using (Array.getElem?_eq_some_iff.mp hx).1
      have hiC : i < C.length := by rw [← hC.len]; exact hil
      obtain ⟨tc, rfl⟩ := hC.at' i x C[i] (by simpa using hx) (List.getElem?_eq_getElem hiC)
      clear F N
      (repeat' (first | (k_unfold; (try dsimp only)) | ((fail_if_success (with_reducible show wpAny _ _ (exec (Stmt.While _ _ _ _) _) _ _ _)); (fail_if_success (with_reducible show wpAny _ _ (exec (Stmt.For _ _ _ _ _) _) _ _ _)); (fail_if_success (with_reducible show wpAny _ _ (call (Value.ref _) _) _ _ _)); (fail_if_success (with_reducible show wpAny _ _ (compareOp _ (Value.ref _) (Value.ref _)) _ _ _)); (fail_if_success (with_reducible show wpAny _ _ (exec (Stmt.Assign _ (Expr.ListComp _ _ _ _) _) _) _ _ _)); (fail_if_success (with_reducible show wpAny _ _ (eval (Expr.ListComp _ _ _ _) _) _ _ _)); (first | walk1 | (dsimp only; walk1)); (try dsimp only)) | fail "no step"))
      · rename_i hr2 r hr
        rw [plusR, updR_at hiC, if_pos hr2] at hr
        cases hr
        exact ⟨_, rfl⟩
      · exact ⟨_, _, rfl, fun _ _ e => e⟩
      · rename_i hr2 r hr
        rw [plusR, updR_at hiC, if_neg hr2] at hr
        cases hr
        exact ⟨_, rfl⟩
      · exact ⟨_, _, rfl, fun _ _ e => e⟩
    · intro h' zs hzl hzy D2 h3 tk3 F3 N3 off3
      have hz : Are repR zs (plusR C rank) := are_of_each (by rw [hzl]; simp [plusR, updR_len, hC.len]) hzy
      have hnone : ∀ a, g.get? a = none → s.heap.get? a = none := fun a e => by
        cases q : s.heap.get? a with
        | none => rfl
        | some o => have := hg a o (by simp) q; rw [e] at this; cases this
      have hyl : ys.length < 1000 := by
        rw [hy.len]
        unfold thereTo
        rw [List.length_map]
        exact Nat.lt_of_le_of_lt (List.length_filter_le _ _) (by simp; omega)
      have hzl2 : zs.length < 999 := by rw [hzl]; simpa using lc
      have iy := are_ints hy
      have iz := are_ints hz
      have hey : (ys = []) ↔ thereR C = [] := by
        have := hy.len
        constructor
        · rintro rfl; exact List.eq_nil_of_length_eq_zero this.symm
        · intro q; unfold thereR at q; rw [q] at this; exact List.eq_nil_of_length_eq_zero this
      clear F N
      have hoff : (@Ne Nat (L + 1 + 1 + 1) D2) ∧ (@Ne Nat (L + 1 + 1 + 1) D) := ⟨off3.2.1, off.1⟩
      clear off off3
      dsimp only
      have hkk := five_ways hk0 hk4
      have F3h := And.intro F3 N3
      rcases hkk with rfl | rfl | rfl | rfl | rfl
      · (repeat' (first | (k_unfold; (try dsimp only)) | ((fail_if_success (with_reducible show wpAny _ _ (exec (Stmt.While _ _ _ _) _) _ _ _)); (fail_if_success (with_reducible show wpAny _ _ (exec (Stmt.For _ _ _ _ _) _) _ _ _)); (fail_if_success (with_reducible show wpAny _ _ (call (Value.ref _) _) _ _ _)); (fail_if_success (with_reducible show wpAny _ _ (compareOp _ (Value.ref _) (Value.ref _)) _ _ _)); (fail_if_success (with_reducible show wpAny _ _ (exec (Stmt.Assign _ (Expr.ListComp _ _ _ _) _) _) _ _ _)); (fail_if_success (with_reducible show wpAny _ _ (eval (Expr.ListComp _ _ _ _) _) _ _ _)); (first | walk1 | (dsimp only; walk1)); (try dsimp only)) | fail "no step"))
        rename_i D4 h4 F4 N4 _
        have et : toldR C 0 rank = (.nothing, plusR C rank) := by unfold toldR; rw [if_pos (by decide)]
        refine hQQ _ _ (k _ D4 _ _ _ D2 zs _ (by exact chg_end hg F4) (hnone _ (N4 _ (List.Mem.head _)).2.2) (N4 _ (List.Mem.head _)).1 rfl rfl (.inr (hnone _ (N4 (D2, LCg.lst zs) (.tail _ (.head _))).2.2)) (N4 (D2, LCg.lst zs) (.tail _ (.head _))).1 ?_ ?_)
        · rw [et]; exact hz
        · rw [et]; rfl
      · (repeat' (first | (k_unfold; (try dsimp only)) | ((fail_if_success (with_reducible show wpAny _ _ (exec (Stmt.While _ _ _ _) _) _ _ _)); (fail_if_success (with_reducible show wpAny _ _ (exec (Stmt.For _ _ _ _ _) _) _ _ _)); (fail_if_success (with_reducible show wpAny _ _ (call (Value.ref _) _) _ _ _)); (fail_if_success (with_reducible show wpAny _ _ (compareOp _ (Value.ref _) (Value.ref _)) _ _ _)); (fail_if_success (with_reducible show wpAny _ _ (exec (Stmt.Assign _ (Expr.ListComp _ _ _ _) _) _) _ _ _)); (fail_if_success (with_reducible show wpAny _ _ (eval (Expr.ListComp _ _ _ _) _) _ _ _)); (first | walk1 | (dsimp only; walk1)); (try dsimp only)) | fail "no step"))
        rename_i D4 h4 F4 N4 _
        have et : toldR C 1 rank = (.nothing, plusR C rank) := by unfold toldR; rw [if_pos (by decide)]
        refine hQQ _ _ (k _ D4 _ _ _ D2 zs _ (by exact chg_end hg F4) (hnone _ (N4 _ (List.Mem.head _)).2.2) (N4 _ (List.Mem.head _)).1 rfl rfl (.inr (hnone _ (N4 (D2, LCg.lst zs) (.tail _ (.head _))).2.2)) (N4 (D2, LCg.lst zs) (.tail _ (.head _))).1 ?_ ?_)
        · rw [et]; exact hz
        · rw [et]; rfl
      · (repeat' (first | (k_unfold; (try dsimp only)) | ((fail_if_success (with_reducible show wpAny _ _ (exec (Stmt.While _ _ _ _) _) _ _ _)); (fail_if_success (with_reducible show wpAny _ _ (exec (Stmt.For _ _ _ _ _) _) _ _ _)); (fail_if_success (with_reducible show wpAny _ _ (call (Value.ref _) _) _ _ _)); (fail_if_success (with_reducible show wpAny _ _ (compareOp _ (Value.ref _) (Value.ref _)) _ _ _)); (fail_if_success (with_reducible show wpAny _ _ (exec (Stmt.Assign _ (Expr.ListComp _ _ _ _) _) _) _ _ _)); (fail_if_success (with_reducible show wpAny _ _ (eval (Expr.ListComp _ _ _ _) _) _ _ _)); (first | walk1 | (dsimp only; walk1)); (try dsimp only)) | fail "no step"))
        refine wpAny_truthy_list (PySem.IsL.isList (N3 (D, LCg.lst ys) (.tail _ (.head _))).1) (ix_n hyl) ?_
        by_cases hT : thereR C = []
        · have et : toldR C 2 rank = (.text "pop from empty list", C) := by unfold toldR; rw [if_neg (by decide), if_pos ⟨rfl, hT⟩]
          have hy0 := hey.mpr hT
          subst hy0
          simp only [List.isEmpty_toArray, List.isEmpty_nil, Bool.not_true]
          (repeat' (first | (k_unfold; (try dsimp only)) | ((fail_if_success (with_reducible show wpAny _ _ (exec (Stmt.While _ _ _ _) _) _ _ _)); (fail_if_success (with_reducible show wpAny _ _ (exec (Stmt.For _ _ _ _ _) _) _ _ _)); (fail_if_success (with_reducible show wpAny _ _ (call (Value.ref _) _) _ _ _)); (fail_if_success (with_reducible show wpAny _ _ (compareOp _ (Value.ref _) (Value.ref _)) _ _ _)); (fail_if_success (with_reducible show wpAny _ _ (exec (Stmt.Assign _ (Expr.ListComp _ _ _ _) _) _) _ _ _)); (fail_if_success (with_reducible show wpAny _ _ (eval (Expr.ListComp _ _ _ _) _) _ _ _)); (first | walk1 | (dsimp only; walk1)); (try dsimp only)) | fail "no step"))
          rename_i D4 h4 F4 N4 _
          refine hQQ _ _ (k _ D4 _ _ _ c cs nc (by exact chg_end hg F4) (hnone _ (N4 _ (List.Mem.head _)).2.2) (N4 _ (List.Mem.head _)).1 rfl rfl (.inl rfl) (F4.keep _ _ (hg _ _ (by simp) hc)) ?_ ?_)
          · rw [et]; exact hC
          · rw [et]; exact ⟨_, rfl⟩
        · have et : toldR C 2 rank = (.rank ((thereR C).getD 0 0), minusR (C) ((thereR C).getD 0 0)) := by unfold toldR leastR; simp [hT]
          have hy0 : ys ≠ [] := fun q => hT (hey.mp q)
          rw [show (!ys.toArray.isEmpty) = true from by cases ys with | nil => exact absurd rfl hy0 | cons _ _ => rfl]
          obtain ⟨y0, yr, hyr⟩ : ∃ y0 yr, ys = y0 :: yr := by cases ys with | nil => exact absurd rfl hy0 | cons a b => exact ⟨a, b, rfl⟩
          have h0 : 0 < (thereR C).length := by cases q : thereR C with | nil => exact absurd q hT | cons _ _ => simp
          obtain ⟨ty, hy1⟩ := hy.at' 0 y0 ((thereR C).getD 0 0) (by rw [hyr]; rfl) (by show (thereR C)[0]? = _; simp [List.getD, List.getElem?_eq_getElem h0])
          subst hy1
          (repeat' (first | (k_unfold; (try dsimp only)) | ((fail_if_success (with_reducible show wpAny _ _ (exec (Stmt.While _ _ _ _) _) _ _ _)); (fail_if_success (with_reducible show wpAny _ _ (exec (Stmt.For _ _ _ _ _) _) _ _ _)); (fail_if_success (with_reducible show wpAny _ _ (call (Value.ref _) _) _ _ _)); (fail_if_success (with_reducible show wpAny _ _ (compareOp _ (Value.ref _) (Value.ref _)) _ _ _)); (fail_if_success (with_reducible show wpAny _ _ (exec (Stmt.Assign _ (Expr.ListComp _ _ _ _) _) _) _ _ _)); (fail_if_success (with_reducible show wpAny _ _ (eval (Expr.ListComp _ _ _ _) _) _ _ _)); (first | walk1 | (dsimp only; walk1)); (try dsimp only)) | fail "no step"))
          refine my_get (v := .int ((thereR C).getD 0 0) ty) (n := ys.length) F3h.2 (.tail _ (.head _)) (by decide) (by decide) (by rw [hyr]; rfl) ?_ (by with_unfolding_all rfl)
          have F7 := F3h.1
          have N7 : News g L h3 [(L + 1 + 1 + 1, o1), (D2, LCg.lst zs), (L + 1 + 1, o2), (L + 1, o3)] := fun p hp => F3h.2 p (by
            simp only [List.mem_cons, List.not_mem_nil, or_false] at hp ⊢
            rcases hp with h | h | h | h <;> simp [h])
          clear F3 N3 F3h
          (repeat' (first | (k_unfold; (try dsimp only)) | ((fail_if_success (with_reducible show wpAny _ _ (exec (Stmt.While _ _ _ _) _) _ _ _)); (fail_if_success (with_reducible show wpAny _ _ (exec (Stmt.For _ _ _ _ _) _) _ _ _)); (fail_if_success (with_reducible show wpAny _ _ (call (Value.ref _) _) _ _ _)); (fail_if_success (with_reducible show wpAny _ _ (compareOp _ (Value.ref _) (Value.ref _)) _ _ _)); (fail_if_success (with_reducible show wpAny _ _ (exec (Stmt.Assign _ (Expr.ListComp _ _ _ _) _) _) _ _ _)); (fail_if_success (with_reducible show wpAny _ _ (eval (Expr.ListComp _ _ _ _) _) _ _ _)); (first | walk1 | (dsimp only; walk1)); (try dsimp only)) | fail "no step"))
          rename_i h9 oc dc h4 F4 N4
          have M4h := And.intro F4 N4
          refine ListComp_E (F₀ := F4) (by with_unfolding_all rfl) (by decide) (by rfl) (by decide) (by rfl) (by rfl) (by decide) ?_
          (repeat' (first | (k_unfold; (try dsimp only)) | ((fail_if_success (with_reducible show wpAny _ _ (exec (Stmt.While _ _ _ _) _) _ _ _)); (fail_if_success (with_reducible show wpAny _ _ (exec (Stmt.For _ _ _ _ _) _) _ _ _)); (fail_if_success (with_reducible show wpAny _ _ (call (Value.ref _) _) _ _ _)); (fail_if_success (with_reducible show wpAny _ _ (compareOp _ (Value.ref _) (Value.ref _)) _ _ _)); (fail_if_success (with_reducible show wpAny _ _ (exec (Stmt.Assign _ (Expr.ListComp _ _ _ _) _) _) _ _ _)); (fail_if_success (with_reducible show wpAny _ _ (eval (Expr.ListComp _ _ _ _) _) _ _ _)); (first | walk1 | (dsimp only; walk1)); (try dsimp only)) | fail "no step"))
          refine enum_call (fun i y => ∀ r, (minusR (C) ((thereR C).getD 0 0))[i]? = some r → repR y r) hh M4h.1 M4h.2 (gc.at fun o e => M4h.1.keep _ o e) (sz_k (Nat.lt_trans lc (by decide))) ?_ ?_
          · intro Cc i x t oC m₂ h tk E' hx hCc ha hbn Fe Ne
            have hil : i < cs.length := by simpa using (Array.getElem?_eq_some_iff.mp hx).1
            have hiC : i < (C).length := by rw [← hC.len]; exact hil
            obtain ⟨tc, rfl⟩ := hC.at' i x (C)[i] (by simpa using hx) (List.getElem?_eq_getElem hiC)
            clear F4 N4 M4h
            (repeat' (first | (k_unfold; (try dsimp only)) | ((fail_if_success (with_reducible show wpAny _ _ (exec (Stmt.While _ _ _ _) _) _ _ _)); (fail_if_success (with_reducible show wpAny _ _ (exec (Stmt.For _ _ _ _ _) _) _ _ _)); (fail_if_success (with_reducible show wpAny _ _ (call (Value.ref _) _) _ _ _)); (fail_if_success (with_reducible show wpAny _ _ (compareOp _ (Value.ref _) (Value.ref _)) _ _ _)); (fail_if_success (with_reducible show wpAny _ _ (exec (Stmt.Assign _ (Expr.ListComp _ _ _ _) _) _) _ _ _)); (fail_if_success (with_reducible show wpAny _ _ (eval (Expr.ListComp _ _ _ _) _) _ _ _)); (first | walk1 | (dsimp only; walk1)); (try dsimp only)) | fail "no step"))
            · rename_i hr2 r hr
              rw [minusR, updR_at hiC, if_pos hr2] at hr
              cases hr
              exact ⟨_, rfl⟩
            · exact ⟨_, _, rfl, fun _ _ e => e⟩
            · rename_i hr2 r hr
              rw [minusR, updR_at hiC, if_neg hr2] at hr
              cases hr
              exact ⟨_, rfl⟩
            · exact ⟨_, _, rfl, fun _ _ e => e⟩
          · intro h' us hul huy D5 h5 tk5 F5 N5 off5
            have hu : Are repR us (minusR (C) ((thereR C).getD 0 0)) := are_of_each (by rw [hul]; simp [minusR, updR_len, ← hC.len]) huy
            clear F4 N4 M4h off5
            (repeat' (first | (k_unfold; (try dsimp only)) | ((fail_if_success (with_reducible show wpAny _ _ (exec (Stmt.While _ _ _ _) _) _ _ _)); (fail_if_success (with_reducible show wpAny _ _ (exec (Stmt.For _ _ _ _ _) _) _ _ _)); (fail_if_success (with_reducible show wpAny _ _ (call (Value.ref _) _) _ _ _)); (fail_if_success (with_reducible show wpAny _ _ (compareOp _ (Value.ref _) (Value.ref _)) _ _ _)); (fail_if_success (with_reducible show wpAny _ _ (exec (Stmt.Assign _ (Expr.ListComp _ _ _ _) _) _) _ _ _)); (fail_if_success (with_reducible show wpAny _ _ (eval (Expr.ListComp _ _ _ _) _) _ _ _)); (first | walk1 | (dsimp only; walk1)); (try dsimp only)) | fail "no step"))
            rename_i D6 h6 F6 N6 _
            refine hQQ _ _ (k _ D6 _ _ _ D5 us _ (by exact chg_end hg F6) (hnone _ (N6 _ (List.Mem.head _)).2.2) (N6 _ (List.Mem.head _)).1 rfl rfl (.inr (hnone _ (N6 (D5, LCg.lst us) (.tail _ (.head _))).2.2)) (N6 (D5, LCg.lst us) (.tail _ (.head _))).1 ?_ ?_)
            · rw [et]; exact hu
            · rw [et]; exact ⟨_, rfl⟩
      · (repeat' (first | (k_unfold; (try dsimp only)) | ((fail_if_success (with_reducible show wpAny _ _ (exec (Stmt.While _ _ _ _) _) _ _ _)); (fail_if_success (with_reducible show wpAny _ _ (exec (Stmt.For _ _ _ _ _) _) _ _ _)); (fail_if_success (with_reducible show wpAny _ _ (call (Value.ref _) _) _ _ _)); (fail_if_success (with_reducible show wpAny _ _ (compareOp _ (Value.ref _) (Value.ref _)) _ _ _)); (fail_if_success (with_reducible show wpAny _ _ (exec (Stmt.Assign _ (Expr.ListComp _ _ _ _) _) _) _ _ _)); (fail_if_success (with_reducible show wpAny _ _ (eval (Expr.ListComp _ _ _ _) _) _ _ _)); (first | walk1 | (dsimp only; walk1)); (try dsimp only)) | fail "no step"))
        rename_i l4 h4 F4' N4' lt4 h5 F5' N5'
        refine min_list_N hh F5' N5' (PySem.IsL.isList (N5' _ (List.Mem.head _)).1) (IntsAre.append iy (.cons rank t2 .nil)) (by simp) fun h6 M tM tk6 F6' N6' hM1 hM2 => ?_
        have hMe : M = (thereR C).foldl min rank := min_unique hM1 hM2
        have et : toldR C 3 rank = (.rank M, minusR (plusR C rank) M) := by unfold toldR leastR; rw [hMe]; simp
        have N7 : News g L h6 [(L + 1 + 1 + 1, o1), (D2, LCg.lst zs), (L + 1 + 1, o2), (L + 1, o3)] := fun p hp => N6' p (by
          simp only [List.mem_cons, List.not_mem_nil, or_false] at hp ⊢
          rcases hp with h | h | h | h <;> simp [h])
        clear F4' N4' F5' N5' N6' F3h lt4
        (repeat' (first | (k_unfold; (try dsimp only)) | ((fail_if_success (with_reducible show wpAny _ _ (exec (Stmt.While _ _ _ _) _) _ _ _)); (fail_if_success (with_reducible show wpAny _ _ (exec (Stmt.For _ _ _ _ _) _) _ _ _)); (fail_if_success (with_reducible show wpAny _ _ (call (Value.ref _) _) _ _ _)); (fail_if_success (with_reducible show wpAny _ _ (compareOp _ (Value.ref _) (Value.ref _)) _ _ _)); (fail_if_success (with_reducible show wpAny _ _ (exec (Stmt.Assign _ (Expr.ListComp _ _ _ _) _) _) _ _ _)); (fail_if_success (with_reducible show wpAny _ _ (eval (Expr.ListComp _ _ _ _) _) _ _ _)); (first | walk1 | (dsimp only; walk1)); (try dsimp only)) | fail "no step"))
        rename_i h9 oc dc h4 F4 N4
        have M4h := And.intro F4 N4
        refine ListComp_E (F₀ := F4) (by with_unfolding_all rfl) (by decide) (by rfl) (by decide) (by rfl) (by rfl) (by decide) ?_
        (repeat' (first | (k_unfold; (try dsimp only)) | ((fail_if_success (with_reducible show wpAny _ _ (exec (Stmt.While _ _ _ _) _) _ _ _)); (fail_if_success (with_reducible show wpAny _ _ (exec (Stmt.For _ _ _ _ _) _) _ _ _)); (fail_if_success (with_reducible show wpAny _ _ (call (Value.ref _) _) _ _ _)); (fail_if_success (with_reducible show wpAny _ _ (compareOp _ (Value.ref _) (Value.ref _)) _ _ _)); (fail_if_success (with_reducible show wpAny _ _ (exec (Stmt.Assign _ (Expr.ListComp _ _ _ _) _) _) _ _ _)); (fail_if_success (with_reducible show wpAny _ _ (eval (Expr.ListComp _ _ _ _) _) _ _ _)); (first | walk1 | (dsimp only; walk1)); (try dsimp only)) | fail "no step"))
        refine enum_call (fun i y => ∀ r, (minusR (plusR C rank) (M))[i]? = some r → repR y r) hh M4h.1 M4h.2 (PySem.IsL.isList (M4h.2 (D2, LCg.lst zs) (.tail _ (.head _))).1) (sz_k (Nat.lt_trans hzl2 (by decide))) ?_ ?_
        · intro Cc i x t oC m₂ h tk E' hx hCc ha hbn Fe Ne
          have hil : i < zs.length := by simpa using (Array.getElem?_eq_some_iff.mp hx).1
          have hiC : i < (plusR C rank).length := by rw [← hz.len]; exact hil
          obtain ⟨tc, rfl⟩ := hz.at' i x (plusR C rank)[i] (by simpa using hx) (List.getElem?_eq_getElem hiC)
          clear F4 N4 M4h
          (repeat' (first | (k_unfold; (try dsimp only)) | ((fail_if_success (with_reducible show wpAny _ _ (exec (Stmt.While _ _ _ _) _) _ _ _)); (fail_if_success (with_reducible show wpAny _ _ (exec (Stmt.For _ _ _ _ _) _) _ _ _)); (fail_if_success (with_reducible show wpAny _ _ (call (Value.ref _) _) _ _ _)); (fail_if_success (with_reducible show wpAny _ _ (compareOp _ (Value.ref _) (Value.ref _)) _ _ _)); (fail_if_success (with_reducible show wpAny _ _ (exec (Stmt.Assign _ (Expr.ListComp _ _ _ _) _) _) _ _ _)); (fail_if_success (with_reducible show wpAny _ _ (eval (Expr.ListComp _ _ _ _) _) _ _ _)); (first | walk1 | (dsimp only; walk1)); (try dsimp only)) | fail "no step"))
          · rename_i hr2 r hr
            rw [minusR, updR_at hiC, if_pos hr2] at hr
            cases hr
            exact ⟨_, rfl⟩
          · exact ⟨_, _, rfl, fun _ _ e => e⟩
          · rename_i hr2 r hr
            rw [minusR, updR_at hiC, if_neg hr2] at hr
            cases hr
            exact ⟨_, rfl⟩
          · exact ⟨_, _, rfl, fun _ _ e => e⟩
        · intro h' us hul huy D5 h5 tk5 F5 N5 off5
          have hu : Are repR us (minusR (plusR C rank) (M)) := are_of_each (by rw [hul]; simp [minusR, updR_len, ← hz.len]) huy
          clear F4 N4 M4h off5
          (repeat' (first | (k_unfold; (try dsimp only)) | ((fail_if_success (with_reducible show wpAny _ _ (exec (Stmt.While _ _ _ _) _) _ _ _)); (fail_if_success (with_reducible show wpAny _ _ (exec (Stmt.For _ _ _ _ _) _) _ _ _)); (fail_if_success (with_reducible show wpAny _ _ (call (Value.ref _) _) _ _ _)); (fail_if_success (with_reducible show wpAny _ _ (compareOp _ (Value.ref _) (Value.ref _)) _ _ _)); (fail_if_success (with_reducible show wpAny _ _ (exec (Stmt.Assign _ (Expr.ListComp _ _ _ _) _) _) _ _ _)); (fail_if_success (with_reducible show wpAny _ _ (eval (Expr.ListComp _ _ _ _) _) _ _ _)); (first | walk1 | (dsimp only; walk1)); (try dsimp only)) | fail "no step"))
          rename_i D6 h6 F6 N6 _
          refine hQQ _ _ (k _ D6 _ _ _ D5 us _ (by exact chg_end hg F6) (hnone _ (N6 _ (List.Mem.head _)).2.2) (N6 _ (List.Mem.head _)).1 rfl rfl (.inr (hnone _ (N6 (D5, LCg.lst us) (.tail _ (.head _))).2.2)) (N6 (D5, LCg.lst us) (.tail _ (.head _))).1 ?_ ?_)
          · rw [et]; exact hu
          · rw [et]; exact ⟨_, rfl⟩
      · (repeat' (first | (k_unfold; (try dsimp only)) | ((fail_if_success (with_reducible show wpAny _ _ (exec (Stmt.While _ _ _ _) _) _ _ _)); (fail_if_success (with_reducible show wpAny _ _ (exec (Stmt.For _ _ _ _ _) _) _ _ _)); (fail_if_success (with_reducible show wpAny _ _ (call (Value.ref _) _) _ _ _)); (fail_if_success (with_reducible show wpAny _ _ (compareOp _ (Value.ref _) (Value.ref _)) _ _ _)); (fail_if_success (with_reducible show wpAny _ _ (exec (Stmt.Assign _ (Expr.ListComp _ _ _ _) _) _) _ _ _)); (fail_if_success (with_reducible show wpAny _ _ (eval (Expr.ListComp _ _ _ _) _) _ _ _)); (first | walk1 | (dsimp only; walk1)); (try dsimp only)) | fail "no step"))
        refine wpAny_truthy_list (PySem.IsL.isList (N3 (D, LCg.lst ys) (.tail _ (.head _))).1) (ix_n hyl) ?_
        by_cases hT : thereR C = []
        · have et : toldR C 4 rank = (.text "list index out of range", C) := by unfold toldR; rw [if_neg (by decide), if_neg (fun q => absurd q.1 (by decide)), if_pos ⟨rfl, hT⟩]
          have hy0 := hey.mpr hT
          subst hy0
          simp only [List.isEmpty_toArray, List.isEmpty_nil, Bool.not_true]
          (repeat' (first | (k_unfold; (try dsimp only)) | ((fail_if_success (with_reducible show wpAny _ _ (exec (Stmt.While _ _ _ _) _) _ _ _)); (fail_if_success (with_reducible show wpAny _ _ (exec (Stmt.For _ _ _ _ _) _) _ _ _)); (fail_if_success (with_reducible show wpAny _ _ (call (Value.ref _) _) _ _ _)); (fail_if_success (with_reducible show wpAny _ _ (compareOp _ (Value.ref _) (Value.ref _)) _ _ _)); (fail_if_success (with_reducible show wpAny _ _ (exec (Stmt.Assign _ (Expr.ListComp _ _ _ _) _) _) _ _ _)); (fail_if_success (with_reducible show wpAny _ _ (eval (Expr.ListComp _ _ _ _) _) _ _ _)); (first | walk1 | (dsimp only; walk1)); (try dsimp only)) | fail "no step"))
          rename_i D4 h4 F4 N4 _
          refine hQQ _ _ (k _ D4 _ _ _ c cs nc (by exact chg_end hg F4) (hnone _ (N4 _ (List.Mem.head _)).2.2) (N4 _ (List.Mem.head _)).1 rfl rfl (.inl rfl) (F4.keep _ _ (hg _ _ (by simp) hc)) ?_ ?_)
          · rw [et]; exact hC
          · rw [et]; exact ⟨_, rfl⟩
        · have et : toldR C 4 rank = (.rank ((thereR C).getD 0 0), minusR (plusR C rank) ((thereR C).getD 0 0)) := by unfold toldR leastR; simp [hT]
          have hy0 : ys ≠ [] := fun q => hT (hey.mp q)
          rw [show (!ys.toArray.isEmpty) = true from by cases ys with | nil => exact absurd rfl hy0 | cons _ _ => rfl]
          obtain ⟨y0, yr, hyr⟩ : ∃ y0 yr, ys = y0 :: yr := by cases ys with | nil => exact absurd rfl hy0 | cons a b => exact ⟨a, b, rfl⟩
          have h0 : 0 < (thereR C).length := by cases q : thereR C with | nil => exact absurd q hT | cons _ _ => simp
          obtain ⟨ty, hy1⟩ := hy.at' 0 y0 ((thereR C).getD 0 0) (by rw [hyr]; rfl) (by show (thereR C)[0]? = _; simp [List.getD, List.getElem?_eq_getElem h0])
          subst hy1
          (repeat' (first | (k_unfold; (try dsimp only)) | ((fail_if_success (with_reducible show wpAny _ _ (exec (Stmt.While _ _ _ _) _) _ _ _)); (fail_if_success (with_reducible show wpAny _ _ (exec (Stmt.For _ _ _ _ _) _) _ _ _)); (fail_if_success (with_reducible show wpAny _ _ (call (Value.ref _) _) _ _ _)); (fail_if_success (with_reducible show wpAny _ _ (compareOp _ (Value.ref _) (Value.ref _)) _ _ _)); (fail_if_success (with_reducible show wpAny _ _ (exec (Stmt.Assign _ (Expr.ListComp _ _ _ _) _) _) _ _ _)); (fail_if_success (with_reducible show wpAny _ _ (eval (Expr.ListComp _ _ _ _) _) _ _ _)); (first | walk1 | (dsimp only; walk1)); (try dsimp only)) | fail "no step"))
          refine my_get (v := .int ((thereR C).getD 0 0) ty) (n := ys.length) F3h.2 (.tail _ (.head _)) (by decide) (by decide) (by rw [hyr]; rfl) ?_ (by with_unfolding_all rfl)
          have F7 := F3h.1
          have N7 : News g L h3 [(L + 1 + 1 + 1, o1), (D2, LCg.lst zs), (L + 1 + 1, o2), (L + 1, o3)] := fun p hp => F3h.2 p (by
            simp only [List.mem_cons, List.not_mem_nil, or_false] at hp ⊢
            rcases hp with h | h | h | h <;> simp [h])
          clear F3 N3 F3h
          (repeat' (first | (k_unfold; (try dsimp only)) | ((fail_if_success (with_reducible show wpAny _ _ (exec (Stmt.While _ _ _ _) _) _ _ _)); (fail_if_success (with_reducible show wpAny _ _ (exec (Stmt.For _ _ _ _ _) _) _ _ _)); (fail_if_success (with_reducible show wpAny _ _ (call (Value.ref _) _) _ _ _)); (fail_if_success (with_reducible show wpAny _ _ (compareOp _ (Value.ref _) (Value.ref _)) _ _ _)); (fail_if_success (with_reducible show wpAny _ _ (exec (Stmt.Assign _ (Expr.ListComp _ _ _ _) _) _) _ _ _)); (fail_if_success (with_reducible show wpAny _ _ (eval (Expr.ListComp _ _ _ _) _) _ _ _)); (first | walk1 | (dsimp only; walk1)); (try dsimp only)) | fail "no step"))
          rename_i h9 oc dc h4 F4 N4
          have M4h := And.intro F4 N4
          refine ListComp_E (F₀ := F4) (by with_unfolding_all rfl) (by decide) (by rfl) (by decide) (by rfl) (by rfl) (by decide) ?_
          (repeat' (first | (k_unfold; (try dsimp only)) | ((fail_if_success (with_reducible show wpAny _ _ (exec (Stmt.While _ _ _ _) _) _ _ _)); (fail_if_success (with_reducible show wpAny _ _ (exec (Stmt.For _ _ _ _ _) _) _ _ _)); (fail_if_success (with_reducible show wpAny _ _ (call (Value.ref _) _) _ _ _)); (fail_if_success (with_reducible show wpAny _ _ (compareOp _ (Value.ref _) (Value.ref _)) _ _ _)); (fail_if_success (with_reducible show wpAny _ _ (exec (Stmt.Assign _ (Expr.ListComp _ _ _ _) _) _) _ _ _)); (fail_if_success (with_reducible show wpAny _ _ (eval (Expr.ListComp _ _ _ _) _) _ _ _)); (first | walk1 | (dsimp only; walk1)); (try dsimp only)) | fail "no step"))
          refine enum_call (fun i y => ∀ r, (minusR (plusR C rank) ((thereR C).getD 0 0))[i]? = some r → repR y r) hh M4h.1 M4h.2 (PySem.IsL.isList (M4h.2 (D2, LCg.lst zs) (.tail _ (.head _))).1) (sz_k (Nat.lt_trans hzl2 (by decide))) ?_ ?_
          · intro Cc i x t oC m₂ h tk E' hx hCc ha hbn Fe Ne
            have hil : i < zs.length := by simpa using (Array.getElem?_eq_some_iff.mp hx).1
            have hiC : i < (plusR C rank).length := by rw [← hz.len]; exact hil
            obtain ⟨tc, rfl⟩ := hz.at' i x (plusR C rank)[i] (by simpa using hx) (List.getElem?_eq_getElem hiC)
            clear F4 N4 M4h
            (repeat' (first | (k_unfold; (try dsimp only)) | ((fail_if_success (with_reducible show wpAny _ _ (exec (Stmt.While _ _ _ _) _) _ _ _)); (fail_if_success (with_reducible show wpAny _ _ (exec (Stmt.For _ _ _ _ _) _) _ _ _)); (fail_if_success (with_reducible show wpAny _ _ (call (Value.ref _) _) _ _ _)); (fail_if_success (with_reducible show wpAny _ _ (compareOp _ (Value.ref _) (Value.ref _)) _ _ _)); (fail_if_success (with_reducible show wpAny _ _ (exec (Stmt.Assign _ (Expr.ListComp _ _ _ _) _) _) _ _ _)); (fail_if_success (with_reducible show wpAny _ _ (eval (Expr.ListComp _ _ _ _) _) _ _ _)); (first | walk1 | (dsimp only; walk1)); (try dsimp only)) | fail "no step"))
            · rename_i hr2 r hr
              rw [minusR, updR_at hiC, if_pos hr2] at hr
              cases hr
              exact ⟨_, rfl⟩
            · exact ⟨_, _, rfl, fun _ _ e => e⟩
            · rename_i hr2 r hr
              rw [minusR, updR_at hiC, if_neg hr2] at hr
              cases hr
              exact ⟨_, rfl⟩
            · exact ⟨_, _, rfl, fun _ _ e => e⟩
          · intro h' us hul huy D5 h5 tk5 F5 N5 off5
            have hu : Are repR us (minusR (plusR C rank) ((thereR C).getD 0 0)) := are_of_each (by rw [hul]; simp [minusR, updR_len, ← hz.len]) huy
            clear F4 N4 M4h off5
            (repeat' (first | (k_unfold; (try dsimp only)) | ((fail_if_success (with_reducible show wpAny _ _ (exec (Stmt.While _ _ _ _) _) _ _ _)); (fail_if_success (with_reducible show wpAny _ _ (exec (Stmt.For _ _ _ _ _) _) _ _ _)); (fail_if_success (with_reducible show wpAny _ _ (call (Value.ref _) _) _ _ _)); (fail_if_success (with_reducible show wpAny _ _ (compareOp _ (Value.ref _) (Value.ref _)) _ _ _)); (fail_if_success (with_reducible show wpAny _ _ (exec (Stmt.Assign _ (Expr.ListComp _ _ _ _) _) _) _ _ _)); (fail_if_success (with_reducible show wpAny _ _ (eval (Expr.ListComp _ _ _ _) _) _ _ _)); (first | walk1 | (dsimp only; walk1)); (try dsimp only)) | fail "no step"))
            rename_i D6 h6 F6 N6 _
            refine hQQ _ _ (k _ D6 _ _ _ D5 us _ (by exact chg_end hg F6) (hnone _ (N6 _ (List.Mem.head _)).2.2) (N6 _ (List.Mem.head _)).1 rfl rfl (.inr (hnone _ (N6 (D5, LCg.lst us) (.tail _ (.head _))).2.2)) (N6 (D5, LCg.lst us) (.tail _ (.head _))).1 ?_ ?_)
            · rw [et]; exact hu
            · rw [et]; exact ⟨_, rfl⟩
end Mine

-- D3
namespace Mine

noncomputable abbrev two (elt t1 i1 t2 i2 : PySem.Expr) (scope : Scope) (pos : Pos) : PySem.Expr := .ListComp elt [⟨t1, i1, [], 0⟩, ⟨t2, i2, [], 0⟩] scope pos

theorem compTurn_two0 (elt t1 i1 t2 i2 : PySem.Expr) (scope : Scope) (pos : Pos) (it acc : Value) (env : Env) :
    compTurn (two elt t1 i1 t2 i2 scope pos) 0 it acc env = (standAt i1.pos >>= fun _ => pyNext it >>= fun r => match r with
      | none => pure (.done .next)
      | some v => letOwnedTupleGo t1 it v >>= fun _ => assign t1 env v >>= fun _ =>
        (eval i2 env >>= fun x => standAt i2.pos >>= fun _ => foldedSetIterable i2 env x >>= fun x => holding [x] (pyIter x) >>= fun it' => runOwn (.compStart (two elt t1 i1 t2 i2 scope pos) 1 it' acc env) env >>= fun _ =>
          again (.compLoop (two elt t1 i1 t2 i2 scope pos) 0 it acc env))) := by rfl
theorem compTurn_two1 (elt t1 i1 t2 i2 : PySem.Expr) (scope : Scope) (pos : Pos) (it acc : Value) (env : Env) :
    compTurn (two elt t1 i1 t2 i2 scope pos) 1 it acc env = (standAt i2.pos >>= fun _ => pyNext it >>= fun r => match r with
      | none => pure (.done .next)
      | some v => letOwnedTupleGo t2 it v >>= fun _ => assign t2 env v >>= fun _ =>
        (eval elt env >>= fun x => call (.builtin "list.append") [acc, x] >>= fun _ => pure ()) >>= fun _ =>
          again (.compLoop (two elt t1 i1 t2 i2 scope pos) 1 it acc env)) := by rfl

section
variable {prog : Program} {w : World} {A : Around} {R : Result → Shared → Prop} {s : Shared} {elt t1 i1 t2 i2 : PySem.Expr} {scope : Scope} {pos : Pos} {it acc : Value} {env : Env}

theorem compStart_two1 (h0 : codeAny (model prog w) A (.compLoop (two elt t1 i1 t2 i2 scope pos) 1 it acc env) R s)
    (h : wpAny (model prog w) A (pyIter it) (fun it' s' => codeAny (model prog w) A (.compLoop (two elt t1 i1 t2 i2 scope pos) 1 it' acc env) R s') (notedBy (model prog w) A env fun x s' => R (.error x) s') s) :
    codeAny (model prog w) A (.compStart (two elt t1 i1 t2 i2 scope pos) 1 it acc env) R s := by
  refine codeAny_of_tree ?_
  show wpAny _ _ ((compStart (two elt t1 i1 t2 i2 scope pos) 1 it acc env).onRaise (fun x => do noteFrame x env; standAt theWindowsPlace)) _ _ s
  refine wpAny_notedAt ?_
  unfold compStart
  show wpAny _ _ (ask >>= _) _ _ s
  refine wpAny_bind (wpAny_askSetting (wpAny_ite ?_))
  split
  · first
      | exact wpAny_bind (wpAny_pure (wpAny_pure (And.intro rfl h0)))
      | exact wpAny_pure (And.intro rfl h0)
  · refine wpAny_bind (wpAny_rule ?_)
    show wpAny _ _ (standAt i2.pos >>= _) _ _ s
    exact wpAny_bind (wpAny_standAt (wpAny_bind (wpAny_mono h (fun it' s' h' => wpAny_pure (And.intro rfl h')) fun _ _ x => x)))

theorem compLoop_two1 (I : Nat → Shared → Prop)
    (turn : ∀ n s, I n s → wpAny (model prog w) A (pyNext it) (fun r s₁ => match r with
      | none => R (.ok .next) s₁
      | some v => wpAny (model prog w) A (assign t2 env v) (fun _ s₂ => wpAny (model prog w) A (eval elt env) (fun x s₃ =>
          wpAny (model prog w) A (call (.builtin "list.append") [acc, x]) (fun _ s₄ => ∃ m, m < n ∧ I m s₄) (notedBy (model prog w) A env fun e s' => R (.error e) s') s₃)
          (notedBy (model prog w) A env fun e s' => R (.error e) s') s₂) (notedBy (model prog w) A env fun e s' => R (.error e) s') s₁) (notedBy (model prog w) A env fun e s' => R (.error e) s') s)
    (n : Nat) (h : I n s) (ht : ∀ v, letOwnedTupleGo t2 it v = pure () := by intro _; rfl) :
    codeAny (model prog w) A (.compLoop (two elt t1 i1 t2 i2 scope pos) 1 it acc env) R s := by
  refine codeAny_loop rfl I (fun n s hI => ?_) n h
  show wpAny _ _ ((compTurn (two elt t1 i1 t2 i2 scope pos) 1 it acc env).onRaise (fun x => do noteFrame x env; theTreesLotGoes x)) _ _ s
  refine wpAny_noted ?_
  rw [compTurn_two1]
  refine wpAny_bind (wpAny_standAt (wpAny_bind (wpAny_mono (turn n s hI) (fun r s₁ h₁ => ?_) fun _ _ h' => h')))
  cases r with
  | none => exact wpAny_pure h₁
  | some v =>
    refine wpAny_bind (wpAny_of_eq (ht v) ?_)
    exact wpAny_bind (wpAny_mono h₁ (fun _ s₂ h₂ => wpAny_bind (wpAny_bind (wpAny_mono h₂ (fun x s₃ h₃ => wpAny_bind (wpAny_mono h₃
      (fun _ s₄ h₄ => wpAny_pure (wpAny_pure ⟨rfl, h₄⟩)) fun _ _ h' => h')) fun _ _ h' => h'))) fun _ _ h' => h')

theorem compLoop_two0 (I : Nat → Shared → Prop)
    (turn : ∀ n s, I n s → wpAny (model prog w) A (pyNext it) (fun r s₁ => match r with
      | none => R (.ok .next) s₁
      | some v => wpAny (model prog w) A (assign t1 env v) (fun _ s₂ => wpAny (model prog w) A (eval i2 env) (fun x s₃ =>
          wpAny (model prog w) A (pyIter x) (fun it' s₄ => codeAny (model prog w) A (.compStart (two elt t1 i1 t2 i2 scope pos) 1 it' acc env)
            (fun r s' => match r with | .ok _ => ∃ m, m < n ∧ I m s' | .error e => cameBackBy (model prog w) A env (notedBy (model prog w) A env fun e s' => R (.error e) s') e s') s₄) (notedBy (model prog w) A env fun e s' => R (.error e) s') s₃)
          (notedBy (model prog w) A env fun e s' => R (.error e) s') s₂) (notedBy (model prog w) A env fun e s' => R (.error e) s') s₁) (notedBy (model prog w) A env fun e s' => R (.error e) s') s)
    (n : Nat) (h : I n s) (hs : ∀ x, foldedSetIterable i2 env x = pure x) (ht : ∀ v, letOwnedTupleGo t1 it v = pure () := by intro _; rfl) :
    codeAny (model prog w) A (.compLoop (two elt t1 i1 t2 i2 scope pos) 0 it acc env) R s := by
  refine codeAny_loop rfl I (fun n s hI => ?_) n h
  show wpAny _ _ ((compTurn (two elt t1 i1 t2 i2 scope pos) 0 it acc env).onRaise (fun x => do noteFrame x env; theTreesLotGoes x)) _ _ s
  refine wpAny_noted ?_
  rw [compTurn_two0]
  refine wpAny_bind (wpAny_standAt (wpAny_bind (wpAny_mono (turn n s hI) (fun r s₁ h₁ => ?_) fun _ _ h' => h')))
  cases r with
  | none => exact wpAny_pure h₁
  | some v =>
    refine wpAny_bind (wpAny_of_eq (ht v) ?_)
    refine wpAny_bind (wpAny_mono h₁ (fun _ s₂ h₂ => ?_) fun _ _ h' => h')
    refine wpAny_bind (wpAny_mono h₂ (fun x s₃ h₃ => ?_) fun _ _ h' => h')
    refine wpAny_bind (wpAny_standAt (wpAny_bind (wpAny_of_eq (hs x) (wpAny_bind (wpAny_holding (wpAny_mono h₃ (fun it' s₄ h₄ => ?_) fun _ _ h' => h'))))))
    exact wpAny_bind (wpAny_runOwn (codeAny_mono h₄ fun r s' hr => by
      cases r with
      | ok f => exact wpAny_pure ⟨rfl, hr⟩
      | error e => exact hr))
end

section
variable {prog : Program} {w : World} {A : Around} {E : Value → Shared → Prop} {s : Shared} {env : Env} {h₀ : Heap} {L : Addr} {m : Str → Option Value} {news : List (Addr × Obj)}
  {x y : Str} {px px' py : Pos} {i1 i2 : PySem.Expr} {scope : Scope} {pos : Pos} {cl : List (Str × Addr)}

theorem nest_inner {I D C : Addr} {h₁ : Heap} {tk₁ : Nat} {m₁ : Str → Option Value} {v : Value} {ys : List Value} {k : Nat} {R : Result → Shared → Prop}
    (hh : A.handled = none) (hIC : I ≠ C) (hID : I ≠ D) (hDC : D ≠ C) (hkind : scope.kind = .function) (hx : scope.names.lookup x = some .local) (hy : scope.names.lookup y = some .local) (hxy : x ≠ y) (hdb : (x == ("__debug__" : Str)) = false)
    (hit : IsRangeIter h₁ I 0 k 1) (hn : h₁.Ns C m₁) (hm : m₁ x = some v) (hD : h₁.get? D = some (LCg.lst ys)) (hsz : ys.length + k ≤ sizeLine)
    (fin : ∀ h tk m', h.Ns C m' → h.get? D = some (LCg.lst (ys ++ List.replicate k v)) → (∀ b o, b ≠ I → b ≠ C → b ≠ D → h₁.get? b = some o → h.get? b = some o) → R (.ok .next) { s with heap := h, toks := tk }) :
    codeAny (model prog w) A (.compLoop (two (.Name x px) (.Name x px') i1 (.Name y py) i2 scope pos) 1 (.ref I) (.ref D) (compEnvC scope cl C env)) R { s with heap := h₁, toks := tk₁ } := by
  have W := Walks.range (prog := prog) (w := w) (A := A) hh I 0 1 k
  refine compLoop_two1 (fun q s' => ∃ h' tk j m', s' = { s with heap := h', toks := tk } ∧ j ≤ k ∧ q = k + 1 - j ∧ IsRangeIter h' I (0 + (j : Nat) * 1) ((k : Int) - (j : Nat)) 1 ∧ h'.Ns C m' ∧ m' x = some v ∧ h'.get? D = some (LCg.lst (ys ++ List.replicate j v)) ∧
      (∀ b o, b ≠ I → b ≠ C → b ≠ D → h₁.get? b = some o → h'.get? b = some o)) ?_ (k + 1)
    ⟨h₁, tk₁, 0, m₁, rfl, Nat.zero_le _, rfl, by simpa using hit, hn, hm, by simpa using hD, fun _ _ _ _ _ e => e⟩
  rintro q s' ⟨h', tk, j, m', rfl, hj, rfl, hit', hn', hm', hD', hk'⟩
  by_cases hlt : j < k
  · refine W.item j _ _ _ hlt hit' fun v' h₂ tk₂ _ hit₂ hk₂ => ?_
    have n₂ : h₂.Ns C m' := hn'.at' fun o e => hk₂ _ o (by simpa using Ne.symm hIC) e
    refine wpAny_assign_Name (wpAny_storeName_local (lookup_relabel_local hy) n₂ (fun h₃ hn₃ hs₃ => ?_) (by simp [compEnvC, relabel, hkind]))
    refine wpAny_Name (wpAny_loadName_local (by simp [compEnvC, relabel, hkind]) (lookup_relabel_local hx) hn₃ (by rw [if_neg hxy]; exact hm') ?_) hdb
    have D₃ : h₃.get? D = some (LCg.lst (ys ++ List.replicate j v)) := hs₃.extBut _ _ hDC (hk₂ _ _ (by simpa using Ne.symm hID) hD')
    have hit₃ : IsRangeIter h₃ I (0 + ((j + 1 : Nat) : Int) * 1) ((k : Int) - ((j + 1 : Nat) : Int)) 1 := hs₃.extBut _ _ hIC hit₂
    refine append_at (hsz := by show (ys ++ List.replicate j v).toArray.size ≤ sizeLine; simp; omega) D₃ fun h₅ hs₅ hD₅ => ?_
    refine ⟨k + 1 - (j + 1), turn_lt hlt, h₅, _, j + 1, _, rfl, hlt, rfl, hs₅.extBut _ _ hID hit₃, hn₃.sameBut hs₅ (Ne.symm hDC), by rw [if_neg hxy]; exact hm', ?_, fun b o b1 b2 b3 e => hs₅.extBut _ _ b3 (hs₃.extBut _ _ b2 (hk₂ _ _ (by simpa using b1) (hk' b o b1 b2 b3 e)))⟩
    refine hD₅.trans (congrArg some ((LCg.lst_snoc _ v).trans ?_))
    rw [List.append_assoc, ← List.replicate_succ']
  · obtain rfl : j = k := Nat.le_antisymm hj (Nat.not_lt.mp hlt)
    refine W.done _ _ _ hit' fun h₂ tk₂ hk₂ => ?_
    exact fin h₂ tk₂ m' (hn'.at' fun o e => hk₂ _ o (by simpa using Ne.symm hIC) e) (hk₂ _ _ (by simpa using Ne.symm hID) hD') fun b o b1 b2 b3 e => hk₂ _ _ (by simpa using b1) (hk' b o b1 b2 b3 e)

/-- a range of k has been made -/
noncomputable def RangeAt (s : Shared) (h : Heap) (k : Nat) (xv : Value) (s₃ : Shared) : Prop :=
  ∃ rg h' tk' t1 t2 t3, xv = .ref rg ∧ s₃ = { s with heap := h', toks := tk' } ∧ h.StaysIn h' ∧ IsRange h' rg 0 (k : Int) 1 t1 t2 t3

/-- the values r, each kf r times -/
noncomputable def nestTo (vf : Nat → Value → Prop) (kf : Nat → Nat) : Nat → List Value → Prop
  | 0, ys => ys = []
  | i + 1, ys => ∃ zs v, nestTo vf kf i zs ∧ vf i v ∧ ys = zs ++ List.replicate (kf i) v

theorem nest_loop {I D C : Addr} {h₁ : Heap} {tk₁ : Nat} {m₁ : Str → Option Value} {n : Nat} {kf : Nat → Nat} {R : Result → Shared → Prop}
    (hh : A.handled = none) (hIC : I ≠ C) (hID : I ≠ D) (hDC : D ≠ C) (hCL : C ≠ L) (hDL : D ≠ L) (hIL : I ≠ L) (hC₀ : h₀.get? C = none) (hD₀ : h₀.get? D = none) (hI₀ : h₀.get? I = none)
    (hnC : ∀ p ∈ news, p.1 ≠ C) (hnD : ∀ p ∈ news, p.1 ≠ D) (hnI : ∀ p ∈ news, p.1 ≠ I)
    (hkind : scope.kind = .function) (hx : scope.names.lookup x = some .local) (hy : scope.names.lookup y = some .local) (hxy : x ≠ y) (hdb : (x == ("__debug__" : Str)) = false) (hfs : ∀ v, foldedSetIterable i2 (compEnvC scope cl C env) v = pure v)
    (hit : IsRangeIter h₁ I 0 n 1) (hn : h₁.Ns C m₁) (F : Fr h₀ L h₁ m) (N : News h₀ L h₁ ((D, LCg.lst []) :: news)) (hsz : ∀ i ys, i ≤ n → nestTo (fun i v => ∃ t, v = .int (i : Int) t) kf i ys → ys.length ≤ sizeLine)
    (hi2 : ∀ (i : Nat) t oC m₂ h tk (E' : Value → Shared → Prop), i < n → LCg.NsObj oC m₂ → m₂ x = some (.int (i : Int) t) → Fr h₀ L h m → News h₀ L h ((C, oC) :: news) →
      wpAny (model prog w) A (eval i2 (compEnvC scope cl C env)) (RangeAt s h (kf i)) E' { s with heap := h, toks := tk })
    (hkf : ∀ i < n, kf i < 1000000)
    (fin : ∀ h tk m' ys, nestTo (fun i v => ∃ t, v = .int (i : Int) t) kf n ys → Fr h₀ L h m → News h₀ L h ((D, LCg.lst ys) :: news) → h.Ns C m' → R (.ok .next) { s with heap := h, toks := tk }) :
    codeAny (model prog w) A (.compLoop (two (.Name x px) (.Name x px') i1 (.Name y py) i2 scope pos) 0 (.ref I) (.ref D) (compEnvC scope cl C env)) R { s with heap := h₁, toks := tk₁ } := by
  have W := Walks.range (prog := prog) (w := w) (A := A) hh I 0 1 n
  have frK : ∀ {h h' : Heap} {m : Str → Option Value}, Fr h₀ L h m → (∀ b o, b ≠ I → b ≠ C → b ≠ D → h.get? b = some o → h'.get? b = some o) → Fr h₀ L h' m := fun F k =>
    ⟨F.ns.at' fun o e' => k _ o (Ne.symm hIL) (Ne.symm hCL) (Ne.symm hDL) e', fun b o e' => k b o (fun q => by rw [q, hI₀] at e'; cases e') (fun q => by rw [q, hC₀] at e'; cases e') (fun q => by rw [q, hD₀] at e'; cases e') (F.keep b o e'), F.above⟩
  have nwK : ∀ {h h' : Heap}, News h₀ L h news → (∀ b o, b ≠ I → b ≠ C → b ≠ D → h.get? b = some o → h'.get? b = some o) → News h₀ L h' news := fun N k p hp => ⟨k _ _ (hnI p hp) (hnC p hp) (hnD p hp) (N p hp).1, (N p hp).2⟩
  refine compLoop_two0 (fun q s' => ∃ h' tk i ys m', s' = { s with heap := h', toks := tk } ∧ i ≤ n ∧ q = n + 1 - i ∧ IsRangeIter h' I (0 + (i : Nat) * 1) ((n : Int) - (i : Nat)) 1 ∧ h'.Ns C m' ∧ h'.get? D = some (LCg.lst ys) ∧ nestTo (fun i v => ∃ t, v = .int (i : Int) t) kf i ys ∧
      Fr h₀ L h' m ∧ News h₀ L h' news) ?_ (n + 1)
    ⟨h₁, tk₁, 0, [], m₁, rfl, Nat.zero_le _, rfl, by simpa using hit, hn, (N _ List.mem_cons_self).1, rfl, F, fun p hp => N p (List.mem_cons_of_mem _ hp)⟩ hfs
  rintro q s' ⟨h', tk, i, ys, m', rfl, hi, rfl, hit', hn', hD', hys, F', N'⟩
  by_cases hlt : i < n
  · refine W.item i _ _ _ hlt hit' fun v' h₂ tk₂ hv hit₂ hk₂ => ?_
    obtain ⟨t, rfl⟩ := hv
    rw [show (0 : Int) + (i : Int) * 1 = (i : Int) from (Int.zero_add _).trans (Int.mul_one _)]
    have k₂ : ∀ b o, b ≠ I → b ≠ C → b ≠ D → h'.get? b = some o → h₂.get? b = some o := fun b o b1 _ _ e => hk₂ _ _ (by simpa using b1) e
    have n₂ : h₂.Ns C m' := hn'.at' fun o e => hk₂ _ o (by simpa using Ne.symm hIC) e
    refine wpAny_assign_Name (wpAny_storeName_local (lookup_relabel_local hx) n₂ (fun h₃ hn₃ hs₃ => ?_) (by simp [compEnvC, relabel, hkind]))
    have k₃ : ∀ b o, b ≠ I → b ≠ C → b ≠ D → h'.get? b = some o → h₃.get? b = some o := fun b o b1 b2 b3 e => hs₃.extBut _ _ b2 (k₂ b o b1 b2 b3 e)
    have F₃ := frK F' k₃
    have N₃ := nwK N' k₃
    have D₃ : h₃.get? D = some (LCg.lst ys) := hs₃.extBut _ _ hDC (hk₂ _ _ (by simpa using Ne.symm hID) hD')
    have it₃ : IsRangeIter h₃ I (0 + ((i + 1 : Nat) : Int) * 1) ((n : Int) - ((i + 1 : Nat) : Int)) 1 := hs₃.extBut _ _ hIC hit₂
    obtain ⟨oC, heC, hoC⟩ := LCg.ns_obj hn₃
    refine wpAny_mono (hi2 i t oC _ h₃ _ _ hlt hoC (by simp) F₃ (fun p hp => ?_)) (fun xv s₄ h₄ => ?_) fun _ _ e => e
    · rcases List.mem_cons.mp hp with rfl | hp
      · exact ⟨heC, hCL, hC₀⟩
      · exact N₃ p hp
    obtain ⟨rg, h₄, tk₄, a1, a2, a3, rfl, rfl, st₄, hr⟩ := h₄
    have hkf' := hkf i hlt
    refine wpAny_pyIter_range hr (small_nat hkf') ?_
    have hz : Builtin.Range.rangeSize 0 ((kf i : Nat) : Int) 1 = ((kf i : Nat) : Int) := range_size0 (Int.natCast_nonneg _)
    rw [hz]
    have up : h₄.StaysIn (h₄.push { cls := .type "range_iterator", data := .fields #[rawInt 0, rawInt ((kf i : Nat) : Int), rawInt 1] }) := fun b o e => Heap.get?_push_of_some _ e
    have sz : ∀ b o, h₃.get? b = some o → b ≠ h₄.objs.size := fun b o e => Nat.ne_of_lt (Heap.lt_size (st₄ b o e))
    have hJC : h₄.objs.size ≠ C := Ne.symm (sz _ _ heC)
    have hJD : h₄.objs.size ≠ D := Ne.symm (sz _ _ D₃)
    have hJI : h₄.objs.size ≠ I := Ne.symm (sz _ _ it₃)
    have hlen : ys.length + kf i ≤ sizeLine := by
      have := hsz (i + 1) _ hlt ⟨ys, .int (i : Int) t, hys, ⟨t, rfl⟩, rfl⟩
      simpa using this
    refine compStart_two1 ?_ (wpAny_pyIter_rangeiter (Heap.get?_push_size _ rfl) ?_)
    all_goals
      refine nest_inner (v := .int (i : Int) t) hh hJC hJD hDC hkind hx hy hxy hdb (Heap.get?_push_size _ rfl) (hoC.ns (up _ _ (st₄ _ _ heC))) (by simp) (up _ _ (st₄ _ _ D₃)) hlen fun h₆ tk₆ m₆ n₆ D₆ k₆ => ?_
      have k₆' : ∀ b o, b ≠ I → b ≠ C → b ≠ D → h₃.get? b = some o → h₆.get? b = some o := fun b o b1 b2 b3 e => k₆ b o (sz b o e) b2 b3 (up _ _ (st₄ _ _ e))
      exact ⟨n + 1 - (i + 1), turn_lt hlt, h₆, tk₆, i + 1, _, m₆, rfl, hlt, rfl, k₆ _ _ (Ne.symm hJI) hIC hID (up _ _ (st₄ _ _ it₃)), n₆, D₆, ⟨ys, _, hys, ⟨t, rfl⟩, rfl⟩, frK F₃ k₆', nwK N₃ k₆'⟩
  · obtain rfl : i = n := Nat.le_antisymm hi (Nat.not_lt.mp hlt)
    refine W.done _ _ _ hit' fun h₂ tk₂ hk₂ => ?_
    have k₂ : ∀ b o, b ≠ I → b ≠ C → b ≠ D → h'.get? b = some o → h₂.get? b = some o := fun b o b1 _ _ e => hk₂ _ _ (by simpa using b1) e
    refine fin h₂ tk₂ m' ys hys (frK F' k₂) (fun p hp => ?_) (hn'.at' fun o e => hk₂ _ o (by simpa using Ne.symm hIC) e)
    rcases List.mem_cons.mp hp with rfl | hp
    · exact ⟨hk₂ _ _ (by simpa using Ne.symm hID) hD', hDL, hD₀⟩
    · exact nwK N' k₂ p hp

noncomputable def NestSrc (prog : Program) (w : World) (A : Around) (h₀ : Heap) (L : Addr) (m : Str → Option Value) (env : Env) (x : Str) (i2 : PySem.Expr) (scope : Scope) (cl : List (Str × Addr)) (Fin : Shared → List Value → List (Addr × Obj) → Prop) (xv : Value) (s₁ : Shared) : Prop :=
  ∃ (r : Addr) (n : Nat) (t1 t2 t3 : Tok) (news : List (Addr × Obj)) (kf : Nat → Nat), xv = .ref r ∧ A.handled = none ∧ IsRange s₁.heap r 0 (n : Int) 1 t1 t2 t3 ∧ n < 1000000 ∧ Fr h₀ L s₁.heap m ∧ News h₀ L s₁.heap news ∧
    (∀ i ys, i ≤ n → nestTo (fun i v => ∃ t, v = .int (i : Int) t) kf i ys → ys.length ≤ sizeLine) ∧ (∀ i < n, kf i < 1000000) ∧ (∀ C v, foldedSetIterable i2 (compEnvC scope cl C env) v = pure v) ∧
    (∀ C (i : Nat) t oC m₂ h tk (E' : Value → Shared → Prop), i < n → LCg.NsObj oC m₂ → m₂ x = some (.int (i : Int) t) → Fr h₀ L h m → News h₀ L h ((C, oC) :: news) →
      wpAny (model prog w) A (eval i2 (compEnvC scope cl C env)) (RangeAt s₁ h (kf i)) E' { s₁ with heap := h, toks := tk }) ∧
    ∀ ys, nestTo (fun i v => ∃ t, v = .int (i : Int) t) kf n ys → Fin s₁ ys news

theorem Assign_nest {z : Str} {pz spos : Pos} {Q : Flow → Shared → Prop} (F₀ : Fr h₀ L s.heap m) (hLe : env.locals = L)
    (hsw : swapsWith (two (.Name x px) (.Name x px') i1 (.Name y py) i2 scope pos) (some (.Name z pz)) spos.line env = pure true)
    (hclos : closureFor scope env = pure cl) (hcell : ∀ z ∈ scope.names, z.2 ≠ .cell) (hkind : scope.kind = .function)
    (hnames : ∀ z ∈ scope.names, z.2 = .local → scope.names.lookup z.1 = some .local) (hx : scope.names.lookup x = some .local) (hy : scope.names.lookup y = some .local) (hxy : x ≠ y) (hdb : (x == ("__debug__" : Str)) = false)
    (hz : env.kindOf z = some .local) (hp : (env.scope.kind == .class || (env.scope.kind == .module && env.locals != env.globals)) = false)
    (h : wpAny (model prog w) A (eval i1 env) (NestSrc prog w A h₀ L m env x i2 scope cl (fun s₂ => LCg.FinA h₀ L m s₂ z Q)) E s)
    (hs : ∀ x, foldedSetIterable i1 env x = pure x := by intro _; rfl) :
    wpAny (model prog w) A (exec (.Assign [.Name z pz] (two (.Name x px) (.Name x px') i1 (.Name y py) i2 scope pos) spos) env) Q E s := by
  subst hLe
  rw [exec_Assign_Name_used _ _ _ _ hsw]
  refine wpAny_bind (wpAny_standAt (wpAny_bind ?_))
  show wpAny _ A (do let _ ← comprehension (two (.Name x px) (.Name x px') i1 (.Name y py) i2 scope pos) scope env _ (newList []) false (eval i1 env) (some (assign (.Name z pz) env))) _ _ s
  refine wpAny_bind (wpAny_mono (wpAny_comprehension_free (use := some (assign (.Name z pz) env)) (Q := fun _ s' => Q .next s') rfl hs hclos hkind hnames
    (wpAny_mono h (fun xv s₁ h₁ => ?_) fun _ _ e => e)) (fun _ s' hq => wpAny_pure (wpAny_pure hq)) fun _ _ e => e)
  obtain ⟨r, n, t1, t2, t3, news, kf, rfl, hh, hr, hn, F, N, hsz, hkf, hfs, hi2, hfin⟩ := h₁
  refine wpAny_pyIter_range hr (small_nat hn) ?_
  rw [range_size0 (Int.natCast_nonneg _)]
  have up : s₁.heap.StaysIn (s₁.heap.push { cls := .type "range_iterator", data := .fields #[rawInt 0, rawInt (n : Int), rawInt 1] }) := fun b o e => Heap.get?_push_of_some _ e
  have hps : (s₁.heap.push { cls := .type "range_iterator", data := .fields #[rawInt 0, rawInt (n : Int), rawInt 1] }).objs.size = s₁.heap.objs.size + 1 := Heap.size_push ..
  have fresh₀ : ∀ a, s₁.heap.objs.size ≤ a → h₀.get? a = none := fun a ha => by
    cases q : h₀.get? a with
    | none => rfl
    | some o => exact absurd (Heap.lt_size (F.keep a o q)) (Nat.not_lt.mpr ha)
  have hLlt : env.locals < s₁.heap.objs.size := F.ns.lt
  refine comp_block rfl hcell hkind (fun s₃ Q E' k hq => wpAny_pyIter_rangeiter (k _ _ (Heap.get?_push_size _ rfl)) hq) fun D C h₁ tk m₁ hD hC hDC st hDl hns => ?_
  dsimp only at hD hC st
  rw [hps] at hD hC
  have hCL : C ≠ env.locals := fun q => absurd hLlt (by rw [← q]; exact Nat.not_lt.mpr (Nat.le_of_succ_le hC))
  have hDL : D ≠ env.locals := fun q => absurd hLlt (by rw [← q]; exact Nat.not_lt.mpr (Nat.le_of_succ_le hD))
  have hIL : s₁.heap.objs.size ≠ env.locals := Nat.ne_of_gt hLlt
  have hIC : s₁.heap.objs.size ≠ C := Nat.ne_of_lt hC
  have hID : s₁.heap.objs.size ≠ D := Nat.ne_of_lt hD
  have offs : ∀ a, s₁.heap.objs.size ≤ a → ∀ p ∈ news, p.1 ≠ a := fun a ha p hp q => absurd (Heap.lt_size (N p hp).1) (by rw [q]; exact Nat.not_lt.mpr ha)
  have st' : s₁.heap.StaysIn h₁ := fun b o e => st b o (up b o e)
  refine nest_loop (kf := kf) hh hIC hID hDC hCL hDL hIL (fresh₀ _ (Nat.le_of_succ_le hC)) (fresh₀ _ (Nat.le_of_succ_le hD)) (fresh₀ _ (Nat.le_refl _)) (offs _ (Nat.le_of_succ_le hC)) (offs _ (Nat.le_of_succ_le hD)) (offs _ (Nat.le_refl _)) hkind hx hy hxy hdb (hfs C)
    (st _ _ (Heap.get?_push_size _ rfl)) hns (F.keeps st') (fun p hp => ?_) hsz (fun i t oC m₂ h tk E' a b c d e => hi2 C i t oC m₂ h tk E' a b c d e) hkf fun h' tk m' ys hys F' N' hn' => ?_
  · rcases List.mem_cons.mp hp with rfl | hp
    · exact ⟨hDl, hDL, fresh₀ _ (Nat.le_of_succ_le hD)⟩
    · exact ⟨st' _ _ (N p hp).1, (N p hp).2⟩
  show wpAny _ A (assign (.Name z pz) env (.ref D)) _ _ _
  refine wpAny_assign_Name (wpAny_storeName_local hz F'.ns (fun h₂ hn₂ hs₂ => ?_) hp)
  have hL₀ : h₀.get? env.locals = none := Heap.get?_none_of_le F'.above
  have F₂ : Fr h₀ env.locals h₂ (fun q => if q = z then some (.ref D) else m q) := ⟨hn₂, fun b o e => hs₂.extBut b o (fun q => by rw [q, hL₀] at e; cases e) (F'.keep b o e), F'.above⟩
  refine ⟨m', hn'.sameBut hs₂ hCL, fun h'' hs'' => hfin ys hys D h'' _ (F₂.change hs'' hCL (fresh₀ _ (Nat.le_of_succ_le hC))) (fun p hp => ?_) ?_⟩
  · have zz : h₂.get? p.1 = some p.2 := hs₂.extBut _ _ (N' p hp).2.1 (N' p hp).1
    refine ⟨hs''.extBut _ _ ?_ zz, (N' p hp).2⟩
    rcases List.mem_cons.mp hp with rfl | hp
    · exact hDC
    · exact offs _ (Nat.le_of_succ_le hC) p hp
  · have key : ∀ nw : List (Addr × Obj), (∀ p ∈ nw, p.1 ≠ D) → LCg.Off1 D nw := by
      intro nw
      induction nw with
      | nil => intro _; trivial
      | cons p r ih => intro hh; exact ⟨hh p List.mem_cons_self, ih fun q hq => hh q (List.mem_cons_of_mem _ hq)⟩
    exact key news (offs _ (Nat.le_of_succ_le hD))
end
end Mine

-- D4
namespace Mine


noncomputable def toldTo (C : List Int) : Nat → List Int
  | 0 => []
  | i + 1 => toldTo C i ++ List.replicate (C.getD i 0).toNat (i : Int)
noncomputable def toldL (C : List Int) : List Int := toldTo C C.length

theorem nest_told {C : List Int} : ∀ {i : Nat} {ys : List Value}, nestTo (fun i v => ∃ t, v = .int (i : Int) t) (fun i => (C.getD i 0).toNat) i ys → Are repR ys (toldTo C i)
  | 0, ys, h => by unfold nestTo at h; subst h; exact Are.nil
  | i + 1, ys, h => by
    obtain ⟨zs, v, hz, ⟨t, rfl⟩, rfl⟩ := h
    have ih := nest_told hz
    unfold toldTo
    show Are repR (zs ++ List.replicate (C.getD i 0).toNat (Value.int (i : Int) t)) _
    generalize (C.getD i 0).toNat = k
    induction k with
    | zero => simpa using ih
    | succ k ih2 =>
      rw [List.replicate_succ', List.replicate_succ', ← List.append_assoc, ← List.append_assoc]
      exact ih2.push ⟨t, rfl⟩

/-- a map but for one name -/
noncomputable abbrev mapAt (x : Str) (iv : Option Value) (m : Str → Option Value) : Str → Option Value := fun y => if y = x then iv else m y
theorem mapAt_self (x : Str) (m : Str → Option Value) : m = mapAt x (m x) m := by
  funext y
  unfold mapAt
  by_cases h : y = x
  · rw [if_pos h, h]
  · rw [if_neg h]
theorem mapAt_twice (x : Str) (v : Value) (iv : Option Value) (m : Str → Option Value) : (fun y => if y = x then some v else mapAt x iv m y) = mapAt x (some v) m := by
  funext y
  unfold mapAt
  by_cases h : y = x
  · rw [if_pos h, if_pos h]
  · rw [if_neg h, if_neg h, if_neg h]

theorem toldTo_le (C : List Int) : ∀ i, ∀ a ∈ toldTo C i, a < (i : Int)
  | 0, a, h => by simp [toldTo] at h
  | i + 1, a, h => by
    unfold toldTo at h
    rcases List.mem_append.mp h with h | h
    · have := toldTo_le C i a h; omega
    · have := (List.mem_replicate.mp h).2; omega
theorem toldTo_sorted (C : List Int) : ∀ i, (toldTo C i).Pairwise (· ≤ ·)
  | 0 => List.Pairwise.nil
  | i + 1 => by
    unfold toldTo
    refine List.pairwise_append.mpr ⟨toldTo_sorted C i, ?_, fun a ha b hb => ?_⟩
    · generalize (C.getD i 0).toNat = k
      induction k with
      | zero => exact List.Pairwise.nil
      | succ k ih =>
        rw [List.replicate_succ]
        exact List.Pairwise.cons (fun a ha => by rw [(List.mem_replicate.mp ha).2]; exact Int.le_refl _) ih
    · have h1 := toldTo_le C i a ha
      have h2 := (List.mem_replicate.mp hb).2
      omega
theorem toldL_sorted (C : List Int) : (toldL C).Pairwise (· ≤ ·) := toldTo_sorted C _
theorem sorted_unique : ∀ {l₁ l₂ : List Int}, l₁.Perm l₂ → l₁.Pairwise (· ≤ ·) → l₂.Pairwise (· ≤ ·) → l₁ = l₂
  | [], l₂, hp, _, _ => (List.Perm.nil_eq hp)
  | a :: l₁, [], hp, _, _ => absurd hp.length_eq (by simp)
  | a :: l₁, b :: l₂, hp, h1, h2 => by
    have e : a = b := by
      have ha : a ∈ b :: l₂ := hp.subset List.mem_cons_self
      have hb : b ∈ a :: l₁ := hp.symm.subset List.mem_cons_self
      rcases List.mem_cons.mp ha with h | h
      · exact h
      · rcases List.mem_cons.mp hb with h' | h'
        · exact h'.symm
        · have q1 := (List.pairwise_cons.mp h1).1 b h'
          have q2 := (List.pairwise_cons.mp h2).1 a h
          omega
    subst e
    rw [sorted_unique (List.Perm.cons_inv hp) (List.pairwise_cons.mp h1).2 (List.pairwise_cons.mp h2).2]

theorem toldTo_mono (C : List Int) {i j : Nat} (h : i ≤ j) : (toldTo C i).length ≤ (toldTo C j).length := by
  induction h with
  | refl => exact Nat.le_refl _
  | step _ ih =>
    refine Nat.le_trans ih ?_
    conv => rhs; unfold toldTo
    rw [List.length_append]
    exact Nat.le_add_right _ _

theorem toldTo_succ_len (C : List Int) (i : Nat) : (toldTo C (i + 1)).length = (toldTo C i).length + (C.getD i 0).toNat := by
  show (toldTo C i ++ List.replicate (C.getD i 0).toNat (i : Int)).length = _
  rw [List.length_append, List.length_replicate]

open PySem.Calls in
theorem nameG_B {M : Model} {A : Around} {E : Value → Shared → Prop} {s : Shared} {h₀ : Heap} {L : Addr} {m : Str → Option Value} {env : Env} {K : Frag} {mg mb : Str → Option Value} {p : Program} {loose : List Str} {x : Str} {pos : Pos} {v : Value} {Q : Value → Shared → Prop} (F : Fr h₀ L s.heap m) (X : K.In h₀) (T : TopRead p loose mg mb h₀)
    (e : nsIn K mainGlobals x = some none) (hv : bootBuiltins x = some v) (hn : x ≠ "__name__") (h : Q v s) (hg : env.globals = mainGlobals) (hbn : env.builtins = builtinsNs) (hk : env.scope.kind = .function) (hx : env.kindOf x = some .globalImplicit) (hd : (x == ("__debug__" : Str)) = false) :
    wpAny M A (eval (.Name x pos) env) Q E s :=
  Name_function_global hk hx (loadGlobal_builtin (env := env) (by rw [hg]; exact T.g.keeps F.keep) (mg_none_of X T.g e) (by rw [hbn]; exact T.b.keeps F.keep) ((T.builtins x hn).trans hv) h) hd

theorem my_getL {prog : Program} {w : World} {A : Around} {E : Value → Shared → Prop} {s : Shared} {D : Addr} {vs : List Value} {k : Int} {t : Tok} {value slice : PySem.Expr} {v : Value} {Q : Value → Shared → Prop} {j : Nat} (hL : s.heap.IsList D vs.toArray) (e : k = (j : Int)) (hj : j < 1000) (hx : vs[j]? = some v) (h : Q v s)
    (hs : subscripted slice false (.ref D) (.int k t) = operate [.ref D, .int k t] (getItem (.ref D) (.int k t)) := by with_unfolding_all rfl) :
    wpAny (model prog w) A (subscriptTail value slice (.ref D) (.int k t)) Q E s := by
  subst e
  exact tail_any hL.typeIs slot_list_getitem.lookup (wpAny_getItem_list hL (Int.natCast_nonneg j) (ix_n hj) (by simpa using hx) h) hs
theorem sx_1 (i : Nat) : 1 + (i : Int) * 1 = ((i + 1 : Nat) : Int) := by rw [Int.mul_one, Int.add_comm]; rfl
theorem sx_2 (i : Nat) : (1 + (i : Int) * 1 - 1).fdiv 2 = ((i / 2 : Nat) : Int) := by
  rw [Int.mul_one, Int.add_comm, Int.add_sub_cancel]; exact (Int.ofNat_fdiv i 2).symm
theorem sx_size (n : Nat) : Builtin.Range.rangeSize 1 (n : Int) 1 = ((n - 1 : Nat) : Int) := by
  cases n with
  | zero => rfl
  | succ n => exact (range_size1 (Int.ofNat_le.mpr (Nat.succ_le_succ (Nat.zero_le n)))).trans (Int.add_sub_cancel (n : Int) 1)
theorem sx_small {n : Nat} (h : n < 1000) : Builtin.Range.small 1 n 1 = true := small_one (by decide) (by decide) (lo62 n) (hi62 (Nat.lt_trans h (by decide)))

theorem law_sound_ok {w : World} {mg mb : Str → Option Value} {b : Heap} {A : Around} {s : Shared} {Rr : Result → Shared → Prop} {d c : Addr} {vs cs : List Value} {n nc : Nat} {R C : List Int}
    (G : Gr w mg mb b) (hb : b.StaysIn s.heap) (hroom : Room 8 A) (hh : A.handled = none) (hd : s.heap.get? d = some (lst vs n)) (hc : s.heap.get? c = some (lst cs nc)) (hR : Are repR vs R) (hC : Are repR cs C) (hsm : R.length < 64) (hsmC : C.length < 999)
    (hheap : ∀ i, 1 ≤ i → i < R.length → R.getD ((i - 1) / 2) 0 ≤ R.getD i 0) (hC0 : ∀ i, i < C.length → 0 ≤ C.getD i 0) (hperm : (toldL C).Perm R) (hfix : hfR R = R) (hfix2 : hfR (toldL C) = toldL C)
    (k : ∀ s', Chg [] s s' → Rr (.ok (.ret (.bool true))) s') :
    codeAny (model Challenge.rw_mj0021_01.row.prog w) A (.call (.ref 94) ⟨[.ref d, .ref c], []⟩) Rr s := by
  have G' := G.kx
  revert G'
  k_fill
  intro G'
  refine' enterC (binds := [(Str.ofString "heap", .ref d), (Str.ofString "counts", .ref c)]) [] G hb ?h1 ?h2 ?ho ?hcd ?hr ?bi ?lo ?nd ?_ ?c1 ?c2 ?c3
  case h1 => simp
  case h2 => simp
  case ho => k_is
  case hcd => k_is
  case hr => exact Nat.lt_of_le_of_lt (Nat.le_add_right _ _) hroom.1
  case bi => exact BindsTo.of_eq rfl
  case lo => intro n x hx; simp only [List.mem_cons, List.not_mem_nil, or_false] at hx; rcases hx with rfl | rfl; exact .inl rfl; exact .inr ⟨rfl, rfl⟩
  case nd => decide
  case c1 => exact rfl
  case c2 => exact rfl
  case c3 => exact rfl
  intro g L h₁ tk0 cells G₁ hg F' N' Y hDL
  have KX := G₁.kx
  have T' := G₁.top
  refine gen_goal fun QQ hQQ => ?_
  have hb2 : b.StaysIn g := fun a o e => hg a o (by simp) (hb a o e)
  have Y1 := CellsAre.one Y
  obtain ⟨oY, hE, dY⟩ := Y1
  subst hE
  clear Y
  replace dY : oY.data = .cell (some (.ref c)) := dY
  replace N' : News g L h₁ [(L + 1, oY)] := N'
  have gd : g.IsList d vs.toArray := PySem.IsL.isList (n := n) (hg _ _ (by simp) hd)
  have gc : g.IsList c cs.toArray := PySem.IsL.isList (n := nc) (hg _ _ (by simp) hc)
  have ld : vs.length < 64 := by rw [hR.len]; exact hsm
  have lc : cs.length < 999 := by rw [hC.len]; exact hsmC
  have id' := are_ints hR
  have ic := are_ints hC
  (repeat' (first | (k_unfold; (try dsimp only)) | ((fail_if_success (with_reducible show wpAny _ _ (exec (Stmt.While _ _ _ _) _) _ _ _)); (fail_if_success (with_reducible show wpAny _ _ (exec (Stmt.For _ _ _ _ _) _) _ _ _)); (fail_if_success (with_reducible show wpAny _ _ (call (Value.ref _) _) _ _ _)); (fail_if_success (with_reducible show wpAny _ _ (compareOp _ (Value.ref _) (Value.ref _)) _ _ _)); (fail_if_success (with_reducible show wpAny _ _ (exec (Stmt.Assign _ (Expr.ListComp _ _ _ _) _) _) _ _ _)); (fail_if_success (with_reducible show wpAny _ _ (eval (Expr.ListComp _ _ _ _) _) _ _ _)); (first | walk1 | (dsimp only; walk1)); (try dsimp only)) | fail "no step"))
  refine For_invV g rfl rfl ?_
  (repeat' (first | (k_unfold; (try dsimp only)) | ((fail_if_success (with_reducible show wpAny _ _ (exec (Stmt.While _ _ _ _) _) _ _ _)); (fail_if_success (with_reducible show wpAny _ _ (exec (Stmt.For _ _ _ _ _) _) _ _ _)); (fail_if_success (with_reducible show wpAny _ _ (call (Value.ref _) _) _ _ _)); (fail_if_success (with_reducible show wpAny _ _ (compareOp _ (Value.ref _) (Value.ref _)) _ _ _)); (fail_if_success (with_reducible show wpAny _ _ (exec (Stmt.Assign _ (Expr.ListComp _ _ _ _) _) _) _ _ _)); (fail_if_success (with_reducible show wpAny _ _ (eval (Expr.ListComp _ _ _ _) _) _ _ _)); (first | walk1 | (dsimp only; walk1)); (try dsimp only)) | fail "no step"))
  rename_i h2 tk2 t1 t2 t3 hr F2 N2 _
  refine wpAny_pyIter_range hr (sx_small (Nat.lt_trans hsm (by decide))) ?_
  rw [sx_size]
  have up : ∀ b o, h2.get? b = some o → (h2.push { cls := .type "range_iterator", data := .fields #[rawInt 1, rawInt ((R.length - 1 : Nat) : Int), rawInt 1] }).get? b = some o := fun b o e => Heap.get?_push_of_some _ e
  refine loop_range (a := 1) (c := 1) (n := R.length - 1) (fun i m nw => nw = [(L + 1, oY)] ∧ ∃ iv, m = mapAt (Str.ofString "i") iv _) hh (Heap.get?_push_size _ rfl) (F2.keeps up) (N2.grown up) (Nat.ne_of_gt F2.ns.lt) (next_is_new F2) (fun p hp => Nat.ne_of_lt (Heap.lt_size (N2 p hp).1)) ⟨rfl, _, mapAt_self _ _⟩ ?_ ?_
  · rintro i tv m₁ news₁ h tk oI hi ⟨rfl, iv, rfl⟩ off F3 N3
    rw [mapAt_twice] at F3
    have hi1 : i + 1 < R.length := Nat.add_lt_of_lt_sub hi
    have hi2 : i / 2 < R.length := Nat.lt_of_le_of_lt (Nat.div_le_self _ _) (Nat.lt_of_succ_lt hi1)
    obtain ⟨w1, hw1, tq1, rfl⟩ := hR.get (List.getElem?_eq_getElem hi1)
    obtain ⟨w2, hw2, tq2, rfl⟩ := hR.get (List.getElem?_eq_getElem hi2)
    clear F2 N2 hr
    have hpar := hheap (i + 1) (Nat.le_add_left _ _) hi1
    have p1 : R.getD (i + 1) 0 = R[i + 1] := by simp [List.getD, List.getElem?_eq_getElem hi1]
    have p2 : R.getD ((i + 1 - 1) / 2) 0 = R[i / 2] := by simp [List.getD, List.getElem?_eq_getElem hi2]
    rw [p1, p2] at hpar
    have gdh : h.IsList d vs.toArray := gd.at fun o e => F3.keep _ o e
    (repeat' (first | (k_unfold; (try dsimp only)) | ((fail_if_success (with_reducible show wpAny _ _ (subscriptTail _ _ (Value.ref _) (Value.int _ _)) _ _ _)); (fail_if_success (with_reducible show wpAny _ _ (exec (Stmt.While _ _ _ _) _) _ _ _)); (fail_if_success (with_reducible show wpAny _ _ (exec (Stmt.For _ _ _ _ _) _) _ _ _)); (fail_if_success (with_reducible show wpAny _ _ (call (Value.ref _) _) _ _ _)); (fail_if_success (with_reducible show wpAny _ _ (compareOp _ (Value.ref _) (Value.ref _)) _ _ _)); (fail_if_success (with_reducible show wpAny _ _ (exec (Stmt.Assign _ (Expr.ListComp _ _ _ _) _) _) _ _ _)); (fail_if_success (with_reducible show wpAny _ _ (eval (Expr.ListComp _ _ _ _) _) _ _ _)); (first | walk1 | (dsimp only; walk1)); (try dsimp only)) | fail "no step"))
    refine my_getL gdh (sx_1 i) (Nat.lt_trans hi1 (Nat.lt_trans hsm (by decide))) hw1 ?_ (by with_unfolding_all rfl)
    (repeat' (first | (k_unfold; (try dsimp only)) | ((fail_if_success (with_reducible show wpAny _ _ (subscriptTail _ _ (Value.ref _) (Value.int _ _)) _ _ _)); (fail_if_success (with_reducible show wpAny _ _ (exec (Stmt.While _ _ _ _) _) _ _ _)); (fail_if_success (with_reducible show wpAny _ _ (exec (Stmt.For _ _ _ _ _) _) _ _ _)); (fail_if_success (with_reducible show wpAny _ _ (call (Value.ref _) _) _ _ _)); (fail_if_success (with_reducible show wpAny _ _ (compareOp _ (Value.ref _) (Value.ref _)) _ _ _)); (fail_if_success (with_reducible show wpAny _ _ (exec (Stmt.Assign _ (Expr.ListComp _ _ _ _) _) _) _ _ _)); (fail_if_success (with_reducible show wpAny _ _ (eval (Expr.ListComp _ _ _ _) _) _ _ _)); (first | walk1 | (dsimp only; walk1)); (try dsimp only)) | fail "no step"))
    refine my_getL gdh (sx_2 i) (Nat.lt_trans hi2 (Nat.lt_trans hsm (by decide))) hw2 ?_ (by with_unfolding_all rfl)
    (repeat' (first | (k_unfold; (try dsimp only)) | ((fail_if_success (with_reducible show wpAny _ _ (subscriptTail _ _ (Value.ref _) (Value.int _ _)) _ _ _)); (fail_if_success (with_reducible show wpAny _ _ (exec (Stmt.While _ _ _ _) _) _ _ _)); (fail_if_success (with_reducible show wpAny _ _ (exec (Stmt.For _ _ _ _ _) _) _ _ _)); (fail_if_success (with_reducible show wpAny _ _ (call (Value.ref _) _) _ _ _)); (fail_if_success (with_reducible show wpAny _ _ (compareOp _ (Value.ref _) (Value.ref _)) _ _ _)); (fail_if_success (with_reducible show wpAny _ _ (exec (Stmt.Assign _ (Expr.ListComp _ _ _ _) _) _) _ _ _)); (fail_if_success (with_reducible show wpAny _ _ (eval (Expr.ListComp _ _ _ _) _) _ _ _)); (first | walk1 | (dsimp only; walk1)); (try dsimp only)) | fail "no step"))
    exact TurnEnd.next F3 N3 off ⟨rfl, _, rfl⟩
  · rintro m' news' h tk ⟨rfl, iv, rfl⟩ F3 N3
    clear F2 N2 hr
    dsimp only
    (repeat' (first | (k_unfold; (try dsimp only)) | ((fail_if_success (with_reducible show wpAny _ _ (exec (Stmt.While _ _ _ _) _) _ _ _)); (fail_if_success (with_reducible show wpAny _ _ (exec (Stmt.For _ _ _ _ _) _) _ _ _)); (fail_if_success (with_reducible show wpAny _ _ (call (Value.ref _) _) _ _ _)); (fail_if_success (with_reducible show wpAny _ _ (compareOp _ (Value.ref _) (Value.ref _)) _ _ _)); (fail_if_success (with_reducible show wpAny _ _ (exec (Stmt.Assign _ (Expr.ListComp _ _ _ _) _) _) _ _ _)); (fail_if_success (with_reducible show wpAny _ _ (eval (Expr.ListComp _ _ _ _) _) _ _ _)); (first | walk1 | (dsimp only; walk1)); (try dsimp only)) | fail "no step"))
    rename_i Da ca x1 x2 x3 x4 x5 x6 Dr rs nr cr h4b hIr hler hpr hsr _ _ lt4 h6 F6 N6
    have hnr : nr = toldL C := sorted_unique (hpr.trans hperm.symm) hsr (toldL_sorted C)
    subst hnr
    have hlenT : (toldL C).length = R.length := hperm.length_eq
    refine Assign_nest (F₀ := F6) (by rfl) (by with_unfolding_all rfl) (by with_unfolding_all rfl) (by decide) (by rfl) (by decide) (by rfl) (by rfl) (by decide) (by decide) (by rfl) (by rfl) ?_
    (repeat' (first | (k_unfold; (try dsimp only)) | ((fail_if_success (with_reducible show wpAny _ _ (exec (Stmt.While _ _ _ _) _) _ _ _)); (fail_if_success (with_reducible show wpAny _ _ (exec (Stmt.For _ _ _ _ _) _) _ _ _)); (fail_if_success (with_reducible show wpAny _ _ (call (Value.ref _) _) _ _ _)); (fail_if_success (with_reducible show wpAny _ _ (compareOp _ (Value.ref _) (Value.ref _)) _ _ _)); (fail_if_success (with_reducible show wpAny _ _ (exec (Stmt.Assign _ (Expr.ListComp _ _ _ _) _) _) _ _ _)); (fail_if_success (with_reducible show wpAny _ _ (eval (Expr.ListComp _ _ _ _) _) _ _ _)); (first | walk1 | (dsimp only; walk1)); (try dsimp only)) | fail "no step"))
    rename_i h7 tk7 t1 t2 t3 hr F7 N7 _
    refine ⟨_, C.length, t1, t2, t3, _, fun i => (C.getD i 0).toNat, rfl, hh, hr, by omega, F7, N7, ?_, ?_, fun _ _ => rfl, ?_, ?_⟩
    · intro i ys hi hn
      have := (nest_told hn).len
      have hle : (toldTo C i).length ≤ (toldTo C C.length).length := toldTo_mono C hi
      have e : (toldTo C C.length).length = R.length := hlenT
      rw [sizeLine_eq]
      exact Nat.le_trans (Nat.le_of_eq this) (Nat.le_trans hle (Nat.le_trans (Nat.le_of_eq e) (Nat.le_trans (Nat.le_of_lt hsm) (by decide))))
    · intro i hi
      have hle : (toldTo C (i + 1)).length ≤ (toldTo C C.length).length := toldTo_mono C hi
      have e : (toldTo C C.length).length = R.length := hlenT
      have e2 := toldTo_succ_len C i
      show (C.getD i 0).toNat < 1000000
      omega
    · intro Cc i t oC m₂ h tk E' hi hCc hxm Fe Ne
      have hC0i := hC0 i hi
      have hil : i < cs.length := by rw [hC.len]; exact hi
      clear F7 N7 hr
      have Fh := And.intro Fe Ne
      (repeat' (first | (k_unfold; (try dsimp only)) | ((fail_if_success (with_reducible show wpAny _ _ (exec (Stmt.While _ _ _ _) _) _ _ _)); (fail_if_success (with_reducible show wpAny _ _ (exec (Stmt.For _ _ _ _ _) _) _ _ _)); (fail_if_success (with_reducible show wpAny _ _ (call (Value.ref _) _) _ _ _)); (fail_if_success (with_reducible show wpAny _ _ (compareOp _ (Value.ref _) (Value.ref _)) _ _ _)); (fail_if_success (with_reducible show wpAny _ _ (exec (Stmt.Assign _ (Expr.ListComp _ _ _ _) _) _) _ _ _)); (fail_if_success (with_reducible show wpAny _ _ (eval (Expr.ListComp _ _ _ _) _) _ _ _)); (first | walk1 | (dsimp only; walk1)); (try dsimp only)) | fail "no step"))
      refine nameG_B Fh.1 KX T' (by k_is) PyProof.Rows.boot_range (by decide) ?_ rfl rfl rfl rfl (by decide)
      (repeat' (first | (k_unfold; (try dsimp only)) | ((fail_if_success (with_reducible show wpAny _ _ (exec (Stmt.While _ _ _ _) _) _ _ _)); (fail_if_success (with_reducible show wpAny _ _ (exec (Stmt.For _ _ _ _ _) _) _ _ _)); (fail_if_success (with_reducible show wpAny _ _ (call (Value.ref _) _) _ _ _)); (fail_if_success (with_reducible show wpAny _ _ (compareOp _ (Value.ref _) (Value.ref _)) _ _ _)); (fail_if_success (with_reducible show wpAny _ _ (exec (Stmt.Assign _ (Expr.ListComp _ _ _ _) _) _) _ _ _)); (fail_if_success (with_reducible show wpAny _ _ (eval (Expr.ListComp _ _ _ _) _) _ _ _)); (first | walk1 | (dsimp only; walk1)); (try dsimp only)) | fail "no step"))
      rename_i h9 tk9 t9 u9 v9 hr9 F9 N9 hk9
      refine ⟨_, h9, _, t9, u9, v9, rfl, rfl, hk9, ?_⟩
      rw [Int.toNat_natCast] at hr9
      show IsRange _ _ 0 (((C.getD i 0).toNat : Nat) : Int) 1 _ _ _
      rw [Int.toNat_of_nonneg hC0i]
      exact hr9
    · intro ys hys D8 h8 tk8 F8 N8 off8
      have ht := nest_told hys
      clear F7 N7 hr
      dsimp only
      (repeat' (first | (k_unfold; (try dsimp only)) | ((fail_if_success (with_reducible show wpAny _ _ (exec (Stmt.While _ _ _ _) _) _ _ _)); (fail_if_success (with_reducible show wpAny _ _ (exec (Stmt.For _ _ _ _ _) _) _ _ _)); (fail_if_success (with_reducible show wpAny _ _ (call (Value.ref _) _) _ _ _)); (fail_if_success (with_reducible show wpAny _ _ (compareOp _ (Value.ref _) (Value.ref _)) _ _ _)); (fail_if_success (with_reducible show wpAny _ _ (exec (Stmt.Assign _ (Expr.ListComp _ _ _ _) _) _) _ _ _)); (fail_if_success (with_reducible show wpAny _ _ (eval (Expr.ListComp _ _ _ _) _) _ _ _)); (first | walk1 | (dsimp only; walk1)); (try dsimp only)) | fail "no step"))
      have iD8 : h8.IsList D8 ys.toArray := PySem.IsL.isList (N8 (D8, LCg.lst ys) (.head _)).1
      have iDr : h8.IsList Dr rs.toArray := PySem.IsL.isList (N8 (Dr, W.listOf rs.toArray cr) (.tail _ (.head _))).1
      refine ke_ne_ints iDr iD8 hIr (are_ints ht) ?_ ?_
      · exact hroom.units (k := 67) (by decide)
      rw [show (!decide (toldL C = toldTo C C.length)) = false from by rw [show toldL C = toldTo C C.length from rfl, decide_eq_true rfl]; rfl]
      (repeat' (first | (k_unfold; (try dsimp only)) | ((fail_if_success (with_reducible show wpAny _ _ (exec (Stmt.While _ _ _ _) _) _ _ _)); (fail_if_success (with_reducible show wpAny _ _ (exec (Stmt.For _ _ _ _ _) _) _ _ _)); (fail_if_success (with_reducible show wpAny _ _ (call (Value.ref _) _) _ _ _)); (fail_if_success (with_reducible show wpAny _ _ (compareOp _ (Value.ref _) (Value.ref _)) _ _ _)); (fail_if_success (with_reducible show wpAny _ _ (exec (Stmt.Assign _ (Expr.ListComp _ _ _ _) _) _) _ _ _)); (fail_if_success (with_reducible show wpAny _ _ (eval (Expr.ListComp _ _ _ _) _) _ _ _)); (first | walk1 | (dsimp only; walk1)); (try dsimp only)) | fail "no step"))
      have lt3 : L + 1 < Da := by omega
      simp only [LCg.Off1, and_true] at off8
      have Na : News g L h8 [(Da, lst vs ca), (Dr, lst rs cr), (D8, LCg.lst ys), (L + 1, oY)] := fun p hp => N8 p (by
        simp only [List.mem_cons, List.not_mem_nil, or_false] at hp ⊢
        rcases hp with h | h | h | h <;> simp [h])
      refine wpAny_call (heapify_ok (d := Da) (R := R) G₁ F8.keep (Na _ (List.Mem.head _)).2.2 (Na _ (List.Mem.head _)).1 (hroom.call (by decide)) hh ltR hR (Nat.lt_trans hsm (by decide)) fun s' vs' hch hls hRs => ?_)
      obtain ⟨h10, tk10, rfl, hk10⟩ := hch
      rw [hfix] at hRs
      have F10 := fr_chg F8 (fun q hq => by rw [List.mem_singleton.mp hq]; exact (Na _ (List.Mem.head _)).2.symm) hk10
      have N10 := news_upd Na (.head (by
        intro p hp
        simp only [List.mem_cons, List.not_mem_nil, or_false] at hp
        rcases hp with rfl | rfl | rfl
        · exact Nat.ne_of_gt lt4.1
        · exact Ne.symm off8.2.1
        · exact Nat.ne_of_lt lt3)) hk10 hls
      clear F8 N8 Na
      dsimp only
      (repeat' (first | (k_unfold; (try dsimp only)) | ((fail_if_success (with_reducible show wpAny _ _ (exec (Stmt.While _ _ _ _) _) _ _ _)); (fail_if_success (with_reducible show wpAny _ _ (exec (Stmt.For _ _ _ _ _) _) _ _ _)); (fail_if_success (with_reducible show wpAny _ _ (call (Value.ref _) _) _ _ _)); (fail_if_success (with_reducible show wpAny _ _ (compareOp _ (Value.ref _) (Value.ref _)) _ _ _)); (fail_if_success (with_reducible show wpAny _ _ (exec (Stmt.Assign _ (Expr.ListComp _ _ _ _) _) _) _ _ _)); (fail_if_success (with_reducible show wpAny _ _ (eval (Expr.ListComp _ _ _ _) _) _ _ _)); (first | walk1 | (dsimp only; walk1)); (try dsimp only)) | fail "no step"))
      have iDa : h10.IsList Da vs'.toArray := PySem.IsL.isList (N10 _ (List.Mem.head _)).1
      refine ke_ne_ints iDa (by exact gd.at fun o e => F10.keep _ o e) (are_ints hRs) id' ?_ ?_
      · exact hroom.units (k := 67) (by decide)
      rw [show (!decide (R = R)) = false from by rw [decide_eq_true rfl]; rfl]
      (repeat' (first | (k_unfold; (try dsimp only)) | ((fail_if_success (with_reducible show wpAny _ _ (exec (Stmt.While _ _ _ _) _) _ _ _)); (fail_if_success (with_reducible show wpAny _ _ (exec (Stmt.For _ _ _ _ _) _) _ _ _)); (fail_if_success (with_reducible show wpAny _ _ (call (Value.ref _) _) _ _ _)); (fail_if_success (with_reducible show wpAny _ _ (compareOp _ (Value.ref _) (Value.ref _)) _ _ _)); (fail_if_success (with_reducible show wpAny _ _ (exec (Stmt.Assign _ (Expr.ListComp _ _ _ _) _) _) _ _ _)); (fail_if_success (with_reducible show wpAny _ _ (eval (Expr.ListComp _ _ _ _) _) _ _ _)); (first | walk1 | (dsimp only; walk1)); (try dsimp only)) | fail "no step"))
      have Nr : News g L h10 [(Dr, lst rs cr), (D8, LCg.lst ys)] := fun p hp => N10 p (by
        simp only [List.mem_cons, List.not_mem_nil, or_false] at hp ⊢
        rcases hp with h | h <;> simp [h])
      refine wpAny_call (heapify_ok (d := Dr) (R := toldL C) G₁ F10.keep (Nr _ (List.Mem.head _)).2.2 (Nr _ (List.Mem.head _)).1 (hroom.call (by decide)) hh ltR (ints_are hIr) (by rw [hlenT]; exact Nat.lt_trans hsm (by decide)) fun s' rs' hch hls hRs => ?_)
      obtain ⟨h11, tk11, rfl, hk11⟩ := hch
      rw [hfix2] at hRs
      have F11 := fr_chg F10 (fun q hq => by rw [List.mem_singleton.mp hq]; exact (Nr _ (List.Mem.head _)).2.symm) hk11
      have N11 := news_upd Nr (.head (by
        intro p hp
        simp only [List.mem_cons, List.not_mem_nil, or_false] at hp
        rcases hp with rfl
        exact Ne.symm off8.1)) hk11 hls
      clear F10 N10 Nr
      dsimp only
      (repeat' (first | (k_unfold; (try dsimp only)) | ((fail_if_success (with_reducible show wpAny _ _ (exec (Stmt.While _ _ _ _) _) _ _ _)); (fail_if_success (with_reducible show wpAny _ _ (exec (Stmt.For _ _ _ _ _) _) _ _ _)); (fail_if_success (with_reducible show wpAny _ _ (call (Value.ref _) _) _ _ _)); (fail_if_success (with_reducible show wpAny _ _ (compareOp _ (Value.ref _) (Value.ref _)) _ _ _)); (fail_if_success (with_reducible show wpAny _ _ (exec (Stmt.Assign _ (Expr.ListComp _ _ _ _) _) _) _ _ _)); (fail_if_success (with_reducible show wpAny _ _ (eval (Expr.ListComp _ _ _ _) _) _ _ _)); (first | walk1 | (dsimp only; walk1)); (try dsimp only)) | fail "no step"))
      have iDr2 : h11.IsList Dr rs'.toArray := PySem.IsL.isList (N11 _ (List.Mem.head _)).1
      have iD82 : h11.IsList D8 ys.toArray := PySem.IsL.isList (N11 _ (.tail _ (.head _))).1
      refine ke_eq_ints iDr2 iD82 (are_ints hRs) (are_ints ht) ?_ ?_
      · exact hroom.units (k := 67) (by decide)
      rw [show (decide (toldL C = toldTo C C.length)) = true from by rw [show toldL C = toldTo C C.length from rfl, decide_eq_true rfl]]
      (repeat' (first | (k_unfold; (try dsimp only)) | ((fail_if_success (with_reducible show wpAny _ _ (exec (Stmt.While _ _ _ _) _) _ _ _)); (fail_if_success (with_reducible show wpAny _ _ (exec (Stmt.For _ _ _ _ _) _) _ _ _)); (fail_if_success (with_reducible show wpAny _ _ (call (Value.ref _) _) _ _ _)); (fail_if_success (with_reducible show wpAny _ _ (compareOp _ (Value.ref _) (Value.ref _)) _ _ _)); (fail_if_success (with_reducible show wpAny _ _ (exec (Stmt.Assign _ (Expr.ListComp _ _ _ _) _) _) _ _ _)); (fail_if_success (with_reducible show wpAny _ _ (eval (Expr.ListComp _ _ _ _) _) _ _ _)); (first | walk1 | (dsimp only; walk1)); (try dsimp only)) | fail "no step"))
      exact hQQ _ _ (k _ (by exact chg_end hg F11))
end Mine

-- D5
namespace Mine


theorem ns_slots {h h' : Heap} {L : Addr} {m : Str → Option Value} (n : h.Ns L m) (k : ∀ o, h.get? L = some o → ∃ sl, h'.get? L = some { o with slots := sl }) : h'.Ns L m := by
  obtain ⟨o, es, ep, e, hd, r⟩ := n
  obtain ⟨sl, e'⟩ := k o e
  exact ⟨_, es, ep, e', hd, r⟩
theorem fr_chgF {g h h' : Heap} {L : Addr} {m : Str → Option Value} {D fs : List Addr} (F : Fr g L h m) (hD : ∀ d ∈ D, g.get? d = none ∧ d ≠ L) (hfs : ∀ f ∈ fs, g.get? f = none)
    (k1 : ∀ a o, a ∉ D → a ∉ fs → h.get? a = some o → h'.get? a = some o) (k2 : ∀ a o, a ∉ D → a ∈ fs → h.get? a = some o → ∃ sl, h'.get? a = some { o with slots := sl }) : Fr g L h' m := by
  have hL : L ∉ D := fun q => (hD L q).2 rfl
  refine ⟨ns_slots F.ns fun o e => ?_, fun a o e => k1 a o (fun q => by rw [(hD a q).1] at e; cases e) (fun q => by rw [hfs a q] at e; cases e) (F.keep a o e), F.above⟩
  by_cases q : L ∈ fs
  · exact k2 L o hL q e
  · exact ⟨o.slots, k1 L o hL q e⟩
theorem pair_apart {h : Heap} {p d : Addr} {a b : Int} {o : Obj} (hp : IsPair h p a b) (hd : h.get? d = some o) (ho : o.cls ≠ .type "tuple" ∨ ∀ vs n, o.data ≠ .seq vs n) : p ≠ d := by
  rintro rfl
  obtain ⟨o', n, t, u, e, c, q⟩ := hp
  rw [hd] at e; cases e
  rcases ho with ho | ho
  · exact ho c
  · exact ho _ _ q
theorem IsPair.hide {h : Heap} {p : Addr} {a b : Int} {D : List Addr} (hp : IsPair h p a b) (hn : p ∉ D) : IsPair (hideAll h D) p a b := by
  obtain ⟨o, n, t, u, e, r⟩ := hp
  exact ⟨o, n, t, u, hideAll_get _ e hn, r⟩
/-- no pair lies at these addresses -/
noncomputable def NotPairs (h : Heap) (D : List Addr) : Prop := ∀ d ∈ D, ∃ o, h.get? d = some o ∧ (o.cls ≠ .type "tuple" ∨ ∀ vs n, o.data ≠ .seq vs n)
theorem repP_hide {h : Heap} {D : List Addr} (hD : NotPairs h D) {v : Value} {r : Int} (x : repP h v r) : repP (hideAll h D) v r := by
  obtain ⟨p, e, hp⟩ := x
  refine ⟨p, e, hp.hide fun q => ?_⟩
  obtain ⟨o, ho, hno⟩ := hD p q
  exact pair_apart hp ho hno rfl
theorem lst_notpair (vs : List Value) (n : Nat) : (lst vs n).cls ≠ .type "tuple" ∨ ∀ ws k, (lst vs n).data ≠ .seq ws k := .inl (by intro q; simp at q)

theorem frs3 {e0 er el : Env} {L Lr Ll : Addr} (h0 : e0.frame = some L) (h1 : er.frame = some Lr) (h2 : el.frame = some Ll) : frsOf [e0, er, el] = [L, Lr, Ll] := by simp [frsOf, h0, h1, h2]
theorem frok3 {A : Around} {e0 er el : Env} {L Lr Ll : Addr} {h : Heap} {m : Str → Option Value} {oR oL : Obj} (hfr : A.frames = some [er, el]) (h0 : e0.frame = some L) (h1 : er.frame = some Lr) (h2 : el.frame = some Ll)
    (k0 : e0.scope.kind ≠ .module) (k1 : er.scope.kind ≠ .module) (k2 : el.scope.kind ≠ .module) (hn : h.Ns L m) (eR : h.get? Lr = some oR) (eL : h.get? Ll = some oL) (dR : ∃ es n, oR.data = .dict es n) (dL : ∃ es n, oL.data = .dict es n) :
    FrOK (A.deeper e0) [e0, er, el] h := by
  refine ⟨Around.frames_deeper hfr, ?_⟩
  rw [frs3 h0 h1 h2]
  obtain ⟨es, n, dR⟩ := dR
  obtain ⟨es', n', dL⟩ := dL
  refine .cons k0 h0 hn (hideAll_none _ (by simp)) ⟨k1, ⟨Lr, oR, h1, hideAll_none _ (by simp), eR, fun vs q => by rw [dR] at q; cases q⟩, ⟨k2, ⟨Ll, oL, h2, hideAll_none _ (by simp), eL, fun vs q => by rw [dL] at q; cases q⟩, trivial⟩⟩

/-- the pairs of these values that the base does not hold -/
noncomputable def pairsOf (g h : Heap) (ws : List Value) : List (Addr × Obj) := ws.filterMap fun v => match v with
  | .ref p => if (g.get? p).isNone then (h.get? p).map fun o => (p, o) else none
  | _ => none
theorem pairsOf_mem {g h : Heap} {ws : List Value} {q : Addr × Obj} (hq : q ∈ pairsOf g h ws) : Value.ref q.1 ∈ ws ∧ g.get? q.1 = none ∧ h.get? q.1 = some q.2 := by
  obtain ⟨v, hv, e⟩ := List.mem_filterMap.mp hq
  split at e
  · rename_i p
    split at e
    · rename_i hn
      obtain ⟨o, eo, rfl⟩ := Option.map_eq_some_iff.mp e
      exact ⟨hv, by simpa using hn, eo⟩
    · cases e
  · cases e
theorem mem_pairsOf {g h : Heap} {ws : List Value} {p : Addr} {o : Obj} (hv : Value.ref p ∈ ws) (hg : g.get? p = none) (ho : h.get? p = some o) : (p, o) ∈ pairsOf g h ws :=
  List.mem_filterMap.mpr ⟨_, hv, by simp [hg, ho]⟩
theorem repP_end {g h h' : Heap} {L : Addr} {m m' : Str → Option Value} {ws : List Value} (F : Fr g L h m) (F' : Fr g L h' m') (N : News g L h' (pairsOf g h ws)) {v : Value} {r : Int} (hv : v ∈ ws) (x : repP h v r) : repP h' v r := by
  obtain ⟨p, rfl, o, n, t, u, e, rest⟩ := x
  refine ⟨p, rfl, o, n, t, u, ?_, rest⟩
  cases q : g.get? p with
  | some o' =>
    have := F.keep p o' q
    rw [e] at this; cases this
    exact F'.keep p o q
  | none => exact (N _ (mem_pairsOf hv q e)).1
theorem Are.all {rep : Value → Int → Prop} {vs : List Value} {R : List Int} (h : Are rep vs R) : ∀ v ∈ vs, ∃ r, rep v r := fun v hv => by
  obtain ⟨i, hi⟩ := List.getElem?_of_mem hv
  have hl := (List.getElem?_eq_some_iff.mp hi).1
  exact ⟨_, h.at' i v (R[i]'(by rw [← h.len]; exact hl)) hi (List.getElem?_eq_getElem _)⟩
theorem pairs_news {g h : Heap} {L : Addr} {m : Str → Option Value} {ws : List Value} (F : Fr g L h m) (hall : ∀ v ∈ ws, ∃ r, repP h v r) : News g L h (pairsOf g h ws) := fun q hq => by
  obtain ⟨q1, q2, q3⟩ := pairsOf_mem hq
  refine ⟨q3, ?_, q2⟩
  obtain ⟨r, p, e, hp⟩ := hall _ q1
  cases e
  obtain ⟨oL, es, ep, eL, dL, _⟩ := F.ns
  exact pair_apart hp eL (.inr fun vs n q => by rw [dL] at q; cases q)
theorem are_end {g h h' : Heap} {L : Addr} {m m' : Str → Option Value} {ws zs : List Value} {R : List Int} (F : Fr g L h m) (F' : Fr g L h' m') (N : News g L h' (pairsOf g h ws)) (hz : ∀ v ∈ zs, v ∈ ws) (x : Are (repP h) zs R) : Are (repP h') zs R :=
  ⟨x.len, fun i v r hv hr => repP_end F F' N (hz v (List.mem_of_getElem? hv)) (x.at' i v r hv hr)⟩

theorem eq_pair_one {w : World} {A : Around} {E : Value → Shared → Prop} {s : Shared} {p q : Addr} {r : Int} {Q : Value → Shared → Prop} (hp : IsPair s.heap p (r.fdiv 4) (r.fmod 4)) (hq : IsPair s.heap q (r.fdiv 4) (r.fmod 4)) (hu : A.units + 64 < cLine) (h : Q (.bool true) s) :
    wpAny (model Pg w) A (compareOp .Eq (.ref p) (.ref q)) Q E s := by
  obtain ⟨o, n, t, u, e, c, d⟩ := hp
  obtain ⟨o', n', t', u', e', c', d'⟩ := hq
  have sh : SeqAt.shaped (pairD r) = true := by simp [SeqAt.shaped, pairD, PyData.canLay0, PyData.canLayAll0, PyData.depth, PyData.depthAll]
  refine eq_dataH (da := pairD r) (db := pairD r) (reads_tuple_at e c d (readsAll_cons_val (.int _ _) (readsAll_cons_val (.int _ _) .nil))) (reads_tuple_at e' c' d' (readsAll_cons_val (.int _ _) (readsAll_cons_val (.int _ _) .nil))) sh sh hu ?_
  rw [show PyData.eqv (pairD r) (pairD r) = true from by simp [PyData.eqv, PyData.eqvAll, pairD]]
  exact h

theorem my_getMethod {w : World} {A : Around} {E : Value → Shared → Prop} {s : Shared} {d : Addr} {kvs : List (Int × Value)} {pl : Sem Bool} {Q : Value × List Value → Shared → Prop} (hD : s.heap.DictOf (intKind Pg w) d kvs) (h : Q (.builtin "dict.get", [.ref d]) s) :
    wpAny (model Pg w) A (getMethod (.ref d) "get" pl) Q E s :=
  getMethod_builtin hD.typeIs PySem.F.plainAttrs_dict PySem.F.slot_dict_get PySem.F.type_dict_get hD.mapOf.noDict h
theorem my_get1 {w : World} {A : Around} {E : Value → Shared → Prop} {s : Shared} {d : Addr} {kvs : List (Int × Value)} {k : Int} {t : Tok} {v : Value} {Q : Value → Shared → Prop} (hD : s.heap.DictOf (intKind Pg w) d kvs) (lo : (d == sysModules) = false) (hl : valueAt kvs k = some v) (h : Q v { s with toks := s.toks + 1 }) :
    wpAny (model Pg w) A (call (.builtin "dict.get") [.ref d, .int k t]) Q E s :=
  call_meetsIn PySem.F.slot_dict_get hD.typeIs PySem.F.entry_dict_get (PySem.F.args_dict_get_2 _ _) (meets_dict_get (intKind Pg w) d (k := k) (by simp [intKind, Value.isInt]) lo) ⟨_, hD.mapOf, by rw [hl]; exact h⟩

theorem law_answers_ok {w : World} {mg mb : Str → Option Value} {b : Heap} {A : Around} {s : Shared} {Rr : Result → Shared → Prop} {H K d1 d2 d3 Lr Ll : Addr} {v1 v2 v3 : List Value} {nH n1 n2 n3 : Nat} {oR oL : Obj} {er el : Env} {R : List Int} {rk : List (Int × Int)} {kind a x : Int} {tk ta tx : Tok}
    (G : Gr w mg mb b) (hb : b.StaysIn s.heap) (hroom : Room 12 A) (hh : A.handled = none)
    (hfr : A.frames = some [er, el]) (hfe : er.frame = some Lr) (hfl : el.frame = some Ll) (hke : er.scope.kind ≠ .module) (hkl : el.scope.kind ≠ .module)
    (hR0 : s.heap.get? Lr = some oR) (hL0 : s.heap.get? Ll = some oL) (hRd : ∃ es n, oR.data = .dict es n) (hLd : ∃ es n, oL.data = .dict es n)
    (hbR : b.get? Lr = none) (hbL : b.get? Ll = none) (hb1 : b.get? d1 = none) (hb2 : b.get? d2 = none) (hb3 : b.get? d3 = none)
    (hH : s.heap.get? H = some (lst [.ref d1, .ref d2, .ref d3] nH)) (hHn : H ≠ d1 ∧ H ≠ d2 ∧ H ≠ d3) (hKn : K ∉ [d1, d2, d3, Lr, Ll]) (h12 : d1 ≠ d2) (h13 : d1 ≠ d3) (h23 : d2 ≠ d3) (hRL : Lr ≠ Ll)
    (h1 : s.heap.get? d1 = some (lst v1 n1)) (h2 : s.heap.get? d2 = some (lst v2 n2)) (h3 : s.heap.get? d3 = some (lst v3 n3))
    (hK : RanksOK w s.heap K rk) (hm : Mono rk) (hax : (a, x) ∈ rk) (r1 : Are (repI rk) v1 R) (r2 : Are repR v2 R) (r3 : Are (repP s.heap) v3 R) (hsm : R.length < 64)
    (k : ∀ s' va v1' v2' v3' n1' n2' n3', ChgF [d1, d2, d3] [Lr, Ll] s s' → s'.heap.get? d1 = some (lst v1' n1') → s'.heap.get? d2 = some (lst v2' n2') → s'.heap.get? d3 = some (lst v3' n3') →
      Are (repI rk) v1' (callR R kind x).2 → Are repR v2' (callR R kind x).2 → Are (repP s'.heap) v3' (callR R kind x).2 → ansIs repR (callR R kind x).1 va → Rr (.ok (.ret va)) s') :
    codeAny (model Challenge.rw_mj0021_01.row.prog w) A (.call (.ref 106) ⟨[.ref H, .int kind tk, .int a ta, .int x tx, .ref K], []⟩) Rr s := by
  have G' := G.kx
  revert G'
  k_fill
  intro G'
  refine' enter2 (binds := [(Str.ofString "heaps", .ref H), (Str.ofString "kind", .int kind tk), (Str.ofString "item", .int a ta), (Str.ofString "rank", .int x tx), (Str.ofString "ranks", .ref K)]) [(d1, lst v1 n1), (d2, lst v2 n2), (d3, lst v3 n3), (Lr, oR), (Ll, oL)] G hb ?h1 ?h2 ?ho ?hcd ?hr ?bi ?lo ?_ ?c1 ?c2 ?c3 ?c4
  case h1 => simp [hb1, hb2, hb3, hbR, hbL]
  case h2 => simp [h1, h2, h3, hR0, hL0]
  case ho => k_is
  case hcd => k_is
  case hr => exact Nat.lt_of_le_of_lt (Nat.le_add_right _ _) hroom.1
  case bi => exact BindsTo.of_eq rfl
  case lo => exact locs rfl
  case c1 => exact rfl
  case c2 => exact rfl
  case c3 => exact rfl
  case c4 => decide
  intro g L h₁ G₁ hg F' N' hLs hall
  have KX := G₁.kx
  have T' := G₁.top
  refine gen_goal fun QQ hQQ => ?_
  have apart : ∀ {p q : Addr} {o o' : Obj}, s.heap.get? p = some o → s.heap.get? q = some o' → o ≠ o' → p ≠ q := fun h1 h2 h3 e => by subst e; rw [h1] at h2; cases h2; exact h3 rfl
  obtain ⟨esR, nR, hRd⟩ := hRd
  obtain ⟨esL, nL, hLd⟩ := hLd
  have nd : ∀ {vs : List Value} {n : Nat} {o : Obj} {es ep}, o.data = .dict es ep → lst vs n ≠ o := fun hd e => by rw [← e] at hd; cases hd
  have hHR : H ≠ Lr := apart hH hR0 (nd hRd)
  have hHL : H ≠ Ll := apart hH hL0 (nd hLd)
  have d1R : d1 ≠ Lr := apart h1 hR0 (nd hRd)
  have d1L : d1 ≠ Ll := apart h1 hL0 (nd hLd)
  have d2R : d2 ≠ Lr := apart h2 hR0 (nd hRd)
  have d2L : d2 ≠ Ll := apart h2 hL0 (nd hLd)
  have d3R : d3 ≠ Lr := apart h3 hR0 (nd hRd)
  have d3L : d3 ≠ Ll := apart h3 hL0 (nd hLd)
  have gH : g.IsList H [.ref d1, .ref d2, .ref d3].toArray := PySem.IsL.isList (n := nH) (hg _ _ (by simp [hHn.1, hHn.2.1, hHn.2.2, hHR, hHL]) hH)
  have np0 : NotPairs s.heap [d1, d2, d3, Lr, Ll] := by
    intro d hd
    simp only [List.mem_cons, List.not_mem_nil, or_false] at hd
    rcases hd with rfl | rfl | rfl | rfl | rfl
    · exact ⟨_, h1, lst_notpair _ _⟩
    · exact ⟨_, h2, lst_notpair _ _⟩
    · exact ⟨_, h3, lst_notpair _ _⟩
    · exact ⟨_, hR0, .inr fun vs n q => by rw [hRd] at q; cases q⟩
    · exact ⟨_, hL0, .inr fun vs n q => by rw [hLd] at q; cases q⟩
  have rg3 : Are (repP g) v3 R := r3.mono fun v r q => by
    obtain ⟨p, e, hp⟩ := q
    refine ⟨p, e, ?_⟩
    obtain ⟨o, n, t, u, ho, rest⟩ := id hp
    refine ⟨o, n, t, u, hg p o (fun q => ?_) ho, rest⟩
    obtain ⟨o', ho', hno⟩ := np0 p q
    exact pair_apart hp ho' hno rfl
  have hKg : RanksOK w g K rk := ⟨hK.low, by
    obtain ⟨kvs, ⟨o, es, ep, e, r⟩, hv⟩ := hK.dict
    exact ⟨kvs, ⟨o, es, ep, hg _ _ hKn e, r⟩, hv⟩⟩
  (repeat' (first | (k_unfold; (try dsimp only)) | ((fail_if_success (with_reducible show wpAny _ _ (exec (Stmt.While _ _ _ _) _) _ _ _)); (fail_if_success (with_reducible show wpAny _ _ (exec (Stmt.For _ _ _ _ _) _) _ _ _)); (fail_if_success (with_reducible show wpAny _ _ (call (Value.ref _) _) _ _ _)); (fail_if_success (with_reducible show wpAny _ _ (compareOp _ (Value.ref _) (Value.ref _)) _ _ _)); (fail_if_success (with_reducible show wpAny _ _ (exec (Stmt.Assign _ (Expr.ListComp _ _ _ _) _) _) _ _ _)); (fail_if_success (with_reducible show wpAny _ _ (eval (Expr.ListComp _ _ _ _) _) _ _ _)); (first | walk1 | (dsimp only; walk1)); (try dsimp only)) | fail "no step"))
  have hfs1 : ∀ f ∈ [L, Lr, Ll], g.get? f = none := by
    intro f hf
    simp only [List.mem_cons, List.not_mem_nil, or_false] at hf
    rcases hf with rfl | rfl | rfl
    · exact Heap.get?_none_of_le F'.above
    · exact (N' (_, oR) (.tail _ (.tail _ (.tail _ (.head _))))).2.2
    · exact (N' (_, oL) (.tail _ (.tail _ (.tail _ (.tail _ (.head _)))))).2.2
  have ndL : d1 ≠ L ∧ d2 ≠ L ∧ d3 ≠ L := ⟨(N' (d1, _) (.head _)).2.1, (N' (d2, _) (.tail _ (.head _))).2.1, (N' (d3, _) (.tail _ (.tail _ (.head _)))).2.1⟩
  have gd : g.get? d1 = none ∧ g.get? d2 = none ∧ g.get? d3 = none := ⟨(N' (d1, _) (.head _)).2.2, (N' (d2, _) (.tail _ (.head _))).2.2, (N' (d3, _) (.tail _ (.tail _ (.head _)))).2.2⟩
  refine wpAny_call (law_call_ok (b := g) (rep := repI rk) (R := R) (x := x) G₁ F'.keep gd.1 (N' (d1, _) (.head _)).1 (hroom.call (by decide)) hh (frok3 hfr (by rfl) hfe hfl (by exact (show ScopeKind.function ≠ ScopeKind.module by decide)) hke hkl F'.ns (N' (Lr, oR) (.tail _ (.tail _ (.tail _ (.head _))))).1 (N' (Ll, oL) (.tail _ (.tail _ (.tail _ (.tail _ (.head _)))))).1 ⟨_, _, hRd⟩ ⟨_, _, hLd⟩) ?_ ?_ (ltI hm) r1 ⟨a, ta, rfl, hax⟩ (by omega) fun s' w1 va1 m1 hch hl1 hR1 hA1 => ?_)
  · rw [frs3 rfl hfe hfl]; exact hfs1
  · rw [frs3 rfl hfe hfl]; simp [ndL, d1R, d1L]
  rw [frs3 rfl hfe hfl] at hch
  obtain ⟨hh1, tk1, rfl, ka1, kb1⟩ := hch
  have F2 := fr_chgF F' (D := [d1]) (fun q hq => by rw [List.mem_singleton.mp hq]; exact (N' (d1, _) (.head _)).2.symm) hfs1 ka1 kb1
  obtain ⟨oR1, eR1, dR1, qR1⟩ : ∃ o, hh1.get? Lr = some o ∧ o.data = .dict esR nR ∧ ∃ sl, o = { oR with slots := sl } := by
    obtain ⟨sl, e⟩ := kb1 Lr oR (by simpa using Ne.symm d1R) (by simp) (N' (Lr, oR) (.tail _ (.tail _ (.tail _ (.head _))))).1
    exact ⟨_, e, hRd, sl, rfl⟩
  obtain ⟨oL1, eL1, dL1, qL1⟩ : ∃ o, hh1.get? Ll = some o ∧ o.data = .dict esL nL ∧ ∃ sl, o = { oL with slots := sl } := by
    obtain ⟨sl, e⟩ := kb1 Ll oL (by simpa using Ne.symm d1L) (by simp) (N' (Ll, oL) (.tail _ (.tail _ (.tail _ (.tail _ (.head _)))))).1
    exact ⟨_, e, hLd, sl, rfl⟩
  have N2 : News g L hh1 [(d1, lst w1 m1), (d2, lst v2 n2), (d3, lst v3 n3), (Lr, oR1), (Ll, oL1)] := by
    intro p hp
    simp only [List.mem_cons, List.not_mem_nil, or_false] at hp
    rcases hp with rfl | rfl | rfl | rfl | rfl
    · exact ⟨hl1, (N' (d1, _) (.head _)).2⟩
    · exact ⟨ka1 _ _ (by simpa using Ne.symm h12) (by simp [ndL, d2R, d2L]) (N' (d2, _) (.tail _ (.head _))).1, (N' (d2, _) (.tail _ (.head _))).2⟩
    · exact ⟨ka1 _ _ (by simpa using Ne.symm h13) (by simp [ndL, d3R, d3L]) (N' (d3, _) (.tail _ (.tail _ (.head _)))).1, (N' (d3, _) (.tail _ (.tail _ (.head _)))).2⟩
    · exact ⟨eR1, (N' (Lr, oR) (.tail _ (.tail _ (.tail _ (.head _))))).2⟩
    · exact ⟨eL1, (N' (Ll, oL) (.tail _ (.tail _ (.tail _ (.tail _ (.head _)))))).2⟩
  clear F' N'
  dsimp only
  (repeat' (first | (k_unfold; (try dsimp only)) | ((fail_if_success (with_reducible show wpAny _ _ (exec (Stmt.While _ _ _ _) _) _ _ _)); (fail_if_success (with_reducible show wpAny _ _ (exec (Stmt.For _ _ _ _ _) _) _ _ _)); (fail_if_success (with_reducible show wpAny _ _ (call (Value.ref _) _) _ _ _)); (fail_if_success (with_reducible show wpAny _ _ (compareOp _ (Value.ref _) (Value.ref _)) _ _ _)); (fail_if_success (with_reducible show wpAny _ _ (exec (Stmt.Assign _ (Expr.ListComp _ _ _ _) _) _) _ _ _)); (fail_if_success (with_reducible show wpAny _ _ (eval (Expr.ListComp _ _ _ _) _) _ _ _)); (first | walk1 | (dsimp only; walk1)); (try dsimp only)) | fail "no step"))
  rename_i h2b F2b N2b
  refine wpAny_call (law_call_ok (b := g) (rep := repR) (R := R) (x := x) G₁ F2b.keep gd.2.1 (N2b (d2, _) (.tail _ (.head _))).1 (hroom.call (by decide)) hh (frok3 hfr (by rfl) hfe hfl (by exact (show ScopeKind.function ≠ ScopeKind.module by decide)) hke hkl F2b.ns (N2b (Lr, oR1) (.tail _ (.tail _ (.tail _ (.head _))))).1 (N2b (Ll, oL1) (.tail _ (.tail _ (.tail _ (.tail _ (.head _)))))).1 ⟨_, _, dR1⟩ ⟨_, _, dL1⟩) ?_ ?_ ltR r2 ⟨tx, rfl⟩ (by omega) fun s' w2 va2 m2 hch hl2 hR2 hA2 => ?_)
  · rw [frs3 rfl hfe hfl]; exact hfs1
  · rw [frs3 rfl hfe hfl]; simp [ndL, d2R, d2L]
  rw [frs3 rfl hfe hfl] at hch
  obtain ⟨hh2, tk2, rfl, ka2, kb2⟩ := hch
  have F3 := fr_chgF F2b (D := [d2]) (fun q hq => by rw [List.mem_singleton.mp hq]; exact (N2b (d2, _) (.tail _ (.head _))).2.symm) hfs1 ka2 kb2
  obtain ⟨oR2, eR2, dR2, qR2⟩ : ∃ o, hh2.get? Lr = some o ∧ o.data = .dict esR nR ∧ ∃ sl, o = { oR with slots := sl } := by
    obtain ⟨sl, e⟩ := kb2 Lr oR1 (by simpa using Ne.symm d2R) (by simp) (N2b (Lr, oR1) (.tail _ (.tail _ (.tail _ (.head _))))).1
    obtain ⟨sl', rfl⟩ := qR1; exact ⟨_, e, dR1, sl, rfl⟩
  obtain ⟨oL2, eL2, dL2, qL2⟩ : ∃ o, hh2.get? Ll = some o ∧ o.data = .dict esL nL ∧ ∃ sl, o = { oL with slots := sl } := by
    obtain ⟨sl, e⟩ := kb2 Ll oL1 (by simpa using Ne.symm d2L) (by simp) (N2b (Ll, oL1) (.tail _ (.tail _ (.tail _ (.tail _ (.head _)))))).1
    obtain ⟨sl', rfl⟩ := qL1; exact ⟨_, e, dL1, sl, rfl⟩
  have N3 : News g L hh2 [(d1, lst w1 m1), (d2, lst w2 m2), (d3, lst v3 n3), (Lr, oR2), (Ll, oL2)] := by
    intro p hp
    simp only [List.mem_cons, List.not_mem_nil, or_false] at hp
    rcases hp with rfl | rfl | rfl | rfl | rfl
    · exact ⟨ka2 _ _ (by simpa using h12) (by simp [ndL, d1R, d1L]) (N2b (d1, _) (.head _)).1, (N2b (d1, _) (.head _)).2⟩
    · exact ⟨hl2, (N2b (d2, _) (.tail _ (.head _))).2⟩
    · exact ⟨ka2 _ _ (by simpa using Ne.symm h23) (by simp [ndL, d3R, d3L]) (N2b (d3, _) (.tail _ (.tail _ (.head _)))).1, (N2b (d3, _) (.tail _ (.tail _ (.head _)))).2⟩
    · exact ⟨eR2, (N2b (Lr, oR1) (.tail _ (.tail _ (.tail _ (.head _))))).2⟩
    · exact ⟨eL2, (N2b (Ll, oL1) (.tail _ (.tail _ (.tail _ (.tail _ (.head _)))))).2⟩
  clear F2b N2b
  dsimp only
  (repeat' (first | (k_unfold; (try dsimp only)) | ((fail_if_success (with_reducible show wpAny _ _ (exec (Stmt.While _ _ _ _) _) _ _ _)); (fail_if_success (with_reducible show wpAny _ _ (exec (Stmt.For _ _ _ _ _) _) _ _ _)); (fail_if_success (with_reducible show wpAny _ _ (call (Value.ref _) _) _ _ _)); (fail_if_success (with_reducible show wpAny _ _ (compareOp _ (Value.ref _) (Value.ref _)) _ _ _)); (fail_if_success (with_reducible show wpAny _ _ (exec (Stmt.Assign _ (Expr.ListComp _ _ _ _) _) _) _ _ _)); (fail_if_success (with_reducible show wpAny _ _ (eval (Expr.ListComp _ _ _ _) _) _ _ _)); (first | walk1 | (dsimp only; walk1)); (try dsimp only)) | fail "no step"))
  rename_i h3b F3b N3b
  refine wpAny_call (law_pair_ok G₁ F3b.keep (hroom.call (by decide)) fun s' p hch hp0 hpp => ?_)
  obtain ⟨h4, tk4, rfl, hk4⟩ := hch
  have up4 : h3b.StaysIn h4 := fun b o e => hk4 b o (by simp) e
  have F4 := F3b.keeps up4
  have N4 := N3b.grown up4
  clear F3b N3b
  dsimp only
  have M4 := And.intro F4 N4
  (repeat' (first | (k_unfold; (try dsimp only)) | ((fail_if_success (with_reducible show wpAny _ _ (exec (Stmt.While _ _ _ _) _) _ _ _)); (fail_if_success (with_reducible show wpAny _ _ (exec (Stmt.For _ _ _ _ _) _) _ _ _)); (fail_if_success (with_reducible show wpAny _ _ (call (Value.ref _) _) _ _ _)); (fail_if_success (with_reducible show wpAny _ _ (compareOp _ (Value.ref _) (Value.ref _)) _ _ _)); (fail_if_success (with_reducible show wpAny _ _ (exec (Stmt.Assign _ (Expr.ListComp _ _ _ _) _) _) _ _ _)); (fail_if_success (with_reducible show wpAny _ _ (eval (Expr.ListComp _ _ _ _) _) _ _ _)); (first | walk1 | (dsimp only; walk1)); (try dsimp only)) | fail "no step"))
  have F4 := M4.1
  have N4 := M4.2
  obtain ⟨oLL, esLL, epLL, eLL, dLL, _⟩ := F4.ns
  have np4 : NotPairs h4 [d3, L, Lr, Ll] := by
    intro d hd
    simp only [List.mem_cons, List.not_mem_nil, or_false] at hd
    rcases hd with rfl | rfl | rfl | rfl
    · exact ⟨_, (N4 (_, _) (.tail _ (.tail _ (.head _)))).1, lst_notpair _ _⟩
    · exact ⟨_, eLL, .inr fun vs n q => by rw [dLL] at q; cases q⟩
    · exact ⟨_, (N4 (_, oR2) (.tail _ (.tail _ (.tail _ (.head _))))).1, .inr fun vs n q => by rw [dR2] at q; cases q⟩
    · exact ⟨_, (N4 (_, oL2) (.tail _ (.tail _ (.tail _ (.tail _ (.head _)))))).1, .inr fun vs n q => by rw [dL2] at q; cases q⟩
  have gB : g.StaysIn (hideAll h4 [d3, L, Lr, Ll]) := fun a o e => hideAll_get _ (F4.keep a o e) (by
    intro q
    simp only [List.mem_cons, List.not_mem_nil, or_false] at q
    rcases q with rfl | q
    · rw [gd.2.2] at e; cases e
    · have := hfs1 a (by simpa using q)
      rw [this] at e; cases e)
  have hfsB : ∀ f ∈ [L, Lr, Ll], (hideAll h4 [d3, L, Lr, Ll]).get? f = none := fun f hf => hideAll_none _ (List.mem_cons_of_mem _ hf)
  have ar3 : Are (repP (hideAll h4 [d3, L, Lr, Ll])) v3 R := rg3.mono fun v r q => repP_hide np4 (q.keeps F4.keep)
  refine wpAny_call (law_call_ok (b := hideAll h4 [d3, L, Lr, Ll]) (rep := repP (hideAll h4 [d3, L, Lr, Ll])) (R := R) (x := x) (G₁.keeps gB) (fun a o e => of_hideAll _ e) (hideAll_none _ (by simp)) (N4 (d3, _) (.tail _ (.tail _ (.head _)))).1 (hroom.call (by decide)) hh (frok3 hfr (by rfl) hfe hfl (by exact (show ScopeKind.function ≠ ScopeKind.module by decide)) hke hkl F4.ns (N4 (Lr, oR2) (.tail _ (.tail _ (.tail _ (.head _))))).1 (N4 (Ll, oL2) (.tail _ (.tail _ (.tail _ (.tail _ (.head _)))))).1 ⟨_, _, dR2⟩ ⟨_, _, dL2⟩) ?_ ?_ ltP ar3 (repP_hide np4 ⟨p, rfl, hpp⟩) (by omega) fun s' w3 va3 m3 hch hl3 hR3 hA3 => ?_)
  · rw [frs3 rfl hfe hfl]; exact hfsB
  · rw [frs3 rfl hfe hfl]; simp [ndL, d3R, d3L]
  rw [frs3 rfl hfe hfl] at hch
  obtain ⟨hh3, tk3, rfl, ka3, kb3⟩ := hch
  have F5 := fr_chgF F4 (D := [d3]) (fun q hq => by rw [List.mem_singleton.mp hq]; exact (N4 (d3, _) (.tail _ (.tail _ (.head _)))).2.symm) hfs1 ka3 kb3
  obtain ⟨oR3, eR3, dR3, qR3⟩ : ∃ o, hh3.get? Lr = some o ∧ o.data = .dict esR nR ∧ ∃ sl, o = { oR with slots := sl } := by
    obtain ⟨sl, e⟩ := kb3 Lr oR2 (by simpa using Ne.symm d3R) (by simp) (N4 (Lr, oR2) (.tail _ (.tail _ (.tail _ (.head _))))).1
    obtain ⟨sl', rfl⟩ := qR2; exact ⟨_, e, dR2, sl, rfl⟩
  obtain ⟨oL3, eL3, dL3, qL3⟩ : ∃ o, hh3.get? Ll = some o ∧ o.data = .dict esL nL ∧ ∃ sl, o = { oL with slots := sl } := by
    obtain ⟨sl, e⟩ := kb3 Ll oL2 (by simpa using Ne.symm d3L) (by simp) (N4 (Ll, oL2) (.tail _ (.tail _ (.tail _ (.tail _ (.head _)))))).1
    obtain ⟨sl', rfl⟩ := qL2; exact ⟨_, e, dL2, sl, rfl⟩
  have N5 : News g L hh3 [(d1, lst w1 m1), (d2, lst w2 m2), (d3, lst w3 m3), (Lr, oR3), (Ll, oL3)] := by
    intro p hp
    simp only [List.mem_cons, List.not_mem_nil, or_false] at hp
    rcases hp with rfl | rfl | rfl | rfl | rfl
    · exact ⟨ka3 _ _ (by simpa using h13) (by simp [ndL, d1R, d1L]) (N4 (d1, _) (.head _)).1, (N4 (d1, _) (.head _)).2⟩
    · exact ⟨ka3 _ _ (by simpa using h23) (by simp [ndL, d2R, d2L]) (N4 (d2, _) (.tail _ (.head _))).1, (N4 (d2, _) (.tail _ (.head _))).2⟩
    · exact ⟨hl3, (N4 (d3, _) (.tail _ (.tail _ (.head _)))).2⟩
    · exact ⟨eR3, (N4 (Lr, oR2) (.tail _ (.tail _ (.tail _ (.head _))))).2⟩
    · exact ⟨eL3, (N4 (Ll, oL2) (.tail _ (.tail _ (.tail _ (.tail _ (.head _)))))).2⟩
  have st5 : (hideAll h4 [d3, L, Lr, Ll]).StaysIn hh3 := fun a o e => by
    have hn : a ∉ [d3, L, Lr, Ll] := fun q => by rw [hideAll_none _ q] at e; cases e
    simp only [List.mem_cons, List.not_mem_nil, or_false, not_or] at hn
    exact ka3 a o (by simpa using hn.1) (by simp only [List.mem_cons, List.not_mem_nil, or_false, not_or]; exact hn.2) (of_hideAll _ e)
  replace hR3 : Are (repP hh3) w3 _ := hR3.mono fun v r q => q.keeps st5
  have hstep : ∀ {hf : Heap} {mf : Str → Option Value}, Fr g L hf mf → ∀ a o, a ∉ [d1, d2, d3] → a ∉ [Lr, Ll] → s.heap.get? a = some o → hf.get? a = some o := fun Ff a o h1 h2 e => by
    refine Ff.keep a o (hg a o ?_ e)
    simp only [List.map_cons, List.map_nil, List.mem_cons, List.not_mem_nil, or_false, not_or] at h1 h2 ⊢
    exact ⟨h1.1, h1.2.1, h1.2.2, h2.1, h2.2⟩
  have hnall := hR3.all
  have fin : ∀ hf tkf mf va ws, (∀ v ∈ w3, v ∈ ws) → Fr g L hf mf → News g L hf ((d1, lst w1 m1) :: (d2, lst w2 m2) :: (d3, lst w3 m3) :: (Lr, oR3) :: (Ll, oL3) :: pairsOf g hh3 ws) → ansIs repR (callR R kind x).1 va → QQ (.ret va) { s with heap := hf, toks := tkf } := by
    intro hf tkf mf va ws hws Ff Nf hva
    refine hQQ _ _ (k _ va w1 w2 w3 m1 m2 m3 ⟨hf, tkf, rfl, hstep Ff, ?_⟩ (Nf _ (.head _)).1 (Nf _ (.tail _ (.head _))).1 (Nf _ (.tail _ (.tail _ (.head _)))).1 hR1 hR2 (are_end F5 Ff (fun p hp => Nf p (.tail _ (.tail _ (.tail _ (.tail _ (.tail _ hp)))))) hws hR3) hva)
    intro a o _ ha e
    simp only [List.mem_cons, List.not_mem_nil, or_false] at ha
    rcases ha with rfl | rfl
    · rw [hR0] at e; cases e
      obtain ⟨sl, q⟩ := qR3
      exact ⟨sl, by rw [(Nf _ (.tail _ (.tail _ (.tail _ (.head _))))).1, q]⟩
    · rw [hL0] at e; cases e
      obtain ⟨sl, q⟩ := qL3
      exact ⟨sl, by rw [(Nf _ (.tail _ (.tail _ (.tail _ (.tail _ (.head _)))))).1, q]⟩
  have mk : ∀ ws, News g L hh3 (pairsOf g hh3 ws) → News g L hh3 ((d1, lst w1 m1) :: (d2, lst w2 m2) :: (d3, lst w3 m3) :: (Lr, oR3) :: (Ll, oL3) :: pairsOf g hh3 ws) := by
    intro ws Np p hp
    rcases List.mem_cons.mp hp with rfl | hp
    · exact N5 _ (.head _)
    rcases List.mem_cons.mp hp with rfl | hp
    · exact N5 _ (.tail _ (.head _))
    rcases List.mem_cons.mp hp with rfl | hp
    · exact N5 _ (.tail _ (.tail _ (.head _)))
    rcases List.mem_cons.mp hp with rfl | hp
    · exact N5 _ (.tail _ (.tail _ (.tail _ (.head _))))
    rcases List.mem_cons.mp hp with rfl | hp
    · exact N5 _ (.tail _ (.tail _ (.tail _ (.tail _ (.head _)))))
    · exact Np p hp
  have F5h := And.intro F5 True.intro
  clear F4 N4 M4
  dsimp only
  cases hcr : (callR R kind x).1 with
  | nothing =>
    rw [hcr] at hA1 hA2 hA3
    have e1 : va1 = .none := hA1
    have e2 : va2 = .none := hA2
    have e3 : va3 = .none := hA3
    subst e1 e2 e3
    have N6 := mk w3 (pairs_news F5 hnall)
    clear N5
    (repeat' (first | (k_unfold; (try dsimp only)) | ((fail_if_success (with_reducible show wpAny _ _ (exec (Stmt.While _ _ _ _) _) _ _ _)); (fail_if_success (with_reducible show wpAny _ _ (exec (Stmt.For _ _ _ _ _) _) _ _ _)); (fail_if_success (with_reducible show wpAny _ _ (call (Value.ref _) _) _ _ _)); (fail_if_success (with_reducible show wpAny _ _ (compareOp _ (Value.ref _) (Value.ref _)) _ _ _)); (fail_if_success (with_reducible show wpAny _ _ (exec (Stmt.Assign _ (Expr.ListComp _ _ _ _) _) _) _ _ _)); (fail_if_success (with_reducible show wpAny _ _ (eval (Expr.ListComp _ _ _ _) _) _ _ _)); (first | walk1 | (dsimp only; walk1)); (try dsimp only)) | fail "no step"))
    rename_i h7 F7 N7
    exact fin _ _ _ _ w3 (fun v hv => hv) F7 N7 (by rw [hcr]; rfl)
  | rank r =>
    rw [hcr] at hA1 hA2 hA3
    obtain ⟨a1, t1, rfl, hrk⟩ := hA1
    obtain ⟨t2, rfl⟩ := hA2
    obtain ⟨p3, rfl, hp3⟩ := hA3
    have hall3 : ∀ v ∈ Value.ref p3 :: w3, ∃ r, repP hh3 v r := fun v hv => by
      rcases List.mem_cons.mp hv with rfl | hv
      · exact ⟨r, p3, rfl, hp3.keeps st5⟩
      · exact hnall v hv
    have N6 := mk (.ref p3 :: w3) (pairs_news F5 hall3)
    clear N5
    (repeat' (first | (k_unfold; (try dsimp only)) | ((fail_if_success (with_reducible show wpAny _ _ (exec (Stmt.While _ _ _ _) _) _ _ _)); (fail_if_success (with_reducible show wpAny _ _ (exec (Stmt.For _ _ _ _ _) _) _ _ _)); (fail_if_success (with_reducible show wpAny _ _ (call (Value.ref _) _) _ _ _)); (fail_if_success (with_reducible show wpAny _ _ (compareOp _ (Value.ref _) (Value.ref _)) _ _ _)); (fail_if_success (with_reducible show wpAny _ _ (exec (Stmt.Assign _ (Expr.ListComp _ _ _ _) _) _) _ _ _)); (fail_if_success (with_reducible show wpAny _ _ (eval (Expr.ListComp _ _ _ _) _) _ _ _)); (first | walk1 | (dsimp only; walk1)); (try dsimp only)) | fail "no step"))
    rename_i h7 F7 N7
    obtain ⟨kvs, hdk, hval⟩ := hKg.dict
    obtain ⟨tr, hvr⟩ := hval _ hrk
    have hdk7 : h7.DictOf (intKind Pg w) K kvs := DictOf.stays hdk F7.keep
    refine my_getMethod hdk7 ?_
    (repeat' (first | (k_unfold; (try dsimp only)) | ((fail_if_success (with_reducible show wpAny _ _ (exec (Stmt.While _ _ _ _) _) _ _ _)); (fail_if_success (with_reducible show wpAny _ _ (exec (Stmt.For _ _ _ _ _) _) _ _ _)); (fail_if_success (with_reducible show wpAny _ _ (call (Value.ref _) _) _ _ _)); (fail_if_success (with_reducible show wpAny _ _ (compareOp _ (Value.ref _) (Value.ref _)) _ _ _)); (fail_if_success (with_reducible show wpAny _ _ (exec (Stmt.Assign _ (Expr.ListComp _ _ _ _) _) _) _ _ _)); (fail_if_success (with_reducible show wpAny _ _ (eval (Expr.ListComp _ _ _ _) _) _ _ _)); (first | walk1 | (dsimp only; walk1)); (try dsimp only)) | fail "no step"))
    refine my_get1 hdk7 hKg.low hvr ?_
    have M7 := And.intro F7 N7
    (repeat' (first | (k_unfold; (try dsimp only)) | ((fail_if_success (with_reducible show wpAny _ _ (exec (Stmt.While _ _ _ _) _) _ _ _)); (fail_if_success (with_reducible show wpAny _ _ (exec (Stmt.For _ _ _ _ _) _) _ _ _)); (fail_if_success (with_reducible show wpAny _ _ (call (Value.ref _) _) _ _ _)); (fail_if_success (with_reducible show wpAny _ _ (compareOp _ (Value.ref _) (Value.ref _)) _ _ _)); (fail_if_success (with_reducible show wpAny _ _ (exec (Stmt.Assign _ (Expr.ListComp _ _ _ _) _) _) _ _ _)); (fail_if_success (with_reducible show wpAny _ _ (eval (Expr.ListComp _ _ _ _) _) _ _ _)); (first | walk1 | (dsimp only; walk1)); (try dsimp only)) | fail "no step"))
    · refine wpAny_call (law_pair_ok G₁ M7.1.keep (hroom.call (by decide)) fun s' q hch hq0 hqq => ?_)
      obtain ⟨h8, tk8, rfl, hk8⟩ := hch
      have up8 : h7.StaysIn h8 := fun b o e => hk8 b o (by simp) e
      have F8 := M7.1.keeps up8
      have N8 := M7.2.grown up8
      have hp8 : IsPair h8 p3 (r.fdiv 4) (r.fmod 4) := by
        obtain ⟨q', e, z⟩ := repP_end F5h.1 F8 (fun p hp => N8 p (.tail _ (.tail _ (.tail _ (.tail _ (.tail _ hp)))))) (v := .ref p3) (r := r) (.head _) ⟨p3, rfl, hp3.keeps st5⟩
        cases e
        exact z
      clear F7 N7 M7
      dsimp only
      refine eq_pair_one hp8 hqq ?_ ?_
      · have := hroom.2; show A.units + 3 + 64 < _; omega
      have M8 := And.intro F8 N8
      (repeat' (first | (k_unfold; (try dsimp only)) | ((fail_if_success (with_reducible show wpAny _ _ (exec (Stmt.While _ _ _ _) _) _ _ _)); (fail_if_success (with_reducible show wpAny _ _ (exec (Stmt.For _ _ _ _ _) _) _ _ _)); (fail_if_success (with_reducible show wpAny _ _ (call (Value.ref _) _) _ _ _)); (fail_if_success (with_reducible show wpAny _ _ (compareOp _ (Value.ref _) (Value.ref _)) _ _ _)); (fail_if_success (with_reducible show wpAny _ _ (exec (Stmt.Assign _ (Expr.ListComp _ _ _ _) _) _) _ _ _)); (fail_if_success (with_reducible show wpAny _ _ (eval (Expr.ListComp _ _ _ _) _) _ _ _)); (first | walk1 | (dsimp only; walk1)); (try dsimp only)) | fail "no step"))
      exact fin _ _ _ _ (.ref p3 :: w3) (fun v hv => .tail _ hv) M8.1 M8.2 (by rw [hcr]; exact ⟨_, rfl⟩)
    · rename_i hne
      exact absurd rfl hne
  | text msg =>
    rw [hcr] at hA1 hA2 hA3
    obtain ⟨t1, rfl⟩ := hA1
    obtain ⟨t2, rfl⟩ := hA2
    obtain ⟨t3, rfl⟩ := hA3
    have N6 := mk w3 (pairs_news F5 hnall)
    clear N5
    (repeat' (first | (k_unfold; (try dsimp only)) | ((fail_if_success (with_reducible show wpAny _ _ (exec (Stmt.While _ _ _ _) _) _ _ _)); (fail_if_success (with_reducible show wpAny _ _ (exec (Stmt.For _ _ _ _ _) _) _ _ _)); (fail_if_success (with_reducible show wpAny _ _ (call (Value.ref _) _) _ _ _)); (fail_if_success (with_reducible show wpAny _ _ (compareOp _ (Value.ref _) (Value.ref _)) _ _ _)); (fail_if_success (with_reducible show wpAny _ _ (exec (Stmt.Assign _ (Expr.ListComp _ _ _ _) _) _) _ _ _)); (fail_if_success (with_reducible show wpAny _ _ (eval (Expr.ListComp _ _ _ _) _) _ _ _)); (first | walk1 | (dsimp only; walk1)); (try dsimp only)) | fail "no step"))
    · rename_i h7 F7 N7 hq
      exact fin _ _ _ _ w3 (fun v hv => hv) F7 N7 (by rw [hcr]; exact ⟨_, rfl⟩)
    · rename_i h7 F7 N7 hq
      simp at hq
end Mine

-- E1
namespace Mine
section
variable {prog : Program} {w : World} {A : Around} {s : Shared} {env : Env} {h₀ : Heap}

/-- a loop over a list of pairs that the base holds -/
noncomputable def PairsAt (prog : Program) (w : World) (A : Around) (h₀ : Heap) (env : Env) (xa xb : Str) (body : List Stmt) (Q : Flow → Shared → Prop) (E : Value → Shared → Prop) (xv : Value) (s₁ : Shared) : Prop :=
  ∃ (l : Addr) (items : Array Value) (m : Str → Option Value) (news : List (Addr × Obj)) (J : Nat → (Str → Option Value) → List (Addr × Obj) → Prop), xv = .ref l ∧ A.handled = none ∧ h₀.IsList l items ∧ Fr h₀ env.locals s₁.heap m ∧ News h₀ env.locals s₁.heap news ∧
    (∀ (i : Nat) (v : Value), items[i]? = some v → ∃ (T : Addr) (va vb : Value), v = Value.ref T ∧ IsTup h₀ T #[va, vb]) ∧ J 0 m news ∧
    (∀ (i : Nat) (T : Addr) (va vb : Value) m₁ news₁ I h tk oI (QT : Flow → Shared → Prop), (∀ f s', TurnEnd h₀ env.locals I oI (J (i + 1)) Q { s₁ with heap := h, toks := tk } f s' → QT f s') → items[i]? = some (Value.ref T) → IsTup h₀ T #[va, vb] → J i m₁ news₁ → (∀ p ∈ news₁, p.1 ≠ I) → I ≠ env.locals → h₀.get? I = none → oI.cls = Value.type "list_iterator" → Fr h₀ env.locals h (fun y => if y = xb then some vb else if y = xa then some va else m₁ y) → News h₀ env.locals h ((I, oI) :: news₁) →
      wpAny (model prog w) A (execs body env) QT E { s₁ with heap := h, toks := tk }) ∧
    (∀ m' news' h tk, J items.size m' news' → Fr h₀ env.locals h m' → News h₀ env.locals h news' → Q .next { s₁ with heap := h, toks := tk })

theorem For_pairs {E : Value → Shared → Prop} {Q : Flow → Shared → Prop} {xa xb : Str} {pa pb tp pos : Pos} {kk : Nat} {iter : PySem.Expr} {body : List Stmt} (h₀ : Heap) (hxa : env.kindOf xa = some .local) (hxb : env.kindOf xb = some .local)
    (hp : (env.scope.kind == .class || (env.scope.kind == .module && env.locals != env.globals)) = false)
    (h : wpAny (model prog w) A (eval iter env) (PairsAt prog w A h₀ env xa xb body Q E) E s)
    (hs : ∀ x, foldedSetIterable iter env x = pure x := by intro _; rfl)
    (hE : PassesOwn (model prog w) A env E := by passes_own) :
    wpAny (model prog w) A (exec (.For (.Tuple [.Name xa pa, .Name xb pb] kk tp) iter body [] pos) env) Q E s := by
  refine wpAny_For (wpAny_mono h (fun xv s₁ h₁ => ?_) fun _ _ e => e) hs
  obtain ⟨l, items, m, news, J, rfl, hh, hl, F, N, hit, h0, turn, done⟩ := h₁
  have hls : s₁.heap.IsList l items := hl.at fun o e => F.keep l o e
  have hlt : l < s₁.heap.objs.size := by obtain ⟨_, e, _⟩ := hls; exact Heap.lt_size e
  refine wpAny_pyIter_list hls ?_
  generalize hI : s₁.heap.objs.size = I at *
  have up : s₁.heap.StaysIn (s₁.heap.push { cls := .type "list_iterator", data := .fields #[.ref l, .int 0 0] }) := fun b o e => Heap.get?_push_of_some _ e
  have W := Walks.list (prog := prog) (w := w) (A := A) hh I l (Nat.ne_of_lt hlt) items
  have hIL : I ≠ env.locals := by rw [← hI]; exact Nat.ne_of_gt F.ns.lt
  have hI0 : h₀.get? I = none := by
    cases q : h₀.get? I with
    | none => rfl
    | some o => exact absurd (Heap.lt_size (F.keep I o q)) (by rw [hI]; exact Nat.lt_irrefl _)
  have off : ∀ p ∈ news, p.1 ≠ I := fun p hp => by rw [← hI]; exact Nat.ne_of_lt (Heap.lt_size (N p hp).1)
  have hlI : l ≠ env.locals := fun q => by
    obtain ⟨o, e, _⟩ := hl
    rw [q, Heap.get?_none_of_le F.above] at e; cases e
  have frW : ∀ {h h' : Heap} {m : Str → Option Value}, Fr h₀ env.locals h m → (∀ b o, b ∉ [I] → h.get? b = some o → h'.get? b = some o) → Fr h₀ env.locals h' m := fun F k =>
    ⟨F.ns.at' fun o e' => k _ o (by simpa using Ne.symm hIL) e', fun b o e' => k b o (fun q => by rw [List.mem_singleton.mp q, hI0] at e'; cases e') (F.keep b o e'), F.above⟩
  have nwW : ∀ {h h' : Heap} {nw : List (Addr × Obj)}, News h₀ env.locals h nw → (∀ p ∈ nw, p.1 ≠ I) → (∀ b o, b ∉ [I] → h.get? b = some o → h'.get? b = some o) → News h₀ env.locals h' nw := fun N o k p hp => ⟨k _ _ (by simpa using o p hp) (N p hp).1, (N p hp).2⟩
  refine codeAny_forLoop_any
    (fun k s' => ∃ h' tk m' news' i, s' = { s₁ with heap := h', toks := tk } ∧ (h'.IsListIter I l i ∧ h'.IsList l items) ∧ Fr h₀ env.locals h' m' ∧ News h₀ env.locals h' news' ∧ (∀ p ∈ news', p.1 ≠ I) ∧ J i m' news' ∧ i ≤ items.size ∧ k = items.size + 1 - i) ?_ (items.size + 1)
    ⟨_, s₁.toks, m, news, 0, rfl, ⟨⟨_, by rw [← hI]; exact Heap.get?_push_size _ rfl, rfl, rfl⟩, hls.at fun o e => up _ o e⟩, F.keeps up, N.grown up, off, h0, Nat.zero_le _, rfl⟩
  rintro k s' ⟨h', tk, m', news', i, rfl, hst, F', N', off', hJ, hi, rfl⟩
  by_cases hlt' : i < items.size
  · refine W.item i _ _ _ hlt' hst fun v h₂ tk₂ hv hst₂ hk₂ => ?_
    obtain ⟨T, va, vb, rfl, hT⟩ := hit i v hv
    have F₂ := frW F' hk₂
    have N₂ := nwW N' off' hk₂
    refine wpAny_letOwnedTupleGo_listiter hst₂.1 ?_
    have hT₂ : IsTup h₂ T #[va, vb] := by obtain ⟨o, ho, r⟩ := hT; exact ⟨o, F₂.keep _ _ ho, r⟩
    refine assign_Tuple_tuple hh hT₂ rfl rfl fun h₃ he => ?_
    have he' : h₂.StaysIn h₃ := fun b o e => he b o (Nat.ne_of_lt (Heap.lt_size e)) e
    have F₃ := F₂.keeps he'
    have N₃ := N₂.grown he'
    refine assignInOrder_cons (wpAny_assign_Name (wpAny_storeName_local hxa F₃.ns (fun h₄ hn₄ hs₄ => ?_) hp))
    have F₄ := F₃.set hn₄ hs₄
    have N₄ := N₃.set hs₄
    refine assignInOrder_cons (wpAny_assign_Name (wpAny_storeName_local hxb F₄.ns (fun h₅ hn₅ hs₅ => ?_) hp))
    have F₅ := F₄.set hn₅ hs₅
    have N₅ := N₄.set hs₅
    refine assignInOrder_nil ?_
    have st₅ : h₅.IsListIter I l (i + 1) ∧ h₅.IsList l items := W.frame _ _ _ hst₂ fun b hb o e => by
      have hbL : b ≠ env.locals := by
        rcases List.mem_cons.mp hb with rfl | hb
        · exact hIL
        · rw [List.mem_singleton.mp hb]; exact hlI
      exact hs₅.extBut b o hbL (hs₄.extBut b o hbL (he' b o e))
    obtain ⟨oI, eI, rI⟩ := st₅.1
    have N₆ : News h₀ env.locals h₅ ((I, oI) :: news') := fun p hp => by
      rcases List.mem_cons.mp hp with rfl | hp
      · exact ⟨eI, hIL, hI0⟩
      · exact N₅ p hp
    refine wpAny_passesOwn hE (wpAny_mono (turn i T va vb m' news' I h₅ _ oI _ (fun _ _ q => q) hv hT hJ off' hIL hI0 rI.1 F₅ N₆) (fun f s₃ hT6 => ?_) fun _ _ e => e)
    have fin : (∃ h' tk' m' news', s₃ = { s₁ with heap := h', toks := tk' } ∧ Fr h₀ env.locals h' m' ∧ News h₀ env.locals h' ((I, oI) :: news') ∧ (∀ p ∈ news', p.1 ≠ I) ∧ J (i + 1) m' news') →
        ∃ q, q < items.size + 1 - i ∧ ∃ h' tk m' news' i, s₃ = { s₁ with heap := h', toks := tk } ∧ (h'.IsListIter I l i ∧ h'.IsList l items) ∧ Fr h₀ env.locals h' m' ∧ News h₀ env.locals h' news' ∧ (∀ p ∈ news', p.1 ≠ I) ∧ J i m' news' ∧ i ≤ items.size ∧ q = items.size + 1 - i := by
      rintro ⟨h₆, tk₆, m₆, nw₆, rfl, F₆, N₆, o₆, J₆⟩
      refine ⟨items.size + 1 - (i + 1), turn_lt hlt', h₆, tk₆, m₆, nw₆, i + 1, rfl, ⟨⟨oI, (N₆ _ (List.Mem.head _)).1, rI⟩, hl.at fun o e => F₆.keep _ o e⟩, F₆, fun p hp => N₆ p (List.mem_cons_of_mem _ hp), o₆, J₆, hlt', rfl⟩
    cases f with
    | ret v => exact hT6
    | brk => exact hT6
    | next => exact fin hT6
    | cont => exact fin hT6
  · obtain rfl : i = items.size := Nat.le_antisymm hi (Nat.not_lt.mp hlt')
    refine W.done _ _ _ hst fun h₂ tk₂ hk₂ => ?_
    refine wpAny_execs_nil ?_
    exact done m' news' h₂ tk₂ hJ (frW F' hk₂) (nwW N' off' hk₂)
end
end Mine

-- E2
namespace Mine


structure Good (R C : List Int) : Prop where
  heap : ∀ i, 1 ≤ i → i < R.length → R.getD ((i - 1) / 2) 0 ≤ R.getD i 0
  nonneg : ∀ i, i < C.length → 0 ≤ C.getD i 0
  perm : (toldL C).Perm R

/-- the plain law, as the walk wants it -/
structure Plain : Prop where
  fix : ∀ {R C : List Int}, Good R C → hfR R = R
  fix2 : ∀ (C : List Int), hfR (toldL C) = toldL C
  same : ∀ {R C : List Int} {kind x : Int}, Good R C → 0 ≤ kind → kind ≤ 4 → 0 ≤ x → x < C.length → (callR R kind x).1 = (toldR C kind x).1
  next : ∀ {R C : List Int} {kind x : Int}, Good R C → 0 ≤ kind → kind ≤ 4 → 0 ≤ x → x < C.length → Good (callR R kind x).2 (toldR C kind x).2
  len : ∀ {R C : List Int} {kind x : Int}, Good R C → (callR R kind x).2.length ≤ R.length + 1
  lenC : ∀ {C : List Int} {kind x : Int}, (toldR C kind x).2.length = C.length

noncomputable def crest (g : Heap) (c : Addr) (o : Obj) : List (Addr × Obj) := if (g.get? c).isNone then [(c, o)] else []
theorem crest_news {g h : Heap} {L c : Addr} {o : Obj} (e : h.get? c = some o) (hL : c ≠ L) : News g L h (crest g c o) := fun p hp => by
  unfold crest at hp
  split at hp
  · rename_i hn
    rw [List.mem_singleton.mp hp]
    exact ⟨e, hL, by simpa using hn⟩
  · cases hp
theorem crest_get {g h h' : Heap} {L c : Addr} {m m' : Str → Option Value} {o : Obj} (F : Fr g L h m) (e : h.get? c = some o) (F' : Fr g L h' m') (N' : News g L h' (crest g c o)) : h'.get? c = some o := by
  cases q : g.get? c with
  | some o' =>
    have := F.keep c o' q
    rw [e] at this; cases this
    exact F'.keep c o q
  | none => exact (N' (c, o) (by unfold crest; rw [q]; exact List.Mem.head _)).1
theorem crest_mem {g : Heap} {c : Addr} {o : Obj} {p : Addr × Obj} (hp : p ∈ crest g c o) : p = (c, o) := by
  unfold crest at hp
  split at hp
  · exact List.mem_singleton.mp hp
  · cases hp

noncomputable abbrev rnM (H Cl c K c' : Addr) (kv iv av : Option Value) : Str → Option Value := asc [(Str.ofString "item", iv), (Str.ofString "kind", kv), (Str.ofString "answer", av), (Str.ofString "now", some (.ref c')),
  (Str.ofString "ranks", some (.ref K)), (Str.ofString "counts", some (.ref c)), (Str.ofString "calls", some (.ref Cl)), (Str.ofString "heaps", some (.ref H))]
noncomputable def rnN : List Str := [Str.ofString "item", Str.ofString "kind", Str.ofString "answer", Str.ofString "now", Str.ofString "ranks", Str.ofString "counts", Str.ofString "calls", Str.ofString "heaps"]

/-- between the turns of the loop -/
noncomputable def rnJ (rk : List (Int × Int)) (g : Heap) (L H Cl c K d1 d2 d3 Ll : Addr) (oL : Obj) (lenC bound : Nat) (i : Nat) (m : Str → Option Value) (news : List (Addr × Obj)) : Prop :=
  ∃ (c' : Addr) (kv iv av : Option Value) (R C : List Int) (w1 w2 w3 cs : List Value) (m1 m2 m3 nc : Nat) (oL' : Obj) (rest : List (Addr × Obj)),
    m = rnM H Cl c K c' kv iv av ∧ news = (d1, lst w1 m1) :: (d2, lst w2 m2) :: (d3, lst w3 m3) :: (Ll, oL') :: rest ∧ Good R C ∧ C.length = lenC ∧ R.length ≤ bound + i ∧
    Are (repI rk) w1 R ∧ Are repR w2 R ∧ (∀ h' m', Fr g L h' m' → News g L h' rest → Are (repP h') w3 R) ∧ (∀ h' m', Fr g L h' m' → News g L h' rest → h'.get? c' = some (lst cs nc)) ∧ Are repR cs C ∧ c' ∉ [d1, d2, d3] ∧ (∃ sl, oL' = { oL with slots := sl })

theorem PairsAt.intro {prog : Program} {w : World} {A : Around} {s₁ : Shared} {env : Env} {h₀ : Heap} {xa xb : Str} {body : List Stmt} {Q : Flow → Shared → Prop} {E : Value → Shared → Prop} {l : Addr} {items : Array Value} {m : Str → Option Value} {news : List (Addr × Obj)} (J : Nat → (Str → Option Value) → List (Addr × Obj) → Prop)
    (hh : A.handled = none) (hl : h₀.IsList l items) (F : Fr h₀ env.locals s₁.heap m) (N : News h₀ env.locals s₁.heap news)
    (hit : ∀ (i : Nat) (v : Value), items[i]? = some v → ∃ (T : Addr) (va vb : Value), v = Value.ref T ∧ IsTup h₀ T #[va, vb]) (h0 : J 0 m news)
    (turn : ∀ (i : Nat) (T : Addr) (va vb : Value) m₁ news₁ I h tk oI (QT : Flow → Shared → Prop), (∀ f s', TurnEnd h₀ env.locals I oI (J (i + 1)) Q { s₁ with heap := h, toks := tk } f s' → QT f s') → items[i]? = some (Value.ref T) → IsTup h₀ T #[va, vb] → J i m₁ news₁ → (∀ p ∈ news₁, p.1 ≠ I) → I ≠ env.locals → h₀.get? I = none → oI.cls = Value.type "list_iterator" → Fr h₀ env.locals h (fun y => if y = xb then some vb else if y = xa then some va else m₁ y) → News h₀ env.locals h ((I, oI) :: news₁) →
      wpAny (model prog w) A (execs body env) QT E { s₁ with heap := h, toks := tk })
    (done : ∀ m' news' h tk, J items.size m' news' → Fr h₀ env.locals h m' → News h₀ env.locals h news' → Q .next { s₁ with heap := h, toks := tk }) : PairsAt prog w A h₀ env xa xb body Q E (.ref l) s₁ :=
  ⟨l, items, m, news, J, rfl, hh, hl, F, N, hit, h0, turn, done⟩
theorem rnJ.mk {rk : List (Int × Int)} {g : Heap} {L H Cl c K d1 d2 d3 Ll : Addr} {oL : Obj} {lenC bound i : Nat} {c' : Addr} {kv iv av : Option Value} {R C : List Int} {w1 w2 w3 cs : List Value} {m1 m2 m3 nc : Nat} {m : Str → Option Value} {sl : Array (Option Value)} (rest : List (Addr × Obj))
    (hm : m = rnM H Cl c K c' kv iv av) (hg : Good R C) (hC : C.length = lenC) (hR : R.length ≤ bound + i) (a1 : Are (repI rk) w1 R) (a2 : Are repR w2 R) (a3 : ∀ h' m', Fr g L h' m' → News g L h' rest → Are (repP h') w3 R)
    (now : ∀ h' m', Fr g L h' m' → News g L h' rest → h'.get? c' = some (lst cs nc)) (aC : Are repR cs C) (hc : c' ∉ [d1, d2, d3]) :
    rnJ rk g L H Cl c K d1 d2 d3 Ll oL lenC bound i m ((d1, lst w1 m1) :: (d2, lst w2 m2) :: (d3, lst w3 m3) :: (Ll, { oL with slots := sl }) :: rest) :=
  ⟨c', kv, iv, av, R, C, w1, w2, w3, cs, m1, m2, m3, nc, _, rest, hm, rfl, hg, hC, hR, a1, a2, a3, now, aC, hc, sl, rfl⟩
theorem rnJ.elim {rk : List (Int × Int)} {g : Heap} {L H Cl c K d1 d2 d3 Ll : Addr} {oL : Obj} {lenC bound i : Nat} {m : Str → Option Value} {news : List (Addr × Obj)} {P : Prop} (h : rnJ rk g L H Cl c K d1 d2 d3 Ll oL lenC bound i m news)
    (k : ∀ (c' : Addr) (kv iv av : Option Value) (R C : List Int) (w1 w2 w3 cs : List Value) (m1 m2 m3 nc : Nat) (rest : List (Addr × Obj)) (sl : Array (Option Value)), m = rnM H Cl c K c' kv iv av → news = (d1, lst w1 m1) :: (d2, lst w2 m2) :: (d3, lst w3 m3) :: (Ll, { oL with slots := sl }) :: rest → Good R C → C.length = lenC → R.length ≤ bound + i →
      Are (repI rk) w1 R → Are repR w2 R → (∀ h' m', Fr g L h' m' → News g L h' rest → Are (repP h') w3 R) → (∀ h' m', Fr g L h' m' → News g L h' rest → h'.get? c' = some (lst cs nc)) → Are repR cs C → c' ∉ [d1, d2, d3] → P) : P := by
  obtain ⟨c', kv, iv, av, R, C, w1, w2, w3, cs, m1, m2, m3, nc, oL', rest, e1, e2, h1, h2, h3, h4, h5, h6, h7, h8, h9, sl, rfl⟩ := h
  exact k c' kv iv av R C w1 w2 w3 cs m1 m2 m3 nc rest sl e1 e2 h1 h2 h3 h4 h5 h6 h7 h8 h9

structure CallsAre (h : Heap) (vs : List Value) (calls : List (Int × Int)) : Prop where
  len : vs.length = calls.length
  at' : ∀ (i : Nat) (v : Value) (q : Int × Int), vs[i]? = some v → calls[i]? = some q → ∃ T t t', v = .ref T ∧ IsTup h T #[.int q.1 t, .int q.2 t']

theorem law_run_ok (PL : Plain) {w : World} {mg mb : Str → Option Value} {b : Heap} {A : Around} {s : Shared} {Rr : Result → Shared → Prop} {H Cl c K d1 d2 d3 Ll : Addr} {v1 v2 v3 cs clv : List Value} {nH n1 n2 n3 nc ncl : Nat} {oL : Obj} {el : Env} {R C : List Int} {rk : List (Int × Int)} {calls : List (Int × Int)}
    (G : Gr w mg mb b) (hb : b.StaysIn s.heap) (hroom : Room 16 A) (hh : A.handled = none)
    (hfr : A.frames = some [el]) (hfl : el.frame = some Ll) (hkl : el.scope.kind ≠ .module) (hL0 : s.heap.get? Ll = some oL) (hLd : ∃ es n, oL.data = .dict es n)
    (hbL : b.get? Ll = none) (hb1 : b.get? d1 = none) (hb2 : b.get? d2 = none) (hb3 : b.get? d3 = none)
    (hH : s.heap.get? H = some (lst [.ref d1, .ref d2, .ref d3] nH)) (hHn : H ∉ [d1, d2, d3]) (hKn : K ∉ [d1, d2, d3, Ll]) (hcn : c ∉ [d1, d2, d3]) (hCn : Cl ∉ [d1, d2, d3]) (h12 : d1 ≠ d2) (h13 : d1 ≠ d3) (h23 : d2 ≠ d3)
    (h1 : s.heap.get? d1 = some (lst v1 n1)) (h2 : s.heap.get? d2 = some (lst v2 n2)) (h3 : s.heap.get? d3 = some (lst v3 n3)) (hc : s.heap.get? c = some (lst cs nc)) (hCl : s.heap.get? Cl = some (lst clv ncl))
    (hK : RanksOK w s.heap K rk) (hm : Mono rk) (r1 : Are (repI rk) v1 R) (r2 : Are repR v2 R) (r3 : Are (repP s.heap) v3 R) (rC : Are repR cs C) (hg0 : Good R C) (hsm : R.length + calls.length < 60) (hsmC : C.length < 60)
    (hca : CallsAre s.heap clv calls) (hcq : ∀ q ∈ calls, 0 ≤ q.1 ∧ q.1 ≤ 4 ∧ ∃ x, (q.2, x) ∈ rk ∧ 0 ≤ x ∧ x < C.length)
    (k : ∀ s', ChgF [d1, d2, d3] [Ll] s s' → Rr (.ok (.ret (.bool true))) s') :
    codeAny (model Challenge.rw_mj0021_01.row.prog w) A (.call (.ref 113) ⟨[.ref H, .ref Cl, .ref c, .ref K], []⟩) Rr s := by
  have G' := G.kx
  revert G'
  k_fill
  intro G'
  refine' enter2 (binds := [(Str.ofString "heaps", .ref H), (Str.ofString "calls", .ref Cl), (Str.ofString "counts", .ref c), (Str.ofString "ranks", .ref K)]) [(d1, lst v1 n1), (d2, lst v2 n2), (d3, lst v3 n3), (Ll, oL)] G hb ?h1 ?h2 ?ho ?hcd ?hr ?bi ?lo ?_ ?c1 ?c2 ?c3 ?c4
  case h1 => simp [hb1, hb2, hb3, hbL]
  case h2 => simp [h1, h2, h3, hL0]
  case ho => k_is
  case hcd => k_is
  case hr => exact Nat.lt_of_le_of_lt (Nat.le_add_right _ _) hroom.1
  case bi => exact BindsTo.of_eq rfl
  case lo => exact locs rfl
  case c1 => exact rfl
  case c2 => exact rfl
  case c3 => exact rfl
  case c4 => decide
  intro g L h₁ G₁ hg F' N' hLs hall
  have KX := G₁.kx
  have T' := G₁.top
  have hR60 : R.length < 60 := Nat.lt_of_le_of_lt (Nat.le_add_right _ _) hsm
  refine gen_goal fun QQ hQQ => ?_
  obtain ⟨esL, nL, hLd⟩ := hLd
  have apart : ∀ {p q : Addr} {o o' : Obj}, s.heap.get? p = some o → s.heap.get? q = some o' → o ≠ o' → p ≠ q := fun h1 h2 h3 e => by subst e; rw [h1] at h2; cases h2; exact h3 rfl
  have nd : ∀ {vs : List Value} {n : Nat} {o : Obj} {es ep}, o.data = .dict es ep → lst vs n ≠ o := fun hd e => by rw [← e] at hd; cases hd
  have hin : ∀ {p : Addr} {vs : List Value} {n : Nat}, s.heap.get? p = some (lst vs n) → p ∉ [d1, d2, d3] → g.get? p = some (lst vs n) := fun {p vs n} e hn => hg _ _ (by
    have : p ≠ Ll := apart e hL0 (nd hLd)
    simp only [List.mem_cons, List.not_mem_nil, or_false, not_or] at hn
    simp [hn, this]) e
  have gH := hin hH hHn
  have iH : g.IsList H [.ref d1, .ref d2, .ref d3].toArray := PySem.IsL.isList gH
  have gc := hin hc hcn
  have gCl := hin hCl hCn
  have gK : RanksOK w g K rk := ⟨hK.low, by
    obtain ⟨kvs, ⟨o, es, ep, e, r⟩, hv⟩ := hK.dict
    exact ⟨kvs, ⟨o, es, ep, hg _ _ hKn e, r⟩, hv⟩⟩
  (repeat' (first | (k_unfold; (try dsimp only)) | ((fail_if_success (with_reducible show wpAny _ _ (exec (Stmt.While _ _ _ _) _) _ _ _)); (fail_if_success (with_reducible show wpAny _ _ (exec (Stmt.For _ _ _ _ _) _) _ _ _)); (fail_if_success (with_reducible show wpAny _ _ (call (Value.ref _) _) _ _ _)); (fail_if_success (with_reducible show wpAny _ _ (compareOp _ (Value.ref _) (Value.ref _)) _ _ _)); (fail_if_success (with_reducible show wpAny _ _ (exec (Stmt.Assign _ (Expr.ListComp _ _ _ _) _) _) _ _ _)); (fail_if_success (with_reducible show wpAny _ _ (eval (Expr.ListComp _ _ _ _) _) _ _ _)); (first | walk1 | (dsimp only; walk1)); (try dsimp only)) | fail "no step"))
  have r3' : Are (repP h₁) v3 R := r3.mono fun v r q => q.keeps hall
  refine wpAny_call (law_alike_ok (b := h₁) (rk := rk) (G₁.keeps F'.keep) (fun _ _ e => e) (hroom.call (by decide)) hh (F'.keep _ _ gH) (N' (d1, _) (.head _)).1 (N' (d2, _) (.tail _ (.head _))).1 (N' (d3, _) (.tail _ (.tail _ (.head _)))).1 (gK.stays F'.keep) r1 r2 r3' (Nat.lt_trans hR60 (by decide)) fun s' hch => ?_)
  obtain ⟨hA0, tkA0, rfl, hkA0⟩ := hch
  have upA0 : h₁.StaysIn hA0 := fun b o e => hkA0 b o (by simp) e
  have FA0 := F'.keeps upA0
  have NA0 := N'.grown upA0
  clear F' N'
  dsimp only
  (repeat' (first | (k_unfold; (try dsimp only)) | ((fail_if_success (with_reducible show wpAny _ _ (exec (Stmt.While _ _ _ _) _) _ _ _)); (fail_if_success (with_reducible show wpAny _ _ (exec (Stmt.For _ _ _ _ _) _) _ _ _)); (fail_if_success (with_reducible show wpAny _ _ (call (Value.ref _) _) _ _ _)); (fail_if_success (with_reducible show wpAny _ _ (compareOp _ (Value.ref _) (Value.ref _)) _ _ _)); (fail_if_success (with_reducible show wpAny _ _ (exec (Stmt.Assign _ (Expr.ListComp _ _ _ _) _) _) _ _ _)); (fail_if_success (with_reducible show wpAny _ _ (eval (Expr.ListComp _ _ _ _) _) _ _ _)); (first | walk1 | (dsimp only; walk1)); (try dsimp only)) | fail "no step"))
  refine wpAny_call (law_sound_ok (b := hA0) (G₁.keeps FA0.keep) (fun _ _ e => e) (hroom.call (by decide)) hh (NA0 (d2, _) (.tail _ (.head _))).1 (by exact upA0 _ _ (hall _ _ hc)) r2 rC (Nat.lt_trans hR60 (by decide)) (Nat.lt_trans hsmC (by decide)) hg0.heap hg0.nonneg hg0.perm (PL.fix hg0) (PL.fix2 _) fun s' hch => ?_)
  obtain ⟨hB0, tkB0, rfl, hkB0⟩ := hch
  have upB0 : hA0.StaysIn hB0 := fun b o e => hkB0 b o (by simp) e
  have FB0 := FA0.keeps upB0
  have NB0 := NA0.grown upB0
  clear FA0 NA0
  dsimp only
  have MB := And.intro FB0 NB0
  (repeat' (first | (k_unfold; (try dsimp only)) | ((fail_if_success (with_reducible show wpAny _ _ (exec (Stmt.While _ _ _ _) _) _ _ _)); (fail_if_success (with_reducible show wpAny _ _ (exec (Stmt.For _ _ _ _ _) _) _ _ _)); (fail_if_success (with_reducible show wpAny _ _ (call (Value.ref _) _) _ _ _)); (fail_if_success (with_reducible show wpAny _ _ (compareOp _ (Value.ref _) (Value.ref _)) _ _ _)); (fail_if_success (with_reducible show wpAny _ _ (exec (Stmt.Assign _ (Expr.ListComp _ _ _ _) _) _) _ _ _)); (fail_if_success (with_reducible show wpAny _ _ (eval (Expr.ListComp _ _ _ _) _) _ _ _)); (first | walk1 | (dsimp only; walk1)); (try dsimp only)) | fail "no step"))
  rename_i h2' F2 N2
  refine For_pairs g rfl rfl rfl ?_
  (repeat' (first | (k_unfold; (try dsimp only)) | ((fail_if_success (with_reducible show wpAny _ _ (exec (Stmt.While _ _ _ _) _) _ _ _)); (fail_if_success (with_reducible show wpAny _ _ (exec (Stmt.For _ _ _ _ _) _) _ _ _)); (fail_if_success (with_reducible show wpAny _ _ (call (Value.ref _) _) _ _ _)); (fail_if_success (with_reducible show wpAny _ _ (compareOp _ (Value.ref _) (Value.ref _)) _ _ _)); (fail_if_success (with_reducible show wpAny _ _ (exec (Stmt.Assign _ (Expr.ListComp _ _ _ _) _) _) _ _ _)); (fail_if_success (with_reducible show wpAny _ _ (eval (Expr.ListComp _ _ _ _) _) _ _ _)); (first | walk1 | (dsimp only; walk1)); (try dsimp only)) | fail "no step"))
  have np0 : NotPairs s.heap [d1, d2, d3, Ll] := by
    intro d hd
    simp only [List.mem_cons, List.not_mem_nil, or_false] at hd
    rcases hd with rfl | rfl | rfl | rfl
    · exact ⟨_, h1, lst_notpair _ _⟩
    · exact ⟨_, h2, lst_notpair _ _⟩
    · exact ⟨_, h3, lst_notpair _ _⟩
    · exact ⟨_, hL0, .inr fun vs n q => by rw [hLd] at q; cases q⟩
  have rg3 : Are (repP g) v3 R := r3.mono fun v r q => by
    obtain ⟨p, e, hp⟩ := q
    refine ⟨p, e, ?_⟩
    obtain ⟨o, n, t, u, ho, rest⟩ := id hp
    refine ⟨o, n, t, u, hg p o (fun q => ?_) ho, rest⟩
    obtain ⟨o', ho', hno⟩ := np0 p q
    exact pair_apart hp ho' hno rfl
  have hcag : CallsAre g clv calls := ⟨hca.len, fun i v q hv hq => by
    obtain ⟨T, t, t', e, o, ho, hcT, nT, hdT⟩ := hca.at' i v q hv hq
    refine ⟨T, t, t', e, o, hg T o (fun z => ?_) ho, hcT, nT, hdT⟩
    obtain ⟨o', ho', hno⟩ := np0 T z
    rw [ho] at ho'; cases ho'
    rcases hno with hno | hno
    · exact hno hcT
    · exact hno _ _ hdT⟩
  refine PairsAt.intro (rnJ rk g L H Cl c K d1 d2 d3 Ll oL C.length R.length) hh (PySem.IsL.isList gCl) F2 N2 ?_ ?_ ?_ ?_
  · intro i v hv
    have hv' : clv[i]? = some v := by simpa using hv
    have hil : i < calls.length := by rw [← hca.len]; exact (List.getElem?_eq_some_iff.mp hv').1
    obtain ⟨T, t, t', e, hT⟩ := hcag.at' i v calls[i] hv' (List.getElem?_eq_getElem hil)
    exact ⟨T, _, _, e, hT⟩
  · refine rnJ.mk (c' := c) (kv := none) (iv := none) (av := none) (sl := oL.slots) [] ?_ hg0 rfl (Nat.le_refl _) r1 r2 (fun h' m' F N => rg3.mono fun v r q => q.keeps F.keep) (fun h' m' F N => F.keep _ _ gc) rC hcn
    refine names_eq rnN (by (repeat' (first | exact rfl | exact List.forall_mem_nil _ | (refine List.forall_mem_cons.mpr ⟨?_, ?_⟩)))) ?_
    unfold rnN
    ((intro y hy; (simp only [List.mem_cons, List.not_mem_nil, or_false, not_or] at hy); (simp only [List.reverse_cons, List.reverse_nil, List.nil_append, List.cons_append, Mine.lookup_ite, List.lookup_nil, Mine.asc, hy, if_false])))
  · intro i T va vb m₁ news₁ I h tk oI QT hQT hv hT hJ off hIL hI0 hIc F3 N3
    refine hJ.elim fun c' kv iv av R' C' w1 w2 w3 cs' m1 m2 m3 nc' rest sl0 eqm eqn hgd hCl' hRl a1 a2 a3 anow aC hc'n => ?_
    clear hJ
    subst eqm eqn
    have hv' : clv[i]? = some (.ref T) := by simpa using hv
    have hil : i < calls.length := by rw [← hca.len]; exact (List.getElem?_eq_some_iff.mp hv').1
    obtain ⟨T', tq, tq', eT, hT'⟩ := hcag.at' i _ calls[i] hv' (List.getElem?_eq_getElem hil)
    cases eT
    obtain ⟨ekind, eitem⟩ : va = .int calls[i].1 tq ∧ vb = .int calls[i].2 tq' := by
      obtain ⟨o, e, _, n, d⟩ := hT
      obtain ⟨o', e', _, n', d'⟩ := hT'
      rw [e] at e'; cases e'
      rw [d] at d'
      injection d' with d1 d2
      have := congrArg Array.toList d1
      simpa using this
    subst ekind eitem
    obtain ⟨hq0, hq4, x, hxrk, hx0, hxC⟩ := hcq _ (List.getElem_mem hil)
    generalize calls[i].1 = kind at *
    generalize calls[i].2 = item at *
    have eM : (fun y => if y = Str.ofString "item" then some (Value.int item tq') else if y = Str.ofString "kind" then some (Value.int kind tq) else rnM H Cl c K c' kv iv av y) = rnM H Cl c K c' (some (.int kind tq)) (some (.int item tq')) av := by
      refine names_eq rnN (by (repeat' (first | exact rfl | exact List.forall_mem_nil _ | (refine List.forall_mem_cons.mpr ⟨?_, ?_⟩)))) ?_
      unfold rnN
      ((intro y hy; (simp only [List.mem_cons, List.not_mem_nil, or_false, not_or] at hy); (simp only [List.reverse_cons, List.reverse_nil, List.nil_append, List.cons_append, Mine.lookup_ite, List.lookup_nil, Mine.asc, hy, if_false])))
    rw [eM] at F3
    obtain ⟨kvs, hdk, hval⟩ := gK.dict
    obtain ⟨tr, hvr⟩ := hval _ hxrk
    have M3 := And.intro F3 N3
    clear F2 N2
    (repeat' (first | (k_unfold; (try dsimp only)) | ((fail_if_success (with_reducible show wpAny _ _ (exec (Stmt.While _ _ _ _) _) _ _ _)); (fail_if_success (with_reducible show wpAny _ _ (exec (Stmt.For _ _ _ _ _) _) _ _ _)); (fail_if_success (with_reducible show wpAny _ _ (call (Value.ref _) _) _ _ _)); (fail_if_success (with_reducible show wpAny _ _ (compareOp _ (Value.ref _) (Value.ref _)) _ _ _)); (fail_if_success (with_reducible show wpAny _ _ (exec (Stmt.Assign _ (Expr.ListComp _ _ _ _) _) _) _ _ _)); (fail_if_success (with_reducible show wpAny _ _ (eval (Expr.ListComp _ _ _ _) _) _ _ _)); (first | walk1 | (dsimp only; walk1)); (try dsimp only)) | fail "no step"))
    refine my_item (DictOf.stays hdk M3.1.keep) hvr ?_ (by with_unfolding_all rfl) (by intro _; with_unfolding_all rfl)
    (repeat' (first | (k_unfold; (try dsimp only)) | ((fail_if_success (with_reducible show wpAny _ _ (exec (Stmt.While _ _ _ _) _) _ _ _)); (fail_if_success (with_reducible show wpAny _ _ (exec (Stmt.For _ _ _ _ _) _) _ _ _)); (fail_if_success (with_reducible show wpAny _ _ (call (Value.ref _) _) _ _ _)); (fail_if_success (with_reducible show wpAny _ _ (compareOp _ (Value.ref _) (Value.ref _)) _ _ _)); (fail_if_success (with_reducible show wpAny _ _ (exec (Stmt.Assign _ (Expr.ListComp _ _ _ _) _) _) _ _ _)); (fail_if_success (with_reducible show wpAny _ _ (eval (Expr.ListComp _ _ _ _) _) _ _ _)); (first | walk1 | (dsimp only; walk1)); (try dsimp only)) | fail "no step"))
    have hnow3 := anow h _ M3.1 (fun p hp => M3.2 p (.tail _ (.tail _ (.tail _ (.tail _ (.tail _ hp))))))
    have hpair3 := a3 h _ M3.1 (fun p hp => M3.2 p (.tail _ (.tail _ (.tail _ (.tail _ (.tail _ hp))))))
    refine wpAny_call (law_told_ok (b := h) (G₁.keeps M3.1.keep) (fun _ _ e => e) (hroom.call (by decide)) hh hnow3 aC (by rw [hCl']; exact Nat.lt_trans hsmC (by decide)) hq0 hq4 fun s' T2 oT2 nt2 va2 c2 cs2 nc2 hch hT0 hTe hTc hTd hc2 hc2e hC2 hA2 => ?_)
    obtain ⟨h4, tk4, rfl, hk4⟩ := hch
    have up4 : h.StaysIn h4 := fun b o e => hk4 b o (by simp) e
    have F4 := M3.1.keeps up4
    have N4 := M3.2.grown up4
    have hpair4 : Are (repP h4) w3 R' := hpair3.mono fun v r q => q.keeps up4
    have hLns : h.Ns L _ := M3.1.ns
    obtain ⟨oLL, esLL, epLL, eLL, dLL, _⟩ := hLns
    replace hT0 : h.get? T2 = none := hT0
    replace hc2e : h4.get? c2 = some (lst cs2 nc2) := hc2e
    replace hc2 : c2 = c' ∨ h.get? c2 = none := hc2
    have hT2L : T2 ≠ L := fun q => by rw [q] at hT0; rw [hT0] at eLL; cases eLL
    have hgn : ∀ a, h.get? a = none → g.get? a = none := fun a e => by
      cases q : g.get? a with
      | none => rfl
      | some o => have := M3.1.keep a o q; rw [e] at this; cases this
    have hc2L : c2 ≠ L := by
      rintro rfl
      have := up4 _ _ eLL
      rw [hc2e] at this
      cases this
      cases dLL
    have hc2n : c2 ∉ [d1, d2, d3] := by
      rcases hc2 with rfl | hc2
      · exact hc'n
      · intro q
        simp only [List.mem_cons, List.not_mem_nil, or_false] at q
        rcases q with rfl | rfl | rfl
        · have := (M3.2 _ (.tail _ (.head _))).1; rw [hc2] at this; cases this
        · have := (M3.2 _ (.tail _ (.tail _ (.head _)))).1; rw [hc2] at this; cases this
        · have := (M3.2 _ (.tail _ (.tail _ (.tail _ (.head _))))).1; rw [hc2] at this; cases this
    have N5 : News g L h4 ((I, oI) :: (d1, lst w1 m1) :: (d2, lst w2 m2) :: (d3, lst w3 m3) :: (Ll, { oL with slots := sl0 }) :: (crest g c2 (lst cs2 nc2) ++ pairsOf g h4 w3)) := by
      intro p hp
      rcases List.mem_cons.mp hp with rfl | hp
      · exact N4 _ (.head _)
      rcases List.mem_cons.mp hp with rfl | hp
      · exact N4 _ (.tail _ (.head _))
      rcases List.mem_cons.mp hp with rfl | hp
      · exact N4 _ (.tail _ (.tail _ (.head _)))
      rcases List.mem_cons.mp hp with rfl | hp
      · exact N4 _ (.tail _ (.tail _ (.tail _ (.head _))))
      rcases List.mem_cons.mp hp with rfl | hp
      · exact N4 _ (.tail _ (.tail _ (.tail _ (.tail _ (.head _)))))
      rcases List.mem_append.mp hp with hp | hp
      · exact crest_news hc2e hc2L p hp
      · exact pairs_news F4 hpair4.all p hp
    clear F3 N3 N4 M3
    dsimp only
    refine assign_Tuple_tuple hh (show IsTup h4 T2 #[va2, .ref c2] from ⟨oT2, hTe, hTc, nt2, hTd⟩) rfl rfl fun h5 he5 => ?_
    have up5 : h4.StaysIn h5 := fun b o e => he5 b o (Nat.ne_of_lt (Heap.lt_size e)) e
    have F5 := F4.keeps up5
    have N5' := N5.grown up5
    refine assignInOrder_cons (wpAny_assign_Name (wpAny_storeName_local rfl F5.ns (fun h6 hn6 hs6 => ?_) rfl))
    have F6 := F5.set hn6 hs6
    have N6 := N5'.set hs6
    refine assignInOrder_cons (wpAny_assign_Name (wpAny_storeName_local rfl F6.ns (fun h7 hn7 hs7 => ?_) rfl))
    have F7 := F6.set hn7 hs7
    have N7 := N6.set hs7
    refine assignInOrder_nil ?_
    clear F5 N5' F6 N6
    have eM7 : (fun y => if y = Str.ofString "now" then some (Value.ref c2) else if y = Str.ofString "answer" then some va2 else rnM H Cl c K c' (some (.int kind tq)) (some (.int item tq')) av y) = rnM H Cl c K c2 (some (.int kind tq)) (some (.int item tq')) (some va2) := by
      refine names_eq rnN (by (repeat' (first | exact rfl | exact List.forall_mem_nil _ | (refine List.forall_mem_cons.mpr ⟨?_, ?_⟩)))) ?_
      unfold rnN
      ((intro y hy; (simp only [List.mem_cons, List.not_mem_nil, or_false, not_or] at hy); (simp only [List.reverse_cons, List.reverse_nil, List.nil_append, List.cons_append, Mine.lookup_ite, List.lookup_nil, Mine.asc, hy, if_false])))
    rw [eM7] at F7
    have hpair7 : Are (repP h7) w3 R' := are_end F4 F7 (fun p hp => N7 p (.tail _ (.tail _ (.tail _ (.tail _ (.tail _ (List.mem_append_right _ hp))))))) (fun v hv => hv) hpair4
    have hc27 : h7.get? c2 = some (lst cs2 nc2) := crest_get F4 hc2e F7 (fun p hp => N7 p (.tail _ (.tail _ (.tail _ (.tail _ (.tail _ (List.mem_append_left _ hp)))))))
    have M7 := And.intro F7 N7
    clear F4 N5
    (repeat' (first | (k_unfold; (try dsimp only)) | ((fail_if_success (with_reducible show wpAny _ _ (exec (Stmt.While _ _ _ _) _) _ _ _)); (fail_if_success (with_reducible show wpAny _ _ (exec (Stmt.For _ _ _ _ _) _) _ _ _)); (fail_if_success (with_reducible show wpAny _ _ (call (Value.ref _) _) _ _ _)); (fail_if_success (with_reducible show wpAny _ _ (compareOp _ (Value.ref _) (Value.ref _)) _ _ _)); (fail_if_success (with_reducible show wpAny _ _ (exec (Stmt.Assign _ (Expr.ListComp _ _ _ _) _) _) _ _ _)); (fail_if_success (with_reducible show wpAny _ _ (eval (Expr.ListComp _ _ _ _) _) _ _ _)); (first | walk1 | (dsimp only; walk1)); (try dsimp only)) | fail "no step"))
    refine my_item (DictOf.stays hdk M7.1.keep) hvr ?_ (by with_unfolding_all rfl) (by intro _; with_unfolding_all rfl)
    (repeat' (first | (k_unfold; (try dsimp only)) | ((fail_if_success (with_reducible show wpAny _ _ (exec (Stmt.While _ _ _ _) _) _ _ _)); (fail_if_success (with_reducible show wpAny _ _ (exec (Stmt.For _ _ _ _ _) _) _ _ _)); (fail_if_success (with_reducible show wpAny _ _ (call (Value.ref _) _) _ _ _)); (fail_if_success (with_reducible show wpAny _ _ (compareOp _ (Value.ref _) (Value.ref _)) _ _ _)); (fail_if_success (with_reducible show wpAny _ _ (exec (Stmt.Assign _ (Expr.ListComp _ _ _ _) _) _) _ _ _)); (fail_if_success (with_reducible show wpAny _ _ (eval (Expr.ListComp _ _ _ _) _) _ _ _)); (first | walk1 | (dsimp only; walk1)); (try dsimp only)) | fail "no step"))
    have hLns7 : h7.Ns L _ := M7.1.ns
    obtain ⟨o7, es7, ep7, e7, d7, _⟩ := hLns7
    have hLn : g.get? L = none := Heap.get?_none_of_le M7.1.above
    have hgLl : g.get? Ll = none := (M7.2 (Ll, _) (.tail _ (.tail _ (.tail _ (.tail _ (.head _)))))).2.2
    have hLLl : L ≠ Ll := Ne.symm (M7.2 (Ll, _) (.tail _ (.tail _ (.tail _ (.tail _ (.head _)))))).2.1
    have hI1 : I ≠ d1 := Ne.symm (off (d1, _) (.head _))
    have hI2 : I ≠ d2 := Ne.symm (off (d2, _) (.tail _ (.head _)))
    have hI3 : I ≠ d3 := Ne.symm (off (d3, _) (.tail _ (.tail _ (.head _))))
    have hILl : I ≠ Ll := Ne.symm (off (Ll, _) (.tail _ (.tail _ (.tail _ (.head _)))))
    have hgd3 : g.get? d1 = none ∧ g.get? d2 = none ∧ g.get? d3 = none := ⟨(M7.2 (d1, _) (.tail _ (.head _))).2.2, (M7.2 (d2, _) (.tail _ (.tail _ (.head _)))).2.2, (M7.2 (d3, _) (.tail _ (.tail _ (.tail _ (.head _))))).2.2⟩
    have hdL3 : d1 ≠ L ∧ d2 ≠ L ∧ d3 ≠ L := ⟨(M7.2 (d1, _) (.tail _ (.head _))).2.1, (M7.2 (d2, _) (.tail _ (.tail _ (.head _)))).2.1, (M7.2 (d3, _) (.tail _ (.tail _ (.tail _ (.head _))))).2.1⟩
    have hc2Ll : c2 ≠ Ll := fun q => by
      have z := (M7.2 (Ll, _) (.tail _ (.tail _ (.tail _ (.tail _ (.head _)))))).1
      have z2 : h7.get? Ll = some (lst cs2 nc2) := q ▸ hc27
      have z3 : some (lst cs2 nc2) = some _ := z2.symm.trans z
      injection z3 with z4
      exact nd (o := { oL with slots := sl0 }) hLd z4
    have hHL : H ≠ L := fun q => by rw [q, hLn] at gH; cases gH
    have hKL : K ≠ L := fun q => by
      obtain ⟨o, es, ep, e, _⟩ := hdk
      rw [q, hLn] at e; cases e
    refine wpAny_call (law_answers_ok (b := g) (Lr := L) (Ll := Ll) (rk := rk) (R := R') (x := x) G₁ M7.1.keep (hroom.call (by decide)) hh (Around.frames_deeper hfr) (by rfl) hfl (by exact (show ScopeKind.function ≠ ScopeKind.module by decide)) hkl e7 (M7.2 (Ll, _) (.tail _ (.tail _ (.tail _ (.tail _ (.head _)))))).1 ⟨_, _, d7⟩ ⟨_, _, hLd⟩ hLn hgLl hgd3.1 hgd3.2.1 hgd3.2.2
      (by exact M7.1.keep _ _ gH) ?_ ?_ h12 h13 h23 hLLl (M7.2 (d1, _) (.tail _ (.head _))).1 (M7.2 (d2, _) (.tail _ (.tail _ (.head _)))).1 (M7.2 (d3, _) (.tail _ (.tail _ (.tail _ (.head _))))).1 (by exact gK.stays M7.1.keep) hm hxrk a1 a2 hpair7 (Nat.lt_trans (Nat.lt_of_le_of_lt hRl (Nat.lt_trans (Nat.add_lt_add_left hil _) hsm)) (by decide)) fun s' va y1 y2 y3 p1 p2 p3 hch f1 f2 f3 q1 q2 q3 hans => ?_)
    · simp only [List.mem_cons, List.not_mem_nil, or_false, not_or] at hHn
      exact hHn
    · simp only [List.mem_cons, List.not_mem_nil, or_false, not_or] at hKn ⊢
      exact ⟨hKn.1, hKn.2.1, hKn.2.2.1, hKL, hKn.2.2.2⟩
    obtain ⟨h8, tk8, rfl, ka, kb⟩ := hch
    have F8 := fr_chgF M7.1 (D := [d1, d2, d3]) (fs := [L, Ll]) (by
      intro d hd
      simp only [List.mem_cons, List.not_mem_nil, or_false] at hd
      rcases hd with rfl | rfl | rfl
      · exact ⟨hgd3.1, hdL3.1⟩
      · exact ⟨hgd3.2.1, hdL3.2.1⟩
      · exact ⟨hgd3.2.2, hdL3.2.2⟩) (by
      intro f hf
      simp only [List.mem_cons, List.not_mem_nil, or_false] at hf
      rcases hf with rfl | rfl
      · exact hLn
      · exact hgLl) ka kb
    obtain ⟨sl8, eL8⟩ := kb Ll _ (by
      intro q
      simp only [List.mem_cons, List.not_mem_nil, or_false] at q
      have z := (M7.2 (Ll, _) (.tail _ (.tail _ (.tail _ (.tail _ (.head _)))))).1
      rcases q with q | q | q
      · have z2 := (M7.2 (d1, _) (.tail _ (.head _))).1
        rw [← q] at z2
        exact nd (o := { oL with slots := sl0 }) hLd (by injection z2.symm.trans z)
      · have z2 := (M7.2 (d2, _) (.tail _ (.tail _ (.head _)))).1
        rw [← q] at z2
        exact nd (o := { oL with slots := sl0 }) hLd (by injection z2.symm.trans z)
      · have z2 := (M7.2 (d3, _) (.tail _ (.tail _ (.tail _ (.head _))))).1
        rw [← q] at z2
        exact nd (o := { oL with slots := sl0 }) hLd (by injection z2.symm.trans z)) (by simp) (M7.2 (Ll, _) (.tail _ (.tail _ (.tail _ (.tail _ (.head _)))))).1
    have N8 : News g L h8 [(I, oI), (d1, lst y1 p1), (d2, lst y2 p2), (d3, lst y3 p3), (Ll, { oL with slots := sl8 })] := by
      intro p hp
      simp only [List.mem_cons, List.not_mem_nil, or_false] at hp
      rcases hp with rfl | rfl | rfl | rfl | rfl
      · exact ⟨ka _ _ (by simp [hI1, hI2, hI3]) (by simp [show I ≠ L from hIL, hILl]) (M7.2 (I, oI) (.head _)).1, (M7.2 (I, oI) (.head _)).2⟩
      · exact ⟨f1, (M7.2 (d1, _) (.tail _ (.head _))).2⟩
      · exact ⟨f2, (M7.2 (d2, _) (.tail _ (.tail _ (.head _)))).2⟩
      · exact ⟨f3, (M7.2 (d3, _) (.tail _ (.tail _ (.tail _ (.head _))))).2⟩
      · exact ⟨eL8, (M7.2 (Ll, _) (.tail _ (.tail _ (.tail _ (.tail _ (.head _)))))).2⟩
    have hc28 : h8.get? c2 = some (lst cs2 nc2) := ka _ _ hc2n (by simp [hc2L, hc2Ll]) hc27
    have hg2 := PL.next (kind := kind) (x := x) hgd hq0 hq4 hx0 (by rw [hCl']; exact hxC)
    have hlen2 : (callR R' kind x).2.length < 61 := Nat.lt_of_le_of_lt (PL.len (kind := kind) (x := x) hgd) (Nat.succ_lt_succ (Nat.lt_of_le_of_lt hRl (Nat.lt_trans (Nat.add_lt_add_left hil _) hsm)))
    have hsame := PL.same (kind := kind) (x := x) hgd hq0 hq4 hx0 (by rw [hCl']; exact hxC)
    clear F7 N7 M7
    dsimp only
    rw [hsame] at hans
    have hcmp : ∀ {A0 : Around} {Q0 : Value → Shared → Prop} {E0 : Value → Shared → Prop} {s0 : Shared}, Q0 (.bool false) s0 → wpAny (model Pg w) A0 (compareOp .NotEq va va2) Q0 E0 s0 := by
      intro A0 Q0 E0 s0 q
      cases hcr : (toldR C' kind x).1 with
      | nothing =>
        rw [hcr] at hans hA2
        have z1 : va = .none := hans
        have z2 : va2 = .none := hA2
        subst z1 z2
        exact PySem.EqNone.ne_none_none q
      | rank r =>
        rw [hcr] at hans hA2
        obtain ⟨z1, rfl⟩ := hans
        obtain ⟨z2, rfl⟩ := hA2
        refine PyProof.Rows.ne_int ?_
        rw [show (r != r) = false from by simp]
        exact q
      | text msg =>
        rw [hcr] at hans hA2
        obtain ⟨z1, rfl⟩ := hans
        obtain ⟨z2, rfl⟩ := hA2
        refine PyProof.Rows.ne_str ?_
        rw [show ∀ y : Str, (y != y) = false from fun y => by simp]
        exact q
    (repeat' (first | (k_unfold; (try dsimp only)) | ((fail_if_success (with_reducible show wpAny _ _ (exec (Stmt.While _ _ _ _) _) _ _ _)); (fail_if_success (with_reducible show wpAny _ _ (exec (Stmt.For _ _ _ _ _) _) _ _ _)); (fail_if_success (with_reducible show wpAny _ _ (call (Value.ref _) _) _ _ _)); (fail_if_success (with_reducible show wpAny _ _ (compareOp _ (Value.ref _) (Value.ref _)) _ _ _)); (fail_if_success (with_reducible show wpAny _ _ (exec (Stmt.Assign _ (Expr.ListComp _ _ _ _) _) _) _ _ _)); (fail_if_success (with_reducible show wpAny _ _ (eval (Expr.ListComp _ _ _ _) _) _ _ _)); (first | walk1 | (dsimp only; walk1)); (try dsimp only)) | fail "no step"))
    refine hcmp ?_
    (repeat' (first | (k_unfold; (try dsimp only)) | ((fail_if_success (with_reducible show wpAny _ _ (exec (Stmt.While _ _ _ _) _) _ _ _)); (fail_if_success (with_reducible show wpAny _ _ (exec (Stmt.For _ _ _ _ _) _) _ _ _)); (fail_if_success (with_reducible show wpAny _ _ (call (Value.ref _) _) _ _ _)); (fail_if_success (with_reducible show wpAny _ _ (compareOp _ (Value.ref _) (Value.ref _)) _ _ _)); (fail_if_success (with_reducible show wpAny _ _ (exec (Stmt.Assign _ (Expr.ListComp _ _ _ _) _) _) _ _ _)); (fail_if_success (with_reducible show wpAny _ _ (eval (Expr.ListComp _ _ _ _) _) _ _ _)); (first | walk1 | (dsimp only; walk1)); (try dsimp only)) | fail "no step"))
    refine wpAny_call (law_alike_ok (b := h8) (rk := rk) (G₁.keeps F8.keep) (fun _ _ e => e) (hroom.call (by decide)) hh (F8.keep _ _ gH) (N8 (d1, _) (.tail _ (.head _))).1 (N8 (d2, _) (.tail _ (.tail _ (.head _)))).1 (N8 (d3, _) (.tail _ (.tail _ (.tail _ (.head _))))).1 (gK.stays F8.keep) q1 q2 q3 (Nat.lt_trans hlen2 (by decide)) fun s' hch => ?_)
    obtain ⟨hA9, tkA9, rfl, hkA9⟩ := hch
    have upA9 : h8.StaysIn hA9 := fun b o e => hkA9 b o (by simp) e
    have FA9 := F8.keeps upA9
    have NA9 := N8.grown upA9
    clear F8 N8
    dsimp only
    (repeat' (first | (k_unfold; (try dsimp only)) | ((fail_if_success (with_reducible show wpAny _ _ (exec (Stmt.While _ _ _ _) _) _ _ _)); (fail_if_success (with_reducible show wpAny _ _ (exec (Stmt.For _ _ _ _ _) _) _ _ _)); (fail_if_success (with_reducible show wpAny _ _ (call (Value.ref _) _) _ _ _)); (fail_if_success (with_reducible show wpAny _ _ (compareOp _ (Value.ref _) (Value.ref _)) _ _ _)); (fail_if_success (with_reducible show wpAny _ _ (exec (Stmt.Assign _ (Expr.ListComp _ _ _ _) _) _) _ _ _)); (fail_if_success (with_reducible show wpAny _ _ (eval (Expr.ListComp _ _ _ _) _) _ _ _)); (first | walk1 | (dsimp only; walk1)); (try dsimp only)) | fail "no step"))
    refine wpAny_call (law_sound_ok (b := hA9) (G₁.keeps FA9.keep) (fun _ _ e => e) (hroom.call (by decide)) hh (NA9 (d2, _) (.tail _ (.tail _ (.head _)))).1 (by exact upA9 _ _ hc28) q2 hC2 (Nat.lt_trans hlen2 (by decide)) (by rw [PL.lenC, hCl']; exact Nat.lt_trans hsmC (by decide)) hg2.heap hg2.nonneg hg2.perm (PL.fix hg2) (PL.fix2 _) fun s' hch => ?_)
    obtain ⟨hB9, tkB9, rfl, hkB9⟩ := hch
    have upB9 : hA9.StaysIn hB9 := fun b o e => hkB9 b o (by simp) e
    have FB9 := FA9.keeps upB9
    have NB9 := NA9.grown upB9
    clear FA9 NA9
    dsimp only
    (repeat' (first | (k_unfold; (try dsimp only)) | ((fail_if_success (with_reducible show wpAny _ _ (exec (Stmt.While _ _ _ _) _) _ _ _)); (fail_if_success (with_reducible show wpAny _ _ (exec (Stmt.For _ _ _ _ _) _) _ _ _)); (fail_if_success (with_reducible show wpAny _ _ (call (Value.ref _) _) _ _ _)); (fail_if_success (with_reducible show wpAny _ _ (compareOp _ (Value.ref _) (Value.ref _)) _ _ _)); (fail_if_success (with_reducible show wpAny _ _ (exec (Stmt.Assign _ (Expr.ListComp _ _ _ _) _) _) _ _ _)); (fail_if_success (with_reducible show wpAny _ _ (eval (Expr.ListComp _ _ _ _) _) _ _ _)); (first | walk1 | (dsimp only; walk1)); (try dsimp only)) | fail "no step"))
    have q3' : Are (repP hB9) y3 _ := q3.mono fun v r q => q.keeps fun a o e => upB9 a o (upA9 a o e)
    have hc2B : hB9.get? c2 = some (lst cs2 nc2) := upB9 _ _ (upA9 _ _ hc28)
    have eI9 := (NB9 (I, oI) (.head _)).1
    have NE : News g L hB9 ((I, oI) :: (d1, lst y1 p1) :: (d2, lst y2 p2) :: (d3, lst y3 p3) :: (Ll, { oL with slots := sl8 }) :: (crest g c2 (lst cs2 nc2) ++ pairsOf g hB9 y3)) := by
      intro p hp
      rcases List.mem_cons.mp hp with rfl | hp
      · exact NB9 _ (.head _)
      rcases List.mem_cons.mp hp with rfl | hp
      · exact NB9 _ (.tail _ (.head _))
      rcases List.mem_cons.mp hp with rfl | hp
      · exact NB9 _ (.tail _ (.tail _ (.head _)))
      rcases List.mem_cons.mp hp with rfl | hp
      · exact NB9 _ (.tail _ (.tail _ (.tail _ (.head _))))
      rcases List.mem_cons.mp hp with rfl | hp
      · exact NB9 _ (.tail _ (.tail _ (.tail _ (.tail _ (.head _)))))
      rcases List.mem_append.mp hp with hp | hp
      · exact crest_news hc2B hc2L p hp
      · exact pairs_news FB9 q3'.all p hp
    refine hQT _ _ (TurnEnd.next FB9 NE ?_ ?_)
    · intro p hp
      rcases List.mem_cons.mp hp with rfl | hp
      · exact Ne.symm hI1
      rcases List.mem_cons.mp hp with rfl | hp
      · exact Ne.symm hI2
      rcases List.mem_cons.mp hp with rfl | hp
      · exact Ne.symm hI3
      rcases List.mem_cons.mp hp with rfl | hp
      · exact Ne.symm hILl
      rcases List.mem_append.mp hp with hp | hp
      · rw [crest_mem hp]
        intro q
        have q' : c2 = I := q
        rw [q'] at hc2B
        have z : some (lst cs2 nc2) = some oI := hc2B.symm.trans eI9
        injection z with z
        rw [← z] at hIc
        simp at hIc
      · obtain ⟨b1, b2, b3⟩ := pairsOf_mem hp
        obtain ⟨r0, p0, e0, hp0⟩ := q3'.all _ b1
        cases e0
        exact pair_apart hp0 eI9 (.inl (by rw [hIc]; intro z; simp at z))
    · exact rnJ.mk (c' := c2) (R := (callR R' kind x).2) (C := (toldR C' kind x).2) (cs := cs2) (nc := nc2) _ rfl hg2 (by rw [PL.lenC]; exact hCl') (Nat.le_trans (PL.len (kind := kind) (x := x) hgd) (Nat.succ_le_succ hRl)) q1 q2
          (fun h' m' F N => are_end FB9 F (fun p hp => N p (List.mem_append_right _ hp)) (fun v hv => hv) q3') (fun h' m' F N => crest_get FB9 hc2B F (fun p hp => N p (List.mem_append_left _ hp))) hC2 hc2n
  · intro m' news' h tk hJ F3 N3
    refine hJ.elim fun c' kv iv av R' C' w1 w2 w3 cs' m1 m2 m3 nc' rest sl0 eqm eqn hgd hCl' hRl a1 a2 a3 anow aC hc'n => ?_
    clear hJ
    subst eqm eqn
    clear F2 N2
    dsimp only
    (repeat' (first | (k_unfold; (try dsimp only)) | ((fail_if_success (with_reducible show wpAny _ _ (exec (Stmt.While _ _ _ _) _) _ _ _)); (fail_if_success (with_reducible show wpAny _ _ (exec (Stmt.For _ _ _ _ _) _) _ _ _)); (fail_if_success (with_reducible show wpAny _ _ (call (Value.ref _) _) _ _ _)); (fail_if_success (with_reducible show wpAny _ _ (compareOp _ (Value.ref _) (Value.ref _)) _ _ _)); (fail_if_success (with_reducible show wpAny _ _ (exec (Stmt.Assign _ (Expr.ListComp _ _ _ _) _) _) _ _ _)); (fail_if_success (with_reducible show wpAny _ _ (eval (Expr.ListComp _ _ _ _) _) _ _ _)); (first | walk1 | (dsimp only; walk1)); (try dsimp only)) | fail "no step"))
    refine hQQ _ _ (k _ ⟨h, _, rfl, fun a o hn hn2 e => F3.keep a o (hg a o ?_ e), fun a o hn hf e => ?_⟩)
    · simp only [List.map_cons, List.map_nil, List.mem_cons, List.not_mem_nil, or_false, not_or] at hn hn2 ⊢
      exact ⟨hn.1, hn.2.1, hn.2.2, hn2⟩
    · rw [List.mem_singleton.mp hf] at e ⊢
      rw [hL0] at e; cases e
      exact ⟨sl0, (N3 (Ll, _) (.tail _ (.tail _ (.tail _ (.head _))))).1⟩
end Mine

-- P
namespace Mine

theorem gs {R : List Int} {p : Nat} {v : Int} (i : Nat) (hp : p < R.length) : (R.set p v).getD i 0 = if i = p then v else R.getD i 0 := by
  simp only [List.getD_eq_getElem?_getD, List.getElem?_set]
  by_cases h : i = p
  · subst h; simp [hp]
  · have h' : ¬ p = i := fun e => h e.symm
    simp [h, h']

theorem set_self {R : List Int} {p : Nat} {v : Int} (hp : p < R.length) (h : R.getD p 0 = v) : R.set p v = R := by
  apply List.ext_getElem (by simp)
  intro i h1 h2
  rw [List.getElem_set]
  split
  · rename_i e; subst e; rw [← h]; simp [List.getD_eq_getElem?_getD, hp]
  · rfl

theorem half_ne {p : Nat} (h : 1 ≤ p) : (p - 1) / 2 ≠ p := Nat.ne_of_lt (half_lt' h)
theorem kid_or {p i : Nat} (h1 : 1 ≤ i) (h3 : (i - 1) / 2 = p) : i = 2 * p + 1 ∨ i = 2 * p + 1 + 1 := by
  subst h3
  cases i with
  | zero => cases h1
  | succ j =>
    rw [Nat.add_sub_cancel]
    have e := Nat.div_add_mod j 2
    rcases Nat.mod_two_eq_zero_or_one j with h | h
    · rw [h] at e; exact .inl (congrArg (· + 1) e.symm)
    · rw [h] at e; exact .inr (congrArg (· + 1) e.symm)
theorem half_up {i n : Nat} (h1 : 1 ≤ i) (h2 : i < n) : (i - 1) / 2 < n / 2 := by
  cases i with
  | zero => cases h1
  | succ j => exact Nat.le_trans (Nat.le_of_eq (Nat.add_div_right j (by decide)).symm) (Nat.div_le_div_right h2)
theorem no_kids {i p n : Nat} (h1 : 1 ≤ i) (h2 : i < n) (h3 : (i - 1) / 2 = p) (hc : ¬ 2 * p + 1 < n) : False :=
  (kid_or h1 h3).elim (fun e => hc (e ▸ h2)) (fun e => hc (Nat.lt_trans (Nat.lt_succ_self _) (Nat.lt_of_le_of_lt (Nat.le_of_eq e.symm) h2)))

/-- edges whose upper end lies at k or behind it -/
noncomputable def HP (R : List Int) (k : Nat) : Prop := ∀ i, 1 ≤ i → i < R.length → k ≤ (i - 1) / 2 → R.getD ((i - 1) / 2) 0 ≤ R.getD i 0

inductive Desc (st : Nat) : Nat → Prop
  | here : Desc st st
  | kid {p : Nat} : 1 ≤ p → Desc st ((p - 1) / 2) → Desc st p
theorem Desc.le {st p : Nat} (h : Desc st p) : st ≤ p := by
  induction h with
  | here => exact Nat.le_refl _
  | kid h1 _ ih => exact Nat.le_trans ih (Nat.le_of_lt (half_lt' h1))
theorem Desc.up {st p : Nat} (h : Desc st p) (hl : st < p) : 1 ≤ p ∧ Desc st ((p - 1) / 2) := by
  cases h with
  | here => exact absurd hl (Nat.lt_irrefl _)
  | kid h1 h2 => exact ⟨h1, h2⟩
theorem Desc.zero (p : Nat) : Desc 0 p := by
  induction p using Nat.strongRecOn with
  | _ p ih =>
    cases p with
    | zero => exact .here
    | succ p => exact .kid (Nat.le_add_left _ _) (ih _ (half_lt' (Nat.succ_pos p)))

structure Hole (R : List Int) (st p : Nat) : Prop where
  off : ∀ i, 1 ≤ i → i < R.length → st ≤ (i - 1) / 2 → i ≠ p → (i - 1) / 2 ≠ p → R.getD ((i - 1) / 2) 0 ≤ R.getD i 0
  over : ∀ i, 1 ≤ i → i < R.length → (i - 1) / 2 = p → 1 ≤ p → st ≤ (p - 1) / 2 → R.getD ((p - 1) / 2) 0 ≤ R.getD i 0

theorem sd_heap {x : Int} {st : Nat} : ∀ (p : Nat) (R : List Int), p < R.length → Desc st p → Hole R st p → (∀ i, 1 ≤ i → i < R.length → (i - 1) / 2 = p → x ≤ R.getD i 0) → HP (sdLoop R x st p) st := by
  intro p
  induction p using Nat.strongRecOn with
  | _ p ih =>
    intro R hp hd hh hk
    have fin : (st < p → R.getD ((p - 1) / 2) 0 ≤ x) → HP (R.set p x) st := by
      intro hx i h1 h2 h3
      rw [List.length_set] at h2
      rw [gs _ hp, gs _ hp]
      by_cases e1 : i = p
      · subst e1
        rw [if_pos rfl, if_neg (half_ne h1)]
        exact hx (Nat.lt_of_le_of_lt h3 (half_lt' h1))
      · rw [if_neg e1]
        by_cases e2 : (i - 1) / 2 = p
        · rw [if_pos e2]; exact hk i h1 h2 e2
        · rw [if_neg e2]; exact hh.off i h1 h2 h3 e1 e2
    rw [sdLoop]
    split
    · rename_i hlt
      obtain ⟨hp1, hd'⟩ := hd.up hlt
      have hle := hd'.le
      split
      · rename_i hx
        have hne : (p - 1) / 2 ≠ p := half_ne hp1
        refine ih _ (half_lt' hp1) _ (by rw [List.length_set]; exact half_lt hp) hd' ⟨?_, ?_⟩ ?_
        · intro i h1 h2 h3 h4 h5
          rw [List.length_set] at h2
          rw [gs _ hp, gs _ hp]
          have e1 : i ≠ p := fun e => h5 (by rw [e])
          rw [if_neg e1]
          by_cases e2 : (i - 1) / 2 = p
          · rw [if_pos e2]; exact hh.over i h1 h2 e2 hp1 hle
          · rw [if_neg e2]; exact hh.off i h1 h2 h3 e1 e2
        · intro i h1 h2 h3 h4 h5
          rw [List.length_set] at h2
          rw [gs _ hp, gs _ hp, if_neg (Nat.ne_of_lt (half_lt (half_lt' hp1)))]
          have up := hh.off ((p - 1) / 2) h4 (half_lt hp) h5 hne (Nat.ne_of_lt (half_lt (half_lt' hp1)))
          by_cases e1 : i = p
          · rw [if_pos e1]; exact up
          · rw [if_neg e1]
            have := hh.off i h1 h2 (by rw [h3]; exact hle) e1 (fun e => hne (h3.symm.trans e))
            rw [h3] at this
            exact Int.le_trans up this
        · intro i h1 h2 h3
          rw [List.length_set] at h2
          rw [gs _ hp]
          by_cases e1 : i = p
          · rw [if_pos e1]; exact Int.le_of_lt hx
          · rw [if_neg e1]
            have := hh.off i h1 h2 (by rw [h3]; exact hle) e1 (fun e => hne (h3.symm.trans e))
            rw [h3] at this
            exact Int.le_trans (Int.le_of_lt hx) this
      · rename_i hx
        exact fin (fun _ => Int.not_lt.mp hx)
    · rename_i hlt
      exact fin (fun h => absurd h hlt)

theorem kid_par {R : List Int} {p : Nat} : (kidOf R p - 1) / 2 = p := by
  unfold kidOf
  split
  · rw [Nat.add_sub_cancel]; exact Nat.mul_add_div (by decide) p 1
  · rw [Nat.add_sub_cancel, Nat.mul_comm, Nat.mul_div_cancel _ (by decide)]
theorem kid_least {R : List Int} {p i : Nat} (h1 : 1 ≤ i) (h2 : i < R.length) (h3 : (i - 1) / 2 = p) : R.getD (kidOf R p) 0 ≤ R.getD i 0 := by
  unfold kidOf
  have := kid_or h1 h3
  split
  · rename_i h
    rcases this with e | e
    · rw [e]; exact Int.not_lt.mp h.2
    · rw [e]; exact Int.le_refl _
  · rename_i h
    rcases this with e | e
    · rw [e]; exact Int.le_refl _
    · by_cases q : R.getD (2 * p + 1) 0 < R.getD (2 * p + 1 + 1) 0
      · rw [e]; exact Int.le_of_lt q
      · exact absurd ⟨Nat.lt_of_le_of_lt (Nat.le_of_eq e.symm) h2, q⟩ h

theorem su_heap {x : Int} {st : Nat} : ∀ (n p : Nat) (R : List Int), R.length - p ≤ n → p < R.length → Desc st p → Hole R st p → HP (suLoop R x st p) st := by
  intro n
  induction n with
  | zero => intro p R h1 h2; exact absurd h2 (Nat.not_lt.mpr (down_zero h1))
  | succ n ih =>
    intro p R hn hp hd hh
    rw [suLoop]
    split
    · rename_i hc
      have kb := kid_bounds hc
      have kp := @kid_par R p
      have hst := hd.le
      refine ih _ _ (by rw [List.length_set]; exact down_le hp kb.1 hn) (by rw [List.length_set]; exact kb.2) (.kid (Nat.lt_of_le_of_lt (Nat.zero_le p) kb.1) (by rw [kp]; exact hd)) ⟨?_, ?_⟩
      · intro i h1 h2 h3 h4 h5
        rw [List.length_set] at h2
        rw [gs _ hp, gs _ hp]
        by_cases e1 : i = p
        · rw [if_pos e1, if_neg (fun q => half_ne h1 (q.trans e1.symm))]
          subst e1
          exact hh.over _ (Nat.lt_of_le_of_lt (Nat.zero_le _) kb.1) kb.2 kp h1 h3
        · rw [if_neg e1]
          by_cases e2 : (i - 1) / 2 = p
          · rw [if_pos e2]; exact kid_least h1 h2 e2
          · rw [if_neg e2]; exact hh.off i h1 h2 h3 e1 e2
      · intro i h1 h2 h3 h4 h5
        rw [List.length_set] at h2
        have hip : i ≠ p := fun q => Nat.lt_asymm kb.1 (h3 ▸ (q ▸ half_lt' h1 : (i - 1) / 2 < p))
        rw [kp, gs _ hp, gs _ hp, if_pos rfl, if_neg hip]
        have := hh.off i h1 h2 (by rw [h3]; exact Nat.le_of_lt (Nat.lt_of_le_of_lt hst kb.1)) hip (by rw [h3]; exact Nat.ne_of_gt kb.1)
        rw [h3] at this
        exact this
    · rename_i hc
      refine sd_heap p _ (by rw [List.length_set]; exact hp) hd ⟨?_, ?_⟩ ?_
      · intro i h1 h2 h3 h4 h5
        rw [List.length_set] at h2
        rw [gs _ hp, gs _ hp, if_neg h4, if_neg h5]
        exact hh.off i h1 h2 h3 h4 h5
      · intro i h1 h2 h3
        rw [List.length_set] at h2; exact (no_kids h1 h2 h3 hc).elim
      · intro i h1 h2 h3
        rw [List.length_set] at h2; exact (no_kids h1 h2 h3 hc).elim

theorem set_perm : ∀ {R : List Int} {p : Nat} (v : Int), p < R.length → (R.getD p 0 :: R.set p v).Perm (v :: R)
  | [], p, v, h => absurd h (by simp)
  | r :: t, 0, v, _ => by simpa using List.Perm.swap v r t
  | r :: t, p + 1, v, h => by
    have ih := set_perm (R := t) (p := p) v (by simpa using h)
    have e : (r :: t).getD (p + 1) 0 = t.getD p 0 := rfl
    rw [e, List.set_cons_succ]
    exact (List.Perm.swap _ _ _).trans ((ih.cons r).trans (List.Perm.swap _ _ _))

theorem hole_move {R R' : List Int} {p q : Nat} {v x : Int} (hp : p < R.length) (h : (v :: R').Perm (x :: R.set p v)) : (R.getD p 0 :: R').Perm (x :: R) := by
  have h1 := set_perm v hp
  refine List.Perm.cons_inv (a := v) ?_
  refine (List.Perm.swap _ _ _).trans ?_
  refine (h.cons _).trans ?_
  refine (List.Perm.swap _ _ _).trans ?_
  exact (h1.cons x).trans (List.Perm.swap _ _ _)

theorem sd_perm {x : Int} {st : Nat} : ∀ (p : Nat) (R : List Int), p < R.length → (R.getD p 0 :: sdLoop R x st p).Perm (x :: R) := by
  intro p
  induction p using Nat.strongRecOn with
  | _ p ih =>
    intro R hp
    rw [sdLoop]
    split
    · rename_i hq
      split
      · have := ih ((p - 1) / 2) (half_lt' (pos_of hq)) (R.set p (R.getD ((p - 1) / 2) 0)) (by rw [List.length_set]; exact half_lt hp)
        rw [gs _ hp, if_neg (Nat.ne_of_lt (half_lt' (pos_of hq)))] at this
        exact hole_move (q := p) hp this
      · exact set_perm x hp
    · exact set_perm x hp

theorem su_perm {x : Int} {st : Nat} : ∀ (n p : Nat) (R : List Int), R.length - p ≤ n → p < R.length → (R.getD p 0 :: suLoop R x st p).Perm (x :: R) := by
  intro n
  induction n with
  | zero => intro p R h1 h2; exact absurd h2 (Nat.not_lt.mpr (down_zero h1))
  | succ n ih =>
    intro p R hn hp
    rw [suLoop]
    split
    · rename_i hc
      have kb := kid_bounds hc
      have := ih (kidOf R p) (R.set p (R.getD (kidOf R p) 0)) (by rw [List.length_set]; exact down_le hp kb.1 hn) (by rw [List.length_set]; exact kb.2)
      rw [gs _ hp, if_neg (Nat.ne_of_gt kb.1)] at this
      exact hole_move (q := p) hp this
    · have := sd_perm (x := x) (st := st) p (R.set p x) (by rw [List.length_set]; exact hp)
      rw [gs _ hp, if_pos rfl] at this
      exact ((List.Perm.cons_inv this).cons _).trans (set_perm x hp)

theorem su_same_perm {R : List Int} {st p : Nat} (hp : p < R.length) : (suLoop R (R.getD p 0) st p).Perm R :=
  List.Perm.cons_inv (su_perm _ p R (Nat.le_refl _) hp)

theorem hf_step {R : List Int} {k : Nat} (hk : k < R.length) (h : HP R (k + 1)) : HP (suLoop R (R.getD k 0) k k) k :=
  su_heap _ k R (Nat.le_refl _) hk .here ⟨fun i h1 h2 h3 h4 h5 => h i h1 h2 (Nat.lt_of_le_of_ne h3 (Ne.symm h5)), fun i h1 h2 h3 h4 h5 => absurd (half_lt' h4) (Nat.not_lt.mpr h5)⟩

theorem hf_heap : ∀ (k : Nat) (R : List Int), k ≤ R.length → HP R k → HP (hfLoop R k) 0 ∧ (hfLoop R k).Perm R
  | 0, R, _, h => ⟨h, .refl _⟩
  | k + 1, R, hk, h => by
    have := hf_heap k (suLoop R (R.getD k 0) k k) (by rw [suLoop_len _ _ _ _ _ (Nat.le_refl _)]; exact Nat.le_of_succ_le hk) (hf_step hk h)
    exact ⟨this.1, this.2.trans (su_same_perm hk)⟩
theorem hfR_heap (R : List Int) : HP (hfR R) 0 ∧ (hfR R).Perm R := hf_heap _ R (Nat.div_le_self _ _) (fun i h1 h2 h3 => absurd (half_up h1 h2) (Nat.not_lt.mpr h3))

/-- R is R0, but along the way from st to p every place holds what stood one place further -/
inductive Sh (R0 : List Int) (st : Nat) : Nat → List Int → Prop
  | here {R : List Int} : R.length = R0.length → R.set st (R0.getD st 0) = R0 → Sh R0 st st R
  | kid {p : Nat} {R : List Int} : R.length = R0.length → st < p → p < R0.length → R.getD ((p - 1) / 2) 0 = R0.getD p 0 → Sh R0 st ((p - 1) / 2) (R.set p (R0.getD p 0)) → Sh R0 st p R
theorem Sh.len {R0 R : List Int} {st p : Nat} (h : Sh R0 st p R) : R.length = R0.length := by cases h <;> assumption
theorem Sh.le {R0 R : List Int} {st p : Nat} (h : Sh R0 st p R) : st ≤ p := by
  cases h with
  | here => exact Nat.le_refl _
  | kid _ h2 => exact Nat.le_of_lt h2
theorem Sh.any {R0 R : List Int} {st p : Nat} (h : Sh R0 st p R) (v : Int) : Sh R0 st p (R.set p v) := by
  cases h with
  | here h1 h2 => exact .here (by rw [List.length_set]; exact h1) (by rw [List.set_set]; exact h2)
  | kid h1 h2 h3 h4 h5 =>
    refine .kid (by rw [List.length_set]; exact h1) h2 h3 ?_ (by rw [List.set_set]; exact h5)
    rw [gs _ (Nat.lt_of_lt_of_eq h3 h1.symm), if_neg (half_ne (pos_of h2))]; exact h4
theorem Sh.behind {R0 R : List Int} {st p : Nat} (h : Sh R0 st p R) : ∀ i, p < i → i < R0.length → R.getD i 0 = R0.getD i 0 := by
  induction h with
  | here h1 h2 => intro i hi hl; rw [← h2, gs _ (by rw [h1]; exact Nat.lt_trans hi hl), if_neg (Nat.ne_of_gt hi)]
  | kid h1 h2 h3 h4 h5 ih =>
    intro i hi hl
    have := ih i (Nat.lt_trans (half_lt' (Nat.lt_of_le_of_lt (Nat.zero_le _) h2)) hi) hl
    rw [gs _ (by rw [h1]; exact h3), if_neg (Nat.ne_of_gt hi)] at this
    exact this
theorem Sh.least {R0 R : List Int} {st p : Nat} (h : Sh R0 st p R) (hh : HP R0 0) : R0.getD st 0 ≤ R0.getD p 0 := by
  induction h with
  | here => exact Int.le_refl _
  | kid h1 h2 h3 h4 h5 ih => exact Int.le_trans ih (hh _ (Nat.lt_of_le_of_lt (Nat.zero_le _) h2) h3 (Nat.zero_le _))
theorem Sh.flat {R0 R : List Int} {st p : Nat} (h : Sh R0 st p R) (hh : HP R0 0) (e : R0.getD p 0 ≤ R0.getD st 0) : R.set p (R0.getD st 0) = R0 := by
  induction h with
  | here h1 h2 => exact h2
  | @kid p R h1 h2 h3 h4 h5 ih =>
    have q := hh _ (Nat.lt_of_le_of_lt (Nat.zero_le _) h2) h3 (Nat.zero_le _)
    have q2 := h5.least hh
    have hx : R0.getD p 0 = R0.getD st 0 := Int.le_antisymm e (Int.le_trans q2 q)
    have := ih (Int.le_trans q e)
    rw [hx] at this
    have hp := Nat.lt_of_lt_of_eq h3 h1.symm
    rw [set_self (by rw [List.length_set]; exact half_lt hp) (by rw [gs _ hp, if_neg (half_ne (pos_of h2)), h4, hx])] at this
    exact this
theorem Sh.sd {R0 R : List Int} {st p : Nat} (h : Sh R0 st p R) (hh : HP R0 0) : sdLoop R (R0.getD st 0) st p = R0 := by
  induction h with
  | here h1 h2 => rw [sdLoop, if_neg (Nat.lt_irrefl _)]; exact h2
  | @kid p R h1 h2 h3 h4 h5 ih =>
    rw [sdLoop, if_pos h2]
    split
    · rw [h4]; exact ih
    · rename_i hx
      rw [h4] at hx
      exact (Sh.kid h1 h2 h3 h4 h5).flat hh (Int.not_lt.mp hx)
theorem Sh.su {R0 : List Int} {st : Nat} (hh : HP R0 0) : ∀ (n p : Nat) (R : List Int), R.length - p ≤ n → p < R.length → Sh R0 st p R → suLoop R (R0.getD st 0) st p = R0 := by
  intro n
  induction n with
  | zero => intro p R h1 h2; exact absurd h2 (Nat.not_lt.mpr (down_zero h1))
  | succ n ih =>
    intro p R hn hp h
    rw [suLoop]
    split
    · rename_i hc
      have kb := kid_bounds hc
      have kp := @kid_par R p
      have hl := h.len
      have hle := h.le
      have hb := h.behind _ kb.1 (hl ▸ kb.2)
      refine ih _ _ (by rw [List.length_set]; exact down_le hp kb.1 hn) (by rw [List.length_set]; exact kb.2) (.kid (by rw [List.length_set]; exact hl) (Nat.lt_of_le_of_lt hle kb.1) (hl ▸ kb.2) ?_ ?_)
      · rw [kp, gs _ hp, if_pos rfl]; exact hb
      · rw [kp, set_self (by rw [List.length_set]; exact kb.2) (by rw [gs _ hp, if_neg (Nat.ne_of_gt kb.1)]; exact hb)]
        exact h.any _
    · exact (h.any _).sd hh

theorem hf_fix {R : List Int} (hh : HP R 0) : ∀ k, k ≤ R.length → hfLoop R k = R
  | 0, _ => rfl
  | k + 1, hk => by
    rw [hfLoop, Sh.su hh _ k R (Nat.le_refl _) hk (.here rfl (set_self hk rfl))]
    exact hf_fix hh k (Nat.le_of_succ_le hk)
theorem hfR_fix {R : List Int} (hh : HP R 0) : hfR R = R := hf_fix hh _ (Nat.div_le_self _ _)

theorem sorted_heap {R : List Int} (h : R.Pairwise (· ≤ ·)) : HP R 0 := by
  intro i h1 h2 _
  have hp : (i - 1) / 2 < R.length := half_lt h2
  have := List.pairwise_iff_getElem.mp h ((i - 1) / 2) i hp h2 (half_lt' h1)
  simpa [List.getD_eq_getElem?_getD, hp, h2] using this

theorem root_least {R : List Int} (hh : HP R 0) : ∀ i, i < R.length → R.getD 0 0 ≤ R.getD i 0 := by
  intro i
  induction i using Nat.strongRecOn with
  | _ i ih =>
    intro hi
    cases i with
    | zero => exact Int.le_refl _
    | succ i => exact Int.le_trans (ih _ (half_lt' (Nat.succ_pos i)) (half_lt hi)) (hh (i + 1) (Nat.succ_pos i) hi (Nat.zero_le _))
theorem root_le {R : List Int} (hh : HP R 0) : ∀ a ∈ R, R.getD 0 0 ≤ a := by
  intro a ha
  obtain ⟨i, hi, e⟩ := List.getElem_of_mem ha
  have := root_least hh i hi
  rw [← e]
  simpa [List.getD_eq_getElem?_getD, hi] using this
end Mine

-- P2
namespace Mine

theorem toldTo_count (C : List Int) (a : Int) : ∀ i, (toldTo C i).count a = if 0 ≤ a ∧ a < (i : Int) then (C.getD a.toNat 0).toNat else 0
  | 0 => by rw [if_neg (fun h => Int.not_lt.mpr h.1 h.2)]; rfl
  | i + 1 => by
    show (toldTo C i ++ List.replicate (C.getD i 0).toNat (i : Int)).count a = _
    rw [List.count_append, toldTo_count C a i, List.count_replicate]
    by_cases h1 : a = (i : Int)
    · subst h1
      rw [if_neg (fun h => Int.lt_irrefl _ h.2), if_pos (by simp), if_pos ⟨Int.natCast_nonneg i, Int.ofNat_lt.mpr (Nat.lt_succ_self i)⟩]
      simp
    · have h2 : ¬ ((i : Int) == a) = true := fun q => h1 (beq_iff_eq.mp q).symm
      rw [if_neg h2]
      by_cases h3 : 0 ≤ a ∧ a < (i : Int)
      · rw [if_pos h3, if_pos ⟨h3.1, Int.lt_trans h3.2 (Int.ofNat_lt.mpr (Nat.lt_succ_self i))⟩]; simp
      · rw [if_neg h3, if_neg (fun q => h3 ⟨q.1, Int.lt_iff_le_and_ne.mpr ⟨Int.le_of_lt_add_one q.2, h1⟩⟩)]
theorem told_count (C : List Int) (a : Int) : (toldL C).count a = if 0 ≤ a ∧ a < (C.length : Int) then (C.getD a.toNat 0).toNat else 0 := toldTo_count C a _

theorem updR_getD {C : List Int} {k : Int} {f : Int → Int} {i : Nat} (h : i < C.length) : (updR C k f).getD i 0 = if (i : Int) = k then f (C.getD i 0) else C.getD i 0 := by
  rw [List.getD_eq_getElem?_getD, updR_at h, List.getD_eq_getElem?_getD, List.getElem?_eq_getElem h]
  simp

theorem told_plus {C : List Int} {x : Int} (h0 : 0 ≤ x) (h1 : x < (C.length : Int)) (hn : ∀ i, i < C.length → 0 ≤ C.getD i 0) : (toldL (plusR C x)).Perm (x :: toldL C) := by
  refine List.perm_iff_count.mpr fun a => ?_
  rw [List.count_cons, told_count, told_count]
  have hl : (plusR C x).length = C.length := updR_len C x _
  rw [hl]
  by_cases h : 0 ≤ a ∧ a < (C.length : Int)
  · rw [if_pos h, if_pos h]
    have ha : a.toNat < C.length := (Int.toNat_lt h.1).mpr h.2
    have := hn _ ha
    rw [plusR, updR_getD ha]
    by_cases e : a = x
    · subst e
      rw [if_pos (Int.toNat_of_nonneg h.1), if_pos (by simp)]; exact Int.toNat_add this (by decide)
    · rw [if_neg (fun q => e ((Int.toNat_of_nonneg h.1).symm.trans q)), if_neg (fun q => e (beq_iff_eq.mp q).symm)]; rfl
  · rw [if_neg h, if_neg h, if_neg (fun q => h (by have z : x = a := beq_iff_eq.mp q; rw [← z]; exact ⟨h0, h1⟩))]
theorem plus_nonneg {C : List Int} {x : Int} (hn : ∀ i, i < C.length → 0 ≤ C.getD i 0) : ∀ i, i < (plusR C x).length → 0 ≤ (plusR C x).getD i 0 := by
  intro i hi
  have hl : (plusR C x).length = C.length := updR_len C x _
  rw [hl] at hi
  have := hn i hi
  rw [plusR, updR_getD hi]
  split
  · exact Int.add_nonneg this (by decide)
  · exact this

theorem told_mem {C : List Int} {a : Int} (h : a ∈ toldL C) : 0 ≤ a ∧ a < (C.length : Int) ∧ 0 < C.getD a.toNat 0 := by
  have := List.count_pos_iff.mpr h
  rw [told_count] at this
  split at this
  · rename_i q; exact ⟨q.1, q.2, Int.lt_toNat.mp this⟩
  · exact absurd this (Nat.lt_irrefl 0)
theorem mem_told {C : List Int} {a : Int} (h0 : 0 ≤ a) (h1 : a < (C.length : Int)) (h2 : 0 < C.getD a.toNat 0) : a ∈ toldL C := by
  refine List.count_pos_iff.mp ?_
  rw [told_count, if_pos ⟨h0, h1⟩]
  exact Int.lt_toNat.mpr h2
theorem tn_pred {x : Int} (h : 0 < x) : (x - 1).toNat + 1 = x.toNat := by
  cases x with
  | ofNat n =>
    cases n with
    | zero => exact absurd h (Int.lt_irrefl _)
    | succ n => exact congrArg (fun z : Int => z.toNat + 1) (Int.add_sub_cancel (n : Int) 1)
  | negSucc n => exact absurd h (Int.not_lt.mpr (Int.le_of_lt (Int.negSucc_lt_zero n)))
theorem told_minus {C : List Int} {x : Int} (hx : x ∈ toldL C) (hn : ∀ i, i < C.length → 0 ≤ C.getD i 0) : (x :: toldL (minusR C x)).Perm (toldL C) := by
  obtain ⟨h0, h1, h2⟩ := told_mem hx
  refine List.perm_iff_count.mpr fun a => ?_
  rw [List.count_cons, told_count, told_count]
  have hl : (minusR C x).length = C.length := updR_len C x _
  rw [hl]
  by_cases h : 0 ≤ a ∧ a < (C.length : Int)
  · rw [if_pos h, if_pos h]
    have ha : a.toNat < C.length := (Int.toNat_lt h.1).mpr h.2
    have := hn _ ha
    rw [minusR, updR_getD ha]
    by_cases e : a = x
    · subst e
      rw [if_pos (Int.toNat_of_nonneg h.1), if_pos (by simp)]; exact tn_pred h2
    · rw [if_neg (fun q => e ((Int.toNat_of_nonneg h.1).symm.trans q)), if_neg (fun q => e (beq_iff_eq.mp q).symm)]; rfl
  · rw [if_neg h, if_neg h, if_neg (fun q => h (by have z : x = a := beq_iff_eq.mp q; rw [← z]; exact ⟨h0, h1⟩))]
theorem minus_nonneg {C : List Int} {x : Int} (hx : x ∈ toldL C) (hn : ∀ i, i < C.length → 0 ≤ C.getD i 0) : ∀ i, i < (minusR C x).length → 0 ≤ (minusR C x).getD i 0 := by
  obtain ⟨h0, h1, h2⟩ := told_mem hx
  intro i hi
  have hl : (minusR C x).length = C.length := updR_len C x _
  rw [hl] at hi
  have := hn i hi
  rw [minusR, updR_getD hi]
  split
  · rename_i e
    have e' : i = x.toNat := by rw [← e]; rfl
    rw [← e'] at h2
    exact Int.sub_nonneg_of_le h2
  · exact this

theorem there_mem {C : List Int} {a : Int} (hn : ∀ i, i < C.length → 0 ≤ C.getD i 0) : a ∈ thereR C ↔ a ∈ toldL C := by
  unfold thereR thereTo
  constructor
  · intro h
    obtain ⟨j, hj, rfl⟩ := List.mem_map.mp h
    obtain ⟨h1, h2⟩ := List.mem_filter.mp hj
    have h3 := List.mem_range.mp h1
    have := hn _ h3
    have h4 : C.getD j 0 ≠ 0 := by simpa using h2
    exact mem_told (Int.natCast_nonneg j) (Int.ofNat_lt.mpr h3) (Int.lt_iff_le_and_ne.mpr ⟨this, Ne.symm h4⟩)
  · intro h
    obtain ⟨h0, h1, h2⟩ := told_mem h
    refine List.mem_map.mpr ⟨a.toNat, List.mem_filter.mpr ⟨List.mem_range.mpr ((Int.toNat_lt h0).mpr h1), ?_⟩, Int.toNat_of_nonneg h0⟩
    simp only [decide_eq_true_eq]
    exact Ne.symm (Int.ne_of_lt h2)
theorem thereTo_le (C : List Int) : ∀ i, ∀ a ∈ thereTo C i, a < (i : Int) := by
  intro i a h
  unfold thereTo at h
  obtain ⟨j, hj, rfl⟩ := List.mem_map.mp h
  exact Int.ofNat_lt.mpr (List.mem_range.mp (List.mem_filter.mp hj).1)
theorem there_sorted (C : List Int) : ∀ i, (thereTo C i).Pairwise (· ≤ ·)
  | 0 => by simp [thereTo]
  | i + 1 => by
    rw [thereTo_succ]
    split
    · exact there_sorted C i
    · refine List.pairwise_append.mpr ⟨there_sorted C i, List.pairwise_singleton _ _, fun a ha b hb => ?_⟩
      rw [List.mem_singleton.mp hb]
      exact Int.le_of_lt (thereTo_le C i a ha)

theorem Good.hp {R C : List Int} (g : Good R C) : HP R 0 := fun i h1 h2 _ => g.heap i h1 h2
theorem good_of {R C : List Int} (h : HP R 0) (hn : ∀ i, i < C.length → 0 ≤ C.getD i 0) (hp : (toldL C).Perm R) : Good R C := ⟨fun i h1 h2 => h i h1 h2 (Nat.zero_le _), hn, hp⟩
theorem Good.there {R C : List Int} (g : Good R C) {a : Int} : a ∈ thereR C ↔ a ∈ R := (there_mem g.nonneg).trans g.perm.mem_iff
theorem Good.none {R C : List Int} (g : Good R C) : thereR C = [] ↔ R = [] := by
  constructor
  · intro h
    refine List.eq_nil_iff_forall_not_mem.mpr fun a ha => ?_
    have := g.there.mpr ha
    rw [h] at this; cases this
  · intro h
    refine List.eq_nil_iff_forall_not_mem.mpr fun a ha => ?_
    have := g.there.mp ha
    rw [h] at this; cases this
theorem root_mem {R : List Int} (h : R ≠ []) : R.getD 0 0 ∈ R := by
  cases R with
  | nil => exact absurd rfl h
  | cons r t => exact List.mem_cons_self
theorem Good.head {R C : List Int} (g : Good R C) (h : R ≠ []) : (thereR C).getD 0 0 = R.getD 0 0 := by
  have h1 : thereR C ≠ [] := fun e => h (g.none.mp e)
  have m1 := root_mem h1
  have m2 := root_mem h
  have q1 := root_le g.hp _ (g.there.mp m1)
  have q2 := root_le (sorted_heap (there_sorted C C.length)) _ (g.there.mpr m2)
  have q3 : (thereR C).getD 0 0 ≤ R.getD 0 0 := q2
  exact Int.le_antisymm q3 q1
theorem Good.least {R C : List Int} {x : Int} (g : Good R C) : leastR C 3 x = if R = [] then x else if R.getD 0 0 < x then R.getD 0 0 else x := by
  unfold leastR
  rw [if_pos rfl]
  symm
  by_cases h : R = []
  · rw [if_pos h, (g.none.mpr h)]; rfl
  · rw [if_neg h]
    by_cases q : R.getD 0 0 < x
    · rw [if_pos q]
      refine min_unique (List.mem_append_left _ (g.there.mpr (root_mem h))) fun a ha => ?_
      rcases List.mem_append.mp ha with ha | ha
      · exact root_le g.hp _ (g.there.mp ha)
      · rw [List.mem_singleton.mp ha]; exact Int.le_of_lt q
    · rw [if_neg q]
      refine min_unique (List.mem_append_right _ (List.mem_singleton.mpr rfl)) fun a ha => ?_
      rcases List.mem_append.mp ha with ha | ha
      · exact Int.le_trans (Int.not_lt.mp q) (root_le g.hp _ (g.there.mp ha))
      · rw [List.mem_singleton.mp ha]; exact Int.le_refl _

theorem push_law {R : List Int} {x : Int} (h : HP R 0) : HP (sdLoop (R ++ [x]) x 0 R.length) 0 ∧ (sdLoop (R ++ [x]) x 0 R.length).Perm (x :: R) := by
  have hl : (R ++ [x]).length = R.length + 1 := by simp
  have ge : ∀ i, i < R.length → (R ++ [x]).getD i 0 = R.getD i 0 := by
    intro i hi
    rw [List.getD_eq_getElem?_getD, List.getD_eq_getElem?_getD, List.getElem?_append_left hi]
  refine ⟨sd_heap _ _ (by rw [hl]; exact Nat.lt_succ_self _) (Desc.zero _) ⟨?_, ?_⟩ ?_, ?_⟩
  · intro i h1 h2 h3 h4 h5
    have h2' : i < R.length := Nat.lt_of_le_of_ne (Nat.le_of_lt_succ (show i < R.length + 1 by rw [← hl]; exact h2)) h4
    rw [ge _ (half_lt h2'), ge _ h2']
    exact h i h1 h2' h3
  · intro i h1 h2 h3; exact absurd (h3 ▸ half_lt' h1 : R.length < i) (Nat.not_lt.mpr (Nat.le_of_lt_succ (show i < R.length + 1 by rw [← hl]; exact h2)))
  · intro i h1 h2 h3; exact absurd (h3 ▸ half_lt' h1 : R.length < i) (Nat.not_lt.mpr (Nat.le_of_lt_succ (show i < R.length + 1 by rw [← hl]; exact h2)))
  · have := sd_perm (x := x) (st := 0) R.length (R ++ [x]) (by rw [hl]; exact Nat.lt_succ_self _)
    have e : (R ++ [x]).getD R.length 0 = x := by simp [List.getD_eq_getElem?_getD]
    rw [e] at this
    exact (List.Perm.cons_inv this).trans (List.perm_append_comm.trans (List.Perm.refl _))
theorem repl_law {r x : Int} {t : List Int} (h : HP (r :: t) 0) : HP (suLoop (x :: t) x 0 0) 0 ∧ (suLoop (x :: t) x 0 0).Perm (x :: t) := by
  refine ⟨su_heap _ 0 _ (Nat.le_refl _) (by simp) .here ⟨?_, ?_⟩, ?_⟩
  · intro i h1 h2 h3 h4 h5
    have := h i h1 (by simpa using h2) h3
    have e1 : ∀ j, 1 ≤ j → (x :: t).getD j 0 = (r :: t).getD j 0 := by
      intro j hj
      cases j with
      | zero => exact absurd hj (by decide)
      | succ j => rfl
    rw [e1 _ (Nat.pos_of_ne_zero h5), e1 _ h1]
    exact this
  · intro i h1 h2 h3 h4; exact absurd h4 (by decide)
  · have := su_same_perm (R := x :: t) (st := 0) (p := 0) (by simp)
    exact this
theorem hp_prefix {l : List Int} {x : Int} (h : HP (l ++ [x]) 0) : HP l 0 := by
  intro i h1 h2 h3
  have := h i h1 (by rw [List.length_append]; exact Nat.lt_add_right _ h2) h3
  have ge : ∀ i, i < l.length → (l ++ [x]).getD i 0 = l.getD i 0 := by
    intro i hi
    rw [List.getD_eq_getElem?_getD, List.getD_eq_getElem?_getD, List.getElem?_append_left hi]
  rw [ge _ h2, ge _ (half_lt h2)] at this
  exact this
theorem pop_law {R : List Int} (h : HP R 0) (hne : R ≠ []) : (popR R).1 = .rank (R.getD 0 0) ∧ HP (popR R).2 0 ∧ (R.getD 0 0 :: (popR R).2).Perm R := by
  obtain ⟨l, x, rfl⟩ : ∃ l x, R = l ++ [x] := ⟨R.dropLast, R.getLast hne, (List.dropLast_concat_getLast hne).symm⟩
  have hl := hp_prefix h
  cases l with
  | nil => refine ⟨rfl, ?_, ?_⟩
           · intro i h1 h2 h3; simp [popR] at h2
           · simp [popR]
  | cons r t =>
    have e : popR (r :: t ++ [x]) = (.rank r, suLoop (x :: t) x 0 0) := by
      simp [popR]
    rw [e]
    obtain ⟨q1, q2⟩ := repl_law (x := x) hl
    refine ⟨rfl, q1, ?_⟩
    show (r :: suLoop (x :: t) x 0 0).Perm (r :: (t ++ [x]))
    exact (q2.trans (List.perm_append_comm (l₁ := [x]))).cons r

theorem told_three {R C : List Int} {x M : Int} {R' : List Int} (g : Good R C) (h0 : 0 ≤ x) (h1 : x < (C.length : Int)) (hh : HP R' 0) (hp : (M :: R').Perm (x :: R)) : Good R' (minusR (plusR C x) M) := by
  have p1 := told_plus h0 h1 g.nonneg
  have p2 : (toldL (plusR C x)).Perm (M :: R') := p1.trans ((g.perm.cons x).trans hp.symm)
  have hm : M ∈ toldL (plusR C x) := p2.mem_iff.mpr List.mem_cons_self
  exact good_of hh (minus_nonneg hm (plus_nonneg g.nonneg)) (List.Perm.cons_inv ((told_minus hm (plus_nonneg g.nonneg)).trans p2))
theorem told_two {R C : List Int} {M : Int} {R' : List Int} (g : Good R C) (hh : HP R' 0) (hp : (M :: R').Perm R) : Good R' (minusR C M) := by
  have p2 : (toldL C).Perm (M :: R') := g.perm.trans hp.symm
  have hm : M ∈ toldL C := p2.mem_iff.mpr List.mem_cons_self
  exact good_of hh (minus_nonneg hm g.nonneg) (List.Perm.cons_inv ((told_minus hm g.nonneg).trans p2))

theorem kinds {k : Int} (h : k ≤ 4) : k < 2 ∨ k = 2 ∨ k = 3 ∨ k = 4 :=
  (Int.lt_or_eq_of_le h).elim (fun h => (Int.lt_or_eq_of_le (Int.le_of_lt_add_one (b := 3) h)).elim (fun h => (Int.lt_or_eq_of_le (Int.le_of_lt_add_one (b := 2) h)).elim .inl fun e => .inr (.inl e)) fun e => .inr (.inr (.inl e))) fun e => .inr (.inr (.inr e))
theorem both {R C : List Int} {kind x : Int} (g : Good R C) (hk0 : 0 ≤ kind) (hk : kind ≤ 4) (h0 : 0 ≤ x) (h1 : x < (C.length : Int)) :
    (callR R kind x).1 = (toldR C kind x).1 ∧ Good (callR R kind x).2 (toldR C kind x).2 := by
  rcases kinds hk with h | h | h | h
  · have e1 : callR R kind x = (.nothing, sdLoop (R ++ [x]) x 0 R.length) := if_pos h
    have e2 : toldR C kind x = (.nothing, plusR C x) := if_pos h
    rw [e1, e2]
    obtain ⟨q1, q2⟩ := push_law (x := x) g.hp
    exact ⟨rfl, good_of q1 (plus_nonneg g.nonneg) ((told_plus h0 h1 g.nonneg).trans ((g.perm.cons x).trans q2.symm))⟩
  · subst h
    by_cases hR : R = []
    · have hT := g.none.mpr hR
      subst hR
      have e2 : toldR C 2 x = (.text "pop from empty list", C) := by
        unfold toldR
        rw [if_neg (by decide), if_pos ⟨rfl, hT⟩]
      rw [e2]
      exact ⟨rfl, g⟩
    · have hT : thereR C ≠ [] := fun e => hR (g.none.mp e)
      obtain ⟨q1, q2, q3⟩ := pop_law g.hp hR
      have hL : leastR C 2 x = R.getD 0 0 := by
        unfold leastR; rw [if_neg (by decide)]; exact g.head hR
      have e1 : callR R 2 x = popR R := rfl
      have e2 : toldR C 2 x = (.rank (R.getD 0 0), minusR C (R.getD 0 0)) := by
        unfold toldR
        rw [if_neg (by decide), if_neg (fun e => hT e.2), if_neg (fun e => absurd e.1 (by decide)), if_pos rfl, hL]
      rw [e1, e2]
      exact ⟨q1, told_two g q2 q3⟩
  · subst h
    have e1 : callR R 3 x = (.rank (ppR R x).1, (ppR R x).2) := rfl
    have e2 : toldR C 3 x = (.rank (leastR C 3 x), minusR (plusR C x) (leastR C 3 x)) := by
      unfold toldR
      rw [if_neg (by decide), if_neg (fun e => absurd e.1 (by decide)), if_neg (fun e => absurd e.1 (by decide)), if_neg (by decide)]
    have hL := g.least (x := x)
    rw [e1, e2, hL]
    cases R with
    | nil =>
      rw [if_pos rfl]
      exact ⟨rfl, told_three g h0 h1 g.hp (List.Perm.refl _)⟩
    | cons r t =>
      rw [if_neg (by simp)]
      have er : (r :: t).getD 0 0 = r := rfl
      rw [er]
      by_cases q : r < x
      · have ep : ppR (r :: t) x = (r, suLoop (x :: t) x 0 0) := if_pos q
        rw [if_pos q, ep]
        obtain ⟨q1, q2⟩ := repl_law (x := x) g.hp
        exact ⟨rfl, told_three g h0 h1 q1 ((q2.cons r).trans (List.Perm.swap _ _ _))⟩
      · have ep : ppR (r :: t) x = (x, r :: t) := if_neg q
        rw [if_neg q, ep]
        exact ⟨rfl, told_three g h0 h1 g.hp (List.Perm.refl _)⟩
  · subst h
    have e1 : callR R 4 x = rplR R x := rfl
    by_cases hR : R = []
    · have hT := g.none.mpr hR
      subst hR
      have e2 : toldR C 4 x = (.text "list index out of range", C) := by
        unfold toldR
        rw [if_neg (by decide), if_neg (fun e => absurd e.1 (by decide)), if_pos ⟨rfl, hT⟩]
      rw [e1, e2]
      exact ⟨rfl, g⟩
    · have hT : thereR C ≠ [] := fun e => hR (g.none.mp e)
      have hL : leastR C 4 x = R.getD 0 0 := by
        unfold leastR; rw [if_neg (by decide)]; exact g.head hR
      have e2 : toldR C 4 x = (.rank (R.getD 0 0), minusR (plusR C x) (R.getD 0 0)) := by
        unfold toldR
        rw [if_neg (by decide), if_neg (fun e => absurd e.1 (by decide)), if_neg (fun e => hT e.2), if_neg (by decide), hL]
      rw [e1, e2]
      cases R with
      | nil => exact absurd rfl hR
      | cons r t =>
        obtain ⟨q1, q2⟩ := repl_law (x := x) g.hp
        exact ⟨rfl, told_three g h0 h1 q1 ((q2.cons r).trans (List.Perm.swap _ _ _))⟩

theorem su_len (R : List Int) (x : Int) (st p : Nat) : (suLoop R x st p).length = R.length := suLoop_len x st _ R p (Nat.le_refl _)
theorem call_len {R : List Int} {kind x : Int} : (callR R kind x).2.length ≤ R.length + 1 := by
  unfold callR
  split
  · show (sdLoop (R ++ [x]) x 0 R.length).length ≤ _
    rw [sdLoop_len]; simp
  · split
    · unfold popR
      split
      · simp
      · rename_i y ri e
        have hl : R.length = ri.length + 1 := by
          have := congrArg List.length e
          simpa using this
        show (if ri.reverse = [] then [] else suLoop (ri.reverse.set 0 y) y 0 0).length ≤ _
        split
        · simp
        · rw [su_len, List.length_set, List.length_reverse, hl]; exact Nat.le_add_right _ 2
    · split
      · unfold ppR
        split
        · simp
        · split
          · show (suLoop (_ :: _) x 0 0).length ≤ _
            rw [su_len]; simp
          · simp
      · unfold rplR
        split
        · simp
        · show (suLoop (_ :: _) x 0 0).length ≤ _
          rw [su_len]; simp
theorem told_len {C : List Int} {kind x : Int} : (toldR C kind x).2.length = C.length := by
  unfold toldR
  split
  · exact updR_len C x _
  · split
    · rfl
    · split
      · rfl
      · show (minusR _ _).length = _
        rw [minusR, updR_len]
        split
        · rfl
        · exact updR_len C x _

theorem plain : Plain where
  fix := fun g => hfR_fix g.hp
  fix2 := fun C => hfR_fix (sorted_heap (toldL_sorted C))
  same := fun g a b c d => (both g a b c d).1
  next := fun g a b c d => (both g a b c d).2
  len := fun _ => call_len
  lenC := told_len

/-- the first heap: made by heapify out of any list of ranks whose counts C tells -/
theorem good_first {R C : List Int} (hn : ∀ i, i < C.length → C.getD i 0 = (R.count (i : Int) : Nat)) (hr : ∀ a ∈ R, 0 ≤ a ∧ a < (C.length : Int)) : Good (hfR R) C := by
  refine good_of (hfR_heap R).1 (fun i hi => by rw [hn i hi]; exact Int.natCast_nonneg _) (List.Perm.trans ?_ (hfR_heap R).2.symm)
  refine List.perm_iff_count.mpr fun a => ?_
  rw [told_count]
  split
  · rename_i h
    rw [hn _ ((Int.toNat_lt h.1).mpr h.2)]
    have : ((a.toNat : Nat) : Int) = a := Int.toNat_of_nonneg h.1
    rw [this]; rfl
  · rename_i h
    exact (List.count_eq_zero.mpr fun q => h (hr a q)).symm
end Mine

-- S1
namespace Mine

/-- the used places rise; the mark of the maker is led -/
structure TI (led : Bool) (t : SetTable) : Prop where
  rise : t.place.toList.Pairwise (· < ·)
  led : t.led = led

theorem rise_get {xs : Array Nat} (h : xs.toList.Pairwise (· < ·)) (d : Nat) {a b : Nat} (hab : a < b) (hb : b < xs.size) : xs.getD a d < xs.getD b d := by
  have ha := Nat.lt_trans hab hb
  have := List.pairwise_iff_getElem.mp h a b (Array.length_toList.symm ▸ ha) (Array.length_toList.symm ▸ hb) hab
  simpa [Array.getD, hb, ha] using this

theorem below_go {xs : Array Nat} {j : Nat} (hm : xs.toList.Pairwise (· < ·)) : ∀ (fuel lo hi : Nat), hi - lo ≤ fuel → lo ≤ hi → hi ≤ xs.size → (∀ i, i < lo → xs.getD i j < j) → (∀ i, hi ≤ i → i < xs.size → j ≤ xs.getD i j) →
    SetTable.below.go xs j fuel lo hi ≤ xs.size ∧ (∀ i, i < SetTable.below.go xs j fuel lo hi → xs.getD i j < j) ∧ (∀ i, SetTable.below.go xs j fuel lo hi ≤ i → i < xs.size → j ≤ xs.getD i j) := by
  intro fuel
  induction fuel with
  | zero =>
    intro lo hi h1 h2 h3 h4 h5
    have e : lo = hi := Nat.le_antisymm h2 (Nat.le_of_sub_eq_zero (Nat.le_zero.mp h1))
    subst e
    exact ⟨h3, h4, h5⟩
  | succ fuel ih =>
    intro lo hi h1 h2 h3 h4 h5
    unfold SetTable.below.go
    by_cases hl : lo < hi
    · rw [if_pos hl]
      dsimp only
      have m1 : lo ≤ (lo + hi) / 2 := (Nat.le_div_iff_mul_le (by decide)).mpr (Nat.le_trans (Nat.le_of_eq (Nat.mul_two lo)) (Nat.add_le_add_left h2 lo))
      have m2 : (lo + hi) / 2 < hi := Nat.div_lt_of_lt_mul (Nat.lt_of_lt_of_eq (Nat.add_lt_add_right hl hi) (Nat.two_mul hi).symm)
      generalize (lo + hi) / 2 = m at m1 m2 ⊢
      by_cases hx : xs.getD m j < j
      · rw [if_pos hx]
        refine ih _ _ (Nat.le_trans (Nat.sub_le_sub_left (Nat.succ_le_succ m1) hi) (Nat.pred_le_pred h1)) m2 h3 (fun i hi' => ?_) h5
        rcases Nat.lt_or_eq_of_le (Nat.le_of_lt_succ hi') with q | q
        · exact Nat.lt_trans (rise_get hm j q (Nat.lt_of_lt_of_le m2 h3)) hx
        · rw [q]; exact hx
      · rw [if_neg hx]
        refine ih _ _ (Nat.le_of_succ_le_succ (Nat.le_trans (Nat.le_of_eq (Nat.succ_sub m1).symm) (Nat.le_trans (Nat.sub_le_sub_right m2 lo) h1))) m1 (Nat.le_trans (Nat.le_of_lt m2) h3) h4 (fun i hi' hs => ?_)
        rcases Nat.lt_or_eq_of_le hi' with q | q
        · exact Nat.le_of_lt (Nat.lt_of_le_of_lt (Nat.not_lt.mp hx) (rise_get hm j q hs))
        · rw [← q]; exact Nat.not_lt.mp hx
    · rw [if_neg hl]
      have e : lo = hi := Nat.le_antisymm h2 (Nat.not_lt.mp hl)
      subst e
      exact ⟨h3, h4, h5⟩
theorem below_spec {xs : Array Nat} {j : Nat} (hm : xs.toList.Pairwise (· < ·)) :
    SetTable.below xs j ≤ xs.size ∧ (∀ i, i < SetTable.below xs j → xs.getD i j < j) ∧ (∀ i, SetTable.below xs j ≤ i → i < xs.size → j ≤ xs.getD i j) :=
  below_go hm xs.size 0 xs.size (Nat.sub_le _ _) (Nat.zero_le _) (Nat.le_refl _) (fun i h => absurd h (Nat.not_lt_zero _)) (fun i h1 h2 => absurd h2 (Nat.not_lt.mpr h1))
theorem below_next {xs : Array Nat} (hm : xs.toList.Pairwise (· < ·)) {i : Nat} (hi : i < xs.size) : SetTable.below xs (xs[i] + 1) = i + 1 := by
  obtain ⟨h1, h2, h3⟩ := below_spec (j := xs[i] + 1) hm
  have e : xs.getD i (xs[i] + 1) = xs[i] := by simp [Array.getD, hi]
  have q1 : ¬ SetTable.below xs (xs[i] + 1) ≤ i := fun h => by
    have := h3 i h hi
    rw [e] at this
    exact absurd this (Nat.not_succ_le_self _)
  have q2 : ¬ i + 1 < SetTable.below xs (xs[i] + 1) := fun h => by
    have k1 := h2 (i + 1) h
    have k2 := rise_get hm (xs[i] + 1) (Nat.lt_add_one i) (Nat.lt_of_lt_of_le h h1)
    rw [e] at k2
    exact Nat.lt_irrefl _ (Nat.lt_of_lt_of_le k2 (Nat.le_of_lt_succ k1))
  exact Nat.le_antisymm (Nat.not_lt.mp q2) (Nat.not_le.mp q1)
theorem below_zero {xs : Array Nat} (hm : xs.toList.Pairwise (· < ·)) : SetTable.below xs 0 = 0 := by
  obtain ⟨h1, h2, h3⟩ := below_spec (j := 0) hm
  refine Nat.eq_zero_of_not_pos fun h => ?_
  exact Nat.not_lt_zero _ (h2 0 h)
theorem below_not {xs : Array Nat} {j : Nat} (hm : xs.toList.Pairwise (· < ·)) (hn : (xs[SetTable.below xs j]? == some j) = false) : j ∉ xs.toList := by
  intro hj
  obtain ⟨i, hi, e⟩ := List.getElem_of_mem hj
  have hi' : i < xs.size := by simpa using hi
  obtain ⟨h1, h2, h3⟩ := below_spec (j := j) hm
  have e' : xs.getD i j = j := by simp [Array.getD]
                                  intro h; simpa using e
  have q1 : SetTable.below xs j ≤ i := Nat.le_of_not_lt fun h => by have := h2 i h; rw [e'] at this; exact Nat.lt_irrefl _ this
  have q2 : ¬ SetTable.below xs j < i := fun h => by
    have k1 := h3 _ (Nat.le_refl _) (Nat.lt_trans h hi')
    have k2 := rise_get hm j h hi'
    rw [e'] at k2
    exact Nat.lt_irrefl _ (Nat.lt_of_lt_of_le k2 k1)
  have q3 : SetTable.below xs j = i := Nat.le_antisymm q1 (Nat.not_lt.mp q2)
  rw [q3] at hn
  have e2 : xs[i]? = some j := by
    rw [Array.getElem?_eq_getElem hi']
    have : xs[i] = j := by simpa using e
    rw [this]
  rw [e2] at hn
  simp at hn

theorem slot_not {t : SetTable} {j : Nat} (hm : t.place.toList.Pairwise (· < ·)) (h : t.slot j = .empty ∨ t.slot j = .dummy) : j ∉ t.place.toList := by
  refine below_not hm ?_
  cases hq : (t.place[SetTable.below t.place j]? == some j) with
  | false => rfl
  | true =>
    unfold SetTable.slot at h
    dsimp only at h
    rw [hq] at h
    simp at h

theorem advance_dummy (t : SetTable) (p : SetTable.Probe) : (t.advance p).dummy = p.dummy := by
  unfold SetTable.advance
  split <;> rfl
theorem probe_go {t : SetTable} {f : Nat → Int} {h : Int} : ∀ (fuel : Nat) (p : SetTable.Probe) (j : Nat) (dm : Option Nat), (∀ d, p.dummy = some d → t.slot d = .dummy) → SetTable.probe.go t f h fuel p = some (.empty j dm) →
    t.slot j = .empty ∧ ∀ d, dm = some d → t.slot d = .dummy := by
  intro fuel
  induction fuel with
  | zero => intro p j dm _ e; exact absurd e (by unfold SetTable.probe.go; simp)
  | succ fuel ih =>
    intro p j dm hd e
    unfold SetTable.probe.go at e
    cases hs : t.slot p.j with
    | empty =>
      rw [hs] at e
      simp only [Option.some.injEq, SetTable.Met.empty.injEq] at e
      obtain ⟨rfl, rfl⟩ := e
      exact ⟨hs, hd⟩
    | dummy =>
      rw [hs] at e
      dsimp only at e
      refine ih _ j dm (fun d q => ?_) e
      rw [advance_dummy] at q
      cases q
      exact hs
    | live i =>
      rw [hs] at e
      dsimp only at e
      split at e
      · cases e
      · refine ih _ j dm (fun d q => ?_) e
        rw [advance_dummy] at q
        exact hd d q
theorem free_slot {t : SetTable} {h : Int} {j : Nat} {b : Bool} (hm : t.place.toList.Pairwise (· < ·)) (e : t.freeSlot h = some (j, b)) : j ∉ t.place.toList := by
  unfold SetTable.freeSlot at e
  split at e
  · rename_i j' dm hp
    simp only [Option.some.injEq, Prod.mk.injEq] at e
    obtain ⟨rfl, _⟩ := e
    unfold SetTable.probe at hp
    obtain ⟨q1, q2⟩ := probe_go _ _ _ _ (fun d q => by cases q) hp
    cases dm with
    | none => exact slot_not hm (.inl q1)
    | some d => exact slot_not hm (.inr (q2 d rfl))
  · cases e

theorem insert_rise {xs : Array Nat} {j : Nat} (hm : xs.toList.Pairwise (· < ·)) (hj : j ∉ xs.toList) : (SetTable.insertAt xs (SetTable.below xs j) j).toList.Pairwise (· < ·) := by
  rw [SetTable.toList_insertAt]
  obtain ⟨h1, h2, h3⟩ := below_spec (j := j) hm
  have lt : ∀ a ∈ xs.toList.take (SetTable.below xs j), a < j := fun a ha => by
    obtain ⟨i, hi, e⟩ := List.getElem_of_mem ha
    rw [List.length_take, Array.length_toList] at hi
    have := h2 i (Nat.lt_of_lt_of_le hi (Nat.min_le_left _ _))
    rw [List.getElem_take] at e
    have hs : i < xs.size := Nat.lt_of_lt_of_le hi (Nat.min_le_right _ _)
    simp [Array.getD, hs] at this
    simp at e
    first | exact e ▸ this | omega
  have gt : ∀ a ∈ xs.toList.drop (SetTable.below xs j), j < a := fun a ha => by
    have hne : a ≠ j := fun e => hj (e ▸ List.mem_of_mem_drop ha)
    obtain ⟨i, hi, e⟩ := List.getElem_of_mem ha
    rw [List.length_drop, Array.length_toList] at hi
    have hs : SetTable.below xs j + i < xs.size := Nat.add_lt_of_lt_sub' hi
    have := h3 (SetTable.below xs j + i) (Nat.le_add_right _ _) hs
    rw [List.getElem_drop] at e
    simp [Array.getD, hs] at this
    simp at e
    first | exact Nat.lt_of_le_of_ne (e ▸ this) (Ne.symm hne) | omega
  refine List.pairwise_append.mpr ⟨hm.sublist (List.take_sublist _ _), List.pairwise_cons.mpr ⟨gt, hm.sublist (List.drop_sublist _ _)⟩, fun a ha b hb => ?_⟩
  rcases List.mem_cons.mp hb with rfl | hb
  · exact lt a ha
  · exact Nat.lt_trans (lt a ha) (gt b hb)

theorem TI.standIn {led : Bool} {t : SetTable} (h : TI led t) (n : Nat) : TI led (t.standIn n) := ⟨by simp [SetTable.standIn, List.pairwise_lt_range], h.led⟩
theorem TI.orStandIn {led : Bool} {t : SetTable} (h : TI led t) (n : Nat) : TI led (t.orStandIn n) := by
  unfold SetTable.orStandIn
  split
  · exact h
  · exact h.standIn n
theorem TI.put {led : Bool} {t : SetTable} (h : TI led t) {j : Nat} (hj : j ∉ t.place.toList) : TI led (t.put j).1 := ⟨insert_rise h.rise hj, h.led⟩
theorem TI.layNew {led : Bool} {t : SetTable} (h : TI led t) (es : Array (Int × Value)) (k : Int) (x : Value) : TI led (layNew t es k x).2.1 := by
  unfold PySem.layNew
  split
  · rename_i slot b e
    exact (h.put (free_slot h.rise e)).orStandIn _
  · exact h.standIn _
theorem live_sub {α : Type} (f : Nat → Option α) : ∀ l : List Nat, ((l.filterMap fun j => (f j).map fun k => (j, k)).map (·.1)).Sublist l
  | [] => .slnil
  | a :: l => by
    rw [List.filterMap_cons]
    cases hq : f a with
    | none => simpa [hq] using (live_sub f l).cons a
    | some k => simpa [hq] using (live_sub f l).cons_cons a
theorem TI.relaid {led : Bool} {t t' : SetTable} {hs : Array Int} {n : Nat} {order : Array Nat} (h : TI led t) (e : t.relaid hs n = some (t', order)) : TI led t' := by
  unfold SetTable.relaid SetTable.laid at e
  simp only [Option.bind_eq_bind, Option.bind_eq_some_iff] at e
  obtain ⟨owner, _, e⟩ := e
  simp only [Option.pure_def, Option.some.injEq, Prod.mk.injEq] at e
  obtain ⟨rfl, _⟩ := e
  exact ⟨by simpa using List.pairwise_lt_range.sublist (live_sub _ _), h.led⟩
theorem TI.relayAll {led : Bool} {t : SetTable} (h : TI led t) (es : Array (Int × Value)) (n : Nat) : TI led (relayAll t es n).2.1 := by
  unfold PySem.relayAll
  split
  · rename_i t' order e
    dsimp only
    split
    · exact h.relaid e
    · exact h.standIn _
  · exact h.standIn _
theorem TI.off {led : Bool} {t : SetTable} (h : TI led t) : TI led { t with plain := false } := ⟨h.rise, h.led⟩
theorem TI.fresh (led : Bool) : TI led (.fresh 0 0 led) := ⟨by simp [SetTable.fresh], rfl⟩
end Mine

-- S2
namespace Mine
noncomputable def intOf : Value → Int
  | .int a _ => a
  | _ => 0
noncomputable def addI (us : List Int) (k : Int) : List Int := if k ∈ us then us else us ++ [k]

structure EI (w : World) (es : Array (Int × Value)) (us : List Int) : Prop where
  el : ElemsOf (intKind Pg w) es.toList
  perm : (es.toList.map fun e => intOf e.2).Perm us

/-- a set of ints at a: the distinct ints us, the table's places rising -/
noncomputable def SetI (w : World) (h : Heap) (a : Addr) (us : List Int) (led : Bool) : Prop :=
  ∃ o es ep t, h.get? a = some o ∧ o.ExactSet ∧ o.data = .set es ep t ∧ EI w es us ∧ es.size < scanBound ∧ t.fits es.size = true ∧ TI led t

theorem SetI.stays {w : World} {h h' : Heap} {a : Addr} {us : List Int} {led : Bool} (x : SetI w h a us led) (k : ∀ o, h.get? a = some o → h'.get? a = some o) : SetI w h' a us led := by
  obtain ⟨o, es, ep, t, ho, r⟩ := x
  exact ⟨o, es, ep, t, k o ho, r⟩

theorem EI.size {w : World} {es : Array (Int × Value)} {us : List Int} (h : EI w es us) : es.size = us.length := by
  rw [← h.perm.length_eq]; simp
theorem EI.re {w : World} {es es' : Array (Int × Value)} {us : List Int} (h : EI w es us) (p : es'.toList.Perm es.toList) : EI w es' us := ⟨h.el.perm p, (p.map _).trans h.perm⟩
theorem EI.push {w : World} {es : Array (Int × Value)} {us : List Int} (h : EI w es us) (k : Int) (t : Tok) : EI w (es.push ((intKind Pg w).hash k, .int k t)) (us ++ [k]) := by
  refine ⟨by rw [Array.toList_push]; exact h.el.push (intKind_is _ _ _ _) rfl, ?_⟩
  rw [Array.toList_push, List.map_append]
  exact h.perm.append (List.Perm.refl _)
theorem EI.at {w : World} {es : Array (Int × Value)} {us : List Int} (h : EI w es us) {e : Int × Value} (he : e ∈ es.toList) {k : Int} (hk : (intKind Pg w).is k e.2 = true) : k ∈ us := by
  obtain ⟨t, ht⟩ := Value.isInt_shape hk
  refine h.perm.mem_iff.mp (List.mem_map.mpr ⟨e, he, ?_⟩)
  rw [ht]; rfl
theorem EI.mem {w : World} {es : Array (Int × Value)} {us : List Int} (h : EI w es us) {k : Int} (hk : k ∈ us) : ∃ e ∈ es.toList, (intKind Pg w).is k e.2 = true := by
  obtain ⟨e, he, q⟩ := List.mem_map.mp (h.perm.mem_iff.mpr hk)
  obtain ⟨⟨k', h1, _⟩, _⟩ := h.el e he
  obtain ⟨t, ht⟩ := Value.isInt_shape h1
  rw [ht] at q
  cases q
  exact ⟨e, he, h1⟩

section
variable {w : World} {A : Around} {E : Value → Shared → Prop} {s : Shared}

theorem setI_store {h : Heap} {a : Addr} {o : Obj} {es : Array (Int × Value)} {ep : Nat} {t : SetTable} (ho : h.get? a = some o) (hex : o.ExactSet) (hd : o.data = .set es ep t)
    {es' : Array (Int × Value)} {t' : SetTable} {us : List Int} {led : Bool} (hE : EI w es' us) (hb : es'.size < scanBound) (hf : t'.fits es'.size = true) (hT : TI led t') :
    (h.update a (Obj.putSet es' t')).get? a = some { o with data := .set es' (ep + 1) t' } ∧ SetI w (h.update a (Obj.putSet es' t')) a us led := by
  have hg : (h.update a (Obj.putSet es' t')).get? a = some { o with data := .set es' (ep + 1) t' } := by
    have := Heap.get?_update_self (Obj.putSet es' t') ho (by rw [putSet_of es' t' hd]; rfl)
    rw [putSet_of es' t' hd] at this; exact this
  exact ⟨hg, _, es', ep + 1, t', hg, hex, rfl, hE, hb, hf, hT⟩

theorem addI_tail {g : Bool → Sem Unit} (hg : ∀ (b : Bool) (s₁ : Shared) (Q' : Unit → Shared → Prop), Q' () s₁ → wpAny (model Pg w) A (g b) Q' E s₁)
    {a : Addr} {o : Obj} {es : Array (Int × Value)} {ep : Nat} {t : SetTable} (ho : s.heap.get? a = some o) (hex : o.ExactSet) (hd : o.data = .set es ep t)
    {es1 : Array (Int × Value)} {t2 : SetTable} {us : List Int} {led : Bool} (hE : EI w es1 us) (hb1 : es1.size < scanBound) (hf2 : t2.fits es1.size = true) (hT : TI led t2) {wasDummy : Bool} {R : Option Bool → Shared → Prop}
    (h : ∀ h', Heap.SameBut a s.heap h' → SetI w h' a us led → R (some true) { s with heap := h' }) :
    wpAny (model Pg w) A (do
        storeSet a es1 t2
        if (!wasDummy && t2.tooFull) = true then do
            g (relayAll t2 es1 (SetTable.grown es1.size)).2.2
            storeSet a (relayAll t2 es1 (SetTable.grown es1.size)).1 (relayAll t2 es1 (SetTable.grown es1.size)).2.1
            pure (some true)
          else pure (some true)) R E s := by
  refine wpAny_bind (wpAny_storeSet_of ho hd ?_ (fits_of_scanBound hb1))
  obtain ⟨ho1, hS1⟩ := setI_store ho hex hd hE hb1 hf2 hT
  have hsb1 := Heap.SameBut.update s.heap a (Obj.putSet es1 t2)
  split
  · have hp := relayAll_perm t2 es1 (SetTable.grown es1.size)
    have hfr := relayAll_fits t2 es1 (SetTable.grown es1.size)
    have hTr := hT.relayAll es1 (SetTable.grown es1.size)
    generalize relayAll t2 es1 (SetTable.grown es1.size) = Rl at hp hfr hTr ⊢
    obtain ⟨es2, t3, gave2⟩ := Rl
    dsimp only at hp hfr hTr ⊢
    have hE2 := hE.re hp
    have hsz : es2.size = es1.size := by rw [← Array.length_toList, hp.length_eq, Array.length_toList]
    have hb2 : es2.size < scanBound := by rw [hsz]; exact hb1
    refine wpAny_bind (hg _ _ _ ?_)
    refine wpAny_bind (wpAny_storeSet_of ho1 rfl ?_ (fits_of_scanBound hb2))
    obtain ⟨_, hS2⟩ := setI_store ho1 hex rfl hE2 hb2 hfr hTr
    exact wpAny_pure (h _ (hsb1.trans (Heap.SameBut.update _ a _)) hS2)
  · exact wpAny_pure (h _ hsb1 hS1)

theorem addI_ok {a : Addr} {us : List Int} {led : Bool} {k : Int} {tk : Tok} {Q : Bool → Shared → Prop} (hS : SetI w s.heap a us led) (hroom : us.length + 1 < scanBound)
    (h : ∀ h' b, Heap.SameBut a s.heap h' → SetI w h' a (addI us k) led → Q b { s with heap := h' }) :
    wpAny (model Pg w) A (setAddHashed a (.int k tk) ((intKind Pg w).hash k)) Q E s := by
  obtain ⟨o, es, ep, t, ho, hex, hd, hE, hb, hf, hT⟩ := hS
  have hkey : (intKind Pg w).is k (.int k tk) = true := intKind_is _ _ _ _
  have hsc : (Value.int k tk).scannable = true := rfl
  have hb1 : es.size + 1 < scanBound := by rw [hE.size]; exact hroom
  unfold setAddHashed setAddHashedIn
  refine wpAny_holding (wpAny_bind (wpAny_setState_of ho hd hf ?_))
  dsimp only
  rw [byScan_of hsc hb hE.el]
  simp only [↓reduceIte]
  unfold setAddByScan
  refine wpAny_bind ?_
  refine wpAny_bind (wpAny_rule ?_)
  refine wpAny_bind (wpAny_setScan_of hkey ho hd hf hE.el ?_)
  cases hr : List.findIdx? (fun e => (intKind Pg w).is k e.2) es.toList with
  | some j =>
    dsimp only
    obtain ⟨hj, hpj, _⟩ := List.findIdx?_eq_some_iff_getElem.mp hr
    have hk : k ∈ us := hE.at (List.getElem_mem hj) hpj
    refine wpAny_pure (wpAny_pure ?_)
    have e : s = { s with heap := s.heap } := by cases s; rfl
    have := h s.heap false (Heap.SameBut.refl a s.heap) ⟨o, es, ep, t, ho, hex, hd, by rw [addI, if_pos hk]; exact hE, hb, hf, hT⟩
    rw [e]; exact this
  | none =>
    dsimp only
    have hk : k ∉ us := fun q => by
      obtain ⟨e, he, hp⟩ := hE.mem q
      have := List.findIdx?_eq_none_iff.mp hr e he
      rw [hp] at this; exact Bool.noConfusion this
    have hgw : ∀ (b : Bool) {s₁ : Shared} {Q' : Unit → Shared → Prop}, Q' () s₁ → wpAny (model Pg w) A (match b with | true => rule "set.scan.the-table-gave-way" | false => pure ()) Q' E s₁ :=
      fun b s₁ Q' hq => by cases b <;> first | exact wpAny_pure hq | exact wpAny_rule hq
    have hperm := layNew_perm t es ((intKind Pg w).hash k) (.int k tk)
    have hfits := layNew_fits t es ((intKind Pg w).hash k) (.int k tk)
    have hTn := hT.layNew es ((intKind Pg w).hash k) (.int k tk)
    generalize layNew t es ((intKind Pg w).hash k) (.int k tk) = Ly at hperm hfits hTn ⊢
    obtain ⟨es1, t1, wasDummy, gave⟩ := Ly
    dsimp only at hperm hfits hTn ⊢
    have hE1 : EI w es1 (us ++ [k]) := (hE.push k tk).re hperm
    have hb1' : es1.size < scanBound := by rw [hE1.size, List.length_append]; exact hroom
    refine wpAny_bind (hgw _ ?_)
    have hend : ∀ h', Heap.SameBut a s.heap h' → SetI w h' a (us ++ [k]) led → Q true { s with heap := h' } := by
      intro h' hsb hS'
      exact h h' true hsb (by rw [addI, if_neg hk]; exact hS')
    split
    · refine wpAny_bind ?_
      rw [hashByValue_scannable 8 hsc]
      refine wpAny_pure ?_
      refine addI_tail (led := led) ?_ ho hex hd hE1 hb1' ?_ ?_ ?_
      · intro b s₁ Q' hq; cases b <;> first | exact wpAny_pure hq | exact wpAny_rule hq
      · split
        · exact hfits
        · exact SetTable.fits_plain_off hfits
      · split
        · exact hTn
        · exact hTn.off
      · intro h' hsb hS'; dsimp only; exact wpAny_pure (hend h' hsb hS')
    · refine wpAny_bind (wpAny_pure ?_)
      simp only [↓reduceIte]
      refine addI_tail ?_ ho hex hd hE1 hb1' hfits hTn ?_
      · intro b s₁ Q' hq; cases b <;> first | exact wpAny_pure hq | exact wpAny_rule hq
      · intro h' hsb hS'; dsimp only; exact wpAny_pure (hend h' hsb hS')
end
end Mine

-- S3
namespace Mine
noncomputable def metI (ns : List Int) (i : Nat) : List Int := (ns.take i).foldl addI []
theorem metI_succ {ns : List Int} {i : Nat} (h : i < ns.length) : metI ns (i + 1) = addI (metI ns i) (ns.getD i 0) := by
  unfold metI
  rw [List.take_add_one, List.foldl_append, List.getElem?_eq_getElem h]
  simp [List.getD_eq_getElem?_getD, h]
theorem addI_len (us : List Int) (k : Int) : (addI us k).length ≤ us.length + 1 := by
  unfold addI; split <;> simp
theorem metI_len (ns : List Int) : ∀ i, i ≤ ns.length → (metI ns i).length ≤ i
  | 0, _ => by simp [metI]
  | i + 1, h => by
    rw [metI_succ h]
    exact Nat.le_trans (addI_len (metI ns i) (ns.getD i 0)) (Nat.succ_le_succ (metI_len ns i (Nat.le_of_succ_le h)))
theorem addI_mem {us : List Int} {k a : Int} : a ∈ addI us k ↔ a ∈ us ∨ a = k := by
  unfold addI
  split
  · rename_i h
    exact ⟨.inl, fun q => q.elim id fun e => e ▸ h⟩
  · simp
theorem addI_nodup {us : List Int} {k : Int} (h : us.Nodup) : (addI us k).Nodup := by
  unfold addI
  split
  · exact h
  · rename_i hk
    exact List.nodup_append.mpr ⟨h, by simp, fun a ha b hb e => hk (by rw [List.mem_singleton] at hb; rw [← hb, ← e]; exact ha)⟩
theorem metI_all (ns : List Int) : (metI ns ns.length).Nodup ∧ ∀ a, a ∈ metI ns ns.length ↔ a ∈ ns := by
  unfold metI
  rw [List.take_length]
  have : ∀ (l us : List Int), us.Nodup → (l.foldl addI us).Nodup ∧ ∀ a, a ∈ l.foldl addI us ↔ a ∈ us ∨ a ∈ l := by
    intro l
    induction l with
    | nil => intro us h; exact ⟨h, fun a => by simp⟩
    | cons x l ih =>
      intro us h
      obtain ⟨h1, h2⟩ := ih (addI us x) (addI_nodup h)
      refine ⟨h1, fun a => ?_⟩
      rw [List.foldl_cons, h2, addI_mem, List.mem_cons]
      exact or_assoc
  obtain ⟨h1, h2⟩ := this ns [] List.nodup_nil
  exact ⟨h1, fun a => by rw [h2]; simp⟩

section
variable {w : World} {A : Around} {R : Result → Shared → Prop} {I : Addr} {fp wr : List Addr} {G : Array GenState → Array GenState → Prop} {P : Nat → Value → Prop} {St : Nat → Shared → Prop}
theorem update_loopI {ns : List Int} {led : Bool} (W : WalksS Pg w A.in1 I fp wr G ns.length P St) (S : Addr) (hSf : S ∉ fp)
    (hval : ∀ i v, P i v → ∃ t, v = .int (ns.getD i 0) t) (hb : ns.length + 1 < scanBound) :
    ∀ (k i : Nat) (s : Shared), ns.length - i = k → i ≤ ns.length → St i s → SetI w s.heap S (metI ns i) led →
      (∀ s', Moved (S :: wr) G s s' → SetI w s'.heap S (metI ns ns.length) led → R (.ok (.ret .none)) s') →
      codeAny (model Pg w) A (.builtin "set.update.loop" ⟨[.ref S, .ref I], []⟩) R s := by
  have hSw : S ∉ wr := fun h => hSf (W.sub _ h)
  have hsub : ∀ b ∈ wr, b ∈ S :: wr := fun b hb => List.mem_cons_of_mem _ hb
  intro k
  induction k with
  | zero =>
    intro i s hk hi hst hS hR
    have hin : i = ns.length := Nat.le_antisymm hi (Nat.le_of_sub_eq_zero hk)
    subst hin
    refine codeAny_builtin PyProof.Rows.F.entry_set_update_loop ?_
    rw [Around.under_plainId PyProof.Rows.F.plain_set_update_loop _]
    show wpAny _ A.in1 (pyNext (.ref I) >>= _) _ _ s
    refine wpAny_bind (W.done s _ _ hst fun s' hm => ?_)
    show wpAny _ A.in1 (ret Value.none) _ _ s'
    exact wpAny_pure (hR s' (hm.mono hsub) (hS.stays fun o e => hm.heap S _ hSw e))
  | succ k ih =>
    intro i s hk hi hst hS hR
    have hlt : i < ns.length := Nat.lt_of_sub_eq_succ hk
    refine codeAny_builtin PyProof.Rows.F.entry_set_update_loop ?_
    rw [Around.under_plainId PyProof.Rows.F.plain_set_update_loop _]
    show wpAny _ A.in1 (pyNext (.ref I) >>= _) _ _ s
    refine wpAny_bind (W.item i s _ _ hlt hst fun v s' hP hst' hm => ?_)
    obtain ⟨t, rfl⟩ := hval i v hP
    have hS' : SetI w s'.heap S (metI ns i) led := hS.stays fun o e => hm.heap S _ hSw e
    show wpAny _ A.in1 (holding [Value.int (ns.getD i 0) t] (setAdd S (.int (ns.getD i 0) t)) >>= _) _ _ s'
    refine wpAny_bind (wpAny_holding ?_)
    unfold setAdd
    refine wpAny_holding ?_
    refine wpAny_bind ((intKind Pg w).pyHash (k := ns.getD i 0) (intKind_is _ _ _ _) ?_)
    have hroom : (metI ns i).length + 1 < scanBound := Nat.lt_of_le_of_lt (Nat.succ_le_succ (Nat.le_trans (metI_len ns i hi) hi)) hb
    refine addI_ok (s := { s' with toks := s'.toks + 1 }) hS' hroom fun h' bb hsb hS2 => ?_
    rw [← metI_succ hlt] at hS2
    refine wpAny_pure ⟨plainId_quiet PyProof.Rows.F.plain_set_update_loop _, ih (i + 1) _ (congrArg Nat.pred hk) hlt (W.frame _ s' _ _ hst' (Nat.le_succ _) fun b hb o e => ?_) hS2 fun s'' hm'' hS'' => ?_⟩
    · rw [hsb.2 b (fun h : b = S => hSf (by rw [← h]; exact hb))]; exact e
    · refine hR s'' (Moved.trans W.gtrans ((hm.mono hsub).then_heap (Nat.le_succ _) fun b o hb e => ?_) hm'') hS''
      rw [hsb.2 b (fun h : b = S => hb (by rw [h]; exact List.mem_cons_self))]; exact e
end

section
variable {w : World} {A : Around} {E : Value → Shared → Prop} {s : Shared}
theorem set_newI (a : Value) {Q₁ : Value → Shared → Prop}
    (h : Q₁ (.ref s.heap.objs.size) { s with heap := s.heap.push { cls := .type "set", dict := none, data := .set #[] 0 (.fresh 0 0 (!w.params.followText "set-order")) } }) :
    codeAny (model Pg w) A (.call (.builtin "set.__new__") ⟨[.type "set", a], []⟩) (wants Q₁ E) s := by
  refine codeAny_of_tree ?_
  show wpAny _ A.in1 (do checkBuiltinCall "set.__new__" ⟨[.type "set", a], []⟩; again (.builtin "set.__new__" ⟨[.type "set", a], []⟩)) _ _ s
  refine wpAny_bind (wpAny_of_eq (PySem.F.newCall_set_1 a) (wpAny_pure ⟨plainId_quiet PySem.F.plain_set_new _, codeAny_builtin PySem.F.entry_set_new ?_⟩))
  rw [Around.under_plainId PySem.F.plain_set_new _]
  unfold Builtin.«set.__new__» Builtin.Frozenset.newClass
  have hsub := sub_set_self
  obtain ⟨hp, g, d, tk, os⟩ := s
  dsimp only
  wp_walk
  refine wpAny_askSetting (wpAny_pure ?_)
  dsimp only
  simp only [newObj]
  refine wpAny_bind (wpAny_alloc (wpAny_pure ?_))
  exact wpAny_pure h

theorem set_listI {l : Addr} {items : Array Value} {ns : List Int} {Q : Value → Shared → Prop}
    (hh : A.handled = none) (hl : s.heap.IsList l items) (hi : PyProof.Rows.IntsAre items.toList ns) (hb : ns.length + 1 < scanBound)
    (h : ∀ (h' : Heap) (tk : Nat), SetI w h' s.heap.objs.size (metI ns ns.length) (!w.params.followText "set-order") →
      (∀ b o, b < s.heap.objs.size → s.heap.get? b = some o → h'.get? b = some o) → Q (.ref s.heap.objs.size) { s with heap := h', toks := tk }) :
    wpAny (model Pg w) A (call (.type "set") [.ref l]) Q E s := by
  have hns : items.size = ns.length := by rw [← IntsAre.length hi]; simp
  generalize hled : (!w.params.followText "set-order") = led at h
  obtain ⟨c, tl, hmro⟩ := PySem.F.called_set.mro
  have hmade := PySem.F.called_set.made
  have hsub := PySem.F.called_set.sub
  refine wpAny_call (codeAny_of_tree ?_)
  show wpAny _ _ (callAny (.type "set") _) _ _ _
  refine wpAny_pure ⟨Code.quiet_builtin _ (by decide +kernel), codeAny_builtin PySem.F.entry_type_call ?_⟩
  rw [Around.under_plain (weight_type_call_type "set" [.ref l] []) rfl]
  have h1 := PySem.F.called_set.notType
  have h2 := PySem.F.called_set.canCreate
  have hct := PySem.F.typeCall_set_1 (.ref l)
  repeat (any_goals (first | assumption | wp_step))
  refine codeAny_mono (set_newI (.ref l) (E := E) (Q₁ := fun obj s₁ => obj = .ref s.heap.objs.size ∧ s₁ = { s with heap := s.heap.push { cls := .type "set", dict := none, data := .set #[] 0 (.fresh 0 0 led) } }) ⟨rfl, by rw [hled]⟩) fun r s₁ hr => ?_
  cases r with
  | error e => exact hr
  | ok fl =>
    cases fl with
    | ret obj =>
      obtain ⟨rfl, rfl⟩ := hr
      have hS : (s.heap.push { cls := .type "set", dict := none, data := .set #[] 0 (.fresh 0 0 led) }).get? s.heap.objs.size = some { cls := .type "set", dict := none, data := .set #[] 0 (.fresh 0 0 led) } := Heap.get?_push_size _ rfl
      have hT : Shared.TypeIs { s with heap := s.heap.push { cls := .type "set", dict := none, data := .set #[] 0 (.fresh 0 0 led) } } (.ref s.heap.objs.size) "set" := ⟨_, hS, rfl⟩
      have hli := PySem.F.called_set.init.lookup
      have hbi := PySem.F.called_set.init.bind (.ref s.heap.objs.size)
      repeat (any_goals (first | assumption | wp_step))
      refine codeAny_mono (codeAny_call_builtin (R := wants (fun r s₂ => r = .none ∧ ∃ h' tk, s₂ = { s with heap := h', toks := tk } ∧
          SetI w h' s.heap.objs.size (metI ns ns.length) led ∧
          (∀ b o, b < s.heap.objs.size → s.heap.get? b = some o → h'.get? b = some o)) E) PySem.F.called_set.init.plain PySem.F.entry_set_init (check_set_init_1 hT ?_)) fun r₂ s₂ hr₂ => ?_
      · obtain ⟨ol, hol, hcl, nl, hdl⟩ := hl
        obtain ⟨ocls, odict, odata, oslots⟩ := ol
        simp only at hcl hdl
        subst hcl; subst hdl
        have hol' : (s.heap.push { cls := .type "set", dict := none, data := .set #[] 0 (.fresh 0 0 led) }).get? l = some { cls := .type "list", dict := odict, data := .seq items nl, slots := oslots } := Heap.get?_push_of_some _ hol
        have hsls := PySem.F.sub_list_set
        have hslf := PySem.F.sub_list_frozenset
        have hne : (Value.type "list" == Value.type "dict") = false := by decide
        have hl1 : (s.heap.push { cls := .type "set", dict := none, data := .set #[] 0 (.fresh 0 0 led) }).IsList l items := ⟨_, hol', rfl, nl, rfl⟩
        unfold Builtin.«set.__init__» noKeywords Builtin.Frozenset.updateFrom
        generalize hPI : pyIter = PI
        wp_walk
        subst hPI
        refine wpAny_pyIter_list hl1 ?_
        refine wpAny_bind (wpAny_runValue ?_)
        have hlS : l < s.heap.objs.size := Heap.lt_size hol
        have hh3 : A.in1.in1.in1.handled = none := by simp [hh]
        have hneI : l ≠ (s.heap.push { cls := .type "set", dict := none, data := .set #[] 0 (.fresh 0 0 led) }).objs.size := by
          rw [Heap.size_push]; exact Nat.ne_of_lt (Nat.lt_succ_of_lt hlS)
        have hSf : s.heap.objs.size ∉ [(s.heap.push { cls := .type "set", dict := none, data := .set #[] 0 (.fresh 0 0 led) }).objs.size, l] := by
          rw [Heap.size_push]; simp only [List.mem_cons, List.not_mem_nil, or_false, not_or]
          exact ⟨Nat.ne_of_lt (Nat.lt_succ_self _), Nat.ne_of_gt hlS⟩
        have hval : ∀ (i : Nat) (v : Value), items[i]? = some v → ∃ t, v = .int (ns.getD i 0) t := fun i v hv =>
          PyProof.Rows.IntsAre.int_at hi i v (by rw [Array.getElem?_toList]; exact hv)
        have WL := (Walks.list (prog := Pg) (w := w) hh3 (s.heap.push { cls := .type "set", dict := none, data := .set #[] 0 (.fresh 0 0 led) }).objs.size l hneI items).toS
        rw [hns] at WL
        refine update_loopI (led := led) WL s.heap.objs.size hSf hval hb (ns.length - 0) 0 _ rfl (Nat.zero_le _)
          ⟨⟨_, Heap.get?_push_size _ rfl, rfl, rfl⟩, (hl1.push _)⟩ ?hS0 ?hR
        case hS0 =>
          have hget : ((s.heap.push { cls := .type "set", dict := none, data := .set #[] 0 (.fresh 0 0 led) }).push { cls := .type "list_iterator", data := .fields #[.ref l, .int 0 0] }).get? s.heap.objs.size
              = some { cls := .type "set", dict := none, data := .set #[] 0 (.fresh 0 0 led) } := Heap.get?_push_of_some _ hS
          obtain ⟨o', es', ep', t', e1, e2, e3, _⟩ := (PyProof.Rows.setObjOf_fresh (knd := intKind Pg w) led).setOf hget (by decide)
          rw [hget] at e1
          cases e1
          exact ⟨_, #[], 0, .fresh 0 0 led, hget, e2, rfl, ⟨(fun e he => by cases he), (by simp [metI])⟩, (by decide), (by rfl), TI.fresh led⟩
        case hR =>
          intro s' hm hS'
          obtain ⟨h', g', d', tk', os'⟩ := s'
          have eg : g' = s.gens := hm.gens
          have ed : d' = s.drawn := hm.drawn
          have eo : os' = s.os := hm.os
          subst eg; subst ed; subst eo
          show wpAny _ _ _ _ _ _
          refine wpAny_pure ?_
          show wpAny _ _ (ret Value.none) _ _ _
          refine wpAny_pure ⟨rfl, h', tk', rfl, hS', fun b o hb e => ?_⟩
          have hb1 : b ≠ s.heap.objs.size := Nat.ne_of_lt hb
          have hb2 : b ≠ (s.heap.push { cls := .type "set", dict := none, data := .set #[] 0 (.fresh 0 0 led) }).objs.size := by
            rw [Heap.size_push]; exact Nat.ne_of_lt (Nat.lt_succ_of_lt hb)
          exact hm.heap b o (by simp only [List.mem_cons, List.not_mem_nil, or_false, not_or]; exact ⟨hb1, hb2⟩) (Heap.get?_push_of_some _ (Heap.get?_push_of_some _ e))
      · cases r₂ with
        | error e => exact hr₂
        | ok fl₂ =>
          cases fl₂ with
          | ret r =>
            obtain ⟨rfl, h', tk, rfl, hS', hk'⟩ := hr₂
            repeat (any_goals (first | assumption | wp_step))
            exact h _ _ hS' hk'
          | _ => exact hr₂.elim
    | _ => exact hr.elim
end
end Mine

-- S4
namespace Mine
theorem si_slot_next : Slot "set_iterator" "__next__" "set_iterator.__next__" :=
  .of (owner := "set_iterator") (n := "__next__") (by rw [typeLookup_type, builtinLookup_eq_fast]; kernel_rfl) (by decide +kernel) (by decide +kernel) (by decide +kernel)
    (by first | exact .inl (by decide +kernel) | exact .inr (by decide +kernel)) (by rw [isSubtype_type]; kernel_rfl)
theorem si_slot_iter : Slot "set_iterator" "__iter__" "set_iterator.__iter__" :=
  .of (owner := "set_iterator") (n := "__iter__") (by rw [typeLookup_type, builtinLookup_eq_fast]; kernel_rfl) (by decide +kernel) (by decide +kernel) (by decide +kernel)
    (by first | exact .inl (by decide +kernel) | exact .inr (by decide +kernel)) (by rw [isSubtype_type]; kernel_rfl)
theorem si_owner : Manifest.owners.lookup (String.ofList ['r', 'o', 't', 'a', 'r', 'e', 't', 'i', '_', 't', 'e', 's'].reverse) = some Manifest.sig_set_iterator := by kernel_rfl
theorem si_entry_next : entryFor table "set_iterator.__next__" = some Builtin.«set_iterator.__next__» := entryFor_of_tree (by kernel_rfl)
theorem si_entry_iter : entryFor table "set_iterator.__iter__" = some Builtin.«dict_keyiterator.__iter__» :=
  entryFor_alias (id' := "dict_keyiterator.__iter__") (by rw [fastTable_eq_tree]; kernel_rfl) rfl (by decide +kernel) (by rw [fastTable_eq_tree]; kernel_rfl)
theorem set_entry_iter : entryFor table "set.__iter__" = some Builtin.«frozenset.__iter__» :=
  entryFor_alias (id' := "frozenset.__iter__") (by rw [fastTable_eq_tree]; kernel_rfl) rfl (by decide +kernel) (by rw [fastTable_eq_tree]; kernel_rfl)
theorem si_args_next (a : Value) : argsOk "set_iterator.__next__" ⟨[a], []⟩ := by
  unfold argsOk; rw [signature?_of (id := "set_iterator.__next__") (n := ['_', '_', 't', 'x', 'e', 'n', '_', '_']) (o := ['r', 'o', 't', 'a', 'r', 'e', 't', 'i', '_', 't', 'e', 's']) (by kernel_rfl) si_owner]; kernel_rfl
theorem si_args_iter (a : Value) : argsOk "set_iterator.__iter__" ⟨[a], []⟩ := by
  unfold argsOk; rw [signature?_of (id := "set_iterator.__iter__") (n := ['_', '_', 'r', 'e', 't', 'i', '_', '_']) (o := ['r', 'o', 't', 'a', 'r', 'e', 't', 'i', '_', 't', 'e', 's']) (by kernel_rfl) si_owner]; kernel_rfl

noncomputable def IterAt (h : Heap) (I : Addr) (vs : Array Value) : Prop := ∃ o, h.get? I = some o ∧ o.cls = .type "set_iterator" ∧ o.data = .fields vs
noncomputable def SetAt (h : Heap) (a : Addr) (es : Array (Int × Value)) (ep : Nat) (t : SetTable) : Prop := ∃ o, h.get? a = some o ∧ o.cls = .type "set" ∧ o.data = .set es ep t ∧ t.fits es.size = true
theorem IterAt.at {h h' : Heap} {I : Addr} {vs : Array Value} (x : IterAt h I vs) (e : ∀ o, h.get? I = some o → h'.get? I = some o) : IterAt h' I vs := let ⟨o, ho, r⟩ := x; ⟨o, e _ ho, r⟩
theorem SetAt.at {h h' : Heap} {a : Addr} {es ep t} (x : SetAt h a es ep t) (e : ∀ o, h.get? a = some o → h'.get? a = some o) : SetAt h' a es ep t := let ⟨o, ho, r⟩ := x; ⟨o, e _ ho, r⟩
theorem IterAt.typeIs {s : Shared} {I : Addr} {vs : Array Value} (x : IterAt s.heap I vs) : s.TypeIs (.ref I) "set_iterator" := let ⟨o, ho, hc, _⟩ := x; ⟨o, ho, hc⟩
theorem SetAt.typeIs {s : Shared} {a : Addr} {es ep t} (x : SetAt s.heap a es ep t) : s.TypeIs (.ref a) "set" := let ⟨o, ho, hc, _⟩ := x; ⟨o, ho, hc⟩

section
variable {w : World} {A : Around} {E : Value → Shared → Prop} {s : Shared}

theorem next_text {a : Addr} {es : Array (Int × Value)} {ep : Nat} {t : SetTable} {slot given : Nat} {Q : Option (Value × Nat) → Shared → Prop} (hby : w.params.followText "set-order" = true) (hs : SetAt s.heap a es ep t)
    (h : Q (((pickOrder (w.params.setOrder a ep) es)[given]?).map fun e => (e.2, slot)) s) : wpAny (model Pg w) A (setNext a slot given ep) Q E s := by
  obtain ⟨o, ho, _, hd, hf⟩ := hs
  unfold setNext setsByText
  refine wpAny_bind (wpAny_setState_of ho hd hf ?_)
  dsimp only
  refine wpAny_bind (wpAny_bind (wpAny_askSetting (wpAny_pure ?_)))
  show wpAny _ _ (if w.params.followText "set-order" = true then _ else _) _ _ _
  rw [if_pos hby]
  simp only [bne_self_eq_false, Bool.false_eq_true, if_false]
  unfold setWalk setsByText
  refine wpAny_bind (wpAny_bind (wpAny_setState_of ho hd hf ?_))
  dsimp only
  refine wpAny_bind (wpAny_bind (wpAny_askSetting (wpAny_pure ?_)))
  show wpAny _ _ (if w.params.followText "set-order" = true then _ else _) _ _ _
  rw [if_pos hby]
  refine wpAny_bind (wpAny_askSetting (wpAny_pure ?_))
  exact wpAny_pure h

theorem next_plain {a : Addr} {es : Array (Int × Value)} {ep : Nat} {t : SetTable} {slot given : Nat} {Q : Option (Value × Nat) → Shared → Prop} (hby : w.params.followText "set-order" = false) (hs : SetAt s.heap a es ep t)
    (hpl : (!t.plain && decide (es.size > 1)) = false) (hled : t.led = true)
    (h : Q (match es[SetTable.below t.place slot]?, t.place[SetTable.below t.place slot]? with | some (_, x), some j => some (x, j + 1) | _, _ => none) s) : wpAny (model Pg w) A (setNext a slot given ep) Q E s := by
  obtain ⟨o, ho, _, hd, hf⟩ := hs
  unfold setNext setsByText
  refine wpAny_bind (wpAny_setState_of ho hd hf ?_)
  dsimp only
  refine wpAny_bind (wpAny_bind (wpAny_askSetting (wpAny_pure ?_)))
  show wpAny _ _ (if w.params.followText "set-order" = true then _ else _) _ _ _
  rw [hby, if_neg Bool.false_ne_true]
  show wpAny _ _ (if (!t.plain && decide (es.size > 1)) = true then _ else (if (!t.led && !es.isEmpty) = true then (unsupported "set:maker-not-led" : Sem Unit) else pure ()) >>= _) _ _ _
  rw [hpl, if_neg Bool.false_ne_true, hled]
  refine wpAny_bind (wpAny_pure ?_)
  exact wpAny_pure h

theorem drawn_not {a : Addr} {es : Array (Int × Value)} {ep : Nat} {t : SetTable} {Q : Bool → Shared → Prop} (hs : SetAt s.heap a es ep t) (h : Q (!w.params.followText "set-order" && (!t.plain && decide (es.size > 1))) s) :
    wpAny (model Pg w) A (setDrawn a) Q E s := by
  obtain ⟨o, ho, _, hd, hf⟩ := hs
  unfold setDrawn setsByText
  refine wpAny_bind (wpAny_setState_of ho hd hf ?_)
  dsimp only
  refine wpAny_bind (wpAny_bind (wpAny_askSetting (wpAny_pure ?_)))
  exact wpAny_pure h

theorem si_self {I : Addr} {vs : Array Value} {Q : Value → Shared → Prop} (hit : IterAt s.heap I vs) (h : Q (.ref I) s) : wpAny (model Pg w) A (pyIter (.ref I)) Q E s := by
  refine wpAny_pyIter_slot hit.typeIs si_slot_iter (wpAny_call_entry si_slot_iter hit.typeIs si_entry_iter ?_ (si_args_iter _))
  show wpAny _ _ (ret (.ref I)) _ _ s
  exact wpAny_pure ⟨_, rfl, "set_iterator", _, hit.typeIs, si_slot_next.lookup, h⟩

theorem si_item {I a : Addr} {slot i n ep nx : Nat} {es : Array (Int × Value)} {t : SetTable} {x : Value} {Q : Option Value → Shared → Prop}
    (hit : IterAt s.heap I #[.int slot 0, .int i 0, .ref a, .int n 0, .int ep 0]) (hs : SetAt s.heap a es ep t) (hn : es.size = n)
    (hx : ∀ (A : Around) (E : Value → Shared → Prop) (Q : Option (Value × Nat) → Shared → Prop), Q (some (x, nx)) s → wpAny (model Pg w) A (setNext a slot i ep) Q E s)
    (hQ : ∀ h', IterAt h' I #[.int nx 0, .int (i + 1 : Nat) 0, .ref a, .int n 0, .int ep 0] → Heap.SameBut I s.heap h' → Q (some x) { s with heap := h' }) :
    wpAny (model Pg w) A (pyNext (.ref I)) Q E s := by
  obtain ⟨o, ho, hc, hd⟩ := id hit
  obtain ⟨oa, hoa, hca, hda, hfa⟩ := id hs
  unfold pyNext
  refine wpAny_bind (wpAny_attempt (wpAny_callSpecial?_slot (name := Str.ofString "__next__") hit.typeIs si_slot_next
    (wpAny_call_entry si_slot_next hit.typeIs si_entry_next ?_ (si_args_next _))))
  unfold Builtin.«set_iterator.__next__»
  refine wpAny_bind (wpAny_pure ?_)
  refine wpAny_bind (wpAny_fieldsOf ho hd ?_)
  dsimp only
  refine wpAny_bind ?_
  unfold setEntries
  refine wpAny_bind (wpAny_setState_of hoa hda hfa (wpAny_pure ?_))
  dsimp only
  rw [hn]
  simp only [bne_self_eq_false, Bool.false_eq_true, if_false]
  simp only [Int.toNat_natCast]
  refine wpAny_bind (hx _ _ _ ?_)
  dsimp only
  refine wpAny_bind (wpAny_setField ho hd (by simp) ?_)
  have g1 : (s.heap.update I (Obj.mapFields (·.setIfInBounds 0 (rawInt nx)))).get? I = some _ := Heap.get?_update_self _ ho (Obj.isFreed_of_fields (Obj.data_mapFields hd _))
  refine wpAny_bind (wpAny_setField g1 (Obj.data_mapFields hd _) (by simp) ?_)
  have d1 := Obj.data_mapFields hd (·.setIfInBounds 0 (rawInt nx))
  refine wpAny_pure ⟨_, rfl, wpAny_pure (hQ _ ⟨_, Heap.get?_update_self _ g1 (Obj.isFreed_of_fields (Obj.data_mapFields d1 _)), ?_, ?_⟩ ((Heap.SameBut.update ..).trans (Heap.SameBut.update ..)))⟩
  · exact (Obj.cls_mapFields ..).trans ((Obj.cls_mapFields ..).trans hc)
  · rw [Obj.data_mapFields d1]; simp [rawInt]

theorem si_end {I a : Addr} {slot i n ep : Nat} {es : Array (Int × Value)} {t : SetTable} {Q : Option Value → Shared → Prop} (hh : A.handled = none)
    (hit : IterAt s.heap I #[.int slot 0, .int i 0, .ref a, .int n 0, .int ep 0]) (hs : SetAt s.heap a es ep t) (hn : es.size = n)
    (hx : ∀ (A : Around) (E : Value → Shared → Prop) (Q : Option (Value × Nat) → Shared → Prop), Q none s → wpAny (model Pg w) A (setNext a slot i ep) Q E s)
    (hQ : ∀ h', Heap.ExtBut I s.heap h' → Q none { s with heap := h' }) :
    wpAny (model Pg w) A (pyNext (.ref I)) Q E s := by
  obtain ⟨o, ho, hc, hd⟩ := id hit
  obtain ⟨oa, hoa, hca, hda, hfa⟩ := id hs
  unfold pyNext
  refine wpAny_bind (wpAny_attempt (wpAny_callSpecial?_slot (name := Str.ofString "__next__") hit.typeIs si_slot_next
    (wpAny_call_entry si_slot_next hit.typeIs si_entry_next ?_ (si_args_next _))))
  unfold Builtin.«set_iterator.__next__»
  refine wpAny_bind (wpAny_pure ?_)
  refine wpAny_bind (wpAny_fieldsOf ho hd ?_)
  dsimp only
  refine wpAny_bind ?_
  unfold setEntries
  refine wpAny_bind (wpAny_setState_of hoa hda hfa (wpAny_pure ?_))
  dsimp only
  rw [hn]
  simp only [bne_self_eq_false, Bool.false_eq_true, if_false]
  simp only [Int.toNat_natCast]
  refine wpAny_bind (hx _ _ _ ?_)
  dsimp only
  refine wpAny_bind (wpAny_setField ho hd (by simp) ?_)
  show wpAny _ _ (newExc (.type "StopIteration") [] >>= _) _ _ _
  refine wpAny_bind ?_
  simp only [newExc, newTuple]
  refine wpAny_bind (wpAny_newObj_type ?_ (by size_fits))
  refine wpAny_bind (m := firstArgMember _ _) (wpAny_of_eq (a := Value.none) (by first | rfl | (simp only [firstArgMember]; rfl)) ?_)
  refine wpAny_newObj_type ?_ (by size_fits)
  simp only [raiseNew]
  refine wpAny_bind (wpAny_handled ?_)
  rw [show A.in1.handled = none from hh]
  refine wpAny_bind (wpAny_pure (wpAny_throw ?_))
  refine wpAny_bind (wpAny_isInstance (T := "StopIteration") (b := true) ⟨_, Heap.get?_push_size _ rfl, rfl⟩ isSubtype_stop ?_)
  exact wpAny_pure (hQ _ (((Heap.SameBut.update ..).extBut.push _).push _))
end
end Mine

-- S5
namespace Mine
theorem erase_perm {α : Type} : ∀ (l : List α) (i : Nat) (x : α), l[i]? = some x → (x :: l.eraseIdx i).Perm l
  | [], i, x, h => by simp at h
  | a :: l, 0, x, h => by simp at h; subst h; simp
  | a :: l, i + 1, x, h => by
    simp only [List.getElem?_cons_succ] at h
    rw [List.eraseIdx_cons_succ]
    exact (List.Perm.swap _ _ _).trans ((erase_perm l i x h).cons a)
theorem pick_go {α : Type} (next : Nat → Nat) : ∀ (fuel k : Nat) (left : List α) (out : Array α), left.length ≤ fuel → (pickOrder.go next fuel k left out).toList.Perm (out.toList ++ left)
  | 0, k, left, out, h => by
    have : left = [] := List.eq_nil_of_length_eq_zero (Nat.le_zero.mp h)
    subst this
    unfold pickOrder.go; simp
  | fuel + 1, k, left, out, h => by
    unfold pickOrder.go
    cases hq : left[next k % left.length]? with
    | none =>
      dsimp only
      have : left = [] := by
        cases left with
        | nil => rfl
        | cons a l =>
          exact absurd (Nat.mod_lt (next k) (Nat.succ_pos l.length)) (Nat.not_lt.mpr (List.getElem?_eq_none_iff.mp hq))
      subst this; simp
    | some x =>
      dsimp only
      have hp := erase_perm left _ x hq
      have hl : (left.eraseIdx (next k % left.length)).length + 1 = left.length := hp.length_eq
      refine (pick_go next fuel (k + 1) _ _ (Nat.le_of_succ_le_succ (Nat.le_trans (Nat.le_of_eq hl) h))).trans ?_
      rw [Array.toList_push, List.append_assoc]
      exact List.Perm.append_left _ hp
theorem pick_perm {α : Type} (next : Nat → Nat) (xs : Array α) : (pickOrder next xs).toList.Perm xs.toList := by
  have := pick_go next xs.size 0 xs.toList #[] (by simp)
  simpa [pickOrder] using this

section
variable {w : World} {A : Around} {E : Value → Shared → Prop} {s : Shared}
theorem choose_ok {src : Source} {n : Nat} {Q : Nat → Shared → Prop} (hn : n ≠ 0) (h : ∀ i dr, i < n → Q i { s with drawn := dr }) : wpAny (model Pg w) A (choose src n) Q E s := fun Γ p _ => by
  unfold choose
  rw [Sem.wp_choose]
  exact ⟨hn, h _ _ (Nat.mod_lt _ (Nat.pos_of_ne_zero hn))⟩
theorem drawOrder_ok {α : Type} : ∀ (n : Nat) (xs : List α) (s : Shared) (Q : List α → Shared → Prop), xs.length = n → (∀ ys dr, ys.Perm xs → Q ys { s with drawn := dr }) → wpAny (model Pg w) A (drawOrder n xs) Q E s
  | 0, xs, s, Q, hn, h => by
    have : xs = [] := List.eq_nil_of_length_eq_zero hn
    subst this
    unfold drawOrder
    have e : s = { s with drawn := s.drawn } := by cases s; rfl
    rw [e]
    exact wpAny_pure (h [] _ (.refl _))
  | n + 1, [], s, Q, hn, h => by simp at hn
  | n + 1, x :: xs, s, Q, hn, h => by
    unfold drawOrder
    refine wpAny_bind (choose_ok (by simp) fun i dr hi => ?_)
    rw [List.getElem?_eq_getElem hi]
    dsimp only
    have hp := erase_perm (x :: xs) i _ (List.getElem?_eq_getElem hi)
    refine wpAny_bind (drawOrder_ok n _ _ _ (Nat.succ.inj (hp.length_eq.trans hn)) fun ys dr' hy => ?_)
    exact wpAny_pure (h _ _ ((hy.cons _).trans hp))

theorem sd_item {I a T : Addr} {i n ep pl : Nat} {oT : Obj} {ps : Array Value} {nT : Nat} {es : Array (Int × Value)} {t : SetTable} {x : Int × Value} {Q : Option Value → Shared → Prop}
    (hit : IterAt s.heap I #[.ref T, .int i 0, .ref a, .int n 0, .int ep 0]) (hs : SetAt s.heap a es ep t) (hn : es.size = n)
    (hT : s.heap.get? T = some oT) (hTd : oT.data = .seq ps nT) (hp : ps[i]? = some (.int pl 0)) (hx : es[pl]? = some x)
    (hQ : ∀ h', IterAt h' I #[.ref T, .int (i + 1 : Nat) 0, .ref a, .int n 0, .int ep 0] → Heap.SameBut I s.heap h' → Q (some x.2) { s with heap := h' }) :
    wpAny (model Pg w) A (pyNext (.ref I)) Q E s := by
  obtain ⟨o, ho, hc, hd⟩ := id hit
  obtain ⟨oa, hoa, hca, hda, hfa⟩ := id hs
  unfold pyNext
  refine wpAny_bind (wpAny_attempt (wpAny_callSpecial?_slot (name := Str.ofString "__next__") hit.typeIs si_slot_next
    (wpAny_call_entry si_slot_next hit.typeIs si_entry_next ?_ (si_args_next _))))
  unfold Builtin.«set_iterator.__next__»
  refine wpAny_bind (wpAny_pure ?_)
  refine wpAny_bind (wpAny_fieldsOf ho hd ?_)
  dsimp only
  refine wpAny_bind ?_
  unfold setEntries
  refine wpAny_bind (wpAny_setState_of hoa hda hfa (wpAny_pure ?_))
  dsimp only
  rw [hn]
  simp only [bne_self_eq_false, Bool.false_eq_true, if_false]
  refine wpAny_bind ?_
  unfold seqItems?
  refine wpAny_bind (wpAny_load hT ?_)
  rw [hTd]
  refine wpAny_pure ?_
  dsimp only
  simp only [Int.toNat_natCast]
  rw [hp]
  dsimp only
  refine wpAny_bind ?_
  unfold setNextDrawn
  refine wpAny_bind (wpAny_setState_of hoa hda hfa ?_)
  dsimp only
  simp only [Int.toNat_natCast, bne_self_eq_false, Bool.false_eq_true, if_false]
  rw [hx]
  refine wpAny_pure ?_
  refine wpAny_bind (wpAny_setField ho hd (by simp) ?_)
  refine wpAny_pure ⟨_, rfl, wpAny_pure (hQ _ ⟨_, Heap.get?_update_self _ ho (Obj.isFreed_of_fields (Obj.data_mapFields hd _)), ?_, ?_⟩ (Heap.SameBut.update ..))⟩
  · exact (Obj.cls_mapFields ..).trans hc
  · rw [Obj.data_mapFields hd]; simp [rawInt]
theorem sd_end {I a T : Addr} {i n ep : Nat} {oT : Obj} {ps : Array Value} {nT : Nat} {es : Array (Int × Value)} {t : SetTable} {Q : Option Value → Shared → Prop} (hh : A.handled = none)
    (hit : IterAt s.heap I #[.ref T, .int i 0, .ref a, .int n 0, .int ep 0]) (hs : SetAt s.heap a es ep t) (hn : es.size = n)
    (hT : s.heap.get? T = some oT) (hTd : oT.data = .seq ps nT) (hp : ps[i]? = none)
    (hQ : ∀ h', Heap.ExtBut I s.heap h' → Q none { s with heap := h' }) :
    wpAny (model Pg w) A (pyNext (.ref I)) Q E s := by
  obtain ⟨o, ho, hc, hd⟩ := id hit
  obtain ⟨oa, hoa, hca, hda, hfa⟩ := id hs
  unfold pyNext
  refine wpAny_bind (wpAny_attempt (wpAny_callSpecial?_slot (name := Str.ofString "__next__") hit.typeIs si_slot_next
    (wpAny_call_entry si_slot_next hit.typeIs si_entry_next ?_ (si_args_next _))))
  unfold Builtin.«set_iterator.__next__»
  refine wpAny_bind (wpAny_pure ?_)
  refine wpAny_bind (wpAny_fieldsOf ho hd ?_)
  dsimp only
  refine wpAny_bind ?_
  unfold setEntries
  refine wpAny_bind (wpAny_setState_of hoa hda hfa (wpAny_pure ?_))
  dsimp only
  rw [hn]
  simp only [bne_self_eq_false, Bool.false_eq_true, if_false]
  refine wpAny_bind ?_
  unfold seqItems?
  refine wpAny_bind (wpAny_load hT ?_)
  rw [hTd]
  refine wpAny_pure ?_
  dsimp only
  simp only [Int.toNat_natCast]
  rw [hp]
  dsimp only
  refine wpAny_bind (wpAny_setField ho hd (by simp) ?_)
  have g1 : (s.heap.update I (Obj.mapFields (·.setIfInBounds 0 (rawInt 0)))).get? I = some _ := Heap.get?_update_self _ ho (Obj.isFreed_of_fields (Obj.data_mapFields hd _))
  refine wpAny_bind (wpAny_setField g1 (Obj.data_mapFields hd _) (by simp) ?_)
  show wpAny _ _ (newExc (.type "StopIteration") [] >>= _) _ _ _
  refine wpAny_bind ?_
  simp only [newExc, newTuple]
  refine wpAny_bind (wpAny_newObj_type ?_ (by size_fits))
  refine wpAny_bind (m := firstArgMember _ _) (wpAny_of_eq (a := Value.none) (by first | rfl | (simp only [firstArgMember]; rfl)) ?_)
  refine wpAny_newObj_type ?_ (by size_fits)
  simp only [raiseNew]
  refine wpAny_bind (wpAny_handled ?_)
  rw [show A.in1.handled = none from hh]
  refine wpAny_bind (wpAny_pure (wpAny_throw ?_))
  refine wpAny_bind (wpAny_isInstance (T := "StopIteration") (b := true) ⟨_, Heap.get?_push_size _ rfl, rfl⟩ isSubtype_stop ?_)
  exact wpAny_pure (hQ _ ((((Heap.SameBut.update ..).trans (Heap.SameBut.update ..)).extBut.push _).push _))

/-- the walk over a set, by the written order of the setting -/
theorem walks_text (hby : w.params.followText "set-order" = true) {A : Around} (hh : A.handled = none) (I a : Addr) (hne : a ≠ I) {es : Array (Int × Value)} {ep : Nat} {t : SetTable} :
    Walks Pg w A I [I, a] [I] es.size (fun i v => ((pickOrder (w.params.setOrder a ep) es).toList.map (·.2))[i]? = some v) (fun i h => IterAt h I #[.int (0 : Nat) 0, .int i 0, .ref a, .int es.size 0, .int ep 0] ∧ SetAt h a es ep t) where
  sub := fun b hb => by simp at hb; simp [hb]
  frame := fun _ _ _ st hk => ⟨st.1.at fun o e => hk I (by simp) o e, st.2.at fun o e => hk a (by simp) o e⟩
  item := fun i s Q E hi st hQ => by
    have hsz : (pickOrder (w.params.setOrder a ep) es).size = es.size := by have := (pick_perm (w.params.setOrder a ep) es).length_eq; simpa using this
    have hi' := Nat.lt_of_lt_of_eq hi hsz.symm
    have hx : (pickOrder (w.params.setOrder a ep) es)[i]? = some (pickOrder (w.params.setOrder a ep) es)[i] := Array.getElem?_eq_getElem hi'
    refine si_item (nx := 0) st.1 st.2 rfl (fun A E Q q => next_text hby st.2 (by rw [hx]; exact q)) fun h' hit' hs' => ?_
    exact hQ _ h' s.toks (by rw [List.getElem?_map, Array.getElem?_toList, hx]; rfl) ⟨hit', st.2.at fun o e => hs'.extBut a o hne e⟩ fun b o hb e => hs'.extBut b o (fun h => hb (by simp [h])) e
  done := fun s Q E st hQ => by
    have hsz : (pickOrder (w.params.setOrder a ep) es).size = es.size := by have := (pick_perm (w.params.setOrder a ep) es).length_eq; simpa using this
    exact si_end hh st.1 st.2 rfl (fun A E Q q => next_text hby st.2 (by rw [Array.getElem?_eq_none (Nat.le_of_eq hsz)]; exact q)) fun h' he' => hQ h' s.toks fun b o hb e => he' b o (fun h => hb (by simp [h])) e
  self := fun _ _ _ _ st hQ => si_self st.1 hQ

noncomputable def slotAt (t : SetTable) (i : Nat) : Nat := if i = 0 then 0 else t.place.getD (i - 1) 0 + 1
theorem slotAt_below {t : SetTable} (hm : t.place.toList.Pairwise (· < ·)) {i : Nat} (hi : i ≤ t.place.size) : SetTable.below t.place (slotAt t i) = i := by
  unfold slotAt
  split
  · rename_i h; subst h; exact below_zero hm
  · rename_i h
    have hi' : i - 1 < t.place.size := Nat.lt_of_lt_of_le (Nat.sub_lt (Nat.pos_of_ne_zero h) (by decide)) hi
    have := below_next hm hi'
    have e : t.place.getD (i - 1) 0 = t.place[i - 1] := by simp [Array.getD, hi']
    rw [e, this]; exact Nat.succ_pred_eq_of_ne_zero h
theorem walks_plain (hby : w.params.followText "set-order" = false) {A : Around} (hh : A.handled = none) (I a : Addr) (hne : a ≠ I) {es : Array (Int × Value)} {ep : Nat} {t : SetTable}
    (hpl : (!t.plain && decide (es.size > 1)) = false) (hT : TI true t) :
    Walks Pg w A I [I, a] [I] es.size (fun i v => (es.toList.map (·.2))[i]? = some v) (fun i h => IterAt h I #[.int (slotAt t i) 0, .int i 0, .ref a, .int es.size 0, .int ep 0] ∧ SetAt h a es ep t) where
  sub := fun b hb => by simp at hb; simp [hb]
  frame := fun _ _ _ st hk => ⟨st.1.at fun o e => hk I (by simp) o e, st.2.at fun o e => hk a (by simp) o e⟩
  item := fun i s Q E hi st hQ => by
    have hps : t.place.size = es.size := by obtain ⟨_, _, _, _, hf⟩ := st.2; simp [SetTable.fits] at hf; exact hf.1
    have hx : es[i]? = some es[i] := Array.getElem?_eq_getElem hi
    have hi' := Nat.lt_of_lt_of_eq hi hps.symm
    have hp : t.place[i]? = some t.place[i] := Array.getElem?_eq_getElem hi'
    have hnx : slotAt t (i + 1) = t.place[i] + 1 := by unfold slotAt; simp [Array.getD, hi']
    refine si_item (x := es[i].2) (nx := slotAt t (i + 1)) st.1 st.2 rfl (fun A E Q q => next_plain hby st.2 hpl hT.led (by rw [slotAt_below hT.rise (Nat.le_of_lt hi'), hx, hp]; rw [hnx] at q; exact q)) fun h' hit' hs' => ?_
    exact hQ _ h' s.toks (by rw [List.getElem?_map, Array.getElem?_toList, hx]; rfl) ⟨hit', st.2.at fun o e => hs'.extBut a o hne e⟩ fun b o hb e => hs'.extBut b o (fun h => hb (by simp [h])) e
  done := fun s Q E st hQ => by
    have hps : t.place.size = es.size := by obtain ⟨_, _, _, _, hf⟩ := st.2; simp [SetTable.fits] at hf; exact hf.1
    exact si_end hh st.1 st.2 rfl (fun A E Q q => next_plain hby st.2 hpl hT.led (by rw [slotAt_below hT.rise (Nat.le_of_eq hps.symm), Array.getElem?_eq_none (Nat.le_refl _)]; exact q)) fun h' he' => hQ h' s.toks fun b o hb e => he' b o (fun h => hb (by simp [h])) e
  self := fun _ _ _ _ st hQ => si_self st.1 hQ

noncomputable def placesOf (l : List Nat) : Array Value := (l.map fun (i : Nat) => Value.int (i : Int) 0).toArray
theorem walks_drawn {A : Around} (hh : A.handled = none) (I a T : Addr) (hne : a ≠ I) (hTI : T ≠ I) {es : Array (Int × Value)} {ep : Nat} {t : SetTable} {pl : List Nat} (hpl : pl.Perm (List.range es.size)) :
    Walks Pg w A I [I, a, T] [I] es.size (fun i v => (pl.filterMap fun j => (es[j]?).map (·.2))[i]? = some v) (fun i h => IterAt h I #[.ref T, .int i 0, .ref a, .int es.size 0, .int ep 0] ∧ SetAt h a es ep t ∧ ∃ oT nT, h.get? T = some oT ∧ oT.data = .seq (placesOf pl) nT) where
  sub := fun b hb => by simp at hb; simp [hb]
  frame := fun _ _ _ st hk => ⟨st.1.at fun o e => hk I (by simp) o e, st.2.1.at fun o e => hk a (by simp) o e, by obtain ⟨oT, nT, e, d⟩ := st.2.2; exact ⟨oT, nT, hk T (by simp) _ e, d⟩⟩
  item := fun i s Q E hi st hQ => by
    obtain ⟨st1, st2, oT, nT, eT, dT⟩ := st
    have hl : pl.length = es.size := by rw [hpl.length_eq]; simp
    have hi' := Nat.lt_of_lt_of_eq hi hl.symm
    have hpi : pl[i]? = some pl[i] := List.getElem?_eq_getElem hi'
    have hlt : pl[i] < es.size := List.mem_range.mp (hpl.mem_iff.mp (List.getElem_mem hi'))
    have hx : es[pl[i]]? = some es[pl[i]] := Array.getElem?_eq_getElem hlt
    have hmap : (pl.filterMap fun j => (es[j]?).map (·.2)) = pl.map fun j => ((es[j]?).map (·.2)).getD .none := by
      have : ∀ l : List Nat, (∀ j ∈ l, j < es.size) → (l.filterMap fun j => (es[j]?).map (·.2)) = l.map fun j => ((es[j]?).map (·.2)).getD .none := by
        intro l
        induction l with
        | nil => intro _; rfl
        | cons j l ih =>
          intro h
          have hj := h j List.mem_cons_self
          rw [List.filterMap_cons, List.map_cons, ih fun k hk => h k (List.mem_cons_of_mem _ hk), Array.getElem?_eq_getElem hj]
          rfl
      exact this pl fun j hj => List.mem_range.mp (hpl.mem_iff.mp hj)
    refine sd_item (x := es[pl[i]]) st1 st2 rfl eT dT (pl := pl[i]) ?_ hx fun h' hit' hs' => ?_
    · simp [placesOf, hpi]
    · refine hQ _ h' s.toks ?_ ⟨hit', st2.at fun o e => hs'.extBut a o hne e, oT, nT, hs'.extBut T oT hTI eT, dT⟩ fun b o hb e => hs'.extBut b o (fun h => hb (by simp [h])) e
      rw [hmap, List.getElem?_map, hpi, Option.map_some, hx]
      rfl
  done := fun s Q E st hQ => by
    obtain ⟨st1, st2, oT, nT, eT, dT⟩ := st
    have hl : pl.length = es.size := by rw [hpl.length_eq]; simp
    exact sd_end hh st1 st2 rfl eT dT (by simp [placesOf, hl]) fun h' he' => hQ h' s.toks fun b o hb e => he' b o (fun h => hb (by simp [h])) e
  self := fun _ _ _ _ st hQ => si_self st.1 hQ
end
end Mine

-- S6
namespace Mine
noncomputable def IntsOf (vs : List Value) (us : List Int) : Prop := ∃ ns, IntsAre vs ns ∧ ns.Perm us
theorem ints_of_all : ∀ {l : List Value}, (∀ v ∈ l, ∃ k t, v = .int k t) → IntsAre l (l.map intOf)
  | [], _ => .nil
  | v :: l, h => by
    obtain ⟨k, t, rfl⟩ := h v List.mem_cons_self
    exact .cons k t (ints_of_all fun u hu => h u (List.mem_cons_of_mem _ hu))
theorem EI.ints {w : World} {es : Array (Int × Value)} {us : List Int} (h : EI w es us) {l : List Value} (hp : l.Perm (es.toList.map (·.2))) : IntsOf l us := by
  refine ⟨_, ints_of_all fun v hv => ?_, (hp.map intOf).trans (by rw [List.map_map]; exact h.perm)⟩
  obtain ⟨e, he, rfl⟩ := List.mem_map.mp (hp.mem_iff.mp hv)
  obtain ⟨⟨k, h1, _⟩, _⟩ := h.el e he
  obtain ⟨t, ht⟩ := Value.isInt_shape h1
  exact ⟨k, t, ht⟩

section
variable {w : World} {A : Around} {E : Value → Shared → Prop} {s : Shared}
theorem set_pyIter {a : Addr} {us : List Int} {Q : Value → Shared → Prop} (hS : SetI w s.heap a us (!w.params.followText "set-order"))
    (h : ∀ I h' dr fp (order : List Value) St, (∀ b o, s.heap.get? b = some o → h'.get? b = some o) → s.heap.objs.size ≤ I → (∀ b ∈ fp, b = a ∨ s.heap.objs.size ≤ b) → IntsOf order us →
      (∀ A' : Around, A'.handled = none → Walks Pg w A' I fp [I] us.length (fun i v => order[i]? = some v) St) → St 0 h' → Q (.ref I) { s with heap := h', drawn := dr }) :
    wpAny (model Pg w) A (pyIter (.ref a)) Q E s := by
  obtain ⟨o, es, ep, t, ho, hex, hd, hE, hb, hf, hT⟩ := hS
  have hs : SetAt s.heap a es ep t := ⟨o, ho, hex.1, hd, hf⟩
  have hal : a < s.heap.objs.size := Heap.lt_size ho
  have hsz := hE.size
  rw [← hsz] at h
  refine wpAny_pyIter_slot hs.typeIs PySem.F.slot_set_iter (wpAny_call_entry PySem.F.slot_set_iter hs.typeIs set_entry_iter ?_ (PySem.F.args_set_iter_1 _))
  unfold Builtin.«frozenset.__iter__»
  refine wpAny_bind (m := Builtin.Frozenset.slot0 _ _) (wpAny_of_eq (a := a) rfl ?_)
  refine wpAny_bind ?_
  unfold Builtin.Frozenset.sizeOf setEntries
  refine wpAny_bind (wpAny_bind (wpAny_setState_of ho hd hf (wpAny_pure (wpAny_pure ?_))))
  dsimp only
  refine wpAny_bind (drawn_not hs ?_)
  cases hdr : (!w.params.followText "set-order" && (!t.plain && decide (es.size > 1))) with
  | false =>
    rw [if_neg Bool.false_ne_true]
    refine wpAny_bind (wpAny_pure ?_)
    refine wpAny_bind (wpAny_setEpoch_of ho hd hf ?_)
    have up : ∀ (oI : Obj) (b : Addr) (o : Obj), s.heap.get? b = some o → (s.heap.push oI).get? b = some o := fun oI b o e => Heap.get?_push_of_some _ e
    refine wpAny_bind (wpAny_newObj_type (wpAny_pure ⟨_, rfl, "set_iterator", _, ⟨_, Heap.get?_push_size _ rfl, rfl⟩, si_slot_next.lookup, ?_⟩))
    have hfp : ∀ b ∈ [s.heap.objs.size, a], b = a ∨ s.heap.objs.size ≤ b := fun b hb' => by
      simp only [List.mem_cons, List.not_mem_nil, or_false] at hb'
      rcases hb' with rfl | rfl
      · exact .inr (Nat.le_refl _)
      · exact .inl rfl
    have fin : ∀ (order : List Value) (St : Nat → Heap → Prop), IntsOf order us → (∀ A' : Around, A'.handled = none → Walks Pg w A' s.heap.objs.size [s.heap.objs.size, a] [s.heap.objs.size] es.size (fun i v => order[i]? = some v) St) →
        St 0 (s.heap.push { cls := .type "set_iterator", data := .fields #[.int (0 : Nat) 0, .int (0 : Nat) 0, .ref a, .int es.size 0, .int ep 0] }) →
        Q (.ref s.heap.objs.size) { s with heap := s.heap.push { cls := .type "set_iterator", data := .fields #[.int (0 : Nat) 0, .int (0 : Nat) 0, .ref a, .int es.size 0, .int ep 0] } } :=
      fun order St h1 h2 h3 => h _ _ s.drawn _ order St (up _) (Nat.le_refl _) hfp h1 h2 h3
    have hit : IterAt (s.heap.push { cls := .type "set_iterator", data := .fields #[.int (0 : Nat) 0, .int (0 : Nat) 0, .ref a, .int es.size 0, .int ep 0] }) s.heap.objs.size #[.int (0 : Nat) 0, .int (0 : Nat) 0, .ref a, .int es.size 0, .int ep 0] :=
      ⟨_, Heap.get?_push_size _ rfl, rfl, rfl⟩
    have hsp := hs.at (up { cls := .type "set_iterator", data := .fields #[.int (0 : Nat) 0, .int (0 : Nat) 0, .ref a, .int es.size 0, .int ep 0] } a)
    cases hby : w.params.followText "set-order" with
    | true => exact fin _ _ (hE.ints ((pick_perm (w.params.setOrder a ep) es).map _)) (fun A' hh => walks_text hby hh _ a (Nat.ne_of_lt hal)) ⟨hit, hsp⟩
    | false =>
      rw [hby] at hdr hT
      exact fin _ _ (hE.ints (List.Perm.refl _)) (fun A' hh => walks_plain hby hh _ a (Nat.ne_of_lt hal) (by simpa using hdr) hT) ⟨hit, hsp⟩
  | true =>
    rw [if_pos rfl]
    refine wpAny_bind (drawOrder_ok es.size (List.range es.size) _ _ (by simp) fun pl dr hpl => ?_)
    have hz : pl.length ≤ sizeLine := by rw [hpl.length_eq]; simp; exact fits_of_scanBound hb
    refine wpAny_bind (wpAny_newObj_type ?_ (by show (List.toArray _).size ≤ _; simpa using hz))
    have up1 : ∀ (oI : Obj) (b : Addr) (o : Obj), s.heap.get? b = some o → (s.heap.push oI).get? b = some o := fun oI b o e => Heap.get?_push_of_some _ e
    refine wpAny_bind (wpAny_setEpoch_of (up1 _ _ _ ho) hd hf ?_)
    refine wpAny_bind (wpAny_newObj_type (wpAny_pure ⟨_, rfl, "set_iterator", _, ⟨_, Heap.get?_push_size _ rfl, rfl⟩, si_slot_next.lookup, ?_⟩))
    have hTn : (s.heap.push { cls := .type "tuple", data := .seq (placesOf pl) }).objs.size = s.heap.objs.size + 1 := size_push' ..
    have key := h (s.heap.push { cls := .type "tuple", data := .seq (placesOf pl) }).objs.size ((s.heap.push { cls := .type "tuple", data := .seq (placesOf pl) }).push { cls := .type "set_iterator", data := .fields #[.ref s.heap.objs.size, .int (0 : Nat) 0, .ref a, .int es.size 0, .int ep 0] }) dr
      [(s.heap.push { cls := .type "tuple", data := .seq (placesOf pl) }).objs.size, a, s.heap.objs.size] (pl.filterMap fun j => (es[j]?).map (·.2)) _
      (fun b o e => Heap.get?_push_of_some _ (up1 _ _ _ e)) (by rw [hTn]; exact Nat.le_succ _) (fun b hb' => ?_) (hE.ints ?_)
      (fun A' hh => walks_drawn (t := t) (ep := ep) hh _ a s.heap.objs.size (by rw [hTn]; exact Nat.ne_of_lt (Nat.lt_succ_of_lt hal)) (by rw [hTn]; exact Nat.ne_of_lt (Nat.lt_succ_self _)) hpl) ⟨⟨_, Heap.get?_push_size _ rfl, rfl, rfl⟩, hs.at fun o e => Heap.get?_push_of_some _ (up1 _ _ _ e), _, 0, Heap.get?_push_of_some _ (Heap.get?_push_size _ rfl), rfl⟩
    · exact key
    · simp only [List.mem_cons, List.not_mem_nil, or_false] at hb'
      rcases hb' with rfl | rfl | rfl
      · rw [hTn]; exact .inr (Nat.le_succ _)
      · exact .inl rfl
      · exact .inr (Nat.le_refl _)
    · refine (hpl.filterMap _).trans ?_
      have e : (List.range es.size).filterMap (fun j => (es[j]?).map (·.2)) = ((List.range es.size).filterMap fun j => es[j]?).map (·.2) := by rw [List.map_filterMap]
      rw [e, filterMap_getElem?_range]
end
end Mine

-- S7
namespace Mine
section
variable {w : World} {A : Around} {E : Value → Shared → Prop} {s : Shared}
theorem hint_set {r : Addr} {Q : Bool → Shared → Prop} (hT : s.TypeIs (.ref r) "set") (h : Q false s) : wpAny (model Pg w) A (Builtin.List.listLengthHint (.ref r)) Q E s := by
  unfold Builtin.List.listLengthHint
  refine wpAny_bind (wpAny_specialOf hT PySem.F.slot_set_len.lookup ?_)
  generalize hid : ("set.__len__" : String) = id0
  wp_delta
  rw [show splitId id0 = some ("set", "__len__") from by subst hid; decide +kernel]
  subst hid
  refine wpAny_bind (wpAny_isInstance (T := "set") (b := true) hT (by rw [isSubtype_type]; kernel_rfl) ?_)
  refine wpAny_ite_split (fun hab => absurd hab (by decide)) (fun _ => ?_)
  refine wpAny_ite_split (fun _ => ?_) (fun hab => absurd (by decide +kernel) hab)
  refine wpAny_bind (wpAny_typeOf hT ?_)
  exact wpAny_pure h

theorem SetI.typeIs {a : Addr} {us : List Int} {led : Bool} (h : SetI w s.heap a us led) : s.TypeIs (.ref a) "set" := by
  obtain ⟨o, es, ep, t, ho, hex, _⟩ := h
  exact ⟨o, ho, hex.1⟩
theorem SetI.lt {h : Heap} {a : Addr} {us : List Int} {led : Bool} (x : SetI w h a us led) : a < h.objs.size := by
  obtain ⟨o, es, ep, t, ho, _⟩ := x
  exact Heap.lt_size ho

theorem items_ints {order : List Value} {us : List Int} {acc : Array Value} (ho : IntsOf order us) (hn : order.length = us.length) (h : ItemsOf (fun i v => order[i]? = some v) acc us.length) : IntsOf acc.toList us := by
  have e : acc.toList = order := by
    refine List.ext_getElem? fun i => ?_
    by_cases hi : i < us.length
    · have hi' : i < acc.size := by rw [h.1]; exact hi
      rw [Array.getElem?_toList, Array.getElem?_eq_getElem hi']
      exact (h.2 i _ (Array.getElem?_eq_getElem hi')).symm
    · rw [List.getElem?_eq_none (by rw [Array.length_toList, h.1]; omega), List.getElem?_eq_none (by omega)]
  rw [e]; exact ho

theorem set_extend {a : Addr} {us : List Int} {R : Result → Shared → Prop} (hh : A.handled = none) (hS : SetI w s.heap a us (!w.params.followText "set-order")) (S : Addr) (hSa : S ≠ a) (res : Value) (c₀ : Nat)
    (hL : s.heap.get? S = some { cls := .type "list", data := .seq #[] c₀ }) (hn : us.length ≤ sizeLine)
    (hR : ∀ h' tk dr acc' c', (∀ b o, b ≠ S → s.heap.get? b = some o → h'.get? b = some o) → h'.get? S = some { cls := .type "list", dict := none, data := .seq acc' c', slots := #[] } → IntsOf acc'.toList us → R (.ok (.ret res)) { s with heap := h', toks := tk, drawn := dr }) :
    wpAny (model Pg w) A.in1 (Builtin.List.listExtendWith (.ref S) (.ref a) res)
      (fun fin s' => match fin with | .done f => R (.ok f) s' | .again c' => c'.quiet = true ∧ codeAny (model Pg w) A c' R s') (fun e s' => R (.error e) s') s := by
  unfold Builtin.List.listExtendWith
  refine wpAny_bind (wpAny_typeOf (T := "set") hS.typeIs ?_)
  have h1 : Builtin.List.listSameRef (.ref S) (.ref a) = false := by simp [Builtin.List.listSameRef, hSa]
  have h2 : (Value.type "set" == Value.type "list") = false := by decide
  have h3 : (Value.type "set" == Value.type "tuple") = false := by decide
  simp only [h1, h2, h3, Bool.or_false, Bool.false_eq_true, if_false]
  refine wpAny_bind (set_pyIter hS fun I h₁ dr fp order St up hI hfp hord W st => ?_)
  have hlS := Heap.lt_size hL
  have hSf : S ∉ fp := fun q => by
    rcases hfp S q with e | e
    · exact hSa e
    · exact absurd hlS (Nat.not_lt.mpr e)
  have hlen : order.length = us.length := by obtain ⟨ns, q1, q2⟩ := hord; rw [q1.length, q2.length_eq]
  have W1 := W A.in1 hh
  have key : ∀ (h : Heap) (c₁ tk : Nat), St 0 h → (∀ b o, b ≠ S → s.heap.get? b = some o → h.get? b = some o) →
      h.get? S = some { cls := .type "list", data := .seq #[] c₁ } → codeAny (model Pg w) A (.builtin "list.extend.loop" ⟨[.ref S, .ref I, res], []⟩) R { s with heap := h, toks := tk, drawn := dr } := by
    intro h c₁ tk hst hk hS₁
    refine codeAny_extend_loopS W1.toS hn S hSf res us.length 0 _ #[] c₁ rfl (Nat.zero_le _) hst hS₁ (ItemsOf.nil _) fun s' acc' c' hm hS' hacc => ?_
    rw [Moved.eq_with hm]
    refine hR s'.heap s'.toks dr acc' c' (fun b o hb e => hm.heap b o (fun hmem => ?_) (hk b o hb e)) hS' (items_ints hord hlen hacc)
    rcases List.mem_cons.mp hmem with e' | hmem
    · exact hb e'
    · exact absurd (Heap.lt_size e) (by rw [List.mem_singleton.mp hmem]; exact Nat.not_lt.mpr hI)
  have hS₁ := up _ _ hL
  refine wpAny_bind (wpAny_holding (hint_set (s := { s with heap := h₁, drawn := dr }) (SetI.typeIs (w := w) (hS.stays fun o e => up _ _ e)) ?_))
  refine wpAny_ite_split (fun _ => ?_) (fun _ => wpAny_pure ⟨plainId_quiet PySem.F.plain_extend_loop _, key _ c₀ _ st (fun b o _ e => up _ _ e) hS₁⟩)
  refine wpAny_bind (wpAny_rule ?_)
  refine wpAny_bind ?_
  show wpAny _ _ (updateSeq S (·.push .none) >>= fun _ => updateSeq S (·.pop)) _ _ _
  refine wpAny_bind (wpAny_updateSeq hS₁ rfl ?_)
  have hS₂ := Heap.get?_update_self (Obj.mapSeq (·.push Value.none)) hS₁ rfl
  refine wpAny_updateSeq (hz := by seq_fits) hS₂ rfl ?_
  have hS₃ := Heap.get?_update_self (Obj.mapSeq (·.pop)) hS₂ rfl
  refine wpAny_pure ⟨plainId_quiet PySem.F.plain_extend_loop _, key _ _ _ ?_ (fun b o hb e => ?_) hS₃⟩
  · refine W1.frame 0 _ _ st fun b hb o e => ?_
    have hbS : b ≠ S := fun h => hSf (h ▸ hb)
    exact (Heap.get?_update_other _ _ (Ne.symm hbS)).trans ((Heap.get?_update_other _ _ (Ne.symm hbS)).trans e)
  · exact (Heap.get?_update_other _ _ (Ne.symm hb)).trans ((Heap.get?_update_other _ _ (Ne.symm hb)).trans (up _ _ e))

theorem set_collect {a : Addr} {us : List Int} {R : List Value → Shared → Prop} (hh : A.handled = none) (hS : SetI w s.heap a us (!w.params.followText "set-order")) (hn : us.length ≤ sizeLine)
    (h : ∀ (h' : Heap) tk dr (vs : List Value), (∀ b o, s.heap.get? b = some o → h'.get? b = some o) → IntsOf vs us → R vs { s with heap := h', toks := tk, drawn := dr }) :
    wpAny (model Pg w) A (collect (.ref a)) R E s := by
  have hlt := hS.lt
  unfold collect
  refine wpAny_bind (wpAny_runValue (codeAny_builtin entry_proto_collect' ?_))
  rw [Around.under_plainId PySem.F.plain_proto_collect _]
  show wpAny _ A.in1 (newList [] >>= fun l => again (.builtin "list.__iadd__" ⟨[l, .ref a], []⟩)) _ _ s
  refine wpAny_bind (wpAny_newObj_type ?_)
  refine wpAny_pure ⟨plainId_quiet PySem.F.plain_list_iadd _, codeAny_builtin entry_list_iadd' ?_⟩
  rw [Around.under_plainId PySem.F.plain_list_iadd _]
  have hS₁ : (s.heap.push { cls := .type "list", data := .seq ([] : List Value).toArray }).get? s.heap.objs.size = some { cls := .type "list", data := .seq #[] } := Heap.get?_push_size _ rfl
  show wpAny _ A.in1 (Builtin.List.listExtendWith (.ref s.heap.objs.size) (.ref a) (.ref s.heap.objs.size)) _ _ _
  have key := set_extend (A := A) (s := { s with heap := s.heap.push { cls := .type "list", data := .seq ([] : List Value).toArray } })
    (R := fun (q : Result) (s' : Shared) => ∃ (h' : Heap) (tk : Nat) (dr : _) (acc' : Array Value) (c' : Nat), q = .ok (.ret (.ref s.heap.objs.size)) ∧ s' = { s with heap := h', toks := tk, drawn := dr } ∧
      (∀ b o, s.heap.get? b = some o → h'.get? b = some o) ∧ h'.get? s.heap.objs.size = some { cls := .type "list", dict := none, data := .seq acc' c', slots := #[] } ∧ IntsOf acc'.toList us)
    hh (hS.stays fun o e => Heap.get?_push_of_some _ e) s.heap.objs.size (Nat.ne_of_gt hlt) (.ref s.heap.objs.size) 0 hS₁ hn
    (fun h' tk dr acc' c' hk hS' hacc => ⟨h', tk, dr, acc', c', rfl, rfl, fun b o e => hk b o (Nat.ne_of_lt (Heap.lt_size e)) (Heap.get?_push_of_some _ e), hS', hacc⟩)
  refine wpAny_mono key (fun fin s' x => ?_) fun e s' x => ?_
  · cases fin with
    | done f =>
      obtain ⟨h', tk, dr, acc', c', e, rfl, hk, hS', hacc⟩ := x
      cases e
      show wpAny _ A (load s.heap.objs.size >>= _) _ _ _
      refine wpAny_bind (wpAny_load hS' ?_)
      exact wpAny_pure (h h' tk dr acc'.toList hk hacc)
    | again c₁ =>
      refine ⟨x.1, codeAny_mono x.2 fun q s₂ y => ?_⟩
      obtain ⟨h', tk, dr, acc', c', rfl, rfl, hk, hS', hacc⟩ := y
      show wpAny _ A (load s.heap.objs.size >>= _) _ _ _
      refine wpAny_bind (wpAny_load hS' ?_)
      exact wpAny_pure (h h' tk dr acc'.toList hk hacc)
  · obtain ⟨_, _, _, _, _, e', _⟩ := x
    cases e'

theorem sorted_set {h₀ : Heap} {L : Addr} {m : Str → Option Value} {news : List (Addr × Obj)} {a : Addr} {us : List Int} {Q : Value → Shared → Prop} (hh : A.handled = none) (F : Fr h₀ L s.heap m) (N : News h₀ L s.heap news)
    (hS : SetI w s.heap a us (!w.params.followText "set-order")) (hn : us.length < 64)
    (h : ∀ (D : Addr) (h' : Heap) tk dr c (vs : List Value) (ns : List Int), Fr h₀ L h' m → News h₀ L h' ((D, lst vs c) :: news) → (∀ q ∈ news, q.1 < D) → IntsAre vs ns → ns.Perm us → ns.Pairwise (· ≤ ·) → Q (.ref D) { s with heap := h', toks := tk, drawn := dr }) :
    wpAny (model Pg w) A (call (.builtin "sorted") [.ref a]) Q E s := by
  have hz : us.length ≤ sizeLine := by rw [sizeLine_eq]; omega
  refine Calls.call_function_entry kind_sorted plain_sorted entry_sorted (args_sorted1 _) ?_
  unfold Builtin.«sorted»
  refine wpAny_bind (m := checkCount "sorted" 1 1 _) (wpAny_pure ?_)
  refine wpAny_bind (set_collect (A := A.in1) hh hS hz fun h' tk dr vs hk hvs => ?_)
  obtain ⟨ns, hi, hp⟩ := hvs
  have hl : vs.length = us.length := by rw [hi.length, hp.length_eq]
  refine wpAny_bind (wpAny_newList ?_ (by rw [hl]; exact hz))
  have hoL : (h'.push { cls := .type "list", data := .seq vs.toArray }).get? h'.objs.size = some (seqObj "list" vs.toArray 0) := Heap.get?_push_size _ rfl
  refine wpAny_bind (wpAny_holding (wpAny_call_entry PyProof.Rows.slot_list_sort ⟨_, hoL, rfl⟩ PyProof.Rows.entry_list_sort (list_sort_tree (s := { s with heap := h'.push { cls := .type "list", data := .seq vs.toArray }, toks := tk, drawn := dr }) hoL hi (by omega) fun out ns' a1 a2 a3 => ⟨_, rfl, ?_⟩) (PyProof.Rows.args_list_sort _)))
  have kk : ∀ b o, h'.get? b = some o → (sortedHeap (h'.push { cls := .type "list", data := .seq vs.toArray }) h'.objs.size vs out).get? b = some o := fun b o e => by
    have hlt := Heap.lt_size e
    rw [sortedHeap_old (Nat.ne_of_lt hlt) (by rw [size_push']; exact Nat.lt_succ_of_lt hlt)]
    exact Heap.get?_push_of_some _ e
  obtain ⟨c, hc⟩ := sortedHeap_at (out := out) hoL
  have F1 := F.kept hk
  have N1 : News h₀ L h' news := fun p hp => ⟨hk _ _ (N p hp).1, (N p hp).2⟩
  exact wpAny_pure ⟨_, rfl, h h'.objs.size _ tk dr c out.toList ns' (F1.kept kk) (N1.kept_cons F1 kk (Nat.le_refl _) (by simpa using hc)) (fun q hq => Heap.lt_size (hk _ _ (N q hq).1)) a1 (a2.trans hp) a3⟩
end
end Mine

-- Z1
namespace Mine
theorem z_entry_ga : entryFor table "zip.__getattribute__" = some Builtin.«object.__getattribute__» :=
  entryFor_alias (id' := "object.__getattribute__") (by rw [fastTable_eq_tree]; kernel_rfl) (by first | rfl | decide +kernel) (by decide +kernel) (by rw [fastTable_eq_tree]; kernel_rfl)
theorem z_no_keys : typeLookup (.type "zip") "keys" = pure none := by rw [typeLookup_type, builtinLookup_eq_fast]; kernel_rfl
theorem z_no_getattr : typeLookup (.type "zip") "__getattr__" = pure none := by rw [typeLookup_type, builtinLookup_eq_fast]; kernel_rfl
theorem z_ga (a : Addr) (vs : Array Value) (u : Tok) :
    Meets (Builtin.«object.__getattribute__» ⟨[.ref a, .str (Str.ofString "keys") u], []⟩) (fun A R s => s.heap.get? a = some { cls := .type "zip", dict := none, data := .fields vs, slots := #[] } ∧ raisesAttr (.ref a) (Str.ofString "keys") A R s) :=
  Meets.of_wp fun prog w A R s hs => by
    obtain ⟨hp, g, d, tk, os⟩ := s
    obtain ⟨hx, hs⟩ := hs
    have hT : (⟨hp, g, d, tk, os⟩ : Shared).TypeIs (.ref a) "zip" := ⟨_, hx, rfl⟩
    have f4 := z_no_keys
    unfold Builtin.«object.__getattribute__»
    repeat (any_goals (first | assumption | wp_step))
    exact wpAny_raiseAttrError hs.1 hs.2 (attrMsg_fits (by decide +kernel) (by rw [sizeLine_eq]; decide +kernel))
section
variable {w : World} {A : Around} {E : Value → Shared → Prop} {s : Shared}
theorem z_miss {a : Addr} {vs : Array Value} {Q : Option Value → Shared → Prop} (hx : s.heap.get? a = some { cls := .type "zip", dict := none, data := .fields vs, slots := #[] }) (hA : A.handled = none)
    (h : ∀ h' tk, (∀ b o, s.heap.get? b = some o → h'.get? b = some o) → Q none { s with heap := h', toks := tk }) :
    wpAny (model Pg w) A (getAttr? (.ref a) (Str.ofString "keys")) Q E s := by
  obtain ⟨hp, g, d, tk, os⟩ := s
  have hT : ∀ tk', (⟨hp, g, d, tk', os⟩ : Shared).TypeIs (.ref a) "zip" := fun _ => ⟨_, hx, rfl⟩
  have f1 := sub_AttributeError
  have f3 := PySem.F.slot_zip_getattribute.lookup
  have f4 := PySem.F.slot_zip_getattribute.bind (.ref a)
  have f5 := z_no_getattr
  unfold getAttr? getAttrBy? getAttrBy
  repeat (any_goals (first | assumption | exact hT _ | ((with_reducible show wpAny _ _ (call (Value.builtin "zip.__getattribute__") _ _) _ _ _); refine call_meets PySem.F.slot_zip_getattribute (hT _) z_entry_ga (PySem.F.args_zip_getattribute_2 _ _) (z_ga a vs _) ⟨hx, hA, fun h' tk' e hx' => ?_⟩) | wp_step))
  obtain ⟨t', u', he⟩ := hx'.there
  show wpAny _ _ (getattributeRaised _ _ _ _ _ _ _) _ _ _
  unfold getattributeRaised
  repeat (any_goals (first | assumption | wp_step))
  exact h _ _ hx'.keeps
end
end Mine

-- Z2
namespace Mine
noncomputable abbrev zObj (f0 f1 : Value) (TI TO : Addr) : Obj := { cls := .type "zip", dict := none, data := .fields #[f0, f1, .bool false, .ref TI, .ref TO], slots := #[] }

theorem zr_new (l1 r : Addr) (xs : Array Value) (n : Int) (t u v : Tok) (hsm : Builtin.Range.small 0 n 1 = true) :
    Meets (Builtin.«zip.__new__» ⟨[.type "zip", .ref l1, .ref r], []⟩) (fun _ R s => s.heap.IsList l1 xs ∧ IsRange s.heap r 0 n 1 t u v ∧
      R (.ok (.ret (.ref ((((s.heap.push { cls := .type "list_iterator", data := .fields #[.ref l1, .int 0 0] }).push { cls := .type "range_iterator", data := .fields #[rawInt 0, rawInt (Builtin.Range.rangeSize 0 n 1), rawInt 1] }).push
          { cls := .type "tuple", data := .seq #[.ref s.heap.objs.size, .ref (s.heap.push { cls := .type "list_iterator", data := .fields #[.ref l1, .int 0 0] }).objs.size] }).push { cls := .type "tuple", data := .seq #[.none, .none] }).objs.size)))
        { s with heap := (((((s.heap.push { cls := .type "list_iterator", data := .fields #[.ref l1, .int 0 0] }).push { cls := .type "range_iterator", data := .fields #[rawInt 0, rawInt (Builtin.Range.rangeSize 0 n 1), rawInt 1] }).push
          { cls := .type "tuple", data := .seq #[.ref s.heap.objs.size, .ref (s.heap.push { cls := .type "list_iterator", data := .fields #[.ref l1, .int 0 0] }).objs.size] }).push { cls := .type "tuple", data := .seq #[.none, .none] }).push
          { cls := .type "zip", data := .fields #[.none, .bool false, .bool false, .ref ((s.heap.push { cls := .type "list_iterator", data := .fields #[.ref l1, .int 0 0] }).push { cls := .type "range_iterator", data := .fields #[rawInt 0, rawInt (Builtin.Range.rangeSize 0 n 1), rawInt 1] }).objs.size,
            .ref (((s.heap.push { cls := .type "list_iterator", data := .fields #[.ref l1, .int 0 0] }).push { cls := .type "range_iterator", data := .fields #[rawInt 0, rawInt (Builtin.Range.rangeSize 0 n 1), rawInt 1] }).push
          { cls := .type "tuple", data := .seq #[.ref s.heap.objs.size, .ref (s.heap.push { cls := .type "list_iterator", data := .fields #[.ref l1, .int 0 0] }).objs.size] }).objs.size] }) }) :=
  .of_wp fun prog w A R s h => by
    obtain ⟨hp, g, d, tk, os⟩ := s; obtain ⟨hl1, hr, h⟩ := h
    have hsub := sub_zip
    have hL1 : Heap.IsList (Shared.heap ⟨hp, g, d, tk, os⟩) l1 xs := hl1
    have hR2 : IsRange (Shared.heap ⟨hp.push { cls := .type "list_iterator", data := .fields #[.ref l1, .int 0 0] }, g, d, tk, os⟩) r 0 n 1 t u v := Heap.get?_push_of_some _ hr
    wp_walk using wpAny_pyIter_list hL1, wpAny_pyIter_range hR2 hsm
    exact ⟨_, rfl, h⟩

section
variable {w : World} {A : Around} {E : Value → Shared → Prop} {s : Shared}
theorem zr_call {l1 r : Addr} {xs : Array Value} {n : Int} {t u v : Tok} {Q : Value → Shared → Prop} (hl1 : s.heap.IsList l1 xs) (hr : IsRange s.heap r 0 n 1 t u v) (hsm : Builtin.Range.small 0 n 1 = true)
    (h : ∀ h', h'.get? (s.heap.objs.size + 4) = some (zObj .none (.bool false) (s.heap.objs.size + 2) (s.heap.objs.size + 3)) → PySem.IsPair h' (s.heap.objs.size + 2) (.ref s.heap.objs.size) (.ref (s.heap.objs.size + 1)) →
      PySem.IsPair h' (s.heap.objs.size + 3) .none .none → h'.IsListIter s.heap.objs.size l1 0 → IsRangeIter h' (s.heap.objs.size + 1) 0 (Builtin.Range.rangeSize 0 n 1) 1 → h'.objs.size = s.heap.objs.size + 5 →
      (∀ c o, s.heap.get? c = some o → h'.get? c = some o) → Q (.ref (s.heap.objs.size + 4)) { s with heap := h' }) :
    wpAny (model Pg w) A (call (.type "zip") [.ref l1, .ref r]) Q E s := by
  refine callType_new PySem.F.called_zip (by decide) (PySem.F.typeCall_zip_2 _ _) (PySem.F.newCall_zip_2 _ _) (fun obj => PySem.F.args_object_init_3 obj _ _) PySem.F.entry_zip_new
    (zr_new l1 r xs n t u v hsm) ⟨hl1, hr, ?_⟩
  generalize e1 : s.heap.push { cls := .type "list_iterator", data := .fields #[.ref l1, .int 0 0] } = H1
  generalize e2 : H1.push { cls := .type "range_iterator", data := .fields #[rawInt 0, rawInt (Builtin.Range.rangeSize 0 n 1), rawInt 1] } = H2
  generalize e3 : H2.push { cls := .type "tuple", data := .seq #[.ref s.heap.objs.size, .ref H1.objs.size] } = H3
  generalize e4 : H3.push { cls := .type "tuple", data := .seq #[.none, .none] } = H4
  generalize e5 : H4.push { cls := .type "zip", data := .fields #[.none, .bool false, .bool false, .ref H2.objs.size, .ref H3.objs.size] } = H5
  have z1 : H1.objs.size = s.heap.objs.size + 1 := by rw [← e1]; exact Heap.size_push ..
  have z2 : H2.objs.size = s.heap.objs.size + 2 := by rw [← e2, Heap.size_push, z1]
  have z3 : H3.objs.size = s.heap.objs.size + 3 := by rw [← e3, Heap.size_push, z2]
  have z4 : H4.objs.size = s.heap.objs.size + 4 := by rw [← e4, Heap.size_push, z3]
  have z5 : H5.objs.size = s.heap.objs.size + 5 := by rw [← e5, Heap.size_push, z4]
  have u5 : ∀ c o, H4.get? c = some o → H5.get? c = some o := fun c o q => by rw [← e5]; exact Heap.get?_push_of_some _ q
  have u4 : ∀ c o, H3.get? c = some o → H5.get? c = some o := fun c o q => u5 _ _ (by rw [← e4]; exact Heap.get?_push_of_some _ q)
  have u3 : ∀ c o, H2.get? c = some o → H5.get? c = some o := fun c o q => u4 _ _ (by rw [← e3]; exact Heap.get?_push_of_some _ q)
  have u2 : ∀ c o, H1.get? c = some o → H5.get? c = some o := fun c o q => u3 _ _ (by rw [← e2]; exact Heap.get?_push_of_some _ q)
  have u1 : ∀ c o, s.heap.get? c = some o → H5.get? c = some o := fun c o q => u2 _ _ (by rw [← e1]; exact Heap.get?_push_of_some _ q)
  have g5 : H5.get? H4.objs.size = some (zObj .none (.bool false) H2.objs.size H3.objs.size) := by rw [← e5]; exact Heap.get?_push_size _ rfl
  have g4 : H5.get? H3.objs.size = some { cls := .type "tuple", data := .seq #[.none, .none] } := u5 _ _ (by rw [← e4]; exact Heap.get?_push_size _ rfl)
  have g3 : H5.get? H2.objs.size = some { cls := .type "tuple", data := .seq #[.ref s.heap.objs.size, .ref H1.objs.size] } := u4 _ _ (by rw [← e3]; exact Heap.get?_push_size _ rfl)
  have g2 : H5.get? H1.objs.size = some { cls := .type "range_iterator", data := .fields #[rawInt 0, rawInt (Builtin.Range.rangeSize 0 n 1), rawInt 1] } := u3 _ _ (by rw [← e2]; exact Heap.get?_push_size _ rfl)
  have g1 : H5.get? s.heap.objs.size = some { cls := .type "list_iterator", data := .fields #[.ref l1, .int 0 0] } := u2 _ _ (by rw [← e1]; exact Heap.get?_push_size _ rfl)
  show _ ∧ _
  rw [z2, z3, z4] at g5
  rw [z1, z2] at g3
  rw [z3] at g4
  rw [z1] at g2
  rw [z4]
  exact ⟨⟨_, g5, rfl⟩, h _ g5 g3 g4 ⟨_, g1, rfl, rfl⟩ g2 z5 u1⟩

theorem nextOf_range {it : Addr} {x left step : Int} {Q : Value → Shared → Prop} (hit : IsRangeIter s.heap it x left step) (hleft : 0 < left)
    (hQ : ∀ h', IsRangeIter h' it (x + step) (left - 1) step → Heap.SameBut it s.heap h' → Q (.int x s.toks) { s with heap := h', toks := s.toks + 1 }) :
    wpAny (model Pg w) A (Builtin.SmallTypes.nextOf (.ref it)) Q E s := by
  have hT : s.TypeIs (.ref it) "range_iterator" := ⟨_, hit, rfl⟩
  unfold Builtin.SmallTypes.nextOf
  refine wpAny_bind (wpAny_callSpecial?_slot (name := Str.ofString "__next__") hT PySem.F.slot_range_iterator_next
    (call_meets PySem.F.slot_range_iterator_next hT PySem.F.entry_range_iterator_next (PySem.F.args_range_iterator_next_1 _) (AutoRange.range_iterator___next___range_iterator_1 it x left step (by omega)) ⟨hit, ?_⟩))
  exact wpAny_pure (hQ _ (Heap.get?_update_self _ (Heap.get?_update_self _ hit rfl) rfl) ((Heap.SameBut.update ..).trans (Heap.SameBut.update ..)))

theorem alive_ok {a : Addr} {Q : Option Obj → Shared → Prop} (h : Q (s.heap.get? a) s) : wpAny (model Pg w) A (loadIfAlive a) Q E s := fun Γ p _ => by
  simp only [loadIfAlive, Sem.wp]
  exact h
end
end Mine

-- Z3
namespace Mine
section
variable {w : World} {A : Around} {E : Value → Shared → Prop} {s : Shared}

theorem zr_first {z TI TO i1 i2 l1 : Addr} {k : Nat} {left : Int} {xs : Array Value} {x a b : Value} {Q : Option Value → Shared → Prop} (D : ZipApart z TI TO i1 i2 l1 l1)
    (hz : s.heap.get? z = some (zObj .none (.bool false) TI TO)) (hTI : PySem.IsPair s.heap TI (.ref i1) (.ref i2)) (hTO : PySem.IsPair s.heap TO a b)
    (h1 : s.heap.IsListIter i1 l1 k) (h2 : IsRangeIter s.heap i2 k left 1) (hl1 : s.heap.IsList l1 xs) (hx : xs[k]? = some x) (hleft : 0 < left)
    (hQ : ∀ h' tk t, h'.get? z = some (zObj (rawInt s.heap.objs.size) (.bool false) TI TO) → h'.IsListIter i1 l1 (k + 1) → IsRangeIter h' i2 (k + 1 : Nat) (left - 1) 1 → PySem.IsPair h' s.heap.objs.size x (.int k t) →
      (∀ c o, c ≠ z → c ≠ TO → c ≠ i1 → c ≠ i2 → s.heap.get? c = some o → h'.get? c = some o) → Q (some (.ref s.heap.objs.size)) { s with heap := h', toks := tk }) :
    wpAny (model Pg w) A (pyNext (.ref z)) Q E s := by
  have hT : s.TypeIs (.ref z) "zip" := ⟨_, hz, rfl⟩
  unfold pyNext
  refine wpAny_bind (wpAny_attempt (wpAny_callSpecial?_slot (name := Str.ofString "__next__") hT PySem.F.slot_zip_next
    (wpAny_call_entry PySem.F.slot_zip_next hT PySem.F.entry_zip_next ?_ (PySem.F.args_zip_next_1 _))))
  show wpAny _ _ (field (.ref z) 2 >>= _) _ _ _
  refine wpAny_bind (wpAny_field hz rfl (x := .bool false) rfl ?_)
  show wpAny _ _ (field (.ref z) 3 >>= _) _ _ _
  refine wpAny_bind (wpAny_field hz rfl (x := .ref TI) rfl ?_)
  refine wpAny_bind (wpAny_seqItems hTI rfl ?_)
  show wpAny _ _ (Builtin.SmallTypes.ownedTupleIsFree (.ref z) >>= _) _ _ _
  refine wpAny_bind ?_
  unfold Builtin.SmallTypes.ownedTupleIsFree
  refine wpAny_bind (wpAny_field hz rfl (x := .none) rfl (wpAny_pure ?_))
  simp only [if_true]
  refine wpAny_bind (wpAny_rule ?_)
  refine wpAny_bind (wpAny_field hz rfl (x := .ref TO) rfl ?_)
  refine wpAny_bind (wpAny_setField_rec hz (by simp) fun h₁ hz₁ hs₁ => ?_)
  replace hz₁ : h₁.get? z = some (zObj .ellipsis (.bool false) TI TO) := hz₁
  refine wpAny_bind ?_
  simp only [List.zipIdx_cons, List.zipIdx_nil, List.forIn_cons, List.forIn_nil]
  refine wpAny_bind (wpAny_bind (wpAny_onRaise ?_))
  show wpAny _ _ (Builtin.SmallTypes.nextOf (.ref i1) >>= _) _ _ _
  refine wpAny_bind (wpAny_nextOf_list_item (h1.extBut hs₁.extBut D.i1z) (hl1.extBut hs₁.extBut D.l1z) hx fun h₂ h1₂ hs₂ => wpAny_pure ?_)
  have hTO₂ : PySem.IsPair h₂ TO a b := hs₂.extBut _ _ D.TOi1 (hs₁.extBut _ _ D.TOz hTO)
  refine wpAny_bind (wpAny_seqItems hTO₂ rfl ?_)
  refine wpAny_bind (wpAny_updateSeq_pair hTO₂ fun h₃ hTO₃ hs₃ => ?_)
  replace hTO₃ : PySem.IsPair h₃ TO x b := hTO₃
  refine wpAny_bind (wpAny_letGo (wpAny_pure ?_))
  refine wpAny_bind (wpAny_bind (wpAny_onRaise ?_))
  show wpAny _ _ (Builtin.SmallTypes.nextOf (.ref i2) >>= _) _ _ _
  have h2₃ : IsRangeIter h₃ i2 k left 1 := hs₃.extBut _ _ D.TOi2.symm (hs₂.extBut _ _ D.i12.symm (hs₁.extBut _ _ D.i2z h2))
  refine wpAny_bind (nextOf_range (s := { s with heap := h₃ }) h2₃ hleft fun h₄ h2₄ hs₄ => wpAny_pure ?_)
  have hTO₄ : PySem.IsPair h₄ TO x b := hs₄.extBut _ _ D.TOi2 hTO₃
  refine wpAny_bind (wpAny_seqItems hTO₄ rfl ?_)
  refine wpAny_bind (wpAny_updateSeq_pair hTO₄ fun h₅ hTO₅ hs₅ => ?_)
  replace hTO₅ : PySem.IsPair h₅ TO x (.int k s.toks) := hTO₅
  refine wpAny_bind (wpAny_letGo (wpAny_pure (wpAny_pure ?_)))
  refine wpAny_bind (wpAny_seqItems hTO₅ rfl ?_)
  refine wpAny_bind (wpAny_newTuple ?_)
  have hsz : h₅.objs.size = s.heap.objs.size := by rw [hs₅.1, hs₄.1, hs₃.1, hs₂.1, hs₁.1]
  have hz₅ : h₅.get? z = some (zObj .ellipsis (.bool false) TI TO) := hs₅.extBut _ _ D.TOz.symm (hs₄.extBut _ _ D.i2z.symm (hs₃.extBut _ _ D.TOz.symm (hs₂.extBut _ _ D.i1z.symm hz₁)))
  have hk₅ : ∀ c o, c ≠ z → c ≠ TO → c ≠ i1 → c ≠ i2 → s.heap.get? c = some o → h₅.get? c = some o := fun c o c1 c2 c3 c4 e =>
    hs₅.extBut _ _ c2 (hs₄.extBut _ _ c4 (hs₃.extBut _ _ c2 (hs₂.extBut _ _ c3 (hs₁.extBut _ _ c1 e))))
  have h1₅ : h₅.IsListIter i1 l1 (k + 1) := ((h1₂.extBut hs₃.extBut D.TOi1.symm).extBut hs₄.extBut D.i12).extBut hs₅.extBut D.TOi1.symm
  have h2₅ : IsRangeIter h₅ i2 (k + 1) (left - 1) 1 := hs₅.extBut _ _ D.TOi2.symm h2₄
  have hzlt : z < h₅.objs.size := Heap.lt_size hz₅
  show wpAny _ _ (Builtin.SmallTypes.ownedTupleHandOut (.ref z) (.ref h₅.objs.size) >>= _) _ _ _
  refine wpAny_bind ?_
  unfold Builtin.SmallTypes.ownedTupleHandOut
  have hz₆ : (h₅.push { cls := .type "tuple", data := .seq #[x, .int k s.toks] }).get? z = some (zObj .ellipsis (.bool false) TI TO) := Heap.get?_push_of_some _ hz₅
  refine wpAny_bind (wpAny_setField_rec hz₆ (by simp) fun h₇ hz₇ hs₇ => ?_)
  replace hz₇ : h₇.get? z = some (zObj (rawInt h₅.objs.size) (.bool false) TI TO) := hz₇
  refine wpAny_setField_rec hz₇ (by simp) fun h₈ hz₈ hs₈ => ?_
  replace hz₈ : h₈.get? z = some (zObj (rawInt h₅.objs.size) (.bool false) TI TO) := hz₈
  have up : ∀ c o, c ≠ z → h₅.get? c = some o → h₈.get? c = some o := fun c o c1 e => hs₈.extBut _ _ c1 (hs₇.extBut _ _ c1 (Heap.get?_push_of_some _ e))
  have hT₈ : PySem.IsPair h₈ h₅.objs.size x (.int k s.toks) := hs₈.extBut _ _ (Nat.ne_of_gt hzlt) (hs₇.extBut _ _ (Nat.ne_of_gt hzlt) (Heap.get?_push_size _ rfl))
  rw [hsz] at hz₈ hT₈
  refine wpAny_pure ⟨_, rfl, wpAny_pure ?_⟩
  show Q (some (.ref h₅.objs.size)) _
  rw [hsz]
  exact hQ h₈ _ _ hz₈ (h1₅.at fun o e => up _ o D.i1z e) (up _ _ D.i2z h2₅) hT₈ fun c o c1 c2 c3 c4 e => up c o c1 (hk₅ c o c1 c2 c3 c4 e)

theorem zr_owned {z TI TO T : Addr} {f1 : Bool} {oT : Obj} {Q : Bool → Shared → Prop} (hz : s.heap.get? z = some (zObj (rawInt T) (.bool f1) TI TO)) (hT : s.heap.get? T = some oT)
    (h : ∀ h', h'.get? z = some (zObj (rawInt T) (.bool true) TI TO) → Heap.SameBut z s.heap h' → Q false { s with heap := h' }) :
    wpAny (model Pg w) A (Builtin.SmallTypes.ownedTupleIsFree (.ref z)) Q E s := by
  unfold Builtin.SmallTypes.ownedTupleIsFree
  refine wpAny_bind (wpAny_field hz rfl (x := rawInt T) rfl ?_)
  unfold rawInt
  dsimp only
  refine wpAny_bind (alive_ok ?_)
  simp only [Int.toNat_natCast, hT, Option.isNone_some, Bool.false_eq_true, if_false]
  refine wpAny_bind (wpAny_field hz rfl (x := .bool f1) rfl ?_)
  cases f1 with
  | false =>
    rw [if_pos (by decide)]
    refine wpAny_bind (wpAny_setField_rec hz (by simp) fun h₁ hz₁ hs₁ => ?_)
    exact wpAny_pure (h h₁ hz₁ hs₁)
  | true =>
    rw [if_neg (by decide)]
    have e : s = { s with heap := s.heap } := by cases s; rfl
    rw [e]
    exact wpAny_pure (h s.heap hz (Heap.SameBut.refl _ _))

theorem zr_next {z TI TO i1 i2 l1 T : Addr} {k : Nat} {left : Int} {xs : Array Value} {x : Value} {f1 : Bool} {oT : Obj} {Q : Option Value → Shared → Prop} (D : ZipApart z TI TO i1 i2 l1 l1)
    (hz : s.heap.get? z = some (zObj (rawInt T) (.bool f1) TI TO)) (hTI : PySem.IsPair s.heap TI (.ref i1) (.ref i2)) (hoT : s.heap.get? T = some oT)
    (h1 : s.heap.IsListIter i1 l1 k) (h2 : IsRangeIter s.heap i2 k left 1) (hl1 : s.heap.IsList l1 xs) (hx : xs[k]? = some x) (hleft : 0 < left)
    (hQ : ∀ h' tk t, h'.get? z = some (zObj (rawInt T) (.bool true) TI TO) → h'.IsListIter i1 l1 (k + 1) → IsRangeIter h' i2 (k + 1 : Nat) (left - 1) 1 → PySem.IsPair h' s.heap.objs.size x (.int k t) →
      (∀ c o, c ≠ z → c ≠ i1 → c ≠ i2 → s.heap.get? c = some o → h'.get? c = some o) → Q (some (.ref s.heap.objs.size)) { s with heap := h', toks := tk }) :
    wpAny (model Pg w) A (pyNext (.ref z)) Q E s := by
  have hT : s.TypeIs (.ref z) "zip" := ⟨_, hz, rfl⟩
  unfold pyNext
  refine wpAny_bind (wpAny_attempt (wpAny_callSpecial?_slot (name := Str.ofString "__next__") hT PySem.F.slot_zip_next
    (wpAny_call_entry PySem.F.slot_zip_next hT PySem.F.entry_zip_next ?_ (PySem.F.args_zip_next_1 _))))
  show wpAny _ _ (field (.ref z) 2 >>= _) _ _ _
  refine wpAny_bind (wpAny_field hz rfl (x := .bool false) rfl ?_)
  show wpAny _ _ (field (.ref z) 3 >>= _) _ _ _
  refine wpAny_bind (wpAny_field hz rfl (x := .ref TI) rfl ?_)
  refine wpAny_bind (wpAny_seqItems hTI rfl ?_)
  show wpAny _ _ (Builtin.SmallTypes.ownedTupleIsFree (.ref z) >>= _) _ _ _
  refine wpAny_bind (zr_owned hz hoT fun h₁ hz₁ hs₁ => ?_)
  simp only [Bool.false_eq_true, if_false]
  refine wpAny_bind ?_
  simp only [List.forIn_toArray, List.forIn_cons, List.forIn_nil]
  refine wpAny_bind (wpAny_bind (wpAny_holding ?_))
  show wpAny _ _ (Builtin.SmallTypes.nextOf (.ref i1) >>= _) _ _ _
  refine wpAny_bind (wpAny_nextOf_list_item (h1.extBut hs₁.extBut D.i1z) (hl1.extBut hs₁.extBut D.l1z) hx fun h₂ h1₂ hs₂ => wpAny_pure ?_)
  refine wpAny_pure ?_
  dsimp only
  refine wpAny_bind (wpAny_bind (wpAny_holding ?_))
  show wpAny _ _ (Builtin.SmallTypes.nextOf (.ref i2) >>= _) _ _ _
  have h2₂ : IsRangeIter h₂ i2 k left 1 := hs₂.extBut _ _ D.i12.symm (hs₁.extBut _ _ D.i2z h2)
  refine wpAny_bind (nextOf_range (s := { s with heap := h₂ }) h2₂ hleft fun h₄ h2₄ hs₄ => wpAny_pure ?_)
  refine wpAny_pure ?_
  dsimp only
  refine wpAny_pure ?_
  refine wpAny_bind (wpAny_newTuple ?_ (by show 2 ≤ sizeLine; rw [sizeLine_eq]; decide))
  have hsz : h₄.objs.size = s.heap.objs.size := by rw [hs₄.1, hs₂.1, hs₁.1]
  have hz₄ : h₄.get? z = some (zObj (rawInt T) (.bool true) TI TO) := hs₄.extBut _ _ D.i2z.symm (hs₂.extBut _ _ D.i1z.symm hz₁)
  have h1₄ : h₄.IsListIter i1 l1 (k + 1) := h1₂.extBut hs₄.extBut D.i12
  refine wpAny_pure ⟨_, rfl, wpAny_pure ?_⟩
  show Q (some (.ref h₄.objs.size)) _
  rw [hsz]
  refine hQ _ _ s.toks (Heap.get?_push_of_some _ hz₄) (h1₄.at fun o e => Heap.get?_push_of_some _ e) (Heap.get?_push_of_some _ h2₄) ?_ fun c o c1 c3 c4 e => Heap.get?_push_of_some _ (hs₄.extBut _ _ c4 (hs₂.extBut _ _ c3 (hs₁.extBut _ _ c1 e)))
  rw [← hsz]
  exact Heap.get?_push_size _ rfl

theorem zr_end {z TI TO i1 i2 l1 T : Addr} {k : Nat} {xs : Array Value} {f1 : Bool} {oT : Obj} {Q : Option Value → Shared → Prop} (hh : A.handled = none) (D : ZipApart z TI TO i1 i2 l1 l1)
    (hz : s.heap.get? z = some (zObj (rawInt T) (.bool f1) TI TO)) (hTI : PySem.IsPair s.heap TI (.ref i1) (.ref i2)) (hoT : s.heap.get? T = some oT)
    (h1 : s.heap.IsListIter i1 l1 k) (hl1 : s.heap.IsList l1 xs) (hx : xs[k]? = none)
    (hQ : ∀ h', (∀ c o, c ≠ z → c ≠ i1 → s.heap.get? c = some o → h'.get? c = some o) → Q none { s with heap := h' }) :
    wpAny (model Pg w) A (pyNext (.ref z)) Q E s := by
  have hT : s.TypeIs (.ref z) "zip" := ⟨_, hz, rfl⟩
  unfold pyNext
  refine wpAny_bind (wpAny_attempt (wpAny_callSpecial?_slot (name := Str.ofString "__next__") hT PySem.F.slot_zip_next
    (wpAny_call_entry PySem.F.slot_zip_next hT PySem.F.entry_zip_next ?_ (PySem.F.args_zip_next_1 _))))
  show wpAny _ _ (field (.ref z) 2 >>= _) _ _ _
  refine wpAny_bind (wpAny_field hz rfl (x := .bool false) rfl ?_)
  show wpAny _ _ (field (.ref z) 3 >>= _) _ _ _
  refine wpAny_bind (wpAny_field hz rfl (x := .ref TI) rfl ?_)
  refine wpAny_bind (wpAny_seqItems hTI rfl ?_)
  show wpAny _ _ (Builtin.SmallTypes.ownedTupleIsFree (.ref z) >>= _) _ _ _
  refine wpAny_bind (zr_owned hz hoT fun h₁ hz₁ hs₁ => ?_)
  simp only [Bool.false_eq_true, if_false]
  refine wpAny_bind ?_
  simp only [List.forIn_toArray, List.forIn_cons, List.forIn_nil]
  refine wpAny_bind (wpAny_bind (wpAny_holding ?_))
  show wpAny _ _ (Builtin.SmallTypes.nextOf (.ref i1) >>= _) _ _ _
  refine wpAny_bind (wpAny_nextOf_list_end (A := A.in1) hh (h1.extBut hs₁.extBut D.i1z) (hl1.extBut hs₁.extBut D.l1z) hx fun h₂ e hs₂ he => ?_)
  obtain ⟨oe, hoe, hce⟩ := he
  refine wpAny_bind (wpAny_isInstance (T := "StopIteration") (b := true) ⟨oe, hoe, hce⟩ isSubtype_stop ?_)
  exact wpAny_pure (hQ _ fun c o c1 c3 q => hs₂ _ _ c3 (hs₁.extBut _ _ c1 q))
end
end Mine

-- Z4
namespace Mine
theorem dl_entry : entryFor table "dict.update.loop" = some Builtin.«dict.update.loop» := entryFor_of_tree (by kernel_rfl)
theorem dl_plain : plainId "dict.update.loop" = true := by decide +kernel

/-- the first i pairs of zip(us, range(..)) as a dict holds them -/
structure Kvs (us : List Int) (i : Nat) (kvs : List (Int × Value)) : Prop where
  keys : kvs.map (·.1) = us.take i
  vals : ∀ j, j < i → ∀ p, kvs[j]? = some p → ∃ t, p.2 = .int j t
theorem Kvs.len {us : List Int} {i : Nat} {kvs : List (Int × Value)} (h : Kvs us i kvs) (hi : i ≤ us.length) : kvs.length = i := by
  have := congrArg List.length h.keys
  rw [List.length_map, List.length_take] at this
  exact this.trans (Nat.min_eq_left hi)
theorem Kvs.next {us : List Int} {i : Nat} {kvs : List (Int × Value)} (h : Kvs us i kvs) (hi : i < us.length) (hn : us.Nodup) (t : Tok) : Kvs us (i + 1) (stored kvs us[i] (.int i t)) := by
  have hnot : us[i] ∉ kvs.map (·.1) := by
    rw [h.keys]
    intro q
    obtain ⟨j, hj, e⟩ := List.getElem_of_mem q
    rw [List.length_take] at hj
    rw [List.getElem_take] at e
    exact Nat.ne_of_lt (Nat.lt_of_lt_of_le hj (Nat.min_le_left _ _)) ((List.getElem_inj hn).mp e)
  have e : stored kvs us[i] (.int i t) = kvs ++ [(us[i], .int i t)] := by
    unfold stored
    rw [if_neg]
    intro q
    obtain ⟨p, hp, he⟩ := List.any_eq_true.mp q
    exact hnot (List.mem_map.mpr ⟨p, hp, by simpa using he⟩)
  have hl := h.len (Nat.le_of_lt hi)
  rw [e]
  refine ⟨?_, fun j hj p hp => ?_⟩
  · rw [List.map_append, h.keys, List.take_add_one, List.getElem?_eq_getElem hi]
    rfl
  · by_cases hq : j < i
    · rw [List.getElem?_append_left (Nat.lt_of_lt_of_eq hq hl.symm)] at hp
      exact h.vals j hq p hp
    · have : j = i := Nat.le_antisymm (Nat.le_of_lt_succ hj) (Nat.not_lt.mp hq)
      subst this
      rw [List.getElem?_append_right (Nat.le_of_eq hl), hl, Nat.sub_self] at hp
      simp only [List.getElem?_cons_zero, Option.some.injEq] at hp
      rw [← hp]
      exact ⟨t, rfl⟩

section
variable {w : World} {A : Around} {s : Shared} {R : Result → Shared → Prop}

theorem pair_turn {E : Value → Shared → Prop} {d p : Addr} {k : Int} {t u : Tok} {v it : Value} {i : Int} {kvs : List (Int × Value)} {Q : Unit → Shared → Prop} (hp : PySem.IsPair s.heap p (.int k t) v) (hd : s.heap.DictOf (intKind Pg w) d kvs) (hz : kvs.length ≤ sizeLine)
    (h : ∀ h' tk, h'.DictOf (intKind Pg w) d (stored kvs k v) → Heap.SameBut d s.heap h' → Q () { s with heap := h', toks := tk }) (f : Value → Sem (List Value)) (g : List Value → Sem Unit) (hg : g [.int k t, v] = holding [.int k t, v] (dictSet d (.int k t) v)) :
    wpAny (model Pg w) A (holding [.ref p] do
      let pair ← (Builtin.Dict.pairItems (.ref p)).tryCatch f
      g pair) Q E s := by
  refine wpAny_holding (wpAny_bind (wpAny_tryCatch ?_))
  unfold Builtin.Dict.pairItems
  refine wpAny_bind (wpAny_typeOf (T := "tuple") ⟨_, hp, rfl⟩ ?_)
  rw [if_pos (by decide)]
  refine wpAny_bind (wpAny_seqItems hp rfl ?_)
  refine wpAny_pure ?_
  show wpAny _ _ (g [.int k t, v]) _ _ _
  rw [hg]
  exact wpAny_holding (wpAny_dictSet_pairs (intKind_is _ _ _ _) hd (fun h' a b => h h' _ a b) hz)

theorem dl_loop {z TI TO i1 i2 l1 T d : Addr} {us : List Int} {xs : Array Value} (hh : A.handled = none) (D : ZipApart z TI TO i1 i2 l1 l1) (hi : IntsAre xs.toList us) (hn : us.Nodup) (hz : us.length ≤ sizeLine)
    (hd : d ≠ z ∧ d ≠ TI ∧ d ≠ TO ∧ d ≠ i1 ∧ d ≠ i2 ∧ d ≠ l1 ∧ d ≠ T) (hT : T ≠ z ∧ T ≠ i1 ∧ T ≠ i2) :
    ∀ (j k : Nat) (s : Shared) (f1 : Bool) (c : Int) (kvs : List (Int × Value)), us.length - k = j → k ≤ us.length → s.heap.get? z = some (zObj (rawInt T) (.bool f1) TI TO) → PySem.IsPair s.heap TI (.ref i1) (.ref i2) → (∃ oT, s.heap.get? T = some oT) →
      s.heap.IsListIter i1 l1 k → IsRangeIter s.heap i2 k ((us.length : Int) - k) 1 → s.heap.IsList l1 xs → s.heap.DictOf (intKind Pg w) d kvs → Kvs us k kvs →
      (∀ h' tk kvs', (∀ b o, b ∉ [d, z, i1, i2] → s.heap.get? b = some o → h'.get? b = some o) → h'.DictOf (intKind Pg w) d kvs' → Kvs us us.length kvs' → R (.ok (.ret .none)) { s with heap := h', toks := tk }) →
      codeAny (model Pg w) A (.builtin "dict.update.loop" ⟨[.ref d, .ref z, rawInt c, .none], []⟩) R s := by
  have hxs : xs.size = us.length := by rw [← IntsAre.length hi]; simp
  intro j
  induction j with
  | zero =>
    intro k s f1 c kvs hj hk hZ hTI hoT h1 h2 hl1 hD hK hR
    obtain ⟨oT, hoT⟩ := hoT
    have hkn : k = us.length := Nat.le_antisymm hk (Nat.le_of_sub_eq_zero hj)
    refine codeAny_builtin dl_entry ?_
    rw [Around.under_plainId dl_plain _]
    unfold Builtin.«dict.update.loop» rawInt
    dsimp only
    refine wpAny_bind (zr_end (A := A.in1) hh D hZ hTI hoT h1 hl1 (Array.getElem?_eq_none (Nat.le_of_eq (hxs.trans hkn.symm))) fun h' hk' => ?_)
    dsimp only
    refine wpAny_bind (m := Builtin.Dict.addKeywords d []) (wpAny_pure ?_)
    refine wpAny_pure ?_
    have e : ({ s with heap := h' } : Shared) = { s with heap := h', toks := s.toks } := rfl
    rw [e]
    refine hR h' s.toks kvs (fun b o hb q => ?_) ?_ (hkn ▸ hK)
    · simp only [List.mem_cons, List.not_mem_nil, or_false, not_or] at hb
      exact hk' b o hb.2.1 hb.2.2.1 q
    · obtain ⟨o, es, ep, ho, r⟩ := hD
      exact ⟨o, es, ep, hk' _ _ hd.1 hd.2.2.2.1 ho, r⟩
  | succ j ih =>
    intro k s f1 c kvs hj hk hZ hTI hoT h1 h2 hl1 hD hK hR
    obtain ⟨oT, hoT⟩ := hoT
    have hkl : k < us.length := Nat.lt_of_sub_eq_succ hj
    have hkx : k < xs.size := Nat.lt_of_lt_of_eq hkl hxs.symm
    have hx : xs[k]? = some xs[k] := Array.getElem?_eq_getElem hkx
    obtain ⟨tx, hxv⟩ := IntsAre.int_at hi k xs[k] (by rw [Array.getElem?_toList]; exact hx)
    have hgd : us.getD k 0 = us[k] := by simp [List.getD_eq_getElem?_getD, hkl]
    rw [hgd] at hxv
    refine codeAny_builtin dl_entry ?_
    rw [Around.under_plainId dl_plain _]
    unfold Builtin.«dict.update.loop»
    show wpAny _ A.in1 (pyNext (.ref z) >>= _) _ _ _
    refine wpAny_bind (zr_next D hZ hTI hoT h1 h2 hl1 hx (Int.sub_pos_of_lt (Int.ofNat_lt.mpr hkl)) fun h' tk t hZ' h1' h2' hp hk' => ?_)
    dsimp only
    rw [hxv] at hp
    have hlt : ∀ {b o}, s.heap.get? b = some o → b ≠ s.heap.objs.size := fun q => Nat.ne_of_lt (Heap.lt_size q)
    have hD' : h'.DictOf (intKind Pg w) d kvs := by
      obtain ⟨o, es, ep, ho, r⟩ := hD
      exact ⟨o, es, ep, hk' _ _ hd.1 hd.2.2.2.1 hd.2.2.2.2.1 ho, r⟩
    have hdp : s.heap.objs.size ≠ d := by
      obtain ⟨o, es, ep, ho, r⟩ := hD
      exact (hlt ho).symm
    refine wpAny_bind (pair_turn (s := { s with heap := h', toks := tk }) (u := 0) (it := .none) (i := 0) hp hD' (Nat.le_trans (Nat.le_of_eq (hK.len hk)) (Nat.le_trans hk hz)) (fun h'' tk'' hD'' hs'' => ?_) _ _ rfl)
    refine wpAny_pure ⟨plainId_quiet dl_plain _, ih (k + 1) { s with heap := h'', toks := tk'' } true (c + 1) _ (congrArg Nat.pred hj) hkl (hs''.extBut _ _ hd.1.symm hZ') (hs''.extBut _ _ hd.2.1.symm (hk' _ _ D.TIz D.TIi1 D.TIi2 hTI)) ⟨oT, hs''.extBut _ _ hd.2.2.2.2.2.2.symm (hk' _ _ hT.1 hT.2.1 hT.2.2 hoT)⟩
      (h1'.extBut hs''.extBut hd.2.2.2.1.symm) ?_ ((hl1.at fun o e => hk' _ o D.l1z D.l1i1 D.l1i2 e).extBut hs''.extBut hd.2.2.2.2.2.1.symm) hD'' (hK.next hkl hn t) fun h3 tk3 kvs' hk3 hD3 hK3 => ?_⟩
    · have := hs''.extBut _ _ hd.2.2.2.2.1.symm h2'
      have e : (us.length : Int) - ((k + 1 : Nat) : Int) = (us.length : Int) - k - 1 := (Int.sub_sub (us.length : Int) (k : Int) 1).symm
      rw [e]; exact this
    · refine hR h3 tk3 kvs' (fun b o hb q => hk3 b o hb ?_) hD3 hK3
      simp only [List.mem_cons, List.not_mem_nil, or_false, not_or] at hb
      exact hs''.extBut _ _ hb.1 (hk' _ _ hb.2.1 hb.2.2.1 hb.2.2.2 q)
end
end Mine

-- Z5
namespace Mine
/-- a fresh zip of the list U (the ints us) and range(len(us)); all its own parts lie at B or behind -/
noncomputable def ZipAt (h : Heap) (B z U : Addr) (us : List Int) : Prop :=
  ∃ TI TO i1 i2 xs a b, ZipApart z TI TO i1 i2 U U ∧ (B ≤ z ∧ B ≤ TI ∧ B ≤ TO ∧ B ≤ i1 ∧ B ≤ i2) ∧ h.get? z = some (zObj .none (.bool false) TI TO) ∧ PySem.IsPair h TI (.ref i1) (.ref i2) ∧ PySem.IsPair h TO a b ∧ h.IsListIter i1 U 0 ∧
    IsRangeIter h i2 (0 : Nat) (us.length : Int) 1 ∧ h.IsList U xs ∧ IntsAre xs.toList us

section
variable {w : World} {A : Around} {E : Value → Shared → Prop} {s : Shared} {h₀ : Heap} {L : Addr} {m : Str → Option Value} {news : List (Addr × Obj)}
theorem zip_N {U r : Addr} {xs : Array Value} {us : List Int} {t u v : Tok} {Q : Value → Shared → Prop} (F : Fr h₀ L s.heap m) (N : News h₀ L s.heap news) (hl : s.heap.IsList U xs) (hi : IntsAre xs.toList us) (hr : IsRange s.heap r 0 us.length 1 t u v) (hz : us.length < 64)
    (h : ∀ z h', Fr h₀ L h' m → News h₀ L h' news → ZipAt h' s.heap.objs.size z U us → Q (.ref z) { s with heap := h' }) :
    wpAny (model Pg w) A (call (.type "zip") [.ref U, .ref r]) Q E s := by
  have hsm : Builtin.Range.small 0 us.length 1 = true := small_one (by omega) (by omega) (by omega) (by omega)
  have hU : U < s.heap.objs.size := by obtain ⟨_, e, _⟩ := hl; exact Heap.lt_size e
  refine zr_call hl hr hsm fun h' a1 a2 a3 a4 a5 a6 a7 => h _ h' (F.kept a7) (fun p hp => ⟨a7 _ _ (N p hp).1, (N p hp).2⟩) ?_
  have e : Builtin.Range.rangeSize 0 us.length 1 = (us.length : Int) := by have := rangeSize_nat 0 us.length; simpa using this
  rw [e] at a5
  generalize s.heap.objs.size = B at *
  refine ⟨B + 2, B + 3, B, B + 1, xs, _, _, ?_, ⟨Nat.le_add_right _ _, Nat.le_add_right _ _, Nat.le_add_right _ _, Nat.le_refl _, Nat.le_add_right _ _⟩, a1, a2, a3, a4, a5, hl.at fun o q => a7 _ _ q, hi⟩
  have ne : ∀ {a b : Nat}, a ≠ b → @Ne Addr a b := fun q => q
  exact ⟨ne (by omega), ne (by omega), ne (by omega), ne (by omega), ne (by omega), ne (by omega), ne (by omega), ne (by omega), ne (by omega), ne (by omega),
    ne (Nat.ne_of_lt (Nat.lt_of_lt_of_le hU (by omega))), ne (Nat.ne_of_lt (Nat.lt_of_lt_of_le hU (by omega))), ne (Nat.ne_of_lt hU), ne (Nat.ne_of_lt (Nat.lt_of_lt_of_le hU (by omega))),
    ne (Nat.ne_of_lt (Nat.lt_of_lt_of_le hU (by omega))), ne (Nat.ne_of_lt (Nat.lt_of_lt_of_le hU (by omega))), ne (Nat.ne_of_lt hU), ne (Nat.ne_of_lt (Nat.lt_of_lt_of_le hU (by omega)))⟩

theorem dl_start {B z U d : Addr} {us : List Int} {R : Result → Shared → Prop} (hh : A.handled = none) (hZ : ZipAt s.heap B z U us) (hU : U < B) (hn : us.Nodup) (h0 : 0 < us.length) (hz : us.length ≤ sizeLine)
    (hD : s.heap.DictOf (intKind Pg w) d [])
    (hR : ∀ h' tk kvs', (∀ b o, b < B → s.heap.get? b = some o → h'.get? b = some o) → h'.DictOf (intKind Pg w) d kvs' → Kvs us us.length kvs' → R (.ok (.ret .none)) { s with heap := h', toks := tk }) (hzd : z < d) (hBd : B ≤ d) :
    codeAny (model Pg w) A (.builtin "dict.update.loop" ⟨[.ref d, .ref z, rawInt 0, .none], []⟩) R s := by
  obtain ⟨TI, TO, i1, i2, xs, a, b, D, ⟨b1, b2, b3, b4, b5⟩, hz1, hTI, hTO, h1, h2, hl, hi⟩ := hZ
  have hxs : xs.size = us.length := by rw [← IntsAre.length hi]; simp
  have hx : xs[0]? = some xs[0] := Array.getElem?_eq_getElem (by omega)
  obtain ⟨tx, hxv⟩ := IntsAre.int_at hi 0 xs[0] (by rw [Array.getElem?_toList]; exact hx)
  have hgd : us.getD 0 0 = us[0] := by simp [List.getD_eq_getElem?_getD, h0]
  rw [hgd] at hxv
  have hlist : ∃ o, s.heap.get? d = some o ∧ o.cls = .type "dict" := by
    obtain ⟨o, es, ep, ho, hc, r⟩ := hD
    exact ⟨o, ho, hc.1⟩
  obtain ⟨od, hod, hcd⟩ := hlist
  have hdlt := Heap.lt_size hod
  have nd : ∀ {c : Addr} {o : Obj}, s.heap.get? c = some o → o.cls ≠ .type "dict" → d ≠ c := fun q hc e => by subst e; rw [hod] at q; cases q; exact hc hcd
  have n1 : d ≠ z := nd hz1 (show Value.type "zip" ≠ .type "dict" by decide)
  have n2 : d ≠ TI := nd hTI (show Value.type "tuple" ≠ .type "dict" by decide)
  have n3 : d ≠ TO := nd hTO (show Value.type "tuple" ≠ .type "dict" by decide)
  have n4 : d ≠ i1 := by obtain ⟨o, q, c, _⟩ := h1; exact nd q (by rw [c]; decide)
  have n5 : d ≠ i2 := nd h2 (show Value.type "range_iterator" ≠ .type "dict" by decide)
  have n6 : d ≠ U := by obtain ⟨o, q, c, _⟩ := hl; exact nd q (by rw [c]; decide)
  have lt : ∀ {c o}, s.heap.get? c = some o → s.heap.objs.size ≠ c := fun e => Nat.ne_of_gt (Heap.lt_size e)
  have t1 : s.heap.objs.size ≠ z := lt hz1
  have t4 : s.heap.objs.size ≠ i1 := by obtain ⟨o, q, _⟩ := h1; exact lt q
  have t5 : s.heap.objs.size ≠ i2 := lt h2
  have td : s.heap.objs.size ≠ d := lt hod
  refine codeAny_builtin dl_entry ?_
  rw [Around.under_plainId dl_plain _]
  unfold Builtin.«dict.update.loop»
  show wpAny _ A.in1 (pyNext (.ref z) >>= _) _ _ _
  refine wpAny_bind (zr_first D hz1 hTI hTO h1 h2 hl hx (by omega) fun h' tk t hZ' h1' h2' hp hk' => ?_)
  dsimp only
  rw [hxv] at hp
  have hD' : h'.DictOf (intKind Pg w) d [] := by
    obtain ⟨o, es, ep, ho, r⟩ := hD
    exact ⟨o, es, ep, hk' _ _ n1 n3 n4 n5 ho, r⟩
  have hK0 : Kvs us 0 [] := ⟨by simp, fun j hj => by omega⟩
  refine wpAny_bind (pair_turn (s := { s with heap := h', toks := tk }) (u := 0) (it := .none) (i := 0) hp hD' (Nat.zero_le _) (fun h'' tk'' hD'' hs'' => ?_) _ _ rfl)
  refine wpAny_pure ⟨plainId_quiet dl_plain _, dl_loop (T := s.heap.objs.size) hh D hi hn hz ⟨n1, n2, n3, n4, n5, n6, td.symm⟩ ⟨t1, t4, t5⟩ (us.length - 1) 1 { s with heap := h'', toks := tk'' } false (0 + 1) _ rfl (by omega) (hs''.extBut _ _ n1.symm hZ')
    (hs''.extBut _ _ n2.symm (hk' _ _ D.TIz D.TITO D.TIi1 D.TIi2 hTI)) ⟨_, hs''.extBut _ _ td hp⟩ (h1'.extBut hs''.extBut n4.symm) ?_ ((hl.at fun o e => hk' _ o D.l1z D.l1TO D.l1i1 D.l1i2 e).extBut hs''.extBut n6.symm) hD'' (hK0.next h0 hn t) fun h3 tk3 kvs' hk3 hD3 hK3 => ?_⟩
  · exact hs''.extBut _ _ n5.symm h2'
  · refine hR h3 tk3 kvs' (fun c o hb q => hk3 c o ?_ (hs''.extBut _ _ (fun e => absurd hb (by rw [e]; exact Nat.not_lt.mpr hBd)) (hk' _ _ ?_ ?_ ?_ ?_ q))) hD3 hK3
    · simp only [List.mem_cons, List.not_mem_nil, or_false, not_or]
      exact ⟨fun e => absurd hb (by rw [e]; exact Nat.not_lt.mpr hBd), fun e => absurd hb (by rw [e]; exact Nat.not_lt.mpr b1), fun e => absurd hb (by rw [e]; exact Nat.not_lt.mpr b4), fun e => absurd hb (by rw [e]; exact Nat.not_lt.mpr b5)⟩
    · exact fun e => absurd hb (by rw [e]; exact Nat.not_lt.mpr b1)
    · exact fun e => absurd hb (by rw [e]; exact Nat.not_lt.mpr b3)
    · exact fun e => absurd hb (by rw [e]; exact Nat.not_lt.mpr b4)
    · exact fun e => absurd hb (by rw [e]; exact Nat.not_lt.mpr b5)

theorem ZipAt.keeps {h h' : Heap} {B z U : Addr} {us : List Int} (x : ZipAt h B z U us) (k : ∀ b o, h.get? b = some o → h'.get? b = some o) : ZipAt h' B z U us := by
  obtain ⟨TI, TO, i1, i2, xs, a, b, D, bs, hz1, hTI, hTO, h1, h2, hl, hi⟩ := x
  exact ⟨TI, TO, i1, i2, xs, a, b, D, bs, k _ _ hz1, k _ _ hTI, k _ _ hTO, h1.at fun o q => k _ _ q, k _ _ h2, hl.at fun o q => k _ _ q, hi⟩

theorem dict_zip {B z U : Addr} {us : List Int} {Q : Value → Shared → Prop} (hh : A.handled = none) (hZ : ZipAt s.heap B z U us) (hU : U < B) (hn : us.Nodup) (h0 : 0 < us.length) (hz : us.length < 64)
    (hQ : ∀ h' tk kvs, (∀ b o, b < B → s.heap.get? b = some o → h'.get? b = some o) → h'.DictOf (intKind Pg w) s.heap.objs.size kvs → Kvs us us.length kvs → Q (.ref s.heap.objs.size) { s with heap := h', toks := tk }) :
    wpAny (model Pg w) A (call (.type "dict") [.ref z]) Q E s := by
  have hsz : us.length ≤ sizeLine := by rw [sizeLine_eq]; omega
  have hzz : ∃ TI TO, s.heap.get? z = some (zObj .none (.bool false) TI TO) ∧ B ≤ z := by
    obtain ⟨TI, TO, i1, i2, xs, a, b, D, bs, hz1, _⟩ := hZ
    exact ⟨TI, TO, hz1, bs.1⟩
  obtain ⟨TI, TO, hz1, hBz⟩ := hzz
  have hzlt := Heap.lt_size hz1
  refine callType_codes (Q₁ := fun obj s₁ => obj = .ref s.heap.objs.size ∧ s₁ = { s with heap := s.heap.push { cls := .type "dict", data := .dict #[] } }) PySem.F.kt_called_dict (PySem.F.kt_typeCall_dict_1 _) PySem.F.entry_dict_init (kt_code_dict_new _ ⟨rfl, rfl⟩) ?_
  rintro obj s₁ ⟨rfl, rfl⟩
  have hnew : (s.heap.push { cls := .type "dict", data := .dict #[] }).DictOf (intKind Pg w) s.heap.objs.size [] := Heap.DictOf.new s.heap
  have up : ∀ b o, s.heap.get? b = some o → (s.heap.push { cls := .type "dict", data := .dict #[] }).get? b = some o := fun b o e => Heap.get?_push_of_some _ e
  refine ⟨hnew.typeIs, PySem.F.args_dict_init_2 _ _, ?_⟩
  unfold Builtin.«dict.__init__»
  refine wpAny_bind ?_
  unfold Builtin.Dict.selfAndRest
  refine wpAny_bind (wpAny_notOrdered_dict hnew.typeIs ?_)
  show wpAny _ _ (pure (s.heap.objs.size, [Value.ref z])) _ _ _
  refine wpAny_pure ?_
  show wpAny _ _ (Builtin.Dict.updateFrom "dict.__init__" s.heap.objs.size (.ref z) [] .none) _ _ _
  unfold Builtin.Dict.updateFrom
  refine wpAny_bind (wpAny_typeOf (T := "zip") ⟨_, up _ _ hz1, rfl⟩ ?_)
  rw [if_pos (by decide)]
  refine wpAny_bind (z_miss (s := { s with heap := s.heap.push { cls := .type "dict", data := .dict #[] } }) (up _ _ hz1) hh fun h1 tk1 k1 => ?_)
  simp only [Option.isNone_none, if_true]
  refine wpAny_bind (wpAny_rule ?_)
  refine wpAny_bind (wpAny_pyIter_zip (s := { s with heap := h1, toks := tk1 }) (k1 _ _ (up _ _ hz1)) ?_)
  have hnew1 : h1.DictOf (intKind Pg w) s.heap.objs.size [] := by
    obtain ⟨o, es, ep, ho, r⟩ := hnew
    exact ⟨o, es, ep, k1 _ _ ho, r⟩
  refine wpAny_pure ⟨plainId_quiet dl_plain _, dl_start (s := { s with heap := h1, toks := tk1 }) (B := B) hh (hZ.keeps fun b o e => k1 _ _ (up _ _ e)) hU hn h0 hsz hnew1 (fun h' tk kvs' hk hD hK => ⟨rfl, hQ h' tk kvs' (fun b o hb e => hk b o hb (k1 _ _ (up _ _ e))) hD hK⟩) hzlt (Nat.le_of_lt (Nat.lt_of_le_of_lt hBz hzlt))⟩
end
end Mine

-- G0
namespace Mine
open PySem.Calls
section
variable {prog : Program} {w : World} {A : Around} {E : Value → Shared → Prop} {s : Shared} {h₀ : Heap} {L : Addr} {m : Str → Option Value} {env : Env}
/-- a comprehension over a tuple of the ledger -/
noncomputable def TupSrc (prog : Program) (w : World) (A : Around) (h₀ : Heap) (L : Addr) (m : Str → Option Value) (env : Env) (elt : Expr) (x : Str) (scope : Scope) (cl : List (Str × Addr)) (Fin : Shared → List Value → List (Addr × Obj) → Prop) (xv : Value) (s₁ : Shared) : Prop :=
  ∃ ax its news o n, xv = .ref ax ∧ A.handled = none ∧ Fr h₀ L s₁.heap m ∧ News h₀ L s₁.heap news ∧ (ax, o) ∈ news ∧ o.cls = .type "tuple" ∧ o.data = .seq its n ∧ its.size ≤ sizeLine ∧
    ∀ s₂ : Shared, (∃ h, s₂ = { s₁ with heap := h }) → LCg.CompRest prog w A h₀ L m env elt x scope cl s₂ (fun nw => (ax, o) ∈ nw) (fun i v => its[i]? = some v) (Fin s₂) its.size 0 [] news
theorem ListComp_tup {elt iter : Expr} {x : Str} {px : Pos} {scope : Scope} {cl : List (Str × Addr)} {pos : Pos} {Q : Value → Shared → Prop} (F₀ : Fr h₀ L s.heap m)
    (hclos : closureFor scope env = pure cl) (hcell : ∀ y ∈ scope.names, y.2 ≠ .cell) (hkind : scope.kind = .function)
    (hnames : ∀ y ∈ scope.names, y.2 = .local → scope.names.lookup y.1 = some .local) (hx : scope.names.lookup x = some .local)
    (h : wpAny (model prog w) A (eval iter env) (TupSrc prog w A h₀ L m env elt x scope cl (fun s₂ => LCg.FinE h₀ L m s₂ Q)) E s)
    (hs : ∀ x, foldedSetIterable iter env x = pure x := by intro _; rfl) :
    wpAny (model prog w) A (eval (.ListComp elt [⟨.Name x px, iter, [], 0⟩] scope pos) env) Q E s := by
  rw [eval_ListComp]
  refine wpAny_comprehension_free (use := none) rfl hs hclos hkind hnames (wpAny_mono h (fun xv s₁ h₁ => ?_) fun _ _ e => e)
  obtain ⟨ax, its, news, o, n, rfl, hh, F, N, hm, hc, hd, hsz, R⟩ := h₁
  have hl : s₁.heap.IsTuple ax its := ⟨o, (N _ hm).1, hc, n, hd⟩
  have hlt : ax < s₁.heap.objs.size := Heap.lt_size (N _ hm).1
  refine wpAny_pyIter_tuple hl ?_
  have up : ∀ b o, s₁.heap.get? b = some o → (s₁.heap.push { cls := .type "tuple_iterator", data := .fields #[.ref ax, .int 0 0] }).get? b = some o := fun b o e => Heap.get?_push_of_some _ e
  refine LCg.block_U (Walks.tuple hh s₁.heap.objs.size ax (Nat.ne_of_lt hlt) its) hsz (fun i h st => by obtain ⟨o, e, _⟩ := st.1; exact ⟨o, e⟩) (S := fun nw => (ax, o) ∈ nw) ?_ hcell hkind hx ⟨⟨_, Heap.get?_push_size _ rfl, rfl, rfl⟩, hl.at fun o e => up _ _ e⟩ (fun b hb => ?_)
    (F.keeps up) (N.grown up) (Nat.ne_of_lt F.ns.lt) (next_is_new F) (fun p hp => Nat.ne_of_lt (Heap.lt_size (N p hp).1)) hm (R _ ⟨_, rfl⟩) ?_
  · intro i h h' oI nw st e e' k N' S'
    exact ⟨by obtain ⟨o', q, r⟩ := st.1; rw [e] at q; cases q; exact ⟨oI, e', r⟩, ⟨o, (N' _ S').1, hc, n, hd⟩⟩
  · show b < (s₁.heap.push _).objs.size
    rw [Heap.size_push]
    rcases List.mem_cons.mp hb with rfl | hb
    · exact Nat.lt_succ_self _
    · rw [List.mem_singleton.mp hb]; exact Nat.lt_succ_of_lt hlt
  · intro D C h tk m' ys news' F' N' o1 hn hC₀ hD₀ hCL hDL hCD offC fin
    refine ⟨m', hn, fun h'' hs'' => fin D h'' tk (F'.change hs'' hCL hC₀) (fun p hp => ?_) o1⟩
    refine ⟨hs''.extBut _ _ ?_ (N' p hp).1, (N' p hp).2⟩
    rcases List.mem_cons.mp hp with rfl | hp
    · exact Ne.symm hCD
    · exact offC p hp
end
end Mine

-- Q1
namespace Mine
/-- the items with their ranks -/
noncomputable def rkOf (us : List Int) : List (Int × Int) := us.zipIdx.map fun p => (p.1, (p.2 : Int))
theorem mem_rk {us : List Int} {a x : Int} : (a, x) ∈ rkOf us ↔ 0 ≤ x ∧ us[x.toNat]? = some a := by
  unfold rkOf
  constructor
  · intro h
    obtain ⟨⟨a', i⟩, hp, e⟩ := List.mem_map.mp h
    simp only [Prod.mk.injEq] at e
    obtain ⟨rfl, rfl⟩ := e
    refine ⟨by omega, ?_⟩
    have := List.mem_zipIdx_iff_getElem?.mp hp
    simpa using this
  · rintro ⟨h0, h⟩
    refine List.mem_map.mpr ⟨(a, x.toNat), List.mem_zipIdx_iff_getElem?.mpr h, ?_⟩
    simp; omega
theorem rk_get {us : List Int} (h : us.Pairwise (· < ·)) {i j : Nat} {a b : Int} (ha : us[i]? = some a) (hb : us[j]? = some b) : a < b ↔ i < j := by
  obtain ⟨hi, rfl⟩ := List.getElem?_eq_some_iff.mp ha
  obtain ⟨hj, rfl⟩ := List.getElem?_eq_some_iff.mp hb
  have hh := List.pairwise_iff_getElem.mp h
  constructor
  · intro hlt
    rcases Nat.lt_trichotomy i j with h | h | h
    · exact h
    · subst h; omega
    · have := hh j i hj hi h; omega
  · intro hlt; exact hh i j hi hj hlt

/-- the rank of an item -/
noncomputable def rankOf (us : List Int) (a : Int) : Int := (us.idxOf a : Nat)
theorem rank_get {us : List Int} {a : Int} (h : a ∈ us) : us[us.idxOf a]? = some a := by
  have hl := List.idxOf_lt_length_of_mem h
  rw [List.getElem?_eq_getElem hl, List.getElem_idxOf hl]
theorem rank_mem {us : List Int} {a : Int} (h : a ∈ us) : (a, rankOf us a) ∈ rkOf us := mem_rk.mpr ⟨by unfold rankOf; omega, by unfold rankOf; simpa using rank_get h⟩
theorem rank_lt {us : List Int} {a : Int} (h : a ∈ us) : 0 ≤ rankOf us a ∧ rankOf us a < us.length := by
  have hl := List.idxOf_lt_length_of_mem h
  unfold rankOf; omega
theorem rank_at {us : List Int} (hn : us.Nodup) {i : Nat} (hi : i < us.length) : rankOf us us[i] = i := by
  unfold rankOf; rw [hn.idxOf_getElem i hi]
theorem rank_count {us : List Int} (hn : us.Nodup) : ∀ {ms : List Int}, (∀ a ∈ ms, a ∈ us) → ∀ i (hi : i < us.length), (ms.map (rankOf us)).count (i : Int) = ms.count us[i]
  | [], _, _, _ => rfl
  | m :: ms, h, i, hi => by
    have ih := rank_count hn (ms := ms) (fun a ha => h a (.tail _ ha)) i hi
    rw [List.map_cons, List.count_cons, List.count_cons, ih]
    have : (rankOf us m == (i : Int)) = (m == us[i]) := by
      have hm := rank_get (h m (.head _))
      rw [Bool.eq_iff_iff]
      simp only [beq_iff_eq]
      constructor
      · intro e
        have e' : us.idxOf m = i := by unfold rankOf at e; omega
        rw [e', List.getElem?_eq_getElem hi] at hm
        exact (Option.some.inj hm).symm
      · rintro rfl
        exact rank_at hn hi
    rw [this]
end Mine

-- Q2
namespace Mine
theorem kvs_value {us : List Int} {kvs : List (Int × Value)} (h : Kvs us us.length kvs) (hn : us.Nodup) {j : Nat} (hj : j < us.length) : ∃ t, valueAt kvs us[j] = some (.int j t) := by
  have hl := h.len (Nat.le_refl _)
  have hk := h.keys
  rw [List.take_length] at hk
  have hjk : j < kvs.length := by omega
  have key : ∀ i (hi : i < kvs.length), kvs[i].1 = us[i]'(by omega) := fun i hi => by
    have : (kvs.map (·.1))[i]'(by simpa using hi) = us[i]'(by omega) := by simp only [hk]
    simpa using this
  obtain ⟨t, ht⟩ := h.vals j hj kvs[j] (List.getElem?_eq_getElem hjk)
  refine ⟨t, ?_⟩
  unfold valueAt
  have : kvs.find? (fun kv => decide (kv.1 = us[j])) = some kvs[j] := by
    refine List.find?_eq_some_iff_getElem.mpr ⟨by simpa using key j hjk, j, hjk, rfl, fun i hi => ?_⟩
    have hne : ¬ us[i]'(by omega) = us[j] := fun e => by
      have := (List.getElem_inj hn).mp e
      omega
    rw [key i (by omega)]
    simp [hne]
  rw [this]
  simp [ht]
theorem rk_value {us : List Int} {kvs : List (Int × Value)} (h : Kvs us us.length kvs) (hn : us.Nodup) : ∀ p ∈ rkOf us, ∃ t, valueAt kvs p.1 = some (.int p.2 t) := by
  rintro ⟨a, x⟩ hp
  obtain ⟨h0, hx⟩ := mem_rk.mp hp
  obtain ⟨hi, rfl⟩ := List.getElem?_eq_some_iff.mp hx
  obtain ⟨t, ht⟩ := kvs_value h hn hi
  refine ⟨t, ?_⟩
  rw [ht]
  congr 2
  omega
theorem rk_mono {us : List Int} (h : us.Pairwise (· < ·)) : Mono (rkOf us) := by
  rintro ⟨a, x⟩ hp ⟨b, y⟩ hq
  obtain ⟨h0, hx⟩ := mem_rk.mp hp
  obtain ⟨h1, hy⟩ := mem_rk.mp hq
  obtain ⟨n, rfl⟩ := Int.eq_ofNat_of_zero_le h0
  obtain ⟨m, rfl⟩ := Int.eq_ofNat_of_zero_le h1
  exact (rk_get h hx hy).trans Int.ofNat_lt.symm
/-- the counts -/
noncomputable def cntR (us ms : List Int) : List Int := us.map fun x => (ms.count x : Nat)
theorem good_start {us ms : List Int} (hn : us.Nodup) (hm : ∀ a ∈ ms, a ∈ us) : Good (hfR (ms.map (rankOf us))) (cntR us ms) := by
  refine good_first (fun i hi => ?_) fun a ha => ?_
  · have hi' : i < us.length := by unfold cntR at hi; simpa using hi
    rw [rank_count hn hm i hi']
    unfold cntR
    simp [List.getD_eq_getElem?_getD, hi']
  · obtain ⟨m, hmm, rfl⟩ := List.mem_map.mp ha
    have := rank_lt (hm m hmm)
    unfold cntR
    simpa using this
theorem are_items {us : List Int} : ∀ {vs : List Value} {ms : List Int}, IntsAre vs ms → (∀ a ∈ ms, a ∈ us) → Are (repI (rkOf us)) vs (ms.map (rankOf us))
  | _, _, .nil, _ => .nil
  | _, _, .cons n t h, hm => .cons ⟨n, t, rfl, rank_mem (hm n (.head _))⟩ (are_items h fun a ha => hm a (.tail _ ha))
end Mine

-- Q3
namespace Mine
theorem off1_mem {D : Addr} : ∀ {l : List (Addr × Obj)}, LCg.Off1 D l → ∀ p ∈ l, p.1 ≠ D
  | [], _, _, h => nomatch h
  | _ :: _, x, p, h => by
    rcases List.mem_cons.mp h with rfl | h
    · exact x.1
    · exact off1_mem x.2 p h
theorem allLt_mem {D : Nat} : ∀ {l : List (Addr × Obj)}, AllLt D l → ∀ p ∈ l, @LT.lt Nat _ p.1 D
  | [], _, _, h => nomatch h
  | _ :: _, x, p, h => by
    rcases List.mem_cons.mp h with rfl | h
    · exact x.1
    · exact allLt_mem x.2 p h
theorem allLt_ne {D : Nat} {l : List (Addr × Obj)} (h : AllLt D l) : ∀ p ∈ l, @Ne Nat p.1 D := fun p hp => Nat.ne_of_lt (allLt_mem h p hp)
theorem LtOK.imp {w : World} {b : Heap} {rep rep' : Value → Int → Prop} (h : LtOK w b rep) (k : ∀ v r, rep' v r → rep v r) : LtOK w b rep' :=
  fun hs hu h1 h2 q => h hs hu (k _ _ h1) (k _ _ h2) q
theorem repL.toP {b : Heap} {ps : List (Addr × Obj)} {v : Value} {r : Int} (h : repL ps v r) (hp : ∀ p ∈ ps, b.get? p.1 = some p.2) : repP b v r :=
  let ⟨p, o, n, t, u, e, m, c, d⟩ := h; ⟨p, e, o, n, t, u, hp _ m, c, d⟩
theorem ltL {w : World} {b : Heap} {ps : List (Addr × Obj)} (hp : ∀ p ∈ ps, b.get? p.1 = some p.2) : LtOK w b (repL ps) := ltP.imp fun _ _ q => q.toP hp

theorem heap_turn {w : World} {mg mb : Str → Option Value} {g : Heap} {A : Around} {s : Shared} {Rr : Result → Shared → Prop} {L d : Addr} {m : Str → Option Value} {news : List (Addr × Obj)} {vs : List Value} {n : Nat} {rep : Value → Int → Prop} {R : List Int}
    (G : Gr w mg mb g) (F : Fr g L s.heap m) (N : News g L s.heap news) (hd : (d, lst vs n) ∈ news) (hroom : Room 6 A) (hh : A.handled = none)
    (hlt : LtOK w (hideAll s.heap [d]) rep) (hR : Are rep vs R) (hsm : R.length < 999)
    (k : ∀ h' tk vs', Fr g L h' m → (∀ a o, a ∉ [d] → s.heap.get? a = some o → h'.get? a = some o) → h'.get? d = some (lst vs' n) → Are rep vs' (hfR R) → Rr (.ok (.ret .none)) { s with heap := h', toks := tk }) :
    codeAny (model Challenge.rw_mj0021_01.row.prog w) A (.call (.ref 49) ⟨[.ref d], []⟩) Rr s := by
  obtain ⟨hdl, hdL, hdg⟩ := N _ hd
  have st : g.StaysIn (hideAll s.heap [d]) := fun a o e => hideAll_get _ (F.keep a o e) fun q => by
    rw [List.mem_singleton.mp q] at e
    dsimp only at hdg
    rw [hdg] at e; cases e
  refine heapify_ok (b := hideAll s.heap [d]) (G.keeps st) (fun a o e => of_hideAll _ e) (hideAll_none _ (.head _)) hdl hroom hh hlt hR hsm fun s' vs' hch hl hA => ?_
  obtain ⟨h', tk, rfl, hk⟩ := hch
  exact k h' tk vs' (fr_chg F (fun q hq => by rw [List.mem_singleton.mp hq]; exact ⟨hdg, hdL⟩) hk) hk hl hA

theorem nones_reads {h : Heap} : ∀ n, ReadsAll h (List.replicate n .none) (List.replicate n .none) []
  | 0 => .nil
  | n + 1 => readsAll_cons_val .none (nones_reads n)
theorem hfR_len (R : List Int) : (hfR R).length = R.length := hfLoop_len _ _
theorem cntR_len (us ms : List Int) : (cntR us ms).length = us.length := List.length_map _
theorem cntR_get {us ms : List Int} {i : Nat} (hi : i < us.length) (hc : i < (cntR us ms).length) : (cntR us ms)[i] = ((ms.count us[i] : Nat) : Int) := by
  unfold cntR at hc ⊢
  rw [List.getElem_map]
end Mine

-- F3
namespace Mine


theorem ints_at {vs : List Value} {ns : List Int} (h : IntsAre vs ns) {i : Nat} {v : Value} (e : vs[i]? = some v) (hi : i < ns.length) : ∃ t, v = .int ns[i] t := by
  obtain ⟨t, q⟩ := IntsAre.int_at h i v e
  have hg : ns.getD i 0 = ns[i] := by simp [List.getD_eq_getElem?_getD, hi]
  exact ⟨t, by rw [← hg]; exact q⟩
theorem IntsAre.snoc : ∀ {vs : List Value} {ns : List Int}, IntsAre vs ns → ∀ (k : Int) (t : Tok), IntsAre (vs ++ [.int k t]) (ns ++ [k])
  | _, _, .nil, k, t => .cons k t .nil
  | _, _, .cons n u h, k, t => .cons n u (IntsAre.snoc h k t)
theorem asc_of {l : List Int} (h : l.Pairwise (· ≤ ·)) (hn : l.Nodup) : l.Pairwise (· < ·) := by
  refine List.Pairwise.imp₂ (fun a b h1 h2 => ?_) h hn
  omega

theorem fr_low {g h h' : Heap} {L B : Addr} {m : Str → Option Value} (F : Fr g L h m) (hB : ∀ b o, b < B → h.get? b = some o → h'.get? b = some o) (hL : L < B) : Fr g L h' m := by
  obtain ⟨oL, a1, a2, hoL, a3⟩ := F.ns
  exact ⟨⟨oL, a1, a2, hB _ _ hL hoL, a3⟩, fun b o e => hB b o (Nat.lt_trans (Nat.lt_of_lt_of_le (Heap.lt_size e) F.above) hL) (F.keep b o e), F.above⟩
theorem news_low {g h h' : Heap} {L B : Addr} {news : List (Addr × Obj)} (N : News g L h news) (hB : ∀ b o, b < B → h.get? b = some o → h'.get? b = some o) (hn : ∀ p ∈ news, p.1 < B) : News g L h' news :=
  fun p hp => ⟨hB _ _ (hn p hp) (N p hp).1, (N p hp).2⟩
theorem news_new {g h : Heap} {L a : Addr} {o : Obj} {m : Str → Option Value} {news : List (Addr × Obj)} (F : Fr g L h m) (N : News g L h news) (ho : h.get? a = some o) (hL : L < a) : News g L h ((a, o) :: news) := fun p hp => by
  rcases List.mem_cons.mp hp with rfl | hp
  · exact ⟨ho, Nat.ne_of_gt hL, Heap.get?_none_of_le (Nat.le_of_lt (Nat.lt_of_le_of_lt F.above hL))⟩
  · exact N p hp

theorem pick_sub {items : Array Value} {lo hi st : Option Int} {v : Value} (h : v ∈ (slicePick items lo hi st).toList) : v ∈ items.toList := by
  unfold slicePick at h
  obtain ⟨j, _, e⟩ := List.mem_filterMap.mp (by simpa using h)
  exact Array.mem_toList_iff.mpr (Array.mem_of_getElem? e)
theorem ints_sub {vs l : List Value} {ns : List Int} (h : IntsAre vs ns) (hs : ∀ v ∈ l, v ∈ vs) : ∃ ms, IntsAre l ms ∧ ∀ a ∈ ms, a ∈ ns := by
  have key : ∀ v ∈ l, ∃ k t, v = .int k t ∧ k ∈ ns := fun v hv => by
    obtain ⟨i, hi, e⟩ := List.getElem_of_mem (hs v hv)
    have hl := h.length
    obtain ⟨t, q⟩ := ints_at h (v := v) (i := i) (by rw [List.getElem?_eq_getElem hi, e]) (by omega)
    exact ⟨_, t, q, List.getElem_mem _⟩
  refine ⟨l.map intOf, ints_of_all fun v hv => by obtain ⟨k, t, e, _⟩ := key v hv; exact ⟨k, t, e⟩, fun a ha => ?_⟩
  obtain ⟨v, hv, rfl⟩ := List.mem_map.mp ha
  obtain ⟨k, t, rfl, hk⟩ := key v hv
  exact hk
theorem pick_ints {vs : List Value} {ns : List Int} {lo hi st : Option Int} {zs : List Value} (h : IntsAre vs ns) (e : (slicePick vs.toArray lo hi st).toList = zs) : ∃ ms, IntsAre zs ms ∧ (∀ a ∈ ms, a ∈ ns) ∧ zs.length ≤ vs.length := by
  obtain ⟨ms, h1, h2⟩ := ints_sub (l := zs) h fun v hv => by rw [← e] at hv; simpa using pick_sub hv
  refine ⟨ms, h1, h2, ?_⟩
  have := slicePick_size_le vs.toArray lo hi st
  rw [← e]; simpa using this

structure CallsIn (nw : List (Addr × Obj)) (ys : List Value) (calls : List (Int × Int)) : Prop where
  len : ys.length = calls.length
  at' : ∀ (i : Nat) q, calls[i]? = some q → ∃ p o n t u, ys[i]? = some (.ref p) ∧ (p, o) ∈ nw ∧ o.cls = .type "tuple" ∧ o.data = .seq #[.int q.1 t, .int q.2 u] n
theorem CallsIn.nil {nw : List (Addr × Obj)} : CallsIn nw [] [] := ⟨rfl, fun i q h => by simp at h⟩
theorem CallsIn.mono {nw nw' : List (Addr × Obj)} {ys : List Value} {calls : List (Int × Int)} (h : CallsIn nw ys calls) (hs : ∀ q ∈ nw, q ∈ nw') : CallsIn nw' ys calls :=
  ⟨h.len, fun i q hq => by obtain ⟨p, o, n, t, u, e, m, r⟩ := h.at' i q hq; exact ⟨p, o, n, t, u, e, hs _ m, r⟩⟩
theorem CallsIn.push {nw nw' : List (Addr × Obj)} {ys : List Value} {calls : List (Int × Int)} {p : Addr} {o : Obj} {n : Nat} {a b : Int} {t u : Tok} (h : CallsIn nw ys calls) (hs : ∀ q ∈ nw, q ∈ nw') (hp : (p, o) ∈ nw') (hc : o.cls = .type "tuple") (hd : o.data = .seq #[.int a t, .int b u] n) :
    CallsIn nw' (ys ++ [.ref p]) (calls ++ [(a, b)]) := by
  refine ⟨by simp [h.len], fun i q hq => ?_⟩
  by_cases hi : i < calls.length
  · rw [List.getElem?_append_left hi] at hq
    obtain ⟨p', o', n', t', u', e, m, r⟩ := h.at' i q hq
    exact ⟨p', o', n', t', u', by rw [List.getElem?_append_left (by rw [h.len]; exact hi)]; exact e, hs _ m, r⟩
  · have hi' : i < (calls ++ [(a, b)]).length := (List.getElem?_eq_some_iff.mp hq).1
    have : i = calls.length := by simp at hi'; omega
    subst this
    rw [List.getElem?_append_right (Nat.le_refl _), Nat.sub_self] at hq
    simp only [List.getElem?_cons_zero, Option.some.injEq] at hq
    subst hq
    refine ⟨p, o, n, t, u, ?_, hp, hc, hd⟩
    rw [List.getElem?_append_right (by rw [h.len]; exact Nat.le_refl _), h.len, Nat.sub_self]
    rfl

theorem sub_cons {α : Type} {X a b c : α} {nw nw' : List α} (h : ∀ p ∈ nw', p ∈ X :: nw) : ∀ p ∈ a :: b :: c :: nw', p ∈ X :: a :: b :: c :: nw := fun p hp => by
  simp only [List.mem_cons] at hp h ⊢
  rcases hp with e | e | e | e
  · exact .inr (.inl e)
  · exact .inr (.inr (.inl e))
  · exact .inr (.inr (.inr (.inl e)))
  · rcases h p e with e | e
    · exact .inl e
    · exact .inr (.inr (.inr (.inr e)))
theorem sub_n {α : Type} {B : List α} : ∀ p ∈ ([] : List α), p ∈ B := fun _ h => nomatch h
theorem sub_c {α : Type} {x : α} {l B : List α} (h : x ∈ B) (k : ∀ p ∈ l, p ∈ B) : ∀ p ∈ x :: l, p ∈ B := fun p hp => by
  rcases List.mem_cons.mp hp with rfl | hp
  · exact h
  · exact k p hp
theorem sub_a {α : Type} {l l' B : List α} (h : ∀ p ∈ l, p ∈ B) (k : ∀ p ∈ l', p ∈ B) : ∀ p ∈ l ++ l', p ∈ B := fun p hp => (List.mem_append.mp hp).elim (h p) (k p)
theorem sub_five {α : Type} {X a b c d e : α} {ps rest : List α} : ∀ p ∈ a :: b :: c :: d :: e :: ((X :: ps) ++ rest), p ∈ X :: a :: b :: c :: d :: e :: (ps ++ rest) :=
  sub_c (.tail _ (.head _)) (sub_c (.tail _ (.tail _ (.head _))) (sub_c (.tail _ (.tail _ (.tail _ (.head _)))) (sub_c (.tail _ (.tail _ (.tail _ (.tail _ (.head _))))) (sub_c (.tail _ (.tail _ (.tail _ (.tail _ (.tail _ (.head _)))))) (sub_c (.head _) (fun _ h => .tail _ (.tail _ (.tail _ (.tail _ (.tail _ (.tail _ (h))))))))))))
theorem sub_six {α : Type} {X a b c d e f : α} {ps rest : List α} : ∀ p ∈ f :: a :: b :: c :: d :: e :: ((X :: ps) ++ rest), p ∈ X :: f :: a :: b :: c :: d :: e :: (ps ++ rest) :=
  sub_c (.tail _ (.head _)) (sub_c (.tail _ (.tail _ (.head _))) (sub_c (.tail _ (.tail _ (.tail _ (.head _)))) (sub_c (.tail _ (.tail _ (.tail _ (.tail _ (.head _))))) (sub_c (.tail _ (.tail _ (.tail _ (.tail _ (.tail _ (.head _)))))) (sub_c (.tail _ (.tail _ (.tail _ (.tail _ (.tail _ (.tail _ (.head _))))))) (sub_c (.head _) (fun _ h => .tail _ (.tail _ (.tail _ (.tail _ (.tail _ (.tail _ (.tail _ (h))))))))))))))
theorem sub_seven {α : Type} {X a b c d e f g : α} {ps rest : List α} : ∀ p ∈ f :: g :: a :: b :: c :: d :: e :: ((X :: ps) ++ rest), p ∈ X :: f :: g :: a :: b :: c :: d :: e :: (ps ++ rest) :=
  sub_c (.tail _ (.head _)) (sub_c (.tail _ (.tail _ (.head _))) (sub_c (.tail _ (.tail _ (.tail _ (.head _)))) (sub_c (.tail _ (.tail _ (.tail _ (.tail _ (.head _))))) (sub_c (.tail _ (.tail _ (.tail _ (.tail _ (.tail _ (.head _)))))) (sub_c (.tail _ (.tail _ (.tail _ (.tail _ (.tail _ (.tail _ (.head _))))))) (sub_c (.tail _ (.tail _ (.tail _ (.tail _ (.tail _ (.tail _ (.tail _ (.head _)))))))) (sub_c (.head _) (fun _ h => .tail _ (.tail _ (.tail _ (.tail _ (.tail _ (.tail _ (.tail _ (.tail _ (h))))))))))))))))
theorem three_ks {i : Nat} {v : Value} {t1 t2 t3 : Tok} (h : (#[Value.int 2 t1, .int 4 t2, .int 3 t3] : Array Value)[i]? = some v) : ∃ k t, v = .int k t ∧ 0 ≤ k ∧ k ≤ 4 := by
  match i, h with
  | 0, h => simp at h; exact ⟨2, t1, h.symm, by decide, by decide⟩
  | 1, h => simp at h; exact ⟨4, t2, h.symm, by decide, by decide⟩
  | 2, h => simp at h; exact ⟨3, t3, h.symm, by decide, by decide⟩
  | i + 3, h => simp at h

theorem CallsIn.append {nw : List (Addr × Obj)} {ys ys2 : List Value} {c c2 : List (Int × Int)} (h : CallsIn nw ys c) (h2 : CallsIn nw ys2 c2) : CallsIn nw (ys ++ ys2) (c ++ c2) := by
  refine ⟨by rw [List.length_append, List.length_append, h.len, h2.len], fun i q hq => ?_⟩
  by_cases hi : i < c.length
  · rw [List.getElem?_append_left hi] at hq
    obtain ⟨p, o, n, t, u, e, m, r⟩ := h.at' i q hq
    exact ⟨p, o, n, t, u, by rw [List.getElem?_append_left (by rw [h.len]; exact hi)]; exact e, m, r⟩
  · rw [List.getElem?_append_right (by omega)] at hq
    obtain ⟨p, o, n, t, u, e, m, r⟩ := h2.at' _ q hq
    exact ⟨p, o, n, t, u, by rw [List.getElem?_append_right (by rw [h.len]; omega), h.len]; exact e, m, r⟩

theorem CallsIn.toAre {nw : List (Addr × Obj)} {ys : List Value} {c : List (Int × Int)} {h : Heap} (x : CallsIn nw ys c) (hp : ∀ p ∈ nw, h.get? p.1 = some p.2) : CallsAre h ys c :=
  ⟨x.len, fun i v q hv hq => by
    obtain ⟨p, o, n, t, u, e, m, hc, hd⟩ := x.at' i q hq
    rw [hv] at e
    cases e
    exact ⟨p, t, u, rfl, o, hp _ m, hc, n, hd⟩⟩

theorem sz_le {vs : List Value} (h : vs.length ≤ 13) : vs.toArray.size ≤ sizeLine := by rw [sizeLine_eq]; exact Nat.le_trans h (by decide)
theorem sz_two {vs ws : List Value} {a b : Nat} (h : vs.length = a) (h2 : a ≤ 13) (k : ws.length = b) (k2 : b ≤ 13) : vs.toArray.toList.length + ws.toArray.toList.length ≤ sizeLine := by
  rw [sizeLine_eq]
  exact Nat.le_trans (Nat.add_le_add (Nat.le_trans (Nat.le_of_eq h) h2) (Nat.le_trans (Nat.le_of_eq k) k2)) (by decide)
theorem small_ten {n : Nat} (h : n ≤ 10) : Builtin.Range.small 0 n 1 = true := small_one (by omega) (by omega) (by omega) (by omega)
theorem three_cases : ∀ {i : Nat}, i < 3 → i = 0 ∨ i = 1 ∨ i = 2
  | 0, _ => .inl rfl
  | 1, _ => .inr (.inl rfl)
  | 2, _ => .inr (.inr rfl)
  | n + 3, h => absurd h (Nat.not_lt.mpr (Nat.le_add_left 3 n))
theorem lt_sixty {a b c : Nat} (h1 : a ≤ 10) (h2 : b ≤ 10) (h3 : c ≤ 13) : a + (b + c) < 60 := Nat.lt_of_le_of_lt (Nat.add_le_add h1 (Nat.add_le_add h2 h3)) (by decide)

section
variable {prog : Program} {w : World} {A : Around} {h₀ : Heap} {L : Addr} {m : Str → Option Value} {env : Env} {elt : PySem.Expr} {x : Str} {scope : Scope} {cl : List (Str × Addr)} {s : Shared} {S : List (Addr × Obj) → Prop} {P : Nat → Value → Prop} {Fin : List Value → List (Addr × Obj) → Prop}
theorem comp_inv2 {α : Type} {n : Nat} (base : α → List (Addr × Obj)) (I2 : Nat → List Value → α → Prop) (a0 : α) (h0 : I2 0 [] a0)
    (turn : ∀ i v ys a I oI C oC D m₂ h tk (QT : Value → Shared → Prop),
      (∀ a' y h' tk' all, Fr h₀ L h' m → News h₀ L h' all → (∀ p ∈ (I, oI) :: (C, oC) :: (D, LCg.lst ys) :: base a', p ∈ all) → LCg.Off3 I C D (base a') → S (base a') → I2 (i + 1) (ys ++ [y]) a' → QT y { s with heap := h', toks := tk' }) →
      i < n → P i v → I2 i ys a → LCg.NsObj oC m₂ → m₂ x = some v → Fr h₀ L h m → News h₀ L h ((I, oI) :: (C, oC) :: (D, LCg.lst ys) :: base a) → LCg.Off3 I C D (base a) → ((@Ne Nat I C) ∧ (@Ne Nat I D) ∧ (@Ne Nat C D)) →
      wpAny (model prog w) A (eval elt (compEnvC scope cl C env)) QT (fun _ _ => False) { s with heap := h, toks := tk })
    (fin : ∀ ys a, I2 n ys a → Fin ys (base a)) : LCg.CompRest prog w A h₀ L m env elt x scope cl s S P Fin n 0 [] (base a0) :=
  comp_inv (fun i ys nw => ∃ a, nw = base a ∧ I2 i ys a) ⟨a0, rfl, h0⟩
    (fun i v ys nw I oI C oC D m₂ h tk QT hQT hi hv hI hC hx F N off ne => by
      obtain ⟨a, rfl, hi2⟩ := hI
      exact turn i v ys a I oI C oC D m₂ h tk QT (fun a' y h' tk' all F' N' sub off' hS r => comp_out hQT F' N' _ sub off' hS ⟨a', rfl, r⟩) hi hv hi2 hC hx F N off ne)
    (fun ys nw hI => by
      obtain ⟨a, rfl, h2⟩ := hI
      exact fin ys a h2)
end

theorem law_ok {w : World} {mg mb : Str → Option Value} {b : Heap} {A : Around} {s : Shared} {Rr : Result → Shared → Prop} {sc : Addr} {vs : List Value} {ns : List Int}
    (G : Gr w mg mb b) (hb : b.StaysIn s.heap) (hroom : Room 18 A) (hh : A.handled = none) (hfr : A.frames = some []) (hsc : s.heap.IsList sc vs.toArray) (hI : IntsAre vs ns) (hsm : ns.length ≤ 63)
    (k : ∀ s', (∀ b o, s.heap.get? b = some o → s'.heap.get? b = some o) → s'.os = s.os → s'.gens = s.gens → Rr (.ok (.ret (.bool true))) s') :
    codeAny (model Challenge.rw_mj0021_01.row.prog w) A (.call (.ref 118) ⟨[.ref sc], []⟩) Rr s := by
  have G' := G.kx
  revert G'
  k_fill
  intro G'
  refine' enterC (binds := [(Str.ofString "script", .ref sc)]) [] G hb ?h1 ?h2 ?ho ?hcd ?hr ?bi ?lo ?nd ?_ ?c1 ?c2 ?c3
  case h1 => simp
  case h2 => simp
  case ho => k_is
  case hcd => k_is
  case hr => exact Nat.lt_of_le_of_lt (Nat.le_add_right _ _) hroom.1
  case bi => exact BindsTo.of_eq rfl
  case lo => intro n x hx; simp only [List.mem_cons, List.not_mem_nil, or_false] at hx; rcases hx with rfl; exact .inl rfl
  case nd => decide
  case c1 => exact rfl
  case c2 => exact rfl
  case c3 => exact rfl
  intro g L h₁ tk0 cells G₁ hg F' N' Y hDL
  have KX := G₁.kx
  have T' := G₁.top
  have hb2 : b.StaysIn g := fun a o e => hg a o (by simp) (hb a o e)

  have Y1 := CellsAre.three Y
  obtain ⟨o1, o2, o3, hE, q1, q2, q3⟩ := Y1
  subst hE
  clear Y
  replace q1 : o1.data = .cell none := q1
  replace q2 : o2.data = .cell none := q2
  replace q3 : o3.data = .cell none := q3
  replace N' : News g L h₁ [(L + 1 + 1 + 1, o1), (L + 1 + 1, o2), (L + 1, o3)] := N'
  have gs : g.IsList sc vs.toArray := hsc.at fun o e => hg _ o (by simp) e
  refine gen_goal fun QQ hQQ => ?_
  (repeat' (first | (k_unfold; (try dsimp only)) | ((fail_if_success (with_reducible show wpAny _ _ (exec (Stmt.While _ _ _ _) _) _ _ _)); (fail_if_success (with_reducible show wpAny _ _ (exec (Stmt.For _ _ _ _ _) _) _ _ _)); (fail_if_success (with_reducible show wpAny _ _ (call (Value.ref _) _) _ _ _)); (fail_if_success (with_reducible show wpAny _ _ (compareOp _ (Value.ref _) (Value.ref _)) _ _ _)); (fail_if_success (with_reducible show wpAny _ _ (call (Value.type "dict") _) _ _ _)); (fail_if_success (with_reducible show wpAny _ _ (call (Value.type "zip") _) _ _ _)); (fail_if_success (with_reducible show wpAny _ _ (call (Value.type "set") _) _ _ _)); (fail_if_success (with_reducible show wpAny _ _ (call (Value.builtin "sorted") _) _ _ _)); (fail_if_success (with_reducible show wpAny _ _ (subscriptTail _ (Expr.Slice _ _ _ _) _ _) _ _ _)); (fail_if_success (with_reducible show wpAny _ _ (exec (Stmt.Assign _ (Expr.ListComp _ _ _ _) _) _) _ _ _)); (fail_if_success (with_reducible show wpAny _ _ (eval (Expr.ListComp _ _ _ _) _) _ _ _)); (first | walk1 | (dsimp only; walk1)); (try dsimp only)) | fail "no step"))
  rename_i l1 h1 F1 N1 lt1
  refine' kmk_slice_ints (s := { s with heap := h1, toks := _ }) ?z1 ?z2 ?z3 ?z4 ?z5 ?z6 ?z7 ?z8 ?z9 ?za ?zb ?zc
  case z1 => exact F1
  case z2 => exact N1
  case z3 => exact gs.at fun o e => F1.keep _ o e
  case z4 => kmk_part
  case z5 => kmk_part
  case z6 => exact hI
  case z7 => exact kmk_upto hI (by decide)
  case z8 => exact rfl
  case za => with_unfolding_all rfl
  case zb => kmk_pure
  case zc => rw [sizeLine_eq]; have := hI.length; simp; omega
  intro D2 w2 h2 F2 N2 lt2 hw2 _ hle2
  clear F1 N1
  (repeat' (first | (k_unfold; (try dsimp only)) | ((fail_if_success (with_reducible show wpAny _ _ (exec (Stmt.While _ _ _ _) _) _ _ _)); (fail_if_success (with_reducible show wpAny _ _ (exec (Stmt.For _ _ _ _ _) _) _ _ _)); (fail_if_success (with_reducible show wpAny _ _ (call (Value.ref _) _) _ _ _)); (fail_if_success (with_reducible show wpAny _ _ (compareOp _ (Value.ref _) (Value.ref _)) _ _ _)); (fail_if_success (with_reducible show wpAny _ _ (call (Value.type "dict") _) _ _ _)); (fail_if_success (with_reducible show wpAny _ _ (call (Value.type "zip") _) _ _ _)); (fail_if_success (with_reducible show wpAny _ _ (call (Value.type "set") _) _ _ _)); (fail_if_success (with_reducible show wpAny _ _ (call (Value.builtin "sorted") _) _ _ _)); (fail_if_success (with_reducible show wpAny _ _ (subscriptTail _ (Expr.Slice _ _ _ _) _ _) _ _ _)); (fail_if_success (with_reducible show wpAny _ _ (exec (Stmt.Assign _ (Expr.ListComp _ _ _ _) _) _) _ _ _)); (fail_if_success (with_reducible show wpAny _ _ (eval (Expr.ListComp _ _ _ _) _) _ _ _)); (first | walk1 | (dsimp only; walk1)); (try dsimp only)) | fail "no step"))
  rename_i Dn nv hx1 hIn ltn h3 F3 N3
  have hlt2 : (List.take (Int.toNat 4) ns).length ≤ 4 := by rw [List.length_take]; exact Nat.min_le_left _ _
  generalize List.take (Int.toNat 4) ns = ns4 at hIn hw2 hlt2
  clear hw2
  replace N3 : News g L h3 [(Dn, lst nv 0), (L + 1 + 1 + 1, o1), (L + 1 + 1, o2), (L + 1, o3)] := fun p hp => N3 p (sub_c (.head _) (sub_c (.tail _ (.tail _ (.tail _ (.head _)))) (sub_c (.tail _ (.tail _ (.tail _ (.tail _ (.head _))))) (sub_c (.tail _ (.tail _ (.tail _ (.tail _ (.tail _ (.head _)))))) (sub_n)))) p hp)
  have hnl : ([22, 8, 43, 14, 36, 9] ++ ns4).length ≤ 10 ∧ 6 ≤ ([22, 8, 43, 14, 36, 9] ++ ns4).length := by simp; omega
  generalize ([22, 8, 43, 14, 36, 9] ++ ns4 : List Int) = nums at hIn hnl
  clear hlt2
  have hnv : nv.length = nums.length := hIn.length
  obtain ⟨ltD, _, ltn3, ltn2, ltn1⟩ := ltn
  clear ltD lt2 lt1 hx1
  refine wpAny_Assign_Name ?_ (by with_unfolding_all rfl)
  refine LCg.ListComp_U (F₀ := F3) (by with_unfolding_all rfl) (by decide) (by rfl) (by decide) (by rfl) ?_
  (repeat' (first | (k_unfold; (try dsimp only)) | ((fail_if_success (with_reducible show wpAny _ _ (exec (Stmt.While _ _ _ _) _) _ _ _)); (fail_if_success (with_reducible show wpAny _ _ (exec (Stmt.For _ _ _ _ _) _) _ _ _)); (fail_if_success (with_reducible show wpAny _ _ (call (Value.ref _) _) _ _ _)); (fail_if_success (with_reducible show wpAny _ _ (compareOp _ (Value.ref _) (Value.ref _)) _ _ _)); (fail_if_success (with_reducible show wpAny _ _ (call (Value.type "dict") _) _ _ _)); (fail_if_success (with_reducible show wpAny _ _ (call (Value.type "zip") _) _ _ _)); (fail_if_success (with_reducible show wpAny _ _ (call (Value.type "set") _) _ _ _)); (fail_if_success (with_reducible show wpAny _ _ (call (Value.builtin "sorted") _) _ _ _)); (fail_if_success (with_reducible show wpAny _ _ (subscriptTail _ (Expr.Slice _ _ _ _) _ _) _ _ _)); (fail_if_success (with_reducible show wpAny _ _ (exec (Stmt.Assign _ (Expr.ListComp _ _ _ _) _) _) _ _ _)); (fail_if_success (with_reducible show wpAny _ _ (eval (Expr.ListComp _ _ _ _) _) _ _ _)); (first | walk1 | (dsimp only; walk1)); (try dsimp only)) | fail "no step"))
  refine LCg.CompSrc.ledger hh F3 N3 (.head _) (sz_le (Nat.le_trans (Nat.le_of_eq hnv) (Nat.le_trans hnl.1 (by decide)))) fun g' => ?_
  refine comp_inv2 (fun _ : Unit => [(Dn, lst nv 0), (L + 1 + 1 + 1, o1), (L + 1 + 1, o2), (L + 1, o3)]) (fun i ys _ => IntsAre ys ((nums.map itemOf).take i)) () (by simpa using .nil) ?_ ?_
  · intro i v ys aU I oI C oC D m₂ h tk QT hQT hi hv hy hC hx F N off ne
    have hi' : i < nums.length := by rw [← hnv]; simpa using hi
    obtain ⟨ti, rfl⟩ := ints_at hIn (by simpa using hv) hi'
    have Fh := And.intro F N
    (repeat' (first | (k_unfold; (try dsimp only)) | ((fail_if_success (with_reducible show wpAny _ _ (exec (Stmt.While _ _ _ _) _) _ _ _)); (fail_if_success (with_reducible show wpAny _ _ (exec (Stmt.For _ _ _ _ _) _) _ _ _)); (fail_if_success (with_reducible show wpAny _ _ (call (Value.ref _) _) _ _ _)); (fail_if_success (with_reducible show wpAny _ _ (compareOp _ (Value.ref _) (Value.ref _)) _ _ _)); (fail_if_success (with_reducible show wpAny _ _ (call (Value.type "dict") _) _ _ _)); (fail_if_success (with_reducible show wpAny _ _ (call (Value.type "zip") _) _ _ _)); (fail_if_success (with_reducible show wpAny _ _ (call (Value.type "set") _) _ _ _)); (fail_if_success (with_reducible show wpAny _ _ (call (Value.builtin "sorted") _) _ _ _)); (fail_if_success (with_reducible show wpAny _ _ (subscriptTail _ (Expr.Slice _ _ _ _) _ _) _ _ _)); (fail_if_success (with_reducible show wpAny _ _ (exec (Stmt.Assign _ (Expr.ListComp _ _ _ _) _) _) _ _ _)); (fail_if_success (with_reducible show wpAny _ _ (eval (Expr.ListComp _ _ _ _) _) _ _ _)); (first | walk1 | (dsimp only; walk1)); (try dsimp only)) | fail "no step"))
    obtain ⟨F, N⟩ := Fh
    refine wpAny_call (law_item_ok G₁ F.keep (hroom.call (by decide)) fun s' t' hch => ?_)
    obtain ⟨h6, tk6, rfl, hk6⟩ := hch
    have up : h.StaysIn h6 := fun b o e => hk6 b o (by simp) e
    refine hQT aU _ _ _ _ (F.keeps up) (N.grown up) (fun _ hp => hp) off (.inr ⟨_, .head _, rfl, _, rfl⟩) ?_
    have hil : i < (nums.map itemOf).length := by rw [List.length_map]; exact hi'
    rw [List.take_add_one, List.getElem?_eq_getElem hil, List.getElem_map]
    exact IntsAre.snoc hy _ _
  intro ys aU hy Di h4 tk4 F4 N4 off
  clear F3 N3
  dsimp only
  rw [show (nums.map itemOf).take nv.toArray.size = nums.map itemOf from by rw [show nv.toArray.size = (nums.map itemOf).length from by simpa using hnv]; exact List.take_length] at hy
  have dn1 : @Ne Nat Dn Di := off.1
  have dn2 : @Ne Nat (L + 1 + 1 + 1) Di := off.2.1
  have dn3 : @Ne Nat (L + 1 + 1) Di := off.2.2.1
  have dn4 : @Ne Nat (L + 1) Di := off.2.2.2.1
  clear off
  (repeat' (first | (k_unfold; (try dsimp only)) | ((fail_if_success (with_reducible show wpAny _ _ (exec (Stmt.While _ _ _ _) _) _ _ _)); (fail_if_success (with_reducible show wpAny _ _ (exec (Stmt.For _ _ _ _ _) _) _ _ _)); (fail_if_success (with_reducible show wpAny _ _ (call (Value.ref _) _) _ _ _)); (fail_if_success (with_reducible show wpAny _ _ (compareOp _ (Value.ref _) (Value.ref _)) _ _ _)); (fail_if_success (with_reducible show wpAny _ _ (call (Value.type "dict") _) _ _ _)); (fail_if_success (with_reducible show wpAny _ _ (call (Value.type "zip") _) _ _ _)); (fail_if_success (with_reducible show wpAny _ _ (call (Value.type "set") _) _ _ _)); (fail_if_success (with_reducible show wpAny _ _ (call (Value.builtin "sorted") _) _ _ _)); (fail_if_success (with_reducible show wpAny _ _ (subscriptTail _ (Expr.Slice _ _ _ _) _ _) _ _ _)); (fail_if_success (with_reducible show wpAny _ _ (exec (Stmt.Assign _ (Expr.ListComp _ _ _ _) _) _) _ _ _)); (fail_if_success (with_reducible show wpAny _ _ (eval (Expr.ListComp _ _ _ _) _) _ _ _)); (first | walk1 | (dsimp only; walk1)); (try dsimp only)) | fail "no step"))
  rename_i h5 oI F5 N5 qI
  have Fh5 := And.intro F5 N5
  have hyl : (nums.map itemOf).length ≤ 10 := by rw [List.length_map]; exact hnl.1
  refine set_listI (s := { s with heap := h5, toks := _ }) (items := ys.toArray) hh ⟨_, (Fh5.2 _ (.head _)).1, rfl, _, rfl⟩ (by simpa using hy) (Nat.lt_of_le_of_lt (Nat.succ_le_succ hyl) (by decide)) fun h6 tk6 hS6 hk6 => ?_
  have up6 : ∀ b o, h5.get? b = some o → h6.get? b = some o := fun b o e => hk6 b o (Heap.lt_size e) e
  have F6 := Fh5.1.kept up6
  have N6 := Fh5.2.grown up6
  clear Fh5 F5 N5
  dsimp only
  have Fh6 := And.intro F6 N6
  (repeat' (first | (k_unfold; (try dsimp only)) | ((fail_if_success (with_reducible show wpAny _ _ (exec (Stmt.While _ _ _ _) _) _ _ _)); (fail_if_success (with_reducible show wpAny _ _ (exec (Stmt.For _ _ _ _ _) _) _ _ _)); (fail_if_success (with_reducible show wpAny _ _ (call (Value.ref _) _) _ _ _)); (fail_if_success (with_reducible show wpAny _ _ (compareOp _ (Value.ref _) (Value.ref _)) _ _ _)); (fail_if_success (with_reducible show wpAny _ _ (call (Value.type "dict") _) _ _ _)); (fail_if_success (with_reducible show wpAny _ _ (call (Value.type "zip") _) _ _ _)); (fail_if_success (with_reducible show wpAny _ _ (call (Value.type "set") _) _ _ _)); (fail_if_success (with_reducible show wpAny _ _ (call (Value.builtin "sorted") _) _ _ _)); (fail_if_success (with_reducible show wpAny _ _ (subscriptTail _ (Expr.Slice _ _ _ _) _ _) _ _ _)); (fail_if_success (with_reducible show wpAny _ _ (exec (Stmt.Assign _ (Expr.ListComp _ _ _ _) _) _) _ _ _)); (fail_if_success (with_reducible show wpAny _ _ (eval (Expr.ListComp _ _ _ _) _) _ _ _)); (first | walk1 | (dsimp only; walk1)); (try dsimp only)) | fail "no step"))
  obtain ⟨hmn, hmm⟩ := metI_all (nums.map itemOf)
  have hml := metI_len (nums.map itemOf) _ (Nat.le_refl _)
  refine sorted_set (s := { s with heap := h6, toks := _ }) hh Fh6.1 Fh6.2 hS6 (Nat.lt_of_le_of_lt (Nat.le_trans hml hyl) (by decide)) fun Du h7 tk7 dr c7 uv un F7 N7 lt7 hu hup hus => ?_
  have hund : un.Nodup := hup.nodup_iff.mpr hmn
  have huas := asc_of hus hund
  have humem : ∀ a, a ∈ un ↔ a ∈ nums.map itemOf := fun a => (hup.mem_iff).trans (hmm a)
  have hunl : un.length ≤ 10 := by rw [hup.length_eq]; exact Nat.le_trans hml hyl
  have huvl : uv.length = un.length := hu.length
  have hun0 : 0 < un.length := by
    refine List.length_pos_of_mem (a := itemOf nums[0]) ((humem _).mpr (List.mem_map.mpr ⟨_, List.getElem_mem _, rfl⟩))
  clear hS6 hk6 hup hmn hmm hml F6 N6 Fh6
  have ltu1 : @LT.lt Nat _ Di Du := lt7 _ (.head _)
  have ltu2 : @LT.lt Nat _ Dn Du := lt7 _ (.tail _ (.head _))
  have ltu3 : @LT.lt Nat _ (L + 1 + 1 + 1) Du := lt7 _ (.tail _ (.tail _ (.head _)))
  have ltu4 : @LT.lt Nat _ (L + 1 + 1) Du := lt7 _ (.tail _ (.tail _ (.tail _ (.head _))))
  have ltu5 : @LT.lt Nat _ (L + 1) Du := lt7 _ (.tail _ (.tail _ (.tail _ (.tail _ (.head _)))))
  clear lt7
  dsimp only
  (repeat' (first | (k_unfold; (try dsimp only)) | ((fail_if_success (with_reducible show wpAny _ _ (exec (Stmt.While _ _ _ _) _) _ _ _)); (fail_if_success (with_reducible show wpAny _ _ (exec (Stmt.For _ _ _ _ _) _) _ _ _)); (fail_if_success (with_reducible show wpAny _ _ (call (Value.ref _) _) _ _ _)); (fail_if_success (with_reducible show wpAny _ _ (compareOp _ (Value.ref _) (Value.ref _)) _ _ _)); (fail_if_success (with_reducible show wpAny _ _ (call (Value.type "dict") _) _ _ _)); (fail_if_success (with_reducible show wpAny _ _ (call (Value.type "zip") _) _ _ _)); (fail_if_success (with_reducible show wpAny _ _ (call (Value.type "set") _) _ _ _)); (fail_if_success (with_reducible show wpAny _ _ (call (Value.builtin "sorted") _) _ _ _)); (fail_if_success (with_reducible show wpAny _ _ (subscriptTail _ (Expr.Slice _ _ _ _) _ _) _ _ _)); (fail_if_success (with_reducible show wpAny _ _ (exec (Stmt.Assign _ (Expr.ListComp _ _ _ _) _) _) _ _ _)); (fail_if_success (with_reducible show wpAny _ _ (eval (Expr.ListComp _ _ _ _) _) _ _ _)); (first | walk1 | (dsimp only; walk1)); (try dsimp only)) | fail "no step"))
  rename_i h8 F8 N8 h9 tk9 t9 u9 v9 hr9 F9 N9 k9
  clear F8 N8 k9
  have hl9 : h9.IsList Du uv.toArray := ⟨_, (N9 _ (.head _)).1, rfl, _, rfl⟩
  have hB9 : ∀ p ∈ [(Du, lst uv c7), (Di, LCg.lst ys), (Dn, lst nv 0), (L + 1 + 1 + 1, o1), (L + 1 + 1, o2), (L + 1, oI)], p.1 < h9.objs.size := fun p hp => Heap.lt_size (N9 p hp).1
  have hL9 : L < h9.objs.size := by obtain ⟨oL, _, _, hoL, _⟩ := F9.ns; exact Heap.lt_size hoL
  refine zip_N (s := { s with heap := h9, toks := _, drawn := dr }) F9 N9 hl9 (by simpa using hu) hr9 (Nat.lt_of_le_of_lt hunl (by decide)) fun z h10 F10 N10 hZ => ?_
  dsimp only at hZ
  have Fh10 := And.intro F10 N10
  clear F9 N9 hr9 hl9
  dsimp only
  (repeat' (first | (k_unfold; (try dsimp only)) | ((fail_if_success (with_reducible show wpAny _ _ (exec (Stmt.While _ _ _ _) _) _ _ _)); (fail_if_success (with_reducible show wpAny _ _ (exec (Stmt.For _ _ _ _ _) _) _ _ _)); (fail_if_success (with_reducible show wpAny _ _ (call (Value.ref _) _) _ _ _)); (fail_if_success (with_reducible show wpAny _ _ (compareOp _ (Value.ref _) (Value.ref _)) _ _ _)); (fail_if_success (with_reducible show wpAny _ _ (call (Value.type "dict") _) _ _ _)); (fail_if_success (with_reducible show wpAny _ _ (call (Value.type "zip") _) _ _ _)); (fail_if_success (with_reducible show wpAny _ _ (call (Value.type "set") _) _ _ _)); (fail_if_success (with_reducible show wpAny _ _ (call (Value.builtin "sorted") _) _ _ _)); (fail_if_success (with_reducible show wpAny _ _ (subscriptTail _ (Expr.Slice _ _ _ _) _ _) _ _ _)); (fail_if_success (with_reducible show wpAny _ _ (exec (Stmt.Assign _ (Expr.ListComp _ _ _ _) _) _) _ _ _)); (fail_if_success (with_reducible show wpAny _ _ (eval (Expr.ListComp _ _ _ _) _) _ _ _)); (first | walk1 | (dsimp only; walk1)); (try dsimp only)) | fail "no step"))
  have hBK : h9.objs.size ≤ h10.objs.size := by
    obtain ⟨TI, TO, i1, i2, xs, a, b, D, bs, hz1, _⟩ := hZ
    exact Nat.le_of_lt (Nat.lt_of_le_of_lt bs.1 (Heap.lt_size hz1))
  refine dict_zip (s := { s with heap := h10, toks := _, drawn := dr }) hh hZ (hB9 _ (.head _)) hund hun0 (Nat.lt_of_le_of_lt hunl (by decide)) fun h11 tk11 kvs hk11 hD11 hK11 => ?_
  have F11 := fr_low Fh10.1 hk11 hL9
  have N11 := news_low Fh10.2 hk11 hB9
  obtain ⟨oK, esK, epK, hoK, hrK⟩ := id hD11
  dsimp only at hoK hD11
  have N11 := news_new F11 N11 hoK (Nat.lt_of_lt_of_le hL9 hBK)
  generalize h9.objs.size = B at hB9 hBK hZ hL9
  generalize h10.objs.size = K at hBK hoK hD11 N11
  have lk1 : @LT.lt Nat _ Du K := Nat.lt_of_lt_of_le (hB9 _ (.head _)) hBK
  have lk2 : @LT.lt Nat _ Di K := Nat.lt_of_lt_of_le (hB9 _ (.tail _ (.head _))) hBK
  have lk3 : @LT.lt Nat _ Dn K := Nat.lt_of_lt_of_le (hB9 _ (.tail _ (.tail _ (.head _)))) hBK
  have lk4 : @LT.lt Nat _ (L + 1 + 1 + 1) K := Nat.lt_of_lt_of_le (hB9 _ (.tail _ (.tail _ (.tail _ (.head _))))) hBK
  clear hB9 hZ hk11 F10 N10 Fh10
  dsimp only
  (repeat' (first | (k_unfold; (try dsimp only)) | ((fail_if_success (with_reducible show wpAny _ _ (exec (Stmt.While _ _ _ _) _) _ _ _)); (fail_if_success (with_reducible show wpAny _ _ (exec (Stmt.For _ _ _ _ _) _) _ _ _)); (fail_if_success (with_reducible show wpAny _ _ (call (Value.ref _) _) _ _ _)); (fail_if_success (with_reducible show wpAny _ _ (compareOp _ (Value.ref _) (Value.ref _)) _ _ _)); (fail_if_success (with_reducible show wpAny _ _ (call (Value.type "dict") _) _ _ _)); (fail_if_success (with_reducible show wpAny _ _ (call (Value.type "zip") _) _ _ _)); (fail_if_success (with_reducible show wpAny _ _ (call (Value.type "set") _) _ _ _)); (fail_if_success (with_reducible show wpAny _ _ (call (Value.builtin "sorted") _) _ _ _)); (fail_if_success (with_reducible show wpAny _ _ (subscriptTail _ (Expr.Slice _ _ _ _) _ _) _ _ _)); (fail_if_success (with_reducible show wpAny _ _ (exec (Stmt.Assign _ (Expr.ListComp _ _ _ _) _) _) _ _ _)); (fail_if_success (with_reducible show wpAny _ _ (eval (Expr.ListComp _ _ _ _) _) _ _ _)); (first | walk1 | (dsimp only; walk1)); (try dsimp only)) | fail "no step"))
  rename_i h12 oR F12 N12 qR
  have hyv : ys.length ≤ 10 := by rw [hy.length]; exact hyl
  refine' kmk_slice3_lit (s := { s with heap := h12, toks := _, drawn := dr }) (its := ys.toArray) ?y1 ?y2 ?y3 ?y4 ?y5 ?y6 ?y7 ?y8 ?y9 ?ya ?yb ?yc
  case y1 => exact F12
  case y2 => exact N12
  case y3 => exact ⟨_, (N12 _ (.tail _ (.tail _ (.head _)))).1, rfl, _, rfl⟩
  case y4 => kmk_part
  case y5 => kmk_part
  case y6 => kmk_part
  case y7 => decide
  case y8 => exact rfl
  case ya => with_unfolding_all rfl
  case yb => kmk_pure
  case yc => exact sz_le (Nat.le_trans hyv (by decide))
  generalize hfz : (slicePick ys.toArray (some 0) none (some 2)).toList = fv
  obtain ⟨fn, hfi, hfm, hfl⟩ := pick_ints hy hfz
  clear hfz
  intro Df h13 F13 N13 lt13
  have lf1 : @LT.lt Nat _ K Df := lt13 _ (.head _)
  have lf2 : @LT.lt Nat _ (L + 1 + 1 + 1) Df := lt13 _ (.tail _ (.tail _ (.tail _ (.tail _ (.head _)))))
  clear lt13 F12 N12
  dsimp only
  (repeat' (first | (k_unfold; (try dsimp only)) | ((fail_if_success (with_reducible show wpAny _ _ (exec (Stmt.While _ _ _ _) _) _ _ _)); (fail_if_success (with_reducible show wpAny _ _ (exec (Stmt.For _ _ _ _ _) _) _ _ _)); (fail_if_success (with_reducible show wpAny _ _ (call (Value.ref _) _) _ _ _)); (fail_if_success (with_reducible show wpAny _ _ (compareOp _ (Value.ref _) (Value.ref _)) _ _ _)); (fail_if_success (with_reducible show wpAny _ _ (call (Value.type "dict") _) _ _ _)); (fail_if_success (with_reducible show wpAny _ _ (call (Value.type "zip") _) _ _ _)); (fail_if_success (with_reducible show wpAny _ _ (call (Value.type "set") _) _ _ _)); (fail_if_success (with_reducible show wpAny _ _ (call (Value.builtin "sorted") _) _ _ _)); (fail_if_success (with_reducible show wpAny _ _ (subscriptTail _ (Expr.Slice _ _ _ _) _ _) _ _ _)); (fail_if_success (with_reducible show wpAny _ _ (exec (Stmt.Assign _ (Expr.ListComp _ _ _ _) _) _) _ _ _)); (fail_if_success (with_reducible show wpAny _ _ (eval (Expr.ListComp _ _ _ _) _) _ _ _)); (first | walk1 | (dsimp only; walk1)); (try dsimp only)) | fail "no step"))
  rename_i h14 oF F14 N14 qF
  refine LCg.Assign_ListComp_U (F₀ := F14) (by rfl) (by with_unfolding_all rfl) (by with_unfolding_all rfl) (by decide) (by rfl) (by decide) (by rfl) (by rfl) (by rfl) ?_
  have Fh14 := And.intro F14 N14
  (repeat' (first | (k_unfold; (try dsimp only)) | ((fail_if_success (with_reducible show wpAny _ _ (exec (Stmt.While _ _ _ _) _) _ _ _)); (fail_if_success (with_reducible show wpAny _ _ (exec (Stmt.For _ _ _ _ _) _) _ _ _)); (fail_if_success (with_reducible show wpAny _ _ (call (Value.ref _) _) _ _ _)); (fail_if_success (with_reducible show wpAny _ _ (compareOp _ (Value.ref _) (Value.ref _)) _ _ _)); (fail_if_success (with_reducible show wpAny _ _ (call (Value.type "dict") _) _ _ _)); (fail_if_success (with_reducible show wpAny _ _ (call (Value.type "zip") _) _ _ _)); (fail_if_success (with_reducible show wpAny _ _ (call (Value.type "set") _) _ _ _)); (fail_if_success (with_reducible show wpAny _ _ (call (Value.builtin "sorted") _) _ _ _)); (fail_if_success (with_reducible show wpAny _ _ (subscriptTail _ (Expr.Slice _ _ _ _) _ _) _ _ _)); (fail_if_success (with_reducible show wpAny _ _ (exec (Stmt.Assign _ (Expr.ListComp _ _ _ _) _) _) _ _ _)); (fail_if_success (with_reducible show wpAny _ _ (eval (Expr.ListComp _ _ _ _) _) _ _ _)); (first | walk1 | (dsimp only; walk1)); (try dsimp only)) | fail "no step"))
  have hnvl : nv.length ≤ 10 := Nat.le_trans (Nat.le_of_eq hnv) hnl.1
  refine' kmk_slice3_lit (s := { s with heap := h14, toks := _, drawn := dr }) (its := nv.toArray) ?x1 ?x2 ?x3 ?x4 ?x5 ?x6 ?x7 ?x8 ?x9 ?xa ?xb ?xc
  case x1 => exact Fh14.1
  case x2 => exact Fh14.2
  case x3 => exact ⟨_, (Fh14.2 _ (.tail _ (.tail _ (.tail _ (.tail _ (.head _)))))).1, rfl, _, rfl⟩
  case x4 => kmk_part
  case x5 => kmk_part
  case x6 => kmk_part
  case x7 => decide
  case x8 => exact rfl
  case xa => with_unfolding_all rfl
  case xb => kmk_pure
  case xc => exact sz_le (Nat.le_trans hnvl (by decide))
  generalize hcz : (slicePick nv.toArray (some 1) none (some 2)).toList = cv
  obtain ⟨cn, hci, hcm, hcl⟩ := pick_ints hIn hcz
  clear hcz
  intro Dc h15 F15 N15 lt15
  have hcvn : cv.length = cn.length := hci.length
  refine LCg.CompSrc.ledger hh F15 N15 (.head _) (sz_le (Nat.le_trans hcl (Nat.le_trans hnvl (by decide)))) fun g15 => ?_
  refine comp_inv2 (fun ps => ps ++ [(Dc, W.listOf cv.toArray 0), (Df, W.listOf fv.toArray 0), (K, oK), (Du, lst uv c7), (Di, LCg.lst ys), (Dn, lst nv 0), (L + 1 + 1 + 1, oF), (L + 1 + 1, oR), (L + 1, oI)]) (fun i ys' ps => ∃ calls, CallsIn ps ys' calls ∧ calls.length = i ∧ ∀ q ∈ calls, 0 ≤ q.1 ∧ q.1 ≤ 4 ∧ q.2 ∈ nums.map itemOf) [] ⟨[], .nil, rfl, by simp⟩ ?_ ?_
  · intro i v ys' ps I oI' C oC D m₂ h tk QT hQT hi hv hInv hC hx F N off ne
    obtain ⟨calls, hps, hcl', hcq⟩ := hInv
    have hi' : i < cn.length := by rw [← hcvn]; simpa using hi
    obtain ⟨ti, rfl⟩ := ints_at hci (by simpa using hv) hi'
    have Fh := And.intro F N
    (repeat' (first | (k_unfold; (try dsimp only)) | ((fail_if_success (with_reducible show wpAny _ _ (exec (Stmt.While _ _ _ _) _) _ _ _)); (fail_if_success (with_reducible show wpAny _ _ (exec (Stmt.For _ _ _ _ _) _) _ _ _)); (fail_if_success (with_reducible show wpAny _ _ (call (Value.ref _) _) _ _ _)); (fail_if_success (with_reducible show wpAny _ _ (compareOp _ (Value.ref _) (Value.ref _)) _ _ _)); (fail_if_success (with_reducible show wpAny _ _ (call (Value.type "dict") _) _ _ _)); (fail_if_success (with_reducible show wpAny _ _ (call (Value.type "zip") _) _ _ _)); (fail_if_success (with_reducible show wpAny _ _ (call (Value.type "set") _) _ _ _)); (fail_if_success (with_reducible show wpAny _ _ (call (Value.builtin "sorted") _) _ _ _)); (fail_if_success (with_reducible show wpAny _ _ (subscriptTail _ (Expr.Slice _ _ _ _) _ _) _ _ _)); (fail_if_success (with_reducible show wpAny _ _ (exec (Stmt.Assign _ (Expr.ListComp _ _ _ _) _) _) _ _ _)); (fail_if_success (with_reducible show wpAny _ _ (eval (Expr.ListComp _ _ _ _) _) _ _ _)); (first | walk1 | (dsimp only; walk1)); (try dsimp only)) | fail "no step"))
    obtain ⟨F, N⟩ := Fh
    refine wpAny_call (law_item_ok G₁ F.keep (hroom.call (by decide)) fun s' t' hch => ?_)
    obtain ⟨h16, tk16, rfl, hk16⟩ := hch
    have up : h.StaysIn h16 := fun b o e => hk16 b o (by simp) e
    have F16 := F.keeps up
    have N16 := N.grown up
    clear F N
    dsimp only
    (repeat' (first | (k_unfold; (try dsimp only)) | ((fail_if_success (with_reducible show wpAny _ _ (exec (Stmt.While _ _ _ _) _) _ _ _)); (fail_if_success (with_reducible show wpAny _ _ (exec (Stmt.For _ _ _ _ _) _) _ _ _)); (fail_if_success (with_reducible show wpAny _ _ (call (Value.ref _) _) _ _ _)); (fail_if_success (with_reducible show wpAny _ _ (compareOp _ (Value.ref _) (Value.ref _)) _ _ _)); (fail_if_success (with_reducible show wpAny _ _ (call (Value.type "dict") _) _ _ _)); (fail_if_success (with_reducible show wpAny _ _ (call (Value.type "zip") _) _ _ _)); (fail_if_success (with_reducible show wpAny _ _ (call (Value.type "set") _) _ _ _)); (fail_if_success (with_reducible show wpAny _ _ (call (Value.builtin "sorted") _) _ _ _)); (fail_if_success (with_reducible show wpAny _ _ (subscriptTail _ (Expr.Slice _ _ _ _) _ _) _ _ _)); (fail_if_success (with_reducible show wpAny _ _ (exec (Stmt.Assign _ (Expr.ListComp _ _ _ _) _) _) _ _ _)); (fail_if_success (with_reducible show wpAny _ _ (eval (Expr.ListComp _ _ _ _) _) _ _ _)); (first | walk1 | (dsimp only; walk1)); (try dsimp only)) | fail "no step"))
    rename_i Dp h17 F17 N17 l17
    have hcn : cn[i] ∈ nums := hcm _ (List.getElem_mem _)
    refine hQT ((Dp, { cls := .type "tuple", data := .seq #[.int (cn[i].fmod 5) (tk + 1), .int (itemOf cn[i]) t'] }) :: ps) _ _ _ _ F17 N17 (sub_c (.tail _ (.head _)) (sub_c (.tail _ (.tail _ (.head _))) (sub_c (.tail _ (.tail _ (.tail _ (.head _)))) (sub_c (.head _) (fun _ h => .tail _ (.tail _ (.tail _ (.tail _ (h))))))))) ⟨⟨Nat.ne_of_gt l17.1, Nat.ne_of_gt l17.2.1, Nat.ne_of_gt l17.2.2.1⟩, off⟩ (.inr ⟨_, .tail _ (List.mem_append_right _ (.head _)), rfl, _, rfl⟩)
      ⟨calls ++ [(cn[i].fmod 5, itemOf cn[i])], hps.push (fun q hq => .tail _ hq) (.head _) rfl rfl, by simp [hcl'], fun q hq => ?_⟩
    · rcases List.mem_append.mp hq with hq | hq
      · exact hcq q hq
      · rw [List.mem_singleton.mp hq]
        refine ⟨?_, ?_, List.mem_map.mpr ⟨_, hcn, rfl⟩⟩
        · exact Int.fmod_nonneg_of_pos _ (by decide)
        · have := Int.fmod_lt_of_pos cn[i] (show (0 : Int) < 5 by decide)
          show cn[i].fmod 5 ≤ 4
          omega
  rintro ys' ps ⟨calls, hps, hcl', hcq⟩ Dcl h18 tk18 F18 N18 off18
  clear F15 N15 lt15 Fh14
  dsimp only at F18 ⊢
  obtain ⟨rest, hrest⟩ : ∃ rest, rest = (Dcl, LCg.lst ys') :: (ps ++ [(Dc, W.listOf cv.toArray 0), (K, oK), (Du, lst uv c7), (Dn, lst nv 0)]) := ⟨_, rfl⟩
  have mCl : (Dcl, LCg.lst ys') ∈ rest := by rw [hrest]; exact .head _
  have mK : (K, oK) ∈ rest := by rw [hrest]; exact .tail _ (List.mem_append_right _ (.tail _ (.head _)))
  have mU : (Du, lst uv c7) ∈ rest := by rw [hrest]; exact .tail _ (List.mem_append_right _ (.tail _ (.tail _ (.head _))))
  have hcs : CallsIn rest ys' calls := hps.mono fun q hq => by rw [hrest]; exact .tail _ (List.mem_append_left _ hq)
  replace N18 : News g L h18 ((L + 1 + 1 + 1, oF) :: (L + 1 + 1, oR) :: (L + 1, oI) :: (Di, LCg.lst ys) :: (Df, W.listOf fv.toArray 0) :: rest) := fun p hp => N18 p (by
    rw [hrest] at hp
    exact sub_c (.tail _ (List.mem_append_right _ (.tail _ (.tail _ (.tail _ (.tail _ (.tail _ (.tail _ (.head _))))))))) (sub_c (.tail _ (List.mem_append_right _ (.tail _ (.tail _ (.tail _ (.tail _ (.tail _ (.tail _ (.tail _ (.head _)))))))))) (sub_c (.tail _ (List.mem_append_right _ (.tail _ (.tail _ (.tail _ (.tail _ (.tail _ (.tail _ (.tail _ (.tail _ (.head _))))))))))) (sub_c (.tail _ (List.mem_append_right _ (.tail _ (.tail _ (.tail _ (.tail _ (.head _))))))) (sub_c (.tail _ (List.mem_append_right _ (.tail _ (.head _)))) (sub_c (.head _) (sub_a (fun _ h => .tail _ (List.mem_append_left _ h)) (sub_c (.tail _ (List.mem_append_right _ (.head _))) (sub_c (.tail _ (List.mem_append_right _ (.tail _ (.tail _ (.head _))))) (sub_c (.tail _ (List.mem_append_right _ (.tail _ (.tail _ (.tail _ (.head _)))))) (sub_c (.tail _ (List.mem_append_right _ (.tail _ (.tail _ (.tail _ (.tail _ (.tail _ (.head _)))))))) (sub_n))))))))))) p hp)
  clear hps hrest off18
  (repeat' (first | (k_unfold; (try dsimp only)) | ((fail_if_success (with_reducible show wpAny _ _ (exec (Stmt.While _ _ _ _) _) _ _ _)); (fail_if_success (with_reducible show wpAny _ _ (exec (Stmt.For _ _ _ _ _) _) _ _ _)); (fail_if_success (with_reducible show wpAny _ _ (call (Value.ref _) _) _ _ _)); (fail_if_success (with_reducible show wpAny _ _ (compareOp _ (Value.ref _) (Value.ref _)) _ _ _)); (fail_if_success (with_reducible show wpAny _ _ (call (Value.type "dict") _) _ _ _)); (fail_if_success (with_reducible show wpAny _ _ (call (Value.type "zip") _) _ _ _)); (fail_if_success (with_reducible show wpAny _ _ (call (Value.type "set") _) _ _ _)); (fail_if_success (with_reducible show wpAny _ _ (call (Value.builtin "sorted") _) _ _ _)); (fail_if_success (with_reducible show wpAny _ _ (subscriptTail _ (Expr.Slice _ _ _ _) _ _) _ _ _)); (fail_if_success (with_reducible show wpAny _ _ (exec (Stmt.Assign _ (Expr.ListComp _ _ _ _) _) _) _ _ _)); (fail_if_success (with_reducible show wpAny _ _ (eval (Expr.ListComp _ _ _ _) _) _ _ _)); (first | walk1 | (dsimp only; walk1)); (try dsimp only)) | fail "no step"))
  refine LCg.ListComp_U (F₀ := F18) (by with_unfolding_all rfl) (by decide) (by rfl) (by decide) (by rfl) ?_
  have Fh18 := And.intro F18 N18
  (repeat' (first | (k_unfold; (try dsimp only)) | ((fail_if_success (with_reducible show wpAny _ _ (exec (Stmt.While _ _ _ _) _) _ _ _)); (fail_if_success (with_reducible show wpAny _ _ (exec (Stmt.For _ _ _ _ _) _) _ _ _)); (fail_if_success (with_reducible show wpAny _ _ (call (Value.ref _) _) _ _ _)); (fail_if_success (with_reducible show wpAny _ _ (compareOp _ (Value.ref _) (Value.ref _)) _ _ _)); (fail_if_success (with_reducible show wpAny _ _ (call (Value.type "dict") _) _ _ _)); (fail_if_success (with_reducible show wpAny _ _ (call (Value.type "zip") _) _ _ _)); (fail_if_success (with_reducible show wpAny _ _ (call (Value.type "set") _) _ _ _)); (fail_if_success (with_reducible show wpAny _ _ (call (Value.builtin "sorted") _) _ _ _)); (fail_if_success (with_reducible show wpAny _ _ (subscriptTail _ (Expr.Slice _ _ _ _) _ _) _ _ _)); (fail_if_success (with_reducible show wpAny _ _ (exec (Stmt.Assign _ (Expr.ListComp _ _ _ _) _) _) _ _ _)); (fail_if_success (with_reducible show wpAny _ _ (eval (Expr.ListComp _ _ _ _) _) _ _ _)); (first | walk1 | (dsimp only; walk1)); (try dsimp only)) | fail "no step"))
  rename_i h19 tk19 t19 u19 v19 hr19 F19 N19 k19
  have hml0 : (nums.map itemOf).length = nums.length := List.length_map _
  have h0m : (nums.map itemOf).getD (Int.toNat 0) 0 ∈ nums.map itemOf := root_mem (fun e => by have := congrArg List.length e; simp at this; simp [this] at hnl)
  refine LCg.CompSrc.range (n := (nums.map itemOf).length) hh F19 N19 hr19 (small_ten hyl) (rangeSize_nat _ _) (by rw [sizeLine_eq]; exact Nat.le_trans hyl (by decide)) fun g19 => ?_
  refine comp_inv2 (fun ps => (L + 1 + 1 + 1, oF) :: (L + 1 + 1, oR) :: (L + 1, oI) :: (Di, LCg.lst ys) :: (Df, W.listOf fv.toArray 0) :: (ps ++ rest)) (fun i zs ps => ∃ calls, CallsIn ps zs calls ∧ calls.length = i ∧ ∀ q ∈ calls, 0 ≤ q.1 ∧ q.1 ≤ 4 ∧ q.2 ∈ nums.map itemOf) [] ⟨[], .nil, rfl, by simp⟩ ?_ ?_
  · intro i v zs ps I oI' C oC D m₂ h tk QT hQT hi hv hInv hC hx F N off ne
    obtain ⟨calls2, hps, hcl2, hcq2⟩ := hInv
    have Fh := And.intro F N
    (repeat' (first | (k_unfold; (try dsimp only)) | ((fail_if_success (with_reducible show wpAny _ _ (exec (Stmt.While _ _ _ _) _) _ _ _)); (fail_if_success (with_reducible show wpAny _ _ (exec (Stmt.For _ _ _ _ _) _) _ _ _)); (fail_if_success (with_reducible show wpAny _ _ (call (Value.ref _) _) _ _ _)); (fail_if_success (with_reducible show wpAny _ _ (compareOp _ (Value.ref _) (Value.ref _)) _ _ _)); (fail_if_success (with_reducible show wpAny _ _ (call (Value.type "dict") _) _ _ _)); (fail_if_success (with_reducible show wpAny _ _ (call (Value.type "zip") _) _ _ _)); (fail_if_success (with_reducible show wpAny _ _ (call (Value.type "set") _) _ _ _)); (fail_if_success (with_reducible show wpAny _ _ (call (Value.builtin "sorted") _) _ _ _)); (fail_if_success (with_reducible show wpAny _ _ (subscriptTail _ (Expr.Slice _ _ _ _) _ _) _ _ _)); (fail_if_success (with_reducible show wpAny _ _ (exec (Stmt.Assign _ (Expr.ListComp _ _ _ _) _) _) _ _ _)); (fail_if_success (with_reducible show wpAny _ _ (eval (Expr.ListComp _ _ _ _) _) _ _ _)); (first | walk1 | (dsimp only; walk1)); (try dsimp only)) | fail "no step"))
    rename_i t20 Dp h20 F20 N20 l20
    refine hQT (_ :: ps) _ _ _ _ F20 N20 (sub_cons sub_five) ⟨off.1, off.2.1, off.2.2.1, off.2.2.2.1, off.2.2.2.2.1, ⟨Nat.ne_of_gt l20.1, Nat.ne_of_gt l20.2.1, Nat.ne_of_gt l20.2.2.1⟩, off.2.2.2.2.2⟩ trivial
      ⟨calls2 ++ [(2, (nums.map itemOf).getD (Int.toNat 0) 0)], hps.push (fun q hq => .tail _ hq) (.head _) rfl rfl, by simp [hcl2], fun q hq => ?_⟩
    rcases List.mem_append.mp hq with hq | hq
    · exact hcq2 q hq
    · rw [List.mem_singleton.mp hq]
      exact ⟨(by decide : (0 : Int) ≤ 2), (by decide : (2 : Int) ≤ 4), h0m⟩
  rintro zs ps ⟨calls2, hps, hcl2, hcq2⟩ De1 h21 tk21 F21 N21 off21
  clear F19 N19 k19 hr19 Fh18
  dsimp only
  refine ListComp_tup (F₀ := F21) (by with_unfolding_all rfl) (by decide) (by rfl) (by decide) (by rfl) ?_
  have Fh21 := And.intro F21 N21
  (repeat' (first | (k_unfold; (try dsimp only)) | ((fail_if_success (with_reducible show wpAny _ _ (exec (Stmt.While _ _ _ _) _) _ _ _)); (fail_if_success (with_reducible show wpAny _ _ (exec (Stmt.For _ _ _ _ _) _) _ _ _)); (fail_if_success (with_reducible show wpAny _ _ (call (Value.ref _) _) _ _ _)); (fail_if_success (with_reducible show wpAny _ _ (compareOp _ (Value.ref _) (Value.ref _)) _ _ _)); (fail_if_success (with_reducible show wpAny _ _ (call (Value.type "dict") _) _ _ _)); (fail_if_success (with_reducible show wpAny _ _ (call (Value.type "zip") _) _ _ _)); (fail_if_success (with_reducible show wpAny _ _ (call (Value.type "set") _) _ _ _)); (fail_if_success (with_reducible show wpAny _ _ (call (Value.builtin "sorted") _) _ _ _)); (fail_if_success (with_reducible show wpAny _ _ (subscriptTail _ (Expr.Slice _ _ _ _) _ _) _ _ _)); (fail_if_success (with_reducible show wpAny _ _ (exec (Stmt.Assign _ (Expr.ListComp _ _ _ _) _) _) _ _ _)); (fail_if_success (with_reducible show wpAny _ _ (eval (Expr.ListComp _ _ _ _) _) _ _ _)); (first | walk1 | (dsimp only; walk1)); (try dsimp only)) | fail "no step"))
  rename_i Dt h22 F22 N22 l22
  refine ⟨_, _, _, _, _, rfl, hh, F22, N22, .head _, rfl, rfl, (by rw [sizeLine_eq]; show 3 ≤ _; decide), ?_⟩
  rintro s₂ ⟨h22', rfl⟩
  refine comp_inv2 (fun qs => (Dt, { cls := .type "tuple", data := .seq #[.int 2 tk21, .int 4 (tk21 + 1), .int 3 (tk21 + 1 + 1)] }) :: (De1, LCg.lst zs) :: (L + 1 + 1 + 1, oF) :: (L + 1 + 1, oR) :: (L + 1, oI) :: (Di, LCg.lst ys) :: (Df, W.listOf fv.toArray 0) :: (qs ++ (ps ++ rest))) (fun i zs2 qs => ∃ calls, CallsIn qs zs2 calls ∧ calls.length = i ∧ ∀ q ∈ calls, 0 ≤ q.1 ∧ q.1 ≤ 4 ∧ q.2 ∈ nums.map itemOf) [] ⟨[], .nil, rfl, by simp⟩ ?_ ?_
  · intro i v zs2 qs I oI' C oC D m₂ h tk QT hQT hi hv hInv hC hx F N off ne
    obtain ⟨calls3, hqs, hcl3, hcq3⟩ := hInv
    obtain ⟨kk, tk', rfl, hk0, hk4⟩ := three_ks hv
    have Fh := And.intro F N
    (repeat' (first | (k_unfold; (try dsimp only)) | ((fail_if_success (with_reducible show wpAny _ _ (exec (Stmt.While _ _ _ _) _) _ _ _)); (fail_if_success (with_reducible show wpAny _ _ (exec (Stmt.For _ _ _ _ _) _) _ _ _)); (fail_if_success (with_reducible show wpAny _ _ (call (Value.ref _) _) _ _ _)); (fail_if_success (with_reducible show wpAny _ _ (compareOp _ (Value.ref _) (Value.ref _)) _ _ _)); (fail_if_success (with_reducible show wpAny _ _ (call (Value.type "dict") _) _ _ _)); (fail_if_success (with_reducible show wpAny _ _ (call (Value.type "zip") _) _ _ _)); (fail_if_success (with_reducible show wpAny _ _ (call (Value.type "set") _) _ _ _)); (fail_if_success (with_reducible show wpAny _ _ (call (Value.builtin "sorted") _) _ _ _)); (fail_if_success (with_reducible show wpAny _ _ (subscriptTail _ (Expr.Slice _ _ _ _) _ _) _ _ _)); (fail_if_success (with_reducible show wpAny _ _ (exec (Stmt.Assign _ (Expr.ListComp _ _ _ _) _) _) _ _ _)); (fail_if_success (with_reducible show wpAny _ _ (eval (Expr.ListComp _ _ _ _) _) _ _ _)); (first | walk1 | (dsimp only; walk1)); (try dsimp only)) | fail "no step"))
    rename_i t23 Dp h23 F23 N23 l23
    refine hQT (_ :: qs) _ _ _ _ F23 N23 (sub_cons sub_seven) ⟨off.1, off.2.1, off.2.2.1, off.2.2.2.1, off.2.2.2.2.1, off.2.2.2.2.2.1, off.2.2.2.2.2.2.1, ⟨Nat.ne_of_gt l23.1, Nat.ne_of_gt l23.2.1, Nat.ne_of_gt l23.2.2.1⟩, off.2.2.2.2.2.2.2⟩ (.head _)
      ⟨calls3 ++ [(kk, (nums.map itemOf).getD (Int.toNat 0) 0)], hqs.push (fun q hq => .tail _ hq) (.head _) rfl rfl, by simp [hcl3], fun q hq => ?_⟩
    rcases List.mem_append.mp hq with hq | hq
    · exact hcq3 q hq
    · rw [List.mem_singleton.mp hq]
      exact ⟨hk0, hk4, h0m⟩
  rintro zs2 qs ⟨calls3, hqs, hcl3, hcq3⟩ De2 h24 tk24 F24 N24 off24
  clear F22 N22 l22 Fh21
  dsimp only
  have hzl : zs.length = (nums.map itemOf).length := by rw [hps.len, hcl2]
  have hzl2 : zs2.length = 3 := by rw [hqs.len, hcl3]; rfl
  refine kmk_add_lit (s := { s with heap := h24, toks := tk24, drawn := dr }) F24 N24 (its := zs.toArray) (its2 := zs2.toArray) ⟨_, (N24 _ (.tail _ (.tail _ (.head _)))).1, rfl, _, rfl⟩ ⟨_, (N24 _ (.head _)).1, rfl, _, rfl⟩ rfl ?_ (sz_two hzl (Nat.le_trans hyl (by decide)) hzl2 (by decide))
  intro De h25 F25 N25 lt25
  obtain ⟨rest2, hrest2⟩ : ∃ rest2, rest2 = (De, W.listOf (zs ++ zs2).toArray 0) :: (qs ++ (ps ++ rest)) := ⟨_, rfl⟩
  have inR : ∀ q ∈ rest, q ∈ rest2 := fun q hq => by rw [hrest2]; exact .tail _ (List.mem_append_right _ (List.mem_append_right _ hq))
  have mE2 : (De, W.listOf (zs ++ zs2).toArray 0) ∈ rest2 := by rw [hrest2]; exact .head _
  have hes : CallsIn rest2 (zs ++ zs2) (calls2 ++ calls3) := (hps.mono fun q hq => by rw [hrest2]; exact .tail _ (List.mem_append_right _ (List.mem_append_left _ hq))).append (hqs.mono fun q hq => by rw [hrest2]; exact .tail _ (List.mem_append_left _ hq))
  replace hcs := hcs.mono inR
  replace mCl := inR _ mCl
  replace mK := inR _ mK
  replace mU := inR _ mU
  have hecq : ∀ q ∈ calls2 ++ calls3, 0 ≤ q.1 ∧ q.1 ≤ 4 ∧ q.2 ∈ nums.map itemOf := fun q hq => (List.mem_append.mp hq).elim (hcq2 q) (hcq3 q)
  have hecl : (calls2 ++ calls3).length ≤ 13 := by rw [List.length_append, hcl2, hcl3]; exact Nat.add_le_add hyl (Nat.le_refl 3)
  replace N25 : News g L h25 ((L + 1 + 1 + 1, oF) :: (L + 1 + 1, oR) :: (L + 1, oI) :: (Df, W.listOf fv.toArray 0) :: rest2) := fun p hp => N25 p (by
    rw [hrest2] at hp
    exact sub_c (.tail _ (.tail _ (.tail _ (.tail _ (.head _))))) (sub_c (.tail _ (.tail _ (.tail _ (.tail _ (.tail _ (.head _)))))) (sub_c (.tail _ (.tail _ (.tail _ (.tail _ (.tail _ (.tail _ (.head _))))))) (sub_c (.tail _ (.tail _ (.tail _ (.tail _ (.tail _ (.tail _ (.tail _ (.tail _ (.head _))))))))) (sub_c (.head _) (fun _ h => .tail _ (.tail _ (.tail _ (.tail _ (.tail _ (.tail _ (.tail _ (.tail _ (.tail _ (h)))))))))))))) p hp)
  clear F24 N24 off24 lt25 hps hqs hcl2 hcq2 hcl3 hcq3 inR hrest2
  generalize zs ++ zs2 = ev at *
  generalize calls2 ++ calls3 = ecalls at *
  dsimp only
  (repeat' (first | (k_unfold; (try dsimp only)) | ((fail_if_success (with_reducible show wpAny _ _ (exec (Stmt.While _ _ _ _) _) _ _ _)); (fail_if_success (with_reducible show wpAny _ _ (exec (Stmt.For _ _ _ _ _) _) _ _ _)); (fail_if_success (with_reducible show wpAny _ _ (call (Value.ref _) _) _ _ _)); (fail_if_success (with_reducible show wpAny _ _ (compareOp _ (Value.ref _) (Value.ref _)) _ _ _)); (fail_if_success (with_reducible show wpAny _ _ (call (Value.type "dict") _) _ _ _)); (fail_if_success (with_reducible show wpAny _ _ (call (Value.type "zip") _) _ _ _)); (fail_if_success (with_reducible show wpAny _ _ (call (Value.type "set") _) _ _ _)); (fail_if_success (with_reducible show wpAny _ _ (call (Value.builtin "sorted") _) _ _ _)); (fail_if_success (with_reducible show wpAny _ _ (subscriptTail _ (Expr.Slice _ _ _ _) _ _) _ _ _)); (fail_if_success (with_reducible show wpAny _ _ (exec (Stmt.Assign _ (Expr.ListComp _ _ _ _) _) _) _ _ _)); (fail_if_success (with_reducible show wpAny _ _ (eval (Expr.ListComp _ _ _ _) _) _ _ _)); (first | walk1 | (dsimp only; walk1)); (try dsimp only)) | fail "no step"))
  rename_i _ D1 c1 h27 F27 N27 l27
  have hfvn : fv.length = fn.length := hfi.length
  have hfu : ∀ a ∈ fn, a ∈ un := fun a ha => (humem a).mpr (hfm a ha)
  have hfl10 : fn.length ≤ 10 := by rw [← hfvn]; exact Nat.le_trans hfl hyv
  refine LCg.ListComp_U (F₀ := F27) (by with_unfolding_all rfl) (by decide) (by rfl) (by decide) (by rfl) ?_
  have Fh27 := And.intro F27 N27
  (repeat' (first | (k_unfold; (try dsimp only)) | ((fail_if_success (with_reducible show wpAny _ _ (exec (Stmt.While _ _ _ _) _) _ _ _)); (fail_if_success (with_reducible show wpAny _ _ (exec (Stmt.For _ _ _ _ _) _) _ _ _)); (fail_if_success (with_reducible show wpAny _ _ (call (Value.ref _) _) _ _ _)); (fail_if_success (with_reducible show wpAny _ _ (compareOp _ (Value.ref _) (Value.ref _)) _ _ _)); (fail_if_success (with_reducible show wpAny _ _ (call (Value.type "dict") _) _ _ _)); (fail_if_success (with_reducible show wpAny _ _ (call (Value.type "zip") _) _ _ _)); (fail_if_success (with_reducible show wpAny _ _ (call (Value.type "set") _) _ _ _)); (fail_if_success (with_reducible show wpAny _ _ (call (Value.builtin "sorted") _) _ _ _)); (fail_if_success (with_reducible show wpAny _ _ (subscriptTail _ (Expr.Slice _ _ _ _) _ _) _ _ _)); (fail_if_success (with_reducible show wpAny _ _ (exec (Stmt.Assign _ (Expr.ListComp _ _ _ _) _) _) _ _ _)); (fail_if_success (with_reducible show wpAny _ _ (eval (Expr.ListComp _ _ _ _) _) _ _ _)); (first | walk1 | (dsimp only; walk1)); (try dsimp only)) | fail "no step"))
  refine LCg.CompSrc.ledger hh Fh27.1 Fh27.2 (.tail _ (.tail _ (.tail _ (.tail _ (.head _))))) (sz_le (Nat.le_trans hfl (Nat.le_trans hyv (by decide)))) fun g28 => ?_
  refine comp_inv2 (fun _ : Unit => (D1, W.listOf fv.toArray c1) :: (L + 1 + 1 + 1, oF) :: (L + 1 + 1, oR) :: (L + 1, oI) :: (Df, W.listOf fv.toArray 0) :: rest2) (fun i zs _ => IntsAre zs ((fn.map (rankOf un)).take i)) () (by simpa using .nil) ?_ ?_
  · intro i v zs aU I oI' C oC D m₂ h tk QT hQT hi hv hz hC hx F N off ne
    have hi' : i < fn.length := by rw [← hfvn]; simpa using hi
    obtain ⟨ti, rfl⟩ := ints_at hfi (by simpa using hv) hi'
    have Fh := And.intro F N
    (repeat' (first | (k_unfold; (try dsimp only)) | ((fail_if_success (with_reducible show wpAny _ _ (exec (Stmt.While _ _ _ _) _) _ _ _)); (fail_if_success (with_reducible show wpAny _ _ (exec (Stmt.For _ _ _ _ _) _) _ _ _)); (fail_if_success (with_reducible show wpAny _ _ (call (Value.ref _) _) _ _ _)); (fail_if_success (with_reducible show wpAny _ _ (compareOp _ (Value.ref _) (Value.ref _)) _ _ _)); (fail_if_success (with_reducible show wpAny _ _ (call (Value.type "dict") _) _ _ _)); (fail_if_success (with_reducible show wpAny _ _ (call (Value.type "zip") _) _ _ _)); (fail_if_success (with_reducible show wpAny _ _ (call (Value.type "set") _) _ _ _)); (fail_if_success (with_reducible show wpAny _ _ (call (Value.builtin "sorted") _) _ _ _)); (fail_if_success (with_reducible show wpAny _ _ (subscriptTail _ (Expr.Slice _ _ _ _) _ _) _ _ _)); (fail_if_success (with_reducible show wpAny _ _ (exec (Stmt.Assign _ (Expr.ListComp _ _ _ _) _) _) _ _ _)); (fail_if_success (with_reducible show wpAny _ _ (eval (Expr.ListComp _ _ _ _) _) _ _ _)); (first | walk1 | (dsimp only; walk1)); (try dsimp only)) | fail "no step"))
    obtain ⟨F, N⟩ := Fh
    obtain ⟨tr, hvr⟩ := rk_value hK11 hund _ (rank_mem (hfu _ (List.getElem_mem hi')))
    refine my_item (kvs := kvs) ⟨oK, esK, epK, (N (K, oK) (.tail _ (.tail _ (.tail _ (.tail _ (.tail _ (.tail _ (.tail _ (.tail _ mK))))))))).1, hrK⟩ hvr ?_ (by with_unfolding_all rfl) (by intro _; with_unfolding_all rfl)
    refine hQT aU _ _ _ _ F N (fun _ hp => hp) off (.inr ⟨_, .tail _ (.tail _ (.tail _ (.tail _ (.head _)))), rfl, _, rfl⟩) ?_
    have hil : i < (fn.map (rankOf un)).length := by rw [List.length_map]; exact hi'
    rw [List.take_add_one, List.getElem?_eq_getElem hil, List.getElem_map]
    exact IntsAre.snoc hz _ _
  intro rv aU2 hrv D2 h29 tk29 F29 N29 off29
  rw [show (fn.map (rankOf un)).take fv.toArray.size = fn.map (rankOf un) from by rw [show fv.toArray.size = (fn.map (rankOf un)).length from by simpa using hfvn]; exact List.take_length] at hrv
  clear Fh27 F27 N27
  dsimp only
  (repeat' (first | (k_unfold; (try dsimp only)) | ((fail_if_success (with_reducible show wpAny _ _ (exec (Stmt.While _ _ _ _) _) _ _ _)); (fail_if_success (with_reducible show wpAny _ _ (exec (Stmt.For _ _ _ _ _) _) _ _ _)); (fail_if_success (with_reducible show wpAny _ _ (call (Value.ref _) _) _ _ _)); (fail_if_success (with_reducible show wpAny _ _ (compareOp _ (Value.ref _) (Value.ref _)) _ _ _)); (fail_if_success (with_reducible show wpAny _ _ (call (Value.type "dict") _) _ _ _)); (fail_if_success (with_reducible show wpAny _ _ (call (Value.type "zip") _) _ _ _)); (fail_if_success (with_reducible show wpAny _ _ (call (Value.type "set") _) _ _ _)); (fail_if_success (with_reducible show wpAny _ _ (call (Value.builtin "sorted") _) _ _ _)); (fail_if_success (with_reducible show wpAny _ _ (subscriptTail _ (Expr.Slice _ _ _ _) _ _) _ _ _)); (fail_if_success (with_reducible show wpAny _ _ (exec (Stmt.Assign _ (Expr.ListComp _ _ _ _) _) _) _ _ _)); (fail_if_success (with_reducible show wpAny _ _ (eval (Expr.ListComp _ _ _ _) _) _ _ _)); (first | walk1 | (dsimp only; walk1)); (try dsimp only)) | fail "no step"))
  refine LCg.ListComp_U (F₀ := F29) (by with_unfolding_all rfl) (by decide) (by rfl) (by decide) (by rfl) ?_
  have Fh29 := And.intro F29 N29
  (repeat' (first | (k_unfold; (try dsimp only)) | ((fail_if_success (with_reducible show wpAny _ _ (exec (Stmt.While _ _ _ _) _) _ _ _)); (fail_if_success (with_reducible show wpAny _ _ (exec (Stmt.For _ _ _ _ _) _) _ _ _)); (fail_if_success (with_reducible show wpAny _ _ (call (Value.ref _) _) _ _ _)); (fail_if_success (with_reducible show wpAny _ _ (compareOp _ (Value.ref _) (Value.ref _)) _ _ _)); (fail_if_success (with_reducible show wpAny _ _ (call (Value.type "dict") _) _ _ _)); (fail_if_success (with_reducible show wpAny _ _ (call (Value.type "zip") _) _ _ _)); (fail_if_success (with_reducible show wpAny _ _ (call (Value.type "set") _) _ _ _)); (fail_if_success (with_reducible show wpAny _ _ (call (Value.builtin "sorted") _) _ _ _)); (fail_if_success (with_reducible show wpAny _ _ (subscriptTail _ (Expr.Slice _ _ _ _) _ _) _ _ _)); (fail_if_success (with_reducible show wpAny _ _ (exec (Stmt.Assign _ (Expr.ListComp _ _ _ _) _) _) _ _ _)); (fail_if_success (with_reducible show wpAny _ _ (eval (Expr.ListComp _ _ _ _) _) _ _ _)); (first | walk1 | (dsimp only; walk1)); (try dsimp only)) | fail "no step"))
  refine LCg.CompSrc.ledger hh Fh29.1 Fh29.2 (.tail _ (.tail _ (.tail _ (.tail _ (.tail _ (.head _)))))) (sz_le (Nat.le_trans hfl (Nat.le_trans hyv (by decide)))) fun g30 => ?_
  refine comp_inv2 (fun ps => (D2, LCg.lst rv) :: (D1, W.listOf fv.toArray c1) :: (L + 1 + 1 + 1, oF) :: (L + 1 + 1, oR) :: (L + 1, oI) :: (Df, W.listOf fv.toArray 0) :: (ps ++ rest2)) (fun i zs ps => (∀ p ∈ ps, p.2.cls = .type "tuple") ∧ Are (repL ps) zs ((fn.map (rankOf un)).take i)) [] ⟨fun _ hp => (nomatch hp), by simpa using Are.nil⟩ ?_ ?_
  · intro i v zs ps I oI' C oC D m₂ h tk QT hQT hi hv hInv hC hx F N off ne
    have hpt := hInv.1
    have hz := hInv.2
    have hi' : i < fn.length := by rw [← hfvn]; simpa using hi
    obtain ⟨ti, rfl⟩ := ints_at hfi (by simpa using hv) hi'
    have Fh := And.intro F N
    (repeat' (first | (k_unfold; (try dsimp only)) | ((fail_if_success (with_reducible show wpAny _ _ (exec (Stmt.While _ _ _ _) _) _ _ _)); (fail_if_success (with_reducible show wpAny _ _ (exec (Stmt.For _ _ _ _ _) _) _ _ _)); (fail_if_success (with_reducible show wpAny _ _ (call (Value.ref _) _) _ _ _)); (fail_if_success (with_reducible show wpAny _ _ (compareOp _ (Value.ref _) (Value.ref _)) _ _ _)); (fail_if_success (with_reducible show wpAny _ _ (call (Value.type "dict") _) _ _ _)); (fail_if_success (with_reducible show wpAny _ _ (call (Value.type "zip") _) _ _ _)); (fail_if_success (with_reducible show wpAny _ _ (call (Value.type "set") _) _ _ _)); (fail_if_success (with_reducible show wpAny _ _ (call (Value.builtin "sorted") _) _ _ _)); (fail_if_success (with_reducible show wpAny _ _ (subscriptTail _ (Expr.Slice _ _ _ _) _ _) _ _ _)); (fail_if_success (with_reducible show wpAny _ _ (exec (Stmt.Assign _ (Expr.ListComp _ _ _ _) _) _) _ _ _)); (fail_if_success (with_reducible show wpAny _ _ (eval (Expr.ListComp _ _ _ _) _) _ _ _)); (first | walk1 | (dsimp only; walk1)); (try dsimp only)) | fail "no step"))
    obtain ⟨tr, hvr⟩ := rk_value hK11 hund _ (rank_mem (hfu _ (List.getElem_mem hi')))
    refine my_item (kvs := kvs) ⟨oK, esK, epK, (Fh.2 (K, oK) (.tail _ (.tail _ (.tail _ (.tail _ (.tail _ (.tail _ (.tail _ (.tail _ (.tail _ (List.mem_append_right _ mK))))))))))).1, hrK⟩ hvr ?_ (by with_unfolding_all rfl) (by intro _; with_unfolding_all rfl)
    dsimp only
    (repeat' (first | (k_unfold; (try dsimp only)) | ((fail_if_success (with_reducible show wpAny _ _ (exec (Stmt.While _ _ _ _) _) _ _ _)); (fail_if_success (with_reducible show wpAny _ _ (exec (Stmt.For _ _ _ _ _) _) _ _ _)); (fail_if_success (with_reducible show wpAny _ _ (call (Value.ref _) _) _ _ _)); (fail_if_success (with_reducible show wpAny _ _ (compareOp _ (Value.ref _) (Value.ref _)) _ _ _)); (fail_if_success (with_reducible show wpAny _ _ (call (Value.type "dict") _) _ _ _)); (fail_if_success (with_reducible show wpAny _ _ (call (Value.type "zip") _) _ _ _)); (fail_if_success (with_reducible show wpAny _ _ (call (Value.type "set") _) _ _ _)); (fail_if_success (with_reducible show wpAny _ _ (call (Value.builtin "sorted") _) _ _ _)); (fail_if_success (with_reducible show wpAny _ _ (subscriptTail _ (Expr.Slice _ _ _ _) _ _) _ _ _)); (fail_if_success (with_reducible show wpAny _ _ (exec (Stmt.Assign _ (Expr.ListComp _ _ _ _) _) _) _ _ _)); (fail_if_success (with_reducible show wpAny _ _ (eval (Expr.ListComp _ _ _ _) _) _ _ _)); (first | walk1 | (dsimp only; walk1)); (try dsimp only)) | fail "no step"))
    obtain ⟨F, N⟩ := Fh
    refine wpAny_call (law_pair_ok G₁ F.keep (hroom.call (by decide)) fun s' p hch hp0 hpp => ?_)
    obtain ⟨h31, tk31, rfl, hk31⟩ := hch
    have up : ∀ b o, h.get? b = some o → h31.get? b = some o := fun b o e => hk31 b o (by simp) e
    obtain ⟨op, np, tp, up', ep, cp, dp⟩ := hpp
    have neq : ∀ q ∈ (I, oI') :: (C, oC) :: (D, LCg.lst zs) :: _, q.1 ≠ p := fun q hq e => by
      have := (N q hq).1; rw [e] at this; rw [hp0] at this; cases this
    have hpL : p ≠ L := fun e => by
      obtain ⟨o, _, _, eL, _⟩ := F.ns
      rw [← e, hp0] at eL; cases eL
    have hpg : g.get? p = none := by
      cases q : g.get? p with
      | none => rfl
      | some o => have := F.keep p o q; rw [hp0] at this; cases this
    refine hQT ((p, op) :: ps) _ _ _ ((p, op) :: (I, oI') :: (C, oC) :: (D, LCg.lst zs) :: _) (F.keeps up) (fun q hq => ?_) (sub_cons sub_six) ⟨off.1, off.2.1, off.2.2.1, off.2.2.2.1, off.2.2.2.2.1, off.2.2.2.2.2.1, ⟨Ne.symm (neq (I, oI') (.head _)), Ne.symm (neq (C, oC) (.tail _ (.head _))), Ne.symm (neq (D, LCg.lst zs) (.tail _ (.tail _ (.head _))))⟩, off.2.2.2.2.2.2⟩ (.inr ⟨_, .tail _ (.tail _ (.tail _ (.tail _ (.tail _ (.head _))))), rfl, _, rfl⟩)
      ⟨fun q hq => (List.mem_cons.mp hq).elim (fun e => by rw [e]; exact cp) (hpt q), (hz.mono fun v r q => q.more fun x hx => .tail _ hx).take_push (by rw [List.length_map]; exact hi') (by rw [List.getElem_map]; exact ⟨p, op, np, tp, up', rfl, .head _, cp, dp⟩)⟩
    rcases List.mem_cons.mp hq with rfl | hq
    · exact ⟨ep, hpL, hpg⟩
    · exact N.grown up q hq
  rintro pv pps ⟨hppt, hpv⟩ D3 h32 tk32 F32 N32 off32
  rw [show (fn.map (rankOf un)).take fv.toArray.size = fn.map (rankOf un) from by rw [show fv.toArray.size = (fn.map (rankOf un)).length from by simpa using hfvn]; exact List.take_length] at hpv
  clear Fh29 F29 N29
  dsimp only
  have Fh32 := And.intro F32 N32
  (repeat' (first | (k_unfold; (try dsimp only)) | ((fail_if_success (with_reducible show wpAny _ _ (exec (Stmt.While _ _ _ _) _) _ _ _)); (fail_if_success (with_reducible show wpAny _ _ (exec (Stmt.For _ _ _ _ _) _) _ _ _)); (fail_if_success (with_reducible show wpAny _ _ (call (Value.ref _) _) _ _ _)); (fail_if_success (with_reducible show wpAny _ _ (compareOp _ (Value.ref _) (Value.ref _)) _ _ _)); (fail_if_success (with_reducible show wpAny _ _ (call (Value.type "dict") _) _ _ _)); (fail_if_success (with_reducible show wpAny _ _ (call (Value.type "zip") _) _ _ _)); (fail_if_success (with_reducible show wpAny _ _ (call (Value.type "set") _) _ _ _)); (fail_if_success (with_reducible show wpAny _ _ (call (Value.builtin "sorted") _) _ _ _)); (fail_if_success (with_reducible show wpAny _ _ (subscriptTail _ (Expr.Slice _ _ _ _) _ _) _ _ _)); (fail_if_success (with_reducible show wpAny _ _ (exec (Stmt.Assign _ (Expr.ListComp _ _ _ _) _) _) _ _ _)); (fail_if_success (with_reducible show wpAny _ _ (eval (Expr.ListComp _ _ _ _) _) _ _ _)); (first | walk1 | (dsimp only; walk1)); (try dsimp only)) | fail "no step"))
  rename_i _ _ H _ lH h33 F33 N33
  have e12 : @Ne Nat D1 D2 := off29.1
  have e13 : @Ne Nat D1 D3 := off32.2.1
  have e23 : @Ne Nat D2 D3 := off32.1
  have offR : ∀ p ∈ pps ++ rest2, p.1 ≠ D1 ∧ p.1 ≠ D2 ∧ p.1 ≠ D3 := fun p hp => by
    have h3 := off1_mem off32 p (.tail _ (.tail _ (.tail _ (.tail _ (.tail _ (.tail _ hp))))))
    rcases List.mem_append.mp hp with hq | hq
    · have hc := hppt p hq
      have hN := (Fh32.2 p (.tail _ (.tail _ (.tail _ (.tail _ (.tail _ (.tail _ (.tail _ hp)))))))).1
      refine ⟨fun e => ?_, fun e => ?_, h3⟩
      · have := (Fh32.2 (D1, W.listOf fv.toArray c1) (.tail _ (.tail _ (.head _)))).1
        rw [e] at hN; rw [hN] at this; have z : p.2.cls = Value.type "list" := by rw [Option.some.inj this]
        rw [hc] at z; injection z with z; exact absurd z (by decide)
      · have := (Fh32.2 (D2, LCg.lst rv) (.tail _ (.head _))).1
        rw [e] at hN; rw [hN] at this; have z : p.2.cls = Value.type "list" := by rw [Option.some.inj this]
        rw [hc] at z; injection z with z; exact absurd z (by decide)
    · exact ⟨allLt_ne l27.2.2.2.2 p hq, off1_mem off29 p (.tail _ (.tail _ (.tail _ (.tail _ (.tail _ hq))))), h3⟩
  have offT : ∀ p ∈ (H, W.listOf #[Value.ref D1, Value.ref D2, Value.ref D3] 0) :: (L + 1 + 1 + 1, oF) :: (L + 1 + 1, oR) :: (L + 1, oI) :: (Df, W.listOf fv.toArray 0) :: (pps ++ rest2), p.1 ≠ D1 ∧ p.1 ≠ D2 ∧ p.1 ≠ D3 := fun p hp => by
    rcases List.mem_cons.mp hp with rfl | hp
    · exact ⟨Nat.ne_of_gt lH.2.2.1, Nat.ne_of_gt lH.2.1, Nat.ne_of_gt lH.1⟩
    rcases List.mem_cons.mp hp with rfl | hp
    · exact ⟨Nat.ne_of_lt l27.1, off29.2.1, off32.2.2.1⟩
    rcases List.mem_cons.mp hp with rfl | hp
    · exact ⟨Nat.ne_of_lt l27.2.1, off29.2.2.1, off32.2.2.2.1⟩
    rcases List.mem_cons.mp hp with rfl | hp
    · exact ⟨Nat.ne_of_lt l27.2.2.1, off29.2.2.2.1, off32.2.2.2.2.1⟩
    rcases List.mem_cons.mp hp with rfl | hp
    · exact ⟨Nat.ne_of_lt l27.2.2.2.1, off29.2.2.2.2.1, off32.2.2.2.2.2.1⟩
    exact offR p hp
  obtain ⟨rest3, hrest3⟩ : ∃ rest3, rest3 = pps ++ rest2 := ⟨_, rfl⟩
  rw [← hrest3] at offT offR
  have N33' : News g L h33 ((D1, lst fv c1) :: (D2, lst rv rv.length) :: (D3, lst pv pv.length) :: (H, lst [Value.ref D1, Value.ref D2, Value.ref D3] 0) :: (L + 1 + 1 + 1, oF) :: (L + 1 + 1, oR) :: (L + 1, oI) :: (Df, W.listOf fv.toArray 0) :: rest3) := fun p hp => N33 p (by
    rw [hrest3] at hp
    exact sub_c (.tail _ (.tail _ (.tail _ (.head _)))) (sub_c (.tail _ (.tail _ (.head _))) (sub_c (.tail _ (.head _)) (sub_c (.head _) (sub_c (.tail _ (.tail _ (.tail _ (.tail _ (.head _))))) (sub_c (.tail _ (.tail _ (.tail _ (.tail _ (.tail _ (.head _)))))) (sub_c (.tail _ (.tail _ (.tail _ (.tail _ (.tail _ (.tail _ (.head _))))))) (sub_c (.tail _ (.tail _ (.tail _ (.tail _ (.tail _ (.tail _ (.tail _ (.head _)))))))) (fun _ h => .tail _ (.tail _ (.tail _ (.tail _ (.tail _ (.tail _ (.tail _ (.tail _ (h)))))))))))))))) p hp)
  have inR3 : ∀ q ∈ rest2, q ∈ rest3 := fun q hq => by rw [hrest3]; exact List.mem_append_right _ hq
  replace hcs := hcs.mono inR3
  replace hes := hes.mono inR3
  replace mCl := inR3 _ mCl
  replace mK := inR3 _ mK
  replace mU := inR3 _ mU
  replace mE2 := inR3 _ mE2
  have hpvL : Are (repL rest3) pv (fn.map (rankOf un)) := hpv.mono fun v r q => q.more fun x hx => by rw [hrest3]; exact List.mem_append_left _ hx
  clear N33 Fh32 off29 off32 l27 lH hppt hpv hrest3 inR3
  obtain ⟨tl, htl⟩ : ∃ tl, tl = (H, lst [Value.ref D1, Value.ref D2, Value.ref D3] 0) :: (L + 1 + 1 + 1, oF) :: (L + 1 + 1, oR) :: (L + 1, oI) :: (Df, W.listOf fv.toArray 0) :: rest3 := ⟨_, rfl⟩
  have offT' : ∀ p ∈ tl, p.1 ≠ D1 ∧ p.1 ≠ D2 ∧ p.1 ≠ D3 := fun p hp => offT p (by rw [htl] at hp; exact hp)
  have inT : ∀ p ∈ rest3, p ∈ tl := fun p hp => by rw [htl]; exact .tail _ (.tail _ (.tail _ (.tail _ (.tail _ hp))))
  have mH : (H, lst [Value.ref D1, Value.ref D2, Value.ref D3] 0) ∈ tl := by rw [htl]; exact .head _
  have hRl : (fn.map (rankOf un)).length = fn.length := List.length_map _
  have hcl10 : calls.length ≤ 10 := by rw [hcl']; exact Nat.le_trans hcl hnvl
  generalize hRe : fn.map (rankOf un) = R at hrv hpvL hRl
  have hR999 : R.length < 999 := Nat.lt_of_le_of_lt (Nat.le_trans (Nat.le_of_eq hRl) hfl10) (by decide)
  refine LCg.Assign_ListComp_U (F₀ := F33) (by rfl) (by with_unfolding_all rfl) (by with_unfolding_all rfl) (by decide) (by rfl) (by decide) (by rfl) (by rfl) (by rfl) ?_
  rw [← htl] at N33'
  have Fh33 := And.intro F33 N33'
  (repeat' (first | (k_unfold; (try dsimp only)) | ((fail_if_success (with_reducible show wpAny _ _ (exec (Stmt.While _ _ _ _) _) _ _ _)); (fail_if_success (with_reducible show wpAny _ _ (exec (Stmt.For _ _ _ _ _) _) _ _ _)); (fail_if_success (with_reducible show wpAny _ _ (call (Value.ref _) _) _ _ _)); (fail_if_success (with_reducible show wpAny _ _ (compareOp _ (Value.ref _) (Value.ref _)) _ _ _)); (fail_if_success (with_reducible show wpAny _ _ (call (Value.type "dict") _) _ _ _)); (fail_if_success (with_reducible show wpAny _ _ (call (Value.type "zip") _) _ _ _)); (fail_if_success (with_reducible show wpAny _ _ (call (Value.type "set") _) _ _ _)); (fail_if_success (with_reducible show wpAny _ _ (call (Value.builtin "sorted") _) _ _ _)); (fail_if_success (with_reducible show wpAny _ _ (subscriptTail _ (Expr.Slice _ _ _ _) _ _) _ _ _)); (fail_if_success (with_reducible show wpAny _ _ (exec (Stmt.Assign _ (Expr.ListComp _ _ _ _) _) _) _ _ _)); (fail_if_success (with_reducible show wpAny _ _ (eval (Expr.ListComp _ _ _ _) _) _ _ _)); (first | walk1 | (dsimp only; walk1)); (try dsimp only)) | fail "no step"))
  refine LCg.CompSrc.ledger hh Fh33.1 Fh33.2 (.tail _ (.tail _ (.tail _ mH))) (by rw [sizeLine_eq]; show 3 ≤ _; decide) fun g34 => ?_
  refine comp_inv (fun i zs nw => ∃ w1 w2 w3, nw = (D1, lst w1 c1) :: (D2, lst w2 rv.length) :: (D3, lst w3 pv.length) :: tl ∧ zs = List.replicate i .none ∧ Are (repI (rkOf un)) w1 (if 0 < i then hfR R else R) ∧ Are repR w2 (if 1 < i then hfR R else R) ∧ Are (repL rest3) w3 (if 2 < i then hfR R else R)) ⟨fv, rv, pv, rfl, rfl, by rw [← hRe]; exact are_items hfi hfu, ints_are hrv, hpvL⟩ ?_ ?_
  · rintro i v zs nw I oI' C oC D m₂ h tk QT hQT hi hv ⟨w1, w2, w3, rfl, hzs, A1, A2, A3⟩ hC hx F N off ne
    have Fh := And.intro F N
    obtain rfl | rfl | rfl := three_cases (show i < 3 from hi)
    · replace hv : some (Value.ref D1) = some v := hv
      cases hv
      replace A1 : Are (repI (rkOf un)) w1 R := A1
      (repeat' (first | (k_unfold; (try dsimp only)) | ((fail_if_success (with_reducible show wpAny _ _ (exec (Stmt.While _ _ _ _) _) _ _ _)); (fail_if_success (with_reducible show wpAny _ _ (exec (Stmt.For _ _ _ _ _) _) _ _ _)); (fail_if_success (with_reducible show wpAny _ _ (call (Value.ref _) _) _ _ _)); (fail_if_success (with_reducible show wpAny _ _ (compareOp _ (Value.ref _) (Value.ref _)) _ _ _)); (fail_if_success (with_reducible show wpAny _ _ (call (Value.type "dict") _) _ _ _)); (fail_if_success (with_reducible show wpAny _ _ (call (Value.type "zip") _) _ _ _)); (fail_if_success (with_reducible show wpAny _ _ (call (Value.type "set") _) _ _ _)); (fail_if_success (with_reducible show wpAny _ _ (call (Value.builtin "sorted") _) _ _ _)); (fail_if_success (with_reducible show wpAny _ _ (subscriptTail _ (Expr.Slice _ _ _ _) _ _) _ _ _)); (fail_if_success (with_reducible show wpAny _ _ (exec (Stmt.Assign _ (Expr.ListComp _ _ _ _) _) _) _ _ _)); (fail_if_success (with_reducible show wpAny _ _ (eval (Expr.ListComp _ _ _ _) _) _ _ _)); (first | walk1 | (dsimp only; walk1)); (try dsimp only)) | fail "no step"))
      obtain ⟨F, N⟩ := Fh
      refine wpAny_call (heap_turn (R := R) G₁ F N (.tail _ (.tail _ (.tail _ (.head _)))) (hroom.call (by decide)) hh (ltI (rk_mono huas)) A1 hR999 fun h35 tk35 w' F35 hk35 hl35 hw' => ?_)
      have hN35 := news_upd N (.tail (Ne.symm off.1.1) (.tail (Ne.symm off.1.2.1) (.tail (Ne.symm off.1.2.2) (.head (fun p hp => ?_))))) hk35 hl35
      refine comp_out hQT F35 hN35 _ (fun _ hp => hp) off (.inr ⟨_, .tail _ (.tail _ (.tail _ mH)), rfl, _, rfl⟩) ⟨w', w2, w3, rfl, by rw [hzs]; rfl, hw', A2, A3⟩
      · rcases List.mem_cons.mp hp with rfl | hp
        · exact Ne.symm e12
        rcases List.mem_cons.mp hp with rfl | hp
        · exact Ne.symm e13
        exact (offT' p hp).1
    · replace hv : some (Value.ref D2) = some v := hv
      cases hv
      replace A2 : Are (repR) w2 R := A2
      (repeat' (first | (k_unfold; (try dsimp only)) | ((fail_if_success (with_reducible show wpAny _ _ (exec (Stmt.While _ _ _ _) _) _ _ _)); (fail_if_success (with_reducible show wpAny _ _ (exec (Stmt.For _ _ _ _ _) _) _ _ _)); (fail_if_success (with_reducible show wpAny _ _ (call (Value.ref _) _) _ _ _)); (fail_if_success (with_reducible show wpAny _ _ (compareOp _ (Value.ref _) (Value.ref _)) _ _ _)); (fail_if_success (with_reducible show wpAny _ _ (call (Value.type "dict") _) _ _ _)); (fail_if_success (with_reducible show wpAny _ _ (call (Value.type "zip") _) _ _ _)); (fail_if_success (with_reducible show wpAny _ _ (call (Value.type "set") _) _ _ _)); (fail_if_success (with_reducible show wpAny _ _ (call (Value.builtin "sorted") _) _ _ _)); (fail_if_success (with_reducible show wpAny _ _ (subscriptTail _ (Expr.Slice _ _ _ _) _ _) _ _ _)); (fail_if_success (with_reducible show wpAny _ _ (exec (Stmt.Assign _ (Expr.ListComp _ _ _ _) _) _) _ _ _)); (fail_if_success (with_reducible show wpAny _ _ (eval (Expr.ListComp _ _ _ _) _) _ _ _)); (first | walk1 | (dsimp only; walk1)); (try dsimp only)) | fail "no step"))
      obtain ⟨F, N⟩ := Fh
      refine wpAny_call (heap_turn (R := R) G₁ F N (.tail _ (.tail _ (.tail _ (.tail _ (.head _))))) (hroom.call (by decide)) hh ltR A2 hR999 fun h35 tk35 w' F35 hk35 hl35 hw' => ?_)
      have hN35 := news_upd N (.tail (Ne.symm off.2.1.1) (.tail (Ne.symm off.2.1.2.1) (.tail (Ne.symm off.2.1.2.2) (.tail (e12) (.head (fun p hp => ?_)))))) hk35 hl35
      refine comp_out hQT F35 hN35 _ (fun _ hp => hp) off (.inr ⟨_, .tail _ (.tail _ (.tail _ mH)), rfl, _, rfl⟩) ⟨w1, w', w3, rfl, by rw [hzs]; rfl, A1, hw', A3⟩
      · rcases List.mem_cons.mp hp with rfl | hp
        · exact Ne.symm e23
        exact (offT' p hp).2.1
    · replace hv : some (Value.ref D3) = some v := hv
      cases hv
      replace A3 : Are (repL rest3) w3 R := A3
      (repeat' (first | (k_unfold; (try dsimp only)) | ((fail_if_success (with_reducible show wpAny _ _ (exec (Stmt.While _ _ _ _) _) _ _ _)); (fail_if_success (with_reducible show wpAny _ _ (exec (Stmt.For _ _ _ _ _) _) _ _ _)); (fail_if_success (with_reducible show wpAny _ _ (call (Value.ref _) _) _ _ _)); (fail_if_success (with_reducible show wpAny _ _ (compareOp _ (Value.ref _) (Value.ref _)) _ _ _)); (fail_if_success (with_reducible show wpAny _ _ (call (Value.type "dict") _) _ _ _)); (fail_if_success (with_reducible show wpAny _ _ (call (Value.type "zip") _) _ _ _)); (fail_if_success (with_reducible show wpAny _ _ (call (Value.type "set") _) _ _ _)); (fail_if_success (with_reducible show wpAny _ _ (call (Value.builtin "sorted") _) _ _ _)); (fail_if_success (with_reducible show wpAny _ _ (subscriptTail _ (Expr.Slice _ _ _ _) _ _) _ _ _)); (fail_if_success (with_reducible show wpAny _ _ (exec (Stmt.Assign _ (Expr.ListComp _ _ _ _) _) _) _ _ _)); (fail_if_success (with_reducible show wpAny _ _ (eval (Expr.ListComp _ _ _ _) _) _ _ _)); (first | walk1 | (dsimp only; walk1)); (try dsimp only)) | fail "no step"))
      obtain ⟨F, N⟩ := Fh
      refine wpAny_call (heap_turn (R := R) G₁ F N (.tail _ (.tail _ (.tail _ (.tail _ (.tail _ (.head _)))))) (hroom.call (by decide)) hh (ltL fun q hq => hideAll_get _ (N q (.tail _ (.tail _ (.tail _ (.tail _ (.tail _ (.tail _ (inT q hq)))))))).1 fun e => (offR q hq).2.2 (List.mem_singleton.mp e)) A3 hR999 fun h35 tk35 w' F35 hk35 hl35 hw' => ?_)
      have hN35 := news_upd N (.tail (Ne.symm off.2.2.1.1) (.tail (Ne.symm off.2.2.1.2.1) (.tail (Ne.symm off.2.2.1.2.2) (.tail e13 (.tail e23 (.head (fun p hp => (offT' p hp).2.2))))))) hk35 hl35
      refine comp_out hQT F35 hN35 _ (fun _ hp => hp) off (.inr ⟨_, .tail _ (.tail _ (.tail _ mH)), rfl, _, rfl⟩) ⟨w1, w2, w', rfl, by rw [hzs]; rfl, A1, A2, hw'⟩
  rintro mv nw ⟨w1, w2, w3, rfl, hmv, A1, A2, A3⟩ Dm h36 tk36 F36 N36 off36
  replace A1 : Are (repI (rkOf un)) w1 (hfR R) := A1
  replace A2 : Are repR w2 (hfR R) := A2
  replace A3 : Are (repL rest3) w3 (hfR R) := A3
  replace hmv : mv = List.replicate 3 Value.none := hmv
  subst hmv
  rw [htl] at N36 off36
  clear Fh33 N33' F33
  dsimp only
  (repeat' (first | (k_unfold; (try dsimp only)) | ((fail_if_success (with_reducible show wpAny _ _ (exec (Stmt.While _ _ _ _) _) _ _ _)); (fail_if_success (with_reducible show wpAny _ _ (exec (Stmt.For _ _ _ _ _) _) _ _ _)); (fail_if_success (with_reducible show wpAny _ _ (call (Value.ref _) _) _ _ _)); (fail_if_success (with_reducible show wpAny _ _ (compareOp _ (Value.ref _) (Value.ref _)) _ _ _)); (fail_if_success (with_reducible show wpAny _ _ (call (Value.type "dict") _) _ _ _)); (fail_if_success (with_reducible show wpAny _ _ (call (Value.type "zip") _) _ _ _)); (fail_if_success (with_reducible show wpAny _ _ (call (Value.type "set") _) _ _ _)); (fail_if_success (with_reducible show wpAny _ _ (call (Value.builtin "sorted") _) _ _ _)); (fail_if_success (with_reducible show wpAny _ _ (subscriptTail _ (Expr.Slice _ _ _ _) _ _) _ _ _)); (fail_if_success (with_reducible show wpAny _ _ (exec (Stmt.Assign _ (Expr.ListComp _ _ _ _) _) _) _ _ _)); (fail_if_success (with_reducible show wpAny _ _ (eval (Expr.ListComp _ _ _ _) _) _ _ _)); (first | walk1 | (dsimp only; walk1)); (try dsimp only)) | fail "no step"))
  refine LCg.Assign_ListComp_U (F₀ := F36) (by rfl) (by with_unfolding_all rfl) (by with_unfolding_all rfl) (by decide) (by rfl) (by decide) (by rfl) (by rfl) (by rfl) ?_
  have Fh36 := And.intro F36 N36
  (repeat' (first | (k_unfold; (try dsimp only)) | ((fail_if_success (with_reducible show wpAny _ _ (exec (Stmt.While _ _ _ _) _) _ _ _)); (fail_if_success (with_reducible show wpAny _ _ (exec (Stmt.For _ _ _ _ _) _) _ _ _)); (fail_if_success (with_reducible show wpAny _ _ (call (Value.ref _) _) _ _ _)); (fail_if_success (with_reducible show wpAny _ _ (compareOp _ (Value.ref _) (Value.ref _)) _ _ _)); (fail_if_success (with_reducible show wpAny _ _ (call (Value.type "dict") _) _ _ _)); (fail_if_success (with_reducible show wpAny _ _ (call (Value.type "zip") _) _ _ _)); (fail_if_success (with_reducible show wpAny _ _ (call (Value.type "set") _) _ _ _)); (fail_if_success (with_reducible show wpAny _ _ (call (Value.builtin "sorted") _) _ _ _)); (fail_if_success (with_reducible show wpAny _ _ (subscriptTail _ (Expr.Slice _ _ _ _) _ _) _ _ _)); (fail_if_success (with_reducible show wpAny _ _ (exec (Stmt.Assign _ (Expr.ListComp _ _ _ _) _) _) _ _ _)); (fail_if_success (with_reducible show wpAny _ _ (eval (Expr.ListComp _ _ _ _) _) _ _ _)); (first | walk1 | (dsimp only; walk1)); (try dsimp only)) | fail "no step"))
  refine LCg.CompSrc.ledger hh Fh36.1 Fh36.2 (.tail _ (.tail _ (.tail _ (.tail _ (.tail _ (.tail _ (.tail _ (.tail _ (.tail _ mU))))))))) (sz_le (Nat.le_trans (Nat.le_of_eq huvl) (Nat.le_trans hunl (by decide)))) fun g37 => ?_
  refine comp_inv2 (fun _ : Unit => (Dm, LCg.lst (List.replicate 3 Value.none)) :: (D1, lst w1 c1) :: (D2, lst w2 rv.length) :: (D3, lst w3 pv.length) :: (H, lst [Value.ref D1, Value.ref D2, Value.ref D3] 0) :: (L + 1 + 1 + 1, oF) :: (L + 1 + 1, oR) :: (L + 1, oI) :: (Df, W.listOf fv.toArray 0) :: rest3) (fun i zs _ => IntsAre zs ((cntR un fn).take i)) () (by simpa using .nil) ?_ ?_
  · intro i v zs aU I oI' C oC D m₂ h tk QT hQT hi hv hz hC hx F N off ne
    have hi' : i < un.length := by rw [← huvl]; simpa using hi
    obtain ⟨ti, rfl⟩ := ints_at hu (by simpa using hv) hi'
    have Fh := And.intro F N
    (repeat' (first | (k_unfold; (try dsimp only)) | ((fail_if_success (with_reducible show wpAny _ _ (exec (Stmt.While _ _ _ _) _) _ _ _)); (fail_if_success (with_reducible show wpAny _ _ (exec (Stmt.For _ _ _ _ _) _) _ _ _)); (fail_if_success (with_reducible show wpAny _ _ (call (Value.ref _) _) _ _ _)); (fail_if_success (with_reducible show wpAny _ _ (compareOp _ (Value.ref _) (Value.ref _)) _ _ _)); (fail_if_success (with_reducible show wpAny _ _ (call (Value.type "dict") _) _ _ _)); (fail_if_success (with_reducible show wpAny _ _ (call (Value.type "zip") _) _ _ _)); (fail_if_success (with_reducible show wpAny _ _ (call (Value.type "set") _) _ _ _)); (fail_if_success (with_reducible show wpAny _ _ (call (Value.builtin "sorted") _) _ _ _)); (fail_if_success (with_reducible show wpAny _ _ (subscriptTail _ (Expr.Slice _ _ _ _) _ _) _ _ _)); (fail_if_success (with_reducible show wpAny _ _ (exec (Stmt.Assign _ (Expr.ListComp _ _ _ _) _) _) _ _ _)); (fail_if_success (with_reducible show wpAny _ _ (eval (Expr.ListComp _ _ _ _) _) _ _ _)); (first | walk1 | (dsimp only; walk1)); (try dsimp only)) | fail "no step"))
    obtain ⟨F, N⟩ := Fh
    refine hQT aU _ _ _ _ F N (fun _ hp => hp) off (.inr ⟨_, .tail _ (.tail _ (.tail _ (.tail _ (.tail _ (.tail _ (.tail _ (.tail _ (.tail _ mU)))))))), rfl, _, rfl⟩) ?_
    have hil : i < (cntR un fn).length := by unfold cntR; rw [List.length_map]; exact hi'
    rw [List.take_add_one, List.getElem?_eq_getElem hil, cntR_get hi' hil]
    exact IntsAre.snoc hz _ _
  intro cv aU3 hcv Dk h39 tk39 F39 N39 off39
  rw [show (cntR un fn).take uv.toArray.size = cntR un fn from by rw [show uv.toArray.size = (cntR un fn).length from by unfold cntR; simpa using huvl]; exact List.take_length] at hcv
  clear Fh36 F36 N36
  dsimp only
  have Fh39 := And.intro F39 N39
  (repeat' (first | (k_unfold; (try dsimp only)) | ((fail_if_success (with_reducible show wpAny _ _ (exec (Stmt.While _ _ _ _) _) _ _ _)); (fail_if_success (with_reducible show wpAny _ _ (exec (Stmt.For _ _ _ _ _) _) _ _ _)); (fail_if_success (with_reducible show wpAny _ _ (call (Value.ref _) _) _ _ _)); (fail_if_success (with_reducible show wpAny _ _ (compareOp _ (Value.ref _) (Value.ref _)) _ _ _)); (fail_if_success (with_reducible show wpAny _ _ (call (Value.type "dict") _) _ _ _)); (fail_if_success (with_reducible show wpAny _ _ (call (Value.type "zip") _) _ _ _)); (fail_if_success (with_reducible show wpAny _ _ (call (Value.type "set") _) _ _ _)); (fail_if_success (with_reducible show wpAny _ _ (call (Value.builtin "sorted") _) _ _ _)); (fail_if_success (with_reducible show wpAny _ _ (subscriptTail _ (Expr.Slice _ _ _ _) _ _) _ _ _)); (fail_if_success (with_reducible show wpAny _ _ (exec (Stmt.Assign _ (Expr.ListComp _ _ _ _) _) _) _ _ _)); (fail_if_success (with_reducible show wpAny _ _ (eval (Expr.ListComp _ _ _ _) _) _ _ _)); (first | walk1 | (dsimp only; walk1)); (try dsimp only)) | fail "no step"))
  rename_i Dq h40 F40 N40 l40
  refine eq_dataH (reads_list_at (N40 (Dm, LCg.lst (List.replicate 3 Value.none)) (.tail _ (.tail _ (.head _)))).1 rfl rfl (nones_reads 3)) (reads_list_at (N40 (Dq, W.listOf #[Value.none, Value.none, Value.none] 0) (.head _)).1 rfl rfl (nones_reads 3)) (by decide) (by decide) ?_ ?_
  · exact hroom.units (k := 67) (by decide)
  rw [show PyData.eqv (.list (List.replicate 3 .none)) (.list (List.replicate 3 .none)) = true from by simp [PyData.eqv, PyData.eqvAll, List.replicate]]
  (repeat' (first | (k_unfold; (try dsimp only)) | ((fail_if_success (with_reducible show wpAny _ _ (exec (Stmt.While _ _ _ _) _) _ _ _)); (fail_if_success (with_reducible show wpAny _ _ (exec (Stmt.For _ _ _ _ _) _) _ _ _)); (fail_if_success (with_reducible show wpAny _ _ (call (Value.ref _) _) _ _ _)); (fail_if_success (with_reducible show wpAny _ _ (compareOp _ (Value.ref _) (Value.ref _)) _ _ _)); (fail_if_success (with_reducible show wpAny _ _ (call (Value.type "dict") _) _ _ _)); (fail_if_success (with_reducible show wpAny _ _ (call (Value.type "zip") _) _ _ _)); (fail_if_success (with_reducible show wpAny _ _ (call (Value.type "set") _) _ _ _)); (fail_if_success (with_reducible show wpAny _ _ (call (Value.builtin "sorted") _) _ _ _)); (fail_if_success (with_reducible show wpAny _ _ (subscriptTail _ (Expr.Slice _ _ _ _) _ _) _ _ _)); (fail_if_success (with_reducible show wpAny _ _ (exec (Stmt.Assign _ (Expr.ListComp _ _ _ _) _) _) _ _ _)); (fail_if_success (with_reducible show wpAny _ _ (eval (Expr.ListComp _ _ _ _) _) _ _ _)); (first | walk1 | (dsimp only; walk1)); (try dsimp only)) | fail "no step"))
  refine kmk_add_lit (s := { s with heap := h40, toks := _, drawn := dr }) F40 N40 (its := ys'.toArray) (its2 := ev.toArray) ⟨_, (N40 _ (.tail _ (.tail _ (.tail _ (.tail _ (.tail _ (.tail _ (.tail _ (.tail _ (.tail _ (.tail _ (.tail _ mCl)))))))))))).1, rfl, _, rfl⟩ ⟨_, (N40 _ (.tail _ (.tail _ (.tail _ (.tail _ (.tail _ (.tail _ (.tail _ (.tail _ (.tail _ (.tail _ (.tail _ mE2)))))))))))).1, rfl, _, rfl⟩ rfl ?_ (sz_two hcs.len (Nat.le_trans hcl10 (by decide)) hes.len hecl)
  intro Dz h41 F41 N41 lt41
  have Fh41 := And.intro F41 N41
  dsimp only
  (repeat' (first | (k_unfold; (try dsimp only)) | ((fail_if_success (with_reducible show wpAny _ _ (exec (Stmt.While _ _ _ _) _) _ _ _)); (fail_if_success (with_reducible show wpAny _ _ (exec (Stmt.For _ _ _ _ _) _) _ _ _)); (fail_if_success (with_reducible show wpAny _ _ (call (Value.ref _) _) _ _ _)); (fail_if_success (with_reducible show wpAny _ _ (compareOp _ (Value.ref _) (Value.ref _)) _ _ _)); (fail_if_success (with_reducible show wpAny _ _ (call (Value.type "dict") _) _ _ _)); (fail_if_success (with_reducible show wpAny _ _ (call (Value.type "zip") _) _ _ _)); (fail_if_success (with_reducible show wpAny _ _ (call (Value.type "set") _) _ _ _)); (fail_if_success (with_reducible show wpAny _ _ (call (Value.builtin "sorted") _) _ _ _)); (fail_if_success (with_reducible show wpAny _ _ (subscriptTail _ (Expr.Slice _ _ _ _) _ _) _ _ _)); (fail_if_success (with_reducible show wpAny _ _ (exec (Stmt.Assign _ (Expr.ListComp _ _ _ _) _) _) _ _ _)); (fail_if_success (with_reducible show wpAny _ _ (eval (Expr.ListComp _ _ _ _) _) _ _ _)); (first | walk1 | (dsimp only; walk1)); (try dsimp only)) | fail "no step"))
  have NR : ∀ p ∈ rest3, h41.get? p.1 = some p.2 := fun p hp => (Fh41.2 p (.tail _ (.tail _ (.tail _ (.tail _ (.tail _ (.tail _ (.tail _ (.tail _ (.tail _ (.tail _ (.tail _ (.tail _ (hp)))))))))))))).1
  obtain ⟨oL, esL, epL, hoL, hoLd, _⟩ := Fh41.1.ns
  have nD1 := Fh41.2 (D1, lst w1 c1) (.tail _ (.tail _ (.tail _ (.tail _ (.head _)))))
  have nD2 := Fh41.2 (D2, lst w2 rv.length) (.tail _ (.tail _ (.tail _ (.tail _ (.tail _ (.head _))))))
  have nD3 := Fh41.2 (D3, lst w3 pv.length) (.tail _ (.tail _ (.tail _ (.tail _ (.tail _ (.tail _ (.head _)))))))
  have nH := Fh41.2 (H, lst [Value.ref D1, Value.ref D2, Value.ref D3] 0) (.tail _ (.tail _ (.tail _ (.tail _ (.tail _ (.tail _ (.tail _ (.head _))))))))
  have nDk := Fh41.2 (Dk, LCg.lst cv) (.tail _ (.tail _ (.head _)))
  have nDz := Fh41.2 (Dz, W.listOf (ys'.toArray.toList ++ ev.toArray.toList).toArray 0) (.head _)
  have nK := Fh41.2 (K, oK) (.tail _ (.tail _ (.tail _ (.tail _ (.tail _ (.tail _ (.tail _ (.tail _ (.tail _ (.tail _ (.tail _ (.tail _ (mK)))))))))))))
  have oH := offT _ (.head _)
  have oK3 := offR _ mK
  have z1 : @Ne Nat Dz D1 := Nat.ne_of_gt (lt41 (D1, lst w1 c1) (.tail _ (.tail _ (.tail _ (.head _)))))
  have z2 : @Ne Nat Dz D2 := Nat.ne_of_gt (lt41 (D2, lst w2 rv.length) (.tail _ (.tail _ (.tail _ (.tail _ (.head _))))))
  have z3 : @Ne Nat Dz D3 := Nat.ne_of_gt (lt41 (D3, lst w3 pv.length) (.tail _ (.tail _ (.tail _ (.tail _ (.tail _ (.head _)))))))
  have nin : ∀ {a : Addr}, a ≠ D1 → a ≠ D2 → a ≠ D3 → a ∉ [D1, D2, D3] := fun h1 h2 h3 q => by
    simp only [List.mem_cons, List.not_mem_nil, or_false] at q
    rcases q with q | q | q
    · exact h1 q
    · exact h2 q
    · exact h3 q
  have hgood : Good (hfR R) (cntR un fn) := hRe ▸ good_start hund hfu
  refine wpAny_call (law_run_ok plain (b := g) (Ll := L) (oL := oL) (d1 := D1) (d2 := D2) (d3 := D3) (clv := ys' ++ ev) (ncl := 0) (calls := calls ++ ecalls) G₁ Fh41.1.keep (hroom.call (by decide)) hh (Around.frames_deeper hfr) rfl (by show ScopeKind.function ≠ ScopeKind.module; decide) hoL ⟨esL, epL, hoLd⟩ (Heap.get?_none_of_le Fh41.1.above) nD1.2.2 nD2.2.2 nD3.2.2
    nH.1 (nin oH.1 oH.2.1 oH.2.2) ?_ (nin (Ne.symm off39.2.1) (Ne.symm off39.2.2.1) (Ne.symm off39.2.2.2.1)) (nin z1 z2 z3) e12 e13 e23 nD1.1 nD2.1 nD3.1 nDk.1 nDz.1
    ⟨beq_eq_false_iff_ne.mpr ?_, kvs, ⟨oK, esK, epK, nK.1, hrK⟩, rk_value hK11 hund⟩ (rk_mono huas) A1 A2 (A3.mono fun v r q => q.toP NR) (ints_are hcv) hgood ?_ ?_ ((hcs.append hes).toAre NR) ?_ fun s' hch => ?_)
  · intro q
    simp only [List.mem_cons, List.not_mem_nil, or_false] at q
    rcases q with q | q | q | q
    · exact oK3.1 q
    · exact oK3.2.1 q
    · exact oK3.2.2 q
    · exact nK.2.1 q
  · exact Nat.ne_of_gt (Nat.lt_of_le_of_lt (Nat.le_add_left 1 (L + 1 + 1)) lk4)
  · rw [hfR_len, List.length_append]; exact lt_sixty (Nat.le_trans (Nat.le_of_eq hRl) hfl10) hcl10 hecl
  · rw [cntR_len]; exact Nat.lt_of_le_of_lt hunl (by decide)
  · intro q hq
    have hq3 : 0 ≤ q.1 ∧ q.1 ≤ 4 ∧ q.2 ∈ nums.map itemOf := (List.mem_append.mp hq).elim (hcq q) (hecq q)
    have hqu := (humem q.2).mpr hq3.2.2
    have hqr := rank_lt hqu
    exact ⟨hq3.1, hq3.2.1, _, rank_mem hqu, hqr.1, by rw [cntR_len]; exact hqr.2⟩
  · obtain ⟨h42, tk42, rfl, hk42, _⟩ := hch
    refine hQQ _ _ (k _ (fun a o e => ?_) rfl rfl)
    have eg := hg a o (by simp) e
    refine hk42 a o (fun q => ?_) (fun q => ?_) (Fh41.1.keep a o eg)
    · simp only [List.mem_cons, List.not_mem_nil, or_false] at q
      rcases q with rfl | rfl | rfl
      · have := nD1.2.2; dsimp only at this; rw [eg] at this; cases this
      · have := nD2.2.2; dsimp only at this; rw [eg] at this; cases this
      · have := nD3.2.2; dsimp only at this; rw [eg] at this; cases this
    · rw [List.mem_singleton.mp q, Heap.get?_none_of_le Fh41.1.above] at eg; cases eg
end Mine

-- H1
namespace Mine
noncomputable def LawOK : Prop := ∀ {w : World} {mg mb : Str → Option Value} {b : Heap} {A : Around} {s : Shared} {Rr : Result → Shared → Prop} {sc : Addr} {vs : List Value} {ns : List Int}
    (_ : Gr w mg mb b) (_ : b.StaysIn s.heap) (_ : Room 18 A) (_ : A.handled = none) (_ : A.frames = some []) (_ : s.heap.IsList sc vs.toArray) (_ : IntsAre vs ns) (_ : ns.length ≤ 63)
    (_ : ∀ s', (∀ b o, s.heap.get? b = some o → s'.heap.get? b = some o) → s'.os = s.os → s'.gens = s.gens → Rr (.ok (.ret (.bool true))) s'), codeAny (model Challenge.rw_mj0021_01.row.prog w) A (.call (.ref 118) ⟨[.ref sc], []⟩) Rr s
theorem fin (LK : LawOK) : Challenge.rw_mj0021_01.Holds := hd (by
  k_fill
  intro w s₀ s₁ mg mb G Y fa o pm cd doc dV kV ho hd hcd hD hmg hg args vals as hpre hlay hrd hwl hlo
  have KX := kIn_of Y
  refine Ground.open G ?_
  intro T B D TE TW
  wrow_args hpre hlay hrd hwl hlo
  x_fa T KX hmg
  rename IntsAre _ _ => hI
  rename Heap.IsList _ _ _ => hL
  have hG : Gr w mg mb s₁.heap := ⟨KX, topRead_of T⟩
  refine enter_call (LK hG (fun _ _ e => e) ⟨by decide, by decide⟩ rfl rfl hL hI (by omega) fun s' hk ho' hg' => GoodW.toG ⟨.inl ⟨.bool true, _, [], rfl, fun _ => rfl, ReadsW.bool true, by first | rfl | wrow_post, fun _ => ⟨List.nodup_nil, fun _ hm => (nomatch hm)⟩⟩, hk, ho', hg'.trans hg⟩))
end Mine

end

theorem PySem.Challenge.cw_mj0021_01_holds : PySem.Challenge.rw_mj0021_01.Holds :=
  Mine.fin (by
    intro w mg mb b A s Rr sc vs ns G hb hroom hh hfr hsc hI hsm k
    exact Mine.law_ok G hb hroom hh hfr hsc hI hsm k)
