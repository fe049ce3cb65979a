import PyProof.Rows.All
import Wide.All
import OpenK.AllK
import Wide.FinOn
import Lean
import PySem.Challenge.RW_rs0063_01
section
open PySem PySem.W PyProof.Rows
set_option Elab.async false
namespace Mine

abbrev pg : Program := PySem.Challenge.pw_rs0063_01
abbrev Ent := Addr × (Obj → Prop)
def Ext (h h' : Heap) : Prop := ∀ b o, h.get? b = some o → h'.get? b = some o
theorem Ext.refl (h : Heap) : Ext h h := fun _ _ e => e
theorem Ext.trans {a b c : Heap} (x : Ext a b) (y : Ext b c) : Ext a c := fun p o e => y p o (x p o e)
theorem Ext.push (h : Heap) (o : Obj) : Ext h (h.push o) := fun _ _ e => Heap.get?_push_of_some _ e
def Pt (h : Heap) (a : Addr) (P : Obj → Prop) : Prop := ∃ o, h.get? a = some o ∧ P o
theorem Pt.ext {h h' : Heap} {a : Addr} {P : Obj → Prop} (p : Pt h a P) (x : Ext h h') : Pt h' a P := let ⟨o, e, q⟩ := p; ⟨o, x _ _ e, q⟩
theorem Pt.mono {h : Heap} {a : Addr} {P P' : Obj → Prop} (p : Pt h a P) (x : ∀ o, P o → P' o) : Pt h a P' := let ⟨o, e, q⟩ := p; ⟨o, e, x _ q⟩
theorem Pt.not_none {h : Heap} {a : Addr} {P : Obj → Prop} (p : Pt h a P) : h.get? a ≠ none := by obtain ⟨o, e, _⟩ := p; rw [e]; exact fun h => nomatch h

theorem get_size (h : Heap) : h.get? h.objs.size = none := by
  cases e : h.get? h.objs.size with
  | none => rfl
  | some o => exact absurd (Heap.lt_size e) (Nat.lt_irrefl _)
theorem get_big (h : Heap) {n : Nat} (hn : h.objs.size ≤ n) : h.get? n = none := by
  cases e : h.get? n with
  | none => rfl
  | some o => exact absurd (Heap.lt_size e) (Nat.not_lt.mpr hn)

structure St (g : Heap) (es : List Ent) (h : Heap) : Prop where
  ext : Ext g h
  pts : ∀ e ∈ es, Pt h e.1 e.2
  nd : (es.map (·.1)).Nodup
  new : ∀ e ∈ es, g.get? e.1 = none

section
variable {g h h' : Heap} {es : List Ent} {a : Addr} {P P' : Obj → Prop}
theorem St.at (S : St g es h) (i : Nat) (hi : es[i]? = some (a, P)) : Pt h a P := S.pts (a, P) (List.mem_of_getElem? hi)
theorem St.grow (S : St g es h) (x : Ext h h') : St g es h' := ⟨S.ext.trans x, fun e he => (S.pts e he).ext x, S.nd, S.new⟩
theorem St.addr_ne {i j : Nat} {b : Addr} {P' : Obj → Prop} (S : St g es h) (hij : i ≠ j) (hi : es[i]? = some (a, P)) (hj : es[j]? = some (b, P')) : a ≠ b := by
  intro e
  subst e
  obtain ⟨hi', ei⟩ := List.getElem?_eq_some_iff.mp hi
  obtain ⟨hj', ej⟩ := List.getElem?_eq_some_iff.mp hj
  have pw := List.pairwise_iff_getElem.mp S.nd
  rcases Nat.lt_or_gt_of_ne hij with hl | hl
  · exact pw i j (by simpa using hi') (by simpa using hj') hl (by simp [ei, ej])
  · exact pw j i (by simpa using hj') (by simpa using hi') hl (by simp [ei, ej])
theorem St.set (S : St g es h) (i : Nat) (hi : es[i]? = some (a, P)) (x : Heap.SameBut a h h') (p : Pt h' a P') : St g (es.set i (a, P')) h' := by
  have em : (es.set i (a, P')).map (·.1) = es.map (·.1) := by
    rw [List.map_set]
    exact X.set_same (by rw [List.getElem?_map, hi]; rfl)
  have hn : g.get? a = none := S.new _ (List.mem_of_getElem? hi)
  refine ⟨fun b o e => ?_, fun e he => ?_, by rw [em]; exact S.nd, fun e he => ?_⟩
  · have : b ≠ a := by intro z; subst z; rw [hn] at e; cases e
    exact (x.2 b this).trans (S.ext b o e)
  · obtain ⟨j, hj⟩ := List.getElem?_of_mem he
    by_cases hij : i = j
    · subst hij
      have hl := (List.getElem?_eq_some_iff.mp hi).1
      rw [List.getElem?_set_self hl] at hj
      cases hj
      exact p
    · rw [List.getElem?_set_ne hij] at hj
      obtain ⟨b, P₂⟩ := e
      obtain ⟨o, eo, q⟩ := S.at j hj
      exact ⟨o, (x.2 b (S.addr_ne hij hi hj).symm).trans eo, q⟩
  · rcases List.mem_or_eq_of_mem_set he with he | rfl
    · exact S.new e he
    · exact hn
theorem St.push (S : St g es h) (hn : h.get? a = none) (x : Ext h h') (p : Pt h' a P) : St g (es ++ [(a, P)]) h' := by
  refine ⟨S.ext.trans x, fun e he => ?_, ?_, fun e he => ?_⟩
  · rcases List.mem_append.mp he with he | he
    · exact (S.pts e he).ext x
    · rw [List.mem_singleton] at he; subst he; exact p
  · rw [List.map_append, List.nodup_append]
    refine ⟨S.nd, by simp, fun b hb c hc => ?_⟩
    simp at hc
    subst hc
    intro e
    subst e
    obtain ⟨e, he, rfl⟩ := List.mem_map.mp hb
    exact (S.pts e he).not_none hn
  · rcases List.mem_append.mp he with he | he
    · exact S.new e he
    · rw [List.mem_singleton] at he; subst he
      show g.get? a = none
      cases q : g.get? a with
      | none => rfl
      | some o => rw [S.ext _ _ q] at hn; cases hn
theorem St.perm {es' : List Ent} (S : St g es h) (p : es.Perm es') : St g es' h :=
  ⟨S.ext, fun e he => S.pts e (p.mem_iff.mpr he), (p.map _).nodup_iff.mp S.nd, fun e he => S.new e (p.mem_iff.mpr he)⟩
theorem St.sub {es' : List Ent} (S : St g es h) (p : es'.Sublist es) : St g es' h :=
  ⟨S.ext, fun e he => S.pts e (p.subset he), S.nd.sublist (p.map _), fun e he => S.new e (p.subset he)⟩
theorem St.cons (S : St g es h) (hn : h.get? a = none) (x : Ext h h') (p : Pt h' a P) : St g ((a, P) :: es) h' :=
  (S.push hn x p).perm (List.perm_append_comm (l₁ := es) (l₂ := [(a, P)]))
theorem St.adds (S : St g es h) (x : Ext h h') (l : List Ent) (hn : ∀ e ∈ l, h.get? e.1 = none ∧ Pt h' e.1 e.2) (nd : (l.map (·.1)).Nodup) : St g (l ++ es) h' := by
  refine ⟨S.ext.trans x, fun e he => ?_, ?_, fun e he => ?_⟩
  · rcases List.mem_append.mp he with he | he
    · exact (hn e he).2
    · exact (S.pts e he).ext x
  · rw [List.map_append, List.nodup_append]
    refine ⟨nd, S.nd, fun b hb c hc => ?_⟩
    rintro rfl
    obtain ⟨e, he, rfl⟩ := List.mem_map.mp hb
    obtain ⟨e', he', z⟩ := List.mem_map.mp hc
    have := (S.pts e' he').not_none
    rw [z] at this
    exact this (hn e he).1
  · rcases List.mem_append.mp he with he | he
    · cases q : g.get? e.1 with
      | none => rfl
      | some o => have := S.ext _ _ q; rw [(hn e he).1] at this; cases this
    · exact S.new e he
theorem St.front {a : Ent} {l : List Ent} (S : St g (l ++ (a :: es)) h) : St g (a :: (l ++ es)) h := S.perm List.perm_middle
theorem St.weak (S : St g es h) (i : Nat) (hi : es[i]? = some (a, P)) (q : ∀ o, P o → P' o) : St g (es.set i (a, P')) h :=
  S.set i hi ⟨rfl, fun _ _ => rfl⟩ ((S.at i hi).mono q)

theorem St.rebase (S : St g es h) : ∃ g', St g' es h ∧ Ext g g' ∧ Ext g' h ∧ ∀ b o, h.get? b = some o → b ∉ es.map (·.1) → g'.get? b = some o := by
  refine ⟨hideAll h (es.map (·.1)), ⟨fun b o e => of_hideAll _ e, S.pts, S.nd, fun e he => hideAll_none _ (List.mem_map_of_mem he)⟩, fun b o e => ?_, fun b o e => of_hideAll _ e, fun b o e n => hideAll_get _ e n⟩
  refine hideAll_get _ (S.ext b o e) fun hm => ?_
  obtain ⟨x, hx, rfl⟩ := List.mem_map.mp hm
  rw [S.new x hx] at e
  cases e
theorem St.start (g : Heap) : St g [] g := ⟨Ext.refl g, (fun _ h => (nomatch h)), List.nodup_nil, (fun _ h => (nomatch h))⟩
end

theorem ofs_inj {s t : String} : (Str.ofString s = Str.ofString t) = (s = t) := by
  apply propext
  constructor
  · intro h
    rw [Str.ofString_eq_toList, Str.ofString_eq_toList] at h
    have h1 := congrArg (fun x => x.cps.toList) h
    simp only at h1
    have h2 : s.toList = t.toList := by
      refine (List.map_inj_right ?_).mp h1
      intro a b e
      exact Char.toNat_inj.mp e
    exact String.toList_inj.mp h2
  · rintro rfl; rfl

/-- runs without raising and ends in Q -/
abbrev Ok {α : Type} (w : World) (A : Around) (t : Sem α) (Q : α → Shared → Prop) (s : Shared) : Prop := wpAny (model pg w) A t Q (fun _ _ => False) s
abbrev OkC (w : World) (A : Around) (c : Code) (Q : Flow → Shared → Prop) (s : Shared) : Prop := codeAny (model pg w) A c (fun r s' => match r with | .ok f => Q f s' | .error _ => False) s

def isNs (m : Str → Option Value) : Obj → Prop := fun o => ∃ es ep, o.data = .dict es ep ∧ StrKeys es ∧ ∀ name, nsFind es name = m name
theorem ns_iff {h : Heap} {a : Addr} {m : Str → Option Value} : Pt h a (isNs m) ↔ h.Ns a m := by
  constructor
  · rintro ⟨o, e, es, ep, r⟩; exact ⟨o, es, ep, e, r⟩
  · rintro ⟨o, es, ep, e, r⟩; exact ⟨o, e, es, ep, r⟩
def isCell (v : Option Value) : Obj → Prop := fun o => o.data = .cell v
theorem cell_iff {h : Heap} {a : Addr} {v : Option Value} : Pt h a (isCell v) ↔ h.IsCell a v := Iff.rfl
def isLst (vs : List Value) : Obj → Prop := fun o => ∃ n, o = { cls := .type "list", data := .seq vs.toArray n }
theorem lst_iff {h : Heap} {a : Addr} {vs : List Value} : Pt h a (isLst vs) ↔ h.PlainList a vs.toArray := by
  constructor
  · rintro ⟨o, e, n, rfl⟩; exact ⟨n, e⟩
  · rintro ⟨n, e⟩; exact ⟨_, e, n, rfl⟩

def Fine (A : Around) (n : Nat) : Prop := A.handled = none ∧ A.depth + n < recursionLimit ∧ A.units + 4 * n < cLine
theorem Fine.deeper {A : Around} {n : Nat} (f : Fine A (n + 1)) (env : Env) : Fine (A.deeper env) n := ⟨f.1, by have := f.2.1; show A.depth + 1 + n < _; omega, by have := f.2.2; show A.units + 3 + 4 * n < _; omega⟩
theorem Fine.in1 {A : Around} {n : Nat} (f : Fine A (n + 1)) : Fine A.in1 n := ⟨f.1, by have := f.2.1; show A.depth + n < _; omega, by have := f.2.2; show A.units + 1 + 4 * n < _; omega⟩
theorem Fine.less {A : Around} {n m : Nat} (f : Fine A n) (h : m ≤ n) : Fine A m := ⟨f.1, by have := f.2.1; omega, by have := f.2.2; omega⟩
theorem Fine.room {A : Around} {n : Nat} (f : Fine A n) : A.depth < recursionLimit := by have := f.2.1; omega
theorem Fine.units {A : Around} {n : Nat} (f : Fine A n) : A.units < cLine := by have := f.2.2; omega

section
variable {α β : Type} {w : World} {A : Around} {s : Shared}
theorem ok_bind {m : Sem α} {f : α → Sem β} {Q : β → Shared → Prop} (h : Ok w A m (fun a s' => Ok w A (f a) Q s') s) : Ok w A (m >>= f) Q s := wpAny_bind h
theorem ok_pure {a : α} {Q : α → Shared → Prop} (h : Q a s) : Ok w A (pure a) Q s := wpAny_pure h
theorem ok_mono {t : Sem α} {Q Q' : α → Shared → Prop} (h : Ok w A t Q s) (q : ∀ a s, Q a s → Q' a s) : Ok w A t Q' s := wpAny_mono h q fun _ _ e => e
theorem ok_of {t : Sem α} {Q : α → Shared → Prop} {E : Value → Shared → Prop} (h : Ok w A t Q s) : wpAny (model pg w) A t Q E s := wpAny_mono h (fun _ _ q => q) fun _ _ e => e.elim
theorem ok_call {f : Value} {pos : List Value} {kw : List (Str × Value)} {Q : Value → Shared → Prop} (h : OkC w A (.call f ⟨pos, kw⟩) (fun fl s' => match fl with | .ret v => Q v s' | _ => False) s) : Ok w A (call f pos kw) Q s :=
  wpAny_call (codeAny_mono h fun r s' q => by
    cases r with
    | error e => exact q.elim
    | ok f => cases f <;> exact q)
end
end Mine
end

section
open PySem PySem.W PySem.W.X PyProof.Rows
set_option Elab.async false
namespace Mine

abbrev SX (w : World) (A : Around) (c : Code) (t : Sem Fin) (fs : List Frame) (s : Shared) (P : End → Shared → Prop) : Prop := SegX (model pg w) A c t fs s P

section
variable {w : World} {A : Around} {c : Code} {fs : List Frame} {s : Shared} {P : End → Shared → Prop} {env : Env} {K : Flow → Sem Fin} {H : Value → Sem Fin} {gd : Bool → Bool} {lv : List Value → List Value}

theorem sx_wrap {α : Type} {m : Sem α} {K : α → Sem Fin} (h : Ok w (A.over c fs) m (fun a s' => SX w A c (K a) fs s' P) s) : SX w A c (m.wrap K H gd lv) fs s P := by
  rintro Γ p rfl hΓ
  obtain ⟨e, s', hr, hq⟩ := runs_wrap_of_wp (Φ := fun e s' => e.quiet = true ∧ P e s') K H gd lv m (h (Γ.over fs) p (hΓ.over fs)) (fun a p' s' h' => h' Γ p' rfl hΓ) (fun x p' s' h' => h'.elim)
  exact ⟨e, s', hr, hq⟩
theorem sx_bind {α : Type} {m : Sem α} {K : α → Sem Fin} (h : Ok w (A.over c fs) m (fun a s' => SX w A c (K a) fs s' P) s) : SX w A c (m >>= K) fs s P := by
  rw [Sem.bind_eq_wrap']; exact sx_wrap h
theorem sx_same {α : Type} {m : Sem α} {K K' : α → Sem Fin} (e : ∀ a, K a = K' a) (h : SX w A c (m.wrap K' H gd lv) fs s P) : SX w A c (m.wrap K H gd lv) fs s P := by
  rw [show K = K' from funext e]; exact h
theorem sx_nil (h : SX w A c (K .next) fs s P) : SX w A c ((execs [] env).wrap K H gd lv) fs s P := h
theorem sx_cons {st : Stmt} {rest : List Stmt} (h : SX w A c ((exec st env).wrap (fun f => match f with | .next => (execs rest env).wrap K H gd lv | f => K f) H gd lv) fs s P) :
    SX w A c ((execs (st :: rest) env).wrap K H gd lv) fs s P := by rw [execs_cons_wrap]; exact h
/-- a statement that yields nothing -/
theorem sx_stmt {st : Stmt} (h : Ok w (A.over c fs) (exec st env) (fun f s' => SX w A c (K f) fs s' P) s) : SX w A c ((exec st env).wrap K H gd lv) fs s P := sx_wrap h
theorem sx_at {p' : Pos} {k : Unit → Sem Fin} (h : SX w A c (k ()) fs s P) : SX w A c (.at p' k) fs s P := s_cmd pg w A c fs P (m := standAt p') (k := k) (wpAny_standAt h)
theorem sx_If {test : Expr} {body orelse : List Stmt} {pos : Pos}
    (h : Ok w (A.over c fs) (isTrue test env (eval test env)) (fun b s' => if b then SX w A c ((execs body env).wrap K H gd lv) fs s' P else SX w A c ((execs orelse env).wrap K H gd lv) fs s' P) s) :
    SX w A c ((exec (.If test body orelse pos) env).wrap K H gd lv) fs s P := by
  rw [exec_If]
  show SX w A c (.at pos fun _ => (isTrue test env (eval test env) >>= fun b => if b = true then execs body env else execs orelse env).wrap K H gd lv) fs s P
  refine sx_at ?_
  rw [Sem.bind_eq_wrap', Sem.wrap_wrap]
  refine sx_wrap (wpAny_mono h (fun b s' h' => ?_) fun _ _ e => e)
  cases b <;> exact h'
theorem sx_yld {v : Value} {g : Bool} {l : List Value} {k : Resume → Sem Fin} (hg : g = false) (hfs : splitAtGen fs = none) (hfg : fs.any Frame.guarded = false) (x : ∀ p, P (.susp v false l k c p fs) s) : SX w A c (.yield v g l k) fs s P := by
  subst hg
  exact s_yield pg w A c fs P s v l k hfs hfg x
theorem sx_yield {e : Expr} {ypos pos : Pos} (hfs : splitAtGen fs = none) (hgd : gd false = false) (hfg : fs.any Frame.guarded = false)
    (h : Ok w (A.over c fs) (eval e env) (fun v s' => ∀ l k p, (∀ s'' P', SX w A c (K .next) fs s'' P' → SX w A c (k (.send .none)) fs s'' P') → P (.susp v false l k c p fs) s') s)
    (hco : env.scope.isCoroutine = false := by rfl) (hi : interactive env = false := by rfl) :
    SX w A c ((exec (.Expr (.Yield (some e) ypos) pos) env).wrap K H gd lv) fs s P := by
  rw [exec_Expr env _ pos hi rfl]
  show SX w A c (.at pos fun _ => ((eval e env >>= fun v => (standAt ypos >>= fun _ => yieldOut env v)) >>= fun x => dropValue (.Yield (some e) ypos) pos x).wrap K H gd lv) fs s P
  have hy : ∀ v, yieldOut env v = yieldValue v := fun v => by simp only [yieldOut, hco, Bool.false_eq_true, if_false]
  simp only [hy]
  refine sx_at ?_
  rw [Sem.bind_eq_wrap', Sem.bind_eq_wrap', Sem.wrap_wrap, Sem.wrap_wrap]
  refine sx_wrap (wpAny_mono h (fun v s' h' => ?_) fun _ _ x => x)
  refine sx_at ?_
  show SX w A c (.yield v (gd false) _ _) fs s' P
  exact sx_yld hgd hfs hfg fun p => h' _ _ p fun s'' P' z => z
/-- a for inside a generator -/
theorem sx_For {target iter : Expr} {body orelse : List Stmt} {pos : Pos}
    (h : Ok w (A.over c fs) (eval iter env) (fun x s₁ => Ok w (A.over c fs) (pyIter x) (fun it s₂ => ∀ k g l p, (∀ f, k (.ok f) = K f) → g = gd false →
      SX w A (.forLoop target it body orelse env) (denote table (.forLoop target it body orelse env)) (.ret k none g l c p [] :: fs) s₂ P) s₁) s)
    (hs : ∀ x, foldedSetIterable iter env x = pure x := by intro _; rfl) :
    SX w A c ((exec (.For target iter body orelse pos) env).wrap K H gd lv) fs s P := by
  rw [exec_For]
  show SX w A c (.at pos fun _ => (eval iter env >>= fun x => foldedSetIterable iter env x >>= fun x => standAt iter.pos >>= fun _ => holding [x] (pyIter x) >>= fun it => runOwn (.forLoop target it body orelse env) env).wrap K H gd lv) fs s P
  refine sx_at ?_
  rw [Sem.bind_eq_wrap', Sem.wrap_wrap]
  refine sx_wrap (wpAny_mono h (fun x s₁ h₁ => ?_) fun _ _ e => e)
  rw [hs x]
  show SX w A c (.at iter.pos fun _ => (holding [x] (pyIter x) >>= fun it => runOwn (.forLoop target it body orelse env) env).wrap K H gd lv) fs s₁ P
  refine sx_at ?_
  rw [Sem.bind_eq_wrap', Sem.wrap_wrap]
  refine sx_wrap (wpAny_holding (wpAny_mono h₁ (fun it s₂ h₂ => ?_) fun _ _ e => e))
  show SX w A c (.call (.forLoop target it body orelse env) none (gd false) (lv []) _) fs s₂ P
  exact s_call pg w A c fs P s₂ _ none (gd false) (lv []) _ fun p => h₂ _ _ _ p (fun f => rfl) rfl
theorem sx_forLoop {target : Expr} {it : Value} {body orelse : List Stmt}
    (h : Ok w (A.over (.forLoop target it body orelse env) fs) (pyNext it) (fun r s₁ => match r with
      | none => SX w A (.block orelse env) (denote table (.block orelse env)) fs s₁ P
      | some v => Ok w (A.over (.forLoop target it body orelse env) fs) (letOwnedTupleGo target it v) (fun _ s₂ => Ok w (A.over (.forLoop target it body orelse env) fs) (assign target env v) (fun _ s₃ =>
          ∀ H, SX w A (.forLoop target it body orelse env) ((execs body env).wrap (fun f => match f with
            | .next | .cont => .pure (.again (.forLoop target it body orelse env))
            | .brk => .pure (.done .next)
            | .ret v => .pure (.done (.ret v))) H id id) fs s₃ P) s₂) s₁) s) :
    SX w A (.forLoop target it body orelse env) (denote table (.forLoop target it body orelse env)) fs s P := by
  show SX w A _ ((forTurn target it body orelse env).onRaise (fun x => do noteFrame x env; theTreesLotGoes x)) fs s P
  rw [Sem.onRaise_eq_wrap]
  unfold forTurn
  show SX w A _ (.at target.pos fun _ => Sem.wrap _ _ _ _ ((pyNext it).onRaise (fun _ => standAt { target.pos with line := 0 }) >>= _)) fs s P
  refine sx_at ?_
  rw [Sem.bind_eq_wrap', Sem.wrap_wrap]
  refine sx_wrap (wpAny_onRaise (wpAny_mono h (fun r s₁ h₁ => ?_) fun _ _ e => e.elim))
  cases r with
  | none => exact s_again pg w A _ fs P s₁ _ rfl h₁
  | some v =>
    show SX w A _ (Sem.wrap _ _ _ _ (letOwnedTupleGo target it v >>= _)) fs s₁ P
    rw [Sem.bind_eq_wrap', Sem.wrap_wrap]
    refine sx_wrap (wpAny_mono h₁ (fun _ s₂ h₂ => ?_) fun _ _ e => e)
    rw [Sem.bind_eq_wrap', Sem.wrap_wrap]
    refine sx_wrap (wpAny_mono h₂ (fun _ s₃ h₃ => ?_) fun _ _ e => e)
    rw [Sem.bind_eq_wrap', Sem.wrap_wrap]
    refine sx_same (fun f => ?_) (h₃ _)
    cases f <;> rfl
end
end Mine
end

section
open PySem PySem.W PySem.W.X PyProof.Rows
set_option Elab.async false
set_option maxRecDepth 100000
namespace Mine

def stm (k : Nat) : Stmt := (pg.main.body[k]?).getD (.Pass default)
def fname (k : Nat) : Str := match stm k with | .FunctionDef n .. => n | _ => default
def fargs (k : Nat) : Arguments := match stm k with | .FunctionDef _ a .. => a | _ => default
def fbody (k : Nat) : List Stmt := match stm k with | .FunctionDef _ _ b .. => b | _ => []
def fscope (k : Nat) : Scope := match stm k with | .FunctionDef _ _ _ _ _ _ s .. => s | _ => default

def forBody (k i : Nat) : List Stmt := match (fbody k).getD i (.Pass default) with | .For _ _ b _ _ => b | _ => []
def Glb (g : Heap) (n : Str) (v : Value) : Prop := ∃ mg, g.Ns mainGlobals mg ∧ (mg n = some v ∨ (mg n = none ∧ ∃ mb, g.Ns builtinsNs mb ∧ mb n = some v))
theorem Glb.ext {g g' : Heap} {n : Str} {v : Value} (x : Glb g n v) (e : Ext g g') : Glb g' n v :=
  let ⟨mg, a, b⟩ := x; ⟨mg, a.keeps e, b.imp id fun ⟨c, mb, d, f⟩ => ⟨c, mb, d.keeps e, f⟩⟩
def IsFn (g : Heap) (k : Nat) (f : Addr) : Prop := ∃ o pm cd doc, g.get? f = some o ∧ o.data = .func (Calls.docDef (fname k) (fargs k) (fbody k) (fscope k) pm cd doc) ∧ g.CodeRec cd (fname k)
theorem IsFn.ext {g g' : Heap} {k : Nat} {f : Addr} (x : IsFn g k f) (e : Ext g g') : IsFn g' k f :=
  let ⟨o, pm, cd, doc, a, b, c⟩ := x; ⟨o, pm, cd, doc, e _ _ a, b, c.keeps e⟩
def bltins : List (Str × Value) := [(Str.ofString "enumerate", .type "enumerate"), (Str.ofString "len", .builtin "len"), (Str.ofString "range", .type "range"), (Str.ofString "sum", .builtin "sum"),
  (Str.ofString "str", .type "str"), (Str.ofString "int", .type "int"), (Str.ofString "list", .type "list"), (Str.ofString "sorted", .builtin "sorted")]
structure Base (g : Heap) : Prop where
  lim : g.NoLimit
  fn : ∀ k ∈ [3, 4, 5, 6, 8, 9, 10, 11, 12, 13], ∃ f, Glb g (fname k) (.ref f) ∧ IsFn g k f
  blt : ∀ p ∈ bltins, Glb g p.1 p.2
theorem Base.ext {g g' : Heap} (B : Base g) (e : Ext g g') : Base g' :=
  ⟨B.lim.keeps e, fun k hk => let ⟨f, a, b⟩ := B.fn k hk; ⟨f, a.ext e, b.ext e⟩, fun p hp => (B.blt p hp).ext e⟩

def IsPair (h : Heap) (v : Value) (p : Int) (x : Str) : Prop := ∃ a tk tk', v = .ref a ∧ IsTup h a #[.int p tk, .str x tk']

def GRun (w : World) (A : Around) : List (Int × Str) → Code → Sem Fin → List Frame → List Ent → Prop
  | [], c, tr, fs, pv => ∀ g R h gn d t os, Base g → St g (pv ++ R) h →
      SX w A c tr fs ⟨h, gn, d, t, os⟩ (fun e s' => e = .ret (.ok (.ret .none)) ∧ ∃ h' t', s' = ⟨h', gn, d, t', os⟩ ∧ St g R h')
  | (p, x) :: rest, c, tr, fs, pv => ∀ g R h gn d t os, Base g → St g (pv ++ R) h →
      SX w A c tr fs ⟨h, gn, d, t, os⟩ (fun e s' => ∃ v l k c' pp fs' pv' h' t', e = .susp v false l k c' pp fs' ∧ s' = ⟨h', gn, d, t', os⟩ ∧ St g (pv' ++ R) h' ∧ IsPair h' v p x ∧ fs'.any Frame.guarded = false ∧
        GRun w A rest c' (k (.send .none)) fs' pv')

/-- what a generator's state says of its next segment -/
def Sus (gs : GenState) (c : Code) (tr : Sem Fin) (fs : List Frame) : Prop :=
  (gs = .fresh c ∧ tr = denote table c ∧ fs = []) ∨ ∃ k l p, gs = .suspended k l c p fs false ∧ tr = k (.send .none)

section
variable {w : World} {A : Around} {g h : Heap} {R pv : List Ent} {gn : Array GenState} {d : Drawn} {t : Nat} {os : OsState} {a k : Nat} {gs : GenState} {c : Code} {tr : Sem Fin} {fs : List Frame}

theorem next_seg {Q : Option Value → Shared → Prop} {P : End → Shared → Prop} (hf : Fine A 1) (lim : h.NoLimit) (hg : h.IsGen a k) (hgs : gn[k]? = some gs) (hs : Sus gs c tr fs)
    (G : SX w A.in1 c tr fs ⟨h, gn.setIfInBounds k .running, d, t, os⟩ P)
    (qy : ∀ v l k' c' pp fs' s', P (.susp v false l k' c' pp fs') s' → Q (some v) (s'.setGen k (.suspended k' l c' pp fs' (fs'.any Frame.guarded))))
    (qr : ∀ r s', P (.ret r) s' → r = .ok (.ret .none) ∧ ∀ h', Ext s'.heap h' → Q none { s'.setGen k .finished with heap := h' })
    (qn : ∀ v l k' c' pp fs' s', ¬ P (.susp v true l k' c' pp fs') s') :
    Ok w A (pyNext (.ref a)) Q ⟨h, gn, d, t, os⟩ := by
  unfold pyNext
  have hT : (⟨h, gn, d, t, os⟩ : Shared).TypeIs (.ref a) "generator" := Heap.IsGen.typeIs (s := ⟨h, gn, d, t, os⟩) hg
  refine wpAny_bind (wpAny_attempt (wpAny_callSpecial?_slot (name := Str.ofString "__next__") hT slot_gen_next (wpAny_call_entry slot_gen_next hT entry_gen_next ?_ (args_gen_next _))))
  show wpAny _ _ (Builtin.Generator.genWake (.ref a) (.send .none)) _ _ _
  unfold Builtin.Generator.genWake
  refine wpAny_bind (wpAny_holding (wpAny_genNumber (s := ⟨h, gn, d, t, os⟩) hg (wpAny_bind (wpAny_genState (s := ⟨h, gn, d, t, os⟩) hgs ?_))))
  have core : ∀ (K : GenResult → Sem Fin) (QF : Fin → Shared → Prop) (EF : Value → Shared → Prop), (∀ e s', P e s' → wpAny (model pg w) A.in1 (K e.result) QF EF (s'.setGen k e.genState)) →
      wpAny (model pg w) A.in1 (.resume k (.send .none) [] K) QF EF ⟨h, gn, d, t, os⟩ := by
    intro K QF EF hk Γ p hΓ
    refine wake_any (α := Fin) (prog := pg) (w := w) (A := A.in1) (Q := QF) (E := EF) (s := ⟨h, gn, d, t, os⟩) (g := k) (gs := gs) (c₀ := c) (t₀ := tr) (fs₀ := fs) hgs ?_ (fun Γ => Γ.In A.in1) (fun _ x => x) ?_ Γ p hΓ
    · rcases hs with ⟨e1, e2, e3⟩ | ⟨k', l, p', e1, e2⟩
      · exact .inl ⟨e1, rfl, e2, e3⟩
      · exact .inr ⟨k', l, p', false, e1, e2⟩
    · exact SegX.mono G fun e s' pe Γ p hΓ => hk e s' pe Γ p hΓ
  have hst : gs.status = .fresh ∨ gs.status = .suspended := by
    rcases hs with ⟨rfl, _, _⟩ | ⟨_, _, _, rfl, _⟩
    · exact .inl rfl
    · exact .inr rfl
  have key : ∀ K : GenResult → Sem Fin, (∀ e s', P e s' → wpAny (model pg w) A.in1 (K e.result) (fun fin s' => ∃ v, fin = Fin.done (Flow.ret v) ∧ Q (some v) s') (fun e s' => wpAny (model pg w) A (isInstance e (.type "StopIteration")) (fun b s'' => b = true ∧ Q none s'') (fun _ _ => False) s') (s'.setGen k e.genState)) →
      wpAny (model pg w) A.in1 (roomToWake >>= fun _ => (.resume k (.send .none) [] K : Sem Fin)) (fun fin s' => ∃ v, fin = Fin.done (Flow.ret v) ∧ wpAny (model pg w) A (pure (some v) : Sem (Option Value)) Q (fun _ _ => False) s') (fun e s' => wpAny (model pg w) A (do let b ← isInstance e (.type "StopIteration"); if b = true then pure none else throw e : Sem (Option Value)) Q (fun _ _ => False) s') ⟨h, gn, d, t, os⟩ := by
    intro K hK
    refine wpAny_bind (wpAny_roomToWake lim (show A.in1.depth < _ from hf.room) (wpAny_mono (core K _ _ hK) (fun fin s' ⟨v, e, q⟩ => ⟨v, e, wpAny_pure q⟩) fun e s' q => wpAny_bind (wpAny_mono q (fun b s'' ⟨eb, qn⟩ => by subst eb; exact wpAny_pure qn) fun _ _ e => e)))
  rcases hst with e | e <;> (simp only [e]; refine key _ ?_)
  all_goals
      intro e s' pe
      cases e with
      | susp v g' l k' c' pp fs' =>
        cases g' with
        | true => exact absurd pe (qn v l k' c' pp fs' s')
        | false => exact wpAny_pure ⟨v, rfl, by simpa [End.genState] using qy v l k' c' pp fs' s' pe⟩
      | ret r =>
        obtain ⟨rfl, q⟩ := qr r s' pe
        show wpAny _ _ (newExc (.type "StopIteration") [] >>= _) _ _ _
        refine wpAny_bind ?_
        simp only [newExc, newTuple]
        refine wpAny_bind (wpAny_newObj_type ?_ (by size_fits))
        refine wpAny_bind (m := firstArgMember _ _) (wpAny_of_eq (a := Value.none) (by first | rfl | (simp only [firstArgMember]; rfl)) ?_)
        refine wpAny_newObj_type ?_ (by size_fits)
        simp only [raiseNew]
        refine wpAny_bind (wpAny_bind (wpAny_handled ?_))
        rw [show A.in1.handled = none from hf.1]
        refine wpAny_throw ?_
        refine wpAny_isInstance (T := "StopIteration") (b := true) ⟨_, Heap.get?_push_size _ rfl, rfl⟩ isSubtype_stop ⟨rfl, q _ fun b o hb => Heap.get?_push_of_some _ (Heap.get?_push_of_some _ hb)⟩
end
end Mine
end

section
open PySem PySem.W PySem.W.X PyProof.Rows
set_option Elab.async false
set_option maxRecDepth 100000
namespace Mine

section
variable {w : World} {A : Around} {g h : Heap} {R pv : List Ent} {gn : Array GenState} {d : Drawn} {t : Nat} {os : OsState} {a k : Nat} {gs : GenState} {c : Code} {tr : Sem Fin} {fs : List Frame}
theorem next_some {Q : Option Value → Shared → Prop} {p : Int} {x : Str} {rest : List (Int × Str)} (G : GRun w A.in1 ((p, x) :: rest) c tr fs pv) (hf : Fine A 1) (B : Base g) (S : St g (pv ++ R) h) (hg : h.IsGen a k) (hgs : gn[k]? = some gs) (hs : Sus gs c tr fs)
    (q : ∀ v h' t' gs' c' tr' fs' pv', Sus gs' c' tr' fs' → GRun w A.in1 rest c' tr' fs' pv' → St g (pv' ++ R) h' → IsPair h' v p x → Q (some v) ⟨h', (gn.setIfInBounds k .running).setIfInBounds k gs', d, t', os⟩) :
    Ok w A (pyNext (.ref a)) Q ⟨h, gn, d, t, os⟩ := by
  refine next_seg hf (B.lim.keeps S.ext) hg hgs hs (G g R h _ d t os B S) ?_ ?_ ?_
  · rintro v l k' c' pp fs' s' ⟨v, l, k', c', pp, fs', pv', h', t', e, rfl, S', hp, hgd, G'⟩
    cases e
    exact q v h' t' _ c' _ fs' pv' (.inr ⟨k', l, pp, by rw [hgd], rfl⟩) G' S' hp
  · rintro r s' ⟨v, l, k', c', pp, fs', pv', h', t', e, _⟩
    cases e
  · rintro v l k' c' pp fs' s' ⟨v, l, k', c', pp, fs', pv', h', t', e, _⟩
    cases e
theorem next_none {Q : Option Value → Shared → Prop} (G : GRun w A.in1 [] c tr fs pv) (hf : Fine A 1) (B : Base g) (S : St g (pv ++ R) h) (hg : h.IsGen a k) (hgs : gn[k]? = some gs) (hs : Sus gs c tr fs)
    (q : ∀ h' t', St g R h' → Q none ⟨h', (gn.setIfInBounds k .running).setIfInBounds k .finished, d, t', os⟩) :
    Ok w A (pyNext (.ref a)) Q ⟨h, gn, d, t, os⟩ := by
  refine next_seg hf (B.lim.keeps S.ext) hg hgs hs (G g R h _ d t os B S) ?_ ?_ ?_
  · rintro v l k' c' pp fs' s' ⟨e, _⟩
    cases e
  · rintro r s' ⟨e, h', t', rfl, S'⟩
    cases e
    exact ⟨rfl, fun h'' x => q h'' t' (S'.grow x)⟩
  · rintro v l k' c' pp fs' s' ⟨e, _⟩
    cases e
theorem GRun.map {items : List (Int × Str)} {tr' : Sem Fin} (G : GRun w A items c tr' fs pv) (x : ∀ s P, SX w A c tr' fs s P → SX w A c tr fs s P) : GRun w A items c tr fs pv := by
  cases items with
  | nil => exact fun g R h gn d t os B S => x _ _ (G g R h gn d t os B S)
  | cons i r => obtain ⟨p, y⟩ := i; exact fun g R h gn d t os B S => x _ _ (G g R h gn d t os B S)
/-- a generator's run by what holds behind some steps -/
theorem GRun.step {items : List (Int × Str)} {c' : Code} {tr' : Sem Fin} {fs' : List Frame} {pv' : List Ent} (G : GRun w A items c' tr' fs' pv')
    (x : ∀ g R h gn d t os P, Base g → St g (pv ++ R) h → (∀ h' t', St g (pv' ++ R) h' → SX w A c' tr' fs' ⟨h', gn, d, t', os⟩ P) → SX w A c tr fs ⟨h, gn, d, t, os⟩ P) : GRun w A items c tr fs pv := by
  cases items with
  | nil => exact fun g R h gn d t os B S => x g R h gn d t os _ B S fun h' t' S' => G g R h' gn d t' os B S'
  | cons i r => obtain ⟨p, y⟩ := i; exact fun g R h gn d t os B S => x g R h gn d t os _ B S fun h' t' S' => G g R h' gn d t' os B S'
end

section
variable {w : World} {A : Around} {g h : Heap} {es : List Ent} {gn : Array GenState} {d : Drawn} {t : Nat} {os : OsState} {env : Env}

theorem e_loc {x : Str} {pos : Pos} {m : Str → Option Value} {v : Value} {Q : Value → Shared → Prop} (S : St g es h) (i : Nat) (hi : es[i]? = some (env.locals, isNs m)) (hv : m x = some v) (q : Q v ⟨h, gn, d, t, os⟩)
    (hk : env.scope.kind = .function := by rfl) (hl : env.kindOf x = some .local := by rfl) (hd : (x == ("__debug__" : Str)) = false := by rfl) : Ok w A (eval (.Name x pos) env) Q ⟨h, gn, d, t, os⟩ :=
  wpAny_Name (wpAny_loadName_local hk hl (ns_iff.mp (S.at i hi)) hv q) hd
theorem e_cell {x : Str} {pos : Pos} {c : Addr} {v : Value} {Q : Value → Shared → Prop} (S : St g es h) (i : Nat) (hi : es[i]? = some (c, isCell (some v))) (hc : env.cells.lookup x = some c) (q : Q v ⟨h, gn, d, t, os⟩)
    (hk : env.scope.kind = .function := by rfl) (hl : env.kindOf x = some .cell := by rfl) (hd : (x == ("__debug__" : Str)) = false := by rfl) : Ok w A (eval (.Name x pos) env) Q ⟨h, gn, d, t, os⟩ :=
  wpAny_Name (wpAny_loadName_cell hk hl hc (cell_iff.mp (S.at i hi)) q) hd
theorem e_glb {x : Str} {pos : Pos} {v : Value} {Q : Value → Shared → Prop} (S : St g es h) (G : Glb g x v) (q : Q v ⟨h, gn, d, t, os⟩)
    (hg : env.globals = mainGlobals := by rfl) (hb : env.builtins = builtinsNs := by rfl)
    (hk : env.scope.kind = .function := by rfl) (hl : env.kindOf x = some .globalImplicit := by rfl) (hd : (x == ("__debug__" : Str)) = false := by rfl) : Ok w A (eval (.Name x pos) env) Q ⟨h, gn, d, t, os⟩ := by
  obtain ⟨mg, G1, G2⟩ := G
  refine Calls.Name_function_global hk hl ?_ hd
  rcases G2 with G2 | ⟨G2, mb, G3, G4⟩
  · exact Calls.loadGlobal_global (by rw [hg]; exact G1.keeps S.ext) G2 q
  · exact Calls.loadGlobal_builtin (by rw [hg]; exact G1.keeps S.ext) G2 (by rw [hb]; exact G3.keeps S.ext) G4 q
theorem s_loc {x : Str} {m : Str → Option Value} {v : Value} {Q : Unit → Shared → Prop} (S : St g es h) (i : Nat) (hi : es[i]? = some (env.locals, isNs m))
    (q : ∀ h' t', St g (es.set i (env.locals, isNs fun y => if y = x then some v else m y)) h' → Q () ⟨h', gn, d, t', os⟩)
    (hk : env.scope.kind = .function := by rfl) (hl : env.kindOf x = some .local := by rfl) : Ok w A (storeName env x v) Q ⟨h, gn, d, t, os⟩ :=
  wpAny_storeName_local hl (ns_iff.mp (S.at i hi)) (fun h' hn hs => q h' _ (S.set i hi hs (ns_iff.mpr hn))) (by rw [hk]; rfl)
theorem s_cell {x : Str} {c : Addr} {v : Value} {v₀ : Option Value} {Q : Unit → Shared → Prop} (S : St g es h) (i : Nat) (hi : es[i]? = some (c, isCell v₀)) (hc : env.cells.lookup x = some c)
    (q : ∀ h', St g (es.set i (c, isCell (some v))) h' → Q () ⟨h', gn, d, t, os⟩)
    (hk : env.scope.kind = .function := by rfl) (hl : env.kindOf x = some .cell := by rfl) : Ok w A (storeName env x v) Q ⟨h, gn, d, t, os⟩ :=
  wpAny_storeName_cell hk hl hc (cell_iff.mp (S.at i hi)) fun h' hn hs => q h' (S.set i hi hs (cell_iff.mpr hn))
theorem a_loc {x : Str} {pos : Pos} {m : Str → Option Value} {v : Value} {Q : Unit → Shared → Prop} (S : St g es h) (i : Nat) (hi : es[i]? = some (env.locals, isNs m))
    (q : ∀ h' t', St g (es.set i (env.locals, isNs fun y => if y = x then some v else m y)) h' → Q () ⟨h', gn, d, t', os⟩)
    (hk : env.scope.kind = .function := by rfl) (hl : env.kindOf x = some .local := by rfl) : Ok w A (assign (.Name x pos) env v) Q ⟨h, gn, d, t, os⟩ :=
  wpAny_assign_Name (s_loc S i hi q hk hl)
theorem e_pair {e1 e2 : Expr} {k : Nat} {pos : Pos} {Q : Value → Shared → Prop}
    (q : Ok w A (eval e1 env) (fun v1 s1 => Ok w A (eval e2 env) (fun v2 s2 => Q (.ref s2.heap.objs.size) { s2 with heap := s2.heap.push { cls := .type "tuple", data := .seq #[v1, v2] } }) s1) ⟨h, gn, d, t, os⟩)
    (he : starEach [e1, e2] env = [(false, eval e1 env), (false, eval e2 env)] := by rfl) :
    Ok w A (eval (.Tuple [e1, e2] k pos) env) Q ⟨h, gn, d, t, os⟩ := by
  refine wpAny_Tuple ?_
  rw [he]
  show wpAny _ _ (eval e1 env >>= _) _ _ _
  refine wpAny_bind (wpAny_mono q (fun v1 s1 h1 => ?_) fun _ _ e => e)
  refine wpAny_bind (wpAny_pure ?_)
  refine wpAny_bind (wpAny_holding ?_)
  show wpAny _ _ (eval e2 env >>= _) _ _ _
  refine wpAny_bind (wpAny_mono h1 (fun v2 s2 h2 => ?_) fun _ _ e => e)
  refine wpAny_bind (wpAny_pure ?_)
  refine wpAny_bind (wpAny_holding (wpAny_pure ?_))
  exact wpAny_pure (wpAny_pure ⟨by show 2 ≤ sizeLine; decide, h2⟩)

def upd (m : Str → Option Value) (x : Str) (v : Value) : Str → Option Value := fun y => if y = x then some v else m y
section
variable {R : List Ent} {Q : Value → Shared → Prop} {m : Str → Option Value} {x : Str} {v : Value} {pos : Pos} {L : Addr}
theorem e_loc0 (S : St g ((L, isNs m) :: R) h) (hv : m x = some v) (q : Q v ⟨h, gn, d, t, os⟩) (hL : env.locals = L := by rfl)
    (hk : env.scope.kind = .function := by rfl) (hl : env.kindOf x = some .local := by rfl) (hd : (x == ("__debug__" : Str)) = false := by rfl) : Ok w A (eval (.Name x pos) env) Q ⟨h, gn, d, t, os⟩ :=
  e_loc S 0 (by rw [hL]; rfl) hv q hk hl hd
theorem s_loc0 {Q : Unit → Shared → Prop} (S : St g ((L, isNs m) :: R) h) (q : ∀ h' t', St g ((L, isNs (upd m x v)) :: R) h' → Q () ⟨h', gn, d, t', os⟩) (hL : env.locals = L := by rfl)
    (hk : env.scope.kind = .function := by rfl) (hl : env.kindOf x = some .local := by rfl) : Ok w A (storeName env x v) Q ⟨h, gn, d, t, os⟩ := by
  subst hL
  exact s_loc S 0 rfl q hk hl
theorem a_loc0 {Q : Unit → Shared → Prop} (S : St g ((L, isNs m) :: R) h) (q : ∀ h' t', St g ((L, isNs (upd m x v)) :: R) h' → Q () ⟨h', gn, d, t', os⟩) (hL : env.locals = L := by rfl)
    (hk : env.scope.kind = .function := by rfl) (hl : env.kindOf x = some .local := by rfl) : Ok w A (assign (.Name x pos) env v) Q ⟨h, gn, d, t, os⟩ :=
  wpAny_assign_Name (s_loc0 S q hL hk hl)
theorem e_int {i : Int} {k : Nat} (q : ∀ tk t', Q (.int i tk) ⟨h, gn, d, t', os⟩) : Ok w A (eval (.Constant (.int i) k pos) env) Q ⟨h, gn, d, t, os⟩ := wpAny_Constant_int (q _ _)
theorem e_str {i : Str} {k : Nat} (q : ∀ tk t', Q (.str i tk) ⟨h, gn, d, t', os⟩) : Ok w A (eval (.Constant (.str i) k pos) env) Q ⟨h, gn, d, t, os⟩ := wpAny_Constant_str (q _ _)
theorem e_bool {i : Bool} {k : Nat} (q : Q (.bool i) ⟨h, gn, d, t, os⟩) : Ok w A (eval (.Constant (.bool i) k pos) env) Q ⟨h, gn, d, t, os⟩ := wpAny_Constant_bool q
theorem e_none {k : Nat} (q : Q .none ⟨h, gn, d, t, os⟩) : Ok w A (eval (.Constant .none k pos) env) Q ⟨h, gn, d, t, os⟩ := wpAny_Constant_none q
theorem x_asg {y : Str} {p : Pos} {value : Expr} {Q : Flow → Shared → Prop} {s : Shared} (q : Ok w A (eval value env) (fun v s₁ => Ok w A (storeName env y v) (fun _ => Q .next) s₁) s)
    (hs : swapsWith value (some (.Name y p)) pos.line env = pure false := by rfl) : Ok w A (exec (.Assign [.Name y p] value pos) env) Q s := wpAny_Assign_Name q hs
theorem x_cons {st : Stmt} {rest : List Stmt} {Q : Flow → Shared → Prop} {s : Shared} (q : Ok w A (exec st env) (fun f s' => match f with | .next => Ok w A (execs rest env) Q s' | f => Q f s') s) : Ok w A (execs (st :: rest) env) Q s := wpAny_execs_cons q
theorem x_ret {e : Expr} {Q : Flow → Shared → Prop} {s : Shared} (q : Ok w A (eval e env) (fun v => Q (.ret v)) s) : Ok w A (exec (.Return (some e) pos) env) Q s := wpAny_Return_some q
theorem x_if {test : Expr} {body orelse : List Stmt} {Q : Flow → Shared → Prop} {s : Shared} (q : Ok w A (isTrue test env (eval test env)) (fun b s₂ => if b then Ok w A (execs body env) Q s₂ else Ok w A (execs orelse env) Q s₂) s) : Ok w A (exec (.If test body orelse pos) env) Q s := wpAny_If q
theorem t_bool {b : Bool} {Q : Bool → Shared → Prop} {s : Shared} (q : Q b s) : Ok w A (truthy (.bool b)) Q s := wpAny_truthy_bool q
theorem t_cmp {l r : Expr} {op : CmpOp} {whole : Sem Value} {Q : Bool → Shared → Prop} {s : Shared}
    (q : Ok w A (eval l env) (fun a s₁ => Ok w A (eval r env) (fun b s₂ => Ok w A (compareOp op a b) (fun c s₃ => Ok w A (truthy c) Q s₃) s₂) s₁) s) (hm : behindInMarks op r = false := by rfl) : Ok w A (isTrue (.Compare l [op] [r] pos) env whole) Q s := wpAny_isTrue_Compare1 q hm
theorem t_val {e : Expr} {whole : Sem Value} {Q : Bool → Shared → Prop} {s : Shared} (q : Ok w A whole (fun v s₁ => Ok w A (truthy v) Q s₁) s)
    (he : isTrue e env whole = (do let v ← whole; standAt e.pos; holding [v] (truthy v)) := by rfl) : Ok w A (isTrue e env whole) Q s := wpAny_isTrue_value q he
theorem e_bin {l r : Expr} {op : Operator} {Q : Value → Shared → Prop} {s : Shared} (q : Ok w A (eval l env) (fun a s₁ => Ok w A (eval r env) (fun b s₂ => Ok w A (binaryOp op a b) Q s₂) s₁) s) : Ok w A (eval (.BinOp l op r pos) env) Q s := wpAny_BinOp q
theorem e_cmp {l r : Expr} {op : CmpOp} {Q : Value → Shared → Prop} {s : Shared} (q : Ok w A (eval l env) (fun a s₁ => Ok w A (eval r env) (fun b s₂ => Ok w A (compareOp op a b) Q s₂) s₁) s) (hm : behindInMarks op r = false := by rfl) : Ok w A (eval (.Compare l [op] [r] pos) env) Q s := wpAny_Compare1 q hm
variable {a b : Int} {u u' : Tok} {y z : Str}
theorem o_add (q : ∀ tk t', Q (.int (a + b) tk) ⟨h, gn, d, t', os⟩) : Ok w A (binaryOp .Add (.int a u) (.int b u')) Q ⟨h, gn, d, t, os⟩ := PyProof.Rows.add_int (q _ _)
theorem o_sub (q : ∀ tk t', Q (.int (a - b) tk) ⟨h, gn, d, t', os⟩) : Ok w A (binaryOp .Sub (.int a u) (.int b u')) Q ⟨h, gn, d, t, os⟩ := PyProof.Rows.sub_int (q _ _)
theorem o_cat (q : ∀ tk t', Q (.str (y ++ z) tk) ⟨h, gn, d, t', os⟩) (hz : y.length + z.length ≤ sizeLine) : Ok w A (binaryOp .Add (.str y u) (.str z u')) Q ⟨h, gn, d, t, os⟩ := PyProof.Rows.add_str (fun t' tk => q t' tk) hz
theorem o_lt (q : Q (.bool (decide (a < b))) ⟨h, gn, d, t, os⟩) : Ok w A (compareOp .Lt (.int a u) (.int b u')) Q ⟨h, gn, d, t, os⟩ := PyProof.Rows.lt_int q
theorem o_gt (q : Q (.bool (decide (b < a))) ⟨h, gn, d, t, os⟩) : Ok w A (compareOp .Gt (.int a u) (.int b u')) Q ⟨h, gn, d, t, os⟩ := PyProof.Rows.gt_int q
theorem o_eq (q : Q (.bool (a == b)) ⟨h, gn, d, t, os⟩) : Ok w A (compareOp .Eq (.int a u) (.int b u')) Q ⟨h, gn, d, t, os⟩ := PyProof.Rows.eq_int q
theorem o_ne (q : Q (.bool (a != b)) ⟨h, gn, d, t, os⟩) : Ok w A (compareOp .NotEq (.int a u) (.int b u')) Q ⟨h, gn, d, t, os⟩ := PyProof.Rows.ne_int q
theorem o_seq (q : Q (.bool (y == z)) ⟨h, gn, d, t, os⟩) : Ok w A (compareOp .Eq (.str y u) (.str z u')) Q ⟨h, gn, d, t, os⟩ := PyProof.Rows.eq_str q
theorem o_sne (q : Q (.bool (y != z)) ⟨h, gn, d, t, os⟩) : Ok w A (compareOp .NotEq (.str y u) (.str z u')) Q ⟨h, gn, d, t, os⟩ := PyProof.Rows.ne_str q
end
end
end Mine
end

section
open PySem PySem.W PySem.W.X PyProof.Rows
set_option Elab.async false
set_option maxRecDepth 100000
namespace Mine

def isStrIt (x : Str) (tk : Tok) (i : Nat) : Obj → Prop := fun o => o.cls = .type (strIterType x) ∧ o.data = .fields #[.str x tk, .int i 0]
def isEnm (it : Addr) (i : Int) (old : Value) : Obj → Prop := fun o => o = { cls := .type "enumerate", dict := none, data := .fields #[.none, .bool false, .ref it, rawInt i, .none, old], slots := #[] }
theorem strit_iff {h : Heap} {a : Addr} {x : Str} {tk : Tok} {i : Nat} : Pt h a (isStrIt x tk i) ↔ h.IsStrIter a (strIterType x) x tk i := Iff.rfl
theorem enm_iff {h : Heap} {a it : Addr} {i : Int} {old : Value} : Pt h a (isEnm it i old) ↔ IsEnum h a it i old := by
  constructor
  · rintro ⟨o, e, rfl⟩; exact e
  · intro e; exact ⟨_, e, rfl⟩
theorem draws_str {w : World} {A : Around} (hh : A.handled = none) (it : Addr) (x : Str) (t : Tok) :
    Draws pg w A it [it] x.cps.size (fun i v => ∃ c u, x.cps[i]? = some c ∧ v = .str ⟨#[c]⟩ u) (fun i h => h.IsStrIter it (strIterType x) x t i) := by
  unfold strIterType
  split
  · exact Draws.strAscii hh it x t
  · exact Draws.strWide hh it x t

section
variable {g h h' : Heap} {R : List Ent} {a0 a1 a2 : Addr} {P0 P1 P2 P1' P2' : Obj → Prop}
theorem St.two (S : St g ((a0, P0) :: (a1, P1) :: (a2, P2) :: R) h) (k : ∀ b o, b ≠ a1 → b ≠ a2 → h.get? b = some o → h'.get? b = some o) (p1 : Pt h' a1 P1') (p2 : Pt h' a2 P2') :
    St g ((a0, P0) :: (a1, P1') :: (a2, P2') :: R) h' := by
  have n1 : g.get? a1 = none := S.new (a1, P1) (by simp)
  have n2 : g.get? a2 = none := S.new (a2, P2) (by simp)
  have nd := S.nd
  refine ⟨fun b o e => ?_, fun e he => ?_, nd, fun e he => ?_⟩
  · refine k b o ?_ ?_ (S.ext b o e)
    · rintro rfl; rw [n1] at e; cases e
    · rintro rfl; rw [n2] at e; cases e
  · simp only [List.map_cons, List.nodup_cons, List.mem_cons, not_or] at nd
    rcases List.mem_cons.mp he with rfl | he
    · obtain ⟨o, e, q⟩ := S.pts (a0, P0) (by simp)
      exact ⟨o, k _ o nd.1.1 nd.1.2.1 e, q⟩
    rcases List.mem_cons.mp he with rfl | he
    · exact p1
    rcases List.mem_cons.mp he with rfl | he
    · exact p2
    obtain ⟨o, eo, q⟩ := S.pts e (by simp [he])
    have hm : e.1 ∈ R.map (·.1) := List.mem_map_of_mem he
    refine ⟨o, k _ o ?_ ?_ eo, q⟩
    · intro z; exact nd.2.1.2 (z ▸ hm)
    · intro z; exact nd.2.2.1 (z ▸ hm)
  · rcases List.mem_cons.mp he with rfl | he
    · exact S.new _ (by simp)
    rcases List.mem_cons.mp he with rfl | he
    · exact n1
    rcases List.mem_cons.mp he with rfl | he
    · exact n2
    exact S.new e (by simp [he])
end

section
variable {w : World} {A : Around} {g h : Heap} {R : List Ent} {gn : Array GenState} {d : Drawn} {t : Nat} {os : OsState} {env : Env} {e it : Addr} {x : Str} {tk : Tok} {i : Nat} {old : Value} {m : Str → Option Value}

theorem enum_turn {n : Nat} {n1 n2 : Str} {p1 p2 pt : Pos} {x1 : Nat} {c : Nat} {Q : Shared → Prop} (hf : Fine A (n + 1)) (hx : x.cps[i]? = some c) (S : St g ((env.locals, isNs m) :: (e, isEnm it i old) :: (it, isStrIt x tk i) :: R) h)
    (h1 : env.kindOf n1 = some .local) (h2 : env.kindOf n2 = some .local) (hk : env.scope.kind = .function)
    (q : ∀ h' t' u1 u2, St g ((env.locals, isNs fun y => if y = n2 then some (.str ⟨#[c]⟩ u2) else if y = n1 then some (.int i u1) else m y) :: (e, isEnm it ((i + 1 : Nat) : Int) (.str ⟨#[c]⟩ u2)) :: (it, isStrIt x tk (i + 1)) :: R) h' → Q ⟨h', gn, d, t', os⟩)
    {N : Shared → Prop} :
    Ok w A (pyNext (.ref e)) (fun r s₁ => match r with
      | none => N s₁
      | some v => Ok w A (letOwnedTupleGo (.Tuple [.Name n1 p1, .Name n2 p2] x1 pt) (.ref e) v) (fun _ s₂ => Ok w A (assign (.Tuple [.Name n1 p1, .Name n2 p2] x1 pt) env v) (fun _ s₃ => Q s₃) s₂) s₁) ⟨h, gn, d, t, os⟩ := by
  have he := enm_iff.mp (S.at 1 rfl)
  have hit := strit_iff.mp (S.at 2 rfl)
  have hne : e ≠ it := S.addr_ne (i := 1) (j := 2) (by decide) rfl rfl
  have hlt : i < x.cps.size := (Array.getElem?_eq_some_iff.mp hx).1
  have heH : e < h.objs.size := Heap.lt_size he
  refine wpAny_pyNext_enum_itemD (s := ⟨h, gn, d, t, os⟩) (draws_str hf.in1.1 it x tk) he hit hlt hne (by simpa using hne) fun v h' tk1 hP hout hst htup hsz hkeep => ?_
  obtain ⟨c', u, hc', rfl⟩ := hP
  rw [hx] at hc'
  cases hc'
  refine wpAny_letOwnedTupleGo_enum hout fun h₂ he₂ hs₂ => ?_
  replace hs₂ : Heap.SameBut e h' h₂ := hs₂
  have ht₂ : h₂.IsTuple h.objs.size #[.int i tk1, .str ⟨#[c]⟩ u] := ⟨_, (hs₂.2 _ (Nat.ne_of_gt heH)).trans htup, rfl, _, rfl⟩
  have S₂ : St g ((env.locals, isNs m) :: (e, isEnm it ((i + 1 : Nat) : Int) (.str ⟨#[c]⟩ u)) :: (it, isStrIt x tk (i + 1)) :: R) h₂ := by
    refine S.two (fun b o b1 b2 eo => (hs₂.2 b b1).trans (hkeep b o b1 b2 eo)) (enm_iff.mpr ?_) ?_
    · have : ((i + 1 : Nat) : Int) = (i : Int) + 1 := by push_cast; rfl
      rw [this]; exact he₂
    · exact hst.extBut hs₂.extBut hne.symm
  refine wpAny_assign_Tuple hf.1 ht₂ rfl rfl fun h₃ hx₃ => ?_
  replace hx₃ : Heap.ExtBut h₂.objs.size h₂ h₃ := hx₃
  have S₃ := S₂.grow (h' := h₃) fun b o eo => hx₃ b o (Nat.ne_of_lt (Heap.lt_size eo)) eo
  show wpAny _ A (do holding [.str ⟨#[c]⟩ u] (assign (.Name n1 p1) env (.int i tk1)); do holding [] (assign (.Name n2 p2) env (.str ⟨#[c]⟩ u)); pure ()) _ _ _
  refine wpAny_bind (wpAny_holding (a_loc S₃ 0 rfl (fun h₄ t₄ S₄ => ?_) hk h1))
  refine wpAny_bind (wpAny_holding (a_loc S₄ 0 rfl (fun h₅ t₅ S₅ => wpAny_pure ?_) hk h2))
  exact q h₅ t₅ tk1 u S₅
theorem enum_done {n : Nat} {Q : Option Value → Shared → Prop} (hf : Fine A (n + 1)) (hx : x.cps.size = i) (S : St g ((env.locals, isNs m) :: (e, isEnm it i old) :: (it, isStrIt x tk i) :: R) h)
    (q : ∀ h', St g ((env.locals, isNs m) :: (e, isEnm it i old) :: R) h' → Q none ⟨h', gn, d, t, os⟩) : Ok w A (pyNext (.ref e)) Q ⟨h, gn, d, t, os⟩ := by
  have he := enm_iff.mp (S.at 1 rfl)
  have hit := strit_iff.mp (S.at 2 rfl)
  subst hx
  refine wpAny_pyNext_enum_endD (s := ⟨h, gn, d, t, os⟩) (draws_str hf.in1.1 it x tk) he hit fun h' hx => q h' ?_
  have n2 : it ∉ ((env.locals, isNs m) :: (e, isEnm it ↑x.cps.size old) :: R).map (·.1) := by
    have nd := S.nd
    simp only [List.map_cons, List.nodup_cons, List.mem_cons, not_or] at nd ⊢
    exact ⟨fun z => nd.1.2.1 z.symm, fun z => nd.2.1.1 z.symm, nd.2.2.1⟩
  have S' : St g ((env.locals, isNs m) :: (e, isEnm it ↑x.cps.size old) :: R) h := S.sub (by
    refine List.Sublist.cons_cons _ (List.Sublist.cons_cons _ (List.Sublist.cons _ (List.Sublist.refl _))))
  have hn : g.get? it = none := S.new (it, isStrIt x tk x.cps.size) (by simp)
  refine ⟨fun b o eo => hx b o (fun z => by subst z; rw [hn] at eo; cases eo) (S.ext b o eo), fun e' he' => ?_, S'.nd, S'.new⟩
  obtain ⟨o, eo, qo⟩ := S'.pts e' he'
  refine ⟨o, hx _ o (fun z => ?_) eo, qo⟩
  have hm := List.mem_map_of_mem (f := fun y : Ent => y.1) he'
  rw [show e'.1 = it from z] at hm
  exact n2 hm
end
end Mine
end

section
open PySem PySem.W PySem.W.X PyProof.Rows
set_option Elab.async false
set_option maxRecDepth 100000
namespace Mine

/-- what _iter_escaped_chars hands out, from place i on -/
def escs : List Nat → Nat → Bool → List (Int × Str)
  | [], i, b => if b then [((i : Int) - 1, Str.ofString "\\")] else []
  | c :: cs, i, true => ((i : Int), Str.ofString "\\" ++ ⟨#[c]⟩) :: escs cs (i + 1) false
  | c :: cs, i, false => if c = 92 then escs cs (i + 1) true else ((i : Int), ⟨#[c]⟩) :: escs cs (i + 1) false

def gFor : Expr × List Stmt × List Stmt := match (fbody 3).getD 2 (.Pass default) with | .For t _ b o _ => (t, b, o) | _ => (.Constant .none 0 default, [], [])
abbrev gEnv (L f : Addr) (cd : Value) : Env := envOf (fname 3) (fscope 3) L f cd
abbrev gLoop (e L f : Addr) (cd : Value) : Code := .forLoop gFor.1 (.ref e) gFor.2.1 gFor.2.2 (gEnv L f cd)

section
variable {w : World} {A : Around}
theorem fine_over1 {n : Nat} {c : Code} {k : Result → Sem Fin} {g : Bool} {l : List Value} {p : Pos} {b : List Stmt} {env : Env} (hf : Fine A (n + 1)) (hw : c.weight = 0) (hu : c.cUnits = 0) : Fine (A.over c [.ret k none g l (.func b env) p []]) n := by
  obtain ⟨h1, h2, h3⟩ := hf
  refine ⟨?_, ?_, ?_⟩
  · show (marksOver [Frame.ret k none g l (.func b env) p []] (A.handled, A.handled)).1 = none
    rw [h1]; rfl
  · show A.depth + 1 + c.weight + n < _
    rw [hw]; omega
  · show A.units + 3 + c.cUnits + 4 * n < _
    rw [hu]; omega
theorem fine_over0 {n : Nat} {b : List Stmt} {env : Env} (hf : Fine A (n + 1)) : Fine (A.over (.func b env) []) n := by
  obtain ⟨h1, h2, h3⟩ := hf
  refine ⟨?_, ?_, ?_⟩
  · show (marksOver [] (A.handled, A.handled)).1 = none
    rw [h1]; rfl
  · show A.depth + 0 + 1 + n < _
    omega
  · show A.units + 0 + 3 + 4 * n < _
    omega

theorem one_ne {c : Nat} (h : ¬ c = 92) : ¬ ((⟨#[c]⟩ : Str) == Str.ofString "\\") = true := by
  intro e
  have e1 := beq_iff_eq.mp e
  rw [show Str.ofString "\\" = (⟨#[92]⟩ : Str) from by decide +kernel] at e1
  simp only [Str.mk.injEq, Array.mk.injEq, List.cons.injEq, and_true] at e1
  exact h e1
theorem sx_block_nil {env : Env} {k : Result → Sem Fin} {hd : Option Value} {g : Bool} {l : List Value} {c₁ : Code} {p₁ : Pos} {kp : List Value} {fs : List Frame} {s : Shared} {P : End → Shared → Prop} (x : SX w A c₁ (k (.ok .next)) fs s P) :
    SX w A (.block [] env) (denote table (.block [] env)) (.ret k hd g l c₁ p₁ kp :: fs) s P := s_pop pg w A _ fs P s (.ok .next) _ rfl k hd g l c₁ p₁ kp x
theorem gen_loop {n : Nat} (hf : Fine A (n + 3)) {x : Str} {tk : Tok} {L f e it : Addr} {cd : Value} {k : Result → Sem Fin} {l : List Value} {p : Pos} {b : List Stmt}
    (hT : ∀ m i old (bb : Bool) tp, m (Str.ofString "escape") = some (.bool bb) → (bb = true → m (Str.ofString "pos") = some (.int ((i : Int) - 1) tp)) → GRun w A (escs [] i bb) (.func b (gEnv L f cd)) (k (.ok .next)) [] [(L, isNs m), (e, isEnm it (i : Nat) old)]) :
    ∀ (cs : List Nat) (i : Nat) (bb : Bool) (old : Value) (m : Str → Option Value) (tp : Tok), x.cps.toList.drop i = cs → m (Str.ofString "escape") = some (.bool bb) → (bb = true → m (Str.ofString "pos") = some (.int ((i : Int) - 1) tp)) → i ≤ x.cps.size → 
      GRun w A (escs cs i bb) (gLoop e L f cd) (denote table (gLoop e L f cd)) [.ret k none false l (.func b (gEnv L f cd)) p []] [(L, isNs m), (e, isEnm it i old), (it, isStrIt x tk i)] := by
  intro cs
  induction cs with
  | nil =>
    intro i bb old m tp hd he hp hi
    have hsz : x.cps.size = i := by
      have := congrArg List.length hd
      simp at this
      omega
    refine (hT m i old bb tp he hp).step ?_
    intro g R h gn d t os P B S kk
    refine sx_forLoop (enum_done (env := gEnv L f cd) (n := n + 1) (fine_over1 hf rfl rfl) hsz S fun h' S' => ?_)
    exact sx_block_nil (kk h' t S')
  | cons c cs ih =>
    intro i bb old m tp hd he hp hi
    have hc : x.cps[i]? = some c := by
      have := congrArg (fun l : List Nat => l[0]?) hd
      simpa using this
    have hd' : x.cps.toList.drop (i + 1) = cs := by
      have := congrArg List.tail hd
      simpa [List.tail_drop] using this
    have hi' : i + 1 ≤ x.cps.size := (Array.getElem?_eq_some_iff.mp hc).1
    have turn : ∀ {items : List (Int × Str)}, (∀ m' u1 u2, m' = (fun y => if y = Str.ofString "ch" then some (.str ⟨#[c]⟩ u2) else if y = Str.ofString "pos" then some (.int i u1) else m y) → ∀ H, GRun w A items (gLoop e L f cd) ((execs gFor.2.1 (gEnv L f cd)).wrap (fun f' => match f' with
            | .next | .cont => .pure (.again (gLoop e L f cd))
            | .brk => .pure (.done .next)
            | .ret v => .pure (.done (.ret v))) H id id) [.ret k none false l (.func b (gEnv L f cd)) p []] [(L, isNs m'), (e, isEnm it ((i + 1 : Nat) : Int) (.str ⟨#[c]⟩ u2)), (it, isStrIt x tk (i + 1))]) →
        GRun w A items (gLoop e L f cd) (denote table (gLoop e L f cd)) [.ret k none false l (.func b (gEnv L f cd)) p []] [(L, isNs m), (e, isEnm it i old), (it, isStrIt x tk i)] := by
      intro items G
      have go : ∀ g R h gn d t os P, Base g → St g ([(L, isNs m), (e, isEnm it i old), (it, isStrIt x tk i)] ++ R) h → (∀ m' u1 u2 h' t' H, m' = (fun y => if y = Str.ofString "ch" then some (.str ⟨#[c]⟩ u2) else if y = Str.ofString "pos" then some (.int i u1) else m y) → St g ([(L, isNs m'), (e, isEnm it ((i + 1 : Nat) : Int) (.str ⟨#[c]⟩ u2)), (it, isStrIt x tk (i + 1))] ++ R) h' →
          SX w A (gLoop e L f cd) ((execs gFor.2.1 (gEnv L f cd)).wrap (fun f' => match f' with
            | .next | .cont => .pure (.again (gLoop e L f cd))
            | .brk => .pure (.done .next)
            | .ret v => .pure (.done (.ret v))) H id id) [.ret k none false l (.func b (gEnv L f cd)) p []] ⟨h', gn, d, t', os⟩ P) →
          SX w A (gLoop e L f cd) (denote table (gLoop e L f cd)) [.ret k none false l (.func b (gEnv L f cd)) p []] ⟨h, gn, d, t, os⟩ P := by
        intro g R h gn d t os P B S kk
        refine sx_forLoop (enum_turn (env := gEnv L f cd) (n := n + 1) (fine_over1 hf rfl rfl) hc S rfl rfl rfl fun h' t' u1 u2 S' H => ?_)
        exact kk _ u1 u2 h' t' H rfl S'
      cases items with
      | nil => exact fun g R h gn d t os B S => go g R h gn d t os _ B S fun m' u1 u2 h' t' H em S' => G m' u1 u2 em H g R h' gn d t' os B S'
      | cons y r => obtain ⟨y1, y2⟩ := y; exact fun g R h gn d t os B S => go g R h gn d t os _ B S fun m' u1 u2 h' t' H em S' => G m' u1 u2 em H g R h' gn d t' os B S'
    have back : ∀ m' u (tp' : Tok), m' (Str.ofString "escape") = some (.bool false) → ∀ (T : Sem Fin), T = .pure (.again (gLoop e L f cd)) → GRun w A (escs cs (i + 1) false) (gLoop e L f cd) T [.ret k none false l (.func b (gEnv L f cd)) p []] [(L, isNs m'), (e, isEnm it ((i + 1 : Nat) : Int) u), (it, isStrIt x tk (i + 1))] := by
      intro m' u tp' hm T hT
      subst hT
      exact (ih (i + 1) false u m' tp' hd' hm (fun z => by cases z) hi').map fun s P z => s_again pg w A _ _ P s _ rfl z
    cases bb with
    | true =>
      refine turn ?_
      intro m' u1 u2 em H g R h gn d t os B S
      refine sx_cons (sx_If (wpAny_isTrue_value (e_loc S 0 rfl (v := .bool true) (by subst em; simp [ofs_inj, he]) (wpAny_truthy_bool ?_))))
      rw [if_pos rfl]
      refine sx_cons (sx_yield rfl rfl rfl (e_pair (e_loc S 0 rfl (v := .int i u1) (by subst em; simp [ofs_inj]) (wpAny_BinOp (wpAny_Constant_str (e_loc S 0 rfl (v := .str ⟨#[c]⟩ u2) (by subst em; simp) (add_str (fun t' tk' => ?_) (by show 1 + 1 ≤ sizeLine; decide))))))))
      intro l' k' p' hk
      refine ⟨_, l', k', _, p', _, [(L, isNs m'), (e, isEnm it ((i + 1 : Nat) : Int) (.str ⟨#[c]⟩ u2)), (it, isStrIt x tk (i + 1))], _, _, rfl, rfl, S.grow (Ext.push _ _), ⟨_, u1, t', rfl, ⟨_, Heap.get?_push_size _ rfl, rfl, _, rfl⟩⟩, rfl, ?_⟩
      refine GRun.map ?_ (fun s P => hk s P)
      refine (ih (i + 1) false (.str ⟨#[c]⟩ u2) (fun y => if y = Str.ofString "escape" then some (.bool false) else m' y) u1 hd' (by simp) (fun z => by cases z) hi').step ?_
      intro g R h gn d t os P B S kk
      refine sx_cons (sx_stmt (wpAny_Assign_Name (wpAny_Constant_bool (s_loc S 0 rfl fun h' t' S' => ?_))))
      exact s_again pg w A _ _ P _ _ rfl (kk h' t' S')
    | false =>
      by_cases hb : c = 92
      · show GRun w A (if c = 92 then escs cs (i + 1) true else _) _ _ _ _
        rw [if_pos hb]
        refine turn ?_
        intro m' u1 u2 em H
        refine (ih (i + 1) true (.str ⟨#[c]⟩ u2) (fun y => if y = Str.ofString "escape" then some (.bool true) else m' y) u1 hd' (by simp) (fun _ => by subst em; simp [ofs_inj]) hi').step ?_
        intro g R h gn d t os P B S kk
        refine sx_cons (sx_If (wpAny_isTrue_value (e_loc S 0 rfl (v := .bool false) (by subst em; simp [ofs_inj, he]) (wpAny_truthy_bool ?_))))
        rw [if_neg Bool.false_ne_true]
        refine sx_cons (sx_If (wpAny_isTrue_Compare1 (e_loc S 0 rfl (v := .str ⟨#[c]⟩ u2) (by subst em; simp) (wpAny_Constant_str (eq_str (wpAny_truthy_bool ?_))))))
        rw [if_pos (by subst hb; rfl)]
        refine sx_cons (sx_stmt (wpAny_Assign_Name (wpAny_Constant_bool (s_loc S 0 rfl fun h' t' S' => ?_))))
        exact s_again pg w A _ _ P _ _ rfl (kk h' t' S')
      · show GRun w A (if c = 92 then _ else _) _ _ _ _
        rw [if_neg hb]
        refine turn ?_
        intro m' u1 u2 em H g R h gn d t os B S
        refine sx_cons (sx_If (wpAny_isTrue_value (e_loc S 0 rfl (v := .bool false) (by subst em; simp [ofs_inj, he]) (wpAny_truthy_bool ?_))))
        rw [if_neg Bool.false_ne_true]
        refine sx_cons (sx_If (wpAny_isTrue_Compare1 (e_loc S 0 rfl (v := .str ⟨#[c]⟩ u2) (by subst em; simp) (wpAny_Constant_str (eq_str (wpAny_truthy_bool ?_))))))
        rw [if_neg (one_ne hb)]
        refine sx_cons (sx_yield rfl rfl rfl (e_pair (e_loc S 0 rfl (v := .int i u1) (by subst em; simp [ofs_inj]) (e_loc S 0 rfl (v := .str ⟨#[c]⟩ u2) (by subst em; simp) ?_))))
        intro l' k' p' hk
        refine ⟨_, l', k', _, p', _, [(L, isNs m'), (e, isEnm it ((i + 1 : Nat) : Int) (.str ⟨#[c]⟩ u2)), (it, isStrIt x tk (i + 1))], _, _, rfl, rfl, S.grow (Ext.push _ _), ⟨_, u1, u2, rfl, ⟨_, Heap.get?_push_size _ rfl, rfl, _, rfl⟩⟩, rfl, ?_⟩
        refine GRun.map ?_ (fun s P => hk s P)
        exact back m' _ u1 (by subst em; simp [ofs_inj, he]) _ rfl
end
end Mine
end

section
open PySem PySem.W PySem.W.X PyProof.Rows
set_option Elab.async false
set_option maxRecDepth 100000
namespace Mine

section
variable {w : World} {A : Around} {g h : Heap} {es : List Ent} {gn : Array GenState} {d : Drawn} {t : Nat} {os : OsState} {env : Env} {x : Str} {p pos : Pos} {Q : Value → Shared → Prop}
theorem e_gT {e : Expr} {T : String} (S : St g es h) (G : Glb g x (.type T)) (q : Ok w A (eval e env) (fun v s₂ => Ok w A (call (.type T) [v]) Q s₂) ⟨h, gn, d, t, os⟩)
    (he : starEach [e] env = [(false, eval e env)] := by rfl)
    (hg : env.globals = mainGlobals := by rfl) (hb : env.builtins = builtinsNs := by rfl) (hk : env.scope.kind = .function := by rfl) (hl : env.kindOf x = some .globalImplicit := by rfl) (hd : (x == ("__debug__" : Str)) = false := by rfl) :
    Ok w A (eval (.Call (.Name x p) [e] [] pos) env) Q ⟨h, gn, d, t, os⟩ := by
  refine wpAny_Call_NameR (e_glb S G ?_ hg hb hk hl hd)
  rw [he]
  exact PyProof.Rows.callWith_type rfl (Calls.evalArgs_plain (Calls.spliced_cons (wpAny_mono q (fun _ _ h₁ => Calls.spliced_nil h₁) fun _ _ e => e)))
theorem e_gB {e : Expr} {T : String} (S : St g es h) (G : Glb g x (.builtin T)) (q : Ok w A (eval e env) (fun v s₂ => Ok w A (call (.builtin T) [v]) Q s₂) ⟨h, gn, d, t, os⟩)
    (he : starEach [e] env = [(false, eval e env)] := by rfl)
    (hg : env.globals = mainGlobals := by rfl) (hb : env.builtins = builtinsNs := by rfl) (hk : env.scope.kind = .function := by rfl) (hl : env.kindOf x = some .globalImplicit := by rfl) (hd : (x == ("__debug__" : Str)) = false := by rfl) :
    Ok w A (eval (.Call (.Name x p) [e] [] pos) env) Q ⟨h, gn, d, t, os⟩ := by
  refine wpAny_Call_NameR (e_glb S G ?_ hg hb hk hl hd)
  rw [he]
  exact Calls.callWith_builtin rfl (Calls.evalArgs_plain (Calls.spliced_cons (wpAny_mono q (fun _ _ h₁ => Calls.spliced_nil h₁) fun _ _ e => e)))
theorem e_gF1 {e : Expr} {f : Addr} {k : Nat} (S : St g es h) (G : Glb g x (.ref f)) (F : IsFn g k f) (q : Ok w A (eval e env) (fun v s₂ => Ext g s₂.heap ∧ Ok w A (call (.ref f) [v]) Q s₂) ⟨h, gn, d, t, os⟩)
    (he : starEach [e] env = [(false, eval e env)] := by rfl)
    (hg : env.globals = mainGlobals := by rfl) (hb : env.builtins = builtinsNs := by rfl) (hk : env.scope.kind = .function := by rfl) (hl : env.kindOf x = some .globalImplicit := by rfl) (hd : (x == ("__debug__" : Str)) = false := by rfl) :
    Ok w A (eval (.Call (.Name x p) [e] [] pos) env) Q ⟨h, gn, d, t, os⟩ := by
  refine wpAny_Call_NameR (e_glb S G ?_ hg hb hk hl hd)
  rw [he]
  obtain ⟨o, pm, cd, doc, F1, F2, _⟩ := F
  exact Calls.callWith_function (o := o) (fd := _) (Calls.evalArgs_plain (Calls.spliced_cons (wpAny_mono q (fun _ _ h₁ => Calls.spliced_nil ⟨⟨h₁.1 _ _ F1, F2⟩, h₁.2⟩) fun _ _ e => e)))
end

/-- the generator, from its call on -/
def GPost (w : World) (A : Around) (items : List (Int × Str)) (g : Heap) (R : List Ent) (gn : Array GenState) (d : Drawn) (os : OsState) : End → Shared → Prop := match items with
  | [] => fun e s' => e = .ret (.ok (.ret .none)) ∧ ∃ h' t', s' = ⟨h', gn, d, t', os⟩ ∧ St g R h'
  | (p, x) :: rest => fun e s' => ∃ v l k c' pp fs' pv' h' t', e = .susp v false l k c' pp fs' ∧ s' = ⟨h', gn, d, t', os⟩ ∧ St g (pv' ++ R) h' ∧ IsPair h' v p x ∧ fs'.any Frame.guarded = false ∧
        GRun w A rest c' (k (.send .none)) fs' pv'
theorem GRun_iff {w : World} {A : Around} {items : List (Int × Str)} {c : Code} {tr : Sem Fin} {fs : List Frame} {pv : List Ent} :
    GRun w A items c tr fs pv ↔ ∀ g R h gn d t os, Base g → St g (pv ++ R) h → SX w A c tr fs ⟨h, gn, d, t, os⟩ (GPost w A items g R gn d os) := by
  cases items with
  | nil => exact Iff.rfl
  | cons i r => obtain ⟨p, x⟩ := i; exact Iff.rfl
theorem sx_func {w : World} {A : Around} {body : List Stmt} {env : Env} {fs : List Frame} {s : Shared} {P : End → Shared → Prop}
    (h : ∀ H, SX w A (.func body env) ((execs body env).wrap (fun f => match f with | .ret v => .pure (.done (.ret v)) | _ => .pure (.done (.ret .none))) H id id) fs s P) :
    SX w A (.func body env) (denote table (.func body env)) fs s P := by
  refine s_skim pg w A _ fs P s _ 1 ?_
  show SX w A _ ((execs body env).onRaise (leaving env) >>= fun f => match f with | .ret v => ret v | _ => ret .none) fs s P
  rw [Sem.onRaise_eq_wrap, Sem.bind_eq_wrap', Sem.wrap_wrap]
  refine sx_same (fun f => ?_) (h _)
  cases f <;> rfl
theorem sx_ret {w : World} {A : Around} {c : Code} {s : Shared} {v : Value} {P : End → Shared → Prop} (x : P (.ret (.ok (.ret v))) s) : SX w A c (.pure (.done (.ret v))) [] s P := s_end pg w A c P s (.ok (.ret v)) _ rfl x

section
variable {w : World} {A : Around}
theorem gen_run {n : Nat} (hf : Fine A (n + 3)) {x : Str} {tk : Tok} {L f : Addr} {cd : Value} {m : Str → Option Value} (hm : m (Str.ofString "addr") = some (.str x tk)) :
    GRun w A (escs x.cps.toList 0 false) (.func (fbody 3) (gEnv L f cd)) (denote table (.func (fbody 3) (gEnv L f cd))) [] [(L, isNs m)] := by
  rw [GRun_iff]
  intro g R h gn d t os B S
  refine sx_func fun H => ?_
  refine sx_cons (sx_stmt (x_asg (e_int fun u1 t0 => s_loc0 S fun h1 t1 S1 => ?_)))
  refine sx_cons (sx_stmt (x_asg (e_bool (s_loc0 S1 fun h2 t2 S2 => ?_))))
  refine sx_cons (sx_For ?_)
  refine e_gT S2 (B.blt _ (List.Mem.head _)) (e_loc0 S2 (v := .str x tk) (by simp [upd, ofs_inj, hm]) ?_)
  refine call_enumerate_str fun h3 hE hI hsz hk => ?_
  have hn1 : h2.get? h2.objs.size = none := get_size h2
  have hn2 : h2.get? (h2.objs.size + 1) = none := get_big h2 (Nat.le_succ _)
  have S3 := (S2.adds (h' := h3) hk [(h2.objs.size + 1, isEnm h2.objs.size 0 .none), (h2.objs.size, isStrIt x tk 0)] (by
    intro e he
    rcases List.mem_cons.mp he with rfl | he
    · exact ⟨hn2, enm_iff.mpr hE⟩
    · rw [List.mem_singleton] at he; subst he; exact ⟨hn1, strit_iff.mpr hI⟩) (by simp)).front
  refine wpAny_pyIter_enum hE ?_
  intro k g' l p' hk' hg'
  subst hg'
  have G := gen_loop (w := w) (A := A) (n := n) hf (x := x) (tk := tk) (L := L) (f := f) (e := h2.objs.size + 1) (it := h2.objs.size) (cd := cd) (k := k) (l := l) (p := p') (b := fbody 3) (by
    intro m' i old bb tp he hp
    rw [hk']
    cases bb with
    | false =>
      rw [GRun_iff]
      intro g R h gn d t os B S
      refine sx_cons (sx_If (t_val (e_loc0 S (v := .bool false) he (t_bool ?_))))
      rw [if_neg Bool.false_ne_true]
      exact sx_ret ⟨rfl, h, t, rfl, S.sub ((List.Sublist.refl R).cons _ |>.cons _)⟩
    | true =>
      rw [GRun_iff]
      intro g R h gn d t os B S
      refine sx_cons (sx_If (t_val (e_loc0 S (v := .bool true) he (t_bool ?_))))
      rw [if_pos rfl]
      refine sx_cons (sx_yield rfl rfl rfl (e_pair (e_loc0 S (v := .int ((i : Int) - 1) tp) (hp rfl) (e_str fun u3 t3 => ?_))))
      intro l' k' p' hk
      refine ⟨_, l', k', _, p', _, [(L, isNs m'), (h2.objs.size + 1, isEnm h2.objs.size (i : Nat) old)], _, _, rfl, rfl, S.grow (Ext.push _ _), ⟨_, tp, u3, rfl, ⟨_, Heap.get?_push_size _ rfl, rfl, _, rfl⟩⟩, rfl, ?_⟩
      refine GRun.map ?_ (fun s P => hk s P)
      rw [GRun_iff]
      intro g R h gn d t os B S
      exact sx_ret ⟨rfl, h, t, rfl, S.sub ((List.Sublist.refl R).cons _ |>.cons _)⟩)
    x.cps.toList 0 false .none (upd (upd m (Str.ofString "pos") (.int 0 u1)) (Str.ofString "escape") (.bool false)) 0 rfl (by simp [upd]) (fun z => by cases z) (Nat.zero_le _)
  exact GRun_iff.mp G g R h3 gn d t2 os B S3
end
end Mine
end

section
open PySem PySem.W PySem.W.X PyProof.Rows
set_option Elab.async false
set_option maxRecDepth 100000
namespace Mine

def isGenO (k : Nat) : Obj → Prop := fun o => ∃ nm qn, o.cls = .type "generator" ∧ o.data = .fields #[.int k 0, nm, qn] ∧ o.slots = #[]
theorem gen_iff {h : Heap} {a k : Nat} : Pt h a (isGenO k) ↔ h.IsGen a k := by
  constructor
  · rintro ⟨o, e, nm, qn, r⟩; exact ⟨o, nm, qn, e, r⟩
  · rintro ⟨o, nm, qn, e, r⟩; exact ⟨o, e, nm, qn, r⟩

section
variable {w : World} {A : Around} {g h : Heap} {es : List Ent} {gn : Array GenState} {d : Drawn} {t : Nat} {os : OsState}
theorem gen_call {n : Nat} {f : Addr} {x : Str} {tk : Tok} {Q : Value → Shared → Prop} (hf : Fine A (n + 1)) (B : Base g) (F : IsFn g 3 f) (S : St g es h)
    (q : ∀ a L cd m h' t', m (Str.ofString "addr") = some (.str x tk) → St g ((L, isNs m) :: (a, isGenO gn.size) :: es) h' → Q (.ref a) ⟨h', gn.push (.fresh (.func (fbody 3) (gEnv L f cd))), d, t', os⟩) :
    Ok w A (call (.ref f) [.str x tk]) Q ⟨h, gn, d, t, os⟩ := by
  obtain ⟨o, pm, cd, doc, F1, F2, F3⟩ := F
  refine ok_call (codeAny_call_generator (s := ⟨h, gn, d, t, os⟩) hf.room (S.ext _ _ F1) F2 rfl rfl rfl (F3.keeps S.ext) ?_)
  have hb : bindArgs (Calls.docDef (fname 3) (fargs 3) (fbody 3) (fscope 3) pm cd doc) ⟨[.str x tk], []⟩ = pure [(Str.ofString "addr", .str x tk)] := by rfl
  rw [hb]
  refine wpAny_pure (wpAny_newFunctionEnv (show ∀ x ∈ (fscope 3).names, x.2 ≠ .cell by decide) (by intro y hy; rw [List.mem_singleton] at hy; subst hy; rfl) (fun h₁ hns hsb => ?_) rfl)
  refine ⟨(B.lim.keeps S.ext).fresh _ hsb, ?_⟩
  have X1 : Ext h h₁ := fun b o e => hsb.extBut b o (Nat.ne_of_lt (Heap.lt_size e)) (Heap.get?_push_of_some _ e)
  have hz : h₁.objs.size = h.objs.size + 1 := by rw [hsb.1]; exact Heap.size_push ..
  refine q h₁.objs.size h.objs.size cd (fun y => List.lookup y [(Str.ofString "addr", Value.str x tk)].reverse) _ _ rfl (S.adds (X1.trans (Ext.push _ _)) [(h.objs.size, isNs _), (h₁.objs.size, isGenO gn.size)] ?_ (by simp [hz]))
  intro e he
  rcases List.mem_cons.mp he with rfl | he
  · exact ⟨get_size h, (ns_iff.mpr hns).ext (Ext.push _ _)⟩
  · rw [List.mem_singleton] at he; subst he
    exact ⟨get_big h (by rw [hz]; exact Nat.le_succ _), gen_iff.mpr ⟨_, _, _, Heap.get?_push_size _ rfl, rfl, rfl, rfl⟩⟩
end

section
variable {w : World} {A : Around} {s : Shared} {env : Env} {target : Expr} {it : Value} {body orelse : List Stmt} {R : Flow → Shared → Prop}
theorem lp_turn (h : Ok w A (pyNext it) (fun r s₁ => match r with
      | none => Ok w A (execs orelse env) R s₁
      | some v => Ok w A (letOwnedTupleGo target it v) (fun _ s₂ => Ok w A (assign target env v) (fun _ s₃ => Ok w A (execs body env) (fun f s₄ => match f with
          | .next | .cont => OkC w A (.forLoop target it body orelse env) R s₄
          | .brk => R .next s₄
          | .ret v => R (.ret v) s₄) s₃) s₂) s₁) s) : OkC w A (.forLoop target it body orelse env) R s := by
  refine codeAny_of_tree ?_
  rw [Around.under_of_weight rfl rfl]
  show wpAny _ A ((forTurn target it body orelse env).onRaise (fun x => do noteFrame x env; theTreesLotGoes x)) _ _ s
  refine wpAny_onRaise (ok_of ?_)
  simp only [forTurn]
  refine wpAny_bind (wpAny_standAt (wpAny_bind (wpAny_onRaise (wpAny_mono h (fun r s₁ h₁ => ?_) fun _ _ h' => h'.elim))))
  cases r with
  | none => exact wpAny_pure ⟨rfl, codeAny_block (ok_of h₁)⟩
  | some v =>
    refine wpAny_bind (wpAny_mono h₁ (fun _ s₁' h₁' => ?_) fun _ _ h' => h')
    refine wpAny_bind (wpAny_mono h₁' (fun _ s₂ h₂ => wpAny_bind (wpAny_mono h₂ (fun f s₃ h₃ => ?_) fun _ _ h' => h')) fun _ _ h' => h')
    cases f with
    | next => exact wpAny_pure ⟨rfl, h₃⟩
    | cont => exact wpAny_pure ⟨rfl, h₃⟩
    | brk => exact wpAny_pure h₃
    | ret v => exact wpAny_pure h₃
theorem x_for {iter : Expr} {pos : Pos} {Q : Flow → Shared → Prop} (h : Ok w A (eval iter env) (fun x s₁ => Ok w A (pyIter x) (fun it s₂ => OkC w A (.forLoop target it body orelse env) Q s₂) s₁) s)
    (hs : ∀ x, foldedSetIterable iter env x = pure x := by intro _; rfl) : Ok w A (exec (.For target iter body orelse pos) env) Q s :=
  wpAny_For (wpAny_mono h (fun x s₁ h₁ => wpAny_mono h₁ (fun it s₂ h₂ => codeAny_mono h₂ fun r s' q => by
    cases r with
    | ok f => exact q
    | error e => exact q.elim) fun _ _ e => e) fun _ _ e => e) hs
end
section
variable {w : World} {A : Around} {g h : Heap} {es : List Ent} {gn : Array GenState} {d : Drawn} {t : Nat} {os : OsState}
/-- a call of one of the text's plain defs -/
theorem call_fn {k n : Nat} {f : Addr} {args : List Value} {binds : List (Str × Value)} {Q : Value → Shared → Prop} (hf : Fine A (n + 1)) (B : Base g) (F : IsFn g k f) (S : St g es h)
    (hbind : ∀ pm cd doc, bindArgs (Calls.docDef (fname k) (fargs k) (fbody k) (fscope k) pm cd doc) ⟨args, []⟩ = pure binds)
    (hloc : (binds.all fun x => decide ((fscope k).names.lookup x.1 = some .local)) = true)
    (q : ∀ L cd A' h' t', Fine A' n → St g ((L, isNs fun x => binds.reverse.lookup x) :: es) h' →
      Ok w A' (execs (fbody k) (envOf (fname k) (fscope k) L f cd)) (fun fl s' => Q (match fl with | .ret v => v | _ => .none) s') ⟨h', gn, d, t', os⟩)
    (hco : (fscope k).isCoroutine = false) (hgen : (fscope k).isGenerator = false) (hk : (fscope k).kind = .function) (hcell : ((fscope k).names.all fun x => x.2 != .cell) = true) :
    Ok w A (call (.ref f) args) Q ⟨h, gn, d, t, os⟩ := by
  obtain ⟨o, pm, cd, doc, F1, F2, F3⟩ := F
  refine ok_call (call_plain_ret (s := ⟨h, gn, d, t, os⟩) hf.room (S.ext _ _ F1) F2 (B.lim.keeps S.ext) (F3.keeps S.ext) (hbind pm cd doc) (PyProof.Rows.locs hloc) (fun h₁ Fr₁ => ?_) hco hgen hk (fun x hx => by simpa using List.all_eq_true.mp hcell x hx))
  exact q h.objs.size cd _ h₁ _ (hf.deeper _) (S.cons (get_size h) Fr₁.keep (ns_iff.mpr Fr₁.ns))
end
end Mine
end

section
open PySem PySem.W PySem.W.X PyProof.Rows
set_option Elab.async false
set_option maxRecDepth 100000
namespace Mine

theorem bare_set {gn : Array GenState} {k : Nat} {gs : GenState} (x : AllBare gn) (h : gs.bare = true) : AllBare (gn.setIfInBounds k gs) := by
  intro y hy
  rcases Array.mem_or_eq_of_mem_setIfInBounds hy with hy | rfl
  · exact x y hy
  · exact h
theorem Sus.isBare {gs : GenState} {c : Code} {tr : Sem Fin} {fs : List Frame} (h : Sus gs c tr fs) : gs.bare = true := by
  rcases h with ⟨rfl, _⟩ | ⟨_, _, _, rfl, _⟩ <;> rfl

section
variable {w : World} {A : Around} {g h : Heap} {es : List Ent} {gn : Array GenState} {d : Drawn} {t : Nat} {os : OsState} {env : Env} {pos apos p : Pos}
abbrev Ev (w : World) (A : Around) (env : Env) (e : Expr) (v : Value) (s : Shared) : Prop := ∀ Q : Value → Shared → Prop, Q v s → Ok w A (eval e env) Q s

theorem x_expr {e : Expr} {Q : Flow → Shared → Prop} {s : Shared} (q : Ok w A (eval e env) (fun _ => Q .next) s) (hi : interactive env = false := by rfl) (hs : swapsWith e none pos.line env = pure false := by rfl) : Ok w A (exec (.Expr e pos) env) Q s := wpAny_Expr_any q hi hs
theorem o_append {D : Addr} {vs : List Value} {y : Value} {Q : Value → Shared → Prop} (S : St g es h) (i : Nat) (hi : es[i]? = some (D, isLst vs)) (hz : vs.length ≤ sizeLine)
    (q : ∀ h', St g (es.set i (D, isLst (vs ++ [y]))) h' → Q .none ⟨h', gn, d, t, os⟩) : Ok w A (call (.builtin "list.append") [.ref D, y]) Q ⟨h, gn, d, t, os⟩ := by
  refine wpAny_list_append_plain (s := ⟨h, gn, d, t, os⟩) (lst_iff.mp (S.at i hi)) (fun h' hl hs => q h' (S.set i hi hs (lst_iff.mpr ?_))) (by simpa using hz)
  have : (vs ++ [y]).toArray = vs.toArray.push y := by simp
  rw [this]; exact hl
theorem e_append {e elt : Expr} {D : Addr} {vs : List Value} {Q : Value → Shared → Prop} (S : St g es h) (i : Nat) (hi : es[i]? = some (D, isLst vs)) (hl : Ev w A env e (.ref D) ⟨h, gn, d, t, os⟩)
    (q : Ok w A (eval elt env) (fun y s₂ => Ok w A (call (.builtin "list.append") [.ref D, y]) Q s₂) ⟨h, gn, d, t, os⟩)
    (hbase : attributeBase e "append" env (eval e env) = eval e env := by rfl) (hline : (apos.endLine == pos.line) = true := by rfl) (he : starEach [elt] env = [(false, eval elt env)] := by rfl) :
    Ok w A (eval (.Call (.Attribute e (Str.ofString "append") apos) [elt] [] pos) env) Q ⟨h, gn, d, t, os⟩ := by
  obtain ⟨n, eo⟩ := lst_iff.mp (S.at i hi)
  refine wpAny_Call_append hbase (by rw [he]; rfl) hline (by rw [he]; rfl) (hl _ ⟨D, vs.toArray, rfl, ⟨_, n, eo, rfl, rfl, rfl⟩, q⟩)
theorem e_slice_ss {e e1 e2 : Expr} {x : Str} {tx t1 t2 : Tok} {i j : Int} {Q : Value → Shared → Prop} (hv : Ev w A env e (.str x tx) ⟨h, gn, d, t, os⟩) (h1 : Ev w A env e1 (.int i t1) ⟨h, gn, d, t, os⟩) (h2 : Ev w A env e2 (.int j t2) ⟨h, gn, d, t, os⟩)
    (hz : x.length ≤ sizeLine) (q : ∀ h' tk t', Ext h h' → Q (.str (Txt.slice x (some i) (some j)) tk) ⟨h', gn, d, t', os⟩) (ht : ∀ o r, letTemporaryGo e o r = pure () := by intro _ _; rfl) :
    Ok w A (eval (.Subscript e (.Slice (some e1) (some e2) none p) pos) env) Q ⟨h, gn, d, t, os⟩ :=
  wpAny_Subscript_str_slice (hv _ (wpAny_evalPart_some (h1 _ (wpAny_evalPart_some (h2 _ ⟨x, tx, some (i, t1), some (j, t2), rfl, rfl, rfl,
    post_val_or_str ⟨Nat.le_trans (Txt.slice_le x _ _) hz, fun t' k => q _ t' k (Ext.push _ _)⟩⟩))))) ht
theorem e_slice_sn {e e1 : Expr} {x : Str} {tx t1 : Tok} {i : Int} {Q : Value → Shared → Prop} (hv : Ev w A env e (.str x tx) ⟨h, gn, d, t, os⟩) (h1 : Ev w A env e1 (.int i t1) ⟨h, gn, d, t, os⟩)
    (hz : x.length ≤ sizeLine) (q : ∀ h' tk t', Ext h h' → Q (.str (Txt.slice x (some i) none) tk) ⟨h', gn, d, t', os⟩) (ht : ∀ o r, letTemporaryGo e o r = pure () := by intro _ _; rfl) :
    Ok w A (eval (.Subscript e (.Slice (some e1) none none p) pos) env) Q ⟨h, gn, d, t, os⟩ :=
  wpAny_Subscript_str_slice (hv _ (wpAny_evalPart_some (h1 _ (wpAny_evalPart_none ⟨x, tx, some (i, t1), none, rfl, rfl, rfl,
    post_val_or_str ⟨Nat.le_trans (Txt.slice_le x _ _) hz, fun t' k => q _ t' k (Ext.push _ _)⟩⟩)))) ht
theorem o_lenS {x : Str} {tx : Tok} {Q : Value → Shared → Prop} (hz : x.length ≤ sizeLine) (q : ∀ tk t', Q (.int x.length tk) ⟨h, gn, d, t', os⟩) : Ok w A (call (.builtin "len") [.str x tx]) Q ⟨h, gn, d, t, os⟩ :=
  P.len_str (by have : sizeLine < 2 ^ 63 := by decide
                omega) (q _ _)
theorem o_nin {x y : Str} {t1 t2 : Tok} {Q : Value → Shared → Prop} (q : Q (.bool (!(!(Builtin.Str.occurrences x y 0 x.length 1).isEmpty))) ⟨h, gn, d, t, os⟩) : Ok w A (compareOp .NotIn (.str y t2) (.str x t1)) Q ⟨h, gn, d, t, os⟩ := P.notIn_str q
theorem o_isNone_none {Q : Value → Shared → Prop} (q : Q (.bool true) ⟨h, gn, d, t, os⟩) : Ok w A (compareOp .Is .none .none) Q ⟨h, gn, d, t, os⟩ := wpAny_is_self rfl q
theorem o_isNone_int {i : Int} {u : Tok} {Q : Value → Shared → Prop} (q : Q (.bool false) ⟨h, gn, d, t, os⟩) : Ok w A (compareOp .Is (.int i u) .none) Q ⟨h, gn, d, t, os⟩ := wpAny_is_other rfl (by simp) q
theorem e_join {e elt : Expr} {sep : Str} {D : Addr} {vs : List Value} {ys : List Str} {Q : Value → Shared → Prop}
    (q : Ok w A (eval e env) (fun v s₁ => ∃ ts, v = .str sep ts ∧ Ok w A (eval elt env) (fun y s₂ => y = .ref D ∧ s₂.heap.IsList D vs.toArray ∧ StrsAre vs ys ∧ ∀ tk t', Q (.str (Txt.join sep ys) tk) { s₂ with toks := t' }) s₁) ⟨h, gn, d, t, os⟩)
    (hok : (ys.map (·.length)).sum + ys.length * sep.length ≤ 16777216)
    (hbase : attributeBase e "join" env (eval e env) = eval e env := by rfl) (hline : (apos.endLine == pos.line) = true := by rfl) (he : starEach [elt] env = [(false, eval elt env)] := by rfl) :
    Ok w A (eval (.Call (.Attribute e (Str.ofString "join") apos) [elt] [] pos) env) Q ⟨h, gn, d, t, os⟩ := by
  refine wpAny_Call_method_lateS hbase (by rw [he]; rfl) hline (wpAny_mono q (fun v s₁ h₁ => ?_) fun _ _ e => e)
  obtain ⟨ts, rfl, h₁⟩ := h₁
  rw [he]
  refine SB.join (wpAny_mono h₁ (fun y s₂ h₂ => ?_) fun _ _ e => e)
  obtain ⟨rfl, hl, hs, hq⟩ := h₂
  obtain ⟨l, hv, ht⟩ := strsAre_values hs
  refine ⟨D, l, rfl, ?_, ys, ht, joinOk_of hok, fun t' k => hq t' k⟩
  rw [← hv]; exact hl
theorem take_pair {n : Nat} {n1 n2 : Str} {p1 p2 pt : Pos} {x1 : Nat} {L a ta k : Addr} {m : Str → Option Value} {R : List Ent} {v1 v2 : Value} {Q : Shared → Prop} (hf : Fine A n) (S : St g ((L, isNs m) :: R) h) (hg : h.IsGen a k) (hT : IsTup h ta #[v1, v2])
    (q : ∀ h' t', St g ((L, isNs (upd (upd m n1 v1) n2 v2)) :: R) h' → Q ⟨h', gn, d, t', os⟩) (hL : env.locals = L := by rfl) (hk : env.scope.kind = .function := by rfl) (h1 : env.kindOf n1 = some .local := by rfl) (h2 : env.kindOf n2 = some .local := by rfl) :
    Ok w A (letOwnedTupleGo (.Tuple [.Name n1 p1, .Name n2 p2] x1 pt) (.ref a) (.ref ta)) (fun _ s₂ => Ok w A (assign (.Tuple [.Name n1 p1, .Name n2 p2] x1 pt) env (.ref ta)) (fun _ s₃ => Q s₃) s₂) ⟨h, gn, d, t, os⟩ := by
  have lot : Ok w A (letOwnedTupleGo (.Tuple [.Name n1 p1, .Name n2 p2] x1 pt) (.ref a) (.ref ta)) (fun _ s₂ => s₂ = ⟨h, gn, d, t, os⟩) ⟨h, gn, d, t, os⟩ := by
    obtain ⟨o, nm, qn, eo, hc, hd, _⟩ := hg
    unfold letOwnedTupleGo
    refine wpAny_bind (wpAny_load (s := ⟨h, gn, d, t, os⟩) eo ?_)
    rw [hc, hd]
    exact wpAny_pure rfl
  refine wpAny_mono lot (fun _ s₂ e => ?_) fun _ _ e => e
  subst e
  refine wpAny_assign_Tuple (s := ⟨h, gn, d, t, os⟩) hf.1 (show h.IsTuple ta #[v1, v2] from hT) rfl rfl fun h₃ hx₃ => ?_
  have S₃ := S.grow (h' := h₃) fun b o eo => hx₃ b o (Nat.ne_of_lt (Heap.lt_size eo)) eo
  show wpAny _ A (do holding [v2] (assign (.Name n1 p1) env v1); do holding [] (assign (.Name n2 p2) env v2); pure ()) _ _ _
  refine wpAny_bind (wpAny_holding (a_loc0 S₃ (fun h₄ t₄ S₄ => ?_) hL hk h1))
  refine wpAny_bind (wpAny_holding (a_loc0 S₄ (fun h₅ t₅ S₅ => wpAny_pure ?_) hL hk h2))
  exact q h₅ t₅ S₅
theorem x_aug {y : Str} {p' : Pos} {op : Operator} {value : Expr} {Q : Flow → Shared → Prop} {s : Shared}
    (q : Ok w A (loadName env y) (fun old s₁ => Ok w A (eval value env) (fun v s₂ => Ok w A (inplaceOp op old v) (fun r s₃ => Ok w A (storeName env y r) (fun _ => Q .next) s₃) s₂) s₁) s) : Ok w A (exec (.AugAssign (.Name y p') op value pos) env) Q s := wpAny_AugAssign_Name q
theorem e_loc0N {x : Str} {m : Str → Option Value} {v : Value} {L : Addr} {R : List Ent} {Q : Value → Shared → Prop} (S : St g ((L, isNs m) :: R) h) (hv : m x = some v) (q : Q v ⟨h, gn, d, t, os⟩) (hL : env.locals = L := by rfl)
    (hk : env.scope.kind = .function := by rfl) (hl : env.kindOf x = some .local := by rfl) : Ok w A (loadName env x) Q ⟨h, gn, d, t, os⟩ := by
  subst hL
  exact wpAny_loadName_local hk hl (ns_iff.mp (S.at 0 rfl)) hv q
theorem i_add {a b : Int} {u u' : Tok} {Q : Value → Shared → Prop} (q : ∀ tk t', Q (.int (a + b) tk) ⟨h, gn, d, t', os⟩) : Ok w A (inplaceOp .Add (.int a u) (.int b u')) Q ⟨h, gn, d, t, os⟩ := PyProof.Rows.iadd_int (q _ _)
theorem i_sub {a b : Int} {u u' : Tok} {Q : Value → Shared → Prop} (q : ∀ tk t', Q (.int (a - b) tk) ⟨h, gn, d, t', os⟩) : Ok w A (inplaceOp .Sub (.int a u) (.int b u')) Q ⟨h, gn, d, t, os⟩ := PyProof.Rows.isub_int (q _ _)
end
end Mine
end

section
open PySem PySem.W PySem.W.X PyProof.Rows
set_option Elab.async false
set_option maxRecDepth 100000
set_option linter.unusedSimpArgs false
namespace Mine

abbrev qt : Str := Str.ofString "\""
def stripStep (x : Str) : Int × Option Int × List Str → Int × Str → Int × Option Int × List Str
  | (st, op, res), (p, ch) => if ch == qt then (match op with
      | none => (st, some p, res)
      | some o => (p + 1, none, if st != o then res ++ [Txt.slice x (some st) (some o)] else res)) else (st, op, res)
def stripEnd (x : Str) (r : Int × Option Int × List Str) : Str := Txt.join (Str.ofString "") (if r.1 < x.length then r.2.2 ++ [Txt.slice x (some r.1) none] else r.2.2)
def hasQ (x : Str) : Bool := !(Builtin.Str.occurrences x qt 0 x.length 1).isEmpty
def stripF (x : Str) : Str := if hasQ x then stripEnd x ((escs x.cps.toList 0 false).foldl (stripStep x) (0, none, [])) else x

def opV : Option Int → Value → Prop
  | none, v => v = .none
  | some o, v => ∃ u, v = .int o u

def sFor : Expr × List Stmt × List Stmt := match (fbody 4).getD 4 (.Pass default) with | .For t _ b o _ => (t, b, o) | _ => (.Constant .none 0 default, [], [])

structure SInv (m : Str → Option Value) (D : Addr) (x : Str) (tx : Tok) (st : Int) (op : Option Int) : Prop where
  addr : m (Str.ofString "addr") = some (.str x tx)
  start : ∃ u, m (Str.ofString "start") = some (.int st u)
  opn : ∃ v, m (Str.ofString "open_pos") = some v ∧ opV op v
  res : m (Str.ofString "result") = some (.ref D)

theorem strs_snoc {vs : List Value} {ys : List Str} (h : StrsAre vs ys) (y : Str) (t : Tok) : StrsAre (vs ++ [.str y t]) (ys ++ [y]) := by
  induction h with
  | nil => exact .cons y t .nil
  | cons z u _ ih => exact .cons z u ih
theorem strs_len {vs : List Value} {ys : List Str} (h : StrsAre vs ys) : vs.length = ys.length := by
  induction h with
  | nil => rfl
  | cons z u _ ih => simp [ih]

section
variable {w : World} {A : Around} {g : Heap} {d : Drawn} {os : OsState}
theorem strip_loop {n : Nat} (hf : Fine A (n + 1)) (B : Base g) {x : Str} {tx : Tok} (hx : x.length ≤ 1000) {L f D a k : Addr} {cd : Value} {R : List Ent} {Q : Flow → Shared → Prop} :
    ∀ (items : List (Int × Str)) (st : Int) (op : Option Int) (res : List Str) (vs : List Value) (m : Str → Option Value) (c : Code) (tr : Sem Fin) (fs : List Frame) (pv : List Ent) (gs : GenState) (h : Heap) (gn : Array GenState) (t : Nat),
      GRun w A.in1 items c tr fs pv → Sus gs c tr fs → gn[k]? = some gs → AllBare gn → St g ((L, isNs m) :: (D, isLst vs) :: (a, isGenO k) :: (R ++ pv)) h → SInv m D x tx st op → StrsAre vs res → res.length + items.length ≤ 5000 →
      (∀ st' op' res' vs' m' h' gn' t', (st', op', res') = items.foldl (stripStep x) (st, op, res) → AllBare gn' → St g ((L, isNs m') :: (D, isLst vs') :: (a, isGenO k) :: R) h' → SInv m' D x tx st' op' → StrsAre vs' res' → res'.length ≤ 5000 → Q .next ⟨h', gn', d, t', os⟩) →
      OkC w A (.forLoop sFor.1 (.ref a) sFor.2.1 sFor.2.2 (envOf (fname 4) (fscope 4) L f cd)) Q ⟨h, gn, d, t, os⟩ := by
  intro items
  induction items with
  | nil =>
    intro st op res vs m c tr fs pv gs h gn t G hs hg hb S I hr hl q
    have S1 : St g (pv ++ ((L, isNs m) :: (D, isLst vs) :: (a, isGenO k) :: R)) h := S.perm (List.perm_append_comm (l₁ := (L, isNs m) :: (D, isLst vs) :: (a, isGenO k) :: R) (l₂ := pv))
    refine lp_turn (next_none G (hf.less (by omega)) B S1 (gen_iff.mp (S.at 2 rfl)) hg hs fun h' t' S' => ?_)
    exact wpAny_execs_nil (q st op res vs m h' _ t' rfl (bare_set (bare_set hb rfl) rfl) S' I hr (by simpa using hl))
  | cons it rest ih =>
    obtain ⟨p, ch⟩ := it
    intro st op res vs m c tr fs pv gs h gn t G hs hg hb S I hr hl q
    have S1 : St g (pv ++ ((L, isNs m) :: (D, isLst vs) :: (a, isGenO k) :: R)) h := S.perm (List.perm_append_comm (l₁ := (L, isNs m) :: (D, isLst vs) :: (a, isGenO k) :: R) (l₂ := pv))
    have hk : k < gn.size := (Array.getElem?_eq_some_iff.mp hg).1
    refine lp_turn (next_some G (hf.less (by omega)) B S1 (gen_iff.mp (S.at 2 rfl)) hg hs fun v h1 t1 gs' c' tr' fs' pv' hs' G' S' hp => ?_)
    have S2 : St g ((L, isNs m) :: (D, isLst vs) :: (a, isGenO k) :: (R ++ pv')) h1 := S'.perm (List.perm_append_comm (l₁ := pv') (l₂ := (L, isNs m) :: (D, isLst vs) :: (a, isGenO k) :: R))
    obtain ⟨ta, u1, u2, rfl, hT⟩ := hp
    refine take_pair (hf.less (Nat.le_refl _)) S2 (gen_iff.mp (S2.at 2 rfl)) hT fun h2 t2 S3 => ?_
    have hb' : AllBare ((gn.setIfInBounds k .running).setIfInBounds k gs') := bare_set (bare_set hb rfl) hs'.isBare
    have hg' : ((gn.setIfInBounds k .running).setIfInBounds k gs')[k]? = some gs' := by simp [hk]
    obtain ⟨us, hst⟩ := I.start
    obtain ⟨vo, hvo, hov⟩ := I.opn
    refine x_cons (x_if (t_cmp (e_loc0 S3 (v := .str ch u2) (by simp [upd, ofs_inj]) (e_str fun u3 t3 => o_seq (t_bool ?_)))))
    by_cases hq : (ch == qt) = true
    · rw [if_pos hq]
      cases op with
      | none =>
        replace hov : vo = .none := hov
        subst hov
        refine x_cons (x_if (t_cmp (e_loc0 S3 (v := .none) (by simp [upd, ofs_inj, hvo]) (e_none (o_isNone_none (t_bool ?_))))))
        rw [if_pos rfl]
        refine x_cons (x_asg (e_loc0 S3 (v := .int p u1) (by simp [upd, ofs_inj]) (s_loc0 S3 fun h4 t4 S4 => ?_)))
        refine wpAny_execs_nil (wpAny_execs_nil (wpAny_execs_nil ?_))
        refine ih st (some p) res vs _ c' tr' fs' pv' gs' h4 _ t4 G' hs' hg' hb' S4 ⟨by simp [upd, ofs_inj, I.addr], ⟨us, by simp [upd, ofs_inj, hst]⟩, ⟨.int p u1, by simp [upd, ofs_inj], u1, rfl⟩, by simp [upd, ofs_inj, I.res]⟩ hr (by simp at hl ⊢; omega) ?_
        simpa [stripStep, hq] using q
      | some o =>
        obtain ⟨uo, rfl⟩ := hov
        refine x_cons (x_if (t_cmp (e_loc0 S3 (v := .int o uo) (by simp [upd, ofs_inj, hvo]) (e_none (o_isNone_int (t_bool ?_))))))
        rw [if_neg Bool.false_ne_true]
        refine x_cons (ok_mono (Q := fun f' s' => f' = .next ∧ ∃ (h5 : Heap) (t5 : Nat) (vs' : List Value), s' = ⟨h5, (gn.setIfInBounds k .running).setIfInBounds k gs', d, t5, os⟩ ∧ StrsAre vs' (if st != o then res ++ [Txt.slice x (some st) (some o)] else res) ∧
            St g ((L, isNs (upd (upd m (Str.ofString "pos") (.int p u1)) (Str.ofString "ch") (.str ch u2))) :: (D, isLst vs') :: (a, isGenO k) :: (R ++ pv')) h5) ?_ ?_)
        · refine x_if (t_cmp (e_loc0 S3 (v := .int st us) (by simp [upd, ofs_inj, hst]) (e_loc0 S3 (v := .int o uo) (by simp [upd, ofs_inj, hvo]) (o_ne (t_bool ?_)))))
          by_cases hne : (st != o) = true
          · rw [if_pos hne, if_pos hne]
            refine x_cons (x_expr (e_append S3 1 rfl (fun Q q => e_loc0 S3 (by simp [upd, ofs_inj, I.res]) q) (e_slice_ss (fun Q q => e_loc0 S3 (v := .str x tx) (by simp [upd, ofs_inj, I.addr]) q) (fun Q q => e_loc0 S3 (v := .int st us) (by simp [upd, ofs_inj, hst]) q) (fun Q q => e_loc0 S3 (v := .int o uo) (by simp [upd, ofs_inj, hvo]) q) (Nat.le_trans hx (by decide)) fun h5 tk5 t5 X5 => ?_)))
            refine o_append (S3.grow X5) 1 rfl (by have := strs_len hr; have h5000 : 5000 ≤ sizeLine := by decide
                                                   simp at hl; omega) fun h6 S6 => wpAny_execs_nil ?_
            exact ⟨rfl, h6, t5, _, rfl, strs_snoc hr _ tk5, S6⟩
          · rw [if_neg hne, if_neg hne]
            exact wpAny_execs_nil ⟨rfl, h2, _, vs, rfl, hr, S3⟩
        · rintro _ _ ⟨rfl, h5, t5, vs', rfl, hr', S5⟩
          refine x_cons (x_asg (e_bin (e_loc0 S5 (v := .int p u1) (by simp [upd, ofs_inj]) (e_int fun u6 t6 => o_add fun u7 t7 => s_loc0 S5 fun h8 t8 S8 => ?_))))
          refine x_cons (x_asg (e_none (s_loc0 S8 fun h9 t9 S9 => ?_)))
          refine wpAny_execs_nil (wpAny_execs_nil (wpAny_execs_nil ?_))
          refine ih (p + 1) none _ vs' _ c' tr' fs' pv' gs' h9 _ t9 G' hs' hg' hb' S9 ⟨by simp [upd, ofs_inj, I.addr], ⟨u7, by simp [upd, ofs_inj]⟩, ⟨.none, by simp [upd, ofs_inj], rfl⟩, by simp [upd, ofs_inj, I.res]⟩ hr' (by split <;> simp at hl ⊢ <;> omega) ?_
          simpa [stripStep, hq] using q
    · rw [if_neg hq]
      refine wpAny_execs_nil (wpAny_execs_nil ?_)
      refine ih st op res vs _ c' tr' fs' pv' gs' h2 _ t3 G' hs' hg' hb' S3 ⟨by simp [upd, ofs_inj, I.addr], ⟨us, by simp [upd, ofs_inj, hst]⟩, ⟨vo, by simp [upd, ofs_inj, hvo], hov⟩, by simp [upd, ofs_inj, I.res]⟩ hr (by simp at hl ⊢; omega) ?_
      simpa [stripStep, hq] using q
end
end Mine
end

section
open PySem PySem.W PySem.W.X PyProof.Rows
set_option Elab.async false
set_option maxRecDepth 100000
set_option linter.unusedSimpArgs false
namespace Mine

theorem escs_len : ∀ (cs : List Nat) (i : Nat) (b : Bool), (escs cs i b).length ≤ cs.length + (if b then 1 else 0)
  | [], i, b => by cases b <;> simp [escs]
  | c :: cs, i, true => by have := escs_len cs (i + 1) false; simp [escs] at this ⊢; omega
  | c :: cs, i, false => by
    unfold escs
    split
    · have := escs_len cs (i + 1) true; simp at this ⊢; omega
    · have := escs_len cs (i + 1) false; simp at this ⊢; omega

theorem strip_small (x : Str) : ∀ (items : List (Int × Str)) (s : Int × Option Int × List Str), (∀ y ∈ s.2.2, y.length ≤ x.length) → ∀ y ∈ (items.foldl (stripStep x) s).2.2, y.length ≤ x.length
  | [], _, h => h
  | (p, ch) :: rest, (st, op, res), h => by
    refine strip_small x rest _ ?_
    by_cases hq : (ch == qt) = true
    · cases op with
      | none => simpa [stripStep, hq] using h
      | some o =>
        by_cases hn : (st != o) = true
        · simp only [stripStep, hq, hn, if_true]
          intro y hy
          rcases List.mem_append.mp hy with hy | hy
          · exact h y hy
          · rw [List.mem_singleton] at hy; subst hy; exact Txt.slice_le x _ _
        · simpa [stripStep, hq, hn] using h
    · simpa [stripStep, hq] using h
theorem sum_small {l : List Str} {b : Nat} (h : ∀ y ∈ l, y.length ≤ b) : (l.map (·.length)).sum ≤ l.length * b := by
  induction l with
  | nil => simp
  | cons y r ih =>
    have h1 := h y (by simp)
    have h2 := ih fun z hz => h z (by simp [hz])
    simp only [List.map_cons, List.sum_cons, List.length_cons, Nat.add_mul, Nat.one_mul]
    omega

section
variable {w : World} {A : Around} {g h : Heap} {es R : List Ent} {gn : Array GenState} {d : Drawn} {t : Nat} {os : OsState} {env : Env} {pos p : Pos}
theorem St.second {e0 : Ent} {a : Addr} {P : Obj → Prop} {h' : Heap} (S : St g (e0 :: R) h) (hn : h.get? a = none) (x : Ext h h') (q : Pt h' a P) : St g (e0 :: (a, P) :: R) h' :=
  (S.cons hn x q).perm (List.Perm.swap _ _ _)
theorem e_list0 {e0 : Ent} {Q : Value → Shared → Prop} (S : St g (e0 :: R) h) (q : ∀ D h', St g (e0 :: (D, isLst []) :: R) h' → Q (.ref D) ⟨h', gn, d, t, os⟩) : Ok w A (eval (.List [] pos) env) Q ⟨h, gn, d, t, os⟩ := by
  refine wpAny_List (Calls.spliced_nil ⟨by decide, ?_⟩)
  exact q _ _ (S.second (get_size h) (Ext.push _ _) ⟨_, Heap.get?_push_size _ rfl, _, rfl⟩)
theorem i_gen {a k : Addr} {Q : Value → Shared → Prop} (hg : h.IsGen a k) (q : Q (.ref a) ⟨h, gn, d, t, os⟩) : Ok w A (pyIter (.ref a)) Q ⟨h, gn, d, t, os⟩ := wpAny_pyIter_gen (s := ⟨h, gn, d, t, os⟩) hg q

set_option maxHeartbeats 2000000 in
theorem strip_fn {n : Nat} {f : Addr} {x : Str} {tx : Tok} {Q : Value → Shared → Prop} (hf : Fine A (n + 6)) (B : Base g) (F : IsFn g 4 f) (S : St g es h) (hx : x.length ≤ 1000) (hb : AllBare gn)
    (q : ∀ h' gn' t' tk, AllBare gn' → St g es h' → Q (.str (stripF x) tk) ⟨h', gn', d, t', os⟩) : Ok w A (call (.ref f) [.str x tx]) Q ⟨h, gn, d, t, os⟩ := by
  refine call_fn (binds := [(Str.ofString "addr", .str x tx)]) hf B F S (fun _ _ _ => rfl) rfl (fun L cd A' h1 t1 hf1 S1 => ?_) rfl rfl rfl rfl
  refine x_cons (x_if (t_cmp (e_str fun u2 t2 => e_loc0 S1 (v := .str x tx) rfl (o_nin (t_bool ?_)))))
  by_cases hq : hasQ x = true
  · have hq' : (!(!(Builtin.Str.occurrences x (Str.ofString "\"") 0 x.length 1).isEmpty)) = false := by
      show (!(hasQ x)) = false
      rw [hq]; rfl
    rw [hq', if_neg Bool.false_ne_true]
    refine wpAny_execs_nil ?_
    refine x_cons (x_asg (e_int fun u3 t3 => s_loc0 S1 fun h4 t4 S4 => ?_))
    refine x_cons (x_asg (e_none (s_loc0 S4 fun h5 t5 S5 => ?_)))
    refine x_cons (x_asg (e_list0 S5 fun D h6 S6 => s_loc0 S6 fun h7 t7 S7 => ?_))
    obtain ⟨f3, Gf3, F3⟩ := B.fn 3 (by decide)
    refine x_cons (x_for (e_gF1 S7 Gf3 F3 (e_loc0 S7 (v := .str x tx) (by simp [upd, ofs_inj]) ⟨S7.ext, gen_call (hf1.less (m := n + 1) (by omega)) B F3 S7 fun a L3 cd3 m3 h8 t8 hm3 S8 => ?_⟩)))
    refine i_gen (gen_iff.mp (S8.at 1 rfl)) ?_
    have S9 : St g ((L, isNs _) :: (D, isLst []) :: (a, isGenO gn.size) :: (es ++ [(L3, isNs m3)])) h8 := S8.perm ((List.perm_append_comm (l₁ := [(L3, isNs m3)]) (l₂ := (a, isGenO gn.size) :: _ :: _ :: es)).trans (List.perm_middle (l₁ := [_, _]) (l₂ := es ++ [(L3, isNs m3)]) (a := (a, isGenO gn.size))).symm)
    have hlen : (escs x.cps.toList 0 false).length ≤ 1000 := by
      have := escs_len x.cps.toList 0 false
      have hx' : x.cps.size ≤ 1000 := hx
      simp at this; omega
    have I0 : SInv (upd (upd (upd (fun y => List.lookup y [(Str.ofString "addr", Value.str x tx)].reverse) (Str.ofString "start") (.int 0 u3)) (Str.ofString "open_pos") .none) (Str.ofString "result") (.ref D)) D x tx 0 none :=
      ⟨by simp [upd, ofs_inj], ⟨u3, by simp [upd, ofs_inj]⟩, ⟨.none, by simp [upd, ofs_inj], rfl⟩, by simp [upd, ofs_inj]⟩
    refine strip_loop (n := n) (hf1.less (by omega)) B hx (escs x.cps.toList 0 false) 0 none [] [] _ _ _ _ _ _ h8 _ t8 (gen_run (n := n + 1) (hf1.in1.less (by omega)) hm3) (.inl ⟨rfl, rfl, rfl⟩) (Array.getElem?_push_size ..) (hb.push rfl) S9
      I0 .nil (by simp; omega) ?_
    intro st' op' res' vs' m' ha gna ta efold hba Sa Ia hra hla
    obtain ⟨us, hst⟩ := Ia.start
    have fin : ∀ (hb : Heap) (tb : Nat) (vsb : List Value) (resb : List Str), resb = (if st' < x.length then res' ++ [Txt.slice x (some st') none] else res') → StrsAre vsb resb → resb.length ≤ 5001 → St g ((L, isNs m') :: (D, isLst vsb) :: (a, isGenO gn.size) :: es) hb →
        ∀ tk tb, Q (.str (Txt.join (Str.ofString "") resb) tk) ⟨hb, gna, d, tb, os⟩ := by
      intro hb tb vsb resb er hrb hlb Sb tk tb
      have := q hb gna tb tk hba (Sb.sub (((List.Sublist.refl _).cons _).cons _ |>.cons _))
      rw [stripF, if_pos hq, ← efold] at this
      subst er
      exact this
    have hsm : ∀ y ∈ res', y.length ≤ x.length := by
      have := strip_small x (escs x.cps.toList 0 false) (0, none, []) (by simp)
      rw [← efold] at this
      exact this
    have small : ∀ (resb : List Str), (∀ y ∈ resb, y.length ≤ x.length) → resb.length ≤ 5001 → (resb.map (·.length)).sum + resb.length * (Str.ofString "").length ≤ 16777216 := by
      intro resb h1 h2
      have h3 := sum_small (b := 1000) fun y hy => Nat.le_trans (h1 y hy) hx
      have h4 : (Str.ofString "").length = 0 := by decide +kernel
      rw [h4]; omega
    refine x_cons (x_if (t_cmp (e_loc0 Sa (v := .int st' us) hst (e_gB Sa (B.blt (Str.ofString "len", .builtin "len") (by simp [bltins])) (e_loc0 Sa (v := .str x tx) Ia.addr (o_lenS (Nat.le_trans hx (by decide)) fun u4 tb => o_lt (t_bool ?_)))))))
    by_cases hlt : st' < (x.length : Int)
    · rw [if_pos (by simpa using hlt)]
      refine x_cons (x_expr (e_append Sa 1 rfl (fun Q q => e_loc0 Sa Ia.res q) (e_slice_sn (fun Q q => e_loc0 Sa (v := .str x tx) Ia.addr q) (fun Q q => e_loc0 Sa (v := .int st' us) hst q) (Nat.le_trans hx (by decide)) fun hc tkc tc Xc => ?_)))
      have hlv := strs_len hra
      have h5000 : 5000 ≤ sizeLine := by decide
      refine o_append (Sa.grow Xc) 1 rfl (by omega) fun hd Sd => wpAny_execs_nil ?_
      refine x_cons (x_ret (e_join (e_str fun u5 td => ⟨u5, rfl, e_loc0 Sd Ia.res ⟨rfl, (lst_iff.mp (Sd.at 1 rfl)).isList, strs_snoc hra _ tkc, fun tk te => ?_⟩⟩) (small _ ?_ (by simp; omega))))
      · exact fin hd td _ _ (by rw [if_pos hlt]) (strs_snoc hra _ tkc) (by simp; omega) Sd tk te
      · intro y hy
        rcases List.mem_append.mp hy with hy | hy
        · exact hsm y hy
        · rw [List.mem_singleton] at hy; subst hy; exact Txt.slice_le x _ _
    · rw [if_neg (by simpa using hlt)]
      refine wpAny_execs_nil ?_
      refine x_cons (x_ret (e_join (e_str fun u5 td => ⟨u5, rfl, e_loc0 Sa Ia.res ⟨rfl, (lst_iff.mp (Sa.at 1 rfl)).isList, hra, fun tk te => ?_⟩⟩) (small _ hsm (by omega))))
      exact fin ha td _ _ (by rw [if_neg hlt]) hra (by omega) Sa tk te
  · have hq' : (!(!(Builtin.Str.occurrences x (Str.ofString "\"") 0 x.length 1).isEmpty)) = true := by
      show (!(hasQ x)) = true
      simp [hq]
    rw [hq', if_pos rfl]
    refine x_cons (x_ret (e_loc0 S1 (v := .str x tx) rfl ?_))
    have := q h1 gn t2 tx hb (S1.sub (List.Sublist.cons _ (List.Sublist.refl _)))
    simpa [stripF, hq] using this
end
end Mine
end

section
open PySem PySem.W PySem.W.X PyProof.Rows
set_option Elab.async false
set_option maxRecDepth 100000
set_option linter.unusedSimpArgs false
namespace Mine

def chk : List (Int × Str) → Int → Bool
  | [], o => o == 0
  | (_, ch) :: r, o => if ch == Str.ofString "(" then chk r (o + 1) else if ch == Str.ofString ")" then (if o - 1 < 0 then false else chk r (o - 1)) else chk r o
def checkF (x : Str) : Bool := chk (escs (stripF x).cps.toList 0 false) 0
def cFor : Expr × List Stmt × List Stmt := match (fbody 5).getD 2 (.Pass default) with | .For t _ b o _ => (t, b, o) | _ => (.Constant .none 0 default, [], [])

section
variable {w : World} {A : Around} {g : Heap} {d : Drawn} {os : OsState}
set_option maxHeartbeats 2000000 in
theorem chk_loop {n : Nat} (hf : Fine A (n + 1)) (B : Base g) {L f a k : Addr} {cd : Value} {R : List Ent} {Q : Flow → Shared → Prop} :
    ∀ (items : List (Int × Str)) (o : Int) (u : Tok) (m : Str → Option Value) (c : Code) (tr : Sem Fin) (fs : List Frame) (pv : List Ent) (gs : GenState) (h : Heap) (gn : Array GenState) (t : Nat),
      GRun w A.in1 items c tr fs pv → Sus gs c tr fs → gn[k]? = some gs → AllBare gn → St g ((L, isNs m) :: (a, isGenO k) :: (R ++ pv)) h → m (Str.ofString "opens") = some (.int o u) →
      (∀ o' u' m' h' gn' t', chk items o = (o' == 0) → AllBare gn' → St g ((L, isNs m') :: (a, isGenO k) :: R) h' → m' (Str.ofString "opens") = some (.int o' u') → Q .next ⟨h', gn', d, t', os⟩) →
      (∀ h' gn' t', chk items o = false → AllBare gn' → St g R h' → Q (.ret (.bool false)) ⟨h', gn', d, t', os⟩) →
      OkC w A (.forLoop cFor.1 (.ref a) cFor.2.1 cFor.2.2 (envOf (fname 5) (fscope 5) L f cd)) Q ⟨h, gn, d, t, os⟩ := by
  intro items
  induction items with
  | nil =>
    intro o u m c tr fs pv gs h gn t G hs hg hb S hm q1 q2
    have S1 : St g (pv ++ ((L, isNs m) :: (a, isGenO k) :: R)) h := S.perm (List.perm_append_comm (l₁ := (L, isNs m) :: (a, isGenO k) :: R) (l₂ := pv))
    refine lp_turn (next_none G (hf.less (by omega)) B S1 (gen_iff.mp (S.at 1 rfl)) hg hs fun h' t' S' => ?_)
    exact wpAny_execs_nil (q1 o u m h' _ t' rfl (bare_set (bare_set hb rfl) rfl) S' hm)
  | cons it rest ih =>
    obtain ⟨p, ch⟩ := it
    intro o u m c tr fs pv gs h gn t G hs hg hb S hm q1 q2
    have S1 : St g (pv ++ ((L, isNs m) :: (a, isGenO k) :: R)) h := S.perm (List.perm_append_comm (l₁ := (L, isNs m) :: (a, isGenO k) :: R) (l₂ := pv))
    have hk : k < gn.size := (Array.getElem?_eq_some_iff.mp hg).1
    refine lp_turn (next_some G (hf.less (by omega)) B S1 (gen_iff.mp (S.at 1 rfl)) hg hs fun v h1 t1 gs' c' tr' fs' pv' hs' G' S' hp => ?_)
    have S2 : St g ((L, isNs m) :: (a, isGenO k) :: (R ++ pv')) h1 := S'.perm (List.perm_append_comm (l₁ := pv') (l₂ := (L, isNs m) :: (a, isGenO k) :: R))
    obtain ⟨ta, u1, u2, rfl, hT⟩ := hp
    refine take_pair (hf.less (Nat.le_refl _)) S2 (gen_iff.mp (S2.at 1 rfl)) hT fun h2 t2 S3 => ?_
    have hb' : AllBare ((gn.setIfInBounds k .running).setIfInBounds k gs') := bare_set (bare_set hb rfl) hs'.isBare
    have hg' : ((gn.setIfInBounds k .running).setIfInBounds k gs')[k]? = some gs' := by simp [hk]
    refine x_cons (x_if (t_cmp (e_loc0 S3 (v := .str ch u2) (by simp [upd, ofs_inj]) (e_str fun u3 t3 => o_seq (t_bool ?_)))))
    by_cases ho : (ch == Str.ofString "(") = true
    · rw [if_pos ho]
      refine x_cons (x_aug (e_loc0N S3 (v := .int o u) (by simp [upd, ofs_inj, hm]) (e_int fun u4 t4 => i_add fun u5 t5 => s_loc0 S3 fun h6 t6 S6 => ?_)))
      refine wpAny_execs_nil (wpAny_execs_nil ?_)
      refine ih (o + 1) u5 _ c' tr' fs' pv' gs' h6 _ t6 G' hs' hg' hb' S6 (by simp [upd]) ?_ ?_
      · simpa [chk, ho] using q1
      · simpa [chk, ho] using q2
    · rw [if_neg ho]
      refine x_cons (x_if (t_cmp (e_loc0 S3 (v := .str ch u2) (by simp [upd, ofs_inj]) (e_str fun u4 t4 => o_seq (t_bool ?_)))))
      by_cases hc : (ch == Str.ofString ")") = true
      · rw [if_pos hc]
        refine x_cons (x_aug (e_loc0N S3 (v := .int o u) (by simp [upd, ofs_inj, hm]) (e_int fun u4 t4 => i_sub fun u5 t5 => s_loc0 S3 fun h6 t6 S6 => ?_)))
        refine x_cons (x_if (t_cmp (e_loc0 S6 (v := .int (o - 1) u5) (by simp [upd]) (e_int fun u7 t7 => o_lt (t_bool ?_)))))
        by_cases hn : o - 1 < 0
        · rw [if_pos (by simpa using hn)]
          refine x_cons (x_ret (e_bool ?_))
          exact q2 h6 _ _ (by simp [chk, ho, hc, hn]) hb' (S6.sub ((List.sublist_append_left R pv').cons _ |>.cons _))
        · rw [if_neg (by simpa using hn)]
          refine wpAny_execs_nil (wpAny_execs_nil (wpAny_execs_nil (wpAny_execs_nil ?_)))
          refine ih (o - 1) u5 _ c' tr' fs' pv' gs' h6 _ t7 G' hs' hg' hb' S6 (by simp [upd]) ?_ ?_
          · simpa [chk, ho, hc, hn] using q1
          · simpa [chk, ho, hc, hn] using q2
      · rw [if_neg hc]
        refine wpAny_execs_nil (wpAny_execs_nil (wpAny_execs_nil ?_))
        refine ih o u _ c' tr' fs' pv' gs' h2 _ t4 G' hs' hg' hb' S3 (by simp [upd, ofs_inj, hm]) ?_ ?_
        · simpa [chk, ho, hc] using q1
        · simpa [chk, ho, hc] using q2
end
end Mine
end

section
open PySem PySem.W PySem.W.X PyProof.Rows
set_option Elab.async false
set_option maxRecDepth 100000
set_option linter.unusedSimpArgs false
namespace Mine
section
variable {w : World} {A : Around} {g h : Heap} {es R : List Ent} {gn : Array GenState} {d : Drawn} {t : Nat} {os : OsState} {env : Env} {pos p : Pos}
set_option maxHeartbeats 2000000 in
theorem check_fn {n : Nat} {f : Addr} {x : Str} {tx : Tok} {Q : Value → Shared → Prop} (hf : Fine A (n + 7)) (B : Base g) (F : IsFn g 5 f) (S : St g es h) (hx : x.length ≤ 1000) (hb : AllBare gn)
    (q : ∀ h' gn' t', AllBare gn' → St g es h' → Q (.bool (checkF x)) ⟨h', gn', d, t', os⟩) : Ok w A (call (.ref f) [.str x tx]) Q ⟨h, gn, d, t, os⟩ := by
  refine call_fn (binds := [(Str.ofString "addr", .str x tx)]) hf B F S (fun _ _ _ => rfl) rfl (fun L cd A' h1 t1 hf1 S1 => ?_) rfl rfl rfl rfl
  obtain ⟨f4, Gf4, F4⟩ := B.fn 4 (by decide)
  refine x_cons (x_asg (e_gF1 S1 Gf4 F4 (e_loc0 S1 (v := .str x tx) rfl ⟨S1.ext, strip_fn hf1 B F4 S1 hx hb fun h2 gn2 t2 u2 hb2 S2 => s_loc0 S2 fun h3 t3 S3 => ?_⟩)))
  refine x_cons (x_asg (e_int fun u4 t4 => s_loc0 S3 fun h5 t5 S5 => ?_))
  obtain ⟨f3, Gf3, F3⟩ := B.fn 3 (by decide)
  refine x_cons (x_for (e_gF1 S5 Gf3 F3 (e_loc0 S5 (v := .str (stripF x) u2) (by simp [upd, ofs_inj]) ⟨S5.ext, gen_call (hf1.less (m := n + 1) (by omega)) B F3 S5 fun a L3 cd3 m3 h8 t8 hm3 S8 => ?_⟩)))
  refine i_gen (gen_iff.mp (S8.at 1 rfl)) ?_
  have S9 : St g ((L, isNs _) :: (a, isGenO gn2.size) :: (es ++ [(L3, isNs m3)])) h8 := S8.perm ((List.perm_append_comm (l₁ := [(L3, isNs m3)]) (l₂ := (a, isGenO gn2.size) :: _ :: es)).trans (List.Perm.swap _ _ _))
  refine chk_loop (n := n) (hf1.less (by omega)) B (escs (stripF x).cps.toList 0 false) 0 u4 _ _ _ _ _ _ h8 _ t8 (gen_run (n := n + 1) (hf1.in1.less (by omega)) hm3) (.inl ⟨rfl, rfl, rfl⟩) (Array.getElem?_push_size ..) (hb2.push rfl) S9 (by simp [upd]) ?_ ?_
  · intro o' u' m' ha gna ta ec hba Sa hma
    refine x_cons (x_ret (e_cmp (e_loc0 Sa (v := .int o' u') hma (e_int fun u6 t6 => o_eq ?_))))
    have := q ha gna t6 hba (Sa.sub ((List.Sublist.refl _).cons _ |>.cons _))
    rw [checkF, ec] at this
    exact this
  · intro ha gna ta ec hba Sa
    have := q ha gna ta hba Sa
    rw [checkF, ec] at this
    exact this
end
end Mine
end

section
open PySem PySem.W PySem.W.X PyProof.Rows
set_option Elab.async false
set_option maxRecDepth 100000
set_option linter.unusedSimpArgs false
namespace Mine

theorem St.weaken {g g' h : Heap} {es : List Ent} (S : St g' es h) (x : Ext g g') : St g es h :=
  ⟨x.trans S.ext, S.pts, S.nd, fun e he => by
    cases q : g.get? e.1 with
    | none => rfl
    | some o => have := x _ _ q; rw [S.new e he] at this; cases this⟩
/-- an object of the call's own is laid among what stays -/
theorem St.freeze {g h : Heap} {es es' : List Ent} {a : Addr} {P : Obj → Prop} (S : St g es h) (hp : es.Perm ((a, P) :: es')) : ∃ g', St g' es' h ∧ Ext g g' ∧ Pt g' a P := by
  have S1 := S.perm hp
  have S2 : St g es' h := S1.sub ((List.Sublist.refl _).cons _)
  obtain ⟨g', S3, x, y, z⟩ := S2.rebase
  refine ⟨g', S3, x, ?_⟩
  obtain ⟨o, e, q⟩ := S1.pts (a, P) (by simp)
  refine ⟨o, z a o e ?_, q⟩
  have := S1.nd
  simp only [List.map_cons, List.nodup_cons] at this
  exact this.1
/-- all that a call has made is laid among what stays -/
theorem St.settle {g h h' : Heap} {es : List Ent} (S : St g es h) (x : Ext h h') : ∃ g', St g' es h' ∧ Ext g g' ∧ ∀ b o, h.get? b = none → h'.get? b = some o → g'.get? b = some o := by
  obtain ⟨g', S1, x1, _, z⟩ := (S.grow x).rebase
  refine ⟨g', S1, x1, fun b o hn e => z b o e fun hm => ?_⟩
  obtain ⟨e', he', rfl⟩ := List.mem_map.mp hm
  exact (S.pts e' he').not_none hn

structure Iter (w : World) (g : Heap) (it : Addr) (P : Nat → Obj → Prop) (n : Nat) (V : Nat → Value → Prop) : Prop where
  next : ∀ {A : Around} {e0 : Ent} {R : List Ent} {h : Heap} {gn : Array GenState} {d : Drawn} {t : Nat} {os : OsState} {Q : Option Value → Shared → Prop} {i : Nat}, i < n → St g (e0 :: (it, P i) :: R) h →
    (∀ v h' t', V i v → St g (e0 :: (it, P (i + 1)) :: R) h' → Q (some v) ⟨h', gn, d, t', os⟩) → Ok w A (pyNext (.ref it)) Q ⟨h, gn, d, t, os⟩
  done : ∀ {A : Around} {e0 : Ent} {R : List Ent} {h : Heap} {gn : Array GenState} {d : Drawn} {t : Nat} {os : OsState} {Q : Option Value → Shared → Prop}, A.handled = none → St g (e0 :: (it, P n) :: R) h →
    (∀ h', St g (e0 :: R) h' → Q none ⟨h', gn, d, t, os⟩) → Ok w A (pyNext (.ref it)) Q ⟨h, gn, d, t, os⟩
  self : ∀ {A : Around} {e0 : Ent} {R : List Ent} {h : Heap} {gn : Array GenState} {d : Drawn} {t : Nat} {os : OsState} {Q : Value → Shared → Prop} {i : Nat}, St g (e0 :: (it, P i) :: R) h → Q (.ref it) ⟨h, gn, d, t, os⟩ → Ok w A (pyIter (.ref it)) Q ⟨h, gn, d, t, os⟩

def isLIt (G : Addr) (i : Nat) : Obj → Prop := fun o => o.cls = .type "list_iterator" ∧ o.data = .fields #[.ref G, .int i 0]
theorem lit_iff {h : Heap} {a G : Addr} {i : Nat} : Pt h a (isLIt G i) ↔ h.IsListIter a G i := Iff.rfl
def isRIt (n : Nat) (i : Nat) : Obj → Prop := fun o => o = { cls := .type "range_iterator", dict := none, data := .fields #[rawInt (i : Int), rawInt ((n : Int) - i), rawInt 1], slots := #[] }
theorem rit_iff {h : Heap} {a : Addr} {n i : Nat} : Pt h a (isRIt n i) ↔ IsRangeIter h a i ((n : Int) - i) 1 := by
  constructor
  · rintro ⟨o, e, rfl⟩; exact e
  · intro e; exact ⟨_, e, rfl⟩

theorem St.lose {g h h' : Heap} {e0 : Ent} {it : Addr} {P : Obj → Prop} {R : List Ent} (S : St g (e0 :: (it, P) :: R) h) (x : Heap.ExtBut it h h') : St g (e0 :: R) h' := by
  have S' : St g (e0 :: R) h := S.sub ((List.Sublist.refl R).cons _ |>.cons_cons _)
  have hn : g.get? it = none := S.new (it, P) (by simp)
  have nd : it ∉ (e0 :: R).map (·.1) := by
    have nd := S.nd
    simp only [List.map_cons, List.nodup_cons, List.mem_cons, not_or] at nd ⊢
    exact ⟨fun z => nd.1.1 z.symm, nd.2.1⟩
  refine ⟨fun b o eo => x b o (fun z => by subst z; rw [hn] at eo; cases eo) (S.ext b o eo), fun e' he' => ?_, S'.nd, S'.new⟩
  obtain ⟨o, eo, qo⟩ := S'.pts e' he'
  refine ⟨o, x _ o (fun z => ?_) eo, qo⟩
  have hm := List.mem_map_of_mem (f := fun y : Ent => y.1) he'
  rw [show e'.1 = it from z] at hm
  exact nd hm

theorem iter_list {w : World} {g : Heap} {it G : Addr} {vs : List Value} (hl : g.IsList G vs.toArray) : Iter w g it (isLIt G) vs.length (fun i v => vs[i]? = some v) where
  next := fun {A e0 R h gn d t os Q i} hi S q => by
    have hl' : h.IsList G vs.toArray := let ⟨o, e, r⟩ := hl; ⟨o, S.ext _ _ e, r⟩
    refine wpAny_pyNext_list_item (s := ⟨h, gn, d, t, os⟩) (x := vs[i]) (lit_iff.mp (S.at 1 rfl)) hl' (by simp [hi]) fun h' hit hs => ?_
    exact q _ h' t (by simp [hi]) (S.set 1 rfl hs (lit_iff.mpr hit))
  done := fun {A e0 R h gn d t os Q} hh S q => by
    have hl' : h.IsList G vs.toArray := let ⟨o, e, r⟩ := hl; ⟨o, S.ext _ _ e, r⟩
    exact wpAny_pyNext_list_end (s := ⟨h, gn, d, t, os⟩) hh (lit_iff.mp (S.at 1 rfl)) hl' (by simp) fun h' hx => q h' (S.lose hx)
  self := fun {A e0 R h gn d t os Q i} S q => wpAny_pyIter_listiter (s := ⟨h, gn, d, t, os⟩) (lit_iff.mp (S.at 1 rfl)) q
theorem iter_range {w : World} {g : Heap} {it : Addr} {n : Nat} : Iter w g it (isRIt n) n (fun i v => ∃ u, v = .int (i : Int) u) where
  next := fun {A e0 R h gn d t os Q i} hi S q => by
    refine wpAny_pyNext_range_item (s := ⟨h, gn, d, t, os⟩) (rit_iff.mp (S.at 1 rfl)) (by omega) fun h' hit hs => ?_
    refine q _ h' _ ⟨_, rfl⟩ (S.set 1 rfl hs (rit_iff.mpr ?_))
    have e1 : ((i + 1 : Nat) : Int) = (i : Int) + 1 := by push_cast; rfl
    rw [e1, show (n : Int) - ((i : Int) + 1) = (n : Int) - i - 1 by omega]
    exact hit
  done := fun {A e0 R h gn d t os Q} hh S q => wpAny_pyNext_range_end (s := ⟨h, gn, d, t, os⟩) hh (rit_iff.mp (S.at 1 rfl)) (by omega) fun h' hx => q h' (S.lose hx)
  self := fun {A e0 R h gn d t os Q i} S q => wpAny_pyIter_rangeiter (s := ⟨h, gn, d, t, os⟩) (rit_iff.mp (S.at 1 rfl)) q

section
variable {w : World} {A : Around} {g h : Heap} {R : List Ent} {gn : Array GenState} {d : Drawn} {t : Nat} {os : OsState} {env : Env} {pos p : Pos}
theorem i_list {e0 : Ent} {G : Addr} {vs : List Value} {Q : Value → Shared → Prop} (hl : g.IsList G vs.toArray) (S : St g (e0 :: R) h) (q : ∀ it h', St g (e0 :: (it, isLIt G 0) :: R) h' → Q (.ref it) ⟨h', gn, d, t, os⟩) : Ok w A (pyIter (.ref G)) Q ⟨h, gn, d, t, os⟩ := by
  have hl' : h.IsList G vs.toArray := let ⟨o, e, r⟩ := hl; ⟨o, S.ext _ _ e, r⟩
  exact wpAny_pyIter_list (s := ⟨h, gn, d, t, os⟩) hl' (q _ _ (S.second (get_size h) (Ext.push _ _) ⟨_, Heap.get?_push_size _ rfl, rfl, rfl⟩))

theorem o_range {e0 : Ent} {n : Nat} {u : Tok} {Q : Value → Shared → Prop} (S : St g (e0 :: R) h) (q : ∀ r a b c h' t', St g (e0 :: R) h' → IsRange h' r 0 n 1 a b c → Q (.ref r) ⟨h', gn, d, t', os⟩) : Ok w A (call (.type "range") [.int n u]) Q ⟨h, gn, d, t, os⟩ :=
  call_range_1 (q _ _ _ _ _ _ (S.grow (Ext.push _ _)) (Heap.get?_push_size _ rfl))
theorem i_range {e0 : Ent} {n : Nat} {r : Addr} {a b c : Tok} {Q : Value → Shared → Prop} (hn : n ≤ 1000000) (hr : IsRange h r 0 n 1 a b c) (S : St g (e0 :: R) h) (q : ∀ it h', St g (e0 :: (it, isRIt n 0) :: R) h' → Q (.ref it) ⟨h', gn, d, t, os⟩) : Ok w A (pyIter (.ref r)) Q ⟨h, gn, d, t, os⟩ := by
  have hsz : Builtin.Range.rangeSize 0 (n : Int) 1 = n := by
    unfold Builtin.Range.rangeSize
    simp
    omega
  have hsm : Builtin.Range.small 0 (n : Int) 1 = true := by
    unfold Builtin.Range.small
    rw [hsz]
    simp [Builtin.Range.rangeFitsLong]
    omega
  refine wpAny_pyIter_range (s := ⟨h, gn, d, t, os⟩) hr hsm ?_
  rw [hsz]
  refine q _ _ (S.second (get_size h) (Ext.push _ _) (rit_iff.mpr ?_))
  have := Heap.get?_push_size h (o := { cls := .type "range_iterator", data := .fields #[rawInt 0, rawInt (n : Int), rawInt 1] }) rfl
  simpa using this
theorem for_iter {L it : Addr} {P : Nat → Obj → Prop} {n : Nat} {V : Nat → Value → Prop} {x : Str} {px : Pos} {body : List Stmt} {Q : Flow → Shared → Prop} (It : Iter w g it P n V) (hh : A.handled = none)
    (J : Nat → (Str → Option Value) → List Ent → Array GenState → Prop)
    (step : ∀ i v m R gn h t, i < n → V i v → J i m R gn → St g ((L, isNs (upd m x v)) :: (it, P (i + 1)) :: R) h →
      Ok w A (execs body env) (fun f s' => f = .next ∧ ∃ m' R' gn' h' t', s' = ⟨h', gn', d, t', os⟩ ∧ J (i + 1) m' R' gn' ∧ St g ((L, isNs m') :: (it, P (i + 1)) :: R') h') ⟨h, gn, d, t, os⟩)
    {m : Str → Option Value} (j0 : J 0 m R gn) (S : St g ((L, isNs m) :: (it, P 0) :: R) h)
    (q : ∀ m R gn h t, J n m R gn → St g ((L, isNs m) :: R) h → Q .next ⟨h, gn, d, t, os⟩)
    (hL : env.locals = L := by rfl) (hk : env.scope.kind = .function := by rfl) (hx : env.kindOf x = some .local := by rfl) (hlo : ∀ v, letOwnedTupleGo (.Name x px) (.ref it) v = pure () := by intro _; rfl) :
    OkC w A (.forLoop (.Name x px) (.ref it) body [] env) Q ⟨h, gn, d, t, os⟩ := by
  have main : ∀ k i m R gn h t, i + k = n → J i m R gn → St g ((L, isNs m) :: (it, P i) :: R) h → OkC w A (.forLoop (.Name x px) (.ref it) body [] env) Q ⟨h, gn, d, t, os⟩ := by
    intro k
    induction k with
    | zero =>
      intro i m R gn h t e j S
      obtain rfl : i = n := by omega
      exact lp_turn (It.done hh S fun h' S' => wpAny_execs_nil (q m R gn h' t j S'))
    | succ k ih =>
      intro i m R gn h t e j S
      refine lp_turn (It.next (by omega) S fun v h' t' hv S' => ?_)
      refine wpAny_of_eq (hlo v) (a_loc0 S' (fun h2 t2 S2 => ?_) hL hk hx)
      refine wpAny_mono (step i v m R gn h2 t2 (by omega) hv j S2) (fun f s' hs => ?_) fun _ _ e => e
      obtain ⟨rfl, m', R', gn', h', t', rfl, j', S3⟩ := hs
      exact ih (i + 1) m' R' gn' h' t' (by omega) j' S3
  exact main n 0 m R gn h t (by omega) j0 S
end
end Mine
end

section
open PySem PySem.W PySem.W.X PyProof.Rows
set_option Elab.async false
set_option maxRecDepth 100000
set_option linter.unusedSimpArgs false
namespace Mine

def bad : Str := Str.ofString "('', '')"
def fixF (y : Str) : Str := if checkF y then y else bad
theorem strs_get {vs : List Value} {ys : List Str} (h : StrsAre vs ys) : ∀ {i : Nat} {v : Value}, vs[i]? = some v → ∃ y u, ys[i]? = some y ∧ v = .str y u := by
  induction h with
  | nil => intro i v e; simp at e
  | cons y t _ ih =>
    intro i v e
    cases i with
    | zero => simp at e; exact ⟨y, t, by simp, e.symm⟩
    | succ i => simp only [List.getElem?_cons_succ] at e ⊢; exact ih e
theorem t_not {w : World} {A : Around} {env : Env} {x : Expr} {pos : Pos} {whole : Sem Value} {Q : Bool → Shared → Prop} {s : Shared} (q : Ok w A (isTrue x env (eval x env)) (fun b s₁ => Q (!b) s₁) s) : Ok w A (isTrue (.UnaryOp .Not x pos) env whole) Q s := wpAny_isTrue_Not q

section
variable {w : World} {A : Around} {g h : Heap} {es R : List Ent} {gn : Array GenState} {d : Drawn} {t : Nat} {os : OsState} {env : Env} {pos p : Pos}
set_option maxHeartbeats 2000000 in
theorem parse_fn {n : Nat} {f G : Addr} {vs : List Value} {ys : List Str} {Q : Value → Shared → Prop} (hf : Fine A (n + 8)) (B : Base g) (F : IsFn g 6 f) (S : St g es h) (hl : g.IsList G vs.toArray) (hy : StrsAre vs ys) (hx : ∀ y ∈ ys, y.length ≤ 1000) (hn : ys.length ≤ 1000) (hb : AllBare gn)
    (q : ∀ D us h' gn' t', AllBare gn' → St g ((D, isLst us) :: es) h' → StrsAre us (ys.map fixF) → Q (.ref D) ⟨h', gn', d, t', os⟩) : Ok w A (call (.ref f) [.ref G]) Q ⟨h, gn, d, t, os⟩ := by
  refine call_fn (binds := [(Str.ofString "email_header_fields", .ref G)]) hf B F S (fun _ _ _ => rfl) rfl (fun L cd A' h1 t1 hf1 S1 => ?_) rfl rfl rfl rfl
  refine x_cons (x_asg (e_list0 S1 fun D h2 S2 => s_loc0 S2 fun h3 t3 S3 => ?_))
  refine x_cons (x_for (e_loc0 S3 (v := .ref G) (by simp [upd, ofs_inj]) (i_list hl S3 fun it h4 S4 => ?_)))
  have hlen := strs_len hy
  obtain ⟨f5, Gf5, F5⟩ := B.fn 5 (by decide)
  refine for_iter (iter_list hl) hf1.1 (fun i m R gn => AllBare gn ∧ m (Str.ofString "accepted_values") = some (.ref D) ∧ ∃ us, R = (D, isLst us) :: es ∧ StrsAre us ((ys.take i).map fixF)) ?_ ⟨hb, by simp [upd], [], rfl, .nil⟩ S4 ?_
  · rintro i v m R gn h t hi hv ⟨hb, hm, us, rfl, hu⟩ S5
    obtain ⟨y, u, ey, rfl⟩ := strs_get hy hv
    have hyl : y.length ≤ 1000 := hx y (List.mem_of_getElem? ey)
    have htk : (ys.take (i + 1)).map fixF = (ys.take i).map fixF ++ [fixF y] := by rw [List.take_add_one, ey]; simp
    have hul : us.length ≤ sizeLine := by
      have h1 := strs_len hu
      simp at h1
      have : 1000 ≤ sizeLine := by decide
      omega
    have fin : ∀ (h9 : Heap) (t9 : Nat) (gn9 : Array GenState) (m9 : Str → Option Value) (u9 : Tok), AllBare gn9 → m9 (Str.ofString "accepted_values") = some (.ref D) → m9 (Str.ofString "v") = some (.str (fixF y) u9) → St g ((L, isNs m9) :: (it, isLIt G (i + 1)) :: (D, isLst us) :: es) h9 →
        Ok w A' (execs ([(forBody 6 1).getD 1 (.Pass default)]) (envOf (fname 6) (fscope 6) L f cd)) (fun f s' => f = .next ∧ ∃ m' R' gn' h' t', s' = ⟨h', gn', d, t', os⟩ ∧ (AllBare gn' ∧ m' (Str.ofString "accepted_values") = some (.ref D) ∧ ∃ us, R' = (D, isLst us) :: es ∧ StrsAre us ((ys.take (i + 1)).map fixF)) ∧ St g ((L, isNs m') :: (it, isLIt G (i + 1)) :: R') h') ⟨h9, gn9, d, t9, os⟩ := by
      intro h9 t9 gn9 m9 u9 hb9 ha9 hv9 S9
      refine x_cons (x_expr (e_append S9 2 rfl (fun Q q => e_loc0 S9 ha9 q) (e_loc0 S9 hv9 (o_append S9 2 rfl hul fun h10 S10 => wpAny_execs_nil ?_))))
      exact ⟨rfl, m9, _, gn9, h10, t9, rfl, ⟨hb9, ha9, _, rfl, by rw [htk]; exact strs_snoc hu _ u9⟩, S10⟩
    refine x_cons (x_if (t_not (t_val (e_gF1 S5 Gf5 F5 (e_loc0 S5 (v := .str y u) (by simp [upd]) ⟨S5.ext, check_fn hf1 B F5 S5 hyl hb fun h6 gn6 t6 hb6 S6 => t_bool ?_⟩)))))
    by_cases hc : checkF y = true
    · rw [hc, if_neg (by simp)]
      exact wpAny_execs_nil (fin h6 t6 gn6 _ u hb6 (by simp [upd, ofs_inj, hm]) (by simp [upd, fixF, hc]) S6)
    · rw [if_pos (by simp [hc])]
      refine x_cons (x_asg (e_str fun u7 t7 => s_loc0 S6 fun h8 t8 S8 => wpAny_execs_nil ?_))
      exact fin h8 t8 gn6 _ u7 hb6 (by simp [upd, ofs_inj, hm]) (by simp [upd, fixF, hc, bad]) S8
  · rintro m R gn h t ⟨hb, hm, us, rfl, hu⟩ S5
    refine x_cons (x_ret (e_loc0 S5 hm ?_))
    rw [List.take_of_length_le (by omega)] at hu
    exact q D us h gn t hb (S5.sub ((List.Sublist.refl _).cons _)) hu
end
end Mine
end

section
open PySem PySem.W PySem.W.X PyProof.Rows
set_option Elab.async false
set_option maxRecDepth 100000
set_option linter.unusedSimpArgs false
namespace Mine

def NewL (Q : Value → Shared → Prop) (vs : List Value) (s : Shared) : Prop := Q (.ref s.heap.objs.size) { s with heap := s.heap.push { cls := .type "list", data := .seq vs.toArray } }
section
variable {w : World} {A : Around} {g h : Heap} {es R : List Ent} {gn : Array GenState} {d : Drawn} {t : Nat} {os : OsState} {env : Env} {pos p : Pos} {Q : Value → Shared → Prop} {s : Shared}
theorem newL {e0 : Ent} {vs : List Value} (S : St g (e0 :: R) h) (q : ∀ D h', St g (e0 :: (D, isLst vs) :: R) h' → Q (.ref D) ⟨h', gn, d, t, os⟩) : NewL Q vs ⟨h, gn, d, t, os⟩ :=
  q _ _ (S.second (get_size h) (Ext.push _ _) ⟨_, Heap.get?_push_size _ rfl, _, rfl⟩)
theorem e_list1 {e1 : Expr} (q : Ok w A (eval e1 env) (fun v1 s1 => NewL Q [v1] s1) s) (he : starEach [e1] env = [(false, eval e1 env)] := by rfl) : Ok w A (eval (.List [e1] pos) env) Q s := by
  refine wpAny_List ?_
  rw [he]
  exact Calls.spliced_cons (wpAny_mono q (fun v1 s1 h1 => Calls.spliced_nil ⟨(by decide : 1 ≤ sizeLine), h1⟩) fun _ _ e => e)
theorem e_list2 {e1 e2 : Expr} (q : Ok w A (eval e1 env) (fun v1 s1 => Ok w A (eval e2 env) (fun v2 s2 => NewL Q [v1, v2] s2) s1) s) (he : starEach [e1, e2] env = [(false, eval e1 env), (false, eval e2 env)] := by rfl) : Ok w A (eval (.List [e1, e2] pos) env) Q s := by
  refine wpAny_List ?_
  rw [he]
  exact Calls.spliced_cons (wpAny_mono q (fun v1 s1 h1 => Calls.spliced_cons (wpAny_mono h1 (fun v2 s2 h2 => Calls.spliced_nil ⟨(by decide : 2 ≤ sizeLine), h2⟩) fun _ _ e => e)) fun _ _ e => e)
theorem e_list3 {e1 e2 e3 : Expr} (q : Ok w A (eval e1 env) (fun v1 s1 => Ok w A (eval e2 env) (fun v2 s2 => Ok w A (eval e3 env) (fun v3 s3 => NewL Q [v1, v2, v3] s3) s2) s1) s) (he : starEach [e1, e2, e3] env = [(false, eval e1 env), (false, eval e2 env), (false, eval e3 env)] := by rfl) : Ok w A (eval (.List [e1, e2, e3] pos) env) Q s := by
  refine wpAny_List ?_
  rw [he]
  exact Calls.spliced_cons (wpAny_mono q (fun v1 s1 h1 => Calls.spliced_cons (wpAny_mono h1 (fun v2 s2 h2 => Calls.spliced_cons (wpAny_mono h2 (fun v3 s3 h3 => Calls.spliced_nil ⟨(by decide : 3 ≤ sizeLine), h3⟩) fun _ _ e => e)) fun _ _ e => e)) fun _ _ e => e)
theorem e_list4 {e1 e2 e3 e4 : Expr} (q : Ok w A (eval e1 env) (fun v1 s1 => Ok w A (eval e2 env) (fun v2 s2 => Ok w A (eval e3 env) (fun v3 s3 => Ok w A (eval e4 env) (fun v4 s4 => NewL Q [v1, v2, v3, v4] s4) s3) s2) s1) s)
    (he : starEach [e1, e2, e3, e4] env = [(false, eval e1 env), (false, eval e2 env), (false, eval e3 env), (false, eval e4 env)] := by rfl) : Ok w A (eval (.List [e1, e2, e3, e4] pos) env) Q s := by
  refine wpAny_List ?_
  rw [he]
  exact Calls.spliced_cons (wpAny_mono q (fun v1 s1 h1 => Calls.spliced_cons (wpAny_mono h1 (fun v2 s2 h2 => Calls.spliced_cons (wpAny_mono h2 (fun v3 s3 h3 => Calls.spliced_cons (wpAny_mono h3 (fun v4 s4 h4 => Calls.spliced_nil ⟨(by decide : 4 ≤ sizeLine), h4⟩) fun _ _ e => e)) fun _ _ e => e)) fun _ _ e => e)) fun _ _ e => e)
theorem t_and2 {x : Expr} {rest : List Expr} {whole : Sem Value} {Q : Bool → Shared → Prop} (q : Ok w A (isTrue x env (eval x env)) (fun b s₁ => if b then Ok w A (allTrue .And rest env) Q s₁ else Q false s₁) s) : Ok w A (isTrue (.BoolOp .And (x :: rest) pos) env whole) Q s := wpAny_isTrue_BoolOp (wpAny_allTrue_And_cons q)
theorem a_and {x : Expr} {rest : List Expr} {Q : Bool → Shared → Prop} (q : Ok w A (isTrue x env (eval x env)) (fun b s₁ => if b then Ok w A (allTrue .And rest env) Q s₁ else Q false s₁) s) : Ok w A (allTrue .And (x :: rest) env) Q s := wpAny_allTrue_And_cons q
theorem a_nil {Q : Bool → Shared → Prop} (q : Q true s) : Ok w A (allTrue .And [] env) Q s := wpAny_allTrue_And_nil q
end

abbrev Row4 := Addr × List Int
def isInts (l : List Int) : Obj → Prop := fun o => ∃ vs, IntsAre vs l ∧ isLst vs o
def rowEnt (r : Row4) : Ent := (r.1, isInts r.2)

def ordC (a b : Int) (n : Nat) : List (List Int) := ((List.range n).filter fun (c : Nat) => (a != b && (a != (c : Int) && b != (c : Int)))).map fun (c : Nat) => [a, b, (c : Int), 6 - a - b - c]
def ordB (a : Int) (n : Nat) : List (List Int) := (List.range n).flatMap fun (b : Nat) => ordC a b 4
def ordA (n : Nat) : List (List Int) := (List.range n).flatMap fun (a : Nat) => ordB a 4
theorem ordC_succ (a b : Int) (n : Nat) : ordC a b (n + 1) = ordC a b n ++ (if (a != b && (a != (n : Int) && b != (n : Int))) then [[a, b, (n : Int), 6 - a - b - n]] else []) := by
  unfold ordC
  rw [List.range_succ, List.filter_append, List.map_append]
  congr 1
  by_cases h : (a != b && (a != (n : Int) && b != (n : Int))) = true
  · rw [if_pos h, List.filter_cons, if_pos h]; rfl
  · rw [if_neg h, List.filter_cons, if_neg h]; rfl
theorem ordB_succ (a : Int) (n : Nat) : ordB a (n + 1) = ordB a n ++ ordC a n 4 := by unfold ordB; rw [List.range_succ, List.flatMap_append]; simp
theorem ordA_succ (n : Nat) : ordA (n + 1) = ordA n ++ ordB n 4 := by unfold ordA; rw [List.range_succ, List.flatMap_append]; simp

theorem ordC_len (a b : Int) (n : Nat) : (ordC a b n).length ≤ n := by
  unfold ordC
  rw [List.length_map]
  exact Nat.le_trans (List.length_filter_le _ _) (by simp)
theorem ordB_len (a : Int) (n : Nat) : (ordB a n).length ≤ 4 * n := by
  induction n with
  | zero => simp [ordB]
  | succ n ih => rw [ordB_succ, List.length_append]; have := ordC_len a n 4; omega
theorem ordA_len (n : Nat) : (ordA n).length ≤ 16 * n := by
  induction n with
  | zero => simp [ordA]
  | succ n ih => rw [ordA_succ, List.length_append]; have := ordB_len n 4; omega
/-- the rows made so far stand, newest first -/
def Rows (D : Addr) (rs : List Row4) : List Ent := (D, isLst (rs.reverse.map fun r => .ref r.1)) :: rs.map rowEnt

section
variable {w : World} {A : Around} {g h : Heap} {es R : List Ent} {gn : Array GenState} {d : Drawn} {t : Nat} {os : OsState}
set_option maxHeartbeats 2000000 in
theorem orders_fn {n : Nat} {f : Addr} {Q : Value → Shared → Prop} (hf : Fine A (n + 2)) (B : Base g) (F : IsFn g 8 f) (S : St g es h)
    (q : ∀ D rs h' t', St g (Rows D rs ++ es) h' → rs.reverse.map (·.2) = ordA 4 → Q (.ref D) ⟨h', gn, d, t', os⟩) : Ok w A (call (.ref f) []) Q ⟨h, gn, d, t, os⟩ := by
  refine call_fn (binds := []) hf B F S (fun _ _ _ => rfl) rfl (fun L cd A' h1 t1 hf1 S1 => ?_) rfl rfl rfl rfl
  have Gr := B.blt (Str.ofString "range", .type "range") (by simp [bltins])
  refine x_cons (x_asg (e_list0 S1 fun D h2 S2 => s_loc0 S2 fun h3 t3 S3 => ?_))
  refine x_cons (x_for (e_gT S3 Gr (e_int fun u4 t4 => o_range (n := 4) S3 fun r x1 x2 x3 h5 t5 S5 hr => i_range (by omega) hr S5 fun ia h6 S6 => ?_)))
  refine for_iter (iter_range (n := 4)) hf1.1 (fun i m R gn' => gn = gn' ∧ m (Str.ofString "orders") = some (.ref D) ∧ ∃ rs, R = Rows D rs ++ es ∧ rs.reverse.map (·.2) = ordA i) ?_ ⟨rfl, by simp [upd], [], rfl, rfl⟩ S6 ?_
  · rintro i v m R gn' h t hi ⟨ua, rfl⟩ ⟨rfl, hm, rs, rfl, hrs⟩ S7
    refine x_cons (x_for (e_gT S7 Gr (e_int fun u4 t4 => o_range (n := 4) S7 fun r x1 x2 x3 h5 t5 S5 hr => i_range (by omega) hr S5 fun ib h6 S6 => ?_)))
    refine for_iter (iter_range (n := 4)) hf1.1 (fun j m R gn' => gn = gn' ∧ m (Str.ofString "orders") = some (.ref D) ∧ m (Str.ofString "a") = some (.int i ua) ∧ ∃ rs, R = (ia, isRIt 4 (i + 1)) :: (Rows D rs ++ es) ∧ rs.reverse.map (·.2) = ordA i ++ ordB i j) ?_ ⟨rfl, by simp [upd, ofs_inj, hm], by simp [upd], rs, rfl, by rw [hrs]; simp [ordB]⟩ S6 ?_
    · rintro j v m R gn' h t hj ⟨ub, rfl⟩ ⟨rfl, hm, hma, rs, rfl, hrs⟩ S8
      refine x_cons (x_for (e_gT S8 Gr (e_int fun u4 t4 => o_range (n := 4) S8 fun r x1 x2 x3 h5 t5 S5 hr => i_range (by omega) hr S5 fun ic h6 S6 => ?_)))
      refine for_iter (iter_range (n := 4)) hf1.1 (fun k m R gn' => gn = gn' ∧ m (Str.ofString "orders") = some (.ref D) ∧ m (Str.ofString "a") = some (.int i ua) ∧ m (Str.ofString "b") = some (.int j ub) ∧ ∃ rs, R = (ib, isRIt 4 (j + 1)) :: (ia, isRIt 4 (i + 1)) :: (Rows D rs ++ es) ∧ rs.reverse.map (·.2) = ordA i ++ ordB i j ++ ordC i j k) ?_ ⟨rfl, by simp [upd, ofs_inj, hm], by simp [upd, ofs_inj, hma], by simp [upd], rs, rfl, by rw [hrs]; simp [ordC]⟩ S6 ?_
      · rintro k v m R gn' h t hk ⟨uc, rfl⟩ ⟨rfl, hm, hma, hmb, rs, rfl, hrs⟩ S9
        have hlen : rs.length ≤ 1000 := by
          have e := congrArg List.length hrs
          have l1 := ordA_len i
          have l2 := ordB_len i j
          have l3 := ordC_len i j k
          simp at e
          omega
        have skip : (¬ ((i : Int) != (j : Int) && ((i : Int) != (k : Int) && (j : Int) != (k : Int))) = true) → (Flow.next = Flow.next ∧ ∃ m' R' gn' h' t', (⟨h, gn, d, t, os⟩ : Shared) = ⟨h', gn', d, t', os⟩ ∧ (gn = gn' ∧ m' (Str.ofString "orders") = some (.ref D) ∧ m' (Str.ofString "a") = some (.int i ua) ∧ m' (Str.ofString "b") = some (.int j ub) ∧ ∃ rs, R' = (ib, isRIt 4 (j + 1)) :: (ia, isRIt 4 (i + 1)) :: (Rows D rs ++ es) ∧ rs.reverse.map (·.2) = ordA i ++ ordB i j ++ ordC i j (k + 1)) ∧ St g ((L, isNs m') :: (ic, isRIt 4 (k + 1)) :: R') h') := by
          intro hc
          refine ⟨rfl, _, _, gn, h, t, rfl, ⟨rfl, by simp [upd, ofs_inj, hm], by simp [upd, ofs_inj, hma], by simp [upd, ofs_inj, hmb], rs, rfl, ?_⟩, S9⟩
          rw [hrs, ordC_succ, if_neg hc]; simp
        refine x_cons (x_if (t_and2 (t_cmp (e_loc0 S9 (v := .int i ua) (by simp [upd, ofs_inj, hma]) (e_loc0 S9 (v := .int j ub) (by simp [upd, ofs_inj, hmb]) (o_ne (t_bool ?_)))))))
        by_cases c1 : ((i : Int) != (j : Int)) = true
        · rw [if_pos c1]
          refine a_and (t_cmp (e_loc0 S9 (v := .int i ua) (by simp [upd, ofs_inj, hma]) (e_loc0 S9 (v := .int k uc) (by simp [upd, ofs_inj]) (o_ne (t_bool ?_)))))
          by_cases c2 : ((i : Int) != (k : Int)) = true
          · rw [if_pos c2]
            refine a_and (t_cmp (e_loc0 S9 (v := .int j ub) (by simp [upd, ofs_inj, hmb]) (e_loc0 S9 (v := .int k uc) (by simp [upd, ofs_inj]) (o_ne (t_bool ?_)))))
            by_cases c3 : ((j : Int) != (k : Int)) = true
            · rw [if_pos c3]
              refine a_nil ?_
              rw [if_pos rfl]
              refine x_cons (x_expr (e_append S9 4 rfl (fun Q q => e_loc0 S9 (by simp [upd, ofs_inj, hm]) q) ?_))
              refine e_list4 (e_loc0 S9 (v := .int i ua) (by simp [upd, ofs_inj, hma]) (e_loc0 S9 (v := .int j ub) (by simp [upd, ofs_inj, hmb]) (e_loc0 S9 (v := .int k uc) (by simp [upd, ofs_inj]) ?_)))
              refine e_bin (e_bin (e_bin (e_int fun u10 t10 => e_loc0 S9 (v := .int i ua) (by simp [upd, ofs_inj, hma]) (o_sub fun u11 t11 => e_loc0 S9 (v := .int j ub) (by simp [upd, ofs_inj, hmb]) (o_sub fun u12 t12 => e_loc0 S9 (v := .int k uc) (by simp [upd, ofs_inj]) (o_sub fun u13 t13 => newL S9 fun r h14 S14 => ?_))))))
              refine o_append S14 5 rfl (by have : 1000 ≤ sizeLine := by decide
                                            simp; omega) fun h15 S15 => wpAny_execs_nil (wpAny_execs_nil ?_)
              refine ⟨rfl, upd m (Str.ofString "c") (.int k uc), _, gn, h15, _, rfl, ⟨rfl, by simp [upd, ofs_inj, hm], by simp [upd, ofs_inj, hma], by simp [upd, ofs_inj, hmb], (r, [(i : Int), j, k, 6 - i - j - k]) :: rs, rfl, ?_⟩, ?_⟩
              · rw [List.reverse_cons, List.map_append, hrs, ordC_succ, if_pos (by rw [c1, c2, c3]; rfl)]; simp
              · have S16 := S15.weak (P' := isInts [(i : Int), j, k, 6 - i - j - k]) 1 rfl fun o ho => ⟨_, .cons _ _ (.cons _ _ (.cons _ _ (.cons _ _ .nil))), ho⟩
                have S16 : St g ((L, isNs (upd m (Str.ofString "c") (.int k uc))) :: (r, isInts [(i : Int), j, k, 6 - i - j - k]) :: (ic, isRIt 4 (k + 1)) :: (ib, isRIt 4 (j + 1)) :: (ia, isRIt 4 (i + 1)) :: (D, isLst (rs.reverse.map (fun r => Value.ref r.1) ++ [Value.ref r])) :: (rs.map rowEnt ++ es)) h15 := S16
                have S17 := S16.perm ((List.perm_middle (l₁ := [(ic, isRIt 4 (k + 1)), (ib, isRIt 4 (j + 1)), (ia, isRIt 4 (i + 1)), (D, isLst (rs.reverse.map (fun r => Value.ref r.1) ++ [Value.ref r]))]) (l₂ := rs.map rowEnt ++ es) (a := (r, isInts [(i : Int), j, k, 6 - i - j - k]))).symm.cons (L, isNs (upd m (Str.ofString "c") (.int k uc))))
                have e : (((r, [(i : Int), j, k, 6 - i - j - k]) :: rs : List Row4).reverse.map fun r => Value.ref r.1) = rs.reverse.map (fun r => Value.ref r.1) ++ [.ref r] := by simp
                show St g ((L, isNs _) :: (ic, isRIt 4 (k + 1)) :: (ib, isRIt 4 (j + 1)) :: (ia, isRIt 4 (i + 1)) :: (D, isLst _) :: _ :: (rs.map rowEnt ++ es)) h15
                rw [e]
                exact S17
            · rw [if_neg c3, if_neg Bool.false_ne_true]
              exact wpAny_execs_nil (wpAny_execs_nil (skip (by rw [Bool.eq_false_iff.mpr c3]; simp)))
          · rw [if_neg c2, if_neg Bool.false_ne_true]
            exact wpAny_execs_nil (wpAny_execs_nil (skip (by rw [Bool.eq_false_iff.mpr c2]; simp)))
        · rw [if_neg c1, if_neg Bool.false_ne_true]
          exact wpAny_execs_nil (wpAny_execs_nil (skip (by rw [Bool.eq_false_iff.mpr c1]; simp)))
      · rintro m R gn' h t ⟨rfl, hm, hma, hmb, rs, rfl, hrs⟩ S9
        refine wpAny_execs_nil ⟨rfl, m, _, gn, h, t, rfl, ⟨rfl, hm, hma, rs, rfl, ?_⟩, S9⟩
        rw [hrs, ordB_succ]; simp
    · rintro m R gn' h t ⟨rfl, hm, hma, rs, rfl, hrs⟩ S9
      refine wpAny_execs_nil ⟨rfl, m, _, gn, h, t, rfl, ⟨rfl, hm, rs, rfl, ?_⟩, S9⟩
      rw [hrs, ordA_succ]
  · rintro m R gn' h t ⟨rfl, hm, rs, rfl, hrs⟩ S9
    refine x_cons (x_ret (e_loc0 S9 hm ?_))
    exact q D rs h t (S9.sub ((List.Sublist.refl _).cons _)) hrs
end
end Mine
end

section
open PySem PySem.W PySem.W.X PyProof.Rows
set_option Elab.async false
set_option maxRecDepth 100000
set_option linter.unusedSimpArgs false
namespace Mine

def CompGo (w : World) (A : Around) (e : Expr) (scope : Scope) (cl : List (Str × Addr)) (env : Env) (it : Value) (Q : Value → Shared → Prop) (s : Shared) : Prop :=
  Ok w A (newList []) (fun acc s₃ => Ok w A (newFunctionEnv scope env.globals cl [] env.qual none .none (some env)) (fun cenv s₄ =>
    codeAny (model pg w) A (.compStart e 0 it acc { cenv with scope := relabel scope env }) (compPost (model pg w) A (fun _ _ => False) none Q acc cenv.locals) s₄) s₃) s
abbrev Tests (w : World) (A : Around) (ifs : List Expr) (env : Env) (Q : Bool → Shared → Prop) (s : Shared) : Prop :=
  Ok w A (forIn ifs true fun c r => if r = true then do let ok ← isTrue c env (eval c env); pure (ForInStep.yield ok) else pure (ForInStep.yield r)) Q s

section
variable {w : World} {A : Around} {g h : Heap} {R : List Ent} {gn : Array GenState} {d : Drawn} {t : Nat} {os : OsState} {env : Env} {pos p : Pos} {s : Shared}
theorem ts_nil {Q : Bool → Shared → Prop} (q : Q true s) : Tests w A [] env Q s := wpAny_tests_nil q
theorem ts_one {c : Expr} {Q : Bool → Shared → Prop} (q : Ok w A (isTrue c env (eval c env)) Q s) : Tests w A [c] env Q s := wpAny_tests_one q

theorem e_comp {elt target iter : Expr} {ifs : List Expr} {gs : List Comprehension} {scope : Scope} {cl : List (Str × Addr)} {Q : Value → Shared → Prop} (hclos : closureFor scope env = pure cl)
    (q : Ok w A (eval iter env) (fun x s₁ => Ok w A (pyIter x) (fun it s₂ => CompGo w A (.ListComp elt (⟨target, iter, ifs, 0⟩ :: gs) scope pos) scope cl env it Q s₂) s₁) s)
    (hkind : scope.kind = .function := by rfl) (hnames : (scope.names.all fun x => x.2 != .local || decide (scope.names.lookup x.1 = some .local)) = true := by decide) (hs : ∀ x, foldedSetIterable iter env x = pure x := by intro _; rfl) :
    Ok w A (eval (.ListComp elt (⟨target, iter, ifs, 0⟩ :: gs) scope pos) env) Q s := by
  unfold Ok
  rw [eval_ListComp]
  refine wpAny_comprehension_free (use := none) rfl hs hclos hkind (fun x hx hl => ?_) q
  have := List.all_eq_true.mp hnames x hx
  simpa [hl] using this

theorem comp_iter {elt iter : Expr} {x : Str} {px : Pos} {ifs : List Expr} {scope : Scope} {cl : List (Str × Addr)} {it : Addr} {P : Nat → Obj → Prop} {n : Nat} {V : Nat → Value → Prop} {e0 : Ent} {Q : Value → Shared → Prop} (It : Iter w g it P n V) (hh : A.handled = none) (hsz : n ≤ 1000)
    (J : Nat → List Value → List Ent → Array GenState → Prop)
    (step : ∀ i v acc R gn h t C m D, i < n → V i v → J i acc R gn → m x = some v → acc.length ≤ i → St g ((C, isNs m) :: (it, P (i + 1)) :: (D, isLst acc) :: e0 :: R) h →
      Tests w A ifs (compEnvC scope cl C env) (fun ok s' => if ok = true then Ok w A (eval elt (compEnvC scope cl C env)) (fun y s'' => ∃ R' gn' h' t', s'' = ⟨h', gn', d, t', os⟩ ∧ J (i + 1) (acc ++ [y]) R' gn' ∧ St g ((C, isNs m) :: (it, P (i + 1)) :: (D, isLst acc) :: e0 :: R') h') s'
        else ∃ R' gn' h' t', s' = ⟨h', gn', d, t', os⟩ ∧ J (i + 1) acc R' gn' ∧ St g ((C, isNs m) :: (it, P (i + 1)) :: (D, isLst acc) :: e0 :: R') h') ⟨h, gn, d, t, os⟩)
    (j0 : J 0 [] R gn) (S : St g (e0 :: (it, P 0) :: R) h)
    (q : ∀ D acc R gn h t, J n acc R gn → acc.length ≤ n → St g (e0 :: (D, isLst acc) :: R) h → Q (.ref D) ⟨h, gn, d, t, os⟩)
    (hkind : scope.kind = .function := by rfl) (hcell : (scope.names.all fun y => y.2 != .cell) = true := by decide) (hx : scope.names.lookup x = some .local := by rfl) :
    CompGo w A (.ListComp elt [⟨.Name x px, iter, ifs, 0⟩] scope pos) scope cl env (.ref it) Q ⟨h, gn, d, t, os⟩ := by
  refine wpAny_newObj_type (wpAny_newFunctionEnv (fun y hy => by simpa using List.all_eq_true.mp hcell y hy) (by intro y hy; simp at hy) (fun h₁ hns₁ hsb₁ => ?_) hkind)
  dsimp only at hns₁ hsb₁ ⊢
  have S1 : St g ((h.objs.size, isLst []) :: e0 :: (it, P 0) :: R) (h.push { cls := .type "list", dict := none, data := .seq ([] : List Value).toArray }) := S.cons (get_size h) (Ext.push _ _) ⟨_, Heap.get?_push_size _ rfl, _, rfl⟩
  generalize h.objs.size = D at S1 ⊢
  generalize (h.push { cls := .type "list", dict := none, data := .seq ([] : List Value).toArray }) = H2 at S1 hns₁ hsb₁ ⊢
  have X1 : Ext H2 h₁ := fun b o e => hsb₁.extBut b o (Nat.ne_of_lt (Heap.lt_size e)) (Heap.get?_push_of_some _ e)
  have S2 := S1.cons (get_size H2) X1 (ns_iff.mpr hns₁)
  generalize H2.objs.size = C at S2 ⊢
  have S3 : St g ((C, isNs _) :: (it, P 0) :: (D, isLst []) :: e0 :: R) h₁ := S2.perm (.cons _ (List.perm_middle (l₁ := [(D, isLst []), e0])))
  have main : ∀ k i acc m R gn h t, i + k = n → acc.length ≤ i → J i acc R gn → St g ((C, isNs m) :: (it, P i) :: (D, isLst acc) :: e0 :: R) h →
      codeAny (model pg w) A (.compLoop (.ListComp elt [⟨.Name x px, iter, ifs, 0⟩] scope pos) 0 (.ref it) (.ref D) (compEnvC scope cl C env)) (compPost (model pg w) A (fun _ _ => False) none Q (.ref D) C) ⟨h, gn, d, t, os⟩ := by
    intro k i acc m R gn h t e hl j S
    refine codeAny_compLoop_tests (fun k s => ∃ i acc m R gn h t, s = ⟨h, gn, d, t, os⟩ ∧ i + k = n ∧ acc.length ≤ i ∧ J i acc R gn ∧ St g ((C, isNs m) :: (it, P i) :: (D, isLst acc) :: e0 :: R) h) ?_ k ⟨i, acc, m, R, gn, h, t, rfl, e, hl, j, S⟩
    rintro k s ⟨i, acc, m, R, gn, h, t, rfl, e, hl, j, S⟩
    cases k with
    | zero =>
      obtain rfl : i = n := by omega
      refine ok_of (It.done hh S fun h' S' => ?_)
      have S'' : St g (e0 :: (C, isNs m) :: (D, isLst acc) :: R) h' := S'.perm (List.perm_middle (l₁ := [(C, isNs m), (D, isLst acc)]))
      refine ⟨m, ns_iff.mp (S''.at 1 rfl), fun h'' hs => ?_⟩
      exact q D acc R gn h'' t j hl (S''.lose hs.extBut)
    | succ k =>
      refine ok_of (It.next (by omega) S fun v h' t' hv S' => ?_)
      refine ok_of (a_loc0 S' (fun h2 t2 S2 => ?_) rfl hkind (lookup_relabel_local hx))
      refine ok_of (wpAny_mono (step i v acc R gn h2 t2 C (upd m x v) D (by omega) hv j (by simp [upd]) hl S2) (fun ok s' hs => ?_) fun _ _ e => e)
      cases ok with
      | false =>
        obtain ⟨R', gn', h', t', rfl, j', S3⟩ := (if_neg Bool.false_ne_true).mp hs
        exact (if_neg Bool.false_ne_true).mpr ⟨k, Nat.lt_succ_self k, i + 1, acc, _, R', gn', h', t', rfl, by omega, by omega, j', S3⟩
      | true =>
        refine (if_pos rfl).mpr (ok_of (wpAny_mono ((if_pos rfl).mp hs) (fun y s'' hs'' => ?_) fun _ _ e => e))
        obtain ⟨R', gn', h', t', rfl, j', S3⟩ := hs''
        refine ok_of (o_append S3 2 rfl (by have : 1000 ≤ sizeLine := by decide
                                            omega) fun h15 S15 => ?_)
        exact ⟨k, Nat.lt_succ_self k, i + 1, acc ++ [y], _, R', gn', h15, _, rfl, by omega, by simp; omega, j', S15⟩
  refine codeAny_compStart_list (main n 0 [] _ R gn h₁ _ (by omega) (by simp) j0 S3) (ok_of (It.self S3 (main n 0 [] _ R gn h₁ _ (by omega) (by simp) j0 S3)))
end
end Mine
end

section
open PySem PySem.W PySem.W.X PyProof.Rows
set_option Elab.async false
set_option maxRecDepth 100000
set_option linter.unusedSimpArgs false
namespace Mine

def strMul (x : Str) (n : Int) : Str := ⟨(List.replicate n.toNat x.cps).foldl (· ++ ·) #[]⟩
theorem k_le_line {n : Nat} (h : n ≤ 1000000) : n ≤ sizeLine := Nat.le_trans h (by decide)
theorem IsLst.toIsList {h : Heap} {a : Addr} {vs : List Value} (p : Pt h a (isLst vs)) : h.IsList a vs.toArray := by
  obtain ⟨n, e⟩ := lst_iff.mp p
  exact ⟨_, e, rfl, n, rfl⟩
theorem IsList.ext {h h' : Heap} {a : Addr} {vs : Array Value} (p : h.IsList a vs) (x : Ext h h') : h'.IsList a vs := let ⟨o, e, r⟩ := p; ⟨o, x _ _ e, r⟩

section
variable {w : World} {A : Around} {g h : Heap} {es R : List Ent} {gn : Array GenState} {d : Drawn} {t : Nat} {os : OsState} {env : Env} {pos p : Pos} {s : Shared} {Q : Value → Shared → Prop}

theorem o_sum {l : Addr} {vs : List Value} {ns : List Int} (hh : A.handled = none) (hl : h.IsList l vs.toArray) (hi : IntsAre vs ns) (q : ∀ h' tk t', Ext h h' → Q (.int ns.sum tk) ⟨h', gn, d, t', os⟩) : Ok w A (call (.builtin "sum") [.ref l]) Q ⟨h, gn, d, t, os⟩ := by
  obtain ⟨xs, e⟩ := hi.allInts.items
  rw [e] at hl
  refine sum_intListG (s := ⟨h, gn, d, t, os⟩) hh hl fun h' tk t' hk => ?_
  have e2 : xs.toList.map (·.1) = ns := by rw [← nums_intItems, ← e, ← hi.numsOf]
  rw [preSum_eq, List.take_of_length_le (by simp), e2]
  exact q h' t' tk hk

theorem o_mulS {x : Str} {n : Int} {u u' : Tok} (hx : x.length ≤ 10) (hn : n ≤ 1000) (hn0 : -1000 ≤ n) (q : ∀ tk t', Q (.str (strMul x n) tk) ⟨h, gn, d, t', os⟩) : Ok w A (binaryOp .Mult (.str x u) (.int n u')) Q ⟨h, gn, d, t, os⟩ := by
  refine P.mul_str (s := ⟨h, gn, d, t, os⟩) ?_ ?_ ?_ ?_
  · rw [decide_eq_false (by omega), decide_eq_false (by omega)]; rfl
  · intro h1 _ h2
    have : n * (x.length : Int) ≤ 1000 * 10 := by
      have a1 : n * (x.length : Int) ≤ 1000 * (x.length : Int) := Int.mul_le_mul_of_nonneg_right hn (by omega)
      omega
    have h3 := Int.ediv_lt_iff_lt_mul (a := 2 ^ 63 - 1) (b := (x.length : Int)) (c := n) (by omega)
    have h4 := h3.mp h2
    rw [Int.mul_comm] at h4
    omega
  · intro h1 _
    have e : x.length * n.toNat ≤ 10 * 1000 := Nat.mul_le_mul hx (by omega)
    have : (10000 : Nat) ≤ sizeLine := by decide
    exact decide_eq_false (show ¬ (x.length * n.toNat > sizeLine) by omega)
  · by_cases h1 : n < 1
    · rw [if_pos h1]
      refine ⟨by decide, ?_⟩
      have e : strMul x n = Str.empty := by unfold strMul; rw [show n.toNat = 0 by omega]; rfl
      rw [← e]
      exact q _ _
    · rw [if_neg h1]
      by_cases h2 : (n == 1 || x.length == 0) = true
      · rw [if_pos h2]
        have e : strMul x n = x := by
          unfold strMul
          rcases Bool.or_eq_true_iff.mp h2 with h3 | h3
          · have : n = 1 := by simpa using h3
            subst this
            simp
          · have h4 : x.cps.size = 0 := by simpa [Str.length] using h3
            have h5 : x.cps = #[] := Array.eq_empty_of_size_eq_zero h4
            have : ∀ k : Nat, (List.replicate k (#[] : Array Nat)).foldl (· ++ ·) #[] = #[] := by
              intro k
              induction k with
              | zero => rfl
              | succ k ih => rw [List.replicate_succ, List.foldl_cons]; simpa using ih
            obtain ⟨c⟩ := x
            simp only at h5
            subst h5
            rw [this]
        have := q u t
        rw [e] at this
        exact this
      · rw [if_neg h2]
        refine ⟨?_, q _ _⟩
        have : ∀ (k : Nat) (a : Array Nat), ((List.replicate k x.cps).foldl (· ++ ·) a).size = a.size + k * x.cps.size := by
          intro k
          induction k with
          | zero => intro a; simp
          | succ k ih => intro a; rw [List.replicate_succ, List.foldl_cons, ih, Array.size_append, Nat.succ_mul]; omega
        have h3 : (strMul x n).length = n.toNat * x.length := by unfold strMul Str.length; rw [this]; simp
        refine k_le_line (Nat.le_trans (Nat.le_of_eq h3) ?_)
        exact Nat.le_trans (Nat.mul_le_mul (show n.toNat ≤ 1000 by omega) hx) (by decide)
theorem o_mod {a b : Int} {u u' : Tok} (hb : b ≠ 0) (q : ∀ tk t', Q (.int (a.fmod b) tk) ⟨h, gn, d, t', os⟩) : Ok w A (binaryOp .Mod (.int a u) (.int b u')) Q ⟨h, gn, d, t, os⟩ := mod_int' hb (q _ _)
theorem small_div (a : Int) {b : Int} (hb : b.natAbs ≤ 1000) : Builtin.divisionGoesByPylong a b = false := by
  have h2 := Nat.log2_le_self b.natAbs
  have h1 : (if (b == 0) = true then 0 else b.natAbs.log2 / 30 + 1) ≤ 300 := by
    split <;> omega
  unfold Builtin.divisionGoesByPylong
  simp only [Bool.and_eq_false_iff]
  exact .inl (decide_eq_false (by omega))
theorem o_fdiv {a b : Int} {u u' : Tok} (hb : b ≠ 0) (hb2 : b.natAbs ≤ 1000) (q : ∀ tk t', Q (.int (a.fdiv b) tk) ⟨h, gn, d, t', os⟩) : Ok w A (binaryOp .FloorDiv (.int a u) (.int b u')) Q ⟨h, gn, d, t, os⟩ := floordiv_int hb (q _ _) (.inl (small_div a hb2))
theorem o_pow2 {n : Nat} {u u' : Tok} (hn : n ≤ 1000) (q : ∀ tk t', Q (.int (2 ^ n) tk) ⟨h, gn, d, t', os⟩) : Ok w A (binaryOp .Pow (.int 2 u) (.int n u')) Q ⟨h, gn, d, t, os⟩ := pow_int_small (by omega) (by omega) (by decide) (q _ _)

theorem e_sub {value slice : Expr} (q : Ok w A (eval value env) (fun o s₁ => Ok w A (eval slice env) (fun i s₂ => Ok w A (subscriptTail value slice o i) Q s₂) s₁) s) : Ok w A (eval (.Subscript value slice pos) env) Q s := Subscript_ q
theorem o_tail {value slice : Expr} {l : Addr} {i : Value} {items : Array Value} (hl : s.heap.IsList l items) (q : Ok w A (getItem (.ref l) i) Q s) (hs : ∃ vs, subscripted slice false (.ref l) i = operate vs (getItem (.ref l) i)) :
    Ok w A (subscriptTail value slice (.ref l) i) Q s := by
  unfold subscriptTail
  refine wpAny_bind ?_
  rw [getitemInPython_of_ne hl.typeIs.not_modules]
  refine wpAny_bind (wpAny_specialOf hl.typeIs slot_list_getitem.lookup ?_)
  obtain ⟨vs, hs⟩ := hs
  have fin : Ok w A (subscripted slice false (.ref l) i) (fun r s₃ => Ok w A (letTemporaryGo value (.ref l) r >>= fun _ => pure r) Q s₃) s := by
    unfold Ok
    rw [hs]
    exact wpAny_operating (wpAny_mono q (fun r s₃ h₃ => wpAny_bind (wpAny_letTemporaryGo (wpAny_pure h₃))) fun _ _ x => x)
  first
    | exact wpAny_pure (wpAny_bind fin)
    | exact wpAny_bind (wpAny_pure (wpAny_bind fin))
    | exact wpAny_bind fin
theorem o_item {value slice : Expr} {l : Addr} {vs : List Value} {k : Nat} {u : Tok} {x : Value} (hl : h.IsList l vs.toArray) (hk : k < 1000000) (hx : vs[k]? = some x) (q : Q x ⟨h, gn, d, t, os⟩)
    (hs : subscripted slice false (.ref l) (.int k u) = operate [.ref l, .int k u] (getItem (.ref l) (.int k u)) := by with_unfolding_all rfl) : Ok w A (subscriptTail value slice (.ref l) (.int k u)) Q ⟨h, gn, d, t, os⟩ :=
  o_tail (s := ⟨h, gn, d, t, os⟩) hl (wpAny_getItem_list (s := ⟨h, gn, d, t, os⟩) hl (by omega) (by omega) (by simpa using hx) q) ⟨_, hs⟩
theorem p_some {e : Expr} (q : Ok w A (eval e env) Q s) : Ok w A (evalPart (some e) env) Q s := wpAny_evalPart_some q
theorem p_none (q : Q .none s) : Ok w A (evalPart none env) Q s := wpAny_evalPart_none q
/-- a slice's object, and what the list gives for it -/
theorem e_slice {lo hi st : Option Expr} {value : Expr} {l : Addr} {Q : Value → Shared → Prop} (q : Ok w A (evalPart lo env) (fun a s₁ => Ok w A (evalPart hi env) (fun b s₂ => Ok w A (evalPart st env) (fun c s₃ =>
    ∃ vs a' b' c' h gn d t os, s₃ = ⟨h, gn, d, t, os⟩ ∧ h.IsList l vs ∧ vs.size ≤ 1000000 ∧ IsPart a a' ∧ IsPart b b' ∧ IsPart c c' ∧ c' ≠ some 0 ∧ (∀ D h', h.get? D = none → Ext h h' → Pt h' D (isLst (slicePick vs a' b' c').toList) → Q (.ref D) ⟨h', gn, d, t, os⟩)) s₂) s₁) s) :
    Ok w A (eval (.Slice lo hi st p) env) (fun i s₂ => Ok w A (subscriptTail value (.Slice lo hi st p) (.ref l) i) Q s₂) s := by
  refine wpAny_Slice (wpAny_mono q (fun a s₁ h1 => wpAny_mono h1 (fun b s₂ h2 => wpAny_mono h2 (fun c s₃ h3 => ?_) fun _ _ e => e) fun _ _ e => e) fun _ _ e => e)
  obtain ⟨vs, a', b', c', h, gn, d, t, os, rfl, hl, hz, pa, pb, pc, h0, q⟩ := h3
  refine o_tail (hl.push _) (wpAny_getItem_list_slice (hl.push _) (Heap.IsSliceOf.new ..) pa pb pc h0 ?_ (k_le_line hz)) ?_
  · refine q _ _ (get_big h ?_) ((Ext.push _ _).trans (Ext.push _ _)) ⟨_, Heap.get?_push_size _ rfl, 0, ?_⟩
    · show _ ≤ (h.push _).objs.size
      rw [Heap.size_push]; exact Nat.le_succ _
    · simp
  · cases st with
    | none => exact ⟨_, rfl⟩
    | some e => exact ⟨_, rfl⟩
theorem o_addL {a b : Addr} {vs ws : List Value} {e0 : Ent} (S : St g (e0 :: R) h) (ha : Pt h a (isLst vs)) (hb : Pt h b (isLst ws)) (hz : vs.length + ws.length ≤ 1000000) (q : ∀ D h', St g (e0 :: (D, isLst (vs ++ ws)) :: R) h' → Q (.ref D) ⟨h', gn, d, t, os⟩) :
    Ok w A (binaryOp .Add (.ref a) (.ref b)) Q ⟨h, gn, d, t, os⟩ := by
  obtain ⟨n, ea⟩ := lst_iff.mp ha
  obtain ⟨m, eb⟩ := lst_iff.mp hb
  refine P.add_list (s := ⟨h, gn, d, t, os⟩) ea eb (q _ _ (S.second (get_size h) (Ext.push _ _) ⟨_, Heap.get?_push_size _ rfl, 0, by simp⟩)) (k_le_line (by simpa using hz))
theorem o_lenL {l : Addr} {vs : List Value} (hl : h.IsList l vs.toArray) (hz : vs.length ≤ 1000000) (q : ∀ tk t', Q (.int vs.length tk) ⟨h, gn, d, t', os⟩) : Ok w A (call (.builtin "len") [.ref l]) Q ⟨h, gn, d, t, os⟩ :=
  len_list (s := ⟨h, gn, d, t, os⟩) hl (by simp; omega) (by simpa using q _ _)
theorem o_copy {l : Addr} {vs : List Value} {e0 : Ent} (S : St g (e0 :: R) h) (hl : h.IsList l vs.toArray) (hz : vs.length ≤ 1000000) (q : ∀ D h', St g (e0 :: (D, isLst vs) :: R) h' → Q (.ref D) ⟨h', gn, d, t, os⟩) : Ok w A (call (.type "list") [.ref l]) Q ⟨h, gn, d, t, os⟩ := by
  obtain ⟨o, ho, hc, n, hd⟩ := hl
  refine call_list_seq (s := ⟨h, gn, d, t, os⟩) l (.inl rfl) ho hc hd (fun h' c' hk hD => q _ h' (S.second (get_size h) hk ⟨_, hD, c', rfl⟩)) (k_le_line (by simpa using hz))
theorem o_strI {n : Nat} {u : Tok} (hn : n ≤ 1000) (q : ∀ tk t', Q (.str (Str.ofString (toString (n : Int))) tk) ⟨h, gn, d, t', os⟩) : Ok w A (call (.type "str") [.int n u]) Q ⟨h, gn, d, t, os⟩ := by
  exact P.str_of_int (s := ⟨h, gn, d, t, os⟩) (Nat.lt_of_le_of_lt (Nat.log2_le_self _) (by omega)) (q _ _)
end
end Mine
end

section
open PySem PySem.W PySem.W.X PyProof.Rows
set_option Elab.async false
set_option maxRecDepth 100000
set_option linter.unusedSimpArgs false
namespace Mine

theorem ints_get {vs : List Value} {ns : List Int} (hi : IntsAre vs ns) {i : Nat} {v : Value} (hv : vs[i]? = some v) : ∃ n u, v = .int n u ∧ ns[i]? = some n := by
  induction hi generalizing i with
  | nil => simp at hv
  | cons n t _ ih =>
    cases i with
    | zero => simp at hv; exact ⟨n, t, hv.symm, rfl⟩
    | succ i => simp at hv; simpa using ih hv
theorem ints_len {vs : List Value} {ns : List Int} (hi : IntsAre vs ns) : vs.length = ns.length := hi.length
theorem ints_snoc {vs : List Value} {ns : List Int} {n : Int} {u : Tok} (hi : IntsAre vs ns) : IntsAre (vs ++ [.int n u]) (ns ++ [n]) := hi.append (.cons _ _ .nil)

def posL (ns : List Int) : List Int := ns.filter fun x => decide (0 < x)
def negL (ns : List Int) : List Int := (ns.filter fun x => decide (x < 0)).map fun x => 0 - x
def brk (ns : List Int) : Str := strMul (Str.ofString "(") (posL ns).sum ++ strMul (Str.ofString ")") (negL ns).sum
theorem sum_bound : ∀ (l : List Int) (k : Int), 0 ≤ k → (∀ x ∈ l, 0 ≤ x ∧ x ≤ k) → 0 ≤ l.sum ∧ l.sum ≤ k * l.length
  | [], k, hk, _ => by simp
  | x :: l, k, hk, hl => by
    have := sum_bound l k hk fun y hy => hl y (List.mem_cons_of_mem _ hy)
    have h1 := hl x List.mem_cons_self
    simp only [List.sum_cons, List.length_cons]
    have e : k * ((l.length + 1 : Nat) : Int) = k * l.length + k := by push_cast; rw [Int.mul_add, Int.mul_one]
    rw [e]
    omega
theorem pos_bound {ns : List Int} (hz : ns.length ≤ 10) (hb : ∀ x ∈ ns, -20 ≤ x ∧ x ≤ 20) : 0 ≤ (posL ns).sum ∧ (posL ns).sum ≤ 200 := by
  have := sum_bound (posL ns) 20 (by decide) fun x hx => by
    obtain ⟨h1, h2⟩ := List.mem_filter.mp hx
    have := hb x h1
    have := of_decide_eq_true h2
    omega
  have hl : (posL ns).length ≤ ns.length := List.length_filter_le _ _
  omega
theorem neg_bound {ns : List Int} (hz : ns.length ≤ 10) (hb : ∀ x ∈ ns, -20 ≤ x ∧ x ≤ 20) : 0 ≤ (negL ns).sum ∧ (negL ns).sum ≤ 200 := by
  have := sum_bound (negL ns) 20 (by decide) fun y hy => by
    obtain ⟨x, hx, rfl⟩ := List.mem_map.mp hy
    obtain ⟨h1, h2⟩ := List.mem_filter.mp hx
    have := hb x h1
    have := of_decide_eq_true h2
    omega
  have hl : (negL ns).length ≤ ns.length := by unfold negL; rw [List.length_map]; exact List.length_filter_le _ _
  omega
theorem strMul_len (x : Str) (n : Int) : (strMul x n).length = n.toNat * x.length := by
  have : ∀ (k : Nat) (a : Array Nat), ((List.replicate k x.cps).foldl (· ++ ·) a).size = a.size + k * x.cps.size := by
    intro k
    induction k with
    | zero => intro a; simp
    | succ k ih => intro a; rw [List.replicate_succ, List.foldl_cons, ih, Array.size_append, Nat.succ_mul]; omega
  unfold strMul Str.length; rw [this]; simp

section
variable {w : World} {A : Around} {g h : Heap} {es R : List Ent} {gn : Array GenState} {d : Drawn} {t : Nat} {os : OsState} {Q : Value → Shared → Prop}
set_option maxHeartbeats 1000000 in
theorem brackets_fn {n : Nat} {f G : Addr} {vs : List Value} {ns : List Int} (hf : Fine A (n + 2)) (B : Base g) (F : IsFn g 9 f) (hl : g.IsList G vs.toArray) (hi : IntsAre vs ns) (hz : ns.length ≤ 10) (hb : ∀ x ∈ ns, -20 ≤ x ∧ x ≤ 20) (S : St g es h)
    (q : ∀ h' tk t', St g es h' → Q (.str (brk ns) tk) ⟨h', gn, d, t', os⟩) : Ok w A (call (.ref f) [.ref G]) Q ⟨h, gn, d, t, os⟩ := by
  refine call_fn (binds := [(Str.ofString "ups", .ref G)]) hf B F S (fun _ _ _ => rfl) rfl (fun L cd A' h1 t1 hf1 S1 => ?_) rfl rfl rfl rfl
  have Gs := B.blt (Str.ofString "sum", .builtin "sum") (by simp [bltins])
  have hvl := ints_len hi
  refine x_cons (x_ret (e_bin (e_bin (e_str fun u2 t2 => e_gB S1 Gs (e_comp (closureFor_none (by decide)) (e_loc0 S1 rfl (i_list hl S1 fun it h3 S3 => ?_)))))))
  refine comp_iter (iter_list hl) hf1.1 (by omega) (fun i acc R gn' => gn = gn' ∧ R = es ∧ IntsAre acc ((ns.take i).filter fun x => decide (0 < x))) ?_ ⟨rfl, rfl, .nil⟩ S3 ?_
  · rintro i v acc R gn' h t C m D hi' hv ⟨rfl, rfl, ha⟩ hm hlen S4
    obtain ⟨x, u, rfl, hx⟩ := ints_get hi hv
    have e := take_succ_filter (fun x => decide (0 < x)) ns i x hx
    refine ts_one (t_cmp (e_loc0 S4 hm (e_int fun u5 t5 => o_gt (t_bool ?_))))
    by_cases c : decide (0 < x) = true
    · rw [if_pos c]
      refine e_loc0 S4 hm ⟨_, _, _, _, rfl, ⟨rfl, rfl, ?_⟩, S4⟩
      rw [e, if_pos c]
      exact ints_snoc ha
    · rw [if_neg c]
      refine ⟨_, _, _, _, rfl, ⟨rfl, rfl, ?_⟩, S4⟩
      rw [e, if_neg c, List.append_nil]
      exact ha
  rintro D acc R gn' h5 t5 ⟨rfl, rfl, ha⟩ hlen S5
  rw [hvl, List.take_length] at ha
  refine o_sum hf1.1 (IsLst.toIsList (S5.at 1 rfl)) ha fun h6 u6 t6 X6 => ?_
  have S6 := (S5.sub (((List.Sublist.refl _).cons _).cons_cons _)).grow X6
  have b1 := pos_bound hz hb
  have b2 := neg_bound hz hb
  refine o_mulS (by decide) (show (posL ns).sum ≤ 1000 by omega) (show -1000 ≤ (posL ns).sum by omega) fun u7 t7 => ?_
  refine e_bin (e_str fun u2 t2 => e_gB S6 Gs (e_comp (closureFor_none (by decide)) (e_loc0 S6 rfl (i_list hl S6 fun it h3 S3 => ?_))))
  refine comp_iter (iter_list hl) hf1.1 (by omega) (fun i acc R' gn' => gn = gn' ∧ R' = R ∧ IntsAre acc (((ns.take i).filter fun x => decide (x < 0)).map fun x => 0 - x)) ?_ ⟨rfl, rfl, .nil⟩ S3 ?_
  · rintro i v acc R' gn' h t C m D hi' hv ⟨rfl, rfl, ha⟩ hm hlen S4
    obtain ⟨x, u, rfl, hx⟩ := ints_get hi hv
    have e := take_succ_filter (fun x => decide (x < 0)) ns i x hx
    refine ts_one (t_cmp (e_loc0 S4 hm (e_int fun u5 t5 => o_lt (t_bool ?_))))
    by_cases c : decide (x < 0) = true
    · rw [if_pos c]
      refine e_bin (e_int fun u6 t6 => e_loc0 S4 hm (o_sub fun u7 t7 => ⟨_, _, _, _, rfl, ⟨rfl, rfl, ?_⟩, S4⟩))
      rw [e, if_pos c, List.map_append]
      exact ints_snoc ha
    · rw [if_neg c]
      refine ⟨_, _, _, _, rfl, ⟨rfl, rfl, ?_⟩, S4⟩
      rw [e, if_neg c, List.append_nil]
      exact ha
  rintro D acc R' gn' h8 t8 ⟨rfl, rfl, ha⟩ hlen S8
  rw [hvl, List.take_length] at ha
  refine o_sum hf1.1 (IsLst.toIsList (S8.at 1 rfl)) ha fun h9 u9 t9 X9 => ?_
  refine o_mulS (by decide) (show (negL ns).sum ≤ 1000 by omega) (show -1000 ≤ (negL ns).sum by omega) fun u10 t10 => ?_
  refine o_cat (fun u11 t11 => q _ _ _ ((S8.sub (((List.Sublist.refl _).cons _).cons _)).grow X9)) ?_
  rw [strMul_len, strMul_len]
  refine k_le_line ?_
  have e1 : (Str.ofString "(").length = 1 := by decide
  have e2 : (Str.ofString ")").length = 1 := by decide
  show (posL ns).sum.toNat * _ + (negL ns).sum.toNat * _ ≤ _
  rw [e1, e2]
  omega
end
end Mine
end

section
open PySem PySem.W PySem.W.X PyProof.Rows
set_option Elab.async false
set_option maxRecDepth 100000
set_option linter.unusedSimpArgs false
namespace Mine

def cellEnts (cs : List (Str × Addr)) (cm : Str → Option Value) : List Ent := cs.map fun x => (x.2, isCell (cm x.1))
section
variable {w : World} {A : Around} {g h : Heap} {es R : List Ent} {gn : Array GenState} {d : Drawn} {t : Nat} {os : OsState} {Q : Value → Shared → Prop}
theorem call_fnC {k n : Nat} {f : Addr} {args : List Value} {binds : List (Str × Value)} (hf : Fine A (n + 1)) (B : Base g) (F : IsFn g k f) (S : St g es h)
    (hbind : ∀ pm cd doc, bindArgs (Calls.docDef (fname k) (fargs k) (fbody k) (fscope k) pm cd doc) ⟨args, []⟩ = pure binds)
    (hloc : ∀ L, ∀ x ∈ binds, (fscope k).names.lookup x.1 = some .local ∨ ((fscope k).names.lookup x.1 = some .cell ∧ ((cellsFrom (L + 1) (fscope k).names []).lookup x.1).isSome = true))
    (hnd : ∀ L, ((cellsFrom L (fscope k).names []).map (·.1)).Nodup)
    (q : ∀ L cd A' h' t', Fine A' n → St g ((L, isNs (bindL (envOfC (fname k) (fscope k) L f cd).kindOf binds fun _ => none)) :: (cellEnts (cellsFrom (L + 1) (fscope k).names []) (bindC (envOfC (fname k) (fscope k) L f cd).kindOf binds fun _ => none) ++ es)) h' →
      Ok w A' (execs (fbody k) (envOfC (fname k) (fscope k) L f cd)) (fun fl s' => Q (match fl with | .ret v => v | _ => .none) s') ⟨h', gn, d, t', os⟩)
    (hco : (fscope k).isCoroutine = false) (hgen : (fscope k).isGenerator = false) (hk : (fscope k).kind = .function) :
    Ok w A (call (.ref f) args) Q ⟨h, gn, d, t, os⟩ := by
  obtain ⟨o, pm, cd, doc, F1, F2, F3⟩ := F
  refine ok_call (call_cells_ret (s := ⟨h, gn, d, t, os⟩) hf.room (S.ext _ _ F1) F2 (B.lim.keeps S.ext) (F3.keeps S.ext) (hbind pm cd doc) (hloc _) (fun h₁ tk Fr₁ X => ?_) hco hgen hk)
  refine q h.objs.size cd _ h₁ _ (hf.deeper _) ?_
  refine S.adds Fr₁.keep ((h.objs.size, isNs _) :: cellEnts _ _) ?_ ?_
  · intro e he
    rcases List.mem_cons.mp he with rfl | he
    · exact ⟨get_size h, ns_iff.mpr Fr₁.ns⟩
    · obtain ⟨⟨n, c⟩, hx, rfl⟩ := List.mem_map.mp he
      exact ⟨get_big h (Nat.le_of_lt (X.above n c hx)), cell_iff.mpr (X.cell n c (lookup_of_mem_nodup (hnd _) hx))⟩
  · show (h.objs.size :: (cellEnts _ _).map (·.1)).Nodup
    have e : ∀ (cs : List (Str × Addr)) cm, (cellEnts cs cm).map (·.1) = cs.map (·.2) := by intro cs cm; unfold cellEnts; rw [List.map_map]; rfl
    rw [e, List.nodup_cons]
    constructor
    · intro hm
      obtain ⟨⟨n, c⟩, hx, rfl⟩ := List.mem_map.mp hm
      exact Nat.lt_irrefl _ (X.above n _ hx)
    · unfold List.Nodup
      rw [List.pairwise_map]
      exact X.apart
end
end Mine
end

section
open PySem PySem.W PySem.W.X PyProof.Rows
set_option Elab.async false
set_option maxRecDepth 100000
set_option linter.unusedSimpArgs false
namespace Mine

def inPart (c b : Int) (t : Nat) : Bool := (c.fdiv (2 ^ t)).fmod 2 == b
def partL (ns : List Int) (c b : Int) (n : Nat) : List Int := ((List.range n).filter (inPart c b)).map fun t => ns.getD t 0
theorem partL_succ (ns : List Int) (c b : Int) (n : Nat) : partL ns c b (n + 1) = partL ns c b n ++ (if inPart c b n then [ns.getD n 0] else []) := by
  unfold partL
  rw [List.range_succ, List.filter_append, List.map_append]
  congr 1
  by_cases h : inPart c b n = true
  · rw [if_pos h, List.filter_cons, if_pos h]; rfl
  · rw [if_neg h, List.filter_cons, if_neg h]; rfl
theorem ints_getD {vs : List Value} {ns : List Int} (hi : IntsAre vs ns) {i : Nat} (h : i < ns.length) : ∃ u, vs[i]? = some (.int (ns.getD i 0) u) := by
  have hl := ints_len hi
  obtain ⟨n, u, e, e2⟩ := ints_get hi (i := i) (v := vs[i]'(by omega)) (by simp [hl, h])
  refine ⟨u, ?_⟩
  rw [List.getD_eq_getElem?_getD, e2]
  simp [e, hl, h]

section
variable {w : World} {A : Around} {g h : Heap} {es R : List Ent} {gn : Array GenState} {d : Drawn} {t : Nat} {os : OsState} {Q : Value → Shared → Prop}
set_option maxHeartbeats 1000000 in
theorem part_fn {n : Nat} {f G : Addr} {vs : List Value} {ns : List Int} {c b : Int} {uc ub : Tok} (hf : Fine A (n + 2)) (B : Base g) (F : IsFn g 10 f) (hl : g.IsList G vs.toArray) (hi : IntsAre vs ns) (hz : ns.length = 4) (S : St g es h)
    (q : ∀ D vs' h' t', IntsAre vs' (partL ns c b 4) → St g ((D, isLst vs') :: es) h' → Q (.ref D) ⟨h', gn, d, t', os⟩) : Ok w A (call (.ref f) [.ref G, .int c uc, .int b ub]) Q ⟨h, gn, d, t, os⟩ := by
  refine call_fnC (binds := [(Str.ofString "ups", .ref G), (Str.ofString "chosen", .int c uc), (Str.ofString "bit", .int b ub)]) hf B F S (fun _ _ _ => rfl) (fun L x hx => ?_) (fun L => ?_) (fun L cd A' h1 t1 hf1 S1 => ?_) rfl rfl rfl
  · right
    simp only [List.mem_cons, List.not_mem_nil, or_false] at hx
    rcases hx with rfl | rfl | rfl <;> exact ⟨rfl, rfl⟩
  · show [Str.ofString "bit", Str.ofString "chosen", Str.ofString "ups"].Nodup
    simp [ofs_inj]
  have S1 : St g ((L, isNs _) :: (L + 1 + 1 + 1, isCell (some (.int b ub))) :: (L + 1 + 1, isCell (some (.int c uc))) :: (L + 1, isCell (some (.ref G))) :: es) h1 := S1
  have Gr := B.blt (Str.ofString "range", .type "range") (by simp [bltins])
  refine x_cons (x_ret (e_comp (cl := [(Str.ofString "ups", L + 1), (Str.ofString "chosen", L + 1 + 1), (Str.ofString "bit", L + 1 + 1 + 1)]) (by rfl) (e_gT S1 Gr (e_int fun u4 t4 => o_range (n := 4) S1 fun r x1 x2 x3 h5 t5 S5 hr => i_range (by omega) hr S5 fun it h6 S6 => ?_))))
  refine comp_iter (iter_range (n := 4)) hf1.1 (by omega) (fun i acc R gn' => gn = gn' ∧ R = _ ∧ IntsAre acc (partL ns c b i)) ?_ ⟨rfl, rfl, .nil⟩ S6 ?_
  · rintro i v acc R gn' h t C m D hi' ⟨u, rfl⟩ ⟨rfl, rfl, ha⟩ hm hlen S4
    refine ts_one (t_cmp (e_bin (e_bin (e_cell S4 5 rfl rfl (e_bin (e_int fun u5 t5 => e_loc0 S4 hm (o_pow2 (by omega) fun u6 t6 => ?_)))))))
    refine o_fdiv (by have : (0 : Int) < 2 ^ i := Int.pow_pos (by decide)
                      omega) (by have : i = 0 ∨ i = 1 ∨ i = 2 ∨ i = 3 := by omega
                                 rcases this with rfl | rfl | rfl | rfl <;> decide) fun u7 t7 => e_int fun u8 t8 => o_mod (by decide) fun u9 t9 => e_cell S4 4 rfl rfl (o_eq (t_bool ?_))
    have e := partL_succ ns c b i
    by_cases cc : inPart c b i = true
    · refine (if_pos cc).mpr ?_
      obtain ⟨u10, hx⟩ := ints_getD hi (i := i) (by omega)
      refine e_sub (e_cell S4 6 rfl rfl (e_loc0 S4 hm (o_item (IsList.ext hl S4.ext) (by omega) hx ⟨_, _, _, _, rfl, ⟨rfl, rfl, ?_⟩, S4⟩)))
      rw [e, if_pos cc]
      exact ints_snoc ha
    · refine (if_neg cc).mpr ⟨_, _, _, _, rfl, ⟨rfl, rfl, ?_⟩, S4⟩
      rw [e, if_neg cc, List.append_nil]
      exact ha
  rintro D acc R gn' h5 t5 ⟨rfl, rfl, ha⟩ hlen S5
  exact q D acc h5 t5 ha (S5.sub ((((((List.Sublist.refl _).cons _).cons _).cons _).cons_cons _).cons _))
end
end Mine
end

section
open PySem PySem.W PySem.W.X PyProof.Rows
set_option Elab.async false
set_option maxRecDepth 100000
set_option linter.unusedSimpArgs false
namespace Mine

section
variable {w : World} {A : Around} {g h : Heap} {es R : List Ent} {gn : Array GenState} {d : Drawn} {t : Nat} {os : OsState} {env : Env} {x : Str} {pos p : Pos} {Q : Value → Shared → Prop}
theorem e_gF0 {f : Addr} {k : Nat} (S : St g es h) (G : Glb g x (.ref f)) (F : IsFn g k f) (q : Ok w A (call (.ref f) []) Q ⟨h, gn, d, t, os⟩)
    (he : starEach [] env = [] := by rfl)
    (hg : env.globals = mainGlobals := by rfl) (hb : env.builtins = builtinsNs := by rfl) (hk : env.scope.kind = .function := by rfl) (hl : env.kindOf x = some .globalImplicit := by rfl) (hd : (x == ("__debug__" : Str)) = false := by rfl) :
    Ok w A (eval (.Call (.Name x p) [] [] pos) env) Q ⟨h, gn, d, t, os⟩ := by
  refine wpAny_Call_NameR (e_glb S G ?_ hg hb hk hl hd)
  rw [he]
  obtain ⟨o, pm, cd, doc, F1, F2, _⟩ := F
  exact Calls.callWith_function (o := o) (fd := _) (evalArgs_nil3 ⟨⟨S.ext _ _ F1, F2⟩, q⟩)
theorem e_gF2 {e1 e2 : Expr} {f : Addr} {k : Nat} (S : St g es h) (G : Glb g x (.ref f)) (F : IsFn g k f)
    (q : Ok w A (eval e1 env) (fun v1 s1 => Ok w A (eval e2 env) (fun v2 s2 => Ext g s2.heap ∧ Ok w A (call (.ref f) [v1, v2]) Q s2) s1) ⟨h, gn, d, t, os⟩)
    (he : starEach [e1, e2] env = [(false, eval e1 env), (false, eval e2 env)] := by rfl)
    (hg : env.globals = mainGlobals := by rfl) (hb : env.builtins = builtinsNs := by rfl) (hk : env.scope.kind = .function := by rfl) (hl : env.kindOf x = some .globalImplicit := by rfl) (hd : (x == ("__debug__" : Str)) = false := by rfl) :
    Ok w A (eval (.Call (.Name x p) [e1, e2] [] pos) env) Q ⟨h, gn, d, t, os⟩ := by
  refine wpAny_Call_NameR (e_glb S G ?_ hg hb hk hl hd)
  rw [he]
  obtain ⟨o, pm, cd, doc, F1, F2, _⟩ := F
  exact Calls.callWith_function (o := o) (fd := _) (Calls.evalArgs_plain (Calls.spliced_cons (wpAny_mono q (fun _ _ h1 => Calls.spliced_cons (wpAny_mono h1 (fun _ _ h2 =>
    Calls.spliced_nil ⟨⟨h2.1 _ _ F1, F2⟩, h2.2⟩) fun _ _ e => e)) fun _ _ e => e)))
theorem e_gF3 {e1 e2 e3 : Expr} {f : Addr} {k : Nat} (S : St g es h) (G : Glb g x (.ref f)) (F : IsFn g k f)
    (q : Ok w A (eval e1 env) (fun v1 s1 => Ok w A (eval e2 env) (fun v2 s2 => Ok w A (eval e3 env) (fun v3 s3 => Ext g s3.heap ∧ Ok w A (call (.ref f) [v1, v2, v3]) Q s3) s2) s1) ⟨h, gn, d, t, os⟩)
    (he : starEach [e1, e2, e3] env = [(false, eval e1 env), (false, eval e2 env), (false, eval e3 env)] := by rfl)
    (hg : env.globals = mainGlobals := by rfl) (hb : env.builtins = builtinsNs := by rfl) (hk : env.scope.kind = .function := by rfl) (hl : env.kindOf x = some .globalImplicit := by rfl) (hd : (x == ("__debug__" : Str)) = false := by rfl) :
    Ok w A (eval (.Call (.Name x p) [e1, e2, e3] [] pos) env) Q ⟨h, gn, d, t, os⟩ := by
  refine wpAny_Call_NameR (e_glb S G ?_ hg hb hk hl hd)
  rw [he]
  obtain ⟨o, pm, cd, doc, F1, F2, _⟩ := F
  exact Calls.callWith_function (o := o) (fd := _) (Calls.evalArgs_plain (Calls.spliced_cons (wpAny_mono q (fun _ _ h1 => Calls.spliced_cons (wpAny_mono h1 (fun _ _ h2 =>
    Calls.spliced_cons (wpAny_mono h2 (fun _ _ h3 => Calls.spliced_nil ⟨⟨h3.1 _ _ F1, F2⟩, h3.2⟩) fun _ _ e => e)) fun _ _ e => e)) fun _ _ e => e)))
end

def textF (ns : List Int) (c : Int) (y : Str) : Str := strMul (Str.ofString "()") (c.fmod 2) ++ brk (partL ns c 1 4) ++ y ++ brk (partL ns c 0 4 ++ [0 - ns.sum])
theorem part_len (ns : List Int) (c b : Int) : (partL ns c b 4).length ≤ 4 := by
  unfold partL; rw [List.length_map]; exact Nat.le_trans (List.length_filter_le _ _) (by simp)
theorem part_mem {ns : List Int} {c b : Int} (hb : ∀ x ∈ ns, -2 ≤ x ∧ x ≤ 2) : ∀ x ∈ partL ns c b 4, -2 ≤ x ∧ x ≤ 2 := by
  intro x hx
  obtain ⟨i, _, rfl⟩ := List.mem_map.mp hx
  rw [List.getD_eq_getElem?_getD]
  cases e : ns[i]? with
  | none => simp
  | some v => exact hb v (List.mem_of_getElem? e)
theorem sum_sm : ∀ (l : List Int), (∀ x ∈ l, -2 ≤ x ∧ x ≤ 2) → -2 * (l.length : Int) ≤ l.sum ∧ l.sum ≤ 2 * l.length
  | [], _ => by simp
  | x :: l, hl => by
    have := sum_sm l fun y hy => hl y (List.mem_cons_of_mem _ hy)
    have h1 := hl x List.mem_cons_self
    simp only [List.sum_cons, List.length_cons]
    push_cast
    omega
theorem str_app_len (x y : Str) : (x ++ y).length = x.length + y.length := by
  show (x.cps ++ y.cps).size = _
  rw [Array.size_append]; rfl
theorem brk_len {ns : List Int} (hz : ns.length ≤ 10) (hb : ∀ x ∈ ns, -20 ≤ x ∧ x ≤ 20) : (brk ns).length ≤ 400 := by
  have b1 := pos_bound hz hb
  have b2 := neg_bound hz hb
  have e1 : (Str.ofString "(").length = 1 := by decide
  have e2 : (Str.ofString ")").length = 1 := by decide
  unfold brk
  rw [str_app_len, strMul_len, strMul_len, e1, e2]
  omega
theorem fmod2 (c : Int) : 0 ≤ c.fmod 2 ∧ c.fmod 2 ≤ 1 := by
  have := Int.fmod_eq_emod_of_nonneg c (b := 2) (by decide)
  rw [this]; omega

section
variable {w : World} {A : Around} {g h : Heap} {es R : List Ent} {gn : Array GenState} {d : Drawn} {t : Nat} {os : OsState} {Q : Value → Shared → Prop}
set_option maxHeartbeats 1000000 in
theorem text_fn {n : Nat} {f G : Addr} {vs : List Value} {ns : List Int} {c : Int} {uc uy : Tok} {y : Str} (hf : Fine A (n + 4)) (B : Base g) (F : IsFn g 11 f) (hl : g.IsList G vs.toArray) (hi : IntsAre vs ns) (hz : ns.length = 4) (hb : ∀ x ∈ ns, -2 ≤ x ∧ x ≤ 2) (hy : y.length ≤ 10) (S : St g es h)
    (q : ∀ h' tk t', St g es h' → Q (.str (textF ns c y) tk) ⟨h', gn, d, t', os⟩) : Ok w A (call (.ref f) [.ref G, .int c uc, .str y uy]) Q ⟨h, gn, d, t, os⟩ := by
  refine call_fn (binds := [(Str.ofString "ups", .ref G), (Str.ofString "chosen", .int c uc), (Str.ofString "dress", .str y uy)]) hf B F S (fun _ _ _ => rfl) rfl (fun L cd A' h1 t1 hf1 S1 => ?_) rfl rfl rfl rfl
  obtain ⟨m1, hm1⟩ : ∃ m : Str → Option Value, (fun x => List.lookup x [(Str.ofString "ups", Value.ref G), (Str.ofString "chosen", Value.int c uc), (Str.ofString "dress", Value.str y uy)].reverse) = m := ⟨_, rfl⟩
  have hu : m1 (Str.ofString "ups") = some (.ref G) := by rw [← hm1]; rfl
  have hc : m1 (Str.ofString "chosen") = some (.int c uc) := by rw [← hm1]; rfl
  have hd : m1 (Str.ofString "dress") = some (.str y uy) := by rw [← hm1]; rfl
  rw [hm1] at S1
  have Gs := B.blt (Str.ofString "sum", .builtin "sum") (by simp [bltins])
  obtain ⟨f10, Gf10, F10⟩ := B.fn 10 (by decide)
  obtain ⟨f9, Gf9, F9⟩ := B.fn 9 (by decide)
  have p0 := part_len ns c 0
  have p1 := part_len ns c 1
  have b0 := part_mem (c := c) (b := 0) hb
  have b1 := part_mem (c := c) (b := 1) hb
  have bs := sum_sm ns hb
  refine x_cons (x_asg (e_bin (e_gF3 S1 Gf10 F10 (e_loc0 S1 hu (e_loc0 S1 hc (e_int fun u2 t2 => ⟨S1.ext, part_fn hf1 B F10 hl hi hz S1 fun D0 vs0 h3 t3 hi0 S3 => ?_⟩))))))
  have S3 := S3.perm (.swap _ _ _)
  refine e_list1 (e_bin (e_int fun u4 t4 => e_gB S3 Gs (e_loc0 S3 hu (o_sum hf1.1 (IsList.ext hl S3.ext) hi fun h5 u5 t5 X5 => o_sub fun u6 t6 => newL (S3.grow X5) fun D1 h7 S7 => ?_))))
  have hl0 := ints_len hi0
  refine o_addL S7 (S7.at 2 rfl) (S7.at 1 rfl) (by simp; omega) fun D2 h8 S8 => s_loc0 S8 fun h9 t9 S9 => ?_
  have hi2 : IntsAre (vs0 ++ [.int (0 - ns.sum) u6]) (partL ns c 0 4 ++ [0 - ns.sum]) := ints_snoc hi0
  have f2 := fmod2 c
  have hc9 : upd m1 (Str.ofString "others") (.ref D2) (Str.ofString "chosen") = some (.int c uc) := by simp [upd, ofs_inj, hc]
  have hu9 : upd m1 (Str.ofString "others") (.ref D2) (Str.ofString "ups") = some (.ref G) := by simp [upd, ofs_inj, hu]
  have hd9 : upd m1 (Str.ofString "others") (.ref D2) (Str.ofString "dress") = some (.str y uy) := by simp [upd, ofs_inj, hd]
  have ho9 : upd m1 (Str.ofString "others") (.ref D2) (Str.ofString "others") = some (.ref D2) := by simp [upd]
  refine x_cons (x_ret (e_bin (e_bin (e_bin (e_bin (e_str fun u10 t10 => e_bin (e_loc0 S9 hc9 (e_int fun u11 t11 => o_mod (by decide) fun u12 t12 => ?_))))))))
  refine o_mulS (by decide) (by omega) (by omega) fun u13 t13 => ?_
  refine e_gF1 S9 Gf9 F9 (e_gF3 S9 Gf10 F10 (e_loc0 S9 hu9 (e_loc0 S9 hc9 (e_int fun u14 t14 => ⟨S9.ext, part_fn hf1 B F10 hl hi hz S9 fun D3 vs3 h15 t15 hi3 S15 => ⟨S15.ext, ?_⟩⟩))))
  obtain ⟨g', S16, X16, P16⟩ := S15.freeze (.refl _)
  refine brackets_fn (n := n) (hf1.less (by omega)) (B.ext X16) (F9.ext X16) (IsLst.toIsList P16) hi3 (by omega) (fun x hx => by have := b1 x hx; omega) S16 fun h17 u17 t17 S17 => ?_
  have S18 := S17.weaken X16
  have l1 : (strMul (Str.ofString "()") (c.fmod 2)).length ≤ 2 := by
    rw [strMul_len]
    have e1 : (Str.ofString "()").length = 2 := by decide
    rw [e1]; omega
  have l2 := brk_len (ns := partL ns c 1 4) (by omega) (fun x hx => by have := b1 x hx; omega)
  have bb : ∀ x ∈ partL ns c 0 4 ++ [0 - ns.sum], -20 ≤ x ∧ x ≤ 20 := by
    intro x hx
    rcases List.mem_append.mp hx with hx | hx
    · have := b0 x hx; omega
    · rw [List.mem_singleton] at hx; subst hx; omega
  have l3 := brk_len (ns := partL ns c 0 4 ++ [0 - ns.sum]) (by simp; omega) bb
  refine o_cat (fun u19 t19 => e_loc0 S18 hd9 (o_cat (fun u20 t20 => ?_) (k_le_line (by rw [str_app_len]; omega)))) (k_le_line (by omega))
  obtain ⟨g2, S21, X21, P21⟩ := S18.freeze (.swap _ _ _)
  refine e_gF1 S18 Gf9 F9 (e_loc0 S18 ho9 ⟨S18.ext, brackets_fn (n := n) (hf1.less (by omega)) (B.ext X21) (F9.ext X21) (IsLst.toIsList P21) hi2 (by simp; omega) bb S21 fun h22 u22 t22 S22 => ?_⟩)
  refine o_cat (fun u23 t23 => q _ _ _ ((S22.weaken X21).sub ((((List.Sublist.refl _).cons _).cons _).cons _))) (k_le_line (by rw [str_app_len, str_app_len]; omega))
end
end Mine
end

section
open PySem PySem.W PySem.W.X PyProof.Rows
set_option Elab.async false
set_option maxRecDepth 100000
set_option linter.unusedSimpArgs false
namespace Mine

/-- entries of an object's dict -/
inductive DEs : List DictEntry → List (Str × Value) → Prop
  | nil : DEs [] []
  | cons (hsh : Int) (k : Str) (tk : Tok) (v : Value) {es l} : DEs es l → DEs (⟨hsh, .str k tk, v⟩ :: es) ((k, v) :: l)
def putA (n : Str) (v : Value) : List (Str × Value) → List (Str × Value)
  | [] => [(n, v)]
  | (k, u) :: r => if k == n then (k, v) :: r else (k, u) :: putA n v r
def getA (n : Str) : List (Str × Value) → Option Value
  | [] => none
  | (k, u) :: r => if k == n then some u else getA n r
theorem DEs.noRef {es : List DictEntry} {l : List (Str × Value)} (h : DEs es l) : es.any (·.refKey) = false := by
  induction h with
  | nil => rfl
  | cons hsh k tk v _ ih => rw [List.any_cons, ih]; rfl
theorem DEs.get {es : List DictEntry} {l : List (Str × Value)} (h : DEs es l) (n : Str) : getL n es = some (getA n l) := by
  have hr := h.noRef
  unfold getL
  have : es.find? (fun e => e.key.isStr n) = none ∧ getA n l = none ∨ ∃ e, es.find? (fun e => e.key.isStr n) = some e ∧ getA n l = some e.val := by
    clear hr
    induction h with
    | nil => exact .inl ⟨rfl, rfl⟩
    | cons hsh k tk v _ ih =>
      by_cases hk : (k == n) = true
      · right
        refine ⟨_, List.find?_cons_of_pos (show (Value.isStr (.str k tk) n) = true from hk), ?_⟩
        show (if k == n then some v else _) = _
        rw [if_pos hk]
      · have e1 : ∀ es' : List DictEntry, List.find? (fun e => e.key.isStr n) (⟨hsh, .str k tk, v⟩ :: es') = List.find? (fun e => e.key.isStr n) es' := fun es' => List.find?_cons_of_neg (show ¬ (Value.isStr (.str k tk) n) = true from hk)
        have e2 : ∀ l', getA n ((k, v) :: l') = getA n l' := fun l' => by
          show (if k == n then some v else _) = _
          rw [if_neg hk]
        rw [e1, e2]
        exact ih
  rcases this with ⟨a, b⟩ | ⟨e, a, b⟩
  · rw [a, b, hr]; rfl
  · rw [a, b]
theorem DEs.put {es : List DictEntry} {l : List (Str × Value)} (h : DEs es l) (n : Str) (v : Value) (hsh : Int) (tk : Tok) : DEs (putL n hsh (.str n tk) v es) (putA n v l) := by
  induction h with
  | nil => exact .cons _ _ _ _ .nil
  | cons hs k t u hh ih =>
    show DEs (if Value.isStr (.str k t) n then _ else _) (if k == n then _ else _)
    by_cases hk : (k == n) = true
    · rw [if_pos (show Value.isStr (.str k t) n = true from hk), if_pos hk]; exact .cons _ _ _ _ hh
    · rw [if_neg (show ¬ Value.isStr (.str k t) n = true from hk), if_neg hk]; exact .cons _ _ _ _ ih
theorem DEs.len {es : List DictEntry} {l : List (Str × Value)} (h : DEs es l) : es.length = l.length := by
  induction h with
  | nil => rfl
  | cons _ _ _ _ _ ih => simp [ih]
theorem putA_len (n : Str) (v : Value) : ∀ l : List (Str × Value), (putA n v l).length ≤ l.length + 1
  | [] => by simp [putA]
  | (k, u) :: r => by
    unfold putA
    split
    · simp
    · have := putA_len n v r
      simp only [List.length_cons]
      omega
def isD (l : List (Str × Value)) : Obj → Prop := fun o => ∃ es n, o = dictOf es n ∧ DEs es l
def isInst (C dx : Addr) : Obj → Prop := fun o => o = instObj C dx

def nonData (K : Frag) (C : Addr) (x : Str) : Bool := match findIn K (.ref C) x with
  | some none => true
  | some (some a) => (match specialIn K a "__get__" with | some none => true | some (some _) => takesIn K a == some false | none => false)
  | none => false
theorem findObj_nd {K : Frag} {C : Addr} {x : Str} {od : Obj} {v : Value} (hh : hasDictIn K C = true) (hn : nonData K C x = true) (hl : lookIn x od = some (some v)) : findObj K C (some od) x = some (.value v) := by
  obtain ⟨cd, hc, hd⟩ := any_some hh
  have ho : W.ownOf cd (some od) x = some (some v) := by unfold W.ownOf; rw [if_pos hd]; exact hl
  unfold nonData at hn
  unfold findObj
  rw [hc, Option.bind_some]
  split at hn
  · rename_i e; rw [e]; simp [ho]
  · rename_i a e
    rw [e]
    split at hn
    · rename_i g; simp [g, ho]
    · rename_i g; have t := beq_iff_eq.mp hn; simp [g, t, ho]
    · cases hn
  · cases hn

structure Cls (g : Heap) (K : Frag) (C fI fA : Addr) : Prop where
  In : K.In g
  made : makesIn K C = true
  init : findIn K (.ref C) "__init__" = some (some (.ref fI))
  initT : typeIn K (.ref fI) = some (.type "function")
  setA : findIn K (.ref C) "__setattr__" = some (some (.builtin "object.__setattr__"))
  over : plainOver K C = true
  hasD : hasDictIn K C = true
  getA : findIn K (.ref C) "__getattribute__" = some (some (.builtin "object.__getattribute__"))
  noGA : findIn K (.ref C) "__getattr__" = some none
  tak : ∀ x ∈ [Str.ofString "useragents", Str.ofString "rulelines", Str.ofString "delay", Str.ofString "req_rate", Str.ofString "applies_to", Str.ofString "allowance"], takerIn K C x = some none ∧ nonData K C x = true
  allow : findIn K (.ref C) (Str.ofString "allowance") = some (some (.ref fA))
  allowT : typeIn K (.ref fA) = some (.type "function")
  appl : ∃ f, findIn K (.ref C) (Str.ofString "applies_to") = some (some (.ref f)) ∧ typeIn K (.ref f) = some (.type "function")
  glb : Glb g (Str.ofString "Entry") (.ref C)
theorem Cls.ext {g g' : Heap} {K : Frag} {C fI fA : Addr} (x : Cls g K C fI fA) (e : Ext g g') : Cls g' K C fI fA := { x with In := x.In.keeps e, glb := x.glb.ext e }

section
variable {w : World} {A : Around} {g h : Heap} {es R : List Ent} {gn : Array GenState} {d : Drawn} {t : Nat} {os : OsState} {K : Frag} {C fI fA x dx L : Addr} {m : Str → Option Value} {l : List (Str × Value)}
theorem o_setattr {n : Str} {v : Value} {Q : Unit → Shared → Prop} (H : Cls g K C fI fA) (ht : takerIn K C n = some none) (S : St g es h) (i : Nat) (hi : es[i]? = some (dx, isD l)) (hx : Pt h x (isInst C dx)) (hl : l.length ≤ 100)
    (q : ∀ h' t', St g (es.set i (dx, isD (putA n v l))) h' → Q () ⟨h', gn, d, t', os⟩) : Ok w A (setAttr (.ref x) n v) Q ⟨h, gn, d, t, os⟩ := by
  obtain ⟨_, D, en, k, rfl, hd⟩ := S.at i hi
  obtain ⟨_, hox, rfl⟩ := hx
  have X : K.In h := H.In.keeps S.ext
  have I : InstAt h x (instObj C dx) C (some (dictOf en k)) := ⟨hox, rfl, rfl, D⟩
  have dl := hd.put n v (PyData.keyHash w.params n) (t + 1)
  have hlen : (putL n (PyData.keyHash w.params n) (.str n (t + 1)) v en).length ≤ 101 := by
    rw [dl.len]; exact Nat.le_trans (putA_len n v l) (by omega)
  obtain ⟨cd, hc, hd'⟩ := any_some H.hasD
  refine set_plain (s := ⟨h, gn, d, t, os⟩) X I H.setA (osa_open (s := ⟨h, gn, d, t + 1, os⟩) X I H.over ht fun b => ?_)
  have e := putName_dict n (PyData.keyHash w.params n) (.str n (t + 1)) v en k
  have D' : (h.update dx (Obj.putName n (PyData.keyHash w.params n) (.str n (t + 1)) v)).get? dx = some (dictOf (putL n (PyData.keyHash w.params n) (.str n (t + 1)) v en) (putN n en k)) := by
    rw [Heap.get?_update_self _ D (by rw [e]; rfl), e]
  refine wpAny_bind (wpAny_pure (wpAny_bind (wpAny_bind (wpAny_loadPart hox (wpAny_bind ((looks_clsIn X hc).here ?_))))))
  rw [hd']
  refine wpAny_pure (a := some dx) (wpAny_bind (wpAny_pure (wpAny_bind ?_)))
  unfold nsSet
  refine wpAny_bind (wpAny_bind (wpAny_askSetting (wpAny_pure (wpAny_bind (wpAny_mkText (wpAny_bind (wpAny_loadPart D ?_)))))))
  have c : (!en.toArray.any (·.key.isStr n) && en.toArray.any (·.refKey)) = false := by
    rw [List.any_toArray, List.any_toArray, hd.noRef, Bool.and_false]
  dsimp only
  rw [aRefKeyMayBeTheName_at, c]
  refine wpAny_updatePart D ?_
  refine wpAny_bind (wpAny_lookBehind D' (pastItsLine_dict (by rw [List.size_toArray, sizeLine_eq]; omega)) ?_)
  exact wpAny_pure (q _ _ (S.set i hi (Heap.SameBut.update ..) ⟨_, D', _, _, rfl, dl⟩))
theorem o_getown {n : Str} {v : Value} {ex : Bool} {Q : Value → Shared → Prop} (H : Cls g K C fI fA) (hn : nonData K C n = true) (X : Ext g h) (hx : Pt h x (isInst C dx)) (hd : Pt h dx (isD l)) (hv : getA n l = some v) (hh : handedIn v = true)
    (q : ∀ t', Q v ⟨h, gn, d, t', os⟩) : Ok w A (getAttr (.ref x) n ex) Q ⟨h, gn, d, t, os⟩ := by
  obtain ⟨_, D, en, k, rfl, hd⟩ := hd
  obtain ⟨_, hox, rfl⟩ := hx
  exact get_value (s := ⟨h, gn, d, t, os⟩) (H.In.keeps X) ⟨hox, rfl, rfl, D⟩ H.getA (findObj_nd H.hasD hn (by rw [lookIn_dict, hd.get, hv])) hh (q _)
/-- a method of the class that the object does not hide -/
theorem o_meth {pl : Sem Bool} {Q : Value × List Value → Shared → Prop} {n : Str} {f : Addr} (H : Cls g K C fI fA) (hf : findIn K (.ref C) n = some (some (.ref f))) (hT : typeIn K (.ref f) = some (.type "function")) (X : Ext g h) (hx : Pt h x (isInst C dx)) (hd : Pt h dx (isD l))
    (hv : getA n l = none) (q : Q (.ref f, [.ref x]) ⟨h, gn, d, t, os⟩) : Ok w A (getMethod (.ref x) n pl) Q ⟨h, gn, d, t, os⟩ := by
  obtain ⟨_, D, en, k, rfl, hd⟩ := hd
  obtain ⟨_, hox, rfl⟩ := hx
  exact method_fn (s := ⟨h, gn, d, t, os⟩) (H.In.keeps X) (C := C) (od := some (dictOf en k)) ⟨hox, rfl, rfl, D⟩ H.getA H.noGA hf hT (by show (lookIn n (dictOf en k)).map _ = _; rw [lookIn_dict, hd.get, hv]; rfl) q
/-- a function in the object's own dict hides the class's -/
theorem o_methOwn {pl : Sem Bool} {Q : Value × List Value → Shared → Prop} {n : Str} {f : Addr} {v : Value} (H : Cls g K C fI fA) (hf : findIn K (.ref C) n = some (some (.ref f))) (hT : typeIn K (.ref f) = some (.type "function")) (hn : nonData K C n = true) (X : Ext g h) (hx : Pt h x (isInst C dx)) (hd : Pt h dx (isD l))
    (hv : getA n l = some v) (hh : handedIn v = true) (q : ∀ t', Q (v, []) ⟨h, gn, d, t', os⟩) : Ok w A (getMethod (.ref x) n pl) Q ⟨h, gn, d, t, os⟩ := by
  have u : Ok w A (do return (← getAttr (.ref x) n, ([] : List Value))) Q ⟨h, gn, d, t, os⟩ := wpAny_bind (o_getown H hn X hx hd hv hh fun t' => wpAny_pure (q t'))
  obtain ⟨_, D, en, k, rfl, hd⟩ := hd
  obtain ⟨_, hox, rfl⟩ := hx
  have Y : K.In h := H.In.keeps X
  have I : InstAt h x (instObj C dx) C (some (dictOf en k)) := ⟨hox, rfl, rfl, D⟩
  have hcan := PySem.F.canon_object_ga
  unfold getMethod specialOf
  refine wpAny_bind (wpAny_bind (I.type.here (s := ⟨h, gn, d, t, os⟩) ((looks_findIn Y H.getA).here (s := ⟨h, gn, d, t, os⟩) ?_)))
  dsimp only
  rw [hcan, if_neg (by decide)]
  refine wpAny_bind (wpAny_bind (I.type.here (s := ⟨h, gn, d, t, os⟩) ((looks_findIn Y H.noGA).here (s := ⟨h, gn, d, t, os⟩) ?_)))
  refine wpAny_bind (wpAny_bind (I.type.here (s := ⟨h, gn, d, t, os⟩) ((looks_findIn Y hf).here (s := ⟨h, gn, d, t, os⟩) (wpAny_bind ((looks_typeIn Y hT).here (s := ⟨h, gn, d, t, os⟩) ?_)))))
  rw [if_neg (by decide +kernel)]
  refine wpAny_bind (wpAny_loadPart hox ?_)
  refine wpAny_bind (wpAny_bind (wpAny_loadPart D ?_))
  rw [nsLook_of (r := some v) (by rw [lookIn_dict, hd.get, hv])]
  exact wpAny_pure u
end
end Mine
end

section
open PySem PySem.W PySem.W.X PyProof.Rows
set_option Elab.async false
set_option maxRecDepth 100000
set_option linter.unusedSimpArgs false
namespace Mine

def mth (j : Nat) : Stmt := match stm 1 with | .ClassDef _ _ _ b .. => b.getD j (.Pass default) | _ => .Pass default
def mname (k : Nat) : Str := match mth k with | .FunctionDef n .. => n | _ => default
def margs (k : Nat) : Arguments := match mth k with | .FunctionDef _ a .. => a | _ => default
def mbody (k : Nat) : List Stmt := match mth k with | .FunctionDef _ _ b .. => b | _ => []
def mscope (k : Nat) : Scope := match mth k with | .FunctionDef _ _ _ _ _ _ s .. => s | _ => default
def mfun (k : Nat) (pm cd doc : Value) : FuncData := { Calls.docDef (mname k) (margs k) (mbody k) (mscope k) pm cd doc with qualname := Str.ofString "Entry." ++ mname k }
def IsMth (g : Heap) (k : Nat) (f : Addr) : Prop := ∃ o pm cd doc, g.get? f = some o ∧ o.data = .func (mfun k pm cd doc) ∧ g.CodeRec cd (Str.ofString "Entry." ++ mname k)
theorem IsMth.ext {g g' : Heap} {k : Nat} {f : Addr} (x : IsMth g k f) (e : Ext g g') : IsMth g' k f :=
  let ⟨o, pm, cd, doc, a, b, c⟩ := x; ⟨o, pm, cd, doc, e _ _ a, b, c.keeps e⟩

section
variable {w : World} {A : Around} {g h : Heap} {es R : List Ent} {gn : Array GenState} {d : Drawn} {t : Nat} {os : OsState} {K : Frag} {C fI fA x dx L : Addr} {m : Str → Option Value} {l : List (Str × Value)} {env : Env} {pos p p2 : Pos}
theorem x_asgA {e : Expr} {a : Str} {value : Expr} {Q : Flow → Shared → Prop} {s : Shared} (q : Ok w A (eval value env) (fun v s₁ => Ok w A (eval e env) (fun ov s₂ => Ok w A (setAttr ov a v) (fun _ => Q .next) s₂) s₁) s)
    (hs : swapsWith value (some (.Attribute e a p)) pos.line env = pure false := by rfl) : Ok w A (exec (.Assign [.Attribute e a p] value pos) env) Q s := plainObj_wpAny_Assign_Attribute q hs
theorem e_attr {y : Str} {a : Str} {Q : Value → Shared → Prop} {s : Shared} (q : Ok w A (eval (.Name y p) env) (fun o s₁ => Ok w A (getAttr o a true) Q s₁) s) : Ok w A (eval (.Attribute (.Name y p) a pos) env) Q s := Attribute_name q
theorem code_mth {k n : Nat} {f : Addr} {args : List Value} {binds : List (Str × Value)} {Q : Value → Shared → Prop} (hf : Fine A (n + 1)) (lim : g.NoLimit) (F : IsMth g k f) (S : St g es h)
    (hbind : ∀ pm cd doc, bindArgs (mfun k pm cd doc) ⟨args, []⟩ = pure binds)
    (hloc : (binds.all fun x => decide ((mscope k).names.lookup x.1 = some .local)) = true)
    (q : ∀ L cd A' h' t', Fine A' n → St g ((L, isNs fun x => binds.reverse.lookup x) :: es) h' →
      Ok w A' (execs (mbody k) (envOf (Str.ofString "Entry." ++ mname k) (mscope k) L f cd)) (fun fl s' => Q (match fl with | .ret v => v | _ => .none) s') ⟨h', gn, d, t', os⟩)
    (hco : (mscope k).isCoroutine = false) (hgen : (mscope k).isGenerator = false) (hk : (mscope k).kind = .function) (hcell : ((mscope k).names.all fun x => x.2 != .cell) = true) :
    OkC w A (.call (.ref f) ⟨args, []⟩) (fun fl s' => match fl with | .ret v => Q v s' | _ => False) ⟨h, gn, d, t, os⟩ := by
  obtain ⟨o, pm, cd, doc, F1, F2, F3⟩ := F
  refine codeAny_call_function (s := ⟨h, gn, d, t, os⟩) (body := mbody k) hf.room (S.ext _ _ F1) F2 hco hgen rfl (F3.keeps S.ext) ?_
  rw [hbind]
  refine wpAny_pure (wpAny_newFunctionEnv (fun x hx => by simpa using List.all_eq_true.mp hcell x hx) (PyProof.Rows.locs hloc) (fun h₁ hns hsb => ⟨(lim.keeps S.ext).fresh _ hsb, ?_⟩) hk)
  have X1 : Ext h h₁ := fun b o e => hsb.extBut b o (Nat.ne_of_lt (Heap.lt_size e)) (Heap.get?_push_of_some _ e)
  exact codeAny_func (wpAny_mono (q h.objs.size cd _ h₁ _ (hf.deeper _) (S.cons (get_size h) X1 (ns_iff.mpr hns))) (fun f s' z => z) fun _ _ z => z.elim)

def cName (x : String) : Str := Str.ofString x
set_option maxHeartbeats 1000000 in
theorem init_code {n : Nat} {Q : Value → Shared → Prop} (hf : Fine A (n + 2)) (lim : g.NoLimit) (H : Cls g K C fI fA) (F : IsMth g 0 fI) (S : St g ((dx, isD []) :: (x, isInst C dx) :: es) h)
    (q : ∀ D1 D2 h' t', St g ((dx, isD [(Str.ofString "useragents", .ref D1), (Str.ofString "rulelines", .ref D2), (Str.ofString "delay", .none), (Str.ofString "req_rate", .none)]) :: (x, isInst C dx) :: es) h' → Q .none ⟨h', gn, d, t', os⟩) :
    OkC w A (.call (.ref fI) ⟨[.ref x], []⟩) (fun fl s' => match fl with | .ret v => Q v s' | _ => False) ⟨h, gn, d, t, os⟩ := by
  refine code_mth (binds := [(Str.ofString "self", .ref x)]) hf lim F S (fun _ _ _ => rfl) rfl (fun L cd A' h1 t1 hf1 S1 => ?_) rfl rfl rfl rfl
  have tk := H.tak
  refine x_cons (x_asgA (e_list0 S1 fun D1 h2 S2 => e_loc0 S2 rfl (o_setattr H (tk _ (by simp)).1 S2 2 rfl (S2.at 3 rfl) (by simp) fun h3 t3 S3 => ?_)))
  refine x_cons (x_asgA (e_list0 S3 fun D2 h4 S4 => e_loc0 S4 rfl (o_setattr H (tk _ (by simp)).1 S4 3 rfl (S4.at 4 rfl) (by simp [putA]) fun h5 t5 S5 => ?_)))
  refine x_cons (x_asgA (e_none (e_loc0 S5 rfl (o_setattr H (tk _ (by simp)).1 S5 3 rfl (S5.at 4 rfl) (by simp [putA, ofs_inj]) fun h6 t6 S6 => ?_))))
  refine x_cons (x_asgA (e_none (e_loc0 S6 rfl (o_setattr H (tk _ (by simp)).1 S6 3 rfl (S6.at 4 rfl) (by simp [putA, ofs_inj]) fun h7 t7 S7 => wpAny_execs_nil ?_))))
  have e : putA (Str.ofString "req_rate") Value.none (putA (Str.ofString "delay") Value.none (putA (Str.ofString "rulelines") (.ref D2) (putA (Str.ofString "useragents") (.ref D1) []))) = [(Str.ofString "useragents", .ref D1), (Str.ofString "rulelines", .ref D2), (Str.ofString "delay", .none), (Str.ofString "req_rate", .none)] := by
    simp [putA, ofs_inj]
  refine q D1 D2 h7 t7 ?_
  rw [← e]
  exact S7.sub ((((List.Sublist.refl _).cons _).cons _).cons _)

theorem fine_tc {A : Around} {n : Nat} {C : Addr} (f : Fine A (n + 1)) : Fine (A.under (.builtin "type.__call__" ⟨[.ref C], []⟩)) n :=
  ⟨f.1, by have := f.2.1; show A.depth + 1 + n < _; omega, by have := f.2.2; show A.units + 1 + 4 * n < _; omega⟩
theorem entry_new {n : Nat} {Q : Value → Shared → Prop} (hf : Fine A (n + 3)) (lim : g.NoLimit) (H : Cls g K C fI fA) (F : IsMth g 0 fI) (S : St g es h)
    (q : ∀ x dx D1 D2 h' t', St g ((dx, isD [(Str.ofString "useragents", .ref D1), (Str.ofString "rulelines", .ref D2), (Str.ofString "delay", .none), (Str.ofString "req_rate", .none)]) :: (x, isInst C dx) :: es) h' → Q (.ref x) ⟨h', gn, d, t', os⟩) :
    Ok w A (call (.ref C) []) Q ⟨h, gn, d, t, os⟩ := by
  have X : K.In h := H.In.keeps S.ext
  refine ok_call (make_core (makes_of X H.made) (looks_findIn X H.init) (fun self => bind_fn X self H.initT) (.inl rfl) ?_)
  have S1 : St g ((h.objs.size, isD []) :: (h.objs.size + 1, isInst C h.objs.size) :: es) ((h.push emptyDict).push (instObj C h.objs.size)) := by
    have S2 := S.cons (P := isD []) (get_size h) (Ext.push _ emptyDict) ⟨_, Heap.get?_push_size _ rfl, [], 0, rfl, .nil⟩
    have S3 := S2.second (a := h.objs.size + 1) (P := isInst C h.objs.size) (get_big _ (by rw [Heap.size_push]; exact Nat.le_refl _)) (Ext.push _ (instObj C h.objs.size)) ⟨_, by
      have := Heap.get?_push_size (h.push emptyDict) (o := instObj C h.objs.size) rfl
      rwa [Heap.size_push] at this, rfl⟩
    exact S3
  refine codeAny_mono (init_code (n := n) (fine_tc hf) lim H F S1 (Q := fun v s' => v = .none ∧ Q (.ref (h.objs.size + 1)) s') fun D1 D2 h' t' S' => ⟨rfl, q _ _ _ _ _ _ S'⟩) fun r s' z => ?_
  rcases r with e | (v | _ | _ | _) <;> first | exact z | exact z.elim
end
end Mine
end

section
open PySem PySem.W PySem.W.X PyProof.Rows
set_option Elab.async false
set_option maxRecDepth 100000
set_option linter.unusedSimpArgs false
namespace Mine

def lamE : Expr := match (forBody 12 3).getD 1 (.Pass default) with | .Assign _ e _ => e | _ => default
def lpar : Arguments := match lamE with | .Lambda a _ _ _ => a | _ => default
def lbody : Expr := match lamE with | .Lambda _ b _ _ => b | _ => default
def lscope : Scope := match lamE with | .Lambda _ _ s _ => s | _ => default
def lpos : Pos := match lamE with | .Lambda _ _ _ p => p | _ => default
def lqual : Str := fname 12 ++ Str.ofString ".<locals>." ++ Str.ofString "<lambda>"

structure Lam0 (g : Heap) (f c Pl : Addr) : Prop where
  ob : ∃ o pm doc, g.get? f = some o ∧ o.data = .func (Calls.docDef (fname 12) (fargs 12) (fbody 12) (fscope 12) pm (.ref c) doc)
  hd : CodeHd g c Pl
  bm : ∃ mg, g.Ns mainGlobals mg ∧ g.BuiltinsAt mg Pl
  ne : mainGlobals ≠ Pl
theorem Lam0.ext {g g' : Heap} {f c Pl : Addr} (x : Lam0 g f c Pl) (e : Ext g g') : Lam0 g' f c Pl :=
  ⟨let ⟨o, pm, doc, a, b⟩ := x.ob; ⟨o, pm, doc, e _ _ a, b⟩, x.hd.keeps e, let ⟨mg, a, b⟩ := x.bm; ⟨mg, a.keeps e, b.keeps e⟩, x.ne⟩

def isTab (g : Heap) : Obj → Prop := fun o => ∃ ps, o = tabObj ps ∧ TriplesOk ps.toList ∧ (codeAmong lpos ps.toList = none ∨ ∃ c', codeAmong lpos ps.toList = some (.ref c') ∧ g.CodeRec (.ref c') lqual)
/-- a lambda of _law_rules whose cell holds v -/
def LamAt (g : Heap) (f cell : Addr) : Prop := ∃ pm ctv cd, g.get? f = some { cls := .type "function", data := .func (kla_fn (Str.ofString "<lambda>") lqual lpar lbody lscope [(Str.ofString "down", cell)] pm cd ctv) } ∧ g.CodeRec cd lqual
theorem LamAt.ext {g g' : Heap} {f cell : Addr} (x : LamAt g f cell) (e : Ext g g') : LamAt g' f cell :=
  let ⟨pm, ctv, cd, a, b⟩ := x; ⟨pm, ctv, cd, e _ _ a, b.keeps e⟩

theorem St.setE {g h h' : Heap} {e0 : Ent} {a : Addr} {P P' : Obj → Prop} {R : List Ent} (S : St g (e0 :: (a, P) :: R) h) (x : Heap.ExtBut a h h') (p : Pt h' a P') : St g (e0 :: (a, P') :: R) h' := by
  have S1 := S.lose x
  refine ⟨S1.ext, fun e he => ?_, S.nd, fun e he => ?_⟩
  · rcases List.mem_cons.mp he with rfl | he
    · exact S1.pts _ (by simp)
    · rcases List.mem_cons.mp he with rfl | he
      · exact p
      · exact S1.pts _ (by simp [he])
  · rcases List.mem_cons.mp he with rfl | he
    · exact S.new _ (by simp)
    · rcases List.mem_cons.mp he with rfl | he
      · exact S.new (a, P) (by simp)
      · exact S.new _ (by simp [he])
/-- after a step that keeps all but the table: what is new is laid among what stays -/
theorem St.born {g h h' : Heap} {es es' : List Ent} (S : St g es h) (S' : St g es' h') (ea : es'.map (·.1) = es.map (·.1)) : ∃ g', St g' es' h' ∧ Ext g g' ∧ ∀ b o, h.objs.size ≤ b → h'.get? b = some o → g'.get? b = some o := by
  obtain ⟨g', S1, x1, _, z⟩ := S'.rebase
  refine ⟨g', S1, x1, fun b o hb e => z b o e fun hm => ?_⟩
  rw [ea] at hm
  obtain ⟨e', he', rfl⟩ := List.mem_map.mp hm
  exact (S.pts e' he').not_none (get_big h hb)

section
variable {w : World} {A : Around} {g h : Heap} {es R : List Ent} {gn : Array GenState} {d : Drawn} {t : Nat} {os : OsState} {L f c Pl cell : Addr} {env : Env}
theorem e_ifexp {test body orelse : Expr} {pos : Pos} {s : Shared} {Q : Value → Shared → Prop} (q : Ok w A (isTrue test env (eval test env)) (fun b s₁ => if b = true then Ok w A (eval body env) Q s₁ else Ok w A (eval orelse env) Q s₁) s) : Ok w A (eval (.IfExp test body orelse pos) env) Q s := wpAny_IfExp q
theorem e_lam {e0 : Ent} {Q : Value → Shared → Prop} (Y : Lam0 g f c Pl) (S : St g (e0 :: (Pl, isTab g) :: R) h)
    (q : ∀ k g' h' t', Ext g g' → LamAt g' k cell → St g' (e0 :: (Pl, isTab g') :: R) h' → Q (.ref k) ⟨h', gn, d, t', os⟩)
    (hq : env.qual ++ "<lambda>" = lqual) (hcl : closureFor lscope env = pure [(Str.ofString "down", cell)]) (hge : env.globals = mainGlobals) (hcode : env.code = .ref c) (hdef : defaultsOf lpar env = ([], [])) :
    Ok w A (eval (.Lambda lpar lbody lscope lpos) env) Q ⟨h, gn, d, t, os⟩ := by
  obtain ⟨_, hP, ps, rfl, ht, hcase⟩ := S.at 1 rfl
  obtain ⟨mg, hmg, hb⟩ := Y.bm
  refine kla_eval hdef ?_
  rw [hq]
  rcases hcase with hn | ⟨c', hc', hrec⟩
  · refine kla_makeFunction (s := ⟨h, gn, d, t, os⟩) hcl hge (hmg.keeps S.ext) hcode (Y.hd.keeps S.ext) hP ht hn Y.ne (hb.keeps S.ext) fun c' ctv h' tk hx hge' hlt hrec hP' => ?_
    obtain ⟨c₁, oc, vs, tt, e1, e2, e3, e4⟩ := hrec
    cases e1
    have hsz : h.objs.size ≤ h'.objs.size := Nat.le_trans hge' (Nat.le_of_lt hlt)
    have S2 : St g (e0 :: (Pl, fun o => o = tabObj (ps ++ #[rawInt lpos.line, rawInt lpos.col, .ref c'])) :: R) (h'.push (kla_obj (Str.ofString "<lambda>") lqual lpar lbody lscope [(Str.ofString "down", cell)] ((mg "__name__").getD .none) c' ctv)) :=
      (S.setE (P' := fun o => o = tabObj (ps ++ #[rawInt lpos.line, rawInt lpos.col, .ref c'])) hx ⟨_, hP', rfl⟩).grow (Ext.push _ _)
    obtain ⟨g', S3, X3, z⟩ := S.born S2 rfl
    have rec' : g'.CodeRec (.ref c') lqual := ⟨c', oc, vs, tt, rfl, z c' oc hge' (Heap.get?_push_of_some _ e2), e3, e4⟩
    refine q h'.objs.size g' _ _ X3 ⟨_, ctv, .ref c', z _ _ hsz (Heap.get?_push_size _ rfl), rec'⟩ (S3.weak 1 rfl ?_)
    rintro o rfl
    refine ⟨_, rfl, ?_, .inr ⟨c', ?_, rec'⟩⟩
    · simpa using TriplesOk_snoc lpos.line lpos.col (.ref c') ps.toList ht
    · simpa using codeAmong_snoc (pos := lpos) (c := .ref c') ps.toList ht hn
  · refine kla_makeFunctionHit (s := ⟨h, gn, d, t, os⟩) hcl hge (hmg.keeps S.ext) hcode (Y.hd.keeps S.ext) hP ht hc' (hb.keeps S.ext) fun ctv h' tk hk hsz => ?_
    have S2 : St g (e0 :: (Pl, isTab g) :: R) (h'.push { cls := .type "function", data := .func (kla_fn (Str.ofString "<lambda>") lqual lpar lbody lscope [(Str.ofString "down", cell)] ((mg "__name__").getD .none) (.ref c') ctv) }) := (S.grow hk).grow (Ext.push _ _)
    obtain ⟨g', S3, X3, z⟩ := S.born S2 rfl
    refine q h'.objs.size g' _ _ X3 ⟨_, ctv, .ref c', z _ _ hsz (Heap.get?_push_size _ rfl), hrec.keeps X3⟩ (S3.weak 1 rfl ?_)
    rintro o ⟨ps, h1, h2, h3⟩
    exact ⟨ps, h1, h2, h3.imp id fun ⟨c, a, b⟩ => ⟨c, a, b.keeps X3⟩⟩

/-- calling such a lambda -/
theorem lam_call {n : Nat} {a : Str} {ta u : Tok} {v : Int} {Q : Value → Shared → Prop} (hf : Fine A (n + 1)) (lim : g.NoLimit) (F : LamAt g f cell) (hc : Pt g cell (isCell (some (.int v u)))) (S : St g es h)
    (q : ∀ h' u t', St g es h' → Q (.int (if a = Str.ofString "/A%2F" then v else 0) u) ⟨h', gn, d, t', os⟩) : Ok w A (call (.ref f) [.str a ta]) Q ⟨h, gn, d, t, os⟩ := by
  obtain ⟨pm, ctv, cd, F1, F3⟩ := F
  refine ok_call (kla_callFunE (s := ⟨h, gn, d, t, os⟩) (body := lbody) hf.room (S.ext _ _ F1) rfl rfl rfl rfl (F3.keeps S.ext) ?_)
  have hb : bindArgs (kla_fn (Str.ofString "<lambda>") lqual lpar lbody lscope [(Str.ofString "down", cell)] pm cd ctv) ⟨[.str a ta], []⟩ = pure [(Str.ofString "name", .str a ta)] := by rfl
  rw [hb]
  refine wpAny_pure (wpAny_newFunctionEnv (show ∀ x ∈ lscope.names, x.2 ≠ .cell by decide) (by intro y hy; rw [List.mem_singleton] at hy; subst hy; rfl) (fun h₁ hns hsb => ⟨(lim.keeps S.ext).fresh _ hsb, ?_⟩) rfl)
  have X1 : Ext h h₁ := fun b o e => hsb.extBut b o (Nat.ne_of_lt (Heap.lt_size e)) (Heap.get?_push_of_some _ e)
  have S1 := S.cons (get_size h) X1 (ns_iff.mpr hns)
  refine kla_codeExpr (ok_of ?_)
  refine e_ifexp (t_cmp (e_loc0 S1 rfl (e_str fun u2 t2 => o_seq (t_bool ?_))))
  have fin : ∀ u t', Q (.int (if a = Str.ofString "/A%2F" then v else 0) u) ⟨h₁, gn, d, t', os⟩ := fun u t' => q h₁ u t' (S1.sub ((List.Sublist.refl _).cons _))
  by_cases ca : a = Str.ofString "/A%2F"
  · rw [if_pos (beq_iff_eq.mpr ca)]
    rw [if_pos ca] at fin
    refine wpAny_Name (wpAny_loadName_free rfl rfl (c := cell) rfl (cell_iff.mp (hc.ext S1.ext)) ?_) rfl
    exact fin _ _
  · rw [if_neg (fun z => ca (beq_iff_eq.mp z))]
    rw [if_neg ca] at fin
    exact e_int fun u3 t3 => fin u3 t3
end
end Mine
end

section
open PySem PySem.W PySem.W.X PyProof.Rows
set_option Elab.async false
set_option maxRecDepth 100000
set_option linter.unusedSimpArgs false
namespace Mine

/-- a rule made by _law_rules -/
def RuleAt (g : Heap) (C : Addr) (v : Value) (dn : Int) (vd : Str) : Prop := ∃ x dx l k cell u tv, v = .ref x ∧ Pt g x (isInst C dx) ∧ Pt g dx (isD l) ∧ getA (Str.ofString "applies_to") l = some (.ref k) ∧ getA (Str.ofString "allowance") l = some (.str vd tv) ∧ LamAt g k cell ∧ Pt g cell (isCell (some (.int dn u)))
theorem RuleAt.ext {g g' : Heap} {C : Addr} {v : Value} {dn : Int} {vd : Str} (r : RuleAt g C v dn vd) (e : Ext g g') : RuleAt g' C v dn vd :=
  let ⟨x, dx, l, k, cell, u, tv, a, b, c, p, q, r, s⟩ := r; ⟨x, dx, l, k, cell, u, tv, a, b.ext e, c.ext e, p, q, r.ext e, s.ext e⟩
inductive RulesAre (g : Heap) (C : Addr) : List Value → List (Int × Str) → Prop
  | nil : RulesAre g C [] []
  | cons {v : Value} {dn : Int} {vd : Str} {vs rs} : RuleAt g C v dn vd → RulesAre g C vs rs → RulesAre g C (v :: vs) ((dn, vd) :: rs)
theorem RulesAre.ext {g g' : Heap} {C : Addr} {vs : List Value} {rs : List (Int × Str)} (r : RulesAre g C vs rs) (e : Ext g g') : RulesAre g' C vs rs := by
  induction r with
  | nil => exact .nil
  | cons a _ ih => exact .cons (a.ext e) ih
theorem RulesAre.append {g : Heap} {C : Addr} {vs ws : List Value} {rs qs : List (Int × Str)} (r : RulesAre g C vs rs) (q : RulesAre g C ws qs) : RulesAre g C (vs ++ ws) (rs ++ qs) := by
  induction r with
  | nil => exact q
  | cons a _ ih => exact .cons a ih
theorem RulesAre.len {g : Heap} {C : Addr} {vs : List Value} {rs : List (Int × Str)} (r : RulesAre g C vs rs) : vs.length = rs.length := by
  induction r with
  | nil => rfl
  | cons a _ ih => simp [ih]

section
variable {w : World} {A : Around} {g h : Heap} {es R : List Ent} {gn : Array GenState} {d : Drawn} {t : Nat} {os : OsState} {K : Frag} {C fI fA x dx L f c Pl cell : Addr} {m : Str → Option Value} {Q : Value → Shared → Prop} {env : Env} {pos p : Pos}
theorem e_newEntry {n : Nat} (hf : Fine A (n + 3)) (lim : g.NoLimit) (H : Cls g K C fI fA) (hk : keepIn K (.ref C) = true) (F : IsMth g 0 fI) (S : St g es h)
    (q : ∀ x dx D1 D2 h' t', St g ((dx, isD [(Str.ofString "useragents", .ref D1), (Str.ofString "rulelines", .ref D2), (Str.ofString "delay", .none), (Str.ofString "req_rate", .none)]) :: (x, isInst C dx) :: es) h' → Q (.ref x) ⟨h', gn, d, t', os⟩)
    (he : starEach [] env = [] := by rfl)
    (hg : env.globals = mainGlobals := by rfl) (hb : env.builtins = builtinsNs := by rfl) (hk : env.scope.kind = .function := by rfl) (hl : env.kindOf (Str.ofString "Entry") = some .globalImplicit := by rfl) :
    Ok w A (eval (.Call (.Name (Str.ofString "Entry") p) [] [] pos) env) Q ⟨h, gn, d, t, os⟩ :=
  wpAny_Call_NameR (e_glb S H.glb (callWith_K0 (s := ⟨h, gn, d, t, os⟩) (K := K) (H.In.keeps S.ext) (by assumption) (entry_new hf lim H F S q)) hg hb hk hl rfl)

/-- one turn of the loop of _law_rules -/
theorem rules_turn {n : Nat} {it D : Addr} {P : Obj → Prop} {vs : List Value} {vd : Str} {tv u : Tok} {dn : Int} {cd : Value} {Q : Flow → Shared → Prop} (hf : Fine A (n + 3)) (B : Base g) (H : Cls g K C fI fA) (hk : keepIn K (.ref C) = true) (F : IsMth g 0 fI) (Y : Lam0 g f c Pl) (hcd : cd = .ref c)
    (hcell : Pt g (L + 1) (isCell (some (.int dn u)))) (hlen : vs.length ≤ 10) (hm1 : m (Str.ofString "rules") = some (.ref D)) (hm2 : m (Str.ofString "verdict") = some (.str vd tv))
    (S : St g ((L, isNs m) :: (Pl, isTab g) :: (it, P) :: (D, isLst vs) :: es) h)
    (q : ∀ g' v m' h' t', Ext g g' → RuleAt g' C v dn vd → m' (Str.ofString "rules") = some (.ref D) → St g' ((L, isNs m') :: (Pl, isTab g') :: (it, P) :: (D, isLst (vs ++ [v])) :: es) h' → Q .next ⟨h', gn, d, t', os⟩) :
    Ok w A (execs (forBody 12 3) (envOfC (fname 12) (fscope 12) L f cd)) Q ⟨h, gn, d, t, os⟩ := by
  subst hcd
  refine x_cons (x_asg (e_newEntry (pos := _) hf B.lim H hk F S fun x dx D1 D2 h2 t2 S2 => ?_))
  have S3 : St g ((L, isNs m) :: (Pl, isTab g) :: (dx, isD [(Str.ofString "useragents", .ref D1), (Str.ofString "rulelines", .ref D2), (Str.ofString "delay", .none), (Str.ofString "req_rate", .none)]) :: (x, isInst C dx) :: (it, P) :: (D, isLst vs) :: es) h2 :=
    S2.perm (List.perm_append_comm_assoc [(dx, isD _), (x, isInst C dx)] [(L, isNs m), (Pl, isTab g)] ((it, P) :: (D, isLst vs) :: es))
  refine s_loc0 S3 fun h4 t4 S4 => ?_
  have tk := H.tak
  refine x_cons (x_asgA (e_lam (cell := L + 1) Y S4 (fun k g5 h5 t5 X5 F5 S5 => e_loc0 S5 (v := .ref x) (by simp [upd]) (o_setattr (H.ext X5) (tk _ (by simp)).1 S5 2 rfl (S5.at 3 rfl) (by simp) fun h6 t6 S6 => ?_)) rfl rfl rfl rfl rfl))
  refine x_cons (x_asgA (e_loc0 S6 (v := .str vd tv) (by simp [upd, ofs_inj, hm2]) (e_loc0 S6 (v := .ref x) (by simp [upd]) (o_setattr (H.ext X5) (tk _ (by simp)).1 S6 2 rfl (S6.at 3 rfl) (by simp [putA, ofs_inj]) fun h7 t7 S7 => ?_))))
  refine x_cons (x_expr (e_append S7 5 rfl (fun Q q => e_loc0 S7 (v := .ref D) (by simp [upd, ofs_inj, hm1]) q) (e_loc0 S7 (v := .ref x) (by simp [upd]) (o_append S7 5 rfl (k_le_line (by omega)) fun h8 S8 => wpAny_execs_nil ?_))))
  have S8 : St g5 ((L, isNs (upd m (Str.ofString "rule") (.ref x))) :: (Pl, isTab g5) :: (dx, isD _) :: (x, isInst C dx) :: (it, P) :: (D, isLst (vs ++ [.ref x])) :: es) h8 := S8
  obtain ⟨g9, S9, X9, P9⟩ := S8.freeze (a := dx) (List.perm_middle (l₁ := [_, _]))
  obtain ⟨g10, S10, X10, P10⟩ := S9.freeze (a := x) (List.perm_middle (l₁ := [_, _]))
  have X := (X5.trans X9).trans X10
  refine q g10 (.ref x) _ h8 _ X ⟨x, dx, _, k, L + 1, u, tv, rfl, P10, P9.ext X10, ?_, ?_, F5.ext (X9.trans X10), hcell.ext X⟩ (by simp [upd, ofs_inj, hm1]) (S10.weak 1 rfl ?_)
  · simp [putA, getA, ofs_inj]
  · simp [putA, getA, ofs_inj]
  · rintro o ⟨ps, h1, h2, h3⟩
    exact ⟨ps, h1, h2, h3.imp id fun ⟨c, a, b⟩ => ⟨c, a, b.keeps (X9.trans X10)⟩⟩
end
end Mine
end

section
open PySem PySem.W PySem.W.X PyProof.Rows
set_option Elab.async false
set_option maxRecDepth 100000
set_option linter.unusedSimpArgs false
namespace Mine

def rulesF (ns : List Int) (ch : Int) : List (Int × Str) := ([Str.ofString "", Str.ofString (toString ((partL ns ch 1 4).length : Int))].take (2 - (partL ns ch 1 4).length / 4)).map fun v => (0 - (partL ns ch 1 4).sum, v)

section
variable {w : World} {A : Around} {g h : Heap} {es R : List Ent} {gn : Array GenState} {d : Drawn} {t : Nat} {os : OsState} {K : Frag} {C fI fA x dx L f c Pl cell : Addr} {m : Str → Option Value} {env : Env} {pos p : Pos}

theorem call_fnCd {Q : Value → Shared → Prop} {k n : Nat} {f : Addr} {cd : Value} {args : List Value} {binds : List (Str × Value)} (hf : Fine A (n + 1)) (lim : g.NoLimit) (F : ∃ o pm doc, g.get? f = some o ∧ o.data = .func (Calls.docDef (fname k) (fargs k) (fbody k) (fscope k) pm cd doc)) (F3 : g.CodeRec cd (fname k)) (S : St g es h)
    (hbind : ∀ pm cd doc, bindArgs (Calls.docDef (fname k) (fargs k) (fbody k) (fscope k) pm cd doc) ⟨args, []⟩ = pure binds)
    (hloc : ∀ L, ∀ x ∈ binds, (fscope k).names.lookup x.1 = some .local ∨ ((fscope k).names.lookup x.1 = some .cell ∧ ((cellsFrom (L + 1) (fscope k).names []).lookup x.1).isSome = true))
    (hnd : ∀ L, ((cellsFrom L (fscope k).names []).map (·.1)).Nodup)
    (q : ∀ L A' h' t', Fine A' n → St g ((L, isNs (bindL (envOfC (fname k) (fscope k) L f cd).kindOf binds fun _ => none)) :: (cellEnts (cellsFrom (L + 1) (fscope k).names []) (bindC (envOfC (fname k) (fscope k) L f cd).kindOf binds fun _ => none) ++ es)) h' →
      Ok w A' (execs (fbody k) (envOfC (fname k) (fscope k) L f cd)) (fun fl s' => Q (match fl with | .ret v => v | _ => .none) s') ⟨h', gn, d, t', os⟩)
    (hco : (fscope k).isCoroutine = false) (hgen : (fscope k).isGenerator = false) (hk : (fscope k).kind = .function) :
    Ok w A (call (.ref f) args) Q ⟨h, gn, d, t, os⟩ := by
  obtain ⟨o, pm, doc, F1, F2⟩ := F
  refine ok_call (call_cells_ret (s := ⟨h, gn, d, t, os⟩) hf.room (S.ext _ _ F1) F2 (lim.keeps S.ext) (F3.keeps S.ext) (hbind pm cd doc) (hloc _) (fun h₁ tk Fr₁ X => ?_) hco hgen hk)
  refine q h.objs.size _ h₁ _ (hf.deeper _) ?_
  refine S.adds Fr₁.keep ((h.objs.size, isNs _) :: cellEnts _ _) ?_ ?_
  · intro e he
    rcases List.mem_cons.mp he with rfl | he
    · exact ⟨get_size h, ns_iff.mpr Fr₁.ns⟩
    · obtain ⟨⟨n, c⟩, hx, rfl⟩ := List.mem_map.mp he
      exact ⟨get_big h (Nat.le_of_lt (X.above n c hx)), cell_iff.mpr (X.cell n c (lookup_of_mem_nodup (hnd _) hx))⟩
  · show (h.objs.size :: (cellEnts _ _).map (·.1)).Nodup
    have e : ∀ (cs : List (Str × Addr)) cm, (cellEnts cs cm).map (·.1) = cs.map (·.2) := by intro cs cm; unfold cellEnts; rw [List.map_map]; rfl
    rw [e, List.nodup_cons]
    constructor
    · intro hm
      obtain ⟨⟨n, c⟩, hx, rfl⟩ := List.mem_map.mp hm
      exact Nat.lt_irrefl _ (X.above n _ hx)
    · unfold List.Nodup
      rw [List.pairwise_map]
      exact X.apart

theorem rules_loop {n : Nat} {it D D' : Addr} {us : List Value} {vds : List Str} {u : Tok} {dn : Int} {px : Pos} {Q : Flow → Shared → Prop} (hf : Fine A (n + 3)) (hk : keepIn K (.ref C) = true) (hu : StrsAre us vds) (hl2 : us.length ≤ 2) :
    ∀ (k i : Nat) (g : Heap) (m : Str → Option Value) (h : Heap) (t : Nat) (vs : List Value) (rs : List (Int × Str)), i + k = us.length → Base g → Cls g K C fI fA → IsMth g 0 fI → Lam0 g f c Pl → Pt g (L + 1) (isCell (some (.int dn u))) → g.IsList D' us.toArray →
      m (Str.ofString "rules") = some (.ref D) → RulesAre g C vs rs → vs.length = i → St g ((L, isNs m) :: (it, isLIt D' i) :: (Pl, isTab g) :: (D, isLst vs) :: es) h →
      (∀ g' m' ws h' t', Ext g g' → m' (Str.ofString "rules") = some (.ref D) → RulesAre g' C ws (rs ++ (vds.drop i).map fun v => (dn, v)) → St g' ((L, isNs m') :: (Pl, isTab g') :: (D, isLst ws) :: es) h' → Q .next ⟨h', gn, d, t', os⟩) →
      OkC w A (.forLoop (.Name (Str.ofString "verdict") px) (.ref it) (forBody 12 3) [] (envOfC (fname 12) (fscope 12) L f (.ref c))) Q ⟨h, gn, d, t, os⟩ := by
  intro k
  induction k with
  | zero =>
    intro i g m h t vs rs e B H F Y hcell hl hm hr hvl S q
    obtain rfl : i = us.length := by omega
    refine lp_turn ((iter_list hl).done hf.1 S fun h' S' => wpAny_execs_nil ?_)
    have e1 : vds.drop us.length = [] := by rw [strs_len hu]; simp
    exact q g m vs h' t (Ext.refl g) hm (by rw [e1]; simpa using hr) S'
  | succ k ih =>
    intro i g m h t vs rs e B H F Y hcell hl hm hr hvl S q
    refine lp_turn ((iter_list hl).next (by omega) S fun v h' t' hv S' => ?_)
    obtain ⟨y, tv, hy, rfl⟩ := strs_get hu hv
    refine wpAny_of_eq (by rfl) (a_loc0 S' (fun h2 t2 S2 => ?_) rfl rfl rfl)
    have S3 : St g ((L, isNs (upd m (Str.ofString "verdict") (.str y tv))) :: (Pl, isTab g) :: (it, isLIt D' (i + 1)) :: (D, isLst vs) :: es) h2 := S2.perm (.cons _ (.swap _ _ _))
    refine rules_turn (vd := y) (tv := tv) hf B H hk F Y rfl hcell (by omega) (by simp [upd, ofs_inj, hm]) (by simp [upd]) S3 fun g4 v4 m4 h4 t4 X4 R4 hm4 S4 => ?_
    have S5 := S4.perm (.cons _ (.swap _ _ _))
    refine ih (i + 1) g4 m4 h4 t4 (vs ++ [v4]) (rs ++ [(dn, y)]) (by omega) (B.ext X4) (H.ext X4) (F.ext X4) (Y.ext X4) (hcell.ext X4) (IsList.ext hl X4) hm4 ((hr.ext X4).append (.cons R4 .nil)) (by simp [hvl]) S5 ?_
    intro g' m' ws h' t' X hm' hr' S'
    refine q g' m' ws h' t' (X4.trans X) hm' ?_ S'
    have e2 : vds.drop i = y :: vds.drop (i + 1) := by
      have hlt : i < vds.length := by rw [← strs_len hu]; omega
      rw [List.drop_eq_getElem_cons hlt]
      congr 1
      rw [List.getElem?_eq_getElem hlt] at hy
      exact Option.some.inj hy
    rw [e2, List.map_cons]
    simpa using hr'
end
end Mine
end

section
open PySem PySem.W PySem.W.X PyProof.Rows
set_option Elab.async false
set_option maxRecDepth 100000
set_option linter.unusedSimpArgs false
namespace Mine
section
variable {w : World} {A : Around} {g h : Heap} {es R : List Ent} {gn : Array GenState} {d : Drawn} {t : Nat} {os : OsState} {K : Frag} {C fI fA x dx L f c Pl cell : Addr} {m : Str → Option Value} {env : Env} {pos p : Pos} {Q : Value → Shared → Prop}
set_option maxHeartbeats 1000000 in
theorem rules_fn {n : Nat} {G : Addr} {vs : List Value} {ns : List Int} {ch : Int} {uc : Tok} (hf : Fine A (n + 5)) (B : Base g) (H : Cls g K C fI fA) (hk : keepIn K (.ref C) = true) (F0 : IsMth g 0 fI) (Y : Lam0 g f c Pl) (F : IsFn g 12 f) (hl : g.IsList G vs.toArray) (hi : IntsAre vs ns) (hz : ns.length = 4)
    (S : St g ((Pl, isTab g) :: es) h)
    (q : ∀ g' D ws h' t', Ext g g' → RulesAre g' C ws (rulesF ns ch) → g'.IsList D ws.toArray → St g' ((Pl, isTab g') :: es) h' → Q (.ref D) ⟨h', gn, d, t', os⟩) : Ok w A (call (.ref f) [.ref G, .int ch uc]) Q ⟨h, gn, d, t, os⟩ := by
  have F3 : g.CodeRec (.ref c) (fname 12) := by
    obtain ⟨o, pm, cd, doc, F1, F2, F3⟩ := F
    obtain ⟨o', pm', doc', Y1, Y2⟩ := Y.ob
    rw [F1] at Y1
    cases Y1
    rw [F2] at Y2
    cases Y2
    exact F3
  refine call_fnCd (cd := .ref c) (binds := [(Str.ofString "ups", .ref G), (Str.ofString "chosen", .int ch uc)]) hf B.lim Y.ob F3 S (fun _ _ _ => rfl) (fun L x hx => ?_) (fun L => ?_) (fun L A' h1 t1 hf1 S1 => ?_) rfl rfl rfl
  · left
    simp only [List.mem_cons, List.not_mem_nil, or_false] at hx
    rcases hx with rfl | rfl <;> rfl
  · show [Str.ofString "down"].Nodup
    simp
  have S1 : St g ((L, isNs _) :: (L + 1, isCell none) :: (Pl, isTab g) :: es) h1 := S1
  obtain ⟨m1, hm1⟩ : ∃ m : Str → Option Value, bindL (envOfC (fname 12) (fscope 12) L f (.ref c)).kindOf [(Str.ofString "ups", .ref G), (Str.ofString "chosen", .int ch uc)] (fun _ => none) = m := ⟨_, rfl⟩
  have hu : m1 (Str.ofString "ups") = some (.ref G) := by rw [← hm1]; rfl
  have hc : m1 (Str.ofString "chosen") = some (.int ch uc) := by rw [← hm1]; rfl
  rw [hm1] at S1
  have Gs := B.blt (Str.ofString "sum", .builtin "sum") (by simp [bltins])
  have Gl := B.blt (Str.ofString "len", .builtin "len") (by simp [bltins])
  have Gt := B.blt (Str.ofString "str", .type "str") (by simp [bltins])
  obtain ⟨f10, Gf10, F10⟩ := B.fn 10 (by decide)
  have p1 := part_len ns ch 1
  -- inside
  refine x_cons (x_asg (e_gF3 S1 Gf10 F10 (e_loc0 S1 hu (e_loc0 S1 hc (e_int fun u2 t2 => ⟨S1.ext, part_fn hf1 B F10 hl hi hz S1 fun D0 vs0 h3 t3 hi0 S3 => ?_⟩)))))
  have S3 : St g ((L, isNs m1) :: (L + 1, isCell none) :: (D0, isLst vs0) :: (Pl, isTab g) :: es) h3 := S3.perm ((List.perm_middle (l₁ := [(L, isNs m1), (L + 1, isCell none)]) (a := (D0, isLst vs0))).symm)
  have hl0 := ints_len hi0
  refine s_loc0 S3 fun h4 t4 S4 => ?_
  have hin : upd m1 (Str.ofString "inside") (.ref D0) (Str.ofString "inside") = some (.ref D0) := by simp [upd]
  -- down
  refine x_cons (x_asg (e_bin (e_int fun u5 t5 => e_gB S4 Gs (e_loc0 S4 hin (o_sum hf1.1 (IsLst.toIsList (S4.at 2 rfl)) hi0 fun h6 u6 t6 X6 => o_sub fun u7 t7 => ?_)))))
  have S6 := S4.grow X6
  refine s_cell S6 1 rfl rfl (fun h8 S8 => ?_)
  have S8 : St g ((L, isNs (upd m1 (Str.ofString "inside") (.ref D0))) :: (L + 1, isCell (some (.int (0 - (partL ns ch 1 4).sum) u7))) :: (D0, isLst vs0) :: (Pl, isTab g) :: es) h8 := S8
  -- rules
  refine x_cons (x_asg (e_list0 S8 fun D h9 S9 => s_loc0 S9 fun h10 t10 S10 => ?_))
  have S10 : St g ((L, isNs _) :: (D, isLst []) :: (L + 1, isCell (some (.int (0 - (partL ns ch 1 4).sum) u7))) :: (D0, isLst vs0) :: (Pl, isTab g) :: es) h10 := S10
  have hin2 : upd (upd m1 (Str.ofString "inside") (.ref D0)) (Str.ofString "rules") (.ref D) (Str.ofString "inside") = some (.ref D0) := by simp [upd, ofs_inj]
  refine x_cons (x_for (e_sub (e_list2 (e_str fun u11 t11 => e_gT S10 Gt (e_gB S10 Gl (e_loc0 S10 hin2 (o_lenL (IsLst.toIsList (S10.at 3 rfl)) (by omega) fun u12 t12 => o_strI (by omega) fun u13 t13 => newL S10 fun D1 h14 S14 => ?_)))))))
  have S14 : St g ((L, isNs _) :: (D1, isLst [.str (Str.ofString "") u11, .str (Str.ofString (toString (vs0.length : Int))) u13]) :: (D, isLst []) :: (L + 1, isCell (some (.int (0 - (partL ns ch 1 4).sum) u7))) :: (D0, isLst vs0) :: (Pl, isTab g) :: es) h14 := S14
  refine e_slice (p_none (p_some (e_bin (e_int fun u15 t15 => e_bin (e_gB S14 Gl (e_loc0 S14 hin2 (o_lenL (IsLst.toIsList (S14.at 4 rfl)) (by omega) fun u16 t16 => e_int fun u17 t17 => o_fdiv (by decide) (by decide) fun u18 t18 => o_sub fun u19 t19 => p_none ?_)))))))
  have hk2 : (2 : Int) - Int.fdiv (vs0.length : Int) 4 = ((2 - vs0.length / 4 : Nat) : Int) := by
    rw [Int.fdiv_eq_ediv_of_nonneg _ (by decide)]
    omega
  rw [hk2]
  refine ⟨_, _, _, _, _, _, _, _, _, rfl, IsLst.toIsList (S14.at 1 rfl), by simp, .none, .int _ _, .none, by simp, fun D2 h20 hn20 X20 P20 => ?_⟩
  rw [slicePick_upto'] at P20
  have S20 := S14.second hn20 X20 P20
  obtain ⟨g1, S21, X21, P21⟩ := S20.freeze (List.perm_middle (l₁ := [_]))
  obtain ⟨g2, S22, X22, P22⟩ := S21.freeze (a := L + 1) (List.perm_middle (l₁ := [_, _, _]))
  have X2 := X21.trans X22
  have hus : StrsAre ([Value.str (Str.ofString "") u11, .str (Str.ofString (toString (vs0.length : Int))) u13].take (2 - vs0.length / 4)) ([Str.ofString "", Str.ofString (toString (vs0.length : Int))].take (2 - vs0.length / 4)) := by
    have : vs0.length / 4 = 0 ∨ vs0.length / 4 = 1 := by omega
    rcases this with e | e <;> rw [e]
    · exact .cons _ _ (.cons _ _ .nil)
    · exact .cons _ _ .nil
  have hL2 := IsLst.toIsList (P21.ext X22)
  refine i_list hL2 S22 fun it h23 S23 => ?_
  have S24 : St g2 ((L, isNs _) :: (it, isLIt D2 0) :: (Pl, isTab g) :: (D, isLst []) :: (D1, isLst _) :: (D0, isLst vs0) :: es) h23 := S23.perm (.cons _ (.cons _ (by
    refine (List.Perm.swap (D, isLst []) (D1, isLst [.str (Str.ofString "") u11, .str (Str.ofString (toString (vs0.length : Int))) u13]) ((D0, isLst vs0) :: (Pl, isTab g) :: es)).trans ?_
    exact List.perm_middle (l₁ := [(D, isLst []), (D1, isLst [.str (Str.ofString "") u11, .str (Str.ofString (toString (vs0.length : Int))) u13]), (D0, isLst vs0)]))))
  have S25 := S24.weak (P' := isTab g2) 2 rfl (by
    rintro o ⟨ps, h1, h2, h3⟩
    exact ⟨ps, h1, h2, h3.imp id fun ⟨c, a, b⟩ => ⟨c, a, b.keeps X2⟩⟩)
  refine rules_loop (n := n + 1) (D := D) (u := u7) (dn := 0 - (partL ns ch 1 4).sum) hf1 hk hus (by rw [List.length_take]; simp) _ 0 g2 _ h23 _ [] [] (Nat.zero_add _) (B.ext X2) (H.ext X2) (F0.ext X2) (Y.ext X2) P22 (by simpa using hL2) (by simp [upd, ofs_inj]) .nil rfl S25 ?_
  intro g3 m3 ws h26 t26 X3 hm3 hr3 S26
  refine x_cons (x_ret (e_loc0 S26 hm3 ?_))
  obtain ⟨g4, S27, X4, P27⟩ := S26.freeze (a := D) (List.perm_middle (l₁ := [_, _]))
  refine q g4 D ws h26 _ (X2.trans (X3.trans X4)) ?_ (IsLst.toIsList P27) ?_
  · have e : rulesF ns ch = [] ++ (([Str.ofString "", Str.ofString (toString (vs0.length : Int))].take (2 - vs0.length / 4)).drop 0).map fun v => (0 - (partL ns ch 1 4).sum, v) := by
      rw [hl0]; rfl
    rw [e]
    exact hr3.ext X4
  · refine ((S27.sub (((List.Sublist.refl (_ :: _)).cons _))).sub (List.Sublist.cons_cons _ ?_)).weak (P' := isTab g4) 0 rfl (by
      rintro o ⟨ps, h1, h2, h3⟩
      exact ⟨ps, h1, h2, h3.imp id fun ⟨c, a, b⟩ => ⟨c, a, b.keeps X4⟩⟩)
    exact ((List.Sublist.refl _).cons _).cons _
end
end Mine
end

section
open PySem PySem.W PySem.W.X PyProof.Rows
set_option Elab.async false
set_option maxRecDepth 100000
set_option linter.unusedSimpArgs false
namespace Mine
abbrev Alw := Int × Option Str
def alwStep (s : Alw) (r : Int × Str) : Alw := if r.1 != 0 then (if decide (s.1 < r.1) then (r.1, some r.2) else if r.1 == s.1 && (match s.2 with | none => false | some y => !((y.length : Int) != 0)) then (s.1, some r.2) else s) else s
def alwF (rs : List (Int × Str)) : Alw := rs.foldl alwStep (-1, none)
def AV (a : Option Str) (v : Value) : Prop := match a with | none => v = .bool true | some y => y.length ≤ 10 ∧ ∃ tk, v = .str y tk

theorem rules_get {g : Heap} {C : Addr} {vs : List Value} {rs : List (Int × Str)} (r : RulesAre g C vs rs) : ∀ {i : Nat} {v : Value}, vs[i]? = some v → ∃ dn vd, rs[i]? = some (dn, vd) ∧ RuleAt g C v dn vd := by
  induction r with
  | nil => intro i v e; simp at e
  | cons a _ ih =>
    intro i v e
    cases i with
    | zero => simp at e; subst e; exact ⟨_, _, rfl, a⟩
    | succ i => simp at e; simpa using ih e

section
variable {w : World} {A : Around} {g h : Heap} {es R : List Ent} {gn : Array GenState} {d : Drawn} {t : Nat} {os : OsState} {K : Frag} {C fI fA x dx L f c Pl cell : Addr} {m : Str → Option Value} {env : Env} {pos apos p : Pos} {Q : Value → Shared → Prop}
theorem t_int {a : Int} {u : Tok} {Q : Bool → Shared → Prop} {s : Shared} (q : Q (a != 0) s) : Ok w A (truthy (.int a u)) Q s := PyProof.Rows.truthy_int q
theorem t_str {y : Str} {u : Tok} {Q : Bool → Shared → Prop} (hy : y.length ≤ 1000) (q : ∀ t', Q ((y.length : Int) != 0) ⟨h, gn, d, t', os⟩) : Ok w A (truthy (.str y u)) Q ⟨h, gn, d, t, os⟩ := P.truthy_str (s := ⟨h, gn, d, t, os⟩) (by omega) (q _)
theorem e_neg {e : Expr} {s : Shared} (q : Ok w A (eval e env) (fun v s₁ => Ok w A (unaryOp .USub v) Q s₁) s) : Ok w A (eval (.UnaryOp .USub e pos) env) Q s := wpAny_UnaryOp q
theorem o_neg {a : Int} {u : Tok} (q : ∀ tk t', Q (.int (-a) tk) ⟨h, gn, d, t', os⟩) : Ok w A (unaryOp .USub (.int a u)) Q ⟨h, gn, d, t, os⟩ := neg_int (q _ _)
theorem e_meth1 {o e : Expr} {name : Str} {s : Shared} (q : Ok w A (eval o env) (fun ov s₁ => ∀ pl : Sem Bool, Ok w A (getMethod ov name pl) (fun fr s₂ => Ok w A (callWith pos fr.1 fr.2 [(false, eval e env)] []) Q s₂) s₁) s)
    (hbase : attributeBase o name env (eval o env) = eval o env := by rfl) (hline : (apos.endLine == pos.line) = true := by rfl) (he : starEach [e] env = [(false, eval e env)] := by rfl) :
    Ok w A (eval (.Call (.Attribute o name apos) [e] [] pos) env) Q s := by
  unfold Ok
  rw [arm_eval_Call, hbase]
  refine wpAny_bind (wpAny_mono q (fun ov s₁ h₁ => wpAny_bind (wpAny_standAt ?_)) fun _ _ e => e)
  have e2 : backTo pos (starEach [e] env) = [(false, eval e env)] := by rw [he]; rfl
  rw [e2]
  have hpos : methodCallPos true o env apos pos = pure pos := by unfold methodCallPos; simp [hline]
  unfold methodCall
  rw [show methodCallForm (([e] : List Expr).length + ([] : List Keyword).length) [(false, eval e env)] (backToKw pos (keywordEach [] env)) = true from rfl]
  refine wpAny_bind (wpAny_holding (wpAny_mono (h₁ _) (fun fr s₂ h₂ => ?_) fun _ _ e => e))
  exact wpAny_bind (wpAny_of_eq hpos h₂)
theorem w_fn {f : Addr} {o : Obj} {fd : FuncData} {first : List Value} {e : Expr} {s : Shared} (ho : g.get? f = some o) (hd : o.data = .func fd) (q : Ok w A (eval e env) (fun v s₁ => Ext g s₁.heap ∧ Ok w A (call (.ref f) (first ++ [v])) Q s₁) s) :
    Ok w A (callWith pos (.ref f) first [(false, eval e env)] []) Q s :=
  Calls.callWith_function (o := o) (fd := fd) (Calls.evalArgs_plain (Calls.spliced_cons (wpAny_mono q (fun _ _ h1 => Calls.spliced_nil ⟨⟨h1.1 _ _ ho, hd⟩, h1.2⟩) fun _ _ e => e)))

set_option maxHeartbeats 2000000 in
theorem allow_code {n : Nat} {G : Addr} {l : List (Str × Value)} {ws : List Value} {rs : List (Int × Str)} {tf : Tok} (hf : Fine A (n + 3)) (B : Base g) (H : Cls g K C fI fA) (F : IsMth g 3 fA) (hx : Pt g x (isInst C dx)) (hd : Pt g dx (isD l)) (hr : getA (Str.ofString "rulelines") l = some (.ref G))
    (hl : g.IsList G ws.toArray) (hR : RulesAre g C ws rs) (hz : ws.length ≤ 100) (hy : ∀ r ∈ rs, r.2.length ≤ 10) (S : St g es h)
    (q : ∀ v h' t', AV (alwF rs).2 v → St g es h' → Q v ⟨h', gn, d, t', os⟩) :
    OkC w A (.call (.ref fA) ⟨[.ref x, .str (Str.ofString "/A%2F") tf], []⟩) (fun fl s' => match fl with | .ret v => Q v s' | _ => False) ⟨h, gn, d, t, os⟩ := by
  refine code_mth (binds := [(Str.ofString "self", .ref x), (Str.ofString "filename", .str (Str.ofString "/A%2F") tf)]) hf B.lim F S (fun _ _ _ => rfl) rfl (fun L cd A' h1 t1 hf1 S1 => ?_) rfl rfl rfl rfl
  refine x_cons (x_asg (e_neg (e_int fun u2 t2 => o_neg fun u3 t3 => s_loc0 S1 fun h4 t4 S4 => ?_)))
  refine x_cons (x_asg (e_bool (s_loc0 S4 fun h5 t5 S5 => ?_)))
  have tk := H.tak
  refine x_cons (x_for (e_attr (e_loc0 S5 (v := .ref x) rfl (o_getown H (tk _ (by simp)).2 S5.ext (hx.ext S5.ext) (hd.ext S5.ext) hr rfl fun t6 => i_list hl S5 fun it h7 S7 => ?_))))
  refine for_iter (iter_list hl) hf1.1 (fun i m R gn' => gn = gn' ∧ R = es ∧ m (Str.ofString "filename") = some (.str (Str.ofString "/A%2F") tf) ∧ ∃ b u v, m (Str.ofString "best_match") = some (.int b u) ∧ m (Str.ofString "allowance") = some v ∧ b = (alwF (rs.take i)).1 ∧ AV (alwF (rs.take i)).2 v) ?_ ⟨rfl, rfl, rfl, _, _, _, rfl, rfl, rfl, rfl⟩ S7 ?_
  · rintro i v m R gn' h t hi hv ⟨rfl, rfl, hmf, b, ub, av, hmb, hma, hbe, hav⟩ S8
    obtain ⟨dn, vd, hrs, rl⟩ := rules_get hR hv
    have hvd : vd.length ≤ 10 := hy (dn, vd) (List.mem_of_getElem? hrs)
    have est : alwF (rs.take (i + 1)) = alwStep (alwF (rs.take i)) (dn, vd) := by
      unfold alwF
      rw [List.take_add_one, hrs, List.foldl_append]; rfl
    obtain ⟨y, dy, ly, k, cell, uc, tv, rfl, r1, r2, r3, r4, r5, r6⟩ := rl
    obtain ⟨fap, ha1, ha2⟩ := H.appl
    have r5' := r5
    obtain ⟨pm, ctv, cdl, F1, F3⟩ := r5'
    refine x_cons (x_asg (e_meth1 (e_loc0 S8 (v := .ref y) (by simp [upd]) fun pl => o_methOwn H ha1 ha2 (tk _ (by simp)).2 S8.ext (r1.ext S8.ext) (r2.ext S8.ext) r3 rfl fun t9 => w_fn F1 rfl (e_loc0 S8 (v := .str (Str.ofString "/A%2F") tf) (by simp [upd, ofs_inj, hmf]) ⟨S8.ext, lam_call (n := n) (hf1.less (by omega)) B.lim r5 r6 S8 fun h10 u10 t10 S10 => ?_⟩))))
    rw [if_pos rfl]
    refine s_loc0 S10 fun h11 t11 S11 => ?_
    obtain ⟨mm, hmm⟩ : ∃ mm, upd (upd m (Str.ofString "line") (.ref y)) (Str.ofString "m") (.int dn u10) = mm := ⟨_, rfl⟩
    have m1 : mm (Str.ofString "m") = some (.int dn u10) := by rw [← hmm]; simp [upd]
    have m2 : mm (Str.ofString "line") = some (.ref y) := by rw [← hmm]; simp [upd, ofs_inj]
    have m3 : mm (Str.ofString "filename") = some (.str (Str.ofString "/A%2F") tf) := by rw [← hmm]; simp [upd, ofs_inj, hmf]
    have m4 : mm (Str.ofString "best_match") = some (.int b ub) := by rw [← hmm]; simp [upd, ofs_inj, hmb]
    have m5 : mm (Str.ofString "allowance") = some av := by rw [← hmm]; simp [upd, ofs_inj, hma]
    rw [hmm] at S11
    refine x_cons (x_if (t_val (e_loc0 S11 m1 (t_int ?_))))
    have stay : alwStep (alwF (rs.take i)) (dn, vd) = alwF (rs.take i) → (Flow.next = Flow.next ∧ ∃ m' R' gn' h' t', (⟨h11, gn, d, t11, os⟩ : Shared) = ⟨h', gn', d, t', os⟩ ∧ (gn = gn' ∧ R' = R ∧ m' (Str.ofString "filename") = some (.str (Str.ofString "/A%2F") tf) ∧ ∃ b u v, m' (Str.ofString "best_match") = some (.int b u) ∧ m' (Str.ofString "allowance") = some v ∧ b = (alwF (rs.take (i + 1))).1 ∧ AV (alwF (rs.take (i + 1))).2 v) ∧ St g ((L, isNs m') :: (it, isLIt G (i + 1)) :: R') h') := by
      intro e
      rw [est, e]
      exact ⟨rfl, mm, R, gn, h11, t11, rfl, ⟨rfl, rfl, m3, b, ub, av, m4, m5, hbe, hav⟩, S11⟩
    by_cases c1 : (dn != 0) = true
    · rw [if_pos c1]
      refine x_cons (x_if (t_cmp (e_loc0 S11 m1 (e_loc0 S11 m4 (o_gt (t_bool ?_))))))
      by_cases c2 : decide (b < dn) = true
      · rw [if_pos c2]
        refine x_cons (x_asg (e_loc0 S11 m1 (s_loc0 S11 fun h12 t12 S12 => ?_)))
        refine x_cons (x_asg (e_attr (e_loc0 S12 (v := .ref y) (by simp [upd, ofs_inj, m2]) (o_getown H (tk _ (by simp)).2 S12.ext (r1.ext S12.ext) (r2.ext S12.ext) r4 rfl fun t13 => s_loc0 S12 fun h14 t14 S14 => wpAny_execs_nil (wpAny_execs_nil (wpAny_execs_nil ?_))))))
        have e : alwStep (alwF (rs.take i)) (dn, vd) = (dn, some vd) := by
          unfold alwStep
          rw [if_pos c1, if_pos (by rw [← hbe]; exact c2)]
        rw [est, e]
        exact ⟨rfl, _, R, gn, h14, t14, rfl, ⟨rfl, rfl, by simp [upd, ofs_inj, m3], dn, u10, .str vd tv, by simp [upd, ofs_inj], by simp [upd, ofs_inj], rfl, hvd, tv, rfl⟩, S14⟩
      · rw [if_neg c2]
        refine x_cons (x_if (t_and2 (t_cmp (e_loc0 S11 m1 (e_loc0 S11 m4 (o_eq (t_bool ?_)))))))
        by_cases c3 : (dn == b) = true
        · rw [if_pos c3]
          refine a_and (t_not (t_val (e_loc0 S11 m5 ?_)))
          cases ea : (alwF (rs.take i)).2 with
          | none =>
            rw [ea] at hav
            have hav : av = .bool true := hav
            subst hav
            refine t_bool ?_
            rw [if_neg (by simp), if_neg Bool.false_ne_true]
            refine wpAny_execs_nil (wpAny_execs_nil (wpAny_execs_nil (wpAny_execs_nil (stay ?_))))
            unfold alwStep
            rw [if_pos c1, if_neg (by rw [← hbe]; exact c2), if_neg (by rw [ea]; simp)]
          | some z =>
            rw [ea] at hav
            obtain ⟨hz, tz, rfl⟩ : z.length ≤ 10 ∧ ∃ tk, av = .str z tk := hav
            refine t_str (by omega) fun t15 => ?_
            by_cases c4 : ((z.length : Int) != 0) = true
            · rw [if_neg (by simp [c4]), if_neg Bool.false_ne_true]
              refine wpAny_execs_nil (wpAny_execs_nil (wpAny_execs_nil (wpAny_execs_nil ?_)))
              have := stay (by
                unfold alwStep
                rw [if_pos c1, if_neg (by rw [← hbe]; exact c2), if_neg (by rw [ea]; simp [c4])])
              obtain ⟨a1, m', R', gn', h', t', a2, a3⟩ := this
              cases a2
              exact ⟨a1, m', R', gn, h11, t15, rfl, a3⟩
            · rw [if_pos (by simp [c4])]
              refine a_nil ?_
              rw [if_pos rfl]
              refine x_cons (x_asg (e_attr (e_loc0 S11 m2 (o_getown H (tk _ (by simp)).2 S11.ext (r1.ext S11.ext) (r2.ext S11.ext) r4 rfl fun t13 => s_loc0 S11 fun h14 t14 S14 => wpAny_execs_nil (wpAny_execs_nil (wpAny_execs_nil (wpAny_execs_nil ?_)))))))
              have e : alwStep (alwF (rs.take i)) (dn, vd) = ((alwF (rs.take i)).1, some vd) := by
                unfold alwStep
                rw [if_pos c1, if_neg (by rw [← hbe]; exact c2), if_pos (by rw [ea, ← hbe]; simp [c4]; simpa using c3)]
              rw [est, e]
              exact ⟨rfl, _, R, gn, h14, t14, rfl, ⟨rfl, rfl, by simp [upd, ofs_inj, m3], b, ub, .str vd tv, by simp [upd, ofs_inj, m4], by simp [upd, ofs_inj], hbe, hvd, tv, rfl⟩, S14⟩
        · rw [if_neg c3, if_neg Bool.false_ne_true]
          refine wpAny_execs_nil (wpAny_execs_nil (wpAny_execs_nil (wpAny_execs_nil (stay ?_))))
          unfold alwStep
          rw [if_pos c1, if_neg (by rw [← hbe]; exact c2), if_neg (by rw [← hbe]; simp [c3])]
    · rw [if_neg c1]
      refine wpAny_execs_nil (wpAny_execs_nil (stay ?_))
      unfold alwStep
      rw [if_neg c1]
  · rintro m R gn' h t ⟨rfl, rfl, hmf, b, ub, av, hmb, hma, hbe, hav⟩ S8
    refine x_cons (x_ret (e_loc0 S8 hma ?_))
    rw [List.take_of_length_le (by rw [hR.len]; exact Nat.le_refl _)] at hav
    exact q av h t hav (S8.sub ((List.Sublist.refl _).cons _))
end
end Mine
end

section
open PySem PySem.W PySem.W.X PyProof.Rows
set_option Elab.async false
set_option maxRecDepth 100000
set_option linter.unusedSimpArgs false
namespace Mine
def lowF (rs : List (Int × Str)) : Int := if Txt.join (Str.ofString "") (rs.map (·.2)) != Str.ofString "123" then 5 else match (alwF rs).2 with
  | none => 0
  | some y => if y == Str.ofString "" then 4 else if y == Str.ofString "1" then 1 else if y == Str.ofString "2" then 2 else if y == Str.ofString "3" then 3 else 5

section
variable {w : World} {A : Around} {g h : Heap} {es R : List Ent} {gn : Array GenState} {d : Drawn} {t : Nat} {os : OsState} {K : Frag} {C fI fA x dx L f c Pl cell : Addr} {m : Str → Option Value} {env : Env} {pos apos p : Pos} {Q : Value → Shared → Prop}
theorem o_int1 {n : Nat} {u : Tok} (hn : n ≤ 9) (q : ∀ tk t', Q (.int n tk) ⟨h, gn, d, t', os⟩) : Ok w A (call (.type "int") [.str (Str.ofString (toString (n : Int))) u]) Q ⟨h, gn, d, t, os⟩ :=
  PySem.W.KIN.call_num (s := ⟨h, gn, d, t, os⟩) (by omega) (by omega) (q _ _)
theorem o_ins {l : Addr} {vs : List Value} {ys : List Str} {k : Str} {u : Tok} (hl : h.IsList l vs.toArray) (hi : StrsAre vs ys) (q : Q (.bool (ys.any (· == k))) ⟨h, gn, d, t, os⟩) : Ok w A (compareOp .In (.str k u) (.ref l)) Q ⟨h, gn, d, t, os⟩ := in_list_strs hl hi q
theorem o_isTT (q : Q (.bool true) ⟨h, gn, d, t, os⟩) : Ok w A (compareOp .Is (.bool true) (.bool true)) Q ⟨h, gn, d, t, os⟩ := wpAny_is_self rfl q
theorem o_isST {y : Str} {u : Tok} (q : Q (.bool false) ⟨h, gn, d, t, os⟩) : Ok w A (compareOp .Is (.str y u) (.bool true)) Q ⟨h, gn, d, t, os⟩ := wpAny_is_other rfl (by simp) q

theorem e_joinX {e elt : Expr} {sep : Str} {ys : List Str}
    (q : Ok w A (eval e env) (fun v s₁ => ∃ ts, v = .str sep ts ∧ Ok w A (eval elt env) (fun y s₂ => ∃ D vs, y = .ref D ∧ s₂.heap.IsList D vs.toArray ∧ StrsAre vs ys ∧ ∀ tk t', Q (.str (Txt.join sep ys) tk) { s₂ with toks := t' }) s₁) ⟨h, gn, d, t, os⟩)
    (hok : (ys.map (·.length)).sum + ys.length * sep.length ≤ 16777216)
    (hbase : attributeBase e "join" env (eval e env) = eval e env := by rfl) (hline : (apos.endLine == pos.line) = true := by rfl) (he : starEach [elt] env = [(false, eval elt env)] := by rfl) :
    Ok w A (eval (.Call (.Attribute e (Str.ofString "join") apos) [elt] [] pos) env) Q ⟨h, gn, d, t, os⟩ := by
  refine wpAny_Call_method_lateS hbase (by rw [he]; rfl) hline (wpAny_mono q (fun v s₁ h₁ => ?_) fun _ _ e => e)
  obtain ⟨ts, rfl, h₁⟩ := h₁
  rw [he]
  refine SB.join (wpAny_mono h₁ (fun y s₂ h₂ => ?_) fun _ _ e => e)
  obtain ⟨D, vs, rfl, hl, hs, hq⟩ := h₂
  obtain ⟨l, hv, ht⟩ := strsAre_values hs
  refine ⟨D, l, rfl, ?_, ys, ht, joinOk_of hok, fun t' k => hq t' k⟩
  rw [← hv]; exact hl
theorem sum_len_le : ∀ (ys : List Str), (∀ y ∈ ys, y.length ≤ 10) → (ys.map (·.length)).sum ≤ 10 * ys.length
  | [], _ => by simp
  | y :: ys, hy => by
    have := sum_len_le ys fun z hz => hy z (List.mem_cons_of_mem _ hz)
    have := hy y List.mem_cons_self
    simp only [List.map_cons, List.sum_cons, List.length_cons]
    omega

set_option maxHeartbeats 2000000 in
theorem lowest_fn {n : Nat} {G : Addr} {ws : List Value} {rs : List (Int × Str)} (hf : Fine A (n + 6)) (B : Base g) (H : Cls g K C fI fA) (hk : keepIn K (.ref C) = true) (F0 : IsMth g 0 fI) (F3 : IsMth g 3 fA) (F : IsFn g 13 f)
    (hl : g.IsList G ws.toArray) (hR : RulesAre g C ws rs) (hz : ws.length ≤ 100) (hy : ∀ r ∈ rs, r.2.length ≤ 10) (S : St g es h)
    (q : ∀ u h' t', St g es h' → Q (.int (lowF rs) u) ⟨h', gn, d, t', os⟩) : Ok w A (call (.ref f) [.ref G]) Q ⟨h, gn, d, t, os⟩ := by
  refine call_fn (binds := [(Str.ofString "rules", .ref G)]) hf B F S (fun _ _ _ => rfl) rfl (fun L cd A' h1 t1 hf1 S1 => ?_) rfl rfl rfl rfl
  refine x_cons (x_asg (e_newEntry (n := n) (hf1.less (by omega)) B.lim H hk F0 S1 fun x dx D1 D2 h2 t2 S2 => ?_))
  have S3 : St g ((L, isNs _) :: (dx, isD [(Str.ofString "useragents", .ref D1), (Str.ofString "rulelines", .ref D2), (Str.ofString "delay", .none), (Str.ofString "req_rate", .none)]) :: (x, isInst C dx) :: es) h2 := S2.perm (List.perm_middle (l₁ := [_, _]))
  refine s_loc0 S3 fun h4 t4 S4 => ?_
  have tk := H.tak
  refine x_cons (x_asgA (e_loc0 S4 (v := .ref G) rfl (e_loc0 S4 (v := .ref x) rfl (o_setattr H (tk _ (by simp)).1 S4 1 rfl (S4.at 2 rfl) (by simp) fun h5 t5 S5 => ?_))))
  have S5 : St g ((L, isNs _) :: (dx, isD (putA (Str.ofString "rulelines") (.ref G) [(Str.ofString "useragents", .ref D1), (Str.ofString "rulelines", .ref D2), (Str.ofString "delay", .none), (Str.ofString "req_rate", .none)])) :: (x, isInst C dx) :: es) h5 := S5
  have gl : getA (Str.ofString "rulelines") (putA (Str.ofString "rulelines") (.ref G) [(Str.ofString "useragents", .ref D1), (Str.ofString "rulelines", .ref D2), (Str.ofString "delay", .none), (Str.ofString "req_rate", .none)]) = some (.ref G) := by simp [putA, getA, ofs_inj]
  have ga : getA (Str.ofString "allowance") (putA (Str.ofString "rulelines") (.ref G) [(Str.ofString "useragents", .ref D1), (Str.ofString "rulelines", .ref D2), (Str.ofString "delay", .none), (Str.ofString "req_rate", .none)]) = none := by simp [putA, getA, ofs_inj]
  generalize (putA (Str.ofString "rulelines") (.ref G) [(Str.ofString "useragents", .ref D1), (Str.ofString "rulelines", .ref D2), (Str.ofString "delay", .none), (Str.ofString "req_rate", .none)]) = l at S5 gl ga
  obtain ⟨g1, S6, X6, P6⟩ := S5.freeze (a := dx) (List.perm_middle (l₁ := [_]))
  obtain ⟨g2, S7, X7, P7⟩ := S6.freeze (a := x) (List.perm_middle (l₁ := [_]))
  have X := X6.trans X7
  have B2 := B.ext X
  have H2 := H.ext X
  have hl2 := IsList.ext hl X
  have hR2 := hR.ext X
  have Pd := P6.ext X7
  obtain ⟨oA, pmA, cdA, docA, A1, A2, A3⟩ := F3.ext X
  -- told
  refine x_cons (x_asg (e_meth1 (e_loc0 S7 (v := .ref x) rfl fun pl => o_meth H2 H.allow H.allowT S7.ext (P7.ext S7.ext) (Pd.ext S7.ext) ga (w_fn A1 A2 (e_str fun u8 t8 => ⟨S7.ext, ok_call (allow_code (n := n) (hf1.less (by omega)) B2 H2 (F3.ext X) P7 Pd gl hl2 hR2 hz hy S7 fun av h9 t9 hav S9 => ?_)⟩)))))
  refine s_loc0 S9 fun h10 t10 S10 => ?_
  obtain ⟨mm, hmm⟩ : ∃ mm, upd (upd (fun x_1 => List.lookup x_1 [(Str.ofString "rules", Value.ref G)].reverse) (Str.ofString "record") (.ref x)) (Str.ofString "told") av = mm := ⟨_, rfl⟩
  have m1 : mm (Str.ofString "record") = some (.ref x) := by rw [← hmm]; simp [upd, ofs_inj]
  have m2 : mm (Str.ofString "told") = some av := by rw [← hmm]; simp [upd, ofs_inj]
  rw [hmm] at S10
  -- the join
  have hlr := hR.len
  refine x_cons (x_if (t_cmp (e_joinX (sep := Str.ofString "") (ys := rs.map (·.2)) (e_str fun u11 t11 => ⟨u11, rfl, e_comp (closureFor_none (by decide)) (e_attr (e_loc0 S10 m1 (o_getown H2 (tk _ (by simp)).2 S10.ext (P7.ext S10.ext) (Pd.ext S10.ext) gl rfl fun t12 => i_list hl2 S10 fun it h13 S13 => ?_)))⟩) ?_)))
  rotate_left
  · have e0 : (Str.ofString "").length = 0 := by decide
    rw [e0, Nat.mul_zero]
    have := sum_len_le (rs.map (·.2)) (by
      intro y hy'
      obtain ⟨r, hr, rfl⟩ := List.mem_map.mp hy'
      exact hy r hr)
    rw [List.length_map] at this
    omega
  refine comp_iter (iter_list hl2) hf1.1 (by omega) (fun i acc R gn' => gn = gn' ∧ R = es ∧ StrsAre acc ((rs.take i).map (·.2))) ?_ ⟨rfl, rfl, .nil⟩ S13 ?_
  · rintro i v acc R gn' h t C' m D hi' hv ⟨rfl, rfl, ha⟩ hm hlen S14
    obtain ⟨dn, vd, hrs, rl⟩ := rules_get hR2 hv
    obtain ⟨y, dy, ly, k, cell, uc, tv, rfl, r1, r2, r3, r4, r5, r6⟩ := rl
    refine ts_nil ((if_pos rfl).mpr (e_attr (e_loc0 S14 hm (o_getown H2 (tk _ (by simp)).2 S14.ext (r1.ext S14.ext) (r2.ext S14.ext) r4 rfl fun t15 => ⟨_, _, _, _, rfl, ⟨rfl, rfl, ?_⟩, S14⟩))))
    rw [List.take_add_one, hrs, List.map_append]
    exact strs_snoc ha _ tv
  rintro D acc R gn' h15 t15 ⟨rfl, rfl, ha⟩ hlen S15
  rw [hlr, List.take_length] at ha
  refine ⟨D, acc, rfl, IsLst.toIsList (S15.at 1 rfl), ha, fun u16 t16 => e_str fun u17 t17 => o_sne (t_bool ?_)⟩
  have S16 := (S15.sub (((List.Sublist.refl _).cons _).cons_cons _)).weaken X
  have fin : ∀ (h' : Heap) (t' : Nat) (u : Tok) (i : Int), St g ((L, isNs mm) :: R) h' → i = lowF rs → Q (.int i u) ⟨h', gn, d, t', os⟩ := by
    rintro h' t' u _ S' rfl
    exact q u h' t' (S'.sub ((List.Sublist.refl _).cons _))
  by_cases c1 : (Txt.join (Str.ofString "") (rs.map (·.2)) != Str.ofString "123") = true
  · rw [if_pos c1]
    refine x_cons (x_ret (e_int fun u18 t18 => fin _ _ _ _ S16 ?_))
    unfold lowF; rw [if_pos c1]
  rw [if_neg c1]
  have low1 : lowF rs = (match (alwF rs).2 with
    | none => 0
    | some y => if y == Str.ofString "" then 4 else if y == Str.ofString "1" then 1 else if y == Str.ofString "2" then 2 else if y == Str.ofString "3" then 3 else 5) := by unfold lowF; rw [if_neg c1]
  refine wpAny_execs_nil (x_cons (x_if (t_cmp (e_loc0 S16 m2 (e_bool ?_)))))
  cases ea : (alwF rs).2 with
  | none =>
    rw [ea] at hav low1
    have hav : av = .bool true := hav
    subst hav
    refine o_isTT (t_bool ?_)
    rw [if_pos rfl]
    exact x_cons (x_ret (e_int fun u18 t18 => fin _ _ _ _ S16 low1.symm))
  | some y =>
    rw [ea] at hav low1
    obtain ⟨hyl, ty, rfl⟩ : y.length ≤ 10 ∧ ∃ tk, av = .str y tk := hav
    refine o_isST (t_bool ?_)
    rw [if_neg Bool.false_ne_true]
    refine wpAny_execs_nil (x_cons (x_if (t_cmp (e_loc0 S16 m2 (e_str fun u19 t19 => o_seq (t_bool ?_))))))
    by_cases c2 : (y == Str.ofString "") = true
    · rw [if_pos c2]
      refine x_cons (x_ret (e_int fun u18 t18 => fin _ _ _ _ S16 ?_))
      rw [low1]; simp only; rw [if_pos c2]
    rw [if_neg c2]
    simp only at low1
    rw [if_neg c2] at low1
    refine wpAny_execs_nil (x_cons (x_if (t_cmp (e_loc0 S16 m2 (e_list3 (e_str fun u20 t20 => e_str fun u21 t21 => e_str fun u22 t22 => newL S16 fun D3 h23 S23 => ?_))))))
    refine o_ins (ys := [Str.ofString "1", Str.ofString "2", Str.ofString "3"]) (IsLst.toIsList (S23.at 1 rfl)) (.cons _ _ (.cons _ _ (.cons _ _ .nil))) (t_bool ?_)
    have S24 : St g ((L, isNs mm) :: R) h23 := S23.sub (((List.Sublist.refl _).cons _).cons_cons _)
    have Gi := B.blt (Str.ofString "int", .type "int") (by simp [bltins])
    by_cases d1 : y = Str.ofString "1"
    · subst d1
      rw [if_pos (by decide)]
      refine x_cons (x_ret (e_gT S24 Gi (e_loc0 S24 m2 (o_int1 (n := 1) (by omega) fun u25 t25 => fin _ _ _ _ S24 ?_))))
      rw [low1]; decide
    by_cases d2 : y = Str.ofString "2"
    · subst d2
      rw [if_pos (by decide)]
      refine x_cons (x_ret (e_gT S24 Gi (e_loc0 S24 m2 (o_int1 (n := 2) (by omega) fun u25 t25 => fin _ _ _ _ S24 ?_))))
      rw [low1]; decide
    by_cases d3 : y = Str.ofString "3"
    · subst d3
      rw [if_pos (by decide)]
      refine x_cons (x_ret (e_gT S24 Gi (e_loc0 S24 m2 (o_int1 (n := 3) (by omega) fun u25 t25 => fin _ _ _ _ S24 ?_))))
      rw [low1]; decide
    rw [if_neg (by simp [List.any_cons, beq_iff_eq]; exact ⟨fun z => d1 z.symm, fun z => d2 z.symm, fun z => d3 z.symm⟩)]
    refine wpAny_execs_nil (x_cons (x_ret (e_int fun u18 t18 => fin _ _ _ _ S24 ?_)))
    rw [low1, if_neg (by simp [d1]), if_neg (by simp [d2]), if_neg (by simp [d3])]
end
end Mine
end

section
open PySem PySem.W PySem.W.X PyProof.Rows
set_option Elab.async false
set_option maxRecDepth 100000
set_option linter.unusedSimpArgs false
namespace Mine
theorem St.freezeAll {g h : Heap} {l es : List Ent} (S : St g (l ++ es) h) : ∃ g', St g' es h ∧ Ext g g' ∧ ∀ e ∈ l, Pt g' e.1 e.2 := by
  have S2 : St g es h := S.sub (List.sublist_append_right _ _)
  obtain ⟨g', S3, x, y, z⟩ := S2.rebase
  refine ⟨g', S3, x, fun e he => ?_⟩
  obtain ⟨o, eo, q⟩ := S.pts e (List.mem_append_left _ he)
  refine ⟨o, z _ o eo fun hm => ?_, q⟩
  have nd := S.nd
  rw [List.map_append, List.nodup_append] at nd
  exact nd.2.2 _ (List.mem_map_of_mem he) _ hm rfl

section
variable {w : World} {A : Around} {g h : Heap} {es R : List Ent} {gn : Array GenState} {d : Drawn} {t : Nat} {os : OsState} {env : Env} {pos apos p : Pos} {Q : Value → Shared → Prop}
theorem e_cellB {x : Str} {c : Addr} {v : Value} (S : St g es h) (hp : Pt g c (isCell (some v))) (hc : env.cells.lookup x = some c) (q : Q v ⟨h, gn, d, t, os⟩)
    (hk : env.scope.kind = .function := by rfl) (hl : env.kindOf x = some .cell := by rfl) (hd : (x == ("__debug__" : Str)) = false := by rfl) : Ok w A (eval (.Name x pos) env) Q ⟨h, gn, d, t, os⟩ :=
  wpAny_Name (wpAny_loadName_cell hk hl hc (cell_iff.mp (hp.ext S.ext)) q) hd
theorem o_neS {a b : Addr} {vs us : List Value} {ys : List Str} (hu : A.units < cLine) (ha : h.IsList a vs.toArray) (hb : h.IsList b us.toArray) (hv : StrsAre vs ys) (hw : StrsAre us ys) (q : Q (.bool false) ⟨h, gn, d, t, os⟩) : Ok w A (compareOp .NotEq (.ref a) (.ref b)) Q ⟨h, gn, d, t, os⟩ := by
  have l1 := strs_len hv
  have l2 := strs_len hw
  refine SeqAt.RcNeAt.lists (s := ⟨h, gn, d, t, os⟩) (e := fun _ => true) ha hb (by simp [l1, l2]) hu ?_ pg w _ _ ?_
  · intro j h1 h2
    obtain ⟨y, u, e1, e2⟩ := strs_get hv (i := j) (v := vs.toArray[j]) (by simpa using h1)
    obtain ⟨y', u', e1', e2'⟩ := strs_get hw (i := j) (v := us.toArray[j]) (by simpa using h2)
    rw [e1] at e1'
    cases e1'
    rw [e2, e2']
    have := SeqAt.EqAt.str_str (A := A.in1) (s := ⟨h, gn, d, t, os⟩) y u y u'
    simpa using this
  · rw [show ((List.range vs.toArray.size).all fun _ => true) = true from List.all_eq_true.mpr fun _ _ => rfl]
    exact q
theorem o_eqI {a b : Addr} {vs us : List Value} {ys : List Int} (hu : A.units < cLine) (ha : h.IsList a vs.toArray) (hb : h.IsList b us.toArray) (hv : IntsAre vs ys) (hw : IntsAre us ys) (q : Q (.bool true) ⟨h, gn, d, t, os⟩) : Ok w A (compareOp .Eq (.ref a) (.ref b)) Q ⟨h, gn, d, t, os⟩ := by
  have l1 := ints_len hv
  have l2 := ints_len hw
  refine SeqAt.eq_listAt (s := ⟨h, gn, d, t, os⟩) (e := fun _ => true) ha hb (by simp [l1, l2]) hu ?_ ?_
  · intro j h1 h2
    obtain ⟨y, u, e2, e1⟩ := ints_get hv (i := j) (v := vs.toArray[j]) (by simpa using h1)
    obtain ⟨y', u', e2', e1'⟩ := ints_get hw (i := j) (v := us.toArray[j]) (by simpa using h2)
    rw [e1] at e1'
    cases e1'
    rw [e2, e2']
    have := SeqAt.EqAt.int_int (A := A.in1) (s := ⟨h, gn, d, t, os⟩) y u y u'
    simpa using this
  · rw [show ((List.range vs.toArray.size).all fun _ => true) = true from List.all_eq_true.mpr fun _ _ => rfl]
    exact q
theorem o_ext {D b : Addr} {vs ws : List Value} (S : St g es h) (i : Nat) (hi : es[i]? = some (D, isLst vs)) (hb : Pt h b (isLst ws)) (hz : vs.length + ws.length ≤ 1000000)
    (q : ∀ h', St g (es.set i (D, isLst (vs ++ ws))) h' → Q .none ⟨h', gn, d, t, os⟩) : Ok w A (call (.builtin "list.extend") [.ref D, .ref b]) Q ⟨h, gn, d, t, os⟩ := by
  obtain ⟨_, hD, n, rfl⟩ := S.at i hi
  obtain ⟨_, hB, n2, rfl⟩ := hb
  have hz' : vs.toArray.size + ws.toArray.size ≤ sizeLine := k_le_line (by simpa using hz)
  refine call_meets (s := ⟨h, gn, d, t, os⟩) PySem.F.slot_list_extend ⟨_, hD, rfl⟩ PySem.F.entry_list_extend (PySem.F.args_list_extend_2 _ _) (AutoSeq1.list_extend_list_list_0 D vs.toArray n b ws.toArray n2 (extend_door hz') (Nat.le_trans (Nat.le_add_right _ _) hz')) ⟨hD, hB, ?_⟩
  refine q _ (S.set i hi (Heap.SameBut.update ..) ⟨_, Heap.get?_update_self _ hD (by rw [mapSeq_app]; rfl), (if (vs.toArray ++ ws.toArray).size == vs.toArray.size then n else n + 1), ?_⟩)
  rw [mapSeq_app]
  simp
theorem e_extend {e elt : Expr} {D : Addr} (hl : Ev w A env e (.ref D) ⟨h, gn, d, t, os⟩) {items : Array Value} {n : Nat} (hD : h.get? D = some { cls := .type "list", data := .seq items n })
    (q : Ok w A (eval elt env) (fun y s₂ => Ok w A (call (.builtin "list.extend") [.ref D, y]) Q s₂) ⟨h, gn, d, t, os⟩)
    (hbase : attributeBase e "extend" env (eval e env) = eval e env := by rfl) (hline : (apos.endLine == pos.line) = true := by rfl) (he : starEach [elt] env = [(false, eval elt env)] := by rfl) :
    Ok w A (eval (.Call (.Attribute e (Str.ofString "extend") apos) [elt] [] pos) env) Q ⟨h, gn, d, t, os⟩ := by
  refine wpAny_Call_method (T := "list") (id := "list.extend") hbase (by rw [he]; rfl) hline PySem.F.plainAttrs_list PySem.F.slot_list_extend PySem.F.type_list_extend (hl _ ⟨⟨_, hD, rfl⟩, ?_, ?_⟩)
  · intro a ha; cases ha; exact ⟨_, hD, rfl⟩
  · rw [show backTo pos (starEach [elt] env) = [(false, eval elt env)] by rw [he]; rfl]
    exact Calls.callWith_builtin rfl (Calls.evalArgs_plain (Calls.spliced_cons (wpAny_mono q (fun _ _ h₁ => Calls.spliced_nil h₁) fun _ _ e => e)))
end

/-- range(1, n + 1) -/
def isRI1 (n : Nat) (i : Nat) : Obj → Prop := fun o => o = { cls := .type "range_iterator", dict := none, data := .fields #[rawInt ((i : Int) + 1), rawInt ((n : Int) - i), rawInt 1], slots := #[] }
theorem ri1_iff {h : Heap} {a : Addr} {n i : Nat} : Pt h a (isRI1 n i) ↔ IsRangeIter h a ((i : Int) + 1) ((n : Int) - i) 1 := by
  constructor
  · rintro ⟨o, e, rfl⟩; exact e
  · intro e; exact ⟨_, e, rfl⟩
theorem iter_range1 {w : World} {g : Heap} {it : Addr} {n : Nat} : Iter w g it (isRI1 n) n (fun i v => ∃ u, v = .int ((i : Int) + 1) u) where
  next := fun {A e0 R h gn d t os Q i} hi S q => by
    refine wpAny_pyNext_range_item (s := ⟨h, gn, d, t, os⟩) (ri1_iff.mp (S.at 1 rfl)) (by omega) fun h' hit hs => ?_
    refine q _ h' _ ⟨_, rfl⟩ (S.set 1 rfl hs (ri1_iff.mpr ?_))
    have e1 : ((i + 1 : Nat) : Int) = (i : Int) + 1 := by push_cast; rfl
    rw [e1, show (n : Int) - ((i : Int) + 1) = (n : Int) - i - 1 by omega]
    exact hit
  done := fun {A e0 R h gn d t os Q} hh S q => wpAny_pyNext_range_end (s := ⟨h, gn, d, t, os⟩) hh (ri1_iff.mp (S.at 1 rfl)) (by omega) fun h' hx => q h' (S.lose hx)
  self := fun {A e0 R h gn d t os Q i} S q => wpAny_pyIter_rangeiter (s := ⟨h, gn, d, t, os⟩) (ri1_iff.mp (S.at 1 rfl)) q
section
variable {w : World} {A : Around} {g h : Heap} {R : List Ent} {gn : Array GenState} {d : Drawn} {t : Nat} {os : OsState} {env : Env} {pos p : Pos} {Q : Value → Shared → Prop} {x : Str}
theorem o_range2 {e0 : Ent} {n : Nat} {u u' : Tok} (S : St g (e0 :: R) h) (q : ∀ r a b c h' t', St g (e0 :: R) h' → IsRange h' r 1 n 1 a b c → Q (.ref r) ⟨h', gn, d, t', os⟩) : Ok w A (call (.type "range") [.int 1 u, .int n u']) Q ⟨h, gn, d, t, os⟩ :=
  call_range_2 (q _ _ _ _ _ _ (S.grow (Ext.push _ _)) (Heap.get?_push_size _ rfl))
theorem i_range2 {e0 : Ent} {n : Nat} {r : Addr} {a b c : Tok} (hn : n ≤ 1000000) (hr : IsRange h r 1 ((n : Int) + 1) 1 a b c) (S : St g (e0 :: R) h) (q : ∀ it h', St g (e0 :: (it, isRI1 n 0) :: R) h' → Q (.ref it) ⟨h', gn, d, t, os⟩) : Ok w A (pyIter (.ref r)) Q ⟨h, gn, d, t, os⟩ := by
  have hsz : Builtin.Range.rangeSize 1 ((n : Int) + 1) 1 = n := by
    unfold Builtin.Range.rangeSize
    simp
    omega
  have hsm : Builtin.Range.small 1 ((n : Int) + 1) 1 = true := by
    unfold Builtin.Range.small
    rw [hsz]
    simp [Builtin.Range.rangeFitsLong]
    omega
  refine wpAny_pyIter_range (s := ⟨h, gn, d, t, os⟩) hr hsm ?_
  rw [hsz]
  refine q _ _ (S.second (get_size h) (Ext.push _ _) (ri1_iff.mpr ?_))
  have := Heap.get?_push_size h (o := { cls := .type "range_iterator", data := .fields #[rawInt 1, rawInt (n : Int), rawInt 1] }) rfl
  simpa using this
theorem e_gT2 {e1 e2 : Expr} {T : String} {es : List Ent} (S : St g es h) (G : Glb g x (.type T)) (q : Ok w A (eval e1 env) (fun v1 s1 => Ok w A (eval e2 env) (fun v2 s₂ => Ok w A (call (.type T) [v1, v2]) Q s₂) s1) ⟨h, gn, d, t, os⟩)
    (he : starEach [e1, e2] env = [(false, eval e1 env), (false, eval e2 env)] := by rfl)
    (hg : env.globals = mainGlobals := by rfl) (hb : env.builtins = builtinsNs := by rfl) (hk : env.scope.kind = .function := by rfl) (hl : env.kindOf x = some .globalImplicit := by rfl) (hd : (x == ("__debug__" : Str)) = false := by rfl) :
    Ok w A (eval (.Call (.Name x p) [e1, e2] [] pos) env) Q ⟨h, gn, d, t, os⟩ := by
  refine wpAny_Call_NameR (e_glb S G ?_ hg hb hk hl hd)
  rw [he]
  exact PyProof.Rows.callWith_type rfl (Calls.evalArgs_plain (Calls.spliced_cons (wpAny_mono q (fun _ _ h1 => Calls.spliced_cons (wpAny_mono h1 (fun _ _ h₁ => Calls.spliced_nil h₁) fun _ _ e => e)) fun _ _ e => e)))
theorem o_sorted {e0 : Ent} {l : Addr} {vs : List Value} {ns : List Int} (S : St g (e0 :: R) h) (hl : h.IsList l vs.toArray) (hi : IntsAre vs ns) (h64 : vs.length < 64)
    (q : ∀ D us ns' h', IntsAre us ns' → ns'.Perm ns → ns'.Pairwise (· ≤ ·) → St g (e0 :: (D, isLst us) :: R) h' → Q (.ref D) ⟨h', gn, d, t, os⟩) : Ok w A (call (.builtin "sorted") [.ref l]) Q ⟨h, gn, d, t, os⟩ := by
  refine sorted_ints (s := ⟨h, gn, d, t, os⟩) hl hi h64 fun out ns' h1 h2 h3 => ?_
  refine q _ out.toList ns' _ h1 h2 h3 (S.second (get_big h (Nat.le_succ _)) (fun b o e => sortedAll_old e) ?_)
  obtain ⟨e, he⟩ := sortedAll_at h vs out
  exact ⟨_, he, e, rfl⟩
end
end Mine
end

section
open PySem PySem.W PySem.W.X PyProof.Rows
set_option Elab.async false
set_option maxRecDepth 100000
set_option linter.unusedSimpArgs false
namespace Mine
theorem turn1 (t1 it1 it2 : Expr) (y : Str) (py pe : Pos) (scope : Scope) (pos : Pos) (it acc : Value) (env : Env) :
    compTurn (.ListComp (.Name y pe) [⟨t1, it1, [], 0⟩, ⟨.Name y py, it2, [], 0⟩] scope pos) 1 it acc env = (standAt it2.pos >>= fun _ => pyNext it >>= fun r => match r with
      | none => pure (.done .next)
      | some v => letOwnedTupleGo (.Name y py) it v >>= fun _ => assign (.Name y py) env v >>= fun _ =>
        (eval (.Name y pe) env >>= fun x => call (.builtin "list.append") [acc, x] >>= fun _ => pure ()) >>= fun _ =>
          again (.compLoop (.ListComp (.Name y pe) [⟨t1, it1, [], 0⟩, ⟨.Name y py, it2, [], 0⟩] scope pos) 1 it acc env)) := by rfl
theorem turn0 (elt t1 it1 it2 t2 : Expr) (scope : Scope) (pos : Pos) (it acc : Value) (env : Env) :
    compTurn (.ListComp elt [⟨t1, it1, [], 0⟩, ⟨t2, it2, [], 0⟩] scope pos) 0 it acc env = (standAt it1.pos >>= fun _ => pyNext it >>= fun r => match r with
      | none => pure (.done .next)
      | some v => letOwnedTupleGo t1 it v >>= fun _ => assign t1 env v >>= fun _ => eval it2 env >>= fun x => standAt it2.pos >>= fun _ => foldedSetIterable it2 env x >>= fun x => holding [x] (pyIter x) >>= fun i2 =>
          runOwn (.compStart (.ListComp elt [⟨t1, it1, [], 0⟩, ⟨t2, it2, [], 0⟩] scope pos) 1 i2 acc env) env >>= fun _ =>
          again (.compLoop (.ListComp elt [⟨t1, it1, [], 0⟩, ⟨t2, it2, [], 0⟩] scope pos) 0 it acc env)) := by rfl
section
variable {w : World} {A : Around} {g h : Heap} {es R : List Ent} {gn : Array GenState} {d : Drawn} {t : Nat} {os : OsState} {env : Env} {pos p : Pos}
/-- the inner clause of a list comprehension of two: for y in (a list that stays), whose head is y itself -/
theorem inner_loop {t1 it1 it2 : Expr} {y : Str} {py pe : Pos} {scope : Scope} {it C D G : Addr} {ws : List Value} {Q : Flow → Shared → Prop} (hh : A.handled = none) (hl : g.IsList G ws.toArray)
    (hC : env.locals = C) (hkind : env.scope.kind = .function) (hy : env.kindOf y = some .local) (hdb : (y == ("__debug__" : Str)) = false) :
    ∀ (k i : Nat) (m : Str → Option Value) (acc : List Value) (h : Heap) (t : Nat), i + k = ws.length → acc.length + k ≤ 100000 → St g ((C, isNs m) :: (it, isLIt G i) :: (D, isLst acc) :: R) h →
    (∀ m' h' t', (∀ z, z ≠ y → m' z = m z) → St g ((C, isNs m') :: (D, isLst (acc ++ ws.drop i)) :: R) h' → Q .next ⟨h', gn, d, t', os⟩) →
    OkC w A (.compLoop (.ListComp (.Name y pe) [⟨t1, it1, [], 0⟩, ⟨.Name y py, it2, [], 0⟩] scope pos) 1 (.ref it) (.ref D) env) Q ⟨h, gn, d, t, os⟩ := by
  intro k
  induction k with
  | zero =>
    intro i m acc h t e hz S q
    obtain rfl : i = ws.length := by omega
    refine codeAny_of_tree ?_
    rw [Around.under_of_weight rfl rfl]
    show wpAny _ A ((compTurn (.ListComp (.Name y pe) [⟨t1, it1, [], 0⟩, ⟨.Name y py, it2, [], 0⟩] scope pos) 1 (.ref it) (.ref D) env).onRaise _) _ _ _
    refine wpAny_onRaise (ok_of ?_)
    rw [turn1]
    refine wpAny_bind (wpAny_standAt (wpAny_bind ((iter_list hl).done hh S fun h' S' => ?_)))
    exact wpAny_pure (q m h' t (fun _ _ => rfl) (by simpa using S'))
  | succ k ih =>
    intro i m acc h t e hz S q
    refine codeAny_of_tree ?_
    rw [Around.under_of_weight rfl rfl]
    show wpAny _ A ((compTurn (.ListComp (.Name y pe) [⟨t1, it1, [], 0⟩, ⟨.Name y py, it2, [], 0⟩] scope pos) 1 (.ref it) (.ref D) env).onRaise _) _ _ _
    refine wpAny_onRaise (ok_of ?_)
    rw [turn1]
    refine wpAny_bind (wpAny_standAt (wpAny_bind ((iter_list hl).next (by omega) S fun v h' t' hv S' => ?_)))
    refine wpAny_bind (wpAny_of_eq (by rfl) (wpAny_bind (a_loc0 S' (fun h2 t2 S2 => ?_) hC hkind hy)))
    refine wpAny_bind (wpAny_bind (e_loc0 S2 (v := v) (by simp [upd]) (wpAny_bind (o_append S2 2 rfl (k_le_line (by omega)) fun h3 S3 => wpAny_pure ?_)) hC hkind hy hdb))
    refine wpAny_pure ⟨rfl, ih (i + 1) _ (acc ++ [v]) h3 t2 (by omega) (by simp; omega) S3 fun m' h' t' hm' S' => q m' h' t' (fun z hz => ?_) ?_⟩
    · rw [hm' z hz]; simp [upd, hz]
    · have e2 : ws.drop i = v :: ws.drop (i + 1) := by
        have hlt : i < ws.length := by omega
        rw [List.drop_eq_getElem_cons hlt]
        congr 1
        rw [List.getElem?_eq_getElem hlt] at hv
        exact Option.some.inj hv
      rw [e2]
      simpa using S'
theorem inner_start {t1 it1 it2 : Expr} {y : Str} {py pe : Pos} {scope : Scope} {it C D G : Addr} {ws : List Value} {m : Str → Option Value} {acc : List Value} {Q : Flow → Shared → Prop} (hh : A.handled = none) (hl : g.IsList G ws.toArray) (hz : acc.length + ws.length ≤ 100000)
    (hC : env.locals = C) (hkind : env.scope.kind = .function) (hy : env.kindOf y = some .local) (hdb : (y == ("__debug__" : Str)) = false)
    (S : St g ((C, isNs m) :: (it, isLIt G 0) :: (D, isLst acc) :: R) h)
    (q : ∀ m' h' t', (∀ z, z ≠ y → m' z = m z) → St g ((C, isNs m') :: (D, isLst (acc ++ ws)) :: R) h' → Q .next ⟨h', gn, d, t', os⟩) :
    OkC w A (.compStart (.ListComp (.Name y pe) [⟨t1, it1, [], 0⟩, ⟨.Name y py, it2, [], 0⟩] scope pos) 1 (.ref it) (.ref D) env) Q ⟨h, gn, d, t, os⟩ := by
  have go : ∀ t, OkC w A (.compLoop (.ListComp (.Name y pe) [⟨t1, it1, [], 0⟩, ⟨.Name y py, it2, [], 0⟩] scope pos) 1 (.ref it) (.ref D) env) Q ⟨h, gn, d, t, os⟩ := fun t =>
    inner_loop hh hl hC hkind hy hdb ws.length 0 m acc h t (by omega) hz S (by simpa using q)
  refine codeAny_of_tree ?_
  rw [Around.under_of_weight rfl rfl]
  show wpAny _ A ((compStart (.ListComp (.Name y pe) [⟨t1, it1, [], 0⟩, ⟨.Name y py, it2, [], 0⟩] scope pos) 1 (.ref it) (.ref D) env).onRaise _) _ _ _
  refine wpAny_onRaise (ok_of ?_)
  unfold compStart
  show wpAny _ _ (ask >>= _) _ _ _
  refine wpAny_bind (wpAny_askSetting (wpAny_ite ?_))
  split
  · first
      | exact wpAny_bind (wpAny_pure (wpAny_pure (And.intro rfl (go _))))
      | exact wpAny_pure (And.intro rfl (go _))
  · refine wpAny_bind (wpAny_rule ?_)
    show wpAny _ _ (standAt it2.pos >>= _) _ _ _
    exact wpAny_bind (wpAny_standAt (wpAny_bind ((iter_list hl).self S (wpAny_pure (And.intro rfl (go _))))))
/-- [y for x in (a list that stays) for y in e(x)], each e(x) a list that stays -/
theorem comp2 {it1 it2 : Expr} {x y : Str} {px py pe : Pos} {scope : Scope} {cl : List (Str × Addr)} {it G : Addr} {us : List Value} {F : Nat → List Value} {e0 : Ent} {Q : Value → Shared → Prop} (hh : A.handled = none) (hl : g.IsList G us.toArray) (hz : us.length ≤ 100) (hF : ∀ i, (F i).length ≤ 10)
    (step : ∀ i v h t C m D acc, i < us.length → us[i]? = some v → m x = some v → St g ((C, isNs m) :: (it, isLIt G (i + 1)) :: (D, isLst acc) :: e0 :: R) h →
      ∀ (T : Value → Shared → Prop), (∀ H, g.IsList H (F i).toArray → ∀ t', T (.ref H) ⟨h, gn, d, t', os⟩) → Ok w A (eval it2 (compEnvC scope cl C env)) T ⟨h, gn, d, t, os⟩)
    (S : St g (e0 :: (it, isLIt G 0) :: R) h)
    (q : ∀ D h t, St g (e0 :: (D, isLst ((List.range us.length).flatMap F)) :: R) h → Q (.ref D) ⟨h, gn, d, t, os⟩)
    (hf2 : ∀ C v, foldedSetIterable it2 (compEnvC scope cl C env) v = pure v)
    (hkind : scope.kind = .function := by rfl) (hcell : (scope.names.all fun y => y.2 != .cell) = true := by decide) (hx : scope.names.lookup x = some .local := by rfl) (hy : scope.names.lookup y = some .local := by rfl) (hxy : x ≠ y := by simp [ofs_inj]) (hdb : (y == ("__debug__" : Str)) = false := by rfl) :
    CompGo w A (.ListComp (.Name y pe) [⟨.Name x px, it1, [], 0⟩, ⟨.Name y py, it2, [], 0⟩] scope pos) scope cl env (.ref it) Q ⟨h, gn, d, t, os⟩ := by
  refine wpAny_newObj_type (wpAny_newFunctionEnv (fun y hy => by simpa using List.all_eq_true.mp hcell y hy) (by intro y hy; simp at hy) (fun h₁ hns₁ hsb₁ => ?_) hkind)
  dsimp only at hns₁ hsb₁ ⊢
  have S1 : St g ((h.objs.size, isLst []) :: e0 :: (it, isLIt G 0) :: R) (h.push { cls := .type "list", dict := none, data := .seq ([] : List Value).toArray }) := S.cons (get_size h) (Ext.push _ _) ⟨_, Heap.get?_push_size _ rfl, _, rfl⟩
  generalize h.objs.size = D at S1 ⊢
  generalize (h.push { cls := .type "list", dict := none, data := .seq ([] : List Value).toArray }) = H2 at S1 hns₁ hsb₁ ⊢
  have X1 : Ext H2 h₁ := fun b o e => hsb₁.extBut b o (Nat.ne_of_lt (Heap.lt_size e)) (Heap.get?_push_of_some _ e)
  have S2 := S1.cons (get_size H2) X1 (ns_iff.mpr hns₁)
  generalize H2.objs.size = C at S2 ⊢
  have S3 : St g ((C, isNs _) :: (it, isLIt G 0) :: (D, isLst []) :: e0 :: R) h₁ := S2.perm (.cons _ (List.perm_middle (l₁ := [(D, isLst []), e0])))
  have hlen : ∀ i, ((List.range i).flatMap F).length ≤ 10 * i := by
    intro i
    induction i with
    | zero => simp
    | succ i ih =>
      have e7 : [i].flatMap F = F i := by simp
      rw [List.range_succ, List.flatMap_append, List.length_append, e7]
      have := hF i
      omega
  have main : ∀ k i m h t, i + k = us.length → St g ((C, isNs m) :: (it, isLIt G i) :: (D, isLst ((List.range i).flatMap F)) :: e0 :: R) h →
      codeAny (model pg w) A (.compLoop (.ListComp (.Name y pe) [⟨.Name x px, it1, [], 0⟩, ⟨.Name y py, it2, [], 0⟩] scope pos) 0 (.ref it) (.ref D) (compEnvC scope cl C env)) (compPost (model pg w) A (fun _ _ => False) none Q (.ref D) C) ⟨h, gn, d, t, os⟩ := by
    intro k
    induction k with
    | zero =>
      intro i m h t e S
      obtain rfl : i = us.length := by omega
      refine codeAny_of_tree ?_
      rw [Around.under_of_weight rfl rfl]
      show wpAny _ A ((compTurn (.ListComp (.Name y pe) [⟨.Name x px, it1, [], 0⟩, ⟨.Name y py, it2, [], 0⟩] scope pos) 0 (.ref it) (.ref D) (compEnvC scope cl C env)).onRaise _) _ _ _
      refine wpAny_onRaise (ok_of ?_)
      rw [turn0]
      refine wpAny_bind (wpAny_standAt (wpAny_bind ((iter_list hl).done hh S fun h' S' => wpAny_pure ?_)))
      have S'' : St g (e0 :: (C, isNs m) :: (D, isLst _) :: R) h' := S'.perm (List.perm_middle (l₁ := [(C, isNs m), (D, isLst _)]))
      exact ⟨m, ns_iff.mp (S''.at 1 rfl), fun h'' hs => q D h'' t (S''.lose hs.extBut)⟩
    | succ k ih =>
      intro i m h t e S
      refine codeAny_of_tree ?_
      rw [Around.under_of_weight rfl rfl]
      show wpAny _ A ((compTurn (.ListComp (.Name y pe) [⟨.Name x px, it1, [], 0⟩, ⟨.Name y py, it2, [], 0⟩] scope pos) 0 (.ref it) (.ref D) (compEnvC scope cl C env)).onRaise _) _ _ _
      refine wpAny_onRaise (ok_of ?_)
      rw [turn0]
      refine wpAny_bind (wpAny_standAt (wpAny_bind ((iter_list hl).next (by omega) S fun v h' t' hv S' => ?_)))
      refine wpAny_bind (wpAny_of_eq (by rfl) (wpAny_bind (a_loc0 S' (fun h2 t2 S2 => ?_) rfl hkind (lookup_relabel_local hx))))
      refine wpAny_bind (step i v h2 t2 C (upd m x v) D _ (by omega) hv (by simp [upd]) S2 _ fun H hH t3 => ?_)
      refine wpAny_bind (wpAny_standAt (wpAny_bind (wpAny_of_eq (hf2 C _) (wpAny_bind (wpAny_holding (i_list hH S2 fun j h4 S4 => ?_))))))
      have S5 : St g ((C, isNs (upd m x v)) :: (j, isLIt H 0) :: (D, isLst ((List.range i).flatMap F)) :: (it, isLIt G (i + 1)) :: e0 :: R) h4 := S4.perm (.cons _ (.cons _ (.swap _ _ _)))
      have h1 := hlen i
      have h2 := hF i
      refine wpAny_bind (wpAny_runOwn (codeAny_mono (inner_start (A := A.mark none) hh hH (by omega) rfl hkind (lookup_relabel_local hy) hdb S5 (Q := fun f s' => f = .next ∧ ∃ m' h' t', s' = ⟨h', gn, d, t', os⟩ ∧ St g ((C, isNs m') :: (D, isLst ((List.range i).flatMap F ++ F i)) :: (it, isLIt G (i + 1)) :: e0 :: R) h') fun m' h' t' hm' S' => ⟨rfl, m', h', t', rfl, S'⟩) fun r s' z => ?_))
      rcases r with er | f
      · exact z.elim
      · obtain ⟨rfl, m', h6, t6, rfl, S6⟩ := z
        refine wpAny_pure ⟨rfl, ih (i + 1) m' h6 t6 (by omega) ?_⟩
        rw [List.range_succ, List.flatMap_append]
        have e7 : [i].flatMap F = F i := by simp
        rw [e7]
        exact S6.perm (.cons _ (.swap _ _ _))
  exact codeAny_compStart_list (main us.length 0 _ h₁ _ (by omega) S3) (ok_of ((iter_list hl).self S3 (main us.length 0 _ h₁ _ (by omega) S3)))
end
end Mine
end

section
open PySem PySem.W PySem.W.X PyProof.Rows
set_option Elab.async false
set_option maxRecDepth 100000
set_option linter.unusedSimpArgs false
namespace Mine
def frsG (l : List Int) : List Int × Int := l.foldl (fun (p : List Int × Int) t => (p.1 ++ [p.2 + 2 ^ t.toNat], p.2 + 2 ^ t.toNat)) ([], 0)
def frs (l : List Int) : List Int := (frsG l).1
def cntF (bs : Nat → Bool) (l : List Int) : Int := (((frs l).filter fun c => bs c.toNat).length : Nat)
def rot (l : List Int) : List Int := (frs l).drop 3 ++ (frs l).take 3
def fndF (rl : Nat → List (Int × Str)) (l : List Int) : Int := lowF ((rot l).flatMap fun c => rl c.toNat)
theorem frsG_snoc (l : List Int) (i : Nat) (x : Int) (h : l[i]? = some x) : frsG (l.take (i + 1)) = ((frsG (l.take i)).1 ++ [(frsG (l.take i)).2 + 2 ^ x.toNat], (frsG (l.take i)).2 + 2 ^ x.toNat) := by
  unfold frsG
  rw [List.take_add_one, h, List.foldl_append]; rfl
theorem ord_ok : ∀ l ∈ ordA 4, l.length = 4 ∧ (∀ x ∈ l, ∃ k : Nat, k ≤ 3 ∧ x = k) ∧ (∀ x ∈ frs l, ∃ k : Nat, k < 16 ∧ x = k) ∧ (frs l).length = 4 := by
  have key : ∀ l ∈ ordA 4, l.length = 4 ∧ (∀ x ∈ l, 0 ≤ x ∧ x ≤ 3) ∧ (∀ x ∈ frs l, 0 ≤ x ∧ x < 16) ∧ (frs l).length = 4 := by decide +kernel
  intro l hl
  obtain ⟨h1, h2, h3, h4⟩ := key l hl
  exact ⟨h1, fun x hx => ⟨x.toNat, by have := h2 x hx; omega, by have := h2 x hx; omega⟩, fun x hx => ⟨x.toNat, by have := h3 x hx; omega, by have := h3 x hx; omega⟩, h4⟩
theorem ord_len : (ordA 4).length = 24 := by decide +kernel

structure RulesB (g : Heap) (C Rl : Addr) (rl : Nat → List (Int × Str)) : Prop where
  ls : ∃ rvs : List Value, g.IsList Rl rvs.toArray ∧ ∀ k < 16, ∃ D ws, rvs[k]? = some (.ref D) ∧ g.IsList D ws.toArray ∧ RulesAre g C ws (rl k)
  small : ∀ k < 16, (rl k).length ≤ 10 ∧ ∀ r ∈ rl k, r.2.length ≤ 10
theorem RulesB.ext {g g' : Heap} {C Rl : Addr} {rl : Nat → List (Int × Str)} (x : RulesB g C Rl rl) (e : Ext g g') : RulesB g' C Rl rl :=
  ⟨let ⟨rvs, a, b⟩ := x.ls; ⟨rvs, IsList.ext a e, fun k hk => let ⟨D, ws, p, q, r⟩ := b k hk; ⟨D, ws, p, IsList.ext q e, r.ext e⟩⟩, x.small⟩
def BelowB (g : Heap) (Bl : Addr) (bs : Nat → Bool) : Prop := ∃ bvs : List Value, g.IsList Bl bvs.toArray ∧ ∀ k < 18, bvs[k]? = some (.bool (bs k))
theorem BelowB.ext {g g' : Heap} {Bl : Addr} {bs : Nat → Bool} (x : BelowB g Bl bs) (e : Ext g g') : BelowB g' Bl bs := let ⟨bvs, a, b⟩ := x; ⟨bvs, IsList.ext a e, b⟩
theorem rules_flat {g : Heap} {C : Addr} {rl : Nat → List (Int × Str)} {F : Nat → List Value} (cs : List Int) (hF : ∀ i c, cs[i]? = some c → RulesAre g C (F i) (rl c.toNat)) : RulesAre g C ((List.range cs.length).flatMap F) (cs.flatMap fun c => rl c.toNat) := by
  have : ∀ n, n ≤ cs.length → RulesAre g C ((List.range n).flatMap F) ((cs.take n).flatMap fun c => rl c.toNat) := by
    intro n
    induction n with
    | zero => intro _; exact .nil
    | succ n ih =>
      intro hn
      have hlt : n < cs.length := by omega
      rw [List.range_succ, List.flatMap_append, List.take_add_one, List.getElem?_eq_getElem hlt, List.flatMap_append]
      refine (ih (by omega)).append ?_
      simpa using hF n cs[n] (by rw [List.getElem?_eq_getElem hlt])
  simpa using this cs.length (Nat.le_refl _)

section
variable {w : World} {A : Around} {g h : Heap} {es R : List Ent} {gn : Array GenState} {d : Drawn} {t : Nat} {os : OsState} {K : Frag} {C fI fA L f Bl Rl : Addr} {m : Str → Option Value} {cd : Value} {bs : Nat → Bool} {rl : Nat → List (Int × Str)}
abbrev lawE (L f : Addr) (cd : Value) : Env := envOfC (fname 14) (fscope 14) L f cd
/-- the loop over one order's places -/
theorem law_inner {n : Nat} {r it : Addr} {P : Obj → Prop} {l : List Int} {ivs : List Value} {Cn Fd : Addr} {cvs fvs : List Value} {Q : Flow → Shared → Prop} (hf : Fine A (n + 9)) (hl : g.IsList r ivs.toArray) (hi : IntsAre ivs l) (hlok : l ∈ ordA 4)
    (hm0 : m (Str.ofString "order") = some (.ref r)) (hm1 : m (Str.ofString "counted") = some (.ref Cn)) (hm2 : m (Str.ofString "found") = some (.ref Fd))
    (S : St g ((L, isNs m) :: (it, P) :: (Cn, isLst cvs) :: (Fd, isLst fvs) :: es) h)
    (q : ∀ m' Fr fv h' t', m' (Str.ofString "counted") = some (.ref Cn) → m' (Str.ofString "found") = some (.ref Fd) → m' (Str.ofString "fronts") = some (.ref Fr) → IntsAre fv (frs l) → St g ((L, isNs m') :: (Fr, isLst fv) :: (it, P) :: (Cn, isLst cvs) :: (Fd, isLst fvs) :: es) h' →
      Ok w A (execs ((forBody 14 14).drop 3) (lawE L f cd)) Q ⟨h', gn, d, t', os⟩) :
    Ok w A (execs (forBody 14 14) (lawE L f cd)) Q ⟨h, gn, d, t, os⟩ := by
  obtain ⟨o1, o2, o3, o4⟩ := ord_ok l hlok
  refine x_cons (x_asg (e_int fun u1 t1 => s_loc0 S fun h2 t2 S2 => ?_))
  refine x_cons (x_asg (e_list0 S2 fun Fr h3 S3 => s_loc0 S3 fun h4 t4 S4 => ?_))
  refine x_cons (x_for (e_loc0 S4 (v := .ref r) (by simp [upd, ofs_inj, hm0]) (i_list hl S4 fun i2 h5 S5 => ?_)))
  refine for_iter (iter_list hl) hf.1 (fun j m R gn' => gn = gn' ∧ m (Str.ofString "counted") = some (.ref Cn) ∧ m (Str.ofString "found") = some (.ref Fd) ∧ m (Str.ofString "fronts") = some (.ref Fr) ∧ ∃ u fv, m (Str.ofString "chosen") = some (.int (frsG (l.take j)).2 u) ∧ R = (Fr, isLst fv) :: (it, P) :: (Cn, isLst cvs) :: (Fd, isLst fvs) :: es ∧ IntsAre fv (frsG (l.take j)).1)
    ?_ ⟨rfl, by simp [upd, ofs_inj, hm1], by simp [upd, ofs_inj, hm2], by simp [upd, ofs_inj], u1, [], by simp [upd, ofs_inj, frsG], rfl, .nil⟩ S5 ?_
  · rintro j v m R gn' h t hj hv ⟨rfl, hm1, hm2, hm3, u, fv, hmc, rfl, hfv⟩ S6
    obtain ⟨x, ux, rfl, hx⟩ := ints_get hi hv
    obtain ⟨k, hk, rfl⟩ := o2 x (List.mem_of_getElem? hx)
    have e := frsG_snoc l j _ hx
    have hfl := ints_len hfv
    refine x_cons (x_asg (e_bin (e_loc0 S6 (v := .int (frsG (l.take j)).2 u) (by simp [upd, ofs_inj, hmc]) (e_bin (e_int fun u7 t7 => e_loc0 S6 (v := .int k ux) (by simp [upd]) (o_pow2 (by omega) fun u8 t8 => o_add fun u9 t9 => s_loc0 S6 fun h10 t10 S10 => ?_))))))
    have hlen : fv.length ≤ 1000 := by
      have : ∀ l : List Int, (frsG l).1.length = l.length := by
        intro l
        unfold frsG
        have : ∀ (l : List Int) (p : List Int × Int), (l.foldl (fun (p : List Int × Int) t => (p.1 ++ [p.2 + 2 ^ t.toNat], p.2 + 2 ^ t.toNat)) p).1.length = p.1.length + l.length := by
          intro l
          induction l with
          | nil => intro p; rfl
          | cons x l ih => intro p; rw [List.foldl_cons, ih]; simp; omega
        rw [this]; simp
      rw [hfl, this, List.length_take]; omega
    refine x_cons (x_expr (e_append S10 2 rfl (fun Q q => e_loc0 S10 (v := .ref Fr) (by simp [upd, ofs_inj, hm3]) q) (e_loc0 S10 (v := .int ((frsG (l.take j)).2 + 2 ^ k) u9) (by simp [upd]) (o_append S10 2 rfl (k_le_line (by omega)) fun h11 S11 => wpAny_execs_nil ?_))))
    refine ⟨rfl, upd (upd m (Str.ofString "t") (.int k ux)) (Str.ofString "chosen") (.int ((frsG (l.take j)).2 + 2 ^ k) u9), _, gn, h11, _, rfl, ⟨rfl, by simp [upd, ofs_inj, hm1], by simp [upd, ofs_inj, hm2], by simp [upd, ofs_inj, hm3], u9, fv ++ [Value.int ((frsG (l.take j)).2 + 2 ^ k) u9], ?_, rfl, ?_⟩, S11⟩
    · rw [e]; simp [upd, ofs_inj]
    · rw [e]
      simpa using ints_snoc (n := (frsG (l.take j)).2 + 2 ^ k) (u := u9) hfv
  · rintro m R gn' h t ⟨rfl, hm1, hm2, hm3, u, fv, hmc, rfl, hfv⟩ S6
    rw [List.take_of_length_le (by rw [ints_len hi]; exact Nat.le_refl _)] at hfv
    exact q m Fr fv h t hm1 hm2 hm3 hfv S6
end
end Mine
end

section
open PySem PySem.W PySem.W.X PyProof.Rows
set_option Elab.async false
set_option maxRecDepth 100000
set_option linter.unusedSimpArgs false
namespace Mine
section
variable {w : World} {A : Around} {g h : Heap} {es R : List Ent} {gn : Array GenState} {d : Drawn} {t : Nat} {os : OsState} {K : Frag} {C fI fA L f Bl Rl : Addr} {m : Str → Option Value} {cd : Value} {bs : Nat → Bool} {rl : Nat → List (Int × Str)}
set_option maxHeartbeats 2000000 in
/-- the rest of one turn of the loop over the orders -/
theorem law_turn {n : Nat} {it Fr : Addr} {P : Obj → Prop} {l : List Int} {fv : List Value} {Cn Fd : Addr} {cvs fvs : List Value} {Q : Flow → Shared → Prop} (hf : Fine A (n + 9)) (B : Base g) (H : Cls g K C fI fA) (hk : keepIn K (.ref C) = true) (F0 : IsMth g 0 fI) (F3 : IsMth g 3 fA)
    (hlok : l ∈ ordA 4) (hi : IntsAre fv (frs l)) (hbc : Pt g (L + 6) (isCell (some (.ref Bl)))) (hrc : Pt g (L + 7) (isCell (some (.ref Rl)))) (hB : BelowB g Bl bs) (hR : RulesB g C Rl rl)
    (hm1 : m (Str.ofString "counted") = some (.ref Cn)) (hm2 : m (Str.ofString "found") = some (.ref Fd)) (hm3 : m (Str.ofString "fronts") = some (.ref Fr)) (hc : cvs.length ≤ 100) (hc2 : fvs.length ≤ 100)
    (S : St g ((L, isNs m) :: (Fr, isLst fv) :: (it, P) :: (Cn, isLst cvs) :: (Fd, isLst fvs) :: es) h)
    (q : ∀ u1 u2 h' t', St g ((L, isNs m) :: (it, P) :: (Cn, isLst (cvs ++ [.int (cntF bs l) u1])) :: (Fd, isLst (fvs ++ [.int (fndF rl l) u2])) :: es) h' → Q .next ⟨h', gn, d, t', os⟩) :
    Ok w A (execs ((forBody 14 14).drop 3) (lawE L f cd)) Q ⟨h, gn, d, t, os⟩ := by
  obtain ⟨o1, o2, o3, o4⟩ := ord_ok l hlok
  obtain ⟨f13, Gf13, F13⟩ := B.fn 13 (by decide)
  have Gl := B.blt (Str.ofString "len", .builtin "len") (by simp [bltins])
  have hfl := ints_len hi
  obtain ⟨g1, S1, X1, P1⟩ := S.freeze (a := Fr) (List.perm_middle (l₁ := [_]))
  have hl1 := IsLst.toIsList P1
  have hbc1 := hbc.ext X1
  obtain ⟨bvs, hb1, hb2⟩ := hB.ext X1
  -- counted
  refine x_cons (x_expr (e_append S1 2 rfl (fun Q q => e_loc0 S1 hm1 q) (e_gB S1 (Gl.ext X1) (e_comp (cl := [(Str.ofString "below", L + 6)]) (by rfl) (e_loc0 S1 hm3 (i_list hl1 S1 fun i2 h2 S2 => ?_))))))
  refine comp_iter (iter_list hl1) hf.1 (by omega) (fun i acc R gn' => gn = gn' ∧ R = _ ∧ IntsAre acc (((frs l).take i).filter fun c => bs c.toNat)) ?_ ⟨rfl, rfl, .nil⟩ S2 ?_
  · rintro i v acc R gn' h t C' m' D hi' hv ⟨rfl, rfl, ha⟩ hm hlen S4
    obtain ⟨x, u, rfl, hx⟩ := ints_get hi hv
    have e := take_succ_filter (fun c : Int => bs c.toNat) (frs l) i x hx
    obtain ⟨k, hk16, rfl⟩ := o3 x (List.mem_of_getElem? hx)
    refine ts_one (t_val (e_sub (e_cellB S4 hbc1 rfl (e_loc0 S4 hm (o_item (IsList.ext hb1 S4.ext) (by omega) (hb2 k (by omega)) (t_bool ?_))))))
    have ek : ((k : Int)).toNat = k := by omega
    by_cases c : bs k = true
    · rw [if_pos c]
      refine e_loc0 S4 hm ⟨_, _, _, _, rfl, ⟨rfl, rfl, ?_⟩, S4⟩
      rw [e, ek, if_pos c]
      exact ints_snoc ha
    · rw [if_neg c]
      refine ⟨_, _, _, _, rfl, ⟨rfl, rfl, ?_⟩, S4⟩
      rw [e, ek, if_neg c, List.append_nil]
      exact ha
  rintro D acc R gn' h5 t5 ⟨rfl, rfl, ha⟩ hlen S5
  rw [hfl, List.take_length] at ha
  have hal := ints_len ha
  refine o_lenL (IsLst.toIsList (S5.at 1 rfl)) (by omega) fun u6 t6 => ?_
  have ec : (acc.length : Int) = cntF bs l := by rw [hal]; rfl
  rw [ec]
  refine o_append S5 3 rfl (k_le_line (by omega)) fun h7 S7 => ?_
  have S7 : St g1 ((L, isNs m) :: (it, P) :: (Cn, isLst (cvs ++ [.int (cntF bs l) u6])) :: (Fd, isLst fvs) :: es) h7 := S7.sub (((List.Sublist.refl _).cons _).cons_cons _)
  -- found
  have hlF : ∀ {h'}, Ext g1 h' → h'.IsList Fr fv.toArray := fun x => IsList.ext hl1 x
  refine x_cons (x_expr (e_append S7 3 rfl (fun Q q => e_loc0 S7 hm2 q) (e_gF1 S7 (Gf13.ext X1) (F13.ext X1) (e_comp (cl := [(Str.ofString "rules", L + 7)]) (by rfl) (e_bin (e_sub (e_loc0 S7 hm3 (e_slice (p_some (e_int fun u8 t8 => p_none (p_none ⟨_, _, _, _, _, _, _, _, _, rfl, hlF S7.ext, by simp; omega, .int _ _, .none, .none, by simp, fun D1 h9 hn9 X9 P9 => ?_⟩)))))))))))
  have S9 := S7.second hn9 X9 P9
  refine e_sub (e_loc0 S9 hm3 (e_slice (p_none (p_some (e_int fun u10 t10 => p_none ⟨_, _, _, _, _, _, _, _, _, rfl, hlF S9.ext, by simp; omega, .none, .int _ _, .none, by simp, fun D2 h11 hn11 X11 P11 => ?_⟩)))))
  have S11 := S9.second hn11 X11 P11
  have e3 : (slicePick fv.toArray (some 3) none none).toList = fv.drop 3 := by rw [show (3 : Int) = ((3 : Nat) : Int) from rfl, slicePick_from']
  have e4 : (slicePick fv.toArray none (some 3) none).toList = fv.take 3 := by rw [show (3 : Int) = ((3 : Nat) : Int) from rfl, slicePick_upto']
  rw [e3, e4] at S11
  refine o_addL S11 (S11.at 2 rfl) (S11.at 1 rfl) (by simp; omega) fun D3 h12 S12 => ?_
  have hi3 : IntsAre (fv.drop 3 ++ fv.take 3) (rot l) := (hi.drop 3).append (hi.take 3)
  obtain ⟨g3, S13, X13, P13⟩ := S12.freeze (a := D3) (List.perm_middle (l₁ := [_]))
  have X3 := X1.trans X13
  have hl3 := IsLst.toIsList P13
  have hrc3 := hrc.ext X3
  obtain ⟨⟨rvs, hr1, hr2⟩, hr3⟩ := hR.ext X3
  refine i_list hl3 S13 fun i4 h14 S14 => ?_
  have rotl : (rot l).length = 4 := by unfold rot; simp [o4]
  have rot3 : ∀ x ∈ rot l, ∃ k : Nat, k < 16 ∧ x = k := by
    intro x hx
    rcases List.mem_append.mp hx with hx | hx
    · exact o3 x (List.mem_of_mem_drop hx)
    · exact o3 x (List.mem_of_mem_take hx)
  have pick : ∀ i : Nat, ∃ ws : List Value, ws.length ≤ 10 ∧ ∀ c, (rot l)[i]? = some c → ∃ D, rvs[c.toNat]? = some (.ref D) ∧ g3.IsList D ws.toArray ∧ RulesAre g3 C ws (rl c.toNat) := by
    intro i
    cases e : (rot l)[i]? with
    | none => exact ⟨[], by simp, fun c hc => by cases hc⟩
    | some c =>
      obtain ⟨k, hk16, rfl⟩ := rot3 c (List.mem_of_getElem? e)
      obtain ⟨D, ws, a1, a2, a3⟩ := hr2 k hk16
      refine ⟨ws, by rw [a3.len]; exact (hr3 k hk16).1, fun c hc => ?_⟩
      cases hc
      exact ⟨D, by simpa using a1, a2, by simpa using a3⟩
  obtain ⟨F, hF⟩ : ∃ F : Nat → List Value, ∀ i, (F i).length ≤ 10 ∧ ∀ c, (rot l)[i]? = some c → ∃ D, rvs[c.toNat]? = some (.ref D) ∧ g3.IsList D (F i).toArray ∧ RulesAre g3 C (F i) (rl c.toNat) := ⟨fun i => (pick i).choose, fun i => (pick i).choose_spec⟩
  have hl3l := ints_len hi3
  refine comp2 (F := F) hf.1 hl3 (by omega) (fun i => (hF i).1) ?_ S14 ?_ (fun _ _ => rfl)
  · intro i v h t C' m' D acc hlt hv hm S15 T q
    obtain ⟨x, u, rfl, hx⟩ := ints_get hi3 hv
    obtain ⟨k, hk16, rfl⟩ := rot3 x (List.mem_of_getElem? hx)
    obtain ⟨Dk, b1, b2, b3⟩ := (hF i).2 _ hx
    exact e_sub (e_cellB S15 hrc3 rfl (e_loc0 S15 hm (o_item (IsList.ext hr1 S15.ext) (by omega) (by simpa using b1) (q Dk b2 _))))
  intro D5 h16 t16 S16
  rw [hl3l] at S16
  obtain ⟨g5, S17, X17, P17⟩ := S16.freeze (a := D5) (List.perm_middle (l₁ := [_]))
  have X5 := X3.trans X17
  have hRA : RulesAre g5 C ((List.range (rot l).length).flatMap F) ((rot l).flatMap fun c => rl c.toNat) := (rules_flat (rot l) fun i c hc => ((hF i).2 c hc).elim fun D h => h.2.2).ext X17
  have hlenF : ∀ i, ((List.range i).flatMap F).length ≤ 10 * i := by
    intro i
    induction i with
    | zero => simp
    | succ i ih =>
      have e7 : [i].flatMap F = F i := by simp
      rw [List.range_succ, List.flatMap_append, List.length_append, e7]
      have := (hF i).1
      omega
  have hlen5 := hlenF (rot l).length
  refine ⟨S17.ext |> fun e => (X13.trans X17).trans e, lowest_fn (n := n) (hf.less (by omega)) (B.ext X5) (H.ext X5) hk (F0.ext X5) (F3.ext X5) (F13.ext X5) (IsLst.toIsList P17) hRA (by omega) ?_ S17 fun u18 h18 t18 S18 => ?_⟩
  · intro r hr
    obtain ⟨c, hc1, hc2⟩ := List.mem_flatMap.mp hr
    obtain ⟨k, hk16, rfl⟩ := rot3 c hc1
    exact (hr3 k hk16).2 r (by simpa using hc2)
  have S19 : St g ((L, isNs m) :: (it, P) :: (Cn, isLst (cvs ++ [.int (cntF bs l) u6])) :: (Fd, isLst fvs) :: es) h18 := (S18.weaken X5).sub (((((List.Sublist.refl _).cons _).cons _)).cons_cons _)
  refine o_append S19 3 rfl (k_le_line (by omega)) fun h20 S20 => wpAny_execs_nil ?_
  exact q u6 u18 h20 _ S20
end
end Mine
end

section
open PySem PySem.W PySem.W.X PyProof.Rows
set_option Elab.async false
set_option maxRecDepth 100000
set_option linter.unusedSimpArgs false
namespace Mine
theorem sorted_eq {a b : List Int} (hp : a.Perm b) (ha : a.Pairwise (· ≤ ·)) (hb : b.Pairwise (· ≤ ·)) : a = b :=
  hp.eq_of_pairwise (fun x y _ _ h1 h2 => Int.le_antisymm h1 h2) ha hb
section
variable {w : World} {A : Around} {g h : Heap} {es R : List Ent} {gn : Array GenState} {d : Drawn} {t : Nat} {os : OsState} {K : Frag} {C fI fA L f Bl Rl : Addr} {m : Str → Option Value} {cd : Value} {bs : Nat → Bool} {rl : Nat → List (Int × Str)}
set_option maxHeartbeats 2000000 in
theorem law_d {n : Nat} {Q : Value → Shared → Prop} (hf : Fine A (n + 9)) (B : Base g) (H : Cls g K C fI fA) (hk : keepIn K (.ref C) = true) (F0 : IsMth g 0 fI) (F3 : IsMth g 3 fA)
    (hbc : Pt g (L + 6) (isCell (some (.ref Bl)))) (hrc : Pt g (L + 7) (isCell (some (.ref Rl)))) (hB : BelowB g Bl bs) (hR : RulesB g C Rl rl) (hperm : ((ordA 4).map (cntF bs)).Perm ((ordA 4).map (fndF rl)))
    (S : St g ((L, isNs m) :: es) h) (q : ∀ h' t', St g es h' → Q (.bool true) ⟨h', gn, d, t', os⟩) :
    Ok w A (execs ((fbody 14).drop 12) (lawE L f cd)) (fun fl s' => Q (match fl with | .ret v => v | _ => .none) s') ⟨h, gn, d, t, os⟩ := by
  obtain ⟨f8, Gf8, F8⟩ := B.fn 8 (by decide)
  have Gso := B.blt (Str.ofString "sorted", .builtin "sorted") (by simp [bltins])
  refine x_cons (x_asg (e_list0 S fun Cn h1 S1 => s_loc0 S1 fun h2 t2 S2 => ?_))
  refine x_cons (x_asg (e_list0 S2 fun Fd h3 S3 => s_loc0 S3 fun h4 t4 S4 => ?_))
  refine x_cons (x_for (e_gF0 S4 Gf8 F8 (orders_fn (n := n) (hf.less (by omega)) B F8 S4 fun D rs h5 t5 S5 hrs => ?_)))
  obtain ⟨g1, S6, X6, P6⟩ := S5.freezeAll
  have hD : Pt g1 D (isLst (rs.reverse.map fun r => .ref r.1)) := P6 _ (List.mem_cons_self)
  have hrow : ∀ r ∈ rs, Pt g1 r.1 (isInts r.2) := fun r hr => P6 (rowEnt r) (List.mem_cons_of_mem _ (List.mem_map_of_mem hr))
  have hlD := IsLst.toIsList hD
  refine i_list hlD S6 fun it h7 S7 => ?_
  have hlen : (rs.reverse.map fun r => Value.ref r.1).length = 24 := by
    have := congrArg List.length hrs
    rw [List.length_map, ord_len] at this
    rw [List.length_map]; exact this
  have S7 : St g1 ((L, isNs _) :: (it, isLIt D 0) :: (Fd, isLst []) :: (Cn, isLst []) :: es) h7 := S7
  have S8 := S7.perm (.cons _ (.cons _ (.swap _ _ _)))
  refine for_iter (iter_list hlD) hf.1 (fun i m R gn' => gn = gn' ∧ m (Str.ofString "counted") = some (.ref Cn) ∧ m (Str.ofString "found") = some (.ref Fd) ∧ ∃ cvs fvs, R = (Cn, isLst cvs) :: (Fd, isLst fvs) :: es ∧ IntsAre cvs (((ordA 4).take i).map (cntF bs)) ∧ IntsAre fvs (((ordA 4).take i).map (fndF rl)))
    ?_ ⟨rfl, by simp [upd, ofs_inj], by simp [upd, ofs_inj], [], [], rfl, .nil, .nil⟩ S8 ?_
  · rintro i v m R gn' h t hi hv ⟨rfl, hm1, hm2, cvs, fvs, rfl, hc, hfd⟩ S9
    have hi24 : i < 24 := by omega
    obtain ⟨r, hr1, rfl⟩ : ∃ r, rs.reverse[i]? = some r ∧ v = .ref r.1 := by
      rw [List.getElem?_map] at hv
      obtain ⟨r, a, b⟩ := Option.map_eq_some_iff.mp hv
      exact ⟨r, a, b.symm⟩
    have ho : (ordA 4)[i]? = some r.2 := by rw [← hrs, List.getElem?_map, hr1]; rfl
    have hro : r.2 ∈ ordA 4 := List.mem_of_getElem? ho
    obtain ⟨_, eo, ivs, hivs, hlst⟩ := hrow r (List.mem_reverse.mp (List.mem_of_getElem? hr1))
    have hlr : g1.IsList r.1 ivs.toArray := IsLst.toIsList ⟨_, eo, hlst⟩
    have lc := ints_len hc
    have lf := ints_len hfd
    have ltk : ((ordA 4).take i).length ≤ 24 := by rw [List.length_take, ord_len]; omega
    rw [List.length_map] at lc lf
    refine law_inner (n := n) hf hlr hivs hro (by simp [upd]) (by simp [upd, ofs_inj, hm1]) (by simp [upd, ofs_inj, hm2]) S9 fun m' Fr fv h' t' q1 q2 q3 q4 S10 => ?_
    refine law_turn (n := n) hf (B.ext X6) (H.ext X6) hk (F0.ext X6) (F3.ext X6) hro q4 (hbc.ext X6) (hrc.ext X6) (hB.ext X6) (hR.ext X6) q1 q2 q3 (by omega) (by omega) S10 fun u1 u2 h11 t11 S11 => ?_
    refine ⟨rfl, m', _, gn, h11, t11, rfl, ⟨rfl, q1, q2, _, _, rfl, ?_, ?_⟩, S11⟩
    · rw [List.take_add_one, ho, List.map_append]; exact ints_snoc hc
    · rw [List.take_add_one, ho, List.map_append]; exact ints_snoc hfd
  · rintro m R gn' h t ⟨rfl, hm1, hm2, cvs, fvs, rfl, hc, hfd⟩ S9
    rw [hlen, List.take_of_length_le (by rw [ord_len]; exact Nat.le_refl _)] at hc hfd
    have lc := ints_len hc
    have lf := ints_len hfd
    rw [List.length_map, ord_len] at lc lf
    refine x_cons (x_ret (e_cmp (e_gB S9 (Gso.ext X6) (e_loc0 S9 hm1 (o_sorted S9 (IsLst.toIsList (S9.at 1 rfl)) hc (by omega) fun D1 us1 ns1 h10 a1 a2 a3 S10 => ?_)))))
    refine e_gB S10 (Gso.ext X6) (e_loc0 S10 hm2 (o_sorted S10 (IsLst.toIsList (S10.at 3 rfl)) hfd (by omega) fun D2 us2 ns2 h11 b1 b2 b3 S11 => ?_))
    obtain rfl : ns1 = ns2 := sorted_eq (a2.trans (hperm.trans b2.symm)) a3 b3
    refine o_eqI hf.units (IsLst.toIsList (S11.at 2 rfl)) (IsLst.toIsList (S11.at 1 rfl)) a1 b1 ?_
    exact q _ _ ((S11.weaken X6).sub ((((((List.Sublist.refl _).cons _).cons _).cons _).cons _).cons _))
end
end Mine
end

section
open PySem PySem.W PySem.W.X PyProof.Rows
set_option Elab.async false
set_option maxRecDepth 100000
set_option linter.unusedSimpArgs false
namespace Mine
def isT : Obj → Prop := fun o => ∃ ps, o = tabObj ps
theorem isTab.mono {g g' : Heap} (X : Ext g g') : ∀ o, isTab g o → isTab g' o := by
  rintro o ⟨ps, h1, h2, h3⟩
  exact ⟨ps, h1, h2, h3.imp id fun ⟨c, a, b⟩ => ⟨c, a, b.keeps X⟩⟩
theorem rulesF_small (ns : List Int) (ch : Int) : (rulesF ns ch).length ≤ 10 ∧ ∀ r ∈ rulesF ns ch, r.2.length ≤ 10 := by
  have hl := part_len ns ch 1
  have e : ∀ k : Nat, k ≤ 4 → (Str.ofString (toString (k : Int))).length ≤ 10 := by
    intro k hk
    have : k = 0 ∨ k = 1 ∨ k = 2 ∨ k = 3 ∨ k = 4 := by omega
    rcases this with rfl | rfl | rfl | rfl | rfl <;> decide
  unfold rulesF
  constructor
  · rw [List.length_map, List.length_take]; simp; omega
  · intro r hr
    obtain ⟨v, hv, rfl⟩ := List.mem_map.mp hr
    have := List.mem_of_mem_take hv
    simp only [List.mem_cons, List.not_mem_nil, or_false] at this
    rcases this with rfl | rfl
    · show (Str.ofString "").length ≤ 10
      decide
    · exact e _ hl

section
variable {w : World} {A : Around} {g h : Heap} {es R : List Ent} {gn : Array GenState} {d : Drawn} {t : Nat} {os : OsState} {env : Env} {pos p : Pos}
theorem comp_iterG {elt iter : Expr} {x : Str} {px : Pos} {scope : Scope} {cl : List (Str × Addr)} {it : Addr} {P : Nat → Obj → Prop} {n : Nat} {V : Nat → Value → Prop} {e0 : Ent} {Q : Value → Shared → Prop} (It : ∀ g, Iter w g it P n V) (hh : A.handled = none) (hsz : n ≤ 1000)
    (J : Nat → Heap → List Value → List Ent → Prop)
    (step : ∀ i v acc R g h t C m D, i < n → V i v → J i g acc R → m x = some v → acc.length ≤ i → St g ((C, isNs m) :: (it, P (i + 1)) :: (D, isLst acc) :: e0 :: R) h →
      Ok w A (eval elt (compEnvC scope cl C env)) (fun y s'' => ∃ g' R' h' t', s'' = ⟨h', gn, d, t', os⟩ ∧ J (i + 1) g' (acc ++ [y]) R' ∧ St g' ((C, isNs m) :: (it, P (i + 1)) :: (D, isLst acc) :: e0 :: R') h') ⟨h, gn, d, t, os⟩)
    (j0 : J 0 g [] R) (S : St g (e0 :: (it, P 0) :: R) h)
    (q : ∀ D acc R g h t, J n g acc R → acc.length ≤ n → St g (e0 :: (D, isLst acc) :: R) h → Q (.ref D) ⟨h, gn, d, t, os⟩)
    (hkind : scope.kind = .function := by rfl) (hcell : (scope.names.all fun y => y.2 != .cell) = true := by decide) (hx : scope.names.lookup x = some .local := by rfl) :
    CompGo w A (.ListComp elt [⟨.Name x px, iter, [], 0⟩] scope pos) scope cl env (.ref it) Q ⟨h, gn, d, t, os⟩ := by
  refine wpAny_newObj_type (wpAny_newFunctionEnv (fun y hy => by simpa using List.all_eq_true.mp hcell y hy) (by intro y hy; simp at hy) (fun h₁ hns₁ hsb₁ => ?_) hkind)
  dsimp only at hns₁ hsb₁ ⊢
  have S1 : St g ((h.objs.size, isLst []) :: e0 :: (it, P 0) :: R) (h.push { cls := .type "list", dict := none, data := .seq ([] : List Value).toArray }) := S.cons (get_size h) (Ext.push _ _) ⟨_, Heap.get?_push_size _ rfl, _, rfl⟩
  generalize h.objs.size = D at S1 ⊢
  generalize (h.push { cls := .type "list", dict := none, data := .seq ([] : List Value).toArray }) = H2 at S1 hns₁ hsb₁ ⊢
  have X1 : Ext H2 h₁ := fun b o e => hsb₁.extBut b o (Nat.ne_of_lt (Heap.lt_size e)) (Heap.get?_push_of_some _ e)
  have S2 := S1.cons (get_size H2) X1 (ns_iff.mpr hns₁)
  generalize H2.objs.size = C at S2 ⊢
  have S3 : St g ((C, isNs _) :: (it, P 0) :: (D, isLst []) :: e0 :: R) h₁ := S2.perm (.cons _ (List.perm_middle (l₁ := [(D, isLst []), e0])))
  have main : ∀ k i acc m R g h t, i + k = n → acc.length ≤ i → J i g acc R → St g ((C, isNs m) :: (it, P i) :: (D, isLst acc) :: e0 :: R) h →
      codeAny (model pg w) A (.compLoop (.ListComp elt [⟨.Name x px, iter, [], 0⟩] scope pos) 0 (.ref it) (.ref D) (compEnvC scope cl C env)) (compPost (model pg w) A (fun _ _ => False) none Q (.ref D) C) ⟨h, gn, d, t, os⟩ := by
    intro k i acc m R g h t e hl j S
    refine codeAny_compLoop_list (fun k s => ∃ i acc m R g h t, s = ⟨h, gn, d, t, os⟩ ∧ i + k = n ∧ acc.length ≤ i ∧ J i g acc R ∧ St g ((C, isNs m) :: (it, P i) :: (D, isLst acc) :: e0 :: R) h) ?_ k ⟨i, acc, m, R, g, h, t, rfl, e, hl, j, S⟩
    rintro k s ⟨i, acc, m, R, g, h, t, rfl, e, hl, j, S⟩
    cases k with
    | zero =>
      obtain rfl : i = n := by omega
      refine ok_of ((It g).done hh S fun h' S' => ?_)
      have S'' : St g (e0 :: (C, isNs m) :: (D, isLst acc) :: R) h' := S'.perm (List.perm_middle (l₁ := [(C, isNs m), (D, isLst acc)]))
      exact ⟨m, ns_iff.mp (S''.at 1 rfl), fun h'' hs => q D acc R g h'' t j hl (S''.lose hs.extBut)⟩
    | succ k =>
      refine ok_of ((It g).next (by omega) S fun v h' t' hv S' => ?_)
      refine ok_of (a_loc0 S' (fun h2 t2 S2 => ?_) rfl hkind (lookup_relabel_local hx))
      refine ok_of (wpAny_mono (step i v acc R g h2 t2 C (upd m x v) D (by omega) hv j (by simp [upd]) hl S2) (fun y s'' hs => ?_) fun _ _ e => e)
      obtain ⟨g', R', h', t', rfl, j', S3⟩ := hs
      refine ok_of (o_append S3 2 rfl (k_le_line (by omega)) fun h15 S15 => ?_)
      exact ⟨k, Nat.lt_succ_self k, i + 1, acc ++ [y], _, R', g', h15, _, rfl, by omega, by simp; omega, j', S15⟩
  refine codeAny_compStart_list (main n 0 [] _ R g h₁ _ (by omega) (by simp) j0 S3) (ok_of ((It g).self S3 (main n 0 [] _ R g h₁ _ (by omega) (by simp) j0 S3)))
end

section
variable {w : World} {A : Around} {g h : Heap} {es R : List Ent} {gn : Array GenState} {d : Drawn} {t : Nat} {os : OsState} {K : Frag} {C fI fA L f f12 c Pl Bl U : Addr} {m : Str → Option Value} {cd : Value} {bs : Nat → Bool}
set_option maxHeartbeats 2000000 in
theorem law_c {n : Nat} {Q : Value → Shared → Prop} {uvs : List Value} {ns : List Int} (hf : Fine A (n + 9)) (B : Base g) (H : Cls g K C fI fA) (hk : keepIn K (.ref C) = true) (F0 : IsMth g 0 fI) (F3 : IsMth g 3 fA) (G12 : Glb g (fname 12) (.ref f12)) (F12 : IsFn g 12 f12) (Y : Lam0 g f12 c Pl)
    (huc : Pt g (L + 3) (isCell (some (.ref U)))) (hul : g.IsList U uvs.toArray) (hui : IntsAre uvs ns) (hz : ns.length = 4)
    (hbc : Pt g (L + 6) (isCell (some (.ref Bl)))) (hB : BelowB g Bl bs) (hperm : ((ordA 4).map (cntF bs)).Perm ((ordA 4).map (fndF fun k => rulesF ns k)))
    (S : St g ((L, isNs m) :: (L + 7, isCell none) :: (Pl, isTab g) :: es) h) (q : ∀ h' t', St g ((Pl, isT) :: es) h' → Q (.bool true) ⟨h', gn, d, t', os⟩) :
    Ok w A (execs ((fbody 14).drop 11) (lawE L f cd)) (fun fl s' => Q (match fl with | .ret v => v | _ => .none) s') ⟨h, gn, d, t, os⟩ := by
  have Gr := B.blt (Str.ofString "range", .type "range") (by simp [bltins])
  refine x_cons (x_asg (e_comp (cl := [(Str.ofString "ups", L + 3)]) (by rfl) (e_gT S Gr (e_int fun u1 t1 => o_range (n := 16) S fun r x1 x2 x3 h2 t2 S2 hr => i_range (by omega) hr S2 fun it h3 S3 => ?_))))
  have S3 : St g ((L, isNs m) :: (it, isRIt 16 0) :: (Pl, isTab g) :: (L + 7, isCell none) :: es) h3 := S3.perm (.cons _ (.cons _ (.swap _ _ _)))
  refine comp_iterG (n := 16) (P := isRIt 16) (fun g => iter_range (n := 16)) hf.1 (by omega) (fun i g' acc R => R = (Pl, isTab g') :: (L + 7, isCell none) :: es ∧ Ext g g' ∧ acc.length = i ∧ ∀ k < i, ∃ D ws, acc[k]? = some (.ref D) ∧ g'.IsList D ws.toArray ∧ RulesAre g' C ws (rulesF ns k))
    ?_ ⟨rfl, Ext.refl g, rfl, fun k hk => absurd hk (by omega)⟩ S3 ?_
  · rintro i v acc R g1 h t C' m' D hi ⟨u, rfl⟩ ⟨rfl, X1, hal, hac⟩ hm hlen S4
    have S5 : St g1 ((Pl, isTab g1) :: (C', isNs m') :: (it, isRIt 16 (i + 1)) :: (D, isLst acc) :: (L, isNs m) :: (L + 7, isCell none) :: es) h := S4.perm (List.perm_middle (l₁ := [_, _, _, _]))
    refine e_gF2 S4 (G12.ext X1) (F12.ext X1) (e_cellB S4 (huc.ext X1) rfl (e_loc0 S4 hm ⟨S4.ext, rules_fn (n := n) (hf.less (by omega)) (B.ext X1) (H.ext X1) hk (F0.ext X1) (Y.ext X1) (F12.ext X1) (IsList.ext hul X1) hui hz S5 fun g6 D6 ws6 h6 t6 X6 R6 L6 S6 => ?_⟩))
    refine ⟨g6, _, h6, t6, rfl, ⟨rfl, X1.trans X6, by simp [hal], fun k hk => ?_⟩, S6.perm (List.perm_middle (l₁ := [_, _, _, _])).symm⟩
    by_cases hki : k < i
    · obtain ⟨D', ws, a1, a2, a3⟩ := hac k hki
      exact ⟨D', ws, by rw [List.getElem?_append_left (by omega)]; exact a1, IsList.ext a2 X6, a3.ext X6⟩
    · obtain rfl : k = i := by omega
      exact ⟨D6, ws6, by rw [List.getElem?_append_right (by omega)]; simp [hal], L6, R6⟩
  rintro D acc R g1 h4 t4 ⟨rfl, X1, hal, hac⟩ hlen S4
  have S5 : St g1 ((L, isNs m) :: (L + 7, isCell none) :: (D, isLst acc) :: (Pl, isTab g1) :: es) h4 := S4.perm (.cons _ (List.perm_middle (l₁ := [_, _])))
  refine s_cell S5 1 rfl rfl fun h6 S6 => ?_
  have S6 : St g1 ((L, isNs m) :: (L + 7, isCell (some (.ref D))) :: (D, isLst acc) :: (Pl, isTab g1) :: es) h6 := S6
  obtain ⟨g2, S7, X7, P7⟩ := S6.freeze (a := L + 7) (List.perm_middle (l₁ := [_]))
  obtain ⟨g3, S8, X8, P8⟩ := S7.freeze (a := D) (List.perm_middle (l₁ := [_]))
  have X := X1.trans (X7.trans X8)
  have hRB : RulesB g3 C D fun k => rulesF ns k := ⟨⟨acc, IsLst.toIsList P8, fun k hk => by
    obtain ⟨D', ws, a1, a2, a3⟩ := hac k hk
    exact ⟨D', ws, a1, IsList.ext a2 (X7.trans X8), a3.ext (X7.trans X8)⟩⟩, fun k _ => rulesF_small ns k⟩
  refine law_d (n := n) hf (B.ext X) (H.ext X) hk (F0.ext X) (F3.ext X) (hbc.ext X) (P7.ext X8) (hB.ext X) hRB hperm S8 fun h9 t9 S9 => ?_
  exact q h9 t9 ((S9.weaken X).weak 0 rfl fun o ⟨ps, e, _⟩ => ⟨ps, e⟩)
end
end Mine
end

section
open PySem PySem.W PySem.W.X PyProof.Rows
set_option Elab.async false
set_option maxRecDepth 100000
set_option linter.unusedSimpArgs false
namespace Mine
def belowF (ys : List Str) (k : Nat) : Bool := fixF (ys.getD k default) == bad
theorem fix_fix (y : Str) : (if (fixF y == bad) = true then bad else y) = fixF y := by
  by_cases h : (fixF y == bad) = true
  · rw [if_pos h]; exact (beq_iff_eq.mp h).symm
  · rw [if_neg h]
    unfold fixF at h ⊢
    by_cases c : checkF y = true
    · rw [if_pos c]
    · rw [if_neg c] at h; simp at h
theorem strs_getD {vs : List Value} {ys : List Str} (hi : StrsAre vs ys) {i : Nat} (h : i < ys.length) : ∃ u, vs[i]? = some (.str (ys.getD i default) u) := by
  have hl := strs_len hi
  obtain ⟨y, u, e1, e2⟩ := strs_get hi (i := i) (v := vs[i]'(by omega)) (by simp [hl, h])
  refine ⟨u, ?_⟩
  rw [List.getD_eq_getElem?_getD, e1]
  simp [e2, hl, h]
section
variable {w : World} {A : Around} {g h : Heap} {es R : List Ent} {gn : Array GenState} {d : Drawn} {t : Nat} {os : OsState} {env : Env} {pos : Pos} {K : Frag} {C fI fA L f f12 c Pl U Tx : Addr} {m : Str → Option Value} {cd : Value}
theorem t_or2 {x : Expr} {rest : List Expr} {whole : Sem Value} {s : Shared} {Q : Bool → Shared → Prop} (q : Ok w A (isTrue x env (eval x env)) (fun b s₁ => if b then Q true s₁ else Ok w A (allTrue .Or rest env) Q s₁) s) : Ok w A (isTrue (.BoolOp .Or (x :: rest) pos) env whole) Q s := wpAny_isTrue_BoolOp (wpAny_allTrue_Or_cons q)
theorem r_or {x : Expr} {rest : List Expr} {s : Shared} {Q : Bool → Shared → Prop} (q : Ok w A (isTrue x env (eval x env)) (fun b s₁ => if b then Q true s₁ else Ok w A (allTrue .Or rest env) Q s₁) s) : Ok w A (allTrue .Or (x :: rest) env) Q s := wpAny_allTrue_Or_cons q
theorem r_nil {s : Shared} {Q : Bool → Shared → Prop} (q : Q false s) : Ok w A (allTrue .Or [] env) Q s := wpAny_allTrue_Or_nil q
set_option maxHeartbeats 4000000 in
theorem law_b {n : Nat} {Q : Value → Shared → Prop} {uvs tvs : List Value} {ns : List Int} {ys : List Str} (hf : Fine A (n + 9)) (B : Base g) (H : Cls g K C fI fA) (hk : keepIn K (.ref C) = true) (F0 : IsMth g 0 fI) (F3 : IsMth g 3 fA) (G12 : Glb g (fname 12) (.ref f12)) (F12 : IsFn g 12 f12) (Y : Lam0 g f12 c Pl)
    (huc : Pt g (L + 3) (isCell (some (.ref U)))) (hul : g.IsList U uvs.toArray) (hui : IntsAre uvs ns) (hz : ns.length = 4)
    (htc : Pt g (L + 5) (isCell (some (.ref Tx)))) (htl : g.IsList Tx tvs.toArray) (hts : StrsAre tvs ys) (hy18 : ys.length = 18) (hyl : ∀ y ∈ ys, y.length ≤ 1000)
    (b0 : belowF ys 0 = false) (b16 : belowF ys 16 = true) (b17 : belowF ys 17 = true) (hb : AllBare gn)
    (hperm : ((ordA 4).map (cntF (belowF ys))).Perm ((ordA 4).map (fndF fun k => rulesF ns k)))
    (S : St g ((L, isNs m) :: (L + 7, isCell none) :: (L + 6, isCell none) :: (Pl, isTab g) :: es) h) (q : ∀ h' gn' t', AllBare gn' → St g ((Pl, isT) :: es) h' → Q (.bool true) ⟨h', gn', d, t', os⟩) :
    Ok w A (execs ((fbody 14).drop 6) (lawE L f cd)) (fun fl s' => Q (match fl with | .ret v => v | _ => .none) s') ⟨h, gn, d, t, os⟩ := by
  have Gli := B.blt (Str.ofString "list", .type "list") (by simp [bltins])
  have Gr := B.blt (Str.ofString "range", .type "range") (by simp [bltins])
  have Gl := B.blt (Str.ofString "len", .builtin "len") (by simp [bltins])
  obtain ⟨f6, Gf6, F6⟩ := B.fn 6 (by decide)
  have hl := strs_len hts
  -- given
  refine x_cons (x_asg (e_gT S Gli (e_cellB S htc rfl (o_copy S (IsList.ext htl S.ext) (by omega) fun Gv h1 S1 => s_loc0 S1 fun h2 t2 S2 => ?_))))
  obtain ⟨g1, S3, X3, P3⟩ := S2.freeze (a := Gv) (List.perm_middle (l₁ := [_]))
  have hgl := IsLst.toIsList P3
  -- told
  refine x_cons (x_asg (e_gF1 S3 (Gf6.ext X3) (F6.ext X3) (e_loc0 S3 (v := .ref Gv) (by simp [upd]) ⟨S3.ext, parse_fn (n := n) (hf.less (by omega)) (B.ext X3) (F6.ext X3) S3 hgl hts hyl (by omega) hb fun To us h4 gn4 t4 hb4 S4 hus => ?_⟩)))
  have S4 := S4.perm (.swap _ _ _)
  refine s_loc0 S4 fun h5 t5 S5 => ?_
  obtain ⟨g2, S6, X6, P6⟩ := S5.freeze (a := To) (List.perm_middle (l₁ := [_]))
  have htol := IsLst.toIsList P6
  have hul2 := strs_len hus
  rw [List.length_map] at hul2
  have X2 := X3.trans X6
  obtain ⟨mm, hmm⟩ : ∃ mm, upd (upd m (Str.ofString "given") (.ref Gv)) (Str.ofString "told") (.ref To) = mm := ⟨_, rfl⟩
  have m1 : mm (Str.ofString "given") = some (.ref Gv) := by rw [← hmm]; simp [upd, ofs_inj]
  have m2 : mm (Str.ofString "told") = some (.ref To) := by rw [← hmm]; simp [upd, ofs_inj]
  rw [hmm] at S6
  -- below
  refine x_cons (x_asg (e_comp (closureFor_none (by decide)) (e_loc0 S6 m2 (i_list htol S6 fun i7 h7 S7 => ?_))))
  refine comp_iter (iter_list htol) hf.1 (by omega) (fun i acc R gn' => gn4 = gn' ∧ R = _ ∧ acc.length = i ∧ ∀ k < i, acc[k]? = some (.bool (belowF ys k))) ?_ ⟨rfl, rfl, rfl, fun k hk => absurd hk (by omega)⟩ S7 ?_
  · rintro i v acc R gn' h t C' m' D hi hv ⟨rfl, rfl, hal, hac⟩ hm hlen S8
    obtain ⟨y, u, hy, rfl⟩ := strs_get hus hv
    have hyi : y = fixF (ys.getD i default) := by
      rw [List.getElem?_map] at hy
      obtain ⟨z, a, b⟩ := Option.map_eq_some_iff.mp hy
      rw [← b, List.getD_eq_getElem?_getD, a]; rfl
    refine ts_nil ((if_pos rfl).mpr (e_cmp (e_loc0 S8 hm (e_str fun u9 t9 => o_seq ⟨_, _, _, _, rfl, ⟨rfl, rfl, by simp [hal], fun k hk => ?_⟩, S8⟩))))
    by_cases hki : k < i
    · rw [List.getElem?_append_left (by omega)]; exact hac k hki
    · obtain rfl : k = i := by omega
      rw [List.getElem?_append_right (by omega)]
      simp only [hal, Nat.sub_self, List.getElem?_cons_zero]
      rw [hyi]; rfl
  rintro Bl acc R gn' h8 t8 ⟨rfl, rfl, hal, hac⟩ hlen S8
  have S8 : St g2 ((L, isNs mm) :: (Bl, isLst acc) :: (L + 7, isCell none) :: (L + 6, isCell none) :: (Pl, isTab g) :: es) h8 := S8
  refine s_cell S8 3 rfl rfl fun h9 S9 => ?_
  have S9 : St g2 ((L, isNs mm) :: (Bl, isLst acc) :: (L + 7, isCell none) :: (L + 6, isCell (some (.ref Bl))) :: (Pl, isTab g) :: es) h9 := S9
  obtain ⟨g3, S10, X10, P10⟩ := S9.freeze (a := Bl) (List.perm_middle (l₁ := [_]))
  obtain ⟨g4, S11, X11, P11⟩ := S10.freeze (a := L + 6) (List.perm_middle (l₁ := [_, _]))
  have hBl := IsLst.toIsList (P10.ext X11)
  have hacl : acc.length = 18 := by omega
  have hbB : BelowB g4 Bl (belowF ys) := ⟨acc, hBl, fun k hk => hac k (by omega)⟩
  have X24 := X10.trans X11
  have X := X2.trans X24
  have htc4 := htc.ext X
  have htl4 := IsList.ext htl X
  have hgl4 := IsList.ext hgl (X6.trans X24)
  have hto4 := IsList.ext htol X24
  -- the first if
  have item : ∀ (k : Nat) (b : Bool) (hk : k < 18) (hb' : belowF ys k = b) (T : Bool → Shared → Prop) (h' : Heap) (t' : Nat), St g4 ((L, isNs mm) :: (L + 7, isCell none) :: (Pl, isTab g) :: es) h' → (∀ t'', T b ⟨h', gn4, d, t'', os⟩) → ∀ (p1 p2 p3 : Pos),
      Ok w A (isTrue (.Subscript (.Name (Str.ofString "below") p1) (.Constant (.int k) 0 p2) p3) (lawE L f cd) (eval (.Subscript (.Name (Str.ofString "below") p1) (.Constant (.int k) 0 p2) p3) (lawE L f cd))) T ⟨h', gn4, d, t', os⟩ := by
    intro k b hk hb' T h' t' S' q' p1 p2 p3
    refine t_val (e_sub (e_cellB S' P11 rfl (e_int fun u t => o_item (IsList.ext hBl S'.ext) (by omega) (hac k (by omega)) (t_bool ?_))))
    rw [hb']
    exact q' _
  refine x_cons (x_if (t_or2 (t_cmp (e_loc0 S11 m1 (e_cellB S11 htc4 rfl (o_neS hf.units (IsList.ext hgl4 S11.ext) (IsList.ext htl4 S11.ext) hts hts (t_bool ?_)))))))
  rw [if_neg Bool.false_ne_true]
  refine r_or (t_cmp (e_gB S11 (Gl.ext X) (e_loc0 S11 m2 (o_lenL (IsList.ext hto4 S11.ext) (by omega) fun u12 t12 => e_int fun u13 t13 => o_ne (t_bool ?_)))))
  rw [if_neg (by rw [hul2, hy18]; decide)]
  refine r_or (item 0 false (by omega) b0 _ _ _ S11 (fun t14 => ?_) _ _ _)
  rw [if_neg Bool.false_ne_true]
  refine r_or (t_not (item 16 true (by omega) b16 _ _ _ S11 (fun t15 => ?_) _ _ _))
  rw [if_neg (by simp)]
  refine r_or (t_not (item 17 true (by omega) b17 _ _ _ S11 (fun t16 => ?_) _ _ _))
  rw [if_neg (by simp)]
  refine r_nil ?_
  rw [if_neg Bool.false_ne_true]
  refine wpAny_execs_nil ?_
  -- the second if
  refine x_cons (x_if (t_cmp (e_loc0 S11 m2 (e_comp (cl := [(Str.ofString "texts", L + 5), (Str.ofString "below", L + 6)]) (by rfl) (e_gT S11 (Gr.ext X) (e_int fun u17 t17 => o_range (n := 18) S11 fun r x1 x2 x3 h18 t18 S18 hr => i_range (by omega) hr S18 fun i19 h19 S19 => ?_))))))
  refine comp_iter (iter_range (n := 18)) hf.1 (by omega) (fun i acc R gn' => gn4 = gn' ∧ R = _ ∧ StrsAre acc ((ys.take i).map fixF)) ?_ ⟨rfl, rfl, .nil⟩ S19 ?_
  · rintro i v acc' R gn' h t C' m' D hi ⟨u, rfl⟩ ⟨rfl, rfl, ha⟩ hm hlen S20
    obtain ⟨uy, hty⟩ := strs_getD hts (i := i) (by omega)
    have hlt : i < ys.length := by omega
    have etk : (ys.take (i + 1)).map fixF = (ys.take i).map fixF ++ [fixF (ys.getD i default)] := by
      rw [List.take_add_one, List.getElem?_eq_getElem hlt, List.map_append, List.getD_eq_getElem?_getD, List.getElem?_eq_getElem hlt]; rfl
    refine ts_nil ((if_pos rfl).mpr (e_ifexp (t_val (e_sub (e_cellB S20 P11 rfl (e_loc0 S20 hm (o_item (IsList.ext hBl S20.ext) (by omega) (hac i (by omega)) (t_bool ?_))))))))
    have ff := fix_fix (ys.getD i default)
    by_cases cb : belowF ys i = true
    · rw [if_pos cb]
      rw [if_pos (show (fixF (ys.getD i default) == bad) = true from cb)] at ff
      refine e_str fun u21 t21 => ⟨_, _, _, _, rfl, ⟨rfl, rfl, ?_⟩, S20⟩
      rw [etk, ← ff]
      exact strs_snoc ha _ u21
    · rw [if_neg cb]
      rw [if_neg (show ¬ (fixF (ys.getD i default) == bad) = true from cb)] at ff
      refine e_sub (e_cellB S20 htc4 rfl (e_loc0 S20 hm (o_item (IsList.ext htl4 S20.ext) (by omega) hty ⟨_, _, _, _, rfl, ⟨rfl, rfl, ?_⟩, S20⟩)))
      rw [etk, ← ff]
      exact strs_snoc ha _ uy
  rintro D acc' R gn' h20 t20 ⟨rfl, rfl, ha⟩ hlen' S20
  rw [List.take_of_length_le (by omega)] at ha
  refine o_neS hf.units (IsList.ext hto4 S20.ext) (IsLst.toIsList (S20.at 1 rfl)) hus ha (t_bool ?_)
  rw [if_neg Bool.false_ne_true]
  refine wpAny_execs_nil ?_
  have S21 : St g4 ((L, isNs mm) :: (L + 7, isCell none) :: (Pl, isTab g) :: es) h20 := S20.sub (((List.Sublist.refl _).cons _).cons_cons _)
  refine law_c (n := n) hf (B.ext X) (H.ext X) hk (F0.ext X) (F3.ext X) (G12.ext X) (F12.ext X) (Y.ext X) (huc.ext X) (IsList.ext hul X) hui hz P11 hbB hperm (S21.weak 2 rfl (isTab.mono X)) fun h22 t22 S22 => ?_
  exact q h22 gn4 t22 hb4 (S22.weaken X)
end
end Mine
end

section
open PySem PySem.W PySem.W.X PyProof.Rows
set_option Elab.async false
set_option maxRecDepth 100000
set_option linter.unusedSimpArgs false
namespace Mine
def dressL : List Str := [Str.ofString "", Str.ofString "\\)", Str.ofString "\"(\"", Str.ofString "\\\\", Str.ofString "\"\\\")\"", Str.ofString "\\\""]
def txt0 (ns : List Int) (y : Str) : Str := Str.ofString "\"(\"" ++ textF ns 0 y ++ Str.ofString "((\"))\\( "
def textsF (ns : List Int) (y : Str) : List Str := ([txt0 ns y] ++ (List.range 15).map fun (j : Nat) => textF ns ((j : Int) + 1) y) ++ [Str.ofString "(" ++ textF ns 15 y, txt0 ns y ++ Str.ofString ")"]
theorem dress_len : ∀ y ∈ dressL, y.length ≤ 10 := by decide
theorem textF_len {ns : List Int} {c : Int} {y : Str} (hz : ns.length = 4) (hb : ∀ x ∈ ns, -2 ≤ x ∧ x ≤ 2) (hy : y.length ≤ 10) : (textF ns c y).length ≤ 812 := by
  have p0 := part_len ns c 0
  have p1 := part_len ns c 1
  have b0 := part_mem (c := c) (b := 0) hb
  have b1 := part_mem (c := c) (b := 1) hb
  have bs := sum_sm ns hb
  have f2 := fmod2 c
  have l1 : (strMul (Str.ofString "()") (c.fmod 2)).length ≤ 2 := by
    rw [strMul_len]
    have e1 : (Str.ofString "()").length = 2 := by decide
    rw [e1]; omega
  have l2 := brk_len (ns := partL ns c 1 4) (by omega) (fun x hx => by have := b1 x hx; omega)
  have l3 := brk_len (ns := partL ns c 0 4 ++ [0 - ns.sum]) (by simp; omega) (by
    intro x hx
    rcases List.mem_append.mp hx with hx | hx
    · have := b0 x hx; omega
    · rw [List.mem_singleton] at hx; subst hx; omega)
  unfold textF
  rw [str_app_len, str_app_len, str_app_len]
  omega
theorem txt0_len {ns : List Int} {y : Str} (hz : ns.length = 4) (hb : ∀ x ∈ ns, -2 ≤ x ∧ x ≤ 2) (hy : y.length ≤ 10) : (txt0 ns y).length ≤ 830 := by
  have := textF_len (c := 0) hz hb hy
  have e1 : (Str.ofString "\"(\"").length = 3 := by decide
  have e2 : (Str.ofString "((\"))\\( ").length = 8 := by decide
  unfold txt0
  rw [str_app_len, str_app_len, e1, e2]; omega
theorem texts_ok {ns : List Int} {y : Str} (hz : ns.length = 4) (hb : ∀ x ∈ ns, -2 ≤ x ∧ x ≤ 2) (hy : y.length ≤ 10) : (textsF ns y).length = 18 ∧ ∀ t ∈ textsF ns y, t.length ≤ 1000 := by
  constructor
  · simp [textsF]
  · intro t ht
    have h0 := txt0_len hz hb hy
    have e1 : (Str.ofString "(").length = 1 := by decide
    have e2 : (Str.ofString ")").length = 1 := by decide
    rcases List.mem_append.mp ht with ht | ht
    · rcases List.mem_append.mp ht with ht | ht
      · rw [List.mem_singleton] at ht; subst ht; omega
      · obtain ⟨j, _, rfl⟩ := List.mem_map.mp ht
        have := textF_len (c := (j : Int) + 1) hz hb hy
        omega
    · simp only [List.mem_cons, List.not_mem_nil, or_false] at ht
      rcases ht with rfl | rfl
      · have := textF_len (c := 15) hz hb hy
        rw [str_app_len, e1]; omega
      · rw [str_app_len, e2]; omega

section
variable {w : World} {A : Around} {g h : Heap} {es R : List Ent} {gn : Array GenState} {d : Drawn} {t : Nat} {os : OsState} {env : Env} {pos : Pos} {K : Frag} {C fI fA L f f12 c Pl Sc : Addr} {m : Str → Option Value} {cd : Value} {s : Shared} {Q : Value → Shared → Prop}
theorem e_list6 {e1 e2 e3 e4 e5 e6 : Expr} (q : Ok w A (eval e1 env) (fun v1 s1 => Ok w A (eval e2 env) (fun v2 s2 => Ok w A (eval e3 env) (fun v3 s3 => Ok w A (eval e4 env) (fun v4 s4 => Ok w A (eval e5 env) (fun v5 s5 => Ok w A (eval e6 env) (fun v6 s6 => NewL Q [v1, v2, v3, v4, v5, v6] s6) s5) s4) s3) s2) s1) s)
    (he : starEach [e1, e2, e3, e4, e5, e6] env = [(false, eval e1 env), (false, eval e2 env), (false, eval e3 env), (false, eval e4 env), (false, eval e5 env), (false, eval e6 env)] := by rfl) : Ok w A (eval (.List [e1, e2, e3, e4, e5, e6] pos) env) Q s := by
  refine wpAny_List ?_
  rw [he]
  exact Calls.spliced_cons (wpAny_mono q (fun v1 s1 h1 => Calls.spliced_cons (wpAny_mono h1 (fun v2 s2 h2 => Calls.spliced_cons (wpAny_mono h2 (fun v3 s3 h3 => Calls.spliced_cons (wpAny_mono h3 (fun v4 s4 h4 => Calls.spliced_cons (wpAny_mono h4 (fun v5 s5 h5 => Calls.spliced_cons (wpAny_mono h5 (fun v6 s6 h6 => Calls.spliced_nil ⟨(by decide : 6 ≤ sizeLine), h6⟩) fun _ _ e => e)) fun _ _ e => e)) fun _ _ e => e)) fun _ _ e => e)) fun _ _ e => e)) fun _ _ e => e)
theorem fmod_b (a : Int) (b : Int) (hb : 0 < b) : 0 ≤ a.fmod b ∧ a.fmod b < b := by
  rw [Int.fmod_eq_emod_of_nonneg a (Int.le_of_lt hb)]
  exact ⟨Int.emod_nonneg a (by omega), Int.emod_lt_of_pos a hb⟩
theorem slice_ints {vs : List Value} {ns : List Int} (hi : IntsAre vs ns) (a b c : Option Int) : ∃ ms, IntsAre (slicePick vs.toArray a b c).toList ms := by
  refine ⟨_, intsAre_ofList _ fun v hv => ?_⟩
  unfold slicePick at hv
  simp only [List.mem_filterMap] at hv
  obtain ⟨i, _, hx⟩ := hv
  obtain ⟨n, u, e, _⟩ := ints_get hi (i := i) (v := v) (by simpa using hx)
  exact ⟨n, u, e⟩
set_option maxHeartbeats 4000000 in
theorem law_fn {n : Nat} {svs : List Value} {ss : List Int} (hf : Fine A (n + 10)) (B : Base g) (F : IsFn g 14 f) (H : Cls g K C fI fA) (hk : keepIn K (.ref C) = true) (F0 : IsMth g 0 fI) (F3 : IsMth g 3 fA) (G12 : Glb g (fname 12) (.ref f12)) (F12 : IsFn g 12 f12) (Y : Lam0 g f12 c Pl)
    (hsl : g.IsList Sc svs.toArray) (hsi : IntsAre svs ss) (hsz : svs.length ≤ 1000000) (hb : AllBare gn)
    (plain : ∀ ns y, ns.length = 4 → (∀ x ∈ ns, -2 ≤ x ∧ x ≤ 2) → y ∈ dressL → belowF (textsF ns y) 0 = false ∧ belowF (textsF ns y) 16 = true ∧ belowF (textsF ns y) 17 = true ∧ ((ordA 4).map (cntF (belowF (textsF ns y)))).Perm ((ordA 4).map (fndF fun k => rulesF ns k)))
    (S : St g ((Pl, isTab g) :: es) h) (q : ∀ h' gn' t', AllBare gn' → St g ((Pl, isT) :: es) h' → Q (.bool true) ⟨h', gn', d, t', os⟩) :
    Ok w A (call (.ref f) [.ref Sc]) Q ⟨h, gn, d, t, os⟩ := by
  refine call_fnC (binds := [(Str.ofString "script", .ref Sc)]) hf B F S (fun _ _ _ => rfl) (fun L x hx => ?_) (fun L => ?_) (fun L cd A' h1 t1 hf1 S1 => ?_) rfl rfl rfl
  · right
    rw [List.mem_singleton] at hx; subst hx
    exact ⟨rfl, rfl⟩
  · show [Str.ofString "rules", Str.ofString "below", Str.ofString "texts", Str.ofString "dress", Str.ofString "ups", Str.ofString "own", Str.ofString "script"].Nodup
    simp [ofs_inj]
  have S1 : St g ((L, isNs _) :: (L + 7, isCell none) :: (L + 6, isCell none) :: (L + 5, isCell none) :: (L + 4, isCell none) :: (L + 3, isCell none) :: (L + 2, isCell none) :: (L + 1, isCell (some (.ref Sc))) :: (Pl, isTab g) :: es) h1 := S1
  generalize (bindL _ _ _) = m0 at S1
  obtain ⟨g1, S2, X1, Ps⟩ := S1.freeze (a := L + 1) (List.perm_middle (l₁ := [_, _, _, _, _, _, _]))
  have Gr := B.blt (Str.ofString "range", .type "range") (by simp [bltins])
  have Gs := B.blt (Str.ofString "sum", .builtin "sum") (by simp [bltins])
  obtain ⟨f11, Gf11, F11⟩ := B.fn 11 (by decide)
  -- own
  refine x_cons (x_asg (e_list4 (e_int fun a1 k1 => e_int fun a2 k2 => e_int fun a3 k3 => e_int fun a4 k4 => newL S2 fun Ow h3 S3 => ?_)))
  refine s_cell S3 7 rfl rfl fun h4 S4 => ?_
  have S4 : St g1 ((L, isNs m0) :: (Ow, isLst [.int 3 a1, .int 1 a2, .int 3 a3, .int 0 a4]) :: (L + 7, isCell none) :: (L + 6, isCell none) :: (L + 5, isCell none) :: (L + 4, isCell none) :: (L + 3, isCell none) :: (L + 2, isCell (some (.ref Ow))) :: (Pl, isTab g) :: es) h4 := S4
  obtain ⟨g2, S5, X2, Po⟩ := S4.freeze (a := L + 2) (List.perm_middle (l₁ := [_, _, _, _, _, _, _]))
  obtain ⟨g3, S6, X3, Pol⟩ := S5.freeze (a := Ow) (List.perm_middle (l₁ := [_]))
  have Y3 := X1.trans (X2.trans X3)
  have hOl := IsLst.toIsList Pol
  have Po3 := Po.ext X3
  have Ps3 := Ps.ext (X2.trans X3)
  have hsl3 := IsList.ext hsl Y3
  -- ups
  refine x_cons (x_asg (e_comp (cl := [(Str.ofString "script", L + 1), (Str.ofString "own", L + 2)]) (by rfl) (e_gT S6 (Gr.ext Y3) (e_int fun u1 t1 => o_range (n := 4) S6 fun r x1 x2 x3 h7 t7 S7 hr => i_range (by omega) hr S7 fun it h8 S8 => ?_))))
  refine comp_iter (iter_range (n := 4)) hf1.1 (by omega) (fun i acc R gn' => gn = gn' ∧ R = _ ∧ ∃ ns, IntsAre acc ns ∧ ns.length = i ∧ ∀ x ∈ ns, -2 ≤ x ∧ x ≤ 2) ?_ ⟨rfl, rfl, [], .nil, rfl, by simp⟩ S8 ?_
  · rintro i v acc R gn' h t C' m' D hi ⟨u, rfl⟩ ⟨rfl, rfl, ns, ha, hnl, hnb⟩ hm hlen S9
    obtain ⟨o, uo, ho⟩ : ∃ o uo, [Value.int 3 a1, .int 1 a2, .int 3 a3, .int 0 a4][i]? = some (.int o uo) := by
      have : i = 0 ∨ i = 1 ∨ i = 2 ∨ i = 3 := by omega
      rcases this with rfl | rfl | rfl | rfl <;> exact ⟨_, _, rfl⟩
    refine ts_nil ((if_pos rfl).mpr (e_bin (e_bin (e_bin (e_sub (e_cellB S9 Po3 rfl (e_loc0 S9 hm (o_item (IsList.ext hOl S9.ext) (by omega) ho ?_))))))))
    refine e_gB S9 (Gs.ext Y3) (e_sub (e_cellB S9 Ps3 rfl (e_slice (p_some (e_loc0 S9 hm (p_none (p_some (e_int fun u10 t10 => ⟨_, _, _, _, _, _, _, _, _, rfl, IsList.ext hsl3 S9.ext, by simpa using hsz, .int _ _, .none, .int _ _, by simp, fun D1 h11 hn11 X11 P11 => ?_⟩))))))))
    obtain ⟨ms, hms⟩ := slice_ints hsi (some (i : Int)) none (some 4)
    refine o_sum hf1.1 (IsLst.toIsList P11) hms fun h12 u12 t12 X12 => o_add fun u13 t13 => e_int fun u14 t14 => o_mod (by decide) fun u15 t15 => e_int fun u16 t16 => o_sub fun u17 t17 => ?_
    have fb := fmod_b (o + ms.sum) 5 (by decide)
    refine ⟨_, _, _, _, rfl, ⟨rfl, rfl, ns ++ [(o + ms.sum).fmod 5 - 2], ints_snoc ha, by simp [hnl], fun x hx => ?_⟩, (S9.grow X11).grow X12⟩
    rcases List.mem_append.mp hx with hx | hx
    · exact hnb x hx
    · rw [List.mem_singleton] at hx; subst hx; omega
  rintro U acc R gn' h9 t9 ⟨rfl, rfl, ns, ha, hnl, hnb⟩ hlen S9
  refine s_cell S9 6 rfl rfl fun h10 S10 => ?_
  have S10 : St g3 ((L, isNs m0) :: (U, isLst acc) :: (L + 7, isCell none) :: (L + 6, isCell none) :: (L + 5, isCell none) :: (L + 4, isCell none) :: (L + 3, isCell (some (.ref U))) :: (Pl, isTab g) :: es) h10 := S10
  obtain ⟨g4, S11, X4, Pu⟩ := S10.freeze (a := L + 3) (List.perm_middle (l₁ := [_, _, _, _, _, _]))
  obtain ⟨g5, S12, X5, Pul⟩ := S11.freeze (a := U) (List.perm_middle (l₁ := [_]))
  have X45 := X4.trans X5
  have Y5 := Y3.trans X45
  have hUl := IsLst.toIsList Pul
  have Pu5 := Pu.ext X5
  -- dress
  refine x_cons (x_asg (e_sub (e_list6 (e_str fun a1 k1 => e_str fun a2 k2 => e_str fun a3 k3 => e_str fun a4 k4 => e_str fun a5 k5 => e_str fun a6 k6 => newL S12 fun Dr h13 S13 => ?_))))
  refine e_bin (e_gB S13 (Gs.ext Y5) (e_cellB S13 (Ps3.ext X45) rfl (o_sum hf1.1 (IsList.ext hsl (Y5.trans S13.ext)) hsi fun h14 u14 t14 X14 => e_int fun u15 t15 => o_mod (by decide) fun u16 t16 => ?_)))
  have S14 := S13.grow X14
  have fb := fmod_b ss.sum 6 (by decide)
  obtain ⟨k, hk6, hke⟩ : ∃ k : Nat, k < 6 ∧ ss.sum.fmod 6 = k := ⟨(ss.sum.fmod 6).toNat, by omega, by omega⟩
  rw [hke]
  obtain ⟨y, uy, hyd, hye⟩ : ∃ y uy, y ∈ dressL ∧ [Value.str (Str.ofString "") a1, .str (Str.ofString "\\)") a2, .str (Str.ofString "\"(\"") a3, .str (Str.ofString "\\\\") a4, .str (Str.ofString "\"\\\")\"") a5, .str (Str.ofString "\\\"") a6][k]? = some (.str y uy) := by
    have : k = 0 ∨ k = 1 ∨ k = 2 ∨ k = 3 ∨ k = 4 ∨ k = 5 := by omega
    rcases this with rfl | rfl | rfl | rfl | rfl | rfl <;> exact ⟨_, _, by simp [dressL], rfl⟩
  refine o_item (IsLst.toIsList (S14.at 1 rfl)) (by omega) hye ?_
  have S15 : St g5 ((L, isNs m0) :: (L + 7, isCell none) :: (L + 6, isCell none) :: (L + 5, isCell none) :: (L + 4, isCell none) :: (Pl, isTab g) :: es) h14 := S14.sub (((List.Sublist.refl _).cons _).cons_cons _)
  refine s_cell S15 4 rfl rfl fun h16 S16 => ?_
  have S16 : St g5 ((L, isNs m0) :: (L + 7, isCell none) :: (L + 6, isCell none) :: (L + 5, isCell none) :: (L + 4, isCell (some (.str y uy))) :: (Pl, isTab g) :: es) h16 := S16
  obtain ⟨g6, S17, X6, Pd⟩ := S16.freeze (a := L + 4) (List.perm_middle (l₁ := [_, _, _, _]))
  have Y6 := Y5.trans X6
  have Pu6 := Pu5.ext X6
  have hUl6 := IsList.ext hUl X6
  have hyl := dress_len y hyd
  have B6 := B.ext Y6
  have hzl : ns.length = 4 := hnl
  -- texts
  refine x_cons (x_asg (e_list1 (e_bin (e_bin (e_str fun u18 t18 => e_gF3 S17 (Gf11.ext Y6) (F11.ext Y6) (e_cellB S17 Pu6 rfl (e_int fun u19 t19 => e_cellB S17 Pd rfl ⟨S17.ext, text_fn (n := n) (hf1.less (by omega)) B6 (F11.ext Y6) hUl6 ha hzl hnb hyl S17 fun h20 u20 t20 S20 => ?_⟩)))))))
  have lt0 := textF_len (c := 0) hzl hnb hyl
  have l00 := txt0_len hzl hnb hyl
  have e31 : (Str.ofString "\"(\"").length = 3 := by decide
  have e32 : (Str.ofString "((\"))\\( ").length = 8 := by decide
  refine o_cat (fun u21 t21 => e_str fun u22 t22 => o_cat (fun u23 t23 => newL S20 fun Tx h24 S24 => ?_) (k_le_line (by rw [str_app_len, e31, e32]; omega))) (k_le_line (by rw [e31]; omega))
  refine s_cell S24 4 rfl rfl fun h25 S25 => ?_
  have S25 : St g6 ((L, isNs m0) :: (Tx, isLst [.str (txt0 ns y) u23]) :: (L + 7, isCell none) :: (L + 6, isCell none) :: (L + 5, isCell (some (.ref Tx))) :: (Pl, isTab g) :: es) h25 := S25
  obtain ⟨g7, S26, X7, Pt7⟩ := S25.freeze (a := L + 5) (List.perm_middle (l₁ := [_, _, _, _]))
  have Y7 := Y6.trans X7
  have Pu7 := Pu6.ext X7
  have Pd7 := Pd.ext X7
  have hUl7 := IsList.ext hUl6 X7
  -- the fifteen texts
  obtain ⟨nT, hT⟩ := lst_iff.mp (S26.at 1 rfl)
  refine x_cons (x_expr (e_extend (fun Q q => e_cellB S26 Pt7 rfl q) hT (e_comp (cl := [(Str.ofString "ups", L + 3), (Str.ofString "dress", L + 4)]) (by rfl) (e_gT2 S26 (Gr.ext Y7) (e_int fun u27 t27 => e_int fun u28 t28 => o_range2 (n := 16) S26 fun r x1 x2 x3 h29 t29 S29 hr => i_range2 (n := 15) (by omega) hr S29 fun it h30 S30 => ?_)))))
  refine comp_iter (iter_range1 (n := 15)) hf1.1 (by omega) (fun i acc R gn' => gn = gn' ∧ R = _ ∧ StrsAre acc ((List.range i).map fun (j : Nat) => textF ns ((j : Int) + 1) y)) ?_ ⟨rfl, rfl, .nil⟩ S30 ?_
  · rintro i v acc' R gn' h t C' m' D hi ⟨u, rfl⟩ ⟨rfl, rfl, hac⟩ hm hlen S31
    refine ts_nil ((if_pos rfl).mpr (e_gF3 S31 (Gf11.ext Y7) (F11.ext Y7) (e_cellB S31 Pu7 rfl (e_loc0 S31 hm (e_cellB S31 Pd7 rfl ⟨S31.ext, text_fn (n := n) (hf1.less (by omega)) (B.ext Y7) (F11.ext Y7) hUl7 ha hzl hnb hyl S31 fun h32 u32 t32 S32 => ⟨_, _, _, _, rfl, ⟨rfl, rfl, ?_⟩, S32⟩⟩)))))
    rw [List.range_succ, List.map_append]
    exact strs_snoc hac _ u32
  rintro D acc' R gn' h31 t31 ⟨rfl, rfl, hac⟩ hlen' S31
  have S31 : St g7 ((L, isNs m0) :: (D, isLst acc') :: (Tx, isLst [.str (txt0 ns y) u23]) :: (L + 7, isCell none) :: (L + 6, isCell none) :: (Pl, isTab g) :: es) h31 := S31
  have hal := strs_len hac
  rw [List.length_map, List.length_range] at hal
  refine o_ext S31 2 rfl (S31.at 1 rfl) (by simp; omega) fun h32 S32 => ?_
  have S32 : St g7 ((L, isNs m0) :: (D, isLst acc') :: (Tx, isLst ([.str (txt0 ns y) u23] ++ acc')) :: (L + 7, isCell none) :: (L + 6, isCell none) :: (Pl, isTab g) :: es) h32 := S32
  have hst1 : StrsAre ([Value.str (txt0 ns y) u23] ++ acc') ([txt0 ns y] ++ (List.range 15).map fun (j : Nat) => textF ns ((j : Int) + 1) y) := .cons _ _ hac
  -- the last two
  obtain ⟨nT2, hT2⟩ := lst_iff.mp (S32.at 2 rfl)
  obtain ⟨u15', h15'⟩ := strs_getD hst1 (i := 15) (by simp)
  obtain ⟨u0', h0'⟩ := strs_getD hst1 (i := 0) (by simp)
  have g15 : ([txt0 ns y] ++ (List.range 15).map fun (j : Nat) => textF ns ((j : Int) + 1) y).getD 15 default = textF ns 15 y := by rfl
  have g0 : ([txt0 ns y] ++ (List.range 15).map fun (j : Nat) => textF ns ((j : Int) + 1) y).getD 0 default = txt0 ns y := by rfl
  rw [g15] at h15'
  rw [g0] at h0'
  have lt15 := textF_len (c := 15) hzl hnb hyl
  have e41 : (Str.ofString "(").length = 1 := by decide
  have e42 : (Str.ofString ")").length = 1 := by decide
  refine x_cons (x_expr (e_extend (fun Q q => e_cellB S32 Pt7 rfl q) hT2 (e_list2 (e_bin (e_str fun u33 t33 => e_sub (e_cellB S32 Pt7 rfl (e_int fun u34 t34 => o_item (k := 15) (IsLst.toIsList (S32.at 2 rfl)) (by omega) h15' (o_cat (fun u35 t35 => ?_) (k_le_line (by rw [e41]; omega))))))))))
  refine e_bin (e_sub (e_cellB S32 Pt7 rfl (e_int fun u36 t36 => o_item (k := 0) (IsLst.toIsList (S32.at 2 rfl)) (by omega) h0' (e_str fun u37 t37 => o_cat (fun u38 t38 => newL S32 fun D2 h39 S39 => ?_) (k_le_line (by rw [e42]; omega))))))
  refine o_ext S39 3 rfl (S39.at 1 rfl) (by simp; omega) fun h40 S40 => ?_
  have S40 : St g7 ((L, isNs m0) :: (D2, isLst _) :: (D, isLst acc') :: (Tx, isLst (([.str (txt0 ns y) u23] ++ acc') ++ [.str (Str.ofString "(" ++ textF ns 15 y) u35, .str (txt0 ns y ++ Str.ofString ")") u38])) :: (L + 7, isCell none) :: (L + 6, isCell none) :: (Pl, isTab g) :: es) h40 := S40
  have hst2 : StrsAre (([Value.str (txt0 ns y) u23] ++ acc') ++ [.str (Str.ofString "(" ++ textF ns 15 y) u35, .str (txt0 ns y ++ Str.ofString ")") u38]) (textsF ns y) := strs_snoc (by
      have := strs_snoc hst1 (Str.ofString "(" ++ textF ns 15 y) u35
      exact this) (txt0 ns y ++ Str.ofString ")") u38 |> fun z => by simpa [textsF] using z
  obtain ⟨g8, S41, X8, PT⟩ := S40.freeze (a := Tx) (List.perm_middle (l₁ := [_, _, _]))
  have Y8 := Y7.trans X8
  have S42 : St g8 ((L, isNs m0) :: (L + 7, isCell none) :: (L + 6, isCell none) :: (Pl, isTab g8) :: es) h40 := (S41.sub ((((List.Sublist.refl _).cons _).cons _).cons_cons _)).weak 3 rfl (isTab.mono Y8)
  obtain ⟨tk1, tk2⟩ := texts_ok hzl hnb hyl
  obtain ⟨p1, p2, p3, p4⟩ := plain ns y hzl hnb hyd
  refine law_b (n := n) hf1 (B.ext Y8) (H.ext Y8) hk (F0.ext Y8) (F3.ext Y8) (G12.ext Y8) (F12.ext Y8) (Y.ext Y8) (Pu7.ext X8) (IsList.ext hUl7 X8) ha hzl (Pt7.ext X8) (IsLst.toIsList PT) hst2 tk1 tk2 p1 p2 p3 hb p4 S42 fun h43 gn43 t43 hb43 S43 => ?_
  exact q h43 gn43 t43 hb43 (S43.weaken Y8)
end
end Mine
end

section
open PySem PySem.W PySem.W.X PyProof.Rows
set_option Elab.async false
set_option maxRecDepth 100000
set_option linter.unusedSimpArgs false
namespace Mine
def sgo : List Nat → Bool → List Nat → Option Nat → List Nat
  | [], _, pend, _ => pend
  | c :: cs, true, pend, k => sgo cs false (pend ++ [c]) k
  | c :: cs, false, pend, k => if c = 92 then sgo cs true (pend ++ [c]) k else if c = 34 then (match k with
      | none => sgo cs false (pend ++ [c]) (some pend.length)
      | some k => pend.take k ++ sgo cs false [] none) else sgo cs false (pend ++ [c]) k
def ck : List Nat → Bool → Int → Bool
  | [], _, o => o == 0
  | _ :: cs, true, o => ck cs false o
  | c :: cs, false, o => if c = 92 then ck cs true o else if c = 40 then ck cs false (o + 1) else if c = 41 then (if o - 1 < 0 then false else ck cs false (o - 1)) else ck cs false o

theorem qt_eq : qt = ⟨#[34]⟩ := by decide
theorem str1_eq (c k : Nat) : ((⟨#[c]⟩ : Str) == ⟨#[k]⟩) = decide (c = k) := by
  by_cases h : c = k
  · subst h; simp
  · rw [decide_eq_false h]
    have : (⟨#[c]⟩ : Str) ≠ ⟨#[k]⟩ := fun e => h (by simpa using congrArg (fun s : Str => s.cps.toList) e)
    simpa using this
theorem str2_ne (a c k : Nat) : (((⟨#[a]⟩ : Str) ++ ⟨#[c]⟩) == ⟨#[k]⟩) = false := by
  have : ((⟨#[a]⟩ : Str) ++ ⟨#[c]⟩) ≠ ⟨#[k]⟩ := fun e => by
    have := congrArg (fun s : Str => s.cps.size) e
    rw [show ((⟨#[a]⟩ : Str) ++ ⟨#[c]⟩).cps = #[a] ++ #[c] from rfl] at this
    simp at this
  simpa using this
theorem bs_eq : Str.ofString "\\" = ⟨#[92]⟩ := by decide
theorem op_eq : Str.ofString "(" = ⟨#[40]⟩ := by decide
theorem cp_eq : Str.ofString ")" = ⟨#[41]⟩ := by decide

theorem chk_ck : ∀ (cs : List Nat) (i : Nat) (b : Bool) (o : Int), chk (escs cs i b) o = ck cs b o
  | [], i, b, o => by
    cases b
    · rfl
    · show (if Str.ofString "\\" == Str.ofString "(" then _ else if Str.ofString "\\" == Str.ofString ")" then _ else _) = _
      rw [if_neg (by decide), if_neg (by decide)]; rfl
  | c :: cs, i, true, o => by
    show (if (Str.ofString "\\" ++ ⟨#[c]⟩) == Str.ofString "(" then _ else if (Str.ofString "\\" ++ ⟨#[c]⟩) == Str.ofString ")" then _ else _) = _
    rw [bs_eq, op_eq, cp_eq, str2_ne, str2_ne, if_neg Bool.false_ne_true, if_neg Bool.false_ne_true]
    exact chk_ck cs (i + 1) false o
  | c :: cs, i, false, o => by
    show chk (if c = 92 then _ else _) o = (if c = 92 then _ else _)
    by_cases h : c = 92
    · rw [if_pos h, if_pos h]; exact chk_ck cs (i + 1) true o
    · rw [if_neg h, if_neg h]
      show (if (⟨#[c]⟩ : Str) == Str.ofString "(" then _ else if (⟨#[c]⟩ : Str) == Str.ofString ")" then _ else _) = _
      rw [op_eq, cp_eq, str1_eq, str1_eq]
      simp only [decide_eq_true_eq, chk_ck cs (i + 1) false]

theorem join_flat (ys : List Str) : (Txt.join (Str.ofString "") ys).cps.toList = (ys.map fun y => y.cps.toList).flatten := by
  have h : ∀ (r : List Str) (a : Array Nat), (r.foldl (fun acc p => acc ++ (Str.ofString "").cps ++ p.cps) a).toList = a.toList ++ (r.map fun y => y.cps.toList).flatten := by
    intro r
    induction r with
    | nil => intro a; simp
    | cons y r ih =>
      intro a
      rw [List.foldl_cons, ih]
      have e : (Str.ofString "").cps = #[] := by decide
      simp [e]
  show ((ys.drop 1).foldl (fun acc p => acc ++ (Str.ofString "").cps ++ p.cps) (ys.headD Str.empty).cps).toList = _
  rw [h]
  cases ys with
  | nil => rfl
  | cons y r => simp

theorem slice_list (x : Str) {a b : Nat} (h1 : a ≤ b) (h2 : b ≤ x.cps.toList.length) : (Txt.slice x (some (a : Int)) (some (b : Int))).cps.toList = (x.cps.toList.drop a).take (b - a) := by
  have := beq_iff_eq.mp (slice_closes (x := x) (i := (a : Int)) (j := (b : Int)) ⟨by omega, by omega, by omega⟩)
  rw [this]
  simp only [Int.toNat_natCast]
  rw [show ((b : Int) - (a : Int)).toNat = b - a by omega]
theorem slice_fromL (x : Str) {a : Nat} (h1 : a ≤ x.length) : (Txt.slice x (some (a : Int)) none).cps.toList = x.cps.toList.drop a := by
  rw [slice_from_eq (x := x) (i := (a : Int)) (b := x.length) (by omega) (by omega) rfl]
  simp only [Int.toNat_natCast]
  rw [List.take_of_length_le]
  rw [List.length_drop]
  have : x.cps.toList.length = x.length := by simp [Str.length]
  omega

theorem step_q (x : Str) (st : Int) (op : Option Int) (res : List Str) (p : Int) (ch : Str) (h : (ch == qt) = true) : stripStep x (st, op, res) (p, ch) = (match op with
      | none => (st, some p, res)
      | some o => (p + 1, none, if st != o then res ++ [Txt.slice x (some st) (some o)] else res)) := if_pos h
theorem step_n (x : Str) (st : Int) (op : Option Int) (res : List Str) (p : Int) (ch : Str) (h : ¬ (ch == qt) = true) : stripStep x (st, op, res) (p, ch) = (st, op, res) := if_neg h
theorem strip_go (x : Str) : ∀ (suf pre : List Nat) (b : Bool) (st : Nat) (op : Option Nat) (res : List Str), pre ++ suf = x.cps.toList → st ≤ pre.length → (∀ o, op = some o → st ≤ o ∧ o ≤ pre.length) →
    (stripEnd x ((escs suf pre.length b).foldl (stripStep x) ((st : Int), op.map (fun o : Nat => (o : Int)), res))).cps.toList = (res.map fun y => y.cps.toList).flatten ++ sgo suf b (pre.drop st) (op.map (· - st)) := by
  intro suf
  have hxl : x.cps.toList.length = x.length := by simp [Str.length]
  induction suf with
  | nil =>
    intro pre b st op res hp hst hop
    rw [List.append_nil] at hp
    have e : (escs [] pre.length b).foldl (stripStep x) ((st : Int), op.map (fun o : Nat => (o : Int)), res) = ((st : Int), op.map (fun o : Nat => (o : Int)), res) := by
      cases b
      · rfl
      · exact step_n x (st : Int) (op.map (fun o : Nat => (o : Int))) res ((pre.length : Int) - 1) (Str.ofString "\\") (by decide)
    rw [e]
    unfold stripEnd
    rw [join_flat]
    show _ = _ ++ pre.drop st
    by_cases h : (st : Int) < x.length
    · rw [if_pos h, List.map_append, List.flatten_append, hp]
      simp only [List.map_cons, List.map_nil, List.flatten_cons, List.flatten_nil, List.append_nil]
      rw [slice_fromL x (by omega)]
    · rw [if_neg h, List.drop_eq_nil_of_le (by rw [hp, hxl]; omega), List.append_nil]
  | cons c suf ih =>
    intro pre b st op res hp hst hop
    have hp' : (pre ++ [c]) ++ suf = x.cps.toList := by rw [← hp]; simp
    have hl' : (pre ++ [c]).length = pre.length + 1 := by simp
    have hd' : (pre ++ [c]).drop st = pre.drop st ++ [c] := List.drop_append_of_le_length hst
    have go : ∀ b', (stripEnd x ((escs suf (pre.length + 1) b').foldl (stripStep x) ((st : Int), op.map (fun o : Nat => (o : Int)), res))).cps.toList = (res.map fun y => y.cps.toList).flatten ++ sgo suf b' (pre.drop st ++ [c]) (op.map (· - st)) := by
      intro b'
      have := ih (pre ++ [c]) b' st op res hp' (by omega) (fun o ho => by have := hop o ho; omega)
      rw [hl', hd'] at this
      exact this
    cases b with
    | true =>
      have e : (escs (c :: suf) pre.length true).foldl (stripStep x) ((st : Int), op.map (fun o : Nat => (o : Int)), res) = (escs suf (pre.length + 1) false).foldl (stripStep x) ((st : Int), op.map (fun o : Nat => (o : Int)), res) := by
        show (escs suf (pre.length + 1) false).foldl (stripStep x) (stripStep x _ ((pre.length : Int), Str.ofString "\\" ++ ⟨#[c]⟩)) = _
        rw [step_n x _ _ _ _ _ (by rw [bs_eq, qt_eq, str2_ne]; exact Bool.false_ne_true)]
      rw [e]
      exact go false
    | false =>
      by_cases h92 : c = 92
      · have e : escs (c :: suf) pre.length false = escs suf (pre.length + 1) true := by
          show (if c = 92 then _ else _) = _
          rw [if_pos h92]
        rw [e]
        have e2 : sgo (c :: suf) false (pre.drop st) (op.map (· - st)) = sgo suf true (pre.drop st ++ [c]) (op.map (· - st)) := by
          show (if c = 92 then _ else _) = _
          rw [if_pos h92]
        rw [e2]
        exact go true
      · have e : escs (c :: suf) pre.length false = ((pre.length : Int), ⟨#[c]⟩) :: escs suf (pre.length + 1) false := by
          show (if c = 92 then _ else _) = _
          rw [if_neg h92]
        rw [e, List.foldl_cons]
        by_cases h34 : c = 34
        · subst h34
          have hq : ((⟨#[34]⟩ : Str) == qt) = true := by decide
          cases op with
          | none =>
            have e3 : stripStep x ((st : Int), Option.map (fun o : Nat => (o : Int)) none, res) ((pre.length : Int), ⟨#[34]⟩) = ((st : Int), some (pre.length : Int), res) := by
              exact step_q x _ _ _ _ _ hq
            rw [e3]
            have := ih (pre ++ [34]) false st (some pre.length) res hp' (by omega) (fun o ho => by cases ho; omega)
            rw [hl', hd'] at this
            have e4 : sgo (34 :: suf) false (pre.drop st) (Option.map (· - st) none) = sgo suf false (pre.drop st ++ [34]) (some (pre.drop st).length) := by
              show (if (34 : Nat) = 92 then _ else if (34 : Nat) = 34 then _ else _) = _
              rw [if_neg (by decide), if_pos rfl]; rfl
            rw [e4, List.length_drop]
            exact this
          | some o =>
            obtain ⟨o1, o2⟩ := hop o rfl
            have e3 : stripStep x ((st : Int), Option.map (fun o : Nat => (o : Int)) (some o), res) ((pre.length : Int), ⟨#[34]⟩) = ((pre.length : Int) + 1, none, if ((st : Int) != (o : Int)) = true then res ++ [Txt.slice x (some (st : Int)) (some (o : Int))] else res) := by
              exact step_q x _ _ _ _ _ hq
            rw [e3]
            have := ih (pre ++ [34]) false (pre.length + 1) none (if ((st : Int) != (o : Int)) = true then res ++ [Txt.slice x (some (st : Int)) (some (o : Int))] else res) hp' (by omega) (fun o ho => by cases ho)
            rw [hl', List.drop_eq_nil_of_le (by rw [hl']; exact Nat.le_refl _)] at this
            have e5 : ((pre.length + 1 : Nat) : Int) = (pre.length : Int) + 1 := by push_cast; rfl
            rw [e5] at this
            rw [show (none : Option Int) = Option.map (fun o : Nat => (o : Int)) none from rfl, this]
            have e4 : sgo (34 :: suf) false (pre.drop st) (Option.map (· - st) (some o)) = (pre.drop st).take (o - st) ++ sgo suf false [] none := by
              show (if (34 : Nat) = 92 then _ else if (34 : Nat) = 34 then _ else _) = _
              rw [if_neg (by decide), if_pos rfl]; rfl
            rw [e4]
            have e6 : ((if ((st : Int) != (o : Int)) = true then res ++ [Txt.slice x (some (st : Int)) (some (o : Int))] else res).map fun y => y.cps.toList).flatten = (res.map fun y => y.cps.toList).flatten ++ (pre.drop st).take (o - st) := by
              by_cases hso : st = o
              · subst hso
                rw [if_neg (by simp), Nat.sub_self, List.take_zero, List.append_nil]
              · rw [if_pos (by simp only [bne_iff_ne, ne_eq]; omega), List.map_append, List.flatten_append]
                congr 1
                simp only [List.map_cons, List.map_nil, List.flatten_cons, List.flatten_nil, List.append_nil]
                rw [slice_list x o1 (by rw [← hp]; simp; omega), ← hp, List.drop_append_of_le_length hst, List.take_append_of_le_length (by rw [List.length_drop]; omega)]
            rw [e6]
            simp [List.append_assoc]
        · have hq : ¬ ((⟨#[c]⟩ : Str) == qt) = true := by rw [qt_eq, str1_eq]; simpa using h34
          have e3 : stripStep x ((st : Int), op.map (fun o : Nat => (o : Int)), res) ((pre.length : Int), ⟨#[c]⟩) = ((st : Int), op.map (fun o : Nat => (o : Int)), res) := by
            exact step_n x _ _ _ _ _ hq
          rw [e3]
          have e2 : sgo (c :: suf) false (pre.drop st) (op.map (· - st)) = sgo suf false (pre.drop st ++ [c]) (op.map (· - st)) := by
            show (if c = 92 then _ else if c = 34 then _ else _) = _
            rw [if_neg h92, if_neg h34]
          rw [e2]
          exact go false
theorem sgo_noq : ∀ (cs : List Nat) (b : Bool) (pend : List Nat) (k : Option Nat), 34 ∉ cs → sgo cs b pend k = pend ++ cs
  | [], b, pend, k, _ => by simp [sgo]
  | c :: cs, true, pend, k, h => by
    show sgo cs false (pend ++ [c]) k = _
    rw [sgo_noq cs false _ k fun z => h (List.mem_cons_of_mem _ z)]; simp
  | c :: cs, false, pend, k, h => by
    show (if c = 92 then _ else if c = 34 then _ else _) = _
    have h1 : c ≠ 34 := fun z => h (by rw [z]; exact List.mem_cons_self)
    rw [if_neg h1, sgo_noq cs true _ k fun z => h (List.mem_cons_of_mem _ z), sgo_noq cs false _ k fun z => h (List.mem_cons_of_mem _ z)]
    simp
theorem strip_sgo (x : Str) : (stripF x).cps.toList = sgo x.cps.toList false [] none := by
  unfold stripF
  by_cases h : hasQ x = true
  · rw [if_pos h]
    have := strip_go x x.cps.toList [] false 0 none [] rfl (Nat.le_refl _) (fun o ho => by cases ho)
    simpa using this
  · rw [if_neg h]
    have e : hasQ x = decide (34 ∈ x.cps.toList) := by unfold hasQ; rw [qt_eq]; exact StrLaws.found_one x 34
    rw [e] at h
    rw [sgo_noq _ _ _ _ (by simpa using h)]; simp
theorem check_ck (x : Str) : checkF x = ck (sgo x.cps.toList false [] none) false 0 := by
  unfold checkF
  rw [chk_ck, strip_sgo]
end Mine
end

section
open PySem PySem.W PySem.W.X PyProof.Rows
set_option Elab.async false
set_option maxRecDepth 100000
set_option linter.unusedSimpArgs false
namespace Mine
theorem mul1 (c : Nat) (n : Int) : (strMul ⟨#[c]⟩ n).cps.toList = List.replicate n.toNat c := by
  have : ∀ (k : Nat) (a : Array Nat), ((List.replicate k (#[c] : Array Nat)).foldl (· ++ ·) a).toList = a.toList ++ List.replicate k c := by
    intro k
    induction k with
    | zero => intro a; simp
    | succ k ih => intro a; rw [List.replicate_succ, List.foldl_cons, ih, List.replicate_succ]; simp
  unfold strMul
  rw [this]; simp
theorem app_list (x y : Str) : (x ++ y).cps.toList = x.cps.toList ++ y.cps.toList := by
  show (x.cps ++ y.cps).toList = _
  simp
theorem pos_neg : ∀ l : List Int, (posL l).sum - (negL l).sum = l.sum ∧ 0 ≤ (posL l).sum ∧ 0 ≤ (negL l).sum
  | [] => by simp [posL, negL]
  | x :: l => by
    obtain ⟨h1, h2, h3⟩ := pos_neg l
    by_cases hp : 0 < x
    · have e1 : posL (x :: l) = x :: posL l := by unfold posL; rw [List.filter_cons, if_pos (by simpa using hp)]
      have e2 : negL (x :: l) = negL l := by unfold negL; rw [List.filter_cons, if_neg (by simp; omega)]
      rw [e1, e2]; simp only [List.sum_cons]; omega
    · by_cases hn : x < 0
      · have e1 : posL (x :: l) = posL l := by unfold posL; rw [List.filter_cons, if_neg (by simpa using hp)]
        have e2 : negL (x :: l) = (0 - x) :: negL l := by unfold negL; rw [List.filter_cons, if_pos (by simpa using hn)]; rfl
        rw [e1, e2]; simp only [List.sum_cons]; omega
      · have e1 : posL (x :: l) = posL l := by unfold posL; rw [List.filter_cons, if_neg (by simpa using hp)]
        have e2 : negL (x :: l) = negL l := by unfold negL; rw [List.filter_cons, if_neg (by simpa using hn)]
        rw [e1, e2]; simp only [List.sum_cons]; omega
def bL (p n : Nat) : List Nat := List.replicate p 40 ++ List.replicate n 41
theorem brk_list (l : List Int) : ∃ p n : Nat, (brk l).cps.toList = bL p n ∧ (p : Int) - n = l.sum := by
  obtain ⟨h1, h2, h3⟩ := pos_neg l
  refine ⟨(posL l).sum.toNat, (negL l).sum.toNat, ?_, by omega⟩
  unfold brk bL
  rw [op_eq, cp_eq, app_list, mul1, mul1]
theorem mul2 (c : Int) : (strMul (Str.ofString "()") (c.fmod 2)).cps.toList = [] ∨ (strMul (Str.ofString "()") (c.fmod 2)).cps.toList = [40, 41] := by
  have := fmod2 c
  have h : c.fmod 2 = 0 ∨ c.fmod 2 = 1 := by omega
  rcases h with h | h <;> rw [h]
  · left; decide
  · right; decide

theorem sgo_app : ∀ (l cs pend : List Nat) (k : Option Nat), (∀ c ∈ l, c ≠ 34 ∧ c ≠ 92) → sgo (l ++ cs) false pend k = sgo cs false (pend ++ l) k
  | [], cs, pend, k, _ => by simp
  | c :: l, cs, pend, k, h => by
    have hc := h c List.mem_cons_self
    show (if c = 92 then _ else if c = 34 then _ else _) = _
    rw [if_neg hc.2, if_neg hc.1]
    show sgo (l ++ cs) false (pend ++ [c]) k = _
    rw [sgo_app l cs _ k fun z hz => h z (List.mem_cons_of_mem _ hz)]
    simp
theorem bL_plain (p n : Nat) : ∀ c ∈ bL p n, c ≠ 34 ∧ c ≠ 92 := by
  intro c hc
  rcases List.mem_append.mp hc with h | h
  · rw [(List.mem_replicate.mp h).2]; decide
  · rw [(List.mem_replicate.mp h).2]; decide
theorem bL_39 (p n : Nat) : 39 ∉ bL p n := by
  intro hc
  rcases List.mem_append.mp hc with h | h <;> exact absurd (List.mem_replicate.mp h).2 (by decide)
theorem ck_open : ∀ (p : Nat) (cs : List Nat) (o : Int), ck (List.replicate p 40 ++ cs) false o = ck cs false (o + p)
  | 0, cs, o => by simp
  | p + 1, cs, o => by
    show (if (40 : Nat) = 92 then _ else if (40 : Nat) = 40 then _ else _) = _
    rw [if_neg (by decide), if_pos rfl]
    show ck (List.replicate p 40 ++ cs) false (o + 1) = _
    rw [ck_open p cs (o + 1)]
    congr 1
    push_cast; omega
theorem ck_close : ∀ (n : Nat) (cs : List Nat) (o : Int), 0 ≤ o → ck (List.replicate n 41 ++ cs) false o = if o - n < 0 then false else ck cs false (o - n)
  | 0, cs, o, h => by
    rw [if_neg (by simp; omega)]; simp
  | n + 1, cs, o, h => by
    show (if (41 : Nat) = 92 then _ else if (41 : Nat) = 40 then _ else if (41 : Nat) = 41 then _ else _) = _
    rw [if_neg (by decide), if_neg (by decide), if_pos rfl]
    by_cases h1 : o - 1 < 0
    · rw [if_pos h1, if_pos (by push_cast; omega)]
    · rw [if_neg h1]
      show ck (List.replicate n 41 ++ cs) false (o - 1) = _
      rw [ck_close n cs (o - 1) (by omega)]
      have e : o - 1 - (n : Int) = o - ((n + 1 : Nat) : Int) := by push_cast; omega
      rw [e]
theorem ck_bL (p n : Nat) (cs : List Nat) (o : Int) (h : 0 ≤ o) : ck (bL p n ++ cs) false o = if o + p - n < 0 then false else ck cs false (o + p - n) := by
  unfold bL
  rw [List.append_assoc, ck_open, ck_close _ _ _ (by omega)]

theorem dress_ok : ∀ y ∈ dressL, 39 ∉ y.cps.toList ∧ ∃ zs : List Nat, (∀ cs o, ck (zs ++ cs) false o = ck cs false o) ∧ ∀ cs pend, (∀ q, sgo cs false q none = q ++ sgo cs false [] none) → sgo (y.cps.toList ++ cs) false pend none = pend ++ zs ++ sgo cs false [] none := by
  intro y hy
  simp only [dressL, List.mem_cons, List.not_mem_nil, or_false] at hy
  rcases hy with rfl | rfl | rfl | rfl | rfl | rfl
  · refine ⟨by decide, [], fun _ _ => rfl, fun cs pend h => ?_⟩
    rw [show (Str.ofString "").cps.toList = [] by decide]
    rw [List.nil_append, h pend]; simp
  · refine ⟨by decide, [92, 41], fun cs o => by simp [ck], fun cs pend h => ?_⟩
    rw [show (Str.ofString "\\)").cps.toList = [92, 41] by decide]
    simp [sgo, h (pend ++ [92, 41])]
  · refine ⟨by decide, [], fun cs o => rfl, fun cs pend h => ?_⟩
    rw [show (Str.ofString "\"(\"").cps.toList = [34, 40, 34] by decide]
    simp [sgo]
  · refine ⟨by decide, [92, 92], fun cs o => by simp [ck], fun cs pend h => ?_⟩
    rw [show (Str.ofString "\\\\").cps.toList = [92, 92] by decide]
    simp [sgo, h (pend ++ [92, 92])]
  · refine ⟨by decide, [], fun cs o => rfl, fun cs pend h => ?_⟩
    rw [show (Str.ofString "\"\\\")\"").cps.toList = [34, 92, 34, 41, 34] by decide]
    simp [sgo]
  · refine ⟨by decide, [92, 34], fun cs o => by simp [ck], fun cs pend h => ?_⟩
    rw [show (Str.ofString "\\\"").cps.toList = [92, 34] by decide]
    simp [sgo, h (pend ++ [92, 34])]
theorem sgo_plain (l cs : List Nat) (hl : ∀ c ∈ l, c ≠ 34 ∧ c ≠ 92) (h : ∀ q, sgo cs false q none = q ++ sgo cs false [] none) : ∀ q, sgo (l ++ cs) false q none = q ++ sgo (l ++ cs) false [] none := by
  intro q
  rw [sgo_app l cs q none hl, sgo_app l cs [] none hl, h (q ++ l), h ([] ++ l)]
  simp
theorem sgo_nil : ∀ q, sgo [] false q none = q ++ sgo [] false [] none := by intro q; simp [sgo]

/-- the shape of a text -/
theorem text_list (ns : List Int) (c : Int) (y : Str) : ∃ (A : List Nat) (p1 n1 p2 n2 : Nat), (A = [] ∨ A = [40, 41]) ∧ (textF ns c y).cps.toList = A ++ (bL p1 n1 ++ (y.cps.toList ++ bL p2 n2)) ∧ (p1 : Int) - n1 = (partL ns c 1 4).sum ∧ (p2 : Int) - n2 = (partL ns c 0 4).sum + (0 - ns.sum) := by
  obtain ⟨p1, n1, e1, s1⟩ := brk_list (partL ns c 1 4)
  obtain ⟨p2, n2, e2, s2⟩ := brk_list (partL ns c 0 4 ++ [0 - ns.sum])
  refine ⟨_, p1, n1, p2, n2, mul2 c, ?_, s1, by rw [s2]; simp⟩
  unfold textF
  rw [app_list, app_list, app_list, e1, e2]
  simp
theorem ckA {A : List Nat} (hA : A = [] ∨ A = [40, 41]) (cs : List Nat) (o : Int) (ho : 0 ≤ o) : ck (A ++ cs) false o = ck cs false o := by
  rcases hA with rfl | rfl
  · rfl
  · show (if (40 : Nat) = 92 then _ else if (40 : Nat) = 40 then ck (41 :: cs) false (o + 1) else _) = _
    rw [if_neg (by decide), if_pos rfl]
    show (if (41 : Nat) = 92 then _ else if (41 : Nat) = 40 then _ else if (41 : Nat) = 41 then (if o + 1 - 1 < 0 then false else ck cs false (o + 1 - 1)) else _) = _
    rw [if_neg (by decide), if_neg (by decide), if_pos rfl, if_neg (by omega), show o + 1 - 1 = o by omega]
theorem A_plain {A : List Nat} (hA : A = [] ∨ A = [40, 41]) : ∀ c ∈ A, c ≠ 34 ∧ c ≠ 92 := by
  rcases hA with rfl | rfl <;> decide
/-- what the check says of a text, with plain lists around it -/
theorem ck_text {ns : List Int} {c : Int} {y : Str} (hy : y ∈ dressL) (hs : (partL ns c 1 4).sum + (partL ns c 0 4).sum = ns.sum) (pre tail : List Nat) (hpre : ∀ c ∈ pre, c ≠ 34 ∧ c ≠ 92) (ht : ∀ q, sgo tail false q none = q ++ sgo tail false [] none) (k : Int) (hk : 0 ≤ k) (hk2 : ∀ cs, ck (pre ++ cs) false 0 = ck cs false k) :
    ck (sgo (pre ++ ((textF ns c y).cps.toList ++ tail)) false [] none) false 0 = if k + (partL ns c 1 4).sum < 0 then false else ck (sgo tail false [] none) false k := by
  obtain ⟨A, p1, n1, p2, n2, hA, e, s1, s2⟩ := text_list ns c y
  obtain ⟨_, zs, hz1, hz2⟩ := dress_ok y hy
  have e3 : sgo (pre ++ ((textF ns c y).cps.toList ++ tail)) false [] none = pre ++ (A ++ (bL p1 n1 ++ (zs ++ (bL p2 n2 ++ sgo tail false [] none)))) := by
    rw [e]
    have e4 : pre ++ (A ++ (bL p1 n1 ++ (y.cps.toList ++ bL p2 n2)) ++ tail) = (pre ++ (A ++ bL p1 n1)) ++ (y.cps.toList ++ (bL p2 n2 ++ tail)) := by simp
    rw [e4, sgo_app _ _ _ _ (by
      intro c hc
      rcases List.mem_append.mp hc with h | h
      · exact hpre c h
      · rcases List.mem_append.mp h with h | h
        · exact A_plain hA c h
        · exact bL_plain p1 n1 c h)]
    rw [hz2 _ _ (sgo_plain _ _ (bL_plain p2 n2) ht), sgo_app _ _ _ _ (bL_plain p2 n2), ht ([] ++ bL p2 n2)]
    simp
  rw [e3, hk2, ckA hA _ _ hk, ck_bL _ _ _ _ hk, hz1]
  generalize (partL ns c 1 4).sum = a at *
  generalize (partL ns c 0 4).sum = b at *
  generalize ns.sum = s at *
  generalize sgo tail false [] none = T at *
  clear e3 e hz2 hz1 ht hk2
  by_cases h : k + a < 0
  · rw [if_pos h, if_pos (by omega)]
  · have e6 : k + (p1 : Int) - n1 + p2 - n2 = k := by omega
    rw [if_neg h, if_neg (by omega), ck_bL _ _ _ _ (by omega), e6, if_neg (by omega)]
end Mine
end

section
open PySem PySem.W PySem.W.X PyProof.Rows
set_option Elab.async false
set_option maxRecDepth 100000
set_option linter.unusedSimpArgs false
namespace Mine
theorem part_sum (ns : List Int) (c : Int) : ∀ n, (partL ns c 1 n).sum + (partL ns c 0 n).sum = ((List.range n).map fun t => ns.getD t 0).sum
  | 0 => by simp [partL]
  | n + 1 => by
    have ih := part_sum ns c n
    rw [partL_succ, partL_succ, List.range_succ, List.map_append, List.sum_append, List.sum_append, List.sum_append]
    have h := fmod2 (c.fdiv (2 ^ n))
    have h2 : (c.fdiv (2 ^ n)).fmod 2 = 0 ∨ (c.fdiv (2 ^ n)).fmod 2 = 1 := by omega
    rcases h2 with h2 | h2
    · rw [if_neg (by unfold inPart; rw [h2]; decide), if_pos (by unfold inPart; rw [h2]; decide)]
      simp only [List.sum_cons, List.sum_nil, List.map_cons, List.map_nil]; omega
    · rw [if_pos (by unfold inPart; rw [h2]; decide), if_neg (by unfold inPart; rw [h2]; decide)]
      simp only [List.sum_cons, List.sum_nil, List.map_cons, List.map_nil]; omega
theorem part_all {ns : List Int} (hz : ns.length = 4) (c : Int) : (partL ns c 1 4).sum + (partL ns c 0 4).sum = ns.sum := by
  rw [part_sum]
  match ns, hz with
  | [a, b, c, d], _ => rfl
theorem ck_nil (o : Int) : ck (sgo [] false [] none) false o = (o == 0) := rfl
theorem check_text {ns : List Int} {y : Str} (hz : ns.length = 4) (hy : y ∈ dressL) (c : Int) : checkF (textF ns c y) = !decide ((partL ns c 1 4).sum < 0) := by
  rw [check_ck]
  have := ck_text (c := c) hy (part_all hz c) [] [] (by simp) sgo_nil 0 (by omega) (fun _ => rfl)
  simp only [List.nil_append, List.append_nil] at this
  rw [this, Int.zero_add]
  by_cases h : (partL ns c 1 4).sum < 0
  · rw [if_pos h, decide_eq_true h]; rfl
  · rw [if_neg h, decide_eq_false h]; rfl
theorem bad39 : 39 ∈ bad.cps.toList := by decide
theorem text_ne_bad {ns : List Int} {c : Int} {y : Str} (hy : y ∈ dressL) : (textF ns c y == bad) = false := by
  have : textF ns c y ≠ bad := by
    intro e
    have h39 : 39 ∈ (textF ns c y).cps.toList := by rw [e]; exact bad39
    obtain ⟨A, p1, n1, p2, n2, hA, e2, _⟩ := text_list ns c y
    rw [e2] at h39
    rcases List.mem_append.mp h39 with h | h
    · rcases hA with rfl | rfl <;> simp at h
    · rcases List.mem_append.mp h with h | h
      · exact bL_39 _ _ h
      · rcases List.mem_append.mp h with h | h
        · exact (dress_ok y hy).1 h
        · exact bL_39 _ _ h
  simpa using this
theorem below_text {ns : List Int} {y : Str} (hz : ns.length = 4) (hy : y ∈ dressL) {k : Nat} (h1 : 1 ≤ k) (h2 : k ≤ 15) : belowF (textsF ns y) k = decide ((partL ns k 1 4).sum < 0) := by
  have e : (textsF ns y).getD k default = textF ns k y := by
    have : k = 1 ∨ k = 2 ∨ k = 3 ∨ k = 4 ∨ k = 5 ∨ k = 6 ∨ k = 7 ∨ k = 8 ∨ k = 9 ∨ k = 10 ∨ k = 11 ∨ k = 12 ∨ k = 13 ∨ k = 14 ∨ k = 15 := by omega
    rcases this with rfl | rfl | rfl | rfl | rfl | rfl | rfl | rfl | rfl | rfl | rfl | rfl | rfl | rfl | rfl <;> rfl
  unfold belowF fixF
  rw [e, check_text hz hy]
  by_cases h : (partL ns k 1 4).sum < 0
  · rw [decide_eq_true h, if_neg (by simp)]; simp
  · rw [decide_eq_false h, if_pos (by simp), text_ne_bad hy]
def tailL : List Nat := [40, 40, 34, 41, 41, 92, 40, 32]
theorem tail_eq : (Str.ofString "((\"))\\( ").cps.toList = tailL := by decide
theorem sgo_tail (q : List Nat) : sgo tailL false q none = q ++ tailL := by simp [sgo, tailL]
theorem sgo_tail2 (q : List Nat) : sgo (tailL ++ [41]) false q none = q ++ (tailL ++ [41]) := by simp [sgo, tailL]
theorem part0 {ns : List Int} (hz : ns.length = 4) : (partL ns 0 1 4).sum = 0 := by
  match ns, hz with
  | [a, b, c, d], _ => rfl
theorem sgo_q (cs : List Nat) : sgo ([34, 40, 34] ++ cs) false [] none = sgo cs false [] none := by simp [sgo]
theorem txt0_list (ns : List Int) (y : Str) : (txt0 ns y).cps.toList = [34, 40, 34] ++ ((textF ns 0 y).cps.toList ++ tailL) := by
  unfold txt0
  rw [app_list, app_list, tail_eq, show (Str.ofString "\"(\"").cps.toList = [34, 40, 34] by decide, List.append_assoc]
theorem check_0 {ns : List Int} {y : Str} (hz : ns.length = 4) (hy : y ∈ dressL) : checkF (txt0 ns y) = true := by
  rw [check_ck, txt0_list, sgo_q]
  have := ck_text (c := 0) hy (part_all hz 0) [] tailL (by simp) (fun q => by rw [sgo_tail, sgo_tail]; simp) 0 (by omega) (fun _ => rfl)
  rw [List.nil_append] at this
  rw [this, part0 hz, if_neg (by decide), sgo_tail]
  decide
theorem check_17 {ns : List Int} {y : Str} (hz : ns.length = 4) (hy : y ∈ dressL) : checkF (txt0 ns y ++ Str.ofString ")") = false := by
  rw [check_ck, app_list, txt0_list, show (Str.ofString ")").cps.toList = [41] by decide]
  have e : [34, 40, 34] ++ ((textF ns 0 y).cps.toList ++ tailL) ++ [41] = [34, 40, 34] ++ ((textF ns 0 y).cps.toList ++ (tailL ++ [41])) := by simp
  rw [e, sgo_q]
  have := ck_text (c := 0) hy (part_all hz 0) [] (tailL ++ [41]) (by simp) (fun q => by rw [sgo_tail2, sgo_tail2]; simp) 0 (by omega) (fun _ => rfl)
  rw [List.nil_append] at this
  rw [this, part0 hz, if_neg (by decide), sgo_tail2]
  decide
theorem check_16 {ns : List Int} {y : Str} (hz : ns.length = 4) (hy : y ∈ dressL) : checkF (Str.ofString "(" ++ textF ns 15 y) = false := by
  rw [check_ck, app_list, show (Str.ofString "(").cps.toList = [40] by decide]
  have := ck_text (c := 15) hy (part_all hz 15) [40] [] (by decide) sgo_nil 1 (by omega) (fun cs => by simp [ck])
  rw [List.append_nil] at this
  rw [this]
  split
  · rfl
  · decide
theorem txt0_ne_bad (ns : List Int) (y : Str) : (txt0 ns y == bad) = false := by
  have : txt0 ns y ≠ bad := by
    intro e
    have := congrArg (fun s : Str => s.cps.toList.head?) e
    simp only [txt0_list] at this
    revert this
    rw [show bad.cps.toList.head? = some 40 by decide]
    simp
  simpa using this
theorem b0 {ns : List Int} {y : Str} (hz : ns.length = 4) (hy : y ∈ dressL) : belowF (textsF ns y) 0 = false := by
  unfold belowF fixF
  rw [show (textsF ns y).getD 0 default = txt0 ns y from rfl, check_0 hz hy, if_pos rfl, txt0_ne_bad]
theorem b16 {ns : List Int} {y : Str} (hz : ns.length = 4) (hy : y ∈ dressL) : belowF (textsF ns y) 16 = true := by
  unfold belowF fixF
  rw [show (textsF ns y).getD 16 default = Str.ofString "(" ++ textF ns 15 y from rfl, check_16 hz hy, if_neg Bool.false_ne_true]
  simp
theorem b17 {ns : List Int} {y : Str} (hz : ns.length = 4) (hy : y ∈ dressL) : belowF (textsF ns y) 17 = true := by
  unfold belowF fixF
  rw [show (textsF ns y).getD 17 default = txt0 ns y ++ Str.ofString ")" from rfl, check_17 hz hy, if_neg Bool.false_ne_true]
  simp
end Mine
end

section
open PySem PySem.W PySem.W.X PyProof.Rows
set_option Elab.async false
set_option maxRecDepth 100000
set_option linter.unusedSimpArgs false
namespace Mine
/-- verdicts by number: 0 none yet, 1 the empty text, 2 3 4 the figures -/
def vdOf : Nat → Option Str
  | 0 => none
  | 1 => some (Str.ofString "")
  | 2 => some (Str.ofString "1")
  | 3 => some (Str.ofString "2")
  | _ => some (Str.ofString "3")
def stD (s : Int × Nat) (r : Int × Nat) : Int × Nat := if r.1 != 0 then (if s.1 < r.1 then r else if r.1 == s.1 && s.2 == 1 then (s.1, r.2) else s) else s
def resD : Nat → Int
  | 0 => 0
  | 1 => 4
  | 2 => 1
  | 3 => 2
  | _ => 3
def lowD (d4 d1 d2 d3 : Int) : Int := resD (([(d4, 1), (d1, 1), (d1, 2), (d2, 1), (d2, 3), (d3, 1), (d3, 4)].foldl stD (-1, 0)).2)
theorem alw_eq (b : Int) (a : Nat) (dn : Int) (vd : Str) (ha : a ≤ 4) : alwStep (b, vdOf a) (dn, vd) = if dn != 0 then (if decide (b < dn) then (dn, some vd) else if (dn == b && a == 1) then (b, some vd) else (b, vdOf a)) else (b, vdOf a) := by
  have : a = 0 ∨ a = 1 ∨ a = 2 ∨ a = 3 ∨ a = 4 := by omega
  rcases this with rfl | rfl | rfl | rfl | rfl <;> rfl
theorem st_ok (b : Int) (a : Nat) (dn : Int) (v : Nat) (vd : Str) (ha : a ≤ 4) (hv : 1 ≤ v ∧ v ≤ 4) (hd : vdOf v = some vd) : alwStep (b, vdOf a) (dn, vd) = ((stD (b, a) (dn, v)).1, vdOf (stD (b, a) (dn, v)).2) ∧ (stD (b, a) (dn, v)).2 ≤ 4 := by
  rw [alw_eq b a dn vd ha]
  unfold stD
  simp only
  by_cases c1 : (dn != 0) = true
  · rw [if_pos c1, if_pos c1]
    by_cases c2 : b < dn
    · rw [if_pos (by simpa using c2), if_pos c2]; exact ⟨by simp [hd], by simp; omega⟩
    · rw [if_neg (by simpa using c2), if_neg c2]
      by_cases c3 : (dn == b && a == 1) = true
      · rw [if_pos c3, if_pos c3]; exact ⟨by simp [hd], by simp; omega⟩
      · rw [if_neg c3, if_neg c3]; exact ⟨rfl, ha⟩
  · rw [if_neg c1, if_neg c1]; exact ⟨rfl, ha⟩
theorem fold_ok : ∀ (l : List (Int × Nat)) (l' : List (Int × Str)) (s : Int × Nat), l.length = l'.length → (∀ (i : Nat) (r : Int × Nat), l[i]? = some r → (1 ≤ r.2 ∧ r.2 ≤ 4) ∧ ∃ vd, l'[i]? = some (r.1, vd) ∧ vdOf r.2 = some vd) → s.2 ≤ 4 →
    l'.foldl alwStep (s.1, vdOf s.2) = ((l.foldl stD s).1, vdOf (l.foldl stD s).2) ∧ (l.foldl stD s).2 ≤ 4
  | [], [], s, _, _, hs => ⟨rfl, hs⟩
  | r :: l, r' :: l', s, hl, h, hs => by
    obtain ⟨hv, vd, e1, e2⟩ := h 0 r rfl
    simp at e1
    subst e1
    obtain ⟨k1, k2⟩ := st_ok s.1 s.2 r.1 r.2 vd hs hv e2
    rw [List.foldl_cons, List.foldl_cons, k1]
    exact fold_ok l l' (stD s r) (by simpa using hl) (fun i r hr => by simpa using h (i + 1) r (by simpa using hr)) k2
theorem lowF_eq (d4 d1 d2 d3 : Int) : lowF [(d4, Str.ofString ""), (d1, Str.ofString ""), (d1, Str.ofString "1"), (d2, Str.ofString ""), (d2, Str.ofString "2"), (d3, Str.ofString ""), (d3, Str.ofString "3")] = lowD d4 d1 d2 d3 := by
  have hj : (Txt.join (Str.ofString "") [Str.ofString "", Str.ofString "", Str.ofString "1", Str.ofString "", Str.ofString "2", Str.ofString "", Str.ofString "3"] != Str.ofString "123") = false := by decide
  unfold lowF
  rw [if_neg (by
    simp only [List.map_cons, List.map_nil]
    rw [hj]; exact Bool.false_ne_true)]
  have := fold_ok [(d4, 1), (d1, 1), (d1, 2), (d2, 1), (d2, 3), (d3, 1), (d3, 4)] [(d4, Str.ofString ""), (d1, Str.ofString ""), (d1, Str.ofString "1"), (d2, Str.ofString ""), (d2, Str.ofString "2"), (d3, Str.ofString ""), (d3, Str.ofString "3")] (-1, 0) rfl (by
    intro i r hr
    have hi : i < 7 := by
      have := (List.getElem?_eq_some_iff.mp hr).1
      simpa using this
    have : i = 0 ∨ i = 1 ∨ i = 2 ∨ i = 3 ∨ i = 4 ∨ i = 5 ∨ i = 6 := by omega
    rcases this with rfl | rfl | rfl | rfl | rfl | rfl | rfl <;> (simp at hr; subst hr; exact ⟨⟨by simp, by simp⟩, _, rfl, rfl⟩)) (by decide)
  obtain ⟨k1, k2⟩ := this
  unfold alwF
  rw [show ((-1 : Int), (none : Option Str)) = (((-1 : Int), (0 : Nat)).1, vdOf ((-1 : Int), (0 : Nat)).2) from rfl, k1]
  unfold lowD
  generalize (List.foldl stD (-1, 0) [(d4, 1), (d1, 1), (d1, 2), (d2, 1), (d2, 3), (d3, 1), (d3, 4)]).2 = v at k2 ⊢
  have : v = 0 ∨ v = 1 ∨ v = 2 ∨ v = 3 ∨ v = 4 := by omega
  rcases this with rfl | rfl | rfl | rfl | rfl <;> rfl

def pcN (k : Nat) : Nat := ((List.range 4).filter (inPart k 1)).length
theorem part_pc (ns : List Int) (k : Nat) : (partL ns k 1 4).length = pcN k := by unfold partL pcN; rw [List.length_map]
theorem rules_pc {ns : List Int} {k n : Nat} (h : pcN k = n) : rulesF ns k = ([Str.ofString "", Str.ofString (toString (n : Int))].take (2 - n / 4)).map fun v => (0 - (partL ns k 1 4).sum, v) := by
  unfold rulesF
  rw [part_pc, h]
theorem ord_fr : ∀ l ∈ ordA 4, (frs l).map (fun c => pcN c.toNat) = [1, 2, 3, 4] ∧ (∀ c ∈ frs l, 1 ≤ c ∧ c ≤ 15) := by decide +kernel

def S4 (a b c d : Int) (k : Nat) : Int := (if k % 2 = 1 then a else 0) + (if k / 2 % 2 = 1 then b else 0) + (if k / 4 % 2 = 1 then c else 0) + (if k / 8 % 2 = 1 then d else 0)
theorem S4_eq (a b c d : Int) {k : Nat} (h : k < 16) : (partL [a, b, c, d] k 1 4).sum = S4 a b c d k := by
  have key : ∀ k : Nat, k < 16 → inPart k 1 0 = decide (k % 2 = 1) ∧ inPart k 1 1 = decide (k / 2 % 2 = 1) ∧ inPart k 1 2 = decide (k / 4 % 2 = 1) ∧ inPart k 1 3 = decide (k / 8 % 2 = 1) := by decide
  obtain ⟨h0, h1, h2, h3⟩ := key k h
  have one : ∀ (t : Nat) (r : List Nat) (p : Prop) [Decidable p] (f : Nat → Int), inPart k 1 t = decide p → (((t :: r).filter (inPart k 1)).map f).sum = (if p then f t else 0) + ((r.filter (inPart k 1)).map f).sum := by
    intro t r p _ f e
    by_cases hp : p
    · rw [List.filter_cons_of_pos (by rw [e]; exact decide_eq_true hp), if_pos hp]; rfl
    · rw [List.filter_cons_of_neg (by rw [e]; simp [hp]), if_neg hp, Int.zero_add]
  unfold partL
  rw [show List.range 4 = [0, 1, 2, 3] from rfl, one 0 _ _ _ h0, one 1 _ _ _ h1, one 2 _ _ _ h2, one 3 _ _ _ h3]
  show _ + (_ + (_ + (_ + (0 : Int)))) = _
  rw [Int.add_zero, ← Int.add_assoc, ← Int.add_assoc]
  rfl
def fr3 : List (Nat × Nat × Nat) := (ordA 4).map fun l => (((frs l).getD 0 0).toNat, ((frs l).getD 1 0).toNat, ((frs l).getD 2 0).toNat)
def fr3L : List (Nat × Nat × Nat) := [(1, 3, 7), (1, 3, 11), (1, 5, 7), (1, 5, 13), (1, 9, 11), (1, 9, 13), (2, 3, 7), (2, 3, 11), (2, 6, 7), (2, 6, 14), (2, 10, 11), (2, 10, 14), (4, 5, 7), (4, 5, 13), (4, 6, 7), (4, 6, 14), (4, 12, 13), (4, 12, 14), (8, 9, 11), (8, 9, 13), (8, 10, 11), (8, 10, 14), (8, 12, 13), (8, 12, 14)]
theorem fr3_eq : fr3 = fr3L := by decide +kernel
def cntD (a b c d : Int) (f : Nat × Nat × Nat) : Int := (if S4 a b c d f.1 < 0 then 1 else 0) + (if S4 a b c d f.2.1 < 0 then 1 else 0) + (if S4 a b c d f.2.2 < 0 then 1 else 0) + (if S4 a b c d 15 < 0 then 1 else 0)
def fndD (a b c d : Int) (f : Nat × Nat × Nat) : Int := lowD (0 - S4 a b c d 15) (0 - S4 a b c d f.1) (0 - S4 a b c d f.2.1) (0 - S4 a b c d f.2.2)
def permD (a b c d : Int) : Bool := List.isPerm (fr3L.map (cntD a b c d)) (fr3L.map (fndD a b c d))
end Mine
end

section
open PySem PySem.W PySem.W.X PyProof.Rows
set_option Elab.async false
set_option maxRecDepth 100000
set_option linter.unusedSimpArgs false
namespace Mine
/-- the law for four ups: over all orders, counts and places come equally often -/
def PermP (a b c d : Int) : Prop := (fr3L.map (cntD a b c d)).Perm (fr3L.map (fndD a b c d))
theorem fr3_lt : ∀ f ∈ fr3L, f.1 < 16 ∧ f.2.1 < 16 ∧ f.2.2 < 16 := by decide
/-- a swap of two pieces moves the orders about -/
def sw3 (sw : Nat → Nat) (f : Nat × Nat × Nat) : Nat × Nat × Nat := (sw f.1, sw f.2.1, sw f.2.2)
theorem perm_sw {a b c d a' b' c' d' : Int} (sw : Nat → Nat) (h15 : sw 15 = 15) (hp : (fr3L.map (sw3 sw)).Perm fr3L) (hS : ∀ k, k < 16 → S4 a' b' c' d' k = S4 a b c d (sw k)) (h : PermP a b c d) : PermP a' b' c' d' := by
  have e1 : fr3L.map (cntD a' b' c' d') = (fr3L.map (sw3 sw)).map (cntD a b c d) := by
    rw [List.map_map]
    refine List.map_congr_left fun f hf => ?_
    obtain ⟨h1, h2, h3⟩ := fr3_lt f hf
    show cntD a' b' c' d' f = cntD a b c d (sw3 sw f)
    unfold cntD
    rw [hS _ h1, hS _ h2, hS _ h3, hS 15 (by omega), h15]
    rfl
  have e2 : fr3L.map (fndD a' b' c' d') = (fr3L.map (sw3 sw)).map (fndD a b c d) := by
    rw [List.map_map]
    refine List.map_congr_left fun f hf => ?_
    obtain ⟨h1, h2, h3⟩ := fr3_lt f hf
    simp only [fndD, sw3, Function.comp, hS _ h1, hS _ h2, hS _ h3, hS 15 (by omega), h15]
  unfold PermP
  rw [e1, e2]
  exact ((hp.map _).trans h).trans (hp.map _).symm
def swA (k : Nat) : Nat := k / 4 * 4 + k % 2 * 2 + k / 2 % 2
def swB (k : Nat) : Nat := k / 8 * 8 + k / 2 % 2 * 4 + k / 4 % 2 * 2 + k % 2
def swC (k : Nat) : Nat := k / 4 % 2 * 8 + k / 8 % 2 * 4 + k % 4
theorem bitA : ∀ k, k < 16 → swA k % 2 = k / 2 % 2 ∧ swA k / 2 % 2 = k % 2 ∧ swA k / 4 % 2 = k / 4 % 2 ∧ swA k / 8 % 2 = k / 8 % 2 := by decide
theorem bitB : ∀ k, k < 16 → swB k % 2 = k % 2 ∧ swB k / 2 % 2 = k / 4 % 2 ∧ swB k / 4 % 2 = k / 2 % 2 ∧ swB k / 8 % 2 = k / 8 % 2 := by decide
theorem bitC : ∀ k, k < 16 → swC k % 2 = k % 2 ∧ swC k / 2 % 2 = k / 2 % 2 ∧ swC k / 4 % 2 = k / 8 % 2 ∧ swC k / 8 % 2 = k / 4 % 2 := by decide
variable {a b c d : Int}
theorem sA (h : PermP a b c d) : PermP b a c d := perm_sw swA rfl (List.isPerm_iff.mp (by decide +kernel)) (fun k hk => by
  obtain ⟨h1, h2, h3, h4⟩ := bitA k hk
  unfold S4
  rw [h1, h2, h3, h4]
  exact congrArg (· + _) (congrArg (· + _) (Int.add_comm _ _))) h
theorem sB (h : PermP a b c d) : PermP a c b d := perm_sw swB rfl (List.isPerm_iff.mp (by decide +kernel)) (fun k hk => by
  obtain ⟨h1, h2, h3, h4⟩ := bitB k hk
  unfold S4
  rw [h1, h2, h3, h4]
  exact congrArg (· + _) (Int.add_right_comm _ _ _)) h
theorem sC (h : PermP a b c d) : PermP a b d c := perm_sw swC rfl (List.isPerm_iff.mp (by decide +kernel)) (fun k hk => by
  obtain ⟨h1, h2, h3, h4⟩ := bitC k hk
  unfold S4
  rw [h1, h2, h3, h4]
  exact Int.add_right_comm _ _ _) h
def five : List Int := [-2, -1, 0, 1, 2]
theorem perm_a0a : ∀ c ∈ five, -2 ≤ c → ∀ d ∈ five, c ≤ d → permD (-2) (-2) c d = true := by decide +kernel
theorem perm_a0b : ∀ c ∈ five, -1 ≤ c → ∀ d ∈ five, c ≤ d → permD (-2) (-1) c d = true := by decide +kernel
theorem perm_a0c : ∀ c ∈ five, 0 ≤ c → ∀ d ∈ five, c ≤ d → permD (-2) 0 c d = true := by decide +kernel
theorem perm_a0d : ∀ c ∈ five, 1 ≤ c → ∀ d ∈ five, c ≤ d → permD (-2) 1 c d = true := by decide +kernel
theorem perm_a0e : ∀ c ∈ five, 2 ≤ c → ∀ d ∈ five, c ≤ d → permD (-2) 2 c d = true := by decide +kernel
theorem perm_a0 : ∀ b ∈ five, ∀ c ∈ five, b ≤ c → ∀ d ∈ five, c ≤ d → permD (-2) b c d = true := by
  intro b hb
  simp only [five, List.mem_cons, List.not_mem_nil, or_false] at hb
  rcases hb with rfl | rfl | rfl | rfl | rfl
  · exact perm_a0a
  · exact perm_a0b
  · exact perm_a0c
  · exact perm_a0d
  · exact perm_a0e
theorem perm_a1 : ∀ b ∈ five, -1 ≤ b → ∀ c ∈ five, b ≤ c → ∀ d ∈ five, c ≤ d → permD (-1) b c d = true := by decide +kernel
theorem perm_a2 : ∀ b ∈ five, 0 ≤ b → ∀ c ∈ five, b ≤ c → ∀ d ∈ five, c ≤ d → permD 0 b c d = true := by decide +kernel
theorem perm_a3 : ∀ b ∈ five, 1 ≤ b → ∀ c ∈ five, b ≤ c → ∀ d ∈ five, c ≤ d → permD 1 b c d = true := by decide +kernel
theorem perm_a4 : permD 2 2 2 2 = true := by decide +kernel
theorem in_five {x : Int} (h : -2 ≤ x ∧ x ≤ 2) : x ∈ five := by
  have : x = -2 ∨ x = -1 ∨ x = 0 ∨ x = 1 ∨ x = 2 := by omega
  rcases this with rfl | rfl | rfl | rfl | rfl <;> decide
def InR (x : Int) : Prop := -2 ≤ x ∧ x ≤ 2
theorem perm_sorted (ha : InR a) (hb : InR b) (hc : InR c) (hd : InR d) (h1 : a ≤ b) (h2 : b ≤ c) (h3 : c ≤ d) : PermP a b c d := by
  refine List.isPerm_iff.mp (show permD a b c d = true from ?_)
  have : a = -2 ∨ a = -1 ∨ a = 0 ∨ a = 1 ∨ a = 2 := by unfold InR at ha; omega
  rcases this with rfl | rfl | rfl | rfl | rfl
  · exact perm_a0 b (in_five hb) c (in_five hc) h2 d (in_five hd) h3
  · exact perm_a1 b (in_five hb) h1 c (in_five hc) h2 d (in_five hd) h3
  · exact perm_a2 b (in_five hb) h1 c (in_five hc) h2 d (in_five hd) h3
  · exact perm_a3 b (in_five hb) h1 c (in_five hc) h2 d (in_five hd) h3
  · obtain rfl : b = 2 := by unfold InR at hb; omega
    obtain rfl : c = 2 := by unfold InR at hc; omega
    obtain rfl : d = 2 := by unfold InR at hd; omega
    exact perm_a4
theorem perm_3 (ha : InR a) (hb : InR b) (hc : InR c) (hd : InR d) (h1 : a ≤ b) (h2 : b ≤ c) : PermP a b c d := by
  by_cases h3 : c ≤ d
  · exact perm_sorted ha hb hc hd h1 h2 h3
  by_cases h4 : b ≤ d
  · exact sC (perm_sorted ha hb hd hc h1 h4 (by omega))
  by_cases h5 : a ≤ d
  · exact sC (sB (perm_sorted ha hd hb hc h5 (by omega) h2))
  · exact sC (sB (sA (perm_sorted hd ha hb hc (by omega) h1 h2)))
theorem perm_2 (ha : InR a) (hb : InR b) (hc : InR c) (hd : InR d) (h1 : a ≤ b) : PermP a b c d := by
  by_cases h2 : b ≤ c
  · exact perm_3 ha hb hc hd h1 h2
  by_cases h3 : a ≤ c
  · exact sB (perm_3 ha hc hb hd h3 (by omega))
  · exact sB (sA (perm_3 hc ha hb hd (by omega) h1))
theorem perm_all (ha : -2 ≤ a ∧ a ≤ 2) (hb : -2 ≤ b ∧ b ≤ 2) (hc : -2 ≤ c ∧ c ≤ 2) (hd : -2 ≤ d ∧ d ≤ 2) : PermP a b c d := by
  by_cases h1 : a ≤ b
  · exact perm_2 ha hb hc hd h1
  · exact sA (perm_2 hb ha hc hd (by omega))
end Mine
end

section
open PySem PySem.W PySem.W.X PyProof.Rows
set_option Elab.async false
set_option maxRecDepth 100000
set_option linter.unusedSimpArgs false
namespace Mine
theorem fr_shape {l : List Int} (hl : l ∈ ordA 4) : ∃ f1 f2 f3 f4 : Nat, frs l = [(f1 : Int), f2, f3, f4] ∧ pcN f1 = 1 ∧ pcN f2 = 2 ∧ pcN f3 = 3 ∧ pcN f4 = 4 ∧ (1 ≤ f1 ∧ f1 ≤ 15) ∧ (1 ≤ f2 ∧ f2 ≤ 15) ∧ (1 ≤ f3 ∧ f3 ≤ 15) ∧ (1 ≤ f4 ∧ f4 ≤ 15) := by
  obtain ⟨h1, h2⟩ := ord_fr l hl
  obtain ⟨_, _, _, h4⟩ := ord_ok l hl
  match e : frs l, h4 with
  | [g1, g2, g3, g4], _ =>
    rw [e] at h1 h2
    simp only [List.map_cons, List.map_nil, List.cons.injEq, and_true] at h1
    have a1 := h2 g1 (by simp)
    have a2 := h2 g2 (by simp)
    have a3 := h2 g3 (by simp)
    have a4 := h2 g4 (by simp)
    refine ⟨g1.toNat, g2.toNat, g3.toNat, g4.toNat, ?_, h1.1, h1.2.1, h1.2.2.1, h1.2.2.2, by omega, by omega, by omega, by omega⟩
    rw [show ((g1.toNat : Nat) : Int) = g1 by omega, show ((g2.toNat : Nat) : Int) = g2 by omega, show ((g3.toNat : Nat) : Int) = g3 by omega, show ((g4.toNat : Nat) : Int) = g4 by omega]
theorem pc15 : ∀ k, k ≤ 15 → pcN k = 4 → k = 15 := by decide
theorem cnt_eq {a b c d : Int} {bs : Nat → Bool} (hb : ∀ k, 1 ≤ k → k ≤ 15 → bs k = decide ((partL [a, b, c, d] k 1 4).sum < 0)) {l : List Int} (hl : l ∈ ordA 4) : cntF bs l = cntD a b c d (((frs l).getD 0 0).toNat, ((frs l).getD 1 0).toNat, ((frs l).getD 2 0).toNat) := by
  obtain ⟨f1, f2, f3, f4, e, p1, p2, p3, p4, r1, r2, r3, r4⟩ := fr_shape hl
  obtain rfl := pc15 f4 r4.2 p4
  have hk : ∀ k : Nat, 1 ≤ k ∧ k ≤ 15 → bs k = decide (S4 a b c d k < 0) := fun k h => by rw [hb k h.1 h.2, S4_eq a b c d (by omega)]
  have one : ∀ (k : Nat) (r : List Int), 1 ≤ k ∧ k ≤ 15 → ((((k : Int) :: r).filter fun c => bs c.toNat).length : Int) = (if S4 a b c d k < 0 then 1 else 0) + ((r.filter fun c => bs c.toNat).length : Int) := by
    intro k r h
    rw [List.filter_cons, Int.toNat_natCast, hk k h]
    by_cases hs : S4 a b c d k < 0
    · rw [if_pos (by simpa using hs), if_pos hs, List.length_cons]; push_cast; omega
    · rw [if_neg (by simpa using hs), if_neg hs]; omega
  unfold cntF cntD
  rw [e, one f1 _ r1, one f2 _ r2, one f3 _ r3, one 15 _ r4]
  simp only [List.getD_cons_zero, List.getD_cons_succ, Int.toNat_natCast, List.filter_nil, List.length_nil]
  push_cast
  omega
theorem fnd_eq {a b c d : Int} {l : List Int} (hl : l ∈ ordA 4) : fndF (fun k => rulesF [a, b, c, d] k) l = fndD a b c d (((frs l).getD 0 0).toNat, ((frs l).getD 1 0).toNat, ((frs l).getD 2 0).toNat) := by
  obtain ⟨f1, f2, f3, f4, e, p1, p2, p3, p4, r1, r2, r3, r4⟩ := fr_shape hl
  obtain rfl := pc15 f4 r4.2 p4
  unfold fndF rot fndD
  rw [e]
  have q4 : rulesF [a, b, c, d] ((15 : Nat) : Int) = [(0 - S4 a b c d 15, Str.ofString "")] := by rw [rules_pc p4, S4_eq a b c d (by omega)]; rfl
  have q1 : rulesF [a, b, c, d] (f1 : Int) = [(0 - S4 a b c d f1, Str.ofString ""), (0 - S4 a b c d f1, Str.ofString "1")] := by rw [rules_pc p1, S4_eq a b c d (by omega)]; rfl
  have q2 : rulesF [a, b, c, d] (f2 : Int) = [(0 - S4 a b c d f2, Str.ofString ""), (0 - S4 a b c d f2, Str.ofString "2")] := by rw [rules_pc p2, S4_eq a b c d (by omega)]; rfl
  have q3 : rulesF [a, b, c, d] (f3 : Int) = [(0 - S4 a b c d f3, Str.ofString ""), (0 - S4 a b c d f3, Str.ofString "3")] := by rw [rules_pc p3, S4_eq a b c d (by omega)]; rfl
  have e2 : (([(f1 : Int), f2, f3, ((15 : Nat) : Int)].drop 3 ++ [(f1 : Int), f2, f3, ((15 : Nat) : Int)].take 3).flatMap fun x => rulesF [a, b, c, d] (x.toNat : Nat)) = rulesF [a, b, c, d] ((15 : Nat) : Int) ++ (rulesF [a, b, c, d] (f1 : Int) ++ (rulesF [a, b, c, d] (f2 : Int) ++ rulesF [a, b, c, d] (f3 : Int))) := by
    simp [List.flatMap_cons]
    rfl
  rw [e2, q4, q1, q2, q3]
  exact lowF_eq _ _ _ _
theorem plain_law (ns : List Int) (y : Str) (hz : ns.length = 4) (hb : ∀ x ∈ ns, -2 ≤ x ∧ x ≤ 2) (hy : y ∈ dressL) : belowF (textsF ns y) 0 = false ∧ belowF (textsF ns y) 16 = true ∧ belowF (textsF ns y) 17 = true ∧ ((ordA 4).map (cntF (belowF (textsF ns y)))).Perm ((ordA 4).map (fndF fun k => rulesF ns k)) := by
  refine ⟨b0 hz hy, b16 hz hy, b17 hz hy, ?_⟩
  match ns, hz, hb with
  | [a, b, c, d], hz, hb =>
    have hp := perm_all (hb a (by simp)) (hb b (by simp)) (hb c (by simp)) (hb d (by simp))
    unfold PermP at hp
    rw [← fr3_eq] at hp
    unfold fr3 at hp
    rw [List.map_map, List.map_map] at hp
    have e1 : (ordA 4).map (cntF (belowF (textsF [a, b, c, d] y))) = (ordA 4).map (cntD a b c d ∘ fun l => (((frs l).getD 0 0).toNat, ((frs l).getD 1 0).toNat, ((frs l).getD 2 0).toNat)) :=
      List.map_congr_left fun l hl => cnt_eq (fun k h1 h2 => below_text hz hy h1 h2) hl
    have e2 : (ordA 4).map (fndF fun k => rulesF [a, b, c, d] k) = (ordA 4).map (fndD a b c d ∘ fun l => (((frs l).getD 0 0).toNat, ((frs l).getD 1 0).toNat, ((frs l).getD 2 0).toNat)) :=
      List.map_congr_left fun l hl => fnd_eq hl
    rw [e1, e2]
    exact hp
end Mine
end

section
open PySem PySem.W PySem.W.X PyProof.Rows
set_option Elab.async false
namespace Mine
set_option maxRecDepth 100000 in
set_option maxHeartbeats 8000000 in
open_top hd for PySem.Challenge.rw_rs0063_01
end Mine
end

section
open PySem PySem.W PySem.W.X PyProof.Rows
set_option Elab.async false
set_option maxRecDepth 100000
set_option linter.unusedSimpArgs false
namespace Mine
noncomputable abbrev KK (P : Params) : Frag := hd.heap_39 P
theorem k110 (P : Params) : (KK P).lookup 110 = none := by kernel_rfl
theorem kIn {P : Params} {h : Heap} (X : (KK P).In h) : (KK P).In (hideAll h [110]) := by
  intro a o e
  refine hideAll_get _ (X a o e) fun hm => ?_
  rw [List.mem_singleton] at hm
  subst hm
  rw [k110] at e
  cases e
theorem cls_of {P : Params} {g : Heap} (X : (KK P).In g) (G : Glb g (Str.ofString "Entry") (.ref 52)) : Cls g (KK P) 52 28 49 where
  In := X
  made := by kernel_rfl
  init := by kernel_rfl
  initT := by kernel_rfl
  setA := by kernel_rfl
  over := by kernel_rfl
  hasD := by kernel_rfl
  getA := by kernel_rfl
  noGA := by kernel_rfl
  tak := by
    intro x hx
    simp only [List.mem_cons, List.not_mem_nil, or_false] at hx
    rcases hx with rfl | rfl | rfl | rfl | rfl | rfl <;> exact ⟨by kernel_rfl, by kernel_rfl⟩
  allow := by kernel_rfl
  allowT := by kernel_rfl
  appl := ⟨42, by kernel_rfl, by kernel_rfl⟩
  glb := G
theorem keep52 (P : Params) : keepIn (KK P) (.ref 52) = true := by kernel_rfl
theorem fn_of {P : Params} {g : Heap} (X : (KK P).In g) {k f : Nat} {o : Obj} {pm doc : Value} {cd : Addr} (h1 : (KK P).lookup f = some o) (h2 : o.data = .func (Calls.docDef (fname k) (fargs k) (fbody k) (fscope k) pm (.ref cd) doc)) (h3 : codeIn (KK P) (.ref cd) (fname k) = true) : IsFn g k f :=
  ⟨o, pm, .ref cd, doc, X _ _ h1, h2, codeRec_of X h3⟩
theorem mth_of {P : Params} {g : Heap} (X : (KK P).In g) {k f : Nat} {o : Obj} {pm doc : Value} {cd : Addr} (h1 : (KK P).lookup f = some o) (h2 : o.data = .func (mfun k pm (.ref cd) doc)) (h3 : codeIn (KK P) (.ref cd) (Str.ofString "Entry." ++ mname k) = true) : IsMth g k f :=
  ⟨o, pm, .ref cd, doc, X _ _ h1, h2, codeRec_of X h3⟩
theorem m0 {P : Params} {g : Heap} (X : (KK P).In g) : IsMth g 0 28 := mth_of X (by rfl) (by rfl) (by kernel_rfl)
theorem m3 {P : Params} {g : Heap} (X : (KK P).In g) : IsMth g 3 49 := mth_of X (by rfl) (by rfl) (by kernel_rfl)
theorem f3 {P : Params} {g : Heap} (X : (KK P).In g) : IsFn g 3 63 := fn_of X (by rfl) (by rfl) (by kernel_rfl)
theorem f4 {P : Params} {g : Heap} (X : (KK P).In g) : IsFn g 4 70 := fn_of X (by rfl) (by rfl) (by kernel_rfl)
theorem f5 {P : Params} {g : Heap} (X : (KK P).In g) : IsFn g 5 77 := fn_of X (by rfl) (by rfl) (by kernel_rfl)
theorem f6 {P : Params} {g : Heap} (X : (KK P).In g) : IsFn g 6 84 := fn_of X (by rfl) (by rfl) (by kernel_rfl)
theorem f8 {P : Params} {g : Heap} (X : (KK P).In g) : IsFn g 8 91 := fn_of X (by rfl) (by rfl) (by kernel_rfl)
theorem f9 {P : Params} {g : Heap} (X : (KK P).In g) : IsFn g 9 96 := fn_of X (by rfl) (by rfl) (by kernel_rfl)
theorem f10 {P : Params} {g : Heap} (X : (KK P).In g) : IsFn g 10 101 := fn_of X (by rfl) (by rfl) (by kernel_rfl)
theorem f11 {P : Params} {g : Heap} (X : (KK P).In g) : IsFn g 11 108 := fn_of X (by rfl) (by rfl) (by kernel_rfl)
theorem f12 {P : Params} {g : Heap} (X : (KK P).In g) : IsFn g 12 115 := fn_of X (by rfl) (by rfl) (by kernel_rfl)
theorem f13 {P : Params} {g : Heap} (X : (KK P).In g) : IsFn g 13 120 := fn_of X (by rfl) (by rfl) (by kernel_rfl)
theorem f14 {P : Params} {g : Heap} (X : (KK P).In g) : IsFn g 14 125 := fn_of X (by rfl) (by rfl) (by kernel_rfl)
end Mine
end

section
open PySem PySem.W PySem.W.X PyProof.Rows
set_option Elab.async false
set_option maxRecDepth 100000
set_option linter.unusedSimpArgs false
namespace Mine
theorem glb_of {P : Params} {g : Heap} {mg : Str → Option Value} {n : Str} {v : Value} (X : (KK P).In g) (G : g.Ns mainGlobals mg) (e : nsIn (KK P) mainGlobals n = some (some v)) : Glb g n v := ⟨mg, G, .inl (mg_of X G e)⟩
theorem base_of {P : Params} {g : Heap} {mg mb : Str → Option Value} (X : (KK P).In g) (lim : g.NoLimit) (G : g.Ns mainGlobals mg) (Gb : g.Ns builtinsNs mb) (hb : ∀ x : Str, x ≠ "__name__" → mb x = bootBuiltins x) : Base g where
  lim := lim
  fn := by
    intro k hk
    simp only [List.mem_cons, List.not_mem_nil, or_false] at hk
    rcases hk with rfl | rfl | rfl | rfl | rfl | rfl | rfl | rfl | rfl | rfl
    · exact ⟨63, glb_of X G (by kernel_rfl), f3 X⟩
    · exact ⟨70, glb_of X G (by kernel_rfl), f4 X⟩
    · exact ⟨77, glb_of X G (by kernel_rfl), f5 X⟩
    · exact ⟨84, glb_of X G (by kernel_rfl), f6 X⟩
    · exact ⟨91, glb_of X G (by kernel_rfl), f8 X⟩
    · exact ⟨96, glb_of X G (by kernel_rfl), f9 X⟩
    · exact ⟨101, glb_of X G (by kernel_rfl), f10 X⟩
    · exact ⟨108, glb_of X G (by kernel_rfl), f11 X⟩
    · exact ⟨115, glb_of X G (by kernel_rfl), f12 X⟩
    · exact ⟨120, glb_of X G (by kernel_rfl), f13 X⟩
  blt := by
    intro p hp
    simp only [bltins, List.mem_cons, List.not_mem_nil, or_false] at hp
    rcases hp with rfl | rfl | rfl | rfl | rfl | rfl | rfl | rfl <;> exact ⟨mg, G, .inr ⟨mg_none_of X G (by kernel_rfl), mb, Gb, (hb _ (by decide)).trans (by kernel_rfl)⟩⟩
theorem lam_of {P : Params} {g : Heap} {mg : Str → Option Value} (X : (KK P).In g) (G : g.Ns mainGlobals mg) (hbm : ∃ bm ob, mg "__builtins__" = some (.ref bm) ∧ bm ≠ builtinsNs ∧ g.get? bm = some ob ∧ ob.cls = .type "module" ∧ ob.dict = some builtinsNs ∧ ob.data = .plain) (h110 : g.get? 110 = none) : Lam0 g 115 114 110 where
  ob := ⟨_, _, _, X 115 _ (by rfl), by rfl⟩
  hd := codeHd_of_K X (by kernel_rfl)
  bm := by
    obtain ⟨bm, ob, a1, a2, a3, a4, a5, a6⟩ := hbm
    refine ⟨mg, G, bm, ob, a1, a2, ?_, ?_, a3, a4, a5, a6⟩
    · rintro rfl
      obtain ⟨o, es, ep, e1, e2, _⟩ := G
      rw [a3] at e1; cases e1
      rw [a6] at e2; cases e2
    · rintro rfl
      rw [h110] at a3; cases a3
  ne := by decide
theorem fineC : Fine callerA 20 := ⟨rfl, by decide, by decide⟩
end Mine
end

section
open PySem PySem.W PySem.W.X PyProof.Rows
set_option Elab.async false
set_option maxRecDepth 100000
set_option linter.unusedSimpArgs false
namespace Mine
theorem reads_ints {R : WRecords} {cl : Str → Option Addr} {h : Heap} : ∀ {vs : List Value} {ns : List Int} {as : List Addr}, ReadsAllW R cl h vs (ns.map .int) as → IntsAre vs ns
  | _, [], _, .nil => .nil
  | _, n :: ns, _, .cons r1 r2 => by
    cases r1
    exact .cons _ _ (reads_ints r2)
theorem post_true (args : List WData) : PySem.Challenge.rw_rs0063_01.row.toRowW.claim.post args (.bool true) args = true := by
  show (WShape.has [] (.bool true) .bool && (WTm.eq .res (.lit (.bool true))).holds [] { args := args, res := some (.bool true), after := args }) = true
  first
    | rfl
    | decide
    | simp [WShape.has, WShape.arms, WTm.holds, WTm.value, same, W.same]
theorem walk : PySem.Challenge.rw_rs0063_01.Holds := by
  refine hd ?_
  intro w s₀ s₁ mg mb G Y a o pm cd doc dV kV ha hda hrec hD hmg hgens args vals as hpre hlay hrd hwell hsm
  have X : (KK w.params).In s₁.heap := km_in_of Y
  have hT : TabsAt [(114, 110)] s₁.heap := by
    intro q hq
    rw [List.mem_singleton] at hq; subst hq
    exact ⟨codeHd_of_K X (by kernel_rfl), km_tabs_of Y 110 (by simp)⟩
  have X' : (KK w.params).In (hideAll s₁.heap [110]) := kIn X
  have GT := ghost_top hT G.T
  have h110 : (hideAll s₁.heap [110]).get? 110 = none := hideAll_none _ (by simp)
  have B : Base (hideAll s₁.heap [110]) := base_of X' GT.nolimit GT.g GT.b GT.builtins
  have H := cls_of X' (glb_of X' GT.g (by kernel_rfl))
  have Y0 : Lam0 (hideAll s₁.heap [110]) 115 114 110 := lam_of X' GT.g GT.bmain h110
  have ea : mg (Str.ofString "law") = some (.ref 125) := mg_of X G.T.g (by kernel_rfl)
  obtain rfl : a = 125 := by
    have := hmg.symm.trans ea
    simpa using this
  obtain ⟨hsh, hpr⟩ := pre_splitW hpre
  obtain ⟨dd, rr, rfl, hs1, hs2⟩ := hasAllW_cons hsh
  obtain rfl := hasAllW_nil hs2
  obtain ⟨ns, rfl⟩ : ∃ ns : List Int, dd = .list (ns.map .int) := by
    cases dd with
    | list xs =>
      obtain ⟨ns, rfl⟩ := items_int (R := PySem.Challenge.rw_rs0063_01.row.records) (xs := xs) (by simpa [WShape.has, WShape.arms] using hs1)
      exact ⟨ns, rfl⟩
    | _ => simp [WShape.has, WShape.arms] at hs1
  have hlen : ns.length ≤ 63 := by
    have e : (WTm.and (.not (.lt (.lit (.int 63)) (.len (.arg 0)))) (.lit (.bool true))).holds [] { args := [WData.list (ns.map .int)] } = true := hpr
    simp [WTm.holds, WTm.value, less?, Num.less?] at e
    by_cases h : (63 : Int) < ns.length
    · simp [h] at e
    · omega
  cases hrd with
  | cons r1 r2 =>
    cases r2
    cases r1 with
    | list h1 h2 h3 h4 =>
      rename_i Sc o' vs n' as'
      obtain ⟨hp, gn, dr, tk, os⟩ := s₁
      cases hgens
      have hvi : IntsAre vs.toList ns := reads_ints h4
      have hvl := ints_len hvi
      have hSc : hp.IsList Sc vs.toList.toArray := ⟨o', h1, h2, n', by simpa using h3⟩
      have hSg : (hideAll hp [110]).IsList Sc vs.toList.toArray := ghost_list hT hSc
      have h110' : hp.get? 110 = some (tabObj #[]) := (hT (114, 110) (by simp)).2
      have S : St (hideAll hp [110]) [(110, isTab (hideAll hp [110]))] hp :=
        ⟨fun b o e => of_hideAll _ e, fun e he => by
            rw [List.mem_singleton] at he; subst he
            exact ⟨_, h110', #[], rfl, trivial, .inl rfl⟩, by simp, fun e he => by
            rw [List.mem_singleton] at he; subst he
            exact h110⟩
      refine ok_of (law_fn (n := 5) (K := KK w.params) (Q := fun v s' => GoodWG PySem.Challenge.rw_rs0063_01.row.toRowW.claim (classAt s₀.heap) (ExcName.means s₀.heap) [WData.list (ns.map .int)] ⟨hp, #[], dr, tk, os⟩ (.ok (.ret v)) s') (fineC.less (by omega)) B (f14 X') H (keep52 _) (m0 X') (m3 X') (glb_of X' GT.g (by kernel_rfl)) (f12 X') Y0 hSg hvi (by omega) .empty plain_law S fun h' gn' t' hb' S' => ?_)
      obtain ⟨_, e110, ps, rfl⟩ := S'.at 0 rfl
      refine ⟨.inl ⟨.bool true, .bool true, [], rfl, fun _ => rfl, .bool true, post_true _, fun _ => ⟨List.nodup_nil, by simp⟩⟩, ⟨fun b o e => ?_, fun b o e => ?_⟩, rfl, hb'⟩
      · by_cases hb : b = 110
        · subst hb
          have e' : hp.get? 110 = some o := e
          rw [h110'] at e'
          cases e'
          exact .inr (.inl ⟨(((hT (114, 110) (by simp)).1).tab h110').isCodeTable, rfl, #[], ps, rfl, by rw [Array.empty_append]; exact e110⟩)
        · exact .inl (S'.ext b o (hideAll_get _ e (by simp [hb])))
      · by_cases hb : b = 110
        · subst hb; exact ⟨_, e110⟩
        · exact ⟨o, S'.ext b o (hideAll_get _ e (by simp [hb]))⟩
end Mine
end

set_option maxRecDepth 100000 in
theorem PySem.Challenge.cw_rs0063_01_holds : PySem.Challenge.rw_rs0063_01.Holds := by
  exact Mine.walk
