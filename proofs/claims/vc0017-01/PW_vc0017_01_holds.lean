import PyProof.Rows.All
import Wide.All
import OpenK.AllK
import Wide.FinOn
import PySem.Challenge.RW_vc0017_01
open PySem PySem.W PyProof.Rows
set_option Elab.async false
set_option maxRecDepth 100000
set_option maxHeartbeats 0
set_option linter.all false
namespace Mine
open_top hd for PySem.Challenge.rw_vc0017_01
open PySem.Calls PySem.Spec
abbrev OP := Obj → Prop
inductive At (h : Heap) (a : Addr) (φ : OP) : Prop
  | mk (o : Obj) (e : h.get? a = some o) (p : φ o) : At h a φ
theorem At.keeps {h h' : Heap} {a : Addr} {φ : OP} (x : At h a φ) (k : h.StaysIn h') : At h' a φ := let ⟨o, e, p⟩ := x; ⟨o, k a o e, p⟩
theorem At.via {h h' : Heap} {a : Addr} {φ : OP} (k : h.StaysIn h') (x : At h a φ) : At h' a φ := x.keeps k
theorem At.same {h h' : Heap} {a b : Addr} {φ : OP} (x : At h a φ) (k : Heap.SameBut b h h') (n : a ≠ b) : At h' a φ := let ⟨o, e, p⟩ := x; ⟨o, (k.2 a n).trans e, p⟩
theorem At.push {h : Heap} {a : Addr} {φ : OP} (x : At h a φ) (o : Obj) : At (h.push o) a φ := let ⟨o', e, p⟩ := x; ⟨o', Heap.get?_push_of_some o e, p⟩
theorem At.lt {h : Heap} {a : Addr} {φ : OP} (x : At h a φ) : a < h.objs.size := let ⟨_, e, _⟩ := x; Heap.lt_size e
theorem stays_refl (h : Heap) : h.StaysIn h := fun _ _ e => e
theorem stays_trans {a b c : Heap} (x : a.StaysIn b) (y : b.StaysIn c) : a.StaysIn c := fun p o e => y p o (x p o e)
theorem stays_push (h : Heap) (o : Obj) : h.StaysIn (h.push o) := fun _ _ e => Heap.get?_push_of_some o e
def isNs (m : Str → Option Value) : OP := fun o => ∃ es ep, o.data = .dict es ep ∧ StrKeys es ∧ ∀ name, nsFind es name = m name
theorem ns_at {h : Heap} {a : Addr} {m : Str → Option Value} : h.Ns a m ↔ At h a (isNs m) :=
  ⟨fun ⟨o, es, ep, e, d, r⟩ => ⟨o, e, es, ep, d, r⟩, fun ⟨o, e, es, ep, d, r⟩ => ⟨o, es, ep, e, d, r⟩⟩
def isLw (xs : List Value) : OP := fun o => o.cls = .type "list" ∧ ∃ n, o.data = .seq xs.toArray n
def isL (xs : List Value) : OP := fun o => ∃ n, o = { cls := .type "list", dict := none, data := .seq xs.toArray n, slots := #[] }
theorem list_at {h : Heap} {a : Addr} {xs : List Value} : h.IsList a xs.toArray ↔ At h a (isLw xs) :=
  ⟨fun ⟨o, e, c, d⟩ => ⟨o, e, c, d⟩, fun ⟨o, e, c, d⟩ => ⟨o, e, c, d⟩⟩
theorem At.weak {h : Heap} {a : Addr} {xs : List Value} (x : At h a (isL xs)) : At h a (isLw xs) := by
  obtain ⟨o, e, n, rfl⟩ := x
  exact ⟨_, e, rfl, n, rfl⟩
def isT (xs : List Value) : OP := fun o => o.cls = .type "tuple" ∧ ∃ n, o.data = .seq xs.toArray n
theorem tup_at {h : Heap} {a : Addr} {xs : List Value} : h.IsTuple a xs.toArray ↔ At h a (isT xs) :=
  ⟨fun ⟨o, e, c, d⟩ => ⟨o, e, c, d⟩, fun ⟨o, e, c, d⟩ => ⟨o, e, c, d⟩⟩
noncomputable def only (h : Heap) (p : Addr → Prop) : Heap := open Classical in
  ⟨h.objs.mapIdx fun i o => if p i then o else ⟨.none, none, .freed, #[]⟩, h.life⟩
theorem only_get (h : Heap) (p : Addr → Prop) (b : Addr) : (only h p).get? b = if (open Classical in decide (p b)) then h.get? b else none := by
  classical
  unfold only Heap.get?
  simp only [Array.getElem?_mapIdx]
  cases hb : h.objs[b]? with
  | none => simp
  | some o =>
    by_cases q : p b
    · simp [q]
    · simp [q]
theorem only_some {h : Heap} {p : Addr → Prop} {b : Addr} {o : Obj} : (only h p).get? b = some o ↔ p b ∧ h.get? b = some o := by
  rw [only_get]
  by_cases q : p b <;> simp [q]
theorem only_none {h : Heap} {p : Addr → Prop} {b : Addr} (q : ¬ p b) : (only h p).get? b = none := by
  rw [only_get]; simp [q]
structure St (h₀ W V : Heap) (own : List (Addr × OP)) (h : Heap) : Prop where
  ext : h₀.StaysIn h
  sub : W.StaysIn V
  old : ∀ b o, V.get? b = some o → W.get? b = some o ∨ h₀.get? b = none
  le : V.StaysIn h
  has : ∀ p ∈ own, At h p.1 p.2 ∧ V.get? p.1 = none ∧ h₀.get? p.1 = none
  nd : (own.map (·.1)).Nodup
inductive Upd1 (a : Addr) (φ ψ : OP) : List (Addr × OP) → List (Addr × OP) → Prop
  | head {r} : Upd1 a φ ψ ((a, φ) :: r) ((a, ψ) :: r)
  | tail {p r r'} : Upd1 a φ ψ r r' → Upd1 a φ ψ (p :: r) (p :: r')
theorem Upd1.mem {a : Addr} {φ ψ : OP} {l l' : List (Addr × OP)} (u : Upd1 a φ ψ l l') : (a, φ) ∈ l := by
  induction u with
  | head => exact .head _
  | tail _ ih => exact .tail _ ih
theorem Upd1.keys {a : Addr} {φ ψ : OP} {l l' : List (Addr × OP)} (u : Upd1 a φ ψ l l') : l'.map (·.1) = l.map (·.1) := by
  induction u with
  | head => rfl
  | tail _ ih => simp [ih]
theorem Upd1.mem' {a : Addr} {φ ψ : OP} {l l' : List (Addr × OP)} (u : Upd1 a φ ψ l l') (nd : (l.map (·.1)).Nodup) : ∀ p ∈ l', p = (a, ψ) ∨ (p ∈ l ∧ p.1 ≠ a) := by
  induction u with
  | head =>
    intro p hp
    rcases List.mem_cons.mp hp with rfl | hp
    · exact .inl rfl
    · refine .inr ⟨.tail _ hp, fun e => ?_⟩
      simp only [List.map_cons, List.nodup_cons] at nd
      exact nd.1 (e ▸ List.mem_map_of_mem hp)
  | @tail q r r' u' ih =>
    intro p hp
    simp only [List.map_cons, List.nodup_cons] at nd
    rcases List.mem_cons.mp hp with rfl | hp
    · refine .inr ⟨.head _, fun e => ?_⟩
      exact nd.1 (e ▸ List.mem_map_of_mem (f := (·.1)) u'.mem)
    · rcases ih nd.2 p hp with e | ⟨e1, e2⟩
      · exact .inl e
      · exact .inr ⟨.tail _ e1, e2⟩
section
variable {h₀ W V h h' : Heap} {own own' : List (Addr × OP)} {a : Addr} {φ ψ : OP}
theorem St.get (S : St h₀ W V own h) (m : (a, φ) ∈ own) : At h a φ := (S.has _ m).1
theorem St.view (S : St h₀ W V own h) (x : At V a φ) : At h a φ := x.keeps S.le
theorem St.upd (S : St h₀ W V own h) (u : Upd1 a φ ψ own own') (k : Heap.SameBut a h h') (x : At h' a ψ) : St h₀ W V own' h' := by
  have ha := S.has _ u.mem
  refine ⟨fun b o e => ?_, S.sub, S.old, fun b o e => ?_, fun p hp => ?_, by rw [u.keys]; exact S.nd⟩
  · exact (k.2 b (by rintro rfl; rw [ha.2.2] at e; cases e)).trans (S.ext b o e)
  · exact (k.2 b (by rintro rfl; rw [ha.2.1] at e; cases e)).trans (S.le b o e)
  · rcases u.mem' S.nd p hp with rfl | ⟨hp, hn⟩
    · exact ⟨x, ha.2⟩
    · have := S.has p hp
      exact ⟨this.1.same k hn, this.2⟩
theorem St.push (S : St h₀ W V own h) (o : Obj) (hf : o.isFreed = false) (x : φ o) : St h₀ W V ((h.objs.size, φ) :: own) (h.push o) := by
  refine ⟨stays_trans S.ext (stays_push h o), S.sub, S.old, stays_trans S.le (stays_push h o), fun p hp => ?_, ?_⟩
  · rcases List.mem_cons.mp hp with rfl | hp
    · refine ⟨⟨o, Heap.get?_push_size _ hf, x⟩, ?_, ?_⟩
      · cases e : V.get? h.objs.size with
        | none => rfl
        | some o' => exact absurd (Heap.lt_size (S.le _ _ e)) (Nat.lt_irrefl _)
      · cases e : h₀.get? h.objs.size with
        | none => rfl
        | some o' => exact absurd (Heap.lt_size (S.ext _ _ e)) (Nat.lt_irrefl _)
    · have := S.has p hp
      exact ⟨this.1.push o, this.2⟩
  · simp only [List.map_cons, List.nodup_cons]
    refine ⟨fun hm => ?_, S.nd⟩
    obtain ⟨p, hp, e⟩ := List.mem_map.mp hm
    have := (S.has p hp).1.lt
    rw [e] at this
    exact Nat.lt_irrefl _ this
theorem St.push2 {f : Addr × OP} (S : St h₀ W V (f :: own) h) (o : Obj) (hf : o.isFreed = false) (x : φ o) : St h₀ W V (f :: (h.objs.size, φ) :: own) (h.push o) := by
  have T := S.push o hf x
  refine ⟨T.ext, T.sub, T.old, T.le, fun p hp => T.has p ?_, ?_⟩
  · simp only [List.mem_cons] at hp ⊢
    rcases hp with rfl | rfl | hp <;> simp_all
  · have := T.nd
    simp only [List.map_cons, List.nodup_cons, List.mem_cons, not_or] at this ⊢
    exact ⟨⟨fun e => this.1.1 e.symm, this.2.1⟩, this.1.2, this.2.2⟩
theorem St.drop {l : List (Addr × OP)} (S : St h₀ W V own h) (hs : ∀ p ∈ l, p ∈ own) (nd : (l.map (·.1)).Nodup) : St h₀ W V l h :=
  ⟨S.ext, S.sub, S.old, S.le, fun p hp => S.has p (hs p hp), nd⟩
theorem St.drop2 {f p : Addr × OP} (S : St h₀ W V (f :: p :: own) h) : St h₀ W V (f :: own) h :=
  S.drop (fun q hq => by rcases List.mem_cons.mp hq with rfl | hq; exact .head _; exact .tail _ (.tail _ hq)) (by
    have := S.nd; simp only [List.map_cons, List.nodup_cons, List.mem_cons, not_or] at this ⊢; exact ⟨this.1.2, this.2.2⟩)
theorem St.seal2 {f : Addr × OP} (S : St h₀ W V (f :: (a, φ) :: own) h) : ∃ V', St h₀ W V' (f :: own) h ∧ V.StaysIn V' ∧ At V' a φ := by
  have ha := S.has (a, φ) (.tail _ (.head _))
  obtain ⟨o, ho, hφ⟩ := ha.1
  have nd := S.nd
  simp only [List.map_cons, List.nodup_cons, List.mem_cons, not_or] at nd
  refine ⟨only h fun b => b = a ∨ (V.get? b).isSome, ⟨S.ext, ?_, ?_, ?_, ?_, ?_⟩, ?_, ⟨o, only_some.mpr ⟨.inl rfl, ho⟩, hφ⟩⟩
  · exact fun b o e => only_some.mpr ⟨.inr (by rw [S.sub b o e]; rfl), S.le b o (S.sub b o e)⟩
  · intro b ob e
    obtain ⟨e1, e2⟩ := only_some.mp e
    rcases e1 with rfl | e1
    · exact .inr ha.2.2
    · obtain ⟨o', ho'⟩ := Option.isSome_iff_exists.mp e1
      have := S.le _ _ ho'
      rw [e2] at this
      cases this
      exact S.old b ob ho'
  · exact fun b o e => (only_some.mp e).2
  · intro p hp
    have hp' : p ∈ f :: (a, φ) :: own := by
      rcases List.mem_cons.mp hp with rfl | hp
      · exact .head _
      · exact .tail _ (.tail _ hp)
    have z := S.has p hp'
    refine ⟨z.1, only_none ?_, z.2.2⟩
    rintro (e | e)
    · rcases List.mem_cons.mp hp with rfl | hp
      · exact nd.1.1 e
      · exact nd.2.1 (e ▸ List.mem_map_of_mem (f := (·.1)) hp)
    · rw [z.2.1] at e; cases e
  · simp only [List.map_cons, List.nodup_cons]; exact ⟨nd.1.2, nd.2.2⟩
  · exact fun b o e => only_some.mpr ⟨.inr (by rw [e]; rfl), S.le b o e⟩
theorem St.new {f : Addr × OP} (S : St h₀ W V (f :: own) h) (o : Obj) (hf : o.isFreed = false) (x : φ o) : ∃ V', St h₀ W V' (f :: own) (h.push o) ∧ V.StaysIn V' ∧ At V' h.objs.size φ := (S.push2 o hf x).seal2
structure Ret (V₀ h V' h' : Heap) : Prop where
  ext : h.StaysIn h'
  sub : V₀.StaysIn V'
  le : V'.StaysIn h'
  old : ∀ b o, V'.get? b = some o → V₀.get? b = some o ∨ h.get? b = none
theorem St.ret {l : List (Addr × OP)} (S : St h₀ W V l h) : Ret W h₀ V h := ⟨S.ext, S.sub, S.le, S.old⟩
theorem St.call {V' : Heap} (S : St h₀ W V own h) (R : Ret V h V' h') : St h₀ W V' own h' := by
  refine ⟨stays_trans S.ext R.ext, stays_trans S.sub R.sub, fun b o e => ?_, R.le, fun p hp => ?_, S.nd⟩
  · rcases R.old b o e with e | e
    · exact S.old b o e
    · refine .inr ?_
      cases q : h₀.get? b with
      | none => rfl
      | some o' => rw [S.ext b o' q] at e; cases e
  · have z := S.has p hp
    refine ⟨z.1.keeps R.ext, ?_, z.2.2⟩
    obtain ⟨o, ho, _⟩ := z.1
    cases q : V'.get? p.1 with
    | none => rfl
    | some o' =>
      rcases R.old _ _ q with e | e
      · rw [z.2.1] at e; cases e
      · rw [ho] at e; cases e
theorem St.enter {m : Str → Option Value} {n : Nat} {h₁ : Heap} (le : W.StaysIn h) (hn : h₁.Ns n m) (k : h.StaysIn h₁) (z : h.get? n = none) : St h W W [(n, isNs m)] h₁ := by
  refine ⟨k, stays_refl _, fun _ _ e => .inl e, stays_trans le k, fun p hp => ?_, by simp⟩
  obtain rfl := List.mem_singleton.mp hp
  refine ⟨ns_at.mp hn, ?_, z⟩
  cases q : W.get? n with
  | none => rfl
  | some o => rw [le _ _ q] at z; cases z
end
structure WF (P : Params) (mg mb : Str → Option Value) (V : Heap) : Prop where
  K : (hd.heap_39 P).In V
  g : V.Ns mainGlobals mg
  b : V.Ns builtinsNs mb
  nl : V.NoLimit
  bt : ∀ x : Str, x ≠ "__name__" → mb x = bootBuiltins x
theorem WF.keeps {P : Params} {mg mb : Str → Option Value} {V V' : Heap} (x : WF P mg mb V) (k : V.StaysIn V') : WF P mg mb V' :=
  ⟨x.K.keeps k, x.g.keeps k, x.b.keeps k, x.nl.keeps k, x.bt⟩
section
variable {prog : Program} {w : World} {A : Around} {E : Value → Shared → Prop} {h₀ W V h : Heap} {own own' : List (Addr × OP)} {g : Array GenState} {d : Drawn} {t : Nat} {os : OsState} {env : Env}
def Then (prog : Program) (w : World) (A : Around) (rest : List Stmt) (env : Env) (Q : Flow → Shared → Prop) (E : Value → Shared → Prop) (f : Flow) (s : Shared) : Prop :=
  match f with | .next => wpAny (model prog w) A (execs rest env) Q E s | f => Q f s
theorem Then.next {rest : List Stmt} {Q : Flow → Shared → Prop} {s : Shared} (x : wpAny (model prog w) A (execs rest env) Q E s) : Then prog w A rest env Q E .next s := x
theorem Then.ret {rest : List Stmt} {Q : Flow → Shared → Prop} {s : Shared} {v : Value} (x : Q (.ret v) s) : Then prog w A rest env Q E (.ret v) s := x
theorem Then.cont {rest : List Stmt} {Q : Flow → Shared → Prop} {s : Shared} (x : Q .cont s) : Then prog w A rest env Q E .cont s := x
theorem Then.brk {rest : List Stmt} {Q : Flow → Shared → Prop} {s : Shared} (x : Q .brk s) : Then prog w A rest env Q E .brk s := x
theorem x_nil {Q : Flow → Shared → Prop} {s : Shared} (x : Q .next s) : wpAny (model prog w) A (execs [] env) Q E s := wpAny_execs_nil x
theorem x_cons {st : Stmt} {rest : List Stmt} {Q : Flow → Shared → Prop} {s : Shared} (x : wpAny (model prog w) A (exec st env) (Then prog w A rest env Q E) E s) : wpAny (model prog w) A (execs (st :: rest) env) Q E s :=
  wpAny_execs_cons (wpAny_mono x (fun f s' q => by cases f <;> exact q) fun _ _ q => q)
theorem x_ret {e : Expr} {pos : Pos} {Q : Flow → Shared → Prop} {s : Shared} (x : wpAny (model prog w) A (eval e env) (fun v s' => Q (.ret v) s') E s) : wpAny (model prog w) A (exec (.Return (some e) pos) env) Q E s := wpAny_Return_some x
def Way (prog : Program) (w : World) (A : Around) (body orelse : List Stmt) (env : Env) (Q : Flow → Shared → Prop) (E : Value → Shared → Prop) (b : Bool) (s : Shared) : Prop :=
  if b then wpAny (model prog w) A (execs body env) Q E s else wpAny (model prog w) A (execs orelse env) Q E s
theorem Way.tt {body orelse : List Stmt} {Q : Flow → Shared → Prop} {s : Shared} (x : wpAny (model prog w) A (execs body env) Q E s) : Way prog w A body orelse env Q E true s := x
theorem Way.ff {body orelse : List Stmt} {Q : Flow → Shared → Prop} {s : Shared} (x : wpAny (model prog w) A (execs orelse env) Q E s) : Way prog w A body orelse env Q E false s := x
theorem Way.at {body orelse : List Stmt} {Q : Flow → Shared → Prop} {s : Shared} {b : Bool} (x : b = true → wpAny (model prog w) A (execs body env) Q E s) (y : b = false → wpAny (model prog w) A (execs orelse env) Q E s) : Way prog w A body orelse env Q E b s := by
  cases b with
  | true => exact x rfl
  | false => exact y rfl
theorem Way.dec {body orelse : List Stmt} {Q : Flow → Shared → Prop} {s : Shared} {p : Prop} [i : Decidable p] (x : p → wpAny (model prog w) A (execs body env) Q E s) (y : ¬ p → wpAny (model prog w) A (execs orelse env) Q E s) : Way prog w A body orelse env Q E (decide p) s :=
  Way.at (fun e => x (of_decide_eq_true e)) (fun e => y (of_decide_eq_false e))
theorem x_if {test : Expr} {body orelse : List Stmt} {pos : Pos} {Q : Flow → Shared → Prop} {s : Shared} (x : wpAny (model prog w) A (isTrue test env (eval test env)) (Way prog w A body orelse env Q E) E s) :
    wpAny (model prog w) A (exec (.If test body orelse pos) env) Q E s := wpAny_If x
theorem x_cont {pos : Pos} {Q : Flow → Shared → Prop} {s : Shared} (x : Q .cont s) : wpAny (model prog w) A (exec (.Continue pos) env) Q E s := wpAny_Continue x
theorem e_loc {L : Addr} {x : Str} {pos : Pos} {v : Value} {m : Str → Option Value} {Q : Value → Shared → Prop} (S : St h₀ W V ((L, isNs m) :: own) h) (hv : m x = some v) (k : Q v ⟨h, g, d, t, os⟩)
    (hL : env.locals = L := by rfl) (hk : env.scope.kind = .function := by rfl) (hl : env.kindOf x = some .local := by rfl) (hd : (x == ("__debug__" : Str)) = false := by decide) : wpAny (model prog w) A (eval (.Name x pos) env) Q E ⟨h, g, d, t, os⟩ :=
  wpAny_Name (wpAny_loadName_local hk hl (by rw [hL]; exact ns_at.mpr (S.get (.head _))) hv k) hd
theorem x_store {L : Addr} {x : Str} {v : Value} {m : Str → Option Value} {Q : Unit → Shared → Prop} (S : St h₀ W V ((L, isNs m) :: own) h)
    (k : ∀ h' t', St h₀ W V ((L, isNs fun y => if y = x then some v else m y) :: own) h' → Q () ⟨h', g, d, t', os⟩)
    (hL : env.locals = L := by rfl) (hk : env.scope.kind = .function := by rfl) (hl : env.kindOf x = some .local := by rfl) : wpAny (model prog w) A (storeName env x v) Q E ⟨h, g, d, t, os⟩ :=
  wpAny_storeName_local hl (ns_at.mpr (by rw [hL]; exact S.get (.head _))) (fun h' n s => k h' _ (S.upd .head (by rw [← hL]; exact s) (ns_at.mp (by rw [← hL]; exact n))))
    (by show (env.scope.kind == .class || (env.scope.kind == .module && env.locals != env.globals)) = false; rw [hk]; rfl)
theorem x_assign {x : Str} {p pos : Pos} {e : Expr} {Q : Flow → Shared → Prop} {s : Shared} (k : wpAny (model prog w) A (eval e env) (fun v s' => wpAny (model prog w) A (storeName env x v) (fun _ s'' => Q .next s'') E s') E s)
    (hs : swapsWith e (some (.Name x p)) pos.line env = pure false := by rfl) : wpAny (model prog w) A (exec (.Assign [.Name x p] e pos) env) Q E s := wpAny_Assign_Name k hs
variable {mg mb : Str → Option Value}
theorem e_glob {x : Str} {pos : Pos} {v : Value} {Q : Value → Shared → Prop} (S : St h₀ W V own h) (X : WF w.params mg mb V) (e : nsIn (hd.heap_39 w.params) mainGlobals x = some (some v)) (k : Q v ⟨h, g, d, t, os⟩)
    (hg : env.globals = mainGlobals := by rfl) (hk : env.scope.kind = .function := by rfl) (hx : env.kindOf x = some .globalImplicit := by rfl) (hd : (x == ("__debug__" : Str)) = false := by decide) : wpAny (model prog w) A (eval (.Name x pos) env) Q E ⟨h, g, d, t, os⟩ :=
  Calls.Name_function_global hk hx (Calls.loadGlobal_global (by rw [hg]; exact X.g.keeps S.le) (mg_of X.K X.g e) k) hd
theorem e_int {i : Int} {k : Nat} {pos : Pos} {Q : Value → Shared → Prop} (x : ∀ t', Q (.int i t) ⟨h, g, d, t', os⟩) : wpAny (model prog w) A (eval (.Constant (.int i) k pos) env) Q E ⟨h, g, d, t, os⟩ := wpAny_Constant_int (x _)
theorem e_str {i : Str} {k : Nat} {pos : Pos} {Q : Value → Shared → Prop} (x : ∀ t', Q (.str i t) ⟨h, g, d, t', os⟩) : wpAny (model prog w) A (eval (.Constant (.str i) k pos) env) Q E ⟨h, g, d, t, os⟩ := wpAny_Constant_str (x _)
theorem e_none {k : Nat} {pos : Pos} {Q : Value → Shared → Prop} {s : Shared} (x : Q .none s) : wpAny (model prog w) A (eval (.Constant .none k pos) env) Q E s := wpAny_pure x
theorem e_bool {b : Bool} {k : Nat} {pos : Pos} {Q : Value → Shared → Prop} {s : Shared} (x : Q (.bool b) s) : wpAny (model prog w) A (eval (.Constant (.bool b) k pos) env) Q E s := wpAny_pure x
theorem e_sub {value slice : Expr} {pos : Pos} {Q : Value → Shared → Prop} {s : Shared} (x : wpAny (model prog w) A (eval value env) (fun o s₁ => wpAny (model prog w) A (eval slice env) (fun i s₂ => wpAny (model prog w) A (subscriptTail value slice o i) Q E s₂) E s₁) E s) :
    wpAny (model prog w) A (eval (.Subscript value slice pos) env) Q E s := Subscript_ x
theorem e_bin {l r : Expr} {op : Operator} {pos : Pos} {Q : Value → Shared → Prop} {s : Shared} (x : wpAny (model prog w) A (eval l env) (fun a s₁ => wpAny (model prog w) A (eval r env) (fun b s₂ => wpAny (model prog w) A (binaryOp op a b) Q E s₂) E s₁) E s) :
    wpAny (model prog w) A (eval (.BinOp l op r pos) env) Q E s := wpAny_BinOp x
theorem e_cmp {l r : Expr} {op : CmpOp} {pos : Pos} {Q : Value → Shared → Prop} {s : Shared} (x : wpAny (model prog w) A (eval l env) (fun a s₁ => wpAny (model prog w) A (eval r env) (fun b s₂ => wpAny (model prog w) A (compareOp op a b) Q E s₂) E s₁) E s)
    (hm : behindInMarks op r = false := by with_unfolding_all rfl) : wpAny (model prog w) A (eval (.Compare l [op] [r] pos) env) Q E s := wpAny_Compare1 x hm
theorem b_cmp {l r : Expr} {op : CmpOp} {pos : Pos} {whole : Sem Value} {Q : Bool → Shared → Prop} {s : Shared} (x : wpAny (model prog w) A (eval l env) (fun a s₁ => wpAny (model prog w) A (eval r env) (fun b s₂ => wpAny (model prog w) A (compareOp op a b) (fun c s₃ => wpAny (model prog w) A (truthy c) Q E s₃) E s₂) E s₁) E s)
    (hm : behindInMarks op r = false := by with_unfolding_all rfl) : wpAny (model prog w) A (isTrue (.Compare l [op] [r] pos) env whole) Q E s := wpAny_isTrue_Compare1 x hm
theorem b_not {x : Expr} {pos : Pos} {whole : Sem Value} {Q : Bool → Shared → Prop} {s : Shared} (h : wpAny (model prog w) A (isTrue x env (eval x env)) (fun c s' => Q (!c) s') E s) : wpAny (model prog w) A (isTrue (.UnaryOp .Not x pos) env whole) Q E s := isTrue_not h
theorem b_val {e : Expr} {whole : Sem Value} {Q : Bool → Shared → Prop} {s : Shared} (x : wpAny (model prog w) A whole (fun v s₁ => wpAny (model prog w) A (truthy v) Q E s₁) E s)
    (he : isTrue e env whole = (do let v ← whole; standAt e.pos; holding [v] (truthy v)) := by rfl) : wpAny (model prog w) A (isTrue e env whole) Q E s := isTrue_plain x he
theorem t_bool {b : Bool} {Q : Bool → Shared → Prop} {s : Shared} (x : Q b s) : wpAny (model prog w) A (truthy (.bool b)) Q E s := wpAny_truthy_bool x
theorem o_add {a b : Int} {u v : Tok} {Q : Value → Shared → Prop} (k : ∀ t', Q (.int (a + b) t) ⟨h, g, d, t', os⟩) : wpAny (model prog w) A (binaryOp .Add (.int a u) (.int b v)) Q E ⟨h, g, d, t, os⟩ := PyProof.Rows.add_int (k _)
theorem o_sub {a b : Int} {u v : Tok} {Q : Value → Shared → Prop} (k : ∀ t', Q (.int (a - b) t) ⟨h, g, d, t', os⟩) : wpAny (model prog w) A (binaryOp .Sub (.int a u) (.int b v)) Q E ⟨h, g, d, t, os⟩ := PyProof.Rows.sub_int (k _)
theorem o_mul {a b : Int} {u v : Tok} {Q : Value → Shared → Prop} (hm : IntMulOk a b) (k : ∀ t', Q (.int (a * b) t) ⟨h, g, d, t', os⟩) : wpAny (model prog w) A (binaryOp .Mult (.int a u) (.int b v)) Q E ⟨h, g, d, t, os⟩ := PyProof.Rows.mul_int (k _) hm
theorem o_mod {a b : Int} {u v : Tok} {Q : Value → Shared → Prop} (hb : b ≠ 0) (k : ∀ t', Q (.int (a.fmod b) t) ⟨h, g, d, t', os⟩) : wpAny (model prog w) A (binaryOp .Mod (.int a u) (.int b v)) Q E ⟨h, g, d, t, os⟩ := PyProof.Rows.mod_int hb (k _)
theorem o_div {a b : Int} {u v : Tok} {Q : Value → Shared → Prop} (hb : b ≠ 0) (hp : Builtin.divisionGoesByPylong a b = false) (k : ∀ t', Q (.int (a.fdiv b) t) ⟨h, g, d, t', os⟩) : wpAny (model prog w) A (binaryOp .FloorDiv (.int a u) (.int b v)) Q E ⟨h, g, d, t, os⟩ := PyProof.Rows.floordiv_int hb (k _) (.inl hp)
theorem s_item {l : Addr} {xs : List Value} {k : Int} {u : Tok} {y : Value} {value slice : Expr} {Q : Value → Shared → Prop} (x : At h l (isLw xs)) (h0 : 0 ≤ k) (hf : k < 2 ^ 63) (hx : xs[k.toNat]? = some y) (q : Q y ⟨h, g, d, t, os⟩)
    (hs : subscripted slice false (.ref l) (.int k u) = operate [.ref l, .int k u] (getItem (.ref l) (.int k u)) := by with_unfolding_all rfl) :
    wpAny (model prog w) A (subscriptTail value slice (.ref l) (.int k u)) Q E ⟨h, g, d, t, os⟩ :=
  have hl := list_at.mpr x
  tail_any hl.typeIs slot_list_getitem.lookup (wpAny_getItem_list hl h0 hf (by simpa using hx) q) hs
theorem p_nil {pos : Pos} {Q : List Value → Shared → Prop} {s : Shared} (x : Q [] s) : wpAny (model prog w) A (spliced (backTo pos (starEach [] env))) Q E s := wpAny_items_nil x
theorem p_cons {pos : Pos} {e : Expr} {rest : List Expr} {Q : List Value → Shared → Prop} {s : Shared} (x : wpAny (model prog w) A (eval e env) (fun v s₁ => wpAny (model prog w) A (spliced (backTo pos (starEach rest env))) (fun vs s₂ => Q (v :: vs) s₂) E s₁) E s)
    (he : starEach (e :: rest) env = (false, eval e env) :: starEach rest env := by rfl) : wpAny (model prog w) A (spliced (backTo pos (starEach (e :: rest) env))) Q E s := wpAny_items_cons x he
theorem e_list {elts : List Expr} {pos : Pos} {Q : Value → Shared → Prop} {s : Shared} (x : wpAny (model prog w) A (spliced (backTo pos (starEach elts env))) (fun vs s₁ => wpAny (model prog w) A (newList vs) Q E s₁) E s) : wpAny (model prog w) A (eval (.List elts pos) env) Q E s := List_ x
theorem e_tup {elts : List Expr} {n : Nat} {pos : Pos} {Q : Value → Shared → Prop} {s : Shared} (x : wpAny (model prog w) A (spliced (backTo pos (starEach elts env))) (fun vs s₁ => wpAny (model prog w) A (newTuple vs) Q E s₁) E s) : wpAny (model prog w) A (eval (.Tuple elts n pos) env) Q E s := Tuple_ x
theorem n_list {vs : List Value} {f : Addr × OP} {Q : Value → Shared → Prop} (S : St h₀ W V (f :: own) h) (hz : vs.length ≤ sizeLine) (k : ∀ a h', St h₀ W V (f :: (a, isL vs) :: own) h' → Q (.ref a) ⟨h', g, d, t, os⟩) : wpAny (model prog w) A (newList vs) Q E ⟨h, g, d, t, os⟩ :=
  wpAny_newObj_type (k _ _ (S.push2 _ rfl ⟨0, rfl⟩)) (by show vs.toArray.size ≤ sizeLine; rw [List.size_toArray]; exact hz)
theorem n_tup {vs : List Value} {f : Addr × OP} {Q : Value → Shared → Prop} (S : St h₀ W V (f :: own) h) (hz : vs.length ≤ sizeLine) (k : ∀ a V' h', St h₀ W V' (f :: own) h' → V.StaysIn V' → At V' a (isT vs) → Q (.ref a) ⟨h', g, d, t, os⟩) : wpAny (model prog w) A (newTuple vs) Q E ⟨h, g, d, t, os⟩ := by
  obtain ⟨V', S', hv, ha⟩ := S.new (φ := isT vs) { cls := .type "tuple", data := .seq vs.toArray } rfl ⟨rfl, 0, rfl⟩
  exact wpAny_newObj_type (k _ _ _ S' hv ha) (by show vs.toArray.size ≤ sizeLine; rw [List.size_toArray]; exact hz)
theorem e_meth {o : Expr} {name : Str} {apos pos : Pos} {args : List Expr} {pl : Sem Bool} {Q : Value → Shared → Prop} {s : Shared}
    (x : wpAny (model prog w) A (eval o env) (fun ov s₁ => wpAny (model prog w) A (getMethod ov name pl) (fun fx s₂ => wpAny (model prog w) A (callWith pos fx.1 fx.2 (backTo pos (starEach args env)) []) Q E s₂) E s₁) E s)
    (he : eval (.Call (.Attribute o name apos) args [] pos) env = (do
      let ov ← eval o env
      standAt apos.atName
      let (f, first) ← holding [ov] (getMethod ov name pl)
      callWith pos f first (backTo pos (starEach args env)) []) := by rfl) : wpAny (model prog w) A (eval (.Call (.Attribute o name apos) args [] pos) env) Q E s := MethodCall_ x he
theorem m_list {l : Addr} {xs : List Value} {name : Str} {id : String} {pl : Sem Bool} {Q : Value × List Value → Shared → Prop} (x : At h l (isL xs)) (slot : Slot "list" name id) (hty : typeOf (.builtin id) = pure (.type "method_descriptor"))
    (k : Q (.builtin id, [.ref l]) ⟨h, g, d, t, os⟩) : wpAny (model prog w) A (getMethod (.ref l) name pl) Q E ⟨h, g, d, t, os⟩ := by
  obtain ⟨o, e, n, rfl⟩ := x
  exact getMethod_builtin ⟨_, e, rfl⟩ PySem.F.plainAttrs_list slot hty (fun a ea => by cases ea; exact ⟨_, e, rfl⟩) k
theorem w_bi {pos : Pos} {id : String} {first : List Value} {e : Expr} {rest : List Expr} {Q : Value → Shared → Prop} {s : Shared}
    (x : wpAny (model prog w) A (spliced (backTo pos (starEach (e :: rest) env))) (fun vs s₁ => wpAny (model prog w) A (call (.builtin id) (first ++ vs)) Q E s₁) E s)
    (he : starEach (e :: rest) env = (false, eval e env) :: starEach rest env := by rfl) (hplain : (backTo pos (starEach rest env)).any (·.1) = false := by rfl) :
    wpAny (model prog w) A (callWith pos (.builtin id) first (backTo pos (starEach (e :: rest) env)) []) Q E s := PyProof.Rows.callWith_method1 x he hplain
theorem l_append {l : Addr} {xs : List Value} {y : Value} {Q : Value → Shared → Prop} (S : St h₀ W V own h) (u : Upd1 l (isL xs) (isL (xs ++ [y])) own own') (hz : xs.length ≤ sizeLine) (k : ∀ h', St h₀ W V own' h' → Q .none ⟨h', g, d, t, os⟩) :
    wpAny (model prog w) A (call (.builtin "list.append") [.ref l, y]) Q E ⟨h, g, d, t, os⟩ := by
  obtain ⟨o, e, n, rfl⟩ := S.get u.mem
  refine call_meets PySem.F.slot_list_append ⟨_, e, rfl⟩ PySem.F.entry_list_append (PySem.F.args_list_append_2 _ _) (PySem.list_append l xs.toArray n y (by rw [List.size_toArray]; exact hz)) ⟨e, k _ (S.upd u (Heap.SameBut.update ..) ?_)⟩
  have z := PySem.IsL.update (h := h) (l := l) (items := xs.toArray) (n := n) e (fun x => x.push y)
  exact ⟨_, z, _, by rw [List.push_toArray]⟩
theorem l_pop0 {l : Addr} {xs : List Value} {y : Value} {tk : Tok} {Q : Value → Shared → Prop} (S : St h₀ W V own h) (u : Upd1 l (isL (y :: xs)) (isL xs) own own') (hz : xs.length < sizeLine) (k : ∀ h', St h₀ W V own' h' → Q y ⟨h', g, d, t, os⟩) :
    wpAny (model prog w) A (call (.builtin "list.pop") [.ref l, .int 0 tk]) Q E ⟨h, g, d, t, os⟩ := by
  obtain ⟨o, e, n, rfl⟩ := S.get u.mem
  refine call_meets PySem.F.slot_list_pop ⟨_, e, rfl⟩ PySem.F.entry_list_pop (PySem.F.args_list_pop_2 _ _) (PySem.MeetsSeq.list_pop_at l (y :: xs).toArray n 0 tk 0 y rfl (by simp [seqIndex?]) (by simp) (by rw [List.size_toArray]; exact hz)) ⟨e, k _ (S.upd u (Heap.SameBut.update ..) ?_)⟩
  have z := PySem.IsL.update (h := h) (l := l) (items := (y :: xs).toArray) (n := n) e (fun x => x.eraseIdxIfInBounds 0)
  exact ⟨_, z, _, by simp [Array.eraseIdxIfInBounds]; rfl⟩
theorem x_asub {o i e : Expr} {p pos : Pos} {Q : Flow → Shared → Prop} {s : Shared} (x : wpAny (model prog w) A (eval e env) (fun v s₁ => wpAny (model prog w) A (eval o env) (fun ov s₂ => wpAny (model prog w) A (eval i env) (fun iv s₃ =>
      wpAny (model prog w) A (setItem ov iv v) (fun _ s₄ => Q .next s₄) E s₃) E s₂) E s₁) E s) (hs : swapsWith e (some (.Subscript o i p)) pos.line env = pure false := by rfl) :
    wpAny (model prog w) A (exec (.Assign [.Subscript o i p] e pos) env) Q E s := wpAny_Assign_Subscript x hs
theorem l_set {l : Addr} {xs : List Value} {v : Value} {i : Int} {tk : Tok} {Q : Unit → Shared → Prop} (S : St h₀ W V own h) (u : Upd1 l (isLw xs) (isLw (xs.set i.toNat v)) own own') (h0 : 0 ≤ i) (hf : i < 2 ^ 63) (hn : i < xs.length) (k : ∀ h', St h₀ W V own' h' → Q () ⟨h', g, d, t, os⟩) :
    wpAny (model prog w) A (setItem (.ref l) (.int i tk) v) Q E ⟨h, g, d, t, os⟩ :=
  wpAny_setItem_list (list_at.mpr (S.get u.mem)) h0 hf (by simpa using hn) fun h' x s => k _ (S.upd u s (list_at.mp (by simpa using x)))
theorem c_ne_ints {a b : Addr} {xs ys : List Value} {ns ms : List Int} {Q : Value → Shared → Prop} (x : At h a (isLw xs)) (y : At h b (isLw ys)) (hi : IntsAre xs ns) (hj : IntsAre ys ms) (hu : A.units + 64 < cLine) (k : Q (.bool (!decide (ns = ms))) ⟨h, g, d, t, os⟩) :
    wpAny (model prog w) A (compareOp .NotEq (.ref a) (.ref b)) Q E ⟨h, g, d, t, os⟩ := ke_ne_ints (list_at.mpr x) (list_at.mpr y) hi hj hu k
def Done (Q : Value → Shared → Prop) (f : Flow) (s : Shared) : Prop := Q (match f with | .ret v => v | _ => .none) s
theorem Done.ret {Q : Value → Shared → Prop} {v : Value} {s : Shared} (x : Q v s) : Done Q (.ret v) s := x
theorem Done.next {Q : Value → Shared → Prop} {s : Shared} (x : Q .none s) : Done Q .next s := x
theorem c_def {name qual : Str} {params : Arguments} {body : List Stmt} {scope : Scope} {dV kV doc pm cdv ct oc : Value} {an od : Option Addr} {osl : Array (Option Value)} {f : Addr} {args : List Value} {kw binds : List (Str × Value)} {Q : Value → Shared → Prop}
    (le : V.StaysIn h) (X : WF w.params mg mb V) (ho : (hd.heap_39 w.params).lookup f = some ⟨oc, od, .func (fnX name qual params body scope [] dV kV doc pm an cdv ct), osl⟩) (hcd : codeIn (hd.heap_39 w.params) cdv qual = true) (hroom : A.depth < recursionLimit)
    (hbind : BindsTo ⟨h, g, d, t, os⟩ (fnX name qual params body scope [] dV kV doc pm an cdv ct) ⟨args, kw⟩ binds) (hloc : (binds.all fun y => decide (scope.names.lookup y.1 = some .local)) = true)
    (k : ∀ L h₁ t', St h V V [(L, isNs fun x => binds.reverse.lookup x)] h₁ → wpAny (model prog w) (A.deeper (envX qual scope L f cdv [])) (execs body (envX qual scope L f cdv [])) (Done Q) (fun _ _ => False) ⟨h₁, g, d, t', os⟩)
    (hcell : ∀ x ∈ scope.names, x.2 ≠ .cell := by decide) (hco : scope.isCoroutine = false := by rfl) (hgen : scope.isGenerator = false := by rfl) (hk : scope.kind = .function := by rfl) :
    wpAny (model prog w) A (call (.ref f) args kw) Q E ⟨h, g, d, t, os⟩ := by
  have XK := X.K.keeps le
  refine wpAny_call (codeAny_call_def (fd := fnX name qual params body scope [] dV kV doc pm an cdv ct) (body := body) (binds := binds) hroom (XK _ _ ho) rfl (X.nl.keeps le) (codeRec_of XK hcd) rfl hbind hcell (locs hloc) (fun h₁ hns hk₁ => ?_) hco hgen hk)
  refine wpAny_mono (k h.objs.size h₁ _ (St.enter (h := h) le hns hk₁ ?_)) (fun fl s' q => ?_) fun _ _ q => q.elim
  · cases e : h.get? h.objs.size with
    | none => rfl
    | some o => exact absurd (Heap.lt_size e) (Nat.lt_irrefl _)
  · cases fl <;> exact q
end
section
variable {h₀ W V h : Heap} {own : List (Addr × OP)} {a : Addr} {φ : OP}
theorem St.adopt {f : Addr × OP} (S : St h₀ W V (f :: own) h) (x : At h a φ) (hV : V.get? a = none) (n : a ∉ (f :: own).map (·.1)) : St (only h₀ fun b => b ≠ a) W V (f :: (a, φ) :: own) h := by
  refine ⟨fun b o e => S.ext b o (only_some.mp e).2, S.sub, fun b o e => ?_, S.le, fun p hp => ?_, ?_⟩
  · rcases S.old b o e with e | e
    · exact .inl e
    · exact .inr (by rw [only_get]; split <;> simp [e])
  · simp only [List.mem_cons] at hp
    rcases hp with rfl | rfl | hp
    · have z := S.has p (.head _)
      exact ⟨z.1, z.2.1, by rw [only_get]; split <;> simp [z.2.2]⟩
    · exact ⟨x, hV, only_none (by simp)⟩
    · have z := S.has p (.tail _ hp)
      exact ⟨z.1, z.2.1, by rw [only_get]; split <;> simp [z.2.2]⟩
  · have := S.nd
    simp only [List.map_cons, List.nodup_cons, List.mem_cons, not_or] at this n ⊢
    exact ⟨⟨fun e => n.1 e.symm, this.1⟩, n.2, this.2⟩
end
theorem WF.via {P : Params} {mg mb : Str → Option Value} {V V' : Heap} (k : V.StaysIn V') (x : WF P mg mb V) : WF P mg mb V' := x.keeps k
local macro_rules | `(tactic| wtm_at "v_wf") => `(tactic| first | with_reducible assumption | exact WF.via (by with_reducible assumption) (by wtm_at "v_wf"))
local macro_rules | `(tactic| wtm_at "v_mem") => `(tactic| ((repeat (first | exact List.Mem.head _ | apply List.Mem.tail)); first | done | fail "v_mem"))
local macro_rules | `(tactic| wtm_at "v_at") => `(tactic| first
  | with_reducible assumption
  | exact St.get (by with_reducible assumption) (by wtm_at "v_mem")
  | exact St.view (by with_reducible assumption) (by wtm_at "v_at")
  | exact At.via (by with_reducible assumption) (by wtm_at "v_at"))
local macro_rules | `(tactic| wtm_at "v_room") => `(tactic| ((try simp only [depth_under_make, depth_under_kw, depth_in1, depth_deeper, depth_caller, units_in1, units_deeper, Around.mark_units, units_caller, recursionLimit, cLine] at *); omega))
local macro_rules | `(tactic| wtm_at "v_upd") => `(tactic| ((repeat (first | exact Upd1.head | apply Upd1.tail)); first | done | fail "v_upd"))
local macro_rules | `(tactic| wtm_at "v_weak") => `(tactic| first | exact At.weak (by wtm_at "v_at") | wtm_at "v_at")
local macro_rules | `(tactic| wtm_at "v_size") => `(tactic| first | decide | ((try simp only [List.length_cons, List.length_nil, List.length_append, sizeLine, Nat.reducePow] at *); omega))
local macro_rules | `(tactic| wtm_at "v_all") => `(tactic| repeat (wtm_at "v_one"))
structure Room (A : Around) (n : Nat) : Prop where
  dp : A.depth + n ≤ 900
  un : A.units + 10 * n ≤ 9000
  hd : A.handled = none
theorem Room.depth {A : Around} {n : Nat} (R : Room A n) : A.depth < recursionLimit := by have := R.dp; simp only [recursionLimit]; omega
theorem Room.units {A : Around} {n : Nat} (R : Room A n) : A.units < cLine := by have := R.un; simp only [cLine]; omega
theorem Room.units64 {A : Around} {n : Nat} (R : Room A n) : A.units + 64 < cLine := by have := R.un; simp only [cLine]; omega
theorem Room.mono {A : Around} {n m : Nat} (R : Room A n) (h : m ≤ n) : Room A m := ⟨by have := R.dp; omega, by have := R.un; omega, R.hd⟩
theorem Room.deeper {A : Around} {n : Nat} {env : Env} (R : Room A (n + 1)) : Room (A.deeper env) n :=
  ⟨by have := R.dp; show A.depth + 1 + n ≤ 900; omega, by have := R.un; show A.units + 3 + 10 * n ≤ 9000; omega, R.hd⟩
theorem Room.in1 {A : Around} {n : Nat} (R : Room A (n + 1)) : Room A.in1 n :=
  ⟨by have := R.dp; show A.depth + n ≤ 900; omega, by have := R.un; show A.units + 1 + 10 * n ≤ 9000; omega, R.hd⟩
def Tell (prog : Program) (w : World) (A : Around) (f : Value) (args : List Value) (kw : List (Str × Value)) (V h : Heap) (P : Value → Heap → Prop) : Prop :=
  ∀ (g : Array GenState) (d : Drawn) (t : Nat) (os : OsState) (Q E : Value → Shared → Prop), (∀ v V' h' t', Ret V h V' h' → P v V' → Q v ⟨h', g, d, t', os⟩) → wpAny (model prog w) A (call f args kw) Q E ⟨h, g, d, t, os⟩
section
variable {prog : Program} {w : World} {A : Around} {E : Value → Shared → Prop} {h₀ W V h : Heap} {own own' : List (Addr × OP)} {g : Array GenState} {d : Drawn} {t : Nat} {os : OsState} {env : Env} {mg mb : Str → Option Value}
theorem c_tell {f : Value} {args : List Value} {kw : List (Str × Value)} {P : Value → Heap → Prop} {Q : Value → Shared → Prop} (S : St h₀ W V own h) (T : Tell prog w A f args kw V h P)
    (k : ∀ v V' h' t', St h₀ W V' own h' → V.StaysIn V' → P v V' → Q v ⟨h', g, d, t', os⟩) : wpAny (model prog w) A (call f args kw) Q E ⟨h, g, d, t, os⟩ :=
  T g d t os Q E fun v V' h' t' R p => k v V' h' t' (S.call R) R.sub p
theorem e_if {test body orelse : Expr} {pos : Pos} {Q : Value → Shared → Prop} {s : Shared} (x : wpAny (model prog w) A (isTrue test env (eval test env)) (fun b s₁ => if b then wpAny (model prog w) A (eval body env) Q E s₁ else wpAny (model prog w) A (eval orelse env) Q E s₁) E s) :
    wpAny (model prog w) A (eval (.IfExp test body orelse pos) env) Q E s := wpAny_IfExp x
theorem if_tt {p q : Prop} (x : p) : if true = true then p else q := x
theorem if_ff {p q : Prop} (x : q) : if false = true then p else q := x
theorem e_attr {value : Expr} {attr : Str} {pos : Pos} {Q : Value → Shared → Prop} {s : Shared} (x : wpAny (model prog w) A (eval value env) (fun o s₁ => wpAny (model prog w) A (getAttr o attr true) Q E s₁) E s)
    (he : eval (.Attribute value attr pos) env = (do
      let o ← eval value env
      standAt pos.atName
      let r ← holding [o] (getAttr o attr true)
      letTemporaryGo value o r
      pure r) := by with_unfolding_all rfl) : wpAny (model prog w) A (eval (.Attribute value attr pos) env) Q E s := Attribute_any_ x he
theorem e_call {func : Expr} {args : List Expr} {pos : Pos} {Q : Value → Shared → Prop} {s : Shared} (x : wpAny (model prog w) A (eval func env) (fun f s₁ => wpAny (model prog w) A (callWith pos f [] (backTo pos (starEach args env)) []) Q E s₁) E s)
    (he : eval (.Call func args [] pos) env = (do callWith pos (← eval func env) [] (backTo pos (starEach args env)) (backToKw pos (keywordEach [] env))) := by rfl) : wpAny (model prog w) A (eval (.Call func args [] pos) env) Q E s := Call_ x he
theorem w_def {f : Value} {first : List Value} {e : Expr} {rest : List Expr} {pos : Pos} {Q : Value → Shared → Prop} (_S : St h₀ W V own h) (X : WF w.params mg mb V) (hk : keepIn (hd.heap_39 w.params) f = true)
    (x : wpAny (model prog w) A (spliced (backTo pos (starEach (e :: rest) env))) (fun vs s₁ => (hd.heap_39 w.params).In s₁.heap ∧ wpAny (model prog w) A (call f (first ++ vs)) Q E s₁) E ⟨h, g, d, t, os⟩)
    (he : starEach (e :: rest) env = (false, eval e env) :: starEach rest env := by rfl) (hplain : (backTo pos (starEach rest env)).any (·.1) = false := by rfl) :
    wpAny (model prog w) A (callWith pos f first (backTo pos (starEach (e :: rest) env)) []) Q E ⟨h, g, d, t, os⟩ := callWith_K X.K hk x he hplain
theorem w_def0 {f : Value} {first : List Value} {pos : Pos} {Q : Value → Shared → Prop} (S : St h₀ W V own h) (X : WF w.params mg mb V) (hk : keepIn (hd.heap_39 w.params) f = true)
    (x : wpAny (model prog w) A (call f (first ++ [])) Q E ⟨h, g, d, t, os⟩) : wpAny (model prog w) A (callWith pos f first (backTo pos (starEach [] env)) []) Q E ⟨h, g, d, t, os⟩ := callWith_K0 (X.K.keeps S.le) hk x
theorem in_here {p : Prop} (S : St h₀ W V own h) (X : WF w.params mg mb V) (x : p) : (hd.heap_39 w.params).In (Shared.heap ⟨h, g, d, t, os⟩) ∧ p := ⟨X.K.keeps S.le, x⟩
theorem e_bui {x : Str} {pos : Pos} {v : Value} {Q : Value → Shared → Prop} (S : St h₀ W V own h) (X : WF w.params mg mb V) (e : nsIn (hd.heap_39 w.params) mainGlobals x = some none) (hv : bootBuiltins x = some v) (k : Q v ⟨h, g, d, t, os⟩) (hn : x ≠ "__name__" := by decide)
    (hg : env.globals = mainGlobals := by rfl) (hb : env.builtins = builtinsNs := by rfl) (hk : env.scope.kind = .function := by rfl) (hx : env.kindOf x = some .globalImplicit := by rfl) (hd : (x == ("__debug__" : Str)) = false := by decide) : wpAny (model prog w) A (eval (.Name x pos) env) Q E ⟨h, g, d, t, os⟩ := by
  exact Calls.Name_function_global hk hx (Calls.loadGlobal_builtin (by rw [hg]; exact X.g.keeps S.le) (mg_none_of X.K X.g e) (by rw [hb]; exact X.b.keeps S.le) ((X.bt x hn).trans hv) k) hd
def isI (C dx : Addr) : OP := fun o => o = instObj C dx
def Ents : List DictEntry → List (Str × Value) → Prop
  | [], [] => True
  | e :: es, p :: l => (∃ u, e.key = .str p.1 u) ∧ e.val = p.2 ∧ Ents es l
  | _, _ => False
def isD (l : List (Str × Value)) : OP := fun o => ∃ es n, o = dictOf es n ∧ Ents es l
def putA (l : List (Str × Value)) (x : Str) (v : Value) : List (Str × Value) := match l with
  | [] => [(x, v)]
  | p :: r => if p.1 == x then (p.1, v) :: r else p :: putA r x v
theorem Ents.len : ∀ {es : List DictEntry} {l : List (Str × Value)}, Ents es l → es.length = l.length
  | [], [], _ => rfl
  | _ :: _, _ :: _, h => congrArg (· + 1) h.2.2.len
theorem putA_len (l : List (Str × Value)) (x : Str) (v : Value) : (putA l x v).length ≤ l.length + 1 := by
  induction l with
  | nil => exact Nat.le_refl _
  | cons p r ih => unfold putA; split <;> simp only [List.length_cons] <;> omega
theorem Ents.put {x : Str} {hs : Int} {u : Tok} {v : Value} : ∀ {es : List DictEntry} {l : List (Str × Value)}, Ents es l → Ents (putL x hs (.str x u) v es) (putA l x v)
  | [], [], _ => ⟨⟨u, rfl⟩, rfl, trivial⟩
  | e :: es, p :: l, ⟨⟨u', hu⟩, hv, hr⟩ => by
    unfold putL putA
    have z : e.key.isStr x = (p.1 == x) := by rw [hu]; rfl
    rw [z]
    cases q : p.1 == x with
    | true => exact ⟨⟨u', hu⟩, rfl, hr⟩
    | false => exact ⟨⟨u', hu⟩, hv, Ents.put hr⟩
theorem Ents.look {x : Str} : ∀ {es : List DictEntry} {l : List (Str × Value)}, Ents es l → getL x es = some (l.lookup x) ∧ es.any (·.refKey) = false
  | [], [], _ => ⟨rfl, rfl⟩
  | e :: es, p :: l, ⟨⟨u', hu⟩, hv, hr⟩ => by
    have z : e.key.isStr x = (p.1 == x) := by rw [hu]; rfl
    have ih := Ents.look (x := x) hr
    have rk : e.refKey = false := by simp [DictEntry.refKey, hu]
    refine ⟨?_, by rw [List.any_cons, rk, ih.2]; rfl⟩
    unfold getL
    rw [List.find?_cons, z, List.any_cons, rk, ih.2]
    obtain ⟨k, val⟩ := p
    rw [List.lookup_cons]
    cases q : k == x with
    | true =>
      have : (x == k) = true := by rw [beq_iff_eq] at q ⊢; exact q.symm
      rw [this]
      show some (some e.val) = _
      rw [hv]
    | false =>
      have : (x == k) = false := by
        rw [beq_eq_false_iff_ne] at q ⊢; exact q.symm
      rw [this]
      have := ih.1
      unfold getL at this
      rw [ih.2] at this
      exact this
theorem look_d {es : List DictEntry} {n : Nat} {l : List (Str × Value)} (x : Ents es l) (name : Str) : lookIn name (dictOf es n) = some (l.lookup name) := by
  rw [lookIn_dict]; exact x.look.1
theorem inst_at {x C dx : Addr} {l : List (Str × Value)} (hx : At h x (isI C dx)) (hm : At h dx (isD l)) : ∃ es n, _root_.PySem.W.InstAt h x (instObj C dx) C (some (dictOf es n)) ∧ Ents es l := by
  obtain ⟨o, e, rfl⟩ := hx
  obtain ⟨od, e', es, n, rfl, hm⟩ := hm
  exact ⟨es, n, ⟨e, rfl, rfl, e'⟩, hm⟩
theorem g_own {x C dx : Addr} {l : List (Str × Value)} {name : Str} {v : Value} {expr : Bool} {attr : Option Value} {Q : Value → Shared → Prop} (S : St h₀ W V own h) (X : WF w.params mg mb V) (hx : At h x (isI C dx)) (hm : At h dx (isD l))
    (hg : plainGet (hd.heap_39 w.params) C name = true) (hh : hasDictIn (hd.heap_39 w.params) C = true) (ha : findIn (hd.heap_39 w.params) (.ref C) name = some attr) (hn : noGet (hd.heap_39 w.params) attr = true)
    (hl : l.lookup name = some v) (hv : handedIn v = true) (k : ∀ t', Q v ⟨h, g, d, t', os⟩) : wpAny (model prog w) A (getAttr (.ref x) name expr) Q E ⟨h, g, d, t, os⟩ := by
  obtain ⟨es, n, I, hmo⟩ := inst_at hx hm
  exact get_value (X.K.keeps S.le) I (plainGet_of hg).1 (findObj_own hh ha hn (by rw [look_d hmo, hl])) hv (k _)
theorem m_own {x C dx f : Addr} {l : List (Str × Value)} {name : Str} {pl : Sem Bool} {Q : Value × List Value → Shared → Prop} (S : St h₀ W V own h) (X : WF w.params mg mb V) (hx : At h x (isI C dx)) (hm : At h dx (isD l))
    (hg : plainGet (hd.heap_39 w.params) C name = true) (hf : findIn (hd.heap_39 w.params) (.ref C) name = some (some (.ref f))) (ht : isFn (hd.heap_39 w.params) (.ref f) = true) (hl : l.lookup name = none) (k : Q (.ref f, [.ref x]) ⟨h, g, d, t, os⟩) :
    wpAny (model prog w) A (getMethod (.ref x) name pl) Q E ⟨h, g, d, t, os⟩ := by
  obtain ⟨es, n, I, hmo⟩ := inst_at hx hm
  exact method_fn (X.K.keeps S.le) I (plainGet_of hg).1 (plainGet_of hg).2 hf (beq_iff_eq.mp ht) (by show (lookIn name (dictOf es n)).map _ = _; rw [look_d hmo, hl]; rfl) k
theorem x_aattr {o e : Expr} {attr : Str} {p pos : Pos} {Q : Flow → Shared → Prop} {s : Shared} (x : wpAny (model prog w) A (eval e env) (fun v s₁ => wpAny (model prog w) A (eval o env) (fun ov s₂ => wpAny (model prog w) A (setAttr ov attr v) (fun _ s₃ => Q .next s₃) E s₂) E s₁) E s)
    (hs : swapsWith e (some (.Attribute o attr p)) pos.line env = pure false := by rfl) : wpAny (model prog w) A (exec (.Assign [.Attribute o attr p] e pos) env) Q E s := plainObj_wpAny_Assign_Attribute x hs
theorem a_set {x C dx : Addr} {l : List (Str × Value)} {name : Str} {v : Value} {Q : Unit → Shared → Prop} (S : St h₀ W V own h) (X : WF w.params mg mb V) (hx : At h x (isI C dx)) (u : Upd1 dx (isD l) (isD (putA l name v)) own own')
    (hs : findIn (hd.heap_39 w.params) (.ref C) "__setattr__" = some (some (.builtin "object.__setattr__"))) (hp : plainOver (hd.heap_39 w.params) C = true) (ht : takerIn (hd.heap_39 w.params) C name = some none) (hh : hasDictIn (hd.heap_39 w.params) C = true)
    (hz : l.length < 1000) (k : ∀ h' t', St h₀ W V own' h' → Q () ⟨h', g, d, t', os⟩) : wpAny (model prog w) A (setAttr (.ref x) name v) Q E ⟨h, g, d, t, os⟩ := by
  have XK := X.K.keeps S.le
  obtain ⟨es, n, I, hmo⟩ := inst_at hx (S.get u.mem)
  have D : h.get? dx = some (dictOf es n) := I.dict
  refine set_plain XK I hs (osa_open (s := ⟨h, g, d, t + 1, os⟩) XK I hp ht fun b => ?_)
  obtain ⟨cd, hc, hd'⟩ := any_some hh
  refine wpAny_bind (wpAny_pure (wpAny_bind (wpAny_bind (wpAny_loadPart I.at_ (wpAny_bind ((looks_clsIn XK hc).here ?_))))))
  rw [hd']
  refine wpAny_pure (a := some dx) (wpAny_bind (wpAny_pure (wpAny_bind ?_)))
  unfold nsSet
  refine wpAny_bind (wpAny_bind (wpAny_askSetting (wpAny_pure (wpAny_bind (wpAny_mkText (wpAny_bind (wpAny_loadPart D ?_)))))))
  dsimp only
  have c : (!es.toArray.any (·.key.isStr name) && es.toArray.any (·.refKey)) = false := by
    have z : es.toArray.any (fun x => x.refKey) = false := by
      rw [← Array.any_toList]
      exact (hmo.look (x := name)).2
    rw [z, Bool.and_false]
  rw [aRefKeyMayBeTheName_at, c]
  refine wpAny_updatePart D ?_
  have D' : (h.update dx (Obj.putName name (PyData.keyHash w.params name) (.str name (t + 1)) v)).get? dx = some (dictOf (putL name (PyData.keyHash w.params name) (.str name (t + 1)) v es) (putN name es n)) := by
    rw [← putName_dict]
    exact Heap.get?_update_self _ D (by rw [putName_dict]; rfl)
  have E' := Ents.put (x := name) (hs := PyData.keyHash w.params name) (u := t + 1) (v := v) hmo
  refine wpAny_bind (wpAny_lookBehind D' (pastItsLine_dict (by rw [List.size_toArray, E'.len, sizeLine_eq]; have := putA_len l name v; omega)) ?_)
  exact wpAny_pure (k _ _ (S.upd u (Heap.SameBut.update ..) ⟨_, D', _, _, rfl, E'⟩))
theorem i_own {x D dx : Addr} {l : List (Str × Value)} {c : Value} {b : Bool} {Q : Value → Shared → Prop} (S : St h₀ W V own h) (X : WF w.params mg mb V) (hx : At h x (isI D dx)) (hm : At h dx (isD l)) (e : kitOne (hd.heap_39 w.params) (.ref D) c = some b)
    (hg : plainGet (hd.heap_39 w.params) D "__class__" = true) (hdct : hasDictIn (hd.heap_39 w.params) D = true) (ha : findIn (hd.heap_39 w.params) (.ref D) "__class__" = some (some (.builtin "object.__class__")))
    (hn : specialIn (hd.heap_39 w.params) (.builtin "object.__class__") "__get__" = some (some (.builtin "getset_descriptor.__get__"))) (htk : takesIn (hd.heap_39 w.params) (.builtin "object.__class__") = some true) (hm' : mroIn (hd.heap_39 w.params) D (.type "object") = some true)
    (k : ∀ t', Q (.bool b) ⟨h, g, d, t', os⟩) : wpAny (model prog w) A (call (.builtin "isinstance") [.ref x, c]) Q E ⟨h, g, d, t, os⟩ := by
  obtain ⟨es, n, I, _⟩ := inst_at hx hm
  exact kia_one (kitx_own hg hdct ha hn htk hm') (X.K.keeps S.le) I e (by intro z; cases z) fun tk => k tk
theorem i_none {c : Value} {b : Bool} {Q : Value → Shared → Prop} (S : St h₀ W V own h) (X : WF w.params mg mb V) (e : kitOne (hd.heap_39 w.params) (.type "NoneType") c = some b) (k : ∀ t', Q (.bool b) ⟨h, g, d, t', os⟩) : wpAny (model prog w) A (call (.builtin "isinstance") [.none, c]) Q E ⟨h, g, d, t, os⟩ :=
  kia_one kitx_none (X.K.keeps S.le) trivial e (by intro z; cases z) fun tk => k tk
theorem is_t {a b : Value} {Q : Value → Shared → Prop} {s : Shared} (hp : plainIs a b = true) (e : (a == b) = true) (k : Q (.bool true) s) : wpAny (model prog w) A (compareOp .Is a b) Q E s := wpAny_is_plain hp (by rw [e]; exact k)
theorem is_f {a b : Value} {Q : Value → Shared → Prop} {s : Shared} (hp : plainIs a b = true) (e : (a == b) = false) (k : Q (.bool false) s) : wpAny (model prog w) A (compareOp .Is a b) Q E s := wpAny_is_plain hp (by rw [e]; exact k)
theorem isn_t {a b : Value} {Q : Value → Shared → Prop} {s : Shared} (hp : plainIs a b = true) (e : (a == b) = true) (k : Q (.bool false) s) : wpAny (model prog w) A (compareOp .IsNot a b) Q E s := wpAny_isNot_plain hp (by rw [e]; exact k)
theorem isn_f {a b : Value} {Q : Value → Shared → Prop} {s : Shared} (hp : plainIs a b = true) (e : (a == b) = false) (k : Q (.bool true) s) : wpAny (model prog w) A (compareOp .IsNot a b) Q E s := wpAny_isNot_plain hp (by rw [e]; exact k)
def isK (w : World) (prog : Program) (kvs : List (Str × Value)) : OP := fun o => o.IsDictOf (strKind prog w) kvs
theorem dict_at {a : Addr} {kvs : List (Str × Value)} : h.DictOf (strKind prog w) a kvs ↔ At h a (isK w prog kvs) :=
  ⟨fun x => let ⟨o, e, p⟩ := Heap.dictOf_iff.mp x; ⟨o, e, p⟩, fun ⟨o, e, p⟩ => Heap.dictOf_iff.mpr ⟨o, e, p⟩⟩
theorem s_key {a : Addr} {kvs : List (Str × Value)} {x : Str} {u : Tok} {v : Value} {value slice : Expr} {Q : Value → Shared → Prop} (hx : At h a (isK w prog kvs)) (hl : valueAt kvs x = some v) (k : ∀ t', Q v ⟨h, g, d, t', os⟩)
    (hs : subscripted slice false (.ref a) (.str x u) = operate [.ref a, .str x u] (getItem (.ref a) (.str x u)) := by with_unfolding_all rfl) : wpAny (model prog w) A (subscriptTail value slice (.ref a) (.str x u)) Q E ⟨h, g, d, t, os⟩ :=
  have hm := (dict_at.mpr hx).mapOf
  tail_any hm.typeIs slot_dict_getitem.lookup (wpAny_getItem_of (strKind_is prog w x u) hm hl (k _)) hs
theorem k_set {a : Addr} {kvs : List (Str × Value)} {x : Str} {u : Tok} {v : Value} {Q : Unit → Shared → Prop} (S : St h₀ W V own h) (up : Upd1 a (isK w prog kvs) (isK w prog (stored kvs x v)) own own') (hz : kvs.length ≤ sizeLine) (k : ∀ h' t', St h₀ W V own' h' → Q () ⟨h', g, d, t', os⟩) :
    wpAny (model prog w) A (setItem (.ref a) (.str x u) v) Q E ⟨h, g, d, t, os⟩ :=
  wpAny_setItem_pairs (strKind_is prog w x u) (dict_at.mpr (S.get up.mem)) (fun h' hd s => k _ _ (S.upd up s (dict_at.mp hd))) hz
end
local macro_rules | `(tactic| wtm_at "v_rm") => `(tactic| ((repeat (first | with_reducible apply Room.deeper | with_reducible apply Room.in1)); exact Room.mono (by assumption) (by omega)))
inductive T where
  | nil
  | node (l : T) (k : Int) (r : T)
  deriving DecidableEq
def T.size : T → Nat
  | .nil => 0
  | .node l _ r => l.size + r.size + 1
def T.high : T → Nat
  | .nil => 0
  | .node l _ r => max l.high r.high + 1
def T.keys : T → List Int
  | .nil => []
  | .node l k r => l.keys ++ [k] ++ r.keys
def isAttr (V : Heap) (a : Addr) (nm : Str) (dfl : Value) (ini : Bool) : Prop := ∃ da u1 u2, At V a (isI 313 da) ∧ At V da (isD [("name", .str nm u1), ("default", dfl), ("validator", .none), ("eq", .bool true), ("eq_key", .none), ("order", .bool true), ("order_key", .none), ("init", .bool ini), ("converter", .none), ("kw_only", .bool false), ("inherited", .bool false), ("on_setattr", .none), ("alias", .str nm u2), ("alias_is_default", .bool true)])
theorem isAttr.keeps {V V' : Heap} {a : Addr} {nm : Str} {dfl : Value} {ini : Bool} (x : isAttr V a nm dfl ini) (k : V.StaysIn V') : isAttr V' a nm dfl ini :=
  let ⟨da, u1, u2, p, q⟩ := x; ⟨da, u1, u2, p.keeps k, q.keeps k⟩
structure KD (V : Heap) (kd : Addr) : Prop where
  ex : ∃ kdd mr ta le lo a0 a1 a2 a3 fa fd u0, At V kd (isI 142 kdd) ∧ At V kdd (isD [("name", .str "Node" u0), ("mro", .ref mr), ("attrs", .ref ta), ("eq_attrs", .ref le), ("order_attrs", .ref lo)]) ∧
    At V mr (isL [.ref kd]) ∧ At V ta (isT [.ref a0, .ref a1, .ref a2, .ref a3]) ∧ At V le (isL [.ref a0, .ref a1, .ref a2, .ref a3]) ∧
    isAttr V a0 "key" (.ref 70) true ∧ isAttr V a1 "left" .none true ∧ isAttr V a2 "right" .none true ∧ isAttr V a3 "size" (.ref fa) false ∧
    At V fa (isI 370 fd) ∧ At V fd (isD [("factory", .ref 517), ("takes_self", .bool true)])
theorem KD.via {V V' : Heap} {kd : Addr} (k : V.StaysIn V') (x : KD V kd) : KD V' kd := by
  obtain ⟨kdd, mr, ta, le, lo, a0, a1, a2, a3, fa, fd, u0, h1, h2, h3, h4, h5, h6, h7, h8, h9, h10, h11⟩ := x
  exact ⟨kdd, mr, ta, le, lo, a0, a1, a2, a3, fa, fd, u0, h1.keeps k, h2.keeps k, h3.keeps k, h4.keeps k, h5.keeps k, h6.keeps k, h7.keeps k, h8.keeps k, h9.keeps k, h10.keeps k, h11.keeps k⟩
def isNode (w : World) (prog : Program) (V : Heap) (kd a : Addr) (k : Int) (lv rv : Value) (n : Int) : Prop := ∃ da hh u1 u2, At V a (isI 213 da) ∧ At V da (isD [("kind", .ref kd), ("held", .ref hh)]) ∧ At V hh (isK w prog [("key", .int k u1), ("left", lv), ("right", rv), ("size", .int n u2)])
theorem isNode.keeps {w : World} {prog : Program} {V V' : Heap} {kd a : Addr} {k n : Int} {lv rv : Value} (x : isNode w prog V kd a k lv rv n) (s : V.StaysIn V') : isNode w prog V' kd a k lv rv n :=
  let ⟨da, hh, u1, u2, p, q, r⟩ := x; ⟨da, hh, u1, u2, p.keeps s, q.keeps s, r.keeps s⟩
inductive Tree (w : World) (prog : Program) (V : Heap) (kd : Addr) : Value → T → Prop
  | nil : Tree w prog V kd .none .nil
  | node {a : Addr} {k : Int} {lv rv : Value} {l r : T} : isNode w prog V kd a k lv rv ((T.node l k r).size) → Tree w prog V kd lv l → Tree w prog V kd rv r → Tree w prog V kd (.ref a) (.node l k r)
theorem Tree.via {w : World} {prog : Program} {V V' : Heap} {kd : Addr} {v : Value} {t : T} (s : V.StaysIn V') (x : Tree w prog V kd v t) : Tree w prog V' kd v t := by
  induction x with
  | nil => exact .nil
  | node h _ _ i j => exact .node (h.keeps s) i j
inductive Plain (V : Heap) : Value → T → Prop
  | nil : Plain V .none .nil
  | node {a : Addr} {k : Int} {u : Tok} {lv rv : Value} {l r : T} : At V a (isT [.int k u, lv, rv]) → Plain V lv l → Plain V rv r → Plain V (.ref a) (.node l k r)
theorem Plain.via {V V' : Heap} {v : Value} {t : T} (s : V.StaysIn V') (x : Plain V v t) : Plain V' v t := by
  induction x with
  | nil => exact .nil
  | node h _ _ i j => exact .node (h.keeps s) i j
inductive Tab (w : World) (prog : Program) (V : Heap) : Value → T → Prop
  | nil : Tab w prog V .none .nil
  | node {a : Addr} {k n : Int} {u1 u2 : Tok} {lv rv : Value} {l r : T} : At V a (isK w prog [("key", .int k u1), ("left", lv), ("right", rv), ("size", .int n u2)]) → (a == sysModules) = false → n = (T.node l k r).size → Tab w prog V lv l → Tab w prog V rv r → Tab w prog V (.ref a) (.node l k r)
theorem Tab.via {w : World} {prog : Program} {V V' : Heap} {v : Value} {t : T} (s : V.StaysIn V') (x : Tab w prog V v t) : Tab w prog V' v t := by
  induction x with
  | nil => exact .nil
  | node h hs e _ _ i j => exact .node (h.keeps s) hs e i j
local macro_rules | `(tactic| wtm_at "v_up") => `(tactic| first
  | with_reducible assumption
  | ((with_reducible show Tree _ _ _ _ _ _); exact Tree.via (by with_reducible assumption) (by wtm_at "v_up"))
  | ((with_reducible show Plain _ _ _); exact Plain.via (by with_reducible assumption) (by wtm_at "v_up"))
  | ((with_reducible show Tab _ _ _ _ _); exact Tab.via (by with_reducible assumption) (by wtm_at "v_up"))
  | ((with_reducible show KD _ _); exact KD.via (by with_reducible assumption) (by wtm_at "v_up")))
section
variable {prog : Program} {w : World} {A : Around} {E : Value → Shared → Prop} {h₀ W V h : Heap} {own own' : List (Addr × OP)} {g : Array GenState} {d : Drawn} {t : Nat} {os : OsState} {env : Env} {mg mb : Str → Option Value}
theorem St.forget {f : Addr × OP} {it : Addr} {φ : OP} {h' : Heap} (S : St h₀ W V (f :: (it, φ) :: own) h) (k : Heap.ExtBut it h h') : St h₀ W V (f :: own) h' := by
  have hi := S.has (it, φ) (.tail _ (.head _))
  have nd := S.nd
  simp only [List.map_cons, List.nodup_cons, List.mem_cons, not_or] at nd
  refine ⟨fun b o e => ?_, S.sub, S.old, fun b o e => ?_, fun p hp => ?_, ?_⟩
  · exact k b o (by rintro rfl; rw [hi.2.2] at e; cases e) (S.ext b o e)
  · exact k b o (by rintro rfl; rw [hi.2.1] at e; cases e) (S.le b o e)
  · have hp' : p ∈ f :: (it, φ) :: own := by
      rcases List.mem_cons.mp hp with rfl | hp
      · exact .head _
      · exact .tail _ (.tail _ hp)
    have z := S.has p hp'
    refine ⟨?_, z.2⟩
    obtain ⟨o, e, q⟩ := z.1
    refine ⟨o, k _ _ ?_ e, q⟩
    rcases List.mem_cons.mp hp with rfl | hp
    · exact nd.1.1
    · exact fun z => nd.2.1 (z ▸ List.mem_map_of_mem (f := (·.1)) hp)
  · simp only [List.map_cons, List.nodup_cons]; exact ⟨nd.1.2, nd.2.2⟩
def Turn (h₀ W : Heap) (g : Array GenState) (d : Drawn) (os : OsState) (L it : Addr) (isI : Nat → OP) (Inv : Nat → Heap → (Str → Option Value) → List (Addr × OP) → Prop) (R : Flow → Shared → Prop) (i : Nat) (V : Heap) (f : Flow) (s : Shared) : Prop :=
  match f with
  | .brk => R .next s
  | .ret v => R (.ret v) s
  | _ => ∃ V' m own h t, s = ⟨h, g, d, t, os⟩ ∧ St h₀ W V' ((L, isNs m) :: (it, isI (i + 1)) :: own) h ∧ V.StaysIn V' ∧ Inv (i + 1) V' m own
theorem Turn.next {L it : Addr} {isI : Nat → OP} {Inv : Nat → Heap → (Str → Option Value) → List (Addr × OP) → Prop} {R : Flow → Shared → Prop} {i : Nat} {V' : Heap} {m : Str → Option Value} (S : St h₀ W V' ((L, isNs m) :: (it, isI (i + 1)) :: own) h) (hv : V.StaysIn V') (k : Inv (i + 1) V' m own) :
    Turn h₀ W g d os L it isI Inv R i V .next ⟨h, g, d, t, os⟩ := ⟨V', m, own, h, t, rfl, S, hv, k⟩
theorem Turn.cont {L it : Addr} {isI : Nat → OP} {Inv : Nat → Heap → (Str → Option Value) → List (Addr × OP) → Prop} {R : Flow → Shared → Prop} {i : Nat} {V' : Heap} {m : Str → Option Value} (S : St h₀ W V' ((L, isNs m) :: (it, isI (i + 1)) :: own) h) (hv : V.StaysIn V') (k : Inv (i + 1) V' m own) :
    Turn h₀ W g d os L it isI Inv R i V .cont ⟨h, g, d, t, os⟩ := ⟨V', m, own, h, t, rfl, S, hv, k⟩
theorem Turn.ret {L it : Addr} {isI : Nat → OP} {Inv : Nat → Heap → (Str → Option Value) → List (Addr × OP) → Prop} {R : Flow → Shared → Prop} {i : Nat} {v : Value} {s : Shared} (k : R (.ret v) s) :
    Turn h₀ W g d os L it isI Inv R i V (.ret v) s := k
theorem x_for {target iter : Expr} {body orelse : List Stmt} {pos : Pos} {Q : Flow → Shared → Prop} {s : Shared}
    (x : wpAny (model prog w) A (eval iter env) (fun x s₁ => wpAny (model prog w) A (pyIter x) (fun it s₂ => codeAny (model prog w) A (.forLoop target it body orelse env) (fun r s' => match r with | .ok f => Q f s' | .error e => cameBackBy (model prog w) A env E e s') s₂) E s₁) E s)
    (hs : ∀ x, foldedSetIterable iter env x = pure x := by intro _; rfl) : wpAny (model prog w) A (exec (.For target iter body orelse pos) env) Q E s := wpAny_For x hs
theorem f_core {target : Expr} {body : List Stmt} {L it : Addr} {isI : Nat → OP} {m : Str → Option Value} {n : Nat} {item : Nat → Value → Heap → Heap → Prop} {Q : Flow → Shared → Prop} {E' : Value → Shared → Prop} (S : St h₀ W V ((L, isNs m) :: (it, isI 0) :: own) h)
    (nitem : ∀ i V' m own h g d t os (Q : Option Value → Shared → Prop), i < n → V.StaysIn V' → St h₀ W V' ((L, isNs m) :: (it, isI i) :: own) h → (∀ x V'' h' t', St h₀ W V'' ((L, isNs m) :: (it, isI (i + 1)) :: own) h' → V'.StaysIn V'' → item i x V' V'' → Q (some x) ⟨h', g, d, t', os⟩) → wpAny (model prog w) A (pyNext (.ref it)) Q (fun _ _ => False) ⟨h, g, d, t, os⟩)
    (nend : ∀ V' m own h g d t os (Q : Option Value → Shared → Prop), V.StaysIn V' → St h₀ W V' ((L, isNs m) :: (it, isI n) :: own) h → (∀ h' t', St h₀ W V' ((L, isNs m) :: own) h' → Q none ⟨h', g, d, t', os⟩) → wpAny (model prog w) A (pyNext (.ref it)) Q (fun _ _ => False) ⟨h, g, d, t, os⟩)
    (Inv : Nat → Heap → (Str → Option Value) → List (Addr × OP) → Prop) (i0 : Inv 0 V m own)
    (turn : ∀ i x V' V'' m own h t, i < n → V.StaysIn V' → Inv i V' m own → V'.StaysIn V'' → item i x V' V'' → St h₀ W V'' ((L, isNs m) :: (it, isI (i + 1)) :: own) h →
      wpAny (model prog w) A (assign target env x) (fun _ s => wpAny (model prog w) A (execs body env) (Turn h₀ W g d os L it isI Inv Q i V') (fun _ _ => False) s) (fun _ _ => False) ⟨h, g, d, t, os⟩)
    (fin : ∀ V' m own h t, V.StaysIn V' → Inv n V' m own → St h₀ W V' ((L, isNs m) :: own) h → Q .next ⟨h, g, d, t, os⟩)
    (ht : ∀ v, letOwnedTupleGo target (.ref it) v = pure ()) : codeAny (model prog w) A (.forLoop target (.ref it) body [] env) (fun r s' => match r with | .ok f => Q f s' | .error e => E' e s') ⟨h, g, d, t, os⟩ := by
  refine codeAny_forLoop (I := fun k s => ∃ i V' m own h t, k + i = n ∧ s = ⟨h, g, d, t, os⟩ ∧ V.StaysIn V' ∧ Inv i V' m own ∧ St h₀ W V' ((L, isNs m) :: (it, isI i) :: own) h) ?_ n ⟨0, V, m, own, h, t, by omega, rfl, stays_refl _, i0, S⟩ ht
  rintro k s ⟨i, V', m, own, h, t, hk, rfl, hv, hI, S⟩
  cases k with
  | zero =>
    have : i = n := by omega
    subst this
    refine wpAny_mono (nend V' m own h g d t os (fun r s' => match r with | none => wpAny (model prog w) A (execs [] env) (fun f s₃ => (match (Except.ok f : Result) with | .ok f => Q f s₃ | .error e => E' e s₃)) (notedBy (model prog w) A env fun e s' => (match (Except.error e : Result) with | .ok f => Q f s' | .error e => E' e s')) s' | some _ => False) hv S fun h' t' S' => ?_) (fun r s' q => ?_) fun _ _ q => q.elim
    · exact wpAny_execs_nil (fin V' m own h' t' hv hI S')
    · cases r with
      | none => exact q
      | some _ => exact q.elim
  | succ k =>
    have hi : i < n := by omega
    refine wpAny_mono (nitem i V' m own h g d t os (fun r s' => match r with | none => False | some x => wpAny (model prog w) A (assign target env x) (fun _ s => wpAny (model prog w) A (execs body env) (Turn h₀ W g d os L it isI Inv Q i V') (fun _ _ => False) s) (fun _ _ => False) s') hi hv S fun x V'' h' t' S' hv' hx => turn i x V' V'' m own h' t' hi hv hI hv' hx S') (fun r s' q => ?_) fun _ _ q => q.elim
    cases r with
    | none => exact q.elim
    | some x =>
      refine wpAny_mono q (fun _ s₂ q₂ => wpAny_mono q₂ (fun f s₃ q₃ => ?_) fun _ _ z => z.elim) fun _ _ z => z.elim
      cases f with
      | next =>
        obtain ⟨V₃, m₃, own₃, h₃, t₃, rfl, S₃, hv₃, hI₃⟩ := q₃
        exact ⟨k, Nat.lt_succ_self _, i + 1, V₃, m₃, own₃, h₃, t₃, by omega, rfl, stays_trans hv hv₃, hI₃, S₃⟩
      | cont =>
        obtain ⟨V₃, m₃, own₃, h₃, t₃, rfl, S₃, hv₃, hI₃⟩ := q₃
        exact ⟨k, Nat.lt_succ_self _, i + 1, V₃, m₃, own₃, h₃, t₃, by omega, rfl, stays_trans hv hv₃, hI₃, S₃⟩
      | brk => exact q₃
      | ret v => exact q₃
def isLI (l : Addr) (i : Nat) : OP := fun o => o.cls = .type "list_iterator" ∧ o.data = .fields #[.ref l, .int i 0]
def isTI (l : Addr) (i : Nat) : OP := fun o => o.cls = .type "tuple_iterator" ∧ o.data = .fields #[.ref l, .int i 0]
theorem li_at {it l : Addr} {i : Nat} : h.IsListIter it l i ↔ At h it (isLI l i) :=
  ⟨fun ⟨o, e, p⟩ => ⟨o, e, p⟩, fun ⟨o, e, p⟩ => ⟨o, e, p⟩⟩
theorem ti_at {it l : Addr} {i : Nat} : h.IsTupleIter it l i ↔ At h it (isTI l i) :=
  ⟨fun ⟨o, e, p⟩ => ⟨o, e, p⟩, fun ⟨o, e, p⟩ => ⟨o, e, p⟩⟩
theorem f_list {target : Expr} {body : List Stmt} {L l : Addr} {xs : List Value} {m : Str → Option Value} {Q : Flow → Shared → Prop} {E' : Value → Shared → Prop} (S : St h₀ W V ((L, isNs m) :: own) h) (hl : At V l (isLw xs)) (hh : A.handled = none)
    (Inv : Nat → Heap → (Str → Option Value) → List (Addr × OP) → Prop) (i0 : Inv 0 V m own)
    (turn : ∀ it i x V' m own h t, xs[i]? = some x → V.StaysIn V' → Inv i V' m own → St h₀ W V' ((L, isNs m) :: (it, isLI l (i + 1)) :: own) h →
      wpAny (model prog w) A (assign target env x) (fun _ s => wpAny (model prog w) A (execs body env) (Turn h₀ W g d os L it (isLI l) Inv Q i V') (fun _ _ => False) s) (fun _ _ => False) ⟨h, g, d, t, os⟩)
    (fin : ∀ V' m own h t, V.StaysIn V' → Inv xs.length V' m own → St h₀ W V' ((L, isNs m) :: own) h → Q .next ⟨h, g, d, t, os⟩)
    (ht : ∀ r v, letOwnedTupleGo target (.ref r) v = pure () := by intro _ _; rfl) :
    wpAny (model prog w) A (pyIter (.ref l)) (fun it s₂ => codeAny (model prog w) A (.forLoop target it body [] env) (fun r s' => match r with | .ok f => Q f s' | .error e => E' e s') s₂) E ⟨h, g, d, t, os⟩ := by
  refine wpAny_pyIter_list (list_at.mpr (S.view hl)) ?_
  refine f_core (n := xs.length) (item := fun i x V' V'' => xs[i]? = some x ∧ V'' = V') (isI := isLI l) (S.push2 _ rfl ⟨rfl, rfl⟩) ?_ ?_ Inv i0 (fun i x V' V'' m own h t hi hv hI hv' hx S' => by obtain ⟨hx, rfl⟩ := hx; exact turn _ i x _ m own h t hx hv hI S') fin (ht _)
  · intro i V' m own h g d t os Q hi hv S k
    have hx : xs.toArray[i]? = some xs[i] := by simp [hi]
    refine wpAny_pyNext_list_item (li_at.mpr (S.get (.tail _ (.head _)))) (list_at.mpr (S.view (hl.keeps hv))) hx fun h' q s => ?_
    exact k _ V' h' _ (S.upd (.tail .head) s (li_at.mp q)) (stays_refl _) ⟨by simp [hi], rfl⟩
  · intro V' m own h g d t os Q hv S k
    refine wpAny_pyNext_list_end hh (li_at.mpr (S.get (.tail _ (.head _)))) (list_at.mpr (S.view (hl.keeps hv))) (by simp) fun h' q => ?_
    exact k h' _ (S.forget q)
theorem f_tup {target : Expr} {body : List Stmt} {L l : Addr} {xs : List Value} {m : Str → Option Value} {Q : Flow → Shared → Prop} {E' : Value → Shared → Prop} (S : St h₀ W V ((L, isNs m) :: own) h) (hl : At V l (isT xs)) (hh : A.handled = none)
    (Inv : Nat → Heap → (Str → Option Value) → List (Addr × OP) → Prop) (i0 : Inv 0 V m own)
    (turn : ∀ it i x V' m own h t, xs[i]? = some x → V.StaysIn V' → Inv i V' m own → St h₀ W V' ((L, isNs m) :: (it, isTI l (i + 1)) :: own) h →
      wpAny (model prog w) A (assign target env x) (fun _ s => wpAny (model prog w) A (execs body env) (Turn h₀ W g d os L it (isTI l) Inv Q i V') (fun _ _ => False) s) (fun _ _ => False) ⟨h, g, d, t, os⟩)
    (fin : ∀ V' m own h t, V.StaysIn V' → Inv xs.length V' m own → St h₀ W V' ((L, isNs m) :: own) h → Q .next ⟨h, g, d, t, os⟩)
    (ht : ∀ r v, letOwnedTupleGo target (.ref r) v = pure () := by intro _ _; rfl) :
    wpAny (model prog w) A (pyIter (.ref l)) (fun it s₂ => codeAny (model prog w) A (.forLoop target it body [] env) (fun r s' => match r with | .ok f => Q f s' | .error e => E' e s') s₂) E ⟨h, g, d, t, os⟩ := by
  refine wpAny_pyIter_tuple (tup_at.mpr (S.view hl)) ?_
  refine f_core (n := xs.length) (item := fun i x V' V'' => xs[i]? = some x ∧ V'' = V') (isI := isTI l) (S.push2 _ rfl ⟨rfl, rfl⟩) ?_ ?_ Inv i0 (fun i x V' V'' m own h t hi hv hI hv' hx S' => by obtain ⟨hx, rfl⟩ := hx; exact turn _ i x _ m own h t hx hv hI S') fin (ht _)
  · intro i V' m own h g d t os Q hi hv S k
    have hx : xs.toArray[i]? = some xs[i] := by simp [hi]
    refine wpAny_pyNext_tuple_item (ti_at.mpr (S.get (.tail _ (.head _)))) (tup_at.mpr (S.view (hl.keeps hv))) hx fun h' q s => ?_
    exact k _ V' h' _ (S.upd (.tail .head) s (ti_at.mp q)) (stays_refl _) ⟨by simp [hi], rfl⟩
  · intro V' m own h g d t os Q hv S k
    refine wpAny_pyNext_tuple_end hh (ti_at.mpr (S.get (.tail _ (.head _)))) (tup_at.mpr (S.view (hl.keeps hv))) (by simp) fun h' q => ?_
    exact k h' _ (S.forget q)
end
section
variable {prog : Program} {w : World} {A : Around} {E : Value → Shared → Prop} {h₀ W V h : Heap} {own own' : List (Addr × OP)} {g : Array GenState} {d : Drawn} {t : Nat} {os : OsState} {env : Env} {mg mb : Str → Option Value}
theorem s_titem {l : Addr} {xs : List Value} {k : Int} {u : Tok} {j : Nat} {y : Value} {value slice : Expr} {Q : Value → Shared → Prop} (x : At h l (isT xs)) (hlo : -(2 ^ 63) ≤ k) (hf : k < 2 ^ 63) (hj : seqIndex? k xs.length = some j) (hx : xs[j]? = some y) (q : Q y ⟨h, g, d, t, os⟩)
    (hs : subscripted slice false (.ref l) (.int k u) = operate [.ref l, .int k u] (getItem (.ref l) (.int k u)) := by with_unfolding_all rfl) :
    wpAny (model prog w) A (subscriptTail value slice (.ref l) (.int k u)) Q E ⟨h, g, d, t, os⟩ := item_tupleT (tup_at.mpr x) hlo hf hj hx q hs
theorem c_eqi {a b : Int} {u v : Tok} {Q : Value → Shared → Prop} {s : Shared} (k : Q (.bool (decide (a = b))) s) : wpAny (model prog w) A (compareOp .Eq (.int a u) (.int b v)) Q E s :=
  PyProof.Rows.eq_int (by rw [show (a == b) = decide (a = b) from rfl]; exact k)
theorem c_nei {a b : Int} {u v : Tok} {Q : Value → Shared → Prop} {s : Shared} (k : Q (.bool (decide (a ≠ b))) s) : wpAny (model prog w) A (compareOp .NotEq (.int a u) (.int b v)) Q E s :=
  PyProof.Rows.ne_int (by rw [show (a != b) = decide (a ≠ b) from by by_cases h : a = b <;> simp [h]]; exact k)
theorem c_lti {a b : Int} {u v : Tok} {Q : Value → Shared → Prop} {s : Shared} (k : Q (.bool (decide (a < b))) s) : wpAny (model prog w) A (compareOp .Lt (.int a u) (.int b v)) Q E s := PyProof.Rows.lt_int k
theorem c_gti {a b : Int} {u v : Tok} {Q : Value → Shared → Prop} {s : Shared} (k : Q (.bool (decide (b < a))) s) : wpAny (model prog w) A (compareOp .Gt (.int a u) (.int b v)) Q E s := PyProof.Rows.gt_int k
theorem l_add {f : Addr × OP} {a b : Addr} {xs ys : List Value} {Q : Value → Shared → Prop} (S : St h₀ W V (f :: own) h) (x : At h a (isL xs)) (y : At h b (isL ys)) (hz : xs.length + ys.length ≤ sizeLine) (k : ∀ c h', St h₀ W V (f :: (c, isL (xs ++ ys)) :: own) h' → Q (.ref c) ⟨h', g, d, t, os⟩) :
    wpAny (model prog w) A (binaryOp .Add (.ref a) (.ref b)) Q E ⟨h, g, d, t, os⟩ := by
  obtain ⟨o, e, n, rfl⟩ := x
  obtain ⟨o', e', n', rfl⟩ := y
  refine PySem.P.add_list (s := ⟨h, g, d, t, os⟩) e e' (k _ _ (S.push2 _ rfl ⟨0, ?_⟩)) (by simpa using hz)
  simp
theorem new_sys {P : Params} (X : WF P mg mb V) (le : V.StaysIn h) : (h.objs.size == sysModules) = false :=
  beq_eq_false_iff_ne.mpr fun e => absurd (modules_low (X.nl.keeps le)) (by rw [e]; exact Nat.lt_irrefl _)
theorem k_new {f : Addr × OP} {n : Nat} (S : St h₀ W V (f :: own) h) : St h₀ W V (f :: (h.objs.size, isK w prog []) :: own) (h.push { cls := .type "dict", data := .dict #[] n }) := by
  refine S.push2 _ rfl ?_
  exact ⟨#[], n, ⟨rfl, rfl, rfl⟩, rfl, fun _ he => by simp at he, Pairs.nil, List.nodup_nil⟩
def Filled (prog : Program) (w : World) (h₀ W : Heap) (a : Addr) (Q : Value → Shared → Prop) (vs : List (Value × Value)) (s : Shared) : Prop :=
  ∃ V h own own' kvs, s.heap = h ∧ Carries (strKind prog w) vs kvs ∧ St h₀ W V own h ∧ Upd1 a (isK w prog []) (isK w prog (merged [] kvs)) own own' ∧ ∀ h' t', St h₀ W V own' h' → Q (.ref a) ⟨h', s.gens, s.drawn, t', s.os⟩
theorem Filled.mk {a : Addr} {Q : Value → Shared → Prop} {vs : List (Value × Value)} {kvs : List (Str × Value)} (S : St h₀ W V own h) (hc : Carries (strKind prog w) vs kvs) (u : Upd1 a (isK w prog []) (isK w prog kvs) own own') (e : merged [] kvs = kvs)
    (k : ∀ h' t', St h₀ W V own' h' → Q (.ref a) ⟨h', g, d, t', os⟩) : Filled prog w h₀ W a Q vs ⟨h, g, d, t, os⟩ := ⟨V, h, own, own', kvs, rfl, hc, S, by rw [e]; exact u, k⟩
theorem e_dict {f : Addr × OP} {keys : List (Option Expr)} {values : List Expr} {pos : Pos} {pairs : List (Sem Value × Sem Value)} {Q : Value → Shared → Prop} (S : St h₀ W V (f :: own) h) (X : WF w.params mg mb V)
    (hshape : (evalEachOpt keys env).zip ((evalEach values env).map fun v => do let x ← v; standAt pos; pure x) = pairs.map fun p => (some p.1, p.2)) (h0 : pairs ≠ []) (hlen : pairs.length ≤ 15)
    (k : ∀ a h', (a == sysModules) = false → St h₀ W V (f :: (a, isK w prog []) :: own) h' → wpAny (model prog w) A (evalPairs pairs) (Filled prog w h₀ W a Q) E ⟨h', g, d, t, os⟩) : wpAny (model prog w) A (eval (.Dict keys values pos) env) Q E ⟨h, g, d, t, os⟩ := by
  refine wpAny_Dict_pairs (knd := strKind prog w) hshape h0 hlen (wpAny_mono (k _ _ (new_sys X S.le) (k_new S)) (fun vs s₁ q => ?_) fun _ _ e => e)
  obtain ⟨V', h₁, own₁, own', kvs, e, hc, S', u, k'⟩ := q
  obtain ⟨h₂, g₂, d₂, t₂, os₂⟩ := s₁
  cases e
  exact ⟨kvs, hc, dict_at.mpr (S'.get u.mem), fun h' hd hs => k' h' _ (S'.upd u hs (dict_at.mp hd))⟩
theorem e_dict4 {f : Addr × OP} {k1 k2 k3 k4 v1 v2 v3 v4 : Expr} {pos : Pos} {Q : Value → Shared → Prop} (S : St h₀ W V (f :: own) h) (X : WF w.params mg mb V)
    (k : ∀ a h', (a == sysModules) = false → St h₀ W V (f :: (a, isK w prog []) :: own) h' → wpAny (model prog w) A (evalPairs [(eval k1 env, do let x ← eval v1 env; standAt pos; pure x), (eval k2 env, do let x ← eval v2 env; standAt pos; pure x), (eval k3 env, do let x ← eval v3 env; standAt pos; pure x), (eval k4 env, do let x ← eval v4 env; standAt pos; pure x)]) (Filled prog w h₀ W a Q) E ⟨h', g, d, t, os⟩) :
    wpAny (model prog w) A (eval (.Dict [some k1, some k2, some k3, some k4] [v1, v2, v3, v4] pos) env) Q E ⟨h, g, d, t, os⟩ :=
  e_dict S X (pairs := [(eval k1 env, do let x ← eval v1 env; standAt pos; pure x), (eval k2 env, do let x ← eval v2 env; standAt pos; pure x), (eval k3 env, do let x ← eval v3 env; standAt pos; pure x), (eval k4 env, do let x ← eval v4 env; standAt pos; pure x)]) rfl (by simp) (by simp) k
theorem ep_nil {Q : List (Value × Value) → Shared → Prop} {s : Shared} (x : Q [] s) : wpAny (model prog w) A (evalPairs []) Q E s := wpAny_pure x
theorem ep_cons {k v : Sem Value} {rest : List (Sem Value × Sem Value)} {pos : Pos} {Q : List (Value × Value) → Shared → Prop} {s : Shared}
    (x : wpAny (model prog w) A k (fun kv s₁ => wpAny (model prog w) A v (fun vv s₂ => wpAny (model prog w) A (evalPairs rest) (fun l s₃ => Q ((kv, vv) :: l) s₃) E s₂) E s₁) E s) : wpAny (model prog w) A (evalPairs ((k, (do let x ← v; standAt pos; pure x)) :: rest)) Q E s := by
  unfold evalPairs
  refine wpAny_bind (wpAny_mono x (fun kv s₁ h₁ => wpAny_bind (wpAny_holding (wpAny_bind (wpAny_mono h₁ (fun vv s₂ h₂ => wpAny_bind (wpAny_standAt (wpAny_pure ?_))) fun _ _ e => e)))) fun _ _ e => e)
  exact wpAny_bind (wpAny_holding (wpAny_mono h₂ (fun l s₃ h₃ => wpAny_pure h₃) fun _ _ e => e))
theorem c_len {a : Addr} {xs : List Value} {Q : Value → Shared → Prop} (x : At h a (isLw xs)) (hz : xs.length < 2 ^ 63) (k : ∀ u t', Q (.int xs.length u) ⟨h, g, d, t', os⟩) : wpAny (model prog w) A (call (.builtin "len") [.ref a]) Q E ⟨h, g, d, t, os⟩ :=
  PyProof.Rows.len_list (list_at.mpr x) (by rw [List.size_toArray]; omega) (by rw [List.size_toArray]; exact k _ _)
end
theorem if_of_tt {b : Bool} {p q : Prop} (h : b = true) (x : p) : if b = true then p else q := by rw [if_pos h]; exact x
theorem if_of_ff {b : Bool} {p q : Prop} (h : b = false) (x : q) : if b = true then p else q := by rw [if_neg (by rw [h]; decide)]; exact x
theorem Way.of_tt {prog : Program} {w : World} {A : Around} {env : Env} {E : Value → Shared → Prop} {body orelse : List Stmt} {Q : Flow → Shared → Prop} {s : Shared} {b : Bool} (h : b = true) (x : wpAny (model prog w) A (execs body env) Q E s) : Way prog w A body orelse env Q E b s := by subst h; exact x
theorem Way.of_ff {prog : Program} {w : World} {A : Around} {env : Env} {E : Value → Shared → Prop} {body orelse : List Stmt} {Q : Flow → Shared → Prop} {s : Shared} {b : Bool} (h : b = false) (x : wpAny (model prog w) A (execs orelse env) Q E s) : Way prog w A body orelse env Q E b s := by subst h; exact x
local macro_rules | `(tactic| wtm_at "v_call") => `(tactic| fail "v_call: no contract")
local macro_rules | `(tactic| wtm_at "v_name") => `(tactic| ((with_reducible rename St _ _ _ _ _ => S'); first
  | refine e_loc S' (by first | rfl | assumption) ?_
  | refine e_glob S' (by wtm_at "v_wf") (by k_is) ?_
  | refine e_bui S' (by wtm_at "v_wf") (by k_is) (by boot_by_name) ?_))
local macro_rules | `(tactic| wtm_at "v_eval") => `(tactic| first
  | ((with_reducible show wpAny _ _ (eval (Expr.Name _ _) _) _ _ _); wtm_at "v_name")
  | ((with_reducible refine e_str ?_); intro t)
  | ((with_reducible refine e_int ?_); intro t)
  | with_reducible refine e_none ?_
  | with_reducible refine e_bool ?_
  | with_reducible refine e_sub ?_
  | ((with_reducible show wpAny _ _ (eval (Expr.Attribute _ _ _) _) _ _ _); refine e_attr ?_)
  | ((with_reducible show wpAny _ _ (eval (Expr.Call (Expr.Name _ _) _ [] _) _) _ _ _); with_reducible refine e_call ?_ (he := by with_unfolding_all rfl))
  | ((with_reducible show wpAny _ _ (eval (Expr.Call (Expr.Attribute _ _ _) _ [] _) _) _ _ _); refine e_meth ?_)
  | with_reducible refine e_bin ?_
  | ((with_reducible show wpAny _ _ (eval (Expr.Compare _ _ _ _) _) _ _ _); refine e_cmp ?_)
  | with_reducible refine e_if ?_
  | with_reducible refine e_tup ?_
  | with_reducible refine e_list ?_
  | ((with_reducible show wpAny _ _ (eval (Expr.Dict (_ :: _ :: _ :: _ :: []) _ _) _) _ _ _); (with_reducible rename St _ _ _ _ _ => S'); refine e_dict4 S' (by wtm_at "v_wf") ?_; clear S'; intro a h hs S')
  | with_reducible refine BoolOp_one ?_
  | with_reducible refine BoolOp_and ?_
  | with_reducible refine BoolOp_or ?_)
local macro_rules | `(tactic| wtm_at "v_value") => `(tactic| first
  | ((with_reducible show wpAny _ _ (eval _ _) _ _ _); wtm_at "v_eval")
  | ((with_reducible show wpAny _ _ (getAttr (Value.ref _) _ _) _ _ _); (with_reducible rename St _ _ _ _ _ => S'); refine g_own S' (by wtm_at "v_wf") (by wtm_at "v_at") (by wtm_at "v_at") (by k_is) (by k_is) (by k_is) (by k_is) (by rfl) (by first | rfl | assumption) ?_; intro t)
  | ((with_reducible show wpAny _ _ (subscriptTail _ _ (Value.ref _) (Value.str _ _)) _ _ _); refine s_key (by wtm_at "v_at") (by first | rfl | assumption) ?_; intro t)
  | ((with_reducible show wpAny _ _ (subscriptTail _ _ (Value.ref _) (Value.int _ _)) _ _ _); first | refine s_item (by wtm_at "v_weak") (by decide) (by decide) (by rfl) ?_ | refine s_titem (by wtm_at "v_at") (by decide) (by decide) (by rfl) (by rfl) ?_)
  | with_reducible refine c_eqi ?_
  | with_reducible refine c_lti ?_
  | with_reducible refine c_gti ?_
  | with_reducible refine c_nei ?_
  | ((with_reducible show wpAny _ _ (binaryOp Operator.Add (Value.ref _) (Value.ref _)) _ _ _); (with_reducible rename St _ _ _ _ _ => S'); refine l_add S' (by wtm_at "v_at") (by wtm_at "v_at") (by wtm_at "v_size") ?_; clear S'; intro a h S')
  | ((with_reducible show wpAny _ _ (compareOp CmpOp.Is _ _) _ _ _); first | refine is_t (by rfl) (by rfl) ?_ | refine is_f (by rfl) (by rfl) ?_)
  | ((with_reducible show wpAny _ _ (compareOp CmpOp.IsNot _ _) _ _ _); first | refine isn_t (by rfl) (by rfl) ?_ | refine isn_f (by rfl) (by rfl) ?_)
  | ((with_reducible show wpAny _ _ (callWith _ (Value.ref _) _ (backTo _ (starEach (_ :: _) _)) _) _ _ _); (with_reducible rename St _ _ _ _ _ => S'); refine w_def S' (by wtm_at "v_wf") (by k_is) ?_)
  | ((with_reducible show wpAny _ _ (callWith _ (Value.ref _) _ (backTo _ (starEach [] _)) _) _ _ _); (with_reducible rename St _ _ _ _ _ => S'); refine w_def0 S' (by wtm_at "v_wf") (by k_is) ?_)
  | ((with_reducible show wpAny _ _ (callWith _ (Value.builtin _) _ (backTo _ (starEach (_ :: _) _)) _) _ _ _); with_reducible refine w_bi ?_ (he := by with_unfolding_all rfl) (hplain := by with_unfolding_all rfl))
  | ((with_reducible show wpAny _ _ (call _ (_ ++ _) _) _ _ _); dsimp only [List.nil_append, List.cons_append])
  | ((with_reducible show wpAny _ _ (call (Value.ref _) _ _) _ _ _); wtm_at "v_call")
  | ((with_reducible show wpAny _ _ (call (Value.builtin "isinstance") [Value.ref _, _] _) _ _ _); (with_reducible rename St _ _ _ _ _ => S'); refine i_own S' (by wtm_at "v_wf") (by wtm_at "v_at") (by wtm_at "v_at") (by kit_is) (by k_is) (by k_is) (by k_is) (by k_is) (by k_is) (by k_is) ?_; intro t)
  | ((with_reducible show wpAny _ _ (call (Value.builtin "isinstance") [Value.none, _] _) _ _ _); (with_reducible rename St _ _ _ _ _ => S'); refine i_none S' (by wtm_at "v_wf") (by kit_is) ?_; intro t)
  | ((with_reducible show wpAny _ _ (call (Value.builtin "list.append") _) _ _ _); (with_reducible rename St _ _ _ _ _ => S'); refine l_append S' (by wtm_at "v_upd") (by wtm_at "v_size") ?_; clear S'; intro h S')
  | ((with_reducible show wpAny _ _ (call (Value.builtin "list.pop") _) _ _ _); (with_reducible rename St _ _ _ _ _ => S'); refine l_pop0 S' (by wtm_at "v_upd") (by wtm_at "v_size") ?_; clear S'; intro h S')
  | ((with_reducible show wpAny _ _ (call (Value.builtin "len") [Value.ref _] _) _ _ _); refine c_len (by wtm_at "v_weak") (by wtm_at "v_size") ?_; intro u t)
  | ((with_reducible show wpAny _ _ (newList _) _ _ _); (with_reducible rename St _ _ _ _ _ => S'); refine n_list S' (by wtm_at "v_size") ?_; clear S'; intro a h S')
  | ((with_reducible show wpAny _ _ (newTuple _) _ _ _); (with_reducible rename St _ _ _ _ _ => S'); refine n_tup S' (by wtm_at "v_size") ?_; clear S'; intro a V h S' hv ha)
  | ((with_reducible show wpAny _ _ (binaryOp Operator.Add (Value.int _ _) (Value.int _ _)) _ _ _); with_reducible refine o_add ?_; intro t)
  | ((with_reducible show wpAny _ _ (binaryOp Operator.Sub (Value.int _ _) (Value.int _ _)) _ _ _); with_reducible refine o_sub ?_; intro t)
  | ((with_reducible show wpAny _ _ (binaryOp Operator.Mult (Value.int _ _) (Value.int _ _)) _ _ _); refine o_mul (by mul_fits) ?_; intro t)
  | ((with_reducible show wpAny _ _ (binaryOp Operator.Mod (Value.int _ _) (Value.int _ _)) _ _ _); refine o_mod (by first | decide | omega) ?_; intro t)
  | ((with_reducible show wpAny _ _ (binaryOp Operator.FloorDiv (Value.int _ _) (Value.int _ _)) _ _ _); refine o_div (by first | decide | omega) (PyProof.noPylong_small (by first | decide | omega)) ?_; intro t))
local macro_rules | `(tactic| wtm_at "v_bool") => `(tactic| first
  | with_reducible refine t_bool ?_
  | ((with_reducible show wpAny _ _ (isTrue (Expr.Compare _ _ _ _) _ _) _ _ _); refine b_cmp ?_)
  | with_reducible refine b_not ?_
  | ((with_reducible show wpAny _ _ (isTrue (Expr.BoolOp BoolOp.And _ _) _ _) _ _ _); first | with_reducible refine isTrue_and ?_ | with_reducible refine isTrue_and_nil ?_)
  | ((with_reducible show wpAny _ _ (isTrue (Expr.BoolOp BoolOp.Or _ _) _ _) _ _ _); first | with_reducible refine isTrue_or ?_ | with_reducible refine isTrue_or_nil ?_)
  | with_reducible refine isTrue_IfExp ?_
  | with_reducible refine truthy_none ?_
  | ((with_reducible show wpAny _ _ (isTrue (Expr.Name _ _) _ _) _ _ _); refine b_val ?_)
  | ((with_reducible show wpAny _ _ (isTrue (Expr.Attribute _ _ _) _ _) _ _ _); refine b_val ?_)
  | ((with_reducible show wpAny _ _ (isTrue (Expr.Call _ _ _ _) _ _) _ _ _); refine b_val ?_)
  | ((with_reducible show wpAny _ _ (isTrue (Expr.Subscript _ _ _) _ _) _ _ _); refine b_val ?_))
local macro_rules | `(tactic| wtm_at "v_flow") => `(tactic| first
  | with_reducible refine x_cons ?_
  | with_reducible refine x_nil ?_
  | ((with_reducible show wpAny _ _ (exec (Stmt.Assign [Expr.Name _ _] _ _) _) _ _ _); refine x_assign ?_)
  | with_reducible refine x_if ?_
  | with_reducible refine x_ret ?_
  | ((with_reducible show wpAny _ _ (exec (Stmt.Assign [Expr.Attribute _ _ _] _ _) _) _ _ _); refine x_aattr ?_)
  | ((with_reducible show wpAny _ _ (exec (Stmt.Assign [Expr.Subscript _ _ _] _ _) _) _ _ _); refine x_asub ?_)
  | with_reducible refine x_cont ?_)
local macro_rules | `(tactic| wtm_at "v_unit") => `(tactic| first
  | ((with_reducible show wpAny _ _ (storeName _ _ _) _ _ _); (with_reducible rename St _ _ _ _ _ => S'); refine x_store S' ?_; clear S'; intro h t S')
  | with_reducible refine wpAny_assign_Name ?_
  | ((with_reducible show wpAny _ _ (setItem (Value.ref _) (Value.str _ _) _) _ _ _); (with_reducible rename St _ _ _ _ _ => S'); refine k_set S' (by wtm_at "v_upd") (by wtm_at "v_size") ?_; clear S'; intro h t S')
  | ((with_reducible show wpAny _ _ (setItem (Value.ref _) (Value.int _ _) _) _ _ _); (with_reducible rename St _ _ _ _ _ => S'); refine l_set S' (by wtm_at "v_upd") (by wtm_at "v_size") (by wtm_at "v_size") (by wtm_at "v_size") ?_; clear S'; intro h S')
  | ((with_reducible show wpAny _ _ (setAttr (Value.ref _) _ _) _ _ _); (with_reducible rename St _ _ _ _ _ => S'); refine a_set S' (by wtm_at "v_wf") (by wtm_at "v_at") (by wtm_at "v_upd") (by k_is) (by k_is) (by k_is) (by k_is) (by decide) ?_; clear S'; intro h t S'))
local macro_rules | `(tactic| wtm_at "v_rest") => `(tactic| first
  | with_reducible refine Then.next ?_
  | with_reducible refine Then.ret ?_
  | ((with_reducible show Way _ _ _ _ _ _ _ _ _ _); first | with_reducible refine Way.tt ?_ | with_reducible refine Way.ff ?_ | refine Way.of_tt (by rfl) ?_ | refine Way.of_ff (by rfl) ?_)
  | ((with_reducible show ite _ _ _); first | with_reducible refine if_tt ?_ | with_reducible refine if_ff ?_ | refine if_of_tt (by rfl) ?_ | refine if_of_ff (by rfl) ?_)
  | with_reducible refine Done.ret ?_
  | with_reducible refine Done.next ?_
  | with_reducible refine Then.cont ?_
  | with_reducible refine Then.brk ?_
  | ((with_reducible show Frag.In _ _ ∧ wpAny _ _ _ _ _ _); (with_reducible rename St _ _ _ _ _ => S'); refine in_here S' (by wtm_at "v_wf") ?_)
  | with_reducible refine p_cons ?_
  | with_reducible refine p_nil ?_
  | with_reducible refine ep_nil ?_
  | ((with_reducible show wpAny _ _ (evalPairs (_ :: _)) _ _ _); refine ep_cons ?_)
  | ((with_reducible show Filled _ _ _ _ _ _ (_ :: _ :: _ :: _ :: []) _); (with_reducible rename St _ _ _ _ _ => S'); refine Filled.mk S' (kvs := [(_, _), (_, _), (_, _), (_, _)]) ⟨strKind_is _ _ _ _, rfl, strKind_is _ _ _ _, rfl, strKind_is _ _ _ _, rfl, strKind_is _ _ _ _, rfl, trivial⟩ (by wtm_at "v_upd") (by rfl) ?_; clear S'; intro h t S')
  | ((with_reducible show wpAny _ _ (spliced (backTo _ (starEach (_ :: _) _))) _ _ _); refine p_cons ?_)
  | ((with_reducible show wpAny _ _ (spliced (backTo _ (starEach [] _))) _ _ _); refine p_nil ?_)
  | ((with_reducible show wpAny _ _ (getMethod (Value.ref _) (PySem.Str.ofString "append") _) _ _ _); refine m_list (by wtm_at "v_at") PySem.F.slot_list_append PySem.F.type_list_append ?_; dsimp only)
  | ((with_reducible show wpAny _ _ (getMethod (Value.ref _) (PySem.Str.ofString "pop") _) _ _ _); refine m_list (by wtm_at "v_at") PySem.F.slot_list_pop PySem.F.type_list_pop ?_; dsimp only)
  | ((with_reducible show wpAny _ _ (getMethod (Value.ref _) _ _) _ _ _); (with_reducible rename St _ _ _ _ _ => S'); refine m_own S' (by wtm_at "v_wf") (by wtm_at "v_at") (by wtm_at "v_at") (by k_is) (by k_is) (by k_is) (by rfl) ?_; dsimp only))
local macro_rules | `(tactic| wtm_at "v_one") => `(tactic| first
  | ((with_reducible show @wpAny Value _ _ _ _ _ _); wtm_at "v_value")
  | ((with_reducible show @wpAny Bool _ _ _ _ _ _); wtm_at "v_bool")
  | ((with_reducible show @wpAny Flow _ _ _ _ _ _); wtm_at "v_flow")
  | ((with_reducible show @wpAny Unit _ _ _ _ _ _); wtm_at "v_unit")
  | wtm_at "v_rest")
section
variable {prog : Program} {w : World} {A : Around} {E : Value → Shared → Prop} {h₀ W V h : Heap} {own own' : List (Addr × OP)} {g : Array GenState} {d : Drawn} {t : Nat} {os : OsState} {env : Env} {mg mb : Str → Option Value}
def WEnd (h₀ W : Heap) (g : Array GenState) (d : Drawn) (os : OsState) (L : Addr) (Inv : Nat → Heap → (Str → Option Value) → List (Addr × OP) → Prop) (R : Flow → Shared → Prop) (n : Nat) (V : Heap) (f : Flow) (s : Shared) : Prop :=
  match f with
  | .brk => R .next s
  | .ret v => R (.ret v) s
  | _ => ∃ n' V' m own h t, n' < n ∧ s = ⟨h, g, d, t, os⟩ ∧ St h₀ W V' ((L, isNs m) :: own) h ∧ V.StaysIn V' ∧ Inv n' V' m own
theorem WEnd.next {L : Addr} {Inv : Nat → Heap → (Str → Option Value) → List (Addr × OP) → Prop} {R : Flow → Shared → Prop} {n n' : Nat} {V' : Heap} {m : Str → Option Value} (S : St h₀ W V' ((L, isNs m) :: own) h) (hn : n' < n) (hv : V.StaysIn V') (k : Inv n' V' m own) :
    WEnd h₀ W g d os L Inv R n V .next ⟨h, g, d, t, os⟩ := ⟨n', V', m, own, h, t, hn, rfl, S, hv, k⟩
theorem WEnd.ret {L : Addr} {Inv : Nat → Heap → (Str → Option Value) → List (Addr × OP) → Prop} {R : Flow → Shared → Prop} {n : Nat} {v : Value} {s : Shared} (k : R (.ret v) s) : WEnd h₀ W g d os L Inv R n V (.ret v) s := k
def WTest (prog : Program) (w : World) (A : Around) (h₀ W : Heap) (g : Array GenState) (d : Drawn) (os : OsState) (L : Addr) (body : List Stmt) (env : Env) (Inv : Nat → Heap → (Str → Option Value) → List (Addr × OP) → Prop) (R : Flow → Shared → Prop) (n : Nat) (V : Heap) (b : Bool) (s : Shared) : Prop :=
  if b then wpAny (model prog w) A (execs body env) (WEnd h₀ W g d os L Inv R n V) (fun _ _ => False) s else R .next s
theorem WTest.tt {L : Addr} {body : List Stmt} {Inv : Nat → Heap → (Str → Option Value) → List (Addr × OP) → Prop} {R : Flow → Shared → Prop} {n : Nat} {s : Shared} (x : wpAny (model prog w) A (execs body env) (WEnd h₀ W g d os L Inv R n V) (fun _ _ => False) s) : WTest prog w A h₀ W g d os L body env Inv R n V true s := x
theorem WTest.ff {L : Addr} {body : List Stmt} {Inv : Nat → Heap → (Str → Option Value) → List (Addr × OP) → Prop} {R : Flow → Shared → Prop} {n : Nat} {s : Shared} (x : R .next s) : WTest prog w A h₀ W g d os L body env Inv R n V false s := x
theorem WTest.dec {L : Addr} {body : List Stmt} {Inv : Nat → Heap → (Str → Option Value) → List (Addr × OP) → Prop} {R : Flow → Shared → Prop} {n : Nat} {s : Shared} {p : Prop} [i : Decidable p] (x : p → wpAny (model prog w) A (execs body env) (WEnd h₀ W g d os L Inv R n V) (fun _ _ => False) s) (y : ¬ p → R .next s) : WTest prog w A h₀ W g d os L body env Inv R n V (decide p) s := by
  unfold WTest
  by_cases hp : p
  · rw [decide_eq_true hp]; exact x hp
  · rw [decide_eq_false hp]; exact y hp
theorem x_while {test : Expr} {body : List Stmt} {pos : Pos} {L : Addr} {m : Str → Option Value} {Q : Flow → Shared → Prop} (S : St h₀ W V ((L, isNs m) :: own) h)
    (Inv : Nat → Heap → (Str → Option Value) → List (Addr × OP) → Prop) (n : Nat) (i0 : Inv n V m own)
    (turn : ∀ n V' m own h t, V.StaysIn V' → Inv n V' m own → St h₀ W V' ((L, isNs m) :: own) h → wpAny (model prog w) A (isTrue test env (eval test env)) (WTest prog w A h₀ W g d os L body env Inv Q n V') (fun _ _ => False) ⟨h, g, d, t, os⟩) :
    wpAny (model prog w) A (exec (.While test body [] pos) env) Q E ⟨h, g, d, t, os⟩ := by
  refine wpAny_While (codeAny_whileLoop (I := fun k s => ∃ V' m own h t, s = ⟨h, g, d, t, os⟩ ∧ V.StaysIn V' ∧ Inv k V' m own ∧ St h₀ W V' ((L, isNs m) :: own) h) ?_ n ⟨V, m, own, h, t, rfl, stays_refl _, i0, S⟩)
  rintro k s ⟨V', m, own, h, t, rfl, hv, hI, S⟩
  refine wpAny_mono (turn k V' m own h t hv hI S) (fun b s₂ q => ?_) fun _ _ q => q.elim
  cases b with
  | false => exact wpAny_execs_nil q
  | true =>
    refine wpAny_mono q (fun f s₃ q₃ => ?_) fun _ _ z => z.elim
    cases f with
    | next =>
      obtain ⟨n', V₃, m₃, own₃, h₃, t₃, hn, rfl, S₃, hv₃, hI₃⟩ := q₃
      exact ⟨n', hn, V₃, m₃, own₃, h₃, t₃, rfl, stays_trans hv hv₃, hI₃, S₃⟩
    | cont =>
      obtain ⟨n', V₃, m₃, own₃, h₃, t₃, hn, rfl, S₃, hv₃, hI₃⟩ := q₃
      exact ⟨n', hn, V₃, m₃, own₃, h₃, t₃, rfl, stays_trans hv hv₃, hI₃, S₃⟩
    | brk => exact q₃
    | ret v => exact q₃
theorem St.more {h' : Heap} (S : St h₀ W V own h) (k : Heap.ExtBut h.objs.size h h') : St h₀ W V own h' := by
  have q : h.StaysIn h' := fun b o e => k b o (Nat.ne_of_lt (Heap.lt_size e)) e
  exact ⟨stays_trans S.ext q, S.sub, S.old, stays_trans S.le q, fun p hp => ⟨(S.has p hp).1.keeps q, (S.has p hp).2⟩, S.nd⟩
theorem x_tup {elts : List Expr} {kk : Nat} {tpos : Pos} {value : Expr} {pos : Pos} {Q : Flow → Shared → Prop} {s : Shared} (x : wpAny (model prog w) A (eval value env) (fun v s₁ => wpAny (model prog w) A (assign (.Tuple elts kk tpos) env v) (fun _ s₂ => Q .next s₂) E s₁) E s)
    (hs : swapsWithSole [.Tuple elts kk tpos] value pos.line env = pure false := by rfl) (hw : swappedStores [.Tuple elts kk tpos] value env = pure none := by rfl) : wpAny (model prog w) A (exec (.Assign [.Tuple elts kk tpos] value pos) env) Q E s := Assign_Tuple x hs hw
theorem x_tups {elts : List Expr} {kk : Nat} {tpos : Pos} {value : Expr} {pos : Pos} {names : List Str} {Q : Flow → Shared → Prop} {s : Shared} (hw : swappedStores [.Tuple elts kk tpos] value env = pure (some names))
    (x : wpAny (model prog w) A (eval value env) (fun v s₁ => wpAny (model prog w) A (unpackItems v names.length none) (fun items s₂ => wpAny (model prog w) A (assignInOrder (names.reverse.map fun n => bindName env n) items.reverse) (fun _ s₃ => Q .next s₃) E s₂) E s₁) E s)
    (hs : swapsWithSole [.Tuple elts kk tpos] value pos.line env = pure false := by rfl) : wpAny (model prog w) A (exec (.Assign [.Tuple elts kk tpos] value pos) env) Q E s := Assign_Tuple_swapped x hs hw
theorem u_items {l : Addr} {xs : List Value} {n : Nat} {Q : List Value → Shared → Prop} (S : St h₀ W V own h) (hl : At h l (isT xs)) (hh : A.handled = none) (hn : n = xs.length) (k : ∀ h', St h₀ W V own h' → Q xs ⟨h', g, d, t, os⟩) :
    wpAny (model prog w) A (unpackItems (.ref l) n none) Q E ⟨h, g, d, t, os⟩ := by
  subst hn
  have := unpackItems_tuple (prog := prog) (w := w) (E := E) (s := ⟨h, g, d, t, os⟩) (Q := Q) hh (tup_at.mpr hl) fun h' e => by simpa using k h' (S.more e)
  simpa using this
theorem u_tup {elts : List Expr} {kk : Nat} {pos : Pos} {l : Addr} {xs : List Value} {Q : Unit → Shared → Prop} (S : St h₀ W V own h) (hl : At h l (isT xs)) (hh : A.handled = none)
    (hn : (assignEach elts env).length = xs.length) (hstar : (assignEach elts env).findIdx? (·.1) = none)
    (k : ∀ h', St h₀ W V own h' → wpAny (model prog w) A (assignInOrder ((assignEach elts env).map (·.2)) xs) Q E ⟨h', g, d, t, os⟩) :
    wpAny (model prog w) A (assign (.Tuple elts kk pos) env (.ref l)) Q E ⟨h, g, d, t, os⟩ :=
  assign_Tuple_tuple hh (tup_at.mpr hl) (by simpa using hn) hstar fun h' e => by simpa using k h' (S.more e)
theorem a_nil {xs : List Value} {Q : Unit → Shared → Prop} {s : Shared} (x : Q () s) : wpAny (model prog w) A (assignInOrder [] xs) Q E s := assignInOrder_nil x
theorem a_cons {t : Value → Sem Unit} {ts : List (Value → Sem Unit)} {x : Value} {xs : List Value} {Q : Unit → Shared → Prop} {s : Shared}
    (h : wpAny (model prog w) A (t x) (fun _ s₁ => wpAny (model prog w) A (assignInOrder ts xs) Q E s₁) E s) : wpAny (model prog w) A (assignInOrder (t :: ts) (x :: xs)) Q E s := assignInOrder_cons h
theorem a_bind {x : Str} {v : Value} {Q : Unit → Shared → Prop} {s : Shared} (k : wpAny (model prog w) A (storeName env x v) Q E s) : wpAny (model prog w) A (bindName env x v) Q E s := wpAny_bindName k
theorem a_name {x : Str} {pos : Pos} {v : Value} {Q : Unit → Shared → Prop} {s : Shared} (k : wpAny (model prog w) A (storeName env x v) Q E s) : wpAny (model prog w) A (assign (.Name x pos) env v) Q E s := PyProof.Rows.assign_Name k
end
local macro_rules | `(tactic| wtm_at "v_hd") => `(tactic| first | with_reducible assumption | exact Room.hd (by with_reducible assumption) | exact Room.hd (Room.deeper (by with_reducible assumption)))
local macro_rules | `(tactic| wtm_at "v_flow") => `(tactic| ((with_reducible show wpAny _ _ (exec (Stmt.Assign [Expr.Tuple _ _ _] _ _) _) _ _ _); first | refine x_tup ?_ | refine x_tups (by rfl) ?_))
local macro_rules | `(tactic| wtm_at "v_rest") => `(tactic| ((with_reducible show wpAny _ _ (unpackItems (Value.ref _) _ _) _ _ _); (with_reducible rename St _ _ _ _ _ => S'); refine u_items S' (by wtm_at "v_at") (by wtm_at "v_hd") (by rfl) ?_; clear S'; intro h S'))
local macro_rules | `(tactic| wtm_at "v_rest") => `(tactic| first | with_reducible refine WTest.tt ?_ | with_reducible refine WTest.ff ?_)
local macro_rules | `(tactic| wtm_at "v_unit") => `(tactic| first
  | ((with_reducible show wpAny _ _ (assign (Expr.Tuple _ _ _) _ (Value.ref _)) _ _ _); (with_reducible rename St _ _ _ _ _ => S'); refine u_tup S' (by wtm_at "v_at") (by wtm_at "v_hd") (by rfl) (by rfl) ?_; clear S'; intro h S')
  | ((with_reducible show wpAny _ _ (assignInOrder _ _) _ _ _); first | refine a_nil ?_ | refine a_cons ?_)
  | with_reducible refine a_bind ?_
  | with_reducible refine a_name ?_)
structure Src (prog : Program) (w : World) (A : Around) (target : Expr) (h₀ W : Heap) (it : Addr) (its : Nat → List (Addr × OP)) (n : Nat) (item : Nat → Value → Heap → Heap → Prop) (V : Heap) : Prop where
  next : ∀ i L V' m own h g d t os (Q : Value → Shared → Prop), i < n → V.StaysIn V' → St h₀ W V' ((L, isNs m) :: (its i ++ own)) h →
    (∀ x V'' h' t', St h₀ W V'' ((L, isNs m) :: (its (i + 1) ++ own)) h' → V'.StaysIn V'' → item i x V' V'' → Q x ⟨h', g, d, t', os⟩) →
    wpAny (model prog w) A (pyNext (.ref it)) (fun r s => match r with | none => False | some x => wpAny (model prog w) A (letOwnedTupleGo target (.ref it) x) (fun _ s' => Q x s') (fun _ _ => False) s) (fun _ _ => False) ⟨h, g, d, t, os⟩
  done : ∀ L V' m own h g d t os (Q : Option Value → Shared → Prop), V.StaysIn V' → St h₀ W V' ((L, isNs m) :: (its n ++ own)) h → (∀ h' t', St h₀ W V' ((L, isNs m) :: own) h' → Q none ⟨h', g, d, t', os⟩) →
    wpAny (model prog w) A (pyNext (.ref it)) Q (fun _ _ => False) ⟨h, g, d, t, os⟩
  self : ∀ L V' m own h g d t os (Q E : Value → Shared → Prop), V.StaysIn V' → St h₀ W V' ((L, isNs m) :: (its 0 ++ own)) h → Q (.ref it) ⟨h, g, d, t, os⟩ → wpAny (model prog w) A (pyIter (.ref it)) Q E ⟨h, g, d, t, os⟩
section
variable {prog : Program} {w : World} {A : Around} {E : Value → Shared → Prop} {h₀ W V h : Heap} {own own' : List (Addr × OP)} {g : Array GenState} {d : Drawn} {t : Nat} {os : OsState} {env : Env} {mg mb : Str → Option Value}
theorem St.perm {l : List (Addr × OP)} (S : St h₀ W V own h) (p : l.Perm own) : St h₀ W V l h :=
  S.drop (fun q hq => p.subset hq) ((p.map _).nodup_iff.mpr S.nd)
theorem St.swap {a b : Addr × OP} (S : St h₀ W V (a :: b :: own) h) : St h₀ W V (b :: a :: own) h := S.perm (.swap ..)
theorem St.pop {a : Addr} {φ : OP} {h' : Heap} (S : St h₀ W V ((a, φ) :: own) h) (k : Heap.ExtBut a h h') : St h₀ W V own h' := by
  have hi := S.has (a, φ) (.head _)
  have nd := S.nd
  simp only [List.map_cons, List.nodup_cons] at nd
  refine ⟨fun b o e => ?_, S.sub, S.old, fun b o e => ?_, fun p hp => ?_, nd.2⟩
  · exact k b o (by rintro rfl; rw [hi.2.2] at e; cases e) (S.ext b o e)
  · exact k b o (by rintro rfl; rw [hi.2.1] at e; cases e) (S.le b o e)
  · have z := S.has p (.tail _ hp)
    obtain ⟨o, e, q⟩ := z.1
    exact ⟨⟨o, k _ _ (fun z => nd.1 (z ▸ List.mem_map_of_mem (f := (·.1)) hp)) e, q⟩, z.2⟩
theorem St.frame {L : Addr} {φ : OP} {h' : Heap} (S : St h₀ W V own h) (k : h.StaysIn h') (x : At h' L φ) (z : h.get? L = none) : St h₀ W V ((L, φ) :: own) h' := by
  refine ⟨stays_trans S.ext k, S.sub, S.old, stays_trans S.le k, fun p hp => ?_, ?_⟩
  · rcases List.mem_cons.mp hp with rfl | hp
    · refine ⟨x, ?_, ?_⟩
      · cases e : V.get? L with
        | none => rfl
        | some o => have := S.le _ _ e; rw [z] at this; cases this
      · cases e : h₀.get? L with
        | none => rfl
        | some o => have := S.ext _ _ e; rw [z] at this; cases this
    · exact ⟨(S.has p hp).1.keeps k, (S.has p hp).2⟩
  · simp only [List.map_cons, List.nodup_cons]
    refine ⟨fun hm => ?_, S.nd⟩
    obtain ⟨p, hp, e⟩ := List.mem_map.mp hm
    obtain ⟨o, q, _⟩ := (S.has p hp).1
    rw [e] at q
    rw [q] at z
    cases z
theorem get_top (h : Heap) : h.get? h.objs.size = none := by
  cases e : h.get? h.objs.size with
  | none => rfl
  | some o => exact absurd (Heap.lt_size e) (Nat.lt_irrefl _)
def If (x y : Shared → Prop) (b : Bool) (s : Shared) : Prop := if b then x s else y s
theorem If.tt {x y : Shared → Prop} {s : Shared} (k : x s) : If x y true s := k
theorem If.ff {x y : Shared → Prop} {s : Shared} (k : y s) : If x y false s := k
def Tests (prog : Program) (w : World) (A : Around) (env : Env) : List Expr → (Bool → Shared → Prop) → Shared → Prop
  | [], K => K true
  | c :: r, K => fun s => wpAny (model prog w) A (isTrue c env (eval c env)) (If (Tests prog w A env r K) (K false)) (fun _ _ => False) s
theorem Tests.nil {K : Bool → Shared → Prop} {s : Shared} (k : K true s) : Tests prog w A env [] K s := k
theorem Tests.cons {c : Expr} {r : List Expr} {K : Bool → Shared → Prop} {s : Shared} (k : wpAny (model prog w) A (isTrue c env (eval c env)) (If (Tests prog w A env r K) (K false)) (fun _ _ => False) s) : Tests prog w A env (c :: r) K s := k
theorem tests_ff {K : Bool → Shared → Prop} {s : Shared} (k : K false s) : ∀ ifs : List Expr, wpAny (model prog w) A (forIn ifs false fun c r => if r = true then do let ok ← isTrue c env (eval c env); pure (ForInStep.yield ok) else pure (ForInStep.yield r)) K E s
  | [] => wpAny_pure k
  | c :: r => by
    simp only [List.forIn_cons, Bool.false_eq_true, if_false]
    exact wpAny_bind (wpAny_pure (tests_ff k r))
theorem tests_wp {K : Bool → Shared → Prop} : ∀ {ifs : List Expr} {s : Shared}, Tests prog w A env ifs K s → wpAny (model prog w) A (forIn ifs true fun c r => if r = true then do let ok ← isTrue c env (eval c env); pure (ForInStep.yield ok) else pure (ForInStep.yield r)) K E s
  | [], s, k => wpAny_pure k
  | c :: r, s, k => by
    simp only [List.forIn_cons, if_true]
    refine wpAny_bind (wpAny_bind (wpAny_mono k (fun b s' q => wpAny_pure ?_) fun _ _ z => z.elim))
    cases b with
    | true => exact tests_wp q
    | false => exact tests_ff (K := K) (show K false s' from q) r
theorem Tests.mono {K K' : Bool → Shared → Prop} (hk : ∀ b s, K b s → K' b s) : ∀ (l : List Expr) {s : Shared}, Tests prog w A env l K s → Tests prog w A env l K' s
  | [], _, q => hk _ _ q
  | c :: r, s, q => by
    refine wpAny_mono q (fun b s' q' => ?_) fun _ _ z => z
    cases b with
    | true => exact Tests.mono hk r q'
    | false => exact hk _ _ q'
def Step (h₀ W : Heap) (g : Array GenState) (d : Drawn) (os : OsState) (C : Addr) (its : Nat → List (Addr × OP)) (Inv : Nat → Heap → List (Addr × OP) → Prop) (i : Nat) (V : Heap) (s : Shared) : Prop :=
  ∃ V' mc own h t, s = ⟨h, g, d, t, os⟩ ∧ St h₀ W V' ((C, isNs mc) :: (its (i + 1) ++ own)) h ∧ V.StaysIn V' ∧ Inv (i + 1) V' own
theorem Step.mk {C : Addr} {its : Nat → List (Addr × OP)} {Inv : Nat → Heap → List (Addr × OP) → Prop} {i : Nat} {V' : Heap} {mc : Str → Option Value} (S : St h₀ W V' ((C, isNs mc) :: (its (i + 1) ++ own)) h) (hv : V.StaysIn V') (k : Inv (i + 1) V' own) :
    Step h₀ W g d os C its Inv i V ⟨h, g, d, t, os⟩ := ⟨V', mc, own, h, t, rfl, S, hv, k⟩
theorem comp_loop {e target : Expr} {ip : Pos} {ifs : List Expr} {emit : Sem Unit} {it C : Addr} {acc : Value} {its : Nat → List (Addr × OP)} {n : Nat} {item : Nat → Value → Heap → Heap → Prop} {mc : Str → Option Value} {R : Result → Shared → Prop}
    (hq : (Code.compLoop e 0 (.ref it) acc env).quiet = true) (hu : A.under (.compLoop e 0 (.ref it) acc env) = A)
    (hd : (model prog w).den (.compLoop e 0 (.ref it) acc env) = (compTurn e 0 (.ref it) acc env).onRaise (fun x => do noteFrame x env; theTreesLotGoes x))
    (he : compTurn e 0 (.ref it) acc env = (do
      standAt ip
      match ← pyNext (.ref it) with
      | none => pure (.done .next)
      | some v =>
        letOwnedTupleGo target (.ref it) v
        assign target env v
        let mut ok := true
        for c in ifs do
          if ok then ok ← isTrue c env (eval c env)
        if ok then emit
        again (.compLoop e 0 (.ref it) acc env)))
    (S : St h₀ W V ((C, isNs mc) :: (its 0 ++ own)) h) (src : Src prog w A target h₀ W it its n item V)
    (Inv : Nat → Heap → List (Addr × OP) → Prop) (i0 : Inv 0 V own)
    (turn : ∀ i x V' V'' mc own h t, i < n → V.StaysIn V' → Inv i V' own → V'.StaysIn V'' → item i x V' V'' → St h₀ W V'' ((C, isNs mc) :: (its (i + 1) ++ own)) h →
      wpAny (model prog w) A (assign target env x) (fun _ s => Tests prog w A env ifs (If (fun s => wpAny (model prog w) A emit (fun _ s' => Step h₀ W g d os C its Inv i V' s') (fun _ _ => False) s) (Step h₀ W g d os C its Inv i V')) s) (fun _ _ => False) ⟨h, g, d, t, os⟩)
    (fin : ∀ V' mc own h t, V.StaysIn V' → Inv n V' own → St h₀ W V' ((C, isNs mc) :: own) h → R (.ok .next) ⟨h, g, d, t, os⟩) :
    codeAny (model prog w) A (.compLoop e 0 (.ref it) acc env) R ⟨h, g, d, t, os⟩ := by
  refine codeAny_loop hq (fun k s => ∃ i V' mc own h t, k + i = n ∧ s = ⟨h, g, d, t, os⟩ ∧ V.StaysIn V' ∧ Inv i V' own ∧ St h₀ W V' ((C, isNs mc) :: (its i ++ own)) h) ?_ n ⟨0, V, mc, own, h, t, by omega, rfl, stays_refl _, i0, S⟩
  rintro k s ⟨i, V', mc, own, h, t, hk, rfl, hv, hI, S⟩
  rw [hu, hd]
  refine wpAny_noted ?_
  rw [he]
  refine wpAny_bind (wpAny_standAt (wpAny_bind ?_))
  cases k with
  | zero =>
    have : i = n := by omega
    subst this
    exact wpAny_mono (src.done C V' mc own h g d t os (fun r s' => match r with | none => R (.ok .next) s' | some _ => False) hv S fun h' t' S' => fin V' mc own h' t' hv hI S') (fun r s' q => by
      cases r with
      | none => exact wpAny_pure q
      | some _ => exact q.elim) fun _ _ z => z.elim
  | succ k =>
    have hi : i < n := by omega
    refine wpAny_mono (src.next i C V' mc own h g d t os (fun x s => wpAny (model prog w) A (assign target env x) (fun _ s => Tests prog w A env ifs (If (fun s => wpAny (model prog w) A emit (fun _ s' => Step h₀ W g d os C its Inv i V' s') (fun _ _ => False) s) (Step h₀ W g d os C its Inv i V')) s) (fun _ _ => False) s) hi hv S fun x V'' h' t' S' hv' hx => turn i x V' V'' mc own h' t' hi hv hI hv' hx S') (fun r s' q => ?_) fun _ _ z => z.elim
    cases r with
    | none => exact q.elim
    | some x =>
      have last : ∀ s, Step h₀ W g d os C its Inv i V' s → (∃ m, m < k + 1 ∧ ∃ i V'' mc own h t, m + i = n ∧ s = ⟨h, g, d, t, os⟩ ∧ V.StaysIn V'' ∧ Inv i V'' own ∧ St h₀ W V'' ((C, isNs mc) :: (its i ++ own)) h) := by
        rintro s ⟨V₃, m₃, own₃, h₃, t₃, rfl, S₃, hv₃, hI₃⟩
        exact ⟨k, Nat.lt_succ_self _, i + 1, V₃, m₃, own₃, h₃, t₃, by omega, rfl, stays_trans hv hv₃, hI₃, S₃⟩
      refine wpAny_bind (wpAny_mono q (fun _ s₂ q₂ => wpAny_bind (wpAny_mono q₂ (fun _ s₃ q₃ => wpAny_bind (tests_wp (E := notedBy (model prog w) A env fun e s' => R (.error e) s') ?_)) fun _ _ z => z.elim)) fun _ _ z => z.elim)
      have fit : ∀ (b : Bool) s, If (fun s => wpAny (model prog w) A emit (fun _ s' => Step h₀ W g d os C its Inv i V' s') (fun _ _ => False) s) (Step h₀ W g d os C its Inv i V') b s →
          wpAny (model prog w) A (if b = true then (emit >>= fun _ => again (.compLoop e 0 (.ref it) acc env)) else again (.compLoop e 0 (.ref it) acc env)) (fun fin s' => match fin with | .done f => R (.ok f) s' | .again c' => c' = .compLoop e 0 (.ref it) acc env ∧ ∃ m, m < k + 1 ∧ ∃ i V'' mc own h t, m + i = n ∧ s' = ⟨h, g, d, t, os⟩ ∧ V.StaysIn V'' ∧ Inv i V'' own ∧ St h₀ W V'' ((C, isNs mc) :: (its i ++ own)) h) (notedBy (model prog w) A env fun e s' => R (.error e) s') s := by
        intro b s q
        cases b with
        | false => exact wpAny_pure ⟨rfl, last _ q⟩
        | true => exact wpAny_bind (wpAny_mono q (fun _ s' q' => wpAny_pure ⟨rfl, last _ q'⟩) fun _ _ z => z.elim)
      exact Tests.mono fit _ q₃
def CompGo (prog : Program) (w : World) (A : Around) (E : Value → Shared → Prop) (env : Env) (e : Expr) (scope : Scope) (cl : List (Str × Addr)) (newAcc : Sem Value) (use : Option (Value → Sem Unit)) (Q : Value → Shared → Prop) (it : Value) (s : Shared) : Prop :=
  wpAny (model prog w) A newAcc (fun acc s₃ => wpAny (model prog w) A (newFunctionEnv scope env.globals cl [] env.qual none .none (some env)) (fun cenv s₄ =>
    codeAny (model prog w) A (.compStart e 0 it acc { cenv with scope := relabel scope env }) (compPost (model prog w) A E use Q acc cenv.locals) s₄) E s₃) E s
theorem e_lc {elt target iter : Expr} {ifs : List Expr} {scope : Scope} {pos : Pos} {cl : List (Str × Addr)} {Q : Value → Shared → Prop} {s : Shared} (hcl : closureFor scope env = pure cl)
    (x : wpAny (model prog w) A (eval iter env) (fun xv s₁ => wpAny (model prog w) A (pyIter xv) (CompGo prog w A E env (.ListComp elt [⟨target, iter, ifs, 0⟩] scope pos) scope cl (newList []) none Q) E s₁) E s)
    (hk : scope.kind = .function := by rfl) (hn : ∀ x ∈ scope.names, x.2 = .local → scope.names.lookup x.1 = some .local := by decide) (hs : ∀ x, foldedSetIterable iter env x = pure x := by intro _; rfl) :
    wpAny (model prog w) A (eval (.ListComp elt [⟨target, iter, ifs, 0⟩] scope pos) env) Q E s := by
  rw [eval_ListComp]
  exact wpAny_comprehension_free (use := none) rfl hs hcl hk hn x
theorem x_lc {elt target iter : Expr} {ifs : List Expr} {scope : Scope} {pos spos py : Pos} {y : Str} {cl : List (Str × Addr)} {Q : Flow → Shared → Prop} {s : Shared} (hcl : closureFor scope env = pure cl)
    (x : wpAny (model prog w) A (eval iter env) (fun xv s₁ => wpAny (model prog w) A (pyIter xv) (CompGo prog w A E env (.ListComp elt [⟨target, iter, ifs, 0⟩] scope pos) scope cl (newList []) (some (assign (.Name y py) env)) (fun _ s' => Q .next s')) E s₁) E s)
    (hsw : swapsWith (.ListComp elt [⟨target, iter, ifs, 0⟩] scope pos) (some (.Name y py)) spos.line env = pure true := by rfl)
    (hk : scope.kind = .function := by rfl) (hn : ∀ x ∈ scope.names, x.2 = .local → scope.names.lookup x.1 = some .local := by decide) (hs : ∀ x, foldedSetIterable iter env x = pure x := by intro _; rfl) :
    wpAny (model prog w) A (exec (.Assign [.Name y py] (.ListComp elt [⟨target, iter, ifs, 0⟩] scope pos) spos) env) Q E s := by
  rw [exec_Assign_Name_used _ _ _ _ hsw]
  refine wpAny_bind (wpAny_standAt (wpAny_bind ?_))
  show wpAny _ A (do let _ ← comprehension (.ListComp elt [⟨target, iter, ifs, 0⟩] scope pos) scope env _ (newList []) false (eval iter env) (some (assign (.Name y py) env))) _ _ s
  exact wpAny_bind (wpAny_mono (wpAny_comprehension_free (use := some (assign (.Name y py) env)) (Q := fun _ s' => Q .next s') rfl hs hcl hk hn x) (fun _ s' hq => wpAny_pure (wpAny_pure hq)) fun _ _ e => e)
theorem x_dc {kx vx target iter : Expr} {ifs : List Expr} {scope : Scope} {pos spos py : Pos} {y : Str} {cl : List (Str × Addr)} {Q : Flow → Shared → Prop} {s : Shared} (hcl : closureFor scope env = pure cl)
    (x : wpAny (model prog w) A (eval iter env) (fun xv s₁ => wpAny (model prog w) A (pyIter xv) (CompGo prog w A E env (.DictComp kx vx [⟨target, iter, ifs, 0⟩] scope pos) scope cl newDict (some (assign (.Name y py) env)) (fun _ s' => Q .next s')) E s₁) E s)
    (hsw : swapsWith (.DictComp kx vx [⟨target, iter, ifs, 0⟩] scope pos) (some (.Name y py)) spos.line env = pure true := by rfl)
    (hk : scope.kind = .function := by rfl) (hn : ∀ x ∈ scope.names, x.2 = .local → scope.names.lookup x.1 = some .local := by decide) (hs : ∀ x, foldedSetIterable iter env x = pure x := by intro _; rfl) :
    wpAny (model prog w) A (exec (.Assign [.Name y py] (.DictComp kx vx [⟨target, iter, ifs, 0⟩] scope pos) spos) env) Q E s := by
  rw [exec_Assign_Name_used _ _ _ _ hsw]
  refine wpAny_bind (wpAny_standAt (wpAny_bind ?_))
  show wpAny _ A (do let _ ← comprehension (.DictComp kx vx [⟨target, iter, ifs, 0⟩] scope pos) scope env _ newDict false (eval iter env) (some (assign (.Name y py) env))) _ _ s
  exact wpAny_bind (wpAny_mono (wpAny_comprehension_free (use := some (assign (.Name y py) env)) (Q := fun _ s' => Q .next s') rfl hs hcl hk hn x) (fun _ s' hq => wpAny_pure (wpAny_pure hq)) fun _ _ e => e)
def Fin0 (h₀ W : Heap) (g : Array GenState) (d : Drawn) (os : OsState) (V : Heap) (L D : Addr) (Q : Value → Shared → Prop) (own : List (Addr × OP)) : Prop :=
  ∃ φ m own'', own = (D, φ) :: (L, isNs m) :: own'' ∧ ∀ h t, St h₀ W V ((L, isNs m) :: (D, φ) :: own'') h → Q (.ref D) ⟨h, g, d, t, os⟩
def FinU (h₀ W : Heap) (g : Array GenState) (d : Drawn) (os : OsState) (V : Heap) (L D : Addr) (y : Str) (Q : Value → Shared → Prop) (own : List (Addr × OP)) : Prop :=
  ∃ φ m own'', own = (D, φ) :: (L, isNs m) :: own'' ∧ ∀ h t, St h₀ W V ((L, isNs fun z => if z = y then some (.ref D) else m z) :: (D, φ) :: own'') h → Q .none ⟨h, g, d, t, os⟩
theorem post0 {C L D : Addr} {mc : Str → Option Value} {Q : Value → Shared → Prop} (S : St h₀ W V ((C, isNs mc) :: own) h) (k : Fin0 h₀ W g d os V L D Q own) : compPost (model prog w) A E none Q (.ref D) C (.ok .next) ⟨h, g, d, t, os⟩ := by
  obtain ⟨φ, m, own'', rfl, k⟩ := k
  exact ⟨mc, ns_at.mpr (S.get (.head _)), fun h' hs => k h' t (S.pop hs.extBut).swap⟩
theorem postU {C L D : Addr} {mc : Str → Option Value} {y : Str} {py : Pos} {Q : Value → Shared → Prop} (S : St h₀ W V ((C, isNs mc) :: own) h) (k : FinU h₀ W g d os V L D y Q own)
    (hL : env.locals = L := by rfl) (hl : env.kindOf y = some .local := by rfl) (hk : env.scope.kind = .function := by rfl) : compPost (model prog w) A E (some (assign (.Name y py) env)) Q (.ref D) C (.ok .next) ⟨h, g, d, t, os⟩ := by
  obtain ⟨φ, m, own'', rfl, k⟩ := k
  have p : List.Perm ((L, isNs m) :: (C, isNs mc) :: (D, φ) :: own'') ((C, isNs mc) :: (D, φ) :: (L, isNs m) :: own'') := (List.Perm.swap ..).trans (.cons _ (.swap ..))
  refine a_name (x_store (S.perm p) (fun h' t' S' => ?_) hL hk hl)
  have S' := S'.swap
  exact ⟨mc, ns_at.mpr (S'.get (.head _)), fun h'' hs => k h'' t' (S'.pop hs.extBut)⟩
theorem go_list {elt target iter : Expr} {ifs : List Expr} {scope : Scope} {pos : Pos} {cl : List (Str × Addr)} {use : Option (Value → Sem Unit)} {Q : Value → Shared → Prop} {L it : Addr} {m : Str → Option Value} {its : Nat → List (Addr × OP)} {n : Nat} {item : Nat → Value → Heap → Heap → Prop}
    (S : St h₀ W V ((L, isNs m) :: (its 0 ++ own)) h) (src : Src prog w A target h₀ W it its n item V)
    (k : ∀ C D h, St h₀ W V ((C, isNs fun _ => none) :: (its 0 ++ ((D, isL []) :: (L, isNs m) :: own))) h →
      ∃ Inv : Nat → Heap → List (Addr × OP) → Prop, Inv 0 V ((D, isL []) :: (L, isNs m) :: own) ∧
      (∀ i x V' V'' mc own h t, i < n → V.StaysIn V' → Inv i V' own → V'.StaysIn V'' → item i x V' V'' → St h₀ W V'' ((C, isNs mc) :: (its (i + 1) ++ own)) h →
        wpAny (model prog w) A (assign target (compEnvC scope cl C env) x) (fun _ s => Tests prog w A (compEnvC scope cl C env) ifs (If (fun s => wpAny (model prog w) A (eval elt (compEnvC scope cl C env)) (fun y s₁ => wpAny (model prog w) A (call (.builtin "list.append") [.ref D, y]) (fun _ s' => Step h₀ W g d os C its Inv i V' s') (fun _ _ => False) s₁) (fun _ _ => False) s) (Step h₀ W g d os C its Inv i V')) s) (fun _ _ => False) ⟨h, g, d, t, os⟩) ∧
      ∀ V' mc own h t, V.StaysIn V' → Inv n V' own → St h₀ W V' ((C, isNs mc) :: own) h → compPost (model prog w) A E use Q (.ref D) C (.ok .next) ⟨h, g, d, t, os⟩)
    (hc : ∀ x ∈ scope.names, x.2 ≠ .cell := by decide) (hk : scope.kind = .function := by rfl) :
    CompGo prog w A E env (.ListComp elt [⟨target, iter, ifs, 0⟩] scope pos) scope cl (newList []) use Q (.ref it) ⟨h, g, d, t, os⟩ := by
  unfold CompGo
  refine wpAny_newObj_type (wpAny_newFunctionEnv hc (by intro y hy; simp at hy) (fun h₁ hns hsb => ?_) hk)
  have S1 := S.push (φ := isL []) { cls := .type "list", dict := none, data := .seq ([] : List Value).toArray } rfl ⟨0, rfl⟩
  have S2 := S1.frame (h' := h₁) (L := (h.push { cls := .type "list", dict := none, data := .seq ([] : List Value).toArray }).objs.size) (φ := isNs fun _ => none) (fun b o e => hsb.extBut b o (Nat.ne_of_lt (Heap.lt_size e)) (Heap.get?_push_of_some _ e)) (ns_at.mp hns) (get_top _)
  have p : List.Perm (((h.push { cls := .type "list", dict := none, data := .seq ([] : List Value).toArray }).objs.size, isNs fun _ => none) :: (its 0 ++ ((h.objs.size, isL []) :: (L, isNs m) :: own)))
      (((h.push { cls := .type "list", dict := none, data := .seq ([] : List Value).toArray }).objs.size, isNs fun _ => none) :: (h.objs.size, isL []) :: (L, isNs m) :: (its 0 ++ own)) :=
    .cons _ (List.perm_middle.trans (.cons _ List.perm_middle))
  have S3 := S2.perm p
  obtain ⟨Inv, i0, turn, fin⟩ := k _ _ _ S3
  have loop : codeAny (model prog w) A (.compLoop (.ListComp elt [⟨target, iter, ifs, 0⟩] scope pos) 0 (.ref it) (.ref h.objs.size) (compEnvC scope cl (h.push { cls := .type "list", dict := none, data := .seq ([] : List Value).toArray }).objs.size env))
      (compPost (model prog w) A E use Q (.ref h.objs.size) (h.push { cls := .type "list", dict := none, data := .seq ([] : List Value).toArray }).objs.size) ⟨h₁, g, d, t + ([] : List (Str × Value)).length, os⟩ := by
    refine comp_loop (emit := do let _ ← call (.builtin "list.append") [.ref h.objs.size, ← eval elt (compEnvC scope cl (h.push { cls := .type "list", dict := none, data := .seq ([] : List Value).toArray }).objs.size env)]) rfl rfl rfl (compTurn_list _ _ _ _ _ _ _ _ _) S3 src Inv i0 (fun i x V' V'' mc own h t a b c e f S' => ?_) fin
    refine wpAny_mono (turn i x V' V'' mc own h t a b c e f S') (fun _ s q => ?_) fun _ _ z => z
    refine Tests.mono (fun b s q => ?_) _ q
    cases b with
    | false => exact q
    | true => exact wpAny_bind (wpAny_mono q (fun y s₁ q₁ => wpAny_bind (wpAny_mono q₁ (fun _ s₂ q₂ => wpAny_pure q₂) fun _ _ z => z)) fun _ _ z => z)
  exact codeAny_compStart_list loop (src.self _ _ _ _ _ _ _ _ _ _ _ (stays_refl _) S3 loop)
theorem go_dict {kx vx target iter : Expr} {ifs : List Expr} {scope : Scope} {pos : Pos} {cl : List (Str × Addr)} {use : Option (Value → Sem Unit)} {Q : Value → Shared → Prop} {L it : Addr} {m : Str → Option Value} {its : Nat → List (Addr × OP)} {n : Nat} {item : Nat → Value → Heap → Heap → Prop}
    (X : WF w.params mg mb V) (S : St h₀ W V ((L, isNs m) :: (its 0 ++ own)) h) (src : Src prog w A target h₀ W it its n item V)
    (k : ∀ C D h, (D == sysModules) = false → St h₀ W V ((C, isNs fun _ => none) :: (its 0 ++ ((D, isK w prog []) :: (L, isNs m) :: own))) h →
      ∃ Inv : Nat → Heap → List (Addr × OP) → Prop, Inv 0 V ((D, isK w prog []) :: (L, isNs m) :: own) ∧
      (∀ i x V' V'' mc own h t, i < n → V.StaysIn V' → Inv i V' own → V'.StaysIn V'' → item i x V' V'' → St h₀ W V'' ((C, isNs mc) :: (its (i + 1) ++ own)) h →
        wpAny (model prog w) A (assign target (compEnvC scope cl C env) x) (fun _ s => Tests prog w A (compEnvC scope cl C env) ifs (If (fun s => wpAny (model prog w) A (eval kx (compEnvC scope cl C env)) (fun kv s₁ => wpAny (model prog w) A (eval vx (compEnvC scope cl C env)) (fun vv s₂ => wpAny (model prog w) A (dictSet D kv vv) (fun _ s' => Step h₀ W g d os C its Inv i V' s') (fun _ _ => False) s₂) (fun _ _ => False) s₁) (fun _ _ => False) s) (Step h₀ W g d os C its Inv i V')) s) (fun _ _ => False) ⟨h, g, d, t, os⟩) ∧
      ∀ V' mc own h t, V.StaysIn V' → Inv n V' own → St h₀ W V' ((C, isNs mc) :: own) h → compPost (model prog w) A E use Q (.ref D) C (.ok .next) ⟨h, g, d, t, os⟩)
    (hc : ∀ x ∈ scope.names, x.2 ≠ .cell := by decide) (hk : scope.kind = .function := by rfl) :
    CompGo prog w A E env (.DictComp kx vx [⟨target, iter, ifs, 0⟩] scope pos) scope cl newDict use Q (.ref it) ⟨h, g, d, t, os⟩ := by
  unfold CompGo
  refine wpAny_newObj_type (wpAny_newFunctionEnv hc (by intro y hy; simp at hy) (fun h₁ hns hsb => ?_) hk)
  have S1 := S.push (φ := isK w prog []) { cls := .type "dict", dict := none, data := .dict #[] 0 } rfl ⟨#[], 0, ⟨rfl, rfl, rfl⟩, rfl, fun _ he => by simp at he, Pairs.nil, List.nodup_nil⟩
  have S2 := S1.frame (h' := h₁) (L := (h.push { cls := .type "dict", dict := none, data := .dict #[] 0 }).objs.size) (φ := isNs fun _ => none) (fun b o e => hsb.extBut b o (Nat.ne_of_lt (Heap.lt_size e)) (Heap.get?_push_of_some _ e)) (ns_at.mp hns) (get_top _)
  have p : List.Perm (((h.push { cls := .type "dict", dict := none, data := .dict #[] 0 }).objs.size, isNs fun _ => none) :: (its 0 ++ ((h.objs.size, isK w prog []) :: (L, isNs m) :: own)))
      (((h.push { cls := .type "dict", dict := none, data := .dict #[] 0 }).objs.size, isNs fun _ => none) :: (h.objs.size, isK w prog []) :: (L, isNs m) :: (its 0 ++ own)) :=
    .cons _ (List.perm_middle.trans (.cons _ List.perm_middle))
  have S3 := S2.perm p
  obtain ⟨Inv, i0, turn, fin⟩ := k _ _ _ (new_sys X S.le) S3
  have loop : codeAny (model prog w) A (.compLoop (.DictComp kx vx [⟨target, iter, ifs, 0⟩] scope pos) 0 (.ref it) (.ref h.objs.size) (compEnvC scope cl (h.push { cls := .type "dict", dict := none, data := .dict #[] 0 }).objs.size env))
      (compPost (model prog w) A E use Q (.ref h.objs.size) (h.push { cls := .type "dict", dict := none, data := .dict #[] 0 }).objs.size) ⟨h₁, g, d, t + ([] : List (Str × Value)).length, os⟩ := by
    refine comp_loop (emit := do
            let kv ← eval kx (compEnvC scope cl (h.push { cls := .type "dict", dict := none, data := .dict #[] 0 }).objs.size env)
            let vv ← holding [kv] (eval vx (compEnvC scope cl (h.push { cls := .type "dict", dict := none, data := .dict #[] 0 }).objs.size env))
            standAt { kx.pos with endLine := vx.pos.endLine, endCol := vx.pos.endCol }
            holding [kv, vv] (dictSet h.objs.size kv vv)) rfl rfl rfl (compTurn_dict _ _ _ _ _ _ _ _ _ _) S3 src Inv i0 (fun i x V' V'' mc own h t a b c e f S' => ?_) fin
    refine wpAny_mono (turn i x V' V'' mc own h t a b c e f S') (fun _ s q => ?_) fun _ _ z => z
    refine Tests.mono (fun b s q => ?_) _ q
    cases b with
    | false => exact q
    | true => exact wpAny_bind (wpAny_mono q (fun kv s₁ q₁ => wpAny_bind (wpAny_holding (wpAny_mono q₁ (fun vv s₂ q₂ => wpAny_bind (wpAny_standAt (wpAny_holding q₂))) fun _ _ z => z))) fun _ _ z => z)
  exact codeAny_compStart_dict loop (src.self _ _ _ _ _ _ _ _ _ _ _ (stays_refl _) S3 loop)
theorem d_set {a : Addr} {kvs : List (Str × Value)} {x : Str} {u : Tok} {v : Value} {Q : Unit → Shared → Prop} (S : St h₀ W V own h) (up : Upd1 a (isK w prog kvs) (isK w prog (stored kvs x v)) own own') (hz : kvs.length ≤ sizeLine) (k : ∀ h' t', St h₀ W V own' h' → Q () ⟨h', g, d, t', os⟩) :
    wpAny (model prog w) A (dictSet a (.str x u) v) Q E ⟨h, g, d, t, os⟩ :=
  wpAny_dictSet_pairs (strKind_is prog w x u) (dict_at.mpr (S.get up.mem)) (fun h' hd s => k _ _ (S.upd up s (dict_at.mp hd))) hz
theorem src_list {target : Expr} {it l : Addr} {xs : List Value} (hl : At V l (isLw xs)) (hh : A.handled = none) (ht : ∀ r v, letOwnedTupleGo target (.ref r) v = pure () := by intro _ _; rfl) :
    Src prog w A target h₀ W it (fun i => [(it, isLI l i)]) xs.length (fun i x V' V'' => xs[i]? = some x ∧ V'' = V') V where
  next := fun i L V' m own h g d t os Q hi hv S k => by
    have hx : xs.toArray[i]? = some xs[i] := by simp [hi]
    refine wpAny_pyNext_list_item (li_at.mpr (S.get (.tail _ (.head _)))) (list_at.mpr (S.view (hl.keeps hv))) hx fun h' q s => ?_
    exact wpAny_of_eq (ht _ _) (k _ V' h' _ (S.upd (.tail .head) s (li_at.mp q)) (stays_refl _) ⟨by simp [hi], rfl⟩)
  done := fun L V' m own h g d t os Q hv S k => by
    refine wpAny_pyNext_list_end hh (li_at.mpr (S.get (.tail _ (.head _)))) (list_at.mpr (S.view (hl.keeps hv))) (by simp) fun h' q => ?_
    exact k h' _ (S.forget q)
  self := fun L V' m own h g d t os Q E hv S k => (Walks.list hh it l (by
      have z := S.has _ (.tail _ (.head _))
      rintro rfl
      obtain ⟨o, e, _⟩ := hl.keeps hv
      rw [z.2.1] at e; cases e) xs.toArray).self 0 _ _ _ ⟨li_at.mpr (S.get (.tail _ (.head _))), list_at.mpr (S.view (hl.keeps hv))⟩ k
theorem src_tup {target : Expr} {it l : Addr} {xs : List Value} (hl : At V l (isT xs)) (hh : A.handled = none) (ht : ∀ r v, letOwnedTupleGo target (.ref r) v = pure () := by intro _ _; rfl) :
    Src prog w A target h₀ W it (fun i => [(it, isTI l i)]) xs.length (fun i x V' V'' => xs[i]? = some x ∧ V'' = V') V where
  next := fun i L V' m own h g d t os Q hi hv S k => by
    have hx : xs.toArray[i]? = some xs[i] := by simp [hi]
    refine wpAny_pyNext_tuple_item (ti_at.mpr (S.get (.tail _ (.head _)))) (tup_at.mpr (S.view (hl.keeps hv))) hx fun h' q s => ?_
    exact wpAny_of_eq (ht _ _) (k _ V' h' _ (S.upd (.tail .head) s (ti_at.mp q)) (stays_refl _) ⟨by simp [hi], rfl⟩)
  done := fun L V' m own h g d t os Q hv S k => by
    refine wpAny_pyNext_tuple_end hh (ti_at.mpr (S.get (.tail _ (.head _)))) (tup_at.mpr (S.view (hl.keeps hv))) (by simp) fun h' q => ?_
    exact k h' _ (S.forget q)
  self := fun L V' m own h g d t os Q E hv S k => (Walks.tuple hh it l (by
      have z := S.has _ (.tail _ (.head _))
      rintro rfl
      obtain ⟨o, e, _⟩ := hl.keeps hv
      rw [z.2.1] at e; cases e) xs.toArray).self 0 _ _ _ ⟨ti_at.mpr (S.get (.tail _ (.head _))), tup_at.mpr (S.view (hl.keeps hv))⟩ k
theorem it_list {f : Addr × OP} {l : Addr} {xs : List Value} {Q : Value → Shared → Prop} (S : St h₀ W V (f :: own) h) (hl : At h l (isLw xs)) (k : ∀ it h', St h₀ W V (f :: (it, isLI l 0) :: own) h' → Q (.ref it) ⟨h', g, d, t, os⟩) : wpAny (model prog w) A (pyIter (.ref l)) Q E ⟨h, g, d, t, os⟩ :=
  wpAny_pyIter_list (list_at.mpr hl) (k _ _ (S.push2 _ rfl ⟨rfl, rfl⟩))
theorem it_tup {f : Addr × OP} {l : Addr} {xs : List Value} {Q : Value → Shared → Prop} (S : St h₀ W V (f :: own) h) (hl : At h l (isT xs)) (k : ∀ it h', St h₀ W V (f :: (it, isTI l 0) :: own) h' → Q (.ref it) ⟨h', g, d, t, os⟩) : wpAny (model prog w) A (pyIter (.ref l)) Q E ⟨h, g, d, t, os⟩ :=
  wpAny_pyIter_tuple (tup_at.mpr hl) (k _ _ (S.push2 _ rfl ⟨rfl, rfl⟩))
def TurnS (h₀ W : Heap) (g : Array GenState) (d : Drawn) (os : OsState) (L : Addr) (its : Nat → List (Addr × OP)) (Inv : Nat → Heap → (Str → Option Value) → List (Addr × OP) → Prop) (R : Flow → Shared → Prop) (i : Nat) (V : Heap) (f : Flow) (s : Shared) : Prop :=
  match f with
  | .brk => R .next s
  | .ret v => R (.ret v) s
  | _ => ∃ V' m own h t, s = ⟨h, g, d, t, os⟩ ∧ St h₀ W V' ((L, isNs m) :: (its (i + 1) ++ own)) h ∧ V.StaysIn V' ∧ Inv (i + 1) V' m own
theorem TurnS.next {L : Addr} {its : Nat → List (Addr × OP)} {Inv : Nat → Heap → (Str → Option Value) → List (Addr × OP) → Prop} {R : Flow → Shared → Prop} {i : Nat} {V' : Heap} {m : Str → Option Value} (S : St h₀ W V' ((L, isNs m) :: (its (i + 1) ++ own)) h) (hv : V.StaysIn V') (k : Inv (i + 1) V' m own) :
    TurnS h₀ W g d os L its Inv R i V .next ⟨h, g, d, t, os⟩ := ⟨V', m, own, h, t, rfl, S, hv, k⟩
theorem TurnS.cont {L : Addr} {its : Nat → List (Addr × OP)} {Inv : Nat → Heap → (Str → Option Value) → List (Addr × OP) → Prop} {R : Flow → Shared → Prop} {i : Nat} {V' : Heap} {m : Str → Option Value} (S : St h₀ W V' ((L, isNs m) :: (its (i + 1) ++ own)) h) (hv : V.StaysIn V') (k : Inv (i + 1) V' m own) :
    TurnS h₀ W g d os L its Inv R i V .cont ⟨h, g, d, t, os⟩ := ⟨V', m, own, h, t, rfl, S, hv, k⟩
theorem TurnS.ret {L : Addr} {its : Nat → List (Addr × OP)} {Inv : Nat → Heap → (Str → Option Value) → List (Addr × OP) → Prop} {R : Flow → Shared → Prop} {i : Nat} {v : Value} {s : Shared} (k : R (.ret v) s) :
    TurnS h₀ W g d os L its Inv R i V (.ret v) s := k
theorem f_src {target : Expr} {body : List Stmt} {L it : Addr} {its : Nat → List (Addr × OP)} {n : Nat} {item : Nat → Value → Heap → Heap → Prop} {m : Str → Option Value} {Q : Flow → Shared → Prop} {E' : Value → Shared → Prop} (S : St h₀ W V ((L, isNs m) :: (its 0 ++ own)) h)
    (src : Src prog w A target h₀ W it its n item V) (Inv : Nat → Heap → (Str → Option Value) → List (Addr × OP) → Prop) (i0 : Inv 0 V m own)
    (turn : ∀ i x V' V'' m own h t, i < n → V.StaysIn V' → Inv i V' m own → V'.StaysIn V'' → item i x V' V'' → St h₀ W V'' ((L, isNs m) :: (its (i + 1) ++ own)) h →
      wpAny (model prog w) A (assign target env x) (fun _ s => wpAny (model prog w) A (execs body env) (TurnS h₀ W g d os L its Inv Q i V') (fun _ _ => False) s) (fun _ _ => False) ⟨h, g, d, t, os⟩)
    (fin : ∀ V' m own h t, V.StaysIn V' → Inv n V' m own → St h₀ W V' ((L, isNs m) :: own) h → Q .next ⟨h, g, d, t, os⟩) :
    codeAny (model prog w) A (.forLoop target (.ref it) body [] env) (fun r s' => match r with | .ok f => Q f s' | .error e => E' e s') ⟨h, g, d, t, os⟩ := by
  refine codeAny_forLoop_any (fun k s => ∃ i V' m own h t, k + i = n ∧ s = ⟨h, g, d, t, os⟩ ∧ V.StaysIn V' ∧ Inv i V' m own ∧ St h₀ W V' ((L, isNs m) :: (its i ++ own)) h) ?_ n ⟨0, V, m, own, h, t, by omega, rfl, stays_refl _, i0, S⟩
  rintro k s ⟨i, V', m, own, h, t, hk, rfl, hv, hI, S⟩
  cases k with
  | zero =>
    have : i = n := by omega
    subst this
    refine wpAny_mono (src.done L V' m own h g d t os (fun r s' => match r with | none => Q .next s' | some _ => False) hv S fun h' t' S' => fin V' m own h' t' hv hI S') (fun r s' q => ?_) fun _ _ z => z.elim
    cases r with
    | none => exact wpAny_execs_nil q
    | some _ => exact q.elim
  | succ k =>
    have hi : i < n := by omega
    refine wpAny_mono (src.next i L V' m own h g d t os (fun x s => wpAny (model prog w) A (assign target env x) (fun _ s => wpAny (model prog w) A (execs body env) (TurnS h₀ W g d os L its Inv Q i V') (fun _ _ => False) s) (fun _ _ => False) s) hi hv S fun x V'' h' t' S' hv' hx => turn i x V' V'' m own h' t' hi hv hI hv' hx S') (fun r s' q => ?_) fun _ _ z => z.elim
    cases r with
    | none => exact q.elim
    | some x =>
      refine wpAny_mono q (fun _ s₂ q₂ => wpAny_mono q₂ (fun _ s₃ q₃ => wpAny_mono q₃ (fun f s₄ q₄ => ?_) fun _ _ z => z.elim) fun _ _ z => z.elim) fun _ _ z => z.elim
      cases f with
      | next =>
        obtain ⟨V₃, m₃, own₃, h₃, t₃, rfl, S₃, hv₃, hI₃⟩ := q₄
        exact ⟨k, Nat.lt_succ_self _, i + 1, V₃, m₃, own₃, h₃, t₃, by omega, rfl, stays_trans hv hv₃, hI₃, S₃⟩
      | cont =>
        obtain ⟨V₃, m₃, own₃, h₃, t₃, rfl, S₃, hv₃, hI₃⟩ := q₄
        exact ⟨k, Nat.lt_succ_self _, i + 1, V₃, m₃, own₃, h₃, t₃, by omega, rfl, stays_trans hv hv₃, hI₃, S₃⟩
      | brk => exact q₄
      | ret v => exact q₄
theorem St.updNew {a T : Addr} {φ ψ χ : OP} {h' : Heap} (S : St h₀ W V own h) (u : Upd1 a φ ψ own own') (k : Heap.ExtBut a h h') (x : At h' a ψ) (y : At h' T χ) (z : h.get? T = none) : St h₀ W V ((T, χ) :: own') h' := by
  have ha := S.has _ u.mem
  have old : ∀ p ∈ own, p.1 ≠ T := fun p hp e => by
    obtain ⟨o, q, _⟩ := (S.has p hp).1
    rw [e, z] at q; cases q
  refine ⟨fun b o e => ?_, S.sub, S.old, fun b o e => ?_, fun p hp => ?_, ?_⟩
  · exact k b o (by rintro rfl; rw [ha.2.2] at e; cases e) (S.ext b o e)
  · exact k b o (by rintro rfl; rw [ha.2.1] at e; cases e) (S.le b o e)
  · rcases List.mem_cons.mp hp with rfl | hp
    · refine ⟨y, ?_, ?_⟩
      · cases e : V.get? T with
        | none => rfl
        | some o => have := S.le _ _ e; rw [z] at this; cases this
      · cases e : h₀.get? T with
        | none => rfl
        | some o => have := S.ext _ _ e; rw [z] at this; cases this
    · rcases u.mem' S.nd p hp with rfl | ⟨hp, hn⟩
      · exact ⟨x, ha.2⟩
      · have q := S.has p hp
        obtain ⟨o, e, r⟩ := q.1
        exact ⟨⟨o, k _ _ hn e, r⟩, q.2⟩
  · simp only [List.map_cons, List.nodup_cons]
    refine ⟨fun hm => ?_, by rw [u.keys]; exact S.nd⟩
    rw [u.keys] at hm
    obtain ⟨p, hp, e⟩ := List.mem_map.mp hm
    exact old p hp e
def isKe (w : World) (prog : Program) (kvs : List (Str × Value)) (ep : Nat) : OP := fun o => ∃ es, o.ExactDict ∧ o.data = .dict es ep ∧ KeysOf (strKind prog w) es ∧ Pairs (strKind prog w) es.toList kvs ∧ (kvs.map (·.1)).Nodup
theorem isK_e {a : Addr} {kvs : List (Str × Value)} (x : At h a (isK w prog kvs)) : ∃ ep, At h a (isKe w prog kvs ep) := by
  obtain ⟨o, e, es, ep, r⟩ := x
  exact ⟨ep, o, e, es, r⟩
theorem dictAt_at {a : Addr} {kvs : List (Str × Value)} {ep : Nat} (x : At h a (isKe w prog kvs ep)) : Heap.DictAt (strKind prog w) h a kvs ep := by
  obtain ⟨o, e, es, r⟩ := x
  exact ⟨o, es, e, r⟩
def isII (D : Addr) (n ep i : Nat) : OP := fun o => ∃ ok ov, o = { cls := .type "dict_itemiterator", dict := none, data := .fields #[.none, .bool false, .ref D, .int i 0, .int n 0, .int ep 0, ok, ov], slots := #[] }
theorem src_items {elts : List Expr} {kk : Nat} {pos : Pos} {it D : Addr} {kvs : List (Str × Value)} {ep : Nat} (hl : At V D (isKe w prog kvs ep)) (hh : A.handled = none) :
    Src prog w A (.Tuple elts kk pos) h₀ W it (fun i => [(it, isII D kvs.length ep i)]) kvs.length (fun i x _ V'' => ∃ k v T u, kvs[i]? = some (k, v) ∧ x = .ref T ∧ At V'' T (isT [.str k u, v])) V where
  next := fun i L V' m own h g d t os Q hi hv S k => by
    obtain ⟨kv, hx⟩ : ∃ kv, kvs[i]? = some kv := ⟨_, List.getElem?_eq_getElem hi⟩
    obtain ⟨key, v⟩ := kv
    obtain ⟨o, e, ok, ov, rfl⟩ := S.get (a := it) (.tail _ (.head _))
    refine wpAny_pyNext_items_item e (dictAt_at (S.view (hl.keeps hv))) hx fun kw h' hk he hT _ hs => ?_
    obtain ⟨u, rfl⟩ := Value.isStrOf_shape hk
    refine wpAny_letOwnedTupleGo_items he fun h'' he' hs' => ?_
    have hne : h.objs.size ≠ it := by
      rintro q
      have z := Heap.lt_size e
      simp only [q] at z
      exact Nat.lt_irrefl _ z
    have S0 : St h₀ W V' ((L, isNs m) :: (it, isII D kvs.length ep i) :: own) h := S
    have S1 : St h₀ W V' ((h.objs.size, isT [.str key u, v]) :: (L, isNs m) :: (it, isII D kvs.length ep (i + 1)) :: own) h'' := S0.updNew (.tail .head) (fun b o hb q => hs'.extBut b o hb (hs b o hb q)) ⟨_, he', .str key u, v, rfl⟩ ⟨_, hs'.extBut _ _ hne hT, rfl, 0, rfl⟩ (get_top h)
    obtain ⟨V'', S2, hv2, ha2⟩ := S1.swap.seal2
    exact k _ V'' h'' _ S2 hv2 ⟨key, v, _, u, hx, rfl, ha2⟩
  done := fun L V' m own h g d t os Q hv S k => by
    obtain ⟨o, e, ok, ov, rfl⟩ := S.get (a := it) (.tail _ (.head _))
    refine wpAny_pyNext_items_end hh e (dictAt_at (S.view (hl.keeps hv))) (by simp) fun h' q => ?_
    exact k h' _ (S.forget q)
  self := fun L V' m own h g d t os Q E hv S k => by
    obtain ⟨o, e, ok, ov, rfl⟩ := S.get (a := it) (.tail _ (.head _))
    exact kcp_self e k
theorem m_items {a : Addr} {kvs : List (Str × Value)} {pl : Sem Bool} {Q : Value × List Value → Shared → Prop} (x : At h a (isK w prog kvs)) (k : Q (.builtin "dict.items", [.ref a]) ⟨h, g, d, t, os⟩) : wpAny (model prog w) A (getMethod (.ref a) "items" pl) Q E ⟨h, g, d, t, os⟩ := by
  obtain ⟨o, e, es, ep, hx, _⟩ := x
  exact getMethod_builtin ⟨_, e, hx.1⟩ F.plainAttrs_dict F.slot_dict_items F.type_dict_items (fun a ea => by cases ea; exact ⟨_, e, hx.2.1⟩) k
theorem w_bi0 {pos : Pos} {id : String} {first : List Value} {Q : Value → Shared → Prop} {s : Shared} (x : wpAny (model prog w) A (call (.builtin id) first) Q E s) : wpAny (model prog w) A (callWith pos (.builtin id) first (backTo pos (starEach [] env)) []) Q E s := PyProof.Rows.callWith_method0 x
def isIV (D : Addr) : OP := fun o => o.cls = .type "dict_items" ∧ o.data = .fields #[.ref D]
theorem c_items {f : Addr × OP} {a : Addr} {kvs : List (Str × Value)} {Q : Value → Shared → Prop} (S : St h₀ W V (f :: own) h) (x : At h a (isK w prog kvs)) (hn : (a == sysModules) = false) (k : ∀ v h', St h₀ W V (f :: (v, isIV a) :: own) h' → Q (.ref v) ⟨h', g, d, t, os⟩) :
    wpAny (model prog w) A (call (.builtin "dict.items") [.ref a]) Q E ⟨h, g, d, t, os⟩ := by
  have hd := dict_at.mpr x
  have hT : Shared.TypeIs ⟨h, g, d, t, os⟩ (.ref a) "dict" := hd.mapOf.typeIs
  exact call_meetsIn F.slot_dict_items hT F.entry_dict_items (F.args_dict_items_1 _) (meets_dict_items (strKind prog w) a hn) ⟨⟨kvs, hd⟩, k _ _ (S.push2 _ rfl ⟨rfl, rfl⟩)⟩
theorem it_items {f : Addr × OP} {v D : Addr} {kvs : List (Str × Value)} {ep : Nat} {Q : Value → Shared → Prop} (S : St h₀ W V (f :: (v, isIV D) :: own) h) (hl : At h D (isKe w prog kvs ep)) (k : ∀ it h', St h₀ W V (f :: (it, isII D kvs.length ep 0) :: own) h' → Q (.ref it) ⟨h', g, d, t, os⟩) : wpAny (model prog w) A (pyIter (.ref v)) Q E ⟨h, g, d, t, os⟩ := by
  obtain ⟨o, e, hc, hd⟩ := S.get (a := v) (.tail _ (.head _))
  exact wpAny_pyIter_items (knd := strKind prog w) ⟨o, e, hc, hd⟩ (dictAt_at hl) (k _ _ (S.drop2.push2 (φ := isII D kvs.length ep 0) _ rfl ⟨_, _, rfl⟩))
end
section
variable {prog : Program} {w : World} {A : Around} {E : Value → Shared → Prop} {h₀ W V h : Heap} {own own' : List (Addr × OP)} {g : Array GenState} {d : Drawn} {t : Nat} {os : OsState} {env : Env} {mg mb : Str → Option Value}
theorem put_new {s : Shared} {D : Addr} {kvs : List (Str × Value)} {k : Str} {key v : Value} {Q : Unit → Shared → Prop} (hkey : (strKind prog w).is k key = true) (hm : s.heap.DictOf (strKind prog w) D kvs) (hf : k ∉ kvs.map (·.1)) (hz : kvs.length ≤ sizeLine)
    (hQ : ∀ h', h'.DictOf (strKind prog w) D (kvs ++ [(k, v)]) → Heap.SameBut D s.heap h' → Q () { s with heap := h' }) :
    wpAny (model prog w) A (dictPut D ((strKind prog w).hash k) key v) Q E s := by
  obtain ⟨o, es, ep, ho, hc, hd, hk, hp, hn⟩ := hm
  have hes : es.size ≤ sizeLine := by have e1 := hp.length; have e2 : es.toList.length = es.size := by simp
                                      omega
  unfold dictPut
  refine wpAny_bind (wpAny_dictFind_of hkey ho hd hk ?_)
  have hidx : (es.findIdx? fun e => (strKind prog w).is k e.key) = kvs.findIdx? fun kv => decide (kv.1 = k) := by
    rw [← hp.findIdx k]; obtain ⟨l⟩ := es; simp
  cases hi : es.findIdx? fun e => (strKind prog w).is k e.key with
  | some i =>
    exfalso
    have z := any_of_findIdx_some (hidx ▸ hi)
    obtain ⟨kv, hkv, he⟩ := List.any_eq_true.mp z
    exact hf (List.mem_map.mpr ⟨kv, hkv, of_decide_eq_true he⟩)
  | none =>
    refine wpAny_updateDictKeys (hz := hes) ho hd (hQ _ ⟨_, _, ep + 1, Heap.get?_update_self _ ho (Obj.isFreed_of_dict (Obj.data_mapDictKeys hd _)),
      hc.mapDictKeys _, Obj.data_mapDictKeys hd _, hk.push hkey _, ?_, ?_⟩ (Heap.SameBut.update ..))
    · have := hp.append hkey ((strKind prog w).hash k) v
      obtain ⟨l⟩ := es
      simpa using this
    · rw [List.map_append, List.nodup_append]
      refine ⟨hn, by simp, ?_⟩
      intro a ha b hb
      simp only [List.map_cons, List.map_nil, List.mem_singleton] at hb
      subst hb
      exact fun e => hf (e ▸ ha)
theorem find_none {s : Shared} {D : Addr} {kvs : List (Str × Value)} {k : Str} {key : Value} {Q : Option Nat → Shared → Prop} (hkey : (strKind prog w).is k key = true) (hm : s.heap.DictOf (strKind prog w) D kvs) (hf : k ∉ kvs.map (·.1)) (hQ : Q none s) :
    wpAny (model prog w) A (dictFind D key ((strKind prog w).hash k)) Q E s := by
  obtain ⟨o, es, ep, ho, hc, hd, hk, hp, hn⟩ := hm
  refine wpAny_dictFind_of hkey ho hd hk ?_
  have hidx : (es.findIdx? fun e => (strKind prog w).is k e.key) = kvs.findIdx? fun kv => decide (kv.1 = k) := by
    rw [← hp.findIdx k]; obtain ⟨l⟩ := es; simp
  cases hi : es.findIdx? fun e => (strKind prog w).is k e.key with
  | some i =>
    exfalso
    obtain ⟨kv, hkv, he⟩ := List.any_eq_true.mp (any_of_findIdx_some (hidx ▸ hi))
    exact hf (List.mem_map.mpr ⟨kv, hkv, of_decide_eq_true he⟩)
  | none => exact hQ
theorem mm_dict {s : Shared} {D a : Addr} {kvs : List (Str × Value)} {Q : Unit → Shared → Prop} (hD : s.heap.DictOf (strKind prog w) D []) (ha : s.heap.DictOf (strKind prog w) a kvs) (ne : D ≠ a) (hn : (a == sysModules) = false) (hz : kvs.length ≤ sizeLine)
    (hQ : ∀ h', h'.DictOf (strKind prog w) D kvs → Heap.SameBut D s.heap h' → Q () { s with heap := h' }) : wpAny (model prog w) A (mergeMapping D (.ref a) true) Q E s := by
  obtain ⟨od, esd, epd, hod, hcd, hdd, hkd, hpd, hnd⟩ := id hD
  obtain ⟨oo, eso, epo, hoo, hco, hdo, hko, hpo, hno⟩ := id ha
  have hT : s.TypeIs (.ref a) "dict" := ⟨_, hoo, hco.1⟩
  have dsub : isSubtype (.type "dict") (.type "dict") = pure true := by rw [isSubtype_type]; kernel_rfl
  unfold mergeMapping
  refine wpAny_bind (wpAny_isInstance hT dsub ?_)
  simp only [if_true]
  refine wpAny_bind (m := specialOf (.ref a) (Str.ofString "__iter__")) (wpAny_specialOf hT F.slot_dict_iter.lookup ?_)
  have e1 : ((some (Value.builtin "dict.__iter__")) == some (Value.builtin "dict.__iter__")) = true := by simp
  simp only [e1]
  refine wpAny_bind (wpAny_pure ?_)
  simp only [hn, Bool.false_eq_true, if_false]
  refine wpAny_bind (wpAny_dictEntries hod hdd ?_)
  have ed : esd = #[] := by
    have z := hpd.length
    simpa using z
  subst ed
  rw [if_pos (by rfl)]
  refine wpAny_bind (wpAny_dictEntries hoo hdo ?_)
  refine wpAny_bind (wpAny_of_eq (a := PUnit.unit) ?_ ?_)
  · rw [← Array.forIn_toList]
    refine forIn_yield_id _ fun e he c => ?_
    obtain ⟨k, hkey, _⟩ := hko e (Array.mem_toList_iff.mp he)
    obtain ⟨u, hu⟩ := Value.isStrOf_shape hkey
    rw [hu]
  refine wpAny_bind (wpAny_dictEntries hoo hdo ?_)
  refine wpAny_bind (wpAny_dictEpoch hoo hdo ?_)
  have hlen : kvs.length = eso.size := by rw [← hpo.length]; simp
  refine wpAny_bind ?_
  rw [List.range_eq_range']
  refine wpAny_forIn_list _
      (fun rest _ s' => ∃ h' i, s' = { s with heap := h' } ∧ rest = List.range' i (eso.size - i) ∧ i ≤ eso.size ∧ h'.DictOf (strKind prog w) D (kvs.take i) ∧ h'.get? a = some oo ∧ Heap.SameBut D s.heap h')
      _ ?_ ?_ _ _ ⟨s.heap, 0, rfl, by simp, Nat.zero_le _, by simpa using hD, hoo, Heap.SameBut.refl _ _⟩
  · rintro x rest b s' ⟨h', i, rfl, hr, hi, hd', hoo', hs'⟩
    have hlt : i < eso.size := by
      rcases Nat.lt_or_ge i eso.size with h | h
      · exact h
      · rw [Nat.sub_eq_zero_of_le h] at hr; simp at hr
    obtain ⟨rfl, hrest⟩ : x = i ∧ rest = List.range' (i + 1) (eso.size - (i + 1)) := by
      have e : eso.size - i = (eso.size - (i + 1)) + 1 := by omega
      rw [e, List.range'_succ] at hr
      injection hr with h1 h2
      exact ⟨h1, h2⟩
    refine wpAny_bind (wpAny_dictEntries hoo' hdo ?_)
    rw [Array.getElem?_eq_getElem hlt]
    obtain ⟨kv, hkv⟩ : ∃ kv, kvs[x]? = some kv := ⟨kvs[x]'(by rw [hlen]; exact hlt), List.getElem?_eq_getElem _⟩
    obtain ⟨k, v⟩ := kv
    obtain ⟨hkey, hval⟩ := hpo.get? (e := eso[x]) (by simp [hlt]) hkv
    obtain ⟨k', hkey', hhash⟩ := hko eso[x] (Array.getElem_mem hlt)
    obtain rfl : k' = k := (strKind prog w).inj _ _ _ hkey' hkey
    have fresh : k' ∉ (kvs.take x).map (·.1) := by
      have hn2 : ((kvs.take (x + 1)).map (·.1)).Nodup := (List.Sublist.map _ (List.take_sublist _ _)).nodup hno
      rw [List.take_add_one, hkv, Option.toList_some, List.map_append, List.nodup_append] at hn2
      exact fun hm => hn2.2.2 k' hm k' (by simp) rfl
    have hz2 : (kvs.take x).length ≤ sizeLine := Nat.le_trans (by rw [List.length_take]; omega) hz
    dsimp only
    refine wpAny_bind (wpAny_holding ?_)
    simp only [if_true, hhash, hval]
    refine wpAny_bind (find_none hkey hd' fresh ?_)
    simp only [Option.isSome_none, Bool.false_eq_true, if_false]
    refine put_new hkey hd' fresh hz2 fun h'' hd'' hs'' => ?_
    have hoo'' : h''.get? a = some oo := (hs''.2 a ne.symm).trans hoo'
    refine wpAny_bind (wpAny_dictEpoch hoo'' hdo ?_)
    rw [if_neg (by simp)]
    exact wpAny_pure ⟨h'', x + 1, rfl, hrest, hlt, by rw [List.take_add_one, hkv]; exact hd'', hoo'', hs'.trans hs''⟩
  · rintro b s' ⟨h', i, rfl, hr, hi, hd', hoo', hs'⟩
    have hin : i = eso.size := by
      rcases Nat.lt_or_ge i eso.size with h | h
      · have e : eso.size - i = (eso.size - (i + 1)) + 1 := by omega
        rw [e, List.range'_succ] at hr; exact nomatch hr
      · exact Nat.le_antisymm hi h
    refine wpAny_pure (hQ h' ?_ hs')
    rw [hin, ← hlen, List.take_length] at hd'; exact hd'
theorem kw_in {s : Shared} {f : Value} {D : Addr} {kvs : List (Str × Value)} {Q : List (Str × Value) → Shared → Prop} (hD : s.heap.DictOf (strKind prog w) D kvs) (hQ : Q kvs s) : wpAny (model prog w) A (keywordsIn f D) Q E s := by
  obtain ⟨o, es, ep, ho, hc, hd, hk, hp, hn⟩ := hD
  unfold keywordsIn
  refine wpAny_bind (wpAny_dictEntries ho hd ?_)
  refine wpAny_bind ?_
  rw [← Array.forIn_toList]
  have key : ∀ (l : List DictEntry) (m : List (Str × Value)), Pairs (strKind prog w) l m → ∃ f, f = m ∧ True := fun _ m _ => ⟨m, rfl, trivial⟩
  refine wpAny_forIn_list _ (fun rest b s' => s' = s ∧ ∃ done more, kvs = done ++ more ∧ b = done ∧ Pairs (strKind prog w) rest more) _ ?_ ?_ _ _ ⟨rfl, [], kvs, rfl, rfl, hp⟩
  · rintro e rest b s' ⟨rfl, done, more, rfl, rfl, hpr⟩
    cases hpr with
    | @cons _ kv _ more' h1 h2 h3 =>
      obtain ⟨u, hu⟩ := Value.isStrOf_shape h1
      rw [hu]
      exact wpAny_pure ⟨rfl, b ++ [(kv.1, e.val)], more', by rw [h2]; simp, rfl, h3⟩
  · rintro b s' ⟨rfl, done, more, rfl, rfl, hpr⟩
    cases hpr with
    | nil => exact wpAny_pure (by simpa using hQ)
def KwGo (prog : Program) (w : World) (h₀ W : Heap) (D : Addr) (K : List (Str × Value) → Shared → Prop) (v : Value) (s : Shared) : Prop :=
  ∃ a kvs V own own' h g d t os, s = ⟨h, g, d, t, os⟩ ∧ v = .ref a ∧ At h a (isK w prog kvs) ∧ D ≠ a ∧ (a == sysModules) = false ∧ kvs.length ≤ sizeLine ∧ St h₀ W V own h ∧ Upd1 D (isK w prog []) (isK w prog kvs) own own' ∧
    ∀ h', St h₀ W V own' h' → K kvs ⟨h', g, d, t, os⟩
theorem merged_one {f : Value} {x : Sem Value} {fr : Addr × OP} {Q : Addr → Shared → Prop} (S : St h₀ W V (fr :: own) h)
    (k : ∀ D h', St h₀ W V (fr :: (D, isK w prog []) :: own) h' → wpAny (model prog w) A x (KwGo prog w h₀ W D fun kvs s => s.heap.DictOf (strKind prog w) D kvs → Q D s) (fun _ _ => False) ⟨h', g, d, t, os⟩) :
    wpAny (model prog w) A (mergedKeywords f [(none, x)]) Q E ⟨h, g, d, t, os⟩ := by
  unfold mergedKeywords
  refine wpAny_bind (wpAny_alloc ?_)
  refine wpAny_bind (wpAny_holding ?_)
  have k := k _ _ (k_new (prog := prog) (w := w) (n := 0) S)
  refine wpAny_bind ?_
  refine wpAny_forIn_list _ (fun rest b s' => b = [] ∧ ((rest = [(none, x)] ∧ s' = ⟨h.push { cls := .type "dict", data := .dict #[] }, g, d, t, os⟩) ∨ (rest = [] ∧ Q h.objs.size s'))) _ ?_ ?_ _ _ ⟨rfl, .inl ⟨rfl, rfl⟩⟩
  · rintro e rest b s' ⟨rfl, ⟨he, rfl⟩ | ⟨he, _⟩⟩
    · cases he
      dsimp only
      refine wpAny_bind ?_
      rw [if_pos (by rfl)]
      refine wpAny_pure ?_
      refine wpAny_bind (wpAny_mono k (fun v s₁ q => ?_) fun _ _ z => z.elim)
      obtain ⟨a, kvs, V₁, own₁, own₂, h₁, g₁, d₁, t₁, os₁, rfl, rfl, ha, ne, hn, hz, S₁, up, k₁⟩ := q
      refine wpAny_bind (wpAny_onRaise (wpAny_holding (wpAny_tryCatch (wpAny_onRaise ?_))))
      refine mm_dict (dict_at.mpr (S₁.get up.mem)) (dict_at.mpr ha) ne hn hz fun h' hD hs => wpAny_pure ⟨rfl, .inr ⟨rfl, k₁ h' (S₁.upd up hs (dict_at.mp hD)) hD⟩⟩
    · cases he
  · rintro b s' ⟨rfl, ⟨he, rfl⟩ | ⟨he, hq⟩⟩
    · cases he
    · dsimp only
      rw [if_pos (by rfl)]
      exact wpAny_pure (wpAny_pure hq)
end
section
variable {prog : Program} {w : World} {A : Around} {E : Value → Shared → Prop} {h₀ W V h : Heap} {own own' : List (Addr × OP)} {g : Array GenState} {d : Drawn} {t : Nat} {os : OsState} {env : Env} {mg mb : Str → Option Value}
theorem St.grow {h' : Heap} (S : St h₀ W V own h) (q : h.StaysIn h') : St h₀ W V own h' :=
  ⟨stays_trans S.ext q, S.sub, S.old, stays_trans S.le q, fun p hp => ⟨(S.has p hp).1.keeps q, (S.has p hp).2⟩, S.nd⟩
def Keep (prog : Program) (w : World) (f : Value) (h : Heap) : Prop := ∃ k, Looks (model prog w) h (keeperOf f) k
theorem keep_K {f : Value} (S : St h₀ W V own h) (X : WF w.params mg mb V) (hk : keepIn (hd.heap_39 w.params) f = true) : Keep prog w f h :=
  let ⟨k, _, q⟩ := keeps_K (M := model prog w) hk h (X.K.keeps S.le); ⟨k, q⟩
theorem keep_I {x C dx : Addr} {l : List (Str × Value)} (hx : At h x (isI C dx)) (hm : At h dx (isD l)) : Keep prog w (.ref x) h := by
  obtain ⟨es, n, I, _⟩ := inst_at hx hm
  exact ⟨_, kco_keeper (M := model prog w) I rfl⟩
theorem w_any {pos : Pos} {f : Value} {first : List Value} {args : List (Bool × Sem Value)} {keywords : List (Option Str × Sem Value)} {Q : Value → Shared → Prop} {s : Shared}
    (x : wpAny (model prog w) A (evalArgs f true args keywords) (fun a s₁ => Keep prog w f s₁.heap ∧ wpAny (model prog w) A (call f (first ++ a.pos) a.kw) Q E s₁) E s) : wpAny (model prog w) A (callWith pos f first args keywords) Q E s := by
  unfold callWith
  refine wpAny_bind (wpAny_holding (wpAny_mono x (fun a s₁ h₁ => wpAny_bind (wpAny_standAt ?_)) fun _ _ x => x))
  obtain ⟨⟨k, L⟩, h₂⟩ := h₁
  refine wpAny_bind (L.here ?_)
  have tail : ∀ {t : Sem Value}, wpAny (model prog w) A t Q E s₁ → wpAny (model prog w) A (t >>= fun r => holding [r] point >>= fun _ => pure r) Q E s₁ :=
    fun ht => wpAny_bind (wpAny_mono ht (fun r s₂ hr => wpAny_bind (wpAny_holding (wpAny_point (wpAny_pure hr)))) fun _ _ x => x)
  have marked (mk : Value) : wpAny (model prog w) A (callMarked mk f (first ++ a.pos) a.kw) Q E s₁ := by unfold callMarked; exact Calls.wpAny_keep h₂
  generalize hb : (args.any (·.1) || keywords.any (·.1.isNone)) = b
  cases k <;> cases b <;> dsimp only <;> first
    | exact tail (marked _)
    | exact tail (wpAny_operateT h₂)
    | exact tail h₂
    | exact wpAny_ite (by split <;> first | exact tail h₂ | exact tail (marked _))
def Called (prog : Program) (w : World) (A : Around) (E : Value → Shared → Prop) (f : Value) (first : List Value) (Q : Value → Shared → Prop) (vs : List Value) (kw : List (Str × Value)) (s : Shared) : Prop := Keep prog w f s.heap ∧ wpAny (model prog w) A (call f (first ++ vs) kw) Q E s
theorem Called.k {f : Value} {first vs : List Value} {kw : List (Str × Value)} {Q : Value → Shared → Prop} (S : St h₀ W V own h) (X : WF w.params mg mb V) (hk : keepIn (hd.heap_39 w.params) f = true) (x : wpAny (model prog w) A (call f (first ++ vs) kw) Q E ⟨h, g, d, t, os⟩) :
    Called prog w A E f first Q vs kw ⟨h, g, d, t, os⟩ := ⟨keep_K S X hk, x⟩
theorem Called.i {a C dx : Addr} {l : List (Str × Value)} {first vs : List Value} {kw : List (Str × Value)} {Q : Value → Shared → Prop} (hx : At h a (isI C dx)) (hm : At h dx (isD l)) (x : wpAny (model prog w) A (call (.ref a) (first ++ vs) kw) Q E ⟨h, g, d, t, os⟩) :
    Called prog w A E (.ref a) first Q vs kw ⟨h, g, d, t, os⟩ := ⟨keep_I hx hm, x⟩
theorem w_kw {pos : Pos} {f : Value} {first : List Value} {e : Expr} {rest : List Expr} {kws : List Keyword} {Q : Value → Shared → Prop} {s : Shared}
    (x : wpAny (model prog w) A (spliced (backTo pos (starEach (e :: rest) env))) (fun vs s₁ => wpAny (model prog w) A (evalAll ((backToKw pos (keywordEach kws env)).map (·.2)))
      (fun ks s₂ => Called prog w A E f first Q vs (((backToKw pos (keywordEach kws env)).filterMap (·.1)).zip ks) s₂) E s₁) E s)
    (hall : (backToKw pos (keywordEach kws env)).all (·.1.isSome) = true := by rfl) (he : starEach (e :: rest) env = (false, eval e env) :: starEach rest env := by rfl) :
    wpAny (model prog w) A (callWith pos f first (backTo pos (starEach (e :: rest) env)) (backToKw pos (keywordEach kws env))) Q E s := w_any (evalArgs_kw2 hall x he)
theorem w_kw0 {pos : Pos} {f : Value} {first : List Value} {kws : List Keyword} {Q : Value → Shared → Prop} {s : Shared}
    (x : wpAny (model prog w) A (evalAll ((backToKw pos (keywordEach kws env)).map (·.2))) (fun ks s₂ => Called prog w A E f first Q [] (((backToKw pos (keywordEach kws env)).filterMap (·.1)).zip ks) s₂) E s)
    (hall : (backToKw pos (keywordEach kws env)).all (·.1.isSome) = true := by rfl) :
    wpAny (model prog w) A (callWith pos f first (backTo pos (starEach [] env)) (backToKw pos (keywordEach kws env))) Q E s := w_any (evalArgs_kw2_nil hall x)
theorem ka_nil {pos : Pos} {Q : List Value → Shared → Prop} {s : Shared} (x : Q [] s) : wpAny (model prog w) A (evalAll ((backToKw pos (keywordEach [] env)).map (·.2))) Q E s := kwAll_nil x
theorem ka_cons {pos p : Pos} {name : Str} {value : Expr} {rest : List Keyword} {Q : List Value → Shared → Prop} {s : Shared}
    (x : wpAny (model prog w) A (eval value env) (fun v s₁ => wpAny (model prog w) A (evalAll ((backToKw pos (keywordEach rest env)).map (·.2))) (fun vs s₂ => Q (v :: vs) s₂) E s₁) E s) :
    wpAny (model prog w) A (evalAll ((backToKw pos (keywordEach (⟨some name, value, p⟩ :: rest) env)).map (·.2))) Q E s := kwAll_cons x
theorem e_callk {func : Expr} {args : List Expr} {kws : List Keyword} {pos : Pos} {Q : Value → Shared → Prop} {s : Shared} (x : wpAny (model prog w) A (eval func env) (fun f s₁ => wpAny (model prog w) A (callWith pos f [] (backTo pos (starEach args env)) (backToKw pos (keywordEach kws env))) Q E s₁) E s)
    (he : eval (.Call func args kws pos) env = (do callWith pos (← eval func env) [] (backTo pos (starEach args env)) (backToKw pos (keywordEach kws env))) := by rfl) : wpAny (model prog w) A (eval (.Call func args kws pos) env) Q E s := by
  rw [he]; exact wpAny_bind x
theorem w_names {pos p : Pos} {f : Value} {first : List Value} {value : Expr} {fr : Addr × OP} {Q : Value → Shared → Prop} (S : St h₀ W V (fr :: own) h)
    (k : ∀ D h', St h₀ W V (fr :: (D, isK w prog []) :: own) h' → wpAny (model prog w) A (eval value env) (KwGo prog w h₀ W D fun kvs s => Called prog w A E f first Q [] kvs s) (fun _ _ => False) ⟨h', g, d, t, os⟩) :
    wpAny (model prog w) A (callWith pos f first (backTo pos (starEach [] env)) (backToKw pos (keywordEach [⟨none, value, p⟩] env))) Q E ⟨h, g, d, t, os⟩ := by
  refine w_any ?_
  show wpAny _ _ (evalArgs f true [] [(none, do let v ← eval value env; standAt pos; pure v)]) _ _ _
  unfold evalArgs
  refine wpAny_bind (wpAny_of_eq (a := []) rfl ?_)
  refine wpAny_bind (wpAny_pure ?_)
  refine wpAny_holding ?_
  rw [if_neg (by simp)]
  refine wpAny_bind (merged_one (prog := prog) S fun D h' S' => wpAny_bind (wpAny_mono (k D h' S') (fun v s q => wpAny_bind (wpAny_standAt (wpAny_pure ?_))) fun _ _ z => z))
  obtain ⟨a, kvs, V₁, own₁, own₂, h₁, g₁, d₁, t₁, os₁, rfl, rfl, ha, ne, hn, hz, S₁, up, k₁⟩ := q
  refine ⟨a, kvs, V₁, own₁, own₂, h₁, g₁, d₁, t₁, os₁, rfl, rfl, ha, ne, hn, hz, S₁, up, fun h'' S'' hD => ?_⟩
  refine wpAny_bind (wpAny_pure ?_)
  exact wpAny_bind (wpAny_holding (kw_in hD (wpAny_pure (k₁ h'' S''))))
theorem w_both {pos p q : Pos} {f : Value} {first : List Value} {lst value : Expr} {fr : Addr × OP} {Q : Value → Shared → Prop} (S : St h₀ W V (fr :: own) h)
    (k : wpAny (model prog w) A (eval lst env) (fun lv s₁ => ∃ l xs V own h g d t os, s₁ = ⟨h, g, d, t, os⟩ ∧ lv = .ref l ∧ At V l (isT xs) ∧ xs.length ≤ sizeLine ∧ St h₀ W V (fr :: own) h ∧
      ∀ D h', St h₀ W V (fr :: (D, isK w prog []) :: own) h' → wpAny (model prog w) A (eval value env) (KwGo prog w h₀ W D fun kvs s => At s.heap l (isT xs) ∧ ∃ V own h g d t os, s = ⟨h, g, d, t, os⟩ ∧ St h₀ W V own h ∧ ∀ h', St h₀ W V own h' → Called prog w A E f first Q xs kvs ⟨h', g, d, t, os⟩) (fun _ _ => False) ⟨h', g, d, t, os⟩) E ⟨h, g, d, t, os⟩)
    (he : starEach [.Starred lst q] env = [(true, eval lst env)] := by rfl) :
    wpAny (model prog w) A (callWith pos f first (backTo pos (starEach [.Starred lst q] env)) (backToKw pos (keywordEach [⟨none, value, p⟩] env))) Q E ⟨h, g, d, t, os⟩ := by
  refine w_any ?_
  rw [he]
  show wpAny _ _ (evalArgs f true [(true, do let v ← eval lst env; standAt pos; pure v)] [(none, do let v ← eval value env; standAt pos; pure v)]) _ _ _
  unfold evalArgs
  refine wpAny_bind (wpAny_bind (wpAny_mono k (fun lv s₁ hl => wpAny_bind (wpAny_standAt (wpAny_pure ?_))) fun _ _ z => z))
  obtain ⟨l, xs, V₀, own₀, h₁, g₁, d₁, t₁, os₁, rfl, rfl, hl, hzx, S₁, k⟩ := hl
  refine wpAny_bind (wpAny_pure ?_)
  refine wpAny_holding ?_
  rw [if_neg (by simp)]
  refine wpAny_bind (merged_one (prog := prog) S₁ fun D h' S' => wpAny_bind (wpAny_mono (k D h' S') (fun v s q => wpAny_bind (wpAny_standAt (wpAny_pure ?_))) fun _ _ z => z))
  obtain ⟨a, kvs, V₁, own₁, own₂, h₂, g₂, d₂, t₂, os₂, rfl, rfl, ha, ne, hn, hz, S₂, up, k₁⟩ := q
  refine ⟨a, kvs, V₁, own₁, own₂, h₂, g₂, d₂, t₂, os₂, rfl, rfl, ha, ne, hn, hz, S₂, up, fun h'' S'' hD => ?_⟩
  obtain ⟨hl', V₃, own₃, h₃, g₃, d₃, t₃, os₃, e, S₃, k₃⟩ := k₁ h'' S''
  cases e
  obtain ⟨o, eo, ec, n, ed⟩ := hl'
  have hT : Shared.TypeIs ⟨h'', g₂, d₂, t₂, os₂⟩ (.ref l) "tuple" := ⟨o, eo, ec⟩
  refine wpAny_bind ?_
  unfold notIterableAtAll
  refine wpAny_bind (wpAny_bind (wpAny_specialOf hT PySem.F.slot_tuple_iter.lookup ?_))
  rw [if_pos (by rfl)]
  refine wpAny_pure ?_
  rw [if_neg (by simp)]
  refine wpAny_holding (wpAny_collect_seq l (.inr rfl) eo ec ed (fun h₄ hk => ?_) (by rw [List.size_toArray]; exact hzx))
  refine wpAny_bind (wpAny_holding (kw_in (hD.keep hk) (wpAny_pure ?_)))
  exact k₃ h₄ (S₃.grow hk)
end
section
variable {prog : Program} {w : World} {A : Around} {E : Value → Shared → Prop} {h₀ W V h : Heap} {own own' : List (Addr × OP)} {g : Array GenState} {d : Drawn} {t : Nat} {os : OsState} {env : Env} {mg mb : Str → Option Value}
theorem St.start (le : W.StaysIn h) : St h W W [] h := ⟨stays_refl _, stays_refl _, fun _ _ e => .inl e, le, (fun _ hp => nomatch hp), List.nodup_nil⟩
def Bound (prog : Program) (w : World) (A : Around) (h₀ W : Heap) (g : Array GenState) (d : Drawn) (os : OsState) (qual : Str) (scope : Scope) (f : Addr) (cdv : Value) (cl : List (Str × Addr)) (body : List Stmt) (Q : Value → Shared → Prop) (binds : List (Str × Value)) (s : Shared) : Prop :=
  ∃ V own h t, s = ⟨h, g, d, t, os⟩ ∧ St h₀ W V own h ∧ W.StaysIn V ∧ (binds.all fun y => decide (scope.names.lookup y.1 = some .local)) = true ∧
    ∀ L h₁ t', St h₀ W V ((L, isNs fun x => binds.reverse.lookup x) :: own) h₁ → wpAny (model prog w) (A.deeper (envX qual scope L f cdv cl)) (execs body (envX qual scope L f cdv cl)) (Done Q) (fun _ _ => False) ⟨h₁, g, d, t', os⟩
theorem c_bind {name qual : Str} {params : Arguments} {body : List Stmt} {scope : Scope} {dV kV doc pm cdv ct oc : Value} {an od : Option Addr} {osl : Array (Option Value)} {f : Addr} {args : List Value} {kw : List (Str × Value)} {R : Result → Shared → Prop} {Q : Value → Shared → Prop}
    (le : V.StaysIn h) (X : WF w.params mg mb V) (ho : (hd.heap_39 w.params).lookup f = some ⟨oc, od, .func (fnX name qual params body scope [] dV kV doc pm an cdv ct), osl⟩) (hcd : codeIn (hd.heap_39 w.params) cdv qual = true) (hroom : A.depth < recursionLimit)
    (hR : ∀ v s, Q v s → R (.ok (.ret v)) s)
    (k : St h V V [] h → wpAny (model prog w) A.in1 (bindArgs (fnX name qual params body scope [] dV kV doc pm an cdv ct) ⟨args, kw⟩) (Bound prog w A h V g d os qual scope f cdv [] body Q) (fun _ _ => False) ⟨h, g, d, t, os⟩)
    (hcell : ∀ x ∈ scope.names, x.2 ≠ .cell := by decide) (hco : scope.isCoroutine = false := by rfl) (hgen : scope.isGenerator = false := by rfl) (hk : scope.kind = .function := by rfl) :
    codeAny (model prog w) A (.call (.ref f) ⟨args, kw⟩) R ⟨h, g, d, t, os⟩ := by
  have XK := X.K.keeps le
  refine codeAny_call_function (fd := fnX name qual params body scope [] dV kV doc pm an cdv ct) (body := body) hroom (XK _ _ ho) rfl hco hgen rfl (codeRec_of XK hcd) ?_
  refine wpAny_mono (k (St.start le)) (fun binds s q => ?_) fun _ _ z => z.elim
  obtain ⟨V', own', h', t', rfl, S, hv, hloc, q⟩ := q
  refine wpAny_newFunctionEnv hcell (locs hloc) (fun h₁ hns hsb => ?_) hk
  have hk₁ : h'.StaysIn h₁ := fun b o e => hsb.extBut b o (Nat.ne_of_lt (Heap.lt_size e)) (Heap.get?_push_of_some _ e)
  refine ⟨(X.nl.keeps hv).keeps (stays_trans S.le hk₁), codeAny_func ?_⟩
  refine wpAny_mono (q h'.objs.size h₁ _ (S.frame hk₁ (ns_at.mp hns) (get_top h'))) (fun fl s' q => ?_) fun _ _ q => q.elim
  cases fl <;> exact hR _ _ q
theorem b_alloc {α : Type} {K : Frag} {o : Obj} {φ : OP} {Q : α → Shared → Prop} (S : St h₀ W V own h) (X : K.In h) (hf : o.isFreed = false) (hφ : φ o) : ∀ (tree : Sem α) (g₁ : Addr → Sem α), peekA K ⟨prog, w.params⟩ tree = some (o, g₁) →
    (∀ D h', D = h.objs.size → St h₀ W V ((D, φ) :: own) h' → wpAny (model prog w) A (g₁ D) Q E ⟨h', g, d, t, os⟩) → wpAny (model prog w) A tree Q E ⟨h, g, d, t, os⟩ := by
  intro tree
  induction tree with
  | rule _ k ih => intro g₁ e q Γ p hΓ; exact ih () g₁ e q Γ p hΓ
  | point _ k ih => intro g₁ e q Γ p hΓ; exact ih () g₁ e q Γ p hΓ
  | ask k ih => intro g₁ e q Γ p hΓ; exact ih _ g₁ e q Γ p hΓ
  | load a _ k ih =>
    intro g₁ e q Γ p hΓ
    simp only [peekA] at e
    split at e
    · rename_i ob ho; exact ⟨ob, X _ _ ho, ih ob g₁ e q Γ p hΓ⟩
    · cases e
  | alloc ob k _ =>
    intro g₁ e q
    have e : some (ob, k) = some (o, g₁) := e
    obtain ⟨e1, e2⟩ := Prod.mk.inj (Option.some.inj e)
    subst e1
    subst e2
    show wpAny _ A (alloc ob >>= k) Q E _
    exact wpAny_bind (wpAny_alloc (q _ _ rfl (S.push ob hf hφ)))
  | _ => intro g₁ e; cases e
def isE (es : List DictEntry) (n : Nat) : OP := fun o => o = dictOf es n
theorem b_ns {D : Addr} {es : List DictEntry} {n : Nat} {k : Str} {v : Value} {Q : Unit → Shared → Prop} (S : St h₀ W V ((D, isE es n) :: own) h) (hs : ∀ e ∈ es, e.key.isStr k = false) (hr : ∀ e ∈ es, e.refKey = false)
    (q : ∀ h', St h₀ W V ((D, isE (es ++ [⟨PyData.keyHash w.params k, .str k t, v⟩]) (n + 1)) :: own) h' → Q () ⟨h', g, d, t + 1, os⟩) : wpAny (model prog w) A (nsSet D k v) Q E ⟨h, g, d, t, os⟩ := by
  obtain ⟨o, De, rfl⟩ := S.get (.head _)
  have e1 : es.any (·.key.isStr k) = false := by
    cases q : es.any (·.key.isStr k) with
    | false => rfl
    | true => obtain ⟨e, he, z⟩ := List.any_eq_true.mp q; rw [hs e he] at z; cases z
  have e2 : es.any (·.refKey) = false := by
    cases q : es.any (·.refKey) with
    | false => rfl
    | true => obtain ⟨e, he, z⟩ := List.any_eq_true.mp q; rw [hr e he] at z; cases z
  have e : Obj.putName k (PyData.keyHash w.params k) (.str k t) v (dictOf es n) = dictOf (es ++ [⟨PyData.keyHash w.params k, .str k t, v⟩]) (n + 1) := by
    rw [putName_dict, putL_new hs]
    show dictOf _ (if es.any (·.key.isStr k) then n else n + 1) = _
    rw [e1, if_neg Bool.false_ne_true]
  have c : aRefKeyMayBeTheName k es.toArray = false := by
    rw [aRefKeyMayBeTheName_at, ← Array.any_toList, ← Array.any_toList]
    show (!es.any (·.key.isStr k) && es.any (·.refKey)) = false
    rw [e2, Bool.and_false]
  unfold nsSet
  refine wpAny_bind (wpAny_bind (wpAny_askSetting (wpAny_pure (wpAny_bind (wpAny_mkText (wpAny_bind (wpAny_loadPart De ?_)))))))
  dsimp only
  rw [c]
  have up : (h.update D (Obj.putName k (PyData.keyHash w.params k) (.str k t) v)).get? D = some (dictOf (es ++ [⟨PyData.keyHash w.params k, .str k t, v⟩]) (n + 1)) := by
    rw [← e]
    exact Heap.get?_update_self _ De (by rw [e]; rfl)
  exact wpAny_updatePart De (q _ (S.upd .head (Heap.SameBut.update ..) ⟨_, up, rfl⟩))
theorem b_fill {D : Addr} {Q : PUnit → Shared → Prop} : ∀ (ex : List (Str × Value)) (h : Heap) (t : Nat) (es : List DictEntry) (n : Nat), St h₀ W V ((D, isE es n) :: own) h →
    (∀ e ∈ es, ∀ x ∈ ex, e.key.isStr x.1 = false) → (∀ e ∈ es, e.refKey = false) → (ex.map (·.1)).Nodup →
    (∀ h' t', St h₀ W V ((D, isE (es ++ kwEs w.params t ex) (n + ex.length)) :: own) h' → Q ⟨⟩ ⟨h', g, d, t', os⟩) →
    wpAny (model prog w) A (forIn ex PUnit.unit fun x _ => (nsSet D x.1 x.2 >>= fun _ => pure (ForInStep.yield PUnit.unit))) Q E ⟨h, g, d, t, os⟩
  | [], h, t, es, n, S, _, _, _, k => by
    rw [List.forIn_nil]
    refine wpAny_pure (k h t ?_)
    show St h₀ W V ((D, isE (es ++ []) n) :: own) h
    rw [List.append_nil]
    exact S
  | x :: r, h, t, es, n, S, hs, hr, hn, k => by
    obtain ⟨hn1, hn2⟩ := List.nodup_cons.mp (show (x.1 :: r.map (·.1)).Nodup from hn)
    rw [List.forIn_cons]
    refine wpAny_bind (wpAny_bind (b_ns S (fun e he => hs e he x (.head _)) hr fun h' S' => wpAny_pure ?_))
    show wpAny (model prog w) A (forIn r PUnit.unit fun x _ => (nsSet D x.1 x.2 >>= fun _ => pure (ForInStep.yield PUnit.unit))) Q E _
    refine b_fill r h' (t + 1) _ _ S' (fun e he y hy => ?_) (fun e he => ?_) hn2 fun h'' t'' S'' => k h'' t'' ?_
    · rcases List.mem_append.mp he with he | he
      · exact hs e he y (.tail _ hy)
      · obtain rfl := List.mem_singleton.mp he
        show (x.1 == y.1) = false
        exact beq_eq_false_iff_ne.mpr fun q => hn1 (by rw [q]; exact List.mem_map_of_mem hy)
    · rcases List.mem_append.mp he with he | he
      · exact hr e he
      · obtain rfl := List.mem_singleton.mp he
        rfl
    · have t2 : n + 1 + r.length = n + (r.length + 1) := by omega
      rw [t2, List.append_assoc] at S''
      exact S''
theorem St.weak {a : Addr} {φ ψ : OP} (S : St h₀ W V ((a, φ) :: own) h) (k : ∀ o, φ o → ψ o) : St h₀ W V ((a, ψ) :: own) h := by
  refine ⟨S.ext, S.sub, S.old, S.le, fun p hp => ?_, S.nd⟩
  rcases List.mem_cons.mp hp with rfl | hp
  · have z := S.has _ (.head _)
    obtain ⟨o, e, q⟩ := z.1
    exact ⟨⟨o, e, k o q⟩, z.2⟩
  · exact S.has p (.tail _ hp)
theorem b_kwargs {K : Frag} {tree : Sem (List (Str × Value))} {g₁ : Addr → Sem (List (Str × Value))} {ex front : List (Str × Value)} {nm : Str} {Q : List (Str × Value) → Shared → Prop} (S : St h₀ W V own h) (XW : WF w.params mg mb V) (X : K.In h) (hn : kwDistinct ex = true)
    (hp : peekA K ⟨prog, w.params⟩ tree = some (dictOf [] 0, g₁))
    (hk₁ : ∀ D, g₁ D = (forIn ex PUnit.unit (fun x _ => (nsSet D x.1 x.2 >>= fun _ => pure (ForInStep.yield PUnit.unit))) >>= fun _ => pure (front ++ [(nm, Value.ref D)])))
    (k : ∀ D h' t', (D == sysModules) = false → St h₀ W V ((D, isK w prog ex) :: own) h' → Q (front ++ [(nm, .ref D)]) ⟨h', g, d, t', os⟩) : wpAny (model prog w) A tree Q E ⟨h, g, d, t, os⟩ := by
  refine b_alloc (φ := isE [] 0) S X rfl rfl tree g₁ hp fun D h' e S' => ?_
  subst e
  rw [hk₁]
  refine wpAny_bind (b_fill ex h' t [] 0 S' (fun _ he => nomatch he) (fun _ he => nomatch he) (kwDistinct_nodup hn) fun h'' t'' S'' => wpAny_pure (k _ h'' t'' (new_sys XW S.le) (S''.weak fun o e => ?_)))
  have e : o = dictOf ([] ++ kwEs w.params t ex) (0 + ex.length) := e
  rw [e]
  exact kp_isDict t (0 + ex.length) (kwDistinct_nodup hn)
end
theorem Room.make {A : Around} {n : Nat} {C : Addr} {vals : List Value} {kw : List (Str × Value)} (R : Room A (n + 1)) : Room (A.under (.builtin "type.__call__" ⟨.ref C :: vals, kw⟩)) n :=
  ⟨by have := R.dp; show A.depth + 1 + n ≤ 900; omega, by have := R.un; show A.units + 1 + 10 * n ≤ 9000; omega, R.hd⟩
section
variable {prog : Program} {w : World} {A : Around} {E : Value → Shared → Prop} {h₀ W V h : Heap} {own own' : List (Addr × OP)} {g : Array GenState} {d : Drawn} {t : Nat} {os : OsState} {env : Env} {mg mb : Str → Option Value}
theorem St.back {V₂ h₂ : Heap} {f : Addr × OP} {dx : Addr} {φ : OP} {own₂ news : List (Addr × OP)} (S : St h₀ W V (f :: (dx, φ) :: own) h) (R : St (only h fun b => b ≠ dx) V V₂ own₂ h₂) (hm : ∀ p ∈ news, p ∈ own₂) (nd : (news.map (·.1)).Nodup) : St h₀ W V₂ (f :: (news ++ own)) h₂ := by
  have snd := S.nd
  simp only [List.map_cons, List.nodup_cons, List.mem_cons, not_or] at snd
  have hdx := S.has (dx, φ) (.tail _ (.head _))
  have onl : ∀ b o, b ≠ dx → h.get? b = some o → (only h fun b => b ≠ dx).get? b = some o := fun b o hb e => only_some.mpr ⟨hb, e⟩
  have kept : ∀ b o, b ≠ dx → h.get? b = some o → h₂.get? b = some o := fun b o hb e => R.ext b o (onl b o hb e)
  have olds : ∀ p ∈ f :: own, p.1 ≠ dx := by
    intro p hp e
    rcases List.mem_cons.mp hp with rfl | hp
    · exact snd.1.1 e
    · exact snd.2.1 (e ▸ List.mem_map_of_mem (f := (·.1)) hp)
  have has1 : ∀ p ∈ f :: own, At h p.1 p.2 ∧ V.get? p.1 = none ∧ h₀.get? p.1 = none := fun p hp => S.has p (by
    rcases List.mem_cons.mp hp with rfl | hp
    · exact .head _
    · exact .tail _ (.tail _ hp))
  have one : ∀ p ∈ f :: own, At h₂ p.1 p.2 ∧ V₂.get? p.1 = none ∧ h₀.get? p.1 = none := fun p hp => by
    obtain ⟨⟨o, e, q⟩, z1, z2⟩ := has1 p hp
    refine ⟨⟨o, kept _ _ (olds p hp) e, q⟩, ?_, z2⟩
    cases c : V₂.get? p.1 with
    | none => rfl
    | some o' =>
      rcases R.old _ _ c with c | c
      · rw [z1] at c; cases c
      · rw [onl _ _ (olds p hp) e] at c; cases c
  have h₀n : ∀ b o, h₀.get? b = some o → (only h fun b => b ≠ dx).get? b = some o := fun b o e => onl b o (fun q => by rw [q, hdx.2.2] at e; cases e) (S.ext b o e)
  refine ⟨fun b o e => R.ext b o (h₀n b o e), stays_trans S.sub R.sub, fun b o e => ?_, R.le, fun p hp => ?_, ?_⟩
  · rcases R.old b o e with e | e
    · exact S.old b o e
    · refine .inr ?_
      cases q : h₀.get? b with
      | none => rfl
      | some o' => rw [h₀n b o' q] at e; cases e
  · have : p ∈ f :: own ∨ p ∈ news := by
      rcases List.mem_cons.mp hp with rfl | hp
      · exact .inl (.head _)
      · rcases List.mem_append.mp hp with hp | hp
        · exact .inr hp
        · exact .inl (.tail _ hp)
    rcases this with hp | hp
    · exact one p hp
    · have z := R.has p (hm p hp)
      refine ⟨z.1, z.2.1, ?_⟩
      cases q : h₀.get? p.1 with
      | none => rfl
      | some o' => rw [h₀n _ o' q] at z; cases z.2.2
  · have dis : ∀ p ∈ f :: own, p.1 ∉ news.map (·.1) := fun p hp hq => by
      obtain ⟨q, hq, e⟩ := List.mem_map.mp hq
      have z := (R.has q (hm q hq)).2.2
      obtain ⟨⟨o, eo, _⟩, _⟩ := has1 p hp
      rw [e, onl _ _ (olds p hp) eo] at z
      cases z
    rw [List.map_cons, List.map_append]
    refine List.nodup_cons.mpr ⟨?_, List.nodup_append.mpr ⟨nd, snd.2.2, ?_⟩⟩
    · intro hq
      rcases List.mem_append.mp hq with hq | hq
      · exact dis f (.head _) hq
      · exact snd.1.2 hq
    · intro a ha b hb e
      obtain ⟨p, hp, e'⟩ := List.mem_map.mp hb
      exact dis p (.tail _ hp) (by rw [e', ← e]; exact ha)
def TellI (prog : Program) (w : World) (A : Around) (f : Addr) (args : List Value) (kw : List (Str × Value)) (V h : Heap) (dx : Addr) (P : List (Addr × OP) → Heap → Prop) : Prop :=
  ∀ (g : Array GenState) (d : Drawn) (t : Nat) (os : OsState) (R : Result → Shared → Prop), (∀ V' h' t' own₂, St (only h fun b => b ≠ dx) V V' own₂ h' → P own₂ V' → R (.ok (.ret .none)) ⟨h', g, d, t', os⟩) → codeAny (model prog w) A (.call (.ref f) ⟨args, kw⟩) R ⟨h, g, d, t, os⟩
theorem c_make {C fI : Addr} {fr : Addr × OP} {rest : List Value} {kw : List (Str × Value)} {Q : Value → Shared → Prop} (S : St h₀ W V (fr :: own) h) (X : WF w.params mg mb V) (hm : makesIn (hd.heap_39 w.params) C = true) (hi : findIn (hd.heap_39 w.params) (.ref C) "__init__" = some (some (.ref fI))) (hf : typeIn (hd.heap_39 w.params) (.ref fI) = some (.type "function"))
    (P : Addr → Addr → List (Addr × OP) → Heap → Prop)
    (init : ∀ x dx V' h', V.StaysIn V' → At V' x (isI C dx) → St h₀ W V' (fr :: (dx, isD []) :: own) h' → TellI prog w (A.under (.builtin "type.__call__" ⟨.ref C :: rest, kw⟩)) fI (.ref x :: rest) kw V' h' dx (P x dx))
    (k : ∀ x dx V' V'' h' t' own₂, V.StaysIn V' → At V' x (isI C dx) → V'.StaysIn V'' → P x dx own₂ V'' → (∀ news : List (Addr × OP), (∀ p ∈ news, p ∈ own₂) → (news.map (·.1)).Nodup → St h₀ W V'' (fr :: (news ++ own)) h') → (own₂.map (·.1)).Nodup → Q (.ref x) ⟨h', g, d, t', os⟩) :
    wpAny (model prog w) A (call (.ref C) rest kw) Q E ⟨h, g, d, t, os⟩ := by
  have XK := X.K.keeps S.le
  refine wpAny_call (make_core (makes_of XK hm) (looks_findIn XK hi) (fun self => bind_fn XK self hf) (.inl rfl) ?_)
  have S1 := S.push2 (φ := isD []) emptyDict rfl ⟨[], 0, rfl, trivial⟩
  obtain ⟨V', S2, hv, hx⟩ := S1.new (φ := isI C h.objs.size) (instObj C h.objs.size) rfl rfl
  rw [Heap.size_push] at hx
  refine init _ _ V' _ hv hx S2 g d t os _ fun V'' h' t' own₂ R hP => ⟨rfl, ?_⟩
  exact k _ _ V' V'' h' t' own₂ hv hx R.sub hP (fun news hm nd => S2.back R hm nd) R.nd
theorem c_init {name qual : Str} {params : Arguments} {body : List Stmt} {scope : Scope} {dV kV doc pm cdv ct oc : Value} {an od : Option Addr} {osl : Array (Option Value)} {f dx : Addr} {φ : OP} {args : List Value} {kw binds : List (Str × Value)} {R : Result → Shared → Prop}
    (le : V.StaysIn h) (X : WF w.params mg mb V) (hx : At h dx φ) (hxV : V.get? dx = none) (ho : (hd.heap_39 w.params).lookup f = some ⟨oc, od, .func (fnX name qual params body scope [] dV kV doc pm an cdv ct), osl⟩) (hcd : codeIn (hd.heap_39 w.params) cdv qual = true) (hroom : A.depth < recursionLimit)
    (hbind : BindsTo ⟨h, g, d, t, os⟩ (fnX name qual params body scope [] dV kV doc pm an cdv ct) ⟨args, kw⟩ binds) (hloc : (binds.all fun y => decide (scope.names.lookup y.1 = some .local)) = true)
    (k : ∀ L h₁ t', St (only h fun b => b ≠ dx) V V [(L, isNs fun x => binds.reverse.lookup x), (dx, φ)] h₁ → wpAny (model prog w) (A.deeper (envX qual scope L f cdv [])) (execs body (envX qual scope L f cdv [])) (Done fun v s => R (.ok (.ret v)) s) (fun _ _ => False) ⟨h₁, g, d, t', os⟩)
    (hcell : ∀ x ∈ scope.names, x.2 ≠ .cell := by decide) (hco : scope.isCoroutine = false := by rfl) (hgen : scope.isGenerator = false := by rfl) (hk : scope.kind = .function := by rfl) :
    codeAny (model prog w) A (.call (.ref f) ⟨args, kw⟩) R ⟨h, g, d, t, os⟩ := by
  have XK := X.K.keeps le
  refine codeAny_call_def (fd := fnX name qual params body scope [] dV kV doc pm an cdv ct) (body := body) (binds := binds) hroom (XK _ _ ho) rfl (X.nl.keeps le) (codeRec_of XK hcd) rfl hbind hcell (locs hloc) (fun h₁ hns hk₁ => ?_) hco hgen hk
  have S := St.enter (h := h) le hns hk₁ (get_top h)
  have ne : dx ≠ h.objs.size := Nat.ne_of_lt hx.lt
  refine wpAny_mono (k h.objs.size h₁ _ (S.adopt (hx.keeps hk₁) hxV (by simpa using ne))) (fun fl s' q => ?_) fun _ _ q => q.elim
  cases fl <;> exact q
end
section
variable {prog : Program} {w : World} {A : Around} {E : Value → Shared → Prop} {h₀ W V h : Heap} {own own' : List (Addr × OP)} {g : Array GenState} {d : Drawn} {t : Nat} {os : OsState} {env : Env} {mg mb : Str → Option Value}
theorem c_in {a : Addr} {kvs : List (Str × Value)} {x : Str} {u : Tok} {Q : Value → Shared → Prop} (hx : At h a (isK w prog kvs)) (hn : (a == sysModules) = false) (k : ∀ t', Q (.bool (valueAt kvs x).isSome) ⟨h, g, d, t', os⟩) :
    wpAny (model prog w) A (compareOp .In (.str x u) (.ref a)) Q E ⟨h, g, d, t, os⟩ := wpAny_in_of (strKind_is prog w x u) hn (dict_at.mpr hx).mapOf (k _)
theorem c_nin {a : Addr} {kvs : List (Str × Value)} {x : Str} {u : Tok} {Q : Value → Shared → Prop} (hx : At h a (isK w prog kvs)) (hn : (a == sysModules) = false) (k : ∀ t', Q (.bool (!(valueAt kvs x).isSome)) ⟨h, g, d, t', os⟩) :
    wpAny (model prog w) A (compareOp .NotIn (.str x u) (.ref a)) Q E ⟨h, g, d, t, os⟩ := wpAny_notIn_of (strKind_is prog w x u) hn (dict_at.mpr hx).mapOf (k _)
def StrsAre : List Value → List Str → Prop
  | [], [] => True
  | v :: vs, x :: xs => (∃ u, v = .str x u) ∧ StrsAre vs xs
  | _, _ => False
theorem StrsAre.mem : ∀ {vs : List Value} {xs : List Str}, StrsAre vs xs → ∀ v ∈ vs, ∃ x u, v = .str x u
  | [], [], _, _, h => nomatch h
  | v :: vs, x :: xs, ⟨⟨u, e⟩, r⟩, v', h => by
    rcases List.mem_cons.mp h with rfl | h
    · exact ⟨x, u, e⟩
    · exact r.mem v' h
theorem StrsAre.any {y : Str} : ∀ {vs : List Value} {xs : List Str}, StrsAre vs xs → vs.any (fun v => match v with | .str x _ => x == y | _ => false) = xs.contains y
  | [], [], _ => rfl
  | v :: vs, x :: xs, ⟨⟨u, e⟩, r⟩ => by
    subst e
    rw [List.any_cons, List.contains_cons, r.any]
    have : (x == y) = (y == x) := by rw [Bool.eq_iff_iff, beq_iff_eq, beq_iff_eq]; exact ⟨Eq.symm, Eq.symm⟩
    show ((x == y) || _) = _
    rw [this]
theorem c_ninl {a : Addr} {vs : List Value} {xs : List Str} {y : Str} {u : Tok} {Q : Value → Shared → Prop} (hx : At h a (isLw vs)) (hs : StrsAre vs xs) (k : Q (.bool (!xs.contains y)) ⟨h, g, d, t, os⟩) :
    wpAny (model prog w) A (compareOp .NotIn (.str y u) (.ref a)) Q E ⟨h, g, d, t, os⟩ := by
  refine PySem.SeqAt.notIn_listAt (fun v => match v with | .str x _ => x == y | _ => false) (list_at.mpr hx) (fun v hv => ?_) ?_
  · obtain ⟨x, u', rfl⟩ := hs.mem v (by simpa using hv)
    exact PySem.SeqAt.EqAt.str_str _ _ _ _
  · have e : vs.toArray.any (fun v => match v with | .str x _ => x == y | _ => false) = xs.contains y := by rw [← hs.any]; simp
    rw [e]; exact k
theorem i_own_t {x D dx tp : Addr} {l : List (Str × Value)} {its : List Value} {b : Bool} {Q : Value → Shared → Prop} (S : St h₀ W V own h) (X : WF w.params mg mb V) (hx : At h x (isI D dx)) (hm : At h dx (isD l)) (ht : At h tp (isT its)) (e : kitAny (hd.heap_39 w.params) (.ref D) its = some b)
    (hg : plainGet (hd.heap_39 w.params) D "__class__" = true) (hdct : hasDictIn (hd.heap_39 w.params) D = true) (ha : findIn (hd.heap_39 w.params) (.ref D) "__class__" = some (some (.builtin "object.__class__")))
    (hn : specialIn (hd.heap_39 w.params) (.builtin "object.__class__") "__get__" = some (some (.builtin "getset_descriptor.__get__"))) (htk : takesIn (hd.heap_39 w.params) (.builtin "object.__class__") = some true) (hm' : mroIn (hd.heap_39 w.params) D (.type "object") = some true)
    (k : ∀ t', Q (.bool b) ⟨h, g, d, t', os⟩) : wpAny (model prog w) A (call (.builtin "isinstance") [.ref x, .ref tp]) Q E ⟨h, g, d, t, os⟩ := by
  obtain ⟨es, n, I, _⟩ := inst_at hx hm
  obtain ⟨⟨c, dd, da, sl⟩, eo, ec, n', ed⟩ := ht
  simp only at ec ed
  subst ec ed
  exact kia_tup (kitx_own hg hdct ha hn htk hm') (X.K.keeps S.le) I eo e (by intro z; cases z) fun tk => k tk
theorem i_int_t {i : Int} {u : Tok} {tp : Addr} {its : List Value} {b : Bool} {Q : Value → Shared → Prop} (S : St h₀ W V own h) (X : WF w.params mg mb V) (ht : At h tp (isT its)) (e : kitAny (hd.heap_39 w.params) (.type "int") its = some b)
    (k : ∀ t', Q (.bool b) ⟨h, g, d, t', os⟩) : wpAny (model prog w) A (call (.builtin "isinstance") [.int i u, .ref tp]) Q E ⟨h, g, d, t, os⟩ := by
  obtain ⟨⟨c, dd, da, sl⟩, eo, ec, n', ed⟩ := ht
  simp only at ec ed
  subst ec ed
  exact kia_tup kitx_int (X.K.keeps S.le) trivial eo e (by intro z; cases z) fun tk => k tk
theorem n_dict0 {f : Addr × OP} {pos : Pos} {Q : Value → Shared → Prop} (S : St h₀ W V (f :: own) h) (X : WF w.params mg mb V) (k : ∀ a h', (a == sysModules) = false → St h₀ W V (f :: (a, isK w prog []) :: own) h' → Q (.ref a) ⟨h', g, d, t, os⟩) : wpAny (model prog w) A (eval (.Dict [] [] pos) env) Q E ⟨h, g, d, t, os⟩ :=
  wpAny_Dict_empty (k _ _ (new_sys X S.le) (k_new S))
theorem c_dict0 {f : Addr × OP} {Q : Value → Shared → Prop} (S : St h₀ W V (f :: own) h) (X : WF w.params mg mb V) (k : ∀ a h', (a == sysModules) = false → St h₀ W V (f :: (a, isK w prog []) :: own) h' → Q (.ref a) ⟨h', g, d, t, os⟩) : wpAny (model prog w) A (call (.type "dict") []) Q E ⟨h, g, d, t, os⟩ := by
  have S1 := k_new (prog := prog) (w := w) (n := 0) S
  refine callType_codes (Q₁ := fun obj s₁ => obj = .ref h.objs.size ∧ s₁ = ⟨h.push { cls := .type "dict", data := .dict #[] }, g, d, t, os⟩) PySem.F.kt_called_dict (show checkTypeCall "dict" ⟨[], []⟩ = pure () by kernel_rfl) PySem.F.entry_dict_init ?_ ?_
  · refine codeAny_call_builtin PySem.F.kt_plain_dict_new PySem.F.kt_entry_dict_new (wpAny_of_eq (show checkBuiltinCall "dict.__new__" ⟨[.type "dict"], []⟩ = pure () by kernel_rfl) ?_)
    have hsub := PySem.F.kt_sub_dict
    have hmro := PySem.F.kt_mro_dict
    unfold Builtin.«dict.__new__»
    wp_walk
    exact ⟨rfl, rfl⟩
  · rintro obj s₁ ⟨rfl, rfl⟩
    have hnew := dict_at.mpr (S1.get (.tail _ (.head _)))
    have hT : Shared.TypeIs ⟨h.push { cls := .type "dict", data := .dict #[] }, g, d, t, os⟩ (.ref h.objs.size) "dict" := hnew.mapOf.typeIs
    refine ⟨hT, PySem.F.args_dict_init_1 _, ?_⟩
    unfold Builtin.«dict.__init__»
    refine wpAny_bind ?_
    unfold Builtin.Dict.selfAndRest
    refine wpAny_bind (wpAny_notOrdered_dict hT ?_)
    show wpAny _ _ (pure (h.objs.size, ([] : List Value))) _ _ _
    refine wpAny_pure ?_
    show wpAny _ _ (Builtin.Dict.updateCommon "dict.__init__" "dict" h.objs.size [] []) _ _ _
    unfold Builtin.Dict.updateCommon
    wp_walk
    exact ⟨rfl, k _ _ (new_sys X S.le) S1⟩
theorem w_ty0 {pos : Pos} {n : String} {first : List Value} {Q : Value → Shared → Prop} {s : Shared} (x : wpAny (model prog w) A (call (.type n) (first ++ []) []) Q E s) : wpAny (model prog w) A (callWith pos (.type n) first (backTo pos (starEach [] env)) []) Q E s :=
  w_any (evalArgs_nil3 ⟨⟨.machine, Looks.of_pure rfl⟩, x⟩)
theorem w_ty {pos : Pos} {n : String} {first : List Value} {e : Expr} {rest : List Expr} {Q : Value → Shared → Prop} {s : Shared} (x : wpAny (model prog w) A (spliced (backTo pos (starEach (e :: rest) env))) (fun vs s₁ => wpAny (model prog w) A (call (.type n) (first ++ vs) []) Q E s₁) E s)
    (he : starEach (e :: rest) env = (false, eval e env) :: starEach rest env := by rfl) : wpAny (model prog w) A (callWith pos (.type n) first (backTo pos (starEach (e :: rest) env)) []) Q E s := by
  rw [he] at x ⊢
  exact w_any (evalArgs_plain (wpAny_mono x (fun _ _ q => ⟨⟨.machine, Looks.of_pure rfl⟩, q⟩) fun _ _ z => z))
theorem c_lent {a : Addr} {xs : List Value} {Q : Value → Shared → Prop} (x : At h a (isT xs)) (hz : xs.length < 2 ^ 63) (k : ∀ u t', Q (.int xs.length u) ⟨h, g, d, t', os⟩) : wpAny (model prog w) A (call (.builtin "len") [.ref a]) Q E ⟨h, g, d, t, os⟩ := by
  have e : xs.toArray.size = xs.length := by simp
  exact PyProof.Rows.len_tuple (tup_at.mpr x) (by rw [e]; omega) (by rw [e]; exact k _ _)
theorem m_get {a : Addr} {kvs : List (Str × Value)} {pl : Sem Bool} {Q : Value × List Value → Shared → Prop} (x : At h a (isK w prog kvs)) (k : Q (.builtin "dict.get", [.ref a]) ⟨h, g, d, t, os⟩) : wpAny (model prog w) A (getMethod (.ref a) "get" pl) Q E ⟨h, g, d, t, os⟩ := by
  obtain ⟨o, e, es, ep, hx, _⟩ := x
  exact getMethod_builtin ⟨_, e, hx.1⟩ F.plainAttrs_dict F.slot_dict_get F.type_dict_get (fun a ea => by cases ea; exact ⟨_, e, hx.2.1⟩) k
theorem c_get {a : Addr} {kvs : List (Str × Value)} {x : Str} {u : Tok} {df : Value} {Q : Value → Shared → Prop} (hx : At h a (isK w prog kvs)) (hn : (a == sysModules) = false) (k : ∀ t', Q ((valueAt kvs x).getD df) ⟨h, g, d, t', os⟩) :
    wpAny (model prog w) A (call (.builtin "dict.get") [.ref a, .str x u, df]) Q E ⟨h, g, d, t, os⟩ := by
  have hm := (dict_at.mpr hx).mapOf
  exact call_meetsIn F.slot_dict_get hm.typeIs F.entry_dict_get (F.args_dict_get_3 _ _ _) (meets_dict_get_default (strKind prog w) a (strKind_is prog w x u) hn df) ⟨_, hm, k _⟩
end
local macro_rules | `(tactic| wtm_at "v_eval") => `(tactic| first
  | ((with_reducible show wpAny _ _ (eval (Expr.Call _ _ (_ :: _) _) _) _ _ _); with_reducible refine e_callk ?_ (he := by with_unfolding_all rfl))
  | ((with_reducible show wpAny _ _ (eval (Expr.Dict [] [] _) _) _ _ _); (with_reducible rename St _ _ _ _ _ => S'); refine n_dict0 S' (by wtm_at "v_wf") ?_; clear S'; intro a h hs S'))
local macro_rules | `(tactic| wtm_at "v_value") => `(tactic| first
  | ((with_reducible show wpAny _ _ (callWith _ _ _ (backTo _ (starEach (_ :: _) _)) (backToKw _ (keywordEach (Keyword.mk (some _) _ _ :: _) _))) _ _ _); with_reducible refine w_kw ?_ (hall := by with_unfolding_all rfl) (he := by with_unfolding_all rfl))
  | ((with_reducible show wpAny _ _ (callWith _ _ _ (backTo _ (starEach [] _)) (backToKw _ (keywordEach (Keyword.mk (some _) _ _ :: _) _))) _ _ _); with_reducible refine w_kw0 ?_ (hall := by with_unfolding_all rfl))
  | ((with_reducible show wpAny _ _ (callWith _ (Value.type _) _ (backTo _ (starEach [] _)) _) _ _ _); with_reducible refine w_ty0 ?_)
  | ((with_reducible show wpAny _ _ (callWith _ (Value.type _) _ (backTo _ (starEach (_ :: _) _)) _) _ _ _); with_reducible refine w_ty ?_ (he := by with_unfolding_all rfl))
  | ((with_reducible show wpAny _ _ (call (Value.builtin "len") [Value.ref _] _) _ _ _); refine c_lent (by wtm_at "v_at") (by wtm_at "v_size") ?_; intro u t)
  | ((with_reducible show wpAny _ _ (callWith _ (Value.builtin _) _ (backTo _ (starEach [] _)) _) _ _ _); with_reducible refine w_bi0 ?_)
  | ((with_reducible show wpAny _ _ (call (Value.type "dict") [] _) _ _ _); (with_reducible rename St _ _ _ _ _ => S'); refine c_dict0 S' (by wtm_at "v_wf") ?_; clear S'; intro a h hs S')
  | ((with_reducible show wpAny _ _ (call (Value.builtin "dict.items") _ _) _ _ _); (with_reducible rename St _ _ _ _ _ => S'); refine c_items S' (by wtm_at "v_at") (by with_reducible assumption) ?_; clear S'; intro a h S')
  | ((with_reducible show wpAny _ _ (call (Value.builtin "dict.get") _ _) _ _ _); refine c_get (by wtm_at "v_at") (by with_reducible assumption) ?_; intro t)
  | ((with_reducible show wpAny _ _ (call (Value.builtin "isinstance") [Value.ref _, Value.ref _] _) _ _ _); (with_reducible rename St _ _ _ _ _ => S'); refine i_own_t S' (by wtm_at "v_wf") (by wtm_at "v_at") (by wtm_at "v_at") (by wtm_at "v_at") (by kit_is) (by k_is) (by k_is) (by k_is) (by k_is) (by k_is) (by k_is) ?_; intro t)
  | ((with_reducible show wpAny _ _ (call (Value.builtin "isinstance") [Value.int _ _, Value.ref _] _) _ _ _); (with_reducible rename St _ _ _ _ _ => S'); refine i_int_t S' (by wtm_at "v_wf") (by wtm_at "v_at") (by kit_is) ?_; intro t)
  | ((with_reducible show wpAny _ _ (compareOp CmpOp.In (Value.str _ _) (Value.ref _)) _ _ _); refine c_in (by wtm_at "v_at") (by with_reducible assumption) ?_; intro t)
  | ((with_reducible show wpAny _ _ (compareOp CmpOp.NotIn (Value.str _ _) (Value.ref _)) _ _ _); first | (refine c_nin (by wtm_at "v_at") (by with_reducible assumption) ?_; intro t) | refine c_ninl (by wtm_at "v_weak") (by with_reducible assumption) ?_))
theorem If.of_tt {x y : Shared → Prop} {b : Bool} {s : Shared} (h : b = true) (k : x s) : If x y b s := by subst h; exact k
theorem If.of_ff {x y : Shared → Prop} {b : Bool} {s : Shared} (h : b = false) (k : y s) : If x y b s := by subst h; exact k
local macro_rules | `(tactic| wtm_at "v_st") => `(tactic| first | exact stays_refl _ | with_reducible assumption | exact stays_trans (by with_reducible assumption) (by wtm_at "v_st"))
local macro_rules | `(tactic| wtm_at "v_size") => `(tactic| first
  | decide
  | ((try simp only [List.length_cons, List.length_nil, List.length_append, List.length_take, sizeLine, Nat.reducePow] at *); omega))
local macro_rules | `(tactic| wtm_at "v_unit") => `(tactic| ((with_reducible show wpAny _ _ (setAttr (Value.ref _) _ _) _ _ _); (with_reducible rename St _ _ _ _ _ => S'); refine a_set S' (by wtm_at "v_wf") (by wtm_at "v_at") (by wtm_at "v_upd") (by k_is) (by k_is) (by k_is) (by k_is) (of_decide_eq_true (by rfl)) ?_; clear S'; intro h t S'))
local macro_rules | `(tactic| wtm_at "v_unit") => `(tactic| ((with_reducible show wpAny _ _ (dictSet _ (Value.str _ _) _) _ _ _); (with_reducible rename St _ _ _ _ _ => S'); refine d_set S' (by wtm_at "v_upd") (by wtm_at "v_size") ?_; clear S'; intro h t S'))
local macro_rules | `(tactic| wtm_at "v_rest") => `(tactic| first
  | with_reducible refine Tests.nil ?_
  | with_reducible refine Tests.cons ?_
  | ((with_reducible show If _ _ _ _); first | with_reducible refine If.tt ?_ | with_reducible refine If.ff ?_ | refine If.of_tt (by rfl) ?_ | refine If.of_ff (by rfl) ?_)
  | with_reducible refine ka_cons ?_
  | with_reducible refine ka_nil ?_
  | ((with_reducible show Called _ _ _ _ _ _ _ _ _ _); first | ((with_reducible rename St _ _ _ _ _ => S'); refine Called.k S' (by wtm_at "v_wf") (by k_is) ?_) | refine Called.i (by wtm_at "v_at") (by wtm_at "v_at") ?_)
  | ((with_reducible show wpAny _ _ (getMethod (Value.ref _) (PySem.Str.ofString "items") _) _ _ _); refine m_items (by wtm_at "v_at") ?_; dsimp only)
  | ((with_reducible show wpAny _ _ (getMethod (Value.ref _) (PySem.Str.ofString "get") _) _ _ _); refine m_get (by wtm_at "v_at") ?_; dsimp only))
section
variable {prog : Program} {w : World} {A : Around} {E : Value → Shared → Prop} {h₀ W V h : Heap} {own own' : List (Addr × OP)} {g : Array GenState} {d : Drawn} {t : Nat} {os : OsState} {env : Env} {mg mb : Str → Option Value}
theorem St.lose {f : Addr × OP} {l : List (Addr × OP)} {h' : Heap} (S : St h₀ W V (f :: (l ++ own)) h) (k : ∀ b o, (∀ p ∈ l, b ≠ p.1) → h.get? b = some o → h'.get? b = some o) : St h₀ W V (f :: own) h' := by
  have nd := S.nd
  rw [List.map_cons, List.map_append, List.nodup_cons, List.nodup_append] at nd
  have inl : ∀ p ∈ l, p ∈ f :: (l ++ own) := fun p hp => .tail _ (List.mem_append_left _ hp)
  refine ⟨fun b o e => ?_, S.sub, S.old, fun b o e => ?_, fun p hp => ?_, ?_⟩
  · exact k b o (fun p hp q => by have z := (S.has p (inl p hp)).2.2; rw [← q, e] at z; cases z) (S.ext b o e)
  · exact k b o (fun p hp q => by have z := (S.has p (inl p hp)).2.1; rw [← q, e] at z; cases z) (S.le b o e)
  · have hp' : p ∈ f :: (l ++ own) := by
      rcases List.mem_cons.mp hp with rfl | hp
      · exact .head _
      · exact .tail _ (List.mem_append_right _ hp)
    have z := S.has p hp'
    obtain ⟨o, e, q⟩ := z.1
    refine ⟨⟨o, k _ _ (fun p' hq' q' => ?_) e, q⟩, z.2⟩
    rcases List.mem_cons.mp hp with rfl | hp
    · exact nd.1 (List.mem_append_left _ (q' ▸ List.mem_map_of_mem (f := (·.1)) hq'))
    · exact nd.2.2.2 _ (List.mem_map_of_mem (f := (·.1)) hq') _ (List.mem_map_of_mem (f := (·.1)) hp) q'.symm
  · rw [List.map_cons, List.nodup_cons]
    exact ⟨fun q => nd.1 (List.mem_append_right _ q), nd.2.2.1⟩
theorem nx_tup {it l : Addr} {i : Nat} {xs : List Value} {x : Value} {Q : Value → Shared → Prop} (u : Upd1 it (isTI l i) (isTI l (i + 1)) own own') (S : St h₀ W V own h) (hl : At h l (isT xs)) (hx : xs[i]? = some x) (k : ∀ h', Heap.SameBut it h h' → St h₀ W V own' h' → Q x ⟨h', g, d, t, os⟩) :
    wpAny (model prog w) A (Builtin.SmallTypes.nextOf (.ref it)) Q E ⟨h, g, d, t, os⟩ := by
  obtain ⟨o, ho, hc, hd⟩ := S.get u.mem
  obtain ⟨ol, hol, _, nl, hdl⟩ := hl
  have hT : Shared.TypeIs ⟨h, g, d, t, os⟩ (.ref it) "tuple_iterator" := ⟨o, ho, hc⟩
  unfold Builtin.SmallTypes.nextOf
  refine wpAny_bind (wpAny_callSpecial?_slot (name := Str.ofString "__next__") hT F.slot_tuple_iterator_next (wpAny_call_entry F.slot_tuple_iterator_next hT F.entry_tuple_iterator_next ?_ (F.args_tuple_iterator_next_1 _)))
  show wpAny _ _ (field (.ref it) 0 >>= _) _ _ _
  refine wpAny_bind (wpAny_field ho hd (x := .ref l) rfl ?_)
  show wpAny _ _ (if (Value.ref l == Value.none) = true then _ else _) _ _ _
  rw [if_neg (show ¬ ((Value.ref l == Value.none) = true) from Bool.false_ne_true)]
  show wpAny _ _ (field (.ref it) 1 >>= _) _ _ _
  refine wpAny_bind (wpAny_field ho hd (x := .int i 0) rfl ?_)
  show wpAny _ _ (seqItems? (.ref l) >>= _) _ _ _
  refine wpAny_bind (wpAny_seqItems hol hdl ?_)
  have hx' : xs.toArray[i]? = some x := by simpa using hx
  simp only [Int.toNat_natCast, hx']
  refine wpAny_bind (wpAny_setField ho hd (by simp) (wpAny_pure ⟨x, rfl, wpAny_pure (k _ (Heap.SameBut.update ..) (S.upd u (Heap.SameBut.update ..) ?_))⟩))
  exact ⟨_, Heap.get?_update_self _ ho (Obj.isFreed_of_fields (Obj.data_mapFields hd _)), (Obj.cls_mapFields ..).trans hc, by
    rw [Obj.data_mapFields hd]; simp [rawInt]⟩
theorem nx_tup_end {it l : Addr} {i : Nat} {xs : List Value} {Q : Value → Shared → Prop} (hh : A.handled = none) (hi : At h it (isTI l i)) (hl : At h l (isT xs)) (hx : xs[i]? = none)
    (k : ∀ h' e, Heap.ExtBut it h h' → (∃ o, h'.get? e = some o ∧ o.cls = .type "StopIteration") → E (.ref e) ⟨h', g, d, t, os⟩) :
    wpAny (model prog w) A (Builtin.SmallTypes.nextOf (.ref it)) Q E ⟨h, g, d, t, os⟩ := by
  obtain ⟨o, ho, hc, hd⟩ := hi
  obtain ⟨ol, hol, _, nl, hdl⟩ := hl
  have hT : Shared.TypeIs ⟨h, g, d, t, os⟩ (.ref it) "tuple_iterator" := ⟨o, ho, hc⟩
  unfold Builtin.SmallTypes.nextOf
  refine wpAny_bind (wpAny_callSpecial?_slot (name := Str.ofString "__next__") hT F.slot_tuple_iterator_next (wpAny_call_entry F.slot_tuple_iterator_next hT F.entry_tuple_iterator_next ?_ (F.args_tuple_iterator_next_1 _)))
  show wpAny _ _ (field (.ref it) 0 >>= _) _ _ _
  refine wpAny_bind (wpAny_field ho hd (x := .ref l) rfl ?_)
  show wpAny _ _ (if (Value.ref l == Value.none) = true then _ else _) _ _ _
  rw [if_neg (show ¬ ((Value.ref l == Value.none) = true) from Bool.false_ne_true)]
  show wpAny _ _ (field (.ref it) 1 >>= _) _ _ _
  refine wpAny_bind (wpAny_field ho hd (x := .int i 0) rfl ?_)
  show wpAny _ _ (seqItems? (.ref l) >>= _) _ _ _
  refine wpAny_bind (wpAny_seqItems hol hdl ?_)
  have hx' : xs.toArray[i]? = none := by simpa using hx
  simp only [Int.toNat_natCast, hx']
  refine wpAny_bind (wpAny_rule (wpAny_bind (wpAny_setField ho hd (by simp) ?_)))
  show wpAny _ _ (newExc (.type "StopIteration") [] >>= _) _ _ _
  refine wpAny_bind ?_
  simp only [newExc, newTuple]
  refine wpAny_bind (wpAny_newObj_type ?_ (by size_fits))
  refine wpAny_bind (m := firstArgMember _ _) (wpAny_of_eq (a := Value.none) (by first | rfl | (simp only [firstArgMember]; rfl)) ?_)
  refine wpAny_newObj_type ?_ (by size_fits)
  simp only [raiseNew]
  refine wpAny_bind (wpAny_handled ?_)
  first | rw [show A.in1.handled = none from hh] | rw [hh]
  refine wpAny_bind (wpAny_pure (wpAny_throw ?_))
  exact k _ _ (((Heap.SameBut.update ..).extBut.push _).push _) ⟨_, Heap.get?_push_size _ rfl, rfl⟩
def isZ (TI TO : Addr) (f0 : Value) : OP := fun o => o = { cls := .type "zip", dict := none, data := .fields #[f0, .bool false, .bool false, .ref TI, .ref TO], slots := #[] }
def isPr (a b : Value) : OP := fun o => o = { cls := .type "tuple", data := .seq #[a, b] }
def isAny2 : OP := fun o => ∃ a b, isPr a b o
def zipIts (z TI TO i1 i2 l tp : Addr) (k : Nat) : List (Addr × OP) := [(z, isZ TI TO .none), (TO, isAny2), (i1, isLI l k), (i2, isTI tp k)]
theorem pr_upd {T : Addr} {a b x : Value} {k : Nat} {Q : Unit → Shared → Prop} (hT : At h T (isPr a b)) (q : ∀ h', Heap.SameBut T h h' → (∃ o, h'.get? T = some o ∧ o = { cls := .type "tuple", data := .seq ((#[a, b] : Array Value).setIfInBounds k x) }) → Q () ⟨h', g, d, t, os⟩) :
    wpAny (model prog w) A (updateSeq T (·.setIfInBounds k x)) Q E ⟨h, g, d, t, os⟩ := by
  obtain ⟨o, e, rfl⟩ := hT
  exact wpAny_updateSeq_pair e fun h' e' s => q h' s ⟨_, e', rfl⟩
theorem z_item {f : Addr × OP} {z TI TO i1 i2 l tp : Addr} {k : Nat} {xs ys : List Value} {x y : Value} {Q : Value → Shared → Prop} (S : St h₀ W V (f :: (zipIts z TI TO i1 i2 l tp k ++ own)) h) (hTI : At V TI (isPr (.ref i1) (.ref i2))) (hl : At V l (isLw xs)) (ht : At V tp (isT ys)) (hx : xs[k]? = some x) (hy : ys[k]? = some y)
    (q : ∀ T V' h', V.StaysIn V' → At V' T (isT [x, y]) → St h₀ W V' (f :: ((z, isZ TI TO (rawInt T)) :: (TO, isAny2) :: (i1, isLI l (k + 1)) :: (i2, isTI tp (k + 1)) :: own)) h' → Q (.ref T) ⟨h', g, d, t, os⟩) :
    wpAny (model prog w) A (Builtin.«zip.__next__» ⟨[.ref z], []⟩) (fun fin s' => ∃ v, fin = .done (.ret v) ∧ Q v s') E ⟨h, g, d, t, os⟩ := by
  have S : St h₀ W V (f :: (z, isZ TI TO .none) :: (TO, isAny2) :: (i1, isLI l k) :: (i2, isTI tp k) :: own) h := S
  obtain ⟨_, hz, rfl⟩ := S.get (a := z) (.tail _ (.head _))
  obtain ⟨oTI, eTI, rfl⟩ := S.view hTI
  show wpAny _ _ (field (.ref z) 2 >>= _) _ _ _
  refine wpAny_bind (wpAny_field hz rfl (x := .bool false) rfl ?_)
  show wpAny _ _ (field (.ref z) 3 >>= _) _ _ _
  refine wpAny_bind (wpAny_field hz rfl (x := .ref TI) rfl ?_)
  refine wpAny_bind (wpAny_seqItems eTI rfl ?_)
  show wpAny _ _ (Builtin.SmallTypes.ownedTupleIsFree (.ref z) >>= _) _ _ _
  refine wpAny_bind ?_
  unfold Builtin.SmallTypes.ownedTupleIsFree
  refine wpAny_bind (wpAny_field hz rfl (x := .none) rfl (wpAny_pure ?_))
  simp only [if_true]
  refine wpAny_bind (wpAny_rule ?_)
  refine wpAny_bind (wpAny_field hz rfl (x := .ref TO) rfl ?_)
  refine wpAny_bind (wpAny_setField_rec hz (by simp) fun h₁ hz₁ hs₁ => ?_)
  have S1 : St h₀ W V (f :: (z, isZ TI TO .ellipsis) :: (TO, isAny2) :: (i1, isLI l k) :: (i2, isTI tp k) :: own) h₁ := S.upd (.tail .head) hs₁ ⟨_, hz₁, rfl⟩
  refine wpAny_bind ?_
  simp only [List.zipIdx_cons, List.zipIdx_nil, List.forIn_cons, List.forIn_nil]
  refine wpAny_bind (wpAny_bind (wpAny_onRaise ?_))
  show wpAny _ _ (Builtin.SmallTypes.nextOf (.ref i1) >>= _) _ _ _
  refine wpAny_bind (wpAny_nextOf_list_item (li_at.mpr (S1.get (.tail _ (.tail _ (.tail _ (.head _)))))) (list_at.mpr (S1.view hl)) (by simpa using hx) fun h₂ h1₂ hs₂ => wpAny_pure ?_)
  have S2 : St h₀ W V (f :: (z, isZ TI TO .ellipsis) :: (TO, isAny2) :: (i1, isLI l (k + 1)) :: (i2, isTI tp k) :: own) h₂ := S1.upd (.tail (.tail (.tail .head))) hs₂ (li_at.mp h1₂)
  obtain ⟨_, eTO, a, b, rfl⟩ := S2.get (a := TO) (.tail _ (.tail _ (.head _)))
  refine wpAny_bind (wpAny_seqItems eTO rfl ?_)
  refine wpAny_bind (wpAny_updateSeq_pair eTO fun h₃ hTO₃ hs₃ => ?_)
  have S3 : St h₀ W V (f :: (z, isZ TI TO .ellipsis) :: (TO, isPr x b) :: (i1, isLI l (k + 1)) :: (i2, isTI tp k) :: own) h₃ := S2.upd (.tail (.tail .head)) hs₃ ⟨_, hTO₃, rfl⟩
  refine wpAny_bind (wpAny_letGo (wpAny_pure ?_))
  refine wpAny_bind (wpAny_bind (wpAny_onRaise ?_))
  show wpAny _ _ (Builtin.SmallTypes.nextOf (.ref i2) >>= _) _ _ _
  refine wpAny_bind (nx_tup (own' := f :: (z, isZ TI TO .ellipsis) :: (TO, isPr x b) :: (i1, isLI l (k + 1)) :: (i2, isTI tp (k + 1)) :: own) (.tail (.tail (.tail (.tail .head)))) S3 (S3.view ht) hy fun h₄ _ S4 => wpAny_pure ?_)
  obtain ⟨_, eTO₄, rfl⟩ := S4.get (a := TO) (.tail _ (.tail _ (.head _)))
  refine wpAny_bind (wpAny_seqItems eTO₄ rfl ?_)
  refine wpAny_bind (wpAny_updateSeq_pair eTO₄ fun h₅ hTO₅ hs₅ => ?_)
  have S5 : St h₀ W V (f :: (z, isZ TI TO .ellipsis) :: (TO, isAny2) :: (i1, isLI l (k + 1)) :: (i2, isTI tp (k + 1)) :: own) h₅ := S4.upd (.tail (.tail .head)) hs₅ ⟨_, hTO₅, x, y, rfl⟩
  refine wpAny_bind (wpAny_letGo (wpAny_pure (wpAny_pure ?_)))
  refine wpAny_bind (wpAny_seqItems hTO₅ rfl ?_)
  refine wpAny_bind (wpAny_newTuple (hsz := show (2 : Nat) ≤ sizeLine by decide) ?_)
  obtain ⟨V', S6, hv, hT⟩ := S5.new (φ := isT [x, y]) { cls := .type "tuple", data := .seq #[x, y] } rfl ⟨rfl, 0, rfl⟩
  show wpAny _ _ (Builtin.SmallTypes.ownedTupleHandOut (.ref z) (.ref h₅.objs.size) >>= _) _ _ _
  refine wpAny_bind ?_
  unfold Builtin.SmallTypes.ownedTupleHandOut
  obtain ⟨_, hz₆, rfl⟩ := S6.get (a := z) (.tail _ (.head _))
  refine wpAny_bind (wpAny_setField_rec hz₆ (by simp) fun h₇ hz₇ hs₇ => ?_)
  refine wpAny_setField_rec hz₇ (by simp) fun h₈ hz₈ hs₈ => ?_
  refine wpAny_pure ⟨_, rfl, ?_⟩
  refine q _ V' h₈ hv hT (S6.upd (.tail .head) (hs₇.trans hs₈) ⟨_, hz₈, ?_⟩)
  simp [isZ]
theorem z_end {f : Addr × OP} {z TI TO i1 i2 l tp : Addr} {k : Nat} {xs ys : List Value} {Q : Fin → Shared → Prop} (hh : A.handled = none) (S : St h₀ W V (f :: (zipIts z TI TO i1 i2 l tp k ++ own)) h) (hTI : At V TI (isPr (.ref i1) (.ref i2))) (hl : At V l (isLw xs)) (ht : At V tp (isT ys)) (hend : xs[k]? = none ∨ ys[k]? = none)
    (q : ∀ h' e, St h₀ W V (f :: own) h' → (∃ o, h'.get? e = some o ∧ o.cls = .type "StopIteration") → E (.ref e) ⟨h', g, d, t, os⟩) :
    wpAny (model prog w) A (Builtin.«zip.__next__» ⟨[.ref z], []⟩) Q E ⟨h, g, d, t, os⟩ := by
  have S0 : St h₀ W V (f :: (z, isZ TI TO .none) :: (TO, isAny2) :: (i1, isLI l k) :: (i2, isTI tp k) :: own) h := S
  obtain ⟨_, hz, rfl⟩ := S0.get (a := z) (.tail _ (.head _))
  obtain ⟨oTI, eTI, rfl⟩ := S0.view hTI
  show wpAny _ _ (field (.ref z) 2 >>= _) _ _ _
  refine wpAny_bind (wpAny_field hz rfl (x := .bool false) rfl ?_)
  show wpAny _ _ (field (.ref z) 3 >>= _) _ _ _
  refine wpAny_bind (wpAny_field hz rfl (x := .ref TI) rfl ?_)
  refine wpAny_bind (wpAny_seqItems eTI rfl ?_)
  show wpAny _ _ (Builtin.SmallTypes.ownedTupleIsFree (.ref z) >>= _) _ _ _
  refine wpAny_bind ?_
  unfold Builtin.SmallTypes.ownedTupleIsFree
  refine wpAny_bind (wpAny_field hz rfl (x := .none) rfl (wpAny_pure ?_))
  simp only [if_true]
  refine wpAny_bind (wpAny_rule ?_)
  refine wpAny_bind (wpAny_field hz rfl (x := .ref TO) rfl ?_)
  refine wpAny_bind (wpAny_setField_rec hz (by simp) fun h₁ hz₁ hs₁ => ?_)
  have S1 : St h₀ W V (f :: (z, isZ TI TO .ellipsis) :: (TO, isAny2) :: (i1, isLI l k) :: (i2, isTI tp k) :: own) h₁ := S0.upd (.tail .head) hs₁ ⟨_, hz₁, rfl⟩
  have out : ∀ (V' h' : Heap) (φ1 φ2 φ3 φ4 : OP) (h'' : Heap), St h₀ W V (f :: (z, φ1) :: (TO, φ2) :: (i1, φ3) :: (i2, φ4) :: own) h' → Heap.ExtBut z h' h'' → St h₀ W V (f :: own) h'' := fun _ h' φ1 φ2 φ3 φ4 h'' S k =>
    St.lose (l := [(z, φ1), (TO, φ2), (i1, φ3), (i2, φ4)]) S fun b o hb e => k b o (hb (z, φ1) (.head _)) e
  refine wpAny_bind ?_
  simp only [List.zipIdx_cons, List.zipIdx_nil, List.forIn_cons, List.forIn_nil]
  refine wpAny_bind (wpAny_bind (wpAny_onRaise ?_))
  show wpAny _ _ (Builtin.SmallTypes.nextOf (.ref i1) >>= _) _ _ _
  have nz : ∀ (z' : Addr) {h' : Heap} {e : Addr} {o : Obj} {f0 : Value}, h'.get? z' = some { cls := .type "zip", dict := none, data := .fields #[f0, .bool false, .bool false, .ref TI, .ref TO], slots := #[] } → h'.get? e = some o → o.cls = .type "StopIteration" → e ≠ z' := by
    intro z' h' e o f0 h1 h2 h3 x
    rw [x, h1] at h2
    cases h2
    simp at h3
  cases hx : xs[k]? with
  | none =>
    refine wpAny_bind (wpAny_nextOf_list_end hh (li_at.mpr (S1.get (.tail _ (.tail _ (.tail _ (.head _)))))) (list_at.mpr (S1.view hl)) (by simpa using hx) fun h₂ e hs₂ he => ?_)
    obtain ⟨oe, hoe, hce⟩ := he
    have S2 : St h₀ W V (f :: (z, isZ TI TO .ellipsis) :: (TO, isAny2) :: (i2, isTI tp k) :: own) h₂ := by
      have p : List.Perm ((i1, isLI l k) :: f :: (z, isZ TI TO .ellipsis) :: (TO, isAny2) :: (i2, isTI tp k) :: own) (f :: (z, isZ TI TO .ellipsis) :: (TO, isAny2) :: (i1, isLI l k) :: (i2, isTI tp k) :: own) :=
        (List.perm_middle (l₁ := [f, (z, isZ TI TO .ellipsis), (TO, isAny2)]) (l₂ := (i2, isTI tp k) :: own)).symm
      exact (S1.perm p).pop hs₂
    obtain ⟨_, hz₂, rfl⟩ := S2.get (a := z) (.tail _ (.head _))
    refine wpAny_setField_rec hz₂ (by simp) fun h₃ _ hs₃ => q h₃ e ?_ ⟨oe, hs₃.extBut _ _ (nz z hz₂ hoe hce) hoe, hce⟩
    exact St.lose (l := [(z, isZ TI TO .ellipsis), (TO, isAny2), (i2, isTI tp k)]) S2 fun b o hb e => hs₃.extBut b o (hb (z, _) (.head _)) e
  | some x =>
    have hy : ys[k]? = none := by rcases hend with h | h; rw [hx] at h; cases h; exact h
    refine wpAny_bind (wpAny_nextOf_list_item (li_at.mpr (S1.get (.tail _ (.tail _ (.tail _ (.head _)))))) (list_at.mpr (S1.view hl)) (by simpa using hx) fun h₂ h1₂ hs₂ => wpAny_pure ?_)
    have S2 : St h₀ W V (f :: (z, isZ TI TO .ellipsis) :: (TO, isAny2) :: (i1, isLI l (k + 1)) :: (i2, isTI tp k) :: own) h₂ := S1.upd (.tail (.tail (.tail .head))) hs₂ (li_at.mp h1₂)
    obtain ⟨_, eTO, a, b, rfl⟩ := S2.get (a := TO) (.tail _ (.tail _ (.head _)))
    refine wpAny_bind (wpAny_seqItems eTO rfl ?_)
    refine wpAny_bind (wpAny_updateSeq_pair eTO fun h₃ hTO₃ hs₃ => ?_)
    have S3 : St h₀ W V (f :: (z, isZ TI TO .ellipsis) :: (TO, isPr x b) :: (i1, isLI l (k + 1)) :: (i2, isTI tp k) :: own) h₃ := S2.upd (.tail (.tail .head)) hs₃ ⟨_, hTO₃, rfl⟩
    refine wpAny_bind (wpAny_letGo (wpAny_pure ?_))
    refine wpAny_bind (wpAny_bind (wpAny_onRaise ?_))
    show wpAny _ _ (Builtin.SmallTypes.nextOf (.ref i2) >>= _) _ _ _
    refine wpAny_bind (nx_tup_end hh (S3.get (a := i2) (.tail _ (.tail _ (.tail _ (.tail _ (.head _)))))) (S3.view ht) hy fun h₄ e hs₄ he => ?_)
    obtain ⟨oe, hoe, hce⟩ := he
    have S4 : St h₀ W V (f :: (z, isZ TI TO .ellipsis) :: (TO, isPr x b) :: (i1, isLI l (k + 1)) :: own) h₄ := by
      have p : List.Perm ((i2, isTI tp k) :: f :: (z, isZ TI TO .ellipsis) :: (TO, isPr x b) :: (i1, isLI l (k + 1)) :: own) (f :: (z, isZ TI TO .ellipsis) :: (TO, isPr x b) :: (i1, isLI l (k + 1)) :: (i2, isTI tp k) :: own) :=
        (List.perm_middle (l₁ := [f, (z, isZ TI TO .ellipsis), (TO, isPr x b), (i1, isLI l (k + 1))]) (l₂ := own)).symm
      exact (S3.perm p).pop hs₄
    obtain ⟨_, hz₄, rfl⟩ := S4.get (a := z) (.tail _ (.head _))
    refine wpAny_setField_rec hz₄ (by simp) fun h₅ _ hs₅ => q h₅ e ?_ ⟨oe, hs₅.extBut _ _ (nz z hz₄ hoe hce) hoe, hce⟩
    exact St.lose (l := [(z, isZ TI TO .ellipsis), (TO, isPr x b), (i1, isLI l (k + 1))]) S4 fun b o hb e => hs₅.extBut b o (hb (z, _) (.head _)) e
theorem src_zip {elts : List Expr} {kk : Nat} {pos : Pos} {z TI TO i1 i2 l tp : Addr} {xs ys : List Value} (hTI : At V TI (isPr (.ref i1) (.ref i2))) (hl : At V l (isLw xs)) (ht : At V tp (isT ys)) (hh : A.handled = none) :
    Src prog w A (.Tuple elts kk pos) h₀ W z (zipIts z TI TO i1 i2 l tp) (min xs.length ys.length) (fun i x _ V'' => ∃ a b T, xs[i]? = some a ∧ ys[i]? = some b ∧ x = .ref T ∧ At V'' T (isT [a, b])) V where
  next := fun i L V' m own h g d t os Q hi hv S k => by
    have hx := List.getElem?_eq_getElem (Nat.lt_of_lt_of_le hi (Nat.min_le_left ..))
    have hy := List.getElem?_eq_getElem (Nat.lt_of_lt_of_le hi (Nat.min_le_right ..))
    have S0 : St h₀ W V' ((L, isNs m) :: (z, isZ TI TO .none) :: (TO, isAny2) :: (i1, isLI l i) :: (i2, isTI tp i) :: own) h := S
    obtain ⟨_, hz, rfl⟩ := S0.get (a := z) (.tail _ (.head _))
    have hT : Shared.TypeIs ⟨h, g, d, t, os⟩ (.ref z) "zip" := ⟨_, hz, rfl⟩
    unfold pyNext
    refine wpAny_bind (wpAny_attempt (wpAny_callSpecial?_slot (name := Str.ofString "__next__") hT F.slot_zip_next
      (wpAny_call_entry F.slot_zip_next hT F.entry_zip_next
        (z_item S (hTI.keeps hv) (hl.keeps hv) (ht.keeps hv) hx hy fun T V'' h' hv' hT' S' => wpAny_pure ?_) (F.args_zip_next_1 _))))
    obtain ⟨_, hz', rfl⟩ := S'.get (a := z) (.tail _ (.head _))
    refine wpAny_letOwnedTupleGo_zip hz' fun h'' hz'' hs'' => ?_
    exact k _ V'' h'' _ (S'.upd (.tail .head) hs'' ⟨_, hz'', rfl⟩) hv' ⟨_, _, T, hx, hy, rfl, hT'⟩
  done := fun L V' m own h g d t os Q hv S k => by
    have hend : xs[min xs.length ys.length]? = none ∨ ys[min xs.length ys.length]? = none := by
      rcases Nat.le_total xs.length ys.length with h | h
      · exact .inl (by rw [Nat.min_eq_left h]; exact List.getElem?_eq_none (Nat.le_refl _))
      · exact .inr (by rw [Nat.min_eq_right h]; exact List.getElem?_eq_none (Nat.le_refl _))
    have S0 : St h₀ W V' ((L, isNs m) :: (z, isZ TI TO .none) :: (TO, isAny2) :: (i1, isLI l (min xs.length ys.length)) :: (i2, isTI tp (min xs.length ys.length)) :: own) h := S
    obtain ⟨_, hz, rfl⟩ := S0.get (a := z) (.tail _ (.head _))
    have hT : Shared.TypeIs ⟨h, g, d, t, os⟩ (.ref z) "zip" := ⟨_, hz, rfl⟩
    unfold pyNext
    refine wpAny_bind (wpAny_attempt (wpAny_callSpecial?_slot (name := Str.ofString "__next__") hT F.slot_zip_next
      (wpAny_call_entry F.slot_zip_next hT F.entry_zip_next (z_end hh S (hTI.keeps hv) (hl.keeps hv) (ht.keeps hv) hend fun h' e S' he => ?_) (F.args_zip_next_1 _))))
    obtain ⟨o, ho, hc⟩ := he
    refine wpAny_bind (wpAny_isInstance (T := "StopIteration") (b := true) ⟨o, ho, hc⟩ isSubtype_stop ?_)
    exact wpAny_pure (k h' _ S')
  self := fun L V' m own h g d t os Q E hv S k => by
    have S0 : St h₀ W V' ((L, isNs m) :: (z, isZ TI TO .none) :: (TO, isAny2) :: (i1, isLI l 0) :: (i2, isTI tp 0) :: own) h := S
    obtain ⟨_, hz, rfl⟩ := S0.get (a := z) (.tail _ (.head _))
    exact wpAny_pyIter_zip hz k
theorem c_zip {f : Addr × OP} {l tp : Addr} {xs ys : List Value} {Q : Value → Shared → Prop} (S : St h₀ W V (f :: own) h) (hl : At h l (isLw xs)) (ht : At h tp (isT ys))
    (k : ∀ z TI TO i1 i2 V' h', V.StaysIn V' → At V' TI (isPr (.ref i1) (.ref i2)) → St h₀ W V' (f :: (zipIts z TI TO i1 i2 l tp 0 ++ own)) h' → Q (.ref z) ⟨h', g, d, t, os⟩) :
    wpAny (model prog w) A (call (.type "zip") [.ref l, .ref tp]) Q E ⟨h, g, d, t, os⟩ := by
  have hl' := list_at.mpr hl
  have ht' := tup_at.mpr ht
  let h1 := h.push { cls := .type "list_iterator", data := .fields #[.ref l, .int 0 0] }
  let h2 := h1.push { cls := .type "tuple_iterator", data := .fields #[.ref tp, .int 0 0] }
  let h3 := h2.push { cls := .type "tuple", data := .seq #[.ref h.objs.size, .ref h1.objs.size] }
  let h4 := h3.push { cls := .type "tuple", data := .seq #[.none, .none] }
  let h5 := h4.push { cls := .type "zip", data := .fields #[.none, .bool false, .bool false, .ref h2.objs.size, .ref h3.objs.size] }
  have S1 := S.push2 (φ := isLI l 0) { cls := .type "list_iterator", data := .fields #[.ref l, .int 0 0] } rfl ⟨rfl, rfl⟩
  have S2 := S1.push2 (φ := isTI tp 0) { cls := .type "tuple_iterator", data := .fields #[.ref tp, .int 0 0] } rfl ⟨rfl, rfl⟩
  obtain ⟨V', S3, hv, hTI⟩ := S2.new (φ := isPr (.ref h.objs.size) (.ref h1.objs.size)) { cls := .type "tuple", data := .seq #[.ref h.objs.size, .ref h1.objs.size] } rfl rfl
  have S4 := S3.push2 (φ := isAny2) { cls := .type "tuple", data := .seq #[.none, .none] } rfl ⟨_, _, rfl⟩
  have S5 := S4.push2 (φ := isZ h2.objs.size h3.objs.size .none) { cls := .type "zip", data := .fields #[.none, .bool false, .bool false, .ref h2.objs.size, .ref h3.objs.size] } rfl rfl
  have p : List.Perm (f :: (zipIts h4.objs.size h2.objs.size h3.objs.size h.objs.size h1.objs.size l tp 0 ++ own)) (f :: (h4.objs.size, isZ h2.objs.size h3.objs.size .none) :: (h3.objs.size, isAny2) :: (h1.objs.size, isTI tp 0) :: (h.objs.size, isLI l 0) :: own) :=
    .cons _ (.cons _ (.cons _ (.swap ..)))
  have S6 := S5.perm p
  have mz : Meets (Builtin.«zip.__new__» ⟨[.type "zip", .ref l, .ref tp], []⟩) (fun _ R s => s = ⟨h, g, d, t, os⟩ ∧ R (.ok (.ret (.ref h4.objs.size))) ⟨h5, g, d, t, os⟩) :=
    .of_wp fun prog w A R s hs => by
      obtain ⟨rfl, hq⟩ := hs
      have hsub := sub_zip
      have hL1 : Heap.IsList (Shared.heap ⟨h, g, d, t, os⟩) l xs.toArray := hl'
      have hL2 : Heap.IsTuple (Shared.heap ⟨h1, g, d, t, os⟩) tp ys.toArray := Heap.IsTuple.push ht' _
      wp_walk using wpAny_pyIter_list hL1, wpAny_pyIter_tuple hL2
      exact ⟨_, rfl, hq⟩
  refine callType_new F.called_zip (by decide) (F.typeCall_zip_2 _ _) (F.newCall_zip_2 _ _) (fun obj => F.args_object_init_3 obj _ _) F.entry_zip_new mz ⟨rfl, ?_⟩
  exact ⟨⟨_, Heap.get?_push_size _ rfl, rfl⟩, k _ _ _ _ _ V' h5 hv hTI S6⟩
theorem it_zip {f : Addr × OP} {z TI TO i1 i2 l tp : Addr} {Q : Value → Shared → Prop} (S : St h₀ W V (f :: (zipIts z TI TO i1 i2 l tp 0 ++ own)) h) (k : Q (.ref z) ⟨h, g, d, t, os⟩) : wpAny (model prog w) A (pyIter (.ref z)) Q E ⟨h, g, d, t, os⟩ := by
  have S0 : St h₀ W V (f :: (z, isZ TI TO .none) :: (TO, isAny2) :: (i1, isLI l 0) :: (i2, isTI tp 0) :: own) h := S
  obtain ⟨_, hz, rfl⟩ := S0.get (a := z) (.tail _ (.head _))
  exact wpAny_pyIter_zip hz k
end
structure GF (K : Frag) (C : Addr) (name : Str) : Prop where
  g : plainGet K C name = true
  h : hasDictIn K C = true
  f : ∃ attr, findIn K (.ref C) name = some attr ∧ noGet K attr = true
structure SF (K : Frag) (C : Addr) (name : Str) : Prop where
  s : findIn K (.ref C) "__setattr__" = some (some (.builtin "object.__setattr__"))
  p : plainOver K C = true
  t : takerIn K C name = some none
  h : hasDictIn K C = true
structure IF (K : Frag) (D : Addr) : Prop where
  g : plainGet K D "__class__" = true
  h : hasDictIn K D = true
  a : findIn K (.ref D) "__class__" = some (some (.builtin "object.__class__"))
  n : specialIn K (.builtin "object.__class__") "__get__" = some (some (.builtin "getset_descriptor.__get__"))
  t : takesIn K (.builtin "object.__class__") = some true
  m : mroIn K D (.type "object") = some true
structure MF (K : Frag) (C : Addr) (name : Str) (f : Addr) : Prop where
  g : plainGet K C name = true
  e : findIn K (.ref C) name = some (some (.ref f))
  t : isFn K (.ref f) = true
theorem kn (P : Params) : specialIn (hd.heap_39 P) (.builtin "object.__class__") "__get__" = some (some (.builtin "getset_descriptor.__get__")) := by k_is
theorem kt (P : Params) : takesIn (hd.heap_39 P) (.builtin "object.__class__") = some true := by k_is
theorem hd_313 (P : Params) : hasDictIn (hd.heap_39 P) 313 = true := by k_is
theorem hd_213 (P : Params) : hasDictIn (hd.heap_39 P) 213 = true := by k_is
theorem hd_142 (P : Params) : hasDictIn (hd.heap_39 P) 142 = true := by k_is
theorem hd_370 (P : Params) : hasDictIn (hd.heap_39 P) 370 = true := by k_is
theorem hd_348 (P : Params) : hasDictIn (hd.heap_39 P) 348 = true := by k_is
theorem st_313 (P : Params) : findIn (hd.heap_39 P) (.ref 313) "__setattr__" = some (some (.builtin "object.__setattr__")) := by k_is
theorem po_313 (P : Params) : plainOver (hd.heap_39 P) 313 = true := by k_is
theorem st_213 (P : Params) : findIn (hd.heap_39 P) (.ref 213) "__setattr__" = some (some (.builtin "object.__setattr__")) := by k_is
theorem po_213 (P : Params) : plainOver (hd.heap_39 P) 213 = true := by k_is
theorem st_142 (P : Params) : findIn (hd.heap_39 P) (.ref 142) "__setattr__" = some (some (.builtin "object.__setattr__")) := by k_is
theorem po_142 (P : Params) : plainOver (hd.heap_39 P) 142 = true := by k_is
theorem st_370 (P : Params) : findIn (hd.heap_39 P) (.ref 370) "__setattr__" = some (some (.builtin "object.__setattr__")) := by k_is
theorem po_370 (P : Params) : plainOver (hd.heap_39 P) 370 = true := by k_is
theorem st_348 (P : Params) : findIn (hd.heap_39 P) (.ref 348) "__setattr__" = some (some (.builtin "object.__setattr__")) := by k_is
theorem po_348 (P : Params) : plainOver (hd.heap_39 P) 348 = true := by k_is
theorem gf_313_name (P : Params) : GF (hd.heap_39 P) 313 "name" := ⟨by k_is, hd_313 P, _, by k_is, by k_is⟩
theorem gf_313_default (P : Params) : GF (hd.heap_39 P) 313 "default" := ⟨by k_is, hd_313 P, _, by k_is, by k_is⟩
theorem gf_313_validator (P : Params) : GF (hd.heap_39 P) 313 "validator" := ⟨by k_is, hd_313 P, _, by k_is, by k_is⟩
theorem gf_313_eq (P : Params) : GF (hd.heap_39 P) 313 "eq" := ⟨by k_is, hd_313 P, _, by k_is, by k_is⟩
theorem gf_313_eqxkey (P : Params) : GF (hd.heap_39 P) 313 "eq_key" := ⟨by k_is, hd_313 P, _, by k_is, by k_is⟩
theorem gf_313_order (P : Params) : GF (hd.heap_39 P) 313 "order" := ⟨by k_is, hd_313 P, _, by k_is, by k_is⟩
theorem gf_313_orderxkey (P : Params) : GF (hd.heap_39 P) 313 "order_key" := ⟨by k_is, hd_313 P, _, by k_is, by k_is⟩
theorem gf_313_init (P : Params) : GF (hd.heap_39 P) 313 "init" := ⟨by k_is, hd_313 P, _, by k_is, by k_is⟩
theorem gf_313_converter (P : Params) : GF (hd.heap_39 P) 313 "converter" := ⟨by k_is, hd_313 P, _, by k_is, by k_is⟩
theorem gf_313_kwxonly (P : Params) : GF (hd.heap_39 P) 313 "kw_only" := ⟨by k_is, hd_313 P, _, by k_is, by k_is⟩
theorem gf_313_inherited (P : Params) : GF (hd.heap_39 P) 313 "inherited" := ⟨by k_is, hd_313 P, _, by k_is, by k_is⟩
theorem gf_313_alias (P : Params) : GF (hd.heap_39 P) 313 "alias" := ⟨by k_is, hd_313 P, _, by k_is, by k_is⟩
theorem gf_213_kind (P : Params) : GF (hd.heap_39 P) 213 "kind" := ⟨by k_is, hd_213 P, _, by k_is, by k_is⟩
theorem gf_213_held (P : Params) : GF (hd.heap_39 P) 213 "held" := ⟨by k_is, hd_213 P, _, by k_is, by k_is⟩
theorem gf_142_name (P : Params) : GF (hd.heap_39 P) 142 "name" := ⟨by k_is, hd_142 P, _, by k_is, by k_is⟩
theorem gf_142_mro (P : Params) : GF (hd.heap_39 P) 142 "mro" := ⟨by k_is, hd_142 P, _, by k_is, by k_is⟩
theorem gf_142_attrs (P : Params) : GF (hd.heap_39 P) 142 "attrs" := ⟨by k_is, hd_142 P, _, by k_is, by k_is⟩
theorem gf_142_eqxattrs (P : Params) : GF (hd.heap_39 P) 142 "eq_attrs" := ⟨by k_is, hd_142 P, _, by k_is, by k_is⟩
theorem gf_142_orderxattrs (P : Params) : GF (hd.heap_39 P) 142 "order_attrs" := ⟨by k_is, hd_142 P, _, by k_is, by k_is⟩
theorem gf_370_factory (P : Params) : GF (hd.heap_39 P) 370 "factory" := ⟨by k_is, hd_370 P, _, by k_is, by k_is⟩
theorem gf_370_takesxself (P : Params) : GF (hd.heap_39 P) 370 "takes_self" := ⟨by k_is, hd_370 P, _, by k_is, by k_is⟩
theorem gf_348_xdefault (P : Params) : GF (hd.heap_39 P) 348 "_default" := ⟨by k_is, hd_348 P, _, by k_is, by k_is⟩
theorem gf_348_xvalidator (P : Params) : GF (hd.heap_39 P) 348 "_validator" := ⟨by k_is, hd_348 P, _, by k_is, by k_is⟩
theorem gf_348_init (P : Params) : GF (hd.heap_39 P) 348 "init" := ⟨by k_is, hd_348 P, _, by k_is, by k_is⟩
theorem gf_348_converter (P : Params) : GF (hd.heap_39 P) 348 "converter" := ⟨by k_is, hd_348 P, _, by k_is, by k_is⟩
theorem gf_348_kwxonly (P : Params) : GF (hd.heap_39 P) 348 "kw_only" := ⟨by k_is, hd_348 P, _, by k_is, by k_is⟩
theorem gf_348_eq (P : Params) : GF (hd.heap_39 P) 348 "eq" := ⟨by k_is, hd_348 P, _, by k_is, by k_is⟩
theorem gf_348_eqxkey (P : Params) : GF (hd.heap_39 P) 348 "eq_key" := ⟨by k_is, hd_348 P, _, by k_is, by k_is⟩
theorem gf_348_order (P : Params) : GF (hd.heap_39 P) 348 "order" := ⟨by k_is, hd_348 P, _, by k_is, by k_is⟩
theorem gf_348_orderxkey (P : Params) : GF (hd.heap_39 P) 348 "order_key" := ⟨by k_is, hd_348 P, _, by k_is, by k_is⟩
theorem gf_348_onxsetattr (P : Params) : GF (hd.heap_39 P) 348 "on_setattr" := ⟨by k_is, hd_348 P, _, by k_is, by k_is⟩
theorem gf_348_alias (P : Params) : GF (hd.heap_39 P) 348 "alias" := ⟨by k_is, hd_348 P, _, by k_is, by k_is⟩
theorem sf_313_name (P : Params) : SF (hd.heap_39 P) 313 "name" := ⟨st_313 P, po_313 P, by k_is, hd_313 P⟩
theorem sf_313_default (P : Params) : SF (hd.heap_39 P) 313 "default" := ⟨st_313 P, po_313 P, by k_is, hd_313 P⟩
theorem sf_313_validator (P : Params) : SF (hd.heap_39 P) 313 "validator" := ⟨st_313 P, po_313 P, by k_is, hd_313 P⟩
theorem sf_313_eq (P : Params) : SF (hd.heap_39 P) 313 "eq" := ⟨st_313 P, po_313 P, by k_is, hd_313 P⟩
theorem sf_313_eqxkey (P : Params) : SF (hd.heap_39 P) 313 "eq_key" := ⟨st_313 P, po_313 P, by k_is, hd_313 P⟩
theorem sf_313_order (P : Params) : SF (hd.heap_39 P) 313 "order" := ⟨st_313 P, po_313 P, by k_is, hd_313 P⟩
theorem sf_313_orderxkey (P : Params) : SF (hd.heap_39 P) 313 "order_key" := ⟨st_313 P, po_313 P, by k_is, hd_313 P⟩
theorem sf_313_init (P : Params) : SF (hd.heap_39 P) 313 "init" := ⟨st_313 P, po_313 P, by k_is, hd_313 P⟩
theorem sf_313_converter (P : Params) : SF (hd.heap_39 P) 313 "converter" := ⟨st_313 P, po_313 P, by k_is, hd_313 P⟩
theorem sf_313_kwxonly (P : Params) : SF (hd.heap_39 P) 313 "kw_only" := ⟨st_313 P, po_313 P, by k_is, hd_313 P⟩
theorem sf_313_inherited (P : Params) : SF (hd.heap_39 P) 313 "inherited" := ⟨st_313 P, po_313 P, by k_is, hd_313 P⟩
theorem sf_313_onxsetattr (P : Params) : SF (hd.heap_39 P) 313 "on_setattr" := ⟨st_313 P, po_313 P, by k_is, hd_313 P⟩
theorem sf_313_alias (P : Params) : SF (hd.heap_39 P) 313 "alias" := ⟨st_313 P, po_313 P, by k_is, hd_313 P⟩
theorem sf_313_aliasxisxdefault (P : Params) : SF (hd.heap_39 P) 313 "alias_is_default" := ⟨st_313 P, po_313 P, by k_is, hd_313 P⟩
theorem sf_213_kind (P : Params) : SF (hd.heap_39 P) 213 "kind" := ⟨st_213 P, po_213 P, by k_is, hd_213 P⟩
theorem sf_213_held (P : Params) : SF (hd.heap_39 P) 213 "held" := ⟨st_213 P, po_213 P, by k_is, hd_213 P⟩
theorem sf_142_name (P : Params) : SF (hd.heap_39 P) 142 "name" := ⟨st_142 P, po_142 P, by k_is, hd_142 P⟩
theorem sf_142_mro (P : Params) : SF (hd.heap_39 P) 142 "mro" := ⟨st_142 P, po_142 P, by k_is, hd_142 P⟩
theorem sf_142_attrs (P : Params) : SF (hd.heap_39 P) 142 "attrs" := ⟨st_142 P, po_142 P, by k_is, hd_142 P⟩
theorem sf_142_eqxattrs (P : Params) : SF (hd.heap_39 P) 142 "eq_attrs" := ⟨st_142 P, po_142 P, by k_is, hd_142 P⟩
theorem sf_142_orderxattrs (P : Params) : SF (hd.heap_39 P) 142 "order_attrs" := ⟨st_142 P, po_142 P, by k_is, hd_142 P⟩
theorem sf_370_factory (P : Params) : SF (hd.heap_39 P) 370 "factory" := ⟨st_370 P, po_370 P, by k_is, hd_370 P⟩
theorem sf_370_takesxself (P : Params) : SF (hd.heap_39 P) 370 "takes_self" := ⟨st_370 P, po_370 P, by k_is, hd_370 P⟩
theorem sf_348_xdefault (P : Params) : SF (hd.heap_39 P) 348 "_default" := ⟨st_348 P, po_348 P, by k_is, hd_348 P⟩
theorem sf_348_xvalidator (P : Params) : SF (hd.heap_39 P) 348 "_validator" := ⟨st_348 P, po_348 P, by k_is, hd_348 P⟩
theorem sf_348_init (P : Params) : SF (hd.heap_39 P) 348 "init" := ⟨st_348 P, po_348 P, by k_is, hd_348 P⟩
theorem sf_348_converter (P : Params) : SF (hd.heap_39 P) 348 "converter" := ⟨st_348 P, po_348 P, by k_is, hd_348 P⟩
theorem sf_348_kwxonly (P : Params) : SF (hd.heap_39 P) 348 "kw_only" := ⟨st_348 P, po_348 P, by k_is, hd_348 P⟩
theorem sf_348_eq (P : Params) : SF (hd.heap_39 P) 348 "eq" := ⟨st_348 P, po_348 P, by k_is, hd_348 P⟩
theorem sf_348_eqxkey (P : Params) : SF (hd.heap_39 P) 348 "eq_key" := ⟨st_348 P, po_348 P, by k_is, hd_348 P⟩
theorem sf_348_order (P : Params) : SF (hd.heap_39 P) 348 "order" := ⟨st_348 P, po_348 P, by k_is, hd_348 P⟩
theorem sf_348_orderxkey (P : Params) : SF (hd.heap_39 P) 348 "order_key" := ⟨st_348 P, po_348 P, by k_is, hd_348 P⟩
theorem sf_348_onxsetattr (P : Params) : SF (hd.heap_39 P) 348 "on_setattr" := ⟨st_348 P, po_348 P, by k_is, hd_348 P⟩
theorem sf_348_alias (P : Params) : SF (hd.heap_39 P) 348 "alias" := ⟨st_348 P, po_348 P, by k_is, hd_348 P⟩
theorem if_213 (P : Params) : IF (hd.heap_39 P) 213 := ⟨by k_is, hd_213 P, by k_is, kn P, kt P, by k_is⟩
theorem if_142 (P : Params) : IF (hd.heap_39 P) 142 := ⟨by k_is, hd_142 P, by k_is, kn P, kt P, by k_is⟩
theorem if_313 (P : Params) : IF (hd.heap_39 P) 313 := ⟨by k_is, hd_313 P, by k_is, kn P, kt P, by k_is⟩
theorem if_370 (P : Params) : IF (hd.heap_39 P) 370 := ⟨by k_is, hd_370 P, by k_is, kn P, kt P, by k_is⟩
theorem mf_142_eqxof (P : Params) : MF (hd.heap_39 P) 142 "eq_of" 125 := ⟨by k_is, by k_is, by k_is⟩
theorem gl_NOTHING (P : Params) : nsIn (hd.heap_39 P) mainGlobals "NOTHING" = some (some (.ref 70)) := by k_is
theorem gl_attrib (P : Params) : nsIn (hd.heap_39 P) mainGlobals "attrib" = some (some (.ref 78)) := by k_is
theorem gl_xcollectxbasexattrsxbroken (P : Params) : nsIn (hd.heap_39 P) mainGlobals "_collect_base_attrs_broken" = some (some (.ref 92)) := by k_is
theorem gl_xtransformxattrs (P : Params) : nsIn (hd.heap_39 P) mainGlobals "_transform_attrs" = some (some (.ref 97)) := by k_is
theorem gl_evolve (P : Params) : nsIn (hd.heap_39 P) mainGlobals "evolve" = some (some (.ref 104)) := by k_is
theorem gl_Kind (P : Params) : nsIn (hd.heap_39 P) mainGlobals "Kind" = some (some (.ref 142)) := by k_is
theorem gl_xlinear (P : Params) : nsIn (hd.heap_39 P) mainGlobals "_linear" = some (some (.ref 151)) := by k_is
theorem gl_xhanded (P : Params) : nsIn (hd.heap_39 P) mainGlobals "_handed" = some (some (.ref 156)) := by k_is
theorem gl_Made (P : Params) : nsIn (hd.heap_39 P) mainGlobals "Made" = some (some (.ref 213)) := by k_is
theorem gl_kindxof (P : Params) : nsIn (hd.heap_39 P) mainGlobals "kind_of" = some (some (.ref 224)) := by k_is
theorem gl_xkeyed (P : Params) : nsIn (hd.heap_39 P) mainGlobals "_keyed" = some (some (.ref 231)) := by k_is
theorem gl_attrsxtoxtuple (P : Params) : nsIn (hd.heap_39 P) mainGlobals "attrs_to_tuple" = some (some (.ref 236)) := by k_is
theorem gl_xdeterminexattrsxeqxorder (P : Params) : nsIn (hd.heap_39 P) mainGlobals "_determine_attrs_eq_order" = some (some (.ref 243)) := by k_is
theorem gl_xdeterminexattribxeqxorder (P : Params) : nsIn (hd.heap_39 P) mainGlobals "_determine_attrib_eq_order" = some (some (.ref 250)) := by k_is
theorem gl_fields (P : Params) : nsIn (hd.heap_39 P) mainGlobals "fields" = some (some (.ref 257)) := by k_is
theorem gl_xdefaultxinitxaliasxfor (P : Params) : nsIn (hd.heap_39 P) mainGlobals "_default_init_alias_for" = some (some (.ref 264)) := by k_is
theorem gl_Attribute (P : Params) : nsIn (hd.heap_39 P) mainGlobals "Attribute" = some (some (.ref 313)) := by k_is
theorem gl_xCountingAttr (P : Params) : nsIn (hd.heap_39 P) mainGlobals "_CountingAttr" = some (some (.ref 348)) := by k_is
theorem gl_Factory (P : Params) : nsIn (hd.heap_39 P) mainGlobals "Factory" = some (some (.ref 370)) := by k_is
theorem gl_Converter (P : Params) : nsIn (hd.heap_39 P) mainGlobals "Converter" = some (some (.ref 399)) := by k_is
theorem gl_makexclass (P : Params) : nsIn (hd.heap_39 P) mainGlobals "make_class" = some (some (.ref 410)) := by k_is
theorem gl_called (P : Params) : nsIn (hd.heap_39 P) mainGlobals "called" = some (some (.ref 459)) := by k_is
theorem gl_xisxatomic (P : Params) : nsIn (hd.heap_39 P) mainGlobals "_is_atomic" = some (some (.ref 466)) := by k_is
theorem gl_xwanted (P : Params) : nsIn (hd.heap_39 P) mainGlobals "_wanted" = some (some (.ref 480)) := by k_is
theorem gl_asdict (P : Params) : nsIn (hd.heap_39 P) mainGlobals "asdict" = some (some (.ref 486)) := by k_is
theorem gl_has (P : Params) : nsIn (hd.heap_39 P) mainGlobals "has" = some (some (.ref 498)) := by k_is
theorem gl_xlawxdraw (P : Params) : nsIn (hd.heap_39 P) mainGlobals "_law_draw" = some (some (.ref 503)) := by k_is
theorem gl_xlawxtake (P : Params) : nsIn (hd.heap_39 P) mainGlobals "_law_take" = some (some (.ref 510)) := by k_is
theorem gl_xlawxsize (P : Params) : nsIn (hd.heap_39 P) mainGlobals "_law_size" = some (some (.ref 517)) := by k_is
theorem gl_xlawxup (P : Params) : nsIn (hd.heap_39 P) mainGlobals "_law_up" = some (some (.ref 524)) := by k_is
theorem gl_xlawxway (P : Params) : nsIn (hd.heap_39 P) mainGlobals "_law_way" = some (some (.ref 531)) := by k_is
theorem gl_xlawxput (P : Params) : nsIn (hd.heap_39 P) mainGlobals "_law_put" = some (some (.ref 538)) := by k_is
theorem gl_xlawxout (P : Params) : nsIn (hd.heap_39 P) mainGlobals "_law_out" = some (some (.ref 545)) := by k_is
theorem gl_xlawxplainxput (P : Params) : nsIn (hd.heap_39 P) mainGlobals "_law_plain_put" = some (some (.ref 552)) := by k_is
theorem gl_xlawxplainxout (P : Params) : nsIn (hd.heap_39 P) mainGlobals "_law_plain_out" = some (some (.ref 559)) := by k_is
theorem gl_xlawxkeys (P : Params) : nsIn (hd.heap_39 P) mainGlobals "_law_keys" = some (some (.ref 566)) := by k_is
theorem gl_xlawxtable (P : Params) : nsIn (hd.heap_39 P) mainGlobals "_law_table" = some (some (.ref 573)) := by k_is
theorem gl_xlawxnth (P : Params) : nsIn (hd.heap_39 P) mainGlobals "_law_nth" = some (some (.ref 580)) := by k_is
theorem gl_xrunxvalidators (P : Params) : nsIn (hd.heap_39 P) mainGlobals "_run_validators" = some (some (.bool true)) := by k_is
theorem gb_len (P : Params) : nsIn (hd.heap_39 P) mainGlobals "len" = some none := by k_is
theorem gb_isinstance (P : Params) : nsIn (hd.heap_39 P) mainGlobals "isinstance" = some none := by k_is
theorem gb_zip (P : Params) : nsIn (hd.heap_39 P) mainGlobals "zip" = some none := by k_is
theorem gb_callable (P : Params) : nsIn (hd.heap_39 P) mainGlobals "callable" = some none := by k_is
theorem gb_list (P : Params) : nsIn (hd.heap_39 P) mainGlobals "list" = some none := by k_is
theorem gb_tuple (P : Params) : nsIn (hd.heap_39 P) mainGlobals "tuple" = some none := by k_is
theorem gb_dict (P : Params) : nsIn (hd.heap_39 P) mainGlobals "dict" = some none := by k_is
theorem gb_int (P : Params) : nsIn (hd.heap_39 P) mainGlobals "int" = some none := by k_is
theorem gb_bool (P : Params) : nsIn (hd.heap_39 P) mainGlobals "bool" = some none := by k_is
theorem gb_str (P : Params) : nsIn (hd.heap_39 P) mainGlobals "str" = some none := by k_is
theorem gb_bytes (P : Params) : nsIn (hd.heap_39 P) mainGlobals "bytes" = some none := by k_is
theorem gb_abs (P : Params) : nsIn (hd.heap_39 P) mainGlobals "abs" = some none := by k_is
theorem gb_range (P : Params) : nsIn (hd.heap_39 P) mainGlobals "range" = some none := by k_is
theorem ke_78 (P : Params) : keepIn (hd.heap_39 P) (.ref 78) = true := by k_is
theorem ke_92 (P : Params) : keepIn (hd.heap_39 P) (.ref 92) = true := by k_is
theorem ke_97 (P : Params) : keepIn (hd.heap_39 P) (.ref 97) = true := by k_is
theorem ke_104 (P : Params) : keepIn (hd.heap_39 P) (.ref 104) = true := by k_is
theorem ke_142 (P : Params) : keepIn (hd.heap_39 P) (.ref 142) = true := by k_is
theorem ke_151 (P : Params) : keepIn (hd.heap_39 P) (.ref 151) = true := by k_is
theorem ke_156 (P : Params) : keepIn (hd.heap_39 P) (.ref 156) = true := by k_is
theorem ke_213 (P : Params) : keepIn (hd.heap_39 P) (.ref 213) = true := by k_is
theorem ke_224 (P : Params) : keepIn (hd.heap_39 P) (.ref 224) = true := by k_is
theorem ke_231 (P : Params) : keepIn (hd.heap_39 P) (.ref 231) = true := by k_is
theorem ke_236 (P : Params) : keepIn (hd.heap_39 P) (.ref 236) = true := by k_is
theorem ke_243 (P : Params) : keepIn (hd.heap_39 P) (.ref 243) = true := by k_is
theorem ke_250 (P : Params) : keepIn (hd.heap_39 P) (.ref 250) = true := by k_is
theorem ke_257 (P : Params) : keepIn (hd.heap_39 P) (.ref 257) = true := by k_is
theorem ke_264 (P : Params) : keepIn (hd.heap_39 P) (.ref 264) = true := by k_is
theorem ke_313 (P : Params) : keepIn (hd.heap_39 P) (.ref 313) = true := by k_is
theorem ke_348 (P : Params) : keepIn (hd.heap_39 P) (.ref 348) = true := by k_is
theorem ke_370 (P : Params) : keepIn (hd.heap_39 P) (.ref 370) = true := by k_is
theorem ke_399 (P : Params) : keepIn (hd.heap_39 P) (.ref 399) = true := by k_is
theorem ke_410 (P : Params) : keepIn (hd.heap_39 P) (.ref 410) = true := by k_is
theorem ke_459 (P : Params) : keepIn (hd.heap_39 P) (.ref 459) = true := by k_is
theorem ke_466 (P : Params) : keepIn (hd.heap_39 P) (.ref 466) = true := by k_is
theorem ke_480 (P : Params) : keepIn (hd.heap_39 P) (.ref 480) = true := by k_is
theorem ke_486 (P : Params) : keepIn (hd.heap_39 P) (.ref 486) = true := by k_is
theorem ke_498 (P : Params) : keepIn (hd.heap_39 P) (.ref 498) = true := by k_is
theorem ke_503 (P : Params) : keepIn (hd.heap_39 P) (.ref 503) = true := by k_is
theorem ke_510 (P : Params) : keepIn (hd.heap_39 P) (.ref 510) = true := by k_is
theorem ke_517 (P : Params) : keepIn (hd.heap_39 P) (.ref 517) = true := by k_is
theorem ke_524 (P : Params) : keepIn (hd.heap_39 P) (.ref 524) = true := by k_is
theorem ke_531 (P : Params) : keepIn (hd.heap_39 P) (.ref 531) = true := by k_is
theorem ke_538 (P : Params) : keepIn (hd.heap_39 P) (.ref 538) = true := by k_is
theorem ke_545 (P : Params) : keepIn (hd.heap_39 P) (.ref 545) = true := by k_is
theorem ke_552 (P : Params) : keepIn (hd.heap_39 P) (.ref 552) = true := by k_is
theorem ke_559 (P : Params) : keepIn (hd.heap_39 P) (.ref 559) = true := by k_is
theorem ke_566 (P : Params) : keepIn (hd.heap_39 P) (.ref 566) = true := by k_is
theorem ke_573 (P : Params) : keepIn (hd.heap_39 P) (.ref 573) = true := by k_is
theorem ke_580 (P : Params) : keepIn (hd.heap_39 P) (.ref 580) = true := by k_is
local macro_rules | `(tactic| wtm_at "v_gf") => `(tactic| with_reducible first
  | exact gf_313_name _
  | exact gf_313_default _
  | exact gf_313_validator _
  | exact gf_313_eq _
  | exact gf_313_eqxkey _
  | exact gf_313_order _
  | exact gf_313_orderxkey _
  | exact gf_313_init _
  | exact gf_313_converter _
  | exact gf_313_kwxonly _
  | exact gf_313_inherited _
  | exact gf_313_alias _
  | exact gf_213_kind _
  | exact gf_213_held _
  | exact gf_142_name _
  | exact gf_142_mro _
  | exact gf_142_attrs _
  | exact gf_142_eqxattrs _
  | exact gf_142_orderxattrs _
  | exact gf_370_factory _
  | exact gf_370_takesxself _
  | exact gf_348_xdefault _
  | exact gf_348_xvalidator _
  | exact gf_348_init _
  | exact gf_348_converter _
  | exact gf_348_kwxonly _
  | exact gf_348_eq _
  | exact gf_348_eqxkey _
  | exact gf_348_order _
  | exact gf_348_orderxkey _
  | exact gf_348_onxsetattr _
  | exact gf_348_alias _)
local macro_rules | `(tactic| wtm_at "v_sf") => `(tactic| with_reducible first
  | exact sf_313_name _
  | exact sf_313_default _
  | exact sf_313_validator _
  | exact sf_313_eq _
  | exact sf_313_eqxkey _
  | exact sf_313_order _
  | exact sf_313_orderxkey _
  | exact sf_313_init _
  | exact sf_313_converter _
  | exact sf_313_kwxonly _
  | exact sf_313_inherited _
  | exact sf_313_onxsetattr _
  | exact sf_313_alias _
  | exact sf_313_aliasxisxdefault _
  | exact sf_213_kind _
  | exact sf_213_held _
  | exact sf_142_name _
  | exact sf_142_mro _
  | exact sf_142_attrs _
  | exact sf_142_eqxattrs _
  | exact sf_142_orderxattrs _
  | exact sf_370_factory _
  | exact sf_370_takesxself _
  | exact sf_348_xdefault _
  | exact sf_348_xvalidator _
  | exact sf_348_init _
  | exact sf_348_converter _
  | exact sf_348_kwxonly _
  | exact sf_348_eq _
  | exact sf_348_eqxkey _
  | exact sf_348_order _
  | exact sf_348_orderxkey _
  | exact sf_348_onxsetattr _
  | exact sf_348_alias _)
local macro_rules | `(tactic| wtm_at "v_if") => `(tactic| with_reducible first
  | exact if_213 _
  | exact if_142 _
  | exact if_313 _
  | exact if_370 _)
local macro_rules | `(tactic| wtm_at "v_mf") => `(tactic| with_reducible first
  | exact mf_142_eqxof _)
local macro_rules | `(tactic| wtm_at "v_gl") => `(tactic| with_reducible first
  | exact gl_NOTHING _
  | exact gl_attrib _
  | exact gl_xcollectxbasexattrsxbroken _
  | exact gl_xtransformxattrs _
  | exact gl_evolve _
  | exact gl_Kind _
  | exact gl_xlinear _
  | exact gl_xhanded _
  | exact gl_Made _
  | exact gl_kindxof _
  | exact gl_xkeyed _
  | exact gl_attrsxtoxtuple _
  | exact gl_xdeterminexattrsxeqxorder _
  | exact gl_xdeterminexattribxeqxorder _
  | exact gl_fields _
  | exact gl_xdefaultxinitxaliasxfor _
  | exact gl_Attribute _
  | exact gl_xCountingAttr _
  | exact gl_Factory _
  | exact gl_Converter _
  | exact gl_makexclass _
  | exact gl_called _
  | exact gl_xisxatomic _
  | exact gl_xwanted _
  | exact gl_asdict _
  | exact gl_has _
  | exact gl_xlawxdraw _
  | exact gl_xlawxtake _
  | exact gl_xlawxsize _
  | exact gl_xlawxup _
  | exact gl_xlawxway _
  | exact gl_xlawxput _
  | exact gl_xlawxout _
  | exact gl_xlawxplainxput _
  | exact gl_xlawxplainxout _
  | exact gl_xlawxkeys _
  | exact gl_xlawxtable _
  | exact gl_xlawxnth _
  | exact gl_xrunxvalidators _)
local macro_rules | `(tactic| wtm_at "v_gb") => `(tactic| with_reducible first
  | exact gb_len _
  | exact gb_isinstance _
  | exact gb_zip _
  | exact gb_callable _
  | exact gb_list _
  | exact gb_tuple _
  | exact gb_dict _
  | exact gb_int _
  | exact gb_bool _
  | exact gb_str _
  | exact gb_bytes _
  | exact gb_abs _
  | exact gb_range _)
local macro_rules | `(tactic| wtm_at "v_ke") => `(tactic| with_reducible first
  | exact ke_78 _
  | exact ke_92 _
  | exact ke_97 _
  | exact ke_104 _
  | exact ke_142 _
  | exact ke_151 _
  | exact ke_156 _
  | exact ke_213 _
  | exact ke_224 _
  | exact ke_231 _
  | exact ke_236 _
  | exact ke_243 _
  | exact ke_250 _
  | exact ke_257 _
  | exact ke_264 _
  | exact ke_313 _
  | exact ke_348 _
  | exact ke_370 _
  | exact ke_399 _
  | exact ke_410 _
  | exact ke_459 _
  | exact ke_466 _
  | exact ke_480 _
  | exact ke_486 _
  | exact ke_498 _
  | exact ke_503 _
  | exact ke_510 _
  | exact ke_517 _
  | exact ke_524 _
  | exact ke_531 _
  | exact ke_538 _
  | exact ke_545 _
  | exact ke_552 _
  | exact ke_559 _
  | exact ke_566 _
  | exact ke_573 _
  | exact ke_580 _)
section
variable {prog : Program} {w : World} {A : Around} {E : Value → Shared → Prop} {h₀ W V h : Heap} {own own' : List (Addr × OP)} {g : Array GenState} {d : Drawn} {t : Nat} {os : OsState} {env : Env} {mg mb : Str → Option Value}
theorem g_own2 {x C dx : Addr} {l : List (Str × Value)} {name : Str} {v : Value} {expr : Bool} {Q : Value → Shared → Prop} (S : St h₀ W V own h) (X : WF w.params mg mb V) (hx : At h x (isI C dx)) (hm : At h dx (isD l)) (F : GF (hd.heap_39 w.params) C name)
    (hl : l.lookup name = some v) (hv : handedIn v = true) (k : ∀ t', Q v ⟨h, g, d, t', os⟩) : wpAny (model prog w) A (getAttr (.ref x) name expr) Q E ⟨h, g, d, t, os⟩ := let ⟨_, a, b⟩ := F.f; g_own S X hx hm F.g F.h a b hl hv k
theorem a_set2 {x C dx : Addr} {l : List (Str × Value)} {name : Str} {v : Value} {Q : Unit → Shared → Prop} (S : St h₀ W V own h) (X : WF w.params mg mb V) (hx : At h x (isI C dx)) (u : Upd1 dx (isD l) (isD (putA l name v)) own own') (F : SF (hd.heap_39 w.params) C name)
    (hz : l.length < 1000) (k : ∀ h' t', St h₀ W V own' h' → Q () ⟨h', g, d, t', os⟩) : wpAny (model prog w) A (setAttr (.ref x) name v) Q E ⟨h, g, d, t, os⟩ := a_set S X hx u F.s F.p F.t F.h hz k
theorem m_own2 {x C dx f : Addr} {l : List (Str × Value)} {name : Str} {pl : Sem Bool} {Q : Value × List Value → Shared → Prop} (S : St h₀ W V own h) (X : WF w.params mg mb V) (hx : At h x (isI C dx)) (hm : At h dx (isD l)) (F : MF (hd.heap_39 w.params) C name f) (hl : l.lookup name = none)
    (k : Q (.ref f, [.ref x]) ⟨h, g, d, t, os⟩) : wpAny (model prog w) A (getMethod (.ref x) name pl) Q E ⟨h, g, d, t, os⟩ := m_own S X hx hm F.g F.e F.t hl k
theorem m_field {x C dx : Addr} {l : List (Str × Value)} {name : Str} {v : Value} {pl : Sem Bool} {Q : Value × List Value → Shared → Prop} (S : St h₀ W V own h) (X : WF w.params mg mb V) (hx : At h x (isI C dx)) (hm : At h dx (isD l)) (F : GF (hd.heap_39 w.params) C name)
    (hf : findIn (hd.heap_39 w.params) (.ref C) name = some none) (hl : l.lookup name = some v) (hv : handedIn v = true) (k : ∀ t', Q (v, []) ⟨h, g, d, t', os⟩) : wpAny (model prog w) A (getMethod (.ref x) name pl) Q E ⟨h, g, d, t, os⟩ := by
  obtain ⟨es, n, I, _⟩ := inst_at hx hm
  exact method_usual (X.K.keeps S.le) I (plainGet_of F.g).1 (plainGet_of F.g).2 hf rfl (g_own2 S X hx hm F hl hv k)
theorem is_rn {a : Addr} {Q : Value → Shared → Prop} {s : Shared} (k : Q (.bool false) s) : wpAny (model prog w) A (compareOp .Is (.ref a) .none) Q E s := is_f rfl rfl k
theorem is_nn {Q : Value → Shared → Prop} {s : Shared} (k : Q (.bool true) s) : wpAny (model prog w) A (compareOp .Is .none .none) Q E s := is_t rfl rfl k
theorem isn_rn {a : Addr} {Q : Value → Shared → Prop} {s : Shared} (k : Q (.bool true) s) : wpAny (model prog w) A (compareOp .IsNot (.ref a) .none) Q E s := isn_f rfl rfl k
theorem isn_nn {Q : Value → Shared → Prop} {s : Shared} (k : Q (.bool false) s) : wpAny (model prog w) A (compareOp .IsNot .none .none) Q E s := isn_t rfl rfl k
theorem is_in {i : Int} {u : Tok} {Q : Value → Shared → Prop} {s : Shared} (k : Q (.bool false) s) : wpAny (model prog w) A (compareOp .Is (.int i u) .none) Q E s := is_f rfl rfl k
theorem is_bb {b c : Bool} {Q : Value → Shared → Prop} {s : Shared} (k : Q (.bool (b == c)) s) : wpAny (model prog w) A (compareOp .Is (.bool b) (.bool c)) Q E s := by
  cases b <;> cases c
  · exact is_t rfl rfl k
  · exact is_f rfl rfl k
  · exact is_f rfl rfl k
  · exact is_t rfl rfl k
theorem is_self {a : Addr} {Q : Value → Shared → Prop} {s : Shared} (k : Q (.bool true) s) : wpAny (model prog w) A (compareOp .Is (.ref a) (.ref a)) Q E s := wpAny_is_ref_self k
theorem isn_self {a : Addr} {Q : Value → Shared → Prop} {s : Shared} (k : Q (.bool false) s) : wpAny (model prog w) A (compareOp .IsNot (.ref a) (.ref a)) Q E s := wpAny_isNot_ref_self k
theorem ne70 {V : Heap} {a C da : Addr} (X : WF w.params mg mb V) (h : At V a (isI C da)) (hC : C ≠ 64) : a ≠ 70 := by
  rintro rfl
  obtain ⟨o, e, rfl⟩ := h
  obtain ⟨od, dt, sl, e'⟩ : ∃ od dt sl, (hd.heap_39 w.params).lookup 70 = some ⟨.ref 64, od, dt, sl⟩ := ⟨_, _, _, by k_is⟩
  have z := X.K _ _ e'
  rw [e] at z
  simp only [Option.some.injEq, Obj.mk.injEq, Value.ref.injEq] at z
  exact hC z.1
theorem is_70 {a C da : Addr} {Q : Value → Shared → Prop} (S : St h₀ W V own h) (X : WF w.params mg mb V) (hx : At h a (isI C da)) (hC : C ≠ 64) (k : Q (.bool false) ⟨h, g, d, t, os⟩) : wpAny (model prog w) A (compareOp .Is (.ref a) (.ref 70)) Q E ⟨h, g, d, t, os⟩ := by
  have ne := ne70 (X.keeps S.le) hx hC
  obtain ⟨o, e, rfl⟩ := hx
  obtain ⟨od, dt, sl, e'⟩ : ∃ od dt sl, (hd.heap_39 w.params).lookup 70 = some ⟨.ref 64, od, dt, sl⟩ := ⟨_, _, _, by k_is⟩
  exact wpAny_is_ref_other ne e ((X.K.keeps S.le) _ _ e') (by intro z; cases z) k
theorem isn_70 {a C da : Addr} {Q : Value → Shared → Prop} (S : St h₀ W V own h) (X : WF w.params mg mb V) (hx : At h a (isI C da)) (hC : C ≠ 64) (k : Q (.bool true) ⟨h, g, d, t, os⟩) : wpAny (model prog w) A (compareOp .IsNot (.ref a) (.ref 70)) Q E ⟨h, g, d, t, os⟩ := by
  have ne := ne70 (X.keeps S.le) hx hC
  obtain ⟨o, e, rfl⟩ := hx
  obtain ⟨od, dt, sl, e'⟩ : ∃ od dt sl, (hd.heap_39 w.params).lookup 70 = some ⟨.ref 64, od, dt, sl⟩ := ⟨_, _, _, by k_is⟩
  exact wpAny_isNot_ref_other ne e ((X.K.keeps S.le) _ _ e') (by intro z; cases z) k
theorem ref_ne {a b : Addr} (h : a ≠ b) : (Value.ref a == Value.ref b) = false := beq_eq_false_iff_ne.mpr fun e => h (Value.ref.inj e)
theorem i_own2 {x D dx : Addr} {l : List (Str × Value)} {c : Value} {b : Bool} {Q : Value → Shared → Prop} (S : St h₀ W V own h) (X : WF w.params mg mb V) (hx : At h x (isI D dx)) (hm : At h dx (isD l)) (F : IF (hd.heap_39 w.params) D) (e : kitOne (hd.heap_39 w.params) (.ref D) c = some b)
    (k : ∀ t', Q (.bool b) ⟨h, g, d, t', os⟩) : wpAny (model prog w) A (call (.builtin "isinstance") [.ref x, c]) Q E ⟨h, g, d, t, os⟩ := i_own S X hx hm e F.g F.h F.a F.n F.t F.m k
theorem i_own_t2 {x D dx tp : Addr} {l : List (Str × Value)} {its : List Value} {b : Bool} {Q : Value → Shared → Prop} (S : St h₀ W V own h) (X : WF w.params mg mb V) (hx : At h x (isI D dx)) (hm : At h dx (isD l)) (ht : At h tp (isT its)) (F : IF (hd.heap_39 w.params) D) (e : kitAny (hd.heap_39 w.params) (.ref D) its = some b)
    (k : ∀ t', Q (.bool b) ⟨h, g, d, t', os⟩) : wpAny (model prog w) A (call (.builtin "isinstance") [.ref x, .ref tp]) Q E ⟨h, g, d, t, os⟩ := i_own_t S X hx hm ht e F.g F.h F.a F.n F.t F.m k
end
local macro_rules | `(tactic| wtm_at "v_name") => `(tactic| ((with_reducible rename St _ _ _ _ _ => S'); first
  | refine e_loc S' (by first | rfl | assumption) ?_
  | refine e_glob S' (by wtm_at "v_wf") (by wtm_at "v_gl") ?_
  | refine e_bui S' (by wtm_at "v_wf") (by wtm_at "v_gb") (by boot_by_name) ?_))
local macro_rules | `(tactic| wtm_at "v_value") => `(tactic| first
  | with_reducible refine is_rn ?_
  | with_reducible refine is_nn ?_
  | with_reducible refine isn_rn ?_
  | with_reducible refine isn_nn ?_
  | with_reducible refine is_in ?_
  | with_reducible refine is_bb ?_
  | ((with_reducible show wpAny _ _ (compareOp CmpOp.Is (Value.ref _) (Value.ref _)) _ _ _); first | with_reducible refine is_self ?_ | ((with_reducible rename St _ _ _ _ _ => S'); refine is_70 S' (by wtm_at "v_wf") (by wtm_at "v_at") (by decide) ?_))
  | ((with_reducible show wpAny _ _ (compareOp CmpOp.IsNot (Value.ref _) (Value.ref _)) _ _ _); first | with_reducible refine isn_self ?_ | ((with_reducible rename St _ _ _ _ _ => S'); refine isn_70 S' (by wtm_at "v_wf") (by wtm_at "v_at") (by decide) ?_))
  | ((with_reducible show wpAny _ _ (getAttr (Value.ref _) _ _) _ _ _); (with_reducible rename St _ _ _ _ _ => S'); refine g_own2 S' (by wtm_at "v_wf") (by wtm_at "v_at") (by wtm_at "v_at") (by wtm_at "v_gf") (by first | rfl | assumption) (by rfl) ?_; intro t)
  | ((with_reducible show wpAny _ _ (callWith _ (Value.ref _) _ (backTo _ (starEach (_ :: _) _)) []) _ _ _); (with_reducible rename St _ _ _ _ _ => S'); with_reducible refine w_def S' (by wtm_at "v_wf") (by wtm_at "v_ke") ?_ (he := by with_unfolding_all rfl) (hplain := by with_unfolding_all rfl))
  | ((with_reducible show wpAny _ _ (callWith _ (Value.ref _) _ (backTo _ (starEach [] _)) []) _ _ _); (with_reducible rename St _ _ _ _ _ => S'); with_reducible refine w_def0 S' (by wtm_at "v_wf") (by wtm_at "v_ke") ?_)
  | ((with_reducible show wpAny _ _ (call (Value.builtin "isinstance") [Value.ref _, Value.ref _] _) _ _ _); (with_reducible rename St _ _ _ _ _ => S'); first | (refine i_own_t2 S' (by wtm_at "v_wf") (by wtm_at "v_at") (by wtm_at "v_at") (by wtm_at "v_at") (by wtm_at "v_if") (by kit_is) ?_; intro t) | (refine i_own2 S' (by wtm_at "v_wf") (by wtm_at "v_at") (by wtm_at "v_at") (by wtm_at "v_if") (by kit_is) ?_; intro t)))
local macro_rules | `(tactic| wtm_at "v_unit") => `(tactic| ((with_reducible show wpAny _ _ (setAttr (Value.ref _) _ _) _ _ _); (with_reducible rename St _ _ _ _ _ => S'); refine a_set2 S' (by wtm_at "v_wf") (by wtm_at "v_at") (by wtm_at "v_upd") (by wtm_at "v_sf") (of_decide_eq_true (by rfl)) ?_; clear S'; intro h t S'))
local macro_rules | `(tactic| wtm_at "v_rest") => `(tactic| first
  | ((with_reducible show wpAny _ _ (getMethod (Value.ref _) _ _) _ _ _); (with_reducible rename St _ _ _ _ _ => S'); refine m_own2 S' (by wtm_at "v_wf") (by wtm_at "v_at") (by wtm_at "v_at") (by wtm_at "v_mf") (by rfl) ?_; dsimp only)
  | ((with_reducible show wpAny _ _ (getMethod (Value.ref _) _ _) _ _ _); (with_reducible rename St _ _ _ _ _ => S'); refine m_field S' (by wtm_at "v_wf") (by wtm_at "v_at") (by wtm_at "v_at") (by wtm_at "v_gf") (by k_is) (by rfl) (by rfl) ?_; intro t; dsimp only)
  | ((with_reducible show Called _ _ _ _ _ _ _ _ _ _); first | ((with_reducible rename St _ _ _ _ _ => S'); refine Called.k S' (by wtm_at "v_wf") (by wtm_at "v_ke") ?_) | refine Called.i (by wtm_at "v_at") (by wtm_at "v_at") ?_))
structure Draw (h : Heap) (D l : Addr) : Prop where
  ne : D ≠ l
  parts : ∃ seed u ns xs, At h D (isLw [.ref l, .int seed u]) ∧ At h l (isL xs) ∧ IntsAre xs ns ∧ (∀ n ∈ ns, 0 ≤ n) ∧ 0 ≤ seed ∧ seed < 2147483647 ∧ xs.length ≤ 24
theorem take_spec {prog : Program} {w : World} {A : Around} {E : Value → Shared → Prop} {V h : Heap} {g : Array GenState} {d : Drawn} {t : Nat} {os : OsState} {mg mb : Str → Option Value}
    {D l : Addr} {many : Int} {u : Tok} {Q : Value → Shared → Prop} (X : WF w.params mg mb V) (le : V.StaysIn h) (hD : Draw h D l) (vD : V.get? D = none) (vl : V.get? l = none) (hm : 0 < many)
    (hd : A.depth < recursionLimit) (hu : A.units + 200 < cLine)
    (k : ∀ r h' t' u', (∀ b o, b ≠ D → b ≠ l → h.get? b = some o → h'.get? b = some o) → Draw h' D l → 0 ≤ r → r < many → Q (.int r u') ⟨h', g, d, t', os⟩) :
    wpAny (model prog w) A (call (.ref 510) [.ref D, .int many u]) Q E ⟨h, g, d, t, os⟩ := by
  refine c_def le X (by k_is) (by k_is) hd (BindsTo.of_eq rfl) (by rfl) ?_
  intro L h t' S
  obtain ⟨ne, seed, tk, ns, xs, hx1, hx2, hi, hn, hs0, hs1, hlen⟩ := hD
  have hL := (S.has _ (.head _)).2.2
  have hLD : L ≠ D := by rintro rfl; obtain ⟨o, e, _⟩ := hx1; rw [e] at hL; cases hL
  have hLl : L ≠ l := by rintro rfl; obtain ⟨o, e, _⟩ := hx2; rw [e] at hL; cases hL
  have hx2' := hx2.keeps S.ext
  have S := St.adopt (a := D) (φ := isLw [.ref l, .int seed tk]) S (hx1.keeps S.ext) vD (by simp [hLD.symm])
  have S := St.adopt (a := l) (φ := isL xs) S hx2' vl (by simp [hLl.symm, ne.symm])
  wtm_at "v_all"
  refine c_ne_ints (by wtm_at "v_weak") (by wtm_at "v_weak") hi .nil (by wtm_at "v_room") ?_
  wtm_at "v_all"
  cases hi with
  | nil =>
    refine Way.ff ?_
    wtm_at "v_all"
    rename St _ _ _ _ _ => S
    refine k _ _ _ _ (fun b o e1 e2 e => S.ext _ _ (only_some.mpr ⟨e2, only_some.mpr ⟨e1, e⟩⟩)) ⟨ne, _, _, _, _, S.get (by wtm_at "v_mem"), (S.get (by wtm_at "v_mem")), .nil, by simp, ?_, ?_, by simp⟩ (Int.fmod_nonneg_of_pos _ hm) (Int.fmod_lt_of_pos _ hm)
    · exact Int.fmod_nonneg_of_pos _ (by decide)
    · exact Int.fmod_lt_of_pos _ (by decide)
  | cons n tn hi =>
    refine Way.tt ?_
    wtm_at "v_all"
    rename St _ _ _ _ _ => S
    refine k _ _ _ _ (fun b o e1 e2 e => S.ext _ _ (only_some.mpr ⟨e2, only_some.mpr ⟨e1, e⟩⟩)) ⟨ne, _, _, _, _, S.get (by wtm_at "v_mem"), (S.get (by wtm_at "v_mem")), hi, fun m hm => hn m (.tail _ hm), hs0, hs1, ?_⟩ (Int.fmod_nonneg_of_pos _ hm) (Int.fmod_lt_of_pos _ hm)
    simp only [List.length_cons] at hlen
    omega
section
variable {prog : Program} {w : World} {A : Around} {V h : Heap} {mg mb : Str → Option Value}
theorem c_tell0 {E : Value → Shared → Prop} {h₀ W : Heap} {own : List (Addr × OP)} {g : Array GenState} {d : Drawn} {t : Nat} {os : OsState} {f : Value} {args : List Value} {kw : List (Str × Value)} {P : Value → Prop} {Q : Value → Shared → Prop} (S : St h₀ W V own h) (T : Tell prog w A f args kw h h fun v _ => P v)
    (k : ∀ v h' t', St h₀ W V own h' → P v → Q v ⟨h', g, d, t', os⟩) : wpAny (model prog w) A (call f args kw) Q E ⟨h, g, d, t, os⟩ :=
  T g d t os Q E fun v V' h' t' R p => k v h' t' (S.call ⟨R.ext, stays_refl _, stays_trans S.le R.ext, fun _ _ e => .inl e⟩) p
theorem kind_of_spec {a da kd : Addr} {hv : Value} (X : WF w.params mg mb V) (le : V.StaysIn h) (R : Room A 10) (hx : At V a (isI 213 da)) (hm : At V da (isD [("kind", .ref kd), ("held", hv)])) :
    Tell prog w A (.ref 224) [.ref a] [] V h fun v _ => v = .ref kd := by
  intro g d t os Q E k
  refine c_def le X (by k_is) (by k_is) R.depth (BindsTo.of_eq rfl) (by rfl) ?_
  intro L h t S
  wtm_at "v_all"
  rename St _ _ _ _ _ => S
  exact k _ _ _ _ S.ret rfl
theorem has_spec {kd kdd : Addr} {l : List (Str × Value)} (X : WF w.params mg mb V) (le : V.StaysIn h) (R : Room A 10) (hx : At V kd (isI 142 kdd)) (hm : At V kdd (isD l)) :
    Tell prog w A (.ref 498) [.ref kd] [] V h fun v _ => v = .bool true := by
  intro g d t os Q E k
  refine c_def le X (by k_is) (by k_is) R.depth (BindsTo.of_eq rfl) (by rfl) ?_
  intro L h t S
  wtm_at "v_all"
  rename St _ _ _ _ _ => S
  exact k _ _ _ _ S.ret rfl
theorem keyed_spec {a da hh at_ ad : Addr} {kdv : Value} {la kvs : List (Str × Value)} {nm : Str} {u : Tok} {v : Value} (X : WF w.params mg mb V) (le : V.StaysIn h) (R : Room A 10) (hx : At V a (isI 213 da)) (hm : At V da (isD [("kind", kdv), ("held", .ref hh)])) (hk : At V hh (isK w prog kvs))
    (ha : At V at_ (isI 313 ad)) (had : At V ad (isD (("name", .str nm u) :: la))) (hv : valueAt kvs nm = some v) : Tell prog w A (.ref 231) [.ref a, .ref at_, .none] [] V h fun r _ => r = v := by
  intro g d t os Q E k
  refine c_def le X (by k_is) (by k_is) R.depth (BindsTo.of_eq rfl) (by rfl) ?_
  intro L h t S
  wtm_at "v_all"
  rename St _ _ _ _ _ => S
  exact k _ _ _ _ S.ret rfl
def szAt (l r : T) : Nat → Int
  | 0 => 1
  | 1 => l.size + 1
  | _ => l.size + r.size + 1
theorem size_spec {a da hh kd : Addr} {kdv : Value} {kvs : List (Str × Value)} {lv rv : Value} {l r : T} (X : WF w.params mg mb h) (R : Room A 20) (hx : At h a (isI 213 da)) (hm : At h da (isD [("kind", kdv), ("held", .ref hh)])) (hk : At h hh (isK w prog kvs))
    (e1 : valueAt kvs "left" = some lv) (e2 : valueAt kvs "right" = some rv) (tl : Tree w prog h kd lv l) (tr : Tree w prog h kd rv r) : Tell prog w A (.ref 517) [.ref a] [] h h fun v _ => ∃ u, v = .int (l.size + r.size + 1) u := by
  intro g d t os Q E k
  refine c_def (stays_refl _) X (by k_is) (by k_is) R.depth (BindsTo.of_eq rfl) (by rfl) ?_
  intro L h' t S
  wtm_at "v_all"
  refine x_for ?_
  wtm_at "v_all"
  rename St _ _ _ _ _ => S
  obtain ⟨V', S, hv, hl⟩ := S.seal2
  refine f_list S hl.weak R.hd (Inv := fun i _ m own => own = [] ∧ m "thing" = some (.ref a) ∧ ∃ u, m "found" = some (.int (szAt l r i) u)) ⟨rfl, rfl, _, rfl⟩ ?_ ?_
  · intro it i x V₂ m own h t hx hv₂ hI S
    obtain ⟨rfl, hth, u, hfo⟩ := hI
    rcases i with _ | _ | i
    · simp only [List.getElem?_cons_zero, Option.some.injEq] at hx
      subst hx
      cases tl with
      | nil =>
        wtm_at "v_all"
        rename St _ _ _ _ _ => S
        exact Turn.next S (stays_refl _) ⟨rfl, hth, u, hfo⟩
      | node hn _ _ =>
        obtain ⟨da', hh', u1, u2, n1, n2, n3⟩ := hn
        wtm_at "v_all"
        rename St _ _ _ _ _ => S
        refine Turn.next S (stays_refl _) ⟨rfl, hth, ?_⟩
        rw [← (fun x => by simp only [szAt]; omega : ∀ x : T, szAt x r 0 + ((x.size : Nat) : Int) = szAt x r (0 + 1))]
        exact ⟨_, rfl⟩
    · simp only [List.getElem?_cons_succ, List.getElem?_cons_zero, Option.some.injEq] at hx
      subst hx
      cases tr with
      | nil =>
        wtm_at "v_all"
        rename St _ _ _ _ _ => S
        refine Turn.next S (stays_refl _) ⟨rfl, hth, u, ?_⟩
        show m _ = _
        rw [hfo]
        simp [szAt, T.size]
      | node hn _ _ =>
        obtain ⟨da', hh', u1, u2, n1, n2, n3⟩ := hn
        wtm_at "v_all"
        rename St _ _ _ _ _ => S
        refine Turn.next S (stays_refl _) ⟨rfl, hth, ?_⟩
        rw [← (fun x => by simp only [szAt]; omega : ∀ x : T, szAt l x (0 + 1) + ((x.size : Nat) : Int) = szAt l x (0 + 1 + 1))]
        exact ⟨_, rfl⟩
    · simp at hx
  · intro V₂ m own h t hv₂ hI S
    obtain ⟨rfl, hth, u, hfo⟩ := hI
    wtm_at "v_all"
    rename St _ _ _ _ _ => S
    have R := S.ret
    exact k _ _ _ _ R ⟨u, rfl⟩
end
def T.ins (k : Int) : T → T
  | .nil => .node .nil k .nil
  | .node l x r => if k = x then .node l x r else if k < x then .node (l.ins k) x r else .node l x (r.ins k)
section
variable {prog : Program} {w : World} {V : Heap} {mg mb : Str → Option Value}
theorem plain_put_spec (tr : T) : ∀ {A : Around} {V h : Heap} {v : Value} {key : Int} {u : Tok}, WF w.params mg mb V → V.StaysIn h → Room A (tr.high + 3) → Plain V v tr → Tell prog w A (.ref 552) [v, .int key u] [] V h fun r V' => Plain V' r (tr.ins key) := by
  induction tr with
  | nil =>
    intro A V h v key u X le R hp g d t os Q E k
    cases hp
    refine c_def le X (by k_is) (by k_is) R.depth (BindsTo.of_eq rfl) (by rfl) ?_
    intro L h t S
    wtm_at "v_all"
    rename St _ _ _ _ _ => S
    exact k _ _ _ _ S.ret (.node (by wtm_at "v_at") .nil .nil)
  | node l x r il ir =>
    intro A V h v key u X le R hp g d t os Q E k
    cases hp with
    | node ha hl hr =>
    simp only [T.high] at R
    refine c_def le X (by k_is) (by k_is) R.depth (BindsTo.of_eq rfl) (by rfl) ?_
    intro L h t S
    wtm_at "v_all"
    refine Way.dec (fun h1 => ?_) fun h1 => ?_
    · wtm_at "v_all"
      rename St _ _ _ _ _ => S
      simp only [T.ins, if_pos h1] at k
      exact k _ _ _ _ S.ret (.node ha hl hr)
    · wtm_at "v_all"
      refine Way.dec (fun h2 => ?_) fun h2 => ?_
      · wtm_at "v_all"
        rename St _ _ _ _ _ => S
        refine c_tell S (il (by wtm_at "v_wf") S.le (by wtm_at "v_rm") (by wtm_at "v_up")) ?_
        clear S
        intro v V' h' t' S hv hp
        wtm_at "v_all"
        rename St _ _ _ _ _ => S
        simp only [T.ins, if_neg h1, if_pos h2] at k
        exact k _ _ _ _ S.ret (.node (by wtm_at "v_at") (by wtm_at "v_up") (by wtm_at "v_up"))
      · wtm_at "v_all"
        rename St _ _ _ _ _ => S
        refine c_tell S (ir (by wtm_at "v_wf") S.le (by wtm_at "v_rm") (by wtm_at "v_up")) ?_
        clear S
        intro v V' h' t' S hv hp
        wtm_at "v_all"
        rename St _ _ _ _ _ => S
        simp only [T.ins, if_neg h1, if_neg h2] at k
        exact k _ _ _ _ S.ret (.node (by wtm_at "v_at") (by wtm_at "v_up") (by wtm_at "v_up"))
theorem T.keys_len (tr : T) : tr.keys.length = tr.size := by
  induction tr with
  | nil => rfl
  | node l x r il ir => simp only [T.keys, T.size, List.length_append, List.length_cons, List.length_nil, il, ir]; omega
theorem T.high_size (tr : T) : tr.high ≤ tr.size := by
  induction tr with
  | nil => exact Nat.le_refl _
  | node l x r il ir => simp only [T.high, T.size]; omega
theorem keys_spec (tr : T) : ∀ {A : Around} {V h : Heap} {v : Value}, WF w.params mg mb V → V.StaysIn h → Room A (tr.high + 3) → tr.size ≤ 1000 → Plain V v tr →
    Tell prog w A (.ref 566) [v] [] V h fun r V' => ∃ a ys, r = .ref a ∧ At V' a (isL ys) ∧ IntsAre ys tr.keys := by
  induction tr with
  | nil =>
    intro A V h v X le R hs hp g d t os Q E k
    cases hp
    refine c_def le X (by k_is) (by k_is) R.depth (BindsTo.of_eq rfl) (by rfl) ?_
    intro L h t S
    wtm_at "v_all"
    rename St _ _ _ _ _ => S
    obtain ⟨V', S, hv, ha⟩ := S.seal2
    exact k _ _ _ _ S.ret ⟨_, _, rfl, ha, .nil⟩
  | node l x r il ir =>
    intro A V h v X le R hs hp g d t os Q E k
    cases hp with
    | node ha hl hr =>
    simp only [T.high] at R
    simp only [T.size] at hs
    refine c_def le X (by k_is) (by k_is) R.depth (BindsTo.of_eq rfl) (by rfl) ?_
    intro L h t S
    wtm_at "v_all"
    rename St _ _ _ _ _ => S
    refine c_tell S (il (by wtm_at "v_wf") S.le (by wtm_at "v_rm") (by omega) (by wtm_at "v_up")) ?_
    clear S
    rintro v V' h' t' S hv ⟨a1, ys1, rfl, ha1, hi1⟩
    have e1 := hi1.length
    rw [T.keys_len] at e1
    wtm_at "v_all"
    rename St _ _ _ _ _ => S
    refine c_tell S (ir (by wtm_at "v_wf") S.le (by wtm_at "v_rm") (by omega) (by wtm_at "v_up")) ?_
    clear S
    rintro v V' h' t' S hv ⟨a2, ys2, rfl, ha2, hi2⟩
    have e2 := hi2.length
    rw [T.keys_len] at e2
    wtm_at "v_all"
    rename St _ _ _ _ _ => S
    obtain ⟨V', S, hv, ha⟩ := S.seal2
    exact k _ _ _ _ S.ret ⟨_, _, rfl, ha, (hi1.append (.cons _ _ .nil)).append hi2⟩
def T.del (k : Int) : T → T
  | .nil => .nil
  | .node l x r => if k < x then .node (l.del k) x r else if x < k then .node l x (r.del k) else if l = .nil then r else if r = .nil then l else .node l (r.keys.headD 0) (T.del (r.keys.headD 0) r)
theorem plain_out_spec (tr : T) : ∀ {A : Around} {V h : Heap} {v : Value} {key : Int} {u : Tok}, WF w.params mg mb V → V.StaysIn h → Room A (tr.high + 8) → tr.size ≤ 1000 → Plain V v tr → Tell prog w A (.ref 559) [v, .int key u] [] V h fun r V' => Plain V' r (tr.del key) := by
  induction tr with
  | nil =>
    intro A V h v key u X le R hs hp g d t os Q E k
    cases hp
    refine c_def le X (by k_is) (by k_is) R.depth (BindsTo.of_eq rfl) (by rfl) ?_
    intro L h t S
    wtm_at "v_all"
    rename St _ _ _ _ _ => S
    exact k _ _ _ _ S.ret .nil
  | node l x r il ir =>
    intro A V h v key u X le R hs hp g d t os Q E k
    cases hp with
    | node ha hl hr =>
    simp only [T.high] at R
    simp only [T.size] at hs
    refine c_def le X (by k_is) (by k_is) R.depth (BindsTo.of_eq rfl) (by rfl) ?_
    intro L h t S
    wtm_at "v_all"
    refine Way.dec (fun h1 => ?_) fun h1 => ?_
    · wtm_at "v_all"
      rename St _ _ _ _ _ => S
      refine c_tell S (il (by wtm_at "v_wf") S.le (by wtm_at "v_rm") (by omega) (by wtm_at "v_up")) ?_
      clear S
      intro v V' h' t' S hv hp
      wtm_at "v_all"
      rename St _ _ _ _ _ => S
      simp only [T.del, if_pos h1] at k
      exact k _ _ _ _ S.ret (.node (by wtm_at "v_at") (by wtm_at "v_up") (by wtm_at "v_up"))
    · wtm_at "v_all"
      refine Way.dec (fun h2 => ?_) fun h2 => ?_
      · wtm_at "v_all"
        rename St _ _ _ _ _ => S
        refine c_tell S (ir (by wtm_at "v_wf") S.le (by wtm_at "v_rm") (by omega) (by wtm_at "v_up")) ?_
        clear S
        intro v V' h' t' S hv hp
        wtm_at "v_all"
        rename St _ _ _ _ _ => S
        simp only [T.del, if_neg h1, if_pos h2] at k
        exact k _ _ _ _ S.ret (.node (by wtm_at "v_at") (by wtm_at "v_up") (by wtm_at "v_up"))
      · simp only [T.del, if_neg h1, if_neg h2] at k
        cases hl with
        | nil =>
          wtm_at "v_all"
          rename St _ _ _ _ _ => S
          exact k _ _ _ _ S.ret hr
        | node hla hll hlr =>
          cases hr with
          | nil =>
            wtm_at "v_all"
            rename St _ _ _ _ _ => S
            exact k _ _ _ _ S.ret (.node hla hll hlr)
          | @node _ rk _ _ _ rl rr hra hrl hrr =>
            rw [if_neg (by simp), if_neg (by simp)] at k
            wtm_at "v_all"
            rename St _ _ _ _ _ => S
            refine c_tell S (keys_spec (.node rl rk rr) (by wtm_at "v_wf") S.le (by wtm_at "v_rm") (by omega) (.node hra hrl hrr)) ?_
            clear S
            rintro v V' h' t' S hv ⟨a1, ys1, rfl, ha1, hi1⟩
            generalize hks : (T.node rl rk rr).keys = ks at hi1 k
            cases hi1 with
            | nil => simp [T.keys] at hks
            | cons n0 tn hi1 =>
              simp only [List.headD_cons] at k
              wtm_at "v_all"
              rename St _ _ _ _ _ => S
              refine c_tell S (ir (by wtm_at "v_wf") S.le (by wtm_at "v_rm") (by omega) (.node (by wtm_at "v_at") (by wtm_at "v_up") (by wtm_at "v_up"))) ?_
              clear S
              intro v V' h' t' S hv hp
              wtm_at "v_all"
              rename St _ _ _ _ _ => S
              exact k _ _ _ _ S.ret (.node (by wtm_at "v_at") (.node (by wtm_at "v_at") (by wtm_at "v_up") (by wtm_at "v_up")) (by wtm_at "v_up"))
theorem table_spec (tr : T) : ∀ {A : Around} {V h : Heap} {v : Value}, WF w.params mg mb V → V.StaysIn h → Room A (tr.high + 8) → tr.size ≤ 1000 → Plain V v tr → Tell prog w A (.ref 573) [v] [] V h fun r V' => Tab w prog V' r tr := by
  induction tr with
  | nil =>
    intro A V h v X le R hs hp g d t os Q E k
    cases hp
    refine c_def le X (by k_is) (by k_is) R.depth (BindsTo.of_eq rfl) (by rfl) ?_
    intro L h t S
    wtm_at "v_all"
    rename St _ _ _ _ _ => S
    exact k _ _ _ _ S.ret .nil
  | node l x r il ir =>
    intro A V h v X le R hs hp g d t os Q E k
    have hp0 := hp
    cases hp with
    | node ha hl hr =>
    simp only [T.high] at R
    have hs0 := hs
    simp only [T.size] at hs
    refine c_def le X (by k_is) (by k_is) R.depth (BindsTo.of_eq rfl) (by rfl) ?_
    intro L h t S
    wtm_at "v_all"
    rename St _ _ _ _ _ => S
    refine c_tell S (il (by wtm_at "v_wf") S.le (by wtm_at "v_rm") (by omega) (by wtm_at "v_up")) ?_
    clear S
    intro v V' h' t' S hv h1
    wtm_at "v_all"
    rename St _ _ _ _ _ => S
    refine c_tell S (ir (by wtm_at "v_wf") S.le (by wtm_at "v_rm") (by omega) (by wtm_at "v_up")) ?_
    clear S
    intro v V' h' t' S hv h2
    wtm_at "v_all"
    rename St _ _ _ _ _ => S
    refine c_tell S (keys_spec (.node l x r) (by wtm_at "v_wf") S.le (by simp only [T.high]; wtm_at "v_rm") hs0 (by wtm_at "v_up")) ?_
    clear S
    rintro v V' h' t' S hv ⟨a1, ys1, rfl, ha1, hi1⟩
    have e1 := hi1.length
    rw [T.keys_len] at e1
    wtm_at "v_all"
    rename St _ _ _ _ _ => S
    obtain ⟨V', S, hv, ha⟩ := S.seal2
    exact k _ _ _ _ S.ret (.node (by wtm_at "v_at") (by assumption) (by rw [e1]) (by wtm_at "v_up") (by wtm_at "v_up"))
end
def T.nth : T → Int → Option Int
  | .nil, _ => none
  | .node l x r, k => if k = l.size then some x else if k < l.size then l.nth k else r.nth (k - l.size - 1)
section
variable {prog : Program} {w : World} {V : Heap} {mg mb : Str → Option Value}
def nthV (v : Value) (o : Option Int) : Prop := match o with | some x => ∃ u, v = .int x u | none => v = .none
theorem nth_spec {kd : Addr} (tr : T) {A : Around} {V h : Heap} {v : Value} {k : Int} {u : Tok} (X : WF w.params mg mb V) (le : V.StaysIn h) (R : Room A 10) (htr : Tree w prog V kd v tr) :
    Tell prog w A (.ref 580) [v, .int k u] [] V h fun r _ => nthV r (tr.nth k) := by
  intro g d t os Q E kk
  refine c_def le X (by k_is) (by k_is) R.depth (BindsTo.of_eq rfl) (by rfl) ?_
  intro L h t S
  have hd := R.hd
  wtm_at "v_all"
  rename St _ _ _ _ _ => S
  refine x_while S (Inv := fun n V' m own => own = [] ∧ ∃ v' tr' k' u', n = tr'.high ∧ m "here" = some v' ∧ m "k" = some (.int k' u') ∧ Tree w prog V' kd v' tr' ∧ tr.nth k = tr'.nth k') _ ⟨rfl, _, _, _, _, rfl, rfl, rfl, htr, rfl⟩ ?_
  clear S
  intro n V' m own h t hv hI S
  obtain ⟨rfl, v', tr', k', u', rfl, hh, hk, ht, he⟩ := hI
  cases ht with
  | nil =>
    wtm_at "v_all"
    rename St _ _ _ _ _ => S
    refine kk _ _ _ _ S.ret ?_
    rw [he]; rfl
  | @node a x lv rv l r hn hl hr =>
    obtain ⟨da, hh', u1, u2, n1, n2, n3⟩ := hn
    have hl0 := hl
    cases hl with
    | nil =>
      wtm_at "v_all"
      refine Way.dec (fun h1 => ?_) fun h1 => ?_
      · wtm_at "v_all"
        rename St _ _ _ _ _ => S
        refine kk _ _ _ _ S.ret ?_
        show nthV _ (tr.nth k); rw [he, show T.nth (.node _ _ _) _ = some _ from by rw [T.nth]; exact if_pos (by simpa [T.size] using h1)]; exact ⟨_, rfl⟩
      · wtm_at "v_all"
        refine Way.dec (fun h2 => ?_) fun h2 => ?_
        · wtm_at "v_all"
          rename St _ _ _ _ _ => S
          refine WEnd.next S (n' := T.high .nil) (by simp only [T.high]; omega) (stays_refl _) ⟨rfl, _, _, _, _, rfl, rfl, hk, hl0, ?_⟩
          rw [he, T.nth.eq_2, if_neg (by simpa [T.size] using h1), if_pos (by simpa [T.size] using h2)]
        · wtm_at "v_all"
          rename St _ _ _ _ _ => S
          refine WEnd.next S (n' := r.high) (by simp only [T.high]; omega) (by with_reducible assumption) ⟨rfl, _, _, _, _, rfl, rfl, rfl, (by wtm_at "v_up"), ?_⟩
          rw [he, T.nth, if_neg (by simpa [T.size] using h1), if_neg (by simpa [T.size] using h2)]
          simp [T.size]
    | @node al xl llv lrv ll lr hnl hll hlr =>
      obtain ⟨dal, hhl, u3, u4, m1, m2, m3⟩ := hnl
      wtm_at "v_all"
      refine Way.dec (fun h1 => ?_) fun h1 => ?_
      · wtm_at "v_all"
        rename St _ _ _ _ _ => S
        refine kk _ _ _ _ S.ret ?_
        show nthV _ (tr.nth k); rw [he, show T.nth (.node _ _ _) _ = some _ from by rw [T.nth]; exact if_pos (by exact h1)]; exact ⟨_, rfl⟩
      · wtm_at "v_all"
        refine Way.dec (fun h2 => ?_) fun h2 => ?_
        · wtm_at "v_all"
          rename St _ _ _ _ _ => S
          refine WEnd.next S (n' := T.high (.node ll xl lr)) (by simp only [T.high]; omega) (stays_refl _) ⟨rfl, _, _, _, _, rfl, rfl, hk, hl0, ?_⟩
          rw [he, T.nth, if_neg (by exact h1), if_pos (by exact h2)]
        · wtm_at "v_all"
          rename St _ _ _ _ _ => S
          refine WEnd.next S (n' := r.high) (by simp only [T.high]; omega) (by with_reducible assumption) ⟨rfl, _, _, _, _, rfl, rfl, rfl, (by wtm_at "v_up"), ?_⟩
          rw [he, T.nth, if_neg (by exact h1), if_neg (by exact h2)]
end
section
variable {prog : Program} {w : World} {mg mb : Str → Option Value}
theorem made_init {A : Around} {V h : Heap} {x dx : Addr} {kv : Value} (X : WF w.params mg mb V) (le : V.StaysIn h) (R : Room A 5) (hx : At V x (isI 213 dx)) (hd : At h dx (isD [])) (hn : V.get? dx = none) :
    TellI prog w A 170 [.ref x, kv] [] V h dx fun own V' => ∃ L m hh, own = [(L, isNs m), (hh, isK w prog []), (dx, isD [("kind", kv), ("held", .ref hh)])] ∧ V.StaysIn V' := by
  intro g d t os RR k
  refine c_init le X hd hn (by k_is) (by k_is) R.depth (BindsTo.of_eq rfl) (by rfl) ?_
  intro L h t S
  wtm_at "v_all"
  rename St _ _ _ _ _ => S
  exact k _ _ _ _ S ⟨_, _, _, rfl, stays_refl _⟩
structure At4 (V : Heap) (ta a0 a1 a2 a3 d0 d1 d2 d3 fa fd : Addr) (u0 v0 u1 v1 u2 v2 u3 v3 : Tok) : Prop where
  ta : At V ta (isT [.ref a0, .ref a1, .ref a2, .ref a3])
  i0 : At V a0 (isI 313 d0)
  i1 : At V a1 (isI 313 d1)
  i2 : At V a2 (isI 313 d2)
  i3 : At V a3 (isI 313 d3)
  c0 : At V d0 (isD [("name", .str "key" u0), ("default", .ref 70), ("validator", .none), ("eq", .bool true), ("eq_key", .none), ("order", .bool true), ("order_key", .none), ("init", .bool true), ("converter", .none), ("kw_only", .bool false), ("inherited", .bool false), ("on_setattr", .none), ("alias", .str "key" v0), ("alias_is_default", .bool true)])
  c1 : At V d1 (isD [("name", .str "left" u1), ("default", .none), ("validator", .none), ("eq", .bool true), ("eq_key", .none), ("order", .bool true), ("order_key", .none), ("init", .bool true), ("converter", .none), ("kw_only", .bool false), ("inherited", .bool false), ("on_setattr", .none), ("alias", .str "left" v1), ("alias_is_default", .bool true)])
  c2 : At V d2 (isD [("name", .str "right" u2), ("default", .none), ("validator", .none), ("eq", .bool true), ("eq_key", .none), ("order", .bool true), ("order_key", .none), ("init", .bool true), ("converter", .none), ("kw_only", .bool false), ("inherited", .bool false), ("on_setattr", .none), ("alias", .str "right" v2), ("alias_is_default", .bool true)])
  c3 : At V d3 (isD [("name", .str "size" u3), ("default", .ref fa), ("validator", .none), ("eq", .bool true), ("eq_key", .none), ("order", .bool true), ("order_key", .none), ("init", .bool false), ("converter", .none), ("kw_only", .bool false), ("inherited", .bool false), ("on_setattr", .none), ("alias", .str "size" v3), ("alias_is_default", .bool true)])
  fi : At V fa (isI 370 fd)
  fc : At V fd (isD [("factory", .ref 517), ("takes_self", .bool true)])
theorem StrsAre.len : ∀ {vs : List Value} {xs : List Str}, StrsAre vs xs → vs.length = xs.length
  | [], [], _ => rfl
  | _ :: _, _ :: _, h => congrArg (· + 1) h.2.len
theorem StrsAre.snoc {u : Tok} : ∀ {vs : List Value} {xs : List Str} (_ : StrsAre vs xs) (y : Str), StrsAre (vs ++ [.str y u]) (xs ++ [y])
  | [], [], _, _ => ⟨⟨_, rfl⟩, trivial⟩
  | _ :: _, _ :: _, h, y => ⟨h.1, h.2.snoc y⟩
theorem valueAt_none {kvs : List (Str × Value)} {x : Str} (h : x ∉ kvs.map (·.1)) : valueAt kvs x = none := by
  unfold valueAt
  rw [List.find?_eq_none.mpr fun kv hkv => ?_]
  · rfl
  · simp only [decide_eq_true_eq]
    exact fun e => h (e ▸ List.mem_map_of_mem (f := (·.1)) hkv)
theorem stored_new {kvs : List (Str × Value)} {x : Str} {v : Value} (h : x ∉ kvs.map (·.1)) : stored kvs x v = kvs ++ [(x, v)] := by
  unfold stored
  rw [if_neg]
  rw [List.any_eq_true]
  rintro ⟨kv, hkv, e⟩
  exact h (of_decide_eq_true e ▸ List.mem_map_of_mem (f := (·.1)) hkv)
def fillD (kvs : List (Str × Value)) (x : Str) : List (Str × Value) := if (valueAt kvs x).isSome then kvs else stored kvs x .none
def baseD (pos : List Value) : List (Str × Value) := match pos with | [] => [] | v :: _ => [("key", v)]
def stage (b : List (Str × Value)) : Nat → List (Str × Value)
  | 0 => b
  | 1 => b
  | 2 => fillD b "left"
  | _ => fillD (fillD b "left") "right"
theorem baseD_len (pos : List Value) : (baseD pos).length ≤ 1 := by cases pos <;> simp [baseD]
theorem fillD_len (kvs : List (Str × Value)) (x : Str) : (fillD kvs x).length ≤ kvs.length + 1 := by
  unfold fillD
  split
  · omega
  · exact stored_length_le ..
theorem handed_spec {A : Around} {V h : Heap} {ta a0 a1 a2 a3 d0 d1 d2 d3 fa fd ar kd : Addr} {u0 v0 u1 v1 u2 v2 u3 v3 : Tok} {pos : List Value} {kw : List (Str × Value)} (X : WF w.params mg mb V) (le : V.StaysIn h) (R : Room A 10) (H : At4 V ta a0 a1 a2 a3 d0 d1 d2 d3 fa fd u0 v0 u1 v1 u2 v2 u3 v3)
    (hp : At V ar (isT pos)) (hk : At V kd (isK w prog kw)) (hkn : (kd == sysModules) = false) (hpl : pos.length ≤ 1) (kwl : kw.length ≤ 3) (nd : ((baseD pos ++ kw).map (·.1)).Nodup) (sub : ∀ x ∈ kw, x.1 ∈ (["key", "left", "right"] : List Str)) (hkey : (valueAt (baseD pos ++ kw) "key").isSome = true) :
    Tell prog w A (.ref 156) [.ref ta, .ref ar, .ref kd] [] V h fun v V' => ∃ D, v = .ref D ∧ At V' D (isK w prog (fillD (fillD (baseD pos ++ kw) "left") "right")) := by
  obtain ⟨hta, i0, i1, i2, i3, c0, c1, c2, c3, fi, fc⟩ := H
  intro g d t os Q E k
  refine c_def le X (by k_is) (by k_is) R.depth (BindsTo.of_eq rfl) (by rfl) ?_
  intro L h t S
  have hdh := R.hd
  wtm_at "v_all"
  refine x_lc (by rfl) ?_
  wtm_at "v_all"
  rename St _ _ _ _ _ => S
  refine it_tup S (by wtm_at "v_at") ?_
  clear S
  intro it h S
  refine go_list (its := fun i => [(it, isTI ta i)]) (own := []) S (src_tup hta (by wtm_at "v_hd")) ?_
  clear S
  intro C D h S
  refine ⟨fun i _ own => ∃ m, own = [(D, isL (([.ref a0, .ref a1, .ref a2] : List Value).take i)), (L, isNs m)] ∧ m "attrs" = some (.ref ta) ∧ m "args" = some (.ref ar) ∧ m "kwargs" = some (.ref kd), ⟨_, rfl, rfl, rfl, rfl⟩, ?_, ?_⟩
  · clear S
    rintro i x V' V'' mc own h t hi hv ⟨m, rfl, m1, m2, m3⟩ hv' ⟨hx, rfl⟩ S
    clear hv'
    dsimp only [List.cons_append, List.nil_append] at S
    rcases i with _ | _ | _ | _ | i
    · simp only [List.getElem?_cons_zero, Option.some.injEq] at hx
      subst hx
      wtm_at "v_all"
      rename St _ _ _ _ _ => S
      exact Step.mk S (by wtm_at "v_st") ⟨_, rfl, m1, m2, m3⟩
    · simp only [List.getElem?_cons_succ, List.getElem?_cons_zero, Option.some.injEq] at hx
      subst hx
      wtm_at "v_all"
      rename St _ _ _ _ _ => S
      exact Step.mk S (by wtm_at "v_st") ⟨_, rfl, m1, m2, m3⟩
    · simp only [List.getElem?_cons_succ, List.getElem?_cons_zero, Option.some.injEq] at hx
      subst hx
      wtm_at "v_all"
      rename St _ _ _ _ _ => S
      exact Step.mk S (by wtm_at "v_st") ⟨_, rfl, m1, m2, m3⟩
    · simp only [List.getElem?_cons_succ, List.getElem?_cons_zero, Option.some.injEq] at hx
      subst hx
      wtm_at "v_all"
      rename St _ _ _ _ _ => S
      exact Step.mk S (by wtm_at "v_st") ⟨_, rfl, m1, m2, m3⟩
    · simp at hx
  clear S
  rintro V₁ mc own h t hv₁ ⟨m, rfl, m1, m2, m3⟩ S
  refine postU S ⟨_, _, _, rfl, ?_⟩
  clear S
  intro h t S
  obtain ⟨V₂, S, hv₂, hpla⟩ := S.seal2
  wtm_at "v_all"
  refine Way.dec (fun h1 => absurd h1 (by simp only [List.length_take, List.length_cons, List.length_nil]; omega)) fun _ => ?_
  wtm_at "v_all"
  refine x_dc (by rfl) ?_
  wtm_at "v_all"
  rename St _ _ _ _ _ => S
  refine c_zip S (by wtm_at "v_weak") (by wtm_at "v_at") ?_
  clear S
  intro z TI TO z1 z2 V₃ h hv₃ hTI S
  have e1 := At.weak (hpla.keeps hv₃)
  have e2 : At V₃ ar (isT pos) := by wtm_at "v_at"
  have X3 : WF w.params mg mb V₃ := by wtm_at "v_wf"
  refine it_zip S ?_
  refine go_dict (own := []) X3 S (src_zip hTI e1 e2 hdh) ?_
  clear S
  intro C D h hs S
  refine ⟨fun i _ own => ∃ m, own = [(D, isK w prog (baseD (pos.take i))), (L, isNs m)] ∧ m "attrs" = some (.ref ta) ∧ m "kwargs" = some (.ref kd), ⟨_, rfl, m1, m3⟩, ?_, ?_⟩
  · clear S
    rintro i x V' V'' mc own h t hi hv ⟨m, rfl, m1, m2⟩ hv' ⟨a, b, T, hxa, hxb, rfl, hT⟩ S
    dsimp only [List.cons_append, List.nil_append, zipIts] at S
    have i0' : i = 0 := by omega
    subst i0'
    obtain ⟨rfl⟩ : a = .ref a0 := by simpa using hxa.symm
    obtain ⟨rest, rfl⟩ : ∃ r, pos = b :: r := by cases pos with | nil => simp at hxb | cons y r => exact ⟨r, by simp at hxb; rw [hxb]⟩
    rw [show baseD (List.take 0 (b :: rest)) = [] from rfl] at S
    wtm_at "v_all"
    rename St _ _ _ _ _ => S
    exact Step.mk S (by wtm_at "v_st") ⟨_, rfl, m1, m2⟩
  clear S
  rintro V₄ mc own h t hv₄ ⟨m, rfl, m1, m2⟩ S
  have tk : ∀ n, pos.length ≤ n → List.take n pos = pos := fun n hn => List.take_of_length_le hn
  rw [tk] at S
  rotate_left
  · simp only [List.length_take, List.length_cons, List.length_nil]; omega
  refine postU S ⟨_, _, _, rfl, ?_⟩
  clear S
  intro h t S
  wtm_at "v_all"
  refine x_lc (by rfl) ?_
  wtm_at "v_all"
  rename St _ _ _ _ _ => S
  refine it_tup S (by wtm_at "v_at") ?_
  clear S
  intro it2 h S
  have ta4 : At V₄ ta (isT [.ref a0, .ref a1, .ref a2, .ref a3]) := by wtm_at "v_at"
  refine go_list (its := fun i => [(it2, isTI ta i)]) (own := [(D, isK w prog (baseD pos))]) S (src_tup ta4 hdh) ?_
  clear S
  intro C2 D2 h S
  refine ⟨fun i _ own => ∃ m ys, own = [(D2, isL ys), (L, isNs m), (D, isK w prog (baseD pos))] ∧ StrsAre ys (([("key" : Str), "left", "right"]).take i) ∧ m "attrs" = some (.ref ta) ∧ m "kwargs" = some (.ref kd) ∧ m "handed" = some (.ref D), ⟨_, _, rfl, trivial, m1, m2, rfl⟩, ?_, ?_⟩
  · clear S
    rintro i x V' V'' mc own h t hi hv ⟨m, ys, rfl, hys, m1, m2, m3⟩ hv' ⟨hx, rfl⟩ S
    clear hv'
    dsimp only [List.cons_append, List.nil_append] at S
    have yl : ys.length ≤ 4 := by
      have := hys.len
      rw [List.length_take] at this
      simp only [List.length_cons, List.length_nil] at this
      omega
    rcases i with _ | _ | _ | _ | i
    · simp only [List.getElem?_cons_zero, Option.some.injEq] at hx
      subst hx
      wtm_at "v_all"
      rename St _ _ _ _ _ => S
      exact Step.mk S (by wtm_at "v_st") ⟨_, _, rfl, hys.snoc _, m1, m2, m3⟩
    · simp only [List.getElem?_cons_succ, List.getElem?_cons_zero, Option.some.injEq] at hx
      subst hx
      wtm_at "v_all"
      rename St _ _ _ _ _ => S
      exact Step.mk S (by wtm_at "v_st") ⟨_, _, rfl, hys.snoc _, m1, m2, m3⟩
    · simp only [List.getElem?_cons_succ, List.getElem?_cons_zero, Option.some.injEq] at hx
      subst hx
      wtm_at "v_all"
      rename St _ _ _ _ _ => S
      exact Step.mk S (by wtm_at "v_st") ⟨_, _, rfl, hys.snoc _, m1, m2, m3⟩
    · simp only [List.getElem?_cons_succ, List.getElem?_cons_zero, Option.some.injEq] at hx
      subst hx
      wtm_at "v_all"
      rename St _ _ _ _ _ => S
      exact Step.mk S (by wtm_at "v_st") ⟨_, _, rfl, hys, m1, m2, m3⟩
    · simp at hx
  clear S
  rintro V₅ mc own h t hv₅ ⟨m, ys, rfl, hys, m1, m2, m3⟩ S
  refine postU S ⟨_, _, _, rfl, ?_⟩
  clear S
  intro h t S
  obtain ⟨V₆, S, hv₆, hnl⟩ := S.seal2
  wtm_at "v_all"
  refine x_for ?_
  wtm_at "v_all"
  obtain ⟨ep, hke⟩ := isK_e hk
  rename St _ _ _ _ _ => S
  refine it_items S (by wtm_at "v_at") ?_
  clear S
  intro it3 h S
  have ke6 : At V₆ kd (isKe w prog kw ep) := by wtm_at "v_at"
  have hys : StrsAre ys ["key", "left", "right"] := hys
  refine f_src (its := fun i => [(it3, isII kd kw.length ep i)]) (own := [(D, isK w prog (baseD pos))]) S (src_items ke6 hdh)
    (Inv := fun i _ m own => own = [(D, isK w prog (baseD pos ++ kw.take i))] ∧ m "attrs" = some (.ref ta) ∧ m "handed" = some (.ref D) ∧ ∃ nl, m "names" = some (.ref nl) ∧ At V₆ nl (isL ys)) ⟨by simp, m1, m3, _, rfl, hnl⟩ ?_ ?_
  · clear S
    rintro i x V' V'' m own h t hi hv ⟨rfl, m1, m3, nl, m4, hnl⟩ hv' ⟨k, v, T, u, hx, rfl, hT⟩ S
    dsimp only [List.cons_append, List.nil_append] at S
    have mem : (k, v) ∈ kw := List.mem_of_getElem? hx
    have hin := sub _ mem
    have fresh : k ∉ (baseD pos ++ kw.take i).map (·.1) := by
      have e : kw = kw.take i ++ (k, v) :: kw.drop (i + 1) := by
        have z := List.take_append_drop i kw
        rw [List.drop_eq_getElem_cons hi] at z
        rw [List.getElem?_eq_getElem hi, Option.some.injEq] at hx
        rw [hx] at z
        exact z.symm
      intro hm
      rw [e, ← List.append_assoc, List.map_append, List.nodup_append] at nd
      exact nd.2.2 k hm k (by simp) rfl
    have h1 := valueAt_none fresh
    have h2 := stored_new (v := v) fresh
    have h3 : ([("key" : Str), "left", "right"]).contains k = true := by simpa using hin
    have tk1 : kw.take (i + 1) = kw.take i ++ [(k, v)] := by rw [List.take_add_one, hx]; rfl
    have kl : (baseD pos ++ kw.take i).length ≤ 1000 := by
      rw [List.length_append, List.length_take]
      have := baseD_len pos
      omega
    wtm_at "v_all"
    rw [h1]
    wtm_at "v_all"
    rw [h3]
    wtm_at "v_all"
    rename St _ _ _ _ _ => S
    rw [h2] at S
    refine TurnS.next S (by wtm_at "v_st") ⟨by rw [tk1, List.append_assoc], m1, m3, nl, m4, hnl⟩
  clear S
  rintro V₇ m own h t hv₇ ⟨rfl, m1, m3, nl, m4, hnl⟩ S
  rw [List.take_length] at S
  wtm_at "v_all"
  refine x_for ?_
  wtm_at "v_all"
  rename St _ _ _ _ _ => S
  have bl := baseD_len pos
  have f1 := fillD_len (baseD pos ++ kw) "left"
  rw [List.length_append] at f1
  have ta7 : At V₇ ta (isT [.ref a0, .ref a1, .ref a2, .ref a3]) := by wtm_at "v_at"
  refine f_tup S ta7 hdh (Inv := fun i _ m own => own = [(D, isK w prog (stage (baseD pos ++ kw) i))] ∧ m "handed" = some (.ref D)) ⟨rfl, m3⟩ ?_ ?_
  · clear S
    rintro it i x V' m own h t hx hv ⟨rfl, m3⟩ S
    rcases i with _ | _ | _ | _ | i
    · simp only [List.getElem?_cons_zero, Option.some.injEq] at hx
      subst hx
      change St _ _ _ [(L, isNs m), (it, isTI ta 1), (D, isK w prog (baseD pos ++ kw))] h at S
      wtm_at "v_all"
      rw [hkey]
      wtm_at "v_all"
      rename St _ _ _ _ _ => S
      exact Turn.next S (by wtm_at "v_st") ⟨rfl, m3⟩
    · simp only [List.getElem?_cons_succ, List.getElem?_cons_zero, Option.some.injEq] at hx
      subst hx
      change St _ _ _ [(L, isNs m), (it, isTI ta 2), (D, isK w prog (baseD pos ++ kw))] h at S
      wtm_at "v_all"
      cases hc : (valueAt (baseD pos ++ kw) "left").isSome with
      | true =>
        wtm_at "v_all"
        rename St _ _ _ _ _ => S
        exact Turn.next S (by wtm_at "v_st") ⟨by show [(D, isK w prog (baseD pos ++ kw))] = [(D, isK w prog (fillD (baseD pos ++ kw) "left"))]; rw [fillD, if_pos hc], m3⟩
      | false =>
        wtm_at "v_all"
        rename St _ _ _ _ _ => S
        exact Turn.next S (by wtm_at "v_st") ⟨by show [(D, isK w prog (stored (baseD pos ++ kw) "left" .none))] = [(D, isK w prog (fillD (baseD pos ++ kw) "left"))]; rw [fillD, if_neg (by rw [hc]; decide)], m3⟩
    · simp only [List.getElem?_cons_succ, List.getElem?_cons_zero, Option.some.injEq] at hx
      subst hx
      change St _ _ _ [(L, isNs m), (it, isTI ta 3), (D, isK w prog (fillD (baseD pos ++ kw) "left"))] h at S
      wtm_at "v_all"
      cases hc : (valueAt (fillD (baseD pos ++ kw) "left") "right").isSome with
      | true =>
        wtm_at "v_all"
        rename St _ _ _ _ _ => S
        exact Turn.next S (by wtm_at "v_st") ⟨by show [(D, isK w prog (fillD (baseD pos ++ kw) "left"))] = [(D, isK w prog (fillD (fillD (baseD pos ++ kw) "left") "right"))]; rw [fillD.eq_1 _ (Str.ofString "right"), if_pos hc], m3⟩
      | false =>
        wtm_at "v_all"
        rename St _ _ _ _ _ => S
        exact Turn.next S (by wtm_at "v_st") ⟨by show [(D, isK w prog (stored (fillD (baseD pos ++ kw) "left") "right" .none))] = [(D, isK w prog (fillD (fillD (baseD pos ++ kw) "left") "right"))]; rw [fillD.eq_1 _ (Str.ofString "right"), if_neg (by rw [hc]; decide)], m3⟩
    · simp only [List.getElem?_cons_succ, List.getElem?_cons_zero, Option.some.injEq] at hx
      subst hx
      change St _ _ _ [(L, isNs m), (it, isTI ta 4), (D, isK w prog (fillD (fillD (baseD pos ++ kw) "left") "right"))] h at S
      wtm_at "v_all"
      rename St _ _ _ _ _ => S
      exact Turn.next S (by wtm_at "v_st") ⟨rfl, m3⟩
    · simp at hx
  · clear S
    rintro V₈ m own h t hv₈ ⟨rfl, m3⟩ S
    wtm_at "v_all"
    rename St _ _ _ _ _ => S
    obtain ⟨V₉, S, hv₉, hD⟩ := S.seal2
    exact k _ _ _ _ S.ret ⟨_, rfl, hD⟩
end
section
variable {prog : Program} {w : World} {mg mb : Str → Option Value}
theorem KD.open4 {V : Heap} {kd : Addr} (x : KD V kd) : ∃ kdd mr ta le lo a0 a1 a2 a3 d0 d1 d2 d3 fa fd uu u0 v0 u1 v1 u2 v2 u3 v3, At V kd (isI 142 kdd) ∧ At V kdd (isD [("name", .str "Node" uu), ("mro", .ref mr), ("attrs", .ref ta), ("eq_attrs", .ref le), ("order_attrs", .ref lo)]) ∧
    At V mr (isL [.ref kd]) ∧ At V le (isL [.ref a0, .ref a1, .ref a2, .ref a3]) ∧ At4 V ta a0 a1 a2 a3 d0 d1 d2 d3 fa fd u0 v0 u1 v1 u2 v2 u3 v3 := by
  obtain ⟨kdd, mr, ta, le, lo, a0, a1, a2, a3, fa, fd, uu, h1, h2, h3, h4, h5, ⟨d0, u0, v0, p0, q0⟩, ⟨d1, u1, v1, p1, q1⟩, ⟨d2, u2, v2, p2, q2⟩, ⟨d3, u3, v3, p3, q3⟩, h10, h11⟩ := x
  exact ⟨kdd, mr, ta, le, lo, a0, a1, a2, a3, d0, d1, d2, d3, fa, fd, uu, u0, v0, u1, v1, u2, v2, u3, v3, h1, h2, h3, h5, ⟨h4, p0, p1, p2, p3, q0, q1, q2, q3, h10, h11⟩⟩
theorem At4.keeps {V V' : Heap} {ta a0 a1 a2 a3 d0 d1 d2 d3 fa fd : Addr} {u0 v0 u1 v1 u2 v2 u3 v3 : Tok} (x : At4 V ta a0 a1 a2 a3 d0 d1 d2 d3 fa fd u0 v0 u1 v1 u2 v2 u3 v3) (k : V.StaysIn V') : At4 V' ta a0 a1 a2 a3 d0 d1 d2 d3 fa fd u0 v0 u1 v1 u2 v2 u3 v3 :=
  ⟨x.ta.keeps k, x.i0.keeps k, x.i1.keeps k, x.i2.keeps k, x.i3.keeps k, x.c0.keeps k, x.c1.keeps k, x.c2.keeps k, x.c3.keeps k, x.fi.keeps k, x.fc.keeps k⟩
def heldAt (key : Int) (uk us : Tok) (lv rv : Value) (n : Int) : Nat → List (Str × Value)
  | 0 => []
  | 1 => [("key", .int key uk)]
  | 2 => [("key", .int key uk), ("left", lv)]
  | 3 => [("key", .int key uk), ("left", lv), ("right", rv)]
  | _ => [("key", .int key uk), ("left", lv), ("right", rv), ("size", .int n us)]
theorem is_tree {A : Around} {E : Value → Shared → Prop} {h₀ W V h : Heap} {own : List (Addr × OP)} {g : Array GenState} {d : Drawn} {t : Nat} {os : OsState} {kd : Addr} {v : Value} {tr : T} {Q : Value → Shared → Prop} (S : St h₀ W V own h) (X : WF w.params mg mb V) (ht : Tree w prog V kd v tr) (k : Q (.bool false) ⟨h, g, d, t, os⟩) : wpAny (model prog w) A (compareOp .Is v (.ref 70)) Q E ⟨h, g, d, t, os⟩ := by
  cases ht with
  | nil => exact is_f rfl rfl k
  | node hn _ _ =>
    obtain ⟨da, hh, u1, u2, p, q, r⟩ := hn
    exact is_70 S X (S.view p) (by decide) k
def Shape (pos : List Value) (kw : List (Str × Value)) : Prop :=
  (∃ v, pos = [v] ∧ kw = []) ∨ (pos = [] ∧ ((∃ a b c, kw = [(("left" : Str), a), ("key", b), ("right", c)]) ∨ (∃ a b c, kw = [(("right" : Str), a), ("key", b), ("left", c)]) ∨ (∃ a b c, kw = [(("key" : Str), a), ("right", b), ("left", c)])))
def MidB (prog : Program) (w : World) (h₀ W : Heap) (g : Array GenState) (d : Drawn) (os : OsState) (self : Value) (pos : List Value) (kw : List (Str × Value)) (binds : List (Str × Value)) (s : Shared) : Prop :=
  ∃ Ar Kd h t, binds = [(("self" : Str), self), ("args", .ref Ar), ("kwargs", .ref Kd)] ∧ s = ⟨h, g, d, t, os⟩ ∧ (Kd == sysModules) = false ∧ St h₀ W W [(Kd, isK w prog kw), (Ar, isT pos)] h
theorem kind_call {A : Around} {V h : Heap} {kd : Addr} {pos : List Value} {kw : List (Str × Value)} {key : Int} {uk : Tok} {lv rv : Value} {l r : T} (X : WF w.params mg mb V) (le : V.StaysIn h) (R : Room A 60) (K : KD V kd) (sh : Shape pos kw)
    (e1 : valueAt (fillD (fillD (baseD pos ++ kw) "left") "right") "key" = some (.int key uk)) (e2 : valueAt (fillD (fillD (baseD pos ++ kw) "left") "right") "left" = some lv) (e3 : valueAt (fillD (fillD (baseD pos ++ kw) "left") "right") "right" = some rv)
    (tl : Tree w prog V kd lv l) (tr : Tree w prog V kd rv r) : Tell prog w A (.ref kd) pos kw V h fun v V' => ∃ a, v = .ref a ∧ Tree w prog V' kd v (.node l key r) := by
  obtain ⟨kdd, mr, ta, le', lo, a0, a1, a2, a3, d0, d1, d2, d3, fa, fd, uu, u0, v0, u1, v1, u2, v2, u3, v3, k1, k2, k3, k4, H⟩ := K.open4
  intro g d t os Q E k
  obtain ⟨es, n, I, _⟩ := inst_at (k1.keeps le) (k2.keeps le)
  refine wpAny_call (kco_code (K := hd.heap_39 w.params) (C := 142) (f := 139) (X.K.keeps le) I rfl (by k_is) (by k_is) (by k_is) ?_)
  refine c_bind (Q := Q) le X (by k_is) (by k_is) R.depth (fun _ _ q => q) fun S0 => ?_
  refine wpAny_mono (Q := MidB prog w h V g d os (.ref kd) pos kw) ?_ (fun binds s hm => ?_) fun _ _ z => z
  · rcases sh with ⟨v, rfl, rfl⟩ | ⟨rfl, ⟨a, b, c, rfl⟩ | ⟨a, b, c, rfl⟩ | ⟨a, b, c, rfl⟩⟩
    · refine b_alloc (φ := isT [v]) S0 (X.K.keeps le) rfl ⟨rfl, 0, rfl⟩ _ _ (by rfl) ?_
      intro Ar h1 _ S1
      refine b_kwargs (ex := []) S1 X (X.K.keeps S1.le) (by rfl) (by rfl) (fun _ => rfl) ?_
      intro Kd h2 t2 hs S2
      exact ⟨Ar, Kd, h2, t2, rfl, rfl, hs, S2⟩
    · refine b_alloc (φ := isT []) S0 (X.K.keeps le) rfl ⟨rfl, 0, rfl⟩ _ _ (by rfl) ?_
      intro Ar h1 _ S1
      refine b_kwargs (ex := [("left", a), ("key", b), ("right", c)]) S1 X (X.K.keeps S1.le) (by rfl) (by rfl) (fun _ => rfl) ?_
      intro Kd h2 t2 hs S2
      exact ⟨Ar, Kd, h2, t2, rfl, rfl, hs, S2⟩
    · refine b_alloc (φ := isT []) S0 (X.K.keeps le) rfl ⟨rfl, 0, rfl⟩ _ _ (by rfl) ?_
      intro Ar h1 _ S1
      refine b_kwargs (ex := [("right", a), ("key", b), ("left", c)]) S1 X (X.K.keeps S1.le) (by rfl) (by rfl) (fun _ => rfl) ?_
      intro Kd h2 t2 hs S2
      exact ⟨Ar, Kd, h2, t2, rfl, rfl, hs, S2⟩
    · refine b_alloc (φ := isT []) S0 (X.K.keeps le) rfl ⟨rfl, 0, rfl⟩ _ _ (by rfl) ?_
      intro Ar h1 _ S1
      refine b_kwargs (ex := [("key", a), ("right", b), ("left", c)]) S1 X (X.K.keeps S1.le) (by rfl) (by rfl) (fun _ => rfl) ?_
      intro Kd h2 t2 hs S2
      exact ⟨Ar, Kd, h2, t2, rfl, rfl, hs, S2⟩
  · obtain ⟨Ar, Kd, h1, t1, rfl, rfl, hs, S1⟩ := hm
    refine ⟨_, _, _, _, rfl, S1, stays_refl _, by rfl, fun L h₁ t' S => ?_⟩
    obtain ⟨V1, S, hv1, hKd⟩ := S.seal2
    obtain ⟨V2, S, hv2, hAr⟩ := S.seal2
    have pl : pos.length ≤ 1 := by rcases sh with ⟨v, rfl, rfl⟩ | ⟨rfl, _⟩ <;> simp
    have kl : kw.length ≤ 3 := by rcases sh with ⟨v, rfl, rfl⟩ | ⟨rfl, ⟨a, b, c, rfl⟩ | ⟨a, b, c, rfl⟩ | ⟨a, b, c, rfl⟩⟩ <;> simp
    have nd : ((baseD pos ++ kw).map (·.1)).Nodup := by
      rcases sh with ⟨v, rfl, rfl⟩ | ⟨rfl, ⟨a, b, c, rfl⟩ | ⟨a, b, c, rfl⟩ | ⟨a, b, c, rfl⟩⟩ <;> (simp only [baseD, List.nil_append, List.append_nil, List.map_cons, List.map_nil]; decide)
    have sub : ∀ x ∈ kw, x.1 ∈ (["key", "left", "right"] : List Str) := by
      rcases sh with ⟨v, rfl, rfl⟩ | ⟨rfl, ⟨a, b, c, rfl⟩ | ⟨a, b, c, rfl⟩ | ⟨a, b, c, rfl⟩⟩ <;> simp
    have hkey : (valueAt (baseD pos ++ kw) "key").isSome = true := by
      rcases sh with ⟨v, rfl, rfl⟩ | ⟨rfl, ⟨a, b, c, rfl⟩ | ⟨a, b, c, rfl⟩ | ⟨a, b, c, rfl⟩⟩ <;> rfl
    wtm_at "v_all"
    rename St _ _ _ _ _ => S
    refine c_tell S (handed_spec (by wtm_at "v_wf") S.le (by wtm_at "v_rm") (H.keeps (by wtm_at "v_st")) (by wtm_at "v_at") (by wtm_at "v_at") hs pl kl nd sub hkey) ?_
    clear S
    rintro v V3 h3 t3 S hv3 ⟨D, rfl, hD⟩
    wtm_at "v_all"
    rename St _ _ _ _ _ => S
    refine c_make S (by wtm_at "v_wf") (by k_is) (by k_is) (by k_is) (fun x dx own V' => ∃ L m hh, own = [(L, isNs m), (hh, isK w prog []), (dx, isD [("kind", .ref kd), ("held", .ref hh)])] ∧ True)
      (fun x dx V' h' hv hx S' => ?_) ?_
    · intro g d t os R' k'
      refine made_init ((WF.via (by wtm_at "v_st") X).keeps hv) S'.le ?_ hx (S'.get (.tail _ (.head _))) (S'.has _ (.tail _ (.head _))).2.1 g d t os R' fun V'' h'' t'' own₂ S'' hP => k' V'' h'' t'' own₂ S'' ?_
      · exact Room.make (n := 5) (by wtm_at "v_rm")
      · obtain ⟨L, m, hh, e, _⟩ := hP
        exact ⟨L, m, hh, e, trivial⟩
    clear S
    rintro x dx V4 V5 h4 t4 own₂ hv4 hx hv5 ⟨L', m', hh, rfl, _⟩ back nd'
    have S := back [(hh, isK w prog []), (dx, isD [("kind", .ref kd), ("held", .ref hh)])] (by simp) (by
      simp only [List.map_cons, List.map_nil, List.nodup_cons, List.mem_cons, not_or] at nd' ⊢
      exact nd'.2)
    rw [List.append_nil] at S
    wtm_at "v_all"
    refine x_for ?_
    wtm_at "v_all"
    rename St _ _ _ _ _ => S
    have ta5 : At V5 ta (isT [.ref a0, .ref a1, .ref a2, .ref a3]) := H.ta.keeps (by wtm_at "v_st")
    obtain ⟨hta, i0, i1, i2, i3, c0, c1, c2, c3, fi, fc⟩ := H
    refine f_tup S ta5 R.hd (Inv := fun i _ m own => ∃ us, own = [(hh, isK w prog (heldAt key uk us lv rv (l.size + r.size + 1) i)), (dx, isD [("kind", .ref kd), ("held", .ref hh)])] ∧ m "self" = some (.ref kd) ∧ m "handed" = some (.ref D) ∧ m "inst" = some (.ref x)) ⟨0, rfl, rfl, rfl, rfl⟩ ?_ ?_
    · clear S
      rintro it i y V' m own h t hxi hv ⟨us, rfl, m1, m2, m3⟩ S
      have hD' : At V' D (isK w prog (fillD (fillD (baseD pos ++ kw) "left") "right")) := hD.keeps (by wtm_at "v_st")
      rcases i with _ | _ | _ | _ | i
      · simp only [List.getElem?_cons_zero, Option.some.injEq] at hxi
        subst hxi
        change St _ _ _ [(L, isNs m), (it, isTI ta 1), (hh, isK w prog []), (dx, isD [("kind", .ref kd), ("held", .ref hh)])] h at S
        wtm_at "v_all"
        rename St _ _ _ _ _ => S
        exact Turn.next S (by wtm_at "v_st") ⟨0, rfl, m1, m2, m3⟩
      · simp only [List.getElem?_cons_succ, List.getElem?_cons_zero, Option.some.injEq] at hxi
        subst hxi
        change St _ _ _ [(L, isNs m), (it, isTI ta 2), (hh, isK w prog [("key", .int key uk)]), (dx, isD [("kind", .ref kd), ("held", .ref hh)])] h at S
        wtm_at "v_all"
        rename St _ _ _ _ _ => S
        refine is_tree S (by wtm_at "v_wf") (tl.via (by wtm_at "v_st")) ?_
        wtm_at "v_all"
        rename St _ _ _ _ _ => S
        refine is_tree S (by wtm_at "v_wf") (tl.via (by wtm_at "v_st")) ?_
        wtm_at "v_all"
        rename St _ _ _ _ _ => S
        exact Turn.next S (by wtm_at "v_st") ⟨0, rfl, m1, m2, m3⟩
      · simp only [List.getElem?_cons_succ, List.getElem?_cons_zero, Option.some.injEq] at hxi
        subst hxi
        change St _ _ _ [(L, isNs m), (it, isTI ta 3), (hh, isK w prog [("key", .int key uk), ("left", lv)]), (dx, isD [("kind", .ref kd), ("held", .ref hh)])] h at S
        wtm_at "v_all"
        rename St _ _ _ _ _ => S
        refine is_tree S (by wtm_at "v_wf") (tr.via (by wtm_at "v_st")) ?_
        wtm_at "v_all"
        rename St _ _ _ _ _ => S
        refine is_tree S (by wtm_at "v_wf") (tr.via (by wtm_at "v_st")) ?_
        wtm_at "v_all"
        rename St _ _ _ _ _ => S
        exact Turn.next S (by wtm_at "v_st") ⟨0, rfl, m1, m2, m3⟩
      · simp only [List.getElem?_cons_succ, List.getElem?_cons_zero, Option.some.injEq] at hxi
        subst hxi
        change St _ _ _ [(L, isNs m), (it, isTI ta 4), (hh, isK w prog [("key", .int key uk), ("left", lv), ("right", rv)]), (dx, isD [("kind", .ref kd), ("held", .ref hh)])] h at S
        wtm_at "v_all"
        rename St _ _ _ _ _ => S
        refine c_tell0 S (size_spec (l := l) (r := r) (kd := kd) ((WF.via (by wtm_at "v_st") X).keeps S.le) (by wtm_at "v_rm") (by wtm_at "v_at") (by wtm_at "v_at") (by wtm_at "v_at") (by rfl) (by rfl) ((tl.via (by wtm_at "v_st")).via S.le) ((tr.via (by wtm_at "v_st")).via S.le)) ?_
        clear S
        rintro v h' t' S ⟨us2, rfl⟩
        wtm_at "v_all"
        rename St _ _ _ _ _ => S
        exact Turn.next S (by wtm_at "v_st") ⟨us2, rfl, m1, m2, m3⟩
      · simp at hxi
    · clear S
      rintro V6 m own h t hv6 ⟨us, rfl, m1, m2, m3⟩ S
      change St _ _ _ [(L, isNs m), (hh, isK w prog [("key", .int key uk), ("left", lv), ("right", rv), ("size", .int (l.size + r.size + 1) us)]), (dx, isD [("kind", .ref kd), ("held", .ref hh)])] h at S
      wtm_at "v_all"
      refine x_for ?_
      wtm_at "v_all"
      rename St _ _ _ _ _ => S
      have ta6 : At V6 ta (isT [.ref a0, .ref a1, .ref a2, .ref a3]) := by wtm_at "v_at"
      refine f_tup S ta6 R.hd (Inv := fun i _ m own => own = [(hh, isK w prog [("key", .int key uk), ("left", lv), ("right", rv), ("size", .int (l.size + r.size + 1) us)]), (dx, isD [("kind", .ref kd), ("held", .ref hh)])] ∧ m "inst" = some (.ref x)) ⟨rfl, m3⟩ ?_ ?_
      · clear S
        rintro it i y V' m own h t hxi hv ⟨rfl, m3⟩ S
        rcases i with _ | _ | _ | _ | i
        · simp only [List.getElem?_cons_zero, Option.some.injEq] at hxi
          subst hxi
          wtm_at "v_all"
          rename St _ _ _ _ _ => S
          exact Turn.next S (by wtm_at "v_st") ⟨rfl, m3⟩
        · simp only [List.getElem?_cons_succ, List.getElem?_cons_zero, Option.some.injEq] at hxi
          subst hxi
          wtm_at "v_all"
          rename St _ _ _ _ _ => S
          exact Turn.next S (by wtm_at "v_st") ⟨rfl, m3⟩
        · simp only [List.getElem?_cons_succ, List.getElem?_cons_zero, Option.some.injEq] at hxi
          subst hxi
          wtm_at "v_all"
          rename St _ _ _ _ _ => S
          exact Turn.next S (by wtm_at "v_st") ⟨rfl, m3⟩
        · simp only [List.getElem?_cons_succ, List.getElem?_cons_zero, Option.some.injEq] at hxi
          subst hxi
          wtm_at "v_all"
          rename St _ _ _ _ _ => S
          exact Turn.next S (by wtm_at "v_st") ⟨rfl, m3⟩
        · simp at hxi
      · clear S
        rintro V7 m own h t hv7 ⟨rfl, m3⟩ S
        wtm_at "v_all"
        rename St _ _ _ _ _ => S
        obtain ⟨V8, S, hv8, hhh⟩ := S.seal2
        obtain ⟨V9, S, hv9, hdx⟩ := S.seal2
        refine k _ _ _ _ S.ret ⟨x, rfl, .node ⟨dx, hh, uk, us, hx.keeps (by wtm_at "v_st"), hdx, ?_⟩ (tl.via (by wtm_at "v_st")) (tr.via (by wtm_at "v_st"))⟩
        exact hhh.keeps (by wtm_at "v_st")
end
section
variable {prog : Program} {w : World} {mg mb : Str → Option Value}
theorem x_try {A : Around} {E : Value → Shared → Prop} {env : Env} {body orelse : List Stmt} {h₀ : ExceptHandler} {hs : List ExceptHandler} {pos : Pos} {Q : Flow → Shared → Prop} {s : Shared} (x : wpAny (model prog w) A (execs body env) (Then prog w A orelse env Q E) (fun _ _ => False) s) :
    wpAny (model prog w) A (exec (.Try body (h₀ :: hs) orelse [] pos) env) Q E s :=
  wpAny_Try_except (wpAny_mono x (fun f s' q => by cases f <;> exact q) fun _ _ z => z.elim)
theorem St.apart {h₀ W V h : Heap} {own : List (Addr × OP)} {a b : Addr} {φ ψ : OP} (S : St h₀ W V own h) (m : (a, φ) ∈ own) (x : At V b ψ) : a ≠ b := by
  rintro rfl
  obtain ⟨o, e, _⟩ := x
  rw [(S.has _ m).2.1] at e
  cases e
theorem fields_spec {A : Around} {V h : Heap} {kd kdd : Addr} {l : List (Str × Value)} {ta : Addr} (X : WF w.params mg mb V) (le : V.StaysIn h) (R : Room A 10) (hx : At V kd (isI 142 kdd)) (hm : At V kdd (isD l)) (hl : l.lookup ("attrs" : Str) = some (.ref ta)) :
    Tell prog w A (.ref 257) [.ref kd] [] V h fun v _ => v = .ref ta := by
  intro g d t os Q E k
  refine c_def le X (by k_is) (by k_is) R.depth (BindsTo.of_eq rfl) (by rfl) ?_
  intro L h t S
  wtm_at "v_all"
  rename St _ _ _ _ _ => S
  exact k _ _ _ _ S.ret rfl
theorem called_spec {A : Around} {V h : Heap} {kd vt nd : Addr} {key : Int} {u : Tok} (X : WF w.params mg mb V) (le : V.StaysIn h) (R : Room A 80) (K : KD V kd) (hv : At V vt (isT [.int key u])) (hn : At V nd (isK w prog [])) (hs : (nd == sysModules) = false) :
    Tell prog w A (.ref 459) [.ref kd, .ref vt, .ref nd] [] V h fun v V' => ∃ a, v = .ref a ∧ Tree w prog V' kd v (.node .nil key .nil) := by
  obtain ⟨kdd, mr, ta, le', lo, a0, a1, a2, a3, d0, d1, d2, d3, fa, fd, uu, u0, v0, u1, v1, u2, v2, u3, v3, k1, k2, k3, k4, H⟩ := K.open4
  intro g d t os Q E k
  refine c_def le X (by k_is) (by k_is) R.depth (BindsTo.of_eq rfl) (by rfl) ?_
  intro L h t S
  wtm_at "v_all"
  rename St _ _ _ _ _ => S
  refine w_both S ?_
  wtm_at "v_all"
  rename St _ _ _ _ _ => S
  refine ⟨vt, [.int key u], _, _, _, _, _, _, _, rfl, rfl, hv, (show 1 ≤ sizeLine by decide), S, fun D h' S' => ?_⟩
  wtm_at "v_all"
  clear S
  rename St _ _ _ _ _ => S
  refine ⟨nd, [], _, _, _, _, _, _, _, _, rfl, rfl, S.view hn, S.apart (.tail _ (.head _)) hn, hs, (show 0 ≤ sizeLine by decide), S, .tail .head, fun h'' S'' => ⟨S''.view hv, _, _, _, _, _, _, _, rfl, S'', fun h3 S3 => ?_⟩⟩
  refine Called.i (S3.view k1) (S3.view k2) ?_
  refine c_tell S3 (kind_call (l := .nil) (r := .nil) (by wtm_at "v_wf") S3.le (by wtm_at "v_rm") K (.inl ⟨_, rfl, rfl⟩) (by rfl) (by rfl) (by rfl) .nil .nil) ?_
  clear S S3
  rintro v V' h' t' S hv' ⟨a, rfl, ht⟩
  wtm_at "v_all"
  rename St _ _ _ _ _ => S
  exact k _ _ _ _ S.ret ⟨a, rfl, ht⟩
def chg (kvs : List (Str × Value)) (x : Str) (v : Value) : List (Str × Value) := if (valueAt kvs x).isSome then kvs else stored kvs x v
theorem chg_len (kvs : List (Str × Value)) (x : Str) (v : Value) : (chg kvs x v).length ≤ kvs.length + 1 := by
  unfold chg
  split
  · omega
  · exact stored_length_le ..
def chgAt (ex : List (Str × Value)) (kv lv rv : Value) : Nat → List (Str × Value)
  | 0 => ex
  | 1 => chg ex "key" kv
  | 2 => chg (chg ex "key" kv) "left" lv
  | _ => chg (chg (chg ex "key" kv) "left" lv) "right" rv
def Change (ex : List (Str × Value)) : Prop := (∃ v, ex = [(("left" : Str), v)]) ∨ (∃ v, ex = [(("right" : Str), v)]) ∨ (∃ k v, ex = [(("key" : Str), k), ("right", v)])
def MidE (prog : Program) (w : World) (h₀ W : Heap) (g : Array GenState) (d : Drawn) (os : OsState) (a : Value) (ex : List (Str × Value)) (binds : List (Str × Value)) (s : Shared) : Prop :=
  ∃ Ar Cd h t, binds = [(("args" : Str), .ref Ar), ("changes", .ref Cd)] ∧ s = ⟨h, g, d, t, os⟩ ∧ (Cd == sysModules) = false ∧ St h₀ W W [(Cd, isK w prog ex), (Ar, isT [a])] h
theorem evolve_spec {A : Around} {V h : Heap} {kd a : Addr} {ex : List (Str × Value)} {k0 key' n : Int} {uk : Tok} {lv rv lv' rv' : Value} {l r : T} (X : WF w.params mg mb V) (le : V.StaysIn h) (R : Room A 80) (K : KD V kd) (hn : isNode w prog V kd a k0 lv rv n) (sh : Change ex)
    (e1 : ∀ u, valueAt (chgAt ex (.int k0 u) lv rv 3) "key" = some (.int key' (if (valueAt ex "key").isSome then uk else u))) (e2 : ∀ u, valueAt (chgAt ex (.int k0 u) lv rv 3) "left" = some lv') (e3 : ∀ u, valueAt (chgAt ex (.int k0 u) lv rv 3) "right" = some rv')
    (tl : Tree w prog V kd lv' l) (tr : Tree w prog V kd rv' r) : Tell prog w A (.ref 104) [.ref a] ex V h fun v V' => ∃ b, v = .ref b ∧ Tree w prog V' kd v (.node l key' r) := by
  obtain ⟨kdd, mr, ta, le', lo, a0, a1, a2, a3, d0, d1, d2, d3, fa, fd, uu, u0, v0, u1, v1, u2, v2, u3, v3, k1, k2, k3, k4, H⟩ := K.open4
  obtain ⟨da, hh, uu1, uu2, n1, n2, n3⟩ := hn
  intro g d t os Q E k
  refine wpAny_call (c_bind (Q := Q) le X (by k_is) (by k_is) R.depth (fun _ _ q => q) fun S0 => ?_)
  refine wpAny_mono (Q := MidE prog w h V g d os (.ref a) ex) ?_ (fun binds s hm => ?_) fun _ _ z => z
  · rcases sh with ⟨x, rfl⟩ | ⟨x, rfl⟩ | ⟨x, y, rfl⟩
    · refine b_alloc (φ := isT [.ref a]) S0 (X.K.keeps le) rfl ⟨rfl, 0, rfl⟩ _ _ (by rfl) ?_
      intro Ar h1 _ S1
      refine b_kwargs (ex := [("left", x)]) S1 X (X.K.keeps S1.le) (by rfl) (by rfl) (fun _ => rfl) ?_
      intro Kd h2 t2 hs S2
      exact ⟨Ar, Kd, h2, t2, rfl, rfl, hs, S2⟩
    · refine b_alloc (φ := isT [.ref a]) S0 (X.K.keeps le) rfl ⟨rfl, 0, rfl⟩ _ _ (by rfl) ?_
      intro Ar h1 _ S1
      refine b_kwargs (ex := [("right", x)]) S1 X (X.K.keeps S1.le) (by rfl) (by rfl) (fun _ => rfl) ?_
      intro Kd h2 t2 hs S2
      exact ⟨Ar, Kd, h2, t2, rfl, rfl, hs, S2⟩
    · refine b_alloc (φ := isT [.ref a]) S0 (X.K.keeps le) rfl ⟨rfl, 0, rfl⟩ _ _ (by rfl) ?_
      intro Ar h1 _ S1
      refine b_kwargs (ex := [("key", x), ("right", y)]) S1 X (X.K.keeps S1.le) (by rfl) (by rfl) (fun _ => rfl) ?_
      intro Kd h2 t2 hs S2
      exact ⟨Ar, Kd, h2, t2, rfl, rfl, hs, S2⟩
  · obtain ⟨Ar, Cd, h1, t1, rfl, rfl, hs, S1⟩ := hm
    refine ⟨_, _, _, _, rfl, S1, stays_refl _, by rfl, fun L h₁ t' S => ?_⟩
    have S := S.perm (l := [(L, isNs fun x => List.lookup x [(("changes" : Str), Value.ref Cd), ("args", .ref Ar)]), (Ar, isT [.ref a]), (Cd, isK w prog ex)]) (.cons _ (.swap ..))
    obtain ⟨V1, S, hv1, hAr⟩ := S.seal2
    have hdh := R.hd
    refine x_cons (x_try ?_)
    wtm_at "v_all"
    rename St _ _ _ _ _ => S
    refine c_tell S (fields_spec (by wtm_at "v_wf") S.le (by wtm_at "v_rm") (by wtm_at "v_at") (by wtm_at "v_at") (by rfl)) ?_
    clear S
    rintro v V2 h2 t2 S hv2 rfl
    wtm_at "v_all"
    refine x_for ?_
    wtm_at "v_all"
    rename St _ _ _ _ _ => S
    have exl : ex.length ≤ 2 := by rcases sh with ⟨x, rfl⟩ | ⟨x, rfl⟩ | ⟨x, y, rfl⟩ <;> simp
    have ta2 : At V2 ta (isT [.ref a0, .ref a1, .ref a2, .ref a3]) := H.ta.keeps (by wtm_at "v_st")
    obtain ⟨hta, i0, i1, i2, i3, c0, c1, c2, c3, fi, fc⟩ := H
    refine f_tup S ta2 R.hd (Inv := fun i _ m own => own = [(Cd, isK w prog (chgAt ex (.int k0 uu1) lv rv i))] ∧ m "inst" = some (.ref a) ∧ m "changes" = some (.ref Cd) ∧ m "cls" = some (.ref kd)) ⟨rfl, rfl, rfl, rfl⟩ ?_ ?_
    · clear S
      rintro it i y V' m own h t hxi hv ⟨rfl, m1, m2, m3⟩ S
      rcases i with _ | _ | _ | _ | i
      · simp only [List.getElem?_cons_zero, Option.some.injEq] at hxi
        subst hxi
        change St _ _ _ [(L, isNs m), (it, isTI ta 1), (Cd, isK w prog ex)] h at S
        wtm_at "v_all"
        cases hc : (valueAt (ex) "key").isSome with
        | true =>
          wtm_at "v_all"
          rename St _ _ _ _ _ => S
          exact Turn.next S (by wtm_at "v_st") ⟨by show [(Cd, isK w prog (ex))] = [(Cd, isK w prog (chg ex "key" (.int k0 uu1)))]; rw [chg.eq_1 _ (Str.ofString "key"), if_pos hc], m1, m2, m3⟩
        | false =>
          wtm_at "v_all"
          rename St _ _ _ _ _ => S
          exact Turn.next S (by wtm_at "v_st") ⟨by show [(Cd, isK w prog (stored (ex) "key" (.int k0 uu1)))] = [(Cd, isK w prog (chg ex "key" (.int k0 uu1)))]; rw [chg.eq_1 _ (Str.ofString "key"), if_neg (by rw [hc]; decide)], m1, m2, m3⟩
      · simp only [List.getElem?_cons_succ, List.getElem?_cons_zero, Option.some.injEq] at hxi
        subst hxi
        have cl1 := chg_len ex "key" (.int k0 uu1)
        have cl1b := chg_len (chg ex "key" (.int k0 uu1)) "left" lv
        change St _ _ _ [(L, isNs m), (it, isTI ta 2), (Cd, isK w prog (chg ex "key" (.int k0 uu1)))] h at S
        wtm_at "v_all"
        cases hc : (valueAt (chg ex "key" (.int k0 uu1)) "left").isSome with
        | true =>
          wtm_at "v_all"
          rename St _ _ _ _ _ => S
          exact Turn.next S (by wtm_at "v_st") ⟨by show [(Cd, isK w prog (chg ex "key" (.int k0 uu1)))] = [(Cd, isK w prog (chg (chg ex "key" (.int k0 uu1)) "left" lv))]; rw [chg.eq_1 _ (Str.ofString "left"), if_pos hc], m1, m2, m3⟩
        | false =>
          wtm_at "v_all"
          rename St _ _ _ _ _ => S
          exact Turn.next S (by wtm_at "v_st") ⟨by show [(Cd, isK w prog (stored (chg ex "key" (.int k0 uu1)) "left" (lv)))] = [(Cd, isK w prog (chg (chg ex "key" (.int k0 uu1)) "left" lv))]; rw [chg.eq_1 _ (Str.ofString "left"), if_neg (by rw [hc]; decide)], m1, m2, m3⟩
      · simp only [List.getElem?_cons_succ, List.getElem?_cons_zero, Option.some.injEq] at hxi
        subst hxi
        have cl2 := chg_len ex "key" (.int k0 uu1)
        have cl2b := chg_len (chg ex "key" (.int k0 uu1)) "left" lv
        change St _ _ _ [(L, isNs m), (it, isTI ta 3), (Cd, isK w prog (chg (chg ex "key" (.int k0 uu1)) "left" lv))] h at S
        wtm_at "v_all"
        cases hc : (valueAt (chg (chg ex "key" (.int k0 uu1)) "left" lv) "right").isSome with
        | true =>
          wtm_at "v_all"
          rename St _ _ _ _ _ => S
          exact Turn.next S (by wtm_at "v_st") ⟨by show [(Cd, isK w prog (chg (chg ex "key" (.int k0 uu1)) "left" lv))] = [(Cd, isK w prog (chg (chg (chg ex "key" (.int k0 uu1)) "left" lv) "right" rv))]; rw [chg.eq_1 _ (Str.ofString "right"), if_pos hc], m1, m2, m3⟩
        | false =>
          wtm_at "v_all"
          rename St _ _ _ _ _ => S
          exact Turn.next S (by wtm_at "v_st") ⟨by show [(Cd, isK w prog (stored (chg (chg ex "key" (.int k0 uu1)) "left" lv) "right" (rv)))] = [(Cd, isK w prog (chg (chg (chg ex "key" (.int k0 uu1)) "left" lv) "right" rv))]; rw [chg.eq_1 _ (Str.ofString "right"), if_neg (by rw [hc]; decide)], m1, m2, m3⟩
      · simp only [List.getElem?_cons_succ, List.getElem?_cons_zero, Option.some.injEq] at hxi
        subst hxi
        change St _ _ _ [(L, isNs m), (it, isTI ta 4), (Cd, isK w prog (chg (chg (chg ex "key" (.int k0 uu1)) "left" lv) "right" rv))] h at S
        wtm_at "v_all"
        rename St _ _ _ _ _ => S
        exact Turn.cont S (by wtm_at "v_st") ⟨rfl, m1, m2, m3⟩
      · simp at hxi
    · clear S
      rintro V6 m own h t hv6 ⟨rfl, m1, m2, m3⟩ S
      change St _ _ _ [(L, isNs m), (Cd, isK w prog (chgAt ex (.int k0 uu1) lv rv 3))] h at S
      wtm_at "v_all"
      rename St _ _ _ _ _ => S
      refine w_names S ?_
      clear S
      intro D h S
      wtm_at "v_all"
      rename St _ _ _ _ _ => S
      have nd := S.nd
      simp only [List.map_cons, List.map_nil, List.nodup_cons, List.mem_cons, not_or] at nd
      refine ⟨Cd, _, _, _, _, _, _, _, _, _, rfl, rfl, S.get (.tail _ (.tail _ (.head _))), nd.2.1.1, hs, ?_, S, .tail .head, fun h' S' => ?_⟩
      · rcases sh with ⟨x, rfl⟩ | ⟨x, rfl⟩ | ⟨x, y, rfl⟩ <;> exact (show 3 ≤ sizeLine by decide)
      have shp : Shape [] (chgAt ex (.int k0 uu1) lv rv 3) := by
        rcases sh with ⟨x, rfl⟩ | ⟨x, rfl⟩ | ⟨x, y, rfl⟩
        · exact .inr ⟨rfl, .inl ⟨_, _, _, rfl⟩⟩
        · exact .inr ⟨rfl, .inr (.inl ⟨_, _, _, rfl⟩)⟩
        · exact .inr ⟨rfl, .inr (.inr ⟨_, _, _, rfl⟩)⟩
      have ff : fillD (fillD (baseD [] ++ chgAt ex (.int k0 uu1) lv rv 3) "left") "right" = chgAt ex (.int k0 uu1) lv rv 3 := by
        rcases sh with ⟨x, rfl⟩ | ⟨x, rfl⟩ | ⟨x, y, rfl⟩ <;> rfl
      refine Called.i (S'.view (k1.keeps (by wtm_at "v_st"))) (S'.view (k2.keeps (by wtm_at "v_st"))) ?_
      show wpAny _ _ (call (.ref kd) [] _) _ _ _
      refine c_tell S' (kind_call (l := l) (r := r) (by wtm_at "v_wf") S'.le (by wtm_at "v_rm") (KD.via (by wtm_at "v_st") K) shp (by rw [ff]; exact e1 uu1) (by rw [ff]; exact e2 uu1) (by rw [ff]; exact e3 uu1) (tl.via (by wtm_at "v_st")) (tr.via (by wtm_at "v_st"))) ?_
      clear S S'
      rintro v V' h' t' S hv' ⟨b, rfl, ht⟩
      wtm_at "v_all"
      rename St _ _ _ _ _ => S
      exact k _ _ _ _ S.ret ⟨b, rfl, ht⟩
end
section
variable {prog : Program} {w : World} {A : Around} {E : Value → Shared → Prop} {h₀ W V h : Heap} {own own' : List (Addr × OP)} {g : Array GenState} {d : Drawn} {t : Nat} {os : OsState} {env : Env} {mg mb : Str → Option Value}
theorem e_slice {lower upper step : Option Expr} {p : Pos} {Q : Value → Shared → Prop} {s : Shared}
    (x : wpAny (model prog w) A (evalPart lower env) (fun l s₁ => wpAny (model prog w) A (evalPart upper env) (fun u s₂ => wpAny (model prog w) A (evalPart step env) (fun st s₃ =>
      Q (.ref s₃.heap.objs.size) { s₃ with heap := s₃.heap.push { cls := .type "slice", data := .fields #[l, u, st] } }) E s₂) E s₁) E s) :
    wpAny (model prog w) A (eval (.Slice lower upper step p) env) Q E s := wpAny_Slice x
theorem p_none {Q : Value → Shared → Prop} {s : Shared} (x : Q .none s) : wpAny (model prog w) A (evalPart none env) Q E s := wpAny_pure x
theorem p_some {e : Expr} {Q : Value → Shared → Prop} {s : Shared} (x : wpAny (model prog w) A (eval e env) Q E s) : wpAny (model prog w) A (evalPart (some e) env) Q E s := x
theorem e_un {op : UnaryOp} {x : Expr} {pos : Pos} {Q : Value → Shared → Prop} {s : Shared} (h : wpAny (model prog w) A (eval x env) (fun v s₁ => wpAny (model prog w) A (unaryOp op v) Q E s₁) E s) : wpAny (model prog w) A (eval (.UnaryOp op x pos) env) Q E s := wpAny_UnaryOp h
theorem o_neg {i : Int} {u : Tok} {Q : Value → Shared → Prop} (k : ∀ t', Q (.int (-i) t) ⟨h, g, d, t', os⟩) : wpAny (model prog w) A (unaryOp .USub (.int i u)) Q E ⟨h, g, d, t, os⟩ := PyProof.Rows.neg_int (k _)
theorem s_slice {f : Addr × OP} {l : Addr} {xs : List Value} {vl vu vk : Value} {lo hi st : Option Int} {value slice : Expr} {ops : List Value} {Q : Value → Shared → Prop} (S : St h₀ W V (f :: own) h) (hl : At h l (isLw xs)) (pl : IsPart vl lo) (pu : IsPart vu hi) (pk : IsPart vk st) (h0 : st ≠ some 0) (hz : xs.length ≤ sizeLine)
    (k : ∀ r h', St h₀ W V (f :: (r, isL (slicePick xs.toArray lo hi st).toList) :: own) h' → Q (.ref r) ⟨h', g, d, t, os⟩)
    (hs : subscripted slice false (.ref l) (.ref h.objs.size) = operate ops (getItem (.ref l) (.ref h.objs.size)) := by with_unfolding_all rfl)
    (ht : ∀ r, letTemporaryGo value (.ref l) r = pure () := by intro _; with_unfolding_all rfl) :
    wpAny (model prog w) A (subscriptTail value slice (.ref l) (.ref h.objs.size)) Q E ⟨h.push { cls := .type "slice", data := .fields #[vl, vu, vk] }, g, d, t, os⟩ := by
  have hl' := list_at.mpr (hl.push { cls := .type "slice", data := .fields #[vl, vu, vk] })
  have S1 := S.grow (stays_push h { cls := .type "slice", data := .fields #[vl, vu, vk] })
  refine subscriptTail_ops (Heap.IsList.typeIs (s := ⟨h.push { cls := .type "slice", data := .fields #[vl, vu, vk] }, g, d, t, os⟩) hl') list_getitem_lookup
    (wpAny_getItem_list_slice hl' (Heap.IsSliceOf.new ..) pl pu pk h0 (k _ _ (S1.push2 _ rfl ⟨0, ?_⟩)) (by rw [List.size_toArray]; exact hz)) hs ht
  simp
theorem c_eqs {a b : Str} {u v : Tok} {Q : Value → Shared → Prop} {s : Shared} (k : Q (.bool (a.cps.toList == b.cps.toList)) s) : wpAny (model prog w) A (compareOp .Eq (.str a u) (.str b v)) Q E s := PySem.P.eq_str k
def isKI (D : Addr) (n ep i : Nat) : OP := fun o => o.cls = .type "dict_keyiterator" ∧ o.data = .fields #[.ref D, .int i 0, .int n 0, .int ep 0]
theorem ki_at {it D : Addr} {n ep i : Nat} : h.IsKeyIter it D i n ep ↔ At h it (isKI D n ep i) :=
  ⟨fun ⟨o, e, p⟩ => ⟨o, e, p⟩, fun ⟨o, e, p⟩ => ⟨o, e, p⟩⟩
theorem src_keys {target : Expr} {it D : Addr} {kvs : List (Str × Value)} {ep : Nat} (hl : At V D (isKe w prog kvs ep)) (hh : A.handled = none) (ht : ∀ r v, letOwnedTupleGo target (.ref r) v = pure () := by intro _ _; rfl) :
    Src prog w A target h₀ W it (fun i => [(it, isKI D kvs.length ep i)]) kvs.length (fun i x V' V'' => (∃ k v u, kvs[i]? = some (k, v) ∧ x = .str k u) ∧ V'' = V') V where
  next := fun i L V' m own h g d t os Q hi hv S k => by
    obtain ⟨kv, hx⟩ : ∃ kv, kvs[i]? = some kv := ⟨_, List.getElem?_eq_getElem hi⟩
    refine wpAny_pyNext_dict_item (ki_at.mpr (S.get (.tail _ (.head _)))) (dictAt_at (S.view (hl.keeps hv))) hx fun key h' hk q s => ?_
    obtain ⟨u, rfl⟩ := Value.isStrOf_shape hk
    exact wpAny_of_eq (ht _ _) (k _ V' h' _ (S.upd (.tail .head) s (ki_at.mp q)) (stays_refl _) ⟨⟨_, _, u, hx, rfl⟩, rfl⟩)
  done := fun L V' m own h g d t os Q hv S k => by
    refine wpAny_pyNext_dict_end hh (ki_at.mpr (S.get (.tail _ (.head _)))) (dictAt_at (S.view (hl.keeps hv))) (by simp) fun h' q => ?_
    exact k h' _ (S.forget q)
  self := fun L V' m own h g d t os Q E hv S k => (Walks.dictKeys (knd := strKind prog w) hh it D (by
      have z := S.has _ (.tail _ (.head _))
      rintro rfl
      obtain ⟨o, e, _⟩ := hl.keeps hv
      rw [z.2.1] at e; cases e) kvs ep).self 0 _ _ _ ⟨ki_at.mpr (S.get (.tail _ (.head _))), dictAt_at (S.view (hl.keeps hv))⟩ k
theorem it_keys {f : Addr × OP} {D : Addr} {kvs : List (Str × Value)} {ep : Nat} {Q : Value → Shared → Prop} (S : St h₀ W V (f :: own) h) (hl : At h D (isKe w prog kvs ep)) (hn : (D == sysModules) = false) (k : ∀ it h', St h₀ W V (f :: (it, isKI D kvs.length ep 0) :: own) h' → Q (.ref it) ⟨h', g, d, t, os⟩) : wpAny (model prog w) A (pyIter (.ref D)) Q E ⟨h, g, d, t, os⟩ :=
  wpAny_pyIter_dict (knd := strKind prog w) hn (dictAt_at hl) (k _ _ (S.push2 _ rfl ⟨rfl, rfl⟩))
end
local macro_rules | `(tactic| wtm_at "v_part") => `(tactic| first | exact IsPart.none | exact IsPart.int _ _)
local macro_rules | `(tactic| wtm_at "v_eval") => `(tactic| first
  | ((with_reducible show wpAny _ _ (eval (Expr.Slice _ _ _ _) _) _ _ _); refine e_slice ?_)
  | ((with_reducible show wpAny _ _ (eval (Expr.UnaryOp UnaryOp.USub _ _) _) _ _ _); refine e_un ?_))
local macro_rules | `(tactic| wtm_at "v_value") => `(tactic| first
  | ((with_reducible show wpAny _ _ (evalPart none _) _ _ _); refine p_none ?_)
  | ((with_reducible show wpAny _ _ (evalPart (some _) _) _ _ _); refine p_some ?_)
  | ((with_reducible show wpAny _ _ (unaryOp UnaryOp.USub (Value.int _ _)) _ _ _); refine o_neg ?_; intro t)
  | ((with_reducible show wpAny _ _ (subscriptTail _ (Expr.Slice _ _ _ _) (Value.ref _) (Value.ref _)) _ _ _); (with_reducible rename St _ _ _ _ _ => S'); refine s_slice S' (by wtm_at "v_weak") (by wtm_at "v_part") (by wtm_at "v_part") (by wtm_at "v_part") (by decide) (by wtm_at "v_size") ?_; clear S'; intro a h S')
  | with_reducible refine c_eqs ?_)
theorem x_expr {prog : Program} {w : World} {A : Around} {E : Value → Shared → Prop} {env : Env} {e : Expr} {pos : Pos} {Q : Flow → Shared → Prop} {s : Shared} (x : wpAny (model prog w) A (eval e env) (fun _ s' => Q .next s') E s)
    (hi : interactive env = false := by rfl) (hs : swapsWith e none pos.line env = pure false := by rfl) : wpAny (model prog w) A (exec (.Expr e pos) env) Q E s := wpAny_Expr_any x hi hs
local macro_rules | `(tactic| wtm_at "v_flow") => `(tactic| ((with_reducible show wpAny _ _ (exec (Stmt.Expr _ _) _) _ _ _); refine x_expr ?_))
inductive Fr1 where
  | L (k : Int) (r : T)
  | R (l : T) (k : Int)
def Fr1.fill : Fr1 → T → T
  | .L k r, t => .node t k r
  | .R l k, t => .node l k t
def T.wayF (key : Int) : T → List Fr1
  | .nil => []
  | .node l k r => if k = key then [] else if key < k then .L k r :: l.wayF key else .R l k :: r.wayF key
def T.wayT (key : Int) : T → T
  | .nil => .nil
  | .node l k r => if k = key then .node l k r else if key < k then l.wayT key else r.wayT key
def WayItem (w : World) (prog : Program) (V : Heap) (kd : Addr) (y : Value) : Fr1 → Prop
  | .L k r => ∃ tp a u lv rv n, y = .ref tp ∧ At V tp (isT [.ref a, .str "left" u]) ∧ isNode w prog V kd a k lv rv n ∧ Tree w prog V kd rv r
  | .R l k => ∃ tp a u lv rv n, y = .ref tp ∧ At V tp (isT [.ref a, .str "right" u]) ∧ isNode w prog V kd a k lv rv n ∧ Tree w prog V kd lv l
theorem WayItem.via {w : World} {prog : Program} {V V' : Heap} {kd : Addr} {y : Value} (s : V.StaysIn V') : ∀ {f : Fr1}, WayItem w prog V kd y f → WayItem w prog V' kd y f
  | .L _ _, ⟨tp, a, u, lv, rv, n, e, p, q, r⟩ => ⟨tp, a, u, lv, rv, n, e, p.keeps s, q.keeps s, r.via s⟩
  | .R _ _, ⟨tp, a, u, lv, rv, n, e, p, q, r⟩ => ⟨tp, a, u, lv, rv, n, e, p.keeps s, q.keeps s, r.via s⟩
inductive WayAll (w : World) (prog : Program) (V : Heap) (kd : Addr) : List Value → List Fr1 → Prop
  | nil : WayAll w prog V kd [] []
  | cons {y : Value} {f : Fr1} {ys : List Value} {fs : List Fr1} : WayItem w prog V kd y f → WayAll w prog V kd ys fs → WayAll w prog V kd (y :: ys) (f :: fs)
theorem WayAll.via {w : World} {prog : Program} {V V' : Heap} {kd : Addr} {ys : List Value} {fs : List Fr1} (s : V.StaysIn V') (x : WayAll w prog V kd ys fs) : WayAll w prog V' kd ys fs := by
  induction x with
  | nil => exact .nil
  | cons h _ ih => exact .cons (h.via s) ih
theorem WayAll.snoc {w : World} {prog : Program} {V : Heap} {kd : Addr} {ys : List Value} {fs : List Fr1} {y : Value} {f : Fr1} (x : WayAll w prog V kd ys fs) (h : WayItem w prog V kd y f) : WayAll w prog V kd (ys ++ [y]) (fs ++ [f]) := by
  induction x with
  | nil => exact .cons h .nil
  | cons h' _ ih => exact .cons h' ih
theorem WayAll.len {w : World} {prog : Program} {V : Heap} {kd : Addr} {ys : List Value} {fs : List Fr1} (x : WayAll w prog V kd ys fs) : ys.length = fs.length := by
  induction x with
  | nil => rfl
  | cons _ _ ih => simp [ih]
theorem T.wayF_len (key : Int) (tr : T) : (tr.wayF key).length ≤ tr.high := by
  induction tr with
  | nil => exact Nat.le_refl _
  | node l k r il ir =>
    unfold T.wayF
    simp only [T.high]
    split
    · simp
    · split <;> (simp only [List.length_cons]; omega)
section
variable {prog : Program} {w : World} {mg mb : Str → Option Value}
theorem way_spec {kd : Addr} (tr : T) {A : Around} {V h : Heap} {v : Value} {key : Int} {u : Tok} (X : WF w.params mg mb V) (le : V.StaysIn h) (R : Room A 10) (ht : Tree w prog V kd v tr) (hh : tr.high ≤ 1000) :
    Tell prog w A (.ref 531) [v, .int key u] [] V h fun r V' => ∃ tp wl ys hv, r = .ref tp ∧ At V' tp (isT [.ref wl, hv]) ∧ At V' wl (isL ys) ∧ WayAll w prog V' kd ys (tr.wayF key) ∧ Tree w prog V' kd hv (tr.wayT key) := by
  intro g d t os Q E k
  refine c_def le X (by k_is) (by k_is) R.depth (BindsTo.of_eq rfl) (by rfl) ?_
  intro L h t S
  have hdh := R.hd
  wtm_at "v_all"
  rename St _ _ _ _ _ => S
  refine x_while S (Inv := fun n V' m own => ∃ wl ys fs hv sub, own = [(wl, isL ys)] ∧ n = sub.high ∧ ys.length + sub.high ≤ 1000 ∧ m "way" = some (.ref wl) ∧ m "here" = some hv ∧ m "key" = some (.int key u) ∧ WayAll w prog V' kd ys fs ∧ Tree w prog V' kd hv sub ∧
    tr.wayF key = fs ++ sub.wayF key ∧ tr.wayT key = sub.wayT key) _ ⟨_, _, [], _, tr, rfl, rfl, by simpa using hh, rfl, rfl, rfl, .nil, ht.via (by wtm_at "v_st"), rfl, rfl⟩ ?_
  clear S
  rintro n V' m own h t hv ⟨wl, ys, fs, hv', sub, rfl, rfl, hl, m1, m2, m3, hw, htr, e1, e2⟩ S
  cases htr with
  | nil =>
    wtm_at "v_all"
    rename St _ _ _ _ _ => S
    obtain ⟨V2, S, hv2, hwl⟩ := S.seal2
    refine k _ _ _ _ S.ret ⟨_, wl, ys, .none, rfl, by wtm_at "v_at", hwl, ?_, ?_⟩
    · rw [e1, T.wayF, List.append_nil]
      exact hw.via (by wtm_at "v_st")
    · rw [e2, T.wayT]
      exact .nil
  | @node a kk lv rv l r hn tl tr' =>
    have hn0 := hn
    obtain ⟨da, hh', u1, u2, n1, n2, n3⟩ := hn
    wtm_at "v_all"
    by_cases hk : kk = key
    · rw [show decide (kk ≠ key) = false from decide_eq_false (fun z => z hk)]
      wtm_at "v_all"
      rename St _ _ _ _ _ => S
      obtain ⟨V2, S, hv2, hwl⟩ := S.seal2
      refine k _ _ _ _ S.ret ⟨_, wl, ys, .ref a, rfl, by wtm_at "v_at", hwl, ?_, ?_⟩
      · rw [e1, T.wayF, if_pos hk, List.append_nil]
        exact hw.via (by wtm_at "v_st")
      · rw [e2, T.wayT, if_pos hk]
        exact .node (hn0.keeps (by wtm_at "v_st")) (tl.via (by wtm_at "v_st")) (tr'.via (by wtm_at "v_st"))
    · rw [show decide (kk ≠ key) = true from decide_eq_true hk]
      simp only [T.high] at hl
      wtm_at "v_all"
      by_cases hlt : key < kk
      · rw [show decide (key < kk) = true from decide_eq_true hlt]
        wtm_at "v_all"
        rename St _ _ _ _ _ => S
        refine WEnd.next S (n' := l.high) (by simp only [T.high]; omega) (by wtm_at "v_st") ⟨wl, _, fs ++ [.L kk r], _, l, rfl, rfl, by simp only [List.length_append, List.length_cons, List.length_nil]; omega, m1, rfl, m3, (hw.via (by wtm_at "v_st")).snoc ?_, tl.via (by wtm_at "v_st"), ?_, ?_⟩
        · exact ⟨_, a, _, lv, rv, _, rfl, by wtm_at "v_at", hn0.keeps (by wtm_at "v_st"), tr'.via (by wtm_at "v_st")⟩
        · rw [e1, T.wayF, if_neg hk, if_pos hlt, List.append_assoc]; rfl
        · rw [e2, T.wayT, if_neg hk, if_pos hlt]
      · rw [show decide (key < kk) = false from decide_eq_false hlt]
        wtm_at "v_all"
        rename St _ _ _ _ _ => S
        refine WEnd.next S (n' := r.high) (by simp only [T.high]; omega) (by wtm_at "v_st") ⟨wl, _, fs ++ [.R l kk], _, r, rfl, rfl, by simp only [List.length_append, List.length_cons, List.length_nil]; omega, m1, rfl, m3, (hw.via (by wtm_at "v_st")).snoc ?_, tr'.via (by wtm_at "v_st"), ?_, ?_⟩
        · exact ⟨_, a, _, lv, rv, _, rfl, by wtm_at "v_at", hn0.keeps (by wtm_at "v_st"), tl.via (by wtm_at "v_st")⟩
        · rw [e1, T.wayF, if_neg hk, if_neg hlt, List.append_assoc]; rfl
        · rw [e2, T.wayT, if_neg hk, if_neg hlt]
theorem WayAll.get {V : Heap} {kd : Addr} {ys : List Value} {fs : List Fr1} (x : WayAll w prog V kd ys fs) : ∀ {i : Nat} {y : Value}, ys[i]? = some y → ∃ f, fs[i]? = some f ∧ WayItem w prog V kd y f := by
  induction x with
  | nil => intro i y h; simp at h
  | @cons y' f ys fs h _ ih =>
    intro i y hi
    cases i with
    | zero => simp at hi; subst hi; exact ⟨f, rfl, h⟩
    | succ i => simp at hi; obtain ⟨f', e, q⟩ := ih hi; exact ⟨f', by simpa using e, q⟩
theorem WayAll.append {V : Heap} {kd : Addr} {ys zs : List Value} {fs gs : List Fr1} (x : WayAll w prog V kd ys fs) (y : WayAll w prog V kd zs gs) : WayAll w prog V kd (ys ++ zs) (fs ++ gs) := by
  induction x with
  | nil => exact y
  | cons h _ ih => exact .cons h ih
theorem WayAll.rev {V : Heap} {kd : Addr} {ys : List Value} {fs : List Fr1} (x : WayAll w prog V kd ys fs) : WayAll w prog V kd ys.reverse fs.reverse := by
  induction x with
  | nil => exact .nil
  | cons h _ ih => rw [List.reverse_cons, List.reverse_cons]; exact ih.append (.cons h .nil)
theorem WayAll.refs {V : Heap} {kd : Addr} {ys : List Value} {fs : List Fr1} (x : WayAll w prog V kd ys fs) : ∀ y ∈ ys, ∃ a, y = .ref a := by
  induction x with
  | nil => exact fun _ h => nomatch h
  | @cons y' f ys fs h _ ih =>
    intro y hy
    rcases List.mem_cons.mp hy with rfl | hy
    · cases f with
      | L _ _ => obtain ⟨tp, _, _, _, _, _, e, _⟩ := h; exact ⟨tp, e⟩
      | R _ _ => obtain ⟨tp, _, _, _, _, _, e, _⟩ := h; exact ⟨tp, e⟩
    · exact ih y hy
theorem src_listT {A : Around} {h₀ W V : Heap} {elts : List Expr} {kk : Nat} {pos : Pos} {it l : Addr} {xs : List Value} (hl : At V l (isLw xs)) (hh : A.handled = none) (hr : ∀ y ∈ xs, ∃ a, y = .ref a) :
    Src prog w A (.Tuple elts kk pos) h₀ W it (fun i => [(it, isLI l i)]) xs.length (fun i x V' V'' => xs[i]? = some x ∧ V'' = V') V where
  next := fun i L V' m own h g d t os Q hi hv S k => by
    have hx : xs.toArray[i]? = some xs[i] := by simp [hi]
    obtain ⟨a, ha⟩ := hr xs[i] (List.getElem_mem hi)
    refine wpAny_pyNext_list_item (li_at.mpr (S.get (.tail _ (.head _)))) (list_at.mpr (S.view (hl.keeps hv))) hx fun h' q s => ?_
    rw [ha]
    exact wpAny_letOwnedTupleGo_listiter q (ha ▸ k _ V' h' _ (S.upd (.tail .head) s (li_at.mp q)) (stays_refl _) ⟨by simp [hi], rfl⟩)
  done := fun L V' m own h g d t os Q hv S k => by
    refine wpAny_pyNext_list_end hh (li_at.mpr (S.get (.tail _ (.head _)))) (list_at.mpr (S.view (hl.keeps hv))) (by simp) fun h' q => ?_
    exact k h' _ (S.forget q)
  self := fun L V' m own h g d t os Q E hv S k => (Walks.list hh it l (by
      have z := S.has _ (.tail _ (.head _))
      rintro rfl
      obtain ⟨o, e, _⟩ := hl.keeps hv
      rw [z.2.1] at e; cases e) xs.toArray).self 0 _ _ _ ⟨li_at.mpr (S.get (.tail _ (.head _))), list_at.mpr (S.view (hl.keeps hv))⟩ k
def upBy (gs : List Fr1) (t : T) : T := gs.foldl (fun t f => f.fill t) t
theorem up_spec {kd wl : Addr} {ys : List Value} {fs : List Fr1} {tr : T} {A : Around} {V h : Heap} {v : Value} (X : WF w.params mg mb V) (le : V.StaysIn h) (R : Room A 100) (K : KD V kd) (hl : At V wl (isL ys)) (hw : WayAll w prog V kd ys fs) (hz : ys.length ≤ 1000) (ht : Tree w prog V kd v tr) :
    Tell prog w A (.ref 524) [.ref wl, v] [] V h fun r V' => Tree w prog V' kd r (upBy fs.reverse tr) := by
  intro g d t os Q E k
  refine c_def le X (by k_is) (by k_is) R.depth (BindsTo.of_eq rfl) (by rfl) ?_
  intro L h t S
  have hdh := R.hd
  refine x_cons (x_for ?_)
  wtm_at "v_all"
  rename St _ _ _ _ _ => S
  rw [show (slicePick ys.toArray none none (some (-1))).toList = ys.reverse from by rw [krv_pick]] at S
  obtain ⟨V1, S, hv1, hr⟩ := S.seal2
  refine it_list S (S.view hr.weak) ?_
  clear S
  intro it h S
  refine f_src (its := fun i => [(it, isLI _ i)]) (own := []) S (src_listT hr.weak hdh (fun y hy => hw.refs y (List.mem_reverse.mp hy))) (Inv := fun i V' m own => own = [] ∧ ∃ fv, m "fresh" = some fv ∧ Tree w prog V' kd fv (upBy (fs.reverse.take i) tr)) ⟨rfl, _, rfl, ht.via (by wtm_at "v_st")⟩ ?_ ?_
  · clear S
    rintro i x V' V'' m own h t hi' hv ⟨rfl, fv, m1, htr⟩ hv' ⟨hx, rfl⟩ S
    clear hv'
    dsimp only [List.cons_append, List.nil_append] at S
    obtain ⟨f, hf, hi⟩ := (hw.rev).get hx
    have tk : upBy (fs.reverse.take (i + 1)) tr = f.fill (upBy (fs.reverse.take i) tr) := by
      rw [upBy, upBy, List.take_add_one, hf, List.foldl_append]; rfl
    cases f with
    | L kk r =>
      obtain ⟨tp, a, u, lv, rv, n, rfl, p, q, tr'⟩ := hi
      wtm_at "v_all"
      rename St _ _ _ _ _ => S
      refine c_tell S (evolve_spec (ex := [("left", fv)]) (key' := kk) (uk := 0) (by wtm_at "v_wf") S.le (by wtm_at "v_rm") (KD.via (by wtm_at "v_st") K) (q.keeps (by wtm_at "v_st")) (.inl ⟨_, rfl⟩) (fun _ => rfl) (fun _ => rfl) (fun _ => rfl) htr (tr'.via (by wtm_at "v_st"))) ?_
      clear S
      rintro v V3 h3 t3 S hv3 ⟨b, rfl, hb⟩
      wtm_at "v_all"
      rename St _ _ _ _ _ => S
      exact TurnS.next S (by wtm_at "v_st") ⟨rfl, _, rfl, by rw [tk]; exact hb⟩
    | R l kk =>
      obtain ⟨tp, a, u, lv, rv, n, rfl, p, q, tl'⟩ := hi
      wtm_at "v_all"
      rename St _ _ _ _ _ => S
      refine c_tell S (evolve_spec (ex := [("right", fv)]) (key' := kk) (uk := 0) (by wtm_at "v_wf") S.le (by wtm_at "v_rm") (KD.via (by wtm_at "v_st") K) (q.keeps (by wtm_at "v_st")) (.inr (.inl ⟨_, rfl⟩)) (fun _ => rfl) (fun _ => rfl) (fun _ => rfl) (tl'.via (by wtm_at "v_st")) htr) ?_
      clear S
      rintro v V3 h3 t3 S hv3 ⟨b, rfl, hb⟩
      wtm_at "v_all"
      rename St _ _ _ _ _ => S
      exact TurnS.next S (by wtm_at "v_st") ⟨rfl, _, rfl, by rw [tk]; exact hb⟩
  · clear S
    rintro V2 m own h t hv2 ⟨rfl, fv, m1, htr⟩ S
    rw [show fs.reverse.take ys.reverse.length = fs.reverse from List.take_of_length_le (by rw [List.length_reverse, List.length_reverse, hw.len]; exact Nat.le_refl _)] at htr
    wtm_at "v_all"
    rename St _ _ _ _ _ => S
    exact k _ _ _ _ S.ret htr
def T.put1 (key : Int) (tr : T) : T := if tr.wayT key = .nil then upBy (tr.wayF key).reverse (.node .nil key .nil) else tr
theorem put_spec {kd : Addr} (tr : T) {A : Around} {V h : Heap} {v : Value} {key : Int} {u : Tok} (X : WF w.params mg mb V) (le : V.StaysIn h) (R : Room A 120) (K : KD V kd) (hh : tr.high ≤ 1000) (ht : Tree w prog V kd v tr) :
    Tell prog w A (.ref 538) [.ref kd, v, .int key u] [] V h fun r V' => Tree w prog V' kd r (tr.put1 key) := by
  intro g d t os Q E k
  refine c_def le X (by k_is) (by k_is) R.depth (BindsTo.of_eq rfl) (by rfl) ?_
  intro L h t S
  have hdh := R.hd
  wtm_at "v_all"
  rename St _ _ _ _ _ => S
  refine c_tell S (way_spec tr (by wtm_at "v_wf") S.le (by wtm_at "v_rm") ht hh) ?_
  clear S
  rintro v' V1 h1 t1 S hv1 ⟨tp, wl, ys, hv, rfl, htp, hwl, hw, hsub⟩
  generalize hsb : tr.wayT key = sub at hsub
  have wlen : ys.length ≤ 1000 := by rw [hw.len]; exact Nat.le_trans (T.wayF_len key tr) hh
  cases hsub with
  | node hn tl tr' =>
    wtm_at "v_all"
    rename St _ _ _ _ _ => S
    refine k _ _ _ _ S.ret ?_
    show Tree w prog _ kd v (tr.put1 key)
    rw [T.put1, if_neg (by rw [hsb]; simp)]
    exact ht.via (by wtm_at "v_st")
  | nil =>
    wtm_at "v_all"
    rename St _ _ _ _ _ => S
    obtain ⟨V2, S, hv2, hnd⟩ := S.seal2
    refine c_tell S (called_spec (by wtm_at "v_wf") S.le (by wtm_at "v_rm") (KD.via (by wtm_at "v_st") K) (by wtm_at "v_at") hnd (by with_reducible assumption)) ?_
    clear S
    rintro v' V3 h3 t3 S hv3 ⟨b, rfl, hb⟩
    wtm_at "v_all"
    rename St _ _ _ _ _ => S
    refine c_tell S (up_spec (by wtm_at "v_wf") S.le (by wtm_at "v_rm") (KD.via (by wtm_at "v_st") K) (by wtm_at "v_at") (hw.via (by wtm_at "v_st")) wlen hb) ?_
    clear S
    rintro v' V4 h4 t4 S hv4 ht4
    wtm_at "v_all"
    rename St _ _ _ _ _ => S
    refine k _ _ _ _ S.ret ?_
    show Tree w prog _ kd _ (tr.put1 key)
    rw [T.put1, if_pos hsb]
    exact ht4
end
section
variable {prog : Program} {w : World} {mg mb : Str → Option Value}
def T.lowF : T → List Fr1
  | .nil => []
  | .node .nil _ _ => []
  | .node (.node a b c) k r => .L k r :: (T.node a b c).lowF
def T.leastK : T → Int
  | .nil => 0
  | .node .nil k _ => k
  | .node (.node a b c) _ _ => (T.node a b c).leastK
def T.leastR : T → T
  | .nil => .nil
  | .node .nil _ r => r
  | .node (.node a b c) _ _ => (T.node a b c).leastR
def T.out1 (key : Int) (tr : T) : T := match tr.wayT key with
  | .nil => tr
  | .node l _ r => if l = .nil then upBy (tr.wayF key).reverse r else if r = .nil then upBy (tr.wayF key).reverse l else upBy (tr.wayF key).reverse (.node l r.leastK (upBy r.lowF.reverse r.leastR))
theorem T.wayT_high (key : Int) (tr : T) : (tr.wayT key).high ≤ tr.high := by
  induction tr with
  | nil => exact Nat.le_refl _
  | node l k r il ir =>
    unfold T.wayT
    split
    · exact Nat.le_refl _
    · simp only [T.high]; split <;> omega
theorem out_spec {kd : Addr} (tr : T) {A : Around} {V h : Heap} {v : Value} {key : Int} {u : Tok} (X : WF w.params mg mb V) (le : V.StaysIn h) (R : Room A 120) (K : KD V kd) (hh : tr.high ≤ 1000) (ht : Tree w prog V kd v tr) :
    Tell prog w A (.ref 545) [v, .int key u] [] V h fun r V' => Tree w prog V' kd r (tr.out1 key) := by
  intro g d t os Q E k
  refine c_def le X (by k_is) (by k_is) R.depth (BindsTo.of_eq rfl) (by rfl) ?_
  intro L h t S
  have hdh := R.hd
  wtm_at "v_all"
  rename St _ _ _ _ _ => S
  refine c_tell S (way_spec tr (by wtm_at "v_wf") S.le (by wtm_at "v_rm") ht hh) ?_
  clear S
  rintro v' V1 h1 t1 S hv1 ⟨tp, wl, ys, hv, rfl, htp, hwl, hw, hsub⟩
  have sh := T.wayT_high key tr
  generalize hsb : tr.wayT key = sub at hsub sh
  have wlen : ys.length ≤ 1000 := by rw [hw.len]; exact Nat.le_trans (T.wayF_len key tr) hh
  cases hsub with
  | nil =>
    wtm_at "v_all"
    rename St _ _ _ _ _ => S
    refine k _ _ _ _ S.ret ?_
    show Tree w prog _ kd v (tr.out1 key)
    rw [T.out1, hsb]
    exact ht.via (by wtm_at "v_st")
  | @node a kk lv rv l r hn tl tr' =>
    have hn0 := hn
    obtain ⟨da, hh', u1, u2, n1, n2, n3⟩ := hn
    have tl0 := tl
    have tr0 := tr'
    cases tl with
    | nil =>
      wtm_at "v_all"
      rename St _ _ _ _ _ => S
      refine c_tell S (up_spec (by wtm_at "v_wf") S.le (by wtm_at "v_rm") (KD.via (by wtm_at "v_st") K) (by wtm_at "v_at") (hw.via (by wtm_at "v_st")) wlen (tr0.via (by wtm_at "v_st"))) ?_
      clear S
      rintro v' V4 h4 t4 S hv4 ht4
      wtm_at "v_all"
      rename St _ _ _ _ _ => S
      refine k _ _ _ _ S.ret ?_
      show Tree w prog _ kd _ (tr.out1 key)
      rw [T.out1, hsb]
      simpa using ht4
    | @node b1 k1 _ _ l1 r1 hnl tl1 tl2 =>
      cases tr' with
      | nil =>
        wtm_at "v_all"
        rename St _ _ _ _ _ => S
        refine c_tell S (up_spec (by wtm_at "v_wf") S.le (by wtm_at "v_rm") (KD.via (by wtm_at "v_st") K) (by wtm_at "v_at") (hw.via (by wtm_at "v_st")) wlen (tl0.via (by wtm_at "v_st"))) ?_
        clear S
        rintro v' V4 h4 t4 S hv4 ht4
        wtm_at "v_all"
        rename St _ _ _ _ _ => S
        refine k _ _ _ _ S.ret ?_
        show Tree w prog _ kd _ (tr.out1 key)
        rw [T.out1, hsb]
        simpa using ht4
      | @node b2 k2 _ _ l2 r2 hnr tr1 tr2 =>
        wtm_at "v_all"
        rename St _ _ _ _ _ => S
        have trr := tr0
        have hhr : (T.node l2 k2 r2).high ≤ 1000 := by simp only [T.high] at sh ⊢; omega
        refine x_while S (Inv := fun n V' m own => ∃ lo zs fs b sub, own = [(lo, isL zs)] ∧ n = sub.high ∧ sub ≠ .nil ∧ zs.length + sub.high ≤ 1000 ∧ m "low" = some (.ref lo) ∧ m "least" = some (.ref b) ∧ m "way" = some (.ref wl) ∧ m "here" = some (.ref a) ∧ WayAll w prog V' kd zs fs ∧ Tree w prog V' kd (.ref b) sub ∧
          (T.node l2 k2 r2).lowF = fs ++ sub.lowF ∧ (T.node l2 k2 r2).leastK = sub.leastK ∧ (T.node l2 k2 r2).leastR = sub.leastR) _ ⟨_, _, [], _, _, rfl, rfl, by simp, by simpa using hhr, rfl, rfl, rfl, rfl, .nil, tr0.via (by wtm_at "v_st"), rfl, rfl, rfl⟩ ?_
        clear S
        rintro n V' m own h t hv ⟨lo, zs, fs, b, sub, rfl, rfl, hne, hl, m1, m2, m3, m4, hz, htb, e1, e2, e3⟩ S
        cases htb with
        | @node _ k3 _ _ l3 r3 hn3 tl3 tr3 =>
          have hn30 := hn3
          have tl30 := tl3
          obtain ⟨da3, hh3, u3, u4, p1, p2, p3⟩ := hn3
          cases tl3 with
          | nil =>
            wtm_at "v_all"
            rename St _ _ _ _ _ => S
            obtain ⟨V2, S, hv2, hlo⟩ := S.seal2
            have zl : zs.length ≤ 1000 := by omega
            refine c_tell S (up_spec (by wtm_at "v_wf") S.le (by wtm_at "v_rm") (KD.via (by wtm_at "v_st") K) (by wtm_at "v_at") (hz.via (by wtm_at "v_st")) zl (tr3.via (by wtm_at "v_st"))) ?_
            clear S
            rintro v' V4 h4 t4 S hv4 ht4
            wtm_at "v_all"
            rename St _ _ _ _ _ => S
            refine c_tell S (evolve_spec (ex := [("key", .int k3 u3), ("right", v')]) (key' := k3) (uk := u3) (by wtm_at "v_wf") S.le (by wtm_at "v_rm") (KD.via (by wtm_at "v_st") K) (hn0.keeps (by wtm_at "v_st")) (.inr (.inr ⟨_, _, rfl⟩)) (fun _ => rfl) (fun _ => rfl) (fun _ => rfl) (tl0.via (by wtm_at "v_st")) ht4) ?_
            clear S
            rintro v5 V5 h5 t5 S hv5 ⟨b5, rfl, hb5⟩
            wtm_at "v_all"
            rename St _ _ _ _ _ => S
            refine c_tell S (up_spec (by wtm_at "v_wf") S.le (by wtm_at "v_rm") (KD.via (by wtm_at "v_st") K) (by wtm_at "v_at") (hw.via (by wtm_at "v_st")) wlen hb5) ?_
            clear S
            rintro v6 V6 h6 t6 S hv6 ht6
            wtm_at "v_all"
            rename St _ _ _ _ _ => S
            refine k _ _ _ _ S.ret ?_
            show Tree w prog _ kd _ (tr.out1 key)
            rw [T.out1, hsb]
            simp only [T.lowF, List.append_nil] at e1
            simp only [T.leastK] at e2
            simp only [T.leastR] at e3
            simp only [reduceCtorEq, if_false, e1, e2, e3]
            exact ht6
          | @node b4 k4 _ _ l4 r4 hn4 tl4 tr4 =>
            simp only [T.high] at hl
            wtm_at "v_all"
            rename St _ _ _ _ _ => S
            refine WEnd.next S (n' := (T.node l4 k4 r4).high) (by simp only [T.high]; omega) (by wtm_at "v_st") ⟨lo, _, fs ++ [.L k3 r3], b4, .node l4 k4 r4, rfl, rfl, by simp, by simp only [List.length_append, List.length_cons, List.length_nil, T.high]; omega, m1, rfl, m3, m4, (hz.via (by wtm_at "v_st")).snoc ?_, tl30.via (by wtm_at "v_st"), ?_, ?_, ?_⟩
            · exact ⟨_, b, _, _, _, _, rfl, by wtm_at "v_at", hn30.keeps (by wtm_at "v_st"), tr3.via (by wtm_at "v_st")⟩
            · rw [e1, List.append_assoc]; rfl
            · rw [e2]; rfl
            · rw [e3]; rfl
end
section
variable {prog : Program} {w : World} {mg mb : Str → Option Value}
theorem atomic_none {A : Around} {V h : Heap} (X : WF w.params mg mb V) (le : V.StaysIn h) (R : Room A 10) : Tell prog w A (.ref 466) [.none] [] V h fun v _ => v = .bool true := by
  intro g d t os Q E k
  refine c_def le X (by k_is) (by k_is) R.depth (BindsTo.of_eq rfl) (by rfl) ?_
  intro L h t S
  wtm_at "v_all"
  rename St _ _ _ _ _ => S
  exact k _ _ _ _ S.ret rfl
theorem atomic_int {A : Around} {V h : Heap} {i : Int} {u : Tok} (X : WF w.params mg mb V) (le : V.StaysIn h) (R : Room A 10) : Tell prog w A (.ref 466) [.int i u] [] V h fun v _ => v = .bool true := by
  intro g d t os Q E k
  refine c_def le X (by k_is) (by k_is) R.depth (BindsTo.of_eq rfl) (by rfl) ?_
  intro L h t S
  wtm_at "v_all"
  rename St _ _ _ _ _ => S
  exact k _ _ _ _ S.ret rfl
theorem atomic_made {A : Around} {V h : Heap} {a da : Addr} {l : List (Str × Value)} (X : WF w.params mg mb V) (le : V.StaysIn h) (R : Room A 10) (hx : At V a (isI 213 da)) (hm : At V da (isD l)) : Tell prog w A (.ref 466) [.ref a] [] V h fun v _ => v = .bool false := by
  intro g d t os Q E k
  refine c_def le X (by k_is) (by k_is) R.depth (BindsTo.of_eq rfl) (by rfl) ?_
  intro L h t S
  wtm_at "v_all"
  rename St _ _ _ _ _ => S
  exact k _ _ _ _ S.ret rfl
theorem wanted_spec {A : Around} {V h : Heap} {nd : Addr} (X : WF w.params mg mb V) (le : V.StaysIn h) (R : Room A 10) (hn : At V nd (isK w prog [])) (hs : (nd == sysModules) = false) : Tell prog w A (.ref 480) [.none, .ref nd] [] V h fun v _ => v = .none := by
  intro g d t os Q E k
  refine c_def le X (by k_is) (by k_is) R.depth (BindsTo.of_eq rfl) (by rfl) ?_
  intro L h t S
  have hdh := R.hd
  refine x_cons (x_for ?_)
  wtm_at "v_all"
  obtain ⟨ep, hke⟩ := isK_e hn
  rename St _ _ _ _ _ => S
  refine it_keys S (S.view hke) hs ?_
  clear S
  intro it h S
  refine f_src (its := fun i => [(it, isKI nd 0 ep i)]) (own := []) S (src_keys (kvs := []) hke hdh) (Inv := fun _ _ m own => own = [] ∧ m "named" = some (.ref nd) ∧ m "wanted" = some .none) ⟨rfl, rfl, rfl⟩ ?_ ?_
  · intro i x V' V'' m own h t hi
    exact absurd hi (Nat.not_lt_zero _)
  · clear S
    rintro V2 m own h t hv2 ⟨rfl, m1, m2⟩ S
    wtm_at "v_all"
    rename St _ _ _ _ _ => S
    exact k _ _ _ _ S.ret rfl
end
section
variable {prog : Program} {w : World} {A : Around} {E : Value → Shared → Prop} {h₀ W V h : Heap} {own own' : List (Addr × OP)} {g : Array GenState} {d : Drawn} {t : Nat} {os : OsState} {env : Env} {mg mb : Str → Option Value}
theorem St.toSecond {h₀ W V h : Heap} {f p : Addr × OP} {l r : List (Addr × OP)} (S : St h₀ W V (f :: (l ++ p :: r)) h) : St h₀ W V (f :: p :: (l ++ r)) h := S.perm (.cons _ List.perm_middle.symm)
def isC (v : Option Value) : OP := fun o => o.data = .cell v
theorem cell_at {c : Addr} {v : Option Value} : h.IsCell c v ↔ At h c (isC v) := ⟨fun ⟨o, e, p⟩ => ⟨o, e, p⟩, fun ⟨o, e, p⟩ => ⟨o, e, p⟩⟩
theorem e_cell {x : Str} {c : Addr} {pos : Pos} {v : Value} {Q : Value → Shared → Prop} (hc : env.cells.lookup x = some c) (hv : At h c (isC (some v))) (k : Q v ⟨h, g, d, t, os⟩)
    (hl : env.kindOf x = some .cell := by rfl) (hk : env.scope.kind = .function := by rfl) (hd : (x == ("__debug__" : Str)) = false := by decide) : wpAny (model prog w) A (eval (.Name x pos) env) Q E ⟨h, g, d, t, os⟩ :=
  wpAny_Name (wpAny_loadName_cell hk hl hc (cell_at.mpr hv) k) hd
theorem e_free {x : Str} {c : Addr} {pos : Pos} {v : Value} {Q : Value → Shared → Prop} (hc : env.cells.lookup x = some c) (hv : At h c (isC (some v))) (k : Q v ⟨h, g, d, t, os⟩)
    (hl : env.kindOf x = some .free := by rfl) (hk : env.scope.kind = .function := by rfl) (hn : (x == ("__classdict__" : Str)) = false := by decide) (hd : (x == ("__debug__" : Str)) = false := by decide) : wpAny (model prog w) A (eval (.Name x pos) env) Q E ⟨h, g, d, t, os⟩ :=
  wpAny_Name (wpAny_loadName_free hk hl hc (cell_at.mpr hv) k hn) hd
theorem x_cstore {x : Str} {c : Addr} {v₀ : Option Value} {v : Value} {Q : Unit → Shared → Prop} (S : St h₀ W V own h) (hc : env.cells.lookup x = some c) (u : Upd1 c (isC v₀) (isC (some v)) own own') (k : ∀ h', St h₀ W V own' h' → Q () ⟨h', g, d, t, os⟩)
    (hl : env.kindOf x = some .cell := by rfl) (hk : env.scope.kind = .function := by rfl) : wpAny (model prog w) A (storeName env x v) Q E ⟨h, g, d, t, os⟩ :=
  wpAny_storeName_cell hk hl hc (cell_at.mpr (S.get u.mem)) fun h' q s => k h' (S.upd u s (cell_at.mp q))
def cellOwn (cm : Str → Option Value) (cs : List (Str × Addr)) : List (Addr × OP) := cs.map fun p => (p.2, isC (cm p.1))
theorem St.many {l : List (Addr × OP)} {h' : Heap} (S : St h₀ W V own h) (k : h.StaysIn h') (x : ∀ p ∈ l, At h' p.1 p.2) (z : ∀ p ∈ l, h.get? p.1 = none) (nd : (l.map (·.1)).Nodup) : St h₀ W V (l ++ own) h' := by
  refine ⟨stays_trans S.ext k, S.sub, S.old, stays_trans S.le k, fun p hp => ?_, ?_⟩
  · rcases List.mem_append.mp hp with hp | hp
    · refine ⟨x p hp, ?_, ?_⟩
      · cases e : V.get? p.1 with
        | none => rfl
        | some o => have := S.le _ _ e; rw [z p hp] at this; cases this
      · cases e : h₀.get? p.1 with
        | none => rfl
        | some o => have := S.ext _ _ e; rw [z p hp] at this; cases this
    · exact ⟨(S.has p hp).1.keeps k, (S.has p hp).2⟩
  · rw [List.map_append, List.nodup_append]
    refine ⟨nd, S.nd, ?_⟩
    intro a ha b hb e
    obtain ⟨p, hp, ep⟩ := List.mem_map.mp ha
    obtain ⟨q, hq, eq⟩ := List.mem_map.mp hb
    obtain ⟨o, eo, _⟩ := (S.has q hq).1
    have := z p hp
    rw [ep, e, ← eq, eo] at this
    cases this
theorem look_of {α β : Type} [BEq α] [LawfulBEq α] : ∀ {l : List (α × β)} {p : α × β}, (l.map (·.1)).Nodup → p ∈ l → l.lookup p.1 = some p.2
  | [], _, _, h => nomatch h
  | q :: r, p, nd, h => by
    simp only [List.map_cons, List.nodup_cons] at nd
    rcases List.mem_cons.mp h with rfl | h2
    · obtain ⟨a, b⟩ := p
      rw [List.lookup_cons, beq_self_eq_true]
    · obtain ⟨a, b⟩ := q
      have ne : (p.1 == a) = false := beq_eq_false_iff_ne.mpr fun e => nd.1 (List.mem_map.mpr ⟨p, h2, e⟩)
      rw [List.lookup_cons, ne]
      exact look_of nd.2 h2
def BoundC (prog : Program) (w : World) (A : Around) (h₀ W : Heap) (g : Array GenState) (d : Drawn) (os : OsState) (qual : Str) (scope : Scope) (f : Addr) (cdv : Value) (body : List Stmt) (Q : Value → Shared → Prop) (binds : List (Str × Value)) (s : Shared) : Prop :=
  ∃ V own h t, s = ⟨h, g, d, t, os⟩ ∧ St h₀ W V own h ∧ W.StaysIn V ∧ (∀ n, ∀ x ∈ binds, scope.names.lookup x.1 = some .local ∨ (scope.names.lookup x.1 = some .cell ∧ ((cellsFrom n scope.names []).lookup x.1).isSome = true)) ∧ (∀ n, ((cellsFrom n scope.names []).map (·.1)).Nodup) ∧
    ∀ L h₁ t', St h₀ W V ((L, isNs (bindL (envX qual scope L f cdv (cellsFrom (L + 1) scope.names [])).kindOf binds fun _ => none)) :: (cellOwn (bindC (envX qual scope L f cdv (cellsFrom (L + 1) scope.names [])).kindOf binds fun _ => none) (cellsFrom (L + 1) scope.names []) ++ own)) h₁ →
      wpAny (model prog w) (A.deeper (envX qual scope L f cdv (cellsFrom (L + 1) scope.names []))) (execs body (envX qual scope L f cdv (cellsFrom (L + 1) scope.names []))) (Done Q) (fun _ _ => False) ⟨h₁, g, d, t', os⟩
theorem c_bindc {name qual : Str} {params : Arguments} {body : List Stmt} {scope : Scope} {dV kV doc pm cdv ct oc : Value} {an od : Option Addr} {osl : Array (Option Value)} {f : Addr} {args : List Value} {kw : List (Str × Value)} {R : Result → Shared → Prop} {Q : Value → Shared → Prop}
    (le : V.StaysIn h) (X : WF w.params mg mb V) (ho : (hd.heap_39 w.params).lookup f = some ⟨oc, od, .func (fnX name qual params body scope [] dV kV doc pm an cdv ct), osl⟩) (hcd : codeIn (hd.heap_39 w.params) cdv qual = true) (hroom : A.depth < recursionLimit)
    (hR : ∀ v s, Q v s → R (.ok (.ret v)) s)
    (k : St h V V [] h → wpAny (model prog w) A.in1 (bindArgs (fnX name qual params body scope [] dV kV doc pm an cdv ct) ⟨args, kw⟩) (BoundC prog w A h V g d os qual scope f cdv body Q) (fun _ _ => False) ⟨h, g, d, t, os⟩)
    (hco : scope.isCoroutine = false := by rfl) (hgen : scope.isGenerator = false := by rfl) (hk : scope.kind = .function := by rfl) :
    codeAny (model prog w) A (.call (.ref f) ⟨args, kw⟩) R ⟨h, g, d, t, os⟩ := by
  have XK := X.K.keeps le
  refine codeAny_call_function (fd := fnX name qual params body scope [] dV kV doc pm an cdv ct) (body := body) hroom (XK _ _ ho) rfl hco hgen rfl (codeRec_of XK hcd) ?_
  refine wpAny_mono (k (St.start le)) (fun binds s q => ?_) fun _ _ z => z.elim
  obtain ⟨V', own', h', t', rfl, S, hv, hkind, hnd, q⟩ := q
  refine wpAny_newFunctionEnv_cells hk (hkind _) fun env he s' x => ?_
  subst he
  refine ⟨(X.nl.keeps hv).keeps (stays_trans S.le x.toInCall.keep), codeAny_func ?_⟩
  obtain ⟨h₁, t₁, rfl⟩ := x.toInCall.same
  refine wpAny_mono (q h'.objs.size h₁ t₁ (S.many (l := (_, _) :: cellOwn _ _) x.toInCall.keep ?_ ?_ ?_)) (fun fl s' q => ?_) fun _ _ q => q.elim
  · intro p hp
    rcases List.mem_cons.mp hp with rfl | hp
    · exact ns_at.mp x.toInCall.ns
    · obtain ⟨c, hc, rfl⟩ := List.mem_map.mp hp
      exact cell_at.mp (x.cell _ _ (look_of (hnd _) hc))
  · intro p hp
    rcases List.mem_cons.mp hp with rfl | hp
    · exact get_top h'
    · obtain ⟨c, hc, rfl⟩ := List.mem_map.mp hp
      exact Heap.get?_none_of_le (Nat.le_of_lt (x.above _ _ hc))
  · rw [List.map_cons, List.nodup_cons]
    refine ⟨fun hm => ?_, ?_⟩
    · obtain ⟨p, hp, e⟩ := List.mem_map.mp hm
      obtain ⟨c, hc, rfl⟩ := List.mem_map.mp hp
      have z := x.above _ _ hc
      exact absurd e (Nat.ne_of_gt z)
    · rw [cellOwn, List.map_map]
      exact List.pairwise_map.mpr x.apart
  · cases fl <;> exact hR _ _ q
end
local macro_rules | `(tactic| wtm_at "v_name") => `(tactic| first
  | ((with_reducible rename St _ _ _ _ _ => S'); refine e_loc S' (by first | rfl | assumption) ?_)
  | refine e_cell (by rfl) (by wtm_at "v_at") ?_
  | refine e_free (by rfl) (by wtm_at "v_at") ?_
  | ((with_reducible rename St _ _ _ _ _ => S'); first | refine e_glob S' (by wtm_at "v_wf") (by wtm_at "v_gl") ?_ | refine e_bui S' (by wtm_at "v_wf") (by wtm_at "v_gb") (by boot_by_name) ?_))
local macro_rules | `(tactic| wtm_at "v_unit") => `(tactic| ((with_reducible show wpAny _ _ (storeName _ _ _) _ _ _); (with_reducible rename St _ _ _ _ _ => S'); first | (refine x_store S' ?_; clear S'; intro h t S') | (refine x_cstore S' (by rfl) (by wtm_at "v_upd") ?_; clear S'; intro h S')))
section
variable {prog : Program} {w : World} {mg mb : Str → Option Value}
theorem fields_made {A : Around} {V h : Heap} {a da kd kdd : Addr} {hv : Value} {l : List (Str × Value)} {ta : Addr} (X : WF w.params mg mb V) (le : V.StaysIn h) (R : Room A 12) (ha : At V a (isI 213 da)) (hda : At V da (isD [("kind", .ref kd), ("held", hv)])) (hx : At V kd (isI 142 kdd)) (hm : At V kdd (isD l)) (hl : l.lookup ("attrs" : Str) = some (.ref ta)) :
    Tell prog w A (.ref 257) [.ref a] [] V h fun v _ => v = .ref ta := by
  intro g d t os Q E k
  refine c_def le X (by k_is) (by k_is) R.depth (BindsTo.of_eq rfl) (by rfl) ?_
  intro L h t S
  wtm_at "v_all"
  rename St _ _ _ _ _ => S
  refine c_tell S (fields_spec (by wtm_at "v_wf") S.le (by wtm_at "v_rm") (by wtm_at "v_at") (by wtm_at "v_at") hl) ?_
  clear S
  rintro v V2 h2 t2 S hv2 rfl
  wtm_at "v_all"
  rename St _ _ _ _ _ => S
  exact k _ _ _ _ S.ret rfl
def AsKw (kw : List (Str × Value)) : Prop := kw = [] ∨ kw = [(("recurse" : Str), .bool true), ("wanted", .none), ("dict_factory", .type "dict"), ("retain_collection_types", .bool false), ("value_serializer", .none)]
def MidA (prog : Program) (w : World) (h₀ W : Heap) (g : Array GenState) (d : Drawn) (os : OsState) (a : Value) (binds : List (Str × Value)) (s : Shared) : Prop :=
  ∃ Nd h t, binds = [(("inst" : Str), a), ("recurse", .bool true), ("wanted", .none), ("dict_factory", .type "dict"), ("retain_collection_types", .bool false), ("value_serializer", .none), ("named", .ref Nd)] ∧ s = ⟨h, g, d, t, os⟩ ∧ (Nd == sysModules) = false ∧ St h₀ W W [(Nd, isK w prog [])] h
def tabAt (k : Int) (u1 : Tok) (vl vr : Value) (n : Int) (u2 : Tok) : Nat → List (Str × Value)
  | 0 => []
  | 1 => [("key", .int k u1)]
  | 2 => [("key", .int k u1), ("left", vl)]
  | 3 => [("key", .int k u1), ("left", vl), ("right", vr)]
  | _ => [("key", .int k u1), ("left", vl), ("right", vr), ("size", .int n u2)]
theorem asdict_spec {kd : Addr} (tr : T) : ∀ {A : Around} {V h : Heap} {a : Addr} {kw : List (Str × Value)}, WF w.params mg mb V → V.StaysIn h → Room A (tr.high + 20) → KD V kd → AsKw kw → Tree w prog V kd (.ref a) tr → Tell prog w A (.ref 486) [.ref a] kw V h fun v V' => Tab w prog V' v tr := by
  induction tr with
  | nil => intro A V h a kw X le R K hkw ht; cases ht
  | node l kk r il ir =>
    intro A V h a kw X le R K hkw ht
    obtain ⟨kdd, mr, ta, le', lo, a0, a1, a2, a3, d0, d1, d2, d3, fa, fd, uu, u0, v0, u1, v1, u2, v2, u3, v3, k1, k2, k3, k4, H⟩ := K.open4
    cases ht with
    | @node _ _ lv rv _ _ hn tl tr' =>
    obtain ⟨da, hh, w1, w2, n1, n2, n3⟩ := hn
    simp only [T.high] at R
    intro g d t os Q E k
    refine wpAny_call (c_bindc (Q := Q) le X (by k_is) (by k_is) R.depth (fun _ _ q => q) fun S0 => ?_)
    refine wpAny_mono (Q := MidA prog w h V g d os (.ref a)) ?_ (fun binds s hm => ?_) fun _ _ z => z
    · rcases hkw with rfl | rfl
      · refine b_kwargs (ex := []) S0 X (X.K.keeps le) (by rfl) (by rfl) (fun _ => rfl) ?_
        intro Nd h2 t2 hs S2
        exact ⟨Nd, h2, t2, rfl, rfl, hs, S2⟩
      · refine b_kwargs (ex := []) S0 X (X.K.keeps le) (by rfl) (by rfl) (fun _ => rfl) ?_
        intro Nd h2 t2 hs S2
        exact ⟨Nd, h2, t2, rfl, rfl, hs, S2⟩
    · obtain ⟨Nd, h1, t1, rfl, rfl, hs, S1⟩ := hm
      refine ⟨_, _, _, _, rfl, S1, stays_refl _, ?_, ?_, fun L h₁ t' S => ?_⟩
      · intro n x hx
        simp only [List.mem_cons, List.not_mem_nil, or_false] at hx
        rcases hx with rfl | rfl | rfl | rfl | rfl | rfl | rfl <;> first | exact .inl (by rfl) | exact .inr ⟨by rfl, by rfl⟩
      · intro n
        exact (by decide : List.Nodup (["df", "value_serializer", "retain_collection_types", "dict_factory", "wanted"] : List Str))
      change St _ _ _ [(L, isNs _), (L+1+1+1+1+1, isC _), (L+1+1+1+1, isC _), (L+1+1+1, isC _), (L+1+1, isC _), (L+1, isC _), (Nd, isK w prog [])] h₁ at S
      obtain ⟨V1, S, hv1, hNd⟩ := (St.toSecond (l := [(L+1+1+1+1+1, isC _), (L+1+1+1+1, isC _), (L+1+1+1, isC _), (L+1+1, isC _), (L+1, isC _)]) (r := []) S).seal2
      change St _ _ _ [(L, isNs _), (L+1+1+1+1+1, isC _), (L+1+1+1+1, isC _), (L+1+1+1, isC _), (L+1+1, isC _), (L+1, isC _)] h₁ at S
      have hdh := R.hd
      wtm_at "v_all"
      rename St _ _ _ _ _ => S
      refine c_tell S (fields_made (by wtm_at "v_wf") S.le (by wtm_at "v_rm") (by wtm_at "v_at") (by wtm_at "v_at") (by wtm_at "v_at") (by wtm_at "v_at") (by rfl)) ?_
      clear S
      rintro v V2 h2 t2 S hv2 rfl
      wtm_at "v_all"
      rename St _ _ _ _ _ => S
      refine c_tell S (wanted_spec (by wtm_at "v_wf") S.le (by wtm_at "v_rm") (by wtm_at "v_at") hs) ?_
      clear S
      rintro v V3 h3 t3 S hv3 rfl
      wtm_at "v_all"
      refine x_for ?_
      wtm_at "v_all"
      rename St _ _ _ _ _ => S
      have ta3 : At V3 ta (isT [.ref a0, .ref a1, .ref a2, .ref a3]) := H.ta.keeps (by wtm_at "v_st")
      obtain ⟨hta, i0, i1, i2, i3, c0, c1, c2, c3, fi, fc⟩ := H
      refine f_tup S ta3 R.hd (Inv := fun i V' m own => ∃ rvd vl vr, own = (rvd, isK w prog (tabAt kk w1 vl vr ((T.node l kk r).size) w2 i)) :: [(L+1+1+1+1+1, isC none), (L+1+1+1+1, isC (some .none)), (L+1+1+1, isC (some (.bool false))), (L+1+1, isC (some (.type "dict"))), (L+1, isC (some .none))] ∧ (2 ≤ i → Tab w prog V' vl l) ∧ (3 ≤ i → Tab w prog V' vr r) ∧ m "inst" = some (.ref a) ∧ m "rv" = some (.ref rvd) ∧ m "recurse" = some (.bool true) ∧ (rvd == sysModules) = false)
        ⟨_, .none, .none, rfl, fun z => absurd z (by decide), fun z => absurd z (by decide), rfl, rfl, rfl, by assumption⟩ ?_ ?_
      · clear S
        rintro it i y V' m own h t hxi hv ⟨rvd, vl, vr, rfl, hvl, hvr, m1, m2, m3, hrs⟩ S
        rcases i with _ | _ | _ | _ | i
        · simp only [List.getElem?_cons_zero, Option.some.injEq] at hxi
          subst hxi
          change St _ _ _ ((L, isNs m) :: (it, isTI ta 1) :: (rvd, isK w prog ([])) :: [(L+1+1+1+1+1, isC none), (L+1+1+1+1, isC (some .none)), (L+1+1+1, isC (some (.bool false))), (L+1+1, isC (some (.type "dict"))), (L+1, isC (some .none))]) h at S
          wtm_at "v_all"
          rename St _ _ _ _ _ => S
          refine c_tell S (atomic_int (by wtm_at "v_wf") S.le (by wtm_at "v_rm")) ?_
          clear S
          rintro v V4 h4 t4 S hv4 rfl
          wtm_at "v_all"
          rename St _ _ _ _ _ => S
          exact Turn.next S (by wtm_at "v_st") ⟨rvd, vl, vr, rfl, fun z => absurd z (by decide), fun z => absurd z (by decide), m1, m2, m3, hrs⟩
        · simp only [List.getElem?_cons_succ, List.getElem?_cons_zero, Option.some.injEq] at hxi
          subst hxi
          change St _ _ _ ((L, isNs m) :: (it, isTI ta 2) :: (rvd, isK w prog ([("key", .int kk w1)])) :: [(L+1+1+1+1+1, isC none), (L+1+1+1+1, isC (some .none)), (L+1+1+1, isC (some (.bool false))), (L+1+1, isC (some (.type "dict"))), (L+1, isC (some .none))]) h at S
          have tt := tl
          cases tl with
          | nil =>
            wtm_at "v_all"
            rename St _ _ _ _ _ => S
            refine c_tell S (atomic_none (by wtm_at "v_wf") S.le (by wtm_at "v_rm")) ?_
            clear S
            rintro v V4 h4 t4 S hv4 rfl
            wtm_at "v_all"
            rename St _ _ _ _ _ => S
            exact Turn.next S (by wtm_at "v_st") ⟨rvd, .none, vr, rfl, fun _ => .nil, fun z => absurd z (by decide), m1, m2, m3, hrs⟩
          | node hns _ _ =>
            obtain ⟨sa, sh, x1, x2, q1, q2, q3⟩ := hns
            wtm_at "v_all"
            rename St _ _ _ _ _ => S
            refine c_tell S (atomic_made (by wtm_at "v_wf") S.le (by wtm_at "v_rm") (by wtm_at "v_at") (by wtm_at "v_at")) ?_
            clear S
            rintro v V4 h4 t4 S hv4 rfl
            wtm_at "v_all"
            rename St _ _ _ _ _ => S
            refine c_tell S (kind_of_spec (by wtm_at "v_wf") S.le (by wtm_at "v_rm") (by wtm_at "v_at") (by wtm_at "v_at")) ?_
            clear S
            rintro v V4' h4 t4 S hv4' rfl
            wtm_at "v_all"
            rename St _ _ _ _ _ => S
            refine c_tell S (has_spec (by wtm_at "v_wf") S.le (by wtm_at "v_rm") (by wtm_at "v_at") (by wtm_at "v_at")) ?_
            clear S
            rintro v V4'' h4 t4 S hv4'' rfl
            wtm_at "v_all"
            rename St _ _ _ _ _ => S
            refine c_tell S (il (by wtm_at "v_wf") S.le (by wtm_at "v_rm") (KD.via (by wtm_at "v_st") K) (.inr rfl) (tt.via (by wtm_at "v_st"))) ?_
            clear S
            rintro v5 V5 h5 t5 S hv5' hv5
            wtm_at "v_all"
            rename St _ _ _ _ _ => S
            exact Turn.next S (by wtm_at "v_st") ⟨rvd, v5, vr, rfl, fun _ => hv5, fun z => absurd z (by decide), m1, m2, m3, hrs⟩
        · simp only [List.getElem?_cons_succ, List.getElem?_cons_zero, Option.some.injEq] at hxi
          subst hxi
          change St _ _ _ ((L, isNs m) :: (it, isTI ta 3) :: (rvd, isK w prog ([("key", .int kk w1), ("left", vl)])) :: [(L+1+1+1+1+1, isC none), (L+1+1+1+1, isC (some .none)), (L+1+1+1, isC (some (.bool false))), (L+1+1, isC (some (.type "dict"))), (L+1, isC (some .none))]) h at S
          have tt := tr'
          cases tr' with
          | nil =>
            wtm_at "v_all"
            rename St _ _ _ _ _ => S
            refine c_tell S (atomic_none (by wtm_at "v_wf") S.le (by wtm_at "v_rm")) ?_
            clear S
            rintro v V4 h4 t4 S hv4 rfl
            wtm_at "v_all"
            rename St _ _ _ _ _ => S
            exact Turn.next S (by wtm_at "v_st") ⟨rvd, vl, .none, rfl, fun _ => (hvl (by decide)).via (by wtm_at "v_st"), fun _ => .nil, m1, m2, m3, hrs⟩
          | node hns _ _ =>
            obtain ⟨sa, sh, x1, x2, q1, q2, q3⟩ := hns
            wtm_at "v_all"
            rename St _ _ _ _ _ => S
            refine c_tell S (atomic_made (by wtm_at "v_wf") S.le (by wtm_at "v_rm") (by wtm_at "v_at") (by wtm_at "v_at")) ?_
            clear S
            rintro v V4 h4 t4 S hv4 rfl
            wtm_at "v_all"
            rename St _ _ _ _ _ => S
            refine c_tell S (kind_of_spec (by wtm_at "v_wf") S.le (by wtm_at "v_rm") (by wtm_at "v_at") (by wtm_at "v_at")) ?_
            clear S
            rintro v V4' h4 t4 S hv4' rfl
            wtm_at "v_all"
            rename St _ _ _ _ _ => S
            refine c_tell S (has_spec (by wtm_at "v_wf") S.le (by wtm_at "v_rm") (by wtm_at "v_at") (by wtm_at "v_at")) ?_
            clear S
            rintro v V4'' h4 t4 S hv4'' rfl
            wtm_at "v_all"
            rename St _ _ _ _ _ => S
            refine c_tell S (ir (by wtm_at "v_wf") S.le (by wtm_at "v_rm") (KD.via (by wtm_at "v_st") K) (.inr rfl) (tt.via (by wtm_at "v_st"))) ?_
            clear S
            rintro v5 V5 h5 t5 S hv5' hv5
            wtm_at "v_all"
            rename St _ _ _ _ _ => S
            exact Turn.next S (by wtm_at "v_st") ⟨rvd, vl, v5, rfl, fun _ => (hvl (by decide)).via (by wtm_at "v_st"), fun _ => hv5, m1, m2, m3, hrs⟩
        · simp only [List.getElem?_cons_succ, List.getElem?_cons_zero, Option.some.injEq] at hxi
          subst hxi
          change St _ _ _ ((L, isNs m) :: (it, isTI ta 4) :: (rvd, isK w prog ([("key", .int kk w1), ("left", vl), ("right", vr)])) :: [(L+1+1+1+1+1, isC none), (L+1+1+1+1, isC (some .none)), (L+1+1+1, isC (some (.bool false))), (L+1+1, isC (some (.type "dict"))), (L+1, isC (some .none))]) h at S
          wtm_at "v_all"
          rename St _ _ _ _ _ => S
          refine c_tell S (atomic_int (by wtm_at "v_wf") S.le (by wtm_at "v_rm")) ?_
          clear S
          rintro v V4 h4 t4 S hv4 rfl
          wtm_at "v_all"
          rename St _ _ _ _ _ => S
          exact Turn.next S (by wtm_at "v_st") ⟨rvd, vl, vr, rfl, fun _ => (hvl (by decide)).via (by wtm_at "v_st"), fun _ => (hvr (by decide)).via (by wtm_at "v_st"), m1, m2, m3, hrs⟩
        · simp at hxi
      · clear S
        rintro V6 m own h t hv6 ⟨rvd, vl, vr, rfl, hvl, hvr, m1, m2, m3, hrs⟩ S
        wtm_at "v_all"
        rename St _ _ _ _ _ => S
        obtain ⟨V7, S, hv7, hrv⟩ := S.seal2
        exact k _ _ _ _ S.ret (.node hrv hrs rfl ((hvl (show 2 ≤ 4 by decide)).via (by wtm_at "v_st")) ((hvr (show 3 ≤ 4 by decide)).via (by wtm_at "v_st")))
end
section
variable {prog : Program} {w : World} {mg mb : Str → Option Value}
theorem eq_of_spec {A : Around} {V h : Heap} {kd kdd mr ta le' lo : Addr} {uu : Tok} (X : WF w.params mg mb V) (le : V.StaysIn h) (R : Room A 10) (hx : At V kd (isI 142 kdd)) (hm : At V kdd (isD [("name", .str "Node" uu), ("mro", .ref mr), ("attrs", .ref ta), ("eq_attrs", .ref le'), ("order_attrs", .ref lo)])) (hr : At V mr (isL [.ref kd])) :
    Tell prog w A (.ref 125) [.ref kd] [] V h fun v _ => v = .ref le' := by
  intro g d t os Q E k
  refine c_def le X (by k_is) (by k_is) R.depth (BindsTo.of_eq rfl) (by rfl) ?_
  intro L h t S
  have hdh := R.hd
  refine x_cons (x_for ?_)
  wtm_at "v_all"
  rename St _ _ _ _ _ => S
  refine f_list S hr.weak hdh (Inv := fun i _ m own => i = 0 ∧ own = [] ∧ m "self" = some (.ref kd)) ⟨rfl, rfl, rfl⟩ ?_ ?_
  · clear S
    rintro it i x V' m own h t hx' hv ⟨rfl, rfl, m1⟩ S
    simp only [List.getElem?_cons_zero, Option.some.injEq] at hx'
    subst hx'
    wtm_at "v_all"
    rename St _ _ _ _ _ => S
    refine Turn.ret ?_
    wtm_at "v_all"
    exact k _ _ _ _ S.ret rfl
  · rintro V' m own h t hv ⟨h0, _⟩
    cases h0
end
theorem upBy_snoc (f : Fr1) (fs : List Fr1) (t : T) : upBy (f :: fs).reverse t = f.fill (upBy fs.reverse t) := by
  unfold upBy
  rw [List.reverse_cons, List.foldl_append]
  rfl
theorem T.put_ins (key : Int) (t : T) : t.put1 key = t.ins key := by
  induction t with
  | nil => rfl
  | node l k r il ir =>
    unfold T.put1 at *
    unfold T.wayT T.wayF T.ins
    by_cases h1 : k = key
    · subst h1; simp
    · have h1' : ¬ key = k := fun e => h1 e.symm
      rw [if_neg h1, if_neg h1, if_neg h1']
      by_cases h2 : key < k
      · rw [if_pos h2, if_pos h2, if_pos h2, upBy_snoc, ← il]
        by_cases h3 : T.wayT key l = .nil
        · rw [if_pos h3, if_pos h3]; rfl
        · rw [if_neg h3, if_neg h3]
      · rw [if_neg h2, if_neg h2, if_neg h2, upBy_snoc, ← ir]
        by_cases h3 : T.wayT key r = .nil
        · rw [if_pos h3, if_pos h3]; rfl
        · rw [if_neg h3, if_neg h3]
def T.ok : T → Prop
  | .nil => True
  | .node l k r => (∀ x ∈ l.keys, x < k) ∧ (∀ x ∈ r.keys, k < x) ∧ l.ok ∧ r.ok
theorem T.mem_node {x k : Int} {l r : T} : x ∈ (T.node l k r).keys ↔ x ∈ l.keys ∨ x = k ∨ x ∈ r.keys := by
  simp only [T.keys, List.mem_append, List.mem_cons, List.not_mem_nil, or_false, or_assoc]
theorem T.ins_mem {x k : Int} (t : T) : x ∈ (t.ins k).keys → x = k ∨ x ∈ t.keys := by
  induction t with
  | nil => intro h; simpa [T.ins, T.keys] using h
  | node l y r il ir =>
    unfold T.ins
    split
    · exact fun h => .inr h
    · split
      · intro h
        rcases T.mem_node.mp h with h | h | h
        · rcases il h with h | h
          · exact .inl h
          · exact .inr (T.mem_node.mpr (.inl h))
        · exact .inr (T.mem_node.mpr (.inr (.inl h)))
        · exact .inr (T.mem_node.mpr (.inr (.inr h)))
      · intro h
        rcases T.mem_node.mp h with h | h | h
        · exact .inr (T.mem_node.mpr (.inl h))
        · exact .inr (T.mem_node.mpr (.inr (.inl h)))
        · rcases ir h with h | h
          · exact .inl h
          · exact .inr (T.mem_node.mpr (.inr (.inr h)))
theorem T.ins_ok {k : Int} (t : T) : t.ok → (t.ins k).ok := by
  induction t with
  | nil => intro _; exact ⟨by simp [T.keys], by simp [T.keys], trivial, trivial⟩
  | node l y r il ir =>
    rintro ⟨h1, h2, h3, h4⟩
    unfold T.ins
    split
    · exact ⟨h1, h2, h3, h4⟩
    · split
      · refine ⟨fun x hx => ?_, h2, il h3, h4⟩
        rcases T.ins_mem _ hx with rfl | hx
        · assumption
        · exact h1 x hx
      · refine ⟨h1, fun x hx => ?_, h3, ir h4⟩
        rcases T.ins_mem _ hx with rfl | hx
        · omega
        · exact h2 x hx
theorem T.ins_size {k : Int} (t : T) : (t.ins k).size ≤ t.size + 1 := by
  induction t with
  | nil => simp [T.ins, T.size]
  | node l y r il ir =>
    unfold T.ins
    split
    · omega
    · split <;> simp only [T.size] <;> omega
theorem T.least_head (t : T) (h : t ≠ .nil) : t.keys.headD 0 = t.leastK := by
  induction t with
  | nil => exact absurd rfl h
  | node l k r il ir =>
    cases l with
    | nil => rfl
    | node a b c =>
      have := il (by simp)
      rw [T.leastK, ← this]
      rw [show (T.node (T.node a b c) k r).keys = (T.node a b c).keys ++ [k] ++ r.keys from rfl]
      cases h : (T.node a b c).keys with
      | nil => simp [T.keys] at h
      | cons x xs => rfl
theorem T.least_mem (t : T) (h : t ≠ .nil) : t.leastK ∈ t.keys := by
  induction t with
  | nil => exact absurd rfl h
  | node l k r il ir =>
    cases l with
    | nil => exact T.mem_node.mpr (.inr (.inl rfl))
    | node a b c => exact T.mem_node.mpr (.inl (il (by simp)))
theorem T.least_le {x : Int} (t : T) (ho : t.ok) (hx : x ∈ t.keys) : t.leastK ≤ x := by
  induction t with
  | nil => simp [T.keys] at hx
  | node l k r il ir =>
    obtain ⟨h1, h2, h3, h4⟩ := ho
    cases l with
    | nil =>
      show k ≤ x
      rcases T.mem_node.mp hx with h | h | h
      · simp [T.keys] at h
      · omega
      · have := h2 x h; omega
    | node a b c =>
      show (T.node a b c).leastK ≤ x
      have hm := h1 _ (T.least_mem (T.node a b c) (by simp))
      rcases T.mem_node.mp hx with h | h | h
      · exact il h3 h
      · omega
      · have := h2 x h; omega
theorem T.low_del (t : T) (ho : t.ok) : upBy t.lowF.reverse t.leastR = t.del t.leastK := by
  induction t with
  | nil => rfl
  | node l k r il ir =>
    obtain ⟨h1, h2, h3, h4⟩ := ho
    cases l with
    | nil =>
      show upBy [] r = T.del k (.node .nil k r)
      unfold T.del
      rw [if_neg (by omega), if_neg (by omega), if_pos rfl]
      rfl
    | node a b c =>
      have hm := h1 _ (T.least_mem (T.node a b c) (by simp))
      show upBy (Fr1.L k r :: (T.node a b c).lowF).reverse (T.node a b c).leastR = T.del (T.node a b c).leastK (.node (.node a b c) k r)
      rw [upBy_snoc, il h3, T.del.eq_2 _ (T.node a b c), if_pos hm]
      rfl
theorem T.out_del (key : Int) (t : T) (ho : t.ok) : t.out1 key = t.del key := by
  induction t with
  | nil => rfl
  | node l k r il ir =>
    obtain ⟨h1, h2, h3, h4⟩ := ho
    have il := il h3
    have ir := ir h4
    unfold T.out1 at *
    unfold T.wayT T.wayF
    rw [T.del.eq_2]
    by_cases e1 : k = key
    · subst e1
      rw [if_pos rfl, if_pos rfl, if_neg (by omega), if_neg (by omega)]
      by_cases e2 : l = .nil
      · rw [if_pos e2]; simp [upBy, e2]
      · by_cases e3 : r = .nil
        · simp only [if_neg e2, if_pos e3]; rfl
        · simp only [if_neg e2, if_neg e3]
          rw [T.least_head r e3, T.low_del r h4]
          rfl
    · rw [if_neg e1, if_neg e1]
      by_cases e2 : key < k
      · rw [if_pos e2, if_pos e2, if_pos e2, ← il]
        cases hw : T.wayT key l with
        | nil => rfl
        | node a b c => dsimp only; (repeat rw [upBy_snoc]); first | rfl | (split <;> first | rfl | (split <;> rfl))
      · rw [if_neg e2, if_neg e2, if_neg e2, if_pos (by omega), ← ir]
        cases hw : T.wayT key r with
        | nil => rfl
        | node a b c => dsimp only; (repeat rw [upBy_snoc]); first | rfl | (split <;> first | rfl | (split <;> rfl))
theorem T.del_mem (t : T) : ∀ {x key : Int}, t.ok → x ∈ (t.del key).keys → x ∈ t.keys ∧ x ≠ key := by
  induction t with
  | nil => intro x key _ h; simp [T.del, T.keys] at h
  | node l k r il ir =>
    rintro x key ⟨h1, h2, h3, h4⟩ h
    rw [T.del.eq_2] at h
    by_cases e1 : key < k
    · rw [if_pos e1] at h
      rcases T.mem_node.mp h with h | h | h
      · exact ⟨T.mem_node.mpr (.inl (il h3 h).1), (il h3 h).2⟩
      · exact ⟨T.mem_node.mpr (.inr (.inl h)), by omega⟩
      · exact ⟨T.mem_node.mpr (.inr (.inr h)), by have := h2 x h; omega⟩
    · rw [if_neg e1] at h
      by_cases e2 : k < key
      · rw [if_pos e2] at h
        rcases T.mem_node.mp h with h | h | h
        · exact ⟨T.mem_node.mpr (.inl h), by have := h1 x h; omega⟩
        · exact ⟨T.mem_node.mpr (.inr (.inl h)), by omega⟩
        · exact ⟨T.mem_node.mpr (.inr (.inr (ir h4 h).1)), (ir h4 h).2⟩
      · rw [if_neg e2] at h
        have e : key = k := by omega
        subst e
        by_cases e3 : l = .nil
        · rw [if_pos e3] at h
          exact ⟨T.mem_node.mpr (.inr (.inr h)), by have := h2 x h; omega⟩
        · rw [if_neg e3] at h
          by_cases e4 : r = .nil
          · rw [if_pos e4] at h
            exact ⟨T.mem_node.mpr (.inl h), by have := h1 x h; omega⟩
          · rw [if_neg e4, T.least_head r e4] at h
            have hm := h2 _ (T.least_mem r e4)
            rcases T.mem_node.mp h with h | h | h
            · exact ⟨T.mem_node.mpr (.inl h), by have := h1 x h; omega⟩
            · subst h; exact ⟨T.mem_node.mpr (.inr (.inr (T.least_mem r e4))), by omega⟩
            · have hd := ir h4 h
              exact ⟨T.mem_node.mpr (.inr (.inr hd.1)), by have := h2 x hd.1; omega⟩
theorem T.del_ok (t : T) : ∀ {key : Int}, t.ok → (t.del key).ok := by
  induction t with
  | nil => intro key _; trivial
  | node l k r il ir =>
    rintro key ⟨h1, h2, h3, h4⟩
    rw [T.del.eq_2]
    split
    · exact ⟨fun x hx => h1 x (T.del_mem l h3 hx).1, h2, il h3, h4⟩
    · split
      · exact ⟨h1, fun x hx => h2 x (T.del_mem r h4 hx).1, h3, ir h4⟩
      · split
        · exact h4
        · split
          · exact h3
          · rename_i e4
            rw [T.least_head r e4]
            have hm := h2 _ (T.least_mem r e4)
            refine ⟨fun x hx => by have := h1 x hx; omega, fun x hx => ?_, h3, ir h4⟩
            have hd := T.del_mem r h4 hx
            have := T.least_le r h4 hd.1
            omega
theorem T.del_size (t : T) : ∀ {key : Int}, (t.del key).size ≤ t.size := by
  induction t with
  | nil => intro key; exact Nat.le_refl _
  | node l k r il ir =>
    intro key
    rw [T.del.eq_2]
    split
    · have := il (key := key); simp only [T.size]; omega
    · split
      · have := ir (key := key); simp only [T.size]; omega
      · split
        · simp only [T.size]; omega
        · split
          · simp only [T.size]; omega
          · have := ir (key := r.keys.headD 0); simp only [T.size]; omega
theorem T.nth_keys (t : T) : ∀ i : Nat, t.nth (i : Int) = t.keys[i]? := by
  induction t with
  | nil => intro i; rfl
  | node l k r il ir =>
    intro i
    rw [T.nth]
    have e : (T.node l k r).keys = l.keys ++ (k :: r.keys) := by simp [T.keys]
    have hl := T.keys_len l
    rw [e]
    by_cases h1 : i = l.size
    · subst h1
      rw [if_pos rfl, List.getElem?_append_right (by omega), hl, Nat.sub_self]; rfl
    · rw [if_neg (by omega)]
      by_cases h2 : i < l.size
      · rw [if_pos (by omega), List.getElem?_append_left (by omega)]; exact il i
      · rw [if_neg (by omega), List.getElem?_append_right (by omega)]
        obtain ⟨j, rfl⟩ : ∃ j, i = l.size + 1 + j := ⟨i - l.size - 1, by omega⟩
        rw [show ((l.size + 1 + j : Nat) : Int) - (l.size : Int) - 1 = (j : Int) by omega, ir j, hl, show l.size + 1 + j - l.size = j + 1 by omega, List.getElem?_cons_succ]
theorem At.det {V : Heap} {a : Addr} {xs ys : List Value} (x : At V a (isT xs)) (y : At V a (isT ys)) : xs = ys := by
  obtain ⟨o, e, _, n, d⟩ := x
  obtain ⟨o', e', _, n', d'⟩ := y
  rw [e] at e'
  obtain rfl := Option.some.inj e'
  rw [d] at d'
  injection d' with z _
  simpa using z
theorem Plain.det {V : Heap} {v : Value} {t : T} (x : Plain V v t) : ∀ {t' : T}, Plain V v t' → t = t' := by
  induction x with
  | nil => intro t' y; cases y; rfl
  | node ha _ _ il ir =>
    intro t' y
    cases y with
    | node hb yl yr =>
      have z := ha.det hb
      simp only [List.cons.injEq, Value.int.injEq, and_true] at z
      obtain ⟨⟨rfl, _⟩, rfl, rfl⟩ := z
      rw [il yl, ir yr]
theorem plain_eq {V : Heap} {g : Array GenState} {d : Drawn} {t : Nat} {os : OsState} {h : Heap} (le : V.StaysIn h) : ∀ (tr : T) {A : Around} {v v' : Value} {tr' : T}, Plain V v tr → Plain V v' tr' → A.units + tr.high + 2 < cLine → PySem.SeqAt.EqAt A ⟨h, g, d, t, os⟩ v v' (decide (tr = tr')) := by
  intro tr
  induction tr with
  | nil =>
    intro A v v' tr' x y hu
    cases x
    cases y with
    | nil => exact PySem.SeqAt.EqAt.same _
    | node hb _ _ => exact PySem.SeqAt.EqAt.none_tuple (tup_at.mpr (hb.keeps le)) (by simp only [T.high] at hu; omega)
  | node l k r il ir =>
    intro A v v' tr' x y hu
    simp only [T.high] at hu
    cases x with
    | @node a _ u lv rv _ _ ha xl xr =>
      cases y with
      | nil => exact PySem.SeqAt.EqAt.tuple_none (tup_at.mpr (ha.keeps le)) (by omega)
      | @node b k' u' lv' rv' l' r' hb yl yr =>
        by_cases hab : a = b
        · subst hab
          have : T.node l k r = T.node l' k' r' := (Plain.node ha xl xr).det (.node hb yl yr)
          rw [decide_eq_true this]
          exact PySem.SeqAt.EqAt.same _
        · have e : decide (T.node l k r = T.node l' k' r') = ((List.range (min [Value.int k u, lv, rv].toArray.size [Value.int k' u', lv', rv'].toArray.size)).all (fun j => match j with | 0 => decide (k = k') | 1 => decide (l = l') | _ => decide (r = r')) && [Value.int k u, lv, rv].toArray.size == [Value.int k' u', lv', rv'].toArray.size) := by
            rw [show (List.range (min [Value.int k u, lv, rv].toArray.size [Value.int k' u', lv', rv'].toArray.size)) = [0, 1, 2] from rfl]
            rw [show ([Value.int k u, lv, rv].toArray.size == [Value.int k' u', lv', rv'].toArray.size) = true from rfl]
            simp only [List.all_cons, List.all_nil, Bool.and_true]
            rw [Bool.eq_iff_iff]
            simp only [decide_eq_true_eq, Bool.and_eq_true, T.node.injEq]
            exact ⟨fun ⟨a, b, c⟩ => ⟨b, a, c⟩, fun ⟨a, b, c⟩ => ⟨b, a, c⟩⟩
          rw [e]
          refine PySem.SeqAt.EqAt.of_refs hab (PySem.SeqAt.RcAt.tuples (tup_at.mpr (ha.keeps le)) (tup_at.mpr (hb.keeps le)) (by omega) fun j h1 h2 => ?_)
          have u1 : A.in1.units = A.units + 1 := rfl
          rcases j with _ | _ | _ | j
          · exact PySem.SeqAt.EqAt.int_int _ _ _ _
          · exact il (A := A.in1) xl yl (by rw [u1]; omega)
          · exact ir (A := A.in1) xr yr (by rw [u1]; omega)
          · simp at h1; omega
section
variable {prog : Program} {w : World} {A : Around} {E : Value → Shared → Prop} {h₀ W V h : Heap} {own own' : List (Addr × OP)} {g : Array GenState} {d : Drawn} {t : Nat} {os : OsState} {env : Env} {mg mb : Str → Option Value}
theorem c_eqp {a b : Addr} {tr tr' : T} {Q : Value → Shared → Prop} (le : V.StaysIn h) (x : Plain V (.ref a) tr) (y : Plain V (.ref b) tr') (hu : A.units + tr.high + 3 < cLine) (k : Q (.bool (decide (tr = tr'))) ⟨h, g, d, t, os⟩) :
    wpAny (model prog w) A (compareOp .Eq (.ref a) (.ref b)) Q E ⟨h, g, d, t, os⟩ := by
  cases x with
  | @node _ kk u lv rv l r ha xl xr =>
    cases y with
    | @node _ k' u' lv' rv' l' r' hb yl yr =>
      simp only [T.high] at hu
      refine PySem.SeqAt.eq_tupleAt (e := fun j => match j with | 0 => decide (kk = k') | 1 => decide (l = l') | _ => decide (r = r')) (tup_at.mpr (ha.keeps le)) (tup_at.mpr (hb.keeps le)) (by omega) (fun j h1 h2 => ?_) ?_
      · have u1 : A.in1.units = A.units + 1 := rfl
        rcases j with _ | _ | _ | j
        · exact PySem.SeqAt.EqAt.int_int _ _ _ _
        · exact plain_eq le l xl yl (by rw [u1]; omega)
        · exact plain_eq le r xr yr (by rw [u1]; omega)
        · simp at h1; omega
      · have e : decide (T.node l kk r = T.node l' k' r') = ((List.range (min [Value.int kk u, lv, rv].toArray.size [Value.int k' u', lv', rv'].toArray.size)).all (fun j => match j with | 0 => decide (kk = k') | 1 => decide (l = l') | _ => decide (r = r')) && [Value.int kk u, lv, rv].toArray.size == [Value.int k' u', lv', rv'].toArray.size) := by
          rw [show (List.range (min [Value.int kk u, lv, rv].toArray.size [Value.int k' u', lv', rv'].toArray.size)) = [0, 1, 2] from rfl]
          rw [show ([Value.int kk u, lv, rv].toArray.size == [Value.int k' u', lv', rv'].toArray.size) = true from rfl]
          simp only [List.all_cons, List.all_nil, Bool.and_true]
          rw [Bool.eq_iff_iff]
          simp only [decide_eq_true_eq, Bool.and_eq_true, T.node.injEq]
          exact ⟨fun ⟨a, b, c⟩ => ⟨b, a, c⟩, fun ⟨a, b, c⟩ => ⟨b, a, c⟩⟩
        rw [← e]; exact k
def OptsAre : List Value → List (Option Int) → Prop
  | [], [] => True
  | v :: vs, o :: os => nthV v o ∧ OptsAre vs os
  | _, _ => False
theorem OptsAre.len : ∀ {vs : List Value} {xs : List (Option Int)}, OptsAre vs xs → vs.length = xs.length
  | [], [], _ => rfl
  | _ :: _, _ :: _, h => congrArg (· + 1) h.2.len
theorem OptsAre.get : ∀ {vs : List Value} {xs : List (Option Int)}, OptsAre vs xs → ∀ {j : Nat} {v : Value} {o : Option Int}, vs[j]? = some v → xs[j]? = some o → nthV v o
  | [], [], _, j, v, o, h, _ => by simp at h
  | _ :: _, _ :: _, ⟨h1, h2⟩, 0, v, o, a, b => by cases a; cases b; exact h1
  | _ :: _, _ :: _, ⟨h1, h2⟩, j + 1, v, o, a, b => h2.get (by simpa using a) (by simpa using b)
theorem OptsAre.snoc {v : Value} {o : Option Int} (hv : nthV v o) : ∀ {vs : List Value} {xs : List (Option Int)}, OptsAre vs xs → OptsAre (vs ++ [v]) (xs ++ [o])
  | [], [], _ => ⟨hv, trivial⟩
  | _ :: _, _ :: _, ⟨h1, h2⟩ => ⟨h1, h2.snoc hv⟩
theorem OptsAre.ints {vs : List Value} {ns : List Int} (x : IntsAre vs ns) : OptsAre vs (ns.map some) := by
  induction x with
  | nil => exact trivial
  | cons _ _ _ ih => exact ⟨⟨_, rfl⟩, ih⟩
theorem c_ne_opts {a b : Addr} {vs us : List Value} {xs : List (Option Int)} {Q : Value → Shared → Prop} (ha : At h a (isLw vs)) (hb : At h b (isLw us)) (x : OptsAre vs xs) (y : OptsAre us xs) (hu : A.units < cLine) (k : Q (.bool false) ⟨h, g, d, t, os⟩) :
    wpAny (model prog w) A (compareOp .NotEq (.ref a) (.ref b)) Q E ⟨h, g, d, t, os⟩ := by
  refine PySem.SeqAt.RcNeAt.lists (e := fun _ => true) (list_at.mpr ha) (list_at.mpr hb) (by simp [x.len, y.len]) hu (fun j h1 h2 => ?_) prog w E Q (by rw [show ((List.range vs.toArray.size).all fun _ => true) = true from List.all_eq_true.mpr fun _ _ => rfl]; exact k)
  have hj : j < xs.length := by simpa [x.len] using h1
  have z1 := x.get (j := j) (v := vs.toArray[j]) (o := xs[j]) (by simp at h1 ⊢) (by simp)
  have z2 := y.get (j := j) (v := us.toArray[j]) (o := xs[j]) (by simp at h2 ⊢) (by simp)
  cases e : xs[j] with
  | none =>
    rw [e] at z1 z2
    rw [show vs.toArray[j] = Value.none from z1, show us.toArray[j] = Value.none from z2]
    exact PySem.SeqAt.EqAt.same _
  | some i =>
    rw [e] at z1 z2
    obtain ⟨u1, z1⟩ := z1
    obtain ⟨u2, z2⟩ := z2
    rw [z1, z2]
    have := PySem.SeqAt.EqAt.int_int (A := A.in1) (s := ⟨h, g, d, t, os⟩) i u1 i u2
    rwa [beq_self_eq_true] at this
def EqW (prog : Program) (w : World) (A : Around) (s : Shared) (y x : Value) : Prop := ∀ (E : Value → Shared → Prop) (Q : Bool → Shared → Prop), Q true s → wpAny (model prog w) A (eqBool y x) Q E s
theorem idx_of {kvs : List (Str × Value)} (nd : (kvs.map (·.1)).Nodup) : ∀ {i : Nat} {k : Str} {v : Value}, kvs[i]? = some (k, v) → (kvs.findIdx? fun kv => decide (kv.1 = k)) = some i := by
  induction kvs with
  | nil => intro i k v h; simp at h
  | cons p r ih =>
    intro i k v h
    rw [List.map_cons, List.nodup_cons] at nd
    rw [List.findIdx?_cons]
    cases i with
    | zero => simp only [List.getElem?_cons_zero, Option.some.injEq] at h; subst h; simp
    | succ i =>
      rw [List.getElem?_cons_succ] at h
      have hne : p.1 ≠ k := fun e => nd.1 (e ▸ List.mem_map.mpr ⟨_, List.mem_of_getElem? h, rfl⟩)
      rw [if_neg (by simpa using hne), ih nd.2 h]
      rfl
theorem d_same {nm : String} {a b : Addr} {ka kb : List (Str × Value)} {s : Shared} {Q : Bool → Shared → Prop} (ha : (a == sysModules) = false) (hb : (b == sysModules) = false) (xa : At s.heap a (isK w prog ka)) (xb : At s.heap b (isK w prog kb)) (hk : ka.map (·.1) = kb.map (·.1))
    (he : ∀ (i : Nat) k v k' y, ka[i]? = some (k, v) → kb[i]? = some (k', y) → EqW prog w A s v y) (q : Q true s) : wpAny (model prog w) A (Builtin.Dict.samePairs nm a b) Q E s := by
  obtain ⟨oa, eoa, es, ep, _, hda, hka, hpa, _⟩ := xa
  obtain ⟨ob, eob, es', ep', _, hdb, hkb, hpb, hnb⟩ := xb
  have la : es.size = ka.length := by rw [← hpa.length]; simp
  have lb : es'.size = kb.length := by rw [← hpb.length]; simp
  have lk : ka.length = kb.length := by have := congrArg List.length hk; simpa using this
  unfold Builtin.Dict.samePairs Builtin.Dict.showsAll
  rw [if_neg (by rw [ha]; exact Bool.false_ne_true), if_neg (by rw [hb]; exact Bool.false_ne_true)]
  refine wpAny_bind (wpAny_pure (wpAny_bind (wpAny_pure (wpAny_bind (wpAny_dictEntries eoa hda ?_)))))
  dsimp only
  refine wpAny_bind (wpAny_dictEntries eob hdb ?_)
  rw [if_neg (by simp [la, lb, lk])]
  refine wpAny_bind (wpAny_dictEpoch eoa hda (wpAny_bind ?_))
  rw [Std.Legacy.Range.forIn_eq_forIn_range']
  simp only [Std.Legacy.Range.size, Nat.sub_zero, Nat.add_sub_cancel, Nat.div_one]
  refine wpAny_forIn_list _ (fun rest r s' => s' = s ∧ r = (none, ()) ∧ ∃ i, i + rest.length = es.size ∧ rest = List.range' i rest.length) _ ?_ ?_ _ _ ⟨rfl, rfl, 0, by simp, by simp⟩
  · rintro x rest r s' ⟨rfl, rfl, i, hi, hr⟩
    rw [List.length_cons, List.range'_succ] at hr
    injection hr with e1 e2
    subst e1
    rw [List.length_cons] at hi
    have hx : x < es.size := by omega
    have hx1 : x < ka.length := by omega
    have hx2 : x < kb.length := by omega
    have hx3 : x < es'.size := by omega
    refine wpAny_bind (wpAny_dictEntries eoa hda ?_)
    rw [Array.getElem?_eq_getElem hx]
    obtain ⟨k, v, ekv⟩ : ∃ k v, ka[x]? = some (k, v) := ⟨_, _, List.getElem?_eq_getElem hx1⟩
    obtain ⟨k', y, eky⟩ : ∃ k v, kb[x]? = some (k, v) := ⟨_, _, List.getElem?_eq_getElem hx2⟩
    have ekk : k = k' := by
      have z := congrArg (fun l => l[x]?) hk
      simp only [List.getElem?_map, ekv, eky, Option.map_some, Option.some.injEq] at z
      exact z
    subst ekk
    obtain ⟨h1, h2⟩ := hpa.get? (i := x) (e := es[x]) (by rw [Array.getElem?_toList]; exact Array.getElem?_eq_getElem hx) ekv
    obtain ⟨h3, h4⟩ := hpb.get? (i := x) (e := es'[x]) (by rw [Array.getElem?_toList]; exact Array.getElem?_eq_getElem hx3) eky
    obtain ⟨k2, h5, h6⟩ := hka es[x] (Array.getElem_mem hx)
    obtain rfl := (strKind prog w).inj _ _ _ h5 h1
    have hidx : (es'.findIdx? fun e => (strKind prog w).is k2 e.key) = some x := by
      have z := hpb.findIdx k2
      rw [idx_of hnb eky] at z
      rw [← z]
      obtain ⟨l⟩ := es'
      simp
    show wpAny _ _ (holding [es[x].key, es[x].val] _ >>= _) _ _ _
    rw [h6]
    refine wpAny_bind (wpAny_holding (wpAny_bind (wpAny_dictFind_of h1 eob hdb hkb ?_)))
    rw [hidx]
    refine wpAny_bind (wpAny_dictEntries eob hdb ?_)
    rw [Array.getElem?_eq_getElem hx3]
    refine wpAny_holding ?_
    rw [h2, h4]
    refine he x k2 v k2 y ekv eky _ _ ?_
    show wpAny _ _ (if (!true) = true then _ else _) _ _ _
    rw [if_neg (by decide)]
    refine wpAny_bind (wpAny_dictEpoch eoa hda ?_)
    rw [if_neg (by simp)]
    exact wpAny_pure ⟨rfl, rfl, x + 1, by omega, e2⟩
  · rintro r s' ⟨rfl, rfl, _⟩
    exact wpAny_pure q
theorem d_eq {a b : Addr} {ka kb : List (Str × Value)} {s : Shared} {Q : Bool → Shared → Prop} (ha : (a == sysModules) = false) (hb : (b == sysModules) = false) (xa : At s.heap a (isK w prog ka)) (xb : At s.heap b (isK w prog kb)) (hk : ka.map (·.1) = kb.map (·.1)) (hu : A.units < cLine)
    (he : ∀ (i : Nat) k v k' y, ka[i]? = some (k, v) → kb[i]? = some (k', y) → EqW prog w A.in1 s v y) (q : Q true s) : wpAny (model prog w) A (eqBool (.ref a) (.ref b)) Q E s := by
  have da := dict_at.mpr xa
  have db := dict_at.mpr xb
  unfold eqBool
  refine wpAny_holding ?_
  refine wpAny_ite_split (fun _ => wpAny_bind (wpAny_rule (wpAny_pure q))) fun _ => ?_
  refine wpAny_bind (wpAny_richCompare_same_room (op := .Eq) da.mapOf.typeIs db.mapOf.typeIs PySem.F.slot_dict_eq (wpAny_call_entry PySem.F.slot_dict_eq da.mapOf.typeIs PySem.F.entry_dict_eq ?_ (PySem.F.args_dict_eq_2 _ _)) hu)
  show wpAny _ _ (Builtin.Dict.dictSlotArgs "__eq__" ⟨[.ref a, .ref b], []⟩ >>= _) _ _ s
  refine wpAny_bind ?_
  unfold Builtin.Dict.dictSlotArgs
  refine wpAny_bind (wpAny_notOrdered_dict da.mapOf.typeIs ?_)
  show wpAny _ _ (pure (Value.ref a, Value.ref b)) _ _ s
  refine wpAny_pure ?_
  refine wpAny_bind (wpAny_isInstance (T := "dict") db.mapOf.typeIs PySem.F.sub_dict_dict ?_)
  simp only [Bool.not_true, Bool.false_eq_true, if_false]
  refine wpAny_bind (wpAny_pure (wpAny_bind (wpAny_pure (wpAny_bind (d_same ha hb xa xb hk he ?_)))))
  exact wpAny_pure ⟨_, rfl, (fun x => nomatch x), wpAny_truthy_bool q⟩
theorem d_ne {a b : Addr} {ka kb : List (Str × Value)} {s : Shared} {Q : Value → Shared → Prop} (ha : (a == sysModules) = false) (hb : (b == sysModules) = false) (xa : At s.heap a (isK w prog ka)) (xb : At s.heap b (isK w prog kb)) (hk : ka.map (·.1) = kb.map (·.1)) (hu : A.units < cLine)
    (he : ∀ (i : Nat) k v k' y, ka[i]? = some (k, v) → kb[i]? = some (k', y) → EqW prog w A.in1 s v y) (q : Q (.bool false) s) : wpAny (model prog w) A (compareOp .NotEq (.ref a) (.ref b)) Q E s := by
  have da := dict_at.mpr xa
  have db := dict_at.mpr xb
  refine wpAny_richCompare_same_room (op := .NotEq) da.mapOf.typeIs db.mapOf.typeIs PySem.F.slot_dict_ne (wpAny_call_entry PySem.F.slot_dict_ne da.mapOf.typeIs PySem.F.entry_dict_ne ?_ (PySem.F.args_dict_ne_2 _ _)) hu
  show wpAny _ _ (Builtin.Dict.dictSlotArgs "__ne__" ⟨[.ref a, .ref b], []⟩ >>= _) _ _ s
  refine wpAny_bind ?_
  unfold Builtin.Dict.dictSlotArgs
  refine wpAny_bind (wpAny_notOrdered_dict da.mapOf.typeIs ?_)
  show wpAny _ _ (pure (Value.ref a, Value.ref b)) _ _ s
  refine wpAny_pure ?_
  refine wpAny_bind (wpAny_isInstance (T := "dict") db.mapOf.typeIs PySem.F.sub_dict_dict ?_)
  simp only [Bool.not_true, Bool.false_eq_true, if_false]
  refine wpAny_bind (wpAny_pure (wpAny_bind (wpAny_pure (wpAny_bind (d_same ha hb xa xb hk he ?_)))))
  exact wpAny_pure ⟨_, rfl, (fun x => nomatch x), q⟩
theorem eqw_int {i : Int} {u v : Tok} {s : Shared} : EqW prog w A s (.int i u) (.int i v) := fun E Q q => by
  have z := PySem.SeqAt.EqAt.int_int (A := A) (s := s) i u i v
  rw [beq_self_eq_true] at z
  exact z prog w E Q q
theorem tab_eq {g : Array GenState} {d : Drawn} {t : Nat} {os : OsState} {h V' : Heap} (le : V.StaysIn h) (le' : V'.StaysIn h) : ∀ (tr : T) {A : Around} {v v' : Value}, Tab w prog V v tr → Tab w prog V' v' tr → A.units + tr.high + 2 < cLine → EqW prog w A ⟨h, g, d, t, os⟩ v v' := by
  intro tr
  induction tr with
  | nil => intro A v v' x y hu; cases x; cases y; exact PySem.SeqAt.EqAt.same _ prog w
  | node l k r il ir =>
    intro A v v' x y hu
    simp only [T.high] at hu
    cases x with
    | node xa xs xn xl xr =>
      cases y with
      | node ya ys yn yl yr =>
        intro E Q q
        refine d_eq xs ys (xa.keeps le) (ya.keeps le') rfl (by omega) (fun i k v k' y h1 h2 => ?_) q
        have u1 : A.in1.units = A.units + 1 := rfl
        rcases i with _ | _ | _ | _ | i
        · simp only [List.getElem?_cons_zero, Option.some.injEq, Prod.mk.injEq] at h1 h2
          rw [← h1.2, ← h2.2]; exact eqw_int
        · simp only [List.getElem?_cons_succ, List.getElem?_cons_zero, Option.some.injEq, Prod.mk.injEq] at h1 h2
          rw [← h1.2, ← h2.2]; exact il xl yl (by rw [u1]; omega)
        · simp only [List.getElem?_cons_succ, List.getElem?_cons_zero, Option.some.injEq, Prod.mk.injEq] at h1 h2
          rw [← h1.2, ← h2.2]; exact ir xr yr (by rw [u1]; omega)
        · simp only [List.getElem?_cons_succ, List.getElem?_cons_zero, Option.some.injEq, Prod.mk.injEq] at h1 h2
          rw [← h1.2, ← h2.2, xn, yn]; exact eqw_int
        · simp at h1
theorem c_net {a b : Addr} {tr : T} {V' : Heap} {Q : Value → Shared → Prop} (le : V.StaysIn h) (le' : V'.StaysIn h) (x : Tab w prog V (.ref a) tr) (y : Tab w prog V' (.ref b) tr) (hu : A.units + tr.high + 3 < cLine) (q : Q (.bool false) ⟨h, g, d, t, os⟩) : wpAny (model prog w) A (compareOp .NotEq (.ref a) (.ref b)) Q E ⟨h, g, d, t, os⟩ := by
  cases x with
  | node xa xs xn xl xr =>
    cases y with
    | node ya ys yn yl yr =>
      simp only [T.high] at hu
      refine d_ne xs ys (xa.keeps le) (ya.keeps le') rfl (by omega) (fun i k v k' y h1 h2 => ?_) q
      have u1 : A.in1.units = A.units + 1 := rfl
      rcases i with _ | _ | _ | _ | i
      · simp only [List.getElem?_cons_zero, Option.some.injEq, Prod.mk.injEq] at h1 h2
        rw [← h1.2, ← h2.2]; exact eqw_int
      · simp only [List.getElem?_cons_succ, List.getElem?_cons_zero, Option.some.injEq, Prod.mk.injEq] at h1 h2
        rw [← h1.2, ← h2.2]; exact tab_eq le le' _ xl yl (by rw [u1]; omega)
      · simp only [List.getElem?_cons_succ, List.getElem?_cons_zero, Option.some.injEq, Prod.mk.injEq] at h1 h2
        rw [← h1.2, ← h2.2]; exact tab_eq le le' _ xr yr (by rw [u1]; omega)
      · simp only [List.getElem?_cons_succ, List.getElem?_cons_zero, Option.some.injEq, Prod.mk.injEq] at h1 h2
        rw [← h1.2, ← h2.2, xn, yn]; exact eqw_int
      · simp at h1
end
def TellC (prog : Program) (w : World) (A : Around) (x : Sem Value) (V h : Heap) (P : Value → Heap → Prop) : Prop :=
  ∀ (g : Array GenState) (d : Drawn) (t : Nat) (os : OsState) (Q E : Value → Shared → Prop), (∀ v V' h' t', Ret V h V' h' → P v V' → Q v ⟨h', g, d, t', os⟩) → wpAny (model prog w) A x Q E ⟨h, g, d, t, os⟩
section
variable {prog : Program} {w : World} {A : Around} {E : Value → Shared → Prop} {h₀ W V h : Heap} {own own' : List (Addr × OP)} {g : Array GenState} {d : Drawn} {t : Nat} {os : OsState} {env : Env} {mg mb : Str → Option Value}
theorem c_tellc {x : Sem Value} {P : Value → Heap → Prop} {Q : Value → Shared → Prop} (S : St h₀ W V own h) (T : TellC prog w A x V h P)
    (k : ∀ v V' h' t', St h₀ W V' own h' → V.StaysIn V' → P v V' → Q v ⟨h', g, d, t', os⟩) : wpAny (model prog w) A x Q E ⟨h, g, d, t, os⟩ :=
  T g d t os Q E fun v V' h' t' R p => k v V' h' t' (S.call R) R.sub p
theorem Ret.refl (le : V.StaysIn h) : Ret V h V h := ⟨stays_refl _, stays_refl _, le, fun _ _ e => .inl e⟩
theorem g_cls_none {expr : Bool} {Q : Value → Shared → Prop} (k : ∀ t', Q (.type "NoneType") ⟨h, g, d, t', os⟩) : wpAny (model prog w) A (getAttr .none "__class__" expr) Q E ⟨h, g, d, t, os⟩ := by
  unfold getAttr
  have hT : (⟨h, g, d, t + 1, os⟩ : Shared).TypeIs (.none) "NoneType" := rfl
  have f2 := F.slot_NoneType_getattribute.lookup
  have f3 := F.slot_NoneType_getattribute.bind (.none)
  refine wpAny_bind (wpAny_mkText ?_)
  unfold getAttrBy
  refine wpAny_holding (wpAny_bind (wpAny_typeOf hT (wpAny_bind (wpAny_of_eq f2 ?_))))
  show wpAny _ _ (getAttrByItsOwn .none (.str "__class__" t) (.type "NoneType") (.builtin "object.__getattribute__") true expr) _ _ _
  unfold getAttrByItsOwn
  refine wpAny_bind (wpAny_of_eq (a := none) rfl ?_)
  refine wpAny_bind (wpAny_attempt (wpAny_holding ?_))
  unfold callGetattribute
  rw [show (expr && onTheHeap (.builtin "object.__getattribute__")) = false by cases expr <;> rfl, if_neg Bool.false_ne_true]
  unfold boundAndCalled
  refine wpAny_bind (wpAny_of_eq f3 ?_)
  refine wpAny_call (class_call_none ?_)
  unfold handedOut
  exact wpAny_pure (k _)
theorem eq213 (P : Params) : findIn (hd.heap_39 P) (.ref 213) "__eq__" = some (some (.ref 182)) ∧ typeIn (hd.heap_39 P) (.ref 182) = some (.type "function") := ⟨by k_is, beq_iff_eq.mp (by k_is : isFn (hd.heap_39 P) (.ref 182) = true)⟩
def CmpB (Q : Option Value → Shared → Prop) (v : Value) (s : Shared) : Prop := Q (match v with | .notImplemented => none | v => some v) s
theorem t_own {x dx : Addr} {l : List (Str × Value)} {b : Value} {Q : Option Value → Shared → Prop} {s : Shared} (X : WF w.params mg mb s.heap) (hx : At s.heap x (isI 213 dx)) (hm : At s.heap dx (isD l)) (k : wpAny (model prog w) A (call (.ref 182) [.ref x, b]) (CmpB Q) E s) : wpAny (model prog w) A (tryCompare (.ref x) "__eq__" b) Q E s := by
  obtain ⟨es, n, I, _⟩ := inst_at hx hm
  obtain ⟨e1, e2⟩ := eq213 w.params
  unfold tryCompare callSpecialIfBound? bindSpecialIfBound?
  refine wpAny_bind (wpAny_holding (wpAny_bind (wpAny_bind ?_)))
  unfold specialOf
  refine wpAny_bind (I.type.here ((looks_findIn X.K e1).here ?_))
  refine wpAny_bind (wpAny_askSetting (wpAny_ite ?_))
  have fin : wpAny (model prog w) A (do let __do_lift ← call (.ref 182) ([.ref x] ++ [b]); pure (some __do_lift)) (fun v s' => wpAny (model prog w) A (match v with | some .notImplemented | none => pure none | some v => pure (some v)) Q E s') E s := by
    refine wpAny_bind (wpAny_mono k (fun v s' q => wpAny_pure ?_) fun _ _ z => z)
    cases v <;> exact wpAny_pure q
  split
  · exact wpAny_bind ((bind_fn X.K _ e2).here (wpAny_pure fin))
  · exact wpAny_tryCatch (wpAny_bind ((bind_fn X.K _ e2).here (wpAny_pure fin)))
theorem rc_mm {x y dx dy : Addr} {lx : List (Str × Value)} {b : Bool} (X : WF w.params mg mb V) (le : V.StaysIn h) (hu : A.units < cLine) (hx : At V x (isI 213 dx)) (hmx : At V dx (isD lx)) (hy : At V y (isI 213 dy))
    (T : Tell prog w A (.ref 182) [.ref x, .ref y] [] V h fun v _ => v = .bool b) : TellC prog w A (compareOp .Eq (.ref x) (.ref y)) V h fun v _ => v = .bool b := by
  intro g d t os Q E k
  obtain ⟨ox, ex, rfl⟩ := hx.keeps le
  obtain ⟨oy, ey, rfl⟩ := hy.keeps le
  unfold compareOp
  show wpAny _ _ (richCompare .Eq (.ref x) (.ref y)) _ _ _
  unfold richCompare
  simp only [oneThing_ref]
  refine wpAny_holding (wpAny_bind (wpAny_cRoomFor hu ?_))
  rw [cmpInfo_Eq]
  dsimp only
  refine wpAny_bind (wpAny_typeOf_ref ex (wpAny_bind (wpAny_typeOf_ref ey ?_)))
  dsimp only [instObj]
  rw [show (Value.ref 213 != Value.ref 213) = false from by simp]
  simp only [Bool.false_eq_true, if_false]
  refine wpAny_bind (wpAny_pure ?_)
  simp only [Bool.false_eq_true, if_false]
  refine wpAny_bind (t_own (X.keeps le) (hx.keeps le) (hmx.keeps le) (T g d t os _ E fun v V' h' t' R p => ?_))
  subst p
  exact wpAny_pure (k _ V' h' t' R rfl)
theorem none_none (op1 : Str) {Q : Option Value → Shared → Prop} {s : Shared} {a : Addr} (hop : op1 = "__eq__") (q : Q none s) : wpAny (model prog w) A (tryCompare .none op1 (.ref a)) Q E s := by
  subst hop
  exact wpAny_tryCompare_declines rfl F.slot_NoneType_eq (call_gives F.slot_NoneType_eq rfl F.entry_NoneType_eq (F.args_NoneType_eq_2 _ _) (PySem.SeqAt.NoneType___eq___none_ref_0 a) ⟨rfl, q⟩)
theorem sub_made_none {P : Params} {h : Heap} (X : (hd.heap_39 P).In h) : Looks (model prog w) h (isSubtype (.ref 213) (.type "NoneType")) false := looks_subIn X (by k_is)
theorem rc_mn {x dx : Addr} {lx : List (Str × Value)} (X : WF w.params mg mb V) (le : V.StaysIn h) (hu : A.units < cLine) (hx : At V x (isI 213 dx)) (hmx : At V dx (isD lx))
    (T : Tell prog w A (.ref 182) [.ref x, .none] [] V h fun v _ => v = .notImplemented) : TellC prog w A (compareOp .Eq (.ref x) .none) V h fun v _ => v = .bool false := by
  intro g d t os Q E k
  obtain ⟨ox, ex, rfl⟩ := hx.keeps le
  unfold compareOp
  show wpAny _ _ (richCompare .Eq (.ref x) .none) _ _ _
  unfold richCompare
  simp only [oneThing_ref]
  refine wpAny_holding (wpAny_bind (wpAny_cRoomFor hu ?_))
  rw [cmpInfo_Eq]
  dsimp only
  refine wpAny_bind (wpAny_typeOf_ref ex (wpAny_bind (wpAny_typeOf (T := "NoneType") rfl ?_)))
  dsimp only [instObj]
  rw [show (Value.ref 213 != Value.type "NoneType") = true from by rfl]
  simp only [if_true]
  refine wpAny_bind (wpAny_of_eq (a := false) (by rfl) ?_)
  simp only [Bool.false_eq_true, if_false]
  refine wpAny_bind (t_own (X.keeps le) (hx.keeps le) (hmx.keeps le) (T g d t os _ E fun v V' h' t' R p => ?_))
  subst p
  refine wpAny_bind (none_none _ rfl ?_)
  refine wpAny_bind (wpAny_rule ?_)
  refine wpAny_bind (wpAny_of_eq (rfl : isSame (.ref x) .none = pure false) ?_)
  exact wpAny_pure (k _ V' h' t' R rfl)
theorem rc_nm {x dx : Addr} {lx : List (Str × Value)} (X : WF w.params mg mb V) (le : V.StaysIn h) (hu : A.units < cLine) (hx : At V x (isI 213 dx)) (hmx : At V dx (isD lx))
    (T : Tell prog w A (.ref 182) [.ref x, .none] [] V h fun v _ => v = .notImplemented) : TellC prog w A (compareOp .Eq .none (.ref x)) V h fun v _ => v = .bool false := by
  intro g d t os Q E k
  obtain ⟨ox, ex, rfl⟩ := hx.keeps le
  unfold compareOp
  show wpAny _ _ (richCompare .Eq .none (.ref x)) _ _ _
  unfold richCompare
  simp only [oneThing_ref]
  refine wpAny_holding (wpAny_bind (wpAny_cRoomFor hu ?_))
  rw [cmpInfo_Eq]
  dsimp only
  refine wpAny_bind (wpAny_typeOf (T := "NoneType") rfl (wpAny_bind (wpAny_typeOf_ref ex ?_)))
  dsimp only [instObj]
  rw [show (Value.type "NoneType" != Value.ref 213) = true from by rfl]
  simp only [if_true]
  refine wpAny_bind ((sub_made_none (X.K.keeps le)).here ?_)
  simp only [Bool.false_eq_true, if_false]
  refine wpAny_bind (none_none _ rfl ?_)
  refine wpAny_bind (t_own (X.keeps le) (hx.keeps le) (hmx.keeps le) (T g d t os _ E fun v V' h' t' R p => ?_))
  subst p
  refine wpAny_bind (wpAny_rule ?_)
  refine wpAny_bind (wpAny_of_eq (rfl : isSame .none (.ref x) = pure false) ?_)
  exact wpAny_pure (k _ V' h' t' R rfl)
theorem rc_nn (le : V.StaysIn h) : TellC prog w A (compareOp .Eq .none .none) V h fun v _ => v = .bool true := by
  intro g d t os Q E k
  exact PySem.SeqAt.RcAt.none_none prog w E Q (k _ V h t (Ret.refl le) rfl)
end
theorem gb_NotI (P : Params) : nsIn (hd.heap_39 P) mainGlobals "NotImplemented" = some none := by k_is
local macro_rules | `(tactic| wtm_at "v_gb") => `(tactic| with_reducible exact gb_NotI _)
local macro_rules | `(tactic| wtm_at "v_value") => `(tactic| ((with_reducible show wpAny _ _ (getAttr Value.none _ _) _ _ _); refine g_cls_none ?_; intro t))
section
variable {prog : Program} {w : World} {mg mb : Str → Option Value}
theorem kind_none {A : Around} {V h : Heap} (X : WF w.params mg mb V) (le : V.StaysIn h) (R : Room A 10) : Tell prog w A (.ref 224) [.none] [] V h fun v _ => v = .type "NoneType" := by
  intro g d t os Q E k
  refine c_def le X (by k_is) (by k_is) R.depth (BindsTo.of_eq rfl) (by rfl) ?_
  intro L h t S
  wtm_at "v_all"
  rename St _ _ _ _ _ => S
  exact k _ _ _ _ S.ret rfl
theorem eq_none {A : Around} {V h : Heap} {a da kd : Addr} {hv : Value} (X : WF w.params mg mb V) (le : V.StaysIn h) (R : Room A 12) (ha : At V a (isI 213 da)) (hda : At V da (isD [("kind", .ref kd), ("held", hv)])) :
    Tell prog w A (.ref 182) [.ref a, .none] [] V h fun v _ => v = .notImplemented := by
  intro g d t os Q E k
  refine c_def le X (by k_is) (by k_is) R.depth (BindsTo.of_eq rfl) (by rfl) ?_
  intro L h t S
  wtm_at "v_all"
  rename St _ _ _ _ _ => S
  refine c_tell S (kind_none (by wtm_at "v_wf") S.le (by wtm_at "v_rm")) ?_
  clear S
  rintro v V2 h2 t2 S hv2 rfl
  wtm_at "v_all"
  rename St _ _ _ _ _ => S
  exact k _ _ _ _ S.ret rfl
theorem cmp_spec {kd : Addr} (tr : T) : ∀ {A : Around} {V h : Heap} {v v' : Value} {tr' : T}, WF w.params mg mb V → V.StaysIn h → Room A (tr.high + 14) → KD V kd → Tree w prog V kd v tr → Tree w prog V kd v' tr' → TellC prog w A (compareOp .Eq v v') V h fun r _ => r = .bool (decide (tr = tr')) := by
  induction tr with
  | nil =>
    intro A V h v v' tr' X le R K x y
    simp only [T.high] at R
    cases x
    cases y with
    | nil => exact rc_nn le
    | node hn _ _ =>
      obtain ⟨da, hh, u1, u2, n1, n2, n3⟩ := hn
      exact rc_nm X le R.units n1 n2 (eq_none X le (by wtm_at "v_rm") n1 n2)
  | node l k r il ir =>
    intro A V h v v' tr' X le R K x y
    simp only [T.high] at R
    cases x with
    | @node a _ lv rv _ _ hn tl tr0 =>
      obtain ⟨da, hh, u1, u2, n1, n2, n3⟩ := hn
      cases y with
      | nil => exact rc_mn X le R.units n1 n2 (eq_none X le (by wtm_at "v_rm") n1 n2)
      | @node b k' lv' rv' l' r' hn' tl' tr0' =>
        obtain ⟨da', hh', u1', u2', n1', n2', n3'⟩ := hn'
        refine rc_mm X le R.units n1 n2 n1' ?_
        obtain ⟨kdd, mr, ta, le', lo, a0, a1, a2, a3, d0, d1, d2, d3, fa, fd, uu, u0, v0, w1, w2, w3, w4, w5, w6, k1, k2, k3, k4, H⟩ := K.open4
        intro g d t os Q E kk
        refine c_def le X (by k_is) (by k_is) R.depth (BindsTo.of_eq rfl) (by rfl) ?_
        intro L h t S
        have hdh := R.hd
        wtm_at "v_all"
        rename St _ _ _ _ _ => S
        refine c_tell S (kind_of_spec (by wtm_at "v_wf") S.le (by wtm_at "v_rm") n1' n2') ?_
        clear S
        rintro v V2 h2 t2 S hv2 rfl
        wtm_at "v_all"
        rename St _ _ _ _ _ => S
        refine c_tell S (eq_of_spec (by wtm_at "v_wf") S.le (by wtm_at "v_rm") (by wtm_at "v_at") (by wtm_at "v_at") (by wtm_at "v_at")) ?_
        clear S
        rintro v V3 h3 t3 S hv3 rfl
        wtm_at "v_all"
        refine x_for ?_
        wtm_at "v_all"
        rename St _ _ _ _ _ => S
        refine c_tell S (eq_of_spec (by wtm_at "v_wf") S.le (by wtm_at "v_rm") (by wtm_at "v_at") (by wtm_at "v_at") (by wtm_at "v_at")) ?_
        clear S
        rintro v V4 h4 t4 S hv4 rfl
        have k44 : At V4 le' (isL [.ref a0, .ref a1, .ref a2, .ref a3]) := k4.keeps (by wtm_at "v_st")
        obtain ⟨hta, i0, i1, i2, i3, c0, c1, c2, c3, fi, fc⟩ := H
        refine f_list S k44.weak hdh (Inv := fun i V' m own => own = [] ∧ m "self" = some (.ref a) ∧ m "other" = some (.ref b) ∧ (1 ≤ i → k = k') ∧ (2 ≤ i → l = l') ∧ (3 ≤ i → r = r')) ⟨rfl, rfl, rfl, fun z => absurd z (by decide), fun z => absurd z (by decide), fun z => absurd z (by decide)⟩ ?_ ?_
        · clear S
          rintro it i y V' m own h t hxi hv ⟨rfl, m1, m2, q1, q2, q3⟩ S
          rcases i with _ | _ | _ | _ | i
          · simp only [List.getElem?_cons_zero, Option.some.injEq] at hxi
            subst hxi
            wtm_at "v_all"
            rename St _ _ _ _ _ => S
            refine c_tell S (keyed_spec (by wtm_at "v_wf") S.le (by wtm_at "v_rm") (by wtm_at "v_at") (by wtm_at "v_at") (by wtm_at "v_at") (by wtm_at "v_at") (by wtm_at "v_at") (by rfl)) ?_
            clear S
            rintro v V5 h5 t5 S hv5 rfl
            wtm_at "v_all"
            rename St _ _ _ _ _ => S
            refine c_tell S (keyed_spec (by wtm_at "v_wf") S.le (by wtm_at "v_rm") (by wtm_at "v_at") (by wtm_at "v_at") (by wtm_at "v_at") (by wtm_at "v_at") (by wtm_at "v_at") (by rfl)) ?_
            clear S
            rintro v V6 h6 t6 S hv6 rfl
            wtm_at "v_all"
            by_cases hk : k = k'
            · rw [decide_eq_true hk]
              wtm_at "v_all"
              rename St _ _ _ _ _ => S
              exact Turn.next S (by wtm_at "v_st") ⟨rfl, m1, m2, fun _ => hk, fun z => absurd z (by decide), fun z => absurd z (by decide)⟩
            · rw [decide_eq_false hk]
              wtm_at "v_all"
              rename St _ _ _ _ _ => S
              refine Turn.ret ?_
              wtm_at "v_all"
              exact kk _ _ _ _ S.ret (by rw [decide_eq_false (fun e => hk (T.node.inj e).2.1)])
          · simp only [List.getElem?_cons_succ, List.getElem?_cons_zero, Option.some.injEq] at hxi
            subst hxi
            wtm_at "v_all"
            rename St _ _ _ _ _ => S
            refine c_tell S (keyed_spec (by wtm_at "v_wf") S.le (by wtm_at "v_rm") (by wtm_at "v_at") (by wtm_at "v_at") (by wtm_at "v_at") (by wtm_at "v_at") (by wtm_at "v_at") (by rfl)) ?_
            clear S
            rintro v V5 h5 t5 S hv5 rfl
            wtm_at "v_all"
            rename St _ _ _ _ _ => S
            refine c_tell S (keyed_spec (by wtm_at "v_wf") S.le (by wtm_at "v_rm") (by wtm_at "v_at") (by wtm_at "v_at") (by wtm_at "v_at") (by wtm_at "v_at") (by wtm_at "v_at") (by rfl)) ?_
            clear S
            rintro v V6 h6 t6 S hv6 rfl
            wtm_at "v_all"
            rename St _ _ _ _ _ => S
            refine c_tellc S (il (by wtm_at "v_wf") S.le (by wtm_at "v_rm") (KD.via (by wtm_at "v_st") K) (tl.via (by wtm_at "v_st")) (tl'.via (by wtm_at "v_st"))) ?_
            clear S
            rintro v V7 h7 t7 S hv7 rfl
            by_cases hk : l = l'
            · rw [decide_eq_true hk]
              wtm_at "v_all"
              rename St _ _ _ _ _ => S
              exact Turn.next S (by wtm_at "v_st") ⟨rfl, m1, m2, fun _ => q1 (by omega), fun _ => hk, fun z => absurd z (by decide)⟩
            · rw [decide_eq_false hk]
              wtm_at "v_all"
              rename St _ _ _ _ _ => S
              refine Turn.ret ?_
              wtm_at "v_all"
              exact kk _ _ _ _ S.ret (by rw [decide_eq_false (fun e => hk (T.node.inj e).1)])
          · simp only [List.getElem?_cons_succ, List.getElem?_cons_zero, Option.some.injEq] at hxi
            subst hxi
            wtm_at "v_all"
            rename St _ _ _ _ _ => S
            refine c_tell S (keyed_spec (by wtm_at "v_wf") S.le (by wtm_at "v_rm") (by wtm_at "v_at") (by wtm_at "v_at") (by wtm_at "v_at") (by wtm_at "v_at") (by wtm_at "v_at") (by rfl)) ?_
            clear S
            rintro v V5 h5 t5 S hv5 rfl
            wtm_at "v_all"
            rename St _ _ _ _ _ => S
            refine c_tell S (keyed_spec (by wtm_at "v_wf") S.le (by wtm_at "v_rm") (by wtm_at "v_at") (by wtm_at "v_at") (by wtm_at "v_at") (by wtm_at "v_at") (by wtm_at "v_at") (by rfl)) ?_
            clear S
            rintro v V6 h6 t6 S hv6 rfl
            wtm_at "v_all"
            rename St _ _ _ _ _ => S
            refine c_tellc S (ir (by wtm_at "v_wf") S.le (by wtm_at "v_rm") (KD.via (by wtm_at "v_st") K) (tr0.via (by wtm_at "v_st")) (tr0'.via (by wtm_at "v_st"))) ?_
            clear S
            rintro v V7 h7 t7 S hv7 rfl
            by_cases hk : r = r'
            · rw [decide_eq_true hk]
              wtm_at "v_all"
              rename St _ _ _ _ _ => S
              exact Turn.next S (by wtm_at "v_st") ⟨rfl, m1, m2, fun _ => q1 (by omega), fun _ => q2 (by omega), fun _ => hk⟩
            · rw [decide_eq_false hk]
              wtm_at "v_all"
              rename St _ _ _ _ _ => S
              refine Turn.ret ?_
              wtm_at "v_all"
              exact kk _ _ _ _ S.ret (by rw [decide_eq_false (fun e => hk (T.node.inj e).2.2)])
          · simp only [List.getElem?_cons_succ, List.getElem?_cons_zero, Option.some.injEq] at hxi
            subst hxi
            obtain rfl := q1 (by omega)
            obtain rfl := q2 (by omega)
            obtain rfl := q3 (by omega)
            wtm_at "v_all"
            rename St _ _ _ _ _ => S
            refine c_tell S (keyed_spec (by wtm_at "v_wf") S.le (by wtm_at "v_rm") (by wtm_at "v_at") (by wtm_at "v_at") (by wtm_at "v_at") (by wtm_at "v_at") (by wtm_at "v_at") (by rfl)) ?_
            clear S
            rintro v V5 h5 t5 S hv5 rfl
            wtm_at "v_all"
            rename St _ _ _ _ _ => S
            refine c_tell S (keyed_spec (by wtm_at "v_wf") S.le (by wtm_at "v_rm") (by wtm_at "v_at") (by wtm_at "v_at") (by wtm_at "v_at") (by wtm_at "v_at") (by wtm_at "v_at") (by rfl)) ?_
            clear S
            rintro v V6 h6 t6 S hv6 rfl
            wtm_at "v_all"
            rw [decide_eq_true rfl]
            wtm_at "v_all"
            rename St _ _ _ _ _ => S
            exact Turn.next S (by wtm_at "v_st") ⟨rfl, m1, m2, fun _ => rfl, fun _ => rfl, fun _ => rfl⟩
          · simp at hxi
        · clear S
          rintro V6 m own h t hv6 ⟨rfl, m1, m2, q1, q2, q3⟩ S
          obtain rfl := q1 (show 1 ≤ 4 by decide)
          obtain rfl := q2 (show 2 ≤ 4 by decide)
          obtain rfl := q3 (show 3 ≤ 4 by decide)
          wtm_at "v_all"
          rename St _ _ _ _ _ => S
          exact kk _ _ _ _ S.ret (by rw [decide_eq_true rfl])
end
def isTb (ps : Array Value) : OP := fun o => o = tabObj ps
def isCR (qual : Str) : OP := fun o => ∃ vs t, o.data = .fields vs ∧ vs[1]? = some (.str qual t)
def isFn (name qual : Str) (params : Arguments) (body : List Stmt) (scope : Scope) (c' : Addr) : OP := fun o => ∃ doc pm ctv, o = fnMade name qual params body scope [] doc pm c' ctv
def BM (mg : Str → Option Value) (V : Heap) : Prop := ∃ bm ob, mg "__builtins__" = some (.ref bm) ∧ bm ≠ builtinsNs ∧ V.get? bm = some ob ∧ ob.cls = .type "module" ∧ ob.dict = some builtinsNs ∧ ob.data = .plain
theorem BM.keeps {mg : Str → Option Value} {V V' : Heap} (x : BM mg V) (k : V.StaysIn V') : BM mg V' := let ⟨bm, ob, a, b, c, d⟩ := x; ⟨bm, ob, a, b, k _ _ c, d⟩
theorem BM.at {mg : Str → Option Value} {V h : Heap} {P : Addr} {ps : Array Value} (x : BM mg V) (hg : V.Ns mainGlobals mg) (k : V.StaysIn h) (hP : h.get? P = some (tabObj ps)) : h.BuiltinsAt mg P := by
  obtain ⟨bm, ob, a, b, c, d, e, f⟩ := x
  refine ⟨bm, ob, a, b, ?_, ?_, k _ _ c, d, e, f⟩
  · rintro rfl
    obtain ⟨o, es, ep, e', hd', _⟩ := hg
    rw [e'] at c; cases c; rw [hd'] at f; cases f
  · rintro rfl
    rw [k _ _ c] at hP; cases hP; cases d
structure NX (mg : Str → Option Value) (V : Heap) : Prop where
  c : CodeHd V 249 245
  b : BM mg V
theorem NX.keeps {mg : Str → Option Value} {V V' : Heap} (x : NX mg V) (k : V.StaysIn V') : NX mg V' := ⟨x.c.keeps fun _ _ e => k _ _ e, x.b.keeps k⟩
structure TV (V : Heap) (line col : Nat) (qual : Str) : Prop where
  ex : ∃ c', At V 245 (isTb #[rawInt line, rawInt col, .ref c']) ∧ At V c' (isCR qual)
theorem TV.keeps {V V' : Heap} {line col : Nat} {qual : Str} (x : TV V line col qual) (k : V.StaysIn V') : TV V' line col qual := let ⟨c', a, b⟩ := x; ⟨c', a.keeps k, b.keeps k⟩
section
variable {prog : Program} {w : World} {A : Around} {E : Value → Shared → Prop} {h₀ W V h : Heap} {own own' : List (Addr × OP)} {g : Array GenState} {d : Drawn} {t : Nat} {os : OsState} {env : Env} {mg mb : Str → Option Value}
theorem St.push3 {L : Addr} {m : Str → Option Value} {φ χ ξ : OP} {h' : Heap} {P c' : Addr} {ψ : OP} {o : Obj} (S : St h₀ W V ((L, isNs m) :: (P, φ) :: own) h) (k : Heap.ExtBut P h h') (x : At h' P ψ) (y : At h' c' χ) (z : h.get? c' = none) (hf : o.isFreed = false) (hx : ξ o) :
    ∃ V', St h₀ W V' ((L, isNs m) :: own) (h'.push o) ∧ V.StaysIn V' ∧ At V' P ψ ∧ At V' c' χ ∧ At V' h'.objs.size ξ := by
  have S1 := S.updNew (.tail .head) k x y z
  have S2 := S1.push o hf hx
  have p : List.Perm ((L, isNs m) :: (P, ψ) :: (c', χ) :: (h'.objs.size, ξ) :: own) ((h'.objs.size, ξ) :: (c', χ) :: (L, isNs m) :: (P, ψ) :: own) := by
    have a : List.Perm ((L, isNs m) :: (P, ψ) :: (c', χ) :: (h'.objs.size, ξ) :: own) ((c', χ) :: (h'.objs.size, ξ) :: (L, isNs m) :: (P, ψ) :: own) :=
      (List.perm_append_comm_assoc [(L, isNs m), (P, ψ)] [(c', χ), (h'.objs.size, ξ)] own)
    exact a.trans (.swap ..)
  obtain ⟨V1, S3, v1, a1⟩ := (S2.perm p).seal2
  obtain ⟨V2, S4, v2, a2⟩ := S3.seal2
  obtain ⟨V3, S5, v3, a3⟩ := S4.seal2
  exact ⟨V3, S5, stays_trans v1 (stays_trans v2 v3), a1.keeps (stays_trans v2 v3), a2.keeps v3, a3⟩
theorem cr_at {c' : Addr} {qual : Str} (x : At h c' (isCR qual)) : h.CodeRec (.ref c') qual := let ⟨o, e, vs, t, a, b⟩ := x; ⟨c', o, vs, t, rfl, e, a, b⟩
theorem at_cr {c' : Addr} {qual : Str} (x : h.CodeRec (.ref c') qual) : At h c' (isCR qual) := by
  obtain ⟨c, o, vs, t, e, a, b, r⟩ := x
  cases e
  exact ⟨o, a, vs, t, b, r⟩
theorem x_def0 {L a : Addr} {m : Str → Option Value} {cn name qual : Str} {cs scope : Scope} {params : Arguments} {body : List Stmt} {pos : Pos} {cl : List (Str × Addr)} {Q : Flow → Shared → Prop}
    (S : St h₀ W V ((L, isNs m) :: (245, isTb #[]) :: own) h) (X : WF w.params mg mb V) (N : NX mg V) (hcl : closureFor scope (envX cn cs L a (.ref 249) cl) = pure [])
    (k : ∀ f V' h' t', St h₀ W V' ((L, isNs m) :: own) h' → V.StaysIn V' → TV V' pos.line pos.col qual → (∃ c', At V' f (isFn name qual params body scope c') ∧ At V' c' (isCR qual)) →
      wpAny (model prog w) A (storeName (envX cn cs L a (.ref 249) cl) name (.ref f)) (fun _ s'' => Q .next s'') E ⟨h', g, d, t', os⟩)
    (hq : qualnameIn (envX cn cs L a (.ref 249) cl) name name = qual := by kernel_rfl) (hd0 : params.defaults = [] := by rfl) (hk0 : params.kw_defaults = [] := by rfl) (ha : annTrees params none (envX cn cs L a (.ref 249) cl) = [] := by rfl) :
    wpAny (model prog w) A (exec (.FunctionDef name params body [] none [] scope none name pos) (envX cn cs L a (.ref 249) cl)) Q E ⟨h, g, d, t, os⟩ := by
  refine nestDef_K hd0 hk0 ha ?_
  rw [hq]
  obtain ⟨o, e, rfl⟩ := S.get (a := 245) (.tail _ (.head _))
  have gP : mainGlobals ≠ 245 := by decide
  refine makeFunction_K (mg := mg) (c := 249) (P := 245) (ps := #[]) hcl rfl (X.g.keeps S.le) rfl (N.c.keeps fun _ _ e => S.le _ _ e) e trivial rfl gP (N.b.at X.g S.le e) fun c' ctv doc h' tk hx hge hlt hrec htb => ?_
  have z : h.get? c' = none := Heap.get?_none_of_le hge
  rw [Array.empty_append] at htb
  obtain ⟨V', S', hv, p1, p2, p3⟩ := S.push3 (ψ := isTb #[rawInt pos.line, rawInt pos.col, .ref c']) (ξ := isFn name qual params body scope c') hx ⟨_, htb, rfl⟩ (at_cr hrec) z rfl ⟨doc, _, ctv, rfl⟩
  exact k _ V' _ tk S' hv ⟨c', p1, p2⟩ ⟨c', p3, p2⟩
theorem x_def1 {L a : Addr} {m : Str → Option Value} {cn name qual : Str} {cs scope : Scope} {params : Arguments} {body : List Stmt} {pos : Pos} {cl : List (Str × Addr)} {Q : Flow → Shared → Prop}
    (S : St h₀ W V ((L, isNs m) :: own) h) (X : WF w.params mg mb V) (N : NX mg V) (Tb : TV V pos.line pos.col qual) (hcl : closureFor scope (envX cn cs L a (.ref 249) cl) = pure [])
    (k : ∀ f V' h' t', St h₀ W V' ((L, isNs m) :: own) h' → V.StaysIn V' → (∃ c', At V' f (isFn name qual params body scope c') ∧ At V' c' (isCR qual)) →
      wpAny (model prog w) A (storeName (envX cn cs L a (.ref 249) cl) name (.ref f)) (fun _ s'' => Q .next s'') E ⟨h', g, d, t', os⟩)
    (hq : qualnameIn (envX cn cs L a (.ref 249) cl) name name = qual := by kernel_rfl) (hd0 : params.defaults = [] := by rfl) (hk0 : params.kw_defaults = [] := by rfl) (ha : annTrees params none (envX cn cs L a (.ref 249) cl) = [] := by rfl) :
    wpAny (model prog w) A (exec (.FunctionDef name params body [] none [] scope none name pos) (envX cn cs L a (.ref 249) cl)) Q E ⟨h, g, d, t, os⟩ := by
  refine nestDef_K hd0 hk0 ha ?_
  rw [hq]
  obtain ⟨c', p1, p2⟩ := Tb
  obtain ⟨o, e, rfl⟩ := S.view p1
  have am : codeAmong pos (#[rawInt pos.line, rawInt pos.col, Value.ref c']).toList = some (.ref c') := codeAmong_snoc [] trivial rfl
  refine makeFunction_hit (mg := mg) (c := 249) (P := 245) (cv := .ref c') hcl rfl (X.g.keeps S.le) rfl (N.c.keeps fun _ _ e => S.le _ _ e) e (TriplesOk_snoc _ _ _ [] trivial) am (N.b.at X.g S.le e) fun ctv doc h' tk hx hsz => ?_
  have S1 := (S.grow hx).push2 (φ := isFn name qual params body scope c') { cls := .type "function", data := .func (fnX name qual params body scope [] .none .none doc ((mg "__name__").getD .none) none (.ref c') ctv) } rfl ⟨doc, _, ctv, rfl⟩
  obtain ⟨V', S2, hv, p3⟩ := S1.seal2
  exact k _ V' _ tk S2 hv ⟨c', p3, p2.keeps hv⟩
theorem c_fn {name qual : Str} {params : Arguments} {body : List Stmt} {scope : Scope} {f : Addr} {args : List Value} {kw binds : List (Str × Value)} {Q : Value → Shared → Prop}
    (le : V.StaysIn h) (X : WF w.params mg mb V) (F : ∃ c', At V f (isFn name qual params body scope c') ∧ At V c' (isCR qual)) (hroom : A.depth < recursionLimit)
    (hbind : ∀ cdv doc pm ctv, BindsTo ⟨h, g, d, t, os⟩ (fnX name qual params body scope [] .none .none doc pm none cdv ctv) ⟨args, kw⟩ binds) (hloc : (binds.all fun y => decide (scope.names.lookup y.1 = some .local)) = true)
    (k : ∀ L cdv h₁ t', St h V V [(L, isNs fun x => binds.reverse.lookup x)] h₁ → wpAny (model prog w) (A.deeper (envX qual scope L f cdv [])) (execs body (envX qual scope L f cdv [])) (Done Q) (fun _ _ => False) ⟨h₁, g, d, t', os⟩)
    (hcell : ∀ x ∈ scope.names, x.2 ≠ .cell := by decide) (hco : scope.isCoroutine = false := by rfl) (hgen : scope.isGenerator = false := by rfl) (hk : scope.kind = .function := by rfl) :
    wpAny (model prog w) A (call (.ref f) args kw) Q E ⟨h, g, d, t, os⟩ := by
  obtain ⟨c', ⟨o, e, doc, pm, ctv, rfl⟩, p2⟩ := F
  refine wpAny_call (codeAny_call_def (fd := fnX name qual params body scope [] .none .none doc pm none (.ref c') ctv) (body := body) (binds := binds) hroom (le _ _ e) rfl (X.nl.keeps le) (cr_at (p2.keeps le)) rfl (hbind _ _ _ _) hcell (locs hloc) (fun h₁ hns hk₁ => ?_) hco hgen hk)
  refine wpAny_mono (k h.objs.size (.ref c') h₁ _ (St.enter (h := h) le hns hk₁ (get_top h))) (fun fl s' q => ?_) fun _ _ q => q.elim
  cases fl <;> exact q
theorem keep_F {name qual : Str} {params : Arguments} {body : List Stmt} {scope : Scope} {f : Addr} (F : ∃ c', At h f (isFn name qual params body scope c') ∧ At h c' (isCR qual)) : Keep prog w (.ref f) h := by
  obtain ⟨c', ⟨o, e, doc, pm, ctv, rfl⟩, p2⟩ := F
  exact ⟨.frame, (Looks.ld (part := none) e).andThen .now⟩
theorem w_keep {pos : Pos} {f : Value} {first : List Value} {e : Expr} {rest : List Expr} {Q : Value → Shared → Prop} {s : Shared} (x : wpAny (model prog w) A (spliced (backTo pos (starEach (e :: rest) env))) (fun vs s₁ => Keep prog w f s₁.heap ∧ wpAny (model prog w) A (call f (first ++ vs) []) Q E s₁) E s)
    (he : starEach (e :: rest) env = (false, eval e env) :: starEach rest env := by rfl) : wpAny (model prog w) A (callWith pos f first (backTo pos (starEach (e :: rest) env)) []) Q E s := by
  rw [he] at x ⊢
  exact w_any (evalArgs_plain x)
def isM (f self : Value) : OP := fun o => o = methodObj f self
theorem m_cm {C p : Addr} {f mc : Value} {rest : List Value} {name : Str} {fr : Addr × OP} {pl : Sem Bool} {Q : Value × List Value → Shared → Prop} (S : St h₀ W V (fr :: own) h) (X : WF w.params mg mb V) (hg : specialIn (hd.heap_39 w.params) (.ref C) "__getattribute__" = some (some (.builtin "type.__getattribute__")))
    (hr : readsIn (hd.heap_39 w.params) C mc = true) (e : findCls (hd.heap_39 w.params) (.ref C) mc name = some (.get (.builtin "classmethod.__get__") (.ref p) .none (.ref C))) (hp : recIn (hd.heap_39 w.params) p "classmethod" = some (f :: rest))
    (k : ∀ q V' h' t', St h₀ W V' (fr :: own) h' → V.StaysIn V' → At V' q (isM f (.ref C)) → Q (.ref q, []) ⟨h', g, d, t', os⟩) : wpAny (model prog w) A (getMethod (.ref C) name pl) Q E ⟨h, g, d, t, os⟩ := by
  have XK := X.K.keeps S.le
  refine method_cls XK hg (cls_bind (s := ⟨h, g, d, t, os⟩) XK hr e (wpAny_call (cm_get (s := ⟨h, g, d, t + 1, os⟩) XK hp (handed_on rfl ?_))))
  obtain ⟨V', S', hv, hq⟩ := S.new (φ := isM f (.ref C)) (methodObj f (.ref C)) rfl rfl
  exact k _ V' _ _ S' hv hq
theorem keep_M {q gf : Addr} {self : Value} (S : St h₀ W V own h) (X : WF w.params mg mb V) (x : At h q (isM (.ref gf) self)) (hf : fnIn (hd.heap_39 w.params) gf = true) : Keep prog w (.ref q) h := by
  obtain ⟨o, e, rfl⟩ := x
  obtain ⟨k, _, L⟩ := keeps_M (M := model prog w) (self := self) hf h ⟨e, X.K.keeps S.le⟩
  exact ⟨k, L⟩
def TellR (prog : Program) (w : World) (A : Around) (f : Addr) (args : List Value) (kw : List (Str × Value)) (V h : Heap) (P : Value → Heap → Prop) : Prop :=
  ∀ (g : Array GenState) (d : Drawn) (t : Nat) (os : OsState) (R : Result → Shared → Prop), (∀ v V' h' t', Ret V h V' h' → P v V' → R (.ok (.ret v)) ⟨h', g, d, t', os⟩) → codeAny (model prog w) A (.call (.ref f) ⟨args, kw⟩) R ⟨h, g, d, t, os⟩
theorem c_defR {name qual : Str} {params : Arguments} {body : List Stmt} {scope : Scope} {dV kV doc pm cdv ct oc : Value} {an od : Option Addr} {osl : Array (Option Value)} {f : Addr} {args : List Value} {kw binds : List (Str × Value)} {R : Result → Shared → Prop}
    (le : V.StaysIn h) (X : WF w.params mg mb V) (ho : (hd.heap_39 w.params).lookup f = some ⟨oc, od, .func (fnX name qual params body scope [] dV kV doc pm an cdv ct), osl⟩) (hcd : codeIn (hd.heap_39 w.params) cdv qual = true) (hroom : A.depth < recursionLimit)
    (hbind : BindsTo ⟨h, g, d, t, os⟩ (fnX name qual params body scope [] dV kV doc pm an cdv ct) ⟨args, kw⟩ binds) (hloc : (binds.all fun y => decide (scope.names.lookup y.1 = some .local)) = true)
    (k : ∀ L h₁ t', St h V V [(L, isNs fun x => binds.reverse.lookup x)] h₁ → wpAny (model prog w) (A.deeper (envX qual scope L f cdv [])) (execs body (envX qual scope L f cdv [])) (Done fun v s => R (.ok (.ret v)) s) (fun _ _ => False) ⟨h₁, g, d, t', os⟩)
    (hcell : ∀ x ∈ scope.names, x.2 ≠ .cell := by decide) (hco : scope.isCoroutine = false := by rfl) (hgen : scope.isGenerator = false := by rfl) (hk : scope.kind = .function := by rfl) :
    codeAny (model prog w) A (.call (.ref f) ⟨args, kw⟩) R ⟨h, g, d, t, os⟩ := by
  have XK := X.K.keeps le
  refine codeAny_call_def (fd := fnX name qual params body scope [] dV kV doc pm an cdv ct) (body := body) (binds := binds) hroom (XK _ _ ho) rfl (X.nl.keeps le) (codeRec_of XK hcd) rfl hbind hcell (locs hloc) (fun h₁ hns hk₁ => ?_) hco hgen hk
  refine wpAny_mono (k h.objs.size h₁ _ (St.enter (h := h) le hns hk₁ (get_top h))) (fun fl s' q => ?_) fun _ _ q => q.elim
  cases fl <;> exact q
theorem c_meth {q f : Addr} {self : Value} {args : List Value} {kw : List (Str × Value)} {P : Value → Heap → Prop} {Q : Value → Shared → Prop} (S : St h₀ W V own h) (x : At h q (isM (.ref f) self)) (T : TellR prog w A f (self :: args) kw V h P)
    (k : ∀ v V' h' t', St h₀ W V' own h' → V.StaysIn V' → P v V' → Q v ⟨h', g, d, t', os⟩) : wpAny (model prog w) A (call (.ref q) args kw) Q E ⟨h, g, d, t, os⟩ := by
  obtain ⟨o, e, rfl⟩ := x
  refine wpAny_call (codeAny_of_tree ?_)
  show wpAny _ _ (callAny (.ref q) _) _ _ _
  refine nd_load (s := ⟨h, g, d, t, os⟩) e ?_
  exact wpAny_pure ⟨rfl, T g d t os (fun r s' => match r with | .ok (.ret v) => Q v s' | .ok _ => False | .error e => E e s') fun v V' h' t' R p => k v V' h' t' (S.call R) R.sub p⟩
theorem kind_callable : builtinKind "callable" = none := by decide +kernel
theorem plain_callable : plainId "callable" = true := by decide +kernel
theorem entry_callable : entryFor table "callable" = some Builtin.«callable» := entryFor_of_fast (by kernel_rfl)
theorem args_callable (a : Value) : argsOk "callable" ⟨[a], []⟩ := by unfold argsOk; kernel_rfl
theorem lk_bool_call : typeLookup (.type "bool") "__call__" = pure none := by rw [typeLookup_type, builtinLookup_eq_fast]; kernel_rfl
theorem c_callable {b : Bool} {Q : Value → Shared → Prop} {s : Shared} (k : Q (.bool false) s) : wpAny (model prog w) A (call (.builtin "callable") [.bool b]) Q E s := by
  refine Calls.call_function_entry kind_callable plain_callable entry_callable (args_callable _) ?_
  unfold Builtin.«callable»
  refine wpAny_bind (wpAny_of_eq (a := Value.bool b) rfl ?_)
  refine wpAny_bind (wpAny_of_eq (a := none) ?_ ?_)
  · unfold specialOf
    show (typeLookup (.type "bool") (Str.ofString "__call__")) = _
    exact lk_bool_call
  · exact wpAny_pure ⟨_, rfl, k⟩
theorem i_dict {a : Addr} {kvs : List (Str × Value)} {c : Value} {b : Bool} {Q : Value → Shared → Prop} (S : St h₀ W V own h) (X : WF w.params mg mb V) (hx : At h a (isK w prog kvs)) (e : kitOne (hd.heap_39 w.params) (.type "dict") c = some b) (k : ∀ t', Q (.bool b) ⟨h, g, d, t', os⟩) :
    wpAny (model prog w) A (call (.builtin "isinstance") [.ref a, c]) Q E ⟨h, g, d, t, os⟩ := by
  obtain ⟨o, eo, es, ep, hx, _⟩ := hx
  exact kia_one (x := .ref a) kitx_dict (X.K.keeps S.le) ⟨o, eo, hx.1⟩ e (by intro z; cases z) fun tk => k tk
theorem c_tup_list {f : Addr × OP} {l : Addr} {xs : List Value} {Q : Value → Shared → Prop} (S : St h₀ W V (f :: own) h) (hl : At h l (isLw xs)) (hz : xs.length ≤ sizeLine) (k : ∀ a V' h', St h₀ W V' (f :: own) h' → V.StaysIn V' → At V' a (isT xs) → Q (.ref a) ⟨h', g, d, t, os⟩) :
    wpAny (model prog w) A (call (.type "tuple") [.ref l]) Q E ⟨h, g, d, t, os⟩ := by
  refine PySem.call_tuple_list (list_at.mpr hl) (fun h' hk => ?_) (by rw [List.size_toArray]; exact hz)
  obtain ⟨V', S', hv, ha⟩ := (S.grow (h' := h') hk).new (φ := isT xs) { cls := .type "tuple", data := .seq xs.toArray } rfl ⟨rfl, 0, rfl⟩
  exact k _ V' _ S' hv ha
theorem c_nes {a b : Str} {u v : Tok} {Q : Value → Shared → Prop} {s : Shared} (k : Q (.bool (a.cps.toList != b.cps.toList)) s) : wpAny (model prog w) A (compareOp .NotEq (.str a u) (.str b v)) Q E s := PySem.P.ne_str k
theorem a_attr {o : Expr} {attr : Str} {pos : Pos} {v : Value} {Q : Unit → Shared → Prop} {s : Shared} (x : wpAny (model prog w) A (eval o env) (fun ov s₁ => wpAny (model prog w) A (setAttr ov attr v) (fun _ s₂ => Q () s₂) E s₁) E s) : wpAny (model prog w) A (assign (.Attribute o attr pos) env v) Q E s := by
  rw [assign_Attribute]
  refine wpAny_bind (wpAny_holding (wpAny_mono x (fun ov s₁ q => wpAny_bind (wpAny_standAt (wpAny_bind (wpAny_holding (wpAny_mono q (fun _ s₂ q₂ => ?_) fun _ _ z => z))))) fun _ _ z => z))
  exact wpAny_release q₂
theorem s_slice2 {f : Addr × OP} {l : Addr} {xs : List Value} {vl vu vk : Value} {lo hi st : Option Int} {value slice : Expr} {ops : List Value} {Q : Value → Shared → Prop} (S : St h₀ W V (f :: own) h) (hl : At h l (isLw xs)) (pl : IsPart vl lo) (pu : IsPart vu hi) (pk : IsPart vk st) (h0 : st ≠ some 0) (hz : xs.length ≤ sizeLine)
    (k : ∀ r h', St h₀ W V (f :: (r, isL (slicePick xs.toArray lo hi st).toList) :: own) h' → Q (.ref r) ⟨h', g, d, t, os⟩)
    (hs : subscripted slice false (.ref l) (.ref h.objs.size) = operate ops (getItem (.ref l) (.ref h.objs.size)) := by with_unfolding_all rfl) :
    wpAny (model prog w) A (subscriptTail value slice (.ref l) (.ref h.objs.size)) Q E ⟨h.push { cls := .type "slice", data := .fields #[vl, vu, vk] }, g, d, t, os⟩ := by
  have hl' := list_at.mpr (hl.push { cls := .type "slice", data := .fields #[vl, vu, vk] })
  have S1 := S.grow (stays_push h { cls := .type "slice", data := .fields #[vl, vu, vk] })
  refine tail_any (Heap.IsList.typeIs (s := ⟨h.push { cls := .type "slice", data := .fields #[vl, vu, vk] }, g, d, t, os⟩) hl') list_getitem_lookup
    (wpAny_getItem_list_slice hl' (Heap.IsSliceOf.new ..) pl pu pk h0 (k _ _ (S1.push2 _ rfl ⟨0, ?_⟩)) (by rw [List.size_toArray]; exact hz)) hs
  simp
theorem m_lstrip {x : Str} {u : Tok} {pl : Sem Bool} {Q : Value × List Value → Shared → Prop} {s : Shared} (k : Q (.builtin "str.lstrip", [.str x u]) s) : wpAny (model prog w) A (getMethod (.str x u) "lstrip" pl) Q E s := PySem.GM.lstrip k
theorem c_lstrip {x y : Str} {u v : Tok} {Q : Value → Shared → Prop} {s : Shared} (hs : stripSame y.cps.contains true false x = true) (k : Q (.str x u) s) : wpAny (model prog w) A (call (.builtin "str.lstrip") [.str x u, .str y v]) Q E s := by
  refine call_gives F.slot_str_lstrip (typeIs_str _ _ _) F.entry_str_lstrip (F.args_str_lstrip_2 _ _) (gives_str_lstrip_chars x y u v) ?_
  rw [if_pos hs]
  exact k
def isS (w : World) (prog : Program) (n : Nat) : OP := fun o => ∃ (S : Str → Bool) (es : Array (Int × Value)) (ep : Nat) (t : SetTable), o.ExactSet ∧ o.data = .set es ep t ∧ ElemsOf (strKind prog w) es.toList ∧ (∀ k, S k = true ↔ ∃ e ∈ es.toList, (strKind prog w).is k e.2 = true) ∧ es.size < scanBound ∧ t.fits es.size = true ∧ es.size ≤ n
theorem set_at {a : Addr} {n : Nat} (x : At h a (isS w prog n)) : ∃ S m, m ≤ n ∧ h.SetOf (strKind prog w) a S m := let ⟨o, e, S, es, ep, t, p1, p2, p3, p4, p5, p6, p7⟩ := x; ⟨S, es.size, p7, o, es, ep, t, e, p1, p2, p3, p4, p5, p6, rfl⟩
theorem at_set {a : Addr} {n m : Nat} {S : Str → Bool} (x : h.SetOf (strKind prog w) a S m) (hm : m ≤ n) : At h a (isS w prog n) := let ⟨o, es, ep, t, e, p1, p2, p3, p4, p5, p6, p7⟩ := x; ⟨o, e, S, es, ep, t, p1, p2, p3, p4, p5, p6, by omega⟩
theorem s_add {a : Addr} {n : Nat} {x : Str} {u : Tok} {Q : Value → Shared → Prop} (S : St h₀ W V own h) (up : Upd1 a (isS w prog n) (isS w prog (n + 1)) own own') (hz : n + 1 < scanBound) (k : ∀ h' t', St h₀ W V own' h' → Q .none ⟨h', g, d, t', os⟩) :
    wpAny (model prog w) A (call (.builtin "set.add") [.ref a, .str x u]) Q E ⟨h, g, d, t, os⟩ := by
  obtain ⟨Sf, m, hm, hS⟩ := set_at (S.get up.mem)
  refine call_set_add (knd := strKind prog w) (k := x) (s := ⟨h, g, d, t, os⟩) (strKind_is prog w x u) rfl hS (by omega) fun h' hs hS' => k h' _ (S.upd up hs (at_set hS' (by split <;> omega)))
theorem compTurn_set (elt target iter : Expr) (ifs : List Expr) (scope : Scope) (pos : Pos) (it acc : Value) (env : Env) :
    compTurn (.SetComp elt [⟨target, iter, ifs, 0⟩] scope pos) 0 it acc env = (do
      standAt iter.pos
      match ← pyNext it with
      | none => pure (.done .next)
      | some v =>
        letOwnedTupleGo target it v
        assign target env v
        let mut ok := true
        for c in ifs do
          if ok then ok ← isTrue c env (eval c env)
        if ok then
          (do let v ← eval elt env; standAt elt.pos; let _ ← call (.builtin "set.add") [acc, v])
        again (.compLoop (.SetComp elt [⟨target, iter, ifs, 0⟩] scope pos) 0 it acc env)) := by rfl
theorem start_set {elt target iter : Expr} {ifs : List Expr} {rest : List Comprehension} {scope : Scope} {pos : Pos} {it acc : Value} {R : Result → Shared → Prop} {s : Shared}
    (h0 : codeAny (model prog w) A (.compLoop (.SetComp elt (⟨target, iter, ifs, 0⟩ :: rest) scope pos) 0 it acc env) R s)
    (h : wpAny (model prog w) A (pyIter it) (fun it' s' => codeAny (model prog w) A (.compLoop (.SetComp elt (⟨target, iter, ifs, 0⟩ :: rest) scope pos) 0 it' acc env) R s') (notedBy (model prog w) A env fun x s' => R (.error x) s') s) :
    codeAny (model prog w) A (.compStart (.SetComp elt (⟨target, iter, ifs, 0⟩ :: rest) scope pos) 0 it acc env) R s := by
  refine codeAny_of_tree ?_
  show wpAny _ A ((compStart (.SetComp elt (⟨target, iter, ifs, 0⟩ :: rest) scope pos) 0 it acc env).onRaise (fun x => do noteFrame x env; standAt theWindowsPlace)) _ _ s
  refine wpAny_notedAt ?_
  unfold compStart
  show wpAny _ A (ask >>= _) _ _ s
  refine wpAny_bind (wpAny_askSetting (wpAny_ite ?_))
  split
  · first
      | exact wpAny_bind (wpAny_pure (wpAny_pure (And.intro rfl h0)))
      | exact wpAny_pure (And.intro rfl h0)
  · first
      | exact wpAny_bind (wpAny_rule (wpAny_bind (wpAny_standAt (wpAny_bind (wpAny_mono h (fun it' s' h' => wpAny_pure (And.intro rfl h')) fun _ _ x => x)))))
      | (refine wpAny_bind (wpAny_rule ?_); show wpAny _ _ (standAt iter.pos >>= _) _ _ s; exact wpAny_bind (wpAny_standAt (wpAny_bind (wpAny_mono h (fun it' s' h' => wpAny_pure (And.intro rfl h')) fun _ _ x => x))))
theorem e_sc {elt target iter : Expr} {ifs : List Expr} {scope : Scope} {pos : Pos} {cl : List (Str × Addr)} {Q : Value → Shared → Prop} {s : Shared} (hcl : closureFor scope env = pure cl)
    (x : wpAny (model prog w) A (eval iter env) (fun xv s₁ => wpAny (model prog w) A (pyIter xv) (CompGo prog w A E env (.SetComp elt [⟨target, iter, ifs, 0⟩] scope pos) scope cl (newSet (.type "set")) none Q) E s₁) E s)
    (hk : scope.kind = .function := by rfl) (hn : ∀ x ∈ scope.names, x.2 = .local → scope.names.lookup x.1 = some .local := by decide) (hs : ∀ x, foldedSetIterable iter env x = pure x := by intro _; rfl) :
    wpAny (model prog w) A (eval (.SetComp elt [⟨target, iter, ifs, 0⟩] scope pos) env) Q E s := by
  rw [arm_eval_SetComp]
  exact wpAny_comprehension_free (use := none) rfl hs hcl hk hn x
theorem go_set {elt target iter : Expr} {ifs : List Expr} {scope : Scope} {pos : Pos} {cl : List (Str × Addr)} {use : Option (Value → Sem Unit)} {Q : Value → Shared → Prop} {L it : Addr} {m : Str → Option Value} {its : Nat → List (Addr × OP)} {n : Nat} {item : Nat → Value → Heap → Heap → Prop}
    (S : St h₀ W V ((L, isNs m) :: (its 0 ++ own)) h) (src : Src prog w A target h₀ W it its n item V)
    (k : ∀ C D h, St h₀ W V ((C, isNs fun _ => none) :: (its 0 ++ ((D, isS w prog 0) :: (L, isNs m) :: own))) h →
      ∃ Inv : Nat → Heap → List (Addr × OP) → Prop, Inv 0 V ((D, isS w prog 0) :: (L, isNs m) :: own) ∧
      (∀ i x V' V'' mc own h t, i < n → V.StaysIn V' → Inv i V' own → V'.StaysIn V'' → item i x V' V'' → St h₀ W V'' ((C, isNs mc) :: (its (i + 1) ++ own)) h →
        wpAny (model prog w) A (assign target (compEnvC scope cl C env) x) (fun _ s => Tests prog w A (compEnvC scope cl C env) ifs (If (fun s => wpAny (model prog w) A (eval elt (compEnvC scope cl C env)) (fun y s₁ => wpAny (model prog w) A (call (.builtin "set.add") [.ref D, y]) (fun _ s' => Step h₀ W g d os C its Inv i V' s') (fun _ _ => False) s₁) (fun _ _ => False) s) (Step h₀ W g d os C its Inv i V')) s) (fun _ _ => False) ⟨h, g, d, t, os⟩) ∧
      ∀ V' mc own h t, V.StaysIn V' → Inv n V' own → St h₀ W V' ((C, isNs mc) :: own) h → compPost (model prog w) A E use Q (.ref D) C (.ok .next) ⟨h, g, d, t, os⟩)
    (hc : ∀ x ∈ scope.names, x.2 ≠ .cell := by decide) (hk : scope.kind = .function := by rfl) :
    CompGo prog w A E env (.SetComp elt [⟨target, iter, ifs, 0⟩] scope pos) scope cl (newSet (.type "set")) use Q (.ref it) ⟨h, g, d, t, os⟩ := by
  unfold CompGo
  refine wpAny_newSet_of (knd := strKind prog w) fun led hset => wpAny_newFunctionEnv hc (by intro y hy; simp at hy) (fun h₁ hns hsb => ?_) hk
  obtain ⟨o₁, e₁, q₁⟩ := at_set (n := 0) hset (Nat.le_refl _)
  have e₂ : (h.push { cls := .type "set", dict := none, data := .set #[] 0 (.fresh 0 0 led) }).get? h.objs.size = some { cls := .type "set", dict := none, data := .set #[] 0 (.fresh 0 0 led) } := Heap.get?_push_size _ rfl
  have e₃ := e₁.symm.trans e₂
  cases e₃
  have S1 := S.push (φ := isS w prog 0) { cls := .type "set", dict := none, data := .set #[] 0 (.fresh 0 0 led) } rfl q₁
  have S2 := S1.frame (h' := h₁) (L := (h.push { cls := .type "set", dict := none, data := .set #[] 0 (.fresh 0 0 led) }).objs.size) (φ := isNs fun _ => none) (fun b o e => hsb.extBut b o (Nat.ne_of_lt (Heap.lt_size e)) (Heap.get?_push_of_some _ e)) (ns_at.mp hns) (get_top _)
  have p : List.Perm (((h.push { cls := .type "set", dict := none, data := .set #[] 0 (.fresh 0 0 led) }).objs.size, isNs fun _ => none) :: (its 0 ++ ((h.objs.size, isS w prog 0) :: (L, isNs m) :: own)))
      (((h.push { cls := .type "set", dict := none, data := .set #[] 0 (.fresh 0 0 led) }).objs.size, isNs fun _ => none) :: (h.objs.size, isS w prog 0) :: (L, isNs m) :: (its 0 ++ own)) :=
    .cons _ (List.perm_middle.trans (.cons _ List.perm_middle))
  have S3 := S2.perm p
  obtain ⟨Inv, i0, turn, fin⟩ := k _ _ _ S3
  have loop : codeAny (model prog w) A (.compLoop (.SetComp elt [⟨target, iter, ifs, 0⟩] scope pos) 0 (.ref it) (.ref h.objs.size) (compEnvC scope cl (h.push { cls := .type "set", dict := none, data := .set #[] 0 (.fresh 0 0 led) }).objs.size env))
      (compPost (model prog w) A E use Q (.ref h.objs.size) (h.push { cls := .type "set", dict := none, data := .set #[] 0 (.fresh 0 0 led) }).objs.size) ⟨h₁, g, d, t + ([] : List (Str × Value)).length, os⟩ := by
    refine comp_loop (emit := do
        let v ← eval elt (compEnvC scope cl (h.push { cls := .type "set", dict := none, data := .set #[] 0 (.fresh 0 0 led) }).objs.size env)
        standAt elt.pos
        let _ ← call (.builtin "set.add") [.ref h.objs.size, v]) rfl rfl rfl (compTurn_set _ _ _ _ _ _ _ _ _) S3 src Inv i0 (fun i x V' V'' mc own h t a b c e f S' => ?_) fin
    refine wpAny_mono (turn i x V' V'' mc own h t a b c e f S') (fun _ s q => ?_) fun _ _ z => z
    refine Tests.mono (fun b s q => ?_) _ q
    cases b with
    | false => exact q
    | true => exact wpAny_bind (wpAny_mono q (fun y s₁ q₁ => wpAny_bind (wpAny_standAt (wpAny_bind (wpAny_mono q₁ (fun _ s₂ q₂ => wpAny_pure q₂) fun _ _ z => z)))) fun _ _ z => z)
  exact start_set loop (src.self _ _ _ _ _ _ _ _ _ _ _ (stays_refl _) S3 loop)
end
local macro_rules | `(tactic| wtm_at "v_value") => `(tactic| first
  | with_reducible refine c_callable ?_
  | with_reducible refine c_nes ?_
  | ((with_reducible show wpAny _ _ (subscriptTail _ (Expr.Slice _ _ _ _) (Value.ref _) (Value.ref _)) _ _ _); (with_reducible rename St _ _ _ _ _ => S'); refine s_slice2 S' (by wtm_at "v_weak") (by wtm_at "v_part") (by wtm_at "v_part") (by wtm_at "v_part") (by decide) (by wtm_at "v_size") ?_; clear S'; intro a h S')
  | ((with_reducible show wpAny _ _ (call (Value.type "tuple") [Value.ref _] _) _ _ _); (with_reducible rename St _ _ _ _ _ => S'); refine c_tup_list S' (by wtm_at "v_weak") (by wtm_at "v_size") ?_; clear S'; intro a V h S' hv ha)
  | ((with_reducible show wpAny _ _ (call (Value.builtin "isinstance") [Value.ref _, Value.type "dict"] _) _ _ _); (with_reducible rename St _ _ _ _ _ => S'); refine i_dict S' (by wtm_at "v_wf") (by wtm_at "v_at") (by kit_is) ?_; intro t)
  | ((with_reducible show wpAny _ _ (call (Value.builtin "str.lstrip") [Value.str _ _, Value.str _ _] _) _ _ _); refine c_lstrip (by decide +kernel) ?_))
local macro_rules | `(tactic| wtm_at "v_rest") => `(tactic| with_reducible refine m_lstrip ?_)
local macro_rules | `(tactic| wtm_at "v_unit") => `(tactic| with_reducible refine a_attr ?_)
abbrev TVQ (V : Heap) : Prop := TV V 238 4 "_determine_attrib_eq_order.<locals>.decide_callable_or_boolean"
def TellF (prog : Program) (w : World) (A : Around) (f : Addr) (args : List Value) (kw : List (Str × Value)) (V h : Heap) (P : Value → Heap → Prop) : Prop :=
  At h 245 (isTb #[]) → V.get? 245 = none → ∀ (g : Array GenState) (d : Drawn) (t : Nat) (os : OsState) (Q E : Value → Shared → Prop), (∀ v V' h' t' own₂, St (only h fun b => b ≠ 245) V V' own₂ h' → P v V' → Q v ⟨h', g, d, t', os⟩) → wpAny (model prog w) A (call (.ref f) args kw) Q E ⟨h, g, d, t, os⟩
section
variable {prog : Program} {w : World} {mg mb : Str → Option Value}
theorem c_tellF {A : Around} {E : Value → Shared → Prop} {h₀ W V h : Heap} {own : List (Addr × OP)} {g : Array GenState} {d : Drawn} {t : Nat} {os : OsState} {f : Addr} {args : List Value} {kw : List (Str × Value)} {fr : Addr × OP} {P : Value → Heap → Prop} {Q : Value → Shared → Prop} (S : St h₀ W V (fr :: (245, isTb #[]) :: own) h) (T : TellF prog w A f args kw V h P)
    (k : ∀ v V' h' t', St h₀ W V' (fr :: own) h' → V.StaysIn V' → P v V' → Q v ⟨h', g, d, t', os⟩) : wpAny (model prog w) A (call (.ref f) args kw) Q E ⟨h, g, d, t, os⟩ :=
  T (S.get (.tail _ (.head _))) (S.has _ (.tail _ (.head _))).2.1 g d t os Q E fun v V' h' t' own₂ R p => k v V' h' t' (S.back (news := []) R (fun _ hp => nomatch hp) List.nodup_nil) R.sub p
theorem det_first {A : Around} {V h : Heap} (X : WF w.params mg mb V) (le : V.StaysIn h) (R : Room A 10) (N : NX mg V) :
    TellF prog w A 250 [.none, .none, .none, .bool true] [] V h fun v V' => TVQ V' ∧ ∃ a, v = .ref a ∧ At V' a (isT [.bool true, .none, .bool true, .none]) := by
  intro hT hV g d t os Q E k
  refine wpAny_call (c_init le X hT hV (by k_is) (by k_is) R.depth (BindsTo.of_eq rfl) (by rfl) ?_)
  intro L h t S
  have hdh := R.hd
  wtm_at "v_all"
  rename St _ _ _ _ _ => S
  refine x_def0 (qual := "_determine_attrib_eq_order.<locals>.decide_callable_or_boolean") S (by wtm_at "v_wf") N (by rfl) ?_
  clear S
  intro f V1 h1 t1 S hv1 hTV hF
  wtm_at "v_all"
  rename St _ _ _ _ _ => S
  exact k _ _ _ _ _ S ⟨hTV.keeps (by wtm_at "v_st"), _, rfl, by wtm_at "v_at"⟩
theorem det_none {A : Around} {V h : Heap} (X : WF w.params mg mb V) (le : V.StaysIn h) (R : Room A 10) (N : NX mg V) (T : TVQ V) :
    Tell prog w A (.ref 250) [.none, .none, .none, .bool true] [] V h fun v V' => ∃ a, v = .ref a ∧ At V' a (isT [.bool true, .none, .bool true, .none]) := by
  intro g d t os Q E k
  refine c_def le X (by k_is) (by k_is) R.depth (BindsTo.of_eq rfl) (by rfl) ?_
  intro L h t S
  have hdh := R.hd
  wtm_at "v_all"
  rename St _ _ _ _ _ => S
  refine x_def1 (qual := "_determine_attrib_eq_order.<locals>.decide_callable_or_boolean") S (by wtm_at "v_wf") N T (by rfl) ?_
  clear S
  intro f V1 h1 t1 S hv1 hF
  wtm_at "v_all"
  rename St _ _ _ _ _ => S
  exact k _ _ _ _ S.ret ⟨_, rfl, by wtm_at "v_at"⟩
theorem det_true {A : Around} {V h : Heap} (X : WF w.params mg mb V) (le : V.StaysIn h) (R : Room A 10) (N : NX mg V) (T : TVQ V) :
    Tell prog w A (.ref 250) [.none, .bool true, .bool true, .bool true] [] V h fun v V' => ∃ a, v = .ref a ∧ At V' a (isT [.bool true, .none, .bool true, .none]) := by
  intro g d t os Q E k
  refine c_def le X (by k_is) (by k_is) R.depth (BindsTo.of_eq rfl) (by rfl) ?_
  intro L h t S
  have hdh := R.hd
  wtm_at "v_all"
  rename St _ _ _ _ _ => S
  refine x_def1 (qual := "_determine_attrib_eq_order.<locals>.decide_callable_or_boolean") S (by wtm_at "v_wf") N T (by rfl) ?_
  clear S
  intro f V1 h1 t1 S hv1 hF
  have dec : ∀ {A' : Around} {V' h' : Heap}, WF w.params mg mb V' → V1.StaysIn V' → V'.StaysIn h' → Room A' 5 → Tell prog w A' (.ref f) [.bool true] [] V' h' (fun v V'' => ∃ a, v = .ref a ∧ At V'' a (isT [.bool true, .none])) := by
    intro A' V' h' X' k1 le' R' g d t os Q E k
    obtain ⟨c', f1, f2⟩ := hF
    refine c_fn (binds := [(("value" : Str), .bool true)]) le' X' ⟨c', f1.keeps k1, f2.keeps k1⟩ R'.depth (fun _ _ _ _ => BindsTo.of_eq rfl) (by rfl) ?_
    intro L cdv h t S
    wtm_at "v_all"
    rename St _ _ _ _ _ => S
    exact k _ _ _ _ S.ret ⟨_, rfl, by wtm_at "v_at"⟩
  wtm_at "v_all"
  refine w_keep ?_
  wtm_at "v_all"
  rename St _ _ _ _ _ => S
  refine ⟨keep_F (by obtain ⟨c', f1, f2⟩ := hF; exact ⟨c', S.view (f1.keeps (by wtm_at "v_st")), S.view (f2.keeps (by wtm_at "v_st"))⟩), ?_⟩
  refine c_tell S (dec (by wtm_at "v_wf") (by wtm_at "v_st") S.le (by wtm_at "v_rm")) ?_
  clear S
  rintro v V2 h2 t2 S hv2 ⟨a, rfl, ha⟩
  wtm_at "v_all"
  refine w_keep ?_
  wtm_at "v_all"
  rename St _ _ _ _ _ => S
  refine ⟨keep_F (by obtain ⟨c', f1, f2⟩ := hF; exact ⟨c', S.view (f1.keeps (by wtm_at "v_st")), S.view (f2.keeps (by wtm_at "v_st"))⟩), ?_⟩
  refine c_tell S (dec (by wtm_at "v_wf") (by wtm_at "v_st") S.le (by wtm_at "v_rm")) ?_
  clear S
  rintro v V3 h3 t3 S hv3 ⟨a', rfl, ha'⟩
  wtm_at "v_all"
  rename St _ _ _ _ _ => S
  exact k _ _ _ _ S.ret ⟨_, rfl, by wtm_at "v_at"⟩
end
section
variable {prog : Program} {w : World} {mg mb : Str → Option Value}
theorem factory_init {A : Around} {V h : Heap} {x dx : Addr} {fv : Value} (X : WF w.params mg mb V) (le : V.StaysIn h) (R : Room A 5) (hx : At V x (isI 370 dx)) (hd : At h dx (isD [])) (hn : V.get? dx = none) :
    TellI prog w A 367 [.ref x, fv] [("takes_self", .bool true)] V h dx fun own V' => ∃ L m, own = [(L, isNs m), (dx, isD [("factory", fv), ("takes_self", .bool true)])] ∧ V.StaysIn V' := by
  intro g d t os RR k
  refine c_init (binds := [("self", .ref x), ("factory", fv), ("takes_self", .bool true)]) le X hd hn (by k_is) (by k_is) R.depth (kp_binds (X.K.keeps le) fun _ => by kernel_rfl) (by kernel_rfl) ?_
  intro L h t S
  wtm_at "v_all"
  rename St _ _ _ _ _ => S
  exact k _ _ _ _ S ⟨_, _, rfl, stays_refl _⟩
def caD (dfl : Value) (ini : Bool) : List (Str × Value) := [("_default", dfl), ("_validator", .none), ("converter", .none), ("eq", .bool true), ("eq_key", .none), ("order", .bool true), ("order_key", .none), ("init", .bool ini), ("kw_only", .none), ("on_setattr", .none), ("alias", .none)]
def caK (dfl : Value) (ini : Bool) : List (Str × Value) := [("default", dfl), ("validator", .none), ("init", .bool ini), ("converter", .none), ("kw_only", .none), ("eq", .bool true), ("eq_key", .none), ("order", .bool true), ("order_key", .none), ("on_setattr", .none), ("alias", .none)]
def caB (dfl : Value) (ini : Bool) : List (Str × Value) := [("default", dfl), ("validator", .none), ("init", .bool ini), ("converter", .none), ("kw_only", .none), ("eq", .bool true), ("eq_key", .none), ("order", .bool true), ("order_key", .none), ("on_setattr", .none), ("alias", .none)]
theorem ca_init {A : Around} {V h : Heap} {x dx : Addr} {dfl : Value} {ini : Bool} (X : WF w.params mg mb V) (le : V.StaysIn h) (R : Room A 5) (hx : At V x (isI 348 dx)) (hd : At h dx (isD [])) (hn : V.get? dx = none) :
    TellI prog w A 331 [.ref x] (caK dfl ini) V h dx fun own V' => ∃ L m, own = [(L, isNs m), (dx, isD (caD dfl ini))] ∧ V.StaysIn V' := by
  intro g d t os RR k
  refine c_init (binds := ("self", .ref x) :: caB dfl ini) le X hd hn (by k_is) (by k_is) R.depth (BindsTo.of_eq (by kernel_rfl)) (by kernel_rfl) ?_
  intro L h t S
  wtm_at "v_all"
  rename St _ _ _ _ _ => S
  exact k _ _ _ _ S ⟨_, _, rfl, stays_refl _⟩
def isCA (V : Heap) (a : Addr) (dfl : Value) (ini : Bool) : Prop := ∃ da, At V a (isI 348 da) ∧ At V da (isD (caD dfl ini))
theorem isCA.keeps {V V' : Heap} {a : Addr} {dfl : Value} {ini : Bool} (x : isCA V a dfl ini) (k : V.StaysIn V') : isCA V' a dfl ini := let ⟨da, p, q⟩ := x; ⟨da, p.keeps k, q.keeps k⟩
def AttrKw (kw : List (Str × Value)) (dfl : Value) (ini : Bool) : Prop := (kw = [] ∧ dfl = .ref 70 ∧ ini = true) ∨ (kw = [(("default" : Str), .none)] ∧ dfl = .none ∧ ini = true) ∨ (∃ fa, kw = [(("init" : Str), .bool false), ("default", .ref fa)] ∧ dfl = .ref fa ∧ ini = false)
def atB (dfl : Value) (ini : Bool) : List (Str × Value) := [("default", dfl), ("validator", .none), ("cmp", .none), ("init", .bool ini), ("converter", .none), ("factory", .none), ("kw_only", .none), ("eq", .none), ("order", .none), ("on_setattr", .none), ("alias", .none)]
theorem attrib_first {A : Around} {V h : Heap} {dfl : Value} {ini : Bool} {kw : List (Str × Value)} (hk : AttrKw kw dfl ini) (X : WF w.params mg mb V) (le : V.StaysIn h) (R : Room A 20) (N : NX mg V) :
    TellF prog w A 78 [] kw V h fun v V' => TVQ V' ∧ ∃ a, v = .ref a ∧ isCA V' a dfl ini := by
  intro hT hV g d t os Q E k
  refine wpAny_call (c_init (binds := atB dfl ini) le X hT hV (by k_is) (by k_is) R.depth (by rcases hk with ⟨rfl, rfl, rfl⟩ | ⟨rfl, rfl, rfl⟩ | ⟨fa, rfl, rfl, rfl⟩ <;> exact kp_binds (X.K.keeps le) fun _ => by kernel_rfl) (by kernel_rfl) ?_)
  intro L h t S
  have hdh := R.hd
  wtm_at "v_all"
  rename St _ _ _ _ _ => S
  refine c_tellF S (det_first (by wtm_at "v_wf") S.le (by wtm_at "v_rm") N) ?_
  clear S
  rintro v V1 h1 t1 S hv1 ⟨hTV, a, rfl, ha⟩
  wtm_at "v_all"
  rename St _ _ _ _ _ => S
  refine c_make S (by wtm_at "v_wf") (by k_is) (by k_is) (by k_is) (fun x dx own V' => ∃ L m, own = [(L, isNs m), (dx, isD (caD dfl ini))] ∧ True) (fun x dx V' h' hv hx S' => ?_) ?_
  · intro g d t os R' k'
    refine ca_init ((WF.via (by wtm_at "v_st") X).keeps hv) S'.le ?_ hx (S'.get (.tail _ (.head _))) (S'.has _ (.tail _ (.head _))).2.1 g d t os R' fun V'' h'' t'' own₂ S'' hP => k' V'' h'' t'' own₂ S'' ?_
    · exact Room.make (n := 5) (by wtm_at "v_rm")
    · obtain ⟨L, m, e, _⟩ := hP
      exact ⟨L, m, e, trivial⟩
  clear S
  rintro x dx V4 V5 h4 t4 own₂ hv4 hx hv5 ⟨L', m', rfl, _⟩ back nd'
  have S := back [(dx, isD (caD dfl ini))] (by simp) (by simp)
  rw [List.append_nil] at S
  wtm_at "v_all"
  rename St _ _ _ _ _ => S
  obtain ⟨V6, S, hv6, hdx⟩ := S.seal2
  exact k _ _ _ _ _ S ⟨hTV.keeps (by wtm_at "v_st"), x, rfl, dx, hx.keeps (by wtm_at "v_st"), hdx⟩
theorem attrib_spec {A : Around} {V h : Heap} {dfl : Value} {ini : Bool} {kw : List (Str × Value)} (hk : AttrKw kw dfl ini) (X : WF w.params mg mb V) (le : V.StaysIn h) (R : Room A 20) (N : NX mg V) (T : TVQ V) :
    Tell prog w A (.ref 78) [] kw V h fun v V' => ∃ a, v = .ref a ∧ isCA V' a dfl ini := by
  intro g d t os Q E k
  refine c_def (binds := atB dfl ini) le X (by k_is) (by k_is) R.depth (by rcases hk with ⟨rfl, rfl, rfl⟩ | ⟨rfl, rfl, rfl⟩ | ⟨fa, rfl, rfl, rfl⟩ <;> exact kp_binds (X.K.keeps le) fun _ => by kernel_rfl) (by kernel_rfl) ?_
  intro L h t S
  have hdh := R.hd
  wtm_at "v_all"
  rename St _ _ _ _ _ => S
  refine c_tell S (det_none (by wtm_at "v_wf") S.le (by wtm_at "v_rm") (N.keeps (by wtm_at "v_st")) (T.keeps (by wtm_at "v_st"))) ?_
  clear S
  rintro v V1 h1 t1 S hv1 ⟨a, rfl, ha⟩
  wtm_at "v_all"
  rename St _ _ _ _ _ => S
  refine c_make S (by wtm_at "v_wf") (by k_is) (by k_is) (by k_is) (fun x dx own V' => ∃ L m, own = [(L, isNs m), (dx, isD (caD dfl ini))] ∧ True) (fun x dx V' h' hv hx S' => ?_) ?_
  · intro g d t os R' k'
    refine ca_init ((WF.via (by wtm_at "v_st") X).keeps hv) S'.le ?_ hx (S'.get (.tail _ (.head _))) (S'.has _ (.tail _ (.head _))).2.1 g d t os R' fun V'' h'' t'' own₂ S'' hP => k' V'' h'' t'' own₂ S'' ?_
    · exact Room.make (n := 5) (by wtm_at "v_rm")
    · obtain ⟨L, m, e, _⟩ := hP
      exact ⟨L, m, e, trivial⟩
  clear S
  rintro x dx V4 V5 h4 t4 own₂ hv4 hx hv5 ⟨L', m', rfl, _⟩ back nd'
  have S := back [(dx, isD (caD dfl ini))] (by simp) (by simp)
  rw [List.append_nil] at S
  wtm_at "v_all"
  rename St _ _ _ _ _ => S
  obtain ⟨V6, S, hv6, hdx⟩ := S.seal2
  exact k _ _ _ _ S.ret ⟨x, rfl, dx, hx.keeps (by wtm_at "v_st"), hdx⟩
end
section
variable {prog : Program} {w : World} {mg mb : Str → Option Value}
section
variable {A : Around} {E : Value → Shared → Prop} {h₀ W V h : Heap} {own : List (Addr × OP)} {g : Array GenState} {d : Drawn} {t : Nat} {os : OsState} {env : Env}
theorem t_list {a : Addr} {xs : List Value} {Q : Bool → Shared → Prop} (x : At h a (isLw xs)) (hz : xs.length < 2 ^ 63) (k : ∀ t', Q (!xs.isEmpty) ⟨h, g, d, t', os⟩) : wpAny (model prog w) A (truthy (.ref a)) Q E ⟨h, g, d, t, os⟩ := by
  refine wpAny_truthy_list (list_at.mpr x) (by rw [List.size_toArray]; omega) ?_
  rw [List.isEmpty_toArray]
  exact k _
theorem lc_none {elt target iter : Expr} {ifs : List Expr} {scope : Scope} {pos : Pos} {cl : List (Str × Addr)} {Q : Value → Shared → Prop} {L bt : Addr} {m : Str → Option Value} (S : St h₀ W V ((L, isNs m) :: own) h) (hb : At V bt (isT [])) (hh : A.handled = none)
    (k : ∀ D h' t', St h₀ W V ((L, isNs m) :: (D, isL []) :: own) h' → Q (.ref D) ⟨h', g, d, t', os⟩)
    (ht : ∀ r v, letOwnedTupleGo target (.ref r) v = pure () := by intro _ _; rfl) (hc : ∀ x ∈ scope.names, x.2 ≠ .cell := by decide) (hk : scope.kind = .function := by rfl) :
    wpAny (model prog w) A (pyIter (.ref bt)) (CompGo prog w A E env (.ListComp elt [⟨target, iter, ifs, 0⟩] scope pos) scope cl (newList []) none Q) E ⟨h, g, d, t, os⟩ := by
  refine it_tup S (S.view hb) fun it h' S' => go_list (own := own) (its := fun i => [(it, isTI bt i)]) S' (src_tup hb hh ht) (fun C D h'' _ => ⟨fun _ V' o => V' = V ∧ o = (D, isL []) :: (L, isNs m) :: own, ⟨rfl, rfl⟩, fun i x V' V'' mc own h t hi => absurd hi (Nat.not_lt_zero _), ?_⟩) hc hk
  rintro V' mc own h t hv ⟨rfl, rfl⟩ S2
  exact post0 S2 ⟨_, _, _, rfl, fun h t S => k _ _ _ S⟩
end
theorem attrs_order {A : Around} {V h : Heap} (X : WF w.params mg mb V) (le : V.StaysIn h) (R : Room A 10) :
    Tell prog w A (.ref 243) [.none, .none, .none, .bool true] [] V h fun v V' => ∃ a, v = .ref a ∧ At V' a (isT [.bool true, .bool true]) := by
  intro g d t os Q E k
  refine c_def (binds := [("cmp", .none), ("eq", .none), ("order", .none), ("default_eq", .bool true)]) le X (by k_is) (by k_is) R.depth (BindsTo.of_eq (by kernel_rfl)) (by kernel_rfl) ?_
  intro L h t S
  have hdh := R.hd
  wtm_at "v_all"
  rename St _ _ _ _ _ => S
  exact k _ _ _ _ S.ret ⟨_, rfl, by wtm_at "v_at"⟩
theorem linear_spec {A : Around} {V h : Heap} {kv : Value} {bt : Addr} (X : WF w.params mg mb V) (le : V.StaysIn h) (R : Room A 10) (hb : At V bt (isT [])) :
    Tell prog w A (.ref 151) [kv, .ref bt] [] V h fun v V' => ∃ a, v = .ref a ∧ At V' a (isL [kv]) := by
  intro g d t os Q E k
  refine wpAny_call (c_bindc (Q := Q) le X (by k_is) (by k_is) R.depth (fun _ _ q => q) fun S0 => ?_)
  refine wpAny_of_eq (a := [(("kind" : Str), kv), ("bases", .ref bt)]) ?_ ?_
  · kernel_rfl
  refine ⟨_, _, _, _, rfl, S0, stays_refl _, ?_, ?_, fun L h₁ t' S => ?_⟩
  · intro n x hx
    simp only [List.mem_cons, List.not_mem_nil, or_false] at hx
    rcases hx with rfl | rfl <;> first | exact .inl (by rfl) | exact .inr ⟨by rfl, by rfl⟩
  · intro n
    exact (by decide : List.Nodup (["heads", "rows"] : List Str))
  change St _ _ _ [(L, isNs _), (L+1+1, isC _), (L+1, isC _)] h₁ at S
  have hdh := R.hd
  wtm_at "v_all"
  refine e_lc (by rfl) ?_
  wtm_at "v_all"
  rename St _ _ _ _ _ => S
  refine lc_none S hb hdh ?_
  clear S
  intro D1 h1 t1 S
  wtm_at "v_all"
  refine e_lc (by rfl) ?_
  wtm_at "v_all"
  rename St _ _ _ _ _ => S
  refine lc_none S hb hdh ?_
  clear S
  intro D2 h2 t2 S
  wtm_at "v_all"
  rename St _ _ _ _ _ => S
  rename_i dsp hx1 rws hx2 hx3 fnd hx4 hx5 hx6
  change St _ _ _ ((L, isNs _) :: ([(fnd, isL [kv])] ++ (rws, isL [.ref D2]) :: [(dsp, isL [.ref D2]), (D2, isL []), (D1, isL []), (L+1+1, isC none), (L+1, isC (some (.ref rws)))])) _ at S
  obtain ⟨V1, S, hv1, hrw⟩ := S.toSecond.seal2
  change St _ _ _ ((L, isNs _) :: ([(fnd, isL [kv]), (dsp, isL [.ref D2])] ++ (D2, isL []) :: [(D1, isL []), (L+1+1, isC none), (L+1, isC (some (.ref rws)))])) _ at S
  obtain ⟨V2, S, hv2, hD2⟩ := S.toSecond.seal2
  change St _ _ _ ((L, isNs _) :: (fnd, isL [kv]) :: [(dsp, isL [.ref D2]), (D1, isL []), (L+1+1, isC none), (L+1, isC (some (.ref rws)))]) _ at S
  refine x_while S (Inv := fun n V' m own => m "found" = some (.ref fnd) ∧ own = (fnd, isL [kv]) :: [(dsp, isL [.ref D2]), (D1, isL []), (L+1+1, isC none), (L+1, isC (some (.ref rws)))]) 0 ⟨rfl, rfl⟩ ?_
  clear S
  rintro n V' m own h t hv ⟨m1, rfl⟩ S
  have hrw' : At V' rws (isL [.ref D2]) := hrw.keeps (by wtm_at "v_st")
  have hD2' : At V' D2 (isL []) := hD2.keeps (by wtm_at "v_st")
  refine b_val ?_
  refine e_lc (by rfl) ?_
  wtm_at "v_all"
  rename St _ _ _ _ _ => S
  refine it_list S (by wtm_at "v_weak") ?_
  clear S
  intro it h3 S
  refine go_list (its := fun i => [(it, isLI rws i)]) S (src_list hrw'.weak hdh) (fun C D h4 S4 => ⟨fun i V6 o => o = (D, isL []) :: (L, isNs m) :: (fnd, isL [kv]) :: [(dsp, isL [.ref D2]), (D1, isL []), (L+1+1, isC none), (L+1, isC (some (.ref rws)))], rfl, ?_, ?_⟩)
  · rintro i x V6 V7 mc own h t hi hv6 rfl hv7 ⟨hx, rfl⟩ S5
    obtain rfl : i = 0 := by simp at hi; omega
    simp only [List.getElem?_cons_zero, Option.some.injEq] at hx
    subst hx
    clear hv7
    wtm_at "v_all"
    rename St _ _ _ _ _ => S
    refine t_list (xs := []) (At.weak (S.view (hD2'.keeps hv6))) (by decide) ?_
    intro t6
    wtm_at "v_all"
    rename St _ _ _ _ _ => S
    exact Step.mk S (by wtm_at "v_st") rfl
  · rintro V6 mc own h t hv6 rfl S5
    refine post0 S5 ⟨_, _, _, rfl, fun h t S6 => ?_⟩
    refine t_list (xs := []) (At.weak (S6.get (.tail _ (.head _)))) (by decide) ?_
    intro t7
    refine WTest.ff ?_
    wtm_at "v_all"
    rename St _ _ _ _ _ => S
    obtain ⟨V7, S, hv7, _⟩ := S.seal2
    obtain ⟨V8, S, hv8, hfn⟩ := S.seal2
    exact k _ _ _ _ S.ret ⟨_, rfl, hfn⟩
end
theorem St.gain {h₀ W V h V' h' : Heap} {f : Addr × OP} {own own₂ news : List (Addr × OP)} (S : St h₀ W V (f :: own) h) (R : St h V V' own₂ h') (hm : ∀ p ∈ news, p ∈ own₂) (nd : (news.map (·.1)).Nodup) : St h₀ W V' (f :: (news ++ own)) h' := by
  have S1 := S.call R.ret
  have fresh : ∀ p ∈ news, h.get? p.1 = none := fun p hp => (R.has p (hm p hp)).2.2
  have old : ∀ q ∈ f :: own, ∃ o, h.get? q.1 = some o := fun q hq => let ⟨o, e, _⟩ := (S.has q hq).1; ⟨o, e⟩
  refine ⟨S1.ext, S1.sub, S1.old, S1.le, fun p hp => ?_, ?_⟩
  · have : p ∈ f :: own ∨ p ∈ news := by
      simp only [List.mem_cons, List.mem_append] at hp ⊢
      rcases hp with h | h | h
      · exact .inl (.inl h)
      · exact .inr h
      · exact .inl (.inr h)
    rcases this with hp | hp
    · exact S1.has p hp
    · have z := R.has p (hm p hp)
      refine ⟨z.1, z.2.1, ?_⟩
      cases q : h₀.get? p.1 with
      | none => rfl
      | some o => have := S.ext _ _ q; rw [z.2.2] at this; cases this
  · have nd1 := S.nd
    simp only [List.map_cons, List.map_append, List.nodup_cons, List.nodup_append, List.mem_append, not_or] at nd1 ⊢
    refine ⟨⟨fun h1 => ?_, nd1.1⟩, nd, nd1.2, fun a ha b hb e => ?_⟩
    · obtain ⟨p, hp, e⟩ := List.mem_map.mp h1
      obtain ⟨o, eo⟩ := old f (.head _)
      have := fresh p hp
      rw [e, eo] at this; cases this
    · obtain ⟨p, hp, e1⟩ := List.mem_map.mp ha
      obtain ⟨q, hq, e2⟩ := List.mem_map.mp hb
      obtain ⟨o, eo⟩ := old q (.tail _ hq)
      have := fresh p hp
      rw [e1, e, ← e2, eo] at this; cases this
def TellG (prog : Program) (w : World) (A : Around) (f : Addr) (args : List Value) (kw : List (Str × Value)) (V h : Heap) (P : Value → List (Addr × OP) → Heap → Prop) : Prop :=
  ∀ (g : Array GenState) (d : Drawn) (t : Nat) (os : OsState) (R : Result → Shared → Prop), (∀ v V' h' t' own₂, St h V V' own₂ h' → P v own₂ V' → R (.ok (.ret v)) ⟨h', g, d, t', os⟩) → codeAny (model prog w) A (.call (.ref f) ⟨args, kw⟩) R ⟨h, g, d, t, os⟩
section
variable {prog : Program} {w : World} {mg mb : Str → Option Value}
theorem c_methG {A : Around} {E : Value → Shared → Prop} {h₀ W V h : Heap} {own : List (Addr × OP)} {g : Array GenState} {d : Drawn} {t : Nat} {os : OsState} {q f : Addr} {self : Value} {args : List Value} {kw : List (Str × Value)} {fr : Addr × OP} {P : Value → List (Addr × OP) → Heap → Prop} {Q : Value → Shared → Prop} (S : St h₀ W V (fr :: own) h) (x : At h q (isM (.ref f) self)) (T : TellG prog w A f (self :: args) kw V h P)
    (k : ∀ v V' h' t' own₂, (∀ news : List (Addr × OP), (∀ p ∈ news, p ∈ own₂) → (news.map (·.1)).Nodup → St h₀ W V' (fr :: (news ++ own)) h') → V.StaysIn V' → P v own₂ V' → Q v ⟨h', g, d, t', os⟩) : wpAny (model prog w) A (call (.ref q) args kw) Q E ⟨h, g, d, t, os⟩ := by
  obtain ⟨o, e, rfl⟩ := x
  refine wpAny_call (codeAny_of_tree ?_)
  show wpAny _ _ (callAny (.ref q) _) _ _ _
  refine nd_load (s := ⟨h, g, d, t, os⟩) e ?_
  exact wpAny_pure ⟨rfl, T g d t os (fun r s' => match r with | .ok (.ret v) => Q v s' | .ok _ => False | .error e => E e s') fun v V' h' t' own₂ R p => k v V' h' t' own₂ (fun news hm nd => S.gain R hm nd) R.sub p⟩
theorem c_tellG {A : Around} {E : Value → Shared → Prop} {h₀ W V h : Heap} {own : List (Addr × OP)} {g : Array GenState} {d : Drawn} {t : Nat} {os : OsState} {f : Addr} {args : List Value} {kw : List (Str × Value)} {fr : Addr × OP} {P : Value → List (Addr × OP) → Heap → Prop} {Q : Value → Shared → Prop} (S : St h₀ W V (fr :: own) h) (T : TellG prog w A f args kw V h P)
    (k : ∀ v V' h' t' own₂, (∀ news : List (Addr × OP), (∀ p ∈ news, p ∈ own₂) → (news.map (·.1)).Nodup → St h₀ W V' (fr :: (news ++ own)) h') → V.StaysIn V' → P v own₂ V' → Q v ⟨h', g, d, t', os⟩) : wpAny (model prog w) A (call (.ref f) args kw) Q E ⟨h, g, d, t, os⟩ :=
  wpAny_call (T g d t os (fun r s' => match r with | .ok (.ret v) => Q v s' | .ok _ => False | .error e => E e s') fun v V' h' t' own₂ R p => k v V' h' t' own₂ (fun news hm nd => S.gain R hm nd) R.sub p)
theorem kind_init {A : Around} {V h : Heap} {x dx bt : Addr} {u : Tok} (X : WF w.params mg mb V) (le : V.StaysIn h) (R : Room A 15) (hx : At V x (isI 142 dx)) (hd : At h dx (isD [])) (hn : V.get? dx = none) (hb : At V bt (isT [])) :
    TellI prog w A 118 [.ref x, .str "Node" u, .ref bt] [] V h dx fun own V' => ∃ L m mr at_, own = [(L, isNs m), (dx, isD [("name", .str "Node" u), ("mro", .ref mr), ("attrs", .ref at_), ("eq_attrs", .none), ("order_attrs", .none)])] ∧ At V' mr (isL [.ref x]) := by
  intro g d t os RR k
  refine c_init (binds := [("self", .ref x), ("name", .str "Node" u), ("bases", .ref bt)]) le X hd hn (by k_is) (by k_is) R.depth (BindsTo.of_eq (by kernel_rfl)) (by kernel_rfl) ?_
  intro L h t S
  wtm_at "v_all"
  rename St _ _ _ _ _ => S
  refine c_tell S (linear_spec (by wtm_at "v_wf") S.le (by wtm_at "v_rm") hb) ?_
  clear S
  rintro v V1 h1 t1 S hv1 ⟨mr, rfl, hmr⟩
  wtm_at "v_all"
  rename St _ _ _ _ _ => S
  exact k _ _ _ _ S ⟨_, _, mr, _, rfl, hmr.keeps (by wtm_at "v_st")⟩
def atD (nm : Str) (u : Tok) (dfl : Value) (ini : Bool) (al : Value) : List (Str × Value) := [("name", .str nm u), ("default", dfl), ("validator", .none), ("eq", .bool true), ("eq_key", .none), ("order", .bool true), ("order_key", .none), ("init", .bool ini), ("converter", .none), ("kw_only", .bool false), ("inherited", .bool false), ("on_setattr", .none), ("alias", al), ("alias_is_default", .bool true)]
theorem attr_init {A : Around} {V h : Heap} {x dx : Addr} {nm : Str} {u : Tok} {dfl : Value} {ini : Bool} (X : WF w.params mg mb V) (le : V.StaysIn h) (R : Room A 15) (N : NX mg V) (T : TVQ V) (hx : At V x (isI 313 dx)) (hd : At h dx (isD [])) (hn : V.get? dx = none) :
    TellI prog w A 279 [.ref x, .str nm u, dfl, .none, .none, .bool ini, .bool false, .none, .bool false, .bool true, .none, .bool true, .none, .none, .none, .bool true] [] V h dx fun own V' => ∃ L m, own = [(L, isNs m), (dx, isD (atD nm u dfl ini .none))] ∧ True := by
  intro g d t os RR k
  refine c_init (binds := [("self", .ref x), ("name", .str nm u), ("default", dfl), ("validator", .none), ("cmp", .none), ("init", .bool ini), ("inherited", .bool false), ("converter", .none), ("kw_only", .bool false), ("eq", .bool true), ("eq_key", .none), ("order", .bool true), ("order_key", .none), ("on_setattr", .none), ("alias", .none), ("alias_is_default", .bool true)]) le X hd hn (by k_is) (by k_is) R.depth (kp_binds (X.K.keeps le) fun _ => by kernel_rfl) (by kernel_rfl) ?_
  intro L h t S
  have hdh := R.hd
  wtm_at "v_all"
  rename St _ _ _ _ _ => S
  refine c_tell S (det_true (by wtm_at "v_wf") S.le (by wtm_at "v_rm") N T) ?_
  clear S
  rintro v V1 h1 t1 S hv1 ⟨a, rfl, ha⟩
  wtm_at "v_all"
  rename St _ _ _ _ _ => S
  exact k _ _ _ _ S ⟨_, _, rfl, trivial⟩
end
local macro_rules | `(tactic| wtm_at "v_value") => `(tactic| ((with_reducible show wpAny _ _ (getAttr (Value.ref _) _ _) _ _ _); (with_reducible rename St _ _ _ _ _ => S'); refine g_own2 S' (by wtm_at "v_wf") (by wtm_at "v_at") (by wtm_at "v_at") (by wtm_at "v_gf") (by first | rfl | assumption) (by first | rfl | assumption) ?_; intro t))
section
variable {prog : Program} {w : World} {mg mb : Str → Option Value}
theorem from_ca {A : Around} {V h : Heap} {ca : Addr} {nm : Str} {u : Tok} {dfl : Value} {ini : Bool} (X : WF w.params mg mb V) (le : V.StaysIn h) (R : Room A 25) (N : NX mg V) (T : TVQ V) (hc : isCA V ca dfl ini) (hdf : handedIn dfl = true) :
    TellG prog w A 300 [.ref 313, .str nm u, .ref ca, .bool false] [] V h fun v own V' => ∃ a da, v = .ref a ∧ At V' a (isI 313 da) ∧ (da, isD (atD nm u dfl ini .none)) ∈ own := by
  intro g d t os RR k
  obtain ⟨cd, c1, c2⟩ := hc
  refine c_defR (binds := [("cls", .ref 313), ("name", .str nm u), ("ca", .ref ca), ("kw_only", .bool false)]) le X (by k_is) (by k_is) R.depth (BindsTo.of_eq (by kernel_rfl)) (by kernel_rfl) ?_
  intro L h t S
  have hdh := R.hd
  wtm_at "v_all"
  rename St _ _ _ _ _ => S
  refine c_make S (by wtm_at "v_wf") (by k_is) (by k_is) (by k_is) (fun x dx own V' => ∃ L m, own = [(L, isNs m), (dx, isD (atD nm u dfl ini .none))] ∧ True) (fun x dx V' h' hv hx S' => ?_) ?_
  · intro g d t os R' k'
    refine attr_init ((WF.via (by wtm_at "v_st") X).keeps hv) S'.le ?_ (N.keeps (by wtm_at "v_st")) (T.keeps (by wtm_at "v_st")) hx (S'.get (.tail _ (.head _))) (S'.has _ (.tail _ (.head _))).2.1 g d t os R' k'
    exact Room.make (n := 15) (by wtm_at "v_rm")
  clear S
  rintro x dx V4 V5 h4 t4 own₂ hv4 hx hv5 ⟨L', m', rfl, _⟩ back nd'
  have S := back [(dx, isD (atD nm u dfl ini .none))] (by simp) (by simp)
  rw [List.append_nil] at S
  wtm_at "v_all"
  rename St _ _ _ _ _ => S
  exact k _ _ _ _ _ S ⟨x, dx, rfl, hx.keeps (by wtm_at "v_st"), .tail _ (.head _)⟩
end
section
variable {prog : Program} {w : World} {mg mb : Str → Option Value}
theorem alias_spec {A : Around} {V h : Heap} {nm : Str} {u : Tok} (X : WF w.params mg mb V) (le : V.StaysIn h) (R : Room A 5) (hs : stripSame (("_" : Str)).cps.contains true false nm = true) : Tell prog w A (.ref 264) [.str nm u] [] V h fun v _ => v = .str nm u := by
  intro g d t os Q E k
  refine c_def (binds := [("name", .str nm u)]) le X (by k_is) (by k_is) R.depth (BindsTo.of_eq (by kernel_rfl)) (by kernel_rfl) ?_
  intro L h t S
  wtm_at "v_all"
  refine c_lstrip hs ?_
  wtm_at "v_all"
  rename St _ _ _ _ _ => S
  exact k _ _ _ _ S.ret rfl
theorem coll_spec {A : Around} {V h : Heap} {kx kdx mr st : Addr} {kl : List (Str × Value)} (X : WF w.params mg mb V) (le : V.StaysIn h) (R : Room A 10) (h1 : At V kx (isI 142 kdx)) (h2 : At V kdx (isD kl)) (hl : kl.lookup ("mro" : Str) = some (.ref mr)) (h3 : At V mr (isL [.ref kx])) :
    Tell prog w A (.ref 92) [.ref kx, .ref st] [] V h fun v V' => ∃ t2 ba bm, v = .ref t2 ∧ At V' t2 (isT [.ref ba, .ref bm]) ∧ At V' ba (isL []) := by
  intro g d t os Q E k
  refine c_def (binds := [("cls", .ref kx), ("taken_attr_names", .ref st)]) le X (by k_is) (by k_is) R.depth (BindsTo.of_eq (by kernel_rfl)) (by kernel_rfl) ?_
  intro L h t S
  have hdh := R.hd
  wtm_at "v_all"
  refine x_for ?_
  wtm_at "v_all"
  rename St _ _ _ _ _ => S
  obtain ⟨V1, S, hv1, hsl⟩ := S.seal2
  have hsl' : At V1 _ (isL []) := hsl
  obtain ⟨V1', S, hv1', hba⟩ := (St.toSecond (l := [_]) S).seal2
  refine f_list S (hsl'.keeps hv1').weak hdh (Inv := fun i V' m own => m "base_attrs" = some (.ref _) ∧ ∃ dm, m "base_attr_map" = some (.ref dm)) ⟨rfl, _, rfl⟩ ?_ ?_
  · rintro it i x V' m own h t hx
    simp at hx
  · clear S
    rintro V' m own h t hv ⟨m1, dm, m2⟩ S
    wtm_at "v_all"
    rename St _ _ _ _ _ => S
    exact k _ _ _ _ S.ret ⟨_, _, _, rfl, by wtm_at "v_at", hba.keeps (by wtm_at "v_st")⟩
end
section
variable {prog : Program} {w : World} {mg mb : Str → Option Value}
theorem t_str {A : Around} {E : Value → Shared → Prop} {x : Str} {u : Tok} {Q : Bool → Shared → Prop} {h : Heap} {g : Array GenState} {d : Drawn} {t : Nat} {os : OsState} (hx : decide (¬ (x.length : Int) ≥ 2 ^ 63) = true) (hy : ((x.length : Int) != 0) = true) (k : ∀ t', Q true ⟨h, g, d, t', os⟩) : wpAny (model prog w) A (truthy (.str x u)) Q E ⟨h, g, d, t, os⟩ := PySem.P.truthy_str (of_decide_eq_true hx) (by rw [hy]; exact k _)
def alO (u0 u1 u2 u3 : Tok) (fa d0 d1 d2 d3 : Addr) : Nat → List (Addr × OP)
  | 0 => [(d3, isD (atD "size" u3 (.ref fa) false .none)), (d2, isD (atD "right" u2 .none true .none)), (d1, isD (atD "left" u1 .none true .none)), (d0, isD (atD "key" u0 (.ref 70) true .none))]
  | 1 => [(d3, isD (atD "size" u3 (.ref fa) false .none)), (d2, isD (atD "right" u2 .none true .none)), (d1, isD (atD "left" u1 .none true .none)), (d0, isD (atD "key" u0 (.ref 70) true (.str "key" u0)))]
  | 2 => [(d3, isD (atD "size" u3 (.ref fa) false .none)), (d2, isD (atD "right" u2 .none true .none)), (d1, isD (atD "left" u1 .none true (.str "left" u1))), (d0, isD (atD "key" u0 (.ref 70) true (.str "key" u0)))]
  | 3 => [(d3, isD (atD "size" u3 (.ref fa) false .none)), (d2, isD (atD "right" u2 .none true (.str "right" u2))), (d1, isD (atD "left" u1 .none true (.str "left" u1))), (d0, isD (atD "key" u0 (.ref 70) true (.str "key" u0)))]
  | _ => [(d3, isD (atD "size" u3 (.ref fa) false (.str "size" u3))), (d2, isD (atD "right" u2 .none true (.str "right" u2))), (d1, isD (atD "left" u1 .none true (.str "left" u1))), (d0, isD (atD "key" u0 (.ref 70) true (.str "key" u0)))]
theorem cmf (P : Params) : specialIn (hd.heap_39 P) (.ref 313) "__getattribute__" = some (some (.builtin "type.__getattribute__")) ∧ readsIn (hd.heap_39 P) 313 (.type "type") = true ∧ findCls (hd.heap_39 P) (.ref 313) (.type "type") "from_counting_attr" = some (.get (.builtin "classmethod.__get__") (.ref 302) .none (.ref 313)) ∧ ∃ rest, recIn (hd.heap_39 P) 302 "classmethod" = some (.ref 300 :: rest) := ⟨by k_is, by k_is, by k_is, _, by k_is⟩
def atOwn (u0 u1 u2 u3 : Tok) (fa a0 a1 a2 a3 d0 d1 d2 d3 D : Addr) : Nat → List (Addr × OP)
  | 0 => [(D, isL [])]
  | 1 => [(D, isL [.ref a0]), (d0, isD (atD "key" u0 (.ref 70) true .none))]
  | 2 => [(D, isL [.ref a0, .ref a1]), (d1, isD (atD "left" u1 .none true .none)), (d0, isD (atD "key" u0 (.ref 70) true .none))]
  | 3 => [(D, isL [.ref a0, .ref a1, .ref a2]), (d2, isD (atD "right" u2 .none true .none)), (d1, isD (atD "left" u1 .none true .none)), (d0, isD (atD "key" u0 (.ref 70) true .none))]
  | _ => [(D, isL [.ref a0, .ref a1, .ref a2, .ref a3]), (d3, isD (atD "size" u3 (.ref fa) false .none)), (d2, isD (atD "right" u2 .none true .none)), (d1, isD (atD "left" u1 .none true .none)), (d0, isD (atD "key" u0 (.ref 70) true .none))]
theorem transform_spec {A : Around} {V h : Heap} {kx kdx mr cd c0 c1 c2 c3 fa : Addr} {kl : List (Str × Value)} {uu : Tok} (X : WF w.params mg mb V) (le : V.StaysIn h) (R : Room A 40) (N : NX mg V) (T : TVQ V) (h1 : At V kx (isI 142 kdx)) (h2 : At V kdx (isD kl)) (hl : kl.lookup ("mro" : Str) = some (.ref mr)) (h3 : At V mr (isL [.ref kx]))
    (hcd : At V cd (isK w prog [("key", .ref c0), ("left", .ref c1), ("right", .ref c2), ("size", .ref c3)])) (hsy : (cd == sysModules) = false) (i0 : isCA V c0 (.ref 70) true) (i1 : isCA V c1 .none true) (i2 : isCA V c2 .none true) (i3 : isCA V c3 (.ref fa) false) :
    Tell prog w A (.ref 97) [.ref kx, .ref cd, .str "no" uu, .bool false, .none] [] V h fun v V' => ∃ t3 ta ba bm a0 a1 a2 a3, v = .ref t3 ∧ At V' t3 (isT [.ref ta, .ref ba, .ref bm]) ∧ At V' ta (isT [.ref a0, .ref a1, .ref a2, .ref a3]) ∧ isAttr V' a0 "key" (.ref 70) true ∧ isAttr V' a1 "left" .none true ∧ isAttr V' a2 "right" .none true ∧ isAttr V' a3 "size" (.ref fa) false := by
  intro g d t os Q E k
  refine wpAny_call (c_bindc (Q := Q) le X (by k_is) (by k_is) R.depth (fun _ _ q => q) fun S0 => ?_)
  refine wpAny_of_eq (a := [(("cls" : Str), .ref kx), ("these", .ref cd), ("kw_only", .str "no" uu), ("collect_by_mro", .bool false), ("field_transformer", .none)]) ?_ ?_
  · kernel_rfl
  refine ⟨_, _, _, _, rfl, S0, stays_refl _, ?_, ?_, fun L h₁ t' S => ?_⟩
  · intro n x hx
    simp only [List.mem_cons, List.not_mem_nil, or_false] at hx
    rcases hx with rfl | rfl | rfl | rfl | rfl <;> first | exact .inl (by rfl) | exact .inr ⟨by rfl, by rfl⟩
  · intro n
    exact (by decide : List.Nodup (["kw_only"] : List Str))
  change St _ _ _ [(L, isNs _), (L+1, isC _)] h₁ at S
  have hdh := R.hd
  obtain ⟨ep, hcd'⟩ := isK_e hcd
  obtain ⟨cm1, cm2, cm3, cmr, cm4⟩ := cmf w.params
  wtm_at "v_all"
  refine x_lc (by rfl) ?_
  wtm_at "v_all"
  rename St _ _ _ _ _ => S
  rename_i vw _
  refine it_items S (S.view hcd') ?_
  clear S
  intro it h2' S
  refine go_list (its := fun i => [(it, isII cd 4 ep i)]) (own := [(L+1, isC (some (.str "no" uu)))]) S (src_items hcd' (by wtm_at "v_hd")) ?_
  clear S
  intro C D h5 S
  refine ⟨fun i V' own => ∃ m u0 u1 u2 u3 a0 a1 a2 a3 d0 d1 d2 d3, own = (D, isL (([.ref a0, .ref a1, .ref a2, .ref a3] : List Value).take i)) :: (L, isNs m) :: (((atOwn u0 u1 u2 u3 fa a0 a1 a2 a3 d0 d1 d2 d3 D i).drop 1) ++ [(L+1, isC (some (.str "no" uu)))]) ∧ m "cls" = some (.ref kx) ∧ m "collect_by_mro" = some (.bool false) ∧ m "field_transformer" = some .none ∧
    (1 ≤ i → At V' a0 (isI 313 d0)) ∧ (2 ≤ i → At V' a1 (isI 313 d1)) ∧ (3 ≤ i → At V' a2 (isI 313 d2)) ∧ (4 ≤ i → At V' a3 (isI 313 d3)),
    ⟨_, 0, 0, 0, 0, 0, 0, 0, 0, 0, 0, 0, 0, rfl, rfl, rfl, rfl, fun z => absurd z (by decide), fun z => absurd z (by decide), fun z => absurd z (by decide), fun z => absurd z (by decide)⟩, ?_, ?_⟩
  · clear S
    rintro i x V' V'' mc own h t hi hv ⟨m, u0, u1, u2, u3, a0, a1, a2, a3, d0, d1, d2, d3, rfl, m1, m2, m3, q0, q1, q2, q3⟩ hv' ⟨ki, vi, Ti, ui, hx, rfl, hT⟩ S
    rcases i with _ | _ | _ | _ | i
    · simp only [List.getElem?_cons_zero, Option.some.injEq, Prod.mk.injEq] at hx
      obtain ⟨rfl, rfl⟩ := hx
      change St _ _ _ ((C, isNs mc) :: (it, isII cd 4 ep 1) :: (D, isL []) :: (L, isNs m) :: ([] ++ [(L+1, isC (some (.str "no" uu)))])) h at S
      wtm_at "v_all"
      rename St _ _ _ _ _ => S
      refine m_cm S (by wtm_at "v_wf") cm1 cm2 cm3 cm4 ?_
      clear S
      intro qm V6 h6 t6 S hv6 hq6
      dsimp only
      refine w_keep ?_
      wtm_at "v_all"
      rename St _ _ _ _ _ => S
      refine ⟨keep_M S (by wtm_at "v_wf") (by wtm_at "v_at") (by k_is), ?_⟩
      refine c_methG S (by wtm_at "v_at") (from_ca (by wtm_at "v_wf") S.le (by wtm_at "v_rm") (N.keeps (by wtm_at "v_st")) (T.keeps (by wtm_at "v_st")) (i0.keeps (by wtm_at "v_st")) rfl) ?_
      rintro v V7 h7 t7 own₂ back hv7 ⟨b, db, rfl, hb, hm⟩
      have S := back [(db, isD (atD "key" ui (.ref 70) true .none))] (fun p hp => by rw [List.mem_singleton.mp hp]; exact hm) (by simp)
      wtm_at "v_all"
      rename St _ _ _ _ _ => S
      change St _ _ _ ((C, isNs _) :: (db, isD (atD "key" ui (.ref 70) true .none)) :: ([(it, isII cd 4 ep 1), (D, isL [.ref b]), (L, isNs m)] ++ ([] ++ [(L+1, isC (some (.str "no" uu)))]))) _ at S
      have S := S.perm (l := (C, isNs _) :: ([(it, isII cd 4 ep 1), (D, isL [.ref b]), (L, isNs m)] ++ (db, isD (atD "key" ui (.ref 70) true .none)) :: ([] ++ [(L+1, isC (some (.str "no" uu)))]))) (.cons _ List.perm_middle)
      exact Step.mk S (by wtm_at "v_st") ⟨m, ui, u1, u2, u3, b, a1, a2, a3, db, d1, d2, d3, rfl, m1, m2, m3, fun _ => hb.keeps (by wtm_at "v_st"), fun z => absurd z (by decide), fun z => absurd z (by decide), fun z => absurd z (by decide)⟩
    · simp only [List.getElem?_cons_succ, List.getElem?_cons_zero, Option.some.injEq, Prod.mk.injEq] at hx
      obtain ⟨rfl, rfl⟩ := hx
      change St _ _ _ ((C, isNs mc) :: (it, isII cd 4 ep 2) :: (D, isL [.ref a0]) :: (L, isNs m) :: ([(d0, isD (atD "key" u0 (.ref 70) true .none))] ++ [(L+1, isC (some (.str "no" uu)))])) h at S
      wtm_at "v_all"
      rename St _ _ _ _ _ => S
      refine m_cm S (by wtm_at "v_wf") cm1 cm2 cm3 cm4 ?_
      clear S
      intro qm V6 h6 t6 S hv6 hq6
      dsimp only
      refine w_keep ?_
      wtm_at "v_all"
      rename St _ _ _ _ _ => S
      refine ⟨keep_M S (by wtm_at "v_wf") (by wtm_at "v_at") (by k_is), ?_⟩
      refine c_methG S (by wtm_at "v_at") (from_ca (by wtm_at "v_wf") S.le (by wtm_at "v_rm") (N.keeps (by wtm_at "v_st")) (T.keeps (by wtm_at "v_st")) (i1.keeps (by wtm_at "v_st")) rfl) ?_
      rintro v V7 h7 t7 own₂ back hv7 ⟨b, db, rfl, hb, hm⟩
      have S := back [(db, isD (atD "left" ui .none true .none))] (fun p hp => by rw [List.mem_singleton.mp hp]; exact hm) (by simp)
      wtm_at "v_all"
      rename St _ _ _ _ _ => S
      change St _ _ _ ((C, isNs _) :: (db, isD (atD "left" ui .none true .none)) :: ([(it, isII cd 4 ep 2), (D, isL [.ref a0, .ref b]), (L, isNs m)] ++ ([(d0, isD (atD "key" u0 (.ref 70) true .none))] ++ [(L+1, isC (some (.str "no" uu)))]))) _ at S
      have S := S.perm (l := (C, isNs _) :: ([(it, isII cd 4 ep 2), (D, isL [.ref a0, .ref b]), (L, isNs m)] ++ (db, isD (atD "left" ui .none true .none)) :: ([(d0, isD (atD "key" u0 (.ref 70) true .none))] ++ [(L+1, isC (some (.str "no" uu)))]))) (.cons _ List.perm_middle)
      exact Step.mk S (by wtm_at "v_st") ⟨m, u0, ui, u2, u3, a0, b, a2, a3, d0, db, d2, d3, rfl, m1, m2, m3, fun _ => (q0 (by omega)).keeps (by wtm_at "v_st"), fun _ => hb.keeps (by wtm_at "v_st"), fun z => absurd z (by decide), fun z => absurd z (by decide)⟩
    · simp only [List.getElem?_cons_succ, List.getElem?_cons_zero, Option.some.injEq, Prod.mk.injEq] at hx
      obtain ⟨rfl, rfl⟩ := hx
      change St _ _ _ ((C, isNs mc) :: (it, isII cd 4 ep 3) :: (D, isL [.ref a0, .ref a1]) :: (L, isNs m) :: ([(d1, isD (atD "left" u1 .none true .none)), (d0, isD (atD "key" u0 (.ref 70) true .none))] ++ [(L+1, isC (some (.str "no" uu)))])) h at S
      wtm_at "v_all"
      rename St _ _ _ _ _ => S
      refine m_cm S (by wtm_at "v_wf") cm1 cm2 cm3 cm4 ?_
      clear S
      intro qm V6 h6 t6 S hv6 hq6
      dsimp only
      refine w_keep ?_
      wtm_at "v_all"
      rename St _ _ _ _ _ => S
      refine ⟨keep_M S (by wtm_at "v_wf") (by wtm_at "v_at") (by k_is), ?_⟩
      refine c_methG S (by wtm_at "v_at") (from_ca (by wtm_at "v_wf") S.le (by wtm_at "v_rm") (N.keeps (by wtm_at "v_st")) (T.keeps (by wtm_at "v_st")) (i2.keeps (by wtm_at "v_st")) rfl) ?_
      rintro v V7 h7 t7 own₂ back hv7 ⟨b, db, rfl, hb, hm⟩
      have S := back [(db, isD (atD "right" ui .none true .none))] (fun p hp => by rw [List.mem_singleton.mp hp]; exact hm) (by simp)
      wtm_at "v_all"
      rename St _ _ _ _ _ => S
      change St _ _ _ ((C, isNs _) :: (db, isD (atD "right" ui .none true .none)) :: ([(it, isII cd 4 ep 3), (D, isL [.ref a0, .ref a1, .ref b]), (L, isNs m)] ++ ([(d1, isD (atD "left" u1 .none true .none)), (d0, isD (atD "key" u0 (.ref 70) true .none))] ++ [(L+1, isC (some (.str "no" uu)))]))) _ at S
      have S := S.perm (l := (C, isNs _) :: ([(it, isII cd 4 ep 3), (D, isL [.ref a0, .ref a1, .ref b]), (L, isNs m)] ++ (db, isD (atD "right" ui .none true .none)) :: ([(d1, isD (atD "left" u1 .none true .none)), (d0, isD (atD "key" u0 (.ref 70) true .none))] ++ [(L+1, isC (some (.str "no" uu)))]))) (.cons _ List.perm_middle)
      exact Step.mk S (by wtm_at "v_st") ⟨m, u0, u1, ui, u3, a0, a1, b, a3, d0, d1, db, d3, rfl, m1, m2, m3, fun _ => (q0 (by omega)).keeps (by wtm_at "v_st"), fun _ => (q1 (by omega)).keeps (by wtm_at "v_st"), fun _ => hb.keeps (by wtm_at "v_st"), fun z => absurd z (by decide)⟩
    · simp only [List.getElem?_cons_succ, List.getElem?_cons_zero, Option.some.injEq, Prod.mk.injEq] at hx
      obtain ⟨rfl, rfl⟩ := hx
      change St _ _ _ ((C, isNs mc) :: (it, isII cd 4 ep 4) :: (D, isL [.ref a0, .ref a1, .ref a2]) :: (L, isNs m) :: ([(d2, isD (atD "right" u2 .none true .none)), (d1, isD (atD "left" u1 .none true .none)), (d0, isD (atD "key" u0 (.ref 70) true .none))] ++ [(L+1, isC (some (.str "no" uu)))])) h at S
      wtm_at "v_all"
      rename St _ _ _ _ _ => S
      refine m_cm S (by wtm_at "v_wf") cm1 cm2 cm3 cm4 ?_
      clear S
      intro qm V6 h6 t6 S hv6 hq6
      dsimp only
      refine w_keep ?_
      wtm_at "v_all"
      rename St _ _ _ _ _ => S
      refine ⟨keep_M S (by wtm_at "v_wf") (by wtm_at "v_at") (by k_is), ?_⟩
      refine c_methG S (by wtm_at "v_at") (from_ca (by wtm_at "v_wf") S.le (by wtm_at "v_rm") (N.keeps (by wtm_at "v_st")) (T.keeps (by wtm_at "v_st")) (i3.keeps (by wtm_at "v_st")) rfl) ?_
      rintro v V7 h7 t7 own₂ back hv7 ⟨b, db, rfl, hb, hm⟩
      have S := back [(db, isD (atD "size" ui (.ref fa) false .none))] (fun p hp => by rw [List.mem_singleton.mp hp]; exact hm) (by simp)
      wtm_at "v_all"
      rename St _ _ _ _ _ => S
      change St _ _ _ ((C, isNs _) :: (db, isD (atD "size" ui (.ref fa) false .none)) :: ([(it, isII cd 4 ep 4), (D, isL [.ref a0, .ref a1, .ref a2, .ref b]), (L, isNs m)] ++ ([(d2, isD (atD "right" u2 .none true .none)), (d1, isD (atD "left" u1 .none true .none)), (d0, isD (atD "key" u0 (.ref 70) true .none))] ++ [(L+1, isC (some (.str "no" uu)))]))) _ at S
      have S := S.perm (l := (C, isNs _) :: ([(it, isII cd 4 ep 4), (D, isL [.ref a0, .ref a1, .ref a2, .ref b]), (L, isNs m)] ++ (db, isD (atD "size" ui (.ref fa) false .none)) :: ([(d2, isD (atD "right" u2 .none true .none)), (d1, isD (atD "left" u1 .none true .none)), (d0, isD (atD "key" u0 (.ref 70) true .none))] ++ [(L+1, isC (some (.str "no" uu)))]))) (.cons _ List.perm_middle)
      exact Step.mk S (by wtm_at "v_st") ⟨m, u0, u1, u2, ui, a0, a1, a2, b, d0, d1, d2, db, rfl, m1, m2, m3, fun _ => (q0 (by omega)).keeps (by wtm_at "v_st"), fun _ => (q1 (by omega)).keeps (by wtm_at "v_st"), fun _ => (q2 (by omega)).keeps (by wtm_at "v_st"), fun _ => hb.keeps (by wtm_at "v_st")⟩
    · simp at hx
  clear S
  rintro V₁ mc own h t hv₁ ⟨m, u0, u1, u2, u3, a0, a1, a2, a3, d0, d1, d2, d3, rfl, m1, m2, m3, q0, q1, q2, q3⟩ S
  refine postU S ⟨_, _, _, rfl, ?_⟩
  clear S
  intro h t S
  change St _ _ _ ((L, isNs _) :: (D, isL [.ref a0, .ref a1, .ref a2, .ref a3]) :: ([(d3, isD (atD "size" u3 (.ref fa) false .none)), (d2, isD (atD "right" u2 .none true .none)), (d1, isD (atD "left" u1 .none true .none)), (d0, isD (atD "key" u0 (.ref 70) true .none))] ++ [(L+1, isC (some (.str "no" uu)))])) h at S
  obtain ⟨V2, S, hv2, hD⟩ := S.seal2
  have p0 : At V2 a0 (isI 313 d0) := (q0 (show 1 ≤ 4 by decide)).keeps hv2
  have p1 : At V2 a1 (isI 313 d1) := (q1 (show 2 ≤ 4 by decide)).keeps hv2
  have p2 : At V2 a2 (isI 313 d2) := (q2 (show 3 ≤ 4 by decide)).keeps hv2
  have p3 : At V2 a3 (isI 313 d3) := (q3 (show 4 ≤ 4 by decide)).keeps hv2
  clear q0 q1 q2 q3
  have hv02 : V.StaysIn V2 := stays_trans hv₁ hv2
  wtm_at "v_all"
  refine e_sc (by rfl) ?_
  wtm_at "v_all"
  rename St _ _ _ _ _ => S
  refine it_list S (S.view hD).weak ?_
  clear S
  intro it2 h6 S
  refine go_set (its := fun i => [(it2, isLI D i)]) S (src_list hD.weak hdh) ?_
  clear S
  intro C2 D2 h7 S
  refine ⟨fun i V' own => own = (D2, isS w prog i) :: (L, isNs fun z => if z = ("own_attrs" : Str) then some (.ref D) else m z) :: ([(d3, isD (atD "size" u3 (.ref fa) false .none)), (d2, isD (atD "right" u2 .none true .none)), (d1, isD (atD "left" u1 .none true .none)), (d0, isD (atD "key" u0 (.ref 70) true .none))] ++ [(L+1, isC (some (.str "no" uu)))]), rfl, ?_, ?_⟩
  · clear S
    rintro i x V' V'' mc own h t hi hv rfl hv' ⟨hx, rfl⟩ S
    clear hv'
    rcases i with _ | _ | _ | _ | i
    · simp only [List.getElem?_cons_zero, Option.some.injEq] at hx
      subst hx
      change St _ _ _ ((C2, isNs mc) :: (it2, isLI D 1) :: (D2, isS w prog 0) :: (L, isNs _) :: ([(d3, isD (atD "size" u3 (.ref fa) false .none)), (d2, isD (atD "right" u2 .none true .none)), (d1, isD (atD "left" u1 .none true .none)), (d0, isD (atD "key" u0 (.ref 70) true .none))] ++ [(L+1, isC (some (.str "no" uu)))])) h at S
      wtm_at "v_all"
      rename St _ _ _ _ _ => S
      refine s_add S (by wtm_at "v_upd") (by decide) ?_
      clear S
      intro h8 t8 S
      exact Step.mk (its := fun i => [(it2, isLI D i)]) S (by wtm_at "v_st") rfl
    · simp only [List.getElem?_cons_succ, List.getElem?_cons_zero, Option.some.injEq] at hx
      subst hx
      change St _ _ _ ((C2, isNs mc) :: (it2, isLI D 2) :: (D2, isS w prog 1) :: (L, isNs _) :: ([(d3, isD (atD "size" u3 (.ref fa) false .none)), (d2, isD (atD "right" u2 .none true .none)), (d1, isD (atD "left" u1 .none true .none)), (d0, isD (atD "key" u0 (.ref 70) true .none))] ++ [(L+1, isC (some (.str "no" uu)))])) h at S
      wtm_at "v_all"
      rename St _ _ _ _ _ => S
      refine s_add S (by wtm_at "v_upd") (by decide) ?_
      clear S
      intro h8 t8 S
      exact Step.mk (its := fun i => [(it2, isLI D i)]) S (by wtm_at "v_st") rfl
    · simp only [List.getElem?_cons_succ, List.getElem?_cons_zero, Option.some.injEq] at hx
      subst hx
      change St _ _ _ ((C2, isNs mc) :: (it2, isLI D 3) :: (D2, isS w prog 2) :: (L, isNs _) :: ([(d3, isD (atD "size" u3 (.ref fa) false .none)), (d2, isD (atD "right" u2 .none true .none)), (d1, isD (atD "left" u1 .none true .none)), (d0, isD (atD "key" u0 (.ref 70) true .none))] ++ [(L+1, isC (some (.str "no" uu)))])) h at S
      wtm_at "v_all"
      rename St _ _ _ _ _ => S
      refine s_add S (by wtm_at "v_upd") (by decide) ?_
      clear S
      intro h8 t8 S
      exact Step.mk (its := fun i => [(it2, isLI D i)]) S (by wtm_at "v_st") rfl
    · simp only [List.getElem?_cons_succ, List.getElem?_cons_zero, Option.some.injEq] at hx
      subst hx
      change St _ _ _ ((C2, isNs mc) :: (it2, isLI D 4) :: (D2, isS w prog 3) :: (L, isNs _) :: ([(d3, isD (atD "size" u3 (.ref fa) false .none)), (d2, isD (atD "right" u2 .none true .none)), (d1, isD (atD "left" u1 .none true .none)), (d0, isD (atD "key" u0 (.ref 70) true .none))] ++ [(L+1, isC (some (.str "no" uu)))])) h at S
      wtm_at "v_all"
      rename St _ _ _ _ _ => S
      refine s_add S (by wtm_at "v_upd") (by decide) ?_
      clear S
      intro h8 t8 S
      exact Step.mk (its := fun i => [(it2, isLI D i)]) S (by wtm_at "v_st") rfl
    · simp at hx
  clear S
  rintro V₃ mc2 own h t hv₃ rfl S
  refine post0 S ⟨_, _, _, rfl, ?_⟩
  clear S
  intro h t S
  have S := S.drop2
  wtm_at "v_all"
  rename St _ _ _ _ _ => S
  refine c_tell S (coll_spec (by wtm_at "v_wf") S.le (by wtm_at "v_rm") (by wtm_at "v_at") (by wtm_at "v_at") hl (by wtm_at "v_at")) ?_
  clear S
  rintro v V4 h4 t4 S hv4 ⟨t2, ba, bm, rfl, ht2, hba⟩
  wtm_at "v_all"
  rename St _ _ _ _ _ => S
  rename_i atl hq1 hq2 tq
  change St _ _ _ ((L, isNs _) :: (atl, isL [.ref a0, .ref a1, .ref a2, .ref a3]) :: ([(d3, isD (atD "size" u3 (.ref fa) false .none)), (d2, isD (atD "right" u2 .none true .none)), (d1, isD (atD "left" u1 .none true .none)), (d0, isD (atD "key" u0 (.ref 70) true .none))] ++ [(L+1, isC (some (.str "no" uu)))])) hq2 at S
  obtain ⟨V5, S, hv5, hat⟩ := S.seal2
  refine x_for ?_
  wtm_at "v_all"
  rename St _ _ _ _ _ => S
  refine f_list S hat.weak hdh (Inv := fun i V' m own => own = alO u0 u1 u2 u3 fa d0 d1 d2 d3 i ++ [(L+1, isC (some (.str "no" uu)))] ∧ m "attrs" = some (.ref atl) ∧ m "base_attrs" = some (.ref ba) ∧ m "base_attr_map" = some (.ref bm) ∧ m "field_transformer" = some .none) ⟨rfl, rfl, rfl, rfl, m3⟩ ?_ ?_
  · clear S
    rintro it3 i x V' m own h t hx hv ⟨rfl, n1, n2, n3, n4⟩ S
    rcases i with _ | _ | _ | _ | i
    · simp only [List.getElem?_cons_zero, Option.some.injEq] at hx
      subst hx
      change St _ _ _ ((L, isNs m) :: (it3, isLI atl 1) :: ([(d3, isD (atD "size" u3 (.ref fa) false .none)), (d2, isD (atD "right" u2 .none true .none)), (d1, isD (atD "left" u1 .none true .none)), (d0, isD (atD "key" u0 (.ref 70) true .none))] ++ [(L+1, isC (some (.str "no" uu)))])) h at S
      wtm_at "v_all"
      rename St _ _ _ _ _ => S
      refine c_tell S (alias_spec (by wtm_at "v_wf") S.le (by wtm_at "v_rm") (by decide +kernel)) ?_
      clear S
      rintro v V6 h6 t6 S hv6 rfl
      wtm_at "v_all"
      rename St _ _ _ _ _ => S
      exact Turn.next S (by wtm_at "v_st") ⟨rfl, n1, n2, n3, n4⟩
    · simp only [List.getElem?_cons_succ, List.getElem?_cons_zero, Option.some.injEq] at hx
      subst hx
      change St _ _ _ ((L, isNs m) :: (it3, isLI atl 2) :: ([(d3, isD (atD "size" u3 (.ref fa) false .none)), (d2, isD (atD "right" u2 .none true .none)), (d1, isD (atD "left" u1 .none true .none)), (d0, isD (atD "key" u0 (.ref 70) true (.str "key" u0)))] ++ [(L+1, isC (some (.str "no" uu)))])) h at S
      wtm_at "v_all"
      rename St _ _ _ _ _ => S
      refine c_tell S (alias_spec (by wtm_at "v_wf") S.le (by wtm_at "v_rm") (by decide +kernel)) ?_
      clear S
      rintro v V6 h6 t6 S hv6 rfl
      wtm_at "v_all"
      rename St _ _ _ _ _ => S
      exact Turn.next S (by wtm_at "v_st") ⟨rfl, n1, n2, n3, n4⟩
    · simp only [List.getElem?_cons_succ, List.getElem?_cons_zero, Option.some.injEq] at hx
      subst hx
      change St _ _ _ ((L, isNs m) :: (it3, isLI atl 3) :: ([(d3, isD (atD "size" u3 (.ref fa) false .none)), (d2, isD (atD "right" u2 .none true .none)), (d1, isD (atD "left" u1 .none true (.str "left" u1))), (d0, isD (atD "key" u0 (.ref 70) true (.str "key" u0)))] ++ [(L+1, isC (some (.str "no" uu)))])) h at S
      wtm_at "v_all"
      rename St _ _ _ _ _ => S
      refine c_tell S (alias_spec (by wtm_at "v_wf") S.le (by wtm_at "v_rm") (by decide +kernel)) ?_
      clear S
      rintro v V6 h6 t6 S hv6 rfl
      wtm_at "v_all"
      rename St _ _ _ _ _ => S
      exact Turn.next S (by wtm_at "v_st") ⟨rfl, n1, n2, n3, n4⟩
    · simp only [List.getElem?_cons_succ, List.getElem?_cons_zero, Option.some.injEq] at hx
      subst hx
      change St _ _ _ ((L, isNs m) :: (it3, isLI atl 4) :: ([(d3, isD (atD "size" u3 (.ref fa) false .none)), (d2, isD (atD "right" u2 .none true (.str "right" u2))), (d1, isD (atD "left" u1 .none true (.str "left" u1))), (d0, isD (atD "key" u0 (.ref 70) true (.str "key" u0)))] ++ [(L+1, isC (some (.str "no" uu)))])) h at S
      wtm_at "v_all"
      rename St _ _ _ _ _ => S
      refine c_tell S (alias_spec (by wtm_at "v_wf") S.le (by wtm_at "v_rm") (by decide +kernel)) ?_
      clear S
      rintro v V6 h6 t6 S hv6 rfl
      wtm_at "v_all"
      rename St _ _ _ _ _ => S
      exact Turn.next S (by wtm_at "v_st") ⟨rfl, n1, n2, n3, n4⟩
    · simp at hx
  clear S
  rintro V6 m own h t hv6 ⟨rfl, n1, n2, n3, n4⟩ S
  change St _ _ _ ((L, isNs m) :: ([(d3, isD (atD "size" u3 (.ref fa) false (.str "size" u3))), (d2, isD (atD "right" u2 .none true (.str "right" u2))), (d1, isD (atD "left" u1 .none true (.str "left" u1))), (d0, isD (atD "key" u0 (.ref 70) true (.str "key" u0)))] ++ [(L+1, isC (some (.str "no" uu)))])) h at S
  obtain ⟨V7, S, hv7, e3⟩ := S.seal2
  obtain ⟨V8, S, hv8, e2⟩ := S.seal2
  obtain ⟨V9, S, hv9, e1⟩ := S.seal2
  obtain ⟨V10, S, hv10, e0⟩ := S.seal2
  wtm_at "v_all"
  refine x_for ?_
  wtm_at "v_all"
  refine e_lc (by rfl) ?_
  wtm_at "v_all"
  rename St _ _ _ _ _ => S
  refine it_list S (At.weak (by wtm_at "v_at")) ?_
  clear S
  intro it4 h8 S
  have hat10 : At V10 atl (isL [.ref a0, .ref a1, .ref a2, .ref a3]) := hat.keeps (by wtm_at "v_st")
  refine go_list (its := fun i => [(it4, isLI atl i)]) S (src_list hat10.weak hdh) ?_
  clear S
  intro C4 D4 h9 S
  refine ⟨fun i V' own => ∃ m', own = (D4, isL (([.ref a0, .ref a1, .ref a2] : List Value).take i)) :: (L, isNs m') :: [(L+1, isC (some (.str "no" uu)))] ∧ m' "attrs" = some (.ref atl) ∧ m' "base_attrs" = some (.ref ba) ∧ m' "base_attr_map" = some (.ref bm) ∧ m' "had_default" = some (.bool false), ⟨_, rfl, n1, n2, n3, rfl⟩, ?_, ?_⟩
  · clear S
    rintro i x V' V'' mc own h t hi hv ⟨m', rfl, r1, r2, r3, r4⟩ hv' ⟨hx, rfl⟩ S
    clear hv'
    rcases i with _ | _ | _ | _ | i
    · simp only [List.getElem?_cons_zero, Option.some.injEq] at hx
      subst hx
      change St _ _ _ ((C4, isNs mc) :: (it4, isLI atl 1) :: (D4, isL []) :: (L, isNs m') :: [(L+1, isC (some (.str "no" uu)))]) h at S
      wtm_at "v_all"
      rename St _ _ _ _ _ => S
      exact Step.mk (its := fun i => [(it4, isLI atl i)]) S (by wtm_at "v_st") ⟨m', rfl, r1, r2, r3, r4⟩
    · simp only [List.getElem?_cons_succ, List.getElem?_cons_zero, Option.some.injEq] at hx
      subst hx
      change St _ _ _ ((C4, isNs mc) :: (it4, isLI atl 2) :: (D4, isL [.ref a0]) :: (L, isNs m') :: [(L+1, isC (some (.str "no" uu)))]) h at S
      wtm_at "v_all"
      rename St _ _ _ _ _ => S
      exact Step.mk (its := fun i => [(it4, isLI atl i)]) S (by wtm_at "v_st") ⟨m', rfl, r1, r2, r3, r4⟩
    · simp only [List.getElem?_cons_succ, List.getElem?_cons_zero, Option.some.injEq] at hx
      subst hx
      change St _ _ _ ((C4, isNs mc) :: (it4, isLI atl 3) :: (D4, isL [.ref a0, .ref a1]) :: (L, isNs m') :: [(L+1, isC (some (.str "no" uu)))]) h at S
      wtm_at "v_all"
      rename St _ _ _ _ _ => S
      exact Step.mk (its := fun i => [(it4, isLI atl i)]) S (by wtm_at "v_st") ⟨m', rfl, r1, r2, r3, r4⟩
    · simp only [List.getElem?_cons_succ, List.getElem?_cons_zero, Option.some.injEq] at hx
      subst hx
      change St _ _ _ ((C4, isNs mc) :: (it4, isLI atl 4) :: (D4, isL [.ref a0, .ref a1, .ref a2]) :: (L, isNs m') :: [(L+1, isC (some (.str "no" uu)))]) h at S
      wtm_at "v_all"
      rename St _ _ _ _ _ => S
      exact Step.mk (its := fun i => [(it4, isLI atl i)]) S (by wtm_at "v_st") ⟨m', rfl, r1, r2, r3, r4⟩
    · simp at hx
  clear S
  rintro V11 mc4 own h t hv11 ⟨m', rfl, r1, r2, r3, r4⟩ S
  refine post0 S ⟨_, _, _, rfl, ?_⟩
  clear S
  intro h t S
  change St _ _ _ ((L, isNs m') :: (D4, isL [.ref a0, .ref a1, .ref a2]) :: [(L+1, isC (some (.str "no" uu)))]) h at S
  obtain ⟨V12, S, hv12, hD4⟩ := S.seal2
  refine f_list S hD4.weak hdh (Inv := fun i V' m own => own = [(L+1, isC (some (.str "no" uu)))] ∧ m "attrs" = some (.ref atl) ∧ m "base_attrs" = some (.ref ba) ∧ m "base_attr_map" = some (.ref bm) ∧ m "had_default" = some (.bool (decide (2 ≤ i)))) ⟨rfl, r1, r2, r3, r4⟩ ?_ ?_
  · clear S
    rintro it5 i x V' m own h t hx hv ⟨rfl, n1, n2, n3, n4⟩ S
    rcases i with _ | _ | _ | i
    · simp only [List.getElem?_cons_zero, Option.some.injEq] at hx
      subst hx
      have n4' : m "had_default" = some (.bool false) := n4
      clear n4
      wtm_at "v_all"
      rename St _ _ _ _ _ => S
      exact Turn.next S (by wtm_at "v_st") ⟨rfl, n1, n2, n3, n4'⟩
    · simp only [List.getElem?_cons_succ, List.getElem?_cons_zero, Option.some.injEq] at hx
      subst hx
      have n4' : m "had_default" = some (.bool false) := n4
      clear n4
      wtm_at "v_all"
      rename St _ _ _ _ _ => S
      exact Turn.next S (by wtm_at "v_st") ⟨rfl, n1, n2, n3, rfl⟩
    · simp only [List.getElem?_cons_succ, List.getElem?_cons_zero, Option.some.injEq] at hx
      subst hx
      have n4' : m "had_default" = some (.bool true) := n4
      clear n4
      wtm_at "v_all"
      rename St _ _ _ _ _ => S
      exact Turn.next S (by wtm_at "v_st") ⟨rfl, n1, n2, n3, n4'⟩
    · simp at hx
  clear S
  rintro V13 m own h t hv13 ⟨rfl, n1, n2, n3, n4⟩ S
  clear n4
  wtm_at "v_all"
  refine x_for ?_
  wtm_at "v_all"
  rename St _ _ _ _ _ => S
  have hat13 : At V13 atl (isL [.ref a0, .ref a1, .ref a2, .ref a3]) := hat.keeps (by wtm_at "v_st")
  refine f_list S hat13.weak hdh (Inv := fun i V' m own => own = [(L+1, isC (some (.str "no" uu)))] ∧ m "attrs" = some (.ref atl) ∧ m "base_attrs" = some (.ref ba) ∧ m "base_attr_map" = some (.ref bm)) ⟨rfl, n1, n2, n3⟩ ?_ ?_
  · clear S
    rintro it6 i x V' m own h t hx hv ⟨rfl, n1, n2, n3⟩ S
    rcases i with _ | _ | _ | _ | i
    · simp only [List.getElem?_cons_zero, Option.some.injEq] at hx
      subst hx
      wtm_at "v_all"
      refine t_str (by decide +kernel) (by decide +kernel) ?_
      intro t7
      wtm_at "v_all"
      rename St _ _ _ _ _ => S
      exact Turn.next S (by wtm_at "v_st") ⟨rfl, n1, n2, n3⟩
    · simp only [List.getElem?_cons_succ, List.getElem?_cons_zero, Option.some.injEq] at hx
      subst hx
      wtm_at "v_all"
      refine t_str (by decide +kernel) (by decide +kernel) ?_
      intro t7
      wtm_at "v_all"
      rename St _ _ _ _ _ => S
      exact Turn.next S (by wtm_at "v_st") ⟨rfl, n1, n2, n3⟩
    · simp only [List.getElem?_cons_succ, List.getElem?_cons_zero, Option.some.injEq] at hx
      subst hx
      wtm_at "v_all"
      refine t_str (by decide +kernel) (by decide +kernel) ?_
      intro t7
      wtm_at "v_all"
      rename St _ _ _ _ _ => S
      exact Turn.next S (by wtm_at "v_st") ⟨rfl, n1, n2, n3⟩
    · simp only [List.getElem?_cons_succ, List.getElem?_cons_zero, Option.some.injEq] at hx
      subst hx
      wtm_at "v_all"
      refine t_str (by decide +kernel) (by decide +kernel) ?_
      intro t7
      wtm_at "v_all"
      rename St _ _ _ _ _ => S
      exact Turn.next S (by wtm_at "v_st") ⟨rfl, n1, n2, n3⟩
    · simp at hx
  clear S
  rintro V14 m own h t hv14 ⟨rfl, n1, n2, n3⟩ S
  wtm_at "v_all"
  rename St _ _ _ _ _ => S
  rename_i ta V15 hh15 hv15 hta t3 V16 hh16 hv16 ht3
  have w0 : V10.StaysIn V16 := by wtm_at "v_st"
  have w2 : V2.StaysIn V10 := by wtm_at "v_st"
  have w3 := stays_trans w2 w0
  exact k _ _ _ _ S.ret ⟨t3, ta, ba, bm, a0, a1, a2, a3, rfl, ht3, hta.keeps hv16, ⟨d0, u0, u0, p0.keeps w3, e0.keeps w0⟩, ⟨d1, u1, u1, p1.keeps w3, e1.keeps (stays_trans hv10 w0)⟩, ⟨d2, u2, u2, p2.keeps w3, e2.keeps (stays_trans hv9 (stays_trans hv10 w0))⟩, ⟨d3, u3, u3, p3.keeps w3, e3.keeps (stays_trans hv8 (stays_trans hv9 (stays_trans hv10 w0)))⟩⟩
end
theorem apartI {V : Heap} {a b C dx : Addr} {l : List (Str × Value)} (x : At V a (isI C dx)) (y : At V b (isD l)) : a ≠ b := by
  rintro rfl
  obtain ⟨o, e, rfl⟩ := x
  obtain ⟨o', e', es, n, rfl, _⟩ := y
  rw [e] at e'
  have := congrArg Obj.cls (Option.some.inj e')
  cases this
theorem apartT {V : Heap} {a b : Addr} {xs : List Value} {l : List (Str × Value)} (x : At V a (isT xs)) (y : At V b (isD l)) : a ≠ b := by
  rintro rfl
  obtain ⟨o, e, hc, _⟩ := x
  obtain ⟨o', e', es, n, rfl, _⟩ := y
  rw [e] at e'
  have := congrArg Obj.cls (Option.some.inj e')
  rw [hc] at this
  have : ("tuple" : String) = "dict" := by injection this
  exact absurd this (by decide)
theorem apartD {V : Heap} {a b : Addr} {l l' : List (Str × Value)} (x : At V a (isD l)) (y : At V b (isD l')) (hl : l.length ≠ l'.length) : a ≠ b := by
  rintro rfl
  obtain ⟨o, e, es, n, rfl, h1⟩ := x
  obtain ⟨o', e', es', n', rfl, h2⟩ := y
  rw [e] at e'
  have := congrArg Obj.data (Option.some.inj e')
  have e2 : es = es' := by
    have z : (Data.dict es.toArray n) = Data.dict es'.toArray n' := this
    injection z with z1 _
    simpa using z1
  subst e2
  exact hl (h1.len.symm.trans h2.len)
section
variable {prog : Program} {w : World} {mg mb : Str → Option Value}
theorem c_borrow {A : Around} {E : Value → Shared → Prop} {h₀ W V h : Heap} {own : List (Addr × OP)} {g : Array GenState} {d : Drawn} {t : Nat} {os : OsState} {f : Value} {args : List Value} {kw : List (Str × Value)} {fr : Addr × OP} {dx : Addr} {φ : OP} {P : Value → Heap → Prop} {Q : Value → Shared → Prop}
    (S : St h₀ W V (fr :: (dx, φ) :: own) h) (T : ∀ V₁, V.StaysIn V₁ → V₁.StaysIn h → At V₁ dx φ → Tell prog w A f args kw V₁ h P)
    (k : ∀ v V' V'' h' t', St h₀ W V'' (fr :: (dx, φ) :: own) h' → V.StaysIn V'' → P v V' → At V' dx φ → (∀ a ψ, At V' a ψ → a ≠ dx → At V'' a ψ) → Q v ⟨h', g, d, t', os⟩) : wpAny (model prog w) A (call f args kw) Q E ⟨h, g, d, t, os⟩ := by
  obtain ⟨V₁, S1, hv, hx⟩ := S.seal2
  refine T V₁ hv S1.le hx g d t os Q E fun v V' h' t' R p => ?_
  have S2 := S1.call R
  have hdx := S.has (dx, φ) (.tail _ (.head _))
  have low : ∀ b o, V.get? b = some o → b ≠ dx := fun b o e q => by rw [q, hdx.2.1] at e; cases e
  refine k v V' (only V' fun b => b ≠ dx) h' t' ⟨S2.ext, fun b o e => ?_, fun b o e => ?_, fun b o e => ?_, fun p hp => ?_, S.nd⟩ (fun b o e => ?_) p (hx.keeps R.sub) (fun a ψ x ha => ?_)
  · exact only_some.mpr ⟨low b o (S.sub _ _ e), S2.sub _ _ e⟩
  · exact S2.old _ _ (only_some.mp e).2
  · exact S2.le _ _ (only_some.mp e).2
  · simp only [List.mem_cons] at hp
    rcases hp with rfl | rfl | hp
    · have z := S2.has p (.head _)
      refine ⟨z.1, ?_, z.2.2⟩
      rw [only_get]; split <;> simp [z.2.1]
    · exact ⟨hdx.1.keeps R.ext, only_none (by simp), hdx.2.2⟩
    · have z := S2.has p (.tail _ hp)
      refine ⟨z.1, ?_, z.2.2⟩
      rw [only_get]; split <;> simp [z.2.1]
  · exact only_some.mpr ⟨low b o e, R.sub _ _ (hv _ _ e)⟩
  · obtain ⟨o, e, q⟩ := x
    exact ⟨o, only_some.mpr ⟨ha, e⟩, q⟩
theorem at404 {V : Heap} (X : WF w.params mg mb V) : At V 404 (isT []) := by
  have e : (hd.heap_39 w.params).lookup 404 = some { cls := .type "tuple", data := .seq #[] } := by k_is
  exact ⟨_, X.K _ _ e, rfl, 0, rfl⟩
theorem make_spec {A : Around} {V h : Heap} {cd c0 c1 c2 c3 fa fd : Addr} {u : Tok} (X : WF w.params mg mb V) (le : V.StaysIn h) (R : Room A 60) (N : NX mg V) (T : TVQ V)
    (hcd : At V cd (isK w prog [("key", .ref c0), ("left", .ref c1), ("right", .ref c2), ("size", .ref c3)])) (hsy : (cd == sysModules) = false) (i0 : isCA V c0 (.ref 70) true) (i1 : isCA V c1 .none true) (i2 : isCA V c2 .none true) (i3 : isCA V c3 (.ref fa) false) (f1 : At V fa (isI 370 fd)) (f2 : At V fd (isD [("factory", .ref 517), ("takes_self", .bool true)])) :
    Tell prog w A (.ref 410) [.str "Node" u, .ref cd] [] V h fun v V' => ∃ kd, v = .ref kd ∧ KD V' kd := by
  intro g d t os Q E k
  refine c_def (binds := [("name", .str "Node" u), ("attrs", .ref cd), ("bases", .ref 404), ("cmp", .none), ("eq", .none), ("order", .none), ("kw_only", .bool false), ("force_kw_only", .bool true), ("collect_by_mro", .bool false), ("field_transformer", .none)]) le X (by k_is) (by k_is) R.depth (kp_binds (X.K.keeps le) fun _ => by kernel_rfl) (by kernel_rfl) ?_
  intro L h t S
  have hdh := R.hd
  have hb := at404 X
  wtm_at "v_all"
  rename St _ _ _ _ _ => S
  refine c_tell S (attrs_order (by wtm_at "v_wf") S.le (by wtm_at "v_rm")) ?_
  clear S
  rintro v V1 h1 t1 S hv1 ⟨eo, rfl, heo⟩
  wtm_at "v_all"
  rename St _ _ _ _ _ => S
  refine c_make S (by wtm_at "v_wf") (by k_is) (by k_is) (by k_is) (fun x dx own V' => ∃ L m mr at_, own = [(L, isNs m), (dx, isD [("name", .str "Node" u), ("mro", .ref mr), ("attrs", .ref at_), ("eq_attrs", .none), ("order_attrs", .none)])] ∧ At V' mr (isL [.ref x])) (fun x dx V' h' hv hx S' => ?_) ?_
  · intro g d t os R' k'
    refine kind_init ((WF.via (by wtm_at "v_st") X).keeps hv) S'.le ?_ hx (S'.get (.tail _ (.head _))) (S'.has _ (.tail _ (.head _))).2.1 (hb.keeps (by wtm_at "v_st")) g d t os R' k'
    exact Room.make (n := 15) (by wtm_at "v_rm")
  clear S
  rintro kx kdx V4 V5 h4 t4 own₂ hv4 hx hv5 ⟨L', m', mr, at_, rfl, hmr⟩ back nd'
  have S := back [(kdx, isD [("name", .str "Node" u), ("mro", .ref mr), ("attrs", .ref at_), ("eq_attrs", .none), ("order_attrs", .none)])] (by simp) (by simp)
  rw [List.append_nil] at S
  wtm_at "v_all"
  rename St _ _ _ _ _ => S
  refine c_borrow S (fun V₁ hv₁ le₁ hk₁ => transform_spec (kl := [("name", .str "Node" u), ("mro", .ref mr), ("attrs", .ref at_), ("eq_attrs", .none), ("order_attrs", .none)]) (by wtm_at "v_wf") le₁ (by wtm_at "v_rm") (N.keeps (by wtm_at "v_st")) (T.keeps (by wtm_at "v_st")) (hx.keeps (by wtm_at "v_st")) hk₁ (by rfl) (hmr.keeps (by wtm_at "v_st")) (hcd.keeps (by wtm_at "v_st")) hsy (i0.keeps (by wtm_at "v_st")) (i1.keeps (by wtm_at "v_st")) (i2.keeps (by wtm_at "v_st")) (i3.keeps (by wtm_at "v_st"))) ?_
  clear S
  rintro v V6' V6 h6 t6 S hv6 ⟨t3, ta, ba, bm, a0, a1, a2, a3, rfl, ht3, hta, ⟨d0, u0, w0, p0, e0⟩, ⟨d1, u1, w1, p1, e1⟩, ⟨d2, u2, w2, p2, e2⟩, ⟨d3, u3, w3, p3, e3⟩⟩ hkx tr
  have ht3 := tr _ _ ht3 (apartT ht3 hkx)
  have hta := tr _ _ hta (apartT hta hkx)
  have p0 := tr _ _ p0 (apartI p0 hkx)
  have p1 := tr _ _ p1 (apartI p1 hkx)
  have p2 := tr _ _ p2 (apartI p2 hkx)
  have p3 := tr _ _ p3 (apartI p3 hkx)
  have e0 := tr _ _ e0 (apartD e0 hkx (by simp))
  have e1 := tr _ _ e1 (apartD e1 hkx (by simp))
  have e2 := tr _ _ e2 (apartD e2 hkx (by simp))
  have e3 := tr _ _ e3 (apartD e3 hkx (by simp))
  clear tr hkx
  wtm_at "v_all"
  rename St _ _ _ _ _ => S
  change St _ _ _ [(L, isNs _), (kdx, isD [("name", .str "Node" u), ("mro", .ref mr), ("attrs", .ref ta), ("eq_attrs", .none), ("order_attrs", .none)])] _ at S
  refine e_lc (by rfl) ?_
  wtm_at "v_all"
  rename St _ _ _ _ _ => S
  have hta0 : At V6 ta (isT [.ref a0, .ref a1, .ref a2, .ref a3]) := hta.keeps (by wtm_at "v_st")
  refine it_tup S (S.view hta0) ?_
  clear S
  intro it0 hi0 S
  refine go_list (its := fun i => [(it0, isTI ta i)]) S (src_tup hta0 hdh) ?_
  clear S
  intro C0 le1 hj0 S
  refine ⟨fun i V' own => ∃ m', own = (le1, isL (([.ref a0, .ref a1, .ref a2, .ref a3] : List Value).take i)) :: (L, isNs m') :: [(kdx, isD [("name", .str "Node" u), ("mro", .ref mr), ("attrs", .ref ta), ("eq_attrs", .none), ("order_attrs", .none)])] ∧ m' "made" = some (.ref kx) ∧ m' "order" = some (.bool true), ⟨_, rfl, rfl, rfl⟩, ?_, ?_⟩
  · clear S
    rintro i x V' V'' mc own h t hi hv ⟨m', rfl, r1, r2⟩ hv' ⟨hx, rfl⟩ S
    clear hv'
    rcases i with _ | _ | _ | _ | i
    · simp only [List.getElem?_cons_zero, Option.some.injEq] at hx
      subst hx
      change St _ _ _ ((C0, isNs mc) :: (it0, isTI ta 1) :: (le1, isL []) :: (L, isNs m') :: [(kdx, isD [("name", .str "Node" u), ("mro", .ref mr), ("attrs", .ref ta), ("eq_attrs", .none), ("order_attrs", .none)])]) h at S
      wtm_at "v_all"
      rename St _ _ _ _ _ => S
      exact Step.mk (its := fun i => [(it0, isTI ta i)]) S (by wtm_at "v_st") ⟨m', rfl, r1, r2⟩
    · simp only [List.getElem?_cons_succ, List.getElem?_cons_zero, Option.some.injEq] at hx
      subst hx
      change St _ _ _ ((C0, isNs mc) :: (it0, isTI ta 2) :: (le1, isL [.ref a0]) :: (L, isNs m') :: [(kdx, isD [("name", .str "Node" u), ("mro", .ref mr), ("attrs", .ref ta), ("eq_attrs", .none), ("order_attrs", .none)])]) h at S
      wtm_at "v_all"
      rename St _ _ _ _ _ => S
      exact Step.mk (its := fun i => [(it0, isTI ta i)]) S (by wtm_at "v_st") ⟨m', rfl, r1, r2⟩
    · simp only [List.getElem?_cons_succ, List.getElem?_cons_zero, Option.some.injEq] at hx
      subst hx
      change St _ _ _ ((C0, isNs mc) :: (it0, isTI ta 3) :: (le1, isL [.ref a0, .ref a1]) :: (L, isNs m') :: [(kdx, isD [("name", .str "Node" u), ("mro", .ref mr), ("attrs", .ref ta), ("eq_attrs", .none), ("order_attrs", .none)])]) h at S
      wtm_at "v_all"
      rename St _ _ _ _ _ => S
      exact Step.mk (its := fun i => [(it0, isTI ta i)]) S (by wtm_at "v_st") ⟨m', rfl, r1, r2⟩
    · simp only [List.getElem?_cons_succ, List.getElem?_cons_zero, Option.some.injEq] at hx
      subst hx
      change St _ _ _ ((C0, isNs mc) :: (it0, isTI ta 4) :: (le1, isL [.ref a0, .ref a1, .ref a2]) :: (L, isNs m') :: [(kdx, isD [("name", .str "Node" u), ("mro", .ref mr), ("attrs", .ref ta), ("eq_attrs", .none), ("order_attrs", .none)])]) h at S
      wtm_at "v_all"
      rename St _ _ _ _ _ => S
      exact Step.mk (its := fun i => [(it0, isTI ta i)]) S (by wtm_at "v_st") ⟨m', rfl, r1, r2⟩
    · simp at hx
  clear S
  rintro W0 mc0 own h t hvw0 ⟨m'0, rfl, r1, r2⟩ S
  refine post0 S ⟨_, _, _, rfl, ?_⟩
  clear S
  intro h t S
  change St _ _ _ ((L, isNs m'0) :: (le1, isL [.ref a0, .ref a1, .ref a2, .ref a3]) :: [(kdx, isD [("name", .str "Node" u), ("mro", .ref mr), ("attrs", .ref ta), ("eq_attrs", .none), ("order_attrs", .none)])]) h at S
  obtain ⟨V7, S, hvv0, hl0⟩ := S.seal2
  wtm_at "v_all"
  rename St _ _ _ _ _ => S
  change St _ _ _ [(L, isNs _), (kdx, isD [("name", .str "Node" u), ("mro", .ref mr), ("attrs", .ref ta), ("eq_attrs", (.ref le1)), ("order_attrs", .none)])] _ at S
  refine e_lc (by rfl) ?_
  wtm_at "v_all"
  rename St _ _ _ _ _ => S
  have hta1 : At V7 ta (isT [.ref a0, .ref a1, .ref a2, .ref a3]) := hta.keeps (by wtm_at "v_st")
  refine it_tup S (S.view hta1) ?_
  clear S
  intro it1 hi1 S
  refine go_list (its := fun i => [(it1, isTI ta i)]) S (src_tup hta1 hdh) ?_
  clear S
  intro C1 lo1 hj1 S
  refine ⟨fun i V' own => ∃ m', own = (lo1, isL (([.ref a0, .ref a1, .ref a2, .ref a3] : List Value).take i)) :: (L, isNs m') :: [(kdx, isD [("name", .str "Node" u), ("mro", .ref mr), ("attrs", .ref ta), ("eq_attrs", (.ref le1)), ("order_attrs", .none)])] ∧ m' "made" = some (.ref kx) ∧ m' "order" = some (.bool true), ⟨_, rfl, r1, r2⟩, ?_, ?_⟩
  · clear S
    rintro i x V' V'' mc own h t hi hv ⟨m', rfl, r1, r2⟩ hv' ⟨hx, rfl⟩ S
    clear hv'
    rcases i with _ | _ | _ | _ | i
    · simp only [List.getElem?_cons_zero, Option.some.injEq] at hx
      subst hx
      change St _ _ _ ((C1, isNs mc) :: (it1, isTI ta 1) :: (lo1, isL []) :: (L, isNs m') :: [(kdx, isD [("name", .str "Node" u), ("mro", .ref mr), ("attrs", .ref ta), ("eq_attrs", (.ref le1)), ("order_attrs", .none)])]) h at S
      wtm_at "v_all"
      rename St _ _ _ _ _ => S
      exact Step.mk (its := fun i => [(it1, isTI ta i)]) S (by wtm_at "v_st") ⟨m', rfl, r1, r2⟩
    · simp only [List.getElem?_cons_succ, List.getElem?_cons_zero, Option.some.injEq] at hx
      subst hx
      change St _ _ _ ((C1, isNs mc) :: (it1, isTI ta 2) :: (lo1, isL [.ref a0]) :: (L, isNs m') :: [(kdx, isD [("name", .str "Node" u), ("mro", .ref mr), ("attrs", .ref ta), ("eq_attrs", (.ref le1)), ("order_attrs", .none)])]) h at S
      wtm_at "v_all"
      rename St _ _ _ _ _ => S
      exact Step.mk (its := fun i => [(it1, isTI ta i)]) S (by wtm_at "v_st") ⟨m', rfl, r1, r2⟩
    · simp only [List.getElem?_cons_succ, List.getElem?_cons_zero, Option.some.injEq] at hx
      subst hx
      change St _ _ _ ((C1, isNs mc) :: (it1, isTI ta 3) :: (lo1, isL [.ref a0, .ref a1]) :: (L, isNs m') :: [(kdx, isD [("name", .str "Node" u), ("mro", .ref mr), ("attrs", .ref ta), ("eq_attrs", (.ref le1)), ("order_attrs", .none)])]) h at S
      wtm_at "v_all"
      rename St _ _ _ _ _ => S
      exact Step.mk (its := fun i => [(it1, isTI ta i)]) S (by wtm_at "v_st") ⟨m', rfl, r1, r2⟩
    · simp only [List.getElem?_cons_succ, List.getElem?_cons_zero, Option.some.injEq] at hx
      subst hx
      change St _ _ _ ((C1, isNs mc) :: (it1, isTI ta 4) :: (lo1, isL [.ref a0, .ref a1, .ref a2]) :: (L, isNs m') :: [(kdx, isD [("name", .str "Node" u), ("mro", .ref mr), ("attrs", .ref ta), ("eq_attrs", (.ref le1)), ("order_attrs", .none)])]) h at S
      wtm_at "v_all"
      rename St _ _ _ _ _ => S
      exact Step.mk (its := fun i => [(it1, isTI ta i)]) S (by wtm_at "v_st") ⟨m', rfl, r1, r2⟩
    · simp at hx
  clear S
  rintro W1 mc1 own h t hvw1 ⟨m'1, rfl, r1, r2⟩ S
  refine post0 S ⟨_, _, _, rfl, ?_⟩
  clear S
  intro h t S
  change St _ _ _ ((L, isNs m'1) :: (lo1, isL [.ref a0, .ref a1, .ref a2, .ref a3]) :: [(kdx, isD [("name", .str "Node" u), ("mro", .ref mr), ("attrs", .ref ta), ("eq_attrs", (.ref le1)), ("order_attrs", .none)])]) h at S
  obtain ⟨V8, S, hvv1, hl1⟩ := S.seal2
  wtm_at "v_all"
  rename St _ _ _ _ _ => S
  change St _ _ _ [(L, isNs _), (kdx, isD [("name", .str "Node" u), ("mro", .ref mr), ("attrs", .ref ta), ("eq_attrs", (.ref le1)), ("order_attrs", (.ref lo1))])] _ at S
  obtain ⟨V9, S, hv9, hkd⟩ := S.seal2
  have w6 : V6.StaysIn V9 := by wtm_at "v_st"
  have w5 : V.StaysIn V9 := by wtm_at "v_st"
  exact k _ _ _ _ S.ret ⟨kx, rfl, ⟨kdx, mr, ta, le1, lo1, a0, a1, a2, a3, fa, fd, u, hx.keeps (by wtm_at "v_st"), hkd, hmr.keeps (by wtm_at "v_st"), hta.keeps w6, hl0.keeps (by wtm_at "v_st"), ⟨d0, u0, w0, p0.keeps w6, e0.keeps w6⟩, ⟨d1, u1, w1, p1.keeps w6, e1.keeps w6⟩, ⟨d2, u2, w2, p2.keeps w6, e2.keeps w6⟩, ⟨d3, u3, w3, p3.keeps w6, e3.keeps w6⟩, f1.keeps w5, f2.keeps w5⟩⟩
end
theorem ints_get {vs : List Value} {ns : List Int} (x : IntsAre vs ns) : ∀ {i : Nat} {v : Value}, vs[i]? = some v → ∃ n u, v = .int n u := by
  induction x with
  | nil => intro i v h; simp at h
  | cons n u _ ih =>
    intro i v h
    cases i with
    | zero => simp only [List.getElem?_cons_zero, Option.some.injEq] at h; exact ⟨n, u, h.symm⟩
    | succ i => exact ih (by simpa using h)
def isNat0 : List Value → Prop
  | [] => True
  | v :: vs => (∃ n u, v = .int n u ∧ 0 ≤ n) ∧ isNat0 vs
theorem isNat0.snoc {n : Int} {u : Tok} (hn : 0 ≤ n) : ∀ {vs : List Value}, isNat0 vs → isNat0 (vs ++ [.int n u])
  | [], _ => ⟨⟨_, _, rfl, hn⟩, trivial⟩
  | _ :: _, h => ⟨h.1, h.2.snoc hn⟩
theorem isNat0.take : ∀ {vs : List Value} {k : Nat}, isNat0 vs → isNat0 (vs.take k)
  | [], k, _ => by simp [isNat0]
  | _ :: _, 0, _ => trivial
  | _ :: _, k + 1, h => ⟨h.1, h.2.take⟩
theorem isNat0.ints : ∀ {vs : List Value}, isNat0 vs → ∃ ns, IntsAre vs ns ∧ ∀ n ∈ ns, 0 ≤ n
  | [], _ => ⟨[], .nil, by simp⟩
  | v :: vs, ⟨⟨n, u, e, hn⟩, h⟩ => by
    obtain ⟨ns, h1, h2⟩ := h.ints
    subst e
    exact ⟨n :: ns, .cons n u h1, fun m hm => by rcases List.mem_cons.mp hm with rfl | hm; exact hn; exact h2 m hm⟩
theorem own_uniq : ∀ {own : List (Addr × OP)}, (own.map (·.1)).Nodup → ∀ {q r : Addr × OP}, q ∈ own → r ∈ own → q.1 = r.1 → q = r
  | [], _, _, _, hq, _, _ => nomatch hq
  | a :: as, nd, q, r, hq, hr, e => by
    simp only [List.map_cons, List.nodup_cons] at nd
    rcases List.mem_cons.mp hq with h1 | hq <;> rcases List.mem_cons.mp hr with h2 | hr
    · rw [h1, h2]
    · exact absurd (h1 ▸ e ▸ List.mem_map_of_mem (f := (·.1)) hr) nd.1
    · exact absurd (h2 ▸ e ▸ List.mem_map_of_mem (f := (·.1)) hq) nd.1
    · exact own_uniq nd.2 hq hr e
def isDr (l : Addr) : OP := fun o => ∃ seed u, isLw [.ref l, .int seed u] o ∧ 0 ≤ seed ∧ seed < 2147483647
def isCells : OP := fun o => ∃ xs, isL xs o ∧ isNat0 xs ∧ xs.length ≤ 24
section
variable {prog : Program} {w : World} {mg mb : Str → Option Value}
theorem c_take {A : Around} {E : Value → Shared → Prop} {h₀ W V h : Heap} {own : List (Addr × OP)} {g : Array GenState} {d : Drawn} {t : Nat} {os : OsState} {D l : Addr} {many : Int} {u : Tok} {Q : Value → Shared → Prop} (S : St h₀ W V own h) (X : WF w.params mg mb V) (hD : (D, isDr l) ∈ own) (hl : (l, isCells) ∈ own) (ne : D ≠ l) (hm : 0 < many)
    (hd : A.depth < recursionLimit) (hu : A.units + 200 < cLine)
    (k : ∀ r h' t' u', St h₀ W V own h' → 0 ≤ r → r < many → Q (.int r u') ⟨h', g, d, t', os⟩) : wpAny (model prog w) A (call (.ref 510) [.ref D, .int many u]) Q E ⟨h, g, d, t, os⟩ := by
  have a1 := S.has _ hD
  have a2 := S.has _ hl
  obtain ⟨o1, e1, seed, us, q1, s0, s1⟩ := a1.1
  obtain ⟨o2, e2, xs, q2, hn, hlen⟩ := a2.1
  obtain ⟨ns, hi, hns⟩ := hn.ints
  refine take_spec X S.le ⟨ne, seed, us, ns, xs, ⟨o1, e1, q1⟩, ⟨o2, e2, q2⟩, hi, hns, s0, s1, hlen⟩ a1.2.1 a2.2.1 hm hd hu fun r h' t' u' keep Dr r0 r1 => k r h' t' u' ?_ r0 r1
  have a1' : D ≠ D → False := fun q => q rfl
  have no0 : ∀ b o, h₀.get? b = some o → b ≠ D ∧ b ≠ l := fun b o e => ⟨(by rintro rfl; rw [a1.2.2] at e; cases e), (by rintro rfl; rw [a2.2.2] at e; cases e)⟩
  have noV : ∀ b o, V.get? b = some o → b ≠ D ∧ b ≠ l := fun b o e => ⟨(by rintro rfl; rw [a1.2.1] at e; cases e), (by rintro rfl; rw [a2.2.1] at e; cases e)⟩
  refine ⟨fun b o e => keep b o (no0 b o e).1 (no0 b o e).2 (S.ext b o e), S.sub, S.old, fun b o e => keep b o (noV b o e).1 (noV b o e).2 (S.le b o e), fun p hp => ?_, S.nd⟩
  have z := S.has p hp
  refine ⟨?_, z.2⟩
  obtain ⟨_, seed', us', ns', xs', p1, p2, hi', hns', s0', s1', hl'⟩ := Dr
  have uniq : ∀ {q r : Addr × OP}, q ∈ own → r ∈ own → q.1 = r.1 → q = r := fun hq hr e => own_uniq S.nd hq hr e
  by_cases c1 : p.1 = D
  · obtain rfl : p = (D, isDr l) := uniq hp hD c1
    obtain ⟨o, e, q⟩ := p1
    exact ⟨o, e, seed', us', q, s0', s1'⟩
  · by_cases c2 : p.1 = l
    · obtain rfl : p = (l, isCells) := uniq hp hl c2
      obtain ⟨o, e, q⟩ := p2
      have back : ∀ {vs : List Value} {ms : List Int}, IntsAre vs ms → (∀ n ∈ ms, 0 ≤ n) → isNat0 vs := by
        intro vs ms hi
        induction hi with
        | nil => intro _; trivial
        | cons n u _ ih => intro h; exact ⟨⟨n, u, rfl, h n (.head _)⟩, ih fun m hm => h m (.tail _ hm)⟩
      exact ⟨o, e, xs', q, back hi' hns', hl'⟩
    · obtain ⟨o, e, q⟩ := z.1
      exact ⟨o, keep _ _ c1 c2 e, q⟩
theorem draw_spec {A : Around} {V h : Heap} {sl : Addr} {vs : List Value} {ns : List Int} (X : WF w.params mg mb V) (le : V.StaysIn h) (R : Room A 10) (hs : At V sl (isLw vs)) (hi : IntsAre vs ns) (hz : vs.length ≤ 63) :
    TellG prog w A 503 [.ref sl] [] V h fun v own V' => ∃ D l seed u xs L m D0 ys, v = .ref D ∧ own = [(L, isNs m), (D, isL [.ref l, .int seed u]), (l, isL xs), (D0, isL ys)] ∧ isNat0 xs ∧ xs.length ≤ 24 ∧ 0 ≤ seed ∧ seed < 2147483647 := by
  intro g d t os RR k
  refine c_defR (binds := [("script", .ref sl)]) le X (by k_is) (by k_is) R.depth (BindsTo.of_eq (by kernel_rfl)) (by kernel_rfl) ?_
  intro L h t S
  have hdh := R.hd
  wtm_at "v_all"
  refine x_for ?_
  wtm_at "v_all"
  rename St _ _ _ _ _ => S
  refine f_list S hs hdh (Inv := fun i V' m own => own = [] ∧ m "script" = some (.ref sl) ∧ ∃ s u, m "seed" = some (.int s u) ∧ 0 ≤ s ∧ s < 2147483647) ⟨rfl, rfl, _, _, rfl, by decide, by decide⟩ ?_ ?_
  · clear S
    rintro it i x V' m own h t hx hv ⟨rfl, m1, s, us, m2, s0, s1⟩ S
    obtain ⟨n, u, rfl⟩ := ints_get hi hx
    wtm_at "v_all"
    refine call_abs_int ?_
    intro u6 t6
    wtm_at "v_all"
    rename St _ _ _ _ _ => S
    exact Turn.next S (by wtm_at "v_st") ⟨rfl, m1, _, _, rfl, Int.fmod_nonneg_of_pos _ (by decide), Int.fmod_lt_of_pos _ (by decide)⟩
  · clear S
    rintro V' m own h t hv ⟨rfl, m1, s, us, m2, s0, s1⟩ S
    wtm_at "v_all"
    refine e_lc (by rfl) ?_
    wtm_at "v_all"
    rename St _ _ _ _ _ => S
    have hs' := hs.keeps hv
    refine it_list S (S.view hs') ?_
    clear S
    intro it2 h2 S
    refine go_list (own := []) (its := fun i => [(it2, isLI sl i)]) S (src_list hs' hdh) ?_
    clear S
    intro C D0 h3 S
    refine ⟨fun i V' own => ∃ ys, own = [(D0, isL ys), (L, isNs m)] ∧ isNat0 ys ∧ ys.length = i, ⟨_, rfl, trivial, rfl⟩, ?_, ?_⟩
    · clear S
      rintro i x V1 V2 mc own h t hi' hv1 ⟨ys, rfl, hy, hyl⟩ hv2 ⟨hx, rfl⟩ S
      clear hv2
      obtain ⟨n, u, rfl⟩ := ints_get hi hx
      change St _ _ _ [(C, isNs mc), (it2, isLI sl (i + 1)), (D0, isL ys), (L, isNs m)] h at S
      wtm_at "v_all"
      refine call_abs_int ?_
      intro u6 t6
      wtm_at "v_all"
      rename St _ _ _ _ _ => S
      refine Step.mk (its := fun i => [(it2, isLI sl i)]) S (by wtm_at "v_st") ⟨_, rfl, hy.snoc ?_, by simp [hyl]⟩
      split <;> omega
    · clear S
      rintro V3 mc own h t hv3 ⟨ys, rfl, hy, hyl⟩ S
      refine post0 S ⟨_, _, _, rfl, ?_⟩
      clear S
      intro h t S
      wtm_at "v_all"
      rename St _ _ _ _ _ => S
      have e24 : (slicePick ys.toArray none (some 24) none).toList = ys.take 24 := by
        have z := slicePick_upto' ys.toArray 24
        rw [show ((24 : Nat) : Int) = 24 from rfl] at z
        rw [z]
      rw [e24] at S
      exact k _ _ _ _ _ S ⟨_, _, s, us, ys.take 24, L, m, D0, ys, rfl, rfl, hy.take, by rw [List.length_take]; omega, s0, s1⟩
end
theorem Room.units200 {A : Around} {n : Nat} (R : Room A n) : A.units + 200 < cLine := by have := R.un; simp only [cLine]; omega
theorem Room.uplus {A : Around} {n a b : Nat} (R : Room A n) (h : a + b ≤ 200) : A.units + a + b < cLine := by have := R.un; simp only [cLine]; omega
inductive Softer : List (Addr × OP) → List (Addr × OP) → Prop
  | nil : Softer [] []
  | cons {a : Addr} {φ ψ : OP} {r r' : List (Addr × OP)} : (∀ o, φ o → ψ o) → Softer r r' → Softer ((a, φ) :: r) ((a, ψ) :: r')
theorem Softer.refl : ∀ l : List (Addr × OP), Softer l l
  | [] => .nil
  | (_, _) :: r => .cons (fun _ h => h) (Softer.refl r)
def isRg (n : Int) : OP := fun o => ∃ t u v, o = { cls := .type "range", dict := none, data := .fields #[.int 0 t, .int n u, .int 1 v], slots := #[] }
def isRI (x left : Int) : OP := fun o => o = { cls := .type "range_iterator", dict := none, data := .fields #[rawInt x, rawInt left, rawInt 1], slots := #[] }
section
variable {prog : Program} {w : World} {A : Around} {E : Value → Shared → Prop} {h₀ W V h : Heap} {own own' : List (Addr × OP)} {g : Array GenState} {d : Drawn} {t : Nat} {os : OsState} {env : Env} {mg mb : Str → Option Value}
theorem c_range {f : Addr × OP} {n : Int} {u : Tok} {Q : Value → Shared → Prop} (S : St h₀ W V (f :: own) h) (k : ∀ r h' t', St h₀ W V (f :: (r, isRg n) :: own) h' → Q (.ref r) ⟨h', g, d, t', os⟩) : wpAny (model prog w) A (call (.type "range") [.int n u]) Q E ⟨h, g, d, t, os⟩ :=
  call_range_1 (k _ _ _ (S.push2 _ rfl ⟨_, _, _, rfl⟩))
theorem it_range {f : Addr × OP} {r : Addr} {n : Int} {Q : Value → Shared → Prop} (S : St h₀ W V (f :: own) h) (x : At h r (isRg n)) (h0 : 0 ≤ n) (h1 : n < 2 ^ 62) (k : ∀ it h', St h₀ W V (f :: (it, isRI 0 n) :: own) h' → Q (.ref it) ⟨h', g, d, t, os⟩) : wpAny (model prog w) A (pyIter (.ref r)) Q E ⟨h, g, d, t, os⟩ := by
  obtain ⟨o, e, t1, t2, t3, rfl⟩ := x
  have hsz : Builtin.Range.rangeSize 0 n 1 = n := by rw [rangeSize_one]; split <;> omega
  refine wpAny_pyIter_range e (small_one (by decide) (by decide) (by omega) h1) ?_
  rw [hsz]
  exact k _ _ (S.push2 (φ := isRI 0 n) _ rfl rfl)
theorem src_range {target : Expr} {it : Addr} {n : Int} (hh : A.handled = none) (h0 : 0 ≤ n) (ht : ∀ r v, letOwnedTupleGo target (.ref r) v = pure () := by intro _ _; rfl) :
    Src prog w A target h₀ W it (fun i => [(it, isRI i (n - i))]) n.toNat (fun i x V' V'' => (∃ u, x = .int i u) ∧ V'' = V') V where
  next := fun i L V' m own h g d t os Q hi hv S k => by
    obtain ⟨o, e, rfl⟩ := S.get (a := it) (.tail _ (.head _))
    refine wpAny_pyNext_range_item (s := ⟨h, g, d, t, os⟩) e (by omega) fun h' q s => ?_
    refine wpAny_of_eq (ht _ _) (k _ V' h' _ (S.upd (ψ := isRI ((i + 1 : Nat) : Int) (n - ((i + 1 : Nat) : Int))) (.tail .head) s ⟨_, q, ?_⟩) (stays_refl _) ⟨⟨_, rfl⟩, rfl⟩)
    unfold isRI
    rw [show (i : Int) + 1 = ((i + 1 : Nat) : Int) by omega, show n - (i : Int) - 1 = n - ((i + 1 : Nat) : Int) by omega]
  done := fun L V' m own h g d t os Q hv S k => by
    obtain ⟨o, e, rfl⟩ := S.get (a := it) (.tail _ (.head _))
    refine wpAny_pyNext_range_end (s := ⟨h, g, d, t, os⟩) hh e (by omega) fun h' q => ?_
    exact k h' _ (S.forget q)
  self := fun L V' m own h g d t os Q E hv S k => by
    obtain ⟨o, e, rfl⟩ := S.get (a := it) (.tail _ (.head _))
    exact wpAny_pyIter_rangeiter (s := ⟨h, g, d, t, os⟩) e k
theorem St.soft (S : St h₀ W V own h) (k : Softer own own') : St h₀ W V own' h := by
  have keys : own'.map (·.1) = own.map (·.1) := by
    have nd := S.nd
    clear S nd
    induction k with
    | nil => rfl
    | cons _ _ ih => simp [ih]
  refine ⟨S.ext, S.sub, S.old, S.le, fun p hp => ?_, by rw [keys]; exact S.nd⟩
  have : ∃ q ∈ own, q.1 = p.1 ∧ ∀ o, q.2 o → p.2 o := by
    have z := S.nd
    clear S keys z
    induction k with
    | nil => cases hp
    | @cons a φ ψ as bs hab _ ih =>
      rcases List.mem_cons.mp hp with rfl | hp
      · exact ⟨(a, φ), .head _, rfl, hab⟩
      · obtain ⟨q, hq, r⟩ := ih hp
        exact ⟨q, .tail _ hq, r⟩
  obtain ⟨q, hq, e, f⟩ := this
  have z := S.has q hq
  rw [e] at z
  obtain ⟨o, eo, qo⟩ := z.1
  exact ⟨⟨o, eo, f o qo⟩, z.2⟩
theorem c_tellG2 {f : Addr} {args : List Value} {kw : List (Str × Value)} {fr : Addr × OP} {P : Value → List (Addr × OP) → Heap → Prop} {Q : Value → Shared → Prop} (S : St h₀ W V (fr :: own) h) (T : TellG prog w A f args kw V h P)
    (k : ∀ v V' h' t' own₂, (∀ news : List (Addr × OP), (∀ p ∈ news, p ∈ own₂) → (news.map (·.1)).Nodup → St h₀ W V' (fr :: (news ++ own)) h') → (own₂.map (·.1)).Nodup → V.StaysIn V' → P v own₂ V' → Q v ⟨h', g, d, t', os⟩) : wpAny (model prog w) A (call (.ref f) args kw) Q E ⟨h, g, d, t, os⟩ :=
  wpAny_call (T g d t os (fun r s' => match r with | .ok (.ret v) => Q v s' | .ok _ => False | .error e => E e s') fun v V' h' t' own₂ R p => k v V' h' t' own₂ (fun news hm nd => S.gain R hm nd) R.nd R.sub p)
theorem is_tv {kd : Addr} {v : Value} {tr : T} {Q : Value → Shared → Prop} {s : Shared} (x : Tree w prog V kd v tr) (k : Q (.bool (decide (tr = .nil))) s) : wpAny (model prog w) A (compareOp .Is v .none) Q E s := by
  cases x with
  | nil => exact is_nn (by rw [decide_eq_true rfl] at k; exact k)
  | node _ _ _ => exact is_rn (by rw [decide_eq_false (by simp)] at k; exact k)
theorem isn_tv {kd : Addr} {v : Value} {tr : T} {Q : Value → Shared → Prop} {s : Shared} (x : Tree w prog V kd v tr) (k : Q (.bool (!decide (tr = .nil))) s) : wpAny (model prog w) A (compareOp .IsNot v .none) Q E s := by
  cases x with
  | nil => exact isn_nn (by rw [decide_eq_true rfl] at k; exact k)
  | node _ _ _ => exact isn_rn (by rw [decide_eq_false (by simp)] at k; exact k)
theorem is_pv {v : Value} {tr : T} {Q : Value → Shared → Prop} {s : Shared} (x : Plain V v tr) (k : Q (.bool (decide (tr = .nil))) s) : wpAny (model prog w) A (compareOp .Is v .none) Q E s := by
  cases x with
  | nil => exact is_nn (by rw [decide_eq_true rfl] at k; exact k)
  | node _ _ _ => exact is_rn (by rw [decide_eq_false (by simp)] at k; exact k)
theorem way_mid {body orelse : List Stmt} {Q Q' : Flow → Shared → Prop} {b : Bool} {s : Shared} (x : Way prog w A body orelse env Q' E b s) (k : ∀ f s', Q' f s' → Q f s') : Way prog w A body orelse env Q E b s := by
  cases b
  · exact wpAny_mono x (fun f s' q => k f s' q) fun _ _ z => z
  · exact wpAny_mono x (fun f s' q => k f s' q) fun _ _ z => z
theorem if_ff_mid {T : Sem Bool} {body orelse : List Stmt} {Q : Flow → Shared → Prop} {Mid : Shared → Prop} {s : Shared} (x : wpAny (model prog w) A T (fun b s' => b = false ∧ Mid s') (fun _ _ => False) s) (k : ∀ s', Mid s' → wpAny (model prog w) A (execs orelse env) Q E s') : wpAny (model prog w) A T (Way prog w A body orelse env Q E) E s :=
  wpAny_mono x (fun b s' q => by obtain ⟨rfl, q⟩ := q; exact Way.ff (k s' q)) fun _ _ z => z.elim
theorem opts_range (l : List Int) : (List.range (l.length + 1)).map (fun j => l[j]?) = l.map some ++ [none] := by
  apply List.ext_getElem?
  intro i
  rw [List.getElem?_map]
  by_cases h : i < l.length
  · rw [List.getElem?_range (by omega), List.getElem?_append_left (by simpa using h), List.getElem?_map, List.getElem?_eq_getElem h]
    show some (l[i]?) = some (some l[i])
    rw [List.getElem?_eq_getElem h]
  · by_cases h2 : i = l.length
    · subst h2
      rw [List.getElem?_range (by omega), List.getElem?_append_right (by simp)]
      simp
    · rw [List.getElem?_eq_none (by simp; omega), List.getElem?_eq_none (by simp; omega)]
      rfl
theorem c_eql0 {a b : Addr} {Q : Value → Shared → Prop} (x : At h a (isLw [])) (y : At h b (isLw [])) (hu : A.units < cLine) (k : Q (.bool true) ⟨h, g, d, t, os⟩) : wpAny (model prog w) A (compareOp .Eq (.ref a) (.ref b)) Q E ⟨h, g, d, t, os⟩ :=
  PySem.SeqAt.eq_listAt (e := fun _ => true) (list_at.mpr x) (list_at.mpr y) rfl hu (fun j h1 => by simp at h1) k
end
theorem law_start {H h₁ : Heap} {L : Addr} {m : Str → Option Value} {wo : Obj} {v : Option Value} (F : Fr H L h₁ m) (N : News H L h₁ [(L + 1, wo), (447, tabObj #[]), (245, tabObj #[])]) (hc : wo.data = .cell v) (hl : 447 < L ∧ 245 < L) : St H H H [(L, isNs m), (245, isTb #[]), (L + 1, isC v), (447, isTb #[])] h₁ := by
  have n1 := N _ (.head _)
  have n2 := N _ (.tail _ (.head _))
  have n3 := N _ (.tail _ (.tail _ (.head _)))
  have nL : H.get? L = none := Heap.get?_none_of_le F.above
  refine ⟨fun b o e => F.keep b o e, stays_refl _, fun _ _ e => .inl e, fun b o e => F.keep b o e, fun p hp => ?_, ?_⟩
  · simp only [List.mem_cons, List.not_mem_nil, or_false] at hp
    rcases hp with rfl | rfl | rfl | rfl
    · exact ⟨ns_at.mp F.ns, nL, nL⟩
    · exact ⟨⟨_, n3.1, rfl⟩, n3.2.2, n3.2.2⟩
    · exact ⟨⟨_, n1.1, hc⟩, n1.2.2, n1.2.2⟩
    · exact ⟨⟨_, n2.1, rfl⟩, n2.2.2, n2.2.2⟩
  · simp only [List.map_cons, List.map_nil, List.nodup_cons, List.mem_cons, List.not_mem_nil, or_false, not_or, not_false_eq_true, List.nodup_nil, and_true]
    exact ⟨⟨Nat.ne_of_gt hl.2, Nat.ne_of_lt (Nat.lt_succ_self L), Nat.ne_of_gt hl.1⟩, ⟨Nat.ne_of_lt (Nat.lt_succ_of_lt hl.2), by decide⟩, Nat.ne_of_gt (Nat.lt_succ_of_lt hl.1)⟩
inductive Elder (w : World) (prog : Program) (V : Heap) (kd : Addr) : List Value → List T → Prop
  | nil : Elder w prog V kd [] []
  | cons {tp : Addr} {v p : Value} {tr : T} {es : List Value} {ts : List T} : At V tp (isT [v, p]) → Tree w prog V kd v tr → Plain V p tr → tr.size ≤ 10 → Elder w prog V kd es ts → Elder w prog V kd (.ref tp :: es) (tr :: ts)
theorem Elder.via {w : World} {prog : Program} {V V' : Heap} {kd : Addr} {es : List Value} {ts : List T} (s : V.StaysIn V') (x : Elder w prog V kd es ts) : Elder w prog V' kd es ts := by
  induction x with
  | nil => exact .nil
  | cons a b c d _ ih => exact .cons (a.keeps s) (b.via s) (c.via s) d ih
theorem Elder.snoc {w : World} {prog : Program} {V : Heap} {kd tp : Addr} {v p : Value} {tr : T} {es : List Value} {ts : List T} (x : Elder w prog V kd es ts) (a : At V tp (isT [v, p])) (b : Tree w prog V kd v tr) (c : Plain V p tr) (d : tr.size ≤ 10) : Elder w prog V kd (es ++ [.ref tp]) (ts ++ [tr]) := by
  induction x with
  | nil => exact .cons a b c d .nil
  | cons a' b' c' d' _ ih => exact .cons a' b' c' d' ih
theorem Elder.get {w : World} {prog : Program} {V : Heap} {kd : Addr} {es : List Value} {ts : List T} (x : Elder w prog V kd es ts) : ∀ {i : Nat} {y : Value}, es[i]? = some y → ∃ tp v p tr, y = .ref tp ∧ At V tp (isT [v, p]) ∧ Tree w prog V kd v tr ∧ Plain V p tr ∧ tr.size ≤ 10 := by
  induction x with
  | nil => intro i y h; simp at h
  | cons a b c d _ ih =>
    intro i y h
    cases i with
    | zero => simp only [List.getElem?_cons_zero, Option.some.injEq] at h; exact ⟨_, _, _, _, h.symm, a, b, c, d⟩
    | succ i => exact ih (by simpa using h)
theorem Elder.drop {w : World} {prog : Program} {V : Heap} {kd : Addr} {es : List Value} {ts : List T} (x : Elder w prog V kd es ts) : ∀ k : Nat, Elder w prog V kd (es.drop k) (ts.drop k) := by
  induction x with
  | nil => intro k; simpa using Elder.nil
  | cons a b c d r ih =>
    intro k
    cases k with
    | zero => exact .cons a b c d r
    | succ k => exact ih k
theorem Elder.refs {w : World} {prog : Program} {V : Heap} {kd : Addr} {es : List Value} {ts : List T} (x : Elder w prog V kd es ts) : ∀ y ∈ es, ∃ a, y = .ref a := by
  induction x with
  | nil => intro y h; cases h
  | cons _ _ _ _ _ ih => intro y h; rcases List.mem_cons.mp h with rfl | h; exact ⟨_, rfl⟩; exact ih y h
local macro_rules | `(tactic| wtm_at "v_up") => `(tactic| ((with_reducible show Elder _ _ _ _ _ _); exact Elder.via (by with_reducible assumption) (by wtm_at "v_up")))
local macro_rules | `(tactic| wtm_at "v_eval") => `(tactic| first
  | ((with_reducible show wpAny _ _ (eval (Expr.Dict (_ :: _ :: _ :: _ :: []) _ _) _) _ _ _); (with_reducible rename St _ _ _ _ _ => S'); with_reducible refine e_dict4 S' (by wtm_at "v_wf") ?_; clear S'; intro a h hs S')
  | ((with_reducible show wpAny _ _ (eval (Expr.Call (Expr.Name _ _) _ [] _) _) _ _ _); with_reducible refine e_call ?_ (he := by with_unfolding_all rfl))
  | ((with_reducible show wpAny _ _ (eval (Expr.Call _ _ (_ :: _) _) _) _ _ _); with_reducible refine e_callk ?_ (he := by with_unfolding_all rfl)))
local macro_rules | `(tactic| wtm_at "v_value") => `(tactic| first
  | ((with_reducible show wpAny _ _ (callWith _ (Value.ref _) _ (backTo _ (starEach (_ :: _) _)) []) _ _ _); (with_reducible rename St _ _ _ _ _ => S'); with_reducible refine w_def S' (by wtm_at "v_wf") (by wtm_at "v_ke") ?_ (he := by with_unfolding_all rfl) (hplain := by with_unfolding_all rfl))
  | ((with_reducible show wpAny _ _ (callWith _ (Value.ref _) _ (backTo _ (starEach [] _)) []) _ _ _); (with_reducible rename St _ _ _ _ _ => S'); with_reducible refine w_def0 S' (by wtm_at "v_wf") (by wtm_at "v_ke") ?_))
local macro_rules | `(tactic| wtm_at "v_value") => `(tactic| first
  | with_reducible refine ne_bool ?_
  | ((with_reducible show wpAny _ _ (call (Value.type "range") _ _) _ _ _); (with_reducible rename St _ _ _ _ _ => S'); refine c_range S' ?_; clear S'; intro a h t S'))
def LawEnd (H : Heap) (g : Array GenState) (d : Drawn) (os : OsState) (L : Addr) (f : Flow) (s : Shared) : Prop :=
  ∃ h' t' V' m' own', f = .ret (.bool true) ∧ s = ⟨h', g, d, t', os⟩ ∧ St H H V' ((L, isNs m') :: (447, isTb #[]) :: own') h' ∧ ∃ ps, h'.get? 245 = some (tabObj ps)
theorem law_goal {prog : Program} {w : World} {A : Around} {H h₁ : Heap} {g : Array GenState} {d : Drawn} {t : Nat} {os : OsState} {L : Addr} {m : Str → Option Value} {own : List (Addr × OP)} {st : Sem Flow} {Q : Flow → Shared → Prop} {E : Value → Shared → Prop} (_S : St H H H ((L, isNs m) :: own) h₁)
    (x : wpAny (model prog w) A st (LawEnd H g d os L) (fun _ _ => False) ⟨h₁, g, d, t, os⟩)
    (k : ∀ h' t' V' m' own' ps, St H H V' ((L, isNs m') :: (447, isTb #[]) :: own') h' → h'.get? 245 = some (tabObj ps) → Q (.ret (.bool true)) ⟨h', g, d, t', os⟩) : wpAny (model prog w) A st Q E ⟨h₁, g, d, t, os⟩ := by
  refine wpAny_mono x (fun f s' q => ?_) fun _ _ z => z.elim
  obtain ⟨h', t', V', m', own', rfl, rfl, S', ps, hps⟩ := q
  exact k _ _ _ _ _ _ S' hps
def LawSt (w : World) (prog : Program) (H V0 : Heap) (kd L D l : Addr) (n : Nat) (news : List (Addr × OP)) (V : Heap) (m : Str → Option Value) (tv pv : Value) (tr : T) (el : Addr) (es : List Value) (h : Heap) : Prop :=
  St H H V ((L, isNs m) :: (news ++ (el, isL es) :: (D, isDr l) :: (l, isCells) :: [(L + 1, isC (some tv)), (447, isTb #[])])) h ∧ V0.StaysIn V ∧ Tree w prog V kd tv tr ∧ Plain V pv tr ∧ tr.ok ∧ tr.size ≤ n ∧ m "draw" = some (.ref D) ∧ m "node" = some (.ref kd) ∧ m "plain" = some pv ∧ m "elder" = some (.ref el)
def LawMid (w : World) (prog : Program) (g : Array GenState) (d : Drawn) (os : OsState) (H V0 : Heap) (kd L D l : Addr) (n : Nat) (news : List (Addr × OP)) (el : Addr) (es : List Value) (f : Flow) (s : Shared) : Prop :=
  ∃ V m tv pv tr h t, f = .next ∧ s = ⟨h, g, d, t, os⟩ ∧ LawSt w prog H V0 kd L D l n news V m tv pv tr el es h
theorem lawful : PySem.Challenge.rw_vc0017_01.Holds :=
  Mine.hd (by
    k_go0
    rename Frag.In _ _ => XK
    rename Top topProg _ _ _ _ _ => TT
    rename Fr (ghostOf _ _) _ _ _ => FF
    rename News _ _ _ _ => NN
    rename IntsAre _ _ => hI
    rename_i hl0
    rename (_ : Obj).data = Data.cell _ => hcell
    have S := law_start (v := none) FF NN (hcell.trans (congrArg Data.cell (by kernel_rfl))) hl0
    rename Heap.IsList (ghostOf _ _) _ _ => lifted
    rename CodeHd (ghostOf _ _) (249, 245).1 _ => cHd
    rename ¬ (_ < _) => hlt
    have X : WF _ _ _ _ := ⟨XK, TT.g, TT.b, TT.nolimit, TT.builtins⟩
    have NXX : NX _ _ := ⟨cHd, TT.bmain⟩
    have hls := list_at.mp lifted
    have hlen := hI.length
    have hz63 : List.length _ ≤ 63 := (by rw [hlen]; omega : List.length _ ≤ 63)
    rename Shared.gens _ = #[] => hgs
    refine law_goal S ?_ (fun h' t' V' m' own' ps S' hps => ?_)
    · clear TT FF NN hcell XK lifted cHd
      rename_i w7 sh0 sh1 mg mb zG zY fa zo zpm cd zdoc zho zhcd zX zV zT zB zTE zTW ns zhs zhlay zhL1 zhr1 zhl2 zw5 zw4 sl vs zw1 zhL zra zww zr0 zhr zhc zhD h1 tk1 zw zX0 zK
      clear zK zX0 zhD zhc zhr zr0 zww zra zhL zhl2 zhr1 zhL1 zhlay zhs zTW zTE zB zT zV zX zhcd zho zY zG hT8 hT9 codeHd hgs hl0 zw1 zw4 zw5 zw
      generalize ghostOf sh1.heap [(451, 447), (249, 245)] = H at *
      generalize sh1.heap.objs.size = L at *
      generalize sh1.gens = g at *
      generalize sh1.drawn = d at *
      generalize sh1.os = os at *
      generalize (PySem.Challenge.rw_vc0017_01).row.prog = prog at *
      dsimp only
      have R0 : Room callerA 590 := ⟨by decide, by decide, rfl⟩
      have hdh : callerA.handled = none := rfl
      generalize callerA = A0 at *
      wtm_at "v_all"
      rename St _ _ _ _ _ => S
      refine c_tellG2 S (draw_spec X S.le (by wtm_at "v_rm") hls hI hz63) ?_
      rintro v V1 h1 t1 own₂ back nd2 hv1 ⟨D, l, seed, us, xs, Ld, md, D0, ys, rfl, rfl, hxs, hxl, s0, s1⟩
      simp only [List.map_cons, List.map_nil, List.nodup_cons, List.mem_cons, List.not_mem_nil, or_false, not_or] at nd2
      have hDl : D ≠ l := nd2.2.1.1
      have S := back [(D, isL [.ref l, .int seed us]), (l, isL xs)] (by simp) (by simp [hDl])
      change St _ _ _ ((L, isNs _) :: (D, isL [.ref l, .int seed us]) :: (l, isL xs) :: [(245, isTb #[]), (L+1, isC none), (447, isTb #[])]) h1 at S
      have S := S.soft (own' := (L, isNs _) :: (D, isDr l) :: (l, isCells) :: [(245, isTb #[]), (L+1, isC none), (447, isTb #[])]) (.cons (fun _ h => h) (.cons (fun o h => ⟨seed, us, by obtain ⟨n, rfl⟩ := h; exact ⟨rfl, n, rfl⟩, s0, s1⟩) (.cons (fun o h => ⟨xs, h, hxs, hxl⟩) (Softer.refl _))))
      clear back nd2
      wtm_at "v_all"
      rename St _ _ _ _ _ => S
      rename_i cdc hq1 hcs tq1
      change St _ _ _ ((L, isNs _) :: ([(cdc, isK w7 prog []), (D, isDr l), (l, isCells)] ++ (245, isTb #[]) :: [(L+1, isC none), (447, isTb #[])])) hq1 at S
      refine c_tellF S.toSecond (attrib_first (.inl ⟨rfl, rfl, rfl⟩) (by wtm_at "v_wf") S.le (by wtm_at "v_rm") (NXX.keeps (by wtm_at "v_st"))) ?_
      clear S
      rintro v V2 h2 t2 S hv2 ⟨hTV, c0, rfl, hc0⟩
      change St _ _ _ ((L, isNs _) :: (cdc, isK w7 prog []) :: (D, isDr l) :: (l, isCells) :: [(L+1, isC none), (447, isTb #[])]) h2 at S
      wtm_at "v_all"
      rename St _ _ _ _ _ => S
      refine c_tell S (attrib_spec (dfl := .none) (ini := true) (.inr (.inl ⟨rfl, rfl, rfl⟩)) (by wtm_at "v_wf") S.le (by wtm_at "v_rm") (NXX.keeps (by wtm_at "v_st")) (hTV.keeps (by wtm_at "v_st"))) ?_
      clear S
      rintro v V3 h3 t3 S hv3 ⟨c1, rfl, hc1⟩
      wtm_at "v_all"
      rename St _ _ _ _ _ => S
      refine c_tell S (attrib_spec (dfl := .none) (ini := true) (.inr (.inl ⟨rfl, rfl, rfl⟩)) (by wtm_at "v_wf") S.le (by wtm_at "v_rm") (NXX.keeps (by wtm_at "v_st")) (hTV.keeps (by wtm_at "v_st"))) ?_
      clear S
      rintro v V4 h4 t4 S hv4 ⟨c2, rfl, hc2⟩
      wtm_at "v_all"
      rename St _ _ _ _ _ => S
      refine c_make S (by wtm_at "v_wf") (by k_is) (by k_is) (by k_is) (fun x dx own V' => ∃ L m, own = [(L, isNs m), (dx, isD [("factory", .ref 517), ("takes_self", .bool true)])] ∧ True) (fun x dx V' h' hv hx S' => ?_) ?_
      · intro g d t os R' k'
        refine factory_init ((WF.via (by wtm_at "v_st") X).keeps hv) S'.le ?_ hx (S'.get (.tail _ (.head _))) (S'.has _ (.tail _ (.head _))).2.1 g d t os R' fun V'' h'' t'' own₂ S'' hP => k' V'' h'' t'' own₂ S'' ?_
        · exact Room.make (n := 5) (by wtm_at "v_rm")
        · obtain ⟨L, m, e, _⟩ := hP
          exact ⟨L, m, e, trivial⟩
      clear S
      rintro fa' fd V5 V6 h6 t6 own₂ hv5 hfa hv6 ⟨L', m', rfl, _⟩ back nd'
      have S := back [(fd, isD [("factory", .ref 517), ("takes_self", .bool true)])] (by simp) (by simp)
      clear back
      change St _ _ _ ((L, isNs _) :: (fd, isD [("factory", .ref 517), ("takes_self", .bool true)]) :: (cdc, isK w7 prog []) :: (D, isDr l) :: (l, isCells) :: [(L+1, isC none), (447, isTb #[])]) h6 at S
      obtain ⟨V7, S, hv7, hfd⟩ := S.seal2
      wtm_at "v_all"
      rename St _ _ _ _ _ => S
      refine c_tell S (attrib_spec (dfl := .ref fa') (ini := false) (.inr (.inr ⟨fa', rfl, rfl, rfl⟩)) (by wtm_at "v_wf") S.le (by wtm_at "v_rm") (NXX.keeps (by wtm_at "v_st")) (hTV.keeps (by wtm_at "v_st"))) ?_
      clear S
      rintro v V8 h8 t8 S hv8 ⟨c3, rfl, hc3⟩
      wtm_at "v_all"
      rename St _ _ _ _ _ => S
      obtain ⟨V9, S, hv9, hcd9⟩ := S.seal2
      have cd9 : At V9 cdc (isK w7 prog [("key", .ref c0), ("left", .ref c1), ("right", .ref c2), ("size", .ref c3)]) := hcd9
      have w8 : V2.StaysIn V9 := by wtm_at "v_st"
      refine c_tell S (make_spec (by wtm_at "v_wf") S.le (by wtm_at "v_rm") (NXX.keeps (by wtm_at "v_st")) (hTV.keeps w8) cd9 hcs (hc0.keeps w8) (hc1.keeps (by wtm_at "v_st")) (hc2.keeps (by wtm_at "v_st")) (hc3.keeps (by wtm_at "v_st")) (hfa.keeps (by wtm_at "v_st")) (hfd.keeps (by wtm_at "v_st"))) ?_
      clear S
      rintro v V10 h10 t10 S hv10 ⟨kd, rfl, K⟩
      wtm_at "v_all"
      rename St _ _ _ _ _ => S
      rename_i el _ _ _ _ _ _ _ _ _ _ _ _
      refine x_for ?_
      wtm_at "v_all"
      rename St _ _ _ _ _ => S
      have RD : ∀ env, Room (A0.deeper env) 580 := fun env => Room.deeper (R0.mono (by decide))
      refine c_take S (by wtm_at "v_wf") (by wtm_at "v_mem") (by wtm_at "v_mem") hDl (by decide) (RD _).depth (RD _).units200 ?_
      clear S
      intro r0 h12 t12 u12 S hr0 hr1
      wtm_at "v_all"
      rename St _ _ _ _ _ => S
      refine it_range S (S.get (by wtm_at "v_mem")) (by omega) (by omega) ?_
      clear S
      intro it h13 S
      change St _ _ _ ((L, isNs _) :: ([(it, isRI 0 (1 + r0))] ++ (_, isRg (1 + r0)) :: (el, isL []) :: (D, isDr l) :: (l, isCells) :: [(L + 1, isC (some .none)), (447, isTb #[])])) h13 at S
      have S := S.toSecond.drop2
      change St _ _ _ ((L, isNs _) :: (it, isRI 0 (1 + r0)) :: (el, isL []) :: (D, isDr l) :: (l, isCells) :: [(L + 1, isC (some .none)), (447, isTb #[])]) h13 at S
      refine f_src (its := fun i => [(it, isRI i (1 + r0 - i))]) (by rw [show (1 + r0 - ((0 : Nat) : Int)) = 1 + r0 by simp]; exact S) (src_range hdh (by omega)) (fun i V' m own => ∃ tv pv tr es ts, own = (el, isL es) :: (D, isDr l) :: (l, isCells) :: [(L + 1, isC (some tv)), (447, isTb #[])] ∧ es.length = i ∧ Elder w7 prog V' kd es ts ∧ Tree w7 prog V' kd tv tr ∧ Plain V' pv tr ∧ tr.ok ∧ tr.size ≤ i ∧ m "draw" = some (.ref D) ∧ m "node" = some (.ref kd) ∧ m "plain" = some pv ∧ m "elder" = some (.ref el)) ⟨.none, .none, .nil, [], [], rfl, rfl, .nil, .nil, .nil, trivial, Nat.le_refl _, rfl, rfl, rfl, rfl⟩ ?_ ?_
      · clear S
        rintro i x V' V'' m own h t hi hv ⟨tv, pv, tr, es, ts, rfl, hel, hes, htv, hpv, hok, hsz, m1, m2, m3, m4⟩ hv' ⟨⟨u, rfl⟩, rfl⟩ S
        clear hv'
        have hi10 : i < 10 := by omega
        wtm_at "v_all"
        rename St _ _ _ _ _ => S
        refine c_take S (by wtm_at "v_wf") (by wtm_at "v_mem") (by wtm_at "v_mem") hDl (by decide) (RD _).depth (RD _).units200 ?_
        clear S
        intro key h14 t14 u14 S hk0 hk1
        wtm_at "v_all"
        rename St _ _ _ _ _ => S
        refine c_take S (by wtm_at "v_wf") (by wtm_at "v_mem") (by wtm_at "v_mem") hDl (by decide) (RD _).depth (RD _).units200 ?_
        clear S
        intro r2 h15 t15 u15 S _ _
        wtm_at "v_all"
        refine way_mid (Q' := LawMid w7 prog g d os H V'' kd L D l (i + 1) [(it, isRI ((i + 1 : Nat) : Int) (1 + r0 - ((i + 1 : Nat) : Int)))] el es) ?_ ?_
        · have K' : KD V'' kd := KD.via (by wtm_at "v_st") K
          have hh0 : tr.high ≤ 10 := by have := T.high_size tr; omega
          have hh1 : tr.high ≤ 1000 := by omega
          refine Way.dec (fun hz => ?_) fun hz => ?_
          · wtm_at "v_all"
            rename St _ _ _ _ _ => S
            refine c_tell S (out_spec tr (by wtm_at "v_wf") S.le (by wtm_at "v_rm") K' hh1 htv) ?_
            clear S
            rintro tv' V16 h16 t16 S hv16 htv'
            rw [T.out_del key tr hok] at htv'
            wtm_at "v_all"
            rename St _ _ _ _ _ => S
            refine c_tell S (plain_out_spec tr (by wtm_at "v_wf") S.le (by wtm_at "v_rm") (by omega) (hpv.via (by wtm_at "v_st"))) ?_
            clear S
            rintro pv' V17 h17 t17 S hv17 hpv'
            wtm_at "v_all"
            rename St _ _ _ _ _ => S
            exact ⟨_, _, tv', pv', tr.del key, _, _, rfl, rfl, S, by wtm_at "v_st", htv'.via (by wtm_at "v_st"), hpv'.via (by wtm_at "v_st"), T.del_ok tr hok, by have := T.del_size tr (key := key); omega, m1, m2, rfl, m4⟩
          · wtm_at "v_all"
            rename St _ _ _ _ _ => S
            refine c_tell S (put_spec tr (by wtm_at "v_wf") S.le (by wtm_at "v_rm") K' hh1 htv) ?_
            clear S
            rintro tv' V16 h16 t16 S hv16 htv'
            rw [T.put_ins key tr] at htv'
            wtm_at "v_all"
            rename St _ _ _ _ _ => S
            refine c_tell S (plain_put_spec tr (by wtm_at "v_wf") S.le (by wtm_at "v_rm") (hpv.via (by wtm_at "v_st"))) ?_
            clear S
            rintro pv' V17 h17 t17 S hv17 hpv'
            wtm_at "v_all"
            rename St _ _ _ _ _ => S
            exact ⟨_, _, tv', pv', tr.ins key, _, _, rfl, rfl, S, by wtm_at "v_st", htv'.via (by wtm_at "v_st"), hpv'.via (by wtm_at "v_st"), T.ins_ok tr hok, by have := T.ins_size tr (k := key); omega, m1, m2, rfl, m4⟩
        · clear S
          rintro f s ⟨V18, m', tv', pv', tr', h18, t18, rfl, rfl, S, hv18, htv', hpv', hok', hsz', n1, n2, n3, n4⟩
          have hh2 : tr'.size ≤ 10 := by omega
          have hh0 : tr'.high ≤ 10 := by have := T.high_size tr'; omega
          have hkl := T.keys_len tr'
          change St _ _ _ ((L, isNs m') :: (it, isRI ((i + 1 : Nat) : Int) (1 + r0 - ((i + 1 : Nat) : Int))) :: (el, isL es) :: (D, isDr l) :: (l, isCells) :: [(L + 1, isC (some tv')), (447, isTb #[])]) h18 at S
          wtm_at "v_all"
          rename St _ _ _ _ _ => S
          refine c_tell S (keys_spec tr' (by wtm_at "v_wf") S.le (by wtm_at "v_rm") (by omega) hpv') ?_
          clear S
          rintro v V19 h19 t19 S hv19 ⟨ka, ys', rfl, hka, hys⟩
          have hyl := hys.length
          wtm_at "v_all"
          refine is_tv (htv'.via hv19) ?_
          wtm_at "v_all"
          refine is_pv (hpv'.via hv19) ?_
          wtm_at "v_all"
          rw [bne_self_eq_false]
          iterate 5 wtm_at "v_one"
          rename St _ _ _ _ _ => S
          have ht19 := htv'.via hv19
          have hp19 := hpv'.via hv19
          have K19 : KD V19 kd := KD.via (by wtm_at "v_st") K
          refine if_ff_mid (Mid := fun s => ∃ V m h t, s = ⟨h, g, d, t, os⟩ ∧ LawSt w7 prog H V19 kd L D l (i + 1) [(it, isRI ((i + 1 : Nat) : Int) (1 + r0 - ((i + 1 : Nat) : Int)))] V m tv' pv' tr' el es h) ?_ ?_
          · wtm_at "v_all"
            refine isn_tv ht19 ?_
            by_cases hn : tr' = .nil
            · rw [decide_eq_true hn]
              wtm_at "v_all"
              rename St _ _ _ _ _ => S
              exact ⟨rfl, _, _, _, _, rfl, S, stays_refl _, ht19, hp19, hok', hsz', n1, n2, n3, n4⟩
            · obtain ⟨ta, rfl⟩ : ∃ a, tv' = .ref a := by
                cases htv' with
                | nil => exact absurd rfl hn
                | node _ _ _ => exact ⟨_, rfl⟩
              obtain ⟨pa, rfl⟩ : ∃ a, pv' = .ref a := by
                cases hpv' with
                | nil => exact absurd rfl hn
                | node _ _ _ => exact ⟨_, rfl⟩
              rw [decide_eq_false hn]
              wtm_at "v_all"
              rename St _ _ _ _ _ => S
              refine c_tell S (asdict_spec tr' (by wtm_at "v_wf") S.le (by wtm_at "v_rm") K19 (.inl rfl) ht19) ?_
              clear S
              rintro v V20 h20 t20 S hv20 hta
              wtm_at "v_all"
              rename St _ _ _ _ _ => S
              refine c_tell S (table_spec tr' (by wtm_at "v_wf") S.le (by wtm_at "v_rm") (by omega) (hp19.via hv20)) ?_
              clear S
              rintro v' V21 h21 t21 S hv21 htb
              obtain ⟨x1, rfl⟩ : ∃ a, v = .ref a := by
                cases hta with
                | nil => exact absurd rfl hn
                | node _ _ _ _ _ => exact ⟨_, rfl⟩
              obtain ⟨x2, rfl⟩ : ∃ a, v' = .ref a := by
                cases htb with
                | nil => exact absurd rfl hn
                | node _ _ _ _ _ => exact ⟨_, rfl⟩
              refine c_net (stays_trans hv21 S.le) S.le hta htb ((RD _).uplus (by omega)) ?_
              wtm_at "v_all"
              refine e_lc (by rfl) ?_
              wtm_at "v_all"
              rename St _ _ _ _ _ => S
              rename_i rg _ _
              refine it_range S (S.get (by wtm_at "v_mem")) (by omega) (by omega) ?_
              clear S
              intro it2 h22 S
              refine go_list (its := fun j => [(it2, isRI j (((ys'.length : Nat) : Int) + 1 - j))]) (by rw [show (((ys'.length : Nat) : Int) + 1 - ((0 : Nat) : Int)) = ((ys'.length : Nat) : Int) + 1 by simp]; exact S) (src_range hdh (by omega)) ?_
              clear S
              intro C2 D2 h23 S
              refine ⟨fun j V' own => ∃ mm us, own = (D2, isL us) :: (L, isNs mm) :: (rg, isRg (((ys'.length : Nat) : Int) + 1)) :: (it, isRI ((i + 1 : Nat) : Int) (1 + r0 - ((i + 1 : Nat) : Int))) :: (el, isL es) :: (D, isDr l) :: (l, isCells) :: [(L + 1, isC (some (.ref ta))), (447, isTb #[])] ∧ OptsAre us ((List.range j).map fun q => tr'.keys[q]?) ∧ us.length = j ∧ mm "draw" = some (.ref D) ∧ mm "node" = some (.ref kd) ∧ mm "plain" = some (.ref pa) ∧ mm "elder" = some (.ref el) ∧ mm "keys" = some (.ref ka), ⟨_, [], rfl, trivial, rfl, n1, n2, n3, n4, rfl⟩, ?_, ?_⟩
              · clear S
                rintro j x V22 V23 mc own h t hj hv22 ⟨mm, us, rfl, hus, hul, q1, q2, q3, q4, q5⟩ hv23 ⟨⟨uj, rfl⟩, rfl⟩ S
                clear hv23
                have hj11 : j ≤ 11 := by omega
                wtm_at "v_all"
                rename St _ _ _ _ _ => S
                refine c_tell S (nth_spec tr' (by wtm_at "v_wf") S.le (by wtm_at "v_rm") (ht19.via (by wtm_at "v_st"))) ?_
                clear S
                rintro vn V24 h24 t24 S hv24 hnv
                rw [T.nth_keys] at hnv
                wtm_at "v_all"
                rename St _ _ _ _ _ => S
                refine Step.mk (its := fun j => [(it2, isRI j (((ys'.length : Nat) : Int) + 1 - j))]) S (by wtm_at "v_st") ⟨mm, _, rfl, ?_, by simp [hul], q1, q2, q3, q4, q5⟩
                rw [List.range_succ, List.map_append]
                exact hus.snoc hnv
              · clear S
                rintro V25 mc2 own h t hv25 ⟨mm, us, rfl, hus, hul, q1, q2, q3, q4, q5⟩ S
                refine post0 S ⟨_, _, _, rfl, ?_⟩
                clear S
                intro h t S
                have hlu : us.length ≤ 12 := by omega
                wtm_at "v_all"
                rename St _ _ _ _ _ => S
                refine c_ne_opts (At.weak (S.get (by wtm_at "v_mem"))) (At.weak (S.get (by wtm_at "v_mem"))) (xs := tr'.keys.map some ++ [none]) (by
                  rw [← opts_range]
                  have e : (((ys'.length : Nat) : Int) + 1).toNat = tr'.keys.length + 1 := by omega
                  rw [e] at hus
                  exact hus) ((OptsAre.ints hys).snoc (v := .none) (o := none) rfl) (RD _).units ?_
                wtm_at "v_all"
                refine ⟨rfl, _, _, _, _, rfl, S.drop2.drop2.drop2.drop2, by wtm_at "v_st", ht19.via (by wtm_at "v_st"), hp19.via (by wtm_at "v_st"), hok', hsz', q1, q2, q3, q4⟩
          · rintro s ⟨V20, m20, h20, t20, rfl, S, hv20, ht20, hp20, _, _, k1, k2, k3, k4⟩
            clear ht19 hp19
            change St _ _ _ ((L, isNs m20) :: (it, isRI ((i + 1 : Nat) : Int) (1 + r0 - ((i + 1 : Nat) : Int))) :: (el, isL es) :: (D, isDr l) :: (l, isCells) :: [(L + 1, isC (some tv')), (447, isTb #[])]) h20 at S
            have w20 : V''.StaysIn V20 := by wtm_at "v_st"
            have hes20 := hes.via w20
            have K20 : KD V20 kd := KD.via (by wtm_at "v_st") K
            wtm_at "v_all"
            refine x_for ?_
            wtm_at "v_all"
            rename St _ _ _ _ _ => S
            rename_i sli _
            have e3 : (slicePick es.toArray (some (-3)) none none).toList = es.drop (es.length - 3) := by
              have z := slicePick_last es.toArray 3 (by decide)
              rw [show (-(((3 : Nat) : Int))) = -3 from rfl] at z
              rw [z]
              simp
            change St _ _ _ ((L, isNs m20) :: (sli, isL (slicePick es.toArray (some (-3)) none none).toList) :: (it, isRI ((i + 1 : Nat) : Int) (1 + r0 - ((i + 1 : Nat) : Int))) :: (el, isL es) :: (D, isDr l) :: (l, isCells) :: [(L + 1, isC (some tv')), (447, isTb #[])]) _ at S
            rw [e3] at S
            obtain ⟨V21, S, hv21, hsli⟩ := S.seal2
            have hes3 : Elder w7 prog V21 kd (es.drop (es.length - 3)) (ts.drop (es.length - 3)) := (hes20.via hv21).drop _
            refine it_list S (S.view hsli).weak ?_
            clear S
            intro it3 h25 S
            refine f_src (its := fun j => [(it3, isLI sli j)]) S (src_listT hsli.weak hdh hes3.refs) (fun j V' m own => own = (it, isRI ((i + 1 : Nat) : Int) (1 + r0 - ((i + 1 : Nat) : Int))) :: (el, isL es) :: (D, isDr l) :: (l, isCells) :: [(L + 1, isC (some tv')), (447, isTb #[])] ∧ m "draw" = some (.ref D) ∧ m "node" = some (.ref kd) ∧ m "plain" = some pv' ∧ m "elder" = some (.ref el)) ⟨rfl, k1, k2, k3, k4⟩ ?_ ?_
            · clear S
              rintro j x V22 V23 m own h t hj hv22 ⟨rfl, q1, q2, q3, q4⟩ hv23 ⟨hx, rfl⟩ S
              clear hv23
              obtain ⟨tp, v2, p2, tr2, rfl, htp, ht2, hp2, hs2⟩ := (hes3.via hv22).get hx
              have ht22 := ht20.via (stays_trans hv21 hv22)
              have hp22 := hp20.via (stays_trans hv21 hv22)
              have K22 : KD _ kd := KD.via (stays_trans hv21 hv22) K20
              wtm_at "v_all"
              refine isn_tv ht22 ?_
              by_cases hn : tr' = .nil
              · rw [decide_eq_true hn]
                wtm_at "v_all"
                rename St _ _ _ _ _ => S
                exact TurnS.next (its := fun j => [(it3, isLI sli j)]) S (stays_refl _) ⟨rfl, q1, q2, q3, q4⟩
              · obtain ⟨ta, rfl⟩ : ∃ a, tv' = .ref a := by
                  cases htv' with
                  | nil => exact absurd rfl hn
                  | node _ _ _ => exact ⟨_, rfl⟩
                obtain ⟨pa, rfl⟩ : ∃ a, pv' = .ref a := by
                  cases hpv' with
                  | nil => exact absurd rfl hn
                  | node _ _ _ => exact ⟨_, rfl⟩
                rw [decide_eq_false hn]
                wtm_at "v_all"
                refine isn_tv ht2 ?_
                by_cases hn2 : tr2 = .nil
                · rw [decide_eq_true hn2]
                  wtm_at "v_all"
                  rename St _ _ _ _ _ => S
                  exact TurnS.next (its := fun j => [(it3, isLI sli j)]) S (stays_refl _) ⟨rfl, q1, q2, q3, q4⟩
                · obtain ⟨tb, rfl⟩ : ∃ a, v2 = .ref a := by
                    cases ht2 with
                    | nil => exact absurd rfl hn2
                    | node _ _ _ => exact ⟨_, rfl⟩
                  obtain ⟨pb, rfl⟩ : ∃ a, p2 = .ref a := by
                    cases hp2 with
                    | nil => exact absurd rfl hn2
                    | node _ _ _ => exact ⟨_, rfl⟩
                  rw [decide_eq_false hn2]
                  wtm_at "v_all"
                  rename St _ _ _ _ _ => S
                  refine c_tellc S (cmp_spec tr' (by wtm_at "v_wf") S.le (by wtm_at "v_rm") K22 ht22 ht2) ?_
                  clear S
                  rintro vq V24 h24 t24 S hv24 rfl
                  wtm_at "v_all"
                  rename St _ _ _ _ _ => S
                  refine c_eqp S.le (hp22.via hv24) (hp2.via hv24) ((RD _).uplus (by omega)) ?_
                  wtm_at "v_all"
                  rw [bne_self_eq_false]
                  wtm_at "v_all"
                  rename St _ _ _ _ _ => S
                  exact TurnS.next (its := fun j => [(it3, isLI sli j)]) S hv24 ⟨rfl, q1, q2, q3, q4⟩
            · clear S
              rintro V25 m own h t hv25 ⟨rfl, q1, q2, q3, q4⟩ S
              have hesl : es.length ≤ 10 := by omega
              wtm_at "v_all"
              rename St _ _ _ _ _ => S
              rename_i ntp V26 hh26 hv26 hnt hh27
              have w26 : V20.StaysIn V26 := stays_trans hv21 (stays_trans hv25 hv26)
              exact TurnS.next (its := fun i => [(it, isRI i (1 + r0 - i))]) S (stays_trans w20 w26) ⟨tv', pv', tr', es ++ [.ref ntp], ts ++ [tr'], rfl, by simp [hel], (hes20.via w26).snoc hnt (ht20.via w26) (hp20.via w26) hh2, ht20.via w26, hp20.via w26, hok', hsz', q1, q2, q3, q4⟩
      · clear S
        rintro V27 m own h t hv27 ⟨tv, pv, tr, es, ts, rfl, hel, hes, htv, hpv, hok, hsz, m1, m2, m3, m4⟩ S
        have hesl : es.length ≤ 10 := by omega
        obtain ⟨V28, S, hv28, hels⟩ := S.seal2
        have hes28 := hes.via hv28
        have K28 : KD V28 kd := KD.via (by wtm_at "v_st") K
        have w2 : V2.StaysIn V28 := by wtm_at "v_st"
        wtm_at "v_all"
        refine x_lc (by rfl) ?_
        wtm_at "v_all"
        rename St _ _ _ _ _ => S
        refine it_list S (S.view hels).weak ?_
        clear S
        intro it4 h29 S
        refine go_list (its := fun j => [(it4, isLI el j)]) S (src_listT hels.weak hdh hes28.refs) ?_
        clear S
        intro C4 D4 h30 S
        refine ⟨fun j V' own => ∃ mm, own = (D4, isL []) :: (L, isNs mm) :: (D, isDr l) :: (l, isCells) :: [(L + 1, isC (some tv)), (447, isTb #[])], ⟨_, rfl⟩, ?_, ?_⟩
        · clear S
          rintro j x V29 V30 mc own h t hj hv29 ⟨mm, rfl⟩ hv30 ⟨hx, rfl⟩ S
          clear hv30
          obtain ⟨tp, v2, p2, tr2, rfl, htp, ht2, hp2, hs2⟩ := (hes28.via hv29).get hx
          have hh2 : tr2.high ≤ 10 := by have := T.high_size tr2; omega
          have K29 : KD _ kd := KD.via hv29 K28
          wtm_at "v_all"
          refine isn_tv ht2 ?_
          by_cases hn2 : tr2 = .nil
          · rw [decide_eq_true hn2]
            wtm_at "v_all"
            rename St _ _ _ _ _ => S
            exact Step.mk (its := fun j => [(it4, isLI el j)]) S (stays_refl _) ⟨mm, rfl⟩
          · obtain ⟨tb, rfl⟩ : ∃ a, v2 = .ref a := by
              cases ht2 with
              | nil => exact absurd rfl hn2
              | node _ _ _ => exact ⟨_, rfl⟩
            rw [decide_eq_false hn2]
            wtm_at "v_all"
            rename St _ _ _ _ _ => S
            refine c_tell S (asdict_spec tr2 (by wtm_at "v_wf") S.le (by wtm_at "v_rm") K29 (.inl rfl) ht2) ?_
            clear S
            rintro v V31 h31 t31 S hv31 hta
            wtm_at "v_all"
            rename St _ _ _ _ _ => S
            refine c_tell S (table_spec tr2 (by wtm_at "v_wf") S.le (by wtm_at "v_rm") (by omega) (hp2.via hv31)) ?_
            clear S
            rintro v' V32 h32 t32 S hv32 htb
            obtain ⟨x1, rfl⟩ : ∃ a, v = .ref a := by
              cases hta with
              | nil => exact absurd rfl hn2
              | node _ _ _ _ _ => exact ⟨_, rfl⟩
            obtain ⟨x2, rfl⟩ : ∃ a, v' = .ref a := by
              cases htb with
              | nil => exact absurd rfl hn2
              | node _ _ _ _ _ => exact ⟨_, rfl⟩
            refine c_net (stays_trans hv32 S.le) S.le hta htb ((RD _).uplus (by omega)) ?_
            wtm_at "v_all"
            rename St _ _ _ _ _ => S
            exact Step.mk (its := fun j => [(it4, isLI el j)]) S (by wtm_at "v_st") ⟨mm, rfl⟩
        · clear S
          rintro V31 mc2 own h t hv31 ⟨mm, rfl⟩ S
          refine postU S ⟨_, _, _, rfl, ?_⟩
          clear S
          intro h t S
          wtm_at "v_all"
          rename St _ _ _ _ _ => S
          refine c_eql0 (At.weak (S.get (by wtm_at "v_mem"))) (At.weak (S.get (by wtm_at "v_mem"))) (RD _).units ?_
          wtm_at "v_all"
          rename_i _ le2 _
          change St _ _ _ ((L, isNs _) :: ([(le2, isL []), (D4, isL []), (D, isDr l), (l, isCells), (L + 1, isC (some tv))] ++ (447, isTb #[]) :: [])) _ at S
          obtain ⟨c', tb1, tb2⟩ := hTV.keeps (stays_trans w2 hv31)
          obtain ⟨o, e, rfl⟩ := S.view tb1
          exact ⟨_, _, _, _, _, rfl, rfl, S.toSecond, _, e⟩
    · dsimp only
      obtain ⟨o, e, rfl⟩ := S'.get (.tail _ (.head _))
      refine ⟨goodW_bool ⟨ns_at.mpr (S'.get (.head _)), fun b o e => S'.ext b o e, FF.above⟩ hgs (raisesW_false ?_) ?_, ⟨⟨_, e⟩, ⟨ps, hps⟩, trivial⟩⟩
      · wrow_none_raised
      · first | kc_post | wrow_post)
end Mine
theorem PySem.Challenge.cw_vc0017_01_holds : PySem.Challenge.rw_vc0017_01.Holds := by
  exact Mine.lawful
