import PyProof.Rows.All
import Wide.All
import OpenK.AllK
import Wide.FinOn
import PySem.Challenge.RW_nb0142_01
set_option Elab.async false
set_option linter.unusedVariables false
section
open PySem PySem.W PyProof.Rows
namespace Mine
set_option maxRecDepth 100000 in
set_option maxHeartbeats 8000000 in
open_top hd for PySem.Challenge.rw_nb0142_01
end Mine
end
section
open PySem PySem.W PySem.Calls PyProof.Rows
namespace Mine
/-- the own triple: the tree ends normally; tokens are forgotten -/
def T {α : Type} (M : Model) (A : Around) (S : Shared) (t : Sem α) (h : Heap) (P : α → Heap → Prop) : Prop :=
  ∀ tk, wpAny M A t (fun a s' => ∃ h' tk', s' = { S with heap := h', toks := tk' } ∧ P a h') (fun _ _ => False) { S with heap := h, toks := tk }
section
variable {α β : Type} {M : Model} {A : Around} {S : Shared} {env : Env} {h : Heap}
theorem T.use {t : Sem α} {P : α → Heap → Prop} (H : T M A S t h P) {Q : α → Shared → Prop} {E : Value → Shared → Prop} {tk : Nat}
    (k : ∀ a h' tk', P a h' → Q a { S with heap := h', toks := tk' }) : wpAny M A t Q E { S with heap := h, toks := tk } :=
  wpAny_mono (H tk) (fun a _ ⟨h', tk', e, p⟩ => e ▸ k a h' tk' p) fun _ _ f => f.elim
theorem T.fin {a : α} {P : α → Heap → Prop} {tk : Nat} (p : P a h) : ∃ h' tk', ({ S with heap := h, toks := tk } : Shared) = { S with heap := h', toks := tk' } ∧ P a h' := ⟨_, _, rfl, p⟩
theorem T.mono {t : Sem α} {P P' : α → Heap → Prop} (H : T M A S t h P) (k : ∀ a h', P a h' → P' a h') : T M A S t h P' :=
  fun _ => H.use fun a h' _ p => T.fin (k a h' p)
theorem T_pure {a : α} {P : α → Heap → Prop} (p : P a h) : T M A S (pure a) h P := fun _ => wpAny_pure (T.fin p)
theorem T_bind {t : Sem α} {f : α → Sem β} {P : β → Heap → Prop} (H : T M A S t h fun a h' => T M A S (f a) h' P) : T M A S (t >>= f) h P :=
  fun _ => wpAny_bind (H.use fun _ _ tk' H' => H' tk')
-- statements
theorem T_nil {P : Flow → Heap → Prop} (p : P .next h) : T M A S (execs [] env) h P := fun _ => wpAny_execs_nil (T.fin p)
theorem T_cons {st : Stmt} {rest : List Stmt} {P : Flow → Heap → Prop}
    (H : T M A S (exec st env) h fun f h' => match f with | .next => T M A S (execs rest env) h' P | f => P f h') : T M A S (execs (st :: rest) env) h P :=
  fun _ => wpAny_execs_cons (H.use fun f h' tk' H' => by cases f <;> first | exact H' tk' | exact T.fin H')
theorem T_Assign {x : Str} {pos' pos : Pos} {value : Expr} {P : Flow → Heap → Prop}
    (H : T M A S (eval value env) h fun v h₁ => T M A S (storeName env x v) h₁ fun _ h₂ => P .next h₂)
    (hs : swapsWith value (some (.Name x pos')) pos.line env = pure false := by rfl) : T M A S (exec (.Assign [.Name x pos'] value pos) env) h P :=
  fun _ => wpAny_Assign_Name (H.use fun _ _ tk₁ H₁ => H₁.use fun _ _ _ p => T.fin p) hs
theorem T_AugAssign {x : Str} {pos' pos : Pos} {op : Operator} {value : Expr} {P : Flow → Heap → Prop}
    (H : T M A S (loadName env x) h fun old h₁ => T M A S (eval value env) h₁ fun v h₂ => T M A S (inplaceOp op old v) h₂ fun r h₃ => T M A S (storeName env x r) h₃ fun _ h₄ => P .next h₄) :
    T M A S (exec (.AugAssign (.Name x pos') op value pos) env) h P :=
  fun _ => wpAny_AugAssign_Name (H.use fun _ _ _ H₁ => H₁.use fun _ _ _ H₂ => H₂.use fun _ _ _ H₃ => H₃.use fun _ _ _ p => T.fin p)
theorem T_If {test : Expr} {body orelse : List Stmt} {pos : Pos} {P : Flow → Heap → Prop}
    (H : T M A S (isTrue test env (eval test env)) h fun b h₂ => if b then T M A S (execs body env) h₂ P else T M A S (execs orelse env) h₂ P) :
    T M A S (exec (.If test body orelse pos) env) h P :=
  fun _ => wpAny_If (H.use fun b _ tk' H' => by cases b <;> exact H' tk')
theorem T_Return {e : Expr} {pos : Pos} {P : Flow → Heap → Prop} (H : T M A S (eval e env) h fun v h' => P (.ret v) h') : T M A S (exec (.Return (some e) pos) env) h P :=
  fun _ => wpAny_Return_some (H.use fun _ _ _ p => T.fin p)
theorem T_Return0 {pos : Pos} {P : Flow → Heap → Prop} (p : P (.ret .none) h) : T M A S (exec (.Return none pos) env) h P := fun _ => wpAny_Return_none (T.fin p)
-- expressions
theorem T_BinOp {l r : Expr} {op : Operator} {pos : Pos} {P : Value → Heap → Prop}
    (H : T M A S (eval l env) h fun a h₁ => T M A S (eval r env) h₁ fun b h₂ => T M A S (binaryOp op a b) h₂ P) : T M A S (eval (.BinOp l op r pos) env) h P :=
  fun _ => wpAny_BinOp (H.use fun _ _ _ H₁ => H₁.use fun _ _ tk₂ H₂ => H₂ tk₂)
theorem T_Compare {l r : Expr} {op : CmpOp} {pos : Pos} {P : Value → Heap → Prop}
    (H : T M A S (eval l env) h fun a h₁ => T M A S (eval r env) h₁ fun b h₂ => T M A S (compareOp op a b) h₂ P) (hm : behindInMarks op r = false := by with_unfolding_all rfl) :
    T M A S (eval (.Compare l [op] [r] pos) env) h P := fun _ => wpAny_Compare1 (H.use fun _ _ _ H₁ => H₁.use fun _ _ tk₂ H₂ => H₂ tk₂) hm
theorem T_isTrue_Compare {l r : Expr} {op : CmpOp} {pos : Pos} {whole : Sem Value} {P : Bool → Heap → Prop}
    (H : T M A S (eval l env) h fun a h₁ => T M A S (eval r env) h₁ fun b h₂ => T M A S (compareOp op a b) h₂ fun c h₃ => T M A S (truthy c) h₃ P) (hm : behindInMarks op r = false := by with_unfolding_all rfl) :
    T M A S (isTrue (.Compare l [op] [r] pos) env whole) h P := fun _ => wpAny_isTrue_Compare1 (H.use fun _ _ _ H₁ => H₁.use fun _ _ _ H₂ => H₂.use fun _ _ tk₃ H₃ => H₃ tk₃) hm
theorem T_int {i : Int} {k : Nat} {pos : Pos} {P : Value → Heap → Prop} (p : ∀ t, P (.int i t) h) : T M A S (eval (.Constant (.int i) k pos) env) h P := fun tk => wpAny_Constant_int (T.fin (p tk))
theorem T_str {x : Str} {k : Nat} {pos : Pos} {P : Value → Heap → Prop} (p : ∀ t, P (.str x t) h) : T M A S (eval (.Constant (.str x) k pos) env) h P := fun tk => Constant_str (T.fin (p tk))
theorem T_Call {func : Expr} {args : List Expr} {pos : Pos} {P : Value → Heap → Prop}
    (H : T M A S (eval func env) h fun f h₁ => T M A S (callWith pos f [] (backTo pos (starEach args env)) []) h₁ P)
    (he : eval (.Call func args [] pos) env = (do callWith pos (← eval func env) [] (backTo pos (starEach args env)) (backToKw pos (keywordEach [] env))) := by rfl) :
    T M A S (eval (.Call func args [] pos) env) h P := fun _ => Call_ (H.use fun _ _ tk₁ H₁ => H₁ tk₁) he
theorem T_Method {o : Expr} {name : Str} {apos pos : Pos} {args : List Expr} {pl : Sem Bool} {P : Value → Heap → Prop}
    (H : T M A S (eval o env) h fun ov h₁ => T M A S (getMethod ov name pl) h₁ fun fx h₂ => T M A S (callWith pos fx.1 fx.2 (backTo pos (starEach args env)) []) h₂ P)
    (he : eval (.Call (.Attribute o name apos) args [] pos) env = (do
      let ov ← eval o env
      standAt apos.atName
      let (f, first) ← holding [ov] (getMethod ov name pl)
      callWith pos f first (backTo pos (starEach args env)) []) := by rfl) :
    T M A S (eval (.Call (.Attribute o name apos) args [] pos) env) h P := fun _ => MethodCall_ (H.use fun _ _ _ H₁ => H₁.use fun _ _ tk₂ H₂ => H₂ tk₂) he
theorem T_args_nil {pos : Pos} {P : List Value → Heap → Prop} (p : P [] h) : T M A S (spliced (backTo pos (starEach [] env))) h P := fun _ => args_nil (T.fin p)
theorem T_args_cons {e : Expr} {rest : List Expr} {pos : Pos} {P : List Value → Heap → Prop}
    (H : T M A S (eval e env) h fun v h₁ => T M A S (spliced (backTo pos (starEach rest env))) h₁ fun vs h₂ => P (v :: vs) h₂)
    (he : starEach (e :: rest) env = (false, eval e env) :: starEach rest env := by rfl) : T M A S (spliced (backTo pos (starEach (e :: rest) env))) h P :=
  fun _ => args_cons (H.use fun _ _ _ H₁ => H₁.use fun _ _ _ p => T.fin p) he
theorem T_callWith_fn {q : Addr} {first : List Value} {pos : Pos} {e : Expr} {rest : List Expr} {P : Value → Heap → Prop} (X : FnAt q h)
    (H : T M A S (spliced (backTo pos (starEach (e :: rest) env))) h fun vs h₁ => FnAt q h₁ ∧ T M A S (call (.ref q) (first ++ vs)) h₁ P)
    (he : starEach (e :: rest) env = (false, eval e env) :: starEach rest env := by rfl) (hplain : (backTo pos (starEach rest env)).any (·.1) = false := by rfl) :
    T M A S (callWith pos (.ref q) first (backTo pos (starEach (e :: rest) env)) []) h P :=
  fun _ => callWith_F X (H.use fun _ _ tk₁ H₁ => ⟨H₁.1, H₁.2 tk₁⟩) he hplain
theorem T_callWith_bi {id : String} {first : List Value} {pos : Pos} {e : Expr} {rest : List Expr} {P : Value → Heap → Prop}
    (H : T M A S (spliced (backTo pos (starEach (e :: rest) env))) h fun vs h₁ => T M A S (call (.builtin id) (first ++ vs)) h₁ P)
    (he : starEach (e :: rest) env = (false, eval e env) :: starEach rest env := by rfl) (hplain : (backTo pos (starEach rest env)).any (·.1) = false := by rfl) :
    T M A S (callWith pos (.builtin id) first (backTo pos (starEach (e :: rest) env)) []) h P :=
  fun _ => callWith_method1 (H.use fun _ _ tk₁ H₁ => H₁ tk₁) he hplain
theorem T_callWith_bi0 {id : String} {first : List Value} {pos : Pos} {P : Value → Heap → Prop} (H : T M A S (call (.builtin id) first) h P) :
    T M A S (callWith pos (.builtin id) first (backTo pos (starEach [] env)) []) h P := fun tk => callWith_method0 (H tk)
theorem T_Subscript {value slice : Expr} {pos : Pos} {P : Value → Heap → Prop}
    (H : T M A S (eval value env) h fun o h₁ => T M A S (eval slice env) h₁ fun i h₂ => T M A S (subscriptTail value slice o i) h₂ P) :
    T M A S (eval (.Subscript value slice pos) env) h P := fun _ => Subscript_ (H.use fun _ _ _ H₁ => H₁.use fun _ _ tk₂ H₂ => H₂ tk₂)
theorem T_truthy_bool {b : Bool} {P : Bool → Heap → Prop} (p : P b h) : T M A S (truthy (.bool b)) h P := fun _ => wpAny_truthy_bool (T.fin p)
end
end Mine
end
section
open PySem PySem.W PySem.Calls PyProof.Rows
namespace Mine
/-- what stands of the program's top, in a heap -/
structure Wd (w : World) (h₀ : Heap) : Prop where
  X : (hd.heap_39 w.params).In h₀
  T : ∃ p loose mean mg mb, Top p loose mean mg mb h₀
  c1 : CodeHd h₀ 41 37
  c2 : CodeHd h₀ 48 44
theorem Wd.keeps {w : World} {h h' : Heap} (W : Wd w h) (k : ∀ b o, h.get? b = some o → h'.get? b = some o) : Wd w h' :=
  ⟨W.X.keeps k, let ⟨p, l, me, mg, mb, T⟩ := W.T; ⟨p, l, me, mg, mb, T.keeps k⟩, W.c1.keeps k, W.c2.keeps k⟩
theorem Wd.nolimit {w : World} {h : Heap} (W : Wd w h) : h.NoLimit := let ⟨_, _, _, _, _, T⟩ := W.T; T.nolimit
/-- a frame at L with locals m; h₀ is kept; led is owned -/
structure St0 (h₀ : Heap) (L : Addr) (m : Str → Option Value) (led : List (Addr × Obj)) (h : Heap) : Prop where
  ns : h.Ns L m
  keep : ∀ b o, h₀.get? b = some o → h.get? b = some o
  apart : h₀.get? L = none
  own : ∀ p ∈ led, h.get? p.1 = some p.2 ∧ h₀.get? p.1 = none
  nodup : (L :: led.map (·.1)).Nodup
section
variable {h₀ h h' : Heap} {L a : Addr} {m m' : Str → Option Value} {led led' : List (Addr × Obj)} {o o' : Obj}
theorem St0.none_at (S : St0 h₀ L m led h) : h₀.get? h.objs.size = none := by
  cases q : h₀.get? h.objs.size with
  | none => rfl
  | some o' => exact absurd (Heap.lt_size (S.keep _ _ q)) (Nat.lt_irrefl _)
theorem St0.none_ge (S : St0 h₀ L m led h) {b : Addr} (hb : h.objs.size ≤ b) : h₀.get? b = none := by
  cases q : h₀.get? b with
  | none => rfl
  | some o' => exact absurd (Nat.lt_of_lt_of_le (Heap.lt_size (S.keep _ _ q)) hb) (Nat.lt_irrefl _)
theorem St0.keeps (S : St0 h₀ L m led h) (k : ∀ b o, h.get? b = some o → h'.get? b = some o) : St0 h₀ L m led h' :=
  ⟨S.ns.keeps k, fun b o e => k b o (S.keep b o e), S.apart, fun p hp => ⟨k _ _ (S.own p hp).1, (S.own p hp).2⟩, S.nodup⟩
theorem St0.setL (S : St0 h₀ L m led h) (hn : h'.Ns L m') (hs : Heap.ExtBut L h h') : St0 h₀ L m' led h' := by
  refine ⟨hn, fun b o e => hs b o ?_ (S.keep b o e), S.apart, fun p hp => ⟨hs _ _ ?_ (S.own p hp).1, (S.own p hp).2⟩, S.nodup⟩
  · rintro rfl; rw [S.apart] at e; cases e
  · rintro rfl; exact (List.nodup_cons.mp S.nodup).1 (List.mem_map.mpr ⟨p, hp, rfl⟩)
theorem St0.perm (S : St0 h₀ L m led h) (hp : led.Perm led') : St0 h₀ L m led' h :=
  ⟨S.ns, S.keep, S.apart, fun p q => S.own p (hp.mem_iff.mpr q), ((hp.map _).cons L).nodup_iff.mp S.nodup⟩
theorem St0.sub (S : St0 h₀ L m led h) (hp : led'.Sublist led) : St0 h₀ L m led' h :=
  ⟨S.ns, S.keep, S.apart, fun p q => S.own p (hp.subset q), ((hp.map _).cons_cons L).nodup S.nodup⟩
theorem St0.live (S : St0 h₀ L m led h) {b : Addr} (hb : b ∈ L :: led.map (·.1)) : h.get? b ≠ none := by
  rcases List.mem_cons.mp hb with rfl | hb
  · obtain ⟨o, _, _, e, _⟩ := S.ns; rw [e]; nofun
  · obtain ⟨p, hp, rfl⟩ := List.mem_map.mp hb
    rw [(S.own p hp).1]; nofun
theorem St0.add (S : St0 h₀ L m led h) (k : ∀ b o, h.get? b = some o → h'.get? b = some o) (ha : h.get? a = none) (ho : h'.get? a = some o) : St0 h₀ L m ((a, o) :: led) h' := by
  have S' := S.keeps k
  refine ⟨S'.ns, S'.keep, S'.apart, fun p hp => ?_, ?_⟩
  · rcases List.mem_cons.mp hp with rfl | hp
    · refine ⟨ho, ?_⟩
      cases q : h₀.get? a with
      | none => rfl
      | some o' => rw [S.keep _ _ q] at ha; cases ha
    · exact S'.own p hp
  · rw [List.map_cons]
    exact (List.Perm.swap a L _).nodup_iff.mpr (List.nodup_cons.mpr ⟨fun hm => S.live hm ha, S.nodup⟩)
theorem St0.extBut (S : St0 h₀ L m led h) (hs : Heap.ExtBut a h h') (ha : a ∉ L :: led.map (·.1)) (h0 : h₀.get? a = none) : St0 h₀ L m led h' := by
  refine ⟨S.ns.extBut hs (fun q => ha (q ▸ .head _)), fun b ob e => hs b ob ?_ (S.keep b ob e), S.apart, fun p hp => ⟨hs _ _ (fun q => ha (.tail _ (List.mem_map.mpr ⟨p, hp, q⟩))) (S.own p hp).1, (S.own p hp).2⟩, S.nodup⟩
  rintro rfl; rw [h0] at e; cases e
theorem St0.push (S : St0 h₀ L m led h) (o : Obj) (hf : o.isFreed = false := by rfl) : St0 h₀ L m ((h.objs.size, o) :: led) (h.push o) :=
  S.add (fun _ _ e => Heap.get?_push_of_some _ e) (Heap.get?_none_of_le (Nat.le_refl _)) (Heap.get?_push_size _ hf)
theorem St0.setAt (S : St0 h₀ L m ((a, o) :: led) h) (ho : h'.get? a = some o') (hs : Heap.ExtBut a h h') : St0 h₀ L m ((a, o') :: led) h' := by
  have nd := S.nodup
  rw [List.map_cons] at nd
  obtain ⟨n1, n2⟩ := List.nodup_cons.mp nd
  obtain ⟨n3, n4⟩ := List.nodup_cons.mp n2
  have ha := (S.own (a, o) (.head _)).2
  refine ⟨S.ns.extBut hs (fun q => n1 (q ▸ .head _)), fun b ob e => hs b ob ?_ (S.keep b ob e), S.apart, fun p hp => ?_, nd⟩
  · rintro rfl; rw [ha] at e; cases e
  · rcases List.mem_cons.mp hp with rfl | hp
    · exact ⟨ho, ha⟩
    · exact ⟨hs _ _ (fun q => n3 (q ▸ List.mem_map.mpr ⟨p, hp, rfl⟩)) (S.own p (.tail _ hp)).1, (S.own p (.tail _ hp)).2⟩
/-- part of the ledger becomes part of what is kept -/
theorem St0.freeze {fr : List (Addr × Obj)} (S : St0 h₀ L m (led ++ fr) h) : ∃ g, (∀ b o, h₀.get? b = some o → g.get? b = some o) ∧ (∀ p ∈ fr, g.get? p.1 = some p.2) ∧ St0 g L m led h ∧
    (∀ b o, h.get? b = some o → b ∉ L :: led.map (·.1) → g.get? b = some o) ∧ ∀ m' led' h', St0 g L m' led' h' → St0 h₀ L m' (led' ++ fr) h' := by
  have nd := S.nodup
  rw [List.map_append] at nd
  have nfr : ∀ p ∈ fr, p.1 ∉ L :: led.map (·.1) := fun p hp hm => by
    have h1 := List.nodup_cons.mp nd
    rcases List.mem_cons.mp hm with q | q
    · exact h1.1 (q ▸ List.mem_append_right _ (List.mem_map.mpr ⟨p, hp, rfl⟩))
    · exact (List.nodup_append.mp h1.2).2.2 _ q _ (List.mem_map.mpr ⟨p, hp, rfl⟩) rfl
  have n0 : ∀ b o, h₀.get? b = some o → b ∉ L :: led.map (·.1) := fun b o e hm => by
    rcases List.mem_cons.mp hm with q | q
    · rw [q, S.apart] at e; cases e
    · obtain ⟨p, hp, rfl⟩ := List.mem_map.mp q
      rw [(S.own p (List.mem_append_left _ hp)).2] at e; cases e
  refine ⟨hideAll h (L :: led.map (·.1)), fun b o e => hideAll_get _ (S.keep b o e) (n0 b o e), fun p hp => hideAll_get _ (S.own p (List.mem_append_right _ hp)).1 (nfr p hp), ?_, fun b o e n => hideAll_get _ e n, ?_⟩
  · refine ⟨S.ns, fun b o e => of_hideAll _ e, hideAll_none _ (.head _), fun p hp => ⟨(S.own p (List.mem_append_left _ hp)).1, hideAll_none _ (.tail _ (List.mem_map.mpr ⟨p, hp, rfl⟩))⟩, ?_⟩
    have h1 := List.nodup_cons.mp nd
    exact List.nodup_cons.mpr ⟨fun q => h1.1 (List.mem_append_left _ q), (List.nodup_append.mp h1.2).1⟩
  · intro m' led' h' S'
    have nn : ∀ b, (hideAll h (L :: led.map (·.1))).get? b = none → h₀.get? b = none := fun b e => by
      cases q : h₀.get? b with
      | none => rfl
      | some o => rw [hideAll_get _ (S.keep b o q) (n0 b o q)] at e; cases e
    refine ⟨S'.ns, fun b o e => S'.keep b o (hideAll_get _ (S.keep b o e) (n0 b o e)), S.apart, fun p hp => ?_, ?_⟩
    · rcases List.mem_append.mp hp with hp | hp
      · exact ⟨(S'.own p hp).1, nn _ (S'.own p hp).2⟩
      · exact ⟨S'.keep _ _ (hideAll_get _ (S.own p (List.mem_append_right _ hp)).1 (nfr p hp)), (S.own p (List.mem_append_right _ hp)).2⟩
    · have h1 := List.nodup_cons.mp nd
      have h2 := List.nodup_cons.mp S'.nodup
      rw [List.map_append]
      have gs : ∀ p ∈ fr, (hideAll h (L :: led.map (·.1))).get? p.1 = some p.2 := fun p hp => hideAll_get _ (S.own p (List.mem_append_right _ hp)).1 (nfr p hp)
      refine List.nodup_cons.mpr ⟨fun q => ?_, List.nodup_append.mpr ⟨h2.2, (List.nodup_append.mp h1.2).2.1, fun x hx y hy e => ?_⟩⟩
      · rcases List.mem_append.mp q with q | q
        · exact h2.1 q
        · exact h1.1 (List.mem_append_right _ q)
      · obtain ⟨p, hp, rfl⟩ := List.mem_map.mp hx
        obtain ⟨p', hp', rfl⟩ := List.mem_map.mp hy
        have e1 := (S'.own p hp).2
        rw [e, gs p' hp'] at e1; cases e1
end
/-- the two tables of inner defs, and the code objects that they hold -/
def TabOK (pos : Pos) (qual : Str) (ta : Array Value) (codes : List (Addr × Obj)) : Prop :=
  ta = #[] ∨ ∃ c oc vs t, ta = #[rawInt pos.line, rawInt pos.col, .ref c] ∧ (c, oc) ∈ codes ∧ oc.data = .fields vs ∧ vs[1]? = some (.str qual t)
theorem TabOK.more' {pos : Pos} {qual : Str} {ta : Array Value} {codes : List (Addr × Obj)} (x : TabOK pos qual ta codes) (p : Addr × Obj) : TabOK pos qual ta (p :: codes) :=
  x.elim .inl fun ⟨c, oc, vs, t, e, hm, r⟩ => .inr ⟨c, oc, vs, t, e, .tail _ hm, r⟩
def posA : Pos := ⟨41, 4, 50, 28⟩
def posB : Pos := ⟨56, 4, 61, 55⟩
def qualA : Str := (Str.ofString "_int2digits" ++ Str.ofString ".<locals>.") ++ Str.ofString "inner"
def qualB : Str := (Str.ofString "_digits2int" ++ Str.ofString ".<locals>.") ++ Str.ofString "inner"
def Hid (hid news : List (Addr × Obj)) : Prop := ∃ ta tb junk, hid = (37, tabObj ta) :: (44, tabObj tb) :: junk ∧ TabOK posA qualA ta (junk ++ news) ∧ TabOK posB qualB tb (junk ++ news)
theorem TabOK.mono {pos : Pos} {qual : Str} {ta : Array Value} {codes codes' : List (Addr × Obj)} (x : TabOK pos qual ta codes) (k : ∀ p ∈ codes, (∃ vs, p.2.data = .fields vs) → p ∈ codes') : TabOK pos qual ta codes' :=
  x.elim .inl fun ⟨c, oc, vs, t, e, hm, hd, r⟩ => .inr ⟨c, oc, vs, t, e, k _ hm ⟨vs, hd⟩, hd, r⟩
theorem Hid.mono {hid news news' : List (Addr × Obj)} (H : Hid hid news) (k : ∀ p ∈ news, (∃ vs, p.2.data = .fields vs) → p ∈ news') : Hid hid news' := by
  obtain ⟨ta, tb, junk, e, a, b⟩ := H
  have kk : ∀ p ∈ junk ++ news, (∃ vs, p.2.data = .fields vs) → p ∈ junk ++ news' := fun p hp hd =>
    (List.mem_append.mp hp).elim (fun h => List.mem_append_left _ h) fun h => List.mem_append_right _ (k p h hd)
  exact ⟨ta, tb, junk, e, a.mono kk, b.mono kk⟩
def St (h₀ : Heap) (L : Addr) (m : Str → Option Value) (news : List (Addr × Obj)) (h : Heap) : Prop := ∃ hid, Hid hid news ∧ St0 h₀ L m (hid ++ news) h
def Has (h₀ : Heap) (news : List (Addr × Obj)) (a : Addr) (o : Obj) : Prop := h₀.get? a = some o ∨ (a, o) ∈ news
section
variable {h₀ h h' g : Heap} {L a : Addr} {m m' : Str → Option Value} {news news' fr : List (Addr × Obj)} {o o' : Obj}
theorem St.ns (S : St h₀ L m news h) : h.Ns L m := let ⟨_, _, S⟩ := S; S.ns
theorem St.keep (S : St h₀ L m news h) : ∀ b o, h₀.get? b = some o → h.get? b = some o := let ⟨_, _, S⟩ := S; S.keep
theorem St.get (S : St h₀ L m news h) (hm : (a, o) ∈ news) : h.get? a = some o := let ⟨_, _, S⟩ := S; (S.own _ (List.mem_append_right _ hm)).1
theorem St.has (S : St h₀ L m news h) (x : Has h₀ news a o) : h.get? a = some o := x.elim (S.keep _ _) S.get
theorem St.lt (S : St h₀ L m news h) (hm : (a, o) ∈ news) : a < h.objs.size := Heap.lt_size (S.get hm)
theorem St.keeps (S : St h₀ L m news h) (k : ∀ b o, h.get? b = some o → h'.get? b = some o) : St h₀ L m news h' := let ⟨hid, H, S⟩ := S; ⟨hid, H, S.keeps k⟩
theorem St.setL (S : St h₀ L m news h) (hn : h'.Ns L m') (hs : Heap.ExtBut L h h') : St h₀ L m' news h' := let ⟨hid, H, S⟩ := S; ⟨hid, H, S.setL hn hs⟩
theorem St.perm (S : St h₀ L m news h) (hp : news.Perm news') : St h₀ L m news' h := let ⟨hid, H, S⟩ := S; ⟨hid, H.mono fun p h _ => hp.mem_iff.mp h, S.perm (hp.append_left hid)⟩
/-- what is no longer wanted: it stays owned, out of sight -/
theorem St.drop (S : St h₀ L m (fr ++ news) h) : St h₀ L m news h := by
  obtain ⟨hid, ⟨ta, tb, junk, rfl, a, b⟩, S⟩ := S
  refine ⟨(37, tabObj ta) :: (44, tabObj tb) :: (junk ++ fr), ⟨ta, tb, junk ++ fr, rfl, ?_, ?_⟩, ?_⟩
  · rw [List.append_assoc]; exact a
  · rw [List.append_assoc]; exact b
  · simpa [List.append_assoc] using S
theorem St.tail {p : Addr × Obj} (S : St h₀ L m (p :: news) h) : St h₀ L m news h := St.drop (fr := [p]) S
theorem St.dropEnd (S : St h₀ L m (news ++ fr) h) : St h₀ L m news h := St.drop (fr := fr) (S.perm List.perm_append_comm)
theorem St.add (S : St h₀ L m news h) (k : ∀ b o, h.get? b = some o → h'.get? b = some o) (ha : h.get? a = none) (ho : h'.get? a = some o) : St h₀ L m ((a, o) :: news) h' :=
  let ⟨hid, H, S⟩ := S; ⟨hid, H.mono fun p h _ => .tail _ h, (S.add k ha ho).perm List.perm_middle.symm⟩
theorem St.push (S : St h₀ L m news h) (o : Obj) (hf : o.isFreed = false := by rfl) : St h₀ L m ((h.objs.size, o) :: news) (h.push o) :=
  S.add (fun _ _ e => Heap.get?_push_of_some _ e) (Heap.get?_none_of_le (Nat.le_refl _)) (Heap.get?_push_size _ hf)
theorem St.setAt (S : St h₀ L m ((a, o) :: news) h) (ho : h'.get? a = some o') (hs : Heap.ExtBut a h h') (hnf : ∀ vs, o.data ≠ .fields vs := by nofun) : St h₀ L m ((a, o') :: news) h' :=
  let ⟨hid, H, S⟩ := S; ⟨hid, H.mono fun p h ⟨vs, hd⟩ => by
    rcases List.mem_cons.mp h with rfl | h
    · exact absurd hd (hnf vs)
    · exact .tail _ h, ((S.perm List.perm_middle).setAt ho hs).perm List.perm_middle.symm⟩
theorem St.freeze (S : St h₀ L m (news ++ fr) h) (hnf : ∀ p ∈ fr, ∀ vs, p.2.data ≠ .fields vs) : ∃ g, (∀ b o, h₀.get? b = some o → g.get? b = some o) ∧ (∀ p ∈ fr, g.get? p.1 = some p.2) ∧ St g L m news h ∧
    ∀ m' news' h', St g L m' news' h' → St h₀ L m' (news' ++ fr) h' := by
  obtain ⟨hid, H, S⟩ := S
  rw [← List.append_assoc] at S
  obtain ⟨g, k1, k2, k3, _, k4⟩ := S.freeze
  refine ⟨g, k1, k2, ⟨hid, H.mono fun p h ⟨vs, hd⟩ => ?_, k3⟩, fun m' news' h' ⟨hid', H', S'⟩ => ⟨hid', H'.mono fun p h _ => List.mem_append_left _ h, by rw [← List.append_assoc]; exact k4 m' _ h' S'⟩⟩
  rcases List.mem_append.mp h with h | h
  · exact h
  · exact absurd hd (hnf p h vs)
theorem Has.up (x : Has h₀ news a o) (k : ∀ b o, h₀.get? b = some o → g.get? b = some o) : Has g news a o := x.elim (fun e => .inl (k _ _ e)) .inr
theorem Has.mono (x : Has h₀ news a o) (k : ∀ p ∈ news, p ∈ news') : Has h₀ news' a o := x.elim .inl fun e => .inr (k _ e)
theorem Has.more {p : Addr × Obj} (x : Has h₀ news a o) : Has h₀ (p :: news) a o := x.mono fun _ h => .tail _ h
end
section
variable {w : World} {prog : Program} {A : Around} {S : Shared} {h₀ h : Heap} {L : Addr} {m : Str → Option Value} {news : List (Addr × Obj)}
theorem T_call {f : Addr} {oc : Value} {od : Option Addr} {osl : Array (Option Value)} {name qual : Str} {params : Arguments} {body : List Stmt} {scope : Scope} {cl : List (Str × Addr)} {dV kV doc pm cdv ct : Value} {an : Option Addr}
    {vs : List Value} {binds : List (Str × Value)} {P : Value → Heap → Prop} (W : Wd w h₀) (X : St h₀ L m news h)
    (hf : h.get? f = some ⟨oc, od, .func (fnX name qual params body scope cl dV kV doc pm an cdv ct), osl⟩) (hcd : h.CodeRec cdv qual) (hroom : A.depth < recursionLimit)
    (hbind : bindArgs (fnX name qual params body scope cl dV kV doc pm an cdv ct) ⟨vs, []⟩ = pure binds) (hloc : ∀ y ∈ binds, scope.names.lookup y.1 = some .local)
    (hcell : ∀ x ∈ scope.names, x.2 ≠ .cell)
    (H : ∀ g L' h₁, Wd w g → (∀ b o, h₀.get? b = some o → g.get? b = some o) → St g L' (fun y => binds.reverse.lookup y) news h₁ →
      T (model prog w) (A.deeper (envX qual scope L' f cdv cl)) S (execs body (envX qual scope L' f cdv cl)) h₁ fun fl h' =>
        ∃ m' news', St g L' m' news' h' ∧ (St h₀ L m news' h' → P (match fl with | .ret v => v | _ => .none) h'))
    (hco : scope.isCoroutine = false := by rfl) (hgen : scope.isGenerator = false := by rfl) (hk : scope.kind = .function := by rfl) :
    T (model prog w) A S (call (.ref f) vs) h P := fun tk => by
  obtain ⟨hid, HH, X⟩ := X
  refine wpAny_call (codeAny_call_def (fd := fnX name qual params body scope cl dV kV doc pm an cdv ct) (body := body) (binds := binds) hroom hf rfl (W.nolimit.keeps X.keep) hcd rfl (BindsTo.of_eq hbind) hcell hloc (fun h₁ hns hk₁ => ?_) hco hgen hk)
  have nd := X.nodup
  have h1 := List.nodup_cons.mp nd
  -- the new ground
  let ads := (hid ++ news).map (·.1)
  have nL : L ∉ ads := h1.1
  have n0 : ∀ b o, h₀.get? b = some o → b ∉ ads := fun b o e hm => by
    obtain ⟨p, hp, rfl⟩ := List.mem_map.mp hm
    rw [(X.own p hp).2] at e; cases e
  have up : ∀ b o, h₀.get? b = some o → (hideAll h ads).get? b = some o := fun b o e => hideAll_get _ (X.keep b o e) (n0 b o e)
  have X' : St (hideAll h ads) h.objs.size (fun y => binds.reverse.lookup y) news h₁ := by
    refine ⟨hid, HH, hns, fun b o e => hk₁ b o (of_hideAll _ e), ?_, fun p hp => ⟨hk₁ _ _ (X.own p hp).1, hideAll_none _ (List.mem_map.mpr ⟨p, hp, rfl⟩)⟩, ?_⟩
    · cases q : (hideAll h ads).get? h.objs.size with
      | none => rfl
      | some o => exact absurd (Heap.lt_size (of_hideAll _ q)) (Nat.lt_irrefl _)
    · refine List.nodup_cons.mpr ⟨fun q => ?_, h1.2⟩
      obtain ⟨p, hp, e⟩ := List.mem_map.mp q
      exact absurd (Heap.lt_size (X.own p hp).1) (by rw [e]; exact Nat.lt_irrefl _)
  have hb := H (hideAll h ads) h.objs.size h₁ (W.keeps up) up X'
  refine wpAny_mono (hb _) (fun fl s' ⟨h', tk', e, m', news', S', k⟩ => ?_) fun _ _ f => f.elim
  subst e
  obtain ⟨hid', HH', S'⟩ := S'
  obtain ⟨oL, es, ep, hL, rL⟩ := X.ns
  have hLg : (hideAll h ads).get? L = some oL := hideAll_get _ hL nL
  refine T.fin (k ⟨hid', HH', ⟨oL, es, ep, S'.keep _ _ hLg, rL⟩, fun b o e => S'.keep b o (up b o e), X.apart, fun p hp => ⟨(S'.own p hp).1, ?_⟩, ?_⟩)
  · cases q : h₀.get? p.1 with
    | none => rfl
    | some o => have := (S'.own p hp).2; rw [up _ _ q] at this; cases this
  · refine List.nodup_cons.mpr ⟨fun q => ?_, (List.nodup_cons.mp S'.nodup).2⟩
    obtain ⟨p, hp, e⟩ := List.mem_map.mp q
    have := (S'.own p hp).2
    rw [e, hLg] at this; cases this
theorem cellsAre_addrs {cm : Str → Option Value} {cs : List (Str × Addr)} {cells : List (Addr × Obj)} (Y : CellsAre cm cs cells) : cells.map (·.1) = cs.map (·.2) := by
  induction Y with
  | nil => rfl
  | cons _ _ ih => simp only [List.map_cons, ih]
theorem T_callC {f : Addr} {oc : Value} {od : Option Addr} {osl : Array (Option Value)} {name qual : Str} {params : Arguments} {body : List Stmt} {scope : Scope} {dV kV doc pm cdv ct : Value} {an : Option Addr}
    {vs : List Value} {binds : List (Str × Value)} {P : Value → Heap → Prop} (W : Wd w h₀) (X : St h₀ L m news h)
    (hf : h.get? f = some ⟨oc, od, .func (fnX name qual params body scope [] dV kV doc pm an cdv ct), osl⟩) (hcd : h.CodeRec cdv qual) (hroom : A.depth < recursionLimit)
    (hbind : bindArgs (fnX name qual params body scope [] dV kV doc pm an cdv ct) ⟨vs, []⟩ = pure binds)
    (hkind : ∀ n, ∀ x ∈ binds, scope.names.lookup x.1 = some .local ∨ (scope.names.lookup x.1 = some .cell ∧ ((cellsFrom n scope.names []).lookup x.1).isSome = true))
    (hnd : ((cellsFrom 0 scope.names []).map (·.1)).Nodup)
    (H : ∀ g L' h₁ cells, Wd w g → (∀ b o, h₀.get? b = some o → g.get? b = some o) → St g L' (bindL (envOfC qual scope L' f cdv).kindOf binds fun _ => none) (cells ++ news) h₁ →
      CellsAre (bindC (envOfC qual scope L' f cdv).kindOf binds fun _ => none) (cellsFrom (L' + 1) scope.names []) cells →
      T (model prog w) (A.deeper (envOfC qual scope L' f cdv)) S (execs body (envOfC qual scope L' f cdv)) h₁ fun fl h' =>
        ∃ m' news', St g L' m' news' h' ∧ (St h₀ L m news' h' → P (match fl with | .ret v => v | _ => .none) h'))
    (hco : scope.isCoroutine = false := by rfl) (hgen : scope.isGenerator = false := by rfl) (hk : scope.kind = .function := by rfl) :
    T (model prog w) A S (call (.ref f) vs) h P := fun tk => by
  obtain ⟨hid, HH, X⟩ := X
  refine wpAny_call (codeAny_call_function hroom hf rfl hco hgen rfl hcd (BindsTo.of_eq hbind _ _ _ _ ?_))
  refine wpAny_newFunctionEnv_cells hk (hkind _) fun env' he s' x => ?_
  subst he
  refine ⟨(W.nolimit.keeps X.keep).keeps x.toInCall.keep, codeAny_func ?_⟩
  obtain ⟨h₁, tk₁, rfl, _⟩ := x.done
  have hk₁ := x.toInCall.keep
  obtain ⟨cells, NC, Y⟩ := Cl.news (h₀ := h) (Nat.le_refl _) fun n c hm => ⟨x.cell n c (lookup_of_mem_nodup (cellsFrom_names scope.names 0 (h.objs.size + 1) [] [] rfl ▸ hnd) hm), x.above n c hm⟩
  have hns : h₁.Ns h.objs.size (bindL (envOfC qual scope h.objs.size f cdv).kindOf binds fun _ => none) := x.toInCall.ns
  have nd := X.nodup
  have h1 := List.nodup_cons.mp nd
  let ads := (hid ++ news).map (·.1)
  have nL : L ∉ ads := h1.1
  have n0 : ∀ b o, h₀.get? b = some o → b ∉ ads := fun b o e hm => by
    obtain ⟨p, hp, rfl⟩ := List.mem_map.mp hm
    rw [(X.own p hp).2] at e; cases e
  have up : ∀ b o, h₀.get? b = some o → (hideAll h ads).get? b = some o := fun b o e => hideAll_get _ (X.keep b o e) (n0 b o e)
  have cnd : (cells.map (·.1)).Nodup ∧ ∀ b ∈ cells.map (·.1), h.objs.size < b := by
    have e : cells.map (·.1) = (cellsFrom (h.objs.size + 1) scope.names []).map (·.2) := cellsAre_addrs Y
    refine ⟨e ▸ List.pairwise_map.mpr x.apart, fun b hb => ?_⟩
    rw [e] at hb
    obtain ⟨q, hq, rfl⟩ := List.mem_map.mp hb
    exact x.above q.1 q.2 hq
  have X' : St (hideAll h ads) h.objs.size (bindL (envOfC qual scope h.objs.size f cdv).kindOf binds fun _ => none) (cells ++ news) h₁ := by
    have pm : (hid ++ (cells ++ news)).Perm (cells ++ (hid ++ news)) := by rw [← List.append_assoc, ← List.append_assoc]; exact List.perm_append_comm.append_right news
    refine ⟨hid, HH.mono fun p h _ => List.mem_append_right _ h, St0.perm (led := cells ++ (hid ++ news)) ⟨hns, fun b o e => hk₁ b o (of_hideAll _ e), ?_, fun p hp => ?_, ?_⟩ pm.symm⟩
    · cases q : (hideAll h ads).get? h.objs.size with
      | none => rfl
      | some o => exact absurd (Heap.lt_size (of_hideAll _ q)) (Nat.lt_irrefl _)
    · rcases List.mem_append.mp hp with hp | hp
      · refine ⟨(NC p hp).1, ?_⟩
        cases q : (hideAll h ads).get? p.1 with
        | none => rfl
        | some o => have := of_hideAll _ q; rw [(NC p hp).2.2] at this; cases this
      · exact ⟨hk₁ _ _ (X.own p hp).1, hideAll_none _ (List.mem_map.mpr ⟨p, hp, rfl⟩)⟩
    · have lt : ∀ b ∈ (hid ++ news).map (·.1), b < h.objs.size := fun b hb => by
        obtain ⟨p, hp, rfl⟩ := List.mem_map.mp hb
        exact Heap.lt_size (X.own p hp).1
      rw [List.map_append]
      refine List.nodup_cons.mpr ⟨fun q => ?_, List.nodup_append.mpr ⟨cnd.1, h1.2, fun b hb c hc e => ?_⟩⟩
      · rcases List.mem_append.mp q with q | q
        · exact Nat.lt_irrefl _ (cnd.2 _ q)
        · exact Nat.lt_irrefl _ (lt _ q)
      · exact Nat.lt_irrefl _ (Nat.lt_trans (e ▸ lt c hc : b < h.objs.size) (cnd.2 b hb))
  have hb := H (hideAll h ads) h.objs.size h₁ cells (W.keeps up) up X' Y
  refine wpAny_mono (hb _) (fun fl s' ⟨h', tk', e, m', news', S', k⟩ => ?_) fun _ _ f => f.elim
  subst e
  obtain ⟨hid', HH', S'⟩ := S'
  obtain ⟨oL, es, ep, hL, rL⟩ := X.ns
  have hLg : (hideAll h ads).get? L = some oL := hideAll_get _ hL nL
  refine T.fin (k ⟨hid', HH', ⟨oL, es, ep, S'.keep _ _ hLg, rL⟩, fun b o e => S'.keep b o (up b o e), X.apart, fun p hp => ⟨(S'.own p hp).1, ?_⟩, ?_⟩)
  · cases q : h₀.get? p.1 with
    | none => rfl
    | some o => have := (S'.own p hp).2; rw [up _ _ q] at this; cases this
  · refine List.nodup_cons.mpr ⟨fun q => ?_, (List.nodup_cons.mp S'.nodup).2⟩
    obtain ⟨p, hp, e⟩ := List.mem_map.mp q
    have := (S'.own p hp).2
    rw [e, hLg] at this; cases this
end
end Mine
end
section
open PySem PySem.W PySem.Calls PyProof.Rows
namespace Mine
section
variable {w : World} {M : Model} {A : Around} {S : Shared} {h₀ h : Heap} {L : Addr} {m : Str → Option Value} {news : List (Addr × Obj)} {env : Env} {P : Value → Heap → Prop} {x : Str} {v : Value} {pos : Pos}
theorem T_local (X : St h₀ env.locals m news h) (hv : m x = some v) (hk : env.scope.kind = .function) (hl : env.kindOf x = some .local) (hd : (x == ("__debug__" : Str)) = false) (p : P v h) :
    T M A S (eval (.Name x pos) env) h P := fun _ => wpAny_Name (wpAny_loadName_local hk hl X.ns hv (T.fin p)) hd
theorem T_load (X : St h₀ env.locals m news h) (hv : m x = some v) (hk : env.scope.kind = .function) (hl : env.kindOf x = some .local) (p : P v h) :
    T M A S (loadName env x) h P := fun _ => wpAny_loadName_local hk hl X.ns hv (T.fin p)
theorem T_global (W : Wd w h₀) (X : St h₀ L m news h) (e : nsIn (hd.heap_39 w.params) mainGlobals x = some (some v)) (hk : env.scope.kind = .function) (hl : env.kindOf x = some .globalImplicit)
    (hg : env.globals = mainGlobals) (hd : (x == ("__debug__" : Str)) = false) (p : P v h) : T M A S (eval (.Name x pos) env) h P := fun _ =>
  let ⟨_, _, _, mg, mb, t⟩ := W.T
  Name_function_global hk hl (loadGlobal_global (by rw [hg]; exact t.g.keeps X.keep) (mg_of W.X t.g e) (T.fin p)) hd
theorem T_builtin (W : Wd w h₀) (X : St h₀ L m news h) (e : nsIn (hd.heap_39 w.params) mainGlobals x = some none) (hv : bootBuiltins x = some v) (hn : x ≠ "__name__") (hk : env.scope.kind = .function) (hl : env.kindOf x = some .globalImplicit)
    (hg : env.globals = mainGlobals) (hb : env.builtins = builtinsNs) (hd : (x == ("__debug__" : Str)) = false) (p : P v h) : T M A S (eval (.Name x pos) env) h P := fun _ =>
  let ⟨_, _, _, mg, mb, t⟩ := W.T
  Name_function_global hk hl (loadGlobal_builtin (by rw [hg]; exact t.g.keeps X.keep) (mg_none_of W.X t.g e) (by rw [hb]; exact t.b.keeps X.keep) ((t.builtins x hn).trans hv) (T.fin p)) hd
theorem T_cell {c : Addr} {o : Obj} (ho : h.get? c = some o) (hv : o.data = .cell (some v)) (hc : env.cells.lookup x = some c) (hk : env.scope.kind = .function) (hl : env.kindOf x = some .cell) (hd : (x == ("__debug__" : Str)) = false) (p : P v h) :
    T M A S (eval (.Name x pos) env) h P := fun _ => wpAny_Name (wpAny_loadName_cell hk hl hc ⟨o, ho, hv⟩ (T.fin p)) hd
theorem T_free {c : Addr} {o : Obj} (ho : h.get? c = some o) (hv : o.data = .cell (some v)) (hc : env.cells.lookup x = some c) (hk : env.scope.kind = .function) (hl : env.kindOf x = some .free) (hd : (x == ("__debug__" : Str)) = false)
    (hn : (x == ("__classdict__" : Str)) = false) (p : P v h) : T M A S (eval (.Name x pos) env) h P := fun _ => wpAny_Name (wpAny_loadName_free hk hl hc ⟨o, ho, hv⟩ (T.fin p) hn) hd
theorem T_store {P : Unit → Heap → Prop} (X : St h₀ env.locals m news h) (hk : env.scope.kind = .function) (hl : env.kindOf x = some .local)
    (H : ∀ h', St h₀ env.locals (fun y => if y = x then some v else m y) news h' → P () h') : T M A S (storeName env x v) h P := fun _ =>
  wpAny_storeName_local hl X.ns (fun h' hn hs => T.fin (H h' (X.setL hn hs.extBut))) (by rw [hk]; rfl)
theorem T_storeC {P : Unit → Heap → Prop} {c : Addr} {o : Obj} {v₀ : Option Value} (X : St h₀ L m ((c, o) :: news) h) (hv : o.data = .cell v₀) (hc : env.cells.lookup x = some c) (hk : env.scope.kind = .function) (hl : env.kindOf x = some .cell)
    (H : ∀ h' o', o'.data = .cell (some v) → St h₀ L m ((c, o') :: news) h' → P () h') : T M A S (storeName env x v) h P := fun _ =>
  wpAny_storeName_cell hk hl hc ⟨o, X.get (.head _), hv⟩ fun h' ⟨o', ho', hd'⟩ hs => T.fin (H h' o' hd' (X.setAt ho' hs.extBut (fun vs q => by rw [hv] at q; cases q)))
end
section
variable {w : World} {prog : Program} {A : Around} {S : Shared} {h₀ h : Heap} {L : Addr} {m : Str → Option Value} {news : List (Addr × Obj)} {env : Env} {P : Value → Heap → Prop} {a b : Int} {t u : Tok} {x y : Str}
theorem T_add (p : ∀ t', P (.int (a + b) t') h) : T (model prog w) A S (binaryOp .Add (.int a t) (.int b u)) h P := fun tk => add_int (T.fin (p tk))
theorem T_sub (p : ∀ t', P (.int (a - b) t') h) : T (model prog w) A S (binaryOp .Sub (.int a t) (.int b u)) h P := fun tk => PyProof.Rows.sub_int (T.fin (p tk))
theorem T_mul (hm : IntMulOk a b) (p : ∀ t', P (.int (a * b) t') h) : T (model prog w) A S (binaryOp .Mult (.int a t) (.int b u)) h P := fun tk => PyProof.Rows.mul_int (T.fin (p tk)) hm
theorem T_iadd (p : ∀ t', P (.int (a + b) t') h) : T (model prog w) A S (inplaceOp .Add (.int a t) (.int b u)) h P := fun tk => AutoIntOps.iadd_0 (T.fin (p tk))
theorem T_isub (p : ∀ t', P (.int (a - b) t') h) : T (model prog w) A S (inplaceOp .Sub (.int a t) (.int b u)) h P := fun tk => AutoIntOps.isub_0 (T.fin (p tk))
theorem T_mod (hb : b ≠ 0) (p : ∀ t', P (.int (a.fmod b) t') h) : T (model prog w) A S (binaryOp .Mod (.int a t) (.int b u)) h P := fun tk => AutoIntOps.mod_1 (by simpa using hb) (T.fin (p tk))
theorem T_fdiv (hb : b ≠ 0) (hp : Builtin.divisionGoesByPylong a b = false) (p : ∀ t', P (.int (a.fdiv b) t') h) : T (model prog w) A S (binaryOp .FloorDiv (.int a t) (.int b u)) h P := fun tk => AutoIntOps.floordiv_1 (by simpa using hb) (by simp [hp]) (T.fin (p tk))
theorem T_rshift (hb : 0 ≤ b) (p : ∀ t', P (.int (a.fdiv (2 ^ b.toNat)) t') h) : T (model prog w) A S (binaryOp .RShift (.int a t) (.int b u)) h P := fun tk => rshift_int hb (T.fin (p tk))
theorem T_xor (p : ∀ t', P (.int (Builtin.bitXor a b) t') h) : T (model prog w) A S (binaryOp .BitXor (.int a t) (.int b u)) h P := fun tk => xor_int (T.fin (p tk))
theorem T_pow (hn : 0 ≤ b) (hsz : (Builtin.Int.intBits a : Int) * b ≤ 2 ^ 27) (p : ∀ t', P (.int (a ^ b.toNat) t') h) : T (model prog w) A S (binaryOp .Pow (.int a t) (.int b u)) h P := fun tk => pow_int hn hsz (T.fin (p tk))
theorem T_eq_int (p : P (.bool (a == b)) h) : T (model prog w) A S (compareOp .Eq (.int a t) (.int b u)) h P := fun _ => PyProof.Rows.eq_int (T.fin p)
theorem T_ne_int (p : P (.bool (a != b)) h) : T (model prog w) A S (compareOp .NotEq (.int a t) (.int b u)) h P := fun _ => PyProof.Rows.ne_int (T.fin p)
theorem T_lt_int (p : P (.bool (decide (a < b))) h) : T (model prog w) A S (compareOp .Lt (.int a t) (.int b u)) h P := fun _ => PyProof.Rows.lt_int (T.fin p)
theorem T_le_int (p : P (.bool (decide (a ≤ b))) h) : T (model prog w) A S (compareOp .LtE (.int a t) (.int b u)) h P := fun _ => PyProof.Rows.le_int (T.fin p)
theorem T_eq_str (p : P (.bool (x == y)) h) : T (model prog w) A S (compareOp .Eq (.str x t) (.str y u)) h P := fun _ => PyProof.Rows.eq_str (T.fin p)
theorem T_neg (p : ∀ t', P (.int (-a) t') h) : T (model prog w) A S (unaryOp .USub (.int a t)) h P := fun tk => PyProof.Rows.neg_int (T.fin (p tk))
theorem T_UnaryOp {op : UnaryOp} {e : Expr} {pos : Pos} (H : T (model prog w) A S (eval e env) h fun v h₁ => T (model prog w) A S (unaryOp op v) h₁ P) : T (model prog w) A S (eval (.UnaryOp op e pos) env) h P :=
  fun _ => wpAny_UnaryOp (H.use fun _ _ tk₁ H₁ => H₁ tk₁)
theorem T_getMethod_lower {P : Value × List Value → Heap → Prop} {pl : Sem Bool} (p : P (.builtin "str.lower", [.str x t]) h) : T (model prog w) A S (getMethod (.str x t) (Str.ofString "lower") pl) h P := fun _ => by with_reducible exact GM.lower (T.fin p)
theorem T_lower (hx : x.length ≤ 5592405) (p : ∀ t', P (.str (Txt.lower x) t') h) : T (model prog w) A S (call (.builtin "str.lower") [.str x t]) h P := fun tk => SCL.lower hx fun _ => T.fin (p tk)
theorem T_getMethod_bits {P : Value × List Value → Heap → Prop} {pl : Sem Bool} (p : P (.builtin "int.bit_length", [.int a t]) h) : T (model prog w) A S (getMethod (.int a t) (Str.ofString "bit_length") pl) h P := fun _ => by with_reducible exact getMethod_int_bit_length (T.fin p)
theorem T_bits (p : ∀ t', P (.int (Builtin.Int.intBits a) t') h) : T (model prog w) A S (call (.builtin "int.bit_length") [.int a t]) h P := fun tk => call_int_bit_length (T.fin (p tk))
end
end Mine
end
section
open PySem PySem.W PySem.Calls PyProof.Rows
namespace Mine
/-- what follows a statement -/
def Cont (M : Model) (A : Around) (S : Shared) (env : Env) (rest : List Stmt) (P : Flow → Heap → Prop) : Flow → Heap → Prop := fun f h' => match f with | .next => T M A S (execs rest env) h' P | f => P f h'
section
variable {M : Model} {A : Around} {S : Shared} {env : Env} {h : Heap} {rest : List Stmt} {P : Flow → Heap → Prop}
theorem C_ret {v : Value} (p : P (.ret v) h) : Cont M A S env rest P (.ret v) h := p
theorem C_next (p : T M A S (execs rest env) h P) : Cont M A S env rest P .next h := p
theorem C_brk (p : P .brk h) : Cont M A S env rest P .brk h := p
theorem C_cont (p : P .cont h) : Cont M A S env rest P .cont h := p
theorem T_c {st : Stmt} (H : T M A S (exec st env) h (Cont M A S env rest P)) : T M A S (execs (st :: rest) env) h P := T_cons (H.mono fun f h' p => by cases f <;> exact p)
theorem T_cAssign {x : Str} {pos' pos : Pos} {value : Expr}
    (H : T M A S (eval value env) h fun v h₁ => T M A S (storeName env x v) h₁ fun _ h₂ => T M A S (execs rest env) h₂ P)
    (hs : swapsWith value (some (.Name x pos')) pos.line env = pure false) : T M A S (execs (.Assign [.Name x pos'] value pos :: rest) env) h P := T_c (T_Assign H hs)
theorem T_cAug {x : Str} {pos' pos : Pos} {op : Operator} {value : Expr}
    (H : T M A S (loadName env x) h fun old h₁ => T M A S (eval value env) h₁ fun v h₂ => T M A S (inplaceOp op old v) h₂ fun r h₃ => T M A S (storeName env x r) h₃ fun _ h₄ => T M A S (execs rest env) h₄ P) :
    T M A S (execs (.AugAssign (.Name x pos') op value pos :: rest) env) h P := T_c (T_AugAssign H)
theorem T_cReturn {e : Expr} {pos : Pos} (H : T M A S (eval e env) h fun v h' => P (.ret v) h') : T M A S (execs (.Return (some e) pos :: rest) env) h P := T_c (T_Return H)
theorem T_cReturn0 {pos : Pos} (p : P (.ret .none) h) : T M A S (execs (.Return none pos :: rest) env) h P := T_c (T_Return0 p)
theorem T_cIf {test : Expr} {body orelse : List Stmt} {pos : Pos}
    (H : T M A S (isTrue test env (eval test env)) h fun b h₂ => if b then T M A S (execs body env) h₂ (Cont M A S env rest P) else T M A S (execs orelse env) h₂ (Cont M A S env rest P)) :
    T M A S (execs (.If test body orelse pos :: rest) env) h P := T_c (T_If H)
theorem T_cIf0 {test : Expr} {body : List Stmt} {pos : Pos}
    (H : T M A S (isTrue test env (eval test env)) h fun b h₂ => if b then T M A S (execs body env) h₂ (Cont M A S env rest P) else T M A S (execs rest env) h₂ P) :
    T M A S (execs (.If test body [] pos :: rest) env) h P := T_cIf (H.mono fun b h₂ p => by
      cases b
      · exact T_nil (C_next p)
      · exact p)
end
end Mine
end
section
open PySem PySem.W PySem.Calls PyProof.Rows
namespace Mine
section
variable {w : World} {prog : Program} {A : Around} {S : Shared} {env : Env} {h₀ h h₁ h₂ : Heap} {m : Str → Option Value} {news : List (Addr × Obj)}
theorem loop_code {x : Str} {px : Pos} {body : List Stmt} {I : Addr} {fp : List Addr} {n : Nat} {Pv : Nat → Value → Prop} {Sti : Nat → Heap → Prop} {R : Result → Shared → Prop} {tk : Nat}
    (W : Walks prog w A I fp [I] n Pv Sti) (hlive : ∀ i h, Sti i h → h.get? I ≠ none) (hx : env.kindOf x = some .local) (hk : env.scope.kind = .function) (hst : Sti 0 h₂) (hI : h₁.get? I = none) (X : St h₀ env.locals m news h₁)
    (k12 : ∀ b o, h₁.get? b = some o → h₂.get? b = some o) (hfp : ∀ b ∈ fp, b = I ∨ ∃ o, h₀.get? b = some o)
    (J : Nat → (Str → Option Value) → List (Addr × Obj) → Prop) (h0 : J 0 m news)
    (step : ∀ i v m₁ news₁ g h, i < n → Pv i v → J i m₁ news₁ → (∀ b o, h₀.get? b = some o → g.get? b = some o) → St g env.locals (fun y => if y = x then some v else m₁ y) news₁ h →
      T (model prog w) A S (execs body env) h fun f h' => (f = .next ∨ f = .cont) ∧ ∃ m₂ news₂, St g env.locals m₂ news₂ h' ∧ J (i + 1) m₂ news₂)
    (done : ∀ m' news' h' tk', J n m' news' → St h₀ env.locals m' news' h' → R (.ok .next) { S with heap := h', toks := tk' }) :
    codeAny (model prog w) A (.forLoop (.Name x px) (.ref I) body [] env) R { S with heap := h₂, toks := tk } := by
  have n0 : h₀.get? I = none := by
    cases q : h₀.get? I with
    | none => rfl
    | some o => rw [X.keep _ _ q] at hI; cases hI
  obtain ⟨hid, HH, X⟩ := X
  have nI : I ∉ env.locals :: (hid ++ news).map (·.1) := fun q => X.live q hI
  refine codeAny_forLoop
    (fun k s' => ∃ h' tk m' news' i hid, s' = { S with heap := h', toks := tk } ∧ Sti i h' ∧ Hid hid news' ∧ St0 h₀ env.locals m' (hid ++ news') h' ∧ I ∉ env.locals :: (hid ++ news').map (·.1) ∧ J i m' news' ∧ i ≤ n ∧ k = n + 1 - i) ?_ (n + 1)
    ⟨h₂, tk, m, news, 0, hid, rfl, hst, HH, X.keeps k12, nI, h0, Nat.zero_le _, rfl⟩
  rintro k s' ⟨h', tk', m', news', i, hid', rfl, hst', HH', X', nI', hJ, hi, rfl⟩
  have nx : ∀ h₃ : Heap, (∀ b o, b ∉ [I] → h'.get? b = some o → h₃.get? b = some o) → St0 h₀ env.locals m' (hid' ++ news') h₃ := fun h₃ hk₃ =>
    X'.extBut (fun b o hb e => hk₃ b o (by simpa using hb) e) nI' n0
  by_cases hlt : i < n
  · refine W.item i _ _ _ hlt hst' fun v h₃ tk₃ hP hst₃ hk₃ => ?_
    have X₃ := nx h₃ hk₃
    refine wpAny_assign_Name (wpAny_storeName_local hx X₃.ns (fun h₄ hn₄ hs₄ => ?_) (by rw [hk]; rfl))
    have X₄ := X₃.setL hn₄ hs₄.extBut
    obtain ⟨g, g1, _, g3, g4, g5⟩ := St0.freeze (fr := []) (led := hid' ++ news') (by rw [List.append_nil]; exact X₄)
    have nb : ∀ b ∈ fp, b ∉ env.locals :: (hid' ++ news').map (·.1) := fun b hb => by
      rcases hfp b hb with rfl | ⟨o, ho⟩
      · exact nI'
      · intro hm
        rcases List.mem_cons.mp hm with q | q
        · rw [q, X.apart] at ho; cases ho
        · obtain ⟨p, hp, rfl⟩ := List.mem_map.mp q
          rw [(X'.own p hp).2] at ho; cases ho
    have up : ∀ h₅ m₂ led₂, St0 g env.locals m₂ led₂ h₅ → ∀ b ∈ fp, ∀ o, h₃.get? b = some o → g.get? b = some o := fun h₅ m₂ led₂ X₅ b hb o e =>
      g4 b o (hs₄.extBut b o (fun q => nb b hb (q ▸ .head _)) e) (nb b hb)
    refine (step i v m' news' g h₄ hlt hP hJ g1 ⟨hid', HH', g3⟩).use fun f h₅ tk₅ ⟨hf, m₂, news₂, ⟨hid₂, HH₂, X₅⟩, hJ₂⟩ => ?_
    have stn : Sti (i + 1) h₅ := W.frame _ _ _ hst₃ fun b hb o e => X₅.keep _ _ (up h₅ m₂ _ X₅ b hb o e)
    have inv : ∃ k, k < n + 1 - i ∧ ∃ h' tk m' news' i hid, ({ S with heap := h₅, toks := tk₅ } : Shared) = { S with heap := h', toks := tk } ∧ Sti i h' ∧ Hid hid news' ∧ St0 h₀ env.locals m' (hid ++ news') h' ∧ I ∉ env.locals :: (hid ++ news').map (·.1) ∧ J i m' news' ∧ i ≤ n ∧ k = n + 1 - i := by
      have back := g5 _ _ _ X₅
      rw [List.append_nil] at back
      refine ⟨n + 1 - (i + 1), by omega, h₅, tk₅, m₂, news₂, i + 1, hid₂, rfl, stn, HH₂, back, fun q => ?_, hJ₂, hlt, rfl⟩
      have hI₃ : ∃ o, g.get? I = some o := by
        cases q2 : h₃.get? I with
        | none => exact absurd q2 (hlive _ _ hst₃)
        | some o => exact ⟨o, up h₅ m₂ _ X₅ I (W.sub I (by simp)) o q2⟩
      obtain ⟨o, ho⟩ := hI₃
      rcases List.mem_cons.mp q with q | q
      · rw [q, X₅.apart] at ho; cases ho
      · obtain ⟨p, hp, e⟩ := List.mem_map.mp q
        rw [← e, (X₅.own p hp).2] at ho; cases ho
    rcases hf with rfl | rfl <;> exact inv
  · have hin : i = n := by omega
    subst hin
    refine W.done _ _ _ hst' fun h₃ tk₃ hk₃ => wpAny_execs_nil ?_
    exact done m' news' h₃ tk₃ hJ ⟨hid', HH', nx h₃ hk₃⟩
theorem T_cFor {x : Str} {px pos : Pos} {iter : Expr} {body rest : List Stmt} {P : Flow → Heap → Prop} (hx : env.kindOf x = some .local) (hk : env.scope.kind = .function) (hs : ∀ v, foldedSetIterable iter env v = pure v)
    (H : T (model prog w) A S (eval iter env) h fun xv h₁ => T (model prog w) A S (pyIter xv) h₁ fun it h₂ => ∃ I fp n Pv Sti h₀ h₁' m news, ∃ J : Nat → (Str → Option Value) → List (Addr × Obj) → Prop,
      it = .ref I ∧ Walks prog w A I fp [I] n Pv Sti ∧ (∀ i h, Sti i h → h.get? I ≠ none) ∧ Sti 0 h₂ ∧ h₁'.get? I = none ∧ St h₀ env.locals m news h₁' ∧
      (∀ b o, h₁'.get? b = some o → h₂.get? b = some o) ∧ (∀ b ∈ fp, b = I ∨ ∃ o, h₀.get? b = some o) ∧ J 0 m news ∧
      (∀ i v m₁ news₁ g h, i < n → Pv i v → J i m₁ news₁ → (∀ b o, h₀.get? b = some o → g.get? b = some o) → St g env.locals (fun y => if y = x then some v else m₁ y) news₁ h →
        T (model prog w) A S (execs body env) h fun f h' => (f = .next ∨ f = .cont) ∧ ∃ m₂ news₂, St g env.locals m₂ news₂ h' ∧ J (i + 1) m₂ news₂) ∧
      ∀ m' news' h', J n m' news' → St h₀ env.locals m' news' h' → T (model prog w) A S (execs rest env) h' P) :
    T (model prog w) A S (execs (.For (.Name x px) iter body [] pos :: rest) env) h P := by
  refine T_c fun tk => wpAny_For (H.use fun xv h₁ tk₁ H₁ => H₁.use fun it h₂ tk₂ H₂ => ?_) hs
  obtain ⟨I, fp, n, Pv, Sti, h₀, h₁', m, news, J, rfl, W, hlive, hst, hI, X, k12, hfp, h0, step, done⟩ := H₂
  exact loop_code W hlive hx hk hst hI X k12 hfp J h0 step fun m' news' h' tk' hJ X' => T.fin (C_next (done m' news' h' hJ X'))
/-- a for over range(a, b) -/
theorem T_forRange {x : Str} {px pos : Pos} {iter : Expr} {body rest : List Stmt} {P : Flow → Heap → Prop} {L : Addr} (hh : A.handled = none) (hx : env.kindOf x = some .local) (hk : env.scope.kind = .function) (hs : ∀ v, foldedSetIterable iter env v = pure v)
    (J : Nat → (Str → Option Value) → List (Addr × Obj) → Prop)
    (H : T (model prog w) A S (eval iter env) h fun xv h₁ => ∃ r a b t u v m, xv = .ref r ∧ IsRange h₁ r a b 1 t u v ∧ (-(2 ^ 62) ≤ a ∧ a < 2 ^ 62 ∧ -(2 ^ 62) ≤ b ∧ b < 2 ^ 62) ∧ St h₀ env.locals m news h₁ ∧ J 0 m news ∧
      (∀ (i : Nat) t' m₁ news₁ g h, a + i < b → J i m₁ news₁ → (∀ b o, h₀.get? b = some o → g.get? b = some o) → St g env.locals (fun y => if y = x then some (.int (a + i) t') else m₁ y) news₁ h →
        T (model prog w) A S (execs body env) h fun f h' => (f = .next ∨ f = .cont) ∧ ∃ m₂ news₂, St g env.locals m₂ news₂ h' ∧ J (i + 1) m₂ news₂) ∧
      ∀ m' news' h', J (b - a).toNat m' news' → St h₀ env.locals m' news' h' → T (model prog w) A S (execs rest env) h' P) :
    T (model prog w) A S (execs (.For (.Name x px) iter body [] pos :: rest) env) h P := by
  refine T_cFor hx hk hs (H.mono fun xv h₁ ⟨r, a, b, t, u, v, m, e, hr, hb, X, h0, step, done⟩ => ?_)
  subst e
  intro tk
  refine wpAny_pyIter_range hr (small_one hb.1 hb.2.1 hb.2.2.1 hb.2.2.2) ⟨_, _, rfl, ?_⟩
  have hn : Builtin.Range.rangeSize a b 1 = (((b - a).toNat : Nat) : Int) := by rw [rangeSize_one]; split <;> omega
  refine ⟨h₁.objs.size, [h₁.objs.size], (b - a).toNat, _, _, h₀, h₁, m, news, J, rfl, Walks.range hh _ a 1 _, fun i h e => by rw [e]; nofun, ?_, Heap.get?_none_of_le (Nat.le_refl _), X, fun b o e => Heap.get?_push_of_some _ e, fun b hb => .inl (List.mem_singleton.mp hb), h0, ?_, done⟩
  · show IsRangeIter _ _ _ _ _
    rw [hn]
    simpa using Heap.get?_push_size _ rfl
  · rintro i v m₁ news₁ g h hi ⟨t', rfl⟩ hJ k X₁
    rw [Int.mul_one] at X₁
    exact step i t' m₁ news₁ g h (by omega) hJ k X₁
end
end Mine
end
section
open PySem PySem.W PySem.Calls PyProof.Rows
namespace Mine
/-- room for k frames more -/
def Rm (A : Around) (k : Nat) : Prop := A.handled = none ∧ A.depth + k < recursionLimit ∧ A.units + 3 * k + 64 < cLine
theorem Rm.deeper {A : Around} {k : Nat} (r : Rm A (k + 1)) (env : Env) : Rm (A.deeper env) k :=
  ⟨r.1, by have := r.2.1; show A.depth + 1 + k < recursionLimit; omega, by have := r.2.2; show A.units + 3 + 3 * k + 64 < cLine; omega⟩
theorem Rm.le {A : Around} {k j : Nat} (r : Rm A k) (h : j ≤ k) : Rm A j := ⟨r.1, by have := r.2.1; omega, by have := r.2.2; omega⟩
theorem Rm.room {A : Around} {k : Nat} (r : Rm A k) : A.depth < recursionLimit := by have := r.2.1; omega
abbrev lst (vs : List Value) (n : Nat := 0) : Obj := { cls := .type "list", data := .seq vs.toArray n }
theorem lst_is {h : Heap} {a : Addr} {vs : List Value} {n : Nat} (e : h.get? a = some (lst vs n)) : h.IsList a vs.toArray := ⟨_, e, rfl, n, rfl⟩
theorem lst_plain {h : Heap} {a : Addr} {vs : List Value} {n : Nat} (e : h.get? a = some (lst vs n)) : h.PlainList a vs.toArray := ⟨n, e⟩
section
variable {w : World} {prog : Program} {A : Around} {S : Shared} {h₀ h : Heap} {L : Addr} {m : Str → Option Value} {news : List (Addr × Obj)} {env : Env} {P : Value → Heap → Prop} {a b : Int} {t u : Tok} {x y : Str} {l : Addr} {vs us : List Value} {n n' : Nat}
theorem T_lshift (hn : 0 ≤ b) (hsz : (Builtin.Int.intBits a : Int) + b ≤ 2 ^ 27) (p : ∀ t', P (.int (a * 2 ^ b.toNat) t') h) : T (model prog w) A S (binaryOp .LShift (.int a t) (.int b u)) h P := fun tk => lshift_int hn hsz (T.fin (p tk))
theorem T_len_list (hl : h.get? l = some (lst vs n)) (hfit : vs.length < 2 ^ 62) (p : ∀ t', P (.int vs.length t') h) : T (model prog w) A S (call (.builtin "len") [.ref l]) h P :=
  fun tk => PyProof.Rows.len_list (lst_is hl) (by simp only [List.size_toArray]; omega) (by simp only [List.size_toArray]; exact T.fin (p _))
theorem T_len_str (hfit : x.length < 2 ^ 62) (p : ∀ t', P (.int x.length t') h) : T (model prog w) A S (call (.builtin "len") [.str x t]) h P := fun tk => PyProof.Rows.len_str (by omega) (T.fin (p _))
theorem T_item_list {value slice : Expr} {v : Value} (hl : h.get? l = some (lst vs n)) (h0 : 0 ≤ b) (hfit : b < 2 ^ 63) (hx : vs[b.toNat]? = some v) (p : P v h)
    (hs : subscripted slice false (.ref l) (.int b u) = operate [.ref l, .int b u] (getItem (.ref l) (.int b u)) := by with_unfolding_all rfl) :
    T (model prog w) A S (subscriptTail value slice (.ref l) (.int b u)) h P := fun _ => tail_any (lst_is hl).typeIs slot_list_getitem.lookup (wpAny_getItem_list (lst_is hl) h0 hfit (by simpa using hx) (T.fin p)) hs
theorem T_item_list_neg {value slice : Expr} {v : Value} (hl : h.get? l = some (lst vs n)) (h0 : b < 0) (h1 : -(vs.length : Int) ≤ b) (hfit : -(2 ^ 63) ≤ b) (hx : vs[(b + vs.length).toNat]? = some v) (p : P v h)
    (hs : subscripted slice false (.ref l) (.int b u) = operate [.ref l, .int b u] (getItem (.ref l) (.int b u)) := by with_unfolding_all rfl) :
    T (model prog w) A S (subscriptTail value slice (.ref l) (.int b u)) h P := fun _ => tail_any (lst_is hl).typeIs slot_list_getitem.lookup (wpAny_getItem_list_neg (lst_is hl) h0 (by simpa using h1) hfit (by simpa using hx) (T.fin p)) hs
theorem T_item_str {value slice : Expr} {c : Nat} (h0 : 0 ≤ b) (hfit : b < 2 ^ 63) (hc : x.cps[b.toNat]? = some c) (p : ∀ t', P (.str ⟨#[c]⟩ t') h)
    (hs : subscripted slice false (.str x t) (.int b u) = operate [.str x t, .int b u] (getItem (.str x t) (.int b u)) := by with_unfolding_all rfl) :
    T (model prog w) A S (subscriptTail value slice (.str x t) (.int b u)) h P := fun tk => tail_any (typeIs_str _ x t) slot_str_getitem.lookup (PyProof.Rows.getItem_str (by simp; omega) (by
      obtain ⟨j, rfl⟩ := Int.eq_ofNat_of_zero_le h0
      have hj : j < x.cps.size := by
        have := (Array.getElem?_eq_some_iff.mp hc).1
        simpa using this
      have e : seqIndex? ((j : Nat) : Int) x.length = some j := by
        unfold seqIndex? Str.length
        simp; omega
      rw [e]; simpa using hc) (T.fin (p tk))) hs
theorem T_in_str (p : P (.bool (Txt.contains y x)) h) : T (model prog w) A S (compareOp .In (.str x t) (.str y u)) h P := fun _ => SB.contains (T.fin p)
theorem T_IfExp {test body orelse : Expr} {pos : Pos} (H : T (model prog w) A S (isTrue test env (eval test env)) h fun b h₂ => if b then T (model prog w) A S (eval body env) h₂ P else T (model prog w) A S (eval orelse env) h₂ P) :
    T (model prog w) A S (eval (.IfExp test body orelse pos) env) h P := fun _ => IfExp_ (H.use fun b _ tk' H' => by cases b <;> exact H' tk')
theorem T_isTrue_plain {e : Expr} {whole : Sem Value} {P : Bool → Heap → Prop} (H : T (model prog w) A S whole h fun v h₁ => T (model prog w) A S (truthy v) h₁ P)
    (he : isTrue e env whole = (do let v ← whole; standAt e.pos; holding [v] (truthy v))) : T (model prog w) A S (isTrue e env whole) h P := fun _ => isTrue_plain (H.use fun _ _ tk₁ H₁ => H₁ tk₁) he
theorem T_truthy_list {P : Bool → Heap → Prop} (hl : h.get? l = some (lst vs n)) (hfit : vs.length < 2 ^ 62) (p : P (!vs.isEmpty) h) : T (model prog w) A S (truthy (.ref l)) h P :=
  fun _ => wpAny_truthy_list (lst_is hl) (by simp only [List.size_toArray]; omega) (by
    have e : (!vs.toArray.isEmpty) = !vs.isEmpty := by simp
    rw [e]; exact T.fin p)
theorem T_truthy_int {P : Bool → Heap → Prop} (p : P (a != 0) h) : T (model prog w) A S (truthy (.int a t)) h P := fun _ => PyProof.Rows.truthy_int (T.fin p)
theorem T_isTrue_and {e : Expr} {rest : List Expr} {pos : Pos} {whole : Sem Value} {P : Bool → Heap → Prop} (H : T (model prog w) A S (isTrue e env (eval e env)) h fun c h' => if c then T (model prog w) A S (isTrue (.BoolOp .And rest pos) env whole) h' P else P false h') :
    T (model prog w) A S (isTrue (.BoolOp .And (e :: rest) pos) env whole) h P := fun _ => isTrue_and (H.use fun c _ tk' H' => by
      cases c
      · exact T.fin H'
      · exact H' tk')
theorem T_isTrue_and_nil {pos : Pos} {whole : Sem Value} {P : Bool → Heap → Prop} (p : P true h) : T (model prog w) A S (isTrue (.BoolOp .And [] pos) env whole) h P := fun _ => isTrue_and_nil (T.fin p)
theorem T_isTrue_or {e : Expr} {rest : List Expr} {pos : Pos} {whole : Sem Value} {P : Bool → Heap → Prop} (H : T (model prog w) A S (isTrue e env (eval e env)) h fun c h' => if c then P true h' else T (model prog w) A S (isTrue (.BoolOp .Or rest pos) env whole) h' P) :
    T (model prog w) A S (isTrue (.BoolOp .Or (e :: rest) pos) env whole) h P := fun _ => isTrue_or (H.use fun c _ tk' H' => by
      cases c
      · exact H' tk'
      · exact T.fin H')
theorem T_isTrue_or_nil {pos : Pos} {whole : Sem Value} {P : Bool → Heap → Prop} (p : P false h) : T (model prog w) A S (isTrue (.BoolOp .Or [] pos) env whole) h P := fun _ => isTrue_or_nil (T.fin p)
theorem T_BoolOp_and {e₁ e₂ : Expr} {rest : List Expr} {pos : Pos} (H : T (model prog w) A S (eval e₁ env) h fun v h₁ => T (model prog w) A S (truthy v) h₁ fun c h₂ => if c then T (model prog w) A S (eval (.BoolOp .And (e₂ :: rest) pos) env) h₂ P else P v h₂) :
    T (model prog w) A S (eval (.BoolOp .And (e₁ :: e₂ :: rest) pos) env) h P := fun _ => BoolOp_and (H.use fun _ _ _ H₁ => H₁.use fun c _ tk₂ H₂ => by
      cases c
      · exact T.fin H₂
      · exact H₂ tk₂)
theorem T_BoolOp_one {op : BoolOp} {e : Expr} {pos : Pos} (H : T (model prog w) A S (eval e env) h P) : T (model prog w) A S (eval (.BoolOp op [e] pos) env) h P := fun tk => BoolOp_one (H tk)
theorem T_isTrue_chain {e r₁ r₂ : Expr} {op₁ op₂ : CmpOp} {pos : Pos} {whole : Sem Value} {P : Bool → Heap → Prop}
    (H : T (model prog w) A S (eval e env) h fun va h₁ => T (model prog w) A S (eval r₁ env) h₁ fun vb h₂ => T (model prog w) A S (compareOp op₁ va vb) h₂ fun c h₃ => T (model prog w) A S (truthy c) h₃ fun t h₄ =>
      if t then T (model prog w) A S (eval r₂ env) h₄ fun vc h₅ => T (model prog w) A S (compareOp op₂ vb vc) h₅ fun c' h₆ => T (model prog w) A S (truthy c') h₆ P else P false h₄)
    (hm : lastMarks [op₁, op₂] [r₁, r₂] = false) : T (model prog w) A S (isTrue (.Compare e [op₁, op₂] [r₁, r₂] pos) env whole) h P := fun _ =>
  isTrue_chain (H.use fun _ _ _ H₁ => test_link (H₁.use fun _ _ _ H₂ => H₂.use fun _ _ _ H₃ => H₃.use fun t _ tk₄ H₄ => by
    cases t
    · exact T.fin H₄
    · exact test_last (H₄.use fun _ _ _ H₅ => H₅.use fun _ _ tk₆ H₆ => H₆ tk₆))) hm
theorem T_getMethod_append {P : Value × List Value → Heap → Prop} {pl : Sem Bool} (hl : h.get? l = some (lst vs n)) (p : P (.builtin "list.append", [.ref l]) h) : T (model prog w) A S (getMethod (.ref l) (Str.ofString "append") pl) h P :=
  fun _ => Calls.getMethod_list_append hl rfl rfl (T.fin p)
theorem T_append {v : Value} (X : St h₀ L m ((l, lst vs n) :: news) h) (hsz : vs.length < 2 ^ 20) (k : ∀ h' n', St h₀ L m ((l, lst (vs ++ [v]) n') :: news) h' → P .none h') : T (model prog w) A S (call (.builtin "list.append") [.ref l, v]) h P :=
  fun _ => wpAny_list_append_plain (lst_plain (X.get (.head _))) (fun h' ⟨n', e⟩ hs => T.fin (k h' n' (X.setAt (by rw [e]; simp [lst]) hs.extBut))) (by simp only [List.size_toArray]; rw [sizeLine_eq]; omega)
theorem T_List {elts : List Expr} {pos : Pos} (H : T (model prog w) A S (spliced (backTo pos (starEach elts env))) h fun vs h₁ => T (model prog w) A S (newList vs) h₁ P) : T (model prog w) A S (eval (.List elts pos) env) h P :=
  fun _ => List_ (H.use fun _ _ tk₁ H₁ => H₁ tk₁)
theorem T_newList (X : St h₀ L m news h) (hsz : vs.length < 2 ^ 20) (k : ∀ l h', St h₀ L m ((l, lst vs) :: news) h' → P (.ref l) h') : T (model prog w) A S (newList vs) h P :=
  fun _ => wpAny_newObj_type ⟨_, _, rfl, k _ _ (X.push (lst vs))⟩ (by show vs.toArray.size ≤ sizeLine; rw [List.size_toArray, sizeLine_eq]; omega)
theorem T_Tuple {elts : List Expr} {k : Nat} {pos : Pos} (H : T (model prog w) A S (spliced (backTo pos (starEach elts env))) h fun vs h₁ => T (model prog w) A S (newTuple vs) h₁ P) : T (model prog w) A S (eval (.Tuple elts k pos) env) h P :=
  fun _ => Tuple_ (H.use fun _ _ tk₁ H₁ => H₁ tk₁)
abbrev tup (vs : List Value) : Obj := { cls := .type "tuple", data := .seq vs.toArray }
theorem T_newTuple (X : St h₀ L m news h) (hsz : vs.length < 2 ^ 20) (k : ∀ l h', St h₀ L m ((l, tup vs) :: news) h' → P (.ref l) h') : T (model prog w) A S (newTuple vs) h P :=
  fun _ => wpAny_newObj_type ⟨_, _, rfl, k _ _ (X.push (tup vs))⟩ (by show vs.toArray.size ≤ sizeLine; rw [List.size_toArray, sizeLine_eq]; omega)
theorem T_divmod (X : St h₀ L m news h) (hb : b ≠ 0) (hp : Builtin.divisionGoesByPylong a b = false) (k : ∀ l h' t₁ t₂, St h₀ L m ((l, tup [.int (a.fdiv b) t₁, .int (a.fmod b) t₂]) :: news) h' → P (.ref l) h') :
    T (model prog w) A S (call (.builtin "divmod") [.int a t, .int b u]) h P := fun tk => divmod_int hb ⟨_, _, rfl, k _ _ _ _ (X.push (tup [.int (a.fdiv b) tk, .int (a.fmod b) (tk + 1)]))⟩ (.inl hp)
theorem T_range1 (X : St h₀ L m news h) (k : ∀ r h' t₁ t₂, St h₀ L m news h' → IsRange h' r 0 b 1 t₁ u t₂ → P (.ref r) h') : T (model prog w) A S (call (.type "range") [.int b u]) h P :=
  fun tk => call_range_1 ⟨_, _, rfl, k _ _ tk (tk + 1) (X.push _).tail (Heap.get?_push_size _ rfl)⟩
theorem T_range2 (X : St h₀ L m news h) (k : ∀ r h' t₂, St h₀ L m news h' → IsRange h' r a b 1 t u t₂ → P (.ref r) h') : T (model prog w) A S (call (.type "range") [.int a t, .int b u]) h P :=
  fun tk => call_range_2 ⟨_, _, rfl, k _ _ tk (X.push _).tail (Heap.get?_push_size _ rfl)⟩
theorem T_callWith_ty {ty : String} {pos : Pos} {e : Expr} {rest : List Expr}
    (H : T (model prog w) A S (spliced (backTo pos (starEach (e :: rest) env))) h fun vs h₁ => T (model prog w) A S (call (.type ty) vs) h₁ P)
    (he : starEach (e :: rest) env = (false, eval e env) :: starEach rest env) (hplain : (backTo pos (starEach rest env)).any (·.1) = false) :
    T (model prog w) A S (callWith pos (.type ty) [] (backTo pos (starEach (e :: rest) env)) []) h P :=
  fun _ => PyProof.Rows.callWith_type1 (H.use fun _ _ tk₁ H₁ => H₁ tk₁) he hplain
theorem T_cExpr {e : Expr} {pos : Pos} {rest : List Stmt} {P : Flow → Heap → Prop} (H : T (model prog w) A S (eval e env) h fun _ h' => T (model prog w) A S (execs rest env) h' P) (hi : interactive env = false) (hs : swapsWith e none pos.line env = pure false) :
    T (model prog w) A S (execs (.Expr e pos :: rest) env) h P := T_c fun _ => wpAny_Expr_any (H.use fun _ _ _ H' => T.fin (C_next H')) hi hs
theorem T_cAssignSub {o i value : Expr} {pos' pos : Pos} {rest : List Stmt} {P : Flow → Heap → Prop}
    (H : T (model prog w) A S (eval value env) h fun v h₁ => T (model prog w) A S (eval o env) h₁ fun ov h₂ => T (model prog w) A S (eval i env) h₂ fun iv h₃ => T (model prog w) A S (setItem ov iv v) h₃ fun _ h₄ => T (model prog w) A S (execs rest env) h₄ P)
    (hs : swapsWith value (some (.Subscript o i pos')) pos.line env = pure false) : T (model prog w) A S (execs (.Assign [.Subscript o i pos'] value pos :: rest) env) h P :=
  T_c fun _ => wpAny_Assign_Subscript (H.use fun _ _ _ H₁ => H₁.use fun _ _ _ H₂ => H₂.use fun _ _ _ H₃ => H₃.use fun _ _ _ H₄ => T.fin (C_next H₄)) hs
end
end Mine
end
section
open PySem PySem.W PySem.Calls PyProof.Rows
namespace Mine
-- a bridge to the rules that speak of Fr and News
def allN (h : Heap) (L : Addr) : List (Addr × Obj) := (List.range h.objs.size).filterMap fun b => if b = L then none else (h.get? b).map (b, ·)
theorem mem_allN {h : Heap} {L b : Addr} {o : Obj} (hb : b ≠ L) (e : h.get? b = some o) : (b, o) ∈ allN h L :=
  List.mem_filterMap.mpr ⟨b, List.mem_range.mpr (Heap.lt_size e), by rw [if_neg hb, e]; rfl⟩
theorem of_allN {h : Heap} {L : Addr} {p : Addr × Obj} (hp : p ∈ allN h L) : p.1 ≠ L ∧ h.get? p.1 = some p.2 := by
  obtain ⟨b, _, e⟩ := List.mem_filterMap.mp hp
  by_cases hb : b = L
  · rw [if_pos hb] at e; cases e
  · rw [if_neg hb] at e
    obtain ⟨o, ho, rfl⟩ := Option.map_eq_some_iff.mp e
    exact ⟨hb, ho⟩
def noHeap : Heap := { objs := #[] }
theorem noHeap_get (b : Addr) : noHeap.get? b = none := by simp [noHeap, Heap.get?]
theorem fr_of {h : Heap} {L : Addr} {m : Str → Option Value} (n : h.Ns L m) : Fr noHeap L h m := ⟨n, fun b o e => by (rw [noHeap_get] at e; cases e), Nat.zero_le _⟩
theorem news_of (h : Heap) (L : Addr) : News noHeap L h (allN h L) := fun p hp => ⟨(of_allN hp).2, (of_allN hp).1, noHeap_get _⟩
section
variable {h₀ h h' : Heap} {L a : Addr} {m m' : Str → Option Value} {news pre : List (Addr × Obj)} {o : Obj}
theorem St.via (X : St h₀ L m news h) (hn : h'.Ns L m') (hs : Heap.ExtBut L h h') (ha : h.get? a = none) (ho : h'.get? a = some o) : St h₀ L m' ((a, o) :: news) h' := by
  obtain ⟨hid, H, X⟩ := X
  have X' := X.setL hn hs
  refine ⟨hid, H.mono fun p h _ => .tail _ h, St0.perm (led := (a, o) :: (hid ++ news)) ⟨X'.ns, X'.keep, X'.apart, fun p hp => ?_, ?_⟩ List.perm_middle.symm⟩
  · rcases List.mem_cons.mp hp with rfl | hp
    · refine ⟨ho, ?_⟩
      cases q : h₀.get? a with
      | none => rfl
      | some o' => rw [X.keep _ _ q] at ha; cases ha
    · exact X'.own p hp
  · rw [List.map_cons]
    exact (List.Perm.swap a L _).nodup_iff.mpr (List.nodup_cons.mpr ⟨fun hm => X.live hm ha, X.nodup⟩)
theorem kept_of (N : News noHeap L h' (pre ++ allN h L)) : Heap.ExtBut L h h' := fun b o hb e => (N (b, o) (List.mem_append_right _ (mem_allN hb e))).1
theorem St.back (X : St h₀ L m news h) (F : Fr noHeap L h' m') (N : News noHeap L h' ((a, o) :: allN h L)) (ha : h.get? a = none) : St h₀ L m' ((a, o) :: news) h' :=
  X.via F.ns (kept_of (pre := [(a, o)]) N) ha (N _ (.head _)).1
theorem free_at (h : Heap) : h.get? h.objs.size = none := Heap.get?_none_of_le (Nat.le_refl _)
end
section
variable {w : World} {prog : Program} {A : Around} {S : Shared} {h₀ h : Heap} {L : Addr} {m : Str → Option Value} {news : List (Addr × Obj)} {env : Env} {P : Value → Heap → Prop} {a b : Int} {t u : Tok} {x y : Str} {l l' : Addr} {vs us : List Value} {n n' : Nat} {ns ms : List Int}
theorem foldl_rep (v : Value) : ∀ k (acc : Array Value), List.foldl (fun x1 x2 => x1 ++ x2) acc (List.replicate k #[v]) = acc ++ (List.replicate k v).toArray
  | 0, acc => by simp
  | k + 1, acc => by
    rw [List.replicate_succ, List.foldl_cons, foldl_rep v k]
    apply Array.toList_inj.mp
    simp [List.replicate_succ]
theorem T_mul_list {v : Value} (X : St h₀ L m news h) (hl : h.get? l = some (lst [v] n)) (h0 : -(2 ^ 20) ≤ b) (h1 : b < 2 ^ 20) (k : ∀ l' h', St h₀ L m ((l', lst (List.replicate b.toNat v)) :: news) h' → P (.ref l') h') :
    T (model prog w) A S (binaryOp .Mult (.ref l) (.int b u)) h P := fun _ => by
  refine mul_list (fr_of X.ns) (news_of h L) hl (by omega) (by omega) (by simp only [List.size_toArray, List.length_cons, List.length_nil]; omega) fun h' F' N' => ?_
  have e : List.foldl (fun x1 x2 => x1 ++ x2) #[] (List.replicate (if ([v] : List Value).toArray.isEmpty = true then 0 else b.toNat) [v].toArray) = (List.replicate b.toNat v).toArray := by
    have := foldl_rep v b.toNat #[]
    simpa using this
  rw [e] at N'
  exact T.fin (k _ h' (X.back F' N' (free_at h)))
theorem T_add_lists (X : St h₀ L m news h) (hl : h.get? l = some (lst vs n)) (hl' : h.get? l' = some (lst us n')) (hsz : vs.length + us.length < 2 ^ 20) (k : ∀ l₂ h', St h₀ L m ((l₂, lst (vs ++ us)) :: news) h' → P (.ref l₂) h') :
    T (model prog w) A S (binaryOp .Add (.ref l) (.ref l')) h P := fun _ =>
  add_lists (hsz := by rw [sizeLine_eq]; omega) (fr_of X.ns) (news_of h L) (lst_is hl) (lst_is hl') fun h' F' N' => T.fin (k _ h' (X.back F' N' (free_at h)))
theorem T_eq_list (hl : h.get? l = some (lst vs n)) (hl' : h.get? l' = some (lst us n')) (hi : IntsAre vs ns) (hi' : IntsAre us ms) (hu : Rm A 0) (p : P (.bool (decide (ns = ms))) h) : T (model prog w) A S (compareOp .Eq (.ref l) (.ref l')) h P :=
  fun _ => eq_intsK (lst_is hl) hi (lst_is hl') hi' (by have := hu.2.2; omega) (T.fin p)
theorem T_ne_list (hl : h.get? l = some (lst vs n)) (hl' : h.get? l' = some (lst us n')) (hi : IntsAre vs ns) (hi' : IntsAre us ms) (hu : Rm A 0) (p : P (.bool (!decide (ns = ms))) h) : T (model prog w) A S (compareOp .NotEq (.ref l) (.ref l')) h P :=
  fun _ => ne_intsK (lst_is hl) hi (lst_is hl') hi' (by have := hu.2.2; omega) (T.fin p)
theorem T_sum (X : St h₀ L m news h) (hl : h.get? l = some (lst vs n)) (hi : IntsAre vs ns) (hh : A.handled = none) (k : ∀ h' t', St h₀ L m news h' → P (.int ns.sum t') h') : T (model prog w) A S (call (.builtin "sum") [.ref l]) h P := fun tk => by
  obtain ⟨xs, e⟩ := hi.allInts.items
  refine sum_intListG hh (xs := xs) (by rw [← e]; exact lst_is hl) fun h' tk' t' hk => ?_
  have e2 : preSum (numAt xs) xs.size = ns.sum := by
    rw [preSum_eq, List.take_of_length_le (by simp), ← nums_intItems, ← e]
    show (numsOf vs).sum = _
    rw [hi.numsOf]
  rw [e2]
  exact ⟨h', tk', rfl, k h' t' (X.keeps hk)⟩
theorem T_join {texts : List (Str × Tok)} (hl : h.get? l = some (lst (strValues texts) n)) (hok : JoinOk x (texts.map (·.1)) = true) (p : ∀ t', P (.str (Txt.join x (texts.map (·.1))) t') h) : T (model prog w) A S (call (.builtin "str.join") [.str x t, .ref l]) h P :=
  fun _ => SC.join (lst_is hl) rfl hok fun t' k => ⟨_, _, rfl, p t'⟩
theorem T_add_str (hsz : x.length + y.length < 2 ^ 20) (p : ∀ t', P (.str (x ++ y) t') h) : T (model prog w) A S (binaryOp .Add (.str x t) (.str y u)) h P :=
  fun _ => PyProof.Rows.add_str (fun t' k => ⟨_, _, rfl, p t'⟩) (by rw [sizeLine_eq]; omega)
theorem T_getMethod_join {P : Value × List Value → Heap → Prop} {pl : Sem Bool} (p : P (.builtin "str.join", [.str x t]) h) : T (model prog w) A S (getMethod (.str x t) (Str.ofString "join") pl) h P := fun _ => by with_reducible exact GM.join (T.fin p)
theorem T_setItem {P : Unit → Heap → Prop} {v : Value} (X : St h₀ L m ((l, lst vs n) :: news) h) (h0 : 0 ≤ b) (h1 : b < vs.length) (hsz : vs.length < 2 ^ 20) (k : ∀ h' n', St h₀ L m ((l, lst (vs.set b.toNat v) n') :: news) h' → P () h') :
    T (model prog w) A S (setItem (.ref l) (.int b u) v) h P := fun _ => by
  refine ki_setAt (items := vs.toArray) (X.get (.head _)) h0 (by omega) (by simpa using h1) ⟨_, _, rfl, k _ n (X.setAt ?_ (Heap.SameBut.update ..).extBut)⟩
  have e : Obj.mapSeq (·.setIfInBounds b.toNat v) (lst vs n) = lst (vs.set b.toNat v) n := by simp [Obj.mapSeq, lst]
  rw [Heap.get?_update_self _ (X.get (.head _)) (by rw [e]; rfl), e]
theorem T_Slice {lower upper step : Option Expr} {p : Pos} (H : T (model prog w) A S (evalPart lower env) h fun vl h₁ => T (model prog w) A S (evalPart upper env) h₁ fun vu h₂ => T (model prog w) A S (evalPart step env) h₂ fun vt h₃ =>
      ∃ h₀ L m news, St h₀ L m news h₃ ∧ ∀ sl h₄, St h₀ L m news h₄ → (∀ b o, h₃.get? b = some o → h₄.get? b = some o) → h₄.IsSliceOf sl vl vu vt → P (.ref sl) h₄) : T (model prog w) A S (eval (.Slice lower upper step p) env) h P :=
  fun _ => wpAny_Slice (H.use fun vl _ _ H₁ => H₁.use fun vu _ _ H₂ => H₂.use fun vt h₃ _ ⟨h₀, L, m, news, X, k⟩ =>
    ⟨_, _, rfl, k _ _ (X.push _).tail (fun _ _ e => Heap.get?_push_of_some _ e) (Heap.IsSliceOf.new h₃ vl vu vt)⟩)
theorem T_part_none {P : Value → Heap → Prop} (p : P .none h) : T (model prog w) A S (evalPart none env) h P := T_pure p
theorem T_part_some {P : Value → Heap → Prop} {e : Expr} (H : T (model prog w) A S (eval e env) h P) : T (model prog w) A S (evalPart (some e) env) h P := H
theorem T_slice_list {value slice : Expr} {sl : Addr} {vl vu vt : Value} {lo hi st : Option Int} (X : St h₀ L m news h) (hl : h.get? l = some (lst vs n)) (hs : h.IsSliceOf sl vl vu vt) (pl : IsPart vl lo) (pu : IsPart vu hi) (ps : IsPart vt st) (h0 : st ≠ some 0) (hsz : vs.length < 2 ^ 20)
    (k : ∀ l₂ h', St h₀ L m ((l₂, lst (slicePick vs.toArray lo hi st).toList) :: news) h' → P (.ref l₂) h') {ops : List Value}
    (hsub : subscripted slice false (.ref l) (.ref sl) = operate ops (getItem (.ref l) (.ref sl))) :
    T (model prog w) A S (subscriptTail value slice (.ref l) (.ref sl)) h P := fun _ =>
  tail_any (lst_is hl).typeIs slot_list_getitem.lookup (wpAny_getItem_list_slice (lst_is hl) hs pl pu ps h0 ⟨_, _, rfl, k _ _ (by simpa [lst] using X.push (lst (slicePick vs.toArray lo hi st).toList))⟩ (by simp only [List.size_toArray]; rw [sizeLine_eq]; omega)) hsub
theorem T_reverse (X : St h₀ L m ((l, lst vs n) :: news) h) (hsz : vs.length < 2 ^ 20) (k : ∀ h' n', St h₀ L m ((l, lst vs.reverse n') :: news) h' → P .none h') : T (model prog w) A S (call (.builtin "list.reverse") [.ref l]) h P := fun _ => by
  refine call_meets PySem.F.slot_list_reverse ⟨_, X.get (.head _), rfl⟩ PySem.F.entry_list_reverse (PySem.F.args_list_reverse_1 _) (AutoSeq1.list_reverse_list_0 l vs.toArray n (by simp only [List.size_toArray]; rw [sizeLine_eq]; omega)) ⟨X.get (.head _), ?_⟩
  refine ⟨_, _, rfl, k _ n (X.setAt ?_ (Heap.SameBut.update ..).extBut)⟩
  rw [Heap.get?_update_self _ (X.get (.head _)) (by rw [mapSeq_reverse]; rfl), mapSeq_reverse]
theorem T_getMethod_reverse {P : Value × List Value → Heap → Prop} {pl : Sem Bool} (hl : h.get? l = some (lst vs n)) (p : P (.builtin "list.reverse", [.ref l]) h) : T (model prog w) A S (getMethod (.ref l) (Str.ofString "reverse") pl) h P := fun _ => by
  refine getMethod_builtin (T := "list") ⟨_, hl, rfl⟩ F.plainAttrs_list F.slot_list_reverse F.type_list_reverse (fun a e => ⟨_, by cases e; exact hl, rfl⟩) (T.fin p)
end
end Mine
end
section
open PySem PySem.W PySem.Calls PyProof.Rows
namespace Mine
section
variable {h₀ h h' : Heap} {L a : Addr} {m m' : Str → Option Value} {news led : List (Addr × Obj)} {o : Obj}
theorem St0.adopt (S : St0 h₀ L m led h) (ho : h.get? a = some o) (hn : a ∉ L :: led.map (·.1)) (h0 : h₀.get? a = none) : St0 h₀ L m ((a, o) :: led) h :=
  ⟨S.ns, S.keep, S.apart, fun p hp => by
    rcases List.mem_cons.mp hp with rfl | hp
    · exact ⟨ho, h0⟩
    · exact S.own p hp, by
    rw [List.map_cons]
    exact (List.Perm.swap a L _).nodup_iff.mpr (List.nodup_cons.mpr ⟨hn, S.nodup⟩)⟩
end
section
variable {w : World} {prog : Program} {A : Around} {S : Shared} {h₀ h : Heap} {L : Addr} {m : Str → Option Value} {news : List (Addr × Obj)} {env : Env} {name qual : Str} {params : Arguments} {body : List Stmt} {scope : Scope} {pos : Pos} {clos : List (Str × Addr)} {c P : Addr} {fl : Nat}
/-- a def within a def: its code object is made at the first time, found at the others -/
theorem nest_core {ta : Array Value} {rest : List (Addr × Obj)} {Q : Value → Heap → Prop} (W : Wd w h₀) (C : CodeHd h₀ c P) (X : St0 h₀ L m ((P, tabObj ta) :: rest) h) (hta : TabOK pos qual ta rest)
    (hcl : closureFor scope env = pure clos) (hge : env.globals = mainGlobals) (hcode : env.code = .ref c)
    (k : ∀ f c' oc vs t ctv doc pm ta' h' ex, St0 h₀ L m ((f, fnMade name qual params body scope clos doc pm c' ctv) :: (P, tabObj ta') :: (ex ++ rest)) h' → (c', oc) ∈ ex ++ rest → oc.data = .fields vs → vs[1]? = some (.str qual t) →
      ta' = #[rawInt pos.line, rawInt pos.col, .ref c'] → (ex = [(c', oc)] ∨ (ex = [] ∧ ta' = ta)) → Q (.ref f) h') :
    T (model prog w) A S (makeFunction name qual params (.stmts body) scope env [] [] [] pos fl) h Q := fun tk => by
  obtain ⟨_, _, _, mg, mb, T'⟩ := W.T
  have hm := X.own (P, tabObj ta) (.head _)
  have hgs := T'.g.keeps X.keep
  obtain ⟨bm, ob, b1, b2, b3, b4, b5, b6⟩ := T'.bmain
  have hgP : mainGlobals ≠ P := fun q => by
    obtain ⟨o, es, ep, e, hd, _⟩ := hgs
    rw [q, hm.1] at e; cases e; cases hd
  have hbP : bm ≠ P := fun q => by
    have e := X.keep _ _ b3
    rw [q, hm.1] at e; cases e; cases b4
  have hbG : bm ≠ mainGlobals := fun q => by
    obtain ⟨o, es, ep, e, hd, _⟩ := T'.g
    rw [q, e] at b3; cases b3; rw [hd] at b6; cases b6
  rcases hta with rfl | ⟨c', oc, vs, t, rfl, hmem, hd, hv⟩
  · refine makeFunction_K (mg := mg) hcl hge hgs hcode (C.keeps X.keep) hm.1 True.intro rfl hgP ⟨bm, ob, b1, b2, hbG, hbP, X.keep _ _ b3, b4, b5, b6⟩ fun c' ctv doc h' tk' hx hsz hlt hrec htb => ?_
    obtain ⟨c₂, oc, vs, t, e2, hoc, hd, hv⟩ := hrec
    cases e2
    have X1 : St0 h₀ L m ((P, tabObj (#[] ++ #[rawInt pos.line, rawInt pos.col, .ref c'])) :: rest) h' := X.setAt htb hx
    have fr : h.get? c' = none := Heap.get?_none_of_le hsz
    have X2 : St0 h₀ L m ((c', oc) :: (P, tabObj (#[] ++ #[rawInt pos.line, rawInt pos.col, .ref c'])) :: rest) h' := X1.adopt hoc (fun q => X.live q fr) (by
      cases q : h₀.get? c' with
      | none => rfl
      | some o => rw [X.keep _ _ q] at fr; cases fr)
    have X3 := X2.push (fnMade name qual params body scope clos doc ((mg "__name__").getD .none) c' ctv)
    exact ⟨_, _, rfl, k _ c' oc vs t ctv doc _ _ _ [(c', oc)] (X3.perm (.cons _ (List.Perm.swap ..))) (.head _) hd hv (by simp) (.inl rfl)⟩
  · refine makeFunction_hit (mg := mg) (cv := .ref c') hcl hge hgs hcode (C.keeps X.keep) hm.1 (by simp [TriplesOk, rawInt]) (by simp [codeAmong, rawInt]) ⟨bm, ob, b1, b2, hbG, hbP, X.keep _ _ b3, b4, b5, b6⟩ fun ctv doc h' tk' hk hsz => ?_
    have X3 := (X.keeps hk).push (fnMade name qual params body scope clos doc ((mg "__name__").getD .none) c' ctv)
    exact ⟨_, _, rfl, k _ c' oc vs t ctv doc _ _ _ [] X3 hmem hd hv rfl (.inr ⟨rfl, rfl⟩)⟩
theorem nest_fin {fo : Addr × Obj} {ta tb : Array Value} {junk ex : List (Addr × Obj)} {c' : Addr} {oc : Obj} {h' : Heap} {vs : Array Value} {t : Tok} {pos' : Pos} {qual' : Str} (swap : Bool)
    (X' : St0 h₀ L m (fo :: (if swap then (44, tabObj tb) else (37, tabObj ta)) :: (ex ++ ((if swap then (37, tabObj ta) else (44, tabObj tb)) :: (junk ++ news)))) h')
    (a : TabOK posA qualA ta (ex ++ (junk ++ news))) (b : TabOK posB qualB tb (ex ++ (junk ++ news)))
    (hc : (c', oc) ∈ ex ++ (junk ++ news)) (hd : oc.data = .fields vs) (hv : vs[1]? = some (.str qual t)) :
    ∃ ex', St h₀ L m (fo :: (ex' ++ news)) h' ∧ (c', oc) ∈ ex' ++ news := by
  have X2 : St0 h₀ L m (((37, tabObj ta) :: (44, tabObj tb) :: (ex ++ junk)) ++ (fo :: news)) h' := by
    refine X'.perm ?_
    refine List.Perm.trans ?_ (List.perm_middle (l₁ := (37, tabObj ta) :: (44, tabObj tb) :: (ex ++ junk))).symm
    refine .cons _ ?_
    cases swap
    · refine .cons _ ?_
      show (ex ++ (44, tabObj tb) :: (junk ++ news)).Perm ((44, tabObj tb) :: ((ex ++ junk) ++ news))
      rw [List.append_assoc]
      exact List.perm_middle
    · refine List.Perm.trans (.cons _ List.perm_middle) (List.Perm.trans (List.Perm.swap ..) ?_)
      rw [List.cons_append, List.cons_append, List.append_assoc]
      exact .refl _
  have hex : ∀ p, p ∈ ex ++ (junk ++ news) → p ∈ (ex ++ junk) ++ (fo :: news) := fun p hp => by
    rw [← List.append_assoc] at hp
    exact (List.mem_append.mp hp).elim (fun h => List.mem_append_left _ h) fun h => List.mem_append_right _ (.tail _ h)
  have X3 : St h₀ L m (fo :: news) h' := ⟨_, ⟨ta, tb, ex ++ junk, rfl, a.mono fun p h _ => hex p h, b.mono fun p h _ => hex p h⟩, X2⟩
  rw [← List.append_assoc] at hc
  rcases List.mem_append.mp hc with hc | hc
  · obtain ⟨j1, j2, e⟩ := List.append_of_mem hc
    refine ⟨[(c', oc)], ⟨(37, tabObj ta) :: (44, tabObj tb) :: (j1 ++ j2), ⟨ta, tb, j1 ++ j2, rfl, ?_, ?_⟩, ?_⟩, .head _⟩
    · refine a.mono fun p h _ => ?_
      have := hex p h
      rw [e] at this
      simp at this ⊢
      rcases this with h | h | h | h | h <;> simp [h]
    · refine b.mono fun p h _ => ?_
      have := hex p h
      rw [e] at this
      simp at this ⊢
      rcases this with h | h | h | h | h <;> simp [h]
    · rw [e] at X2
      refine X2.perm ?_
      simp only [List.cons_append, List.append_assoc, List.nil_append]
      refine .cons _ (.cons _ (.append_left _ ?_))
      -- (c', oc) :: (j2 ++ fo :: news) ~ j2 ++ (fo :: (c', oc) :: news)
      exact ((List.perm_middle.cons _).trans (List.Perm.swap ..)).trans ((List.perm_middle.symm.cons _).trans List.perm_middle.symm)
  · exact ⟨[], X3, hc⟩
theorem T_makeA {Q : Value → Heap → Prop} (W : Wd w h₀) (X : St h₀ L m news h) (hcl : closureFor scope env = pure clos) (hge : env.globals = mainGlobals) (hcode : env.code = .ref 41)
    (k : ∀ f fo c' oc vs t ctv doc pm h' ex, fo = fnMade name qualA params body scope clos doc pm c' ctv → St h₀ L m ((f, fo) :: (ex ++ news)) h' → (c', oc) ∈ ex ++ news → oc.data = .fields vs → vs[1]? = some (.str qualA t) → Q (.ref f) h') :
    T (model prog w) A S (makeFunction name qualA params (.stmts body) scope env [] [] [] posA fl) h Q := by
  obtain ⟨hid, ⟨ta, tb, junk, rfl, a, b⟩, X⟩ := X
  refine nest_core (rest := (44, tabObj tb) :: (junk ++ news)) W W.c1 X (a.mono fun p h _ => .tail _ h) hcl hge hcode ?_
  intro f c' oc vs t ctv doc pm ta' h' ex X' hmem hd hv hta' hex
  rcases hex with rfl | ⟨rfl, e⟩
  · obtain ⟨ex', X'', hm⟩ := nest_fin (swap := false) (ta := ta') (tb := tb) (junk := junk) (news := news) (pos' := posA) (qual' := qualA) X' (.inr ⟨c', oc, vs, t, hta', .head _, hd, hv⟩) (b.mono fun p h _ => List.mem_append_right _ h) (.head _) hd hv
    exact k f _ c' oc vs t ctv doc pm h' ex' rfl X'' hm hd hv
  · rcases a with a | ⟨c₂, oc₂, vs₂, t₂, e₂, hm₂, hd₂, hv₂⟩
    · rw [a] at e; rw [e] at hta'; cases hta'
    · rw [e, e₂] at hta'
      have ec : c₂ = c' := by simpa using hta'
      subst ec
      obtain ⟨ex', X'', hm⟩ := nest_fin (swap := false) (ta := ta') (tb := tb) (junk := junk) (news := news) (pos' := posA) (qual' := qualA) X' (by rw [e]; exact .inr ⟨c₂, oc₂, vs₂, t₂, e₂, hm₂, hd₂, hv₂⟩) (b.mono fun p h _ => List.mem_append_right _ h) hm₂ hd₂ hv₂
      exact k f _ c₂ oc₂ vs₂ t₂ ctv doc pm h' ex' rfl X'' hm hd₂ hv₂
theorem T_makeB {Q : Value → Heap → Prop} (W : Wd w h₀) (X : St h₀ L m news h) (hcl : closureFor scope env = pure clos) (hge : env.globals = mainGlobals) (hcode : env.code = .ref 48)
    (k : ∀ f fo c' oc vs t ctv doc pm h' ex, fo = fnMade name qualB params body scope clos doc pm c' ctv → St h₀ L m ((f, fo) :: (ex ++ news)) h' → (c', oc) ∈ ex ++ news → oc.data = .fields vs → vs[1]? = some (.str qualB t) → Q (.ref f) h') :
    T (model prog w) A S (makeFunction name qualB params (.stmts body) scope env [] [] [] posB fl) h Q := by
  obtain ⟨hid, ⟨ta, tb, junk, rfl, a, b⟩, X⟩ := X
  refine nest_core (rest := (37, tabObj ta) :: (junk ++ news)) W W.c2 (X.perm (List.Perm.swap ..)) (b.mono fun p h _ => .tail _ h) hcl hge hcode ?_
  intro f c' oc vs t ctv doc pm tb' h' ex X' hmem hd hv htb' hex
  rcases hex with rfl | ⟨rfl, e⟩
  · obtain ⟨ex', X'', hm⟩ := nest_fin (swap := true) (ta := ta) (tb := tb') (junk := junk) (news := news) (pos' := posA) (qual' := qualA) X' (a.mono fun p h _ => List.mem_append_right _ h) (.inr ⟨c', oc, vs, t, htb', .head _, hd, hv⟩) (.head _) hd hv
    exact k f _ c' oc vs t ctv doc pm h' ex' rfl X'' hm hd hv
  · rcases b with b | ⟨c₂, oc₂, vs₂, t₂, e₂, hm₂, hd₂, hv₂⟩
    · rw [b] at e; rw [e] at htb'; cases htb'
    · rw [e, e₂] at htb'
      have ec : c₂ = c' := by simpa using htb'
      subst ec
      obtain ⟨ex', X'', hm⟩ := nest_fin (swap := true) (ta := ta) (tb := tb') (junk := junk) (news := news) (pos' := posA) (qual' := qualA) X' (a.mono fun p h _ => List.mem_append_right _ h) (by rw [e]; exact .inr ⟨c₂, oc₂, vs₂, t₂, e₂, hm₂, hd₂, hv₂⟩) hm₂ hd₂ hv₂
      exact k f _ c₂ oc₂ vs₂ t₂ ctv doc pm h' ex' rfl X'' hm hd₂ hv₂
theorem T_cDef {rest : List Stmt} {P : Flow → Heap → Prop} (hd0 : params.defaults = []) (hk0 : params.kw_defaults = []) (ha : annTrees params none env = [])
    (H : T (model prog w) A S (makeFunction name (qualnameIn env name name) params (.stmts body) scope env [] [] [] pos pos.line) h fun v h₁ => T (model prog w) A S (storeName env name v) h₁ fun _ h₂ => T (model prog w) A S (execs rest env) h₂ P) :
    T (model prog w) A S (execs (.FunctionDef name params body [] none [] scope none name pos :: rest) env) h P :=
  T_c fun _ => nestDef_K hd0 hk0 ha (H.use fun _ _ _ H₁ => H₁.use fun _ _ _ H₂ => T.fin (C_next H₂))
end
end Mine
end
section
open PySem PySem.W PySem.Calls PyProof.Rows
namespace Mine
theorem ite_t {c : Prop} [Decidable c] {a b : Prop} (h : c) (x : a) : if c then a else b := by rw [if_pos h]; exact x
theorem ite_f {c : Prop} [Decidable c] {a b : Prop} (h : ¬ c) (x : b) : if c then a else b := by rw [if_neg h]; exact x
theorem St.cast {h₀ h : Heap} {L : Addr} {m : Str → Option Value} {news : List (Addr × Obj)} (X : St h₀ L m news h) (news' : List (Addr × Obj)) (e : news = news') : St h₀ L m news' h := e ▸ X
section
variable {w : World} {prog : Program} {A : Around} {S : Shared} {h₀ h : Heap} {L : Addr} {m : Str → Option Value} {news : List (Addr × Obj)} {env : Env} {x y : Str} {l : Addr} {vs : List Value} {n : Nat}
theorem T_cAssignTup {px py tpos pos : Pos} {kt : Nat} {value : Expr} {rest : List Stmt} {P : Flow → Heap → Prop} (hh : A.handled = none) (hk : env.scope.kind = .function) (hx : env.kindOf x = some .local) (hy : env.kindOf y = some .local)
    (H : T (model prog w) A S (eval value env) h fun v h₁ => ∃ l v₁ v₂ h₀ m news, v = .ref l ∧ h₁.get? l = some (tup [v₁, v₂]) ∧ St h₀ env.locals m news h₁ ∧
      ∀ h₂, St h₀ env.locals (fun z => if z = y then some v₂ else if z = x then some v₁ else m z) news h₂ → T (model prog w) A S (execs rest env) h₂ P)
    (hs : swapsWithSole [.Tuple [.Name x px, .Name y py] kt tpos] value pos.line env = pure false) (hw : swappedStores [.Tuple [.Name x px, .Name y py] kt tpos] value env = pure none) :
    T (model prog w) A S (execs (.Assign [.Tuple [.Name x px, .Name y py] kt tpos] value pos :: rest) env) h P := by
  refine T_c fun tk => Assign_Tuple (H.use fun v h₁ tk₁ H₁ => ?_) hs hw
  obtain ⟨l, v₁, v₂, h₀, m, news, rfl, hl, X, k⟩ := H₁
  refine assign_Tuple_tuple hh (items := #[v₁, v₂]) ⟨_, hl, rfl, _, rfl⟩ rfl rfl fun h' he => ?_
  have X' : St h₀ env.locals m news h' := X.keeps fun b o e => he b o (Nat.ne_of_lt (Heap.lt_size e)) e
  have hp : (env.scope.kind == .class || (env.scope.kind == .module && env.locals != env.globals)) = false := by rw [hk]; rfl
  refine assignInOrder_cons (t := assign (.Name x px) env) (wpAny_assign_Name (wpAny_storeName_local hx X'.ns (fun h₂ hn₂ hs₂ => ?_) hp))
  have X₂ := X'.setL hn₂ hs₂.extBut
  refine assignInOrder_cons (t := assign (.Name y py) env) (wpAny_assign_Name (wpAny_storeName_local hy X₂.ns (fun h₃ hn₃ hs₃ => ?_) hp))
  have X₃ := X₂.setL hn₃ hs₃.extBut
  exact assignInOrder_nil ⟨_, _, rfl, C_next (k h₃ X₃)⟩
theorem T_reversed {P : Value → Heap → Prop} (hl : h.get? l = some (lst vs n)) (p : P (.ref h.objs.size) (h.push (revObj l ((vs.length : Int) - 1)))) : T (model prog w) A S (call (.type "reversed") [.ref l]) h P :=
  fun _ => call_reversed_list (lst_is hl) ⟨_, _, rfl, by simpa using p⟩
theorem T_forRev {px pos : Pos} {iter : Expr} {body rest : List Stmt} {P : Flow → Heap → Prop} (hh : A.handled = none) (hx : env.kindOf x = some .local) (hk : env.scope.kind = .function) (hs : ∀ v, foldedSetIterable iter env v = pure v)
    (X : St h₀ env.locals m news h) (hl : h₀.get? l = some (lst vs n))
    (J : Nat → (Str → Option Value) → List (Addr × Obj) → Prop) (h0 : J 0 m news)
    (Hit : ∀ P' : Value → Heap → Prop, P' (.ref h.objs.size) (h.push (revObj l ((vs.length : Int) - 1))) → T (model prog w) A S (eval iter env) h P')
    (step : ∀ i v m₁ news₁ g h, i < vs.length → vs[vs.length - 1 - i]? = some v → J i m₁ news₁ → (∀ b o, h₀.get? b = some o → g.get? b = some o) → St g env.locals (fun y => if y = x then some v else m₁ y) news₁ h →
        T (model prog w) A S (execs body env) h fun f h' => (f = .next ∨ f = .cont) ∧ ∃ m₂ news₂, St g env.locals m₂ news₂ h' ∧ J (i + 1) m₂ news₂)
    (done : ∀ m' news' h', J vs.length m' news' → St h₀ env.locals m' news' h' → T (model prog w) A S (execs rest env) h' P) :
    T (model prog w) A S (execs (.For (.Name x px) iter body [] pos :: rest) env) h P := by
  refine T_cFor hx hk hs (Hit _ ?_)
  intro tk
  have hit : (h.push (revObj l ((vs.length : Int) - 1))).IsRevIter h.objs.size l ((vs.length : Int) - 1) := ⟨_, Heap.get?_push_size _ rfl, rfl, rfl⟩
  refine wpAny_pyIter_revIter hit ⟨_, _, rfl, ?_⟩
  have hls : h.get? l = some (lst vs n) := X.keep _ _ hl
  have hne : l ≠ h.objs.size := Nat.ne_of_lt (Heap.lt_size hls)
  have W := Walks.listRev (prog := prog) (w := w) (A := A) hh h.objs.size l hne vs.toArray
  have hsz : vs.toArray.size = vs.length := by simp
  rw [hsz] at W
  refine ⟨h.objs.size, [h.objs.size, l], vs.length, _, _, h₀, h, m, news, J, rfl, W, fun i h' st => ?_, ⟨Nat.zero_le _, ?_, ?_⟩, free_at h, X, fun b o e => Heap.get?_push_of_some _ e, fun b hb => ?_, h0, ?_, done⟩
  · obtain ⟨_, ⟨o, ho, _⟩, _⟩ := st
    rw [ho]; nofun
  · simpa using hit
  · exact lst_is (n := n) (Heap.get?_push_of_some _ hls)
  · rcases List.mem_cons.mp hb with rfl | hb
    · exact .inl rfl
    · exact .inr ⟨_, (List.mem_singleton.mp hb) ▸ hl⟩
  · intro i v m₁ news₁ g h₁ hi hv hJ kk X₁
    exact step i v m₁ news₁ g h₁ hi (by simpa using hv) hJ kk X₁
theorem T_forList {px pos : Pos} {iter : Expr} {body rest : List Stmt} {P : Flow → Heap → Prop} (hh : A.handled = none) (hx : env.kindOf x = some .local) (hk : env.scope.kind = .function) (hs : ∀ v, foldedSetIterable iter env v = pure v)
    (J : Nat → (Str → Option Value) → List (Addr × Obj) → Prop)
    (H : T (model prog w) A S (eval iter env) h fun xv h₁ => ∃ l vs n h₀ m news, xv = .ref l ∧ St h₀ env.locals m ((l, lst vs n) :: news) h₁ ∧ J 0 m news ∧
      (∀ i v m₁ news₁ g h, i < vs.length → vs[i]? = some v → J i m₁ news₁ → (∀ b o, h₀.get? b = some o → g.get? b = some o) → St g env.locals (fun y => if y = x then some v else m₁ y) news₁ h →
        T (model prog w) A S (execs body env) h fun f h' => (f = .next ∨ f = .cont) ∧ ∃ m₂ news₂, St g env.locals m₂ news₂ h' ∧ J (i + 1) m₂ news₂) ∧
      ∀ m' news' h', J vs.length m' news' → St h₀ env.locals m' news' h' → T (model prog w) A S (execs rest env) h' P) :
    T (model prog w) A S (execs (.For (.Name x px) iter body [] pos :: rest) env) h P := by
  refine T_cFor hx hk hs (H.mono fun xv h₁ ⟨l, vs, n, h₀, m, news, e, X, h0, step, done⟩ => ?_)
  subst e
  intro tk
  obtain ⟨g, k1, k2, X', back⟩ := St.freeze (fr := [(l, lst vs n)]) (X.perm (List.perm_append_comm (l₁ := [(l, lst vs n)]))) (fun p hp vs' => by rw [List.mem_singleton.mp hp]; nofun)
  have hl := k2 _ (.head _)
  have hls : h₁.get? l = some (lst vs n) := X'.keep _ _ hl
  have hne : l ≠ h₁.objs.size := Nat.ne_of_lt (Heap.lt_size hls)
  refine wpAny_pyIter_list (lst_is hls) ⟨_, _, rfl, ?_⟩
  have W := Walks.list (prog := prog) (w := w) (A := A) hh h₁.objs.size l hne vs.toArray
  have hsz : vs.toArray.size = vs.length := by simp
  rw [hsz] at W
  refine ⟨h₁.objs.size, [h₁.objs.size, l], vs.length, _, _, g, h₁, m, news, J, rfl, W, fun i h' st => ?_, ⟨⟨_, Heap.get?_push_size _ rfl, rfl, rfl⟩, lst_is (n := n) (Heap.get?_push_of_some _ hls)⟩, free_at h₁, X', fun b o e => Heap.get?_push_of_some _ e, fun b hb => ?_, h0, ?_, ?_⟩
  · obtain ⟨⟨o, ho, _⟩, _⟩ := st
    rw [ho]; nofun
  · rcases List.mem_cons.mp hb with rfl | hb
    · exact .inl rfl
    · exact .inr ⟨_, (List.mem_singleton.mp hb) ▸ hl⟩
  · intro i v m₁ news₁ g' h₂ hi hv hJ kk X₁
    exact step i v m₁ news₁ g' h₂ hi (by simpa using hv) hJ (fun b o e => kk b o (k1 b o e)) X₁
  · intro m' news' h' hJ X₂
    exact done m' news' h' hJ (St.dropEnd (back _ _ _ X₂))
end
end Mine
end
section
open PySem PySem.W PySem.Calls PyProof.Rows
namespace Mine
section
variable {w : World} {prog : Program} {A : Around} {S : Shared} {h₀ h : Heap} {L : Addr} {m : Str → Option Value} {news : List (Addr × Obj)} {env : Env} {x y : Str} {l : Addr} {vs : List Value} {n : Nat} {P : Value → Heap → Prop}
theorem T_nameNs {M : Model} {v : Value} {pos : Pos} (X : h.Ns env.locals m) (hv : m x = some v) (hk : env.scope.kind = .function) (hl : env.kindOf x = some .local) (hd : (x == ("__debug__" : Str)) = false) (p : P v h) :
    T M A S (eval (.Name x pos) env) h P := fun _ => wpAny_Name (wpAny_loadName_local hk hl X hv (T.fin p)) hd
theorem rev_picked (x : Str) : ((Builtin.Str.strSliceIndices none none (-1) x.length).filterMap (x.cps[·]?)) = x.cps.toList.reverse := by
  rw [picked_rev, krv_range, List.filterMap_reverse]
  congr 1
  have : ∀ l : List Nat, (List.range l.length).filterMap (l[·]?) = l := fun l => by
    induction l with
    | nil => rfl
    | cons a r ih =>
      rw [List.length_cons, List.range_succ_eq_map, List.filterMap_cons]
      simp only [List.getElem?_cons_zero, List.filterMap_map]
      congr 1
  have h2 := this x.cps.toList
  simpa [Str.length] using h2
theorem T_slice_rev {value slice : Expr} {sl : Addr} {t u : Tok} {ops : List Value} (hs : h.IsSliceOf sl .none .none (.int (-1) u)) (hsz : x.length < 2 ^ 20) (p : ∀ t', P (.str ⟨x.cps.toList.reverse.toArray⟩ t') h)
    (hsub : subscripted slice false (.str x t) (.ref sl) = operate ops (getItem (.str x t) (.ref sl))) : T (model prog w) A S (subscriptTail value slice (.str x t) (.ref sl)) h P := fun tk => by
  refine tail_any (typeIs_str _ x t) slot_str_getitem.lookup (wpAny_getItem_str_slice (l := none) (u := none) (st := some (-1, u)) hs rfl ?_) hsub
  unfold sliceMade
  rw [if_neg (by
    have : ((((some ((-1 : Int), u)).map (·.1)).getD 1 == 1)) = false := rfl
    rw [this]; simp)]
  show (Made.str ⟨((Builtin.Str.strSliceIndices none none (-1) x.length).filterMap (x.cps[·]?)).toArray⟩).post _ _
  rw [rev_picked]
  refine ⟨?_, T.fin (p tk)⟩
  show x.cps.toList.reverse.toArray.size ≤ sizeLine
  rw [List.size_toArray, List.length_reverse, Array.length_toList, sizeLine_eq]
  have : x.cps.size = x.length := rfl
  omega
/-- a comprehension over a text, a name of the frame's captured -/
theorem T_CompStr {elt iter : Expr} {px : Pos} {scope : Scope} {cl : List (Str × Addr)} {pos : Pos} (f : Nat → Int)
    (hclos : closureFor scope env = pure cl) (hcell : ∀ y ∈ scope.names, y.2 ≠ .cell) (hkind : scope.kind = .function)
    (hnames : ∀ y ∈ scope.names, y.2 = .local → scope.names.lookup y.1 = some .local) (hx : scope.names.lookup x = some .local) (hh : A.handled = none) (hs : ∀ v, foldedSetIterable iter env v = pure v)
    (H : T (model prog w) A S (eval iter env) h fun xv h₁ => ∃ fs t h₀ L m news, xv = .str fs t ∧ fs.cps.size < 2 ^ 20 ∧ St h₀ L m news h₁ ∧
      (∀ S' C c u h' m₃, h'.Ns C m₃ → m₃ x = some (.str ⟨#[c]⟩ u) → (∀ b o, h₁.get? b = some o → h'.get? b = some o) → T (model prog w) A S' (eval elt (compEnvC scope cl C env)) h' fun y h'' => h'' = h' ∧ ∃ t', y = .int (f c) t') ∧
      ∀ D h' ys n, IntsAre ys (fs.cps.toList.map f) → St h₀ L m ((D, lst ys n) :: news) h' → P (.ref D) h') :
    T (model prog w) A S (eval (.ListComp elt [⟨.Name x px, iter, [], 0⟩] scope pos) env) h P := fun tk => by
  refine wpAny_ListComp_free (fun _ => true) (fun v y => ∃ c u t', v = .str ⟨#[c]⟩ u ∧ y = .int (f c) t') hclos hcell hkind hnames hx (H.use fun xv h₁ tk₁ H₁ => ?_) hs
  obtain ⟨fs, t, h₀, L, m, news, rfl, hsz, X, helt, k⟩ := H₁
  refine wpAny_pyIter_str fun o Sti W st => ?_
  have up : ∀ b o', b ∉ [h₁.objs.size] → (h₁.push o).get? b = some o' → (h₁.push o).get? b = some o' := fun _ _ _ e => e
  refine ⟨h₁.objs.size, _, _, _, _, Sti, rfl, W A hh, (by rw [sizeLine_eq]; omega), st, fun b hb => ?_, ⟨?_, ?_⟩, ?_⟩
  · rw [List.mem_singleton.mp hb]
    show h₁.objs.size < (h₁.push o).objs.size
    rw [Heap.size_push]; omega
  · intro C i v s₃ m₃ E' _ _ _ _ _ _
    exact wpAny_pure ⟨rfl, s₃.heap, s₃.toks, rfl, fun _ _ e => e⟩
  · rintro C i v s₃ m₃ E' _ ⟨c, u, hc, rfl⟩ _ hn hm hk _
    refine T.use (S := s₃) (helt s₃ C c u s₃.heap m₃ hn hm fun b o' e => hk b o' (fun q => ?_) (Heap.get?_push_of_some _ e)) fun y h' tk' ⟨e, t', hy⟩ => ⟨⟨c, u, t', rfl, hy⟩, h', tk', rfl, fun b o' e' => e ▸ e'⟩
    have := Heap.lt_size e
    rw [List.mem_singleton.mp q] at this
    exact Nat.lt_irrefl _ this
  · rintro D h' tk' ys vs hD _ ⟨n, hpl⟩ hlen hP hF hk
    have X' : St h₀ L m news h' := X.keeps fun b o' e => hk b o' (fun q => by
      have := Heap.lt_size e
      rw [List.mem_singleton.mp q] at this
      exact Nat.lt_irrefl _ this) (Heap.get?_push_of_some _ e)
    have hD' : h₁.get? D = none := by
      cases q : h₁.get? D with
      | none => rfl
      | some o' => rw [show (h₁.push o).get? D = some o' from Heap.get?_push_of_some _ q] at hD; cases hD
    refine ⟨h', tk', rfl, k D h' ys.toList n ?_ (X.add (fun b o' e => hk b o' (fun q => by
      have := Heap.lt_size e
      rw [List.mem_singleton.mp q] at this
      exact Nat.lt_irrefl _ this) (Heap.get?_push_of_some _ e)) hD' (by rw [hpl]))⟩
    rw [List.filter_eq_self.mpr (fun _ _ => rfl)] at hF
    -- the items' numbers
    have hv : ∀ (j : Nat) (v : Value), vs[j]? = some v → ∃ c u, fs.cps.toList[j]? = some c ∧ v = Value.str ⟨#[c]⟩ u := fun j v e => by
      obtain ⟨c, u, hc, rfl⟩ := hP j v e
      exact ⟨c, u, by simpa using hc, rfl⟩
    have hl2 : vs.length = fs.cps.toList.length := by simpa using hlen
    clear hP hlen hpl
    generalize ys.toList = zs at hF
    generalize fs.cps.toList = cs at hv hl2
    induction hF generalizing cs with
    | nil =>
      cases cs with
      | nil => exact .nil
      | cons => simp at hl2
    | @cons a b l₁ l₂ h1 h2 ih =>
      cases cs with
      | nil => simp at hl2
      | cons c cs =>
        obtain ⟨c', u', hc', hv'⟩ := hv 0 a rfl
        obtain ⟨c'', u'', t'', e1, rfl⟩ := h1
        simp at hc'
        subst hc'
        rw [hv'] at e1
        have ec : c = c'' := by simpa using (Value.str.inj e1).1
        subst ec
        refine .cons _ _ (ih cs (fun j v e => ?_) (by simpa using hl2))
        obtain ⟨c, u, hc, hv⟩ := hv (j + 1) v (by simpa using e)
        exact ⟨c, u, by simpa using hc, hv⟩
/-- the parts that a comprehension over a list wants -/
theorem compL_parts {elt : Expr} {scope : Scope} {F : Value → Value → Prop} {h₁ : Heap} {tk₁ : Nat} (hl : h₁.IsList l vs.toArray) (hh : A.handled = none)
    (helt : ∀ S' C v h' m₃, v ∈ vs → h'.Ns C m₃ → m₃ x = some v → T (model prog w) A S' (eval elt (compEnv scope C env)) h' fun y h'' => h'' = h' ∧ F v y) :
    let o : Obj := { cls := .type "list_iterator", data := .fields #[.ref l, .int 0 0] }
    Walks prog w A h₁.objs.size [h₁.objs.size, l] [h₁.objs.size] vs.length (fun i v => vs.toArray[i]? = some v) (fun i h => h.IsListIter h₁.objs.size l i ∧ h.IsList l vs.toArray) ∧
    ((h₁.push o).IsListIter h₁.objs.size l 0 ∧ (h₁.push o).IsList l vs.toArray) ∧ (∀ b ∈ [h₁.objs.size, l], b < (h₁.push o).objs.size) ∧
    QuietOn prog w A env scope x [] elt [h₁.objs.size] (fun i v => vs.toArray[i]? = some v) (fun _ => true) F { S with heap := h₁.push o, toks := tk₁ } := by
  intro o
  obtain ⟨ol, hol, r⟩ := id hl
  have hlt : l < h₁.objs.size := Heap.lt_size hol
  have W := Walks.list (prog := prog) (w := w) (A := A) hh h₁.objs.size l (Nat.ne_of_lt hlt) vs.toArray
  have hsz : vs.toArray.size = vs.length := by simp
  rw [hsz] at W
  refine ⟨W, ⟨⟨_, Heap.get?_push_size _ rfl, rfl, rfl⟩, ⟨ol, Heap.get?_push_of_some _ hol, r⟩⟩, fun b hb => ?_, ⟨?_, ?_⟩⟩
  · rw [Heap.size_push]
    rcases List.mem_cons.mp hb with rfl | hb
    · omega
    · rw [List.mem_singleton.mp hb]; exact Nat.lt_succ_of_lt hlt
  · intro C i v s₃ m₃ E' _ _ _ _ _
    exact wpAny_pure ⟨rfl, s₃.heap, s₃.toks, rfl, fun _ _ e => e⟩
  · intro C i v s₃ m₃ E' hv _ hn hm hk _
    have hv' : vs[i]? = some v := by simpa using hv
    exact T.use (S := s₃) (helt s₃ C v s₃.heap m₃ (List.mem_of_getElem? hv') hn hm) fun y h' tk' ⟨e, hy⟩ => ⟨hy, h', tk', rfl, fun b o' e' => e ▸ e'⟩
theorem compL_paired {F : Value → Value → Prop} {vs' : List Value} {ys : List Value} (hlen : vs'.length = vs.length) (hP : ∀ (j : Nat) v, vs'[j]? = some v → vs.toArray[j]? = some v) (hF : Paired F (vs'.filter fun _ => true) ys) : Paired F vs ys := by
  rw [List.filter_eq_self.mpr (fun _ _ => rfl)] at hF
  have e : vs' = vs := by
    apply List.ext_getElem? 
    intro j
    rcases Nat.lt_or_ge j vs'.length with hj | hj
    · rw [List.getElem?_eq_getElem hj]
      have := hP j _ (List.getElem?_eq_getElem hj)
      simpa using this.symm
    · rw [List.getElem?_eq_none hj, List.getElem?_eq_none (by omega)]
  exact e ▸ hF
theorem T_CompL {elt iter : Expr} {px : Pos} {scope : Scope} {pos : Pos} (F : Value → Value → Prop)
    (hfree : ∀ y ∈ scope.names, y.2 ≠ .free) (hcell : ∀ y ∈ scope.names, y.2 ≠ .cell) (hkind : scope.kind = .function)
    (hnames : ∀ y ∈ scope.names, y.2 = .local → scope.names.lookup y.1 = some .local) (hx : scope.names.lookup x = some .local) (hh : A.handled = none) (hs : ∀ v, foldedSetIterable iter env v = pure v)
    (H : T (model prog w) A S (eval iter env) h fun xv h₁ => ∃ l vs h₀ L m news, xv = .ref l ∧ vs.length < 2 ^ 20 ∧ h₁.IsList l vs.toArray ∧ St h₀ L m news h₁ ∧
      (∀ S' C v h' m₃, v ∈ vs → h'.Ns C m₃ → m₃ x = some v → T (model prog w) A S' (eval elt (compEnv scope C env)) h' fun y h'' => h'' = h' ∧ F v y) ∧
      ∀ D h' ys n, Paired F vs ys → St h₀ L m ((D, lst ys n) :: news) h' → P (.ref D) h') :
    T (model prog w) A S (eval (.ListComp elt [⟨.Name x px, iter, [], 0⟩] scope pos) env) h P := fun tk => by
  refine wpAny_ListComp_walk (fun _ => true) F hfree hcell hkind hnames hx (H.use fun xv h₁ tk₁ H₁ => ?_) hs
  obtain ⟨l, vs, h₀, L, m, news, rfl, hsz, hl, X, helt, k⟩ := H₁
  obtain ⟨W, st, hfp, hq⟩ := compL_parts (S := S) (tk₁ := tk₁) hl hh helt
  refine wpAny_pyIter_list hl ⟨h₁.objs.size, _, _, _, _, _, rfl, W, (by rw [sizeLine_eq]; omega), st, hfp, hq, ?_⟩
  rintro D h' tk' ys vs' hD _ ⟨n, hpl⟩ hlen hP hF hk
  have keep : ∀ b o', h₁.get? b = some o' → h'.get? b = some o' := fun b o' e => hk b o' (fun q => by
    have := Heap.lt_size e
    rw [List.mem_singleton.mp q] at this
    exact Nat.lt_irrefl _ this) (Heap.get?_push_of_some _ e)
  have hD' : h₁.get? D = none := by
    cases q : h₁.get? D with
    | none => rfl
    | some o' =>
      have hD2 : (h₁.push _).get? D = none := hD
      rw [Heap.get?_push_of_some _ q] at hD2; cases hD2
  exact ⟨h', tk', rfl, k D h' ys.toList n (compL_paired hlen hP hF) (X.add keep hD' (by rw [hpl]))⟩
theorem T_cAssignComp {elt iter : Expr} {px py : Pos} {scope : Scope} {pos spos : Pos} {rest : List Stmt} {P : Flow → Heap → Prop} (F : Value → Value → Prop)
    (hsw : swapsWith (.ListComp elt [⟨.Name x px, iter, [], 0⟩] scope pos) (some (.Name y py)) spos.line env = pure true)
    (hfree : ∀ y ∈ scope.names, y.2 ≠ .free) (hcell : ∀ y ∈ scope.names, y.2 ≠ .cell) (hkind : scope.kind = .function)
    (hnames : ∀ y ∈ scope.names, y.2 = .local → scope.names.lookup y.1 = some .local) (hx : scope.names.lookup x = some .local) (hy : env.kindOf y = some .local) (hk : env.scope.kind = .function) (hh : A.handled = none) (hs : ∀ v, foldedSetIterable iter env v = pure v)
    (H : T (model prog w) A S (eval iter env) h fun xv h₁ => ∃ l vs h₀ m news, xv = .ref l ∧ vs.length < 2 ^ 20 ∧ h₁.IsList l vs.toArray ∧ St h₀ env.locals m news h₁ ∧
      (∀ S' C v h' m₃, v ∈ vs → h'.Ns C m₃ → m₃ x = some v → T (model prog w) A S' (eval elt (compEnv scope C env)) h' fun y h'' => h'' = h' ∧ F v y) ∧
      ∀ D h' ys n, Paired F vs ys → St h₀ env.locals (fun z => if z = y then some (.ref D) else m z) ((D, lst ys n) :: news) h' → T (model prog w) A S (execs rest env) h' P) :
    T (model prog w) A S (execs (.Assign [.Name y py] (.ListComp elt [⟨.Name x px, iter, [], 0⟩] scope pos) spos :: rest) env) h P := by
  refine T_c fun tk => ?_
  refine wpAny_Assign_ListComp_walk (fun _ => true) F hsw hfree hcell hkind hnames hx hy (by rw [hk]; rfl) (H.use fun xv h₁ tk₁ H₁ => ?_) hs
  obtain ⟨l, vs, h₀, m, news, rfl, hsz, hl, X, helt, k⟩ := H₁
  obtain ⟨W, st, hfp, hq⟩ := compL_parts (S := S) (tk₁ := tk₁) hl hh helt
  have hL : env.locals < h₁.objs.size := X.ns.lt
  refine wpAny_pyIter_list hl ⟨h₁.objs.size, _, _, _, _, _, m, rfl, W, (by rw [sizeLine_eq]; omega), st, hfp, (fun q => by rw [List.mem_singleton.mp q] at hL; exact Nat.lt_irrefl _ hL), X.ns.push _, hq, ?_⟩
  rintro D h' tk' ys vs' hD _ ⟨n, hpl⟩ hlen hP hF hn hk'
  have keep : Heap.ExtBut env.locals h₁ h' := fun b o' hb e => hk' b o' hb (fun q => by
    have := Heap.lt_size e
    rw [List.mem_singleton.mp q] at this
    exact Nat.lt_irrefl _ this) (Heap.get?_push_of_some _ e)
  have hD' : h₁.get? D = none := by
    cases q : h₁.get? D with
    | none => rfl
    | some o' =>
      have hD2 : (h₁.push _).get? D = none := hD
      rw [Heap.get?_push_of_some _ q] at hD2; cases hD2
  exact ⟨h', tk', rfl, C_next (k D h' ys.toList n (compL_paired hlen hP hF) (X.via hn keep hD' (by rw [hpl])))⟩
theorem T_slice_isList {value slice : Expr} {sl : Addr} {vl vu vt : Value} {lo hi st : Option Int} {ops : List Value} (X : St h₀ L m news h) (hl : h.IsList l vs.toArray) (hs : h.IsSliceOf sl vl vu vt) (pl : IsPart vl lo) (pu : IsPart vu hi) (ps : IsPart vt st) (h0 : st ≠ some 0) (hsz : vs.length < 2 ^ 20)
    (k : ∀ l₂ h', St h₀ L m ((l₂, lst (slicePick vs.toArray lo hi st).toList) :: news) h' → P (.ref l₂) h')
    (hsub : subscripted slice false (.ref l) (.ref sl) = operate ops (getItem (.ref l) (.ref sl))) :
    T (model prog w) A S (subscriptTail value slice (.ref l) (.ref sl)) h P := fun _ =>
  tail_any hl.typeIs slot_list_getitem.lookup (wpAny_getItem_list_slice hl hs pl pu ps h0 ⟨_, _, rfl, k _ _ (by simpa [lst] using X.push (lst (slicePick vs.toArray lo hi st).toList))⟩ (by simp only [List.size_toArray]; rw [sizeLine_eq]; omega)) hsub
end
end Mine
end
section
open PySem PySem.W PySem.Calls PyProof.Rows
namespace Mine
-- plain: digits
noncomputable def dv (w : Nat) : List Int → Int
  | [] => 0
  | d :: r => d + 2 ^ w * dv w r
theorem dv_append (w : Nat) : ∀ xs ys, dv w (xs ++ ys) = dv w xs + 2 ^ (w * xs.length) * dv w ys
  | [], ys => by simp [dv]
  | d :: r, ys => by
    rw [List.cons_append, dv, dv, dv_append w r ys, List.length_cons, Nat.mul_succ, Int.mul_add, Nat.add_comm (w * r.length) w, Int.pow_add, Int.mul_assoc, Int.add_assoc]
theorem two_pow_pos (k : Nat) : (0 : Int) < 2 ^ k := Int.pow_pos (by decide)
theorem two_pow_le {j k : Nat} (h : j ≤ k) : (2 : Int) ^ j ≤ 2 ^ k := by
  obtain ⟨i, rfl⟩ := Nat.le.dest h
  rw [Int.pow_add]
  have h1 := two_pow_pos i
  have h2 := two_pow_pos j
  calc (2 : Int) ^ j = 2 ^ j * 1 := (Int.mul_one _).symm
    _ ≤ 2 ^ j * 2 ^ i := Int.mul_le_mul_of_nonneg_left (by omega) (by omega)
theorem dv_bound {B w : Nat} (hw : w ≤ B) : ∀ ds : List Int, (∀ d ∈ ds, 0 ≤ d ∧ d < 2 ^ B) → 0 ≤ dv w ds ∧ dv w ds < 2 ^ ((B + 1) * ds.length + B)
  | [], _ => ⟨Int.le_refl 0, two_pow_pos _⟩
  | d :: r, h => by
    have hd := h d (.head _)
    have hr := dv_bound hw r fun x hx => h x (.tail _ hx)
    rw [dv, List.length_cons]
    have hp := two_pow_pos w
    refine ⟨Int.add_nonneg hd.1 (Int.mul_nonneg (by omega) hr.1), ?_⟩
    generalize hE : (B + 1) * r.length + B = E at hr
    have e1 : (B + 1) * (r.length + 1) + B = 1 + (B + E) := by rw [Nat.mul_succ]; omega
    rw [e1, Int.pow_add, Int.pow_add, Int.pow_succ, Int.pow_zero, Int.one_mul]
    have h1 : (2 : Int) ^ w * dv w r ≤ 2 ^ B * 2 ^ E := by
      have a1 : (2 : Int) ^ w * dv w r ≤ 2 ^ B * dv w r := Int.mul_le_mul_of_nonneg_right (two_pow_le hw) hr.1
      have a2 : (2 : Int) ^ B * dv w r ≤ 2 ^ B * 2 ^ E := Int.mul_le_mul_of_nonneg_left (by omega) (by have := two_pow_pos B; omega)
      omega
    have h2 : (2 : Int) ^ B ≤ 2 ^ B * 2 ^ E := by
      have := Int.mul_le_mul_of_nonneg_left (a := (1 : Int)) (b := 2 ^ E) (c := 2 ^ B) (by have := two_pow_pos E; omega) (by have := two_pow_pos B; omega)
      rw [Int.mul_one] at this; exact this
    omega
theorem bits_le {a : Int} {k : Nat} (h0 : 0 ≤ a) (h : a < 2 ^ k) : Builtin.Int.intBits a ≤ k := by
  unfold Builtin.Int.intBits
  by_cases e : a = 0
  · simp [e]
  · rw [if_neg (by simpa using e)]
    obtain ⟨n, rfl⟩ := Int.eq_ofNat_of_zero_le h0
    have hn : n ≠ 0 := by intro q; apply e; simp [q]
    have hlt : n < 2 ^ k := by exact_mod_cast h
    have h3 : n.log2 < k := (Nat.log2_lt hn).mpr hlt
    show (((n : Nat) : Int).natAbs).log2 + 1 ≤ k
    rw [Int.natAbs_natCast]; omega
theorem small_bits {a : Int} (h0 : 0 ≤ a) (h : a < 2 ^ 30) : Builtin.Int.intBits a ≤ 64 := Nat.le_trans (bits_le (k := 30) h0 (by simpa using h)) (by decide)
theorem dv_part {ds : List Int} {w : Nat} (hw : w ≤ 600) (hlen : ds.length ≤ 40) (hds : ∀ d ∈ ds, 0 ≤ d ∧ d < 2 ^ 600) (lo k : Nat) :
    0 ≤ dv w ((ds.drop lo).take k) ∧ Builtin.Int.intBits (dv w ((ds.drop lo).take k)) ≤ 25000 := by
  have h := dv_bound hw ((ds.drop lo).take k) fun d hd => hds d (List.mem_of_mem_drop (List.mem_of_mem_take hd))
  refine ⟨h.1, Nat.le_trans (bits_le h.1 h.2) ?_⟩
  have : ((ds.drop lo).take k).length ≤ 40 := by rw [List.length_take, List.length_drop]; omega
  omega
theorem dv_split {ds : List Int} {w lo mid hi : Nat} (h1 : lo ≤ mid) (h2 : mid ≤ hi) (h3 : hi ≤ ds.length) :
    dv w ((ds.drop mid).take (hi - mid)) * 2 ^ (((mid : Int) - lo) * w).toNat + dv w ((ds.drop lo).take (mid - lo)) = dv w ((ds.drop lo).take (hi - lo)) := by
  have e : (ds.drop lo).take (hi - lo) = (ds.drop lo).take (mid - lo) ++ (ds.drop mid).take (hi - mid) := by
    rw [show hi - lo = (mid - lo) + (hi - mid) by omega, List.take_add, List.drop_drop]
    congr 3; omega
  rw [e, dv_append]
  have e2 : ((ds.drop lo).take (mid - lo)).length = mid - lo := by rw [List.length_take, List.length_drop]; omega
  have e3 : (((mid : Int) - lo) * w).toNat = w * (mid - lo) := by
    rw [show ((mid : Int) - lo) = ((mid - lo : Nat) : Int) by omega, ← Int.natCast_mul, Int.toNat_natCast, Nat.mul_comm]
  rw [e2, e3, Int.mul_comm, Int.add_comm]
theorem shift_nat {w lo mid : Nat} (h1 : lo ≤ mid) : (((mid : Int) - lo) * w) = ((w * (mid - lo) : Nat) : Int) := by
  rw [show ((mid : Int) - lo) = ((mid - lo : Nat) : Int) by omega, ← Int.natCast_mul, Nat.mul_comm]
theorem shr_nat (x s : Nat) : ((x : Nat) : Int).fdiv (2 ^ s) = ((x / 2 ^ s : Nat) : Int) := by
  rw [Int.fdiv_eq_ediv_of_nonneg _ (by have := two_pow_pos s; omega)]
  push_cast
  rfl
theorem xor_low (x s : Nat) : Builtin.bitXor (x : Int) (((x / 2 ^ s : Nat) : Int) * 2 ^ s) = ((x % 2 ^ s : Nat) : Int) := by
  have e : (((x / 2 ^ s : Nat) : Int) * 2 ^ s) = ((x / 2 ^ s * 2 ^ s : Nat) : Int) := by push_cast; rfl
  rw [e, bitXor_and, bitAnd_pp (by omega) (by omega), Int.toNat_natCast, Int.toNat_natCast]
  have e2 : x &&& (x / 2 ^ s * 2 ^ s) = x / 2 ^ s * 2 ^ s := by
    apply Nat.eq_of_testBit_eq
    intro i
    rw [Nat.testBit_and, Nat.mul_comm, Nat.testBit_two_pow_mul, Nat.testBit_div_two_pow]
    by_cases hi : s ≤ i
    · simp [hi, Nat.sub_add_cancel hi]
    · simp [hi]
  rw [e2]
  have := Nat.div_add_mod x (2 ^ s)
  rw [Nat.mul_comm] at this
  omega
noncomputable def dg (w : Nat) : Nat → Nat → List Int
  | 0, _ => []
  | k + 1, x => ((x % 2 ^ w : Nat) : Int) :: dg w k (x / 2 ^ w)
theorem dg_length (w : Nat) : ∀ k x, (dg w k x).length = k
  | 0, _ => rfl
  | k + 1, x => by rw [dg, List.length_cons, dg_length w k]
theorem dg_append (w : Nat) : ∀ j k x, dg w (j + k) x = dg w j (x % 2 ^ (w * j)) ++ dg w k (x / 2 ^ (w * j))
  | 0, k, x => by simp [dg]
  | j + 1, k, x => by
    rw [show j + 1 + k = (j + k) + 1 by omega, dg, dg, dg_append w j k, List.cons_append]
    have e : 2 ^ (w * (j + 1)) = 2 ^ w * 2 ^ (w * j) := by rw [Nat.mul_succ, Nat.add_comm, Nat.pow_add]
    rw [e, Nat.mod_mul_right_mod, Nat.mod_mul_right_div_self, Nat.div_div_eq_div_mul]
theorem dg_one {w x : Nat} (h : x < 2 ^ w) : dg w 1 x = [(x : Int)] := by simp [dg, Nat.mod_eq_of_lt h]
theorem dg_mem {w : Nat} : ∀ {k x : Nat} {d : Int}, d ∈ dg w k x → 0 ≤ d ∧ d < 2 ^ w
  | 0, _, _, h => by cases h
  | k + 1, x, d, h => by
    rw [dg] at h
    rcases List.mem_cons.mp h with rfl | h
    · refine ⟨by omega, ?_⟩
      have := Nat.mod_lt x (Nat.two_pow_pos w)
      exact_mod_cast this
    · exact dg_mem h
theorem dv_dg (w : Nat) : ∀ k x, x < 2 ^ (w * k) → dv w (dg w k x) = x
  | 0, x, h => by simp at h; simp [dg, dv, h]
  | k + 1, x, h => by
    rw [dg, dv, dv_dg w k (x / 2 ^ w) (by
      rw [Nat.div_lt_iff_lt_mul (Nat.two_pow_pos w), ← Nat.pow_add]; rw [Nat.mul_succ] at h; exact h)]
    exact_mod_cast Nat.mod_add_div x (2 ^ w)
theorem noPyl {x y : Int} (hy : Builtin.Int.intBits y ≤ 8000) : Builtin.divisionGoesByPylong x y = false := by
  have h : ¬ ((if (y == 0) = true then 0 else y.natAbs.log2 / 30 + 1) > 300) := by
    unfold Builtin.Int.intBits at hy
    split
    · omega
    · rename_i q
      rw [if_neg q] at hy
      omega
  unfold Builtin.divisionGoesByPylong
  simp only [decide_eq_false h, Bool.false_and]
def nd (w a : Nat) : Nat := (Builtin.Int.intBits (a : Int) + w - 1) / w
theorem lt_bits (a : Nat) : a < 2 ^ Builtin.Int.intBits (a : Int) := by
  unfold Builtin.Int.intBits
  by_cases e : a = 0
  · subst e; decide
  · rw [if_neg (by simp; exact e)]
    rw [Int.natAbs_natCast]
    exact Nat.lt_log2_self
theorem bits_pos {a : Nat} (h : a ≠ 0) : 0 < Builtin.Int.intBits (a : Int) := by
  unfold Builtin.Int.intBits
  rw [if_neg (by simp; exact h)]; omega
theorem nd_facts {w a : Nat} (hw : 1 ≤ w) (ha : a < 2 ^ (w * 40)) : nd w a ≤ 40 ∧ a < 2 ^ (w * nd w a) ∧ (a ≠ 0 → 0 < nd w a) ∧ (a = 0 → nd w a = 0) := by
  have hb : Builtin.Int.intBits (a : Int) ≤ w * 40 := bits_le (Int.natCast_nonneg _) (by exact_mod_cast ha)
  have h1 : nd w a ≤ 40 := by
    unfold nd
    have : (Builtin.Int.intBits (a : Int) + w - 1) / w ≤ (w * 40 + (w - 1)) / w := Nat.div_le_div_right (by omega)
    rw [Nat.mul_add_div (by omega), Nat.div_eq_of_lt (show w - 1 < w by omega)] at this
    exact this
  have h2 : Builtin.Int.intBits (a : Int) ≤ w * nd w a := by
    unfold nd
    have e := Nat.div_add_mod (Builtin.Int.intBits (a : Int) + w - 1) w
    have m := Nat.mod_lt (Builtin.Int.intBits (a : Int) + w - 1) (show 0 < w by omega)
    omega
  refine ⟨h1, Nat.lt_of_lt_of_le (lt_bits a) (Nat.pow_le_pow_right (by decide) h2), fun h => ?_, fun h => ?_⟩
  · have := bits_pos h
    rcases Nat.eq_zero_or_pos (nd w a) with q | q
    · rw [q] at h2; omega
    · exact q
  · subst h
    unfold nd
    have e : Builtin.Int.intBits ((0 : Nat) : Int) = 0 := by decide
    rw [e]
    exact Nat.div_eq_of_lt (by omega)
theorem nd_int {w a : Nat} (hw : 1 ≤ w) : ((Builtin.Int.intBits (a : Int) : Int) + w - 1).fdiv w = (nd w a : Int) := by
  rw [Int.fdiv_eq_ediv_of_nonneg _ (by omega)]
  unfold nd
  rw [Int.natCast_ediv]
  congr 1
  omega
theorem dg_get (w : Nat) : ∀ k x j, j < k → (dg w k x)[j]? = some (((x / 2 ^ (w * j)) % 2 ^ w : Nat) : Int)
  | 0, _, _, h => by omega
  | k + 1, x, 0, _ => by simp [dg]
  | k + 1, x, j + 1, h => by
    rw [dg, List.getElem?_cons_succ, dg_get w k _ j (by omega), Nat.div_div_eq_div_mul, ← Nat.pow_add, Nat.mul_succ, Nat.add_comm]
theorem fdiv_nat (a b : Nat) : ((a : Nat) : Int).fdiv (b : Int) = ((a / b : Nat) : Int) := by
  rw [Int.fdiv_eq_ediv_of_nonneg _ (by omega)]; rfl
theorem fmod_nat (a b : Nat) : ((a : Nat) : Int).fmod (b : Int) = ((a % b : Nat) : Int) := by
  rw [Int.fmod_eq_emod_of_nonneg _ (by omega)]; rfl
/-- long division, one digit more -/
theorem long_div {A b p d : Nat} (hb : 0 < b) (hd : d < p) : (A * p + d) / b = A / b * p + (A % b * p + d) / b ∧ (A * p + d) % b = (A % b * p + d) % b ∧ (A % b * p + d) / b < p := by
  have e : A * p + d = b * (A / b * p) + (A % b * p + d) := by
    have h := Nat.div_add_mod A b
    have : A * p = (b * (A / b) + A % b) * p := by rw [h]
    rw [this, Nat.add_mul, Nat.mul_assoc, Nat.add_assoc]
  refine ⟨?_, ?_, ?_⟩
  · conv => lhs; rw [e]
    rw [Nat.mul_add_div hb]
  · conv => lhs; rw [e]
    rw [Nat.mul_add_mod]
  · rw [Nat.div_lt_iff_lt_mul hb]
    have h1 : A % b + 1 ≤ b := Nat.mod_lt A hb
    have h2 : (A % b + 1) * p ≤ b * p := Nat.mul_le_mul_right p h1
    rw [Nat.add_mul, Nat.one_mul] at h2
    rw [Nat.mul_comm p b]
    omega
theorem top_next (a w j : Nat) : a / 2 ^ (w * j) = a / 2 ^ (w * (j + 1)) * 2 ^ w + (a / 2 ^ (w * j)) % 2 ^ w := by
  have e : a / 2 ^ (w * (j + 1)) = a / 2 ^ (w * j) / 2 ^ w := by rw [Nat.div_div_eq_div_mul, ← Nat.pow_add, Nat.mul_succ]
  rw [e]
  have := Nat.div_add_mod (a / 2 ^ (w * j)) (2 ^ w)
  rw [Nat.mul_comm] at this
  omega
theorem dg_zero (w : Nat) : ∀ k, dg w k 0 = List.replicate k 0
  | 0 => rfl
  | k + 1 => by rw [dg, Nat.zero_mod, Nat.zero_div, dg_zero w k, List.replicate_succ]; rfl
theorem nd_le {w a r : Nat} (hw : 1 ≤ w) (ha : a < 2 ^ (w * r)) : nd w a ≤ r := by
  have hb : Builtin.Int.intBits (a : Int) ≤ w * r := bits_le (Int.natCast_nonneg _) (by exact_mod_cast ha)
  unfold nd
  have : (Builtin.Int.intBits (a : Int) + w - 1) / w ≤ (w * r + (w - 1)) / w := Nat.div_le_div_right (by omega)
  rw [Nat.mul_add_div (by omega), Nat.div_eq_of_lt (show w - 1 < w by omega)] at this
  exact this
theorem dg_pad {w a r : Nat} (h : a < 2 ^ (w * nd w a)) (hr : nd w a ≤ r) : dg w (nd w a) a ++ List.replicate (r - nd w a) 0 = dg w r a := by
  conv => rhs; rw [show r = nd w a + (r - nd w a) by omega]
  rw [dg_append, Nat.mod_eq_of_lt h, Nat.div_eq_of_lt h, dg_zero]
theorem bits_ge {a : Nat} (h : a ≠ 0) : 2 ^ (Builtin.Int.intBits (a : Int) - 1) ≤ a := by
  unfold Builtin.Int.intBits
  rw [if_neg (by simp; exact h), Int.natAbs_natCast, Nat.add_sub_cancel]
  exact Nat.log2_self_le h
/-- no nought at the top -/
theorem dg_top {w a : Nat} (hw : 1 ≤ w) (ha : a ≠ 0) (h : a < 2 ^ (w * nd w a)) (h1 : 0 < nd w a) : (a / 2 ^ (w * (nd w a - 1))) % 2 ^ w ≠ 0 := by
  have hb : w * (nd w a - 1) ≤ Builtin.Int.intBits (a : Int) - 1 := by
    have h2 : w * nd w a ≤ Builtin.Int.intBits (a : Int) + w - 1 := by
      unfold nd
      exact Nat.mul_div_le _ _
    have h3 : w * (nd w a - 1) + w = w * nd w a := by
      rw [← Nat.mul_succ, show (nd w a - 1).succ = nd w a by omega]
    have := bits_pos ha
    omega
  have hge : 2 ^ (w * (nd w a - 1)) ≤ a := Nat.le_trans (Nat.pow_le_pow_right (by decide) hb) (bits_ge ha)
  have hq : 0 < a / 2 ^ (w * (nd w a - 1)) := Nat.div_pos hge (Nat.two_pow_pos _)
  have hlt : a / 2 ^ (w * (nd w a - 1)) < 2 ^ w := by
    rw [Nat.div_lt_iff_lt_mul (Nat.two_pow_pos _), ← Nat.pow_add]
    have h3 : w + w * (nd w a - 1) = w * nd w a := by
      rw [Nat.add_comm, ← Nat.mul_succ, show (nd w a - 1).succ = nd w a by omega]
    rw [h3]; exact h
  rw [Nat.mod_eq_of_lt hlt]
  omega
end Mine
end
section
open PySem PySem.W PySem.Calls PyProof.Rows
set_option maxRecDepth 100000
namespace Mine
local macro_rules | `(tactic| walk_at "t1") => `(tactic| first
  | ((with_reducible refine' T_cAssign ?_ ?ts); (case ts => rfl))
  | (with_reducible refine T_cAug ?_)
  | (with_reducible refine T_cReturn ?_)
  | (with_reducible refine T_cReturn0 ?_)
  | (with_reducible refine T_cIf0 ?_)
  | (with_reducible refine T_cIf ?_)
  | (with_reducible refine T_isTrue_Compare ?_)
  | (with_reducible refine T_Compare ?_)
  | (with_reducible refine T_BinOp ?_)
  | (with_reducible refine T_Subscript ?_)
  | ((with_reducible refine' T_Method ?_ ?te); (case te => rfl))
  | ((with_reducible refine' T_Call ?_ ?te); (case te => rfl))
  | (with_reducible refine T_UnaryOp ?_)
  | (with_reducible refine T_truthy_bool ?_)
  | ((with_reducible refine T_int ?_); intro tk)
  | ((with_reducible refine T_str ?_); intro tk)
  | ((with_reducible refine' T_args_cons ?_ ?te); (case te => rfl))
  | (with_reducible refine T_args_nil ?_)
  | ((with_reducible refine' T_local ?tX ?tv ?tk ?tl ?td ?_); (case tX => assumption); (case tv => rfl); (case tk => rfl); (case tl => rfl); (case td => rfl))
  | ((with_reducible refine' T_load ?tX ?tv ?tk ?tl ?_); (case tX => assumption); (case tv => rfl); (case tk => rfl); (case tl => rfl)))
local macro_rules | `(tactic| walk_at "tg") => `(tactic| ((with_reducible refine' T_global ?tW ?tX ?te ?tk ?tl ?tg ?td ?_); (case tW => assumption); (case tX => assumption); (case te => rfl); (case tk => rfl); (case tl => rfl); (case tg => rfl); (case td => rfl)))
def costOf (a b : Str) : Int := if a = b then 0 else if Txt.lower a = Txt.lower b then 1 else 2
section
variable {w : World} {prog : Program} {A : Around} {S : Shared} {h₀ h : Heap} {L : Addr} {m : Str → Option Value} {news : List (Addr × Obj)} {P : Value → Heap → Prop}
theorem subst_spec {ca cb : Str} {ta tb : Tok} (W : Wd w h₀) (X : St h₀ L m news h) (hr : A.depth < recursionLimit) (ha : ca.length ≤ 100) (hb : cb.length ≤ 100)
    (k : ∀ h' t, St h₀ L m news h' → P (.int (costOf ca cb) t) h') :
    T (model prog w) A S (call (.ref 21) [.str ca ta, .str cb tb]) h P := by
  refine T_call (binds := [(Str.ofString "ch_a", .str ca ta), (Str.ofString "ch_b", .str cb tb)]) W X (X.keep _ _ (W.X 21 _ rfl)) (codeRec_of (W.X.keeps X.keep) (by rfl)) hr (by rfl) (locs rfl) (by decide) ?_
  intro g L' h₁ W' up X'
  unfold costOf at k
  iterate 4 walk_at "t1"
  refine T_eq_str ?_
  walk_at "t1"
  split
  · rename_i e
    rw [if_pos (by simpa using e)] at k
    iterate 2 walk_at "t1"
    exact ⟨_, _, X', fun X'' => k _ _ X''⟩
  · rename_i e
    rw [if_neg (by simpa using e)] at k
    iterate 4 walk_at "t1"
    refine T_getMethod_lower ?_
    refine T_callWith_bi0 ?_
    refine T_lower (by omega) ?_
    intro _
    iterate 2 walk_at "t1"
    refine T_getMethod_lower ?_
    refine T_callWith_bi0 ?_
    refine T_lower (by omega) ?_
    intro _
    refine T_eq_str ?_
    walk_at "t1"
    split
    · rename_i e'
      rw [if_pos (by simpa using e')] at k
      iterate 1 walk_at "t1"
      walk_at "tg"
      exact ⟨_, _, X', fun X'' => k _ _ X''⟩
    · rename_i e'
      rw [if_neg (by simpa using e')] at k
      iterate 1 walk_at "t1"
      walk_at "tg"
      exact ⟨_, _, X', fun X'' => k _ _ X''⟩
end
end Mine
end
section
open PySem PySem.W PySem.Calls PyProof.Rows
set_option maxRecDepth 100000
namespace Mine
local macro_rules | `(tactic| walk_at "t1") => `(tactic| first
  | ((with_reducible refine' T_cAssign ?_ ?ts); (case ts => rfl))
  | (with_reducible refine T_cAug ?_)
  | (with_reducible refine T_cReturn ?_)
  | (with_reducible refine T_cReturn0 ?_)
  | (with_reducible refine T_cIf0 ?_)
  | (with_reducible refine T_cIf ?_)
  | ((with_reducible refine' T_isTrue_Compare ?_ ?tm); (case tm => with_unfolding_all rfl))
  | ((with_reducible refine' T_Compare ?_ ?tm); (case tm => with_unfolding_all rfl))
  | (with_reducible refine T_BinOp ?_)
  | (with_reducible refine T_Subscript ?_)
  | ((with_reducible refine' T_Method ?_ ?te); (case te => rfl))
  | ((with_reducible refine' T_Call ?_ ?te); (case te => rfl))
  | (with_reducible refine T_UnaryOp ?_)
  | (with_reducible refine T_truthy_bool ?_)
  | ((with_reducible refine T_int ?_); intro tk)
  | ((with_reducible refine T_str ?_); intro tk)
  | ((with_reducible refine' T_args_cons ?_ ?te); (case te => rfl))
  | (with_reducible refine T_args_nil ?_)
  | (with_reducible refine T_List ?_)
  | (with_reducible refine T_Tuple ?_)
  | (with_reducible refine T_IfExp ?_)
  | ((with_reducible refine' T_cExpr ?_ ?ti ?ts); (case ti => rfl); (case ts => rfl))
  | ((with_reducible refine' T_cAssignSub ?_ ?ts); (case ts => rfl))
  | ((with_reducible refine' T_callWith_bi ?_ ?te ?tp); (case te => rfl); (case tp => rfl))
  | ((with_reducible refine' T_callWith_ty ?_ ?te ?tp); (case te => rfl); (case tp => rfl))
  | (with_reducible refine T_callWith_bi0 ?_)
  | ((with_reducible refine' T_local ?tX ?tv ?tk ?tl ?td ?_); (case tX => assumption); (case tv => rfl); (case tk => rfl); (case tl => rfl); (case td => rfl))
  | ((with_reducible refine' T_load ?tX ?tv ?tk ?tl ?_); (case tX => assumption); (case tv => rfl); (case tk => rfl); (case tl => rfl))
  | ((with_reducible refine' T_store ?tX ?tk ?tl ?_); (case tX => assumption); (case tk => rfl); (case tl => rfl)))
local macro_rules | `(tactic| walk_at "tg") => `(tactic| ((with_reducible refine' T_global ?tW ?tX ?te ?tk ?tl ?tg ?td ?_); (case tW => assumption); (case tX => assumption); (case te => rfl); (case tk => rfl); (case tl => rfl); (case tg => rfl); (case td => rfl)))
local macro_rules | `(tactic| walk_at "tb") => `(tactic| ((with_reducible refine' T_builtin ?tW ?tX ?te ?tv ?tn ?tk ?tl ?tg ?tb ?td ?_); (case tW => assumption); (case tX => assumption); (case te => rfl); (case tv => first | exact Boot.«len» | exact Boot.«range» | exact Boot.«sum» | exact Boot.«divmod» | exact Boot.«reversed»); (case tn => decide); (case tk => rfl); (case tl => rfl); (case tg => rfl); (case tb => rfl); (case td => rfl)))
def defAt (i : Nat) : Option (Arguments × List Stmt × Scope) := match PySem.Challenge.pw_nb0142_01.main.body[i]? with
  | some (.FunctionDef _ a b _ _ _ s _ _ _) => some (a, b, s)
  | _ => none
noncomputable def innerIn : List Stmt → Arguments × List Stmt × Scope
  | .FunctionDef _ a b _ _ _ s _ _ _ :: _ => (a, b, s)
  | _ :: r => innerIn r
  | [] => (default, [], default)
noncomputable def innerOf (i : Nat) : Arguments × List Stmt × Scope := match defAt i with
  | some (_, b, _) => innerIn b
  | none => (default, [], default)
structure InB (h₀ : Heap) (news : List (Addr × Obj)) (f cD cN cI c l : Addr) (ds : List Int) (wd : Nat) : Prop where
  fn : ∃ doc pm ctv, Has h₀ news f (fnMade (Str.ofString "inner") qualB (innerOf 9).1 (innerOf 9).2.1 (innerOf 9).2.2 [(Str.ofString "n", cN), (Str.ofString "inner", cI), (Str.ofString "digits", cD)] doc pm c ctv)
  code : ∃ oc vs t, Has h₀ news c oc ∧ oc.data = .fields vs ∧ vs[1]? = some (.str qualB t)
  cd : ∃ o, Has h₀ news cD o ∧ o.data = .cell (some (.ref l))
  cn : ∃ o t, Has h₀ news cN o ∧ o.data = .cell (some (.int wd t))
  ci : ∃ o, Has h₀ news cI o ∧ o.data = .cell (some (.ref f))
  ls : ∃ vs n, Has h₀ news l (lst vs n) ∧ IntsAre vs ds
theorem InB.up {h₀ g : Heap} {news : List (Addr × Obj)} {f cD cN cI c l : Addr} {ds : List Int} {wd : Nat} (x : InB h₀ news f cD cN cI c l ds wd) (k : ∀ b o, h₀.get? b = some o → g.get? b = some o) : InB g news f cD cN cI c l ds wd where
  fn := let ⟨a, b, c, h⟩ := x.fn; ⟨a, b, c, h.up k⟩
  code := let ⟨a, b, c, h, r⟩ := x.code; ⟨a, b, c, h.up k, r⟩
  cd := let ⟨a, h, r⟩ := x.cd; ⟨a, h.up k, r⟩
  cn := let ⟨a, t, h, r⟩ := x.cn; ⟨a, t, h.up k, r⟩
  ci := let ⟨a, h, r⟩ := x.ci; ⟨a, h.up k, r⟩
  ls := let ⟨a, b, h, r⟩ := x.ls; ⟨a, b, h.up k, r⟩
section
variable {w : World} {prog : Program} {S : Shared} {f cD cN cI c l : Addr} {ds : List Int} {wd : Nat}
theorem d2i_inner (hw : wd ≤ 600) (hlen : ds.length ≤ 40) (hds : ∀ d ∈ ds, 0 ≤ d ∧ d < 2 ^ 600) : ∀ (N : Nat) {lo hi : Nat} {A : Around} {h₀ h : Heap} {L : Addr} {m : Str → Option Value} {news : List (Addr × Obj)} {P : Value → Heap → Prop} {t₁ t₂ : Tok},
    hi - lo ≤ N → lo < hi → hi ≤ ds.length → Rm A N → Wd w h₀ → St h₀ L m news h → InB h₀ news f cD cN cI c l ds wd →
    (∀ h' t, St h₀ L m news h' → P (.int (dv wd ((ds.drop lo).take (hi - lo))) t) h') → T (model prog w) A S (call (.ref f) [.int lo t₁, .int hi t₂]) h P := by
  intro N
  induction N with
  | zero => intros; omega
  | succ N ih =>
    intro lo hi A h₀ h L m news P t₁ t₂ hN h1 h2 hr W X I k
    obtain ⟨doc, pm, ctv, hfn⟩ := I.fn
    obtain ⟨oc, vsc, tc, hco, hcd, hcv⟩ := I.code
    refine T_call (binds := [(Str.ofString "L", .int lo t₁), (Str.ofString "R", .int hi t₂)]) W X (X.has hfn) ⟨c, oc, vsc, tc, rfl, X.has hco, hcd, hcv⟩ hr.room (by rfl) (locs rfl) (by decide) ?_
    intro g L' h₁ W' up X'
    have I' := I.up up
    have hr' := hr.deeper (envX qualB (innerOf 9).2.2 L' f (.ref c) [(Str.ofString "n", cN), (Str.ofString "inner", cI), (Str.ofString "digits", cD)])
    refine T_cIf0 ?_
    iterate 4 walk_at "t1"
    refine T_add fun _ => ?_
    walk_at "t1"
    refine T_eq_int ?_
    walk_at "t1"
    obtain ⟨oD, hD, hDc⟩ := I'.cd
    obtain ⟨oN, tN, hN', hNc⟩ := I'.cn
    obtain ⟨oI, hI', hIc⟩ := I'.ci
    obtain ⟨vs, nl, hl, hints⟩ := I'.ls
    split
    · rename_i e
      have e' : hi = lo + 1 := by have := eq_of_beq e; omega
      subst e'
      iterate 2 walk_at "t1"
      refine T_free (X'.has hD) hDc rfl rfl rfl rfl rfl ?_
      walk_at "t1"
      obtain ⟨d, hd⟩ : ∃ d, ds[lo]? = some d := ⟨ds[lo], List.getElem?_eq_getElem (by omega)⟩
      obtain ⟨t, ht⟩ := hints.get lo d hd
      refine T_item_list (X'.has hl) (by omega) (by omega) ht ?_
      refine C_ret ⟨_, _, X', fun X'' => ?_⟩
      have e2 : dv wd ((ds.drop lo).take (lo + 1 - lo)) = d := by
        have e3 : (ds.drop lo).take (lo + 1 - lo) = [d] := by
          rw [show lo + 1 - lo = 1 by omega, List.take_one, List.head?_drop, hd]; rfl
        rw [e3]; simp [dv]
      have := k _ t X''
      rw [e2] at this
      exact this
    · rename_i e
      have hlt : lo + 1 < hi := by
        have : (lo : Int) + 1 ≠ hi := fun q => e (by rw [q]; exact beq_self_eq_true _)
        omega
      iterate 5 walk_at "t1"
      refine T_add fun _ => ?_
      walk_at "t1"
      refine T_rshift (by decide) fun _ => ?_
      generalize hmid : (lo + hi) / 2 = mid
      have emid : ((lo : Int) + hi).fdiv (2 ^ Int.toNat 1) = (mid : Int) := by
        rw [show (2 : Int) ^ Int.toNat 1 = 2 by rfl, Int.fdiv_eq_ediv_of_nonneg _ (by decide)]; omega
      rw [emid]
      walk_at "t1"
      intro h₂ X₂
      iterate 5 walk_at "t1"
      refine T_sub fun _ => ?_
      refine T_free (X₂.has hN') hNc rfl rfl rfl rfl rfl ?_
      refine T_mul (.of_left (small_bits (by omega) (by omega))) fun _ => ?_
      walk_at "t1"
      intro h₃ X₃
      iterate 4 walk_at "t1"
      refine T_free (X₃.has hI') hIc rfl rfl rfl rfl rfl ?_
      have fnAt : ∀ {m' : Str → Option Value} {h' : Heap}, St g L' m' news h' → FnAt f h' := fun X₀ => ⟨_, _, _, _, X₀.has (hfn.up up)⟩
      refine T_callWith_fn (fnAt X₃) ?_ rfl rfl
      iterate 5 walk_at "t1"
      refine ⟨fnAt X₃, ?_⟩
      refine ih (lo := mid) (hi := hi) (by omega) (by omega) h2 hr' W' X₃ I' ?_
      intro h₄ t₄ X₄
      walk_at "t1"
      have hV := dv_part hw hlen hds mid (hi - mid)
      have hU := dv_part hw hlen hds lo (mid - lo)
      have hsh : 0 ≤ ((mid : Int) - lo) * wd ∧ ((mid : Int) - lo) * wd ≤ 40 * 600 := by
        refine ⟨Int.mul_nonneg (by omega) (by omega), ?_⟩
        exact Int.mul_le_mul (by omega) (by omega) (by omega) (by omega)
      refine T_lshift hsh.1 (by omega) fun _ => ?_
      walk_at "t1"
      refine T_free (X₄.has hI') hIc rfl rfl rfl rfl rfl ?_
      refine T_callWith_fn (fnAt X₄) ?_ rfl rfl
      iterate 5 walk_at "t1"
      refine ⟨fnAt X₄, ?_⟩
      refine ih (lo := lo) (hi := mid) (by omega) (by omega) (by omega) hr' W' X₄ I' ?_
      intro h₅ t₅ X₅
      refine T_add fun t₆ => ?_
      refine ⟨_, _, X₅, fun X'' => ?_⟩
      have := k _ t₆ X''
      rw [← dv_split (mid := mid) (by omega) (by omega) h2] at this
      exact this
theorem d2i_spec {vs : List Value} {nl : Nat} {A : Around} {h₀ h : Heap} {L : Addr} {m : Str → Option Value} {news : List (Addr × Obj)} {P : Value → Heap → Prop} {t : Tok} (hw : wd ≤ 600) (hlen : ds.length ≤ 40) (hds : ∀ d ∈ ds, 0 ≤ d ∧ d < 2 ^ 600)
    (hr : Rm A 42) (W : Wd w h₀) (X : St h₀ L m news h) (hl : Has h₀ news l (lst vs nl)) (hi : IntsAre vs ds) (k : ∀ h' t, St h₀ L m news h' → P (.int (dv wd ds) t) h') :
    T (model prog w) A S (call (.ref 49) [.ref l, .int wd t]) h P := by
  refine T_callC (binds := [(Str.ofString "digits", .ref l), (Str.ofString "n", .int wd t)]) W X (X.keep _ _ (W.X 49 _ rfl)) (codeRec_of (W.X.keeps X.keep) (by rfl)) hr.room (by rfl) (fun n => kinds_of (by exact ⟨.inr ⟨rfl, rfl⟩, .inr ⟨rfl, rfl⟩, trivial⟩)) (by decide) ?_
  intro g L' h₁ cells W' up X' hC
  obtain ⟨o₁, o₂, o₃, rfl, d₁, d₂, d₃⟩ := CellsAre.three (n₁ := Str.ofString "inner") (n₂ := Str.ofString "n") (n₃ := Str.ofString "digits") (c₁ := L' + 1 + 1 + 1) (c₂ := L' + 1 + 1) (c₃ := L' + 1) hC
  replace d₁ : o₁.data = .cell none := d₁
  replace d₂ : o₂.data = .cell (some (.int wd t)) := d₂
  replace d₃ : o₃.data = .cell (some (.ref l)) := d₃
  refine T_cDef rfl rfl rfl ?_
  refine T_makeB W' X' rfl rfl rfl ?_
  intro f fo c' oc vsc tc ctv doc pm h₂ ex hfo X₂ hm hcd hcv
  have X₂' := X₂.perm (List.perm_middle (l₁ := (f, fo) :: ex) (a := (L' + 1 + 1 + 1, o₁)) (l₂ := (L' + 1 + 1, o₂) :: (L' + 1, o₃) :: news))
  refine T_storeC X₂' d₁ rfl rfl rfl ?_
  intro h₃ o₁' d₁' X₃
  generalize hled : (L' + 1 + 1 + 1, o₁') :: ((f, fo) :: ex ++ (L' + 1 + 1, o₂) :: (L' + 1, o₃) :: news) = led at X₃
  have hm' : (c', oc) ∈ led := by
    subst hled
    simp at hm ⊢
    rcases hm with h | ⟨rfl, rfl⟩ | h
    · simp [h]
    · rw [d₁] at hcd; cases hcd
    · rcases h with h | h | h <;> simp [h]
  have mF : (f, fo) ∈ led := by subst hled; simp
  have mI : (L' + 1 + 1 + 1, o₁') ∈ led := by subst hled; simp
  have mN : (L' + 1 + 1, o₂) ∈ led := by subst hled; simp
  have mD : (L' + 1, o₃) ∈ led := by subst hled; simp
  have hl' : Has g led l (lst vs nl) := (hl.up up).mono fun p hp => by subst hled; simp [hp]
  have fin : ∀ h' , St h₀ L m led h' → St h₀ L m news h' := fun h' X₀ => by
    refine St.drop (fr := (L' + 1 + 1 + 1, o₁') :: (f, fo) :: (ex ++ [(L' + 1 + 1, o₂), (L' + 1, o₃)])) ?_
    subst hled
    simpa using X₀
  have hlenv : vs.length = ds.length := hi.length
  walk_at "t1"
  walk_at "t1"
  refine T_isTrue_plain ?_ rfl
  refine T_cell (X₃.get mD) d₃ rfl rfl rfl rfl ?_
  refine T_truthy_list (X₃.has hl') (by omega) ?_
  split
  · rename_i hne
    walk_at "t1"
    refine T_cell (X₃.get mI) d₁' rfl rfl rfl rfl ?_
    refine T_callWith_fn ⟨_, _, _, _, hfo ▸ X₃.get mF⟩ ?_ rfl rfl
    iterate 4 walk_at "t1"
    walk_at "tb"
    iterate 2 walk_at "t1"
    refine T_cell (X₃.get mD) d₃ rfl rfl rfl rfl ?_
    walk_at "t1"
    refine T_len_list (X₃.has hl') (by omega) fun _ => ?_
    walk_at "t1"
    refine ⟨⟨_, _, _, _, hfo ▸ X₃.get mF⟩, ?_⟩
    rw [hlenv]
    have hpos : 0 < ds.length := by
      rw [← hlenv]
      cases vs with
      | nil => simp at hne
      | cons => simp
    refine d2i_inner hw hlen hds (lo := 0) 40 (by omega) hpos (Nat.le_refl _) ((hr.deeper _).le (by decide)) W' X₃ ⟨⟨doc, pm, ctv, .inr (hfo ▸ mF)⟩, ⟨oc, vsc, tc, .inr hm', hcd, hcv⟩, ⟨o₃, .inr mD, d₃⟩, ⟨o₂, t, .inr mN, d₂⟩, ⟨o₁', .inr mI, d₁'⟩, ⟨vs, nl, hl', hi⟩⟩ ?_
    intro h₄ t₄ X₄
    refine ⟨_, _, X₄, fun X'' => ?_⟩
    have := k _ t₄ (fin _ X'')
    simpa using this
  · rename_i hne
    walk_at "t1"
    refine ⟨_, _, X₃, fun X'' => ?_⟩
    have e : ds = [] := by
      cases vs with
      | nil => cases hi; rfl
      | cons => simp at hne
    subst e
    exact k _ _ (fin _ X'')
end
end Mine
end
section
open PySem PySem.W PySem.Calls PyProof.Rows
set_option maxRecDepth 100000
namespace Mine
local macro_rules | `(tactic| walk_at "t1") => `(tactic| first
  | ((with_reducible refine' T_cAssign ?_ ?ts); (case ts => rfl))
  | (with_reducible refine T_cAug ?_)
  | (with_reducible refine T_cReturn ?_)
  | (with_reducible refine T_cReturn0 ?_)
  | (with_reducible refine T_cIf0 ?_)
  | (with_reducible refine T_cIf ?_)
  | ((with_reducible refine' T_isTrue_Compare ?_ ?tm); (case tm => with_unfolding_all rfl))
  | ((with_reducible refine' T_Compare ?_ ?tm); (case tm => with_unfolding_all rfl))
  | (with_reducible refine T_BinOp ?_)
  | (with_reducible refine T_Subscript ?_)
  | ((with_reducible refine' T_Method ?_ ?te); (case te => rfl))
  | ((with_reducible refine' T_Call ?_ ?te); (case te => rfl))
  | (with_reducible refine T_UnaryOp ?_)
  | (with_reducible refine T_truthy_bool ?_)
  | ((with_reducible refine T_int ?_); intro tk)
  | ((with_reducible refine T_str ?_); intro tk)
  | ((with_reducible refine' T_args_cons ?_ ?te); (case te => rfl))
  | (with_reducible refine T_args_nil ?_)
  | (with_reducible refine T_List ?_)
  | (with_reducible refine T_Tuple ?_)
  | (with_reducible refine T_IfExp ?_)
  | ((with_reducible refine' T_cExpr ?_ ?ti ?ts); (case ti => rfl); (case ts => rfl))
  | ((with_reducible refine' T_cAssignSub ?_ ?ts); (case ts => rfl))
  | ((with_reducible refine' T_callWith_bi ?_ ?te ?tp); (case te => rfl); (case tp => rfl))
  | ((with_reducible refine' T_callWith_ty ?_ ?te ?tp); (case te => rfl); (case tp => rfl))
  | (with_reducible refine T_callWith_bi0 ?_)
  | ((with_reducible refine' T_local ?tX ?tv ?tk ?tl ?td ?_); (case tX => assumption); (case tv => rfl); (case tk => rfl); (case tl => rfl); (case td => rfl))
  | ((with_reducible refine' T_load ?tX ?tv ?tk ?tl ?_); (case tX => assumption); (case tv => rfl); (case tk => rfl); (case tl => rfl))
  | ((with_reducible refine' T_store ?tX ?tk ?tl ?_); (case tX => assumption); (case tk => rfl); (case tl => rfl)))
local macro_rules | `(tactic| walk_at "tg") => `(tactic| ((with_reducible refine' T_global ?tW ?tX ?te ?tk ?tl ?tg ?td ?_); (case tW => assumption); (case tX => assumption); (case te => rfl); (case tk => rfl); (case tl => rfl); (case tg => rfl); (case td => rfl)))
local macro_rules | `(tactic| walk_at "tb") => `(tactic| ((with_reducible refine' T_builtin ?tW ?tX ?te ?tv ?tn ?tk ?tl ?tg ?tb ?td ?_); (case tW => assumption); (case tX => assumption); (case te => rfl); (case tv => first | exact Boot.«len» | exact Boot.«range» | exact Boot.«sum» | exact Boot.«divmod» | exact Boot.«reversed»); (case tn => decide); (case tk => rfl); (case tl => rfl); (case tg => rfl); (case tb => rfl); (case td => rfl)))
structure InA (h₀ : Heap) (news : List (Addr × Obj)) (f cD cN cI c l : Addr) (wd : Nat) : Prop where
  fn : ∃ doc pm ctv, Has h₀ news f (fnMade (Str.ofString "inner") qualA (innerOf 8).1 (innerOf 8).2.1 (innerOf 8).2.2 [(Str.ofString "n", cN), (Str.ofString "inner", cI), (Str.ofString "a_digits", cD)] doc pm c ctv)
  code : ∃ oc vs t, Has h₀ news c oc ∧ oc.data = .fields vs ∧ vs[1]? = some (.str qualA t)
  cd : ∃ o, Has h₀ news cD o ∧ o.data = .cell (some (.ref l))
  cn : ∃ o t, Has h₀ news cN o ∧ o.data = .cell (some (.int wd t))
  ci : ∃ o, Has h₀ news cI o ∧ o.data = .cell (some (.ref f))
theorem InA.up {h₀ g : Heap} {news : List (Addr × Obj)} {f cD cN cI c l : Addr} {wd : Nat} (x : InA h₀ news f cD cN cI c l wd) (k : ∀ b o, h₀.get? b = some o → g.get? b = some o) : InA g news f cD cN cI c l wd where
  fn := let ⟨a, b, c, h⟩ := x.fn; ⟨a, b, c, h.up k⟩
  code := let ⟨a, b, c, h, r⟩ := x.code; ⟨a, b, c, h.up k, r⟩
  cd := let ⟨a, h, r⟩ := x.cd; ⟨a, h.up k, r⟩
  cn := let ⟨a, t, h, r⟩ := x.cn; ⟨a, t, h.up k, r⟩
  ci := let ⟨a, h, r⟩ := x.ci; ⟨a, h.up k, r⟩
theorem ints_set' {x : Int} {u : Tok} {vs : List Value} {ns : List Int} (h : IntsAre vs ns) (j : Nat) : IntsAre (vs.set j (.int x u)) (ns.set j x) := ints_set h j
theorem set_split {α : Type} (ns : List α) (j : Nat) (x : α) (h : j < ns.length) : ns.set j x = ns.take j ++ [x] ++ ns.drop (j + 1) := by
  rw [List.set_eq_take_append_cons_drop, if_pos h]; simp
theorem join_parts {ns : List Int} {wd lo mid hi x : Nat} (h1 : lo ≤ mid) (h2 : mid ≤ hi) (h3 : hi ≤ ns.length) :
    (ns.take lo ++ dg wd (mid - lo) (x % 2 ^ (wd * (mid - lo))) ++ ns.drop mid).take mid ++ dg wd (hi - mid) (x / 2 ^ (wd * (mid - lo))) ++ (ns.take lo ++ dg wd (mid - lo) (x % 2 ^ (wd * (mid - lo))) ++ ns.drop mid).drop hi =
      ns.take lo ++ dg wd (hi - lo) x ++ ns.drop hi := by
  have hA : (ns.take lo ++ dg wd (mid - lo) (x % 2 ^ (wd * (mid - lo)))).length = mid := by
    rw [List.length_append, List.length_take, dg_length]; omega
  generalize hAe : ns.take lo ++ dg wd (mid - lo) (x % 2 ^ (wd * (mid - lo))) = B at hA
  have e1 : (B ++ ns.drop mid).take mid = B := by rw [← hA]; exact List.take_left ..
  have e2 : (B ++ ns.drop mid).drop hi = ns.drop hi := by
    rw [List.drop_append, hA, List.drop_of_length_le (by omega), List.nil_append, List.drop_drop]
    congr 1; omega
  rw [e1, e2, show hi - lo = (mid - lo) + (hi - mid) by omega, dg_append, ← hAe]
  simp
section
variable {w : World} {prog : Program} {S : Shared} {f cD cN cI c l : Addr} {wd : Nat}
theorem i2d_inner (hw : wd ≤ 600) : ∀ (N : Nat) {lo hi x : Nat} {A : Around} {h₀ h : Heap} {L : Addr} {m : Str → Option Value} {news : List (Addr × Obj)} {P : Value → Heap → Prop} {t₁ t₂ t₃ : Tok} {vs : List Value} {nl : Nat} {ns : List Int},
    hi - lo ≤ N → lo < hi → hi ≤ ns.length → ns.length ≤ 40 → x < 2 ^ (wd * (hi - lo)) → Rm A N → Wd w h₀ → St h₀ L m ((l, lst vs nl) :: news) h → IntsAre vs ns → InA h₀ news f cD cN cI c l wd →
    (∀ h' vs' nl', IntsAre vs' (ns.take lo ++ dg wd (hi - lo) x ++ ns.drop hi) → St h₀ L m ((l, lst vs' nl') :: news) h' → P .none h') → T (model prog w) A S (call (.ref f) [.int x t₁, .int lo t₂, .int hi t₃]) h P := by
  intro N
  induction N with
  | zero => intros; omega
  | succ N ih =>
    intro lo hi x A h₀ h L m news P t₁ t₂ t₃ vs nl ns hN h1 h2 h3 hx hr W X hints I k
    obtain ⟨doc, pm, ctv, hfn⟩ := I.fn
    obtain ⟨oc, vsc, tc, hco, hcd, hcv⟩ := I.code
    refine T_call (binds := [(Str.ofString "x", .int x t₁), (Str.ofString "L", .int lo t₂), (Str.ofString "R", .int hi t₃)]) W X (X.has hfn.more) ⟨c, oc, vsc, tc, rfl, X.has hco.more, hcd, hcv⟩ hr.room (by rfl) (locs rfl) (by decide) ?_
    intro g L' h₁ W' up X'
    have I' := I.up up
    have hr' := hr.deeper (envX qualA (innerOf 8).2.2 L' f (.ref c) [(Str.ofString "n", cN), (Str.ofString "inner", cI), (Str.ofString "a_digits", cD)])
    obtain ⟨oD, hD, hDc⟩ := I'.cd
    obtain ⟨oN, tN, hN', hNc⟩ := I'.cn
    obtain ⟨oI, hI', hIc⟩ := I'.ci
    have hlenv : vs.length = ns.length := hints.length
    refine T_cIf0 ?_
    iterate 4 walk_at "t1"
    refine T_add fun _ => ?_
    walk_at "t1"
    refine T_eq_int ?_
    walk_at "t1"
    split
    · rename_i e
      have e' : hi = lo + 1 := by have := eq_of_beq e; omega
      subst e'
      iterate 2 walk_at "t1"
      refine T_free (X'.has hD.more) hDc rfl rfl rfl rfl rfl ?_
      walk_at "t1"
      refine T_setItem X' (by omega) (by omega) (by omega) ?_
      intro h₂ n₂ X₂
      walk_at "t1"
      refine C_ret ⟨_, _, X₂, fun X'' => ?_⟩
      refine k _ _ _ ?_ X''
      have e2 : lo + 1 - lo = 1 := by omega
      rw [e2, Nat.mul_one] at hx
      rw [e2, dg_one hx, ← set_split ns lo _ (by omega)]
      exact ints_set' hints lo
    · rename_i e
      have hlt : lo + 1 < hi := by
        have : (lo : Int) + 1 ≠ hi := fun q => e (by rw [q]; exact beq_self_eq_true _)
        omega
      iterate 5 walk_at "t1"
      refine T_add fun _ => ?_
      walk_at "t1"
      refine T_rshift (by decide) fun _ => ?_
      generalize hmid : (lo + hi) / 2 = mid
      have emid : ((lo : Int) + hi).fdiv (2 ^ Int.toNat 1) = (mid : Int) := by
        rw [show (2 : Int) ^ Int.toNat 1 = 2 by rfl, Int.fdiv_eq_ediv_of_nonneg _ (by decide)]; omega
      rw [emid]
      walk_at "t1"
      intro h₂ X₂
      iterate 5 walk_at "t1"
      refine T_sub fun _ => ?_
      refine T_free (X₂.has hN'.more) hNc rfl rfl rfl rfl rfl ?_
      refine T_mul (.of_left (small_bits (by omega) (by omega))) fun _ => ?_
      rw [shift_nat (w := wd) (lo := lo) (mid := mid) (by omega)]
      generalize hsh : wd * (mid - lo) = sh
      walk_at "t1"
      intro h₃ X₃
      iterate 4 walk_at "t1"
      refine T_rshift (by omega) fun _ => ?_
      rw [Int.toNat_natCast, shr_nat]
      walk_at "t1"
      intro h₄ X₄
      iterate 6 walk_at "t1"
      have hpow : x / 2 ^ sh < 2 ^ (wd * (hi - lo)) := Nat.lt_of_le_of_lt (Nat.div_le_self ..) hx
      have hbig : wd * (hi - lo) ≤ 600 * 40 := Nat.mul_le_mul hw (by omega)
      have hsh2 : sh ≤ 600 * 40 := by rw [← hsh]; exact Nat.mul_le_mul hw (by omega)
      have hbits : Builtin.Int.intBits ((x / 2 ^ sh : Nat) : Int) ≤ wd * (hi - lo) := bits_le (Int.natCast_nonneg _) (by exact_mod_cast hpow)
      generalize hbv : Builtin.Int.intBits ((x / 2 ^ sh : Nat) : Int) = bv at hbits
      refine T_lshift (Int.natCast_nonneg _) (by rw [hbv]; omega) fun _ => ?_
      rw [Int.toNat_natCast]
      refine T_xor fun _ => ?_
      rw [xor_low]
      walk_at "t1"
      intro h₅ X₅
      have fnAt : ∀ {m' : Str → Option Value} {h' : Heap} {p : Addr × Obj}, St g L' m' (p :: news) h' → FnAt f h' := fun X₀ => ⟨_, _, _, _, X₀.has (hfn.up up).more⟩
      iterate 2 walk_at "t1"
      refine T_free (X₅.has hI'.more) hIc rfl rfl rfl rfl rfl ?_
      refine T_callWith_fn (fnAt X₅) ?_ rfl rfl
      iterate 7 walk_at "t1"
      refine ⟨fnAt X₅, ?_⟩
      have hmod : x % 2 ^ sh < 2 ^ (wd * (mid - lo)) := by rw [hsh]; exact Nat.mod_lt _ (Nat.two_pow_pos _)
      refine ih (lo := lo) (hi := mid) (by omega) (by omega) (by omega) h3 hmod hr' W' X₅ hints I' ?_
      intro h₆ vs₆ n₆ ints₆ X₆
      iterate 2 walk_at "t1"
      refine T_free (X₆.has hI'.more) hIc rfl rfl rfl rfl rfl ?_
      refine T_callWith_fn (fnAt X₆) ?_ rfl rfl
      iterate 7 walk_at "t1"
      refine ⟨fnAt X₆, ?_⟩
      have hdiv : x / 2 ^ sh < 2 ^ (wd * (hi - mid)) := by
        rw [Nat.div_lt_iff_lt_mul (Nat.two_pow_pos _), ← Nat.pow_add, ← hsh, ← Nat.mul_add]
        rw [show hi - mid + (mid - lo) = hi - lo by omega]; exact hx
      have hl6 : (ns.take lo ++ dg wd (mid - lo) (x % 2 ^ sh) ++ ns.drop mid).length = ns.length := by
        simp only [List.length_append, List.length_take, List.length_drop, dg_length]; omega
      refine ih (lo := mid) (hi := hi) (by omega) (by omega) (by omega) (by omega) hdiv hr' W' X₆ ints₆ I' ?_
      intro h₇ vs₇ n₇ ints₇ X₇
      refine T_nil ?_
      refine ⟨_, _, X₇, fun X'' => ?_⟩
      refine k _ _ _ ?_ X''
      have := join_parts (ns := ns) (wd := wd) (lo := lo) (mid := mid) (hi := hi) (x := x) (by omega) (by omega) h2
      rw [hsh] at this
      rw [← this]
      exact ints₇
theorem i2d_spec {a : Nat} {A : Around} {h₀ h : Heap} {L : Addr} {m : Str → Option Value} {news : List (Addr × Obj)} {P : Value → Heap → Prop} {t u : Tok} (hw : wd ≤ 600) (hw1 : 1 ≤ wd) (ha : a < 2 ^ (wd * 40))
    (hr : Rm A 42) (W : Wd w h₀) (X : St h₀ L m news h) (k : ∀ h' l vs n, IntsAre vs (dg wd (nd wd a) a) → St h₀ L m ((l, lst vs n) :: news) h' → P (.ref l) h') :
    T (model prog w) A S (call (.ref 42) [.int a t, .int wd u]) h P := by
  refine T_callC (binds := [(Str.ofString "a", .int a t), (Str.ofString "n", .int wd u)]) W X (X.keep _ _ (W.X 42 _ rfl)) (codeRec_of (W.X.keeps X.keep) (by rfl)) hr.room (by rfl) (fun n => kinds_of (by exact ⟨.inl rfl, .inr ⟨rfl, rfl⟩, trivial⟩)) (by decide) ?_
  intro g L' h₁ cells W' up X' hC
  obtain ⟨o₁, o₂, o₃, rfl, d₁, d₂, d₃⟩ := CellsAre.three (n₁ := Str.ofString "inner") (n₂ := Str.ofString "a_digits") (n₃ := Str.ofString "n") (c₁ := L' + 1 + 1 + 1) (c₂ := L' + 1 + 1) (c₃ := L' + 1) hC
  replace d₁ : o₁.data = .cell none := d₁
  replace d₂ : o₂.data = .cell none := d₂
  replace d₃ : o₃.data = .cell (some (.int wd u)) := d₃
  obtain ⟨hn40, hpow, hpos, hzero⟩ := nd_facts hw1 ha
  have hb : Builtin.Int.intBits (a : Int) ≤ wd * 40 := bits_le (Int.natCast_nonneg _) (by exact_mod_cast ha)
  have hw40 : wd * 40 ≤ 600 * 40 := Nat.mul_le_mul_right _ hw
  iterate 6 walk_at "t1"
  refine T_newList X' (by simp) ?_
  intro l₀ h₂ X₂
  iterate 5 walk_at "t1"
  refine T_getMethod_bits ?_
  walk_at "t1"
  refine T_bits fun _ => ?_
  refine T_cell (X₂.get (by simp)) d₃ rfl rfl rfl rfl ?_
  refine T_add fun _ => ?_
  walk_at "t1"
  refine T_sub fun _ => ?_
  refine T_cell (X₂.get (by simp)) d₃ rfl rfl rfl rfl ?_
  refine T_fdiv (by omega) (noPyl (Nat.le_trans (bits_le (k := 30) (by omega) (by omega)) (by decide))) fun _ => ?_
  rw [nd_int hw1]
  refine T_mul_list X₂ (X₂.get (.head _)) (by omega) (by omega) ?_
  intro l h₃ X₃
  rw [Int.toNat_natCast] at X₃
  generalize hvs : List.replicate (nd wd a) (Value.int 0 _) = vs at X₃
  have hints : IntsAre vs (List.replicate (nd wd a) 0) := by
    subst hvs
    induction nd wd a with
    | zero => exact .nil
    | succ n ih => exact .cons _ _ ih
  have hlenv : vs.length = nd wd a := by rw [hints.length, List.length_replicate]
  have X₃' := X₃.perm (List.perm_middle (l₁ := [(l, lst vs), (l₀, _), (L' + 1 + 1 + 1, o₁)]) (a := (L' + 1 + 1, o₂)) (l₂ := (L' + 1, o₃) :: news))
  refine T_storeC X₃' d₂ rfl rfl rfl ?_
  intro h₄ o₂' d₂' X₄
  refine T_cDef rfl rfl rfl ?_
  refine T_makeA W' X₄ rfl rfl rfl ?_
  intro f fo c' oc vsc tc ctv doc pm h₅ ex hfo X₅ hm hcd hcv
  generalize hol : lst [Value.int 0 _] = ol at X₅ X₄ hm
  have X₅' := X₅.cast ((((f, fo) :: ex) ++ [(L' + 1 + 1, o₂'), (l, lst vs), (l₀, ol)]) ++ (L' + 1 + 1 + 1, o₁) :: ((L' + 1, o₃) :: news)) (by simp)
  refine T_storeC (X₅'.perm List.perm_middle) d₁ rfl rfl rfl ?_
  intro h₆ o₁' d₁' X₆
  have X₆' := X₆.cast ((((L' + 1 + 1 + 1, o₁') :: (f, fo) :: ex) ++ [(L' + 1 + 1, o₂')]) ++ (l, lst vs) :: ([(l₀, ol), (L' + 1, o₃)] ++ news)) (by simp)
  replace X₆' := X₆'.perm List.perm_middle
  generalize hrest : (((L' + 1 + 1 + 1, o₁') :: (f, fo) :: ex) ++ [(L' + 1 + 1, o₂')]) ++ ([(l₀, ol), (L' + 1, o₃)] ++ news) = rest at X₆'
  have mC : (c', oc) ∈ rest := by
    subst hrest
    simp at hm ⊢
    rcases hm with h | ⟨rfl, rfl⟩ | ⟨rfl, rfl⟩ | ⟨rfl, rfl⟩ | ⟨rfl, rfl⟩ | ⟨rfl, rfl⟩ | h
    · simp [h]
    · rw [d₂'] at hcd; cases hcd
    · cases hcd
    · rw [← hol] at hcd; cases hcd
    · rw [d₁] at hcd; cases hcd
    · rw [d₃] at hcd; cases hcd
    · simp [h]
  have mF : (f, fo) ∈ rest := by subst hrest; simp
  have mI : (L' + 1 + 1 + 1, o₁') ∈ rest := by subst hrest; simp
  have mD : (L' + 1 + 1, o₂') ∈ rest := by subst hrest; simp
  have mN : (L' + 1, o₃) ∈ rest := by subst hrest; simp
  have fin : ∀ h' vs' n', St h₀ L m ((l, lst vs' n') :: rest) h' → St h₀ L m ((l, lst vs' n') :: news) h' := fun h' vs' n' X₀ => by
    refine St.drop (fr := ((L' + 1 + 1 + 1, o₁') :: (f, fo) :: ex) ++ [(L' + 1 + 1, o₂'), (l₀, ol), (L' + 1, o₃)]) (X₀.perm ?_)
    subst hrest
    have e : ((((L' + 1 + 1 + 1, o₁') :: (f, fo) :: ex) ++ [(L' + 1 + 1, o₂')]) ++ ([(l₀, ol), (L' + 1, o₃)] ++ news)) = (((L' + 1 + 1 + 1, o₁') :: (f, fo) :: ex) ++ [(L' + 1 + 1, o₂'), (l₀, ol), (L' + 1, o₃)]) ++ news := by simp
    rw [e]
    exact List.perm_middle.symm
  have fnAt : ∀ {m' : Str → Option Value} {h' : Heap} {p : Addr × Obj}, St g L' m' (p :: rest) h' → FnAt f h' := fun X₀ => ⟨_, _, _, _, X₀.get (.tail _ (hfo ▸ mF))⟩
  walk_at "t1"
  refine T_isTrue_plain ?_ rfl
  walk_at "t1"
  refine T_truthy_int ?_
  split
  · rename_i hne
    have hne' : a ≠ 0 := by
      intro q; subst q; simp at hne
    iterate 2 walk_at "t1"
    refine T_cell (X₆'.get (.tail _ mI)) d₁' rfl rfl rfl rfl ?_
    refine T_callWith_fn (fnAt X₆') ?_ rfl rfl
    iterate 6 walk_at "t1"
    walk_at "tb"
    iterate 2 walk_at "t1"
    refine T_cell (X₆'.get (.tail _ mD)) d₂' rfl rfl rfl rfl ?_
    walk_at "t1"
    refine T_len_list (X₆'.get (.head _)) (by omega) fun _ => ?_
    walk_at "t1"
    refine ⟨fnAt X₆', ?_⟩
    rw [hlenv]
    refine i2d_inner hw (lo := 0) 40 (by omega) (hpos hne') (by rw [List.length_replicate]; exact Nat.le_refl _) (by rw [List.length_replicate]; exact hn40) hpow ((hr.deeper _).le (by decide)) W' X₆' hints ⟨⟨doc, pm, ctv, .inr (hfo ▸ mF)⟩, ⟨oc, vsc, tc, .inr mC, hcd, hcv⟩, ⟨o₂', .inr mD, d₂'⟩, ⟨o₃, u, .inr mN, d₃⟩, ⟨o₁', .inr mI, d₁'⟩⟩ ?_
    intro h₇ vs₇ n₇ ints₇ X₇
    refine T_nil ?_
    refine C_next ?_
    walk_at "t1"
    refine T_cell (X₇.get (.tail _ mD)) d₂' rfl rfl rfl rfl ?_
    refine ⟨_, _, X₇, fun X'' => ?_⟩
    refine k _ _ _ _ ?_ (fin _ _ _ X'')
    simpa using ints₇
  · rename_i hne
    have hz : a = 0 := by
      rcases Nat.eq_zero_or_pos a with q | q
      · exact q
      · exact absurd (by simp; omega) hne
    walk_at "t1"
    refine T_cell (X₆'.get (.tail _ mD)) d₂' rfl rfl rfl rfl ?_
    refine ⟨_, _, X₆', fun X'' => ?_⟩
    refine k _ _ _ _ ?_ (fin _ _ _ X'')
    have e0 := hzero hz
    rw [e0] at hints ⊢
    exact hints
end
end Mine
end
section
open PySem PySem.W PySem.Calls PyProof.Rows
set_option maxRecDepth 100000
namespace Mine
local macro_rules | `(tactic| walk_at "look") => `(tactic| first | rfl | assumption | ((refine Eq.trans (if_neg (by decide)) ?_); walk_at "look") | ((refine Eq.trans (if_pos rfl) ?_); walk_at "look"))
local macro_rules | `(tactic| walk_at "t1") => `(tactic| first
  | ((with_reducible refine' T_cAssign ?_ ?ts); (case ts => rfl))
  | (with_reducible refine T_cAug ?_)
  | (with_reducible refine T_cReturn ?_)
  | (with_reducible refine T_cReturn0 ?_)
  | (with_reducible refine T_cIf0 ?_)
  | (with_reducible refine T_cIf ?_)
  | ((with_reducible refine' T_isTrue_Compare ?_ ?tm); (case tm => with_unfolding_all rfl))
  | ((with_reducible refine' T_Compare ?_ ?tm); (case tm => with_unfolding_all rfl))
  | (with_reducible refine T_BinOp ?_)
  | (with_reducible refine T_Subscript ?_)
  | ((with_reducible refine' T_Method ?_ ?te); (case te => rfl))
  | ((with_reducible refine' T_Call ?_ ?te); (case te => rfl))
  | (with_reducible refine T_UnaryOp ?_)
  | (with_reducible refine T_truthy_bool ?_)
  | ((with_reducible refine T_int ?_); intro tk)
  | ((with_reducible refine T_str ?_); intro tk)
  | ((with_reducible refine' T_args_cons ?_ ?te); (case te => rfl))
  | (with_reducible refine T_args_nil ?_)
  | (with_reducible refine T_List ?_)
  | (with_reducible refine T_Tuple ?_)
  | (with_reducible refine T_IfExp ?_)
  | ((with_reducible refine' T_cExpr ?_ ?ti ?ts); (case ti => rfl); (case ts => rfl))
  | ((with_reducible refine' T_cAssignSub ?_ ?ts); (case ts => rfl))
  | ((with_reducible refine' T_callWith_bi ?_ ?te ?tp); (case te => rfl); (case tp => rfl))
  | ((with_reducible refine' T_callWith_ty ?_ ?te ?tp); (case te => rfl); (case tp => rfl))
  | (with_reducible refine T_callWith_bi0 ?_)
  | ((with_reducible refine' T_local ?tX ?tv ?tk ?tl ?td ?_); (case tX => assumption); (case tv => walk_at "look"); (case tk => rfl); (case tl => rfl); (case td => rfl))
  | ((with_reducible refine' T_load ?tX ?tv ?tk ?tl ?_); (case tX => assumption); (case tv => walk_at "look"); (case tk => rfl); (case tl => rfl))
  | ((with_reducible refine' T_store ?tX ?tk ?tl ?_); (case tX => assumption); (case tk => rfl); (case tl => rfl)))
local macro_rules | `(tactic| walk_at "tg") => `(tactic| ((with_reducible refine' T_global ?tW ?tX ?te ?tk ?tl ?tg ?td ?_); (case tW => assumption); (case tX => assumption); (case te => rfl); (case tk => rfl); (case tl => rfl); (case tg => rfl); (case td => rfl)))
local macro_rules | `(tactic| walk_at "tb") => `(tactic| ((with_reducible refine' T_builtin ?tW ?tX ?te ?tv ?tn ?tk ?tl ?tg ?tb ?td ?_); (case tW => assumption); (case tX => assumption); (case te => rfl); (case tv => first | exact Boot.«len» | exact Boot.«range» | exact Boot.«sum» | exact Boot.«divmod» | exact Boot.«reversed»); (case tn => decide); (case tk => rfl); (case tl => rfl); (case tg => rfl); (case tb => rfl); (case td => rfl)))
section
variable {w : World} {prog : Program} {S : Shared}
theorem div_spec {a b n : Int} {A : Around} {h₀ h : Heap} {L : Addr} {m : Str → Option Value} {news : List (Addr × Obj)} {P : Value → Heap → Prop} {t u v : Tok} (hb : b ≠ 0) (hbits : (Builtin.Int.intBits a : Int) - n ≤ 4000) (hp : Builtin.Int.intBits b ≤ 8000)
    (hr : Rm A 2) (W : Wd w h₀) (X : St h₀ L m news h) (k : ∀ h' l t₁ t₂, St h₀ L m ((l, tup [.int (a.fdiv b) t₁, .int (a.fmod b) t₂]) :: news) h' → P (.ref l) h') :
    T (model prog w) A S (call (.ref 28) [.int a t, .int b u, .int n v]) h P := by
  refine T_call (binds := [(Str.ofString "a", .int a t), (Str.ofString "b", .int b u), (Str.ofString "n", .int n v)]) W X (X.keep _ _ (W.X 28 _ rfl)) (codeRec_of (W.X.keeps X.keep) (by rfl)) hr.room (by rfl) (locs rfl) (by decide) ?_
  intro g L' h₁ W' up X'
  iterate 5 walk_at "t1"
  refine T_getMethod_bits ?_
  walk_at "t1"
  refine T_bits fun _ => ?_
  walk_at "t1"
  refine T_sub fun _ => ?_
  walk_at "tg"
  refine T_le_int ?_
  walk_at "t1"
  refine ite_t (decide_eq_true hbits) ?_
  iterate 2 walk_at "t1"
  walk_at "tb"
  iterate 6 walk_at "t1"
  refine T_divmod X' hb (noPyl hp) ?_
  intro l h₂ t₁ t₂ X₂
  exact C_ret ⟨_, _, X₂, fun X'' => k _ _ _ _ X''⟩
theorem divpos_spec {a b : Nat} {A : Around} {h₀ h : Heap} {L : Addr} {m : Str → Option Value} {news : List (Addr × Obj)} {P : Value → Heap → Prop} {t u : Tok} (hb : 0 < b) (hb600 : b < 2 ^ 600) (ha : a < 2 ^ (Builtin.Int.intBits (b : Int) * 40))
    (hr : Rm A 45) (W : Wd w h₀) (X : St h₀ L m news h) (k : ∀ h' l t₁ t₂, St h₀ L m ((l, tup [.int ((a / b : Nat) : Int) t₁, .int ((a % b : Nat) : Int) t₂]) :: news) h' → P (.ref l) h') :
    T (model prog w) A S (call (.ref 56) [.int a t, .int b u]) h P := by
  refine T_call (binds := [(Str.ofString "a", .int a t), (Str.ofString "b", .int b u)]) W X (X.keep _ _ (W.X 56 _ rfl)) (codeRec_of (W.X.keeps X.keep) (by rfl)) hr.room (by rfl) (locs rfl) (by decide) ?_
  intro g L' h₁ W' up X'
  iterate 3 walk_at "t1"
  refine T_getMethod_bits ?_
  walk_at "t1"
  refine T_bits fun tn => ?_
  have hnb : Builtin.Int.intBits (b : Int) ≤ 600 := bits_le (Int.natCast_nonneg _) (by exact_mod_cast hb600)
  have hnb1 : 1 ≤ Builtin.Int.intBits (b : Int) := bits_pos (by omega)
  have hblt : b < 2 ^ Builtin.Int.intBits (b : Int) := lt_bits b
  have hbp : Builtin.Int.intBits (b : Int) ≤ 8000 := by omega
  generalize hnbe : Builtin.Int.intBits (b : Int) = nb at *
  walk_at "t1"
  intro h₂ X₂
  obtain ⟨hn40, hpow, hpos, hzero⟩ := nd_facts hnb1 ha
  iterate 2 walk_at "t1"
  walk_at "tg"
  refine T_callWith_fn ⟨_, _, _, _, X₂.keep _ _ (W'.X 42 _ rfl)⟩ ?_ rfl rfl
  iterate 5 walk_at "t1"
  refine ⟨⟨_, _, _, _, X₂.keep _ _ (W'.X 42 _ rfl)⟩, ?_⟩
  refine i2d_spec hnb hnb1 ha ((hr.deeper _).le (by decide)) W' X₂ ?_
  intro h₃ l vs nl hds X₃
  have hlenv : vs.length = nd nb a := by rw [hds.length, dg_length]
  walk_at "t1"
  intro h₄ X₄
  walk_at "t1"
  refine T_int fun t0 => ?_
  walk_at "t1"
  intro h₅ X₅
  iterate 3 walk_at "t1"
  refine T_newList X₅ (by simp) ?_
  intro lq h₆ X₆
  walk_at "t1"
  intro h₇ X₇
  -- the digits are kept while the loop runs
  obtain ⟨g₂, k1, k2, X₇', back⟩ := St.freeze (news := (lq, lst []) :: news) (fr := [(l, lst vs nl)]) (X₇.perm (.cons _ (List.perm_append_comm (l₁ := [(l, lst vs nl)])))) (fun p hp vs' => by rw [List.mem_singleton.mp hp]; nofun)
  have hl2 := k2 _ (.head _)
  refine T_forRev (hr.deeper _).1 rfl rfl (fun _ => rfl) X₇' hl2
    (fun i m₁ news₁ => ∃ tr qs qvs nq, m₁ (Str.ofString "r") = some (.int ((a / 2 ^ (nb * (nd nb a - i)) % b : Nat) : Int) tr) ∧ m₁ (Str.ofString "n") = some (.int nb tn) ∧ m₁ (Str.ofString "b") = some (.int b u) ∧ m₁ (Str.ofString "q_digits") = some (.ref lq) ∧
      news₁ = (lq, lst qvs nq) :: news ∧ IntsAre qvs qs ∧ qs.length = i ∧ (∀ q ∈ qs, (0 : Int) ≤ q ∧ q < 2 ^ nb) ∧ dv nb qs.reverse = ((a / 2 ^ (nb * (nd nb a - i)) / b : Nat) : Int)) ?_ ?_ ?_ ?_
  · have e0 : a / 2 ^ (nb * (nd nb a - 0)) = 0 := Nat.div_eq_of_lt hpow
    rw [e0]
    refine ⟨t0, [], [], 0, ?_, ?_, ?_, ?_, rfl, .nil, rfl, by simp, ?_⟩
    · rw [Nat.zero_mod]; rfl
    · rfl
    · rfl
    · rfl
    · rw [Nat.zero_div]; rfl
  · intro P' p'
    walk_at "t1"
    walk_at "tb"
    iterate 4 walk_at "t1"
    exact T_reversed (X₇'.keep _ _ hl2) p'
  · intro i v m₁ news₁ g₃ h₈ hi hv hJ kk X₈
    obtain ⟨tr, qs, qvs, nq, mr, mn, mb, mq, rfl, qints, qlen, qb, qv⟩ := hJ
    have W₃ := W'.keeps fun b o e => kk b o (k1 b o e)
    have hi' : i < nd nb a := by omega
    -- the digit
    have hdig : (dg nb (nd nb a) a)[nd nb a - 1 - i]? = some (((a / 2 ^ (nb * (nd nb a - 1 - i))) % 2 ^ nb : Nat) : Int) := dg_get nb _ a _ (by omega)
    obtain ⟨td, hvd⟩ := hds.get _ _ hdig
    rw [hlenv, hvd] at hv
    obtain rfl := Option.some.inj hv
    have hj : nd nb a - i = (nd nb a - 1 - i) + 1 := by omega
    have hnx := top_next a nb (nd nb a - 1 - i)
    rw [← hj] at hnx
    have hj2 : nd nb a - (i + 1) = nd nb a - 1 - i := by omega
    rw [hj2]
    generalize hAi : a / 2 ^ (nb * (nd nb a - i)) = Ai at *
    generalize hd : a / 2 ^ (nb * (nd nb a - 1 - i)) % 2 ^ nb = dgt at *
    have hdl : dgt < 2 ^ nb := by rw [← hd]; exact Nat.mod_lt _ (Nat.two_pow_pos _)
    obtain ⟨q1, q2, q3⟩ := long_div (A := Ai) hb hdl
    rw [hnx]
    refine T_cAssignTup (hr.deeper _).1 rfl rfl rfl ?_ rfl rfl
    walk_at "t1"
    walk_at "tg"
    refine T_callWith_fn ⟨_, _, _, _, X₈.keep _ _ (W₃.X 28 _ rfl)⟩ ?_ rfl rfl
    iterate 5 walk_at "t1"
    have hrb : Ai % b < 2 ^ nb := Nat.lt_trans (Nat.mod_lt _ hb) hblt
    have hb1 : Builtin.Int.intBits ((Ai % b : Nat) : Int) ≤ nb := bits_le (Int.natCast_nonneg _) (by exact_mod_cast hrb)
    refine T_lshift (Int.natCast_nonneg _) (by omega) fun _ => ?_
    rw [Int.toNat_natCast]
    walk_at "t1"
    refine T_add fun _ => ?_
    have eN : ((Ai % b : Nat) : Int) * 2 ^ nb + ((dgt : Nat) : Int) = ((Ai % b * 2 ^ nb + dgt : Nat) : Int) := by push_cast; rfl
    rw [eN]
    iterate 5 walk_at "t1"
    refine ⟨⟨_, _, _, _, X₈.keep _ _ (W₃.X 28 _ rfl)⟩, ?_⟩
    have hbig : Ai % b * 2 ^ nb + dgt < 2 ^ (nb + nb) := by
      rw [Nat.pow_add]
      have h1 : (Ai % b + 1) * 2 ^ nb ≤ 2 ^ nb * 2 ^ nb := Nat.mul_le_mul_right _ hrb
      rw [Nat.add_mul, Nat.one_mul] at h1
      omega
    have hb2 : Builtin.Int.intBits ((Ai % b * 2 ^ nb + dgt : Nat) : Int) ≤ nb + nb := bits_le (Int.natCast_nonneg _) (by exact_mod_cast hbig)
    refine div_spec (by omega) (by omega) (by omega) ((hr.deeper _).le (by decide)) W₃ X₈ ?_
    intro h₉ lt t₁ t₂ X₉
    rw [fdiv_nat, fmod_nat] at X₉
    refine ⟨lt, _, _, _, _, _, rfl, X₉.get (.head _), X₉.tail, ?_⟩
    intro h₁₀ X₁₀
    iterate 3 walk_at "t1"
    refine T_getMethod_append (X₁₀.get (.head _)) ?_
    iterate 4 walk_at "t1"
    refine T_append X₁₀ (by rw [qints.length]; omega) ?_
    intro h₁₁ n₁₁ X₁₁
    refine T_nil ⟨.inl rfl, _, _, X₁₁, ?_⟩
    refine ⟨t₂, qs ++ [(((Ai % b * 2 ^ nb + dgt) / b : Nat) : Int)], _, _, ?_, ?_, ?_, ?_, rfl, qints.append (.cons _ _ .nil), by simp [qlen], ?_, ?_⟩
    · rw [q2]; rfl
    · walk_at "look"
    · walk_at "look"
    · walk_at "look"
    · intro q hq
      rcases List.mem_append.mp hq with hq | hq
      · exact qb q hq
      · rw [List.mem_singleton.mp hq]
        exact ⟨Int.natCast_nonneg _, by exact_mod_cast q3⟩
    · rw [List.reverse_append, List.reverse_singleton, List.singleton_append, dv, qv, q1]
      push_cast
      rw [Int.add_comm, Int.mul_comm]
  · intro m' news' h₈ hJ X₈
    obtain ⟨tr, qs, qvs, nq, mr, mn, mb, mq, rfl, qints, qlen, qb, qv⟩ := hJ
    have X₈' := back _ _ _ X₈
    have e0 : a / 2 ^ (nb * (nd nb a - vs.length)) = a := by rw [hlenv, Nat.sub_self, Nat.mul_zero, Nat.pow_zero, Nat.div_one]
    rw [e0] at mr qv
    replace X₈ := St.dropEnd (news := (lq, lst qvs nq) :: news) X₈'
    have hql : qvs.length = vs.length := by rw [qints.length, qlen]
    iterate 3 walk_at "t1"
    refine T_getMethod_reverse (X₈.get (.head _)) ?_
    walk_at "t1"
    refine T_reverse X₈ (by omega) ?_
    intro h₉ n₉ X₉
    iterate 2 walk_at "t1"
    walk_at "tg"
    refine T_callWith_fn ⟨_, _, _, _, X₉.keep _ _ (W'.X 49 _ rfl)⟩ ?_ rfl rfl
    iterate 5 walk_at "t1"
    refine ⟨⟨_, _, _, _, X₉.keep _ _ (W'.X 49 _ rfl)⟩, ?_⟩
    refine d2i_spec (ds := qs.reverse) (wd := nb) hnb (by rw [List.length_reverse]; omega) (fun d hd => ?_) ((hr.deeper _).le (by decide)) W' X₉ (.inr (.head _)) qints.reverse ?_
    · have := qb d (List.mem_reverse.mp hd)
      exact ⟨this.1, Int.lt_of_lt_of_le this.2 (two_pow_le hnb)⟩
    intro h₁₀ t₁₀ X₁₀
    rw [qv]
    walk_at "t1"
    intro h₁₁ X₁₁
    iterate 7 walk_at "t1"
    refine T_newTuple X₁₁ (by simp) ?_
    intro lt h₁₂ X₁₂
    refine ⟨_, _, X₁₂, fun X'' => ?_⟩
    exact k _ _ _ _ (St.drop (fr := [(lq, _)]) (X''.perm (List.Perm.swap ..)))
theorem divmod_spec {a b : Nat} {A : Around} {h₀ h : Heap} {L : Addr} {m : Str → Option Value} {news : List (Addr × Obj)} {P : Value → Heap → Prop} {t u : Tok} (hb : 0 < b) (hb600 : b < 2 ^ 600) (ha : a < 2 ^ (Builtin.Int.intBits (b : Int) * 40))
    (hr : Rm A 46) (W : Wd w h₀) (X : St h₀ L m news h) (k : ∀ h' l t₁ t₂, St h₀ L m ((l, tup [.int ((a / b : Nat) : Int) t₁, .int ((a % b : Nat) : Int) t₂]) :: news) h' → P (.ref l) h') :
    T (model prog w) A S (call (.ref 63) [.int a t, .int b u]) h P := by
  refine T_call (binds := [(Str.ofString "a", .int a t), (Str.ofString "b", .int b u)]) W X (X.keep _ _ (W.X 63 _ rfl)) (codeRec_of (W.X.keeps X.keep) (by rfl)) hr.room (by rfl) (locs rfl) (by decide) ?_
  intro g L' h₁ W' up X'
  iterate 4 walk_at "t1"
  refine T_eq_int ?_
  walk_at "t1"
  refine ite_f (by simp; omega) ?_
  iterate 4 walk_at "t1"
  refine T_lt_int ?_
  walk_at "t1"
  refine ite_f (by simp) ?_
  iterate 4 walk_at "t1"
  refine T_lt_int ?_
  walk_at "t1"
  refine ite_f (by simp) ?_
  iterate 2 walk_at "t1"
  walk_at "tg"
  refine T_callWith_fn ⟨_, _, _, _, X'.keep _ _ (W'.X 56 _ rfl)⟩ ?_ rfl rfl
  iterate 5 walk_at "t1"
  refine ⟨⟨_, _, _, _, X'.keep _ _ (W'.X 56 _ rfl)⟩, ?_⟩
  refine divpos_spec hb hb600 ha (hr.deeper _) W' X' ?_
  intro h₂ l t₁ t₂ X₂
  refine C_ret (C_ret (C_ret ⟨_, _, X₂, fun X'' => k _ _ _ _ X''⟩))
end
end Mine
end
section
open PySem PySem.W PySem.Calls PyProof.Rows
set_option maxRecDepth 100000
namespace Mine
local macro_rules | `(tactic| walk_at "look") => `(tactic| first | rfl | assumption | ((refine Eq.trans (if_neg (by decide)) ?_); walk_at "look") | ((refine Eq.trans (if_pos rfl) ?_); walk_at "look"))
local macro_rules | `(tactic| walk_at "t1") => `(tactic| first
  | ((with_reducible refine' T_cAssign ?_ ?ts); (case ts => rfl))
  | (with_reducible refine T_cAug ?_)
  | (with_reducible refine T_cReturn ?_)
  | (with_reducible refine T_cReturn0 ?_)
  | (with_reducible refine T_cIf0 ?_)
  | (with_reducible refine T_cIf ?_)
  | ((with_reducible refine' T_isTrue_Compare ?_ ?tm); (case tm => with_unfolding_all rfl))
  | ((with_reducible refine' T_Compare ?_ ?tm); (case tm => with_unfolding_all rfl))
  | (with_reducible refine T_BinOp ?_)
  | (with_reducible refine T_Subscript ?_)
  | ((with_reducible refine' T_Method ?_ ?te); (case te => rfl))
  | ((with_reducible refine' T_Call ?_ ?te); (case te => rfl))
  | (with_reducible refine T_UnaryOp ?_)
  | (with_reducible refine T_truthy_bool ?_)
  | ((with_reducible refine T_int ?_); intro tk)
  | ((with_reducible refine T_str ?_); intro tk)
  | ((with_reducible refine' T_args_cons ?_ ?te); (case te => rfl))
  | (with_reducible refine T_args_nil ?_)
  | (with_reducible refine T_List ?_)
  | (with_reducible refine T_Tuple ?_)
  | (with_reducible refine T_IfExp ?_)
  | ((with_reducible refine' T_cExpr ?_ ?ti ?ts); (case ti => rfl); (case ts => rfl))
  | ((with_reducible refine' T_cAssignSub ?_ ?ts); (case ts => rfl))
  | ((with_reducible refine' T_callWith_bi ?_ ?te ?tp); (case te => rfl); (case tp => rfl))
  | ((with_reducible refine' T_callWith_ty ?_ ?te ?tp); (case te => rfl); (case tp => rfl))
  | (with_reducible refine T_callWith_bi0 ?_)
  | ((with_reducible refine' T_local ?tX ?tv ?tk ?tl ?td ?_); (case tX => assumption); (case tv => walk_at "look"); (case tk => rfl); (case tl => rfl); (case td => rfl))
  | ((with_reducible refine' T_load ?tX ?tv ?tk ?tl ?_); (case tX => assumption); (case tv => walk_at "look"); (case tk => rfl); (case tl => rfl))
  | ((with_reducible refine' T_store ?tX ?tk ?tl ?_); (case tX => assumption); (case tk => rfl); (case tl => rfl)))
local macro_rules | `(tactic| walk_at "tg") => `(tactic| ((with_reducible refine' T_global ?tW ?tX ?te ?tk ?tl ?tg ?td ?_); (case tW => assumption); (case tX => assumption); (case te => rfl); (case tk => rfl); (case tl => rfl); (case tg => rfl); (case td => rfl)))
local macro_rules | `(tactic| walk_at "tb") => `(tactic| ((with_reducible refine' T_builtin ?tW ?tX ?te ?tv ?tn ?tk ?tl ?tg ?tb ?td ?_); (case tW => assumption); (case tX => assumption); (case te => rfl); (case tv => first | exact Boot.«len» | exact Boot.«range» | exact Boot.«sum» | exact Boot.«divmod» | exact Boot.«reversed»); (case tn => decide); (case tk => rfl); (case tl => rfl); (case tg => rfl); (case tb => rfl); (case td => rfl)))
def cst (a b : Nat) : Int := costOf ⟨#[a]⟩ ⟨#[b]⟩
noncomputable def costTo (xs ys : List Nat) (s : Int) : Nat → Int
  | 0 => 0
  | k + 1 => costTo xs ys s k + (if 0 ≤ (k : Int) - s ∧ (k : Int) - s < ys.length then cst (xs.getD k 0) (ys.getD ((k : Int) - s).toNat 0) else 0)
noncomputable def costsL (xs ys : List Nat) : List Int := (List.range (xs.length + ys.length - 1)).map fun (j : Nat) => costTo xs ys (1 - (ys.length : Int) + j) xs.length
section
variable {w : World} {prog : Program} {S : Shared}
theorem costs_spec {fs sc : Str} {A : Around} {h₀ h : Heap} {L : Addr} {m : Str → Option Value} {news : List (Addr × Obj)} {P : Value → Heap → Prop} {t u : Tok} (hf : fs.cps.size ≤ 40) (hs1 : 1 ≤ sc.cps.size) (hs : sc.cps.size ≤ 40)
    (hr : Rm A 4) (W : Wd w h₀) (X : St h₀ L m news h) (k : ∀ h' l vs n, IntsAre vs (costsL fs.cps.toList sc.cps.toList) → St h₀ L m ((l, lst vs n) :: news) h' → P (.ref l) h') :
    T (model prog w) A S (call (.ref 75) [.str fs t, .str sc u]) h P := by
  refine T_call (binds := [(Str.ofString "first", .str fs t), (Str.ofString "second", .str sc u)]) W X (X.keep _ _ (W.X 75 _ rfl)) (codeRec_of (W.X.keeps X.keep) (by rfl)) hr.room (by rfl) (locs rfl) (by decide) ?_
  intro g L' h₁ W' up X'
  have hr' := hr.deeper (envX (Str.ofString "_law_costs") (default) L' 75 (.ref 74) [])
  iterate 3 walk_at "t1"
  refine T_newList X' (by simp) ?_
  intro lc h₂ X₂
  walk_at "t1"
  intro h₃ X₃
  have hfl : fs.length = fs.cps.size := rfl
  have hsl : sc.length = sc.cps.size := rfl
  refine T_forRange (h₀ := g) (news := (lc, lst []) :: news) (L := L') hr'.1 rfl rfl (fun _ => rfl)
    (fun j m₁ news₁ => ∃ vs n, m₁ (Str.ofString "first") = some (.str fs t) ∧ m₁ (Str.ofString "second") = some (.str sc u) ∧ m₁ (Str.ofString "costs") = some (.ref lc) ∧
      news₁ = (lc, lst vs n) :: news ∧ IntsAre vs ((List.range j).map fun (j : Nat) => costTo fs.cps.toList sc.cps.toList (1 - (sc.cps.toList.length : Int) + j) fs.cps.toList.length)) ?_
  walk_at "t1"
  walk_at "tb"
  iterate 5 walk_at "t1"
  walk_at "tb"
  iterate 4 walk_at "t1"
  refine T_len_str (by omega) fun _ => ?_
  refine T_sub fun t₁ => ?_
  iterate 2 walk_at "t1"
  walk_at "tb"
  iterate 4 walk_at "t1"
  refine T_len_str (by omega) fun t₂ => ?_
  walk_at "t1"
  refine T_range2 X₃ ?_
  intro r h₄ t₃ X₄ hrg
  refine ⟨r, _, _, _, _, _, _, rfl, hrg, by omega, X₄, ⟨[], 0, rfl, rfl, rfl, rfl, .nil⟩, ?_, ?_⟩
  · intro j tj m₁ news₁ g₁ h₅ hj hJ kk X₅
    obtain ⟨vs, n, mf, ms, mc, rfl, hints⟩ := hJ
    have W₁ := W'.keeps kk
    generalize hsh : (1 : Int) - (sc.length : Int) + (j : Int) = sh at *
    walk_at "t1"
    refine T_int fun t4 => ?_
    walk_at "t1"
    intro h₆ X₆
    refine T_forRange (h₀ := g₁) (news := (lc, lst vs n) :: news) (L := L') (hr.deeper _).1 rfl rfl (fun _ => rfl)
      (fun i m₂ news₂ => ∃ tc, m₂ (Str.ofString "first") = some (.str fs t) ∧ m₂ (Str.ofString "second") = some (.str sc u) ∧ m₂ (Str.ofString "costs") = some (.ref lc) ∧ m₂ (Str.ofString "shift") = some (.int sh tj) ∧
        m₂ (Str.ofString "cost") = some (.int (costTo fs.cps.toList sc.cps.toList sh i) tc) ∧ news₂ = (lc, lst vs n) :: news) ?_
    walk_at "t1"
    walk_at "tb"
    iterate 3 walk_at "t1"
    walk_at "tb"
    iterate 4 walk_at "t1"
    refine T_len_str (by omega) fun _ => ?_
    walk_at "t1"
    refine T_range1 X₆ ?_
    intro r₂ h₇ t₅ t₆ X₇ hrg₂
    refine ⟨r₂, _, _, _, _, _, _, rfl, hrg₂, by omega, X₇, ⟨t4, ?_, ?_, ?_, ?_, ?_, rfl⟩, ?_, ?_⟩
    · walk_at "look"
    · walk_at "look"
    · walk_at "look"
    · walk_at "look"
    · rfl
    · intro i ti m₂ news₂ g₂ h₈ hi hJ₂ kk₂ X₈
      obtain ⟨tc, mf₂, ms₂, mc₂, msh, mct, rfl⟩ := hJ₂
      have W₂ := W₁.keeps kk₂
      rw [Int.zero_add] at X₈ hi
      have hi' : i < fs.cps.size := by omega
      walk_at "t1"
      refine T_isTrue_chain ?_ (by with_unfolding_all rfl)
      iterate 4 walk_at "t1"
      refine T_sub fun _ => ?_
      refine T_le_int ?_
      walk_at "t1"
      have skip : ¬ (0 ≤ (i : Int) - sh ∧ (i : Int) - sh < (sc.cps.size : Int)) → ∃ tc, (fun y => if y = Str.ofString "i" then some (Value.int (i : Int) ti) else m₂ y) (Str.ofString "first") = some (.str fs t) ∧ (fun y => if y = Str.ofString "i" then some (Value.int (i : Int) ti) else m₂ y) (Str.ofString "second") = some (.str sc u) ∧
          (fun y => if y = Str.ofString "i" then some (Value.int (i : Int) ti) else m₂ y) (Str.ofString "costs") = some (.ref lc) ∧ (fun y => if y = Str.ofString "i" then some (Value.int (i : Int) ti) else m₂ y) (Str.ofString "shift") = some (.int sh tj) ∧
          (fun y => if y = Str.ofString "i" then some (Value.int (i : Int) ti) else m₂ y) (Str.ofString "cost") = some (.int (costTo fs.cps.toList sc.cps.toList sh (i + 1)) tc) ∧ (lc, lst vs n) :: news = (lc, lst vs n) :: news := fun hno => by
        refine ⟨tc, by walk_at "look", by walk_at "look", by walk_at "look", by walk_at "look", ?_, rfl⟩
        have e3 : costTo fs.cps.toList sc.cps.toList sh (i + 1) = costTo fs.cps.toList sc.cps.toList sh i := by
          rw [costTo, if_neg (by simpa using hno), Int.add_zero]
        rw [e3]
        walk_at "look"
      split
      · rename_i h0
        have h0' : 0 ≤ (i : Int) - sh := of_decide_eq_true h0
        walk_at "t1"
        walk_at "tb"
        iterate 4 walk_at "t1"
        refine T_len_str (by omega) fun _ => ?_
        refine T_lt_int ?_
        walk_at "t1"
        split
        · rename_i h1
          have h1' : (i : Int) - sh < (sc.length : Int) := of_decide_eq_true h1
          iterate 3 walk_at "t1"
          walk_at "tg"
          refine T_callWith_fn ⟨_, _, _, _, X₈.keep _ _ (W₂.X 21 _ rfl)⟩ ?_ rfl rfl
          iterate 4 walk_at "t1"
          obtain ⟨c₁, hc₁⟩ : ∃ c, fs.cps[i]? = some c := ⟨fs.cps[i], Array.getElem?_eq_getElem hi'⟩
          obtain ⟨c₂, hc₂⟩ : ∃ c, sc.cps[((i : Int) - sh).toNat]? = some c := ⟨sc.cps[((i : Int) - sh).toNat]'(by omega), Array.getElem?_eq_getElem (by omega)⟩
          refine T_item_str (by omega) (by omega) hc₁ fun _ => ?_
          iterate 6 walk_at "t1"
          refine T_sub fun _ => ?_
          refine T_item_str h0' (by omega) hc₂ fun _ => ?_
          walk_at "t1"
          refine ⟨⟨_, _, _, _, X₈.keep _ _ (W₂.X 21 _ rfl)⟩, ?_⟩
          refine subst_spec W₂ X₈ (hr.deeper _).room (by simp [Str.length]) (by simp [Str.length]) ?_
          intro h₉ t₉ X₉
          refine T_iadd fun t₁₀ => ?_
          walk_at "t1"
          intro h₁₀ X₁₀
          refine T_nil (C_next (T_nil ⟨.inl rfl, _, _, X₁₀, t₁₀, ?_, ?_, ?_, ?_, ?_, rfl⟩))
          · walk_at "look"
          · walk_at "look"
          · walk_at "look"
          · walk_at "look"
          · have e1 : fs.cps.toList.getD i 0 = c₁ := by rw [List.getD_eq_getElem?_getD, Array.getElem?_toList, hc₁]; rfl
            have e2 : sc.cps.toList.getD ((i : Int) - sh).toNat 0 = c₂ := by rw [List.getD_eq_getElem?_getD, Array.getElem?_toList, hc₂]; rfl
            have e3 : costTo fs.cps.toList sc.cps.toList sh (i + 1) = costTo fs.cps.toList sc.cps.toList sh i + cst c₁ c₂ := by
              rw [costTo, if_pos (And.intro h0' (by simpa [Str.length] using h1')), e1, e2]
            rw [e3]
            rfl
        · rename_i h1
          have h1' : ¬ (i : Int) - sh < (sc.length : Int) := fun q => h1 (decide_eq_true q)
          exact T_nil ⟨.inl rfl, _, _, X₈, skip fun q => h1' q.2⟩
      · rename_i h0
        have h0' : ¬ 0 ≤ (i : Int) - sh := fun q => h0 (decide_eq_true q)
        refine ite_f (by simp) ?_
        exact T_nil ⟨.inl rfl, _, _, X₈, skip fun q => h0' q.1⟩
    · intro m₂ news₂ h₈ hJ₂ X₈
      obtain ⟨tc, mf₂, ms₂, mc₂, msh, mct, rfl⟩ := hJ₂
      have ecost : costTo fs.cps.toList sc.cps.toList sh ((fs.length : Int) - 0).toNat = costTo fs.cps.toList sc.cps.toList (1 - (sc.cps.toList.length : Int) + j) fs.cps.toList.length := by
        rw [← hsh]
        have e1 : ((fs.length : Int) - 0).toNat = fs.cps.toList.length := by simp [Str.length]
        rw [e1]
        simp [Str.length]
      rw [ecost] at mct
      have hvl : vs.length = j := by rw [hints.length]; simp
      iterate 3 walk_at "t1"
      refine T_getMethod_append (X₈.get (.head _)) ?_
      iterate 4 walk_at "t1"
      refine T_append X₈ (by omega) ?_
      intro h₉ n₉ X₉
      refine T_nil ⟨.inl rfl, _, _, X₉, _, n₉, mf₂, ms₂, mc₂, rfl, ?_⟩
      rw [List.range_succ, List.map_append]
      exact hints.append (.cons _ _ .nil)
  · intro m₁ news₁ h₅ hJ X₅
    obtain ⟨vs, n, mf, ms, mc, rfl, hints⟩ := hJ
    iterate 2 walk_at "t1"
    refine ⟨_, _, X₅, fun X'' => k _ _ _ _ ?_ X''⟩
    have e : ((fs.length : Int) - (1 - (sc.length : Int))).toNat = fs.cps.toList.length + sc.cps.toList.length - 1 := by
      simp [Str.length]; omega
    rw [e] at hints
    exact hints
end
end Mine
end
section
open PySem PySem.W PySem.Calls PyProof.Rows
set_option maxRecDepth 100000
namespace Mine
local macro_rules | `(tactic| walk_at "look") => `(tactic| first | rfl | assumption | ((refine Eq.trans (if_neg (by decide)) ?_); walk_at "look") | ((refine Eq.trans (if_pos rfl) ?_); walk_at "look"))
local macro_rules | `(tactic| walk_at "t1") => `(tactic| first
  | ((with_reducible refine' T_cAssign ?_ ?ts); (case ts => rfl))
  | (with_reducible refine T_cAug ?_)
  | (with_reducible refine T_cReturn ?_)
  | (with_reducible refine T_cReturn0 ?_)
  | (with_reducible refine T_cIf0 ?_)
  | (with_reducible refine T_cIf ?_)
  | ((with_reducible refine' T_isTrue_Compare ?_ ?tm); (case tm => with_unfolding_all rfl))
  | ((with_reducible refine' T_Compare ?_ ?tm); (case tm => with_unfolding_all rfl))
  | (with_reducible refine T_BinOp ?_)
  | (with_reducible refine T_Subscript ?_)
  | ((with_reducible refine' T_Method ?_ ?te); (case te => rfl))
  | ((with_reducible refine' T_Call ?_ ?te); (case te => rfl))
  | (with_reducible refine T_UnaryOp ?_)
  | (with_reducible refine T_truthy_bool ?_)
  | ((with_reducible refine T_int ?_); intro tk)
  | ((with_reducible refine T_str ?_); intro tk)
  | ((with_reducible refine' T_args_cons ?_ ?te); (case te => rfl))
  | (with_reducible refine T_args_nil ?_)
  | (with_reducible refine T_List ?_)
  | (with_reducible refine T_Tuple ?_)
  | (with_reducible refine T_IfExp ?_)
  | ((with_reducible refine' T_cExpr ?_ ?ti ?ts); (case ti => rfl); (case ts => rfl))
  | ((with_reducible refine' T_cAssignSub ?_ ?ts); (case ts => rfl))
  | ((with_reducible refine' T_callWith_bi ?_ ?te ?tp); (case te => rfl); (case tp => rfl))
  | ((with_reducible refine' T_callWith_ty ?_ ?te ?tp); (case te => rfl); (case tp => rfl))
  | (with_reducible refine T_callWith_bi0 ?_)
  | ((with_reducible refine' T_local ?tX ?tv ?tk ?tl ?td ?_); (case tX => assumption); (case tv => walk_at "look"); (case tk => rfl); (case tl => rfl); (case td => rfl))
  | ((with_reducible refine' T_load ?tX ?tv ?tk ?tl ?_); (case tX => assumption); (case tv => walk_at "look"); (case tk => rfl); (case tl => rfl))
  | ((with_reducible refine' T_store ?tX ?tk ?tl ?_); (case tX => assumption); (case tk => rfl); (case tl => rfl)))
local macro_rules | `(tactic| walk_at "tg") => `(tactic| ((with_reducible refine' T_global ?tW ?tX ?te ?tk ?tl ?tg ?td ?_); (case tW => assumption); (case tX => assumption); (case te => rfl); (case tk => rfl); (case tl => rfl); (case tg => rfl); (case td => rfl)))
local macro_rules | `(tactic| walk_at "tb") => `(tactic| ((with_reducible refine' T_builtin ?tW ?tX ?te ?tv ?tn ?tk ?tl ?tg ?tb ?td ?_); (case tW => assumption); (case tX => assumption); (case te => rfl); (case tv => first | exact Boot.«len» | exact Boot.«range» | exact Boot.«sum» | exact Boot.«divmod» | exact Boot.«reversed»); (case tn => decide); (case tk => rfl); (case tl => rfl); (case tg => rfl); (case tb => rfl); (case td => rfl)))
section
variable {w : World} {prog : Program} {S : Shared}
theorem lawdig_spec {a wd room : Nat} {A : Around} {h₀ h : Heap} {L : Addr} {m : Str → Option Value} {news : List (Addr × Obj)} {P : Value → Heap → Prop} {t u v : Tok} (hw : wd ≤ 600) (hw1 : 1 ≤ wd) (hroom : room ≤ 40) (ha : a < 2 ^ (wd * room))
    (hr : Rm A 43) (W : Wd w h₀) (X : St h₀ L m news h) (k : ∀ h' l vs n, IntsAre vs (dg wd room a) → St h₀ L m ((l, lst vs n) :: news) h' → P (.ref l) h') :
    T (model prog w) A S (call (.ref 82) [.int a t, .int wd u, .int room v]) h P := by
  refine T_call (binds := [(Str.ofString "number", .int a t), (Str.ofString "width", .int wd u), (Str.ofString "room", .int room v)]) W X (X.keep _ _ (W.X 82 _ rfl)) (codeRec_of (W.X.keeps X.keep) (by rfl)) hr.room (by rfl) (locs rfl) (by decide) ?_
  intro g L' h₁ W' up X'
  have hndr : nd wd a ≤ room := nd_le hw1 ha
  have ha40 : a < 2 ^ (wd * 40) := Nat.lt_of_lt_of_le ha (Nat.pow_le_pow_right (by decide) (Nat.mul_le_mul_left _ hroom))
  obtain ⟨hn40, hpow, hpos, hzero⟩ := nd_facts hw1 ha40
  iterate 2 walk_at "t1"
  walk_at "tg"
  refine T_callWith_fn ⟨_, _, _, _, X'.keep _ _ (W'.X 42 _ rfl)⟩ ?_ rfl rfl
  iterate 5 walk_at "t1"
  refine ⟨⟨_, _, _, _, X'.keep _ _ (W'.X 42 _ rfl)⟩, ?_⟩
  refine i2d_spec hw hw1 ha40 (hr.deeper _) W' X' ?_
  intro h₂ l vs nl hds X₂
  have hlenv : vs.length = nd wd a := by rw [hds.length, dg_length]
  walk_at "t1"
  intro h₃ X₃
  walk_at "t1"
  refine T_isTrue_and ?_
  iterate 4 walk_at "t1"
  refine T_newList X₃ (by simp) ?_
  intro le h₄ X₄
  refine T_ne_list (X₄.get (.tail _ (.head _))) (X₄.get (.head _)) hds .nil ((hr.deeper _).le (by decide)) ?_
  walk_at "t1"
  rcases Nat.eq_zero_or_pos a with hz | hz
  · have e0 : dg wd (nd wd a) a = [] := by rw [hzero hz]; rfl
    refine ite_f (by rw [e0]; simp) ?_
    refine ite_f (by simp) ?_
    iterate 6 walk_at "t1"
    refine T_int fun t7 => ?_
    walk_at "t1"
    refine T_newList X₄ (by simp) ?_
    intro l0 h₅ X₅
    iterate 3 walk_at "t1"
    walk_at "tb"
    iterate 4 walk_at "t1"
    refine T_len_list (X₅.get (.tail _ (.tail _ (.head _)))) (by omega) fun _ => ?_
    refine T_sub fun _ => ?_
    refine T_mul_list X₅ (X₅.get (.head _)) (by omega) (by omega) ?_
    intro l1 h₆ X₆
    have hrep : IntsAre (List.replicate ((room : Int) - (vs.length : Int)).toNat (Value.int 0 t7)) (List.replicate (room - nd wd a) 0) := by
      rw [show ((room : Int) - (vs.length : Int)).toNat = room - nd wd a by omega]
      generalize room - nd wd a = j
      induction j with
      | zero => exact .nil
      | succ n ih => exact .cons _ _ ih
    refine T_add_lists X₆ (X₆.get (.tail _ (.tail _ (.tail _ (.head _))))) (X₆.get (.head _)) (by rw [List.length_replicate]; omega) ?_
    intro l2 h₇ X₇
    refine ⟨_, _, X₇, fun X'' => ?_⟩
    refine k _ _ _ _ ?_ (St.drop (fr := [(l1, _), (l0, _), (le, _), (l, _)]) (X''.perm (List.perm_middle (l₁ := [(l1, _), (l0, _), (le, _), (l, _)])).symm))
    rw [← dg_pad hpow hndr]
    exact hds.append hrep
  · have hne : dg wd (nd wd a) a ≠ [] := fun q => by
      have := dg_length wd (nd wd a) a
      rw [q] at this
      have := hpos (by omega)
      simp at *
      omega
    have hp0 := hpos (by omega)
    refine ite_t (by simp [hne]) ?_
    refine T_isTrue_and ?_
    iterate 5 walk_at "t1"
    refine T_neg fun _ => ?_
    have hlast : (dg wd (nd wd a) a)[nd wd a - 1]? = some (((a / 2 ^ (wd * (nd wd a - 1))) % 2 ^ wd : Nat) : Int) := dg_get wd _ a _ (by omega)
    obtain ⟨tl, hvl⟩ := hds.get _ _ hlast
    refine T_item_list_neg (X₄.get (.tail _ (.head _))) (by decide) (by omega) (by decide) (by rw [show ((-1 : Int) + (vs.length : Int)).toNat = nd wd a - 1 by omega]; exact hvl) ?_
    walk_at "t1"
    refine T_eq_int ?_
    walk_at "t1"
    refine ite_f ?_ ?_
    · have := dg_top hw1 (by omega) hpow hp0
      intro q
      have := eq_of_beq q
      omega
    refine ite_f (by simp) ?_
    iterate 6 walk_at "t1"
    refine T_int fun t7 => ?_
    walk_at "t1"
    refine T_newList X₄ (by simp) ?_
    intro l0 h₅ X₅
    iterate 3 walk_at "t1"
    walk_at "tb"
    iterate 4 walk_at "t1"
    refine T_len_list (X₅.get (.tail _ (.tail _ (.head _)))) (by omega) fun _ => ?_
    refine T_sub fun _ => ?_
    refine T_mul_list X₅ (X₅.get (.head _)) (by omega) (by omega) ?_
    intro l1 h₆ X₆
    have hrep : IntsAre (List.replicate ((room : Int) - (vs.length : Int)).toNat (Value.int 0 t7)) (List.replicate (room - nd wd a) 0) := by
      rw [show ((room : Int) - (vs.length : Int)).toNat = room - nd wd a by omega]
      generalize room - nd wd a = j
      induction j with
      | zero => exact .nil
      | succ n ih => exact .cons _ _ ih
    refine T_add_lists X₆ (X₆.get (.tail _ (.tail _ (.tail _ (.head _))))) (X₆.get (.head _)) (by rw [List.length_replicate]; omega) ?_
    intro l2 h₇ X₇
    refine ⟨_, _, X₇, fun X'' => ?_⟩
    refine k _ _ _ _ ?_ (St.drop (fr := [(l1, _), (l0, _), (le, _), (l, _)]) (X''.perm (List.perm_middle (l₁ := [(l1, _), (l0, _), (le, _), (l, _)])).symm))
    rw [← dg_pad hpow hndr]
    exact hds.append hrep
end
end Mine
end
section
open PySem PySem.W PySem.Calls PyProof.Rows
set_option maxRecDepth 100000
namespace Mine
local macro_rules | `(tactic| walk_at "look") => `(tactic| first | rfl | assumption | ((refine Eq.trans (if_neg (by decide)) ?_); walk_at "look") | ((refine Eq.trans (if_pos rfl) ?_); walk_at "look"))
local macro_rules | `(tactic| walk_at "t1") => `(tactic| first
  | ((with_reducible refine' T_cAssign ?_ ?ts); (case ts => rfl))
  | (with_reducible refine T_cAug ?_)
  | (with_reducible refine T_cReturn ?_)
  | (with_reducible refine T_cReturn0 ?_)
  | (with_reducible refine T_cIf0 ?_)
  | (with_reducible refine T_cIf ?_)
  | ((with_reducible refine' T_isTrue_Compare ?_ ?tm); (case tm => with_unfolding_all rfl))
  | ((with_reducible refine' T_Compare ?_ ?tm); (case tm => with_unfolding_all rfl))
  | (with_reducible refine T_BinOp ?_)
  | (with_reducible refine T_Subscript ?_)
  | ((with_reducible refine' T_Method ?_ ?te); (case te => rfl))
  | ((with_reducible refine' T_Call ?_ ?te); (case te => rfl))
  | (with_reducible refine T_UnaryOp ?_)
  | (with_reducible refine T_truthy_bool ?_)
  | ((with_reducible refine T_int ?_); intro tk)
  | ((with_reducible refine T_str ?_); intro tk)
  | ((with_reducible refine' T_args_cons ?_ ?te); (case te => rfl))
  | (with_reducible refine T_args_nil ?_)
  | (with_reducible refine T_List ?_)
  | (with_reducible refine T_Tuple ?_)
  | (with_reducible refine T_IfExp ?_)
  | ((with_reducible refine' T_cExpr ?_ ?ti ?ts); (case ti => rfl); (case ts => rfl))
  | ((with_reducible refine' T_cAssignSub ?_ ?ts); (case ts => rfl))
  | ((with_reducible refine' T_callWith_bi ?_ ?te ?tp); (case te => rfl); (case tp => rfl))
  | ((with_reducible refine' T_callWith_ty ?_ ?te ?tp); (case te => rfl); (case tp => rfl))
  | (with_reducible refine T_callWith_bi0 ?_)
  | ((with_reducible refine' T_local ?tX ?tv ?tk ?tl ?td ?_); (case tX => assumption); (case tv => walk_at "look"); (case tk => rfl); (case tl => rfl); (case td => rfl))
  | ((with_reducible refine' T_load ?tX ?tv ?tk ?tl ?_); (case tX => assumption); (case tv => walk_at "look"); (case tk => rfl); (case tl => rfl))
  | ((with_reducible refine' T_store ?tX ?tk ?tl ?_); (case tX => assumption); (case tk => rfl); (case tl => rfl)))
local macro_rules | `(tactic| walk_at "tg") => `(tactic| ((with_reducible refine' T_global ?tW ?tX ?te ?tk ?tl ?tg ?td ?_); (case tW => assumption); (case tX => assumption); (case te => rfl); (case tk => rfl); (case tl => rfl); (case tg => rfl); (case td => rfl)))
local macro_rules | `(tactic| walk_at "tb") => `(tactic| ((with_reducible refine' T_builtin ?tW ?tX ?te ?tv ?tn ?tk ?tl ?tg ?tb ?td ?_); (case tW => assumption); (case tX => assumption); (case te => rfl); (case tv => first | exact Boot.«len» | exact Boot.«range» | exact Boot.«sum» | exact Boot.«divmod» | exact Boot.«reversed»); (case tn => decide); (case tk => rfl); (case tl => rfl); (case tg => rfl); (case tb => rfl); (case td => rfl)))
def mk01 (mk : Str) (c : Nat) : Int := if Txt.contains mk ⟨#[c]⟩ = true then 1 else 0
theorem mk01_range (mk : Str) (c : Nat) : 0 ≤ mk01 mk c ∧ mk01 mk c < 2 ^ 600 := by
  have h : (1 : Int) < 2 ^ 600 := by
    have := two_pow_le (j := 1) (k := 600) (by decide)
    rw [Int.pow_one] at this; omega
  unfold mk01
  split
  · exact ⟨by decide, h⟩
  · exact ⟨by decide, by omega⟩
theorem mulOk {a b : Int} (ha : Builtin.Int.intBits a ≤ 25000) (hb : Builtin.Int.intBits b ≤ 25000) : IntMulOk a b := by
  unfold IntMulOk
  intro q
  simp only [Bool.and_eq_true] at q
  have q2 := q.2
  unfold Builtin.Int.intTooBig at q2
  have := of_decide_eq_true q2
  unfold bitsLine at this
  omega
theorem dv_all {ds : List Int} {w : Nat} (hw : w ≤ 600) (hlen : ds.length ≤ 40) (hds : ∀ d ∈ ds, 0 ≤ d ∧ d < 2 ^ 600) : 0 ≤ dv w ds ∧ Builtin.Int.intBits (dv w ds) ≤ 25000 := by
  have := dv_part hw hlen hds 0 ds.length
  simpa using this
section
variable {w : World} {prog : Program} {S : Shared}
theorem pairs_spec {fs sc mk : Str} {wd : Nat} {A : Around} {h₀ h : Heap} {L : Addr} {m : Str → Option Value} {news : List (Addr × Obj)} {P : Value → Heap → Prop} {t u v r : Tok} (hf : fs.cps.size ≤ 40) (hs : sc.cps.size ≤ 40) (hw : wd ≤ 600)
    (hr : Rm A 43) (W : Wd w h₀) (X : St h₀ L m news h) (k : ∀ h' t', St h₀ L m news h' → P (.int (dv wd (fs.cps.toList.map (mk01 mk)) * dv wd (sc.cps.toList.reverse.map (mk01 mk))) t') h') :
    T (model prog w) A S (call (.ref 68) [.str fs t, .str sc u, .str mk v, .int wd r]) h P := by
  refine T_callC (binds := [(Str.ofString "first", .str fs t), (Str.ofString "second", .str sc u), (Str.ofString "mark", .str mk v), (Str.ofString "width", .int wd r)]) W X (X.keep _ _ (W.X 68 _ rfl)) (codeRec_of (W.X.keeps X.keep) (by rfl)) hr.room (by rfl) (fun n => kinds_of (by exact ⟨.inl rfl, .inl rfl, .inr ⟨rfl, rfl⟩, .inl rfl, trivial⟩)) (by decide) ?_
  intro g L' h₁ cells W' up X' hC
  obtain ⟨o₁, rfl, d₁⟩ := CellsAre.one (n := Str.ofString "mark") (c := L' + 1) hC
  replace d₁ : o₁.data = .cell (some (.str mk v)) := d₁
  iterate 2 walk_at "t1"
  walk_at "tg"
  refine T_callWith_fn ⟨_, _, _, _, X'.keep _ _ (W'.X 49 _ rfl)⟩ ?_ rfl rfl
  walk_at "t1"
  refine T_CompStr (cl := [(Str.ofString "mark", L' + 1)]) (mk01 mk) rfl (by decide) rfl (by decide) rfl (hr.deeper _).1 (fun _ => rfl) ?_
  walk_at "t1"
  refine ⟨fs, t, g, L', _, _, rfl, by omega, X', ?_, ?_⟩
  · intro S' C c u' h' m₃ hn hm hkp
    walk_at "t1"
    walk_at "t1"
    refine T_nameNs hn hm rfl rfl rfl ?_
    refine T_cell (hkp _ _ (X'.get (.head _))) d₁ rfl rfl rfl rfl ?_
    refine T_in_str ?_
    walk_at "t1"
    split
    · rename_i q
      refine T_int fun t' => ⟨rfl, t', ?_⟩
      rw [mk01, if_pos q]
    · rename_i q
      refine T_int fun t' => ⟨rfl, t', ?_⟩
      rw [mk01, if_neg q]
  intro D h₂ ys nD hys X₂
  iterate 3 walk_at "t1"
  refine ⟨⟨_, _, _, _, X₂.keep _ _ (W'.X 49 _ rfl)⟩, ?_⟩
  refine d2i_spec hw (by simp; omega) (fun d hd => ?_) (hr.deeper _) W' X₂ (.inr (.head _)) hys ?_
  · obtain ⟨c, _, rfl⟩ := List.mem_map.mp hd
    exact mk01_range mk c
  intro h₃ t₃ X₃
  replace X₃ := X₃.tail
  walk_at "t1"
  intro h₄ X₄
  iterate 2 walk_at "t1"
  walk_at "tg"
  refine T_callWith_fn ⟨_, _, _, _, X₄.keep _ _ (W'.X 49 _ rfl)⟩ ?_ rfl rfl
  walk_at "t1"
  refine T_CompStr (cl := [(Str.ofString "mark", L' + 1)]) (mk01 mk) rfl (by decide) rfl (by decide) rfl (hr.deeper _).1 (fun _ => rfl) ?_
  walk_at "t1"
  walk_at "t1"
  refine T_Slice (T_part_none (T_part_none (T_part_some ?_)))
  iterate 2 walk_at "t1"
  refine T_neg fun tn => ?_
  refine ⟨g, L', _, _, X₄, ?_⟩
  intro sl h₅ X₅ kk hsl
  refine T_slice_rev hsl (by simp [Str.length]; omega) (fun tr => ?_) (by with_unfolding_all rfl)
  refine ⟨⟨sc.cps.toList.reverse.toArray⟩, tr, g, L', _, _, rfl, by simp; omega, X₅, ?_, ?_⟩
  · intro S' C c u' h' m₃ hn hm hkp
    walk_at "t1"
    walk_at "t1"
    refine T_nameNs hn hm rfl rfl rfl ?_
    refine T_cell (hkp _ _ (X₅.get (.head _))) d₁ rfl rfl rfl rfl ?_
    refine T_in_str ?_
    walk_at "t1"
    split
    · rename_i q
      refine T_int fun t' => ⟨rfl, t', ?_⟩
      rw [mk01, if_pos q]
    · rename_i q
      refine T_int fun t' => ⟨rfl, t', ?_⟩
      rw [mk01, if_neg q]
  intro D₂ h₆ ys₂ nD₂ hys₂ X₆
  iterate 3 walk_at "t1"
  refine ⟨⟨_, _, _, _, X₆.keep _ _ (W'.X 49 _ rfl)⟩, ?_⟩
  refine d2i_spec hw (by simp; omega) (fun d hd => ?_) (hr.deeper _) W' X₆ (.inr (.head _)) hys₂ ?_
  · obtain ⟨c, _, rfl⟩ := List.mem_map.mp hd
    exact mk01_range mk c
  intro h₇ t₇ X₇
  replace X₇ := X₇.tail
  walk_at "t1"
  intro h₈ X₈
  iterate 4 walk_at "t1"
  refine T_mul (mulOk (dv_all hw (by simp; omega) fun d hd => ?_).2 (dv_all hw (by simp; omega) fun d hd => ?_).2) fun t₉ => ?_
  · obtain ⟨c, _, rfl⟩ := List.mem_map.mp hd
    exact mk01_range mk c
  · obtain ⟨c, _, rfl⟩ := List.mem_map.mp hd
    exact mk01_range mk c
  refine ⟨_, _, X₈, fun X'' => ?_⟩
  have := k _ t₉ (St.tail (p := (L' + 1, o₁)) X'')
  simpa using this
end
end Mine
end
section
open PySem PySem.W PySem.Calls PyProof.Rows
set_option maxRecDepth 100000
namespace Mine
-- plain sums
noncomputable def sm : Nat → (Nat → Int) → Int
  | 0, _ => 0
  | n + 1, F => sm n F + F n
theorem sm_congr {F G : Nat → Int} : ∀ {n : Nat}, (∀ i, i < n → F i = G i) → sm n F = sm n G
  | 0, _ => rfl
  | n + 1, h => by rw [sm, sm, sm_congr fun i hi => h i (by omega), h n (by omega)]
theorem sm_zero : ∀ n, sm n (fun _ => 0) = 0
  | 0 => rfl
  | n + 1 => by rw [sm, sm_zero n]; rfl
theorem sm_add (F G : Nat → Int) : ∀ n, sm n (fun i => F i + G i) = sm n F + sm n G
  | 0 => rfl
  | n + 1 => by rw [sm, sm, sm, sm_add F G n]; omega
theorem sm_sub (F G : Nat → Int) : ∀ n, sm n (fun i => F i - G i) = sm n F - sm n G
  | 0 => rfl
  | n + 1 => by rw [sm, sm, sm, sm_sub F G n]; omega
theorem sm_mul (c : Int) (F : Nat → Int) : ∀ n, sm n (fun i => c * F i) = c * sm n F
  | 0 => by simp [sm]
  | n + 1 => by rw [sm, sm, sm_mul c F n, Int.mul_add]
theorem sm_mul_right (c : Int) (F : Nat → Int) : ∀ n, sm n (fun i => F i * c) = sm n F * c
  | 0 => by simp [sm]
  | n + 1 => by rw [sm, sm, sm_mul_right c F n, Int.add_mul]
theorem sm_comm (G : Nat → Nat → Int) (k : Nat) : ∀ n, sm n (fun i => sm k fun j => G i j) = sm k fun j => sm n fun i => G i j
  | 0 => by simp only [sm]; exact (sm_zero k).symm
  | n + 1 => by
    rw [sm, sm_comm G k n, ← sm_add]
    exact sm_congr fun j _ => by rw [sm]
theorem sm_pick (c : Int) (H : Nat → Int) : ∀ n, sm n (fun k => if c = (k : Int) then H k else 0) = if 0 ≤ c ∧ c < (n : Int) then H c.toNat else 0
  | 0 => by
    rw [sm, if_neg (by omega)]
  | n + 1 => by
    rw [sm, sm_pick c H n]
    by_cases h : c = (n : Int)
    · rw [if_pos h, if_neg (by omega), if_pos (by omega), h, Int.toNat_natCast, Int.zero_add]
    · rw [if_neg h, Int.add_zero]
      by_cases h2 : 0 ≤ c ∧ c < (n : Int)
      · rw [if_pos h2, if_pos (by omega)]
      · rw [if_neg h2, if_neg (by omega)]
theorem sm_succ_left (F : Nat → Int) : ∀ n, sm (n + 1) F = F 0 + sm n fun i => F (i + 1)
  | 0 => by simp [sm]
  | n + 1 => by rw [sm, sm_succ_left F n, sm]; omega
theorem sm_rev : ∀ (n : Nat) (F : Nat → Int), sm n F = sm n fun k => F (n - 1 - k)
  | 0, _ => rfl
  | n + 1, F => by
    rw [sm_succ_left (fun k => F (n + 1 - 1 - k)), sm, sm_rev n F, Int.add_comm]
    congr 1
    exact sm_congr fun i hi => by congr 1; omega
theorem dv_range (w : Nat) (F : Nat → Int) : ∀ R, dv w ((List.range R).map F) = sm R fun j => F j * 2 ^ (w * j)
  | 0 => rfl
  | R + 1 => by
    rw [List.range_succ, List.map_append, dv_append, dv_range w F R, sm]
    simp [dv, Int.mul_comm]
theorem map_getD (f : Nat → Int) (xs : List Nat) : xs.map f = (List.range xs.length).map fun i => f (xs.getD i 0) := by
  apply List.ext_getElem?
  intro i
  rw [List.getElem?_map, List.getElem?_map]
  rcases Nat.lt_or_ge i xs.length with h | h
  · rw [List.getElem?_range h, List.getElem?_eq_getElem h]
    simp [List.getD_eq_getElem?_getD, List.getElem?_eq_getElem h]
  · rw [List.getElem?_eq_none h, List.getElem?_eq_none (by simp; exact h)]; rfl
theorem map_rev_getD (f : Nat → Int) (ys : List Nat) : ys.reverse.map f = (List.range ys.length).map fun k => f (ys.getD (ys.length - 1 - k) 0) := by
  rw [map_getD, List.length_reverse]
  apply List.map_congr_left
  intro k hk
  rw [rev_getD ys k (List.mem_range.mp hk)]
noncomputable def Dsum (w : Nat) (xs ys : List Nat) (h : Nat → Nat → Int) : Int :=
  sm xs.length fun i => sm ys.length fun k => h (xs.getD i 0) (ys.getD k 0) * 2 ^ (w * (i + (ys.length - 1 - k)))
theorem prod_D (w : Nat) (xs ys : List Nat) (f g : Nat → Int) : dv w (xs.map f) * dv w (ys.reverse.map g) = Dsum w xs ys fun c d => f c * g d := by
  rw [map_getD, map_rev_getD, dv_range, dv_range, sm_rev ys.length, ← sm_mul_right]
  unfold Dsum
  refine sm_congr fun i _ => ?_
  rw [← sm_mul]
  refine sm_congr fun k hk => ?_
  have e : ys.length - 1 - (ys.length - 1 - k) = k := by omega
  rw [e, Nat.mul_add, Int.pow_add]
  dsimp only
  generalize f (xs.getD i 0) = a
  generalize g (ys.getD k 0) = b
  generalize (2 : Int) ^ (w * i) = p
  generalize (2 : Int) ^ (w * (ys.length - 1 - k)) = q
  rw [Int.mul_assoc, Int.mul_assoc, ← Int.mul_assoc p, Int.mul_comm p b, Int.mul_assoc]
theorem costTo_sm (xs ys : List Nat) (s : Int) : ∀ k, costTo xs ys s k = sm k fun i => sm ys.length fun j => if (i : Int) - s = (j : Int) then cst (xs.getD i 0) (ys.getD j 0) else 0
  | 0 => rfl
  | k + 1 => by
    rw [costTo, sm, costTo_sm xs ys s k, sm_pick ((k : Int) - s) (fun j => cst (xs.getD k 0) (ys.getD j 0))]
theorem costs_D (w : Nat) {xs ys : List Nat} (hx : 1 ≤ xs.length) (hy : 1 ≤ ys.length) : dv w (costsL xs ys) = Dsum w xs ys cst := by
  unfold costsL
  rw [dv_range]
  have e1 : (sm (xs.length + ys.length - 1) fun j => costTo xs ys (1 - (ys.length : Int) + j) xs.length * 2 ^ (w * j)) =
      sm (xs.length + ys.length - 1) fun j => sm xs.length fun i => sm ys.length fun k => (if (i : Int) - (1 - (ys.length : Int) + j) = (k : Int) then cst (xs.getD i 0) (ys.getD k 0) else 0) * 2 ^ (w * j) := by
    refine sm_congr fun j _ => ?_
    rw [costTo_sm, ← sm_mul_right]
    refine sm_congr fun i _ => ?_
    rw [← sm_mul_right]
  rw [e1, sm_comm]
  unfold Dsum
  refine sm_congr fun i hi => ?_
  rw [sm_comm]
  refine sm_congr fun k hk => ?_
  have e2 : (sm (xs.length + ys.length - 1) fun j => (if (i : Int) - (1 - (ys.length : Int) + j) = (k : Int) then cst (xs.getD i 0) (ys.getD k 0) else 0) * 2 ^ (w * j)) =
      sm (xs.length + ys.length - 1) fun j => if ((i + (ys.length - 1 - k) : Nat) : Int) = (j : Int) then cst (xs.getD i 0) (ys.getD k 0) * 2 ^ (w * j) else 0 := by
    refine sm_congr fun j _ => ?_
    by_cases h : (i : Int) - (1 - (ys.length : Int) + j) = (k : Int)
    · rw [if_pos h, if_pos (by omega)]
    · rw [if_neg h, if_neg (by omega), Int.zero_mul]
  rw [e2, sm_pick, if_pos (by omega), Int.toNat_natCast]
theorem D_sub (w : Nat) (xs ys : List Nat) (a b : Nat → Nat → Int) : Dsum w xs ys (fun c d => a c d - b c d) = Dsum w xs ys a - Dsum w xs ys b := by
  unfold Dsum
  rw [← sm_sub]
  refine sm_congr fun i _ => ?_
  rw [← sm_sub]
  exact sm_congr fun k _ => by rw [Int.sub_mul]
theorem D_mul (w : Nat) (xs ys : List Nat) (e : Int) (a : Nat → Nat → Int) : Dsum w xs ys (fun c d => e * a c d) = e * Dsum w xs ys a := by
  unfold Dsum
  rw [← sm_mul]
  refine sm_congr fun i _ => ?_
  rw [← sm_mul]
  exact sm_congr fun k _ => by rw [Int.mul_assoc]
theorem D_congr (w : Nat) {xs ys : List Nat} {a b : Nat → Nat → Int} (h : ∀ c ∈ xs, ∀ d ∈ ys, a c d = b c d) : Dsum w xs ys a = Dsum w xs ys b := by
  unfold Dsum
  refine sm_congr fun i hi => sm_congr fun k hk => ?_
  rw [h _ (by rw [List.getD_eq_getElem?_getD, List.getElem?_eq_getElem hi]; exact List.getElem_mem hi) _ (by rw [List.getD_eq_getElem?_getD, List.getElem?_eq_getElem hk]; exact List.getElem_mem hk)]
theorem costOf_comm (x y : Str) : costOf x y = costOf y x := by
  unfold costOf
  by_cases h : x = y
  · subst h; rfl
  · have h' : ¬ y = x := fun q => h q.symm
    rw [if_neg h, if_neg h']
    by_cases h2 : Txt.lower x = Txt.lower y
    · rw [if_pos h2, if_pos h2.symm]
    · have h3 : ¬ Txt.lower y = Txt.lower x := fun q => h2 q.symm
      rw [if_neg h2, if_neg h3]
theorem cst_comm (a b : Nat) : cst a b = cst b a := costOf_comm _ _
theorem cst_range (a b : Nat) : 0 ≤ cst a b ∧ cst a b ≤ 2 := by
  unfold cst costOf
  split
  · decide
  · split <;> decide
theorem costTo_range (xs ys : List Nat) (s : Int) : ∀ k : Nat, 0 ≤ costTo xs ys s k ∧ costTo xs ys s k ≤ 2 * k
  | 0 => by simp [costTo]
  | k + 1 => by
    have h := costTo_range xs ys s k
    rw [costTo]
    split
    · have := cst_range (xs.getD k 0) (ys.getD ((k : Int) - s).toNat 0)
      omega
    · omega
theorem costs_len (xs ys : List Nat) : (costsL xs ys).length = xs.length + ys.length - 1 := by simp [costsL]
theorem costs_mem {xs ys : List Nat} {w : Nat} (hx : xs.length ≤ 10) (hw : 5 ≤ w) : ∀ d ∈ costsL xs ys, 0 ≤ d ∧ d < 2 ^ w := by
  intro d hd
  obtain ⟨j, _, rfl⟩ := List.mem_map.mp hd
  have := costTo_range xs ys (1 - (ys.length : Int) + j) xs.length
  have h5 := two_pow_le hw
  rw [show (2 : Int) ^ 5 = 32 by decide] at h5
  omega
theorem costs_rev {xs ys : List Nat} (hx : 1 ≤ xs.length) (hy : 1 ≤ ys.length) : costsL ys xs = (costsL xs ys).reverse := by
  unfold costsL
  rw [← List.map_reverse, ← krv_range, List.map_map, Nat.add_comm ys.length xs.length]
  apply List.map_congr_left
  intro j hj
  have hj' := List.mem_range.mp hj
  show costTo ys xs (1 - (xs.length : Int) + j) ys.length = costTo xs ys (1 - (ys.length : Int) + ((xs.length + ys.length - 1 - 1 - j : Nat) : Int)) xs.length
  rw [costTo_sm, costTo_sm, sm_comm]
  refine sm_congr fun i hi => sm_congr fun k hk => ?_
  rw [cst_comm (ys.getD k 0)]
  by_cases h : (k : Int) - (1 - (xs.length : Int) + j) = (i : Int)
  · rw [if_pos h, if_pos (by omega)]
  · rw [if_neg h, if_neg (by omega)]
theorem dg_dv (w : Nat) : ∀ ds : List Int, (∀ d ∈ ds, 0 ≤ d ∧ d < 2 ^ w) → dg w ds.length (dv w ds).toNat = ds
  | [], _ => rfl
  | d :: r, h => by
    have hd := h d (.head _)
    have ih := dg_dv w r fun x hx => h x (.tail _ hx)
    have hr := (dv_bound (B := w) (Nat.le_refl w) r fun x hx => h x (.tail _ hx)).1
    obtain ⟨dn, rfl⟩ := Int.eq_ofNat_of_zero_le hd.1
    obtain ⟨rn, hrn⟩ := Int.eq_ofNat_of_zero_le hr
    have hdl : dn < 2 ^ w := by exact_mod_cast hd.2
    have e : (dv w ((dn : Int) :: r)).toNat = dn + 2 ^ w * rn := by
      rw [dv, hrn]
      have : ((dn : Int) + 2 ^ w * (rn : Int)) = ((dn + 2 ^ w * rn : Nat) : Int) := by push_cast; rfl
      rw [this, Int.toNat_natCast]
    rw [List.length_cons, e, dg, Nat.add_mul_mod_self_left, Nat.mod_eq_of_lt hdl, Nat.add_mul_div_left _ _ (Nat.two_pow_pos w), Nat.div_eq_of_lt hdl, Nat.zero_add]
    rw [hrn, Int.toNat_natCast] at ih
    rw [ih]
theorem dv_lt {w : Nat} : ∀ ds : List Int, (∀ d ∈ ds, 0 ≤ d ∧ d < 2 ^ w) → dv w ds < 2 ^ (w * ds.length)
  | [], _ => by simp [dv]
  | d :: r, h => by
    have hd := h d (.head _)
    have ih := dv_lt r fun x hx => h x (.tail _ hx)
    rw [dv, List.length_cons, Nat.mul_succ, Nat.add_comm, Int.pow_add]
    have h1 : (2 : Int) ^ w * (dv w r + 1) ≤ 2 ^ w * 2 ^ (w * r.length) := Int.mul_le_mul_of_nonneg_left (by omega) (by have := two_pow_pos w; omega)
    rw [Int.mul_add, Int.mul_one] at h1
    omega
end Mine
end
section
open PySem PySem.W PySem.Calls PyProof.Rows
set_option maxRecDepth 100000
namespace Mine
def mAll : Str := Str.ofString "aAkK\u212a_"
def marks : List Str := [Str.ofString "a", Str.ofString "A", Str.ofString "k", Str.ofString "K", Str.ofString "\u212a", Str.ofString "_", Str.ofString "aA", Str.ofString "kK\u212a", Str.ofString "_"]
def alph : List Nat := [97, 65, 107, 75, 8490, 95]
def pm (mk : Str) (c d : Nat) : Int := mk01 mk c * mk01 mk d
theorem pointwise : ∀ c ∈ alph, ∀ d ∈ alph, marks.foldl (fun n mk => n - pm mk c d) (2 * pm mAll c d) = cst c d := by decide +kernel
noncomputable def prs (w : Nat) (xs ys : List Nat) (mk : Str) : Int := dv w (xs.map (mk01 mk)) * dv w (ys.reverse.map (mk01 mk))
theorem fold_D (w : Nat) (xs ys : List Nat) : ∀ (ms : List Str) (a : Nat → Nat → Int), ms.foldl (fun n mk => n - prs w xs ys mk) (Dsum w xs ys a) = Dsum w xs ys fun c d => ms.foldl (fun n mk => n - pm mk c d) (a c d)
  | [], _ => rfl
  | mk :: r, a => by
    rw [List.foldl_cons, show prs w xs ys mk = Dsum w xs ys (pm mk) from prod_D w xs ys _ _, ← D_sub, fold_D w xs ys r]
    rfl
theorem number_is {w : Nat} {xs ys : List Nat} (hx : ∀ c ∈ xs, c ∈ alph) (hy : ∀ c ∈ ys, c ∈ alph) (h1 : 1 ≤ xs.length) (h2 : 1 ≤ ys.length) :
    marks.foldl (fun n mk => n - prs w xs ys mk) (2 * prs w xs ys mAll) = dv w (costsL xs ys) := by
  rw [show prs w xs ys mAll = Dsum w xs ys (pm mAll) from prod_D w xs ys _ _, ← D_mul, fold_D, costs_D w h1 h2]
  exact D_congr w fun c hc d hd => pointwise c (hx c hc) d (hy d hd)
end Mine
end
section
open PySem PySem.W PySem.Calls PyProof.Rows
set_option maxRecDepth 100000
namespace Mine
-- texts and lists of the law
def one (c : Nat) : Str := ⟨#[c]⟩
theorem empty_cps : (Str.ofString "").cps = #[] := by decide +kernel
theorem mAll_cps : mAll.cps = #[97, 65, 107, 75, 8490, 95] := by decide +kernel
theorem join_ones : ∀ cs : List Nat, (Str.join (Str.ofString "") (cs.map one)).cps.toList = cs
  | [] => rfl
  | [c] => rfl
  | c :: d :: r => by
    have ih := join_ones (d :: r)
    show (one c ++ Str.ofString "" ++ Str.join (Str.ofString "") ((d :: r).map one)).cps.toList = _
    rw [Str.cps_append, Str.cps_append, empty_cps]
    simp only [Array.append_empty, Array.toList_append, ih]
    rfl
theorem txt_join_ones (cs : List Nat) : (Txt.join (Str.ofString "") (cs.map one)).cps.toList = cs := by
  show (Builtin.Str.glued (Str.ofString "") (cs.map one)).cps.toList = _
  rw [StrLaws.glued_eq_join, join_ones]
theorem joinOk_ones {cs : List Nat} (h : cs.length ≤ 1000) : JoinOk (Str.ofString "") (cs.map one) = true := by
  unfold JoinOk
  rw [StrLaws.joinTotal]
  have e1 : ((cs.map one).map (·.length)).sum = cs.length := by
    induction cs with
    | nil => rfl
    | cons c r ih =>
      rw [List.map_cons, List.map_cons, List.sum_cons, ih (by simp at h; omega), List.length_cons]
      show 1 + r.length = _
      omega
  have e2 : (Str.ofString "").length = 0 := by unfold Str.length; rw [empty_cps]; rfl
  rw [e1, e2]
  unfold Builtin.Str.tooLong
  rw [decide_eq_false (by rw [sizeLine_eq]; omega)]
  rfl
def Fs (v y : Value) : Prop := ∃ c t', c ∈ alph ∧ y = .str (one c) t'
theorem paired_texts : ∀ {vs ys : List Value}, Paired Fs vs ys → ∃ (texts : List (Str × Tok)) (cs : List Nat), ys = strValues texts ∧ texts.map (·.1) = cs.map one ∧ (∀ c ∈ cs, c ∈ alph) ∧ cs.length = vs.length
  | _, _, .nil => ⟨[], [], rfl, rfl, by simp, rfl⟩
  | _, _, .cons ⟨c, t', hc, e⟩ h => by
    obtain ⟨texts, cs, e1, e2, e3, e4⟩ := paired_texts h
    refine ⟨(one c, t') :: texts, c :: cs, ?_, ?_, ?_, ?_⟩
    · rw [e, e1]; rfl
    · rw [List.map_cons, e2]; rfl
    · intro d hd
      rcases List.mem_cons.mp hd with rfl | hd
      · exact hc
      · exact e3 d hd
    · simp [e4]
def Fi (g : Int → Int) (v y : Value) : Prop := ∃ k t t', v = .int k t ∧ y = .int (g k) t'
theorem paired_ints {g : Int → Int} : ∀ {vs ys : List Value} {ns : List Int}, IntsAre vs ns → Paired (Fi g) vs ys → IntsAre ys (ns.map g)
  | _, _, _, .nil, .nil => .nil
  | _, _, _, .cons i t h, .cons ⟨k, t', t'', e, e2⟩ hp => by
    cases e
    rw [e2, List.map_cons]
    exact .cons _ _ (paired_ints h hp)
theorem filterMap_len {α β : Type} (f : α → Option β) (l : List α) : (l.filterMap f).length ≤ l.length := List.length_filterMap_le ..
theorem even_len {vs : List Value} (h : vs.length ≤ 14) : (slicePick vs.toArray (some 0) none (some 2)).toList.length ≤ 7 := by
  unfold slicePick sliceRange
  refine Nat.le_trans (by simpa using List.length_filterMap_le ..) ?_
  rw [List.length_range]
  simp [sliceBounds]
  split <;> omega
theorem odd_len {vs : List Value} (h : vs.length ≤ 14) : (slicePick vs.toArray (some 1) none (some 2)).toList.length ≤ 7 := by
  unfold slicePick sliceRange
  refine Nat.le_trans (by simpa using List.length_filterMap_le ..) ?_
  rw [List.length_range]
  simp [sliceBounds]
  split <;> omega
theorem pick_alph {i : Int} (h0 : 0 ≤ i) (h1 : i < 6) : ∃ c, mAll.cps[i.toNat]? = some c ∧ c ∈ alph := by
  rw [mAll_cps]
  have : i = 0 ∨ i = 1 ∨ i = 2 ∨ i = 3 ∨ i = 4 ∨ i = 5 := by omega
  rcases this with rfl | rfl | rfl | rfl | rfl | rfl <;> exact ⟨_, rfl, by decide⟩
theorem strs_get : ∀ {vs : List Value} {xs : List Str}, StrsAre vs xs → ∀ (i : Nat) (v : Value), vs[i]? = some v → ∃ y t, v = .str y t ∧ xs[i]? = some y
  | _, _, .nil, i, v, h => by simp at h
  | _, _, .cons y t _, 0, v, h => ⟨y, t, by simpa using h.symm, rfl⟩
  | _, _, .cons y t h', i + 1, v, h => by
    obtain ⟨y', t', e1, e2⟩ := strs_get h' i v (by simpa using h)
    exact ⟨y', t', e1, by simpa using e2⟩
theorem glue_facts {p : Str} {ps cs : List Nat} (hp : p.cps.toList = ps) (h1 : ∀ c ∈ ps, c ∈ alph) (h2 : ∀ c ∈ cs, c ∈ alph) :
    (p ++ Txt.join (Str.ofString "") (cs.map one)).cps.toList.length = ps.length + cs.length ∧ ∀ c ∈ (p ++ Txt.join (Str.ofString "") (cs.map one)).cps.toList, c ∈ alph := by
  rw [Str.cps_append, Array.toList_append, txt_join_ones, hp]
  refine ⟨List.length_append .., fun c hc => ?_⟩
  exact (List.mem_append.mp hc).elim (h1 c) (h2 c)
theorem join_len (cs : List Nat) : (Txt.join (Str.ofString "") (cs.map one)).length = cs.length := by
  have := congrArg List.length (txt_join_ones cs)
  rw [Array.length_toList] at this
  exact this
end Mine
end
section
open PySem PySem.W PySem.Calls PyProof.Rows
set_option maxRecDepth 100000
namespace Mine
local macro_rules | `(tactic| walk_at "look") => `(tactic| first | rfl | assumption | ((refine Eq.trans (if_neg (by decide)) ?_); walk_at "look") | ((refine Eq.trans (if_pos rfl) ?_); walk_at "look"))
local macro_rules | `(tactic| walk_at "t1") => `(tactic| first
  | ((with_reducible refine' T_cAssign ?_ ?ts); (case ts => rfl))
  | (with_reducible refine T_cAug ?_)
  | (with_reducible refine T_cReturn ?_)
  | (with_reducible refine T_cReturn0 ?_)
  | (with_reducible refine T_cIf0 ?_)
  | (with_reducible refine T_cIf ?_)
  | ((with_reducible refine' T_isTrue_Compare ?_ ?tm); (case tm => with_unfolding_all rfl))
  | ((with_reducible refine' T_Compare ?_ ?tm); (case tm => with_unfolding_all rfl))
  | (with_reducible refine T_BinOp ?_)
  | (with_reducible refine T_Subscript ?_)
  | ((with_reducible refine' T_Method ?_ ?te); (case te => rfl))
  | ((with_reducible refine' T_Call ?_ ?te); (case te => rfl))
  | (with_reducible refine T_UnaryOp ?_)
  | (with_reducible refine T_truthy_bool ?_)
  | ((with_reducible refine T_int ?_); intro tk)
  | ((with_reducible refine T_str ?_); intro tk)
  | ((with_reducible refine' T_args_cons ?_ ?te); (case te => rfl))
  | (with_reducible refine T_args_nil ?_)
  | (with_reducible refine T_List ?_)
  | (with_reducible refine T_Tuple ?_)
  | (with_reducible refine T_IfExp ?_)
  | ((with_reducible refine' T_cExpr ?_ ?ti ?ts); (case ti => rfl); (case ts => rfl))
  | ((with_reducible refine' T_cAssignSub ?_ ?ts); (case ts => rfl))
  | ((with_reducible refine' T_callWith_bi ?_ ?te ?tp); (case te => rfl); (case tp => rfl))
  | ((with_reducible refine' T_callWith_ty ?_ ?te ?tp); (case te => rfl); (case tp => rfl))
  | (with_reducible refine T_callWith_bi0 ?_)
  | ((with_reducible refine' T_local ?tX ?tv ?tk ?tl ?td ?_); (case tX => assumption); (case tv => walk_at "look"); (case tk => rfl); (case tl => rfl); (case td => rfl))
  | ((with_reducible refine' T_load ?tX ?tv ?tk ?tl ?_); (case tX => assumption); (case tv => walk_at "look"); (case tk => rfl); (case tl => rfl))
  | ((with_reducible refine' T_store ?tX ?tk ?tl ?_); (case tX => assumption); (case tk => rfl); (case tl => rfl)))
local macro_rules | `(tactic| walk_at "tg") => `(tactic| ((with_reducible refine' T_global ?tW ?tX ?te ?tk ?tl ?tg ?td ?_); (case tW => assumption); (case tX => assumption); (case te => rfl); (case tk => rfl); (case tl => rfl); (case tg => rfl); (case td => rfl)))
local macro_rules | `(tactic| walk_at "tb") => `(tactic| ((with_reducible refine' T_builtin ?tW ?tX ?te ?tv ?tn ?tk ?tl ?tg ?tb ?td ?_); (case tW => assumption); (case tX => assumption); (case te => rfl); (case tv => first | exact Boot.«len» | exact Boot.«range» | exact Boot.«sum» | exact Boot.«divmod» | exact Boot.«reversed»); (case tn => decide); (case tk => rfl); (case tl => rfl); (case tg => rfl); (case tb => rfl); (case td => rfl)))
def lawDef : Arguments × List Stmt × Scope := (defAt 16).getD (default, [], default)
/-- the costs above and below a cut are the digits of the two parts -/
theorem cut_parts {wd room cut N : Nat} {costs : List Int} (hdg : dg wd room N = costs) (hc : cut ≤ room) :
    dg wd (room - cut) (N / 2 ^ (wd * cut)) = costs.drop cut ∧ dg wd cut (N % 2 ^ (wd * cut)) = costs.take cut := by
  have e : costs = dg wd cut (N % 2 ^ (wd * cut)) ++ dg wd (room - cut) (N / 2 ^ (wd * cut)) := by
    rw [← hdg, ← dg_append, Nat.add_sub_cancel' hc]
  have hl : (dg wd cut (N % 2 ^ (wd * cut))).length = cut := dg_length _ _ _
  constructor
  · rw [e, List.drop_append_of_le_length (by omega), List.drop_of_length_le (by omega), List.nil_append]
  · rw [e, List.take_append_of_le_length (by omega), List.take_of_length_le (by omega)]
section
variable {w : World} {prog : Program} {S : Shared}
set_option maxHeartbeats 4000000 in
theorem law_T3 {A : Around} {h₀ h : Heap} {L fa lc ld : Addr} {cd : Value} {m : Str → Option Value} {wd room nc nd' cut N : Nat} {costs : List Int} {cvs dvs : List Value} {tn tw trm tcut : Tok}
    (m0 : m (Str.ofString "number") = some (.int N tn)) (m3 : m (Str.ofString "width") = some (.int wd tw)) (m4 : m (Str.ofString "costs") = some (.ref lc)) (m5 : m (Str.ofString "room") = some (.int room trm)) (m6 : m (Str.ofString "cut") = some (.int cut tcut))
    (hwd5 : 5 ≤ wd) (hwd24 : wd ≤ 24) (hcv : IntsAre cvs costs) (hcl : costs.length = room) (hrm19 : room ≤ 19) (hcut2 : 2 ≤ cut) (hcutr : cut ≤ room)
    (hdg : dg wd room N = costs) (hNlt : N < 2 ^ (wd * room))
    (hr : Rm A 50) (W : Wd w h₀) (X : St h₀ L m [(lc, lst cvs nc), (ld, lst dvs nd')] h) :
    T (model prog w) A S (execs (lawDef.2.1.drop 11) (envOf (Str.ofString "law") lawDef.2.2 L fa cd)) h fun fl h' => fl = .ret (.bool true) ∧ ∃ m' news', St h₀ L m' news' h' := by
  have hcvl : cvs.length = room := by rw [hcv.length, hcl]
  obtain ⟨hd1, hd2⟩ := cut_parts hdg hcutr
  have hwc : wd * cut ≤ 24 * 19 := Nat.mul_le_mul hwd24 (by omega)
  have hpos : 0 < 2 ^ (wd * cut) := Nat.two_pow_pos _
  have hblt : 2 ^ (wd * cut) < 2 ^ 600 := Nat.pow_lt_pow_right (by decide) (by omega)
  have hbits : wd * cut < Builtin.Int.intBits ((2 ^ (wd * cut) : Nat) : Int) := by
    have := lt_bits (2 ^ (wd * cut))
    exact (Nat.pow_lt_pow_iff_right (by decide)).mp this
  have hNb : N < 2 ^ (Builtin.Int.intBits ((2 ^ (wd * cut) : Nat) : Int) * 40) := by
    refine Nat.lt_of_lt_of_le hNlt (Nat.pow_le_pow_right (by decide) ?_)
    have h1 : wd * room ≤ wd * 19 := Nat.mul_le_mul_left _ hrm19
    have h2 : wd * 2 ≤ wd * cut := Nat.mul_le_mul_left _ hcut2
    omega
  refine T_cAssignTup hr.1 rfl rfl rfl ?_ rfl rfl
  walk_at "t1"
  walk_at "tg"
  refine T_callWith_fn ⟨_, _, _, _, X.keep _ _ (W.X 63 _ rfl)⟩ ?_ rfl rfl
  iterate 8 walk_at "t1"
  refine T_mul (.of_left (small_bits (by omega) (by omega))) fun _ => ?_
  refine T_pow (Int.mul_nonneg (by omega) (by omega)) ?_ fun t₁ => ?_
  · rw [show Builtin.Int.intBits 2 = 2 by decide +kernel]
    have : (wd : Int) * cut ≤ 24 * 19 := by exact_mod_cast hwc
    omega
  have eb : (2 : Int) ^ ((wd : Int) * (cut : Int)).toNat = ((2 ^ (wd * cut) : Nat) : Int) := by
    rw [← Int.natCast_mul, Int.toNat_natCast]
    push_cast
    rfl
  rw [eb]
  walk_at "t1"
  refine ⟨⟨_, _, _, _, X.keep _ _ (W.X 63 _ rfl)⟩, ?_⟩
  refine divmod_spec hpos hblt hNb (hr.le (by decide)) W X ?_
  intro h₁ l₁ t₂ t₃ X₁
  refine ⟨l₁, _, _, _, _, _, rfl, X₁.get (.head _), X₁.tail, ?_⟩
  intro h₂ X₂
  have hhi : N / 2 ^ (wd * cut) < 2 ^ (wd * (room - cut)) := by
    rw [Nat.div_lt_iff_lt_mul hpos, ← Nat.pow_add, ← Nat.mul_add, Nat.sub_add_cancel hcutr]
    exact hNlt
  have hlo : N % 2 ^ (wd * cut) < 2 ^ (wd * cut) := Nat.mod_lt _ hpos
  walk_at "t1"
  refine T_BoolOp_and ?_
  iterate 2 walk_at "t1"
  walk_at "tg"
  refine T_callWith_fn ⟨_, _, _, _, X₂.keep _ _ (W.X 82 _ rfl)⟩ ?_ rfl rfl
  iterate 8 walk_at "t1"
  refine T_sub fun t₄ => ?_
  rw [show (room : Int) - (cut : Int) = ((room - cut : Nat) : Int) by omega]
  walk_at "t1"
  refine ⟨⟨_, _, _, _, X₂.keep _ _ (W.X 82 _ rfl)⟩, ?_⟩
  refine lawdig_spec (by omega) (by omega) (by omega) hhi (hr.le (by decide)) W X₂ ?_
  intro h₃ l₃ vs₃ n₃ hds₃ X₃
  iterate 2 walk_at "t1"
  refine T_Slice (T_part_some ?_)
  walk_at "t1"
  refine T_part_none (T_part_none ⟨h₀, L, _, _, X₃, ?_⟩)
  intro sl₄ h₄ X₄ kk₄ hsl₄
  refine T_slice_list X₄ (X₄.get (.tail _ (.head _))) hsl₄ (.int cut tcut) .none .none (by decide) (by omega) ?_ (by with_unfolding_all rfl)
  intro l₅ h₅ X₅
  have efr : (slicePick cvs.toArray (some (cut : Int)) none none).toList = cvs.drop cut := by rw [slicePick_from']
  rw [efr] at X₅
  refine T_eq_list (X₅.get (.tail _ (.head _))) (X₅.get (.head _)) hds₃ (hcv.drop cut) (hr.le (by decide)) ?_
  walk_at "t1"
  refine ite_t (by rw [hd1]; simp) ?_
  replace X₅ := St.drop (fr := [(l₅, _), (l₃, _)]) X₅
  refine T_BoolOp_one ?_
  iterate 2 walk_at "t1"
  walk_at "tg"
  refine T_callWith_fn ⟨_, _, _, _, X₅.keep _ _ (W.X 82 _ rfl)⟩ ?_ rfl rfl
  iterate 7 walk_at "t1"
  refine ⟨⟨_, _, _, _, X₅.keep _ _ (W.X 82 _ rfl)⟩, ?_⟩
  refine lawdig_spec (by omega) (by omega) (by omega) hlo (hr.le (by decide)) W X₅ ?_
  intro h₆ l₆ vs₆ n₆ hds₆ X₆
  iterate 2 walk_at "t1"
  refine T_Slice (T_part_none (T_part_some ?_))
  walk_at "t1"
  refine T_part_none ⟨h₀, L, _, _, X₆, ?_⟩
  intro sl₇ h₇ X₇ kk₇ hsl₇
  refine T_slice_list X₇ (X₇.get (.tail _ (.head _))) hsl₇ .none (.int cut tcut) .none (by decide) (by omega) ?_ (by with_unfolding_all rfl)
  intro l₈ h₈ X₈
  have eup : (slicePick cvs.toArray none (some (cut : Int)) none).toList = cvs.take cut := by rw [slicePick_upto']
  rw [eup] at X₈
  refine T_eq_list (X₈.get (.tail _ (.head _))) (X₈.get (.head _)) hds₆ (hcv.take cut) (hr.le (by decide)) ?_
  exact ⟨by rw [hd2]; simp, _, _, X₈⟩
end
end Mine
end
section
open PySem PySem.W PySem.Calls PyProof.Rows
set_option maxRecDepth 100000
namespace Mine
local macro_rules | `(tactic| walk_at "look") => `(tactic| first | rfl | assumption | ((refine Eq.trans (if_neg (by decide)) ?_); walk_at "look") | ((refine Eq.trans (if_pos rfl) ?_); walk_at "look"))
local macro_rules | `(tactic| walk_at "t1") => `(tactic| first
  | ((with_reducible refine' T_cAssign ?_ ?ts); (case ts => rfl))
  | (with_reducible refine T_cAug ?_)
  | (with_reducible refine T_cReturn ?_)
  | (with_reducible refine T_cReturn0 ?_)
  | (with_reducible refine T_cIf0 ?_)
  | (with_reducible refine T_cIf ?_)
  | ((with_reducible refine' T_isTrue_Compare ?_ ?tm); (case tm => with_unfolding_all rfl))
  | ((with_reducible refine' T_Compare ?_ ?tm); (case tm => with_unfolding_all rfl))
  | (with_reducible refine T_BinOp ?_)
  | (with_reducible refine T_Subscript ?_)
  | ((with_reducible refine' T_Method ?_ ?te); (case te => rfl))
  | ((with_reducible refine' T_Call ?_ ?te); (case te => rfl))
  | (with_reducible refine T_UnaryOp ?_)
  | (with_reducible refine T_truthy_bool ?_)
  | ((with_reducible refine T_int ?_); intro tk)
  | ((with_reducible refine T_str ?_); intro tk)
  | ((with_reducible refine' T_args_cons ?_ ?te); (case te => rfl))
  | (with_reducible refine T_args_nil ?_)
  | (with_reducible refine T_List ?_)
  | (with_reducible refine T_Tuple ?_)
  | (with_reducible refine T_IfExp ?_)
  | ((with_reducible refine' T_cExpr ?_ ?ti ?ts); (case ti => rfl); (case ts => rfl))
  | ((with_reducible refine' T_cAssignSub ?_ ?ts); (case ts => rfl))
  | ((with_reducible refine' T_callWith_bi ?_ ?te ?tp); (case te => rfl); (case tp => rfl))
  | ((with_reducible refine' T_callWith_ty ?_ ?te ?tp); (case te => rfl); (case tp => rfl))
  | (with_reducible refine T_callWith_bi0 ?_)
  | ((with_reducible refine' T_local ?tX ?tv ?tk ?tl ?td ?_); (case tX => assumption); (case tv => walk_at "look"); (case tk => rfl); (case tl => rfl); (case td => rfl))
  | ((with_reducible refine' T_load ?tX ?tv ?tk ?tl ?_); (case tX => assumption); (case tv => walk_at "look"); (case tk => rfl); (case tl => rfl))
  | ((with_reducible refine' T_store ?tX ?tk ?tl ?_); (case tX => assumption); (case tk => rfl); (case tl => rfl)))
local macro_rules | `(tactic| walk_at "tg") => `(tactic| ((with_reducible refine' T_global ?tW ?tX ?te ?tk ?tl ?tg ?td ?_); (case tW => assumption); (case tX => assumption); (case te => rfl); (case tk => rfl); (case tl => rfl); (case tg => rfl); (case td => rfl)))
local macro_rules | `(tactic| walk_at "tb") => `(tactic| ((with_reducible refine' T_builtin ?tW ?tX ?te ?tv ?tn ?tk ?tl ?tg ?tb ?td ?_); (case tW => assumption); (case tX => assumption); (case te => rfl); (case tv => first | exact Boot.«len» | exact Boot.«range» | exact Boot.«sum» | exact Boot.«divmod» | exact Boot.«reversed»); (case tn => decide); (case tk => rfl); (case tl => rfl); (case tg => rfl); (case tb => rfl); (case td => rfl)))
section
variable {w : World} {prog : Program} {S : Shared}
set_option maxHeartbeats 4000000 in
theorem law_T2 {A : Around} {h₀ h : Heap} {L fa lc ld : Addr} {cd : Value} {m : Str → Option Value} {fs sc : Str} {wd room nc nd' : Nat} {costs dr : List Int} {cvs dvs : List Value} {tf tsc tw trm : Tok}
    (m1 : m (Str.ofString "first") = some (.str fs tf)) (m2 : m (Str.ofString "second") = some (.str sc tsc)) (m3 : m (Str.ofString "width") = some (.int wd tw)) (m4 : m (Str.ofString "costs") = some (.ref lc)) (m5 : m (Str.ofString "room") = some (.int room trm)) (m6 : m (Str.ofString "drawn") = some (.ref ld))
    (hf1 : 1 ≤ fs.cps.size) (hf : fs.cps.size ≤ 10) (hs1 : 1 ≤ sc.cps.size) (hs : sc.cps.size ≤ 10) (hwd5 : 5 ≤ wd) (hwd24 : wd ≤ 24) (hcv : IntsAre cvs costs) (hdr : IntsAre dvs dr) (hcl : costs.length = room) (hrm : 2 ≤ room) (hrm19 : room ≤ 19)
    (hmem : ∀ d ∈ costs, 0 ≤ d ∧ d < 2 ^ wd) (hnum : marks.foldl (fun n mk => n - prs wd fs.cps.toList sc.cps.toList mk) (2 * prs wd fs.cps.toList sc.cps.toList mAll) = dv wd costs) (hrev : costsL sc.cps.toList fs.cps.toList = costs.reverse)
    (hr : Rm A 50) (W : Wd w h₀) (X : St h₀ L m [(lc, lst cvs nc), (ld, lst dvs nd')] h) :
    T (model prog w) A S (execs (lawDef.2.1.drop 6) (envOf (Str.ofString "law") lawDef.2.2 L fa cd)) h fun fl h' => fl = .ret (.bool true) ∧ ∃ m' news', St h₀ L m' news' h' := by
  have hcvl : cvs.length = room := by rw [hcv.length, hcl]
  refine T_cAssign ?_ rfl
  iterate 3 walk_at "t1"
  walk_at "tg"
  refine T_callWith_fn ⟨_, _, _, _, X.keep _ _ (W.X 68 _ rfl)⟩ ?_ rfl rfl
  iterate 5 walk_at "t1"
  refine T_str fun _ => ?_
  iterate 3 walk_at "t1"
  refine ⟨⟨_, _, _, _, X.keep _ _ (W.X 68 _ rfl)⟩, ?_⟩
  refine pairs_spec (mk := mAll) (by omega) (by omega) (by omega) (hr.le (by decide)) W X ?_
  intro h₁ t₁ X₁
  refine T_mul (.of_left (by decide +kernel)) fun t₂ => ?_
  walk_at "t1"
  intro h₂ X₂
  refine T_forList hr.1 rfl rfl (fun _ => rfl)
    (fun i m₁ news₁ => ∃ tn, m₁ (Str.ofString "number") = some (.int ((marks.take i).foldl (fun n mk => n - prs wd fs.cps.toList sc.cps.toList mk) (2 * prs wd fs.cps.toList sc.cps.toList mAll)) tn) ∧
      m₁ (Str.ofString "first") = some (.str fs tf) ∧ m₁ (Str.ofString "second") = some (.str sc tsc) ∧ m₁ (Str.ofString "width") = some (.int wd tw) ∧ m₁ (Str.ofString "costs") = some (.ref lc) ∧ m₁ (Str.ofString "room") = some (.int room trm) ∧ m₁ (Str.ofString "drawn") = some (.ref ld) ∧
      news₁ = [(lc, lst cvs nc), (ld, lst dvs nd')]) ?_
  walk_at "t1"
  walk_at "t1"
  refine T_str fun a1 => ?_
  walk_at "t1"
  refine T_str fun a2 => ?_
  walk_at "t1"
  refine T_str fun a3 => ?_
  walk_at "t1"
  refine T_str fun a4 => ?_
  walk_at "t1"
  refine T_str fun a5 => ?_
  walk_at "t1"
  refine T_str fun a6 => ?_
  walk_at "t1"
  refine T_str fun a7 => ?_
  walk_at "t1"
  refine T_str fun a8 => ?_
  walk_at "t1"
  refine T_str fun a9 => ?_
  walk_at "t1"
  refine T_newList X₂ (by simp) ?_
  intro lm h₃ X₃
  have hstrs : StrsAre [.str (Str.ofString "a") a1, .str (Str.ofString "A") a2, .str (Str.ofString "k") a3, .str (Str.ofString "K") a4, .str (Str.ofString "\u212a") a5, .str (Str.ofString "_") a6, .str (Str.ofString "aA") a7, .str (Str.ofString "kK\u212a") a8, .str (Str.ofString "_") a9] marks :=
    .cons _ _ (.cons _ _ (.cons _ _ (.cons _ _ (.cons _ _ (.cons _ _ (.cons _ _ (.cons _ _ (.cons _ _ .nil))))))))
  refine ⟨lm, _, _, h₀, _, _, rfl, X₃, ⟨t₂, ?_, ?_, ?_, ?_, ?_, ?_, ?_, rfl⟩, ?_, ?_⟩
  · rfl
  · walk_at "look"
  · walk_at "look"
  · walk_at "look"
  · walk_at "look"
  · walk_at "look"
  · walk_at "look"
  · intro i v m₁ news₁ g h₄ hi hv hJ kk X₄
    obtain ⟨tn, k0, k1, k2, k3, k4, k5, k6, rfl⟩ := hJ
    have W₁ := W.keeps kk
    obtain ⟨mk, tm, rfl, hmk⟩ := strs_get hstrs i v hv
    iterate 3 walk_at "t1"
    walk_at "tg"
    refine T_callWith_fn ⟨_, _, _, _, X₄.keep _ _ (W₁.X 68 _ rfl)⟩ ?_ rfl rfl
    iterate 9 walk_at "t1"
    refine ⟨⟨_, _, _, _, X₄.keep _ _ (W₁.X 68 _ rfl)⟩, ?_⟩
    refine pairs_spec (mk := mk) (by omega) (by omega) (by omega) (hr.le (by decide)) W₁ X₄ ?_
    intro h₅ t₅ X₅
    refine T_isub fun t₆ => ?_
    walk_at "t1"
    intro h₆ X₆
    refine T_nil ⟨.inl rfl, _, _, X₆, t₆, ?_, ?_, ?_, ?_, ?_, ?_, ?_, rfl⟩
    · rw [List.take_add_one, hmk]
      simp only [Option.toList_some, List.foldl_append, List.foldl_cons, List.foldl_nil]
      rfl
    · walk_at "look"
    · walk_at "look"
    · walk_at "look"
    · walk_at "look"
    · walk_at "look"
    · walk_at "look"
  intro m₁ news₁ h₄ hJ X₄
  obtain ⟨tn, k0, k1, k2, k3, k4, k5, k6, rfl⟩ := hJ
  have e9 : (marks.take 9).foldl (fun n mk => n - prs wd fs.cps.toList sc.cps.toList mk) (2 * prs wd fs.cps.toList sc.cps.toList mAll) = dv wd costs := hnum
  replace k0 : m₁ (Str.ofString "number") = some (.int (dv wd costs) tn) := by rw [← e9]; exact k0
  have hpos := (dv_bound (B := wd) (Nat.le_refl _) costs hmem).1
  have hdg := dg_dv wd costs hmem
  have hdlt := dv_lt costs hmem
  obtain ⟨N, hN⟩ := Int.eq_ofNat_of_zero_le hpos
  rw [hN] at k0 hdg hdlt
  rw [Int.toNat_natCast] at hdg
  rw [hcl] at hdg hdlt
  have hNlt : N < 2 ^ (wd * room) := by exact_mod_cast hdlt
  clear e9 hnum
  have hmem600 : ∀ d ∈ costs, (0 : Int) ≤ d ∧ d < 2 ^ 600 := fun d hd => ⟨(hmem d hd).1, Int.lt_of_lt_of_le (hmem d hd).2 (two_pow_le (by omega))⟩
  -- the digits are the costs
  walk_at "t1"
  refine T_isTrue_or ?_
  iterate 2 walk_at "t1"
  walk_at "tg"
  refine T_callWith_fn ⟨_, _, _, _, X₄.keep _ _ (W.X 82 _ rfl)⟩ ?_ rfl rfl
  iterate 7 walk_at "t1"
  refine ⟨⟨_, _, _, _, X₄.keep _ _ (W.X 82 _ rfl)⟩, ?_⟩
  refine lawdig_spec (by omega) (by omega) (by omega) hNlt (hr.le (by decide)) W X₄ ?_
  intro h₅ l₅ vs₅ n₅ hds₅ X₅
  walk_at "t1"
  refine T_ne_list (X₅.get (.head _)) (X₅.get (.tail _ (.head _))) hds₅ hcv (hr.le (by decide)) ?_
  walk_at "t1"
  refine ite_f (by rw [hdg]; simp) ?_
  replace X₅ := X₅.tail
  -- the costs turned round
  refine T_isTrue_or ?_
  iterate 2 walk_at "t1"
  walk_at "tg"
  refine T_callWith_fn ⟨_, _, _, _, X₅.keep _ _ (W.X 75 _ rfl)⟩ ?_ rfl rfl
  iterate 5 walk_at "t1"
  refine ⟨⟨_, _, _, _, X₅.keep _ _ (W.X 75 _ rfl)⟩, ?_⟩
  refine costs_spec (by omega) (by omega) (by omega) (hr.le (by decide)) W X₅ ?_
  intro h₆ l₆ vs₆ n₆ hcs₆ X₆
  iterate 2 walk_at "t1"
  refine T_Slice (T_part_none (T_part_none (T_part_some ?_)))
  iterate 2 walk_at "t1"
  refine T_neg fun tn₁ => ⟨h₀, L, _, _, X₆, ?_⟩
  intro sl₇ h₇ X₇ kk₇ hsl₇
  refine T_slice_list X₇ (X₇.get (.tail _ (.head _))) hsl₇ .none .none (.int (-1) tn₁) (by decide) (by omega) ?_ (by with_unfolding_all rfl)
  intro l₈ h₈ X₈
  have erev : (slicePick cvs.toArray none none (some (-1))).toList = cvs.reverse := by rw [krv_pick]
  rw [erev] at X₈
  refine T_ne_list (X₈.get (.tail _ (.head _))) (X₈.get (.head _)) hcs₆ hcv.reverse (hr.le (by decide)) ?_
  walk_at "t1"
  refine ite_f (by rw [hrev]; simp) ?_
  refine T_isTrue_or_nil ?_
  refine ite_f (by simp) ?_
  replace X₈ := St.drop (fr := [(l₈, _), (l₆, _)]) X₈
  -- the number out of the costs
  iterate 3 walk_at "t1"
  walk_at "tg"
  refine T_callWith_fn ⟨_, _, _, _, X₈.keep _ _ (W.X 49 _ rfl)⟩ ?_ rfl rfl
  iterate 5 walk_at "t1"
  refine ⟨⟨_, _, _, _, X₈.keep _ _ (W.X 49 _ rfl)⟩, ?_⟩
  refine d2i_spec (ds := costs) (by omega) (by omega) hmem600 (hr.le (by decide)) W X₈ (.inr (.head _)) hcv ?_
  intro h₉ t₉ X₉
  rw [hN]
  walk_at "t1"
  refine T_ne_int ?_
  walk_at "t1"
  refine ite_f (by simp) ?_
  -- cut
  iterate 6 walk_at "t1"
  walk_at "tb"
  iterate 4 walk_at "t1"
  refine T_sum X₉ (X₉.get (.tail _ (.head _))) hdr hr.1 ?_
  intro h₁₀ t₁₀ X₁₀
  walk_at "t1"
  refine T_fdiv (by decide) (noPyl (by decide +kernel)) fun _ => ?_
  iterate 3 walk_at "t1"
  refine T_sub fun _ => ?_
  refine T_mod (by omega) fun _ => ?_
  refine T_add fun tcut => ?_
  obtain ⟨cut, hcut, hcut2, hcutr⟩ : ∃ cut : Nat, (2 : Int) + (dr.sum.fdiv 20).fmod ((room : Int) - 1) = (cut : Int) ∧ 2 ≤ cut ∧ cut ≤ room := by
    have q0 := Int.fmod_nonneg_of_pos (dr.sum.fdiv 20) (show (0 : Int) < (room : Int) - 1 by omega)
    have q1 := Int.fmod_lt_of_pos (dr.sum.fdiv 20) (show (0 : Int) < (room : Int) - 1 by omega)
    exact ⟨(2 + (dr.sum.fdiv 20).fmod ((room : Int) - 1)).toNat, by omega, by omega, by omega⟩
  rw [hcut]
  walk_at "t1"
  intro h₁₁ X₁₁
  refine law_T3 (tn := tn) (tw := tw) (trm := trm) (tcut := tcut) ?_ ?_ ?_ ?_ ?_ hwd5 hwd24 hcv hcl hrm19 hcut2 hcutr hdg hNlt hr W X₁₁
  · walk_at "look"
  · walk_at "look"
  · walk_at "look"
  · walk_at "look"
  · rfl
end
end Mine
end
section
open PySem PySem.W PySem.Calls PyProof.Rows
set_option maxRecDepth 100000
namespace Mine
local macro_rules | `(tactic| walk_at "look") => `(tactic| first | rfl | assumption | ((refine Eq.trans (if_neg (by decide)) ?_); walk_at "look") | ((refine Eq.trans (if_pos rfl) ?_); walk_at "look"))
local macro_rules | `(tactic| walk_at "t1") => `(tactic| first
  | ((with_reducible refine' T_cAssign ?_ ?ts); (case ts => rfl))
  | (with_reducible refine T_cAug ?_)
  | (with_reducible refine T_cReturn ?_)
  | (with_reducible refine T_cReturn0 ?_)
  | (with_reducible refine T_cIf0 ?_)
  | (with_reducible refine T_cIf ?_)
  | ((with_reducible refine' T_isTrue_Compare ?_ ?tm); (case tm => with_unfolding_all rfl))
  | ((with_reducible refine' T_Compare ?_ ?tm); (case tm => with_unfolding_all rfl))
  | (with_reducible refine T_BinOp ?_)
  | (with_reducible refine T_Subscript ?_)
  | ((with_reducible refine' T_Method ?_ ?te); (case te => rfl))
  | ((with_reducible refine' T_Call ?_ ?te); (case te => rfl))
  | (with_reducible refine T_UnaryOp ?_)
  | (with_reducible refine T_truthy_bool ?_)
  | ((with_reducible refine T_int ?_); intro tk)
  | ((with_reducible refine T_str ?_); intro tk)
  | ((with_reducible refine' T_args_cons ?_ ?te); (case te => rfl))
  | (with_reducible refine T_args_nil ?_)
  | (with_reducible refine T_List ?_)
  | (with_reducible refine T_Tuple ?_)
  | (with_reducible refine T_IfExp ?_)
  | ((with_reducible refine' T_cExpr ?_ ?ti ?ts); (case ti => rfl); (case ts => rfl))
  | ((with_reducible refine' T_cAssignSub ?_ ?ts); (case ts => rfl))
  | ((with_reducible refine' T_callWith_bi ?_ ?te ?tp); (case te => rfl); (case tp => rfl))
  | ((with_reducible refine' T_callWith_ty ?_ ?te ?tp); (case te => rfl); (case tp => rfl))
  | (with_reducible refine T_callWith_bi0 ?_)
  | ((with_reducible refine' T_local ?tX ?tv ?tk ?tl ?td ?_); (case tX => assumption); (case tv => walk_at "look"); (case tk => rfl); (case tl => rfl); (case td => rfl))
  | ((with_reducible refine' T_load ?tX ?tv ?tk ?tl ?_); (case tX => assumption); (case tv => walk_at "look"); (case tk => rfl); (case tl => rfl))
  | ((with_reducible refine' T_store ?tX ?tk ?tl ?_); (case tX => assumption); (case tk => rfl); (case tl => rfl)))
local macro_rules | `(tactic| walk_at "tg") => `(tactic| ((with_reducible refine' T_global ?tW ?tX ?te ?tk ?tl ?tg ?td ?_); (case tW => assumption); (case tX => assumption); (case te => rfl); (case tk => rfl); (case tl => rfl); (case tg => rfl); (case td => rfl)))
local macro_rules | `(tactic| walk_at "tb") => `(tactic| ((with_reducible refine' T_builtin ?tW ?tX ?te ?tv ?tn ?tk ?tl ?tg ?tb ?td ?_); (case tW => assumption); (case tX => assumption); (case te => rfl); (case tv => first | exact Boot.«len» | exact Boot.«range» | exact Boot.«sum» | exact Boot.«divmod» | exact Boot.«reversed»); (case tn => decide); (case tk => rfl); (case tl => rfl); (case tg => rfl); (case tb => rfl); (case td => rfl)))
def g6 (k : Int) : Int := k.fmod (10 ^ Int.toNat 6)
section
variable {w : World} {prog : Program} {S : Shared}
set_option maxHeartbeats 4000000 in
theorem law_T {vs : List Value} {ns : List Int} {A : Around} {h₀ h : Heap} {L ls fa : Addr} {cd : Value} {m : Str → Option Value} (hm : m (Str.ofString "script") = some (.ref ls)) (hls : h₀.IsList ls vs.toArray) (hints : IntsAre vs ns) (hlen : ns.length ≤ 63)
    (hr : Rm A 50) (W : Wd w h₀) (X : St h₀ L m [] h) :
    T (model prog w) A S (execs lawDef.2.1 (envOf (Str.ofString "law") lawDef.2.2 L fa cd)) h fun fl h' => fl = .ret (.bool true) ∧ ∃ m' news', St h₀ L m' news' h' := by
  have hlv : vs.length = ns.length := hints.length
  have lsNow : ∀ {m' : Str → Option Value} {news' : List (Addr × Obj)} {h' : Heap}, St h₀ L m' news' h' → h'.IsList ls vs.toArray := fun X' => let ⟨o, e, r⟩ := hls; ⟨o, X'.keep _ _ e, r⟩
  -- drawn
  refine T_cAssignComp (Fi g6) rfl (by decide) (by decide) rfl (by decide) rfl rfl rfl hr.1 (fun _ => rfl) ?_
  iterate 2 walk_at "t1"
  refine T_Slice (T_part_none (T_part_some ?_))
  refine T_int fun t14 => ?_
  refine T_part_none ⟨h₀, L, _, _, X, ?_⟩
  intro sl h₁ X₁ kk₁ hsl
  refine T_slice_isList X₁ (lsNow X₁) hsl .none (.int 14 t14) .none nofun (by omega) ?_ (by with_unfolding_all rfl)
  intro l₁ h₂ X₂
  have e14 : (slicePick vs.toArray none (some 14) none).toList = vs.take 14 := by
    have := slicePick_upto' vs.toArray 14
    rw [show ((14 : Nat) : Int) = 14 by rfl] at this
    rw [this]
  rw [e14] at X₂
  have hint14 : IntsAre (vs.take 14) (ns.take 14) := hints.take 14
  refine ⟨l₁, vs.take 14, h₀, _, _, rfl, by rw [List.length_take]; omega, lst_is (X₂.get (.head _)), X₂, ?_, ?_⟩
  · intro S' C v h' m₃ hv hn hm'
    obtain ⟨k, tk, rfl⟩ := hint14.all v hv
    walk_at "t1"
    refine T_nameNs hn hm' rfl rfl rfl ?_
    iterate 3 walk_at "t1"
    refine T_pow (by decide) (by decide +kernel) fun _ => ?_
    refine T_mod (by decide) fun tm => ?_
    exact ⟨rfl, k, tk, tm, rfl, rfl⟩
  intro ld h₃ dvs nd₃ hpair X₃
  have hdr : IntsAre dvs ((ns.take 14).map g6) := paired_ints hint14 hpair
  replace X₃ := St.dropEnd (news := [(ld, lst dvs nd₃)]) X₃
  generalize hdre : (ns.take 14).map g6 = dr at hdr
  have hdl : dr.length ≤ 14 := by rw [← hdre, List.length_map, List.length_take]; omega
  have hdvl : dvs.length = dr.length := hdr.length
  -- width
  iterate 5 walk_at "t1"
  walk_at "tb"
  iterate 4 walk_at "t1"
  refine T_sum X₃ (X₃.get (.head _)) hdr hr.1 ?_
  intro h₄ ts X₄
  generalize dr.sum = sD
  walk_at "t1"
  refine T_mod (by decide) fun _ => ?_
  refine T_add fun tw => ?_
  obtain ⟨wd, hwd⟩ : ∃ wd : Nat, (5 : Int) + sD.fmod 20 = (wd : Int) := ⟨(5 + sD.fmod 20).toNat, by
    have := Int.fmod_nonneg_of_pos sD (show (0 : Int) < 20 by decide)
    omega⟩
  have hwd5 : 5 ≤ wd := by
    have := Int.fmod_nonneg_of_pos sD (show (0 : Int) < 20 by decide)
    omega
  have hwd24 : wd ≤ 24 := by
    have := Int.fmod_lt_of_pos sD (show (0 : Int) < 20 by decide)
    omega
  rw [hwd]
  walk_at "t1"
  intro h₅ X₅
  -- first
  iterate 2 walk_at "t1"
  refine T_str fun tkA => ?_
  walk_at "t1"
  refine T_str fun te => ?_
  refine T_getMethod_join ?_
  iterate 2 walk_at "t1"
  refine T_CompL Fs (by decide) (by decide) rfl (by decide) rfl hr.1 (fun _ => rfl) ?_
  iterate 2 walk_at "t1"
  refine T_Slice (T_part_some ?_)
  refine T_int fun t0 => ?_
  refine T_part_none (T_part_some ?_)
  refine T_int fun t2 => ⟨h₀, L, _, _, X₅, ?_⟩
  intro sl₂ h₆ X₆ kk₆ hsl₂
  refine T_slice_list X₆ (X₆.get (.head _)) hsl₂ (.int 0 t0) .none (.int 2 t2) (by decide) (by omega) ?_ (by with_unfolding_all rfl)
  intro l₇ h₇ X₇
  have hev := even_len (vs := dvs) (by omega)
  have hpk := hdr.pick (some 0) none (some 2)
  generalize hevs : (slicePick dvs.toArray (some 0) none (some 2)).toList = evs at *
  refine ⟨l₇, evs, h₀, L, _, _, rfl, by omega, lst_is (X₇.get (.head _)), X₇, ?_, ?_⟩
  · intro S' C v h' m₃ hv hn hm'
    obtain ⟨k, tk, rfl⟩ := hpk.all v hv
    walk_at "t1"
    refine T_str fun tA => ?_
    walk_at "t1"
    refine T_nameNs hn hm' rfl rfl rfl ?_
    walk_at "t1"
    refine T_mod (by decide) fun _ => ?_
    have p0 := Int.fmod_nonneg_of_pos k (show (0 : Int) < 6 by decide)
    have p1 := Int.fmod_lt_of_pos k (show (0 : Int) < 6 by decide)
    obtain ⟨c, hc, hca⟩ := pick_alph p0 p1
    exact T_item_str p0 (by omega) hc fun t' => ⟨rfl, c, t', hca, rfl⟩
  intro l₈ h₈ sys n₈ hpair₈ X₈
  obtain ⟨texts, cs, rfl, htx, hcs, hcl⟩ := paired_texts hpair₈
  walk_at "t1"
  refine T_join (X₈.get (.head _)) (by rw [htx]; exact joinOk_ones (by omega)) fun tj => ?_
  rw [htx]
  refine T_add_str (by rw [join_len, show (Str.ofString "kA_").length = 3 by decide +kernel]; omega) fun tf => ?_
  have hfs := glue_facts (p := Str.ofString "kA_") (ps := [107, 65, 95]) (cs := cs) (by decide +kernel) (by decide) hcs
  generalize Str.ofString "kA_" ++ Txt.join (Str.ofString "") (cs.map one) = fs at hfs ⊢
  obtain ⟨hfsl, hfsa⟩ := hfs
  replace hfsl : fs.cps.toList.length = 3 + cs.length := hfsl
  replace X₈ := St.drop (fr := [(l₈, _), (l₇, _)]) X₈
  walk_at "t1"
  intro h₉ X₉
  -- second
  iterate 2 walk_at "t1"
  refine T_str fun tKa => ?_
  walk_at "t1"
  refine T_str fun te₂ => ?_
  refine T_getMethod_join ?_
  iterate 2 walk_at "t1"
  refine T_CompL Fs (by decide) (by decide) rfl (by decide) rfl hr.1 (fun _ => rfl) ?_
  iterate 2 walk_at "t1"
  refine T_Slice (T_part_some ?_)
  refine T_int fun t1 => ?_
  refine T_part_none (T_part_some ?_)
  refine T_int fun t2' => ⟨h₀, L, _, _, X₉, ?_⟩
  intro sl₃ h₁₀ X₁₀ kk₁₀ hsl₃
  refine T_slice_list X₁₀ (X₁₀.get (.head _)) hsl₃ (.int 1 t1) .none (.int 2 t2') (by decide) (by omega) ?_ (by with_unfolding_all rfl)
  intro l₁₁ h₁₁ X₁₁
  have hod := odd_len (vs := dvs) (by omega)
  have hpk₂ := hdr.pick (some 1) none (some 2)
  generalize hods : (slicePick dvs.toArray (some 1) none (some 2)).toList = ods at *
  refine ⟨l₁₁, ods, h₀, L, _, _, rfl, by omega, lst_is (X₁₁.get (.head _)), X₁₁, ?_, ?_⟩
  · intro S' C v h' m₃ hv hn hm'
    obtain ⟨k, tk, rfl⟩ := hpk₂.all v hv
    walk_at "t1"
    refine T_str fun tA => ?_
    iterate 2 walk_at "t1"
    refine T_nameNs hn hm' rfl rfl rfl ?_
    walk_at "t1"
    refine T_fdiv (by decide) (noPyl (by decide +kernel)) fun _ => ?_
    walk_at "t1"
    refine T_mod (by decide) fun _ => ?_
    have p0 := Int.fmod_nonneg_of_pos (k.fdiv 6) (show (0 : Int) < 6 by decide)
    have p1 := Int.fmod_lt_of_pos (k.fdiv 6) (show (0 : Int) < 6 by decide)
    obtain ⟨c, hc, hca⟩ := pick_alph p0 p1
    exact T_item_str p0 (by omega) hc fun t' => ⟨rfl, c, t', hca, rfl⟩
  intro l₁₂ h₁₂ sys₂ n₁₂ hpair₁₂ X₁₂
  obtain ⟨texts₂, cs₂, rfl, htx₂, hcs₂, hcl₂⟩ := paired_texts hpair₁₂
  walk_at "t1"
  refine T_join (X₁₂.get (.head _)) (by rw [htx₂]; exact joinOk_ones (by omega)) fun tj₂ => ?_
  rw [htx₂]
  refine T_add_str (by rw [join_len, show (Str.ofString "\u212aa").length = 2 by decide +kernel]; omega) fun tsc => ?_
  have hsc := glue_facts (p := Str.ofString "\u212aa") (ps := [8490, 97]) (cs := cs₂) (by decide +kernel) (by decide) hcs₂
  generalize Str.ofString "\u212aa" ++ Txt.join (Str.ofString "") (cs₂.map one) = sc at hsc ⊢
  obtain ⟨hscl, hsca⟩ := hsc
  replace hscl : sc.cps.toList.length = 2 + cs₂.length := hscl
  replace X₁₂ := St.drop (fr := [(l₁₂, _), (l₁₁, _)]) X₁₂
  walk_at "t1"
  intro h₁₃ X₁₃
  have hfz : fs.cps.size = 3 + cs.length := by rw [← Array.length_toList]; exact hfsl
  have hsz : sc.cps.size = 2 + cs₂.length := by rw [← Array.length_toList]; exact hscl
  -- costs
  iterate 2 walk_at "t1"
  walk_at "tg"
  refine T_callWith_fn ⟨_, _, _, _, X₁₃.keep _ _ (W.X 75 _ rfl)⟩ ?_ rfl rfl
  iterate 5 walk_at "t1"
  refine ⟨⟨_, _, _, _, X₁₃.keep _ _ (W.X 75 _ rfl)⟩, ?_⟩
  refine costs_spec (by omega) (by omega) (by omega) (hr.le (by decide)) W X₁₃ ?_
  intro h₁₄ lc cvs n₁₄ hcv X₁₄
  have hcvl : cvs.length = fs.cps.toList.length + sc.cps.toList.length - 1 := by rw [hcv.length, costs_len]
  have hmem := costs_mem (xs := fs.cps.toList) (ys := sc.cps.toList) (w := wd) (by omega) hwd5
  have hnum := number_is (w := wd) hfsa hsca (by omega) (by omega)
  have hrev := costs_rev (xs := fs.cps.toList) (ys := sc.cps.toList) (by omega) (by omega)
  generalize hcse : costsL fs.cps.toList sc.cps.toList = costs at *
  walk_at "t1"
  intro h₁₅ X₁₅
  -- room
  iterate 2 walk_at "t1"
  walk_at "tb"
  iterate 4 walk_at "t1"
  refine T_len_list (X₁₅.get (.head _)) (by omega) fun trm => ?_
  generalize hroom : cvs.length = room at *
  walk_at "t1"
  intro h₁₆ X₁₆
  have hcosl : costs.length = room := by rw [← hcv.length, hroom]
  refine law_T2 (tf := tf) (tsc := tsc) (tw := tw) (trm := trm) ?_ ?_ ?_ ?_ ?_ ?_ (by omega) (by omega) (by omega) (by omega) hwd5 hwd24 hcv hdr hcosl (by omega) (by omega) hmem hnum hrev hr W X₁₆
  · walk_at "look"
  · walk_at "look"
  · walk_at "look"
  · walk_at "look"
  · rfl
  · walk_at "look"
end
end Mine
end
section
open PySem PySem.W PySem.Calls PyProof.Rows
set_option maxRecDepth 100000
namespace Mine
theorem start {g h : Heap} {L : Addr} {m : Str → Option Value} (F : Fr g L h m) (N : News g L h [(37, tabObj #[]), (44, tabObj #[])]) : St g L m [] h := by
  refine ⟨[(37, tabObj #[]), (44, tabObj #[])], ⟨#[], #[], [], rfl, .inl rfl, .inl rfl⟩, F.ns, F.keep, Heap.get?_none_of_le F.above, fun p hp => ⟨(N p hp).1, (N p hp).2.2⟩, ?_⟩
  have a := (N _ (.head _)).2.1
  have b := (N _ (.tail _ (.head _))).2.1
  simp only [List.append_nil, List.map_cons, List.map_nil, List.nodup_cons, List.mem_cons, List.not_mem_nil, or_false, not_or, not_false_eq_true]
  exact ⟨⟨fun e => a e.symm, fun e => b e.symm⟩, ⟨by decide, True.intro, List.nodup_nil⟩⟩
theorem St.grown {g h : Heap} {L : Addr} {m : Str → Option Value} {news : List (Addr × Obj)} (X : St g L m news h) : GrownAll [(41, 37), (48, 44)] h := by
  obtain ⟨hid, ⟨ta, tb, junk, rfl, _, _⟩, S⟩ := X
  exact ⟨⟨ta, (S.own _ (.head _)).1⟩, ⟨tb, (S.own _ (.tail _ (.head _))).1⟩, True.intro⟩
theorem rm0 (env : Env) : Rm (callerA.deeper env) 50 := by
  refine ⟨rfl, ?_, ?_⟩
  · simp only [depth_deeper, depth_caller]; decide
  · simp only [units_deeper, units_caller, cLine_is]; decide
end Mine
set_option maxHeartbeats 8000000 in
theorem PySem.Challenge.cw_nb0142_01_holds : PySem.Challenge.rw_nb0142_01.Holds := by
  refine Mine.hd ?_
  w_strict k_go0
  all_goals try k_fold
  rename CodeHd _ (41, 37).1 _ => c1
  rename CodeHd _ (48, 44).1 _ => c2
  rename Frag.In _ (ghostOf _ _) => X
  rename Top topProg _ _ _ _ (ghostOf _ _) => T
  rename Fr _ _ _ _ => F
  rename News _ _ _ _ => N
  rename IntsAre _ _ => hI
  rename ¬ (_ < _) => hl
  rename _ = #[] => hg
  refine Mine.T.use (Mine.law_T (m := fun x => List.lookup x _) rfl lifted hI (by omega) (Mine.rm0 _) ⟨X, ⟨_, _, _, _, _, T⟩, c1, c2⟩ (Mine.start F N)) ?_
  intro fl h' tk' hp
  obtain ⟨rfl, m', news', X'⟩ := hp
  refine ⟨⟨.inl ⟨.bool true, .bool true, [], rfl, raisesW_false ?_, .bool true, ?_, unshared_nil⟩, X'.keep, rfl, hg⟩, X'.grown⟩
  · wrow_none_raised
  · wrow_post
end
