import PyProof.Rows.All
import Wide.All
import OpenK.AllK
import Wide.FinOn
import PySem.Challenge.RW_nq0083_01

set_option Elab.async false

section
open PySem PySem.W PyProof.Rows
namespace Mine
/-- the text's statements that the head keeps -/
def view : Program := { Challenge.rw_nq0083_01.row.prog with main := { Challenge.rw_nq0083_01.row.prog.main with body := [1, 2, 3, 4, 5, 6, 8, 9, 12, 13, 14, 15, 16, 17, 18, 19, 20].filterMap (Challenge.rw_nq0083_01.row.prog.main.body[·]?) } }
set_option maxRecDepth 100000 in
theorem said_row : OpenRow.wellSaid Challenge.rw_nq0083_01.row = true := by kernel_rfl
set_option maxRecDepth 100000 in
theorem said_ok : OpenLaw.wellSaid Challenge.rw_nq0083_01 = true := by
  unfold OpenLaw.wellSaid
  repeat' (with_reducible refine look_both ?_ ?_)
  · exact said_row
  all_goals kernel_rfl
local macro_rules | `(tactic| o_law) => `(tactic| refine holds_law said_ok fun said => ?_)
local macro_rules | `(tactic| k_head) => `(tactic| x_head)
local macro_rules | `(tactic| o_head $H) => `(tactic| (
    refine holds_open (q := view) (loose := [Str.ofString "_initial_missing", Str.ofString "reduce"]) (Xt := fun s => xlAt view [] s && recOk (RowW.records (OpenRow.toRowW Challenge.rw_nq0083_01.row)) s) (XP := XL view []) (Yf := Hook.obs $H) (Ya := Hook.val $H) (YP := Hook.says $H) (N := 1226) ?hl (Hook.of $H) (Hook.keeps $H) (fun s e => xl_of s (Bool.and_eq_true_iff.mp e).1) XL.keeps (by rfl) (by rfl) (by rfl) (fun s e => recFacts_of (Bool.and_eq_true_iff.mp e).2) (by rfl) (by first | assumption | decide +kernel) (by decide +kernel) ⟨rfl, rfl, rfl, rfl, rfl, by decide +kernel⟩ ?hw ?hc
    case hl => (intro w; kernel_rfl)))
set_option maxRecDepth 100000 in
set_option maxHeartbeats 8000000 in
open_top hx for PySem.Challenge.rw_nq0083_01
end Mine
end

section
open PySem PySem.W PyProof.Rows
set_option maxRecDepth 100000
namespace Mine

abbrev pr : Program := Challenge.rw_nq0083_01.row.prog
noncomputable abbrev KF (w : World) : Frag := hx.heap_1 w.params
abbrev Aw (d u : Nat) : Around := ⟨none, d, none, none, u⟩

/-! ### weakening the surroundings -/
theorem in_weak {Γ : Ctx} {A : Around} {d u : Nat} (h : Γ.In A) (h0 : A.handled = none) (hd : A.depth ≤ d) (hu : A.units ≤ u) : Γ.In (Aw d u) :=
  ⟨h.1.trans h0, Nat.le_trans h.2.1 hd, fun l e => (by cases e), fun g e => (by cases e), Nat.le_trans h.2.2.2.2 hu⟩
theorem below_weak {Γ : Ctx} {A : Around} {d u : Nat} (h : Γ.Below A) (h0 : A.handled = none) (hd : A.depth ≤ d) (hu : A.units ≤ u) : Γ.Below (Aw d u) :=
  ⟨h.1.trans h0, Nat.le_trans h.2.1 hd, fun l e => (by cases e), fun g e => (by cases e), Nat.le_trans h.2.2.2.2 hu⟩
theorem code_weak {M : Model} {A : Around} {d u : Nat} {c : Code} {R : Result → Shared → Prop} {s : Shared} (h : codeAny M (Aw d u) c R s)
    (h0 : A.handled = none) (hd : A.depth ≤ d) (hu : A.units ≤ u) : codeAny M A c R s := fun Γ p hc hΓ => h Γ p hc (below_weak hΓ h0 hd hu)
theorem wp_weak {α : Type} {M : Model} {A : Around} {d u : Nat} {t : Sem α} {Q : α → Shared → Prop} {E : Value → Shared → Prop} {s : Shared} (h : wpAny M (Aw d u) t Q E s)
    (h0 : A.handled = none) (hd : A.depth ≤ d) (hu : A.units ≤ u) : wpAny M A t Q E s := fun Γ p hΓ => h Γ p (in_weak hΓ h0 hd hu)

/-! ### the written heap, but for the two code tables -/
structure Has (w : World) (h : Heap) : Prop where
  at' : ∀ a o, a ≠ 58 → a ≠ 122 → (KF w).lookup a = some o → h.get? a = some o
  t58 : ∃ o, h.get? 58 = some o
  t122 : ∃ o, h.get? 122 = some o
theorem Has.of_in {w : World} {h : Heap} (X : (KF w).In h) : Has w h := ⟨fun a o _ _ e => X a o e, ⟨_, X 58 { cls := .none, data := .fields #[] } (by kernel_rfl)⟩, ⟨_, X 122 { cls := .none, data := .fields #[] } (by kernel_rfl)⟩⟩
theorem Has.keeps {w : World} {h h' : Heap} (X : Has w h) (k : ∀ b o, h.get? b = some o → h'.get? b = some o) : Has w h' :=
  ⟨fun a o h1 h2 e => k _ _ (X.at' a o h1 h2 e), let ⟨o, e⟩ := X.t58; ⟨o, k _ _ e⟩, let ⟨o, e⟩ := X.t122; ⟨o, k _ _ e⟩⟩
theorem Has.get {w : World} {h : Heap} (X : Has w h) {a : Addr} {o : Obj} (e : (KF w).lookup a = some o) (h1 : a ≠ 58) (h2 : a ≠ 122) : h.get? a = some o := X.at' a o h1 h2 e
/-- an address of no written object -/
structure Free (w : World) (a : Addr) : Prop where
  no : ∀ o, (KF w).lookup a ≠ some o
  n58 : a ≠ 58
  n122 : a ≠ 122
theorem Has.free {w : World} {h : Heap} (X : Has w h) {a : Addr} (e : h.get? a = none) : Free w a := by
  have h1 : a ≠ 58 := fun q => by obtain ⟨o, ho⟩ := X.t58; rw [q, ho] at e; cases e
  have h2 : a ≠ 122 := fun q => by obtain ⟨o, ho⟩ := X.t122; rw [q, ho] at e; cases e
  exact ⟨fun o q => (by have := X.at' a o h1 h2 q; rw [this] at e; cases e), h1, h2⟩

noncomputable def gEs (w : World) : Array DictEntry := match (KF w).lookup 3 with | some ⟨_, _, .dict es _, _⟩ => es | _ => #[]
noncomputable def gN (w : World) : Nat := match (KF w).lookup 3 with | some ⟨_, _, .dict _ n, _⟩ => n | _ => 0
noncomputable def bEs (w : World) : Array DictEntry := match (KF w).lookup 0 with | some ⟨_, _, .dict es _, _⟩ => es | _ => #[]
noncomputable def bN (w : World) : Nat := match (KF w).lookup 0 with | some ⟨_, _, .dict _ n, _⟩ => n | _ => 0
theorem g3 (w : World) : (KF w).lookup 3 = some { cls := .type "dict", data := .dict (gEs w) (gN w) } := by kernel_rfl
theorem b0 (w : World) : (KF w).lookup 0 = some { cls := .type "dict", data := .dict (bEs w) (bN w) } := by kernel_rfl
theorem strKeys_of {es : Array DictEntry} (h : (es.toList.all fun e => match e.key with | .str _ _ => true | _ => false) = true) : StrKeys es := by
  intro e he
  have := List.all_eq_true.mp h e (Array.mem_toList_iff.mpr he)
  cases hk : e.key with
  | str n t => exact ⟨n, t, rfl⟩
  | _ => rw [hk] at this; cases this
theorem gKeys (w : World) : StrKeys (gEs w) := strKeys_of (by kernel_rfl)
theorem bKeys (w : World) : StrKeys (bEs w) := strKeys_of (by kernel_rfl)
noncomputable def gl (w : World) : Str → Option Value := nsFind (gEs w)
noncomputable def bl (w : World) : Str → Option Value := nsFind (bEs w)
theorem Has.g {w : World} {h : Heap} (X : Has w h) : h.Ns 3 (gl w) := ⟨_, _, _, X.at' 3 _ (by decide) (by decide) (g3 w), rfl, gKeys w, fun _ => rfl⟩
theorem Has.b {w : World} {h : Heap} (X : Has w h) : h.Ns 0 (bl w) := ⟨_, _, _, X.at' 0 _ (by decide) (by decide) (b0 w), rfl, bKeys w, fun _ => rfl⟩
theorem c2 (w : World) : (KF w).lookup 2 = some { cls := .none, data := .dict #[] } := by kernel_rfl
theorem Has.lim {w : World} {h : Heap} (X : Has w h) : h.NoLimit := ⟨fun _ => none, ⟨_, #[], 0, X.at' 2 _ (by decide) (by decide) (c2 w), rfl, fun _ he => by simp at he, fun _ => rfl⟩, rfl⟩

def FnAt (h : Heap) (a : Addr) : Prop := ∃ o fd, h.get? a = some o ∧ o.data = .func fd
theorem FnAt.keeps {h h' : Heap} {a : Addr} (X : FnAt h a) (k : ∀ b o, h.get? b = some o → h'.get? b = some o) : FnAt h' a := let ⟨o, fd, e, r⟩ := X; ⟨o, fd, k _ _ e, r⟩

/-! ### names of functions and built-ins -/
theorem gl_shared (w : World) : gl w "_law_shared" = some (.ref 98) := by kernel_rfl
theorem gl_compare (w : World) : gl w "_law_compare" = some (.ref 105) := by kernel_rfl
theorem gl_len (w : World) : gl w "len" = none := by kernel_rfl
theorem bl_len (w : World) : bl w "len" = some (.builtin "len") := by kernel_rfl

/-! ### a frame -/
structure EnvIs (env : Env) (L : Addr) (names : List (Str × NameKind)) (cells : List (Str × Addr)) : Prop where
  kind : env.scope.kind = .function
  names : env.scope.names = names
  locals : env.locals = L
  globals : env.globals = 3
  builtins : env.builtins = 0
  cells : env.cells = cells

structure Reg (w : World) (X : List Addr) (b : Shared) (L : Addr) (m : Str → Option Value) (s : Shared) : Prop where
  same : ∃ h tk, s = { b with heap := h, toks := tk }
  ns : s.heap.Ns L m
  keep : ∀ a o, a ∉ X → b.heap.get? a = some o → s.heap.get? a = some o
  inX : L ∈ X
  hb : Has w b.heap
  free : ∀ a ∈ X, Free w a

def Post (s : Shared) (P : Value → Shared → Prop) (r : Result) (s' : Shared) : Prop := ∃ v, r = .ok (.ret v) ∧ Keeps s s' ∧ P v s'

theorem callEnv_is {fd : FuncData} {L a : Addr} (hk : fd.scope.kind = .function) (hg : fd.globals = 3) (hb : fd.builtins = 0) : EnvIs (callEnv fd L a) L fd.scope.names fd.closure :=
  ⟨hk, rfl, rfl, hg, hb, rfl⟩

/-- as enter, where the arguments' binding looks into the heap -/
theorem enterB {w : World} {s : Shared} {f d u : Nat} {args : List Value} {R : Result → Shared → Prop} {oc : Value} {od : Option Addr} {osl : Array (Option Value)} {fd : FuncData} {body : List Stmt} (names : List (Str × NameKind)) (binds : List (Str × Value))
    (H : Has w s.heap) (h58 : f ≠ 58) (h122 : f ≠ 122) (ho : (KF w).lookup f = some ⟨oc, od, .func fd, osl⟩) (hcd : codeIn (KF w) fd.code fd.qualname = true) (hc1 : fd.code ≠ .ref 58) (hc2 : fd.code ≠ .ref 122)
    (hbody : fd.body = .stmts body) (hbind : BindsTo s fd ⟨args, []⟩ binds)
    (hcell : fd.scope.names.all (fun x => x.2 != .cell) = true) (hloc : binds.all (fun x => decide (fd.scope.names.lookup x.1 = some .local)) = true)
    (hk : fd.scope.kind = .function) (hg : fd.globals = 3) (hb : fd.builtins = 0) (hco : fd.scope.isCoroutine = false) (hgen : fd.scope.isGenerator = false) (hd : d < 1000) (hnames : fd.scope.names = names) (hclo : fd.closure = [])
    (h : ∀ (Q : Flow → Shared → Prop) L env s₁, (∀ v s', R (.ok (.ret v)) s' → Q (.ret v) s') → EnvIs env L names [] → Reg w [L] s L (fun x => binds.reverse.lookup x) s₁ → s.heap.get? L = none → s.toks ≤ s₁.toks →
      wpAny (model pr w) (Aw (d + 1) (u + 3)) (execs body env) Q (fun _ _ => False) s₁) :
    codeAny (model pr w) (Aw d u) (.call (.ref f) ⟨args, []⟩) R s := by
  have hcr : s.heap.CodeRec fd.code fd.qualname := by
    unfold codeIn at hcd
    split at hcd
    · rename_i c hce
      split at hcd
      · rename_i vs _ ho'
        split at hcd
        · rename_i a n t r hv
          refine ⟨c, _, vs, t, hce, H.at' _ _ (fun e => hc1 (by rw [hce, e])) (fun e => hc2 (by rw [hce, e])) ho', rfl, ?_⟩
          rw [← Array.getElem?_toList, hv, ← beq_iff_eq.mp hcd]; rfl
        · cases hcd
      · cases hcd
    · cases hcd
  refine codeAny_call_def (show d < 1000 from hd) (H.at' _ _ h58 h122 ho) rfl H.lim hcr hbody hbind ?_ ?_ (fun h₀ hns hkeep => ?_) hco hgen hk
  · intro x hx e; have := List.all_eq_true.mp hcell x hx; rw [e] at this; cases this
  · intro x hx; exact of_decide_eq_true (List.all_eq_true.mp hloc x hx)
  · have hL : s.heap.get? s.heap.objs.size = none := by
      cases e : s.heap.get? s.heap.objs.size with
      | none => rfl
      | some o => exact absurd (Heap.lt_size e) (Nat.lt_irrefl _)
    refine wpAny_mono (h (fun f s' => R (.ok (.ret (match f with | .ret v => v | _ => .none))) s') s.heap.objs.size (callEnv fd s.heap.objs.size f) _ (fun _ _ q => q) (by have := callEnv_is (L := s.heap.objs.size) (a := f) hk hg hb; rw [hnames, hclo] at this; exact this) ⟨⟨h₀, _, rfl⟩, hns, fun a o ha e => hkeep a o e, by simp, H, fun a ha => by rw [List.mem_singleton.mp ha]; exact H.free hL⟩ hL (Nat.le_add_right _ _)) (fun _ _ q => q) fun _ _ q => q.elim
theorem enter {w : World} {s : Shared} {f d u : Nat} {args : List Value} {R : Result → Shared → Prop} {oc : Value} {od : Option Addr} {osl : Array (Option Value)} {fd : FuncData} {body : List Stmt} (names : List (Str × NameKind)) (binds : List (Str × Value))
    (H : Has w s.heap) (h58 : f ≠ 58) (h122 : f ≠ 122) (ho : (KF w).lookup f = some ⟨oc, od, .func fd, osl⟩) (hcd : codeIn (KF w) fd.code fd.qualname = true) (hc1 : fd.code ≠ .ref 58) (hc2 : fd.code ≠ .ref 122)
    (hbody : fd.body = .stmts body) (hbind : bindArgs fd ⟨args, []⟩ = pure binds)
    (hcell : fd.scope.names.all (fun x => x.2 != .cell) = true) (hloc : binds.all (fun x => decide (fd.scope.names.lookup x.1 = some .local)) = true)
    (hk : fd.scope.kind = .function) (hg : fd.globals = 3) (hb : fd.builtins = 0) (hco : fd.scope.isCoroutine = false) (hgen : fd.scope.isGenerator = false) (hd : d < 1000) (hnames : fd.scope.names = names) (hclo : fd.closure = [])
    (h : ∀ (Q : Flow → Shared → Prop) L env s₁, (∀ v s', R (.ok (.ret v)) s' → Q (.ret v) s') → EnvIs env L names [] → Reg w [L] s L (fun x => binds.reverse.lookup x) s₁ → s.heap.get? L = none → s.toks ≤ s₁.toks →
      wpAny (model pr w) (Aw (d + 1) (u + 3)) (execs body env) Q (fun _ _ => False) s₁) :
    codeAny (model pr w) (Aw d u) (.call (.ref f) ⟨args, []⟩) R s :=
  enterB names binds H h58 h122 ho hcd hc1 hc2 hbody (BindsTo.of_eq hbind) hcell hloc hk hg hb hco hgen hd hnames hclo h

end Mine
end

section
open PySem PySem.W PyProof.Rows
set_option maxRecDepth 100000
namespace Mine

/-! ### states that keep what was -/
theorem kRefl (s : Shared) : Keeps s s := ⟨s.heap, s.toks, rfl, fun _ _ e => e⟩
theorem kTrans {s₁ s₂ s₃ : Shared} (x : Keeps s₁ s₂) (y : Keeps s₂ s₃) : Keeps s₁ s₃ := by
  obtain ⟨h, t, rfl, k⟩ := x; obtain ⟨h', t', rfl, k'⟩ := y
  exact ⟨h', t', rfl, fun b o e => k' b o (k b o e)⟩
theorem kGet {s s' : Shared} (x : Keeps s s') {a : Addr} {o : Obj} (e : s.heap.get? a = some o) : s'.heap.get? a = some o := by
  obtain ⟨h, t, rfl, k⟩ := x; exact k _ _ e
theorem kAll {s s' : Shared} (x : Keeps s s') : ∀ b o, s.heap.get? b = some o → s'.heap.get? b = some o := fun _ _ e => kGet x e
theorem kTok {s : Shared} (t : Nat) : Keeps s { s with toks := t } := ⟨s.heap, t, rfl, fun _ _ e => e⟩
theorem kPush {s : Shared} (o : Obj) (t : Nat) : Keeps s { s with heap := s.heap.push o, toks := t } := ⟨_, t, rfl, fun _ _ e => Heap.get?_push_of_some o e⟩
theorem kPushH {s : Shared} (o : Obj) : Keeps s { s with heap := s.heap.push o } := ⟨_, s.toks, rfl, fun _ _ e => Heap.get?_push_of_some o e⟩
theorem kOf {s : Shared} {h' : Heap} {tk : Nat} (hk : ∀ b o, s.heap.get? b = some o → h'.get? b = some o) : Keeps s { s with heap := h', toks := tk } := ⟨h', tk, rfl, hk⟩
theorem kHas {w : World} {s s' : Shared} (x : Keeps s s') (H : Has w s.heap) : Has w s'.heap := H.keeps (kAll x)

structure FnK (w : World) (a : Addr) : Prop where
  fn : ∃ o fd, (KF w).lookup a = some o ∧ o.data = .func fd
  n58 : a ≠ 58
  n122 : a ≠ 122
theorem fnShared (w : World) : FnK w 98 := ⟨⟨_, _, rfl, rfl⟩, by decide, by decide⟩
theorem fnCompare (w : World) : FnK w 105 := ⟨⟨_, _, rfl, rfl⟩, by decide, by decide⟩

section
variable {w : World} {X : List Addr} {b s s' : Shared} {L : Addr} {m : Str → Option Value}
theorem Reg.keeps (x : Reg w X b L m s) (k : Keeps s s') : Reg w X b L m s' := by
  obtain ⟨h', tk, rfl, hk⟩ := k
  exact ⟨let ⟨h, _, e⟩ := x.same; ⟨h', tk, by rw [e]⟩, x.ns.keeps hk, fun a o ha e => hk _ _ (x.keep a o ha e), x.inX, x.hb, x.free⟩
theorem Reg.has (x : Reg w X b L m s) : Has w s.heap :=
  ⟨fun a o h1 h2 e => x.keep a o (fun q => (x.free a q).no o e) (x.hb.at' a o h1 h2 e),
   let ⟨o, e⟩ := x.hb.t58; ⟨o, x.keep 58 o (fun q => (x.free _ q).n58 rfl) e⟩, let ⟨o, e⟩ := x.hb.t122; ⟨o, x.keep 122 o (fun q => (x.free _ q).n122 rfl) e⟩⟩
/-- at the end of a call whose own frame alone was turned -/
theorem Reg.done (x : Reg w [L] b L m s) (hL : b.heap.get? L = none) : Keeps b s := by
  obtain ⟨h, tk, e⟩ := x.same
  refine ⟨h, tk, e, fun a o ha => ?_⟩
  have := x.keep a o (fun q => by rw [List.mem_singleton.mp q, hL] at ha; cases ha) ha
  rw [e] at this; exact this
end

/-! ### steps -/
section
variable {w : World} {A : Around} {E : Value → Shared → Prop} {X : List Addr} {b s : Shared} {L : Addr} {m : Str → Option Value} {env : Env} {names : List (Str × NameKind)} {cells : List (Str × Addr)}

theorem nmL {n : Str} {pos : Pos} {v : Value} {Q : Value → Shared → Prop} (x : s.heap.Ns L m) (e : EnvIs env L names cells) (hn : names.lookup n = some .local) (hv : m n = some v) (h : Q v s)
    (hd : (n == ("__debug__" : Str)) = false := by decide) : wpAny (model pr w) A (eval (.Name n pos) env) Q E s :=
  wpAny_Name (wpAny_loadName_local e.kind (by unfold Env.kindOf; rw [e.names]; exact hn) (by rw [e.locals]; exact x) hv h) hd
theorem ldL {n : Str} {v : Value} {Q : Value → Shared → Prop} (x : s.heap.Ns L m) (e : EnvIs env L names cells) (hn : names.lookup n = some .local) (hv : m n = some v) (h : Q v s) :
    wpAny (model pr w) A (loadName env n) Q E s :=
  wpAny_loadName_local e.kind (by unfold Env.kindOf; rw [e.names]; exact hn) (by rw [e.locals]; exact x) hv h
theorem nmG {n : Str} {pos : Pos} {v : Value} {Q : Value → Shared → Prop} (H : Has w s.heap) (e : EnvIs env L names cells) (hn : names.lookup n = some .globalImplicit) (hv : gl w n = some v) (h : Q v s)
    (hd : (n == ("__debug__" : Str)) = false := by decide) : wpAny (model pr w) A (eval (.Name n pos) env) Q E s :=
  Calls.Name_function_global e.kind (by unfold Env.kindOf; rw [e.names]; exact hn) (Calls.loadGlobal_global (by rw [e.globals]; exact H.g) hv h) hd
theorem nmB {n : Str} {pos : Pos} {v : Value} {Q : Value → Shared → Prop} (H : Has w s.heap) (e : EnvIs env L names cells) (hn : names.lookup n = some .globalImplicit) (hg : gl w n = none) (hv : bl w n = some v) (h : Q v s)
    (hd : (n == ("__debug__" : Str)) = false := by decide) : wpAny (model pr w) A (eval (.Name n pos) env) Q E s :=
  Calls.Name_function_global e.kind (by unfold Env.kindOf; rw [e.names]; exact hn) (Calls.loadGlobal_builtin (by rw [e.globals]; exact H.g) hg (by rw [e.builtins]; exact H.b) hv h) hd

theorem stL {n : Str} {v : Value} {Q : Unit → Shared → Prop} (x : Reg w X b L m s) (e : EnvIs env L names cells) (hn : names.lookup n = some .local)
    (h : ∀ s', Reg w X b L (fun y => if y = n then some v else m y) s' → (∀ a o, a ≠ L → s.heap.get? a = some o → s'.heap.get? a = some o) → Q () s') : wpAny (model pr w) A (storeName env n v) Q E s := by
  refine wpAny_storeName_local (env := env) (by unfold Env.kindOf; rw [e.names]; exact hn) (by rw [e.locals]; exact x.ns) (fun h' hn' hs' => ?_) (by rw [e.kind]; rfl)
  rw [e.locals] at hn' hs'
  have up : ∀ a o, a ≠ L → s.heap.get? a = some o → h'.get? a = some o := fun a o ha q => hs'.extBut a o ha q
  refine h _ ⟨?_, hn', fun a o ha q => up a o (fun z => ha (z ▸ x.inX)) (x.keep a o ha q), x.inX, x.hb, x.free⟩ up
  obtain ⟨h₁, tk, rfl⟩ := x.same
  exact ⟨h', _, rfl⟩

theorem cInt {i : Int} {k : Nat} {pos : Pos} {Q : Value → Shared → Prop} (h : ∀ s' t, Keeps s s' → Q (.int i t) s') : wpAny (model pr w) A (eval (.Constant (.int i) k pos) env) Q E s :=
  wpAny_Constant_int (h _ _ (kTok _))
theorem cStr {x : Str} {k : Nat} {pos : Pos} {Q : Value → Shared → Prop} (h : ∀ s' t, Keeps s s' → Q (.str x t) s') : wpAny (model pr w) A (eval (.Constant (.str x) k pos) env) Q E s :=
  Calls.Constant_str (h _ _ (kTok _))

/-- a call of a built-in, a def: the arguments first -/
theorem callB1 {f : Str} {id : String} {p pos : Pos} {e1 : Expr} {Q : Value → Shared → Prop} (H : Has w s.heap) (e : EnvIs env L names cells) (hn : names.lookup f = some .globalImplicit) (hg : gl w f = none) (hv : bl w f = some (.builtin id))
    (h : wpAny (model pr w) A (eval e1 env) (fun v s₁ => wpAny (model pr w) A (call (.builtin id) [v]) Q E s₁) E s)
    (hs : backTo pos (starEach [e1] env) = [(false, eval e1 env)] := by rfl) (hd : (f == ("__debug__" : Str)) = false := by decide) :
    wpAny (model pr w) A (eval (.Call (.Name f p) [e1] [] pos) env) Q E s := by
  show wpAny _ A (do callWith pos (← eval (.Name f p) env) [] (backTo pos (starEach [e1] env)) (backToKw pos (keywordEach [] env))) Q E s
  refine wpAny_bind (nmB H e hn hg hv ?_ hd)
  rw [hs]
  exact Calls.callWith_builtin rfl (Calls.evalArgs_plain (Calls.spliced_cons (wpAny_mono h (fun v s₁ h₁ => Calls.spliced_nil h₁) fun _ _ e => e)))
theorem callB2 {f : Str} {id : String} {p pos : Pos} {e1 e2 : Expr} {Q : Value → Shared → Prop} (H : Has w s.heap) (e : EnvIs env L names cells) (hn : names.lookup f = some .globalImplicit) (hg : gl w f = none) (hv : bl w f = some (.builtin id))
    (h : wpAny (model pr w) A (eval e1 env) (fun v s₁ => wpAny (model pr w) A (eval e2 env) (fun v2 s₂ => wpAny (model pr w) A (call (.builtin id) [v, v2]) Q E s₂) E s₁) E s)
    (hs : backTo pos (starEach [e1, e2] env) = [(false, eval e1 env), (false, eval e2 env)] := by rfl) (hd : (f == ("__debug__" : Str)) = false := by decide) :
    wpAny (model pr w) A (eval (.Call (.Name f p) [e1, e2] [] pos) env) Q E s := by
  show wpAny _ A (do callWith pos (← eval (.Name f p) env) [] (backTo pos (starEach [e1, e2] env)) (backToKw pos (keywordEach [] env))) Q E s
  refine wpAny_bind (nmB H e hn hg hv ?_ hd)
  rw [hs]
  exact Calls.callWith_builtin rfl (Calls.evalArgs_plain (Calls.spliced_cons (wpAny_mono h (fun v s₁ h₁ => Calls.spliced_cons (wpAny_mono h₁ (fun v2 s₂ h₂ => Calls.spliced_nil h₂) fun _ _ e => e)) fun _ _ e => e)))
theorem callF1 {f : Str} {a : Addr} {p pos : Pos} {e1 : Expr} {Q : Value → Shared → Prop} (H : Has w s.heap) (e : EnvIs env L names cells) (hn : names.lookup f = some .globalImplicit) (hv : gl w f = some (.ref a)) (hf : FnK w a)
    (h : wpAny (model pr w) A (eval e1 env) (fun v s₁ => Has w s₁.heap ∧ wpAny (model pr w) A (call (.ref a) [v]) Q E s₁) E s)
    (hs : backTo pos (starEach [e1] env) = [(false, eval e1 env)] := by rfl) (hd : (f == ("__debug__" : Str)) = false := by decide) :
    wpAny (model pr w) A (eval (.Call (.Name f p) [e1] [] pos) env) Q E s := by
  obtain ⟨⟨o, fd, ho, hfd⟩, h58, h122⟩ := hf
  show wpAny _ A (do callWith pos (← eval (.Name f p) env) [] (backTo pos (starEach [e1] env)) (backToKw pos (keywordEach [] env))) Q E s
  refine wpAny_bind (nmG H e hn hv ?_ hd)
  rw [hs]
  exact Calls.callWith_function (o := o) (fd := fd) (Calls.evalArgs_plain (Calls.spliced_cons (wpAny_mono h (fun v s₁ h₁ => Calls.spliced_nil ⟨⟨h₁.1.get ho h58 h122, hfd⟩, h₁.2⟩) fun _ _ e => e)))
theorem callF2 {f : Str} {a : Addr} {p pos : Pos} {e1 e2 : Expr} {Q : Value → Shared → Prop} (H : Has w s.heap) (e : EnvIs env L names cells) (hn : names.lookup f = some .globalImplicit) (hv : gl w f = some (.ref a)) (hf : FnK w a)
    (h : wpAny (model pr w) A (eval e1 env) (fun v s₁ => wpAny (model pr w) A (eval e2 env) (fun v2 s₂ => Has w s₂.heap ∧ wpAny (model pr w) A (call (.ref a) [v, v2]) Q E s₂) E s₁) E s)
    (hs : backTo pos (starEach [e1, e2] env) = [(false, eval e1 env), (false, eval e2 env)] := by rfl) (hd : (f == ("__debug__" : Str)) = false := by decide) :
    wpAny (model pr w) A (eval (.Call (.Name f p) [e1, e2] [] pos) env) Q E s := by
  obtain ⟨⟨o, fd, ho, hfd⟩, h58, h122⟩ := hf
  show wpAny _ A (do callWith pos (← eval (.Name f p) env) [] (backTo pos (starEach [e1, e2] env)) (backToKw pos (keywordEach [] env))) Q E s
  refine wpAny_bind (nmG H e hn hv ?_ hd)
  rw [hs]
  exact Calls.callWith_function (o := o) (fd := fd) (Calls.evalArgs_plain (Calls.spliced_cons (wpAny_mono h (fun v s₁ h₁ => Calls.spliced_cons (wpAny_mono h₁ (fun v2 s₂ h₂ => Calls.spliced_nil ⟨⟨h₂.1.get ho h58 h122, hfd⟩, h₂.2⟩) fun _ _ e => e)) fun _ _ e => e)))

/-- a contract at its call -/
theorem useSpec {d u : Nat} {f : Value} {args : List Value} {P : Value → Shared → Prop} {Q : Value → Shared → Prop} (hs : codeAny (model pr w) (Aw d u) (.call f ⟨args, []⟩) (Post s P) s)
    (hA : A.handled = none) (hd : A.depth ≤ d) (hu : A.units ≤ u) (h : ∀ v s', Keeps s s' → P v s' → Q v s') : wpAny (model pr w) A (call f args) Q E s :=
  wpAny_call (codeAny_mono (code_weak hs hA hd hu) fun r s' ⟨v, e, k, p⟩ => by subst e; exact h v s' k p)

/-! ### texts -/
end
/-- a text by its signs -/
abbrev S (l : List Nat) : Str := ⟨l.toArray⟩
theorem S_len (l : List Nat) : (S l).length = l.length := by simp [S, Str.length]
theorem S_cps (x : Str) : S x.cps.toList = x := by cases x; simp [S]
theorem S_append (a b : List Nat) : S a ++ S b = S (a ++ b) := by
  show Str.append _ _ = _
  simp [Str.append, S]
theorem S_inj {a b : List Nat} : S a = S b ↔ a = b := by
  constructor
  · intro h; have := congrArg (fun x => x.cps.toList) h; simpa [S] using this
  · rintro rfl; rfl
theorem S_beq (a b : List Nat) : (S a == S b) = (a == b) := by
  rw [Bool.eq_iff_iff]; simp [S_inj]
theorem S_bne (a b : List Nat) : (S a != S b) = (a != b) := by rw [bne, bne, S_beq]

section
variable {w : World} {A : Around} {E : Value → Shared → Prop} {s : Shared}
theorem opLen {l : List Nat} {t : Tok} {Q : Value → Shared → Prop} (hl : l.length ≤ 2 ^ 20) (h : ∀ s' t', Keeps s s' → Q (.int l.length t') s') : wpAny (model pr w) A (call (.builtin "len") [.str (S l) t]) Q E s := by
  have e : (S l).length = l.length := S_len l
  refine len_str (by rw [e]; omega) ?_
  rw [e]; exact h _ _ (kTok _)
theorem opMin {i j : Int} {t u : Tok} {Q : Value → Shared → Prop} (hA : A.handled = none) (h : ∀ s' t', Keeps s s' → Q (.int (min i j) t') s') : wpAny (model pr w) A (call (.builtin "min") [.int i t, .int j u]) Q E s := by
  refine min_two_ints hA fun h' tk hk => ?_
  by_cases c : j < i
  · rw [if_pos c]; have := h _ u (kOf (tk := tk) hk); rwa [show min i j = j by omega] at this
  · rw [if_neg c]; have := h _ t (kOf (tk := tk) hk); rwa [show min i j = i by omega] at this
theorem opEqS {l k : List Nat} {t u : Tok} {Q : Value → Shared → Prop} (h : Q (.bool (l == k)) s) : wpAny (model pr w) A (compareOp .Eq (.str (S l) t) (.str (S k) u)) Q E s :=
  eq_str (by rw [S_beq]; exact h)
theorem opNeS {l k : List Nat} {t u : Tok} {Q : Value → Shared → Prop} (h : Q (.bool (l != k)) s) : wpAny (model pr w) A (compareOp .NotEq (.str (S l) t) (.str (S k) u)) Q E s :=
  ne_str (by rw [S_bne]; exact h)
theorem opLt {i j : Int} {t u : Tok} {Q : Value → Shared → Prop} (h : Q (.bool (decide (i < j))) s) : wpAny (model pr w) A (compareOp .Lt (.int i t) (.int j u)) Q E s := wpAny_lt_int h
theorem opEqI {i j : Int} {t u : Tok} {Q : Value → Shared → Prop} (h : Q (.bool (i == j)) s) : wpAny (model pr w) A (compareOp .Eq (.int i t) (.int j u)) Q E s := PyProof.Rows.eq_int h
theorem opAdd {i j : Int} {t u : Tok} {Q : Value → Shared → Prop} (h : ∀ s' t', Keeps s s' → Q (.int (i + j) t') s') : wpAny (model pr w) A (binaryOp .Add (.int i t) (.int j u)) Q E s := wpAny_add_int (h _ _ (kTok _))
theorem opIAdd {i j : Int} {t u : Tok} {Q : Value → Shared → Prop} (h : ∀ s' t', Keeps s s' → Q (.int (i + j) t') s') : wpAny (model pr w) A (inplaceOp .Add (.int i t) (.int j u)) Q E s := wpAny_iadd_int (h _ _ (kTok _))
theorem opSub {i j : Int} {t u : Tok} {Q : Value → Shared → Prop} (h : ∀ s' t', Keeps s s' → Q (.int (i - j) t') s') : wpAny (model pr w) A (binaryOp .Sub (.int i t) (.int j u)) Q E s := PyProof.Rows.sub_int (h _ _ (kTok _))
theorem opMul {i j : Int} {t u : Tok} {Q : Value → Shared → Prop} (hm : IntMulOk i j) (h : ∀ s' t', Keeps s s' → Q (.int (i * j) t') s') : wpAny (model pr w) A (binaryOp .Mult (.int i t) (.int j u)) Q E s := PyProof.Rows.mul_int (h _ _ (kTok _)) hm
theorem opOrd {c : Nat} {t : Tok} {Q : Value → Shared → Prop} (h : ∀ s' t', Keeps s s' → Q (.int c t') s') : wpAny (model pr w) A (call (.builtin "ord") [.str (S [c]) t]) Q E s :=
  ord_of_one rfl (h _ _ (kTok _))
theorem opItem {l : List Nat} {i : Nat} {c : Nat} {t u : Tok} {value slice : Expr} {Q : Value → Shared → Prop} (hc : l[i]? = some c) (hl : l.length ≤ 2 ^ 20) (h : ∀ s' t', Keeps s s' → Q (.str (S [c]) t') s')
    (hs : subscripted slice false (.str (S l) t) (.int i u) = operate [.str (S l) t, .int i u] (getItem (.str (S l) t) (.int i u)) := by with_unfolding_all rfl)
    (ht : ∀ r, letTemporaryGo value (.str (S l) t) r = pure () := by intro _; with_unfolding_all rfl) :
    wpAny (model pr w) A (PyProof.Rows.subscriptTail value slice (.str (S l) t) (.int i u)) Q E s := by
  have hi : i < l.length := (List.getElem?_eq_some_iff.mp hc).1
  refine subscriptTail_builtin (typeIs_str _ _ _) slot_str_getitem.lookup (PyProof.Rows.getItem_str (c := c) ?_ ?_ (h _ _ (kTok _))) hs ht
  · have h1 : ¬ ((i : Int) < -(2 ^ 63)) := by omega
    have h2 : ¬ ((i : Int) ≥ 2 ^ 63) := by omega
    rw [decide_eq_false h1, decide_eq_false h2]; rfl
  · rw [S_len]
    have : seqIndex? (i : Int) l.length = some i := by
      unfold seqIndex?
      simp; omega
    rw [this]; simpa [S] using hc
end
end Mine
end

section
open PySem PySem.W PyProof.Rows PySem.Builtin PySem.Builtin.Str
set_option maxRecDepth 100000
namespace Mine

theorem filterMap_get (l : List Nat) (a : Nat) : ∀ n, a + n ≤ l.length → ((List.range n).map fun k => a + k).filterMap (fun i => l[i]?) = (l.drop a).take n
  | 0, _ => by simp
  | n + 1, h => by
    rw [List.range_succ, List.map_append, List.filterMap_append, filterMap_get l a n (by omega), List.take_add_one]
    congr 1
    have : a + n < l.length := by omega
    simp [List.getElem?_drop, this]

theorem slice_ss (l : List Nat) (i j : Nat) : Txt.slice (S l) (some (i : Int)) (some (j : Int)) = S ((l.take j).drop i) := by
  have e : strSliceIndices (some (i : Int)) (some (j : Int)) 1 (S l).length = (List.range (min j l.length - min i l.length)).map fun k => min i l.length + k := by
    unfold strSliceIndices sliceRange
    rw [S_len]
    have h1 : ¬ ((i : Int) < 0) := by omega
    have h2 : ¬ ((j : Int) < 0) := by omega
    simp only [h1, h2, if_false, show (1 : Int) > 0 by decide, if_true]
    have e1 : max 0 (min (i : Int) l.length) = ((min i l.length : Nat) : Int) := by omega
    have e2 : max 0 (min (j : Int) l.length) = ((min j l.length : Nat) : Int) := by omega
    rw [e1, e2]
    have e3 : (if ((min i l.length : Nat) : Int) < ((min j l.length : Nat) : Int) then (((min j l.length : Nat) : Int) - ((min i l.length : Nat) : Int) + 1 - 1) / 1 else 0).toNat = min j l.length - min i l.length := by
      split <;> omega
    rw [e3]
    refine List.map_congr_left fun k _ => ?_
    omega
  have f := filterMap_get l (min i l.length) (min j l.length - min i l.length) (by omega)
  have g : (l.drop (min i l.length)).take (min j l.length - min i l.length) = (l.take j).drop i := by
    rw [List.drop_take]
    by_cases hi : i ≤ l.length
    · rw [show min i l.length = i by omega]
      by_cases hj : j ≤ l.length
      · rw [show min j l.length = j by omega]
      · rw [show min j l.length = l.length by omega, List.take_of_length_le (by simp), List.take_of_length_le (by simp; omega)]
    · rw [show min i l.length = l.length by omega, List.drop_length, List.drop_of_length_le (by omega)]; simp
  unfold Txt.slice
  rw [e]
  split
  · rename_i h
    have hl : min j l.length - min i l.length = l.length := by rw [S_len] at h; simpa using h
    rw [← g, hl]
    by_cases h0 : l.length = 0
    · have : l = [] := List.eq_nil_of_length_eq_zero h0
      subst this; simp
    · rw [show min i l.length = 0 by omega]; simp
  · rw [← g, ← f]; congr 2
    congr 1
    funext k
    simp [S]

theorem slice_ns (l : List Nat) (j : Nat) : Txt.slice (S l) none (some (j : Int)) = S (l.take j) := by
  have := slice_ss l 0 j
  rw [List.drop_zero] at this
  rw [← this]
  have h0 : max 0 (min (0 : Int) ((S l).length : Int)) = 0 := by omega
  unfold Txt.slice strSliceIndices
  simp [h0]

section
variable {w : World} {A : Around} {E : Value → Shared → Prop} {s : Shared} {env : Env}
theorem noErr {α : Type} {M : Model} {t : Sem α} {Q : α → Shared → Prop} (h : wpAny M A t Q (fun _ _ => False) s) : wpAny M A t Q E s := wpAny_mono h (fun _ _ x => x) fun _ _ x => x.elim
/-- a while: the word I between its turns, the word J when the test falls -/
theorem whileR {test : Expr} {body : List Stmt} {pos : Pos} {Q : Flow → Shared → Prop} (I : Nat → Shared → Prop) (J : Shared → Prop)
    (turn : ∀ n s, I n s → wpAny (model pr w) A (isTrue test env (eval test env)) (fun b s₂ => if b then wpAny (model pr w) A (execs body env) (fun f s₃ => f = .next ∧ ∃ m, m < n ∧ I m s₃) (fun _ _ => False) s₂ else J s₂) (fun _ _ => False) s)
    (n : Nat) (h : I n s) (fin : ∀ s', J s' → Q .next s') : wpAny (model pr w) A (exec (.While test body [] pos) env) Q E s := by
  refine wpAny_While (codeAny_whileLoop I (fun n s hI => noErr (wpAny_mono (turn n s hI) (fun b s₂ h₂ => ?_) fun _ _ x => x)) n h)
  cases b with
  | true =>
    rw [if_pos rfl] at h₂ ⊢
    refine noErr (wpAny_mono h₂ (fun f s₃ h₃ => ?_) fun _ _ x => x)
    obtain ⟨rfl, hm⟩ := h₃
    exact hm
  | false =>
    rw [if_neg (by decide)] at h₂ ⊢
    exact wpAny_execs_nil (fin _ h₂)
theorem kKept (s : Shared) : KeptByPush (Keeps s) := fun s' ob k x => kTrans x (kPush ob k)
theorem sliceTo {value upper : Expr} {p pos : Pos} {Q : Value → Shared → Prop}
    (h : wpAny (model pr w) A (eval value env) (fun o s₁ => wpAny (model pr w) A (eval upper env) (fun i s₂ => ∃ (l : List Nat) (t : Tok) (j : Nat) (u : Tok), o = .str (S l) t ∧ i = .int j u ∧ l.length ≤ 2 ^ 20 ∧
      ∀ s' t', Keeps s₂ s' → Q (.str (S (l.take j)) t') s') E s₁) E s) (ht : ∀ x t r, letTemporaryGo value (.str x t) r = pure () := by intro _ _ _; rfl) :
    wpAny (model pr w) A (eval (.Subscript value (.Slice none (some upper) none p) pos) env) Q E s := by
  refine Subscript_ (wpAny_mono h (fun o s₁ h₁ => wpAny_Slice (wpAny_evalPart_none (wpAny_evalPart_some (wpAny_mono h₁ (fun i s₂ h₂ => wpAny_evalPart_none ?_) fun _ _ e => e)))) fun _ _ e => e)
  obtain ⟨l, t, j, u, rfl, rfl, hl, hq⟩ := h₂
  refine tail_of_ItemOn (ops := [.ref s₂.heap.objs.size, .str (S l) t]) (SBG.sliceItem_ns (kKept s₂) (kRefl s₂) (fun s' t' k => ?_) (by rw [S_len, sizeLine_eq]; omega)) (by rfl) (ht _ _)
  rw [slice_ns]; exact hq s' t' k
theorem sliceFT {value lower upper : Expr} {p pos : Pos} {Q : Value → Shared → Prop}
    (h : wpAny (model pr w) A (eval value env) (fun o s₁ => wpAny (model pr w) A (eval lower env) (fun i₀ s₁' => wpAny (model pr w) A (eval upper env) (fun i s₂ => ∃ (l : List Nat) (t : Tok) (a : Nat) (ua : Tok) (j : Nat) (u : Tok), o = .str (S l) t ∧ i₀ = .int a ua ∧ i = .int j u ∧ l.length ≤ 2 ^ 20 ∧
      ∀ s' t', Keeps s₂ s' → Q (.str (S ((l.take j).drop a)) t') s') E s₁') E s₁) E s) (ht : ∀ x t r, letTemporaryGo value (.str x t) r = pure () := by intro _ _ _; rfl) :
    wpAny (model pr w) A (eval (.Subscript value (.Slice (some lower) (some upper) none p) pos) env) Q E s := by
  refine Subscript_ (wpAny_mono h (fun o s₁ h₁ => wpAny_Slice (wpAny_evalPart_some (wpAny_mono h₁ (fun i₀ s₁' h₁' => wpAny_evalPart_some (wpAny_mono h₁' (fun i s₂ h₂ => wpAny_evalPart_none ?_) fun _ _ e => e)) fun _ _ e => e))) fun _ _ e => e)
  obtain ⟨l, t, a, ua, j, u, rfl, rfl, rfl, hl, hq⟩ := h₂
  refine tail_of_ItemOn (ops := [.ref s₂.heap.objs.size, .str (S l) t]) (SBG.sliceItem_ss (kKept s₂) (kRefl s₂) (fun s' t' k => ?_) (by rw [S_len, sizeLine_eq]; omega)) (by rfl) (ht _ _)
  rw [slice_ss]; exact hq s' t' k
end
end Mine
end

section
open PySem PySem.W PyProof.Rows
set_option maxRecDepth 100000
namespace Mine

/-- what two texts begin with in common -/
noncomputable def lcp : List Nat → List Nat → List Nat
  | a :: x, b :: y => if a = b then a :: lcp x y else []
  | _, _ => []
theorem lcp_is : ∀ (k : Nat) (x y : List Nat), k ≤ x.length → k ≤ y.length → x.take k = y.take k → (k < x.length → k < y.length → x[k]? ≠ y[k]?) → lcp x y = x.take k
  | 0, [], y, _, _, _, _ => by cases y <;> simp [lcp]
  | 0, a :: x, [], _, _, _, _ => by simp [lcp]
  | 0, a :: x, b :: y, _, _, _, h => by
    have : a ≠ b := fun e => h (by simp) (by simp) (by simp [e])
    simp [lcp, this]
  | k + 1, [], y, h, _, _, _ => by simp at h
  | k + 1, a :: x, [], _, h, _, _ => by simp at h
  | k + 1, a :: x, b :: y, h1, h2, h3, h4 => by
    simp only [List.take_succ_cons, List.cons.injEq] at h3
    have ih := lcp_is k x y (by simpa using h1) (by simpa using h2) h3.2 (fun q1 q2 => by
      have := h4 (by simpa using q1) (by simpa using q2)
      simpa using this)
    simp [lcp, h3.1, ih]

theorem bl_min (w : World) : bl w "min" = some (.builtin "min") := by kernel_rfl
theorem gl_min (w : World) : gl w "min" = none := by kernel_rfl

def JSh (w : World) (s : Shared) (L : Addr) (x y : List Nat) (t u : Tok) (n : Nat) (s' : Shared) : Prop :=
  ∃ (k : Nat) (m' : Str → Option Value) (tk : Tok), Reg w [L] s L m' s' ∧ m' "one" = some (.str (S x) t) ∧ m' "other" = some (.str (S y) u) ∧ m' "size" = some (.int k tk) ∧
      n = x.length - k ∧ k ≤ x.length ∧ k ≤ y.length ∧ x.take k = y.take k
def KSh (w : World) (s : Shared) (L : Addr) (x y : List Nat) (t : Tok) (s' : Shared) : Prop :=
  ∃ (k : Nat) (m' : Str → Option Value) (tk : Tok), Reg w [L] s L m' s' ∧ m' "one" = some (.str (S x) t) ∧ m' "size" = some (.int k tk) ∧ lcp x y = x.take k
set_option maxHeartbeats 1000000 in
theorem shared_spec (w : World) {s : Shared} (H : Has w s.heap) (x y : List Nat) (hx : x.length ≤ 2 ^ 20) (hy : y.length ≤ 2 ^ 20) (t u : Tok) :
    codeAny (model pr w) (Aw 400 4000) (.call (.ref 98) ⟨[.str (S x) t, .str (S y) u], []⟩) (Post s fun v _ => ∃ t', v = .str (S (lcp x y)) t') s := by
  refine enter [("one", .local), ("other", .local), ("size", .local), ("min", .globalImplicit), ("len", .globalImplicit)] [("one", .str (S x) t), ("other", .str (S y) u)]
    H (by decide) (by decide) rfl (by kernel_rfl) (by intro e; cases e) (by intro e; cases e) rfl rfl (by kernel_rfl) (by kernel_rfl) rfl rfl rfl rfl rfl (by decide) (by kernel_rfl) rfl ?_
  intro Q L env s₁ fin e R hL _
  have h1 : (fun n => List.lookup n [(Str.ofString "one", Value.str (S x) t), (Str.ofString "other", Value.str (S y) u)].reverse) "one" = some (.str (S x) t) := rfl
  have h2 : (fun n => List.lookup n [(Str.ofString "one", Value.str (S x) t), (Str.ofString "other", Value.str (S y) u)].reverse) "other" = some (.str (S y) u) := rfl
  generalize (fun n => List.lookup n [(Str.ofString "one", Value.str (S x) t), (Str.ofString "other", Value.str (S y) u)].reverse) = m at R h1 h2
  refine wpAny_execs_cons (wpAny_Assign_Name (cInt fun s₂ t₂ k₂ => ?_))
  refine stL (R.keeps k₂) e (by kernel_rfl) fun s₃ R₃ _ => ?_
  refine wpAny_execs_cons (whileR (fun n s' => JSh w s L x y t u n s')
    (fun s' => KSh w s L x y t s') ?_ _ ⟨0, _, t₂, R₃, h1, h2, rfl, rfl, by simp, by simp, by simp⟩ ?_)
  · clear R₃ R h1 h2
    rintro n s' ⟨k, m', tk, R, h1, h2, h3, rfl, hk1, hk2, hk⟩
    refine isTrue_and (wpAny_isTrue_Compare1 (nmL R.ns e (by kernel_rfl) h3 ?_))
    refine callB2 R.has e (by kernel_rfl) (gl_min w) (bl_min w) ?_
    refine callB1 R.has e (by kernel_rfl) (gl_len w) (bl_len w) (nmL R.ns e (by kernel_rfl) h1 (opLen hx fun s₅ t₅ k₅ => ?_))
    replace R := R.keeps k₅
    refine callB1 R.has e (by kernel_rfl) (gl_len w) (bl_len w) (nmL R.ns e (by kernel_rfl) h2 (opLen hy fun s₆ t₆ k₆ => ?_))
    replace R := R.keeps k₆
    refine opMin rfl fun s₇ t₇ k₇ => ?_
    replace R := R.keeps k₇
    refine opLt (wpAny_truthy_bool ?_)
    have fin : (k < x.length → k < y.length → x[k]? ≠ y[k]?) → ∀ s₈, Reg w [L] s L m' s₈ → ∃ (k : Nat) (m' : Str → Option Value) (tk : Tok), Reg w [L] s L m' s₈ ∧ m' "one" = some (.str (S x) t) ∧ m' "size" = some (.int k tk) ∧ lcp x y = x.take k :=
      fun hne s₈ R => ⟨k, m', tk, R, h1, h3, lcp_is k x y hk1 hk2 hk hne⟩
    by_cases c : (k : Int) < min (x.length : Int) (y.length : Int)
    · rw [if_pos (decide_eq_true c)]
      obtain ⟨cx, hcx⟩ : ∃ c, x[k]? = some c := ⟨x[k], List.getElem?_eq_getElem (by omega)⟩
      obtain ⟨cy, hcy⟩ : ∃ c, y[k]? = some c := ⟨y[k], List.getElem?_eq_getElem (by omega)⟩
      refine isTrue_and (wpAny_isTrue_Compare1 (Subscript_ (nmL R.ns e (by kernel_rfl) h1 (nmL R.ns e (by kernel_rfl) h3 (opItem hcx hx fun s₈ t₈ k₈ => ?_)))))
      replace R := R.keeps k₈
      refine Subscript_ (nmL R.ns e (by kernel_rfl) h2 (nmL R.ns e (by kernel_rfl) h3 (opItem hcy hy fun s₉ t₉ k₉ => ?_)))
      replace R := R.keeps k₉
      refine opEqS (wpAny_truthy_bool ?_)
      by_cases cc : cx = cy
      · rw [if_pos (by simp [cc])]
        refine isTrue_and_nil ?_
        rw [if_pos rfl]
        refine wpAny_execs_cons (wpAny_AugAssign_Name (ldL R.ns e (by kernel_rfl) h3 (cInt fun s₁₀ t₁₀ k₁₀ => opIAdd fun s₁₁ t₁₁ k₁₁ => ?_)))
        refine stL ((R.keeps k₁₀).keeps k₁₁) e (by kernel_rfl) fun s₁₂ R₂ _ => wpAny_execs_nil ⟨rfl, _, ?_, k + 1, _, t₁₁, R₂, h1, h2, rfl, rfl, by omega, by omega, ?_⟩
        · omega
        · rw [List.take_add_one, List.take_add_one, hcx, hcy, hk, cc]
      · rw [if_neg (by simp [cc]), if_neg (by decide)]
        exact fin (fun _ _ => by rw [hcx, hcy]; simpa using cc) _ R
    · rw [if_neg (by rw [decide_eq_false c]; decide), if_neg (by decide)]
      exact fin (fun q1 q2 => absurd (by omega) c) _ R
  · rintro s₈ ⟨k, m', tk, R, h1, h3, hk⟩
    refine wpAny_execs_cons (wpAny_Return_some (sliceTo (nmL R.ns e (by kernel_rfl) h1 (nmL R.ns e (by kernel_rfl) h3 ⟨x, t, k, tk, rfl, rfl, hx, fun s₉ t₉ k₉ => ?_⟩))))
    exact fin _ _ ⟨_, rfl, (R.keeps k₉).done hL, t₉, by rw [hk]⟩

end Mine
end

section
open PySem PySem.W PyProof.Rows
set_option maxRecDepth 100000
namespace Mine

noncomputable def cmpI (x y : List Nat) : Int :=
  if (lcp x y).length = x.length ∨ (lcp x y).length = y.length then (x.length : Int) - y.length
  else 3 * ((x.getD (lcp x y).length 0 : Int) - (y.getD (lcp x y).length 0 : Int))
theorem lcp_le_left : ∀ x y : List Nat, (lcp x y).length ≤ x.length
  | [], y => by cases y <;> simp [lcp]
  | a :: x, [] => by simp [lcp]
  | a :: x, b :: y => by
    unfold lcp; split
    · simpa using lcp_le_left x y
    · simp
theorem lcp_le_right : ∀ x y : List Nat, (lcp x y).length ≤ y.length
  | [], y => by cases y <;> simp [lcp]
  | a :: x, [] => by simp [lcp]
  | a :: x, b :: y => by
    unfold lcp; split
    · simpa using lcp_le_right x y
    · simp

theorem bl_ord (w : World) : bl w "ord" = some (.builtin "ord") := by kernel_rfl
theorem gl_ord (w : World) : gl w "ord" = none := by kernel_rfl

set_option maxHeartbeats 1000000 in
theorem compare_spec (w : World) {s : Shared} (H : Has w s.heap) (x y : List Nat) (hx : x.length ≤ 2 ^ 20) (hy : y.length ≤ 2 ^ 20) (t u : Tok) :
    codeAny (model pr w) (Aw 390 3900) (.call (.ref 105) ⟨[.str (S x) t, .str (S y) u], []⟩) (Post s fun v _ => ∃ t', v = .int (cmpI x y) t') s := by
  refine enter [("one", .local), ("other", .local), ("size", .local), ("len", .globalImplicit), ("_law_shared", .globalImplicit), ("ord", .globalImplicit)] [("one", .str (S x) t), ("other", .str (S y) u)]
    H (by decide) (by decide) rfl (by kernel_rfl) (by intro e; cases e) (by intro e; cases e) rfl rfl (by kernel_rfl) (by kernel_rfl) rfl rfl rfl rfl rfl (by decide) (by kernel_rfl) rfl ?_
  intro Q L env s₁ fin e R hL _
  have h1 : (fun n => List.lookup n [(Str.ofString "one", Value.str (S x) t), (Str.ofString "other", Value.str (S y) u)].reverse) "one" = some (.str (S x) t) := rfl
  have h2 : (fun n => List.lookup n [(Str.ofString "one", Value.str (S x) t), (Str.ofString "other", Value.str (S y) u)].reverse) "other" = some (.str (S y) u) := rfl
  generalize (fun n => List.lookup n [(Str.ofString "one", Value.str (S x) t), (Str.ofString "other", Value.str (S y) u)].reverse) = m at R h1 h2
  have hl1 := lcp_le_left x y
  have hl2 := lcp_le_right x y
  refine wpAny_execs_cons (wpAny_Assign_Name (callB1 R.has e (by kernel_rfl) (gl_len w) (bl_len w) ?_))
  refine callF2 R.has e (by kernel_rfl) (gl_shared w) (fnShared w) (nmL R.ns e (by kernel_rfl) h1 (nmL R.ns e (by kernel_rfl) h2 ⟨R.has, ?_⟩))
  refine useSpec (shared_spec w R.has x y hx hy t u) rfl (by decide) (by decide) ?_
  rintro v s₂ k₂ ⟨t₂, rfl⟩
  replace R := R.keeps k₂
  refine opLen (by omega) fun s₃ t₃ k₃ => ?_
  refine stL (R.keeps k₃) e (by kernel_rfl) fun s₄ R₄ _ => ?_
  refine wpAny_execs_cons (wpAny_If (isTrue_or (wpAny_isTrue_Compare1 (nmL R₄.ns e (by kernel_rfl) rfl (callB1 R₄.has e (by kernel_rfl) (gl_len w) (bl_len w) (nmL R₄.ns e (by kernel_rfl) h1 (opLen hx fun s₅ t₅ k₅ => opEqI (wpAny_truthy_bool ?_))))))))
  replace R₄ := R₄.keeps k₅
  have short : ((lcp x y).length = x.length ∨ (lcp x y).length = y.length) → cmpI x y = (x.length : Int) - y.length := fun q => by unfold cmpI; rw [if_pos q]
  by_cases c1 : (lcp x y).length = x.length
  · rw [if_pos (by rw [c1]; simp), if_pos rfl]
    refine wpAny_execs_cons (wpAny_Return_some (wpAny_BinOp (callB1 R₄.has e (by kernel_rfl) (gl_len w) (bl_len w) (nmL R₄.ns e (by kernel_rfl) h1 (opLen hx fun s₆ t₆ k₆ => ?_)))))
    replace R₄ := R₄.keeps k₆
    refine callB1 R₄.has e (by kernel_rfl) (gl_len w) (bl_len w) (nmL R₄.ns e (by kernel_rfl) h2 (opLen hy fun s₇ t₇ k₇ => opSub fun s₈ t₈ k₈ => ?_))
    exact fin _ _ ⟨_, rfl, ((R₄.keeps k₇).keeps k₈).done hL, t₈, by rw [short (.inl c1)]⟩
  · rw [if_neg (by simp; omega)]
    refine isTrue_or (wpAny_isTrue_Compare1 (nmL R₄.ns e (by kernel_rfl) rfl (callB1 R₄.has e (by kernel_rfl) (gl_len w) (bl_len w) (nmL R₄.ns e (by kernel_rfl) h2 (opLen hy fun s₆ t₆ k₆ => opEqI (wpAny_truthy_bool ?_))))))
    replace R₄ := R₄.keeps k₆
    by_cases c2 : (lcp x y).length = y.length
    · rw [if_pos (by rw [c2]; simp), if_pos rfl]
      refine wpAny_execs_cons (wpAny_Return_some (wpAny_BinOp (callB1 R₄.has e (by kernel_rfl) (gl_len w) (bl_len w) (nmL R₄.ns e (by kernel_rfl) h1 (opLen hx fun s₆ t₆ k₆ => ?_)))))
      replace R₄ := R₄.keeps k₆
      refine callB1 R₄.has e (by kernel_rfl) (gl_len w) (bl_len w) (nmL R₄.ns e (by kernel_rfl) h2 (opLen hy fun s₇ t₇ k₇ => opSub fun s₈ t₈ k₈ => ?_))
      exact fin _ _ ⟨_, rfl, ((R₄.keeps k₇).keeps k₈).done hL, t₈, by rw [short (.inr c2)]⟩
    · rw [if_neg (by simp; omega)]
      refine isTrue_or_nil ?_
      rw [if_neg (by decide)]
      refine wpAny_execs_nil ?_
      obtain ⟨cx, hcx⟩ : ∃ c, x[(lcp x y).length]? = some c := ⟨_, List.getElem?_eq_getElem (by omega)⟩
      obtain ⟨cy, hcy⟩ : ∃ c, y[(lcp x y).length]? = some c := ⟨_, List.getElem?_eq_getElem (by omega)⟩
      refine wpAny_execs_cons (wpAny_Return_some (wpAny_BinOp (cInt fun s₇ t₇ k₇ => wpAny_BinOp ?_)))
      replace R₄ := R₄.keeps k₇
      refine callB1 R₄.has e (by kernel_rfl) (gl_ord w) (bl_ord w) (Subscript_ (nmL R₄.ns e (by kernel_rfl) h1 (nmL R₄.ns e (by kernel_rfl) rfl (opItem hcx hx fun s₈ t₈ k₈ => opOrd fun s₉ t₉ k₉ => ?_))))
      replace R₄ := (R₄.keeps k₈).keeps k₉
      refine callB1 R₄.has e (by kernel_rfl) (gl_ord w) (bl_ord w) (Subscript_ (nmL R₄.ns e (by kernel_rfl) h2 (nmL R₄.ns e (by kernel_rfl) rfl (opItem hcy hy fun s₈ t₈ k₈ => opOrd fun s₉ t₉ k₉ => opSub fun s₁₀ t₁₀ k₁₀ => ?_))))
      refine opMul (.of_left (by decide)) fun s₁₁ t₁₁ k₁₁ => ?_
      refine fin _ _ ⟨_, rfl, ((((R₄.keeps k₈).keeps k₉).keeps k₁₀).keeps k₁₁).done hL, t₁₁, ?_⟩
      unfold cmpI
      rw [if_neg (by omega), List.getD_eq_getElem?_getD, List.getD_eq_getElem?_getD, hcx, hcy]; rfl
end Mine
end

section
open PySem PySem.W PyProof.Rows PySem.Builtin PySem.Builtin.Str
set_option maxRecDepth 100000
namespace Mine

/-- each sign c is written as z -/
def repl (c : Nat) (z : List Nat) (l : List Nat) : List Nat := l.flatMap fun k => if k = c then z else [k]
theorem repl_append (c : Nat) (z a b : List Nat) : repl c z (a ++ b) = repl c z a ++ repl c z b := by simp [repl]
theorem repl_free (c : Nat) (z : List Nat) : ∀ l : List Nat, c ∉ l → repl c z l = l
  | [], _ => rfl
  | k :: r, h => by
    have h1 : ¬ k = c := fun e => h (e ▸ List.mem_cons_self ..)
    have h2 : c ∉ r := fun m => h (List.mem_cons_of_mem _ m)
    have := repl_free c z r h2
    simp only [repl, List.flatMap_cons, if_neg h1] at this ⊢
    rw [this]; rfl
theorem repl_one (c : Nat) (z : List Nat) : repl c z [c] = z := by simp [repl]
theorem repl_join (c : Nat) (z : List Nat) : ∀ parts : List Str, (∀ p ∈ parts, c ∉ p.cps.toList) → repl c z (Str.join (S [c]) parts).cps.toList = (Str.join (S z) parts).cps.toList
  | [], _ => rfl
  | [p], h => repl_free c z _ (h p (List.mem_singleton.mpr rfl))
  | p :: q :: r, h => by
    have ih := repl_join c z (q :: r) fun a ha => h a (List.mem_cons_of_mem _ ha)
    show repl c z (p ++ S [c] ++ Str.join (S [c]) (q :: r)).cps.toList = (p ++ S z ++ Str.join (S z) (q :: r)).cps.toList
    simp only [Str.cps_append, Array.toList_append]
    rw [repl_append, repl_append, ih, repl_free c z _ (h p (List.mem_cons_self ..))]
    show p.cps.toList ++ repl c z [c] ++ _ = _
    rw [repl_one]
theorem replace_is (c : Nat) (z l : List Nat) : Txt.replace (S l) (S [c]) (S z) = S (repl c z l) := by
  have e := StrLaws.replace_one (S l) (S z) c
  have j := StrLaws.join_split (S l) (S [c])
  have r := repl_join c z (Txt.split (S l) (S [c])) (StrLaws.split_free (S l) c)
  rw [j] at r
  have r' : repl c z l = (Str.join (S z) (Txt.split (S l) (S [c]))).cps.toList := r
  rw [r', S_cps]; exact e
theorem repl_len (c : Nat) (z : List Nat) (hz : 1 ≤ z.length) : ∀ l : List Nat, (repl c z l).length ≤ l.length * z.length
  | [] => by simp [repl]
  | k :: r => by
    have ih := repl_len c z hz r
    have e : repl c z (k :: r) = (if k = c then z else [k]) ++ repl c z r := by simp [repl]
    rw [e, List.length_append, List.length_cons, Nat.add_mul]
    have : (if k = c then z else [k]).length ≤ z.length := by split <;> simp; omega
    omega

/-- a sign's spelling by a table -/
def sp (tab : List (Nat × List Nat)) (k : Nat) : List Nat := (tab.lookup k).getD [k]
theorem repl_sp (tab : List (Nat × List Nat)) (c : Nat) (z : List Nat) (h : (tab.all fun p => p.1 != c && !p.2.contains c) = true) (k : Nat) : repl c z (sp tab k) = sp (tab ++ [(c, z)]) k := by
  unfold sp
  rw [List.lookup_append]
  cases hk : tab.lookup k with
  | some y =>
    have hm : (k, y) ∈ tab := by
      clear h
      induction tab with
      | nil => cases hk
      | cons p r ih =>
        rw [List.lookup_cons] at hk
        cases hb : (k == p.1) with
        | true =>
          rw [hb] at hk
          have : p = (k, y) := by cases p; simp only [Option.some.injEq] at hk; simp only [beq_iff_eq] at hb; rw [hb, hk]
          rw [this]; exact .head _
        | false => rw [hb] at hk; exact .tail _ (ih hk)
    have := List.all_eq_true.mp h _ hm
    simp only [Bool.and_eq_true, Bool.not_eq_true', bne_iff_ne, ne_eq] at this
    show repl c z y = y
    exact repl_free c z y (fun q => by have q' := List.contains_iff_mem.mpr q; rw [this.2] at q'; cases q')
  | none =>
    show repl c z [k] = _
    by_cases hc : k = c
    · subst hc; simp [repl]
    · have hb : (k == c) = false := by simpa using hc
      simp [repl, hc, List.lookup_cons, hb]
theorem repl_flat (tab : List (Nat × List Nat)) (c : Nat) (z : List Nat) (h : (tab.all fun p => p.1 != c && !p.2.contains c) = true) (t : List Nat) : repl c z (t.flatMap (sp tab)) = t.flatMap (sp (tab ++ [(c, z)])) := by
  induction t with
  | nil => rfl
  | cons k r ih => rw [List.flatMap_cons, List.flatMap_cons, repl_append, ih, repl_sp tab c z h]
theorem sp_len (tab : List (Nat × List Nat)) (h : (tab.all fun p => decide (p.2.length ≤ 6)) = true) (k : Nat) : (sp tab k).length ≤ 6 := by
  unfold sp
  cases hk : tab.lookup k with
  | none => simp
  | some y =>
    induction tab with
    | nil => cases hk
    | cons p r ih =>
      rw [List.all_cons, Bool.and_eq_true] at h
      rw [List.lookup_cons] at hk
      cases hb : (k == p.1) with
      | true => rw [hb] at hk; simp only [Option.some.injEq] at hk; rw [← hk]; exact of_decide_eq_true h.1
      | false => rw [hb] at hk; exact ih h.2 hk
theorem flat_len (tab : List (Nat × List Nat)) (h : (tab.all fun p => decide (p.2.length ≤ 6)) = true) (t : List Nat) : (t.flatMap (sp tab)).length ≤ 6 * t.length := by
  induction t with
  | nil => simp
  | cons k r ih => rw [List.flatMap_cons, List.length_append, List.length_cons]; have := sp_len tab h k; omega
theorem flat_nil (t : List Nat) : t.flatMap (sp []) = t := by
  induction t with
  | nil => rfl
  | cons k r ih => rw [List.flatMap_cons, ih]; rfl

section
variable {w : World} {A : Around} {E : Value → Shared → Prop} {b s : Shared} {L : Addr} {m : Str → Option Value} {env : Env} {names : List (Str × NameKind)} {cells : List (Str × Addr)}
/-- one line of an escape: if c is in the text, it is written as z -/
theorem escLine {c : Nat} {z l : List Nat} {t : Tok} {k1 k2 k3 : Nat} {p1 p2 p3 p4 p5 p6 p7 p8 p9 p10 p11 : Pos} {Q : Flow → Shared → Prop}
    (R : Reg w [L] b L m s) (e : EnvIs env L names cells) (hn : names.lookup (Str.ofString "text") = some NameKind.local) (h1 : m "text" = some (.str (S l) t)) (hl : l.length ≤ 2 ^ 20) (hz : z.length ≤ 14) (hcz : z ≠ [c]) (hk : 1 ≤ s.toks)
    (hline : (p6.endLine == p10.line) = true)
    (h : ∀ s' m' t', Reg w [L] b L m' s' → m' "text" = some (.str (S (repl c z l)) t') → 1 ≤ s'.toks → Q .next s') :
    wpAny (model pr w) A (exec (.If (.Compare (.Constant (.str (S [c])) k1 p1) [.In] [.Name "text" p2] p3)
      [.Assign [.Name "text" p4] (.Call (.Attribute (.Name "text" p5) "replace" p6) [.Constant (.str (S [c])) k2 p7, .Constant (.str (S z)) k3 p8] [] p10) p9] [] p11) env) Q E s := by
  refine wpAny_with_toks (n := 1) hk (wpAny_If (wpAny_isTrue_Compare1 (Calls.Constant_str (nmL (L := L) (m := m) (by exact R.ns) e hn h1 ?_))))
  refine PyProof.Rows.in_str ?_
  refine wpAny_truthy_bool ?_
  have hf := StrLaws.found_one (S l) c
  have R₁ := R.keeps (kTok (s := s) (s.toks + 1))
  by_cases hc : c ∈ l
  · rw [if_pos (by rw [show (S [c] : Str) = ⟨#[c]⟩ from rfl, hf]; simpa using hc)]
    refine wpAny_execs_cons (wpAny_Assign_Name (PySem.Call_method2 rfl rfl hline (nmL R₁.ns e hn h1 ?_)))
    refine ⟨"str", "str.replace", F.plainAttrs_str, F.slot_str_replace, F.type_str_replace, typeIs_str _ _ _, (fun _ q => nomatch q), ?_⟩
    refine Calls.callWith_builtin rfl (Calls.evalArgs_plain (Calls.spliced_cons (Calls.Constant_str (Calls.spliced_cons (Calls.Constant_str (Calls.spliced_nil ?_))))))
    have hyz : ((S [c] : Str) == S z) = false := by rw [S_beq]; simpa using fun q => hcz q.symm
    refine SC.replaceW (by show s.toks + 1 ≠ 0; omega) (by show s.toks + 1 + 1 ≠ 0; omega) (by show s.toks + 1 ≠ s.toks + 1 + 1; omega) hyz (by rw [S_len]; exact hl) (by rw [S_len]; exact hz) fun t' k => ?_
    rw [replace_is]
    refine stL ((((R₁.keeps (kTok _)).keeps (kTok _)).keeps (kTok k))) e hn fun s₃ R₃ _ => wpAny_execs_nil fun hk₃ => h s₃ _ t' R₃ rfl hk₃
  · rw [if_neg (by rw [show (S [c] : Str) = ⟨#[c]⟩ from rfl, hf]; simpa using hc)]
    refine wpAny_execs_nil fun hk₃ => h _ m t R₁ ?_ hk₃
    rw [h1, repl_free c z l hc]
theorem escTab {tab : List (Nat × List Nat)} {c : Nat} {z x : List Nat} {t : Tok} {k1 k2 k3 : Nat} {p1 p2 p3 p4 p5 p6 p7 p8 p9 p10 p11 : Pos} {Q : Flow → Shared → Prop}
    (R : Reg w [L] b L m s) (e : EnvIs env L names cells) (hn : names.lookup (Str.ofString "text") = some NameKind.local) (h1 : m "text" = some (.str (S (x.flatMap (sp tab))) t)) (hl : x.length ≤ 2 ^ 10) (hk : 1 ≤ s.toks)
    (ht : (tab.all fun p => p.1 != c && !p.2.contains c) = true) (h6 : (tab.all fun p => decide (p.2.length ≤ 6)) = true) (hz : z.length ≤ 14) (hcz : z ≠ [c]) (hline : (p6.endLine == p10.line) = true)
    (h : ∀ s' m' t', Reg w [L] b L m' s' → m' "text" = some (.str (S (x.flatMap (sp (tab ++ [(c, z)])))) t') → 1 ≤ s'.toks → Q .next s') :
    wpAny (model pr w) A (exec (.If (.Compare (.Constant (.str (S [c])) k1 p1) [.In] [.Name "text" p2] p3)
      [.Assign [.Name "text" p4] (.Call (.Attribute (.Name "text" p5) "replace" p6) [.Constant (.str (S [c])) k2 p7, .Constant (.str (S z)) k3 p8] [] p10) p9] [] p11) env) Q E s := by
  refine escLine R e hn h1 ?_ hz hcz hk hline fun s' m' t' R' h' k' => h s' m' t' R' ?_ k'
  · have := flat_len tab h6 x; omega
  · rw [h', repl_flat tab c z ht]
end

abbrev amp : Nat × List Nat := (38, [38, 97, 109, 112, 59])
abbrev lt4 : Nat × List Nat := (60, [38, 108, 116, 59])
abbrev gt4 : Nat × List Nat := (62, [38, 103, 116, 59])
abbrev quot : Nat × List Nat := (34, [38, 113, 117, 111, 116, 59])
/-- what the five writers spell -/
def tabOf : Nat → List (Nat × List Nat)
  | 0 => [amp, lt4, gt4, quot, (13, [38, 35, 49, 51, 59]), (10, [38, 35, 49, 48, 59]), (9, [38, 35, 48, 57, 59])]
  | 1 => [amp, lt4, quot, (9, [38, 35, 120, 57, 59]), (10, [38, 35, 120, 65, 59]), (13, [38, 35, 120, 68, 59])]
  | 2 => [amp, gt4, quot]
  | 3 => [amp, lt4, gt4]
  | _ => [amp, lt4, gt4, (13, [38, 35, 120, 68, 59])]
def esc (k : Nat) (x : List Nat) : List Nat := x.flatMap (sp (tabOf k))

abbrev escNames : List (Str × NameKind) := [("text", .local), ("TypeError", .globalImplicit), ("AttributeError", .globalImplicit), ("_raise_serialization_error", .globalImplicit)]

set_option maxHeartbeats 1000000 in
theorem cdata_spec (w : World) {s : Shared} (H : Has w s.heap) (hk : 1 ≤ s.toks) (x : List Nat) (hx : x.length ≤ 2 ^ 10) (t : Tok) :
    codeAny (model pr w) (Aw 400 4000) (.call (.ref 28) ⟨[.str (S x) t], []⟩) (Post s fun v _ => ∃ t', v = .str (S (esc 3 x)) t') s := by
  refine enter escNames [("text", .str (S x) t)] H (by decide) (by decide) rfl (by kernel_rfl) (by intro e; cases e) (by intro e; cases e) rfl rfl (by kernel_rfl) (by kernel_rfl) rfl rfl rfl rfl rfl (by decide) (by kernel_rfl) rfl ?_
  intro Q L env s₁ fin e R hL hk₁
  have h1 : (fun n => List.lookup n [(Str.ofString "text", Value.str (S x) t)].reverse) "text" = some (.str (S (x.flatMap (sp []))) t) := by rw [flat_nil]; rfl
  generalize (fun n => List.lookup n [(Str.ofString "text", Value.str (S x) t)].reverse) = m at R h1
  replace hk : 1 ≤ s₁.toks := Nat.le_trans hk hk₁
  clear hk₁
  refine wpAny_execs_cons (wpAny_Try_except (noErr ?_))
  refine wpAny_execs_cons (escTab (c := 38) (z := [38, 97, 109, 112, 59]) R e (by kernel_rfl) h1 hx hk (by decide) (by decide) (by decide) (by decide) rfl ?_)
  clear R h1 hk m; intro s₁ m t R h1 hk
  refine wpAny_execs_cons (escTab (c := 60) (z := [38, 108, 116, 59]) R e (by kernel_rfl) h1 hx hk (by decide) (by decide) (by decide) (by decide) rfl ?_)
  clear R h1 hk m; intro s₁ m t R h1 hk
  refine wpAny_execs_cons (escTab (c := 62) (z := [38, 103, 116, 59]) R e (by kernel_rfl) h1 hx hk (by decide) (by decide) (by decide) (by decide) rfl ?_)
  clear R h1 hk m; intro s₁ m t R h1 hk
  refine wpAny_execs_cons (wpAny_Return_some (nmL R.ns e (by kernel_rfl) h1 ?_))
  exact fin _ _ ⟨_, rfl, R.done hL, t, rfl⟩
set_option maxHeartbeats 1000000 in
theorem attrib_spec (w : World) {s : Shared} (H : Has w s.heap) (hk : 1 ≤ s.toks) (x : List Nat) (hx : x.length ≤ 2 ^ 10) (t : Tok) :
    codeAny (model pr w) (Aw 400 4000) (.call (.ref 35) ⟨[.str (S x) t], []⟩) (Post s fun v _ => ∃ t', v = .str (S (esc 0 x)) t') s := by
  refine enter escNames [("text", .str (S x) t)] H (by decide) (by decide) rfl (by kernel_rfl) (by intro e; cases e) (by intro e; cases e) rfl rfl (by kernel_rfl) (by kernel_rfl) rfl rfl rfl rfl rfl (by decide) (by kernel_rfl) rfl ?_
  intro Q L env s₁ fin e R hL hk₁
  have h1 : (fun n => List.lookup n [(Str.ofString "text", Value.str (S x) t)].reverse) "text" = some (.str (S (x.flatMap (sp []))) t) := by rw [flat_nil]; rfl
  generalize (fun n => List.lookup n [(Str.ofString "text", Value.str (S x) t)].reverse) = m at R h1
  replace hk : 1 ≤ s₁.toks := Nat.le_trans hk hk₁
  clear hk₁
  refine wpAny_execs_cons (wpAny_Try_except (noErr ?_))
  refine wpAny_execs_cons (escTab (c := 38) (z := [38, 97, 109, 112, 59]) R e (by kernel_rfl) h1 hx hk (by decide) (by decide) (by decide) (by decide) rfl ?_)
  clear R h1 hk m; intro s₁ m t R h1 hk
  refine wpAny_execs_cons (escTab (c := 60) (z := [38, 108, 116, 59]) R e (by kernel_rfl) h1 hx hk (by decide) (by decide) (by decide) (by decide) rfl ?_)
  clear R h1 hk m; intro s₁ m t R h1 hk
  refine wpAny_execs_cons (escTab (c := 62) (z := [38, 103, 116, 59]) R e (by kernel_rfl) h1 hx hk (by decide) (by decide) (by decide) (by decide) rfl ?_)
  clear R h1 hk m; intro s₁ m t R h1 hk
  refine wpAny_execs_cons (escTab (c := 34) (z := [38, 113, 117, 111, 116, 59]) R e (by kernel_rfl) h1 hx hk (by decide) (by decide) (by decide) (by decide) rfl ?_)
  clear R h1 hk m; intro s₁ m t R h1 hk
  refine wpAny_execs_cons (escTab (c := 13) (z := [38, 35, 49, 51, 59]) R e (by kernel_rfl) h1 hx hk (by decide) (by decide) (by decide) (by decide) rfl ?_)
  clear R h1 hk m; intro s₁ m t R h1 hk
  refine wpAny_execs_cons (escTab (c := 10) (z := [38, 35, 49, 48, 59]) R e (by kernel_rfl) h1 hx hk (by decide) (by decide) (by decide) (by decide) rfl ?_)
  clear R h1 hk m; intro s₁ m t R h1 hk
  refine wpAny_execs_cons (escTab (c := 9) (z := [38, 35, 48, 57, 59]) R e (by kernel_rfl) h1 hx hk (by decide) (by decide) (by decide) (by decide) rfl ?_)
  clear R h1 hk m; intro s₁ m t R h1 hk
  refine wpAny_execs_cons (wpAny_Return_some (nmL R.ns e (by kernel_rfl) h1 ?_))
  exact fin _ _ ⟨_, rfl, R.done hL, t, rfl⟩
set_option maxHeartbeats 1000000 in
theorem html_spec (w : World) {s : Shared} (H : Has w s.heap) (hk : 1 ≤ s.toks) (x : List Nat) (hx : x.length ≤ 2 ^ 10) (t : Tok) :
    codeAny (model pr w) (Aw 400 4000) (.call (.ref 42) ⟨[.str (S x) t], []⟩) (Post s fun v _ => ∃ t', v = .str (S (esc 2 x)) t') s := by
  refine enter escNames [("text", .str (S x) t)] H (by decide) (by decide) rfl (by kernel_rfl) (by intro e; cases e) (by intro e; cases e) rfl rfl (by kernel_rfl) (by kernel_rfl) rfl rfl rfl rfl rfl (by decide) (by kernel_rfl) rfl ?_
  intro Q L env s₁ fin e R hL hk₁
  have h1 : (fun n => List.lookup n [(Str.ofString "text", Value.str (S x) t)].reverse) "text" = some (.str (S (x.flatMap (sp []))) t) := by rw [flat_nil]; rfl
  generalize (fun n => List.lookup n [(Str.ofString "text", Value.str (S x) t)].reverse) = m at R h1
  replace hk : 1 ≤ s₁.toks := Nat.le_trans hk hk₁
  clear hk₁
  refine wpAny_execs_cons (wpAny_Try_except (noErr ?_))
  refine wpAny_execs_cons (escTab (c := 38) (z := [38, 97, 109, 112, 59]) R e (by kernel_rfl) h1 hx hk (by decide) (by decide) (by decide) (by decide) rfl ?_)
  clear R h1 hk m; intro s₁ m t R h1 hk
  refine wpAny_execs_cons (escTab (c := 62) (z := [38, 103, 116, 59]) R e (by kernel_rfl) h1 hx hk (by decide) (by decide) (by decide) (by decide) rfl ?_)
  clear R h1 hk m; intro s₁ m t R h1 hk
  refine wpAny_execs_cons (escTab (c := 34) (z := [38, 113, 117, 111, 116, 59]) R e (by kernel_rfl) h1 hx hk (by decide) (by decide) (by decide) (by decide) rfl ?_)
  clear R h1 hk m; intro s₁ m t R h1 hk
  refine wpAny_execs_cons (wpAny_Return_some (nmL R.ns e (by kernel_rfl) h1 ?_))
  exact fin _ _ ⟨_, rfl, R.done hL, t, rfl⟩
set_option maxHeartbeats 1000000 in
theorem cdataC_spec (w : World) {s : Shared} (H : Has w s.heap) (hk : 1 ≤ s.toks) (x : List Nat) (hx : x.length ≤ 2 ^ 10) (t : Tok) :
    codeAny (model pr w) (Aw 400 4000) (.call (.ref 49) ⟨[.str (S x) t], []⟩) (Post s fun v _ => ∃ t', v = .str (S (esc 4 x)) t') s := by
  refine enter escNames [("text", .str (S x) t)] H (by decide) (by decide) rfl (by kernel_rfl) (by intro e; cases e) (by intro e; cases e) rfl rfl (by kernel_rfl) (by kernel_rfl) rfl rfl rfl rfl rfl (by decide) (by kernel_rfl) rfl ?_
  intro Q L env s₁ fin e R hL hk₁
  have h1 : (fun n => List.lookup n [(Str.ofString "text", Value.str (S x) t)].reverse) "text" = some (.str (S (x.flatMap (sp []))) t) := by rw [flat_nil]; rfl
  generalize (fun n => List.lookup n [(Str.ofString "text", Value.str (S x) t)].reverse) = m at R h1
  replace hk : 1 ≤ s₁.toks := Nat.le_trans hk hk₁
  clear hk₁
  refine wpAny_execs_cons (wpAny_Try_except (noErr ?_))
  refine wpAny_execs_cons (escTab (c := 38) (z := [38, 97, 109, 112, 59]) R e (by kernel_rfl) h1 hx hk (by decide) (by decide) (by decide) (by decide) rfl ?_)
  clear R h1 hk m; intro s₁ m t R h1 hk
  refine wpAny_execs_cons (escTab (c := 60) (z := [38, 108, 116, 59]) R e (by kernel_rfl) h1 hx hk (by decide) (by decide) (by decide) (by decide) rfl ?_)
  clear R h1 hk m; intro s₁ m t R h1 hk
  refine wpAny_execs_cons (escTab (c := 62) (z := [38, 103, 116, 59]) R e (by kernel_rfl) h1 hx hk (by decide) (by decide) (by decide) (by decide) rfl ?_)
  clear R h1 hk m; intro s₁ m t R h1 hk
  refine wpAny_execs_cons (escTab (c := 13) (z := [38, 35, 120, 68, 59]) R e (by kernel_rfl) h1 hx hk (by decide) (by decide) (by decide) (by decide) rfl ?_)
  clear R h1 hk m; intro s₁ m t R h1 hk
  refine wpAny_execs_cons (wpAny_Return_some (nmL R.ns e (by kernel_rfl) h1 ?_))
  exact fin _ _ ⟨_, rfl, R.done hL, t, rfl⟩
set_option maxHeartbeats 1000000 in
theorem attribC_spec (w : World) {s : Shared} (H : Has w s.heap) (hk : 1 ≤ s.toks) (x : List Nat) (hx : x.length ≤ 2 ^ 10) (t : Tok) :
    codeAny (model pr w) (Aw 400 4000) (.call (.ref 56) ⟨[.str (S x) t], []⟩) (Post s fun v _ => ∃ t', v = .str (S (esc 1 x)) t') s := by
  refine enter escNames [("text", .str (S x) t)] H (by decide) (by decide) rfl (by kernel_rfl) (by intro e; cases e) (by intro e; cases e) rfl rfl (by kernel_rfl) (by kernel_rfl) rfl rfl rfl rfl rfl (by decide) (by kernel_rfl) rfl ?_
  intro Q L env s₁ fin e R hL hk₁
  have h1 : (fun n => List.lookup n [(Str.ofString "text", Value.str (S x) t)].reverse) "text" = some (.str (S (x.flatMap (sp []))) t) := by rw [flat_nil]; rfl
  generalize (fun n => List.lookup n [(Str.ofString "text", Value.str (S x) t)].reverse) = m at R h1
  replace hk : 1 ≤ s₁.toks := Nat.le_trans hk hk₁
  clear hk₁
  refine wpAny_execs_cons (wpAny_Try_except (noErr ?_))
  refine wpAny_execs_cons (escTab (c := 38) (z := [38, 97, 109, 112, 59]) R e (by kernel_rfl) h1 hx hk (by decide) (by decide) (by decide) (by decide) rfl ?_)
  clear R h1 hk m; intro s₁ m t R h1 hk
  refine wpAny_execs_cons (escTab (c := 60) (z := [38, 108, 116, 59]) R e (by kernel_rfl) h1 hx hk (by decide) (by decide) (by decide) (by decide) rfl ?_)
  clear R h1 hk m; intro s₁ m t R h1 hk
  refine wpAny_execs_cons (escTab (c := 34) (z := [38, 113, 117, 111, 116, 59]) R e (by kernel_rfl) h1 hx hk (by decide) (by decide) (by decide) (by decide) rfl ?_)
  clear R h1 hk m; intro s₁ m t R h1 hk
  refine wpAny_execs_cons (escTab (c := 9) (z := [38, 35, 120, 57, 59]) R e (by kernel_rfl) h1 hx hk (by decide) (by decide) (by decide) (by decide) rfl ?_)
  clear R h1 hk m; intro s₁ m t R h1 hk
  refine wpAny_execs_cons (escTab (c := 10) (z := [38, 35, 120, 65, 59]) R e (by kernel_rfl) h1 hx hk (by decide) (by decide) (by decide) (by decide) rfl ?_)
  clear R h1 hk m; intro s₁ m t R h1 hk
  refine wpAny_execs_cons (escTab (c := 13) (z := [38, 35, 120, 68, 59]) R e (by kernel_rfl) h1 hx hk (by decide) (by decide) (by decide) (by decide) rfl ?_)
  clear R h1 hk m; intro s₁ m t R h1 hk
  refine wpAny_execs_cons (wpAny_Return_some (nmL R.ns e (by kernel_rfl) h1 ?_))
  exact fin _ _ ⟨_, rfl, R.done hL, t, rfl⟩
end Mine
end

section
open PySem PySem.W PyProof.Rows
set_option maxRecDepth 100000
namespace Mine
theorem gl_attrib (w : World) : gl w "_escape_attrib" = some (.ref 35) := by kernel_rfl
theorem gl_attribC (w : World) : gl w "_escape_attrib_c14n" = some (.ref 56) := by kernel_rfl
theorem gl_html (w : World) : gl w "_escape_attrib_html" = some (.ref 42) := by kernel_rfl
theorem gl_cdata (w : World) : gl w "_escape_cdata" = some (.ref 28) := by kernel_rfl
theorem gl_cdataC (w : World) : gl w "_escape_cdata_c14n" = some (.ref 49) := by kernel_rfl
theorem fnAttrib (w : World) : FnK w 35 := ⟨⟨_, _, rfl, rfl⟩, by decide, by decide⟩
theorem fnAttribC (w : World) : FnK w 56 := ⟨⟨_, _, rfl, rfl⟩, by decide, by decide⟩
theorem fnHtml (w : World) : FnK w 42 := ⟨⟨_, _, rfl, rfl⟩, by decide, by decide⟩
theorem fnCdata (w : World) : FnK w 28 := ⟨⟨_, _, rfl, rfl⟩, by decide, by decide⟩
theorem fnCdataC (w : World) : FnK w 49 := ⟨⟨_, _, rfl, rfl⟩, by decide, by decide⟩
theorem fnWriting (w : World) : FnK w 86 := ⟨⟨_, _, rfl, rfl⟩, by decide, by decide⟩
theorem gl_writing (w : World) : gl w "_law_writing" = some (.ref 86) := by kernel_rfl

theorem wpToks {α : Type} {M : Model} {A : Around} {t : Sem α} {Q : α → Shared → Prop} {E : Value → Shared → Prop} {s : Shared} (h : wpAny M A t (fun a s' => s.toks ≤ s'.toks → Q a s') E s) : wpAny M A t Q E s :=
  wpAny_with_toks (Nat.le_refl s.toks) (wpAny_mono h (fun _ _ q => q) fun _ _ q _ => q)

set_option maxHeartbeats 1000000 in
theorem writing_spec (w : World) {s : Shared} (H : Has w s.heap) (hk : 1 ≤ s.toks) (k : Nat) (hk5 : k < 5) (tw : Tok) (x : List Nat) (hx : x.length ≤ 2 ^ 10) (t : Tok) :
    codeAny (model pr w) (Aw 390 3900) (.call (.ref 86) ⟨[.int k tw, .str (S x) t], []⟩) (Post s fun v _ => ∃ t', v = .str (S (esc k x)) t') s := by
  refine enter [("which", .local), ("text", .local), ("_escape_attrib", .globalImplicit), ("_escape_attrib_c14n", .globalImplicit), ("_escape_attrib_html", .globalImplicit), ("_escape_cdata", .globalImplicit), ("_escape_cdata_c14n", .globalImplicit)]
    [("which", .int k tw), ("text", .str (S x) t)] H (by decide) (by decide) rfl (by kernel_rfl) (by intro e; cases e) (by intro e; cases e) rfl rfl (by kernel_rfl) (by kernel_rfl) rfl rfl rfl rfl rfl (by decide) (by kernel_rfl) rfl ?_
  intro Q L env s₁ fin e R hL hk₁
  have h1 : (fun n => List.lookup n [(Str.ofString "which", Value.int k tw), (Str.ofString "text", Value.str (S x) t)].reverse) "which" = some (.int k tw) := rfl
  have h2 : (fun n => List.lookup n [(Str.ofString "which", Value.int k tw), (Str.ofString "text", Value.str (S x) t)].reverse) "text" = some (.str (S x) t) := rfl
  generalize (fun n => List.lookup n [(Str.ofString "which", Value.int k tw), (Str.ofString "text", Value.str (S x) t)].reverse) = m at R h1 h2
  have hks := Nat.le_trans hk hk₁
  refine wpAny_execs_cons (wpAny_If (wpAny_isTrue_Compare1 (nmL R.ns e (by kernel_rfl) h1 (wpToks (cInt fun s₂ t₂ k₂ q₂ => opEqI (wpAny_truthy_bool ?_))))))
  replace R := R.keeps k₂
  by_cases c0 : k = 0
  · subst c0
    rw [if_pos (by decide)]
    refine wpAny_execs_cons (wpAny_Return_some (callF1 R.has e (by kernel_rfl) (gl_attrib w) (fnAttrib w) (nmL R.ns e (by kernel_rfl) h2 ⟨R.has, useSpec (attrib_spec w R.has (by omega) x hx t) rfl (by decide) (by decide) ?_⟩)))
    rintro v s' k' ⟨t', rfl⟩
    exact fin _ _ ⟨_, rfl, (R.keeps k').done hL, t', rfl⟩
  rw [if_neg (by simpa using c0)]
  refine wpAny_execs_nil (wpAny_execs_cons (wpAny_If (wpAny_isTrue_Compare1 (nmL R.ns e (by kernel_rfl) h1 (wpToks (cInt fun s₃ t₃ k₃ q₃ => opEqI (wpAny_truthy_bool ?_)))))))
  replace R := R.keeps k₃
  by_cases c1 : k = 1
  · subst c1
    rw [if_pos (by decide)]
    refine wpAny_execs_cons (wpAny_Return_some (callF1 R.has e (by kernel_rfl) (gl_attribC w) (fnAttribC w) (nmL R.ns e (by kernel_rfl) h2 ⟨R.has, useSpec (attribC_spec w R.has (by omega) x hx t) rfl (by decide) (by decide) ?_⟩)))
    rintro v s' k' ⟨t', rfl⟩
    exact fin _ _ ⟨_, rfl, (R.keeps k').done hL, t', rfl⟩
  rw [if_neg (by simp; omega)]
  refine wpAny_execs_nil (wpAny_execs_cons (wpAny_If (wpAny_isTrue_Compare1 (nmL R.ns e (by kernel_rfl) h1 (wpToks (cInt fun s₄ t₄ k₄ q₄ => opEqI (wpAny_truthy_bool ?_)))))))
  replace R := R.keeps k₄
  by_cases c2 : k = 2
  · subst c2
    rw [if_pos (by decide)]
    refine wpAny_execs_cons (wpAny_Return_some (callF1 R.has e (by kernel_rfl) (gl_html w) (fnHtml w) (nmL R.ns e (by kernel_rfl) h2 ⟨R.has, useSpec (html_spec w R.has (by omega) x hx t) rfl (by decide) (by decide) ?_⟩)))
    rintro v s' k' ⟨t', rfl⟩
    exact fin _ _ ⟨_, rfl, (R.keeps k').done hL, t', rfl⟩
  rw [if_neg (by simp; omega)]
  refine wpAny_execs_nil (wpAny_execs_cons (wpAny_Return_some (IfExp_ (wpAny_isTrue_Compare1 (nmL R.ns e (by kernel_rfl) h1 (wpToks (cInt fun s₅ t₅ k₅ q₅ => opEqI (wpAny_truthy_bool ?_))))))))
  replace R := R.keeps k₅
  by_cases c3 : k = 3
  · subst c3
    rw [if_pos (by decide)]
    refine callF1 R.has e (by kernel_rfl) (gl_cdata w) (fnCdata w) (nmL R.ns e (by kernel_rfl) h2 ⟨R.has, useSpec (cdata_spec w R.has (by omega) x hx t) rfl (by decide) (by decide) ?_⟩)
    rintro v s' k' ⟨t', rfl⟩
    exact fin _ _ ⟨_, rfl, (R.keeps k').done hL, t', rfl⟩
  rw [if_neg (by simp; omega)]
  have c4 : k = 4 := by omega
  subst c4
  refine callF1 R.has e (by kernel_rfl) (gl_cdataC w) (fnCdataC w) (nmL R.ns e (by kernel_rfl) h2 ⟨R.has, useSpec (cdataC_spec w R.has (by omega) x hx t) rfl (by decide) (by decide) ?_⟩)
  rintro v s' k' ⟨t', rfl⟩
  exact fin _ _ ⟨_, rfl, (R.keeps k').done hL, t', rfl⟩
end Mine
end

section
open PySem PySem.W PyProof.Rows
set_option maxRecDepth 100000
namespace Mine

structure RegC (w : World) (b : Shared) (L : Addr) (m : Str → Option Value) (cs : List (Str × Addr)) (cm : Str → Option Value) (s : Shared) : Prop where
  reg : Reg w (L :: cs.map (·.2)) b L m s
  cell : ∀ n c, cs.lookup n = some c → s.heap.IsCell c (cm n)
  apart : cs.Pairwise fun x y => x.2 ≠ y.2
  notL : ∀ n c, (n, c) ∈ cs → c ≠ L

section
variable {w : World} {b s s' : Shared} {L : Addr} {m cm : Str → Option Value} {cs : List (Str × Addr)}
theorem RegC.keeps (x : RegC w b L m cs cm s) (k : Keeps s s') : RegC w b L m cs cm s' := ⟨x.reg.keeps k, fun n c h => (x.cell n c h).keeps (kAll k), x.apart, x.notL⟩
theorem RegC.has (x : RegC w b L m cs cm s) : Has w s.heap := x.reg.has
theorem RegC.ns (x : RegC w b L m cs cm s) : s.heap.Ns L m := x.reg.ns
/-- the base may be laid anew where the state stands -/
theorem RegC.rebase (x : RegC w b L m cs cm s) : RegC w s L m cs cm s := ⟨⟨⟨s.heap, s.toks, rfl⟩, x.reg.ns, fun _ _ _ e => e, x.reg.inX, x.has, x.reg.free⟩, x.cell, x.apart, x.notL⟩
theorem RegC.done (x : RegC w b L m cs cm s) (hL : ∀ a ∈ L :: cs.map (·.2), b.heap.get? a = none) : Keeps b s := by
  obtain ⟨h, tk, e⟩ := x.reg.same
  refine ⟨h, tk, e, fun a o ha => ?_⟩
  have := x.reg.keep a o (fun q => by rw [hL a q] at ha; cases ha) ha
  rw [e] at this; exact this
end

/-- as enterC, with the frame's code record and the name before its inner names -/
theorem enterD {w : World} {s : Shared} {f d u : Nat} {args : List Value} {R : Result → Shared → Prop} {oc : Value} {od : Option Addr} {osl : Array (Option Value)} {fd : FuncData} {body : List Stmt} (names : List (Str × NameKind)) (binds : List (Str × Value)) (cs : Addr → List (Str × Addr))
    (H : Has w s.heap) (h58 : f ≠ 58) (h122 : f ≠ 122) (ho : (KF w).lookup f = some ⟨oc, od, .func fd, osl⟩) (hcd : codeIn (KF w) fd.code fd.qualname = true) (hc1 : fd.code ≠ .ref 58) (hc2 : fd.code ≠ .ref 122)
    (hbody : fd.body = .stmts body) (hbind : bindArgs fd ⟨args, []⟩ = pure binds)
    (hkind : ∀ L, ∀ x ∈ binds, fd.scope.names.lookup x.1 = some .local ∨ (fd.scope.names.lookup x.1 = some .cell ∧ ((cellsFrom (L + 1) fd.scope.names []).lookup x.1).isSome = true))
    (hk : fd.scope.kind = .function) (hg : fd.globals = 3) (hb : fd.builtins = 0) (hco : fd.scope.isCoroutine = false) (hgen : fd.scope.isGenerator = false) (hd : d < 1000) (hnames : fd.scope.names = names) (hclo : fd.closure = [])
    (hcs : ∀ L, cellsFrom (L + 1) names [] = cs L)
    (h : ∀ (Q : Flow → Shared → Prop) L env s₁, (∀ v s', R (.ok (.ret v)) s' → Q (.ret v) s') → EnvIs env L names (cs L) → env.code = fd.code → env.qual = fd.qualname ++ ".<locals>." → RegC w s L (bindL (fun n => names.lookup n) binds fun _ => none) (cs L) (bindC (fun n => names.lookup n) binds fun _ => none) s₁ → (∀ a ∈ L :: (cs L).map (·.2), s.heap.get? a = none) → s.toks ≤ s₁.toks →
      wpAny (model pr w) (Aw (d + 1) (u + 3)) (execs body env) Q (fun _ _ => False) s₁) :
    codeAny (model pr w) (Aw d u) (.call (.ref f) ⟨args, []⟩) R s := by
  have hcr : s.heap.CodeRec fd.code fd.qualname := by
    unfold codeIn at hcd
    split at hcd
    · rename_i c hce
      split at hcd
      · rename_i vs _ ho'
        split at hcd
        · rename_i a n t r hv
          refine ⟨c, _, vs, t, hce, H.at' _ _ (fun e => hc1 (by rw [hce, e])) (fun e => hc2 (by rw [hce, e])) ho', rfl, ?_⟩
          rw [← Array.getElem?_toList, hv, ← beq_iff_eq.mp hcd]; rfl
        · cases hcd
      · cases hcd
    · cases hcd
  subst hnames
  have hnone : ∀ a, s.heap.objs.size ≤ a → s.heap.get? a = none := fun a ha => by
    cases e : s.heap.get? a with
    | none => rfl
    | some o => exact absurd (Heap.lt_size e) (Nat.not_lt.mpr ha)
  refine codeAny_call_function (show d < 1000 from hd) (H.at' _ _ h58 h122 ho) rfl hco hgen hbody hcr ?_
  rw [hbind, hclo]
  refine wpAny_pure (wpAny_with_toks (n := s.toks) (Nat.le_refl _) (wpAny_newFunctionEnv_cells hk (hkind _) fun env he s' x => ?_))
  intro htk
  have hloc : env.locals = s.heap.objs.size := by rw [he]; rfl
  have hcells : env.cells = cs s.heap.objs.size := by rw [he, ← hcs]; rfl
  have hkof : env.kindOf = fun n => fd.scope.names.lookup n := by rw [he]; rfl
  have E : EnvIs env s.heap.objs.size fd.scope.names (cs s.heap.objs.size) := ⟨by rw [he]; exact hk, by rw [he]; rfl, hloc, by rw [he]; exact hg, by rw [he]; exact hb, hcells⟩
  refine ⟨H.lim.keeps x.toInCall.keep, codeAny_func ?_⟩
  have hcode : env.code = fd.code := by rw [he]; rfl
  have hqual : env.qual = fd.qualname ++ ".<locals>." := by rw [he]; rfl
  rw [hloc, hcells, hkof] at x
  have hge : ∀ a ∈ s.heap.objs.size :: (cs s.heap.objs.size).map (·.2), s.heap.objs.size ≤ a := fun a ha => by
    rcases List.mem_cons.mp ha with rfl | ha
    · exact Nat.le_refl _
    · obtain ⟨p, hp, rfl⟩ := List.mem_map.mp ha
      exact Nat.le_of_lt (x.above p.1 p.2 hp)
  refine wpAny_mono (h (fun f s' => R (.ok (.ret (match f with | .ret v => v | _ => .none))) s') s.heap.objs.size env s' (fun _ _ q => q) E hcode hqual ⟨⟨x.toInCall.same, x.toInCall.ns, fun a o _ e => x.toInCall.keep a o e, List.mem_cons_self, H, fun a ha => H.free (hnone a (hge a ha))⟩, x.cell, x.apart, fun n c hm => Nat.ne_of_gt (x.above n c hm)⟩
    (fun a ha => hnone a (hge a ha)) htk) (fun _ _ q => q) fun _ _ q => q.elim
theorem enterC {w : World} {s : Shared} {f d u : Nat} {args : List Value} {R : Result → Shared → Prop} {oc : Value} {od : Option Addr} {osl : Array (Option Value)} {fd : FuncData} {body : List Stmt} (names : List (Str × NameKind)) (binds : List (Str × Value)) (cs : Addr → List (Str × Addr))
    (H : Has w s.heap) (h58 : f ≠ 58) (h122 : f ≠ 122) (ho : (KF w).lookup f = some ⟨oc, od, .func fd, osl⟩) (hcd : codeIn (KF w) fd.code fd.qualname = true) (hc1 : fd.code ≠ .ref 58) (hc2 : fd.code ≠ .ref 122)
    (hbody : fd.body = .stmts body) (hbind : bindArgs fd ⟨args, []⟩ = pure binds)
    (hkind : ∀ L, ∀ x ∈ binds, fd.scope.names.lookup x.1 = some .local ∨ (fd.scope.names.lookup x.1 = some .cell ∧ ((cellsFrom (L + 1) fd.scope.names []).lookup x.1).isSome = true))
    (hk : fd.scope.kind = .function) (hg : fd.globals = 3) (hb : fd.builtins = 0) (hco : fd.scope.isCoroutine = false) (hgen : fd.scope.isGenerator = false) (hd : d < 1000) (hnames : fd.scope.names = names) (hclo : fd.closure = [])
    (hcs : ∀ L, cellsFrom (L + 1) names [] = cs L)
    (h : ∀ (Q : Flow → Shared → Prop) L env s₁, (∀ v s', R (.ok (.ret v)) s' → Q (.ret v) s') → EnvIs env L names (cs L) → RegC w s L (bindL (fun n => names.lookup n) binds fun _ => none) (cs L) (bindC (fun n => names.lookup n) binds fun _ => none) s₁ → (∀ a ∈ L :: (cs L).map (·.2), s.heap.get? a = none) → s.toks ≤ s₁.toks →
      wpAny (model pr w) (Aw (d + 1) (u + 3)) (execs body env) Q (fun _ _ => False) s₁) :
    codeAny (model pr w) (Aw d u) (.call (.ref f) ⟨args, []⟩) R s :=
  enterD names binds cs H h58 h122 ho hcd hc1 hc2 hbody hbind hkind hk hg hb hco hgen hd hnames hclo hcs fun Q L env s₁ fin e _ _ R hL ht => h Q L env s₁ fin e R hL ht

section
variable {w : World} {A : Around} {E : Value → Shared → Prop} {b s : Shared} {L : Addr} {m cm : Str → Option Value} {env : Env} {names : List (Str × NameKind)} {cs : List (Str × Addr)}
/-- a name that lies in a cell, of the frame's own or of one around -/
theorem nmC {n : Str} {pos : Pos} {c : Addr} {v : Value} {Q : Value → Shared → Prop} (e : EnvIs env L names cs) (hn : names.lookup n = some .cell) (hc : cs.lookup n = some c) (hv : s.heap.IsCell c (some v)) (h : Q v s)
    (hd : (n == ("__debug__" : Str)) = false := by decide) : wpAny (model pr w) A (eval (.Name n pos) env) Q E s :=
  wpAny_Name (wpAny_loadName_cell e.kind (by unfold Env.kindOf; rw [e.names]; exact hn) (by rw [e.cells]; exact hc) hv h) hd
theorem ldC {n : Str} {c : Addr} {v : Value} {Q : Value → Shared → Prop} (e : EnvIs env L names cs) (hn : names.lookup n = some .cell) (hc : cs.lookup n = some c) (hv : s.heap.IsCell c (some v)) (h : Q v s) :
    wpAny (model pr w) A (loadName env n) Q E s :=
  wpAny_loadName_cell e.kind (by unfold Env.kindOf; rw [e.names]; exact hn) (by rw [e.cells]; exact hc) hv h
theorem nmF {n : Str} {pos : Pos} {c : Addr} {v : Value} {Q : Value → Shared → Prop} (e : EnvIs env L names cs) (hn : names.lookup n = some .free) (hc : cs.lookup n = some c) (hv : s.heap.IsCell c (some v)) (h : Q v s)
    (hcd : (n == ("__classdict__" : Str)) = false := by decide) (hd : (n == ("__debug__" : Str)) = false := by decide) : wpAny (model pr w) A (eval (.Name n pos) env) Q E s :=
  wpAny_Name (wpAny_loadName_free e.kind (by unfold Env.kindOf; rw [e.names]; exact hn) (by rw [e.cells]; exact hc) hv h hcd) hd

theorem stLC' {n : Str} {v : Value} {Q : Unit → Shared → Prop} (x : RegC w b L m cs cm s) (e : EnvIs env L names cs) (hn : names.lookup n = some .local)
    (h : ∀ s', RegC w b L (fun y => if y = n then some v else m y) cs cm s' → (∀ a o, a ≠ L → s.heap.get? a = some o → s'.heap.get? a = some o) → Q () s') : wpAny (model pr w) A (storeName env n v) Q E s :=
  stL x.reg e hn fun s' R up => h s' ⟨R, fun k c hc => let ⟨o, ho, hd⟩ := x.cell k c hc; ⟨o, up c o (x.notL k c (mem_of_lookup hc)) ho, hd⟩, x.apart, x.notL⟩ up
theorem stC {n : Str} {c : Addr} {v : Value} {Q : Unit → Shared → Prop} (x : RegC w b L m cs cm s) (e : EnvIs env L names cs) (hn : names.lookup n = some .cell) (hc : cs.lookup n = some c)
    (h : ∀ s', RegC w b L m cs (fun y => if y = n then some v else cm y) s' → (∀ a o, a ≠ c → s.heap.get? a = some o → s'.heap.get? a = some o) → Q () s') : wpAny (model pr w) A (storeName env n v) Q E s := by
  have hmem := mem_of_lookup hc
  have hLc := x.notL n c hmem
  refine wpAny_storeName_cell e.kind (by unfold Env.kindOf; rw [e.names]; exact hn) (by rw [e.cells]; exact hc) (x.cell n c hc) fun h' hc' hs' => ?_
  have up : ∀ a o, a ≠ c → s.heap.get? a = some o → h'.get? a = some o := fun a o ha q => hs'.extBut a o ha q
  have hcX : c ∈ L :: cs.map (·.2) := List.mem_cons_of_mem _ (List.mem_map_of_mem (f := (·.2)) hmem)
  refine h _ ⟨⟨?_, x.reg.ns.sameBut hs' (Ne.symm hLc), fun a o ha q => up a o (fun z => ha (z ▸ hcX)) (x.reg.keep a o ha q), x.reg.inX, x.reg.hb, x.reg.free⟩, fun k c' hk' => ?_, x.apart, x.notL⟩ up
  · obtain ⟨h₁, tk, rfl⟩ := x.reg.same
    exact ⟨h', _, rfl⟩
  · by_cases hkn : k = n
    · subst hkn
      rw [hc] at hk'; cases hk'
      simpa using hc'
    · rw [if_neg hkn]
      exact (x.cell k c' hk').sameBut hs' fun q => hkn (name_of_addr x.apart (mem_of_lookup hk') (q ▸ mem_of_lookup hc))
end
end Mine
end

section
open PySem PySem.W PyProof.Rows
set_option maxRecDepth 100000
namespace Mine

/-- what a loop may run over: its iterator is new, and nothing else is turned by it -/
def Src (w : World) (A : Around) (xv : Value) (n : Nat) (P : Nat → Value → Prop) (s : Shared) : Prop :=
  ∀ (Q : Value → Shared → Prop) (E : Value → Shared → Prop),
    (∀ I fp St s₂, Walks pr w A I fp [I] n P St → Keeps s s₂ → s.toks ≤ s₂.toks → s.heap.get? I = none → St 0 s₂.heap → (∀ b ∈ fp, b < s₂.heap.objs.size) → Q (.ref I) s₂) → wpAny (model pr w) A (pyIter xv) Q E s

theorem size_none (h : Heap) : h.get? h.objs.size = none := by
  cases e : h.get? h.objs.size with
  | none => rfl
  | some o => exact absurd (Heap.lt_size e) (Nat.lt_irrefl _)
theorem srcList {w : World} {A : Around} {s : Shared} {a : Addr} {items : Array Value} (hA : A.handled = none) (hl : s.heap.IsList a items) : Src w A (.ref a) items.size (fun i v => items[i]? = some v) s := by
  intro Q E h
  have ha : a < s.heap.objs.size := let ⟨_, ho, _⟩ := hl; Heap.lt_size ho
  refine wpAny_pyIter_list hl (h _ [s.heap.objs.size, a] _ _ (Walks.list hA s.heap.objs.size a (Nat.ne_of_lt ha) items) (kPushH _) (Nat.le_refl _) (size_none _) ⟨⟨_, Heap.get?_push_size _ rfl, rfl, rfl⟩, hl.at fun o e => Heap.get?_push_of_some _ e⟩ ?_)
  intro b hb
  rw [Heap.size_push]
  rcases List.mem_cons.mp hb with rfl | hb
  · exact Nat.lt_succ_self _
  · rw [List.mem_singleton.mp hb]; exact Nat.lt_succ_of_lt ha
theorem srcStr {w : World} {A : Around} {s : Shared} {l : List Nat} {t : Tok} (hA : A.handled = none) : Src w A (.str (S l) t) l.length (fun i v => ∃ c u, l[i]? = some c ∧ v = .str (S [c]) u) s := by
  intro Q E h
  refine wpAny_pyIter_str fun o St W st => ?_
  have W' := W A hA
  have e : (S l).cps.size = l.length := by simp
  rw [e] at W'
  refine h _ _ St _ ⟨W'.sub, W'.frame, fun i s Q E hi st hQ => W'.item i s Q E hi st fun v h' tk hP => hQ v h' tk ?_, W'.done, W'.self⟩ (kPushH _) (Nat.le_refl _) (size_none _) st ?_
  · obtain ⟨c, u, hc, hv⟩ := hP
    exact ⟨c, u, by simpa using hc, hv⟩
  · intro b hb
    rw [List.mem_singleton.mp hb, Heap.size_push]; exact Nat.lt_succ_self _

/-- the names within a comprehension -/
def compNames (scope : Scope) (names : List (Str × NameKind)) : List (Str × NameKind) :=
  scope.names.map fun x => if (x.2 == .free && names.lookup x.1 == some .cell) then (x.1, .cell) else x
theorem compEnv_is {env : Env} {L C : Addr} {names : List (Str × NameKind)} {cs cl : List (Str × Addr)} {scope : Scope} (e : EnvIs env L names cs) (hk : scope.kind = .function) : EnvIs (compEnvC scope cl C env) C (compNames scope names) cl := by
  refine ⟨hk, ?_, rfl, e.globals, e.builtins, rfl⟩
  show (relabel scope env).names = _
  unfold relabel compNames
  refine List.map_congr_left fun x hx => ?_
  obtain ⟨n, k⟩ := x
  have e1 : env.kindOf n = names.lookup n := by unfold Env.kindOf; rw [e.names]
  have e2 : (env.scope.kind == ScopeKind.function) = true := by rw [e.kind]; rfl
  simp only [e1, e2, Bool.and_true]

section
variable {w : World} {A : Around} {E : Value → Shared → Prop} {s : Shared} {L : Addr} {env : Env} {names : List (Str × NameKind)} {cs : List (Str × Addr)}

/-- what an expression within a comprehension may lean on -/
abbrev InElt (w : World) (names : List (Str × NameKind)) (cl : List (Str × Addr)) (x : Str) (s₁ : Shared) (v : Value) (cenv : Env) (C : Addr) (m₃ : Str → Option Value) (s₃ : Shared) : Prop :=
  EnvIs cenv C names cl ∧ s₃.heap.Ns C m₃ ∧ m₃ x = some v ∧ (∀ b o, s₁.heap.get? b = some o → s₃.heap.get? b = some o) ∧ s₁.toks ≤ s₃.toks

theorem compL {elt iter : Expr} {x : Str} {px : Pos} {ifs : List Expr} {scope : Scope} {cl : List (Str × Addr)} {pos : Pos} {Q : Value → Shared → Prop} (p : Value → Bool) (F : Value → Value → Prop) (n : Nat) (P : Nat → Value → Prop)
    (e : EnvIs env L names cs) (hclos : closureFor scope env = pure cl) (hcell : (scope.names.all fun y => y.2 != .cell) = true) (hkind : scope.kind = .function)
    (hnames : (scope.names.all fun y => y.2 != .local || scope.names.lookup y.1 == some .local) = true) (hx : scope.names.lookup x = some .local) (hn : n ≤ 2 ^ 20)
    (h : wpAny (model pr w) A (eval iter env) (fun xv s₁ => Src w A xv n P s₁ ∧
      (∀ i v cenv C m₃ s₃, P i v → InElt w (compNames scope names) cl x s₁ v cenv C m₃ s₃ →
        wpAny (model pr w) A (forIn ifs true fun c r => if r = true then do let ok ← isTrue c cenv (eval c cenv); pure (ForInStep.yield ok) else pure (ForInStep.yield r)) (fun ok s₄ => ok = p v ∧ Keeps s₃ s₄) (fun _ _ => False) s₃) ∧
      (∀ i v cenv C m₃ s₃, P i v → p v = true → InElt w (compNames scope names) cl x s₁ v cenv C m₃ s₃ → wpAny (model pr w) A (eval elt cenv) (fun y s₄ => F v y ∧ Keeps s₃ s₄) (fun _ _ => False) s₃) ∧
      (∀ D s' ys (vs : List Value), Keeps s₁ s' → s₁.heap.get? D = none → s'.heap.IsList D ys → s'.heap.PlainList D ys → vs.length = n → (∀ j v, vs[j]? = some v → P j v) → Paired F (vs.filter p) ys.toList → Q (.ref D) s')) E s)
    (hs : ∀ x, foldedSetIterable iter env x = pure x := by intro _; rfl) :
    wpAny (model pr w) A (eval (.ListComp elt [⟨.Name x px, iter, ifs, 0⟩] scope pos) env) Q E s := by
  have hcell' : ∀ y ∈ scope.names, y.2 ≠ .cell := fun y hy q => by have := List.all_eq_true.mp hcell y hy; rw [q] at this; cases this
  have hnames' : ∀ y ∈ scope.names, y.2 = .local → scope.names.lookup y.1 = some .local := fun y hy q => by
    have := List.all_eq_true.mp hnames y hy; rw [q] at this; simpa using this
  refine wpAny_ListComp_free p F hclos hcell' hkind hnames' hx (wpAny_mono h (fun xv s₁ h₁ => ?_) fun _ _ q => q) hs
  obtain ⟨hsrc, ht, he, hQ⟩ := h₁
  refine hsrc _ _ fun I fp St s₂ W k₂ tk₂ hI hst hfp => ⟨I, fp, [I], n, P, St, rfl, W, by rw [sizeLine_eq]; omega, hst, hfp, ⟨?_, ?_⟩, ?_⟩
  · intro C i v s₃ m₃ E' _ hP hns hm hk htk
    exact noErr (ht i v (compEnvC scope cl C env) C m₃ s₃ hP ⟨compEnv_is e hkind, hns, hm, fun b o q => hk b o (fun z => by rw [List.mem_singleton.mp z, hI] at q; cases q) (kGet k₂ q), Nat.le_trans tk₂ htk⟩)
  · intro C i v s₃ m₃ E' _ hP hp hns hm hk htk
    exact noErr (he i v (compEnvC scope cl C env) C m₃ s₃ hP hp ⟨compEnv_is e hkind, hns, hm, fun b o q => hk b o (fun z => by rw [List.mem_singleton.mp z, hI] at q; cases q) (kGet k₂ q), Nat.le_trans tk₂ htk⟩)
  · intro D h' tk ys vs hD hl hpl hlen hP hF hk
    refine hQ D _ ys vs ?_ ?_ hl hpl hlen hP hF
    · obtain ⟨h₂, t₂, rfl, kk⟩ := k₂
      exact ⟨h', tk, rfl, fun b o q => hk b o (fun z => by rw [List.mem_singleton.mp z, hI] at q; cases q) (kk b o q)⟩
    · cases q : s₁.heap.get? D with
      | none => rfl
      | some o => rw [kGet k₂ q] at hD; cases hD
end
end Mine
end

section
open PySem PySem.W PyProof.Rows PySem.SeqAt
set_option maxRecDepth 100000
namespace Mine

/-- values that are these texts -/
abbrev Txts (vs : List Value) (ls : List (List Nat)) : Prop := Paired (fun v l => ∃ t, v = Value.str (S l) t) vs ls
def Asc (l : List Nat) : Prop := ∀ c ∈ l, c < 128
theorem txts_len {vs : List Value} {ls : List (List Nat)} (h : Txts vs ls) : vs.length = ls.length := h.length
theorem txts_at : ∀ {vs : List Value} {ls : List (List Nat)}, Txts vs ls → ∀ {i : Nat} {v : Value}, vs[i]? = some v → ∃ l t, ls[i]? = some l ∧ v = .str (S l) t
  | _, _, .nil, i, v, e => by simp at e
  | _, _, .cons ⟨t, h⟩ r, 0, v, e => by simp at e; subst e; exact ⟨_, t, rfl, h⟩
  | _, _, .cons _ r, i + 1, v, e => by rw [List.getElem?_cons_succ] at e ⊢; exact txts_at r e
theorem txts_at' : ∀ {vs : List Value} {ls : List (List Nat)}, Txts vs ls → ∀ {i : Nat} {l : List Nat}, ls[i]? = some l → ∃ t, vs[i]? = some (.str (S l) t)
  | _, _, .nil, i, v, e => by simp at e
  | _, _, .cons ⟨t, h⟩ r, 0, l, e => by simp at e; subst e; exact ⟨t, by simpa using h⟩
  | _, _, .cons _ r, i + 1, v, e => by simp at e ⊢; exact txts_at' r e

theorem strOk_of {l : List Nat} (h : Asc l) : PyData.strOk (S l) = true := by
  unfold PyData.strOk
  rw [Array.all_eq_true']
  intro c hc
  have := h c (by simpa using hc)
  simp; omega
theorem readsTxts {h : Heap} : ∀ {vs : List Value} {ls : List (List Nat)}, Txts vs ls → ReadsAll h vs (ls.map fun l => .str (S l)) []
  | _, _, .nil => .nil
  | _, _, .cons ⟨t, e⟩ r => by subst e; exact .cons (as := []) (.str _ _) (readsTxts r)
theorem readsList {h : Heap} {a : Addr} {vs : List Value} {ls : List (List Nat)} (hl : h.IsList a vs.toArray) (ht : Txts vs ls) : Reads h (.ref a) (.list (ls.map fun l => .str (S l))) [a] := by
  obtain ⟨o, ho, hc, n, hd⟩ := hl
  exact .list ho hc hd (by simpa using readsTxts ht)
theorem canLay : ∀ {ls : List (List Nat)}, (∀ l ∈ ls, Asc l) → PyData.canLayAll0 (ls.map fun l => PyData.str (S l)) = true
  | [], _ => rfl
  | l :: r, h => by
    show (PyData.canLay0 (.str (S l)) && PyData.canLayAll0 _) = true
    rw [canLay fun x hx => h x (.tail _ hx)]
    show (PyData.strOk (S l) && true) = true
    rw [strOk_of (h l (.head _))]; rfl
theorem depthStrs : ∀ (ls : List (List Nat)), PyData.depthAll (ls.map fun l => PyData.str (S l)) = 0
  | [] => rfl
  | l :: r => by
    show max (PyData.depth (.str (S l))) (PyData.depthAll _) = 0
    rw [depthStrs r]; rfl
theorem eqvStrs : ∀ (ls ks : List (List Nat)), PyData.eqvAll (ls.map fun l => PyData.str (S l)) (ks.map fun l => PyData.str (S l)) = (ls == ks)
  | [], [] => rfl
  | [], _ :: _ => rfl
  | _ :: _, [] => rfl
  | l :: r, k :: q => by
    show (PyData.eqv (.str (S l)) (.str (S k)) && PyData.eqvAll _ _) = _
    rw [eqvStrs r q]
    show ((S l == S k) && _) = _
    rw [S_beq]; rfl

section
variable {w : World} {A : Around} {E : Value → Shared → Prop} {s : Shared} {env : Env}
theorem opEqL {a b : Addr} {vs us : List Value} {ls ks : List (List Nat)} {Q : Value → Shared → Prop} (ha : s.heap.IsList a vs.toArray) (hv : Txts vs ls) (hb : s.heap.IsList b us.toArray) (hu : Txts us ks)
    (hl : ∀ l ∈ ls, Asc l) (hk : ∀ l ∈ ks, Asc l) (hA : A.units ≤ 9000) (h : Q (.bool (ls == ks)) s) : wpAny (model pr w) A (compareOp .Eq (.ref a) (.ref b)) Q E s := by
  refine compareEq_reads (readsList ha hv) (readsList hb hu) (canLay hl) (canLay hk) ?_ ?_
  · show A.units + min (PyData.depthAll _ + 1) (PyData.depthAll _ + 1) < 9900
    rw [depthStrs, depthStrs]; omega
  · show Q (.bool (PyData.eqvAll _ _)) s
    rw [eqvStrs]; exact h
theorem opNeL {a b : Addr} {vs us : List Value} {ls ks : List (List Nat)} {Q : Value → Shared → Prop} (ha : s.heap.IsList a vs.toArray) (hv : Txts vs ls) (hb : s.heap.IsList b us.toArray) (hu : Txts us ks)
    (hl : ∀ l ∈ ls, Asc l) (hk : ∀ l ∈ ks, Asc l) (hA : A.units ≤ 9000) (h : Q (.bool (ls != ks)) s) : wpAny (model pr w) A (compareOp .NotEq (.ref a) (.ref b)) Q E s := by
  refine compareNe_reads (readsList ha hv) (readsList hb hu) (canLay hl) (canLay hk) ?_ ?_
  · show A.units + min (PyData.depthAll _ + 1) (PyData.depthAll _ + 1) < 9900
    rw [depthStrs, depthStrs]; omega
  · show Q (.bool (!PyData.eqvAll _ _)) s
    rw [eqvStrs]; exact h
/-- a new list -/
theorem mkList {vs : List Value} {Q : Value → Shared → Prop} (hn : vs.length ≤ 2 ^ 20) (h : ∀ D s', Keeps s s' → s.heap.get? D = none → s'.heap.PlainList D vs.toArray → s'.toks = s.toks → Q (.ref D) s') : wpAny (model pr w) A (newList vs) Q E s :=
  wpAny_newObj_type (h s.heap.objs.size _ (kPushH _) (size_none _) ⟨0, Heap.get?_push_size _ rfl⟩ rfl) (by show vs.toArray.size ≤ sizeLine; rw [List.size_toArray, sizeLine_eq]; omega)
theorem listNil {pos : Pos} {Q : Value → Shared → Prop} (h : ∀ D s', Keeps s s' → s.heap.get? D = none → s'.heap.PlainList D #[] → Q (.ref D) s') : wpAny (model pr w) A (eval (.List [] pos) env) Q E s :=
  List_ (Calls.spliced_nil (mkList (vs := []) (by simp) fun D s' k hD hl _ => h D s' k hD hl))
/-- an item of a list -/
theorem opAt {a : Addr} {vs : List Value} {i : Nat} {u : Tok} {v : Value} {value slice : Expr} {Q : Value → Shared → Prop} (hl : s.heap.IsList a vs.toArray) (hi : vs[i]? = some v) (hn : vs.length ≤ 2 ^ 20) (h : Q v s)
    (hs : subscripted slice false (.ref a) (.int i u) = operate [.ref a, .int i u] (getItem (.ref a) (.int i u)) := by with_unfolding_all rfl)
    (ht : ∀ r, letTemporaryGo value (.ref a) r = pure () := by intro _; with_unfolding_all rfl) :
    wpAny (model pr w) A (PyProof.Rows.subscriptTail value slice (.ref a) (.int i u)) Q E s := by
  have hlt : i < vs.length := (List.getElem?_eq_some_iff.mp hi).1
  exact subscriptTail_builtin hl.typeIs slot_list_getitem.lookup (wpAny_getItem_list hl (by omega) (by omega) (by simpa using hi) h) hs ht
end
theorem PlainList.is {h : Heap} {a : Addr} {vs : Array Value} (x : h.PlainList a vs) : h.IsList a vs := let ⟨n, e⟩ := x; ⟨_, e, rfl, n, rfl⟩
theorem isListK {s s' : Shared} (k : Keeps s s') {a : Addr} {vs : Array Value} (x : s.heap.IsList a vs) : s'.heap.IsList a vs := x.at fun _ e => kGet k e
end Mine
end

section
open PySem PySem.W PyProof.Rows
set_option maxRecDepth 100000
namespace Mine

/-- all texts begin with the first k signs of x -/
def Share (x : List Nat) (ls : List (List Nat)) (k : Nat) : Prop := ∀ l ∈ ls, k ≤ l.length ∧ l.take k = x.take k
/-- a text that does not go on as x does, behind k signs -/
def parts (x : List Nat) (k : Nat) (l : List Nat) : Bool := decide (l.length ≤ k) || (l.take (k + 1) != x.take (k + 1))
def partsV (x : List Nat) (k : Nat) : Value → Bool
  | .str y _ => parts x k y.cps.toList
  | _ => false
theorem share_next {x : List Nat} {ls : List (List Nat)} {k : Nat} : Share x ls (k + 1) ↔ ∀ l ∈ ls, parts x k l = false := by
  unfold Share parts
  refine forall_congr' fun l => forall_congr' fun _ => ?_
  simp
  intro _
  omega
theorem filter_parts : ∀ {vs : List Value} {ls : List (List Nat)} {x : List Nat} {k : Nat}, Txts vs ls → Txts (vs.filter (partsV x k)) (ls.filter (parts x k))
  | _, _, _, _, .nil => .nil
  | _, _, x, k, .cons (l₂ := ls) ⟨t, e⟩ r => by
    subst e
    rename_i l vs
    have ih := filter_parts (x := x) (k := k) r
    have he : partsV x k (.str (S l) t) = parts x k l := by unfold partsV; simp
    cases hp : parts x k l with
    | true => rw [List.filter_cons_of_pos (by rw [he]; exact hp), List.filter_cons_of_pos (by exact hp)]; exact .cons ⟨t, rfl⟩ ih
    | false => rw [List.filter_cons_of_neg (by rw [he, hp]; decide), List.filter_cons_of_neg (by rw [hp]; decide)]; exact ih
theorem paired_eq {vs ys : List Value} (h : Paired (fun v y => v = y) vs ys) : vs = ys := by
  induction h with
  | nil => rfl
  | cons e _ ih => rw [e, ih]
theorem list_of_at {vs us : List Value} (hl : vs.length = us.length) (h : ∀ (j : Nat) (v : Value), vs[j]? = some v → us[j]? = some v) : vs = us := by
  apply List.ext_getElem? ; intro j
  rcases Nat.lt_or_ge j vs.length with q | q
  · obtain ⟨v, hv⟩ : ∃ v, vs[j]? = some v := ⟨_, List.getElem?_eq_getElem q⟩
    rw [hv, h j v hv]
  · rw [List.getElem?_eq_none q, List.getElem?_eq_none (by omega)]

theorem tests1 {w : World} {A : Around} {E : Value → Shared → Prop} {s : Shared} {env : Env} {c : Expr} {Q : Bool → Shared → Prop} (h : wpAny (model pr w) A (isTrue c env (eval c env)) Q E s) :
    wpAny (model pr w) A (forIn [c] true fun c r => if r = true then do let ok ← isTrue c env (eval c env); pure (ForInStep.yield ok) else pure (ForInStep.yield r)) Q E s := wpAny_tests_one h

def JCol (w : World) (s : Shared) (L a : Addr) (m : Str → Option Value) (x : List Nat) (ls : List (List Nat)) (n : Nat) (s' : Shared) : Prop :=
  ∃ (k : Nat) (cm' : Str → Option Value) (tk : Tok), RegC w s L m [("size", L + 1 + 1), ("texts", L + 1)] cm' s' ∧ cm' "texts" = some (.ref a) ∧ cm' "size" = some (.int k tk) ∧
      n = x.length - k ∧ Share x (x :: ls) k
def KCol (w : World) (s : Shared) (L a : Addr) (m : Str → Option Value) (x : List Nat) (ls : List (List Nat)) (s' : Shared) : Prop :=
  ∃ (k : Nat) (cm' : Str → Option Value) (tk : Tok), RegC w s L m [("size", L + 1 + 1), ("texts", L + 1)] cm' s' ∧ cm' "texts" = some (.ref a) ∧ cm' "size" = some (.int k tk) ∧ Share x (x :: ls) k ∧ ¬ Share x (x :: ls) (k + 1)
set_option maxHeartbeats 1000000 in
theorem columns_spec (w : World) {s : Shared} (H : Has w s.heap) {a : Addr} {vs : List Value} {x : List Nat} {ls : List (List Nat)} (hl : s.heap.IsList a vs.toArray) (hv : Txts vs (x :: ls))
    (hlen : ls.length ≤ 2 ^ 10) (hsz : ∀ l ∈ x :: ls, l.length ≤ 2 ^ 10) (hasc : ∀ l ∈ x :: ls, Asc l) :
    codeAny (model pr w) (Aw 400 4000) (.call (.ref 110) ⟨[.ref a], []⟩) (Post s fun v _ => ∃ k t, v = .str (S (x.take k)) t ∧ Share x (x :: ls) k ∧ ¬ Share x (x :: ls) (k + 1)) s := by
  refine enterC [("texts", .cell), ("size", .cell)] [("texts", .ref a)] (fun L => [("size", L + 1 + 1), ("texts", L + 1)])
    H (by decide) (by decide) rfl (by kernel_rfl) (by intro e; cases e) (by intro e; cases e) rfl rfl (by intro L; simp only [List.mem_singleton, forall_eq]; exact .inr ⟨by kernel_rfl, by kernel_rfl⟩) rfl rfl rfl rfl rfl (by decide) (by kernel_rfl) rfl (by intro L; rfl) ?_
  intro Q L env s₁ fin e R hL htk
  have h1 : (bindC (fun n => List.lookup n [(Str.ofString "texts", NameKind.cell), (Str.ofString "size", NameKind.cell)]) [(Str.ofString "texts", Value.ref a)] fun _ => none) "texts" = some (.ref a) := by kernel_rfl
  generalize (bindC (fun n => List.lookup n [(Str.ofString "texts", NameKind.cell), (Str.ofString "size", NameKind.cell)]) [(Str.ofString "texts", Value.ref a)] fun _ => none) = cm at R h1
  generalize (bindL (fun n => List.lookup n [(Str.ofString "texts", NameKind.cell), (Str.ofString "size", NameKind.cell)]) [(Str.ofString "texts", Value.ref a)] fun _ => none) = m at R
  have hlv := txts_len hv
  simp only [List.length_cons] at hlv
  have hx0 := hsz x (.head _)
  obtain ⟨t0, ht0⟩ := txts_at' hv (i := 0) (l := x) rfl
  refine wpAny_execs_cons (wpAny_Assign_Name (cInt fun s₂ t₂ k₂ => ?_))
  refine stC (R.keeps k₂) e (by kernel_rfl) rfl fun s₃ R₃ _ => ?_
  refine wpAny_execs_cons (whileR (fun n s' => JCol w s L a m x ls n s')
    (fun s' => KCol w s L a m x ls s') ?_ _
    ⟨0, _, t₂, R₃, h1, rfl, rfl, fun l _ => by simp⟩ ?_)
  · clear R₃ R h1
    rintro n s' ⟨k, cm', tk, R, h1, h2, rfl, hsh⟩
    have hkx : k ≤ x.length := (hsh x (.head _)).1
    have hcT := R.cell "texts" (L + 1) (by kernel_rfl); rw [h1] at hcT
    have hcS := R.cell "size" (L + 1 + 1) (by kernel_rfl); rw [h2] at hcS
    have up : ∀ b o, s.heap.get? b = some o → s'.heap.get? b = some o := fun b o q => R.reg.keep b o (fun z => by rw [hL b z] at q; cases q) q
    have hl' : s'.heap.IsList a vs.toArray := hl.at fun o q => up _ o q
    refine wpAny_isTrue_Compare1 (compL (partsV x k) (fun v y => v = y) vs.toArray.size (fun i v => vs.toArray[i]? = some v) e (by unfold closureFor cellOf; simp only [e.cells]; rfl) (by kernel_rfl) rfl (by kernel_rfl) (by kernel_rfl) (by simp; omega) ?_)
    refine nmC e (by kernel_rfl) rfl hcT ⟨srcList rfl hl', ?_, ?_, ?_⟩
    · rintro i v cenv C m₃ s₄ hP ⟨e', hns, hm, hup, _⟩
      obtain ⟨l, t, hli, rfl⟩ := txts_at hv (by simpa using hP)
      have hmem : l ∈ x :: ls := List.mem_of_getElem? hli
      have hll := hsz l hmem
      have cT := hcT.keeps hup
      have cS := hcS.keeps hup
      have lT := hl'.at fun o q => hup _ o q
      have hpv : partsV x k (.str (S l) t) = parts x k l := by unfold partsV; simp
      rw [hpv]
      refine tests1 (isTrue_or (wpAny_isTrue_Compare1 (sliceFT (nmL hns e' (by kernel_rfl) hm (nmC e' (by kernel_rfl) rfl cS (wpAny_BinOp (nmC e' (by kernel_rfl) rfl cS (cInt fun s₅ t₅ k₅ => opAdd fun s₆ t₆ k₆ => ?_))))))))
      refine ⟨l, t, k, tk, k + 1, t₆, rfl, rfl, by push_cast; rfl, by omega, fun s₇ t₇ k₇ => cStr fun s₈ t₈ k₈ => opEqS (l := (l.take (k + 1)).drop k) (k := []) (wpAny_truthy_bool ?_)⟩
      have kk := kTrans (kTrans (kTrans k₅ k₆) k₇) k₈
      by_cases c : l.length ≤ k
      · have : (l.take (k + 1)).drop k = [] := by rw [List.drop_eq_nil_iff]; simp; omega
        rw [this, if_pos (by rfl)]
        exact ⟨by unfold parts; simp [c], kk⟩
      · have : (l.take (k + 1)).drop k ≠ [] := by rw [Ne, List.drop_eq_nil_iff]; simp; omega
        rw [if_neg (by simpa using this)]
        refine isTrue_or (wpAny_isTrue_Compare1 (sliceTo (nmL (hns.keeps (kAll kk)) e' (by kernel_rfl) hm (wpAny_BinOp (nmC e' (by kernel_rfl) rfl (cS.keeps (kAll kk)) (cInt fun s₉ t₉ k₉ => opAdd fun s₁₀ t₁₀ k₁₀ => ?_))))))
        refine ⟨l, t, k + 1, t₁₀, rfl, by push_cast; rfl, by omega, fun s₁₁ t₁₁ k₁₁ => ?_⟩
        have kk' := kTrans (kTrans (kTrans kk k₉) k₁₀) k₁₁
        refine sliceTo (Subscript_ (nmC e' (by kernel_rfl) rfl (cT.keeps (kAll kk')) (cInt fun s₁₂ t₁₂ k₁₂ => ?_)))
        refine opAt (i := 0) (isListK (kTrans kk' k₁₂) lT) ht0 (by omega) ?_
        refine wpAny_BinOp (nmC e' (by kernel_rfl) rfl (cS.keeps (kAll (kTrans kk' k₁₂))) (cInt fun s₁₃ t₁₃ k₁₃ => opAdd fun s₁₄ t₁₄ k₁₄ => ?_))
        refine ⟨x, t0, k + 1, t₁₄, rfl, by push_cast; rfl, by omega, fun s₁₅ t₁₅ k₁₅ => opNeS (wpAny_truthy_bool ?_)⟩
        have kk'' := kTrans (kTrans (kTrans (kTrans kk' k₁₂) k₁₃) k₁₄) k₁₅
        by_cases c2 : l.take (k + 1) = x.take (k + 1)
        · rw [if_neg (by simp [c2])]
          exact isTrue_or_nil ⟨by unfold parts; simp [c2]; omega, kk''⟩
        · rw [if_pos (by simpa using c2)]
          exact ⟨by unfold parts; simp [c2], kk''⟩
    · rintro i v cenv C m₃ s₄ hP hp ⟨e', hns, hm, hup, _⟩
      exact nmL hns e' (by kernel_rfl) hm ⟨rfl, kRefl _⟩
    · rintro D s₄ ys us k₄ hD hlD _ hlen' hP hF
      have hus : us = vs := list_of_at (by simpa using hlen') fun j v q => by simpa using hP j v q
      subst hus
      have hys := paired_eq hF
      refine listNil fun D' s₅ k₅ hD' hl5 => ?_
      have hlD' : s₅.heap.IsList D (us.filter (partsV x k)).toArray := by rw [hys]; simpa using isListK k₅ hlD
      refine opEqL hlD' (filter_parts hv) (vs := us.filter (partsV x k)) (us := []) (ks := []) (PlainList.is hl5) .nil (fun l hl => hasc l ((List.mem_filter.mp hl).1)) (fun _ q => nomatch q) (by decide) (wpAny_truthy_bool ?_)
      have R₅ := (R.keeps k₄).keeps k₅
      by_cases c : (x :: ls).filter (parts x k) = []
      · rw [c, if_pos (by rfl)]
        have hn : Share x (x :: ls) (k + 1) := share_next.mpr fun l hl => by
          have := List.filter_eq_nil_iff.mp c l hl; simpa using this
        have hk1 : k + 1 ≤ x.length := (hn x (.head _)).1
        have hcS5 := R₅.cell "size" (L + 1 + 1) (by kernel_rfl); rw [h2] at hcS5
        refine wpAny_execs_cons (wpAny_AugAssign_Name (ldC e (by kernel_rfl) rfl hcS5 (cInt fun s₆ t₆ k₆ => opIAdd fun s₇ t₇ k₇ => ?_)))
        refine stC ((R₅.keeps k₆).keeps k₇) e (by kernel_rfl) rfl fun s₈ R₈ _ => wpAny_execs_nil ⟨rfl, _, ?_, k + 1, _, t₇, R₈, h1, rfl, rfl, hn⟩
        omega
      · rw [if_neg (by simp; simpa using c)]
        exact ⟨k, cm', tk, R₅, h1, h2, hsh, fun q => c (List.filter_eq_nil_iff.mpr fun l hl => by rw [share_next.mp q l hl]; decide)⟩
  · rintro s₈ ⟨k, cm', tk, R, h1, h2, hsh, hns⟩
    have hcT := R.cell "texts" (L + 1) (by kernel_rfl); rw [h1] at hcT
    have hcS := R.cell "size" (L + 1 + 1) (by kernel_rfl); rw [h2] at hcS
    have up : ∀ b o, s.heap.get? b = some o → s₈.heap.get? b = some o := fun b o q => R.reg.keep b o (fun z => by rw [hL b z] at q; cases q) q
    refine wpAny_execs_cons (wpAny_Return_some (sliceTo (Subscript_ (nmC e (by kernel_rfl) rfl hcT (wpToks (cInt fun s₉ t₉ k₉ _ => ?_))))))
    refine opAt (i := 0) (isListK k₉ (hl.at fun o q => up _ o q)) ht0 (by omega) ?_
    refine nmC e (by kernel_rfl) rfl (hcS.keeps (kAll k₉)) ⟨x, t0, k, tk, rfl, rfl, by omega, fun s₁₀ t₁₀ k₁₀ => ?_⟩
    exact fin _ _ ⟨_, rfl, ((R.keeps k₉).keeps k₁₀).done hL, k, t₁₀, rfl, hsh, hns⟩
end Mine
end

section
open PySem PySem.W PyProof.Rows
set_option maxRecDepth 100000
namespace Mine
/-- the thirteen signs -/
abbrev signs : List Nat := [38, 60, 62, 34, 13, 10, 9, 97, 59, 35, 49, 108, 116]
/-- the dict of the spellings -/
def SpD (w : World) (k : Nat) (h : Heap) (a : Addr) : Prop := ∃ f, h.MapOf (PySem.strKind pr w) a f ∧ ∀ c ∈ signs, ∃ t, f (S [c]) = some (.str (S (sp (tabOf k) c)) t)
theorem SpD.keeps {w : World} {k : Nat} {h h' : Heap} {a : Addr} (x : SpD w k h a) (kk : ∀ b o, h.get? b = some o → h'.get? b = some o) : SpD w k h' a :=
  let ⟨f, ⟨o, es, ep, ho, r⟩, q⟩ := x; ⟨f, ⟨o, es, ep, kk _ _ ho, r⟩, q⟩
theorem paired_at {α β : Type} {F : α → β → Prop} : ∀ {vs : List α} {ys : List β}, Paired F vs ys → vs.length = ys.length ∧ ∀ (j : Nat) v, vs[j]? = some v → ∃ y, ys[j]? = some y ∧ F v y
  | _, _, .nil => ⟨rfl, fun j v q => by simp at q⟩
  | _, _, .cons h r => by
    have ih := paired_at r
    refine ⟨by simp [ih.1], fun j v q => ?_⟩
    cases j with
    | zero => simp at q; subst q; exact ⟨_, by simp, h⟩
    | succ j => simp at q ⊢; exact ih.2 j v q
theorem txts_of_at : ∀ {ys : List Value} {ls : List (List Nat)}, ys.length = ls.length → (∀ (j : Nat) y, ys[j]? = some y → ∃ l t, ls[j]? = some l ∧ y = .str (S l) t) → Txts ys ls
  | [], [], _, _ => .nil
  | y :: ys, l :: ls, hl, h => by
    obtain ⟨l', t, e1, e2⟩ := h 0 y rfl
    simp at e1
    subst e1
    exact .cons ⟨t, e2⟩ (txts_of_at (by simpa using hl) fun j y' q => by
      have := h (j + 1) y' (by simpa using q)
      simpa using this)
  | [], _ :: _, hl, _ => by simp at hl
  | _ :: _, [], hl, _ => by simp at hl
/-- what a comprehension over something makes of texts -/
theorem txts_comp {n : Nat} {P : Nat → Value → Prop} {F : Value → Value → Prop} {vs : List Value} {ys : Array Value} {ls : List (List Nat)} (hn : ls.length = n) (hlen : vs.length = n) (hP : ∀ j v, vs[j]? = some v → P j v) (hF : Paired F (vs.filter fun _ => true) ys.toList)
    (h : ∀ (j : Nat) v y, P j v → F v y → ∃ l t, ls[j]? = some l ∧ y = .str (S l) t) : Txts ys.toList ls := by
  have e : vs.filter (fun _ => true) = vs := List.filter_eq_self.mpr fun _ _ => rfl
  rw [e] at hF
  obtain ⟨p1, p2⟩ := paired_at hF
  refine txts_of_at (by omega) fun j y q => ?_
  have hj : j < vs.length := by rw [p1]; exact (List.getElem?_eq_some_iff.mp q).1
  obtain ⟨y', e1, e2⟩ := p2 j vs[j] (List.getElem?_eq_getElem hj)
  rw [q] at e1; cases e1
  exact h j _ y (hP j _ (List.getElem?_eq_getElem hj)) e2
theorem strsAre_of : ∀ {vs : List Value} {ls : List (List Nat)}, Txts vs ls → StrsAre vs (ls.map S)
  | _, _, .nil => .nil
  | _, _, .cons ⟨t, e⟩ r => by subst e; exact .cons _ t (strsAre_of r)
theorem join_flat : ∀ ls : List (List Nat), Str.join (S []) (ls.map S) = S ls.flatten
  | [] => rfl
  | [l] => by show S l = _; simp
  | l :: k :: r => by
    have ih := join_flat (k :: r)
    show S l ++ S [] ++ Str.join (S []) ((k :: r).map S) = _
    rw [ih, S_append, S_append]; simp
theorem txt_join (x : Str) (ls : List Str) : Txt.join x ls = Str.join x ls := StrLaws.glued_eq_join x ls
section
variable {w : World} {A : Around} {E : Value → Shared → Prop} {s : Shared} {L : Addr} {env : Env} {names : List (Str × NameKind)} {cs : List (Str × Addr)}
theorem tests0 {c : Env} {Q : Bool → Shared → Prop} (h : Q true s) : wpAny (model pr w) A (forIn [] true fun x r => if r = true then do let ok ← isTrue x c (eval x c); pure (ForInStep.yield ok) else pure (ForInStep.yield r)) Q E s := by
  rw [List.forIn_nil]; exact wpAny_pure h
theorem opD {k : Nat} {a : Addr} {c : Nat} {t : Tok} {value slice : Expr} {Q : Value → Shared → Prop} (hd : SpD w k s.heap a) (hc : c ∈ signs) (h : ∀ u s', Keeps s s' → Q (.str (S (sp (tabOf k) c)) u) s')
    (hs : subscripted slice false (.ref a) (.str (S [c]) t) = operate [.ref a, .str (S [c]) t] (getItem (.ref a) (.str (S [c]) t)) := by with_unfolding_all rfl) (hg : ∀ r, letTemporaryGo value (.ref a) r = pure () := by intro _; with_unfolding_all rfl) :
    wpAny (model pr w) A (subscriptTail value slice (.ref a) (.str (S [c]) t)) Q E s := by
  obtain ⟨f, hm, hf⟩ := hd
  obtain ⟨u, hu⟩ := hf c hc
  exact subscriptTail_builtin hm.typeIs PySem.slot_dict_getitem.lookup (wpAny_getItem_of (strKind_is pr w (S [c]) t) hm hu (h u _ (kTok _))) hs hg
theorem spellComp {k : Nat} {a c : Addr} (l : List Nat) {iter : Expr} {px p1 p2 p3 pos : Pos} {scope : Scope} {Q : Value → Shared → Prop} (e : EnvIs env L names cs) (hclos : closureFor scope env = pure [(Str.ofString "spelled", c)]) (hsc : scope.names = [(Str.ofString ".0", NameKind.local), (Str.ofString "sign", NameKind.local), (Str.ofString "spelled", NameKind.free)])
    (hkind : scope.kind = .function) (hcell : names.lookup (Str.ofString "spelled") = some .cell) (hA : A.handled = none) (hl : l.length ≤ 2 ^ 10) (hls : ∀ x ∈ l, x ∈ signs)
    (h : wpAny (model pr w) A (eval iter env) (fun v s₁ => ∃ t, v = .str (S l) t ∧ s₁.heap.IsCell c (some (.ref a)) ∧ SpD w k s₁.heap a ∧
      ∀ D s' ys, Keeps s₁ s' → s₁.heap.get? D = none → s'.heap.IsList D ys.toArray → Txts ys (l.map (sp (tabOf k))) → Q (.ref D) s') E s)
    (hs : ∀ x, foldedSetIterable iter env x = pure x := by intro _; rfl) :
    wpAny (model pr w) A (eval (.ListComp (.Subscript (.Name "spelled" p1) (.Name "sign" p2) p3) [⟨.Name "sign" px, iter, [], 0⟩] scope pos) env) Q E s := by
  have hcn : compNames scope names = [(Str.ofString ".0", NameKind.local), (Str.ofString "sign", NameKind.local), (Str.ofString "spelled", NameKind.cell)] := by
    unfold compNames; rw [hsc]; simp [hcell]
  refine compL (fun _ => true) (fun v y => ∃ c t u, c ∈ signs ∧ v = .str (S [c]) t ∧ y = .str (S (sp (tabOf k) c)) u) l.length (fun i v => ∃ c u, l[i]? = some c ∧ v = .str (S [c]) u) e hclos (by rw [hsc]; rfl) hkind (by rw [hsc]; kernel_rfl) (by rw [hsc]; kernel_rfl) (by omega) ?_ hs
  refine wpAny_mono h (fun v s₁ h₁ => ?_) fun _ _ q => q
  obtain ⟨t, rfl, hcl, hd, hQ⟩ := h₁
  refine ⟨srcStr hA, ?_, ?_, ?_⟩
  · rintro i v cenv C m₃ s₃ _ _
    exact tests0 ⟨rfl, kRefl _⟩
  · rintro i v cenv C m₃ s₃ ⟨x, u, hx, rfl⟩ _ ⟨e', hns, hm, hup, _⟩
    have hx' := hls x (List.mem_of_getElem? hx)
    rw [hcn] at e'
    refine Subscript_ (nmC e' (by kernel_rfl) (by kernel_rfl) (hcl.keeps hup) (nmL hns e' (by kernel_rfl) hm (opD (hd.keeps hup) hx' fun u' s' k' => ?_)))
    exact ⟨⟨x, u, u', hx', rfl, rfl⟩, k'⟩
  · rintro D s' ys vs k' hD hlD _ hlen hP hF
    refine hQ D s' ys.toList k' hD hlD (txts_comp (by simp) hlen hP hF ?_)
    rintro j v y ⟨x, u, hx, rfl⟩ ⟨c', t', u', _, e1, rfl⟩
    have : x = c' := by
      have := (Value.str.inj e1).1
      simpa using S_inj.mp this
    subst this
    exact ⟨_, u', by rw [List.getElem?_map, hx]; rfl, rfl⟩
theorem opJoin {D : Addr} {vs : List Value} {ls : List (List Nat)} {t : Tok} {Q : Value → Shared → Prop} (hl : s.heap.IsList D vs.toArray) (hv : Txts vs ls) (hw : (ls.map List.length).sum ≤ 2 ^ 20)
    (h : ∀ t' s', Keeps s s' → Q (.str (S ls.flatten) t') s') : wpAny (model pr w) A (call (.builtin "str.join") [.str (S []) t, .ref D]) Q E s := by
  refine PyProof.Rows.join_list hl (by simpa using strsAre_of hv) ?_ fun t' k => ?_
  · have e : ((ls.map S).map (·.length)).sum = (ls.map List.length).sum := by
      congr 1; rw [List.map_map]; exact List.map_congr_left fun l _ => S_len l
    rw [e]; show _ + _ * (S []).length ≤ _
    have : (S []).length = 0 := S_len []
    rw [this]; omega
  · have := h t' _ (kTok k)
    rw [← join_flat, ← txt_join] at this
    exact this
theorem callJoin {e1 : Expr} {k : Nat} {p1 apos pos : Pos} {Q : Value → Shared → Prop} (hs : starEach [e1] env = [(false, eval e1 env)]) (hline : (apos.endLine == pos.line) = true)
    (h : ∀ s' t, Keeps s s' → wpAny (model pr w) A (eval e1 env) (fun v s₁ => wpAny (model pr w) A (call (.builtin "str.join") [.str (S []) t, v]) Q E s₁) E s') :
    wpAny (model pr w) A (eval (.Call (.Attribute (.Constant (.str "") k p1) "join" apos) [e1] [] pos) env) Q E s := by
  refine PySem.Call_method1 rfl hs hline (Calls.Constant_str ?_)
  refine ⟨"str", "str.join", F.plainAttrs_str, F.slot_str_join, F.type_str_join, typeIs_str _ _ _, (fun _ q => nomatch q), ?_⟩
  exact Calls.callWith_builtin rfl (Calls.evalArgs_plain (Calls.spliced_cons (wpAny_mono (h { s with toks := s.toks + 1 } s.toks (kTok _)) (fun v s₁ h₁ => Calls.spliced_nil h₁) fun _ _ q => q)))
end
end Mine
end

section
open PySem PySem.W PyProof.Rows
set_option maxRecDepth 100000
namespace Mine
section
variable {w : World} {A : Around} {E : Value → Shared → Prop} {b s : Shared} {L : Addr} {m cm : Str → Option Value} {env : Env} {names : List (Str × NameKind)} {cs : List (Str × Addr)}
theorem swaps_is {elt iter : Expr} {x y : Str} {px py : Pos} {ifs : List Expr} {scope : Scope} {pos : Pos} {line : Nat} (e : EnvIs env L names cs) (hy : names.lookup y = some .local) (hline : (py.line == pos.line) = true) (hno : (scope.names.any fun z => z.1 == y && (z.2 == .local || z.2 == .cell)) = false) :
    swapsWith (.ListComp elt [⟨.Name x px, iter, ifs, 0⟩] scope pos) (some (.Name y py)) line env = pure true := by
  have h1 : env.blockKind = ScopeKind.function := by unfold Env.blockKind; rw [e.kind]; rfl
  have h2 : env.kindOf y = some .local := by unfold Env.kindOf; rw [e.names]; exact hy
  show (pure (env.blockKind == .function && env.kindOf y == some .local && py.line == pos.line && !(scope.names.any fun z => z.1 == y && (z.2 == .local || z.2 == .cell))) : Sem Bool) = _
  rw [h1, h2, hline, hno]; rfl
/-- a name gets a comprehension's list -/
theorem compA {elt iter : Expr} {x y : Str} {px py : Pos} {ifs : List Expr} {scope : Scope} {cl : List (Str × Addr)} {pos spos : Pos} {Q : Flow → Shared → Prop} (p : Value → Bool) (F : Value → Value → Prop) (n : Nat) (P : Nat → Value → Prop)
    (e : EnvIs env L names cs) (_R : RegC w b L m cs cm s) (hy : names.lookup y = some .local) (hline : (py.line == pos.line) = true) (hno : (scope.names.any fun z => z.1 == y && (z.2 == .local || z.2 == .cell)) = false)
    (hclos : closureFor scope env = pure cl) (hcell : (scope.names.all fun y => y.2 != .cell) = true) (hkind : scope.kind = .function)
    (hnames : (scope.names.all fun y => y.2 != .local || scope.names.lookup y.1 == some .local) = true) (hx : scope.names.lookup x = some .local) (hn : n ≤ 2 ^ 20)
    (h : wpAny (model pr w) A (eval iter env) (fun xv s₁ => Src w A xv n P s₁ ∧ RegC w b L m cs cm s₁ ∧
      (∀ i v cenv C m₃ s₃, P i v → InElt w (compNames scope names) cl x s₁ v cenv C m₃ s₃ →
        wpAny (model pr w) A (forIn ifs true fun c r => if r = true then do let ok ← isTrue c cenv (eval c cenv); pure (ForInStep.yield ok) else pure (ForInStep.yield r)) (fun ok s₄ => ok = p v ∧ Keeps s₃ s₄) (fun _ _ => False) s₃) ∧
      (∀ i v cenv C m₃ s₃, P i v → p v = true → InElt w (compNames scope names) cl x s₁ v cenv C m₃ s₃ → wpAny (model pr w) A (eval elt cenv) (fun y s₄ => F v y ∧ Keeps s₃ s₄) (fun _ _ => False) s₃) ∧
      (∀ D s' ys (vs : List Value), RegC w b L (fun z => if z = y then some (.ref D) else m z) cs cm s' → (∀ a o, a ≠ L → s₁.heap.get? a = some o → s'.heap.get? a = some o) → s₁.heap.get? D = none → s'.heap.IsList D ys → vs.length = n → (∀ j v, vs[j]? = some v → P j v) → Paired F (vs.filter p) ys.toList → Q .next s')) E s)
    (hs : ∀ x, foldedSetIterable iter env x = pure x := by intro _; rfl) :
    wpAny (model pr w) A (exec (.Assign [.Name y py] (.ListComp elt [⟨.Name x px, iter, ifs, 0⟩] scope pos) spos) env) Q E s := by
  have hcell' : ∀ y ∈ scope.names, y.2 ≠ .cell := fun y hy q => by have := List.all_eq_true.mp hcell y hy; rw [q] at this; cases this
  have hnames' : ∀ y ∈ scope.names, y.2 = .local → scope.names.lookup y.1 = some .local := fun y hy q => by
    have := List.all_eq_true.mp hnames y hy; rw [q] at this; simpa using this
  refine wpAny_Assign_ListComp_free p F (swaps_is e hy hline hno) hclos hcell' hkind hnames' hx (by unfold Env.kindOf; rw [e.names]; exact hy) (by rw [e.kind]; rfl) (wpAny_mono h (fun xv s₁ h₁ => ?_) fun _ _ q => q) hs
  obtain ⟨hsrc, R, ht, he, hQ⟩ := h₁
  refine hsrc _ _ fun I fp St s₂ W k₂ tk₂ hI hst hfp => ⟨I, fp, [I], n, P, St, m, rfl, W, by rw [sizeLine_eq]; omega, hst, hfp, ?_, ?_, ⟨?_, ?_⟩, ?_⟩
  · rw [e.locals]
    intro z
    have z' : L = I := List.mem_singleton.mp z
    obtain ⟨o, es, nn, ho, _⟩ := R.ns
    rw [z', hI] at ho; cases ho
  · rw [e.locals]; exact R.ns.keeps (kAll k₂)
  · intro C i v s₃ m₃ E' _ hP hns hm hk htk
    exact noErr (ht i v (compEnvC scope cl C env) C m₃ s₃ hP ⟨compEnv_is e hkind, hns, hm, fun b o q => hk b o (fun z => by rw [List.mem_singleton.mp z, hI] at q; cases q) (kGet k₂ q), Nat.le_trans tk₂ htk⟩)
  · intro C i v s₃ m₃ E' _ hP hp hns hm hk htk
    exact noErr (he i v (compEnvC scope cl C env) C m₃ s₃ hP hp ⟨compEnv_is e hkind, hns, hm, fun b o q => hk b o (fun z => by rw [List.mem_singleton.mp z, hI] at q; cases q) (kGet k₂ q), Nat.le_trans tk₂ htk⟩)
  · intro D h' tk ys vs hD hl _ hlen hP hF hns' hk
    rw [e.locals] at hns' hk
    have up : ∀ a o, a ≠ L → s₁.heap.get? a = some o → h'.get? a = some o := fun a o ha q => hk a o ha (fun z => by rw [List.mem_singleton.mp z, hI] at q; cases q) (kGet k₂ q)
    refine hQ D _ ys vs ⟨⟨?_, hns', fun a o ha q => up a o (fun z => ha (z ▸ R.reg.inX)) (R.reg.keep a o ha q), R.reg.inX, R.reg.hb, R.reg.free⟩, fun nm c hc => let ⟨o, ho, hd⟩ := R.cell nm c hc; ⟨o, up c o (R.notL nm c (mem_of_lookup hc)) ho, hd⟩, R.apart, R.notL⟩ up ?_ hl hlen hP hF
    · obtain ⟨h2, t2, e2, _⟩ := k₂
      obtain ⟨h1, t1, e1⟩ := R.reg.same
      exact ⟨h', tk, by rw [e2, e1]⟩
    · cases q : s₁.heap.get? D with
      | none => rfl
      | some o => rw [kGet k₂ q] at hD; cases hD
theorem opAddS {l k : List Nat} {t u : Tok} {Q : Value → Shared → Prop} (hl : l.length ≤ 2 ^ 19) (hk : k.length ≤ 2 ^ 19) (h : ∀ s' t', Keeps s s' → Q (.str (S (l ++ k)) t') s') : wpAny (model pr w) A (binaryOp .Add (.str (S l) t) (.str (S k) u)) Q E s := by
  refine PyProof.Rows.add_str (fun t' tk => ?_) (by rw [S_len, S_len, sizeLine_eq]; omega)
  rw [S_append]; exact h _ _ (kTok tk)
end
end Mine
end

section
open PySem PySem.W PyProof.Rows
set_option maxRecDepth 100000
namespace Mine
theorem smT {s s' s'' : Shared} (x : ∃ h tk, s' = { s with heap := h, toks := tk }) (y : ∃ h tk, s'' = { s' with heap := h, toks := tk }) : ∃ h tk, s'' = { s with heap := h, toks := tk } := by
  obtain ⟨h, t, rfl⟩ := x; obtain ⟨h', t', rfl⟩ := y; exact ⟨h', t', rfl⟩
theorem smK {s s' : Shared} (x : Keeps s s') : ∃ h tk, s' = { s with heap := h, toks := tk } := let ⟨h, t, e, _⟩ := x; ⟨h, t, e⟩
/-- without what was there before -/
def addD (acc : List (List Nat)) (x : List Nat) : List (List Nat) := if acc.contains x then acc else acc ++ [x]
def dd (l : List (List Nat)) : List (List Nat) := l.foldl addD []
theorem dd_snoc (l : List (List Nat)) (x : List Nat) : dd (l ++ [x]) = addD (dd l) x := by unfold dd; rw [List.foldl_append]; rfl
/-- the nonempty beginnings of a text -/
def begs1 (l : List Nat) : List (List Nat) := (List.range l.length).map fun k => l.take (k + 1)
def begs (ls : List (List Nat)) : List (List Nat) := ls.flatMap begs1
theorem begs1_len (l : List Nat) : (begs1 l).length = l.length := by simp [begs1]
theorem begs1_at (l : List Nat) {i : Nat} (hi : i < l.length) : (begs1 l)[i]? = some (l.take (i + 1)) := by simp [begs1, hi]
theorem compTurn_set1 (elt iter iter' : Expr) (x y : Str) (px py : Pos) (scope : Scope) (pos : Pos) (it acc : Value) (env : Env) :
    compTurn (.SetComp elt [⟨.Name x px, iter, [], 0⟩, ⟨.Name y py, iter', [], 0⟩] scope pos) 1 it acc env = (standAt iter'.pos >>= fun _ => pyNext it >>= fun r => match r with
      | none => pure (.done .next)
      | some v => letOwnedTupleGo (.Name y py) it v >>= fun _ => assign (.Name y py) env v >>= fun _ =>
        (eval elt env >>= fun v => standAt elt.pos >>= fun _ => call (.builtin "set.add") [acc, v] >>= fun _ => pure ()) >>= fun _ =>
          again (.compLoop (.SetComp elt [⟨.Name x px, iter, [], 0⟩, ⟨.Name y py, iter', [], 0⟩] scope pos) 1 it acc env)) := by rfl
theorem compTurn_set0 (elt iter iter' : Expr) (x y : Str) (px py : Pos) (scope : Scope) (pos : Pos) (it acc : Value) (env : Env) :
    compTurn (.SetComp elt [⟨.Name x px, iter, [], 0⟩, ⟨.Name y py, iter', [], 0⟩] scope pos) 0 it acc env = (standAt iter.pos >>= fun _ => pyNext it >>= fun r => match r with
      | none => pure (.done .next)
      | some v => letOwnedTupleGo (.Name x px) it v >>= fun _ => assign (.Name x px) env v >>= fun _ =>
        eval iter' env >>= fun x' => standAt iter'.pos >>= fun _ => foldedSetIterable iter' env x' >>= fun x' => holding [x'] (pyIter x') >>= fun it' =>
        runOwn (.compStart (.SetComp elt [⟨.Name x px, iter, [], 0⟩, ⟨.Name y py, iter', [], 0⟩] scope pos) 1 it' acc env) env >>= fun _ =>
          again (.compLoop (.SetComp elt [⟨.Name x px, iter, [], 0⟩, ⟨.Name y py, iter', [], 0⟩] scope pos) 0 it acc env)) := by rfl
section
variable {w : World} {A : Around} {E : Value → Shared → Prop} {s : Shared} {R : Result → Shared → Prop}
theorem compStart_set {elt iter iter' : Expr} {x y : Str} {px py : Pos} {scope : Scope} {pos : Pos} {it acc : Value} {env : Env} {d : Nat} (hd : d = 0 ∨ d = 1)
    (h0 : codeAny (model pr w) A (.compLoop (.SetComp elt [⟨.Name x px, iter, [], 0⟩, ⟨.Name y py, iter', [], 0⟩] scope pos) d it acc env) R s)
    (h : wpAny (model pr w) A (pyIter it) (fun it' s' => codeAny (model pr w) A (.compLoop (.SetComp elt [⟨.Name x px, iter, [], 0⟩, ⟨.Name y py, iter', [], 0⟩] scope pos) d it' acc env) R s')
      (notedBy (model pr w) A env fun x s' => R (.error x) s') s) :
    codeAny (model pr w) A (.compStart (.SetComp elt [⟨.Name x px, iter, [], 0⟩, ⟨.Name y py, iter', [], 0⟩] scope pos) d it acc env) R s := by
  refine codeAny_of_tree ?_
  show wpAny _ A ((compStart (.SetComp elt [⟨.Name x px, iter, [], 0⟩, ⟨.Name y py, iter', [], 0⟩] scope pos) d it acc env).onRaise (fun x => do noteFrame x env; standAt theWindowsPlace)) _ _ s
  refine wpAny_notedAt ?_
  unfold compStart
  rcases hd with rfl | rfl
  all_goals
    show wpAny _ A (ask >>= _) _ _ s
    refine wpAny_bind (wpAny_askSetting (wpAny_ite ?_))
    split
    · first
        | exact wpAny_bind (wpAny_pure (wpAny_pure (And.intro rfl h0)))
        | exact wpAny_pure (And.intro rfl h0)
    · first
        | exact wpAny_bind (wpAny_rule (wpAny_bind (wpAny_standAt (wpAny_bind (wpAny_mono h (fun it' s' h' => wpAny_pure (And.intro rfl h')) fun _ _ x => x)))))
        | (refine wpAny_bind (wpAny_rule ?_); show wpAny _ _ (standAt _ >>= _) _ _ s; exact wpAny_bind (wpAny_standAt (wpAny_bind (wpAny_mono h (fun it' s' h' => wpAny_pure (And.intro rfl h')) fun _ _ x => x))))
end
end Mine
end

section
open PySem PySem.W PyProof.Rows
set_option maxRecDepth 100000
namespace Mine
section
variable {w : World} {A : Around} {E : Value → Shared → Prop} {s : Shared} {env : Env}
/-- a for over what a list's iterator has left -/
theorem forLoopR {x : Str} {px : Pos} {body : List Stmt} {I a : Addr} {vs : List Value} {R : Result → Shared → Prop} (J : Nat → Shared → Prop) (haI : a ≠ I) (hA : A.handled = none)
    (hJ : ∀ i s, J i s → s.heap.IsListIter I a i ∧ s.heap.IsList a vs.toArray)
    (turn : ∀ i v s h' tk, vs[i]? = some v → J i s → h'.IsListIter I a (i + 1) → (∀ b o, b ≠ I → s.heap.get? b = some o → h'.get? b = some o) →
      wpAny (model pr w) A (storeName env x v) (fun _ s₂ => wpAny (model pr w) A (execs body env) (fun f s₃ => f = .next ∧ J (i + 1) s₃) (fun _ _ => False) s₂) (fun _ _ => False) { s with heap := h', toks := tk })
    (fin : ∀ s h' tk, J vs.length s → (∀ b o, b ≠ I → s.heap.get? b = some o → h'.get? b = some o) → R (.ok .next) { s with heap := h', toks := tk }) (i₀ : Nat) (h₀ : i₀ ≤ vs.length) (h : J i₀ s) :
    codeAny (model pr w) A (.forLoop (.Name x px) (.ref I) body [] env) R s := by
  have W := Walks.list (prog := pr) (w := w) (A := A) hA I a haI vs.toArray
  have hsz : vs.toArray.size = vs.length := List.size_toArray ..
  refine codeAny_forLoop (fun n s => ∃ i, n = vs.length + 1 - i ∧ i ≤ vs.length ∧ J i s) (fun n s hI => ?_) _ ⟨i₀, rfl, h₀, h⟩
  obtain ⟨i, rfl, hi, hj⟩ := hI
  obtain ⟨it, hl⟩ := hJ i s hj
  by_cases hlt : i < vs.length
  · refine W.item i _ _ _ (by rw [hsz]; exact hlt) ⟨it, hl⟩ fun v h' tk hP hst hk => ?_
    refine wpAny_assign_Name (noErr (wpAny_mono (turn i v s h' tk (by simpa using hP) hj hst.1 fun b o hb q => hk b o (by simpa using hb) q) (fun _ s₂ h₂ => noErr (wpAny_mono h₂ (fun f s₃ h₃ => ?_) fun _ _ q => q)) fun _ _ q => q))
    obtain ⟨rfl, hj'⟩ := h₃
    exact ⟨vs.length + 1 - (i + 1), by omega, i + 1, rfl, hlt, hj'⟩
  · have hil : i = vs.length := by omega
    subst hil
    refine W.done _ _ _ ⟨by rw [hsz]; exact it, hl⟩ fun h' tk hk => wpAny_execs_nil ?_
    exact fin s h' tk hj fun b o hb q => hk b o (by simpa using hb) q
/-- for x in l, l a list -/
theorem forR {x : Str} {px pos : Pos} {iter : Expr} {body : List Stmt} {a : Addr} {vs : List Value} {Q : Flow → Shared → Prop} (J : Addr → Nat → Shared → Prop) (hA : A.handled = none)
    (hJ : ∀ I i s, J I i s → s.heap.IsListIter I a i ∧ s.heap.IsList a vs.toArray)
    (h : wpAny (model pr w) A (eval iter env) (fun v s₁ => v = .ref a ∧ s₁.heap.IsList a vs.toArray ∧ ∀ I s₂, Keeps s₁ s₂ → s₁.heap.get? I = none → s₂.heap.IsListIter I a 0 → J I 0 s₂) E s)
    (turn : ∀ I i v s h' tk, a ≠ I → vs[i]? = some v → J I i s → h'.IsListIter I a (i + 1) → (∀ b o, b ≠ I → s.heap.get? b = some o → h'.get? b = some o) →
      wpAny (model pr w) A (storeName env x v) (fun _ s₂ => wpAny (model pr w) A (execs body env) (fun f s₃ => f = .next ∧ J I (i + 1) s₃) (fun _ _ => False) s₂) (fun _ _ => False) { s with heap := h', toks := tk })
    (fin : ∀ I s h' tk, J I vs.length s → (∀ b o, b ≠ I → s.heap.get? b = some o → h'.get? b = some o) → Q .next { s with heap := h', toks := tk })
    (hs : ∀ x, foldedSetIterable iter env x = pure x := by intro _; rfl) : wpAny (model pr w) A (exec (.For (.Name x px) iter body [] pos) env) Q E s := by
  refine wpAny_For (wpAny_mono h (fun v s₁ h₁ => ?_) fun _ _ q => q) hs
  obtain ⟨rfl, hl, h0⟩ := h₁
  have haI : a ≠ s₁.heap.objs.size := let ⟨_, ho, _⟩ := hl; Nat.ne_of_lt (Heap.lt_size ho)
  refine wpAny_pyIter_list hl ?_
  have := h0 s₁.heap.objs.size { s₁ with heap := s₁.heap.push { cls := .type "list_iterator", data := .fields #[.ref a, .int 0 0] } } (kPushH _) (size_none _) ⟨_, Heap.get?_push_size _ rfl, rfl, rfl⟩
  exact forLoopR (J s₁.heap.objs.size) haI hA (hJ _) (fun i v s h' tk q1 q2 q3 q4 => turn _ i v s h' tk haI q1 q2 q3 q4) (fun s h' tk q1 q2 => fin _ s h' tk q1 q2) 0 (Nat.zero_le _) this
end
end Mine
end

section
open PySem PySem.W PyProof.Rows
set_option maxRecDepth 100000
namespace Mine
/-- one number's turn -/
def stepT (ts : List (List Nat)) (x : Int) : List (List Nat) :=
  if x % 3 = 0 ∧ ts.length < 6 then ts ++ [(ts.getLast?.getD []).take ((x / 3) % (((ts.getLast?.getD []).length : Int) + 1)).toNat]
  else ts.dropLast ++ [ts.getLast?.getD [] ++ [signs.getD ((x / 3) % 13).toNat 0]]
def textsOf (ns : List Int) : List (List Nat) := ns.foldl stepT [[]]
/-- what holds of the texts behind n numbers -/
structure OkT (n : Nat) (ts : List (List Nat)) : Prop where
  pos : 1 ≤ ts.length
  le : ts.length ≤ 6
  sig : ∀ l ∈ ts, ∀ c ∈ l, c ∈ signs
  len : ∀ l ∈ ts, l.length ≤ n
theorem sign_at (i : Int) : signs.getD ((i % 13).toNat) 0 ∈ signs := by
  have h : (i % 13).toNat < 13 := by have := Int.emod_lt_of_pos i (show (0 : Int) < 13 by decide); have := Int.emod_nonneg i (show (13 : Int) ≠ 0 by decide); omega
  have : ∀ n < 13, signs.getD n 0 ∈ signs := by decide
  exact this _ h
theorem last_mem {ts : List (List Nat)} (h : 1 ≤ ts.length) : ts.getLast?.getD [] ∈ ts := by
  cases ts with
  | nil => simp at h
  | cons a r => rw [List.getLast?_eq_some_getLast (by simp)]; exact List.getLast_mem _
theorem OkT.step {n : Nat} {ts : List (List Nat)} (h : OkT n ts) (x : Int) : OkT (n + 1) (stepT ts x) := by
  have hm := last_mem h.pos
  unfold stepT
  by_cases c : x % 3 = 0 ∧ ts.length < 6
  · rw [if_pos c]
    refine ⟨by simp, by simp; omega, fun l hl => ?_, fun l hl => ?_⟩
    · rcases List.mem_append.mp hl with q | q
      · exact h.sig l q
      · rw [List.mem_singleton.mp q]; exact fun d hd => h.sig _ hm d (List.mem_of_mem_take hd)
    · rcases List.mem_append.mp hl with q | q
      · exact Nat.le_succ_of_le (h.len l q)
      · rw [List.mem_singleton.mp q, List.length_take]
        have := h.len _ hm; omega
  · rw [if_neg c]
    have hp := h.pos
    have hle := h.le
    refine ⟨by simp, by simp; omega, fun l hl => ?_, fun l hl => ?_⟩
    · rcases List.mem_append.mp hl with q | q
      · exact h.sig l (List.dropLast_subset ts q)
      · rw [List.mem_singleton.mp q]
        intro d hd
        rcases List.mem_append.mp hd with z | z
        · exact h.sig _ hm d z
        · rw [List.mem_singleton.mp z]; exact sign_at _
    · rcases List.mem_append.mp hl with q | q
      · exact Nat.le_succ_of_le (h.len l (List.dropLast_subset ts q))
      · rw [List.mem_singleton.mp q, List.length_append]
        have := h.len _ hm
        simp; omega
theorem OkT.fold : ∀ (ns : List Int) {n : Nat} {ts : List (List Nat)}, OkT n ts → OkT (n + ns.length) (ns.foldl stepT ts)
  | [], _, _, h => h
  | x :: ns, n, ts, h => by
    have := OkT.fold ns (h.step x)
    rw [List.foldl_cons, List.length_cons, show n + (ns.length + 1) = n + 1 + ns.length by omega]; exact this
theorem OkT.start : OkT 0 [[]] := ⟨by simp, by simp, fun l hl c hc => by simp at hl; subst hl; simp at hc, fun l hl => by simp at hl; subst hl; simp⟩
theorem stepT_len {ts : List (List Nat)} (h : 1 ≤ ts.length) (x : Int) : (stepT ts x).length = if x % 3 = 0 ∧ ts.length < 6 then ts.length + 1 else ts.length := by
  unfold stepT
  split
  · simp
  · simp; omega
abbrev tailN : List Int := [22, 1, 3, 4, 3, 13, 3, 16, 3, 1, 28]
theorem tail_len {ts : List (List Nat)} (h1 : 1 ≤ ts.length) (h6 : ts.length ≤ 6) : 5 ≤ (tailN.foldl stepT ts).length := by
  have step : ∀ (x : Int) {u : List (List Nat)} (m : Nat), 1 ≤ m → m ≤ u.length → m ≤ (stepT u x).length := fun x u m h0 hm => by
    rw [stepT_len (by omega)]; split <;> omega
  have up : ∀ {u : List (List Nat)} (m : Nat), 1 ≤ m → m ≤ u.length → m + 1 ≤ 6 → m + 1 ≤ (stepT u 3).length := fun {u} m h0 hm h5 => by
    rw [stepT_len (by omega)]
    by_cases c : u.length < 6
    · rw [if_pos ⟨by decide, c⟩]; omega
    · rw [if_neg (fun z => c z.2)]; omega
  simp only [List.foldl_cons, List.foldl_nil]
  exact step 28 5 (by omega) (step 1 5 (by omega) (up 4 (by omega) (step 16 4 (by omega) (up 3 (by omega) (step 13 3 (by omega) (up 2 (by omega) (step 4 2 (by omega) (up 1 (by omega) (step 1 1 (by omega) (step 22 1 (by omega) h1)) (by omega))) (by omega))) (by omega))) (by omega)))
def Two (ts : List (List Nat)) : Prop := ∃ l ∈ ts, 2 ≤ l.length
theorem Two.step {ts : List (List Nat)} (h1 : 1 ≤ ts.length) (h : Two ts) (x : Int) : Two (stepT ts x) := by
  obtain ⟨l, hl, h2⟩ := h
  unfold stepT
  split
  · exact ⟨l, List.mem_append_left _ hl, h2⟩
  · have hne : ts ≠ [] := fun q => by rw [q] at h1; simp at h1
    rw [← List.dropLast_concat_getLast hne] at hl
    rcases List.mem_append.mp hl with q | q
    · exact ⟨l, List.mem_append_left _ q, h2⟩
    · have e : l = ts.getLast hne := List.mem_singleton.mp q
      refine ⟨_, List.mem_append_right _ (List.mem_singleton.mpr rfl), ?_⟩
      rw [List.getLast?_eq_some_getLast hne, Option.getD_some, ← e, List.length_append]; simp; omega
theorem tail_two {ts : List (List Nat)} (h1 : 1 ≤ ts.length) : Two (tailN.foldl stepT ts) := by
  have l1 : ∀ (x : Int) {u : List (List Nat)}, 1 ≤ u.length → 1 ≤ (stepT u x).length := fun x u h => by rw [stepT_len h]; split <;> omega
  have grow : ∀ (x : Int) {u : List (List Nat)}, ¬ x % 3 = 0 → stepT u x = u.dropLast ++ [u.getLast?.getD [] ++ [signs.getD ((x / 3) % 13).toNat 0]] := fun x u h => by unfold stepT; rw [if_neg (fun z => h z.1)]
  have two : Two (stepT (stepT ts 22) 1) := by
    refine ⟨(stepT ts 22).getLast?.getD [] ++ [signs.getD (((1 : Int) / 3) % 13).toNat 0], by rw [grow 1 (by decide)]; simp, ?_⟩
    rw [grow 22 (by decide)]
    simp
  simp only [List.foldl_cons, List.foldl_nil]
  have a2 : 1 ≤ (stepT (stepT ts 22) 1).length := l1 1 (l1 22 h1)
  have a3 := l1 3 a2
  have a4 := l1 4 a3
  have a5 := l1 3 a4
  have a6 := l1 13 a5
  have a7 := l1 3 a6
  have a8 := l1 16 a7
  have a9 := l1 3 a8
  have a10 := l1 1 a9
  exact ((((((((two.step a2 3).step a3 4).step a4 3).step a5 13).step a6 3).step a7 16).step a8 3).step a9 1).step a10 28
end Mine
end

section
open PySem PySem.W PyProof.Rows
set_option maxRecDepth 100000
namespace Mine
abbrev liO (xs : Array Value) (n : Nat) : Obj := seqObj "list" xs n
section
variable {w : World} {A : Around} {E : Value → Shared → Prop} {s : Shared}
theorem opAppend {D : Addr} {xs : Array Value} {n : Nat} {v : Value} {Q : Value → Shared → Prop} (hD : s.heap.get? D = some (liO xs n)) (hz : xs.size ≤ 1000)
    (h : ∀ s' n', (∃ hh, s' = { s with heap := hh }) → (∀ b o, b ≠ D → s.heap.get? b = some o → s'.heap.get? b = some o) → s'.heap.get? D = some (liO (xs.push v) n') → Q .none s') :
    wpAny (model pr w) A (call (.builtin "list.append") [.ref D, v]) Q E s := by
  refine wpAny_call_entry PySem.slot_list_append ⟨_, hD, rfl⟩ PySem.entry_list_append ?_ (PySem.args_list_append _ _)
  show wpAny _ _ (Builtin.List.listUpdate (.ref D) (·.push v) >>= _) _ _ _
  refine wpAny_bind (listUpdate_at hD rfl ?_ (by rw [sizeLine_eq]; omega) (by show (xs.push v).size ≤ _; rw [Array.size_push, sizeLine_eq]; omega))
  refine wpAny_pure ⟨_, rfl, h _ _ ⟨_, rfl⟩ (fun b o hb q => Heap.get?_update_of_ne _ (Ne.symm hb) q) (get?_update_seq hD (·.push v))⟩
theorem opDivmod {a : Int} {t u : Tok} {Q : Value → Shared → Prop}
    (h : ∀ T s' t1 t2, Keeps s s' → s.heap.get? T = none → s'.heap.get? T = some { cls := .type "tuple", data := .seq #[.int (a / 3) t1, .int (a % 3) t2] } → Q (.ref T) s') :
    wpAny (model pr w) A (call (.builtin "divmod") [.int a t, .int 3 u]) Q E s := by
  refine divmod_int (by decide) ?_ (.inl (PyProof.noPylong_of_log2 (by decide +kernel)))
  have e1 : a.fdiv 3 = a / 3 := Int.fdiv_eq_ediv_of_nonneg a (by decide)
  have e2 : a.fmod 3 = a % 3 := Int.fmod_eq_emod_of_nonneg a (by decide)
  rw [e1, e2]
  exact h _ _ _ _ (kPush _ _) (size_none _) (Heap.get?_push_size _ rfl)
theorem opPop {D : Addr} {xs : List Value} {v : Value} {n : Nat} {Q : Value → Shared → Prop} (hD : s.heap.get? D = some (liO (xs ++ [v]).toArray n)) (hz : xs.length ≤ 1000)
    (h : ∀ s' n', (∃ hh, s' = { s with heap := hh }) → (∀ b o, b ≠ D → s.heap.get? b = some o → s'.heap.get? b = some o) → s'.heap.get? D = some (liO xs.toArray n') → Q v s') :
    wpAny (model pr w) A (call (.builtin "list.pop") [.ref D]) Q E s := by
  refine wpAny_call_entry F.slot_list_pop ⟨_, hD, rfl⟩ F.entry_list_pop ?_ (F.args_list_pop_1 _)
  show wpAny _ _ (Builtin.List.listItems (.ref D) >>= _) _ _ _
  refine wpAny_bind (listItems_at hD rfl ?_)
  have e1 : ((xs ++ [v]).toArray).isEmpty = false := by simp
  have e2 : seqIndex? (-1) (xs ++ [v]).toArray.size = some xs.length := by
    unfold seqIndex?
    simp; omega
  have e3 : (seqIndex? (-1) (xs ++ [v]).toArray.size).bind (fun k => (xs ++ [v]).toArray[k]?.map (k, ·)) = some (xs.length, v) := by rw [e2]; simp
  rw [e1, e3]
  simp only [Bool.false_eq_true, if_false]
  have e5 : (xs ++ [v]).eraseIdx xs.length = xs := by rw [List.eraseIdx_append_of_length_le (Nat.le_refl _)]; simp
  have e4 : ((xs ++ [v]).toArray).eraseIdxIfInBounds xs.length = xs.toArray := by
    simp [Array.eraseIdxIfInBounds, e5]
  refine wpAny_bind (listUpdate_at hD rfl ?_ (by simp [sizeLine_eq]; omega) (by rw [e4]; simp [sizeLine_eq]; omega))
  have hg := get?_update_seq hD (·.eraseIdxIfInBounds xs.length)
  rw [e4] at hg
  exact wpAny_pure ⟨_, rfl, h _ _ ⟨_, rfl⟩ (fun b o hb q => Heap.get?_update_of_ne _ (Ne.symm hb) q) hg⟩
end
end Mine
end

section
open PySem PySem.W PyProof.Rows
set_option maxRecDepth 100000
namespace Mine
theorem gl_divmod (w : World) : gl w "divmod" = none := by kernel_rfl
theorem bl_divmod (w : World) : bl w "divmod" = some (.builtin "divmod") := by kernel_rfl
theorem gl_texts (w : World) : gl w "_law_texts" = some (.ref 79) := by kernel_rfl
theorem fnTexts (w : World) : FnK w 79 := ⟨⟨_, _, rfl, rfl⟩, by decide, by decide⟩
theorem inter {env : Env} {L : Addr} {names : List (Str × NameKind)} {cs : List (Str × Addr)} (e : EnvIs env L names cs) : interactive env = false := by
  unfold interactive; rw [e.kind]; rfl
/-- values that are these ints -/
abbrev Ints (vs : List Value) (ns : List Int) : Prop := IntsAre vs ns
theorem ints_at : ∀ {vs : List Value} {ns : List Int}, IntsAre vs ns → ∀ {i : Nat} {v : Value}, vs[i]? = some v → ∃ x t, ns[i]? = some x ∧ v = .int x t
  | _, _, .nil, i, v, e => by simp at e
  | _, _, .cons n t r, 0, v, e => by simp at e; subst e; exact ⟨n, t, rfl, rfl⟩
  | _, _, .cons _ _ r, i + 1, v, e => by rw [List.getElem?_cons_succ] at e ⊢; exact ints_at r e
theorem Reg.but {w : World} {X : List Addr} {b s : Shared} {L I : Addr} {m : Str → Option Value} (x : Reg w X b L m s) (hI : I ∈ X) (hIL : I ≠ L) {h' : Heap} {tk : Nat} (k : ∀ b o, b ≠ I → s.heap.get? b = some o → h'.get? b = some o) : Reg w X b L m { s with heap := h', toks := tk } := by
  refine ⟨?_, x.ns.at' fun o q => k L o (Ne.symm hIL) q, fun a o ha q => k a o (fun z => ha (z ▸ hI)) (x.keep a o ha q), x.inX, x.hb, x.free⟩
  obtain ⟨h, t, e⟩ := x.same
  exact ⟨h', tk, by rw [e]⟩
theorem Reg.wide {w : World} {X Y : List Addr} {b s : Shared} {L : Addr} {m : Str → Option Value} (x : Reg w X b L m s) (h : ∀ a ∈ X, a ∈ Y) (hf : ∀ a ∈ Y, Free w a) : Reg w Y b L m s :=
  ⟨x.same, x.ns, fun a o ha q => x.keep a o (fun z => ha (h a z)) q, h _ x.inX, x.hb, hf⟩
theorem txts_app1 {vs : List Value} {ls : List (List Nat)} {x : List Nat} {t : Tok} (hv : Txts vs ls) : Txts (vs ++ [.str (S x) t]) (ls ++ [x]) := by
  induction hv with
  | nil => exact .cons ⟨t, rfl⟩ .nil
  | cons h _ ih => exact .cons h ih
theorem txts_last : ∀ {us : List Value} {ts : List (List Nat)}, Txts us ts → 1 ≤ ts.length → ∃ us' t, us = us' ++ [.str (S (ts.getLast?.getD [])) t] ∧ Txts us' ts.dropLast
  | _, _, .nil, h => by simp at h
  | _, _, .cons ⟨t, e⟩ .nil, _ => ⟨[], t, by rw [e]; rfl, .nil⟩
  | v :: _, _ :: _, .cons h (.cons h' r), _ => by
    obtain ⟨us', t, e1, e2⟩ := txts_last (.cons h' r) (by simp)
    refine ⟨v :: us', t, by rw [e1, List.getLast?_cons_cons, List.cons_append], ?_⟩
    rw [List.dropLast_cons_cons]
    exact .cons h e2
section
variable {w : World} {A : Around} {E : Value → Shared → Prop} {s : Shared} {L : Addr} {m : Str → Option Value} {env : Env} {names : List (Str × NameKind)} {cells : List (Str × Addr)}
theorem lastT {D : Addr} {us : List Value} {v : Value} {n k : Nat} {p p2 p3 p4 : Pos} {Q : Value → Shared → Prop} (x : s.heap.Ns L m) (e : EnvIs env L names cells) (hn : names.lookup (Str.ofString "texts") = some .local) (hv : m "texts" = some (.ref D)) (hD : s.heap.get? D = some (liO (us ++ [v]).toArray n)) (hz : us.length ≤ 1000)
    (h : ∀ s', Keeps s s' → Q v s') : wpAny (model pr w) A (eval (.Subscript (.Name "texts" p) (.UnaryOp .USub (.Constant (.int 1) k p2) p3) p4) env) Q E s := by
  refine Subscript_ (nmL x e hn hv (wpAny_UnaryOp (cInt fun s₁ t₁ k₁ => PyProof.Rows.neg_int ?_)))
  have k2 : Keeps s { s₁ with toks := s₁.toks + 1 } := kTrans k₁ (kTok _)
  have hl : ({ s₁ with toks := s₁.toks + 1 } : Shared).heap.IsList D (us ++ [v]).toArray := ⟨_, kGet k2 hD, rfl, _, rfl⟩
  refine subscriptTail_builtin hl.typeIs PySem.slot_list_getitem.lookup (wpAny_getItem_list_neg hl (by decide) (by simp; omega) (by decide) (x := v) ?_ (h _ k2)) (by with_unfolding_all rfl) (by intro _; with_unfolding_all rfl)
  have : (-1 + (((us ++ [v]).toArray.size : Nat) : Int)).toNat = us.length := by simp; omega
  rw [this]; simp
theorem lenD {D : Addr} {us : List Value} {n : Nat} {Q : Value → Shared → Prop} (hD : s.heap.get? D = some (liO us.toArray n)) (hz : us.length ≤ 1000) (h : ∀ s' t, Keeps s s' → Q (.int us.length t) s') : wpAny (model pr w) A (call (.builtin "len") [.ref D]) Q E s := by
  refine PyProof.Rows.len_list (items := us.toArray) ⟨_, hD, rfl, _, rfl⟩ (by simp; omega) ?_
  have : (us.toArray.size : Int) = us.length := by simp
  rw [this]; exact h _ _ (kTok _)
theorem opMod {a b : Int} {t u : Tok} {Q : Value → Shared → Prop} (hb : 0 < b) (h : ∀ s' t', Keeps s s' → Q (.int (a % b) t') s') : wpAny (model pr w) A (binaryOp .Mod (.int a t) (.int b u)) Q E s := by
  refine PyProof.Rows.mod_int (by omega) ?_
  rw [Int.fmod_eq_emod_of_nonneg a (by omega)]
  exact h _ _ (kTok _)
end
/-- between the turns -/
def JTexts (w : World) (s : Shared) (L D I a : Addr) (vs : List Value) (ns : List Int) (i : Nat) (s' : Shared) : Prop :=
  ∃ m' us n, Reg w [L, D, I] s L m' s' ∧ m' "texts" = some (.ref D) ∧ s'.heap.get? D = some (liO us.toArray n) ∧ Txts us ((ns.take i).foldl stepT [[]]) ∧ s'.heap.IsListIter I a i ∧ s'.heap.IsList a vs.toArray ∧ I ≠ L ∧ I ≠ D ∧ s.heap.get? I = none
def PTexts (s : Shared) (ns : List Int) (v : Value) (s' : Shared) : Prop := ∃ D us n, v = .ref D ∧ s.heap.get? D = none ∧ s'.heap.get? D = some (liO us.toArray n) ∧ Txts us (textsOf ns)
set_option maxHeartbeats 1000000 in
theorem texts_spec (w : World) {s : Shared} (H : Has w s.heap) {a : Addr} {vs : List Value} {ns : List Int} (hl : s.heap.IsList a vs.toArray) (hv : IntsAre vs ns) (hn : ns.length ≤ 100) :
    codeAny (model pr w) (Aw 390 3900) (.call (.ref 79) ⟨[.ref a], []⟩) (Post s (PTexts s ns)) s := by
  refine enter [("numbers", .local), ("texts", .local), ("x", .local), ("q", .local), ("kind", .local), ("divmod", .globalImplicit), ("len", .globalImplicit)] [("numbers", .ref a)] H (by decide) (by decide) rfl (by kernel_rfl) (by intro e; cases e) (by intro e; cases e) rfl rfl (by kernel_rfl) (by kernel_rfl) rfl rfl rfl rfl rfl (by decide) (by kernel_rfl) rfl ?_
  intro Q L env s₁ fin e R hL _
  have h1 : (fun n => List.lookup n [(Str.ofString "numbers", Value.ref a)].reverse) "numbers" = some (.ref a) := rfl
  generalize (fun n => List.lookup n [(Str.ofString "numbers", Value.ref a)].reverse) = m at R h1
  have kp : ∀ b o, s.heap.get? b = some o → s₁.heap.get? b = some o := fun b o q => R.keep b o (fun z => by rw [List.mem_singleton.mp z, hL] at q; cases q) q
  have hlv := hv.length
  have hs0 : ∀ (pos : Pos) (e1 : Expr) {Q' : Value → Shared → Prop} {E' : Value → Shared → Prop} {s' : Shared}, backTo pos (starEach [e1] env) = [(false, eval e1 env)] → wpAny (model pr w) (Aw (390 + 1) (3900 + 3)) (eval e1 env) (fun v s₁ => wpAny (model pr w) (Aw (390 + 1) (3900 + 3)) (newList [v]) Q' E' s₁) E' s' → wpAny (model pr w) (Aw (390 + 1) (3900 + 3)) (eval (.List [e1] pos) env) Q' E' s' := fun pos e1 Q' E' s' hs h => by
    refine List_ ?_
    rw [hs]
    exact Calls.spliced_cons (wpAny_mono h (fun v s₁ h₁ => Calls.spliced_nil h₁) fun _ _ e => e)
  refine wpAny_execs_cons (wpAny_Assign_Name (hs0 _ _ rfl (cStr fun s₂ t₂ k₂ => wpAny_newObj_type ?_ (by size_fits))))
  have R₂ := (R.keeps k₂).keeps (kPushH (s := s₂) { cls := .type "list", data := .seq [Value.str (Str.ofString "") t₂].toArray })
  have hD : s₁.heap.get? s₂.heap.objs.size = none := by
    cases q : s₁.heap.get? s₂.heap.objs.size with
    | none => rfl
    | some o => exact absurd (Heap.lt_size (kGet k₂ q)) (Nat.lt_irrefl _)
  have hDo : ({ s₂ with heap := s₂.heap.push { cls := .type "list", data := .seq [Value.str (Str.ofString "") t₂].toArray } } : Shared).heap.get? s₂.heap.objs.size = some (liO [Value.str (S []) t₂].toArray 0) := Heap.get?_push_size _ rfl
  generalize s₂.heap.objs.size = D at *
  have hDs : s.heap.get? D = none := by
    cases q : s.heap.get? D with
    | none => rfl
    | some o => rw [kp _ _ q] at hD; cases hD
  have hDL : D ≠ L := fun z => by
    obtain ⟨o, _, _, ho, _⟩ := R.ns
    rw [← z, hD] at ho; cases ho
  refine stL R₂ e (by kernel_rfl) fun s₃ R₃ up₃ => ?_
  have hD3 := up₃ D _ hDL hDo
  refine wpAny_execs_cons (forR (a := a) (vs := vs) (fun I i s' => JTexts w s L D I a vs ns i s') rfl
    (fun I i s' ⟨m', us, n, _, _, _, _, x1, x2, _⟩ => ⟨x1, x2⟩) ?_ ?_ ?_)
  · refine nmL R₃.ns e (by kernel_rfl) (by rw [if_neg (by decide)]; exact h1) ⟨rfl, hl.at fun o q => R₃.keep a o (fun z => by rw [List.mem_singleton.mp z, hL] at q; cases q) q, fun I s' k' fI hit => ?_⟩
    have fIs : s.heap.get? I = none := by
      cases q : s.heap.get? I with
      | none => rfl
      | some o => rw [R₃.keep I o (fun z => by rw [List.mem_singleton.mp z, hL] at q; cases q) q] at fI; cases fI
    refine ⟨_, [Value.str (S []) t₂], 0, (R₃.keeps k').wide (by simp) (fun b hb => ?_), if_pos rfl, kGet k' hD3, .cons ⟨t₂, rfl⟩ .nil, hit, isListK k' (hl.at fun o q => R₃.keep a o (fun z => by rw [List.mem_singleton.mp z, hL] at q; cases q) q), fun z => ?_, fun z => ?_, fIs⟩
    · simp only [List.mem_cons, List.not_mem_nil, or_false] at hb
      rcases hb with rfl | rfl | rfl
      · exact H.free hL
      · exact H.free hDs
      · exact H.free fIs
    · obtain ⟨o, _, _, ho, _⟩ := R₃.ns
      rw [← z, fI] at ho; cases ho
    · rw [z, hD3] at fI; cases fI
  · rintro I i v s' h' tk haI hvi ⟨m', us, n, R', ht, hD', hT, _, hlA, hIL, hID, fIs⟩ hit hk
    obtain ⟨x, tx, hx, rfl⟩ := ints_at hv hvi
    have hi : i < ns.length := (List.getElem?_eq_some_iff.mp hx).1
    have O : OkT i ((ns.take i).foldl stepT [[]]) := by have := OkT.start.fold (ns.take i); rw [List.length_take, Nat.zero_add, Nat.min_eq_left (by omega)] at this; exact this
    have R1 := R'.but (tk := tk) (by simp) hIL hk
    have hD1 := hk D _ (Ne.symm hID) hD'
    have hl1 : h'.IsList a vs.toArray := hlA.at fun o q => hk a o haI q
    refine stL R1 e (by kernel_rfl) fun s₅ R₅ up₅ => ?_
    have hD5 := up₅ D _ hDL hD1
    have hit5 : s₅.heap.IsListIter I a (i + 1) := let ⟨o, q, r⟩ := hit; ⟨o, up₅ I o hIL q, r⟩
    have haL : a ≠ L := fun z => by
      obtain ⟨o, ho, _⟩ := hl
      rw [z, hL] at ho; cases ho
    have haD : a ≠ D := fun z => by
      obtain ⟨o, ho, _⟩ := hl
      rw [z, hDs] at ho; cases ho
    have hl5 : s₅.heap.IsList a vs.toArray := hl1.at fun o q => up₅ a o haL q
    refine wpAny_execs_cons (Assign_Tuple (callB2 R₅.has e (by kernel_rfl) (gl_divmod w) (bl_divmod w) (nmL R₅.ns e (by kernel_rfl) (if_pos rfl) (cInt fun s₆ t₆ k₆ => opDivmod fun T s₇ t1 t2 k₇ fT hT7 => ?_))))
    refine wpAny_assign_Tuple rfl ⟨_, hT7, rfl, _, rfl⟩ rfl rfl fun h₈ he₈ => ?_
    have k78 : Keeps s₇ { s₇ with heap := h₈ } := ⟨h₈, s₇.toks, rfl, fun b o q => he₈ b o (Nat.ne_of_lt (Heap.lt_size q)) q⟩
    have k58 := kTrans (kTrans k₆ k₇) k78
    have R₈ := R₅.keeps k58
    show wpAny _ _ (assignInOrder [assign (.Name _ _) env, assign (.Name _ _) env] [.int (x / 3) t1, .int (x % 3) t2]) _ _ _
    unfold assignInOrder
    refine wpAny_bind (wpAny_holding (wpAny_assign_Name (stL R₈ e (by kernel_rfl) fun s₉ R₉ up₉ => ?_)))
    unfold assignInOrder
    refine wpAny_bind (wpAny_holding (wpAny_assign_Name (stL R₉ e (by kernel_rfl) fun s₁₀ R₁₀ up₁₀ => ?_)))
    unfold assignInOrder
    refine wpAny_pure ?_
    have hD10 := up₁₀ D _ hDL (up₉ D _ hDL (kGet k58 hD5))
    have hlu := txts_len hT
    generalize hts : (ns.take i).foldl stepT [[]] = ts at *
    have hus : us.length ≤ 6 := by rw [hlu]; exact O.le
    refine wpAny_execs_cons (wpAny_If (wpAny_mono (Q := fun b s' => b = decide (x % 3 = 0 ∧ ts.length < 6) ∧ Keeps s₁₀ s') (E := fun _ _ => False) ?_ (fun b s₁₁ hb => ?_) fun _ _ z => z.elim))
    · refine isTrue_and (wpAny_isTrue_Compare1 (nmL R₁₀.ns e (by kernel_rfl) (if_pos rfl) (cInt fun s₁₁ t₁₁ k₁₁ => opEqI (wpAny_truthy_bool ?_))))
      by_cases c : x % 3 = 0
      · rw [if_pos (by simp [c])]
        refine isTrue_and (wpAny_isTrue_Compare1 (callB1 (R₁₀.keeps k₁₁).has e (by kernel_rfl) (gl_len w) (bl_len w) (nmL (R₁₀.keeps k₁₁).ns e (by kernel_rfl) (by rw [if_neg (by decide), if_neg (by decide), if_neg (by decide)]; exact ht) (lenD (kGet k₁₁ hD10) (by omega) fun s₁₂ t₁₂ k₁₂ => cInt fun s₁₃ t₁₃ k₁₃ => opLt (wpAny_truthy_bool ?_)))))
        have kk := kTrans (kTrans k₁₁ k₁₂) k₁₃
        by_cases c2 : ts.length < 6
        · rw [if_pos (by simp; omega)]
          exact isTrue_and_nil ⟨by simp [c, c2], kk⟩
        · rw [if_neg (by simp; omega)]
          exact ⟨by simp [c2], kk⟩
      · rw [if_neg (by simp [c])]
        exact ⟨by simp [c], k₁₁⟩
    obtain ⟨rfl, k₁₁⟩ := hb
    have R₁₁ := R₁₀.keeps k₁₁
    have hD11 := kGet k₁₁ hD10
    obtain ⟨us', tl, eus, hus'⟩ := txts_last hT O.pos
    subst eus
    have hlast := O.len _ (last_mem O.pos)
    generalize hla : ts.getLast?.getD [] = la at *
    have hus3 : us'.length ≤ 5 := by simp at hus; omega
    have hus2 : us'.length ≤ 1000 := by omega
    have ht11 : ∀ {y : Value}, True → (fun y => if y = Str.ofString "kind" then some (Value.int (x % 3) t2) else if y = Str.ofString "q" then some (Value.int (x / 3) t1) else if y = Str.ofString "x" then some (Value.int x tx) else m' y) (Str.ofString "texts") = some (.ref D) := fun _ => by
      show (if _ then _ else _) = _
      rw [if_neg (by decide), if_neg (by decide), if_neg (by decide)]; exact ht
    have hq11 : (fun y => if y = Str.ofString "kind" then some (Value.int (x % 3) t2) else if y = Str.ofString "q" then some (Value.int (x / 3) t1) else if y = Str.ofString "x" then some (Value.int x tx) else m' y) (Str.ofString "q") = some (.int (x / 3) t1) := by
      show (if _ then _ else _) = _
      rw [if_neg (by decide), if_pos rfl]
    by_cases c : x % 3 = 0 ∧ ts.length < 6
    · rw [if_pos (decide_eq_true c)]
      refine wpAny_execs_cons (wpAny_Expr (PySem.Call_method1 rfl rfl (by kernel_rfl) (nmL R₁₁.ns e (by kernel_rfl) (ht11 (y := .none) trivial) ?_)) (inter e) rfl)
      refine ⟨"list", "list.append", F.plainAttrs_list, F.slot_list_append, F.type_list_append, ⟨_, hD11, rfl⟩, (fun b q => by cases q; exact ⟨_, hD11, rfl⟩), ?_⟩
      refine Calls.callWith_builtin rfl (Calls.evalArgs_plain (Calls.spliced_cons (sliceTo (lastT R₁₁.ns e (by kernel_rfl) (ht11 (y := .none) trivial) hD11 hus2 fun s₁₂ k₁₂ => ?_))))
      have R₁₂ := R₁₁.keeps k₁₂
      refine wpAny_BinOp (nmL R₁₂.ns e (by kernel_rfl) hq11 (wpAny_BinOp (callB1 R₁₂.has e (by kernel_rfl) (gl_len w) (bl_len w) (lastT R₁₂.ns e (by kernel_rfl) (ht11 (y := .none) trivial) (kGet k₁₂ hD11) hus2 fun s₁₃ k₁₃ => opLen (by omega) fun s₁₄ t₁₄ k₁₄ => cInt fun s₁₅ t₁₅ k₁₅ => opAdd fun s₁₆ t₁₆ k₁₆ => opMod (by omega) fun s₁₇ t₁₇ k₁₇ => ?_))))
      have kk := kTrans (kTrans (kTrans (kTrans (kTrans k₁₂ k₁₃) k₁₄) k₁₅) k₁₆) k₁₇
      refine ⟨la, tl, ((x / 3) % ((la.length : Int) + 1)).toNat, t₁₇, rfl, by rw [Int.toNat_of_nonneg (Int.emod_nonneg _ (by omega))], by omega, fun s₁₈ t₁₈ k₁₈ => Calls.spliced_nil ?_⟩
      have k1118 := kTrans kk k₁₈
      have kall := kTrans k₁₁ k1118
      refine opAppend (kGet k1118 hD11) (by simp; omega) fun s₁₉ n' hs₁₉ up₁₉ hD19 => ?_
      obtain ⟨hh, rfl⟩ := hs₁₉
      have R₁₉ := (R₁₁.keeps k1118).but (tk := s₁₈.toks) (I := D) (by simp) hDL up₁₉
      refine wpAny_execs_nil (wpAny_execs_nil ⟨rfl, _, (us' ++ [Value.str (S la) tl]) ++ [.str (S (la.take ((x / 3) % ((la.length : Int) + 1)).toNat)) t₁₈], n', R₁₉, ht11 (y := .none) trivial, by simpa using hD19, ?_, ?_, ?_, hIL, hID, fIs⟩)
      · have e1 : (ns.take (i + 1)).foldl stepT [[]] = ts ++ [la.take ((x / 3) % ((la.length : Int) + 1)).toNat] := by
          rw [List.take_add_one, hx, List.foldl_append, hts]
          show stepT ts x = _
          unfold stepT
          rw [if_pos c, hla]
        rw [e1]; exact txts_app1 hT
      · obtain ⟨o, q, r⟩ := hit5
        exact ⟨o, up₁₉ I o hID (kGet kall (up₁₀ I o hIL (up₉ I o hIL (kGet k58 q)))), r⟩
      · exact hl5.at fun o q => up₁₉ a o haD (kGet kall (up₁₀ a o haL (up₉ a o haL (kGet k58 q))))
    · rw [if_neg (by simpa using c)]
      refine wpAny_execs_cons (wpAny_Expr (PySem.Call_method1 rfl rfl (by kernel_rfl) (nmL R₁₁.ns e (by kernel_rfl) (ht11 (y := .none) trivial) ?_)) (inter e) rfl)
      refine ⟨"list", "list.append", F.plainAttrs_list, F.slot_list_append, F.type_list_append, ⟨_, hD11, rfl⟩, (fun b q => by cases q; exact ⟨_, hD11, rfl⟩), ?_⟩
      refine Calls.callWith_builtin rfl (Calls.evalArgs_plain (Calls.spliced_cons (wpAny_BinOp (PySem.Call_method0 rfl (by kernel_rfl) (nmL R₁₁.ns e (by kernel_rfl) (ht11 (y := .none) trivial) ?_)))))
      refine ⟨"list", "list.pop", F.plainAttrs_list, F.slot_list_pop, F.type_list_pop, ⟨_, hD11, rfl⟩, (fun b q => by cases q; exact ⟨_, hD11, rfl⟩), ?_⟩
      refine Calls.callWith_builtin rfl (evalArgs_nil3 (opPop hD11 hus2 fun s₁₂ n₁₂ hs₁₂ up₁₂ hD12 => ?_))
      obtain ⟨hh, rfl⟩ := hs₁₂
      have R₁₂ := R₁₁.but (tk := s₁₁.toks) (I := D) (by simp) hDL up₁₂
      have hc13 : (x / 3 % 13).toNat < 13 := by have := Int.emod_lt_of_pos (x / 3) (show (0 : Int) < 13 by decide); have := Int.emod_nonneg (x / 3) (show (13 : Int) ≠ 0 by decide); omega
      refine Subscript_ (cStr fun s₁₃ t₁₃ k₁₃ => wpAny_BinOp (nmL (R₁₂.keeps k₁₃).ns e (by kernel_rfl) hq11 (cInt fun s₁₄ t₁₄ k₁₄ => opMod (by decide) fun s₁₅ t₁₅ k₁₅ => ?_)))
      have e13 : x / 3 % 13 = (((x / 3 % 13).toNat : Nat) : Int) := (Int.toNat_of_nonneg (Int.emod_nonneg _ (by decide))).symm
      rw [e13]
      refine opItem (l := signs) (c := signs.getD (x / 3 % 13).toNat 0) (by rw [List.getElem?_eq_getElem (by exact hc13)]; simp [List.getD, List.getElem?_eq_getElem (show (x / 3 % 13).toNat < signs.length from hc13)]) (by decide) fun s₁₆ t₁₆ k₁₆ => ?_
      refine opAddS (by omega) (by simp) fun s₁₇ t₁₇ k₁₇ => Calls.spliced_nil ?_
      have kk := kTrans (kTrans (kTrans (kTrans k₁₃ k₁₄) k₁₅) k₁₆) k₁₇
      refine opAppend (kGet kk hD12) (by simp; omega) fun s₁₉ n' hs₁₉ up₁₉ hD19 => ?_
      obtain ⟨hh', rfl⟩ := hs₁₉
      have R₁₉ := (R₁₂.keeps kk).but (tk := s₁₇.toks) (I := D) (by simp) hDL up₁₉
      refine wpAny_execs_nil (wpAny_execs_nil ⟨rfl, _, us' ++ [.str (S (la ++ [signs.getD (x / 3 % 13).toNat 0])) t₁₇], n', R₁₉, ht11 (y := .none) trivial, by simpa using hD19, ?_, ?_, ?_, hIL, hID, fIs⟩)
      · have e1 : (ns.take (i + 1)).foldl stepT [[]] = ts.dropLast ++ [la ++ [signs.getD (x / 3 % 13).toNat 0]] := by
          rw [List.take_add_one, hx, List.foldl_append, hts]
          show stepT ts x = _
          unfold stepT
          rw [if_neg c, hla]
        rw [e1]; exact txts_app1 hus'
      · obtain ⟨o, q, r⟩ := hit5
        exact ⟨o, up₁₉ I o hID (kGet kk (up₁₂ I o hID (kGet k₁₁ (up₁₀ I o hIL (up₉ I o hIL (kGet k58 q)))))), r⟩
      · exact hl5.at fun o q => up₁₉ a o haD (kGet kk (up₁₂ a o haD (kGet k₁₁ (up₁₀ a o haL (up₉ a o haL (kGet k58 q))))))
  · rintro I s' h' tk ⟨m', us, n, R', ht, hD', hT, _, _, hIL, hID, fIs⟩ hk
    have R'' := R'.but (tk := tk) (by simp) hIL hk
    refine wpAny_execs_cons (wpAny_Return_some (nmL R''.ns e (by kernel_rfl) ht ?_))
    refine fin _ _ ⟨_, rfl, ?_, D, us, n, rfl, hDs, hk D _ (Ne.symm hID) hD', ?_⟩
    · obtain ⟨h0, t0, e0⟩ := R''.same
      refine ⟨h0, t0, e0, fun b o q => ?_⟩
      have := R''.keep b o (fun z => by
        simp only [List.mem_cons, List.not_mem_nil, or_false] at z
        rcases z with rfl | rfl | rfl
        · rw [hL] at q; cases q
        · rw [hDs] at q; cases q
        · rw [fIs] at q; cases q) q
      rw [e0] at this; exact this
    · rw [hv.length, List.take_length] at hT; exact hT
end Mine
end

section
open PySem PySem.W PyProof.Rows
set_option maxRecDepth 100000
namespace Mine
theorem find_map_upd {K : Type} [DecidableEq K] (k x : K) (v : Value) (h : x ≠ k) : ∀ kvs : List (K × Value), ((kvs.map fun kv => if kv.1 = k then (kv.1, v) else kv).find? fun kv => decide (kv.1 = x)).map (·.2) = (kvs.find? fun kv => decide (kv.1 = x)).map (·.2)
  | [] => rfl
  | kv :: r => by
    have ih := find_map_upd k x v h r
    simp only [List.map_cons, List.find?_cons]
    by_cases c : kv.1 = k
    · rw [if_pos c]
      have : ¬ kv.1 = x := fun z => h (z.symm.trans c)
      simp only [this, decide_false, ih]
    · rw [if_neg c]
      by_cases d : kv.1 = x
      · simp only [d, decide_true]
      · simp only [d, decide_false, ih]
theorem find_map_self {K : Type} [DecidableEq K] (k : K) (v : Value) : ∀ kvs : List (K × Value), (kvs.any fun kv => decide (kv.1 = k)) = true → ((kvs.map fun kv => if kv.1 = k then (kv.1, v) else kv).find? fun kv => decide (kv.1 = k)).map (·.2) = some v
  | [], h => by simp at h
  | kv :: r, h => by
    simp only [List.map_cons, List.find?_cons]
    by_cases c : kv.1 = k
    · rw [if_pos c]; simp [c]
    · rw [if_neg c]
      simp only [c, decide_false]
      exact find_map_self k v r (by simpa [c] using h)
theorem valueAt_stored {K : Type} [DecidableEq K] (kvs : List (K × Value)) (k x : K) (v : Value) : valueAt (stored kvs k v) x = if x = k then some v else valueAt kvs x := by
  unfold stored valueAt
  by_cases a : (kvs.any fun kv => decide (kv.1 = k)) = true
  · rw [if_pos a]
    by_cases c : x = k
    · subst c; rw [if_pos rfl]; exact find_map_self _ v kvs a
    · rw [if_neg c]; exact find_map_upd k x v c kvs
  · rw [if_neg a, List.find?_append]
    have hno : (kvs.find? fun kv => decide (kv.1 = k)) = none := by
      rw [List.find?_eq_none]
      intro y hy q
      exact a (List.any_eq_true.mpr ⟨y, hy, q⟩)
    by_cases c : x = k
    · subst c
      rw [if_pos rfl, hno]; simp
    · rw [if_neg c]
      have : ¬ k = x := fun z => c z.symm
      simp [this]
/-- the dict D: by these signs these texts -/
def DF (w : World) (h : Heap) (D : Addr) (n : Nat) (f : Nat → Option (List Nat)) : Prop :=
  ∃ kvs, h.DictOf (PySem.strKind pr w) D kvs ∧ kvs.length ≤ n ∧ ∀ c l, f c = some l → ∃ t, valueAt kvs (S [c]) = some (.str (S l) t)
theorem DF.at {w : World} {h h' : Heap} {D : Addr} {n : Nat} {f : Nat → Option (List Nat)} (x : DF w h D n f) (k : ∀ o, h.get? D = some o → h'.get? D = some o) : DF w h' D n f := let ⟨kvs, a, b, c⟩ := x; ⟨kvs, a.at k, b, c⟩
theorem DF.put {w : World} {h' : Heap} {D : Addr} {n : Nat} {f : Nat → Option (List Nat)} {kvs : List (Str × Value)} {c : Nat} {l : List Nat} {t : Tok} (hl : kvs.length ≤ n) (hf : ∀ c l, f c = some l → ∃ t, valueAt kvs (S [c]) = some (.str (S l) t))
    (hd : h'.DictOf (PySem.strKind pr w) D (stored kvs (S [c]) (.str (S l) t))) : DF w h' D (n + 1) (fun x => if x = c then some l else f x) := by
  refine ⟨_, hd, Nat.le_trans (stored_length_le _ _ _) (by omega), fun x l' e => ?_⟩
  rw [valueAt_stored]
  dsimp only at e
  by_cases q : x = c
  · subst q
    rw [if_pos rfl] at e; cases e
    exact ⟨t, if_pos rfl⟩
  · rw [if_neg q] at e
    rw [if_neg (fun z => q (by simpa using S_inj.mp z))]
    exact hf x l' e
theorem DF.sp {w : World} {h : Heap} {D : Addr} {n k : Nat} {f : Nat → Option (List Nat)} (x : DF w h D n f) (hf : ∀ c ∈ signs, f c = some (sp (tabOf k) c)) : SpD w k h D :=
  let ⟨_, a, _, c⟩ := x; ⟨_, a.mapOf, fun y hy => c y _ (hf y hy)⟩
/-- what the comprehension stores -/
theorem storedAll_val {l : List Value} {kvs : List (Str × Value)} (h : StoredAll (fun v k => ∃ c t, v = Value.str (S [c]) t ∧ k = S [c]) (fun v y => y = v) l kvs) :
    kvs.length ≤ l.length ∧ ∀ c, (∃ t, Value.str (S [c]) t ∈ l) → ∃ t, valueAt kvs (S [c]) = some (.str (S [c]) t) := by
  refine ⟨h.length_le, ?_⟩
  induction h with
  | nil => rintro c ⟨t, ht⟩; simp at ht
  | @snoc l kvs v k y _ hk hy ih =>
    rintro c ⟨t, ht⟩
    rw [valueAt_stored]
    obtain ⟨c', t', rfl, rfl⟩ := hk
    by_cases q : S [c] = S [c']
    · have q' : c = c' := by simpa using S_inj.mp q
      subst q'
      exact ⟨t', by rw [if_pos rfl, hy]⟩
    · rw [if_neg q]
      refine ih c ?_
      rcases List.mem_append.mp ht with z | z
      · exact ⟨t, z⟩
      · exact absurd (Value.str.inj (List.mem_singleton.mp z)).1 q
section
variable {w : World} {A : Around} {E : Value → Shared → Prop} {b s : Shared} {X : List Addr} {L : Addr} {m : Str → Option Value} {env : Env} {names : List (Str × NameKind)} {cs : List (Str × Addr)}
theorem swaps_isD {kx vx iter : Expr} {x y : Str} {px py : Pos} {ifs : List Expr} {scope : Scope} {pos : Pos} {line : Nat} (e : EnvIs env L names cs) (hy : names.lookup y = some .local) (hline : (py.line == pos.line) = true) (hno : (scope.names.any fun z => z.1 == y && (z.2 == .local || z.2 == .cell)) = false) :
    swapsWith (.DictComp kx vx [⟨.Name x px, iter, ifs, 0⟩] scope pos) (some (.Name y py)) line env = pure true := by
  have h1 : env.blockKind = ScopeKind.function := by unfold Env.blockKind; rw [e.kind]; rfl
  have h2 : env.kindOf y = some .local := by unfold Env.kindOf; rw [e.names]; exact hy
  show (pure (env.blockKind == .function && env.kindOf y == some .local && py.line == pos.line && !(scope.names.any fun z => z.1 == y && (z.2 == .local || z.2 == .cell))) : Sem Bool) = _
  rw [h1, h2, hline, hno]; rfl
/-- a name gets the dict {x: x for x in text} -/
theorem compAD {iter : Expr} {x y : Str} {px p1 p2 py : Pos} {scope : Scope} {pos spos : Pos} {Q : Flow → Shared → Prop} {l : List Nat}
    (e : EnvIs env L names cs) (hy : names.lookup y = some .local) (hline : (py.line == pos.line) = true) (hno : (scope.names.any fun z => z.1 == y && (z.2 == .local || z.2 == .cell)) = false) (hA : A.handled = none)
    (hclos : closureFor scope env = pure []) (hcell : (scope.names.all fun y => y.2 != .cell) = true) (hkind : scope.kind = .function)
    (hnames : (scope.names.all fun y => y.2 != .local || scope.names.lookup y.1 == some .local) = true) (hx : scope.names.lookup x = some .local) (hxc : (compNames scope names).lookup x = some .local) (hn : l.length ≤ 2 ^ 20) (hdb : (x == ("__debug__" : Str)) = false)
    (h : wpAny (model pr w) A (eval iter env) (fun xv s₁ => (∃ t, xv = .str (S l) t) ∧ Reg w X b L m s₁ ∧
      ∀ D s', Reg w X b L (fun z => if z = y then some (.ref D) else m z) s' → s₁.heap.get? D = none → DF w s'.heap D l.length (fun c => if c ∈ l then some [c] else none) → Q .next s') E s)
    (hs : ∀ x, foldedSetIterable iter env x = pure x := by intro _; rfl) :
    wpAny (model pr w) A (exec (.Assign [.Name y py] (.DictComp (.Name x p1) (.Name x p2) [⟨.Name x px, iter, [], 0⟩] scope pos) spos) env) Q E s := by
  have hcell' : ∀ y ∈ scope.names, y.2 ≠ .cell := fun y hy q => by have := List.all_eq_true.mp hcell y hy; rw [q] at this; cases this
  have hnames' : ∀ y ∈ scope.names, y.2 = .local → scope.names.lookup y.1 = some .local := fun y hy q => by
    have := List.all_eq_true.mp hnames y hy; rw [q] at this; simpa using this
  rw [exec_Assign_Name_used _ _ _ _ (swaps_isD e hy hline hno)]
  refine wpAny_bind (wpAny_standAt (wpAny_bind ?_))
  show wpAny _ A (do let _ ← comprehension (.DictComp (.Name x p1) (.Name x p2) [⟨.Name x px, iter, [], 0⟩] scope pos) scope env _ newDict false (eval iter env) (some (assign (.Name y py) env))) _ _ s
  refine wpAny_bind (wpAny_mono (wpAny_comprehension_free (use := some (assign (.Name y py) env)) (Q := fun _ s' => Q .next s') rfl hs hclos hkind hnames'
    (wpAny_mono h (fun xv s₁ h₁ => ?_) fun _ _ e => e)) (fun _ s' hq => wpAny_pure (wpAny_pure hq)) fun _ _ e => e)
  obtain ⟨⟨t, rfl⟩, R, hQ⟩ := h₁
  refine srcStr hA _ _ fun I fp St s₂ W k₂ tk₂ hI hst hfp => ?_
  have R₂ := R.keeps k₂
  refine comp_block_walkCD (knd := PySem.strKind pr w) (RR := fun acc C => compPost (model pr w) A E (some (assign (.Name y py) env)) (fun _ s' => Q .next s') acc C) W (by rw [sizeLine_eq]; omega) (fun _ => true)
    (fun v k => ∃ c t, v = Value.str (S [c]) t ∧ k = S [c]) (fun v y => y = v) hcell' hkind hx hst hfp ⟨?_, ?_, ?_⟩ ?_
  · rintro C i v s₃ m₃ E' _ _ _ _
    rw [List.forIn_nil]; exact wpAny_pure ⟨rfl, kRefl _⟩
  · rintro C i v s₃ m₃ E' ⟨c, u, hc, rfl⟩ _ hns hm hk
    refine nmL hns (compEnv_is e hkind) hxc hm ⟨⟨S [c], strKind_is pr w (S [c]) u, c, u, rfl, rfl⟩, kRefl _⟩ hdb
  · rintro C i v s₃ m₃ E' _ _ hns hm hk
    exact nmL hns (compEnv_is e hkind) hxc hm ⟨rfl, kRefl _⟩ hdb
  · intro D C h' tk m' kvs vs hD hC hDC hnC hlD hlen hP hF hk
    have kIn : ∀ a o, a ≠ I → s₂.heap.get? a = some o → h'.get? a = some o := fun a o ha q => hk a o (by simpa using ha) q
    have hLI : L ≠ I := fun z => by
      obtain ⟨o, _, _, ho, _⟩ := R.ns
      rw [z, hI] at ho; cases ho
    have hLC : L ≠ C := fun z => by
      obtain ⟨o, _, _, ho, _⟩ := R₂.ns
      rw [z, hC] at ho; cases ho
    have hLD : L ≠ D := fun z => by
      obtain ⟨o, _, _, ho, _⟩ := R₂.ns
      rw [z, hD] at ho; cases ho
    have fD : s₁.heap.get? D = none := by
      cases q : s₁.heap.get? D with
      | none => rfl
      | some o => rw [kGet k₂ q] at hD; cases hD
    have k3 : Keeps s₁ { s₂ with heap := h', toks := tk } := by
      obtain ⟨h2, t2, rfl, kk⟩ := k₂
      exact ⟨h', tk, rfl, fun a o q => kIn a o (fun z => by rw [z, hI] at q; cases q) (kk a o q)⟩
    show wpAny _ A (assign (.Name y py) env (.ref D)) _ _ _
    refine wpAny_assign_Name (stL (R.keeps k3) e hy fun s₄ R₄ up₄ => ?_)
    refine ⟨m', ?_, fun h₅ hs₅ => ?_⟩
    · obtain ⟨o, es, nn, ho, r⟩ := hnC
      exact ⟨o, es, nn, up₄ C o (Ne.symm hLC) ho, r⟩
    have R₅ : Reg w X b L (fun z => if z = y then some (.ref D) else m z) { s₄ with heap := h₅ } := by
      refine ⟨let ⟨h0, t0, e0⟩ := R₄.same; ⟨h₅, t0, by rw [e0]⟩, R₄.ns.sameBut hs₅ hLC, fun a o ha q => ?_, R₄.inX, R₄.hb, R₄.free⟩
      refine hs₅.extBut a o (fun z => ?_) (R₄.keep a o ha q)
      have := R₂.keep a o ha q
      rw [z, hC] at this; cases this
    refine hQ D _ R₅ fD ?_
    obtain ⟨a1, a2⟩ := storedAll_val hF
    have e1 : vs.filter (fun _ => true) = vs := List.filter_eq_self.mpr fun _ _ => rfl
    rw [e1] at a1 a2
    refine ⟨kvs, (hlD.at fun o q => up₄ D o (Ne.symm hLD) q).extBut hs₅.extBut hDC, by omega, fun c l' hc => ?_⟩
    dsimp only at hc
    by_cases hcl : c ∈ l
    · rw [if_pos hcl] at hc; cases hc
      obtain ⟨i, hi⟩ := List.getElem?_of_mem hcl
      have hil : i < vs.length := by rw [hlen]; exact (List.getElem?_eq_some_iff.mp hi).1
      obtain ⟨c', u, hc', hv⟩ := hP i vs[i] (List.getElem?_eq_getElem hil)
      rw [hi] at hc'; cases hc'
      exact a2 c ⟨u, hv ▸ List.getElem_mem hil⟩
    · rw [if_neg hcl] at hc; cases hc
end
end Mine
end

section
open PySem PySem.W PyProof.Rows
set_option maxRecDepth 100000
set_option linter.unusedVariables false
namespace Mine
abbrev signs12 : List Nat := [60, 62, 34, 13, 10, 9, 97, 59, 35, 49, 108, 116]
abbrev pairs6 : List (Nat × List Nat) := [(60, [108, 116]), (62, [103, 116]), (34, [113, 117, 111, 116]), (13, [35, 120, 68]), (10, [35, 120, 65]), (9, [35, 120, 57])]
abbrev exT : List (List Nat) := [[], [62], [60, 13, 10, 9], [34, 13, 10, 9], [34, 10, 9]]
def testF (k c : Nat) : Bool := !(!(Builtin.Str.occurrences (S (exT.getD k [])) (S [c]) 0 (S (exT.getD k [])).length 1).isEmpty)
def putF (f : Nat → Option (List Nat)) (c : Nat) (l : List Nat) : Nat → Option (List Nat) := fun x => if x = c then some l else f x
def stepF (k : Nat) (f : Nat → Option (List Nat)) (p : Nat × List Nat) : Nat → Option (List Nat) := if testF k p.1 then putF f p.1 ([38] ++ p.2 ++ [59]) else f
def startF : Nat → Option (List Nat) := putF (fun c => if c ∈ signs12 then some [c] else none) 38 [38, 97, 109, 112, 59]
def loopF (k i : Nat) : Nat → Option (List Nat) := (pairs6.take i).foldl (stepF k) startF
def endF (k : Nat) : Nat → Option (List Nat) := if k = 0 then putF (putF (putF (loopF k 6) 13 [38, 35, 49, 51, 59]) 10 [38, 35, 49, 48, 59]) 9 [38, 35, 48, 57, 59] else loopF k 6
theorem endF_ok : ∀ k < 5, ∀ c ∈ signs, endF k c = some (sp (tabOf k) c) := by decide +kernel
section
variable {w : World} {A : Around} {E : Value → Shared → Prop} {s : Shared} {env : Env}
theorem backC {pos p : Pos} {c : Const} {k : Nat} {rest : List Expr} : backTo pos (starEach (.Constant c k p :: rest) env) = (false, eval (.Constant c k p) env) :: backTo pos (starEach rest env) := by rfl
theorem backT {pos p : Pos} {l : List Expr} {k : Nat} {rest : List Expr} : backTo pos (starEach (.Tuple l k p :: rest) env) = (false, eval (.Tuple l k p) env) :: backTo pos (starEach rest env) := by rfl
/-- written texts, one behind the other -/
theorem splC {pos : Pos} : ∀ (es : List (Str × Pos)) {s : Shared} {Q : List Value → Shared → Prop}, (∀ vs s', Keeps s s' → StrsAre vs (es.map (·.1)) → Q vs s') → wpAny (model pr w) A (spliced (backTo pos (starEach (es.map fun p => .Constant (.str p.1) 0 p.2) env))) Q E s
  | [], s, Q, h => Calls.spliced_nil (h [] s (kRefl s) .nil)
  | p :: es, s, Q, h => by
    rw [List.map_cons, backC]
    exact Calls.spliced_cons (cStr fun s₁ t₁ k₁ => splC es fun vs s₂ k₂ hv => h _ s₂ (kTrans k₁ k₂) (.cons _ t₁ hv))
theorem listC {elts : List Expr} (es : List (Str × Pos)) {pos : Pos} {Q : Value → Shared → Prop} (he : elts = es.map fun p => .Constant (.str p.1) 0 p.2) (hn : es.length ≤ 100) (h : ∀ D vs s', Keeps s s' → s.heap.get? D = none → s'.heap.IsList D vs.toArray → StrsAre vs (es.map (·.1)) → Q (.ref D) s') : wpAny (model pr w) A (eval (.List elts pos) env) Q E s := by
  subst he
  refine List_ (splC es fun vs s₁ k₁ hv => mkList (by have := hv.len_eq; simp at this; omega) fun D s₂ k₂ fD hl _ => ?_)
  refine h D vs s₂ (kTrans k₁ k₂) ?_ (PlainList.is hl) hv
  cases q : s.heap.get? D with
  | none => rfl
  | some o => rw [kGet k₁ q] at fD; cases fD
/-- written pairs of texts -/
abbrev TupsAt (h : Heap) (vs : List Value) (ps : List (Str × Str)) : Prop := Paired (fun v p => ∃ T t1 t2, v = .ref T ∧ h.get? T = some (seqObj "tuple" #[.str p.1 t1, .str p.2 t2] 0)) vs ps
theorem tups_keeps {h h' : Heap} {vs : List Value} {ps : List (Str × Str)} (x : TupsAt h vs ps) (k : ∀ b o, h.get? b = some o → h'.get? b = some o) : TupsAt h' vs ps := by
  induction x with
  | nil => exact .nil
  | cons h _ ih => obtain ⟨T, t1, t2, e, q⟩ := h; exact .cons ⟨T, t1, t2, e, k _ _ q⟩ ih
theorem splT {pos : Pos} : ∀ (es : List ((Str × Str) × Pos × Pos × Pos)) {s : Shared} {Q : List Value → Shared → Prop}, (∀ vs s', Keeps s s' → TupsAt s'.heap vs (es.map (·.1)) → Q vs s') →
    wpAny (model pr w) A (spliced (backTo pos (starEach (es.map fun p => .Tuple [.Constant (.str p.1.1) 0 p.2.1, .Constant (.str p.1.2) 0 p.2.2.1] 0 p.2.2.2) env))) Q E s
  | [], s, Q, h => Calls.spliced_nil (h [] s (kRefl s) .nil)
  | p :: es, s, Q, h => by
    rw [List.map_cons, backT]
    refine Calls.spliced_cons (Tuple_ ?_)
    show wpAny _ _ (spliced [(false, eval (.Constant (.str p.1.1) 0 p.2.1) env), (false, eval (.Constant (.str p.1.2) 0 p.2.2.1) env)]) _ _ _
    refine Calls.spliced_cons (cStr fun s₁ t₁ k₁ => Calls.spliced_cons (cStr fun s₂ t₂ k₂ => Calls.spliced_nil (wpAny_newTuple ?_ (by rw [sizeLine_eq]; simp))))
    refine splT es fun vs s₃ k₃ hv => h _ s₃ (kTrans (kTrans (kTrans k₁ k₂) (kPushH _)) k₃) (.cons ⟨_, t₁, t₂, rfl, kGet k₃ (Heap.get?_push_size _ rfl)⟩ hv)
theorem tups_len {h : Heap} {vs : List Value} {ps : List (Str × Str)} (x : TupsAt h vs ps) : vs.length = ps.length := x.length
theorem listT {elts : List Expr} (es : List ((Str × Str) × Pos × Pos × Pos)) {pos : Pos} {Q : Value → Shared → Prop} (he : elts = es.map fun p => .Tuple [.Constant (.str p.1.1) 0 p.2.1, .Constant (.str p.1.2) 0 p.2.2.1] 0 p.2.2.2) (hn : es.length ≤ 100) (h : ∀ D vs s', Keeps s s' → s.heap.get? D = none → s'.heap.IsList D vs.toArray → TupsAt s'.heap vs (es.map (·.1)) → Q (.ref D) s') :
    wpAny (model pr w) A (eval (.List elts pos) env) Q E s := by
  subst he
  refine List_ (splT es fun vs s₁ k₁ hv => mkList (by have := tups_len hv; simp at this; omega) fun D s₂ k₂ fD hl _ => ?_)
  refine h D vs s₂ (kTrans k₁ k₂) ?_ (PlainList.is hl) (tups_keeps hv (kAll k₂))
  cases q : s.heap.get? D with
  | none => rfl
  | some o => rw [kGet k₁ q] at fD; cases fD
end
theorem Reg.rebase {w : World} {X : List Addr} {b s : Shared} {L : Addr} {m : Str → Option Value} (x : Reg w X b L m s) : Reg w X s L m s := ⟨⟨s.heap, s.toks, rfl⟩, x.ns, fun _ _ _ e => e, x.inX, x.has, x.free⟩
theorem DF.set {w : World} {A : Around} {E : Value → Shared → Prop} {s : Shared} {D : Addr} {n c : Nat} {l : List Nat} {t u : Tok} {f : Nat → Option (List Nat)} {Q : Unit → Shared → Prop} (x : DF w s.heap D n f) (hn : n ≤ 1000)
    (h : ∀ h' tk, DF w h' D (n + 1) (putF f c l) → (∀ b o, b ≠ D → s.heap.get? b = some o → h'.get? b = some o) → Q () { s with heap := h', toks := tk }) :
    wpAny (model pr w) A (setItem (.ref D) (.str (S [c]) t) (.str (S l) u)) Q E s := by
  obtain ⟨kvs, a, b, cc⟩ := x
  exact wpAny_setItem_pairs (strKind_is pr w (S [c]) t) a (fun h' hd hs => h h' _ (DF.put b cc hd) fun b o hb q => hs.extBut b o hb q) (by rw [sizeLine_eq]; omega)
end Mine
end

section
open PySem PySem.W PyProof.Rows
set_option maxRecDepth 100000
set_option linter.unusedVariables false
namespace Mine
theorem gl_spell (w : World) : gl w "_law_spellings" = some (.ref 91) := by kernel_rfl
theorem fnSpell (w : World) : FnK w 91 := ⟨⟨_, _, rfl, rfl⟩, by decide, by decide⟩
theorem DF.le {w : World} {h : Heap} {D : Addr} {n n' : Nat} {f : Nat → Option (List Nat)} (x : DF w h D n f) (hn : n ≤ n') : DF w h D n' f := let ⟨kvs, a, b, c⟩ := x; ⟨kvs, a, by omega, c⟩
theorem DF.fe {w : World} {h : Heap} {D : Addr} {n : Nat} {f g : Nat → Option (List Nat)} (x : DF w h D n f) (e : f = g) : DF w h D n g := e ▸ x
/-- what a table's pairs are by the signs -/
def FV (kvs : List (Str × Value)) (f : Nat → Option (List Nat)) : Prop := ∀ c l, f c = some l → ∃ t, valueAt kvs (S [c]) = some (.str (S l) t)
theorem FV.put {kvs : List (Str × Value)} {f : Nat → Option (List Nat)} (x : FV kvs f) (c : Nat) (l : List Nat) (t : Tok) : FV (stored kvs (S [c]) (.str (S l) t)) (putF f c l) := fun y l' e => by
  rw [valueAt_stored]
  unfold putF at e
  by_cases q : y = c
  · subst q
    rw [if_pos rfl] at e; cases e
    exact ⟨t, if_pos rfl⟩
  · rw [if_neg q] at e
    rw [if_neg (fun z => q (by simpa using S_inj.mp z))]
    exact x y l' e
section
variable {w : World} {A : Around} {E : Value → Shared → Prop} {s : Shared} {env : Env}
/-- a for over a list of tuples -/
theorem forT {elts : List Expr} {kk : Nat} {pt pos : Pos} {iter : Expr} {body : List Stmt} {Q : Flow → Shared → Prop} (hA : A.handled = none)
    (h : wpAny (model pr w) A (eval iter env) (fun v s₁ => ∃ (a : Addr) (vs : List Value) (J : Addr → Nat → Shared → Prop), v = .ref a ∧ s₁.heap.IsList a vs.toArray ∧ (∀ (i : Nat) v, vs[i]? = some v → ∃ T, v = .ref T) ∧
      (∀ I i s, J I i s → s.heap.IsListIter I a i ∧ s.heap.IsList a vs.toArray) ∧
      (∀ I s₂, Keeps s₁ s₂ → s₁.heap.get? I = none → s₂.heap.IsListIter I a 0 → J I 0 s₂) ∧
      (∀ I (i : Nat) T s h' tk, a ≠ I → vs[i]? = some (.ref T) → J I i s → h'.IsListIter I a (i + 1) → (∀ b o, b ≠ I → s.heap.get? b = some o → h'.get? b = some o) →
        wpAny (model pr w) A (assign (.Tuple elts kk pt) env (.ref T)) (fun _ s₂ => wpAny (model pr w) A (execs body env) (fun f s₃ => f = .next ∧ J I (i + 1) s₃) (fun _ _ => False) s₂) (fun _ _ => False) { s with heap := h', toks := tk }) ∧
      (∀ I s h' tk, J I vs.length s → (∀ b o, b ≠ I → s.heap.get? b = some o → h'.get? b = some o) → Q .next { s with heap := h', toks := tk })) E s)
    (hs : ∀ x, foldedSetIterable iter env x = pure x := by intro _; rfl) : wpAny (model pr w) A (exec (.For (.Tuple elts kk pt) iter body [] pos) env) Q E s := by
  refine wpAny_For (wpAny_mono h (fun v s₁ h₁ => ?_) fun _ _ q => q) hs
  obtain ⟨a, vs, J, rfl, hl, hrf, hJ, h0, turn, fin⟩ := h₁
  have haI : a ≠ s₁.heap.objs.size := let ⟨_, ho, _⟩ := hl; Nat.ne_of_lt (Heap.lt_size ho)
  refine wpAny_pyIter_list hl ?_
  have hj0 := h0 s₁.heap.objs.size { s₁ with heap := s₁.heap.push { cls := .type "list_iterator", data := .fields #[.ref a, .int 0 0] } } (kPushH _) (size_none _) ⟨_, Heap.get?_push_size _ rfl, rfl, rfl⟩
  generalize s₁.heap.objs.size = I at *
  have W := Walks.list (prog := pr) (w := w) (A := A) hA I a haI vs.toArray
  have hsz : vs.toArray.size = vs.length := List.size_toArray ..
  refine codeAny_forLoop_any (fun n s => ∃ i, n = vs.length + 1 - i ∧ i ≤ vs.length ∧ J I i s) (fun n s hI => ?_) _ ⟨0, rfl, Nat.zero_le _, hj0⟩
  obtain ⟨i, rfl, hi, hj⟩ := hI
  obtain ⟨it, hl'⟩ := hJ I i s hj
  by_cases hlt : i < vs.length
  · refine W.item i _ _ _ (by rw [hsz]; exact hlt) ⟨it, hl'⟩ fun v h' tk hP hst hk => ?_
    obtain ⟨T, rfl⟩ := hrf i v (by simpa using hP)
    refine wpAny_letOwnedTupleGo_listiter hst.1 ?_
    refine noErr (wpAny_mono (turn I i T s h' tk haI (by simpa using hP) hj hst.1 fun b o hb q => hk b o (by simpa using hb) q) (fun _ s₂ h₂ => noErr (wpAny_mono h₂ (fun f s₃ h₃ => ?_) fun _ _ q => q)) fun _ _ q => q)
    obtain ⟨rfl, hj'⟩ := h₃
    exact ⟨vs.length + 1 - (i + 1), by omega, i + 1, rfl, hlt, hj'⟩
  · have hil : i = vs.length := by omega
    subst hil
    refine W.done _ _ _ ⟨by rw [hsz]; exact it, hl'⟩ fun h' tk hk => wpAny_execs_nil ?_
    exact fin I s h' tk hj fun b o hb q => hk b o (by simpa using hb) q
end
end Mine
end

section
open PySem PySem.W PyProof.Rows
set_option maxRecDepth 100000
namespace Mine
theorem plain_relayAll (t : SetTable) (es : Array (Int × Value)) (n : Nat) (hp : t.plain = false) : (relayAll t es n).2.1.plain = false := by
  unfold relayAll
  split
  · rename_i t' order h
    have : t'.plain = t.plain := by
      unfold SetTable.relaid SetTable.laid at h
      simp only [Option.bind_eq_bind, Option.bind_eq_some_iff] at h
      obtain ⟨a, _, h⟩ := h
      cases h; rfl
    dsimp only
    split
    · rw [this]; exact hp
    · rfl
  · rfl
/-- the set D, its items and how it lies -/
structure SetP (w : World) (h : Heap) (D : Addr) (l : List (List Nat)) : Prop where
  at' : ∃ o es ep t ks, h.get? D = some o ∧ o.ExactSet ∧ o.data = .set es ep t ∧ ElemsOf (PySem.strKind pr w) es.toList ∧ t.fits es.size = true ∧ (t.plain = false ∨ es.size = 0) ∧ Txts (es.toList.map (·.2)) ks ∧ ks.Perm (dd l)
theorem SetP.keeps {w : World} {h h' : Heap} {D : Addr} {l : List (List Nat)} (x : SetP w h D l) (k : ∀ o, h.get? D = some o → h'.get? D = some o) : SetP w h' D l := let ⟨o, es, ep, t, ks, ho, r⟩ := x.at'; ⟨o, es, ep, t, ks, k o ho, r⟩
theorem txts_perm' {vs us : List Value} {ls : List (List Nat)} (hv : Txts vs ls) (hp : us.Perm vs) : ∃ ks, Txts us ks ∧ ks.Perm ls := by
  induction hp generalizing ls with
  | nil => cases hv; exact ⟨[], .nil, .refl _⟩
  | cons x _ ih => cases hv with | cons h r => obtain ⟨ks, a, b⟩ := ih r; exact ⟨_ :: ks, .cons h a, b.cons _⟩
  | swap x y l => cases hv with | cons h r => cases r with | cons h' r' => exact ⟨_, .cons h' (.cons h r'), .swap _ _ _⟩
  | trans _ _ ih1 ih2 => obtain ⟨ks, a, b⟩ := ih2 hv; obtain ⟨js, c, d⟩ := ih1 a; exact ⟨js, c, d.trans b⟩
theorem txts_snoc {vs : List Value} {ls : List (List Nat)} {x : List Nat} {t : Tok} : Txts vs ls → Txts (vs ++ [.str (S x) t]) (ls ++ [x]) := fun hv => by
  induction hv with
  | nil => exact .cons ⟨t, rfl⟩ .nil
  | cons h _ ih => exact .cons h ih
theorem txts_mem {vs : List Value} {ls : List (List Nat)} {x : List Nat} (hv : Txts vs ls) : x ∈ ls ↔ ∃ v ∈ vs, ∃ t, v = .str (S x) t := by
  induction hv with
  | nil => simp
  | @cons v l _ _ h _ ih =>
    obtain ⟨t, rfl⟩ := h
    simp only [List.mem_cons, ih]
    constructor
    · rintro (rfl | ⟨v, hv, q⟩)
      · exact ⟨_, .inl rfl, t, rfl⟩
      · exact ⟨v, .inr hv, q⟩
    · rintro ⟨v, rfl | hv, t', q⟩
      · exact .inl (S_inj.mp (Value.str.inj q).1).symm
      · exact .inr ⟨v, hv, t', q⟩
theorem newSetP {w : World} {A : Around} {E : Value → Shared → Prop} {s : Shared} {Q : Value → Shared → Prop}
    (h : ∀ led : Bool, SetP w (s.heap.push { cls := .type "set", dict := none, data := .set #[] 0 (.fresh 0 0 led) }) s.heap.objs.size [] → Q (.ref s.heap.objs.size) { s with heap := s.heap.push { cls := .type "set", dict := none, data := .set #[] 0 (.fresh 0 0 led) } }) :
    wpAny (model pr w) A (newSet (.type "set")) Q E s :=
  wpAny_newSet_of (knd := PySem.strKind pr w) fun led _ => h led ⟨_, #[], 0, _, [], Heap.get?_push_size _ rfl, ⟨rfl, rfl, rfl⟩, rfl, fun e he => by simp at he, rfl, .inr rfl, .nil, .refl _⟩
set_option maxHeartbeats 1000000 in
theorem addSetP {w : World} {A : Around} {E : Value → Shared → Prop} {s : Shared} {D : Addr} {l : List (List Nat)} {x : List Nat} {t : Tok} {Q : Value → Shared → Prop} (hS : SetP w s.heap D l) (hn : l.length ≤ 1000)
    (h : ∀ s', (∃ h tk, s' = { s with heap := h, toks := tk }) → (∀ b o, b ≠ D → s.heap.get? b = some o → s'.heap.get? b = some o) → SetP w s'.heap D (l ++ [x]) → Q .none s') :
    wpAny (model pr w) A (call (.builtin "set.add") [.ref D, .str (S x) t]) Q E s := by
  obtain ⟨o, es, ep, tb, ks, ho, hex, hd, hel, hf, hpl, hks, hpm⟩ := hS.at'
  have hT : s.TypeIs (.ref D) "set" := ⟨o, ho, hex.1⟩
  have hkey := strKind_is pr w (S x) t
  have hesz : es.size = (dd l).length := by rw [← Array.length_toList, ← List.length_map (f := (·.2)), txts_len hks, hpm.length_eq]
  have hddl : (dd l).length ≤ 1000 := Nat.le_trans (by
    have : ∀ (l acc : List (List Nat)), (l.foldl addD acc).length ≤ acc.length + l.length := fun l => by
      induction l with
      | nil => intro acc; simp
      | cons x r ih =>
        intro acc
        have := ih (addD acc x)
        have h2 : (addD acc x).length ≤ acc.length + 1 := by unfold addD; split <;> simp
        simp only [List.foldl_cons, List.length_cons]; omega
    have := this l []
    simp only [List.length_nil, Nat.zero_add] at this
    exact this) hn
  have hb : es.size < scanBound := by show _ < 4096; omega
  refine wpAny_call_entry F.slot_set_add hT F.entry_set_add ?_ (F.args_set_add_2 _ _)
  unfold Builtin.«set.add» Builtin.Frozenset.oneOther
  simp only [List.isEmpty_nil, bind_assoc]
  unfold Builtin.Frozenset.addrOf setAdd
  refine wpAny_bind (wpAny_pure ?_)
  try dsimp only
  refine wpAny_bind (wpAny_pure ?_)
  try dsimp only
  refine wpAny_bind (wpAny_holding ?_)
  refine wpAny_bind ((PySem.strKind pr w).pyHash hkey ?_)
  unfold setAddHashed setAddHashedIn
  refine wpAny_holding (wpAny_bind (wpAny_setState_of (s := { s with toks := s.toks + 1 }) ho hd hf ?_))
  dsimp only
  rw [byScan_of rfl hb hel]
  simp only [↓reduceIte]
  unfold setAddByScan
  refine wpAny_bind ?_
  refine wpAny_bind (wpAny_rule ?_)
  refine wpAny_bind (wpAny_setScan_of hkey ho hd hf hel ?_)
  have isx : ∀ e ∈ es.toList, (PySem.strKind pr w).is (S x) e.2 = true → ∃ t', e.2 = .str (S x) t' := fun e he q => by
    obtain ⟨⟨k', hk', _⟩, _⟩ := hel e he
    have := (PySem.strKind pr w).inj e.2 _ _ q hk'
    subst this
    have hstr : ∃ l' t', e.2 = .str (S l') t' := by
      obtain ⟨i, hi⟩ := List.getElem?_of_mem (List.mem_map_of_mem (f := (·.2)) he)
      obtain ⟨l', t', _, q'⟩ := txts_at hks hi
      exact ⟨l', t', q'⟩
    obtain ⟨l', t', q'⟩ := hstr
    rw [q'] at q
    have : l' = x := by
      have := (PySem.strKind pr w).inj (.str (S l') t') _ _ q (strKind_is pr w (S l') t')
      exact (S_inj.mp this).symm
    subst this
    exact ⟨t', q'⟩
  have fin : ∀ s', (∃ h tk, s' = { s with heap := h, toks := tk }) → (∀ b o, b ≠ D → s.heap.get? b = some o → s'.heap.get? b = some o) → SetP w s'.heap D (l ++ [x]) → ∃ r, PySem.Fin.done (.ret .none) = .done (.ret r) ∧ Q r s' := fun s' a b c => ⟨_, rfl, h s' a b c⟩
  cases hr : List.findIdx? (fun e => (PySem.strKind pr w).is (S x) e.2) es.toList with
  | some j =>
    dsimp only
    obtain ⟨hj, hpj, _⟩ := List.findIdx?_eq_some_iff_getElem.mp hr
    obtain ⟨t', e'⟩ := isx _ (List.getElem_mem hj) hpj
    have hmem : x ∈ dd l := hpm.mem_iff.mp ((txts_mem hks).mpr ⟨_, List.mem_map_of_mem (f := (·.2)) (List.getElem_mem hj), t', e'⟩)
    have hdd : dd (l ++ [x]) = dd l := by rw [dd_snoc]; unfold addD; rw [if_pos (by simpa using hmem)]
    refine wpAny_pure (wpAny_pure ?_)
    show wpAny _ _ (ret Value.none) _ _ _
    exact wpAny_pure (fin _ ⟨_, _, rfl⟩ (fun b o _ q => q) ⟨o, es, ep, tb, ks, ho, hex, hd, hel, hf, hpl, hks, by rw [hdd]; exact hpm⟩)
  | none =>
    dsimp only
    have hnm : ¬ x ∈ dd l := fun hmem => by
      obtain ⟨v, hv', t', q⟩ := (txts_mem hks).mp (hpm.mem_iff.mpr hmem)
      obtain ⟨e, he, rfl⟩ := List.mem_map.mp hv'
      have := List.findIdx?_eq_none_iff.mp hr e he
      rw [q, strKind_is pr w (S x) t'] at this; cases this
    have hdd : dd (l ++ [x]) = dd l ++ [x] := by rw [dd_snoc]; unfold addD; rw [if_neg (by simpa using hnm)]
    have hgw : ∀ (b : Bool) {s₁ : Shared} {Q' : Unit → Shared → Prop} {A' : Around} {E' : Value → Shared → Prop}, Q' () s₁ → wpAny (model pr w) A' (match b with | true => rule "set.scan.the-table-gave-way" | false => pure ()) Q' E' s₁ :=
      fun b s₁ Q' A' E' hq => by cases b <;> first | exact wpAny_pure hq | exact wpAny_rule hq
    have hperm := layNew_perm tb es ((PySem.strKind pr w).hash (S x)) (.str (S x) t)
    have hfits := layNew_fits tb es ((PySem.strKind pr w).hash (S x)) (.str (S x) t)
    generalize hL : layNew tb es ((PySem.strKind pr w).hash (S x)) (.str (S x) t) = Lr at hperm hfits ⊢
    obtain ⟨es1, t1, wasDummy, gave⟩ := Lr
    dsimp only at hperm hfits ⊢
    rw [Array.toList_push] at hperm
    have hel1 : ElemsOf (PySem.strKind pr w) es1.toList := (hel.push hkey rfl).perm hperm
    have hsz1 : es1.size = es.size + 1 := by rw [← Array.length_toList, hperm.length_eq, List.length_append, Array.length_toList]; rfl
    have hb1 : es1.size < scanBound := by show _ < 4096; omega
    obtain ⟨ks1, hks1, hpm1⟩ := txts_perm' (txts_snoc (x := x) (t := t) hks) (us := es1.toList.map (·.2)) (by have := hperm.map (·.2); simpa using this)
    have hpm1' : ks1.Perm (dd (l ++ [x])) := by rw [hdd]; exact hpm1.trans (hpm.append_right _)
    refine wpAny_bind (hgw _ ?_)
    have tail : ∀ t2 : SetTable, t2.plain = false → t2.fits es1.size = true → wpAny (model pr w) A.in1 (do
        storeSet D es1 t2
        if (!wasDummy && t2.tooFull) = true then do
            (match (relayAll t2 es1 (SetTable.grown es1.size)).2.2 with | true => rule "set.scan.the-table-gave-way" | false => pure ())
            storeSet D (relayAll t2 es1 (SetTable.grown es1.size)).1 (relayAll t2 es1 (SetTable.grown es1.size)).2.1
            pure (some true)
          else pure (some true)) (fun r s' => r = some true ∧ (∃ h tk, s' = { s with heap := h, toks := tk }) ∧ (∀ b o, b ≠ D → s.heap.get? b = some o → s'.heap.get? b = some o) ∧ SetP w s'.heap D (l ++ [x])) E { s with toks := s.toks + 1 } := fun t2 hp2 hf2 => by
      refine wpAny_bind (wpAny_storeSet_of (s := { s with toks := s.toks + 1 }) ho hd ?_ (fits_of_scanBound hb1))
      have hg : (s.heap.update D (Obj.putSet es1 t2)).get? D = some { o with data := .set es1 (ep + 1) t2 } := by
        have := Heap.get?_update_self (Obj.putSet es1 t2) ho (by rw [putSet_of es1 t2 hd]; rfl)
        rw [putSet_of es1 t2 hd] at this; exact this
      have hsb := Heap.SameBut.update s.heap D (Obj.putSet es1 t2)
      split
      · have hp := relayAll_perm t2 es1 (SetTable.grown es1.size)
        have hfr := relayAll_fits t2 es1 (SetTable.grown es1.size)
        have hpr := plain_relayAll t2 es1 (SetTable.grown es1.size) hp2
        generalize hRl : relayAll t2 es1 (SetTable.grown es1.size) = Rl at hp hfr hpr ⊢
        obtain ⟨es2, t3, gave2⟩ := Rl
        dsimp only at hp hfr hpr ⊢
        have hsz : es2.size = es1.size := by rw [← Array.length_toList, hp.length_eq, Array.length_toList]
        have hb2 : es2.size < scanBound := by rw [hsz]; exact hb1
        refine wpAny_bind (hgw _ ?_)
        refine wpAny_bind (wpAny_storeSet_of (s := { s with heap := s.heap.update D (Obj.putSet es1 t2), toks := s.toks + 1 }) hg rfl ?_ (fits_of_scanBound hb2))
        have hg2 := Heap.get?_update_self (Obj.putSet es2 t3) hg (by rw [putSet_of es2 t3 rfl]; rfl)
        rw [putSet_of es2 t3 rfl] at hg2
        have hsb2 := Heap.SameBut.update (s.heap.update D (Obj.putSet es1 t2)) D (Obj.putSet es2 t3)
        obtain ⟨ks2, hks2, hpm2⟩ := txts_perm' hks1 (us := es2.toList.map (·.2)) (hp.map (·.2))
        exact wpAny_pure ⟨rfl, ⟨_, _, rfl⟩, fun b o hb q => hsb2.extBut b o hb (hsb.extBut b o hb q), ⟨_, es2, _, t3, ks2, hg2, hex, rfl, hel1.perm hp, hfr, .inl hpr, hks2, hpm2.trans hpm1'⟩⟩
      · exact wpAny_pure ⟨rfl, ⟨_, _, rfl⟩, fun b o hb q => hsb.extBut b o hb q, ⟨_, es1, _, t2, ks1, hg, hex, rfl, hel1, hf2, .inl hp2, hks1, hpm1'⟩⟩
    split
    · refine wpAny_bind ?_
      rw [hashByValue_scannable 8 (x := .str (S x) t) rfl]
      refine wpAny_pure ?_
      refine wpAny_mono (tail { t1 with plain := false } rfl (SetTable.fits_plain_off hfits)) (fun r s' hr' => ?_) fun _ _ q => q
      obtain ⟨rfl, a1, a2, a3⟩ := hr'
      refine wpAny_pure ?_
      show wpAny _ _ (ret Value.none) _ _ _
      exact wpAny_pure (fin s' a1 a2 a3)
    · rename_i hpf
      refine wpAny_bind (wpAny_pure ?_)
      simp only [↓reduceIte]
      refine wpAny_mono (tail t1 (by simpa using hpf) hfits) (fun r s' hr' => ?_) fun _ _ q => q
      obtain ⟨rfl, a1, a2, a3⟩ := hr'
      refine wpAny_pure ?_
      show wpAny _ _ (ret Value.none) _ _ _
      exact wpAny_pure (fin s' a1 a2 a3)
end Mine
end

section
open PySem PySem.W PyProof.Rows
set_option maxRecDepth 100000
namespace Mine
theorem chooseA {w : World} {A : Around} {E : Value → Shared → Prop} {s : Shared} {src : Source} {n : Nat} {Q : Nat → Shared → Prop} (hn : n ≠ 0) (h : ∀ i d, i < n → Q i { s with drawn := d }) : wpAny (model pr w) A (choose src n) Q E s := by
  intro Γ p hΓ
  unfold choose
  rw [Sem.wp_choose]
  exact ⟨hn, h _ _ (Nat.mod_lt _ (Nat.pos_of_ne_zero hn))⟩
theorem perm_erase {α : Type} : ∀ (l : List α) (i : Nat) (x : α), l[i]? = some x → (x :: l.eraseIdx i).Perm l
  | [], i, x, h => by simp at h
  | y :: l, 0, x, h => by simp at h; subst h; exact .refl _
  | y :: l, i + 1, x, h => by
    have ih := perm_erase l i x (by simpa using h)
    show (x :: y :: l.eraseIdx i).Perm (y :: l)
    exact (List.Perm.swap _ _ _).trans (ih.cons _)
theorem drawOrderA {α : Type} {w : World} {A : Around} {E : Value → Shared → Prop} : ∀ (n : Nat) (xs : List α) {s : Shared} {Q : List α → Shared → Prop}, n = xs.length → (∀ ys d, ys.Perm xs → Q ys { s with drawn := d }) → wpAny (model pr w) A (drawOrder n xs) Q E s
  | 0, xs, s, Q, hn, h => by
    have : xs = [] := List.eq_nil_of_length_eq_zero hn.symm
    subst this
    exact wpAny_pure (h [] s.drawn (.refl _))
  | n + 1, [], s, Q, hn, h => by simp at hn
  | n + 1, x :: xs, s, Q, hn, h => by
    unfold drawOrder
    refine wpAny_bind (chooseA (by simp) fun i d hi => ?_)
    have hg : (x :: xs)[i]? = some (x :: xs)[i] := List.getElem?_eq_getElem hi
    rw [hg]
    refine wpAny_bind (drawOrderA n ((x :: xs).eraseIdx i) (by rw [List.length_eraseIdx, if_pos hi]; omega) fun ys d' hp => wpAny_pure ?_)
    refine h _ d' ?_
    exact (hp.cons _).trans (perm_erase (x :: xs) i _ hg)
end Mine
end

section
open PySem PySem.W PyProof.Rows
set_option maxRecDepth 100000
namespace Mine
theorem ent_setIter : entryFor table "set.__iter__" = some Builtin.«frozenset.__iter__» := entryFor_alias (id' := "frozenset.__iter__") (by kernel_rfl) rfl (by decide +kernel) (by kernel_rfl)
theorem look_setIter : typeLookup (.type "set") "__iter__" = pure (some (.builtin "set.__iter__")) := by rw [typeLookup_type, builtinLookup_eq_fast]; kernel_rfl
theorem look_setNext : typeLookup (.type "set_iterator") "__next__" = pure (some (.builtin "set_iterator.__next__")) := by rw [typeLookup_type, builtinLookup_eq_fast]; kernel_rfl
theorem slot_setIter : PySem.Slot "set" "__iter__" "set.__iter__" := .of (owner := "set") (n := "__iter__") look_setIter (by decide +kernel) (by decide +kernel) (by decide +kernel)
  (by first | exact .inl (by decide +kernel) | exact .inr (by decide +kernel)) (by rw [isSubtype_type]; kernel_rfl)
theorem slot_setNext : PySem.Slot "set_iterator" "__next__" "set_iterator.__next__" := .of (owner := "set_iterator") (n := "__next__") look_setNext (by decide +kernel) (by decide +kernel) (by decide +kernel)
  (by first | exact .inl (by decide +kernel) | exact .inr (by decide +kernel)) (by rw [isSubtype_type]; kernel_rfl)
theorem ent_setNext : entryFor table "set_iterator.__next__" = some Builtin.«set_iterator.__next__» := entryFor_of_tree (by kernel_rfl)
theorem args_setIter (a : Value) : argsOk "set.__iter__" ⟨[a], []⟩ := by unfold argsOk; kernel_rfl
theorem args_setNext (a : Value) : argsOk "set_iterator.__next__" ⟨[a], []⟩ := by unfold argsOk; kernel_rfl
end Mine
end

section
open PySem PySem.W PyProof.Rows
set_option maxRecDepth 100000
namespace Mine
theorem pickGo_perm {α : Type} (next : Nat → Nat) : ∀ (fuel k : Nat) (left : List α) (out : Array α), fuel = left.length → (pickOrder.go next fuel k left out).toList.Perm (out.toList ++ left)
  | 0, k, left, out, h => by
    have : left = [] := List.eq_nil_of_length_eq_zero h.symm
    subst this; simp [pickOrder.go]
  | fuel + 1, k, [], out, h => by simp at h
  | fuel + 1, k, x :: left, out, h => by
    have hi : next k % (x :: left).length < (x :: left).length := Nat.mod_lt _ (by simp)
    have hg : (x :: left)[next k % (x :: left).length]? = some (x :: left)[next k % (x :: left).length] := List.getElem?_eq_getElem hi
    unfold pickOrder.go
    rw [hg]
    dsimp only
    refine (pickGo_perm next fuel (k + 1) _ _ (by rw [List.length_eraseIdx, if_pos hi]; omega)).trans ?_
    rw [Array.toList_push, List.append_assoc]
    exact (perm_erase _ _ _ hg).append_left _
theorem pick_perm {α : Type} (next : Nat → Nat) (xs : Array α) : (pickOrder next xs).toList.Perm xs.toList := by
  have := pickGo_perm next xs.size 0 xs.toList #[] (by simp)
  simpa [pickOrder] using this
def SetIt (h : Heap) (I D : Addr) (first : Value) (i n ep : Nat) : Prop :=
  ∃ o, h.get? I = some o ∧ o.cls = .type "set_iterator" ∧ o.data = .fields #[first, .int i 0, .ref D, .int n 0, .int ep 0]
theorem SetIt.ty {s : Shared} {I D : Addr} {first : Value} {i n ep : Nat} (x : SetIt s.heap I D first i n ep) : s.TypeIs (.ref I) "set_iterator" := let ⟨o, a, b, _⟩ := x; ⟨o, a, b⟩
theorem SetIt.upd {h : Heap} {I D : Addr} {first : Value} {i n ep : Nat} (x : SetIt h I D first i n ep) (j : Nat) (v : Value) : ∃ o, h.get? I = some o ∧ o.cls = .type "set_iterator" ∧
    (h.update I (Obj.mapFields (·.setIfInBounds j v))).get? I = some (o.mapFields (·.setIfInBounds j v)) ∧ (o.mapFields (·.setIfInBounds j v)).cls = .type "set_iterator" ∧ (o.mapFields (·.setIfInBounds j v)).data = .fields (#[first, .int i 0, .ref D, .int n 0, .int ep 0].setIfInBounds j v) := by
  obtain ⟨o, ho, hc, hd⟩ := x
  exact ⟨o, ho, hc, Heap.get?_update_self _ ho (Obj.isFreed_of_fields (Obj.data_mapFields hd _)), (Obj.cls_mapFields ..).trans hc, Obj.data_mapFields hd _⟩
section
variable {w : World} {A : Around} {E : Value → Shared → Prop} {s : Shared}
theorem setNext_stop {Q : Option Value → Shared → Prop} {h' : Heap} (hh : A.handled = none) (hQ : ∀ h'', (∀ b o, h'.get? b = some o → h''.get? b = some o) → Q none { s with heap := h'' }) :
    wpAny (model pr w) A.in1 (newExc (.type "StopIteration") [] >>= raiseNew) (fun (_ : PySem.Fin) _ => False)
      (fun e s' => wpAny (model pr w) A (do if ← isInstance e (.type "StopIteration") then pure none else throw e) Q E s') { s with heap := h' } := by
  refine wpAny_bind ?_
  simp only [newExc, newTuple]
  refine wpAny_bind (wpAny_newObj_type ?_ (by size_fits))
  refine wpAny_bind (m := firstArgMember _ _) (wpAny_of_eq (a := Value.none) (by first | rfl | (simp only [firstArgMember]; rfl)) ?_)
  refine wpAny_newObj_type ?_ (by size_fits)
  simp only [raiseNew]
  refine wpAny_bind (wpAny_handled ?_)
  rw [show A.in1.handled = none from hh]
  refine wpAny_bind (wpAny_pure (wpAny_throw ?_))
  refine wpAny_bind (wpAny_isInstance (T := "StopIteration") (b := true) ⟨_, Heap.get?_push_size _ rfl, rfl⟩ isSubtype_stop ?_)
  exact wpAny_pure (hQ _ fun b o q => Heap.get?_push_of_some _ (Heap.get?_push_of_some _ q))
end
end Mine
end

section
open PySem PySem.W PyProof.Rows
set_option maxRecDepth 100000
namespace Mine
/-- the set D as it lies -/
structure SetL (h : Heap) (D : Addr) (es : Array (Int × Value)) (ep : Nat) (t : SetTable) : Prop where
  at' : ∃ o, h.get? D = some o ∧ o.data = .set es ep t
  fits : t.fits es.size = true
theorem SetL.keeps {h h' : Heap} {D : Addr} {es : Array (Int × Value)} {ep : Nat} {t : SetTable} (x : SetL h D es ep t) (k : ∀ o, h.get? D = some o → h'.get? D = some o) : SetL h' D es ep t := ⟨let ⟨o, a, b⟩ := x.at'; ⟨o, k o a, b⟩, x.fits⟩
theorem ent_setItIter : entryFor table "set_iterator.__iter__" = some Builtin.«dict_keyiterator.__iter__» := entryFor_alias (id' := "dict_keyiterator.__iter__") (by kernel_rfl) rfl (by decide +kernel) (by kernel_rfl)
theorem look_setItIter : typeLookup (.type "set_iterator") "__iter__" = pure (some (.builtin "set_iterator.__iter__")) := by rw [typeLookup_type, builtinLookup_eq_fast]; kernel_rfl
theorem slot_setItIter : PySem.Slot "set_iterator" "__iter__" "set_iterator.__iter__" := .of (owner := "set_iterator") (n := "__iter__") look_setItIter (by decide +kernel) (by decide +kernel) (by decide +kernel)
  (by first | exact .inl (by decide +kernel) | exact .inr (by decide +kernel)) (by rw [isSubtype_type]; kernel_rfl)
theorem args_setItIter (a : Value) : argsOk "set_iterator.__iter__" ⟨[a], []⟩ := by unfold argsOk; kernel_rfl
section
variable {w : World} {A : Around} {E : Value → Shared → Prop} {s : Shared}
theorem stA {D : Addr} {es : Array (Int × Value)} {ep : Nat} {t : SetTable} {Q : (Array (Int × Value) × Nat × SetTable) → Shared → Prop} (x : SetL s.heap D es ep t) (h : Q (es, ep, t) s) : wpAny (model pr w) A (setState D) Q E s :=
  let ⟨_, a, b⟩ := x.at'; wpAny_setState_of a b x.fits h
theorem entA {D : Addr} {es : Array (Int × Value)} {ep : Nat} {t : SetTable} {Q : Array (Int × Value) → Shared → Prop} (x : SetL s.heap D es ep t) (h : Q es s) : wpAny (model pr w) A (setEntries D) Q E s := by
  unfold setEntries; exact wpAny_bind (stA x (wpAny_pure h))
theorem byText {b : Bool} {Q : Bool → Shared → Prop} (hb : w.params.followText "set-order" = b) (h : Q b s) : wpAny (model pr w) A setsByText Q E s := by
  unfold setsByText
  refine wpAny_bind (wpAny_askSetting (wpAny_pure ?_))
  show Q (w.params.followText "set-order") s
  rw [hb]; exact h
theorem walkText {D : Addr} {es : Array (Int × Value)} {ep : Nat} {t : SetTable} {Q : Array (Int × Value) → Shared → Prop} (x : SetL s.heap D es ep t) (hb : w.params.followText "set-order" = true) (h : Q (pickOrder (w.params.setOrder D ep) es) s) :
    wpAny (model pr w) A (setWalk D) Q E s := by
  unfold setWalk
  refine wpAny_bind (stA x ?_)
  dsimp only
  refine wpAny_bind (byText hb ?_)
  rw [if_pos rfl]
  exact wpAny_bind (wpAny_askSetting (wpAny_pure h))
theorem nextText {D : Addr} {es : Array (Int × Value)} {ep slot given : Nat} {t : SetTable} {Q : Option (Value × Nat) → Shared → Prop} (x : SetL s.heap D es ep t) (hb : w.params.followText "set-order" = true)
    (h : Q (((pickOrder (w.params.setOrder D ep) es)[given]?).map fun e => (e.2, slot)) s) : wpAny (model pr w) A (setNext D slot given ep) Q E s := by
  unfold setNext
  refine wpAny_bind (stA x ?_)
  dsimp only
  refine wpAny_bind (byText hb ?_)
  rw [if_pos rfl]
  rw [if_neg (by simp)]
  refine wpAny_bind ?_
  first
    | exact wpAny_bind (walkText x hb (wpAny_pure h))
    | exact walkText x hb (wpAny_pure h)
    | exact wpAny_pure (wpAny_bind (walkText x hb (wpAny_pure h)))
end
/-- walking the set in the order of the text -/
theorem walksText {w : World} {A : Around} (hh : A.handled = none) (hb : w.params.followText "set-order" = true) (I D : Addr) (hne : D ≠ I) (es : Array (Int × Value)) (ep : Nat) (t : SetTable) :
    WalksS pr w A I [I, D] [I] (fun a b => b = a) es.size (fun i v => (((pickOrder (w.params.setOrder D ep) es).toList.map (·.2)))[i]? = some v) (fun i s => SetIt s.heap I D (.int 0 0) i es.size ep ∧ SetL s.heap D es ep t) where
  sub := fun b hb => by simp at hb; simp [hb]
  grefl := fun _ => rfl
  gtrans := fun a b c h1 h2 => h2.trans h1
  frame := fun i s h' tk st _ hk => ⟨let ⟨o, a, r⟩ := st.1; ⟨o, hk I (by simp) o a, r⟩, st.2.keeps fun o e => hk D (by simp) o e⟩
  item := fun i s Q E hi st hQ => by
    obtain ⟨o, ho, hc, hd⟩ := id st.1
    have hsz : (pickOrder (w.params.setOrder D ep) es).size = es.size := by
      have := (pick_perm (w.params.setOrder D ep) es).length_eq
      simpa using this
    have hi' : i < (pickOrder (w.params.setOrder D ep) es).size := by omega
    have hg : (pickOrder (w.params.setOrder D ep) es)[i]? = some (pickOrder (w.params.setOrder D ep) es)[i] := by simp [hi']
    unfold pyNext
    refine wpAny_bind (wpAny_attempt (wpAny_callSpecial?_slot (name := Str.ofString "__next__") st.1.ty slot_setNext
      (wpAny_call_entry slot_setNext st.1.ty ent_setNext ?_ (args_setNext _))))
    show wpAny _ A.in1 (fieldsOf (.ref I) >>= _) _ _ s
    refine wpAny_bind (wpAny_fieldsOf ho hd ?_)
    show wpAny _ A.in1 (setEntries D >>= _) _ _ s
    refine wpAny_bind (entA st.2 ?_)
    rw [if_neg (by simp)]
    show wpAny _ A.in1 (setNext D 0 i ep >>= _) _ _ s
    refine wpAny_bind (nextText st.2 hb ?_)
    rw [hg]
    show wpAny _ A.in1 (setField (.ref I) 0 (rawInt (0 : Nat)) >>= _) _ _ s
    refine wpAny_bind (wpAny_setField ho hd (by simp) ?_)
    have h1 : (s.heap.update I (Obj.mapFields (·.setIfInBounds 0 (rawInt (0 : Nat))))).get? I = some (o.mapFields (·.setIfInBounds 0 (rawInt (0 : Nat)))) := Heap.get?_update_self _ ho (Obj.isFreed_of_fields (Obj.data_mapFields hd _))
    have hd1 := Obj.data_mapFields hd (·.setIfInBounds 0 (rawInt (0 : Nat)))
    show wpAny _ A.in1 (setField (.ref I) 1 (rawInt ((i : Int) + 1)) >>= _) _ _ _
    refine wpAny_bind (wpAny_setField h1 hd1 (by simp) ?_)
    refine wpAny_pure ⟨_, rfl, wpAny_pure ?_⟩
    have h2 : ((s.heap.update I (Obj.mapFields (·.setIfInBounds 0 (rawInt (0 : Nat))))).update I (Obj.mapFields (·.setIfInBounds 1 (rawInt ((i : Int) + 1))))).get? I = some _ := Heap.get?_update_self _ h1 (Obj.isFreed_of_fields (Obj.data_mapFields hd1 _))
    have oth : ∀ b o, b ≠ I → s.heap.get? b = some o → ((s.heap.update I (Obj.mapFields (·.setIfInBounds 0 (rawInt (0 : Nat))))).update I (Obj.mapFields (·.setIfInBounds 1 (rawInt ((i : Int) + 1))))).get? b = some o :=
      fun b o hb q => Heap.get?_update_of_ne _ (Ne.symm hb) (Heap.get?_update_of_ne _ (Ne.symm hb) q)
    refine hQ _ _ ?_ ⟨⟨_, h2, ?_, ?_⟩, st.2.keeps fun o q => oth D o hne q⟩ ⟨fun b o hb q => oth b o (by simpa using hb) q, rfl, rfl, rfl, Nat.le_refl _⟩
    · simp [hi']
    · exact (Obj.cls_mapFields ..).trans ((Obj.cls_mapFields ..).trans hc)
    · rw [Obj.data_mapFields hd1]; simp [rawInt]
  done := fun s Q E st hQ => by
    obtain ⟨o, ho, hc, hd⟩ := id st.1
    have hsz : (pickOrder (w.params.setOrder D ep) es).size = es.size := by
      have := (pick_perm (w.params.setOrder D ep) es).length_eq
      simpa using this
    have hg : (pickOrder (w.params.setOrder D ep) es)[es.size]? = none := by simp [hsz]
    unfold pyNext
    refine wpAny_bind (wpAny_attempt (wpAny_callSpecial?_slot (name := Str.ofString "__next__") st.1.ty slot_setNext
      (wpAny_call_entry slot_setNext st.1.ty ent_setNext ?_ (args_setNext _))))
    show wpAny _ A.in1 (fieldsOf (.ref I) >>= _) _ _ s
    refine wpAny_bind (wpAny_fieldsOf ho hd ?_)
    show wpAny _ A.in1 (setEntries D >>= _) _ _ s
    refine wpAny_bind (entA st.2 ?_)
    rw [if_neg (by simp)]
    show wpAny _ A.in1 (setNext D 0 es.size ep >>= _) _ _ s
    refine wpAny_bind (nextText st.2 hb ?_)
    rw [hg]
    show wpAny _ A.in1 (setField (.ref I) 2 .none >>= fun _ => newExc (.type "StopIteration") [] >>= raiseNew) _ _ s
    refine wpAny_bind (wpAny_setField ho hd (by simp) ?_)
    refine wpAny_mono (setNext_stop hh fun h'' k => ?_) (fun _ _ z => z.elim) fun _ _ z => z
    exact hQ _ ⟨fun b o hb q => k b o (Heap.get?_update_of_ne _ (Ne.symm (by simpa using hb)) q), rfl, rfl, rfl, Nat.le_refl _⟩
  self := fun i s Q E st hQ => by
    refine wpAny_pyIter_slot st.1.ty slot_setItIter (wpAny_call_entry slot_setItIter st.1.ty ent_setItIter ?_ (args_setItIter _))
    show wpAny _ _ (ret (.ref I)) _ _ s
    exact wpAny_pure ⟨_, rfl, "set_iterator", _, st.1.ty, slot_setNext.lookup, hQ⟩
end Mine
end

section
open PySem PySem.W PyProof.Rows
set_option maxRecDepth 100000
namespace Mine
theorem drawnNext {w : World} {A : Around} {E : Value → Shared → Prop} {s : Shared} {D : Addr} {es : Array (Int × Value)} {ep place : Nat} {t : SetTable} {e : Int × Value} {Q : Value → Shared → Prop} (x : SetL s.heap D es ep t) (he : es[place]? = some e) (h : Q e.2 s) :
    wpAny (model pr w) A (setNextDrawn D place ep) Q E s := by
  unfold setNextDrawn
  refine wpAny_bind (stA x ?_)
  dsimp only
  rw [if_neg (by simp)]
  rw [he]; exact wpAny_pure h
/-- walking the set in a drawn order -/
theorem walksDrawn {w : World} {A : Around} (hh : A.handled = none) (I D T : Addr) (hne : D ≠ I) (hnT : T ≠ I) (es : Array (Int × Value)) (ep : Nat) (t : SetTable) (pl : List Nat) (hpl : pl.Perm (List.range es.size)) :
    WalksS pr w A I [I, D, T] [I] (fun a b => b = a) es.size (fun i v => (pl.map fun p => (es.toList.map (·.2)).getD p .none)[i]? = some v) (fun i s => SetIt s.heap I D (.ref T) i es.size ep ∧ SetL s.heap D es ep t ∧ s.heap.get? T = some (seqObj "tuple" (pl.map fun (p : Nat) => rawInt p).toArray 0)) where
  sub := fun b hb => by simp at hb; simp [hb]
  grefl := fun _ => rfl
  gtrans := fun a b c h1 h2 => h2.trans h1
  frame := fun i s h' tk st _ hk => ⟨let ⟨o, a, r⟩ := st.1; ⟨o, hk I (by simp) o a, r⟩, st.2.1.keeps fun o e => hk D (by simp) o e, hk T (by simp) _ st.2.2⟩
  item := fun i s Q E hi st hQ => by
    obtain ⟨o, ho, hc, hd⟩ := id st.1
    have hlen : pl.length = es.size := by simpa using hpl.length_eq
    have hi' : i < pl.length := by omega
    have hp : pl[i] < es.size := by
      have := hpl.mem_iff.mp (List.getElem_mem hi')
      simpa using this
    unfold pyNext
    refine wpAny_bind (wpAny_attempt (wpAny_callSpecial?_slot (name := Str.ofString "__next__") st.1.ty slot_setNext
      (wpAny_call_entry slot_setNext st.1.ty ent_setNext ?_ (args_setNext _))))
    show wpAny _ A.in1 (fieldsOf (.ref I) >>= _) _ _ s
    refine wpAny_bind (wpAny_fieldsOf ho hd ?_)
    show wpAny _ A.in1 (setEntries D >>= _) _ _ s
    refine wpAny_bind (entA st.2.1 ?_)
    rw [if_neg (by simp)]
    show wpAny _ A.in1 (seqItems? (.ref T) >>= _) _ _ s
    refine wpAny_bind (wpAny_seqItems st.2.2 rfl ?_)
    dsimp only
    rw [Int.toNat_natCast, show (pl.map fun (p : Nat) => rawInt p).toArray[i]? = some (rawInt pl[i]) by simp [hi']]
    show wpAny _ A.in1 (setNextDrawn D pl[i] ep >>= _) _ _ s
    refine wpAny_bind (drawnNext st.2.1 (e := es[pl[i]]) (by simp [hp]) ?_)
    show wpAny _ A.in1 (setField (.ref I) 1 (rawInt ((i : Int) + 1)) >>= _) _ _ s
    refine wpAny_bind (wpAny_setField ho hd (by simp) ?_)
    refine wpAny_pure ⟨_, rfl, wpAny_pure ?_⟩
    have h2 : (s.heap.update I (Obj.mapFields (·.setIfInBounds 1 (rawInt ((i : Int) + 1))))).get? I = some _ := Heap.get?_update_self _ ho (Obj.isFreed_of_fields (Obj.data_mapFields hd _))
    have oth : ∀ b o, b ≠ I → s.heap.get? b = some o → (s.heap.update I (Obj.mapFields (·.setIfInBounds 1 (rawInt ((i : Int) + 1))))).get? b = some o :=
      fun b o hb q => Heap.get?_update_of_ne _ (Ne.symm hb) q
    refine hQ _ _ ?_ ⟨⟨_, h2, ?_, ?_⟩, st.2.1.keeps fun o q => oth D o hne q, oth T _ hnT st.2.2⟩ ⟨fun b o hb q => oth b o (by simpa using hb) q, rfl, rfl, rfl, Nat.le_refl _⟩
    · simp [hi', hp]
    · exact (Obj.cls_mapFields ..).trans hc
    · rw [Obj.data_mapFields hd]; simp [rawInt]
  done := fun s Q E st hQ => by
    obtain ⟨o, ho, hc, hd⟩ := id st.1
    have hlen : pl.length = es.size := by simpa using hpl.length_eq
    unfold pyNext
    refine wpAny_bind (wpAny_attempt (wpAny_callSpecial?_slot (name := Str.ofString "__next__") st.1.ty slot_setNext
      (wpAny_call_entry slot_setNext st.1.ty ent_setNext ?_ (args_setNext _))))
    show wpAny _ A.in1 (fieldsOf (.ref I) >>= _) _ _ s
    refine wpAny_bind (wpAny_fieldsOf ho hd ?_)
    show wpAny _ A.in1 (setEntries D >>= _) _ _ s
    refine wpAny_bind (entA st.2.1 ?_)
    rw [if_neg (by simp)]
    show wpAny _ A.in1 (seqItems? (.ref T) >>= _) _ _ s
    refine wpAny_bind (wpAny_seqItems st.2.2 rfl ?_)
    dsimp only
    rw [Int.toNat_natCast, show (pl.map fun (p : Nat) => rawInt p).toArray[es.size]? = none by simp [hlen]]
    show wpAny _ A.in1 (setField (.ref I) 0 (rawInt 0) >>= fun _ => setField (.ref I) 2 .none >>= fun _ => newExc (.type "StopIteration") [] >>= raiseNew) _ _ s
    refine wpAny_bind (wpAny_setField ho hd (by simp) ?_)
    have h1 : (s.heap.update I (Obj.mapFields (·.setIfInBounds 0 (rawInt 0)))).get? I = some (o.mapFields (·.setIfInBounds 0 (rawInt 0))) := Heap.get?_update_self _ ho (Obj.isFreed_of_fields (Obj.data_mapFields hd _))
    have hd1 := Obj.data_mapFields hd (·.setIfInBounds 0 (rawInt 0))
    refine wpAny_bind (wpAny_setField h1 hd1 (by simp) ?_)
    refine wpAny_mono (setNext_stop hh fun h'' k => ?_) (fun _ _ z => z.elim) fun _ _ z => z
    exact hQ _ ⟨fun b o hb q => k b o (Heap.get?_update_of_ne _ (Ne.symm (by simpa using hb)) (Heap.get?_update_of_ne _ (Ne.symm (by simpa using hb)) q)), rfl, rfl, rfl, Nat.le_refl _⟩
  self := fun i s Q E st hQ => by
    refine wpAny_pyIter_slot st.1.ty slot_setItIter (wpAny_call_entry slot_setItIter st.1.ty ent_setItIter ?_ (args_setItIter _))
    show wpAny _ _ (ret (.ref I)) _ _ s
    exact wpAny_pure ⟨_, rfl, "set_iterator", _, st.1.ty, slot_setNext.lookup, hQ⟩
/-- what was stays; the draws may go on -/
structure Drew (s s' : Shared) : Prop where
  os : s'.os = s.os
  gens : s'.gens = s.gens
  keep : ∀ b o, s.heap.get? b = some o → s'.heap.get? b = some o
theorem Drew.of {s s' : Shared} (k : Keeps s s') : Drew s s' := by obtain ⟨h, t, rfl, kk⟩ := k; exact ⟨rfl, rfl, kk⟩
theorem Drew.trans {s s' s'' : Shared} (x : Drew s s') (y : Drew s' s'') : Drew s s'' := ⟨y.os.trans x.os, y.gens.trans x.gens, fun b o e => y.keep b o (x.keep b o e)⟩
theorem perm_idx {α : Type} {l : List α} {d : α} {pl : List Nat} (h : pl.Perm (List.range l.length)) : (pl.map fun p => l.getD p d).Perm l := by
  refine (h.map _).trans ?_
  have : (List.range l.length).map (fun i => l.getD i d) = l := by
    refine List.ext_getElem (by simp) fun i h1 h2 => ?_
    simp [h2]
  rw [this]
/-- the iterator of a set of texts -/
theorem setIter {w : World} {A : Around} {E : Value → Shared → Prop} {s : Shared} {D : Addr} {l : List (List Nat)} {Q : Value → Shared → Prop} (hA : A.handled = none) (hS : SetP w s.heap D l) (h2 : 2 ≤ (dd l).length) (hle : (dd l).length ≤ 1000)
    (h : ∀ I fp n (us : List Value) ks St s', n = us.length → WalksS pr w A I fp [I] (fun a b => b = a) n (fun i v => us[i]? = some v) St → St 0 s' → (∀ b ∈ fp, s.heap.get? b = none ∨ b = D) → s.heap.get? I = none → Drew s s' → s.toks ≤ s'.toks → Txts us ks → ks.Perm (dd l) → Q (.ref I) s') :
    wpAny (model pr w) A (pyIter (.ref D)) Q E s := by
  obtain ⟨o, es, ep, tb, ks, ho, hex, hd, hel, hf, hpl, hks, hpm⟩ := hS.at'
  have hT : s.TypeIs (.ref D) "set" := ⟨o, ho, hex.1⟩
  have L : SetL s.heap D es ep tb := ⟨⟨o, ho, hd⟩, hf⟩
  have hesz : es.size = (dd l).length := by rw [← Array.length_toList, ← List.length_map (f := (·.2)), txts_len hks, hpm.length_eq]
  have hDlt := Heap.lt_size ho
  refine wpAny_pyIter_slot hT slot_setIter (wpAny_call_entry slot_setIter hT ent_setIter ?_ (args_setIter _))
  show wpAny _ A.in1 (Builtin.Frozenset.sizeOf D >>= _) _ _ s
  unfold Builtin.Frozenset.sizeOf
  refine wpAny_bind (wpAny_bind (entA L (wpAny_pure ?_)))
  refine wpAny_bind ?_
  unfold setDrawn
  refine wpAny_bind (stA L ?_)
  dsimp only
  cases hb : w.params.followText "set-order" with
  | true =>
    refine wpAny_bind (byText hb (wpAny_pure ?_))
    simp only [Bool.not_true, Bool.false_and, Bool.false_eq_true, if_false]
    refine wpAny_bind (wpAny_pure ?_)
    refine wpAny_bind ?_
    unfold setEpoch
    refine wpAny_bind (stA L (wpAny_pure ?_))
    refine wpAny_bind (wpAny_newObj_type ?_ (by size_fits))
    refine wpAny_pure ⟨_, rfl, "set_iterator", _, ⟨_, Heap.get?_push_size _ rfl, rfl⟩, slot_setNext.lookup, ?_⟩
    obtain ⟨ks', hks', hpm'⟩ := txts_perm' hks (us := (pickOrder (w.params.setOrder D ep) es).toList.map (·.2)) ((pick_perm _ _).map _)
    have hul : ((pickOrder (w.params.setOrder D ep) es).toList.map (·.2)).length = es.size := by rw [List.length_map, (pick_perm _ _).length_eq]; simp
    refine h s.heap.objs.size [s.heap.objs.size, D] es.size _ ks' _ _ hul.symm (walksText hA hb _ D (Nat.ne_of_lt hDlt) es ep tb) ⟨⟨_, Heap.get?_push_size _ rfl, rfl, rfl⟩, L.keeps fun o q => Heap.get?_push_of_some _ q⟩ ?_ (size_none _) (.of (kPushH _)) (Nat.le_refl _) hks' (hpm'.trans hpm)
    intro b hb
    simp only [List.mem_cons, List.not_mem_nil, or_false] at hb
    rcases hb with rfl | rfl
    · exact .inl (size_none _)
    · exact .inr rfl
  | false =>
    have hp : tb.plain = false := hpl.resolve_right (by omega)
    refine wpAny_bind (byText hb (wpAny_pure ?_))
    have hdr : (!false && (!tb.plain && decide (es.size > 1))) = true := by rw [hp]; simp; omega
    refine wpAny_ite_true ?_ ?_
    · exact decide_eq_true hdr
    refine wpAny_bind (drawOrderA es.size (List.range es.size) (by simp) fun pl d hpp => ?_)
    refine wpAny_bind (wpAny_newTuple ?_ (by simp [hpp.length_eq]; rw [sizeLine_eq]; omega))
    refine wpAny_bind ?_
    unfold setEpoch
    refine wpAny_bind (stA (L.keeps fun o q => Heap.get?_push_of_some _ q) (wpAny_pure ?_))
    refine wpAny_bind (wpAny_newObj_type ?_ (by size_fits))
    have hsz1 : (s.heap.push (seqObj "tuple" (pl.map fun (p : Nat) => rawInt p).toArray 0)).objs.size = s.heap.objs.size + 1 := Heap.size_push ..
    have hlen : pl.length = es.size := by simpa using hpp.length_eq
    have hTo : ((s.heap.push (seqObj "tuple" (pl.map fun (p : Nat) => rawInt p).toArray 0))).get? s.heap.objs.size = some (seqObj "tuple" (pl.map fun (p : Nat) => rawInt p).toArray 0) := Heap.get?_push_size _ rfl
    refine wpAny_pure ⟨_, rfl, "set_iterator", _, ⟨_, Heap.get?_push_size _ rfl, rfl⟩, slot_setNext.lookup, ?_⟩
    have hpl' : (pl.map fun p => (es.toList.map (·.2)).getD p .none).Perm (es.toList.map (·.2)) := perm_idx (by simpa using hpp)
    obtain ⟨ks', hks', hpm'⟩ := txts_perm' hks hpl'
    have hul : (pl.map fun p => (es.toList.map (·.2)).getD p .none).length = es.size := by simpa using hlen
    have key : Q (.ref (s.heap.objs.size + 1)) { s with heap := ((s.heap.push (seqObj "tuple" (pl.map fun (p : Nat) => rawInt p).toArray 0)).push { cls := .type "set_iterator", data := .fields #[.ref s.heap.objs.size, rawInt 0, .ref D, rawInt es.size, rawInt ep] }), drawn := d } := ?key
    · rw [← hsz1] at key; exact key
    refine h (s.heap.objs.size + 1) [s.heap.objs.size + 1, D, s.heap.objs.size] es.size _ ks' _ _ hul.symm (walksDrawn hA (s.heap.objs.size + 1) D s.heap.objs.size (Nat.ne_of_lt (Nat.lt_succ_of_lt hDlt)) (Nat.ne_of_lt (Nat.lt_succ_self _)) es ep tb pl hpp) ?_ ?_ ?_ ?_ ?_ hks' (hpm'.trans hpm)
    · have hI : ∀ o : Obj, o.isFreed = false → ((s.heap.push (seqObj "tuple" (pl.map fun (p : Nat) => rawInt p).toArray 0)).push o).get? (s.heap.objs.size + 1) = some o := fun o hfr => by
        rw [← hsz1]; exact Heap.get?_push_size _ hfr
      exact ⟨⟨_, hI _ rfl, rfl, rfl⟩, L.keeps fun o q => Heap.get?_push_of_some _ (Heap.get?_push_of_some _ q), Heap.get?_push_of_some _ hTo⟩
    · intro b hb
      simp only [List.mem_cons, List.not_mem_nil, or_false] at hb
      rcases hb with rfl | rfl | rfl
      · exact .inl (Heap.get?_none_of_le (Nat.le_succ _))
      · exact .inr rfl
      · exact .inl (size_none _)
    · exact Heap.get?_none_of_le (Nat.le_succ _)
    · exact ⟨rfl, rfl, fun b o q => Heap.get?_push_of_some _ (Heap.get?_push_of_some _ q)⟩
    · exact Nat.le_refl _
end Mine
end

section
open PySem PySem.W PyProof.Rows
set_option maxRecDepth 100000
namespace Mine
theorem look_setLen : typeLookup (.type "set") "__len__" = pure (some (.builtin "set.__len__")) := by rw [typeLookup_type, builtinLookup_eq_fast]; kernel_rfl
theorem split_setLen : splitId "set.__len__" = some ("set", "__len__") := by decide +kernel
theorem moved_drew {wr : List Addr} {s s' : Shared} (x : Moved wr (fun a b => b = a) s s') (hw : ∀ b ∈ wr, s.heap.get? b = none) : Drew s s' := ⟨x.os, x.gens, fun b o q => x.heap b o (fun hb => by rw [hw b hb] at q; cases q) q⟩
theorem setLenHint {w : World} {A : Around} {E : Value → Shared → Prop} {s : Shared} {D : Addr} {Q : Bool → Shared → Prop} (hT : s.TypeIs (.ref D) "set") (h : Q false s) : wpAny (model pr w) A (Builtin.List.listLengthHint (.ref D)) Q E s := by
  unfold Builtin.List.listLengthHint
  refine wpAny_bind (wpAny_specialOf hT look_setLen ?_)
  (generalize hid : ("set.__len__" : String) = id0; (fail_if_success (clear hid id0)); wp_delta; rw [show splitId id0 = some ("set", "__len__") from by subst hid; decide +kernel]; subst hid)
  refine wpAny_bind (wpAny_isInstance (T := "set") (b := true) hT (by rw [isSubtype_type]; kernel_rfl) ?_)
  refine wpAny_ite_false (by decide) ?_
  refine wpAny_ite_true (by decide +kernel) ?_
  refine wpAny_bind (wpAny_typeOf hT ?_)
  exact wpAny_pure h
theorem collectSet {w : World} {A : Around} {E : Value → Shared → Prop} {s : Shared} {D : Addr} {l : List (List Nat)} {Q : List Value → Shared → Prop} (hA : A.handled = none) (hS : SetP w s.heap D l) (h2 : 2 ≤ (dd l).length) (hle : (dd l).length ≤ 1000)
    (h : ∀ us ks s', Drew s s' → Txts us ks → ks.Perm (dd l) → Q us s') : wpAny (model pr w) A (collect (.ref D)) Q E s := by
  obtain ⟨o, es, ep, tb, ks, ho, hex, hd, hel, hf, hpl, hks, hpm⟩ := id hS.at'
  have hT : ∀ {s' : Shared}, s'.heap.get? D = some o → s'.TypeIs (.ref D) "set" := fun q => ⟨o, q, hex.1⟩
  have hDlt := Heap.lt_size ho
  unfold collect
  refine wpAny_bind (wpAny_runValue (codeAny_builtin F.entry_proto_collect ?_))
  rw [Around.under_plainId F.plain_proto_collect _]
  show wpAny _ A.in1 (newList [] >>= fun l => again (.builtin "list.__iadd__" ⟨[l, .ref D], []⟩)) _ _ s
  refine wpAny_bind (wpAny_newObj_type ?_)
  refine wpAny_pure ⟨plainId_quiet F.plain_list_iadd _, codeAny_builtin F.entry_list_iadd ?_⟩
  rw [Around.under_plainId F.plain_list_iadd _]
  have hS₁ : (s.heap.push { cls := .type "list", data := .seq ([] : List Value).toArray }).get? s.heap.objs.size = some { cls := .type "list", data := .seq ([] : List Value).toArray } := Heap.get?_push_size _ rfl
  have hSD : s.heap.objs.size ≠ D := Nat.ne_of_gt hDlt
  have h1 : Builtin.List.listSameRef (.ref s.heap.objs.size) (.ref D) = false := by simp [Builtin.List.listSameRef, hSD]
  have up1 : ∀ b o, s.heap.get? b = some o → (s.heap.push { cls := .type "list", data := .seq ([] : List Value).toArray }).get? b = some o := fun b o q => Heap.get?_push_of_some _ q
  have fS := size_none s.heap
  show wpAny _ A.in1 (Builtin.List.listExtendWith (.ref s.heap.objs.size) (.ref D) (.ref s.heap.objs.size)) _ _ _
  unfold Builtin.List.listExtendWith
  refine wpAny_bind (wpAny_typeOf (hT (up1 _ _ ho)) ?_)
  rw [if_neg (by rw [h1]; decide)]
  generalize s.heap.objs.size = S₀ at *
  refine wpAny_bind (setIter (A := A.in1) hA (hS.keeps fun o q => up1 _ o q) h2 hle fun I fp n us ks' St s₂ hn W hst hfp fI dr _ hus hpm' => ?_)
  refine wpAny_bind (wpAny_holding (setLenHint (hT (dr.keep _ _ (up1 _ _ ho))) ?_))
  rw [if_pos (by decide +kernel)]
  have hS₂ := dr.keep _ _ hS₁
  refine wpAny_bind (wpAny_rule ?_)
  refine wpAny_bind ?_
  show wpAny _ A.in1 (updateSeq S₀ (·.push .none) >>= fun _ => updateSeq S₀ (·.pop)) _ _ _
  refine wpAny_bind (wpAny_updateSeq hS₂ rfl ?_)
  have hS₃ := Heap.get?_update_self (Obj.mapSeq (·.push Value.none)) hS₂ rfl
  refine wpAny_updateSeq hS₃ rfl ?_
  have hS₄ := Heap.get?_update_self (Obj.mapSeq (·.pop)) hS₃ rfl
  have oth : ∀ b o, b ≠ S₀ → s₂.heap.get? b = some o → ((s₂.heap.update S₀ (Obj.mapSeq (·.push Value.none))).update S₀ (Obj.mapSeq (·.pop))).get? b = some o :=
    fun b o hb e => (Heap.get?_update_other _ _ (Ne.symm hb)).trans ((Heap.get?_update_other _ _ (Ne.symm hb)).trans e)
  have hSf : S₀ ∉ fp := fun z => by
    rcases hfp _ z with q | q
    · exact absurd (q.symm.trans hS₁) (by intro y; cases y)
    · exact hSD q
  have fI' : s.heap.get? I = none := by
    cases q : s.heap.get? I with
    | none => rfl
    | some o => exact absurd ((up1 _ _ q).symm.trans fI) (by intro y; cases y)
  refine wpAny_pure ⟨plainId_quiet F.plain_extend_loop _, codeAny_extend_loopS W (by rw [hn, txts_len hus, hpm'.length_eq, sizeLine_eq]; omega) _ hSf _ n 0 _ _ _ rfl (Nat.zero_le _)
    (W.frame 0 s₂ _ s₂.toks hst (Nat.le_refl _) fun b hb o e => oth b o (fun z => hSf (z ▸ hb)) e) hS₄ (ItemsOf.nil _) fun s' acc' c' hm hS' hacc => ?_⟩
  show wpAny _ A (load S₀ >>= _) _ _ s'
  refine wpAny_bind (wpAny_load hS' ?_)
  refine wpAny_pure ?_
  have hac : acc'.toList = us := by
    refine List.ext_getElem (by rw [Array.length_toList, hacc.1, hn]) fun i h1 h2 => ?_
    have := hacc.2 i acc'.toList[i] (by simp at h1; simp [h1])
    change us[i]? = some _ at this
    rw [List.getElem?_eq_getElem h2] at this
    exact (Option.some.inj this).symm
  rw [hac]
  refine h us ks' s' ?_ hus hpm'
  have dr0 : ∀ b o, s.heap.get? b = some o → s₂.heap.get? b = some o := fun b o q => dr.keep b o (up1 b o q)
  refine ⟨hm.os.trans dr.os, hm.gens.trans dr.gens, fun b o q => hm.heap b o ?_ (oth b o ?_ (dr0 b o q))⟩
  · simp only [List.mem_cons, List.not_mem_nil, or_false, not_or]
    refine ⟨?_, ?_⟩
    · intro z; rw [z, fS] at q; cases q
    · intro z; rw [z, fI'] at q; cases q
  · intro z; rw [z, fS] at q; cases q
theorem txts_strs : ∀ {vs : List Value} {ss : List Str}, StrsAre vs ss → Txts vs (ss.map fun x => x.cps.toList)
  | _, _, .nil => .nil
  | _, _, .cons x t r => .cons ⟨t, by rw [S_cps]⟩ (txts_strs r)
theorem sortedHeap_at {h : Heap} {a : Addr} {vs : List Value} {out : Array Value} {n : Nat} (ho : h.get? a = some (seqObj "list" vs.toArray n)) : ∃ e, (sortedHeap h a vs out).get? a = some (seqObj "list" out e) := by
  have h1 := get?_update_seq ho (fun _ => #[])
  have h2 := Heap.get?_push_of_some (seqObj "list" #[] 0) (Heap.get?_push_of_some (seqObj "tuple" vs.toArray 0) h1)
  exact ⟨_, get?_update_seq h2 (fun _ => out)⟩
theorem sortedHeap_old {h : Heap} {a b : Addr} {vs : List Value} {out : Array Value} {o : Obj} (hb : b ≠ a) (q : h.get? b = some o) : (sortedHeap h a vs out).get? b = some o := by
  have h1 := Heap.get?_update_of_ne (Obj.mapSeq fun _ => (#[] : Array Value)) (Ne.symm hb) q
  have h2 := Heap.get?_push_of_some (seqObj "list" #[] 0) (Heap.get?_push_of_some (seqObj "tuple" vs.toArray 0) h1)
  exact Heap.get?_update_of_ne (Obj.mapSeq fun _ => out) (Ne.symm hb) h2
set_option maxHeartbeats 1000000 in
/-- sorted(a set of texts): a list of them -/
theorem sortedSet {w : World} {A : Around} {E : Value → Shared → Prop} {s : Shared} {D : Addr} {l : List (List Nat)} {Q : Value → Shared → Prop} (hA : A.handled = none) (hS : SetP w s.heap D l) (h2 : 2 ≤ (dd l).length) (hle : (dd l).length < 64)
    (h : ∀ D' us ks s', Drew s s' → s.heap.get? D' = none → s'.heap.IsList D' us.toArray → Txts us ks → ks.Perm (dd l) → Q (.ref D') s') : wpAny (model pr w) A (call (.builtin "sorted") [.ref D]) Q E s := by
  refine Calls.call_function_entry kind_sorted plain_sorted entry_sorted (args_sorted1 _) ?_
  unfold Builtin.«sorted»
  refine wpAny_bind (m := checkCount "sorted" 1 1 _) (wpAny_pure ?_)
  refine wpAny_bind (collectSet hA hS h2 (by omega) fun us ks s₁ dr hus hpm => ?_)
  have hlen : us.length = (dd l).length := by rw [txts_len hus, hpm.length_eq]
  refine wpAny_bind (wpAny_newList ?_ (by rw [sizeLine_eq]; omega))
  have hoL : (s₁.heap.push (seqObj "list" us.toArray 0)).get? s₁.heap.objs.size = some (seqObj "list" us.toArray 0) := Heap.get?_push_size _ rfl
  have fS := size_none s₁.heap
  show wpAny _ _ _ _ _ { s₁ with heap := s₁.heap.push (seqObj "list" us.toArray 0) }
  have hSA := strsAre_of hus
  generalize s₁.heap.objs.size = S₀ at *
  refine wpAny_bind (wpAny_holding (wpAny_call_entry slot_list_sort ⟨_, hoL, rfl⟩ entry_list_sort (list_sort_treeK strKind_oneLt hoL hSA.keysOf (fun v₁ v₂ rest e => keyKind_strs (by rw [← e]; exact hSA)) (by omega) fun st' a1 a2 => ⟨_, rfl, ?_⟩) (args_list_sort _)))
  obtain ⟨ss', b1, b2, b3⟩ := sorted_out_str hSA a1 a2
  have hpk : (ss'.map fun x => x.cps.toList).Perm ks := by
    have := b2.map (fun x : Str => x.cps.toList)
    rw [List.map_map] at this
    have e : ks.map ((fun x : Str => x.cps.toList) ∘ S) = ks := by
      rw [List.map_congr_left (g := id) fun a _ => by simp]; simp
    rw [e] at this; exact this
  obtain ⟨e, he⟩ := sortedHeap_at (out := (arrOf st').map (·.2)) hoL
  refine wpAny_pure ⟨_, rfl, h S₀ ((arrOf st').map (·.2)).toList _ _ (dr.trans ⟨rfl, rfl, fun b o q => sortedHeap_old (fun z => by rw [z, fS] at q; cases q) (Heap.get?_push_of_some _ q)⟩) ?_ ⟨_, he, rfl, _, rfl⟩ (txts_strs b1) (hpk.trans hpm)⟩
  cases q : s.heap.get? S₀ with
  | none => rfl
  | some o => rw [dr.keep _ _ q] at fS; cases fS
end Mine
end

section
open PySem PySem.W PyProof.Rows
set_option maxRecDepth 100000
set_option linter.unusedVariables false
namespace Mine
def JSpell (w : World) (b : Shared) (L D a : Addr) (k : Nat) (tw : Tok) (I : Addr) (i : Nat) (s' : Shared) : Prop :=
  ∃ m', Reg w [L, D, I] b L m' s' ∧ m' "which" = some (.int k tw) ∧ m' "table" = some (.ref D) ∧ DF w s'.heap D (13 + i) (loopF k i) ∧ s'.heap.IsListIter I a i ∧ I ≠ L ∧ I ≠ D ∧ b.heap.get? I = none
def KSpell (w : World) (b : Shared) (L D I : Addr) (k : Nat) (f : Flow) (s₂ : Shared) : Prop :=
  f = .next ∧ ∃ m₂, Reg w [L, D, I] b L m₂ s₂ ∧ m₂ "table" = some (.ref D) ∧ DF w s₂.heap D 22 (endF k)
set_option maxHeartbeats 1000000 in
theorem spell_spec (w : World) {s : Shared} (H : Has w s.heap) (k : Nat) (hk : k < 5) (tw : Tok) :
    codeAny (model pr w) (Aw 390 3900) (.call (.ref 91) ⟨[.int k tw], []⟩) (Post s fun v s' => ∃ D, v = .ref D ∧ s.heap.get? D = none ∧ SpD w k s'.heap D) s := by
  refine enter [("which", .local), ("sign", .local), ("table", .local), ("name", .local)] [("which", .int k tw)] H (by decide) (by decide) rfl (by kernel_rfl) (by intro e; cases e) (by intro e; cases e) rfl rfl (by kernel_rfl) (by kernel_rfl) rfl rfl rfl rfl rfl (by decide) (by kernel_rfl) rfl ?_
  intro Q L env s₁ fin e R hL _
  have h1 : (fun n => List.lookup n [(Str.ofString "which", Value.int k tw)].reverse) "which" = some (.int k tw) := rfl
  generalize (fun n => List.lookup n [(Str.ofString "which", Value.int k tw)].reverse) = m at R h1
  have kp : ∀ b o, s.heap.get? b = some o → s₁.heap.get? b = some o := fun b o q => R.keep b o (fun z => by rw [List.mem_singleton.mp z, hL] at q; cases q) q
  refine wpAny_execs_cons (compAD (b := s) (X := [L]) (m := m) (l := signs12) e (by kernel_rfl) (by kernel_rfl) (by kernel_rfl) rfl rfl (by kernel_rfl) rfl (by kernel_rfl) (by kernel_rfl) (by kernel_rfl) (by decide) (by decide) ?_)
  refine cStr fun s₂ t₂ k₂ => ⟨⟨t₂, rfl⟩, R.keeps k₂, fun D s₃ R₃ fD₂ hD₃ => ?_⟩
  have fD : s.heap.get? D = none := by
    cases q : s.heap.get? D with
    | none => rfl
    | some o => rw [kGet k₂ (kp _ _ q)] at fD₂; cases fD₂
  have hDL : D ≠ L := fun z => by
    obtain ⟨o, _, _, ho, _⟩ := (R.keeps k₂).ns
    rw [← z, fD₂] at ho; cases ho
  have R₃' : Reg w [L, D] s L _ s₃ := R₃.wide (by simp) (fun b hb => by
    simp only [List.mem_cons, List.not_mem_nil, or_false] at hb
    rcases hb with rfl | rfl
    · exact H.free hL
    · exact H.free fD)
  have mT : ∀ {m' : Str → Option Value}, (fun z => if z = Str.ofString "table" then some (Value.ref D) else m' z) (Str.ofString "table") = some (.ref D) := fun {m'} => if_pos rfl
  refine wpAny_execs_cons (wpAny_Assign_Subscript (cStr fun s₄ t₄ k₄ => nmL (R₃'.keeps k₄).ns e (by kernel_rfl) (if_pos rfl) (cStr fun s₅ t₅ k₅ => ?_)))
  have k35 := kTrans k₄ k₅
  have R₅ := R₃'.keeps k35
  refine (hD₃.at fun o q => kGet k35 q).set (c := 38) (l := [38, 97, 109, 112, 59]) (by decide) fun h₆ tk₆ hD₆ up₆ => ?_
  have R₆ := R₅.but (tk := tk₆) (I := D) (by simp) hDL up₆
  have hst : putF (fun c => if c ∈ signs12 then some [c] else none) 38 [38, 97, 109, 112, 59] = loopF k 0 := rfl
  have hD₆' : DF w h₆ D 13 (loopF k 0) := hD₆
  refine wpAny_execs_cons ?_
  refine forT ?_ ?_ ?_
  · rfl
  rotate_left
  · intro _; rfl
  refine listT [((Str.ofString "<", Str.ofString "lt"), ⟨135, 24, 135, 27⟩, ⟨135, 29, 135, 33⟩, ⟨135, 23, 135, 34⟩), ((Str.ofString ">", Str.ofString "gt"), ⟨135, 37, 135, 40⟩, ⟨135, 42, 135, 46⟩, ⟨135, 36, 135, 47⟩), ((Str.ofString "\"", Str.ofString "quot"), ⟨135, 50, 135, 53⟩, ⟨135, 55, 135, 61⟩, ⟨135, 49, 135, 62⟩), ((Str.ofString "\x0d", Str.ofString "#xD"), ⟨135, 65, 135, 69⟩, ⟨135, 71, 135, 76⟩, ⟨135, 64, 135, 77⟩), ((Str.ofString "\n", Str.ofString "#xA"), ⟨135, 80, 135, 84⟩, ⟨135, 86, 135, 91⟩, ⟨135, 79, 135, 92⟩), ((Str.ofString "\t", Str.ofString "#x9"), ⟨135, 95, 135, 99⟩, ⟨135, 101, 135, 106⟩, ⟨135, 94, 135, 107⟩)] ?_ ?_ ?_
  · rfl
  · decide
  intro a vs b k₇ fa hl hvs
  have R₇ := R₆.keeps k₇
  have hD₇ : DF w b.heap D 13 (loopF k 0) := hD₆'.at fun o q => kGet k₇ q
  have hvl : vs.length = 6 := tups_len hvs
  have haL : a ≠ L := fun z => by
    obtain ⟨o, _, _, ho, _⟩ := R₆.ns
    rw [z] at fa; rw [fa] at ho; cases ho
  have haD : a ≠ D := fun z => by
    obtain ⟨_, ⟨o, _, _, ho, _⟩, _⟩ := hD₆'
    rw [z] at fa
    exact absurd (fa.symm.trans ho) (by intro q; cases q)
  have hTL : ∀ {T : Addr} {xs : Array Value}, b.heap.get? T = some (seqObj "tuple" xs 0) → T ≠ L := fun {T xs} hT z => by
    obtain ⟨o, es, nn, ho, hd, _⟩ := R₇.ns
    rw [z] at hT; rw [hT] at ho; cases ho; cases hd
  have hTD : ∀ {T : Addr} {xs : Array Value}, b.heap.get? T = some (seqObj "tuple" xs 0) → T ≠ D := fun {T xs} hT z => by
    obtain ⟨_, ⟨o, es, nn, ho, _, hd, _⟩, _⟩ := hD₇
    rw [z] at hT; rw [hT] at ho; cases ho; cases hd
  obtain ⟨p1, p2⟩ := paired_at hvs
  have hps : ∀ (i : Nat) (T : Addr), vs[i]? = some (.ref T) → ∃ p t1 t2, pairs6[i]? = some p ∧ b.heap.get? T = some (seqObj "tuple" #[.str (S [p.1]) t1, .str (S p.2) t2] 0) := fun i T hi => by
    obtain ⟨y, e1, T', t1, t2, e2, e3⟩ := p2 i _ hi
    cases e2
    have hi6 : i < 6 := by rw [← hvl]; exact (List.getElem?_eq_some_iff.mp hi).1
    have hE : (pairs6.map fun p => (S [p.1], S p.2))[i]? = some y := by
      rw [← e1]
      match i, hi6 with
      | 0, _ => rfl
      | 1, _ => rfl
      | 2, _ => rfl
      | 3, _ => rfl
      | 4, _ => rfl
      | 5, _ => rfl
    rw [List.getElem?_map] at hE
    obtain ⟨p, hp, rfl⟩ := Option.map_eq_some_iff.mp hE
    exact ⟨p, t1, t2, hp, e3⟩
  have Rb := R₇.rebase
  have fb : ∀ x ∈ [L, D], s.heap.get? x = none := fun x hx => by
    simp only [List.mem_cons, List.not_mem_nil, or_false] at hx
    rcases hx with rfl | rfl
    · exact hL
    · exact fD
  have noB : ∀ x o, s.heap.get? x = some o → x ∉ [L, D] := fun x o q z => by rw [fb x z] at q; cases q
  refine ⟨a, vs, fun I i s' => JSpell w b L D a k tw I i s', rfl, hl, ?_, ?_, ?_, ?_, ?_⟩
  · intro i v hi
    obtain ⟨y, _, T, _, _, e2, _⟩ := p2 i _ hi
    exact ⟨T, e2⟩
  · rintro I i s' ⟨m', R', _, _, _, it, _, _, fI⟩
    refine ⟨it, hl.at fun o q => R'.keep a o (fun z => ?_) q⟩
    simp only [List.mem_cons, List.not_mem_nil, or_false] at z
    rcases z with z | z | z
    · exact haL z
    · exact haD z
    · rw [z, fI] at q; cases q
  · intro I s₈ k₈ fI it
    have hIL : I ≠ L := fun z => by
      obtain ⟨o, _, _, ho, _⟩ := R₇.ns
      rw [← z, fI] at ho; cases ho
    have hID : I ≠ D := fun z => by
      obtain ⟨_, ⟨o, _, _, ho, _⟩, _⟩ := hD₇
      rw [← z] at ho
      exact absurd (fI.symm.trans ho) (by intro q; cases q)
    refine ⟨_, (Rb.keeps k₈).wide (Y := [L, D, I]) (by simp) (fun x hx => ?_), ?_, if_pos rfl, hD₇.at fun o q => kGet k₈ q, it, hIL, hID, fI⟩
    · simp only [List.mem_cons, List.not_mem_nil, or_false] at hx
      rcases hx with rfl | rfl | rfl
      · exact H.free hL
      · exact H.free fD
      · exact R₇.has.free fI
    · exact (if_neg (by decide)).trans h1
  · rintro I i T s' h' tk haI hvi ⟨m', R', m1, m2, hD', it, hIL, hID, fI⟩ it' hk'
    obtain ⟨p, t1, t2, hp, hT⟩ := hps i T hvi
    have hi6 : i < 6 := by rw [← hvl]; exact (List.getElem?_eq_some_iff.mp hvi).1
    have hTI : T ≠ I := fun z => by rw [z, fI] at hT; cases hT
    have noX : T ∉ [L, D, I] := by
      simp only [List.mem_cons, List.not_mem_nil, or_false, not_or]
      exact ⟨hTL hT, hTD hT, hTI⟩
    have R1 := R'.but (tk := tk) (by simp) hIL hk'
    have hT1 : h'.get? T = some (seqObj "tuple" #[.str (S [p.1]) t1, .str (S p.2) t2] 0) := hk' T _ hTI (R'.keep T _ noX hT)
    have hD1 : DF w h' D (13 + i) (loopF k i) := hD'.at fun o q => hk' D o (Ne.symm hID) q
    refine wpAny_assign_Tuple rfl ⟨_, hT1, rfl, _, rfl⟩ rfl rfl fun h₈ he₈ => ?_
    have k8 : Keeps { s' with heap := h', toks := tk } { s' with heap := h₈, toks := tk } := ⟨h₈, tk, rfl, fun b o q => he₈ b o (Nat.ne_of_lt (Heap.lt_size q)) q⟩
    have R₈ := R1.keeps k8
    show wpAny _ _ (assignInOrder [assign (.Name _ _) env, assign (.Name _ _) env] [.str (S [p.1]) t1, .str (S p.2) t2]) _ _ _
    unfold assignInOrder
    refine wpAny_bind (wpAny_holding (wpAny_assign_Name (stL R₈ e (by kernel_rfl) fun s₉ R₉ up₉ => ?_)))
    unfold assignInOrder
    refine wpAny_bind (wpAny_holding (wpAny_assign_Name (stL R₉ e (by kernel_rfl) fun s₁₀ R₁₀ up₁₀ => ?_)))
    unfold assignInOrder
    refine wpAny_pure ?_
    have hD10 : DF w s₁₀.heap D (13 + i) (loopF k i) := ((hD1.at fun o q => kGet k8 q).at fun o q => up₉ D o hDL q).at fun o q => up₁₀ D o hDL q
    have it10 : s₁₀.heap.IsListIter I a (i + 1) := let ⟨o, q, r⟩ := it'; ⟨o, up₁₀ I o hIL (up₉ I o hIL (kGet k8 q)), r⟩
    have mW : (fun y => if y = Str.ofString "name" then some (Value.str (S p.2) t2) else if y = Str.ofString "sign" then some (Value.str (S [p.1]) t1) else m' y) (Str.ofString "which") = some (.int k tw) := (if_neg (by decide)).trans ((if_neg (by decide)).trans m1)
    have mTb : (fun y => if y = Str.ofString "name" then some (Value.str (S p.2) t2) else if y = Str.ofString "sign" then some (Value.str (S [p.1]) t1) else m' y) (Str.ofString "table") = some (.ref D) := (if_neg (by decide)).trans ((if_neg (by decide)).trans m2)
    have mS : (fun y => if y = Str.ofString "name" then some (Value.str (S p.2) t2) else if y = Str.ofString "sign" then some (Value.str (S [p.1]) t1) else m' y) (Str.ofString "sign") = some (.str (S [p.1]) t1) := (if_neg (by decide)).trans (if_pos rfl)
    have mN : (fun y => if y = Str.ofString "name" then some (Value.str (S p.2) t2) else if y = Str.ofString "sign" then some (Value.str (S [p.1]) t1) else m' y) (Str.ofString "name") = some (.str (S p.2) t2) := if_pos rfl
    generalize (fun y => if y = Str.ofString "name" then some (Value.str (S p.2) t2) else if y = Str.ofString "sign" then some (Value.str (S [p.1]) t1) else m' y) = mm at R₁₀ mW mTb mS mN
    have eL : loopF k (i + 1) = stepF k (loopF k i) p := by
      unfold loopF
      rw [List.take_add_one, hp, List.foldl_append]; rfl
    refine wpAny_execs_cons (wpAny_If (wpAny_isTrue_Compare1 (nmL R₁₀.ns e (by kernel_rfl) mS (Subscript_ ?_))))
    refine listC [(Str.ofString "", ⟨136, 24, 136, 26⟩), (Str.ofString ">", ⟨136, 28, 136, 31⟩), (Str.ofString "<\u000d\n\t", ⟨136, 33, 136, 42⟩), (Str.ofString "\"\u000d\n\t", ⟨136, 44, 136, 53⟩), (Str.ofString "\"\n\t", ⟨136, 55, 136, 62⟩)] ?_ ?_ ?_
    · rfl
    · decide
    intro D' us s₁₁ k₁₁ fD' hl' hus
    have hT5 : Txts us exT := txts_strs hus
    have hkx : exT[k]? = some (exT.getD k []) := by
      have : k < exT.length := hk
      rw [List.getD_eq_getElem?_getD, List.getElem?_eq_getElem this]; rfl
    obtain ⟨tx, hux⟩ := txts_at' hT5 hkx
    have hul : us.length = 5 := txts_len hT5
    refine nmL (R₁₀.keeps k₁₁).ns e (by kernel_rfl) mW ?_
    refine item_listR hl' (by omega) (by simp; omega) (x := .str (S (exT.getD k [])) tx) (by simpa using hux) ?_
    refine PyProof.Rows.notIn_str (wpAny_truthy_bool ?_)
    have R₁₁ := R₁₀.keeps k₁₁
    have hD11 : DF w s₁₁.heap D (13 + i) (loopF k i) := hD10.at fun o q => kGet k₁₁ q
    have it11 : s₁₁.heap.IsListIter I a (i + 1) := let ⟨o, q, r⟩ := it10; ⟨o, kGet k₁₁ q, r⟩
    by_cases c : testF k p.1 = true
    · have c' := c
      unfold testF at c'
      rw [if_pos c']
      have hp2 : p.2.length ≤ 10 := by
        have : ∀ p ∈ pairs6, p.2.length ≤ 10 := by decide
        exact this p (List.mem_of_getElem? hp)
      refine wpAny_execs_cons (wpAny_Assign_Subscript (wpAny_BinOp (wpAny_BinOp (cStr fun s₁₂ t₁₂ k₁₂ => nmL (R₁₁.keeps k₁₂).ns e (by kernel_rfl) mN ?_))))
      refine opAddS (l := [38]) (k := p.2) (by decide) (by omega) fun s₁₃ t₁₃ k₁₃ => cStr fun s₁₄ t₁₄ k₁₄ => ?_
      refine opAddS (l := [38] ++ p.2) (k := [59]) (by simp; omega) (by decide) fun s₁₅ t₁₅ k₁₅ => ?_
      have kk := kTrans (kTrans (kTrans k₁₂ k₁₃) k₁₄) k₁₅
      refine nmL (R₁₁.keeps kk).ns e (by kernel_rfl) mTb (nmL (R₁₁.keeps kk).ns e (by kernel_rfl) mS ?_)
      refine (hD11.at fun o q => kGet kk q).set (c := p.1) (l := [38] ++ p.2 ++ [59]) (by omega) fun h₁₆ tk₁₆ hD16 up16 => ?_
      have R₁₆ := (R₁₁.keeps kk).but (tk := tk₁₆) (I := D) (by simp) hDL up16
      refine wpAny_execs_nil (wpAny_execs_nil ⟨rfl, mm, R₁₆, mW, mTb, ?_, ?_, hIL, hID, fI⟩)
      · rw [eL]; unfold stepF; rw [if_pos c]; exact hD16
      · obtain ⟨o, q, r⟩ := it11
        exact ⟨o, up16 I o hID (kGet kk q), r⟩
    · have c' := c
      unfold testF at c'
      rw [if_neg c']
      refine wpAny_execs_nil (wpAny_execs_nil ⟨rfl, mm, R₁₁, mW, mTb, ?_, it11, hIL, hID, fI⟩)
      rw [eL]; unfold stepF; rw [if_neg c]; exact hD11.le (by omega)
  · rintro I s' h' tk ⟨m', R', m1, m2, hD', it, hIL, hID, fI⟩ hk'
    have R₁ := R'.but (tk := tk) (by simp) hIL hk'
    rw [hvl] at hD'
    have hD1 : DF w h' D 19 (loopF k 6) := hD'.at fun o q => hk' D o (Ne.symm hID) q
    have done : ∀ {s₂ : Shared} {m₂ : Str → Option Value}, Reg w [L, D, I] b L m₂ s₂ → Keeps s s₂ := fun {s₂ m₂} R₂ => by
      obtain ⟨h0, t0, e0⟩ := smT R₇.same R₂.same
      refine ⟨h0, t0, e0, fun x o q => ?_⟩
      have q' := R₇.keep x o (noB x o q) q
      have := R₂.keep x o (fun z => by
        have z1 := noB x o q
        simp only [List.mem_cons, List.not_mem_nil, or_false, not_or] at z z1
        rcases z with z | z | z
        · exact z1.1 z
        · exact z1.2 z
        · rw [z, fI] at q'; cases q') q'
      rw [e0] at this; exact this
    refine wpAny_execs_cons (wpAny_mono (Q := fun f s₂ => KSpell w b L D I k f s₂) (E := fun _ _ => False) ?_ (fun f s₂ hf => ?_) fun _ _ z => z.elim)
    · refine wpAny_If (wpAny_isTrue_Compare1 (nmL R₁.ns e (by kernel_rfl) m1 (cInt fun s₂ t₂' k₂' => opEqI (wpAny_truthy_bool ?_))))
      have R₂ := R₁.keeps k₂'
      have hD2 : DF w s₂.heap D 19 (loopF k 6) := hD1.at fun o q => kGet k₂' q
      by_cases c : k = 0
      · rw [if_pos (by simp [c])]
        have hTD2 : s₂.TypeIs (.ref D) "dict" := let ⟨_, x, _⟩ := hD2; x.typeIs
        obtain ⟨oD, hoD, hxD⟩ : ∃ oD, s₂.heap.get? D = some oD ∧ oD.dict = none := let ⟨_, ⟨o, _, _, ho, hx, _⟩, _⟩ := hD2; ⟨o, ho, hx.2.1⟩
        refine wpAny_execs_cons (wpAny_Expr (PySem.Call_method1 rfl rfl (by kernel_rfl) (nmL R₂.ns e (by kernel_rfl) m2 ?_)) (inter e) rfl)
        refine ⟨"dict", "dict.update", F.plainAttrs_dict, F.slot_dict_update, F.type_dict_update, hTD2, (fun b q => by cases q; exact ⟨_, hoD, hxD⟩), ?_⟩
        refine Calls.callWith_builtin ?_ ?_
        · rfl
        refine Calls.evalArgs_plain ?_
        refine Calls.spliced_cons ?_
        refine wpAny_Dict_walk (knd := PySem.strKind pr w) ?_ ?_ ?_ ?_ ?_
        · rfl
        · rfl
        · intro z; cases z
        · decide
        refine pairTrees_cons_walk ?_
        refine cStr fun s₃ t₃ k₃ => cStr fun s₄ t₄ k₄ => ?_
        refine pairTrees_cons_walk ?_
        refine cStr fun s₅' t₅' k₅' => cStr fun s₆ t₆ k₆ => ?_
        refine pairTrees_cons_walk ?_
        refine cStr fun s₇' t₇ k₇' => cStr fun s₈ t₈ k₈ => ?_
        refine pairTrees_nil_walk ?_
        have kk := kTrans (kTrans (kTrans (kTrans (kTrans k₃ k₄) k₅') k₆) k₇') k₈
        have f2 := size_none s₂.heap
        have lo : (s₂.heap.objs.size == sysModules) = false := by
          have := Heap.lt_size (R₂.has.get (a := 28) rfl (by decide) (by decide))
          have h1 : sysModules = 1 := rfl
          rw [h1, beq_eq_false_iff_ne]; exact Nat.ne_of_gt (Nat.lt_trans (by decide) this)
        have hd2 := Heap.DictOf.new (knd := PySem.strKind pr w) s₂.heap
        have hp2 : ∀ b o, s₂.heap.get? b = some o → s₈.heap.get? b = some o := fun b o q => kGet kk (Heap.get?_push_of_some _ q)
        refine ⟨[(S [13], .str (S [38, 35, 49, 51, 59]) t₄), (S [10], .str (S [38, 35, 49, 48, 59]) t₆), (S [9], .str (S [38, 35, 48, 57, 59]) t₈)], ⟨strKind_is pr w _ _, rfl, strKind_is pr w _ _, rfl, strKind_is pr w _ _, rfl, trivial⟩, hd2.at fun o q => kGet kk q, ?_⟩
        intro h₉ hd9 hs9
        rw [merged_nil_of_nodup _ (by simp)] at hd9
        refine Calls.spliced_nil ?_
        obtain ⟨kvs, hkv, hkl, hkf⟩ := hD2
        have hne : D ≠ s₂.heap.objs.size := Nat.ne_of_lt (Heap.lt_size hoD)
        generalize s₂.heap.objs.size = D2 at *
        have up9 : ∀ b o, b ≠ D2 → s₂.heap.get? b = some o → h₉.get? b = some o := fun b o hb q => hs9.extBut b o hb (hp2 b o q)
        have hD9 : h₉.DictOf (PySem.strKind pr w) D kvs := hkv.at fun o q => up9 D o hne q
        refine PySem.call_meetsIn F.slot_dict_update hD9.typeIs F.entry_dict_update (F.args_dict_update_2 _ _) (meets_dict_update (PySem.strKind pr w) D D2 hne lo) ⟨kvs, _, hD9, hd9, ?_, fun h₁₀ hmm _ hs10 => ?_⟩
        · rw [sizeLine_eq]; simp; omega
        refine wpAny_execs_nil ⟨rfl, m', ?_, m2, _, hmm, ?_, ?_⟩
        · have R₉ : Reg w [L, D, I] b L m' { s₈ with heap := h₉, toks := s₈.toks + [(Value.str (Str.ofString "\u000d") t₃, Value.str (Str.ofString "&#13;") t₄), (Value.str (Str.ofString "\n") t₅', Value.str (Str.ofString "&#10;") t₆), (Value.str (Str.ofString "\t") t₇, Value.str (Str.ofString "&#09;") t₈)].length } := by
            obtain ⟨h0, t0, e0, _⟩ := kk
            refine R₂.keeps ⟨h₉, _, by rw [e0], fun b o q => up9 b o (fun z => by rw [z, f2] at q; cases q) q⟩
          exact R₉.but (I := D) (by simp) hDL fun b o hb q => hs10.extBut b o hb q
        · refine Nat.le_trans (stored_length_le _ _ _) ?_
          refine Nat.le_trans (Nat.add_le_add_right (stored_length_le _ _ _) 1) ?_
          refine Nat.le_trans (Nat.add_le_add_right (Nat.add_le_add_right (stored_length_le _ _ _) 1) 1) ?_
          omega
        · have := ((show FV kvs (loopF k 6) from hkf).put 13 [38, 35, 49, 51, 59] t₄).put 10 [38, 35, 49, 48, 59] t₆
          have := this.put 9 [38, 35, 48, 57, 59] t₈
          unfold endF
          rw [if_pos c]
          exact this
      · rw [if_neg (by simpa using c)]
        exact wpAny_execs_nil ⟨rfl, m', R₂, m2, (hD2.le (by omega)).fe (by unfold endF; rw [if_neg c])⟩
    obtain ⟨rfl, m₂, R₂, m2', hD₂⟩ := hf
    refine wpAny_execs_cons (wpAny_Return_some (nmL R₂.ns e (by kernel_rfl) m2' (fin _ _ ⟨_, rfl, done R₂, D, rfl, fD, hD₂.sp (endF_ok k hk)⟩)))
end Mine
end

section
open PySem PySem.W PyProof.Rows
set_option maxRecDepth 100000
namespace Mine

end Mine
end

section
open PySem PySem.W PyProof.Rows
set_option maxRecDepth 100000
namespace Mine
theorem eq_sub1 : isSubtype (.type "tuple") (.type "tuple") = pure true := by rw [isSubtype_type]; kernel_rfl
theorem eq_sub2 : isSubtype (.type "dict") (.type "dict") = pure true := by rw [isSubtype_type]; kernel_rfl
theorem eq_sub3 : isSubtype (.type "type") (.type "type") = pure true := by rw [isSubtype_type]; kernel_rfl
theorem eq_mro1 : mroOf (.type "object") = pure [.type "object"] := by rw [mroOf_type]; kernel_rfl
theorem eq_tyO : typeOf (.type "object") = pure (.type "type") := by kernel_rfl
theorem eq_turned : Builtin.notOverATurnedClass [.type "object"] = pure () := by unfold Builtin.notOverATurnedClass; rw [List.forIn_cons]; simp only [isType, eq_mro1]; rfl
theorem eq_ext : Builtin.extendedBase [.type "object"] = pure (.type "object") := by kernel_rfl
theorem eq_lookIter : typeLookup (.type "dict") "__iter__" = pure (some (.builtin "dict.__iter__")) := by rw [typeLookup_type, builtinLookup_eq_fast]; kernel_rfl

abbrev ent (h : Int) (n : Str) (t : Tok) (v : Value) : DictEntry := ⟨h, .str n t, v⟩
theorem eq_best : Builtin.Slots.bestBase [.type "object"] = pure (.type "object") := by kernel_rfl
theorem eq_slotN : Builtin.Slots.slotNamesOf (.type "object") = pure [] := by kernel_rfl
theorem eq_gD : Builtin.Slots.givesDict (.type "object") = pure false := by kernel_rfl
theorem eq_lookWeak : typeLookup (.type "object") "__weakref__" = pure none := by rw [typeLookup_type, builtinLookup_eq_fast]; kernel_rfl
theorem eq_gW : Builtin.Slots.givesWeak (.type "object") = pure false := by
  unfold Builtin.Slots.givesWeak
  rw [eq_mro1, eq_lookWeak]
  kernel_rfl
theorem eq_var : Builtin.Slots.varSize (.type "object") = pure false := by unfold Builtin.Slots.varSize; rw [eq_mro1]; kernel_rfl

set_option maxHeartbeats 4000000 in
theorem slots_read {w : World} {A : Around} {E : Value → Shared → Prop} {Q : Builtin.Slots.Plan → Shared → Prop} {s : Shared} {t0 t1 t2 t3 t4 t5 t6 t7 t8 t9 t10 t11 : Tok} {h0 h1 h2 h3 h4 h5 h6 h7 h8 h9 h10 h11 : Int}
   {vm vq vf vi vlt vgt veq vle vge vst : Value} {sl : Addr} {ts : Tok}
   (hl : s.heap.IsList sl [Value.str "obj" ts].toArray)
   (h : ∀ s', Keeps s s' → Q { names := ["obj"], dict := false, weak := false, inherited := [] } s') :
    wpAny (model pr w) A (Builtin.Slots.read "K" [.type "object"] #[ent h0 "__module__" t0 vm, ent h1 "__qualname__" t1 vq, ent h2 "__firstlineno__" t2 vf, ent h3 "__slots__" t3 (.ref sl), ent h4 "__init__" t4 vi,
     ent h5 "__lt__" t5 vlt, ent h6 "__gt__" t6 vgt, ent h7 "__eq__" t7 veq, ent h8 "__le__" t8 vle, ent h9 "__ge__" t9 vge, ent h10 "__hash__" t10 .none, ent h11 "__static_attributes__" t11 vst]) Q E s := by
  unfold Builtin.Slots.read
  refine wpAny_bind (wpAny_of_eq eq_best (wpAny_bind (wpAny_of_eq eq_slotN (wpAny_bind (wpAny_of_eq eq_gD (wpAny_bind (wpAny_of_eq eq_gW (wpAny_bind (wpAny_of_eq eq_var ?_)))))))))
  have hf : Array.find? (fun x => x.key.isStr (Str.ofString "__slots__")) #[ent h0 "__module__" t0 vm, ent h1 "__qualname__" t1 vq, ent h2 "__firstlineno__" t2 vf, ent h3 "__slots__" t3 (.ref sl), ent h4 "__init__" t4 vi,
     ent h5 "__lt__" t5 vlt, ent h6 "__gt__" t6 vgt, ent h7 "__eq__" t7 veq, ent h8 "__le__" t8 vle, ent h9 "__ge__" t9 vge, ent h10 "__hash__" t10 .none, ent h11 "__static_attributes__" t11 vst] = some (ent h3 "__slots__" t3 (.ref sl)) := by kernel_rfl
  rw [hf]
  obtain ⟨o, ho, hc, n, hd⟩ := id hl
  obtain ⟨oc, od, dt, osl⟩ := o
  cases hc; cases hd
  refine wpAny_bind (wpAny_rule ?_)
  show wpAny _ _ (Bind.bind (asStr? (.ref sl)) _) _ _ _
  refine wpAny_bind ?_
  unfold asStr?
  wp_walk using (collect_list hl)
  rw [show Builtin.Slots.isIdentifier "obj" = some true from by kernel_rfl]
  wp_walk
  refine wpAny_ite_false (by kernel_rfl) ?_
  wp_walk
  refine (congrArg (fun p => Q p _) (by kernel_rfl)).mpr (h _ ?_)
  refine ⟨_, _, rfl, fun b o e => ?_⟩
  exact Heap.get?_update_of_ne _ (fun q => by rw [← q] at e; exact absurd (Heap.lt_size e) (Nat.lt_irrefl _)) (Heap.get?_push_of_some _ e)
end Mine
end

section
open PySem PySem.W PyProof.Rows
set_option maxRecDepth 100000
namespace Mine

theorem fresh_none (h : Heap) : h.get? h.objs.size = none := by
  cases e : h.get? h.objs.size with
  | none => rfl
  | some o => exact absurd (Heap.lt_size e) (Nat.lt_irrefl _)
/-- two objects of its own beside all that was -/
structure Mk (s : Shared) (B : Addr → Option Obj) (n : Addr) (D : Obj) (a : Addr) (C : Obj) (cur : Shared) : Prop where
  same : ∃ h tk, cur = { s with heap := h, toks := tk }
  keep : ∀ b o, B b = some o → cur.heap.get? b = some o
  d : cur.heap.get? n = some D
  c : cur.heap.get? a = some C
  fn : B n = none
  fa : B a = none
  ne : n ≠ a
theorem Mk.keeps {s cur cur' : Shared} {B : Addr → Option Obj} {n a : Addr} {D C : Obj} (X : Mk s B n D a C cur) (k : Keeps cur cur') : Mk s B n D a C cur' := by
  obtain ⟨h, tk, rfl, kk⟩ := k
  obtain ⟨h0, t0, e⟩ := X.same
  exact ⟨⟨h, tk, by rw [e]⟩, fun b o q => kk b o (X.keep b o q), kk _ _ X.d, kk _ _ X.c, X.fn, X.fa, X.ne⟩
theorem Mk.done {s cur : Shared} {B : Addr → Option Obj} {n a : Addr} {D C : Obj} (X : Mk s B n D a C cur) (hB : ∀ b o, s.heap.get? b = some o → B b = some o) : Keeps s cur := by
  obtain ⟨h0, t0, e⟩ := X.same
  subst e
  exact ⟨h0, t0, rfl, fun b o q => X.keep b o (hB b o q)⟩
section
variable {w : World} {A : Around} {E : Value → Shared → Prop} {s cur : Shared} {B : Addr → Option Obj} {n a : Addr} {D C : Obj}
theorem allocA {o : Obj} {Q : Addr → Shared → Prop} (hf : o.isFreed = false) (h : ∀ x s', s.heap.get? x = none → s'.heap.get? x = some o → Keeps s s' → Q x s') : wpAny (model pr w) A (alloc o) Q E s :=
  wpAny_alloc (h _ _ (fresh_none _) (Heap.get?_push_size _ hf) (kPushH o))
theorem nsGA {nm : Str} {r : Option Value} {Q : Option Value → Shared → Prop} {d : Addr} {o : Obj} (ho : s.heap.get? d = some o) (hr : nsLook nm o = pure r) (h : Q r s) : wpAny (model pr w) A (nsGet d nm) Q E s := by
  unfold nsGet
  refine wpAny_bind (wpAny_loadPart ho ?_)
  exact wpAny_of_eq hr h
theorem Mk.updC {f : Obj → Obj} (X : Mk s B n D a C cur) (hf : (f C).isFreed = false) : Mk s B n D a (f C) { cur with heap := cur.heap.update a f } := by
  obtain ⟨h0, t0, e⟩ := X.same
  refine ⟨⟨_, t0, by rw [e]⟩, fun b o q => ?_, ?_, Heap.get?_update_self _ X.c hf, X.fn, X.fa, X.ne⟩
  · exact Heap.get?_update_of_ne _ (fun z => by rw [← z, X.fa] at q; cases q) (X.keep b o q)
  · exact Heap.get?_update_of_ne _ (Ne.symm X.ne) X.d
theorem Mk.updD {f : Obj → Obj} (X : Mk s B n D a C cur) (hf : (f D).isFreed = false) : Mk s B n (f D) a C { cur with heap := cur.heap.update n f } := by
  obtain ⟨h0, t0, e⟩ := X.same
  refine ⟨⟨_, t0, by rw [e]⟩, fun b o q => ?_, Heap.get?_update_self _ X.d hf, ?_, X.fn, X.fa, X.ne⟩
  · exact Heap.get?_update_of_ne _ (fun z => by rw [← z, X.fn] at q; cases q) (X.keep b o q)
  · exact Heap.get?_update_of_ne _ X.ne X.c
theorem mkSlot {i : Nat} {v : Option Value} {Q : Unit → Shared → Prop} (C' : Obj) (X : Mk s B n D a C cur) (hi : i < 100) (hf : C'.isFreed = false)
    (hC : ({ C with slots := (C.slots ++ Array.replicate (i + 1 - C.slots.size) none).setIfInBounds i v } : Obj) = C') (h : ∀ cur', Mk s B n D a C' cur' → Q () cur') : wpAny (model pr w) A (setSlotAt a i v) Q E cur := by
  unfold setSlotAt
  have hs : ¬ (i ≥ sizeLine) := by unfold sizeLine; omega
  simp only [hs, if_false]
  refine wpAny_updatePart X.c (h _ ?_)
  subst hC
  exact X.updC (f := fun o => { o with slots := (o.slots ++ Array.replicate (i + 1 - o.slots.size) none).setIfInBounds i v }) hf
theorem mkCls {cd : ClassData} {dc : Option Addr} {cl : Value} {sl : Array (Option Value)} {f : ClassData → ClassData} {Q : Unit → Shared → Prop} (X : Mk s B n D a ⟨cl, dc, .cls cd, sl⟩ cur)
    (hp : (Data.cls (f cd)).pastItsLine = none) (h : ∀ cur', Mk s B n D a ⟨cl, dc, .cls (f cd), sl⟩ cur' → Q () cur') : wpAny (model pr w) A (updateCls a f) Q E cur := by
  unfold updateCls
  refine wpAny_bind (wpAny_load X.c ?_)
  have X' := X.updC (f := Obj.mapCls f) rfl
  exact wpAny_bind (wpAny_update X.c (wpAny_lookBehind X'.c hp (h _ X')))
theorem mkDel {nm : Str} {Q : Bool → Shared → Prop} (D' : Obj) (X : Mk s B n D a C cur) (hh : nsHas nm D = pure true) (hD : Obj.dropName nm D = D') (hf : D'.isFreed = false) (h : ∀ cur', Mk s B n D' a C cur' → Q true cur') :
    wpAny (model pr w) A (nsDel n nm) Q E cur := by
  unfold nsDel
  refine wpAny_bind (wpAny_loadPart X.d (wpAny_bind (wpAny_of_eq hh ?_)))
  have X' := X.updD (f := Obj.dropName nm) (by rw [hD]; exact hf)
  rw [hD] at X'
  rw [if_pos rfl]
  exact wpAny_bind (wpAny_updatePart X.d (wpAny_pure (h _ X')))
theorem mkSet {nm : Str} {v : Value} {Q : Unit → Shared → Prop} {cl : Value} {dc : Option Addr} {es : Array DictEntry} {ep : Nat} {sl : Array (Option Value)} (D' : Int → Tok → Obj) (X : Mk s B n ⟨cl, dc, .dict es ep, sl⟩ a C cur)
    (hr : aRefKeyMayBeTheName nm es = false) (hD : ∀ hs t, Obj.putName nm hs (.str nm t) v ⟨cl, dc, .dict es ep, sl⟩ = D' hs t) (hf : ∀ hs t, (D' hs t).isFreed = false)
    (h : ∀ hs t cur', Mk s B n (D' hs t) a C cur' → Q () cur') : wpAny (model pr w) A (nsSet n nm v) Q E cur := by
  unfold nsSet strHash
  refine wpAny_bind (wpAny_bind (wpAny_askSetting (wpAny_pure (wpAny_bind (wpAny_mkText (wpAny_bind (wpAny_loadPart X.d ?_)))))))
  simp only [hr, Bool.false_eq_true, if_false]
  refine wpAny_updatePart X.d ?_
  generalize (if nm.cps.isEmpty = true then (0 : Int) else _) = hs
  have X' := X.updD (f := Obj.putName nm hs (.str nm cur.toks) v) (by rw [hD]; exact hf _ _)
  rw [hD] at X'
  obtain ⟨h1, t1, e1⟩ := X.same
  exact h hs cur.toks _ ⟨⟨_, _, by rw [e1]⟩, X'.keep, X'.d, X'.c, X'.fn, X'.fa, X'.ne⟩
/-- one more object, of which no more will be turned -/
theorem Mk.more {x : Addr} {o : Obj} {cur' : Shared} (X : Mk s B n D a C cur) (k : Keeps cur cur') (fx : cur.heap.get? x = none) (hx : cur'.heap.get? x = some o) : Mk s (fun b => if b = x then some o else B b) n D a C cur' := by
  have Y := X.keeps k
  refine ⟨Y.same, fun b o' q => ?_, Y.d, Y.c, ?_, ?_, Y.ne⟩
  · by_cases h : b = x
    · rw [if_pos h] at q; cases q; rw [h]; exact hx
    · rw [if_neg h] at q; exact Y.keep b o' q
  · rw [if_neg (fun z => by rw [← z, X.d] at fx; cases fx)]; exact X.fn
  · rw [if_neg (fun z => by rw [← z, X.c] at fx; cases fx)]; exact X.fa
end
end Mine
end

section
open PySem PySem.W PyProof.Rows
set_option maxRecDepth 100000
namespace Mine
/-- what lies in the class's own name space -/
structure KV where
  h0 : Int
  t0 : Tok
  h1 : Int
  t1 : Tok
  h2 : Int
  t2 : Tok
  h3 : Int
  t3 : Tok
  h4 : Int
  t4 : Tok
  h5 : Int
  t5 : Tok
  h6 : Int
  t6 : Tok
  h7 : Int
  t7 : Tok
  h8 : Int
  t8 : Tok
  h9 : Int
  t9 : Tok
  h10 : Int
  t10 : Tok
  h11 : Int
  t11 : Tok
  vm : Str
  tm : Tok
  q : Str
  tq : Tok
  vf : Int
  tf : Tok
  sl : Addr
  ts : Tok
  vi : Addr
  vlt : Addr
  vgt : Addr
  veq : Addr
  vle : Addr
  vge : Addr
  vst : Addr

abbrev KV.e0 (k : KV) : Array DictEntry := #[ent k.h0 "__module__" k.t0 (.str k.vm k.tm), ent k.h1 "__qualname__" k.t1 (.str k.q k.tq), ent k.h2 "__firstlineno__" k.t2 (.int k.vf k.tf), ent k.h3 "__slots__" k.t3 (.ref k.sl), ent k.h4 "__init__" k.t4 (.ref k.vi), ent k.h5 "__lt__" k.t5 (.ref k.vlt), ent k.h6 "__gt__" k.t6 (.ref k.vgt), ent k.h7 "__eq__" k.t7 (.ref k.veq), ent k.h8 "__le__" k.t8 (.ref k.vle), ent k.h9 "__ge__" k.t9 (.ref k.vge), ent k.h10 "__hash__" k.t10 .none, ent k.h11 "__static_attributes__" k.t11 (.ref k.vst)]
abbrev KV.e1 (k : KV) : Array DictEntry := #[ent k.h0 "__module__" k.t0 (.str k.vm k.tm), ent k.h2 "__firstlineno__" k.t2 (.int k.vf k.tf), ent k.h3 "__slots__" k.t3 (.ref k.sl), ent k.h4 "__init__" k.t4 (.ref k.vi), ent k.h5 "__lt__" k.t5 (.ref k.vlt), ent k.h6 "__gt__" k.t6 (.ref k.vgt), ent k.h7 "__eq__" k.t7 (.ref k.veq), ent k.h8 "__le__" k.t8 (.ref k.vle), ent k.h9 "__ge__" k.t9 (.ref k.vge), ent k.h10 "__hash__" k.t10 .none, ent k.h11 "__static_attributes__" k.t11 (.ref k.vst)]
abbrev KV.e2 (k : KV) (hs : Int) (t : Tok) (md : Addr) : Array DictEntry := #[ent k.h0 "__module__" k.t0 (.str k.vm k.tm), ent k.h2 "__firstlineno__" k.t2 (.int k.vf k.tf), ent k.h3 "__slots__" k.t3 (.ref k.sl), ent k.h4 "__init__" k.t4 (.ref k.vi), ent k.h5 "__lt__" k.t5 (.ref k.vlt), ent k.h6 "__gt__" k.t6 (.ref k.vgt), ent k.h7 "__eq__" k.t7 (.ref k.veq), ent k.h8 "__le__" k.t8 (.ref k.vle), ent k.h9 "__ge__" k.t9 (.ref k.vge), ent k.h10 "__hash__" k.t10 .none, ent k.h11 "__static_attributes__" k.t11 (.ref k.vst), ent hs "obj" t (.ref md)]
abbrev KV.e3 (k : KV) (hs : Int) (t : Tok) (md : Addr) (hd : Int) (td : Tok) : Array DictEntry := #[ent k.h0 "__module__" k.t0 (.str k.vm k.tm), ent k.h2 "__firstlineno__" k.t2 (.int k.vf k.tf), ent k.h3 "__slots__" k.t3 (.ref k.sl), ent k.h4 "__init__" k.t4 (.ref k.vi), ent k.h5 "__lt__" k.t5 (.ref k.vlt), ent k.h6 "__gt__" k.t6 (.ref k.vgt), ent k.h7 "__eq__" k.t7 (.ref k.veq), ent k.h8 "__le__" k.t8 (.ref k.vle), ent k.h9 "__ge__" k.t9 (.ref k.vge), ent k.h10 "__hash__" k.t10 .none, ent k.h11 "__static_attributes__" k.t11 (.ref k.vst), ent hs "obj" t (.ref md), ent hd "__doc__" td .none]

abbrev bsK : List Value := if ((some #[Value.type "object"]).getD #[]).toList.isEmpty = true then [Value.type "object"] else ((some #[Value.type "object"]).getD #[]).toList
theorem eq_mroHook : Builtin.mroHook? (.type "type") = pure none := by
  unfold Builtin.mroHook?
  rw [show typeLookup (.type "type") "mro" = pure (some (.builtin "type.mro")) from by rw [typeLookup_type, builtinLookup_eq_fast]; kernel_rfl]
  rfl
theorem eq_made : Bind.madeBy (.type "object") = pure (some "object.__new__") := by
  have e : typeLookup (.type "object") "__new__" = pure (some (.builtin "object.__new__")) := by rw [typeLookup_type, builtinLookup_eq_fast]; kernel_rfl
  unfold Bind.madeBy
  simp only [eq_mro1, pure_bind, List.forIn_cons, e]
  kernel_rfl
theorem eq_lin : Builtin.linearize [.type "object"] mroOf = pure [.type "object"] := by
  unfold Builtin.linearize
  simp only [List.mapM_cons, List.mapM_nil, eq_mro1]
  kernel_rfl
end Mine
end

section
open PySem PySem.W PyProof.Rows
set_option maxRecDepth 100000
namespace Mine
theorem newObjA {w : World} {A : Around} {E : Value → Shared → Prop} {s : Shared} {T : String} {data : Data} {Q : Value → Shared → Prop} (h : ∀ x s', s.heap.get? x = none → s'.heap.get? x = some { cls := .type T, data } → Keeps s s' → Q (.ref x) s') 
  (hp : sizeOk data := by size_fits) (hf : ({ cls := .type T, data } : Obj).isFreed = false := by rfl) :
    wpAny (model pr w) A (newObj (.type T) data) Q E s := by
  refine wpAny_newObj_type (h _ _ (fresh_none _) (Heap.get?_push_size _ hf) (kPushH _)) ?_
  exact hp
theorem slots_readK {w : World} {A : Around} {E : Value → Shared → Prop} {Q : Builtin.Slots.Plan → Shared → Prop} {s : Shared} (k : KV) (hl : s.heap.IsList k.sl [Value.str "obj" k.ts].toArray)
   (h : ∀ s', Keeps s s' → Q { names := ["obj"], dict := false, weak := false, inherited := [] } s') : wpAny (model pr w) A (Builtin.Slots.read "K" bsK k.e0) Q E s := slots_read hl h
theorem Mk.start {s₂ s₃ s₄ : Shared} {n a : Addr} {D C : Obj} (K₃ : Keeps s₂ s₃) (K₄ : Keeps s₃ s₄) (fn : s₂.heap.get? n = none) (hD : s₃.heap.get? n = some D) (fa : s₃.heap.get? a = none) (hC : s₄.heap.get? a = some C) : Mk s₂ s₂.heap.get? n D a C s₄ :=
  ⟨let ⟨h, tk, q, _⟩ := kTrans K₃ K₄; ⟨h, tk, q⟩, kAll (kTrans K₃ K₄), kGet K₄ hD, hC, fn, (by
      cases e : s₂.heap.get? a with
      | none => rfl
      | some o => rw [kGet K₃ e] at fa; cases fa), fun q => by rw [← q, hD] at fa; cases fa⟩
theorem lookK {w : World} {A : Around} {E : Value → Shared → Prop} {s : Shared} {a : Addr} {cl : Value} {dc : Option Addr} {cd : ClassData} {sl : Array (Option Value)} {D : Obj} {nm : Str} {r : Option Value} {Q : Option Value → Shared → Prop}
    (hC : s.heap.get? a = some ⟨cl, dc, .cls cd, sl⟩) (hm : cd.mro = [.ref a, .type "object"]) (hD : s.heap.get? cd.ns = some D) (hr : nsLook nm D = pure r) (h : Q (match r with | some v => some v | none => builtinOwn "object" nm) s) :
    wpAny (model pr w) A (typeLookup (.ref a) nm) Q E s := by
  unfold typeLookup mroOf classData
  refine wpAny_bind (wpAny_bind (wpAny_bind (wpAny_load hC (wpAny_pure (wpAny_pure ?_)))))
  rw [hm, List.forIn_cons]
  unfold classOwn classData
  refine wpAny_bind (wpAny_bind (wpAny_bind (wpAny_bind (wpAny_bind (wpAny_load hC (wpAny_pure (nsGA hD hr ?_)))))))
  cases r with
  | some v => exact wpAny_pure (wpAny_pure (wpAny_pure h))
  | none =>
    refine wpAny_pure ?_
    dsimp only
    rw [List.forIn_cons]
    refine wpAny_bind (wpAny_bind (wpAny_pure ?_))
    dsimp only at h
    cases q : builtinOwn "object" nm with
    | some v => rw [q] at h; exact wpAny_pure (wpAny_pure (wpAny_pure h))
    | none => rw [q] at h; exact wpAny_pure (wpAny_pure (wpAny_pure h))
theorem lookNone {w : World} {A : Around} {E : Value → Shared → Prop} {s : Shared} {a : Addr} {cl : Value} {dc : Option Addr} {cd : ClassData} {sl : Array (Option Value)} {D : Obj} {nm : Str} {Q : Option Value → Shared → Prop} (y : Option Value)
    (hC : s.heap.get? a = some ⟨cl, dc, .cls cd, sl⟩) (hm : cd.mro = [.ref a, .type "object"]) (hD : s.heap.get? cd.ns = some D) (hr : nsLook nm D = pure none) (hy : builtinOwn "object" nm = y) (h : Q y s) :
    wpAny (model pr w) A (typeLookup (.ref a) nm) Q E s := lookK hC hm hD hr (by rw [hy]; exact h)
theorem lookSome {w : World} {A : Around} {E : Value → Shared → Prop} {s : Shared} {a : Addr} {cl : Value} {dc : Option Addr} {cd : ClassData} {sl : Array (Option Value)} {D : Obj} {nm : Str} {Q : Option Value → Shared → Prop} {v : Value}
    (hC : s.heap.get? a = some ⟨cl, dc, .cls cd, sl⟩) (hm : cd.mro = [.ref a, .type "object"]) (hD : s.heap.get? cd.ns = some D) (hr : nsLook nm D = pure (some v)) (h : Q (some v) s) :
    wpAny (model pr w) A (typeLookup (.ref a) nm) Q E s := lookK hC hm hD hr h
theorem own_new : builtinOwn "object" "__new__" = some (.builtin "object.__new__") := by rw [builtinOwn_eq_fast]; kernel_rfl
abbrev kO (n : Addr) (q : Str) (mro : List Value) (hd : Bool) (sn : List Str) (sl : Array (Option Value)) : Obj :=
  { cls := .type "type", data := .cls { name := "K", bases := [.type "object"], mro, ns := n, qualname := q, hasDict := hd, slotNames := sn }, slots := sl }
abbrev dO (es : Array DictEntry) (ep : Nat) : Obj := { cls := .type "dict", data := .dict es ep }
theorem Mk.castC {s cur : Shared} {B : Addr → Option Obj} {n a : Addr} {D C C' : Obj} (X : Mk s B n D a C cur) (h : C = C') : Mk s B n D a C' cur := h ▸ X
abbrev mdO (a : Addr) (t : Tok) : Obj := { cls := .type "member_descriptor", data := .fields #[.str "obj" t, .ref a, .builtin "proto.slot", .builtin "proto.slot#set", rawInt 0] }
set_option maxHeartbeats 4000000 in
theorem installK {w : World} {A : Around} {E : Value → Shared → Prop} {s cur : Shared} {B : Addr → Option Obj} {n a : Addr} {k : KV} {sl : Array (Option Value)} {Q : Unit → Shared → Prop} (X : Mk s B n (dO k.e1 1) a (kO n k.q [.ref a, .type "object"] true [] sl) cur)
    (h : ∀ md t' hs t cur', B md = none → Mk s (fun b => if b = md then some (mdO a t') else B b) n (dO (k.e2 hs t md) 2) a (kO n k.q [.ref a, .type "object"] false ["obj"] sl) cur' → Q () cur') :
    wpAny (model pr w) A (Builtin.Slots.install (.ref a) n bsK { names := ["obj"], dict := false, weak := false }) Q E cur := by
  unfold Builtin.Slots.install
  have q1 := eq_gD
  wp_walk using (nsGA (nm := "obj") X.d (show nsLook "obj" (dO k.e1 1) = pure none from by kernel_rfl)), newObjA
  intro md s₁ fm hm K₁
  have hm' : s₁.heap.get? md = some (mdO a cur.toks) := hm
  have X₀ : Mk s B n (dO k.e1 1) a (kO n k.q [.ref a, .type "object"] true [] sl) { cur with toks := cur.toks + 1 } := X.keeps (kTok _)
  have X₁ := X₀.more K₁ fm hm'
  have hd := X₁.d
  wp_walk using (mkSet (fun hs t => dO (k.e2 hs t md) 2) X₁ (by kernel_rfl) (fun _ _ => by kernel_rfl) (fun _ _ => rfl))
  intro hs t s₂ X₂
  wp_walk using (mkCls X₂ rfl)
  intro s₃ X₃
  refine h md cur.toks hs t s₃ ?_ (X₃.castC (by kernel_rfl))
  · cases e : B md with
    | none => rfl
    | some o => rw [X.keep md o e] at fm; cases fm
  · exact Nat.le_of_ble_eq_true rfl
  · rfl
end Mine
end

section
open PySem PySem.W PyProof.Rows
set_option maxRecDepth 100000
namespace Mine
theorem own_isub : builtinOwn "object" "__init_subclass__" = some (.builtin "object.__init_subclass__") := by rw [builtinOwn_eq_fast]; kernel_rfl
theorem ty_isub : typeOf (.builtin "object.__init_subclass__") = pure (.type "classmethod_descriptor") := by kernel_rfl
theorem look_cmget : typeLookup (.type "classmethod_descriptor") "__get__" = pure (some (.builtin "classmethod_descriptor.__get__")) := by rw [typeLookup_type, builtinLookup_eq_fast]; kernel_rfl
theorem ent_cmget : entryFor table "classmethod_descriptor.__get__" = some Builtin.«classmethod_descriptor.__get__» := entryFor_of_tree (by kernel_rfl)
theorem slot_cmget : PySem.Slot "classmethod_descriptor" "__get__" "classmethod_descriptor.__get__" := .of (owner := "classmethod_descriptor") (n := "__get__") look_cmget (by decide +kernel) (by decide +kernel) (by decide +kernel)
  (by first | exact .inl (by decide +kernel) | exact .inr (by decide +kernel)) (by rw [isSubtype_type]; kernel_rfl)
theorem args_cmget (a b c : Value) : argsOk "classmethod_descriptor.__get__" ⟨[a, b, c], []⟩ := by unfold argsOk; kernel_rfl
abbrev supO (a : Addr) : Obj := { cls := .type "super", dict := none, data := .fields #[.ref a, .ref a, .ref a], slots := #[] }
theorem forInAfter {β : Type} {w : World} {A : Around} {E : Value → Shared → Prop} {s : Shared} {Q : β → Shared → Prop} {init : β} {f : Value → β → Sem (ForInStep β)} {a : Addr} (h : wpAny (model pr w) A (forIn [Value.type "object"] init f) Q E s) :
    wpAny (model pr w) A (forIn (List.drop 1 (List.dropWhile (fun x => x != Value.ref a) [Value.ref a, .type "object"])) init f) Q E s := by
  rw [show List.drop 1 (List.dropWhile (fun x => x != Value.ref a) [Value.ref a, .type "object"]) = [Value.type "object"] from by simp [List.dropWhile]]
  exact h
theorem cls_isub : classOwn (.type "object") "__init_subclass__" = pure (some (.builtin "object.__init_subclass__")) := by show (pure (builtinOwn "object" "__init_subclass__") : Sem (Option Value)) = _; rw [own_isub]
theorem subOf {w : World} {A : Around} {E : Value → Shared → Prop} {s : Shared} {Q : Bool → Shared → Prop} {a : Addr} {cl base : Value} {dc : Option Addr} {cd : ClassData} {sl : Array (Option Value)}
    (hC : s.heap.get? a = some ⟨cl, dc, .cls cd, sl⟩) (hm : cd.mro = [.ref a, .type "object"]) (h : Q ([Value.ref a, .type "object"].contains base) s) : wpAny (model pr w) A (isSubtype (.ref a) base) Q E s := by
  unfold isSubtype mroOf classData
  refine wpAny_bind (wpAny_bind (wpAny_bind (wpAny_load hC (wpAny_pure (wpAny_pure ?_)))))
  rw [hm]
  exact wpAny_pure h
abbrev bfO (a : Addr) : Obj := { cls := .type "builtin_function_or_method", data := .fields #[.builtin "object.__init_subclass__", .ref a] }
theorem cmGet {w : World} {A : Around} {E : Value → Shared → Prop} {s : Shared} {Q : Value → Shared → Prop} {a : Addr} {cl : Value} {dc : Option Addr} {cd : ClassData} {sl : Array (Option Value)}
    (hC : s.heap.get? a = some ⟨cl, dc, .cls cd, sl⟩) (hm : cd.mro = [.ref a, .type "object"])
    (h : ∀ b s', s.heap.get? b = none → Keeps s s' → s'.heap.get? b = some (bfO a) → Q (.ref b) s') :
    wpAny (model pr w) A (call (.builtin "classmethod_descriptor.__get__") [.builtin "object.__init_subclass__", if (Value.ref a == Value.ref a) = true then .none else .ref a, .ref a]) Q E s := by
  rw [if_pos (by simp)]
  have T1 : s.TypeIs (.builtin "object.__init_subclass__") "classmethod_descriptor" := ty_isub
  refine wpAny_call_entry slot_cmget T1 ent_cmget ?_ (args_cmget _ _ _)
  obtain ⟨nm, bs, mro, nsa, qn, hdc, sln, sbc, abs, col, hdl⟩ := cd
  dsimp only at hm
  subst hm
  unfold Builtin.«classmethod_descriptor.__get__»
  wp_walk using (subOf hC rfl)
  exact ⟨_, rfl, h _ _ (fresh_none _) (kPushH _) (Heap.get?_push_size _ rfl)⟩
set_option maxHeartbeats 4000000 in
theorem superGa {w : World} {A : Around} {E : Value → Shared → Prop} {s : Shared} {so a : Addr} {cl : Value} {dc : Option Addr} {cd : ClassData} {sl : Array (Option Value)} {t : Tok} {Q : PySem.Fin → Shared → Prop}
    (hso : s.heap.get? so = some (supO a)) (hC : s.heap.get? a = some ⟨cl, dc, .cls cd, sl⟩) (hm : cd.mro = [.ref a, .type "object"]) (hcs : s.heap.get? cStatics = some { cls := .none, data := .dict #[] })
    (h : ∀ b s', Keeps s s' → s'.heap.get? b = some { cls := .type "builtin_function_or_method", data := .fields #[.builtin "object.__init_subclass__", .ref a] } → Q (.done (.ret (.ref b))) s') :
    wpAny (model pr w) A (Builtin.«super.__getattribute__» ⟨[.ref so, .str "__init_subclass__" t], []⟩) Q E s := by
  have q1 := eq_mro1
  have q2 := ty_isub
  have q3 := look_cmget
  have f0 : (#[.ref a, .ref a, .ref a] : Array Value)[0]? = some (.ref a) := rfl
  have f1 : (#[.ref a, .ref a, .ref a] : Array Value)[1]? = some (.ref a) := rfl
  have f2 : (#[.ref a, .ref a, .ref a] : Array Value)[2]? = some (.ref a) := rfl
  unfold Builtin.«super.__getattribute__»
  obtain ⟨nm, bs, mro, nsa, qn, hdc, sln, sbc, abs, col, hdl⟩ := cd
  dsimp only at hm
  subst hm
  have gm := cls_isub
  have T1 : s.TypeIs (.builtin "object.__init_subclass__") "classmethod_descriptor" := ty_isub
  wp_walk using (wpAny_field hso rfl f0), (wpAny_field hso rfl f1), (wpAny_field hso rfl f2), (nsGA (nm := "thirdparty.any") (r := none) hcs (by kernel_rfl)), forInAfter, (cmGet hC rfl)
  intro b s' fb k hb
  wp_walk
  exact h b s' k hb

theorem superGet {w : World} {A : Around} {E : Value → Shared → Prop} {s : Shared} {so a : Addr} {cl : Value} {dc : Option Addr} {cd : ClassData} {sl : Array (Option Value)} {Q : Value → Shared → Prop}
    (hso : s.heap.get? so = some (supO a)) (hC : s.heap.get? a = some ⟨cl, dc, .cls cd, sl⟩) (hm : cd.mro = [.ref a, .type "object"]) (hcs : s.heap.get? cStatics = some { cls := .none, data := .dict #[] })
    (h : ∀ b s', Keeps s s' → s'.heap.get? b = some (bfO a) → Q (.ref b) s') : wpAny (model pr w) A (getAttr (.ref so) "__init_subclass__") Q E s := by
  have hlk := F.ks_slot_super_ga.lookup
  have hT : ∀ t', ({ s with toks := t' } : Shared).TypeIs (.ref so) "super" := fun _ => ⟨_, hso, rfl⟩
  unfold getAttr getAttrBy
  refine wpAny_bind (wpAny_mkText (wpAny_holding (wpAny_bind (wpAny_typeOf (hT _) (wpAny_bind (wpAny_of_eq hlk ?_))))))
  show wpAny _ _ (getAttrByItsOwn (.ref so) (.str "__init_subclass__" s.toks) (.type "super") (.builtin "super.__getattribute__") true false) _ _ _
  unfold getAttrByItsOwn hookBefore callGetattribute boundAndCalled
  refine wpAny_bind (wpAny_of_eq (show (if onTheHeap (.type "super") then typeLookup (.type "super") "__getattr__" else pure none) = pure none from rfl) ?_)
  refine wpAny_bind (wpAny_attempt (wpAny_holding ?_))
  show wpAny _ _ (bindSpecial (.builtin "super.__getattribute__") (.ref so) >>= _) _ _ _
  refine wpAny_bind (wpAny_of_eq (F.ks_slot_super_ga.bind _) ?_)
  refine wpAny_mono (Q := fun v s' => ∃ b, v = .ref b ∧ Keeps s s' ∧ s'.heap.get? b = some (bfO a)) (E := fun _ _ => False)
    (wpAny_call_entry F.ks_slot_super_ga (hT _) F.ks_entry_super_ga (superGa hso hC hm hcs fun b s' k hb => ⟨_, rfl, b, rfl, kTrans (kTok _) k, hb⟩) (F.ks_gaArgs_super _ _)) (fun v s' hv => ?_) fun _ _ z => z.elim
  obtain ⟨b, rfl, k, hb⟩ := hv
  exact wpAny_pure (h b s' k hb)

set_option maxHeartbeats 4000000 in
theorem superMake {w : World} {A : Around} {E : Value → Shared → Prop} {s : Shared} {a : Addr} {cl : Value} {dc : Option Addr} {cd : ClassData} {sl : Array (Option Value)} {Q : Value → Shared → Prop}
    (hC : s.heap.get? a = some ⟨cl, dc, .cls cd, sl⟩) (hm : cd.mro = [.ref a, .type "object"])
    (h : ∀ so s', Keeps s s' → s'.heap.get? so = some (supO a) → Q (.ref so) s') : wpAny (model pr w) A (call (.type "super") [.ref a, .ref a]) Q E s := by
  obtain ⟨hp, g, d, tk, os⟩ := s
  refine ks_callType_codesW (Q₁ := fun obj s₁ => obj = .ref hp.objs.size ∧ s₁ = ⟨hp.push { cls := .type "super", data := .fields #[.none, .none, .none] }, g, d, tk, os⟩) F.ks_called_super (ks_wpAny_checkTypeCall_super hC rfl) F.ks_entry_super_init
    (ks_code_super_new _ _ ⟨rfl, rfl⟩) fun obj s₁ h₁ => ?_
  obtain ⟨rfl, rfl⟩ := h₁
  have up : ∀ y o, hp.get? y = some o → (hp.push { cls := .type "super", data := .fields #[.none, .none, .none] }).get? y = some o := fun y o e => Heap.get?_push_of_some _ e
  have hso : (hp.push { cls := .type "super", data := .fields #[.none, .none, .none] }).get? hp.objs.size = some { cls := .type "super", dict := none, data := .fields #[.none, .none, .none], slots := #[] } := Heap.get?_push_at rfl rfl
  have hC' := up _ _ hC
  refine ⟨⟨_, hso, rfl⟩, F.ks_initArgs_super _ _ _, ?_⟩
  have hct : [Value.ref a, Value.type "object"].contains (Value.ref a) = true := by simp
  unfold Builtin.«super.__init__» noKeywords
  wp_walk using (ks_wpAny_isType_cls hC' rfl), (ks_wpAny_super_set3 hso), (subOf hC' hm)
  intro h' e k
  exact ⟨rfl, h _ _ ⟨h', tk, rfl, fun y o ey => k y o (Nat.ne_of_lt (Heap.lt_size ey)) (up y o ey)⟩ e⟩

theorem ent_isub : entryFor table "object.__init_subclass__" = some Builtin.«object.__init_subclass__» := entryFor_of_tree (by kernel_rfl)
set_option maxHeartbeats 4000000 in
theorem isubCall {w : World} {A : Around} {E : Value → Shared → Prop} {s : Shared} {a b : Addr} {Q : Value → Shared → Prop} {dc : Option Addr} {cd : ClassData} {sl : Array (Option Value)}
    (hC : s.heap.get? a = some ⟨.type "type", dc, .cls cd, sl⟩) (hq : cd.qualname = "cmp_to_key.<locals>.K") (hb : s.heap.get? b = some (bfO a)) (h : Q .none s) : wpAny (model pr w) A (call (.ref b) []) Q E s := by
  refine wpAny_call (codeAny_of_tree ?_)
  show wpAny _ _ (callAny (.ref b) _) _ _ _
  unfold callAny
  have q1 : isSubtype (.type "type") (.type "module") = pure false := by rw [isSubtype_type]; kernel_rfl
  have q2 := eq_sub3
  obtain ⟨nm, bs, mro, nsa, qn, hdc, sln, sbc, abs, col, hdl⟩ := cd
  dsimp only at hq
  subst hq
  wp_walk using (ks_wpAny_isType_cls hC rfl)
  refine ⟨Code.quiet_builtin _ (by decide +kernel), codeAny_builtin ent_isub ?_⟩
  show wpAny _ _ (ret .none) _ _ _
  exact wpAny_pure h
end Mine
end

section
open PySem PySem.W PyProof.Rows
set_option maxRecDepth 100000
namespace Mine
theorem tcA {α : Type} {w : World} {A : Around} {E : Value → Shared → Prop} {s : Shared} {m : Sem α} {k : Value → Sem α} {Q : α → Shared → Prop} (h : wpAny (model pr w) A m Q (fun e s' => wpAny (model pr w) A (k e) Q E s') s) :
    wpAny (model pr w) A (Sem.tryCatch m k) Q E s := wpAny_tryCatch h
theorem noSet_str : typeLookup (.type "str") "__set_name__" = pure none := by rw [typeLookup_type, builtinLookup_eq_fast]; kernel_rfl
theorem noSet_int : typeLookup (.type "int") "__set_name__" = pure none := by rw [typeLookup_type, builtinLookup_eq_fast]; kernel_rfl
theorem noSet_list : typeLookup (.type "list") "__set_name__" = pure none := by rw [typeLookup_type, builtinLookup_eq_fast]; kernel_rfl
theorem noSet_fn : typeLookup (.type "function") "__set_name__" = pure none := by rw [typeLookup_type, builtinLookup_eq_fast]; kernel_rfl
theorem noSet_none : typeLookup (.type "NoneType") "__set_name__" = pure none := by rw [typeLookup_type, builtinLookup_eq_fast]; kernel_rfl
theorem noSet_tup : typeLookup (.type "tuple") "__set_name__" = pure none := by rw [typeLookup_type, builtinLookup_eq_fast]; kernel_rfl
theorem noSet_md : typeLookup (.type "member_descriptor") "__set_name__" = pure none := by rw [typeLookup_type, builtinLookup_eq_fast]; kernel_rfl
theorem TypeIs.of_get {s s' : Shared} {a : Addr} {T : String} (h : s.TypeIs (.ref a) T) (k : ∀ b o, s.heap.get? b = some o → s'.heap.get? b = some o) : s'.TypeIs (.ref a) T := let ⟨o, e, c⟩ := h; ⟨o, k _ _ e, c⟩

theorem forInSameL {α β : Type} {w : World} {A : Around} {E : Value → Shared → Prop} {s : Shared} {Q : β → Shared → Prop} {b : β} {f : α → β → Sem (ForInStep β)} : ∀ {es : List α}, (∀ e ∈ es, ∀ Q' : ForInStep β → Shared → Prop, Q' (.yield b) s → wpAny (model pr w) A (f e b) Q' E s) → Q b s →
    wpAny (model pr w) A (forIn es b f) Q E s
  | [], _, h => wpAny_pure h
  | e :: es, hf, h => by
    rw [List.forIn_cons]
    exact wpAny_bind (hf e (.head _) _ (forInSameL (fun x hx => hf x (.tail _ hx)) h))
theorem forInSame {α β : Type} {w : World} {A : Around} {E : Value → Shared → Prop} {s : Shared} {Q : β → Shared → Prop} {b : β} {f : α → β → Sem (ForInStep β)} {es : Array α} (hf : ∀ e ∈ es.toList, ∀ Q' : ForInStep β → Shared → Prop, Q' (.yield b) s → wpAny (model pr w) A (f e b) Q' E s) (h : Q b s) :
    wpAny (model pr w) A (forIn es b f) Q E s := by
  rw [← Array.forIn_toList]
  exact forInSameL hf h
/-- an entry whose value takes no note of its name -/
structure Plain1 (s : Shared) (e : DictEntry) : Prop where
  key : ∃ n t, e.key = .str n t
  held : Builtin.laidUnderItsOwnName e.key e.val = false
  set : ∃ T, s.TypeIs e.val T ∧ typeLookup (.type T) "__set_name__" = pure none
theorem plain_ref {s : Shared} {h : Int} {n : Str} {t : Tok} {a : Addr} {T : String} (ht : s.TypeIs (.ref a) T) (hl : typeLookup (.type T) "__set_name__" = pure none) : Plain1 s (ent h n t (.ref a)) := ⟨⟨n, t, rfl⟩, rfl, T, ht, hl⟩
theorem nsAll {s : Shared} (k : KV) {hs hd : Int} {t₁ td : Tok} {md : Addr} (u1 : s.TypeIs (.ref k.sl) "list") (u2 : s.TypeIs (.ref k.vi) "function") (u3 : s.TypeIs (.ref k.vlt) "function") (u4 : s.TypeIs (.ref k.vgt) "function") (u5 : s.TypeIs (.ref k.veq) "function")
    (u6 : s.TypeIs (.ref k.vle) "function") (u7 : s.TypeIs (.ref k.vge) "function") (u8 : s.TypeIs (.ref k.vst) "tuple") (u9 : s.TypeIs (.ref md) "member_descriptor") : ∀ e ∈ (k.e3 hs t₁ md hd td).toList, Plain1 s e := by
  have hstr : ∀ {h : Int} {n : Str} {t : Tok} {x : Str} {t' : Tok}, Plain1 s (ent h n t (.str x t')) := ⟨⟨_, _, rfl⟩, rfl, "str", rfl, noSet_str⟩
  have hint : ∀ {h : Int} {n : Str} {t : Tok} {x : Int} {t' : Tok}, Plain1 s (ent h n t (.int x t')) := ⟨⟨_, _, rfl⟩, rfl, "int", rfl, noSet_int⟩
  have hnone : ∀ {h : Int} {n : Str} {t : Tok}, Plain1 s (ent h n t .none) := ⟨⟨_, _, rfl⟩, rfl, "NoneType", rfl, noSet_none⟩
  refine List.forall_mem_cons.mpr ⟨hstr, List.forall_mem_cons.mpr ⟨hint, List.forall_mem_cons.mpr ⟨plain_ref u1 noSet_list, List.forall_mem_cons.mpr ⟨plain_ref u2 noSet_fn, List.forall_mem_cons.mpr ⟨plain_ref u3 noSet_fn, List.forall_mem_cons.mpr ⟨plain_ref u4 noSet_fn,
    List.forall_mem_cons.mpr ⟨plain_ref u5 noSet_fn, List.forall_mem_cons.mpr ⟨plain_ref u6 noSet_fn, List.forall_mem_cons.mpr ⟨plain_ref u7 noSet_fn, List.forall_mem_cons.mpr ⟨hnone, List.forall_mem_cons.mpr ⟨plain_ref u8 noSet_tup, List.forall_mem_cons.mpr ⟨plain_ref u9 noSet_md, List.forall_mem_cons.mpr ⟨hnone, fun _ q => nomatch q⟩⟩⟩⟩⟩⟩⟩⟩⟩⟩⟩⟩⟩
end Mine
end

section
open PySem PySem.W PyProof.Rows
set_option maxRecDepth 100000
namespace Mine
set_option maxHeartbeats 4000000 in
theorem typeNew (w : World) {A : Around} {E : Value → Shared → Prop} {Q : PySem.Fin → Shared → Prop} {s : Shared} {bT nsA : Addr} {t : Tok} (k : KV) {ep : Nat}
   (hb : s.heap.get? bT = some { cls := .type "tuple", data := .seq #[.type "object"] })
   (hn : s.heap.get? nsA = some { cls := .type "dict", data := .dict k.e0 ep })
   (hne : (nsA == sysModules) = false) (hl : s.heap.IsList k.sl [Value.str "obj" k.ts].toArray) (hq : k.q = "cmp_to_key.<locals>.K")
   (ti : s.TypeIs (.ref k.vi) "function") (tlt : s.TypeIs (.ref k.vlt) "function") (tgt : s.TypeIs (.ref k.vgt) "function") (teq : s.TypeIs (.ref k.veq) "function") (tle : s.TypeIs (.ref k.vle) "function") (tge : s.TypeIs (.ref k.vge) "function")
   (tst : s.TypeIs (.ref k.vst) "tuple") (hcs : s.heap.get? cStatics = some { cls := .none, data := .dict #[] })
   (h : ∀ n a md t' hs t₁ hd td s', Keeps s s' → s'.heap.get? n = some (dO (k.e3 hs t₁ md hd td) 3) → s'.heap.get? md = some (mdO a t') →
     s'.heap.get? a = some (kO n k.q [.ref a, .type "object"] false ["obj"] #[some (.ref bT), none, some (.str "K" t), some (.str k.q k.tq), some (.builtin "object.__new__"), some (.bool false)]) →
     Q (.done (.ret (.ref a))) s') :
    wpAny (model pr w) A (Builtin.«type.__new__» ⟨[.type "type", .str "K" t, .ref bT, .ref nsA], []⟩) Q E s := by
  have q1 := eq_sub1
  have q2 := eq_sub2
  have q3 := eq_sub3
  have q4 := eq_mro1
  have q5 := eq_tyO
  have q8 := eq_lookIter
  have q9 : Builtin.notOverATurnedClass bsK = pure () := eq_turned
  have q10 : Builtin.extendedBase bsK = pure (.type "object") := eq_ext
  have T1 : s.TypeIs (.ref nsA) "dict" := ⟨_, hn, rfl⟩
  unfold Builtin.«type.__new__»
  wp_walk using (slots_readK k hl)
  intro s₂ K₂
  have hb₂ := kGet K₂ hb
  have hn₂ := kGet K₂ hn
  wp_walk using newObjA
  intro n s₃ fn hD K₃
  wp_walk
  refine wpAny_ite_false (by kernel_rfl) ?_
  wp_walk
  refine wpAny_ite_false (by kernel_rfl) ?_
  wp_walk
  refine wpAny_ite_false (by kernel_rfl) ?_
  wp_walk using (nsGA (nm := "__qualname__") hD (show nsLook "__qualname__" _ = pure (some (.str k.q k.tq)) from by kernel_rfl)), (nsGA (nm := "__doc__") hD (show nsLook "__doc__" _ = pure none from by kernel_rfl)), (allocA rfl)
  intro a s₄ fa hC K₄
  have X₄ : Mk s₂ s₂.heap.get? n (dO k.e0 0) a (kO n k.q [] true [] #[]) s₄ := Mk.start K₃ K₄ fn hD fa hC
  clear q1 q2 q3 q5 q8 q9 q10 T1 hC fa
  wp_walk using (mkSlot (kO n k.q [] true [] #[some (.ref bT)]) X₄ (by decide) rfl (by kernel_rfl))
  intro s₅ X₅
  wp_walk using (mkSlot (kO n k.q [] true [] #[some (.ref bT), none, some (.str "K" t)]) X₅ (by decide) rfl (by kernel_rfl))
  intro s₆ X₆
  wp_walk using (mkSlot (kO n k.q [] true [] #[some (.ref bT), none, some (.str "K" t), some (.str k.q k.tq)]) X₆ (by decide) rfl (by kernel_rfl))
  intro s₇ X₇
  wp_walk using (mkDel (dO k.e1 1) X₇ (by kernel_rfl) (by kernel_rfl) rfl)
  intro s₈ X₈
  clear X₄ X₅ X₆ X₇ hD K₃ K₄
  have g1 : nsLook "__new__" (dO k.e1 1) = pure none := by kernel_rfl
  have g2 : nsLook "__init_subclass__" (dO k.e1 1) = pure none := by kernel_rfl
  have g3 : nsLook "__class_getitem__" (dO k.e1 1) = pure none := by kernel_rfl
  have g4 : nsLook "__classcell__" (dO k.e1 1) = pure none := by kernel_rfl
  have g5 : nsLook "__classdictcell__" (dO k.e1 1) = pure none := by kernel_rfl
  have q11 := eq_mroHook
  have q12 : Builtin.linearize bsK mroOf = pure [.type "object"] := eq_lin
  wp_walk using (nsGA X₈.d g1), (nsGA X₈.d g2), (nsGA X₈.d g3), (nsGA X₈.d g4), (nsGA X₈.d g5)
  rw [show List.filter (fun x => x != Value.ref a) [Value.ref a, Value.type "object"] = [.type "object"] from by simp]
  refine wpAny_of_eq (a := false) (by kernel_rfl) ?_
  clear g1 g2 g3 g4 g5 q11 q12
  have q13 := eq_made
  wp_walk using (mkCls X₈ rfl)
  intro s₉ X₉
  have X₉' : Mk s₂ s₂.heap.get? n (dO k.e1 1) a (kO n k.q [.ref a, .type "object"] true [] #[some (.ref bT), none, some (.str "K" t), some (.str k.q k.tq)]) s₉ := X₉.castC (by kernel_rfl)
  clear X₈ X₉
  wp_walk using (mkSlot (kO n k.q [.ref a, .type "object"] true [] #[some (.ref bT), none, some (.str "K" t), some (.str k.q k.tq), some (.builtin "object.__new__")]) X₉' (by decide) rfl (by kernel_rfl))
  intro s₁₀ X₁₀
  clear X₉'
  have hD₁ := X₁₀.d
  have hC₁ := X₁₀.c
  wp_walk using (lookNone (nm := "__new__") _ X₁₀.c rfl X₁₀.d (by kernel_rfl) own_new)
  refine wpAny_ite_false (by kernel_rfl) ?_
  clear q13 hD₁ hC₁
  have q14 := eq_gW
  wp_walk using (installK X₁₀)
  intro md t' hs t₁ s₁₁ fm X₁₁
  clear X₁₀
  wp_walk using (mkSlot (kO n k.q [.ref a, .type "object"] false ["obj"] #[some (.ref bT), none, some (.str "K" t), some (.str k.q k.tq), some (.builtin "object.__new__"), some (.bool false)]) X₁₁ (by decide) rfl (by kernel_rfl))
  intro s₁₂ X₁₂
  clear X₁₁
  wp_walk using (nsGA (nm := "__doc__") X₁₂.d (show nsLook "__doc__" (dO (k.e2 hs t₁ md) 2) = pure none from by kernel_rfl)), (mkSet (fun hd td => dO (k.e3 hs t₁ md hd td) 3) X₁₂ (by kernel_rfl) (fun _ _ => by kernel_rfl) (fun _ _ => rfl))
  intro hd td s₁₃ X₁₃
  clear X₁₂ q14
  have q15 : Builtin.noteSubclassOfBuiltin "object" a = pure () := by
    unfold Builtin.noteSubclassOfBuiltin
    rw [if_pos (by decide +kernel)]
  have K₁₃ : ∀ b o, s.heap.get? b = some o → s₁₃.heap.get? b = some o := fun b o e => X₁₃.keep b o (by
    have := kGet K₂ e
    show (if b = md then _ else _) = _
    rw [if_neg (fun z => by rw [← z, this] at fm; cases fm)]; exact this)
  have hmd : s₁₃.heap.get? md = some (mdO a t') := X₁₃.keep md _ (if_pos rfl)
  have hd₁₃ := X₁₃.d
  have u1 : s₁₃.TypeIs (.ref k.sl) "list" := let ⟨o, ho, hc, _⟩ := hl; ⟨o, K₁₃ _ _ ho, hc⟩
  have u2 := TypeIs.of_get ti K₁₃
  have u3 := TypeIs.of_get tlt K₁₃
  have u4 := TypeIs.of_get tgt K₁₃
  have u5 := TypeIs.of_get teq K₁₃
  have u6 := TypeIs.of_get tle K₁₃
  have u7 := TypeIs.of_get tge K₁₃
  have u8 := TypeIs.of_get tst K₁₃
  have u9 : s₁₃.TypeIs (.ref md) "member_descriptor" := ⟨_, hmd, rfl⟩
  have hall := nsAll k (hs := hs) (hd := hd) (t₁ := t₁) (td := td) u1 u2 u3 u4 u5 u6 u7 u8 u9
  wp_walk using (nsGA (nm := "__eq__") X₁₃.d (show nsLook "__eq__" (dO (k.e3 hs t₁ md hd td) 3) = pure (some (.ref k.veq)) from by kernel_rfl)), (nsGA (nm := "__hash__") X₁₃.d (show nsLook "__hash__" (dO (k.e3 hs t₁ md hd td) 3) = pure (some .none) from by kernel_rfl)), tcA, forInSame
  · intro e he Q' hQ'
    obtain ⟨n', t', hk⟩ := (hall e he).key
    rw [hk]
    wp_walk
    exact hQ'
  wp_walk using forInSame
  · intro e he Q' hQ'
    obtain ⟨T, hT, hl'⟩ := (hall e he).set
    rw [(hall e he).held]
    wp_walk using (wpAny_specialOf hT hl')
    exact hQ'
  wp_walk using (superMake X₁₃.c rfl)
  intro so s₁₄ k₁₄ hso
  have X₁₄ := X₁₃.keeps k₁₄
  wp_walk using (superGet hso X₁₄.c rfl (kGet k₁₄ (K₁₃ _ _ hcs)))
  intro b s₁₅ k₁₅ hbf
  have X₁₅ := X₁₄.keeps k₁₅
  wp_walk using (isubCall X₁₅.c hq hbf)
  refine h n a md t' hs t₁ hd td _ ?_ X₁₅.d (X₁₅.keep md _ (if_pos rfl)) X₁₅.c
  · refine kTrans K₂ (X₁₅.done fun b o e => ?_)
    show (if b = md then _ else _) = _
    rw [if_neg (fun z => by rw [← z, e] at fm; cases fm)]; exact e
  · exact Nat.le_of_ble_eq_true rfl
  · rfl
end Mine
end

section
open PySem PySem.W PyProof.Rows
set_option maxRecDepth 100000
namespace Mine
theorem eq_mroT : mroOf (.type "type") = pure [.type "type", .type "object"] := by rw [mroOf_type]; kernel_rfl
theorem eq_madeT : Bind.madeBy (.type "type") = pure (some "type.__new__") := by
  have e : typeLookup (.type "type") "__new__" = pure (some (.builtin "type.__new__")) := by rw [typeLookup_type, builtinLookup_eq_fast]; kernel_rfl
  unfold Bind.madeBy
  simp only [eq_mroT, pure_bind, List.forIn_cons, e]
  kernel_rfl
theorem look_Tinit : typeLookup (.type "type") "__init__" = pure (some (.builtin "type.__init__")) := by rw [typeLookup_type, builtinLookup_eq_fast]; kernel_rfl
theorem ent_Tnew : entryFor table "type.__new__" = some Builtin.«type.__new__» := entryFor_of_tree (by kernel_rfl)
theorem ent_Tinit : entryFor table "type.__init__" = some Builtin.«type.__init__» := entryFor_of_tree (by kernel_rfl)
theorem chk_Tnew (t : Tok) (bT nsA : Addr) : checkBuiltinCall "type.__new__" ⟨[.type "type", .str "K" t, .ref bT, .ref nsA], []⟩ = pure () := by kernel_rfl
theorem slot_Tinit : PySem.Slot "type" "__init__" "type.__init__" := .of (owner := "type") (n := "__init__") look_Tinit (by decide +kernel) (by decide +kernel) (by decide +kernel)
  (by first | exact .inl (by decide +kernel) | exact .inr (by decide +kernel)) (by rw [isSubtype_type]; kernel_rfl)
theorem args_Tinit (a b c d : Value) : argsOk "type.__init__" ⟨[a, b, c, d], []⟩ := by unfold argsOk; kernel_rfl
set_option maxHeartbeats 4000000 in
theorem typeCall (w : World) {A : Around} {E : Value → Shared → Prop} {Q : Value → Shared → Prop} {s : Shared} {bT nsA : Addr} {t : Tok} (k : KV) {ep : Nat}
   (hb : s.heap.get? bT = some { cls := .type "tuple", data := .seq #[.type "object"] })
   (hn : s.heap.get? nsA = some { cls := .type "dict", data := .dict k.e0 ep })
   (hne : (nsA == sysModules) = false) (hl : s.heap.IsList k.sl [Value.str "obj" k.ts].toArray) (hq : k.q = "cmp_to_key.<locals>.K")
   (ti : s.TypeIs (.ref k.vi) "function") (tlt : s.TypeIs (.ref k.vlt) "function") (tgt : s.TypeIs (.ref k.vgt) "function") (teq : s.TypeIs (.ref k.veq) "function") (tle : s.TypeIs (.ref k.vle) "function") (tge : s.TypeIs (.ref k.vge) "function")
   (tst : s.TypeIs (.ref k.vst) "tuple") (hcs : s.heap.get? cStatics = some { cls := .none, data := .dict #[] })
   (h : ∀ n a md t' hs t₁ hd td s', Keeps s s' → s'.heap.get? n = some (dO (k.e3 hs t₁ md hd td) 3) → s'.heap.get? md = some (mdO a t') →
     s'.heap.get? a = some (kO n k.q [.ref a, .type "object"] false ["obj"] #[some (.ref bT), none, some (.str "K" t), some (.str k.q k.tq), some (.builtin "object.__new__"), some (.bool false)]) →
     Q (.ref a) s') :
    wpAny (model pr w) A (call (.type "type") [.str "K" t, .ref bT, .ref nsA]) Q E s := by
  refine wpAny_call (codeAny_of_tree ?_)
  show wpAny _ _ (callAny (.type "type") _) _ _ _
  refine wpAny_pure ⟨Code.quiet_builtin _ (by decide +kernel), codeAny_builtin F.entry_type_call ?_⟩
  have q1 := eq_mroT
  have q2 := eq_madeT
  have q3 := eq_sub3
  have q4 := chk_Tnew t bT nsA
  unfold Builtin.«type.__call__»
  wp_walk
  clear q1 q2 q4
  refine codeAny_of_tree ?_
  show wpAny _ _ (do checkBuiltinCall "type.__new__" ⟨[.type "type", .str "K" t, .ref bT, .ref nsA], []⟩; again (.builtin "type.__new__" ⟨[.type "type", .str "K" t, .ref bT, .ref nsA], []⟩)) _ _ _
  refine wpAny_bind (wpAny_of_eq (chk_Tnew _ _ _) (wpAny_pure ⟨Code.quiet_builtin _ (by decide +kernel), codeAny_builtin ent_Tnew ?_⟩))
  refine typeNew w k hb hn hne hl hq ti tlt tgt teq tle tge tst hcs fun n a md t' hs t₁ hd td s' K hn' hmd ha => ?_
  have fin := h n a md t' hs t₁ hd td s' K hn' hmd ha
  clear h hb hn hne hl ti tlt tgt teq tle tge tst hcs hn' hmd
  have q5 := look_Tinit
  have T1 : s'.TypeIs (.ref a) "type" := ⟨_, ha, rfl⟩
  dsimp only
  wp_walk
  refine wpAny_of_eq (slot_Tinit.bind _) ?_
  dsimp only
  refine wpAny_bind (wpAny_call_entry slot_Tinit T1 ent_Tinit ?_ (args_Tinit _ _ _ _))
  show wpAny _ _ (ret .none) _ _ _
  exact wpAny_pure ⟨_, rfl, wpAny_pure (wpAny_pure fin)⟩
end Mine
end

section
open PySem PySem.W PyProof.Rows
set_option maxRecDepth 100000
namespace Mine
/-- said of every heap that holds B -/
def OnB (B : Addr → Option Obj) (Φ : Heap → Prop) : Prop := ∀ h : Heap, (∀ b o, B b = some o → h.get? b = some o) → Φ h
def Sub (B B' : Addr → Option Obj) : Prop := ∀ b o, B b = some o → B' b = some o
theorem OnB.mono {B B' : Addr → Option Obj} {Φ : Heap → Prop} (x : OnB B Φ) (k : Sub B B') : OnB B' Φ := fun h hh => x h fun b o e => hh b o (k b o e)
theorem Sub.refl (B : Addr → Option Obj) : Sub B B := fun _ _ e => e
theorem Sub.trans {B B' B'' : Addr → Option Obj} (x : Sub B B') (y : Sub B' B'') : Sub B B'' := fun b o e => y b o (x b o e)
abbrev addB (B : Addr → Option Obj) (x : Addr) (o : Obj) : Addr → Option Obj := fun b => if b = x then some o else B b
theorem addB_sub {B : Addr → Option Obj} {x : Addr} {o : Obj} (h : B x = none) : Sub B (addB B x o) := fun b o' e => by
  show (if b = x then _ else _) = _
  rw [if_neg (fun z => by rw [z, h] at e; cases e)]; exact e
theorem Mk.none {s cur : Shared} {B : Addr → Option Obj} {n a x : Addr} {D C : Obj} (X : Mk s B n D a C cur) (fx : cur.heap.get? x = Option.none) : B x = Option.none := by
  cases e : B x with
  | none => rfl
  | some o => rw [X.keep x o e] at fx; cases fx

structure TabNext (ps ps' : Array Value) (pos : Pos) (c : Addr) : Prop where
  found : codeAmong pos ps'.toList = some (.ref c)
  ok : TriplesOk ps'.toList
  how : ps' = ps ∨ (codeAmong pos ps.toList = none ∧ ps' = ps ++ #[rawInt pos.line, rawInt pos.col, .ref c])
section
variable {w : World} {A : Around} {E : Value → Shared → Prop} {s cur : Shared} {B : Addr → Option Obj} {n P c : Addr} {D : Obj} {ps : Array Value} {env : Env} {pos : Pos}
theorem codeGet {firstLine : Nat} {name qual : Str} {params : Arguments} {scope : Scope} {body : FuncBody} {Q : Value → Shared → Prop} (X : Mk s B n D P (tabObj ps) cur) (hcode : env.code = .ref c) (hc : OnB B (CodeHd · c P)) (ht : TriplesOk ps.toList)
    (hv : (∃ c', codeAmong pos ps.toList = some (.ref c') ∧ OnB B (·.CodeRec (.ref c') qual)) ∨ codeAmong pos ps.toList = none)
    (h : ∀ c' B' ps' cur', Mk s B' n D P (tabObj ps') cur' → Sub B B' → OnB B' (·.CodeRec (.ref c') qual) → TabNext ps ps' pos c' → Q (.ref c') cur') :
    wpAny (model pr w) A (functionCode env pos firstLine name qual params scope body) Q E cur := by
  have C := hc cur.heap X.keep
  rcases hv with ⟨c', hf, hr⟩ | hnf
  · exact wpAny_functionCode_hit hcode (C.code X.c ht) hf (h c' B ps cur X (Sub.refl B) hr ⟨hf, ht, .inl rfl⟩)
  · refine wpAny_functionCodeX hcode (C.code X.c ht) (C.tab X.c) hnf fun c' h' tk hx hge hlt hok hrec htb _ => ?_
    obtain ⟨c₂, o₂, vs₂, t₂, e₂, g₂, d₂, r₂⟩ := hrec
    cases e₂
    have fx : cur.heap.get? c' = none := by
      cases e : cur.heap.get? c' with
      | none => rfl
      | some o => exact absurd (Heap.lt_size e) (Nat.not_lt.mpr hge)
    have hB := X.none fx
    have hl : (ps ++ #[rawInt pos.line, rawInt pos.col, Value.ref c']).toList = ps.toList ++ [rawInt pos.line, rawInt pos.col, .ref c'] := by simp
    refine h c' (addB B c' o₂) (ps ++ #[rawInt pos.line, rawInt pos.col, .ref c']) _ ⟨?_, fun b o q => ?_, hx n D X.ne X.d, htb.2, ?_, ?_, X.ne⟩ (addB_sub hB) (fun hh k => ⟨c', o₂, vs₂, t₂, rfl, k _ _ (if_pos rfl), d₂, r₂⟩)
      ⟨by rw [hl]; exact codeAmong_snoc _ ht hnf, by rw [hl]; exact TriplesOk_snoc _ _ _ _ ht, .inr ⟨hnf, rfl⟩⟩
    · obtain ⟨h0, t0, e⟩ := X.same
      exact ⟨h', tk, by rw [e]⟩
    · change (if b = c' then some o₂ else B b) = some o at q
      by_cases z : b = c'
      · subst z; rw [if_pos rfl] at q; cases q; exact g₂
      · rw [if_neg z] at q
        exact hx b o (fun y => by rw [y, X.fa] at q; cases q) (X.keep b o q)
    · show (if n = c' then _ else _) = _
      rw [if_neg (fun z => by rw [← z, X.d] at fx; cases fx)]; exact X.fn
    · show (if P = c' then _ else _) = _
      rw [if_neg (fun z => by rw [← z, X.c] at fx; cases fx)]; exact X.fa

/-- a function of the class's body -/
abbrev fnO (name qual : Str) (params : Arguments) (body : List Stmt) (scope : Scope) (clos : List (Str × Addr)) (pm : Value) (c' : Addr) (ctv : Value) : Obj :=
  { cls := .type "function", data := .func { name, qualname := qual, params, body := .stmts body, scope, globals := 3, closure := clos, defaults := .none, kwdefaults := .none, doc := .none, pyModule := pm, annotations := none, code := .ref c', closureTuple := ctv, builtins := 0 } }
theorem bi_gl (w : World) : gl w "__builtins__" = some (.ref 4) := by kernel_rfl
theorem o4 (w : World) : (KF w).lookup 4 = some { cls := .type "module", dict := some 0, data := .plain } := by kernel_rfl
theorem fnMake {firstLine : Nat} {name qual : Str} {params : Arguments} {scope : Scope} {body : List Stmt} {clos : List (Str × Addr)} {Q : Value → Shared → Prop} (X : Mk s B n D P (tabObj ps) cur) (HB : OnB B (Has w)) (hcode : env.code = .ref c) (hg : env.globals = 3)
    (hcl : closureFor scope env = pure clos) (hdoc : docOf body = none) (hc : OnB B (CodeHd · c P)) (ht : TriplesOk ps.toList)
    (hv : (∃ c', codeAmong pos ps.toList = some (.ref c') ∧ OnB B (·.CodeRec (.ref c') qual)) ∨ codeAmong pos ps.toList = none)
    (h : ∀ f c' ctv B' ps' cur', Mk s B' n D P (tabObj ps') cur' → Sub B B' → B' f = some (fnO name qual params body scope clos ((gl w "__name__").getD .none) c' ctv) → OnB B' (·.CodeRec (.ref c') qual) → TabNext ps ps' pos c' → Q (.ref f) cur') :
    wpAny (model pr w) A (makeTail name qual params (.stmts body) scope env .none .none none pos firstLine) Q E cur := by
  unfold makeTail
  rw [hcl, hg]
  refine wpAny_bind (wpAny_pure ?_)
  cases clos with
  | nil =>
    simp only [List.isEmpty_nil, if_true]
    refine wpAny_bind (wpAny_pure ?_)
    have X₁ := X
    have k₁ := Sub.refl B
    refine wpAny_bind (codeGet X₁ hcode (hc.mono k₁) ht (hv.imp (fun ⟨c', a, b⟩ => ⟨c', a, b.mono k₁⟩) id) fun c' B' ps' cur' X' k' hr hn => ?_)
    have H' : Has w cur'.heap := HB _ fun b o e => X'.keep b o (k' b o (k₁ b o e))
    refine wpAny_bind (wpAny_builtinsFor H'.g (bi_gl w) (by decide) (H'.get (o4 w) (by decide) (by decide)) rfl rfl rfl ?_)
    refine wpAny_bind (wpAny_nsGet H'.g ?_)
    rw [hdoc]
    refine wpAny_bind (wpAny_pure ?_)
    refine wpAny_newObj_type ?_ (by size_fits)
    have fx := fresh_none cur'.heap
    exact h _ c' _ _ ps' _ (X'.more (kPushH _) fx (Heap.get?_push_size _ rfl)) ((k₁.trans k').trans (addB_sub (X'.none fx))) (if_pos rfl) (hr.mono (addB_sub (X'.none fx))) hn
  | cons q r =>
    simp only [List.isEmpty_cons, Bool.false_eq_true, if_false]
    refine wpAny_bind (wpAny_newTextTuple ?_)
    have fx₀ := fresh_none cur.heap
    have X₁ := X.more (kPushH { cls := .type "tuple", data := .seq (List.map (fun x => Value.ref x.snd) ((q :: r).mergeSort fun a b => decide (a.fst.cps.toList ≤ b.fst.cps.toList))).toArray }) fx₀ (Heap.get?_push_size _ rfl)
    have k₁ := addB_sub (o := { cls := .type "tuple", data := .seq (List.map (fun x => Value.ref x.snd) ((q :: r).mergeSort fun a b => decide (a.fst.cps.toList ≤ b.fst.cps.toList))).toArray }) (X.none fx₀)
    refine wpAny_bind (codeGet X₁ hcode (hc.mono k₁) ht (hv.imp (fun ⟨c', a, b⟩ => ⟨c', a, b.mono k₁⟩) id) fun c' B' ps' cur' X' k' hr hn => ?_)
    have H' : Has w cur'.heap := HB _ fun b o e => X'.keep b o (k' b o (k₁ b o e))
    refine wpAny_bind (wpAny_builtinsFor H'.g (bi_gl w) (by decide) (H'.get (o4 w) (by decide) (by decide)) rfl rfl rfl ?_)
    refine wpAny_bind (wpAny_nsGet H'.g ?_)
    rw [hdoc]
    refine wpAny_bind (wpAny_pure ?_)
    refine wpAny_newObj_type ?_ (by size_fits)
    have fx := fresh_none cur'.heap
    exact h _ c' _ _ ps' _ (X'.more (kPushH _) fx (Heap.get?_push_size _ rfl)) ((k₁.trans k').trans (addB_sub (X'.none fx))) (if_pos rfl) (hr.mono (addB_sub (X'.none fx))) hn
end
end Mine
end

section
open PySem PySem.W PyProof.Rows
set_option maxRecDepth 100000
namespace Mine
/-- the frame of a class's body -/
structure CEnv (env : Env) (n c : Addr) (names : List (Str × NameKind)) (cells : List (Str × Addr)) (qual : Str) : Prop where
  kind : env.scope.kind = .class
  names : env.scope.names = names
  locals : env.locals = n
  globals : env.globals = 3
  builtins : env.builtins = 0
  code : env.code = .ref c
  cells : env.cells = cells
  qual : env.qual = qual
section
variable {w : World} {A : Around} {E : Value → Shared → Prop} {s cur : Shared} {B : Addr → Option Obj} {n P c : Addr} {C : Obj} {env : Env} {names : List (Str × NameKind)} {cells : List (Str × Addr)} {ql : Str}
theorem storeK {nm : Str} {v : Value} {Q : Unit → Shared → Prop} {dc : Option Addr} {es : Array DictEntry} {ep : Nat} {sl : Array (Option Value)} (D' : Int → Tok → Obj) (e : CEnv env n c names cells ql) (X : Mk s B n ⟨.type "dict", dc, .dict es ep, sl⟩ P C cur)
    (hk : names.lookup nm = some .local ∨ (names.lookup nm = none ∧ compilersOwnNames.contains nm = true)) (hr : aRefKeyMayBeTheName nm es = false) (hD : ∀ hs t, Obj.putName nm hs (.str nm t) v ⟨.type "dict", dc, .dict es ep, sl⟩ = D' hs t) (hf : ∀ hs t, (D' hs t).isFreed = false)
    (h : ∀ hs t cur', Mk s B n (D' hs t) P C cur' → Q () cur') : wpAny (model pr w) A (storeName env nm v) Q E cur := by
  have key : storeName env nm v = localSet env nm v := by
    unfold storeName
    have hkind : env.kindOf nm = names.lookup nm := by unfold Env.kindOf; rw [e.names]
    rcases hk with hk | ⟨hk, hc⟩
    · simp only [hkind, hk, e.kind]; rfl
    · simp only [hkind, hk, e.kind, hc, Env.blockKind]; rfl
  rw [key]
  unfold localSet
  rw [e.locals]
  refine wpAny_bind (wpAny_load X.d ?_)
  rw [if_pos (by rfl)]
  exact mkSet D' X hr hD hf h
theorem bindK {nm : Str} {v : Value} {Q : Unit → Shared → Prop} {dc : Option Addr} {es : Array DictEntry} {ep : Nat} {sl : Array (Option Value)} (D' : Int → Tok → Obj) (e : CEnv env n c names cells ql) (X : Mk s B n ⟨.type "dict", dc, .dict es ep, sl⟩ P C cur)
    (hk : names.lookup nm = some .local) (hr : aRefKeyMayBeTheName nm es = false) (hD : ∀ hs t, Obj.putName nm hs (.str nm t) v ⟨.type "dict", dc, .dict es ep, sl⟩ = D' hs t) (hf : ∀ hs t, (D' hs t).isFreed = false)
    (h : ∀ hs t cur', Mk s B n (D' hs t) P C cur' → Q () cur') : wpAny (model pr w) A (bindName env nm v) Q E cur := by
  unfold bindName
  refine wpAny_bind (wpAny_holding (wpAny_point (wpAny_bind (storeK D' e X (.inl hk) hr hD hf fun hs t cur' X' => wpAny_point (h hs t cur' X')))))
variable {ps : Array Value}
set_option maxHeartbeats 1000000 in
theorem defK {nm : Str} {params : Arguments} {body : List Stmt} {scope : Scope} {pos : Pos} {clos : List (Str × Addr)} {Q : Flow → Shared → Prop} {dc : Option Addr} {es : Array DictEntry} {ep : Nat} {sl : Array (Option Value)} (D' : Addr → Int → Tok → Obj)
    (e : CEnv env n c names cells ql) (X : Mk s B n ⟨.type "dict", dc, .dict es ep, sl⟩ P (tabObj ps) cur) (HB : OnB B (Has w)) (hps : params.kwonlyargs = [] ∧ params.defaults = [] ∧ params.kw_defaults = []) (hann : annotationsOf params.args env = []) (hpo : params.posonlyargs = [] ∧ params.vararg = none ∧ params.kwarg = none)
    (hcl : closureFor scope env = pure clos) (hdoc : docOf body = none) (hc : OnB B (CodeHd · c P)) (ht : TriplesOk ps.toList) (qual : Str) (hq : ql ++ nm = qual)
    (hv : (∃ c', codeAmong pos ps.toList = some (.ref c') ∧ OnB B (·.CodeRec (.ref c') qual)) ∨ codeAmong pos ps.toList = none)
    (hk : names.lookup nm = some .local) (hr : aRefKeyMayBeTheName nm es = false) (hD : ∀ f hs t, Obj.putName nm hs (.str nm t) (.ref f) ⟨.type "dict", dc, .dict es ep, sl⟩ = D' f hs t) (hf : ∀ f hs t, (D' f hs t).isFreed = false)
    (h : ∀ f c' ctv B' ps' hs t cur', Mk s B' n (D' f hs t) P (tabObj ps') cur' → Sub B B' → B' f = some (fnO nm qual params body scope clos ((gl w "__name__").getD .none) c' ctv) → OnB B' (·.CodeRec (.ref c') qual) → TabNext ps ps' pos c' → Q .next cur') :
    wpAny (model pr w) A (exec (.FunctionDef nm params body [] none [] scope none nm pos) env) Q E cur := by
  rw [arm_exec_FunctionDef]
  obtain ⟨po, ag, va, ko, kd, kw, df⟩ := params
  obtain ⟨h1, h2, h3⟩ := hps
  obtain ⟨h4, h5, h6⟩ := hpo
  dsimp only at h1 h2 h3 h4 h5 h6 hann
  subst h1 h2 h3 h4 h5 h6
  unfold defStmt
  wp_walk
  refine wpAny_of_eq (a := []) ?_ ?_
  · show evalNamed (annotationsOf (ag ++ [] ++ [] ++ [] ++ []) env ++ []) = pure []
    simp only [List.append_nil, hann]
    rfl
  have hqn : qualnameIn env nm nm = qual := by
    unfold qualnameIn Env.kindOf
    rw [e.names, hk, e.qual, hq]; rfl
  rw [hqn, makeFunction_eq]
  simp only [List.zip_nil_right, List.filterMap_nil, List.isEmpty_nil, if_true, pure_bind]
  refine fnMake X HB e.code e.globals hcl hdoc hc ht hv fun f c' ctv B' ps' cur' X' k hfn hr' hn => ?_
  show wpAny _ _ (do let f ← pure (Value.ref f); standAt pos; bindName env nm f; pure Flow.next) _ _ _
  refine wpAny_bind (wpAny_pure (wpAny_bind (wpAny_standAt (wpAny_bind (bindK (D' f) e X' hk hr (hD f) (hf f) fun hs t cur'' X'' => wpAny_pure (h f c' ctv B' ps' hs t cur'' X'' k hfn hr' hn))))))
end
end Mine
end

section
open PySem PySem.W PyProof.Rows
set_option maxRecDepth 100000
namespace Mine
theorem look_Tga : typeLookup (.type "type") "__getattribute__" = pure (some (.builtin "type.__getattribute__")) := by rw [typeLookup_type, builtinLookup_eq_fast]; kernel_rfl
theorem look_Tprep : typeLookup (.type "type") "__prepare__" = pure (some (.builtin "type.__prepare__")) := by rw [typeLookup_type, builtinLookup_eq_fast]; kernel_rfl
theorem ty_T : typeOf (.type "type") = pure (.type "type") := by kernel_rfl
theorem ent_Tga : entryFor table "type.__getattribute__" = some Builtin.«type.__getattribute__» := entryFor_of_tree (by kernel_rfl)
theorem slot_Tga : PySem.Slot "type" "__getattribute__" "type.__getattribute__" := .of (owner := "type") (n := "__getattribute__") look_Tga (by decide +kernel) (by decide +kernel) (by decide +kernel)
  (by first | exact .inl (by decide +kernel) | exact .inr (by decide +kernel)) (by rw [isSubtype_type]; kernel_rfl)
theorem args_Tga (a b : Value) : argsOk "type.__getattribute__" ⟨[a, b], []⟩ := by unfold argsOk; kernel_rfl
theorem ty_prep : typeOf (.builtin "type.__prepare__") = pure (.type "classmethod_descriptor") := by kernel_rfl
theorem look_cmset : typeLookup (.type "classmethod_descriptor") "__set__" = pure none := by rw [typeLookup_type, builtinLookup_eq_fast]; kernel_rfl
theorem look_cmdel : typeLookup (.type "classmethod_descriptor") "__delete__" = pure none := by rw [typeLookup_type, builtinLookup_eq_fast]; kernel_rfl
abbrev prO : Obj := { cls := .type "builtin_function_or_method", data := .fields #[.builtin "type.__prepare__", .type "type"] }
theorem cmGetT {w : World} {A : Around} {E : Value → Shared → Prop} {s : Shared} {Q : Value → Shared → Prop}
    (h : ∀ b s', Keeps s s' → s'.heap.get? b = some prO → Q (.ref b) s') :
    wpAny (model pr w) A (call (.builtin "classmethod_descriptor.__get__") [.builtin "type.__prepare__", .none, .type "type"]) Q E s := by
  have T1 : s.TypeIs (.builtin "type.__prepare__") "classmethod_descriptor" := ty_prep
  refine wpAny_call_entry slot_cmget T1 ent_cmget ?_ (args_cmget _ _ _)
  have q1 : isSubtype (.type "type") (.type (".".intercalate ("type.__prepare__".cutAt '.').dropLast)) = pure true := by rw [isSubtype_type]; kernel_rfl
  unfold Builtin.«classmethod_descriptor.__get__»
  wp_walk
  exact ⟨_, rfl, h _ _ (kPushH _) (Heap.get?_push_size _ rfl)⟩
set_option maxHeartbeats 4000000 in
theorem prepK (w : World) {A : Around} {E : Value → Shared → Prop} {Q : Option Value → Shared → Prop} {s : Shared}
    (h : ∀ b s', Keeps s s' → s'.heap.get? b = some { cls := .type "builtin_function_or_method", data := .fields #[.builtin "type.__prepare__", .type "type"] } → Q (some (.ref b)) s') :
    wpAny (model pr w) A (getAttr? (.type "type") "__prepare__") Q E s := by
  have q1 := look_Tga
  have q2 := ty_T
  have T1 : ∀ s' : Shared, s'.TypeIs (.type "type") "type" := fun _ => ty_T
  unfold getAttr? getAttrBy? getAttrBy
  refine wpAny_bind (wpAny_mkText (wpAny_bind (wpAny_attempt (wpAny_holding (wpAny_bind (wpAny_of_eq ty_T (wpAny_bind (wpAny_of_eq look_Tga ?_))))))))
  show wpAny _ _ (getAttrByItsOwn (.type "type") (.str "__prepare__" s.toks) (.type "type") (.builtin "type.__getattribute__") false false) _ _ _
  unfold getAttrByItsOwn hookBefore callGetattribute boundAndCalled
  refine wpAny_bind (wpAny_of_eq (show (if onTheHeap (.type "type") then typeLookup (.type "type") "__getattr__" else pure none) = pure none from rfl) ?_)
  refine wpAny_bind (wpAny_attempt (wpAny_holding ?_))
  show wpAny _ _ (bindSpecial (.builtin "type.__getattribute__") (.type "type") >>= _) _ _ _
  refine wpAny_bind (wpAny_of_eq (slot_Tga.bind _) ?_)
  refine wpAny_mono (Q := fun v s' => ∃ b, v = .ref b ∧ Keeps s s' ∧ s'.heap.get? b = some { cls := .type "builtin_function_or_method", data := .fields #[.builtin "type.__prepare__", .type "type"] }) (E := fun _ _ => False)
    (wpAny_call_entry slot_Tga (T1 _) ent_Tga ?_ (args_Tga _ _)) (fun v s' hv => ?_) fun _ _ z => z.elim
  · have q3 := look_Tprep
    have q4 := ty_prep
    have q5 := look_cmget
    have q6 := look_cmset
    have q7 := look_cmdel
    unfold Builtin.«type.__getattribute__»
    wp_walk using cmGetT
    intro b s' k hb
    exact wpAny_pure ⟨_, rfl, b, rfl, kTrans (kTok _) k, hb⟩
  obtain ⟨b, rfl, k, hb⟩ := hv
  exact wpAny_pure (wpAny_pure (h b s' k hb))
theorem ent_prep : entryFor table "type.__prepare__" = some Builtin.«type.__prepare__» := entryFor_of_tree (by kernel_rfl)
theorem chk_prep (t : Tok) (b : Addr) : checkBoundCall "type.__prepare__" ⟨[.type "type", .str "K" t, .ref b], []⟩ = pure () := by kernel_rfl
theorem prepCall (w : World) {A : Around} {E : Value → Shared → Prop} {Q : Value → Shared → Prop} {s : Shared} {b bT : Addr} {t : Tok} (hb : s.heap.get? b = some prO)
    (h : ∀ n s', s.heap.get? n = none → Keeps s s' → s'.heap.get? n = some (dO #[] 0) → Q (.ref n) s') : wpAny (model pr w) A (call (.ref b) [.str "K" t, .ref bT]) Q E s := by
  refine wpAny_call (codeAny_of_tree ?_)
  show wpAny _ _ (callAny (.ref b) _) _ _ _
  unfold callAny
  refine wpAny_bind (wpAny_load hb ?_)
  show wpAny _ _ (do checkBoundCall "type.__prepare__" ⟨[.type "type", .str "K" t, .ref bT], []⟩; again (.builtin "type.__prepare__" ⟨[.type "type", .str "K" t, .ref bT], []⟩)) _ _ _
  refine wpAny_bind (wpAny_of_eq (chk_prep t bT) (wpAny_pure ⟨Code.quiet_builtin _ (by decide +kernel), codeAny_builtin ent_prep ?_⟩))
  refine wpAny_bind (newObjA fun n s' fn hn k => wpAny_pure (h n s' fn k hn))
end Mine
end

section
open PySem PySem.W PyProof.Rows
set_option maxRecDepth 100000
namespace Mine
section
variable {w : World} {A : Around} {E : Value → Shared → Prop} {s : Shared} {env : Env} {pos : Pos} {c P : Addr} {ps : Array Value}
/-- the class's code: found, or made with a new table -/
theorem classGet {line : Nat} {name qual : Str} {scope : Scope} {Q : Value → Shared → Prop} (hcode : env.code = .ref c) (C : CodeHd s.heap c P) (hP : s.heap.get? P = some (tabObj ps)) (ht : TriplesOk ps.toList)
    (hhit : ∀ c', codeAmong pos ps.toList = some c' → Q c' s)
    (hmiss : ∀ c' P' s', codeAmong pos ps.toList = none → (∃ h tk, s' = { s with heap := h, toks := tk }) → Heap.ExtBut P s.heap s'.heap → s.heap.get? c' = none → s.heap.get? P' = none → CodeHd s'.heap c' P' → s'.heap.get? P' = some (tabObj #[]) →
      s'.heap.CodeRec (.ref c') qual → s'.heap.get? P = some (tabObj (ps ++ #[rawInt pos.line, rawInt pos.col, .ref c'])) → Q (.ref c') s') :
    wpAny (model pr w) A (classCode env pos line name qual scope) Q E s := by
  have hok := C.code hP ht
  cases hf : codeAmong pos ps.toList with
  | some c' => exact wpAny_codeAt_hit hcode hok hf (hhit c' hf)
  | none =>
    obtain ⟨o, vs, file, tf, flags, tg, inF, text, tt, op, ho, hd, h11, h2, h7, h9, h10, hop, hpd, htr, hne⟩ := id hok
    rw [hP] at hop; cases hop; cases hpd
    unfold classCode codeAt
    rw [hcode, if_neg (show ¬ ((Value.ref c == Value.none) = true) from Bool.false_ne_true)]
    refine wpAny_bind (wpAny_fieldsOf ho hd ?_)
    rw [h11]
    refine wpAny_bind (wpAny_fieldsOf hP rfl ?_)
    rw [hf, h2, h7, h9, h10]
    refine wpAny_bind (wpAny_newCodeX fun c' P' h' tk hk hc' hP' hcode' htab' hrec' => ?_)
    have hop' := hk _ _ hP
    refine wpAny_bind (wpAny_updateFieldsOfTheText hop' rfl ?_)
    have fc : s.heap.get? c' = none := by
      cases e : s.heap.get? c' with
      | none => rfl
      | some o => exact absurd (Heap.lt_size e) (Nat.not_lt.mpr hc')
    have fP : s.heap.get? P' = none := by
      cases e : s.heap.get? P' with
      | none => rfl
      | some o => exact absurd (Heap.lt_size e) (Nat.not_lt.mpr hP')
    have hcP : c' ≠ P := fun z => by rw [z, hP] at fc; cases fc
    have hPP : P' ≠ P := fun z => by rw [z, hP] at fP; cases fP
    have hget := Heap.get?_update_self (h := h') (fun o => Obj.mapFields (fun vs => if (codeAmong pos vs.toList).isSome = true then vs else
      vs ++ #[rawInt pos.line, rawInt pos.col, .ref c']) o) hop' (by simp only [Obj.mapFields, hf]; rfl)
    have hnew : Obj.mapFields (fun vs => if (codeAmong pos vs.toList).isSome = true then vs else vs ++ #[rawInt pos.line, rawInt pos.col, .ref c']) (tabObj ps) = tabObj (ps ++ #[rawInt pos.line, rawInt pos.col, .ref c']) := by
      simp only [Obj.mapFields, hf]; rfl
    rw [hnew] at hget
    refine wpAny_bind (wpAny_fieldsOf hget rfl ?_)
    have hl : (ps ++ #[rawInt pos.line, rawInt pos.col, Value.ref c']).toList = ps.toList ++ [rawInt pos.line, rawInt pos.col, .ref c'] := by simp
    rw [hl, codeAmong_snoc _ ht hf]
    have hx : ∀ b o', b ≠ P → h'.get? b = some o' → (h'.update P fun o => Obj.mapFields (fun vs => if (codeAmong pos vs.toList).isSome = true then vs else vs ++ #[rawInt pos.line, rawInt pos.col, .ref c']) o).get? b = some o' := fun b o' hb e => (Heap.SameBut.update ..).extBut b o' hb e
    have CH := CodeHd.of hcode' htab'
    refine wpAny_pure (hmiss c' P' _ hf ⟨_, tk, rfl⟩ (fun b o' hb e => hx b o' hb (hk b o' e)) fc fP ?_ (hx _ _ hPP htab'.2) ?_ hget)
    · obtain ⟨o, vs, file, tf, flags, tg, inF, text, tt, e, r⟩ := CH
      exact ⟨o, vs, file, tf, flags, tg, inF, text, tt, hx _ _ hcP e, r⟩
    · obtain ⟨c₂, o₂, vs₂, t₂, e₂, g₂, r₂⟩ := hrec'
      cases e₂
      exact ⟨_, o₂, vs₂, t₂, rfl, hx _ _ hcP g₂, r₂⟩
end
end Mine
end

section
open PySem PySem.W PyProof.Rows
set_option maxRecDepth 100000
namespace Mine
theorem forInOne {α β : Type} {w : World} {A : Around} {E : Value → Shared → Prop} {s : Shared} {Q : β → Shared → Prop} {v : α} {b : β} {f : α → β → Sem (ForInStep β)}
    (h : wpAny (model pr w) A (f v b) (fun r s' => match r with | .done b => Q b s' | .yield b => Q b s') E s) : wpAny (model pr w) A (forIn [v] b f) Q E s := by
  rw [List.forIn_cons]
  refine wpAny_bind (wpAny_mono h (fun r s' hr => ?_) fun _ _ z => z)
  cases r with
  | done b => exact wpAny_pure hr
  | yield b => exact wpAny_pure hr
theorem bl_bc (w : World) : bl w "__build_class__" = some (.builtin "__build_class__") := by kernel_rfl
theorem gl_obj (w : World) : gl w "object" = none := by kernel_rfl
theorem bl_obj (w : World) : bl w "object" = some (.type "object") := by kernel_rfl
/-- where the class stands -/
abbrev posK : Pos := ⟨78, 4, 99, 23⟩
/-- where its functions stand, and their names in full -/
def defsK : List (Pos × Str) := [(⟨82, 8, 83, 26⟩, "cmp_to_key.<locals>.K.__init__"), (⟨85, 8, 86, 49⟩, "cmp_to_key.<locals>.K.__lt__"), (⟨88, 8, 89, 49⟩, "cmp_to_key.<locals>.K.__gt__"), (⟨91, 8, 92, 50⟩, "cmp_to_key.<locals>.K.__eq__"),
  (⟨94, 8, 95, 50⟩, "cmp_to_key.<locals>.K.__le__"), (⟨97, 8, 98, 50⟩, "cmp_to_key.<locals>.K.__ge__")]
/-- the class code and its table, with all six functions' codes -/
structure KCode (w : World) (h : Heap) (c P : Addr) : Prop where
  hd : CodeHd h c P
  free : Free w P
  tab : ∃ ps, h.get? P = some (tabObj ps) ∧ TriplesOk ps.toList ∧ ∀ x ∈ defsK, ∃ d, codeAmong x.1 ps.toList = some (.ref d) ∧ h.CodeRec (.ref d) x.2
/-- the table of cmp_to_key's code: the class's code is not there, or there and whole -/
def KTabs (w : World) (h : Heap) : Prop := ∃ ps, h.get? 58 = some (tabObj ps) ∧ TriplesOk ps.toList ∧ (codeAmong posK ps.toList = none ∨ ∃ c P, codeAmong posK ps.toList = some (.ref c) ∧ KCode w h c P)
theorem KCode.keeps {w : World} {h h' : Heap} {c P : Addr} (x : KCode w h c P) (k : ∀ b o, h.get? b = some o → h'.get? b = some o) : KCode w h' c P :=
  ⟨x.hd.keeps k, x.free, let ⟨ps, a, b, d⟩ := x.tab; ⟨ps, k _ _ a, b, fun y hy => let ⟨e, f, g⟩ := d y hy; ⟨e, f, g.keeps k⟩⟩⟩
theorem KTabs.keeps {w : World} {h h' : Heap} (x : KTabs w h) (k : ∀ b o, h.get? b = some o → h'.get? b = some o) : KTabs w h' :=
  let ⟨ps, a, b, d⟩ := x; ⟨ps, k _ _ a, b, d.imp id fun ⟨c, P, e, f⟩ => ⟨c, P, e, f.keeps k⟩⟩
theorem code62 (w : World) {h : Heap} (H : Has w h) : CodeHd h 62 58 :=
  ⟨_, _, _, _, _, _, _, _, _, H.get (a := 62) rfl (by decide) (by decide), rfl, rfl, rfl, rfl, rfl, rfl, rfl, rfl, by decide⟩
end Mine
end

section
open PySem PySem.W PyProof.Rows
set_option maxRecDepth 100000
namespace Mine
/-- what stands behind the class's code -/
structure AtCode (w : World) (s₃ s₄ : Shared) (c P : Addr) (ps : Array Value) : Prop where
  same : ∃ h tk, s₄ = { s₃ with heap := h, toks := tk }
  keep : ∀ b o, b ≠ 58 → s₃.heap.get? b = some o → s₄.heap.get? b = some o
  hd : CodeHd s₄.heap c P
  free : Free w P
  tab : s₄.heap.get? P = some (tabObj ps)
  ok : TriplesOk ps.toList
  t58 : ∃ qs, s₄.heap.get? 58 = some (tabObj qs) ∧ TriplesOk qs.toList ∧ codeAmong posK qs.toList = some (.ref c) ∧ ∃ ps more, s₃.heap.get? 58 = some (tabObj ps) ∧ qs = ps ++ more
  how : (∀ x ∈ defsK, ∃ d, codeAmong x.1 ps.toList = some (.ref d) ∧ s₄.heap.CodeRec (.ref d) x.2) ∨ (s₃.heap.get? P = none ∧ ps = #[])
def without (h : Heap) (n P : Addr) : Addr → Option Obj := fun b => if b = n then none else if b = P then none else h.get? b
theorem without_some {h : Heap} {n P b : Addr} {o : Obj} (e : without h n P b = some o) : h.get? b = some o ∧ b ≠ n ∧ b ≠ P := by
  unfold without at e
  by_cases h1 : b = n
  · rw [if_pos h1] at e; cases e
  · rw [if_neg h1] at e
    by_cases h2 : b = P
    · rw [if_pos h2] at e; cases e
    · rw [if_neg h2] at e; exact ⟨e, h1, h2⟩
theorem without_of {h : Heap} {n P b : Addr} {o : Obj} (e : h.get? b = some o) (h1 : b ≠ n) (h2 : b ≠ P) : without h n P b = some o := by
  unfold without; rw [if_neg h1, if_neg h2]; exact e
theorem AtCode.has {w : World} {s₃ s₄ : Shared} {c P : Addr} {ps : Array Value} (AC : AtCode w s₃ s₄ c P ps) (H₃ : Has w s₃.heap) : Has w s₄.heap :=
  ⟨fun a o h1 h2 e => AC.keep a o h1 (H₃.at' a o h1 h2 e), let ⟨_, e, _⟩ := AC.t58; ⟨_, e⟩, let ⟨o, e⟩ := H₃.t122; ⟨o, AC.keep 122 o (by decide) e⟩⟩
theorem AtCode.start {w : World} {s₃ s₄ : Shared} {n c P : Addr} {ps : Array Value} (AC : AtCode w s₃ s₄ c P ps) (H₃ : Has w s₃.heap) (hn : s₃.heap.get? n = some (dO #[] 0)) (fn : Free w n) :
    Mk s₄ (without s₄.heap n P) n (dO #[] 0) P (tabObj ps) s₄ ∧ OnB (without s₄.heap n P) (Has w) ∧ OnB (without s₄.heap n P) (CodeHd · c P) := by
  have hn4 : s₄.heap.get? n = some (dO #[] 0) := AC.keep n _ fn.n58 hn
  have hnP : n ≠ P := fun z => by rw [z, AC.tab] at hn4; cases hn4
  have H₄ := AC.has H₃
  refine ⟨⟨⟨_, _, rfl⟩, fun b o e => (without_some e).1, hn4, AC.tab, ?_, ?_, hnP⟩, fun h hh => ⟨fun a o h1 h2 e => ?_, ?_, ?_⟩, fun h hh => ?_⟩
  · unfold without; rw [if_pos rfl]
  · unfold without; rw [if_neg (Ne.symm hnP), if_pos rfl]
  · exact hh a o (without_of (H₄.at' a o h1 h2 e) (fun z => fn.no o (z ▸ e)) (fun z => AC.free.no o (z ▸ e)))
  · obtain ⟨o, e⟩ := H₄.t58
    exact ⟨o, hh 58 o (without_of e (Ne.symm fn.n58) (Ne.symm AC.free.n58))⟩
  · obtain ⟨o, e⟩ := H₄.t122
    exact ⟨o, hh 122 o (without_of e (Ne.symm fn.n122) (Ne.symm AC.free.n122))⟩
  · obtain ⟨o, vs, file, tf, flags, tg, inF, text, tt, e, hc, hd, r⟩ := AC.hd
    refine ⟨o, vs, file, tf, flags, tg, inF, text, tt, hh c o (without_of e (fun z => ?_) r.2.2.2.2.2.2), hc, hd, r⟩
    rw [z, hn4] at e; cases e; exact absurd hc (by decide)
theorem Mk.grow {s cur cur' : Shared} {B : Addr → Option Obj} {n a x : Addr} {D C o : Obj} (X : Mk s B n D a C cur) (k : Keeps cur cur') (fx : cur.heap.get? x = Option.none) (hx : cur'.heap.get? x = some o) :
    ∃ B', Mk s B' n D a C cur' ∧ Sub B B' ∧ B' x = some o := ⟨_, X.more k fx hx, addB_sub (X.none fx), if_pos rfl⟩
end Mine
end

section
open PySem PySem.W PyProof.Rows
set_option maxRecDepth 100000
namespace Mine
section
variable {w : World} {A : Around} {E : Value → Shared → Prop} {s cur : Shared} {B : Addr → Option Obj} {n P c : Addr} {C : Obj} {env : Env} {names : List (Str × NameKind)} {cells : List (Str × Addr)} {ql : Str}
theorem loadK {nm : Str} {v : Value} {Q : Value → Shared → Prop} {dc : Option Addr} {es : Array DictEntry} {ep : Nat} {sl : Array (Option Value)} (e : CEnv env n c names cells ql) (X : Mk s B n ⟨.type "dict", dc, .dict es ep, sl⟩ P C cur) (HB : OnB B (Has w))
    (hk : names.lookup nm = none) (hc : compilersOwnNames.contains nm = true) (hl : nsLook nm ⟨.type "dict", dc, .dict es ep, sl⟩ = pure none) (hv : gl w nm = some v) (h : Q v cur) : wpAny (model pr w) A (loadName env nm) Q E cur := by
  have H := HB _ X.keep
  have hkind : env.kindOf nm = none := by unfold Env.kindOf; rw [e.names]; exact hk
  have hann : env.scope.kind.isAnnotationScope = false := by rw [e.kind]; rfl
  unfold loadName
  simp only [hann, Bool.false_and, Bool.false_eq_true, if_false]
  have h1 : env.blockKind = ScopeKind.class := by unfold Env.blockKind; rw [e.kind]; rfl
  rw [h1, hkind]
  simp only [hc, Bool.not_true, Bool.false_eq_true, if_false]
  unfold localGet
  rw [e.locals]
  refine wpAny_bind (wpAny_bind (wpAny_load X.d ?_))
  rw [if_pos (by rfl)]
  refine nsGA X.d hl ?_
  dsimp only
  unfold loadGlobal
  rw [e.globals]
  refine wpAny_bind (wpAny_nsGet H.g ?_)
  rw [hv]
  exact wpAny_pure h
end
end Mine
end

section
open PySem PySem.W PyProof.Rows
set_option maxRecDepth 100000
namespace Mine
theorem among_keep {pos : Pos} {c : Value} {x : List Value} (l : List Value) (ht : TriplesOk l) (h : codeAmong pos l = some c) : codeAmong pos (l ++ x) = some c := by
  fun_induction TriplesOk l with
  | case1 => cases h
  | case2 a t b u y rest ih =>
    simp only [List.cons_append, codeAmong] at h ⊢
    split at h
    · rename_i hc; rw [if_pos hc]; exact h
    · rename_i hc; rw [if_neg hc]; exact ih ht h
  | case3 l h1 h2 => exact ht.elim
theorem among_other {pos pos' : Pos} {c : Value} (l : List Value) (ht : TriplesOk l) (hne : pos'.line ≠ pos.line) (h : codeAmong pos l = none) : codeAmong pos (l ++ [rawInt pos'.line, rawInt pos'.col, c]) = none := by
  fun_induction TriplesOk l with
  | case1 =>
    simp only [List.nil_append, rawInt, codeAmong]
    rw [if_neg (by simp; intro q; exact absurd (by exact_mod_cast q) hne)]
  | case2 a t b u y rest ih =>
    simp only [List.cons_append, codeAmong] at h ⊢
    split at h
    · cases h
    · rename_i hc; rw [if_neg hc]; exact ih ht h
  | case3 l h1 h2 => exact ht.elim
/-- the table of the class's code while its functions are made -/
structure TabInv (B : Addr → Option Obj) (ps : Array Value) (did todo : List (Pos × Str)) : Prop where
  ok : TriplesOk ps.toList
  did : ∀ x ∈ did, ∃ d, codeAmong x.1 ps.toList = some (.ref d) ∧ OnB B (·.CodeRec (.ref d) x.2)
  todo : (∀ x ∈ todo, ∃ d, codeAmong x.1 ps.toList = some (.ref d) ∧ OnB B (·.CodeRec (.ref d) x.2)) ∨ (∀ x ∈ todo, codeAmong x.1 ps.toList = none)
theorem TabInv.mono {B B' : Addr → Option Obj} {ps : Array Value} {did todo : List (Pos × Str)} (T : TabInv B ps did todo) (k : Sub B B') : TabInv B' ps did todo :=
  ⟨T.ok, fun x hx => let ⟨d, a, b⟩ := T.did x hx; ⟨d, a, b.mono k⟩, T.todo.imp (fun h x hx => let ⟨d, a, b⟩ := h x hx; ⟨d, a, b.mono k⟩) id⟩
theorem TabInv.hv {B : Addr → Option Obj} {ps : Array Value} {did todo : List (Pos × Str)} {pos : Pos} {q : Str} (T : TabInv B ps did ((pos, q) :: todo)) :
    (∃ c', codeAmong pos ps.toList = some (.ref c') ∧ OnB B (·.CodeRec (.ref c') q)) ∨ codeAmong pos ps.toList = none :=
  T.todo.imp (fun h => h _ (.head _)) fun h => h _ (.head _)
theorem TabInv.step {B B' : Addr → Option Obj} {ps ps' : Array Value} {did todo : List (Pos × Str)} {pos : Pos} {q : Str} {c : Addr} (T : TabInv B ps did ((pos, q) :: todo)) (k : Sub B B') (hr : OnB B' (·.CodeRec (.ref c) q)) (N : TabNext ps ps' pos c)
    (hne : (todo.all fun x => pos.line != x.1.line) = true) : TabInv B' ps' ((pos, q) :: did) todo := by
  have T' := T.mono k
  rcases N.how with rfl | ⟨hn, rfl⟩
  · refine ⟨N.ok, fun x hx => ?_, ?_⟩
    · rcases List.mem_cons.mp hx with rfl | hx
      · exact ⟨c, N.found, hr⟩
      · exact T'.did x hx
    · exact T'.todo.imp (fun h x hx => h x (.tail _ hx)) fun h x hx => h x (.tail _ hx)
  · have hl : (ps ++ #[rawInt pos.line, rawInt pos.col, Value.ref c]).toList = ps.toList ++ [rawInt pos.line, rawInt pos.col, .ref c] := by simp
    refine ⟨N.ok, fun x hx => ?_, .inr fun x hx => ?_⟩
    · rcases List.mem_cons.mp hx with rfl | hx
      · exact ⟨c, N.found, hr⟩
      · obtain ⟨d, a, b⟩ := T'.did x hx
        exact ⟨d, by rw [hl]; exact among_keep _ T.ok a, b⟩
    · have hx' : codeAmong x.1 ps.toList = none := by
        rcases T.todo with h | h
        · obtain ⟨d, a, _⟩ := h _ (.head _); rw [hn] at a; cases a
        · exact h x (.tail _ hx)
      rw [hl]
      exact among_other _ T.ok (by have := List.all_eq_true.mp hne x hx; simpa using this) hx'
theorem rec_apart {h : Heap} {d P : Addr} {q : Str} {ps : Array Value} (hr : h.CodeRec (.ref d) q) (hP : h.get? P = some (tabObj ps)) (ht : TriplesOk ps.toList) : d ≠ P := by
  rintro rfl
  obtain ⟨c, o, vs, t, e, g, hd, hv⟩ := hr
  cases e
  rw [hP] at g; cases g; cases hd
  rw [← Array.getElem?_toList] at hv
  revert ht hv
  generalize ps.toList = l
  intro ht hv
  match l, ht, hv with
  | .int _ _ :: .int _ _ :: _ :: _, _, hv => simp at hv
theorem AtCode.inv {w : World} {s₃ s₄ : Shared} {n c P : Addr} {ps : Array Value} (AC : AtCode w s₃ s₄ c P ps) (hn : s₃.heap.get? n = some (dO #[] 0)) (fn : Free w n) : TabInv (without s₄.heap n P) ps [] defsK := by
  have hn4 : s₄.heap.get? n = some (dO #[] 0) := AC.keep n _ fn.n58 hn
  refine ⟨AC.ok, (fun _ q => nomatch q), ?_⟩
  rcases AC.how with h | ⟨_, rfl⟩
  · refine .inl fun x hx => ?_
    obtain ⟨d, a, b⟩ := h x hx
    refine ⟨d, a, fun hh k => ?_⟩
    have hdP := rec_apart b AC.tab AC.ok
    obtain ⟨c', o, vs, t, e, g, hd, hv⟩ := b
    cases e
    refine ⟨d, o, vs, t, rfl, k d o (without_of g (fun z => ?_) hdP), hd, hv⟩
    rw [z, hn4] at g; cases g; cases hd
  · exact .inr fun x hx => rfl
end Mine
end

section
open PySem PySem.W PyProof.Rows
set_option maxRecDepth 100000
namespace Mine
theorem list1 {w : World} {A : Around} {E : Value → Shared → Prop} {s : Shared} {env : Env} {e1 : Expr} {pos : Pos} {Q : Value → Shared → Prop} (h : wpAny (model pr w) A (eval e1 env) (fun v s₁ => wpAny (model pr w) A (newList [v]) Q E s₁) E s)
    (hs : backTo pos (starEach [e1] env) = [(false, eval e1 env)] := by rfl) : wpAny (model pr w) A (eval (.List [e1] pos) env) Q E s := by
  refine List_ ?_
  rw [hs]
  exact Calls.spliced_cons (wpAny_mono h (fun v s₁ h₁ => Calls.spliced_nil h₁) fun _ _ e => e)
/-- the class's body, as it lies in the function -/
noncomputable def kBody (w : World) : List Stmt := match (KF w).lookup 63 with
  | some ⟨_, _, .func fd, _⟩ => (match fd.body with | .stmts (.ClassDef _ _ _ b _ _ _ _ _ _ _ :: _) => b | _ => [])
  | _ => []
/-- the function that a def of it makes -/
noncomputable def fnOf (w : World) (st : Option Stmt) (clos : List (Str × Addr)) (c' : Addr) (ctv : Value) : Option Obj := match st with
  | some (.FunctionDef nm params body _ _ _ scope _ _ _) => some (fnO nm ("cmp_to_key.<locals>.K." ++ nm) params body scope clos ((gl w "__name__").getD .none) c' ctv)
  | _ => none
abbrev namesK : List (Str × NameKind) := [("__module__", .local), ("__slots__", .local), ("__init__", .local), ("__lt__", .local), ("__gt__", .local), ("__eq__", .local), ("__le__", .local), ("__ge__", .local), ("__hash__", .local), ("mycmp", .free)]
theorem TabNext.same {ps ps' : Array Value} {pos : Pos} {c : Addr} (N : TabNext ps ps' pos c) (h : codeAmong pos ps.toList ≠ none) : ps' = ps := N.how.elim id fun x => absurd x.1 h
def FnB (B : Addr → Option Obj) (f : Addr) : Prop := ∃ o, B f = some o ∧ o.cls = .type "function" ∧ ∃ fd, o.data = .func fd
structure KFun (w : World) (h : Addr → Option Obj) (i : Nat) (clos : List (Str × Addr)) (q : Str) (f : Addr) : Prop where
  at' : ∃ c ctv, h f = fnOf w (kBody w)[i]? clos c ctv ∧ OnB h (·.CodeRec (.ref c) q)
theorem KFun.mono {w : World} {B B' : Addr → Option Obj} {i : Nat} {clos : List (Str × Addr)} {q : Str} {f : Addr} {o : Obj} (x : KFun w B i clos q f) (hf : B f = some o) (k : Sub B B') : KFun w B' i clos q f :=
  let ⟨c, ctv, a, b⟩ := x.at'; ⟨c, ctv, by rw [← a, hf, k f o hf], b.mono k⟩
set_option maxHeartbeats 4000000 in
theorem bodyK (w : World) {A : Around} {E : Value → Shared → Prop} {s cur : Shared} {B : Addr → Option Obj} {n P c L : Addr} {ps : Array Value} {env : Env} {h0 h1 h2 : Int} {t0 t1 t2 tq tf tm0 : Tok} {qm : Str} {Q : Flow → Shared → Prop}
    (e : CEnv env n c namesK [("mycmp", L + 1)] "cmp_to_key.<locals>.K.")
    (X : Mk s B n (dO #[ent h0 "__module__" t0 (.str qm tm0), ent h1 "__qualname__" t1 (.str "cmp_to_key.<locals>.K" tq), ent h2 "__firstlineno__" t2 (.int 78 tf)] 3) P (tabObj ps) cur)
    (HB : OnB B (Has w)) (hc : OnB B (CodeHd · c P)) (T : TabInv B ps [] defsK)
    (h : ∀ B' ps' cur' tm h3 t3 sl ts h4 t4 fi h5 t5 flt h6 t6 fgt h7 t7 feq h8 t8 fle h9 t9 fge h10 t10, Mk s B' n (dO #[ent h0 "__module__" t0 (.str "cpy313.functools" tm), ent h1 "__qualname__" t1 (.str "cmp_to_key.<locals>.K" tq), ent h2 "__firstlineno__" t2 (.int 78 tf), ent h3 "__slots__" t3 (.ref sl), ent h4 "__init__" t4 (.ref fi), ent h5 "__lt__" t5 (.ref flt), ent h6 "__gt__" t6 (.ref fgt), ent h7 "__eq__" t7 (.ref feq), ent h8 "__le__" t8 (.ref fle), ent h9 "__ge__" t9 (.ref fge), ent h10 "__hash__" t10 .none] 11) P (tabObj ps') cur' → Sub B B' → TabInv B' ps' defsK.reverse [] → ((∀ x ∈ defsK, codeAmong x.1 ps.toList ≠ none) → ps' = ps) →
      OnB B' (·.IsList sl [Value.str "obj" ts].toArray) → KFun w B' 2 [] "cmp_to_key.<locals>.K.__init__" fi → KFun w B' 3 [("mycmp", L + 1)] "cmp_to_key.<locals>.K.__lt__" flt → KFun w B' 4 [("mycmp", L + 1)] "cmp_to_key.<locals>.K.__gt__" fgt →
      FnB B' fi → FnB B' flt → FnB B' fgt → FnB B' feq → FnB B' fle → FnB B' fge → Q .next cur') :
    wpAny (model pr w) A (execs (kBody w) env) Q E cur := by
  have clos : ∀ sc : Scope, sc.names = [(Str.ofString "self", NameKind.local), (Str.ofString "other", NameKind.local), (Str.ofString "mycmp", NameKind.free)] → closureFor sc env = pure [(Str.ofString "mycmp", L + 1)] := fun sc hsc => by unfold closureFor cellOf; rw [hsc, e.cells]; rfl
  have clos0 : ∀ sc : Scope, sc.names = [(Str.ofString "self", NameKind.local), (Str.ofString "obj", NameKind.local)] → closureFor sc env = pure [] := fun sc hsc => by unfold closureFor cellOf; rw [hsc, e.cells]; rfl
  refine wpAny_execs_cons (wpAny_Assign_Name (cStr fun s₁ tm k₁ => ?_))
  have X := X.keeps k₁
  refine storeK (fun _ _ => dO #[ent h0 "__module__" t0 (.str "cpy313.functools" tm), ent h1 "__qualname__" t1 (.str "cmp_to_key.<locals>.K" tq), ent h2 "__firstlineno__" t2 (.int 78 tf)] 3) e X (.inl (by kernel_rfl)) (by kernel_rfl) (fun _ _ => by kernel_rfl) (fun _ _ => rfl) fun _ _ s₂ X => ?_
  refine wpAny_execs_cons (wpAny_Assign_Name (list1 (cStr fun s₃ ts k₃ => newObjA fun sl s₄ fsl hsl K₄ => ?_)))
  have X := X.keeps k₃
  have hslL : s₄.heap.IsList sl [Value.str "obj" ts].toArray := ⟨_, hsl, rfl, _, rfl⟩
  obtain ⟨B₁, X, sb₁, hB₁⟩ := X.grow K₄ fsl hsl
  refine storeK (fun hs t => dO #[ent h0 "__module__" t0 (.str "cpy313.functools" tm), ent h1 "__qualname__" t1 (.str "cmp_to_key.<locals>.K" tq), ent h2 "__firstlineno__" t2 (.int 78 tf), ent hs "__slots__" t (.ref sl)] 4) e X (.inl (by kernel_rfl)) (by kernel_rfl) (fun _ _ => by kernel_rfl) (fun _ _ => rfl) fun h3 t3 s₅ X => ?_
  have HB := HB.mono sb₁
  have hc := hc.mono sb₁
  have T := T.mono sb₁
  refine wpAny_execs_cons (defK (fun f hs t => dO #[ent h0 "__module__" t0 (.str "cpy313.functools" tm), ent h1 "__qualname__" t1 (.str "cmp_to_key.<locals>.K" tq), ent h2 "__firstlineno__" t2 (.int 78 tf), ent h3 "__slots__" t3 (.ref sl), ent hs "__init__" t (.ref f)] 5) e X HB ⟨rfl, rfl, rfl⟩ rfl ⟨rfl, rfl, rfl⟩ (clos0 _ rfl) rfl hc T.ok "cmp_to_key.<locals>.K.__init__" (by kernel_rfl) T.hv (by kernel_rfl) (by kernel_rfl) (fun _ _ _ => by kernel_rfl) (fun _ _ _ => rfl) fun fi c4 ctv4 B4 ps4 h4 t4 s4 X sb4 hfn4 hr4 N4 => ?_)
  have HB := HB.mono sb4
  have hc := hc.mono sb4
  have T := T.step sb4 hr4 N4 (by kernel_rfl)
  refine wpAny_execs_cons (defK (fun f hs t => dO #[ent h0 "__module__" t0 (.str "cpy313.functools" tm), ent h1 "__qualname__" t1 (.str "cmp_to_key.<locals>.K" tq), ent h2 "__firstlineno__" t2 (.int 78 tf), ent h3 "__slots__" t3 (.ref sl), ent h4 "__init__" t4 (.ref fi), ent hs "__lt__" t (.ref f)] 6) e X HB ⟨rfl, rfl, rfl⟩ rfl ⟨rfl, rfl, rfl⟩ (clos _ rfl) rfl hc T.ok "cmp_to_key.<locals>.K.__lt__" (by kernel_rfl) T.hv (by kernel_rfl) (by kernel_rfl) (fun _ _ _ => by kernel_rfl) (fun _ _ _ => rfl) fun flt c5 ctv5 B5 ps5 h5 t5 s5 X sb5 hfn5 hr5 N5 => ?_)
  have HB := HB.mono sb5
  have hc := hc.mono sb5
  have T := T.step sb5 hr5 N5 (by kernel_rfl)
  refine wpAny_execs_cons (defK (fun f hs t => dO #[ent h0 "__module__" t0 (.str "cpy313.functools" tm), ent h1 "__qualname__" t1 (.str "cmp_to_key.<locals>.K" tq), ent h2 "__firstlineno__" t2 (.int 78 tf), ent h3 "__slots__" t3 (.ref sl), ent h4 "__init__" t4 (.ref fi), ent h5 "__lt__" t5 (.ref flt), ent hs "__gt__" t (.ref f)] 7) e X HB ⟨rfl, rfl, rfl⟩ rfl ⟨rfl, rfl, rfl⟩ (clos _ rfl) rfl hc T.ok "cmp_to_key.<locals>.K.__gt__" (by kernel_rfl) T.hv (by kernel_rfl) (by kernel_rfl) (fun _ _ _ => by kernel_rfl) (fun _ _ _ => rfl) fun fgt c6 ctv6 B6 ps6 h6 t6 s6 X sb6 hfn6 hr6 N6 => ?_)
  have HB := HB.mono sb6
  have hc := hc.mono sb6
  have T := T.step sb6 hr6 N6 (by kernel_rfl)
  refine wpAny_execs_cons (defK (fun f hs t => dO #[ent h0 "__module__" t0 (.str "cpy313.functools" tm), ent h1 "__qualname__" t1 (.str "cmp_to_key.<locals>.K" tq), ent h2 "__firstlineno__" t2 (.int 78 tf), ent h3 "__slots__" t3 (.ref sl), ent h4 "__init__" t4 (.ref fi), ent h5 "__lt__" t5 (.ref flt), ent h6 "__gt__" t6 (.ref fgt), ent hs "__eq__" t (.ref f)] 8) e X HB ⟨rfl, rfl, rfl⟩ rfl ⟨rfl, rfl, rfl⟩ (clos _ rfl) rfl hc T.ok "cmp_to_key.<locals>.K.__eq__" (by kernel_rfl) T.hv (by kernel_rfl) (by kernel_rfl) (fun _ _ _ => by kernel_rfl) (fun _ _ _ => rfl) fun feq c7 ctv7 B7 ps7 h7 t7 s7 X sb7 hfn7 hr7 N7 => ?_)
  have HB := HB.mono sb7
  have hc := hc.mono sb7
  have T := T.step sb7 hr7 N7 (by kernel_rfl)
  refine wpAny_execs_cons (defK (fun f hs t => dO #[ent h0 "__module__" t0 (.str "cpy313.functools" tm), ent h1 "__qualname__" t1 (.str "cmp_to_key.<locals>.K" tq), ent h2 "__firstlineno__" t2 (.int 78 tf), ent h3 "__slots__" t3 (.ref sl), ent h4 "__init__" t4 (.ref fi), ent h5 "__lt__" t5 (.ref flt), ent h6 "__gt__" t6 (.ref fgt), ent h7 "__eq__" t7 (.ref feq), ent hs "__le__" t (.ref f)] 9) e X HB ⟨rfl, rfl, rfl⟩ rfl ⟨rfl, rfl, rfl⟩ (clos _ rfl) rfl hc T.ok "cmp_to_key.<locals>.K.__le__" (by kernel_rfl) T.hv (by kernel_rfl) (by kernel_rfl) (fun _ _ _ => by kernel_rfl) (fun _ _ _ => rfl) fun fle c8 ctv8 B8 ps8 h8 t8 s8 X sb8 hfn8 hr8 N8 => ?_)
  have HB := HB.mono sb8
  have hc := hc.mono sb8
  have T := T.step sb8 hr8 N8 (by kernel_rfl)
  refine wpAny_execs_cons (defK (fun f hs t => dO #[ent h0 "__module__" t0 (.str "cpy313.functools" tm), ent h1 "__qualname__" t1 (.str "cmp_to_key.<locals>.K" tq), ent h2 "__firstlineno__" t2 (.int 78 tf), ent h3 "__slots__" t3 (.ref sl), ent h4 "__init__" t4 (.ref fi), ent h5 "__lt__" t5 (.ref flt), ent h6 "__gt__" t6 (.ref fgt), ent h7 "__eq__" t7 (.ref feq), ent h8 "__le__" t8 (.ref fle), ent hs "__ge__" t (.ref f)] 10) e X HB ⟨rfl, rfl, rfl⟩ rfl ⟨rfl, rfl, rfl⟩ (clos _ rfl) rfl hc T.ok "cmp_to_key.<locals>.K.__ge__" (by kernel_rfl) T.hv (by kernel_rfl) (by kernel_rfl) (fun _ _ _ => by kernel_rfl) (fun _ _ _ => rfl) fun fge c9 ctv9 B9 ps9 h9 t9 s9 X sb9 hfn9 hr9 N9 => ?_)
  have HB := HB.mono sb9
  have hc := hc.mono sb9
  have T := T.step sb9 hr9 N9 (by kernel_rfl)
  refine wpAny_execs_cons (wpAny_Assign_Name (wpAny_Constant_none ?_))
  refine storeK (fun hs t => dO #[ent h0 "__module__" t0 (.str "cpy313.functools" tm), ent h1 "__qualname__" t1 (.str "cmp_to_key.<locals>.K" tq), ent h2 "__firstlineno__" t2 (.int 78 tf), ent h3 "__slots__" t3 (.ref sl), ent h4 "__init__" t4 (.ref fi), ent h5 "__lt__" t5 (.ref flt), ent h6 "__gt__" t6 (.ref fgt), ent h7 "__eq__" t7 (.ref feq), ent h8 "__le__" t8 (.ref fle), ent h9 "__ge__" t9 (.ref fge), ent hs "__hash__" t .none] 11) e X (.inl (by kernel_rfl)) (by kernel_rfl) (fun _ _ => by kernel_rfl) (fun _ _ => rfl) fun h10 t10 s₆ X => ?_
  refine wpAny_execs_nil ?_
  have tsame : (∀ x ∈ defsK, codeAmong x.1 ps.toList ≠ none) → ps9 = ps := fun hall => by
    have e4 := N4.same (hall _ (.head _)); subst e4
    have e5 := N5.same (hall _ (.tail _ (.head _))); subst e5
    have e6 := N6.same (hall _ (.tail _ (.tail _ (.head _)))); subst e6
    have e7 := N7.same (hall _ (.tail _ (.tail _ (.tail _ (.head _))))); subst e7
    have e8 := N8.same (hall _ (.tail _ (.tail _ (.tail _ (.tail _ (.head _)))))); subst e8
    have e9 := N9.same (hall _ (.tail _ (.tail _ (.tail _ (.tail _ (.tail _ (.head _))))))); subst e9
    rfl
  have sub1 : Sub B B9 := ((((((sb₁.trans sb4).trans sb5).trans sb6).trans sb7).trans sb8).trans sb9)
  have subL : Sub B₁ B9 := (((((sb4.trans sb5).trans sb6).trans sb7).trans sb8).trans sb9)
  have hslE : OnB B9 (·.IsList sl [Value.str "obj" ts].toArray) := fun hh k => ⟨_, k sl _ (subL sl _ hB₁), rfl, _, rfl⟩
  have g4 := ((((sb5.trans sb6).trans sb7).trans sb8).trans sb9) _ _ hfn4
  have ty4 : FnB B9 fi := ⟨_, g4, rfl, _, rfl⟩
  have g5 := (((sb6.trans sb7).trans sb8).trans sb9) _ _ hfn5
  have ty5 : FnB B9 flt := ⟨_, g5, rfl, _, rfl⟩
  have g6 := ((sb7.trans sb8).trans sb9) _ _ hfn6
  have ty6 : FnB B9 fgt := ⟨_, g6, rfl, _, rfl⟩
  have g7 := (sb8.trans sb9) _ _ hfn7
  have ty7 : FnB B9 feq := ⟨_, g7, rfl, _, rfl⟩
  have g8 := sb9 _ _ hfn8
  have ty8 : FnB B9 fle := ⟨_, g8, rfl, _, rfl⟩
  have g9 := (Sub.refl _) _ _ hfn9
  have ty9 : FnB B9 fge := ⟨_, g9, rfl, _, rfl⟩
  exact h B9 ps9 s₆ tm h3 t3 sl ts h4 t4 fi h5 t5 flt h6 t6 fgt h7 t7 feq h8 t8 fle h9 t9 fge h10 t10 X sub1 T tsame hslE ⟨⟨c4, ctv4, g4, hr4.mono ((((sb5.trans sb6).trans sb7).trans sb8).trans sb9)⟩⟩ ⟨⟨c5, ctv5, g5, hr5.mono (((sb6.trans sb7).trans sb8).trans sb9)⟩⟩ ⟨⟨c6, ctv6, g6, hr6.mono ((sb7.trans sb8).trans sb9)⟩⟩ ty4 ty5 ty6 ty7 ty8 ty9
end Mine
end

section
open PySem PySem.W PyProof.Rows
set_option maxRecDepth 100000
namespace Mine
/-- what was stays, but for the two code tables, which may grow -/
structure Grow (s s' : Shared) : Prop where
  os : s'.os = s.os
  gens : s'.gens = s.gens
  keep : ∀ b o, b ≠ 58 → b ≠ 122 → s.heap.get? b = some o → s'.heap.get? b = some o
  t58 : ∀ ps, s.heap.get? 58 = some (tabObj ps) → ∃ more, s'.heap.get? 58 = some (tabObj (ps ++ more))
  t122 : ∀ ps, s.heap.get? 122 = some (tabObj ps) → ∃ more, s'.heap.get? 122 = some (tabObj (ps ++ more))
theorem Grow.of {s s' : Shared} (k : Keeps s s') : Grow s s' := by
  obtain ⟨h, t, rfl, kk⟩ := k
  exact ⟨rfl, rfl, fun b o _ _ e => kk b o e, fun ps e => ⟨#[], by rw [kk _ _ e]; simp⟩, fun ps e => ⟨#[], by rw [kk _ _ e]; simp⟩⟩
theorem Grow.trans {s s' s'' : Shared} (x : Grow s s') (y : Grow s' s'') : Grow s s'' :=
  ⟨y.os.trans x.os, y.gens.trans x.gens, fun b o h1 h2 e => y.keep b o h1 h2 (x.keep b o h1 h2 e),
   fun ps e => let ⟨m, a⟩ := x.t58 ps e; let ⟨m', b⟩ := y.t58 _ a; ⟨m ++ m', by rw [b, Array.append_assoc]⟩, fun ps e => let ⟨m, a⟩ := x.t122 ps e; let ⟨m', b⟩ := y.t122 _ a; ⟨m ++ m', by rw [b, Array.append_assoc]⟩⟩
def PostG (s : Shared) (P : Value → Shared → Prop) (r : Result) (s' : Shared) : Prop := ∃ v, r = .ok (.ret v) ∧ Grow s s' ∧ P v s'
/-- the class K, made around a comparison that lies in the cell L1 -/
structure KIs (w : World) (h : Heap) (k n md L1 bT : Addr) (kv : KV) (t' : Tok) (hs : Int) (t₁ : Tok) (hd : Int) (td tK : Tok) : Prop where
  q : kv.q = "cmp_to_key.<locals>.K"
  ns : h.get? n = some (dO (kv.e3 hs t₁ md hd td) 3)
  md : h.get? md = some (mdO k t')
  cls : h.get? k = some (kO n kv.q [.ref k, .type "object"] false ["obj"] #[some (.ref bT), none, some (.str "K" tK), some (.str kv.q kv.tq), some (.builtin "object.__new__"), some (.bool false)])
  fi : KFun w h.get? 2 [] "cmp_to_key.<locals>.K.__init__" kv.vi
  flt : KFun w h.get? 3 [("mycmp", L1)] "cmp_to_key.<locals>.K.__lt__" kv.vlt
  fgt : KFun w h.get? 4 [("mycmp", L1)] "cmp_to_key.<locals>.K.__gt__" kv.vgt
  ti : FnB h.get? kv.vi
  tlt : FnB h.get? kv.vlt
  tgt : FnB h.get? kv.vgt
  cell : h.IsCell L1 (some (.ref 105))
def KCls (w : World) (h : Heap) (k : Addr) : Prop := ∃ n md L1 bT kv t' hs t₁ hd td tK, KIs w h k n md L1 bT kv t' hs t₁ hd td tK
theorem KFun.keeps {w : World} {h h' : Addr → Option Obj} {i : Nat} {clos : List (Str × Addr)} {q : Str} {f : Addr} (x : KFun w h i clos q f) (y : FnB h f) (k : Sub h h') : KFun w h' i clos q f := let ⟨_, e, _⟩ := y; x.mono e k
theorem FnB.keeps {h h' : Addr → Option Obj} {f : Addr} (y : FnB h f) (k : Sub h h') : FnB h' f := let ⟨o, e, c⟩ := y; ⟨o, k _ _ e, c⟩
theorem KIs.keeps {w : World} {h h' : Heap} {k n md L1 bT : Addr} {kv : KV} {t' : Tok} {hs : Int} {t₁ : Tok} {hd : Int} {td tK : Tok} (x : KIs w h k n md L1 bT kv t' hs t₁ hd td tK) (kk : ∀ b o, h.get? b = some o → h'.get? b = some o) :
    KIs w h' k n md L1 bT kv t' hs t₁ hd td tK :=
  ⟨x.q, kk _ _ x.ns, kk _ _ x.md, kk _ _ x.cls, x.fi.keeps x.ti kk, x.flt.keeps x.tlt kk, x.fgt.keeps x.tgt kk, x.ti.keeps kk, x.tlt.keeps kk, x.tgt.keeps kk, x.cell.keeps kk⟩
theorem sameT {s s' s'' : Shared} (x : ∃ h tk, s' = { s with heap := h, toks := tk }) (y : ∃ h tk, s'' = { s' with heap := h, toks := tk }) : ∃ h tk, s'' = { s with heap := h, toks := tk } := by
  obtain ⟨h, t, rfl⟩ := x; obtain ⟨h', t', rfl⟩ := y; exact ⟨h', t', rfl⟩
theorem sameK {s s' : Shared} (x : Keeps s s') : ∃ h tk, s' = { s with heap := h, toks := tk } := let ⟨h, t, e, _⟩ := x; ⟨h, t, e⟩
theorem e3_mod (k : KV) (hs : Int) (t : Tok) (md : Addr) (hd : Int) (td : Tok) : nsFind (k.e3 hs t md hd td) "__module__" = some (.str k.vm k.tm) := by kernel_rfl
end Mine
end

section
open PySem PySem.W PyProof.Rows
set_option maxRecDepth 100000
namespace Mine
theorem gl_name (w : World) : ∃ q t, gl w "__name__" = some (.str q t) := ⟨"law_nq0083_01", _, rfl⟩
set_option maxHeartbeats 4000000 in
theorem cmpkey_spec (w : World) {s : Shared} (H : Has w s.heap) (T : KTabs w s.heap) :
    codeAny (model pr w) (Aw 390 3900) (.call (.ref 63) ⟨[.ref 105], []⟩) (PostG s fun v s' => ∃ k, v = .ref k ∧ KTabs w s'.heap ∧ KCls w s'.heap k ∧ (∀ b o, b ≠ 58 → s.heap.get? b = some o → s'.heap.get? b = some o) ∧ ∃ h tk, s' = { s with heap := h, toks := tk }) s := by
  refine enterD [("mycmp", .cell), ("K", .local), ("object", .globalImplicit)] [("mycmp", .ref 105)] (fun L => [("mycmp", L + 1)])
    H (by decide) (by decide) rfl (by kernel_rfl) (by intro e; cases e) (by intro e; cases e) rfl rfl (by intro L; simp only [List.mem_singleton, forall_eq]; exact .inr ⟨by kernel_rfl, by kernel_rfl⟩) rfl rfl rfl rfl rfl (by decide) (by kernel_rfl) rfl (by intro L; rfl) ?_
  intro Q L env s₁ fin e hcode hqual R hL htk
  change env.code = .ref 62 at hcode
  change env.qual = "cmp_to_key" ++ ".<locals>." at hqual
  have H₁ := R.has
  refine wpAny_execs_cons ?_
  rw [arm_exec_ClassDef]
  refine wpAny_bind (wpAny_pure (wpAny_bind (wpAny_standAt (wpAny_bind ?_))))
  unfold buildClassGuard
  rw [e.builtins]
  refine wpAny_bind (wpAny_nsGet H₁.b ?_)
  rw [bl_bc]
  refine wpAny_pure (wpAny_bind (wpAny_holding (wpAny_bind ?_)))
  refine wpAny_mono (Q := fun a s' => a = ⟨[.type "object"], []⟩ ∧ s' = s₁) (E := fun _ _ => False) ?_ (fun a s' ha => ?_) fun _ _ z => z.elim
  · wp_walk using (nmB (v := .type "object") H₁ e (by kernel_rfl) (gl_obj w) (bl_obj w))
    exact ⟨rfl, rfl⟩
  obtain ⟨rfl, hs'⟩ := ha
  subst hs'
  refine wpAny_bind (wpAny_standAt (wpAny_holding ?_))
  have hqn : qualnameIn env "K" "K" = "cmp_to_key.<locals>.K" := by
    unfold qualnameIn Env.kindOf
    rw [e.names, hqual]; kernel_rfl
  rw [hqn]
  unfold buildClass
  refine wpAny_bind (newObjA fun bT s₁' fb hbT K₁ => ?_)
  refine wpAny_bind (forInOne ?_)
  refine wpAny_bind (wpAny_pure ?_)
  refine wpAny_ite_true rfl ?_
  refine wpAny_ite_false (by kernel_rfl) ?_
  refine wpAny_pure ?_
  refine wpAny_bind (wpAny_of_eq eq_tyO ?_)
  refine wpAny_bind (wpAny_pure ?_)
  refine wpAny_ite_true rfl ?_
  refine wpAny_bind (forInOne ?_)
  refine wpAny_bind (wpAny_of_eq eq_tyO ?_)
  refine wpAny_bind (wpAny_of_eq eq_sub3 ?_)
  refine wpAny_ite_true rfl ?_
  refine wpAny_pure ?_
  refine wpAny_bind (wpAny_mkText ?_)
  refine wpAny_ite_false (by kernel_rfl) ?_
  refine wpAny_bind (wpAny_pure ?_)
  refine wpAny_holding (wpAny_bind (prepK w fun b s₂ K₂ hb' => ?_))
  refine wpAny_bind (prepCall w hb' fun n s₃ fn K₃ hn => ?_)
  have K03 := kTrans (kTrans (kTrans K₁ (kTok _)) K₂) K₃
  have H₃ := kHas K03 H₁
  have hn1 : (n == sysModules) = false := by
    have H₂ := kHas (kTrans (kTrans K₁ (kTok _)) K₂) H₁
    have := H₂.get (a := 1) rfl (by decide) (by decide)
    cases e : (n == sysModules) with
    | false => rfl
    | true => rw [beq_iff_eq.mp e] at fn; exact absurd (fn.symm.trans this) (by intro z; cases z)
  unfold notTheModulesDict
  refine wpAny_bind (wpAny_ite_false (by rw [hn1]; rfl) (wpAny_pure ?_))
  refine wpAny_bind (wpAny_specialOf (T := "dict") ⟨_, hn, rfl⟩ (r := some (.builtin "dict.__getitem__")) (by rw [typeLookup_type, builtinLookup_eq_fast]; kernel_rfl) ?_)
  refine wpAny_ite_false rfl ?_
  refine wpAny_holding ?_
  refine wpAny_ite_false (by kernel_rfl) ?_
  refine wpAny_bind (wpAny_pure ?_)
  refine wpAny_ite_false (by kernel_rfl) ?_
  refine wpAny_bind (wpAny_pure ?_)
  have T₃ : KTabs w s₃.heap := T.keeps fun b o e => kGet K03 (R.reg.keep b o (fun z => by rw [hL b z] at e; cases e) e)
  obtain ⟨ps, h58, ht58, hk58⟩ := T₃
  have C3 := code62 w H₃
  refine wpAny_bind (wpAny_mono (Q := fun v s₄ => ∃ c P ps, v = .ref c ∧ AtCode w s₃ s₄ c P ps) (E := fun _ _ => False) (classGet hcode C3 h58 ht58 (fun c' hf => ?_) (fun c' P' s₄ hnf hs hx fc fP hCH hP' hrec h58' => ?_)) (fun v s₄ hF => ?_) fun _ _ z => z.elim)
  · rcases hk58 with hk | ⟨c, P, hk, kc⟩
    · rw [hk] at hf; cases hf
    · rw [hk] at hf; cases hf
      obtain ⟨ps', a1, a2, a3⟩ := kc.tab
      exact ⟨c, P, ps', rfl, ⟨_, _, rfl⟩, fun _ _ _ e => e, kc.hd, kc.free, a1, a2, ⟨ps, h58, ht58, hk, ps, #[], h58, by simp⟩, .inl a3⟩
  · have hl : (ps ++ #[rawInt posK.line, rawInt posK.col, Value.ref c']).toList = ps.toList ++ [rawInt posK.line, rawInt posK.col, .ref c'] := by simp
    exact ⟨c', P', #[], rfl, hs, fun b o hb e => hx b o hb e, hCH, H₃.free fP, hP', trivial, ⟨_, h58', by rw [hl]; exact TriplesOk_snoc _ _ _ _ ht58, by rw [hl]; exact codeAmong_snoc _ ht58 hnf, ps, _, h58, rfl⟩, .inr ⟨fP, rfl⟩⟩
  obtain ⟨c, P₁, ps₁, rfl, AC⟩ := hF
  have fnF : Free w n := (kHas (kTrans (kTrans K₁ (kTok _)) K₂) H₁).free fn
  obtain ⟨X₄, HB, HC⟩ := AC.start H₃ hn fnF
  have H₄ := AC.has H₃
  rw [e.globals]
  refine wpAny_bind (wpAny_builtinsFor H₄.g (bi_gl w) (by decide) (H₄.get (o4 w) (by decide) (by decide)) rfl rfl rfl ?_)
  unfold newBodyFrame
  refine wpAny_bind (wpAny_bind (wpAny_nsGet H₄.g (allocA rfl fun fr s₅ ffr hfr K₅ => ?_)))
  obtain ⟨B₅, X₅, sb₅, _⟩ := X₄.grow K₅ ffr hfr
  have HB₅ := HB.mono sb₅
  refine wpAny_bind (wpAny_of_eq (a := [(Str.ofString "mycmp", L + 1)]) (by unfold closureFor cellOf; simp only [e.cells]; rfl) ?_)
  refine wpAny_holding (wpAny_bind (wpAny_enterFrame (kHas K₅ H₄).lim (by decide) ?_))
  refine wpAny_bind (wpAny_onRaise ?_)
  obtain ⟨qm, tm0, hgn⟩ := gl_name w
  refine wpAny_bind (loadK ⟨rfl, rfl, rfl, rfl, rfl, rfl, rfl, rfl⟩ X₅ HB₅ (by kernel_rfl) (by decide +kernel) (by kernel_rfl) hgn ?_)
  refine wpAny_bind (storeK (fun hs t => dO #[ent hs "__module__" t (.str qm tm0)] 1) ⟨rfl, rfl, rfl, rfl, rfl, rfl, rfl, rfl⟩ X₅ (.inl (by kernel_rfl)) (by kernel_rfl) (fun _ _ => by kernel_rfl) (fun _ _ => rfl) fun h0 t0 s₆ X₆ => ?_)
  refine wpAny_bind (wpAny_mkText ?_)
  generalize htq : s₆.toks = tq
  have X₆' := X₆.keeps (kTok (s := s₆) (tq + 1))
  refine wpAny_bind (storeK (fun hs t => dO #[ent h0 "__module__" t0 (.str qm tm0), ent hs "__qualname__" t (.str "cmp_to_key.<locals>.K" tq)] 2) ⟨rfl, rfl, rfl, rfl, rfl, rfl, rfl, rfl⟩ X₆' (.inr ⟨by kernel_rfl, by decide +kernel⟩) (by kernel_rfl) (fun _ _ => by kernel_rfl) (fun _ _ => rfl) fun h1 t1 s₇ X₇ => ?_)
  refine wpAny_bind (wpAny_mkInt ?_)
  generalize htf : s₇.toks = tf
  have X₇' := X₇.keeps (kTok (s := s₇) (tf + 1))
  refine wpAny_bind (storeK (fun hs t => dO #[ent h0 "__module__" t0 (.str qm tm0), ent h1 "__qualname__" t1 (.str "cmp_to_key.<locals>.K" tq), ent hs "__firstlineno__" t (.int 78 tf)] 3) ⟨rfl, rfl, rfl, rfl, rfl, rfl, rfl, rfl⟩ X₇' (.inr ⟨by kernel_rfl, by decide +kernel⟩) (by kernel_rfl) (fun _ _ => by kernel_rfl) (fun _ _ => rfl) fun h2 t2 s₈ X₈ => wpAny_pure ?_)
  refine wpAny_bind (wpAny_run (codeAny_body (by kernel_rfl) (by kernel_rfl) ?_))
  refine bodyK w (L := L) ⟨rfl, rfl, rfl, rfl, rfl, rfl, rfl, by kernel_rfl⟩ X₈ HB₅ (HC.mono sb₅) ((AC.inv hn fnF).mono sb₅) fun B' ps' cur' tm h3 t3 sl ts h4 t4 fi h5 t5 flt h6 t6 fgt h7 t7 feq h8 t8 fle h9 t9 fge h10 t10 X₉ sb₉ TI tsame hsl kfi kflt kfgt y1 y2 y3 y4 y5 y6 => ?_
  clear X₈ X₇ X₇' X₆ X₆' X₅
  have K13 := kTrans (kTrans (kTok _) K₂) K₃
  have hbT4 : s₄.heap.get? bT = some { cls := .type "tuple", data := .seq [Value.type "object"].toArray } := AC.keep bT _ (H₁.free fb).n58 (kGet K13 hbT)
  have hbT9 : B' bT = some { cls := .type "tuple", data := .seq [Value.type "object"].toArray } := sb₉ _ _ (sb₅ _ _ (without_of hbT4 (fun z => by have := kGet (kTrans (kTok _) K₂) hbT; rw [z, fn] at this; cases this) (fun z => by rw [z, AC.tab] at hbT4; cases hbT4)))
  have X₄d := X₄
  clear X₄
  change wpAny (model pr w) _ _ _ _ _
  refine wpAny_bind (wpAny_onRaise (wpAny_bind (wpAny_mkStrs fun vsx => wpAny_bind (wpAny_newTextTuple ?_))))
  have fst := fresh_none cur'.heap
  have X₁₀ := X₉.more (cur' := { cur' with heap := cur'.heap.push { cls := .type "tuple", data := .seq vsx.toArray }, toks := cur'.toks + [Str.ofString "obj"].length }) (kPush _ _) fst (Heap.get?_push_size _ rfl)
  have sb₁₀ := addB_sub (o := { cls := .type "tuple", data := .seq vsx.toArray }) (X₉.none fst)
  revert X₁₀ sb₁₀
  generalize hst : cur'.heap.objs.size = st
  intro X₁₀ sb₁₀
  refine wpAny_bind (storeK (fun hs t => dO #[ent h0 "__module__" t0 (.str "cpy313.functools" tm), ent h1 "__qualname__" t1 (.str "cmp_to_key.<locals>.K" tq), ent h2 "__firstlineno__" t2 (.int 78 tf), ent h3 "__slots__" t3 (.ref sl), ent h4 "__init__" t4 (.ref fi), ent h5 "__lt__" t5 (.ref flt), ent h6 "__gt__" t6 (.ref fgt), ent h7 "__eq__" t7 (.ref feq), ent h8 "__le__" t8 (.ref fle), ent h9 "__ge__" t9 (.ref fge), ent h10 "__hash__" t10 .none, ent hs "__static_attributes__" t (.ref st)] 12)
    ⟨rfl, rfl, rfl, rfl, rfl, rfl, rfl, rfl⟩ X₁₀ (.inr ⟨by kernel_rfl, by decide +kernel⟩) (by kernel_rfl) (fun _ _ => by kernel_rfl) (fun _ _ => rfl) fun h11 t11 s₁₁ X₁₁ => ?_)
  refine wpAny_pure ?_
  refine wpAny_ite_false (by kernel_rfl) ?_
  have hB' : ∀ b o, B' b = some o → s₁₁.heap.get? b = some o := fun b o q => X₁₁.keep b o (sb₁₀ b o q)
  have upT : ∀ {f : Addr}, FnB B' f → s₁₁.TypeIs (.ref f) "function" := fun ⟨o, q, hc, _⟩ => ⟨o, hB' _ o q, hc⟩
  have hst₁₁ : s₁₁.heap.get? st = some { cls := .type "tuple", data := .seq vsx.toArray } := X₁₁.keep st _ (if_pos rfl)
  have H₁₁ : Has w s₁₁.heap := HB₅ _ fun b o q => hB' b o (sb₉ b o q)
  refine wpAny_bind (typeCall w (bT := bT) (nsA := n) { h0, t0, h1, t1, h2, t2, h3, t3, h4, t4, h5, t5, h6, t6, h7, t7, h8, t8, h9, t9, h10, t10, h11, t11, vm := "cpy313.functools", tm, q := "cmp_to_key.<locals>.K", tq, vf := 78, tf, sl, ts, vi := fi, vlt := flt, vgt := fgt, veq := feq, vle := fle, vge := fge, vst := st }
    (hB' _ _ hbT9) X₁₁.d hn1 (hsl _ hB') rfl (upT y1) (upT y2) (upT y3) (upT y4) (upT y5) (upT y6) ⟨_, hst₁₁, rfl⟩ (H₁₁.get (c2 w) (by decide) (by decide)) ?_)
  intro n₂ k md t' hs t₁ hd td s₁₂ K₁₂ hn₂ hmd hk
  refine wpAny_pure ?_
  have G : ∀ b o, b ≠ 58 → b ≠ n → s₃.heap.get? b = some o → s₁₁.heap.get? b = some o := by
    intro b o h1 h2 q
    by_cases hbP : b = P₁
    · subst hbP
      rcases AC.how with hall | ⟨hno, _⟩
      · have hps := tsame fun x hx => by obtain ⟨d, a, _⟩ := hall x hx; rw [a]; intro z; cases z
        have h4 := AC.keep b o h1 q
        rw [AC.tab] at h4
        have h5 := X₁₁.c
        rw [hps] at h5
        rw [h5, h4]
      · rw [hno] at q; cases q
    · exact hB' b o (sb₉ _ _ (sb₅ _ _ (without_of (AC.keep b o h1 q) h2 hbP)))
  have G1 : ∀ b o, b ≠ 58 → s'.heap.get? b = some o → s₁₂.heap.get? b = some o := fun b o h1 q => kGet K₁₂ (G b o h1 (fun z => by have := kGet (kTrans (kTrans K₁ (kTok _)) K₂) q; rw [z, fn] at this; cases this) (kGet K03 q))
  have H₁₂ := kHas K₁₂ H₁₁
  have fL : ∀ a ∈ L :: [(Str.ofString "mycmp", L + 1)].map (·.2), Free w a := R.reg.free
  have R₁₂ : RegC w s₁₂ L _ [(Str.ofString "mycmp", L + 1)] _ s₁₂ := ⟨⟨⟨_, _, rfl⟩, let ⟨o, es, nn, ho, r⟩ := R.ns; ⟨o, es, nn, G1 L o (fL _ (.head _)).n58 ho, r⟩, fun _ _ _ e => e, R.reg.inX, H₁₂, R.reg.free⟩,
    fun nm c hc => let ⟨o, ho, r⟩ := R.cell nm c hc; ⟨o, G1 c o (fL _ (.tail _ (List.mem_map_of_mem (f := (·.2)) (mem_of_lookup hc)))).n58 ho, r⟩, R.apart, R.notL⟩
  refine wpAny_bind (wpAny_pure (wpAny_bind (wpAny_standAt (wpAny_bind ?_))))
  unfold bindName
  refine wpAny_bind (wpAny_holding (wpAny_point (wpAny_bind (stLC' R₁₂ e (by kernel_rfl) fun s₁₃ R₁₃ up₁₃ => wpAny_point (wpAny_pure ?_)))))
  refine wpAny_execs_cons (wpAny_Return_some (nmL R₁₃.ns e (by kernel_rfl) rfl ?_))
  have noL : ∀ b o, s.heap.get? b = some o → b ∉ L :: [(Str.ofString "mycmp", L + 1)].map (·.2) := fun b o q z => by rw [hL b z] at q; cases q
  have G2 : ∀ b o, b ≠ 58 → s.heap.get? b = some o → s₁₃.heap.get? b = some o := fun b o h1 q => up₁₃ b o (fun z => noL b o q (z ▸ .head _)) (G1 b o h1 (R.reg.keep b o (noL b o q) q))
  obtain ⟨oL, esL, nL, hoL, hdL, _, hfL⟩ := R₁₂.ns
  have up2 : ∀ b o, (∀ es nn, o.data = .dict es nn → ∃ x, nsFind es x ≠ nsFind esL x) → s₁₂.heap.get? b = some o → s₁₃.heap.get? b = some o := fun b o hx q => up₁₃ b o (fun z => by
    subst z
    rw [hoL] at q; cases q
    obtain ⟨x, hx⟩ := hx _ _ hdL
    exact hx rfl) q
  have hB12 : ∀ b o, B' b = some o → s₁₂.heap.get? b = some o := fun b o q => kGet K₁₂ (hB' b o q)
  have recUp : ∀ {c : Addr} {q : Str}, OnB B' (·.CodeRec (.ref c) q) → s₁₃.heap.CodeRec (.ref c) q := fun {c q} hr => (hr _ hB12).keepsBut (fun b o hb e => up₁₃ b o hb e) hoL (fun vs z => by rw [hdL] at z; cases z)
  have fUp : ∀ {i clos q f}, KFun w B' i clos q f → FnB B' f → KFun w s₁₃.heap.get? i clos q f ∧ FnB s₁₃.heap.get? f := fun {i clos q f} x ⟨o, ho, hc, fd, hd⟩ => by
    have h13 := up2 f o (fun es nn z => by rw [hd] at z; cases z) (hB12 f o ho)
    obtain ⟨c, ctv, a, b⟩ := x.at'
    exact ⟨⟨c, ctv, by rw [h13, ← ho, a], fun hh kk => (recUp b).keeps kk⟩, o, h13, hc, fd, hd⟩
  have h58' : ∃ qs, s₁₃.heap.get? 58 = some (tabObj qs) ∧ TriplesOk qs.toList ∧ codeAmong posK qs.toList = some (.ref c) ∧ ∃ ps more, s₃.heap.get? 58 = some (tabObj ps) ∧ qs = ps ++ more := by
    obtain ⟨qs, a, b⟩ := AC.t58
    exact ⟨qs, up2 58 _ (fun es nn z => by cases z) (hB12 58 _ (sb₉ _ _ (sb₅ _ _ (without_of a (Ne.symm fnF.n58) (Ne.symm AC.free.n58))))), b⟩
  have hall := sameT R.reg.same (sameT (sameK K03) (sameT AC.same (sameT X₁₁.same (sameT (sameK K₁₂) R₁₃.reg.same))))
  refine fin _ _ ⟨_, rfl, ⟨by obtain ⟨h, t, e⟩ := hall; rw [e], by obtain ⟨h, t, e⟩ := hall; rw [e], fun b o h1 _ q => G2 b o h1 q, fun ps q => ?_, fun ps q => ⟨#[], by rw [G2 122 _ (by decide) q]; simp⟩⟩, k, rfl, ?_, ?_, G2, hall⟩
  · obtain ⟨qs, a, _, _, ps', more, b, rfl⟩ := h58'
    have := kGet K03 (R.reg.keep 58 _ (noL 58 _ q) q)
    rw [b] at this
    cases this
    exact ⟨more, a⟩
  · obtain ⟨qs, a, b, d, _⟩ := h58'
    refine ⟨qs, a, b, .inr ⟨c, P₁, d, ?_, AC.free, ps', ?_, TI.ok, fun x hx => ?_⟩⟩
    · have CH := HC.mono (sb₅.trans sb₉) s₁₂.heap hB12
      obtain ⟨o, vs, file, tf, flags, tg, inF, text, tt, e, hc, hd, r⟩ := CH
      exact ⟨o, vs, file, tf, flags, tg, inF, text, tt, up2 _ _ (fun es nn z => by rw [hd] at z; cases z) e, hc, hd, r⟩
    · exact up2 _ _ (fun es nn z => by cases z) (kGet K₁₂ X₁₁.c)
    · obtain ⟨d, a', b'⟩ := TI.did x (by simpa using hx)
      exact ⟨d, a', recUp b'⟩
  · refine ⟨n₂, md, L + 1, bT, _, t', hs, t₁, hd, td, _, rfl, up2 _ _ (fun es nn z => ?_) hn₂, up2 _ _ (fun es nn z => by cases z) hmd, up2 _ _ (fun es nn z => by cases z) hk, (fUp kfi y1).1, (fUp kflt y2).1, (fUp kfgt y3).1, (fUp kfi y1).2, (fUp kflt y2).2, (fUp kfgt y3).2, ?_⟩
    · cases z
      refine ⟨"__module__", ?_⟩
      rw [hfL]
      intro z
      rw [e3_mod] at z
      exact absurd z (by intro q; cases q)
    · exact R₁₃.cell "mycmp" (L + 1) (by kernel_rfl)
end Mine
end

section
open PySem PySem.W PyProof.Rows
set_option maxRecDepth 100000
namespace Mine
/-- as enter, for a function that lies in the heap -/
theorem enterH {w : World} {s : Shared} {f d u : Nat} {args : List Value} {R : Result → Shared → Prop} {oo : Option Obj} {oc : Value} {od : Option Addr} {osl : Array (Option Value)} {fd : FuncData} {body : List Stmt} (names : List (Str × NameKind)) (binds : List (Str × Value)) (cs : List (Str × Addr))
    (H : Has w s.heap) (hf : s.heap.get? f = oo) (ho : oo = some ⟨oc, od, .func fd, osl⟩) (hcr : s.heap.CodeRec fd.code fd.qualname)
    (hbody : fd.body = .stmts body) (hbind : bindArgs fd ⟨args, []⟩ = pure binds)
    (hcell : fd.scope.names.all (fun x => x.2 != .cell) = true) (hloc : binds.all (fun x => decide (fd.scope.names.lookup x.1 = some .local)) = true)
    (hk : fd.scope.kind = .function) (hg : fd.globals = 3) (hb : fd.builtins = 0) (hco : fd.scope.isCoroutine = false) (hgen : fd.scope.isGenerator = false) (hd : d < 1000) (hnames : fd.scope.names = names) (hclo : fd.closure = cs)
    (h : ∀ L env s₁, EnvIs env L names cs → Reg w [L] s L (fun x => binds.reverse.lookup x) s₁ → s.heap.get? L = none → s.toks ≤ s₁.toks → L = s.heap.objs.size →
      wpAny (model pr w) (Aw (d + 1) (u + 3)) (execs body env) (fun f s' => R (.ok (.ret (match f with | .ret v => v | _ => .none))) s') (fun _ _ => False) s₁) :
    codeAny (model pr w) (Aw d u) (.call (.ref f) ⟨args, []⟩) R s := by
  subst ho
  refine codeAny_call_def (show d < 1000 from hd) hf rfl H.lim hcr hbody (BindsTo.of_eq hbind) ?_ ?_ (fun h₀ hns hkeep => ?_) hco hgen hk
  · intro x hx e; have := List.all_eq_true.mp hcell x hx; rw [e] at this; cases this
  · intro x hx; exact of_decide_eq_true (List.all_eq_true.mp hloc x hx)
  · have hL := fresh_none s.heap
    refine wpAny_mono (h s.heap.objs.size (callEnv fd s.heap.objs.size f) _ (by have := callEnv_is (L := s.heap.objs.size) (a := f) hk hg hb; rw [hnames, hclo] at this; exact this) ⟨⟨h₀, _, rfl⟩, hns, fun a o ha e => hkeep a o e, by simp, H, fun a ha => by rw [List.mem_singleton.mp ha]; exact H.free hL⟩ hL (Nat.le_add_right _ _) rfl) (fun _ _ q => q) fun _ _ q => q.elim

theorem frag_look : ∀ {K : Frag} {h : Heap}, (∀ p ∈ K, h.get? p.1 = some p.2) → ∀ {a : Addr} {o : Obj}, (a, o) ∈ K → K.lookup a = some o
  | [], _, _, _, _, hm => nomatch hm
  | (b, o') :: r, h, hK, a, o, hm => by
    rw [List.lookup_cons]
    cases hb : (a == b) with
    | true =>
      have e := beq_iff_eq.mp hb
      subst e
      have h1 := hK _ (.head _)
      have h2 := hK _ hm
      rw [h1] at h2; exact h2
    | false =>
      rcases List.mem_cons.mp hm with q | q
      · cases q; simp at hb
      · exact frag_look (fun p hp => hK p (.tail _ hp)) q
theorem frag_mem : ∀ {K : Frag} {a : Addr} {o : Obj}, K.lookup a = some o → (a, o) ∈ K
  | [], _, _, e => nomatch e
  | (b, o') :: r, a, o, e => by
    rw [List.lookup_cons] at e
    cases hb : (a == b) with
    | true => rw [hb] at e; cases e; rw [beq_iff_eq.mp hb]; exact .head _
    | false => rw [hb] at e; exact .tail _ (frag_mem e)
theorem frag_in {K : Frag} {h : Heap} (hK : ∀ p ∈ K, h.get? p.1 = some p.2) : K.In h := fun a o e => hK (a, o) (frag_mem e)

structure KR (K : Frag) (k md fi flt fgt : Addr) : Prop where
  makes : makesIn K k = true
  init : findIn K (.ref k) "__init__" = some (some (.ref fi))
  lt : findIn K (.ref k) "__lt__" = some (some (.ref flt))
  gt : findIn K (.ref k) "__gt__" = some (some (.ref fgt))
  tfi : typeIn K (.ref fi) = some (.type "function")
  tlt : typeIn K (.ref flt) = some (.type "function")
  tgt : typeIn K (.ref fgt) = some (.type "function")
  setattr : findIn K (.ref k) "__setattr__" = some (some (.builtin "object.__setattr__"))
  ga : findIn K (.ref k) "__getattribute__" = some (some (.builtin "object.__getattribute__"))
  gattr : findIn K (.ref k) "__getattr__" = some none
  taker : takerIn K k "obj" = some (some (.ref md))
  over : plainOver K k = true
  slot : slotIn K md k = some 0
  tmd : typeIn K (.ref md) = some (.type "member_descriptor")
  find : ∀ od, findObj K k od "obj" = some (.bind (.builtin "member_descriptor.__get__") (.ref md))
theorem findK {K : Frag} {k n : Addr} {es : Array DictEntry} {ep : Nat} {q : Str} {sn : List Str} {sl : Array (Option Value)} (h1 : K.lookup k = some (kO n q [.ref k, .type "object"] false sn sl)) (h2 : K.lookup n = some (dO es ep)) (nm : Str) :
    findIn K (.ref k) nm = (match lookIn nm (dO es ep) with | some (some v) => some (some v) | some none => (match fastBuiltinOwn "object" nm with | some v => some (some v) | none => some none) | none => none) := by
  unfold findIn
  simp only [h1, alongIn, ownIn, nsIn, h2, lookIn]
  cases fastBuiltinOwn "object" nm <;> rfl
set_option maxHeartbeats 1000000 in
theorem KIs.rows {w : World} {h : Heap} {k n md L1 bT : Addr} {kv : KV} {t' : Tok} {hs : Int} {t₁ : Tok} {hd : Int} {td tK : Tok} (I : KIs w h k n md L1 bT kv t' hs t₁ hd td tK) : ∃ K : Frag, K.In h ∧ KR K k md kv.vi kv.vlt kv.vgt := by
  obtain ⟨oi, hoi, ci, _⟩ := I.ti
  obtain ⟨ol, hol, cl, _⟩ := I.tlt
  obtain ⟨og, hog, cg, _⟩ := I.tgt
  have hK : ∀ p ∈ ([(k, kO n kv.q [.ref k, .type "object"] false ["obj"] #[some (.ref bT), none, some (.str "K" tK), some (.str kv.q kv.tq), some (.builtin "object.__new__"), some (.bool false)]), (n, dO (kv.e3 hs t₁ md hd td) 3), (md, mdO k t'), (kv.vi, oi), (kv.vlt, ol), (kv.vgt, og)] : Frag), h.get? p.1 = some p.2 := by
    intro p hp
    simp only [List.mem_cons, List.not_mem_nil, or_false] at hp
    rcases hp with rfl | rfl | rfl | rfl | rfl | rfl
    · exact I.cls
    · exact I.ns
    · exact I.md
    · exact hoi
    · exact hol
    · exact hog
  generalize hKd : ([(k, kO n kv.q [.ref k, .type "object"] false ["obj"] #[some (.ref bT), none, some (.str "K" tK), some (.str kv.q kv.tq), some (.builtin "object.__new__"), some (.bool false)]), (n, dO (kv.e3 hs t₁ md hd td) 3), (md, mdO k t'), (kv.vi, oi), (kv.vlt, ol), (kv.vgt, og)] : Frag) = K at hK
  have l1 : K.lookup k = some _ := frag_look hK (by rw [← hKd]; exact .head _)
  have l2 : K.lookup n = some _ := frag_look hK (by rw [← hKd]; exact .tail _ (.head _))
  have l3 : K.lookup md = some _ := frag_look hK (by rw [← hKd]; exact .tail _ (.tail _ (.head _)))
  have l4 : K.lookup kv.vi = some oi := frag_look hK (by rw [← hKd]; exact .tail _ (.tail _ (.tail _ (.head _))))
  have l5 : K.lookup kv.vlt = some ol := frag_look hK (by rw [← hKd]; exact .tail _ (.tail _ (.tail _ (.tail _ (.head _)))))
  have l6 : K.lookup kv.vgt = some og := frag_look hK (by rw [← hKd]; exact .tail _ (.tail _ (.tail _ (.tail _ (.tail _ (.head _))))))
  have F := findK l1 l2
  have tk : typeIn K (.ref k) = some (.type "type") := by show (K.lookup k).map (·.cls) = _; rw [l1]; rfl
  have tm : typeIn K (.ref md) = some (.type "member_descriptor") := by show (K.lookup md).map (·.cls) = _; rw [l3]; rfl
  have cK : clsIn K k = some { name := "K", bases := [.type "object"], mro := [.ref k, .type "object"], ns := n, qualname := kv.q, hasDict := false, slotNames := ["obj"] } := by unfold clsIn; rw [l1]
  have fo : findIn K (.ref k) "obj" = some (some (.ref md)) := by rw [F]; kernel_rfl
  have tset : takesIn K (.ref md) = some true := by
    unfold takesIn specialIn
    rw [tm]
    have : findIn K (.type "member_descriptor") "__set__" = some (some (.builtin "member_descriptor.__set__")) := by show fastLookup _ _ = _; kernel_rfl
    rw [Option.bind_some, this]
  have tget : specialIn K (.ref md) "__get__" = some (some (.builtin "member_descriptor.__get__")) := by
    unfold specialIn; rw [tm, Option.bind_some]; show fastLookup _ _ = _; kernel_rfl
  refine ⟨K, frag_in hK, ?_, by rw [F]; kernel_rfl, by rw [F]; kernel_rfl, by rw [F]; kernel_rfl, by show (K.lookup kv.vi).map (·.cls) = _; rw [l4, Option.map_some, ci], by show (K.lookup kv.vlt).map (·.cls) = _; rw [l5, Option.map_some, cl], by show (K.lookup kv.vgt).map (·.cls) = _; rw [l6, Option.map_some, cg], by rw [F]; kernel_rfl, by rw [F]; kernel_rfl, by rw [F]; kernel_rfl, ?_, ?_, ?_, tm, fun od => ?_⟩
  · unfold makesIn
    rw [l1]
    have c1 : specialIn K (.ref k) "__call__" = some (some (.builtin "type.__call__")) := by unfold specialIn; rw [tk, Option.bind_some]; show fastLookup _ _ = _; kernel_rfl
    have c2 : instIn K (.ref k) (.type "type") = some true := by unfold instIn; rw [tk, Option.bind_some]; show Option.map _ (fastBuiltinMro "type") = _; kernel_rfl
    simp only [c1, c2]
    simp [BEq.rfl]
  · unfold takerIn; rw [fo, Option.bind_some]; simp only [tset, Option.map_some, if_true]
  · unfold plainOver; rw [cK]; rfl
  · unfold slotIn recIn
    rw [l3, cK]
    simp [rawInt]
  · unfold findObj
    rw [cK, fo]
    simp only [Option.bind_some, tget, tset]
end Mine
end

section
open PySem PySem.W PyProof.Rows
set_option maxRecDepth 100000
namespace Mine
theorem gl_im (w : World) : gl w "_initial_missing" = some (.ref 64) := by kernel_rfl
theorem gl_iter (w : World) : gl w "iter" = none := by kernel_rfl
theorem bl_iter (w : World) : bl w "iter" = some (.builtin "iter") := by kernel_rfl
theorem gl_next (w : World) : gl w "next" = none := by kernel_rfl
theorem bl_next (w : World) : bl w "next" = some (.builtin "next") := by kernel_rfl
theorem gl_reduce (w : World) : gl w "reduce" = some (.ref 72) := by kernel_rfl
theorem fnReduce (w : World) : FnK w 72 := ⟨⟨_, _, rfl, rfl⟩, by decide, by decide⟩
section
variable {w : World} {A : Around} {E : Value → Shared → Prop} {s : Shared}
theorem opIter {a : Addr} {items : Array Value} {Q : Value → Shared → Prop} (hl : s.heap.IsList a items) (h : ∀ I s', Keeps s s' → s.heap.get? I = none → s'.heap.IsListIter I a 0 → Q (.ref I) s') : wpAny (model pr w) A (call (.builtin "iter") [.ref a]) Q E s := by
  refine Calls.call_function_entry (by decide +kernel) (by decide +kernel) kdk_entry_iter (kdk_args_iter _) ?_
  unfold Builtin.«iter»
  refine wpAny_bind (m := someArgs "iter" 1 2 _) (wpAny_of_eq (a := [Value.ref a]) (by first | rfl | kernel_rfl) ?_)
  show wpAny _ _ (pyIter (.ref a) >>= _) _ _ _
  refine wpAny_bind (wpAny_pyIter_list hl ?_)
  exact wpAny_pure ⟨_, rfl, h _ _ (kPushH _) (size_none _) ⟨_, Heap.get?_push_size _ rfl, rfl, rfl⟩⟩
theorem opNext {I a : Addr} {i : Nat} {items : Array Value} {v : Value} {Q : Value → Shared → Prop} (hit : s.heap.IsListIter I a i) (hl : s.heap.IsList a items) (hx : items[i]? = some v)
    (h : ∀ h', h'.IsListIter I a (i + 1) → (∀ b o, b ≠ I → s.heap.get? b = some o → h'.get? b = some o) → Q v { s with heap := h' }) : wpAny (model pr w) A (call (.builtin "next") [.ref I]) Q E s := by
  obtain ⟨o, ho, hc, hd⟩ := id hit
  obtain ⟨ol, hol, _, nl, hdl⟩ := hl
  refine Calls.call_function_entry (by decide +kernel) (by decide +kernel) kdk_entry_next (kdk_args_next _) ?_
  unfold Builtin.«next»
  refine wpAny_bind (m := someArgs "next" 1 2 _) (wpAny_of_eq (a := [Value.ref I]) (by first | rfl | kernel_rfl) ?_)
  show wpAny _ _ (specialOf (.ref I) (Str.ofString "__next__") >>= _) _ _ _
  refine wpAny_bind (wpAny_specialOf hit.typeIs slot_listiter_next.lookup ?_)
  refine wpAny_ite_false (by decide) ?_
  refine wpAny_bind (wpAny_callSpecial?_slot (name := Str.ofString "__next__") hit.typeIs slot_listiter_next
    (wpAny_call_entry slot_listiter_next hit.typeIs entry_listiter_next ?_ (args_listiter_next _)))
  show wpAny _ _ (field (.ref I) 0 >>= _) _ _ s
  refine wpAny_bind (wpAny_field ho hd (x := .ref a) rfl ?_)
  show wpAny _ _ (if (Value.ref a == Value.none) = true then _ else _) _ _ s
  rw [if_neg (show ¬ ((Value.ref a == Value.none) = true) from Bool.false_ne_true)]
  show wpAny _ _ (field (.ref I) 1 >>= _) _ _ s
  refine wpAny_bind (wpAny_field ho hd (x := .int i 0) rfl ?_)
  show wpAny _ _ (seqItems? (.ref a) >>= _) _ _ s
  refine wpAny_bind (wpAny_seqItems hol hdl ?_)
  simp only [Int.toNat_natCast, hx]
  refine wpAny_bind (wpAny_setField ho hd (by simp) (wpAny_pure ⟨v, rfl, wpAny_pure ⟨_, rfl, h _ ?_ fun b o hb q => (Heap.SameBut.update ..).extBut b o hb q⟩⟩))
  exact ⟨_, Heap.get?_update_self _ ho (Obj.isFreed_of_fields (Obj.data_mapFields hd _)), (Obj.cls_mapFields ..).trans hc, by
    rw [Obj.data_mapFields hd]; simp [rawInt]⟩
/-- a call of what a local name holds -/
theorem callL2 {L : Addr} {m : Str → Option Value} {env : Env} {names : List (Str × NameKind)} {cells : List (Str × Addr)} {f : Str} {a : Addr} {o : Obj} {fd : FuncData} {p pos : Pos} {e1 e2 : Expr} {Q : Value → Shared → Prop} (x : s.heap.Ns L m) (e : EnvIs env L names cells) (hn : names.lookup f = some .local) (hv : m f = some (.ref a))
    (h : wpAny (model pr w) A (eval e1 env) (fun v s₁ => wpAny (model pr w) A (eval e2 env) (fun v2 s₂ => (s₂.heap.get? a = some o ∧ o.data = .func fd) ∧ wpAny (model pr w) A (call (.ref a) [v, v2]) Q E s₂) E s₁) E s)
    (hs : backTo pos (starEach [e1, e2] env) = [(false, eval e1 env), (false, eval e2 env)] := by rfl) (hd : (f == ("__debug__" : Str)) = false := by decide) :
    wpAny (model pr w) A (eval (.Call (.Name f p) [e1, e2] [] pos) env) Q E s := by
  show wpAny _ A (do callWith pos (← eval (.Name f p) env) [] (backTo pos (starEach [e1, e2] env)) (backToKw pos (keywordEach [] env))) Q E s
  refine wpAny_bind (nmL x e hn hv ?_ hd)
  rw [hs]
  exact Calls.callWith_function (o := o) (fd := fd) (Calls.evalArgs_plain (Calls.spliced_cons (wpAny_mono h (fun v s₁ h₁ => Calls.spliced_cons (wpAny_mono h₁ (fun v2 s₂ h₂ => Calls.spliced_nil h₂) fun _ _ e => e)) fun _ _ e => e)))
end
/-- the row after so many turns -/
abbrev AccIs (Φ : Nat → List Value → Prop) (i : Nat) (v : Value) (s : Shared) : Prop := ∃ D us, v = .ref D ∧ s.heap.IsList D us.toArray ∧ Φ i us
def JRed (w : World) (s : Shared) (L I fa a : Addr) (Φ : Nat → List Value → Prop) (i : Nat) (s' : Shared) : Prop :=
  ∃ m' acc, Reg w [L, I] s L m' s' ∧ m' "function" = some (.ref fa) ∧ m' "value" = some acc ∧ AccIs Φ i acc s' ∧ s'.heap.IsListIter I a i
def KRed (w : World) (s : Shared) (L I fa a : Addr) (Φ : Nat → List Value → Prop) (i₀ : Nat) (f : Flow) (s' : Shared) : Prop :=
  f = .next ∧ ∃ m' acc, Reg w [L, I] s L m' s' ∧ m' "function" = some (.ref fa) ∧ m' "it" = some (.ref I) ∧ m' "value" = some acc ∧ AccIs Φ i₀ acc s' ∧ s'.heap.IsListIter I a i₀
set_option maxHeartbeats 1000000 in
theorem reduce_spec (w : World) {s : Shared} (H : Has w s.heap) {fa a : Addr} {fo : Obj} {ffd : FuncData} {vs args : List Value} {init : Value} {i₀ : Nat} (Φ : Nat → List Value → Prop) (hfo : s.heap.get? fa = some fo) (hffd : fo.data = .func ffd) (hl : s.heap.IsList a vs.toArray)
    (hst : (args = [.ref fa, .ref a] ∧ init = .ref 64 ∧ i₀ = 1 ∧ ∃ v, vs[0]? = some v ∧ AccIs Φ 1 v s) ∨ (args = [.ref fa, .ref a, init] ∧ i₀ = 0 ∧ AccIs Φ 0 init s ∧ init ≠ .ref 64)) (hi₀ : i₀ ≤ vs.length)
    (step : ∀ i v us D s', (∀ b o, s.heap.get? b = some o → s'.heap.get? b = some o) → s'.heap.IsList D us.toArray → vs[i]? = some v → Φ i us →
      codeAny (model pr w) (Aw 385 3850) (.call (.ref fa) ⟨[.ref D, v], []⟩) (Post s' fun v' s'' => AccIs Φ (i + 1) v' s'') s') :
    codeAny (model pr w) (Aw 380 3800) (.call (.ref 72) ⟨args, []⟩) (Post s fun v s' => AccIs Φ vs.length v s') s := by
  refine enterB [("function", .local), ("sequence", .local), ("initial", .local), ("it", .local), ("value", .local), ("element", .local), ("iter", .globalImplicit), ("_initial_missing", .globalImplicit), ("next", .globalImplicit), ("StopIteration", .globalImplicit), ("TypeError", .globalImplicit)] [("function", .ref fa), ("sequence", .ref a), ("initial", init)] H (by decide) (by decide) rfl (by kernel_rfl) (by intro e; cases e) (by intro e; cases e) rfl ?bind (by kernel_rfl) (by kernel_rfl) rfl rfl rfl rfl rfl (by decide) (by kernel_rfl) rfl ?_
  case bind =>
    rcases hst with ⟨rfl, rfl, _⟩ | ⟨rfl, _⟩
    · exact BindsTo.of_defaults rfl (H.get (a := 65) rfl (by decide) (by decide)) rfl rfl rfl
    · exact BindsTo.of_defaults rfl (H.get (a := 65) rfl (by decide) (by decide)) rfl rfl rfl
  intro Q L env s₁ fin e R hL _
  have h1 : (fun n => List.lookup n [(Str.ofString "function", Value.ref fa), (Str.ofString "sequence", Value.ref a), (Str.ofString "initial", init)].reverse) "function" = some (.ref fa) := rfl
  have h2 : (fun n => List.lookup n [(Str.ofString "function", Value.ref fa), (Str.ofString "sequence", Value.ref a), (Str.ofString "initial", init)].reverse) "sequence" = some (.ref a) := rfl
  have h3 : (fun n => List.lookup n [(Str.ofString "function", Value.ref fa), (Str.ofString "sequence", Value.ref a), (Str.ofString "initial", init)].reverse) "initial" = some init := rfl
  generalize (fun n => List.lookup n [(Str.ofString "function", Value.ref fa), (Str.ofString "sequence", Value.ref a), (Str.ofString "initial", init)].reverse) = m at R h1 h2 h3
  have kp : ∀ b o, s.heap.get? b = some o → s₁.heap.get? b = some o := fun b o q => R.keep b o (fun z => by rw [List.mem_singleton.mp z, hL] at q; cases q) q
  have hlv : vs.length = vs.toArray.size := by simp
  refine wpAny_execs_cons (wpAny_Assign_Name (callB1 R.has e (by kernel_rfl) (gl_iter w) (bl_iter w) (nmL R.ns e (by kernel_rfl) h2 (opIter (hl.at fun o q => kp a o q) fun I s₂ k₂ fI hit => ?_))))
  have fIs : s.heap.get? I = none := by
    cases q : s.heap.get? I with
    | none => rfl
    | some o => rw [kp _ _ q] at fI; cases fI
  have hIL : I ≠ L := fun z => by
    obtain ⟨o, _, _, ho, _⟩ := R.ns
    rw [← z, fI] at ho; cases ho
  have R₂ : Reg w [L, I] s L m s₂ := (R.keeps k₂).wide (by simp) (fun b hb => by
    simp only [List.mem_cons, List.not_mem_nil, or_false] at hb
    rcases hb with rfl | rfl
    · exact H.free hL
    · exact H.free fIs)
  have noX : ∀ b o, s.heap.get? b = some o → b ∉ [L, I] := fun b o q z => by
    simp only [List.mem_cons, List.not_mem_nil, or_false] at z
    rcases z with rfl | rfl
    · rw [hL] at q; cases q
    · rw [fIs] at q; cases q
  have kpR : ∀ {s' : Shared} {m' : Str → Option Value}, Reg w [L, I] s L m' s' → ∀ b o, s.heap.get? b = some o → s'.heap.get? b = some o := fun R b o q => R.keep b o (noX b o q) q
  refine stL R₂ e (by kernel_rfl) fun s₃ R₃ up₃ => ?_
  have hit₃ : s₃.heap.IsListIter I a 0 := let ⟨o, q, r⟩ := hit; ⟨o, up₃ I o hIL q, r⟩
  have haI : a ≠ I := fun z => by
    obtain ⟨o, ho, _⟩ := hl
    rw [z, fIs] at ho; cases ho
  refine wpAny_execs_cons (wpAny_mono (Q := fun f s' => KRed w s L I fa a Φ i₀ f s') (E := fun _ _ => False) ?_ (fun f s' hf => ?_) (fun _ _ z => z.elim))
  · refine wpAny_If (wpAny_isTrue_Compare1 (nmL R₃.ns e (by kernel_rfl) (by rw [if_neg (by decide)]; exact h3) (nmG R₃.has e (by kernel_rfl) (gl_im w) ?_)))
    rcases hst with ⟨_, rfl, rfl, v, hv0, hacc⟩ | ⟨_, rfl, hacc, hne⟩
    · refine wpAny_is_ref_self (wpAny_truthy_bool ?_)
      rw [if_pos rfl]
      refine wpAny_execs_cons (wpAny_Try_except (noErr ?_))
      refine wpAny_execs_cons (wpAny_Assign_Name (callB1 R₃.has e (by kernel_rfl) (gl_next w) (bl_next w) (nmL R₃.ns e (by kernel_rfl) (if_pos rfl) (opNext hit₃ (hl.at fun o q => kpR R₃ a o q) (by simpa using hv0) fun h' hit' hk' => ?_))))
      have R₄ := R₃.but (tk := s₃.toks) (by simp) hIL hk'
      refine stL R₄ e (by kernel_rfl) fun s₅ R₅ up₅ => ?_
      refine wpAny_execs_nil (wpAny_execs_nil (wpAny_execs_nil ⟨rfl, _, v, R₅, ?_, ?_, if_pos rfl, ?_, ?_⟩))
      · rw [if_neg (by decide), if_neg (by decide)]; exact h1
      · rw [if_neg (by decide), if_pos rfl]
      · obtain ⟨D, us, e1, l1, p1⟩ := hacc
        exact ⟨D, us, e1, l1.at fun o q => kpR R₅ D o q, p1⟩
      · obtain ⟨o, q, r⟩ := hit'
        exact ⟨o, up₅ I o hIL q, r⟩
    · obtain ⟨D, us, e1, l1, p1⟩ := hacc
      subst e1
      obtain ⟨oD, hoD, hcD, hdD⟩ := id l1
      have hD64 : D ≠ 64 := fun z => hne (by rw [z])
      refine wpAny_is_ref_other hD64 (kpR R₃ D _ hoD) (R₃.has.get (a := 64) rfl (by decide) (by decide)) (by rw [hcD]; decide) (wpAny_truthy_bool ?_)
      rw [if_neg (by decide)]
      refine wpAny_execs_cons (wpAny_Assign_Name (nmL R₃.ns e (by kernel_rfl) (by rw [if_neg (by decide)]; exact h3) (stL R₃ e (by kernel_rfl) fun s₅ R₅ up₅ => ?_)))
      refine wpAny_execs_nil ⟨rfl, _, .ref D, R₅, ?_, ?_, if_pos rfl, ⟨D, us, rfl, l1.at fun o q => kpR R₅ D o q, p1⟩, ?_⟩
      · rw [if_neg (by decide), if_neg (by decide)]; exact h1
      · rw [if_neg (by decide), if_pos rfl]
      · obtain ⟨o, q, r⟩ := hit₃
        exact ⟨o, up₅ I o hIL q, r⟩
  obtain ⟨rfl, m', acc, R', m1, m2, m3, hacc, hit'⟩ := hf
  refine wpAny_execs_cons (wpAny_For (nmL R'.ns e (by kernel_rfl) m2 (wpAny_pyIter_listiter hit' ?_)) (by intro _; rfl))
  have accOf : ∀ {s₁ s₂ : Shared} {i : Nat} {v : Value} {m₁ : Str → Option Value}, AccIs Φ i v s₁ → s₁.heap.Ns L m₁ → s₁.heap.IsListIter I a i → (∀ b o, b ≠ L → b ≠ I → s₁.heap.get? b = some o → s₂.heap.get? b = some o) → AccIs Φ i v s₂ := fun {s₁ s₂ i v m₁} x n it k => by
    obtain ⟨D, us, e1, l1, p1⟩ := x
    refine ⟨D, us, e1, l1.at fun o q => k D o (fun z => ?_) (fun z => ?_) q, p1⟩
    · obtain ⟨o1, h1, c1, n1, d1⟩ := l1
      obtain ⟨o2, es, nn, h2, d2, _⟩ := n
      rw [z, h2] at h1; cases h1
      rw [d2] at d1; cases d1
    · obtain ⟨o1, h1, c1, n1, d1⟩ := l1
      obtain ⟨o2, h2, c2, d2⟩ := it
      rw [z, h2] at h1; cases h1
      rw [d2] at d1; cases d1
  refine forLoopR (fun i s' => JRed w s L I fa a Φ i s') haI rfl
    (fun i s' ⟨_, _, R', _, _, _, it⟩ => ⟨it, hl.at fun o q => kpR R' a o q⟩) ?_ ?_ i₀ hi₀ ⟨m', acc, R', m1, m3, hacc, hit'⟩
  · rintro i v s' h' tk hv ⟨m', acc, R', m1, m3, hacc, hit'⟩ hit'' hk
    have R₁ := R'.but (tk := tk) (by simp) hIL hk
    have A₁ : AccIs Φ i acc { s' with heap := h', toks := tk } := accOf hacc R'.ns hit' fun b o _ hb q => hk b o hb q
    refine stL R₁ e (by kernel_rfl) fun s₂ R₂ up₂ => ?_
    have it₂ : s₂.heap.IsListIter I a (i + 1) := let ⟨o, q, r⟩ := hit''; ⟨o, up₂ I o hIL q, r⟩
    have A₂ : AccIs Φ i acc s₂ := by
      obtain ⟨D, us, e1, l1, p1⟩ := A₁
      refine ⟨D, us, e1, l1.at fun o q => up₂ D o (fun z => ?_) q, p1⟩
      obtain ⟨o1, h1, c1, n1, d1⟩ := l1
      obtain ⟨o2, es, nn, h2, d2, _⟩ := R₁.ns
      rw [z, h2] at h1; cases h1
      rw [d2] at d1; cases d1
    obtain ⟨D, us, rfl, l2, p2⟩ := A₂
    refine wpAny_execs_cons (wpAny_Assign_Name (callL2 (o := fo) (fd := ffd) R₂.ns e (by kernel_rfl) (by rw [if_neg (by decide)]; exact m1) (nmL R₂.ns e (by kernel_rfl) (by rw [if_neg (by decide)]; exact m3) (nmL R₂.ns e (by kernel_rfl) (if_pos rfl) ⟨⟨kpR R₂ _ _ hfo, hffd⟩, ?_⟩))))
    refine useSpec (step i v us D s₂ (kpR R₂) l2 hv p2) rfl (by decide) (by decide) fun v' s₃ k₃ A₃ => ?_
    have R₃ := R₂.keeps k₃
    have it₃ : s₃.heap.IsListIter I a (i + 1) := let ⟨o, q, r⟩ := it₂; ⟨o, kGet k₃ q, r⟩
    refine stL R₃ e (by kernel_rfl) fun s₄ R₄ up₄ => wpAny_execs_nil ⟨rfl, _, v', R₄, ?_, if_pos rfl, ?_, ?_⟩
    · rw [if_neg (by decide), if_neg (by decide)]; exact m1
    · obtain ⟨D, us, e1, l1, p1⟩ := A₃
      refine ⟨D, us, e1, l1.at fun o q => up₄ D o (fun z => ?_) q, p1⟩
      obtain ⟨o1, h1, c1, n1, d1⟩ := l1
      obtain ⟨o2, es, nn, h2, d2, _⟩ := R₃.ns
      rw [z, h2] at h1; cases h1
      rw [d2] at d1; cases d1
    · obtain ⟨o, q, r⟩ := it₃
      exact ⟨o, up₄ I o hIL q, r⟩
  · rintro s' h' tk ⟨m', acc, R', m1, m3, hacc, hit'⟩ hk
    have R₁ := R'.but (tk := tk) (by simp) hIL hk
    have A₁ : AccIs Φ vs.length acc { s' with heap := h', toks := tk } := accOf hacc R'.ns hit' fun b o _ hb q => hk b o hb q
    refine wpAny_execs_cons (wpAny_Return_some (nmL R₁.ns e (by kernel_rfl) m3 (fin _ _ ⟨_, rfl, ?_, A₁⟩)))
    obtain ⟨h0, t0, e0⟩ := R₁.same
    exact ⟨h0, t0, e0, fun b o q => by have := kpR R₁ b o q; rw [e0] at this; exact this⟩
end Mine
end

section
open PySem PySem.W PyProof.Rows
set_option maxRecDepth 100000
namespace Mine
theorem gl_columns (w : World) : gl w "_law_columns" = some (.ref 110) := by kernel_rfl
theorem fnColumns (w : World) : FnK w 110 := ⟨⟨_, _, rfl, rfl⟩, by decide, by decide⟩
theorem gl_common (w : World) : gl w "_law_in_common" = some (.ref 115) := by kernel_rfl
theorem fnCommon (w : World) : FnK w 115 := ⟨⟨_, _, rfl, rfl⟩, by decide, by decide⟩
/-- the longest beginning that x has in common with all -/
def colK (x : List Nat) (ls : List (List Nat)) (k : Nat) : Prop := Share x (x :: ls) k ∧ ¬ Share x (x :: ls) (k + 1)
theorem sp_asc (k c : Nat) (hc : c ∈ signs) : Asc (sp (tabOf k) c) := by
  have : ∀ c ∈ signs, ∀ k < 5, ∀ x ∈ sp (tabOf k) c, x < 128 := by decide +kernel
  by_cases hk : k < 5
  · exact this c hc k hk
  · have e : tabOf k = tabOf 4 := by
      match k, hk with
      | 0, h => exact absurd h (by omega)
      | 1, h => exact absurd h (by omega)
      | 2, h => exact absurd h (by omega)
      | 3, h => exact absurd h (by omega)
      | k + 4, _ => rfl
    rw [e]; exact this c hc 4 (by omega)
theorem signs_asc {l : List Nat} (h : ∀ x ∈ l, x ∈ signs) : Asc l := fun c hc => by
  have : ∀ c ∈ signs, c < 128 := by decide
  exact this c (h c hc)
theorem sp_len6 (k c : Nat) : (sp (tabOf k) c).length ≤ 6 := by
  refine sp_len _ ?_ c
  match k with
  | 0 => rfl
  | 1 => rfl
  | 2 => rfl
  | 3 => rfl
  | k + 4 => rfl
/-- the spelling of the next sign, nothing where the text ends -/
def nextSp (k n : Nat) (l : List Nat) : List Nat := ((l.take (n + 1)).drop n).flatMap (sp (tabOf k))
set_option maxHeartbeats 1000000 in
theorem common_spec (w : World) {s : Shared} (H : Has w s.heap) {k : Nat} {a d : Addr} {vs : List Value} {x : List Nat} {ls : List (List Nat)} (hl : s.heap.IsList a vs.toArray) (hv : Txts vs (x :: ls)) (hd : SpD w k s.heap d)
    (hlen : ls.length ≤ 2 ^ 10) (hsz : ∀ l ∈ x :: ls, l.length ≤ 2 ^ 10) (hsig : ∀ l ∈ x :: ls, ∀ c ∈ l, c ∈ signs) :
    codeAny (model pr w) (Aw 390 3900) (.call (.ref 115) ⟨[.ref a, .ref d], []⟩)
      (Post s fun v _ => ∃ n m t, colK x ls n ∧ colK (nextSp k n x) (ls.map (nextSp k n)) m ∧ v = .str (S ((x.take n).flatMap (sp (tabOf k)) ++ (nextSp k n x).take m)) t) s := by
  refine enterC [("texts", .local), ("spelled", .cell), ("common", .cell), ("heads", .local), ("_law_columns", .globalImplicit)] [("texts", .ref a), ("spelled", .ref d)] (fun L => [("common", L + 1 + 1), ("spelled", L + 1)])
    H (by decide) (by decide) rfl (by kernel_rfl) (by intro e; cases e) (by intro e; cases e) rfl rfl (by intro L; simp only [List.mem_cons, List.not_mem_nil, or_false, forall_eq_or_imp, forall_eq]; exact ⟨.inl (by kernel_rfl), .inr ⟨by kernel_rfl, by kernel_rfl⟩⟩) rfl rfl rfl rfl rfl (by decide) (by kernel_rfl) rfl (by intro L; rfl) ?_
  intro Q L env s₁ fin e R hL htk
  have h1 : (bindL (fun n => List.lookup n [(Str.ofString "texts", NameKind.local), (Str.ofString "spelled", NameKind.cell), (Str.ofString "common", NameKind.cell), (Str.ofString "heads", NameKind.local), (Str.ofString "_law_columns", NameKind.globalImplicit)]) [(Str.ofString "texts", Value.ref a), (Str.ofString "spelled", Value.ref d)] fun _ => none) "texts" = some (.ref a) := by kernel_rfl
  have h2 : (bindC (fun n => List.lookup n [(Str.ofString "texts", NameKind.local), (Str.ofString "spelled", NameKind.cell), (Str.ofString "common", NameKind.cell), (Str.ofString "heads", NameKind.local), (Str.ofString "_law_columns", NameKind.globalImplicit)]) [(Str.ofString "texts", Value.ref a), (Str.ofString "spelled", Value.ref d)] fun _ => none) "spelled" = some (.ref d) := by kernel_rfl
  generalize (bindL (fun n => List.lookup n [(Str.ofString "texts", NameKind.local), (Str.ofString "spelled", NameKind.cell), (Str.ofString "common", NameKind.cell), (Str.ofString "heads", NameKind.local), (Str.ofString "_law_columns", NameKind.globalImplicit)]) [(Str.ofString "texts", Value.ref a), (Str.ofString "spelled", Value.ref d)] fun _ => none) = m at R h1
  generalize (bindC (fun n => List.lookup n [(Str.ofString "texts", NameKind.local), (Str.ofString "spelled", NameKind.cell), (Str.ofString "common", NameKind.cell), (Str.ofString "heads", NameKind.local), (Str.ofString "_law_columns", NameKind.globalImplicit)]) [(Str.ofString "texts", Value.ref a), (Str.ofString "spelled", Value.ref d)] fun _ => none) = cm at R h2
  have hlv := txts_len hv
  simp only [List.length_cons] at hlv
  have kp : ∀ {s' : Shared} {m' cm' : Str → Option Value}, RegC w s L m' [(Str.ofString "common", L + 1 + 1), (Str.ofString "spelled", L + 1)] cm' s' → ∀ b o, s.heap.get? b = some o → s'.heap.get? b = some o := fun R b o q => R.reg.keep b o (fun z => by rw [hL b z] at q; cases q) q
  refine wpAny_execs_cons (wpAny_Assign_Name (callF1 R.has e (by kernel_rfl) (gl_columns w) (fnColumns w) (nmL R.ns e (by kernel_rfl) h1 ⟨R.has, useSpec (columns_spec w R.has (hl.at fun o q => kp R _ o q) hv hlen hsz fun l hl' => signs_asc (hsig l hl')) rfl (by decide) (by decide) ?_⟩)))
  rintro v s₂ k₂ ⟨n, t₂, rfl, hn1, hn2⟩
  refine stC (R.keeps k₂) e (by kernel_rfl) rfl fun s₃ R₃ _ => ?_
  have hxn : n ≤ x.length := (hn1 x (.head _)).1
  have hcl : (x.take n).length = n := by simp; omega
  have hcc := R₃.cell "common" (L + 1 + 1) (by kernel_rfl); rw [if_pos rfl] at hcc
  have hcs := R₃.cell "spelled" (L + 1) (by kernel_rfl); rw [if_neg (by decide), h2] at hcs
  have hd3 := hd.keeps (kp R₃)
  have hl3 : s₃.heap.IsList a vs.toArray := hl.at fun o q => kp R₃ _ o q
  have hxs := hsz x (.head _)
  refine wpAny_execs_cons (compA (fun _ => true) (fun v y => ∃ l t u, l ∈ x :: ls ∧ v = .str (S l) t ∧ y = .str (S (nextSp k n l)) u) vs.toArray.size (fun i v => vs.toArray[i]? = some v) e R₃ (by kernel_rfl) (by kernel_rfl) (by kernel_rfl) (by unfold closureFor cellOf; simp only [e.cells]; rfl) (by kernel_rfl) rfl (by kernel_rfl) (by kernel_rfl) (by simp; omega) ?_)
  refine nmL R₃.ns e (by kernel_rfl) h1 ⟨srcList rfl hl3, R₃, ?_, ?_, ?_⟩
  · rintro i v cenv C m₃ s₄ _ _
    exact tests0 ⟨rfl, kRefl _⟩
  · rintro i v cenv C m₃ s₄ hP _ ⟨e', hns, hm, hup, _⟩
    obtain ⟨l, t, hli, rfl⟩ := txts_at hv (by simpa using hP)
    have hmem : l ∈ x :: ls := List.mem_of_getElem? hli
    have hll := hsz l hmem
    have H₄ : Has w s₄.heap := R₃.has.keeps hup
    refine callJoin rfl (by kernel_rfl) fun s₅ t₅ k₅ => ?_
    have hsub : ((l.take (n + 1)).drop n).length ≤ 2 ^ 10 := by simp; omega
    have hin : ∀ c ∈ (l.take (n + 1)).drop n, c ∈ signs := fun c hc => hsig l hmem c (List.mem_of_mem_take (List.mem_of_mem_drop hc))
    refine spellComp (k := k) (a := d) (c := L + 1) ((l.take (n + 1)).drop n) e' (by unfold closureFor cellOf; simp only [e'.cells]; rfl) rfl rfl (by kernel_rfl) rfl hsub hin ?_
    refine sliceFT (nmL (hns.keeps (kAll k₅)) e' (by kernel_rfl) hm ?_)
    have cc5 := (hcc.keeps hup).keeps (kAll k₅)
    refine callB1 (kHas k₅ H₄) e' (by kernel_rfl) (gl_len w) (bl_len w) (nmC e' (by kernel_rfl) (by kernel_rfl) cc5 (opLen (by simp; omega) fun s₆ t₆ k₆ => ?_))
    refine wpAny_BinOp (callB1 (kHas k₆ (kHas k₅ H₄)) e' (by kernel_rfl) (gl_len w) (bl_len w) (nmC e' (by kernel_rfl) (by kernel_rfl) (cc5.keeps (kAll k₆)) (opLen (by simp; omega) fun s₇ t₇ k₇ => cInt fun s₈ t₈ k₈ => opAdd fun s₉ t₉ k₉ => ?_)))
    rw [hcl]
    have kk := kTrans (kTrans (kTrans (kTrans k₅ k₆) k₇) k₈) k₉
    refine ⟨l, t, n, t₆, n + 1, t₉, rfl, rfl, by push_cast; rfl, by omega, fun s₁₀ t₁₀ k₁₀ => ⟨t₁₀, rfl, ((hcs.keeps hup).keeps (kAll kk)).keeps (kAll k₁₀), ((hd3.keeps hup).keeps (kAll kk)).keeps (kAll k₁₀), fun D s' ys k' hD hlD hys => ?_⟩⟩
    refine opJoin hlD hys ?_ fun t' s'' k'' => ?_
    · have : ∀ m : List Nat, ((m.map (sp (tabOf k))).map List.length).sum ≤ 6 * m.length := fun m => by
        induction m with
        | nil => simp
        | cons c r ih => simp only [List.map_cons, List.sum_cons, List.length_cons]; have := sp_len6 k c; omega
      have := this ((l.take (n + 1)).drop n); omega
    · exact ⟨⟨l, t, t', hmem, rfl, by unfold nextSp; rw [List.flatMap_def]⟩, kTrans (kTrans (kTrans kk k₁₀) k') k''⟩
  · rintro D s₅ ys us R₅ up₅ hD hlD hlen' hP hF
    have hT : Txts ys.toList ((x :: ls).map (nextSp k n)) := by
      refine txts_comp (by simp; omega) hlen' hP hF ?_
      rintro j v y hPj ⟨l, t, u, _, rfl, rfl⟩
      obtain ⟨l', t', hl', e'⟩ := txts_at hv (i := j) (by simpa using hPj)
      have := S_inj.mp (Value.str.inj e').1
      subst this
      exact ⟨_, u, by rw [List.getElem?_map, hl']; rfl, rfl⟩
    have hl5 : s₅.heap.IsList D ys.toList.toArray := hlD
    have hcc5 := R₅.cell "common" (L + 1 + 1) (by kernel_rfl); rw [if_pos rfl] at hcc5
    have hcs5 := R₅.cell "spelled" (L + 1) (by kernel_rfl); rw [if_neg (by decide), h2] at hcs5
    refine wpAny_execs_cons (wpAny_Return_some (wpAny_BinOp (callJoin rfl (by kernel_rfl) fun s₆ t₆ k₆ => ?_)))
    have hsigx : ∀ c ∈ x.take n, c ∈ signs := fun c hc => hsig x (.head _) c (List.mem_of_mem_take hc)
    refine spellComp (k := k) (a := d) (c := L + 1) (x.take n) e (by unfold closureFor cellOf; simp only [e.cells]; rfl) rfl rfl (by kernel_rfl) rfl (by omega) hsigx ?_
    refine nmC e (by kernel_rfl) rfl (hcc5.keeps (kAll k₆)) ⟨t₂, rfl, hcs5.keeps (kAll k₆), (hd.keeps (kp R₅)).keeps (kAll k₆), fun D' s₇ zs k₇ hD' hlD' hzs => ?_⟩
    refine opJoin hlD' hzs ?_ fun t₈ s₈ k₈ => ?_
    · have : ∀ m : List Nat, ((m.map (sp (tabOf k))).map List.length).sum ≤ 6 * m.length := fun m => by
        induction m with
        | nil => simp
        | cons c r ih => simp only [List.map_cons, List.sum_cons, List.length_cons]; have := sp_len6 k c; omega
      have := this (x.take n); omega
    have R₈ := ((R₅.keeps k₆).keeps k₇).keeps k₈
    have hns : ∀ l ∈ x :: ls, (nextSp k n l).length ≤ 6 := fun l _ => by
      unfold nextSp
      have : ((l.take (n + 1)).drop n).length ≤ 1 := by simp; omega
      match h : (l.take (n + 1)).drop n, this with
      | [], _ => simp
      | [c], _ => simp; exact sp_len6 k c
    refine callF1 R₈.has e (by kernel_rfl) (gl_columns w) (fnColumns w) (nmL R₈.ns e (by kernel_rfl) rfl ⟨R₈.has, useSpec (columns_spec w R₈.has (x := nextSp k n x) (ls := ls.map (nextSp k n)) (isListK (kTrans (kTrans k₆ k₇) k₈) hl5) hT (by simpa using hlen) ?_ ?_) rfl (by decide) (by decide) ?_⟩)
    · intro l hl'
      rw [← List.map_cons] at hl'
      obtain ⟨l₀, h₀, rfl⟩ := List.mem_map.mp hl'
      exact Nat.le_trans (hns l₀ h₀) (by decide)
    · intro l hl'
      rw [← List.map_cons] at hl'
      obtain ⟨l₀, h₀, rfl⟩ := List.mem_map.mp hl'
      intro c hc
      unfold nextSp at hc
      obtain ⟨c₀, h1, h2⟩ := List.mem_flatMap.mp hc
      exact sp_asc k c₀ (hsig l₀ h₀ c₀ (List.mem_of_mem_take (List.mem_of_mem_drop h1))) c h2
    rintro v s₉ k₉ ⟨m', t₉, rfl, hm1, hm2⟩
    refine opAddS ?_ ?_ fun s₁₀ t₁₀ k₁₀ => ?_
    · have : ∀ m : List Nat, (m.map (sp (tabOf k))).flatten.length ≤ 6 * m.length := fun m => by
        induction m with
        | nil => simp
        | cons c r ih => simp only [List.map_cons, List.flatten_cons, List.length_append, List.length_cons]; have := sp_len6 k c; omega
      have := this (x.take n); omega
    · have := hns x (.head _)
      simp; omega
    exact fin _ _ ⟨_, rfl, ((R₈.keeps k₉).keeps k₁₀).done hL, n, m', t₁₀, ⟨hn1, hn2⟩, ⟨hm1, hm2⟩, by rw [List.flatMap_def]⟩
end Mine
end

section
open PySem PySem.W PyProof.Rows
set_option maxRecDepth 100000
namespace Mine
theorem app_lt (x u v : List Nat) : x ++ u < x ++ v ↔ u < v := by
  induction x with
  | nil => rfl
  | cons a x ih => rw [List.cons_append, List.cons_append, List.cons_lt_cons_iff]; simp [ih]
theorem npre_lt : ∀ (x y u v : List Nat), ¬ x <+: y → ¬ y <+: x → (x ++ u < y ++ v ↔ x < y)
  | [], y, _, _, h, _ => absurd (List.nil_prefix) h
  | _ :: _, [], _, _, _, h => absurd (List.nil_prefix) h
  | a :: x, b :: y, u, v, h1, h2 => by
    rw [List.cons_append, List.cons_append, List.cons_lt_cons_iff, List.cons_lt_cons_iff]
    by_cases e : a = b
    · subst e
      have ih := npre_lt x y u v (fun q => h1 (List.cons_prefix_cons.mpr ⟨rfl, q⟩)) (fun q => h2 (List.cons_prefix_cons.mpr ⟨rfl, q⟩))
      simp [ih]
    · simp [e]
/-- no sign's spelling begins another's -/
theorem sp_npre (k : Nat) {c d : Nat} (hc : c ∈ signs) (hd : d ∈ signs) (h : c ≠ d) : ¬ sp (tabOf k) c <+: sp (tabOf k) d := by
  have key : ∀ k < 5, ∀ c ∈ signs, ∀ d ∈ signs, c ≠ d → (sp (tabOf k) c).isPrefixOf (sp (tabOf k) d) = false := by decide +kernel
  have key' : (sp (tabOf k) c).isPrefixOf (sp (tabOf k) d) = false := by
    by_cases hk : k < 5
    · exact key k hk c hc d hd h
    · have e : tabOf k = tabOf 4 := by
        match k, hk with
        | 0, h => exact absurd h (by omega)
        | 1, h => exact absurd h (by omega)
        | 2, h => exact absurd h (by omega)
        | 3, h => exact absurd h (by omega)
        | k + 4, _ => rfl
      rw [e]; exact key 4 (by omega) c hc d hd h
  intro q
  rw [← List.isPrefixOf_iff_prefix, key'] at q
  cases q
theorem sp_ne (k c : Nat) : sp (tabOf k) c ≠ [] := by
  have : ∀ tab : List (Nat × List Nat), (tab.all fun p => !p.2.isEmpty) = true → sp tab c ≠ [] := fun tab h => by
    unfold sp
    induction tab with
    | nil => simp
    | cons p r ih =>
      rw [List.all_cons, Bool.and_eq_true] at h
      rw [List.lookup_cons]
      cases hb : (c == p.1) with
      | true => simpa using h.1
      | false => exact ih h.2
  refine this _ ?_
  match k with
  | 0 => rfl
  | 1 => rfl
  | 2 => rfl
  | 3 => rfl
  | k + 4 => rfl
/-- the order of the rows is the order of the writings -/
theorem rows_lt (k : Nat) : ∀ a b : List Nat, (∀ c ∈ a, c ∈ signs) → (∀ c ∈ b, c ∈ signs) → (a.map (sp (tabOf k)) < b.map (sp (tabOf k)) ↔ esc k a < esc k b)
  | [], [], _, _ => by simp [esc]
  | [], d :: b, _, _ => by
    have : esc k (d :: b) = sp (tabOf k) d ++ esc k b := by simp [esc]
    rw [this]
    have hne := sp_ne k d
    cases h : sp (tabOf k) d with
    | nil => exact absurd h hne
    | cons x r => simp [esc]
  | c :: a, [], _, _ => by simp [esc]
  | c :: a, d :: b, ha, hb => by
    have ec : esc k (c :: a) = sp (tabOf k) c ++ esc k a := by simp [esc]
    have ed : esc k (d :: b) = sp (tabOf k) d ++ esc k b := by simp [esc]
    have ih := rows_lt k a b (fun x hx => ha x (.tail _ hx)) (fun x hx => hb x (.tail _ hx))
    rw [ec, ed, List.map_cons, List.map_cons, List.cons_lt_cons_iff]
    by_cases h : c = d
    · subst h
      rw [app_lt]
      simp [ih, List.lt_irrefl]
    · have h1 := sp_npre k (ha c (.head _)) (hb d (.head _)) h
      have h2 := sp_npre k (hb d (.head _)) (ha c (.head _)) (Ne.symm h)
      rw [npre_lt _ _ _ _ h1 h2]
      have : sp (tabOf k) c ≠ sp (tabOf k) d := fun q => h1 (q ▸ List.prefix_refl _)
      simp [this]
/-- two writings are alike just where the texts are -/
theorem esc_inj (k : Nat) : ∀ a b : List Nat, (∀ c ∈ a, c ∈ signs) → (∀ c ∈ b, c ∈ signs) → esc k a = esc k b → a = b
  | [], [], _, _, _ => rfl
  | [], d :: b, _, _, h => by
    have : esc k (d :: b) = sp (tabOf k) d ++ esc k b := by simp [esc]
    rw [this] at h
    have hne := sp_ne k d
    have : sp (tabOf k) d = [] := by
      have h' : ([] : List Nat) = sp (tabOf k) d ++ esc k b := h
      exact (List.append_eq_nil_iff.mp h'.symm).1
    exact absurd this hne
  | c :: a, [], _, _, h => by
    have : esc k (c :: a) = sp (tabOf k) c ++ esc k a := by simp [esc]
    rw [this] at h
    exact absurd (List.append_eq_nil_iff.mp h).1 (sp_ne k c)
  | c :: a, d :: b, ha, hb, h => by
    have ec : esc k (c :: a) = sp (tabOf k) c ++ esc k a := by simp [esc]
    have ed : esc k (d :: b) = sp (tabOf k) d ++ esc k b := by simp [esc]
    rw [ec, ed] at h
    by_cases e : c = d
    · subst e
      rw [esc_inj k a b (fun x hx => ha x (.tail _ hx)) (fun x hx => hb x (.tail _ hx)) (List.append_cancel_left h)]
    · exfalso
      have h1 := sp_npre k (ha c (.head _)) (hb d (.head _)) e
      have h2 := sp_npre k (hb d (.head _)) (ha c (.head _)) (Ne.symm e)
      rcases List.prefix_or_prefix_of_prefix (List.prefix_append (sp (tabOf k) c) (esc k a)) (h ▸ List.prefix_append (sp (tabOf k) d) (esc k b)) with q | q
      · exact h1 q
      · exact h2 q
end Mine
end

section
open PySem PySem.W PyProof.Rows
set_option maxRecDepth 100000
namespace Mine
/-- p is what all begin with in common, and no more -/
structure LCP (p : List Nat) (L : List (List Nat)) : Prop where
  pre : ∀ l ∈ L, p <+: l
  max : ∀ q, (∀ l ∈ L, q <+: l) → q.length ≤ p.length
theorem LCP.uniq {p q : List Nat} {x : List Nat} {L : List (List Nat)} (h : LCP p (x :: L)) (h' : LCP q (x :: L)) : p = q := by
  have e : p.length = q.length := Nat.le_antisymm (h'.max p h.pre) (h.max q h'.pre)
  rw [List.prefix_iff_eq_take.mp (h.pre x (.head _)), List.prefix_iff_eq_take.mp (h'.pre x (.head _)), e]
theorem LCP.of_col {x : List Nat} {ls : List (List Nat)} {n : Nat} (h : colK x ls n) : LCP (x.take n) (x :: ls) := by
  refine ⟨fun l hl => ?_, fun q hq => ?_⟩
  · rw [← (h.1 l hl).2]; exact List.take_prefix _ _
  · have hn : n ≤ x.length := (h.1 x (.head _)).1
    rw [List.length_take, Nat.min_eq_left hn]
    refine Nat.le_of_not_lt fun hlt => h.2 fun l hl => ?_
    have hx := List.prefix_iff_eq_take.mp (hq x (.head _))
    have hl' := List.prefix_iff_eq_take.mp (hq l hl)
    have h1 := (hq l hl).length_le
    refine ⟨by omega, ?_⟩
    have e : l.take q.length = x.take q.length := by rw [← hl', ← hx]
    have := congrArg (List.take (n + 1)) e
    rwa [List.take_take, List.take_take, Nat.min_eq_left (by omega)] at this
theorem lcp_pre : ∀ x y : List Nat, lcp x y <+: x ∧ lcp x y <+: y
  | [], y => by cases y <;> simp [lcp]
  | a :: x, [] => by simp [lcp]
  | a :: x, b :: y => by
    unfold lcp
    by_cases h : a = b
    · subst h
      simp only [if_true]
      have := lcp_pre x y
      exact ⟨List.cons_prefix_cons.mpr ⟨rfl, this.1⟩, List.cons_prefix_cons.mpr ⟨rfl, this.2⟩⟩
    · rw [if_neg h]; exact ⟨List.nil_prefix, List.nil_prefix⟩
theorem lcp_max : ∀ (p x y : List Nat), p <+: x → p <+: y → p <+: lcp x y
  | [], _, _, _, _ => List.nil_prefix
  | c :: p, [], _, h, _ => by simp at h
  | c :: p, _ :: _, [], _, h => by simp at h
  | c :: p, a :: x, b :: y, h1, h2 => by
    obtain ⟨e1, h3⟩ := List.cons_prefix_cons.mp h1
    obtain ⟨e2, h4⟩ := List.cons_prefix_cons.mp h2
    unfold lcp
    rw [if_pos (e1.symm.trans e2), ← e1]
    exact List.cons_prefix_cons.mpr ⟨rfl, lcp_max p x y h3 h4⟩
theorem LCP.one (x : List Nat) : LCP x [x] := ⟨fun l hl => by rw [List.mem_singleton.mp hl]; exact List.prefix_refl _, fun q hq => (hq x (.head _)).length_le⟩
/-- one more text -/
theorem LCP.snoc {p : List Nat} {L : List (List Nat)} (h : LCP p L) {y x : List Nat} (hx : x ∈ L) : LCP (lcp p y) (L ++ [y]) := by
  refine ⟨fun l hl => ?_, fun q hq => ?_⟩
  · rcases List.mem_append.mp hl with hl | hl
    · exact (lcp_pre p y).1.trans (h.pre l hl)
    · rw [List.mem_singleton.mp hl]; exact (lcp_pre p y).2
  · have hqL := fun l hl => hq l (List.mem_append_left _ hl)
    have hy := hq y (List.mem_append_right _ (List.mem_singleton.mpr rfl))
    have hle := h.max q hqL
    have hqp : q <+: p := List.prefix_of_prefix_length_le (hqL x hx) (h.pre x hx) hle
    exact (lcp_max q p y hqp hy).length_le
theorem esc_app (k : Nat) (a b : List Nat) : esc k (a ++ b) = esc k a ++ esc k b := by simp [esc]
/-- what the writings begin with in common -/
theorem LCP.esc {k n m : Nat} {x : List Nat} {ls : List (List Nat)} (hsig : ∀ l ∈ x :: ls, ∀ c ∈ l, c ∈ signs) (h : colK x ls n) (h' : colK (nextSp k n x) (ls.map (nextSp k n)) m) :
    LCP ((x.take n).flatMap (sp (tabOf k)) ++ (nextSp k n x).take m) ((x :: ls).map (esc k)) := by
  have c' := LCP.of_col h'
  have dec : ∀ l ∈ x :: ls, Mine.esc k l = (x.take n).flatMap (sp (tabOf k)) ++ Mine.esc k (l.drop n) := fun l hl => by
    conv => lhs; rw [← List.take_append_drop n l, esc_app]
    rw [(h.1 l hl).2]; rfl
  have nx : ∀ l ∈ x :: ls, nextSp k n l <+: Mine.esc k (l.drop n) := fun l hl => by
    unfold nextSp Mine.esc
    rw [List.drop_take]
    conv => rhs; rw [← List.take_append_drop (n + 1 - n) (l.drop n), List.flatMap_append]
    exact List.prefix_append _ _
  refine ⟨fun w hw => ?_, fun q hq => ?_⟩
  · obtain ⟨l, hl, rfl⟩ := List.mem_map.mp hw
    rw [dec l hl]
    refine List.prefix_append_right_inj _ |>.mpr ((c'.pre _ ?_).trans (nx l hl))
    rw [← List.map_cons]; exact List.mem_map_of_mem hl
  · refine Nat.le_of_not_lt fun hlt => ?_
    have hpre : (x.take n).flatMap (sp (tabOf k)) <+: q := List.prefix_of_prefix_length_le (by rw [dec x (.head _)]; exact List.prefix_append _ _) (hq _ (List.mem_map_of_mem (.head _))) (by
      rw [List.length_append] at hlt; omega)
    obtain ⟨r, rfl⟩ := hpre
    have hr : ∀ l ∈ x :: ls, r <+: Mine.esc k (l.drop n) := fun l hl => by
      have := hq _ (List.mem_map_of_mem (f := Mine.esc k) hl)
      rw [dec l hl] at this
      exact (List.prefix_append_right_inj _).mp this
    have hrl : ((nextSp k n x).take m).length < r.length := by simpa using hlt
    have hrn : ∀ l ∈ x :: ls, r <+: nextSp k n l := by
      intro l hl
      by_cases hd : l.drop n = []
      · have : r = [] := by have := hr l hl; rw [hd] at this; exact List.prefix_nil.mp this
        rw [this] at hrl; simp at hrl
      · obtain ⟨c, t, hct⟩ := List.exists_cons_of_ne_nil hd
        -- another text goes on by another sign, or ends
        have hother : ∃ l' ∈ x :: ls, ∀ c' t', l'.drop n = c' :: t' → c' ≠ c := by
          refine Classical.byContradiction fun hno => h.2 fun l' hl' => ?_
          have hall : ∀ l' ∈ x :: ls, ∃ t', l'.drop n = c :: t' := fun l' hl' => by
            refine Classical.byContradiction fun hn => hno ⟨l', hl', fun c' t' e q => hn ⟨t', by rw [e, q]⟩⟩
          obtain ⟨t', ht'⟩ := hall l' hl'
          obtain ⟨t'', ht''⟩ := hall x (.head _)
          have g1 : l'[n]? = some c := by have := congrArg List.head? ht'; rw [List.head?_drop] at this; simpa using this
          have g2 : x[n]? = some c := by have := congrArg List.head? ht''; rw [List.head?_drop] at this; simpa using this
          exact ⟨(List.getElem?_eq_some_iff.mp g1).1, by rw [List.take_add_one, List.take_add_one, (h.1 l' hl').2, g1, g2]⟩
        obtain ⟨l', hl', hdiff⟩ := hother
        have e1 : Mine.esc k (l.drop n) = sp (tabOf k) c ++ Mine.esc k t := by rw [hct]; simp [Mine.esc]
        have e2 : nextSp k n l = sp (tabOf k) c := by unfold nextSp; rw [List.drop_take, hct, show n + 1 - n = 1 by omega]; simp
        rw [e2]
        have hrc := hr l hl
        rw [e1] at hrc
        rcases List.prefix_or_prefix_of_prefix hrc (List.prefix_append (sp (tabOf k) c) (Mine.esc k t)) with q | q
        · exact q
        · exfalso
          by_cases hd' : l'.drop n = []
          · have : r = [] := by have := hr l' hl'; rw [hd'] at this; exact List.prefix_nil.mp this
            rw [this] at hrl; simp at hrl
          · obtain ⟨c2, t2, hct2⟩ := List.exists_cons_of_ne_nil hd'
            have hne := hdiff c2 t2 hct2
            have hr2 := hr l' hl'
            have e3 : Mine.esc k (l'.drop n) = sp (tabOf k) c2 ++ Mine.esc k t2 := by rw [hct2]; simp [Mine.esc]
            rw [e3] at hr2
            have hc : c ∈ signs := hsig l hl c (List.mem_of_mem_drop (by rw [hct]; exact .head _))
            have hc2 : c2 ∈ signs := hsig l' hl' c2 (List.mem_of_mem_drop (by rw [hct2]; exact .head _))
            rcases List.prefix_or_prefix_of_prefix (q.trans hr2) (List.prefix_append (sp (tabOf k) c2) (Mine.esc k t2)) with z | z
            · exact sp_npre k hc hc2 (Ne.symm hne) z
            · exact sp_npre k hc2 hc hne z
    have := c'.max r fun l hl => by
      rw [← List.map_cons] at hl
      obtain ⟨l₀, h₀, rfl⟩ := List.mem_map.mp hl
      exact hrn l₀ h₀
    omega
end Mine
end

section
open PySem PySem.W PyProof.Rows
set_option maxRecDepth 100000
namespace Mine
theorem mem_dd (x : List Nat) (l : List (List Nat)) : x ∈ dd l ↔ x ∈ l := by
  have : ∀ (l acc : List (List Nat)), x ∈ l.foldl addD acc ↔ x ∈ acc ∨ x ∈ l := fun l => by
    induction l with
    | nil => intro acc; simp
    | cons y r ih =>
      intro acc
      rw [List.foldl_cons, ih]
      unfold addD
      split
      · rename_i h
        have hy : y ∈ acc := by simpa using h
        constructor
        · rintro (q | q)
          · exact .inl q
          · exact .inr (.tail _ q)
        · rintro (q | q)
          · exact .inl q
          · rcases List.mem_cons.mp q with rfl | q
            · exact .inl hy
            · exact .inr q
      · simp [or_assoc]
  have := this l []
  simpa [dd] using this
theorem dd_app_len : ∀ (m l : List (List Nat)), m.Nodup → (dd (l ++ m)).length = (dd l).length + (m.filter fun x => !l.contains x).length
  | [], l, _ => by simp
  | x :: m, l, h => by
    have hx : x ∉ m := (List.nodup_cons.mp h).1
    have ih := dd_app_len m (l ++ [x]) (List.nodup_cons.mp h).2
    rw [show l ++ x :: m = (l ++ [x]) ++ m by simp, ih]
    have e1 : (m.filter fun y => !(l ++ [x]).contains y) = m.filter fun y => !l.contains y := by
      refine List.filter_congr fun y hy => ?_
      have : ¬ y = x := fun q => hx (q ▸ hy)
      simp [this]
    rw [e1, dd_snoc, List.filter_cons]
    unfold addD
    by_cases c : x ∈ l
    · have c' : x ∈ dd l := (mem_dd x l).mpr c
      simp [c, c']
    · have c' : x ∉ dd l := fun q => c ((mem_dd x l).mp q)
      simp [c, c']; omega
theorem begs1_nodup (l : List Nat) : (begs1 l).Nodup := by
  unfold begs1
  unfold List.Nodup
  rw [List.pairwise_map]
  refine List.Pairwise.imp_of_mem (fun {a b} ha hb hab => ?_) (List.nodup_range (n := l.length))
  intro q
  have h1 := List.mem_range.mp ha
  have h2 := List.mem_range.mp hb
  have := congrArg List.length q
  rw [List.length_take, List.length_take] at this
  exact hab (by omega)
theorem lex_mid : ∀ (q e p o : List Nat), ¬ p < e → ¬ o < p → q <+: e → q <+: o → q <+: p
  | [], _, _, _, _, _, _, _ => List.nil_prefix
  | c :: q, [], _, _, _, _, h, _ => by simp at h
  | c :: q, _ :: _, _, [], _, _, _, h => by simp at h
  | c :: q, a :: e, [], b :: o, h1, _, _, _ => absurd (List.nil_lt_cons a e) h1
  | c :: q, a :: e, d :: p, b :: o, h1, h2, h3, h4 => by
    obtain ⟨e1, g3⟩ := List.cons_prefix_cons.mp h3
    obtain ⟨e2, g4⟩ := List.cons_prefix_cons.mp h4
    subst e1 e2
    rw [List.cons_lt_cons_iff] at h1 h2
    have : c = d := by
      have a1 : ¬ d < c := fun z => h1 (.inl z)
      have a2 : ¬ c < d := fun z => h2 (.inl z)
      omega
    subst this
    exact List.cons_prefix_cons.mpr ⟨rfl, lex_mid q e p o (fun z => h1 (.inr ⟨rfl, z⟩)) (fun z => h2 (.inr ⟨rfl, z⟩)) g3 g4⟩
theorem mem_begs1 (q l : List Nat) : q ∈ begs1 l ↔ q ≠ [] ∧ q <+: l := by
  unfold begs1
  simp only [List.mem_map, List.mem_range]
  constructor
  · rintro ⟨k, hk, rfl⟩
    refine ⟨fun z => ?_, List.take_prefix _ _⟩
    have := congrArg List.length z
    rw [List.length_take, List.length_nil] at this; omega
  · rintro ⟨h0, h⟩
    have hl := h.length_le
    have hp : 0 < q.length := by cases q with | nil => exact absurd rfl h0 | cons _ _ => simp
    exact ⟨q.length - 1, by omega, by rw [show q.length - 1 + 1 = q.length by omega]; exact (List.prefix_iff_eq_take.mp h).symm⟩
theorem mem_begs (q : List Nat) (ls : List (List Nat)) : q ∈ begs ls ↔ q ≠ [] ∧ ∃ l ∈ ls, q <+: l := by
  unfold begs
  simp only [List.mem_flatMap, mem_begs1]
  constructor
  · rintro ⟨l, hl, h0, h⟩; exact ⟨h0, l, hl, h⟩
  · rintro ⟨h0, l, hl, h⟩; exact ⟨l, hl, h0, h⟩
theorem count_from (t : Nat) : ∀ n : Nat, ((List.range n).filter fun k => decide (t ≤ k)).length = n - t
  | 0 => by simp
  | n + 1 => by
    rw [List.range_succ, List.filter_append, List.length_append, count_from t n]
    by_cases h : t ≤ n
    · simp [h]; omega
    · simp [h]; omega
/-- one more text, behind all before it: so many new beginnings -/
theorem dd_next {pre : List (List Nat)} {prev one : List Nat} (hprev : prev ∈ pre ∨ (pre = [] ∧ prev = [])) (hs : ∀ e ∈ pre, ¬ prev < e) (ho : ¬ one < prev) :
    (dd (begs pre ++ begs1 one)).length = (dd (begs pre)).length + (one.length - (lcp prev one).length) := by
  rw [dd_app_len _ _ (begs1_nodup one)]
  congr 1
  have key : ∀ k, k < one.length → (one.take (k + 1) ∈ begs pre ↔ k < (lcp prev one).length) := fun k hk => by
    rw [mem_begs]
    have hne : one.take (k + 1) ≠ [] := fun z => by
      have := congrArg List.length z
      rw [List.length_take, List.length_nil] at this; omega
    have hlen : (one.take (k + 1)).length = k + 1 := by rw [List.length_take]; omega
    constructor
    · rintro ⟨_, e, he, hpe⟩
      have hp : one.take (k + 1) <+: prev := lex_mid _ e prev one (hs e he) ho hpe (List.take_prefix _ _)
      have := (lcp_max _ _ _ hp (List.take_prefix (k + 1) one)).length_le
      omega
    · intro hlt
      have h1 : one.take (k + 1) <+: lcp prev one := List.prefix_of_prefix_length_le (List.take_prefix _ _) (lcp_pre prev one).2 (by omega)
      refine ⟨hne, prev, ?_, h1.trans (lcp_pre prev one).1⟩
      rcases hprev with h | ⟨_, h⟩
      · exact h
      · subst h
        have : lcp [] one = [] := by cases one <;> rfl
        rw [this] at hlt; simp at hlt
  unfold begs1
  rw [List.filter_map, List.length_map, ← count_from]
  congr 1
  refine List.filter_congr fun k hk => ?_
  have := key k (List.mem_range.mp hk)
  simp only [Function.comp_apply]
  rw [Bool.eq_iff_iff]
  simp only [Bool.not_eq_true', decide_eq_true_eq]
  rw [← Bool.not_eq_true, List.contains_iff_mem, this]
  omega
end Mine
end

section
open PySem PySem.W PyProof.Rows
set_option maxRecDepth 100000
namespace Mine
theorem esc_cons (k c : Nat) (t : List Nat) : esc k (c :: t) = sp (tabOf k) c ++ esc k t := by simp [esc]
theorem esc_nil (k : Nat) : esc k [] = [] := rfl
/-- each nonempty beginning of a writing lies in one sign's spelling -/
theorem esc_split (k : Nat) : ∀ (l q : List Nat), q ≠ [] → q <+: esc k l → ∃ hd c t r, l = hd ++ c :: t ∧ q = esc k hd ++ r ∧ r ≠ [] ∧ r <+: sp (tabOf k) c
  | [], q, h0, h => absurd (List.prefix_nil.mp h) h0
  | c :: t, q, h0, h => by
    rw [esc_cons] at h
    rcases List.prefix_or_prefix_of_prefix h (List.prefix_append (sp (tabOf k) c) (esc k t)) with z | ⟨r, rfl⟩
    · exact ⟨[], c, t, q, rfl, rfl, h0, z⟩
    · by_cases hr : r = []
      · subst hr
        exact ⟨[], c, t, _, rfl, rfl, h0, by simp⟩
      · obtain ⟨hd, c', t', r', e1, e2, e3, e4⟩ := esc_split k t r hr ((List.prefix_append_right_inj _).mp h)
        exact ⟨c :: hd, c', t', r', by rw [e1]; rfl, by rw [esc_cons, e2, List.append_assoc], e3, e4⟩
theorem esc_back (k : Nat) {hd : List Nat} {c : Nat} {t r : List Nat} (hr : r <+: sp (tabOf k) c) : esc k hd ++ r <+: esc k (hd ++ c :: t) := by
  rw [esc_app, esc_cons]
  exact (List.prefix_append_right_inj _).mpr (hr.trans (List.prefix_append _ _))
theorem sp_same (k : Nat) {c d : Nat} (hc : c ∈ signs) (hd : d ∈ signs) (h : sp (tabOf k) c <+: sp (tabOf k) d) : c = d := Classical.byContradiction fun q => sp_npre k hc hd q h
theorem split_uniq (k : Nat) : ∀ (h1 h2 : List Nat) (c1 c2 : Nat) (q1 q2 : List Nat), (∀ x ∈ h1, x ∈ signs) → (∀ x ∈ h2, x ∈ signs) → c1 ∈ signs → c2 ∈ signs → q1 ≠ [] → q2 ≠ [] → q1 <+: sp (tabOf k) c1 → q2 <+: sp (tabOf k) c2 → esc k h1 ++ q1 = esc k h2 ++ q2 → h1 = h2 ∧ q1 = q2
  | [], [], _, _, q1, q2, _, _, _, _, _, _, _, _, e => ⟨rfl, e⟩
  | [], d :: h, c1, c2, q1, q2, _, s2, t1, _, _, n2, p1, _, e => by
    exfalso
    rw [esc_cons] at e
    have e' : q1 = sp (tabOf k) d ++ (esc k h ++ q2) := by simpa [esc_nil] using e
    have h1 : sp (tabOf k) d <+: sp (tabOf k) c1 := (by rw [e']; exact List.prefix_append _ _ : sp (tabOf k) d <+: q1).trans p1
    have := sp_same k (s2 d (.head _)) t1 h1
    subst this
    have hl := p1.length_le
    rw [e', List.length_append, List.length_append] at hl
    have : 0 < q2.length := by cases q2 with | nil => exact absurd rfl n2 | cons _ _ => simp
    omega
  | d :: h, [], c1, c2, q1, q2, s1, _, _, t2, n1, _, _, p2, e => by
    exfalso
    rw [esc_cons] at e
    have e' : q2 = sp (tabOf k) d ++ (esc k h ++ q1) := by simpa [esc_nil] using e.symm
    have h1 : sp (tabOf k) d <+: sp (tabOf k) c2 := (by rw [e']; exact List.prefix_append _ _ : sp (tabOf k) d <+: q2).trans p2
    have := sp_same k (s1 d (.head _)) t2 h1
    subst this
    have hl := p2.length_le
    rw [e', List.length_append, List.length_append] at hl
    have : 0 < q1.length := by cases q1 with | nil => exact absurd rfl n1 | cons _ _ => simp
    omega
  | a :: h1, b :: h2, c1, c2, q1, q2, s1, s2, t1, t2, n1, n2, p1, p2, e => by
    rw [esc_cons, esc_cons, List.append_assoc, List.append_assoc] at e
    have hab : a = b := by
      rcases List.prefix_or_prefix_of_prefix (List.prefix_append (sp (tabOf k) a) (esc k h1 ++ q1)) (e ▸ List.prefix_append (sp (tabOf k) b) (esc k h2 ++ q2)) with z | z
      · exact sp_same k (s1 a (.head _)) (s2 b (.head _)) z
      · exact (sp_same k (s2 b (.head _)) (s1 a (.head _)) z).symm
    subst hab
    have := split_uniq k h1 h2 c1 c2 q1 q2 (fun x hx => s1 x (.tail _ hx)) (fun x hx => s2 x (.tail _ hx)) t1 t2 n1 n2 p1 p2 (List.append_cancel_left e)
    exact ⟨by rw [this.1], this.2⟩
theorem dd_nodup (l : List (List Nat)) : (dd l).Nodup := by
  have : ∀ (l acc : List (List Nat)), acc.Nodup → (l.foldl addD acc).Nodup := fun l => by
    induction l with
    | nil => intro acc h; exact h
    | cons x r ih =>
      intro acc h
      refine ih _ ?_
      unfold addD
      split
      · exact h
      · rename_i c
        have c' : x ∉ acc := by simpa using c
        rw [List.nodup_append]
        refine ⟨h, by simp, fun a ha b hb => ?_⟩
        rw [List.mem_singleton.mp hb]
        exact fun q => c' (q ▸ ha)
  exact this l [] List.nodup_nil
/-- the spellings of the signs that come behind a beginning -/
def nexts (k : Nat) (ls : List (List Nat)) (hd : List Nat) : List (List Nat) := (ls.filter fun l => decide (l.take hd.length = hd) && decide (hd.length < l.length)).map fun l => sp (tabOf k) (l.getD hd.length 0)
theorem mem_nexts (k : Nat) (ls : List (List Nat)) (hd y : List Nat) : y ∈ nexts k ls hd ↔ ∃ c t, hd ++ c :: t ∈ ls ∧ y = sp (tabOf k) c := by
  unfold nexts
  simp only [List.mem_map, List.mem_filter, Bool.and_eq_true, decide_eq_true_eq]
  constructor
  · rintro ⟨l, ⟨hl, h1, h2⟩, rfl⟩
    refine ⟨l.getD hd.length 0, l.drop (hd.length + 1), ?_, rfl⟩
    have e : l = hd ++ (l.getD hd.length 0) :: l.drop (hd.length + 1) := by
      conv => lhs; rw [← List.take_append_drop hd.length l, h1, List.drop_eq_getElem_cons h2]
      simp [h2]
    rw [← e]; exact hl
  · rintro ⟨c, t, hl, rfl⟩
    exact ⟨_, ⟨hl, by simp, by simp⟩, by simp⟩
theorem perm_of_same {l m : List (List Nat)} (h1 : l.Nodup) (h2 : m.Nodup) (h : ∀ x, x ∈ l ↔ x ∈ m) : l.length = m.length := by
  have : ∀ {l m : List (List Nat)}, l.Nodup → (∀ x ∈ l, x ∈ m) → l.length ≤ m.length := fun {l m} hl hs => by
    induction l generalizing m with
    | nil => simp
    | cons a r ih =>
      obtain ⟨na, nr⟩ := List.nodup_cons.mp hl
      have ha := hs a (.head _)
      have := ih (m := m.erase a) nr fun x hx => (List.mem_erase_of_ne (fun (q : x = a) => na (q ▸ hx))).mpr (hs x (.tail _ hx))
      rw [List.length_erase_of_mem ha] at this
      have : 0 < m.length := List.length_pos_of_mem ha
      simp only [List.length_cons]; omega
  exact Nat.le_antisymm (this h1 fun x hx => (h x).mp hx) (this h2 fun x hx => (h x).mpr hx)
theorem nodup_flat {f : List Nat → List (List Nat)} : ∀ {L : List (List Nat)}, (∀ x ∈ L, (f x).Nodup) → L.Pairwise (fun a b => ∀ y ∈ f a, y ∉ f b) → (L.flatMap f).Nodup
  | [], _, _ => by simp
  | a :: L, h1, h2 => by
    obtain ⟨p1, p2⟩ := List.pairwise_cons.mp h2
    rw [List.flatMap_cons, List.nodup_append]
    refine ⟨h1 a (.head _), nodup_flat (fun x hx => h1 x (.tail _ hx)) p2, fun y hy z hz q => ?_⟩
    obtain ⟨b, hb, hz'⟩ := List.mem_flatMap.mp hz
    exact p1 b hb y hy (q ▸ hz')
/-- all beginnings of the writings, told by the beginnings of the texts -/
theorem begs_esc (k : Nat) (ls heads : List (List Nat)) (hsig : ∀ l ∈ ls, ∀ c ∈ l, c ∈ signs) (hn : heads.Nodup) (hh : ∀ hd, hd ∈ heads ↔ hd = [] ∨ hd ∈ begs ls) :
    (dd (begs (ls.map (esc k)))).length = (heads.map fun hd => (dd (begs (nexts k ls hd))).length).sum := by
  have e : (heads.map fun hd => (dd (begs (nexts k ls hd))).length).sum = (heads.flatMap fun hd => (dd (begs (nexts k ls hd))).map (esc k hd ++ ·)).length := by
    rw [List.length_flatMap]; congr 1; exact List.map_congr_left fun hd _ => by simp
  rw [e]
  have inU : ∀ hd q, q ∈ dd (begs (nexts k ls hd)) → q ≠ [] ∧ ∃ c t, hd ++ c :: t ∈ ls ∧ q <+: sp (tabOf k) c := fun hd q hq => by
    obtain ⟨h0, y, hy, hp⟩ := (mem_begs _ _).mp ((mem_dd _ _).mp hq)
    obtain ⟨c, t, hl, rfl⟩ := (mem_nexts k ls hd y).mp hy
    exact ⟨h0, c, t, hl, hp⟩
  refine perm_of_same (dd_nodup _) ?_ fun x => ?_
  · refine nodup_flat (fun hd hhd => ?_) ?_
    · unfold List.Nodup
      rw [List.pairwise_map]
      exact List.Pairwise.imp (fun {a b} hab q => hab (List.append_cancel_left q)) (dd_nodup _)
    · refine List.Pairwise.imp_of_mem (fun {a b} ha hb hab => ?_) hn
      intro y hy hy'
      obtain ⟨q1, hq1, rfl⟩ := List.mem_map.mp hy
      obtain ⟨q2, hq2, e2⟩ := List.mem_map.mp hy'
      obtain ⟨n1, c1, t1, l1, p1⟩ := inU a q1 hq1
      obtain ⟨n2, c2, t2, l2, p2⟩ := inU b q2 hq2
      have s1 := hsig _ l1
      have s2 := hsig _ l2
      exact hab (split_uniq k a b c1 c2 q1 q2 (fun x hx => s1 x (List.mem_append_left _ hx)) (fun x hx => s2 x (List.mem_append_left _ hx)) (s1 c1 (by simp)) (s2 c2 (by simp)) n1 n2 p1 p2 e2.symm).1
  · rw [mem_dd, mem_begs]
    simp only [List.mem_flatMap, List.mem_map]
    constructor
    · rintro ⟨h0, w, ⟨l, hl, rfl⟩, hp⟩
      obtain ⟨hd, c, t, r, e1, e2, e3, e4⟩ := esc_split k l x h0 hp
      refine ⟨hd, (hh hd).mpr ?_, r, (mem_dd _ _).mpr ((mem_begs _ _).mpr ⟨e3, _, (mem_nexts k ls hd _).mpr ⟨c, t, e1 ▸ hl, rfl⟩, e4⟩), e2.symm⟩
      by_cases q : hd = []
      · exact .inl q
      · exact .inr ((mem_begs _ _).mpr ⟨q, l, hl, by rw [e1]; exact List.prefix_append _ _⟩)
    · rintro ⟨hd, _, q, hq, rfl⟩
      obtain ⟨n, c, t, hl, hp⟩ := inU hd q hq
      refine ⟨fun z => n (List.append_eq_nil_iff.mp z).2, _, ⟨_, hl, rfl⟩, esc_back k hp⟩
end Mine
end

section
open PySem PySem.W PyProof.Rows
set_option maxRecDepth 100000
namespace Mine
/-- how many signs each has behind what it has in common with the one before -/
noncomputable def incs : List Nat → List (List Nat) → List Nat
  | _, [] => []
  | prev, one :: r => (one.length - (lcp prev one).length) :: incs one r
theorem begs_snoc (pre : List (List Nat)) (x : List Nat) : begs (pre ++ [x]) = begs pre ++ begs1 x := by unfold begs; simp
theorem incs_go : ∀ (rest pre : List (List Nat)) (prev : List Nat), (prev ∈ pre ∨ (pre = [] ∧ prev = [])) → (∀ e ∈ pre, ¬ prev < e) → (∀ o ∈ rest, ¬ o < prev) → rest.Pairwise (fun a b => ¬ b < a) →
    (incs prev rest).sum + (dd (begs pre)).length = (dd (begs (pre ++ rest))).length
  | [], pre, prev, _, _, _, _ => by simp [incs]
  | one :: r, pre, prev, h1, h2, h3, h4 => by
    obtain ⟨p1, p2⟩ := List.pairwise_cons.mp h4
    have ho := h3 one (.head _)
    have d := dd_next (pre := pre) (prev := prev) (one := one) h1 h2 ho
    have ih := incs_go r (pre ++ [one]) one (.inl (by simp)) (fun e he => by
      rcases List.mem_append.mp he with he | he
      · intro q
        have a1 : e ≤ prev := List.not_lt.mp (h2 e he)
        have a2 : prev ≤ one := List.not_lt.mp ho
        exact (List.not_lt.mpr (List.le_trans a1 a2)) q
      · rw [List.mem_singleton.mp he]; exact List.lt_irrefl _) p1 p2
    rw [begs_snoc, d] at ih
    rw [show pre ++ one :: r = pre ++ [one] ++ r by simp, ← ih]
    simp only [incs, List.sum_cons]
    omega
theorem incs_sum {told : List (List Nat)} (h : told.Pairwise (fun a b => ¬ b < a)) : (incs [] told).sum = (dd (begs told)).length := by
  have := incs_go told [] [] (.inr ⟨rfl, rfl⟩) (fun _ q => nomatch q) (fun o _ q => by simp at q) h
  have e : (dd (begs [])).length = 0 := rfl
  rw [e] at this
  simpa using this
theorem dd_perm {l m : List (List Nat)} (h : l.Perm m) : (dd (begs l)).length = (dd (begs m)).length := by
  refine perm_of_same (dd_nodup _) (dd_nodup _) fun x => ?_
  rw [mem_dd, mem_dd, mem_begs, mem_begs]
  constructor
  · rintro ⟨h0, y, hy, hp⟩; exact ⟨h0, y, h.mem_iff.mp hy, hp⟩
  · rintro ⟨h0, y, hy, hp⟩; exact ⟨h0, y, h.mem_iff.mpr hy, hp⟩
/-- two sorted lists of the same texts -/
theorem sorted_uniq : ∀ {l m : List (List Nat)}, l.Perm m → l.Pairwise (fun a b => ¬ b < a) → m.Pairwise (fun a b => ¬ b < a) → l = m
  | [], m, h, _, _ => (List.nil_perm.mp h).symm
  | a :: l, [], h, _, _ => absurd h.length_eq (by simp)
  | a :: l, b :: m, h, h1, h2 => by
    obtain ⟨p1, p2⟩ := List.pairwise_cons.mp h1
    obtain ⟨q1, q2⟩ := List.pairwise_cons.mp h2
    have hab : a = b := by
      have ha : a ∈ b :: m := h.mem_iff.mp (.head _)
      have hb : b ∈ a :: l := h.mem_iff.mpr (.head _)
      rcases List.mem_cons.mp ha with e | ha
      · exact e
      · rcases List.mem_cons.mp hb with e | hb
        · exact e.symm
        · exact List.le_antisymm (List.not_lt.mp (p1 b hb)) (List.not_lt.mp (q1 a ha))
    subst hab
    rw [sorted_uniq (List.perm_cons a |>.mp h) p2 q2]
/-- the last of a sorted list is one that none is above -/
theorem sorted_last {told : List (List Nat)} {x : List Nat} (h : told.Pairwise (fun a b => ¬ b < a)) (hx : x ∈ told) (hm : ∀ y ∈ told, ¬ x < y) (hne : told ≠ []) : told.getLast hne = x := by
  have h1 := hm _ (List.getLast_mem hne)
  have h2 : ¬ told.getLast hne < x := by
    obtain ⟨i, hi, e⟩ := List.getElem_of_mem hx
    rw [List.getLast_eq_getElem]
    rcases Nat.lt_or_ge i (told.length - 1) with q | q
    · have := List.pairwise_iff_getElem.mp h i (told.length - 1) hi (by omega) q
      rw [e] at this; exact this
    · have : i = told.length - 1 := by omega
      subst this
      rw [e]; exact List.lt_irrefl _
  exact List.le_antisymm (List.not_lt.mp h1) (List.not_lt.mp h2)
end Mine
end

section
open PySem PySem.W PyProof.Rows
set_option maxRecDepth 100000
namespace Mine
abbrev insO (k dx : Addr) (v : Value) : Obj := { cls := .ref k, dict := some dx, data := .plain, slots := #[some v] }
theorem tc_weight (a : Addr) (r : List Value) (kw : List (Str × Value)) : (Code.builtin "type.__call__" ⟨.ref a :: r, kw⟩).weight = 1 := by kernel_rfl
theorem tc_units (a : Addr) (r : List Value) (kw : List (Str × Value)) : (Code.builtin "type.__call__" ⟨.ref a :: r, kw⟩).cUnits = 1 := by kernel_rfl
set_option maxHeartbeats 1000000 in
theorem newK {w : World} {A : Around} {E : Value → Shared → Prop} {s : Shared} {k n md L1 bT : Addr} {kv : KV} {t' : Tok} {hs : Int} {t₁ : Tok} {hd : Int} {td tK : Tok} {v : Value} {Q : Value → Shared → Prop}
    (I : KIs w s.heap k n md L1 bT kv t' hs t₁ hd td tK) (H : Has w s.heap) (hA : A.handled = none) (hdp : A.depth ≤ 380) (hu : A.units ≤ 3800)
    (h : ∀ x dx s', s.heap.get? x = none → Keeps s s' → s'.heap.get? x = some (insO k dx v) → s'.heap.get? dx = some emptyDict → Q (.ref x) s') : wpAny (model pr w) A (call (.ref k) [v]) Q E s := by
  obtain ⟨K, X, KK⟩ := I.rows
  obtain ⟨hh, g, d, t, os⟩ := s
  refine wpAny_call (make_core (makes_of X KK.makes) (looks_findIn X KK.init) (fun self => bind_fn X self KK.tfi) (.inl rfl) ?_)
  refine code_weak (d := 390) (u := 3900) ?_ hA (by show A.depth + _ ≤ _; rw [tc_weight]; omega) (by show A.units + _ ≤ _; rw [tc_units]; omega)
  have fx : hh.get? (hh.objs.size + 1) = none := Heap.get?_none_of_le (Nat.le_succ _)
  have up : ∀ b o, hh.get? b = some o → ((hh.push emptyDict).push (instObj k hh.objs.size)).get? b = some o := fun b o e => Heap.get?_push_of_some _ (Heap.get?_push_of_some _ e)
  have hx : ((hh.push emptyDict).push (instObj k hh.objs.size)).get? (hh.objs.size + 1) = some (instObj k hh.objs.size) := by heap_get
  have hdx : ((hh.push emptyDict).push (instObj k hh.objs.size)).get? hh.objs.size = some emptyDict := Heap.get?_push_of_some _ (Heap.get?_push_at rfl rfl)
  have hsz : ((hh.push emptyDict).push (instObj k hh.objs.size)).objs.size = hh.objs.size + 2 := by rw [Heap.size_push, Heap.size_push]
  have fdx : hh.get? hh.objs.size = none := fresh_none hh
  generalize hxa : hh.objs.size + 1 = x at *
  generalize hdxa : hh.objs.size = dx at *
  generalize ((hh.push emptyDict).push (instObj k dx)) = h1 at *
  obtain ⟨c, ctv, hfo, hrec⟩ := I.fi.at'
  obtain ⟨oi, hoi, _⟩ := I.ti
  have H1 : Has w h1 := H.keeps up
  refine enterH [("self", .local), ("obj", .local)] [("self", .ref x), ("obj", v)] [] (s := ⟨h1, g, d, t, os⟩) H1 (show h1.get? kv.vi = fnOf w (kBody w)[2]? [] c ctv by rw [← hfo]; exact (up _ _ hoi).trans hoi.symm) rfl
    (show h1.CodeRec (.ref c) "cmp_to_key.<locals>.K.__init__" from hrec _ up) rfl rfl (by kernel_rfl) (by kernel_rfl) rfl rfl rfl rfl rfl (by decide) rfl rfl ?_
  intro L env s₁ e R hL _ hLs
  obtain ⟨h2, tk2, rfl⟩ := R.same
  have xL : x ≠ L := fun z => by rw [z] at hx; exact absurd (hx.symm.trans hL) (by intro q; cases q)
  have dL : dx ≠ L := fun z => by rw [z] at hdx; exact absurd (hdx.symm.trans hL) (by intro q; cases q)
  have kp : ∀ b o, h1.get? b = some o → h2.get? b = some o := fun b o q => R.keep b o (fun z => by rw [List.mem_singleton.mp z] at q; exact absurd (q.symm.trans hL) (by intro q; cases q)) q
  have X2 : K.In h2 := (X.keeps up).keeps kp
  refine wpAny_execs_cons (plainObj_wpAny_Assign_Attribute (nmL R.ns e (by kernel_rfl) rfl (nmL R.ns e (by kernel_rfl) rfl ?_)))
  have ix : InstAt h2 x (instObj k dx) k (some emptyDict) := ⟨kp _ _ hx, rfl, rfl, kp _ _ hdx⟩
  refine set_plain (s := ⟨h2, g, d, tk2, os⟩) (K := K) (od := some emptyDict) X2 ix KK.setattr ?_
  refine osa_descr (K := K) KF.slot_mset X2 ix KK.over KK.taker KK.tmd ?_
  refine slot_set (K := K) (h₀ := hh) (L := L) (m := fun n => List.lookup n [(Str.ofString "self", Value.ref x), (Str.ofString "obj", v)].reverse) (pre := []) (post := [(dx, emptyDict)]) (ox' := insO k dx v) ⟨R.ns, fun b o q => kp b o (up b o q), ?_⟩ ?_ X2 ix KK.slot (by decide) (fun _ q => nomatch q) ?_ rfl rfl fun h' F N => ?_
  · show hh.objs.size ≤ L
    rw [hLs, hdxa]
    show dx ≤ h1.objs.size
    rw [hsz]; omega
  · intro p hp
    simp only [List.nil_append, List.mem_cons, List.not_mem_nil, or_false] at hp
    rcases hp with rfl | rfl
    · exact ⟨kp _ _ hx, xL, fx⟩
    · exact ⟨kp _ _ hdx, dL, fdx⟩
  · intro p hp
    rw [List.mem_singleton.mp hp]
    show dx ≠ x
    omega
  · refine wpAny_execs_nil ⟨rfl, ?_⟩
    exact h x dx _ fx ⟨h', _, rfl, F.keep⟩ (N _ (.head _)).1 (N _ (.tail _ (.head _))).1
end Mine
end

section
open PySem PySem.W PyProof.Rows
set_option maxRecDepth 100000
namespace Mine
/-- an object of K that holds the text l -/
def KInst (h : Heap) (k : Addr) (x : Addr) (l : List Nat) : Prop := ∃ dx t, h.get? x = some (insO k dx (.str (S l) t)) ∧ h.get? dx = some emptyDict
theorem KInst.keeps {h h' : Heap} {k x : Addr} {l : List Nat} (i : KInst h k x l) (kk : ∀ b o, h.get? b = some o → h'.get? b = some o) : KInst h' k x l := let ⟨dx, t, a, b⟩ := i; ⟨dx, t, kk _ _ a, kk _ _ b⟩
section
variable {w : World} {A : Around} {E : Value → Shared → Prop} {s : Shared} {L : Addr} {m : Str → Option Value} {env : Env} {names : List (Str × NameKind)} {cells : List (Str × Addr)}
theorem callC2 {f : Str} {a c : Addr} {p pos : Pos} {e1 e2 : Expr} {Q : Value → Shared → Prop} (e : EnvIs env L names cells) (hn : names.lookup f = some .free) (hc : cells.lookup f = some c) (hv : s.heap.IsCell c (some (.ref a))) (hf : FnK w a)
    (h : wpAny (model pr w) A (eval e1 env) (fun v s₁ => wpAny (model pr w) A (eval e2 env) (fun v2 s₂ => Has w s₂.heap ∧ wpAny (model pr w) A (call (.ref a) [v, v2]) Q E s₂) E s₁) E s)
    (hs : backTo pos (starEach [e1, e2] env) = [(false, eval e1 env), (false, eval e2 env)] := by rfl) (hcd : (f == ("__classdict__" : Str)) = false := by decide) (hd : (f == ("__debug__" : Str)) = false := by decide) :
    wpAny (model pr w) A (eval (.Call (.Name f p) [e1, e2] [] pos) env) Q E s := by
  obtain ⟨⟨o, fd, ho, hfd⟩, h58, h122⟩ := hf
  show wpAny _ A (do callWith pos (← eval (.Name f p) env) [] (backTo pos (starEach [e1, e2] env)) (backToKw pos (keywordEach [] env))) Q E s
  refine wpAny_bind (nmF e hn hc hv ?_ hcd hd)
  rw [hs]
  exact Calls.callWith_function (o := o) (fd := fd) (Calls.evalArgs_plain (Calls.spliced_cons (wpAny_mono h (fun v s₁ h₁ => Calls.spliced_cons (wpAny_mono h₁ (fun v2 s₂ h₂ => Calls.spliced_nil ⟨⟨h₂.1.get ho h58 h122, hfd⟩, h₂.2⟩) fun _ _ e => e)) fun _ _ e => e)))
theorem attrK {K : Frag} {k md fi flt fgt x : Addr} {l : List Nat} {b : Bool} {Q : Value → Shared → Prop} (X : K.In s.heap) (KK : KR K k md fi flt fgt) (ix : KInst s.heap k x l) (h : ∀ t s', Keeps s s' → Q (.str (S l) t) s') :
    wpAny (model pr w) A (getAttr (.ref x) "obj" b) Q E s := by
  obtain ⟨dx, t, hx, hdx⟩ := ix
  have I : InstAt s.heap x (insO k dx (.str (S l) t)) k (some emptyDict) := ⟨hx, rfl, rfl, hdx⟩
  refine get_bind (K := K) X I KK.ga (KK.find _) KK.gattr (wpAny_call (slot_get (K := K) (s := { s with toks := s.toks + 1 }) X I KK.slot (v := .str (S l) t) rfl ?_))
  show wpAny _ _ (handedOut (.str (S l) t)) _ _ _
  exact wpAny_pure (h t _ (kTok _))
end
set_option maxHeartbeats 1000000 in
theorem ltFn {w : World} {s : Shared} {k n md L1 bT : Addr} {kv : KV} {t' : Tok} {hs : Int} {t₁ : Tok} {hd : Int} {td tK : Tok} {x y : Addr} {a b : List Nat}
    (I : KIs w s.heap k n md L1 bT kv t' hs t₁ hd td tK) (H : Has w s.heap) (ix : KInst s.heap k x a) (iy : KInst s.heap k y b) (ha : a.length ≤ 2 ^ 20) (hb : b.length ≤ 2 ^ 20) :
    codeAny (model pr w) (Aw 385 3850) (.call (.ref kv.vlt) ⟨[.ref x, .ref y], []⟩) (Post s fun v _ => v = .bool (decide (cmpI a b < 0))) s := by
  obtain ⟨K, X, KK⟩ := I.rows
  obtain ⟨c, ctv, hfo, hrec⟩ := I.flt.at'
  refine enterH [("self", .local), ("other", .local), ("mycmp", .free)] [("self", .ref x), ("other", .ref y)] [("mycmp", L1)] H hfo rfl (hrec _ fun _ _ q => q) rfl rfl (by kernel_rfl) (by kernel_rfl) rfl rfl rfl rfl rfl (by decide) rfl rfl ?_
  intro L env s₁ e R hL _ _
  have kp : ∀ b o, s.heap.get? b = some o → s₁.heap.get? b = some o := fun b o q => R.keep b o (fun z => by rw [List.mem_singleton.mp z, hL] at q; cases q) q
  refine wpAny_execs_cons (wpAny_Return_some (wpAny_Compare1 ?_))
  refine callC2 e (by kernel_rfl) (by kernel_rfl) (I.cell.keeps kp) (fnCompare w) (Attribute_name (nmL R.ns e (by kernel_rfl) rfl (attrK (X.keeps kp) KK (ix.keeps kp) fun t s₂ k₂ => ?_)))
  replace R := R.keeps k₂
  have kp2 : ∀ b o, s.heap.get? b = some o → s₂.heap.get? b = some o := fun b o q => kGet k₂ (kp b o q)
  refine Attribute_name (nmL R.ns e (by kernel_rfl) rfl (attrK (X.keeps kp2) KK (iy.keeps kp2) fun u s₃ k₃ => ?_))
  replace R := R.keeps k₃
  refine ⟨R.has, useSpec (compare_spec w R.has a b ha hb t u) rfl (by decide) (by decide) ?_⟩
  rintro v s₄ k₄ ⟨t₄, rfl⟩
  replace R := R.keeps k₄
  refine cInt fun s₅ t₅ k₅ => opLt ?_
  exact ⟨_, rfl, (R.keeps k₅).done hL, rfl⟩
theorem opGt {w : World} {A : Around} {E : Value → Shared → Prop} {s : Shared} {i j : Int} {t u : Tok} {Q : Value → Shared → Prop} (h : Q (.bool (decide (i > j))) s) : wpAny (model pr w) A (compareOp .Gt (.int i t) (.int j u)) Q E s := PyProof.Rows.gt_int h
set_option maxHeartbeats 1000000 in
theorem gtFn {w : World} {s : Shared} {k n md L1 bT : Addr} {kv : KV} {t' : Tok} {hs : Int} {t₁ : Tok} {hd : Int} {td tK : Tok} {x y : Addr} {a b : List Nat}
    (I : KIs w s.heap k n md L1 bT kv t' hs t₁ hd td tK) (H : Has w s.heap) (ix : KInst s.heap k x a) (iy : KInst s.heap k y b) (ha : a.length ≤ 2 ^ 20) (hb : b.length ≤ 2 ^ 20) :
    codeAny (model pr w) (Aw 385 3850) (.call (.ref kv.vgt) ⟨[.ref x, .ref y], []⟩) (Post s fun v _ => v = .bool (decide (cmpI a b > 0))) s := by
  obtain ⟨K, X, KK⟩ := I.rows
  obtain ⟨c, ctv, hfo, hrec⟩ := I.fgt.at'
  refine enterH [("self", .local), ("other", .local), ("mycmp", .free)] [("self", .ref x), ("other", .ref y)] [("mycmp", L1)] H hfo rfl (hrec _ fun _ _ q => q) rfl rfl (by kernel_rfl) (by kernel_rfl) rfl rfl rfl rfl rfl (by decide) rfl rfl ?_
  intro L env s₁ e R hL _ _
  have kp : ∀ b o, s.heap.get? b = some o → s₁.heap.get? b = some o := fun b o q => R.keep b o (fun z => by rw [List.mem_singleton.mp z, hL] at q; cases q) q
  refine wpAny_execs_cons (wpAny_Return_some (wpAny_Compare1 ?_))
  refine callC2 e (by kernel_rfl) (by kernel_rfl) (I.cell.keeps kp) (fnCompare w) (Attribute_name (nmL R.ns e (by kernel_rfl) rfl (attrK (X.keeps kp) KK (ix.keeps kp) fun t s₂ k₂ => ?_)))
  replace R := R.keeps k₂
  have kp2 : ∀ b o, s.heap.get? b = some o → s₂.heap.get? b = some o := fun b o q => kGet k₂ (kp b o q)
  refine Attribute_name (nmL R.ns e (by kernel_rfl) rfl (attrK (X.keeps kp2) KK (iy.keeps kp2) fun u s₃ k₃ => ?_))
  replace R := R.keeps k₃
  refine ⟨R.has, useSpec (compare_spec w R.has a b ha hb t u) rfl (by decide) (by decide) ?_⟩
  rintro v s₄ k₄ ⟨t₄, rfl⟩
  replace R := R.keeps k₄
  refine cInt fun s₅ t₅ k₅ => opGt ?_
  exact ⟨_, rfl, (R.keeps k₅).done hL, rfl⟩
end Mine
end

section
open PySem PySem.W PyProof.Rows
set_option maxRecDepth 100000
namespace Mine
/-- as enterH, for a lambda -/
theorem enterE {w : World} {s : Shared} {f d u : Nat} {args : List Value} {R : Result → Shared → Prop} {o : Obj} {fd : FuncData} {body : Expr} (names : List (Str × NameKind)) (binds : List (Str × Value)) (cs : List (Str × Addr))
    (H : Has w s.heap) (hf : s.heap.get? f = some o) (hdt : o.data = .func fd) (hcr : s.heap.CodeRec fd.code fd.qualname)
    (hbody : fd.body = .expr body) (hbind : bindArgs fd ⟨args, []⟩ = pure binds)
    (hcell : fd.scope.names.all (fun x => x.2 != .cell) = true) (hloc : binds.all (fun x => decide (fd.scope.names.lookup x.1 = some .local)) = true)
    (hk : fd.scope.kind = .function) (hg : fd.globals = 3) (hb : fd.builtins = 0) (hco : fd.scope.isCoroutine = false) (hgen : fd.scope.isGenerator = false) (hd : d < 1000) (hnames : fd.scope.names = names) (hclo : fd.closure = cs)
    (h : ∀ (Q : Value → Shared → Prop) L env s₁, (∀ v s', R (.ok (.ret v)) s' → Q v s') → EnvIs env L names cs → Reg w [L] s L (fun x => binds.reverse.lookup x) s₁ → s.heap.get? L = none →
      wpAny (model pr w) (Aw (d + 1) (u + 3)) (eval body env) Q (fun _ _ => False) s₁) :
    codeAny (model pr w) (Aw d u) (.call (.ref f) ⟨args, []⟩) R s := by
  refine kla_callFunE (show d < 1000 from hd) hf hdt hco hgen hbody hcr ?_
  rw [hbind]
  refine wpAny_pure (wpAny_newFunctionEnv ?_ ?_ (fun h₀ hns₀ hsb₀ => ⟨H.lim.fresh _ hsb₀, kla_codeExpr ?_⟩) hk)
  · intro x hx e; have := List.all_eq_true.mp hcell x hx; rw [e] at this; cases this
  · intro x hx; exact of_decide_eq_true (List.all_eq_true.mp hloc x hx)
  · have hL := fresh_none s.heap
    have hkeep : ∀ b o, s.heap.get? b = some o → h₀.get? b = some o := fun b o e => hsb₀.extBut b o (Nat.ne_of_lt (Heap.lt_size e)) (Heap.get?_push_of_some _ e)
    refine wpAny_mono (h (fun v s' => R (.ok (.ret v)) s') s.heap.objs.size (callEnv fd s.heap.objs.size f) _ (fun _ _ q => q) (by have := callEnv_is (L := s.heap.objs.size) (a := f) hk hg hb; rw [hnames, hclo] at this; exact this) ⟨⟨h₀, _, rfl⟩, hns₀, fun a o ha e => hkeep a o e, by simp, H, fun a ha => by rw [List.mem_singleton.mp ha]; exact H.free hL⟩ hL) (fun _ _ q => q) fun _ _ q => q.elim
section
variable {w : World} {A : Around} {E : Value → Shared → Prop} {s : Shared}
/-- two lists, one behind the other -/
theorem opAddL {l b : Addr} {vs us : List Value} {Q : Value → Shared → Prop} (hl : s.heap.IsList l vs.toArray) (hb : s.heap.IsList b us.toArray) (hsz : vs.length + us.length ≤ 2 ^ 20)
    (h : ∀ D s', Keeps s s' → s.heap.get? D = none → s'.heap.IsList D (vs ++ us).toArray → Q (.ref D) s') : wpAny (model pr w) A (binaryOp .Add (.ref l) (.ref b)) Q E s := by
  obtain ⟨⟨cls, dd, data, sl⟩, ho, hc, n, hd⟩ := id hl
  obtain ⟨⟨cls2, dd2, data2, sl2⟩, ho2, hc2, n2, hd2⟩ := id hb
  simp only at hc hd hc2 hd2
  subst hc hd hc2 hd2
  have e : vs.toArray ++ us.toArray = (vs ++ us).toArray := by simp
  refine concat_meets ⟨_, ho, rfl⟩ ⟨_, ho2, rfl⟩ noFill_list_add seq_list_add PySem.F.slot_list_add PySem.F.entry_list_add (PySem.F.args_list_add_2 _ _) (list_addW l b vs.toArray us.toArray n n2 dd dd2 sl sl2 (by simp; rw [sizeLine_eq]; omega)) ⟨ho, ho2, ?_⟩
  rw [e]
  exact h _ _ (kPushH _) (size_none _) ⟨_, Heap.get?_push_size _ rfl, rfl, _, rfl⟩
/-- the last of a list -/
theorem opLast {D : Addr} {us : List Value} {v : Value} {u : Tok} {value slice : Expr} {Q : Value → Shared → Prop} (hl : s.heap.IsList D (us ++ [v]).toArray) (hz : us.length ≤ 1000) (h : Q v s)
    (hs : subscripted slice false (.ref D) (.int (-1) u) = operate [.ref D, .int (-1) u] (getItem (.ref D) (.int (-1) u)) := by with_unfolding_all rfl) :
    wpAny (model pr w) A (PyProof.Rows.subscriptTail value slice (.ref D) (.int (-1) u)) Q E s := by
  refine subscriptTail_builtinR (x := v) hl.typeIs PySem.slot_list_getitem.lookup (wpAny_getItem_list_neg hl (by decide) (by simp; omega) (by decide) (x := v) ?_ ⟨rfl, h⟩) hs
  have : (-1 + (((us ++ [v]).toArray.size : Nat) : Int)).toNat = us.length := by simp; omega
  rw [this]; simp
theorem opLenL {D : Addr} {us : List Value} {Q : Value → Shared → Prop} (hD : s.heap.IsList D us.toArray) (hz : us.length ≤ 1000) (h : ∀ s' t, Keeps s s' → Q (.int us.length t) s') : wpAny (model pr w) A (call (.builtin "len") [.ref D]) Q E s := by
  refine PyProof.Rows.len_list (items := us.toArray) hD (by simp; omega) ?_
  have : (us.toArray.size : Int) = us.length := by simp
  rw [this]; exact h _ _ (kTok _)
theorem list1' {env : Env} {e1 : Expr} {pos : Pos} {Q : Value → Shared → Prop} (h : wpAny (model pr w) A (eval e1 env) (fun v s₁ => ∀ D s', Keeps s₁ s' → s₁.heap.get? D = none → s'.heap.IsList D [v].toArray → Q (.ref D) s') E s)
    (hs : backTo pos (starEach [e1] env) = [(false, eval e1 env)] := by rfl) : wpAny (model pr w) A (eval (.List [e1] pos) env) Q E s := by
  refine List_ ?_
  rw [hs]
  exact Calls.spliced_cons (wpAny_mono h (fun v s₁ h₁ => Calls.spliced_nil (mkList (by simp) fun D s' k hD hl _ => h₁ D s' k hD (PlainList.is hl))) fun _ _ e => e)
end
/-- the parameters of both lambdas -/
abbrev lamP (q1 q2 : Pos) : Arguments := { posonlyargs := [], args := [{ arg := "row", annotation := none, pos := q1 }, { arg := "one", annotation := none, pos := q2 }], vararg := none, kwonlyargs := [], kw_defaults := [], kwarg := none, defaults := [] }
abbrev lamB1 (p1 p2 p3 p4 p5 p6 p7 p8 p9 p10 : Pos) : Expr :=
  .BinOp (.Name "row" p1) .Add (.List [.Call (.Name "_law_shared" p2) [.Subscript (.Name "row" p3) (.UnaryOp .USub (.Constant (.int 1) 0 p4) p5) p6, .Name "one" p7] [] p8] p9) p10
abbrev lamS1 : Scope := { kind := .function, names := [("row", .local), ("one", .local), ("_law_shared", .globalImplicit)], isGenerator := false, isCoroutine := false, more := [] }
/-- the first lambda: behind the row, what its last has in common with the next -/
theorem lam1_spec (w : World) {s : Shared} (H : Has w s.heap) {f D c' : Addr} {nm qual : Str} {pm ctv : Value} {p1 p2 p3 p4 p5 p6 p7 p8 p9 p10 q1 q2 : Pos} {us : List Value} {rows : List (List Nat)} {x one : List Nat} {t : Tok}
    (hf : s.heap.get? f = some (kla_obj nm qual (lamP q1 q2) (lamB1 p1 p2 p3 p4 p5 p6 p7 p8 p9 p10) lamS1 [] pm c' ctv)) (hcr : s.heap.CodeRec (.ref c') qual)
    (hl : s.heap.IsList D us.toArray) (hu : Txts us (rows ++ [x])) (hsz : rows.length ≤ 100) (hx : x.length ≤ 2 ^ 20) (ho : one.length ≤ 2 ^ 20) :
    codeAny (model pr w) (Aw 385 3850) (.call (.ref f) ⟨[.ref D, .str (S one) t], []⟩) (Post s fun v s' => ∃ D' us', v = .ref D' ∧ s'.heap.IsList D' us'.toArray ∧ Txts us' (rows ++ [x] ++ [lcp x one])) s := by
  refine enterE [("row", .local), ("one", .local), ("_law_shared", .globalImplicit)] [("row", .ref D), ("one", .str (S one) t)] [] H hf rfl hcr rfl rfl rfl rfl rfl rfl rfl rfl rfl (by decide) rfl rfl ?_
  intro Q L env s₁ fin e R hL
  have kp : ∀ b o, s.heap.get? b = some o → s₁.heap.get? b = some o := fun b o q => R.keep b o (fun z => by rw [List.mem_singleton.mp z, hL] at q; cases q) q
  obtain ⟨us', tx, eus, hus'⟩ := txts_last hu (by simp)
  have ex : (rows ++ [x]).getLast?.getD [] = x := by simp
  rw [ex] at eus
  subst eus
  have hlu := txts_len hu
  simp at hlu
  have hl₁ : s₁.heap.IsList D (us' ++ [Value.str (S x) tx]).toArray := hl.at fun o q => kp D o q
  refine wpAny_BinOp (nmL R.ns e rfl rfl (list1' (callF2 R.has e rfl (gl_shared w) (fnShared w) (Subscript_ (nmL R.ns e rfl rfl (wpAny_UnaryOp (cInt fun s₂ t₂ k₂ => PyProof.Rows.neg_int (opLast (isListK (kTrans k₂ (kTok _)) hl₁) (by omega) ?_))))))))
  have k₃ : Keeps s₁ { s₂ with toks := s₂.toks + 1 } := kTrans k₂ (kTok _)
  have R₃ := R.keeps k₃
  refine nmL R₃.ns e rfl rfl ⟨R₃.has, useSpec (shared_spec w R₃.has x one hx ho tx t) rfl (by decide) (by decide) ?_⟩
  rintro v s₄ k₄ ⟨t', rfl⟩ D' s₅ k₅ fD' hD'
  have kk := kTrans (kTrans k₃ k₄) k₅
  refine opAddL (isListK kk hl₁) hD' (by simp; omega) fun D'' s₆ k₆ _ hD'' => ?_
  refine fin _ _ ⟨_, rfl, ((R.keeps kk).keeps k₆).done hL, D'', _, rfl, hD'', ?_⟩
  exact txts_app1 hu
abbrev lamB2 (p1 p2 p3 p4 p5 p6 p7 p8 p9 p10 p11 p12 p13 p14 p15 p16 p17 p18 p19 p20 : Pos) : Expr :=
  .BinOp (.Name "row" p1) .Add (.List [.BinOp (.Call (.Name "len" p2) [.Name "one" p3] [] p4) .Sub (.Call (.Name "len" p5) [.Call (.Name "_law_shared" p6) [.Subscript (.BinOp (.List [.Constant (.str "") 0 p7] p8) .Add (.Name "told" p9) p10) (.Call (.Name "len" p11) [.Name "row" p12] [] p13) p14, .Name "one" p15] [] p16] [] p17) p18] p19) p20
abbrev lamS2 : Scope := { kind := .function, names := [("row", .local), ("one", .local), ("told", .free), ("len", .globalImplicit), ("_law_shared", .globalImplicit)], isGenerator := false, isCoroutine := false, more := [] }
/-- the second lambda: behind the row, how many signs the next has behind what it has in common with the one before -/
theorem lam2_spec (w : World) {s : Shared} (H : Has w s.heap) {f D c' T cT : Addr} {nm qual : Str} {pm ctv : Value} {p1 p2 p3 p4 p5 p6 p7 p8 p9 p10 p11 p12 p13 p14 p15 p16 p17 p18 p19 p20 q1 q2 : Pos} {us vs : List Value} {told : List (List Nat)} {ns : List Int} {x one : List Nat} {t : Tok}
    (hf : s.heap.get? f = some (kla_obj nm qual (lamP q1 q2) (lamB2 p1 p2 p3 p4 p5 p6 p7 p8 p9 p10 p11 p12 p13 p14 p15 p16 p17 p18 p19 p20) lamS2 [("told", cT)] pm c' ctv)) (hcr : s.heap.CodeRec (.ref c') qual) (hcell : s.heap.IsCell cT (some (.ref T)))
    (hT : s.heap.IsList T vs.toArray) (hv : Txts vs told) (hl : s.heap.IsList D us.toArray) (hu : IntsAre us ns) (hi : ([] :: told)[ns.length]? = some x) (hsz : told.length ≤ 100) (hx : x.length ≤ 2 ^ 20) (ho : one.length ≤ 2 ^ 20) :
    codeAny (model pr w) (Aw 385 3850) (.call (.ref f) ⟨[.ref D, .str (S one) t], []⟩) (Post s fun v s' => ∃ D' us', v = .ref D' ∧ s'.heap.IsList D' us'.toArray ∧ IntsAre us' (ns ++ [(one.length : Int) - (lcp x one).length])) s := by
  refine enterE [("row", .local), ("one", .local), ("told", .free), ("len", .globalImplicit), ("_law_shared", .globalImplicit)] [("row", .ref D), ("one", .str (S one) t)] [("told", cT)] H hf rfl hcr rfl rfl rfl rfl rfl rfl rfl rfl rfl (by decide) rfl rfl ?_
  intro Q L env s₁ fin e R hL
  have kp : ∀ b o, s.heap.get? b = some o → s₁.heap.get? b = some o := fun b o q => R.keep b o (fun z => by rw [List.mem_singleton.mp z, hL] at q; cases q) q
  have hl₁ : s₁.heap.IsList D us.toArray := hl.at fun o q => kp D o q
  have hT₁ : s₁.heap.IsList T vs.toArray := hT.at fun o q => kp T o q
  have hc₁ := hcell.keeps kp
  have hns : ns.length < (([] : List Nat) :: told).length := (List.getElem?_eq_some_iff.mp hi).1
  simp only [List.length_cons] at hns
  have hlu := hu.length
  have hlv := txts_len hv
  refine wpAny_BinOp (nmL R.ns e rfl rfl (list1' (wpAny_BinOp (callB1 R.has e rfl (gl_len w) (bl_len w) (nmL R.ns e rfl rfl (opLen ho fun s₂ t₂ k₂ => ?_))))))
  have R₂ := R.keeps k₂
  refine callB1 R₂.has e rfl (gl_len w) (bl_len w) (callF2 R₂.has e rfl (gl_shared w) (fnShared w) (Subscript_ (wpAny_BinOp (list1' (cStr fun s₃ t₃ k₃ D₃ s₄ k₄ f₄ hD₄ => ?_)))))
  have k14 := kTrans (kTrans k₂ k₃) k₄
  refine nmF e rfl rfl (hc₁.keeps (kAll k14)) (opAddL hD₄ (isListK k14 hT₁) (by simp; omega) fun D₅ s₅ k₅ f₅ hD₅ => ?_)
  have k15 := kTrans k14 k₅
  refine callB1 (R.keeps k15).has e rfl (gl_len w) (bl_len w) (nmL (R.keeps k15).ns e rfl rfl ?_)
  refine opLenL (isListK k15 hl₁) (by omega) fun s₆ t₆ k₆ => ?_
  have k16 := kTrans k15 k₆
  rw [hlu]
  have hTx : Txts ([Value.str (Str.ofString "") t₃] ++ vs) ([] :: told) := .cons ⟨t₃, rfl⟩ hv
  obtain ⟨tx, hvx⟩ := txts_at' hTx hi
  refine item_listR (isListK k₆ hD₅) (by omega) (by omega) (x := .str (S x) tx) (by simpa using hvx) ?_
  refine nmL (R.keeps k16).ns e rfl rfl ⟨(R.keeps k16).has, useSpec (shared_spec w (R.keeps k16).has x one hx ho tx t) rfl (by decide) (by decide) ?_⟩
  rintro v s₇ k₇ ⟨t', rfl⟩
  have k17 := kTrans k16 k₇
  have hlc : (lcp x one).length ≤ one.length := (lcp_pre x one).2.length_le
  refine opLen (by omega) fun s₈ t₈ k₈ => opSub fun s₉ t₉ k₉ => ?_
  intro D' s₁₀ k₁₀ fD' hD'
  have k1 := kTrans (kTrans (kTrans k17 k₈) k₉) k₁₀
  refine opAddL (isListK k1 hl₁) hD' (by simp; omega) fun D'' s₁₁ k₁₁ _ hD'' => ?_
  refine fin _ _ ⟨_, rfl, ((R.keeps k1).keeps k₁₁).done hL, D'', _, rfl, hD'', ?_⟩
  exact hu.append (.cons _ t₉ .nil)
end Mine
end

section
open PySem PySem.W PyProof.Rows
set_option maxRecDepth 100000
namespace Mine
/-! ### the questions of a sort, answered by an order -/
noncomputable def kev {α : Type} (ans : Nat → Nat → Bool) : KasT α → α
  | .ret a => a
  | .ask i j k => kev ans (k (ans i j))
theorem kev_bind {α β : Type} {ans : Nat → Nat → Bool} {f : α → KasT β} : ∀ t : KasT α, kev ans (t.bind f) = kev ans (f (kev ans t))
  | .ret _ => rfl
  | .ask i j k => by show kev ans ((k (ans i j)).bind f) = _; rw [kev_bind]; rfl
theorem kev_ite {α : Type} {ans : Nat → Nat → Bool} {c : Prop} [Decidable c] {t u : KasT α} : kev ans (if c then t else u) = if c then kev ans t else kev ans u := by split <;> rfl
/-- every question on the way is about the numbers that are ok -/
noncomputable def kask {α : Type} (ans : Nat → Nat → Bool) (ok : Nat → Prop) : KasT α → Prop
  | .ret _ => True
  | .ask i j k => ok i ∧ ok j ∧ kask ans ok (k (ans i j))
theorem kasWp_of {α : Type} {cmp : Nat → Nat → (Bool → Shared → Prop) → Shared → Prop} {ans : Nat → Nat → Bool} {I : Shared → Prop} {ok : Nat → Prop}
    (hc : ∀ i j C s, ok i → ok j → I s → (∀ s', I s' → C (ans i j) s') → cmp i j C s) {Q : α → Shared → Prop} : ∀ (t : KasT α) (s : Shared), kask ans ok t → I s → (∀ s', I s' → Q (kev ans t) s') → t.kasWp cmp Q s
  | .ret a, s, _, hI, h => h s hI
  | .ask i j k, s, hk, hI, h => hc i j _ s hk.1 hk.2.1 hI fun s' hI' => kasWp_of hc (k (ans i j)) s' hk.2.2 hI' h
theorem kask_bind {α β : Type} {ans : Nat → Nat → Bool} {ok : Nat → Prop} {f : α → KasT β} : ∀ t : KasT α, kask ans ok t → kask ans ok (f (kev ans t)) → kask ans ok (t.bind f)
  | .ret _, _, h => h
  | .ask i j k, h, h' => ⟨h.1, h.2.1, kask_bind (k (ans i j)) h.2.2 h'⟩

structure Ord3 (ans : Nat → Nat → Bool) : Prop where
  refl : ∀ a, ans a a = false
  trans : ∀ a b c, ans b a = false → ans c b = false → ans c a = false
  asym : ∀ a b, ans a b = true → ans b a = false
section
variable {ans : Nat → Nat → Bool} (O : Ord3 ans) {n : Nat} {p : Array Nat}
abbrev G (p : Array Nat) (i : Nat) : Nat := p.getD i 0
def Up (ans : Nat → Nat → Bool) (p : Array Nat) (n : Nat) : Prop := ∀ i j, i ≤ j → j < n → ans (G p j) (G p i) = false
def Dn (ans : Nat → Nat → Bool) (p : Array Nat) (n : Nat) : Prop := ∀ i j, i ≤ j → j < n → ans (G p i) (G p j) = false
def InN (n : Nat) (p : Array Nat) : Prop := p.size = n ∧ p.toList.Perm (List.range n)
theorem InN.lt (h : InN n p) {i : Nat} (hi : i < n) : G p i < n := by
  have : G p i ∈ p.toList := by
    have hs : i < p.size := by rw [h.1]; exact hi
    have e : G p i = p[i] := by simp [G, Array.getD, hs]
    rw [e]; simp
  exact List.mem_range.mp (h.2.mem_iff.mp this)
theorem rev_size (i j : Nat) : (kas_rev p i j).size = p.size := mirror_size _ _ _ _
theorem InN.rev (h : InN n p) (i j : Nat) : InN n (kas_rev p i j) := ⟨by rw [rev_size]; exact h.1, (Array.perm_iff_toList_perm.mp (mirror_perm p i j _)).trans h.2⟩
theorem InN.bub (h : InN n p) (i j : Nat) : InN n (bubble p i j) := ⟨by rw [bubble_size]; exact h.1, (Array.perm_iff_toList_perm.mp (bubble_perm p i j)).trans h.2⟩
theorem G_eq (p : Array Nat) (i : Nat) : G p i = (p[i]?).getD 0 := by simp [G, Array.getD_eq_getD_getElem?]
theorem G_rev {i j : Nat} (hj : j ≤ p.size) (k : Nat) : G (kas_rev p i j) k = if i ≤ k ∧ k < j then G p (i + j - 1 - k) else G p k := by
  rw [G_eq, kas_rev, getElem?_mirror_all hj]
  split <;> rw [G_eq]
theorem G_bub {src d : Nat} (hs : src < p.size) (hd : d ≤ src) (k : Nat) : G (bubble p src d) k = if k = src - d then G p src else if src - d < k ∧ k ≤ src then G p (k - 1) else G p k := by
  rw [G_eq, getElem?_bubble hs d hd k]
  by_cases c1 : k = src - d
  · rw [if_pos c1, if_pos c1, G_eq]
  · rw [if_neg c1, if_neg c1]
    by_cases c2 : src - d < k ∧ k ≤ src
    · rw [if_pos c2, if_pos c2, G_eq]
    · rw [if_neg c2, if_neg c2, G_eq]
include O
theorem Up.next {m : Nat} (h : Up ans p m) (h1 : 1 ≤ m) (hc : ans (G p m) (G p (m - 1)) = false) : Up ans p (m + 1) := by
  intro i j hij hj
  rcases Nat.lt_or_ge j m with q | q
  · exact h i j hij q
  · have : j = m := by omega
    subst this
    rcases Nat.lt_or_ge i j with q | q
    · exact O.trans _ _ _ (h i (j - 1) (by omega) (by omega)) hc
    · have : i = j := by omega
      subst this; exact O.refl _
theorem Dn.next {m : Nat} (h : Dn ans p m) (h1 : 1 ≤ m) (hc : ans (G p (m - 1)) (G p m) = false) : Dn ans p (m + 1) := by
  intro i j hij hj
  rcases Nat.lt_or_ge j m with q | q
  · exact h i j hij q
  · have : j = m := by omega
    subst this
    rcases Nat.lt_or_ge i j with q | q
    · exact O.trans _ _ _ hc (h i (j - 1) (by omega) (by omega))
    · have : i = j := by omega
      subst this; exact O.refl _
theorem asc_ok : ∀ (f m : Nat), 1 ≤ m → m + f ≤ n → InN n p → Up ans p m → let r := kev ans (kas_asc p f m); m ≤ r ∧ r ≤ m + f ∧ Up ans p r ∧ kask ans (· < n) (kas_asc p f m)
  | 0, m, _, _, _, hu => ⟨Nat.le_refl _, Nat.le_refl _, hu, trivial⟩
  | f + 1, m, h1, hn, hp, hu => by
    cases hc : ans (G p m) (G p (m - 1)) with
    | true =>
      have e : kev ans (kas_asc p (f + 1) m) = m := by
        show kev ans (if ans (G p m) (G p (m - 1)) = true then KasT.ret m else kas_asc p f (m + 1)) = m
        rw [hc]; rfl
      show m ≤ kev ans _ ∧ kev ans _ ≤ _ ∧ Up ans p (kev ans _) ∧ _
      rw [e]
      refine ⟨Nat.le_refl _, by omega, hu, hp.lt (by omega), hp.lt (by omega), ?_⟩
      show kask ans _ (if ans (G p m) (G p (m - 1)) = true then KasT.ret m else kas_asc p f (m + 1))
      rw [hc]; trivial
    | false =>
      have e : kev ans (kas_asc p (f + 1) m) = kev ans (kas_asc p f (m + 1)) := by
        show kev ans (if ans (G p m) (G p (m - 1)) = true then KasT.ret m else kas_asc p f (m + 1)) = _
        rw [hc]; rfl
      have ih := asc_ok f (m + 1) (by omega) (by omega) hp (hu.next O h1 hc)
      show m ≤ kev ans _ ∧ kev ans _ ≤ _ ∧ Up ans p (kev ans _) ∧ _
      rw [e]
      refine ⟨by have := ih.1; omega, by have := ih.2.1; omega, ih.2.2.1, hp.lt (by omega), hp.lt (by omega), ?_⟩
      show kask ans _ (if ans (G p m) (G p (m - 1)) = true then KasT.ret m else kas_asc p f (m + 1))
      rw [hc]; exact ih.2.2.2
/-- the last q + 1 before m are alike -/
def Alike (ans : Nat → Nat → Bool) (p : Array Nat) (m q : Nat) : Prop := q + 1 ≤ m ∧ ∀ i j, m - (q + 1) ≤ i → i < m → m - (q + 1) ≤ j → j < m → ans (G p i) (G p j) = false
theorem Dn.rev {m q : Nat} (h : Dn ans p m) (ha : Alike ans p m q) (hm : m ≤ p.size) : Dn ans (kas_rev p (m - (q + 1)) m) m := by
  intro i j hij hj
  rw [G_rev hm, G_rev hm]
  have h1 := ha.1
  by_cases ci : m - (q + 1) ≤ i
  · rw [if_pos ⟨ci, by omega⟩, if_pos ⟨by omega, hj⟩]
    exact ha.2 _ _ (by omega) (by omega) (by omega) (by omega)
  · rw [if_neg (by omega)]
    by_cases cj : m - (q + 1) ≤ j
    · rw [if_pos ⟨cj, hj⟩]
      exact h _ _ (by omega) (by omega)
    · rw [if_neg (by omega)]; exact h i j hij hj
theorem desc_ok : ∀ (f : Nat) (p : Array Nat) (m q : Nat), 1 ≤ m → m + f ≤ n → InN n p → Dn ans p m → Alike ans p m q →
    let r := kev ans (kas_desc f p m q); m ≤ r.2.1 ∧ r.2.1 ≤ m + f ∧ InN n r.1 ∧ Dn ans r.1 r.2.1 ∧ Alike ans r.1 r.2.1 r.2.2 ∧ kask ans (· < n) (kas_desc f p m q)
  | 0, p, m, q, _, _, hp, hd, ha => ⟨Nat.le_refl _, Nat.le_refl _, hp, hd, ha, trivial⟩
  | f + 1, p, m, q, h1, hn, hp, hd, ha => by
    have hms : m ≤ p.size := by rw [hp.1]; omega
    have one : ∀ (p' : Array Nat) (m' : Nat), 1 ≤ m' → Alike ans p' m' 0 := fun p' m' hm' => ⟨hm', fun i j _ _ _ _ => by
      have : i = j := by omega
      subst this; exact O.refl _⟩
    have stepDn : ∀ p' : Array Nat, Dn ans p' m → G p' m = G p m → (ans (G p m) (G p' (m - 1)) = true ∨ ans (G p' (m - 1)) (G p m) = false) → Dn ans p' (m + 1) := fun p' hd' he hc => hd'.next O h1 (by
      rw [he]
      rcases hc with hc | hc
      · exact O.asym _ _ hc
      · exact hc)
    dsimp only
    cases hc : ans (G p m) (G p (m - 1)) with
    | true =>
      by_cases cq : q > 0
      · have hq1 := ha.1
        have hd' := hd.rev O ha hms
        have e1 : G (kas_rev p (m - (q + 1)) m) m = G p m := by rw [G_rev hms, if_neg (by omega)]
        have e2 : G (kas_rev p (m - (q + 1)) m) (m - 1) = G p (m - (q + 1)) := by rw [G_rev hms, if_pos ⟨by omega, by omega⟩]; congr 1; omega
        have hc' : ans (G p m) (G (kas_rev p (m - (q + 1)) m) (m - 1)) = true ∨ ans (G (kas_rev p (m - (q + 1)) m) (m - 1)) (G p m) = false := .inr (by
          rw [e2]
          exact O.trans _ _ _ (O.asym _ _ hc) (ha.2 _ _ (by omega) (by omega) (by omega) (by omega)))
        have ih := desc_ok f (kas_rev p (m - (q + 1)) m) (m + 1) 0 (by omega) (by omega) (hp.rev _ _) (stepDn _ hd' e1 hc') (one _ _ (by omega))
        have ev : kev ans (kas_desc (f + 1) p m q) = kev ans (kas_desc f (kas_rev p (m - (q + 1)) m) (m + 1) 0) := by simp only [kas_desc, kev, hc, cq, if_true]
        have ka : kask ans (· < n) (kas_desc (f + 1) p m q) := by
          simp only [kas_desc, kask, hc, cq, if_true]
          exact ⟨hp.lt (by omega), hp.lt (by omega), ih.2.2.2.2.2⟩
        rw [ev]
        exact ⟨by have := ih.1; omega, by have := ih.2.1; omega, ih.2.2.1, ih.2.2.2.1, ih.2.2.2.2.1, ka⟩
      · have ih := desc_ok f p (m + 1) 0 (by omega) (by omega) hp (stepDn p hd rfl (.inl hc)) (one _ _ (by omega))
        have ev : kev ans (kas_desc (f + 1) p m q) = kev ans (kas_desc f p (m + 1) 0) := by simp only [kas_desc, kev, hc, cq, if_true, if_false]
        have ka : kask ans (· < n) (kas_desc (f + 1) p m q) := by
          simp only [kas_desc, kask, hc, cq, if_true, if_false]
          exact ⟨hp.lt (by omega), hp.lt (by omega), ih.2.2.2.2.2⟩
        rw [ev]
        exact ⟨by have := ih.1; omega, by have := ih.2.1; omega, ih.2.2.1, ih.2.2.2.1, ih.2.2.2.2.1, ka⟩
    | false =>
      cases hd2 : ans (G p (m - 1)) (G p m) with
      | true =>
        have ev : kev ans (kas_desc (f + 1) p m q) = (p, m, q) := by simp only [kas_desc, kev, hc, hd2, if_true, Bool.false_eq_true, if_false]
        have ka : kask ans (· < n) (kas_desc (f + 1) p m q) := by
          simp only [kas_desc, kask, hc, hd2, if_true, Bool.false_eq_true, if_false]
          exact ⟨hp.lt (by omega), hp.lt (by omega), hp.lt (by omega), hp.lt (by omega), trivial⟩
        rw [ev]
        exact ⟨Nat.le_refl _, Nat.le_add_right _ _, hp, hd, ha, ka⟩
      | false =>
        have ha' : Alike ans p (m + 1) (q + 1) := ⟨by have := ha.1; omega, fun i j hi hi' hj hj' => by
          have hq1 := ha.1
          have al : ∀ i, m + 1 - (q + 1 + 1) ≤ i → i < m + 1 → ans (G p i) (G p (m - 1)) = false ∧ ans (G p (m - 1)) (G p i) = false := fun i hi hi' => by
            rcases Nat.lt_or_ge i m with c | c
            · exact ⟨ha.2 _ _ (by omega) c (by omega) (by omega), ha.2 _ _ (by omega) (by omega) (by omega) c⟩
            · have : i = m := by omega
              subst this; exact ⟨hc, hd2⟩
          exact O.trans _ _ _ (al j hj hj').2 (al i hi hi').1⟩
        have ih := desc_ok f p (m + 1) (q + 1) (by omega) (by omega) hp (stepDn p hd rfl (.inr hd2)) ha'
        have ev : kev ans (kas_desc (f + 1) p m q) = kev ans (kas_desc f p (m + 1) (q + 1)) := by simp only [kas_desc, kev, hc, hd2, Bool.false_eq_true, if_false]
        have ka : kask ans (· < n) (kas_desc (f + 1) p m q) := by
          simp only [kas_desc, kask, hc, hd2, Bool.false_eq_true, if_false]
          exact ⟨hp.lt (by omega), hp.lt (by omega), hp.lt (by omega), hp.lt (by omega), ih.2.2.2.2.2⟩
        rw [ev]
        exact ⟨by have := ih.1; omega, by have := ih.2.1; omega, ih.2.2.1, ih.2.2.2.1, ih.2.2.2.2.1, ka⟩
theorem Dn.up {m : Nat} (h : Dn ans p m) (hm : m ≤ p.size) : Up ans (kas_rev p 0 m) m := by
  intro i j hij hj
  rw [G_rev hm, G_rev hm, if_pos ⟨by omega, hj⟩, if_pos ⟨by omega, by omega⟩]
  exact h _ _ (by omega) (by omega)
theorem tail3_ok {m : Nat} (h1 : 1 ≤ m) (hn : m ≤ n) (hp : InN n p) (hd : Dn ans p m) : let r := kev ans (kas_tail3 m n p); m ≤ r.1 ∧ r.1 ≤ n ∧ InN n r.2 ∧ Up ans r.2 r.1 ∧ kask ans (· < n) (kas_tail3 m n p) := by
  have a := asc_ok O (n - m) m h1 (by omega) (hp.rev 0 m) (hd.up O (by rw [hp.1]; omega))
  unfold kas_tail3
  rw [kev_bind]
  exact ⟨a.1, by have := a.2.1; show kev ans _ ≤ n; omega, hp.rev 0 m, a.2.2.1, kask_bind _ a.2.2.2 trivial⟩
theorem descPart_ok {m : Nat} (h1 : 1 ≤ m) (hn : m + 1 ≤ n) (hp : InN n p) (hd : Dn ans p m) (hc : ans (G p m) (G p (m - 1)) = true) :
    let r := kev ans (kas_descPart m n p); 1 ≤ r.1 ∧ r.1 ≤ n ∧ InN n r.2 ∧ Up ans r.2 r.1 ∧ kask ans (· < n) (kas_descPart m n p) := by
  have d := desc_ok O (n - (m + 1)) p (m + 1) 0 (by omega) (by omega) hp (hd.next O h1 (O.asym _ _ hc)) ⟨by omega, fun i j _ _ _ _ => by
      have : i = j := by omega
      subst this; exact O.refl _⟩
  unfold kas_descPart
  rw [kev_bind]
  obtain ⟨d1, d2, d3, d4, d5, d6⟩ := d
  revert d1 d2 d3 d4 d5
  generalize hr : kev ans (kas_desc (n - (m + 1)) p (m + 1) 0) = r
  obtain ⟨p', m', q'⟩ := r
  dsimp only
  intro d1 d2 d3 d4 d5
  by_cases cq : q' > 0
  · have t := tail3_ok O (p := kas_rev p' (m' - (q' + 1)) m') (m := m') (by omega) (by omega) (d3.rev _ _) (d4.rev O d5 (by rw [d3.1]; omega))
    rw [if_pos cq]
    exact ⟨by have := t.1; omega, t.2.1, t.2.2.1, t.2.2.2.1, kask_bind _ d6 (by rw [hr]; dsimp only; rw [if_pos cq]; exact t.2.2.2.2)⟩
  · have t := tail3_ok O (p := p') (m := m') (by omega) (by omega) d3 d4
    rw [if_neg cq]
    exact ⟨by have := t.1; omega, t.2.1, t.2.2.1, t.2.2.2.1, kask_bind _ d6 (by rw [hr]; dsimp only; rw [if_neg cq]; exact t.2.2.2.2)⟩
omit O in
theorem asc_stop : ∀ (f m : Nat), m + f = n → kev ans (kas_asc p f m) < n → ans (G p (kev ans (kas_asc p f m))) (G p (kev ans (kas_asc p f m) - 1)) = true
  | 0, m, h, hl => by
    have : kev ans (kas_asc p 0 m) = m := rfl
    rw [this] at hl; omega
  | f + 1, m, h, hl => by
    cases hc : ans (G p m) (G p (m - 1)) with
    | true =>
      have ev : kev ans (kas_asc p (f + 1) m) = m := by simp only [kas_asc, kev, hc, if_true]
      rw [ev]; exact hc
    | false =>
      have ev : kev ans (kas_asc p (f + 1) m) = kev ans (kas_asc p f (m + 1)) := by simp only [kas_asc, kev, hc, Bool.false_eq_true, if_false]
      rw [ev] at hl ⊢
      exact asc_stop f (m + 1) (by omega) hl
theorem count_ok (hn : 1 ≤ n) (hp : InN n p) : let r := kev ans (kas_count n p); 1 ≤ r.1 ∧ r.1 ≤ n ∧ InN n r.2 ∧ Up ans r.2 r.1 ∧ kask ans (· < n) (kas_count n p) := by
  have a := asc_ok O (p := p) (n - 1) 1 (Nat.le_refl _) (by omega) hp (fun i j hij hj => by
    have e1 : i = 0 := by omega
    have e2 : j = 0 := by omega
    subst e1 e2; exact O.refl _)
  have stop : kev ans (kas_asc p (n - 1) 1) < n → ans (G p (kev ans (kas_asc p (n - 1) 1))) (G p (kev ans (kas_asc p (n - 1) 1) - 1)) = true := asc_stop (n - 1) 1 (by omega)
  unfold kas_count
  obtain ⟨a1, a2, a3, a4⟩ := a
  rw [kev_bind]
  generalize hm : kev ans (kas_asc p (n - 1) 1) = m at a1 a2 a3 stop
  by_cases c1 : m = n
  · subst c1
    simp only [beq_self_eq_true, if_true, kev]
    exact ⟨a1, Nat.le_refl _, hp, a3, kask_bind _ a4 (by rw [hm]; simp only [beq_self_eq_true, if_true, kask])⟩
  · have hb : (m == n) = false := by simpa using c1
    have hlt : m < n := by omega
    by_cases c2 : m > 1
    · cases hc : ans (G p 0) (G p (m - 1)) with
      | true =>
        have ev : kev ans (if (m == n) = true then KasT.ret (m, p) else if m > 1 then .ask (p.getD 0 0) (p.getD (m - 1) 0) fun c => if c = true then .ret (m, p) else kas_descPart m n (kas_rev p 0 m) else kas_descPart m n p) = (m, p) := by
          simp only [hb, c2, Bool.false_eq_true, if_true, if_false, kev, hc]
        rw [ev]
        refine ⟨a1, by dsimp only; omega, hp, a3, kask_bind _ a4 ?_⟩
        rw [hm]
        simp only [hb, c2, Bool.false_eq_true, if_true, if_false, kask, hc]
        exact ⟨hp.lt (by omega), hp.lt (by omega), trivial⟩
      | false =>
        have alike : ∀ i j, i < m → j < m → ans (G p i) (G p j) = false := fun i j hi hj =>
          O.trans _ _ _ (O.trans _ _ _ (a3 j (m - 1) (by omega) (by omega)) hc) (a3 0 i (by omega) hi)
        have hms : m ≤ p.size := by rw [hp.1]; omega
        have d := descPart_ok O (p := kas_rev p 0 m) (m := m) a1 (by omega) (hp.rev _ _) (fun i j hij hj => by
            rw [G_rev hms, G_rev hms, if_pos (show 0 ≤ i ∧ i < m by omega), if_pos (show 0 ≤ j ∧ j < m by omega)]; exact alike _ _ (by omega) (by omega))
          (by
            rw [G_rev hms, G_rev hms, if_neg (by omega), if_pos ⟨by omega, by omega⟩]
            have s := stop hlt
            cases q : ans (G p m) (G p (0 + m - 1 - (m - 1))) with
            | true => rfl
            | false =>
              have := O.trans _ _ _ (alike (0 + m - 1 - (m - 1)) (m - 1) (by omega) (by omega)) q
              rw [s] at this; cases this)
        have ev : kev ans (if (m == n) = true then KasT.ret (m, p) else if m > 1 then .ask (p.getD 0 0) (p.getD (m - 1) 0) fun c => if c = true then .ret (m, p) else kas_descPart m n (kas_rev p 0 m) else kas_descPart m n p) = kev ans (kas_descPart m n (kas_rev p 0 m)) := by
          simp only [hb, c2, Bool.false_eq_true, if_true, if_false, kev, hc]
        rw [ev]
        refine ⟨d.1, d.2.1, d.2.2.1, d.2.2.2.1, kask_bind _ a4 ?_⟩
        rw [hm]
        simp only [hb, c2, Bool.false_eq_true, if_true, if_false, kask, hc]
        exact ⟨hp.lt (by omega), hp.lt (by omega), d.2.2.2.2⟩
    · have hm1 : m = 1 := by omega
      have d := descPart_ok O (p := p) (m := m) a1 (by omega) hp (fun i j hij hj => by
        have e1 : i = 0 := by omega
        have e2 : j = 0 := by omega
        subst e1 e2; exact O.refl _) (stop hlt)
      have ev : kev ans (if (m == n) = true then KasT.ret (m, p) else if m > 1 then .ask (p.getD 0 0) (p.getD (m - 1) 0) fun c => if c = true then .ret (m, p) else kas_descPart m n (kas_rev p 0 m) else kas_descPart m n p) = kev ans (kas_descPart m n p) := by
        simp only [hb, c2, Bool.false_eq_true, if_false]
      rw [ev]
      refine ⟨d.1, d.2.1, d.2.2.1, d.2.2.2.1, kask_bind _ a4 ?_⟩
      rw [hm]
      simp only [hb, c2, Bool.false_eq_true, if_false]
      exact d.2.2.2.2
/-- the place for what stands at k, among the sorted first k -/
theorem place_ok {k : Nat} (hk : k < n) (hp : InN n p) (hu : Up ans p k) : ∀ (f l r : Nat), l ≤ r → r ≤ k → r - l ≤ f → (∀ i, i < l → ans (G p k) (G p i) = false) → (∀ i, r ≤ i → i < k → ans (G p i) (G p k) = false) →
    let x := kev ans (kas_place p k f l r); x ≤ k ∧ (∀ i, i < x → ans (G p k) (G p i) = false) ∧ (∀ i, x ≤ i → i < k → ans (G p i) (G p k) = false) ∧ kask ans (· < n) (kas_place p k f l r)
  | 0, l, r, h1, h2, h3, h4, h5 => ⟨by show l ≤ k; omega, h4, by
      have : l = r := by omega
      subst this; exact h5, trivial⟩
  | f + 1, l, r, h1, h2, h3, h4, h5 => by
    dsimp only
    by_cases c : l ≥ r
    · have e : l = r := by omega
      have ev : kev ans (kas_place p k (f + 1) l r) = l := by simp only [kas_place, c, if_true, kev]
      have ka : kask ans (· < n) (kas_place p k (f + 1) l r) := by simp only [kas_place, c, if_true, kask]
      rw [ev]
      exact ⟨by omega, h4, by rw [e]; exact h5, ka⟩
    · cases hc : ans (G p k) (G p ((l + r) / 2)) with
      | true =>
        have ih := place_ok hk hp hu f l ((l + r) / 2) (by omega) (by omega) (by omega) h4 (fun i hi hik => O.trans _ _ _ (O.asym _ _ hc) (hu _ _ hi hik) |> fun h => h)
        have ev : kev ans (kas_place p k (f + 1) l r) = kev ans (kas_place p k f l ((l + r) / 2)) := by simp only [kas_place, c, if_false, kev, hc, if_true]
        have ka : kask ans (· < n) (kas_place p k (f + 1) l r) := by
          simp only [kas_place, c, if_false, kask, hc, if_true]
          exact ⟨hp.lt (by omega), hp.lt (by omega), ih.2.2.2⟩
        rw [ev]
        exact ⟨ih.1, ih.2.1, ih.2.2.1, ka⟩
      | false =>
        have ih := place_ok hk hp hu f ((l + r) / 2 + 1) r (by omega) (by omega) (by omega) (fun i hi => O.trans _ _ _ (hu i ((l + r) / 2) (by omega) (by omega)) hc) h5
        have ev : kev ans (kas_place p k (f + 1) l r) = kev ans (kas_place p k f ((l + r) / 2 + 1) r) := by simp only [kas_place, c, if_false, kev, hc, Bool.false_eq_true]
        have ka : kask ans (· < n) (kas_place p k (f + 1) l r) := by
          simp only [kas_place, c, if_false, kask, hc, Bool.false_eq_true]
          exact ⟨hp.lt (by omega), hp.lt (by omega), ih.2.2.2⟩
        rw [ev]
        exact ⟨ih.1, ih.2.1, ih.2.2.1, ka⟩
theorem ins_ok {k x : Nat} (hk : k < n) (hp : InN n p) (hu : Up ans p k) (hx : x ≤ k) (h4 : ∀ i, i < x → ans (G p k) (G p i) = false) (h5 : ∀ i, x ≤ i → i < k → ans (G p i) (G p k) = false) : Up ans (bubble p k (k - x)) (k + 1) := by
  have hs : k < p.size := by rw [hp.1]; exact hk
  have e : k - (k - x) = x := by omega
  have g : ∀ i, i ≤ k → G (bubble p k (k - x)) i = if i = x then G p k else if x < i then G p (i - 1) else G p i := fun i hi => by
    rw [G_bub hs (Nat.sub_le _ _), e]
    by_cases c : i = x
    · rw [if_pos c, if_pos c]
    · rw [if_neg c, if_neg c]
      by_cases c2 : x < i
      · rw [if_pos ⟨c2, hi⟩, if_pos c2]
      · rw [if_neg (fun z => c2 z.1), if_neg c2]
  intro i j hij hj
  rw [g i (by omega), g j (by omega)]
  by_cases ci : i = x
  · rw [if_pos ci]
    by_cases cj : j = x
    · rw [if_pos cj]; exact O.refl _
    · rw [if_neg cj, if_pos (show x < j by omega)]
      exact h5 _ (by omega) (by omega)
  · rw [if_neg ci]
    by_cases ci2 : x < i
    · rw [if_pos ci2, if_neg (show ¬ j = x by omega), if_pos (show x < j by omega)]
      exact hu _ _ (by omega) (by omega)
    · rw [if_neg ci2]
      by_cases cj : j = x
      · rw [if_pos cj]; exact h4 _ (by omega)
      · rw [if_neg cj]
        by_cases cj2 : x < j
        · rw [if_pos cj2]; exact hu _ _ (by omega) (by omega)
        · rw [if_neg cj2]; exact hu _ _ hij (by omega)
theorem bin_ok : ∀ (f : Nat) (p : Array Nat) (k : Nat), k + f = n → InN n p → Up ans p k → let r := kev ans (kas_bin f p k); InN n r ∧ Up ans r n ∧ kask ans (· < n) (kas_bin f p k)
  | 0, p, k, h, hp, hu => by
    have : k = n := by omega
    subst this; exact ⟨hp, hu, trivial⟩
  | f + 1, p, k, h, hp, hu => by
    have pl := place_ok O (k := k) (by omega) hp hu k 0 k (by omega) (Nat.le_refl _) (by omega) (fun i hi => absurd hi (by omega)) (fun i h1 h2 => absurd h1 (by omega))
    have ih := bin_ok f (bubble p k (k - kev ans (kas_place p k k 0 k))) (k + 1) (by omega) (hp.bub _ _) (ins_ok O (by omega) hp hu pl.1 pl.2.1 pl.2.2.1)
    have ev : kev ans (kas_bin (f + 1) p k) = kev ans (kas_bin f (bubble p k (k - kev ans (kas_place p k k 0 k))) (k + 1)) := by
      show kev ans ((kas_place p k k 0 k).bind fun l => kas_bin f (bubble p k (k - l)) (k + 1)) = _
      rw [kev_bind]
    dsimp only
    rw [ev]
    exact ⟨ih.1, ih.2.1, kask_bind (f := fun l => kas_bin f (bubble p k (k - l)) (k + 1)) _ pl.2.2.2 ih.2.2⟩
theorem sort_ok (hn : 1 ≤ n) : InN n (kev ans (kas_sort n)) ∧ Up ans (kev ans (kas_sort n)) n ∧ kask ans (· < n) (kas_sort n) := by
  have h0 : InN n (List.toArray (List.range n)) := ⟨by simp, by simp⟩
  have c := count_ok O hn h0
  unfold kas_sort
  rw [kev_bind]
  obtain ⟨c1, c2, c3, c4, c5⟩ := c
  revert c1 c2 c3 c4
  generalize hr : kev ans (kas_count n (List.toArray (List.range n))) = r
  obtain ⟨m, p⟩ := r
  dsimp only
  intro c1 c2 c3 c4
  have hm : max m 1 = m := by omega
  by_cases c : m < n
  · have b := bin_ok O (n - m) p m (by omega) c3 c4
    rw [if_pos c, hm]
    exact ⟨b.1, b.2.1, kask_bind _ c5 (by rw [hr]; dsimp only; rw [if_pos c, hm]; exact b.2.2)⟩
  · have : m = n := by omega
    subst this
    rw [if_neg c]
    exact ⟨c3, c4, kask_bind _ c5 (by rw [hr]; dsimp only; rw [if_neg c]; trivial)⟩
end
end Mine
end

section
open PySem PySem.W PyProof.Rows
set_option maxRecDepth 100000
namespace Mine
theorem sortPhase {w : World} {A : Around} {E : Value → Shared → Prop} {s : Shared} {κ : SortKind} {it : Array Keyed} {n : Nat} {ans : Nat → Nat → Bool} {Q : Unit × SortSt → Shared → Prop} (h2 : 2 ≤ n) (h64 : n < 64) (hit : it.size = n) (I : Shared → Prop) (O : Ord3 ans)
    (hc : ∀ i j C s, i < n → j < n → I s → (∀ s', I s' → C (ans i j) s') → wpAny (model pr w) A (keyLt' κ (kas_item it i).1 (kas_item it j).1) C (fun _ _ => False) s) (hI : I s)
    (hQ : ∀ p st' s', InN n p → Up ans p n → arrOf st' = p.map (kas_item it) → failedOf st' = none → I s' → Q ((), st') s') : wpAny (model pr w) A (sortRuns'.run (SortSt.mk' κ it #[] 7 none)) Q E s := by
  obtain ⟨a, b, c⟩ := sort_ok O (n := n) (by omega)
  have key : (kas_sort n).kasWp (kas_cmp pr w A κ it) (fun p s' => (InN n p ∧ Up ans p n) ∧ I s') s := kasWp_of (ok := (· < n)) hc _ _ c hI fun s' h' => ⟨⟨a, b⟩, h'⟩
  have run := kas_runs (E := E) (Q := fun _ st' s' => Q ((), st') s') h2 h64 (fun p' st' s' a1 a2 a3 a4 => hQ p' st' s' a4.1.1 a4.1.2 a2 a3 a4.2) key
  have e : kas_st κ it (List.toArray (List.range n)) = SortSt.mk' κ it #[] 7 none := by
    have := kas_range it
    rw [hit] at this
    unfold kas_st
    rw [this]
  rw [e] at run
  exact wpAny_mono run (fun p s' h => h) fun _ _ h => h
theorem Mk.with {s cur : Shared} {B : Addr → Option Obj} {n a x : Addr} {D C o : Obj} (X : Mk s B n D a C cur) (hx : cur.heap.get? x = some o) (h1 : n ≠ x) (h2 : a ≠ x) : Mk s (addB B x o) n D a C cur ∧ Sub B (addB B x o) := by
  refine ⟨⟨X.same, fun b o' q => ?_, X.d, X.c, ?_, ?_, X.ne⟩, fun b o' q => ?_⟩
  · change (if b = x then _ else _) = _ at q
    by_cases c : b = x
    · rw [if_pos c] at q; cases q; rw [c]; exact hx
    · rw [if_neg c] at q; exact X.keep b o' q
  · show (if n = x then _ else _) = _
    rw [if_neg h1]; exact X.fn
  · show (if a = x then _ else _) = _
    rw [if_neg h2]; exact X.fa
  · show (if b = x then _ else _) = _
    by_cases c : b = x
    · rw [if_pos c, ← hx, ← c]; exact X.keep b o' q
    · rw [if_neg c]; exact q
/-- the questions of K's instances -/
theorem askK {w : World} {A : Around} {s : Shared} {k n md L1 bT : Addr} {kv : KV} {t' : Tok} {hs : Int} {t₁ : Tok} {hd : Int} {td tK : Tok} {x y : Addr} {a b : List Nat} {C : Bool → Shared → Prop} {E : Value → Shared → Prop}
    (I : KIs w s.heap k n md L1 bT kv t' hs t₁ hd td tK) (H : Has w s.heap) (ix : KInst s.heap k x a) (iy : KInst s.heap k y b) (ha : a.length ≤ 2 ^ 20) (hb : b.length ≤ 2 ^ 20) (hA : A.handled = none) (hdp : A.depth ≤ 385) (hu : A.units ≤ 3850)
    (h : ∀ s', Keeps s s' → C (decide (cmpI a b < 0)) s') : wpAny (model pr w) A (keyLt' oneType' (.ref x) (.ref y)) C E s := by
  obtain ⟨K, X, KK⟩ := I.rows
  rw [keyLt'_oneType, oneLt'_eq]
  simp only [if_true]
  refine wpAny_bind (wpAny_cRoomFor (Nat.lt_of_le_of_lt hu (by decide)) ?_)
  obtain ⟨dx, tx, hx, hdx⟩ := id ix
  refine wpAny_bind (ifBound_K (K := K) (ox := insO k dx (.str (S a) tx)) (od := some emptyDict) X ⟨hx, rfl, rfl, hdx⟩ KK.lt (by unfold isFn; rw [KK.tlt]; rfl) ?_)
  refine useSpec (ltFn I H ix iy ha hb) hA hdp hu fun v s' k' hv => ?_
  subst hv
  exact wpAny_truthy_bool (h s' k')
abbrev lsO (xs : Array Value) (n : Nat) : Obj := seqObj "list" xs n
theorem Mk.setD {s cur : Shared} {B : Addr → Option Obj} {n a : Addr} {xs : Array Value} {e : Nat} {C : Obj} {f : Array Value → Array Value} (X : Mk s B n (lsO xs e) a C cur) : ∃ e', Mk s B n (lsO (f xs) e') a C { cur with heap := cur.heap.update n (Obj.mapSeq f) } :=
  ⟨_, X.updD (f := Obj.mapSeq f) rfl⟩
theorem Mk.setC {s cur : Shared} {B : Addr → Option Obj} {n a : Addr} {xs : Array Value} {e : Nat} {D : Obj} {f : Array Value → Array Value} (X : Mk s B n D a (lsO xs e) cur) : ∃ e', Mk s B n D a (lsO (f xs) e') { cur with heap := cur.heap.update a (Obj.mapSeq f) } :=
  ⟨_, X.updC (f := Obj.mapSeq f) rfl⟩
end Mine
end

section
open PySem PySem.W PyProof.Rows
set_option maxRecDepth 100000
namespace Mine
theorem cmpI_cons (a : Nat) (x y : List Nat) : cmpI (a :: x) (a :: y) = cmpI x y := by
  have e : lcp (a :: x) (a :: y) = a :: lcp x y := by simp [lcp]
  unfold cmpI
  rw [e]
  simp only [List.length_cons]
  by_cases c : (lcp x y).length = x.length ∨ (lcp x y).length = y.length
  · rw [if_pos c, if_pos (by omega)]; omega
  · rw [if_neg c, if_neg (by omega)]; simp
theorem cmpI_sign : ∀ x y : List Nat, (cmpI x y < 0 ↔ x < y) ∧ (cmpI x y > 0 ↔ y < x)
  | [], [] => by simp [cmpI, lcp]
  | [], b :: y => by
    have : cmpI [] (b :: y) = -((y.length : Int) + 1) := by simp [cmpI, lcp]
    rw [this]; simp; omega
  | a :: x, [] => by
    have : cmpI (a :: x) [] = (x.length : Int) + 1 := by simp [cmpI, lcp]
    rw [this]; simp; omega
  | a :: x, b :: y => by
    by_cases h : a = b
    · subst h
      rw [cmpI_cons]
      have ih := cmpI_sign x y
      refine ⟨ih.1.trans ?_, ih.2.trans ?_⟩ <;> simp [List.cons_lt_cons_iff]
    · have e : cmpI (a :: x) (b :: y) = 3 * ((a : Int) - b) := by
        have : lcp (a :: x) (b :: y) = [] := by simp [lcp, h]
        unfold cmpI; rw [this]; simp
      rw [e, List.cons_lt_cons_iff, List.cons_lt_cons_iff]
      constructor
      · constructor
        · intro q; left; omega
        · rintro (q | q)
          · omega
          · exact absurd q.1 h
      · constructor
        · intro q; left; omega
        · rintro (q | q)
          · omega
          · exact absurd q.1.symm h
theorem cmpI_lt (x y : List Nat) : decide (cmpI x y < 0) = decide (x < y) := decide_eq_decide.mpr (cmpI_sign x y).1
theorem cmpI_gt (x y : List Nat) : decide (cmpI x y > 0) = decide (y < x) := decide_eq_decide.mpr (cmpI_sign x y).2
/-- the order of the texts at the numbers -/
def ansL (ls : List (List Nat)) (i j : Nat) : Bool := decide (ls.getD i [] < ls.getD j [])
theorem ansL_ord (ls : List (List Nat)) : Ord3 (ansL ls) where
  refl a := by unfold ansL; simpa using List.lt_irrefl _
  trans a b c h1 h2 := by
    unfold ansL at *
    simp only [decide_eq_false_iff_not, List.not_lt] at *
    exact List.le_trans h1 h2
  asym a b h := by
    unfold ansL at *
    simp only [decide_eq_false_iff_not, decide_eq_true_eq, List.not_lt] at *
    exact List.le_of_lt h
/-- what a sort by such an order gives -/
theorem perm_out {ls : List (List Nat)} {p : Array Nat} {n : Nat} (hn : ls.length = n) (hp : InN n p) (hu : Up (ansL ls) p n) : (p.toList.map fun i => ls.getD i []).Perm ls ∧ (p.toList.map fun i => ls.getD i []).Pairwise (fun a b => ¬ b < a) := by
  constructor
  · refine (hp.2.map _).trans ?_
    have : (List.range n).map (fun i => ls.getD i []) = ls := by
      refine List.ext_getElem (by simp [hn]) fun i h1 h2 => ?_
      simp [h2]
    rw [this]
  · rw [List.pairwise_iff_getElem]
    intro i j hi hj hij
    have hi' : i < p.size := by simpa using hi
    have hj' : j < p.size := by simpa using hj
    have := hu i j (Nat.le_of_lt hij) (by rw [← hp.1]; exact hj')
    unfold ansL at this
    simp only [decide_eq_false_iff_not] at this
    have e1 : G p i = p[i] := by simp [G, Array.getD, hi']
    have e2 : G p j = p[j] := by simp [G, Array.getD, hj']
    rw [e1, e2] at this
    simpa using this
theorem txts_perm {vs : List Value} {ls : List (List Nat)} (hv : Txts vs ls) {l : List Nat} (hl : ∀ i ∈ l, i < vs.length) : Txts (l.map fun i => vs.getD i .none) (l.map fun i => ls.getD i []) := by
  induction l with
  | nil => exact .nil
  | cons i r ih =>
    have hi := hl i (.head _)
    refine .cons ?_ (ih fun j hj => hl j (.tail _ hj))
    have hi2 : i < ls.length := by rw [← txts_len hv]; exact hi
    obtain ⟨t, ht⟩ := txts_at' hv (i := i) (l := ls[i]) (List.getElem?_eq_getElem hi2)
    refine ⟨t, ?_⟩
    simp only [List.getD_eq_getElem?_getD, ht, List.getElem?_eq_getElem hi2, Option.getD_some]
set_option maxHeartbeats 1000000 in
theorem treeK {w : World} {A : Around} {E : Value → Shared → Prop} {s₀ s : Shared} {k n md L1 bT : Addr} {kv : KV} {t' : Tok} {hs : Int} {t₁ : Tok} {hd : Int} {td tK : Tok} {a : Addr} {vs : List Value} {ls : List (List Nat)} {n0 : Nat} {P : PySem.Fin → Shared → Prop}
    (I : KIs w s₀.heap k n md L1 bT kv t' hs t₁ hd td tK) (H : Has w s₀.heap) (K0 : Keeps s₀ s) (fa : s₀.heap.get? a = none) (ha : s.heap.get? a = some (lsO vs.toArray n0)) (hv : Txts vs ls) (h2 : 2 ≤ vs.length) (h64 : vs.length < 64) (hls : ∀ l ∈ ls, l.length ≤ 2 ^ 20)
    (hA : A.handled = none) (hdp : A.depth ≤ 380) (hu : A.units ≤ 3800)
    (h : ∀ s' us ks e', Keeps s₀ s' → s'.heap.get? a = some (lsO us.toArray e') → Txts us ks → ks.Perm ls → ks.Pairwise (fun a b => ¬ b < a) → P (.done (.ret .none)) s') :
    wpAny (model pr w) A (ksk_tree a (.ref k) false) P E s := by
  have hlv := txts_len hv
  unfold ksk_tree
  refine wpAny_bind (listItems_at ha rfl ?_)
  refine wpAny_bind (listUpdate_at ha rfl ?_ (by rw [List.size_toArray, sizeLine_eq]; omega) (Nat.zero_le _))
  obtain ⟨e1, ho1⟩ : ∃ e1, (s.heap.update a (Obj.mapSeq fun _ => (#[] : Array Value))).get? a = some (lsO #[] e1) := ⟨_, get?_update_seq ha fun _ => #[]⟩
  refine wpAny_bind (seqEpoch_at ho1 rfl ?_)
  refine wpAny_bind (wpAny_newTuple ?_ (by show vs.length ≤ _; rw [sizeLine_eq]; omega))
  refine wpAny_bind (wpAny_newList ?_ (Nat.zero_le _))
  refine wpAny_holding ?_
  have up0 : ∀ b o, s₀.heap.get? b = some o → (s.heap.update a (Obj.mapSeq fun _ => (#[] : Array Value))).get? b = some o := fun b o q => Heap.get?_update_of_ne _ (fun z => by rw [← z, fa] at q; cases q) (kGet K0 q)
  have X : Mk s₀ s₀.heap.get? ((s.heap.update a (Obj.mapSeq fun _ => (#[] : Array Value))).push (seqObj "tuple" vs.toArray 0)).objs.size (lsO #[] 0) a (lsO #[] e1)
      { s with heap := ((s.heap.update a (Obj.mapSeq fun _ => (#[] : Array Value))).push (seqObj "tuple" vs.toArray 0)).push (seqObj "list" #[] 0) } := by
    have hka : ((s.heap.update a (Obj.mapSeq fun _ => (#[] : Array Value))).push (seqObj "tuple" vs.toArray 0)).get? a = some (lsO #[] e1) := Heap.get?_push_of_some _ ho1
    refine ⟨sameT (sameK K0) ⟨_, _, rfl⟩, fun b o q => Heap.get?_push_of_some _ (Heap.get?_push_of_some _ (up0 b o q)), Heap.get?_push_size _ rfl, Heap.get?_push_of_some _ hka, ?_, fa, fun z => ?_⟩
    · cases q : s₀.heap.get? ((s.heap.update a (Obj.mapSeq fun _ => (#[] : Array Value))).push (seqObj "tuple" vs.toArray 0)).objs.size with
      | none => rfl
      | some o => exact absurd (Heap.lt_size (Heap.get?_push_of_some (seqObj "tuple" vs.toArray 0) (up0 _ _ q))) (Nat.lt_irrefl _)
    · have := Heap.lt_size hka
      exact absurd z (Nat.ne_of_gt this)
  show wpAny (model pr w) A (ksk_rest a (.ref k) false vs.toArray e1 (.ref ((s.heap.update a (Obj.mapSeq fun _ => (#[] : Array Value))).push (seqObj "tuple" vs.toArray 0)).objs.size)) P E
    { s with heap := ((s.heap.update a (Obj.mapSeq fun _ => (#[] : Array Value))).push (seqObj "tuple" vs.toArray 0)).push (seqObj "list" #[] 0) }
  generalize ((s.heap.update a (Obj.mapSeq fun _ => (#[] : Array Value))).push (seqObj "tuple" vs.toArray 0)).objs.size = kS at X ⊢
  generalize ({ s with heap := ((s.heap.update a (Obj.mapSeq fun _ => (#[] : Array Value))).push (seqObj "tuple" vs.toArray 0)).push (seqObj "list" #[] 0) } : Shared) = s1 at X ⊢
  clear up0 ho1
  unfold ksk_rest
  refine wpAny_bind (wpAny_rule ?_)
  first
    | rw [List.forIn_toArray]
    | (rw [← Array.forIn_toList]; simp only [List.toList_toArray])
    | rw [← Array.forIn_toList]
  refine wpAny_bind (ksk_fold (fun i s' => ∃ B kA e xs, Mk s₀ B kS (lsO kA e) a (lsO #[] e1) s' ∧ Sub s₀.heap.get? B ∧ kA.toList = xs.map Value.ref ∧ xs.length = i ∧ ∀ j x, xs[j]? = some x → ∃ l, ls[j]? = some l ∧ OnB B (KInst · k x l)) vs 0 s1
    ⟨s₀.heap.get?, #[], 0, ([] : List Addr), X, Sub.refl _, rfl, rfl, fun j x (q : ([] : List Addr)[j]? = some x) => by rw [List.getElem?_nil] at q; cases q⟩ ?step ?done)
  case step =>
    rintro j v s' hx ⟨B, kA, e, xs, X, sb, hkA, hxl, hin⟩
    have hj : j < vs.length := (List.getElem?_eq_some_iff.mp hx).1
    obtain ⟨l, t, hl, rfl⟩ := txts_at hv hx
    have up : ∀ b o, s₀.heap.get? b = some o → s'.heap.get? b = some o := fun b o q => X.keep b o (sb b o q)
    refine wpAny_bind (wpAny_attempt (newK (I.keeps up) (H.keeps up) hA hdp hu fun x dx s'' fx k'' hx' hdx => ?_))
    have X' := X.keeps k''
    have n1 : kS ≠ x := fun z => by rw [← z, X.d] at fx; cases fx
    have n2 : a ≠ x := fun z => by rw [← z, X.c] at fx; cases fx
    have n3 : kS ≠ dx := fun z => by rw [← z, X'.d] at hdx; exact absurd (congrArg Obj.data (Option.some.inj hdx)) (by intro q; cases q)
    have n4 : a ≠ dx := fun z => by rw [← z, X'.c] at hdx; exact absurd (congrArg Obj.data (Option.some.inj hdx)) (by intro q; cases q)
    obtain ⟨X1, b1⟩ := X'.with hx' n1 n2
    obtain ⟨X2, b2⟩ := X1.with hdx n3 n4
    dsimp only
    have hsz : kA.size = j := by rw [← Array.length_toList, hkA, List.length_map, hxl]; omega
    refine wpAny_bind (listUpdate_at X2.d rfl ?_ (by rw [hsz, sizeLine_eq]; omega) (Nat.le_trans (Nat.le_of_eq (Array.size_push ..)) (by rw [hsz, sizeLine_eq]; omega)))
    obtain ⟨e', X3⟩ := X2.setD (f := (·.push (Value.ref x)))
    refine wpAny_pure ⟨rfl, _, kA.push (.ref x), e', xs ++ [x], X3, (sb.trans b1).trans b2, by simp [hkA], by simp [hxl], fun i y q => ?_⟩
    rcases Nat.lt_or_ge i xs.length with c | c
    · rw [List.getElem?_append_left c] at q
      obtain ⟨l', a', b'⟩ := hin i y q
      exact ⟨l', a', (b'.mono b1).mono b2⟩
    · rw [List.getElem?_append_right c] at q
      have hi : i - xs.length = 0 := by
        rcases Nat.eq_zero_or_pos (i - xs.length) with z | z
        · exact z
        · rw [List.getElem?_eq_none (by simp; omega)] at q; cases q
      rw [hi] at q
      simp only [List.getElem?_cons_zero, Option.some.injEq] at q
      subst q
      have : i = j := by omega
      subst this
      refine ⟨l, hl, fun hh kk => ⟨dx, t, kk _ _ ?_, kk _ _ (if_pos rfl)⟩⟩
      exact b2 _ _ (if_pos rfl)
  case done =>
    rintro s' ⟨B, kA, e, xs, X, sb, hkA, hxl, hin⟩
    simp only [Nat.zero_add] at hxl
    refine wpAny_bind (listItems_at X.d rfl ?_)
    have hkA' : kA = (xs.map Value.ref).toArray := by rw [← hkA]
    subst hkA'
    unfold ksk_end
    dsimp only
    have hn2 : ¬ vs.toArray.size < 2 := by rw [List.size_toArray]; omega
    rw [if_neg hn2, if_neg hn2]
    simp only [Bool.false_eq_true, if_false]
    have upI : ∀ {s'' : Shared}, Mk s₀ B kS (lsO (xs.map Value.ref).toArray e) a (lsO #[] e1) s'' → ∀ j x, xs[j]? = some x → ∃ l, ls[j]? = some l ∧ KInst s''.heap k x l := fun {s''} Y j x q => let ⟨l, a', b'⟩ := hin j x q; ⟨l, a', b' _ Y.keep⟩
    refine wpAny_bind (kas_kind (T := .ref k) (by simpa [hxl] using h2) (fun v hv' => ?_) rfl (by simp) ?_)
    · obtain ⟨x, hx, rfl⟩ := List.mem_map.mp hv'
      obtain ⟨j, hj⟩ := List.getElem?_of_mem hx
      obtain ⟨l, _, dx, t, hx', hdx⟩ := upI X j x hj
      exact (Looks.ld hx').andThen .now
    have hzs : ((xs.map Value.ref).toArray.zip vs.toArray).size = vs.length := by simp [hxl]
    have item : ∀ i, i < vs.length → ∃ x, xs[i]? = some x ∧ (kas_item ((xs.map Value.ref).toArray.zip vs.toArray) i) = (.ref x, vs.getD i .none) := fun i hi => by
      have hi2 : i < xs.length := by omega
      refine ⟨xs[i], List.getElem?_eq_getElem hi2, ?_⟩
      have : i < ((xs.map Value.ref).toArray.zip vs.toArray).size := by rw [hzs]; exact hi
      unfold kas_item
      simp [Array.getD, hi]
      rw [dif_pos (by omega)]
    refine wpAny_bind (sortPhase (ans := ansL ls) (n := vs.length) h2 h64 hzs (fun s'' => Mk s₀ B kS (lsO (xs.map Value.ref).toArray e) a (lsO #[] e1) s'') (ansL_ord ls) (fun i j C s'' hi hj Y hC => ?_) X fun p st' s'' hp hu' har hf Y => ?_)
    · obtain ⟨x, hx, ex⟩ := item i hi
      obtain ⟨y, hy, ey⟩ := item j hj
      rw [ex, ey]
      obtain ⟨lx, hlx, kx⟩ := upI Y i x hx
      obtain ⟨ly, hly, ky⟩ := upI Y j y hy
      have up : ∀ b o, s₀.heap.get? b = some o → s''.heap.get? b = some o := fun b o q => Y.keep b o (sb b o q)
      refine askK (I.keeps up) (H.keeps up) kx ky (hls _ (List.mem_of_getElem? hlx)) (hls _ (List.mem_of_getElem? hly)) hA (by omega) (by omega) fun s3 k3 => ?_
      have := hC s3 (Y.keeps k3)
      unfold ansL at this
      rw [cmpI_lt]
      simpa only [List.getD_eq_getElem?_getD, hlx, hly, Option.getD_some] using this
    · dsimp only
      unfold ksk_tail
      dsimp only
      have hps : ∀ i ∈ p.toList, i < vs.length := fun i hi => List.mem_range.mp (hp.2.mem_iff.mp hi)
      have hout : (arrOf st').map (·.2) = (p.toList.map fun i => vs.getD i Value.none).toArray := by
        apply Array.toList_inj.mp
        rw [har, Array.map_map, Array.toList_map]
        refine List.map_congr_left fun i hi => ?_
        obtain ⟨x, _, ex⟩ := item i (hps i hi)
        show (kas_item _ i).2 = _
        rw [ex]
      refine wpAny_bind (listUpdate_at Y.d rfl ?_ (by simp [hxl, sizeLine_eq]; omega) (Nat.zero_le _))
      obtain ⟨e5, Y5⟩ := Y.setD (f := fun _ => #[])
      refine wpAny_bind (wpAny_letGo ?_)
      refine wpAny_bind (seqEpoch_at Y5.c rfl ?_)
      refine wpAny_bind (listUpdate_at Y5.c rfl ?_ (Nat.zero_le _) (by simp only [Bool.false_eq_true, if_false]; rw [hout, List.size_toArray, List.length_map, Array.length_toList, hp.1, sizeLine_eq]; omega))
      obtain ⟨e6, Y6⟩ := Y5.setC (f := fun _ => (p.toList.map fun i => vs.getD i Value.none).toArray)
      rw [hf]
      simp only [bne_self_eq_false, Bool.false_eq_true, if_false, hout]
      obtain ⟨q1, q2⟩ := perm_out hlv.symm hp hu'
      exact wpAny_pure (h _ _ _ e6 (Y6.done sb) Y6.c (txts_perm hv hps) q1 q2)
end Mine
end

section
open PySem PySem.W PyProof.Rows
set_option maxRecDepth 100000
namespace Mine
set_option maxHeartbeats 1000000 in
theorem sortedKey {w : World} {A : Around} {E : Value → Shared → Prop} {s : Shared} {k n md L1 bT : Addr} {kv : KV} {t' : Tok} {hs : Int} {t₁ : Tok} {hd : Int} {td tK : Tok} {l : Addr} {vs : List Value} {ls : List (List Nat)} {Q : Value → Shared → Prop}
    (I : KIs w s.heap k n md L1 bT kv t' hs t₁ hd td tK) (H : Has w s.heap) (hl : s.heap.IsList l vs.toArray) (hv : Txts vs ls) (h2 : 2 ≤ vs.length) (h64 : vs.length < 64) (hls : ∀ l ∈ ls, l.length ≤ 2 ^ 20)
    (hA : A.handled = none) (hdp : A.depth ≤ 380) (hu : A.units ≤ 3790)
    (h : ∀ D s' us ks, Keeps s s' → s.heap.get? D = none → s'.heap.IsList D us.toArray → Txts us ks → ks.Perm ls → ks.Pairwise (fun a b => ¬ b < a) → Q (.ref D) s') :
    wpAny (model pr w) A (call (.builtin "sorted") [.ref l] [("key", .ref k)]) Q E s := by
  refine call_function_entry_kw kind_sorted plain_sorted entry_sorted (ksk_s1 _ _) ?_
  unfold Builtin.«sorted»
  refine wpAny_bind (m := checkCount "sorted" 1 1 _) (wpAny_pure ?_)
  refine wpAny_bind (collect_list hl ?_ (by rw [sizeLine_eq]; omega))
  refine wpAny_bind (newObjA fun a s₁ fa ha K₁ => ?_)
  have K0 : Keeps s { s with heap := (s.heap.push (seqObj "list" #[] 0)).update s.heap.objs.size (Obj.mapSeq (· ++ vs.toArray)) } :=
    ⟨_, _, rfl, fun b o e => Heap.get?_update_of_ne _ (fun q => by rw [← q] at e; exact absurd (Heap.lt_size e) (Nat.lt_irrefl _)) (Heap.get?_push_of_some _ e)⟩
  have fa' : s.heap.get? a = none := by
    cases q : s.heap.get? a with
    | none => rfl
    | some o => rw [kGet K0 q] at fa; cases fa
  refine wpAny_bind (wpAny_holding (wpAny_call_entry_kw slot_list_sort ⟨_, ha, rfl⟩ entry_list_sort ?body (ksk_l1 _ _)))
  case body =>
    show wpAny (model pr w) A.in1.in1 (Builtin.«list.sort» ⟨[.ref a], [(Str.ofString "key", .ref k)]⟩) _ _ _
    rw [ksk_t1]
    refine treeK I H (kTrans K0 K₁) fa' ha hv h2 h64 hls hA hdp (by show A.units + 1 + 1 ≤ _; omega) fun s' us ks e' k' hD hu' hp hs' => ⟨_, rfl, ?_⟩
    exact wpAny_pure ⟨_, rfl, h a s' us ks k' fa' ⟨_, hD, rfl, _, rfl⟩ hu' hp hs'⟩
end Mine
end

section
open PySem PySem.W PyProof.Rows
set_option maxRecDepth 100000
namespace Mine
theorem rows_step {x y : List Nat} {xs ys : List (List Nat)} : (decide (x :: xs < y :: ys)) = (if x = y then decide (xs < ys) else decide (x < y)) := by
  by_cases h : x = y
  · subst h
    rw [if_pos rfl]
    refine decide_eq_decide.mpr ?_
    rw [List.cons_lt_cons_iff]
    constructor
    · rintro (q | q)
      · exact absurd q (List.lt_irrefl _)
      · exact q.2
    · exact fun q => .inr ⟨rfl, q⟩
  · rw [if_neg h]
    refine decide_eq_decide.mpr ?_
    rw [List.cons_lt_cons_iff]
    constructor
    · rintro (q | q)
      · exact q
      · exact absurd q.1 h
    · exact fun q => .inl q
theorem ltLoop {w : World} {A : Around} {s : Shared} {a b : Addr} {vs us : List Value} {ls ks : List (List Nat)} {R : Result → Shared → Prop} (ha : s.heap.IsList a vs.toArray) (hv : Txts vs ls) (hb : s.heap.IsList b us.toArray) (hu : Txts us ks) :
    ∀ (n i : Nat), n = ls.length - i → i ≤ ls.length → i ≤ ks.length → R (.ok (.ret (.bool (decide (ls.drop i < ks.drop i))))) s → codeAny (model pr w) A (.builtin "list.__eq__.loop" ⟨[.ref a, .ref b, rawInt i, rawInt 0], []⟩) R s := by
  have hlv := txts_len hv
  have hlu := txts_len hu
  obtain ⟨oa, hoa, _, na, hda⟩ := ha
  obtain ⟨ob, hob, _, nb, hdb⟩ := hb
  intro n
  induction n with
  | zero =>
    intro i hn h1 h2 h
    have hi : i = ls.length := by omega
    refine codeAny_builtin MeetsSeq3.entry_eq_loop ?_
    rw [Around.under_plainId MeetsSeq3.plain_eq_loop _]
    show wpAny _ A.in1 (Builtin.List.listItems (.ref a) >>= _) _ _ s
    refine wpAny_bind (listItems_at hoa hda ?_)
    show wpAny _ A.in1 (Builtin.List.listItems (.ref b) >>= _) _ _ s
    refine wpAny_bind (listItems_at hob hdb ?_)
    have e1 : vs.toArray[((i : Nat) : Int).toNat]? = none := by simp; omega
    rw [e1]
    show wpAny _ A.in1 (Builtin.List.listItems (.ref a) >>= _) _ _ s
    refine wpAny_bind (listItems_at hoa hda ?_)
    show wpAny _ A.in1 (Builtin.List.listItems (.ref b) >>= _) _ _ s
    refine wpAny_bind (listItems_at hob hdb ?_)
    show wpAny _ A.in1 (ret (.bool (decide (vs.toArray.size < us.toArray.size)))) _ _ s
    refine wpAny_pure ?_
    have e2 : decide (ls.drop i < ks.drop i) = decide (vs.toArray.size < us.toArray.size) := by
      refine decide_eq_decide.mpr ?_
      rw [hi, List.drop_length]
      simp only [List.size_toArray]
      cases hk : ks.drop ls.length with
      | nil =>
        have : ks.length ≤ ls.length := List.drop_eq_nil_iff.mp hk
        constructor
        · intro q; exact absurd q (List.lt_irrefl _)
        · intro q; omega
      | cons y r =>
        have : ls.length < ks.length := by
          rcases Nat.lt_or_ge ls.length ks.length with q | q
          · exact q
          · rw [List.drop_eq_nil_iff.mpr q] at hk; cases hk
        constructor
        · intro _; omega
        · intro _; exact List.nil_lt_cons _ _
    rw [← e2]; exact h
  | succ n ih =>
    intro i hn h1 h2 h
    have hlt : i < ls.length := by omega
    refine codeAny_builtin MeetsSeq3.entry_eq_loop ?_
    rw [Around.under_plainId MeetsSeq3.plain_eq_loop _]
    show wpAny _ A.in1 (Builtin.List.listItems (.ref a) >>= _) _ _ s
    refine wpAny_bind (listItems_at hoa hda ?_)
    show wpAny _ A.in1 (Builtin.List.listItems (.ref b) >>= _) _ _ s
    refine wpAny_bind (listItems_at hob hdb ?_)
    obtain ⟨t, ht⟩ := txts_at' hv (i := i) (l := ls[i]) (List.getElem?_eq_getElem hlt)
    have e1 : vs.toArray[((i : Nat) : Int).toNat]? = some (.str (S ls[i]) t) := by simpa using ht
    rw [e1]
    rcases Nat.lt_or_ge i ks.length with hk | hk
    · obtain ⟨u, hu'⟩ := txts_at' hu (i := i) (l := ks[i]) (List.getElem?_eq_getElem hk)
      have e2 : us.toArray[((i : Nat) : Int).toNat]? = some (.str (S ks[i]) u) := by simpa using hu'
      rw [e2]
      have hstep := rows_step (x := ls[i]) (y := ks[i]) (xs := ls.drop (i + 1)) (ys := ks.drop (i + 1))
      rw [← List.drop_eq_getElem_cons hlt, ← List.drop_eq_getElem_cons hk] at hstep
      rw [hstep] at h
      show wpAny _ A.in1 (eqBool (.str (S ls[i]) t) (.str (S ks[i]) u) >>= _) _ _ s
      refine wpAny_bind (eqBool_str ?_)
      rw [S_beq]
      by_cases c : ls[i] = ks[i]
      · rw [if_pos c] at h
        rw [if_pos (by simpa using c)]
        refine wpAny_pure ⟨plainId_quiet MeetsSeq3.plain_eq_loop _, ?_⟩
        exact ih (i + 1) (by omega) hlt hk h
      · rw [if_neg c] at h
        rw [if_neg (by simpa using c)]
        show wpAny _ A.in1 (Builtin.List.listItems (.ref a) >>= _) _ _ s
        refine wpAny_bind (listItems_at hoa hda ?_)
        show wpAny _ A.in1 (Builtin.List.listItems (.ref b) >>= _) _ _ s
        refine wpAny_bind (listItems_at hob hdb ?_)
        rw [e1, e2]
        show wpAny _ A.in1 (compareOp .Lt (.str (S ls[i]) t) (.str (S ks[i]) u) >>= _) _ _ s
        refine wpAny_bind (PyProof.Rows.lt_str (wpAny_pure ?_))
        exact h
    · have hk' : i = ks.length := by omega
      have e2 : us.toArray[((i : Nat) : Int).toNat]? = none := by simp; omega
      rw [e2]
      show wpAny _ A.in1 (Builtin.List.listItems (.ref a) >>= _) _ _ s
      refine wpAny_bind (listItems_at hoa hda ?_)
      show wpAny _ A.in1 (Builtin.List.listItems (.ref b) >>= _) _ _ s
      refine wpAny_bind (listItems_at hob hdb ?_)
      show wpAny _ A.in1 (ret (.bool (decide (vs.toArray.size < us.toArray.size)))) _ _ s
      refine wpAny_pure ?_
      have e3 : decide (ls.drop i < ks.drop i) = decide (vs.toArray.size < us.toArray.size) := by
        refine decide_eq_decide.mpr ?_
        rw [hk', List.drop_length]
        simp only [List.size_toArray]
        constructor
        · intro q; exact absurd q (List.not_lt_nil _)
        · intro q; omega
      rw [← e3]; exact h
/-- the question of two lists of texts -/
theorem askRow {w : World} {A : Around} {s : Shared} {a b : Addr} {vs us : List Value} {ls ks : List (List Nat)} {C : Bool → Shared → Prop} {E : Value → Shared → Prop} (ha : s.heap.IsList a vs.toArray) (hv : Txts vs ls) (hb : s.heap.IsList b us.toArray) (hu : Txts us ks) (hA : A.units ≤ 3850)
    (h : C (decide (ls < ks)) s) : wpAny (model pr w) A (keyLt' oneType' (.ref a) (.ref b)) C E s := by
  rw [keyLt'_oneType, oneLt'_eq]
  simp only [if_true]
  refine wpAny_bind (wpAny_cRoomFor (Nat.lt_of_le_of_lt hA (by decide)) ?_)
  refine wpAny_bind (wpAny_callSpecialIfBound?_slot (T := "list") (name := Str.ofString "__lt__") ha.typeIs F.slot_list_lt (wpAny_call (codeAny_call_builtin F.slot_list_lt.plain F.entry_list_lt (F.slot_list_lt.check _ _ _ _ _ _ _ _ ha.typeIs (F.args_list_lt_2 _ _) ?_))))
  show wpAny _ A.in1 (isInstance (.ref b) (.type "list") >>= _) _ _ s
  refine wpAny_bind (wpAny_isInstance (T := "list") (b := true) hb.typeIs (by rw [isSubtype_type]; kernel_rfl) ?_)
  refine wpAny_ite_false (by decide) ?_
  refine wpAny_ite_false (by decide) ?_
  refine wpAny_pure ⟨plainId_quiet MeetsSeq3.plain_eq_loop _, ?_⟩
  refine ltLoop ha hv hb hu ls.length 0 rfl (Nat.zero_le _) (Nat.zero_le _) ?_
  exact wpAny_truthy_bool h
/-- a value that is a list of these texts -/
def RowAt (h : Heap) (v : Value) (row : List (List Nat)) : Prop := ∃ a us, v = .ref a ∧ h.IsList a us.toArray ∧ Txts us row
abbrev RowsAt (h : Heap) (vs : List Value) (rows : List (List (List Nat))) : Prop := Paired (RowAt h) vs rows
theorem RowAt.keeps {h h' : Heap} {v : Value} {row : List (List Nat)} (x : RowAt h v row) (k : ∀ b o, h.get? b = some o → h'.get? b = some o) : RowAt h' v row := let ⟨a, us, e, l, t⟩ := x; ⟨a, us, e, l.at fun o q => k _ o q, t⟩
theorem rows_keeps {h h' : Heap} {vs : List Value} {rows : List (List (List Nat))} (x : RowsAt h vs rows) (k : ∀ b o, h.get? b = some o → h'.get? b = some o) : RowsAt h' vs rows := by
  induction x with
  | nil => exact .nil
  | cons h _ ih => exact .cons (h.keeps k) ih
/-- the order of the rows at the numbers -/
def ansR (rs : List (List (List Nat))) (i j : Nat) : Bool := decide (rs.getD i [] < rs.getD j [])
theorem ansR_ord (rs : List (List (List Nat))) : Ord3 (ansR rs) where
  refl a := by unfold ansR; simp
  trans a b c h1 h2 := by
    unfold ansR at *
    simp only [decide_eq_false_iff_not, List.not_lt] at *
    exact List.le_trans h1 h2
  asym a b h := by
    unfold ansR at *
    simp only [decide_eq_false_iff_not, decide_eq_true_eq, List.not_lt] at *
    exact List.le_of_lt h
theorem perm_outR {rs : List (List (List Nat))} {p : Array Nat} {n : Nat} (hn : rs.length = n) (hp : InN n p) (hu : Up (ansR rs) p n) : (p.toList.map fun i => rs.getD i []).Perm rs ∧ (p.toList.map fun i => rs.getD i []).Pairwise (fun a b => ¬ b < a) := by
  constructor
  · refine (hp.2.map _).trans ?_
    have : (List.range n).map (fun i => rs.getD i []) = rs := by
      refine List.ext_getElem (by simp [hn]) fun i h1 h2 => ?_
      simp [h2]
    rw [this]
  · rw [List.pairwise_iff_getElem]
    intro i j hi hj hij
    have hi' : i < p.size := by simpa using hi
    have hj' : j < p.size := by simpa using hj
    have := hu i j (Nat.le_of_lt hij) (by rw [← hp.1]; exact hj')
    unfold ansR at this
    simp only [decide_eq_false_iff_not] at this
    have e1 : G p i = p[i] := by simp [G, Array.getD, hi']
    have e2 : G p j = p[j] := by simp [G, Array.getD, hj']
    rw [e1, e2] at this
    simpa using this
theorem rows_at {h : Heap} {vs : List Value} {rows : List (List (List Nat))} (x : RowsAt h vs rows) {i : Nat} (hi : i < vs.length) : RowAt h (vs.getD i .none) (rows.getD i []) := by
  obtain ⟨p1, p2⟩ := paired_at x
  obtain ⟨y, e1, e2⟩ := p2 i vs[i] (List.getElem?_eq_getElem hi)
  rw [List.getD_eq_getElem?_getD, List.getD_eq_getElem?_getD, List.getElem?_eq_getElem hi, e1]
  exact e2
theorem rows_perm {h : Heap} {vs : List Value} {rows : List (List (List Nat))} (x : RowsAt h vs rows) {l : List Nat} (hl : ∀ i ∈ l, i < vs.length) : RowsAt h (l.map fun i => vs.getD i .none) (l.map fun i => rows.getD i []) := by
  induction l with
  | nil => exact .nil
  | cons i r ih => exact .cons (rows_at x (hl i (.head _))) (ih fun j hj => hl j (.tail _ hj))
end Mine
end

section
open PySem PySem.W PyProof.Rows
set_option maxRecDepth 100000
namespace Mine
theorem item_self {vs : List Value} {i : Nat} (hi : i < vs.length) : kas_item (vs.toArray.zip vs.toArray) i = (vs.getD i .none, vs.getD i .none) := by
  have : i < (vs.toArray.zip vs.toArray).size := by simp; omega
  unfold kas_item
  simp [Array.getD, hi]
set_option maxHeartbeats 1000000 in
theorem treeRows {w : World} {A : Around} {E : Value → Shared → Prop} {s₀ s : Shared} {a : Addr} {vs : List Value} {rows : List (List (List Nat))} {n0 : Nat} {P : PySem.Fin → Shared → Prop}
    (K0 : Keeps s₀ s) (fa : s₀.heap.get? a = none) (ha : s.heap.get? a = some (lsO vs.toArray n0)) (hv : RowsAt s₀.heap vs rows) (h2 : 2 ≤ vs.length) (h64 : vs.length < 64) (hu : A.units ≤ 3800)
    (h : ∀ s' us rs e', Keeps s₀ s' → s'.heap.get? a = some (lsO us.toArray e') → RowsAt s₀.heap us rs → rs.Perm rows → rs.Pairwise (fun a b => ¬ b < a) → P (.done (.ret .none)) s') :
    wpAny (model pr w) A (Builtin.«list.sort» ⟨[.ref a], []⟩) P E s := by
  have hlv : vs.length = rows.length := (paired_at hv).1
  rw [list_sort_plain]
  refine wpAny_bind (listItems_at ha rfl ?_)
  refine wpAny_bind (listUpdate_at ha rfl ?_ (by rw [List.size_toArray, sizeLine_eq]; omega) (Nat.zero_le _))
  obtain ⟨e1, ho1⟩ : ∃ e1, (s.heap.update a (Obj.mapSeq fun _ => (#[] : Array Value))).get? a = some (lsO #[] e1) := ⟨_, get?_update_seq ha fun _ => #[]⟩
  refine wpAny_bind (seqEpoch_at ho1 rfl ?_)
  refine wpAny_bind (wpAny_newTuple ?_ (by show vs.length ≤ _; rw [sizeLine_eq]; omega))
  refine wpAny_bind (wpAny_newList ?_ (Nat.zero_le _))
  refine wpAny_holding ?_
  have up0 : ∀ b o, s₀.heap.get? b = some o → (s.heap.update a (Obj.mapSeq fun _ => (#[] : Array Value))).get? b = some o := fun b o q => Heap.get?_update_of_ne _ (fun z => by rw [← z, fa] at q; cases q) (kGet K0 q)
  have X : Mk s₀ s₀.heap.get? ((s.heap.update a (Obj.mapSeq fun _ => (#[] : Array Value))).push (seqObj "tuple" vs.toArray 0)).objs.size (lsO #[] 0) a (lsO #[] e1)
      { s with heap := ((s.heap.update a (Obj.mapSeq fun _ => (#[] : Array Value))).push (seqObj "tuple" vs.toArray 0)).push (seqObj "list" #[] 0) } := by
    have hka : ((s.heap.update a (Obj.mapSeq fun _ => (#[] : Array Value))).push (seqObj "tuple" vs.toArray 0)).get? a = some (lsO #[] e1) := Heap.get?_push_of_some _ ho1
    refine ⟨sameT (sameK K0) ⟨_, _, rfl⟩, fun b o q => Heap.get?_push_of_some _ (Heap.get?_push_of_some _ (up0 b o q)), Heap.get?_push_size _ rfl, Heap.get?_push_of_some _ hka, ?_, fa, fun z => ?_⟩
    · cases q : s₀.heap.get? ((s.heap.update a (Obj.mapSeq fun _ => (#[] : Array Value))).push (seqObj "tuple" vs.toArray 0)).objs.size with
      | none => rfl
      | some o => exact absurd (Heap.lt_size (Heap.get?_push_of_some (seqObj "tuple" vs.toArray 0) (up0 _ _ q))) (Nat.lt_irrefl _)
    · have := Heap.lt_size hka
      exact absurd z (Nat.ne_of_gt this)
  show wpAny (model pr w) A _ P E
    { s with heap := ((s.heap.update a (Obj.mapSeq fun _ => (#[] : Array Value))).push (seqObj "tuple" vs.toArray 0)).push (seqObj "list" #[] 0) }
  generalize ((s.heap.update a (Obj.mapSeq fun _ => (#[] : Array Value))).push (seqObj "tuple" vs.toArray 0)).objs.size = kS at X
  generalize ({ s with heap := ((s.heap.update a (Obj.mapSeq fun _ => (#[] : Array Value))).push (seqObj "tuple" vs.toArray 0)).push (seqObj "list" #[] 0) } : Shared) = s1 at X ⊢
  clear up0 ho1
  dsimp only
  have hn2 : ¬ vs.toArray.size < 2 := by rw [List.size_toArray]; omega
  rw [if_neg hn2, if_neg hn2]
  refine wpAny_bind (kas_kind (T := .type "list") h2 (fun v hv' => ?_) rfl (by decide) ?_)
  · obtain ⟨i, hi, rfl⟩ := List.mem_iff_getElem.mp hv'
    have := rows_at hv hi
    rw [List.getD_eq_getElem?_getD, List.getElem?_eq_getElem hi] at this
    obtain ⟨b, us, eb, ⟨ob, hob, hcb, _⟩, _⟩ := this
    change vs[i] = _ at eb
    rw [eb, ← hcb]
    exact (Looks.ld (X.keep _ _ hob)).andThen .now
  have hzs : (vs.toArray.zip vs.toArray).size = vs.length := by simp
  refine wpAny_bind (sortPhase (ans := ansR rows) (n := vs.length) h2 h64 hzs (fun s'' => Mk s₀ s₀.heap.get? kS (lsO #[] 0) a (lsO #[] e1) s'') (ansR_ord rows) (fun i j C s'' hi hj Y hC => ?_) X fun p st' s'' hp hu' har hf Y => ?_)
  · rw [item_self hi, item_self hj]
    obtain ⟨x, ux, ex, lx, tx⟩ := rows_at hv hi
    obtain ⟨y, uy, ey, ly, ty⟩ := rows_at hv hj
    rw [ex, ey]
    exact askRow (lx.at fun o q => Y.keep _ o q) tx (ly.at fun o q => Y.keep _ o q) ty (by omega) (hC s'' Y)
  · dsimp only
    have hps : ∀ i ∈ p.toList, i < vs.length := fun i hi => List.mem_range.mp (hp.2.mem_iff.mp hi)
    have hout : (arrOf st').map (·.2) = (p.toList.map fun i => vs.getD i Value.none).toArray := by
      apply Array.toList_inj.mp
      rw [har, Array.map_map, Array.toList_map]
      refine List.map_congr_left fun i hi => ?_
      show (kas_item _ i).2 = _
      rw [item_self (hps i hi)]
    refine wpAny_bind (seqEpoch_at Y.c rfl ?_)
    refine wpAny_bind (listUpdate_at Y.c rfl ?_ (Nat.zero_le _) (by rw [hout, List.size_toArray, List.length_map, Array.length_toList, hp.1, sizeLine_eq]; omega))
    obtain ⟨e6, Y6⟩ := Y.setC (f := fun _ => (p.toList.map fun i => vs.getD i Value.none).toArray)
    rw [hf]
    simp only [bne_self_eq_false, Bool.false_eq_true, if_false, hout]
    obtain ⟨q1, q2⟩ := perm_outR hlv.symm hp hu'
    exact wpAny_pure (h _ _ _ e6 (Y6.done (fun b o q => q)) Y6.c (rows_perm hv hps) q1 q2)
/-- sorted(a list of lists of texts) -/
theorem sortedRows {w : World} {A : Around} {E : Value → Shared → Prop} {s : Shared} {l : Addr} {vs : List Value} {rows : List (List (List Nat))} {Q : Value → Shared → Prop}
    (hl : s.heap.IsList l vs.toArray) (hv : RowsAt s.heap vs rows) (h2 : 2 ≤ vs.length) (h64 : vs.length < 64) (hu : A.units ≤ 3790)
    (h : ∀ D s' us rs, Keeps s s' → s.heap.get? D = none → s'.heap.IsList D us.toArray → RowsAt s'.heap us rs → rs.Perm rows → rs.Pairwise (fun a b => ¬ b < a) → Q (.ref D) s') :
    wpAny (model pr w) A (call (.builtin "sorted") [.ref l]) Q E s := by
  refine Calls.call_function_entry kind_sorted plain_sorted entry_sorted (args_sorted1 _) ?_
  unfold Builtin.«sorted»
  refine wpAny_bind (m := checkCount "sorted" 1 1 _) (wpAny_pure ?_)
  refine wpAny_bind (collect_list hl ?_ (by rw [sizeLine_eq]; omega))
  refine wpAny_bind (newObjA fun a s₁ fa ha K₁ => ?_)
  have K0 : Keeps s { s with heap := (s.heap.push (seqObj "list" #[] 0)).update s.heap.objs.size (Obj.mapSeq (· ++ vs.toArray)) } :=
    ⟨_, _, rfl, fun b o e => Heap.get?_update_of_ne _ (fun q => by rw [← q] at e; exact absurd (Heap.lt_size e) (Nat.lt_irrefl _)) (Heap.get?_push_of_some _ e)⟩
  have fa' : s.heap.get? a = none := by
    cases q : s.heap.get? a with
    | none => rfl
    | some o => rw [kGet K0 q] at fa; cases fa
  refine wpAny_bind (wpAny_holding (wpAny_call_entry slot_list_sort ⟨_, ha, rfl⟩ entry_list_sort ?body (args_list_sort _)))
  case body =>
    refine treeRows (kTrans K0 K₁) fa' ha hv h2 h64 (by show A.units + 1 + 1 ≤ _; omega) fun s' us rs e' k' hD hr hp hs' => ⟨_, rfl, ?_⟩
    exact wpAny_pure ⟨_, rfl, h a s' us rs k' fa' ⟨_, hD, rfl, _, rfl⟩ (rows_keeps hr (kAll k')) hp hs'⟩
end Mine
end

section
open PySem PySem.W PyProof.Rows
set_option maxRecDepth 100000
namespace Mine
theorem gtCmp {w : World} {A : Around} {s : Shared} {k n md L1 bT : Addr} {kv : KV} {t' : Tok} {hs : Int} {t₁ : Tok} {hd : Int} {td tK : Tok} {x y : Addr} {a b : List Nat} {Q : Value → Shared → Prop} {E : Value → Shared → Prop}
    (I : KIs w s.heap k n md L1 bT kv t' hs t₁ hd td tK) (H : Has w s.heap) (ix : KInst s.heap k x a) (iy : KInst s.heap k y b) (ha : a.length ≤ 2 ^ 20) (hb : b.length ≤ 2 ^ 20) (hA : A.handled = none) (hdp : A.depth ≤ 385) (hu : A.units ≤ 3850)
    (h : ∀ s', Keeps s s' → Q (.bool (decide (b < a))) s') : wpAny (model pr w) A (richCompare .Gt (.ref x) (.ref y)) Q E s := by
  obtain ⟨K, X, KK⟩ := I.rows
  obtain ⟨dx, tx, hx, hdx⟩ := id ix
  obtain ⟨dy, ty, hy, hdy⟩ := id iy
  have Ix : InstAt s.heap x (insO k dx (.str (S a) tx)) k (some emptyDict) := ⟨hx, rfl, rfl, hdx⟩
  have Iy : InstAt s.heap y (insO k dy (.str (S b) ty)) k (some emptyDict) := ⟨hy, rfl, rfl, hdy⟩
  unfold richCompare
  simp only [oneThing_ref]
  refine wpAny_holding (wpAny_bind (wpAny_cRoomFor (Nat.lt_of_le_of_lt hu (by decide)) ?_))
  refine wpAny_bind (Ix.type.here (wpAny_bind (Iy.type.here ?_)))
  rw [if_neg (by simp)]
  refine wpAny_bind (wpAny_pure ?_)
  simp only [Bool.false_eq_true, if_false]
  refine wpAny_bind ?_
  unfold tryCompare
  refine wpAny_bind (ifBound_K (K := K) X Ix KK.gt (by unfold isFn; rw [KK.tgt]; rfl) ?_)
  refine useSpec (gtFn I H ix iy ha hb) hA hdp hu fun v s' k' hv => ?_
  subst hv
  have := h s' k'
  rw [← cmpI_gt] at this
  exact wpAny_pure (wpAny_pure this)
theorem args_max_key (a v : Value) : argsOk "max" ⟨[a], [(Str.ofString "key", v)]⟩ := by unfold argsOk; kernel_rfl
section
variable {w : World} {A : Around} {E : Value → Shared → Prop} {s₀ : Shared} {k n md L1 bT : Addr} {kv : KV} {t' : Tok} {hs : Int} {t₁ : Tok} {hd : Int} {td tK : Tok} {l I Sb : Addr} {vs : List Value} {ls : List (List Nat)} {R : Result → Shared → Prop}
/-- where the search stands behind j items -/
structure MaxSt (w : World) (s₀ : Shared) (k l I Sb : Addr) (vs : List Value) (ls : List (List Nat)) (j : Nat) (s : Shared) : Prop where
  mk' : ∃ (B : Addr → Option Obj) (oI : Obj) (c i : Nat) (vb : Value) (xb : Addr) (lb : List Nat), Mk s₀ B I oI Sb (lsO #[vb, .ref xb] c) s ∧ Sub s₀.heap.get? B ∧ vs[i]? = some vb ∧ ls[i]? = some lb ∧ OnB B (KInst · k xb lb) ∧ (∀ (j' : Nat) lj, j' < j → ls[j']? = some lj → ¬ lb < lj)
  it : s.heap.IsListIter I l j
set_option maxHeartbeats 1000000 in
theorem maxLoop (K : KIs w s₀.heap k n md L1 bT kv t' hs t₁ hd td tK) (H : Has w s₀.heap) (hl : s₀.heap.IsList l vs.toArray) (hv : Txts vs ls) (h64 : vs.length < 64) (hls : ∀ l ∈ ls, l.length ≤ 2 ^ 20) (hlI : l ≠ I)
    (hA : A.handled = none) (hdp : A.depth ≤ 380) (hu : A.units ≤ 3790)
    (hR : ∀ (i : Nat) vb lb s', Keeps s₀ s' → vs[i]? = some vb → ls[i]? = some lb → (∀ lj ∈ ls, ¬ lb < lj) → R (.ok (.ret vb)) s') :
    ∀ (r j : Nat) (s : Shared), vs.length - j = r → j ≤ vs.length → MaxSt w s₀ k l I Sb vs ls j s → codeAny (model pr w) A (.builtin "max.loop" ⟨[.ref I, .ref k, .ref Sb], []⟩) R s := by
  have hname : (toString "max" ++ toString ".loop" : String) = "max.loop" := by decide
  have W := Walks.list (prog := pr) (w := w) (A := A.in1) hA I l hlI vs.toArray
  have hsz : vs.toArray.size = vs.length := List.size_toArray ..
  have hlv := txts_len hv
  intro r
  induction r with
  | zero =>
    intro j s hr hj M
    obtain ⟨⟨B, oI, c, i, vb, xb, lb, X, sb, hvb, hlb, hkb, hbest⟩, hit⟩ := M
    have hj' : j = vs.length := by omega
    have up : ∀ b o, s₀.heap.get? b = some o → s.heap.get? b = some o := fun b o q => X.keep b o (sb b o q)
    refine codeAny_builtin PySem.F.entry_max_loop ?_
    rw [Around.under_plainId PySem.F.plain_max_loop _]
    show wpAny _ A.in1 (seqItems? (.ref Sb) >>= _) _ _ _
    refine wpAny_bind (wpAny_seqItems X.c rfl ?_)
    show wpAny _ A.in1 (tryCatch (pyNext (.ref I)) _ >>= _) _ _ _
    refine wpAny_bind (wpAny_tryCatch (W.done _ _ _ ⟨by rw [hsz, ← hj']; exact hit, hl.at fun o e => up _ o e⟩ fun h' tk' hk' => ?_))
    have hS' := hk' Sb _ (by simpa using Ne.symm X.ne) X.c
    show wpAny _ A.in1 (updateSeq Sb (fun _ => #[]) >>= _) _ _ _
    refine wpAny_bind ?_
    refine wpAny_updateSeq hS' rfl (wpAny_bind (wpAny_letGo (wpAny_pure ?_)))
    refine hR i vb lb _ ?_ hvb hlb fun lj hlj => ?_
    · obtain ⟨h0, t0, e⟩ := X.same
      subst e
      exact ⟨_, _, rfl, fun b o q => Heap.get?_update_of_ne _ (fun z => by rw [← z] at q; have := sb _ _ q; rw [X.fa] at this; cases this) (hk' b o (fun z => by rw [List.mem_singleton.mp z] at q; have := sb _ _ q; rw [X.fn] at this; cases this) (up b o q))⟩
    · obtain ⟨j', e⟩ := List.getElem?_of_mem hlj
      exact hbest j' lj (by rw [hj', hlv]; exact (List.getElem?_eq_some_iff.mp e).1) e
  | succ r ih =>
    intro j s hr hj M
    obtain ⟨⟨B, oI, c, i, vb, xb, lb, X, sb, hvb, hlb, hkb, hbest⟩, hit⟩ := M
    have hlt : j < vs.length := by omega
    have up : ∀ b o, s₀.heap.get? b = some o → s.heap.get? b = some o := fun b o q => X.keep b o (sb b o q)
    refine codeAny_builtin PySem.F.entry_max_loop ?_
    rw [Around.under_plainId PySem.F.plain_max_loop _]
    show wpAny _ A.in1 (seqItems? (.ref Sb) >>= _) _ _ _
    refine wpAny_bind (wpAny_seqItems X.c rfl ?_)
    show wpAny _ A.in1 (tryCatch (pyNext (.ref I)) _ >>= _) _ _ _
    refine wpAny_bind (wpAny_tryCatch (W.item j _ _ _ (by rw [hsz]; exact hlt) ⟨hit, hl.at fun o e => up _ o e⟩ fun v h' tk' hP hst' hk' => ?_))
    have hvj : vs[j]? = some v := by simpa using hP
    obtain ⟨lj, t, hlj, rfl⟩ := txts_at hv hvj
    obtain ⟨oI', hoI', hoc, hod⟩ := id hst'.1
    have X1 : Mk s₀ B I oI' Sb (lsO #[vb, .ref xb] c) { s with heap := h', toks := tk' } :=
      ⟨sameT X.same ⟨_, _, rfl⟩, fun b o q => hk' b o (fun z => by rw [List.mem_singleton.mp z, X.fn] at q; cases q) (X.keep b o q), hoI', hk' Sb _ (by simpa using Ne.symm X.ne) X.c, X.fn, X.fa, X.ne⟩
    have up1 : ∀ b o, s₀.heap.get? b = some o → h'.get? b = some o := fun b o q => X1.keep b o (sb b o q)
    show wpAny _ A.in1 (tryCatch (holding [.str (S lj) t] (call (.ref k) [.str (S lj) t])) _ >>= _) _ _ _
    refine wpAny_bind (wpAny_tryCatch (wpAny_holding (newK (s := { s with heap := h', toks := tk' }) (K.keeps up1) (H.keeps up1) hA hdp (by show A.units + 1 ≤ _; omega) fun x dx s'' fx k'' hx' hdx => ?_)))
    have X' := X1.keeps k''
    have fx1 : h'.get? x = none := fx
    have n1 : I ≠ x := fun z => by rw [← z] at fx1; have := X1.d; rw [show h'.get? I = none from fx1] at this; cases this
    have n2 : Sb ≠ x := fun z => by rw [← z] at fx1; have := X1.c; rw [show h'.get? Sb = none from fx1] at this; cases this
    have n4 : Sb ≠ dx := fun z => by rw [← z, X'.c] at hdx; exact absurd (congrArg Obj.data (Option.some.inj hdx)) (by intro q; cases q)
    have n3 : I ≠ dx := fun z => by rw [← z, X'.d] at hdx; have := congrArg Obj.data (Option.some.inj hdx); rw [hod] at this; cases this
    obtain ⟨X2, b1⟩ := X'.with hx' n1 n2
    obtain ⟨X3, b2⟩ := X2.with hdx n3 n4
    have up3 : ∀ b o, s₀.heap.get? b = some o → s''.heap.get? b = some o := fun b o q => X'.keep b o (sb b o q)
    have kx : OnB (addB (addB B x _) dx _) (KInst · k x lj) := fun hh kk => ⟨dx, t, kk _ _ (b2 _ _ (if_pos rfl)), kk _ _ (if_pos rfl)⟩
    have it3 : s''.heap.IsListIter I l (j + 1) := ⟨oI', X'.d, hoc, hod⟩
    refine wpAny_bind (wpAny_tryCatch (wpAny_holding (wpAny_bind ?_)))
    refine gtCmp (K.keeps up3) (H.keeps up3) (kx _ X3.keep) (hkb _ X'.keep) (hls _ (List.mem_of_getElem? hlj)) (hls _ (List.mem_of_getElem? hlb)) hA (by show A.depth ≤ _; omega) (by show A.units + 1 ≤ _; omega) fun s4 k4 => ?_
    have X4 := X3.keeps k4
    have it4 : s4.heap.IsListIter I l (j + 1) := ⟨oI', X4.d, hoc, hod⟩
    refine wpAny_bind (wpAny_holding (wpAny_truthy_bool ?_))
    refine wpAny_bind (wpAny_letGo (wpAny_pure ?_))
    by_cases hb' : lb < lj
    · simp only [hb', decide_true, if_true]
      obtain ⟨c5, X5⟩ := X4.setC (f := fun _ => #[.str (S lj) t, .ref x])
      refine wpAny_bind ?_
      refine wpAny_updateSeq X4.c rfl (wpAny_bind (wpAny_letGo ?_))
      rw [hname]
      refine wpAny_pure ⟨plainId_quiet PySem.F.plain_max_loop _, ih (j + 1) _ (by omega) (by omega) ⟨⟨_, oI', c5, j, _, x, lj, X5, (sb.trans b1).trans b2, hvj, hlj, kx, fun j' lj' hj' hlj' => ?_⟩, ⟨oI', X5.d, hoc, hod⟩⟩⟩
      rcases Nat.lt_or_ge j' j with q | q
      · exact fun z => hbest j' lj' q hlj' (List.lt_trans hb' z)
      · have : j' = j := by omega
        subst this
        rw [hlj] at hlj'; cases hlj'
        exact List.lt_irrefl _
    · simp only [hb', decide_false, Bool.false_eq_true, if_false]
      refine wpAny_bind (wpAny_letGo ?_)
      rw [hname]
      refine wpAny_pure ⟨plainId_quiet PySem.F.plain_max_loop _, ih (j + 1) _ (by omega) (by omega) ⟨⟨_, oI', c, i, vb, xb, lb, X4, (sb.trans b1).trans b2, hvb, hlb, (hkb.mono b1).mono b2, fun j' lj' hj' hlj' => ?_⟩, it4⟩⟩
      rcases Nat.lt_or_ge j' j with q | q
      · exact hbest j' lj' q hlj'
      · have : j' = j := by omega
        subst this
        rw [hlj] at hlj'; cases hlj'
        exact hb'
end
end Mine
end

section
open PySem PySem.W PyProof.Rows
set_option maxRecDepth 100000
namespace Mine
set_option maxHeartbeats 1000000 in
theorem maxKey {w : World} {A : Around} {E : Value → Shared → Prop} {s : Shared} {k n md L1 bT : Addr} {kv : KV} {t' : Tok} {hs : Int} {t₁ : Tok} {hd : Int} {td tK : Tok} {l : Addr} {vs : List Value} {ls : List (List Nat)} {Q : Value → Shared → Prop}
    (K : KIs w s.heap k n md L1 bT kv t' hs t₁ hd td tK) (H : Has w s.heap) (hl : s.heap.IsList l vs.toArray) (hv : Txts vs ls) (h1 : 1 ≤ vs.length) (h64 : vs.length < 64) (hls : ∀ l ∈ ls, l.length ≤ 2 ^ 20)
    (hA : A.handled = none) (hdp : A.depth ≤ 380) (hu : A.units ≤ 3780)
    (h : ∀ lb t s', Keeps s s' → lb ∈ ls → (∀ lj ∈ ls, ¬ lb < lj) → Q (.str (S lb) t) s') :
    wpAny (model pr w) A (call (.builtin "max") [.ref l] [("key", .ref k)]) Q E s := by
  have hname : (toString "max" ++ toString ".loop" : String) = "max.loop" := by decide
  obtain ⟨ol, hol, _⟩ := id hl
  have hll : l < s.heap.objs.size := Heap.lt_size hol
  refine kmk_tree PySem.F.kind_max PySem.F.plain_max PySem.F.entry_max (args_max_key _ _) ?_
  show wpAny _ A.in1 (Builtin.Builtins.bindParams "max" ["key", "default"] 0 ⟨[], [(Str.ofString "key", .ref k)]⟩ >>= _) _ _ s
  refine wpAny_bind (wpAny_of_eq (show Builtin.Builtins.bindParams "max" ["key", "default"] 0 ⟨[], [(Str.ofString "key", .ref k)]⟩ = pure [some (.ref k), none] from rfl) ?_)
  refine wpAny_bind (wpAny_pure ?_)
  refine wpAny_bind (wpAny_pyIter_list hl ?_)
  refine wpAny_bind (newObjA fun Sb s₁ fS hS K₁ => ?_)
  rw [hname]
  have fI := fresh_none s.heap
  have gI : s₁.heap.get? s.heap.objs.size = some { cls := .type "list_iterator", data := .fields #[.ref l, .int 0 0] } := kGet K₁ (Heap.get?_push_size _ rfl)
  have hlI : l ≠ s.heap.objs.size := Nat.ne_of_lt hll
  have X : Mk s s.heap.get? s.heap.objs.size { cls := .type "list_iterator", data := .fields #[.ref l, .int 0 0] } Sb (lsO #[] 0) s₁ := by
    refine ⟨sameT ⟨_, _, rfl⟩ (sameK K₁), fun b o q => kGet K₁ (Heap.get?_push_of_some _ q), gI, hS, fI, ?_, fun z => ?_⟩
    · cases q : s.heap.get? Sb with
      | none => rfl
      | some o => have := Heap.get?_push_of_some { cls := .type "list_iterator", data := .fields #[.ref l, .int 0 0] } q; exact absurd (this.symm.trans fS) (by intro z; cases z)
    · rw [z, hS] at gI; exact absurd (congrArg Obj.data (Option.some.inj gI)) (by intro q; cases q)
  refine wpAny_pure ⟨plainId_quiet PySem.F.plain_max_loop _, ?_⟩
  generalize s.heap.objs.size = I at *
  have W := Walks.list (prog := pr) (w := w) (A := A.in1) hA I l hlI vs.toArray
  have hsz : vs.toArray.size = vs.length := List.size_toArray ..
  have up : ∀ b o, s.heap.get? b = some o → s₁.heap.get? b = some o := X.keep
  refine codeAny_builtin PySem.F.entry_max_loop ?_
  rw [Around.under_plainId PySem.F.plain_max_loop _]
  show wpAny _ A.in1 (seqItems? (.ref Sb) >>= _) _ _ _
  refine wpAny_bind (wpAny_seqItems X.c rfl ?_)
  show wpAny _ A.in1 (tryCatch (pyNext (.ref I)) _ >>= _) _ _ _
  refine wpAny_bind (wpAny_tryCatch (W.item 0 _ _ _ (by rw [hsz]; exact h1) ⟨⟨_, X.d, rfl, rfl⟩, hl.at fun o e => up _ o e⟩ fun v h' tk' hP hst' hk' => ?_))
  have hvj : vs[0]? = some v := by simpa using hP
  obtain ⟨lj, t, hlj, rfl⟩ := txts_at hv hvj
  obtain ⟨oI', hoI', hoc, hod⟩ := id hst'.1
  have X1 : Mk s s.heap.get? I oI' Sb (lsO #[] 0) { s₁ with heap := h', toks := tk' } :=
    ⟨sameT X.same ⟨_, _, rfl⟩, fun b o q => hk' b o (fun z => by rw [List.mem_singleton.mp z, X.fn] at q; cases q) (X.keep b o q), hoI', hk' Sb _ (by simpa using Ne.symm X.ne) X.c, X.fn, X.fa, X.ne⟩
  have up1 : ∀ b o, s.heap.get? b = some o → h'.get? b = some o := X1.keep
  show wpAny _ A.in1 (tryCatch (holding [.str (S lj) t] (call (.ref k) [.str (S lj) t])) _ >>= _) _ _ _
  refine wpAny_bind (wpAny_tryCatch (wpAny_holding (newK (s := { s₁ with heap := h', toks := tk' }) (K.keeps up1) (H.keeps up1) hA hdp (by show A.units + 1 ≤ _; omega) fun x dx s'' fx k'' hx' hdx => ?_)))
  have X' := X1.keeps k''
  have fx1 : h'.get? x = none := fx
  have n1 : I ≠ x := fun z => by rw [← z] at fx1; have := X1.d; rw [show h'.get? I = none from fx1] at this; cases this
  have n2 : Sb ≠ x := fun z => by rw [← z] at fx1; have := X1.c; rw [show h'.get? Sb = none from fx1] at this; cases this
  have n4 : Sb ≠ dx := fun z => by rw [← z, X'.c] at hdx; exact absurd (congrArg Obj.data (Option.some.inj hdx)) (by intro q; cases q)
  have n3 : I ≠ dx := fun z => by rw [← z, X'.d] at hdx; have := congrArg Obj.data (Option.some.inj hdx); rw [hod] at this; cases this
  obtain ⟨X2, b1⟩ := X'.with hx' n1 n2
  obtain ⟨X3, b2⟩ := X2.with hdx n3 n4
  have kx : OnB (addB (addB s.heap.get? x _) dx _) (KInst · k x lj) := fun hh kk => ⟨dx, t, kk _ _ (b2 _ _ (if_pos rfl)), kk _ _ (if_pos rfl)⟩
  obtain ⟨c5, X5⟩ := X3.setC (f := fun _ => #[.str (S lj) t, .ref x])
  refine wpAny_bind ?_
  refine wpAny_updateSeq X3.c rfl ?_
  rw [hname]
  refine wpAny_pure ⟨plainId_quiet PySem.F.plain_max_loop _, maxLoop K H hl hv h64 hls hlI hA hdp (by omega) (fun i vb lb s' k' hvb hlb hb => ?_) (vs.length - 1) 1 _ rfl h1 ⟨⟨_, oI', c5, 0, _, x, lj, X5, (b1.trans b2), hvj, hlj, kx, fun j' lj' hj' hlj' => ?_⟩, ⟨oI', X5.d, hoc, hod⟩⟩⟩
  · obtain ⟨lb', t', e1, rfl⟩ := txts_at hv hvb
    rw [hlb] at e1; cases e1
    exact h _ _ _ k' (List.mem_of_getElem? hlb) hb
  · have : j' = 0 := by omega
    subst this
    rw [hlj] at hlj'; cases hlj'
    exact List.lt_irrefl _
end Mine
end

section
open PySem PySem.W PyProof.Rows
set_option maxRecDepth 100000
namespace Mine
def JIn (w : World) (s : Shared) (C D J : Addr) (l : List Nat) (pre : List (List Nat)) (t : Tok) (St : Nat → Heap → Prop) (n : Nat) (s' : Shared) : Prop :=
  ∃ i m', n = l.length + 1 - i ∧ i ≤ l.length ∧ (∃ h tk, s' = { s with heap := h, toks := tk }) ∧ (∀ b o, b ≠ C → b ≠ D → b ≠ J → s.heap.get? b = some o → s'.heap.get? b = some o) ∧ s'.heap.Ns C m' ∧ m' "text" = some (.str (S l) t) ∧ SetP w s'.heap D (pre ++ (begs1 l).take i) ∧ St i s'.heap
def JOut (w : World) (s : Shared) (C D I a : Addr) (vs : List Value) (ls : List (List Nat)) (n : Nat) (s' : Shared) : Prop :=
  ∃ (j : Nat) (m' : Str → Option Value), n = vs.length + 1 - j ∧ j ≤ vs.length ∧ (∃ h tk, s' = { s with heap := h, toks := tk }) ∧ (∀ b o, b ≠ C → b ≠ D → b ≠ I → s.heap.get? b = some o → s'.heap.get? b = some o) ∧ s'.heap.Ns C m' ∧ SetP w s'.heap D (begs (ls.take j)) ∧ s'.heap.IsListIter I a j
section
variable {w : World} {A : Around} {R : Result → Shared → Prop} {s : Shared} {C D J : Addr} {cenv : Env} {names : List (Str × NameKind)} {cl : List (Str × Addr)}
set_option maxHeartbeats 1000000 in
theorem innerSet {iter iter' : Expr} {px py p1 p2 p3 p4 : Pos} {scope : Scope} {pos : Pos} {m : Str → Option Value} {l : List Nat} {t : Tok} {pre : List (List Nat)} {St : Nat → Heap → Prop}
    (e : EnvIs cenv C names cl) (hx : names.lookup (Str.ofString "text") = some .local) (hy : names.lookup (Str.ofString "size") = some .local)
    (W : Walks pr w A J [J] [J] l.length (fun i v => ∃ t, v = .int (1 + (i : Int) * 1) t) St) (hst : St 0 s.heap) (hns : s.heap.Ns C m) (hm : m "text" = some (.str (S l) t)) (hS : SetP w s.heap D pre) (hCD : C ≠ D) (hCJ : C ≠ J) (hDJ : D ≠ J) (hl : pre.length + l.length ≤ 1000)
    (hR : ∀ s' m', (∃ h tk, s' = { s with heap := h, toks := tk }) → (∀ b o, b ≠ C → b ≠ D → b ≠ J → s.heap.get? b = some o → s'.heap.get? b = some o) → s'.heap.Ns C m' → SetP w s'.heap D (pre ++ begs1 l) → R (.ok .next) s') :
    codeAny (model pr w) A (.compLoop (.SetComp (.Subscript (.Name "text" p1) (.Slice none (some (.Name "size" p2)) none p3) p4) [⟨.Name "text" px, iter, [], 0⟩, ⟨.Name "size" py, iter', [], 0⟩] scope pos) 1 (.ref J) (.ref D) cenv) R s := by
  refine codeAny_loop rfl (fun n s' => JIn w s C D J l pre t St n s')
    (fun n s' hI => ?_) (l.length + 1) ⟨0, m, rfl, Nat.zero_le _, ⟨_, _, rfl⟩, fun _ _ _ _ _ q => q, hns, hm, by simpa using hS, hst⟩
  obtain ⟨i, m', rfl, hi, hsame, hkeep, hns', hm', hS', hst'⟩ := hI
  show wpAny _ A ((compTurn _ 1 (.ref J) (.ref D) cenv).onRaise (fun x => do noteFrame x cenv; theTreesLotGoes x)) _ _ s'
  refine wpAny_noted ?_
  rw [compTurn_set1]
  refine wpAny_bind (wpAny_standAt (wpAny_bind ?_))
  by_cases hlt : i < l.length
  · refine W.item i _ _ _ hlt hst' fun v h₁ tk₁ hP hst₁ hk₁ => ?_
    obtain ⟨tv, rfl⟩ := hP
    have hP1 : (1 + (i : Int) * 1) = ((i + 1 : Nat) : Int) := by push_cast; omega
    rw [hP1]
    refine wpAny_bind (wpAny_of_eq (show letOwnedTupleGo (.Name _ py) (.ref J) _ = pure () from rfl) ?_)
    have ns1 : h₁.Ns C m' := hns'.at' fun o q => hk₁ C o (by simpa using hCJ) q
    refine wpAny_bind (wpAny_assign_Name (wpAny_storeName_local (env := cenv) (by unfold Env.kindOf; rw [e.names]; exact hy) (by rw [e.locals]; exact ns1) (fun h₂ hn₂ hs₂ => ?_) (by rw [e.kind]; rfl)))
    rw [e.locals] at hn₂ hs₂
    refine wpAny_bind (wpAny_bind (sliceTo (nmL hn₂ e hx (by rw [if_neg (by decide)]; exact hm') (nmL hn₂ e hy (if_pos rfl) ⟨l, t, i + 1, tv, rfl, rfl, by omega, fun s₃ t₃ k₃ => ?_⟩))))
    refine wpAny_bind (wpAny_standAt (wpAny_bind ?_))
    have S3 : SetP w s₃.heap D (pre ++ (begs1 l).take i) := hS'.keeps fun o q => kGet k₃ (hs₂.extBut D o (Ne.symm hCD) (hk₁ D o (by simpa using hDJ) q))
    refine addSetP S3 (by simp [begs1_len]; omega) fun s₄ hs₄ up₄ S4 => wpAny_pure (wpAny_pure ⟨rfl, ?_⟩)
    have up : ∀ b o, b ≠ C → b ≠ D → b ≠ J → s'.heap.get? b = some o → s₄.heap.get? b = some o := fun b o h1 h2 h3 q => up₄ b o h2 (kGet k₃ (hs₂.extBut b o h1 (hk₁ b o (by simpa using h3) q)))
    refine ⟨l.length + 1 - (i + 1), by omega, i + 1, _, rfl, hlt, smT hsame (smT ⟨_, _, rfl⟩ (smT (smK k₃) hs₄)), fun b o h1 h2 h3 q => up b o h1 h2 h3 (hkeep b o h1 h2 h3 q), (hn₂.keeps (kAll k₃)).at' fun o q => up₄ C o hCD q, by rw [if_neg (by decide)]; exact hm', ?_, ?_⟩
    · rw [List.append_assoc] at S4
      have : (begs1 l).take i ++ [l.take (i + 1)] = (begs1 l).take (i + 1) := by rw [List.take_add_one (l := begs1 l), begs1_at l hlt]; rfl
      rw [this] at S4; exact S4
    · refine W.frame _ _ _ hst₁ fun b hb o q => ?_
      have hbJ : b = J := by simpa using hb
      exact up₄ b o (by rw [hbJ]; exact Ne.symm hDJ) (kGet k₃ (hs₂.extBut b o (by rw [hbJ]; exact Ne.symm hCJ) q))
  · have hil : i = l.length := by omega
    subst hil
    refine W.done _ _ _ hst' fun h₁ tk₁ hk₁ => wpAny_pure ?_
    refine hR _ m' (smT hsame ⟨_, _, rfl⟩) (fun b o h1 h2 h3 q => hk₁ b o (by simpa using h3) (hkeep b o h1 h2 h3 q)) (hns'.at' fun o q => hk₁ C o (by simpa using hCJ) q) ?_
    have := hS'.keeps (h' := h₁) fun o q => hk₁ D o (by simpa using hDJ) q
    rw [List.take_of_length_le (by rw [begs1_len]; exact Nat.le_refl _)] at this
    exact this
theorem gl_range (w : World) : gl w "range" = none := by kernel_rfl
theorem bl_range (w : World) : bl w "range" = some (.type "range") := by kernel_rfl
theorem callT2 {L : Addr} {env : Env} {f : Str} {T : String} {p pos : Pos} {e1 e2 : Expr} {Q : Value → Shared → Prop} {E : Value → Shared → Prop} (H : Has w s.heap) (e : EnvIs env L names cl) (hn : names.lookup f = some .globalImplicit) (hg : gl w f = none) (hv : bl w f = some (.type T))
    (h : wpAny (model pr w) A (eval e1 env) (fun v s₁ => wpAny (model pr w) A (eval e2 env) (fun v2 s₂ => wpAny (model pr w) A (call (.type T) [v, v2]) Q E s₂) E s₁) E s)
    (hs : backTo pos (starEach [e1, e2] env) = [(false, eval e1 env), (false, eval e2 env)] := by rfl) (hd : (f == ("__debug__" : Str)) = false := by decide) :
    wpAny (model pr w) A (eval (.Call (.Name f p) [e1, e2] [] pos) env) Q E s := by
  show wpAny _ A (do callWith pos (← eval (.Name f p) env) [] (backTo pos (starEach [e1, e2] env)) (backToKw pos (keywordEach [] env))) Q E s
  refine wpAny_bind (nmB H e hn hg hv ?_ hd)
  rw [hs]
  exact PySem.callWith_type rfl (Calls.evalArgs_plain (Calls.spliced_cons (wpAny_mono h (fun v s₁ h₁ => Calls.spliced_cons (wpAny_mono h₁ (fun v2 s₂ h₂ => Calls.spliced_nil h₂) fun _ _ e => e)) fun _ _ e => e)))
theorem srcRange {n : Nat} {t u : Tok} {Q : Value → Shared → Prop} {E : Value → Shared → Prop} (hA : A.handled = none) (hn : n ≤ 2 ^ 20)
    (h : ∀ r s₁, Keeps s s₁ → (∀ (Q' : Value → Shared → Prop) (E' : Value → Shared → Prop), (∀ J s₂, Keeps s₁ s₂ → s₁.heap.get? J = none → IsRangeIter s₂.heap J (1 + (0 : Nat) * 1) ((n : Int) - (0 : Nat)) 1 → Q' (.ref J) s₂) → wpAny (model pr w) A (pyIter (.ref r)) Q' E' s₁) → Q (.ref r) s₁) :
    wpAny (model pr w) A (call (.type "range") [.int 1 t, .int ((n + 1 : Nat) : Int) u]) Q E s := by
  refine call_range_2 (h _ _ (kPush _ _) fun Q' E' hq => ?_)
  have e : Builtin.Range.rangeSize 1 ((n + 1 : Nat) : Int) 1 = (n : Int) := by
    rw [rangeSize_one]; split <;> omega
  refine wpAny_pyIter_range (IsRange.new ..) ?_ (hq _ _ (kPushH _) (size_none _) ?_)
  · have fits : ∀ i : Int, 0 ≤ i → i ≤ 2 ^ 21 → Builtin.Range.rangeFitsLong i = true := fun i h1 h2 => by
      unfold Builtin.Range.rangeFitsLong
      simp only [Bool.and_eq_true, decide_eq_true_eq]
      omega
    unfold Builtin.Range.small
    rw [e, if_pos (by decide), fits 1 (by omega) (by omega), fits _ (by omega) (by omega), fits (n : Int) (by omega) (by omega), fits (((n + 1 : Nat) : Int) + (1 - 1)) (by omega) (by omega)]
    simp
  · rw [e]
    have h1 : (1 + ((0 : Nat) : Int) * 1) = 1 := by decide
    have h2 : (n : Int) - ((0 : Nat) : Int) = n := by omega
    rw [h1, h2]
    exact Heap.get?_push_size _ rfl
set_option maxHeartbeats 1000000 in
theorem outerSet {iter : Expr} {px py p1 p2 p3 p4 q1 q2 q3 q4 q5 q6 q7 q8 : Pos} {k1 k2 : Nat} {scope : Scope} {pos : Pos} {m : Str → Option Value} {I a : Addr} {vs : List Value} {ls : List (List Nat)} 
    (e : EnvIs cenv C names cl) (hx : names.lookup (Str.ofString "text") = some .local) (hy : names.lookup (Str.ofString "size") = some .local) (hr : names.lookup (Str.ofString "range") = some .globalImplicit) (hle : names.lookup (Str.ofString "len") = some .globalImplicit)
    (H : Has w s.heap) (hA : A.handled = none) (hl : s.heap.IsList a vs.toArray) (hv : Txts vs ls) (hit : s.heap.IsListIter I a 0) (hns : s.heap.Ns C m) (hS : SetP w s.heap D []) (hCD : C ≠ D) (hCI : C ≠ I) (hDI : D ≠ I) (haI : a ≠ I) (haC : a ≠ C) (haD : a ≠ D) (fC : Free w C) (fD : Free w D) (fI : Free w I)
    (hbs : (begs ls).length ≤ 1000)
    (hR : ∀ s' m', (∃ h tk, s' = { s with heap := h, toks := tk }) → (∀ b o, b ≠ C → b ≠ D → b ≠ I → s.heap.get? b = some o → s'.heap.get? b = some o) → s'.heap.Ns C m' → SetP w s'.heap D (begs ls) → R (.ok .next) s') :
    codeAny (model pr w) A (.compLoop (.SetComp (.Subscript (.Name "text" p1) (.Slice none (some (.Name "size" p2)) none p3) p4) [⟨.Name "text" px, iter, [], 0⟩, ⟨.Name "size" py,
      .Call (.Name "range" q1) [.Constant (.int 1) k1 q2, .BinOp (.Call (.Name "len" q3) [.Name "text" q4] [] q5) .Add (.Constant (.int 1) k2 q6) q7] [] q8, [], 0⟩] scope pos) 0 (.ref I) (.ref D) cenv) R s := by
  have W := Walks.list (prog := pr) (w := w) (A := A) hA I a haI vs.toArray
  have hsz : vs.toArray.size = vs.length := List.size_toArray ..
  have hlv := txts_len hv
  have hbl : ∀ j l, ls[j]? = some l → (begs (ls.take j)).length + l.length ≤ 1000 := fun j l q => by
    have hj : j < ls.length := (List.getElem?_eq_some_iff.mp q).1
    have e1 : ls = ls.take j ++ (l :: ls.drop (j + 1)) := by
      have : l = ls[j] := by rw [List.getElem?_eq_getElem hj] at q; exact (Option.some.inj q).symm
      rw [this, ← List.drop_eq_getElem_cons hj, List.take_append_drop]
    have e2 : (begs ls).length = (begs (ls.take j)).length + ((begs1 l).length + (begs (ls.drop (j + 1))).length) := by
      conv => lhs; rw [e1]
      unfold begs
      rw [List.flatMap_append, List.flatMap_cons, List.length_append, List.length_append]
    rw [begs1_len] at e2
    omega
  refine codeAny_loop rfl (fun n s' => JOut w s C D I a vs ls n s')
    (fun n s' hI => ?_) (vs.length + 1) ⟨0, m, rfl, Nat.zero_le _, ⟨_, _, rfl⟩, fun _ _ _ _ _ q => q, hns, hS, hit⟩
  obtain ⟨j, m', rfl, hj, hsame, hkeep, hns', hS', hit'⟩ := hI
  have hl' : s'.heap.IsList a vs.toArray := hl.at fun o q => hkeep a o haC haD haI q
  have H' : Has w s'.heap := ⟨fun b o h1 h2 q => hkeep b o (fun z => fC.no o (z ▸ q)) (fun z => fD.no o (z ▸ q)) (fun z => fI.no o (z ▸ q)) (H.at' b o h1 h2 q),
    let ⟨o, q⟩ := H.t58; ⟨o, hkeep 58 o (Ne.symm fC.n58) (Ne.symm fD.n58) (Ne.symm fI.n58) q⟩, let ⟨o, q⟩ := H.t122; ⟨o, hkeep 122 o (Ne.symm fC.n122) (Ne.symm fD.n122) (Ne.symm fI.n122) q⟩⟩
  show wpAny _ A ((compTurn _ 0 (.ref I) (.ref D) cenv).onRaise (fun x => do noteFrame x cenv; theTreesLotGoes x)) _ _ s'
  refine wpAny_noted ?_
  rw [compTurn_set0]
  refine wpAny_bind (wpAny_standAt (wpAny_bind ?_))
  by_cases hlt : j < vs.length
  · refine W.item j _ _ _ (by rw [hsz]; exact hlt) ⟨hit', hl'⟩ fun v h₁ tk₁ hP hst₁ hk₁ => ?_
    obtain ⟨l, t, hlj, rfl⟩ := txts_at hv (i := j) (by simpa using hP)
    refine wpAny_bind (wpAny_of_eq (show letOwnedTupleGo (.Name _ px) (.ref I) _ = pure () from rfl) ?_)
    have ns1 : h₁.Ns C m' := hns'.at' fun o q => hk₁ C o (by simpa using hCI) q
    refine wpAny_bind (wpAny_assign_Name (wpAny_storeName_local (env := cenv) (by unfold Env.kindOf; rw [e.names]; exact hx) (by rw [e.locals]; exact ns1) (fun h₂ hn₂ hs₂ => ?_) (by rw [e.kind]; rfl)))
    rw [e.locals] at hn₂ hs₂
    have up₂ : ∀ b o, b ≠ C → b ≠ I → s'.heap.get? b = some o → h₂.get? b = some o := fun b o h1 h2 q => hs₂.extBut b o h1 (hk₁ b o (by simpa using h2) q)
    have H₂ : Has w h₂ := ⟨fun b o h1 h2 q => up₂ b o (fun z => fC.no o (z ▸ q)) (fun z => fI.no o (z ▸ q)) (H'.at' b o h1 h2 q),
      let ⟨o, q⟩ := H'.t58; ⟨o, up₂ 58 o (Ne.symm fC.n58) (Ne.symm fI.n58) q⟩, let ⟨o, q⟩ := H'.t122; ⟨o, up₂ 122 o (Ne.symm fC.n122) (Ne.symm fI.n122) q⟩⟩
    have hll : l.length ≤ 1000 := by have := hbl j l hlj; omega
    refine wpAny_bind ?_
    refine callT2 H₂ e hr (gl_range w) (bl_range w) (cInt fun s₃ t₃ k₃ => wpAny_BinOp (callB1 (kHas k₃ H₂) e hle (gl_len w) (bl_len w) (nmL (hn₂.keeps (kAll k₃)) e hx (if_pos rfl) (opLen (by omega) fun s₄ t₄ k₄ => cInt fun s₅ t₅ k₅ => opAdd fun s₆ t₆ k₆ => ?_))))
    have k36 := kTrans (kTrans (kTrans k₃ k₄) k₅) k₆
    refine srcRange (n := l.length) hA (by omega) fun r s₇ k₇ hr' => ?_
    refine wpAny_bind (wpAny_standAt (wpAny_bind (wpAny_pure (wpAny_bind (wpAny_holding (hr' _ _ fun J s₈ k₈ fJ hJ => ?_))))))
    have k28 := kTrans (kTrans k36 k₇) k₈
    have st8 : s₈.heap.IsListIter I a (j + 1) := let ⟨o, q, r⟩ := hst₁.1; ⟨o, kGet k28 (hs₂.extBut I o (Ne.symm hCI) q), r⟩
    have ns8 := hn₂.keeps (kAll k28)
    have S8 : SetP w s₈.heap D (begs (ls.take j)) := hS'.keeps fun o q => kGet k28 (up₂ D o (Ne.symm hCD) hDI q)
    have jne : ∀ b o, h₂.get? b = some o → b ≠ J := fun b o q z => by
      have := kGet (kTrans k36 k₇) (a := b) q
      rw [z, fJ] at this; cases this
    obtain ⟨oC, _, _, hoC, _⟩ := id hn₂
    obtain ⟨oD, _, _, _, _, hoD, _⟩ := hS'.at'
    obtain ⟨oI, hoI, _⟩ := id hst₁.1
    have WJ := Walks.range (prog := pr) (w := w) (A := A.mark none) (show (A.mark none).handled = none from hA) J 1 1 l.length
    have upJ : ∀ b o, b ≠ C → b ≠ I → s'.heap.get? b = some o → s₈.heap.get? b = some o := fun b o h1 h2 q => kGet k28 (up₂ b o h1 h2 q)
    have fin : ∀ (s'' : Shared) (m'' : Str → Option Value), (∃ h tk, s'' = { s₈ with heap := h, toks := tk }) → (∀ b o, b ≠ C → b ≠ D → b ≠ J → s₈.heap.get? b = some o → s''.heap.get? b = some o) → s''.heap.Ns C m'' → SetP w s''.heap D (begs (ls.take j) ++ begs1 l) →
        ∃ mm, mm < vs.length + 1 - j ∧ ∃ (j : Nat) (m' : Str → Option Value), mm = vs.length + 1 - j ∧ j ≤ vs.length ∧ (∃ h tk, s'' = { s with heap := h, toks := tk }) ∧ (∀ b o, b ≠ C → b ≠ D → b ≠ I → s.heap.get? b = some o → s''.heap.get? b = some o) ∧ s''.heap.Ns C m' ∧ SetP w s''.heap D (begs (ls.take j)) ∧ s''.heap.IsListIter I a j := by
      intro s'' m'' a1 a2 a3 a4
      refine ⟨vs.length + 1 - (j + 1), by omega, j + 1, m'', rfl, hlt, smT hsame (smT ⟨_, _, rfl⟩ (smT (smK k28) a1)), fun b o h1 h2 h3 q => ?_, a3, ?_, ?_⟩
      · have q2 := up₂ b o h1 h3 (hkeep b o h1 h2 h3 q)
        exact a2 b o h1 h2 (jne b o q2) (kGet k28 q2)
      · have : begs (ls.take (j + 1)) = begs (ls.take j) ++ begs1 l := by
          rw [List.take_add_one, hlj]; unfold begs; rw [List.flatMap_append]; simp
        rw [this]; exact a4
      · obtain ⟨o, q, r⟩ := st8
        have q2 := hs₂.extBut I oI (Ne.symm hCI) hoI
        exact ⟨o, a2 I o (Ne.symm hCI) (Ne.symm hDI) (jne I _ q2) q, r⟩
    refine wpAny_bind (wpAny_runOwn ?_)
    refine compStart_set (.inr rfl) ?_ (WJ.self 0 _ _ _ hJ ?_)
    · exact innerSet e hx hy WJ hJ ns8 (if_pos rfl) S8 hCD (jne C oC hoC) (jne D oD (up₂ D oD (Ne.symm hCD) hDI hoD)) (hbl j l hlj) fun s'' m'' a1 a2 a3 a4 => wpAny_pure ⟨rfl, fin s'' m'' a1 a2 a3 a4⟩
    · exact innerSet e hx hy WJ hJ ns8 (if_pos rfl) S8 hCD (jne C oC hoC) (jne D oD (up₂ D oD (Ne.symm hCD) hDI hoD)) (hbl j l hlj) fun s'' m'' a1 a2 a3 a4 => wpAny_pure ⟨rfl, fin s'' m'' a1 a2 a3 a4⟩
  · have hjl : j = vs.length := by omega
    subst hjl
    refine W.done _ _ _ ⟨by rw [hsz]; exact hit', hl'⟩ fun h₁ tk₁ hk₁ => wpAny_pure ?_
    refine hR _ m' (smT hsame ⟨_, _, rfl⟩) (fun b o h1 h2 h3 q => hk₁ b o (by simpa using h3) (hkeep b o h1 h2 h3 q)) (hns'.at' fun o q => hk₁ C o (by simpa using hCI) q) ?_
    have := hS'.keeps (h' := h₁) fun o q => hk₁ D o (by simpa using hDI) q
    rw [List.take_of_length_le (by omega)] at this
    exact this
end
end Mine
end

section
open PySem PySem.W PyProof.Rows
set_option maxRecDepth 100000
namespace Mine
theorem fnBegin (w : World) : FnK w 120 := ⟨⟨_, _, rfl, rfl⟩, by decide, by decide⟩
theorem gl_begin (w : World) : gl w "_law_beginnings" = some (.ref 120) := by kernel_rfl
set_option maxHeartbeats 1000000 in
theorem begin_spec (w : World) {s : Shared} (H : Has w s.heap) {a : Addr} {vs : List Value} {ls : List (List Nat)} (hl : s.heap.IsList a vs.toArray) (hv : Txts vs ls) (hbs : (begs ls).length ≤ 1000) :
    codeAny (model pr w) (Aw 390 3900) (.call (.ref 120) ⟨[.ref a], []⟩) (Post s fun v s' => ∃ D, v = .ref D ∧ s.heap.get? D = none ∧ SetP w s'.heap D (begs ls)) s := by
  refine enter [("texts", .local)] [("texts", .ref a)] H (by decide) (by decide) rfl (by kernel_rfl) (by intro e; cases e) (by intro e; cases e) rfl rfl (by kernel_rfl) (by kernel_rfl) rfl rfl rfl rfl rfl (by decide) (by kernel_rfl) rfl ?_
  intro Q L env s₁ fin0 e R hL _
  have h1 : (fun n => List.lookup n [(Str.ofString "texts", Value.ref a)].reverse) "texts" = some (.ref a) := rfl
  generalize (fun n => List.lookup n [(Str.ofString "texts", Value.ref a)].reverse) = m at R h1
  have kp : ∀ b o, s.heap.get? b = some o → s₁.heap.get? b = some o := fun b o q => R.keep b o (fun z => by rw [List.mem_singleton.mp z, hL] at q; cases q) q
  have hl1 : s₁.heap.IsList a vs.toArray := hl.at fun o q => kp _ o q
  have H1 := R.has
  refine wpAny_execs_cons (wpAny_Return_some ?_)
  rw [arm_eval_SetComp]
  refine wpAny_comprehension_free (use := none) rfl (by intro _; rfl) (cl := []) (by unfold closureFor cellOf; simp only [e.cells]; rfl) rfl (by
      intro y hy hq
      have : ([(Str.ofString ".0", NameKind.local), (Str.ofString "text", NameKind.local), (Str.ofString "size", NameKind.local), (Str.ofString "range", NameKind.globalImplicit), (Str.ofString "len", NameKind.globalImplicit)].all fun y => y.2 != .local || List.lookup y.1 [(Str.ofString ".0", NameKind.local), (Str.ofString "text", NameKind.local), (Str.ofString "size", NameKind.local), (Str.ofString "range", NameKind.globalImplicit), (Str.ofString "len", NameKind.globalImplicit)] == some .local) = true := by kernel_rfl
      have := List.all_eq_true.mp this y hy
      rw [hq] at this; simpa using this) ?_
  refine nmL R.ns e (by kernel_rfl) h1 ?_
  refine wpAny_pyIter_list hl1 ?_
  refine newSetP fun led hS => ?_
  refine wpAny_newFunctionEnv (by intro y hy hq; have : ([(Str.ofString ".0", NameKind.local), (Str.ofString "text", NameKind.local), (Str.ofString "size", NameKind.local), (Str.ofString "range", NameKind.globalImplicit), (Str.ofString "len", NameKind.globalImplicit)].all fun y => y.2 != .cell) = true := by kernel_rfl
                                  have := List.all_eq_true.mp this y hy
                                  rw [hq] at this; cases this) (by intro y hy; simp at hy) (fun h₁ hns₁ hsb₁ => ?_) rfl
  dsimp only at hns₁ hsb₁ hS ⊢
  have hlt : L < s₁.heap.objs.size := R.ns.lt
  have halt : a < s₁.heap.objs.size := let ⟨_, ho, _⟩ := hl1; Heap.lt_size ho
  have gI : (s₁.heap.push { cls := .type "list_iterator", data := .fields #[.ref a, .int 0 0] }).get? s₁.heap.objs.size = some { cls := .type "list_iterator", data := .fields #[.ref a, .int 0 0] } := Heap.get?_push_size _ rfl
  have z1 : (s₁.heap.push { cls := .type "list_iterator", data := .fields #[.ref a, .int 0 0] }).objs.size = s₁.heap.objs.size + 1 := Heap.size_push ..
  generalize hH1 : s₁.heap.push { cls := .type "list_iterator", data := .fields #[.ref a, .int 0 0] } = G1 at *
  have up1 : ∀ b o, s₁.heap.get? b = some o → G1.get? b = some o := fun b o q => by rw [← hH1]; exact Heap.get?_push_of_some _ q
  have z2 : (G1.push { cls := .type "set", dict := none, data := .set #[] 0 (.fresh 0 0 led) }).objs.size = G1.objs.size + 1 := Heap.size_push ..
  have up2 : ∀ b o, G1.get? b = some o → (G1.push { cls := .type "set", dict := none, data := .set #[] 0 (.fresh 0 0 led) }).get? b = some o := fun b o q => Heap.get?_push_of_some _ q
  generalize hH2 : G1.push { cls := .type "set", dict := none, data := .set #[] 0 (.fresh 0 0 led) } = G2 at *
  have up3 : ∀ b o, G2.get? b = some o → h₁.get? b = some o := fun b o q => hsb₁.extBut b o (Nat.ne_of_lt (Heap.lt_size q)) (Heap.get?_push_of_some _ q)
  have up : ∀ b o, s₁.heap.get? b = some o → h₁.get? b = some o := fun b o q => up3 b o (up2 b o (up1 b o q))
  have H3 : Has w h₁ := H1.keeps up
  have fr : ∀ c, s₁.heap.objs.size ≤ c → s₁.heap.get? c = none := fun c hc => Heap.get?_none_of_le hc
  have S3 : SetP w h₁ G1.objs.size [] := SetP.keeps hS fun o q => up3 _ o q
  have n1 : G2.objs.size ≠ G1.objs.size := by omega
  have n2 : G2.objs.size ≠ s₁.heap.objs.size := by omega
  have n3 : G1.objs.size ≠ s₁.heap.objs.size := by omega
  have n4 : a ≠ s₁.heap.objs.size := Nat.ne_of_lt halt
  have n5 : a ≠ G2.objs.size := Nat.ne_of_lt (by rw [z2, z1]; exact Nat.lt_succ_of_lt (Nat.lt_succ_of_lt halt))
  have n6 : a ≠ G1.objs.size := Nat.ne_of_lt (by rw [z1]; exact Nat.lt_succ_of_lt halt)
  have f1 : Free w G2.objs.size := H1.free (fr _ (by omega))
  have f2 : Free w G1.objs.size := H1.free (fr _ (by omega))
  have f3 : Free w s₁.heap.objs.size := H1.free (fr _ (Nat.le_refl _))
  have hit3 : h₁.IsListIter s₁.heap.objs.size a 0 := ⟨_, up3 _ _ (up2 _ _ gI), rfl, rfl⟩
  have hl3 : h₁.IsList a vs.toArray := hl1.at fun o q => up _ o q
  have hD0 : s.heap.get? G1.objs.size = none := by
    cases q : s.heap.get? G1.objs.size with
    | none => rfl
    | some o => exact absurd (Heap.lt_size (kp _ _ q)) (Nat.not_lt.mpr (by rw [z1]; exact Nat.le_succ _))
  have fin : ∀ (s' : Shared) (m' : Str → Option Value), (∃ h tk, s' = { s₁ with heap := h, toks := tk }) → (∀ b o, b ≠ G2.objs.size → b ≠ G1.objs.size → b ≠ s₁.heap.objs.size → h₁.get? b = some o → s'.heap.get? b = some o) → s'.heap.Ns G2.objs.size m' → SetP w s'.heap G1.objs.size (begs ls) →
      ∀ h', Heap.SameBut G2.objs.size s'.heap h' → Q (.ret (.ref G1.objs.size)) { s' with heap := h' } := by
    intro s' m' a1 a2 a3 a4 h' hs'
    refine fin0 _ _ ⟨_, rfl, ?_, _, rfl, hD0, SetP.keeps a4 fun o q => hs'.extBut _ o (Ne.symm n1) q⟩
    have sm := smT R.same a1
    obtain ⟨h0, t0, e0⟩ := sm
    subst e0
    refine ⟨h', t0, rfl, fun b o q => ?_⟩
    have q1 := kp b o q
    have hb := Heap.lt_size q1
    have b1 : b ≠ G2.objs.size := Nat.ne_of_lt (by rw [z2, z1]; exact Nat.lt_succ_of_lt (Nat.lt_succ_of_lt hb))
    exact hs'.extBut b o b1 (a2 b o b1 (Nat.ne_of_lt (by rw [z1]; exact Nat.lt_succ_of_lt hb)) (Nat.ne_of_lt hb) (up b o q1))
  refine compStart_set (.inl rfl) ?_ (wpAny_pyIter_listiter hit3 ?_)
  · exact outerSet (s := { s₁ with heap := h₁, toks := s₁.toks + ([] : List (Str × Value)).length }) (compEnv_is e rfl) (by kernel_rfl) (by kernel_rfl) (by kernel_rfl) (by kernel_rfl) H3 rfl hl3 hv hit3 hns₁ S3 n1 n2 n3 n4 n5 n6 f1 f2 f3 hbs fun s' m' a1 a2 a3 a4 => ⟨m', a3, fun h' hs' => fin s' m' (smT ⟨_, _, rfl⟩ a1) a2 a3 a4 h' hs'⟩
  · exact outerSet (s := { s₁ with heap := h₁, toks := s₁.toks + ([] : List (Str × Value)).length }) (compEnv_is e rfl) (by kernel_rfl) (by kernel_rfl) (by kernel_rfl) (by kernel_rfl) H3 rfl hl3 hv hit3 hns₁ S3 n1 n2 n3 n4 n5 n6 f1 f2 f3 hbs fun s' m' a1 a2 a3 a4 => ⟨m', a3, fun h' hs' => fin s' m' (smT ⟨_, _, rfl⟩ a1) a2 a3 a4 h' hs'⟩
end Mine
end

section
open PySem PySem.W PyProof.Rows
set_option maxRecDepth 100000
set_option linter.unusedVariables false
namespace Mine
/-- a code table that tells no name -/
def NoNm (T : Array Value) : Prop := ∀ q t, T[1]? ≠ some (.str q t)
theorem KTabs.but {w : World} {h h' : Heap} {T : Array Value} (x : KTabs w h) (hT : h.get? 122 = some (tabObj T)) (hn : NoNm T) (up : ∀ b o vs, b ≠ 122 → h.get? b = some o → o.data = .fields vs → h'.get? b = some o) : KTabs w h' := by
  obtain ⟨ps, a, b, d⟩ := x
  refine ⟨ps, up _ _ _ (by decide) a rfl, b, d.imp id fun ⟨c, P, e, hd, fr, qs, g1, g2, g3⟩ => ⟨c, P, e, ?_, fr, qs, up _ _ _ fr.n122 g1 rfl, g2, fun y hy => ?_⟩⟩
  · obtain ⟨o, vs, file, tf, flags, tg, inF, text, tt, e1, e2, e3, r⟩ := hd
    exact ⟨o, vs, file, tf, flags, tg, inF, text, tt, up _ _ _ (fun z => by rw [z, hT] at e1; cases e1; cases e2) e1 e3, e2, e3, r⟩
  · obtain ⟨dd, y1, c', o, vs, t, z1, z2, z3, z4⟩ := g3 y hy
    exact ⟨dd, y1, c', o, vs, t, z1, up _ _ _ (fun z => by rw [z, hT] at z2; cases z2; cases z3; exact hn _ _ z4) z2 z3, z3, z4⟩
/-- an address that is neither of the frame nor a code table -/
structure Out (L : Addr) (cs : List (Str × Addr)) (D : Addr) : Prop where
  no : D ∉ L :: cs.map (·.2)
  n58 : D ≠ 58
  n122 : D ≠ 122
/-- what lies outside stays -/
def Stp (L : Addr) (cs : List (Str × Addr)) (s s' : Shared) : Prop := ∀ b o, Out L cs b → s.heap.get? b = some o → s'.heap.get? b = some o
theorem Stp.trans {L : Addr} {cs : List (Str × Addr)} {s s' s'' : Shared} (x : Stp L cs s s') (y : Stp L cs s' s'') : Stp L cs s s'' := fun b o h e => y b o h (x b o h e)
theorem Stp.of {L : Addr} {cs : List (Str × Addr)} {s s' : Shared} (k : Keeps s s') : Stp L cs s s' := fun _ _ _ e => kGet k e
theorem Stp.drew {L : Addr} {cs : List (Str × Addr)} {s s' : Shared} (k : Drew s s') : Stp L cs s s' := fun _ _ _ e => k.keep _ _ e
/-- the law's frame, at a state -/
structure LW (w : World) (s₀ : Shared) (L : Addr) (cs : List (Str × Addr)) (m cm : Str → Option Value) (T : Array Value) (s : Shared) : Prop where
  ns : s.heap.Ns L m
  cell : ∀ n c, cs.lookup n = some c → s.heap.IsCell c (cm n)
  look : ∀ p ∈ cs, cs.lookup p.1 = some p.2
  apart : cs.Pairwise fun x y => x.2 ≠ y.2
  notL : ∀ n c, (n, c) ∈ cs → c ≠ L
  has : Has w s.heap
  free : ∀ a ∈ L :: cs.map (·.2), Free w a
  new : ∀ a ∈ L :: cs.map (·.2), s₀.heap.get? a = none
  grow : Grow s₀ s
  tabs : KTabs w s.heap
  t122 : s.heap.get? 122 = some (tabObj T)
  nn : NoNm T
section
variable {w : World} {s₀ s s' : Shared} {L : Addr} {cs : List (Str × Addr)} {m cm m' cm' : Str → Option Value} {T : Array Value}
theorem LW.live (x : LW w s₀ L cs m cm T s) {a : Addr} (ha : a ∈ L :: cs.map (·.2)) : ∃ o, s.heap.get? a = some o ∧ ∀ vs, o.data ≠ .fields vs := by
  rcases List.mem_cons.mp ha with rfl | ha
  · obtain ⟨o, es, nn, ho, hd, _⟩ := x.ns
    exact ⟨o, ho, fun vs q => by rw [hd] at q; cases q⟩
  · obtain ⟨p, hp, rfl⟩ := List.mem_map.mp ha
    obtain ⟨o, ho, hd⟩ := x.cell p.1 p.2 (x.look p hp)
    exact ⟨o, ho, fun vs q => by rw [hd] at q; cases q⟩
theorem LW.out (x : LW w s₀ L cs m cm T s) {D : Addr} (f : s.heap.get? D = none) : Out L cs D := by
  refine ⟨fun z => ?_, (x.has.free f).n58, (x.has.free f).n122⟩
  obtain ⟨o, ho, _⟩ := x.live z
  rw [f] at ho; cases ho
theorem LW.rc (x : LW w s₀ L cs m cm T s) : RegC w s L m cs cm s := ⟨⟨⟨s.heap, s.toks, rfl⟩, x.ns, fun _ _ _ e => e, .head _, x.has, x.free⟩, x.cell, x.apart, x.notL⟩
theorem LW.all (x : LW w s₀ L cs m cm T s) (up : ∀ b o, s.heap.get? b = some o → s'.heap.get? b = some o) (g : Grow s s') : LW w s₀ L cs m cm T s' :=
  ⟨x.ns.keeps up, fun n c h => (x.cell n c h).keeps up, x.look, x.apart, x.notL, x.has.keeps up, x.free, x.new, x.grow.trans g, x.tabs.keeps up, up _ _ x.t122, x.nn⟩
theorem LW.keeps (x : LW w s₀ L cs m cm T s) (k : Keeps s s') : LW w s₀ L cs m cm T s' := x.all (kAll k) (.of k)
theorem Grow.drew (d : Drew s s') : Grow s s' := ⟨d.os, d.gens, fun b o _ _ e => d.keep b o e, fun ps e => ⟨#[], by rw [d.keep _ _ e]; simp⟩, fun ps e => ⟨#[], by rw [d.keep _ _ e]; simp⟩⟩
theorem LW.drew (x : LW w s₀ L cs m cm T s) (d : Drew s s') : LW w s₀ L cs m cm T s' := x.all d.keep (.drew d)
/-- after cmp_to_key -/
theorem LW.cmpk (x : LW w s₀ L cs m cm T s) (g : Grow s s') (up : ∀ b o, b ≠ 58 → s.heap.get? b = some o → s'.heap.get? b = some o) (hk : KTabs w s'.heap) : LW w s₀ L cs m cm T s' := by
  refine ⟨let ⟨o, es, nn, ho, r⟩ := x.ns; ⟨o, es, nn, up L o (x.free L (.head _)).n58 ho, r⟩, fun n c h => let ⟨o, ho, hd⟩ := x.cell n c h; ⟨o, up c o (x.free c (.tail _ (List.mem_map_of_mem (f := (·.2)) (mem_of_lookup h)))).n58 ho, hd⟩, x.look, x.apart, x.notL,
    ⟨fun a o h1 h2 e => up a o h1 (x.has.at' a o h1 h2 e), let ⟨ps, a, _⟩ := hk; ⟨_, a⟩, ⟨_, up _ _ (by decide) x.t122⟩⟩, x.free, x.new, x.grow.trans g, hk, up _ _ (by decide) x.t122, x.nn⟩
/-- after a store into the frame -/
theorem LW.reg (x : LW w s₀ L cs m cm T s) (R : RegC w s L m' cs cm' s') : LW w s₀ L cs m' cm' T s' := by
  have kx : ∀ b o, b ∉ L :: cs.map (·.2) → s.heap.get? b = some o → s'.heap.get? b = some o := R.reg.keep
  have k58 : ∀ o, s.heap.get? 58 = some o → s'.heap.get? 58 = some o := fun o => kx 58 o fun z => (x.free _ z).n58 rfl
  have k122 : ∀ o, s.heap.get? 122 = some o → s'.heap.get? 122 = some o := fun o => kx 122 o fun z => (x.free _ z).n122 rfl
  obtain ⟨h, t, e⟩ := R.reg.same
  refine ⟨R.ns, R.cell, x.look, x.apart, x.notL, R.has, x.free, x.new, ⟨by rw [e]; exact x.grow.os, by rw [e]; exact x.grow.gens, fun b o h1 h2 q => kx b o (fun z => by rw [x.new b z] at q; cases q) (x.grow.keep b o h1 h2 q),
    fun ps q => let ⟨more, z⟩ := x.grow.t58 ps q; ⟨more, k58 _ z⟩, fun ps q => let ⟨more, z⟩ := x.grow.t122 ps q; ⟨more, k122 _ z⟩⟩, ?_, k122 _ x.t122, x.nn⟩
  refine x.tabs.but x.t122 x.nn fun b o vs _ q hd => kx b o (fun z => ?_) q
  obtain ⟨o', ho', hn⟩ := x.live z
  rw [q] at ho'; cases ho'
  exact hn vs hd
theorem RegC.stp (R : RegC w s L m' cs cm' s') : Stp L cs s s' := fun b o h q => R.reg.keep b o h.no q
theorem isListS (k : Stp L cs s s') {a : Addr} (h : Out L cs a) {vs : Array Value} (x : s.heap.IsList a vs) : s'.heap.IsList a vs := x.at fun o q => k a o h q
theorem spdS {k : Nat} (st : Stp L cs s s') {a : Addr} (h : Out L cs a) (x : SpD w k s.heap a) : SpD w k s'.heap a := let ⟨f, ⟨o, es, ep, ho, r⟩, q⟩ := x; ⟨f, ⟨o, es, ep, st a _ h ho, r⟩, q⟩
end
section
variable {w : World} {A : Around} {E : Value → Shared → Prop} {s s₀ : Shared} {L : Addr} {cs : List (Str × Addr)} {m cm : Str → Option Value} {T : Array Value} {env : Env} {names : List (Str × NameKind)}
/-- stores into the law's frame -/
theorem lwL {n : Str} {v : Value} {Q : Unit → Shared → Prop} (x : LW w s₀ L cs m cm T s) (e : EnvIs env L names cs) (hn : names.lookup n = some .local)
    (h : ∀ s', LW w s₀ L cs (fun y => if y = n then some v else m y) cm T s' → Stp L cs s s' → Q () s') : wpAny (model pr w) A (storeName env n v) Q E s :=
  stLC' x.rc e hn fun s' R _ => h s' (x.reg R) R.stp
theorem lwC {n : Str} {c : Addr} {v : Value} {Q : Unit → Shared → Prop} (x : LW w s₀ L cs m cm T s) (e : EnvIs env L names cs) (hn : names.lookup n = some .cell) (hc : cs.lookup n = some c)
    (h : ∀ s', LW w s₀ L cs m (fun y => if y = n then some v else cm y) T s' → Stp L cs s s' → Q () s') : wpAny (model pr w) A (storeName env n v) Q E s :=
  stC x.rc e hn hc fun s' R _ => h s' (x.reg R) R.stp
/-- sum of ints -/
theorem opSum {a : Addr} {vs : List Value} {ns : List Int} {Q : Value → Shared → Prop} (hA : A.handled = none) (hl : s.heap.IsList a vs.toArray) (hi : IntsAre vs ns) (h : ∀ s' t, Keeps s s' → Q (.int ns.sum t) s') :
    wpAny (model pr w) A (call (.builtin "sum") [.ref a]) Q E s := by
  obtain ⟨xs, e⟩ := hi.allInts.items
  have hn : numsOf (intItems xs).toList = ns := by rw [← e]; exact hi.numsOf
  rw [e] at hl
  refine sum_intListG hA hl fun h' tk t' hk => ?_
  rw [preSum_eq, List.take_of_length_le (by simp)]
  rw [nums_intItems] at hn
  rw [hn]
  exact h _ _ ⟨h', tk, rfl, hk⟩
theorem listTop (h : Heap) (o : Obj) (xs : List Value) : ((h.push o).push { cls := .type "list", data := .seq xs.toArray }).IsList (h.objs.size + 1) xs.toArray := by
  have e : h.objs.size + 1 = (h.push o).objs.size := by rw [Heap.size_push]
  rw [e]
  exact ⟨_, Heap.get?_push_size _ rfl, rfl, _, rfl⟩
/-- slices of lists -/
theorem sliceLTo {value upper : Expr} {p pos : Pos} {Q : Value → Shared → Prop}
    (h : wpAny (model pr w) A (eval value env) (fun o s₁ => wpAny (model pr w) A (eval upper env) (fun i s₂ => ∃ (a : Addr) (vs : List Value) (j : Nat) (u : Tok), o = .ref a ∧ s₂.heap.IsList a vs.toArray ∧ i = .int j u ∧ vs.length ≤ 2 ^ 20 ∧
      ∀ D s', Keeps s₂ s' → s₂.heap.get? D = none → s'.heap.IsList D (vs.take j).toArray → Q (.ref D) s') E s₁) E s) (ht : ∀ o r, letTemporaryGo value o r = pure () := by intro _ _; rfl) :
    wpAny (model pr w) A (eval (.Subscript value (.Slice none (some upper) none p) pos) env) Q E s := by
  refine wpAny_Subscript_list_slice (wpAny_mono h (fun o s₁ h₁ => wpAny_evalPart_none (wpAny_evalPart_some (wpAny_mono h₁ (fun i s₂ h₂ => ?_) fun _ _ e => e))) fun _ _ e => e) ht
  obtain ⟨a, vs, j, u, rfl, hl, rfl, hs, hQ⟩ := h₂
  refine ⟨a, vs.toArray, none, some j, rfl, hl, by rw [sizeLine_eq]; simp; omega, .none, .int _ _, ?_⟩
  rw [slicePick_upto']
  refine hQ _ _ ⟨_, s₂.toks, rfl, fun b o q => Heap.get?_push_of_some _ (Heap.get?_push_of_some _ q)⟩ ?_ (listTop _ _ _)
  cases q : s₂.heap.get? (s₂.heap.objs.size + 1) with
  | none => rfl
  | some o => exact absurd (Heap.lt_size q) (Nat.not_lt.mpr (Nat.le_succ _))
theorem sliceLFrom {value lower : Expr} {p pos : Pos} {Q : Value → Shared → Prop}
    (h : wpAny (model pr w) A (eval value env) (fun o s₁ => wpAny (model pr w) A (eval lower env) (fun i s₂ => ∃ (a : Addr) (vs : List Value) (j : Nat) (u : Tok), o = .ref a ∧ s₂.heap.IsList a vs.toArray ∧ i = .int j u ∧ vs.length ≤ 2 ^ 20 ∧
      ∀ D s', Keeps s₂ s' → s₂.heap.get? D = none → s'.heap.IsList D (vs.drop j).toArray → Q (.ref D) s') E s₁) E s) (ht : ∀ o r, letTemporaryGo value o r = pure () := by intro _ _; rfl) :
    wpAny (model pr w) A (eval (.Subscript value (.Slice (some lower) none none p) pos) env) Q E s := by
  refine wpAny_Subscript_list_slice (wpAny_mono h (fun o s₁ h₁ => wpAny_evalPart_some (wpAny_mono h₁ (fun i s₂ h₂ => wpAny_evalPart_none ?_) fun _ _ e => e)) fun _ _ e => e) ht
  obtain ⟨a, vs, j, u, rfl, hl, rfl, hs, hQ⟩ := h₂
  refine ⟨a, vs.toArray, some j, none, rfl, hl, by rw [sizeLine_eq]; simp; omega, .int _ _, .none, ?_⟩
  rw [slicePick_from']
  refine hQ _ _ ⟨_, s₂.toks, rfl, fun b o q => Heap.get?_push_of_some _ (Heap.get?_push_of_some _ q)⟩ ?_ (listTop _ _ _)
  cases q : s₂.heap.get? (s₂.heap.objs.size + 1) with
  | none => rfl
  | some o => exact absurd (Heap.lt_size q) (Nat.not_lt.mpr (Nat.le_succ _))
end
end Mine
end

section
open PySem PySem.W PyProof.Rows
set_option maxRecDepth 100000
set_option linter.unusedVariables false
namespace Mine
theorem gl_cmpkey (w : World) : gl w "cmp_to_key" = some (.ref 63) := by kernel_rfl
theorem fnCmpkey (w : World) : FnK w 63 := ⟨⟨_, _, rfl, rfl⟩, by decide, by decide⟩
theorem gl_sorted (w : World) : gl w "sorted" = none := by kernel_rfl
theorem bl_sorted (w : World) : bl w "sorted" = some (.builtin "sorted") := by kernel_rfl
theorem gl_max (w : World) : gl w "max" = none := by kernel_rfl
theorem bl_max (w : World) : bl w "max" = some (.builtin "max") := by kernel_rfl
theorem gl_sum (w : World) : gl w "sum" = none := by kernel_rfl
theorem bl_sum (w : World) : bl w "sum" = some (.builtin "sum") := by kernel_rfl
section
variable {w : World} {A : Around} {E : Value → Shared → Prop} {s : Shared} {L : Addr} {env : Env} {names : List (Str × NameKind)} {cs : List (Str × Addr)}
/-- sorted and max with key=cmp_to_key(_law_compare) -/
theorem callKey {f : Str} {id : String} {p pos p2 p3 p4 kp : Pos} {e1 : Expr} {Q : Value → Shared → Prop} (H : Has w s.heap) (e : EnvIs env L names cs) (hn : names.lookup f = some .globalImplicit) (hg : gl w f = none) (hv : bl w f = some (.builtin id))
    (hn2 : names.lookup (Str.ofString "cmp_to_key") = some .globalImplicit) (hn3 : names.lookup (Str.ofString "_law_compare") = some .globalImplicit) (hA : A.handled = none) (hdp : A.depth ≤ 390) (hu : A.units ≤ 3900)
    (h : wpAny (model pr w) A (eval e1 env) (fun v s₁ => Has w s₁.heap ∧ KTabs w s₁.heap ∧ ∀ k s₂, Grow s₁ s₂ → (∀ b o, b ≠ 58 → s₁.heap.get? b = some o → s₂.heap.get? b = some o) → (∃ h tk, s₂ = { s₁ with heap := h, toks := tk }) → KTabs w s₂.heap → KCls w s₂.heap k →
      wpAny (model pr w) A (call (.builtin id) [v] [(Str.ofString "key", .ref k)]) Q E s₂) E s)
    (hs : backTo pos (starEach [e1] env) = [(false, eval e1 env)] := by rfl) (hd : (f == ("__debug__" : Str)) = false := by decide) :
    wpAny (model pr w) A (eval (.Call (.Name f p) [e1] [⟨some "key", .Call (.Name "cmp_to_key" p2) [.Name "_law_compare" p3] [] p4, kp⟩] pos) env) Q E s := by
  show wpAny _ A (do callWith pos (← eval (.Name f p) env) [] (backTo pos (starEach [e1] env)) (backToKw pos (keywordEach [⟨some "key", .Call (.Name "cmp_to_key" p2) [.Name "_law_compare" p3] [] p4, kp⟩] env))) Q E s
  refine wpAny_bind (nmB H e hn hg hv ?_ hd)
  refine PyProof.Rows.callWith_kw ?_ hs ?_ ?_ ?_
  · rw [hs]
    refine Calls.spliced_cons (wpAny_mono h (fun v s₁ h₁ => Calls.spliced_nil ?_) fun _ _ q => q)
    obtain ⟨H₁, K₁, hQ⟩ := h₁
    show wpAny _ A (evalAll [do let v ← eval (.Call (.Name "cmp_to_key" p2) [.Name "_law_compare" p3] [] p4) env; standAt pos; pure v]) _ _ _
    refine evalAll_cons (wpAny_bind (callF1 H₁ e hn2 (gl_cmpkey w) (fnCmpkey w) (nmG H₁ e hn3 (gl_compare w) ⟨H₁, ?_⟩)))
    refine wpAny_call (codeAny_mono (code_weak (cmpkey_spec w H₁ K₁) hA hdp hu) fun r s₂ hr => ?_)
    obtain ⟨v', rfl, g, k, rfl, KT, KC, up, sm⟩ := hr
    refine wpAny_bind (wpAny_standAt (wpAny_pure (evalAll_nil ?_)))
    exact hQ k s₂ g up sm KT KC
  · rw [hs]; rfl
  · rfl
  · rfl
end
end Mine
end

section
open PySem PySem.W PyProof.Rows
set_option maxRecDepth 100000
set_option linter.unusedVariables false
namespace Mine
theorem code124 (w : World) {h : Heap} (H : Has w h) : CodeHd h 124 122 :=
  ⟨_, _, _, _, _, _, _, _, _, H.get (a := 124) rfl (by decide) (by decide), rfl, rfl, rfl, rfl, rfl, rfl, rfl, rfl, by decide⟩
theorem biAt (w : World) {h : Heap} (H : Has w h) : h.BuiltinsAt (gl w) 122 :=
  ⟨4, _, bi_gl w, by decide, by decide, by decide, H.get (o4 w) (by decide) (by decide), rfl, rfl, rfl⟩
section
variable {w : World} {A : Around} {E : Value → Shared → Prop} {s s₀ : Shared} {L : Addr} {cs : List (Str × Addr)} {m cm : Str → Option Value} {T : Array Value} {env : Env} {names : List (Str × NameKind)}
theorem LW.grown (x : LW w s₀ L cs m cm T s) {s' : Shared} {T' : Array Value} (hs : ∃ h tk, s' = { s with heap := h, toks := tk }) (up : ∀ b o, b ≠ 122 → s.heap.get? b = some o → s'.heap.get? b = some o) {more : Array Value} (eT : T' = T ++ more) (ht : s'.heap.get? 122 = some (tabObj T')) (nn : NoNm T') :
    LW w s₀ L cs m cm T' s' := by
  have n122 : ∀ a ∈ L :: cs.map (·.2), a ≠ 122 := fun a ha => (x.free a ha).n122
  obtain ⟨hh, tk, e⟩ := hs
  refine ⟨let ⟨o, es, n, ho, r⟩ := x.ns; ⟨o, es, n, up L o (n122 L (.head _)) ho, r⟩, fun n c h => let ⟨o, ho, hd⟩ := x.cell n c h; ⟨o, up c o (n122 c (.tail _ (List.mem_map_of_mem (f := (·.2)) (mem_of_lookup h)))) ho, hd⟩, x.look, x.apart, x.notL,
    ⟨fun a o h1 h2 e => up a o h2 (x.has.at' a o h1 h2 e), let ⟨o, z⟩ := x.has.t58; ⟨o, up _ _ (by decide) z⟩, ⟨_, ht⟩⟩, x.free, x.new, ?_, x.tabs.but x.t122 x.nn fun b o vs hb q _ => up b o hb q, ht, nn⟩
  refine ⟨by rw [e]; exact x.grow.os, by rw [e]; exact x.grow.gens, fun b o h1 h2 q => up b o h2 (x.grow.keep b o h1 h2 q), fun ps q => let ⟨mo, z⟩ := x.grow.t58 ps q; ⟨mo, up _ _ (by decide) z⟩, fun ps q => ?_⟩
  obtain ⟨mo, z⟩ := x.grow.t122 ps q
  rw [x.t122] at z
  have : T = ps ++ mo := by injection z with z; injection z with _ _ z; injection z
  exact ⟨mo ++ more, by rw [ht, eT, this, Array.append_assoc]⟩
/-- a lambda -/
theorem evalLam {params : Arguments} {body : Expr} {scope : Scope} {pos : Pos} {clos : List (Str × Addr)} {Q : Value → Shared → Prop} (x : LW w s₀ L cs m cm T s) (e : EnvIs env L names cs) (hcode : env.code = .ref 124) (hdef : defaultsOf params env = ([], [])) (hcl : closureFor scope env = pure clos)
    (ht : TriplesOk T.toList) (hnf : codeAmong pos T.toList = none) (hnn : ∀ c', NoNm (T ++ #[rawInt pos.line, rawInt pos.col, .ref c']))
    (h : ∀ f c' ctv s', LW w s₀ L cs m cm (T ++ #[rawInt pos.line, rawInt pos.col, .ref c']) s' → Stp L cs s s' → s.heap.get? f = none → s'.heap.get? f = some (kla_obj "<lambda>" (env.qual ++ "<lambda>") params body scope clos ((gl w "__name__").getD .none) c' ctv) → s'.heap.CodeRec (.ref c') (env.qual ++ "<lambda>") →
      (∃ h tk, s' = { s with heap := h, toks := tk }) → Q (.ref f) s') :
    wpAny (model pr w) A (eval (.Lambda params body scope pos) env) Q E s := by
  refine kla_eval hdef ?_
  refine kla_makeFunction (mg := gl w) (P := 122) (c := 124) hcl e.globals x.has.g hcode (code124 w x.has) x.t122 ht hnf (by decide) (biAt w x.has) fun c' ctv h' tk hx hge hlt hrec htb => ?_
  have up : ∀ b o, b ≠ 122 → s.heap.get? b = some o → (h'.push (kla_obj "<lambda>" (env.qual ++ "<lambda>") params body scope clos ((gl w "__name__").getD .none) c' ctv)).get? b = some o := fun b o hb q => Heap.get?_push_of_some _ (hx b o hb q)
  refine h _ c' ctv _ (x.grown ⟨_, tk, rfl⟩ up rfl (Heap.get?_push_of_some _ htb) (hnn c')) (fun b o hb q => up b o hb.n122 q) ?_ (Heap.get?_push_size _ rfl) (hrec.keeps fun b o q => Heap.get?_push_of_some _ q) ⟨_, tk, rfl⟩
  cases q : s.heap.get? h'.objs.size with
  | none => rfl
  | some o =>
    have : h'.objs.size < h'.objs.size := Nat.lt_of_lt_of_le (Heap.lt_size q) (Nat.le_of_lt (Nat.lt_of_le_of_lt hge hlt))
    exact absurd this (Nat.lt_irrefl _)
/-- compL, all of it told when the list is there -/
theorem compLF {elt iter : Expr} {x : Str} {px : Pos} {ifs : List Expr} {scope : Scope} {cl : List (Str × Addr)} {pos : Pos} {Q : Value → Shared → Prop}
    (e : EnvIs env L names cs) (hclos : closureFor scope env = pure cl) (hcell : (scope.names.all fun y => y.2 != .cell) = true) (hkind : scope.kind = .function)
    (hnames : (scope.names.all fun y => y.2 != .local || scope.names.lookup y.1 == some .local) = true) (hx : scope.names.lookup x = some .local)
    (h : wpAny (model pr w) A (eval iter env) (fun xv s₁ => ∃ (p : Value → Bool) (F : Value → Value → Prop) (n : Nat) (P : Nat → Value → Prop), n ≤ 2 ^ 20 ∧ Src w A xv n P s₁ ∧
      (∀ i v cenv C m₃ s₃, P i v → InElt w (compNames scope names) cl x s₁ v cenv C m₃ s₃ →
        wpAny (model pr w) A (forIn ifs true fun c r => if r = true then do let ok ← isTrue c cenv (eval c cenv); pure (ForInStep.yield ok) else pure (ForInStep.yield r)) (fun ok s₄ => ok = p v ∧ Keeps s₃ s₄) (fun _ _ => False) s₃) ∧
      (∀ i v cenv C m₃ s₃, P i v → p v = true → InElt w (compNames scope names) cl x s₁ v cenv C m₃ s₃ → wpAny (model pr w) A (eval elt cenv) (fun y s₄ => F v y ∧ Keeps s₃ s₄) (fun _ _ => False) s₃) ∧
      (∀ D s' ys (vs : List Value), Keeps s₁ s' → s₁.heap.get? D = none → s'.heap.IsList D ys → vs.length = n → (∀ j v, vs[j]? = some v → P j v) → Paired F (vs.filter p) ys.toList → Q (.ref D) s')) E s)
    (hs : ∀ x, foldedSetIterable iter env x = pure x := by intro _; rfl) :
    wpAny (model pr w) A (eval (.ListComp elt [⟨.Name x px, iter, ifs, 0⟩] scope pos) env) Q E s := by
  have hcell' : ∀ y ∈ scope.names, y.2 ≠ .cell := fun y hy q => by have := List.all_eq_true.mp hcell y hy; rw [q] at this; cases this
  have hnames' : ∀ y ∈ scope.names, y.2 = .local → scope.names.lookup y.1 = some .local := fun y hy q => by
    have := List.all_eq_true.mp hnames y hy; rw [q] at this; simpa using this
  rw [eval_ListComp]
  refine wpAny_comprehension_free (use := none) rfl hs hclos hkind hnames' (wpAny_mono h (fun xv s₁ h₁ => ?_) fun _ _ q => q)
  obtain ⟨p, F, n, P, hn, hsrc, ht, he, hQ⟩ := h₁
  refine hsrc _ _ fun I fp St s₂ W k₂ tk₂ hI hst hfp => ?_
  refine comp_block_walkC (RR := fun acc C => compPost (model pr w) A E none Q acc C) W (by rw [sizeLine_eq]; omega) p F hcell' hkind hx hst hfp ⟨?_, ?_⟩ ?_
  · intro C i v s₃ m₃ E' _ hP hns hm hk htk
    exact noErr (ht i v (compEnvC scope cl C env) C m₃ s₃ hP ⟨compEnv_is e hkind, hns, hm, fun b o q => hk b o (fun z => by rw [List.mem_singleton.mp z, hI] at q; cases q) (kGet k₂ q), Nat.le_trans tk₂ htk⟩)
  · intro C i v s₃ m₃ E' _ hP hp hns hm hk htk
    exact noErr (he i v (compEnvC scope cl C env) C m₃ s₃ hP hp ⟨compEnv_is e hkind, hns, hm, fun b o q => hk b o (fun z => by rw [List.mem_singleton.mp z, hI] at q; cases q) (kGet k₂ q), Nat.le_trans tk₂ htk⟩)
  · intro D C h' tk m' ys vs hD hC hDC hn' hl hpl hlen hP hF hk
    refine ⟨m', hn', fun h'' hs'' => hQ D _ ys vs ?_ ?_ (hl.extBut hs''.extBut hDC) hlen hP hF⟩
    · obtain ⟨h₂, t₂, rfl, kk⟩ := k₂
      exact ⟨h'', tk, rfl, fun b o q => hs''.extBut b o (fun z => by rw [z] at q; rw [kk _ _ q] at hC; cases hC) (hk b o (fun z => by rw [List.mem_singleton.mp z, hI] at q; cases q) (kk b o q))⟩
    · cases q : s₁.heap.get? D with
      | none => rfl
      | some o => rw [kGet k₂ q] at hD; cases hD
/-- a comprehension over a list, of new lists -/
theorem compLO {elt iter : Expr} {x : Str} {px : Pos} {scope : Scope} {cl : List (Str × Addr)} {pos : Pos} {Q : Value → Shared → Prop} (G : Value → Array Value → Prop) (hA : A.handled = none)
    (e : EnvIs env L names cs) (hclos : closureFor scope env = pure cl) (hcell : (scope.names.all fun y => y.2 != .cell) = true) (hkind : scope.kind = .function)
    (hnames : (scope.names.all fun y => y.2 != .local || scope.names.lookup y.1 == some .local) = true) (hx : scope.names.lookup x = some .local)
    (h : wpAny (model pr w) A (eval iter env) (fun xv s₁ => ∃ a items, xv = .ref a ∧ s₁.heap.IsList a items ∧ items.size ≤ 2 ^ 20 ∧
      (∀ (i : Nat) v cenv C m₃ s₃, items[i]? = some v → InElt w (compNames scope names) cl x s₁ v cenv C m₃ s₃ → wpAny (model pr w) A (eval elt cenv) (fun y s₄ => (∃ T its, y = .ref T ∧ s₃.heap.get? T = none ∧ s₄.heap.IsList T its ∧ G v its) ∧ Keeps s₃ s₄) (fun _ _ => False) s₃) ∧
      (∀ D s' ys (vs : List Value), Keeps s₁ s' → s₁.heap.get? D = none → s'.heap.IsList D ys → vs.length = items.size → (∀ (j : Nat) v, vs[j]? = some v → items[j]? = some v) → Paired (LstIs s₁.heap G s'.heap) vs ys.toList → Q (.ref D) s')) E s)
    (hs : ∀ x, foldedSetIterable iter env x = pure x := by intro _; rfl) :
    wpAny (model pr w) A (eval (.ListComp elt [⟨.Name x px, iter, [], 0⟩] scope pos) env) Q E s := by
  have hcell' : ∀ y ∈ scope.names, y.2 ≠ .cell := fun y hy q => by have := List.all_eq_true.mp hcell y hy; rw [q] at this; cases this
  have hnames' : ∀ y ∈ scope.names, y.2 = .local → scope.names.lookup y.1 = some .local := fun y hy q => by
    have := List.all_eq_true.mp hnames y hy; rw [q] at this; simpa using this
  refine wpAny_ListComp_freeO (fun _ => true) G hclos hcell' hkind hnames' hx (wpAny_mono h (fun xv s₁ h₁ => ?_) fun _ _ q => q) hs
  obtain ⟨a, items, rfl, hl, hsz, he, hQ⟩ := h₁
  have ha : a < s₁.heap.objs.size := let ⟨_, ho, _⟩ := hl; Heap.lt_size ho
  refine wpAny_pyIter_list hl ?_
  have fI := size_none s₁.heap
  have kI : Keeps s₁ { s₁ with heap := s₁.heap.push { cls := .type "list_iterator", data := .fields #[.ref a, .int 0 0] } } := kPushH _
  refine ⟨s₁.heap.objs.size, [s₁.heap.objs.size, a], [s₁.heap.objs.size], items.size, _, _, rfl, Walks.list hA s₁.heap.objs.size a (Nat.ne_of_lt ha) items, by rw [sizeLine_eq]; omega, ?_, ⟨⟨_, Heap.get?_push_size _ rfl, rfl, rfl⟩, hl.at fun o q => Heap.get?_push_of_some _ q⟩, ?_, ⟨?_, ?_⟩, ?_⟩
  · rintro i h ⟨⟨o, ho, _⟩, _⟩ b hb
    rw [List.mem_singleton.mp hb]; exact ⟨o, ho⟩
  · intro b hb
    rw [Heap.size_push]
    rcases List.mem_cons.mp hb with rfl | hb
    · exact Nat.lt_succ_self _
    · rw [List.mem_singleton.mp hb]; exact Nat.lt_succ_of_lt ha
  · intro C i v s₃ m₃ E' _ hP hns hm hk htk
    exact tests0 ⟨rfl, kRefl _⟩
  · intro C i v s₃ m₃ E' _ hP hp hns hm hk htk
    exact noErr (he i v (compEnvC scope cl C env) C m₃ s₃ hP ⟨compEnv_is e hkind, hns, hm, fun b o q => hk b o (fun z => by rw [List.mem_singleton.mp z, fI] at q; cases q) (Heap.get?_push_of_some _ q), htk⟩)
  · intro D h' tk ys vs hD hl' hpl hlen hP hF hnd hself hk
    have ef : vs.filter (fun _ => true) = vs := List.filter_eq_self.mpr fun _ _ => rfl
    rw [ef] at hF
    have up : ∀ b o, s₁.heap.get? b = some o → h'.get? b = some o := fun b o q => hk b o (fun z => by rw [List.mem_singleton.mp z, fI] at q; cases q) (Heap.get?_push_of_some _ q)
    refine hQ D _ ys vs ⟨h', tk, rfl, up⟩ ?_ hl' hlen hP (hF.mono fun v y hy => ?_)
    · cases q : s₁.heap.get? D with
      | none => rfl
      | some o => rw [kGet kI q] at hD; cases hD
    · obtain ⟨T, its, e1, f1, l1, g1⟩ := hy
      refine ⟨T, its, e1, ?_, l1, g1⟩
      cases q : s₁.heap.get? T with
      | none => rfl
      | some o => rw [kGet kI q] at f1; cases f1
end
end Mine
end

section
open PySem PySem.W PyProof.Rows
set_option maxRecDepth 100000
set_option linter.unusedVariables false
namespace Mine
theorem RowAt.uniq {h : Heap} {v : Value} {r r' : List (List Nat)} (x : RowAt h v r) (y : RowAt h v r') : r = r' := by
  obtain ⟨a, us, rfl, ⟨o, ho, _, n, hd⟩, ht⟩ := x
  obtain ⟨b, us', e, ⟨o', ho', _, n', hd'⟩, ht'⟩ := y
  cases e
  rw [ho] at ho'; cases ho'
  rw [hd] at hd'
  have : us = us' := by injection hd' with z; simpa using z
  subst this
  have key : ∀ {us : List Value} {r r' : List (List Nat)}, Txts us r → Txts us r' → r = r' := by
    intro us r r' h1 h2
    induction h1 generalizing r' with
    | nil => cases h2; rfl
    | cons h _ ih =>
      cases h2 with
      | cons h' t' =>
        obtain ⟨t, rfl⟩ := h
        obtain ⟨t2, e2⟩ := h'
        rw [S_inj.mp (Value.str.inj e2).1, ih t']
  exact key ht ht'
section
variable {w : World} {A : Around} {E : Value → Shared → Prop} {s : Shared} {L : Addr} {env : Env} {names : List (Str × NameKind)} {cs : List (Str × Addr)}
/-- the spellings of the signs in a list -/
theorem spellCompL {k : Nat} {a c : Addr} (l : List Nat) {iter : Expr} {px p1 p2 p3 pos : Pos} {scope : Scope} {Q : Value → Shared → Prop} (e : EnvIs env L names cs) (hclos : closureFor scope env = pure [(Str.ofString "spelled", c)]) (hsc : scope.names = [(Str.ofString ".0", NameKind.local), (Str.ofString "sign", NameKind.local), (Str.ofString "spelled", NameKind.free)])
    (hkind : scope.kind = .function) (hcell : names.lookup (Str.ofString "spelled") = some .cell) (hA : A.handled = none) (hl : l.length ≤ 2 ^ 10) (hls : ∀ x ∈ l, x ∈ signs)
    (h : wpAny (model pr w) A (eval iter env) (fun v s₁ => ∃ aL vs, v = .ref aL ∧ s₁.heap.IsList aL vs.toArray ∧ Txts vs (l.map fun c => [c]) ∧ s₁.heap.IsCell c (some (.ref a)) ∧ SpD w k s₁.heap a ∧
      ∀ D s' ys, Keeps s₁ s' → s₁.heap.get? D = none → s'.heap.IsList D ys.toArray → Txts ys (l.map (sp (tabOf k))) → Q (.ref D) s') E s)
    (hs : ∀ x, foldedSetIterable iter env x = pure x := by intro _; rfl) :
    wpAny (model pr w) A (eval (.ListComp (.Subscript (.Name "spelled" p1) (.Name "sign" p2) p3) [⟨.Name "sign" px, iter, [], 0⟩] scope pos) env) Q E s := by
  have hcn : compNames scope names = [(Str.ofString ".0", NameKind.local), (Str.ofString "sign", NameKind.local), (Str.ofString "spelled", NameKind.cell)] := by
    unfold compNames; rw [hsc]; simp [hcell]
  refine compLF e hclos (by rw [hsc]; rfl) hkind (by rw [hsc]; kernel_rfl) (by rw [hsc]; kernel_rfl) ?_ hs
  refine wpAny_mono h (fun v s₁ h₁ => ?_) fun _ _ q => q
  obtain ⟨aL, vs, rfl, hlL, hvs, hcl, hd, hQ⟩ := h₁
  have hvl := txts_len hvs
  simp at hvl
  refine ⟨fun _ => true, fun v y => ∃ c t u, c ∈ signs ∧ v = .str (S [c]) t ∧ y = .str (S (sp (tabOf k) c)) u, vs.toArray.size, fun i v => vs.toArray[i]? = some v, by simp; omega, srcList hA hlL, ?_, ?_, ?_⟩
  · rintro i v cenv C m₃ s₃ _ _
    exact tests0 ⟨rfl, kRefl _⟩
  · rintro i v cenv C m₃ s₃ hP _ ⟨e', hns, hm, hup, _⟩
    obtain ⟨l', u, hx, rfl⟩ := txts_at hvs (by simpa using hP)
    rw [List.getElem?_map] at hx
    obtain ⟨x, hx2, rfl⟩ := Option.map_eq_some_iff.mp hx
    have hx' := hls x (List.mem_of_getElem? hx2)
    rw [hcn] at e'
    refine Subscript_ (nmC e' (by kernel_rfl) (by kernel_rfl) (hcl.keeps hup) (nmL hns e' (by kernel_rfl) hm (opD (hd.keeps hup) hx' fun u' s' k' => ?_)))
    exact ⟨⟨x, u, u', hx', rfl, rfl⟩, k'⟩
  · rintro D s' ys vs' k' hD hlD hlen hP hF
    refine hQ D s' ys.toList k' hD hlD (txts_comp (n := vs.toArray.size) (P := fun i v => vs.toArray[i]? = some v) (by simp; omega) hlen hP hF ?_)
    rintro j v y hPj ⟨c', t', u', _, rfl, rfl⟩
    obtain ⟨l', u, hx, e1⟩ := txts_at hvs (i := j) (by simpa using hPj)
    rw [List.getElem?_map] at hx
    obtain ⟨x, hx2, rfl⟩ := Option.map_eq_some_iff.mp hx
    have : x = c' := by
      have := (Value.str.inj e1).1
      simpa using (S_inj.mp this).symm
    subst this
    exact ⟨_, u', by rw [List.getElem?_map, hx2]; rfl, rfl⟩
/-- the rows of the spellings -/
theorem rowsComp {k : Nat} {a c : Addr} (ls : List (List Nat)) {iter : Expr} {py px p1 p2 p3 p4 pos pos2 : Pos} {scope scope2 : Scope} {Q : Value → Shared → Prop} (e : EnvIs env L names cs) (hclos : closureFor scope env = pure [(Str.ofString "spelled", c)]) (hsc : scope.names = [(Str.ofString ".0", NameKind.local), (Str.ofString "text", NameKind.local), (Str.ofString "spelled", NameKind.free)])
    (hkind : scope.kind = .function) (hclos2 : ∀ {cenv : Env} {C : Addr}, EnvIs cenv C [(Str.ofString ".0", NameKind.local), (Str.ofString "text", NameKind.local), (Str.ofString "spelled", NameKind.cell)] [(Str.ofString "spelled", c)] → closureFor scope2 cenv = pure [(Str.ofString "spelled", c)])
    (hsc2 : scope2.names = [(Str.ofString ".0", NameKind.local), (Str.ofString "sign", NameKind.local), (Str.ofString "spelled", NameKind.free)])
    (hkind2 : scope2.kind = .function) (hcell : names.lookup (Str.ofString "spelled") = some .cell) (hA : A.handled = none) (hl : ls.length ≤ 2 ^ 10) (hls : ∀ l ∈ ls, l.length ≤ 2 ^ 10 ∧ ∀ x ∈ l, x ∈ signs)
    (h : wpAny (model pr w) A (eval iter env) (fun v s₁ => ∃ aL vs, v = .ref aL ∧ s₁.heap.IsList aL vs.toArray ∧ Txts vs ls ∧ s₁.heap.IsCell c (some (.ref a)) ∧ SpD w k s₁.heap a ∧
      ∀ D s' ys, Keeps s₁ s' → s₁.heap.get? D = none → s'.heap.IsList D ys.toArray → RowsAt s'.heap ys (ls.map fun l => l.map (sp (tabOf k))) → Q (.ref D) s') E s)
    (hs : ∀ x, foldedSetIterable iter env x = pure x := by intro _; rfl) :
    wpAny (model pr w) A (eval (.ListComp (.ListComp (.Subscript (.Name "spelled" p1) (.Name "sign" p2) p3) [⟨.Name "sign" px, .Name "text" p4, [], 0⟩] scope2 pos2) [⟨.Name "text" py, iter, [], 0⟩] scope pos) env) Q E s := by
  have hcn : compNames scope names = [(Str.ofString ".0", NameKind.local), (Str.ofString "text", NameKind.local), (Str.ofString "spelled", NameKind.cell)] := by
    unfold compNames; rw [hsc]; simp [hcell]
  refine compLO (fun v its => ∃ l t, v = .str (S l) t ∧ Txts its.toList (l.map (sp (tabOf k)))) hA e hclos (by rw [hsc]; rfl) hkind (by rw [hsc]; kernel_rfl) (by rw [hsc]; kernel_rfl) ?_ hs
  refine wpAny_mono h (fun v s₁ h₁ => ?_) fun _ _ q => q
  obtain ⟨aL, vs, rfl, hlL, hvs, hcl, hd, hQ⟩ := h₁
  have hvl := txts_len hvs
  refine ⟨aL, vs.toArray, rfl, hlL, by simp; omega, ?_, ?_⟩
  · rintro i v cenv C m₃ s₃ hP ⟨e', hns, hm, hup, _⟩
    obtain ⟨l, u, hx, rfl⟩ := txts_at hvs (by simpa using hP)
    obtain ⟨hl1, hl2⟩ := hls l (List.mem_of_getElem? hx)
    rw [hcn] at e'
    refine spellComp (k := k) (a := a) (c := c) l e' (hclos2 e') hsc2 hkind2 (by kernel_rfl) hA hl1 hl2 ?_
    refine nmL hns e' (by kernel_rfl) hm ⟨u, rfl, hcl.keeps hup, hd.keeps hup, fun D s' ys k' fD hD hys => ⟨⟨D, ys.toArray, rfl, fD, hD, l, u, rfl, hys⟩, k'⟩⟩
  · intro D s' ys vs' k' fD hD hlen hP hF
    have ev : vs' = vs := list_of_at (by simpa using hlen) fun j v q => by simpa using hP j v q
    subst ev
    refine hQ D s' ys.toList k' fD hD ?_
    have go : ∀ {vs : List Value} {ls : List (List Nat)} {ys : List Value}, Txts vs ls → Paired (LstIs s₁.heap (fun v its => ∃ l t, v = Value.str (S l) t ∧ Txts its.toList (l.map (sp (tabOf k)))) s'.heap) vs ys → RowsAt s'.heap ys (ls.map fun l => l.map (sp (tabOf k))) := by
      intro vs ls ys h1 h2
      induction h1 generalizing ys with
      | nil => cases h2; exact .nil
      | cons h _ ih =>
        cases h2 with
        | cons h' t' =>
          obtain ⟨t, rfl⟩ := h
          obtain ⟨T, its, rfl, _, hT, l', t2, e2, ht⟩ := h'
          have := S_inj.mp (Value.str.inj e2).1
          subst this
          exact .cons ⟨T, its.toList, rfl, hT, ht⟩ (ih t')
    exact go hvs hF
/-- a for over a list, with a name -/
theorem forN {x : Str} {px pos : Pos} {iter : Expr} {body : List Stmt} {Q : Flow → Shared → Prop} (hA : A.handled = none)
    (h : wpAny (model pr w) A (eval iter env) (fun v s₁ => ∃ (a : Addr) (vs : List Value) (J : Addr → Nat → Shared → Prop), v = .ref a ∧ s₁.heap.IsList a vs.toArray ∧
      (∀ I i s, J I i s → s.heap.IsListIter I a i ∧ s.heap.IsList a vs.toArray) ∧
      (∀ I s₂, Keeps s₁ s₂ → s₁.heap.get? I = none → s₂.heap.IsListIter I a 0 → J I 0 s₂) ∧
      (∀ I (i : Nat) v s h' tk, a ≠ I → vs[i]? = some v → J I i s → h'.IsListIter I a (i + 1) → (∀ b o, b ≠ I → s.heap.get? b = some o → h'.get? b = some o) →
        wpAny (model pr w) A (storeName env x v) (fun _ s₂ => wpAny (model pr w) A (execs body env) (fun f s₃ => f = .next ∧ J I (i + 1) s₃) (fun _ _ => False) s₂) (fun _ _ => False) { s with heap := h', toks := tk }) ∧
      (∀ I s h' tk, J I vs.length s → (∀ b o, b ≠ I → s.heap.get? b = some o → h'.get? b = some o) → Q .next { s with heap := h', toks := tk })) E s)
    (hs : ∀ x, foldedSetIterable iter env x = pure x := by intro _; rfl) : wpAny (model pr w) A (exec (.For (.Name x px) iter body [] pos) env) Q E s := by
  refine wpAny_For (wpAny_mono h (fun v s₁ h₁ => ?_) fun _ _ q => q) hs
  obtain ⟨a, vs, J, rfl, hl, hJ, h0, turn, fin⟩ := h₁
  have haI : a ≠ s₁.heap.objs.size := let ⟨_, ho, _⟩ := hl; Nat.ne_of_lt (Heap.lt_size ho)
  refine wpAny_pyIter_list hl ?_
  have hj0 := h0 s₁.heap.objs.size { s₁ with heap := s₁.heap.push { cls := .type "list_iterator", data := .fields #[.ref a, .int 0 0] } } (kPushH _) (size_none _) ⟨_, Heap.get?_push_size _ rfl, rfl, rfl⟩
  exact forLoopR (J s₁.heap.objs.size) haI hA (hJ _) (fun i v s h' tk q1 q2 q3 q4 => turn _ i v s h' tk haI q1 q2 q3 q4) (fun s h' tk q1 q2 => fin _ s h' tk q1 q2) 0 (Nat.zero_le _) hj0
/-- len of a set of texts -/
theorem opLenSet {D : Addr} {l : List (List Nat)} {Q : Value → Shared → Prop} (hS : SetP w s.heap D l) (hle : (dd l).length ≤ 10000) (h : ∀ s' t, Keeps s s' → Q (.int ((dd l).length : Nat) t) s') : wpAny (model pr w) A (call (.builtin "len") [.ref D]) Q E s := by
  obtain ⟨o, es, ep, tb, ks, ho, hex, hd, hel, hf, hpl, hks, hpm⟩ := hS.at'
  have hesz : es.size = (dd l).length := by rw [← Array.length_toList, ← List.length_map (f := (·.2)), txts_len hks, hpm.length_eq]
  refine call_len_set ho hex hd hf (by rw [hesz]; omega) ?_
  rw [hesz]
  exact h _ _ (kTok _)
end
end Mine
end

section
open PySem PySem.W PyProof.Rows
set_option maxRecDepth 100000
set_option linter.unusedVariables false
namespace Mine
noncomputable def lawBody (w : World) : List Stmt := match (KF w).lookup 125 with
  | some ⟨_, _, .func fd, _⟩ => (match fd.body with | .stmts b => b | _ => [])
  | _ => []
abbrev lawN : List (Str × NameKind) := [("script", .local), ("texts", .cell), ("which", .cell), ("spelled", .cell), ("written", .local), ("held", .local), ("count", .local), ("head", .cell), ("signs", .local), ("found", .local), ("told", .cell),
  ("_law_texts", .globalImplicit), ("sum", .globalImplicit), ("_law_spellings", .globalImplicit), ("sorted", .globalImplicit), ("cmp_to_key", .globalImplicit), ("_law_compare", .globalImplicit), ("reduce", .globalImplicit), ("range", .globalImplicit), ("len", .globalImplicit), ("_law_beginnings", .globalImplicit), ("max", .globalImplicit)]
abbrev lawC (L : Addr) : List (Str × Addr) := [("told", L + 1 + 1 + 1 + 1 + 1), ("head", L + 1 + 1 + 1 + 1), ("spelled", L + 1 + 1 + 1), ("which", L + 1 + 1), ("texts", L + 1)]
theorem len_le_sub : ∀ {l m : List (List Nat)}, l.Nodup → (∀ x ∈ l, x ∈ m) → l.length ≤ m.length
  | [], _, _, _ => Nat.zero_le _
  | a :: r, m, h, hs => by
    have hd := List.nodup_cons.mp h
    have ha := hs a (.head _)
    have ih := len_le_sub (m := m.erase a) hd.2 fun x hx => (List.mem_erase_of_ne (fun z : x = a => hd.1 (by rw [← z]; exact hx))).mpr (hs x (.tail _ hx))
    have := List.length_erase_of_mem ha
    have : 0 < m.length := List.length_pos_of_mem ha
    rw [List.length_cons]; omega
theorem begs_step {ts : List (List Nat)} (h : 1 ≤ ts.length) (x : Int) : (dd (begs (stepT ts x))).length ≤ (dd (begs ts)).length + 1 := by
  have hm := last_mem h
  have key : ∀ z, (∀ y ∈ begs (stepT ts x), y = z ∨ y ∈ begs ts) → (dd (begs (stepT ts x))).length ≤ (dd (begs ts)).length + 1 := fun z hz => by
    have := len_le_sub (l := dd (begs (stepT ts x))) (m := z :: dd (begs ts)) (dd_nodup _) fun y hy => by
      rcases hz y ((mem_dd _ _).mp hy) with q | q
      · rw [q]; exact .head _
      · exact .tail _ ((mem_dd _ _).mpr q)
    rw [List.length_cons] at this; exact this
  unfold stepT at key ⊢
  by_cases c : x % 3 = 0 ∧ ts.length < 6
  · rw [if_pos c] at key ⊢
    refine key [] fun y hy => .inr ?_
    rw [mem_begs] at hy ⊢
    obtain ⟨h0, l, hl, hp⟩ := hy
    refine ⟨h0, ?_⟩
    rcases List.mem_append.mp hl with q | q
    · exact ⟨l, q, hp⟩
    · rw [List.mem_singleton.mp q] at hp
      exact ⟨_, hm, hp.trans (List.take_prefix _ _)⟩
  · rw [if_neg c] at key ⊢
    refine key (ts.getLast?.getD [] ++ [signs.getD ((x / 3) % 13).toNat 0]) fun y hy => ?_
    rw [mem_begs] at hy ⊢
    obtain ⟨h0, l, hl, hp⟩ := hy
    rcases List.mem_append.mp hl with q | q
    · exact .inr ⟨h0, l, List.dropLast_subset ts q, hp⟩
    · rw [List.mem_singleton.mp q] at hp
      rcases Nat.lt_or_ge (ts.getLast?.getD []).length y.length with g | g
      · refine .inl (hp.eq_of_length_le ?_)
        simp; omega
      · exact .inr ⟨h0, _, hm, List.prefix_of_prefix_length_le hp (List.prefix_append _ _) g⟩
theorem begs_fold : ∀ (ns : List Int) {ts : List (List Nat)} {n : Nat}, OkT n ts → (dd (begs (ns.foldl stepT ts))).length ≤ (dd (begs ts)).length + ns.length
  | [], _, _, _ => Nat.le_refl _
  | x :: ns, ts, n, h => by
    have := begs_fold ns (h.step x)
    have := begs_step h.pos x
    rw [List.foldl_cons, List.length_cons]; omega
/-- what is told of the texts -/
structure TsOk (ts : List (List Nat)) : Prop where
  lo : 2 ≤ ts.length
  le : ts.length ≤ 6
  sig : ∀ l ∈ ts, ∀ c ∈ l, c ∈ signs
  len : ∀ l ∈ ts, l.length ≤ 22
  two : Two ts
  few : (dd (begs ts)).length < 64
/-- what the law's names hold -/
structure LFact (w : World) (k : Nat) (ts : List (List Nat)) (L : Addr) (cs : List (Str × Addr)) (m cm : Str → Option Value) (s : Shared) : Prop where
  which : ∃ t, cm "which" = some (.int k t)
  texts : ∃ d us, cm "texts" = some (.ref d) ∧ Out L cs d ∧ s.heap.IsList d us.toArray ∧ Txts us ts
  spelled : ∃ d, cm "spelled" = some (.ref d) ∧ Out L cs d ∧ SpD w k s.heap d
  written : ∃ d us, m "written" = some (.ref d) ∧ Out L cs d ∧ s.heap.IsList d us.toArray ∧ Txts us (ts.map (esc k))
theorem LFact.step {w : World} {k : Nat} {ts : List (List Nat)} {L : Addr} {cs : List (Str × Addr)} {m cm m' cm' : Str → Option Value} {s s' : Shared} (x : LFact w k ts L cs m cm s) (st : Stp L cs s s') (h1 : m' "written" = m "written") (h2 : cm' "which" = cm "which") (h3 : cm' "texts" = cm "texts") (h4 : cm' "spelled" = cm "spelled") : LFact w k ts L cs m' cm' s' :=
  ⟨by rw [h2]; exact x.which, let ⟨d, us, a, b, c, e⟩ := x.texts; ⟨d, us, by rw [h3]; exact a, b, isListS st b c, e⟩, let ⟨d, a, b, c⟩ := x.spelled; ⟨d, by rw [h4]; exact a, b, spdS st b c⟩,
   let ⟨d, us, a, b, c, e⟩ := x.written; ⟨d, us, by rw [h1]; exact a, b, isListS st b c, e⟩⟩
theorem LFact.keeps {w : World} {k : Nat} {ts : List (List Nat)} {L : Addr} {cs : List (Str × Addr)} {m cm : Str → Option Value} {s s' : Shared} (x : LFact w k ts L cs m cm s) (kk : Keeps s s') : LFact w k ts L cs m cm s' := x.step (.of kk) rfl rfl rfl rfl
theorem textsOf_ok (ns : List Int) (hn : ns.length ≤ 10) : TsOk (textsOf (ns ++ tailN)) := by
  have O : OkT (0 + (ns ++ tailN).length) (textsOf (ns ++ tailN)) := OkT.start.fold (ns ++ tailN)
  have O1 : OkT (0 + ns.length) (textsOf ns) := OkT.start.fold ns
  have e : textsOf (ns ++ tailN) = tailN.foldl stepT (textsOf ns) := by unfold textsOf; rw [List.foldl_append]
  have h5 := tail_len O1.pos O1.le
  refine ⟨by rw [e]; omega, O.le, O.sig, fun l hl => ?_, by rw [e]; exact tail_two O1.pos, ?_⟩
  · have := O.len l hl
    simp at this; omega
  · have := begs_fold (ns ++ tailN) OkT.start
    have e0 : (dd (begs [[]])).length = 0 := rfl
    rw [e0] at this
    unfold textsOf
    simp at this ⊢; omega
end Mine
end

section
open PySem PySem.W PyProof.Rows
set_option maxRecDepth 100000
set_option linter.unusedVariables false
namespace Mine
section
variable {w : World} {A : Around} {E : Value → Shared → Prop} {s : Shared} {env : Env}
theorem splI {pos : Pos} : ∀ (es : List (Int × Pos)) {s : Shared} {Q : List Value → Shared → Prop}, (∀ vs s', Keeps s s' → IntsAre vs (es.map (·.1)) → Q vs s') → wpAny (model pr w) A (spliced (backTo pos (starEach (es.map fun p => .Constant (.int p.1) 0 p.2) env))) Q E s
  | [], s, Q, h => Calls.spliced_nil (h [] s (kRefl s) .nil)
  | p :: es, s, Q, h => by
    rw [List.map_cons, backC]
    exact Calls.spliced_cons (cInt fun s₁ t₁ k₁ => splI es fun vs s₂ k₂ hv => h _ s₂ (kTrans k₁ k₂) (.cons _ t₁ hv))
theorem listI {elts : List Expr} (es : List (Int × Pos)) {pos : Pos} {Q : Value → Shared → Prop} (he : elts = es.map fun p => .Constant (.int p.1) 0 p.2) (hn : es.length ≤ 100) (h : ∀ D vs s', Keeps s s' → s.heap.get? D = none → s'.heap.IsList D vs.toArray → IntsAre vs (es.map (·.1)) → Q (.ref D) s') : wpAny (model pr w) A (eval (.List elts pos) env) Q E s := by
  subst he
  refine List_ (splI es fun vs s₁ k₁ hv => mkList (by have := hv.length; simp at this; omega) fun D s₂ k₂ fD hl _ => ?_)
  refine h D vs s₂ (kTrans k₁ k₂) ?_ (PlainList.is hl) hv
  cases q : s.heap.get? D with
  | none => rfl
  | some o => rw [kGet k₁ q] at fD; cases fD
end
/-- the first two statements -/
theorem stage1 (w : World) {s₀ s : Shared} {L : Addr} {env : Env} {m cm : Str → Option Value} {a : Addr} {vs : List Value} {ns : List Int} {Q : Flow → Shared → Prop} (e : EnvIs env L lawN (lawC L)) (x : LW w s₀ L (lawC L) m cm #[] s)
    (hm : m "script" = some (.ref a)) (ha : Out L (lawC L) a) (hl : s.heap.IsList a vs.toArray) (hv : IntsAre vs ns) (hn : ns.length ≤ 63)
    (h : ∀ s' cm', LW w s₀ L (lawC L) m cm' #[] s' → 1 ≤ s'.toks → (∃ t, cm' "which" = some (.int ((ns.sum % 5).toNat : Nat) t)) → (∃ d us, cm' "texts" = some (.ref d) ∧ Out L (lawC L) d ∧ s'.heap.IsList d us.toArray ∧ Txts us (textsOf (ns.take 10 ++ tailN))) →
      wpAny (model pr w) (Aw 302 3003) (execs ((lawBody w).drop 2) env) Q (fun _ _ => False) s') :
    wpAny (model pr w) (Aw 302 3003) (execs (lawBody w) env) Q (fun _ _ => False) s := by
  have hvl := hv.length
  refine wpAny_execs_cons ?_
  refine wpAny_Assign_Name (callF1 x.has e (by kernel_rfl) (gl_texts w) (fnTexts w) ?_)
  refine wpAny_BinOp (sliceLTo (nmL x.ns e (by kernel_rfl) hm (cInt fun s₂ t₂ k₂ => ?_)))
  refine ⟨a, vs, 10, t₂, rfl, isListK k₂ hl, rfl, by omega, fun D₃ s₃ k₃ fD₃ hD₃ => ?_⟩
  refine listI [(22, ⟨163, 38, 163, 40⟩), (1, ⟨163, 42, 163, 43⟩), (3, ⟨163, 45, 163, 46⟩), (4, ⟨163, 48, 163, 49⟩), (3, ⟨163, 51, 163, 52⟩), (13, ⟨163, 54, 163, 56⟩), (3, ⟨163, 58, 163, 59⟩), (16, ⟨163, 61, 163, 63⟩), (3, ⟨163, 65, 163, 66⟩), (1, ⟨163, 68, 163, 69⟩), (28, ⟨163, 71, 163, 73⟩)] ?_ ?_ ?_
  · rfl
  · decide
  intro D₄ us₄ s₄ k₄ fD₄ hD₄ hv₄
  have hv4' : IntsAre us₄ tailN := hv₄
  have hl4 := hv4'.length
  refine opAddL (isListK k₄ hD₃) hD₄ (by simp [hl4]; omega) fun D₅ s₅ k₅ fD₅ hD₅ => ?_
  have k25 := kTrans (kTrans (kTrans k₂ k₃) k₄) k₅
  have x₅ := x.keeps k25
  refine ⟨x₅.has, useSpec (texts_spec w x₅.has hD₅ ((hv.take 10).append hv4') (by simp; omega)) rfl (by decide) (by decide) ?_⟩
  rintro v s₆ k₆ ⟨D, us, n, rfl, fD, hD, hT⟩
  have x₆ := x₅.keeps k₆
  refine lwC x₆ e (by kernel_rfl) rfl fun s₇ x₇ st₇ => ?_
  have oD : Out L (lawC L) D := x₅.out fD
  have hD₇ : s₇.heap.IsList D us.toArray := isListS st₇ oD ⟨_, hD, rfl, _, rfl⟩
  have hl₇ : s₇.heap.IsList a vs.toArray := isListS st₇ ha (isListK (kTrans k25 k₆) hl)
  have cT : ∃ d us, (fun y => if y = Str.ofString "texts" then some (Value.ref D) else cm y) "texts" = some (.ref d) ∧ Out L (lawC L) d ∧ s₇.heap.IsList d us.toArray ∧ Txts us (textsOf (ns.take 10 ++ tailN)) := ⟨D, us, if_pos rfl, oD, hD₇, hT⟩
  generalize (fun y => if y = Str.ofString "texts" then some (Value.ref D) else cm y) = cm₇ at x₇ cT
  refine wpAny_execs_cons ?_
  refine wpAny_Assign_Name (wpAny_BinOp (callB1 x₇.has e (by kernel_rfl) (gl_sum w) (bl_sum w) (nmL x₇.ns e (by kernel_rfl) hm (opSum rfl hl₇ hv fun s₈ t₈ k₈ => wpAny_Constant_int ?_))))
  have x₈ := x₇.keeps (kTrans k₈ (kTok (s₈.toks + 1)))
  refine wpToks (opMod (by decide) fun s₉ t₉ k₉ q₉ => ?_)
  have x₉ := x₈.keeps k₉
  refine wpToks (lwC x₉ e (by kernel_rfl) rfl fun s₁₀ x₁₀ st₁₀ q₁₀ => ?_)
  have e5 : ns.sum % 5 = ((ns.sum % 5).toNat : Nat) := (Int.toNat_of_nonneg (Int.emod_nonneg _ (by decide))).symm
  refine h s₁₀ _ x₁₀ (Nat.le_trans (Nat.le_trans (Nat.succ_le_succ (Nat.zero_le _)) q₉) q₁₀) ⟨t₉, by rw [← e5]; exact if_pos rfl⟩ ?_
  obtain ⟨d, us', c1, c2, c3, c4⟩ := cT
  exact ⟨d, us', (if_neg (by decide)).trans c1, c2, isListS st₁₀ c2 (isListK (kTrans (kTrans k₈ (kTok (s₈.toks + 1))) k₉) c3), c4⟩
end Mine
end

section
open PySem PySem.W PyProof.Rows
set_option maxRecDepth 100000
set_option linter.unusedVariables false
namespace Mine
theorem gl_spellings (w : World) : gl w "_law_spellings" = some (.ref 91) := gl_spell w
/-- the third and the fourth statement -/
theorem stage2 (w : World) {s₀ s : Shared} {L : Addr} {env : Env} {m cm : Str → Option Value} {k : Nat} {ts : List (List Nat)} {Q : Flow → Shared → Prop} (e : EnvIs env L lawN (lawC L)) (x : LW w s₀ L (lawC L) m cm #[] s) (hk : k < 5) (ht : 1 ≤ s.toks) (O : TsOk ts)
    (hw : ∃ t, cm "which" = some (.int k t)) (hts : ∃ d us, cm "texts" = some (.ref d) ∧ Out L (lawC L) d ∧ s.heap.IsList d us.toArray ∧ Txts us ts)
    (h : ∀ s' m' cm', LW w s₀ L (lawC L) m' cm' #[] s' → LFact w k ts L (lawC L) m' cm' s' → wpAny (model pr w) (Aw 302 3003) (execs ((lawBody w).drop 4) env) Q (fun _ _ => False) s') :
    wpAny (model pr w) (Aw 302 3003) (execs ((lawBody w).drop 2) env) Q (fun _ _ => False) s := by
  obtain ⟨tw, hw⟩ := hw
  obtain ⟨dT, us, hcT, oT, hlT, hT⟩ := hts
  refine wpAny_execs_cons ?_
  have cw := x.cell "which" (L + 1 + 1) rfl
  rw [hw] at cw
  refine wpAny_Assign_Name (callF1 x.has e (by kernel_rfl) (gl_spellings w) (fnSpell w) (nmC e (by kernel_rfl) rfl cw ⟨x.has, wpToks (useSpec (spell_spec w x.has k hk tw) rfl (by decide) (by decide) ?_)⟩))
  rintro v s₂ k₂ ⟨D, rfl, fD, hD⟩ q₂
  have oD : Out L (lawC L) D := x.out fD
  refine wpToks (lwC (x.keeps k₂) e (by kernel_rfl) rfl fun s₃ x₃ st₃ q₃ => ?_)
  have hD₃ : SpD w k s₃.heap D := spdS st₃ oD hD
  have hlT₃ : s₃.heap.IsList dT us.toArray := isListS st₃ oT (isListK k₂ hlT)
  have cS : (fun y => if y = Str.ofString "spelled" then some (Value.ref D) else cm y) "spelled" = some (.ref D) := if_pos rfl
  have cW : (fun y => if y = Str.ofString "spelled" then some (Value.ref D) else cm y) "which" = some (.int k tw) := (if_neg (by decide)).trans hw
  have cT : (fun y => if y = Str.ofString "spelled" then some (Value.ref D) else cm y) "texts" = some (.ref dT) := (if_neg (by decide)).trans hcT
  generalize (fun y => if y = Str.ofString "spelled" then some (Value.ref D) else cm y) = cm₃ at x₃ cS cW cT
  have ht₃ : 1 ≤ s₃.toks := by omega
  have hul := txts_len hT
  refine wpAny_execs_cons ?_
  refine compA (fun _ => true) (fun v y => ∃ l t u, l ∈ ts ∧ v = .str (S l) t ∧ y = .str (S (esc k l)) u) us.toArray.size (fun i v => us.toArray[i]? = some v) e x₃.rc (by kernel_rfl) (by kernel_rfl) (by kernel_rfl) (by unfold closureFor cellOf; simp only [e.cells]; rfl) (by kernel_rfl) rfl (by kernel_rfl) (by kernel_rfl) (by have := O.le; simp; omega) ?_
  have cTc := x₃.cell "texts" (L + 1) rfl
  rw [cT] at cTc
  have cWc := x₃.cell "which" (L + 1 + 1) rfl
  rw [cW] at cWc
  refine nmC e (by kernel_rfl) rfl cTc ⟨srcList rfl hlT₃, x₃.rc, ?_, ?_, ?_⟩
  · rintro i v cenv C m₃ s₄ _ _
    exact tests0 ⟨rfl, kRefl _⟩
  · rintro i v cenv C m₃ s₄ hP _ ⟨e', hns, hm, hup, htk⟩
    obtain ⟨l, t, hli, rfl⟩ := txts_at hT (by simpa using hP)
    have hmem : l ∈ ts := List.mem_of_getElem? hli
    have hll := O.len l hmem
    have H₄ : Has w s₄.heap := x₃.has.keeps hup
    refine callF2 H₄ e' (by kernel_rfl) (gl_writing w) (fnWriting w) (nmC e' (by kernel_rfl) (by kernel_rfl) (cWc.keeps hup) (nmL hns e' (by kernel_rfl) hm ⟨H₄, useSpec (writing_spec w H₄ (by omega) k hk tw l (by omega) t) rfl (by decide) (by decide) ?_⟩))
    rintro v s₅ k₅ ⟨t', rfl⟩
    exact ⟨⟨l, t, t', hmem, rfl, rfl⟩, k₅⟩
  · rintro D' s₄ ys us' R₄ up₄ fD' hD' hlen hP hF
    have hTw : Txts ys.toList (ts.map (esc k)) := by
      refine txts_comp (by simp; omega) hlen hP hF ?_
      rintro j v y hPj ⟨l, t, u, _, rfl, rfl⟩
      obtain ⟨l', t', hl', e'⟩ := txts_at hT (i := j) (by simpa using hPj)
      have := S_inj.mp (Value.str.inj e').1
      subst this
      exact ⟨_, u, by rw [List.getElem?_map, hl']; rfl, rfl⟩
    have x₄ := x₃.reg R₄
    have st₄ : Stp L (lawC L) s₃ s₄ := R₄.stp
    have oD' : Out L (lawC L) D' := x₃.out fD'
    refine h s₄ _ cm₃ x₄ ⟨⟨tw, cW⟩, ⟨dT, us, cT, oT, isListS st₄ oT hlT₃, hT⟩, ⟨D, cS, oD, spdS st₄ oD hD₃⟩, ⟨D', ys.toList, if_pos rfl, oD', hD', hTw⟩⟩
end Mine
end

section
open PySem PySem.W PyProof.Rows
set_option maxRecDepth 100000
set_option linter.unusedVariables false
namespace Mine
theorem esc_len (k : Nat) (l : List Nat) : (esc k l).length ≤ 6 * l.length := by
  induction l with
  | nil => simp [esc]
  | cons c r ih => rw [esc_cons, List.length_append, List.length_cons]; have := sp_len6 k c; omega
theorem row_len (k : Nat) (l : List Nat) : ((l.map (sp (tabOf k))).map List.length).sum ≤ 6 * l.length := by
  induction l with
  | nil => simp
  | cons c r ih => simp only [List.map_cons, List.sum_cons, List.length_cons]; have := sp_len6 k c; omega
theorem esc_flat (k : Nat) (l : List Nat) : (l.map (sp (tabOf k))).flatten = esc k l := by unfold esc; rw [List.flatMap_def]
theorem esc_asc {k : Nat} {l : List Nat} (h : ∀ c ∈ l, c ∈ signs) : Asc (esc k l) := fun c hc => by
  obtain ⟨d, h1, h2⟩ := List.mem_flatMap.mp hc
  exact sp_asc k d (h d h1) c h2
/-- the sorted rows, joined, are the sorted writings -/
theorem rows_told {k : Nat} {ts told : List (List Nat)} {rs : List (List (List Nat))} (sig : ∀ l ∈ ts, ∀ c ∈ l, c ∈ signs) (hp : told.Perm (ts.map (esc k))) (hs : told.Pairwise fun a b => ¬ b < a) (hr : rs.Perm (ts.map fun l => l.map (sp (tabOf k))))
    (hrs : rs.Pairwise fun a b => ¬ b < a) : rs.map List.flatten = told := by
  have hmem : ∀ r ∈ rs, ∃ l ∈ ts, r = l.map (sp (tabOf k)) := fun r h => by
    obtain ⟨l, h1, h2⟩ := List.mem_map.mp (hr.mem_iff.mp h)
    exact ⟨l, h1, h2.symm⟩
  have e : (ts.map fun l => l.map (sp (tabOf k))).map List.flatten = ts.map (esc k) := by
    rw [List.map_map]; exact List.map_congr_left fun l _ => esc_flat k l
  refine sorted_uniq (((hr.map List.flatten).trans (e ▸ .refl _)).trans hp.symm) ?_ hs
  rw [List.pairwise_map]
  refine List.Pairwise.imp_of_mem (fun {a b} ha hb hab => ?_) hrs
  obtain ⟨la, h1, rfl⟩ := hmem a ha
  obtain ⟨lb, h2, rfl⟩ := hmem b hb
  rw [esc_flat, esc_flat]
  exact fun z => hab ((rows_lt k lb la (sig lb h2) (sig la h1)).mpr z)
/-- what is told of told -/
structure ToldIs (w : World) (k : Nat) (ts told : List (List Nat)) (L : Addr) (cs : List (Str × Addr)) (cm : Str → Option Value) (s : Shared) : Prop where
  at' : ∃ d us, cm "told" = some (.ref d) ∧ Out L cs d ∧ s.heap.IsList d us.toArray ∧ Txts us told
  perm : told.Perm (ts.map (esc k))
  sort : told.Pairwise fun a b => ¬ b < a
theorem ToldIs.step {w : World} {k : Nat} {ts told : List (List Nat)} {L : Addr} {cs : List (Str × Addr)} {cm cm' : Str → Option Value} {s s' : Shared} (x : ToldIs w k ts told L cs cm s) (st : Stp L cs s s') (h : cm' "told" = cm "told") : ToldIs w k ts told L cs cm' s' :=
  ⟨let ⟨d, us, a, b, c, e⟩ := x.at'; ⟨d, us, by rw [h]; exact a, b, isListS st b c, e⟩, x.perm, x.sort⟩
theorem ToldIs.mem {w : World} {k : Nat} {ts told : List (List Nat)} {L : Addr} {cs : List (Str × Addr)} {cm : Str → Option Value} {s : Shared} (x : ToldIs w k ts told L cs cm s) {l : List Nat} (h : l ∈ told) : ∃ t ∈ ts, l = esc k t := by
  obtain ⟨t, a, b⟩ := List.mem_map.mp (x.perm.mem_iff.mp h)
  exact ⟨t, a, b.symm⟩
/-- told = sorted(written, key=cmp_to_key(_law_compare)) -/
theorem stage3 (w : World) {s₀ s : Shared} {L : Addr} {env : Env} {m cm : Str → Option Value} {k : Nat} {ts : List (List Nat)} {Q : Flow → Shared → Prop} (e : EnvIs env L lawN (lawC L)) (x : LW w s₀ L (lawC L) m cm #[] s) (O : TsOk ts) (F : LFact w k ts L (lawC L) m cm s)
    (h : ∀ s' cm' told, LW w s₀ L (lawC L) m cm' #[] s' → LFact w k ts L (lawC L) m cm' s' → ToldIs w k ts told L (lawC L) cm' s' → wpAny (model pr w) (Aw 302 3003) (execs ((lawBody w).drop 5) env) Q (fun _ _ => False) s') :
    wpAny (model pr w) (Aw 302 3003) (execs ((lawBody w).drop 4) env) Q (fun _ _ => False) s := by
  obtain ⟨dW, us, hW, oW, hlW, hTw⟩ := F.written
  have hul := txts_len hTw
  rw [List.length_map] at hul
  have lo := O.lo
  have le := O.le
  refine wpAny_execs_cons ?_
  refine wpAny_Assign_Name ?_
  refine callKey x.has e (by kernel_rfl) (gl_sorted w) (bl_sorted w) (by kernel_rfl) (by kernel_rfl) rfl (by decide) (by decide) ?_
  refine nmL x.ns e (by kernel_rfl) hW ⟨x.has, x.tabs, fun kk s₂ g up sm KT KC => ?_⟩
  have x₂ := x.cmpk g up KT
  have st₂ : Stp L (lawC L) s s₂ := fun b o hb q => up b o hb.n58 q
  obtain ⟨n, md, L1, bT, kv, t', hs, t₁, hd, td, tK, I⟩ := KC
  refine sortedKey I x₂.has (isListS st₂ oW hlW) hTw (by omega) (by omega) (fun l hl => ?_) rfl (by decide) (by decide) fun D s₃ us₃ told k₃ fD hD hT hp hso => ?_
  · obtain ⟨l₀, h₀, rfl⟩ := List.mem_map.mp hl
    have := esc_len k l₀
    have := O.len l₀ h₀
    omega
  have x₃ := x₂.keeps k₃
  have oD : Out L (lawC L) D := x₂.out fD
  refine lwC x₃ e (by kernel_rfl) rfl fun s₄ x₄ st₄ => ?_
  have st : Stp L (lawC L) s s₄ := (st₂.trans (.of k₃)).trans st₄
  exact h s₄ _ told x₄ (F.step st rfl (if_neg (by decide)) (if_neg (by decide)) (if_neg (by decide))) ⟨⟨D, us₃, if_pos rfl, oD, isListS st₄ oD hD, hT⟩, hp, hso⟩
theorem rows_join {h : Heap} : ∀ {us : List Value} {rs : List (List (List Nat))} {ys : List Value}, RowsAt h us rs → Paired (fun v y => ∀ row, RowAt h v row → ∃ t, y = Value.str (S row.flatten) t) us ys → Txts ys (rs.map List.flatten)
  | _, _, _, .nil, h2 => by cases h2; exact .nil
  | _, _, _, .cons a r, h2 => by
    cases h2 with
    | cons h' t' => exact .cons (h' _ a) (rows_join r t')
/-- if told != [...]: return False -/
theorem stage4 (w : World) {s₀ s : Shared} {L : Addr} {env : Env} {m cm : Str → Option Value} {k : Nat} {ts told : List (List Nat)} {Q : Flow → Shared → Prop} (e : EnvIs env L lawN (lawC L)) (x : LW w s₀ L (lawC L) m cm #[] s) (O : TsOk ts) (F : LFact w k ts L (lawC L) m cm s) (G : ToldIs w k ts told L (lawC L) cm s)
    (h : ∀ s', LW w s₀ L (lawC L) m cm #[] s' → LFact w k ts L (lawC L) m cm s' → ToldIs w k ts told L (lawC L) cm s' → wpAny (model pr w) (Aw 302 3003) (execs ((lawBody w).drop 6) env) Q (fun _ _ => False) s') :
    wpAny (model pr w) (Aw 302 3003) (execs ((lawBody w).drop 5) env) Q (fun _ _ => False) s := by
  obtain ⟨dL, usL, hL, oL, hlL, hTL⟩ := G.at'
  obtain ⟨dT, us, hT, oT, hlT, hTT⟩ := F.texts
  obtain ⟨dS, hS, oS, hD⟩ := F.spelled
  have lo := O.lo
  have le := O.le
  have hul := txts_len hTT
  have cL := x.cell "told" (L + 1 + 1 + 1 + 1 + 1) rfl
  rw [hL] at cL
  have cT := x.cell "texts" (L + 1) rfl
  rw [hT] at cT
  have cS := x.cell "spelled" (L + 1 + 1 + 1) rfl
  rw [hS] at cS
  refine wpAny_execs_cons ?_
  refine wpAny_If (wpAny_isTrue_Compare1 (nmC e (by kernel_rfl) rfl cL ?_))
  refine compLF (cl := []) e rfl (by kernel_rfl) rfl (by kernel_rfl) (by kernel_rfl) ?_
  refine callB1 x.has e (by kernel_rfl) (gl_sorted w) (bl_sorted w) ?_
  refine rowsComp (k := k) (a := dS) (c := L + 1 + 1 + 1) ts e (by unfold closureFor cellOf; simp only [e.cells]; rfl) rfl rfl (fun e' => by unfold closureFor cellOf; simp only [e'.cells]; rfl) rfl rfl (by kernel_rfl) rfl (by omega) (fun l hl => ⟨by have := O.len l hl; omega, O.sig l hl⟩) ?_
  refine nmC e (by kernel_rfl) rfl cT ⟨dT, us, rfl, hlT, hTT, cS, hD, fun D₂ s₂ ys₂ k₂ fD₂ hD₂ hR₂ => ?_⟩
  have hyl : ys₂.length = ts.length := by have := (paired_at hR₂).1; rw [List.length_map] at this; exact this
  refine sortedRows hD₂ hR₂ (by omega) (by omega) (by decide) fun D₃ s₃ us₃ rs k₃ fD₃ hD₃ hR₃ hp hso => ?_
  have hus : us₃.length = ts.length := by rw [(paired_at hR₃).1, hp.length_eq, List.length_map]
  have k23 := kTrans k₂ k₃
  refine ⟨fun _ => true, fun v y => ∀ row, RowAt s₃.heap v row → ∃ t, y = .str (S row.flatten) t, us₃.toArray.size, fun i v => us₃.toArray[i]? = some v, by simp; omega, srcList rfl hD₃, ?_, ?_, ?_⟩
  · rintro i v cenv C m₃ s₄ _ _
    exact tests0 ⟨rfl, kRefl _⟩
  · rintro i v cenv C m₃ s₄ hP _ ⟨e', hns, hm, hup, htk⟩
    have hi : i < us₃.length := by have := (Array.getElem?_eq_some_iff.mp hP).1; simpa using this
    have hrow := rows_at hR₃ hi
    have hv : us₃.getD i .none = v := by
      rw [List.getD_eq_getElem?_getD]
      have : us₃[i]? = some v := by simpa using hP
      rw [this]; rfl
    rw [hv] at hrow
    have hmem : rs.getD i [] ∈ rs := by
      have hi' : i < rs.length := by rw [← (paired_at hR₃).1]; exact hi
      rw [List.getD_eq_getElem?_getD, List.getElem?_eq_getElem hi']; exact List.getElem_mem hi'
    generalize rs.getD i [] = row at hrow hmem
    obtain ⟨l, hl1, hl2⟩ := List.mem_map.mp (hp.mem_iff.mp hmem)
    have hlen := row_len k l
    have hll := O.len l hl1
    refine callJoin rfl (by kernel_rfl) fun s₅ t₅ k₅ => ?_
    have hrow' := hrow
    obtain ⟨a', us', rfl, hl', hT'⟩ := hrow
    refine nmL (hns.keeps (kAll k₅)) e' (by kernel_rfl) hm ?_
    refine opJoin (D := a') ((hl'.at fun o q => hup _ _ q).at fun o q => kGet k₅ q) hT' ?_ fun t' s₆ k₆ => ?_
    · rw [← hl2]; omega
    · refine ⟨fun row' hr => ?_, kTrans k₅ k₆⟩
      rw [hr.uniq hrow']; exact ⟨t', rfl⟩
  · rintro D₄ s₄ ys vs' k₄ fD₄ hD₄ hlen hP hF
    have ev : vs' = us₃ := list_of_at (by simpa using hlen) fun j v q => by simpa using hP j v q
    subst ev
    have ef : vs'.filter (fun _ => true) = vs' := List.filter_eq_self.mpr fun _ _ => rfl
    rw [ef] at hF
    have hTy := rows_join hR₃ hF
    have k24 := kTrans k23 k₄
    have hasc : ∀ l ∈ told, Asc l := fun l hl => by
      obtain ⟨t, h1, rfl⟩ := G.mem hl
      exact esc_asc (O.sig t h1)
    rw [rows_told O.sig G.perm G.sort hp hso] at hTy
    have hD₄' : s₄.heap.IsList D₄ ys.toList.toArray := hD₄
    refine opNeL (isListK k24 hlL) hTL hD₄' hTy hasc hasc (by decide) (wpAny_truthy_bool ?_)
    rw [if_neg (by simp)]
    exact wpAny_execs_nil (h s₄ (x.keeps k24) (F.keeps k24) (G.step (.of k24) rfl))
end Mine
end

section
open PySem PySem.W PyProof.Rows
set_option maxRecDepth 100000
set_option linter.unusedVariables false
namespace Mine
theorem LW.outL {w : World} {s₀ s : Shared} {L : Addr} {cs : List (Str × Addr)} {m cm : Str → Option Value} {T : Array Value} (x : LW w s₀ L cs m cm T s) {D : Addr} {vs : Array Value} (h : s.heap.IsList D vs) : Out L cs D := by
  obtain ⟨o, ho, _, n, hd⟩ := h
  refine ⟨fun z => ?_, fun z => ?_, fun z => ?_⟩
  · rcases List.mem_cons.mp z with rfl | z
    · obtain ⟨o', es, nn, ho', hd', _⟩ := x.ns
      rw [ho] at ho'; cases ho'; rw [hd] at hd'; cases hd'
    · obtain ⟨p, hp, rfl⟩ := List.mem_map.mp z
      obtain ⟨o', ho', hd'⟩ := x.cell p.1 p.2 (x.look p hp)
      rw [ho] at ho'; cases ho'; rw [hd] at hd'; cases hd'
  · obtain ⟨ps, a, _⟩ := x.tabs
    rw [z, a] at ho; cases ho; cases hd
  · rw [z, x.t122] at ho; cases ho; cases hd
/-- the rows of what the first writings have in common -/
def Com (W : List (List Nat)) (rows : List (List Nat)) : Prop := ∀ (j : Nat) p, rows[j]? = some p → LCP p (W.take (j + 1))
theorem Com.step {W rows : List (List Nat)} {x one : List Nat} (h : Com W (rows ++ [x])) (hi : W[rows.length + 1]? = some one) : Com W (rows ++ [x] ++ [lcp x one]) := by
  intro j p hj
  have hW : rows.length + 1 < W.length := (List.getElem?_eq_some_iff.mp hi).1
  rcases Nat.lt_or_ge j (rows ++ [x]).length with q | q
  · rw [List.getElem?_append_left q] at hj; exact h j p hj
  · rw [List.getElem?_append_right q] at hj
    have hj0 : j = rows.length + 1 := by
      have h1 := (List.getElem?_eq_some_iff.mp hj).1
      simp only [List.length_append, List.length_cons, List.length_nil] at h1 q; omega
    subst hj0
    have hp : lcp x one = p := by simpa using hj
    subst hp
    have hx : LCP x (W.take (rows.length + 1)) := h rows.length x (by simp)
    rw [List.take_add_one, hi]
    cases hw : W.take (rows.length + 1) with
    | nil =>
      have h1 := congrArg List.length hw
      rw [List.length_take, List.length_nil] at h1; omega
    | cons y r =>
      rw [hw] at hx
      exact LCP.snoc hx (.head _)
structure HeldIs (w : World) (k : Nat) (ts : List (List Nat)) (L : Addr) (cs : List (Str × Addr)) (m : Str → Option Value) (s : Shared) : Prop where
  at' : ∃ d us rows, m "held" = some (.ref d) ∧ Out L cs d ∧ s.heap.IsList d us.toArray ∧ Txts us rows ∧ rows.length = ts.length ∧ Com (ts.map (esc k)) rows
abbrev tab1 (c : Addr) : Array Value := #[rawInt (170 : Nat), rawInt (18 : Nat), .ref c]
theorem nn1 (c : Addr) : NoNm (tab1 c) := fun q t z => by simp [tab1, rawInt] at z
set_option maxHeartbeats 1000000 in
/-- held = reduce(...) -/
theorem stage5 (w : World) {s₀ s : Shared} {L : Addr} {env : Env} {m cm : Str → Option Value} {k : Nat} {ts told : List (List Nat)} {Q : Flow → Shared → Prop} (e : EnvIs env L lawN (lawC L)) (hcode : env.code = .ref 124) (x : LW w s₀ L (lawC L) m cm #[] s) (O : TsOk ts) (F : LFact w k ts L (lawC L) m cm s) (G : ToldIs w k ts told L (lawC L) cm s)
    (h : ∀ s' m' c, LW w s₀ L (lawC L) m' cm (tab1 c) s' → LFact w k ts L (lawC L) m' cm s' → ToldIs w k ts told L (lawC L) cm s' → HeldIs w k ts L (lawC L) m' s' → wpAny (model pr w) (Aw 302 3003) (execs ((lawBody w).drop 7) env) Q (fun _ _ => False) s') :
    wpAny (model pr w) (Aw 302 3003) (execs ((lawBody w).drop 6) env) Q (fun _ _ => False) s := by
  have lo := O.lo
  have le := O.le
  refine wpAny_execs_cons ?_
  refine wpAny_Assign_Name ?_
  refine callF2 x.has e (by kernel_rfl) (gl_reduce w) (fnReduce w) ?_
  refine evalLam x e hcode rfl rfl (by trivial) rfl (fun c => nn1 c) ?_
  intro f c ctv s₁ x₁ st₁ ff hf hcr sm₁
  have F₁ := F.step st₁ rfl rfl rfl rfl
  have G₁ := G.step st₁ rfl
  have x₁' : LW w s₀ L (lawC L) m cm (tab1 c) s₁ := x₁
  obtain ⟨dW, us, hW, oW, hlW, hTw⟩ := F₁.written
  have hul := txts_len hTw
  rw [List.length_map] at hul
  refine wpAny_BinOp (list1' ?_)
  refine sliceLTo (nmL x₁'.ns e (by kernel_rfl) hW (cInt fun s₂ t₂ k₂ => ?_))
  refine ⟨dW, us, 1, t₂, rfl, isListK k₂ hlW, rfl, by omega, fun D₃ s₃ k₃ fD₃ hD₃ => ?_⟩
  intro D₄ s₄ k₄ fD₄ hD₄
  have k14 := kTrans (kTrans k₂ k₃) k₄
  refine sliceLFrom (nmL (x₁'.keeps k14).ns e (by kernel_rfl) hW (cInt fun s₅ t₅ k₅ => ?_))
  refine ⟨dW, us, 1, t₅, rfl, isListK (kTrans k14 k₅) hlW, rfl, by omega, fun D₆ s₆ k₆ fD₆ hD₆ => ?_⟩
  refine opAddL (isListK (kTrans k₅ k₆) hD₄) hD₆ (by simp; omega) fun D₇ s₇ k₇ fD₇ hD₇ => ?_
  have k17 := kTrans (kTrans (kTrans k14 k₅) k₆) k₇
  have x₇ := x₁'.keeps k17
  generalize hWr : ts.map (esc k) = W at *
  have hWl : W.length = ts.length := by rw [← hWr, List.length_map]
  have hasc : ∀ l ∈ W, l.length ≤ 2 ^ 20 := fun l hl => by
    rw [← hWr] at hl
    obtain ⟨l₀, h₀, rfl⟩ := List.mem_map.mp hl
    have := esc_len k l₀
    have := O.len l₀ h₀
    omega
  have hus : us ≠ [] := fun z => by rw [z] at hul; simp at hul; omega
  obtain ⟨u0, ur, eu⟩ := List.exists_cons_of_ne_nil hus
  have hd3 : s₇.heap.IsList D₃ (us.take 1).toArray := isListK (kTrans (kTrans (kTrans k₄ k₅) k₆) k₇) hD₃
  obtain ⟨w0, Wr, eW⟩ := List.exists_cons_of_ne_nil (l := W) (fun z => by rw [z] at hWl; simp at hWl; omega)
  refine ⟨x₇.has, useSpec (reduce_spec w x₇.has (fun i us' => 1 ≤ i ∧ ∃ rows, Txts us' rows ∧ rows.length = i ∧ Com W rows) (kGet k17 hf) rfl hD₇ (.inl ⟨rfl, rfl, rfl, .ref D₃, rfl, D₃, us.take 1, rfl, hd3, by decide, [w0], ?_, rfl, ?_⟩) (by simp) ?_) rfl (by decide) (by decide) ?_⟩
  · rw [eu, eW] at hTw
    rw [eu]
    cases hTw with
    | cons h _ => exact .cons h .nil
  · intro j p hj
    rw [eW]
    match j, hj with
    | 0, hj =>
      have : w0 = p := by simpa using hj
      subst this; exact LCP.one _
    | j + 1, hj => simp at hj
  · intro i v us' D s' hup hlD hvi ⟨hi1, rows, hT, hlen, hC⟩
    obtain ⟨i, rfl⟩ : ∃ n, i = n + 1 := ⟨i - 1, by omega⟩
    have hvu : us[i + 1]? = some v := by
      have : ([Value.ref D₃] ++ us.drop 1)[i + 1]? = (us.drop 1)[i]? := by simp
      rw [this, List.getElem?_drop, Nat.add_comm] at hvi; exact hvi
    obtain ⟨one, t, ho, rfl⟩ := txts_at hTw hvu
    have hrn : rows ≠ [] := fun z => by rw [z] at hlen; simp at hlen
    have er := List.dropLast_concat_getLast hrn
    generalize rows.getLast hrn = xl at er
    generalize rows.dropLast = rr at er
    subst er
    have hrl : rr.length = i := by simpa using hlen
    have hip : i + 1 < W.length := (List.getElem?_eq_some_iff.mp ho).1
    have hone : one.length ≤ 2 ^ 20 := hasc one (List.mem_of_getElem? ho)
    have hxl : xl.length ≤ 2 ^ 20 := by
      have hl := hC i xl (by rw [← hrl]; simp)
      have := (hl.pre w0 (by rw [eW]; simp)).length_le
      have := hasc w0 (by rw [eW]; simp)
      omega
    have H' : Has w s'.heap := x₇.has.keeps hup
    refine codeAny_mono (lam1_spec w H' (hup _ _ (kGet k17 hf)) (Heap.CodeRec.keeps (hcr.keeps (kAll k17)) hup) hlD hT (by omega) hxl hone) fun r s'' hr => ?_
    obtain ⟨v', rfl, kk, D', us'', rfl, hl'', hT''⟩ := hr
    exact ⟨_, rfl, kk, D', us'', rfl, hl'', by omega, _, hT'', by simp; omega, hC.step (by rw [hrl]; exact ho)⟩
  · rintro v s₈ k₈ ⟨D, us₈, rfl, hlD, _, rows, hT₈, hlen₈, hC₈⟩
    have x₈ := x₇.keeps k₈
    have oD := x₈.outL hlD
    refine lwL x₈ e (by kernel_rfl) fun s₉ x₉ st₉ => ?_
    have st : Stp L (lawC L) s₁ s₉ := ((Stp.of k17).trans (.of k₈)).trans st₉
    refine h s₉ _ c x₉ (F₁.step st (if_neg (by decide)) rfl rfl rfl) (G₁.step st rfl) ⟨D, us₈, rows, if_pos rfl, oD, isListS st₉ oD hlD, hT₈, ?_, by rw [hWr]; exact hC₈⟩
    rw [hlen₈]; simp; omega
end Mine
end

section
open PySem PySem.W PyProof.Rows
set_option maxRecDepth 100000
set_option linter.unusedVariables false
namespace Mine
section
variable {w : World} {A : Around} {E : Value → Shared → Prop} {s : Shared}
/-- range(1, n + 1) as what a loop runs over -/
theorem rangeSrc {n : Nat} {t u : Tok} {Q : Value → Shared → Prop} (hA : A.handled = none) (hn : n ≤ 2 ^ 20) (h : ∀ r s₁, Keeps s s₁ → Src w A (.ref r) n (fun i v => i < n ∧ ∃ t, v = .int (1 + i * 1) t) s₁ → Q (.ref r) s₁) :
    wpAny (model pr w) A (call (.type "range") [.int 1 t, .int ((n + 1 : Nat) : Int) u]) Q E s := by
  refine srcRange hA hn fun r s₁ k₁ hit => h r s₁ k₁ fun Q' E' hq => ?_
  refine wpToks (hit _ _ fun J s₂ k₂ fJ hJ hle => ?_)
  have W' := Walks.range (prog := pr) (w := w) (A := A) hA J 1 1 n
  refine hq J _ _ s₂ ⟨W'.sub, W'.frame, fun i s Q E hi st hQ => W'.item i s Q E hi st fun v h' tk hP => hQ v h' tk ⟨hi, hP⟩, W'.done, W'.self⟩ k₂ hle fJ hJ fun b hb => ?_
  rw [List.mem_singleton.mp hb]
  exact Heap.lt_size hJ
end
/-- if held != [...]: return False -/
theorem stage6 (w : World) {s₀ s : Shared} {L : Addr} {env : Env} {m cm : Str → Option Value} {k : Nat} {ts told : List (List Nat)} {T : Array Value} {Q : Flow → Shared → Prop} (e : EnvIs env L lawN (lawC L)) (x : LW w s₀ L (lawC L) m cm T s) (O : TsOk ts) (F : LFact w k ts L (lawC L) m cm s) (G : ToldIs w k ts told L (lawC L) cm s) (U : HeldIs w k ts L (lawC L) m s)
    (h : ∀ s', LW w s₀ L (lawC L) m cm T s' → LFact w k ts L (lawC L) m cm s' → ToldIs w k ts told L (lawC L) cm s' → wpAny (model pr w) (Aw 302 3003) (execs ((lawBody w).drop 8) env) Q (fun _ _ => False) s') :
    wpAny (model pr w) (Aw 302 3003) (execs ((lawBody w).drop 7) env) Q (fun _ _ => False) s := by
  obtain ⟨dH, usH, rows, hH, oH, hlH, hTH, hrl, hC⟩ := U.at'
  obtain ⟨dT, us, hT, oT, hlT, hTT⟩ := F.texts
  obtain ⟨dS, hS, oS, hD⟩ := F.spelled
  have lo := O.lo
  have le := O.le
  have hul := txts_len hTT
  have cT := x.cell "texts" (L + 1) rfl
  rw [hT] at cT
  have cS := x.cell "spelled" (L + 1 + 1 + 1) rfl
  rw [hS] at cS
  refine wpAny_execs_cons ?_
  refine wpAny_If (wpAny_isTrue_Compare1 (nmL x.ns e (by kernel_rfl) hH ?_))
  refine compLF e (by unfold closureFor cellOf; simp only [e.cells]; rfl) (by kernel_rfl) rfl (by kernel_rfl) (by kernel_rfl) ?_
  refine callT2 x.has e (by kernel_rfl) (gl_range w) (bl_range w) (cInt fun s₂ t₂ k₂ => ?_)
  refine wpAny_BinOp (callB1 (x.keeps k₂).has e (by kernel_rfl) (gl_len w) (bl_len w) (nmC e (by kernel_rfl) rfl (cT.keeps (kAll k₂)) (opLenL (isListK k₂ hlT) (by omega) fun s₃ t₃ k₃ => cInt fun s₄ t₄ k₄ => opAdd fun s₅ t₅ k₅ => ?_)))
  have ei : (us.length : Int) + 1 = ((ts.length + 1 : Nat) : Int) := by rw [hul]; push_cast; rfl
  rw [ei]
  refine rangeSrc rfl (by omega) fun r s₆ k₆ src => ?_
  have kk := kTrans (kTrans (kTrans (kTrans k₂ k₃) k₄) k₅) k₆
  have x₆ := x.keeps kk
  have cT₆ := cT.keeps (kAll kk)
  have cS₆ := cS.keeps (kAll kk)
  have hlT₆ := isListK kk hlT
  have hD₆ := hD.keeps (kAll kk)
  refine ⟨fun _ => true, fun v y => ∃ i ti p t, v = .int (1 + ((i : Nat) : Int) * 1) ti ∧ y = .str (S p) t ∧ LCP p ((ts.map (esc k)).take (i + 1)), ts.length, _, by omega, src, ?_, ?_, ?_⟩
  · rintro i v cenv C m₃ s₇ _ _
    exact tests0 ⟨rfl, kRefl _⟩
  · rintro i v cenv C m₃ s₇ ⟨hin, ti, rfl⟩ _ ⟨e', hns, hm, hup, htk⟩
    have H₇ : Has w s₇.heap := x₆.has.keeps hup
    refine callF2 H₇ e' (by kernel_rfl) (gl_common w) (fnCommon w) ?_
    refine sliceLTo (nmC e' (by kernel_rfl) (by kernel_rfl) (cT₆.keeps hup) (nmL hns e' (by kernel_rfl) hm ?_))
    have e1 : (1 : Int) + (i : Int) * 1 = ((i + 1 : Nat) : Int) := by push_cast; omega
    refine ⟨dT, us, i + 1, ti, rfl, hlT₆.at fun o q => hup _ _ q, by rw [e1], by omega, fun D₈ s₈ k₈ fD₈ hD₈ => ?_⟩
    refine nmC e' (by kernel_rfl) (by kernel_rfl) ((cS₆.keeps hup).keeps (kAll k₈)) ⟨kHas k₈ H₇, ?_⟩
    have hne : us ≠ [] := fun z => by rw [z] at hul; simp at hul; omega
    obtain ⟨u0, ur, eu⟩ := List.exists_cons_of_ne_nil hne
    obtain ⟨x0, xr, ex⟩ := List.exists_cons_of_ne_nil (l := ts) (fun z => by rw [z] at lo; simp at lo)
    have hTt : Txts (us.take (i + 1)) (x0 :: xr.take i) := by
      have go : ∀ {us : List Value} {ls : List (List Nat)}, Txts us ls → ∀ n, Txts (us.take n) (ls.take n) := by
        intro us ls h
        induction h with
        | nil => intro n; simp; exact .nil
        | cons a r ih =>
          intro n
          cases n with
          | zero => simp; exact .nil
          | succ n => rw [List.take_succ_cons, List.take_succ_cons]; exact .cons a (ih n)
      have := go hTT (i + 1)
      rw [ex, List.take_succ_cons] at this; exact this
    have hsub : ∀ l ∈ x0 :: xr.take i, l ∈ ts := fun l hl => by
      rw [ex]
      rcases List.mem_cons.mp hl with z | z
      · rw [z]; exact .head _
      · exact .tail _ (List.mem_of_mem_take z)
    have hxl : xr.length ≤ 6 := by rw [ex] at le; simp at le; omega
    refine useSpec (common_spec w (kHas k₈ H₇) hD₈ hTt ((hD₆.keeps hup).keeps (kAll k₈)) (by rw [List.length_take]; omega) (fun l hl => by have := O.len l (hsub l hl); omega) (fun l hl => O.sig l (hsub l hl))) rfl (by decide) (by decide) ?_
    rintro v s₉ k₉ ⟨n, mm, t, hc1, hc2, rfl⟩
    refine ⟨⟨i, ti, _, t, rfl, rfl, ?_⟩, kTrans k₈ k₉⟩
    have := LCP.esc (fun l hl => O.sig l (hsub l hl)) hc1 hc2
    rw [ex, List.map_cons, List.take_succ_cons, ← List.map_take, ← List.map_cons]
    exact this
  · rintro D₈ s₈ ys vs' k₈ fD₈ hD₈ hlen hP hF
    have hTy : Txts ys.toList rows := by
      refine txts_comp (n := ts.length) (by omega) hlen hP hF ?_
      rintro j v y ⟨hjn, ti, rfl⟩ ⟨i, ti', p, t, e1, rfl, hp⟩
      have hij : i = j := by
        have := (Value.int.inj e1).1; omega
      subst hij
      have hjl : i < rows.length := by omega
      · have hr := hC i rows[i] (List.getElem?_eq_getElem hjl)
        have hne : (ts.map (esc k)).take (i + 1) ≠ [] := fun z => by
          have := congrArg List.length z
          rw [List.length_take, List.length_map, List.length_nil] at this; omega
        obtain ⟨w0, wr, ew⟩ := List.exists_cons_of_ne_nil hne
        rw [ew] at hp hr
        have := hr.uniq hp
        exact ⟨p, t, by rw [List.getElem?_eq_getElem hjl, this], rfl⟩
    have k68 := kTrans kk k₈
    have hasc : ∀ l ∈ rows, Asc l := fun l hl => by
      obtain ⟨j, hj⟩ := List.getElem?_of_mem hl
      have hr := hC j l hj
      obtain ⟨x0, xr, ex⟩ := List.exists_cons_of_ne_nil (l := ts) (fun z => by rw [z] at lo; simp at lo)
      have hpre := hr.pre (esc k x0) (by rw [ex]; simp)
      exact fun c hc => esc_asc (O.sig x0 (by rw [ex]; exact .head _)) c (hpre.subset hc)
    have hD₈' : s₈.heap.IsList D₈ ys.toList.toArray := hD₈
    refine opNeL (isListK k68 hlH) hTH hD₈' hTy hasc hasc (by decide) (wpAny_truthy_bool ?_)
    rw [if_neg (by simp)]
    exact wpAny_execs_nil (h s₈ (x.keeps k68) (F.keeps k68) (G.step (.of k68) rfl))
end Mine
end

section
open PySem PySem.W PyProof.Rows
set_option maxRecDepth 100000
set_option linter.unusedVariables false
namespace Mine
theorem RegC.iter {w : World} {b s : Shared} {L I : Addr} {m cm : Str → Option Value} {cs : List (Str × Addr)} (R : RegC w b L m cs cm s) (fI : b.heap.get? I = none) (hI : I ∉ L :: cs.map (·.2)) {h' : Heap} {tk : Nat} (k : ∀ b o, b ≠ I → s.heap.get? b = some o → h'.get? b = some o) : RegC w b L m cs cm { s with heap := h', toks := tk } := by
  have nI : ∀ c, c ∈ L :: cs.map (·.2) → c ≠ I := fun c hc z => hI (z ▸ hc)
  refine ⟨⟨?_, R.ns.at' fun o q => k L o (nI L (.head _)) q, fun a o ha q => k a o (fun z => by rw [z, fI] at q; cases q) (R.reg.keep a o ha q), R.reg.inX, R.reg.hb, R.reg.free⟩,
    fun n c hc => let ⟨o, ho, hd⟩ := R.cell n c hc; ⟨o, k c o (nI c (.tail _ (List.mem_map_of_mem (f := (·.2)) (mem_of_lookup hc)))) ho, hd⟩, R.apart, R.notL⟩
  obtain ⟨h, t, e⟩ := R.reg.same
  exact ⟨h', tk, by rw [e]⟩
theorem begs_two {ts : List (List Nat)} (h : Two ts) : 2 ≤ (dd (begs ts)).length := by
  obtain ⟨l, hl, h2⟩ := h
  have hb : ∀ n, 1 ≤ n → n ≤ 2 → l.take n ∈ dd (begs ts) := fun n h1 h3 => by
    rw [mem_dd, mem_begs]
    exact ⟨fun z => by have := congrArg List.length z; rw [List.length_take, List.length_nil] at this; omega, l, hl, List.take_prefix _ _⟩
  have := len_le_sub (l := [l.take 1, l.take 2]) (m := dd (begs ts)) (by
    simp only [List.nodup_cons, List.mem_singleton, List.not_mem_nil, not_false_eq_true, List.nodup_nil, and_true]
    intro z
    have := congrArg List.length z
    rw [List.length_take, List.length_take] at this; omega) (fun x hx => by
    simp only [List.mem_cons, List.not_mem_nil, or_false] at hx
    rcases hx with rfl | rfl
    · exact hb 1 (by decide) (by decide)
    · exact hb 2 (by decide) (by decide))
  simpa using this
theorem begs_len {ls : List (List Nat)} {n m : Nat} (h : ∀ l ∈ ls, l.length ≤ n) (hm : ls.length ≤ m) : (begs ls).length ≤ m * n := by
  have : (begs ls).length ≤ ls.length * n := by
    clear hm
    unfold begs
    induction ls with
    | nil => simp
    | cons a r ih =>
      rw [List.flatMap_cons, List.length_append, begs1_len, List.length_cons]
      have h1 := h a (.head _)
      have h2 := ih fun l hl => h l (.tail _ hl)
      rw [Nat.succ_mul]; omega
  exact Nat.le_trans this (Nat.mul_le_mul_right _ hm)
/-- the test of the signs -/
def tst (hd l : List Nat) : Bool := decide (l.take hd.length = hd) && decide (hd.length < l.length)
def tstV (hd : List Nat) : Value → Bool
  | .str y _ => tst hd y.cps.toList
  | _ => false
def chs (ts : List (List Nat)) (hd : List Nat) : List Nat := (ts.filter (tst hd)).map fun l => l.getD hd.length 0
theorem chs_nexts (k : Nat) (ts : List (List Nat)) (hd : List Nat) : (chs ts hd).map (sp (tabOf k)) = nexts k ts hd := by
  unfold chs nexts
  rw [List.map_map]; rfl
theorem filter_tst : ∀ {vs : List Value} {ls : List (List Nat)} {hd : List Nat}, Txts vs ls → Txts (vs.filter (tstV hd)) (ls.filter (tst hd))
  | _, _, _, .nil => .nil
  | _, _, hd, .cons (l₂ := ls) ⟨t, e⟩ r => by
    subst e
    rename_i l vs
    have ih := filter_tst (hd := hd) r
    have he : tstV hd (.str (S l) t) = tst hd l := by unfold tstV; simp
    cases hp : tst hd l with
    | true => rw [List.filter_cons_of_pos (by rw [he]; exact hp), List.filter_cons_of_pos (by exact hp)]; exact .cons ⟨t, rfl⟩ ih
    | false => rw [List.filter_cons_of_neg (by rw [he, hp]; decide), List.filter_cons_of_neg (by rw [hp]; decide)]; exact ih
theorem tst_at {hd l : List Nat} (h : tst hd l = true) : ∃ c, l[hd.length]? = some c ∧ c ∈ l ∧ l.getD hd.length 0 = c := by
  unfold tst at h
  simp only [Bool.and_eq_true, decide_eq_true_eq] at h
  have := h.2
  exact ⟨l[hd.length], List.getElem?_eq_getElem this, List.getElem_mem this, by rw [List.getD_eq_getElem?_getD, List.getElem?_eq_getElem this]; rfl⟩
def F7 (hd : List Nat) (v y : Value) : Prop := ∃ l t c u, v = .str (S l) t ∧ l[hd.length]? = some c ∧ y = .str (S [c]) u
theorem pair_chs {hd : List Nat} : ∀ {vs ys : List Value} {ls : List (List Nat)}, Txts vs ls → Paired (F7 hd) vs ys → Txts ys ((ls.map fun l => l.getD hd.length 0).map fun c => [c])
  | _, _, _, .nil, h2 => by cases h2; exact .nil
  | _, _, _, .cons ⟨t, e⟩ r, h2 => by
    cases h2 with
    | cons h' t' =>
      obtain ⟨l, t1, c, u, e1, e2, e3⟩ := h'
      rw [e] at e1
      have e4 : l.getD hd.length 0 = c := by rw [List.getD_eq_getElem?_getD, e2]; rfl
      have := S_inj.mp (Value.str.inj e1).1
      subst this
      refine .cons ⟨u, ?_⟩ (pair_chs r t')
      rw [e3, ← e4]
/-- the sum over the heads -/
def upTo (k : Nat) (ts heads : List (List Nat)) (i : Nat) : Nat := ((heads.take i).map fun hd => (dd (begs (nexts k ts hd))).length).sum
theorem upTo_succ {k : Nat} {ts heads : List (List Nat)} {i : Nat} {hd : List Nat} (h : heads[i]? = some hd) : upTo k ts heads (i + 1) = upTo k ts heads i + (dd (begs (nexts k ts hd))).length := by
  unfold upTo
  rw [List.take_add_one, h]; simp
end Mine
end

section
open PySem PySem.W PyProof.Rows
set_option maxRecDepth 100000
set_option linter.unusedVariables false
namespace Mine
theorem gl_beginnings (w : World) : gl w "_law_beginnings" = some (.ref 120) := gl_begin w
theorem txts_one {us : List Value} {ks : List (List Nat)} {t : Tok} (h : Txts us ks) : Txts (us ++ [.str (S []) t]) (ks ++ [[]]) := txts_app1 h
def JLaw (w : World) (b : Shared) (L : Addr) (m cm : Str → Option Value) (k : Nat) (ts heads : List (List Nat)) (D I : Addr) (i : Nat) (s' : Shared) : Prop :=
  ∃ m' cm', RegC w b L m' (lawC L) cm' s' ∧ m' "written" = m "written" ∧ cm' "which" = cm "which" ∧ cm' "texts" = cm "texts" ∧ cm' "spelled" = cm "spelled" ∧ cm' "told" = cm "told" ∧
    (∃ t, m' "count" = some (.int ((upTo k ts heads i : Nat) : Int) t)) ∧ s'.heap.IsListIter I D i ∧ I ∉ L :: (lawC L).map (·.2) ∧ b.heap.get? I = none
set_option maxHeartbeats 2000000 in
/-- count = 0, and the loop -/
theorem stage7 (w : World) {s₀ s : Shared} {L : Addr} {env : Env} {m cm : Str → Option Value} {k : Nat} {ts told : List (List Nat)} {T : Array Value} {Q : Flow → Shared → Prop} (e : EnvIs env L lawN (lawC L)) (x : LW w s₀ L (lawC L) m cm T s) (O : TsOk ts) (F : LFact w k ts L (lawC L) m cm s) (G : ToldIs w k ts told L (lawC L) cm s)
    (h : ∀ s' m' cm' n t, LW w s₀ L (lawC L) m' cm' T s' → LFact w k ts L (lawC L) m' cm' s' → ToldIs w k ts told L (lawC L) cm' s' → m' "count" = some (.int ((n : Nat) : Int) t) → n = (dd (begs (ts.map (esc k)))).length → wpAny (model pr w) (Aw 302 3003) (execs ((lawBody w).drop 10) env) Q (fun _ _ => False) s') :
    wpAny (model pr w) (Aw 302 3003) (execs ((lawBody w).drop 8) env) Q (fun _ _ => False) s := by
  have lo := O.lo
  have le := O.le
  refine wpAny_execs_cons ?_
  refine wpAny_Assign_Name (cInt fun s₁ t₁ k₁ => lwL (x.keeps k₁) e (by kernel_rfl) fun s₂ x₂ st₂ => ?_)
  have stA : Stp L (lawC L) s s₂ := (Stp.of k₁).trans st₂
  have F₂ := F.step (m' := fun y => if y = Str.ofString "count" then some (Value.int 0 t₁) else m y) stA (if_neg (by decide)) rfl rfl rfl
  have G₂ := G.step (cm' := cm) stA rfl
  have mc : (fun y => if y = Str.ofString "count" then some (Value.int 0 t₁) else m y) "count" = some (.int 0 t₁) := if_pos rfl
  generalize (fun y => if y = Str.ofString "count" then some (Value.int 0 t₁) else m y) = m₂ at x₂ F₂ mc
  clear F G stA st₂
  obtain ⟨dT, us, hT, oT, hlT, hTT⟩ := F₂.texts
  have hul := txts_len hTT
  have cT := x₂.cell "texts" (L + 1) rfl
  rw [hT] at cT
  refine wpAny_execs_cons ?_
  refine forN rfl ?_
  have hbl : (begs ts).length ≤ 1000 := by have := begs_len (n := 22) (m := 6) O.len le; omega
  refine wpAny_BinOp ?_
  refine callB1 x₂.has e (by kernel_rfl) (gl_sorted w) (bl_sorted w) ?_
  refine callF1 x₂.has e (by kernel_rfl) (gl_beginnings w) (fnBegin w) (nmC e (by kernel_rfl) rfl cT ⟨x₂.has, useSpec (begin_spec w x₂.has hlT hTT hbl) rfl (by decide) (by decide) ?_⟩)
  rintro v s₃ k₃ ⟨DS, rfl, fDS, hS⟩
  refine sortedSet rfl hS (begs_two O.two) O.few fun D₄ us₄ ks s₄ dr₄ fD₄ hD₄ hT₄ hp₄ => ?_
  have x₄ := (x₂.keeps k₃).drew dr₄
  refine list1' (cStr fun s₅ t₅ k₅ D₆ s₆ k₆ fD₆ hD₆ => ?_)
  have hks : ks.length < 64 := by rw [hp₄.length_eq]; exact O.few
  have hul₄ := txts_len hT₄
  refine opAddL (isListK (kTrans k₅ k₆) hD₄) hD₆ (by simp; omega) fun D₇ s₇ k₇ fD₇ hD₇ => ?_
  have k47 := kTrans (kTrans k₅ k₆) k₇
  have xB := x₄.keeps k47
  have stB : Stp L (lawC L) s₂ s₇ := ((Stp.of k₃).trans (.drew dr₄)).trans (.of k47)
  have FB := F₂.step (m' := m₂) (cm' := cm) stB rfl rfl rfl rfl
  have GB := G₂.step (cm' := cm) stB rfl
  have hHs : Txts (us₄ ++ [Value.str (Str.ofString "") t₅]) (ks ++ [[]]) := txts_one hT₄
  clear F₂ G₂ x₂ x₄ stB cT hD₄ hD₆
  generalize hhe : ks ++ [[]] = heads at hHs
  generalize hve : us₄ ++ [Value.str (Str.ofString "") t₅] = vs at hD₇ hHs
  have hvl := txts_len hHs
  have oD₇ : Out L (lawC L) D₇ := xB.outL hD₇
  obtain ⟨dT', us', hT', oT', hlT', hTT'⟩ := FB.texts
  rw [hT] at hT'; cases hT'
  have hul' := txts_len hTT'
  have hhl : ∀ hd ∈ heads, hd.length ≤ 22 := fun hd hh => by
    rw [← hhe] at hh
    rcases List.mem_append.mp hh with z | z
    · have := (mem_dd _ _).mp (hp₄.mem_iff.mp z)
      obtain ⟨_, l, hl, hp⟩ := (mem_begs _ _).mp this
      exact Nat.le_trans hp.length_le (O.len l hl)
    · rw [List.mem_singleton.mp z]; simp
  refine ⟨D₇, vs, fun I i s' => JLaw w s₇ L m₂ cm k ts heads D₇ I i s', rfl, hD₇, ?_, ?_, ?_, ?_⟩
  · rintro I i s' ⟨m', cm', R, _, _, _, _, _, _, it, _, _⟩
    exact ⟨it, hD₇.at fun o q => R.reg.keep _ _ oD₇.no q⟩
  · intro I s₈ k₈ fI it
    exact ⟨m₂, cm, (xB.rc).keeps k₈, rfl, rfl, rfl, rfl, rfl, ⟨t₁, mc⟩, it, (xB.out fI).no, fI⟩
  · rintro I i v s' h' tk haI hvi ⟨m', cm', R, w1, w2, w3, w4, w5, ⟨tc, w6⟩, it, nI, fI⟩ it' hk'
    obtain ⟨hd, th, hhi, rfl⟩ := txts_at hHs hvi
    have hdl := hhl hd (List.mem_of_getElem? hhi)
    have nIL : I ≠ L := fun z => nI (z ▸ .head _)
    have R1 := R.iter (tk := tk) fI nI hk'
    refine stC R1 e (by kernel_rfl) rfl fun s₉ R₉ up₉ => ?_
    have it₉ : s₉.heap.IsListIter I D₇ (i + 1) := let ⟨o, q, r⟩ := it'; ⟨o, up₉ I o (fun z => nI (by rw [z]; simp)) q, r⟩
    have c1 : (fun y => if y = Str.ofString "head" then some (Value.str (S hd) th) else cm' y) "which" = cm "which" := (if_neg (by decide)).trans w2
    have c2 : (fun y => if y = Str.ofString "head" then some (Value.str (S hd) th) else cm' y) "texts" = cm "texts" := (if_neg (by decide)).trans w3
    have c3 : (fun y => if y = Str.ofString "head" then some (Value.str (S hd) th) else cm' y) "spelled" = cm "spelled" := (if_neg (by decide)).trans w4
    have c4 : (fun y => if y = Str.ofString "head" then some (Value.str (S hd) th) else cm' y) "told" = cm "told" := (if_neg (by decide)).trans w5
    have c5 : (fun y => if y = Str.ofString "head" then some (Value.str (S hd) th) else cm' y) "head" = some (.str (S hd) th) := if_pos rfl
    generalize (fun y => if y = Str.ofString "head" then some (Value.str (S hd) th) else cm' y) = cmh at R₉ c1 c2 c3 c4 c5
    have x₉ := xB.reg R₉
    have st₉ : Stp L (lawC L) s₇ s₉ := R₉.stp
    have hlT₉ : s₉.heap.IsList dT us'.toArray := isListS st₉ oT' hlT'
    have cTx := R₉.cell "texts" (L + 1) rfl
    rw [c2, hT] at cTx
    have cHd := R₉.cell "head" (L + 1 + 1 + 1 + 1) rfl
    rw [c5] at cHd
    refine wpAny_execs_cons ?_
    refine compA (tstV hd) (F7 hd) us'.toArray.size (fun i v => us'.toArray[i]? = some v) e R₉ (by kernel_rfl) (by kernel_rfl) (by kernel_rfl) (by unfold closureFor cellOf; simp only [e.cells]; rfl) (by kernel_rfl) rfl (by kernel_rfl) (by kernel_rfl) (by simp; omega) ?_
    refine nmC e (by kernel_rfl) rfl cTx ⟨srcList rfl hlT₉, R₉, ?_, ?_, ?_⟩
    · rintro j v cenv C m₃ s₁₀ hP ⟨e', hns, hm, hup, htk⟩
      obtain ⟨l, t, hli, rfl⟩ := txts_at hTT' (by simpa using hP)
      have hll := O.len l (List.mem_of_getElem? hli)
      have H₁₀ : Has w s₁₀.heap := x₉.has.keeps hup
      have cH := cHd.keeps hup
      have hpv : tstV hd (.str (S l) t) = tst hd l := by unfold tstV; simp
      rw [hpv]
      refine tests1 (isTrue_and (wpAny_isTrue_Compare1 (sliceTo (nmL hns e' (by kernel_rfl) hm (callB1 H₁₀ e' (by kernel_rfl) (gl_len w) (bl_len w) (nmC e' (by kernel_rfl) (by kernel_rfl) cH (opLen (by omega) fun s₁₁ t₁₁ k₁₁ => ?_)))))))
      refine ⟨l, t, hd.length, t₁₁, rfl, rfl, by omega, fun s₁₂ t₁₂ k₁₂ => nmC e' (by kernel_rfl) (by kernel_rfl) (cH.keeps (kAll (kTrans k₁₁ k₁₂))) (opEqS (wpAny_truthy_bool ?_))⟩
      have kk := kTrans k₁₁ k₁₂
      by_cases q : l.take hd.length = hd
      · rw [if_pos (by simpa using q)]
        refine isTrue_and (wpAny_isTrue_Compare1 (callB1 (kHas kk H₁₀) e' (by kernel_rfl) (gl_len w) (bl_len w) (nmL (hns.keeps (kAll kk)) e' (by kernel_rfl) hm (opLen (by omega) fun s₁₃ t₁₃ k₁₃ => ?_))))
        have kk' := kTrans kk k₁₃
        refine callB1 (kHas kk' H₁₀) e' (by kernel_rfl) (gl_len w) (bl_len w) (nmC e' (by kernel_rfl) (by kernel_rfl) (cH.keeps (kAll kk')) (opLen (by omega) fun s₁₄ t₁₄ k₁₄ => ?_))
        refine PyProof.Rows.gt_int (wpAny_truthy_bool ?_)
        by_cases q2 : hd.length < l.length
        · rw [if_pos (by simp; omega)]
          exact isTrue_and_nil ⟨by unfold tst; simp [q, q2], kTrans kk' k₁₄⟩
        · rw [if_neg (by simp; omega)]
          exact ⟨by unfold tst; simp [q2], kTrans kk' k₁₄⟩
      · rw [if_neg (by simpa using q)]
        exact ⟨by unfold tst; simp [q], kk⟩
    · rintro j v cenv C m₃ s₁₀ hP hp ⟨e', hns, hm, hup, htk⟩
      obtain ⟨l, t, hli, rfl⟩ := txts_at hTT' (by simpa using hP)
      have hll := O.len l (List.mem_of_getElem? hli)
      have H₁₀ : Has w s₁₀.heap := x₉.has.keeps hup
      have cH := cHd.keeps hup
      have hpv : tst hd l = true := by have : tstV hd (.str (S l) t) = tst hd l := by unfold tstV; simp
                                       rw [← this]; exact hp
      obtain ⟨c, hc1, hc2, _⟩ := tst_at hpv
      refine Subscript_ (nmL hns e' (by kernel_rfl) hm (callB1 H₁₀ e' (by kernel_rfl) (gl_len w) (bl_len w) (nmC e' (by kernel_rfl) (by kernel_rfl) cH (opLen (by omega) fun s₁₁ t₁₁ k₁₁ => ?_))))
      refine opItem hc1 (by omega) fun s₁₂ t₁₂ k₁₂ => ⟨⟨l, t, c, t₁₂, rfl, hc1, rfl⟩, kTrans k₁₁ k₁₂⟩
    · rintro Dg s₁₀ ys vs' R₁₀ up₁₀ fDg hDg hlen hP hF
      have ev : vs' = us' := list_of_at (by simpa using hlen) fun j v q => by simpa using hP j v q
      subst ev
      have hTg : Txts ys.toList ((chs ts hd).map fun c => [c]) := pair_chs (filter_tst hTT') hF
      have x₁₀ := xB.reg R₁₀
      have oDg : Out L (lawC L) Dg := x₉.out fDg
      have hcl : (chs ts hd).length ≤ 6 := by unfold chs; rw [List.length_map]; exact Nat.le_trans (List.length_filter_le _ _) le
      have hcs : ∀ c ∈ chs ts hd, c ∈ signs := fun c hc => by
        unfold chs at hc
        obtain ⟨l, hl, rfl⟩ := List.mem_map.mp hc
        obtain ⟨h1, h2⟩ := List.mem_filter.mp hl
        obtain ⟨c, _, hc2, hc3⟩ := tst_at h2
        rw [hc3]; exact O.sig l h1 c hc2
      have it₁₀ : s₁₀.heap.IsListIter I D₇ (i + 1) := let ⟨o, q, r⟩ := it₉; ⟨o, up₁₀ I o nIL q, r⟩
      obtain ⟨dS, hS', oS, hD'⟩ := FB.spelled
      have cSx := R₁₀.cell "spelled" (L + 1 + 1 + 1) rfl
      rw [c3, hS'] at cSx
      have hDs : SpD w k s₁₀.heap dS := spdS R₁₀.stp oS hD'
      have mcount : (fun z => if z = Str.ofString "signs" then some (Value.ref Dg) else m' z) "count" = some (.int ((upTo k ts heads i : Nat) : Int) tc) := (if_neg (by decide)).trans w6
      have msigns : (fun z => if z = Str.ofString "signs" then some (Value.ref Dg) else m' z) "signs" = some (.ref Dg) := if_pos rfl
      have mwrit : (fun z => if z = Str.ofString "signs" then some (Value.ref Dg) else m' z) "written" = m₂ "written" := (if_neg (by decide)).trans w1
      generalize (fun z => if z = Str.ofString "signs" then some (Value.ref Dg) else m' z) = mg at R₁₀ x₁₀ mcount msigns mwrit
      refine wpAny_execs_cons ?_
      refine wpAny_AugAssign_Name (ldL x₁₀.ns e (by kernel_rfl) mcount ?_)
      refine callB1 x₁₀.has e (by kernel_rfl) (gl_len w) (bl_len w) ?_
      refine callF1 x₁₀.has e (by kernel_rfl) (gl_beginnings w) (fnBegin w) ?_
      refine spellCompL (k := k) (a := dS) (c := L + 1 + 1 + 1) (chs ts hd) e (by unfold closureFor cellOf; simp only [e.cells]; rfl) rfl rfl (by kernel_rfl) rfl (by omega) hcs ?_
      refine nmL x₁₀.ns e (by kernel_rfl) msigns ⟨Dg, ys.toList, rfl, hDg, hTg, cSx, hDs, fun D₁₁ s₁₁ zs k₁₁ fD₁₁ hD₁₁ hT₁₁ => ?_⟩
      rw [chs_nexts] at hT₁₁
      have hnl : (begs (nexts k ts hd)).length ≤ 1000 := by
        have := begs_len (ls := nexts k ts hd) (n := 6) (m := 6) (fun l hl => by
          rw [← chs_nexts] at hl
          obtain ⟨c, _, rfl⟩ := List.mem_map.mp hl
          exact sp_len6 k c) (by rw [← chs_nexts, List.length_map]; exact hcl)
        omega
      have H₁₁ := kHas k₁₁ x₁₀.has
      refine ⟨H₁₁, useSpec (begin_spec w H₁₁ hD₁₁ hT₁₁ hnl) rfl (by decide) (by decide) ?_⟩
      rintro v s₁₂ k₁₂ ⟨DS₂, rfl, fDS₂, hS₂⟩
      have hdl : (dd (begs (nexts k ts hd))).length ≤ 1000 := Nat.le_trans (len_le_sub (dd_nodup _) fun x hx => (mem_dd _ _).mp hx) hnl
      refine opLenSet hS₂ (by omega) fun s₁₃ t₁₃ k₁₃ => opIAdd fun s₁₄ t₁₄ k₁₄ => ?_
      have kk := kTrans (kTrans (kTrans k₁₁ k₁₂) k₁₃) k₁₄
      refine stLC' (R₁₀.keeps kk) e (by kernel_rfl) fun s₁₅ R₁₅ up₁₅ => ?_
      refine wpAny_execs_nil ⟨rfl, _, cmh, R₁₅, (if_neg (by decide)).trans mwrit, c1, c2, c3, c4, ⟨t₁₄, ?_⟩, ?_, nI, fI⟩
      · rw [upTo_succ hhi]
        rw [if_pos rfl]
        push_cast; rfl
      · obtain ⟨o, q, r⟩ := it₁₀
        exact ⟨o, up₁₅ I o nIL (kGet kk q), r⟩
  · rintro I s' h' tk ⟨m', cm', R, w1, w2, w3, w4, w5, ⟨tc, w6⟩, it, nI, fI⟩ hk'
    have R1 := R.iter (tk := tk) fI nI hk'
    have x₁ := xB.reg R1
    refine h _ m' cm' _ tc x₁ (FB.step R1.stp w1 w2 w3 w4) (GB.step R1.stp w5) w6 ?_
    have hn : heads.Nodup := by
      rw [← hhe, List.nodup_append]
      refine ⟨hp₄.nodup_iff.mpr (dd_nodup _), by simp, fun a ha b hb z => ?_⟩
      rw [List.mem_singleton.mp hb] at z
      have := (mem_dd _ _).mp (hp₄.mem_iff.mp ha)
      exact ((mem_begs _ _).mp this).1 z
    have hh : ∀ hd, hd ∈ heads ↔ hd = [] ∨ hd ∈ begs ts := fun hd => by
      rw [← hhe, List.mem_append, hp₄.mem_iff, mem_dd, List.mem_singleton]
      exact Or.comm
    have := begs_esc k ts heads O.sig hn hh
    unfold upTo
    rw [hvl, List.take_length]
    exact this.symm
end Mine
end

section
open PySem PySem.W PyProof.Rows
set_option maxRecDepth 100000
set_option linter.unusedVariables false
namespace Mine
noncomputable def incsI (told : List (List Nat)) : List Int := (incs [] told).map Int.ofNat
theorem incs_len : ∀ (L : List (List Nat)) (p : List Nat), (incs p L).length = L.length
  | [], _ => rfl
  | o :: r, p => by show (incs o r).length + 1 = _; rw [incs_len r o]; rfl
theorem incs_at : ∀ (L : List (List Nat)) (p : List Nat) (i : Nat) (x one : List Nat), (p :: L)[i]? = some x → L[i]? = some one → (incs p L)[i]? = some (one.length - (lcp x one).length)
  | [], _, i, _, _, _, h => by simp at h
  | o :: r, p, 0, x, one, h1, h2 => by
    have e1 : p = x := by simpa using h1
    have e2 : o = one := by simpa using h2
    subst e1 e2
    show ((o.length - (lcp p o).length) :: incs o r)[0]? = _
    rfl
  | o :: r, p, i + 1, x, one, h1, h2 => by
    show ((o.length - (lcp p o).length) :: incs o r)[i + 1]? = _
    rw [List.getElem?_cons_succ]
    exact incs_at r o i x one (by simpa using h1) (by simpa using h2)
theorem incsI_sum (told : List (List Nat)) : (incsI told).sum = (((incs [] told).sum : Nat) : Int) := by
  unfold incsI
  induction incs [] told with
  | nil => rfl
  | cons a r ih => rw [List.map_cons, List.sum_cons, List.sum_cons, ih]; push_cast; rfl
section
variable {w : World} {A : Around} {E : Value → Shared → Prop} {s : Shared} {L : Addr} {env : Env} {names : List (Str × NameKind)} {cs : List (Str × Addr)}
theorem callF3 {f : Str} {a : Addr} {p pos : Pos} {e1 e2 e3 : Expr} {Q : Value → Shared → Prop} (H : Has w s.heap) (e : EnvIs env L names cs) (hn : names.lookup f = some .globalImplicit) (hv : gl w f = some (.ref a)) (hf : FnK w a)
    (h : wpAny (model pr w) A (eval e1 env) (fun v s₁ => wpAny (model pr w) A (eval e2 env) (fun v2 s₂ => wpAny (model pr w) A (eval e3 env) (fun v3 s₃ => Has w s₃.heap ∧ wpAny (model pr w) A (call (.ref a) [v, v2, v3]) Q E s₃) E s₂) E s₁) E s)
    (hs : backTo pos (starEach [e1, e2, e3] env) = [(false, eval e1 env), (false, eval e2 env), (false, eval e3 env)] := by rfl) (hd : (f == ("__debug__" : Str)) = false := by decide) :
    wpAny (model pr w) A (eval (.Call (.Name f p) [e1, e2, e3] [] pos) env) Q E s := by
  obtain ⟨⟨o, fd, ho, hfd⟩, h58, h122⟩ := hf
  show wpAny _ A (do callWith pos (← eval (.Name f p) env) [] (backTo pos (starEach [e1, e2, e3] env)) (backToKw pos (keywordEach [] env))) Q E s
  refine wpAny_bind (nmG H e hn hv ?_ hd)
  rw [hs]
  exact Calls.callWith_function (o := o) (fd := fd) (Calls.evalArgs_plain (Calls.spliced_cons (wpAny_mono h (fun v s₁ h₁ => Calls.spliced_cons (wpAny_mono h₁ (fun v2 s₂ h₂ => Calls.spliced_cons (wpAny_mono h₂ (fun v3 s₃ h₃ => Calls.spliced_nil ⟨⟨h₃.1.get ho h58 h122, hfd⟩, h₃.2⟩) fun _ _ e => e)) fun _ _ e => e)) fun _ _ e => e)))
end
structure FoundIs (w : World) (told : List (List Nat)) (L : Addr) (cs : List (Str × Addr)) (m : Str → Option Value) (s : Shared) : Prop where
  at' : ∃ d us, m "found" = some (.ref d) ∧ Out L cs d ∧ s.heap.IsList d us.toArray ∧ IntsAre us (incsI told)
set_option maxHeartbeats 1000000 in
/-- found = reduce(...) -/
theorem stage8 (w : World) {s₀ s : Shared} {L : Addr} {env : Env} {m cm : Str → Option Value} {k : Nat} {ts told : List (List Nat)} {c₁ : Addr} {vc : Value} {Q : Flow → Shared → Prop} (e : EnvIs env L lawN (lawC L)) (hcode : env.code = .ref 124) (x : LW w s₀ L (lawC L) m cm (tab1 c₁) s) (O : TsOk ts) (F : LFact w k ts L (lawC L) m cm s) (G : ToldIs w k ts told L (lawC L) cm s)
    (mc : m "count" = some vc)
    (h : ∀ s' m' T, LW w s₀ L (lawC L) m' cm T s' → LFact w k ts L (lawC L) m' cm s' → ToldIs w k ts told L (lawC L) cm s' → m' "count" = some vc → FoundIs w told L (lawC L) m' s' → wpAny (model pr w) (Aw 302 3003) (execs ((lawBody w).drop 11) env) Q (fun _ _ => False) s') :
    wpAny (model pr w) (Aw 302 3003) (execs ((lawBody w).drop 10) env) Q (fun _ _ => False) s := by
  have lo := O.lo
  have le := O.le
  refine wpAny_execs_cons ?_
  refine wpAny_Assign_Name ?_
  refine callF3 x.has e (by kernel_rfl) (gl_reduce w) (fnReduce w) ?_
  refine evalLam x e hcode rfl (by unfold closureFor cellOf; simp only [e.cells]; rfl) (by trivial) (by rfl) (fun c q t z => by simp [tab1, rawInt] at z) ?_
  intro f c ctv s₁ x₁ st₁ ff hf hcr sm₁
  have F₁ := F.step st₁ rfl rfl rfl rfl
  have G₁ := G.step st₁ rfl
  obtain ⟨dL, us, hL, oL, hlL, hTL⟩ := G₁.at'
  have hul := txts_len hTL
  have htl : told.length = ts.length := by rw [G.perm.length_eq, List.length_map]
  have cL := x₁.cell "told" (L + 1 + 1 + 1 + 1 + 1) rfl
  rw [hL] at cL
  refine nmC e (by kernel_rfl) rfl cL (listNil fun D₂ s₂ k₂ fD₂ hD₂ => ?_)
  have x₂ := x₁.keeps k₂
  have hlen : ∀ l ∈ told, l.length ≤ 2 ^ 20 := fun l hl => by
    obtain ⟨t, h1, rfl⟩ := G.mem hl
    have := esc_len k t
    have := O.len t h1
    omega
  have hD64 : (Value.ref D₂) ≠ .ref 64 := fun z => by
    have : D₂ = 64 := by injection z
    rw [this] at fD₂
    rw [x₁.has.get (a := 64) rfl (by decide) (by decide)] at fD₂; cases fD₂
  refine ⟨x₂.has, useSpec (reduce_spec w x₂.has (fun i us' => IntsAre us' ((incsI told).take i)) (kGet k₂ hf) rfl (isListK k₂ hlL) (.inr ⟨rfl, rfl, ⟨D₂, [], rfl, PlainList.is hD₂, ?_⟩, hD64⟩) (by simp) ?_) rfl (by decide) (by decide) ?_⟩
  · exact .nil
  · intro i v us' D s' hup hlD hvi hI
    obtain ⟨one, t, ho, rfl⟩ := txts_at hTL hvi
    have hil : i < told.length := (List.getElem?_eq_some_iff.mp ho).1
    have hI1 : (incsI told).length = told.length := by unfold incsI; rw [List.length_map, incs_len]
    have hIl : ((incsI told).take i).length = i := by rw [List.length_take]; omega
    have hone := hlen one (List.mem_of_getElem? ho)
    have hxi : (([] : List Nat) :: told)[i]? = some ((([] : List Nat) :: told)[i]'(by simp; omega)) := List.getElem?_eq_getElem (by simp; omega)
    generalize (([] : List Nat) :: told)[i]'(by simp; omega) = xi at hxi
    have hxl : xi.length ≤ 2 ^ 20 := by
      rcases List.mem_cons.mp (List.mem_of_getElem? hxi) with z | z
      · rw [z]; simp
      · exact hlen xi z
    have H' : Has w s'.heap := x₂.has.keeps hup
    refine codeAny_mono (lam2_spec (told := told) (vs := us) (T := dL) w H' (hup _ _ (kGet k₂ hf)) (Heap.CodeRec.keeps (hcr.keeps (kAll k₂)) hup) ((cL.keeps (kAll k₂)).keeps hup) ((isListK k₂ hlL).at fun o q => hup _ _ q) hTL hlD hI (by rw [hIl]; exact hxi) (by omega) hxl hone) fun r s'' hr => ?_
    obtain ⟨v', rfl, kk, D', us'', rfl, hl'', hI''⟩ := hr
    refine ⟨_, rfl, kk, D', us'', rfl, hl'', ?_⟩
    have := incs_at told [] i xi one hxi ho
    have e1 : (incsI told)[i]? = some ((one.length : Int) - (lcp xi one).length) := by
      unfold incsI
      rw [List.getElem?_map, this]
      have hle := (lcp_pre xi one).2.length_le
      show some (((one.length - (lcp xi one).length : Nat) : Int)) = _
      congr 1; omega
    show IntsAre us'' ((incsI told).take (i + 1))
    rw [List.take_add_one, e1]
    exact hI''
  · rintro v s₃ k₃ ⟨D, us₃, rfl, hlD, hI⟩
    have x₃ := x₂.keeps k₃
    have oD := x₃.outL hlD
    refine lwL x₃ e (by kernel_rfl) fun s₄ x₄ st₄ => ?_
    have st : Stp L (lawC L) s₁ s₄ := ((Stp.of k₂).trans (.of k₃)).trans st₄
    refine h s₄ _ _ x₄ (F₁.step st (if_neg (by decide)) rfl rfl rfl) (G₁.step st rfl) ((if_neg (by decide)).trans mc) ⟨D, us₃, if_pos rfl, oD, isListS st₄ oD hlD, ?_⟩
    have hI1 : (incsI told).length = us.length := by unfold incsI; rw [List.length_map, incs_len, hul]
    rw [← hI1, List.take_length] at hI
    exact hI
/-- the end: True -/
theorem stage9 (w : World) {s₀ s : Shared} {L : Addr} {env : Env} {m cm : Str → Option Value} {k n : Nat} {ts told : List (List Nat)} {T : Array Value} {tc : Tok} {Q : Flow → Shared → Prop} (e : EnvIs env L lawN (lawC L)) (x : LW w s₀ L (lawC L) m cm T s) (O : TsOk ts) (F : LFact w k ts L (lawC L) m cm s) (G : ToldIs w k ts told L (lawC L) cm s)
    (mc : m "count" = some (.int ((n : Nat) : Int) tc)) (hn : n = (dd (begs (ts.map (esc k)))).length) (U : FoundIs w told L (lawC L) m s) (h : ∀ s', Grow s₀ s' → Q (.ret (.bool true)) s') :
    wpAny (model pr w) (Aw 302 3003) (execs ((lawBody w).drop 11) env) Q (fun _ _ => False) s := by
  have lo := O.lo
  have le := O.le
  obtain ⟨dW, us, hW, oW, hlW, hTw⟩ := F.written
  have hul := txts_len hTw
  rw [List.length_map] at hul
  refine wpAny_execs_cons ?_
  refine wpAny_Return_some (BoolOp_and (wpAny_Compare1 ?_))
  refine callKey x.has e (by kernel_rfl) (gl_max w) (bl_max w) (by kernel_rfl) (by kernel_rfl) rfl (by decide) (by decide) ?_
  refine nmL x.ns e (by kernel_rfl) hW ⟨x.has, x.tabs, fun kk s₂ g up sm KT KC => ?_⟩
  have x₂ := x.cmpk g up KT
  have st₂ : Stp L (lawC L) s s₂ := fun b o hb q => up b o hb.n58 q
  obtain ⟨nn, md, L1, bT, kv, t', hs, t₁, hd, td, tK, I⟩ := KC
  have G₂ := G.step st₂ rfl
  have U₂ : FoundIs w told L (lawC L) m s₂ := let ⟨d, us, a, b, c, e⟩ := U.at'; ⟨d, us, a, b, isListS st₂ b c, e⟩
  refine maxKey I x₂.has (isListS st₂ oW hlW) hTw (by omega) (by omega) (fun l hl => ?_) rfl (by decide) (by decide) fun lb tb s₃ k₃ hlb hmax => ?_
  · obtain ⟨l₀, h₀, rfl⟩ := List.mem_map.mp hl
    have := esc_len k l₀
    have := O.len l₀ h₀
    omega
  have x₃ := x₂.keeps k₃
  obtain ⟨dL, usL, hL, oL, hlL, hTL⟩ := G₂.at'
  have hulL := txts_len hTL
  have htl : told.length = ts.length := by rw [G.perm.length_eq, List.length_map]
  have cL := x₃.cell "told" (L + 1 + 1 + 1 + 1 + 1) rfl
  rw [hL] at cL
  obtain ⟨usl, tl, eul, _⟩ := txts_last hTL (by omega)
  have hne : told ≠ [] := fun z => by rw [z] at htl; simp at htl; omega
  have hlast : told.getLast?.getD [] = lb := by
    rw [List.getLast?_eq_some_getLast hne]
    exact sorted_last G.sort (G.perm.mem_iff.mpr hlb) (fun y hy => hmax y (G.perm.mem_iff.mp hy)) hne
  rw [hlast] at eul
  subst eul
  simp at hulL
  refine Subscript_ (nmC e (by kernel_rfl) rfl cL (wpAny_UnaryOp (cInt fun s₄ t₄ k₄ => PyProof.Rows.neg_int ?_)))
  have k34 : Keeps s₃ { s₄ with toks := s₄.toks + 1 } := kTrans k₄ (kTok _)
  refine opLast (isListK (kTrans k₃ k34) hlL) (by omega) ?_
  refine opEqS (wpAny_truthy_bool ?_)
  rw [if_pos (by simp)]
  have x₅ := x₃.keeps k34
  obtain ⟨dF, usF, hF, oF, hlF, hIF⟩ := U₂.at'
  refine BoolOp_one (wpAny_Compare1 ?_)
  refine callB1 x₅.has e (by kernel_rfl) (gl_sum w) (bl_sum w) (nmL x₅.ns e (by kernel_rfl) hF (opSum rfl (isListK (kTrans k₃ k34) hlF) hIF fun s₆ t₆ k₆ => ?_))
  have x₆ := x₅.keeps k₆
  refine nmL x₆.ns e (by kernel_rfl) mc (opEqI ?_)
  have : ((incsI told).sum == ((n : Nat) : Int)) = true := by
    rw [incsI_sum, incs_sum G.sort, dd_perm G.perm, ← hn]; simp
  rw [this]
  exact h s₆ x₆.grow
end Mine
end

section
open PySem PySem.W PyProof.Rows
set_option maxRecDepth 100000
set_option linter.unusedVariables false
namespace Mine
theorem gl_texts' (w : World) : gl w "_law_texts" = some (.ref 79) := gl_texts w
set_option maxHeartbeats 1000000 in
theorem law_spec (w : World) {s : Shared} (H : Has w s.heap) (h58 : s.heap.get? 58 = some (tabObj #[])) (h122 : s.heap.get? 122 = some (tabObj #[])) {a : Addr} {vs : List Value} {ns : List Int} (hl : s.heap.IsList a vs.toArray) (hv : IntsAre vs ns) (hn : ns.length ≤ 63) :
    codeAny (model pr w) (Aw 301 3000) (.call (.ref 125) ⟨[.ref a], []⟩) (fun r s' => r = .ok (.ret (.bool true)) ∧ Grow s s') s := by
  refine enterD lawN [("script", .ref a)] lawC H (by decide) (by decide) rfl (by kernel_rfl) (by intro e; cases e) (by intro e; cases e) rfl rfl (by intro L; simp only [List.mem_singleton, forall_eq]; exact .inl (by kernel_rfl)) rfl rfl rfl rfl rfl (by decide) (by kernel_rfl) rfl (by intro L; rfl) ?_
  intro Q L env s₁ fin e hcode hqual R hL htk
  have kk : Keeps s s₁ := R.done hL
  have hm : (bindL (fun n => List.lookup n lawN) [(Str.ofString "script", Value.ref a)] fun _ => none) "script" = some (.ref a) := by kernel_rfl
  generalize (bindL (fun n => List.lookup n lawN) [(Str.ofString "script", Value.ref a)] fun _ => none) = m at R hm
  generalize (bindC (fun n => List.lookup n lawN) [(Str.ofString "script", Value.ref a)] fun _ => none) = cm at R
  have KT : KTabs w s.heap := ⟨#[], h58, by trivial, .inl rfl⟩
  have x : LW w s L (lawC L) m cm #[] s₁ := ⟨R.ns, R.cell, fun p hp => by
      simp only [List.mem_cons, List.not_mem_nil, or_false] at hp
      rcases hp with rfl | rfl | rfl | rfl | rfl <;> rfl, R.apart, R.notL, R.has, R.reg.free, hL, .of kk, KT.keeps (kAll kk), kGet kk h122, fun q t z => by simp at z⟩
  have ha : Out L (lawC L) a := by
    obtain ⟨o, ho, _, n, hd⟩ := id hl
    refine ⟨fun z => ?_, fun z => ?_, fun z => ?_⟩
    · rw [hL a z] at ho; cases ho
    · rw [z, h58] at ho; cases ho; cases hd
    · rw [z, h122] at ho; cases ho; cases hd
  have O := textsOf_ok (ns.take 10) (by rw [List.length_take]; omega)
  show wpAny _ _ (execs (lawBody w) env) _ _ _
  refine stage1 w e x hm ha (isListK kk hl) hv hn fun s₂ cm₂ x₂ t₂ c1 c2 => ?_
  have hk : (ns.sum % 5).toNat < 5 := by
    have := Int.emod_lt_of_pos ns.sum (show (0 : Int) < 5 by decide)
    have := Int.emod_nonneg ns.sum (show (5 : Int) ≠ 0 by decide)
    omega
  refine stage2 w e x₂ hk t₂ O c1 c2 fun s₃ m₃ cm₃ x₃ F₃ => ?_
  refine stage3 w e x₃ O F₃ fun s₄ cm₄ told x₄ F₄ G₄ => ?_
  refine stage4 w e x₄ O F₄ G₄ fun s₅ x₅ F₅ G₅ => ?_
  refine stage5 w e hcode x₅ O F₅ G₅ fun s₆ m₆ c x₆ F₆ G₆ U₆ => ?_
  refine stage6 w e x₆ O F₆ G₆ U₆ fun s₇ x₇ F₇ G₇ => ?_
  refine stage7 w e x₇ O F₇ G₇ fun s₈ m₈ cm₈ n t x₈ F₈ G₈ mc hn => ?_
  refine stage8 w e hcode x₈ O F₈ G₈ mc fun s₉ m₉ T x₉ F₉ G₉ mc₉ U₉ => ?_
  refine stage9 w e x₉ O F₉ G₉ mc₉ hn U₉ fun s' g => ?_
  exact fin _ _ ⟨rfl, g⟩
theorem oldK_grow {w : World} {s s' : Shared} (H : Has w s.heap) (h58 : s.heap.get? 58 = some (tabObj #[])) (h122 : s.heap.get? 122 = some (tabObj #[])) (g : Grow s s') : OldK s.heap s'.heap := by
  refine ⟨fun b o e => ?_, fun b o e => ?_⟩
  · by_cases h1 : b = 58
    · subst h1
      rw [h58] at e; cases e
      obtain ⟨more, z⟩ := g.t58 _ h58
      exact .inr (.inl ⟨((code62 w H).tab h58).isCodeTable, rfl, _, more, rfl, z⟩)
    · by_cases h2 : b = 122
      · subst h2
        rw [h122] at e; cases e
        obtain ⟨more, z⟩ := g.t122 _ h122
        exact .inr (.inl ⟨((code124 w H).tab h122).isCodeTable, rfl, _, more, rfl, z⟩)
      · exact .inl (g.keep b o h1 h2 e)
  · by_cases h1 : b = 58
    · subst h1
      obtain ⟨more, z⟩ := g.t58 _ h58
      exact ⟨_, z⟩
    · by_cases h2 : b = 122
      · subst h2
        obtain ⟨more, z⟩ := g.t122 _ h122
        exact ⟨_, z⟩
      · exact ⟨o, g.keep b o h1 h2 e⟩
end Mine
end

section
open PySem PySem.W PyProof.Rows
set_option maxRecDepth 100000
set_option linter.unusedVariables false
namespace Mine
theorem finish {w : World} {s₁ : Shared} {cl : Str → Option Addr} {mean : ExcName → Option Value} {a : Addr} {us : List Value} {ns : List Int} {E : Value → Shared → Prop} (KX : (KF w).In s₁.heap) (hg : s₁.gens = #[]) (hl : s₁.heap.IsList a us.toArray) (hi : IntsAre us ns) (hn : ns.length ≤ 63) :
    wpAny (model Challenge.rw_nq0083_01.row.prog w) callerA (call (.ref 125) [.ref a]) (fun v s' => GoodWG Challenge.rw_nq0083_01.row.claim cl mean [ofPy (PyData.list (ns.map PyData.int))] s₁ (.ok (.ret v)) s') E s₁ := by
  have H : Has w s₁.heap := Has.of_in KX
  have h58 : s₁.heap.get? 58 = some (tabObj #[]) := KX 58 _ (by kernel_rfl)
  have h122 : s₁.heap.get? 122 = some (tabObj #[]) := KX 122 _ (by kernel_rfl)
  refine wpAny_call (codeAny_mono (code_weak (law_spec w H h58 h122 hl hi hn) rfl (by decide) (by decide)) fun r s' hr => ?_)
  obtain ⟨rfl, g⟩ := hr
  refine ⟨.inl ⟨.bool true, .bool true, [], rfl, fun cls => rfl, .bool _, ?_, fun _ => ⟨List.nodup_nil, fun a ha => nomatch ha⟩⟩, oldK_grow H h58 h122 g, g.os, .of_eq (g.gens.trans hg)⟩
  wrow_post
end Mine
end

open PySem PySem.W PyProof.Rows
set_option maxRecDepth 100000 in
set_option maxHeartbeats 8000000 in
theorem PySem.Challenge.cw_nq0083_01_holds : PySem.Challenge.rw_nq0083_01.Holds := by
  refine Mine.hx ?_
  intro w s₀ s₁ mg mb G Y fa o pm cd doc dV kV ho hd hcd hD hmg hg args vals as hpre hlay hrd hwl hlo
  have KX := kIn_of Y
  refine Ground.open G ?_
  intro T B D TE TW
  clear hd
  wrow_args hpre hlay hrd hwl hlo
  x_fa T KX hmg
  (try all_lens)
  exact Mine.finish KX hg (by assumption) (by assumption) (by omega)
