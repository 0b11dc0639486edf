import PyProof.Rows.All
import Wide.All
import OpenK.AllK
import Wide.FinOn
import PySem.Challenge.RW_om0082_01
set_option Elab.async false
-- HD
section
open PySem PySem.W PyProof.Rows
set_option compiler.extract_closed false
set_option Elab.async false
set_option maxRecDepth 100000
set_option maxHeartbeats 0
namespace Mine
noncomputable def viewBody (l : List Stmt) : List Stmt := match l with
  | [a0, _, a2, _, a4, _, _, a7, a8, a9, a10, a11, _, a13, a14, a15, a16, a17, a18, a19, a20] => [a0, a2, a4, a7, a8, a9, a10, a11, a13, a14, a15, a16, a17, a18, a19, a20]
  | _ => []
noncomputable def view : Program := { PySem.Challenge.pw_om0082_01 with main := { PySem.Challenge.pw_om0082_01.main with body := viewBody PySem.Challenge.pw_om0082_01.main.body } }
theorem head_of (H : Hook) {d : DefRec} {kwd : List (Str × PySem.Expr)} (said : PySem.Challenge.rw_om0082_01.row.wellSaid = true)
    (hl : LeftO PySem.Challenge.rw_om0082_01.row.prog view [Str.ofString "_initial_missing", Str.ofString "reduce", Str.ofString "_NodeInfo"] (fun s => xlAt view [] s && recOk (RowW.records PySem.Challenge.rw_om0082_01.row.toRowW) s) H.obs H.val 2908)
    (hdef : defOf view PySem.Challenge.rw_om0082_01.row.name = some (d, kwd)) (hp : PySem.Challenge.rw_om0082_01.row.prog.theDef PySem.Challenge.rw_om0082_01.row.name = some (d.params, d.body, d.scope)) (hk : kwWritten? d.params.kwonlyargs d.params.kw_defaults = some kwd)
    (hw : PySem.Challenge.rw_om0082_01.row.toRowW.promised) (hc : WalkO view [Str.ofString "_initial_missing", Str.ofString "reduce", Str.ofString "_NodeInfo"] (XL view []) H.says PySem.Challenge.rw_om0082_01.row.toRowW d kwd fun f vs => PySem.call f vs) : PySem.Challenge.rw_om0082_01.row.Holds :=
  holds_open (q := view) (loose := [Str.ofString "_initial_missing", Str.ofString "reduce", Str.ofString "_NodeInfo"]) (Xt := fun s => xlAt view [] s && recOk (RowW.records PySem.Challenge.rw_om0082_01.row.toRowW) s) (XP := XL view []) (Yf := Hook.obs H) (Ya := Hook.val H) (YP := Hook.says H) (N := 2908) hl (Hook.of H) (Hook.keeps H) (fun s e => xl_of s (Bool.and_eq_true_iff.mp e).1) XL.keeps hdef hp hk (fun s e => recFacts_of (Bool.and_eq_true_iff.mp e).2) (by rfl) said (by decide +kernel) ⟨rfl, rfl, rfl, rfl, rfl, by decide +kernel⟩ hw hc
theorem said_of : PySem.Challenge.rw_om0082_01.wellSaid = true := by decide +kernel
section
set_option hygiene false in
local macro_rules | `(tactic| o_law) => `(tactic| refine holds_law said_of fun said => ?_)
set_option hygiene false in
local macro_rules | `(tactic| o_head $H) => `(tactic| (refine head_of $H said ?hl rfl rfl rfl ?hw ?hc; (case hl => (intro w; unfold openEnds topFrom fencedOpening; rw [PySem.W.Fast.te14082659384304107361, PySem.W.Fast.te4187177175401517315, PySem.W.Fast.te10274390034422433532, PySem.W.Fast.te14289696077712309145, PySem.W.Fast.te1435165496053646825, PySem.W.Fast.te14364793385576792824]; kernel_rfl)); (case' hc => clear said)))
open_top hd for PySem.Challenge.rw_om0082_01
end
end Mine
end
-- Fnd
section
open PySem PySem.W PyProof.Rows PySem.Spec PySem.Calls
set_option compiler.extract_closed false
set_option Elab.async false
set_option maxRecDepth 100000
set_option maxHeartbeats 4000000
namespace Mine
-- bundles
inductive Ex2 {a0 a1 : Type} (p : a0 → a1 → Prop) : Prop
  | mk (x0 : a0) (x1 : a1) (h : p x0 x1) : Ex2 p
inductive Ex3 {a0 a1 a2 : Type} (p : a0 → a1 → a2 → Prop) : Prop
  | mk (x0 : a0) (x1 : a1) (x2 : a2) (h : p x0 x1 x2) : Ex3 p
inductive Ex4 {a0 a1 a2 a3 : Type} (p : a0 → a1 → a2 → a3 → Prop) : Prop
  | mk (x0 : a0) (x1 : a1) (x2 : a2) (x3 : a3) (h : p x0 x1 x2 x3) : Ex4 p
inductive Ex5 {a0 a1 a2 a3 a4 : Type} (p : a0 → a1 → a2 → a3 → a4 → Prop) : Prop
  | mk (x0 : a0) (x1 : a1) (x2 : a2) (x3 : a3) (x4 : a4) (h : p x0 x1 x2 x3 x4) : Ex5 p
inductive Ex6 {a0 a1 a2 a3 a4 a5 : Type} (p : a0 → a1 → a2 → a3 → a4 → a5 → Prop) : Prop
  | mk (x0 : a0) (x1 : a1) (x2 : a2) (x3 : a3) (x4 : a4) (x5 : a5) (h : p x0 x1 x2 x3 x4 x5) : Ex6 p
inductive Ex7 {a0 a1 a2 a3 a4 a5 a6 : Type} (p : a0 → a1 → a2 → a3 → a4 → a5 → a6 → Prop) : Prop
  | mk (x0 : a0) (x1 : a1) (x2 : a2) (x3 : a3) (x4 : a4) (x5 : a5) (x6 : a6) (h : p x0 x1 x2 x3 x4 x5 x6) : Ex7 p
inductive Ex10 {a0 a1 a2 a3 a4 a5 a6 a7 a8 a9 : Type} (p : a0 → a1 → a2 → a3 → a4 → a5 → a6 → a7 → a8 → a9 → Prop) : Prop
  | mk (x0 : a0) (x1 : a1) (x2 : a2) (x3 : a3) (x4 : a4) (x5 : a5) (x6 : a6) (x7 : a7) (x8 : a8) (x9 : a9) (h : p x0 x1 x2 x3 x4 x5 x6 x7 x8 x9) : Ex10 p
inductive Ex13 {a0 a1 a2 a3 a4 a5 a6 a7 a8 a9 a10 a11 a12 : Type} (p : a0 → a1 → a2 → a3 → a4 → a5 → a6 → a7 → a8 → a9 → a10 → a11 → a12 → Prop) : Prop
  | mk (x0 : a0) (x1 : a1) (x2 : a2) (x3 : a3) (x4 : a4) (x5 : a5) (x6 : a6) (x7 : a7) (x8 : a8) (x9 : a9) (x10 : a10) (x11 : a11) (x12 : a12) (h : p x0 x1 x2 x3 x4 x5 x6 x7 x8 x9 x10 x11 x12) : Ex13 p
inductive Ex14 {a0 a1 a2 a3 a4 a5 a6 a7 a8 a9 a10 a11 a12 a13 : Type} (p : a0 → a1 → a2 → a3 → a4 → a5 → a6 → a7 → a8 → a9 → a10 → a11 → a12 → a13 → Prop) : Prop
  | mk (x0 : a0) (x1 : a1) (x2 : a2) (x3 : a3) (x4 : a4) (x5 : a5) (x6 : a6) (x7 : a7) (x8 : a8) (x9 : a9) (x10 : a10) (x11 : a11) (x12 : a12) (x13 : a13) (h : p x0 x1 x2 x3 x4 x5 x6 x7 x8 x9 x10 x11 x12 x13) : Ex14 p
inductive Ex16 {a0 a1 a2 a3 a4 a5 a6 a7 a8 a9 a10 a11 a12 a13 a14 a15 : Type} (p : a0 → a1 → a2 → a3 → a4 → a5 → a6 → a7 → a8 → a9 → a10 → a11 → a12 → a13 → a14 → a15 → Prop) : Prop
  | mk (x0 : a0) (x1 : a1) (x2 : a2) (x3 : a3) (x4 : a4) (x5 : a5) (x6 : a6) (x7 : a7) (x8 : a8) (x9 : a9) (x10 : a10) (x11 : a11) (x12 : a12) (x13 : a13) (x14 : a14) (x15 : a15) (h : p x0 x1 x2 x3 x4 x5 x6 x7 x8 x9 x10 x11 x12 x13 x14 x15) : Ex16 p
inductive All3 (p0 p1 p2 : Prop) : Prop
  | mk (h0 : p0) (h1 : p1) (h2 : p2) : All3 p0 p1 p2
inductive All4 (p0 p1 p2 p3 : Prop) : Prop
  | mk (h0 : p0) (h1 : p1) (h2 : p2) (h3 : p3) : All4 p0 p1 p2 p3
inductive All5 (p0 p1 p2 p3 p4 : Prop) : Prop
  | mk (h0 : p0) (h1 : p1) (h2 : p2) (h3 : p3) (h4 : p4) : All5 p0 p1 p2 p3 p4
inductive All6 (p0 p1 p2 p3 p4 p5 : Prop) : Prop
  | mk (h0 : p0) (h1 : p1) (h2 : p2) (h3 : p3) (h4 : p4) (h5 : p5) : All6 p0 p1 p2 p3 p4 p5
inductive All7 (p0 p1 p2 p3 p4 p5 p6 : Prop) : Prop
  | mk (h0 : p0) (h1 : p1) (h2 : p2) (h3 : p3) (h4 : p4) (h5 : p5) (h6 : p6) : All7 p0 p1 p2 p3 p4 p5 p6
inductive All8 (p0 p1 p2 p3 p4 p5 p6 p7 : Prop) : Prop
  | mk (h0 : p0) (h1 : p1) (h2 : p2) (h3 : p3) (h4 : p4) (h5 : p5) (h6 : p6) (h7 : p7) : All8 p0 p1 p2 p3 p4 p5 p6 p7
inductive All9 (p0 p1 p2 p3 p4 p5 p6 p7 p8 : Prop) : Prop
  | mk (h0 : p0) (h1 : p1) (h2 : p2) (h3 : p3) (h4 : p4) (h5 : p5) (h6 : p6) (h7 : p7) (h8 : p8) : All9 p0 p1 p2 p3 p4 p5 p6 p7 p8
inductive All10 (p0 p1 p2 p3 p4 p5 p6 p7 p8 p9 : Prop) : Prop
  | mk (h0 : p0) (h1 : p1) (h2 : p2) (h3 : p3) (h4 : p4) (h5 : p5) (h6 : p6) (h7 : p7) (h8 : p8) (h9 : p9) : All10 p0 p1 p2 p3 p4 p5 p6 p7 p8 p9
inductive All14 (p0 p1 p2 p3 p4 p5 p6 p7 p8 p9 p10 p11 p12 p13 : Prop) : Prop
  | mk (h0 : p0) (h1 : p1) (h2 : p2) (h3 : p3) (h4 : p4) (h5 : p5) (h6 : p6) (h7 : p7) (h8 : p8) (h9 : p9) (h10 : p10) (h11 : p11) (h12 : p12) (h13 : p13) : All14 p0 p1 p2 p3 p4 p5 p6 p7 p8 p9 p10 p11 p12 p13
inductive All18 (p0 p1 p2 p3 p4 p5 p6 p7 p8 p9 p10 p11 p12 p13 p14 p15 p16 p17 : Prop) : Prop
  | mk (h0 : p0) (h1 : p1) (h2 : p2) (h3 : p3) (h4 : p4) (h5 : p5) (h6 : p6) (h7 : p7) (h8 : p8) (h9 : p9) (h10 : p10) (h11 : p11) (h12 : p12) (h13 : p13) (h14 : p14) (h15 : p15) (h16 : p16) (h17 : p17) : All18 p0 p1 p2 p3 p4 p5 p6 p7 p8 p9 p10 p11 p12 p13 p14 p15 p16 p17
-- end of bundles
theorem conj_elim {a b C : Prop} (h : a ∧ b) (k : a → b → C) : C := k h.1 h.2
theorem hide_post {α : Type} {M : Model} {A : Around} {c : Sem α} {Q : α → Shared → Prop} {E : Value → Shared → Prop} {s : Shared} (h : ∀ Q' : α → Shared → Prop, (∀ f s', Q f s' → Q' f s') → wpAny M A c Q' E s) : wpAny M A c Q E s := h Q fun _ _ x => x
theorem sub_at {α : Type} {X Y : List α} {p : α} (h : ∀ q ∈ X, q ∈ Y) (hp : p ∈ X) : p ∈ Y := h p hp
theorem sub_nil {α : Type} {Y : List α} : ∀ q ∈ ([] : List α), q ∈ Y := fun _ h => nomatch h
theorem sub_self {α : Type} {Y : List α} : ∀ q ∈ Y, q ∈ Y := fun _ h => h
theorem sub_cons {α : Type} {a : α} {X Y : List α} (h : a ∈ Y) (t : ∀ q ∈ X, q ∈ Y) : ∀ q ∈ a :: X, q ∈ Y := fun _ hq => (List.mem_cons.mp hq).elim (fun e => e ▸ h) (t _)
theorem sub_app {α : Type} {X Y Z : List α} (h : ∀ q ∈ X, q ∈ Z) (t : ∀ q ∈ Y, q ∈ Z) : ∀ q ∈ X ++ Y, q ∈ Z := fun _ hq => (List.mem_append.mp hq).elim (h _) (t _)
theorem sub_tail {α : Type} {b : α} {X Y : List α} (h : ∀ q ∈ X, q ∈ Y) : ∀ q ∈ X, q ∈ b :: Y := fun q hq => .tail _ (h q hq)
theorem sub_left {α : Type} {X Y Z : List α} (h : ∀ q ∈ X, q ∈ Y) : ∀ q ∈ X, q ∈ Y ++ Z := fun q hq => List.mem_append_left _ (h q hq)
theorem sub_right {α : Type} {X Y Z : List α} (h : ∀ q ∈ X, q ∈ Z) : ∀ q ∈ X, q ∈ Y ++ Z := fun q hq => List.mem_append_right _ (h q hq)
theorem in_head {α : Type} {a : α} {X : List α} : a ∈ a :: X := .head _
theorem in_tail {α : Type} {a b : α} {X : List α} (h : a ∈ X) : a ∈ b :: X := .tail _ h
theorem in_left {α : Type} {a : α} {X Y : List α} (h : a ∈ X) : a ∈ X ++ Y := List.mem_append_left _ h
theorem in_right {α : Type} {a : α} {X Y : List α} (h : a ∈ Y) : a ∈ X ++ Y := List.mem_append_right _ h
noncomputable abbrev P : Program := PySem.Challenge.pw_om0082_01
noncomputable abbrev TT (mean : ExcName → Option Value) (mg mb : Str → Option Value) (h : Heap) : Prop :=
  Top Mine.view (looseW Mine.view [Str.ofString "_initial_missing", Str.ofString "reduce", Str.ofString "_NodeInfo"]) mean mg mb h
theorem fill : PySem.Challenge.rw_om0082_01 = PySem.Challenge.rw_om0082_01 ∧ Mine.hd.heap_1 = Mine.hd.heap_1 := by
  k_fill
  exact ⟨rfl, rfl⟩

noncomputable abbrev arnd (dp un : Nat) (gd : Option (List Code)) (outer : List Env) : Around :=
  { handled := none, depth := dp, frames := some outer, guards := gd, units := un }
noncomputable abbrev frs (outer : List Env) : List Addr := outer.filterMap (·.frame)

/-- what a call leaves: the ground `g` is kept, the own things stand -/
noncomputable def Done (g h : Heap) (own : List (Addr × Obj)) : Prop :=
  (∀ b o, g.get? b = some o → h.get? b = some o) ∧ ∀ p ∈ own, h.get? p.1 = some p.2 ∧ g.get? p.1 = none

theorem done_of {g h : Heap} {L : Addr} {m : Str → Option Value} {news own : List (Addr × Obj)} (F : Fr g L h m) (N : News g L h news) (hs : ∀ p ∈ own, p ∈ news) : Done g h own :=
  ⟨F.keep, fun p hp => ⟨(N p (hs p hp)).1, (N p (hs p hp)).2.2⟩⟩
structure Sit (w : World) (mean : ExcName → Option Value) (mg mb : Str → Option Value) (base : Heap) (outer : List Env) (g h : Heap) (own : List (Addr × Obj)) : Prop where
  done : Done g h own
  size : g.objs.size ≤ h.objs.size
  stays : base.StaysIn g
  frames : g.FunFrames base outer
  dicts : KtsDicts (frs outer) g
  XB : (Mine.hd.heap_1 w.params).In base
  TB : TT mean mg mb base

section
variable {w : World} {mean : ExcName → Option Value} {mg mb : Str → Option Value} {base g : Heap} {outer : List Env} {own : List (Addr × Obj)} {s : Shared} {dp un : Nat} {gd : Option (List Code)}
  {R : Result → Shared → Prop} {name qual : Str} {params : Arguments} {body : List Stmt} {scope : Scope} {dV kV doc pm cdv ct oc : Value} {an od : Option Addr} {osl : Array (Option Value)} {f : Addr} {args : Args} {binds : List (Str × Value)}

theorem Sit.enter (S : Sit w mean mg mb base outer g s.heap own)
    (ho : (Mine.hd.heap_1 w.params).lookup f = some ⟨oc, od, .func (fnOf name qual params body scope dV kV doc pm an cdv ct), osl⟩) (hcd : codeIn (Mine.hd.heap_1 w.params) cdv qual = true) (hroom : dp < recursionLimit)
    (hbind : BindsTo s (fnOf name qual params body scope dV kV doc pm an cdv ct) args binds) (hloc : ∀ y ∈ binds, scope.names.lookup y.1 = some .local)
    (h : ∀ L' h₁, Fr g L' h₁ (fun y => binds.reverse.lookup y) → News g L' h₁ own → Below (arnd dp un gd outer) base outer g → (Mine.hd.heap_1 w.params).In g → TT mean mg mb g → KtsDicts (frs outer) g →
      (Mine.hd.heap_1 w.params).In base → TT mean mg mb base → (∀ p ∈ own, p.1 < L') →
      wpAny (model P w) ((arnd dp un gd outer).deeper (envOf qual scope L' f cdv)) (execs body (envOf qual scope L' f cdv))
        (fun fl s' => R (.ok (.ret (match fl with | .ret v => v | _ => .none))) s')
        (fun e s' => wpAny (model P w) ((arnd dp un gd outer).deeper (envOf qual scope L' f cdv)) (leaving (envOf qual scope L' f cdv) e) (fun _ s'' => R (.error e) s'') (fun e' s'' => R (.error e') s'') s')
        { s with heap := h₁, toks := s.toks + binds.length })
    (hco : scope.isCoroutine = false) (hgen : scope.isGenerator = false) (hk : scope.kind = .function)
    (hcell : ∀ x ∈ scope.names, x.2 ≠ .cell) : codeAny (model P w) (arnd dp un gd outer) (.call (.ref f) args) R s := by
  have Xg : (Mine.hd.heap_1 w.params).In g := S.XB.keeps S.stays
  have Tg : TT mean mg mb g := S.TB.keeps S.stays
  have X : (Mine.hd.heap_1 w.params).In s.heap := Xg.keeps S.done.1
  refine codeAny_call_def (fd := fnOf name qual params body scope dV kV doc pm an cdv ct) (body := body) (binds := binds) hroom (X _ _ ho) rfl (Tg.nolimit.keeps S.done.1) (codeRec_of X hcd) rfl hbind hcell hloc (fun h₁ hns hk₁ => ?_) hco hgen hk
  exact h s.heap.objs.size h₁ ⟨hns, fun b o e => hk₁ b o (S.done.1 b o e), S.size⟩
    (fun p hp => ⟨hk₁ _ _ (S.done.2 p hp).1, Nat.ne_of_lt (Heap.lt_size (S.done.2 p hp).1), (S.done.2 p hp).2⟩)
    ⟨rfl, S.stays, S.frames⟩ Xg Tg S.dicts S.XB S.TB (fun p hp => Heap.lt_size (S.done.2 p hp).1)
end

section
variable {w : World} {mean : ExcName → Option Value} {mg mb : Str → Option Value} {base h₀ : Heap} {outer : List Env} {news : List (Addr × Obj)} {s : Shared} {A₀ : Around} {L : Addr} {m : Str → Option Value} {env : Env}

/-- at a call: `own` is handed over, `rest` stays behind -/
theorem use_at (B : Below A₀ base outer h₀) (F : Fr h₀ L s.heap m) (N : News h₀ L s.heap news) (XB : (Mine.hd.heap_1 w.params).In base) (TB : TT mean mg mb base) (D : KtsDicts (frs outer) h₀)
    (hf : env.frame = some L) (hke : env.scope.kind = .function) (own rest : List (Addr × Obj)) (ho : ∀ p ∈ own, p ∈ news) (hr : ∀ p ∈ rest, p ∈ news) (hd : ∀ p ∈ own, ∀ q ∈ rest, p.1 ≠ q.1) :
    ∃ g, g = hideAll s.heap (own.map (fun p : Addr × Obj => p.1)) ∧ Sit w mean mg mb base (env :: outer) g s.heap own ∧ (∀ b o, h₀.get? b = some o → g.get? b = some o) ∧
      (∀ h' own', Done g h' own' → Fr h₀ L h' m ∧ News h₀ L h' (own' ++ rest) ∧ ∀ p ∈ own', ∀ q ∈ rest, @Ne Nat p.1 q.1) ∧
      (∀ g' h' own', KtsTurn (frs (env :: outer)) g g' → Done g' h' own' → ∃ h₀', All8 (KtsTurn (frs outer) h₀ h₀') (Fr h₀' L h' m) (News h₀' L h' (own' ++ rest)) (Below A₀ base outer h₀') ((Mine.hd.heap_1 w.params).In h₀') (TT mean mg mb h₀') (KtsDicts (frs outer) h₀') (∀ p ∈ own', ∀ q ∈ rest, @Ne Nat p.1 q.1)) := by
  have No : News h₀ L s.heap own := fun p hp => N p (ho p hp)
  have nm : ∀ b o, h₀.get? b = some o → b ∉ own.map (·.1) := fun b o e q => by
    obtain ⟨p, hp, rfl⟩ := List.mem_map.mp q
    rw [(No p hp).2.2] at e; cases e
  have st : h₀.StaysIn (hideAll s.heap (own.map (·.1))) := fun b o e => hideAll_get _ (F.keep b o e) (nm b o e)
  obtain ⟨oL, es, ep, hL, hLd, hLk, hLf⟩ := F.ns
  have nL : L ∉ own.map (·.1) := fun q => by
    obtain ⟨p, hp, e⟩ := List.mem_map.mp q
    exact (No p hp).2.1 e
  have hLg := hideAll_get (own.map (·.1)) hL nL
  have nL₀ : h₀.get? L = none := kts_self F
  have rst : ∀ p ∈ rest, (hideAll s.heap (own.map (·.1))).get? p.1 = some p.2 := fun p hp => hideAll_get _ (N p (hr p hp)).1 fun q => by
    obtain ⟨x, hx, e⟩ := List.mem_map.mp q
    exact hd x hx p hp e
  obtain ⟨FG, BG, _, _⟩ := groundX (R := fun _ _ => True) (A := { handled := none, depth := 0, frames := some (env :: outer), guards := none, units := 0 }) B F No rfl hf hke
  have hbL : base.get? L = none := by
    cases q : base.get? L with
    | none => rfl
    | some o => have := B.stays _ _ q; rw [nL₀] at this; cases this
  have mem : ∀ b, b ∈ frs (env :: outer) → b = L ∨ b ∈ frs outer := fun b hb => by
    obtain ⟨env', he, hf'⟩ := List.mem_filterMap.mp hb
    rcases List.mem_cons.mp he with rfl | he
    · exact .inl (Option.some.inj (hf'.symm.trans hf))
    · exact .inr (List.mem_filterMap.mpr ⟨env', he, hf'⟩)
  have rnf : ∀ p ∈ rest, p.1 ∉ frs (env :: outer) := fun p hp hm => by
    rcases mem _ hm with z | z
    · exact (N p (hr p hp)).2.1 z
    · obtain ⟨_, o, ho', _⟩ := B.frames.mem z
      rw [(N p (hr p hp)).2.2] at ho'; cases ho'
  refine ⟨hideAll s.heap (own.map (fun p : Addr × Obj => p.1)), rfl, ⟨⟨fun b o e => of_hideAll _ e, fun p hp => ⟨(No p hp).1, hideAll_none _ (List.mem_map_of_mem hp)⟩⟩, Nat.le_of_eq (hideAll_size _ _), BG.stays, BG.frames, fun b hb => ?_, XB, TB⟩, (fun b o e => st b o e), fun h' own' Dn => ?_, fun g' h' own' T' Dn => ?_⟩
  · rcases mem b hb with rfl | hb
    · exact ⟨oL, es, ep, hLg, hLd⟩
    · obtain ⟨o, es', n', ho', hd'⟩ := D b hb
      exact ⟨o, es', n', st b o ho', hd'⟩
  · refine ⟨⟨⟨oL, es, ep, Dn.1 _ _ hLg, hLd, hLk, hLf⟩, fun b o e => Dn.1 b o (st b o e), F.above⟩, fun p hp => ?_, fun p hp q hq e => ?_⟩
    rotate_left
    · have := (Dn.2 p hp).2
      rw [show p.1 = q.1 from e, rst q hq] at this
      cases this
    rcases List.mem_append.mp hp with hp | hp
    · refine ⟨(Dn.2 p hp).1, fun q => ?_, ?_⟩
      · have := (Dn.2 p hp).2; rw [q, hLg] at this; cases this
      · cases q : h₀.get? p.1 with
        | none => rfl
        | some o => have := (Dn.2 p hp).2; rw [st _ _ q] at this; cases this
    · exact ⟨Dn.1 _ _ (rst p hp), (N p (hr p hp)).2⟩
  · obtain ⟨sl, hs⟩ := T'.up hLg
    obtain ⟨T₁, S₁⟩ := kts_turn_at (h := h') (fs := frs outer) (g := h₀)
      (fun b hb => by
        obtain ⟨_, o, ho', _⟩ := B.frames.mem hb
        exact ⟨o, ho'⟩)
      (fun b o e nmem => Dn.1 b o (T'.other b o (st b o e) (fun q => by
        rcases mem _ q with z | z
        · rw [z, nL₀] at e
          cases e
        · exact nmem z)))
      (fun b o e hm => by
        obtain ⟨sl', hs'⟩ := T'.up (st b o e)
        exact ⟨sl', Dn.1 _ _ hs'⟩)
    have B₃ : Below A₀ base outer (ktsHeap h' (frs outer) h₀) := ⟨B.stack, fun b o e => T₁.other b o (B.stays b o e) (fun hm => by
      rw [(B.frames.mem hm).1] at e
      cases e), B.frames.of_keeps fun b o e _ => by
      obtain ⟨sl', hs'⟩ := T₁.up e
      exact ⟨_, hs', rfl⟩⟩
    refine ⟨_, T₁, ⟨⟨_, es, ep, Dn.1 _ _ hs, hLd, hLk, hLf⟩, S₁, by rw [T₁.size]; exact F.above⟩, fun p hp => ?_, B₃, XB.keeps B₃.stays, TB.keeps B₃.stays, D.turn T₁, fun p hp q hq e => ?_⟩
    rotate_left
    · have := (Dn.2 p hp).2
      rw [show p.1 = q.1 from e, T'.other _ _ (rst q hq) (rnf q hq)] at this
      cases this
    rcases List.mem_append.mp hp with hp | hp
    · refine ⟨(Dn.2 p hp).1, fun q => ?_, T₁.none_ _ ?_⟩
      · have := (Dn.2 p hp).2; rw [q, hs] at this; cases this
      · cases q : h₀.get? p.1 with
        | none => rfl
        | some o =>
          obtain ⟨sl', hs'⟩ := T'.up (st _ _ q)
          have := (Dn.2 p hp).2
          rw [hs'] at this
          cases this
    · refine ⟨Dn.1 _ _ (T'.other _ _ (rst p hp) (rnf p hp)), (N p (hr p hp)).2.1, T₁.none_ _ (N p (hr p hp)).2.2⟩

/-- what a call that raises (an interpreter's own exception) leaves at the caller's -/
theorem use_exc (B : Below A₀ base outer h₀) (F : Fr h₀ L s.heap m) (N : News h₀ L s.heap news) (hf : env.frame = some L) (own rest : List (Addr × Obj)) (ho : ∀ p ∈ own, p ∈ news) (hr : ∀ p ∈ rest, p ∈ news) (hd : ∀ p ∈ own, ∀ q ∈ rest, p.1 ≠ q.1)
    {e : Addr} {cls : Value} {own' : List (Addr × Obj)} {h' : Heap} (R : RaisedSN base (hideAll s.heap (own.map (fun p : Addr × Obj => p.1))) (env :: outer) e cls own' h') (up : (hideAll s.heap (own.map (fun p : Addr × Obj => p.1))).UpToSlots h') (ho' : ∀ p ∈ own', p.1 ∈ own.map (·.1)) :
    ∃ G, Fr h₀ L G m ∧ RaisedSN base G (env :: outer) e cls (own' ++ rest) h' ∧ G.UpToSlots h' := by
  obtain ⟨oL, es, ep, hL, hLd, hLk, hLf⟩ := F.ns
  have sub : ∀ b o, (hideAll s.heap (news.map (fun p : Addr × Obj => p.1))).get? b = some o → (hideAll s.heap (own.map (fun p : Addr × Obj => p.1))).get? b = some o := fun b o q => by
    have h1 := of_hideAll _ q
    refine hideAll_get _ h1 fun hm => ?_
    obtain ⟨p, hp, e⟩ := List.mem_map.mp hm
    have : (hideAll s.heap (news.map (fun p : Addr × Obj => p.1))).get? b = none := hideAll_none _ (List.mem_map.mpr ⟨p, ho p hp, e⟩)
    rw [this] at q; cases q
  have nL : L ∉ news.map (fun p : Addr × Obj => p.1) := fun q => by
    obtain ⟨p, hp, e⟩ := List.mem_map.mp q
    exact (N p hp).2.1 e
  have nm : ∀ b o, h₀.get? b = some o → b ∉ news.map (fun p : Addr × Obj => p.1) := fun b o e q => by
    obtain ⟨p, hp, rfl⟩ := List.mem_map.mp q
    rw [(N p hp).2.2] at e; cases e
  obtain ⟨Bh, a0, hB, hBG, hl, hfl⟩ := R
  have mem : ∀ b, b ∈ frs (env :: outer) → b = L ∨ b ∈ frs outer := fun b hb => by
    obtain ⟨env', he, hf'⟩ := List.mem_filterMap.mp hb
    rcases List.mem_cons.mp he with rfl | he
    · exact .inl (Option.some.inj (hf'.symm.trans hf))
    · exact .inr (List.mem_filterMap.mpr ⟨env', he, hf'⟩)
  refine ⟨hideAll s.heap (news.map (fun p : Addr × Obj => p.1)), ⟨⟨oL, es, ep, hideAll_get _ hL nL, hLd, hLk, hLf⟩, fun b o e => hideAll_get _ (F.keep b o e) (nm b o e), F.above⟩, ⟨Bh, a0, hB, fun b o q nmem => hBG b o (sub b o q) nmem, fun q hq => ?_, hfl⟩, fun b o q nf => up b o (sub b o q) nf⟩
  rcases List.mem_append.mp hq with hq | hq
  · refine ⟨(hl q hq).1, ?_, (hl q hq).2.2⟩
    obtain ⟨p, hp, e⟩ := List.mem_map.mp (ho' q hq)
    exact hideAll_none _ (List.mem_map.mpr ⟨p, ho p hp, e⟩)
  · have h1 : (hideAll s.heap (own.map (fun p : Addr × Obj => p.1))).get? q.1 = some q.2 := hideAll_get _ (N q (hr q hq)).1 fun hm => by
      obtain ⟨x, hx, e⟩ := List.mem_map.mp hm
      exact hd x hx q hq e
    refine ⟨hBG _ _ h1 fun hm => ?_, hideAll_none _ (List.mem_map.mpr ⟨q, hr q hq, rfl⟩), ?_⟩
    · rcases mem _ hm with z | z
      · exact (N q (hr q hq)).2.1 z
      · obtain ⟨_, o, ho', _⟩ := B.frames.mem z
        rw [(N q (hr q hq)).2.2] at ho'; cases ho'
    · cases z : base.get? q.1 with
      | none => rfl
      | some o => have := B.stays _ _ z; rw [(N q (hr q hq)).2.2] at this; cases this

/-- a call of a def with the things that it touches -/
theorem call_use {dp un : Nat} {gd : Option (List Code)} {Q E : Value → Shared → Prop} {f : Value} {pos : List Value} (B : Below A₀ base outer h₀) (F : Fr h₀ L s.heap m) (N : News h₀ L s.heap news) (XB : (Mine.hd.heap_1 w.params).In base) (TB : TT mean mg mb base) (D : KtsDicts (frs outer) h₀)
    (own rest : List (Addr × Obj)) (ho : ∀ p ∈ own, p ∈ news) (hr : ∀ p ∈ rest, p ∈ news) (hd' : ∀ p ∈ own, ∀ q ∈ rest, q.1 ≠ p.1)
    (h : ∀ g, Sit w mean mg mb base (env :: outer) g s.heap own →
      (∀ h' own', Done g h' own' → Fr h₀ L h' m ∧ News h₀ L h' (own' ++ rest) ∧ ∀ p ∈ own', ∀ q ∈ rest, @Ne Nat p.1 q.1) →
      (∀ g' h' own', KtsTurn (frs (env :: outer)) g g' → Done g' h' own' → ∃ h₀', All8 (KtsTurn (frs outer) h₀ h₀') (Fr h₀' L h' m) (News h₀' L h' (own' ++ rest)) (Below A₀ base outer h₀') ((Mine.hd.heap_1 w.params).In h₀') (TT mean mg mb h₀') (KtsDicts (frs outer) h₀') (∀ p ∈ own', ∀ q ∈ rest, @Ne Nat p.1 q.1)) →
      (∀ e cls own' h', RaisedSN base g (env :: outer) e cls own' h' → g.UpToSlots h' → (∀ p ∈ own', p.1 ∈ own.map (·.1)) → ∃ G, Fr h₀ L G m ∧ RaisedSN base G (env :: outer) e cls (own' ++ rest) h' ∧ G.UpToSlots h') →
      codeAny (model P w) (arnd dp un gd (env :: outer)) (.call f ⟨pos, []⟩) (fun r s' => match r with | .ok (.ret v) => Q v s' | .ok _ => False | .error e => E e s') s)
    (hf : env.frame = some L := by rfl) (hke : env.scope.kind = .function := by rfl) :
    wpAny (model P w) (arnd dp un gd (env :: outer)) (call f pos) Q E s := by
  have hd : ∀ p ∈ own, ∀ q ∈ rest, p.1 ≠ q.1 := fun p hp q hq => Ne.symm (hd' p hp q hq)
  obtain ⟨g, rfl, S, _, b1, b2⟩ := use_at B F N XB TB D hf hke own rest ho hr hd
  exact wpAny_call (h _ S b1 b2 fun e cls own' h' R up ho' => use_exc B F N hf own rest ho hr hd R up ho')
end
-- halts: each speaks of one kind of step; a walk halts where one applies
theorem zzW {M : Model} {A : Around} {Q : Flow → Shared → Prop} {E : Value → Shared → Prop} {s : Shared} {t : PySem.Expr} {b o : List Stmt} {p : Pos} {x : Env} (h : wpAny M A (exec (Stmt.While t b o p) x) Q E s) : wpAny M A (exec (Stmt.While t b o p) x) Q E s := h
theorem zzF {M : Model} {A : Around} {Q : Flow → Shared → Prop} {E : Value → Shared → Prop} {s : Shared} {t i : PySem.Expr} {b o : List Stmt} {p : Pos} {x : Env} (h : wpAny M A (exec (Stmt.For t i b o p) x) Q E s) : wpAny M A (exec (Stmt.For t i b o p) x) Q E s := h
theorem zzI {M : Model} {A : Around} {Q : Flow → Shared → Prop} {E : Value → Shared → Prop} {s : Shared} {t : PySem.Expr} {b o : List Stmt} {p : Pos} {x : Env} (h : wpAny M A (exec (Stmt.If t b o p) x) Q E s) : wpAny M A (exec (Stmt.If t b o p) x) Q E s := h
theorem zzX {M : Model} {A : Around} {Q : Flow → Shared → Prop} {E : Value → Shared → Prop} {s : Shared} {b : List Stmt} {x : Env} (h : wpAny M A (execs b x) Q E s) : wpAny M A (execs b x) Q E s := h
theorem zzC {M : Model} {A : Around} {Q : Value → Shared → Prop} {E : Value → Shared → Prop} {s : Shared} {a : Addr} {v : List Value} {k : List (Str × Value)} (h : wpAny M A (call (.ref a) v k) Q E s) : wpAny M A (call (.ref a) v k) Q E s := h
theorem zzEn {M : Model} {A : Around} {Q : Value → Shared → Prop} {E : Value → Shared → Prop} {s : Shared} {v : List Value} {k : List (Str × Value)} (h : wpAny M A (call (.type "enumerate") v k) Q E s) : wpAny M A (call (.type "enumerate") v k) Q E s := h
theorem zzTu {M : Model} {A : Around} {Q : Value → Shared → Prop} {E : Value → Shared → Prop} {s : Shared} {v : List Value} {k : List (Str × Value)} (h : wpAny M A (call (.type "tuple") v k) Q E s) : wpAny M A (call (.type "tuple") v k) Q E s := h
theorem zzLen {M : Model} {A : Around} {Q : Value → Shared → Prop} {E : Value → Shared → Prop} {s : Shared} {v : List Value} {k : List (Str × Value)} (h : wpAny M A (call (.builtin "len") v k) Q E s) : wpAny M A (call (.builtin "len") v k) Q E s := h
theorem zzL {M : Model} {A : Around} {Q : Value → Shared → Prop} {E : Value → Shared → Prop} {s : Shared} {e : PySem.Expr} {g : List Comprehension} {c : Scope} {p : Pos} {x : Env} (h : wpAny M A (eval (.ListComp e g c p) x) Q E s) : wpAny M A (eval (.ListComp e g c p) x) Q E s := h
theorem zzD {M : Model} {A : Around} {Q : Value → Shared → Prop} {E : Value → Shared → Prop} {s : Shared} {e f : PySem.Expr} {g : List Comprehension} {c : Scope} {p : Pos} {x : Env} (h : wpAny M A (eval (.DictComp e f g c p) x) Q E s) : wpAny M A (eval (.DictComp e f g c p) x) Q E s := h
theorem zzLi {M : Model} {A : Around} {Q : Value → Shared → Prop} {E : Value → Shared → Prop} {s : Shared} {e : List PySem.Expr} {p : Pos} {x : Env} (h : wpAny M A (eval (.List e p) x) Q E s) : wpAny M A (eval (.List e p) x) Q E s := h
theorem zzNm {M : Model} {A : Around} {Q : Value → Shared → Prop} {E : Value → Shared → Prop} {s : Shared} {y : Str} {p : Pos} {x : Env} (h : wpAny M A (eval (.Name y p) x) Q E s) : wpAny M A (eval (.Name y p) x) Q E s := h
theorem zzSu {M : Model} {A : Around} {Q : Value → Shared → Prop} {E : Value → Shared → Prop} {s : Shared} {a b : PySem.Expr} {u v : Value} (h : wpAny M A (subscriptTail a b u v) Q E s) : wpAny M A (subscriptTail a b u v) Q E s := h
theorem zzSr {M : Model} {A : Around} {Q : Value → Shared → Prop} {E : Value → Shared → Prop} {s : Shared} {a b : PySem.Expr} {u v : Addr} (h : wpAny M A (subscriptTail a b (.ref u) (.ref v)) Q E s) : wpAny M A (subscriptTail a b (.ref u) (.ref v)) Q E s := h
theorem zzSl {M : Model} {A : Around} {Q : Value → Shared → Prop} {E : Value → Shared → Prop} {s : Shared} {a : PySem.Expr} {l m n : Option PySem.Expr} {p : Pos} {u v : Value} (h : wpAny M A (subscriptTail a (.Slice l m n p) u v) Q E s) : wpAny M A (subscriptTail a (.Slice l m n p) u v) Q E s := h
theorem zzSt {M : Model} {A : Around} {Q : Unit → Shared → Prop} {E : Value → Shared → Prop} {s : Shared} {x : Env} {y : Str} {v : Value} (h : wpAny M A (storeName x y v) Q E s) : wpAny M A (storeName x y v) Q E s := h
theorem zzAd {M : Model} {A : Around} {Q : Value → Shared → Prop} {E : Value → Shared → Prop} {s : Shared} {a b : Addr} (h : wpAny M A (binaryOp .Add (.ref a) (.ref b)) Q E s) : wpAny M A (binaryOp .Add (.ref a) (.ref b)) Q E s := h
theorem zzAL {M : Model} {A : Around} {Q : Flow → Shared → Prop} {E : Value → Shared → Prop} {s : Shared} {z : List PySem.Expr} {e : PySem.Expr} {g : List Comprehension} {c : Scope} {p p' : Pos} {x : Env} (h : wpAny M A (exec (Stmt.Assign z (.ListComp e g c p) p') x) Q E s) : wpAny M A (exec (Stmt.Assign z (.ListComp e g c p) p') x) Q E s := h
theorem zzAD {M : Model} {A : Around} {Q : Flow → Shared → Prop} {E : Value → Shared → Prop} {s : Shared} {z : List PySem.Expr} {e f : PySem.Expr} {g : List Comprehension} {c : Scope} {p p' : Pos} {x : Env} (h : wpAny M A (exec (Stmt.Assign z (.DictComp e f g c p) p') x) Q E s) : wpAny M A (exec (Stmt.Assign z (.DictComp e f g c p) p') x) Q E s := h
theorem zzLs {M : Model} {A : Around} {Q : Value → Shared → Prop} {E : Value → Shared → Prop} {s : Shared} {a b : Int} {t u : Tok} (h : wpAny M A (inplaceOp .LShift (.int a t) (.int b u)) Q E s) : wpAny M A (inplaceOp .LShift (.int a t) (.int b u)) Q E s := h
theorem zzCS {a : Program} {b : World} {c : Around} {d : Heap} {e : Addr} {f : Str → Option Value} {g : Env} {i : PySem.Expr} {j : Str} {k : Scope} {l : List (Str × Addr)} {m : Shared → List Value → List (Addr × Obj) → Prop} {n : Value} {o : Shared} (h : LCg.CompSrc a b c d e f g i j k l m n o) : LCg.CompSrc a b c d e f g i j k l m n o := h
-- what lies below a new thing, as one step
noncomputable def LtImp (d : Nat) : List (Addr × Obj) → Prop → Prop
  | [], C => C
  | (a, _) :: l, C => @LT.lt Nat _ a d → LtImp d l C
theorem ltTail {d : Nat} {C : Prop} : ∀ {l : List (Addr × Obj)}, (AllLt d l → C) → LtImp d l C
  | [], k => k trivial
  | _ :: _, k => fun h => ltTail fun t => k ⟨h, t⟩
theorem ltNil {d : Nat} {C : Prop} (k : C) : LtImp d [] C := k
theorem ltImp {d : Nat} {C : Prop} : ∀ {l : List (Addr × Obj)}, (∀ p ∈ l, p.1 < d) → LtImp d l C → C
  | [], _, k => k
  | (_, _) :: _, h, k => ltImp (fun q hq => h q (.tail _ hq)) (k (h _ (.head _)))
theorem fmNil {α : Type} {p : α → Prop} : ∀ x ∈ ([] : List α), p x := fun _ h => nomatch h
theorem fmCons {α : Type} {p : α → Prop} {a : α} {l : List α} (h : p a) (t : ∀ x ∈ l, p x) : ∀ x ∈ a :: l, p x := List.forall_mem_cons.mpr ⟨h, t⟩
end Mine
end
-- Nx
section
open PySem PySem.W PyProof.Rows PySem.Spec PySem.Calls
set_option compiler.extract_closed false
set_option Elab.async false
set_option maxRecDepth 100000
set_option maxHeartbeats 4000000
namespace Mine
noncomputable abbrev itObj (l : Addr) (i : Nat) : Obj := { cls := .type "list_iterator", data := .fields #[.ref l, .int i 0] }
noncomputable abbrev itEnd (i : Nat) : Obj := { cls := .type "list_iterator", data := .fields #[.none, .int i 0] }

section
variable {prog : Program} {w : World} {A : Around} {E : Value → Shared → Prop} {s : Shared} {h₀ : Heap} {L it l : Addr} {m : Str → Option Value} {news : List (Addr × Obj)} {G : Obj → List (Addr × Obj)} {i : Nat} {items : Array Value} {Q : Value → Shared → Prop}

theorem upd_at {h₀ h : Heap} {L d : Addr} {m : Str → Option Value} {news : List (Addr × Obj)} {G : Obj → List (Addr × Obj)} {o o' : Obj} {f : Obj → Obj} (F : Fr h₀ L h m) (N : News h₀ L h news) (U : UpdF d o news G) (e : f o = o') (hf : o'.isFreed = false) :
    Fr h₀ L (h.update d f) m ∧ News h₀ L (h.update d f) (G o') := by
  (first | ((first | refine Exists.elim (U.split) ?_ | refine conj_elim (U.split) ?_); rintro (pre) tmp; (first | ((first | with_reducible refine Exists.elim tmp ?_ | with_reducible refine conj_elim tmp ?_); (try clear tmp); rintro (post) tmp; (first | ((first | with_reducible refine Exists.elim tmp ?_ | with_reducible refine conj_elim tmp ?_); (try clear tmp); rintro (hl) tmp; (first | ((first | with_reducible refine Exists.elim tmp ?_ | with_reducible refine conj_elim tmp ?_); (try clear tmp); rintro (hg) tmp; (first | ((first | with_reducible refine Exists.elim tmp ?_ | with_reducible refine conj_elim tmp ?_); (try clear tmp); rintro (a) (b)) | obtain ⟨a, b⟩ := tmp)) | obtain ⟨hg, a, b⟩ := tmp)) | obtain ⟨hl, hg, a, b⟩ := tmp)) | obtain ⟨post, hl, hg, a, b⟩ := tmp)) | obtain ⟨pre, post, hl, hg, a, b⟩ := U.split)
  rw [hl] at N
  (first | ((first | refine Exists.elim (news_upd F N a b e hf) ?_ | refine conj_elim (news_upd F N a b e hf) ?_); rintro (F') (N')) | obtain ⟨F', N'⟩ := news_upd F N a b e hf)
  exact ⟨F', by rw [hg]; exact N'⟩
theorem ne_news {h₀ h : Heap} {L a b : Addr} {o o' : Obj} {news : List (Addr × Obj)} (N : News h₀ L h news) (ha : (a, o) ∈ news) (hb : (b, o') ∈ news) (hc : o.cls ≠ o'.cls) : @Ne Nat a b := fun e => by
  have h1 := (N _ ha).1
  have h2 := (N _ hb).1
  dsimp only at h1 h2
  rw [show a = b from e, h2] at h1
  cases h1
  exact hc rfl
theorem mine_ne_lt {l : List (Addr × Obj)} {d : Addr} (h : ∀ p ∈ l, p.1 < d) : ∀ p ∈ l, p.1 ≠ d := fun p hp => Nat.ne_of_lt (h p hp)
theorem mine_ne_allLt {d : Nat} : ∀ {l : List (Addr × Obj)}, AllLt d l → ∀ p ∈ l, p.1 ≠ d := by
  intro l
  induction l with
  | nil => intro _ p hp; exact absurd hp (by simp)
  | cons x l ih =>
    intro h p hp
    rcases List.mem_cons.mp hp with e | hp
    · rw [e]; exact Nat.ne_of_lt h.1
    · exact ih h.2 p hp
theorem mine_ne_off {l : List (Addr × Obj)} {adr : List Addr} {d : Addr} (h : OwnOff l adr) (hd : d ∈ adr) : ∀ p ∈ l, p.1 ≠ d := fun p hp => h p hp d hd
theorem upd_mem {d : Addr} {o : Obj} {news : List (Addr × Obj)} {G : Obj → List (Addr × Obj)} (U : UpdF d o news G) : (d, o) ∈ news := by
  (first | ((first | refine Exists.elim (U.split) ?_ | refine conj_elim (U.split) ?_); rintro (pre) tmp; (first | ((first | with_reducible refine Exists.elim tmp ?_ | with_reducible refine conj_elim tmp ?_); (try clear tmp); rintro (post) tmp; (first | ((first | with_reducible refine Exists.elim tmp ?_ | with_reducible refine conj_elim tmp ?_); (try clear tmp); rintro (hl) (_)) | obtain ⟨hl, _⟩ := tmp)) | obtain ⟨post, hl, _⟩ := tmp)) | obtain ⟨pre, post, hl, _⟩ := U.split)
  rw [hl]; exact List.mem_append_right _ (.head _)

/-- `__next__` of a list's iterator, an item -/
theorem special_item (F : Fr h₀ L s.heap m) (N : News h₀ L s.heap news) (U : UpdF it (itObj l i) news G) (hl : s.heap.IsList l items) {x : Value} (hx : items[i]? = some x)
    (h : ∀ h', Fr h₀ L h' m → News h₀ L h' (G (itObj l (i + 1))) → Q x { s with heap := h' }) :
    wpAny (model prog w) A (call (.builtin "list_iterator.__next__") [.ref it]) Q E s := by
  have ho := (N _ (upd_mem U)).1
  have hit : s.heap.IsListIter it l i := ⟨_, ho, rfl, rfl⟩
  (first | ((first | with_reducible refine Exists.elim hl ?_ | with_reducible refine conj_elim hl ?_); (try clear hl); rintro (ol) tmp; (first | ((first | with_reducible refine Exists.elim tmp ?_ | with_reducible refine conj_elim tmp ?_); (try clear tmp); rintro (hol) tmp; (first | ((first | with_reducible refine Exists.elim tmp ?_ | with_reducible refine conj_elim tmp ?_); (try clear tmp); rintro (_) tmp; (first | ((first | with_reducible refine Exists.elim tmp ?_ | with_reducible refine conj_elim tmp ?_); (try clear tmp); rintro (nl) (hdl)) | obtain ⟨nl, hdl⟩ := tmp)) | obtain ⟨_, nl, hdl⟩ := tmp)) | obtain ⟨hol, _, nl, hdl⟩ := tmp)) | obtain ⟨ol, hol, _, nl, hdl⟩ := hl)
  refine wpAny_call_entry slot_listiter_next hit.typeIs entry_listiter_next ?_ (args_listiter_next _)
  show wpAny _ _ (field (.ref it) 0 >>= _) _ _ s
  refine wpAny_bind (wpAny_field ho rfl (x := .ref l) rfl ?_)
  show wpAny _ _ (if (Value.ref l == Value.none) = true then _ else _) _ _ s
  rw [if_neg (show ¬ ((Value.ref l == Value.none) = true) from Bool.false_ne_true)]
  show wpAny _ _ (field (.ref it) 1 >>= _) _ _ s
  refine wpAny_bind (wpAny_field ho rfl (x := .int i 0) rfl ?_)
  show wpAny _ _ (seqItems? (.ref l) >>= _) _ _ s
  refine wpAny_bind (wpAny_seqItems hol hdl ?_)
  simp only [Int.toNat_natCast, hx]
  refine wpAny_bind (wpAny_setField ho rfl (by simp) (wpAny_pure ⟨x, rfl, ?_⟩))
  (first | ((first | refine Exists.elim (upd_at (f := Obj.mapFields (·.setIfInBounds 1 (rawInt ((i : Int) + 1)))) (o' := itObj l (i + 1)) F N U (by rfl) rfl) ?_ | refine conj_elim (upd_at (f := Obj.mapFields (·.setIfInBounds 1 (rawInt ((i : Int) + 1)))) (o' := itObj l (i + 1)) F N U (by rfl) rfl) ?_); rintro (F') (N')) | obtain ⟨F', N'⟩ := upd_at (f := Obj.mapFields (·.setIfInBounds 1 (rawInt ((i : Int) + 1)))) (o' := itObj l (i + 1)) F N U (by rfl) rfl)
  exact h _ F' N'

theorem special_end (hh : A.handled = none) (F : Fr h₀ L s.heap m) (N : News h₀ L s.heap news) (U : UpdF it (itObj l i) news G) (hl : s.heap.IsList l items) (hx : items[i]? = none)
    (h : ∀ h₁ h' e, Fr h₀ L h₁ m → News h₀ L h₁ (G (itEnd i)) → Heap.NewExc h₁ h' e "StopIteration" → E (.ref e) { s with heap := h' }) :
    wpAny (model prog w) A (call (.builtin "list_iterator.__next__") [.ref it]) Q E s := by
  have ho := (N _ (upd_mem U)).1
  have hit : s.heap.IsListIter it l i := ⟨_, ho, rfl, rfl⟩
  (first | ((first | with_reducible refine Exists.elim hl ?_ | with_reducible refine conj_elim hl ?_); (try clear hl); rintro (ol) tmp; (first | ((first | with_reducible refine Exists.elim tmp ?_ | with_reducible refine conj_elim tmp ?_); (try clear tmp); rintro (hol) tmp; (first | ((first | with_reducible refine Exists.elim tmp ?_ | with_reducible refine conj_elim tmp ?_); (try clear tmp); rintro (_) tmp; (first | ((first | with_reducible refine Exists.elim tmp ?_ | with_reducible refine conj_elim tmp ?_); (try clear tmp); rintro (nl) (hdl)) | obtain ⟨nl, hdl⟩ := tmp)) | obtain ⟨_, nl, hdl⟩ := tmp)) | obtain ⟨hol, _, nl, hdl⟩ := tmp)) | obtain ⟨ol, hol, _, nl, hdl⟩ := hl)
  refine wpAny_call_entry slot_listiter_next hit.typeIs entry_listiter_next ?_ (args_listiter_next _)
  show wpAny _ _ (field (.ref it) 0 >>= _) _ _ s
  refine wpAny_bind (wpAny_field ho rfl (x := .ref l) rfl ?_)
  show wpAny _ _ (if (Value.ref l == Value.none) = true then _ else _) _ _ s
  rw [if_neg (show ¬ ((Value.ref l == Value.none) = true) from Bool.false_ne_true)]
  show wpAny _ _ (field (.ref it) 1 >>= _) _ _ s
  refine wpAny_bind (wpAny_field ho rfl (x := .int i 0) rfl ?_)
  show wpAny _ _ (seqItems? (.ref l) >>= _) _ _ s
  refine wpAny_bind (wpAny_seqItems hol hdl ?_)
  simp only [Int.toNat_natCast, hx]
  refine wpAny_bind (wpAny_rule (wpAny_bind (wpAny_setField ho rfl (by simp) ?_)))
  (first | ((first | refine Exists.elim (upd_at (f := Obj.mapFields (·.setIfInBounds 0 Value.none)) (o' := itEnd i) F N U (by rfl) rfl) ?_ | refine conj_elim (upd_at (f := Obj.mapFields (·.setIfInBounds 0 Value.none)) (o' := itEnd i) F N U (by rfl) rfl) ?_); rintro (F') (N')) | obtain ⟨F', N'⟩ := upd_at (f := Obj.mapFields (·.setIfInBounds 0 Value.none)) (o' := itEnd i) F N U (by rfl) rfl)
  show wpAny _ _ (newExc (.type "StopIteration") [] >>= _) _ _ _
  refine wpAny_bind ?_
  simp only [newExc, newTuple]
  refine wpAny_bind (wpAny_newObj_type ?_ (by size_fits))
  refine wpAny_bind (m := firstArgMember _ _) (wpAny_of_eq (a := Value.none) (by first | rfl | (simp only [firstArgMember]; rfl)) ?_)
  refine wpAny_newObj_type ?_ (by size_fits)
  simp only [raiseNew]
  refine wpAny_bind (wpAny_handled ?_)
  rw [show A.in1.handled = none from hh]
  refine wpAny_bind (wpAny_pure (wpAny_throw ?_))
  refine h _ _ _ F' N' ⟨fun b o e => Heap.get?_push_of_some _ (Heap.get?_push_of_some _ e), ?_, ?_⟩
  · cases q : (Heap.update s.heap it (Obj.mapFields (·.setIfInBounds 0 Value.none))).get? _ with
    | none => rfl
    | some o =>
      have := Heap.lt_size q
      rw [Heap.size_push] at this
      exact absurd (Nat.lt_of_succ_lt this) (Nat.lt_irrefl _)
  · exact ⟨_, _, Heap.get?_push_size _ rfl, rfl, rfl⟩

theorem next_args (v : Value) : argsOk "next" ⟨[v], []⟩ := by unfold argsOk; kernel_rfl
theorem next_item (F : Fr h₀ L s.heap m) (N : News h₀ L s.heap news) (U : UpdF it (itObj l i) news G) (hl : s.heap.IsList l items) {x : Value} (hx : items[i]? = some x)
    (h : ∀ h', Fr h₀ L h' m → News h₀ L h' (G (itObj l (i + 1))) → Q x { s with heap := h' }) :
    wpAny (model prog w) A (call (.builtin "next") [.ref it]) Q E s := by
  have ho := (N _ (upd_mem U)).1
  have hit : s.heap.IsListIter it l i := ⟨_, ho, rfl, rfl⟩
  refine call_function_entry (by decide +kernel) (by decide +kernel) kdk_entry_next (next_args _) ?_
  unfold Builtin.«next»
  refine wpAny_bind (m := someArgs "next" 1 2 _) (wpAny_of_eq (a := [Value.ref it]) (by first | rfl | kernel_rfl!) ?_)
  dsimp only
  refine wpAny_bind (wpAny_specialOf (name := Str.ofString "__next__") hit.typeIs slot_listiter_next.lookup ?_)
  refine wpAny_ite_split (fun hab => absurd hab (by decide)) (fun _ => ?_)
  refine wpAny_bind (wpAny_callSpecial?_slot (name := Str.ofString "__next__") hit.typeIs slot_listiter_next ?_)
  exact special_item F N U hl hx fun h' F' N' => wpAny_pure ⟨_, rfl, h h' F' N'⟩
theorem next_end (hh : A.handled = none) (F : Fr h₀ L s.heap m) (N : News h₀ L s.heap news) (U : UpdF it (itObj l i) news G) (hl : s.heap.IsList l items) (hx : items[i]? = none)
    (h : ∀ h₁ h' e, Fr h₀ L h₁ m → News h₀ L h₁ (G (itEnd i)) → Heap.NewExc h₁ h' e "StopIteration" → E (.ref e) { s with heap := h' }) :
    wpAny (model prog w) A (call (.builtin "next") [.ref it]) Q E s := by
  have ho := (N _ (upd_mem U)).1
  have hit : s.heap.IsListIter it l i := ⟨_, ho, rfl, rfl⟩
  refine call_function_entry (by decide +kernel) (by decide +kernel) kdk_entry_next (next_args _) ?_
  unfold Builtin.«next»
  refine wpAny_bind (m := someArgs "next" 1 2 _) (wpAny_of_eq (a := [Value.ref it]) (by first | rfl | kernel_rfl!) ?_)
  dsimp only
  refine wpAny_bind (wpAny_specialOf (name := Str.ofString "__next__") hit.typeIs slot_listiter_next.lookup ?_)
  refine wpAny_ite_split (fun hab => absurd hab (by decide)) (fun _ => ?_)
  refine wpAny_bind (wpAny_callSpecial?_slot (name := Str.ofString "__next__") hit.typeIs slot_listiter_next ?_)
  exact special_end hh F N U hl hx h
theorem item_at {value slice : PySem.Expr} {n : Nat} {k : Int} {u : Tok} {x : Value} (N : News h₀ L s.heap news) (hl : (l, listOf items n) ∈ news) (h0 : 0 ≤ k) (hfit : k < 2 ^ 63) (hx : items[k.toNat]? = some x) (h : Q x s)
    (hs : subscripted slice false (.ref l) (.int k u) = operate [.ref l, .int k u] (getItem (.ref l) (.int k u)) := by with_unfolding_all rfl) (hg : ∀ r, letTemporaryGo value (.ref l) r = pure () := by intro _; with_unfolding_all rfl) :
    wpAny (model prog w) A (subscriptTail value slice (.ref l) (.int k u)) Q E s :=
  item_list ⟨_, (N _ hl).1, rfl, _, rfl⟩ h0 hfit hx h hs hg
theorem item_last {value slice : PySem.Expr} {n : Nat} {u : Tok} {x : Value} {vs : List Value} (N : News h₀ L s.heap news) (hl : (l, listOf (vs ++ [x]).toArray n) ∈ news) (h : Q x s)
    (hs : subscripted slice false (.ref l) (.int (-1) u) = operate [.ref l, .int (-1) u] (getItem (.ref l) (.int (-1) u)) := by with_unfolding_all rfl) (hg : ∀ r, letTemporaryGo value (.ref l) r = pure () := by intro _; with_unfolding_all rfl) :
    wpAny (model prog w) A (subscriptTail value slice (.ref l) (.int (-1) u)) Q E s := by
  have hL : s.heap.IsList l (vs ++ [x]).toArray := ⟨_, (N _ hl).1, rfl, _, rfl⟩
  refine subscriptTail_builtin hL.typeIs slot_list_getitem.lookup (wpAny_getItem_list_neg hL (by decide) (by simp; omega) (by decide) ?_ h) hs hg
  have : (-1 + ((vs ++ [x]).toArray.size : Int)).toNat = vs.length := by simp; omega
  rw [this]; simp
theorem slice_at {value slice : PySem.Expr} {n : Nat} {vl vu : Value} {lo hi : Option Int} {ys : List Value} (F : Fr h₀ L s.heap m) (N : News h₀ L s.heap news) (hl : (l, listOf items n) ∈ news) (pl : IsPart vl lo) (pu : IsPart vu hi) (hy : slicePick items lo hi none = ys.toArray)
    (h : ∀ (a : Addr) h', Fr h₀ L h' m → News h₀ L h' ((a, listOf ys.toArray 0) :: news) → (∀ p ∈ news, p.1 < a) → Q (.ref a) { s with heap := h' })
    (hs : subscripted slice false (.ref l) (.ref s.heap.objs.size) = operate [.ref s.heap.objs.size, .ref l] (getItem (.ref l) (.ref s.heap.objs.size)) := by with_unfolding_all rfl)
    (ht : ∀ r, letTemporaryGo value (.ref l) r = pure () := by intro _; with_unfolding_all rfl)
    (hsz : items.size ≤ sizeLine := by size_fits) :
    wpAny (model prog w) A (subscriptTail value slice (.ref l) (.ref s.heap.objs.size)) Q E { s with heap := s.heap.push { cls := .type "slice", data := .fields #[vl, vu, .none] } } :=
  slice_list F N ⟨_, (N _ hl).1, rfl, _, rfl⟩ pl pu (fun h' F' N' => h _ _ F' (hy ▸ N') fun p hp => Nat.lt_succ_of_lt (Heap.lt_size (N p hp).1)) hs ht hsz
theorem add_at {n n' : Nat} {b : Addr} {vs ws : List Value} (F : Fr h₀ L s.heap m) (N : News h₀ L s.heap news) (hl : (l, listOf vs.toArray n) ∈ news) (hb : (b, listOf ws.toArray n') ∈ news) (hsz : vs.length + ws.length ≤ 1000000)
    (h : ∀ (a : Addr) h', Fr h₀ L h' m → News h₀ L h' ((a, listOf (vs ++ ws).toArray 0) :: news) → (∀ p ∈ news, p.1 < a) → Q (.ref a) { s with heap := h' }) :
    wpAny (model prog w) A (binaryOp .Add (.ref l) (.ref b)) Q E s :=
  add_lists F N ⟨_, (N _ hl).1, rfl, _, rfl⟩ ⟨_, (N _ hb).1, rfl, _, rfl⟩ (fun h' F' N' => h _ _ F' N' fun p hp => Heap.lt_size (N p hp).1) (by rw [sizeLine_eq]; omega)
theorem iter_list {n : Nat} (F : Fr h₀ L s.heap m) (N : News h₀ L s.heap news) (hl : (l, listOf items n) ∈ news)
    (h : ∀ (I : Addr) h', Fr h₀ L h' m → News h₀ L h' ((I, itObj l 0) :: news) → (∀ p ∈ news, p.1 < I) → Q (.ref I) { s with heap := h' }) :
    wpAny (model prog w) A (call (.builtin "iter") [.ref l]) Q E s := by
  refine call_function_entry (by decide +kernel) (by decide +kernel) kdk_entry_iter (kdk_args_iter _) ?_
  unfold Builtin.«iter»
  refine wpAny_bind (m := someArgs "iter" 1 2 _) (wpAny_of_eq (a := [Value.ref l]) (by first | rfl | kernel_rfl!) ?_)
  show wpAny _ _ (pyIter (.ref l) >>= _) _ _ _
  refine wpAny_bind (wpAny_pyIter_list ⟨_, (N _ hl).1, rfl, _, rfl⟩ ?_)
  exact wpAny_pure ⟨_, rfl, h _ _ (F.push _) (News.push F N _ rfl) (fun q hq => Heap.lt_size (N q hq).1)⟩
end
end Mine
end
-- Lp
section
open PySem PySem.W PyProof.Rows PySem.Spec PySem.Calls
set_option compiler.extract_closed false
set_option Elab.async false
set_option maxRecDepth 100000
set_option maxHeartbeats 4000000
namespace Mine
section
variable {prog : Program} {w : World} {A : Around} {E : Value → Shared → Prop} {s : Shared} {env : Env} {Q : Flow → Shared → Prop} {test iter target : PySem.Expr} {body orelse : List Stmt} {pos : Pos}

noncomputable def WStep (I : Nat → Shared → Prop) (Q : Flow → Shared → Prop) (n : Nat) (f : Flow) (s₃ : Shared) : Prop := match f with
  | .next | .cont => ∃ m, m < n ∧ I m s₃
  | .brk => Q .next s₃
  | .ret v => Q (.ret v) s₃
theorem While_gen (I : Nat → Shared → Prop)
    (turn : ∀ n s, I n s → ∀ Q' : Flow → Shared → Prop, (∀ f s₃, WStep I Q n f s₃ → Q' f s₃) → wpAny (model prog w) A (isTrue test env (eval test env)) (fun b s₂ => if b = true then wpAny (model prog w) A (execs body env) Q' E s₂ else wpAny (model prog w) A (execs orelse env) Q E s₂) E s)
    (n : Nat) (h : I n s) (hE : PassesOwn (model prog w) A env E := by passes_own) : wpAny (model prog w) A (exec (.While test body orelse pos) env) Q E s := by
  refine wpAny_While (codeAny_whileLoop I (fun n s hI => ?_) n h)
  refine wpAny_mono (turn n s hI _ (fun _ _ x => x)) (fun b s₂ h₂ => ?_) hE
  cases b with
  | false =>
    simp only [Bool.false_eq_true, if_false] at h₂ ⊢
    exact wpAny_mono h₂ (fun _ _ x => x) hE
  | true =>
    simp only [if_true] at h₂ ⊢
    refine wpAny_mono h₂ (fun f s₃ h₃ => ?_) hE
    cases f <;> exact h₃

noncomputable def ForTurns (prog : Program) (w : World) (A : Around) (env : Env) (target : PySem.Expr) (body : List Stmt) (Q : Flow → Shared → Prop) (E : Value → Shared → Prop) (it : Value) (s : Shared) : Prop :=
  ∃ (I : Nat → Shared → Prop) (n : Nat), I n s ∧ ∀ n s, I n s → wpAny (model prog w) A (pyNext it) (fun r s₁ => match r with
    | none => Q .next s₁
    | some v => wpAny (model prog w) A (assign target env v) (fun _ s₂ => wpAny (model prog w) A (execs body env) (WStep I Q n) E s₂) E s₁) E s

theorem For_gen (h : wpAny (model prog w) A (eval iter env) (fun xv s₁ => wpAny (model prog w) A (pyIter xv) (fun it s₂ => ForTurns prog w A env target body Q E it s₂) E s₁) E s)
    (hs : ∀ x, foldedSetIterable iter env x = pure x := by intro _; rfl) (ht : ∀ it v, letOwnedTupleGo target it v = pure () := by intro _ _; rfl) (hE : PassesOwn (model prog w) A env E := by passes_own) :
    wpAny (model prog w) A (exec (.For target iter body [] pos) env) Q E s := by
  rw [exec_For]
  refine wpAny_bind (wpAny_standAt (wpAny_bind (wpAny_mono h (fun xv s₁ h₁ => ?_) fun _ _ x => x)))
  refine wpAny_bind (wpAny_of_eq (hs xv) ?_)
  refine wpAny_bind (wpAny_standAt (wpAny_bind (wpAny_holding (wpAny_mono h₁ (fun it s₂ h₂ => ?_) fun _ _ x => x))))
  (first | ((first | with_reducible refine Exists.elim h₂ ?_ | with_reducible refine conj_elim h₂ ?_); (try clear h₂); rintro (I) tmp; (first | ((first | with_reducible refine Exists.elim tmp ?_ | with_reducible refine conj_elim tmp ?_); (try clear tmp); rintro (n) tmp; (first | ((first | with_reducible refine Exists.elim tmp ?_ | with_reducible refine conj_elim tmp ?_); (try clear tmp); rintro (hI) (turn)) | obtain ⟨hI, turn⟩ := tmp)) | obtain ⟨n, hI, turn⟩ := tmp)) | obtain ⟨I, n, hI, turn⟩ := h₂)
  refine wpAny_runOwn (codeAny_forLoop I (fun n s hI => ?_) n hI (ht it))
  refine wpAny_mono (turn n s hI) (fun r s₁ h₁ => ?_) hE
  cases r with
  | none => exact wpAny_execs_nil h₁
  | some v =>
    refine wpAny_mono h₁ (fun _ s₂ h₂ => ?_) hE
    refine wpAny_mono h₂ (fun f s₃ h₃ => ?_) hE
    cases f <;> exact h₃

/-- a for over a list's iterator; the ground may turn -/
noncomputable def FStep (s : Shared) (L it l : Addr) (J : Nat → Heap → (Str → Option Value) → List (Addr × Obj) → Prop) (Q : Flow → Shared → Prop) (i : Nat) (f : Flow) (s₃ : Shared) : Prop := match f with
  | .next | .cont => Ex5 fun g h tk m nw => All4 (s₃ = { s with heap := h, toks := tk }) (Fr g L h m) (News g L h ((it, itObj l (i + 1)) :: nw)) (J (i + 1) g m nw)
  | .brk => Q .next s₃
  | .ret v => Q (.ret v) s₃

theorem ext_fr {g h h' : Heap} {L it : Addr} {m : Str → Option Value} {nw : List (Addr × Obj)} {o : Obj} (F : Fr g L h m) (N : News g L h ((it, o) :: nw)) (hne : ∀ p ∈ nw, p.1 ≠ it) (hx : Heap.ExtBut it h h') : Fr g L h' m ∧ News g L h' nw := by
  have hI := N _ (.head _)
  (first | ((first | refine Exists.elim (F.ns) ?_ | refine conj_elim (F.ns) ?_); rintro (oL) tmp; (first | ((first | with_reducible refine Exists.elim tmp ?_ | with_reducible refine conj_elim tmp ?_); (try clear tmp); rintro (a1) tmp; (first | ((first | with_reducible refine Exists.elim tmp ?_ | with_reducible refine conj_elim tmp ?_); (try clear tmp); rintro (a2) tmp; (first | ((first | with_reducible refine Exists.elim tmp ?_ | with_reducible refine conj_elim tmp ?_); (try clear tmp); rintro (hoL) (a3)) | obtain ⟨hoL, a3⟩ := tmp)) | obtain ⟨a2, hoL, a3⟩ := tmp)) | obtain ⟨a1, a2, hoL, a3⟩ := tmp)) | obtain ⟨oL, a1, a2, hoL, a3⟩ := F.ns)
  refine ⟨⟨⟨oL, a1, a2, hx _ _ (Ne.symm hI.2.1) hoL, a3⟩, fun b o e => hx _ _ (fun q => ?_) (F.keep b o e), F.above⟩, fun p hp => ⟨hx _ _ (hne p hp) (N p (.tail _ hp)).1, (N p (.tail _ hp)).2⟩⟩
  have := hI.2.2
  dsimp only at this
  rw [← q, e] at this
  cases this

theorem pynext_item {h₀ : Heap} {L it l : Addr} {m : Str → Option Value} {news : List (Addr × Obj)} {G : Obj → List (Addr × Obj)} {i : Nat} {items : Array Value} {Q : Option Value → Shared → Prop}
    (F : Fr h₀ L s.heap m) (N : News h₀ L s.heap news) (U : UpdF it (itObj l i) news G) (hl : s.heap.IsList l items) {x : Value} (hx : items[i]? = some x)
    (h : ∀ h', Fr h₀ L h' m → News h₀ L h' (G (itObj l (i + 1))) → Q (some x) { s with heap := h' }) :
    wpAny (model prog w) A (pyNext (.ref it)) Q E s := by
  have hit : s.heap.IsListIter it l i := ⟨_, (N _ (upd_mem U)).1, rfl, rfl⟩
  unfold pyNext
  refine wpAny_bind (wpAny_attempt (wpAny_callSpecial?_slot (name := Str.ofString "__next__") hit.typeIs slot_listiter_next ?_))
  exact special_item F N U hl hx fun h' F' N' => wpAny_pure (h h' F' N')
theorem turns_list {L it l : Addr} {items : Array Value} (J : Nat → Heap → (Str → Option Value) → List (Addr × Obj) → Prop) {g₀ : Heap} {m₀ : Str → Option Value} {nw₀ : List (Addr × Obj)} {i₀ : Nat} (hh : A.handled = none)
    (hok : ∀ i g m nw, J i g m nw → (∃ k, (l, listOf items k) ∈ nw) ∧ ∀ p ∈ nw, p.1 ≠ it)
    (F : Fr g₀ L s.heap m₀) (N : News g₀ L s.heap ((it, itObj l i₀) :: nw₀)) (hJ : J i₀ g₀ m₀ nw₀) (hi : i₀ ≤ items.size)
    (turn : ∀ i g m nw h tk v, J i g m nw → items[i]? = some v → Fr g L h m → News g L h ((it, itObj l (i + 1)) :: nw) → (∀ p ∈ nw, p.1 ≠ it) →
      ∀ Q' : Flow → Shared → Prop, (∀ f s₃, FStep s L it l J Q i f s₃ → Q' f s₃) → wpAny (model prog w) A (assign target env v) (fun _ s₂ => wpAny (model prog w) A (execs body env) Q' E s₂) E { s with heap := h, toks := tk })
    (done : ∀ g m nw h tk, J items.size g m nw → Fr g L h m → News g L h nw → Q .next { s with heap := h, toks := tk }) :
    ForTurns prog w A env target body Q E (.ref it) s := by
  refine ⟨fun n s' => Ex6 fun i g m nw h tk => All6 (n = items.size - i) (i ≤ items.size) (s' = { s with heap := h, toks := tk }) (Fr g L h m) (News g L h ((it, itObj l i) :: nw)) (J i g m nw), items.size - i₀, ⟨i₀, g₀, m₀, nw₀, s.heap, s.toks, rfl, hi, rfl, F, N, hJ⟩, ?_⟩
  rintro n s' ⟨i, g, m, nw, h, tk, rfl, hle, rfl, F₁, N₁, J₁⟩
  (first | ((first | refine Exists.elim (hok _ _ _ _ J₁) ?_ | refine conj_elim (hok _ _ _ _ J₁) ?_); rintro (⟨k, hl⟩) (hne)) | obtain ⟨⟨k, hl⟩, hne⟩ := hok _ _ _ _ J₁)
  have hIt : h.IsListIter it l i := ⟨_, (N₁ _ (.head _)).1, rfl, rfl⟩
  have hLs : h.IsList l items := ⟨_, (N₁ _ (.tail _ hl)).1, rfl, _, rfl⟩
  cases hx : items[i]? with
  | none =>
    have hi' : i = items.size := by
      have : items.size ≤ i := by simpa using hx
      omega
    subst hi'
    refine wpAny_pyNext_list_end hh hIt hLs hx (fun h' hxb => ?_)
    (first | ((first | refine Exists.elim (ext_fr F₁ N₁ hne hxb) ?_ | refine conj_elim (ext_fr F₁ N₁ hne hxb) ?_); rintro (F₂) (N₂)) | obtain ⟨F₂, N₂⟩ := ext_fr F₁ N₁ hne hxb)
    exact done g m nw h' tk J₁ F₂ N₂
  | some v =>
    have hlt : i < items.size := by
      cases Nat.lt_or_ge i items.size with
      | inl h => exact h
      | inr h => rw [Array.getElem?_eq_none h] at hx; cases hx
    refine pynext_item F₁ N₁ (UpdF.head hne) hLs hx (fun h' F₂ N₂ => ?_)
    refine wpAny_mono (turn i g m nw h' tk v J₁ hx F₂ N₂ hne _ (fun _ _ x => x)) (fun _ s₂ h₂ => ?_) fun _ _ x => x
    refine wpAny_mono h₂ (fun f s₃ h₃ => ?_) fun _ _ x => x
    cases f with
    | next =>
      (first | ((first | with_reducible refine Exists.elim h₃ ?_ | with_reducible refine conj_elim h₃ ?_); (try clear h₃); rintro (g') tmp; (first | ((first | with_reducible refine Exists.elim tmp ?_ | with_reducible refine conj_elim tmp ?_); (try clear tmp); rintro (h'') tmp; (first | ((first | with_reducible refine Exists.elim tmp ?_ | with_reducible refine conj_elim tmp ?_); (try clear tmp); rintro (tk') tmp; (first | ((first | with_reducible refine Exists.elim tmp ?_ | with_reducible refine conj_elim tmp ?_); (try clear tmp); rintro (m') tmp; (first | ((first | with_reducible refine Exists.elim tmp ?_ | with_reducible refine conj_elim tmp ?_); (try clear tmp); rintro (nw') tmp; (first | ((first | with_reducible refine Exists.elim tmp ?_ | with_reducible refine conj_elim tmp ?_); (try clear tmp); rintro (rfl) tmp; (first | ((first | with_reducible refine Exists.elim tmp ?_ | with_reducible refine conj_elim tmp ?_); (try clear tmp); rintro (F') tmp; (first | ((first | with_reducible refine Exists.elim tmp ?_ | with_reducible refine conj_elim tmp ?_); (try clear tmp); rintro (N') (J')) | obtain ⟨N', J'⟩ := tmp)) | obtain ⟨F', N', J'⟩ := tmp)) | obtain ⟨rfl, F', N', J'⟩ := tmp)) | obtain ⟨nw', rfl, F', N', J'⟩ := tmp)) | obtain ⟨m', nw', rfl, F', N', J'⟩ := tmp)) | obtain ⟨tk', m', nw', rfl, F', N', J'⟩ := tmp)) | obtain ⟨h'', tk', m', nw', rfl, F', N', J'⟩ := tmp)) | obtain ⟨g', h'', tk', m', nw', rfl, F', N', J'⟩ := h₃)
      exact ⟨items.size - (i + 1), by omega, i + 1, g', m', nw', h'', tk', rfl, hlt, rfl, F', N', J'⟩
    | cont =>
      (first | ((first | with_reducible refine Exists.elim h₃ ?_ | with_reducible refine conj_elim h₃ ?_); (try clear h₃); rintro (g') tmp; (first | ((first | with_reducible refine Exists.elim tmp ?_ | with_reducible refine conj_elim tmp ?_); (try clear tmp); rintro (h'') tmp; (first | ((first | with_reducible refine Exists.elim tmp ?_ | with_reducible refine conj_elim tmp ?_); (try clear tmp); rintro (tk') tmp; (first | ((first | with_reducible refine Exists.elim tmp ?_ | with_reducible refine conj_elim tmp ?_); (try clear tmp); rintro (m') tmp; (first | ((first | with_reducible refine Exists.elim tmp ?_ | with_reducible refine conj_elim tmp ?_); (try clear tmp); rintro (nw') tmp; (first | ((first | with_reducible refine Exists.elim tmp ?_ | with_reducible refine conj_elim tmp ?_); (try clear tmp); rintro (rfl) tmp; (first | ((first | with_reducible refine Exists.elim tmp ?_ | with_reducible refine conj_elim tmp ?_); (try clear tmp); rintro (F') tmp; (first | ((first | with_reducible refine Exists.elim tmp ?_ | with_reducible refine conj_elim tmp ?_); (try clear tmp); rintro (N') (J')) | obtain ⟨N', J'⟩ := tmp)) | obtain ⟨F', N', J'⟩ := tmp)) | obtain ⟨rfl, F', N', J'⟩ := tmp)) | obtain ⟨nw', rfl, F', N', J'⟩ := tmp)) | obtain ⟨m', nw', rfl, F', N', J'⟩ := tmp)) | obtain ⟨tk', m', nw', rfl, F', N', J'⟩ := tmp)) | obtain ⟨h'', tk', m', nw', rfl, F', N', J'⟩ := tmp)) | obtain ⟨g', h'', tk', m', nw', rfl, F', N', J'⟩ := h₃)
      exact ⟨items.size - (i + 1), by omega, i + 1, g', m', nw', h'', tk', rfl, hlt, rfl, F', N', J'⟩
    | brk => exact h₃
    | ret v => exact h₃
end
end Mine
end
-- Re
section
open PySem PySem.W PyProof.Rows PySem.Spec PySem.Calls
set_option Elab.async false
namespace Mine
theorem re0 {α : Type} {x0 x1 x2 x3 : α} {A0 A1 : List α} : ∀ q ∈ (x0 :: (x1 :: (x2 :: (A0 ++ (x3 :: A1))))), q ∈ (x3 :: (x0 :: (x1 :: (x2 :: (A0 ++ A1))))) := sub_cons (.tail _ (.head _)) (sub_cons (.tail _ (.tail _ (.head _))) (sub_cons (.tail _ (.tail _ (.tail _ (.head _)))) (sub_app (sub_tail (sub_tail (sub_tail (sub_tail (sub_left (sub_self)))))) (sub_cons (.head _) (sub_tail (sub_tail (sub_tail (sub_tail (sub_right (sub_self))))))))))
theorem re1 {α : Type} {x0 x1 x2 x3 : α} {A0 A1 : List α} : ∀ q ∈ (x0 :: (x1 :: (x2 :: (A0 ++ A1)))), q ∈ (x0 :: (x1 :: (x2 :: (A0 ++ (x3 :: A1))))) := sub_cons (.head _) (sub_cons (.tail _ (.head _)) (sub_cons (.tail _ (.tail _ (.head _))) (sub_app (sub_tail (sub_tail (sub_tail (sub_left (sub_self))))) (sub_tail (sub_tail (sub_tail (sub_right (sub_tail sub_self))))))))
theorem re2 {α : Type} {x0 x1 x2 x3 : α} {A0 A1 : List α} : ∀ q ∈ (x0 :: (x1 :: (x2 :: (x3 :: (A0 ++ A1))))), q ∈ (x1 :: (x2 :: (x3 :: (A0 ++ (x0 :: A1))))) := sub_cons (.tail _ (.tail _ (.tail _ (in_right (.head _))))) (sub_cons (.head _) (sub_cons (.tail _ (.head _)) (sub_cons (.tail _ (.tail _ (.head _))) (sub_app (sub_tail (sub_tail (sub_tail (sub_left (sub_self))))) (sub_tail (sub_tail (sub_tail (sub_right (sub_tail sub_self)))))))))
theorem re3 {α : Type} {x0 x1 x2 x3 x4 : α} {A0 A1 : List α} : ∀ q ∈ (x0 :: (x1 :: (x2 :: (x3 :: (x4 :: (A0 ++ A1)))))), q ∈ (x1 :: (x2 :: (x3 :: (x4 :: (A0 ++ (x0 :: A1)))))) := sub_cons (.tail _ (.tail _ (.tail _ (.tail _ (in_right (.head _)))))) (sub_cons (.head _) (sub_cons (.tail _ (.head _)) (sub_cons (.tail _ (.tail _ (.head _))) (sub_cons (.tail _ (.tail _ (.tail _ (.head _)))) (sub_app (sub_tail (sub_tail (sub_tail (sub_tail (sub_left (sub_self)))))) (sub_tail (sub_tail (sub_tail (sub_tail (sub_right (sub_tail sub_self)))))))))))
theorem re4 {α : Type} {x0 x1 x2 x3 x4 : α} {A0 A1 : List α} : ∀ q ∈ (x0 :: (x1 :: (x2 :: (x3 :: (A0 ++ (x4 :: A1)))))), q ∈ (x4 :: (x0 :: (x1 :: (x2 :: (x3 :: (A0 ++ A1)))))) := sub_cons (.tail _ (.head _)) (sub_cons (.tail _ (.tail _ (.head _))) (sub_cons (.tail _ (.tail _ (.tail _ (.head _)))) (sub_cons (.tail _ (.tail _ (.tail _ (.tail _ (.head _))))) (sub_app (sub_tail (sub_tail (sub_tail (sub_tail (sub_tail (sub_left (sub_self))))))) (sub_cons (.head _) (sub_tail (sub_tail (sub_tail (sub_tail (sub_tail (sub_right (sub_self))))))))))))
theorem re5 {α : Type} {x0 x1 x2 x3 x4 : α} {A0 A1 : List α} : ∀ q ∈ (x0 :: (x1 :: (x2 :: (x3 :: (A0 ++ A1))))), q ∈ (x0 :: (x1 :: (x2 :: (x3 :: (A0 ++ (x4 :: A1)))))) := sub_cons (.head _) (sub_cons (.tail _ (.head _)) (sub_cons (.tail _ (.tail _ (.head _))) (sub_cons (.tail _ (.tail _ (.tail _ (.head _)))) (sub_app (sub_tail (sub_tail (sub_tail (sub_tail (sub_left (sub_self)))))) (sub_tail (sub_tail (sub_tail (sub_tail (sub_right (sub_tail sub_self))))))))))
theorem re6 {α : Type} {x0 x1 x2 x3 x4 x5 : α} {A0 A1 : List α} : ∀ q ∈ (x0 :: (x1 :: (x2 :: (x3 :: (A0 ++ (x4 :: (x5 :: A1))))))), q ∈ (x4 :: (x0 :: (x1 :: (x2 :: (x3 :: (A0 ++ (x5 :: A1))))))) := sub_cons (.tail _ (.head _)) (sub_cons (.tail _ (.tail _ (.head _))) (sub_cons (.tail _ (.tail _ (.tail _ (.head _)))) (sub_cons (.tail _ (.tail _ (.tail _ (.tail _ (.head _))))) (sub_app (sub_tail (sub_tail (sub_tail (sub_tail (sub_tail (sub_left (sub_self))))))) (sub_cons (.head _) (sub_tail (sub_tail (sub_tail (sub_tail (sub_tail (sub_right (sub_self))))))))))))
theorem re7 {α : Type} {x0 x1 x2 x3 x4 x5 : α} {A0 A1 : List α} : ∀ q ∈ (x0 :: (x1 :: (x2 :: (x3 :: (x4 :: (A0 ++ (x5 :: A1))))))), q ∈ (x1 :: (x2 :: (x3 :: (x4 :: (A0 ++ (x0 :: (x5 :: A1))))))) := sub_cons (.tail _ (.tail _ (.tail _ (.tail _ (in_right (.head _)))))) (sub_cons (.head _) (sub_cons (.tail _ (.head _)) (sub_cons (.tail _ (.tail _ (.head _))) (sub_cons (.tail _ (.tail _ (.tail _ (.head _)))) (sub_app (sub_tail (sub_tail (sub_tail (sub_tail (sub_left (sub_self)))))) (sub_tail (sub_tail (sub_tail (sub_tail (sub_right (sub_tail sub_self)))))))))))
theorem re8 {α : Type} {x0 x1 x2 x3 : α} {A0 : List α} : ∀ q ∈ (x0 :: (x1 :: (x2 :: (x3 :: A0)))), q ∈ (x3 :: (x2 :: (x1 :: (x0 :: A0)))) := sub_cons (.tail _ (.tail _ (.tail _ (.head _)))) (sub_cons (.tail _ (.tail _ (.head _))) (sub_cons (.tail _ (.head _)) (sub_cons (.head _) (sub_tail (sub_tail (sub_tail (sub_tail sub_self)))))))
theorem re9 {α : Type} {x0 x1 x2 x3 x4 : α} {A0 : List α} : ∀ q ∈ (x0 :: (x1 :: (x2 :: (x3 :: (x4 :: A0))))), q ∈ (x4 :: (x0 :: (x1 :: (x2 :: (x3 :: A0))))) := sub_cons (.tail _ (.head _)) (sub_cons (.tail _ (.tail _ (.head _))) (sub_cons (.tail _ (.tail _ (.tail _ (.head _)))) (sub_cons (.tail _ (.tail _ (.tail _ (.tail _ (.head _))))) (sub_cons (.head _) (sub_tail (sub_tail (sub_tail (sub_tail (sub_tail sub_self)))))))))
theorem re10 {α : Type} {x0 x1 x2 x3 x4 : α} {A0 : List α} : ∀ q ∈ (x0 :: (x1 :: (x2 :: (x3 :: (x4 :: A0))))), q ∈ (x1 :: (x2 :: (x3 :: (x4 :: (x0 :: A0))))) := sub_cons (.tail _ (.tail _ (.tail _ (.tail _ (.head _))))) (sub_cons (.head _) (sub_cons (.tail _ (.head _)) (sub_cons (.tail _ (.tail _ (.head _))) (sub_cons (.tail _ (.tail _ (.tail _ (.head _)))) (sub_tail (sub_tail (sub_tail (sub_tail (sub_tail sub_self)))))))))
theorem re11 {α : Type} {x0 x1 x2 x3 x4 x5 x6 : α} {A0 A1 : List α} : ∀ q ∈ (x0 :: (x1 :: (x2 :: (x3 :: ((x4 :: (x5 :: A0)) ++ (x6 :: A1)))))), q ∈ (x5 :: (x4 :: (x0 :: (x1 :: (x2 :: (x3 :: (A0 ++ (x6 :: A1)))))))) := sub_cons (.tail _ (.tail _ (.head _))) (sub_cons (.tail _ (.tail _ (.tail _ (.head _)))) (sub_cons (.tail _ (.tail _ (.tail _ (.tail _ (.head _))))) (sub_cons (.tail _ (.tail _ (.tail _ (.tail _ (.tail _ (.head _)))))) (sub_app (sub_cons (.tail _ (.head _)) (sub_cons (.head _) (sub_tail (sub_tail (sub_tail (sub_tail (sub_tail (sub_tail (sub_left (sub_self)))))))))) (sub_tail (sub_tail (sub_tail (sub_tail (sub_tail (sub_tail (sub_right (sub_self))))))))))))
theorem re12 {α : Type} {x0 x1 x2 x3 x4 x5 : α} {A0 A1 : List α} : ∀ q ∈ (x0 :: (x1 :: (x2 :: (x3 :: (A0 ++ (x4 :: (x5 :: A1))))))), q ∈ ((x1 :: (x2 :: (x3 :: (A0 ++ (x4 :: (x5 :: A1)))))) ++ (x0 :: [])) := sub_cons (in_right (.head _)) (sub_left (sub_self))
theorem re13 {α : Type} {x0 x1 x2 x3 x4 x5 : α} {A0 A1 A2 : List α} : ∀ q ∈ (x0 :: (x1 :: (x2 :: (x3 :: (A0 ++ (x4 :: (x5 :: (A1 ++ A2)))))))), q ∈ (x0 :: (x3 :: (x1 :: (x2 :: (A0 ++ (x4 :: (x5 :: (A1 ++ A2)))))))) := sub_cons (.head _) (sub_cons (.tail _ (.tail _ (.head _))) (sub_cons (.tail _ (.tail _ (.tail _ (.head _)))) (sub_cons (.tail _ (.head _)) (sub_tail (sub_tail (sub_tail (sub_tail sub_self)))))))
theorem re14 {α : Type} {x0 x1 x2 x3 x4 x5 : α} {A0 A1 A2 : List α} : ∀ q ∈ (x0 :: (x1 :: (x2 :: (x3 :: (x4 :: (x5 :: (A0 ++ (A1 ++ A2)))))))), q ∈ (x2 :: (x4 :: (x5 :: (x3 :: (A0 ++ (x0 :: (x1 :: (A1 ++ A2)))))))) := sub_cons (.tail _ (.tail _ (.tail _ (.tail _ (in_right (.head _)))))) (sub_cons (.tail _ (.tail _ (.tail _ (.tail _ (in_right (.tail _ (.head _))))))) (sub_cons (.head _) (sub_cons (.tail _ (.tail _ (.tail _ (.head _)))) (sub_cons (.tail _ (.head _)) (sub_cons (.tail _ (.tail _ (.head _))) (sub_app (sub_tail (sub_tail (sub_tail (sub_tail (sub_left (sub_self)))))) (sub_tail (sub_tail (sub_tail (sub_tail (sub_right (sub_tail (sub_tail sub_self)))))))))))))
theorem re15 {α : Type} {x0 x1 x2 x3 x4 x5 x6 : α} {A0 A1 A2 : List α} : ∀ q ∈ (x0 :: (x1 :: (A0 ++ A1))), q ∈ (x0 :: (x1 :: (x2 :: (x3 :: (x4 :: (x5 :: (x6 :: (A2 ++ (A0 ++ A1))))))))) := sub_cons (.head _) (sub_cons (.tail _ (.head _)) (sub_tail (sub_tail (sub_tail (sub_tail (sub_tail (sub_tail (sub_tail (sub_right (sub_self))))))))))
theorem re16 {α : Type} {x0 x1 x2 x3 x4 x5 : α} {A0 A1 A2 : List α} : ∀ q ∈ (x0 :: (x1 :: (x2 :: (x3 :: (A0 ++ []))))), q ∈ (x4 :: (x5 :: (x0 :: (x1 :: (x2 :: (x3 :: (A0 ++ (A1 ++ A2)))))))) := sub_cons (.tail _ (.tail _ (.head _))) (sub_cons (.tail _ (.tail _ (.tail _ (.head _)))) (sub_cons (.tail _ (.tail _ (.tail _ (.tail _ (.head _))))) (sub_cons (.tail _ (.tail _ (.tail _ (.tail _ (.tail _ (.head _)))))) (sub_app (sub_tail (sub_tail (sub_tail (sub_tail (sub_tail (sub_tail (sub_left (sub_self)))))))) (sub_nil)))))
theorem re17 {α : Type} {x0 x1 x2 x3 x4 x5 : α} {A0 A1 A2 : List α} : ∀ q ∈ (x0 :: (x1 :: (A0 ++ A1))), q ∈ (x0 :: (x1 :: (x2 :: (x3 :: (x4 :: (x5 :: (A2 ++ (A0 ++ A1)))))))) := sub_cons (.head _) (sub_cons (.tail _ (.head _)) (sub_tail (sub_tail (sub_tail (sub_tail (sub_tail (sub_tail (sub_right (sub_self)))))))))
theorem re18 {α : Type} {x0 x1 x2 x3 x4 x5 x6 : α} {A0 A1 A2 : List α} : ∀ q ∈ (x0 :: (x1 :: ((x2 :: (x3 :: (x4 :: (x5 :: (x6 :: A0))))) ++ (A1 ++ A2)))), q ∈ ((x3 :: (x4 :: (x5 :: (x6 :: (A0 ++ (x2 :: [])))))) ++ (x0 :: (x1 :: (A1 ++ A2)))) := sub_cons (in_right (.head _)) (sub_cons (in_right (.tail _ (.head _))) (sub_app (sub_cons (in_left (.tail _ (.tail _ (.tail _ (.tail _ (in_right (.head _))))))) (sub_cons (in_left (.head _)) (sub_cons (in_left (.tail _ (.head _))) (sub_cons (in_left (.tail _ (.tail _ (.head _)))) (sub_cons (in_left (.tail _ (.tail _ (.tail _ (.head _))))) (sub_left (sub_tail (sub_tail (sub_tail (sub_tail (sub_left (sub_self)))))))))))) (sub_right (sub_tail (sub_tail sub_self)))))
theorem re19 {α : Type} {x0 x1 x2 x3 x4 : α} {A0 : List α} : ∀ q ∈ (x0 :: (x1 :: (x2 :: (x3 :: (x4 :: A0))))), q ∈ (x1 :: (x2 :: (x3 :: (x4 :: (A0 ++ (x0 :: [])))))) := sub_cons (.tail _ (.tail _ (.tail _ (.tail _ (in_right (.head _)))))) (sub_cons (.head _) (sub_cons (.tail _ (.head _)) (sub_cons (.tail _ (.tail _ (.head _))) (sub_cons (.tail _ (.tail _ (.tail _ (.head _)))) (sub_tail (sub_tail (sub_tail (sub_tail (sub_left (sub_self))))))))))
theorem re20 {α : Type} {x0 x1 x2 x3 x4 x5 : α} {A0 A1 A2 A3 : List α} : ∀ q ∈ (x0 :: (x1 :: (x2 :: (x3 :: (x4 :: (A0 ++ (A1 ++ (A2 ++ A3)))))))), q ∈ (x0 :: (x1 :: (x2 :: (x3 :: (x5 :: (x4 :: (A0 ++ (A1 ++ (A2 ++ A3))))))))) := sub_cons (.head _) (sub_cons (.tail _ (.head _)) (sub_cons (.tail _ (.tail _ (.head _))) (sub_cons (.tail _ (.tail _ (.tail _ (.head _)))) (sub_tail (sub_tail (sub_tail (sub_tail (sub_tail sub_self))))))))
theorem re21 {α : Type} {x0 x1 x2 x3 x4 x5 : α} {A0 A1 A2 A3 A4 : List α} : ∀ q ∈ (x0 :: (x1 :: (x2 :: (x3 :: (x4 :: (x5 :: ((A0 ++ A1) ++ (A2 ++ (A3 ++ A4))))))))), q ∈ ((A0 ++ (x4 :: [])) ++ (x0 :: (x1 :: (x2 :: (x3 :: (x5 :: (A1 ++ (A2 ++ (A3 ++ A4))))))))) := sub_cons (in_right (.head _)) (sub_cons (in_right (.tail _ (.head _))) (sub_cons (in_right (.tail _ (.tail _ (.head _)))) (sub_cons (in_right (.tail _ (.tail _ (.tail _ (.head _))))) (sub_cons (in_left (in_right (.head _))) (sub_cons (in_right (.tail _ (.tail _ (.tail _ (.tail _ (.head _)))))) (sub_app (sub_app (sub_left (sub_left (sub_self))) (sub_right (sub_tail (sub_tail (sub_tail (sub_tail (sub_tail (sub_left (sub_self))))))))) (sub_right (sub_tail (sub_tail (sub_tail (sub_tail (sub_tail (sub_right (sub_self))))))))))))))
theorem re22 {α : Type} {x0 x1 x2 : α} {A0 A1 A2 A3 : List α} : ∀ q ∈ (A0 ++ (A1 ++ A2)), q ∈ (x0 :: (x1 :: (x2 :: (A0 ++ (A3 ++ (A1 ++ A2)))))) := sub_app (sub_tail (sub_tail (sub_tail (sub_left (sub_self))))) (sub_tail (sub_tail (sub_tail (sub_right (sub_right (sub_self))))))
theorem re23 {α : Type} {x0 x1 x2 : α} {A0 A1 A2 : List α} : ∀ q ∈ (x0 :: (x1 :: (x2 :: (A0 ++ (A1 ++ A2))))), q ∈ (x1 :: (x2 :: (x0 :: (A0 ++ (A1 ++ A2))))) := sub_cons (.tail _ (.tail _ (.head _))) (sub_cons (.head _) (sub_cons (.tail _ (.head _)) (sub_tail (sub_tail (sub_tail sub_self)))))
theorem re24 {α : Type} {x0 x1 x2 x3 x4 x5 x6 : α} {A0 A1 A2 : List α} : ∀ q ∈ (x0 :: (x1 :: (x2 :: (x3 :: (x4 :: (x5 :: (x6 :: (A0 ++ (A1 ++ A2))))))))), q ∈ (x0 :: (x1 :: ((x2 :: (x3 :: (x4 :: (x5 :: (x6 :: A0))))) ++ (A1 ++ A2)))) := sub_cons (.head _) (sub_cons (.tail _ (.head _)) (sub_cons (.tail _ (.tail _ (in_left (.head _)))) (sub_cons (.tail _ (.tail _ (in_left (.tail _ (.head _))))) (sub_cons (.tail _ (.tail _ (in_left (.tail _ (.tail _ (.head _)))))) (sub_cons (.tail _ (.tail _ (in_left (.tail _ (.tail _ (.tail _ (.head _))))))) (sub_cons (.tail _ (.tail _ (in_left (.tail _ (.tail _ (.tail _ (.tail _ (.head _)))))))) (sub_app (sub_tail (sub_tail (sub_left (sub_tail (sub_tail (sub_tail (sub_tail (sub_tail sub_self)))))))) (sub_tail (sub_tail (sub_right (sub_self)))))))))))
theorem re25 {α : Type} {x0 x1 x2 x3 x4 x5 x6 x7 : α} {A0 A1 A2 : List α} : ∀ q ∈ (x0 :: (x1 :: (x2 :: (x3 :: (A0 ++ []))))), q ∈ (x4 :: (x5 :: (x6 :: (x7 :: (x0 :: (x1 :: (x2 :: (x3 :: (A0 ++ (A1 ++ A2)))))))))) := sub_cons (.tail _ (.tail _ (.tail _ (.tail _ (.head _))))) (sub_cons (.tail _ (.tail _ (.tail _ (.tail _ (.tail _ (.head _)))))) (sub_cons (.tail _ (.tail _ (.tail _ (.tail _ (.tail _ (.tail _ (.head _))))))) (sub_cons (.tail _ (.tail _ (.tail _ (.tail _ (.tail _ (.tail _ (.tail _ (.head _)))))))) (sub_app (sub_tail (sub_tail (sub_tail (sub_tail (sub_tail (sub_tail (sub_tail (sub_tail (sub_left (sub_self)))))))))) (sub_nil)))))
theorem re26 {α : Type} {x0 x1 x2 x3 x4 x5 x6 x7 : α} {A0 A1 A2 : List α} : ∀ q ∈ (x0 :: (x1 :: (A0 ++ A1))), q ∈ (x2 :: (x0 :: (x1 :: (x3 :: (x4 :: (x5 :: (x6 :: (x7 :: (A2 ++ (A0 ++ A1)))))))))) := sub_cons (.tail _ (.head _)) (sub_cons (.tail _ (.tail _ (.head _))) (sub_tail (sub_tail (sub_tail (sub_tail (sub_tail (sub_tail (sub_tail (sub_tail (sub_right (sub_self)))))))))))
theorem re27 {α : Type} {x0 x1 x2 x3 x4 : α} {A0 : List α} : ∀ q ∈ (x0 :: (x1 :: (x2 :: (x3 :: (A0 ++ []))))), q ∈ (x4 :: (x0 :: (x1 :: (x2 :: (x3 :: A0))))) := sub_cons (.tail _ (.head _)) (sub_cons (.tail _ (.tail _ (.head _))) (sub_cons (.tail _ (.tail _ (.tail _ (.head _)))) (sub_cons (.tail _ (.tail _ (.tail _ (.tail _ (.head _))))) (sub_app (sub_tail (sub_tail (sub_tail (sub_tail (sub_tail sub_self))))) (sub_nil)))))
theorem re28 {α : Type} {x0 x1 x2 x3 x4 x5 : α} {A0 A1 A2 : List α} : ∀ q ∈ (x0 :: (x1 :: (x2 :: (x3 :: (A0 ++ (x4 :: (x5 :: (A1 ++ A2)))))))), q ∈ ((x0 :: (x1 :: (x2 :: (x3 :: (A0 ++ []))))) ++ (x4 :: (x5 :: (A1 ++ A2)))) := sub_cons (in_left (.head _)) (sub_cons (in_left (.tail _ (.head _))) (sub_cons (in_left (.tail _ (.tail _ (.head _)))) (sub_cons (in_left (.tail _ (.tail _ (.tail _ (.head _))))) (sub_app (sub_left (sub_tail (sub_tail (sub_tail (sub_tail (sub_left (sub_self))))))) (sub_right (sub_self))))))
theorem re29 {α : Type} {x0 x1 x2 x3 : α} {A0 : List α} : ∀ q ∈ (x0 :: (x1 :: (x2 :: (x3 :: A0)))), q ∈ (x0 :: (x1 :: (x2 :: (x3 :: (A0 ++ []))))) := sub_cons (.head _) (sub_cons (.tail _ (.head _)) (sub_cons (.tail _ (.tail _ (.head _))) (sub_cons (.tail _ (.tail _ (.tail _ (.head _)))) (sub_tail (sub_tail (sub_tail (sub_tail (sub_left (sub_self)))))))))
theorem re30 {α : Type} {x0 x1 x2 x3 : α} {A0 A1 : List α} : ∀ q ∈ (x0 :: (x1 :: (x2 :: (x3 :: (A0 ++ A1))))), q ∈ (x0 :: (x3 :: (x1 :: (x2 :: (A0 ++ A1))))) := sub_cons (.head _) (sub_cons (.tail _ (.tail _ (.head _))) (sub_cons (.tail _ (.tail _ (.tail _ (.head _)))) (sub_cons (.tail _ (.head _)) (sub_tail (sub_tail (sub_tail (sub_tail sub_self)))))))
theorem re31 {α : Type} {x0 x1 x2 x3 x4 : α} {A0 A1 : List α} : ∀ q ∈ (x0 :: (x1 :: (x2 :: (x3 :: (A0 ++ A1))))), q ∈ (x4 :: (x0 :: (x1 :: (x2 :: (x3 :: (A0 ++ A1)))))) := sub_tail sub_self
theorem re32 {α : Type} {x0 x1 x2 x3 x4 x5 x6 : α} {A0 A1 : List α} : ∀ q ∈ (x0 :: (x1 :: (x2 :: (x3 :: (x4 :: ((x5 :: []) ++ (A0 ++ A1))))))), q ∈ (x0 :: (x5 :: (x6 :: (x1 :: (x2 :: (x3 :: (x4 :: (A0 ++ A1)))))))) := sub_cons (.head _) (sub_cons (.tail _ (.tail _ (.tail _ (.head _)))) (sub_cons (.tail _ (.tail _ (.tail _ (.tail _ (.head _))))) (sub_cons (.tail _ (.tail _ (.tail _ (.tail _ (.tail _ (.head _)))))) (sub_cons (.tail _ (.tail _ (.tail _ (.tail _ (.tail _ (.tail _ (.head _))))))) (sub_app (sub_cons (.tail _ (.head _)) (sub_nil)) (sub_tail (sub_tail (sub_tail (sub_tail (sub_tail (sub_tail (sub_tail sub_self))))))))))))
theorem re33 {α : Type} {x0 x1 x2 x3 x4 x5 x6 : α} {A0 A1 A2 : List α} : ∀ q ∈ (x0 :: (x1 :: (x2 :: (x3 :: (x4 :: ((x5 :: A0) ++ (A1 ++ A2))))))), q ∈ (x5 :: (x6 :: (x0 :: (x1 :: (x2 :: (x3 :: (x4 :: (A0 ++ (A1 ++ A2))))))))) := sub_cons (.tail _ (.tail _ (.head _))) (sub_cons (.tail _ (.tail _ (.tail _ (.head _)))) (sub_cons (.tail _ (.tail _ (.tail _ (.tail _ (.head _))))) (sub_cons (.tail _ (.tail _ (.tail _ (.tail _ (.tail _ (.head _)))))) (sub_cons (.tail _ (.tail _ (.tail _ (.tail _ (.tail _ (.tail _ (.head _))))))) (sub_app (sub_cons (.head _) (sub_tail (sub_tail (sub_tail (sub_tail (sub_tail (sub_tail (sub_tail (sub_left (sub_self)))))))))) (sub_tail (sub_tail (sub_tail (sub_tail (sub_tail (sub_tail (sub_tail (sub_right (sub_self))))))))))))))
theorem re34 {α : Type} {x0 x1 x2 x3 x4 x5 : α} {A0 A1 A2 : List α} : ∀ q ∈ (x0 :: (x1 :: (x2 :: (x3 :: (x4 :: ((x5 :: A0) ++ (A1 ++ A2))))))), q ∈ (x5 :: (x0 :: (x1 :: (x2 :: (x3 :: (x4 :: (A0 ++ (A1 ++ A2)))))))) := sub_cons (.tail _ (.head _)) (sub_cons (.tail _ (.tail _ (.head _))) (sub_cons (.tail _ (.tail _ (.tail _ (.head _)))) (sub_cons (.tail _ (.tail _ (.tail _ (.tail _ (.head _))))) (sub_cons (.tail _ (.tail _ (.tail _ (.tail _ (.tail _ (.head _)))))) (sub_app (sub_cons (.head _) (sub_tail (sub_tail (sub_tail (sub_tail (sub_tail (sub_tail (sub_left (sub_self))))))))) (sub_tail (sub_tail (sub_tail (sub_tail (sub_tail (sub_tail (sub_right (sub_self)))))))))))))
theorem re35 {α : Type} {x0 x1 x2 x3 : α} {A0 A1 A2 : List α} : ∀ q ∈ (x0 :: (x1 :: (x2 :: (x3 :: ((A0 ++ A1) ++ A2))))), q ∈ (x0 :: (x1 :: (x2 :: (x3 :: (A0 ++ (A1 ++ A2)))))) := sub_cons (.head _) (sub_cons (.tail _ (.head _)) (sub_cons (.tail _ (.tail _ (.head _))) (sub_cons (.tail _ (.tail _ (.tail _ (.head _)))) (sub_app (sub_app (sub_tail (sub_tail (sub_tail (sub_tail (sub_left (sub_self)))))) (sub_tail (sub_tail (sub_tail (sub_tail (sub_right (sub_left (sub_self)))))))) (sub_tail (sub_tail (sub_tail (sub_tail (sub_right (sub_right (sub_self)))))))))))
theorem re36 {α : Type} {x0 x1 x2 : α} {A0 A1 : List α} : ∀ q ∈ (x0 :: (x1 :: (x2 :: (A0 ++ A1)))), q ∈ (x1 :: (x2 :: (x0 :: (A0 ++ A1)))) := sub_cons (.tail _ (.tail _ (.head _))) (sub_cons (.head _) (sub_cons (.tail _ (.head _)) (sub_tail (sub_tail (sub_tail sub_self)))))
theorem re37 {α : Type} {x0 x1 x2 x3 x4 x5 x6 x7 x8 : α} {A0 : List α} : ∀ q ∈ (x0 :: (x1 :: (x2 :: (x3 :: (x4 :: (x5 :: (x6 :: (x7 :: (x8 :: A0))))))))), q ∈ (x8 :: (x0 :: (x1 :: (x2 :: (x3 :: (x4 :: (x5 :: (x6 :: (x7 :: A0))))))))) := sub_cons (.tail _ (.head _)) (sub_cons (.tail _ (.tail _ (.head _))) (sub_cons (.tail _ (.tail _ (.tail _ (.head _)))) (sub_cons (.tail _ (.tail _ (.tail _ (.tail _ (.head _))))) (sub_cons (.tail _ (.tail _ (.tail _ (.tail _ (.tail _ (.head _)))))) (sub_cons (.tail _ (.tail _ (.tail _ (.tail _ (.tail _ (.tail _ (.head _))))))) (sub_cons (.tail _ (.tail _ (.tail _ (.tail _ (.tail _ (.tail _ (.tail _ (.head _)))))))) (sub_cons (.tail _ (.tail _ (.tail _ (.tail _ (.tail _ (.tail _ (.tail _ (.tail _ (.head _))))))))) (sub_cons (.head _) (sub_tail (sub_tail (sub_tail (sub_tail (sub_tail (sub_tail (sub_tail (sub_tail (sub_tail sub_self)))))))))))))))))
theorem re38 {α : Type} {x0 x1 x2 x3 x4 x5 : α} {A0 : List α} : ∀ q ∈ ((x0 :: (x1 :: (x2 :: (x3 :: [])))) ++ (x4 :: A0)), q ∈ (x4 :: (x5 :: (x0 :: (x1 :: (x2 :: (x3 :: A0)))))) := sub_app (sub_cons (.tail _ (.tail _ (.head _))) (sub_cons (.tail _ (.tail _ (.tail _ (.head _)))) (sub_cons (.tail _ (.tail _ (.tail _ (.tail _ (.head _))))) (sub_cons (.tail _ (.tail _ (.tail _ (.tail _ (.tail _ (.head _)))))) (sub_nil))))) (sub_cons (.head _) (sub_tail (sub_tail (sub_tail (sub_tail (sub_tail (sub_tail sub_self)))))))
theorem re39 {α : Type} {x0 x1 x2 : α} {A0 A1 : List α} : ∀ q ∈ (x0 :: (x1 :: (x2 :: A0))), q ∈ (x0 :: (x1 :: (x2 :: (A0 ++ A1)))) := sub_cons (.head _) (sub_cons (.tail _ (.head _)) (sub_cons (.tail _ (.tail _ (.head _))) (sub_tail (sub_tail (sub_tail (sub_left (sub_self)))))))
theorem re40 {α : Type} {x0 x1 x2 x3 x4 : α} {A0 A1 A2 : List α} : ∀ q ∈ (x0 :: (x1 :: (x2 :: (x3 :: (A0 ++ (A1 ++ A2)))))), q ∈ ((x4 :: (x3 :: (A0 ++ A2))) ++ (x1 :: (x0 :: (x2 :: A1)))) := sub_cons (in_right (.tail _ (.head _))) (sub_cons (in_right (.head _)) (sub_cons (in_right (.tail _ (.tail _ (.head _)))) (sub_cons (in_left (.tail _ (.head _))) (sub_app (sub_left (sub_tail (sub_tail (sub_left (sub_self))))) (sub_app (sub_right (sub_tail (sub_tail (sub_tail sub_self)))) (sub_left (sub_tail (sub_tail (sub_right (sub_self))))))))))
theorem re41 {α : Type} {x0 x1 x2 x3 : α} {A0 A1 A2 : List α} : ∀ q ∈ (x0 :: (x1 :: (x2 :: (x3 :: ([] ++ ((A0 ++ A1) ++ A2)))))), q ∈ (x0 :: (x1 :: (x3 :: (x2 :: (A0 ++ (A2 ++ A1)))))) := sub_cons (.head _) (sub_cons (.tail _ (.head _)) (sub_cons (.tail _ (.tail _ (.tail _ (.head _)))) (sub_cons (.tail _ (.tail _ (.head _))) (sub_app (sub_nil) (sub_app (sub_app (sub_tail (sub_tail (sub_tail (sub_tail (sub_left (sub_self)))))) (sub_tail (sub_tail (sub_tail (sub_tail (sub_right (sub_right (sub_self)))))))) (sub_tail (sub_tail (sub_tail (sub_tail (sub_right (sub_left (sub_self))))))))))))
theorem re42 {α : Type} {x0 x1 x2 x3 x4 x5 x6 : α} {A0 A1 A2 : List α} : ∀ q ∈ (x0 :: (x1 :: (x2 :: (x3 :: (x4 :: (x5 :: (x6 :: (A0 ++ A1)))))))), q ∈ (x0 :: (x1 :: (x2 :: (x3 :: (x4 :: (x5 :: (x6 :: (A0 ++ (A2 ++ A1))))))))) := sub_cons (.head _) (sub_cons (.tail _ (.head _)) (sub_cons (.tail _ (.tail _ (.head _))) (sub_cons (.tail _ (.tail _ (.tail _ (.head _)))) (sub_cons (.tail _ (.tail _ (.tail _ (.tail _ (.head _))))) (sub_cons (.tail _ (.tail _ (.tail _ (.tail _ (.tail _ (.head _)))))) (sub_cons (.tail _ (.tail _ (.tail _ (.tail _ (.tail _ (.tail _ (.head _))))))) (sub_app (sub_tail (sub_tail (sub_tail (sub_tail (sub_tail (sub_tail (sub_tail (sub_left (sub_self))))))))) (sub_tail (sub_tail (sub_tail (sub_tail (sub_tail (sub_tail (sub_tail (sub_right (sub_right (sub_self)))))))))))))))))
theorem re43 {α : Type} {x0 x1 x2 x3 x4 : α} {A0 A1 A2 : List α} : ∀ q ∈ (x0 :: (x1 :: ([] ++ (x2 :: (A0 ++ (A1 ++ A2)))))), q ∈ (x2 :: (x3 :: (x0 :: (x4 :: (x1 :: (A0 ++ (A1 ++ A2))))))) := sub_cons (.tail _ (.tail _ (.head _))) (sub_cons (.tail _ (.tail _ (.tail _ (.tail _ (.head _))))) (sub_app (sub_nil) (sub_cons (.head _) (sub_tail (sub_tail (sub_tail (sub_tail (sub_tail sub_self))))))))
theorem re44 {α : Type} {x0 : α} {A0 A1 A2 A3 : List α} : ∀ q ∈ (A0 ++ A1), q ∈ (x0 :: (A2 ++ ((A3 ++ A1) ++ A0))) := sub_app (sub_tail (sub_right (sub_right (sub_self)))) (sub_tail (sub_right (sub_left (sub_right (sub_self)))))
theorem re45 {α : Type} {x0 x1 x2 x3 x4 x5 x6 : α} {A0 A1 : List α} : ∀ q ∈ (x0 :: (x1 :: (x2 :: (x3 :: (x4 :: ((x5 :: A0) ++ A1)))))), q ∈ ((x5 :: (x6 :: [])) ++ (x0 :: (x1 :: (x2 :: (x3 :: (x4 :: (A0 ++ A1))))))) := sub_cons (in_right (.head _)) (sub_cons (in_right (.tail _ (.head _))) (sub_cons (in_right (.tail _ (.tail _ (.head _)))) (sub_cons (in_right (.tail _ (.tail _ (.tail _ (.head _))))) (sub_cons (in_right (.tail _ (.tail _ (.tail _ (.tail _ (.head _)))))) (sub_app (sub_cons (in_left (.head _)) (sub_right (sub_tail (sub_tail (sub_tail (sub_tail (sub_tail (sub_left (sub_self))))))))) (sub_right (sub_tail (sub_tail (sub_tail (sub_tail (sub_tail (sub_right (sub_self)))))))))))))
theorem re46 {α : Type} {x0 : α} {A0 A1 A2 : List α} : ∀ q ∈ (A0 ++ A1), q ∈ (x0 :: (A0 ++ (A1 ++ A2))) := sub_app (sub_tail (sub_left (sub_self))) (sub_tail (sub_right (sub_left (sub_self))))
end Mine
end
-- Tl
section
open PySem PySem.W PyProof.Rows PySem.Spec PySem.Calls
set_option compiler.extract_closed false
set_option Elab.async false
set_option maxRecDepth 100000
set_option maxHeartbeats 4000000
namespace Mine
noncomputable abbrev tiObj (t : Addr) (i : Nat) : Obj := { cls := .type "tuple_iterator", data := .fields #[.ref t, .int i 0] }
section
variable {prog : Program} {w : World} {A : Around} {E : Value → Shared → Prop} {s : Shared} {env : Env} {Q : Flow → Shared → Prop} {test iter target : PySem.Expr} {body orelse : List Stmt} {pos : Pos}

theorem tnext_item {h₀ : Heap} {L it t : Addr} {m : Str → Option Value} {news : List (Addr × Obj)} {G : Obj → List (Addr × Obj)} {i : Nat} {items : Array Value} {Q : Option Value → Shared → Prop}
    (F : Fr h₀ L s.heap m) (N : News h₀ L s.heap news) (U : UpdF it (tiObj t i) news G) (ht : IsTup s.heap t items) {x : Value} (hx : items[i]? = some x)
    (h : ∀ h', Fr h₀ L h' m → News h₀ L h' (G (tiObj t (i + 1))) → Q (some x) { s with heap := h' }) :
    wpAny (model prog w) A (pyNext (.ref it)) Q E s := by
  have ho := (N _ (upd_mem U)).1
  have hit : IsTupIter s.heap it t i := ⟨_, ho, rfl, rfl⟩
  (first | ((first | with_reducible refine Exists.elim ht ?_ | with_reducible refine conj_elim ht ?_); (try clear ht); rintro (ol) tmp; (first | ((first | with_reducible refine Exists.elim tmp ?_ | with_reducible refine conj_elim tmp ?_); (try clear tmp); rintro (hol) tmp; (first | ((first | with_reducible refine Exists.elim tmp ?_ | with_reducible refine conj_elim tmp ?_); (try clear tmp); rintro (_) tmp; (first | ((first | with_reducible refine Exists.elim tmp ?_ | with_reducible refine conj_elim tmp ?_); (try clear tmp); rintro (nl) (hdl)) | obtain ⟨nl, hdl⟩ := tmp)) | obtain ⟨_, nl, hdl⟩ := tmp)) | obtain ⟨hol, _, nl, hdl⟩ := tmp)) | obtain ⟨ol, hol, _, nl, hdl⟩ := ht)
  unfold pyNext
  refine wpAny_bind (wpAny_attempt (wpAny_callSpecial?_slot (name := Str.ofString "__next__") hit.typeIs slot_tupleiter_next
    (wpAny_call_entry slot_tupleiter_next hit.typeIs entry_tupleiter_next ?_ (args_tupleiter_next _))))
  show wpAny _ _ (field (.ref it) 0 >>= _) _ _ s
  refine wpAny_bind (wpAny_field ho rfl (x := .ref t) rfl ?_)
  show wpAny _ _ (if (Value.ref t == Value.none) = true then _ else _) _ _ s
  rw [if_neg (show ¬ ((Value.ref t == Value.none) = true) from Bool.false_ne_true)]
  show wpAny _ _ (field (.ref it) 1 >>= _) _ _ s
  refine wpAny_bind (wpAny_field ho rfl (x := .int i 0) rfl ?_)
  show wpAny _ _ (seqItems? (.ref t) >>= _) _ _ s
  refine wpAny_bind (wpAny_seqItems hol hdl ?_)
  simp only [Int.toNat_natCast, hx]
  (first | ((first | refine Exists.elim (upd_at (f := Obj.mapFields (·.setIfInBounds 1 (rawInt ((i : Int) + 1)))) (o' := tiObj t (i + 1)) F N U (by rfl) rfl) ?_ | refine conj_elim (upd_at (f := Obj.mapFields (·.setIfInBounds 1 (rawInt ((i : Int) + 1)))) (o' := tiObj t (i + 1)) F N U (by rfl) rfl) ?_); rintro (F') (N')) | obtain ⟨F', N'⟩ := upd_at (f := Obj.mapFields (·.setIfInBounds 1 (rawInt ((i : Int) + 1)))) (o' := tiObj t (i + 1)) F N U (by rfl) rfl)
  exact wpAny_bind (wpAny_setField ho rfl (by simp) (wpAny_pure ⟨x, rfl, wpAny_pure (h _ F' N')⟩))

noncomputable def TStep (s : Shared) (L it t : Addr) (J : Nat → Heap → (Str → Option Value) → List (Addr × Obj) → Prop) (Q : Flow → Shared → Prop) (i : Nat) (f : Flow) (s₃ : Shared) : Prop := match f with
  | .next | .cont => Ex5 fun g h tk m nw => All4 (s₃ = { s with heap := h, toks := tk }) (Fr g L h m) (News g L h ((it, tiObj t (i + 1)) :: nw)) (J (i + 1) g m nw)
  | .brk => Q .next s₃
  | .ret v => Q (.ret v) s₃

/-- a for over a tuple's iterator; the ground may turn -/
theorem turns_tuple {L it t : Addr} {items : Array Value} (J : Nat → Heap → (Str → Option Value) → List (Addr × Obj) → Prop) {g₀ : Heap} {m₀ : Str → Option Value} {nw₀ : List (Addr × Obj)} {i₀ : Nat} (hh : A.handled = none)
    (hok : ∀ i g m nw h, J i g m nw → Fr g L h m → News g L h nw → IsTup h t items ∧ ∀ p ∈ nw, p.1 ≠ it)
    (F : Fr g₀ L s.heap m₀) (N : News g₀ L s.heap ((it, tiObj t i₀) :: nw₀)) (hJ : J i₀ g₀ m₀ nw₀) (hi : i₀ ≤ items.size)
    (turn : ∀ i g m nw h tk v, J i g m nw → items[i]? = some v → Fr g L h m → News g L h ((it, tiObj t (i + 1)) :: nw) → (∀ p ∈ nw, p.1 ≠ it) →
      ∀ Q' : Flow → Shared → Prop, (∀ f s₃, TStep s L it t J Q i f s₃ → Q' f s₃) → wpAny (model prog w) A (assign target env v) (fun _ s₂ => wpAny (model prog w) A (execs body env) Q' E s₂) E { s with heap := h, toks := tk })
    (done : ∀ g m nw h tk, J items.size g m nw → Fr g L h m → News g L h nw → Q .next { s with heap := h, toks := tk }) :
    ForTurns prog w A env target body Q E (.ref it) s := by
  refine ⟨fun n s' => Ex6 fun i g m nw h tk => All6 (n = items.size - i) (i ≤ items.size) (s' = { s with heap := h, toks := tk }) (Fr g L h m) (News g L h ((it, tiObj t i) :: nw)) (J i g m nw), items.size - i₀, ⟨i₀, g₀, m₀, nw₀, s.heap, s.toks, rfl, hi, rfl, F, N, hJ⟩, ?_⟩
  rintro n s' ⟨i, g, m, nw, h, tk, rfl, hle, rfl, F₁, N₁, J₁⟩
  (first | ((first | refine Exists.elim (hok _ _ _ _ _ J₁ F₁ (fun p hp => N₁ p (.tail _ hp))) ?_ | refine conj_elim (hok _ _ _ _ _ J₁ F₁ (fun p hp => N₁ p (.tail _ hp))) ?_); rintro (hLs) (hne)) | obtain ⟨hLs, hne⟩ := hok _ _ _ _ _ J₁ F₁ (fun p hp => N₁ p (.tail _ hp)))
  have hIt : IsTupIter h it t i := ⟨_, (N₁ _ (.head _)).1, rfl, rfl⟩
  cases hx : items[i]? with
  | none =>
    have hi' : i = items.size := by
      have : items.size ≤ i := by simpa using hx
      omega
    subst hi'
    refine next_tuple_end hh hIt hLs hx (fun h' hxb => ?_)
    (first | ((first | refine Exists.elim (ext_fr F₁ N₁ hne hxb) ?_ | refine conj_elim (ext_fr F₁ N₁ hne hxb) ?_); rintro (F₂) (N₂)) | obtain ⟨F₂, N₂⟩ := ext_fr F₁ N₁ hne hxb)
    exact done g m nw h' tk J₁ F₂ N₂
  | some v =>
    have hlt : i < items.size := by
      cases Nat.lt_or_ge i items.size with
      | inl h => exact h
      | inr h => rw [Array.getElem?_eq_none h] at hx; cases hx
    refine tnext_item F₁ N₁ (UpdF.head hne) hLs hx (fun h' F₂ N₂ => ?_)
    refine wpAny_mono (turn i g m nw h' tk v J₁ hx F₂ N₂ hne _ (fun _ _ x => x)) (fun _ s₂ h₂ => ?_) fun _ _ x => x
    refine wpAny_mono h₂ (fun f s₃ h₃ => ?_) fun _ _ x => x
    cases f with
    | next =>
      (first | ((first | with_reducible refine Exists.elim h₃ ?_ | with_reducible refine conj_elim h₃ ?_); (try clear h₃); rintro (g') tmp; (first | ((first | with_reducible refine Exists.elim tmp ?_ | with_reducible refine conj_elim tmp ?_); (try clear tmp); rintro (h'') tmp; (first | ((first | with_reducible refine Exists.elim tmp ?_ | with_reducible refine conj_elim tmp ?_); (try clear tmp); rintro (tk') tmp; (first | ((first | with_reducible refine Exists.elim tmp ?_ | with_reducible refine conj_elim tmp ?_); (try clear tmp); rintro (m') tmp; (first | ((first | with_reducible refine Exists.elim tmp ?_ | with_reducible refine conj_elim tmp ?_); (try clear tmp); rintro (nw') tmp; (first | ((first | with_reducible refine Exists.elim tmp ?_ | with_reducible refine conj_elim tmp ?_); (try clear tmp); rintro (rfl) tmp; (first | ((first | with_reducible refine Exists.elim tmp ?_ | with_reducible refine conj_elim tmp ?_); (try clear tmp); rintro (F') tmp; (first | ((first | with_reducible refine Exists.elim tmp ?_ | with_reducible refine conj_elim tmp ?_); (try clear tmp); rintro (N') (J')) | obtain ⟨N', J'⟩ := tmp)) | obtain ⟨F', N', J'⟩ := tmp)) | obtain ⟨rfl, F', N', J'⟩ := tmp)) | obtain ⟨nw', rfl, F', N', J'⟩ := tmp)) | obtain ⟨m', nw', rfl, F', N', J'⟩ := tmp)) | obtain ⟨tk', m', nw', rfl, F', N', J'⟩ := tmp)) | obtain ⟨h'', tk', m', nw', rfl, F', N', J'⟩ := tmp)) | obtain ⟨g', h'', tk', m', nw', rfl, F', N', J'⟩ := h₃)
      exact ⟨items.size - (i + 1), by omega, i + 1, g', m', nw', h'', tk', rfl, hlt, rfl, F', N', J'⟩
    | cont =>
      (first | ((first | with_reducible refine Exists.elim h₃ ?_ | with_reducible refine conj_elim h₃ ?_); (try clear h₃); rintro (g') tmp; (first | ((first | with_reducible refine Exists.elim tmp ?_ | with_reducible refine conj_elim tmp ?_); (try clear tmp); rintro (h'') tmp; (first | ((first | with_reducible refine Exists.elim tmp ?_ | with_reducible refine conj_elim tmp ?_); (try clear tmp); rintro (tk') tmp; (first | ((first | with_reducible refine Exists.elim tmp ?_ | with_reducible refine conj_elim tmp ?_); (try clear tmp); rintro (m') tmp; (first | ((first | with_reducible refine Exists.elim tmp ?_ | with_reducible refine conj_elim tmp ?_); (try clear tmp); rintro (nw') tmp; (first | ((first | with_reducible refine Exists.elim tmp ?_ | with_reducible refine conj_elim tmp ?_); (try clear tmp); rintro (rfl) tmp; (first | ((first | with_reducible refine Exists.elim tmp ?_ | with_reducible refine conj_elim tmp ?_); (try clear tmp); rintro (F') tmp; (first | ((first | with_reducible refine Exists.elim tmp ?_ | with_reducible refine conj_elim tmp ?_); (try clear tmp); rintro (N') (J')) | obtain ⟨N', J'⟩ := tmp)) | obtain ⟨F', N', J'⟩ := tmp)) | obtain ⟨rfl, F', N', J'⟩ := tmp)) | obtain ⟨nw', rfl, F', N', J'⟩ := tmp)) | obtain ⟨m', nw', rfl, F', N', J'⟩ := tmp)) | obtain ⟨tk', m', nw', rfl, F', N', J'⟩ := tmp)) | obtain ⟨h'', tk', m', nw', rfl, F', N', J'⟩ := tmp)) | obtain ⟨g', h'', tk', m', nw', rfl, F', N', J'⟩ := h₃)
      exact ⟨items.size - (i + 1), by omega, i + 1, g', m', nw', h'', tk', rfl, hlt, rfl, F', N', J'⟩
    | brk => exact h₃
    | ret v => exact h₃
end
end Mine
end
-- Df
section
set_option compiler.extract_closed false
set_option Elab.async false
namespace Mine
/-- the search's stack (top first): what each entry has consumed is finished, but for the child above it -/
noncomputable def StkOk (sl : Int → List Int) (fin : List Int) : Option Int → List (Int × Nat) → Prop
  | _, [] => True
  | ch, (v, pos) :: es => (∀ u ∈ (sl v).take pos, u ∈ fin ∨ some u = ch) ∧ (∀ c, ch = some c → c ∈ sl v) ∧ StkOk sl fin (some v) es
noncomputable def FinOk (sl : Int → List Int) (fin : List Int) : Prop := ∀ a v b, fin = a ++ v :: b → ∀ u ∈ sl v, u ∈ b
noncomputable def Ring (sl : Int → List Int) : Prop := ∃ S : List Int, S ≠ [] ∧ ∀ v ∈ S, ∃ p ∈ S, v ∈ sl p
noncomputable def NoRing (sl : Int → List Int) (keys : List Int) : Prop := ∃ fin : List Int, (∀ k ∈ keys, k ∈ fin) ∧ FinOk sl fin
variable {sl : Int → List Int}
theorem StkOk.mono {fin fin' : List Int} (h : ∀ u ∈ fin, u ∈ fin') : ∀ {es : List (Int × Nat)} {ch : Option Int}, StkOk sl fin ch es → StkOk sl fin' ch es
  | [], _, _ => trivial
  | (v, pos) :: es, ch, ⟨h1, h2, h3⟩ => ⟨fun u hu => (h1 u hu).imp (h u) id, h2, StkOk.mono h h3⟩
theorem StkOk.pop {fin : List Int} {v : Int} {es : List (Int × Nat)} (h : StkOk sl fin (some v) es) : StkOk sl (v :: fin) none es := by
  cases es with
  | nil => trivial
  | cons e es =>
    (first | ((first | with_reducible refine Exists.elim e ?_ | with_reducible refine conj_elim e ?_); (try clear e); rintro (w) (p)) | obtain ⟨w, p⟩ := e)
    (first | ((first | with_reducible refine Exists.elim h ?_ | with_reducible refine conj_elim h ?_); (try clear h); rintro (h1) tmp; (first | ((first | with_reducible refine Exists.elim tmp ?_ | with_reducible refine conj_elim tmp ?_); (try clear tmp); rintro (h2) (h3)) | obtain ⟨h2, h3⟩ := tmp)) | obtain ⟨h1, h2, h3⟩ := h)
    refine ⟨fun u hu => ?_, fun c hc => (by cases hc), StkOk.mono (fun u hu => .tail _ hu) h3⟩
    rcases h1 u hu with h | h
    · exact .inl (.tail _ h)
    · cases h; exact .inl (.head _)
theorem StkOk.seen {fin : List Int} {v : Int} {es : List (Int × Nat)} (h : StkOk sl fin (some v) es) (hv : v ∈ fin) : StkOk sl fin none es := by
  cases es with
  | nil => trivial
  | cons e es =>
    (first | ((first | with_reducible refine Exists.elim e ?_ | with_reducible refine conj_elim e ?_); (try clear e); rintro (w) (p)) | obtain ⟨w, p⟩ := e)
    (first | ((first | with_reducible refine Exists.elim h ?_ | with_reducible refine conj_elim h ?_); (try clear h); rintro (h1) tmp; (first | ((first | with_reducible refine Exists.elim tmp ?_ | with_reducible refine conj_elim tmp ?_); (try clear tmp); rintro (h2) (h3)) | obtain ⟨h2, h3⟩ := tmp)) | obtain ⟨h1, h2, h3⟩ := h)
    refine ⟨fun u hu => ?_, fun c hc => (by cases hc), h3⟩
    rcases h1 u hu with h | h
    · exact .inl h
    · cases h; exact .inl hv
theorem StkOk.push {fin : List Int} {v : Int} {es : List (Int × Nat)} (h : StkOk sl fin (some v) es) : StkOk sl fin none ((v, 0) :: es) :=
  ⟨fun u hu => by simp at hu, fun c hc => (by cases hc), h⟩
theorem StkOk.item {fin : List Int} {v u : Int} {pos : Nat} {es : List (Int × Nat)} (h : StkOk sl fin none ((v, pos) :: es)) (hu : (sl v)[pos]? = some u) : StkOk sl fin (some u) ((v, pos + 1) :: es) := by
  (first | ((first | with_reducible refine Exists.elim h ?_ | with_reducible refine conj_elim h ?_); (try clear h); rintro (h1) tmp; (first | ((first | with_reducible refine Exists.elim tmp ?_ | with_reducible refine conj_elim tmp ?_); (try clear tmp); rintro (_) (h3)) | obtain ⟨_, h3⟩ := tmp)) | obtain ⟨h1, _, h3⟩ := h)
  refine ⟨fun x hx => ?_, fun c hc => (by cases hc; exact List.mem_of_getElem? hu), h3⟩
  rw [List.take_add_one, hu] at hx
  rcases List.mem_append.mp hx with hx | hx
  · rcases h1 x hx with h | h
    · exact .inl h
    · cases h
  · simp at hx
    exact .inr (by rw [hx])
theorem StkOk.all {fin : List Int} {v : Int} {pos : Nat} {es : List (Int × Nat)} (h : StkOk sl fin none ((v, pos) :: es)) (hp : (sl v)[pos]? = none) : ∀ u ∈ sl v, u ∈ fin := by
  intro u hu
  have hlen : (sl v).length ≤ pos := by simpa using hp
  rcases h.1 u (by rw [List.take_of_length_le hlen]; exact hu) with h | h
  · exact h
  · cases h
theorem FinOk.pop {fin : List Int} {v : Int} (h : FinOk sl fin) (hv : ∀ u ∈ sl v, u ∈ fin) : FinOk sl (v :: fin) := by
  intro a w b e u hu
  cases a with
  | nil =>
    simp at e
    (first | ((first | with_reducible refine Exists.elim e ?_ | with_reducible refine conj_elim e ?_); (try clear e); rintro (rfl) (rfl)) | obtain ⟨rfl, rfl⟩ := e)
    exact hv u hu
  | cons x a =>
    simp at e
    exact h a w b e.2 u hu
theorem StkOk.ring_aux {fin : List Int} : ∀ {es : List (Int × Nat)} {c n : Int}, StkOk sl fin (some c) es → n ∈ es.map (·.1) → ∃ T : List Int, n ∈ T ∧ (∃ p ∈ T, c ∈ sl p) ∧ ∀ v ∈ T, v = n ∨ ∃ p ∈ T, v ∈ sl p
  | (v, pos) :: es, c, n, ⟨h1, h2, h3⟩, hn => by
    by_cases e : n = v
    · subst e
      exact ⟨[n], by simp, ⟨n, by simp, h2 c rfl⟩, fun w hw => .inl (by simpa using hw)⟩
    · have hn' : n ∈ es.map (·.1) := by
        rcases List.mem_cons.mp hn with h | h
        · exact absurd h e
        · exact h
      (first | ((first | refine Exists.elim (StkOk.ring_aux h3 hn') ?_ | refine conj_elim (StkOk.ring_aux h3 hn') ?_); rintro (T) tmp; (first | ((first | with_reducible refine Exists.elim tmp ?_ | with_reducible refine conj_elim tmp ?_); (try clear tmp); rintro (t1) tmp; (first | ((first | with_reducible refine Exists.elim tmp ?_ | with_reducible refine conj_elim tmp ?_); (try clear tmp); rintro (⟨p, hp, hpv⟩) (t3)) | obtain ⟨⟨p, hp, hpv⟩, t3⟩ := tmp)) | obtain ⟨t1, ⟨p, hp, hpv⟩, t3⟩ := tmp)) | obtain ⟨T, t1, ⟨p, hp, hpv⟩, t3⟩ := StkOk.ring_aux h3 hn')
      refine ⟨v :: T, .tail _ t1, ⟨v, .head _, h2 c rfl⟩, fun w hw => ?_⟩
      rcases List.mem_cons.mp hw with rfl | hw
      · exact .inr ⟨p, .tail _ hp, hpv⟩
      · rcases t3 w hw with h | ⟨q, hq, hqw⟩
        · exact .inl h
        · exact .inr ⟨q, .tail _ hq, hqw⟩
theorem StkOk.ring {fin : List Int} {es : List (Int × Nat)} {n : Int} (h : StkOk sl fin (some n) es) (hn : n ∈ es.map (·.1)) : Ring sl := by
  (first | ((first | refine Exists.elim (h.ring_aux hn) ?_ | refine conj_elim (h.ring_aux hn) ?_); rintro (T) tmp; (first | ((first | with_reducible refine Exists.elim tmp ?_ | with_reducible refine conj_elim tmp ?_); (try clear tmp); rintro (t1) tmp; (first | ((first | with_reducible refine Exists.elim tmp ?_ | with_reducible refine conj_elim tmp ?_); (try clear tmp); rintro (t2) (t3)) | obtain ⟨t2, t3⟩ := tmp)) | obtain ⟨t1, t2, t3⟩ := tmp)) | obtain ⟨T, t1, t2, t3⟩ := h.ring_aux hn)
  refine ⟨T, by intro e; simp [e] at t1, fun v hv => ?_⟩
  rcases t3 v hv with rfl | h
  · exact t2
  · exact h
end Mine
end
section
open PySem PySem.W PyProof.Rows PySem.Spec PySem.Calls LCg
set_option compiler.extract_closed false
set_option Elab.async false
set_option maxRecDepth 100000
set_option maxHeartbeats 4000000
namespace Mine
local macro_rules | `(tactic| walk_at "binaryOp Add ref ref") => `(tactic| (refine add_at (by k_asm) (by k_asm) (by k_mem) (by k_mem) (by simp only [List.length_append, List.length_cons, List.length_nil]; omega) ?_; intro D' h' F' N' l1; k_lt l1))
local macro_rules | `(tactic| walk_at "call builtin:iter") => `(tactic| (refine iter_list (by k_asm) (by k_asm) (by k_mem) ?_; intro D' h' F' N' l1; k_lt l1))
local macro_rules | `(tactic| k_lt $h:ident) => `(tactic| (refine ltImp $h ?_; clear $h; (repeat (with_reducible show LtImp _ (_ :: _) _); k_dflt intro _); first | with_reducible refine ltNil ?_ | refine ltTail ?_; intro $h:ident))
local macro_rules | `(tactic| k_all) => `(tactic| first | exact mine_ne_lt ‹_› | exact mine_ne_allLt ‹_› | exact mine_ne_off ‹_› (by k_memK) | exact fmNil | refine fmCons (by k_ne) ?_; k_all)
local macro_rules | `(tactic| k_ne) => `(tactic| first | with_reducible exact Nat.ne_of_lt ‹_› | with_reducible exact Nat.ne_of_gt ‹_› | refine neN ?_; (try dsimp only); omega)
-- Pv
noncomputable def readMore (val : Int) : List Int → Option (Int × List Int)
  | [] => none
  | b :: r => if b / 64 % 2 = 1 then readMore (val * 64 + b % 64) r else some (val * 64 + b % 64, r)

theorem or_low (v c : Int) (h0 : 0 ≤ c) (h1 : c < 64) : Builtin.bitOr (v * 64) c = v * 64 + c := by
  have hx := bitXor_and (v * 64) c
  unfold Builtin.bitXor at hx
  have h : Builtin.bitAnd (v * 64) c = 0 := by
    have e0 : v * 64 / 2 = v * 32 := by omega
    have e1 : v * 32 / 2 = v * 16 := by omega
    have e2 : v * 16 / 2 = v * 8 := by omega
    have e3 : v * 8 / 2 = v * 4 := by omega
    have e4 : v * 4 / 2 = v * 2 := by omega
    have e5 : v * 2 / 2 = v := by omega
    rw [kbt_halves, e0, kbt_halves, e1, kbt_halves, e2, kbt_halves, e3, kbt_halves, e4, kbt_halves, e5]
    have hc : c / 2 / 2 / 2 / 2 / 2 / 2 = 0 := by omega
    have hz : Builtin.bitAnd v (c / 2 / 2 / 2 / 2 / 2 / 2) = 0 := by rw [hc]; have := bitAnd_range v (y := 0) (by decide); omega
    rw [hz]
    rw [if_neg (by omega), if_neg (by omega), if_neg (by omega), if_neg (by omega), if_neg (by omega), if_neg (by omega)]
    rfl
  omega
theorem and_bit (b : Int) : Builtin.bitAnd b 64 = (b / 64 % 2) * 64 := kbt_bit b 6

noncomputable abbrev pvMap (it : Addr) (b v : Int) (tb tv : Tok) : Str → Option Value := fun y => if y = Str.ofString "val" then some (.int v tv) else if y = Str.ofString "b" then some (.int b tb) else if y = Str.ofString "iterator" then some (.ref it) else none
theorem pvMap_eq (it : Addr) (b v b' v' v'' : Int) (tb tv tb' tv' tv'' : Tok) :
    (fun y => if y = Str.ofString "val" then some (Value.int v tv) else if y = Str.ofString "b" then some (.int b tb) else if y = Str.ofString "val" then some (.int v' tv') else pvMap it b' v'' tb' tv'' y) = pvMap it b v tb tv := by
  funext y
  simp only [pvMap]
  by_cases h1 : y = Str.ofString "val"
  · simp [h1]
  · by_cases h2 : y = Str.ofString "b"
    · simp [h2]
    · simp [h1, h2]

theorem item_of {vs : List Value} {ns : List Int} (hi : IntsAre vs ns) (i : Nat) : (ns[i]? = none ∧ vs.toArray[i]? = none) ∨ ∃ x t, ns[i]? = some x ∧ vs.toArray[i]? = some (.int x t) := by
  cases h : ns[i]? with
  | none =>
    refine .inl ⟨rfl, ?_⟩
    have := hi.length
    simp at h ⊢
    omega
  | some x =>
    (first | ((first | refine Exists.elim (hi.get i x h) ?_ | refine conj_elim (hi.get i x h) ?_); rintro (t) (ht)) | obtain ⟨t, ht⟩ := hi.get i x h)
    exact .inr ⟨x, t, rfl, by simpa using ht⟩

theorem parse_spec {w : World} {mean : ExcName → Option Value} {mg mb : Str → Option Value} {base g : Heap} {outer : List Env} {s : Shared} {dp un : Nat} {gd : Option (List Code)} {R : Result → Shared → Prop}
    {it l : Addr} {i n : Nat} {vs : List Value} {ns : List Int}
    (S : Sit w mean mg mb base outer g s.heap [(it, itObj l i), (l, listOf vs.toArray n)])
    (hne : @Ne Nat it l) (hi : IntsAre vs ns) (hoct : ∀ x ∈ ns, 0 ≤ x ∧ x < 256) (hlen : ns.length ≤ 1000) (hd : dp + 5 < recursionLimit) (hu : un + 50 < cLine)
    (ret : ∀ v i' t h' tk', readMore 0 (ns.drop i) = some (v, ns.drop i') → i' ≤ ns.length → Done g h' [(it, itObj l i'), (l, listOf vs.toArray n)] → R (.ok (.ret (.int v t))) { s with heap := h', toks := tk' })
    (exc : ∀ e i' h' tk', readMore 0 (ns.drop i) = none → RaisedSN base g outer e (.type "StopIteration") [(it, itEnd i'), (l, listOf vs.toArray n)] h' → g.UpToSlots h' → R (.error (.ref e)) { s with heap := h', toks := tk' }) :
    codeAny (model P w) (arnd dp un gd outer) (.call (.ref 28) ⟨[.ref it], []⟩) R s := by
  refine S.enter (binds := [(Str.ofString "iterator", .ref it)]) (by k_is) (by k_is) (by omega) (BindsTo.of_eq rfl) (locs rfl) ?_ rfl rfl rfl (by decide)
  intro L h₁ F N B X T D XB TB hlt
  k_steps
  have hl : h₁.IsList l vs.toArray := ⟨_, (N _ (.tail _ (.head _))).1, rfl, _, rfl⟩
  rcases item_of hi i with ⟨h0, hx⟩ | ⟨b, t, h0, hx⟩
  · refine next_end rfl F N (UpdF.head (by k_all)) hl hx ?_
    intro h₂ h' e F₂ N₂ hx'
    refine leave_newS B hx' F₂ N₂ (fun h₃ R₃ _ up => exc _ _ _ _ ?_ R₃ up)
    have : ns.drop i = [] := by simpa using h0
    rw [this]; rfl
  · refine next_item F N (UpdF.head (by k_all)) hl hx ?_
    intro h₂ F₂ N₂
    (repeat' (fail_if_success with_reducible first | refine zzW ?_ | refine zzF ?_ | refine zzC ?_ | refine zzL ?_ | refine zzD ?_); first | k_unfold; try dsimp only | walk1 | dsimp only; walk1 | leave1; try dsimp only)
    rename Fr _ _ _ _ => F₃
    rename News _ _ _ _ => N₃
    have hb := hoct b (List.mem_of_getElem? h0)
    have hil : i < ns.length := (List.getElem?_eq_some_iff.mp h0).1
    have Jstart : ∀ (tb tv : Tok) {m₁ : Str → Option Value} {nw : List (Addr × Obj)}, m₁ = (fun y => if y = Str.ofString "val" then some (.int (Builtin.bitAnd b 63) tv) else if y = Str.ofString "b" then some (.int b tb) else [(Str.ofString "iterator", Value.ref it)].reverse.lookup y) → nw = [(it, itObj l (i + 1)), (l, listOf vs.toArray n)] →
        ∃ (j : Nat) (b v : Int) (tb tv : Tok), ns.length - (i + 1) = ns.length - j ∧ j ≤ ns.length ∧ m₁ = pvMap it b v tb tv ∧ nw = [(it, itObj l j), (l, listOf vs.toArray n)] ∧ 0 ≤ b ∧ b < 256 ∧ 0 ≤ v ∧ v < 64 ^ j ∧
        readMore 0 (ns.drop i) = (if b / 64 % 2 = 1 then readMore v (ns.drop j) else some (v, ns.drop j)) := by
      intro tb tv m₁ nw e1 e2
      refine ⟨i + 1, b, b % 64, tb, tv, rfl, by omega, ?_, e2, hb.1, hb.2, by omega, ?_, ?_⟩
      · rw [e1, bitAnd_m6]
        funext y
        simp only [pvMap, List.reverse_cons, List.reverse_nil, List.nil_append, List.lookup_cons, List.lookup_nil]
        by_cases hy : y = Str.ofString "iterator"
        · simp [hy]
        · have : (y == Str.ofString "iterator") = false := by simpa using hy
          simp [this, hy]
      · have : (0 : Int) < 64 ^ i := pow_pos_of (by decide) i
        rw [Int.pow_succ]; omega
      · rw [List.drop_eq_getElem_cons hil, (List.getElem?_eq_some_iff.mp h0).2]
        simp only [readMore, Int.zero_mul, Int.zero_add]
    refine While_inv2 (fun k m₁ nw => ∃ (j : Nat) (b v : Int) (tb tv : Tok), k = ns.length - j ∧ j ≤ ns.length ∧ m₁ = pvMap it b v tb tv ∧ nw = [(it, itObj l j), (l, listOf vs.toArray n)] ∧ 0 ≤ b ∧ b < 256 ∧ 0 ≤ v ∧ v < 64 ^ j ∧
        readMore 0 (ns.drop i) = (if b / 64 % 2 = 1 then readMore v (ns.drop j) else some (v, ns.drop j))) F₃ N₃ (n₀ := ns.length - (i + 1)) ?_ ?_
    · exact Jstart t _ rfl rfl
    · rintro k m₁ nw h₃ tk₃ F₄ N₄ ⟨j, b, v, tb, tv, rfl, hj, rfl, rfl, hb0, hb1, hv0, hv1, hr⟩
      (repeat' (fail_if_success with_reducible first | refine zzW ?_ | refine zzF ?_ | refine zzC ?_ | refine zzL ?_ | refine zzD ?_ | refine zzLs ?_); first | k_unfold; try dsimp only | walk1 | dsimp only; walk1 | leave1; try dsimp only)
      refine ilshift_int (by decide) ?_ ?_; rotate_left
      focus (repeat' (fail_if_success with_reducible first | refine zzW ?_ | refine zzF ?_ | refine zzC ?_ | refine zzL ?_ | refine zzD ?_); first | k_unfold; try dsimp only | walk1 | dsimp only; walk1 | leave1; try dsimp only)
      rotate_right
      · have : (v.natAbs : Int) < 2 ^ (6 * j) := by
          rw [Int.pow_mul]
          have : ((2 : Int) ^ 6) = 64 := by decide
          rw [this]; omega
        have hbits : Builtin.Int.intBits v ≤ 6 * j := intBits_le_iff.mpr (by exact_mod_cast this)
        have : j ≤ 1000 := by omega
        omega
      · rename Fr _ _ _ _ => F₅
        rename News _ _ _ _ => N₅
        have hbit : b / 64 % 2 = 1 := by
          rename ¬ (Builtin.bitAnd b 64 = 0) => hq
          rw [and_bit] at hq
          omega
        rw [if_pos hbit] at hr
        rcases item_of hi j with ⟨h0, hx⟩ | ⟨c, t, h0, hx⟩
        · refine next_end rfl F₅ N₅ (UpdF.head (by k_all)) ⟨_, (N₅ _ (.tail _ (.head _))).1, rfl, _, rfl⟩ hx ?_
          intro h₂ h' e F₂ N₂ hx'
          refine leave_newS B hx' F₂ N₂ (fun h₃ R₃ _ up => exc _ _ _ _ ?_ R₃ up)
          have : ns.drop j = [] := by simpa using h0
          rw [hr, this]; rfl
        · refine next_item F₅ N₅ (UpdF.head (by k_all)) ⟨_, (N₅ _ (.tail _ (.head _))).1, rfl, _, rfl⟩ hx ?_
          intro h₆ F₆ N₆
          (repeat' (fail_if_success with_reducible first | refine zzW ?_ | refine zzF ?_ | refine zzC ?_ | refine zzL ?_ | refine zzD ?_); first | k_unfold; try dsimp only | walk1 | dsimp only; walk1 | leave1; try dsimp only)
          rename Fr _ _ _ _ => F₇
          rename News _ _ _ _ => N₇
          have hc := hoct c (List.mem_of_getElem? h0)
          have hjl : j < ns.length := (List.getElem?_eq_some_iff.mp h0).1
          have Jturn : ∀ (tn tv' : Tok) {m₁ : Str → Option Value} {nw : List (Addr × Obj)}, m₁ = (fun y => if y = Str.ofString "val" then some (.int (Builtin.bitOr (v * 2 ^ Int.toNat 6) (Builtin.bitAnd c 63)) tn) else if y = Str.ofString "b" then some (.int c t) else if y = Str.ofString "val" then some (.int (v * 2 ^ Int.toNat 6) tv') else pvMap it b v tb tv y) → nw = [(it, itObj l (j + 1)), (l, listOf vs.toArray n)] →
              ∃ (j' : Nat) (b v : Int) (tb tv : Tok), ns.length - (j + 1) = ns.length - j' ∧ j' ≤ ns.length ∧ m₁ = pvMap it b v tb tv ∧ nw = [(it, itObj l j'), (l, listOf vs.toArray n)] ∧ 0 ≤ b ∧ b < 256 ∧ 0 ≤ v ∧ v < 64 ^ j' ∧
              readMore 0 (ns.drop i) = (if b / 64 % 2 = 1 then readMore v (ns.drop j') else some (v, ns.drop j')) := by
            intro tn tv' m₁ nw e1 e2
            have e64 : v * 2 ^ Int.toNat 6 = v * 64 := rfl
            rw [e64, bitAnd_m6, or_low v (c % 64) (by omega) (by omega)] at e1
            refine ⟨j + 1, c, v * 64 + c % 64, t, tn, rfl, by omega, ?_, e2, hc.1, hc.2, by omega, ?_, ?_⟩
            · rw [e1]; exact pvMap_eq ..
            · rw [Int.pow_succ]; omega
            · rw [hr, List.drop_eq_getElem_cons hjl, (List.getElem?_eq_some_iff.mp h0).2]
              rfl
          exact ⟨_, _, _, _, _, rfl, F₇, N₇, by omega, Jturn _ _ rfl rfl⟩
      · have hbit : ¬ (b / 64 % 2 = 1) := by
          rename (Builtin.bitAnd b 64 = 0) => hq
          rw [and_bit] at hq
          omega
        rw [if_neg hbit] at hr
        exact ret v j tv _ _ hr hj ⟨F₄.keep, fun p hp => ⟨(N₄ p hp).1, (N₄ p hp).2.2⟩⟩
-- Rd
noncomputable def readAll : Nat → List Int → List Int
  | 0, _ => []
  | f + 1, l => match readMore 0 l with
    | none => []
    | some (v, r) => v :: readAll f r

theorem stop_exc : isSubtype (.type "StopIteration") (.type "BaseException") = pure true := by rw [isSubtype_type]; kernel_rfl
theorem stop_tup : isSubtype (.type ((Manifest.find? "StopIteration").elim "type" fun x => x.metatype)) (.type "tuple") = pure false := by
  rw [isSubtype_type]; kernel_rfl
theorem stop_sub : isSubtype (.type "StopIteration") (.type "StopIteration") = pure true := by rw [isSubtype_type]; kernel_rfl
theorem readMore_shorter : ∀ (l : List Int) (a v : Int) (r : List Int), readMore a l = some (v, r) → r.length < l.length
  | [], _, _, _, h => by cases h
  | b :: l, a, v, r, h => by
    unfold readMore at h
    split at h
    · have := readMore_shorter l _ _ _ h
      simp only [List.length_cons]; omega
    · cases h; simp
theorem readAll_fuel : ∀ (f f' : Nat) (l : List Int), l.length < f → l.length < f' → readAll f l = readAll f' l
  | 0, _, _, h, _ => absurd h (Nat.not_lt_zero _)
  | _, 0, _, _, h => absurd h (Nat.not_lt_zero _)
  | f + 1, f' + 1, l, h, h' => by
    unfold readAll
    cases q : readMore 0 l with
    | none => rfl
    | some p =>
      (first | ((first | with_reducible refine Exists.elim p ?_ | with_reducible refine conj_elim p ?_); (try clear p); rintro (v) (r)) | obtain ⟨v, r⟩ := p)
      have := readMore_shorter l _ _ _ q
      simp only
      rw [readAll_fuel f f' r (by omega) (by omega)]
theorem ints_snoc {vs : List Value} {ns : List Int} {x : Int} {t : Tok} (h : IntsAre vs ns) : IntsAre (vs ++ [.int x t]) (ns ++ [x]) := by
  induction h with
  | nil => exact .cons _ _ .nil
  | cons a b _ ih => exact .cons _ _ ih
theorem read_spec {w : World} {mean : ExcName → Option Value} {mg mb : Str → Option Value} {base g : Heap} {outer : List Env} {s : Shared} {dp un : Nat} {gd : Option (List Code)} {R : Result → Shared → Prop}
    {l : Addr} {n : Nat} {vs : List Value} {ns : List Int}
    (S : Sit w mean mg mb base outer g s.heap [(l, listOf vs.toArray n)])
    (hi : IntsAre vs ns) (hoct : ∀ x ∈ ns, 0 ≤ x ∧ x < 256) (hlen : ns.length ≤ 1000) (hd : dp + 10 < recursionLimit) (hu : un + 100 < cLine)
    (ret : ∀ g' N k ws h' tk', KtsTurn (frs outer) g g' → IntsAre ws (readAll (ns.length + 1) ns) → @Ne Nat N l → Done g' h' [(N, listOf ws.toArray k), (l, listOf vs.toArray n)] → R (.ok (.ret (.ref N))) { s with heap := h', toks := tk' }) :
    codeAny (model P w) (arnd dp un gd outer) (.call (.ref 176) ⟨[.ref l], []⟩) R s := by
  refine S.enter (binds := [(Str.ofString "octets", .ref l)]) (by k_is) (by k_is) (by omega) (BindsTo.of_eq rfl) (locs rfl) ?_ rfl rfl rfl (by dsimp only; decide)
  intro L h₁ F N B X T D XB TB hlt
  (repeat' (fail_if_success with_reducible first | refine zzW ?_ | refine zzF ?_ | refine zzC ?_ | refine zzL ?_ | refine zzD ?_); first | k_unfold; try dsimp only | walk1 | dsimp only; walk1 | leave1; try dsimp only)
  rename Fr _ _ _ _ => F₃
  rename News _ _ _ _ => N₃
  rename_i I ha l1 Nn hb _ l2 T₀ hc _ _ l3 hd' he h₃
  refine While_inv2 (fun k m₁ nw => ∃ (j : Nat) (ws : List Value) (us : List Int) (kk : Nat), k = ns.length - j ∧ j ≤ ns.length ∧ m₁ = _ ∧ nw = [(T₀, { cls := Value.type "tuple", data := Data.seq #[Value.ref I, Value.ref Nn] }), (Nn, listOf ws.toArray kk), (I, itObj l j), (l, listOf vs.toArray n)] ∧ IntsAre ws us ∧ us.length ≤ j ∧
        us ++ readAll (ns.length + 1) (ns.drop j) = readAll (ns.length + 1) ns) F₃ N₃ (n₀ := ns.length) ⟨0, [], [], 0, by simp, by simp, rfl, rfl, .nil, by simp, by simp⟩ ?_
  rintro k m₁ nw h₃ tk₃ F₄ N₄ ⟨j, ws, us, kk, rfl, hj, rfl, rfl, hws, hul, hr⟩
  (repeat' (fail_if_success with_reducible first | refine zzW ?_ | refine zzF ?_ | refine zzC ?_ | refine zzL ?_ | refine zzD ?_); first | k_unfold; try dsimp only | walk1 | dsimp only; walk1 | leave1; try dsimp only)
  refine call_use B F₄ N₄ XB TB D [(I, itObj l j), (l, listOf vs.toArray n)] [(T₀, { cls := Value.type "tuple", data := Data.seq #[Value.ref I, Value.ref Nn] }), (Nn, listOf ws.toArray kk)] (by k_allIn) (by k_allIn) (by (repeat (first | exact fmNil | refine fmCons (by k_all) ?_))) ?_
  intro g₁ S₁ back backT backE
  refine parse_spec S₁ (by omega) hi hoct hlen (by dsimp only [arnd]; omega) (by dsimp only [arnd]; omega) ?_ ?_
  · intro v i' t h' tk' hv hi' Dn
    (first | ((first | refine Exists.elim (back _ _ Dn) ?_ | refine conj_elim (back _ _ Dn) ?_); rintro (F₅) tmp; (first | ((first | with_reducible refine Exists.elim tmp ?_ | with_reducible refine conj_elim tmp ?_); (try clear tmp); rintro (N₅) (hne)) | obtain ⟨N₅, hne⟩ := tmp)) | obtain ⟨F₅, N₅, hne⟩ := back _ _ Dn)
    clear F₄ N₄ F₃ N₃
    dsimp only
    simp only [List.cons_append, List.nil_append] at N₅
    (repeat' (fail_if_success with_reducible first | refine zzW ?_ | refine zzF ?_ | refine zzC ?_ | refine zzL ?_ | refine zzD ?_); first | k_unfold; try dsimp only | walk1 | dsimp only; walk1 | leave1; try dsimp only)
    rename Fr _ _ _ _ => F₆
    rename News _ _ _ _ => N₆
    have hsh := readMore_shorter _ _ _ _ hv
    simp only [List.length_drop] at hsh
    refine ⟨_, _, _, _, ns.length - i', rfl, F₆, cb_drop N₆ (news := [(T₀, { cls := Value.type "tuple", data := Data.seq #[Value.ref I, Value.ref Nn] }), (Nn, listOf (ws.toArray.push (Value.int v t)) (kk + 1)), (I, itObj l i'), (l, listOf vs.toArray n)]) (by k_allIn), by omega, i', ws ++ [.int v t], us ++ [v], kk + 1, rfl, hi', rfl, by simp, ints_snoc hws, by simp; omega, ?_⟩
    rw [← hr, List.append_assoc]
    congr 1
    conv => rhs; unfold readAll; rw [hv]
    simp only [List.singleton_append, List.cons.injEq, true_and]
    exact readAll_fuel _ _ _ (by simp; omega) (by simp; omega)
  · intro e i' h' tk' hv Rz up
    (first | ((first | refine Exists.elim (backE _ _ _ _ Rz up (by simp)) ?_ | refine conj_elim (backE _ _ _ _ Rz up (by simp)) ?_); rintro (G) tmp; (first | ((first | with_reducible refine Exists.elim tmp ?_ | with_reducible refine conj_elim tmp ?_); (try clear tmp); rintro (FG) tmp; (first | ((first | with_reducible refine Exists.elim tmp ?_ | with_reducible refine conj_elim tmp ?_); (try clear tmp); rintro (Rz') (up')) | obtain ⟨Rz', up'⟩ := tmp)) | obtain ⟨FG, Rz', up'⟩ := tmp)) | obtain ⟨G, FG, Rz', up'⟩ := backE _ _ _ _ Rz up (by simp))
    dsimp only
    refine caught_SN0 (T' := "StopIteration") Rz' FG B up' XB TB D KtsTurn.refl (by k_is) (by boot_by_name) (by decide) stop_exc stop_tup stop_sub ?_
    intro h₇ g' T₇ F₇ N₇ B₇ X₇ P₇ D₇
    (repeat' (fail_if_success with_reducible first | refine zzW ?_ | refine zzF ?_ | refine zzC ?_ | refine zzL ?_ | refine zzD ?_); first | k_unfold; try dsimp only | walk1 | dsimp only; walk1 | leave1; try dsimp only)
    have hlast : us = readAll (ns.length + 1) ns := by
      rw [← hr]
      conv => rhs; unfold readAll; rw [hv]
      simp
    refine ret g' Nn kk ws _ _ T₇ (hlast ▸ hws) (by omega) ⟨F₇.keep, fun p hp => ?_⟩
    have hp' : p ∈ ([(I, itEnd i'), (l, listOf vs.toArray n)] ++ [(T₀, { cls := Value.type "tuple", data := Data.seq #[Value.ref I, Value.ref Nn] }), (Nn, listOf ws.toArray kk)] : List (Addr × Obj)) := by
      simp only [List.mem_cons, List.not_mem_nil, or_false, List.mem_append] at hp ⊢
      rcases hp with rfl | rfl <;> simp
    exact ⟨(N₇ p hp').1, (N₇ p hp').2.2⟩
-- Jn
noncomputable abbrev tup2 (n : Int) (t : Tok) (o : Int) (u : Tok) : Obj := { cls := .type "tuple", data := .seq #[.int n t, .int o u] }

theorem joined_spec {w : World} {mean : ExcName → Option Value} {mg mb : Str → Option Value} {base g : Heap} {outer : List Env} {s : Shared} {dp un : Nat} {gd : Option (List Code)} {R : Result → Shared → Prop}
    {fz : List (Addr × Obj)} {a b t u : Addr} {k k' : Nat} {vs ws : List Value} {n1 o1 n2 o2 : Int} {x1 x2 x3 x4 : Tok}
    (S : Sit w mean mg mb base outer g s.heap fz)
    (ha : (a, listOf (vs ++ [Value.ref t]).toArray k) ∈ fz) (ht : (t, tup2 n1 x1 o1 x2) ∈ fz) (hb : (b, listOf (Value.ref u :: ws).toArray k') ∈ fz) (hu' : (u, tup2 n2 x3 o2 x4) ∈ fz)
    (hvl : vs.length ≤ 10000) (hwl : ws.length ≤ 10000) (ho1 : 0 ≤ o2) (ho2 : o2 ≤ 1000) (hn1 : Builtin.Int.intBits n1 ≤ 10000) (hd : dp + 5 < recursionLimit) (hu : un + 50 < cLine)
    (ret : ∀ c d k'' y1 y2 h' tk', Done g h' ((c, listOf (vs ++ [Value.ref d] ++ ws).toArray k'') :: (d, tup2 (n1 * 64 ^ o2.toNat + n2) y1 (o1 + o2) y2) :: fz) → R (.ok (.ret (.ref c))) { s with heap := h', toks := tk' }) :
    codeAny (model P w) (arnd dp un gd outer) (.call (.ref 190) ⟨[.ref a, .ref b], []⟩) R s := by
  refine S.enter (binds := [(Str.ofString "left", .ref a), (Str.ofString "right", .ref b)]) (by k_is) (by k_is) (by omega) (BindsTo.of_eq rfl) (locs rfl) ?_ rfl rfl rfl (by decide)
  intro L h₁ F N B X T D XB TB hlt
  (repeat' (fail_if_success with_reducible first | refine zzW ?_ | refine zzF ?_ | refine zzC ?_ | refine zzL ?_ | refine zzD ?_); first | k_unfold; try dsimp only | walk1 | dsimp only; walk1 | leave1; try dsimp only)
  refine item_last N ha ?_
  (repeat' (fail_if_success with_reducible first | refine zzW ?_ | refine zzF ?_ | refine zzC ?_ | refine zzL ?_ | refine zzD ?_); first | k_unfold; try dsimp only | walk1 | dsimp only; walk1 | leave1; try dsimp only)
  rename News _ _ _ _ => N₂
  refine item_at N₂ hb (by decide) (by decide) (x := .ref u) (by simp) ?_
  (repeat' (fail_if_success with_reducible first | refine zzSl ?_); first | k_unfold; try dsimp only | walk1 | dsimp only; walk1 | leave1; try dsimp only)
  rename News _ _ _ _ => N₃
  rename Fr _ _ _ _ => F₃
  refine slice_at F₃ N₃ ha .none (.int _ _) (ys := vs) ((slicePick_butLast (vs ++ [Value.ref t]).toArray 1 (by decide)).trans (by simp)) ?_ (hsz := by simp only [List.size_toArray, List.length_append, List.length_cons, List.length_nil]; rw [sizeLine_eq]; omega)
  intro a₄ h₄ F₄ N₄ l₄
  (repeat' (fail_if_success with_reducible first | refine zzW ?_ | refine zzF ?_ | refine zzC ?_ | refine zzL ?_ | refine zzD ?_); first | k_unfold; try dsimp only | walk1 | dsimp only; walk1 | leave1; try dsimp only)
  have hb64 : Builtin.Int.intBits ((64 : Int) ^ o2.toNat) ≤ 7 * 1000 + 1 := by
    have h64 : Builtin.Int.intBits (64 : Int) ≤ 7 := intBits_le_iff.mpr (by decide)
    have := intBits_pow_le h64 o2.toNat
    omega
  refine PyProof.Rows.mul_int ?_ (IntMulOk.of_le hn1 hb64 (by decide))
  (repeat' (fail_if_success with_reducible first | refine zzSl ?_); first | k_unfold; try dsimp only | walk1 | dsimp only; walk1 | leave1; try dsimp only)
  rename News _ _ _ _ => N₅
  rename Fr _ _ _ _ => F₅
  refine slice_at F₅ N₅ (.tail _ (.tail _ (.tail _ (.tail _ hb)))) (.int _ _) .none (ys := ws) ((slicePick_from' (Value.ref u :: ws).toArray 1).trans (by simp)) ?_ (hsz := by simp only [List.size_toArray, List.length_append, List.length_cons, List.length_nil]; rw [sizeLine_eq]; omega)
  intro a₆ h₆ F₆ N₆ l₆
  (repeat' (fail_if_success with_reducible first | refine zzW ?_ | refine zzF ?_ | refine zzC ?_ | refine zzL ?_ | refine zzD ?_); first | k_unfold; try dsimp only | walk1 | dsimp only; walk1 | leave1; try dsimp only)
  rename News _ _ _ _ => N₇
  rename Fr _ _ _ _ => F₇
  exact ret _ _ _ _ _ _ _ (done_of F₇ N₇ (by (repeat (first | exact fmNil | refine fmCons (by k_memK) ?_ | intro p9 hp9; k_ownIn))))
-- Ps
theorem pairs_spec {w : World} {mean : ExcName → Option Value} {mg mb : Str → Option Value} {base g : Heap} {outer : List Env} {s : Shared} {dp un : Nat} {gd : Option (List Code)} {R : Result → Shared → Prop}
    {fz : List (Addr × Obj)} {D : Addr} {od : Obj} {kvs : List (Int × Value)} {p : Int} {tp : Tok}
    (S : Sit w mean mg mb base outer g s.heap ((D, od) :: fz)) (hod : od.IsDictOf (PySem.intKind P w) kvs)
    (hd : dp + 5 < recursionLimit) (hu : un + 50 < cLine)
    (h1 : p < 0 → ∃ v, valueAt kvs (-1 - p) = some v ∧ ∀ h' tk', Done g h' ((D, od) :: fz) → R (.ok (.ret v)) { s with heap := h', toks := tk' })
    (h2 : 0 ≤ p → p / 64 % 2 = 1 → ∀ a t k x y h' tk', Done g h' ((a, listOf #[Value.ref t] k) :: (t, tup2 (p % 64) x 1 y) :: (D, od) :: fz) → R (.ok (.ret (.ref a))) { s with heap := h', toks := tk' })
    (h3 : 0 ≤ p → ¬ (p / 64 % 2 = 1) → ∀ a t u k x y x' y' h' tk', Done g h' ((a, listOf #[Value.ref t, Value.ref u] k) :: (t, tup2 (p % 64) x 1 y) :: (u, tup2 0 x' 0 y') :: (D, od) :: fz) → R (.ok (.ret (.ref a))) { s with heap := h', toks := tk' }) :
    codeAny (model P w) (arnd dp un gd outer) (.call (.ref 183) ⟨[.int p tp, .ref D], []⟩) R s := by
  refine S.enter (binds := [(Str.ofString "part", .int p tp), (Str.ofString "told", .ref D)]) (by k_is) (by k_is) (by omega) (BindsTo.of_eq rfl) (locs rfl) ?_ rfl rfl rfl (by decide)
  intro L h₁ F N B X T KD XB TB hlt
  (repeat' (fail_if_success with_reducible first | refine zzW ?_ | refine zzF ?_ | refine zzC ?_ | refine zzL ?_ | refine zzD ?_); first | k_unfold; try dsimp only | walk1 | dsimp only; walk1 | leave1; try dsimp only)
  · rename (p < 0) => hp
    (first | ((first | refine Exists.elim (h1 hp) ?_ | refine conj_elim (h1 hp) ?_); rintro (v) tmp; (first | ((first | with_reducible refine Exists.elim tmp ?_ | with_reducible refine conj_elim tmp ?_); (try clear tmp); rintro (hv) (k)) | obtain ⟨hv, k⟩ := tmp)) | obtain ⟨v, hv, k⟩ := h1 hp)
    refine kda_item (knd := PySem.intKind P w) N (.head _) hod (intKind_is _ _ _ _) hv ?_
    exact k _ _ (done_of F N (by (repeat (first | exact fmNil | refine fmCons (by k_memK) ?_ | intro p9 hp9; k_ownIn))))
  · rename Fr _ _ _ _ => F₂
    rename News _ _ _ _ => N₂
    rename ¬ (p < 0) => hp
    rename ((p.fdiv 64).fmod 2 = 1) => hq
    have e : p.fmod 64 = p % 64 := Int.fmod_eq_emod_of_nonneg p (by decide)
    rw [Int.fmod_eq_emod_of_nonneg _ (by decide), Int.fdiv_eq_ediv_of_nonneg _ (by decide)] at hq
    rw [e] at N₂
    exact h2 (by omega) hq _ _ _ _ _ _ _ (done_of F₂ N₂ (by (repeat (first | exact fmNil | refine fmCons (by k_memK) ?_ | intro p9 hp9; k_ownIn))))
  · rename Fr _ _ _ _ => F₂
    rename News _ _ _ _ => N₂
    rename ¬ (p < 0) => hp
    rename ¬ ((p.fdiv 64).fmod 2 = 1) => hq
    have e : p.fmod 64 = p % 64 := Int.fmod_eq_emod_of_nonneg p (by decide)
    rw [Int.fmod_eq_emod_of_nonneg _ (by decide), Int.fdiv_eq_ediv_of_nonneg _ (by decide)] at hq
    rw [e] at N₂
    exact h3 (by omega) hq _ _ _ _ _ _ _ _ _ _ (done_of F₂ N₂ (by (repeat (first | exact fmNil | refine fmCons (by k_memK) ?_ | intro p9 hp9; k_ownIn))))
-- Rdc
inductive RefsIn (fz : List (Addr × Obj)) : List Value → List (Int × Int) → Prop where
  | nil : RefsIn fz [] []
  | cons {t : Addr} {n o : Int} {a b : Tok} {vs : List Value} {ps : List (Int × Int)} : (t, tup2 n a o b) ∈ fz → RefsIn fz vs ps → RefsIn fz (.ref t :: vs) ((n, o) :: ps)
theorem RefsIn.mono {fz fz' : List (Addr × Obj)} {vs : List Value} {ps : List (Int × Int)} (h : RefsIn fz vs ps) (hs : ∀ p ∈ fz, p ∈ fz') : RefsIn fz' vs ps := by
  induction h with
  | nil => exact .nil
  | cons hm _ ih => exact .cons (hs _ hm) ih
theorem RefsIn.length {fz : List (Addr × Obj)} {vs : List Value} {ps : List (Int × Int)} (h : RefsIn fz vs ps) : vs.length = ps.length := by
  induction h with
  | nil => rfl
  | cons _ _ ih => simp [ih]
theorem RefsIn.append {fz : List (Addr × Obj)} {vs ws : List Value} {ps qs : List (Int × Int)} (h : RefsIn fz vs ps) (h' : RefsIn fz ws qs) : RefsIn fz (vs ++ ws) (ps ++ qs) := by
  induction h with
  | nil => exact h'
  | cons hm _ ih => exact .cons hm ih
theorem RefsIn.snoc {fz : List (Addr × Obj)} : ∀ {vs : List Value} {ps : List (Int × Int)}, RefsIn fz vs ps → ps ≠ [] → ∃ vs' t n o a b, vs = vs' ++ [.ref t] ∧ ps = ps.dropLast ++ [(n, o)] ∧ (t, tup2 n a o b) ∈ fz ∧ RefsIn fz vs' ps.dropLast
  | _, _, .nil, h => absurd rfl h
  | _, _, .cons (t := t) (n := n) (o := o) (a := a) (b := b) hm .nil, _ => ⟨[], t, n, o, a, b, rfl, rfl, hm, .nil⟩
  | _, _, .cons (t := t) (n := n) (o := o) (a := a) (b := b) hm (.cons hm' r), _ => by
    (first | ((first | refine Exists.elim (RefsIn.snoc (.cons hm' r) (by simp)) ?_ | refine conj_elim (RefsIn.snoc (.cons hm' r) (by simp)) ?_); rintro (vs') tmp; (first | ((first | with_reducible refine Exists.elim tmp ?_ | with_reducible refine conj_elim tmp ?_); (try clear tmp); rintro (t') tmp; (first | ((first | with_reducible refine Exists.elim tmp ?_ | with_reducible refine conj_elim tmp ?_); (try clear tmp); rintro (n') tmp; (first | ((first | with_reducible refine Exists.elim tmp ?_ | with_reducible refine conj_elim tmp ?_); (try clear tmp); rintro (o') tmp; (first | ((first | with_reducible refine Exists.elim tmp ?_ | with_reducible refine conj_elim tmp ?_); (try clear tmp); rintro (a') tmp; (first | ((first | with_reducible refine Exists.elim tmp ?_ | with_reducible refine conj_elim tmp ?_); (try clear tmp); rintro (b') tmp; (first | ((first | with_reducible refine Exists.elim tmp ?_ | with_reducible refine conj_elim tmp ?_); (try clear tmp); rintro (e1) tmp; (first | ((first | with_reducible refine Exists.elim tmp ?_ | with_reducible refine conj_elim tmp ?_); (try clear tmp); rintro (e2) tmp; (first | ((first | with_reducible refine Exists.elim tmp ?_ | with_reducible refine conj_elim tmp ?_); (try clear tmp); rintro (h1) (h2)) | obtain ⟨h1, h2⟩ := tmp)) | obtain ⟨e2, h1, h2⟩ := tmp)) | obtain ⟨e1, e2, h1, h2⟩ := tmp)) | obtain ⟨b', e1, e2, h1, h2⟩ := tmp)) | obtain ⟨a', b', e1, e2, h1, h2⟩ := tmp)) | obtain ⟨o', a', b', e1, e2, h1, h2⟩ := tmp)) | obtain ⟨n', o', a', b', e1, e2, h1, h2⟩ := tmp)) | obtain ⟨t', n', o', a', b', e1, e2, h1, h2⟩ := tmp)) | obtain ⟨vs', t', n', o', a', b', e1, e2, h1, h2⟩ := RefsIn.snoc (.cons hm' r) (by simp))
    refine ⟨.ref t :: vs', t', n', o', a', b', by rw [e1]; rfl, ?_, h1, ?_⟩
    · rw [List.dropLast_cons_of_ne_nil (by simp), List.cons_append, ← e2]
    · rw [List.dropLast_cons_of_ne_nil (by simp)]; exact .cons hm h2

noncomputable def PairsAt (fz : List (Addr × Obj)) (v : Value) (ps : List (Int × Int)) : Prop := ∃ a vs k, v = .ref a ∧ (a, listOf vs.toArray k) ∈ fz ∧ RefsIn fz vs ps
theorem PairsAt.mono {fz fz' : List (Addr × Obj)} {v : Value} {ps : List (Int × Int)} (h : PairsAt fz v ps) (hs : ∀ p ∈ fz, p ∈ fz') : PairsAt fz' v ps := by
  (first | ((first | with_reducible refine Exists.elim h ?_ | with_reducible refine conj_elim h ?_); (try clear h); rintro (a) tmp; (first | ((first | with_reducible refine Exists.elim tmp ?_ | with_reducible refine conj_elim tmp ?_); (try clear tmp); rintro (vs) tmp; (first | ((first | with_reducible refine Exists.elim tmp ?_ | with_reducible refine conj_elim tmp ?_); (try clear tmp); rintro (k) tmp; (first | ((first | with_reducible refine Exists.elim tmp ?_ | with_reducible refine conj_elim tmp ?_); (try clear tmp); rintro (rfl) tmp; (first | ((first | with_reducible refine Exists.elim tmp ?_ | with_reducible refine conj_elim tmp ?_); (try clear tmp); rintro (hm) (hr)) | obtain ⟨hm, hr⟩ := tmp)) | obtain ⟨rfl, hm, hr⟩ := tmp)) | obtain ⟨k, rfl, hm, hr⟩ := tmp)) | obtain ⟨vs, k, rfl, hm, hr⟩ := tmp)) | obtain ⟨a, vs, k, rfl, hm, hr⟩ := h)
  exact ⟨a, vs, k, rfl, hs _ hm, hr.mono hs⟩

/-- the pairs of a text of at most N octets -/
structure WF (N : Nat) (ps : List (Int × Int)) : Prop where
  ne : ps ≠ []
  len : ps.length ≤ N + 1
  each : ∀ p ∈ ps, 0 ≤ p.2 ∧ p.2 ≤ N ∧ 0 ≤ p.1 ∧ p.1 < 64 ^ p.2.toNat
noncomputable def joinP (l r : List (Int × Int)) : List (Int × Int) :=
  l.dropLast ++ [((l.getLastD (0, 0)).1 * 64 ^ (r.headD (0, 0)).2.toNat + (r.headD (0, 0)).1, (l.getLastD (0, 0)).2 + (r.headD (0, 0)).2)] ++ r.tail
theorem WF.join {N M : Nat} {l r : List (Int × Int)} (hl : WF N l) (hr : WF M r) : WF (N + M) (joinP l r) := by
  rcases hr' : r.headD (0, 0) with ⟨n2, o2⟩
  have hr2 : r = (n2, o2) :: r.tail := by
    cases r with
    | nil => exact absurd rfl hr.ne
    | cons x r => simp at hr'; rw [hr']; rfl
  rcases hl' : l.getLastD (0, 0) with ⟨n1, o1⟩
  have hl2 : l = l.dropLast ++ [(n1, o1)] := by
    have := List.dropLast_concat_getLast hl.ne
    rw [List.getLastD_eq_getLast?, List.getLast?_eq_some_getLast hl.ne] at hl'
    simp at hl'
    rw [hl'] at this; exact this.symm
  have e1 := hl.each (n1, o1) (by rw [hl2]; simp)
  have e2 := hr.each (n2, o2) (by rw [hr2]; simp)
  have len1 := hl.len
  have len2 := hr.len
  refine ⟨by simp [joinP], ?_, ?_⟩
  · have h1 := congrArg List.length hl2
    have h2 := congrArg List.length hr2
    simp only [List.length_append, List.length_cons, List.length_nil] at h1 h2
    simp only [joinP, List.length_append, List.length_cons, List.length_nil]
    omega
  · intro p hp
    simp only [joinP, hr', hl', List.mem_append, List.mem_singleton] at hp
    rcases hp with (hp | rfl) | hp
    · have := hl.each p (List.dropLast_subset l hp)
      omega
    · dsimp only at e1 e2 ⊢
      have hz : (o1 + o2).toNat = o1.toNat + o2.toNat := by omega
      have hp2 : (0 : Int) < 64 ^ o2.toNat := pow_pos_of (by decide) _
      refine ⟨by omega, by omega, Int.add_nonneg (Int.mul_nonneg e1.2.2.1 (Int.le_of_lt hp2)) e2.2.2.1, ?_⟩
      rw [hz, Int.pow_add]
      have : (n1 + 1) * 64 ^ o2.toNat ≤ 64 ^ o1.toNat * 64 ^ o2.toNat := Int.mul_le_mul_of_nonneg_right (by omega) (Int.le_of_lt hp2)
      rw [Int.add_mul, Int.one_mul] at this
      omega
    · have := hr.each p (by rw [hr2]; exact List.mem_cons_of_mem _ hp)
      omega
-- Rdd
theorem joined_at {w : World} {mean : ExcName → Option Value} {mg mb : Str → Option Value} {base g : Heap} {outer : List Env} {s : Shared} {dp un : Nat} {gd : Option (List Code)} {R : Result → Shared → Prop}
    {fz : List (Addr × Obj)} {v1 v2 : Value} {l r : List (Int × Int)} {N M : Nat}
    (S : Sit w mean mg mb base outer g s.heap fz) (h1 : PairsAt fz v1 l) (h2 : PairsAt fz v2 r) (w1 : WF N l) (w2 : WF M r) (hN : N ≤ 1000) (hM : M ≤ 1000) (hd : dp + 5 < recursionLimit) (hu : un + 50 < cLine)
    (ret : ∀ v tl h' tk', PairsAt (tl ++ fz) v (joinP l r) → Done g h' (tl ++ fz) → R (.ok (.ret v)) { s with heap := h', toks := tk' }) :
    codeAny (model P w) (arnd dp un gd outer) (.call (.ref 190) ⟨[v1, v2], []⟩) R s := by
  (first | ((first | with_reducible refine Exists.elim h1 ?_ | with_reducible refine conj_elim h1 ?_); (try clear h1); rintro (a) tmp; (first | ((first | with_reducible refine Exists.elim tmp ?_ | with_reducible refine conj_elim tmp ?_); (try clear tmp); rintro (vs) tmp; (first | ((first | with_reducible refine Exists.elim tmp ?_ | with_reducible refine conj_elim tmp ?_); (try clear tmp); rintro (k) tmp; (first | ((first | with_reducible refine Exists.elim tmp ?_ | with_reducible refine conj_elim tmp ?_); (try clear tmp); rintro (rfl) tmp; (first | ((first | with_reducible refine Exists.elim tmp ?_ | with_reducible refine conj_elim tmp ?_); (try clear tmp); rintro (ha) (hra)) | obtain ⟨ha, hra⟩ := tmp)) | obtain ⟨rfl, ha, hra⟩ := tmp)) | obtain ⟨k, rfl, ha, hra⟩ := tmp)) | obtain ⟨vs, k, rfl, ha, hra⟩ := tmp)) | obtain ⟨a, vs, k, rfl, ha, hra⟩ := h1)
  (first | ((first | with_reducible refine Exists.elim h2 ?_ | with_reducible refine conj_elim h2 ?_); (try clear h2); rintro (b) tmp; (first | ((first | with_reducible refine Exists.elim tmp ?_ | with_reducible refine conj_elim tmp ?_); (try clear tmp); rintro (ws) tmp; (first | ((first | with_reducible refine Exists.elim tmp ?_ | with_reducible refine conj_elim tmp ?_); (try clear tmp); rintro (k') tmp; (first | ((first | with_reducible refine Exists.elim tmp ?_ | with_reducible refine conj_elim tmp ?_); (try clear tmp); rintro (rfl) tmp; (first | ((first | with_reducible refine Exists.elim tmp ?_ | with_reducible refine conj_elim tmp ?_); (try clear tmp); rintro (hb) (hrb)) | obtain ⟨hb, hrb⟩ := tmp)) | obtain ⟨rfl, hb, hrb⟩ := tmp)) | obtain ⟨k', rfl, hb, hrb⟩ := tmp)) | obtain ⟨ws, k', rfl, hb, hrb⟩ := tmp)) | obtain ⟨b, ws, k', rfl, hb, hrb⟩ := h2)
  (first | ((first | refine Exists.elim (hra.snoc w1.ne) ?_ | refine conj_elim (hra.snoc w1.ne) ?_); rintro (vs') tmp; (first | ((first | with_reducible refine Exists.elim tmp ?_ | with_reducible refine conj_elim tmp ?_); (try clear tmp); rintro (t) tmp; (first | ((first | with_reducible refine Exists.elim tmp ?_ | with_reducible refine conj_elim tmp ?_); (try clear tmp); rintro (n1) tmp; (first | ((first | with_reducible refine Exists.elim tmp ?_ | with_reducible refine conj_elim tmp ?_); (try clear tmp); rintro (o1) tmp; (first | ((first | with_reducible refine Exists.elim tmp ?_ | with_reducible refine conj_elim tmp ?_); (try clear tmp); rintro (x1) tmp; (first | ((first | with_reducible refine Exists.elim tmp ?_ | with_reducible refine conj_elim tmp ?_); (try clear tmp); rintro (x2) tmp; (first | ((first | with_reducible refine Exists.elim tmp ?_ | with_reducible refine conj_elim tmp ?_); (try clear tmp); rintro (rfl) tmp; (first | ((first | with_reducible refine Exists.elim tmp ?_ | with_reducible refine conj_elim tmp ?_); (try clear tmp); rintro (el) tmp; (first | ((first | with_reducible refine Exists.elim tmp ?_ | with_reducible refine conj_elim tmp ?_); (try clear tmp); rintro (ht) (hvs')) | obtain ⟨ht, hvs'⟩ := tmp)) | obtain ⟨el, ht, hvs'⟩ := tmp)) | obtain ⟨rfl, el, ht, hvs'⟩ := tmp)) | obtain ⟨x2, rfl, el, ht, hvs'⟩ := tmp)) | obtain ⟨x1, x2, rfl, el, ht, hvs'⟩ := tmp)) | obtain ⟨o1, x1, x2, rfl, el, ht, hvs'⟩ := tmp)) | obtain ⟨n1, o1, x1, x2, rfl, el, ht, hvs'⟩ := tmp)) | obtain ⟨t, n1, o1, x1, x2, rfl, el, ht, hvs'⟩ := tmp)) | obtain ⟨vs', t, n1, o1, x1, x2, rfl, el, ht, hvs'⟩ := hra.snoc w1.ne)
  cases hrb with
  | nil => exact absurd rfl w2.ne
  | cons hu' hrb =>
    rename_i u n2 o2 x3 x4 ws qs
    have len1 := w1.len
    have len2 := w2.len
    have e1 := w1.each (n1, o1) (by rw [el]; simp)
    have e2 := w2.each (n2, o2) (by simp)
    have hl1 := hvs'.length
    have hl2 := hrb.length
    dsimp only at e1 e2
    have hlast : l.getLastD (0, 0) = (n1, o1) := by rw [el]; simp
    have hbits : Builtin.Int.intBits n1 ≤ 6 * o1.toNat := intBits_le_iff.mpr (by
      have : (n1.natAbs : Int) < 2 ^ (6 * o1.toNat) := by
        rw [Int.pow_mul]
        have h64 : ((2 : Int) ^ 6) = 64 := by decide
        rw [h64]; omega
      exact_mod_cast this)
    refine joined_spec S ha ht hb hu' (by simp at len1 hl1; omega) (by simp at len2; omega) (by omega) (by omega) (by omega) hd hu ?_
    intro c d k'' y1 y2 h' tk' Dn
    refine ret (.ref c) [(c, listOf (vs' ++ [Value.ref d] ++ ws).toArray k''), (d, tup2 (n1 * 64 ^ o2.toNat + n2) y1 (o1 + o2) y2)] h' tk' ⟨c, _, k'', rfl, .head _, ?_⟩ Dn
    have sub : ∀ p ∈ fz, p ∈ [(c, listOf (vs' ++ [Value.ref d] ++ ws).toArray k''), (d, tup2 (n1 * 64 ^ o2.toNat + n2) y1 (o1 + o2) y2)] ++ fz := fun p hp => List.mem_append_right _ hp
    unfold joinP
    rw [hlast]
    exact ((hvs'.mono sub).append (.cons (.tail _ (.head _)) .nil)).append (hrb.mono sub)

inductive PairsAll (fz : List (Addr × Obj)) : List Value → List (List (Int × Int)) → Prop where
  | nil : PairsAll fz [] []
  | cons {v : Value} {vs : List Value} {ps : List (Int × Int)} {pss : List (List (Int × Int))} : PairsAt fz v ps → PairsAll fz vs pss → PairsAll fz (v :: vs) (ps :: pss)
theorem PairsAll.get {fz : List (Addr × Obj)} {vs : List Value} {pss : List (List (Int × Int))} (h : PairsAll fz vs pss) : ∀ {i : Nat} {v : Value}, vs[i]? = some v → ∃ ps, pss[i]? = some ps ∧ PairsAt fz v ps := by
  induction h with
  | nil => intro i v e; simp at e
  | cons h1 _ ih =>
    intro i v e
    cases i with
    | zero => simp at e; exact ⟨_, rfl, e ▸ h1⟩
    | succ i => simp at e; simpa using ih e
theorem PairsAll.mono {fz fz' : List (Addr × Obj)} {vs : List Value} {pss : List (List (Int × Int))} (h : PairsAll fz vs pss) (hs : ∀ p ∈ fz, p ∈ fz') : PairsAll fz' vs pss := by
  induction h with
  | nil => exact .nil
  | cons h1 _ ih => exact .cons (h1.mono hs) ih

theorem is_list_ref {M : Model} {A : Around} {E : Value → Shared → Prop} {s : Shared} {x y : Addr} {its : Array Value} {n : Nat} {oy : Obj} {Q : Value → Shared → Prop} (hne : @Ne Nat x y) (hx : s.heap.get? x = some (listOf its n)) (hy : s.heap.get? y = some oy) (h : Q (.bool false) s) :
    wpAny M A (compareOp .Is (.ref x) (.ref y)) Q E s := by
  unfold compareOp isSame
  dsimp only
  have : (x == y) = false := by simpa using hne
  rw [this]
  simp only [Bool.false_eq_true, if_false]
  refine wpAny_bind (wpAny_bind (wpAny_load hx (wpAny_bind (wpAny_load hy ?_))))
  exact wpAny_pure (wpAny_pure h)
noncomputable abbrev rdMap (v : Value) (e : Option Value) (I q i0 : Addr) : Str → Option Value := fun y => if y = Str.ofString "value" then some v else if y = Str.ofString "element" then e else
  if y = Str.ofString "it" then some (.ref I) else if y = Str.ofString "function" then some (.ref 190) else if y = Str.ofString "sequence" then some (.ref q) else if y = Str.ofString "initial" then some (.ref i0) else none
theorem rdMap_start (v : Value) (I q i0 : Addr) : (fun y => if y = Str.ofString "value" then some v else if y = Str.ofString "it" then some (Value.ref I) else List.lookup y [(Str.ofString "function", Value.ref 190), (Str.ofString "sequence", Value.ref q), (Str.ofString "initial", Value.ref i0)].reverse) = rdMap v none I q i0 := by
  funext y
  simp only [rdMap, List.reverse_cons, List.reverse_nil, List.nil_append, List.cons_append, List.lookup_cons, List.lookup_nil]
  by_cases h1 : y = Str.ofString "value"
  · simp [h1]
  by_cases h2 : y = Str.ofString "element"
  · subst h2; rfl
  by_cases h3 : y = Str.ofString "it"
  · subst h3; rfl
  by_cases h4 : y = Str.ofString "function"
  · subst h4; rfl
  by_cases h5 : y = Str.ofString "sequence"
  · subst h5; rfl
  by_cases h6 : y = Str.ofString "initial"
  · subst h6; rfl
  have e4 : (y == Str.ofString "function") = false := by simpa using h4
  have e5 : (y == Str.ofString "sequence") = false := by simpa using h5
  have e6 : (y == Str.ofString "initial") = false := by simpa using h6
  simp [h1, h2, h3, h4, h5, h6, e4, e5, e6]
theorem rdMap_step (v v' : Value) (e : Option Value) (x : Value) (I q i0 : Addr) : (fun y => if y = Str.ofString "value" then some v' else if y = Str.ofString "element" then some x else rdMap v e I q i0 y) = rdMap v' (some x) I q i0 := by
  funext y
  simp only [rdMap]
  by_cases h1 : y = Str.ofString "value"
  · simp [h1]
  by_cases h2 : y = Str.ofString "element"
  · simp [h2]
  simp [h1, h2]
theorem allLt_lt {d : Nat} : ∀ (l : List (Addr × Obj)), AllLt d l → ∀ (p : Addr × Obj), p ∈ l → @LT.lt Nat _ p.1 d := by
  intro l
  induction l with
  | nil => intro _ p hp; exact absurd hp (by simp)
  | cons x l ih =>
    intro h p hp
    rcases List.mem_cons.mp hp with e | hp
    · rw [e]; exact h.1
    · exact ih h.2 p hp
theorem PairsAll.length {fz : List (Addr × Obj)} {vs : List Value} {pss : List (List (Int × Int))} (h : PairsAll fz vs pss) : vs.length = pss.length := by
  induction h with
  | nil => rfl
  | cons _ _ ih => simp [ih]
theorem fold_wf {N₀ M : Nat} {p0 : List (Int × Int)} {pss : List (List (Int × Int))} (w0 : WF N₀ p0) (wf : ∀ ps ∈ pss, WF M ps) : ∀ i, i ≤ pss.length → WF (N₀ + M * i) ((pss.take i).foldl joinP p0)
  | 0, _ => by simpa using w0
  | i + 1, h => by
    have ih := fold_wf w0 wf i (by omega)
    rw [List.take_add_one, List.getElem?_eq_getElem (by omega)]
    simp only [Option.toList_some, List.foldl_append, List.foldl_cons, List.foldl_nil]
    rw [Nat.mul_succ, ← Nat.add_assoc]
    exact ih.join (wf _ (List.getElem_mem _))
theorem reduce_spec {w : World} {mean : ExcName → Option Value} {mg mb : Str → Option Value} {base g : Heap} {outer : List Env} {s : Shared} {dp un : Nat} {gd : Option (List Code)} {R : Result → Shared → Prop}
    {fz : List (Addr × Obj)} {q i0 : Addr} {k : Nat} {vs : List Value} {pss : List (List (Int × Int))} {p0 : List (Int × Int)} {N₀ M : Nat}
    (S : Sit w mean mg mb base outer g s.heap ((q, listOf vs.toArray k) :: fz)) (hq : ∀ p ∈ fz, @Ne Nat p.1 q) (h0 : PairsAt fz (.ref i0) p0) (hall : PairsAll fz vs pss) (w0 : WF N₀ p0) (wf : ∀ ps ∈ pss, WF M ps) (hN : N₀ + M * pss.length ≤ 1000) (hd : dp + 15 < recursionLimit) (hu : un + 150 < cLine)
    (ret : ∀ v tl h' tk', PairsAt (tl ++ fz) v (pss.foldl joinP p0) → Done g h' (tl ++ fz) → R (.ok (.ret v)) { s with heap := h', toks := tk' }) :
    codeAny (model P w) (arnd dp un gd outer) (.call (.ref 37) ⟨[.ref 190, .ref q, .ref i0], []⟩) R s := by
  have hi0 : @Ne Nat i0 29 := fun e => by
    (first | ((first | with_reducible refine Exists.elim h0 ?_ | with_reducible refine conj_elim h0 ?_); (try clear h0); rintro (a) tmp; (first | ((first | with_reducible refine Exists.elim tmp ?_ | with_reducible refine conj_elim tmp ?_); (try clear tmp); rintro (vs) tmp; (first | ((first | with_reducible refine Exists.elim tmp ?_ | with_reducible refine conj_elim tmp ?_); (try clear tmp); rintro (k) tmp; (first | ((first | with_reducible refine Exists.elim tmp ?_ | with_reducible refine conj_elim tmp ?_); (try clear tmp); rintro (e') tmp; (first | ((first | with_reducible refine Exists.elim tmp ?_ | with_reducible refine conj_elim tmp ?_); (try clear tmp); rintro (hm) (_)) | obtain ⟨hm, _⟩ := tmp)) | obtain ⟨e', hm, _⟩ := tmp)) | obtain ⟨k, e', hm, _⟩ := tmp)) | obtain ⟨vs, k, e', hm, _⟩ := tmp)) | obtain ⟨a, vs, k, e', hm, _⟩ := h0)
    cases e'
    have h1 := (S.done.2 _ (.tail _ hm)).2
    have h2 : ∃ o, g.get? 29 = some o := ⟨_, (S.XB.keeps S.stays) 29 _ (by k_is)⟩
    (first | ((first | with_reducible refine Exists.elim h2 ?_ | with_reducible refine conj_elim h2 ?_); (try clear h2); rintro (o) (h2)) | obtain ⟨o, h2⟩ := h2)
    rw [show i0 = 29 from e] at h1
    rw [h2] at h1; cases h1
  refine S.enter (binds := [(Str.ofString "function", .ref 190), (Str.ofString "sequence", .ref q), (Str.ofString "initial", .ref i0)]) (by k_is) (by k_is) (by omega) (BindsTo.of_defaults rfl (((S.XB.keeps S.stays).keeps S.done.1) 30 _ (by k_is)) rfl rfl rfl) (locs rfl) ?_ rfl rfl rfl (by decide)
  intro L h₁ F N B X T KD XB TB hlt
  (repeat' (fail_if_success with_reducible first | refine zzW ?_ | refine zzF ?_ | refine zzC ?_ | refine zzL ?_ | refine zzD ?_); first | k_unfold; try dsimp only | walk1 | dsimp only; walk1 | leave1; try dsimp only)
  rename_i I _ _ lI1 lI2 _ _
  have lI : @LT.lt Nat _ q I ∧ AllLt I fz := ⟨by assumption, by assumption⟩
  rename Fr _ _ _ _ => F₃
  rename News _ _ _ _ => N₃
  (first | ((first | refine Exists.elim (id h0) ?_ | refine conj_elim (id h0) ?_); rintro (a0) tmp; (first | ((first | with_reducible refine Exists.elim tmp ?_ | with_reducible refine conj_elim tmp ?_); (try clear tmp); rintro (vs0) tmp; (first | ((first | with_reducible refine Exists.elim tmp ?_ | with_reducible refine conj_elim tmp ?_); (try clear tmp); rintro (k0) tmp; (first | ((first | with_reducible refine Exists.elim tmp ?_ | with_reducible refine conj_elim tmp ?_); (try clear tmp); rintro (e0) tmp; (first | ((first | with_reducible refine Exists.elim tmp ?_ | with_reducible refine conj_elim tmp ?_); (try clear tmp); rintro (hm0) (hr0)) | obtain ⟨hm0, hr0⟩ := tmp)) | obtain ⟨e0, hm0, hr0⟩ := tmp)) | obtain ⟨k0, e0, hm0, hr0⟩ := tmp)) | obtain ⟨vs0, k0, e0, hm0, hr0⟩ := tmp)) | obtain ⟨a0, vs0, k0, e0, hm0, hr0⟩ := id h0)
  cases e0
  refine is_list_ref hi0 (N₃ _ (.tail _ (.tail _ hm0))).1 (F₃.keep _ _ (X 29 _ (by k_is))) ?_
  (repeat' (fail_if_success with_reducible first | refine zzW ?_ | refine zzF ?_ | refine zzC ?_ | refine zzL ?_ | refine zzD ?_); first | k_unfold; try dsimp only | walk1 | dsimp only; walk1 | leave1; try dsimp only)
  rename Fr _ _ _ _ => F₄
  rename News _ _ _ _ => N₄
  rw [rdMap_start] at F₄
  refine For_gen ?_
  (repeat' (fail_if_success with_reducible first | refine zzW ?_ | refine zzF ?_ | refine zzC ?_ | refine zzL ?_ | refine zzD ?_); first | k_unfold; try dsimp only | walk1 | dsimp only; walk1 | leave1; try dsimp only)
  refine wpAny_pyIter_listiter ⟨_, (N₄ _ (.head _)).1, rfl, rfl⟩ ?_
  (try dsimp only)
  refine turns_list (items := vs.toArray) (fun i g' m nw => Ex3 fun tl v e => All5 (g' = g) (m = rdMap v e I q i0) (nw = (q, listOf vs.toArray k) :: (tl ++ fz)) ((∀ p ∈ tl, @Ne Nat p.1 I ∧ @Ne Nat p.1 q)) (PairsAt (tl ++ fz) v ((pss.take i).foldl joinP p0))) rfl ?_ F₄ N₄ ⟨[], _, _, rfl, rfl, rfl, by simp, by simpa using h0⟩ (Nat.zero_le _) ?_ ?_
  · rintro i g' m nw ⟨tl, v, e, rfl, rfl, rfl, htl, hv⟩
    refine ⟨⟨k, .head _⟩, fun p hp => ?_⟩
    rcases List.mem_cons.mp hp with rfl | hp
    · exact Nat.ne_of_lt lI.1
    · rcases List.mem_append.mp hp with hp | hp
      · exact (htl p hp).1
      · exact Nat.ne_of_lt (allLt_lt _ lI.2 _ hp)
  · rintro i g' m nw h₅ tk₅ v J₅ hv F₅ N₅ hne Q1 hQ1
    (first | ((first | with_reducible refine Exists.elim J₅ ?_ | with_reducible refine conj_elim J₅ ?_); (try clear J₅); rintro (tl) tmp; (first | ((first | with_reducible refine Exists.elim tmp ?_ | with_reducible refine conj_elim tmp ?_); (try clear tmp); rintro (u) tmp; (first | ((first | with_reducible refine Exists.elim tmp ?_ | with_reducible refine conj_elim tmp ?_); (try clear tmp); rintro (e) tmp; (first | ((first | with_reducible refine Exists.elim tmp ?_ | with_reducible refine conj_elim tmp ?_); (try clear tmp); rintro (rfl) tmp; (first | ((first | with_reducible refine Exists.elim tmp ?_ | with_reducible refine conj_elim tmp ?_); (try clear tmp); rintro (rfl) tmp; (first | ((first | with_reducible refine Exists.elim tmp ?_ | with_reducible refine conj_elim tmp ?_); (try clear tmp); rintro (rfl) tmp; (first | ((first | with_reducible refine Exists.elim tmp ?_ | with_reducible refine conj_elim tmp ?_); (try clear tmp); rintro (htl) (hu')) | obtain ⟨htl, hu'⟩ := tmp)) | obtain ⟨rfl, htl, hu'⟩ := tmp)) | obtain ⟨rfl, rfl, htl, hu'⟩ := tmp)) | obtain ⟨rfl, rfl, rfl, htl, hu'⟩ := tmp)) | obtain ⟨e, rfl, rfl, rfl, htl, hu'⟩ := tmp)) | obtain ⟨u, e, rfl, rfl, rfl, htl, hu'⟩ := tmp)) | obtain ⟨tl, u, e, rfl, rfl, rfl, htl, hu'⟩ := J₅)
    (repeat' (fail_if_success with_reducible first | refine zzW ?_ | refine zzF ?_ | refine zzC ?_ | refine zzL ?_ | refine zzD ?_); first | k_unfold; try dsimp only | walk1 | dsimp only; walk1 | leave1; try dsimp only)
    rename Fr _ _ _ _ => F₆
    rename News _ _ _ _ => N₆
    have hv' : vs[i]? = some v := by simpa using hv
    (first | ((first | refine Exists.elim (hall.get hv') ?_ | refine conj_elim (hall.get hv') ?_); rintro (ps) tmp; (first | ((first | with_reducible refine Exists.elim tmp ?_ | with_reducible refine conj_elim tmp ?_); (try clear tmp); rintro (hps) (hpv)) | obtain ⟨hps, hpv⟩ := tmp)) | obtain ⟨ps, hps, hpv⟩ := hall.get hv')
    have hil : i < pss.length := (List.getElem?_eq_some_iff.mp hps).1
    have hwfp : WF M ps := wf ps (List.mem_of_getElem? hps)
    have hwfu : WF (N₀ + M * i) ((pss.take i).foldl joinP p0) := fold_wf w0 wf i (Nat.le_of_lt hil)
    have hmi : M * i + M ≤ M * pss.length := by rw [← Nat.mul_succ]; exact Nat.mul_le_mul_left M hil
    refine call_use B F₆ N₆ XB TB KD (tl ++ fz) [(I, itObj q (i + 1)), (q, listOf vs.toArray k)] (fun p hp => .tail _ (.tail _ hp)) (by k_allIn) ?_ ?_
    · intro p hp
      refine List.forall_mem_cons.mpr ⟨?_, List.forall_mem_cons.mpr ⟨?_, List.forall_mem_nil _⟩⟩
      · exact Ne.symm (hne p (.tail _ hp))
      · rcases List.mem_append.mp hp with hp | hp
        · exact Ne.symm (htl p hp).2
        · exact Ne.symm (hq p hp)
    intro g₁ S₁ back _ _
    refine joined_at S₁ hu' (hpv.mono fun p hp => List.mem_append_right _ hp) hwfu hwfp (by omega) (by omega) (by dsimp only [arnd]; omega) (by dsimp only [arnd]; omega) ?_
    intro v' tl' h' tk' hv' Dn
    (first | ((first | refine Exists.elim (back _ _ Dn) ?_ | refine conj_elim (back _ _ Dn) ?_); rintro (F₇) tmp; (first | ((first | with_reducible refine Exists.elim tmp ?_ | with_reducible refine conj_elim tmp ?_); (try clear tmp); rintro (N₇) (hne₇)) | obtain ⟨N₇, hne₇⟩ := tmp)) | obtain ⟨F₇, N₇, hne₇⟩ := back _ _ Dn)
    clear F₆ N₆
    dsimp only
    (repeat' (fail_if_success with_reducible first | refine zzW ?_ | refine zzF ?_ | refine zzC ?_ | refine zzL ?_ | refine zzD ?_); first | k_unfold; try dsimp only | walk1 | dsimp only; walk1 | leave1; try dsimp only)
    rename Fr _ _ _ _ => F₈
    rename News _ _ _ _ => N₈
    refine hQ1 _ _ ?_
    refine ⟨_, _, _, _, (q, listOf vs.toArray k) :: ((tl' ++ tl) ++ fz), rfl, F₈, cb_drop N₈ ?_, tl' ++ tl, v', some v, rfl, rdMap_step .., rfl, ?_, ?_⟩
    · intro p hp
      rcases List.mem_cons.mp hp with rfl | hp
      · exact List.mem_append_right _ (.head _)
      rcases List.mem_cons.mp hp with rfl | hp
      · exact List.mem_append_right _ (.tail _ (.head _))
      · exact List.mem_append_left _ (by rw [← List.append_assoc]; exact hp)
    · intro p hp
      rcases List.mem_append.mp hp with hp | hp
      · have := hne₇ p (List.mem_append_left _ hp)
        exact ⟨this (I, itObj q (i + 1)) (.head _), this (q, listOf vs.toArray k) (.tail _ (.head _))⟩
      · exact htl p hp
    · rw [List.append_assoc, List.take_add_one, hps]
      simpa using hv'
  · rintro g' m nw h₅ tk₅ ⟨tl, u, e, rfl, rfl, rfl, htl, hu'⟩ F₅ N₅
    (repeat' (fail_if_success with_reducible first | refine zzW ?_ | refine zzF ?_ | refine zzC ?_ | refine zzL ?_ | refine zzD ?_); first | k_unfold; try dsimp only | walk1 | dsimp only; walk1 | leave1; try dsimp only)
    have hsz : vs.toArray.size = pss.length := by simp [hall.length]
    rw [hsz, List.take_length] at hu'
    exact ret _ tl _ _ hu' (done_of F₅ N₅ (fun p hp => .tail _ hp))
-- Lc
section
variable {prog : Program} {w : World} {A : Around} {s : Shared} {h₀ : Heap} {L : Addr} {m : Str → Option Value} {env : Env} {elt ct : PySem.Expr} {x x₂ : Str} {scope : Scope} {cl : List (Str × Addr)} {S : List (Addr × Obj) → Prop} {P' : Nat → Value → Prop} {Fin : List Value → List (Addr × Obj) → Prop}
theorem CompEnd.imp {s₁ : Shared} {I C D : Addr} {oI oC oD : Obj} {r r' : Value → List (Addr × Obj) → Prop} (h : ∀ y nw, r y nw → r' y nw) {y : Value} {s₂ : Shared} (e : CompEnd h₀ L m s₁ I oI C oC D oD S r y s₂) : CompEnd h₀ L m s₁ I oI C oC D oD S r' y s₂ := by
  (first | ((first | with_reducible refine Exists.elim e ?_ | with_reducible refine conj_elim e ?_); (try clear e); rintro (h') tmp; (first | ((first | with_reducible refine Exists.elim tmp ?_ | with_reducible refine conj_elim tmp ?_); (try clear tmp); rintro (tk) tmp; (first | ((first | with_reducible refine Exists.elim tmp ?_ | with_reducible refine conj_elim tmp ?_); (try clear tmp); rintro (nw) tmp; (first | ((first | with_reducible refine Exists.elim tmp ?_ | with_reducible refine conj_elim tmp ?_); (try clear tmp); rintro (e1) tmp; (first | ((first | with_reducible refine Exists.elim tmp ?_ | with_reducible refine conj_elim tmp ?_); (try clear tmp); rintro (e2) tmp; (first | ((first | with_reducible refine Exists.elim tmp ?_ | with_reducible refine conj_elim tmp ?_); (try clear tmp); rintro (e3) tmp; (first | ((first | with_reducible refine Exists.elim tmp ?_ | with_reducible refine conj_elim tmp ?_); (try clear tmp); rintro (e4) tmp; (first | ((first | with_reducible refine Exists.elim tmp ?_ | with_reducible refine conj_elim tmp ?_); (try clear tmp); rintro (e5) (e6)) | obtain ⟨e5, e6⟩ := tmp)) | obtain ⟨e4, e5, e6⟩ := tmp)) | obtain ⟨e3, e4, e5, e6⟩ := tmp)) | obtain ⟨e2, e3, e4, e5, e6⟩ := tmp)) | obtain ⟨e1, e2, e3, e4, e5, e6⟩ := tmp)) | obtain ⟨nw, e1, e2, e3, e4, e5, e6⟩ := tmp)) | obtain ⟨tk, nw, e1, e2, e3, e4, e5, e6⟩ := tmp)) | obtain ⟨h', tk, nw, e1, e2, e3, e4, e5, e6⟩ := e)
  exact ⟨h', tk, nw, e1, e2, e3, e4, e5, h _ _ e6⟩
theorem compU_ind (Inv : Nat → List Value → List (Addr × Obj) → Prop) (n : Nat)
    (step : ∀ i ys news, i < n → Inv i ys news → ∀ v I oI C oC D m₂ h tk (E' : Value → Shared → Prop), P' i v → NsObj oC m₂ → m₂ x = some v → Fr h₀ L h m → News h₀ L h ((I, oI) :: (C, oC) :: (D, lst ys) :: news) → Off3 I C D news → ((@Ne Nat I C) ∧ (@Ne Nat I D) ∧ (@Ne Nat C D)) →
      ∀ Q' : Value → Shared → Prop, (∀ y s₂, CompEnd h₀ L m { s with heap := h, toks := tk } I oI C oC D (lst ys) S (fun y news' => Inv (i + 1) (ys ++ [y]) news') y s₂ → Q' y s₂) → wpAny (model prog w) A (eval elt (compEnvC scope cl C env)) Q' E' { s with heap := h, toks := tk })
    (fin : ∀ ys news, Inv n ys news → Fin ys news) : ∀ k i ys news, i + k = n → Inv i ys news → CompRest prog w A h₀ L m env elt x scope cl s S P' Fin k i ys news := by
  intro k
  induction k with
  | zero => intro i ys news e hI; exact .zero (fin ys news (by rw [← e]; exact hI))
  | succ k ih =>
    intro i ys news e hI
    refine .succ fun v I oI C oC D m₂ h tk E' hv hC hx F N o3 ne => ?_
    exact wpAny_mono (step i ys news (by omega) hI v I oI C oC D m₂ h tk E' hv hC hx F N o3 ne _ (fun _ _ x => x)) (fun y s₂ hy => CompEnd.imp (fun y nw hz => ih (i + 1) _ nw (by omega) hz) hy) fun _ _ z => z
theorem compP_ind (Inv : Nat → List Value → List (Addr × Obj) → Prop) (n : Nat)
    (step : ∀ i ys news, i < n → Inv i ys news → ∀ v, P' i v → ∃ (t : Addr) (ot : Obj) (v₁ v₂ : Value) (nt : Nat), v = .ref t ∧ (t, ot) ∈ news ∧ ot.cls = .type "tuple" ∧ ot.data = .seq #[v₁, v₂] nt ∧
      ∀ I oI C oC D m₂ h tk (E' : Value → Shared → Prop), NsObj oC m₂ → m₂ x = some v₁ → m₂ x₂ = some v₂ → Fr h₀ L h m → News h₀ L h ((I, oI) :: (C, oC) :: (D, lst ys) :: news) → Off3 I C D news → ((@Ne Nat I C) ∧ (@Ne Nat I D) ∧ (@Ne Nat C D)) →
      ∀ Q' : Value → Shared → Prop, (∀ y s₂, CompEnd h₀ L m { s with heap := h, toks := tk } I oI C oC D (lst ys) S (fun y news' => Inv (i + 1) (ys ++ [y]) news') y s₂ → Q' y s₂) → wpAny (model prog w) A (eval elt (compEnvC scope cl C env)) Q' E' { s with heap := h, toks := tk })
    (fin : ∀ ys news, Inv n ys news → Fin ys news) : ∀ k i ys news, i + k = n → Inv i ys news → LCp.CompRestP prog w A h₀ L m env elt x x₂ scope cl s S P' Fin k i ys news := by
  intro k
  induction k with
  | zero => intro i ys news e hI; exact .zero (fin ys news (by rw [← e]; exact hI))
  | succ k ih =>
    intro i ys news e hI
    refine .succ fun v hv => ?_
    (first | ((first | refine Exists.elim (step i ys news (by omega) hI v hv) ?_ | refine conj_elim (step i ys news (by omega) hI v hv) ?_); rintro (t) tmp; (first | ((first | with_reducible refine Exists.elim tmp ?_ | with_reducible refine conj_elim tmp ?_); (try clear tmp); rintro (ot) tmp; (first | ((first | with_reducible refine Exists.elim tmp ?_ | with_reducible refine conj_elim tmp ?_); (try clear tmp); rintro (v₁) tmp; (first | ((first | with_reducible refine Exists.elim tmp ?_ | with_reducible refine conj_elim tmp ?_); (try clear tmp); rintro (v₂) tmp; (first | ((first | with_reducible refine Exists.elim tmp ?_ | with_reducible refine conj_elim tmp ?_); (try clear tmp); rintro (nt) tmp; (first | ((first | with_reducible refine Exists.elim tmp ?_ | with_reducible refine conj_elim tmp ?_); (try clear tmp); rintro (e1) tmp; (first | ((first | with_reducible refine Exists.elim tmp ?_ | with_reducible refine conj_elim tmp ?_); (try clear tmp); rintro (e2) tmp; (first | ((first | with_reducible refine Exists.elim tmp ?_ | with_reducible refine conj_elim tmp ?_); (try clear tmp); rintro (e3) tmp; (first | ((first | with_reducible refine Exists.elim tmp ?_ | with_reducible refine conj_elim tmp ?_); (try clear tmp); rintro (e4) (e5)) | obtain ⟨e4, e5⟩ := tmp)) | obtain ⟨e3, e4, e5⟩ := tmp)) | obtain ⟨e2, e3, e4, e5⟩ := tmp)) | obtain ⟨e1, e2, e3, e4, e5⟩ := tmp)) | obtain ⟨nt, e1, e2, e3, e4, e5⟩ := tmp)) | obtain ⟨v₂, nt, e1, e2, e3, e4, e5⟩ := tmp)) | obtain ⟨v₁, v₂, nt, e1, e2, e3, e4, e5⟩ := tmp)) | obtain ⟨ot, v₁, v₂, nt, e1, e2, e3, e4, e5⟩ := tmp)) | obtain ⟨t, ot, v₁, v₂, nt, e1, e2, e3, e4, e5⟩ := step i ys news (by omega) hI v hv)
    refine ⟨t, ot, v₁, v₂, nt, e1, e2, e3, e4, fun I oI C oC D m₂ h tk E' hC hx hx' F N o3 ne => ?_⟩
    exact wpAny_mono (e5 I oI C oC D m₂ h tk E' hC hx hx' F N o3 ne _ (fun _ _ x => x)) (fun y s₂ hy => CompEnd.imp (fun y nw hz => ih (i + 1) _ nw (by omega) hz) hy) fun _ _ z => z
theorem compT_ind (Inv : Nat → List Value → List (Addr × Obj) → Prop) (n : Nat)
    (step : ∀ i ys news, i < n → Inv i ys news → ∀ v I oI C oC D m₂ h tk (E' : Value → Shared → Prop), P' i v → NsObj oC m₂ → m₂ x = some v → Fr h₀ L h m → News h₀ L h ((I, oI) :: (C, oC) :: (D, lst ys) :: news) → Off3 I C D news → ((@Ne Nat I C) ∧ (@Ne Nat I D) ∧ (@Ne Nat C D)) →
      wpAny (model prog w) A (isTrue ct (compEnvC scope cl C env) (eval ct (compEnvC scope cl C env))) (fun ok s' => if ok = true then
        wpAny (model prog w) A (eval elt (compEnvC scope cl C env)) (CompEnd h₀ L m { s with heap := h, toks := tk } I oI C oC D (lst ys) S (fun y news' => Inv (i + 1) (ys ++ [y]) news')) E' s'
        else CompEnd h₀ L m { s with heap := h, toks := tk } I oI C oC D (lst ys) S (fun _ news' => Inv (i + 1) ys news') Value.none s') E' { s with heap := h, toks := tk })
    (fin : ∀ ys news, Inv n ys news → Fin ys news) : ∀ k i ys news, i + k = n → Inv i ys news → LCt.CompRestT prog w A h₀ L m env ct elt x scope cl s S P' Fin k i ys news := by
  intro k
  induction k with
  | zero => intro i ys news e hI; exact .zero (fin ys news (by rw [← e]; exact hI))
  | succ k ih =>
    intro i ys news e hI
    refine .succ fun v I oI C oC D m₂ h tk E' hv hC hx F N o3 ne => ?_
    refine wpAny_mono (step i ys news (by omega) hI v I oI C oC D m₂ h tk E' hv hC hx F N o3 ne) (fun ok s' hok => ?_) fun _ _ z => z
    cases ok with
    | true =>
      simp only [if_true] at hok ⊢
      exact wpAny_mono hok (fun y s₂ hy => CompEnd.imp (fun y nw hz => ih (i + 1) _ nw (by omega) hz) hy) fun _ _ z => z
    | false =>
      simp only [Bool.false_eq_true, if_false] at hok ⊢
      exact CompEnd.imp (fun y nw hz => ih (i + 1) _ nw (by omega) hz) hok
end
-- Ti
noncomputable abbrev planE (w : World) (x : String) (t : Tok) (v : Value) : DictEntry := ⟨PyData.keyHash w.params (Str.ofString x), .str (Str.ofString x) t, v⟩
noncomputable abbrev planD (w : World) (t1 t2 t3 t4 : Tok) (nA : Addr) (rv : Value) (a : Int) (ta : Tok) (b : Int) (tb : Tok) : Obj :=
  dictOf [planE w "_node2info" t1 (.ref nA), planE w "_ready_nodes" t2 rv, planE w "_npassedout" t3 (.int a ta), planE w "_nfinished" t4 (.int b tb)] 4
theorem new_plan {w : World} {mean : ExcName → Option Value} {mg mb : Str → Option Value} {base h₀ : Heap} {outer : List Env} {s : Shared} {dp un : Nat} {gd : Option (List Code)} {A₀ : Around} {cn : Str} {cs : Scope} {L a : Addr} {ccd : Value} {cl : List (Str × Addr)} {m : Str → Option Value} {news : List (Addr × Obj)} {Q E : Value → Shared → Prop}
    (B : Below A₀ base outer h₀) (F : Fr h₀ L s.heap m) (X : (Mine.hd.heap_1 w.params).In h₀) (N : News h₀ L s.heap news) (T : TT mean mg mb h₀) (XB : (Mine.hd.heap_1 w.params).In base) (TB : TT mean mg mb base) (D : KtsDicts (frs outer) h₀) (hk : cs.kind = .function)
    (hd : dp + 15 < recursionLimit) (hu : un + 150 < cLine)
    (ret : ∀ (x dx nA : Addr) (on : Obj) (t1 t2 t3 t4 ta tb : Tok) h' tk', Fr h₀ L h' m → News h₀ L h' ((nA, on) :: (x, instObj 153 dx) :: (dx, planD w t1 t2 t3 t4 nA .none 0 ta 0 tb) :: news) → on.IsDictOf (PySem.intKind P w) [] → (nA == sysModules) = false →
      (∀ p ∈ news, @LT.lt Nat _ p.1 dx) → @LT.lt Nat _ dx x → @LT.lt Nat _ x nA → Q (.ref x) { s with heap := h', toks := tk' }) :
    wpAny (model P w) (ktrTop dp un gd cn cs L a ccd cl outer) (call (.ref 153) []) Q E s := by
  refine call_cls F X N (by k_is) (by k_is) (by k_is) ?_
  intro x dx h' F' N' l1 l2
  k_lt2 l2
  have off : OwnOff news [dx, x] := fun p hp b hb => by
    rcases List.mem_cons.mp hb with rfl | hb
    · exact Nat.ne_of_lt (l1 p hp)
    · rcases List.mem_cons.mp hb with rfl | hb
      · exact Nat.ne_of_lt (Nat.lt_trans (l1 p hp) l2)
      · cases hb
  refine' code_def B F' X N' T ?kA ?kF ?kK ?k6 ?k7 ?k8 ?k9 ?kB ?_ ?c2 ?c3 ?c4 ?c5
  case k6 => k_is
  case k7 => k_is
  case k9 => exact BindsTo.of_defaults (binds := [(Str.ofString "self", .ref x), (Str.ofString "graph", .none)]) rfl ((X.keeps F'.keep) 82 _ (by k_is)) rfl rfl rfl
  case kA => exact rfl
  case kF => exact rfl
  case kK => assumption
  case k8 => ktr_room
  case kB => exact locs rfl
  case c2 => exact rfl
  case c3 => exact rfl
  case c4 => exact rfl
  case c5 => decide
  intro g L' h₁ FG F₁ N₁ B₁ X₁ T₁
  (repeat' (fail_if_success with_reducible first | refine zzW ?_ | refine zzF ?_ | refine zzC ?_ | refine zzL ?_ | refine zzD ?_); first | k_unfold; try dsimp only | walk1 | dsimp only; walk1 | leave1; try dsimp only)
  exact ret _ _ _ _ _ _ _ _ _ _ _ _ (by assumption) (by assumption) (by assumption) (by assumption) l1 l2 (by assumption)
-- Nn
noncomputable abbrev infoObj (dx sa : Addr) (np : Int) (tp : Tok) (k : Int) (tk : Tok) : Obj := ⟨.ref 56, some dx, .plain, #[some (.int k tk), some (.int np tp), some (.ref sa)]⟩
theorem new_node {w : World} {mean : ExcName → Option Value} {mg mb : Str → Option Value} {base h₀ : Heap} {outer : List Env} {s : Shared} {dp un : Nat} {gd : Option (List Code)} {A₀ : Around} {cn : Str} {cs : Scope} {L a : Addr} {ccd : Value} {cl : List (Str × Addr)} {m : Str → Option Value} {news : List (Addr × Obj)} {Q E : Value → Shared → Prop} {k : Int} {tk : Tok}
    (B : Below A₀ base outer h₀) (F : Fr h₀ L s.heap m) (X : (Mine.hd.heap_1 w.params).In h₀) (N : News h₀ L s.heap news) (T : TT mean mg mb h₀) (XB : (Mine.hd.heap_1 w.params).In base) (TB : TT mean mg mb base) (D : KtsDicts (frs outer) h₀) (hk : cs.kind = .function)
    (hd : dp + 15 < recursionLimit) (hu : un + 150 < cLine)
    (ret : ∀ (x dx sa : Addr) (tp tk' : Tok) h' tt, Fr h₀ L h' m → News h₀ L h' ((sa, listOf #[] 0) :: (x, infoObj dx sa 0 tp k tk') :: (dx, dictOf [] 0) :: news) →
      (∀ p ∈ news, @LT.lt Nat _ p.1 dx) → @LT.lt Nat _ dx x → @LT.lt Nat _ x sa → Q (.ref x) { s with heap := h', toks := tt }) :
    wpAny (model P w) (ktrTop dp un gd cn cs L a ccd cl outer) (call (.ref 56) [.int k tk]) Q E s := by
  refine call_cls F X N (by k_is) (by k_is) (by k_is) ?_
  intro x dx h' F' N' l1 l2
  k_lt2 l2
  have off : OwnOff news [dx, x] := fun p hp b hb => by
    rcases List.mem_cons.mp hb with rfl | hb
    · exact Nat.ne_of_lt (l1 p hp)
    · rcases List.mem_cons.mp hb with rfl | hb
      · exact Nat.ne_of_lt (Nat.lt_trans (l1 p hp) l2)
      · cases hb
  refine' code_def B F' X N' T ?kA ?kF ?kK ?k6 ?k7 ?k8 ?k9 ?kB ?_ ?c2 ?c3 ?c4 ?c5
  case k6 => k_is
  case k7 => k_is
  case k9 => exact BindsTo.of_eq (binds := [(Str.ofString "self", .ref x), (Str.ofString "node", .int k tk)]) rfl
  case kA => exact rfl
  case kF => exact rfl
  case kK => assumption
  case k8 => ktr_room
  case kB => exact locs rfl
  case c2 => exact rfl
  case c3 => exact rfl
  case c4 => exact rfl
  case c5 => decide
  intro g L' h₁ FG F₁ N₁ B₁ X₁ T₁
  (repeat' (fail_if_success with_reducible first | refine zzW ?_ | refine zzF ?_ | refine zzC ?_ | refine zzL ?_ | refine zzD ?_); first | k_unfold; try dsimp only | walk1 | dsimp only; walk1 | leave1; try dsimp only)
  exact ret _ _ _ _ _ _ _ (by assumption) (by assumption) l1 l2 (by assumption)
-- Gn
theorem getnode_spec {w : World} {mean : ExcName → Option Value} {mg mb : Str → Option Value} {base g : Heap} {outer : List Env} {s : Shared} {dp un : Nat} {gd : Option (List Code)} {R : Result → Shared → Prop}
    {rest : List (Addr × Obj)} {pA dA nA : Addr} {on : Obj} {kvs : List (Int × Value)} {t1 t2 t3 t4 ta tb : Tok} {rv : Value} {a b : Int} {k : Int} {tk0 : Tok}
    (S : Sit w mean mg mb base outer g s.heap ((nA, on) :: (pA, instObj 153 dA) :: (dA, planD w t1 t2 t3 t4 nA rv a ta b tb) :: rest)) (hon : on.IsDictOf (PySem.intKind P w) kvs) (lo : (nA == sysModules) = false) (hlen : kvs.length ≤ 100)
    (h1 : @Ne Nat nA pA) (h2 : @Ne Nat nA dA) (h3 : @Ne Nat pA dA) (hr : ∀ p ∈ rest, @Ne Nat p.1 nA ∧ @Ne Nat p.1 pA ∧ @Ne Nat p.1 dA)
    (hd : dp + 25 < recursionLimit) (hu : un + 250 < cLine)
    (r1 : ∀ v, valueAt kvs k = some v → (∃ ia, v = .ref ia) ∧ ∀ h' tk', Done g h' ((nA, on) :: (pA, instObj 153 dA) :: (dA, planD w t1 t2 t3 t4 nA rv a ta b tb) :: rest) → R (.ok (.ret v)) { s with heap := h', toks := tk' })
    (r2 : valueAt kvs k = none → ∀ on' x dx sa tp tk h' tk', on'.IsDictOf (PySem.intKind P w) (stored kvs k (.ref x)) → (∀ p ∈ (nA, on) :: (pA, instObj 153 dA) :: (dA, planD w t1 t2 t3 t4 nA rv a ta b tb) :: rest, @LT.lt Nat _ p.1 dx) → @LT.lt Nat _ dx x → @LT.lt Nat _ x sa →
      Done g h' ((sa, listOf #[] 0) :: (x, infoObj dx sa 0 tp k tk) :: (dx, dictOf [] 0) :: (nA, on') :: (pA, instObj 153 dA) :: (dA, planD w t1 t2 t3 t4 nA rv a ta b tb) :: rest) → R (.ok (.ret (.ref x))) { s with heap := h', toks := tk' }) :
    codeAny (model P w) (arnd dp un gd outer) (.call (.ref 96) ⟨[.ref pA, .int k tk0], []⟩) R s := by
  refine S.enter (binds := [(Str.ofString "self", .ref pA), (Str.ofString "node", .int k tk0)]) (by k_is) (by k_is) (by omega) (BindsTo.of_eq rfl) (locs rfl) ?_ rfl rfl rfl (by decide)
  intro L h₁ F N B X T KD XB TB hlt
  (repeat' (fail_if_success with_reducible first | refine zzW ?_ | refine zzF ?_ | refine zzC ?_ | refine zzL ?_ | refine zzD ?_); first | k_unfold; try dsimp only | walk1 | dsimp only; walk1 | leave1; try dsimp only)
  refine kdg_get1 (knd := PySem.intKind P w) N (.head _) hon lo (intKind_is _ _ _ _) _ rfl ?_
  cases hv : valueAt kvs k with
  | some v =>
    (first | ((first | refine Exists.elim (r1 v hv) ?_ | refine conj_elim (r1 v hv) ?_); rintro (⟨ia, rfl⟩) (r)) | obtain ⟨⟨ia, rfl⟩, r⟩ := r1 v hv)
    dsimp only [Option.getD]
    (repeat' (fail_if_success with_reducible first | refine zzW ?_ | refine zzF ?_ | refine zzC ?_ | refine zzL ?_ | refine zzD ?_); first | k_unfold; try dsimp only | walk1 | dsimp only; walk1 | leave1; try dsimp only)
    rename Fr _ _ _ _ => F₂
    rename News _ _ _ _ => N₂
    exact r _ _ (done_of F₂ N₂ (by (repeat (first | exact fmNil | refine fmCons (by k_memK) ?_ | intro p9 hp9; k_ownIn))))
  | none =>
    dsimp only [Option.getD]
    (repeat' (fail_if_success with_reducible first | refine zzW ?_ | refine zzF ?_ | refine zzC ?_ | refine zzL ?_ | refine zzD ?_); first | k_unfold; try dsimp only | walk1 | dsimp only; walk1 | leave1; try dsimp only)
    rename Fr _ _ _ _ => F₂
    rename News _ _ _ _ => N₂
    refine new_node B F₂ X N₂ T XB TB KD rfl (by dsimp only [arnd]; omega) (by dsimp only [arnd]; omega) ?_
    intro x dx sa tp tk' h₃ tt F₃ N₃ l1 l2 l3
    have e1 : @LT.lt Nat _ nA dx := l1 _ (.head _)
    have e2 : @LT.lt Nat _ pA dx := l1 _ (.tail _ (.head _))
    have e3 : @LT.lt Nat _ dA dx := l1 _ (.tail _ (.tail _ (.head _)))
    (repeat' (fail_if_success with_reducible first | refine zzW ?_ | refine zzF ?_ | refine zzC ?_ | refine zzL ?_ | refine zzD ?_); first | k_unfold; try dsimp only | walk1 | dsimp only; walk1 | leave1; try dsimp only)
    rename Fr _ _ _ _ => F₄
    rename News _ _ _ _ => N₄
    have hup : ∀ p ∈ (pA, instObj 153 dA) :: (dA, planD w t1 t2 t3 t4 nA rv a ta b tb) :: rest, p.1 ≠ nA := by
      refine List.forall_mem_cons.mpr ⟨Ne.symm h1, List.forall_mem_cons.mpr ⟨Ne.symm h2, fun p hp => (hr p hp).1⟩⟩
    refine kda_set (knd := PySem.intKind P w) F₄ N₄ (UpdF.tail (by refine neN ?_; (try dsimp only); omega) (UpdF.tail (by refine neN ?_; (try dsimp only); omega) (UpdF.tail (by refine neN ?_; (try dsimp only); omega) (UpdF.head hup)))) hon (intKind_is _ _ _ _) (by rw [sizeLine_eq]; omega) ?_
    intro h₅ on' F₅ N₅ hon'
    (repeat' (fail_if_success with_reducible first | refine zzW ?_ | refine zzF ?_ | refine zzC ?_ | refine zzL ?_ | refine zzD ?_); first | k_unfold; try dsimp only | walk1 | dsimp only; walk1 | leave1; try dsimp only)
    rename Fr _ _ _ _ => F₆
    rename News _ _ _ _ => N₆
    exact r2 hv on' x dx sa tp tk' _ _ hon' l1 l2 l3 (done_of F₆ N₆ (by (repeat (first | exact fmNil | refine fmCons (by k_memK) ?_ | intro p9 hp9; k_ownIn))))
-- Er
theorem Sit.push {w : World} {mean : ExcName → Option Value} {mg mb : Str → Option Value} {base g h : Heap} {outer : List Env} {own : List (Addr × Obj)} (S : Sit w mean mg mb base outer g h own) (o : Obj) (hf : o.isFreed = false) :
    Sit w mean mg mb base outer g (h.push o) ((h.objs.size, o) :: own) := by
  refine ⟨⟨fun b x e => Heap.get?_push_of_some _ (S.done.1 b x e), fun p hp => ?_⟩, by rw [Heap.size_push]; exact Nat.le_succ_of_le S.size, S.stays, S.frames, S.dicts, S.XB, S.TB⟩
  rcases List.mem_cons.mp hp with rfl | hp
  · refine ⟨Heap.get?_push_size _ hf, ?_⟩
    cases q : g.get? h.objs.size with
    | none => rfl
    | some x => exact absurd (Heap.lt_size (S.done.1 _ _ q)) (Nat.lt_irrefl _)
  · exact ⟨Heap.get?_push_of_some _ (S.done.2 p hp).1, (S.done.2 p hp).2⟩
theorem peek1_here {α : Type} {K : Frag} {M : Model} {A : Around} {E : Value → Shared → Prop} {Q : α → Shared → Prop} {s : Shared} {o : Obj} {r : Addr → α} (X : K.In s.heap) (q : Q (r s.heap.objs.size) { s with heap := s.heap.push o }) :
    ∀ (t : Sem α) (g : Addr → Option α), peek1 K ⟨M.prog, M.w.params⟩ t = some (o, g) → (∀ D, g D = some (r D)) → wpAny M A t Q E s := by
  intro t
  induction t with
  | rule _ k ih => intro g e hg Γ p hΓ; exact ih () g e hg Γ p hΓ
  | point _ k ih => intro g e hg Γ p hΓ; exact ih () g e hg Γ p hΓ
  | ask k ih => intro g e hg Γ p hΓ; exact ih _ g e hg Γ p hΓ
  | load a _ k ih =>
    intro g e hg Γ p hΓ
    simp only [peek1] at e
    split at e
    · rename_i ob ho; exact ⟨ob, X _ _ ho, ih ob g e hg Γ p hΓ⟩
    · cases e
  | alloc ob k _ =>
    intro g e hg
    have e : some (ob, fun D => peek K ⟨M.prog, M.w.params⟩ (k D)) = some (o, g) := e
    (first | ((first | refine Exists.elim (Prod.mk.inj (Option.some.inj e)) ?_ | refine conj_elim (Prod.mk.inj (Option.some.inj e)) ?_); rintro (e1) (e2)) | obtain ⟨e1, e2⟩ := Prod.mk.inj (Option.some.inj e))
    subst e1
    subst e2
    have X' : K.In (s.heap.push ob) := X.keeps fun b x hb => Heap.get?_push_of_some _ hb
    show wpAny M A (alloc ob >>= k) Q E s
    refine wpAny_bind (wpAny_alloc ?_)
    exact (Looks.of_peek (M := M) (h := s.heap.push ob) X' (hg s.heap.objs.size)).here (s := { s with heap := s.heap.push ob }) q
  | _ => intro g e; cases e
section
variable {w : World} {mean : ExcName → Option Value} {mg mb : Str → Option Value} {base g : Heap} {outer : List Env} {own : List (Addr × Obj)} {s : Shared} {dp un : Nat} {gd : Option (List Code)}
  {R : Result → Shared → Prop} {name qual : Str} {params : Arguments} {body : List Stmt} {scope : Scope} {dV kV doc pm cdv ct oc : Value} {an od : Option Addr} {osl : Array (Option Value)} {f : Addr} {args : Args} {binds : Addr → List (Str × Value)} {g₁ : Addr → Option (List (Str × Value))} {ob : Obj}
theorem Sit.enterR (S : Sit w mean mg mb base outer g s.heap own)
    (ho : (Mine.hd.heap_1 w.params).lookup f = some ⟨oc, od, .func (fnOf name qual params body scope dV kV doc pm an cdv ct), osl⟩) (hcd : codeIn (Mine.hd.heap_1 w.params) cdv qual = true) (hroom : dp < recursionLimit)
    (hp : peek1 (Mine.hd.heap_1 w.params) ⟨P, w.params⟩ (bindArgs (fnOf name qual params body scope dV kV doc pm an cdv ct) args) = some (ob, g₁)) (hg : ∀ D, g₁ D = some (binds D)) (hf : ob.isFreed = false) (hloc : ∀ D, ∀ y ∈ binds D, scope.names.lookup y.1 = some .local)
    (h : ∀ T L' h₁, Fr g L' h₁ (fun y => (binds T).reverse.lookup y) → News g L' h₁ ((T, ob) :: own) → (∀ p ∈ own, @LT.lt Nat _ p.1 T) → Below (arnd dp un gd outer) base outer g → (Mine.hd.heap_1 w.params).In g → TT mean mg mb g → KtsDicts (frs outer) g →
      (Mine.hd.heap_1 w.params).In base → TT mean mg mb base →
      wpAny (model P w) ((arnd dp un gd outer).deeper (envOf qual scope L' f cdv)) (execs body (envOf qual scope L' f cdv))
        (fun fl s' => R (.ok (.ret (match fl with | .ret v => v | _ => .none))) s')
        (fun e s' => wpAny (model P w) ((arnd dp un gd outer).deeper (envOf qual scope L' f cdv)) (leaving (envOf qual scope L' f cdv) e) (fun _ s'' => R (.error e) s'') (fun e' s'' => R (.error e') s'') s')
        { s with heap := h₁, toks := s.toks + (binds T).length })
    (hco : scope.isCoroutine = false) (hgen : scope.isGenerator = false) (hk : scope.kind = .function)
    (hcell : ∀ x ∈ scope.names, x.2 ≠ .cell) : codeAny (model P w) (arnd dp un gd outer) (.call (.ref f) args) R s := by
  have Xg : (Mine.hd.heap_1 w.params).In g := S.XB.keeps S.stays
  have Tg : TT mean mg mb g := S.TB.keeps S.stays
  have X : (Mine.hd.heap_1 w.params).In s.heap := Xg.keeps S.done.1
  refine codeAny_call_function (fd := fnOf name qual params body scope dV kV doc pm an cdv ct) (body := body) hroom (X _ _ ho) rfl hco hgen rfl (codeRec_of X hcd) ?_
  refine peek1_here (M := model P w) (o := ob) (r := binds) X ?_ _ g₁ hp hg
  have S' := S.push ob hf
  refine wpAny_newFunctionEnv (s := { s with heap := s.heap.push ob }) hcell (hloc _) (fun h₁ hns hsb => ⟨(Tg.nolimit.keeps S'.done.1).fresh _ hsb, codeAny_func ?_⟩) hk
  have hk₁ : ∀ b o, (s.heap.push ob).get? b = some o → h₁.get? b = some o := fun b o e => hsb.extBut b o (Nat.ne_of_lt (Heap.lt_size e)) (Heap.get?_push_of_some _ e)
  exact h s.heap.objs.size (s.heap.push ob).objs.size h₁ ⟨hns, fun b o e => hk₁ b o (S'.done.1 b o e), S'.size⟩
    (fun p hp => ⟨hk₁ _ _ (S'.done.2 p hp).1, Nat.ne_of_lt (Heap.lt_size (S'.done.2 p hp).1), (S'.done.2 p hp).2⟩)
    (fun p hp => Heap.lt_size (S.done.2 p hp).1) ⟨rfl, S.stays, S.frames⟩ Xg Tg S.dicts S.XB S.TB
end
-- Nd
/-- a node of the plan, as it lies -/
structure Nd where
  k : Int
  ia : Addr
  dx : Addr
  sa : Addr
  np : Int
  tp : Tok
  tk : Tok
  vs : List Value
  sl : List Int
  c : Nat
noncomputable def Nd.led (x : Nd) : List (Addr × Obj) := [(x.sa, listOf x.vs.toArray x.c), (x.ia, infoObj x.dx x.sa x.np x.tp x.k x.tk), (x.dx, dictOf [] 0)]
noncomputable def ndLed (l : List Nd) : List (Addr × Obj) := l.flatMap Nd.led
noncomputable def Nd.kv (x : Nd) : Int × Value := (x.k, .ref x.ia)
theorem ndLed_append (l l' : List Nd) : ndLed (l ++ l') = ndLed l ++ ndLed l' := by simp [ndLed]
theorem ndLed_cons (x : Nd) (l : List Nd) : ndLed (x :: l) = x.led ++ ndLed l := by simp [ndLed]
theorem mem_ndLed {l : List Nd} {x : Nd} (h : x ∈ l) {p : Addr × Obj} (hp : p ∈ x.led) : p ∈ ndLed l := List.mem_flatMap.mpr ⟨x, h, hp⟩
theorem updF_split {d : Addr} {o : Obj} : ∀ {pre post : List (Addr × Obj)}, (∀ p ∈ pre, p.1 ≠ d) → (∀ p ∈ post, p.1 ≠ d) → UpdF d o (pre ++ (d, o) :: post) (fun o' => pre ++ (d, o') :: post)
  | [], _, _, h2 => .head h2
  | p :: pre, post, h1, h2 => .tail (h1 p (.head _)) (updF_split (fun q hq => h1 q (.tail _ hq)) h2)
/-- the plan's node table: keys apart, addresses apart -/
structure NdOk (w : World) (l : List Nd) (on : Obj) (others : List Addr) : Prop where
  dict : on.IsDictOf (PySem.intKind P w) (l.map Nd.kv)
  ivs : ∀ x ∈ l, IntsAre x.vs x.sl
  keys : (l.map (·.k)).Nodup
  apart : (others ++ (ndLed l).map (·.1)).Nodup
theorem valueAt_nd {l : List Nd} (k : Int) : valueAt (l.map Nd.kv) k = (l.find? fun x => x.k = k).map fun x => .ref x.ia := by
  unfold valueAt
  induction l with
  | nil => rfl
  | cons x l ih =>
    simp only [List.map_cons, List.find?_cons, Nd.kv]
    by_cases h : x.k = k
    · simp [h]
    · simp only [h, decide_false]
      exact ih
-- Ga
theorem stored_none {kvs : List (Int × Value)} {k : Int} {v : Value} (h : valueAt kvs k = none) : stored kvs k v = kvs ++ [(k, v)] := by
  unfold stored
  unfold valueAt at h
  have : kvs.any (fun kv => kv.1 = k) = false := by
    cases q : kvs.any (fun kv => kv.1 = k) with
    | false => rfl
    | true =>
      (first | ((first | refine Exists.elim (List.any_eq_true.mp q) ?_ | refine conj_elim (List.any_eq_true.mp q) ?_); rintro (x) tmp; (first | ((first | with_reducible refine Exists.elim tmp ?_ | with_reducible refine conj_elim tmp ?_); (try clear tmp); rintro (hx) (hk)) | obtain ⟨hx, hk⟩ := tmp)) | obtain ⟨x, hx, hk⟩ := List.any_eq_true.mp q)
      have := List.find?_eq_none.mp (Option.map_eq_none_iff.mp h) x hx
      exact absurd hk this
  rw [this]; simp
theorem getnode_at {w : World} {mean : ExcName → Option Value} {mg mb : Str → Option Value} {base g : Heap} {outer : List Env} {s : Shared} {dp un : Nat} {gd : Option (List Code)} {R : Result → Shared → Prop}
    {rest : List (Addr × Obj)} {l : List Nd} {pA dA nA : Addr} {on : Obj} {t1 t2 t3 t4 ta tb : Tok} {rv : Value} {a b : Int} {k : Int} {tk0 : Tok}
    (S : Sit w mean mg mb base outer g s.heap ((nA, on) :: (pA, instObj 153 dA) :: (dA, planD w t1 t2 t3 t4 nA rv a ta b tb) :: (ndLed l ++ rest)))
    (ok : NdOk w l on (nA :: pA :: dA :: rest.map (·.1))) (lo : (nA == sysModules) = false) (hlen : l.length ≤ 100)
    (hd : dp + 25 < recursionLimit) (hu : un + 250 < cLine)
    (ret : ∀ l' on' x h' tk', x ∈ l' → x.k = k → (l' = l ∨ (k ∉ l.map (·.k) ∧ l' = l ++ [x] ∧ x.np = 0 ∧ x.sl = [])) → NdOk w l' on' (nA :: pA :: dA :: rest.map (·.1)) →
      Done g h' ((nA, on') :: (pA, instObj 153 dA) :: (dA, planD w t1 t2 t3 t4 nA rv a ta b tb) :: (ndLed l' ++ rest)) → R (.ok (.ret (.ref x.ia))) { s with heap := h', toks := tk' }) :
    codeAny (model P w) (arnd dp un gd outer) (.call (.ref 96) ⟨[.ref pA, .int k tk0], []⟩) R s := by
  have ap := ok.apart
  simp only [List.cons_append, List.nodup_cons, List.mem_cons, List.mem_append, not_or] at ap
  (first | ((first | with_reducible refine Exists.elim ap ?_ | with_reducible refine conj_elim ap ?_); (try clear ap); rintro (⟨a1, a2, a3, a4⟩) tmp; (first | ((first | with_reducible refine Exists.elim tmp ?_ | with_reducible refine conj_elim tmp ?_); (try clear tmp); rintro (⟨a5, a6, a7⟩) tmp; (first | ((first | with_reducible refine Exists.elim tmp ?_ | with_reducible refine conj_elim tmp ?_); (try clear tmp); rintro (⟨a8, a9⟩) (a10)) | obtain ⟨⟨a8, a9⟩, a10⟩ := tmp)) | obtain ⟨⟨a5, a6, a7⟩, ⟨a8, a9⟩, a10⟩ := tmp)) | obtain ⟨⟨a1, a2, a3, a4⟩, ⟨a5, a6, a7⟩, ⟨a8, a9⟩, a10⟩ := ap)
  refine getnode_spec S ok.dict lo (by simpa using hlen) a1 a2 a5 ?_ hd hu ?_ ?_
  · intro p hp
    have hm : p.1 ∈ rest.map (·.1) ∨ p.1 ∈ (ndLed l).map (·.1) := by
      rcases List.mem_append.mp hp with hp | hp
      · exact .inr (List.mem_map_of_mem hp)
      · exact .inl (List.mem_map_of_mem hp)
    refine ⟨fun e => ?_, fun e => ?_, fun e => ?_⟩
    · rcases hm with hm | hm
      · exact a3 ((show p.1 = nA from e) ▸ hm)
      · exact a4 ((show p.1 = nA from e) ▸ hm)
    · rcases hm with hm | hm
      · exact a6 ((show p.1 = pA from e) ▸ hm)
      · exact a7 ((show p.1 = pA from e) ▸ hm)
    · rcases hm with hm | hm
      · exact a8 ((show p.1 = dA from e) ▸ hm)
      · exact a9 ((show p.1 = dA from e) ▸ hm)
  · intro v hv
    rw [valueAt_nd] at hv
    (first | ((first | refine Exists.elim (Option.map_eq_some_iff.mp hv) ?_ | refine conj_elim (Option.map_eq_some_iff.mp hv) ?_); rintro (x) tmp; (first | ((first | with_reducible refine Exists.elim tmp ?_ | with_reducible refine conj_elim tmp ?_); (try clear tmp); rintro (hx) (rfl)) | obtain ⟨hx, rfl⟩ := tmp)) | obtain ⟨x, hx, rfl⟩ := Option.map_eq_some_iff.mp hv)
    have hxl := List.mem_of_find?_eq_some hx
    have hxk : x.k = k := by simpa using List.find?_some hx
    exact ⟨⟨_, rfl⟩, fun h' tk' Dn => ret l on x h' tk' hxl hxk (.inl rfl) ok Dn⟩
  · intro hv on' x dx sa tp tk h' tk' hon' l1 l2 l3 Dn
    have hk : k ∉ l.map (·.k) := by
      rw [valueAt_nd] at hv
      intro hm
      (first | ((first | refine Exists.elim (List.mem_map.mp hm) ?_ | refine conj_elim (List.mem_map.mp hm) ?_); rintro (y) tmp; (first | ((first | with_reducible refine Exists.elim tmp ?_ | with_reducible refine conj_elim tmp ?_); (try clear tmp); rintro (hy) (hyk)) | obtain ⟨hy, hyk⟩ := tmp)) | obtain ⟨y, hy, hyk⟩ := List.mem_map.mp hm)
      have := List.find?_eq_none.mp (Option.map_eq_none_iff.mp hv) y hy
      exact this (by simpa using hyk)
    rw [stored_none hv] at hon'
    refine ret (l ++ [⟨k, x, dx, sa, 0, tp, tk, [], [], 0⟩]) on' ⟨k, x, dx, sa, 0, tp, tk, [], [], 0⟩ h' tk' (by simp) rfl (.inr ⟨hk, rfl, rfl, rfl⟩) ⟨?_, ?_, ?_, ?_⟩ ⟨Dn.1, fun p hp => Dn.2 p ?_⟩
    · rw [List.map_append]; exact hon'
    · intro y hy
      rcases List.mem_append.mp hy with hy | hy
      · exact ok.ivs y hy
      · rw [List.mem_singleton.mp hy]; exact .nil
    · rw [List.map_append]
      refine List.nodup_append.mpr ⟨ok.keys, by simp, ?_⟩
      intro y hy z hz e
      simp at hz
      subst hz
      exact hk (e ▸ hy)
    · rw [ndLed_append, List.map_append, ← List.append_assoc]
      refine List.nodup_append.mpr ⟨ok.apart, ?_, ?_⟩
      · simp only [ndLed, Nd.led, List.flatMap_cons, List.flatMap_nil, List.append_nil, List.map_cons, List.map_nil, List.nodup_cons, List.mem_cons, List.not_mem_nil, or_false, not_or]
        exact ⟨⟨Nat.ne_of_gt l3, Nat.ne_of_gt (Nat.lt_trans l2 l3)⟩, Nat.ne_of_gt l2, by simp⟩
      · intro y hy z hz e
        have hy' : @LT.lt Nat _ y dx := by
          simp only [List.cons_append, List.mem_cons, List.mem_append] at hy
          rcases hy with rfl | rfl | rfl | hy | hy
          · exact l1 _ (.head _)
          · exact l1 _ (.tail _ (.head _))
          · exact l1 _ (.tail _ (.tail _ (.head _)))
          · (first | ((first | refine Exists.elim (List.mem_map.mp hy) ?_ | refine conj_elim (List.mem_map.mp hy) ?_); rintro (q) tmp; (first | ((first | with_reducible refine Exists.elim tmp ?_ | with_reducible refine conj_elim tmp ?_); (try clear tmp); rintro (hq) (rfl)) | obtain ⟨hq, rfl⟩ := tmp)) | obtain ⟨q, hq, rfl⟩ := List.mem_map.mp hy)
            exact l1 _ (.tail _ (.tail _ (.tail _ (List.mem_append_right _ hq))))
          · (first | ((first | refine Exists.elim (List.mem_map.mp hy) ?_ | refine conj_elim (List.mem_map.mp hy) ?_); rintro (q) tmp; (first | ((first | with_reducible refine Exists.elim tmp ?_ | with_reducible refine conj_elim tmp ?_); (try clear tmp); rintro (hq) (rfl)) | obtain ⟨hq, rfl⟩ := tmp)) | obtain ⟨q, hq, rfl⟩ := List.mem_map.mp hy)
            exact l1 _ (.tail _ (.tail _ (.tail _ (List.mem_append_left _ hq))))
        have hz' : @LE.le Nat _ dx z := by
          simp only [ndLed, Nd.led, List.flatMap_cons, List.flatMap_nil, List.append_nil, List.map_cons, List.map_nil, List.mem_cons, List.not_mem_nil, or_false] at hz
          rcases hz with rfl | rfl | rfl
          · exact Nat.le_of_lt (Nat.lt_trans l2 l3)
          · exact Nat.le_of_lt l2
          · exact Nat.le_refl _
        exact absurd (Nat.lt_of_lt_of_le hy' hz') (by rw [e]; exact Nat.lt_irrefl _)
    · simp only [ndLed_append, List.mem_cons, List.mem_append] at hp ⊢
      rcases hp with rfl | rfl | rfl | (hp | hp) | hp
      · simp
      · simp
      · simp
      · simp [hp]
      · simp only [ndLed, Nd.led, List.flatMap_cons, List.flatMap_nil, List.append_nil, List.mem_cons, List.not_mem_nil, or_false] at hp
        rcases hp with rfl | rfl | rfl <;> simp
      · simp [hp]
-- Nu
theorem updF_nodup {d : Addr} {o : Obj} {pre post : List (Addr × Obj)} (h : ((pre ++ (d, o) :: post).map (·.1)).Nodup) : UpdF d o (pre ++ (d, o) :: post) (fun o' => pre ++ (d, o') :: post) := by
  rw [List.map_append, List.map_cons] at h
  (first | ((first | refine Exists.elim (List.nodup_append.mp h) ?_ | refine conj_elim (List.nodup_append.mp h) ?_); rintro (_) tmp; (first | ((first | with_reducible refine Exists.elim tmp ?_ | with_reducible refine conj_elim tmp ?_); (try clear tmp); rintro (h2) (h3)) | obtain ⟨h2, h3⟩ := tmp)) | obtain ⟨_, h2, h3⟩ := List.nodup_append.mp h)
  (first | ((first | refine Exists.elim (List.nodup_cons.mp h2) ?_ | refine conj_elim (List.nodup_cons.mp h2) ?_); rintro (h4) (_)) | obtain ⟨h4, _⟩ := List.nodup_cons.mp h2)
  refine updF_split (fun p hp e => ?_) (fun p hp e => ?_)
  · exact h3 p.1 (List.mem_map_of_mem hp) d (.head _) e
  · have hm : p.1 ∈ post.map (·.1) := List.mem_map_of_mem hp
    rw [e] at hm
    exact h4 hm
theorem nd_split {l : List Nd} {x : Nd} (h : x ∈ l) : ∃ pre post, l = pre ++ x :: post := List.append_of_mem h
theorem nd_addrs (pre post : List Nd) (x y : Nd) (h1 : y.sa = x.sa) (h2 : y.ia = x.ia) (h3 : y.dx = x.dx) : (ndLed (pre ++ y :: post)).map (·.1) = (ndLed (pre ++ x :: post)).map (·.1) := by
  simp [ndLed_append, ndLed_cons, Nd.led, h1, h2, h3]
/-- one node of the table changed in place: the table stays well -/
theorem NdOk.put {w : World} {pre post : List Nd} {x y : Nd} {on : Obj} {others : List Addr} (ok : NdOk w (pre ++ x :: post) on others) (hk : y.k = x.k) (h1 : y.sa = x.sa) (h2 : y.ia = x.ia) (h3 : y.dx = x.dx) (hv : IntsAre y.vs y.sl) : NdOk w (pre ++ y :: post) on others := by
  refine ⟨?_, ?_, ?_, ?_⟩
  · have : (pre ++ y :: post).map Nd.kv = (pre ++ x :: post).map Nd.kv := by simp [Nd.kv, hk, h2]
    rw [this]; exact ok.dict
  · intro z hz
    rcases List.mem_append.mp hz with hz | hz
    · exact ok.ivs z (List.mem_append_left _ hz)
    · rcases List.mem_cons.mp hz with rfl | hz
      · exact hv
      · exact ok.ivs z (List.mem_append_right _ (.tail _ hz))
  · have : (pre ++ y :: post).map (·.k) = (pre ++ x :: post).map (·.k) := by simp [hk]
    rw [this]; exact ok.keys
  · rw [nd_addrs pre post x y h1 h2 h3]; exact ok.apart
/-- the whole ledger's addresses are apart -/
theorem led_nodup {l : List Nd} {hd rest : List (Addr × Obj)} (h : ((hd.map (·.1) ++ rest.map (·.1)) ++ (ndLed l).map (·.1)).Nodup) : ((hd ++ (ndLed l ++ rest)).map (·.1)).Nodup := by
  rw [List.map_append, List.map_append]
  refine (List.Perm.nodup_iff ?_).mp h
  rw [List.append_assoc]
  exact List.Perm.append_left _ List.perm_append_comm
/-- the count of a node, as an entry to be updated -/
theorem nd_updI {pre post : List Nd} {x : Nd} {hd rest : List (Addr × Obj)} (h : ((hd.map (·.1) ++ rest.map (·.1)) ++ (ndLed (pre ++ x :: post)).map (·.1)).Nodup) :
    UpdF x.ia (infoObj x.dx x.sa x.np x.tp x.k x.tk) (hd ++ (ndLed (pre ++ x :: post) ++ rest)) (fun o' => (hd ++ ndLed pre ++ [(x.sa, listOf x.vs.toArray x.c)]) ++ (x.ia, o') :: ((x.dx, dictOf [] 0) :: (ndLed post ++ rest))) := by
  have e : hd ++ (ndLed (pre ++ x :: post) ++ rest) = (hd ++ ndLed pre ++ [(x.sa, listOf x.vs.toArray x.c)]) ++ (x.ia, infoObj x.dx x.sa x.np x.tp x.k x.tk) :: ((x.dx, dictOf [] 0) :: (ndLed post ++ rest)) := by
    simp [ndLed_append, ndLed_cons, Nd.led]
  have hn := led_nodup h
  rw [e] at hn ⊢
  exact updF_nodup hn
theorem nd_updI_eq {pre post : List Nd} {x : Nd} {hd rest : List (Addr × Obj)} (np : Int) (tp : Tok) :
    (hd ++ ndLed pre ++ [(x.sa, listOf x.vs.toArray x.c)]) ++ (x.ia, infoObj x.dx x.sa np tp x.k x.tk) :: ((x.dx, dictOf [] 0) :: (ndLed post ++ rest)) = hd ++ (ndLed (pre ++ { x with np := np, tp := tp } :: post) ++ rest) := by
  simp [ndLed_append, ndLed_cons, Nd.led]
/-- the successors of a node, as an entry to be updated -/
theorem nd_updS {pre post : List Nd} {x : Nd} {hd rest : List (Addr × Obj)} (h : ((hd.map (·.1) ++ rest.map (·.1)) ++ (ndLed (pre ++ x :: post)).map (·.1)).Nodup) :
    UpdF x.sa (listOf x.vs.toArray x.c) (hd ++ (ndLed (pre ++ x :: post) ++ rest)) (fun o' => (hd ++ ndLed pre) ++ (x.sa, o') :: ((x.ia, infoObj x.dx x.sa x.np x.tp x.k x.tk) :: (x.dx, dictOf [] 0) :: (ndLed post ++ rest))) := by
  have e : hd ++ (ndLed (pre ++ x :: post) ++ rest) = (hd ++ ndLed pre) ++ (x.sa, listOf x.vs.toArray x.c) :: ((x.ia, infoObj x.dx x.sa x.np x.tp x.k x.tk) :: (x.dx, dictOf [] 0) :: (ndLed post ++ rest)) := by
    simp [ndLed_append, ndLed_cons, Nd.led]
  have hn := led_nodup h
  rw [e] at hn ⊢
  exact updF_nodup hn
theorem nd_updS_eq {pre post : List Nd} {x : Nd} {hd rest : List (Addr × Obj)} (vs : List Value) (sl : List Int) (c : Nat) :
    (hd ++ ndLed pre) ++ (x.sa, listOf vs.toArray c) :: ((x.ia, infoObj x.dx x.sa x.np x.tp x.k x.tk) :: (x.dx, dictOf [] 0) :: (ndLed post ++ rest)) = hd ++ (ndLed (pre ++ { x with vs := vs, sl := sl, c := c } :: post) ++ rest) := by
  simp [ndLed_append, ndLed_cons, Nd.led]
-- Nw
section
variable {w : World} {A : Around} {E : Value → Shared → Prop} {s : Shared} {h₀ : Heap} {L : Addr} {m : Str → Option Value} {hd rest : List (Addr × Obj)} {l : List Nd} {x : Nd}
theorem nd_mem (hx : x ∈ l) {p : Addr × Obj} (hp : p ∈ x.led) : p ∈ hd ++ (ndLed l ++ rest) := List.mem_append_right _ (List.mem_append_left _ (mem_ndLed hx hp))
theorem nd_inst {news : List (Addr × Obj)} (N : News h₀ L s.heap news) (h1 : (x.ia, infoObj x.dx x.sa x.np x.tp x.k x.tk) ∈ news) (h2 : (x.dx, dictOf [] 0) ∈ news) : InstAt s.heap x.ia (infoObj x.dx x.sa x.np x.tp x.k x.tk) 56 (some (dictOf [] 0)) := InstAt.of_news N h1 h2
theorem nd_get_np {news : List (Addr × Obj)} {ex : Bool} {Q : Value → Shared → Prop} (F : Fr h₀ L s.heap m) (X : (Mine.hd.heap_1 w.params).In h₀) (N : News h₀ L s.heap news) (hs : ∀ p ∈ x.led, p ∈ news) (h : Q (.int x.np x.tp) { s with toks := s.toks + 1 }) :
    wpAny (model P w) A (getAttr (.ref x.ia) (Str.ofString "npredecessors") ex) Q E s :=
  get_slot F X (nd_inst N (hs _ (.tail _ (.head _))) (hs _ (.tail _ (.tail _ (.head _))))) (by k_is) (by k_is) (by k_is) (by k_is) (by k_is) (by k_is) rfl rfl h
theorem nd_get_node {news : List (Addr × Obj)} {ex : Bool} {Q : Value → Shared → Prop} (F : Fr h₀ L s.heap m) (X : (Mine.hd.heap_1 w.params).In h₀) (N : News h₀ L s.heap news) (hs : ∀ p ∈ x.led, p ∈ news) (h : Q (.int x.k x.tk) { s with toks := s.toks + 1 }) :
    wpAny (model P w) A (getAttr (.ref x.ia) (Str.ofString "node") ex) Q E s :=
  get_slot F X (nd_inst N (hs _ (.tail _ (.head _))) (hs _ (.tail _ (.tail _ (.head _))))) (by k_is) (by k_is) (by k_is) (by k_is) (by k_is) (by k_is) rfl rfl h
theorem nd_get_succ {news : List (Addr × Obj)} {ex : Bool} {Q : Value → Shared → Prop} (F : Fr h₀ L s.heap m) (X : (Mine.hd.heap_1 w.params).In h₀) (N : News h₀ L s.heap news) (hs : ∀ p ∈ x.led, p ∈ news) (h : Q (.ref x.sa) { s with toks := s.toks + 1 }) :
    wpAny (model P w) A (getAttr (.ref x.ia) (Str.ofString "successors") ex) Q E s :=
  get_slot F X (nd_inst N (hs _ (.tail _ (.head _))) (hs _ (.tail _ (.tail _ (.head _))))) (by k_is) (by k_is) (by k_is) (by k_is) (by k_is) (by k_is) rfl rfl h
theorem upd_of_updF {d : Addr} {o o' : Obj} {l : List (Addr × Obj)} {G : Obj → List (Addr × Obj)} (U : UpdF d o l G) : Upd d o o' l (G o') := by
  induction U with
  | head h => exact .head h
  | tail h _ ih => exact .tail h ih
theorem nd_set_np {pre post : List Nd} {Q : Unit → Shared → Prop} {v : Int} {t : Tok} (F : Fr h₀ L s.heap m) (X : (Mine.hd.heap_1 w.params).In h₀) (N : News h₀ L s.heap (hd ++ (ndLed (pre ++ x :: post) ++ rest))) (ap : ((hd.map (·.1) ++ rest.map (·.1)) ++ (ndLed (pre ++ x :: post)).map (·.1)).Nodup)
    (h : ∀ h', Fr h₀ L h' m → News h₀ L h' (hd ++ (ndLed (pre ++ { x with np := v, tp := t } :: post) ++ rest)) → Q () { s with heap := h', toks := s.toks + 1 }) :
    wpAny (model P w) A (setAttr (.ref x.ia) (Str.ofString "npredecessors") (.int v t)) Q E s := by
  have hs : ∀ p ∈ x.led, p ∈ hd ++ (ndLed (pre ++ x :: post) ++ rest) := fun p hp => nd_mem (by simp) hp
  refine set_slot (ox' := infoObj x.dx x.sa v t x.k x.tk) F X N (nd_inst N (hs _ (.tail _ (.head _))) (hs _ (.tail _ (.tail _ (.head _))))) (by k_is) (by k_is) (by k_is) (by k_is) (by k_is) (by decide) rfl rfl (upd_of_updF (nd_updI ap)) ?_
  intro h' F' N'
  rw [nd_updI_eq] at N'
  exact h h' F' N'
theorem nd_append {pre post : List Nd} {Q : Value → Shared → Prop} {k : Int} {t : Tok} (F : Fr h₀ L s.heap m) (N : News h₀ L s.heap (hd ++ (ndLed (pre ++ x :: post) ++ rest))) (ap : ((hd.map (·.1) ++ rest.map (·.1)) ++ (ndLed (pre ++ x :: post)).map (·.1)).Nodup) (hz : x.vs.length ≤ 10000)
    (h : ∀ h', Fr h₀ L h' m → News h₀ L h' (hd ++ (ndLed (pre ++ { x with vs := x.vs ++ [.int k t], sl := x.sl ++ [k], c := x.c + 1 } :: post) ++ rest)) → Q .none { s with heap := h' }) :
    wpAny (model P w) A (call (.builtin "list.append") [.ref x.sa, .int k t]) Q E s := by
  have U := upd_of_updF (o' := listOf (x.vs.toArray.push (.int k t)) (x.c + 1)) (nd_updS (x := x) (pre := pre) (post := post) (hd := hd) (rest := rest) ap)
  refine append_K F N U ?_ (by rw [sizeLine_eq]; simp only [List.size_toArray]; omega)
  intro h' F' N'
  rw [List.push_toArray, nd_updS_eq (x := x) (pre := pre) (post := post) (hd := hd) (rest := rest) (x.vs ++ [Value.int k t]) (x.sl ++ [k]) (x.c + 1)] at N'
  exact h h' F' N'

theorem NdOk.push3 {on : Obj} {a b c T : Addr} {r : List Addr} (ok : NdOk w l on (a :: b :: c :: r)) (h1 : @Ne Nat a T) (h2 : @Ne Nat b T) (h3 : @Ne Nat c T) (h4 : ∀ y ∈ r, @Ne Nat y T) (h5 : ∀ p ∈ ndLed l, @Ne Nat p.1 T) : NdOk w l on (a :: b :: c :: T :: r) := by
  refine ⟨ok.dict, ok.ivs, ok.keys, ?_⟩
  have hT : (T :: (a :: b :: c :: r ++ (ndLed l).map (·.1))).Nodup := by
    refine List.nodup_cons.mpr ⟨fun hm => ?_, ok.apart⟩
    simp only [List.cons_append, List.mem_cons, List.mem_append] at hm
    rcases hm with rfl | rfl | rfl | hm | hm
    · exact h1 rfl
    · exact h2 rfl
    · exact h3 rfl
    · exact h4 _ hm rfl
    · (first | ((first | refine Exists.elim (List.mem_map.mp hm) ?_ | refine conj_elim (List.mem_map.mp hm) ?_); rintro (p) tmp; (first | ((first | with_reducible refine Exists.elim tmp ?_ | with_reducible refine conj_elim tmp ?_); (try clear tmp); rintro (hp) (e)) | obtain ⟨hp, e⟩ := tmp)) | obtain ⟨p, hp, e⟩ := List.mem_map.mp hm)
      exact h5 p hp e
  refine (List.Perm.nodup_iff ?_).mp hT
  exact (List.Perm.swap _ _ _).trans (((List.Perm.swap _ _ _).trans ((List.Perm.swap _ _ _).cons _)).cons _)
theorem NdOk.pop3 {on : Obj} {a b c T : Addr} {r : List Addr} (ok : NdOk w l on (a :: b :: c :: T :: r)) : NdOk w l on (a :: b :: c :: r) := by
  refine ⟨ok.dict, ok.ivs, ok.keys, List.Nodup.sublist ?_ ok.apart⟩
  exact List.Sublist.append_right (((List.sublist_cons_self T r).cons₂ c |>.cons₂ b).cons₂ a) _
/-- the head fact of the ledger's things -/
theorem NdOk.off {on : Obj} {a b c T : Addr} {r : List Addr} (ok : NdOk w l on (a :: b :: c :: T :: r)) : @Ne Nat a T ∧ @Ne Nat b T ∧ @Ne Nat c T ∧ (∀ y ∈ r, @Ne Nat y T) ∧ ∀ p ∈ ndLed l, @Ne Nat p.1 T := by
  have ap := ok.apart
  simp only [List.cons_append, List.nodup_cons, List.mem_cons, List.mem_append, not_or] at ap
  (first | ((first | with_reducible refine Exists.elim ap ?_ | with_reducible refine conj_elim ap ?_); (try clear ap); rintro (⟨a1, a2, a3, a4, a5⟩) tmp; (first | ((first | with_reducible refine Exists.elim tmp ?_ | with_reducible refine conj_elim tmp ?_); (try clear tmp); rintro (⟨b1, b2, b3, b4⟩) tmp; (first | ((first | with_reducible refine Exists.elim tmp ?_ | with_reducible refine conj_elim tmp ?_); (try clear tmp); rintro (⟨c1, c2, c3⟩) tmp; (first | ((first | with_reducible refine Exists.elim tmp ?_ | with_reducible refine conj_elim tmp ?_); (try clear tmp); rintro (⟨d1, d2⟩) (e1)) | obtain ⟨⟨d1, d2⟩, e1⟩ := tmp)) | obtain ⟨⟨c1, c2, c3⟩, ⟨d1, d2⟩, e1⟩ := tmp)) | obtain ⟨⟨b1, b2, b3, b4⟩, ⟨c1, c2, c3⟩, ⟨d1, d2⟩, e1⟩ := tmp)) | obtain ⟨⟨a1, a2, a3, a4, a5⟩, ⟨b1, b2, b3, b4⟩, ⟨c1, c2, c3⟩, ⟨d1, d2⟩, e1⟩ := ap)
  exact ⟨a3, b2, c1, fun y hy e => d1 (e ▸ hy), fun p hp e => d2 (e ▸ List.mem_map_of_mem hp)⟩
section
variable {on : Obj} {pa pb pc : Addr × Obj} {pre post : List Nd}
theorem nd3_set_np {Q : Unit → Shared → Prop} {v : Int} {t : Tok} (F : Fr h₀ L s.heap m) (X : (Mine.hd.heap_1 w.params).In h₀) (N : News h₀ L s.heap (pa :: pb :: pc :: (ndLed (pre ++ x :: post) ++ rest))) (ok : NdOk w (pre ++ x :: post) on (pa.1 :: pb.1 :: pc.1 :: rest.map (·.1)))
    (h : ∀ h', Fr h₀ L h' m → News h₀ L h' (pa :: pb :: pc :: (ndLed (pre ++ { x with np := v, tp := t } :: post) ++ rest)) → NdOk w (pre ++ { x with np := v, tp := t } :: post) on (pa.1 :: pb.1 :: pc.1 :: rest.map (·.1)) → Q () { s with heap := h', toks := s.toks + 1 }) :
    wpAny (model P w) A (setAttr (.ref x.ia) (Str.ofString "npredecessors") (.int v t)) Q E s :=
  nd_set_np (hd := [pa, pb, pc]) F X N ok.apart fun h' F' N' => h h' F' N' (ok.put rfl rfl rfl rfl (ok.ivs x (by simp)))
theorem nd3_append {Q : Value → Shared → Prop} {k : Int} {t : Tok} (F : Fr h₀ L s.heap m) (N : News h₀ L s.heap (pa :: pb :: pc :: (ndLed (pre ++ x :: post) ++ rest))) (ok : NdOk w (pre ++ x :: post) on (pa.1 :: pb.1 :: pc.1 :: rest.map (·.1))) (hz : x.sl.length ≤ 10000)
    (h : ∀ h', Fr h₀ L h' m → News h₀ L h' (pa :: pb :: pc :: (ndLed (pre ++ { x with vs := x.vs ++ [.int k t], sl := x.sl ++ [k], c := x.c + 1 } :: post) ++ rest)) → NdOk w (pre ++ { x with vs := x.vs ++ [.int k t], sl := x.sl ++ [k], c := x.c + 1 } :: post) on (pa.1 :: pb.1 :: pc.1 :: rest.map (·.1)) → Q .none { s with heap := h' }) :
    wpAny (model P w) A (call (.builtin "list.append") [.ref x.sa, .int k t]) Q E s := by
  have iv := ok.ivs x (by simp)
  refine nd_append (hd := [pa, pb, pc]) F N ok.apart (by have := iv.length; omega) fun h' F' N' => h h' F' N' (ok.put rfl rfl rfl rfl ?_)
  exact ints_snoc iv
end
end
section
variable {prog : Program} {w : World} {A : Around} {E : Value → Shared → Prop} {s : Shared} {h₀ : Heap} {L l : Addr} {m : Str → Option Value} {news : List (Addr × Obj)} {items : Array Value} {Q : Value → Shared → Prop}
theorem piter_tuple {n : Nat} (F : Fr h₀ L s.heap m) (N : News h₀ L s.heap news) (hl : (l, { cls := .type "tuple", data := .seq items n }) ∈ news)
    (h : ∀ (I : Addr) h', Fr h₀ L h' m → News h₀ L h' ((I, tiObj l 0) :: news) → (∀ p ∈ news, @LT.lt Nat _ p.1 I) → Q (.ref I) { s with heap := h' }) :
    wpAny (model prog w) A (pyIter (.ref l)) Q E s :=
  iter_tuple ⟨_, (N _ hl).1, rfl, _, rfl⟩ (h _ _ (F.push _) (News.push F N _ rfl) (fun q hq => Heap.lt_size (N q hq).1))
theorem piter_list {n : Nat} (F : Fr h₀ L s.heap m) (N : News h₀ L s.heap news) (hl : (l, listOf items n) ∈ news)
    (h : ∀ (I : Addr) h', Fr h₀ L h' m → News h₀ L h' ((I, itObj l 0) :: news) → (∀ p ∈ news, @LT.lt Nat _ p.1 I) → Q (.ref I) { s with heap := h' }) :
    wpAny (model prog w) A (pyIter (.ref l)) Q E s :=
  wpAny_pyIter_list ⟨_, (N _ hl).1, rfl, _, rfl⟩ (h _ _ (F.push _) (News.push F N _ rfl) (fun q hq => Heap.lt_size (N q hq).1))
theorem ints_get {vs : List Value} {ns : List Int} (h : IntsAre vs ns) : ∀ {i : Nat} {v : Value}, vs[i]? = some v → ∃ n t, v = .int n t ∧ ns[i]? = some n := by
  induction h with
  | nil => intro i v e; simp at e
  | cons x t _ ih =>
    intro i v e
    cases i with
    | zero => simp at e; exact ⟨_, _, e.symm, rfl⟩
    | succ i => simp at e; simpa using ih e
end
-- Cc
section
variable {prog : Program} {w : World} {A₀ : Around} {E : Value → Shared → Prop} {s' : Shared} {base g g₀ G B h₅ : Heap} {outer : List Env} {L a e C : Addr} {m : Str → Option Value} {name : Str} {scope : Scope} {cd : Value} {cl : List (Str × Addr)} {env : Env}
  {b₀ : Stmt} {suite : List Stmt} {pos np : Pos} {rest : List ExceptHandler} {Q : Flow → Shared → Prop} {news : List (Addr × Obj)} {KF : Frag}
  {p : Program} {loose : List Str} {mean : ExcName → Option Value} {mg mb : Str → Option Value} {x : Str}
theorem mem_frs {b : Addr} (hf : env.frame = some L) (hm : b ∈ (env :: outer).filterMap (·.frame)) : b = L ∨ b ∈ outer.filterMap (·.frame) := by
  (first | ((first | refine Exists.elim (List.mem_filterMap.mp hm) ?_ | refine conj_elim (List.mem_filterMap.mp hm) ?_); rintro (env') tmp; (first | ((first | with_reducible refine Exists.elim tmp ?_ | with_reducible refine conj_elim tmp ?_); (try clear tmp); rintro (he) (hf')) | obtain ⟨he, hf'⟩ := tmp)) | obtain ⟨env', he, hf'⟩ := List.mem_filterMap.mp hm)
  rcases List.mem_cons.mp he with rfl | he
  · exact .inl (Option.some.inj (hf'.symm.trans hf))
  · exact .inr (List.mem_filterMap.mpr ⟨env', he, hf'⟩)
theorem ground_any (hf : env.frame = some L) (K : Below A₀ base outer g) (F : Fr g L G m) (hBG : ∀ b o, G.get? b = some o → b ∉ (env :: outer).filterMap (·.frame) → B.get? b = some o) (hBh : B.StaysIn h₅) (hsm : G.UpToSlots h₅) :
    ∃ g', KtsTurn (outer.filterMap (·.frame)) g g' ∧ Fr g' L h₅ m ∧ Below A₀ base outer g' := by
  obtain ⟨T, S⟩ := kts_turn_at (h := h₅) (fs := outer.filterMap (·.frame)) (g := g)
    (fun b hb => by
      obtain ⟨_, o, ho, _⟩ := K.frames.mem hb
      exact ⟨o, ho⟩)
    (fun b o e nm => hBh b o (hBG b o (F.keep b o e) (fun hm => by
      rcases mem_frs hf hm with z | z
      · rw [z, kts_self F] at e
        cases e
      · exact nm z)))
    (fun b o e hm => by
      obtain ⟨_, o', ho', hd⟩ := K.frames.mem hm
      rw [e] at ho'
      cases ho'
      exact hsm b o (F.keep b o e) hd)
  refine ⟨_, T, ⟨hsm.ns F.ns, S, by rw [T.size]; exact F.above⟩, ⟨K.stack, fun b o e => T.other b o (K.stays b o e) (fun hm => by
    rw [(K.frames.mem hm).1] at e
    cases e), K.frames.of_keeps fun b o e _ => ?_⟩⟩
  (first | ((first | refine Exists.elim (T.up e) ?_ | refine conj_elim (T.up e) ?_); rintro (sl) (hs)) | obtain ⟨sl, hs⟩ := T.up e)
  exact ⟨_, hs, rfl⟩
/-- an own exception that came from a callee, caught in a frame that may have cells -/
theorem caughtX_SO0 (R : RaisedSN base G (envX name scope L a cd cl :: outer) e (.ref C) news s'.heap) (F : Fr g L G m) (K : Below A₀ base outer g) (hsm : G.UpToSlots s'.heap) (XB : KF.In base) (TB : Top p loose mean mg mb base)
    (D : KtsDicts (outer.filterMap (·.frame)) g) (T0 : KtsTurn (outer.filterMap (·.frame)) g₀ g)
    (ex : nsIn KF mainGlobals x = some (some (.ref C))) (q : ktsIn KF C "BaseException" = true)
    (k : ∀ h' g', KtsTurn (outer.filterMap (·.frame)) g₀ g' → Fr g' L h' m → News g' L h' news → Below A₀ base outer g' → KF.In g' → Top p loose mean mg mb g' → KtsDicts (outer.filterMap (·.frame)) g' →
      wpAny (model prog w) ((A₀.deeper (envX name scope L a cd cl)).mark (some (.ref e))) (execs (b₀ :: suite) (envX name scope L a cd cl)) Q E { s' with heap := h' })
    (hk : scope.kind = .function := by rfl) (hx : (envX name scope L a cd cl).kindOf x = some .globalImplicit := by rfl) (hd : (x == ("__debug__" : Str)) = false := by decide)
    (hE : PassesOwnAt (model prog w) ((A₀.deeper (envX name scope L a cd cl)).mark (some (.ref e))) (A₀.deeper (envX name scope L a cd cl)) (envX name scope L a cd cl) E := by passes_own) :
    wpAny (model prog w) (A₀.deeper (envX name scope L a cd cl)) (noteFrame (.ref e) (envX name scope L a cd cl))
      (fun _ s₂ => wpAny (model prog w) (A₀.deeper (envX name scope L a cd cl)) (setFlight (.ref e) none) (fun _ s₃ =>
        wpAny (model prog w) (A₀.deeper (envX name scope L a cd cl)) (handleBy (.ref e) (envX name scope L a cd cl) (.ExceptHandler (some (.Name x np)) none (b₀ :: suite) pos :: rest)) Q E s₃) E s₂) E s' := by
  (first | ((first | with_reducible refine Exists.elim R ?_ | with_reducible refine conj_elim R ?_); (try clear R); rintro (B) tmp; (first | ((first | with_reducible refine Exists.elim tmp ?_ | with_reducible refine conj_elim tmp ?_); (try clear tmp); rintro (a0) tmp; (first | ((first | with_reducible refine Exists.elim tmp ?_ | with_reducible refine conj_elim tmp ?_); (try clear tmp); rintro (hB) tmp; (first | ((first | with_reducible refine Exists.elim tmp ?_ | with_reducible refine conj_elim tmp ?_); (try clear tmp); rintro (hBG) tmp; (first | ((first | with_reducible refine Exists.elim tmp ?_ | with_reducible refine conj_elim tmp ?_); (try clear tmp); rintro (hl) (hfl)) | obtain ⟨hl, hfl⟩ := tmp)) | obtain ⟨hBG, hl, hfl⟩ := tmp)) | obtain ⟨hB, hBG, hl, hfl⟩ := tmp)) | obtain ⟨a0, hB, hBG, hl, hfl⟩ := tmp)) | obtain ⟨B, a0, hB, hBG, hl, hfl⟩ := R)
  have hf : (envX name scope L a cd cl).frame = some L := rfl
  have hL : B.get? L = none := by
    (first | ((first | refine Exists.elim (hfl.2.2.1) ?_ | refine conj_elim (hfl.2.2.1) ?_); rintro (_) tmp; (first | ((first | with_reducible refine Exists.elim tmp ?_ | with_reducible refine conj_elim tmp ?_); (try clear tmp); rintro (⟨L', _, hf', hn', _⟩) (_)) | obtain ⟨⟨L', _, hf', hn', _⟩, _⟩ := tmp)) | obtain ⟨_, ⟨L', _, hf', hn', _⟩, _⟩ := hfl.2.2.1)
    obtain rfl : L = L' := Option.some.inj (hf.symm.trans hf')
    exact hn'
  refine wpAny_looks_onW (Around.frames_deeper K.stack) rfl hfl fun h₄ hheld₄ hsm₄ => ?_
  refine wpAny_landsW hheld₄ fun h₅ hheld hsm₅' => ?_
  have hsm₅ := hsm₄.trans hsm₅'
  (first | ((first | refine Exists.elim (ground_any hf K F hBG hheld.1 (hsm.trans hsm₅)) ?_ | refine conj_elim (ground_any hf K F hBG hheld.1 (hsm.trans hsm₅)) ?_); rintro (g₅) tmp; (first | ((first | with_reducible refine Exists.elim tmp ?_ | with_reducible refine conj_elim tmp ?_); (try clear tmp); rintro (T₅) tmp; (first | ((first | with_reducible refine Exists.elim tmp ?_ | with_reducible refine conj_elim tmp ?_); (try clear tmp); rintro (F₅) (K₅)) | obtain ⟨F₅, K₅⟩ := tmp)) | obtain ⟨T₅, F₅, K₅⟩ := tmp)) | obtain ⟨g₅, T₅, F₅, K₅⟩ := ground_any hf K F hBG hheld.1 (hsm.trans hsm₅))
  have X₅ : KF.In g₅ := XB.keeps K₅.stays
  have P₅ : TopRead p loose mg mb g₅ := topRead_of (TB.keeps K₅.stays)
  (first | ((first | refine Exists.elim (hheld.there) ?_ | refine conj_elim (hheld.there) ?_); rintro (ob) tmp; (first | ((first | with_reducible refine Exists.elim tmp ?_ | with_reducible refine conj_elim tmp ?_); (try clear tmp); rintro (hob) (hobc)) | obtain ⟨hob, hobc⟩ := tmp)) | obtain ⟨ob, hob, hobc⟩ := hheld.there)
  (first | ((first | refine Exists.elim (kts_cls X₅ q) ?_ | refine conj_elim (kts_cls X₅ q) ?_); rintro (nm) tmp; (first | ((first | with_reducible refine Exists.elim tmp ?_ | with_reducible refine conj_elim tmp ?_); (try clear tmp); rintro (q') tmp; (first | ((first | with_reducible refine Exists.elim tmp ?_ | with_reducible refine conj_elim tmp ?_); (try clear tmp); rintro (N) tmp; (first | ((first | with_reducible refine Exists.elim tmp ?_ | with_reducible refine conj_elim tmp ?_); (try clear tmp); rintro (bs) tmp; (first | ((first | with_reducible refine Exists.elim tmp ?_ | with_reducible refine conj_elim tmp ?_); (try clear tmp); rintro (bm) tmp; (first | ((first | with_reducible refine Exists.elim tmp ?_ | with_reducible refine conj_elim tmp ?_); (try clear tmp); rintro (hdct) tmp; (first | ((first | with_reducible refine Exists.elim tmp ?_ | with_reducible refine conj_elim tmp ?_); (try clear tmp); rintro (sn) tmp; (first | ((first | with_reducible refine Exists.elim tmp ?_ | with_reducible refine conj_elim tmp ?_); (try clear tmp); rintro (sub) tmp; (first | ((first | with_reducible refine Exists.elim tmp ?_ | with_reducible refine conj_elim tmp ?_); (try clear tmp); rintro (ab) tmp; (first | ((first | with_reducible refine Exists.elim tmp ?_ | with_reducible refine conj_elim tmp ?_); (try clear tmp); rintro (col) tmp; (first | ((first | with_reducible refine Exists.elim tmp ?_ | with_reducible refine conj_elim tmp ?_); (try clear tmp); rintro (dd) tmp; (first | ((first | with_reducible refine Exists.elim tmp ?_ | with_reducible refine conj_elim tmp ?_); (try clear tmp); rintro (k0) tmp; (first | ((first | with_reducible refine Exists.elim tmp ?_ | with_reducible refine conj_elim tmp ?_); (try clear tmp); rintro (k1) tmp; (first | ((first | with_reducible refine Exists.elim tmp ?_ | with_reducible refine conj_elim tmp ?_); (try clear tmp); rintro (k2) tmp; (first | ((first | with_reducible refine Exists.elim tmp ?_ | with_reducible refine conj_elim tmp ?_); (try clear tmp); rintro (k3) tmp; (first | ((first | with_reducible refine Exists.elim tmp ?_ | with_reducible refine conj_elim tmp ?_); (try clear tmp); rintro (k5) tmp; (first | ((first | with_reducible refine Exists.elim tmp ?_ | with_reducible refine conj_elim tmp ?_); (try clear tmp); rintro (newId) tmp; (first | ((first | with_reducible refine Exists.elim tmp ?_ | with_reducible refine conj_elim tmp ?_); (try clear tmp); rintro (hC) tmp; (first | ((first | with_reducible refine Exists.elim tmp ?_ | with_reducible refine conj_elim tmp ?_); (try clear tmp); rintro (hbase) (hbT)) | obtain ⟨hbase, hbT⟩ := tmp)) | obtain ⟨hC, hbase, hbT⟩ := tmp)) | obtain ⟨newId, hC, hbase, hbT⟩ := tmp)) | obtain ⟨k5, newId, hC, hbase, hbT⟩ := tmp)) | obtain ⟨k3, k5, newId, hC, hbase, hbT⟩ := tmp)) | obtain ⟨k2, k3, k5, newId, hC, hbase, hbT⟩ := tmp)) | obtain ⟨k1, k2, k3, k5, newId, hC, hbase, hbT⟩ := tmp)) | obtain ⟨k0, k1, k2, k3, k5, newId, hC, hbase, hbT⟩ := tmp)) | obtain ⟨dd, k0, k1, k2, k3, k5, newId, hC, hbase, hbT⟩ := tmp)) | obtain ⟨col, dd, k0, k1, k2, k3, k5, newId, hC, hbase, hbT⟩ := tmp)) | obtain ⟨ab, col, dd, k0, k1, k2, k3, k5, newId, hC, hbase, hbT⟩ := tmp)) | obtain ⟨sub, ab, col, dd, k0, k1, k2, k3, k5, newId, hC, hbase, hbT⟩ := tmp)) | obtain ⟨sn, sub, ab, col, dd, k0, k1, k2, k3, k5, newId, hC, hbase, hbT⟩ := tmp)) | obtain ⟨hdct, sn, sub, ab, col, dd, k0, k1, k2, k3, k5, newId, hC, hbase, hbT⟩ := tmp)) | obtain ⟨bm, hdct, sn, sub, ab, col, dd, k0, k1, k2, k3, k5, newId, hC, hbase, hbT⟩ := tmp)) | obtain ⟨bs, bm, hdct, sn, sub, ab, col, dd, k0, k1, k2, k3, k5, newId, hC, hbase, hbT⟩ := tmp)) | obtain ⟨N, bs, bm, hdct, sn, sub, ab, col, dd, k0, k1, k2, k3, k5, newId, hC, hbase, hbT⟩ := tmp)) | obtain ⟨q', N, bs, bm, hdct, sn, sub, ab, col, dd, k0, k1, k2, k3, k5, newId, hC, hbase, hbT⟩ := tmp)) | obtain ⟨nm, q', N, bs, bm, hdct, sn, sub, ab, col, dd, k0, k1, k2, k3, k5, newId, hC, hbase, hbT⟩ := kts_cls X₅ q)
  have hC₅ := F₅.keep _ _ hC
  refine wpAny_handleBy_cons (codeAny_handlers_test (nameX_K F₅ X₅ P₅ ex ?_ hk hx hd)) (by intro q; cases q)
  refine wpAny_excMatches_sub_self hC₅ hob hobc hbase (codeAny_handlers_suite ?_)
  refine lands_againW hheld fun h₆ hfl₆ hsm₆ => ?_
  (first | ((first | refine Exists.elim (ground_any hf K F hBG hfl₆.1 ((hsm.trans hsm₅).trans hsm₆)) ?_ | refine conj_elim (ground_any hf K F hBG hfl₆.1 ((hsm.trans hsm₅).trans hsm₆)) ?_); rintro (g₆) tmp; (first | ((first | with_reducible refine Exists.elim tmp ?_ | with_reducible refine conj_elim tmp ?_); (try clear tmp); rintro (T₆) tmp; (first | ((first | with_reducible refine Exists.elim tmp ?_ | with_reducible refine conj_elim tmp ?_); (try clear tmp); rintro (F₆) (K₆)) | obtain ⟨F₆, K₆⟩ := tmp)) | obtain ⟨T₆, F₆, K₆⟩ := tmp)) | obtain ⟨g₆, T₆, F₆, K₆⟩ := ground_any hf K F hBG hfl₆.1 ((hsm.trans hsm₅).trans hsm₆))
  have Nl : News g₆ L h₆ news := fun q hq => ⟨hfl₆.1 _ _ (hl q hq).1, (fun z => by have := (hl q hq).1; rw [z, hL] at this; cases this), T₆.none_ _ (kts_none F.keep (hl q hq).2.1)⟩
  exact wpAny_passesOwnAt hE (k h₆ g₆ (T0.trans T₆) F₆ Nl K₆ (XB.keeps K₆.stays) (TB.keeps K₆.stays) (D.turn T₆))
end
section
variable {w : World} {mean : ExcName → Option Value} {mg mb : Str → Option Value} {base h₀ : Heap} {outer : List Env} {news : List (Addr × Obj)} {s : Shared} {A₀ : Around} {L : Addr} {m : Str → Option Value} {env : Env}
/-- use_exc for a callee that made new things -/
theorem use_exc2 (B : Below A₀ base outer h₀) (F : Fr h₀ L s.heap m) (N : News h₀ L s.heap news) (hf : env.frame = some L) (own rest : List (Addr × Obj)) (ho : ∀ p ∈ own, p ∈ news) (hr : ∀ p ∈ rest, p ∈ news) (hd : ∀ p ∈ own, ∀ q ∈ rest, p.1 ≠ q.1)
    {e : Addr} {cls : Value} {own' : List (Addr × Obj)} {h' : Heap} (R : RaisedSN base (hideAll s.heap (own.map (fun p : Addr × Obj => p.1))) (env :: outer) e cls own' h') (up : (hideAll s.heap (own.map (fun p : Addr × Obj => p.1))).UpToSlots h') :
    ∃ G, Fr h₀ L G m ∧ RaisedSN base G (env :: outer) e cls (own' ++ rest) h' ∧ G.UpToSlots h' := by
  (first | ((first | refine Exists.elim (F.ns) ?_ | refine conj_elim (F.ns) ?_); rintro (oL) tmp; (first | ((first | with_reducible refine Exists.elim tmp ?_ | with_reducible refine conj_elim tmp ?_); (try clear tmp); rintro (es) tmp; (first | ((first | with_reducible refine Exists.elim tmp ?_ | with_reducible refine conj_elim tmp ?_); (try clear tmp); rintro (ep) tmp; (first | ((first | with_reducible refine Exists.elim tmp ?_ | with_reducible refine conj_elim tmp ?_); (try clear tmp); rintro (hL) tmp; (first | ((first | with_reducible refine Exists.elim tmp ?_ | with_reducible refine conj_elim tmp ?_); (try clear tmp); rintro (hLd) tmp; (first | ((first | with_reducible refine Exists.elim tmp ?_ | with_reducible refine conj_elim tmp ?_); (try clear tmp); rintro (hLk) (hLf)) | obtain ⟨hLk, hLf⟩ := tmp)) | obtain ⟨hLd, hLk, hLf⟩ := tmp)) | obtain ⟨hL, hLd, hLk, hLf⟩ := tmp)) | obtain ⟨ep, hL, hLd, hLk, hLf⟩ := tmp)) | obtain ⟨es, ep, hL, hLd, hLk, hLf⟩ := tmp)) | obtain ⟨oL, es, ep, hL, hLd, hLk, hLf⟩ := F.ns)
  have sub : ∀ b o, (hideAll s.heap (news.map (fun p : Addr × Obj => p.1))).get? b = some o → (hideAll s.heap (own.map (fun p : Addr × Obj => p.1))).get? b = some o := fun b o q => by
    have h1 := of_hideAll _ q
    refine hideAll_get _ h1 fun hm => ?_
    (first | ((first | refine Exists.elim (List.mem_map.mp hm) ?_ | refine conj_elim (List.mem_map.mp hm) ?_); rintro (p) tmp; (first | ((first | with_reducible refine Exists.elim tmp ?_ | with_reducible refine conj_elim tmp ?_); (try clear tmp); rintro (hp) (e)) | obtain ⟨hp, e⟩ := tmp)) | obtain ⟨p, hp, e⟩ := List.mem_map.mp hm)
    have : (hideAll s.heap (news.map (fun p : Addr × Obj => p.1))).get? b = none := hideAll_none _ (List.mem_map.mpr ⟨p, ho p hp, e⟩)
    rw [this] at q; cases q
  have nL : L ∉ news.map (fun p : Addr × Obj => p.1) := fun q => by
    (first | ((first | refine Exists.elim (List.mem_map.mp q) ?_ | refine conj_elim (List.mem_map.mp q) ?_); rintro (p) tmp; (first | ((first | with_reducible refine Exists.elim tmp ?_ | with_reducible refine conj_elim tmp ?_); (try clear tmp); rintro (hp) (e)) | obtain ⟨hp, e⟩ := tmp)) | obtain ⟨p, hp, e⟩ := List.mem_map.mp q)
    exact (N p hp).2.1 e
  have nm : ∀ b o, h₀.get? b = some o → b ∉ news.map (fun p : Addr × Obj => p.1) := fun b o e q => by
    (first | ((first | refine Exists.elim (List.mem_map.mp q) ?_ | refine conj_elim (List.mem_map.mp q) ?_); rintro (p) tmp; (first | ((first | with_reducible refine Exists.elim tmp ?_ | with_reducible refine conj_elim tmp ?_); (try clear tmp); rintro (hp) (rfl)) | obtain ⟨hp, rfl⟩ := tmp)) | obtain ⟨p, hp, rfl⟩ := List.mem_map.mp q)
    rw [(N p hp).2.2] at e; cases e
  (first | ((first | with_reducible refine Exists.elim R ?_ | with_reducible refine conj_elim R ?_); (try clear R); rintro (Bh) tmp; (first | ((first | with_reducible refine Exists.elim tmp ?_ | with_reducible refine conj_elim tmp ?_); (try clear tmp); rintro (a0) tmp; (first | ((first | with_reducible refine Exists.elim tmp ?_ | with_reducible refine conj_elim tmp ?_); (try clear tmp); rintro (hB) tmp; (first | ((first | with_reducible refine Exists.elim tmp ?_ | with_reducible refine conj_elim tmp ?_); (try clear tmp); rintro (hBG) tmp; (first | ((first | with_reducible refine Exists.elim tmp ?_ | with_reducible refine conj_elim tmp ?_); (try clear tmp); rintro (hl) (hfl)) | obtain ⟨hl, hfl⟩ := tmp)) | obtain ⟨hBG, hl, hfl⟩ := tmp)) | obtain ⟨hB, hBG, hl, hfl⟩ := tmp)) | obtain ⟨a0, hB, hBG, hl, hfl⟩ := tmp)) | obtain ⟨Bh, a0, hB, hBG, hl, hfl⟩ := R)
  refine ⟨hideAll s.heap (news.map (fun p : Addr × Obj => p.1)), ⟨⟨oL, es, ep, hideAll_get _ hL nL, hLd, hLk, hLf⟩, fun b o e => hideAll_get _ (F.keep b o e) (nm b o e), F.above⟩, ⟨Bh, a0, hB, fun b o q nmem => hBG b o (sub b o q) nmem, fun q hq => ?_, hfl⟩, fun b o q nf => up b o (sub b o q) nf⟩
  rcases List.mem_append.mp hq with hq | hq
  · refine ⟨(hl q hq).1, ?_, (hl q hq).2.2⟩
    cases z : (hideAll s.heap (news.map (fun p : Addr × Obj => p.1))).get? q.1 with
    | none => rfl
    | some o =>
      have z1 := sub _ _ z
      rw [(hl q hq).2.1] at z1
      cases z1
  · have h1 : (hideAll s.heap (own.map (fun p : Addr × Obj => p.1))).get? q.1 = some q.2 := hideAll_get _ (N q (hr q hq)).1 fun hm => by
      (first | ((first | refine Exists.elim (List.mem_map.mp hm) ?_ | refine conj_elim (List.mem_map.mp hm) ?_); rintro (x) tmp; (first | ((first | with_reducible refine Exists.elim tmp ?_ | with_reducible refine conj_elim tmp ?_); (try clear tmp); rintro (hx) (e)) | obtain ⟨hx, e⟩ := tmp)) | obtain ⟨x, hx, e⟩ := List.mem_map.mp hm)
      exact hd x hx q hq e
    refine ⟨hBG _ _ h1 fun hm => ?_, hideAll_none _ (List.mem_map.mpr ⟨q, hr q hq, rfl⟩), ?_⟩
    · rcases mem_frs hf hm with z | z
      · exact (N q (hr q hq)).2.1 z
      · (first | ((first | refine Exists.elim (B.frames.mem z) ?_ | refine conj_elim (B.frames.mem z) ?_); rintro (_) tmp; (first | ((first | with_reducible refine Exists.elim tmp ?_ | with_reducible refine conj_elim tmp ?_); (try clear tmp); rintro (o) tmp; (first | ((first | with_reducible refine Exists.elim tmp ?_ | with_reducible refine conj_elim tmp ?_); (try clear tmp); rintro (ho') (_)) | obtain ⟨ho', _⟩ := tmp)) | obtain ⟨o, ho', _⟩ := tmp)) | obtain ⟨_, o, ho', _⟩ := B.frames.mem z)
        rw [(N q (hr q hq)).2.2] at ho'; cases ho'
    · cases z : base.get? q.1 with
      | none => rfl
      | some o => have := B.stays _ _ z; rw [(N q (hr q hq)).2.2] at this; cases this
/-- call_use for a callee that may raise and has made new things -/
theorem call_use2 {dp un : Nat} {gd : Option (List Code)} {Q E : Value → Shared → Prop} {f : Value} {pos : List Value} (B : Below A₀ base outer h₀) (F : Fr h₀ L s.heap m) (N : News h₀ L s.heap news) (XB : (Mine.hd.heap_1 w.params).In base) (TB : TT mean mg mb base) (D : KtsDicts (frs outer) h₀)
    (own rest : List (Addr × Obj)) (ho : ∀ p ∈ own, p ∈ news) (hr : ∀ p ∈ rest, p ∈ news) (hd' : ∀ p ∈ own, ∀ q ∈ rest, q.1 ≠ p.1)
    (h : ∀ g, Sit w mean mg mb base (env :: outer) g s.heap own →
      (∀ g' h' own', KtsTurn (frs (env :: outer)) g g' → Done g' h' own' → ∃ h₀', All8 (KtsTurn (frs outer) h₀ h₀') (Fr h₀' L h' m) (News h₀' L h' (own' ++ rest)) (Below A₀ base outer h₀') ((Mine.hd.heap_1 w.params).In h₀') (TT mean mg mb h₀') (KtsDicts (frs outer) h₀') (∀ p ∈ own', ∀ q ∈ rest, @Ne Nat p.1 q.1)) →
      (∀ e cls own' h', RaisedSN base g (env :: outer) e cls own' h' → g.UpToSlots h' → ∃ G, Fr h₀ L G m ∧ RaisedSN base G (env :: outer) e cls (own' ++ rest) h' ∧ G.UpToSlots h') →
      codeAny (model P w) (arnd dp un gd (env :: outer)) (.call f ⟨pos, []⟩) (fun r s' => match r with | .ok (.ret v) => Q v s' | .ok _ => False | .error e => E e s') s)
    (hf : env.frame = some L := by rfl) (hke : env.scope.kind = .function := by rfl) :
    wpAny (model P w) (arnd dp un gd (env :: outer)) (call f pos) Q E s := by
  have hd : ∀ p ∈ own, ∀ q ∈ rest, p.1 ≠ q.1 := fun p hp q hq => Ne.symm (hd' p hp q hq)
  (first | ((first | refine Exists.elim (use_at B F N XB TB D hf hke own rest ho hr hd) ?_ | refine conj_elim (use_at B F N XB TB D hf hke own rest ho hr hd) ?_); rintro (g) tmp; (first | ((first | with_reducible refine Exists.elim tmp ?_ | with_reducible refine conj_elim tmp ?_); (try clear tmp); rintro (rfl) tmp; (first | ((first | with_reducible refine Exists.elim tmp ?_ | with_reducible refine conj_elim tmp ?_); (try clear tmp); rintro (S) tmp; (first | ((first | with_reducible refine Exists.elim tmp ?_ | with_reducible refine conj_elim tmp ?_); (try clear tmp); rintro (_) tmp; (first | ((first | with_reducible refine Exists.elim tmp ?_ | with_reducible refine conj_elim tmp ?_); (try clear tmp); rintro (b1) (b2)) | obtain ⟨b1, b2⟩ := tmp)) | obtain ⟨_, b1, b2⟩ := tmp)) | obtain ⟨S, _, b1, b2⟩ := tmp)) | obtain ⟨rfl, S, _, b1, b2⟩ := tmp)) | obtain ⟨g, rfl, S, _, b1, b2⟩ := use_at B F N XB TB D hf hke own rest ho hr hd)
  exact wpAny_call (h _ S b2 fun e cls own' h' R up => use_exc2 B F N hf own rest ho hr hd R up)
end
-- En
theorem RefsIn.get {fz : List (Addr × Obj)} {vs : List Value} {ps : List (Int × Int)} (h : RefsIn fz vs ps) : ∀ {i : Nat} {v : Value}, vs[i]? = some v → ∃ t n o a b, v = .ref t ∧ ps[i]? = some (n, o) ∧ (t, tup2 n a o b) ∈ fz := by
  induction h with
  | nil => intro i v e; simp at e
  | cons hm _ ih =>
    intro i v e
    cases i with
    | zero => simp at e; exact ⟨_, _, _, _, _, e.symm, rfl, hm⟩
    | succ i => simp at e; simpa using ih e
theorem ended_spec {w : World} {mean : ExcName → Option Value} {mg mb : Str → Option Value} {base g : Heap} {outer : List Env} {s : Shared} {dp un : Nat} {gd : Option (List Code)} {R : Result → Shared → Prop}
    {fz : List (Addr × Obj)} {a t : Addr} {vs : List Value} {k : Nat} {ps : List (Int × Int)} {n o : Int} {x y : Tok}
    (S : Sit w mean mg mb base outer g s.heap fz) (ha : (a, listOf (vs ++ [Value.ref t]).toArray k) ∈ fz) (hr : RefsIn fz vs ps) (ht : (t, tup2 n x o y) ∈ fz) (hlen : vs.length ≤ 10000) (hn : Builtin.Int.intBits n ≤ 10000) (hd : dp + 15 < recursionLimit) (hu : un + 150 < cLine)
    (ret : ∀ c ws k' h' tk', IntsAre ws (ps.map (·.1) ++ [n * 64 + 5]) → Done g h' ((c, listOf ws.toArray k') :: fz) → R (.ok (.ret (.ref c))) { s with heap := h', toks := tk' }) :
    codeAny (model P w) (arnd dp un gd outer) (.call (.ref 200) ⟨[.ref a], []⟩) R s := by
  refine S.enter (binds := [(Str.ofString "pairs", .ref a)]) (by k_is) (by k_is) (by omega) (BindsTo.of_eq rfl) (locs rfl) ?_ rfl rfl rfl (by decide)
  intro L h₁ F N B X T KD XB TB hlt
  (repeat' (fail_if_success with_reducible first | refine zzW ?_ | refine zzF ?_ | refine zzC ?_ | refine zzL ?_ | refine zzD ?_); first | k_unfold; try dsimp only | walk1 | dsimp only; walk1 | leave1; try dsimp only)
  refine LCp.ListComp_P (cl := []) F rfl (by decide) rfl (by decide) rfl rfl (by decide) ?_
  (repeat' (fail_if_success with_reducible first | refine zzSl ?_); first | k_unfold; try dsimp only | walk1 | dsimp only; walk1 | leave1; try dsimp only)
  refine slice_at F N ha .none (.int _ _) (ys := vs) ((slicePick_butLast (vs ++ [Value.ref t]).toArray 1 (by decide)).trans (by simp)) ?_ (hsz := by simp only [List.size_toArray, List.length_append, List.length_cons, List.length_nil]; rw [sizeLine_eq]; omega)
  intro a₂ h₂ F₂ N₂ l₂
  refine LCp.SrcLP.ledger rfl F₂ N₂ (.head _) (by simp only [List.size_toArray]; rw [sizeLine_eq]; omega) fun g' => ?_
  refine compP_ind (fun i ys nw => nw = (a₂, listOf vs.toArray 0) :: fz ∧ IntsAre ys ((ps.map (·.1)).take i)) vs.toArray.size ?_ ?_ _ 0 [] _ (Nat.zero_add _) ⟨rfl, .nil⟩
  · rintro i ys nw hi ⟨rfl, hys⟩ v hv
    have hv' : vs[i]? = some v := by simpa using hv
    (first | ((first | refine Exists.elim (hr.get hv') ?_ | refine conj_elim (hr.get hv') ?_); rintro (t') tmp; (first | ((first | with_reducible refine Exists.elim tmp ?_ | with_reducible refine conj_elim tmp ?_); (try clear tmp); rintro (n') tmp; (first | ((first | with_reducible refine Exists.elim tmp ?_ | with_reducible refine conj_elim tmp ?_); (try clear tmp); rintro (o') tmp; (first | ((first | with_reducible refine Exists.elim tmp ?_ | with_reducible refine conj_elim tmp ?_); (try clear tmp); rintro (x') tmp; (first | ((first | with_reducible refine Exists.elim tmp ?_ | with_reducible refine conj_elim tmp ?_); (try clear tmp); rintro (y') tmp; (first | ((first | with_reducible refine Exists.elim tmp ?_ | with_reducible refine conj_elim tmp ?_); (try clear tmp); rintro (rfl) tmp; (first | ((first | with_reducible refine Exists.elim tmp ?_ | with_reducible refine conj_elim tmp ?_); (try clear tmp); rintro (hps) (hm')) | obtain ⟨hps, hm'⟩ := tmp)) | obtain ⟨rfl, hps, hm'⟩ := tmp)) | obtain ⟨y', rfl, hps, hm'⟩ := tmp)) | obtain ⟨x', y', rfl, hps, hm'⟩ := tmp)) | obtain ⟨o', x', y', rfl, hps, hm'⟩ := tmp)) | obtain ⟨n', o', x', y', rfl, hps, hm'⟩ := tmp)) | obtain ⟨t', n', o', x', y', rfl, hps, hm'⟩ := hr.get hv')
    refine ⟨t', _, _, _, _, rfl, .tail _ hm', rfl, rfl, ?_⟩
    intro I oI C oC D m₂ h tk E' hC hx hx' F₃ N₃ o3 ne Q1 hQ1
    (repeat' (fail_if_success with_reducible first | refine zzW ?_ | refine zzF ?_ | refine zzC ?_ | refine zzL ?_ | refine zzD ?_); first | k_unfold; try dsimp only | walk1 | dsimp only; walk1 | leave1; try dsimp only)
    refine hQ1 _ _ ?_
    refine CompEnd.intro F₃ N₃ ((a₂, listOf vs.toArray 0) :: fz) (fun p hp => hp) o3 (.inr ⟨_, .head _, rfl, _, rfl⟩) ⟨rfl, ?_⟩
    rw [List.take_add_one]
    have : (ps.map (·.1))[i]? = some n' := by simp [hps]
    rw [this]
    exact ints_snoc hys
  · rintro ys nw ⟨rfl, hys⟩ D h tk F₃ N₃ o1
    (repeat' (fail_if_success with_reducible first | refine zzW ?_ | refine zzF ?_ | refine zzC ?_ | refine zzL ?_ | refine zzD ?_); first | k_unfold; try dsimp only | walk1 | dsimp only; walk1 | leave1; try dsimp only)
    refine item_last N₃ (.tail _ (.tail _ ha)) ?_
    (repeat' (fail_if_success with_reducible first | refine zzW ?_ | refine zzF ?_ | refine zzC ?_ | refine zzL ?_ | refine zzD ?_); first | k_unfold; try dsimp only | walk1 | dsimp only; walk1 | leave1; try dsimp only)
    refine item_tuple (items := #[.int n x, .int o y]) (j := 0) (x := .int n x) ⟨_, (N₃ _ (.tail _ (.tail _ ht))).1, rfl, _, rfl⟩ (by decide) (by decide) rfl rfl ?_
    (repeat' (fail_if_success with_reducible first | refine zzW ?_ | refine zzF ?_ | refine zzC ?_ | refine zzL ?_ | refine zzD ?_); first | k_unfold; try dsimp only | walk1 | dsimp only; walk1 | leave1; try dsimp only)
    rename Fr _ _ _ _ => F₄
    rename News _ _ _ _ => N₄
    refine add_at F₄ N₄ (.tail _ (.head _)) (.head _) ?_ ?_
    · have := hys.length
      simp at this
      simp only [List.length_cons, List.length_nil]
      omega
    intro c h₅ F₅ N₅ l₅
    (repeat' (fail_if_success with_reducible first | refine zzW ?_ | refine zzF ?_ | refine zzC ?_ | refine zzL ?_ | refine zzD ?_); first | k_unfold; try dsimp only | walk1 | dsimp only; walk1 | leave1; try dsimp only)
    refine ret _ _ _ _ _ ?_ (done_of F₅ N₅ (by (repeat (first | exact fmNil | refine fmCons (by k_memK) ?_ | intro p9 hp9; k_ownIn))))
    refine IntsAre.append ?_ (.cons _ _ .nil)
    have e : vs.toArray.size = (ps.map (·.1)).length := by simp [hr.length]
    rw [e, List.take_length] at hys
    exact hys
theorem part_spec {w : World} {mean : ExcName → Option Value} {mg mb : Str → Option Value} {base g : Heap} {outer : List Env} {s : Shared} {dp un : Nat} {gd : Option (List Code)} {R : Result → Shared → Prop} {n : Int} {t : Tok}
    (S : Sit w mean mg mb base outer g s.heap []) (hd : dp + 5 < recursionLimit) (hu : un + 50 < cLine)
    (ret : ∀ x h' tk', Done g h' [] → R (.ok (.ret (.int (if (n.fdiv 256).fmod 4 = 0 then -1 - n.fmod 5 else n.fmod 256) x))) { s with heap := h', toks := tk' }) :
    codeAny (model P w) (arnd dp un gd outer) (.call (.ref 164) ⟨[.int n t], []⟩) R s := by
  refine S.enter (binds := [(Str.ofString "number", .int n t)]) (by k_is) (by k_is) (by omega) (BindsTo.of_eq rfl) (locs rfl) ?_ rfl rfl rfl (by decide)
  intro L h₁ F N B X T KD XB TB hlt
  (repeat' (fail_if_success with_reducible first | refine zzW ?_ | refine zzF ?_ | refine zzC ?_ | refine zzL ?_ | refine zzD ?_); first | k_unfold; try dsimp only | walk1 | dsimp only; walk1 | leave1; try dsimp only)
  · rename ((n.fdiv 256).fmod 4 = 0) => hq
    rw [if_pos hq] at ret
    exact ret _ _ _ (done_of F N (by (repeat (first | exact fmNil | refine fmCons (by k_memK) ?_ | intro p9 hp9; k_ownIn))))
  · rename ¬ ((n.fdiv 256).fmod 4 = 0) => hq
    rw [if_neg hq] at ret
    exact ret _ _ _ (done_of F N (by (repeat (first | exact fmNil | refine fmCons (by k_memK) ?_ | intro p9 hp9; k_ownIn))))
-- Le
section
variable {prog : Program} {w : World} {A : Around} {E : Value → Shared → Prop} {s : Shared} {h₀ : Heap} {L : Addr} {m : Str → Option Value} {env : Env}
/-- a list comprehension over enumerate(a list), whose element leaves the ledger as it stands -/
theorem ListComp_E {elt iter : PySem.Expr} {x x₂ : Str} {px px₂ tp : Pos} {tk : Nat} {scope : Scope} {cl : List (Str × Addr)} {pos : Pos} {Q : Value → Shared → Prop} (_F₀ : Fr h₀ L s.heap m) (V : Nat → Value → Prop)
    (hclos : closureFor scope env = pure cl) (hcell : ∀ y ∈ scope.names, y.2 ≠ .cell) (hkind : scope.kind = .function)
    (hnames : ∀ y ∈ scope.names, y.2 = .local → scope.names.lookup y.1 = some .local) (hx : scope.names.lookup x = some .local) (hx₂ : scope.names.lookup x₂ = some .local) (hxx : x ≠ x₂)
    (h : wpAny (model prog w) A (eval iter env) (fun xv s₁ => ∃ e it l items k news, xv = .ref e ∧ A.handled = none ∧ Fr h₀ L s₁.heap m ∧ News h₀ L s₁.heap news ∧ (l, listOf items k) ∈ news ∧ IsEnum s₁.heap e it 0 .none ∧ s₁.heap.IsListIter it l 0 ∧
      (∀ p ∈ news, p.1 ≠ e ∧ p.1 ≠ it) ∧ e ≠ it ∧ h₀.get? e = none ∧ h₀.get? it = none ∧ e ≠ L ∧ it ≠ L ∧ items.size ≤ sizeLine ∧
      (∀ (i : Nat) v t oe oi C oC D ys m₂ h tk' (E' : Value → Shared → Prop), items[i]? = some v → LCg.NsObj oC m₂ → m₂ x = some (.int (i : Int) t) → m₂ x₂ = some v → Fr h₀ L h m → News h₀ L h ((e, oe) :: (it, oi) :: (C, oC) :: (D, LCg.lst ys) :: news) →
        (∀ p ∈ news, @Ne Nat p.1 C ∧ @Ne Nat p.1 D) →
        wpAny (model prog w) A (eval elt (compEnvC scope cl C env)) (fun y s₂ => V i y ∧ ∃ h' tk', s₂ = { s₁ with heap := h', toks := tk' } ∧ Fr h₀ L h' m ∧ News h₀ L h' ((e, oe) :: (it, oi) :: (C, oC) :: (D, LCg.lst ys) :: news)) E' { s₁ with heap := h, toks := tk' }) ∧
      (∀ D ys h tk', ys.length = items.size → (∀ i y, ys[i]? = some y → V i y) → Fr h₀ L h m → News h₀ L h ((D, LCg.lst ys) :: news) → (∀ p ∈ news, @Ne Nat p.1 D) → Q (.ref D) { s₁ with heap := h, toks := tk' })) E s)
    (hs : ∀ x, foldedSetIterable iter env x = pure x := by intro _; rfl) :
    wpAny (model prog w) A (eval (.ListComp elt [⟨.Tuple [.Name x px, .Name x₂ px₂] tk tp, iter, [], 0⟩] scope pos) env) Q E s := by
  rw [eval_ListComp]
  refine wpAny_comprehension_free (use := none) rfl hs hclos hkind hnames (wpAny_mono h (fun xv s₁ h₁ => ?_) fun _ _ e => e)
  (first | ((first | with_reducible refine Exists.elim h₁ ?_ | with_reducible refine conj_elim h₁ ?_); (try clear h₁); rintro (e) tmp; (first | ((first | with_reducible refine Exists.elim tmp ?_ | with_reducible refine conj_elim tmp ?_); (try clear tmp); rintro (it) tmp; (first | ((first | with_reducible refine Exists.elim tmp ?_ | with_reducible refine conj_elim tmp ?_); (try clear tmp); rintro (l) tmp; (first | ((first | with_reducible refine Exists.elim tmp ?_ | with_reducible refine conj_elim tmp ?_); (try clear tmp); rintro (items) tmp; (first | ((first | with_reducible refine Exists.elim tmp ?_ | with_reducible refine conj_elim tmp ?_); (try clear tmp); rintro (k) tmp; (first | ((first | with_reducible refine Exists.elim tmp ?_ | with_reducible refine conj_elim tmp ?_); (try clear tmp); rintro (news) tmp; (first | ((first | with_reducible refine Exists.elim tmp ?_ | with_reducible refine conj_elim tmp ?_); (try clear tmp); rintro (rfl) tmp; (first | ((first | with_reducible refine Exists.elim tmp ?_ | with_reducible refine conj_elim tmp ?_); (try clear tmp); rintro (hh) tmp; (first | ((first | with_reducible refine Exists.elim tmp ?_ | with_reducible refine conj_elim tmp ?_); (try clear tmp); rintro (F) tmp; (first | ((first | with_reducible refine Exists.elim tmp ?_ | with_reducible refine conj_elim tmp ?_); (try clear tmp); rintro (N) tmp; (first | ((first | with_reducible refine Exists.elim tmp ?_ | with_reducible refine conj_elim tmp ?_); (try clear tmp); rintro (hl) tmp; (first | ((first | with_reducible refine Exists.elim tmp ?_ | with_reducible refine conj_elim tmp ?_); (try clear tmp); rintro (hen) tmp; (first | ((first | with_reducible refine Exists.elim tmp ?_ | with_reducible refine conj_elim tmp ?_); (try clear tmp); rintro (hli) tmp; (first | ((first | with_reducible refine Exists.elim tmp ?_ | with_reducible refine conj_elim tmp ?_); (try clear tmp); rintro (hoff) tmp; (first | ((first | with_reducible refine Exists.elim tmp ?_ | with_reducible refine conj_elim tmp ?_); (try clear tmp); rintro (hei) tmp; (first | ((first | with_reducible refine Exists.elim tmp ?_ | with_reducible refine conj_elim tmp ?_); (try clear tmp); rintro (he₀) tmp; (first | ((first | with_reducible refine Exists.elim tmp ?_ | with_reducible refine conj_elim tmp ?_); (try clear tmp); rintro (hi₀) tmp; (first | ((first | with_reducible refine Exists.elim tmp ?_ | with_reducible refine conj_elim tmp ?_); (try clear tmp); rintro (heL) tmp; (first | ((first | with_reducible refine Exists.elim tmp ?_ | with_reducible refine conj_elim tmp ?_); (try clear tmp); rintro (hiL) tmp; (first | ((first | with_reducible refine Exists.elim tmp ?_ | with_reducible refine conj_elim tmp ?_); (try clear tmp); rintro (hsz) tmp; (first | ((first | with_reducible refine Exists.elim tmp ?_ | with_reducible refine conj_elim tmp ?_); (try clear tmp); rintro (turn) (done)) | obtain ⟨turn, done⟩ := tmp)) | obtain ⟨hsz, turn, done⟩ := tmp)) | obtain ⟨hiL, hsz, turn, done⟩ := tmp)) | obtain ⟨heL, hiL, hsz, turn, done⟩ := tmp)) | obtain ⟨hi₀, heL, hiL, hsz, turn, done⟩ := tmp)) | obtain ⟨he₀, hi₀, heL, hiL, hsz, turn, done⟩ := tmp)) | obtain ⟨hei, he₀, hi₀, heL, hiL, hsz, turn, done⟩ := tmp)) | obtain ⟨hoff, hei, he₀, hi₀, heL, hiL, hsz, turn, done⟩ := tmp)) | obtain ⟨hli, hoff, hei, he₀, hi₀, heL, hiL, hsz, turn, done⟩ := tmp)) | obtain ⟨hen, hli, hoff, hei, he₀, hi₀, heL, hiL, hsz, turn, done⟩ := tmp)) | obtain ⟨hl, hen, hli, hoff, hei, he₀, hi₀, heL, hiL, hsz, turn, done⟩ := tmp)) | obtain ⟨N, hl, hen, hli, hoff, hei, he₀, hi₀, heL, hiL, hsz, turn, done⟩ := tmp)) | obtain ⟨F, N, hl, hen, hli, hoff, hei, he₀, hi₀, heL, hiL, hsz, turn, done⟩ := tmp)) | obtain ⟨hh, F, N, hl, hen, hli, hoff, hei, he₀, hi₀, heL, hiL, hsz, turn, done⟩ := tmp)) | obtain ⟨rfl, hh, F, N, hl, hen, hli, hoff, hei, he₀, hi₀, heL, hiL, hsz, turn, done⟩ := tmp)) | obtain ⟨news, rfl, hh, F, N, hl, hen, hli, hoff, hei, he₀, hi₀, heL, hiL, hsz, turn, done⟩ := tmp)) | obtain ⟨k, news, rfl, hh, F, N, hl, hen, hli, hoff, hei, he₀, hi₀, heL, hiL, hsz, turn, done⟩ := tmp)) | obtain ⟨items, k, news, rfl, hh, F, N, hl, hen, hli, hoff, hei, he₀, hi₀, heL, hiL, hsz, turn, done⟩ := tmp)) | obtain ⟨l, items, k, news, rfl, hh, F, N, hl, hen, hli, hoff, hei, he₀, hi₀, heL, hiL, hsz, turn, done⟩ := tmp)) | obtain ⟨it, l, items, k, news, rfl, hh, F, N, hl, hen, hli, hoff, hei, he₀, hi₀, heL, hiL, hsz, turn, done⟩ := tmp)) | obtain ⟨e, it, l, items, k, news, rfl, hh, F, N, hl, hen, hli, hoff, hei, he₀, hi₀, heL, hiL, hsz, turn, done⟩ := h₁)
  have hle : l ≠ e := (hoff _ hl).1
  have hlit : l ≠ it := (hoff _ hl).2
  have W := WalksT.enumerate (prog := prog) (w := w) hh e it l hei hle hlit items
  have hls : s₁.heap.IsList l items := ⟨_, (N _ hl).1, rfl, _, rfl⟩
  refine wpAny_pyIter_enum hen ?_
  refine wpAny_newObj_type (wpAny_newFunctionEnv hcell (by intro y hy; simp at hy) (fun h₁ hns₁ hsb₁ => ?_) hkind)
  dsimp only at hns₁ hsb₁ ⊢
  generalize hH2 : s₁.heap.push { cls := .type "list", dict := none, data := .seq ([] : List Value).toArray } = H2 at hns₁ hsb₁ ⊢
  have hC : H2.objs.size = s₁.heap.objs.size + 1 := by rw [← hH2, Heap.size_push]
  have hDC : s₁.heap.objs.size ≠ H2.objs.size := by rw [hC]; exact Nat.ne_of_lt (Nat.lt_succ_self _)
  have below : ∀ b, b < s₁.heap.objs.size → b ≠ H2.objs.size ∧ b ≠ s₁.heap.objs.size := fun b hb => ⟨by rw [hC]; exact Nat.ne_of_lt (Nat.lt_succ_of_lt hb), Nat.ne_of_lt hb⟩
  have old : ∀ b o, s₁.heap.get? b = some o → h₁.get? b = some o := fun b o e => hsb₁.extBut b o (below b (Heap.lt_size e)).1 (Heap.get?_push_of_some _ (hH2 ▸ Heap.get?_push_of_some _ e))
  have hacc : h₁.get? s₁.heap.objs.size = some (LCg.lst []) := hsb₁.extBut _ _ hDC (Heap.get?_push_of_some _ (hH2 ▸ Heap.get?_push_size _ rfl))
  have fresh : ∀ a, s₁.heap.objs.size ≤ a → s₁.heap.get? a = none := fun a ha => by
    cases e : s₁.heap.get? a with
    | none => rfl
    | some o' => exact absurd (Heap.lt_size e) (Nat.not_lt.mpr ha)
  have fresh₀ : ∀ a, s₁.heap.objs.size ≤ a → h₀.get? a = none := fun a ha => by
    cases e : h₀.get? a with
    | none => rfl
    | some o' => have := F.keep a o' e; rw [fresh a ha] at this; cases this
  have hD₀ : h₀.get? s₁.heap.objs.size = none := fresh₀ _ (Nat.le_refl _)
  have hC₀ : h₀.get? H2.objs.size = none := fresh₀ _ (by rw [hC]; exact Nat.le_succ _)
  have hLlt : L < s₁.heap.objs.size := F.ns.lt
  have hDL : s₁.heap.objs.size ≠ L := Ne.symm (below L hLlt).2
  have hCL : H2.objs.size ≠ L := Ne.symm (below L hLlt).1
  have helt : e < s₁.heap.objs.size := Heap.lt_size hen
  have hilt : it < s₁.heap.objs.size := by (first | ((first | with_reducible refine Exists.elim hli ?_ | with_reducible refine conj_elim hli ?_); (try clear hli); rintro (_) tmp; (first | ((first | with_reducible refine Exists.elim tmp ?_ | with_reducible refine conj_elim tmp ?_); (try clear tmp); rintro (e) (_)) | obtain ⟨e, _⟩ := tmp)) | obtain ⟨_, e, _⟩ := hli); exact Heap.lt_size e
  have hnlt : ∀ p ∈ news, p.1 ≠ H2.objs.size ∧ p.1 ≠ s₁.heap.objs.size := fun p hp => below _ (Heap.lt_size (N p hp).1)
  have hst₁ := W.frame 0 s₁.heap h₁ ⟨⟨_, hen⟩, hli, hls⟩ fun b _ o e => old b o e
  -- what a step that writes e and it alone keeps
  have fr2 : ∀ {h h' : Heap}, Fr h₀ L h m → (∀ b o, b ∉ [e, it] → h.get? b = some o → h'.get? b = some o) → Fr h₀ L h' m := fun F hk =>
    ⟨F.ns.at' fun o x => hk L o (by simp only [List.mem_cons, List.not_mem_nil, or_false, not_or]; exact ⟨Ne.symm heL, Ne.symm hiL⟩) x, fun b o x => hk b o (fun hm => by
      simp only [List.mem_cons, List.not_mem_nil, or_false] at hm
      rcases hm with rfl | rfl
      · rw [he₀] at x; cases x
      · rw [hi₀] at x; cases x) (F.keep b o x), F.above⟩
  have loop : ∀ s₃ : Shared, s₃ = { s₁ with heap := h₁, toks := s₁.toks + ([] : List (Str × Value)).length } →
      codeAny (model prog w) A (.compLoop (.ListComp elt [⟨.Tuple [.Name x px, .Name x₂ px₂] tk tp, iter, [], 0⟩] scope pos) 0 (.ref e) (.ref s₁.heap.objs.size) (compEnvC scope cl H2.objs.size env))
        (compPost (model prog w) A E none Q (.ref s₁.heap.objs.size) H2.objs.size) s₃ := by
    rintro s₃ rfl
    refine LCp.codeAny_compLoop_pair
      (fun k s' => Ex5 fun h' tk i ys m' => All9 (s' = { s₁ with heap := h', toks := tk }) (i ≤ items.size) (k = items.size + 1 - i) (ys.length = i) ((∀ j y, ys[j]? = some y → V j y)) (((∃ old, IsEnum h' e it i old) ∧ h'.IsListIter it l i ∧ h'.IsList l items)) (Fr h₀ L h' m) (h'.Ns H2.objs.size m') (News h₀ L h' ((s₁.heap.objs.size, LCg.lst ys) :: news))) ?_ (items.size + 1)
      ⟨h₁, _, 0, [], _, rfl, Nat.zero_le _, rfl, rfl, by simp, hst₁, F.keeps old, hns₁, fun p hp => ?_⟩
    · rintro k s' ⟨h', tk, i, ys, m', rfl, hi, rfl, hyl, hV, hst', F', hn', N'⟩
      have hkeep : ∀ {h2 : Heap}, (∀ b o, b ∉ [e, it] → h'.get? b = some o → h2.get? b = some o) → News h₀ L h2 ((s₁.heap.objs.size, LCg.lst ys) :: news) ∧ h2.Ns H2.objs.size m' := fun hk => by
        refine ⟨fun p hp => ⟨hk _ _ ?_ (N' p hp).1, (N' p hp).2⟩, hn'.at' fun o x => hk _ o ?_ x⟩
        · simp only [List.mem_cons, List.not_mem_nil, or_false, not_or]
          rcases List.mem_cons.mp hp with rfl | hp
          · exact ⟨Nat.ne_of_gt helt, Nat.ne_of_gt hilt⟩
          · exact ⟨(hoff p hp).1, (hoff p hp).2⟩
        · simp only [List.mem_cons, List.not_mem_nil, or_false, not_or]
          exact ⟨Ne.symm (below e helt).1, Ne.symm (below it hilt).1⟩
      by_cases hlt : i < items.size
      · refine W.item i _ _ _ hlt hst' fun T vals h₂ tk₂ hP hT ht hmid hk₂ => ?_
        (first | ((first | with_reducible refine Exists.elim hP ?_ | with_reducible refine conj_elim hP ?_); (try clear hP); rintro (t) tmp; (first | ((first | with_reducible refine Exists.elim tmp ?_ | with_reducible refine conj_elim tmp ?_); (try clear tmp); rintro (v) tmp; (first | ((first | with_reducible refine Exists.elim tmp ?_ | with_reducible refine conj_elim tmp ?_); (try clear tmp); rintro (hv) (rfl)) | obtain ⟨hv, rfl⟩ := tmp)) | obtain ⟨v, hv, rfl⟩ := tmp)) | obtain ⟨t, v, hv, rfl⟩ := hP)
        refine W.go _ _ _ i T _ _ _ hmid fun h₄ hst₄ hk₄ => ?_
        have ht₄ : IsTup h₄ T #[.int (i : Int) t, v] := by
          (first | ((first | with_reducible refine Exists.elim ht ?_ | with_reducible refine conj_elim ht ?_); (try clear ht); rintro (ot) tmp; (first | ((first | with_reducible refine Exists.elim tmp ?_ | with_reducible refine conj_elim tmp ?_); (try clear tmp); rintro (e1) tmp; (first | ((first | with_reducible refine Exists.elim tmp ?_ | with_reducible refine conj_elim tmp ?_); (try clear tmp); rintro (e2) tmp; (first | ((first | with_reducible refine Exists.elim tmp ?_ | with_reducible refine conj_elim tmp ?_); (try clear tmp); rintro (n) (e3)) | obtain ⟨n, e3⟩ := tmp)) | obtain ⟨e2, n, e3⟩ := tmp)) | obtain ⟨e1, e2, n, e3⟩ := tmp)) | obtain ⟨ot, e1, e2, n, e3⟩ := ht)
          exact ⟨ot, hk₄ _ _ (W.apart i T _ hmid) e1, e2, n, e3⟩
        have hk24 : ∀ b o, b ∉ [e, it] → h'.get? b = some o → h₄.get? b = some o := fun b o hb x => hk₄ b o hb (hk₂ b o hb x)
        (first | ((first | refine Exists.elim (hkeep hk24) ?_ | refine conj_elim (hkeep hk24) ?_); rintro (N₄) (hn₄)) | obtain ⟨N₄, hn₄⟩ := hkeep hk24)
        have F₄ : Fr h₀ L h₄ m := fr2 F' hk24
        refine assign_Tuple_tuple hh ht₄ rfl rfl fun h₅ he => ?_
        have he' : ∀ b o, h₄.get? b = some o → h₅.get? b = some o := fun b o e => he b o (Nat.ne_of_lt (Heap.lt_size e)) e
        refine assignInOrder_cons (wpAny_assign_Name (wpAny_storeName_local (lookup_relabel_local hx) (hn₄.at' fun o e => he' _ o e) (fun h₆ hn₆ hs₆ => ?_) (by simp [compEnvC, relabel, hkind])))
        refine assignInOrder_cons (wpAny_assign_Name (wpAny_storeName_local (lookup_relabel_local hx₂) hn₆ (fun h₃ hn₃ hs₃ => ?_) (by simp [compEnvC, relabel, hkind])))
        refine assignInOrder_nil ?_
        have old3 : ∀ b o, b ≠ H2.objs.size → h₄.get? b = some o → h₃.get? b = some o := fun b o hb e => hs₃.extBut b o hb (hs₆.extBut b o hb (he' b o e))
        have hst₃ := W.frame (i + 1) h₄ h₃ hst₄ fun b hb o x => old3 b o (fun q => by
          simp only [List.mem_cons, List.not_mem_nil, or_false] at hb
          rcases hb with rfl | rfl | rfl
          · exact (below _ helt).1 q
          · exact (below _ hilt).1 q
          · exact (hnlt _ hl).1 q) x
        (first | ((first | with_reducible refine Exists.elim hst₃ ?_ | with_reducible refine conj_elim hst₃ ?_); (try clear hst₃); rintro (⟨oldv, heE⟩) tmp; (first | ((first | with_reducible refine Exists.elim tmp ?_ | with_reducible refine conj_elim tmp ?_); (try clear tmp); rintro (hitI) (hls₃)) | obtain ⟨hitI, hls₃⟩ := tmp)) | obtain ⟨⟨oldv, heE⟩, hitI, hls₃⟩ := hst₃)
        (first | ((first | with_reducible refine Exists.elim hitI ?_ | with_reducible refine conj_elim hitI ?_); (try clear hitI); rintro (oi) tmp; (first | ((first | with_reducible refine Exists.elim tmp ?_ | with_reducible refine conj_elim tmp ?_); (try clear tmp); rintro (heI) tmp; (first | ((first | with_reducible refine Exists.elim tmp ?_ | with_reducible refine conj_elim tmp ?_); (try clear tmp); rintro (hic) (hid)) | obtain ⟨hic, hid⟩ := tmp)) | obtain ⟨heI, hic, hid⟩ := tmp)) | obtain ⟨oi, heI, hic, hid⟩ := hitI)
        (first | ((first | refine Exists.elim (LCg.ns_obj hn₃) ?_ | refine conj_elim (LCg.ns_obj hn₃) ?_); rintro (oC) tmp; (first | ((first | with_reducible refine Exists.elim tmp ?_ | with_reducible refine conj_elim tmp ?_); (try clear tmp); rintro (heC) (hoC)) | obtain ⟨heC, hoC⟩ := tmp)) | obtain ⟨oC, heC, hoC⟩ := LCg.ns_obj hn₃)
        have F₃ : Fr h₀ L h₃ m := ((F₄.keeps he').change hs₆ hCL hC₀).change hs₃ hCL hC₀
        have N₃ : News h₀ L h₃ ((e, _) :: (it, oi) :: (H2.objs.size, oC) :: (s₁.heap.objs.size, LCg.lst ys) :: news) := fun p hp => by
          rcases List.mem_cons.mp hp with rfl | hp
          · exact ⟨heE, heL, he₀⟩
          rcases List.mem_cons.mp hp with rfl | hp
          · exact ⟨heI, hiL, hi₀⟩
          rcases List.mem_cons.mp hp with rfl | hp
          · exact ⟨heC, hCL, hC₀⟩
          · have z := N₄ p hp
            refine ⟨old3 _ _ ?_ z.1, z.2⟩
            rcases List.mem_cons.mp hp with rfl | hp
            · exact hDC
            · exact (hnlt p hp).1
        refine wpAny_mono (turn i v t _ oi H2.objs.size oC s₁.heap.objs.size ys _ h₃ _ _ hv hoC (by simp [hxx]) (by simp) F₃ N₃ hnlt) (fun y s₄ h₄' => ?_) fun _ _ e => e
        (first | ((first | with_reducible refine Exists.elim h₄' ?_ | with_reducible refine conj_elim h₄' ?_); (try clear h₄'); rintro (hVy) tmp; (first | ((first | with_reducible refine Exists.elim tmp ?_ | with_reducible refine conj_elim tmp ?_); (try clear tmp); rintro (h₇) tmp; (first | ((first | with_reducible refine Exists.elim tmp ?_ | with_reducible refine conj_elim tmp ?_); (try clear tmp); rintro (tk₇) tmp; (first | ((first | with_reducible refine Exists.elim tmp ?_ | with_reducible refine conj_elim tmp ?_); (try clear tmp); rintro (rfl) tmp; (first | ((first | with_reducible refine Exists.elim tmp ?_ | with_reducible refine conj_elim tmp ?_); (try clear tmp); rintro (F₇) (N₇)) | obtain ⟨F₇, N₇⟩ := tmp)) | obtain ⟨rfl, F₇, N₇⟩ := tmp)) | obtain ⟨tk₇, rfl, F₇, N₇⟩ := tmp)) | obtain ⟨h₇, tk₇, rfl, F₇, N₇⟩ := tmp)) | obtain ⟨hVy, h₇, tk₇, rfl, F₇, N₇⟩ := h₄')
        have zE := (N₇ _ (.head _)).1
        have zI := (N₇ _ (.tail _ (.head _))).1
        have zC := (N₇ _ (.tail _ (.tail _ (.head _)))).1
        have zD := (N₇ _ (.tail _ (.tail _ (.tail _ (.head _))))).1
        have N₇' : News h₀ L h₇ news := fun p hp => N₇ p (.tail _ (.tail _ (.tail _ (.tail _ hp))))
        refine append_at (hsz := by show ys.toArray.size ≤ sizeLine; rw [List.size_toArray, hyl]; exact Nat.le_trans hi hsz) zD fun h₈ hs₈ hD₈ => ?_
        refine ⟨items.size + 1 - (i + 1), by omega, h₈, tk₇, i + 1, ys ++ [y], _, rfl, hlt, rfl, by rw [List.length_append, List.length_singleton, hyl], ?_, ?_, F₇.change hs₈ hDL hD₀, (hoC.ns zC).sameBut hs₈ (Ne.symm hDC), fun p hp => ?_⟩
        · intro j y' hj
          rcases Nat.lt_trichotomy j i with q | q | q
          · rw [List.getElem?_append_left (by omega)] at hj; exact hV j y' hj
          · subst q
            rw [List.getElem?_append_right (by omega), hyl, Nat.sub_self] at hj
            cases hj
            exact hVy
          · rw [List.getElem?_eq_none (by simp; omega)] at hj; cases hj
        · refine ⟨⟨oldv, hs₈.extBut _ _ (below e helt).2 zE⟩, ⟨oi, hs₈.extBut _ _ (below it hilt).2 zI, hic, hid⟩, ⟨_, hs₈.extBut _ _ (hnlt _ hl).2 (N₇' _ hl).1, rfl, _, rfl⟩⟩
        · rcases List.mem_cons.mp hp with rfl | hp
          · exact ⟨hD₈.trans (congrArg some (LCg.lst_snoc ys y)), hDL, hD₀⟩
          · exact ⟨hs₈.extBut _ _ (hnlt p hp).2 (N₇' p hp).1, (N₇' p hp).2⟩
      · obtain rfl : i = items.size := Nat.le_antisymm hi (Nat.not_lt.mp hlt)
        refine W.done _ _ _ hst' fun h₂ tk₂ hk₂ => ?_
        (first | ((first | refine Exists.elim (hkeep hk₂) ?_ | refine conj_elim (hkeep hk₂) ?_); rintro (N₂) (hn₂)) | obtain ⟨N₂, hn₂⟩ := hkeep hk₂)
        have F₂ : Fr h₀ L h₂ m := fr2 F' hk₂
        refine ⟨m', hn₂, fun h'' hs'' => done _ ys h'' tk₂ hyl hV (F₂.change hs'' hCL hC₀) (fun p hp => ?_) fun p hp => (hnlt p hp).2⟩
        refine ⟨hs''.extBut _ _ ?_ (N₂ p hp).1, (N₂ p hp).2⟩
        rcases List.mem_cons.mp hp with rfl | hp
        · exact hDC
        · exact (hnlt p hp).1
    · rcases List.mem_cons.mp hp with rfl | hp
      · exact ⟨hacc, hDL, hD₀⟩
      · exact ⟨old _ _ (N p hp).1, (N p hp).2⟩
  exact codeAny_compStart_list (loop _ rfl) (wpAny_pyIter_enum hst₁.1.choose_spec (loop _ rfl))
theorem enum_src {l : Addr} {items : Array Value} {k : Nat} {news : List (Addr × Obj)} {Q : Value → Shared → Prop} (F : Fr h₀ L s.heap m) (N : News h₀ L s.heap news) (hl : (l, listOf items k) ∈ news)
    (h : ∀ e it h', Fr h₀ L h' m → News h₀ L h' news → IsEnum h' e it 0 .none → h'.IsListIter it l 0 → (∀ p ∈ news, p.1 ≠ e ∧ p.1 ≠ it) → e ≠ it → h₀.get? e = none → h₀.get? it = none → e ≠ L → it ≠ L → Q (.ref e) { s with heap := h' }) :
    wpAny (model prog w) A (call (.type "enumerate") [.ref l]) Q E s := by
  refine call_enumerate_list ⟨_, (N _ hl).1, rfl, _, rfl⟩ fun h' he hi hsz hk => ?_
  have fresh₀ : ∀ a, s.heap.objs.size ≤ a → h₀.get? a = none := fun a ha => by
    cases e : h₀.get? a with
    | none => rfl
    | some o' => exact absurd (Heap.lt_size (F.keep a o' e)) (Nat.not_lt.mpr ha)
  have hlt : ∀ p ∈ news, p.1 < s.heap.objs.size := fun p hp => Heap.lt_size (N p hp).1
  have hL : L < s.heap.objs.size := F.ns.lt
  exact h _ _ h' (F.keeps hk) (fun p hp => ⟨hk _ _ (N p hp).1, (N p hp).2⟩) he hi (fun p hp => ⟨Nat.ne_of_lt (Nat.lt_succ_of_lt (hlt p hp)), Nat.ne_of_lt (hlt p hp)⟩) (Nat.ne_of_gt (Nat.lt_succ_self _)) (fresh₀ _ (Nat.le_succ _)) (fresh₀ _ (Nat.le_refl _)) (Nat.ne_of_gt (Nat.lt_succ_of_lt hL)) (Nat.ne_of_gt hL)
end
-- Ls
section
variable {prog : Program} {w : World} {A : Around} {E : Value → Shared → Prop} {s : Shared} {h₀ : Heap} {L l : Addr} {m : Str → Option Value} {news : List (Addr × Obj)} {Q : Value → Shared → Prop}
theorem slice_ints {value slice : PySem.Expr} {vl vu : Value} {lo hi : Option Int} {vs : List Value} {ns : List Int} (F : Fr h₀ L s.heap m) (N : News h₀ L s.heap news) (hl : s.heap.IsList l vs.toArray) (hi' : IntsAre vs ns) (pl : IsPart vl lo) (pu : IsPart vu hi) (hsz : ns.length ≤ 100000)
    (h : ∀ (a : Addr) h' zs, IntsAre zs ((ns.drop (kms_lo lo ns.length)).take (kms_hi hi ns.length - kms_lo lo ns.length)) → Fr h₀ L h' m → News h₀ L h' ((a, listOf zs.toArray 0) :: news) → (∀ p ∈ news, @LT.lt Nat _ p.1 a) → Q (.ref a) { s with heap := h' })
    (hs : subscripted slice false (.ref l) (.ref s.heap.objs.size) = operate [.ref s.heap.objs.size, .ref l] (getItem (.ref l) (.ref s.heap.objs.size)) := by with_unfolding_all rfl)
    (ht : ∀ r, letTemporaryGo value (.ref l) r = pure () := by intro _; with_unfolding_all rfl) :
    wpAny (model prog w) A (subscriptTail value slice (.ref l) (.ref s.heap.objs.size)) Q E { s with heap := s.heap.push { cls := .type "slice", data := .fields #[vl, vu, .none] } } := by
  refine slice_list F N hl pl pu (fun h' F' N' => ?_) hs ht (by rw [sizeLine_eq]; have := hi'.length; simp; omega)
  refine h _ h' (slicePick vs.toArray lo hi none).toList (kssn_any hi') F' ?_ fun p hp => Nat.lt_succ_of_lt (Heap.lt_size (N p hp).1)
  have e : (slicePick vs.toArray lo hi none).toList.toArray = slicePick vs.toArray lo hi none := by simp
  rw [e]
  exact N'
end
local macro_rules | `(tactic| walk_at "eval Name") => `(tactic| (k_here; k_dflt (refine' nameX_L ?F ?v ?_ ?a ?b; (case F => k_asm); (case a => rfl); (case b => rfl); (case v => repeat first | with_reducible assumption | refine Eq.trans (if_pos rfl) ?_; exact rfl | refine Eq.trans (if_neg (by decide)) ?_); k_whole)))
-- Ec
section
variable {w : World} {mean : ExcName → Option Value} {mg mb : Str → Option Value} {base g : Heap} {outer : List Env} {own : List (Addr × Obj)} {s : Shared} {dp un : Nat} {gd : Option (List Code)}
  {R : Result → Shared → Prop} {name qual : Str} {params : Arguments} {body : List Stmt} {scope : Scope} {dV kV doc pm cdv ct oc : Value} {an od : Option Addr} {osl : Array (Option Value)} {f : Addr} {args : Args} {binds : List (Str × Value)}
/-- opening a def with cells -/
theorem Sit.enterC (S : Sit w mean mg mb base outer g s.heap own)
    (ho : (Mine.hd.heap_1 w.params).lookup f = some ⟨oc, od, .func (fnOf name qual params body scope dV kV doc pm an cdv ct), osl⟩) (hcd : codeIn (Mine.hd.heap_1 w.params) cdv qual = true) (hroom : dp < recursionLimit)
    (hbind : BindsTo s (fnOf name qual params body scope dV kV doc pm an cdv ct) args binds) (hkind : (binds.all fun y => scope.names.lookup y.1 == some .local || scope.names.lookup y.1 == some .cell) = true)
    (hnd : ((cellsFrom 0 scope.names []).map (·.1)).Nodup)
    (h : ∀ L' h₁ tk cells, Fr g L' h₁ (bindL (envOfC qual scope L' f cdv).kindOf binds fun _ => none) → News g L' h₁ (cells ++ own) →
      CellsAre (bindC (envOfC qual scope L' f cdv).kindOf binds fun _ => none) (cellsFrom (L' + 1) scope.names []) cells → Below (arnd dp un gd outer) base outer g → (Mine.hd.heap_1 w.params).In g → TT mean mg mb g → KtsDicts (frs outer) g →
      (Mine.hd.heap_1 w.params).In base → TT mean mg mb base → (∀ p ∈ own, @LT.lt Nat _ p.1 L') →
      wpAny (model P w) ((arnd dp un gd outer).deeper (envOfC qual scope L' f cdv)) (execs body (envOfC qual scope L' f cdv))
        (fun fl s' => R (.ok (.ret (match fl with | .ret v => v | _ => .none))) s')
        (fun e s' => wpAny (model P w) ((arnd dp un gd outer).deeper (envOfC qual scope L' f cdv)) (leaving (envOfC qual scope L' f cdv) e) (fun _ s'' => R (.error e) s'') (fun e' s'' => R (.error e') s'') s')
        { s with heap := h₁, toks := tk })
    (hco : scope.isCoroutine = false) (hgen : scope.isGenerator = false) (hk : scope.kind = .function) : codeAny (model P w) (arnd dp un gd outer) (.call (.ref f) args) R s := by
  have Xg : (Mine.hd.heap_1 w.params).In g := S.XB.keeps S.stays
  have Tg : TT mean mg mb g := S.TB.keeps S.stays
  have X : (Mine.hd.heap_1 w.params).In s.heap := Xg.keeps S.done.1
  refine codeAny_call_function (fd := fnOf name qual params body scope dV kV doc pm an cdv ct) (body := body) hroom (X _ _ ho) rfl hco hgen rfl (codeRec_of X hcd) (hbind _ _ _ _ ?_)
  refine wpAny_newFunctionEnv_cells hk (kindsX hkind _) fun env' he s' x => ?_
  subst he
  refine ⟨(Tg.nolimit.keeps S.done.1).keeps x.toInCall.keep, codeAny_func ?_⟩
  (first | ((first | refine Exists.elim (x.done) ?_ | refine conj_elim (x.done) ?_); rintro (h₁) tmp; (first | ((first | with_reducible refine Exists.elim tmp ?_ | with_reducible refine conj_elim tmp ?_); (try clear tmp); rintro (tk) tmp; (first | ((first | with_reducible refine Exists.elim tmp ?_ | with_reducible refine conj_elim tmp ?_); (try clear tmp); rintro (rfl) (_)) | obtain ⟨rfl, _⟩ := tmp)) | obtain ⟨tk, rfl, _⟩ := tmp)) | obtain ⟨h₁, tk, rfl, _⟩ := x.done)
  have hk₁ := x.toInCall.keep
  (first | ((first | refine Exists.elim (Cl.news (h₀ := s.heap) (Nat.le_refl _) fun n c hm => ⟨x.cell n c (lookup_of_mem_nodup (cellsFrom_names scope.names 0 (s.heap.objs.size + 1) [] [] rfl ▸ hnd) hm), x.above n c hm⟩) ?_ | refine conj_elim (Cl.news (h₀ := s.heap) (Nat.le_refl _) fun n c hm => ⟨x.cell n c (lookup_of_mem_nodup (cellsFrom_names scope.names 0 (s.heap.objs.size + 1) [] [] rfl ▸ hnd) hm), x.above n c hm⟩) ?_); rintro (cells) tmp; (first | ((first | with_reducible refine Exists.elim tmp ?_ | with_reducible refine conj_elim tmp ?_); (try clear tmp); rintro (NC) (Y)) | obtain ⟨NC, Y⟩ := tmp)) | obtain ⟨cells, NC, Y⟩ := Cl.news (h₀ := s.heap) (Nat.le_refl _) fun n c hm => ⟨x.cell n c (lookup_of_mem_nodup (cellsFrom_names scope.names 0 (s.heap.objs.size + 1) [] [] rfl ▸ hnd) hm), x.above n c hm⟩)
  refine h s.heap.objs.size h₁ tk cells ⟨x.toInCall.ns, fun b o e => hk₁ b o (S.done.1 b o e), S.size⟩ (fun p hp => ?_) Y ⟨rfl, S.stays, S.frames⟩ Xg Tg S.dicts S.XB S.TB (fun p hp => Heap.lt_size (S.done.2 p hp).1)
  rcases List.mem_append.mp hp with hp | hp
  · refine ⟨(NC p hp).1, (NC p hp).2.1, ?_⟩
    cases q : g.get? p.1 with
    | none => rfl
    | some o => have := S.done.1 _ _ q; rw [(NC p hp).2.2] at this; cases this
  · exact ⟨hk₁ _ _ (S.done.2 p hp).1, Nat.ne_of_lt (Heap.lt_size (S.done.2 p hp).1), (S.done.2 p hp).2⟩
end
-- Tr
noncomputable abbrev riObj (x left : Int) : Obj := { cls := .type "range_iterator", data := .fields #[rawInt x, rawInt left, rawInt 1] }
section
variable {prog : Program} {w : World} {A : Around} {E : Value → Shared → Prop} {s : Shared} {env : Env} {Q : Flow → Shared → Prop} {target : PySem.Expr} {body : List Stmt}
noncomputable def RStep (s : Shared) (L it : Addr) (n : Nat) (J : Nat → Heap → (Str → Option Value) → List (Addr × Obj) → Prop) (Q : Flow → Shared → Prop) (i : Nat) (f : Flow) (s₃ : Shared) : Prop := match f with
  | .next | .cont => Ex5 fun g h tk m nw => All4 (s₃ = { s with heap := h, toks := tk }) (Fr g L h m) (News g L h ((it, riObj ((i + 1 : Nat) : Int) ((n : Int) - ((i + 1 : Nat) : Int))) :: nw)) (J (i + 1) g m nw)
  | .brk => Q .next s₃
  | .ret v => Q (.ret v) s₃
/-- a for over range(n); the ground may turn -/
theorem turns_range {L it : Addr} {n : Nat} (J : Nat → Heap → (Str → Option Value) → List (Addr × Obj) → Prop) {g₀ : Heap} {m₀ : Str → Option Value} {nw₀ : List (Addr × Obj)} (hh : A.handled = none)
    (hok : ∀ i g m nw, J i g m nw → ∀ p ∈ nw, p.1 ≠ it)
    (F : Fr g₀ L s.heap m₀) (N : News g₀ L s.heap ((it, riObj 0 n) :: nw₀)) (hJ : J 0 g₀ m₀ nw₀)
    (turn : ∀ i g m nw h tk t, i < n → J i g m nw → Fr g L h m → News g L h ((it, riObj ((i + 1 : Nat) : Int) ((n : Int) - ((i + 1 : Nat) : Int))) :: nw) → (∀ p ∈ nw, p.1 ≠ it) →
      ∀ Q' : Flow → Shared → Prop, (∀ f s₃, RStep s L it n J Q i f s₃ → Q' f s₃) → wpAny (model prog w) A (assign target env (.int (i : Int) t)) (fun _ s₂ => wpAny (model prog w) A (execs body env) Q' E s₂) E { s with heap := h, toks := tk })
    (done : ∀ g m nw h tk, J n g m nw → Fr g L h m → News g L h nw → Q .next { s with heap := h, toks := tk }) :
    ForTurns prog w A env target body Q E (.ref it) s := by
  refine ⟨fun c s' => Ex6 fun i g m nw h tk => All6 (c = n - i) (i ≤ n) (s' = { s with heap := h, toks := tk }) (Fr g L h m) (News g L h ((it, riObj (i : Int) ((n : Int) - (i : Int))) :: nw)) (J i g m nw), n, ⟨0, g₀, m₀, nw₀, s.heap, s.toks, rfl, Nat.zero_le _, rfl, F, by simpa using N, hJ⟩, ?_⟩
  rintro c s' ⟨i, g, m, nw, h, tk, rfl, hle, rfl, F₁, N₁, J₁⟩
  have hne := hok _ _ _ _ J₁
  have hIt : IsRangeIter h it (i : Int) ((n : Int) - (i : Int)) 1 := (N₁ _ (.head _)).1
  by_cases hi : i = n
  · subst hi
    refine wpAny_pyNext_range_end hh hIt (by omega) (fun h' hxb => ?_)
    (first | ((first | refine Exists.elim (ext_fr F₁ N₁ hne hxb) ?_ | refine conj_elim (ext_fr F₁ N₁ hne hxb) ?_); rintro (F₂) (N₂)) | obtain ⟨F₂, N₂⟩ := ext_fr F₁ N₁ hne hxb)
    exact done g m nw h' tk J₁ F₂ N₂
  · have hlt : i < n := by omega
    refine wpAny_pyNext_range_item hIt (by omega) (fun h' hit' hsb => ?_)
    have hz := N₁ _ (.head _)
    have F₂ : Fr g L h' m := F₁.change hsb hz.2.1 hz.2.2
    have hit'' : h'.get? it = some (riObj ((i + 1 : Nat) : Int) ((n : Int) - ((i + 1 : Nat) : Int))) := by
      have e1 : ((i : Int) + 1) = ((i + 1 : Nat) : Int) := by push_cast; rfl
      have e2 : ((n : Int) - (i : Int) - 1) = ((n : Int) - ((i + 1 : Nat) : Int)) := by push_cast; omega
      rw [e1, e2] at hit'
      exact hit'
    have N₂ : News g L h' ((it, riObj ((i + 1 : Nat) : Int) ((n : Int) - ((i + 1 : Nat) : Int))) :: nw) := news_set (pre := []) N₁ (by simp) hne hsb hit''
    refine wpAny_mono (turn i g m nw h' (tk + 1) tk hlt J₁ F₂ N₂ hne _ (fun _ _ x => x)) (fun _ s₂ h₂ => ?_) fun _ _ x => x
    refine wpAny_mono h₂ (fun f s₃ h₃ => ?_) fun _ _ x => x
    cases f with
    | next =>
      (first | ((first | with_reducible refine Exists.elim h₃ ?_ | with_reducible refine conj_elim h₃ ?_); (try clear h₃); rintro (g') tmp; (first | ((first | with_reducible refine Exists.elim tmp ?_ | with_reducible refine conj_elim tmp ?_); (try clear tmp); rintro (h'') tmp; (first | ((first | with_reducible refine Exists.elim tmp ?_ | with_reducible refine conj_elim tmp ?_); (try clear tmp); rintro (tk') tmp; (first | ((first | with_reducible refine Exists.elim tmp ?_ | with_reducible refine conj_elim tmp ?_); (try clear tmp); rintro (m') tmp; (first | ((first | with_reducible refine Exists.elim tmp ?_ | with_reducible refine conj_elim tmp ?_); (try clear tmp); rintro (nw') tmp; (first | ((first | with_reducible refine Exists.elim tmp ?_ | with_reducible refine conj_elim tmp ?_); (try clear tmp); rintro (rfl) tmp; (first | ((first | with_reducible refine Exists.elim tmp ?_ | with_reducible refine conj_elim tmp ?_); (try clear tmp); rintro (F') tmp; (first | ((first | with_reducible refine Exists.elim tmp ?_ | with_reducible refine conj_elim tmp ?_); (try clear tmp); rintro (N') (J')) | obtain ⟨N', J'⟩ := tmp)) | obtain ⟨F', N', J'⟩ := tmp)) | obtain ⟨rfl, F', N', J'⟩ := tmp)) | obtain ⟨nw', rfl, F', N', J'⟩ := tmp)) | obtain ⟨m', nw', rfl, F', N', J'⟩ := tmp)) | obtain ⟨tk', m', nw', rfl, F', N', J'⟩ := tmp)) | obtain ⟨h'', tk', m', nw', rfl, F', N', J'⟩ := tmp)) | obtain ⟨g', h'', tk', m', nw', rfl, F', N', J'⟩ := h₃)
      exact ⟨n - (i + 1), by omega, i + 1, g', m', nw', h'', tk', rfl, hlt, rfl, F', N', J'⟩
    | cont =>
      (first | ((first | with_reducible refine Exists.elim h₃ ?_ | with_reducible refine conj_elim h₃ ?_); (try clear h₃); rintro (g') tmp; (first | ((first | with_reducible refine Exists.elim tmp ?_ | with_reducible refine conj_elim tmp ?_); (try clear tmp); rintro (h'') tmp; (first | ((first | with_reducible refine Exists.elim tmp ?_ | with_reducible refine conj_elim tmp ?_); (try clear tmp); rintro (tk') tmp; (first | ((first | with_reducible refine Exists.elim tmp ?_ | with_reducible refine conj_elim tmp ?_); (try clear tmp); rintro (m') tmp; (first | ((first | with_reducible refine Exists.elim tmp ?_ | with_reducible refine conj_elim tmp ?_); (try clear tmp); rintro (nw') tmp; (first | ((first | with_reducible refine Exists.elim tmp ?_ | with_reducible refine conj_elim tmp ?_); (try clear tmp); rintro (rfl) tmp; (first | ((first | with_reducible refine Exists.elim tmp ?_ | with_reducible refine conj_elim tmp ?_); (try clear tmp); rintro (F') tmp; (first | ((first | with_reducible refine Exists.elim tmp ?_ | with_reducible refine conj_elim tmp ?_); (try clear tmp); rintro (N') (J')) | obtain ⟨N', J'⟩ := tmp)) | obtain ⟨F', N', J'⟩ := tmp)) | obtain ⟨rfl, F', N', J'⟩ := tmp)) | obtain ⟨nw', rfl, F', N', J'⟩ := tmp)) | obtain ⟨m', nw', rfl, F', N', J'⟩ := tmp)) | obtain ⟨tk', m', nw', rfl, F', N', J'⟩ := tmp)) | obtain ⟨h'', tk', m', nw', rfl, F', N', J'⟩ := tmp)) | obtain ⟨g', h'', tk', m', nw', rfl, F', N', J'⟩ := h₃)
      exact ⟨n - (i + 1), by omega, i + 1, g', m', nw', h'', tk', rfl, hlt, rfl, F', N', J'⟩
    | brk => exact h₃
    | ret v => exact h₃
theorem piter_range {L r : Addr} {n : Nat} {t u v : Tok} {h₀ : Heap} {m : Str → Option Value} {news : List (Addr × Obj)} {Q : Value → Shared → Prop} (F : Fr h₀ L s.heap m) (N : News h₀ L s.heap news) (hr : IsRange s.heap r 0 n 1 t u v) (hs : Builtin.Range.small 0 n 1 = true) (hn : Builtin.Range.rangeSize 0 n 1 = (n : Int))
    (h : ∀ (I : Addr) h', Fr h₀ L h' m → News h₀ L h' ((I, riObj 0 n) :: news) → (∀ p ∈ news, @LT.lt Nat _ p.1 I) → Q (.ref I) { s with heap := h' }) :
    wpAny (model prog w) A (pyIter (.ref r)) Q E s := by
  refine wpAny_pyIter_range hr hs ?_
  rw [hn]
  exact h _ _ (F.push _) (News.push F N _ rfl) (fun q hq => Heap.lt_size (N q hq).1)
end
-- Sm
theorem StarMethod_ {M : Model} {A : Around} {E : Value → Shared → Prop} {s : Shared} {env : Env} {o : PySem.Expr} {name : Str} {apos pos : Pos} {args : List PySem.Expr} {Q : Value → Shared → Prop}
    (h : wpAny M A (eval o env) (fun ov s₁ => wpAny M A (getAttr ov name true) (fun f s₂ => wpAny M A (callWith pos f [] (backTo pos (starEach args env)) []) Q E s₂) E s₁) E s)
    (he : eval (.Call (.Attribute o name apos) args [] pos) env = (do
      let ov ← eval o env
      standAt apos.atName
      let fx ← holding [ov] (do pure (← getAttr ov name true, ([] : List Value)))
      callWith pos fx.1 fx.2 (backTo pos (starEach args env)) []) := by rfl) :
    wpAny M A (eval (.Call (.Attribute o name apos) args [] pos) env) Q E s := by
  rw [he]
  refine wpAny_bind (wpAny_mono h (fun ov s₁ h₁ => ?_) fun _ _ x => x)
  refine wpAny_bind (wpAny_standAt (wpAny_bind (wpAny_holding (wpAny_bind (wpAny_mono h₁ (fun f s₂ h₂ => ?_) fun _ _ x => x)))))
  exact wpAny_pure h₂
section
variable {M : Model} {A : Around} {E : Value → Shared → Prop} {s : Shared} {K : Frag} {env : Env} {pos p : Pos} {q f : Addr} {self : Value} {Q : Value → Shared → Prop} {e : PySem.Expr} {rest : List PySem.Expr}
/-- a bound method called with a starred argument alone -/
theorem callWith_MS (hf : fnIn K f = true) (h : wpAny M A (eval e env) (fun v s₁ => StarOf M A E v (fun vs s₂ => MethP K q f self s₂.heap ∧ wpAny M A (call (.ref q) ([] ++ vs)) Q E s₂) s₁) E s)
    (he : starEach [.Starred e p] env = [(true, eval e env)] := by rfl) :
    wpAny M A (callWith pos (.ref q) [] (backTo pos (starEach [.Starred e p] env)) []) Q E s := by
  rw [he]
  exact ks_call rfl (keeps_M hf) (ks_lone h)
/-- a bound method called with a plain argument and a starred one -/
theorem callWith_MS2 (hf : fnIn K f = true) (h : wpAny M A (spliced (backTo pos (starEach (e :: rest) env))) (fun vs s₁ => MethP K q f self s₁.heap ∧ wpAny M A (call (.ref q) ([] ++ vs)) Q E s₁) E s)
    (he : starEach (e :: rest) env = (false, eval e env) :: starEach rest env := by rfl) (hst : (backTo pos (starEach rest env)).any (·.1) = true := by rfl) :
    wpAny M A (callWith pos (.ref q) [] (backTo pos (starEach (e :: rest) env)) []) Q E s := by
  rw [he] at h ⊢
  exact ks_call (by show (false || (backTo pos (starEach rest env)).any (·.1)) = true; rw [hst]; rfl) (keeps_M hf) (evalArgs_plain h)
end
section
variable {w : World} {mean : ExcName → Option Value} {mg mb : Str → Option Value} {base h₀ : Heap} {outer : List Env} {news : List (Addr × Obj)} {s : Shared} {A₀ : Around} {L : Addr} {m : Str → Option Value} {env : Env}
/-- call_use, for the code of a bound method -/
theorem code_use {dp un : Nat} {gd : Option (List Code)} {R : Result → Shared → Prop} {f : Value} {pos : List Value} (B : Below A₀ base outer h₀) (F : Fr h₀ L s.heap m) (N : News h₀ L s.heap news) (XB : (Mine.hd.heap_1 w.params).In base) (TB : TT mean mg mb base) (D : KtsDicts (frs outer) h₀)
    (own rest : List (Addr × Obj)) (ho : ∀ p ∈ own, p ∈ news) (hr : ∀ p ∈ rest, p ∈ news) (hd' : ∀ p ∈ own, ∀ q ∈ rest, q.1 ≠ p.1)
    (h : ∀ g, Sit w mean mg mb base (env :: outer) g s.heap own →
      (∀ h' own', Done g h' own' → Fr h₀ L h' m ∧ News h₀ L h' (own' ++ rest) ∧ ∀ p ∈ own', ∀ q ∈ rest, @Ne Nat p.1 q.1) →
      codeAny (model P w) (arnd dp un gd (env :: outer)) (.call f ⟨pos, []⟩) R s)
    (hf : env.frame = some L := by rfl) (hke : env.scope.kind = .function := by rfl) :
    codeAny (model P w) (arnd dp un gd (env :: outer)) (.call f ⟨pos, []⟩) R s := by
  have hd : ∀ p ∈ own, ∀ q ∈ rest, p.1 ≠ q.1 := fun p hp q hq => Ne.symm (hd' p hp q hq)
  (first | ((first | refine Exists.elim (use_at B F N XB TB D hf hke own rest ho hr hd) ?_ | refine conj_elim (use_at B F N XB TB D hf hke own rest ho hr hd) ?_); rintro (g) tmp; (first | ((first | with_reducible refine Exists.elim tmp ?_ | with_reducible refine conj_elim tmp ?_); (try clear tmp); rintro (rfl) tmp; (first | ((first | with_reducible refine Exists.elim tmp ?_ | with_reducible refine conj_elim tmp ?_); (try clear tmp); rintro (S) tmp; (first | ((first | with_reducible refine Exists.elim tmp ?_ | with_reducible refine conj_elim tmp ?_); (try clear tmp); rintro (_) tmp; (first | ((first | with_reducible refine Exists.elim tmp ?_ | with_reducible refine conj_elim tmp ?_); (try clear tmp); rintro (b1) (b2)) | obtain ⟨b1, b2⟩ := tmp)) | obtain ⟨_, b1, b2⟩ := tmp)) | obtain ⟨S, _, b1, b2⟩ := tmp)) | obtain ⟨rfl, S, _, b1, b2⟩ := tmp)) | obtain ⟨g, rfl, S, _, b1, b2⟩ := use_at B F N XB TB D hf hke own rest ho hr hd)
  exact h _ S b1
end
-- Tp
theorem len_leK {α : Type} [DecidableEq α] : ∀ {a b : List α}, a.Nodup → (∀ x ∈ a, x ∈ b) → a.length ≤ b.length
  | [], _, _, _ => Nat.zero_le _
  | x :: a, b, hn, hs => by
    (first | ((first | refine Exists.elim (List.nodup_cons.mp hn) ?_ | refine conj_elim (List.nodup_cons.mp hn) ?_); rintro (h1) (h2)) | obtain ⟨h1, h2⟩ := List.nodup_cons.mp hn)
    have hx := hs x (.head _)
    have : a.length ≤ (b.erase x).length := len_leK h2 fun y hy => (List.mem_erase_of_ne (fun e : y = x => h1 (e ▸ hy))).mpr (hs y (.tail _ hy))
    rw [List.length_erase_of_mem hx] at this
    have := List.length_pos_of_mem hx
    simp only [List.length_cons]
    omega
/-- a list of refs to lists of numbers on the ledger -/
inductive ListsIn (fz : List (Addr × Obj)) : List Value → List (List Int) → Prop
  | nil : ListsIn fz [] []
  | cons {a : Addr} {ws : List Value} {k : Nat} {ns : List Int} {vs : List Value} {rs : List (List Int)} : (a, listOf ws.toArray k) ∈ fz → IntsAre ws ns → ListsIn fz vs rs → ListsIn fz (.ref a :: vs) (ns :: rs)
theorem ListsIn.get {fz : List (Addr × Obj)} {vs : List Value} {rs : List (List Int)} (h : ListsIn fz vs rs) : ∀ {i : Nat} {ns : List Int}, rs[i]? = some ns → ∃ a ws k, vs[i]? = some (.ref a) ∧ (a, listOf ws.toArray k) ∈ fz ∧ IntsAre ws ns := by
  induction h with
  | nil => intro i ns e; simp at e
  | cons hm hi _ ih =>
    intro i ns e
    cases i with
    | zero => simp at e; subst e; exact ⟨_, _, _, rfl, hm, hi⟩
    | succ i => simp at e; simpa using ih e
/-- the texts told so far -/
inductive TextsIn (fz : List (Addr × Obj)) : List (Int × Value) → List (Int × List Int) → Prop
  | nil : TextsIn fz [] []
  | cons {r : Int} {a : Addr} {ws : List Value} {k : Nat} {ns : List Int} {vs : List (Int × Value)} {rs : List (Int × List Int)} : (a, listOf ws.toArray k) ∈ fz → IntsAre ws ns → TextsIn fz vs rs → TextsIn fz ((r, .ref a) :: vs) ((r, ns) :: rs)
noncomputable def keysP (σ : List (Int × List Int)) : List Int := σ.map (·.1)
noncomputable def lookP (σ : List (Int × List Int)) (k : Int) : List Int := ((σ.find? fun x => x.1 = k).map (·.2)).getD []
noncomputable def lackP (σ : List (Int × List Int)) (parts : List Int) : List Int := parts.filter fun p => p < 0 ∧ (-1 - p) ∉ keysP σ
noncomputable def textP (σ : List (Int × List Int)) (parts : List Int) : List Int := parts.flatMap fun p => if 0 ≤ p then [p] else lookP σ (-1 - p)
noncomputable def stepP (rs : List (List Int)) (σ : List (Int × List Int)) (r : Nat) : List (Int × List Int) :=
  if (r : Int) ∉ keysP σ ∧ lackP σ (rs.getD r []) = [] then σ ++ [((r : Int), textP σ (rs.getD r []))] else σ
noncomputable def turnP (rs : List (List Int)) (σ : List (Int × List Int)) (n : Nat) : List (Int × List Int) := (List.range n).foldl (stepP rs) σ
noncomputable def textsP (rs : List (List Int)) (n : Nat) : List (Int × List Int) := (List.range n).foldl (fun σ _ => turnP rs σ 5) []
theorem TextsIn.keys {fz : List (Addr × Obj)} {kvs : List (Int × Value)} {σ : List (Int × List Int)} (h : TextsIn fz kvs σ) : kvs.map (·.1) = keysP σ := by
  induction h with
  | nil => rfl
  | cons _ _ _ ih => simp [keysP] at ih ⊢; exact ih
theorem TextsIn.isSome {fz : List (Addr × Obj)} {kvs : List (Int × Value)} {σ : List (Int × List Int)} (h : TextsIn fz kvs σ) (k : Int) : (valueAt kvs k).isSome = decide (k ∈ keysP σ) := by
  rw [← h.keys]
  unfold valueAt
  rw [Option.isSome_map]
  by_cases hk : k ∈ kvs.map (·.1)
  · rw [decide_eq_true hk, List.find?_isSome]
    (first | ((first | refine Exists.elim (List.mem_map.mp hk) ?_ | refine conj_elim (List.mem_map.mp hk) ?_); rintro (x) tmp; (first | ((first | with_reducible refine Exists.elim tmp ?_ | with_reducible refine conj_elim tmp ?_); (try clear tmp); rintro (hx) (e)) | obtain ⟨hx, e⟩ := tmp)) | obtain ⟨x, hx, e⟩ := List.mem_map.mp hk)
    exact ⟨x, hx, by simpa using e⟩
  · rw [decide_eq_false hk, Bool.eq_false_iff]
    intro hs
    rw [List.find?_isSome] at hs
    (first | ((first | with_reducible refine Exists.elim hs ?_ | with_reducible refine conj_elim hs ?_); (try clear hs); rintro (x) tmp; (first | ((first | with_reducible refine Exists.elim tmp ?_ | with_reducible refine conj_elim tmp ?_); (try clear tmp); rintro (hx) (e)) | obtain ⟨hx, e⟩ := tmp)) | obtain ⟨x, hx, e⟩ := hs)
    exact hk (List.mem_map.mpr ⟨x, hx, by simpa using e⟩)
theorem TextsIn.get {fz : List (Addr × Obj)} {kvs : List (Int × Value)} {σ : List (Int × List Int)} (h : TextsIn fz kvs σ) {k : Int} (hk : k ∈ keysP σ) : ∃ a ws c, valueAt kvs k = some (.ref a) ∧ (a, listOf ws.toArray c) ∈ fz ∧ IntsAre ws (lookP σ k) := by
  induction h with
  | nil => simp [keysP] at hk
  | @cons r a ws c ns vs rs hm hi _ ih =>
    unfold valueAt lookP
    by_cases e : r = k
    · subst e
      exact ⟨a, ws, c, by simp, hm, by simpa using hi⟩
    · have hk' : k ∈ keysP rs := by
        simp only [keysP, List.map_cons, List.mem_cons] at hk
        rcases hk with h | h
        · exact absurd h.symm e
        · exact h
      (first | ((first | refine Exists.elim (ih hk') ?_ | refine conj_elim (ih hk') ?_); rintro (a') tmp; (first | ((first | with_reducible refine Exists.elim tmp ?_ | with_reducible refine conj_elim tmp ?_); (try clear tmp); rintro (ws') tmp; (first | ((first | with_reducible refine Exists.elim tmp ?_ | with_reducible refine conj_elim tmp ?_); (try clear tmp); rintro (c') tmp; (first | ((first | with_reducible refine Exists.elim tmp ?_ | with_reducible refine conj_elim tmp ?_); (try clear tmp); rintro (h1) tmp; (first | ((first | with_reducible refine Exists.elim tmp ?_ | with_reducible refine conj_elim tmp ?_); (try clear tmp); rintro (h2) (h3)) | obtain ⟨h2, h3⟩ := tmp)) | obtain ⟨h1, h2, h3⟩ := tmp)) | obtain ⟨c', h1, h2, h3⟩ := tmp)) | obtain ⟨ws', c', h1, h2, h3⟩ := tmp)) | obtain ⟨a', ws', c', h1, h2, h3⟩ := ih hk')
      refine ⟨a', ws', c', ?_, h2, ?_⟩
      · rw [List.find?_cons]; simp only [e, decide_false]; exact h1
      · rw [List.find?_cons]; simp only [e, decide_false]; exact h3
theorem TextsIn.mono {fz fz' : List (Addr × Obj)} (hs : ∀ p ∈ fz, p ∈ fz') {kvs : List (Int × Value)} {σ : List (Int × List Int)} (h : TextsIn fz kvs σ) : TextsIn fz' kvs σ := by
  induction h with
  | nil => exact .nil
  | cons hm hi _ ih => exact .cons (hs _ hm) hi ih
theorem TextsIn.snoc {fz : List (Addr × Obj)} {kvs : List (Int × Value)} {σ : List (Int × List Int)} (h : TextsIn fz kvs σ) {r : Int} {a : Addr} {ws : List Value} {k : Nat} {ns : List Int} (hm : (a, listOf ws.toArray k) ∈ fz) (hi : IntsAre ws ns) : TextsIn fz (kvs ++ [(r, .ref a)]) (σ ++ [(r, ns)]) := by
  induction h with
  | nil => exact .cons hm hi .nil
  | cons hm' hi' _ ih => exact .cons hm' hi' ih
theorem ne_obj {h₀ h : Heap} {L a b : Addr} {o o' : Obj} {news : List (Addr × Obj)} (N : News h₀ L h news) (ha : (a, o) ∈ news) (hb : (b, o') ∈ news) (hc : o ≠ o') : @Ne Nat a b := fun e => by
  have h1 := (N _ ha).1
  have h2 := (N _ hb).1
  dsimp only at h1 h2
  rw [show a = b from e, h2] at h1
  cases h1
  exact hc rfl
noncomputable def BInv (σ : List (Int × List Int)) : Prop := (keysP σ).Nodup ∧ (∀ k ∈ keysP σ, 0 ≤ k ∧ k < 5) ∧ ∀ x ∈ σ, x.2.length ≤ 3 ^ σ.length
theorem lookP_len {σ : List (Int × List Int)} {B : Nat} (h : ∀ x ∈ σ, x.2.length ≤ B) (k : Int) : (lookP σ k).length ≤ B := by
  unfold lookP
  cases q : σ.find? (fun x => x.1 = k) with
  | none => simp
  | some x => simp; exact h x (List.mem_of_find?_eq_some q)
theorem textP_len {σ : List (Int × List Int)} {B : Nat} (hB : 1 ≤ B) (h : ∀ x ∈ σ, x.2.length ≤ B) (ps : List Int) : (textP σ ps).length ≤ ps.length * B := by
  induction ps with
  | nil => simp [textP]
  | cons p ps ih =>
    have e : textP σ (p :: ps) = (if 0 ≤ p then [p] else lookP σ (-1 - p)) ++ textP σ ps := by simp [textP]
    rw [e, List.length_append, List.length_cons, Nat.succ_mul]
    have : (if 0 ≤ p then [p] else lookP σ (-1 - p)).length ≤ B := by
      split
      · simpa using hB
      · exact lookP_len h _
    omega
theorem BInv.small {σ : List (Int × List Int)} (h : BInv σ) : σ.length ≤ 5 := by
  have := len_leK (a := keysP σ) (b := [0, 1, 2, 3, 4]) h.1 (fun k hk => by
    (first | ((first | refine Exists.elim (h.2.1 k hk) ?_ | refine conj_elim (h.2.1 k hk) ?_); rintro (h1) (h2)) | obtain ⟨h1, h2⟩ := h.2.1 k hk)
    have : k = 0 ∨ k = 1 ∨ k = 2 ∨ k = 3 ∨ k = 4 := by omega
    simpa using this)
  simpa [keysP] using this
theorem BInv.step {rs : List (List Int)} (h3 : ∀ p ∈ rs, p.length ≤ 3) {σ : List (Int × List Int)} (h : BInv σ) {r : Nat} (hr : r < 5) : BInv (stepP rs σ r) := by
  unfold stepP
  split
  · rename_i hc
    have hl : (rs.getD r []).length ≤ 3 := by
      unfold List.getD
      cases q : rs[r]? with
      | none => simp
      | some p => simpa using h3 p (List.mem_of_getElem? q)
    refine ⟨?_, ?_, ?_⟩
    · simp only [keysP, List.map_append, List.map_cons, List.map_nil]
      refine List.nodup_append.mpr ⟨h.1, by simp, fun a ha b hb e => ?_⟩
      simp at hb
      subst hb
      exact hc.1 (e ▸ ha)
    · intro k hk
      simp only [keysP, List.map_append, List.map_cons, List.map_nil, List.mem_append, List.mem_singleton] at hk
      rcases hk with hk | hk
      · exact h.2.1 k hk
      · omega
    · intro x hx
      have hp : 3 ^ σ.length ≤ 3 ^ (σ.length + 1) := Nat.pow_le_pow_right (by decide) (by omega)
      rw [List.length_append, List.length_singleton]
      rcases List.mem_append.mp hx with hx | hx
      · exact Nat.le_trans (h.2.2 x hx) hp
      · rw [List.mem_singleton.mp hx]
        have := textP_len (σ := σ) (B := 3 ^ σ.length) (Nat.one_le_pow _ _ (by decide)) h.2.2 (rs.getD r [])
        have h4 : (rs.getD r []).length * 3 ^ σ.length ≤ 3 * 3 ^ σ.length := Nat.mul_le_mul_right _ hl
        rw [Nat.pow_succ]
        show (textP σ (rs.getD r [])).length ≤ 3 ^ σ.length * 3
        omega
  · exact h
theorem BInv.turn {rs : List (List Int)} (h3 : ∀ p ∈ rs, p.length ≤ 3) {σ : List (Int × List Int)} (h : BInv σ) : ∀ {n : Nat}, n ≤ 5 → BInv (turnP rs σ n)
  | 0, _ => h
  | n + 1, hn => by
    have e : turnP rs σ (n + 1) = stepP rs (turnP rs σ n) n := by unfold turnP; rw [List.range_succ, List.foldl_append]; rfl
    rw [e]
    exact (BInv.turn h3 h (by omega)).step h3 (by omega)
theorem BInv.texts {rs : List (List Int)} (h3 : ∀ p ∈ rs, p.length ≤ 3) : ∀ n : Nat, BInv (textsP rs n)
  | 0 => ⟨by simp [keysP, textsP], by simp [keysP, textsP], by simp [textsP]⟩
  | n + 1 => by
    have e : textsP rs (n + 1) = turnP rs (textsP rs n) 5 := by unfold textsP; rw [List.range_succ, List.foldl_append]; rfl
    rw [e]
    exact (BInv.texts h3 n).turn h3 (by omega)
theorem BInv.le {σ : List (Int × List Int)} (h : BInv σ) : ∀ x ∈ σ, x.2.length ≤ 243 := fun x hx =>
  Nat.le_trans (h.2.2 x hx) (Nat.le_trans (Nat.pow_le_pow_right (by decide) h.small) (by decide))
-- Tx
set_option maxHeartbeats 8000000 in
theorem texts_spec {w : World} {mean : ExcName → Option Value} {mg mb : Str → Option Value} {base g : Heap} {outer : List Env} {s : Shared} {dp un : Nat} {gd : Option (List Code)} {R : Result → Shared → Prop}
    {fz : List (Addr × Obj)} {rA : Addr} {vs : List Value} {k : Nat} {rs : List (List Int)}
    (S : Sit w mean mg mb base outer g s.heap fz) (hrA : (rA, listOf vs.toArray k) ∈ fz) (hr : ListsIn fz vs rs) (hlen : rs.length = 5) (h3 : ∀ p ∈ rs, p.length ≤ 3)
    (hd : dp + 15 < recursionLimit) (hu : un + 150 < cLine)
    (ret : ∀ dA od kvs tl h' tk', od.IsDictOf (PySem.intKind P w) kvs → TextsIn (tl ++ fz) kvs (textsP rs 5) → (dA == sysModules) = false → (∀ p ∈ tl ++ fz, @Ne Nat p.1 dA) → Done g h' ((dA, od) :: (tl ++ fz)) → R (.ok (.ret (.ref dA))) { s with heap := h', toks := tk' }) :
    codeAny (model P w) (arnd dp un gd outer) (.call (.ref 169) ⟨[.ref rA], []⟩) R s := by
  refine S.enterC (binds := [(Str.ofString "rules", .ref rA)]) (by k_is) (by k_is) (by omega) (BindsTo.of_eq rfl) (by rfl) (by decide) ?_ rfl rfl rfl
  intro L h₁ tk cells F N Y B X T KD XB TB hlt
  (first | ((first | refine Exists.elim (Y.one) ?_ | refine conj_elim (Y.one) ?_); rintro (oc) tmp; (first | ((first | with_reducible refine Exists.elim tmp ?_ | with_reducible refine conj_elim tmp ?_); (try clear tmp); rintro (rfl) (hoc)) | obtain ⟨rfl, hoc⟩ := tmp)) | obtain ⟨oc, rfl, hoc⟩ := Y.one)
  have N₁ : News g L h₁ ((L + 1, oc) :: fz) := N
  clear N
  have hltc : ∀ p ∈ fz, p.1 < L + 1 := fun p hp => Nat.lt_succ_of_lt (hlt p hp)
  (repeat' (fail_if_success with_reducible first | refine zzW ?_ | refine zzF ?_ | refine zzC ?_ | refine zzL ?_ | refine zzD ?_); first | k_unfold; try dsimp only | walk1 | dsimp only; walk1 | leave1; try dsimp only)
  refine newDict_K F N₁ T.nolimit ?_
  intro dA h₂ od F₂ N₂ lD loD _ _ hod _
  have lD1 : @LT.lt Nat _ (L + 1) dA := lD _ (.head _)
  have lD2 : ∀ p ∈ fz, p.1 < dA := fun p hp => lD _ (.tail _ hp)
  clear F N₁ lD
  (repeat' (fail_if_success with_reducible first | refine zzW ?_ | refine zzF ?_ | refine zzC ?_ | refine zzL ?_ | refine zzD ?_); first | k_unfold; try dsimp only | walk1 | dsimp only; walk1 | leave1; try dsimp only)
  rename Fr _ _ _ _ => F₄
  rename News _ _ _ _ => N₄
  refine For_gen ?_
  (repeat' (fail_if_success with_reducible first | refine zzW ?_ | refine zzF ?_ | refine zzC ?_ | refine zzL ?_ | refine zzD ?_); first | k_unfold; try dsimp only | walk1 | dsimp only; walk1 | leave1; try dsimp only)
  rename Fr _ _ _ _ => F₅
  rename News _ _ _ _ => N₅
  rename (Obj.data _ = Data.cell (some (Value.ref dA))) => hoc'
  refine piter_range (n := 5) F₅ N₅ (by assumption) (by decide) (by decide) ?_
  intro I h₆ F₆ N₆ lI
  have key : ∃ oc' : Obj, oc'.data = Data.cell (some (Value.ref dA)) ∧ News g L h₆ ((I, riObj 0 (5 : Nat)) :: (dA, od) :: (L + 1, oc') :: fz) := ⟨_, hoc', N₆⟩
  clear hoc' N₆
  (first | ((first | with_reducible refine Exists.elim key ?_ | with_reducible refine conj_elim key ?_); (try clear key); rintro (oc') tmp; (first | ((first | with_reducible refine Exists.elim tmp ?_ | with_reducible refine conj_elim tmp ?_); (try clear tmp); rintro (hoc') (N₆)) | obtain ⟨hoc', N₆⟩ := tmp)) | obtain ⟨oc', hoc', N₆⟩ := key)
  have lI1 : @LT.lt Nat _ dA I := lI _ (.head _)
  clear N₅ F₅ lI hoc
  have Jt : ∀ (i : Nat) (g' : Heap) (m : Str → Option Value) (nw : List (Addr × Obj)), (All3 (g' = g) (m (Str.ofString "rules") = some (.ref rA)) (Ex3 fun kvs od tl => All4 (od.IsDictOf (PySem.intKind P w) kvs) (TextsIn (tl ++ fz) kvs (textsP rs i)) ((∀ p ∈ tl, @Ne Nat p.1 (L + 1) ∧ @Ne Nat p.1 dA ∧ @Ne Nat p.1 I)) (nw = (dA, od) :: (L + 1, oc') :: (tl ++ fz)))) → ∀ p ∈ nw, p.1 ≠ I := by
    rintro i g' m nw ⟨rfl, _, kvs, od, tl, _, _, hoff, rfl⟩ p hp
    simp only [List.mem_cons, List.mem_append] at hp
    rcases hp with rfl | rfl | hp | hp
    · exact Nat.ne_of_lt lI1
    · exact Nat.ne_of_lt (Nat.lt_trans lD1 lI1)
    · exact (hoff p hp).2.2
    · exact Nat.ne_of_lt (Nat.lt_trans (lD2 p hp) lI1)
  (try dsimp only)
  refine turns_range (n := 5) (fun i g' m nw => All3 (g' = g) (m (Str.ofString "rules") = some (.ref rA)) (Ex3 fun kvs od tl => All4 (od.IsDictOf (PySem.intKind P w) kvs) (TextsIn (tl ++ fz) kvs (textsP rs i)) ((∀ p ∈ tl, @Ne Nat p.1 (L + 1) ∧ @Ne Nat p.1 dA ∧ @Ne Nat p.1 I)) (nw = (dA, od) :: (L + 1, oc') :: (tl ++ fz)))) rfl Jt F₆ N₆ ⟨rfl, rfl, [], od, [], hod, .nil, by simp, rfl⟩ ?_ ?_
  · rintro i g' m nw h tk t hi5 hJ9 Fi Ni hneI Q1 hQ1
    (first | ((first | with_reducible refine Exists.elim hJ9 ?_ | with_reducible refine conj_elim hJ9 ?_); (try clear hJ9); rintro (rfl) tmp; (first | ((first | with_reducible refine Exists.elim tmp ?_ | with_reducible refine conj_elim tmp ?_); (try clear tmp); rintro (hm1) tmp; (first | ((first | with_reducible refine Exists.elim tmp ?_ | with_reducible refine conj_elim tmp ?_); (try clear tmp); rintro (kvs) tmp; (first | ((first | with_reducible refine Exists.elim tmp ?_ | with_reducible refine conj_elim tmp ?_); (try clear tmp); rintro (od) tmp; (first | ((first | with_reducible refine Exists.elim tmp ?_ | with_reducible refine conj_elim tmp ?_); (try clear tmp); rintro (tl) tmp; (first | ((first | with_reducible refine Exists.elim tmp ?_ | with_reducible refine conj_elim tmp ?_); (try clear tmp); rintro (hod) tmp; (first | ((first | with_reducible refine Exists.elim tmp ?_ | with_reducible refine conj_elim tmp ?_); (try clear tmp); rintro (htx) tmp; (first | ((first | with_reducible refine Exists.elim tmp ?_ | with_reducible refine conj_elim tmp ?_); (try clear tmp); rintro (hoff) (rfl)) | obtain ⟨hoff, rfl⟩ := tmp)) | obtain ⟨htx, hoff, rfl⟩ := tmp)) | obtain ⟨hod, htx, hoff, rfl⟩ := tmp)) | obtain ⟨tl, hod, htx, hoff, rfl⟩ := tmp)) | obtain ⟨od, tl, hod, htx, hoff, rfl⟩ := tmp)) | obtain ⟨kvs, od, tl, hod, htx, hoff, rfl⟩ := tmp)) | obtain ⟨hm1, kvs, od, tl, hod, htx, hoff, rfl⟩ := tmp)) | obtain ⟨rfl, hm1, kvs, od, tl, hod, htx, hoff, rfl⟩ := hJ9)
    clear F₆ N₆
    (repeat' (fail_if_success with_reducible first | refine zzW ?_ | refine zzF ?_ | refine zzC ?_ | refine zzL ?_ | refine zzD ?_); first | k_unfold; try dsimp only | walk1 | dsimp only; walk1 | leave1; try dsimp only)
    rename Fr _ _ _ _ => F₇
    rename News _ _ _ _ => N₇
    refine For_gen ?_
    (repeat' (fail_if_success with_reducible first | refine zzW ?_ | refine zzF ?_ | refine zzC ?_ | refine zzL ?_ | refine zzD ?_); first | k_unfold; try dsimp only | walk1 | dsimp only; walk1 | leave1; try dsimp only)
    rename Fr _ _ _ _ => F₈
    rename News _ _ _ _ => N₈
    refine piter_range (n := 5) F₈ N₈ (by assumption) (by decide) (by decide) ?_
    intro J h₉ F₉ N₉ lJ
    clear F₈ N₈
    have lJI : @LT.lt Nat _ I J := lJ _ (.head _)
    have hoffJ : ∀ p ∈ tl, @Ne Nat p.1 (L + 1) ∧ @Ne Nat p.1 dA ∧ @Ne Nat p.1 I ∧ @Ne Nat p.1 J := fun p hp => ⟨(hoff p hp).1, (hoff p hp).2.1, (hoff p hp).2.2, Nat.ne_of_lt (lJ _ (.tail _ (.tail _ (.tail _ (List.mem_append_left _ hp)))))⟩
    have N₁₀ : News g' L h₉ ((J, riObj 0 (5 : Nat)) :: (dA, od) :: (L + 1, oc') :: (I, riObj ((i + 1 : Nat) : Int) (((5 : Nat) : Int) - ((i + 1 : Nat) : Int))) :: (tl ++ fz)) := fun p hp => N₉ p (by
      exact sub_at re30 hp)
    clear N₉ lJ
    (try dsimp only)
    refine turns_range (n := 5) (fun j g'' m nw => All3 (g'' = g') (m (Str.ofString "rules") = some (.ref rA)) (Ex3 fun kvs od tl => All4 (od.IsDictOf (PySem.intKind P w) kvs) (TextsIn (tl ++ fz) kvs (turnP rs (textsP rs i) j)) ((∀ p ∈ tl, @Ne Nat p.1 (L + 1) ∧ @Ne Nat p.1 dA ∧ @Ne Nat p.1 I ∧ @Ne Nat p.1 J)) (nw = (dA, od) :: (L + 1, oc') :: (I, riObj ((i + 1 : Nat) : Int) (((5 : Nat) : Int) - ((i + 1 : Nat) : Int))) :: (tl ++ fz)))) rfl ?_ F₉ N₁₀ ⟨rfl, by (repeat (first | with_reducible assumption | refine Eq.trans (if_pos rfl) ?_; exact rfl | refine Eq.trans (if_neg (by decide)) ?_)), kvs, od, tl, hod, htx, hoffJ, rfl⟩ ?_ ?_
    · rintro j g'' m nw ⟨rfl, _, kvs, od, tl, _, _, hoff, rfl⟩ p hp
      simp only [List.mem_cons, List.mem_append] at hp
      rcases hp with rfl | rfl | rfl | hp | hp
      · exact Nat.ne_of_lt (Nat.lt_trans lI1 lJI)
      · exact Nat.ne_of_lt (Nat.lt_trans lD1 (Nat.lt_trans lI1 lJI))
      · exact Nat.ne_of_lt lJI
      · exact (hoff p hp).2.2.2
      · exact Nat.ne_of_lt (Nat.lt_trans (lD2 p hp) (Nat.lt_trans lI1 lJI))
    · clear hm1 hod htx hoff hoffJ hneI F₉ N₁₀
      (try clear F₇ N₇)
      rintro j g'' m nw h tk t hj5 hJ9 Fj Nj hneJ Q2 hQ2
      (first | ((first | with_reducible refine Exists.elim hJ9 ?_ | with_reducible refine conj_elim hJ9 ?_); (try clear hJ9); rintro (rfl) tmp; (first | ((first | with_reducible refine Exists.elim tmp ?_ | with_reducible refine conj_elim tmp ?_); (try clear tmp); rintro (hm1) tmp; (first | ((first | with_reducible refine Exists.elim tmp ?_ | with_reducible refine conj_elim tmp ?_); (try clear tmp); rintro (kvs) tmp; (first | ((first | with_reducible refine Exists.elim tmp ?_ | with_reducible refine conj_elim tmp ?_); (try clear tmp); rintro (od) tmp; (first | ((first | with_reducible refine Exists.elim tmp ?_ | with_reducible refine conj_elim tmp ?_); (try clear tmp); rintro (tl) tmp; (first | ((first | with_reducible refine Exists.elim tmp ?_ | with_reducible refine conj_elim tmp ?_); (try clear tmp); rintro (hod) tmp; (first | ((first | with_reducible refine Exists.elim tmp ?_ | with_reducible refine conj_elim tmp ?_); (try clear tmp); rintro (htx) tmp; (first | ((first | with_reducible refine Exists.elim tmp ?_ | with_reducible refine conj_elim tmp ?_); (try clear tmp); rintro (hoff) (rfl)) | obtain ⟨hoff, rfl⟩ := tmp)) | obtain ⟨htx, hoff, rfl⟩ := tmp)) | obtain ⟨hod, htx, hoff, rfl⟩ := tmp)) | obtain ⟨tl, hod, htx, hoff, rfl⟩ := tmp)) | obtain ⟨od, tl, hod, htx, hoff, rfl⟩ := tmp)) | obtain ⟨kvs, od, tl, hod, htx, hoff, rfl⟩ := tmp)) | obtain ⟨hm1, kvs, od, tl, hod, htx, hoff, rfl⟩ := tmp)) | obtain ⟨rfl, hm1, kvs, od, tl, hod, htx, hoff, rfl⟩ := hJ9)
      (repeat' (fail_if_success with_reducible first | refine zzAL ?_ | refine zzF ?_); first | k_unfold; try dsimp only | walk1 | dsimp only; walk1 | leave1; try dsimp only)
      rename Fr _ _ _ _ => F₁₁
      rename News _ _ _ _ => N₁₁
      refine LCt.Assign_ListComp_T (cl := [(Str.ofString "texts", L + 1)]) F₁₁ rfl ?sw rfl (by decide) rfl (by decide) rfl rfl rfl ?_
      case sw => first | rfl | with_unfolding_all rfl | kernel_rfl
      (refine Exists.elim ((⟨rs[j], by simp [hlen, hj5]⟩) : ∃ parts, rs[j]? = some parts) ?_; rintro (parts) (hparts))
      (first | ((first | refine Exists.elim (hr.get hparts) ?_ | refine conj_elim (hr.get hparts) ?_); rintro (pA) tmp; (first | ((first | with_reducible refine Exists.elim tmp ?_ | with_reducible refine conj_elim tmp ?_); (try clear tmp); rintro (pws) tmp; (first | ((first | with_reducible refine Exists.elim tmp ?_ | with_reducible refine conj_elim tmp ?_); (try clear tmp); rintro (pk) tmp; (first | ((first | with_reducible refine Exists.elim tmp ?_ | with_reducible refine conj_elim tmp ?_); (try clear tmp); rintro (hpv) tmp; (first | ((first | with_reducible refine Exists.elim tmp ?_ | with_reducible refine conj_elim tmp ?_); (try clear tmp); rintro (hpm) (hpi)) | obtain ⟨hpm, hpi⟩ := tmp)) | obtain ⟨hpv, hpm, hpi⟩ := tmp)) | obtain ⟨pk, hpv, hpm, hpi⟩ := tmp)) | obtain ⟨pws, pk, hpv, hpm, hpi⟩ := tmp)) | obtain ⟨pA, pws, pk, hpv, hpm, hpi⟩ := hr.get hparts)
      have hrd : rs.getD j [] = parts := by simp [List.getD, hparts]
      have mrA : (rA, listOf vs.toArray k) ∈ (J, riObj ((j + 1 : Nat) : Int) (((5 : Nat) : Int) - ((j + 1 : Nat) : Int))) :: (dA, od) :: (L + 1, oc') :: (I, riObj ((i + 1 : Nat) : Int) (((5 : Nat) : Int) - ((i + 1 : Nat) : Int))) :: (tl ++ fz) := .tail _ (.tail _ (.tail _ (.tail _ (List.mem_append_right _ hrA))))
      have mpA : (pA, listOf pws.toArray pk) ∈ (J, riObj ((j + 1 : Nat) : Int) (((5 : Nat) : Int) - ((j + 1 : Nat) : Int))) :: (dA, od) :: (L + 1, oc') :: (I, riObj ((i + 1 : Nat) : Int) (((5 : Nat) : Int) - ((i + 1 : Nat) : Int))) :: (tl ++ fz) := .tail _ (.tail _ (.tail _ (.tail _ (List.mem_append_right _ hpm))))
      have hp3 : pws.length ≤ 3 := by have := hpi.length; have := h3 _ (List.mem_of_getElem? hparts); omega
      (repeat' (fail_if_success with_reducible first | refine zzW ?_ | refine zzF ?_ | refine zzC ?_ | refine zzL ?_ | refine zzD ?_); first | k_unfold; try dsimp only | walk1 | dsimp only; walk1 | leave1; try dsimp only)
      refine item_at N₁₁ mrA (by omega) (by omega) (by simpa using hpv) ?_
      refine LCt.CompSrcT.ledger rfl F₁₁ N₁₁ mpA (by rw [sizeLine_eq]; simp; omega) fun gc => ?_
      refine compT_ind (fun c ys nw => nw = (J, riObj ((j + 1 : Nat) : Int) (((5 : Nat) : Int) - ((j + 1 : Nat) : Int))) :: (dA, od) :: (L + 1, oc') :: (I, riObj ((i + 1 : Nat) : Int) (((5 : Nat) : Int) - ((i + 1 : Nat) : Int))) :: (tl ++ fz) ∧ IntsAre ys (lackP (turnP rs (textsP rs i) j) (parts.take c))) pws.toArray.size ?_ ?_ _ 0 [] _ (Nat.zero_add _) ⟨rfl, .nil⟩
      · rintro c ys nw hc ⟨rfl, hys⟩ v Ic oI C oC D m₂ hh tk' E' hv hC hmx F₁₂ N₁₂ o3 ne
        (first | ((first | refine Exists.elim (ints_get hpi (by simpa using hv)) ?_ | refine conj_elim (ints_get hpi (by simpa using hv)) ?_); rintro (pn) tmp; (first | ((first | with_reducible refine Exists.elim tmp ?_ | with_reducible refine conj_elim tmp ?_); (try clear tmp); rintro (pt) tmp; (first | ((first | with_reducible refine Exists.elim tmp ?_ | with_reducible refine conj_elim tmp ?_); (try clear tmp); rintro (rfl) (hpn)) | obtain ⟨rfl, hpn⟩ := tmp)) | obtain ⟨pt, rfl, hpn⟩ := tmp)) | obtain ⟨pn, pt, rfl, hpn⟩ := ints_get hpi (by simpa using hv))
        clear F₁₁ N₁₁
        have htake : parts.take (c + 1) = parts.take c ++ [pn] := by rw [List.take_add_one, hpn]; rfl
        (repeat' (fail_if_success with_reducible first | refine zzW ?_ | refine zzF ?_ | refine zzC ?_ | refine zzL ?_ | refine zzD ?_); first | k_unfold; try dsimp only | walk1 | dsimp only; walk1 | leave1; try dsimp only)
        · rename (pn < 0) => hneg
          by_cases hin : (-1 - pn) ∈ keysP (turnP rs (textsP rs i) j)
          · refine kdg_notin (knd := PySem.intKind P w) N₁₂ (.tail _ (.tail _ (.tail _ (.tail _ (.head _))))) hod loD (intKind_is _ _ _ _) true (by rw [htx.isSome]; exact decide_eq_true hin) ?_
            (repeat' (fail_if_success with_reducible first | refine zzW ?_ | refine zzF ?_ | refine zzC ?_ | refine zzL ?_ | refine zzD ?_); first | k_unfold; try dsimp only | walk1 | dsimp only; walk1 | leave1; try dsimp only)
            refine CompEnd.intro F₁₂ N₁₂ ((J, riObj ((j + 1 : Nat) : Int) (((5 : Nat) : Int) - ((j + 1 : Nat) : Int))) :: (dA, od) :: (L + 1, oc') :: (I, riObj ((i + 1 : Nat) : Int) (((5 : Nat) : Int) - ((i + 1 : Nat) : Int))) :: (tl ++ fz)) (fun p hp => hp) o3 (.inr ⟨_, mpA, rfl, _, rfl⟩) ⟨rfl, ?_⟩
            have e : lackP (turnP rs (textsP rs i) j) [pn] = [] := by simp [lackP, hin]
            rw [htake]
            unfold lackP at e hys ⊢
            rw [List.filter_append, e, List.append_nil]
            exact hys
          · refine kdg_notin (knd := PySem.intKind P w) N₁₂ (.tail _ (.tail _ (.tail _ (.tail _ (.head _))))) hod loD (intKind_is _ _ _ _) false (by rw [htx.isSome]; exact decide_eq_false hin) ?_
            (repeat' (fail_if_success with_reducible first | refine zzW ?_ | refine zzF ?_ | refine zzC ?_ | refine zzL ?_ | refine zzD ?_); first | k_unfold; try dsimp only | walk1 | dsimp only; walk1 | leave1; try dsimp only)
            refine CompEnd.intro F₁₂ N₁₂ ((J, riObj ((j + 1 : Nat) : Int) (((5 : Nat) : Int) - ((j + 1 : Nat) : Int))) :: (dA, od) :: (L + 1, oc') :: (I, riObj ((i + 1 : Nat) : Int) (((5 : Nat) : Int) - ((i + 1 : Nat) : Int))) :: (tl ++ fz)) (fun p hp => hp) o3 (.inr ⟨_, mpA, rfl, _, rfl⟩) ⟨rfl, ?_⟩
            have e : lackP (turnP rs (textsP rs i) j) [pn] = [pn] := by simp [lackP, hin, hneg]
            rw [htake]
            unfold lackP at e hys ⊢
            rw [List.filter_append, e]
            exact ints_snoc hys
        · rename ¬ (pn < 0) => hneg
          refine CompEnd.intro F₁₂ N₁₂ ((J, riObj ((j + 1 : Nat) : Int) (((5 : Nat) : Int) - ((j + 1 : Nat) : Int))) :: (dA, od) :: (L + 1, oc') :: (I, riObj ((i + 1 : Nat) : Int) (((5 : Nat) : Int) - ((i + 1 : Nat) : Int))) :: (tl ++ fz)) (fun p hp => hp) o3 (.inr ⟨_, mpA, rfl, _, rfl⟩) ⟨rfl, ?_⟩
          have e : lackP (turnP rs (textsP rs i) j) [pn] = [] := by simp [lackP, hneg]
          rw [htake]
          unfold lackP at e hys ⊢
          rw [List.filter_append, e, List.append_nil]
          exact hys
      · have hpl : pws.toArray.size = parts.length := by have := hpi.length; simp [this]
        rintro ys nw ⟨rfl, hys⟩
        rw [hpl, List.take_length] at hys
        clear F₁₁ N₁₁
        intro D hD tkD F₁₃ N₁₃ o1
        have hturn : turnP rs (textsP rs i) (j + 1) = stepP rs (turnP rs (textsP rs i) j) j := by
          unfold turnP
          rw [List.range_succ, List.foldl_append]
          rfl
        dsimp only
        (repeat' (fail_if_success with_reducible first | refine zzW ?_ | refine zzF ?_ | refine zzC ?_ | refine zzL ?_ | refine zzD ?_); first | k_unfold; try dsimp only | walk1 | dsimp only; walk1 | leave1; try dsimp only)
        by_cases hin : (j : Int) ∈ keysP (turnP rs (textsP rs i) j)
        · refine kdg_notin (knd := PySem.intKind P w) N₁₃ (.tail _ (.tail _ (.head _))) hod loD (intKind_is _ _ _ _) true (by rw [htx.isSome]; exact decide_eq_true hin) ?_
          (repeat' (fail_if_success with_reducible first | refine zzW ?_ | refine zzF ?_ | refine zzC ?_ | refine zzL ?_ | refine zzD ?_); first | k_unfold; try dsimp only | walk1 | dsimp only; walk1 | leave1; try dsimp only)
          rename Fr _ _ _ _ => Fz
          rename News _ _ _ _ => Nz
          have hstep : turnP rs (textsP rs i) j = turnP rs (textsP rs i) (j + 1) := by
            rw [hturn]; unfold stepP; rw [if_neg (by simp [hin])]
          refine hQ2 _ _ ?_
          exact ⟨_, _, _, _, (dA, od) :: (L + 1, oc') :: (I, riObj ((i + 1 : Nat) : Int) (((5 : Nat) : Int) - ((i + 1 : Nat) : Int))) :: (tl ++ fz), rfl, Fz, fun p hp => Nz p (by
            exact sub_at re31 hp), rfl, by (repeat (first | with_reducible assumption | refine Eq.trans (if_pos rfl) ?_; exact rfl | refine Eq.trans (if_neg (by decide)) ?_)), kvs, od, tl, hod, hstep ▸ htx, hoff, rfl⟩
        · refine kdg_notin (knd := PySem.intKind P w) N₁₃ (.tail _ (.tail _ (.head _))) hod loD (intKind_is _ _ _ _) false (by rw [htx.isSome]; exact decide_eq_false hin) ?_
          (repeat' (fail_if_success with_reducible first | refine zzW ?_ | refine zzF ?_ | refine zzC ?_ | refine zzL ?_ | refine zzD ?_); first | k_unfold; try dsimp only | walk1 | dsimp only; walk1 | leave1; try dsimp only)
          refine wpAny_truthy_list (items := ys.toArray) ⟨_, (N₁₃ _ (.head _)).1, rfl, _, rfl⟩ ?_ ?_
          · have h1 := hys.length
            have h2 : (lackP (turnP rs (textsP rs i) j) parts).length ≤ parts.length := List.length_filter_le _ _
            have h3' := hpi.length
            simp only [List.size_toArray]
            omega
          cases hlk : lackP (turnP rs (textsP rs i) j) parts with
          | cons q qs =>
            rw [hlk] at hys
            have he : (!ys.toArray.isEmpty) = true := by cases hys; simp
            rw [he]
            (repeat' (fail_if_success with_reducible first | refine zzW ?_ | refine zzF ?_ | refine zzC ?_ | refine zzL ?_ | refine zzD ?_); first | k_unfold; try dsimp only | walk1 | dsimp only; walk1 | leave1; try dsimp only)
            rename Fr _ _ _ _ => Fz
            rename News _ _ _ _ => Nz
            have hstep : turnP rs (textsP rs i) j = turnP rs (textsP rs i) (j + 1) := by
              rw [hturn]; unfold stepP; rw [hrd, if_neg (by simp [hlk])]
            refine hQ2 _ _ ?_
            exact ⟨_, _, _, _, (dA, od) :: (L + 1, oc') :: (I, riObj ((i + 1 : Nat) : Int) (((5 : Nat) : Int) - ((i + 1 : Nat) : Int))) :: (tl ++ fz), rfl, Fz, fun p hp => Nz p (by
            exact sub_at re31 hp), rfl, by (repeat (first | with_reducible assumption | refine Eq.trans (if_pos rfl) ?_; exact rfl | refine Eq.trans (if_neg (by decide)) ?_)), kvs, od, tl, hod, hstep ▸ htx, hoff, rfl⟩
          | nil =>
            rw [hlk] at hys
            have he : (!ys.toArray.isEmpty) = false := by cases hys; simp
            rw [he]
            (repeat' (fail_if_success with_reducible first | refine zzW ?_ | refine zzF ?_ | refine zzC ?_ | refine zzL ?_ | refine zzD ?_); first | k_unfold; try dsimp only | walk1 | dsimp only; walk1 | leave1; try dsimp only)
            rename Fr _ _ _ _ => F₁₄
            rename News _ _ _ _ => N₁₄
            have hB : ∀ x ∈ turnP rs (textsP rs i) j, x.2.length ≤ 243 := ((BInv.texts h3 i).turn h3 (by omega)).le
            refine For_gen ?_
            (repeat' (fail_if_success with_reducible first | refine zzW ?_ | refine zzF ?_ | refine zzC ?_ | refine zzL ?_ | refine zzD ?_); first | k_unfold; try dsimp only | walk1 | dsimp only; walk1 | leave1; try dsimp only)
            refine item_at N₁₄ (.tail _ (.tail _ mrA)) (by omega) (by omega) (by simpa using hpv) ?_
            refine piter_list F₁₄ N₁₄ (.tail _ (.tail _ mpA)) ?_
            intro IT h₁₅ F₁₅ N₁₅ lIT
            have q1 : @LT.lt Nat _ J IT := lIT _ (.tail _ (.tail _ (.head _)))
            have q2 : @LT.lt Nat _ dA IT := lIT _ (.tail _ (.tail _ (.tail _ (.head _))))
            have q3 : @LT.lt Nat _ (L + 1) IT := lIT _ (.tail _ (.tail _ (.tail _ (.tail _ (.head _)))))
            have q4 : @LT.lt Nat _ I IT := lIT _ (.tail _ (.tail _ (.tail _ (.tail _ (.tail _ (.head _))))))
            have q5 : ∀ p ∈ tl ++ fz, @LT.lt Nat _ p.1 IT := fun p hp => lIT _ (.tail _ (.tail _ (.tail _ (.tail _ (.tail _ (.tail _ hp))))))
            have q6 := lIT _ (.head _)
            (try dsimp only)
            refine turns_list (items := pws.toArray) (l := pA) (i₀ := 0) (fun q g₃ m nw => All4 (g₃ = g'') (m (Str.ofString "rules") = some (.ref rA)) (m (Str.ofString "rule") = some (.int (j : Int) t)) (Ex4 fun ta tl' ws c => All5 (m (Str.ofString "text") = some (.ref ta)) ((ta, listOf ws.toArray c) ∈ tl') (IntsAre ws (textP (turnP rs (textsP rs i) j) (parts.take q))) ((∀ p ∈ tl', @Ne Nat p.1 IT ∧ @Ne Nat p.1 (L + 1) ∧ @Ne Nat p.1 dA ∧ @Ne Nat p.1 I ∧ @Ne Nat p.1 J)) (nw = (J, riObj ((j + 1 : Nat) : Int) (((5 : Nat) : Int) - ((j + 1 : Nat) : Int))) :: (dA, od) :: (L + 1, oc') :: (I, riObj ((i + 1 : Nat) : Int) (((5 : Nat) : Int) - ((i + 1 : Nat) : Int))) :: (tl' ++ (tl ++ fz))))) (nw₀ := (J, riObj ((j + 1 : Nat) : Int) (((5 : Nat) : Int) - ((j + 1 : Nat) : Int))) :: (dA, od) :: (L + 1, oc') :: (I, riObj ((i + 1 : Nat) : Int) (((5 : Nat) : Int) - ((i + 1 : Nat) : Int))) :: ([(_, listOf #[] 0)] ++ (tl ++ fz))) rfl ?_ F₁₅ (fun p hp => N₁₅ p (by
                  exact sub_at re32 hp)) ⟨rfl, by (repeat (first | with_reducible assumption | refine Eq.trans (if_pos rfl) ?_; exact rfl | refine Eq.trans (if_neg (by decide)) ?_)), by (repeat (first | with_reducible assumption | refine Eq.trans (if_pos rfl) ?_; exact rfl | refine Eq.trans (if_neg (by decide)) ?_)), _, [(_, listOf #[] 0)], [], 0, rfl, .head _, .nil, ?_, rfl⟩ (Nat.zero_le _) ?_ ?_
            · rintro q g₃ m nw ⟨rfl, _, _, ta, tl', ws, c, _, _, _, hof, rfl⟩
              refine ⟨⟨pk, .tail _ (.tail _ (.tail _ (.tail _ (List.mem_append_right _ (List.mem_append_right _ hpm)))))⟩, fun p hp => ?_⟩
              simp only [List.mem_cons] at hp
              rcases hp with rfl | rfl | rfl | rfl | hp
              · exact Nat.ne_of_lt q1
              · exact Nat.ne_of_lt q2
              · exact Nat.ne_of_lt q3
              · exact Nat.ne_of_lt q4
              · rcases List.mem_append.mp hp with hp | hp
                · exact (hof p hp).1
                · exact Nat.ne_of_lt (q5 p hp)
            · intro p hp
              rw [List.mem_singleton.mp hp]
              exact ⟨Nat.ne_of_lt q6, by omega, by omega, by omega, by omega⟩
            · clear F₁₄ N₁₄ F₁₅ N₁₅ lIT o1 q6
              (try clear N₁₃)
              rintro q g₃ m' nw h₁₆ tk₁₆ v hJ9 hv Fq Nq hneq Q3 hQ3
              (first | ((first | with_reducible refine Exists.elim hJ9 ?_ | with_reducible refine conj_elim hJ9 ?_); (try clear hJ9); rintro (rfl) tmp; (first | ((first | with_reducible refine Exists.elim tmp ?_ | with_reducible refine conj_elim tmp ?_); (try clear tmp); rintro (hn1) tmp; (first | ((first | with_reducible refine Exists.elim tmp ?_ | with_reducible refine conj_elim tmp ?_); (try clear tmp); rintro (hn2) tmp; (first | ((first | with_reducible refine Exists.elim tmp ?_ | with_reducible refine conj_elim tmp ?_); (try clear tmp); rintro (ta) tmp; (first | ((first | with_reducible refine Exists.elim tmp ?_ | with_reducible refine conj_elim tmp ?_); (try clear tmp); rintro (tl') tmp; (first | ((first | with_reducible refine Exists.elim tmp ?_ | with_reducible refine conj_elim tmp ?_); (try clear tmp); rintro (ws) tmp; (first | ((first | with_reducible refine Exists.elim tmp ?_ | with_reducible refine conj_elim tmp ?_); (try clear tmp); rintro (c) tmp; (first | ((first | with_reducible refine Exists.elim tmp ?_ | with_reducible refine conj_elim tmp ?_); (try clear tmp); rintro (hn3) tmp; (first | ((first | with_reducible refine Exists.elim tmp ?_ | with_reducible refine conj_elim tmp ?_); (try clear tmp); rintro (hta) tmp; (first | ((first | with_reducible refine Exists.elim tmp ?_ | with_reducible refine conj_elim tmp ?_); (try clear tmp); rintro (hws) tmp; (first | ((first | with_reducible refine Exists.elim tmp ?_ | with_reducible refine conj_elim tmp ?_); (try clear tmp); rintro (hof) (rfl)) | obtain ⟨hof, rfl⟩ := tmp)) | obtain ⟨hws, hof, rfl⟩ := tmp)) | obtain ⟨hta, hws, hof, rfl⟩ := tmp)) | obtain ⟨hn3, hta, hws, hof, rfl⟩ := tmp)) | obtain ⟨c, hn3, hta, hws, hof, rfl⟩ := tmp)) | obtain ⟨ws, c, hn3, hta, hws, hof, rfl⟩ := tmp)) | obtain ⟨tl', ws, c, hn3, hta, hws, hof, rfl⟩ := tmp)) | obtain ⟨ta, tl', ws, c, hn3, hta, hws, hof, rfl⟩ := tmp)) | obtain ⟨hn2, ta, tl', ws, c, hn3, hta, hws, hof, rfl⟩ := tmp)) | obtain ⟨hn1, hn2, ta, tl', ws, c, hn3, hta, hws, hof, rfl⟩ := tmp)) | obtain ⟨rfl, hn1, hn2, ta, tl', ws, c, hn3, hta, hws, hof, rfl⟩ := hJ9)
              (first | ((first | refine Exists.elim (ints_get hpi (by simpa using hv)) ?_ | refine conj_elim (ints_get hpi (by simpa using hv)) ?_); rintro (pn) tmp; (first | ((first | with_reducible refine Exists.elim tmp ?_ | with_reducible refine conj_elim tmp ?_); (try clear tmp); rintro (pt) tmp; (first | ((first | with_reducible refine Exists.elim tmp ?_ | with_reducible refine conj_elim tmp ?_); (try clear tmp); rintro (rfl) (hpn)) | obtain ⟨rfl, hpn⟩ := tmp)) | obtain ⟨pt, rfl, hpn⟩ := tmp)) | obtain ⟨pn, pt, rfl, hpn⟩ := ints_get hpi (by simpa using hv))
              have htk : parts.take (q + 1) = parts.take q ++ [pn] := by rw [List.take_add_one, hpn]; rfl
              have htxt : textP (turnP rs (textsP rs i) j) (parts.take (q + 1)) = textP (turnP rs (textsP rs i) j) (parts.take q) ++ (if 0 ≤ pn then [pn] else lookP (turnP rs (textsP rs i) j) (-1 - pn)) := by
                rw [htk]; simp [textP]
              have hwl : ws.length ≤ 1000 := by
                have h1 := hws.length
                have h2 := textP_len (σ := turnP rs (textsP rs i) j) (B := 243) (by decide) hB (parts.take q)
                have h4 : (parts.take q).length ≤ 3 := by have := hpi.length; rw [List.length_take]; omega
                have h5 : (parts.take q).length * 243 ≤ 3 * 243 := Nat.mul_le_mul_right _ h4
                omega
              (repeat' (fail_if_success with_reducible first | refine zzW ?_ | refine zzF ?_ | refine zzC ?_ | refine zzL ?_ | refine zzD ?_); first | k_unfold; try dsimp only | walk1 | dsimp only; walk1 | leave1; try dsimp only)
              · rename (0 ≤ pn) => hge
                rename Fr _ _ _ _ => F₁₇
                rename News _ _ _ _ => N₁₇
                refine add_at (vs := ws) (ws := [Value.int pn pt]) F₁₇ N₁₇ (.tail _ (.tail _ (.tail _ (.tail _ (.tail _ (.tail _ (List.mem_append_left _ hta))))))) (.head _) (by simp; omega) ?_
                intro a2 h₁₈ F₁₈ N₁₈ l2
                clear F₁₇ N₁₇
                (repeat' (fail_if_success with_reducible first | refine zzW ?_ | refine zzF ?_ | refine zzC ?_ | refine zzL ?_ | refine zzD ?_); first | k_unfold; try dsimp only | walk1 | dsimp only; walk1 | leave1; try dsimp only)
                rename Fr _ _ _ _ => Fz
                rename News _ _ _ _ => Nz
                refine hQ3 _ _ ?_
                refine ⟨_, _, _, _, (J, riObj ((j + 1 : Nat) : Int) (((5 : Nat) : Int) - ((j + 1 : Nat) : Int))) :: (dA, od) :: (L + 1, oc') :: (I, riObj ((i + 1 : Nat) : Int) (((5 : Nat) : Int) - ((i + 1 : Nat) : Int))) :: (((a2, listOf (ws ++ [Value.int pn pt]).toArray 0) :: tl') ++ (tl ++ fz)), rfl, Fz, fun p hp => Nz p (by
                  exact sub_at re33 hp), rfl, by (repeat (first | with_reducible assumption | refine Eq.trans (if_pos rfl) ?_; exact rfl | refine Eq.trans (if_neg (by decide)) ?_)), by (repeat (first | with_reducible assumption | refine Eq.trans (if_pos rfl) ?_; exact rfl | refine Eq.trans (if_neg (by decide)) ?_)), a2, (a2, listOf (ws ++ [Value.int pn pt]).toArray 0) :: tl', (ws ++ [Value.int pn pt]), 0, rfl, .head _, ?_, List.forall_mem_cons.mpr ⟨⟨Nat.ne_of_gt (l2 _ (.tail _ (.head _))), Nat.ne_of_gt (l2 _ (.tail _ (.tail _ (.tail _ (.tail _ (.head _)))))), Nat.ne_of_gt (l2 _ (.tail _ (.tail _ (.tail _ (.head _))))), Nat.ne_of_gt (l2 _ (.tail _ (.tail _ (.tail _ (.tail _ (.tail _ (.head _))))))), Nat.ne_of_gt (l2 _ (.tail _ (.tail _ (.head _))))⟩, hof⟩, rfl⟩
                rw [htxt, if_pos hge]
                exact ints_snoc hws
              · rename ¬ (0 ≤ pn) => hge
                rename Fr _ _ _ _ => F₁₇
                rename News _ _ _ _ => N₁₇
                have hkin : (-1 - pn) ∈ keysP (turnP rs (textsP rs i) j) := by
                  by_cases hc : (-1 - pn) ∈ keysP (turnP rs (textsP rs i) j)
                  · exact hc
                  · have : pn ∈ lackP (turnP rs (textsP rs i) j) parts := by
                      unfold lackP
                      rw [List.mem_filter]
                      exact ⟨List.mem_of_getElem? hpn, by simp [hc]; omega⟩
                    rw [hlk] at this
                    cases this
                (first | ((first | refine Exists.elim (htx.get hkin) ?_ | refine conj_elim (htx.get hkin) ?_); rintro (b2) tmp; (first | ((first | with_reducible refine Exists.elim tmp ?_ | with_reducible refine conj_elim tmp ?_); (try clear tmp); rintro (ws2) tmp; (first | ((first | with_reducible refine Exists.elim tmp ?_ | with_reducible refine conj_elim tmp ?_); (try clear tmp); rintro (c2) tmp; (first | ((first | with_reducible refine Exists.elim tmp ?_ | with_reducible refine conj_elim tmp ?_); (try clear tmp); rintro (hb1) tmp; (first | ((first | with_reducible refine Exists.elim tmp ?_ | with_reducible refine conj_elim tmp ?_); (try clear tmp); rintro (hb2) (hb3)) | obtain ⟨hb2, hb3⟩ := tmp)) | obtain ⟨hb1, hb2, hb3⟩ := tmp)) | obtain ⟨c2, hb1, hb2, hb3⟩ := tmp)) | obtain ⟨ws2, c2, hb1, hb2, hb3⟩ := tmp)) | obtain ⟨b2, ws2, c2, hb1, hb2, hb3⟩ := htx.get hkin)
                refine kda_item (knd := PySem.intKind P w) N₁₇ (.tail _ (.tail _ (.head _))) hod (intKind_is _ _ _ _) hb1 ?_
                refine add_at (vs := ws) (ws := ws2) F₁₇ N₁₇ (.tail _ (.tail _ (.tail _ (.tail _ (.tail _ (List.mem_append_left _ hta)))))) (.tail _ (.tail _ (.tail _ (.tail _ (.tail _ (List.mem_append_right _ hb2)))))) (by have h1 := hb3.length; have h2 := lookP_len hB (-1 - pn); omega) ?_
                intro a2 h₁₈ F₁₈ N₁₈ l2
                clear F₁₇ N₁₇
                (repeat' (fail_if_success with_reducible first | refine zzW ?_ | refine zzF ?_ | refine zzC ?_ | refine zzL ?_ | refine zzD ?_); first | k_unfold; try dsimp only | walk1 | dsimp only; walk1 | leave1; try dsimp only)
                rename Fr _ _ _ _ => Fz
                rename News _ _ _ _ => Nz
                refine hQ3 _ _ ?_
                refine ⟨_, _, _, _, (J, riObj ((j + 1 : Nat) : Int) (((5 : Nat) : Int) - ((j + 1 : Nat) : Int))) :: (dA, od) :: (L + 1, oc') :: (I, riObj ((i + 1 : Nat) : Int) (((5 : Nat) : Int) - ((i + 1 : Nat) : Int))) :: (((a2, listOf (ws ++ ws2).toArray 0) :: tl') ++ (tl ++ fz)), rfl, Fz, fun p hp => Nz p (by
                  exact sub_at re34 hp), rfl, by (repeat (first | with_reducible assumption | refine Eq.trans (if_pos rfl) ?_; exact rfl | refine Eq.trans (if_neg (by decide)) ?_)), by (repeat (first | with_reducible assumption | refine Eq.trans (if_pos rfl) ?_; exact rfl | refine Eq.trans (if_neg (by decide)) ?_)), a2, (a2, listOf (ws ++ ws2).toArray 0) :: tl', (ws ++ ws2), 0, rfl, .head _, ?_, List.forall_mem_cons.mpr ⟨⟨Nat.ne_of_gt (l2 _ (.head _)), Nat.ne_of_gt (l2 _ (.tail _ (.tail _ (.tail _ (.head _))))), Nat.ne_of_gt (l2 _ (.tail _ (.tail _ (.head _)))), Nat.ne_of_gt (l2 _ (.tail _ (.tail _ (.tail _ (.tail _ (.head _)))))), Nat.ne_of_gt (l2 _ (.tail _ (.head _)))⟩, hof⟩, rfl⟩
                rw [htxt, if_neg hge]
                exact hws.append hb3
            · clear F₁₄ N₁₄ F₁₅ N₁₅ lIT o1 q6
              (try clear N₁₃)
              rintro g₃ m' nw h₁₆ tk₁₆ ⟨rfl, hn1, hn2, ta, tl', ws, c, hn3, hta, hws, hof, rfl⟩ Fq Nq
              rw [hpl, List.take_length] at hws
              have hstore : stored kvs (j : Int) (Value.ref ta) = kvs ++ [((j : Int), Value.ref ta)] := by
                refine stored_none ?_
                have := htx.isSome (j : Int)
                rw [decide_eq_false hin] at this
                simpa using this
              have hkl : kvs.length ≤ 5 := by
                have h1 := congrArg List.length htx.keys
                have h2 := ((BInv.texts h3 i).turn h3 (n := j) (by omega)).small
                simp [keysP] at h1
                omega
              (repeat' (fail_if_success with_reducible first | refine zzW ?_ | refine zzF ?_ | refine zzC ?_ | refine zzL ?_ | refine zzD ?_); first | k_unfold; try dsimp only | walk1 | dsimp only; walk1 | leave1; try dsimp only)
              rename Fr _ _ _ _ => F₁₇
              rename News _ _ _ _ => N₁₇
              refine kda_set (knd := PySem.intKind P w) F₁₇ N₁₇ (UpdF.tail (Nat.ne_of_gt (Nat.lt_trans lI1 lJI)) (UpdF.head (List.forall_mem_cons.mpr ⟨Nat.ne_of_lt lD1, List.forall_mem_cons.mpr ⟨Nat.ne_of_gt lI1, fun p hp => ?_⟩⟩))) hod (intKind_is _ _ _ _) (by rw [sizeLine_eq]; omega) ?_
              · rcases List.mem_append.mp hp with hp | hp
                · exact (hof p hp).2.2.1
                · rcases List.mem_append.mp hp with hp | hp
                  · exact (hoff p hp).2.1
                  · exact Nat.ne_of_lt (lD2 p hp)
              intro h₁₈ od' F₁₈ N₁₈ hod'
              clear F₁₇ N₁₇
              rw [hstore] at hod'
              (repeat' (fail_if_success with_reducible first | refine zzW ?_ | refine zzF ?_ | refine zzC ?_ | refine zzL ?_ | refine zzD ?_); first | k_unfold; try dsimp only | walk1 | dsimp only; walk1 | leave1; try dsimp only)
              rename Fr _ _ _ _ => Fz
              rename News _ _ _ _ => Nz
              have hstep : turnP rs (textsP rs i) (j + 1) = turnP rs (textsP rs i) j ++ [((j : Int), textP (turnP rs (textsP rs i) j) parts)] := by
                rw [hturn]; unfold stepP; rw [hrd, if_pos ⟨hin, hlk⟩]
              refine hQ2 _ _ ?_
              refine ⟨_, _, _, _, (dA, od') :: (L + 1, oc') :: (I, riObj ((i + 1 : Nat) : Int) (((5 : Nat) : Int) - ((i + 1 : Nat) : Int))) :: ((tl' ++ tl) ++ fz), rfl, Fz, fun p hp => Nz p (by
                exact sub_at re35 hp), rfl, by (repeat (first | with_reducible assumption | refine Eq.trans (if_pos rfl) ?_; exact rfl | refine Eq.trans (if_neg (by decide)) ?_)), kvs ++ [((j : Int), Value.ref ta)], od', tl' ++ tl, hod', ?_, ?_, rfl⟩
              · rw [hstep]
                refine TextsIn.snoc (htx.mono fun p hp => ?_) (List.mem_append_left _ (List.mem_append_left _ hta)) hws
                rcases List.mem_append.mp hp with hp | hp
                · exact List.mem_append_left _ (List.mem_append_right _ hp)
                · exact List.mem_append_right _ hp
              · intro p hp
                rcases List.mem_append.mp hp with hp | hp
                · exact ⟨(hof p hp).2.1, (hof p hp).2.2.1, (hof p hp).2.2.2.1, (hof p hp).2.2.2.2⟩
                · exact hoff p hp
    · clear F₉ N₁₀ hoffJ hoff htx hod hm1
      rintro g'' m nw h tk ⟨rfl, hm1, kvs, od, tl, hod, htx, hoff, rfl⟩ Fj Nj
      have e : textsP rs (i + 1) = turnP rs (textsP rs i) 5 := by unfold textsP; rw [List.range_succ, List.foldl_append]; rfl
      (repeat' (fail_if_success with_reducible first | refine zzW ?_ | refine zzF ?_ | refine zzC ?_ | refine zzL ?_ | refine zzD ?_); first | k_unfold; try dsimp only | walk1 | dsimp only; walk1 | leave1; try dsimp only)
      refine hQ1 _ _ ?_
      refine ⟨_, _, _, _, (dA, od) :: (L + 1, oc') :: (tl ++ fz), rfl, Fj, fun p hp => Nj p (by
        exact sub_at re36 hp), rfl, hm1, kvs, od, tl, hod, e ▸ htx, fun p hp => ⟨(hoff p hp).1, (hoff p hp).2.1, (hoff p hp).2.2.1⟩, rfl⟩
  · rintro g' m nw h tk ⟨rfl, hm1, kvs, od, tl, hod, htx, hoff, rfl⟩ Fi Ni
    clear F₆ N₆
    (repeat' (fail_if_success with_reducible first | refine zzW ?_ | refine zzF ?_ | refine zzC ?_ | refine zzL ?_ | refine zzD ?_); first | k_unfold; try dsimp only | walk1 | dsimp only; walk1 | leave1; try dsimp only)
    dsimp only
    refine ret dA od kvs tl _ _ hod htx loD (fun p hp => ?_) (done_of Fi Ni fun p hp => ?_)
    · rcases List.mem_append.mp hp with hp | hp
      · exact (hoff p hp).2.1
      · exact Nat.ne_of_lt (lD2 p hp)
    · rcases List.mem_cons.mp hp with rfl | hp
      · exact .head _
      · exact .tail _ (.tail _ hp)
-- Ad
/-- the plain view of a node: key, count, successors -/
noncomputable def Nd.pl (x : Nd) : Int × Int × List Int := (x.k, x.np, x.sl)
noncomputable abbrev PlSt := List (Int × Int × List Int)
noncomputable def plGet (st : PlSt) (k : Int) : PlSt := if k ∈ st.map (·.1) then st else st ++ [(k, 0, [])]
noncomputable def plPut (st : PlSt) (k : Int) (f : Int × Int × List Int → Int × Int × List Int) : PlSt := st.map fun x => if x.1 = k then f x else x
noncomputable def plSucc (k : Int) (st : PlSt) (p : Int) : PlSt := plPut (plGet st p) p fun x => (x.1, x.2.1, x.2.2 ++ [k])
noncomputable def plAdd (st : PlSt) (k : Int) (ps : List Int) : PlSt := ps.foldl (plSucc k) (plPut (plGet st k) k fun x => (x.1, x.2.1 + (ps.length : Int), x.2.2))
theorem plPut_split {pre post : List Nd} {x y : Nd} {f : Int × Int × List Int → Int × Int × List Int} (hn : ((pre ++ x :: post).map (·.k)).Nodup) (hy : y.pl = f x.pl) : (pre ++ y :: post).map Nd.pl = plPut ((pre ++ x :: post).map Nd.pl) x.k f := by
  rw [List.map_append, List.map_cons] at hn
  (first | ((first | refine Exists.elim (List.nodup_append.mp hn) ?_ | refine conj_elim (List.nodup_append.mp hn) ?_); rintro (_) tmp; (first | ((first | with_reducible refine Exists.elim tmp ?_ | with_reducible refine conj_elim tmp ?_); (try clear tmp); rintro (h2) (h3)) | obtain ⟨h2, h3⟩ := tmp)) | obtain ⟨_, h2, h3⟩ := List.nodup_append.mp hn)
  (first | ((first | refine Exists.elim (List.nodup_cons.mp h2) ?_ | refine conj_elim (List.nodup_cons.mp h2) ?_); rintro (h4) (_)) | obtain ⟨h4, _⟩ := List.nodup_cons.mp h2)
  have e1 : plPut (pre.map Nd.pl) x.k f = pre.map Nd.pl := by
    unfold plPut
    rw [List.map_map]
    refine List.map_congr_left fun z hz => ?_
    have : z.k ≠ x.k := fun e => h3 z.k (List.mem_map_of_mem hz) x.k (.head _) e
    simp [Nd.pl, this]
  have e2 : plPut (post.map Nd.pl) x.k f = post.map Nd.pl := by
    unfold plPut
    rw [List.map_map]
    refine List.map_congr_left fun z hz => ?_
    have : z.k ≠ x.k := fun e => h4 (e ▸ List.mem_map_of_mem hz)
    simp [Nd.pl, this]
  have e3 : plPut ((pre ++ x :: post).map Nd.pl) x.k f = plPut (pre.map Nd.pl) x.k f ++ f x.pl :: plPut (post.map Nd.pl) x.k f := by
    simp [plPut, Nd.pl]
  rw [e3, e1, e2, ← hy]
  simp
theorem plGet_of {l l' : List Nd} {x : Nd} (hx : x ∈ l') (h : l' = l ∨ (x.k ∉ l.map (·.k) ∧ l' = l ++ [x] ∧ x.np = 0 ∧ x.sl = [])) : l'.map Nd.pl = plGet (l.map Nd.pl) x.k := by
  have e : (l.map Nd.pl).map (·.1) = l.map (·.k) := by simp [Nd.pl]
  unfold plGet
  rw [e]
  rcases h with rfl | ⟨h1, rfl, h2, h3⟩
  · rw [if_pos (List.mem_map_of_mem hx)]
  · rw [if_neg h1]; simp [Nd.pl, h2, h3]
set_option maxHeartbeats 8000000 in
theorem add_spec {w : World} {mean : ExcName → Option Value} {mg mb : Str → Option Value} {base g : Heap} {outer : List Env} {s : Shared} {dp un : Nat} {gd : Option (List Code)} {R : Result → Shared → Prop}
    {rest : List (Addr × Obj)} {l : List Nd} {pA dA nA : Addr} {on : Obj} {t1 t2 t3 t4 ta tb : Tok} {a b : Int} {k : Int} {tk0 : Tok} {vs : List Value} {ps : List Int}
    (S : Sit w mean mg mb base outer g s.heap ((nA, on) :: (pA, instObj 153 dA) :: (dA, planD w t1 t2 t3 t4 nA .none a ta b tb) :: (ndLed l ++ rest)))
    (ok : NdOk w l on (nA :: pA :: dA :: rest.map (·.1))) (lo : (nA == sysModules) = false) (hlen : l.length ≤ 90) (hsl : ∀ x ∈ l, x.sl.length ≤ 1000)
    (hvs : vs.length ≤ 4) (hps : IntsAre vs ps) (hd : dp + 35 < recursionLimit) (hu : un + 350 < cLine)
    (ret : ∀ l' on' h' tk', NdOk w l' on' (nA :: pA :: dA :: rest.map (·.1)) → l'.map Nd.pl = plAdd (l.map Nd.pl) k ps → Done g h' ((nA, on') :: (pA, instObj 153 dA) :: (dA, planD w t1 t2 t3 t4 nA .none a ta b tb) :: (ndLed l' ++ rest)) → R (.ok (.ret .none)) { s with heap := h', toks := tk' }) :
    codeAny (model P w) (arnd dp un gd outer) (.call (.ref 103) ⟨.ref pA :: .int k tk0 :: vs, []⟩) R s := by
  refine S.enterR (binds := fun D => [(Str.ofString "self", .ref pA), (Str.ofString "node", .int k tk0), (Str.ofString "predecessors", .ref D)]) (ob := { cls := .type "tuple", data := .seq vs.toArray }) (by k_is) (by k_is) (by omega) (by rcases vs with _ | ⟨v1, _ | ⟨v2, _ | ⟨v3, _ | ⟨v4, _ | ⟨v5, vs⟩⟩⟩⟩⟩ <;> first | rfl | (simp at hvs)) (g₁ := fun D => some [(Str.ofString "self", .ref pA), (Str.ofString "node", .int k tk0), (Str.ofString "predecessors", .ref D)]) (fun _ => rfl) rfl (fun _ => locs rfl) ?_ rfl rfl rfl (by decide)
  intro T L h₁ F N tlt B X TG KD XB TB
  have okT : NdOk w l on (nA :: pA :: dA :: ((T, { cls := .type "tuple", data := .seq vs.toArray }) :: rest : List (Addr × Obj)).map (·.1)) := ok.push3 (Nat.ne_of_lt (tlt _ (.head _))) (Nat.ne_of_lt (tlt _ (.tail _ (.head _)))) (Nat.ne_of_lt (tlt _ (.tail _ (.tail _ (.head _))))) (fun y hy => by
    (first | ((first | refine Exists.elim (List.mem_map.mp hy) ?_ | refine conj_elim (List.mem_map.mp hy) ?_); rintro (p) tmp; (first | ((first | with_reducible refine Exists.elim tmp ?_ | with_reducible refine conj_elim tmp ?_); (try clear tmp); rintro (hp) (rfl)) | obtain ⟨hp, rfl⟩ := tmp)) | obtain ⟨p, hp, rfl⟩ := List.mem_map.mp hy)
    exact Nat.ne_of_lt (tlt _ (.tail _ (.tail _ (.tail _ (List.mem_append_right _ hp)))))) (fun p hp => Nat.ne_of_lt (tlt _ (.tail _ (.tail _ (.tail _ (List.mem_append_left _ hp))))))
  have N₀ : News g L h₁ ((nA, on) :: (pA, instObj 153 dA) :: (dA, planD w t1 t2 t3 t4 nA .none a ta b tb) :: (ndLed l ++ ((T, { cls := .type "tuple", data := .seq vs.toArray }) :: rest))) := fun p hp => N p (by
    exact sub_at re0 hp)
  clear N
  have done_ : ∀ l' on' h' tk', NdOk w l' on' (nA :: pA :: dA :: ((T, { cls := .type "tuple", data := .seq vs.toArray }) :: rest : List (Addr × Obj)).map (·.1)) → l'.map Nd.pl = plAdd (l.map Nd.pl) k ps → Done g h' ((nA, on') :: (pA, instObj 153 dA) :: (dA, planD w t1 t2 t3 t4 nA .none a ta b tb) :: (ndLed l' ++ ((T, { cls := .type "tuple", data := .seq vs.toArray }) :: rest))) → R (.ok (.ret .none)) { s with heap := h', toks := tk' } := fun l' on' h' tk' ok' hp Dn => ret l' on' h' tk' ok'.pop3 hp ⟨Dn.1, fun p hp => Dn.2 p (by
    exact sub_at re1 hp)⟩
  clear ret ok S tlt
  generalize hrest : ((T, { cls := .type "tuple", data := .seq vs.toArray }) :: rest : List (Addr × Obj)) = rest' at *
  have hTm : (T, { cls := .type "tuple", data := .seq vs.toArray }) ∈ rest' := hrest ▸ .head _
  clear hrest
  (repeat' (fail_if_success with_reducible first | refine zzW ?_ | refine zzF ?_ | refine zzC ?_ | refine zzL ?_ | refine zzD ?_); first | k_unfold; try dsimp only | walk1 | dsimp only; walk1 | leave1; try dsimp only)
  rename Fr _ _ _ _ => F₂
  rename News _ _ _ _ => N₂
  refine call_use B F₂ N₂ XB TB KD ((nA, on) :: (pA, instObj 153 dA) :: (dA, planD w t1 t2 t3 t4 nA .none a ta b tb) :: (ndLed l ++ rest')) [] (fun p hp => hp) (by k_allIn) (by simp) ?_
  intro gg SS back _ _
  refine getnode_at SS okT lo (by omega) (by dsimp only [arnd]; omega) (by dsimp only [arnd]; omega) ?_
  intro l' on' x h' tk' hx hxk hl' ok' Dn
  (first | ((first | refine Exists.elim (back _ _ Dn) ?_ | refine conj_elim (back _ _ Dn) ?_); rintro (F₃) tmp; (first | ((first | with_reducible refine Exists.elim tmp ?_ | with_reducible refine conj_elim tmp ?_); (try clear tmp); rintro (N₃) (dj)) | obtain ⟨N₃, dj⟩ := tmp)) | obtain ⟨F₃, N₃, dj⟩ := back _ _ Dn)
  clear N₂ F₂ dj back SS Dn
  rw [List.append_nil] at N₃
  subst hxk
  have pv' := plGet_of hx hl'
  have hsl' : (∀ y ∈ l', y.sl.length ≤ 1000) ∧ l'.length ≤ 91 := by
    rcases hl' with rfl | ⟨_, rfl, _, h0⟩
    · exact ⟨hsl, by omega⟩
    · refine ⟨fun y hy => ?_, by simp; omega⟩
      rcases List.mem_append.mp hy with hy | hy
      · exact hsl y hy
      · rw [List.mem_singleton.mp hy, h0]; simp
  clear hl'
  (first | ((first | refine Exists.elim (nd_split hx) ?_ | refine conj_elim (nd_split hx) ?_); rintro (pre) tmp; (first | ((first | with_reducible refine Exists.elim tmp ?_ | with_reducible refine conj_elim tmp ?_); (try clear tmp); rintro (post) (rfl)) | obtain ⟨post, rfl⟩ := tmp)) | obtain ⟨pre, post, rfl⟩ := nd_split hx)
  (repeat' (fail_if_success with_reducible first | refine zzW ?_ | refine zzF ?_ | refine zzC ?_ | refine zzL ?_ | refine zzD ?_); first | k_unfold; try dsimp only | walk1 | dsimp only; walk1 | leave1; try dsimp only)
  rename Fr _ _ _ _ => F₄
  rename News _ _ _ _ => N₄
  refine nd_get_np F₄ X N₄ (fun p hp => nd_mem (hd := [_, _, _]) hx hp) ?_
  (repeat' (fail_if_success with_reducible first | refine zzW ?_ | refine zzF ?_ | refine zzC ?_ | refine zzL ?_ | refine zzD ?_); first | k_unfold; try dsimp only | walk1 | dsimp only; walk1 | leave1; try dsimp only)
  refine len_tuple (items := vs.toArray) ⟨_, (N₄ _ (.tail _ (.tail _ (.tail _ (List.mem_append_right _ hTm))))).1, rfl, _, rfl⟩ (by simp; omega) ?_
  (repeat' (fail_if_success with_reducible first | refine zzW ?_ | refine zzF ?_ | refine zzC ?_ | refine zzL ?_ | refine zzD ?_); first | k_unfold; try dsimp only | walk1 | dsimp only; walk1 | leave1; try dsimp only)
  dsimp only
  refine nd3_set_np F₄ X N₄ ok' ?_
  intro h₅ F₅ N₅ ok₅
  clear N₄ F₄
  generalize hl5 : (pre ++ _ :: post) = l5 at N₅ ok₅
  have hl5' : l5.length ≤ 91 := by rw [← hl5]; simpa using hsl'.2
  have pv5 : l5.map Nd.pl = plPut (plGet (l.map Nd.pl) x.k) x.k (fun z => (z.1, z.2.1 + (ps.length : Int), z.2.2)) := by
    rw [← hl5, ← pv']
    refine plPut_split ok'.keys ?_
    have := hps.length
    simp [Nd.pl, this]
  have sl5 : ∀ y ∈ l5, y.sl.length ≤ 1000 := by
    rw [← hl5]
    intro y hy
    rcases List.mem_append.mp hy with hy | hy
    · exact hsl'.1 y (List.mem_append_left _ hy)
    · rcases List.mem_cons.mp hy with rfl | hy
      · exact hsl'.1 x hx
      · exact hsl'.1 y (List.mem_append_right _ (.tail _ hy))
  clear pv' hsl' ok' hl5
  (repeat' (fail_if_success with_reducible first | refine zzW ?_ | refine zzF ?_ | refine zzC ?_ | refine zzL ?_ | refine zzD ?_); first | k_unfold; try dsimp only | walk1 | dsimp only; walk1 | leave1; try dsimp only)
  rename Fr _ _ _ _ => F₆
  rename News _ _ _ _ => N₆
  refine For_gen ?_
  (repeat' (fail_if_success with_reducible first | refine zzW ?_ | refine zzF ?_ | refine zzC ?_ | refine zzL ?_ | refine zzD ?_); first | k_unfold; try dsimp only | walk1 | dsimp only; walk1 | leave1; try dsimp only)
  rename Fr _ _ _ _ => F₇
  rename News _ _ _ _ => N₇
  refine piter_tuple F₇ N₇ (.tail _ (.tail _ (.tail _ (List.mem_append_right _ hTm)))) ?_
  intro I h₈ F₈ N₈ lI
  have hrI : ∀ y ∈ rest'.map (·.1), @Ne Nat y I := fun y hy => by
    (first | ((first | refine Exists.elim (List.mem_map.mp hy) ?_ | refine conj_elim (List.mem_map.mp hy) ?_); rintro (p) tmp; (first | ((first | with_reducible refine Exists.elim tmp ?_ | with_reducible refine conj_elim tmp ?_); (try clear tmp); rintro (hp) (rfl)) | obtain ⟨hp, rfl⟩ := tmp)) | obtain ⟨p, hp, rfl⟩ := List.mem_map.mp hy)
    exact Nat.ne_of_lt (lI _ (.tail _ (.tail _ (.tail _ (List.mem_append_right _ hp)))))
  have h1I : @Ne Nat nA I := Nat.ne_of_lt (lI _ (.head _))
  have h2I : @Ne Nat pA I := Nat.ne_of_lt (lI _ (.tail _ (.head _)))
  have h3I : @Ne Nat dA I := Nat.ne_of_lt (lI _ (.tail _ (.tail _ (.head _))))
  (try dsimp only)
  refine turns_tuple (items := vs.toArray) (fun i g' m nw => All4 (g' = g) (m (Str.ofString "self") = some (.ref pA)) (m (Str.ofString "node") = some (.int x.k tk0)) (Ex2 fun li oni => All6 (NdOk w li oni (nA :: pA :: dA :: rest'.map (·.1))) ((∀ p ∈ ndLed li, @Ne Nat p.1 I)) (li.length ≤ 91 + i) ((∀ y ∈ li, y.sl.length ≤ 1000 + i)) (nw = (nA, oni) :: (pA, instObj 153 dA) :: (dA, planD w t1 t2 t3 t4 nA .none a ta b tb) :: (ndLed li ++ rest')) (li.map Nd.pl = (ps.take i).foldl (plSucc x.k) (l5.map Nd.pl)))) rfl ?_ F₈ N₈ ⟨rfl, rfl, rfl, l5, _, ok₅, fun p hp => Nat.ne_of_lt (lI _ (.tail _ (.tail _ (.tail _ (List.mem_append_left _ hp))))), hl5', sl5, rfl, rfl⟩ (Nat.zero_le _) ?_ ?_
  · rintro i g' m nw h ⟨rfl, _, _, li, oni, _, hnI, _, _, rfl, _⟩ _ Nz
    refine ⟨⟨_, (Nz _ (.tail _ (.tail _ (.tail _ (List.mem_append_right _ hTm))))).1, rfl, _, rfl⟩, ?_⟩
    refine List.forall_mem_cons.mpr ⟨h1I, List.forall_mem_cons.mpr ⟨h2I, List.forall_mem_cons.mpr ⟨h3I, fun p hp => ?_⟩⟩⟩
    rcases List.mem_append.mp hp with hp | hp
    · exact hnI p hp
    · exact hrI _ (List.mem_map_of_mem hp)
  · rintro i g' m nw h tk v hJ9 hv Fi Ni hneI Q1 hQ1
    (first | ((first | with_reducible refine Exists.elim hJ9 ?_ | with_reducible refine conj_elim hJ9 ?_); (try clear hJ9); rintro (rfl) tmp; (first | ((first | with_reducible refine Exists.elim tmp ?_ | with_reducible refine conj_elim tmp ?_); (try clear tmp); rintro (hm1) tmp; (first | ((first | with_reducible refine Exists.elim tmp ?_ | with_reducible refine conj_elim tmp ?_); (try clear tmp); rintro (hm2) tmp; (first | ((first | with_reducible refine Exists.elim tmp ?_ | with_reducible refine conj_elim tmp ?_); (try clear tmp); rintro (li) tmp; (first | ((first | with_reducible refine Exists.elim tmp ?_ | with_reducible refine conj_elim tmp ?_); (try clear tmp); rintro (oni) tmp; (first | ((first | with_reducible refine Exists.elim tmp ?_ | with_reducible refine conj_elim tmp ?_); (try clear tmp); rintro (oki) tmp; (first | ((first | with_reducible refine Exists.elim tmp ?_ | with_reducible refine conj_elim tmp ?_); (try clear tmp); rintro (hnI) tmp; (first | ((first | with_reducible refine Exists.elim tmp ?_ | with_reducible refine conj_elim tmp ?_); (try clear tmp); rintro (hli) tmp; (first | ((first | with_reducible refine Exists.elim tmp ?_ | with_reducible refine conj_elim tmp ?_); (try clear tmp); rintro (hsli) tmp; (first | ((first | with_reducible refine Exists.elim tmp ?_ | with_reducible refine conj_elim tmp ?_); (try clear tmp); rintro (rfl) (hpl)) | obtain ⟨rfl, hpl⟩ := tmp)) | obtain ⟨hsli, rfl, hpl⟩ := tmp)) | obtain ⟨hli, hsli, rfl, hpl⟩ := tmp)) | obtain ⟨hnI, hli, hsli, rfl, hpl⟩ := tmp)) | obtain ⟨oki, hnI, hli, hsli, rfl, hpl⟩ := tmp)) | obtain ⟨oni, oki, hnI, hli, hsli, rfl, hpl⟩ := tmp)) | obtain ⟨li, oni, oki, hnI, hli, hsli, rfl, hpl⟩ := tmp)) | obtain ⟨hm2, li, oni, oki, hnI, hli, hsli, rfl, hpl⟩ := tmp)) | obtain ⟨hm1, hm2, li, oni, oki, hnI, hli, hsli, rfl, hpl⟩ := tmp)) | obtain ⟨rfl, hm1, hm2, li, oni, oki, hnI, hli, hsli, rfl, hpl⟩ := hJ9)
    (first | ((first | refine Exists.elim (ints_get hps (by simpa using hv)) ?_ | refine conj_elim (ints_get hps (by simpa using hv)) ?_); rintro (pk) tmp; (first | ((first | with_reducible refine Exists.elim tmp ?_ | with_reducible refine conj_elim tmp ?_); (try clear tmp); rintro (pt) tmp; (first | ((first | with_reducible refine Exists.elim tmp ?_ | with_reducible refine conj_elim tmp ?_); (try clear tmp); rintro (rfl) (hpk)) | obtain ⟨rfl, hpk⟩ := tmp)) | obtain ⟨pt, rfl, hpk⟩ := tmp)) | obtain ⟨pk, pt, rfl, hpk⟩ := ints_get hps (by simpa using hv))
    have hi4 : i < 4 := by
      have : i < vs.length := by
        have := List.getElem?_eq_some_iff.mp (by simpa using hv : vs[i]? = some _)
        exact this.1
      omega
    have okI : NdOk w li oni (nA :: pA :: dA :: ((I, tiObj T (i + 1)) :: rest' : List (Addr × Obj)).map (·.1)) := oki.push3 h1I h2I h3I hrI hnI
    have NI : News g' L h ((nA, oni) :: (pA, instObj 153 dA) :: (dA, planD w t1 t2 t3 t4 nA .none a ta b tb) :: (ndLed li ++ ((I, tiObj T (i + 1)) :: rest'))) := fun p hp => Ni p (by
      exact sub_at re0 hp)
    clear Ni F₇ N₇ F₈ N₈ oki
    (repeat' (fail_if_success with_reducible first | refine zzW ?_ | refine zzF ?_ | refine zzC ?_ | refine zzL ?_ | refine zzD ?_); first | k_unfold; try dsimp only | walk1 | dsimp only; walk1 | leave1; try dsimp only)
    rename Fr _ _ _ _ => F₉
    rename News _ _ _ _ => N₉
    refine call_use B F₉ N₉ XB TB KD ((nA, oni) :: (pA, instObj 153 dA) :: (dA, planD w t1 t2 t3 t4 nA .none a ta b tb) :: (ndLed li ++ ((I, tiObj T (i + 1)) :: rest'))) [] (fun p hp => hp) (by k_allIn) (by simp) ?_
    intro gg SS back _ _
    refine getnode_at SS okI lo (by omega) (by dsimp only [arnd]; omega) (by dsimp only [arnd]; omega) ?_
    intro l' on' y h' tk' hy hyk hl' ok' Dn
    (first | ((first | refine Exists.elim (back _ _ Dn) ?_ | refine conj_elim (back _ _ Dn) ?_); rintro (F') tmp; (first | ((first | with_reducible refine Exists.elim tmp ?_ | with_reducible refine conj_elim tmp ?_); (try clear tmp); rintro (N') (dj)) | obtain ⟨N', dj⟩ := tmp)) | obtain ⟨F', N', dj⟩ := back _ _ Dn)
    clear N₉ F₉ dj back SS Dn
    rw [List.append_nil] at N'
    subst hyk
    have pv' := plGet_of hy hl'
    have hsl' : (∀ z ∈ l', z.sl.length ≤ 1000 + i) ∧ l'.length ≤ 92 + i := by
      rcases hl' with rfl | ⟨_, rfl, _, h0⟩
      · exact ⟨hsli, by omega⟩
      · refine ⟨fun z hz => ?_, by simp; omega⟩
        rcases List.mem_append.mp hz with hz | hz
        · exact hsli z hz
        · rw [List.mem_singleton.mp hz, h0]; simp
    clear hl'
    (first | ((first | refine Exists.elim (nd_split hy) ?_ | refine conj_elim (nd_split hy) ?_); rintro (pre) tmp; (first | ((first | with_reducible refine Exists.elim tmp ?_ | with_reducible refine conj_elim tmp ?_); (try clear tmp); rintro (post) (rfl)) | obtain ⟨post, rfl⟩ := tmp)) | obtain ⟨pre, post, rfl⟩ := nd_split hy)
    (repeat' (fail_if_success with_reducible first | refine zzW ?_ | refine zzF ?_ | refine zzC ?_ | refine zzL ?_ | refine zzD ?_); first | k_unfold; try dsimp only | walk1 | dsimp only; walk1 | leave1; try dsimp only)
    rename Fr _ _ _ _ => F₁₀
    rename News _ _ _ _ => N₁₀
    refine nd_get_succ F₁₀ X N₁₀ (fun p hp => nd_mem (hd := [_, _, _]) hy hp) ?_
    (repeat' (fail_if_success with_reducible first | refine zzW ?_ | refine zzF ?_ | refine zzC ?_ | refine zzL ?_ | refine zzD ?_); first | k_unfold; try dsimp only | walk1 | dsimp only; walk1 | leave1; try dsimp only)
    refine listMethod_K N₁₀ (nd_mem (hd := [_, _, _]) hy (.head _)) PySem.F.slot_list_append PySem.F.type_list_append ?_
    (repeat' (fail_if_success with_reducible first | refine zzW ?_ | refine zzF ?_ | refine zzC ?_ | refine zzL ?_ | refine zzD ?_); first | k_unfold; try dsimp only | walk1 | dsimp only; walk1 | leave1; try dsimp only)
    refine nd3_append F₁₀ N₁₀ ok' (by have := hsl'.1 y hy; omega) ?_
    intro h₁₁ F₁₁ N₁₁ ok₁₁
    clear N₁₀ F₁₀
    generalize hl6 : (pre ++ _ :: post) = l6 at N₁₁ ok₁₁
    have off := NdOk.off ok₁₁
    have pv6 : l6.map Nd.pl = plSucc x.k (li.map Nd.pl) y.k := by
      unfold plSucc
      rw [← hl6, ← pv']
      exact plPut_split ok'.keys rfl
    have sl6 : ∀ z ∈ l6, z.sl.length ≤ 1000 + (i + 1) := by
      rw [← hl6]
      intro z hz
      rcases List.mem_append.mp hz with hz | hz
      · have := hsl'.1 z (List.mem_append_left _ hz); omega
      · rcases List.mem_cons.mp hz with rfl | hz
        · have := hsl'.1 y hy; simp; omega
        · have := hsl'.1 z (List.mem_append_right _ (.tail _ hz)); omega
    have ll6 : l6.length ≤ 91 + (i + 1) := by rw [← hl6]; have := hsl'.2; simp at this ⊢; omega
    clear pv' hsl' ok' hl6
    (repeat' (fail_if_success with_reducible first | refine zzW ?_ | refine zzF ?_ | refine zzC ?_ | refine zzL ?_ | refine zzD ?_); first | k_unfold; try dsimp only | walk1 | dsimp only; walk1 | leave1; try dsimp only)
    rename Fr _ _ _ _ => F₁₂
    rename News _ _ _ _ => N₁₂
    refine hQ1 _ _ ?_
    refine ⟨_, _, _, _, (nA, on') :: (pA, instObj 153 dA) :: (dA, planD w t1 t2 t3 t4 nA .none a ta b tb) :: (ndLed l6 ++ rest'), rfl, F₁₂, fun p hp => N₁₂ p (by
      exact sub_at re2 hp), rfl, ?_, ?_, l6, on', ok₁₁.pop3, off.2.2.2.2, ll6, sl6, rfl, ?_⟩
    · (repeat (first | with_reducible assumption | refine Eq.trans (if_pos rfl) ?_; exact rfl | refine Eq.trans (if_neg (by decide)) ?_))
    · (repeat (first | with_reducible assumption | refine Eq.trans (if_pos rfl) ?_; exact rfl | refine Eq.trans (if_neg (by decide)) ?_))
    · rw [pv6, hpl, List.take_add_one, hpk]
      simp
  · rintro g' m nw h tk ⟨rfl, _, _, li, oni, oki, hnI, _, _, rfl, hpl⟩ Fi Ni
    clear F₇ N₇ F₈ N₈
    (repeat' (fail_if_success with_reducible first | refine zzW ?_ | refine zzF ?_ | refine zzC ?_ | refine zzL ?_ | refine zzD ?_); first | k_unfold; try dsimp only | walk1 | dsimp only; walk1 | leave1; try dsimp only)
    have e : vs.toArray.size = ps.length := by have := hps.length; simp [this]
    rw [e, List.take_length, pv5] at hpl
    exact done_ li oni _ _ oki hpl (done_of Fi Ni (fun p hp => hp))
-- Ia
theorem meets_bool_list (l : Addr) (items : Array Value) (hfit : (items.size : Int) < 2 ^ 63) :
    Meets (Builtin.«bool.__new__» ⟨[.type "bool", .ref l], []⟩) (fun _ R s => s.heap.IsList l items ∧ R (.ok (.ret (.bool (!items.isEmpty)))) { s with toks := s.toks + 1 + 1 }) :=
  Meets.of_wp fun prog w A R s hs => by
    (first | ((first | with_reducible refine Exists.elim s ?_ | with_reducible refine conj_elim s ?_); (try clear s); rintro (hp) tmp; (first | ((first | with_reducible refine Exists.elim tmp ?_ | with_reducible refine conj_elim tmp ?_); (try clear tmp); rintro (g) tmp; (first | ((first | with_reducible refine Exists.elim tmp ?_ | with_reducible refine conj_elim tmp ?_); (try clear tmp); rintro (d) tmp; (first | ((first | with_reducible refine Exists.elim tmp ?_ | with_reducible refine conj_elim tmp ?_); (try clear tmp); rintro (tk) (os)) | obtain ⟨tk, os⟩ := tmp)) | obtain ⟨d, tk, os⟩ := tmp)) | obtain ⟨g, d, tk, os⟩ := tmp)) | obtain ⟨hp, g, d, tk, os⟩ := s)
    (first | ((first | with_reducible refine Exists.elim hs ?_ | with_reducible refine conj_elim hs ?_); (try clear hs); rintro (hl) (hs)) | obtain ⟨hl, hs⟩ := hs)
    have f1 := PySem.F.conv_sub_bool
    repeat (any_goals (first | assumption | (with_reducible refine wpAny_truthy_list hl hfit ?_) | wp_step))
    all_goals first | exact ⟨_, rfl, hs⟩ | exact hs | skip
theorem call_bool_list {prog : Program} {w : World} {A : Around} {E : Value → Shared → Prop} {s : Shared} {l : Addr} {items : Array Value} {Q : Value → Shared → Prop} (hl : s.heap.IsList l items) (hfit : (items.size : Int) < 2 ^ 63) (h : Q (.bool (!items.isEmpty)) { s with toks := s.toks + 1 + 1 }) :
    wpAny (model prog w) A (call (.type "bool") [.ref l]) Q E s :=
  call_bool_1 (meets_bool_list l items hfit) (show _ ∧ wants (fun obj s₁ => s₁.TypeIs obj "bool" ∧ Q obj s₁) E _ _ from ⟨hl, rfl, h⟩)
set_option maxHeartbeats 8000000 in
theorem active_spec {w : World} {mean : ExcName → Option Value} {mg mb : Str → Option Value} {base g : Heap} {outer : List Env} {s : Shared} {dp un : Nat} {gd : Option (List Code)} {R : Result → Shared → Prop}
    {rest : List (Addr × Obj)} {pA dA nA rA : Addr} {rvs : List Value} {rc : Nat} {t1 t2 t3 t4 ta tb : Tok} {a b : Int}
    (S : Sit w mean mg mb base outer g s.heap ((rA, listOf rvs.toArray rc) :: (pA, instObj 153 dA) :: (dA, planD w t1 t2 t3 t4 nA (.ref rA) a ta b tb) :: rest))
    (hrl : rvs.length ≤ 10000) (hd : dp + 15 < recursionLimit) (hu : un + 150 < cLine)
    (ret : ∀ h' tk', Done g h' ((rA, listOf rvs.toArray rc) :: (pA, instObj 153 dA) :: (dA, planD w t1 t2 t3 t4 nA (.ref rA) a ta b tb) :: rest) → R (.ok (.ret (.bool (decide (b < a) || !rvs.isEmpty)))) { s with heap := h', toks := tk' }) :
    codeAny (model P w) (arnd dp un gd outer) (.call (.ref 122) ⟨[.ref pA], []⟩) R s := by
  refine S.enter (binds := [(Str.ofString "self", .ref pA)]) (by k_is) (by k_is) (by omega) (BindsTo.of_eq rfl) (locs rfl) ?_ rfl rfl rfl (by decide)
  intro L h₁ F N B X T KD XB TB hlt
  (repeat' (fail_if_success with_reducible first | refine zzW ?_ | refine zzF ?_ | refine zzC ?_ | refine zzL ?_ | refine zzD ?_); first | k_unfold; try dsimp only | walk1 | dsimp only; walk1 | leave1; try dsimp only)
  · dsimp only
    rename (b < a) => hba
    rw [decide_eq_true hba]
    rw [decide_eq_true hba, Bool.true_or] at ret
    exact ret _ _ (done_of F N (fun p hp => hp))
  · rename ¬ (b < a) => hba
    refine call_bool_list (items := rvs.toArray) ⟨_, (N _ (.head _)).1, rfl, _, rfl⟩ (by simp only [List.size_toArray]; omega) ?_
    dsimp only
    rw [decide_eq_false hba, Bool.false_or] at ret
    have e : rvs.toArray.isEmpty = rvs.isEmpty := by simp
    rw [e]
    exact ret _ _ (done_of F N (fun p hp => hp))
-- Nx4
theorem nd_find {l : List Nd} {k : Int} (h : k ∈ l.map (·.k)) : ∃ x, x ∈ l ∧ x.k = k ∧ valueAt (l.map Nd.kv) k = some (.ref x.ia) := by
  rw [valueAt_nd]
  cases q : l.find? (fun x => x.k = k) with
  | none =>
    (first | ((first | refine Exists.elim (List.mem_map.mp h) ?_ | refine conj_elim (List.mem_map.mp h) ?_); rintro (y) tmp; (first | ((first | with_reducible refine Exists.elim tmp ?_ | with_reducible refine conj_elim tmp ?_); (try clear tmp); rintro (hy) (e)) | obtain ⟨hy, e⟩ := tmp)) | obtain ⟨y, hy, e⟩ := List.mem_map.mp h)
    exact absurd (by simpa using e) (List.find?_eq_none.mp q y hy)
  | some x => exact ⟨x, List.mem_of_find?_eq_some q, by simpa using List.find?_some q, rfl⟩
section
variable {w : World} {A : Around} {E : Value → Shared → Prop} {s : Shared} {h₀ : Heap} {L : Addr} {m : Str → Option Value} {rest : List (Addr × Obj)} {l : List Nd} {x : Nd} {on : Obj} {pa pb pc pd : Addr × Obj} {pre post : List Nd}
theorem nd4_set_np {Q : Unit → Shared → Prop} {v : Int} {t : Tok} (F : Fr h₀ L s.heap m) (X : (Mine.hd.heap_1 w.params).In h₀) (N : News h₀ L s.heap (pa :: pb :: pc :: pd :: (ndLed (pre ++ x :: post) ++ rest))) (ok : NdOk w (pre ++ x :: post) on (pa.1 :: pb.1 :: pc.1 :: pd.1 :: rest.map (·.1)))
    (h : ∀ h', Fr h₀ L h' m → News h₀ L h' (pa :: pb :: pc :: pd :: (ndLed (pre ++ { x with np := v, tp := t } :: post) ++ rest)) → NdOk w (pre ++ { x with np := v, tp := t } :: post) on (pa.1 :: pb.1 :: pc.1 :: pd.1 :: rest.map (·.1)) → Q () { s with heap := h', toks := s.toks + 1 }) :
    wpAny (model P w) A (setAttr (.ref x.ia) (Str.ofString "npredecessors") (.int v t)) Q E s :=
  nd_set_np (hd := [pa, pb, pc, pd]) F X N ok.apart fun h' F' N' => h h' F' N' (ok.put rfl rfl rfl rfl (ok.ivs x (by simp)))
/-- a new thing joins the rest -/
theorem NdOk.push {a : List Addr} {T : Addr} {r : List Addr} (ok : NdOk w l on (a ++ r)) (h4 : ∀ y ∈ a ++ r, @Ne Nat y T) (h5 : ∀ p ∈ ndLed l, @Ne Nat p.1 T) : NdOk w l on (a ++ T :: r) := by
  refine ⟨ok.dict, ok.ivs, ok.keys, ?_⟩
  have hT : (T :: ((a ++ r) ++ (ndLed l).map (·.1))).Nodup := by
    refine List.nodup_cons.mpr ⟨fun hm => ?_, ok.apart⟩
    rcases List.mem_append.mp hm with hm | hm
    · exact h4 _ hm rfl
    · (first | ((first | refine Exists.elim (List.mem_map.mp hm) ?_ | refine conj_elim (List.mem_map.mp hm) ?_); rintro (p) tmp; (first | ((first | with_reducible refine Exists.elim tmp ?_ | with_reducible refine conj_elim tmp ?_); (try clear tmp); rintro (hp) (e)) | obtain ⟨hp, e⟩ := tmp)) | obtain ⟨p, hp, e⟩ := List.mem_map.mp hm)
      exact h5 p hp e
  refine (List.Perm.nodup_iff ?_).mp hT
  exact List.Perm.append_right _ List.perm_middle.symm
theorem NdOk.pop {a : List Addr} {T : Addr} {r : List Addr} (ok : NdOk w l on (a ++ T :: r)) : NdOk w l on (a ++ r) := by
  refine ⟨ok.dict, ok.ivs, ok.keys, List.Nodup.sublist ?_ ok.apart⟩
  exact List.Sublist.append_right (List.Sublist.append_left (List.sublist_cons_self T r) a) _
theorem NdOk.offs {a : List Addr} {T : Addr} {r : List Addr} (ok : NdOk w l on (a ++ T :: r)) : (∀ y ∈ a ++ r, @Ne Nat y T) ∧ ∀ p ∈ ndLed l, @Ne Nat p.1 T := by
  have hT : (T :: ((a ++ r) ++ (ndLed l).map (·.1))).Nodup := (List.Perm.nodup_iff (List.Perm.append_right _ List.perm_middle)).mp ok.apart
  have h1 := (List.nodup_cons.mp hT).1
  exact ⟨fun y hy e => h1 (List.mem_append_left _ (e ▸ hy)), fun p hp e => h1 (List.mem_append_right _ (e ▸ List.mem_map_of_mem hp))⟩
end
section
variable {w : World} {A : Around} {E : Value → Shared → Prop} {s : Shared} {h₀ : Heap} {L : Addr} {m : Str → Option Value} {rest : List (Addr × Obj)} {l : List Nd} {on : Obj} {pa pb : Addr × Obj} {pA dA nA : Addr} {rv : Value} {a b : Int} {t1 t2 t3 t4 ta tb : Tok} {Q : Unit → Shared → Prop}
theorem plan_updD {o : Obj} {pc : Addr × Obj} (ok : NdOk w l on (pa.1 :: pb.1 :: pc.1 :: dA :: rest.map (·.1))) (o' : Obj) : Upd dA o o' (pa :: pb :: pc :: (dA, o) :: (ndLed l ++ rest)) (pa :: pb :: pc :: (dA, o') :: (ndLed l ++ rest)) := by
  have ap := ok.apart
  simp only [List.cons_append, List.nodup_cons, List.mem_cons, List.mem_append, not_or] at ap
  refine Upd.tail ap.1.2.2.1 (Upd.tail ap.2.1.2.1 (Upd.tail ap.2.2.1.1 (Upd.head fun p hp e => ?_)))
  rcases List.mem_append.mp hp with hp | hp
  · exact ap.2.2.2.1.2 (e ▸ List.mem_map_of_mem hp)
  · exact ap.2.2.2.1.1 (e ▸ List.mem_map_of_mem hp)
theorem plan_set_passed {v : Int} {t : Tok} (F : Fr h₀ L s.heap m) (X : (Mine.hd.heap_1 w.params).In h₀) (N : News h₀ L s.heap (pa :: pb :: (pA, instObj 153 dA) :: (dA, planD w t1 t2 t3 t4 nA rv a ta b tb) :: (ndLed l ++ rest))) (ok : NdOk w l on (pa.1 :: pb.1 :: pA :: dA :: rest.map (·.1)))
    (h : ∀ h', Fr h₀ L h' m → News h₀ L h' (pa :: pb :: (pA, instObj 153 dA) :: (dA, planD w t1 t2 t3 t4 nA rv v t b tb) :: (ndLed l ++ rest)) → Q () { s with heap := h', toks := s.toks + 2 }) :
    wpAny (model P w) A (setAttr (.ref pA) (Str.ofString "_npassedout") (.int v t)) Q E s :=
  set_dict F X N (InstAt.of_news N (.tail _ (.tail _ (.head _))) (.tail _ (.tail _ (.tail _ (.head _))))) rfl (by k_is) (by k_is) (by k_is) (by k_is) rfl rfl (plan_updD (pc := (pA, instObj 153 dA)) ok _) (Nat.le_of_ble_eq_true rfl) h
theorem plan_set_finished {v : Int} {t : Tok} (F : Fr h₀ L s.heap m) (X : (Mine.hd.heap_1 w.params).In h₀) (N : News h₀ L s.heap (pa :: pb :: (pA, instObj 153 dA) :: (dA, planD w t1 t2 t3 t4 nA rv a ta b tb) :: (ndLed l ++ rest))) (ok : NdOk w l on (pa.1 :: pb.1 :: pA :: dA :: rest.map (·.1)))
    (h : ∀ h', Fr h₀ L h' m → News h₀ L h' (pa :: pb :: (pA, instObj 153 dA) :: (dA, planD w t1 t2 t3 t4 nA rv a ta v t) :: (ndLed l ++ rest)) → Q () { s with heap := h', toks := s.toks + 2 }) :
    wpAny (model P w) A (setAttr (.ref pA) (Str.ofString "_nfinished") (.int v t)) Q E s :=
  set_dict F X N (InstAt.of_news N (.tail _ (.tail _ (.head _))) (.tail _ (.tail _ (.tail _ (.head _))))) rfl (by k_is) (by k_is) (by k_is) (by k_is) rfl rfl (plan_updD (pc := (pA, instObj 153 dA)) ok _) (Nat.le_of_ble_eq_true rfl) h
theorem plan_set_ready {v : Value} (F : Fr h₀ L s.heap m) (X : (Mine.hd.heap_1 w.params).In h₀) (N : News h₀ L s.heap (pa :: pb :: (pA, instObj 153 dA) :: (dA, planD w t1 t2 t3 t4 nA rv a ta b tb) :: (ndLed l ++ rest))) (ok : NdOk w l on (pa.1 :: pb.1 :: pA :: dA :: rest.map (·.1)))
    (h : ∀ h', Fr h₀ L h' m → News h₀ L h' (pa :: pb :: (pA, instObj 153 dA) :: (dA, planD w t1 t2 t3 t4 nA v a ta b tb) :: (ndLed l ++ rest)) → Q () { s with heap := h', toks := s.toks + 2 }) :
    wpAny (model P w) A (setAttr (.ref pA) (Str.ofString "_ready_nodes") v) Q E s :=
  set_dict F X N (InstAt.of_news N (.tail _ (.tail _ (.head _))) (.tail _ (.tail _ (.tail _ (.head _))))) rfl (by k_is) (by k_is) (by k_is) (by k_is) rfl rfl (plan_updD (pc := (pA, instObj 153 dA)) ok _) (Nat.le_of_ble_eq_true rfl) h
end
-- Gr
noncomputable def plOut (st : PlSt) (k : Int) : PlSt := plPut st k fun x => (x.1, -1, x.2.2)
theorem keys_of_pl {l : List Nd} : l.map (·.k) = (l.map Nd.pl).map (·.1) := by simp [Nd.pl]
theorem plPut_keys {st : PlSt} {k : Int} {f : Int × Int × List Int → Int × Int × List Int} (h : ∀ x, (f x).1 = x.1) : (plPut st k f).map (·.1) = st.map (·.1) := by
  unfold plPut
  rw [List.map_map]
  refine List.map_congr_left fun x _ => ?_
  simp only [Function.comp]
  split <;> simp [h]
theorem plOut_keys (ks : List Int) (st : PlSt) : (ks.foldl plOut st).map (·.1) = st.map (·.1) := by
  induction ks generalizing st with
  | nil => rfl
  | cons k ks ih => rw [List.foldl_cons, ih]; exact plPut_keys fun _ => rfl
set_option maxHeartbeats 8000000 in
theorem ready_spec {w : World} {mean : ExcName → Option Value} {mg mb : Str → Option Value} {base g : Heap} {outer : List Env} {s : Shared} {dp un : Nat} {gd : Option (List Code)} {R : Result → Shared → Prop}
    {rest : List (Addr × Obj)} {l : List Nd} {pA dA nA rA : Addr} {on : Obj} {rvs : List Value} {rl : List Int} {rc : Nat} {t1 t2 t3 t4 ta tb : Tok} {a b : Int}
    (S : Sit w mean mg mb base outer g s.heap ((rA, listOf rvs.toArray rc) :: (nA, on) :: (pA, instObj 153 dA) :: (dA, planD w t1 t2 t3 t4 nA (.ref rA) a ta b tb) :: (ndLed l ++ rest)))
    (ok : NdOk w l on (rA :: nA :: pA :: dA :: rest.map (·.1))) (lo : (nA == sysModules) = false) (hrv : IntsAre rvs rl) (hin : ∀ k ∈ rl, k ∈ l.map (·.k))
    (hrl : rvs.length ≤ 10000) (hr0 : rvs.length ≠ 0) (hd : dp + 15 < recursionLimit) (hu : un + 150 < cLine)
    (ret : ∀ T l' rc' ta' h' tk', NdOk w l' on (rA :: nA :: pA :: dA :: T :: rest.map (·.1)) → l'.map Nd.pl = rl.foldl plOut (l.map Nd.pl) →
      Done g h' ((rA, listOf #[] rc') :: (nA, on) :: (pA, instObj 153 dA) :: (dA, planD w t1 t2 t3 t4 nA (.ref rA) (a + rvs.length) ta' b tb) :: (ndLed l' ++ ((T, { cls := .type "tuple", data := .seq rvs.toArray }) :: rest))) → R (.ok (.ret (.ref T))) { s with heap := h', toks := tk' }) :
    codeAny (model P w) (arnd dp un gd outer) (.call (.ref 115) ⟨[.ref pA], []⟩) R s := by
  refine S.enter (binds := [(Str.ofString "self", .ref pA)]) (by k_is) (by k_is) (by omega) (BindsTo.of_eq rfl) (locs rfl) ?_ rfl rfl rfl (by decide)
  intro L h₁ F N B X T KD XB TB hlt
  (repeat' (fail_if_success with_reducible first | refine zzTu ?_); first | k_unfold; try dsimp only | walk1 | dsimp only; walk1 | leave1; try dsimp only)
  refine kde_tupleOf (zs := rvs) F N ⟨_, (N _ (.head _)).1, rfl, _, rfl⟩ (by simp; omega) (by simp) ?_
  intro D h₂ F₂ N₂ lD
  have okT : NdOk w l on ([rA, nA, pA, dA] ++ D :: rest.map (·.1)) := NdOk.push (a := [rA, nA, pA, dA]) ok (fun y hy => by
    rcases List.mem_append.mp hy with hy | hy
    · simp only [List.mem_cons, List.not_mem_nil, or_false] at hy
      rcases hy with rfl | rfl | rfl | rfl
      · exact Nat.ne_of_lt (lD _ (.head _))
      · exact Nat.ne_of_lt (lD _ (.tail _ (.head _)))
      · exact Nat.ne_of_lt (lD _ (.tail _ (.tail _ (.head _))))
      · exact Nat.ne_of_lt (lD _ (.tail _ (.tail _ (.tail _ (.head _)))))
    · (first | ((first | refine Exists.elim (List.mem_map.mp hy) ?_ | refine conj_elim (List.mem_map.mp hy) ?_); rintro (p) tmp; (first | ((first | with_reducible refine Exists.elim tmp ?_ | with_reducible refine conj_elim tmp ?_); (try clear tmp); rintro (hp) (rfl)) | obtain ⟨hp, rfl⟩ := tmp)) | obtain ⟨p, hp, rfl⟩ := List.mem_map.mp hy)
      exact Nat.ne_of_lt (lD _ (.tail _ (.tail _ (.tail _ (.tail _ (List.mem_append_right _ hp))))))) (fun p hp => Nat.ne_of_lt (lD _ (.tail _ (.tail _ (.tail _ (.tail _ (List.mem_append_left _ hp)))))))
  have N₃ : News g L h₂ ((rA, listOf rvs.toArray rc) :: (nA, on) :: (pA, instObj 153 dA) :: (dA, planD w t1 t2 t3 t4 nA (.ref rA) a ta b tb) :: (ndLed l ++ ((D, { cls := .type "tuple", data := .seq rvs.toArray }) :: rest))) := fun p hp => N₂ p (by
    exact sub_at re4 hp)
  clear N₂ N F hlt ok
  generalize hrest : ((D, { cls := .type "tuple", data := .seq rvs.toArray }) :: rest : List (Addr × Obj)) = rest' at *
  have hTm : (D, { cls := .type "tuple", data := .seq rvs.toArray }) ∈ rest' := hrest ▸ .head _
  have ok₃ : NdOk w l on (rA :: nA :: pA :: dA :: rest'.map (·.1)) := by rw [← hrest]; exact okT
  have hret : ∀ l' rc' ta' h' tk', NdOk w l' on (rA :: nA :: pA :: dA :: rest'.map (·.1)) → l'.map Nd.pl = rl.foldl plOut (l.map Nd.pl) →
      Done g h' ((rA, listOf #[] rc') :: (nA, on) :: (pA, instObj 153 dA) :: (dA, planD w t1 t2 t3 t4 nA (.ref rA) (a + rvs.length) ta' b tb) :: (ndLed l' ++ rest')) → R (.ok (.ret (.ref D))) { s with heap := h', toks := tk' } := by
    subst hrest
    exact ret D
  clear ret okT hrest
  (repeat' (fail_if_success with_reducible first | refine zzW ?_ | refine zzF ?_ | refine zzC ?_ | refine zzL ?_ | refine zzD ?_); first | k_unfold; try dsimp only | walk1 | dsimp only; walk1 | leave1; try dsimp only)
  rename Fr _ _ _ _ => F₄
  rename News _ _ _ _ => N₄
  refine For_gen ?_
  (repeat' (fail_if_success with_reducible first | refine zzW ?_ | refine zzF ?_ | refine zzC ?_ | refine zzL ?_ | refine zzD ?_); first | k_unfold; try dsimp only | walk1 | dsimp only; walk1 | leave1; try dsimp only)
  refine piter_tuple F₄ N₄ (.tail _ (.tail _ (.tail _ (.tail _ (List.mem_append_right _ hTm))))) ?_
  intro I h₈ F₈ N₈ lI
  have okI : NdOk w l on ([rA, nA, pA, dA] ++ I :: rest'.map (·.1)) := NdOk.push (a := [rA, nA, pA, dA]) ok₃ (fun y hy => by
    rcases List.mem_append.mp hy with hy | hy
    · simp only [List.mem_cons, List.not_mem_nil, or_false] at hy
      rcases hy with rfl | rfl | rfl | rfl
      · exact Nat.ne_of_lt (lI _ (.head _))
      · exact Nat.ne_of_lt (lI _ (.tail _ (.head _)))
      · exact Nat.ne_of_lt (lI _ (.tail _ (.tail _ (.head _))))
      · exact Nat.ne_of_lt (lI _ (.tail _ (.tail _ (.tail _ (.head _)))))
    · (first | ((first | refine Exists.elim (List.mem_map.mp hy) ?_ | refine conj_elim (List.mem_map.mp hy) ?_); rintro (p) tmp; (first | ((first | with_reducible refine Exists.elim tmp ?_ | with_reducible refine conj_elim tmp ?_); (try clear tmp); rintro (hp) (rfl)) | obtain ⟨hp, rfl⟩ := tmp)) | obtain ⟨p, hp, rfl⟩ := List.mem_map.mp hy)
      exact Nat.ne_of_lt (lI _ (.tail _ (.tail _ (.tail _ (.tail _ (List.mem_append_right _ hp))))))) (fun p hp => Nat.ne_of_lt (lI _ (.tail _ (.tail _ (.tail _ (.tail _ (List.mem_append_left _ hp)))))))
  clear F₄ N₄
  (try dsimp only)
  refine turns_tuple (items := rvs.toArray) (fun i g' m nw => All5 (g' = g) (m (Str.ofString "self") = some (.ref pA)) (m (Str.ofString "n2i") = some (.ref nA)) (m (Str.ofString "result") = some (.ref D)) (∃ li, All3 (NdOk w li on ([rA, nA, pA, dA] ++ I :: rest'.map (·.1))) (nw = (rA, listOf rvs.toArray rc) :: (nA, on) :: (pA, instObj 153 dA) :: (dA, planD w t1 t2 t3 t4 nA (.ref rA) a ta b tb) :: (ndLed li ++ rest')) (li.map Nd.pl = (rl.take i).foldl plOut (l.map Nd.pl)))) rfl ?_ F₈ N₈ ⟨rfl, rfl, rfl, rfl, l, okI, rfl, rfl⟩ (Nat.zero_le _) ?_ ?_
  · rintro i g' m nw h ⟨rfl, _, _, _, li, oki, rfl, _⟩ _ Nz
    refine ⟨⟨_, (Nz _ (.tail _ (.tail _ (.tail _ (.tail _ (List.mem_append_right _ hTm)))))).1, rfl, _, rfl⟩, ?_⟩
    have off := NdOk.offs oki
    intro p hp
    simp only [List.mem_cons, List.mem_append] at hp
    rcases hp with rfl | rfl | rfl | rfl | hp | hp
    · exact off.1 _ (.head _)
    · exact off.1 _ (.tail _ (.head _))
    · exact off.1 _ (.tail _ (.tail _ (.head _)))
    · exact off.1 _ (.tail _ (.tail _ (.tail _ (.head _))))
    · exact off.2 p hp
    · exact off.1 _ (List.mem_append_right _ (List.mem_map_of_mem hp))
  · rintro i g' m nw h tk v hJ9 hv Fi Ni hneI Q1 hQ1
    (first | ((first | with_reducible refine Exists.elim hJ9 ?_ | with_reducible refine conj_elim hJ9 ?_); (try clear hJ9); rintro (rfl) tmp; (first | ((first | with_reducible refine Exists.elim tmp ?_ | with_reducible refine conj_elim tmp ?_); (try clear tmp); rintro (hm1) tmp; (first | ((first | with_reducible refine Exists.elim tmp ?_ | with_reducible refine conj_elim tmp ?_); (try clear tmp); rintro (hm2) tmp; (first | ((first | with_reducible refine Exists.elim tmp ?_ | with_reducible refine conj_elim tmp ?_); (try clear tmp); rintro (hm3) tmp; (first | ((first | with_reducible refine Exists.elim tmp ?_ | with_reducible refine conj_elim tmp ?_); (try clear tmp); rintro (li) tmp; (first | ((first | with_reducible refine Exists.elim tmp ?_ | with_reducible refine conj_elim tmp ?_); (try clear tmp); rintro (oki) tmp; (first | ((first | with_reducible refine Exists.elim tmp ?_ | with_reducible refine conj_elim tmp ?_); (try clear tmp); rintro (rfl) (hpl)) | obtain ⟨rfl, hpl⟩ := tmp)) | obtain ⟨oki, rfl, hpl⟩ := tmp)) | obtain ⟨li, oki, rfl, hpl⟩ := tmp)) | obtain ⟨hm3, li, oki, rfl, hpl⟩ := tmp)) | obtain ⟨hm2, hm3, li, oki, rfl, hpl⟩ := tmp)) | obtain ⟨hm1, hm2, hm3, li, oki, rfl, hpl⟩ := tmp)) | obtain ⟨rfl, hm1, hm2, hm3, li, oki, rfl, hpl⟩ := hJ9)
    (first | ((first | refine Exists.elim (ints_get hrv (by simpa using hv)) ?_ | refine conj_elim (ints_get hrv (by simpa using hv)) ?_); rintro (pk) tmp; (first | ((first | with_reducible refine Exists.elim tmp ?_ | with_reducible refine conj_elim tmp ?_); (try clear tmp); rintro (pt) tmp; (first | ((first | with_reducible refine Exists.elim tmp ?_ | with_reducible refine conj_elim tmp ?_); (try clear tmp); rintro (rfl) (hpk)) | obtain ⟨rfl, hpk⟩ := tmp)) | obtain ⟨pt, rfl, hpk⟩ := tmp)) | obtain ⟨pk, pt, rfl, hpk⟩ := ints_get hrv (by simpa using hv))
    have hkl : pk ∈ li.map (·.k) := by
      rw [keys_of_pl, hpl, plOut_keys, ← keys_of_pl]
      exact hin _ (List.mem_of_getElem? hpk)
    (first | ((first | refine Exists.elim (nd_find hkl) ?_ | refine conj_elim (nd_find hkl) ?_); rintro (x) tmp; (first | ((first | with_reducible refine Exists.elim tmp ?_ | with_reducible refine conj_elim tmp ?_); (try clear tmp); rintro (hx) tmp; (first | ((first | with_reducible refine Exists.elim tmp ?_ | with_reducible refine conj_elim tmp ?_); (try clear tmp); rintro (hxk) (hxv)) | obtain ⟨hxk, hxv⟩ := tmp)) | obtain ⟨hx, hxk, hxv⟩ := tmp)) | obtain ⟨x, hx, hxk, hxv⟩ := nd_find hkl)
    subst hxk
    have NI : News g' L h ((rA, listOf rvs.toArray rc) :: (nA, on) :: (pA, instObj 153 dA) :: (dA, planD w t1 t2 t3 t4 nA (.ref rA) a ta b tb) :: (ndLed li ++ ((I, tiObj D (i + 1)) :: rest'))) := fun p hp => Ni p (by
      exact sub_at re4 hp)
    clear Ni F₈ N₈
    (repeat' (fail_if_success with_reducible first | refine zzW ?_ | refine zzF ?_ | refine zzC ?_ | refine zzL ?_ | refine zzD ?_); first | k_unfold; try dsimp only | walk1 | dsimp only; walk1 | leave1; try dsimp only)
    rename Fr _ _ _ _ => F₉
    rename News _ _ _ _ => N₉
    refine kda_item (knd := PySem.intKind P w) N₉ (.tail _ (.head _)) oki.dict (intKind_is _ _ _ _) hxv ?_
    (repeat' (fail_if_success with_reducible first | refine zzW ?_ | refine zzF ?_ | refine zzC ?_ | refine zzL ?_ | refine zzD ?_); first | k_unfold; try dsimp only | walk1 | dsimp only; walk1 | leave1; try dsimp only)
    (first | ((first | refine Exists.elim (nd_split hx) ?_ | refine conj_elim (nd_split hx) ?_); rintro (pre) tmp; (first | ((first | with_reducible refine Exists.elim tmp ?_ | with_reducible refine conj_elim tmp ?_); (try clear tmp); rintro (post) (rfl)) | obtain ⟨post, rfl⟩ := tmp)) | obtain ⟨pre, post, rfl⟩ := nd_split hx)
    refine nd4_set_np F₉ X N₉ oki ?_
    intro h₁₁ F₁₁ N₁₁ ok₁₁
    clear N₉ F₉
    have pv6 := plPut_split (f := fun x => (x.1, -1, x.2.2)) (y := { x with np := -1, tp := 0 }) oki.keys rfl
    generalize hl6 : (pre ++ _ :: post) = l6 at N₁₁ ok₁₁
    have pv6 : l6.map Nd.pl = plOut ((pre ++ x :: post).map Nd.pl) x.k := by
      rw [← hl6]
      exact plPut_split oki.keys rfl
    (repeat' (fail_if_success with_reducible first | refine zzW ?_ | refine zzF ?_ | refine zzC ?_ | refine zzL ?_ | refine zzD ?_); first | k_unfold; try dsimp only | walk1 | dsimp only; walk1 | leave1; try dsimp only)
    rename Fr _ _ _ _ => F₁₂
    rename News _ _ _ _ => N₁₂
    refine hQ1 _ _ ?_
    refine ⟨_, _, _, _, (rA, listOf rvs.toArray rc) :: (nA, on) :: (pA, instObj 153 dA) :: (dA, planD w t1 t2 t3 t4 nA (.ref rA) a ta b tb) :: (ndLed l6 ++ rest'), rfl, F₁₂, fun p hp => N₁₂ p (by
      exact sub_at re3 hp), rfl, ?_, ?_, ?_, l6, ok₁₁, rfl, ?_⟩
    · (repeat (first | with_reducible assumption | refine Eq.trans (if_pos rfl) ?_; exact rfl | refine Eq.trans (if_neg (by decide)) ?_))
    · (repeat (first | with_reducible assumption | refine Eq.trans (if_pos rfl) ?_; exact rfl | refine Eq.trans (if_neg (by decide)) ?_))
    · (repeat (first | with_reducible assumption | refine Eq.trans (if_pos rfl) ?_; exact rfl | refine Eq.trans (if_neg (by decide)) ?_))
    · rw [pv6, hpl, List.take_add_one, hpk]
      simp
  · rintro g' m nw h tk ⟨rfl, hm1, hm2, hm3, li, oki, rfl, hpl⟩ Fi Ni
    clear F₈ N₈
    have e : rvs.toArray.size = rl.length := by have := hrv.length; simp [this]
    rw [e, List.take_length] at hpl
    have ok₁ := NdOk.pop oki
    have ap := ok₁.apart
    simp only [List.cons_append, List.nil_append, List.nodup_cons, List.mem_cons, List.mem_append, not_or] at ap
    have r1 : ∀ p ∈ (nA, on) :: (pA, instObj 153 dA) :: (dA, planD w t1 t2 t3 t4 nA (.ref rA) a ta b tb) :: (ndLed li ++ rest'), p.1 ≠ rA := by
      refine List.forall_mem_cons.mpr ⟨Ne.symm ap.1.1, List.forall_mem_cons.mpr ⟨Ne.symm ap.1.2.1, List.forall_mem_cons.mpr ⟨Ne.symm ap.1.2.2.1, fun p hp e => ?_⟩⟩⟩
      rcases List.mem_append.mp hp with hp | hp
      · exact ap.1.2.2.2.2 (e ▸ List.mem_map_of_mem hp)
      · exact ap.1.2.2.2.1 (e ▸ List.mem_map_of_mem hp)
    (repeat' (fail_if_success with_reducible first | refine zzW ?_ | refine zzF ?_ | refine zzC ?_ | refine zzL ?_ | refine zzD ?_); first | k_unfold; try dsimp only | walk1 | dsimp only; walk1 | leave1; try dsimp only)
    dsimp only
    refine kl_clear Fi Ni (Upd.head r1) (by simpa using hr0) (by rw [sizeLine_eq]; simp; omega) ?_
    intro h₅ F₅ N₅
    clear Fi Ni
    (repeat' (fail_if_success with_reducible first | refine zzW ?_ | refine zzF ?_ | refine zzC ?_ | refine zzL ?_ | refine zzD ?_); first | k_unfold; try dsimp only | walk1 | dsimp only; walk1 | leave1; try dsimp only)
    refine len_tuple (items := rvs.toArray) ⟨_, (N₅ _ (.tail _ (.tail _ (.tail _ (.tail _ (List.mem_append_right _ hTm)))))).1, rfl, _, rfl⟩ (by simp; omega) ?_
    (repeat' (fail_if_success with_reducible first | refine zzW ?_ | refine zzF ?_ | refine zzC ?_ | refine zzL ?_ | refine zzD ?_); first | k_unfold; try dsimp only | walk1 | dsimp only; walk1 | leave1; try dsimp only)
    refine plan_set_passed F₅ X N₅ ok₁ ?_
    intro h₆ F₆ N₆
    clear F₅ N₅
    (repeat' (fail_if_success with_reducible first | refine zzW ?_ | refine zzF ?_ | refine zzC ?_ | refine zzL ?_ | refine zzD ?_); first | k_unfold; try dsimp only | walk1 | dsimp only; walk1 | leave1; try dsimp only)
    rename Fr _ _ _ _ => F₇
    rename News _ _ _ _ => N₇
    have e2 : (a + ((rvs.toArray.size : Nat) : Int)) = a + rvs.length := by simp
    rw [e2] at N₇
    exact hret li _ _ _ _ ok₁ hpl (done_of F₇ N₇ fun p hp => hp)
-- Dn
section
variable {w : World} {A : Around} {E : Value → Shared → Prop} {s : Shared} {h₀ : Heap} {L : Addr} {m : Str → Option Value} {x : Nd}
theorem nd_get_np_at {ia : Addr} {news : List (Addr × Obj)} {ex : Bool} {Q : Value → Shared → Prop} (F : Fr h₀ L s.heap m) (X : (Mine.hd.heap_1 w.params).In h₀) (N : News h₀ L s.heap news) (e : x.ia = ia) (hs : ∀ p ∈ x.led, p ∈ news) (h : Q (.int x.np x.tp) { s with toks := s.toks + 1 }) :
    wpAny (model P w) A (getAttr (.ref ia) (Str.ofString "npredecessors") ex) Q E s := by
  subst e
  exact nd_get_np F X N hs h
end
/-- the part of a node that the run leaves alone -/
noncomputable def Nd.fix (x : Nd) : Int × Addr × Addr × Addr × Tok × List Value × List Int × Nat := (x.k, x.ia, x.dx, x.sa, x.tk, x.vs, x.sl, x.c)
theorem fix_mem {l l' : List Nd} (h : l'.map Nd.fix = l.map Nd.fix) {x : Nd} (hx : x ∈ l) : ∃ y ∈ l', y.fix = x.fix := by
  have : x.fix ∈ l'.map Nd.fix := h ▸ List.mem_map_of_mem hx
  (first | ((first | refine Exists.elim (List.mem_map.mp this) ?_ | refine conj_elim (List.mem_map.mp this) ?_); rintro (y) tmp; (first | ((first | with_reducible refine Exists.elim tmp ?_ | with_reducible refine conj_elim tmp ?_); (try clear tmp); rintro (hy) (e)) | obtain ⟨hy, e⟩ := tmp)) | obtain ⟨y, hy, e⟩ := List.mem_map.mp this)
  exact ⟨y, hy, e⟩
theorem fix_keys {l l' : List Nd} (h : l'.map Nd.fix = l.map Nd.fix) : l'.map (·.k) = l.map (·.k) := by
  have := congrArg (List.map (·.1)) h
  rw [List.map_map, List.map_map] at this
  exact this
noncomputable def plNp (st : PlSt) (k : Int) : Int := ((st.find? fun x => x.1 = k).map fun x => x.2.1).getD 0
noncomputable def plSl (st : PlSt) (k : Int) : List Int := ((st.find? fun x => x.1 = k).map fun x => x.2.2).getD []
noncomputable def plDec (sr : PlSt × List Int) (k : Int) : PlSt × List Int :=
  let st' := plPut sr.1 k fun x => (x.1, x.2.1 - 1, x.2.2)
  (st', if plNp sr.1 k - 1 = 0 then sr.2 ++ [k] else sr.2)
noncomputable def plDone (sr : PlSt × List Int) (k : Int) : PlSt × List Int := (plSl sr.1 k).foldl plDec (plPut sr.1 k (fun x => (x.1, -2, x.2.2)), sr.2)
theorem pl_find {l : List Nd} (hn : (l.map (·.k)).Nodup) {x : Nd} (hx : x ∈ l) : (l.map Nd.pl).find? (fun z => z.1 = x.k) = some x.pl := by
  induction l with
  | nil => cases hx
  | cons y l ih =>
    rw [List.map_cons] at hn
    (first | ((first | refine Exists.elim (List.nodup_cons.mp hn) ?_ | refine conj_elim (List.nodup_cons.mp hn) ?_); rintro (h1) (h2)) | obtain ⟨h1, h2⟩ := List.nodup_cons.mp hn)
    rw [List.map_cons, List.find?_cons]
    rcases List.mem_cons.mp hx with rfl | hx
    · simp [Nd.pl]
    · have : y.k ≠ x.k := fun e => h1 (e ▸ List.mem_map_of_mem hx)
      simp only [Nd.pl, this, decide_false]
      exact ih h2 hx
theorem plNp_of {l : List Nd} (hn : (l.map (·.k)).Nodup) {x : Nd} (hx : x ∈ l) : plNp (l.map Nd.pl) x.k = x.np := by
  unfold plNp; rw [pl_find hn hx]; rfl
theorem plSl_of {l : List Nd} (hn : (l.map (·.k)).Nodup) {x : Nd} (hx : x ∈ l) : plSl (l.map Nd.pl) x.k = x.sl := by
  unfold plSl; rw [pl_find hn hx]; rfl
theorem off4 {w : World} {l : List Nd} {on : Obj} {pa pb pc pd : Addr × Obj} {rest : List (Addr × Obj)} {I : Addr} (oki : NdOk w l on ([pa.1, pb.1, pc.1, pd.1] ++ I :: rest.map (·.1))) : ∀ p ∈ pa :: pb :: pc :: pd :: (ndLed l ++ rest), p.1 ≠ I := by
  have off := NdOk.offs oki
  intro p hp
  simp only [List.mem_cons, List.mem_append] at hp
  rcases hp with rfl | rfl | rfl | rfl | hp | hp
  · exact off.1 _ (.head _)
  · exact off.1 _ (.tail _ (.head _))
  · exact off.1 _ (.tail _ (.tail _ (.head _)))
  · exact off.1 _ (.tail _ (.tail _ (.tail _ (.head _))))
  · exact off.2 p hp
  · exact off.1 _ (List.mem_append_right _ (List.mem_map_of_mem hp))
theorem on4 {w : World} {l : List Nd} {on : Obj} {pa pb pc pd : Addr × Obj} {rest : List (Addr × Obj)} {I : Addr} (ok : NdOk w l on (pa.1 :: pb.1 :: pc.1 :: pd.1 :: rest.map (·.1))) (lI : ∀ p ∈ pa :: pb :: pc :: pd :: (ndLed l ++ rest), @LT.lt Nat _ p.1 I) : NdOk w l on ([pa.1, pb.1, pc.1, pd.1] ++ I :: rest.map (·.1)) :=
  NdOk.push (a := [pa.1, pb.1, pc.1, pd.1]) ok (fun y hy => by
    rcases List.mem_append.mp hy with hy | hy
    · simp only [List.mem_cons, List.not_mem_nil, or_false] at hy
      rcases hy with rfl | rfl | rfl | rfl
      · exact Nat.ne_of_lt (lI _ (.head _))
      · exact Nat.ne_of_lt (lI _ (.tail _ (.head _)))
      · exact Nat.ne_of_lt (lI _ (.tail _ (.tail _ (.head _))))
      · exact Nat.ne_of_lt (lI _ (.tail _ (.tail _ (.tail _ (.head _)))))
    · (first | ((first | refine Exists.elim (List.mem_map.mp hy) ?_ | refine conj_elim (List.mem_map.mp hy) ?_); rintro (p) tmp; (first | ((first | with_reducible refine Exists.elim tmp ?_ | with_reducible refine conj_elim tmp ?_); (try clear tmp); rintro (hp) (rfl)) | obtain ⟨hp, rfl⟩ := tmp)) | obtain ⟨p, hp, rfl⟩ := List.mem_map.mp hy)
      exact Nat.ne_of_lt (lI _ (.tail _ (.tail _ (.tail _ (.tail _ (List.mem_append_right _ hp))))))) (fun p hp => Nat.ne_of_lt (lI _ (.tail _ (.tail _ (.tail _ (.tail _ (List.mem_append_left _ hp)))))))
/-- the first head is apart from the others -/
theorem first4 {w : World} {l : List Nd} {on : Obj} {pa pb pc pd : Addr × Obj} {rest : List (Addr × Obj)} (ok : NdOk w l on (pa.1 :: pb.1 :: pc.1 :: pd.1 :: rest.map (·.1))) : ∀ p ∈ pb :: pc :: pd :: (ndLed l ++ rest), p.1 ≠ pa.1 := by
  have ap := ok.apart
  simp only [List.cons_append, List.nodup_cons, List.mem_cons, List.mem_append, not_or] at ap
  refine List.forall_mem_cons.mpr ⟨Ne.symm ap.1.1, List.forall_mem_cons.mpr ⟨Ne.symm ap.1.2.1, List.forall_mem_cons.mpr ⟨Ne.symm ap.1.2.2.1, fun p hp e => ?_⟩⟩⟩
  rcases List.mem_append.mp hp with hp | hp
  · exact ap.1.2.2.2.2 (e ▸ List.mem_map_of_mem hp)
  · exact ap.1.2.2.2.1 (e ▸ List.mem_map_of_mem hp)
-- Do
theorem pull4 {g h : Heap} {L : Addr} {a b c d e : Addr × Obj} {x r : List (Addr × Obj)} (N : News g L h (a :: b :: c :: d :: (x ++ (e :: r)))) : News g L h (e :: a :: b :: c :: d :: (x ++ r)) := fun p hp => N p (by
  exact sub_at re3 hp)
theorem pl_keys_foldDec (ks : List Int) (sr : PlSt × List Int) : (ks.foldl plDec sr).1.map (·.1) = sr.1.map (·.1) := by
  induction ks generalizing sr with
  | nil => rfl
  | cons k ks ih => rw [List.foldl_cons, ih]; exact plPut_keys fun _ => rfl
set_option maxHeartbeats 8000000 in
theorem done_spec {w : World} {mean : ExcName → Option Value} {mg mb : Str → Option Value} {base g : Heap} {outer : List Env} {s : Shared} {dp un : Nat} {gd : Option (List Code)} {R : Result → Shared → Prop}
    {rest : List (Addr × Obj)} {l : List Nd} {pA dA nA rA : Addr} {on : Obj} {rvs vs : List Value} {rl ks : List Int} {rc : Nat} {t1 t2 t3 t4 ta tb : Tok} {a b : Int}
    (S : Sit w mean mg mb base outer g s.heap ((rA, listOf rvs.toArray rc) :: (nA, on) :: (pA, instObj 153 dA) :: (dA, planD w t1 t2 t3 t4 nA (.ref rA) a ta b tb) :: (ndLed l ++ rest)))
    (ok : NdOk w l on (rA :: nA :: pA :: dA :: rest.map (·.1))) (lo : (nA == sysModules) = false) (hrv : IntsAre rvs rl) (hvs : IntsAre vs ks) (hin : ∀ k ∈ ks, k ∈ l.map (·.k)) (hsin : ∀ x ∈ l, ∀ k ∈ x.sl, k ∈ l.map (·.k)) (hsl : ∀ x ∈ l, x.sl.length ≤ 1000)
    (hout : ∀ i k, ks[i]? = some k → plNp ((ks.take i).foldl plDone (l.map Nd.pl, rl)).1 k = -1)
    (hrl : rl.length ≤ 1000) (hv5 : vs.length ≤ 5) (hd : dp + 15 < recursionLimit) (hu : un + 150 < cLine)
    (ret : ∀ l' rvs' rc' tb' h' tk', NdOk w l' on (rA :: nA :: pA :: dA :: rest.map (·.1)) → l'.map Nd.fix = l.map Nd.fix → IntsAre rvs' (ks.foldl plDone (l.map Nd.pl, rl)).2 → l'.map Nd.pl = (ks.foldl plDone (l.map Nd.pl, rl)).1 →
      Done g h' ((rA, listOf rvs'.toArray rc') :: (nA, on) :: (pA, instObj 153 dA) :: (dA, planD w t1 t2 t3 t4 nA (.ref rA) a ta (b + vs.length) tb') :: (ndLed l' ++ rest)) → R (.ok (.ret .none)) { s with heap := h', toks := tk' }) :
    codeAny (model P w) (arnd dp un gd outer) (.call (.ref 136) ⟨.ref pA :: vs, []⟩) R s := by
  refine S.enterR (binds := fun D => [(Str.ofString "self", .ref pA), (Str.ofString "nodes", .ref D)]) (ob := { cls := .type "tuple", data := .seq vs.toArray }) (by k_is) (by k_is) (by omega) (by rcases vs with _ | ⟨v1, _ | ⟨v2, _ | ⟨v3, _ | ⟨v4, _ | ⟨v5, _ | ⟨v6, vs⟩⟩⟩⟩⟩⟩ <;> first | rfl | (simp at hv5)) (g₁ := fun D => some [(Str.ofString "self", .ref pA), (Str.ofString "nodes", .ref D)]) (fun _ => rfl) rfl (fun _ => locs rfl) ?_ rfl rfl rfl (by decide)
  intro T L h₁ F N tlt B X TG KD XB TB
  have okT := on4 (pa := (rA, listOf rvs.toArray rc)) (pb := (nA, on)) (pc := (pA, instObj 153 dA)) (pd := (dA, planD w t1 t2 t3 t4 nA (.ref rA) a ta b tb)) ok tlt
  have N₀ : News g L h₁ ((rA, listOf rvs.toArray rc) :: (nA, on) :: (pA, instObj 153 dA) :: (dA, planD w t1 t2 t3 t4 nA (.ref rA) a ta b tb) :: (ndLed l ++ ((T, { cls := .type "tuple", data := .seq vs.toArray }) :: rest))) := fun p hp => N p (by
    exact sub_at re4 hp)
  clear N tlt S ok
  generalize hrest : ((T, { cls := .type "tuple", data := .seq vs.toArray }) :: rest : List (Addr × Obj)) = rest' at *
  have hTm : (T, { cls := .type "tuple", data := .seq vs.toArray }) ∈ rest' := hrest ▸ .head _
  have ok₃ : NdOk w l on (rA :: nA :: pA :: dA :: rest'.map (·.1)) := by rw [← hrest]; exact okT
  have hret : ∀ l' rvs' rc' tb' h' tk', NdOk w l' on (rA :: nA :: pA :: dA :: rest'.map (·.1)) → l'.map Nd.fix = l.map Nd.fix → IntsAre rvs' (ks.foldl plDone (l.map Nd.pl, rl)).2 → l'.map Nd.pl = (ks.foldl plDone (l.map Nd.pl, rl)).1 →
      Done g h' ((rA, listOf rvs'.toArray rc') :: (nA, on) :: (pA, instObj 153 dA) :: (dA, planD w t1 t2 t3 t4 nA (.ref rA) a ta (b + vs.length) tb') :: (ndLed l' ++ rest')) → R (.ok (.ret .none)) { s with heap := h', toks := tk' } := by
    subst hrest
    intro l' rvs' rc' tb' h' tk' ok' h1 h2 h3 Dn
    refine ret l' rvs' rc' tb' h' tk' (NdOk.pop (a := [rA, nA, pA, dA]) ok') h1 h2 h3 ⟨Dn.1, fun p hp => Dn.2 p ?_⟩
    exact sub_at re5 hp
  clear ret okT hrest
  (repeat' (fail_if_success with_reducible first | refine zzW ?_ | refine zzF ?_ | refine zzC ?_ | refine zzL ?_ | refine zzD ?_); first | k_unfold; try dsimp only | walk1 | dsimp only; walk1 | leave1; try dsimp only)
  rename Fr _ _ _ _ => F₄
  rename News _ _ _ _ => N₄
  refine For_gen ?_
  (repeat' (fail_if_success with_reducible first | refine zzW ?_ | refine zzF ?_ | refine zzC ?_ | refine zzL ?_ | refine zzD ?_); first | k_unfold; try dsimp only | walk1 | dsimp only; walk1 | leave1; try dsimp only)
  refine piter_tuple F₄ N₄ (.tail _ (.tail _ (.tail _ (.tail _ (List.mem_append_right _ hTm))))) ?_
  intro I h₈ F₈ N₈ lI
  have okI := on4 (pa := (rA, listOf rvs.toArray rc)) (pb := (nA, on)) (pc := (pA, instObj 153 dA)) (pd := (dA, planD w t1 t2 t3 t4 nA (.ref rA) a ta b tb)) ok₃ lI
  clear F₄ N₄
  (try dsimp only)
  refine turns_tuple (items := vs.toArray) (fun i g' m nw => All4 (g' = g) (m (Str.ofString "self") = some (.ref pA)) (m (Str.ofString "n2i") = some (.ref nA)) (Ex4 fun li rvi rci tbi => All6 (NdOk w li on ([rA, nA, pA, dA] ++ I :: rest'.map (·.1))) (li.map Nd.fix = l.map Nd.fix) (IntsAre rvi ((ks.take i).foldl plDone (l.map Nd.pl, rl)).2) (rvi.length ≤ 1000 + 1000 * i) (nw = (rA, listOf rvi.toArray rci) :: (nA, on) :: (pA, instObj 153 dA) :: (dA, planD w t1 t2 t3 t4 nA (.ref rA) a ta (b + i) tbi) :: (ndLed li ++ rest')) (li.map Nd.pl = ((ks.take i).foldl plDone (l.map Nd.pl, rl)).1))) rfl ?_ F₈ N₈ ⟨rfl, rfl, rfl, l, rvs, rc, tb, okI, rfl, hrv, by have := hrv.length; omega, by simp, rfl⟩ (Nat.zero_le _) ?_ ?_
  · rintro i g' m nw h ⟨rfl, _, _, li, rvi, rci, tbi, oki, _, _, _, rfl, _⟩ _ Nz
    exact ⟨⟨_, (Nz _ (.tail _ (.tail _ (.tail _ (.tail _ (List.mem_append_right _ hTm)))))).1, rfl, _, rfl⟩, off4 (pa := (rA, _)) (pb := (nA, _)) (pc := (pA, _)) (pd := (dA, _)) oki⟩
  · rintro i g' m nw h tk v hJ9 hv Fi Ni hneI Q1 hQ1
    (first | ((first | with_reducible refine Exists.elim hJ9 ?_ | with_reducible refine conj_elim hJ9 ?_); (try clear hJ9); rintro (rfl) tmp; (first | ((first | with_reducible refine Exists.elim tmp ?_ | with_reducible refine conj_elim tmp ?_); (try clear tmp); rintro (hm1) tmp; (first | ((first | with_reducible refine Exists.elim tmp ?_ | with_reducible refine conj_elim tmp ?_); (try clear tmp); rintro (hm2) tmp; (first | ((first | with_reducible refine Exists.elim tmp ?_ | with_reducible refine conj_elim tmp ?_); (try clear tmp); rintro (li) tmp; (first | ((first | with_reducible refine Exists.elim tmp ?_ | with_reducible refine conj_elim tmp ?_); (try clear tmp); rintro (rvi) tmp; (first | ((first | with_reducible refine Exists.elim tmp ?_ | with_reducible refine conj_elim tmp ?_); (try clear tmp); rintro (rci) tmp; (first | ((first | with_reducible refine Exists.elim tmp ?_ | with_reducible refine conj_elim tmp ?_); (try clear tmp); rintro (tbi) tmp; (first | ((first | with_reducible refine Exists.elim tmp ?_ | with_reducible refine conj_elim tmp ?_); (try clear tmp); rintro (oki) tmp; (first | ((first | with_reducible refine Exists.elim tmp ?_ | with_reducible refine conj_elim tmp ?_); (try clear tmp); rintro (hfx) tmp; (first | ((first | with_reducible refine Exists.elim tmp ?_ | with_reducible refine conj_elim tmp ?_); (try clear tmp); rintro (hrvi) tmp; (first | ((first | with_reducible refine Exists.elim tmp ?_ | with_reducible refine conj_elim tmp ?_); (try clear tmp); rintro (hrli) tmp; (first | ((first | with_reducible refine Exists.elim tmp ?_ | with_reducible refine conj_elim tmp ?_); (try clear tmp); rintro (rfl) (hpl)) | obtain ⟨rfl, hpl⟩ := tmp)) | obtain ⟨hrli, rfl, hpl⟩ := tmp)) | obtain ⟨hrvi, hrli, rfl, hpl⟩ := tmp)) | obtain ⟨hfx, hrvi, hrli, rfl, hpl⟩ := tmp)) | obtain ⟨oki, hfx, hrvi, hrli, rfl, hpl⟩ := tmp)) | obtain ⟨tbi, oki, hfx, hrvi, hrli, rfl, hpl⟩ := tmp)) | obtain ⟨rci, tbi, oki, hfx, hrvi, hrli, rfl, hpl⟩ := tmp)) | obtain ⟨rvi, rci, tbi, oki, hfx, hrvi, hrli, rfl, hpl⟩ := tmp)) | obtain ⟨li, rvi, rci, tbi, oki, hfx, hrvi, hrli, rfl, hpl⟩ := tmp)) | obtain ⟨hm2, li, rvi, rci, tbi, oki, hfx, hrvi, hrli, rfl, hpl⟩ := tmp)) | obtain ⟨hm1, hm2, li, rvi, rci, tbi, oki, hfx, hrvi, hrli, rfl, hpl⟩ := tmp)) | obtain ⟨rfl, hm1, hm2, li, rvi, rci, tbi, oki, hfx, hrvi, hrli, rfl, hpl⟩ := hJ9)
    (first | ((first | refine Exists.elim (ints_get hvs (by simpa using hv)) ?_ | refine conj_elim (ints_get hvs (by simpa using hv)) ?_); rintro (pk) tmp; (first | ((first | with_reducible refine Exists.elim tmp ?_ | with_reducible refine conj_elim tmp ?_); (try clear tmp); rintro (pt) tmp; (first | ((first | with_reducible refine Exists.elim tmp ?_ | with_reducible refine conj_elim tmp ?_); (try clear tmp); rintro (rfl) (hpk)) | obtain ⟨rfl, hpk⟩ := tmp)) | obtain ⟨pt, rfl, hpk⟩ := tmp)) | obtain ⟨pk, pt, rfl, hpk⟩ := ints_get hvs (by simpa using hv))
    have hi5 : i < 5 := by
      have := (List.getElem?_eq_some_iff.mp (by simpa using hv : vs[i]? = some _)).1
      omega
    have hkl : pk ∈ li.map (·.k) := by
      rw [fix_keys hfx]
      exact hin _ (List.mem_of_getElem? hpk)
    (first | ((first | refine Exists.elim (nd_find hkl) ?_ | refine conj_elim (nd_find hkl) ?_); rintro (x) tmp; (first | ((first | with_reducible refine Exists.elim tmp ?_ | with_reducible refine conj_elim tmp ?_); (try clear tmp); rintro (hx) tmp; (first | ((first | with_reducible refine Exists.elim tmp ?_ | with_reducible refine conj_elim tmp ?_); (try clear tmp); rintro (hxk) (hxv)) | obtain ⟨hxk, hxv⟩ := tmp)) | obtain ⟨hx, hxk, hxv⟩ := tmp)) | obtain ⟨x, hx, hxk, hxv⟩ := nd_find hkl)
    subst hxk
    have hxo : x.np = -1 := by
      rw [← plNp_of oki.keys hx, hpl]
      exact hout i _ hpk
    have NI : News g' L h ((rA, listOf rvi.toArray rci) :: (nA, on) :: (pA, instObj 153 dA) :: (dA, planD w t1 t2 t3 t4 nA (.ref rA) a ta (b + i) tbi) :: (ndLed li ++ ((I, tiObj T (i + 1)) :: rest'))) := fun p hp => Ni p (by
      exact sub_at re4 hp)
    clear Ni F₈ N₈
    have hon := oki.dict
    (repeat' (fail_if_success with_reducible first | refine zzW ?_ | refine zzF ?_ | refine zzC ?_ | refine zzL ?_ | refine zzD ?_); first | k_unfold; try dsimp only | walk1 | dsimp only; walk1 | leave1; try dsimp only)
    rename Fr _ _ _ _ => F₉
    rename News _ _ _ _ => N₉
    refine kdg_get1 (knd := PySem.intKind P w) N₉ (.tail _ (.head _)) oki.dict lo (intKind_is _ _ _ _) _ rfl ?_
    rw [hxv]
    dsimp only [Option.getD]
    (repeat' (fail_if_success with_reducible first | refine zzW ?_ | refine zzF ?_ | refine zzC ?_ | refine zzL ?_ | refine zzD ?_); first | k_unfold; try dsimp only | walk1 | dsimp only; walk1 | leave1; try dsimp only)
    rename Fr _ _ _ _ => F₁₀
    rename News _ _ _ _ => N₁₀
    refine nd_get_np F₁₀ X N₁₀ (fun p hp => nd_mem (hd := [_, _, _, _]) hx hp) ?_
    rw [hxo]
    (repeat' (fail_if_success with_reducible first | refine zzW ?_ | refine zzF ?_ | refine zzC ?_ | refine zzL ?_ | refine zzD ?_); first | k_unfold; try dsimp only | walk1 | dsimp only; walk1 | leave1; try dsimp only)
    rename Fr _ _ _ _ => F₁₁
    rename News _ _ _ _ => N₁₁
    (first | ((first | refine Exists.elim (nd_split hx) ?_ | refine conj_elim (nd_split hx) ?_); rintro (pre) tmp; (first | ((first | with_reducible refine Exists.elim tmp ?_ | with_reducible refine conj_elim tmp ?_); (try clear tmp); rintro (post) (rfl)) | obtain ⟨post, rfl⟩ := tmp)) | obtain ⟨pre, post, rfl⟩ := nd_split hx)
    refine nd4_set_np (rest := (I, tiObj T (i + 1)) :: rest') F₁₁ X N₁₁ oki ?_
    intro h₁₂ F₁₂ N₁₂ ok₁₂
    clear N₁₁ F₁₁
    generalize hx' : ({ x with np := -2, tp := _ } : Nd) = x' at N₁₂ ok₁₂
    have e1 : x'.ia = x.ia := by rw [← hx']
    have e2 : x'.fix = x.fix := by rw [← hx']; rfl
    have e3 : x'.pl = (x.k, -2, x.sl) := by rw [← hx']; rfl
    have e4 : x'.sl = x.sl := by rw [← hx']
    have hx'm : x' ∈ pre ++ x' :: post := by simp
    have pv1 : (pre ++ x' :: post).map Nd.pl = plPut ((pre ++ x :: post).map Nd.pl) x.k (fun x => (x.1, -2, x.2.2)) := plPut_split oki.keys e3
    have fx1 : (pre ++ x' :: post).map Nd.fix = l.map Nd.fix := by rw [← hfx]; simp [e2]
    have slx := plSl_of oki.keys hx
    have hk1 : ∀ k ∈ x.sl, k ∈ l.map (·.k) ∧ True := by
      (first | ((first | refine Exists.elim (fix_mem hfx.symm hx) ?_ | refine conj_elim (fix_mem hfx.symm hx) ?_); rintro (y) tmp; (first | ((first | with_reducible refine Exists.elim tmp ?_ | with_reducible refine conj_elim tmp ?_); (try clear tmp); rintro (hy) (ey)) | obtain ⟨hy, ey⟩ := tmp)) | obtain ⟨y, hy, ey⟩ := fix_mem hfx.symm hx)
      have : y.sl = x.sl := congrArg (·.2.2.2.2.2.2.1) ey
      intro k hk
      exact ⟨hsin y hy k (this ▸ hk), trivial⟩
    have hlx : x.sl.length ≤ 1000 := by
      (first | ((first | refine Exists.elim (fix_mem hfx.symm hx) ?_ | refine conj_elim (fix_mem hfx.symm hx) ?_); rintro (y) tmp; (first | ((first | with_reducible refine Exists.elim tmp ?_ | with_reducible refine conj_elim tmp ?_); (try clear tmp); rintro (hy) (ey)) | obtain ⟨hy, ey⟩ := tmp)) | obtain ⟨y, hy, ey⟩ := fix_mem hfx.symm hx)
      have : y.sl = x.sl := congrArg (·.2.2.2.2.2.2.1) ey
      rw [← this]
      exact hsl y hy
    have hdone : plDone ((ks.take i).foldl plDone (l.map Nd.pl, rl)) x.k = x.sl.foldl plDec ((pre ++ x' :: post).map Nd.pl, ((ks.take i).foldl plDone (l.map Nd.pl, rl)).2) := by
      rw [pv1]
      show (plSl ((ks.take i).foldl plDone (l.map Nd.pl, rl)).1 x.k).foldl plDec (plPut ((ks.take i).foldl plDone (l.map Nd.pl, rl)).1 x.k (fun x => (x.1, -2, x.2.2)), ((ks.take i).foldl plDone (l.map Nd.pl, rl)).2) = _
      rw [← hpl, slx]
    have iv1 : IntsAre x'.vs x.sl := e4 ▸ ok₁₂.ivs x' hx'm
    clear hx' slx oki hpl hfx e2 e3 e4 pv1
    generalize hl1 : pre ++ x' :: post = l1 at *
    generalize hst : List.foldl plDone (List.map Nd.pl l, rl) (List.take i ks) = st at *
    (repeat' (fail_if_success with_reducible first | refine zzW ?_ | refine zzF ?_ | refine zzC ?_ | refine zzL ?_ | refine zzD ?_); first | k_unfold; try dsimp only | walk1 | dsimp only; walk1 | leave1; try dsimp only)
    rename Fr _ _ _ _ => F₁₃
    rename News _ _ _ _ => N₁₃
    refine For_gen ?_
    (repeat' (fail_if_success with_reducible first | refine zzW ?_ | refine zzF ?_ | refine zzC ?_ | refine zzL ?_ | refine zzD ?_); first | k_unfold; try dsimp only | walk1 | dsimp only; walk1 | leave1; try dsimp only)
    rw [← e1]
    refine nd_get_succ F₁₃ X N₁₃ (fun p hp => nd_mem (hd := [_, _, _, _]) hx'm hp) ?_
    (repeat' (fail_if_success with_reducible first | refine zzW ?_ | refine zzF ?_ | refine zzC ?_ | refine zzL ?_ | refine zzD ?_); first | k_unfold; try dsimp only | walk1 | dsimp only; walk1 | leave1; try dsimp only)
    refine piter_list F₁₃ N₁₃ (nd_mem (hd := [_, _, _, _]) hx'm (.head _)) ?_
    intro J h₁₄ F₁₄ N₁₄ lJ
    have okJ := on4 (pa := (rA, listOf rvi.toArray rci)) (pb := (nA, on)) (pc := (pA, instObj 153 dA)) (pd := (dA, planD w t1 t2 t3 t4 nA (.ref rA) a ta (b + i) tbi)) ok₁₂ lJ
    clear F₁₃ N₁₃
    (try dsimp only)
    refine turns_list (items := x'.vs.toArray) (fun j g'' m nw => All4 (g'' = g') (m (Str.ofString "self") = some (.ref pA)) (m (Str.ofString "n2i") = some (.ref nA)) (Ex3 fun l2 rv2 rc2 => All6 (NdOk w l2 on ([rA, nA, pA, dA] ++ J :: ((I, tiObj T (i + 1)) :: rest' : List (Addr × Obj)).map (·.1))) (l2.map Nd.fix = l1.map Nd.fix) (IntsAre rv2 ((x.sl.take j).foldl plDec (l1.map Nd.pl, st.2)).2) (rv2.length ≤ 1000 + 1000 * i + j) (nw = (rA, listOf rv2.toArray rc2) :: (nA, on) :: (pA, instObj 153 dA) :: (dA, planD w t1 t2 t3 t4 nA (.ref rA) a ta (b + i) tbi) :: (ndLed l2 ++ ((I, tiObj T (i + 1)) :: rest'))) (l2.map Nd.pl = ((x.sl.take j).foldl plDec (l1.map Nd.pl, st.2)).1))) rfl ?_ F₁₄ N₁₄ ⟨rfl, by (repeat (first | with_reducible assumption | refine Eq.trans (if_pos rfl) ?_; exact rfl | refine Eq.trans (if_neg (by decide)) ?_)), by (repeat (first | with_reducible assumption | refine Eq.trans (if_pos rfl) ?_; exact rfl | refine Eq.trans (if_neg (by decide)) ?_)), l1, rvi, rci, okJ, rfl, hrvi, hrli, rfl, rfl⟩ (Nat.zero_le _) ?_ ?_
    · rintro j g'' m' nw ⟨rfl, _, _, l2, rv2, rc2, okj, hfj, _, _, rfl, _⟩
      refine ⟨?_, off4 (pa := (rA, _)) (pb := (nA, _)) (pc := (pA, _)) (pd := (dA, _)) okj⟩
      (first | ((first | refine Exists.elim (fix_mem hfj hx'm) ?_ | refine conj_elim (fix_mem hfj hx'm) ?_); rintro (y) tmp; (first | ((first | with_reducible refine Exists.elim tmp ?_ | with_reducible refine conj_elim tmp ?_); (try clear tmp); rintro (hy) (ey)) | obtain ⟨hy, ey⟩ := tmp)) | obtain ⟨y, hy, ey⟩ := fix_mem hfj hx'm)
      have h1 : y.sa = x'.sa := congrArg (·.2.2.2.1) ey
      have h2 : y.vs = x'.vs := congrArg (·.2.2.2.2.2.1) ey
      refine ⟨y.c, ?_⟩
      rw [← h1, ← h2]
      exact nd_mem (hd := [_, _, _, _]) hy (.head _)
    · rintro j g'' m' nw hh tk' v hJ9 hv' Fj Nj hneJ Q2 hQ2
      (first | ((first | with_reducible refine Exists.elim hJ9 ?_ | with_reducible refine conj_elim hJ9 ?_); (try clear hJ9); rintro (rfl) tmp; (first | ((first | with_reducible refine Exists.elim tmp ?_ | with_reducible refine conj_elim tmp ?_); (try clear tmp); rintro (hm1') tmp; (first | ((first | with_reducible refine Exists.elim tmp ?_ | with_reducible refine conj_elim tmp ?_); (try clear tmp); rintro (hm2') tmp; (first | ((first | with_reducible refine Exists.elim tmp ?_ | with_reducible refine conj_elim tmp ?_); (try clear tmp); rintro (l2) tmp; (first | ((first | with_reducible refine Exists.elim tmp ?_ | with_reducible refine conj_elim tmp ?_); (try clear tmp); rintro (rv2) tmp; (first | ((first | with_reducible refine Exists.elim tmp ?_ | with_reducible refine conj_elim tmp ?_); (try clear tmp); rintro (rc2) tmp; (first | ((first | with_reducible refine Exists.elim tmp ?_ | with_reducible refine conj_elim tmp ?_); (try clear tmp); rintro (okj) tmp; (first | ((first | with_reducible refine Exists.elim tmp ?_ | with_reducible refine conj_elim tmp ?_); (try clear tmp); rintro (hfj) tmp; (first | ((first | with_reducible refine Exists.elim tmp ?_ | with_reducible refine conj_elim tmp ?_); (try clear tmp); rintro (hrv2) tmp; (first | ((first | with_reducible refine Exists.elim tmp ?_ | with_reducible refine conj_elim tmp ?_); (try clear tmp); rintro (hrl2) tmp; (first | ((first | with_reducible refine Exists.elim tmp ?_ | with_reducible refine conj_elim tmp ?_); (try clear tmp); rintro (rfl) (hplj)) | obtain ⟨rfl, hplj⟩ := tmp)) | obtain ⟨hrl2, rfl, hplj⟩ := tmp)) | obtain ⟨hrv2, hrl2, rfl, hplj⟩ := tmp)) | obtain ⟨hfj, hrv2, hrl2, rfl, hplj⟩ := tmp)) | obtain ⟨okj, hfj, hrv2, hrl2, rfl, hplj⟩ := tmp)) | obtain ⟨rc2, okj, hfj, hrv2, hrl2, rfl, hplj⟩ := tmp)) | obtain ⟨rv2, rc2, okj, hfj, hrv2, hrl2, rfl, hplj⟩ := tmp)) | obtain ⟨l2, rv2, rc2, okj, hfj, hrv2, hrl2, rfl, hplj⟩ := tmp)) | obtain ⟨hm2', l2, rv2, rc2, okj, hfj, hrv2, hrl2, rfl, hplj⟩ := tmp)) | obtain ⟨hm1', hm2', l2, rv2, rc2, okj, hfj, hrv2, hrl2, rfl, hplj⟩ := tmp)) | obtain ⟨rfl, hm1', hm2', l2, rv2, rc2, okj, hfj, hrv2, hrl2, rfl, hplj⟩ := hJ9)
      (first | ((first | refine Exists.elim (ints_get iv1 (by simpa using hv')) ?_ | refine conj_elim (ints_get iv1 (by simpa using hv')) ?_); rintro (sk) tmp; (first | ((first | with_reducible refine Exists.elim tmp ?_ | with_reducible refine conj_elim tmp ?_); (try clear tmp); rintro (stk) tmp; (first | ((first | with_reducible refine Exists.elim tmp ?_ | with_reducible refine conj_elim tmp ?_); (try clear tmp); rintro (rfl) (hsk)) | obtain ⟨rfl, hsk⟩ := tmp)) | obtain ⟨stk, rfl, hsk⟩ := tmp)) | obtain ⟨sk, stk, rfl, hsk⟩ := ints_get iv1 (by simpa using hv'))
      have hj : j < 1000 := by
        have := (List.getElem?_eq_some_iff.mp hsk).1
        omega
      have hkl2 : sk ∈ l2.map (·.k) := by
        rw [fix_keys hfj, fix_keys fx1]
        exact (hk1 _ (List.mem_of_getElem? hsk)).1
      (first | ((first | refine Exists.elim (nd_find hkl2) ?_ | refine conj_elim (nd_find hkl2) ?_); rintro (y) tmp; (first | ((first | with_reducible refine Exists.elim tmp ?_ | with_reducible refine conj_elim tmp ?_); (try clear tmp); rintro (hy) tmp; (first | ((first | with_reducible refine Exists.elim tmp ?_ | with_reducible refine conj_elim tmp ?_); (try clear tmp); rintro (hyk) (hyv)) | obtain ⟨hyk, hyv⟩ := tmp)) | obtain ⟨hy, hyk, hyv⟩ := tmp)) | obtain ⟨y, hy, hyk, hyv⟩ := nd_find hkl2)
      subst hyk
      have NJ : News g'' L hh ((rA, listOf rv2.toArray rc2) :: (nA, on) :: (pA, instObj 153 dA) :: (dA, planD w t1 t2 t3 t4 nA (.ref rA) a ta (b + i) tbi) :: (ndLed l2 ++ ((J, itObj x'.sa (j + 1)) :: (I, tiObj T (i + 1)) :: rest'))) := fun p hp => Nj p (by
        exact sub_at re6 hp)
      clear Nj F₁₄ N₁₄
      (repeat' (fail_if_success with_reducible first | refine zzW ?_ | refine zzF ?_ | refine zzC ?_ | refine zzL ?_ | refine zzD ?_); first | k_unfold; try dsimp only | walk1 | dsimp only; walk1 | leave1; try dsimp only)
      rename Fr _ _ _ _ => F₁₅
      rename News _ _ _ _ => N₁₅
      refine kda_item (knd := PySem.intKind P w) N₁₅ (.tail _ (.head _)) okj.dict (intKind_is _ _ _ _) hyv ?_
      (repeat' (fail_if_success with_reducible first | refine zzW ?_ | refine zzF ?_ | refine zzC ?_ | refine zzL ?_ | refine zzD ?_); first | k_unfold; try dsimp only | walk1 | dsimp only; walk1 | leave1; try dsimp only)
      rename Fr _ _ _ _ => F₁₆
      rename News _ _ _ _ => N₁₆
      refine nd_get_np F₁₆ X N₁₆ (fun p hp => nd_mem (hd := [_, _, _, _]) hy hp) ?_
      (repeat' (fail_if_success with_reducible first | refine zzW ?_ | refine zzF ?_ | refine zzC ?_ | refine zzL ?_ | refine zzD ?_); first | k_unfold; try dsimp only | walk1 | dsimp only; walk1 | leave1; try dsimp only)
      (first | ((first | refine Exists.elim (nd_split hy) ?_ | refine conj_elim (nd_split hy) ?_); rintro (pre2) tmp; (first | ((first | with_reducible refine Exists.elim tmp ?_ | with_reducible refine conj_elim tmp ?_); (try clear tmp); rintro (post2) (rfl)) | obtain ⟨post2, rfl⟩ := tmp)) | obtain ⟨pre2, post2, rfl⟩ := nd_split hy)
      refine nd4_set_np (rest := (J, itObj x'.sa (j + 1)) :: (I, tiObj T (i + 1)) :: rest') F₁₆ X N₁₆ okj ?_
      intro h₁₇ F₁₇ N₁₇ ok₁₇
      clear N₁₆ F₁₆
      generalize hy' : ({ y with np := y.np - 1, tp := _ } : Nd) = y' at N₁₇ ok₁₇
      have f1 : y'.ia = y.ia := by rw [← hy']
      have f2 : y'.fix = y.fix := by rw [← hy']; rfl
      have f3 : y'.pl = (y.k, y.np - 1, y.sl) := by rw [← hy']; rfl
      have f5 : y'.np = y.np - 1 := by rw [← hy']
      have hy'm : y' ∈ pre2 ++ y' :: post2 := by simp
      have pv2 : (pre2 ++ y' :: post2).map Nd.pl = plPut ((pre2 ++ y :: post2).map Nd.pl) y.k (fun x => (x.1, x.2.1 - 1, x.2.2)) := plPut_split okj.keys f3
      have fx2 : (pre2 ++ y' :: post2).map Nd.fix = l1.map Nd.fix := by rw [← hfj]; simp [f2]
      have np2 := plNp_of okj.keys hy
      have hdec : (x.sl.take (j + 1)).foldl plDec (l1.map Nd.pl, st.2) = ((pre2 ++ y' :: post2).map Nd.pl, if y.np - 1 = 0 then ((x.sl.take j).foldl plDec (l1.map Nd.pl, st.2)).2 ++ [y.k] else ((x.sl.take j).foldl plDec (l1.map Nd.pl, st.2)).2) := by
        rw [List.take_add_one, hsk]
        simp only [Option.toList, List.foldl_append, List.foldl_cons, List.foldl_nil]
        show (plPut _ y.k _, if plNp _ y.k - 1 = 0 then _ else _) = _
        rw [← hplj, ← pv2, np2]
      clear hy' okj hplj hfj f2 f3 np2 pv2
      generalize hl2 : pre2 ++ y' :: post2 = l2' at *
      generalize hst2 : List.foldl plDec (List.map Nd.pl l1, st.2) (List.take j x.sl) = st2 at *
      (repeat' (fail_if_success with_reducible first | refine zzW ?_ | refine zzF ?_ | refine zzC ?_ | refine zzL ?_ | refine zzD ?_); first | k_unfold; try dsimp only | walk1 | dsimp only; walk1 | leave1; try dsimp only)
      rename Fr _ _ _ _ => F₁₈
      rename News _ _ _ _ => N₁₈
      refine nd_get_np_at F₁₈ X N₁₈ f1 (fun p hp => nd_mem (hd := [_, _, _, _]) hy'm hp) ?_
      rw [f5]
      (repeat' (fail_if_success with_reducible first | refine zzW ?_ | refine zzF ?_ | refine zzC ?_ | refine zzL ?_ | refine zzD ?_); first | k_unfold; try dsimp only | walk1 | dsimp only; walk1 | leave1; try dsimp only)
      · rename (y.np - 1 = 0) => hz
        rename Fr _ _ _ _ => F₁₉
        rename News _ _ _ _ => N₁₉
        refine append_K F₁₉ N₁₉ (Upd.head (first4 (pa := (rA, listOf rv2.toArray rc2)) (pb := (nA, on)) (pc := (pA, instObj 153 dA)) (pd := (dA, planD w t1 t2 t3 t4 nA (.ref rA) a ta (b + i) tbi)) (rest := (J, itObj x'.sa (j + 1)) :: (I, tiObj T (i + 1)) :: rest') ok₁₇)) ?_ (by rw [sizeLine_eq]; simp only [List.size_toArray]; omega)
        intro h₂₀ F₂₀ N₂₀
        clear F₁₉ N₁₉
        (repeat' (fail_if_success with_reducible first | refine zzW ?_ | refine zzF ?_ | refine zzC ?_ | refine zzL ?_ | refine zzD ?_); first | k_unfold; try dsimp only | walk1 | dsimp only; walk1 | leave1; try dsimp only)
        rename Fr _ _ _ _ => F₂₁
        rename News _ _ _ _ => N₂₁
        rw [if_pos hz] at hdec
        rw [List.push_toArray] at N₂₁
        refine hQ2 _ _ ?_
        refine ⟨_, _, _, _, (rA, listOf (rv2 ++ [Value.int y.k stk]).toArray (rc2 + 1)) :: (nA, on) :: (pA, instObj 153 dA) :: (dA, planD w t1 t2 t3 t4 nA (.ref rA) a ta (b + i) tbi) :: (ndLed l2' ++ ((I, tiObj T (i + 1)) :: rest')), rfl, F₂₁, fun p hp => N₂₁ p (by
          exact sub_at re7 hp), rfl, ?_, ?_, l2', rv2 ++ [Value.int y.k stk], rc2 + 1, ok₁₇, fx2, ?_, ?_, rfl, ?_⟩
        · (repeat (first | with_reducible assumption | refine Eq.trans (if_pos rfl) ?_; exact rfl | refine Eq.trans (if_neg (by decide)) ?_))
        · (repeat (first | with_reducible assumption | refine Eq.trans (if_pos rfl) ?_; exact rfl | refine Eq.trans (if_neg (by decide)) ?_))
        · rw [hdec]; exact ints_snoc hrv2
        · simp; omega
        · rw [hdec]
      · rename ¬ (y.np - 1 = 0) => hz
        rename Fr _ _ _ _ => F₁₉
        rename News _ _ _ _ => N₁₉
        rw [if_neg hz] at hdec
        refine hQ2 _ _ ?_
        refine ⟨_, _, _, _, (rA, listOf rv2.toArray rc2) :: (nA, on) :: (pA, instObj 153 dA) :: (dA, planD w t1 t2 t3 t4 nA (.ref rA) a ta (b + i) tbi) :: (ndLed l2' ++ ((I, tiObj T (i + 1)) :: rest')), rfl, F₁₉, fun p hp => N₁₉ p (by
          exact sub_at re7 hp), rfl, ?_, ?_, l2', rv2, rc2, ok₁₇, fx2, ?_, ?_, rfl, ?_⟩
        · (repeat (first | with_reducible assumption | refine Eq.trans (if_pos rfl) ?_; exact rfl | refine Eq.trans (if_neg (by decide)) ?_))
        · (repeat (first | with_reducible assumption | refine Eq.trans (if_pos rfl) ?_; exact rfl | refine Eq.trans (if_neg (by decide)) ?_))
        · rw [hdec]; exact hrv2
        · omega
        · rw [hdec]
    · rintro g'' m' nw hh tk' ⟨rfl, hm1', hm2', l2, rv2, rc2, okj, hfj, hrv2, hrl2, rfl, hplj⟩ Fj Nj
      clear F₁₄ N₁₄
      have e : x'.vs.toArray.size = x.sl.length := by have := iv1.length; simp [this]
      rw [e, List.take_length, ← hdone] at hplj hrv2
      have okj' := NdOk.pop (a := [rA, nA, pA, dA]) okj
      (repeat' (fail_if_success with_reducible first | refine zzW ?_ | refine zzF ?_ | refine zzC ?_ | refine zzL ?_ | refine zzD ?_); first | k_unfold; try dsimp only | walk1 | dsimp only; walk1 | leave1; try dsimp only)
      refine plan_set_finished (rest := (I, tiObj T (i + 1)) :: rest') Fj X Nj okj' ?_
      intro h₂₁ F₂₁ N₂₁
      clear Fj Nj
      (repeat' (fail_if_success with_reducible first | refine zzW ?_ | refine zzF ?_ | refine zzC ?_ | refine zzL ?_ | refine zzD ?_); first | k_unfold; try dsimp only | walk1 | dsimp only; walk1 | leave1; try dsimp only)
      rename Fr _ _ _ _ => F₂₂
      rename News _ _ _ _ => N₂₂
      have hstep : (ks.take (i + 1)).foldl plDone (l.map Nd.pl, rl) = plDone st x.k := by
        rw [List.take_add_one, hpk]
        simp [hst]
      have ei : (b + (i : Int) + 1) = b + ((i + 1 : Nat) : Int) := by push_cast; omega
      rw [ei] at N₂₂
      refine hQ1 _ _ ?_
      refine ⟨_, _, _, _, _, rfl, F₂₂, pull4 N₂₂, rfl, ?_, ?_, l2, rv2, rc2, _, okj', hfj.trans fx1, ?_, ?_, rfl, ?_⟩
      · (repeat (first | with_reducible assumption | refine Eq.trans (if_pos rfl) ?_; exact rfl | refine Eq.trans (if_neg (by decide)) ?_))
      · (repeat (first | with_reducible assumption | refine Eq.trans (if_pos rfl) ?_; exact rfl | refine Eq.trans (if_neg (by decide)) ?_))
      · rw [hstep]; exact hrv2
      · omega
      · rw [hstep]; exact hplj
  · rintro g' m nw h tk ⟨rfl, hm1, hm2, li, rvi, rci, tbi, oki, hfx, hrvi, hrli, rfl, hpl⟩ Fi Ni
    clear F₈ N₈
    have e : vs.toArray.size = ks.length := by have := hvs.length; simp [this]
    have e' : ks.length = vs.length := by have := hvs.length; omega
    rw [e, List.take_length] at hpl hrvi
    rw [e, e'] at Ni
    (repeat' (fail_if_success with_reducible first | refine zzW ?_ | refine zzF ?_ | refine zzC ?_ | refine zzL ?_ | refine zzD ?_); first | k_unfold; try dsimp only | walk1 | dsimp only; walk1 | leave1; try dsimp only)
    exact hret li rvi rci tbi _ _ (NdOk.pop (a := [rA, nA, pA, dA]) oki) hfx hrvi hpl (done_of Fi Ni fun p hp => hp)
-- Ct
section
variable {prog : Program} {w : World} {A₀ : Around} {E : Value → Shared → Prop} {s' : Shared} {base g g₀ h : Heap} {outer : List Env} {L a e : Addr} {m : Str → Option Value} {name : Str} {scope : Scope} {cd : Value}
  {b₀ : Stmt} {suite : List Stmt} {pos np : Pos} {rest : List ExceptHandler} {Q : Flow → Shared → Prop} {news : List (Addr × Obj)} {KF : Frag}
  {p : Program} {loose : List Str} {mean : ExcName → Option Value} {mg mb : Str → Option Value} {x : Str} {X T' : String}
theorem looks_firstW {M : Model} {A : Around} {E : Value → Shared → Prop} {s : Shared} {base : Heap} {env : Env} {outer : List Env} {L e : Addr} {oe : Obj} {vs : Array Value} {a0 : Value} {Q : Unit → Shared → Prop}
    (hfr : A.frames = some (env :: outer)) (hl : s.heap.FunFrames base (env :: outer)) (hf : env.frame = some L)
    (he : s.heap.get? e = some oe) (hkb : base.StaysIn s.heap) (hen : base.get? e = none) (hd : oe.data = .fields vs) (h1 : vs[1]? = some .none) (h0 : vs[0]? = some a0)
    (h : ∀ h', Heap.HeldW base (env :: outer) e oe.cls a0 L h' → s.heap.UpToSlots h' → Q () { s with heap := h' }) : wpAny M A (noteFrame (.ref e) env) Q E s := by
  unfold noteFrame
  simp only [hf]
  refine wpAny_bind (wpAny_field he hd h1 ?_)
  rw [if_neg (by decide)]
  refine wpAny_entryW hfr hl hf he hkb hen hd (Array.getElem?_eq_some_iff.mp h1).1 h0 fun h' hN => ?_
  (first | ((first | with_reducible refine Exists.elim hN ?_ | with_reducible refine conj_elim hN ?_); (try clear hN); rintro (k1) tmp; (first | ((first | with_reducible refine Exists.elim tmp ?_ | with_reducible refine conj_elim tmp ?_); (try clear tmp); rintro (k2) tmp; (first | ((first | with_reducible refine Exists.elim tmp ?_ | with_reducible refine conj_elim tmp ?_); (try clear tmp); rintro (k3) (k4)) | obtain ⟨k3, k4⟩ := tmp)) | obtain ⟨k2, k3, k4⟩ := tmp)) | obtain ⟨k1, k2, k3, k4⟩ := hN)
  exact h h' ⟨k1, hen, k2, k3⟩ k4
/-- an exception of the interpreter, born in this very frame and caught there -/
theorem caught_new0 (K : Below A₀ base outer g) (hx : Heap.NewExc h s'.heap e X) (F : Fr g L h m) (N : News g L h news) (XB : KF.In base) (TB : Top p loose mean mg mb base)
    (D : KtsDicts (outer.filterMap (·.frame)) g) (T0 : KtsTurn (outer.filterMap (·.frame)) g₀ g)
    (ex : nsIn KF mainGlobals x = some none) (hv : bootBuiltins x = some (.type T')) (hn' : x ≠ "__name__")
    (hexc : isSubtype (.type T') (.type "BaseException") = pure true) (hnt : isSubtype (.type ((Manifest.find? T').elim "type" fun y => y.metatype)) (.type "tuple") = pure false) (hsub : isSubtype (.type X) (.type T') = pure true)
    (k : ∀ h' g', KtsTurn (outer.filterMap (·.frame)) g₀ g' → Fr g' L h' m → News g' L h' news → Below A₀ base outer g' → KF.In g' → Top p loose mean mg mb g' → KtsDicts (outer.filterMap (·.frame)) g' →
      wpAny (model prog w) ((A₀.deeper (envOf name scope L a cd)).mark (some (.ref e))) (execs (b₀ :: suite) (envOf name scope L a cd)) Q E { s' with heap := h' })
    (hk : scope.kind = .function := by rfl) (hx' : (envOf name scope L a cd).kindOf x = some .globalImplicit := by rfl) (hd : (x == ("__debug__" : Str)) = false := by decide)
    (hE : PassesOwnAt (model prog w) ((A₀.deeper (envOf name scope L a cd)).mark (some (.ref e))) (A₀.deeper (envOf name scope L a cd)) (envOf name scope L a cd) E := by passes_own) :
    wpAny (model prog w) (A₀.deeper (envOf name scope L a cd)) (noteFrame (.ref e) (envOf name scope L a cd))
      (fun _ s₂ => wpAny (model prog w) (A₀.deeper (envOf name scope L a cd)) (setFlight (.ref e) none) (fun _ s₃ =>
        wpAny (model prog w) (A₀.deeper (envOf name scope L a cd)) (handleBy (.ref e) (envOf name scope L a cd) (.ExceptHandler (some (.Name x np)) none (b₀ :: suite) pos :: rest)) Q E s₃) E s₂) E s' := by
  have K' := K.push (name := name) (a := a) (cd := cd) F hk
  have hin : ∀ env ∈ (envOf name scope L a cd :: outer), ∀ b, env.frame = some b → b ∈ (envOf name scope L a cd :: outer).filterMap (·.frame) := fun env he b hb => List.mem_filterMap.mpr ⟨env, he, hb⟩
  have hBG : ∀ b o, h.get? b = some o → b ∉ (envOf name scope L a cd :: outer).filterMap (·.frame) → (hideAll h ((envOf name scope L a cd :: outer).filterMap (·.frame))).get? b = some o := fun b o q nm => hideAll_get _ q nm
  have hl : ∀ q ∈ news, (hideAll h ((envOf name scope L a cd :: outer).filterMap (·.frame))).get? q.1 = some q.2 := fun q hq => by
    refine hideAll_get _ (N q hq).1 fun hm => ?_
    (first | ((first | refine Exists.elim (List.mem_filterMap.mp hm) ?_ | refine conj_elim (List.mem_filterMap.mp hm) ?_); rintro (env) tmp; (first | ((first | with_reducible refine Exists.elim tmp ?_ | with_reducible refine conj_elim tmp ?_); (try clear tmp); rintro (he) (hf)) | obtain ⟨he, hf⟩ := tmp)) | obtain ⟨env, he, hf⟩ := List.mem_filterMap.mp hm)
    rcases List.mem_cons.mp he with rfl | he
    · exact (N q hq).2.1 (Option.some.inj hf).symm
    · (first | ((first | refine Exists.elim ((K.frames.mem (List.mem_filterMap.mpr ⟨env, he, hf⟩)).2) ?_ | refine conj_elim ((K.frames.mem (List.mem_filterMap.mpr ⟨env, he, hf⟩)).2) ?_); rintro (o) tmp; (first | ((first | with_reducible refine Exists.elim tmp ?_ | with_reducible refine conj_elim tmp ?_); (try clear tmp); rintro (ho) (_)) | obtain ⟨ho, _⟩ := tmp)) | obtain ⟨o, ho, _⟩ := (K.frames.mem (List.mem_filterMap.mpr ⟨env, he, hf⟩)).2)
      rw [(N q hq).2.2] at ho; cases ho
  (first | ((first | refine Exists.elim (hx.there) ?_ | refine conj_elim (hx.there) ?_); rintro (ob) tmp; (first | ((first | with_reducible refine Exists.elim tmp ?_ | with_reducible refine conj_elim tmp ?_); (try clear tmp); rintro (tp) tmp; (first | ((first | with_reducible refine Exists.elim tmp ?_ | with_reducible refine conj_elim tmp ?_); (try clear tmp); rintro (he) tmp; (first | ((first | with_reducible refine Exists.elim tmp ?_ | with_reducible refine conj_elim tmp ?_); (try clear tmp); rintro (hcls) (hdt)) | obtain ⟨hcls, hdt⟩ := tmp)) | obtain ⟨he, hcls, hdt⟩ := tmp)) | obtain ⟨tp, he, hcls, hdt⟩ := tmp)) | obtain ⟨ob, tp, he, hcls, hdt⟩ := hx.there)
  have hen : (hideAll h ((envOf name scope L a cd :: outer).filterMap (·.frame))).get? e = none := by
    cases q : (hideAll h ((envOf name scope L a cd :: outer).filterMap (·.frame))).get? e with
    | none => rfl
    | some o => have := of_hideAll _ q; rw [hx.new] at this; cases this
  refine looks_firstW (a0 := tp) K'.stack ((funFrames_hide K'.frames hin).of_keeps fun b o hb _ => ⟨o, hx.keeps b o hb, rfl⟩) rfl he (fun b o hb => hx.keeps b o (of_hideAll _ hb)) hen hdt rfl rfl fun h₄ hheld₄ hsm₄ => ?_
  rw [hcls] at hheld₄
  refine wpAny_landsW hheld₄ fun h₅ hheld hsm₅' => ?_
  have hsm₅ := (Heap.UpToSlots.of_keeps hx.keeps).trans (hsm₄.trans hsm₅')
  (first | ((first | refine Exists.elim (kts_ground K F hBG hheld.1 hsm₅) ?_ | refine conj_elim (kts_ground K F hBG hheld.1 hsm₅) ?_); rintro (g₅) tmp; (first | ((first | with_reducible refine Exists.elim tmp ?_ | with_reducible refine conj_elim tmp ?_); (try clear tmp); rintro (T₅) tmp; (first | ((first | with_reducible refine Exists.elim tmp ?_ | with_reducible refine conj_elim tmp ?_); (try clear tmp); rintro (F₅) (K₅)) | obtain ⟨F₅, K₅⟩ := tmp)) | obtain ⟨T₅, F₅, K₅⟩ := tmp)) | obtain ⟨g₅, T₅, F₅, K₅⟩ := kts_ground K F hBG hheld.1 hsm₅)
  have X₅ : KF.In g₅ := XB.keeps K₅.stays
  have P₅ : TopRead p loose mg mb g₅ := topRead_of (TB.keeps K₅.stays)
  (first | ((first | refine Exists.elim (hheld.there) ?_ | refine conj_elim (hheld.there) ?_); rintro (ob') tmp; (first | ((first | with_reducible refine Exists.elim tmp ?_ | with_reducible refine conj_elim tmp ?_); (try clear tmp); rintro (hob) (hobc)) | obtain ⟨hob, hobc⟩ := tmp)) | obtain ⟨ob', hob, hobc⟩ := hheld.there)
  refine wpAny_handleBy_builtin (X := X) (T := T') (b := true) hexc hnt hsub (name_B F₅ X₅ P₅ ex hv hn' ⟨rfl, ⟨ob', hob, hobc⟩, ?_⟩ hk hx' hd)
  refine lands_againW hheld fun h₆ hfl₆ hsm₆ => ?_
  (first | ((first | refine Exists.elim (kts_ground K F hBG hfl₆.1 (hsm₅.trans hsm₆)) ?_ | refine conj_elim (kts_ground K F hBG hfl₆.1 (hsm₅.trans hsm₆)) ?_); rintro (g₆) tmp; (first | ((first | with_reducible refine Exists.elim tmp ?_ | with_reducible refine conj_elim tmp ?_); (try clear tmp); rintro (T₆) tmp; (first | ((first | with_reducible refine Exists.elim tmp ?_ | with_reducible refine conj_elim tmp ?_); (try clear tmp); rintro (F₆) (K₆)) | obtain ⟨F₆, K₆⟩ := tmp)) | obtain ⟨T₆, F₆, K₆⟩ := tmp)) | obtain ⟨g₆, T₆, F₆, K₆⟩ := kts_ground K F hBG hfl₆.1 (hsm₅.trans hsm₆))
  have Nl : News g₆ L h₆ news := fun q hq => ⟨hfl₆.1 _ _ (hl q hq), (N q hq).2.1, T₆.none_ _ (N q hq).2.2⟩
  exact wpAny_passesOwnAt hE (k h₆ g₆ (T0.trans T₆) F₆ Nl K₆ (XB.keeps K₆.stays) (TB.keeps K₆.stays) (D.turn T₆))
end
-- Mw0
section
open PySem PySem.W PyProof.Rows PySem.Spec PySem.Calls
set_option maxRecDepth 100000
theorem mw_gaslot : Slot "list_iterator" "__getattribute__" "object.__getattribute__" :=
  .of (owner := "object") (n := "__getattribute__") (by rw [typeLookup_type, builtinLookup_eq_fast]; kernel_rfl) (by decide +kernel) (by decide +kernel) (by decide +kernel)
    (by first | exact .inl (by decide +kernel) | exact .inr (by decide +kernel)) (by rw [isSubtype_type]; kernel_rfl)
theorem mw_lk : typeLookup (.type "list_iterator") "__next__" = pure (some (.builtin "list_iterator.__next__")) := by rw [typeLookup_type, builtinLookup_eq_fast]; kernel_rfl
theorem mw_type : typeOf (.builtin "list_iterator.__next__") = pure (.type "wrapper_descriptor") := by show builtinType _ = _; rw [builtinType_eq_fast]; kernel_rfl
theorem mw_getslot : Slot "wrapper_descriptor" "__get__" "wrapper_descriptor.__get__" :=
  .of (owner := "wrapper_descriptor") (n := "__get__") (by rw [typeLookup_type, builtinLookup_eq_fast]; kernel_rfl) (by decide +kernel) (by decide +kernel) (by decide +kernel)
    (by first | exact .inl (by decide +kernel) | exact .inr (by decide +kernel)) (by rw [isSubtype_type]; kernel_rfl)
theorem mw_noset : typeLookup (.type "wrapper_descriptor") "__set__" = pure none := by rw [typeLookup_type, builtinLookup_eq_fast]; kernel_rfl
theorem mw_nodel : typeLookup (.type "wrapper_descriptor") "__delete__" = pure none := by rw [typeLookup_type, builtinLookup_eq_fast]; kernel_rfl
theorem mw_getentry : entryFor table "wrapper_descriptor.__get__" = some Builtin.«wrapper_descriptor.__get__» := entryFor_of_tree (by kernel_rfl)
theorem mw_getargs (a b c : Value) : argsOk "wrapper_descriptor.__get__" ⟨[a, b, c], []⟩ := by unfold argsOk; kernel_rfl
theorem mw_owner : ".".intercalate ("list_iterator.__next__".cutAt '.').dropLast = "list_iterator" := by decide +kernel
theorem mw_sub : isSubtype (.type "list_iterator") (.type (".".intercalate ("list_iterator.__next__".cutAt '.').dropLast)) = pure true := by
  rw [mw_owner, isSubtype_type]; kernel_rfl
theorem mw_nohook : typeLookup (.type "list_iterator") "__getattr__" = pure none := by rw [typeLookup_type, builtinLookup_eq_fast]; kernel_rfl
noncomputable abbrev mwObj (it : Addr) : Obj := { cls := .type "method-wrapper", data := .fields #[.builtin "list_iterator.__next__", .ref it] }
section
variable {prog : Program} {w : World} {A : Around} {E : Value → Shared → Prop} {h : Heap} {g : Array GenState} {d : Drawn} {t : Nat} {os : OsState} {a : Addr} {o : Obj}
theorem mw_get {R : Result → Shared → Prop} (hx : h.get? a = some o) (hc : o.cls = .type "list_iterator") (hq : R (.ok (.ret (.ref h.objs.size))) ⟨h.push (mwObj a), g, d, t, os⟩) :
    codeAny (model prog w) A (.call (.builtin "wrapper_descriptor.__get__") ⟨[.builtin "list_iterator.__next__", .ref a, .type "list_iterator"], []⟩) R ⟨h, g, d, t, os⟩ := by
  have hT : (⟨h, g, d, t, os⟩ : Shared).TypeIs (.ref a) "list_iterator" := ⟨_, hx, hc⟩
  have hT5 : (⟨h, g, d, t, os⟩ : Shared).TypeIs (.builtin "list_iterator.__next__") "wrapper_descriptor" := mw_type
  have f8 := mw_sub
  refine codeAny_call_builtin mw_getslot.plain mw_getentry (mw_getslot.check _ _ _ _ _ _ _ _ hT5 (mw_getargs _ _ _) ?_)
  repeat (any_goals (first | assumption | wp_step))
theorem mw_entry {tk : Tok} {l : Addr} {i : Nat} {Q : Fin → Shared → Prop} (hx : h.get? a = some (itObj l i)) (hq : Q (.done (.ret (.ref h.objs.size))) ⟨h.push (mwObj a), g, d, t, os⟩) :
    wpAny (model prog w) A (Builtin.«object.__getattribute__» ⟨[.ref a, .str "__next__" tk], []⟩) Q E ⟨h, g, d, t, os⟩ := by
  have hT : (⟨h, g, d, t, os⟩ : Shared).TypeIs (.ref a) "list_iterator" := ⟨_, hx, rfl⟩
  have hT5 : (⟨h, g, d, t, os⟩ : Shared).TypeIs (.builtin "list_iterator.__next__") "wrapper_descriptor" := mw_type
  have f4 := mw_lk
  have f5 := mw_type
  have f6 := mw_getslot.lookup
  have f7 := mw_noset
  have f9 := mw_nodel
  repeat (any_goals (first | assumption | wp_step))
  refine mw_get hx rfl ?_
  repeat (any_goals (first | assumption | wp_step))
theorem mw_call {tk : Tok} {l : Addr} {i : Nat} {R : Result → Shared → Prop} (hx : h.get? a = some (itObj l i)) (hq : R (.ok (.ret (.ref h.objs.size))) ⟨h.push (mwObj a), g, d, t, os⟩) :
    codeAny (model prog w) A (.call (.builtin "object.__getattribute__") ⟨[.ref a, .str "__next__" tk], []⟩) R ⟨h, g, d, t, os⟩ :=
  codeAny_call_builtin mw_gaslot.plain PySem.F.entry_object_getattribute (mw_gaslot.check _ _ _ _ _ _ _ _ (show (⟨h, g, d, t, os⟩ : Shared).TypeIs (.ref a) "list_iterator" from ⟨_, hx, rfl⟩) (PySem.F.args_object_getattribute_2 _ _) (mw_entry hx hq))
theorem mw_attr {l : Addr} {i : Nat} {ex : Bool} {Q : Value → Shared → Prop} (hx : h.get? a = some (itObj l i)) (hq : Q (.ref h.objs.size) ⟨h.push (mwObj a), g, d, t + 1, os⟩) :
    wpAny (model prog w) A (getAttr (.ref a) "__next__" ex) Q E ⟨h, g, d, t, os⟩ := by
  have hT : (⟨h, g, d, t + 1, os⟩ : Shared).TypeIs (.ref a) "list_iterator" := ⟨_, hx, rfl⟩
  have f2 := mw_gaslot.lookup
  have f3 := mw_gaslot.bind (.ref a)
  have f4 := mw_nohook
  unfold getAttr getAttrBy
  cases ex
  all_goals (repeat (any_goals (first | assumption | (refine mw_call hx ?_) | wp_step)))
end
theorem mw_quiet {as : Args} : (Code.builtin "list_iterator.__next__" as).quiet = true := Code.quiet_builtin _ (by decide +kernel)
theorem mw_check {a : Addr} : checkBoundCall "list_iterator.__next__" ⟨[.ref a], []⟩ = pure () := by first | kernel_rfl | rfl
section
variable {prog : Program} {w : World} {A : Around} {E : Value → Shared → Prop} {s : Shared} {h₀ : Heap} {L it l u : Addr} {m : Str → Option Value} {news : List (Addr × Obj)} {G : Obj → List (Addr × Obj)} {i : Nat} {items : Array Value} {Q : Value → Shared → Prop} {P' : Fin → Shared → Prop}
theorem tree_item (F : Fr h₀ L s.heap m) (N : News h₀ L s.heap news) (U : UpdF it (itObj l i) news G) (hl : s.heap.IsList l items) {x : Value} (hx : items[i]? = some x)
    (h : ∀ h', Fr h₀ L h' m → News h₀ L h' (G (itObj l (i + 1))) → P' (.done (.ret x)) { s with heap := h' }) :
    wpAny (model prog w) A (Builtin.«list_iterator.__next__» ⟨[.ref it], []⟩) P' E s := by
  have ho := (N _ (upd_mem U)).1
  (first | ((first | with_reducible refine Exists.elim hl ?_ | with_reducible refine conj_elim hl ?_); (try clear hl); rintro (ol) tmp; (first | ((first | with_reducible refine Exists.elim tmp ?_ | with_reducible refine conj_elim tmp ?_); (try clear tmp); rintro (hol) tmp; (first | ((first | with_reducible refine Exists.elim tmp ?_ | with_reducible refine conj_elim tmp ?_); (try clear tmp); rintro (_) tmp; (first | ((first | with_reducible refine Exists.elim tmp ?_ | with_reducible refine conj_elim tmp ?_); (try clear tmp); rintro (nl) (hdl)) | obtain ⟨nl, hdl⟩ := tmp)) | obtain ⟨_, nl, hdl⟩ := tmp)) | obtain ⟨hol, _, nl, hdl⟩ := tmp)) | obtain ⟨ol, hol, _, nl, hdl⟩ := hl)
  show wpAny _ _ (field (.ref it) 0 >>= _) _ _ s
  refine wpAny_bind (wpAny_field ho rfl (x := .ref l) rfl ?_)
  show wpAny _ _ (if (Value.ref l == Value.none) = true then _ else _) _ _ s
  rw [if_neg (show ¬ ((Value.ref l == Value.none) = true) from Bool.false_ne_true)]
  show wpAny _ _ (field (.ref it) 1 >>= _) _ _ s
  refine wpAny_bind (wpAny_field ho rfl (x := .int i 0) rfl ?_)
  show wpAny _ _ (seqItems? (.ref l) >>= _) _ _ s
  refine wpAny_bind (wpAny_seqItems hol hdl ?_)
  simp only [Int.toNat_natCast, hx]
  refine wpAny_bind (wpAny_setField ho rfl (by simp) (wpAny_pure ?_))
  (first | ((first | refine Exists.elim (upd_at (f := Obj.mapFields (·.setIfInBounds 1 (rawInt ((i : Int) + 1)))) (o' := itObj l (i + 1)) F N U (by rfl) rfl) ?_ | refine conj_elim (upd_at (f := Obj.mapFields (·.setIfInBounds 1 (rawInt ((i : Int) + 1)))) (o' := itObj l (i + 1)) F N U (by rfl) rfl) ?_); rintro (F') (N')) | obtain ⟨F', N'⟩ := upd_at (f := Obj.mapFields (·.setIfInBounds 1 (rawInt ((i : Int) + 1)))) (o' := itObj l (i + 1)) F N U (by rfl) rfl)
  exact h _ F' N'
theorem tree_end (hh : A.handled = none) (F : Fr h₀ L s.heap m) (N : News h₀ L s.heap news) (U : UpdF it (itObj l i) news G) (hl : s.heap.IsList l items) (hx : items[i]? = none)
    (h : ∀ h₁ h' e, Fr h₀ L h₁ m → News h₀ L h₁ (G (itEnd i)) → Heap.NewExc h₁ h' e "StopIteration" → E (.ref e) { s with heap := h' }) :
    wpAny (model prog w) A (Builtin.«list_iterator.__next__» ⟨[.ref it], []⟩) P' E s := by
  have ho := (N _ (upd_mem U)).1
  (first | ((first | with_reducible refine Exists.elim hl ?_ | with_reducible refine conj_elim hl ?_); (try clear hl); rintro (ol) tmp; (first | ((first | with_reducible refine Exists.elim tmp ?_ | with_reducible refine conj_elim tmp ?_); (try clear tmp); rintro (hol) tmp; (first | ((first | with_reducible refine Exists.elim tmp ?_ | with_reducible refine conj_elim tmp ?_); (try clear tmp); rintro (_) tmp; (first | ((first | with_reducible refine Exists.elim tmp ?_ | with_reducible refine conj_elim tmp ?_); (try clear tmp); rintro (nl) (hdl)) | obtain ⟨nl, hdl⟩ := tmp)) | obtain ⟨_, nl, hdl⟩ := tmp)) | obtain ⟨hol, _, nl, hdl⟩ := tmp)) | obtain ⟨ol, hol, _, nl, hdl⟩ := hl)
  show wpAny _ _ (field (.ref it) 0 >>= _) _ _ s
  refine wpAny_bind (wpAny_field ho rfl (x := .ref l) rfl ?_)
  show wpAny _ _ (if (Value.ref l == Value.none) = true then _ else _) _ _ s
  rw [if_neg (show ¬ ((Value.ref l == Value.none) = true) from Bool.false_ne_true)]
  show wpAny _ _ (field (.ref it) 1 >>= _) _ _ s
  refine wpAny_bind (wpAny_field ho rfl (x := .int i 0) rfl ?_)
  show wpAny _ _ (seqItems? (.ref l) >>= _) _ _ s
  refine wpAny_bind (wpAny_seqItems hol hdl ?_)
  simp only [Int.toNat_natCast, hx]
  refine wpAny_bind (wpAny_rule (wpAny_bind (wpAny_setField ho rfl (by simp) ?_)))
  (first | ((first | refine Exists.elim (upd_at (f := Obj.mapFields (·.setIfInBounds 0 Value.none)) (o' := itEnd i) F N U (by rfl) rfl) ?_ | refine conj_elim (upd_at (f := Obj.mapFields (·.setIfInBounds 0 Value.none)) (o' := itEnd i) F N U (by rfl) rfl) ?_); rintro (F') (N')) | obtain ⟨F', N'⟩ := upd_at (f := Obj.mapFields (·.setIfInBounds 0 Value.none)) (o' := itEnd i) F N U (by rfl) rfl)
  show wpAny _ _ (newExc (.type "StopIteration") [] >>= _) _ _ _
  refine wpAny_bind ?_
  simp only [newExc, newTuple]
  refine wpAny_bind (wpAny_newObj_type ?_ (by size_fits))
  refine wpAny_bind (m := firstArgMember _ _) (wpAny_of_eq (a := Value.none) (by first | rfl | (simp only [firstArgMember]; rfl)) ?_)
  refine wpAny_newObj_type ?_ (by size_fits)
  simp only [raiseNew]
  refine wpAny_bind (wpAny_handled ?_)
  rw [hh]
  refine wpAny_bind (wpAny_pure (wpAny_throw ?_))
  refine h _ _ _ F' N' ⟨fun b o e => Heap.get?_push_of_some _ (Heap.get?_push_of_some _ e), ?_, ?_⟩
  · cases q : (Heap.update s.heap it (Obj.mapFields (·.setIfInBounds 0 Value.none))).get? _ with
    | none => rfl
    | some o =>
      have := Heap.lt_size q
      rw [Heap.size_push] at this
      exact absurd (Nat.lt_of_succ_lt this) (Nat.lt_irrefl _)
  · exact ⟨_, _, Heap.get?_push_size _ rfl, rfl, rfl⟩
theorem mw_callany (hu : s.heap.get? u = some (mwObj it))
    (tree : ∀ A' : Around, A'.handled = A.handled → wpAny (model prog w) A' (Builtin.«list_iterator.__next__» ⟨[.ref it], []⟩) (fun fin s' => ∃ r, fin = .done (.ret r) ∧ Q r s') E s) : wpAny (model prog w) A (call (.ref u) []) Q E s := by
  refine wpAny_call (codeAny_of_tree ?_)
  show wpAny _ A.in1 (callAny (.ref u) ⟨[], []⟩) _ _ s
  simp only [callAny]
  refine wpAny_bind (wpAny_load hu ?_)
  simp only [show (Value.type "method-wrapper" == Value.type "method" || Value.type "method-wrapper" == Value.type "builtin_function_or_method" || Value.type "method-wrapper" == Value.type "method-wrapper") = true by decide, if_true]
  refine KFB.if_so (by decide) ?_
  refine wpAny_bind (wpAny_of_eq (a := ()) mw_check ?_)
  refine wpAny_bind (wpAny_pure (wpAny_pure ?_))
  refine ⟨mw_quiet, codeAny_builtin entry_listiter_next ?_⟩
  refine wpAny_mono (tree _ ?_) (fun fin s' h => by (first | ((first | with_reducible refine Exists.elim h ?_ | with_reducible refine conj_elim h ?_); (try clear h); rintro (r) tmp; (first | ((first | with_reducible refine Exists.elim tmp ?_ | with_reducible refine conj_elim tmp ?_); (try clear tmp); rintro (rfl) (hr)) | obtain ⟨rfl, hr⟩ := tmp)) | obtain ⟨r, rfl, hr⟩ := h); exact hr) (fun _ _ x => x)
  rfl
theorem mwcall_item (F : Fr h₀ L s.heap m) (N : News h₀ L s.heap news) (hu : (u, mwObj it) ∈ news) (U : UpdF it (itObj l i) news G) (hl : s.heap.IsList l items) {x : Value} (hx : items[i]? = some x)
    (h : ∀ h', Fr h₀ L h' m → News h₀ L h' (G (itObj l (i + 1))) → Q x { s with heap := h' }) : wpAny (model prog w) A (call (.ref u) []) Q E s :=
  mw_callany (N _ hu).1 fun A' _ => tree_item F N U hl hx fun h' F' N' => ⟨_, rfl, h h' F' N'⟩
theorem mwcall_end (hh : A.handled = none) (F : Fr h₀ L s.heap m) (N : News h₀ L s.heap news) (hu : (u, mwObj it) ∈ news) (U : UpdF it (itObj l i) news G) (hl : s.heap.IsList l items) (hx : items[i]? = none)
    (h : ∀ h₁ h' e, Fr h₀ L h₁ m → News h₀ L h₁ (G (itEnd i)) → Heap.NewExc h₁ h' e "StopIteration" → E (.ref e) { s with heap := h' }) : wpAny (model prog w) A (call (.ref u) []) Q E s :=
  mw_callany (N _ hu).1 fun A' hA => tree_end (hA.trans hh) F N U hl hx h
theorem mw_new {ex : Bool} (F : Fr h₀ L s.heap m) (N : News h₀ L s.heap news) (hit : (it, itObj l i) ∈ news)
    (h : ∀ (u : Addr) h', Fr h₀ L h' m → News h₀ L h' ((u, mwObj it) :: news) → (∀ p ∈ news, @LT.lt Nat _ p.1 u) → Q (.ref u) { s with heap := h', toks := s.toks + 1 }) : wpAny (model prog w) A (getAttr (.ref it) "__next__" ex) Q E s := by
  (first | ((first | with_reducible refine Exists.elim s ?_ | with_reducible refine conj_elim s ?_); (try clear s); rintro (hp) tmp; (first | ((first | with_reducible refine Exists.elim tmp ?_ | with_reducible refine conj_elim tmp ?_); (try clear tmp); rintro (g) tmp; (first | ((first | with_reducible refine Exists.elim tmp ?_ | with_reducible refine conj_elim tmp ?_); (try clear tmp); rintro (d) tmp; (first | ((first | with_reducible refine Exists.elim tmp ?_ | with_reducible refine conj_elim tmp ?_); (try clear tmp); rintro (t) (os)) | obtain ⟨t, os⟩ := tmp)) | obtain ⟨d, t, os⟩ := tmp)) | obtain ⟨g, d, t, os⟩ := tmp)) | obtain ⟨hp, g, d, t, os⟩ := s)
  exact mw_attr (N _ hit).1 (h _ _ (F.push _) (News.push F N _ rfl) (fun q hq => Heap.lt_size (N q hq).1))
end
end
-- Td
section
variable {prog : Program} {w : World} {A : Around} {E : Value → Shared → Prop} {s : Shared} {env : Env} {Q : Flow → Shared → Prop} {iter target : PySem.Expr} {body : List Stmt} {pos : Pos} {K : Type} [DecidableEq K] {knd : KeyKind prog w K}
noncomputable def DStep (s : Shared) (L it : Addr) (oI : Obj) (J : Nat → Heap → (Str → Option Value) → List (Addr × Obj) → Prop) (Q : Flow → Shared → Prop) (i : Nat) (f : Flow) (s₃ : Shared) : Prop := match f with
  | .next | .cont => Ex5 fun g h tk m nw => All4 (s₃ = { s with heap := h, toks := tk }) (Fr g L h m) (News g L h ((it, oI) :: nw)) (J (i + 1) g m nw)
  | .brk => Q .next s₃
  | .ret v => Q (.ret v) s₃
/-- a for over a dict's keys; the ground may turn -/
theorem turns_dict {L it d : Addr} {o : Obj} {kvs : List (K × Value)} {ep : Nat} (J : Nat → Heap → (Str → Option Value) → List (Addr × Obj) → Prop) {g₀ : Heap} {m₀ : Str → Option Value} {nw₀ : List (Addr × Obj)} {oI₀ : Obj} {i₀ : Nat} (hh : A.handled = none) (ha : KdkAt knd o kvs ep)
    (hok : ∀ i g m nw, J i g m nw → (d, o) ∈ nw ∧ ∀ p ∈ nw, p.1 ≠ it)
    (F : Fr g₀ L s.heap m₀) (N : News g₀ L s.heap ((it, oI₀) :: nw₀)) (hI : KdkIter oI₀ d i₀ kvs.length ep) (hJ : J i₀ g₀ m₀ nw₀) (hi : i₀ ≤ kvs.length)
    (turn : ∀ i g m nw h tk k v key oI, J i g m nw → kvs[i]? = some (k, v) → knd.is k key = true → KdkIter oI d (i + 1) kvs.length ep → Fr g L h m → News g L h ((it, oI) :: nw) → (∀ p ∈ nw, p.1 ≠ it) →
      ∀ Q' : Flow → Shared → Prop, (∀ f s₃, DStep s L it oI J Q i f s₃ → Q' f s₃) → wpAny (model prog w) A (assign target env key) (fun _ s₂ => wpAny (model prog w) A (execs body env) Q' E s₂) E { s with heap := h, toks := tk })
    (done : ∀ g m nw h tk, J kvs.length g m nw → Fr g L h m → News g L h nw → Q .next { s with heap := h, toks := tk }) :
    ForTurns prog w A env target body Q E (.ref it) s := by
  refine ⟨fun n s' => Ex7 fun i g m nw h tk oI => All7 (n = kvs.length - i) (i ≤ kvs.length) (s' = { s with heap := h, toks := tk }) (Fr g L h m) (News g L h ((it, oI) :: nw)) (KdkIter oI d i kvs.length ep) (J i g m nw), kvs.length - i₀, ⟨i₀, g₀, m₀, nw₀, s.heap, s.toks, oI₀, rfl, hi, rfl, F, N, hI, hJ⟩, ?_⟩
  rintro n s' ⟨i, g, m, nw, h, tk, oI, rfl, hle, rfl, F₁, N₁, I₁, J₁⟩
  (first | ((first | refine Exists.elim (hok _ _ _ _ J₁) ?_ | refine conj_elim (hok _ _ _ _ J₁) ?_); rintro (hd) (hne)) | obtain ⟨hd, hne⟩ := hok _ _ _ _ J₁)
  have hIt : h.IsKeyIter it d i kvs.length ep := I₁.at (N₁ _ (.head _)).1
  have hLs : h.DictAt knd d kvs ep := ha.dictAt (N₁ _ (.tail _ hd)).1
  cases hx : kvs[i]? with
  | none =>
    have hi' : i = kvs.length := by
      have : kvs.length ≤ i := by simpa using hx
      omega
    subst hi'
    refine wpAny_pyNext_dict_end hh hIt hLs hx (fun h' hxb => ?_)
    (first | ((first | refine Exists.elim (ext_fr F₁ N₁ hne hxb) ?_ | refine conj_elim (ext_fr F₁ N₁ hne hxb) ?_); rintro (F₂) (N₂)) | obtain ⟨F₂, N₂⟩ := ext_fr F₁ N₁ hne hxb)
    exact done g m nw h' tk J₁ F₂ N₂
  | some kv =>
    (first | ((first | with_reducible refine Exists.elim kv ?_ | with_reducible refine conj_elim kv ?_); (try clear kv); rintro (k) (v)) | obtain ⟨k, v⟩ := kv)
    have hlt : i < kvs.length := by
      cases Nat.lt_or_ge i kvs.length with
      | inl h => exact h
      | inr h => rw [List.getElem?_eq_none h] at hx; cases hx
    refine wpAny_pyNext_dict_item hIt hLs hx (fun key h' hkey hit' hsb => ?_)
    (first | ((first | with_reducible refine Exists.elim hit' ?_ | with_reducible refine conj_elim hit' ?_); (try clear hit'); rintro (oI') tmp; (first | ((first | with_reducible refine Exists.elim tmp ?_ | with_reducible refine conj_elim tmp ?_); (try clear tmp); rintro (ho') tmp; (first | ((first | with_reducible refine Exists.elim tmp ?_ | with_reducible refine conj_elim tmp ?_); (try clear tmp); rintro (hc') (hd')) | obtain ⟨hc', hd'⟩ := tmp)) | obtain ⟨ho', hc', hd'⟩ := tmp)) | obtain ⟨oI', ho', hc', hd'⟩ := hit')
    have hz := N₁ _ (.head _)
    have F₂ : Fr g L h' m := F₁.change hsb hz.2.1 hz.2.2
    have N₂ : News g L h' ((it, oI') :: nw) := news_set (pre := []) N₁ (by simp) hne hsb ho'
    refine wpAny_mono (turn i g m nw h' tk k v key oI' J₁ hx hkey ⟨hc', hd'⟩ F₂ N₂ hne _ (fun _ _ x => x)) (fun _ s₂ h₂ => ?_) fun _ _ x => x
    refine wpAny_mono h₂ (fun f s₃ h₃ => ?_) fun _ _ x => x
    cases f with
    | next =>
      (first | ((first | with_reducible refine Exists.elim h₃ ?_ | with_reducible refine conj_elim h₃ ?_); (try clear h₃); rintro (g') tmp; (first | ((first | with_reducible refine Exists.elim tmp ?_ | with_reducible refine conj_elim tmp ?_); (try clear tmp); rintro (h'') tmp; (first | ((first | with_reducible refine Exists.elim tmp ?_ | with_reducible refine conj_elim tmp ?_); (try clear tmp); rintro (tk') tmp; (first | ((first | with_reducible refine Exists.elim tmp ?_ | with_reducible refine conj_elim tmp ?_); (try clear tmp); rintro (m') tmp; (first | ((first | with_reducible refine Exists.elim tmp ?_ | with_reducible refine conj_elim tmp ?_); (try clear tmp); rintro (nw') tmp; (first | ((first | with_reducible refine Exists.elim tmp ?_ | with_reducible refine conj_elim tmp ?_); (try clear tmp); rintro (rfl) tmp; (first | ((first | with_reducible refine Exists.elim tmp ?_ | with_reducible refine conj_elim tmp ?_); (try clear tmp); rintro (F') tmp; (first | ((first | with_reducible refine Exists.elim tmp ?_ | with_reducible refine conj_elim tmp ?_); (try clear tmp); rintro (N') (J')) | obtain ⟨N', J'⟩ := tmp)) | obtain ⟨F', N', J'⟩ := tmp)) | obtain ⟨rfl, F', N', J'⟩ := tmp)) | obtain ⟨nw', rfl, F', N', J'⟩ := tmp)) | obtain ⟨m', nw', rfl, F', N', J'⟩ := tmp)) | obtain ⟨tk', m', nw', rfl, F', N', J'⟩ := tmp)) | obtain ⟨h'', tk', m', nw', rfl, F', N', J'⟩ := tmp)) | obtain ⟨g', h'', tk', m', nw', rfl, F', N', J'⟩ := h₃)
      exact ⟨kvs.length - (i + 1), by omega, i + 1, g', m', nw', h'', tk', oI', rfl, hlt, rfl, F', N', ⟨hc', hd'⟩, J'⟩
    | cont =>
      (first | ((first | with_reducible refine Exists.elim h₃ ?_ | with_reducible refine conj_elim h₃ ?_); (try clear h₃); rintro (g') tmp; (first | ((first | with_reducible refine Exists.elim tmp ?_ | with_reducible refine conj_elim tmp ?_); (try clear tmp); rintro (h'') tmp; (first | ((first | with_reducible refine Exists.elim tmp ?_ | with_reducible refine conj_elim tmp ?_); (try clear tmp); rintro (tk') tmp; (first | ((first | with_reducible refine Exists.elim tmp ?_ | with_reducible refine conj_elim tmp ?_); (try clear tmp); rintro (m') tmp; (first | ((first | with_reducible refine Exists.elim tmp ?_ | with_reducible refine conj_elim tmp ?_); (try clear tmp); rintro (nw') tmp; (first | ((first | with_reducible refine Exists.elim tmp ?_ | with_reducible refine conj_elim tmp ?_); (try clear tmp); rintro (rfl) tmp; (first | ((first | with_reducible refine Exists.elim tmp ?_ | with_reducible refine conj_elim tmp ?_); (try clear tmp); rintro (F') tmp; (first | ((first | with_reducible refine Exists.elim tmp ?_ | with_reducible refine conj_elim tmp ?_); (try clear tmp); rintro (N') (J')) | obtain ⟨N', J'⟩ := tmp)) | obtain ⟨F', N', J'⟩ := tmp)) | obtain ⟨rfl, F', N', J'⟩ := tmp)) | obtain ⟨nw', rfl, F', N', J'⟩ := tmp)) | obtain ⟨m', nw', rfl, F', N', J'⟩ := tmp)) | obtain ⟨tk', m', nw', rfl, F', N', J'⟩ := tmp)) | obtain ⟨h'', tk', m', nw', rfl, F', N', J'⟩ := tmp)) | obtain ⟨g', h'', tk', m', nw', rfl, F', N', J'⟩ := h₃)
      exact ⟨kvs.length - (i + 1), by omega, i + 1, g', m', nw', h'', tk', oI', rfl, hlt, rfl, F', N', ⟨hc', hd'⟩, J'⟩
    | brk => exact h₃
    | ret v => exact h₃
theorem piter_dict {d L : Addr} {o : Obj} {kvs : List (K × Value)} {h₀ : Heap} {m : Str → Option Value} {news : List (Addr × Obj)} {Q : Value → Shared → Prop} (F : Fr h₀ L s.heap m) (N : News h₀ L s.heap news) (hp : (d, o) ∈ news) (hd : o.IsDictOf knd kvs) (lo : (d == sysModules) = false)
    (h : ∀ (I : Addr) h' oI ep, Fr h₀ L h' m → News h₀ L h' ((I, oI) :: news) → (∀ p ∈ news, @LT.lt Nat _ p.1 I) → KdkIter oI d 0 kvs.length ep → KdkAt knd o kvs ep → Q (.ref I) { s with heap := h' }) :
    wpAny (model prog w) A (pyIter (.ref d)) Q E s := by
  (first | ((first | refine Exists.elim (KdkAt.of hd) ?_ | refine conj_elim (KdkAt.of hd) ?_); rintro (ep) (ha)) | obtain ⟨ep, ha⟩ := KdkAt.of hd)
  exact wpAny_pyIter_dict lo (ha.dictAt (N _ hp).1) (h _ _ _ ep (F.push _) (News.push F N _ rfl) (fun q hq => Heap.lt_size (N q hq).1) ⟨rfl, rfl⟩ ha)
end
-- Fd
structure Ent where
  node : Int
  tk : Tok
  it : Addr
  mw : Addr
  sa : Addr
  pos : Nat
  idx : Int
  ti : Tok
noncomputable def Ent.led (e : Ent) : List (Addr × Obj) := [(e.it, itObj e.sa e.pos), (e.mw, mwObj e.it)]
noncomputable def entLed (es : List Ent) : List (Addr × Obj) := es.flatMap Ent.led
theorem entLed_cons (e : Ent) (es : List Ent) : entLed (e :: es) = (e.it, itObj e.sa e.pos) :: (e.mw, mwObj e.it) :: entLed es := by simp [entLed, Ent.led]
noncomputable def stkV (es : List Ent) : List Value := es.reverse.map fun e => Value.int e.node e.tk
noncomputable def itV (es : List Ent) : List Value := es.reverse.map fun e => Value.ref e.mw
noncomputable def kvE (es : List Ent) : List (Int × Value) := es.reverse.map fun e => (e.node, Value.int e.idx e.ti)
noncomputable def absE (es : List Ent) : List (Int × Nat) := es.map fun e => (e.node, e.pos)
theorem stkV_cons (e : Ent) (es : List Ent) : stkV (e :: es) = stkV es ++ [Value.int e.node e.tk] := by simp [stkV]
theorem itV_cons (e : Ent) (es : List Ent) : itV (e :: es) = itV es ++ [Value.ref e.mw] := by simp [itV]
theorem kvE_cons (e : Ent) (es : List Ent) : kvE (e :: es) = kvE es ++ [(e.node, Value.int e.idx e.ti)] := by simp [kvE]
noncomputable def slOf (l : List Nd) (k : Int) : List Int := ((l.find? fun x => x.k = k).map fun x => x.sl).getD []
theorem slOf_of {l : List Nd} (hn : (l.map (·.k)).Nodup) {x : Nd} (hx : x ∈ l) : slOf l x.k = x.sl := by
  have := plSl_of hn hx
  unfold plSl at this
  unfold slOf
  rw [← this, List.find?_map, Option.map_map]
  rfl
theorem len_le {α : Type} [DecidableEq α] : ∀ {a b : List α}, a.Nodup → (∀ x ∈ a, x ∈ b) → a.length ≤ b.length
  | [], _, _, _ => Nat.zero_le _
  | x :: a, b, hn, hs => by
    (first | ((first | refine Exists.elim (List.nodup_cons.mp hn) ?_ | refine conj_elim (List.nodup_cons.mp hn) ?_); rintro (h1) (h2)) | obtain ⟨h1, h2⟩ := List.nodup_cons.mp hn)
    have hx := hs x (.head _)
    have : a.length ≤ (b.erase x).length := len_le h2 fun y hy => (List.mem_erase_of_ne (fun e : y = x => h1 (e ▸ hy))).mpr (hs y (.tail _ hy))
    rw [List.length_erase_of_mem hx] at this
    have := List.length_pos_of_mem hx
    simp only [List.length_cons]
    omega
/-- the search's state, plainly -/
structure FSt (w : World) (l : List Nd) (es : List Ent) (fin : List Int) (S : Int → Bool) (n : Nat) (so od : Obj) : Prop where
  seen : ∀ k, S k = true ↔ k ∈ es.map (·.node) ∨ k ∈ fin
  nd : (es.map (·.node) ++ fin).Nodup
  sub : ∀ k ∈ es.map (·.node) ++ fin, k ∈ l.map (·.k)
  fino : FinOk (slOf l) fin
  inK : ∀ e ∈ es, ∃ x ∈ l, x.k = e.node ∧ x.sa = e.sa
  set : so.SetObjOf (PySem.intKind P w) S n
  cnt : n = es.length + fin.length
  dct : od.IsDictOf (PySem.intKind P w) (kvE es)
theorem FSt.small {w : World} {l : List Nd} {es : List Ent} {fin : List Int} {S : Int → Bool} {n : Nat} {so od : Obj} (f : FSt w l es fin S n so od) : n ≤ l.length := by
  have := len_le f.nd f.sub
  simp at this
  rw [f.cnt]; omega
noncomputable def muE (es : List Ent) (n : Nat) : Nat := (100 - n) * 2000 + (es.map fun e => 1001 - e.pos).sum
theorem valueAt_kvE {es : List Ent} (k : Int) : (valueAt (kvE es) k).isSome = decide (k ∈ es.map (·.node)) := by
  unfold valueAt kvE
  rw [Option.isSome_map]
  by_cases h : k ∈ es.map (·.node)
  · rw [decide_eq_true h]
    (first | ((first | refine Exists.elim (List.mem_map.mp h) ?_ | refine conj_elim (List.mem_map.mp h) ?_); rintro (e) tmp; (first | ((first | with_reducible refine Exists.elim tmp ?_ | with_reducible refine conj_elim tmp ?_); (try clear tmp); rintro (he) (rfl)) | obtain ⟨he, rfl⟩ := tmp)) | obtain ⟨e, he, rfl⟩ := List.mem_map.mp h)
    rw [List.find?_isSome]
    exact ⟨(e.node, Value.int e.idx e.ti), by simp; exact ⟨e, he, rfl, rfl, rfl⟩, by simp⟩
  · rw [decide_eq_false h]
    rw [Bool.eq_false_iff]
    intro hs
    rw [List.find?_isSome] at hs
    (first | ((first | with_reducible refine Exists.elim hs ?_ | with_reducible refine conj_elim hs ?_); (try clear hs); rintro (p) tmp; (first | ((first | with_reducible refine Exists.elim tmp ?_ | with_reducible refine conj_elim tmp ?_); (try clear tmp); rintro (hp) (e)) | obtain ⟨hp, e⟩ := tmp)) | obtain ⟨p, hp, e⟩ := hs)
    (first | ((first | refine Exists.elim (List.mem_map.mp hp) ?_ | refine conj_elim (List.mem_map.mp hp) ?_); rintro (x) tmp; (first | ((first | with_reducible refine Exists.elim tmp ?_ | with_reducible refine conj_elim tmp ?_); (try clear tmp); rintro (hx) (rfl)) | obtain ⟨hx, rfl⟩ := tmp)) | obtain ⟨x, hx, rfl⟩ := List.mem_map.mp hp)
    simp at e hx
    exact h (e ▸ List.mem_map_of_mem hx)
theorem valueAt_kvE_some {es : List Ent} {k : Int} (h : k ∈ es.map (·.node)) : ∃ i t, valueAt (kvE es) k = some (Value.int i t) := by
  have := valueAt_kvE (es := es) k
  rw [decide_eq_true h] at this
  (first | ((first | refine Exists.elim (Option.isSome_iff_exists.mp this) ?_ | refine conj_elim (Option.isSome_iff_exists.mp this) ?_); rintro (v) (hv)) | obtain ⟨v, hv⟩ := Option.isSome_iff_exists.mp this)
  rw [hv]
  unfold valueAt at hv
  (first | ((first | refine Exists.elim (Option.map_eq_some_iff.mp hv) ?_ | refine conj_elim (Option.map_eq_some_iff.mp hv) ?_); rintro (p) tmp; (first | ((first | with_reducible refine Exists.elim tmp ?_ | with_reducible refine conj_elim tmp ?_); (try clear tmp); rintro (hp) (rfl)) | obtain ⟨hp, rfl⟩ := tmp)) | obtain ⟨p, hp, rfl⟩ := Option.map_eq_some_iff.mp hv)
  (first | ((first | refine Exists.elim (List.mem_map.mp (List.mem_of_find?_eq_some hp)) ?_ | refine conj_elim (List.mem_map.mp (List.mem_of_find?_eq_some hp)) ?_); rintro (x) tmp; (first | ((first | with_reducible refine Exists.elim tmp ?_ | with_reducible refine conj_elim tmp ?_); (try clear tmp); rintro (hx) (rfl)) | obtain ⟨hx, rfl⟩ := tmp)) | obtain ⟨x, hx, rfl⟩ := List.mem_map.mp (List.mem_of_find?_eq_some hp))
  exact ⟨_, _, rfl⟩
theorem stored_kvE {es : List Ent} {k : Int} {v : Value} (h : k ∉ es.map (·.node)) : stored (kvE es) k v = kvE es ++ [(k, v)] := by
  refine stored_none ?_
  have := valueAt_kvE (es := es) k
  rw [decide_eq_false h] at this
  simpa using this
theorem without_kvE {es : List Ent} {k : Int} {v : Value} (h : k ∉ es.map (·.node)) : without (kvE es ++ [(k, v)]) k = kvE es := by
  have h' : k ∉ (kvE es).map (·.1) := by
    intro hm
    simp [kvE] at hm
    (first | ((first | with_reducible refine Exists.elim hm ?_ | with_reducible refine conj_elim hm ?_); (try clear hm); rintro (e) tmp; (first | ((first | with_reducible refine Exists.elim tmp ?_ | with_reducible refine conj_elim tmp ?_); (try clear tmp); rintro (he) (e')) | obtain ⟨he, e'⟩ := tmp)) | obtain ⟨e, he, e'⟩ := hm)
    exact h (e' ▸ List.mem_map_of_mem he)
  have e := without_of_not_mem (kvE es) k h'
  unfold without at e ⊢
  rw [List.filter_append, e]
  simp
-- Pl1
section
set_option compiler.extract_closed false
set_option Elab.async false
noncomputable def refsOf (parts : List Int) : List Int := (parts.filter fun p => p < 0).map fun p => -1 - p
noncomputable def rfR (rs : List (List Int)) (r : Int) : List Int := refsOf (rs.getD r.toNat [])
noncomputable def Gen (rf : Int → List Int) (T : List Int) : Prop := ∀ a r b, T = a ++ r :: b → ∀ k ∈ rf r, k ∈ a
noncomputable def Mx (rf : Int → List Int) (T : List Int) : Prop := ∀ r, 0 ≤ r → r < 5 → (∀ k ∈ rf r, k ∈ T) → r ∈ T
noncomputable def In5 (T : List Int) : Prop := ∀ r ∈ T, 0 ≤ r ∧ r < 5
theorem Gen.sub {rf : Int → List Int} {T K : List Int} (hG : Gen rf T) (hT : In5 T) (hM : Mx rf K) : ∀ r ∈ T, r ∈ K := by
  have key : ∀ n a r b, a.length < n → T = a ++ r :: b → r ∈ K := by
    intro n
    induction n with
    | zero => intro a r b h; omega
    | succ n ih =>
      intro a r b h e
      have hr := hT r (by rw [e]; simp)
      refine hM r hr.1 hr.2 fun k hk => ?_
      (first | ((first | refine Exists.elim (List.append_of_mem (hG a r b e k hk)) ?_ | refine conj_elim (List.append_of_mem (hG a r b e k hk)) ?_); rintro (a1) tmp; (first | ((first | with_reducible refine Exists.elim tmp ?_ | with_reducible refine conj_elim tmp ?_); (try clear tmp); rintro (a2) (ea)) | obtain ⟨a2, ea⟩ := tmp)) | obtain ⟨a1, a2, ea⟩ := List.append_of_mem (hG a r b e k hk))
      refine ih a1 k (a2 ++ r :: b) ?_ ?_
      · rw [ea] at h; simp at h; omega
      · rw [e, ea]; simp
  intro r hr
  (first | ((first | refine Exists.elim (List.append_of_mem hr) ?_ | refine conj_elim (List.append_of_mem hr) ?_); rintro (a) tmp; (first | ((first | with_reducible refine Exists.elim tmp ?_ | with_reducible refine conj_elim tmp ?_); (try clear tmp); rintro (b) (e)) | obtain ⟨b, e⟩ := tmp)) | obtain ⟨a, b, e⟩ := List.append_of_mem hr)
  exact key _ a r b (Nat.lt_succ_self _) e
theorem Gen.snoc {rf : Int → List Int} {T : List Int} (hG : Gen rf T) {r : Int} (hr : ∀ k ∈ rf r, k ∈ T) : Gen rf (T ++ [r]) := by
  intro a x b e k hk
  rcases List.eq_nil_or_concat b with rfl | ⟨b', y, rfl⟩
  · (first | ((first | refine Exists.elim (List.append_inj' e rfl) ?_ | refine conj_elim (List.append_inj' e rfl) ?_); rintro (e1) (e2)) | obtain ⟨e1, e2⟩ := List.append_inj' e rfl)
    cases e2
    subst e1
    exact hr k hk
  · have e' : T ++ [r] = (a ++ x :: b') ++ [y] := by rw [e]; simp
    (first | ((first | refine Exists.elim (List.append_inj' e' rfl) ?_ | refine conj_elim (List.append_inj' e' rfl) ?_); rintro (e1) (_)) | obtain ⟨e1, _⟩ := List.append_inj' e' rfl)
    exact hG a x b' e1 k hk
theorem Gen.nil {rf : Int → List Int} : Gen rf [] := fun a r b e => by simp at e
theorem mem_refsOf {parts : List Int} {k : Int} : k ∈ refsOf parts ↔ ∃ p ∈ parts, p < 0 ∧ -1 - p = k := by
  simp [refsOf, and_assoc]
theorem lackP_nil {σ : List (Int × List Int)} {parts : List Int} : lackP σ parts = [] ↔ ∀ k ∈ refsOf parts, k ∈ keysP σ := by
  unfold lackP
  rw [List.filter_eq_nil_iff]
  constructor
  · intro h k hk
    (first | ((first | refine Exists.elim (mem_refsOf.mp hk) ?_ | refine conj_elim (mem_refsOf.mp hk) ?_); rintro (p) tmp; (first | ((first | with_reducible refine Exists.elim tmp ?_ | with_reducible refine conj_elim tmp ?_); (try clear tmp); rintro (hp) tmp; (first | ((first | with_reducible refine Exists.elim tmp ?_ | with_reducible refine conj_elim tmp ?_); (try clear tmp); rintro (hn) (rfl)) | obtain ⟨hn, rfl⟩ := tmp)) | obtain ⟨hp, hn, rfl⟩ := tmp)) | obtain ⟨p, hp, hn, rfl⟩ := mem_refsOf.mp hk)
    have := h p hp
    simp [hn] at this
    exact this
  · intro h p hp hc
    simp at hc
    exact hc.2 (h _ (mem_refsOf.mpr ⟨p, hp, hc.1, rfl⟩))
theorem keysP_append (σ τ : List (Int × List Int)) : keysP (σ ++ τ) = keysP σ ++ keysP τ := by simp [keysP]
theorem lookP_append_left {σ τ : List (Int × List Int)} {k : Int} (h : k ∈ keysP σ) : lookP (σ ++ τ) k = lookP σ k := by
  unfold lookP
  rw [List.find?_append]
  (first | ((first | refine Exists.elim (List.mem_map.mp h) ?_ | refine conj_elim (List.mem_map.mp h) ?_); rintro (x) tmp; (first | ((first | with_reducible refine Exists.elim tmp ?_ | with_reducible refine conj_elim tmp ?_); (try clear tmp); rintro (hx) (e)) | obtain ⟨hx, e⟩ := tmp)) | obtain ⟨x, hx, e⟩ := List.mem_map.mp h)
  cases q : σ.find? (fun x => x.1 = k) with
  | none => exact absurd (decide_eq_true e) (by have := List.find?_eq_none.mp q x hx; simpa using this)
  | some y => simp
theorem lookP_append_right {σ τ : List (Int × List Int)} {k : Int} (h : k ∉ keysP σ) : lookP (σ ++ τ) k = lookP τ k := by
  unfold lookP
  rw [List.find?_append]
  have : σ.find? (fun x => x.1 = k) = none := by
    rw [List.find?_eq_none]
    intro x hx e
    exact h (List.mem_map.mpr ⟨x, hx, by simpa using e⟩)
  rw [this]
  simp
theorem textP_congr {σ τ : List (Int × List Int)} {parts : List Int} (h : ∀ k ∈ refsOf parts, lookP σ k = lookP τ k) : textP σ parts = textP τ parts := by
  unfold textP
  induction parts with
  | nil => rfl
  | cons p ps ih =>
    rw [List.flatMap_cons, List.flatMap_cons, ih fun k hk => h k ?_]
    · congr 1
      split
      · rfl
      · exact h _ (mem_refsOf.mpr ⟨p, .head _, by omega, rfl⟩)
    · (first | ((first | refine Exists.elim (mem_refsOf.mp hk) ?_ | refine conj_elim (mem_refsOf.mp hk) ?_); rintro (q) tmp; (first | ((first | with_reducible refine Exists.elim tmp ?_ | with_reducible refine conj_elim tmp ?_); (try clear tmp); rintro (hq) tmp; (first | ((first | with_reducible refine Exists.elim tmp ?_ | with_reducible refine conj_elim tmp ?_); (try clear tmp); rintro (hn) (e)) | obtain ⟨hn, e⟩ := tmp)) | obtain ⟨hq, hn, e⟩ := tmp)) | obtain ⟨q, hq, hn, e⟩ := mem_refsOf.mp hk)
      exact mem_refsOf.mpr ⟨q, .tail _ hq, hn, e⟩
structure TI (rs : List (List Int)) (σ : List (Int × List Int)) : Prop where
  gen : Gen (rfR rs) (keysP σ)
  nd : (keysP σ).Nodup
  rng : In5 (keysP σ)
  val : ∀ r ∈ keysP σ, lookP σ r = textP σ (rs.getD r.toNat [])
theorem TI.step {rs : List (List Int)} {σ : List (Int × List Int)} (h : TI rs σ) {r : Nat} (hr : r < 5) : TI rs (stepP rs σ r) := by
  unfold stepP
  split
  · rename_i hc
    have hrf : ∀ k ∈ rfR rs (r : Int), k ∈ keysP σ := lackP_nil.mp hc.2
    have hk : keysP (σ ++ [((r : Int), textP σ (rs.getD r []))]) = keysP σ ++ [(r : Int)] := by rw [keysP_append]; rfl
    refine ⟨hk ▸ h.gen.snoc hrf, ?_, ?_, ?_⟩
    · rw [hk]
      refine List.nodup_append.mpr ⟨h.nd, by simp, fun a ha b hb e => ?_⟩
      simp at hb
      subst hb
      exact hc.1 (e ▸ ha)
    · rw [hk]
      intro x hx
      rcases List.mem_append.mp hx with hx | hx
      · exact h.rng x hx
      · rw [List.mem_singleton.mp hx]; omega
    · rw [hk]
      intro x hx
      have tx : ∀ y, (∀ k ∈ rfR rs y, k ∈ keysP σ) → textP (σ ++ [((r : Int), textP σ (rs.getD r []))]) (rs.getD y.toNat []) = textP σ (rs.getD y.toNat []) := fun y hy => textP_congr fun k hk => lookP_append_left (hy k hk)
      rcases List.mem_append.mp hx with hx | hx
      · rw [lookP_append_left hx, h.val x hx, tx x]
        intro k hk
        (first | ((first | refine Exists.elim (List.append_of_mem hx) ?_ | refine conj_elim (List.append_of_mem hx) ?_); rintro (a) tmp; (first | ((first | with_reducible refine Exists.elim tmp ?_ | with_reducible refine conj_elim tmp ?_); (try clear tmp); rintro (b) (e)) | obtain ⟨b, e⟩ := tmp)) | obtain ⟨a, b, e⟩ := List.append_of_mem hx)
        have := h.gen a x b e k hk
        rw [e]
        exact List.mem_append_left _ this
      · rw [List.mem_singleton.mp hx, lookP_append_right hc.1, tx _ hrf]
        simp [lookP]
  · exact h
theorem TI.nil {rs : List (List Int)} : TI rs [] := ⟨Gen.nil, by simp [keysP], by simp [In5, keysP], by simp [keysP]⟩
theorem turnP_succ (rs : List (List Int)) (σ : List (Int × List Int)) (n : Nat) : turnP rs σ (n + 1) = stepP rs (turnP rs σ n) n := by
  unfold turnP; rw [List.range_succ, List.foldl_append]; rfl
theorem textsP_succ (rs : List (List Int)) (n : Nat) : textsP rs (n + 1) = turnP rs (textsP rs n) 5 := by
  unfold textsP; rw [List.range_succ, List.foldl_append]; rfl
theorem TI.turn {rs : List (List Int)} {σ : List (Int × List Int)} (h : TI rs σ) : ∀ {n : Nat}, n ≤ 5 → TI rs (turnP rs σ n)
  | 0, _ => h
  | n + 1, hn => by rw [turnP_succ]; exact (TI.turn h (by omega)).step (by omega)
theorem TI.texts {rs : List (List Int)} : ∀ n : Nat, TI rs (textsP rs n)
  | 0 => TI.nil
  | n + 1 => by rw [textsP_succ]; exact (TI.texts n).turn (by omega)
theorem stepP_pre (rs : List (List Int)) (σ : List (Int × List Int)) (r : Nat) : ∃ τ, stepP rs σ r = σ ++ τ := by
  unfold stepP
  split
  · exact ⟨_, rfl⟩
  · exact ⟨[], by simp⟩
theorem turnP_pre (rs : List (List Int)) (σ : List (Int × List Int)) (m : Nat) : ∀ d : Nat, ∃ τ, turnP rs σ (m + d) = turnP rs σ m ++ τ
  | 0 => ⟨[], by simp⟩
  | d + 1 => by
    (first | ((first | refine Exists.elim (turnP_pre rs σ m d) ?_ | refine conj_elim (turnP_pre rs σ m d) ?_); rintro (τ) (h)) | obtain ⟨τ, h⟩ := turnP_pre rs σ m d)
    (first | ((first | refine Exists.elim (stepP_pre rs (turnP rs σ (m + d)) (m + d)) ?_ | refine conj_elim (stepP_pre rs (turnP rs σ (m + d)) (m + d)) ?_); rintro (τ') (h')) | obtain ⟨τ', h'⟩ := stepP_pre rs (turnP rs σ (m + d)) (m + d))
    refine ⟨τ ++ τ', ?_⟩
    rw [← Nat.add_assoc, turnP_succ, h', h, List.append_assoc]
theorem stepP_mx {rs : List (List Int)} {σ : List (Int × List Int)} (h : Mx (rfR rs) (keysP σ)) {r : Nat} (hr : r < 5) : stepP rs σ r = σ := by
  unfold stepP
  refine if_neg fun hc => hc.1 (h r (by omega) (by omega) (lackP_nil.mp hc.2))
theorem turnP_mx {rs : List (List Int)} {σ : List (Int × List Int)} (h : Mx (rfR rs) (keysP σ)) : ∀ {n : Nat}, n ≤ 5 → turnP rs σ n = σ
  | 0, _ => rfl
  | n + 1, hn => by rw [turnP_succ, turnP_mx h (by omega)]; exact stepP_mx h (by omega)
theorem full5 {T : List Int} (hn : T.Nodup) (hr : In5 T) (hl : 5 ≤ T.length) : ∀ r, 0 ≤ r → r < 5 → r ∈ T := by
  intro r h0 h5
  by_cases h : r ∈ T
  · exact h
  · have := len_leK (a := r :: T) (b := [0, 1, 2, 3, 4]) (List.nodup_cons.mpr ⟨h, hn⟩) (fun k hk => by
      have : 0 ≤ k ∧ k < 5 := by
        rcases List.mem_cons.mp hk with rfl | hk
        · exact ⟨h0, h5⟩
        · exact hr k hk
      have : k = 0 ∨ k = 1 ∨ k = 2 ∨ k = 3 ∨ k = 4 := by omega
      simpa using this)
    simp at this
    omega
theorem small5 {T : List Int} (hn : T.Nodup) (hr : In5 T) : T.length ≤ 5 := by
  have := len_leK (a := T) (b := [0, 1, 2, 3, 4]) hn (fun k hk => by
    have := hr k hk
    have : k = 0 ∨ k = 1 ∨ k = 2 ∨ k = 3 ∨ k = 4 := by omega
    simpa using this)
  simpa using this
theorem texts_mx_aux {rs : List (List Int)} : ∀ n : Nat, Mx (rfR rs) (keysP (textsP rs n)) ∨ n ≤ (textsP rs n).length
  | 0 => .inr (Nat.zero_le _)
  | n + 1 => by
    by_cases hm : Mx (rfR rs) (keysP (textsP rs n))
    · left
      rw [textsP_succ, turnP_mx hm (by omega)]
      exact hm
    · right
      have hl : n ≤ (textsP rs n).length := by
        rcases texts_mx_aux n with h | h
        · exact absurd h hm
        · exact h
      have : ∃ r : Nat, r < 5 ∧ (∀ k ∈ rfR rs r, k ∈ keysP (textsP rs n)) ∧ (r : Int) ∉ keysP (textsP rs n) := by
        unfold Mx at hm
        simp only [Classical.not_forall] at hm
        (first | ((first | with_reducible refine Exists.elim hm ?_ | with_reducible refine conj_elim hm ?_); (try clear hm); rintro (r) tmp; (first | ((first | with_reducible refine Exists.elim tmp ?_ | with_reducible refine conj_elim tmp ?_); (try clear tmp); rintro (h0) tmp; (first | ((first | with_reducible refine Exists.elim tmp ?_ | with_reducible refine conj_elim tmp ?_); (try clear tmp); rintro (h5) tmp; (first | ((first | with_reducible refine Exists.elim tmp ?_ | with_reducible refine conj_elim tmp ?_); (try clear tmp); rintro (hk) (hn)) | obtain ⟨hk, hn⟩ := tmp)) | obtain ⟨h5, hk, hn⟩ := tmp)) | obtain ⟨h0, h5, hk, hn⟩ := tmp)) | obtain ⟨r, h0, h5, hk, hn⟩ := hm)
        refine ⟨r.toNat, by omega, ?_, ?_⟩
        · rw [Int.toNat_of_nonneg h0]; exact hk
        · rw [Int.toNat_of_nonneg h0]; exact hn
      (first | ((first | with_reducible refine Exists.elim this ?_ | with_reducible refine conj_elim this ?_); (try clear this); rintro (r) tmp; (first | ((first | with_reducible refine Exists.elim tmp ?_ | with_reducible refine conj_elim tmp ?_); (try clear tmp); rintro (h5) tmp; (first | ((first | with_reducible refine Exists.elim tmp ?_ | with_reducible refine conj_elim tmp ?_); (try clear tmp); rintro (hk) (hn)) | obtain ⟨hk, hn⟩ := tmp)) | obtain ⟨h5, hk, hn⟩ := tmp)) | obtain ⟨r, h5, hk, hn⟩ := this)
      have hin : (r : Int) ∈ keysP (turnP rs (textsP rs n) (r + 1)) := by
        (first | ((first | refine Exists.elim (turnP_pre rs (textsP rs n) 0 r) ?_ | refine conj_elim (turnP_pre rs (textsP rs n) 0 r) ?_); rintro (τ) (hτ)) | obtain ⟨τ, hτ⟩ := turnP_pre rs (textsP rs n) 0 r)
        rw [Nat.zero_add] at hτ
        have h0 : turnP rs (textsP rs n) 0 = textsP rs n := rfl
        rw [h0] at hτ
        rw [turnP_succ]
        unfold stepP
        by_cases hc : (r : Int) ∈ keysP (turnP rs (textsP rs n) r)
        · rw [if_neg fun h => h.1 hc]; exact hc
        · have hl : lackP (turnP rs (textsP rs n) r) (rs.getD r []) = [] := lackP_nil.mpr fun k hk' => by
            rw [hτ, keysP_append]
            exact List.mem_append_left _ (hk k hk')
          rw [if_pos ⟨hc, hl⟩, keysP_append]
          simp [keysP]
      (first | ((first | refine Exists.elim (turnP_pre rs (textsP rs n) (r + 1) (5 - (r + 1))) ?_ | refine conj_elim (turnP_pre rs (textsP rs n) (r + 1) (5 - (r + 1))) ?_); rintro (τ) (hτ)) | obtain ⟨τ, hτ⟩ := turnP_pre rs (textsP rs n) (r + 1) (5 - (r + 1)))
      (first | ((first | refine Exists.elim (turnP_pre rs (textsP rs n) 0 5) ?_ | refine conj_elim (turnP_pre rs (textsP rs n) 0 5) ?_); rintro (τ') (hτ')) | obtain ⟨τ', hτ'⟩ := turnP_pre rs (textsP rs n) 0 5)
      rw [Nat.zero_add] at hτ'
      have h0 : turnP rs (textsP rs n) 0 = textsP rs n := rfl
      rw [h0] at hτ'
      have e5 : r + 1 + (5 - (r + 1)) = 5 := by omega
      rw [e5] at hτ
      rw [textsP_succ, hτ', List.length_append]
      cases τ' with
      | nil =>
        exfalso
        rw [List.append_nil] at hτ'
        apply hn
        rw [← hτ', hτ, keysP_append]
        exact List.mem_append_left _ hin
      | cons x τ' => simp; omega
theorem texts_mx (rs : List (List Int)) : Mx (rfR rs) (keysP (textsP rs 5)) := by
  rcases texts_mx_aux (rs := rs) 5 with h | h
  · exact h
  · intro r h0 h5 _
    exact full5 (TI.texts 5).nd (TI.texts 5).rng (by simpa [keysP] using h) r h0 h5
end
-- Pl2
section
set_option compiler.extract_closed false
set_option Elab.async false
theorem find_plPut {st : PlSt} {k j : Int} {f : Int × Int × List Int → Int × Int × List Int} (hf : ∀ x, (f x).1 = x.1) : (plPut st k f).find? (fun x => x.1 = j) = (st.find? fun x => x.1 = j).map fun x => if j = k then f x else x := by
  unfold plPut
  induction st with
  | nil => rfl
  | cons x st ih =>
    rw [List.map_cons, List.find?_cons, List.find?_cons]
    have e : (if x.1 = k then f x else x).1 = x.1 := by split <;> simp [hf]
    rw [e]
    by_cases h : x.1 = j
    · simp [h]
    · simp only [h, decide_false]; exact ih
theorem find_none {st : PlSt} {j : Int} : st.find? (fun x => x.1 = j) = none ↔ j ∉ st.map (·.1) := by
  rw [List.find?_eq_none, List.mem_map]
  constructor
  · rintro h ⟨x, hx, e⟩; exact h x hx (by simpa using e)
  · intro h x hx e; exact h ⟨x, hx, by simpa using e⟩
theorem plNp_plPut {st : PlSt} {k j : Int} {f : Int × Int × List Int → Int × Int × List Int} (hf : ∀ x, (f x).1 = x.1) (g : Int → Int) (hg : ∀ x, (f x).2.1 = g x.2.1) : plNp (plPut st k f) j = if j = k ∧ k ∈ st.map (·.1) then g (plNp st j) else plNp st j := by
  unfold plNp
  rw [find_plPut hf]
  by_cases h : j = k
  · subst h
    cases q : st.find? (fun x => x.1 = j) with
    | none => rw [if_neg fun c => find_none.mp q c.2]; rfl
    | some x =>
      have : j ∈ st.map (·.1) := by
        by_cases hc : j ∈ st.map (·.1)
        · exact hc
        · rw [find_none.mpr hc] at q; cases q
      rw [if_pos ⟨rfl, this⟩]
      simp [hg]
  · rw [if_neg fun c => h c.1]
    cases st.find? (fun x => x.1 = j) <;> simp [h]
theorem plSl_plPut {st : PlSt} {k j : Int} {f : Int × Int × List Int → Int × Int × List Int} (hf : ∀ x, (f x).1 = x.1) (g : List Int → List Int) (hg : ∀ x, (f x).2.2 = g x.2.2) : plSl (plPut st k f) j = if j = k ∧ k ∈ st.map (·.1) then g (plSl st j) else plSl st j := by
  unfold plSl
  rw [find_plPut hf]
  by_cases h : j = k
  · subst h
    cases q : st.find? (fun x => x.1 = j) with
    | none => rw [if_neg fun c => find_none.mp q c.2]; rfl
    | some x =>
      have : j ∈ st.map (·.1) := by
        by_cases hc : j ∈ st.map (·.1)
        · exact hc
        · rw [find_none.mpr hc] at q; cases q
      rw [if_pos ⟨rfl, this⟩]
      simp [hg]
  · rw [if_neg fun c => h c.1]
    cases st.find? (fun x => x.1 = j) <;> simp [h]
theorem keys_plPut {st : PlSt} {k : Int} {f : Int × Int × List Int → Int × Int × List Int} (hf : ∀ x, (f x).1 = x.1) : (plPut st k f).map (·.1) = st.map (·.1) := by
  unfold plPut
  rw [List.map_map]
  refine List.map_congr_left fun x _ => ?_
  simp only [Function.comp]
  split <;> simp [hf]
section
variable {st : PlSt} {k j : Int}
theorem keys_N (g : Int → Int) : (plPut st k fun x => (x.1, g x.2.1, x.2.2)).map (·.1) = st.map (·.1) := keys_plPut fun _ => rfl
theorem keys_S (g : List Int → List Int) : (plPut st k fun x => (x.1, x.2.1, g x.2.2)).map (·.1) = st.map (·.1) := keys_plPut fun _ => rfl
theorem plNp_N (g : Int → Int) : plNp (plPut st k fun x => (x.1, g x.2.1, x.2.2)) j = if j = k ∧ k ∈ st.map (·.1) then g (plNp st j) else plNp st j := plNp_plPut (f := fun x => (x.1, g x.2.1, x.2.2)) (fun _ => rfl) g fun _ => rfl
theorem plSl_S (g : List Int → List Int) : plSl (plPut st k fun x => (x.1, x.2.1, g x.2.2)) j = if j = k ∧ k ∈ st.map (·.1) then g (plSl st j) else plSl st j := plSl_plPut (f := fun x => (x.1, x.2.1, g x.2.2)) (fun _ => rfl) g fun _ => rfl
theorem plNp_S (g : List Int → List Int) : plNp (plPut st k fun x => (x.1, x.2.1, g x.2.2)) j = plNp st j := by
  rw [plNp_plPut (f := fun x => (x.1, x.2.1, g x.2.2)) (fun _ => rfl) id fun _ => rfl]
  split <;> rfl
theorem plSl_N (g : Int → Int) : plSl (plPut st k fun x => (x.1, g x.2.1, x.2.2)) j = plSl st j := by
  rw [plSl_plPut (f := fun x => (x.1, g x.2.1, x.2.2)) (fun _ => rfl) id fun _ => rfl]
  split <;> rfl
end
theorem plNp_plGet {st : PlSt} {k j : Int} : plNp (plGet st k) j = plNp st j := by
  unfold plGet
  split
  · rfl
  · unfold plNp
    rw [List.find?_append]
    cases st.find? (fun x => x.1 = j) with
    | some x => rfl
    | none => by_cases h : k = j <;> simp [h]
theorem plSl_plGet {st : PlSt} {k j : Int} : plSl (plGet st k) j = plSl st j := by
  unfold plGet
  split
  · rfl
  · unfold plSl
    rw [List.find?_append]
    cases st.find? (fun x => x.1 = j) with
    | some x => rfl
    | none => by_cases h : k = j <;> simp [h]
theorem keys_plGet {st : PlSt} {k x : Int} : x ∈ (plGet st k).map (·.1) ↔ x ∈ st.map (·.1) ∨ x = k := by
  unfold plGet
  split
  · rename_i h
    constructor
    · exact .inl
    · rintro (h' | rfl)
      · exact h'
      · exact h
  · rw [List.map_append, List.mem_append]; simp
theorem nd_plGet {st : PlSt} {k : Int} (h : (st.map (·.1)).Nodup) : ((plGet st k).map (·.1)).Nodup := by
  unfold plGet
  split
  · exact h
  · rename_i hk
    rw [List.map_append]
    refine List.nodup_append.mpr ⟨h, by simp, fun a ha b hb e => ?_⟩
    simp at hb
    exact hk (by rw [← hb, ← e]; exact ha)
section
variable {k p x j : Int} {st : PlSt}
theorem keys_plSucc : x ∈ (plSucc k st p).map (·.1) ↔ x ∈ st.map (·.1) ∨ x = p := by
  unfold plSucc
  rw [keys_S (fun l => l ++ [k]), keys_plGet]
theorem nd_plSucc (h : (st.map (·.1)).Nodup) : ((plSucc k st p).map (·.1)).Nodup := by
  unfold plSucc
  rw [keys_S (fun l => l ++ [k])]
  exact nd_plGet h
theorem plNp_plSucc : plNp (plSucc k st p) j = plNp st j := by
  unfold plSucc
  rw [plNp_S (fun l => l ++ [k]), plNp_plGet]
theorem plSl_plSucc : plSl (plSucc k st p) j = if j = p then plSl st j ++ [k] else plSl st j := by
  unfold plSucc
  rw [plSl_S (fun l => l ++ [k]), plSl_plGet]
  have : p ∈ (plGet st p).map (·.1) := keys_plGet.mpr (.inr rfl)
  simp only [this, and_true]
end
theorem fold_plSucc (k : Int) : ∀ (ps : List Int) (st : PlSt), (∀ x, x ∈ (ps.foldl (plSucc k) st).map (·.1) ↔ x ∈ st.map (·.1) ∨ x ∈ ps) ∧ ((st.map (·.1)).Nodup → ((ps.foldl (plSucc k) st).map (·.1)).Nodup) ∧ (∀ j, plNp (ps.foldl (plSucc k) st) j = plNp st j) ∧ (∀ j, plSl (ps.foldl (plSucc k) st) j = plSl st j ++ List.replicate (ps.count j) k)
  | [], st => ⟨by simp, id, fun _ => rfl, by simp⟩
  | p :: ps, st => by
    (first | ((first | refine Exists.elim (fold_plSucc k ps (plSucc k st p)) ?_ | refine conj_elim (fold_plSucc k ps (plSucc k st p)) ?_); rintro (h1) tmp; (first | ((first | with_reducible refine Exists.elim tmp ?_ | with_reducible refine conj_elim tmp ?_); (try clear tmp); rintro (h2) tmp; (first | ((first | with_reducible refine Exists.elim tmp ?_ | with_reducible refine conj_elim tmp ?_); (try clear tmp); rintro (h3) (h4)) | obtain ⟨h3, h4⟩ := tmp)) | obtain ⟨h2, h3, h4⟩ := tmp)) | obtain ⟨h1, h2, h3, h4⟩ := fold_plSucc k ps (plSucc k st p))
    refine ⟨fun x => ?_, fun h => h2 (nd_plSucc h), fun j => ?_, fun j => ?_⟩
    · rw [List.foldl_cons, h1, keys_plSucc, List.mem_cons, or_assoc]
    · rw [List.foldl_cons, h3, plNp_plSucc]
    · rw [List.foldl_cons, h4, plSl_plSucc, List.count_cons]
      by_cases e : j = p
      · subst e
        simp only [if_true, beq_self_eq_true, List.append_assoc, List.singleton_append]
        rw [List.replicate_succ]
      · have e' : (p == j) = false := by simpa using Ne.symm e
        simp [e, e']
/-- what the adds make -/
structure PA (rf : Int → List Int) (n : Nat) (st : PlSt) : Prop where
  nd : (st.map (·.1)).Nodup
  sub : In5 (st.map (·.1))
  has : ∀ r : Int, 0 ≤ r → r < n → r ∈ st.map (·.1)
  np : ∀ j, plNp st j = if 0 ≤ j ∧ j < n then ((rf j).length : Int) else 0
  sl : ∀ j r, (plSl st j).count r = if 0 ≤ r ∧ r < n then (rf r).count j else 0
  len : ∀ j, (plSl st j).length ≤ 3 * n
theorem PA.nil {rf : Int → List Int} : PA rf 0 [] := by
  refine ⟨by simp, by simp [In5], fun r h0 h1 => by omega, fun j => ?_, fun j r => ?_, fun j => by simp [plSl]⟩
  · rw [if_neg (by omega)]; rfl
  · rw [if_neg (by omega)]; rfl
theorem PA.add {rf : Int → List Int} {n : Nat} {st : PlSt} (h : PA rf n st) (hrf : ∀ r, ∀ k ∈ rf r, 0 ≤ k ∧ k < 5) (h3 : ∀ r, (rf r).length ≤ 3) (hn : n < 5) : PA rf (n + 1) (plAdd st (n : Int) (rf n)) := by
  unfold plAdd
  (first | ((first | refine Exists.elim (fold_plSucc (n : Int) (rf n) (plPut (plGet st (n : Int)) (n : Int) fun x => (x.1, x.2.1 + ((rf n).length : Int), x.2.2))) ?_ | refine conj_elim (fold_plSucc (n : Int) (rf n) (plPut (plGet st (n : Int)) (n : Int) fun x => (x.1, x.2.1 + ((rf n).length : Int), x.2.2))) ?_); rintro (f1) tmp; (first | ((first | with_reducible refine Exists.elim tmp ?_ | with_reducible refine conj_elim tmp ?_); (try clear tmp); rintro (f2) tmp; (first | ((first | with_reducible refine Exists.elim tmp ?_ | with_reducible refine conj_elim tmp ?_); (try clear tmp); rintro (f3) (f4)) | obtain ⟨f3, f4⟩ := tmp)) | obtain ⟨f2, f3, f4⟩ := tmp)) | obtain ⟨f1, f2, f3, f4⟩ := fold_plSucc (n : Int) (rf n) (plPut (plGet st (n : Int)) (n : Int) fun x => (x.1, x.2.1 + ((rf n).length : Int), x.2.2)))
  have k1 : ∀ x, x ∈ (plPut (plGet st (n : Int)) (n : Int) fun x => (x.1, x.2.1 + ((rf n).length : Int), x.2.2)).map (·.1) ↔ x ∈ st.map (·.1) ∨ x = (n : Int) := fun x => by
    rw [keys_N (fun v => v + ((rf n).length : Int)), keys_plGet]
  refine ⟨f2 ?_, ?_, ?_, fun j => ?_, fun j r => ?_, fun j => ?_⟩
  · rw [keys_N (fun v => v + ((rf n).length : Int))]; exact nd_plGet h.nd
  · intro x hx
    rcases (f1 x).mp hx with hx | hx
    · rcases (k1 x).mp hx with hx | rfl
      · exact h.sub x hx
      · omega
    · exact hrf _ x hx
  · intro r h0 h1
    refine (f1 r).mpr (.inl ((k1 r).mpr ?_))
    by_cases e : r = n
    · exact .inr e
    · exact .inl (h.has r h0 (by omega))
  · rw [f3, plNp_N (fun v => v + ((rf n).length : Int)), plNp_plGet, h.np]
    have : (n : Int) ∈ (plGet st (n : Int)).map (·.1) := keys_plGet.mpr (.inr rfl)
    by_cases e : j = n
    · subst e
      rw [if_pos ⟨rfl, this⟩, if_neg (show ¬ ((0 : Int) ≤ n ∧ (n : Int) < n) by omega), if_pos (show (0 : Int) ≤ n ∧ (n : Int) < ((n + 1 : Nat) : Int) by omega)]
      omega
    · rw [if_neg fun c => e c.1]
      by_cases q : 0 ≤ j ∧ j < n
      · rw [if_pos q, if_pos (show 0 ≤ j ∧ j < ((n + 1 : Nat) : Int) by omega)]
      · rw [if_neg q, if_neg (show ¬ (0 ≤ j ∧ j < ((n + 1 : Nat) : Int)) by omega)]
  · rw [f4, plSl_N (fun v => v + ((rf n).length : Int)), plSl_plGet, List.count_append, h.sl, List.count_replicate]
    by_cases e : r = n
    · subst e
      rw [if_neg (show ¬ ((0 : Int) ≤ n ∧ (n : Int) < n) by omega), if_pos (show (0 : Int) ≤ n ∧ (n : Int) < ((n + 1 : Nat) : Int) by omega)]
      simp
    · have e' : ((n : Int) == r) = false := by simpa using Ne.symm e
      rw [e']
      by_cases q : 0 ≤ r ∧ r < n
      · rw [if_pos q, if_pos (show 0 ≤ r ∧ r < ((n + 1 : Nat) : Int) by omega)]; simp
      · rw [if_neg q, if_neg (show ¬ (0 ≤ r ∧ r < ((n + 1 : Nat) : Int)) by omega)]; simp
  · rw [f4, plSl_N (fun v => v + ((rf n).length : Int)), plSl_plGet, List.length_append, List.length_replicate]
    have := h.len j
    have h4 := h3 n
    have := List.count_le_length (a := j) (l := rf n)
    omega
noncomputable def plAdds (rs : List (List Int)) (n : Nat) : PlSt := (List.range n).foldl (fun st (r : Nat) => plAdd st (r : Int) (refsOf (rs.getD r []))) []
theorem plAdds_succ (rs : List (List Int)) (n : Nat) : plAdds rs (n + 1) = plAdd (plAdds rs n) n (rfR rs n) := by
  unfold plAdds
  rw [List.range_succ, List.foldl_append]
  rfl
theorem PA.adds {rs : List (List Int)} (hrf : ∀ r, ∀ k ∈ rfR rs r, 0 ≤ k ∧ k < 5) (h3 : ∀ r, (rfR rs r).length ≤ 3) : ∀ n, n ≤ 5 → PA (rfR rs) n (plAdds rs n)
  | 0, _ => PA.nil
  | n + 1, h => by rw [plAdds_succ]; exact (PA.adds hrf h3 n (by omega)).add hrf h3 (by omega)
/-- how many of a rule's refs are not told yet -/
noncomputable def rem (rf : Int → List Int) (T : List Int) (r : Int) : Nat := ((rf r).filter fun k => k ∉ T).length
theorem rem_zero {rf : Int → List Int} {T : List Int} {r : Int} : rem rf T r = 0 ↔ ∀ k ∈ rf r, k ∈ T := by
  unfold rem
  rw [List.length_eq_zero_iff, List.filter_eq_nil_iff]
  simp
theorem filter_snoc {T : List Int} {k : Int} (hk : k ∉ T) : ∀ l : List Int, (l.filter fun x => x ∉ T).length = (l.filter fun x => x ∉ T ++ [k]).length + l.count k
  | [] => rfl
  | x :: l => by
    have ih := filter_snoc hk l
    rw [List.filter_cons, List.filter_cons, List.count_cons]
    by_cases e : x = k
    · subst e
      simp only [hk, List.mem_append, List.mem_singleton, or_true, not_true_eq_false, not_false_eq_true, decide_true, decide_false, beq_self_eq_true, if_true, Bool.false_eq_true, if_false, List.length_cons]
      simp only [List.mem_append, List.mem_singleton] at ih
      omega
    · have e' : (x == k) = false := by simpa using e
      rw [e']
      by_cases q : x ∈ T
      · simp only [q, List.mem_append, true_or, not_true_eq_false, decide_false, Bool.false_eq_true, if_false]
        simp only [List.mem_append, List.mem_singleton] at ih
        simp only [List.mem_singleton]
        omega
      · simp only [q, e, List.mem_append, List.mem_singleton, or_self, not_false_eq_true, decide_true, if_true, List.length_cons, Bool.false_eq_true, if_false]
        simp only [List.mem_append, List.mem_singleton] at ih
        omega
theorem rem_snoc {rf : Int → List Int} {T : List Int} {k r : Int} (hk : k ∉ T) : rem rf T r = rem rf (T ++ [k]) r + (rf r).count k := filter_snoc hk (rf r)
theorem fold_plDec : ∀ (ss : List Int) (st : PlSt) (rl : List Int), (∀ x ∈ ss, x ∈ st.map (·.1)) → (∀ x ∈ ss, (ss.count x : Int) ≤ plNp st x) → (∀ x ∈ ss, x ∉ rl) → rl.Nodup →
    ((ss.foldl plDec (st, rl)).1.map (·.1) = st.map (·.1)) ∧ (∀ j, plSl (ss.foldl plDec (st, rl)).1 j = plSl st j) ∧ (∀ j, plNp (ss.foldl plDec (st, rl)).1 j = plNp st j - ss.count j) ∧
    (ss.foldl plDec (st, rl)).2.Nodup ∧ (∀ r, r ∈ (ss.foldl plDec (st, rl)).2 ↔ r ∈ rl ∨ (r ∈ ss ∧ plNp (ss.foldl plDec (st, rl)).1 r = 0))
  | [], st, rl, _, _, _, hn => ⟨rfl, fun _ => rfl, by simp, hn, by simp⟩
  | s :: ss, st, rl, hk, hc, hr, hn => by
    have hks := hk s (.head _)
    have hcs := hc s (.head _)
    rw [List.count_cons_self] at hcs
    have k1 : (plPut st s fun x => (x.1, x.2.1 - 1, x.2.2)).map (·.1) = st.map (·.1) := keys_plPut fun _ => rfl
    have n1 : ∀ j, plNp (plPut st s fun x => (x.1, x.2.1 - 1, x.2.2)) j = if j = s then plNp st j - 1 else plNp st j := fun j => by
      rw [plNp_N (fun v => v - 1)]
      simp only [hks, and_true]
    have s1 : ∀ j, plSl (plPut st s fun x => (x.1, x.2.1 - 1, x.2.2)) j = plSl st j := fun j => plSl_N (fun v => v - 1)
    have e : (s :: ss).foldl plDec (st, rl) = ss.foldl plDec ((plPut st s fun x => (x.1, x.2.1 - 1, x.2.2)), if plNp st s - 1 = 0 then rl ++ [s] else rl) := rfl
    rw [e]
    have hrs := hr s (.head _)
    have hnot : plNp st s - 1 = 0 → s ∉ ss := fun h hm => by
      have := List.count_pos_iff.mpr hm
      omega
    obtain ⟨i1, i2, i3, i4, i5⟩ := fold_plDec ss (plPut st s fun x => (x.1, x.2.1 - 1, x.2.2)) (if plNp st s - 1 = 0 then rl ++ [s] else rl)
      (fun x hx => by rw [k1]; exact hk x (.tail _ hx))
      (fun x hx => by
        have := hc x (.tail _ hx)
        rw [n1]
        rw [List.count_cons] at this
        by_cases q : x = s
        · subst q; simp at this ⊢; omega
        · have q' : (s == x) = false := by simpa using Ne.symm q
          rw [q'] at this
          simp at this
          rw [if_neg q]; omega)
      (fun x hx => by
        split
        · rename_i hz
          intro hm
          rcases List.mem_append.mp hm with hm | hm
          · exact hr x (.tail _ hx) hm
          · rw [List.mem_singleton.mp hm] at hx; exact hnot hz hx
        · exact hr x (.tail _ hx))
      (by
        split
        · refine List.nodup_append.mpr ⟨hn, by simp, fun a ha b hb e => ?_⟩
          rw [List.mem_singleton.mp hb] at e
          exact hrs (e ▸ ha)
        · exact hn)
    refine ⟨i1.trans k1, fun j => (i2 j).trans (s1 j), fun j => ?_, i4, fun r => ?_⟩
    · rw [i3, n1, List.count_cons]
      by_cases q : j = s
      · subst q; simp; omega
      · have q' : (s == j) = false := by simpa using Ne.symm q
        rw [if_neg q, q']; simp
    · rw [i5]
      have i3s := i3 s
      rw [n1, if_pos rfl] at i3s
      by_cases hz : plNp st s - 1 = 0
      · rw [if_pos hz] at i3s ⊢
        rw [List.mem_append, List.mem_singleton, List.mem_cons]
        constructor
        · rintro ((h | rfl) | h)
          · exact .inl h
          · refine .inr ⟨.inl rfl, ?_⟩
            rw [i3s, hz, List.count_eq_zero.mpr (hnot hz)]; rfl
          · exact .inr ⟨.inr h.1, h.2⟩
        · rintro (h | ⟨rfl | h, h'⟩)
          · exact .inl (.inl h)
          · exact .inl (.inr rfl)
          · exact .inr ⟨h, h'⟩
      · rw [if_neg hz] at i3s ⊢
        rw [List.mem_cons]
        constructor
        · rintro (h | h)
          · exact .inl h
          · exact .inr ⟨.inr h.1, h.2⟩
        · rintro (h | ⟨rfl | h, h'⟩)
          · exact .inl h
          · refine .inr ⟨?_, h'⟩
            rw [i3s] at h'
            rw [← List.count_pos_iff]
            omega
          · exact .inr ⟨h, h'⟩
theorem fold_plOut : ∀ (ks : List Int) (st : PlSt), (∀ x ∈ ks, x ∈ st.map (·.1)) → (∀ j, plSl (ks.foldl plOut st) j = plSl st j) ∧ (∀ j, plNp (ks.foldl plOut st) j = if j ∈ ks then -1 else plNp st j)
  | [], st, _ => ⟨fun _ => rfl, fun j => by simp⟩
  | k :: ks, st, hk => by
    have k1 : (plOut st k).map (·.1) = st.map (·.1) := keys_plPut fun _ => rfl
    (first | ((first | refine Exists.elim (fold_plOut ks (plOut st k) fun x hx => by rw [k1]; exact hk x (.tail _ hx)) ?_ | refine conj_elim (fold_plOut ks (plOut st k) fun x hx => by rw [k1]; exact hk x (.tail _ hx)) ?_); rintro (h1) (h2)) | obtain ⟨h1, h2⟩ := fold_plOut ks (plOut st k) fun x hx => by rw [k1]; exact hk x (.tail _ hx))
    refine ⟨fun j => ?_, fun j => ?_⟩
    · rw [List.foldl_cons, h1]
      exact plSl_N (fun _ => -1)
    · rw [List.foldl_cons, h2]
      unfold plOut
      rw [plNp_N (fun _ => -1)]
      have := hk k (.head _)
      by_cases q : j = k
      · subst q; simp [this]
      · by_cases q' : j ∈ ks <;> simp [q, q']
/-- between two turns of the run -/
structure KI (rf : Int → List Int) (st : PlSt) (rl T : List Int) : Prop where
  keys : ∀ r, r ∈ st.map (·.1) ↔ 0 ≤ r ∧ r < 5
  sl : ∀ j r, (plSl st j).count r = if 0 ≤ r ∧ r < 5 then (rf r).count j else 0
  tn : T.Nodup
  t5 : In5 T
  gen : Gen rf T
  np : ∀ r, 0 ≤ r → r < 5 → r ∉ T → plNp st r = rem rf T r
  rn : rl.Nodup
  rdy : ∀ r, r ∈ rl ↔ 0 ≤ r ∧ r < 5 ∧ r ∉ T ∧ rem rf T r = 0
/-- within `done`: i of the ready ones R are done -/
structure KD (rf : Int → List Int) (st : PlSt) (rl T R : List Int) (i : Nat) : Prop where
  keys : ∀ r, r ∈ st.map (·.1) ↔ 0 ≤ r ∧ r < 5
  sl : ∀ j r, (plSl st j).count r = if 0 ≤ r ∧ r < 5 then (rf r).count j else 0
  np : ∀ r, 0 ≤ r → r < 5 → r ∉ T → r ∉ R → plNp st r = rem rf (T ++ R.take i) r
  out : ∀ r ∈ R.drop i, plNp st r = -1
  rn : rl.Nodup
  rdy : ∀ r, r ∈ rl ↔ 0 ≤ r ∧ r < 5 ∧ r ∉ T ∧ r ∉ R ∧ rem rf (T ++ R.take i) r = 0
section
variable {rf : Int → List Int} {st : PlSt} {rl T R : List Int}
theorem KI.init {n : Nat} (h : PA rf 5 st) (hrl : rl.Nodup) (hm : ∀ r, r ∈ rl ↔ r ∈ st.map (·.1) ∧ plNp st r = 0) : KI rf st rl [] := by
  have hk : ∀ r, r ∈ st.map (·.1) ↔ 0 ≤ r ∧ r < 5 := fun r => ⟨h.sub r, fun q => h.has r q.1 (by omega)⟩
  have e : ∀ r, rem rf [] r = (rf r).length := fun r => by simp [rem]
  refine ⟨hk, fun j r => h.sl j r, by simp, by simp [In5], Gen.nil, fun r h0 h1 _ => ?_, hrl, fun r => ?_⟩
  · rw [h.np, if_pos ⟨h0, by omega⟩, e]
  · rw [hm, hk, h.np, e]
    constructor
    · rintro ⟨h1, h2⟩
      rw [if_pos (by omega)] at h2
      exact ⟨h1.1, h1.2, by simp, by omega⟩
    · rintro ⟨h1, h2, _, h3⟩
      refine ⟨⟨h1, h2⟩, ?_⟩
      rw [if_pos (by omega), h3]; rfl
theorem KI.out (h : KI rf st R T) : KD rf (R.foldl plOut st) [] T R 0 := by
  have hin : ∀ x ∈ R, x ∈ st.map (·.1) := fun x hx => (h.keys x).mpr ⟨((h.rdy x).mp hx).1, ((h.rdy x).mp hx).2.1⟩
  (first | ((first | refine Exists.elim (fold_plOut R st hin) ?_ | refine conj_elim (fold_plOut R st hin) ?_); rintro (h1) (h2)) | obtain ⟨h1, h2⟩ := fold_plOut R st hin)
  refine ⟨fun r => by rw [plOut_keys]; exact h.keys r, fun j r => by rw [h1]; exact h.sl j r, fun r a b c d => ?_, fun r hr => ?_, by simp, fun r => ?_⟩
  · rw [h2, if_neg d, h.np r a b c]; simp
  · rw [h2, if_pos (by simpa using hr)]
  · simp only [List.not_mem_nil, false_iff, List.take_zero, List.append_nil]
    rintro ⟨a, b, c, d, e⟩
    exact d ((h.rdy r).mpr ⟨a, b, c, e⟩)
theorem KD.step {i : Nat} {k : Int} (h : KD rf st rl T R i) (hT : Gen rf T) (hnd : (T ++ R).Nodup) (hR : ∀ r ∈ R, 0 ≤ r ∧ r < 5 ∧ ∀ x ∈ rf r, x ∈ T) (hk : R[i]? = some k) :
    plNp st k = -1 ∧ KD rf (plDone (st, rl) k).1 (plDone (st, rl) k).2 T R (i + 1) := by
  have hil := (List.getElem?_eq_some_iff.mp hk).1
  have hdrop : R.drop i = k :: R.drop (i + 1) := by
    rw [List.drop_eq_getElem_cons hil, (List.getElem?_eq_some_iff.mp hk).2]
  have htake : R.take (i + 1) = R.take i ++ [k] := by rw [List.take_add_one, hk]; rfl
  have hkR : k ∈ R := List.mem_of_getElem? hk
  (first | ((first | refine Exists.elim (List.nodup_append.mp hnd) ?_ | refine conj_elim (List.nodup_append.mp hnd) ?_); rintro (nT) tmp; (first | ((first | with_reducible refine Exists.elim tmp ?_ | with_reducible refine conj_elim tmp ?_); (try clear tmp); rintro (nR) (dj)) | obtain ⟨nR, dj⟩ := tmp)) | obtain ⟨nT, nR, dj⟩ := List.nodup_append.mp hnd)
  have hkT : k ∉ T := fun c => dj k c k hkR rfl
  have hsplit : R = R.take i ++ k :: R.drop (i + 1) := by rw [← hdrop, List.take_append_drop]
  have nR' := nR
  rw [hsplit] at nR'
  (first | ((first | refine Exists.elim (List.nodup_append.mp nR') ?_ | refine conj_elim (List.nodup_append.mp nR') ?_); rintro (_) tmp; (first | ((first | with_reducible refine Exists.elim tmp ?_ | with_reducible refine conj_elim tmp ?_); (try clear tmp); rintro (n2) (n3)) | obtain ⟨n2, n3⟩ := tmp)) | obtain ⟨_, n2, n3⟩ := List.nodup_append.mp nR')
  have hkt : k ∉ R.take i := fun c => n3 k c k (.head _) rfl
  have hkd : k ∉ R.drop (i + 1) := (List.nodup_cons.mp n2).1
  have hk5 := hR k hkR
  have hkk : k ∈ st.map (·.1) := (h.keys k).mpr ⟨hk5.1, hk5.2.1⟩
  refine ⟨h.out k (by rw [hdrop]; exact .head _), ?_⟩
  have k1 : (plPut st k fun x => (x.1, -2, x.2.2)).map (·.1) = st.map (·.1) := keys_plPut fun _ => rfl
  have n1 : ∀ j, j ≠ k → plNp (plPut st k fun x => (x.1, -2, x.2.2)) j = plNp st j := fun j hj => by
    rw [plNp_N (fun _ => -2), if_neg fun c => hj c.1]
  have s1 : ∀ j, plSl (plPut st k fun x => (x.1, -2, x.2.2)) j = plSl st j := fun j => plSl_N (fun _ => -2)
  have hs : ∀ x ∈ plSl st k, 0 ≤ x ∧ x < 5 ∧ k ∈ rf x ∧ x ∉ T ∧ x ∉ R ∧ (plSl st k).count x = (rf x).count k := fun x hx => by
    have c1 := List.count_pos_iff.mpr hx
    have c2 := h.sl k x
    by_cases q : 0 ≤ x ∧ x < 5
    · rw [if_pos q] at c2
      have hkx : k ∈ rf x := List.count_pos_iff.mp (by omega)
      refine ⟨q.1, q.2, hkx, fun c => ?_, fun c => hkT ((hR x c).2.2 k hkx), c2⟩
      (first | ((first | refine Exists.elim (List.append_of_mem c) ?_ | refine conj_elim (List.append_of_mem c) ?_); rintro (a) tmp; (first | ((first | with_reducible refine Exists.elim tmp ?_ | with_reducible refine conj_elim tmp ?_); (try clear tmp); rintro (b) (e)) | obtain ⟨b, e⟩ := tmp)) | obtain ⟨a, b, e⟩ := List.append_of_mem c)
      exact hkT (by rw [e]; exact List.mem_append_left _ (hT a x b e k hkx))
    · rw [if_neg q] at c2; omega
  have hrem : ∀ r, rem rf (T ++ R.take i) r = rem rf (T ++ R.take (i + 1)) r + (rf r).count k := fun r => by
    rw [htake, ← List.append_assoc]
    exact rem_snoc fun c => (List.mem_append.mp c).elim hkT hkt
  obtain ⟨d1, d2, d3, d4, d5⟩ := fold_plDec (plSl st k) (plPut st k fun x => (x.1, -2, x.2.2)) rl
    (fun x hx => by rw [k1]; exact (h.keys x).mpr ⟨(hs x hx).1, (hs x hx).2.1⟩)
    (fun x hx => by
      obtain ⟨a, b, c, d, e, f⟩ := hs x hx
      rw [n1 x fun q => e (q ▸ hkR), h.np x a b d e, f]
      have := hrem x
      omega)
    (fun x hx c => by
      obtain ⟨a, b, c1, d, e, f⟩ := hs x hx
      have z := ((h.rdy x).mp c).2.2.2.2
      have := hrem x
      have := List.count_pos_iff.mpr c1
      omega)
    h.rn
  have e : plDone (st, rl) k = (plSl st k).foldl plDec ((plPut st k fun x => (x.1, -2, x.2.2)), rl) := rfl
  rw [← e] at d1 d2 d3 d4 d5
  have cz : ∀ r, r ∈ R → (plSl st k).count r = 0 := fun r hr => List.count_eq_zero.mpr fun c => (hs r c).2.2.2.2.1 hr
  have cc : ∀ r, 0 ≤ r → r < 5 → (plSl st k).count r = (rf r).count k := fun r a b => by rw [h.sl, if_pos ⟨a, b⟩]
  have np' : ∀ r, 0 ≤ r → r < 5 → r ∉ T → r ∉ R → plNp (plDone (st, rl) k).1 r = rem rf (T ++ R.take (i + 1)) r := fun r a b c d => by
    rw [d3, n1 r fun q => d (q ▸ hkR), h.np r a b c d, cc r a b]
    have := hrem r
    omega
  refine ⟨fun r => by rw [d1, k1]; exact h.keys r, fun j r => by rw [d2, s1]; exact h.sl j r, np', fun r hr => ?_, d4, fun r => ?_⟩
  · have hrR : r ∈ R := List.mem_of_mem_drop hr
    rw [d3, n1 r fun q => hkd (q ▸ hr), cz r hrR, h.out r (by rw [hdrop]; exact .tail _ hr)]
    rfl
  · rw [d5, h.rdy]
    constructor
    · rintro (⟨a, b, c, d, z⟩ | ⟨hm, z⟩)
      · have := hrem r
        exact ⟨a, b, c, d, by omega⟩
      · (first | ((first | refine Exists.elim (hs r hm) ?_ | refine conj_elim (hs r hm) ?_); rintro (a) tmp; (first | ((first | with_reducible refine Exists.elim tmp ?_ | with_reducible refine conj_elim tmp ?_); (try clear tmp); rintro (b) tmp; (first | ((first | with_reducible refine Exists.elim tmp ?_ | with_reducible refine conj_elim tmp ?_); (try clear tmp); rintro (c1) tmp; (first | ((first | with_reducible refine Exists.elim tmp ?_ | with_reducible refine conj_elim tmp ?_); (try clear tmp); rintro (d) tmp; (first | ((first | with_reducible refine Exists.elim tmp ?_ | with_reducible refine conj_elim tmp ?_); (try clear tmp); rintro (e') (f)) | obtain ⟨e', f⟩ := tmp)) | obtain ⟨d, e', f⟩ := tmp)) | obtain ⟨c1, d, e', f⟩ := tmp)) | obtain ⟨b, c1, d, e', f⟩ := tmp)) | obtain ⟨a, b, c1, d, e', f⟩ := hs r hm)
        refine ⟨a, b, d, e', ?_⟩
        rw [np' r a b d e'] at z
        omega
    · rintro ⟨a, b, c, d, z⟩
      by_cases hm : r ∈ plSl st k
      · refine .inr ⟨hm, ?_⟩
        rw [np' r a b c d, z]; rfl
      · refine .inl ⟨a, b, c, d, ?_⟩
        have c0 := List.count_eq_zero.mpr hm
        rw [cc r a b] at c0
        have := hrem r
        omega
theorem KD.run (h : KD rf st rl T R 0) (hT : Gen rf T) (hnd : (T ++ R).Nodup) (hR : ∀ r ∈ R, 0 ≤ r ∧ r < 5 ∧ ∀ x ∈ rf r, x ∈ T) : ∀ i, i ≤ R.length → KD rf ((R.take i).foldl plDone (st, rl)).1 ((R.take i).foldl plDone (st, rl)).2 T R i
  | 0, _ => h
  | i + 1, hi => by
    have ih := KD.run h hT hnd hR i (by omega)
    have hg : R[i]? = some R[i] := List.getElem?_eq_getElem (by omega)
    rw [List.take_add_one, hg]
    simp only [Option.toList_some, List.foldl_append, List.foldl_cons, List.foldl_nil]
    exact (ih.step hT hnd hR hg).2
theorem KD.outs (h : KD rf st rl T R 0) (hT : Gen rf T) (hnd : (T ++ R).Nodup) (hR : ∀ r ∈ R, 0 ≤ r ∧ r < 5 ∧ ∀ x ∈ rf r, x ∈ T) (i : Nat) (k : Int) (hk : R[i]? = some k) : plNp ((R.take i).foldl plDone (st, rl)).1 k = -1 :=
  ((KD.run h hT hnd hR i (Nat.le_of_lt (List.getElem?_eq_some_iff.mp hk).1)).step hT hnd hR hk).1
theorem KI.facts (h : KI rf st R T) : (T ++ R).Nodup ∧ ∀ r ∈ R, 0 ≤ r ∧ r < 5 ∧ ∀ x ∈ rf r, x ∈ T :=
  ⟨List.nodup_append.mpr ⟨h.tn, h.rn, fun a ha b hb e => ((h.rdy b).mp hb).2.2.1 (e ▸ ha)⟩, fun r hr => ⟨((h.rdy r).mp hr).1, ((h.rdy r).mp hr).2.1, rem_zero.mp ((h.rdy r).mp hr).2.2.2⟩⟩
theorem Gen.append' {rf : Int → List Int} : ∀ (R T : List Int), Gen rf T → (∀ r ∈ R, ∀ x ∈ rf r, x ∈ T) → Gen rf (T ++ R)
  | [], T, h, _ => by rw [List.append_nil]; exact h
  | r :: R, T, h, hR => by
    have e : T ++ r :: R = (T ++ [r]) ++ R := by simp
    rw [e]
    exact Gen.append' R _ (h.snoc (hR r (.head _))) fun q hq x hx => List.mem_append_left _ (hR q (.tail _ hq) x hx)
theorem KI.turn (h : KI rf st R T) : KI rf (R.foldl plDone (R.foldl plOut st, [])).1 (R.foldl plDone (R.foldl plOut st, [])).2 (T ++ R) := by
  (first | ((first | refine Exists.elim (h.facts) ?_ | refine conj_elim (h.facts) ?_); rintro (hnd) (hR)) | obtain ⟨hnd, hR⟩ := h.facts)
  have q := h.out.run h.gen hnd hR R.length (Nat.le_refl _)
  rw [List.take_length] at q
  refine ⟨q.keys, q.sl, hnd, fun r hr => ?_, Gen.append' R T h.gen fun r hr => (hR r hr).2.2, fun r a b c => ?_, q.rn, fun r => ?_⟩
  · rcases List.mem_append.mp hr with hr | hr
    · exact h.t5 r hr
    · exact ⟨(hR r hr).1, (hR r hr).2.1⟩
  · rw [q.np r a b (fun e => c (List.mem_append_left _ e)) (fun e => c (List.mem_append_right _ e)), List.take_length]
  · rw [q.rdy, List.take_length]
    simp only [List.mem_append, not_or]
    constructor
    · rintro ⟨a, b, c, d, e⟩; exact ⟨a, b, ⟨c, d⟩, e⟩
    · rintro ⟨a, b, ⟨c, d⟩, e⟩; exact ⟨a, b, c, d, e⟩
theorem KI.mx (h : KI rf st [] T) : Mx rf T := by
  intro r a b hk
  by_cases q : r ∈ T
  · exact q
  · have := (h.rdy r).mpr ⟨a, b, q, rem_zero.mpr hk⟩
    cases this
end
/-- a finish list: every rule has a text -/
theorem noring_all {rf sl : Int → List Int} {keys T : List Int} (hsl : ∀ j r, 0 ≤ r → r < 5 → j ∈ rf r → r ∈ sl j) (hk : ∀ r, 0 ≤ r → r < 5 → r ∈ keys) (hrf : ∀ r, ∀ k ∈ rf r, 0 ≤ k ∧ k < 5) (h : NoRing sl keys) (hM : Mx rf T) : ∀ r, 0 ≤ r → r < 5 → r ∈ T := by
  (first | ((first | with_reducible refine Exists.elim h ?_ | with_reducible refine conj_elim h ?_); (try clear h); rintro (fin) tmp; (first | ((first | with_reducible refine Exists.elim tmp ?_ | with_reducible refine conj_elim tmp ?_); (try clear tmp); rintro (hf) (ho)) | obtain ⟨hf, ho⟩ := tmp)) | obtain ⟨fin, hf, ho⟩ := h)
  have key : ∀ n r a b, a.length < n → 0 ≤ r → r < 5 → fin = a ++ r :: b → r ∉ b → r ∈ T := by
    intro n
    induction n with
    | zero => intro r a b h; omega
    | succ n ih =>
      intro r a b hl h0 h5 e hnb
      refine hM r h0 h5 fun k hk' => ?_
      (first | ((first | refine Exists.elim (hrf r k hk') ?_ | refine conj_elim (hrf r k hk') ?_); rintro (k0) (k5)) | obtain ⟨k0, k5⟩ := hrf r k hk')
      have hkf := hf k (hk k k0 k5)
      -- the last place of k
      (refine Exists.elim ((by
        have := List.append_of_mem (List.mem_reverse.mpr hkf)
        (first | ((first | with_reducible refine Exists.elim this ?_ | with_reducible refine conj_elim this ?_); (try clear this); rintro (s) tmp; (first | ((first | with_reducible refine Exists.elim tmp ?_ | with_reducible refine conj_elim tmp ?_); (try clear tmp); rintro (t) (e1)) | obtain ⟨t, e1⟩ := tmp)) | obtain ⟨s, t, e1⟩ := this)
        have hs : ∃ s t, fin.reverse = s ++ k :: t ∧ k ∉ s := by
          clear e1
          have : ∀ l : List Int, k ∈ l → ∃ s t, l = s ++ k :: t ∧ k ∉ s := by
            intro l
            induction l with
            | nil => intro h; cases h
            | cons x l ihl =>
              intro h
              by_cases q : x = k
              · subst q; exact ⟨[], l, rfl, by simp⟩
              · rcases List.mem_cons.mp h with h | h
                · exact absurd h.symm q
                · (first | ((first | refine Exists.elim (ihl h) ?_ | refine conj_elim (ihl h) ?_); rintro (s) tmp; (first | ((first | with_reducible refine Exists.elim tmp ?_ | with_reducible refine conj_elim tmp ?_); (try clear tmp); rintro (t) tmp; (first | ((first | with_reducible refine Exists.elim tmp ?_ | with_reducible refine conj_elim tmp ?_); (try clear tmp); rintro (e) (hs)) | obtain ⟨e, hs⟩ := tmp)) | obtain ⟨t, e, hs⟩ := tmp)) | obtain ⟨s, t, e, hs⟩ := ihl h)
                  exact ⟨x :: s, t, by rw [e]; rfl, by simp only [List.mem_cons, not_or]; exact ⟨fun c => q c.symm, hs⟩⟩
          exact this _ (List.mem_reverse.mpr hkf)
        (first | ((first | with_reducible refine Exists.elim hs ?_ | with_reducible refine conj_elim hs ?_); (try clear hs); rintro (s) tmp; (first | ((first | with_reducible refine Exists.elim tmp ?_ | with_reducible refine conj_elim tmp ?_); (try clear tmp); rintro (t) tmp; (first | ((first | with_reducible refine Exists.elim tmp ?_ | with_reducible refine conj_elim tmp ?_); (try clear tmp); rintro (e2) (hns)) | obtain ⟨e2, hns⟩ := tmp)) | obtain ⟨t, e2, hns⟩ := tmp)) | obtain ⟨s, t, e2, hns⟩ := hs)
        refine ⟨t.reverse, s.reverse, ?_, by simpa using hns⟩
        have := congrArg List.reverse e2
        simpa using this) : ∃ a' b', fin = a' ++ k :: b' ∧ k ∉ b') ?_; rintro (a') tmp; (first | ((first | with_reducible refine Exists.elim tmp ?_ | with_reducible refine conj_elim tmp ?_); (try clear tmp); rintro (b') tmp; (first | ((first | with_reducible refine Exists.elim tmp ?_ | with_reducible refine conj_elim tmp ?_); (try clear tmp); rintro (e') (hnb')) | obtain ⟨e', hnb'⟩ := tmp)) | obtain ⟨b', e', hnb'⟩ := tmp))
      have hrb' : r ∈ b' := ho a' k b' e' r (hsl k r h0 h5 hk')
      (first | ((first | refine Exists.elim (List.append_of_mem hrb') ?_ | refine conj_elim (List.append_of_mem hrb') ?_); rintro (c) tmp; (first | ((first | with_reducible refine Exists.elim tmp ?_ | with_reducible refine conj_elim tmp ?_); (try clear tmp); rintro (d) (e3)) | obtain ⟨d, e3⟩ := tmp)) | obtain ⟨c, d, e3⟩ := List.append_of_mem hrb')
      have hlen : a'.length < a.length := by
        have e4 : a ++ r :: b = a' ++ k :: (c ++ r :: d) := by rw [← e, e', e3]
        rcases Nat.lt_or_ge a'.length a.length with q | q
        · exact q
        · exfalso
          apply hnb
          have hd : List.drop (a.length + 1) (a ++ r :: b) = b := by
            rw [show a ++ r :: b = (a ++ [r]) ++ b by simp]
            exact List.drop_left' (by simp)
          have e6 := congrArg (List.drop (a.length + 1)) e4
          rw [hd] at e6
          rw [e6]
          have e7 : a' ++ k :: (c ++ r :: d) = (a' ++ k :: c) ++ r :: d := by simp
          rw [e7, List.drop_append]
          refine List.mem_append_right _ ?_
          have hz : a.length + 1 - (a' ++ k :: c).length = 0 := by
            have : (a' ++ k :: c).length = a'.length + (c.length + 1) := by simp
            omega
          rw [hz]; exact .head _
      exact ih k a' b' (by omega) k0 k5 e' hnb'
  intro r h0 h5
  have hrf' := hf r (hk r h0 h5)
  have : ∃ a b, fin = a ++ r :: b ∧ r ∉ b := by
    have : ∀ l : List Int, r ∈ l → ∃ s t, l = s ++ r :: t ∧ r ∉ s := by
      intro l
      induction l with
      | nil => intro h; cases h
      | cons x l ihl =>
        intro h
        by_cases q : x = r
        · subst q; exact ⟨[], l, rfl, by simp⟩
        · rcases List.mem_cons.mp h with h | h
          · exact absurd h.symm q
          · (first | ((first | refine Exists.elim (ihl h) ?_ | refine conj_elim (ihl h) ?_); rintro (s) tmp; (first | ((first | with_reducible refine Exists.elim tmp ?_ | with_reducible refine conj_elim tmp ?_); (try clear tmp); rintro (t) tmp; (first | ((first | with_reducible refine Exists.elim tmp ?_ | with_reducible refine conj_elim tmp ?_); (try clear tmp); rintro (e) (hs)) | obtain ⟨e, hs⟩ := tmp)) | obtain ⟨t, e, hs⟩ := tmp)) | obtain ⟨s, t, e, hs⟩ := ihl h)
            exact ⟨x :: s, t, by rw [e]; rfl, by simp only [List.mem_cons, not_or]; exact ⟨fun c => q c.symm, hs⟩⟩
    (first | ((first | refine Exists.elim (this _ (List.mem_reverse.mpr hrf')) ?_ | refine conj_elim (this _ (List.mem_reverse.mpr hrf')) ?_); rintro (s) tmp; (first | ((first | with_reducible refine Exists.elim tmp ?_ | with_reducible refine conj_elim tmp ?_); (try clear tmp); rintro (t) tmp; (first | ((first | with_reducible refine Exists.elim tmp ?_ | with_reducible refine conj_elim tmp ?_); (try clear tmp); rintro (e2) (hns)) | obtain ⟨e2, hns⟩ := tmp)) | obtain ⟨t, e2, hns⟩ := tmp)) | obtain ⟨s, t, e2, hns⟩ := this _ (List.mem_reverse.mpr hrf'))
    refine ⟨t.reverse, s.reverse, ?_, by simpa using hns⟩
    have := congrArg List.reverse e2
    simpa using this
  (first | ((first | with_reducible refine Exists.elim this ?_ | with_reducible refine conj_elim this ?_); (try clear this); rintro (a) tmp; (first | ((first | with_reducible refine Exists.elim tmp ?_ | with_reducible refine conj_elim tmp ?_); (try clear tmp); rintro (b) tmp; (first | ((first | with_reducible refine Exists.elim tmp ?_ | with_reducible refine conj_elim tmp ?_); (try clear tmp); rintro (e) (hnb)) | obtain ⟨e, hnb⟩ := tmp)) | obtain ⟨b, e, hnb⟩ := tmp)) | obtain ⟨a, b, e, hnb⟩ := this)
  exact key _ r a b (Nat.lt_succ_self _) h0 h5 e hnb
/-- a ring: some rule has none -/
theorem ring_some {rf sl : Int → List Int} {T : List Int} (hsl : ∀ j r, r ∈ sl j → 0 ≤ r ∧ r < 5 ∧ j ∈ rf r) (h : Ring sl) (hG : Gen rf T) : ∃ r, 0 ≤ r ∧ r < 5 ∧ r ∉ T := by
  (first | ((first | with_reducible refine Exists.elim h ?_ | with_reducible refine conj_elim h ?_); (try clear h); rintro (S) tmp; (first | ((first | with_reducible refine Exists.elim tmp ?_ | with_reducible refine conj_elim tmp ?_); (try clear tmp); rintro (hne) (hS)) | obtain ⟨hne, hS⟩ := tmp)) | obtain ⟨S, hne, hS⟩ := h)
  have key : ∀ n r a b, a.length < n → r ∈ S → T = a ++ r :: b → False := by
    intro n
    induction n with
    | zero => intro r a b h; omega
    | succ n ih =>
      intro r a b hl hr e
      (first | ((first | refine Exists.elim (hS r hr) ?_ | refine conj_elim (hS r hr) ?_); rintro (p) tmp; (first | ((first | with_reducible refine Exists.elim tmp ?_ | with_reducible refine conj_elim tmp ?_); (try clear tmp); rintro (hp) (hpr)) | obtain ⟨hp, hpr⟩ := tmp)) | obtain ⟨p, hp, hpr⟩ := hS r hr)
      have hpa := hG a r b e p (hsl p r hpr).2.2
      (first | ((first | refine Exists.elim (List.append_of_mem hpa) ?_ | refine conj_elim (List.append_of_mem hpa) ?_); rintro (a1) tmp; (first | ((first | with_reducible refine Exists.elim tmp ?_ | with_reducible refine conj_elim tmp ?_); (try clear tmp); rintro (a2) (e1)) | obtain ⟨a2, e1⟩ := tmp)) | obtain ⟨a1, a2, e1⟩ := List.append_of_mem hpa)
      refine ih p a1 (a2 ++ r :: b) ?_ hp (by rw [e, e1]; simp)
      rw [e1] at hl
      simp at hl
      omega
  cases S with
  | nil => exact absurd rfl hne
  | cons v S =>
    (first | ((first | refine Exists.elim (hS v (.head _)) ?_ | refine conj_elim (hS v (.head _)) ?_); rintro (p) tmp; (first | ((first | with_reducible refine Exists.elim tmp ?_ | with_reducible refine conj_elim tmp ?_); (try clear tmp); rintro (hp) (hpv)) | obtain ⟨hp, hpv⟩ := tmp)) | obtain ⟨p, hp, hpv⟩ := hS v (.head _))
    have := hsl p v hpv
    refine ⟨v, this.1, this.2.1, fun c => ?_⟩
    (first | ((first | refine Exists.elim (List.append_of_mem c) ?_ | refine conj_elim (List.append_of_mem c) ?_); rintro (a) tmp; (first | ((first | with_reducible refine Exists.elim tmp ?_ | with_reducible refine conj_elim tmp ?_); (try clear tmp); rintro (b) (e)) | obtain ⟨b, e⟩ := tmp)) | obtain ⟨a, b, e⟩ := List.append_of_mem c)
    exact key _ v a b (Nat.lt_succ_self _) (.head _) e
end
-- Pl3
section
set_option compiler.extract_closed false
set_option Elab.async false
noncomputable def octP (p : Int) : List (Int × Int) := if p / 64 % 2 = 1 then [(p % 64, 1)] else [(p % 64, 1), (0, 0)]
noncomputable def pairsOf (t : List Int) : List (Int × Int) := (t.map octP).foldl joinP [(0, 0)]
noncomputable def endP (ps : List (Int × Int)) : List Int := ps.dropLast.map (·.1) ++ [(ps.getLastD (0, 0)).1 * 64 + 5]
theorem octP_wf {p : Int} (h0 : 0 ≤ p) : WF 1 (octP p) := by
  unfold octP
  split
  · refine ⟨by simp, by simp, fun q hq => ?_⟩
    rw [List.mem_singleton.mp hq]
    dsimp only
    exact ⟨by decide, by decide, by omega, by have : (64 : Int) ^ (1 : Int).toNat = 64 := by decide
                                              rw [this]; omega⟩
  · refine ⟨by simp, by simp, fun q hq => ?_⟩
    simp only [List.mem_cons, List.not_mem_nil, or_false] at hq
    rcases hq with rfl | rfl
    · dsimp only
      exact ⟨by decide, by decide, by omega, by have : (64 : Int) ^ (1 : Int).toNat = 64 := by decide
                                                rw [this]; omega⟩
    · exact ⟨by decide, by decide, by decide, by decide⟩
theorem zero_wf : WF 0 [((0 : Int), (0 : Int))] := ⟨by simp, by simp, fun q hq => by rw [List.mem_singleton.mp hq]; exact ⟨by decide, by decide, by decide, by decide⟩⟩
theorem joinP_cons {l : List (Int × Int)} {a o b o' : Int} {r : List (Int × Int)} : joinP (l ++ [(a, o)]) ((b, o') :: r) = l ++ (a * 64 ^ o'.toNat + b, o + o') :: r := by
  simp [joinP]
theorem snoc_of {l : List (Int × Int)} (h : l ≠ []) : ∃ l' a o, l = l' ++ [(a, o)] := ⟨l.dropLast, (l.getLast h).1, (l.getLast h).2, (List.dropLast_concat_getLast h).symm⟩
theorem cons_of {l : List (Int × Int)} (h : l ≠ []) : ∃ a o l', l = (a, o) :: l' := by
  cases l with
  | nil => exact absurd rfl h
  | cons x l => exact ⟨x.1, x.2, l, rfl⟩
theorem joinP_ne {l r : List (Int × Int)} : joinP l r ≠ [] := by simp [joinP]
theorem joinP_left {l : List (Int × Int)} (h : l ≠ []) : joinP [(0, 0)] l = l := by
  (first | ((first | refine Exists.elim (cons_of h) ?_ | refine conj_elim (cons_of h) ?_); rintro (a) tmp; (first | ((first | with_reducible refine Exists.elim tmp ?_ | with_reducible refine conj_elim tmp ?_); (try clear tmp); rintro (o) tmp; (first | ((first | with_reducible refine Exists.elim tmp ?_ | with_reducible refine conj_elim tmp ?_); (try clear tmp); rintro (l') (rfl)) | obtain ⟨l', rfl⟩ := tmp)) | obtain ⟨o, l', rfl⟩ := tmp)) | obtain ⟨a, o, l', rfl⟩ := cons_of h)
  have := joinP_cons (l := []) (a := 0) (o := 0) (b := a) (o' := o) (r := l')
  simpa using this
theorem joinP_right {l : List (Int × Int)} (h : l ≠ []) : joinP l [(0, 0)] = l := by
  (first | ((first | refine Exists.elim (snoc_of h) ?_ | refine conj_elim (snoc_of h) ?_); rintro (l') tmp; (first | ((first | with_reducible refine Exists.elim tmp ?_ | with_reducible refine conj_elim tmp ?_); (try clear tmp); rintro (a) tmp; (first | ((first | with_reducible refine Exists.elim tmp ?_ | with_reducible refine conj_elim tmp ?_); (try clear tmp); rintro (o) (rfl)) | obtain ⟨o, rfl⟩ := tmp)) | obtain ⟨a, o, rfl⟩ := tmp)) | obtain ⟨l', a, o, rfl⟩ := snoc_of h)
  have := joinP_cons (l := l') (a := a) (o := o) (b := 0) (o' := 0) (r := [])
  simpa using this
theorem joinP_assoc {a b c : List (Int × Int)} (ha : a ≠ []) (hb : b ≠ []) (hc : c ≠ []) (pb : ∀ p ∈ b, 0 ≤ p.2) (pc : ∀ p ∈ c, 0 ≤ p.2) : joinP (joinP a b) c = joinP a (joinP b c) := by
  (first | ((first | refine Exists.elim (snoc_of ha) ?_ | refine conj_elim (snoc_of ha) ?_); rintro (a') tmp; (first | ((first | with_reducible refine Exists.elim tmp ?_ | with_reducible refine conj_elim tmp ?_); (try clear tmp); rintro (x) tmp; (first | ((first | with_reducible refine Exists.elim tmp ?_ | with_reducible refine conj_elim tmp ?_); (try clear tmp); rintro (o) (rfl)) | obtain ⟨o, rfl⟩ := tmp)) | obtain ⟨x, o, rfl⟩ := tmp)) | obtain ⟨a', x, o, rfl⟩ := snoc_of ha)
  (first | ((first | refine Exists.elim (cons_of hb) ?_ | refine conj_elim (cons_of hb) ?_); rintro (y) tmp; (first | ((first | with_reducible refine Exists.elim tmp ?_ | with_reducible refine conj_elim tmp ?_); (try clear tmp); rintro (o') tmp; (first | ((first | with_reducible refine Exists.elim tmp ?_ | with_reducible refine conj_elim tmp ?_); (try clear tmp); rintro (b') (rfl)) | obtain ⟨b', rfl⟩ := tmp)) | obtain ⟨o', b', rfl⟩ := tmp)) | obtain ⟨y, o', b', rfl⟩ := cons_of hb)
  (first | ((first | refine Exists.elim (cons_of hc) ?_ | refine conj_elim (cons_of hc) ?_); rintro (z) tmp; (first | ((first | with_reducible refine Exists.elim tmp ?_ | with_reducible refine conj_elim tmp ?_); (try clear tmp); rintro (o'') tmp; (first | ((first | with_reducible refine Exists.elim tmp ?_ | with_reducible refine conj_elim tmp ?_); (try clear tmp); rintro (c') (rfl)) | obtain ⟨c', rfl⟩ := tmp)) | obtain ⟨o'', c', rfl⟩ := tmp)) | obtain ⟨z, o'', c', rfl⟩ := cons_of hc)
  have h1 : 0 ≤ o' := pb (y, o') (.head _)
  have h2 : 0 ≤ o'' := pc (z, o'') (.head _)
  rw [joinP_cons]
  by_cases hb' : b' = []
  · subst hb'
    rw [joinP_cons]
    have e := joinP_cons (l := []) (a := y) (o := o') (b := z) (o' := o'') (r := c')
    simp only [List.nil_append] at e
    rw [e, joinP_cons]
    have e1 : (o' + o'').toNat = o'.toNat + o''.toNat := by omega
    rw [e1, Int.pow_add, Int.add_mul, Int.mul_assoc, Int.add_assoc, Int.add_assoc]
  · (first | ((first | refine Exists.elim (snoc_of hb') ?_ | refine conj_elim (snoc_of hb') ?_); rintro (b2) tmp; (first | ((first | with_reducible refine Exists.elim tmp ?_ | with_reducible refine conj_elim tmp ?_); (try clear tmp); rintro (y2) tmp; (first | ((first | with_reducible refine Exists.elim tmp ?_ | with_reducible refine conj_elim tmp ?_); (try clear tmp); rintro (o2) (rfl)) | obtain ⟨o2, rfl⟩ := tmp)) | obtain ⟨y2, o2, rfl⟩ := tmp)) | obtain ⟨b2, y2, o2, rfl⟩ := snoc_of hb')
    have e1 : a' ++ (x * 64 ^ o'.toNat + y, o + o') :: (b2 ++ [(y2, o2)]) = (a' ++ (x * 64 ^ o'.toNat + y, o + o') :: b2) ++ [(y2, o2)] := by simp
    have e2 : (y, o') :: (b2 ++ [(y2, o2)]) = ((y, o') :: b2) ++ [(y2, o2)] := by simp
    rw [e1, e2, joinP_cons, joinP_cons, List.cons_append, joinP_cons]
    simp
theorem fold_join {M : Nat} : ∀ (l : List (List (Int × Int))) (a : List (Int × Int)), a ≠ [] → (∀ p ∈ a, 0 ≤ p.2) → (∀ x ∈ l, WF M x) → l.foldl joinP a = joinP a (l.foldl joinP [(0, 0)])
  | [], a, h, _, _ => (joinP_right h).symm
  | x :: l, a, h, hp, hl => by
    have wx := hl x (.head _)
    have px : ∀ p ∈ x, 0 ≤ p.2 := fun p hp => (wx.each p hp).1
    have pos : ∀ (a b : List (Int × Int)), a ≠ [] → b ≠ [] → (∀ p ∈ a, 0 ≤ p.2) → (∀ p ∈ b, 0 ≤ p.2) → ∀ p ∈ joinP a b, 0 ≤ p.2 := fun a b ha hb pa pb p hp => by
      (first | ((first | refine Exists.elim (snoc_of ha) ?_ | refine conj_elim (snoc_of ha) ?_); rintro (a') tmp; (first | ((first | with_reducible refine Exists.elim tmp ?_ | with_reducible refine conj_elim tmp ?_); (try clear tmp); rintro (y) tmp; (first | ((first | with_reducible refine Exists.elim tmp ?_ | with_reducible refine conj_elim tmp ?_); (try clear tmp); rintro (o) (rfl)) | obtain ⟨o, rfl⟩ := tmp)) | obtain ⟨y, o, rfl⟩ := tmp)) | obtain ⟨a', y, o, rfl⟩ := snoc_of ha)
      (first | ((first | refine Exists.elim (cons_of hb) ?_ | refine conj_elim (cons_of hb) ?_); rintro (z) tmp; (first | ((first | with_reducible refine Exists.elim tmp ?_ | with_reducible refine conj_elim tmp ?_); (try clear tmp); rintro (o') tmp; (first | ((first | with_reducible refine Exists.elim tmp ?_ | with_reducible refine conj_elim tmp ?_); (try clear tmp); rintro (b') (rfl)) | obtain ⟨b', rfl⟩ := tmp)) | obtain ⟨o', b', rfl⟩ := tmp)) | obtain ⟨z, o', b', rfl⟩ := cons_of hb)
      rw [joinP_cons] at hp
      have h1 := pa (y, o) (by simp)
      have h2 := pb (z, o') (.head _)
      rcases List.mem_append.mp hp with hp | hp
      · exact pa p (List.mem_append_left _ hp)
      · rcases List.mem_cons.mp hp with rfl | hp
        · dsimp only at h1 h2 ⊢; omega
        · exact pb p (.tail _ hp)
    have i1 := fold_join l (joinP a x) joinP_ne (pos a x h wx.ne hp px) fun y hy => hl y (.tail _ hy)
    have i2 := fold_join l x wx.ne px fun y hy => hl y (.tail _ hy)
    rw [List.foldl_cons, List.foldl_cons, i1, joinP_left wx.ne, i2]
    have wl : l.foldl joinP [(0, 0)] ≠ [] ∧ ∀ p ∈ l.foldl joinP [(0, 0)], 0 ≤ p.2 := by
      have := fold_wf' l fun y hy => hl y (.tail _ hy)
      exact this
    exact joinP_assoc h wx.ne wl.1 px wl.2
where
  fold_wf' {M : Nat} : ∀ (l : List (List (Int × Int))), (∀ x ∈ l, WF M x) → l.foldl joinP [(0, 0)] ≠ [] ∧ ∀ p ∈ l.foldl joinP [(0, 0)], 0 ≤ p.2 := by
    intro l hl
    have gen : ∀ (l : List (List (Int × Int))) (a : List (Int × Int)) (N : Nat), WF N a → (∀ x ∈ l, WF M x) → ∃ N', WF N' (l.foldl joinP a) := by
      intro l
      induction l with
      | nil => intro a N h _; exact ⟨N, h⟩
      | cons x l ih => intro a N h hl; exact ih _ _ (h.join (hl x (.head _))) fun y hy => hl y (.tail _ hy)
    (first | ((first | refine Exists.elim (gen l _ 0 zero_wf hl) ?_ | refine conj_elim (gen l _ 0 zero_wf hl) ?_); rintro (N') (w)) | obtain ⟨N', w⟩ := gen l _ 0 zero_wf hl)
    exact ⟨w.ne, fun p hp => (w.each p hp).1⟩
theorem pairsOf_wf : ∀ {t : List Int}, (∀ p ∈ t, 0 ≤ p) → WF t.length (pairsOf t) := by
  intro t ht
  have gen : ∀ (t : List Int) (a : List (Int × Int)) (N : Nat), WF N a → (∀ p ∈ t, 0 ≤ p) → WF (N + t.length) ((t.map octP).foldl joinP a) := by
    intro t
    induction t with
    | nil => intro a N h _; exact h
    | cons p t ih =>
      intro a N h ht
      have := ih (joinP a (octP p)) (N + 1) (h.join (octP_wf (ht p (.head _)))) fun q hq => ht q (.tail _ hq)
      rw [List.length_cons, show N + (t.length + 1) = N + 1 + t.length by omega]
      exact this
  have := gen t [(0, 0)] 0 zero_wf ht
  rw [Nat.zero_add] at this
  exact this
theorem pairsOf_append {s t : List Int} (hs : ∀ p ∈ s, 0 ≤ p) (ht : ∀ p ∈ t, 0 ≤ p) : pairsOf (s ++ t) = joinP (pairsOf s) (pairsOf t) := by
  have ws := pairsOf_wf hs
  unfold pairsOf
  rw [List.map_append, List.foldl_append]
  exact fold_join (M := 1) _ _ ws.ne (fun p hp => (ws.each p hp).1) fun x hx => by
    (first | ((first | refine Exists.elim (List.mem_map.mp hx) ?_ | refine conj_elim (List.mem_map.mp hx) ?_); rintro (p) tmp; (first | ((first | with_reducible refine Exists.elim tmp ?_ | with_reducible refine conj_elim tmp ?_); (try clear tmp); rintro (hp) (rfl)) | obtain ⟨hp, rfl⟩ := tmp)) | obtain ⟨p, hp, rfl⟩ := List.mem_map.mp hx)
    exact octP_wf (ht p hp)
theorem pairsOf_cons {p : Int} {t : List Int} (hp : 0 ≤ p) (ht : ∀ q ∈ t, 0 ≤ q) : pairsOf (p :: t) = joinP (octP p) (pairsOf t) := by
  have e : pairsOf [p] = octP p := by
    show joinP [(0, 0)] (octP p) = octP p
    exact joinP_left (octP_wf hp).ne
  rw [← e, ← pairsOf_append (s := [p]) (by simpa using hp) ht]
  rfl
theorem pairsOf_flat {h : Int → List Int} : ∀ {ps : List Int}, (∀ p ∈ ps, ∀ q ∈ h p, 0 ≤ q) → (ps.map fun p => pairsOf (h p)).foldl joinP [(0, 0)] = pairsOf (ps.flatMap h)
  | [], _ => rfl
  | p :: ps, hh => by
    have w1 := pairsOf_wf (hh p (.head _))
    rw [List.flatMap_cons, pairsOf_append (hh p (.head _)) (fun q hq => by
      (first | ((first | refine Exists.elim (List.mem_flatMap.mp hq) ?_ | refine conj_elim (List.mem_flatMap.mp hq) ?_); rintro (x) tmp; (first | ((first | with_reducible refine Exists.elim tmp ?_ | with_reducible refine conj_elim tmp ?_); (try clear tmp); rintro (hx) (hq)) | obtain ⟨hx, hq⟩ := tmp)) | obtain ⟨x, hx, hq⟩ := List.mem_flatMap.mp hq)
      exact hh x (.tail _ hx) q hq), ← pairsOf_flat fun x hx => hh x (.tail _ hx)]
    rw [List.map_cons, List.foldl_cons, joinP_left w1.ne]
    have : ∀ x ∈ ps.map (fun p => pairsOf (h p)), ∃ M, WF M x := fun x hx => by
      (first | ((first | refine Exists.elim (List.mem_map.mp hx) ?_ | refine conj_elim (List.mem_map.mp hx) ?_); rintro (q) tmp; (first | ((first | with_reducible refine Exists.elim tmp ?_ | with_reducible refine conj_elim tmp ?_); (try clear tmp); rintro (hq) (rfl)) | obtain ⟨hq, rfl⟩ := tmp)) | obtain ⟨q, hq, rfl⟩ := List.mem_map.mp hx)
      exact ⟨_, pairsOf_wf (hh q (.tail _ hq))⟩
    have hM : ∃ M, ∀ x ∈ ps.map (fun p => pairsOf (h p)), WF M x := by
      clear w1 hh
      generalize ps.map (fun p => pairsOf (h p)) = l at this
      induction l with
      | nil => exact ⟨0, fun x hx => by cases hx⟩
      | cons y l ih =>
        (first | ((first | refine Exists.elim (ih fun x hx => this x (.tail _ hx)) ?_ | refine conj_elim (ih fun x hx => this x (.tail _ hx)) ?_); rintro (M) (hM)) | obtain ⟨M, hM⟩ := ih fun x hx => this x (.tail _ hx))
        (first | ((first | refine Exists.elim (this y (.head _)) ?_ | refine conj_elim (this y (.head _)) ?_); rintro (N) (hN)) | obtain ⟨N, hN⟩ := this y (.head _))
        refine ⟨M + N, fun x hx => ?_⟩
        have mono : ∀ {A B : Nat} {x : List (Int × Int)}, WF A x → A ≤ B → WF B x := fun w h => ⟨w.ne, by have := w.len; omega, fun p hp => by have := w.each p hp; exact ⟨this.1, by omega, this.2.2⟩⟩
        rcases List.mem_cons.mp hx with rfl | hx
        · exact mono hN (by omega)
        · exact mono (hM x hx) (by omega)
    (first | ((first | with_reducible refine Exists.elim hM ?_ | with_reducible refine conj_elim hM ?_); (try clear hM); rintro (M) (hM)) | obtain ⟨M, hM⟩ := hM)
    exact fold_join (M := M) _ _ w1.ne (fun p hp => (w1.each p hp).1) hM
theorem endP_cons {x y : Int × Int} {l : List (Int × Int)} : endP (x :: y :: l) = x.1 :: endP (y :: l) := by
  simp [endP, List.getLastD]
noncomputable def readFrom (a : Int) (l : List Int) : List Int := match readMore a l with
  | none => []
  | some (v, r) => v :: readAll (r.length + 1) r
theorem readAll_from (l : List Int) : readAll (l.length + 1) l = readFrom 0 l := by
  unfold readFrom
  rw [readAll]
  cases q : readMore 0 l with
  | none => rfl
  | some p =>
    (first | ((first | with_reducible refine Exists.elim p ?_ | with_reducible refine conj_elim p ?_); (try clear p); rintro (v) (r)) | obtain ⟨v, r⟩ := p)
    have := readMore_shorter l _ _ _ q
    simp only
    rw [readAll_fuel l.length (r.length + 1) r (by omega) (by omega)]
theorem read_pairs : ∀ (t : List Int) (a o : Int), (∀ p ∈ t, 0 ≤ p) → readFrom a (t ++ [5]) = endP (joinP [(a, o)] (pairsOf t))
  | [], a, o, _ => by
    show readFrom a [5] = endP (joinP [(a, o)] [(0, 0)])
    rw [joinP_right (by simp)]
    simp [readFrom, readMore, endP, readAll]
  | p :: t, a, o, h => by
    have hp := h p (.head _)
    have ht : ∀ q ∈ t, 0 ≤ q := fun q hq => h q (.tail _ hq)
    have wt := pairsOf_wf ht
    have pt : ∀ q ∈ pairsOf t, 0 ≤ q.2 := fun q hq => (wt.each q hq).1
    have wp := octP_wf hp
    rw [pairsOf_cons hp ht, ← joinP_assoc (by simp) wp.ne wt.ne (fun q hq => (wp.each q hq).1) pt]
    rw [List.cons_append]
    by_cases hc : p / 64 % 2 = 1
    · have e : joinP [(a, o)] (octP p) = [(a * 64 + p % 64, o + 1)] := by
        unfold octP
        rw [if_pos hc]
        have := joinP_cons (l := []) (a := a) (o := o) (b := p % 64) (o' := 1) (r := [])
        simpa using this
      rw [e, ← read_pairs t _ _ ht]
      unfold readFrom
      rw [readMore, if_pos hc]
    · have e : joinP [(a, o)] (octP p) = [(a * 64 + p % 64, o + 1)] ++ [(0, 0)] := by
        unfold octP
        rw [if_neg hc]
        have := joinP_cons (l := []) (a := a) (o := o) (b := p % 64) (o' := 1) (r := [(0, 0)])
        simpa using this
      (first | ((first | refine Exists.elim (cons_of wt.ne) ?_ | refine conj_elim (cons_of wt.ne) ?_); rintro (z) tmp; (first | ((first | with_reducible refine Exists.elim tmp ?_ | with_reducible refine conj_elim tmp ?_); (try clear tmp); rintro (o') tmp; (first | ((first | with_reducible refine Exists.elim tmp ?_ | with_reducible refine conj_elim tmp ?_); (try clear tmp); rintro (c') (hz)) | obtain ⟨c', hz⟩ := tmp)) | obtain ⟨o', c', hz⟩ := tmp)) | obtain ⟨z, o', c', hz⟩ := cons_of wt.ne)
      have e2 : joinP [(0, 0)] (pairsOf t) = pairsOf t := joinP_left wt.ne
      have e3 : joinP ([(a * 64 + p % 64, o + 1)] ++ [(0, 0)]) (pairsOf t) = (a * 64 + p % 64, o + 1) :: pairsOf t := by
        rw [hz, joinP_cons]
        simp
      have ih := read_pairs t 0 0 ht
      rw [e2, ← readAll_from] at ih
      rw [e, e3, hz, endP_cons, ← hz, ← ih]
      conv => lhs; unfold readFrom
      rw [readMore, if_neg hc]
/-- what the law asks of a text -/
theorem read_text {t : List Int} (h : ∀ p ∈ t, 0 ≤ p) : readAll ((t ++ [5]).length + 1) (t ++ [5]) = endP (pairsOf t) := by
  rw [readAll_from, read_pairs t 0 0 h, joinP_left (pairsOf_wf h).ne]
end
-- Lv
section
variable {prog : Program} {w : World} {A : Around} {E : Value → Shared → Prop} {s : Shared} {h₀ : Heap} {L : Addr} {m : Str → Option Value} {env : Env} {K : Type} [DecidableEq K] {knd : KeyKind prog w K}
/-- a list comprehension with a test over a dict's values -/
noncomputable def SrcV (knd : KeyKind prog w K) (A : Around) (h₀ : Heap) (L : Addr) (m : Str → Option Value) (env : Env) (ct elt : PySem.Expr) (x : Str) (scope : Scope) (cl : List (Str × Addr)) (Fin : Shared → List Value → List (Addr × Obj) → Prop) (xv : Value) (s₁ : Shared) : Prop :=
  Ex6 fun v d o kvs ep news => All9 (xv = .ref v) (A.handled = none) (Fr h₀ L s₁.heap m) (News h₀ L s₁.heap news) (s₁.heap.IsValuesView v d) ((d, o) ∈ news) (KdkAt knd o kvs ep) (kvs.length ≤ sizeLine) (∀ s₂ : Shared, (∃ h, s₂ = { s₁ with heap := h }) → LCt.CompRestT prog w A h₀ L m env ct elt x scope cl s₂ (fun nw => (d, o) ∈ nw) (fun i v => ∃ k, kvs[i]? = some (k, v)) (Fin s₂) kvs.length 0 [] news)
theorem ListComp_TV {ct elt iter : PySem.Expr} {x : Str} {px : Pos} {scope : Scope} {cl : List (Str × Addr)} {pos : Pos} {Q : Value → Shared → Prop} (knd : KeyKind prog w K) (_F₀ : Fr h₀ L s.heap m)
    (hclos : closureFor scope env = pure cl) (hcell : ∀ y ∈ scope.names, y.2 ≠ .cell) (hkind : scope.kind = .function)
    (hnames : ∀ y ∈ scope.names, y.2 = .local → scope.names.lookup y.1 = some .local) (hx : scope.names.lookup x = some .local)
    (h : wpAny (model prog w) A (eval iter env) (SrcV knd A h₀ L m env ct elt x scope cl (fun s₂ => FinE h₀ L m s₂ Q)) E s)
    (hs : ∀ x, foldedSetIterable iter env x = pure x := by intro _; rfl) :
    wpAny (model prog w) A (eval (.ListComp elt [⟨.Name x px, iter, [ct], 0⟩] scope pos) env) Q E s := by
  rw [eval_ListComp]
  refine wpAny_comprehension_free (use := none) rfl hs hclos hkind hnames (wpAny_mono h (fun xv s₁ h₁ => ?_) fun _ _ e => e)
  (first | ((first | with_reducible refine Exists.elim h₁ ?_ | with_reducible refine conj_elim h₁ ?_); (try clear h₁); rintro (v) tmp; (first | ((first | with_reducible refine Exists.elim tmp ?_ | with_reducible refine conj_elim tmp ?_); (try clear tmp); rintro (d) tmp; (first | ((first | with_reducible refine Exists.elim tmp ?_ | with_reducible refine conj_elim tmp ?_); (try clear tmp); rintro (o) tmp; (first | ((first | with_reducible refine Exists.elim tmp ?_ | with_reducible refine conj_elim tmp ?_); (try clear tmp); rintro (kvs) tmp; (first | ((first | with_reducible refine Exists.elim tmp ?_ | with_reducible refine conj_elim tmp ?_); (try clear tmp); rintro (ep) tmp; (first | ((first | with_reducible refine Exists.elim tmp ?_ | with_reducible refine conj_elim tmp ?_); (try clear tmp); rintro (news) tmp; (first | ((first | with_reducible refine Exists.elim tmp ?_ | with_reducible refine conj_elim tmp ?_); (try clear tmp); rintro (rfl) tmp; (first | ((first | with_reducible refine Exists.elim tmp ?_ | with_reducible refine conj_elim tmp ?_); (try clear tmp); rintro (hh) tmp; (first | ((first | with_reducible refine Exists.elim tmp ?_ | with_reducible refine conj_elim tmp ?_); (try clear tmp); rintro (F) tmp; (first | ((first | with_reducible refine Exists.elim tmp ?_ | with_reducible refine conj_elim tmp ?_); (try clear tmp); rintro (N) tmp; (first | ((first | with_reducible refine Exists.elim tmp ?_ | with_reducible refine conj_elim tmp ?_); (try clear tmp); rintro (hv) tmp; (first | ((first | with_reducible refine Exists.elim tmp ?_ | with_reducible refine conj_elim tmp ?_); (try clear tmp); rintro (hd) tmp; (first | ((first | with_reducible refine Exists.elim tmp ?_ | with_reducible refine conj_elim tmp ?_); (try clear tmp); rintro (ha) tmp; (first | ((first | with_reducible refine Exists.elim tmp ?_ | with_reducible refine conj_elim tmp ?_); (try clear tmp); rintro (hsz) (R)) | obtain ⟨hsz, R⟩ := tmp)) | obtain ⟨ha, hsz, R⟩ := tmp)) | obtain ⟨hd, ha, hsz, R⟩ := tmp)) | obtain ⟨hv, hd, ha, hsz, R⟩ := tmp)) | obtain ⟨N, hv, hd, ha, hsz, R⟩ := tmp)) | obtain ⟨F, N, hv, hd, ha, hsz, R⟩ := tmp)) | obtain ⟨hh, F, N, hv, hd, ha, hsz, R⟩ := tmp)) | obtain ⟨rfl, hh, F, N, hv, hd, ha, hsz, R⟩ := tmp)) | obtain ⟨news, rfl, hh, F, N, hv, hd, ha, hsz, R⟩ := tmp)) | obtain ⟨ep, news, rfl, hh, F, N, hv, hd, ha, hsz, R⟩ := tmp)) | obtain ⟨kvs, ep, news, rfl, hh, F, N, hv, hd, ha, hsz, R⟩ := tmp)) | obtain ⟨o, kvs, ep, news, rfl, hh, F, N, hv, hd, ha, hsz, R⟩ := tmp)) | obtain ⟨d, o, kvs, ep, news, rfl, hh, F, N, hv, hd, ha, hsz, R⟩ := tmp)) | obtain ⟨v, d, o, kvs, ep, news, rfl, hh, F, N, hv, hd, ha, hsz, R⟩ := h₁)
  have hm := ha.dictAt (N _ hd).1
  have hlt : d < s₁.heap.objs.size := Heap.lt_size (N _ hd).1
  refine wpAny_pyIter_values hv hm ?_
  have up : ∀ b o, s₁.heap.get? b = some o → (s₁.heap.push { cls := .type "dict_valueiterator", data := .fields #[.ref d, .int 0 0, .int kvs.length 0, .int ep 0] }).get? b = some o := fun b o e => Heap.get?_push_of_some _ e
  refine LCt.block_T (S := fun nw => (d, o) ∈ nw) (Walks.dictValues (knd := knd) hh s₁.heap.objs.size d (Nat.ne_of_lt hlt) kvs ep) hsz (fun i h st => by (first | ((first | refine Exists.elim (st.1) ?_ | refine conj_elim (st.1) ?_); rintro (o) tmp; (first | ((first | with_reducible refine Exists.elim tmp ?_ | with_reducible refine conj_elim tmp ?_); (try clear tmp); rintro (e) (_)) | obtain ⟨e, _⟩ := tmp)) | obtain ⟨o, e, _⟩ := st.1); exact ⟨o, e⟩) (fun i h h' oI nw st e1 e2 _ N' hS => ⟨st.1.at (fun o' e' => by rw [e1] at e'; cases e'; exact e2), ha.dictAt (N' _ hS).1⟩) hcell hkind hx ⟨⟨_, Heap.get?_push_size _ rfl, rfl, rfl⟩, hm.push _⟩ (fun b hb => ?_)
    (F.keeps up) (N.grown up) (Nat.ne_of_lt F.ns.lt) (next_is_new F) (fun p hp => Nat.ne_of_lt (Heap.lt_size (N p hp).1)) hd (R _ ⟨_, rfl⟩) ?_
  · show b < (s₁.heap.push _).objs.size
    rw [Heap.size_push]
    rcases List.mem_cons.mp hb with rfl | hb
    · exact Nat.lt_succ_self _
    · rw [List.mem_singleton.mp hb]; exact Nat.lt_succ_of_lt hlt
  · intro D C h tk m' ys news' F' N' o1 hn hC₀ hD₀ hCL hDL hCD offC fin
    refine ⟨m', hn, fun h'' hs'' => fin D h'' tk (F'.change hs'' hCL hC₀) (fun p hp => ?_) o1⟩
    refine ⟨hs''.extBut _ _ ?_ (N' p hp).1, (N' p hp).2⟩
    rcases List.mem_cons.mp hp with rfl | hp
    · exact Ne.symm hCD
    · exact offC p hp
end
-- Fe
theorem updN0 {a : Addr × Obj} {l : List (Addr × Obj)} (h : ((a :: l).map (·.1)).Nodup) : UpdF a.1 a.2 (a :: l) (fun o => (a.1, o) :: l) := updF_nodup (pre := []) h
theorem updN1 {a b : Addr × Obj} {l : List (Addr × Obj)} (h : ((a :: b :: l).map (·.1)).Nodup) : UpdF b.1 b.2 (a :: b :: l) (fun o => a :: (b.1, o) :: l) := updF_nodup (pre := [a]) h
theorem updN2 {a b c : Addr × Obj} {l : List (Addr × Obj)} (h : ((a :: b :: c :: l).map (·.1)).Nodup) : UpdF c.1 c.2 (a :: b :: c :: l) (fun o => a :: b :: (c.1, o) :: l) := updF_nodup (pre := [a, b]) h
theorem updN3 {a b c d : Addr × Obj} {l : List (Addr × Obj)} (h : ((a :: b :: c :: d :: l).map (·.1)).Nodup) : UpdF d.1 d.2 (a :: b :: c :: d :: l) (fun o => a :: b :: c :: (d.1, o) :: l) := updF_nodup (pre := [a, b, c]) h
theorem updN4 {a b c d e : Addr × Obj} {l : List (Addr × Obj)} (h : ((a :: b :: c :: d :: e :: l).map (·.1)).Nodup) : UpdF e.1 e.2 (a :: b :: c :: d :: e :: l) (fun o => a :: b :: c :: d :: (e.1, o) :: l) := updF_nodup (pre := [a, b, c, d]) h
/-- the ground and what stands on it -/
structure Gd (w : World) (mean : ExcName → Option Value) (mg mb : Str → Option Value) (A : Around) (base : Heap) (outer : List Env) (g g' : Heap) : Prop where
  turn : KtsTurn (frs outer) g g'
  below : Below A base outer g'
  inn : (Mine.hd.heap_1 w.params).In g'
  top : TT mean mg mb g'
  dicts : KtsDicts (frs outer) g'
/-- the names of the search -/
structure Mp (m : Str → Option Value) (nA kA tA sA cA : Addr) : Prop where
  n2i : m (Str.ofString "n2i") = some (.ref nA)
  stack : m (Str.ofString "stack") = some (.ref kA)
  itstack : m (Str.ofString "itstack") = some (.ref tA)
  seen : m (Str.ofString "seen") = some (.ref sA)
  n2s : m (Str.ofString "node2stacki") = some (.ref cA)
theorem Mp.put {m : Str → Option Value} {nA kA tA sA cA : Addr} (h : Mp m nA kA tA sA cA) (v : Option Value) : Mp (fun y => if y = Str.ofString "node" then v else m y) nA kA tA sA cA :=
  ⟨(if_neg (by decide)).trans h.n2i, (if_neg (by decide)).trans h.stack, (if_neg (by decide)).trans h.itstack, (if_neg (by decide)).trans h.seen, (if_neg (by decide)).trans h.n2s⟩
noncomputable abbrev fcL (kA tA sA cA : Addr) (kc tc : Nat) (so od : Obj) (es : List Ent) (tab : List (Addr × Obj)) : List (Addr × Obj) :=
  (kA, listOf (stkV es).toArray kc) :: (tA, listOf (itV es).toArray tc) :: (sA, so) :: (cA, od) :: (entLed es ++ tab)
theorem fcL_nodup {kA tA sA cA : Addr} {kc tc : Nat} {so od : Obj} {es : List Ent} {tab : List (Addr × Obj)} (h : ((entLed es).map (·.1) ++ (kA :: tA :: sA :: cA :: tab.map (·.1))).Nodup) : ((fcL kA tA sA cA kc tc so od es tab).map (·.1)).Nodup := by
  refine (List.Perm.nodup_iff ?_).mp h
  simp only [List.map_cons, List.map_append]
  have : (entLed es).map (·.1) ++ ([kA, tA, sA, cA] ++ tab.map (·.1)) = (entLed es).map (·.1) ++ (kA :: tA :: sA :: cA :: tab.map (·.1)) := rfl
  rw [← this, ← List.append_assoc]
  have e2 : ∀ X Y : List Addr, kA :: tA :: sA :: cA :: (X ++ Y) = ([kA, tA, sA, cA] ++ X) ++ Y := fun _ _ => rfl
  rw [e2]
  exact List.Perm.append_right _ List.perm_append_comm
/-- the whole of the search's state; `ch` is the node in hand -/
structure FcI (w : World) (l : List Nd) (kA tA sA cA : Addr) (tab : List (Addr × Obj)) (root : Int) (ch : Option Int) (es : List Ent) (fin : List Int) (S : Int → Bool) (n : Nat) (so od : Obj) : Prop where
  st : FSt w l es fin S n so od
  ap : ((entLed es).map (·.1) ++ (kA :: tA :: sA :: cA :: tab.map (·.1))).Nodup
  stk : StkOk (slOf l) fin ch (absE es)
  pos : ∀ e ∈ es, e.pos ≤ 1000
  root : root ∈ es.map (·.node) ∨ root ∈ fin ∨ ch = some root
-- Ff
section
variable {w : World} {l : List Nd} {kA tA sA cA : Addr} {tab : List (Addr × Obj)} {root node : Int} {es : List Ent} {fin : List Int} {S : Int → Bool} {n : Nat} {so od so' od' : Obj} {e : Ent}
theorem FcI.goSeen (f : FcI w l kA tA sA cA tab root (some node) es fin S n so od) (hs : S node = true) (hn : node ∉ es.map (·.node)) : FcI w l kA tA sA cA tab root none es fin S n so od := by
  have hf : node ∈ fin := ((f.st.seen node).mp hs).resolve_left hn
  refine ⟨f.st, f.ap, f.stk.seen hf, f.pos, ?_⟩
  rcases f.root with h | h | h
  · exact .inl h
  · exact .inr (.inl h)
  · cases h; exact .inr (.inl hf)
theorem FcI.ring (f : FcI w l kA tA sA cA tab root (some node) es fin S n so od) (hn : node ∈ es.map (·.node)) : Ring (slOf l) := f.stk.ring (by simpa [absE] using hn)
theorem FcI.push {x : Nd} (f : FcI w l kA tA sA cA tab root (some node) es fin S n so od) (hs : S node = false) (hx : x ∈ l) (hxk : x.k = node) (h1 : e.node = node) (h2 : e.sa = x.sa) (h3 : e.pos = 0)
    (hit : e.it ∉ (entLed es).map (·.1) ++ (kA :: tA :: sA :: cA :: tab.map (·.1))) (hmw : e.mw ∉ (entLed es).map (·.1) ++ (kA :: tA :: sA :: cA :: tab.map (·.1))) (hne : e.it ≠ e.mw)
    (hset : so'.SetObjOf (PySem.intKind P w) (fun k' => S k' || decide (k' = node)) (n + 1)) (hd : od'.IsDictOf (PySem.intKind P w) (kvE (e :: es))) :
    FcI w l kA tA sA cA tab root none (e :: es) fin (fun k' => S k' || decide (k' = node)) (n + 1) so' od' := by
  have hnn : node ∉ es.map (·.node) ∧ node ∉ fin := by
    refine ⟨fun h => ?_, fun h => ?_⟩
    · have := (f.st.seen node).mpr (.inl h); rw [hs] at this; cases this
    · have := (f.st.seen node).mpr (.inr h); rw [hs] at this; cases this
  refine ⟨⟨?_, ?_, ?_, f.st.fino, ?_, hset, ?_, hd⟩, ?_, ?_, ?_, ?_⟩
  · intro k
    simp only [Bool.or_eq_true, decide_eq_true_eq, List.map_cons, List.mem_cons, h1]
    rw [f.st.seen k]
    constructor
    · rintro ((h | h) | h)
      · exact .inl (.inr h)
      · exact .inr h
      · exact .inl (.inl h)
    · rintro ((h | h) | h)
      · exact .inr h
      · exact .inl (.inl h)
      · exact .inl (.inr h)
  · rw [List.map_cons, List.cons_append, h1]
    refine List.nodup_cons.mpr ⟨fun h => ?_, f.st.nd⟩
    rcases List.mem_append.mp h with h | h
    · exact hnn.1 h
    · exact hnn.2 h
  · intro k hk
    rw [List.map_cons, List.cons_append, h1] at hk
    rcases List.mem_cons.mp hk with rfl | hk
    · exact hxk ▸ List.mem_map_of_mem hx
    · exact f.st.sub k hk
  · intro y hy
    rcases List.mem_cons.mp hy with rfl | hy
    · exact ⟨x, hx, hxk.trans h1.symm, h2.symm⟩
    · exact f.st.inK y hy
  · rw [f.st.cnt]; simp only [List.length_cons]; omega
  · rw [entLed_cons, List.map_cons, List.map_cons, List.cons_append, List.cons_append]
    refine List.nodup_cons.mpr ⟨fun h => ?_, List.nodup_cons.mpr ⟨hmw, f.ap⟩⟩
    rcases List.mem_cons.mp h with h | h
    · exact hne h
    · exact hit h
  · show StkOk _ _ _ ((e.node, e.pos) :: absE es)
    rw [h1, h3]
    exact f.stk.push
  · intro y hy
    rcases List.mem_cons.mp hy with rfl | hy
    · omega
    · exact f.pos y hy
  · rcases f.root with h | h | h
    · exact .inl (.tail _ h)
    · exact .inr (.inl h)
    · cases h; exact .inl (by rw [List.map_cons, h1]; exact .head _)
theorem FcI.item {u : Int} (f : FcI w l kA tA sA cA tab root none (e :: es) fin S n so od) (hu : (slOf l e.node)[e.pos]? = some u) (hb : (slOf l e.node).length ≤ 1000) :
    FcI w l kA tA sA cA tab root (some u) ({ e with pos := e.pos + 1 } :: es) fin S n so od := by
  have hlt := (List.getElem?_eq_some_iff.mp hu).1
  refine ⟨⟨f.st.seen, f.st.nd, f.st.sub, f.st.fino, ?_, f.st.set, f.st.cnt, by have := f.st.dct; rw [kvE_cons] at this ⊢; exact this⟩, by have := f.ap; rw [entLed_cons] at this ⊢; exact this, f.stk.item hu, ?_, ?_⟩
  · intro y hy
    rcases List.mem_cons.mp hy with rfl | hy
    · exact f.st.inK e (.head _)
    · exact f.st.inK y (.tail _ hy)
  · intro y hy
    rcases List.mem_cons.mp hy with rfl | hy
    · show e.pos + 1 ≤ 1000; omega
    · exact f.pos y (.tail _ hy)
  · rcases f.root with h | h | h
    · exact .inl h
    · exact .inr (.inl h)
    · cases h
theorem FcI.popd (f : FcI w l kA tA sA cA tab root none (e :: es) fin S n so od) (hu : (slOf l e.node)[e.pos]? = none) (hd : od'.IsDictOf (PySem.intKind P w) (kvE es)) :
    FcI w l kA tA sA cA tab root none es (e.node :: fin) S n so od' := by
  have hall := f.stk.all hu
  refine ⟨⟨?_, ?_, ?_, f.st.fino.pop hall, fun y hy => f.st.inK y (.tail _ hy), f.st.set, ?_, hd⟩, ?_, ?_, fun y hy => f.pos y (.tail _ hy), ?_⟩
  · intro k
    rw [f.st.seen k]
    simp only [List.map_cons, List.mem_cons]
    constructor
    · rintro ((h | h) | h)
      · exact .inr (.inl h)
      · exact .inl h
      · exact .inr (.inr h)
    · rintro (h | h | h)
      · exact .inl (.inr h)
      · exact .inl (.inl h)
      · exact .inr h
  · have := f.st.nd
    rw [List.map_cons, List.cons_append] at this
    exact (List.Perm.nodup_iff List.perm_middle.symm).mp this
  · intro k hk
    refine f.st.sub k ?_
    simp only [List.map_cons, List.cons_append, List.mem_cons, List.mem_append] at hk ⊢
    rcases hk with h | h | h
    · exact .inr (.inl h)
    · exact .inl h
    · exact .inr (.inr h)
  · rw [f.st.cnt]; simp only [List.length_cons]; omega
  · have := f.ap
    rw [entLed_cons, List.map_cons, List.map_cons, List.cons_append, List.cons_append] at this
    exact (List.nodup_cons.mp (List.nodup_cons.mp this).2).2
  · exact f.stk.2.2.pop
  · rcases f.root with h | h | h
    · rcases List.mem_cons.mp h with h | h
      · exact .inr (.inl (h ▸ .head _))
      · exact .inl h
    · exact .inr (.inl (.tail _ h))
    · cases h
theorem muE_item : muE ({ e with pos := e.pos + 1 } :: es) n < muE (e :: es) n ↔ e.pos < 1001 := by
  simp only [muE, List.map_cons, List.sum_cons]
  omega
theorem muE_pop (h : e.pos ≤ 1000) : muE es n < muE (e :: es) n := by
  simp only [muE, List.map_cons, List.sum_cons]
  omega
theorem muE_push (h : e.pos = 0) (hn : n < 100) : muE (e :: es) (n + 1) ≤ muE es n := by
  simp only [muE, List.map_cons, List.sum_cons]
  omega
end
-- Cw
theorem callWith_mw {M : Model} {A : Around} {E : Value → Shared → Prop} {s : Shared} {pos : Pos} {u it : Addr} {env : Env} {Q : Value → Shared → Prop} (hu : s.heap.get? u = some (mwObj it)) (h : wpAny M A (call (.ref u) []) Q E s) :
    wpAny M A (callWith pos (.ref u) [] (backTo pos (starEach [] env)) []) Q E s := by
  show wpAny M A (callWith pos (.ref u) [] [] []) Q E s
  unfold callWith
  refine wpAny_bind (wpAny_holding (wpAny_mono (Q := fun x s₁ => x = ⟨[], []⟩ ∧ s₁ = s) (E := E) ?_ (fun x s₁ h₁ => wpAny_bind (wpAny_standAt ?_)) fun _ _ x => x))
  · exact wpAny_of_eq (a := ⟨[], []⟩) (by first | rfl | kernel_rfl) ⟨rfl, rfl⟩
  · (first | ((first | with_reducible refine Exists.elim h₁ ?_ | with_reducible refine conj_elim h₁ ?_); (try clear h₁); rintro (rfl) (rfl)) | obtain ⟨rfl, rfl⟩ := h₁)
    simp only [List.any_nil, Bool.or_false]
    refine wpAny_bind (m := keeperOf (.ref u)) ?_
    unfold keeperOf
    refine wpAny_bind (wpAny_load hu ?_)
    simp only [show (Value.type "method-wrapper" != Value.type "method") = true by decide, show (Value.type "method-wrapper" == Value.type "builtin_function_or_method" || Value.type "method-wrapper" == Value.type "method-wrapper") = true by decide, if_true]
    refine wpAny_pure ?_
    exact wpAny_bind (wpAny_mono h (fun r s₂ hr => wpAny_bind (wpAny_holding (wpAny_point (wpAny_pure hr)))) fun _ _ x => x)
-- Fc
theorem fcN {kA tA sA cA : Addr} {o1 o2 o3 o4 : Obj} {es tab : List (Addr × Obj)} (h : (es.map (·.1) ++ (kA :: tA :: sA :: cA :: tab.map (·.1))).Nodup) : (((kA, o1) :: (tA, o2) :: (sA, o3) :: (cA, o4) :: (es ++ tab) : List (Addr × Obj)).map (·.1)).Nodup := by
  refine (List.Perm.nodup_iff ?_).mp h
  simp only [List.map_cons, List.map_append]
  have : es.map (·.1) ++ ([kA, tA, sA, cA] ++ tab.map (·.1)) = es.map (·.1) ++ (kA :: tA :: sA :: cA :: tab.map (·.1)) := rfl
  rw [← this, ← List.append_assoc]
  have e2 : ∀ X Y : List Addr, kA :: tA :: sA :: cA :: (X ++ Y) = ([kA, tA, sA, cA] ++ X) ++ Y := fun _ _ => rfl
  rw [e2]
  exact List.Perm.append_right _ List.perm_append_comm
theorem key_int {k : Int} {key : Value} (h : Value.isInt k key = true) : ∃ t, key = .int k t := by
  cases key with
  | int i t =>
    have : i = k := by simpa [Value.isInt] using h
    exact ⟨t, by rw [this]⟩
  | _ => cases h
theorem allLt_all {d : Nat} : ∀ {l : List (Addr × Obj)}, AllLt d l → ∀ p ∈ l, @LT.lt Nat _ p.1 d := by
  intro l
  induction l with
  | nil => intro _ p hp; exact absurd hp (by simp)
  | cons x l ih =>
    intro h p hp
    rcases List.mem_cons.mp hp with e | hp
    · rw [e]; exact h.1
    · exact ih h.2 p hp
set_option maxHeartbeats 8000000 in
theorem find_spec {w : World} {mean : ExcName → Option Value} {mg mb : Str → Option Value} {base g : Heap} {outer : List Env} {s : Shared} {dp un : Nat} {gd : Option (List Code)} {R : Result → Shared → Prop}
    {rest : List (Addr × Obj)} {l : List Nd} {pA dA nA : Addr} {on : Obj} {rv : Value} {t1 t2 t3 t4 ta tb : Tok} {a b : Int}
    (S : Sit w mean mg mb base outer g s.heap ((nA, on) :: (pA, instObj 153 dA) :: (dA, planD w t1 t2 t3 t4 nA rv a ta b tb) :: (ndLed l ++ rest)))
    (ok : NdOk w l on (nA :: pA :: dA :: rest.map (·.1))) (lo : (nA == sysModules) = false) (hlen : l.length ≤ 50) (hsl : ∀ x ∈ l, x.sl.length ≤ 1000) (hsin : ∀ x ∈ l, ∀ k ∈ x.sl, k ∈ l.map (·.k))
    (hd : dp + 15 < recursionLimit) (hu : un + 150 < cLine)
    (rnone : ∀ g' h' tk', KtsTurn (frs outer) g g' → NoRing (slOf l) (l.map (·.k)) → Done g' h' ((nA, on) :: (pA, instObj 153 dA) :: (dA, planD w t1 t2 t3 t4 nA rv a ta b tb) :: (ndLed l ++ rest)) → R (.ok (.ret .none)) { s with heap := h', toks := tk' })
    (rring : ∀ g' h' tk' q vs k, KtsTurn (frs outer) g g' → Ring (slOf l) → vs ≠ [] → vs.length ≤ 1000 → (∀ p ∈ (nA, on) :: (pA, instObj 153 dA) :: (dA, planD w t1 t2 t3 t4 nA rv a ta b tb) :: (ndLed l ++ rest), @LT.lt Nat _ p.1 q) → Done g' h' ((q, listOf vs.toArray k) :: (nA, on) :: (pA, instObj 153 dA) :: (dA, planD w t1 t2 t3 t4 nA rv a ta b tb) :: (ndLed l ++ rest)) → R (.ok (.ret (.ref q))) { s with heap := h', toks := tk' }) :
    codeAny (model P w) (arnd dp un gd outer) (.call (.ref 143) ⟨[.ref pA], []⟩) R s := by
  refine S.enter (binds := [(Str.ofString "self", .ref pA)]) (by k_is) (by k_is) (by omega) (BindsTo.of_eq rfl) (locs rfl) ?_ rfl rfl rfl (by decide)
  intro L h₁ F N B X T KD XB TB hlt
  have ap0 := led_nodup (hd := [(nA, on), (pA, instObj 153 dA), (dA, planD w t1 t2 t3 t4 nA rv a ta b tb)]) (rest := rest) ok.apart
  have hmn : (nA, on) ∈ (nA, on) :: (pA, instObj 153 dA) :: (dA, planD w t1 t2 t3 t4 nA rv a ta b tb) :: (ndLed l ++ rest) := .head _
  have hmp : (pA, instObj 153 dA) ∈ (nA, on) :: (pA, instObj 153 dA) :: (dA, planD w t1 t2 t3 t4 nA rv a ta b tb) :: (ndLed l ++ rest) := .tail _ (.head _)
  have hmx : ∀ x ∈ l, ∀ p ∈ x.led, p ∈ (nA, on) :: (pA, instObj 153 dA) :: (dA, planD w t1 t2 t3 t4 nA rv a ta b tb) :: (ndLed l ++ rest) := fun x hx p hp => nd_mem (hd := [_, _, _]) hx hp
  have hkeys := ok.keys
  have hivs := ok.ivs
  have hon := ok.dict
  (repeat' (fail_if_success with_reducible first | refine zzW ?_ | refine zzF ?_ | refine zzC ?_ | refine zzL ?_ | refine zzD ?_); first | k_unfold; try dsimp only | walk1 | dsimp only; walk1 | leave1; try dsimp only)
  rename Fr _ _ _ _ => F₂
  rename News _ _ _ _ => N₂
  rename_i kA _ k1 k2 k3 kL _ _ tA _ u1 u2 u3 u4 uL _ sA _ led hset _ v1 v2 v3 v4 v5 vL hh
  have ltk : ∀ p ∈ (nA, on) :: (pA, instObj 153 dA) :: (dA, planD w t1 t2 t3 t4 nA rv a ta b tb) :: (ndLed l ++ rest), @LT.lt Nat _ p.1 kA :=
    List.forall_mem_cons.mpr ⟨k1, List.forall_mem_cons.mpr ⟨k2, List.forall_mem_cons.mpr ⟨k3, allLt_all kL⟩⟩⟩
  clear S hlt ok
  generalize htab : ((nA, on) :: (pA, instObj 153 dA) :: (dA, planD w t1 t2 t3 t4 nA rv a ta b tb) :: (ndLed l ++ rest) : List (Addr × Obj)) = tab at *
  have ap0 : (tab.map (·.1)).Nodup := htab ▸ ap0
  refine newDict_K F₂ N₂ T.nolimit ?_
  intro cA h₃ od F₃ N₃ lC loC _ _ hod _
  have ltC : @LT.lt Nat _ sA cA := lC _ (.head _)
  have lkt : @LT.lt Nat _ kA tA := u1
  have lts : @LT.lt Nat _ tA sA := v1
  clear u1 u2 u3 u4 uL v1 v2 v3 v4 v5 vL k1 k2 k3 kL lC F₂ N₂ htab
  have ap1 : (((kA, listOf #[] 0) :: (tA, listOf #[] 0) :: (sA, { cls := Value.type "set", data := Data.set #[] 0 (SetTable.fresh 0 0 led) }) :: (cA, od) :: tab : List (Addr × Obj)).map (·.1)).Nodup := by
    simp only [List.map_cons, List.nodup_cons, List.mem_cons, not_or]
    have tb : ∀ y ∈ tab.map (·.1), @LT.lt Nat _ y kA := fun y hy => by
      (first | ((first | refine Exists.elim (List.mem_map.mp hy) ?_ | refine conj_elim (List.mem_map.mp hy) ?_); rintro (p) tmp; (first | ((first | with_reducible refine Exists.elim tmp ?_ | with_reducible refine conj_elim tmp ?_); (try clear tmp); rintro (hp) (rfl)) | obtain ⟨hp, rfl⟩ := tmp)) | obtain ⟨p, hp, rfl⟩ := List.mem_map.mp hy)
      exact ltk p hp
    refine ⟨⟨?_, ?_, ?_, fun hm => ?_⟩, ⟨?_, ?_, fun hm => ?_⟩, ⟨?_, fun hm => ?_⟩, fun hm => ?_, ap0⟩
    · exact Nat.ne_of_lt lkt
    · exact Nat.ne_of_lt (Nat.lt_trans lkt lts)
    · exact Nat.ne_of_lt (Nat.lt_trans lkt (Nat.lt_trans lts ltC))
    · exact Nat.lt_irrefl _ (tb _ hm)
    · exact Nat.ne_of_lt lts
    · exact Nat.ne_of_lt (Nat.lt_trans lts ltC)
    · exact Nat.lt_irrefl _ (Nat.lt_trans lkt (tb _ hm))
    · exact Nat.ne_of_lt ltC
    · exact Nat.lt_irrefl _ (Nat.lt_trans (Nat.lt_trans lkt lts) (tb _ hm))
    · exact Nat.lt_irrefl _ (Nat.lt_trans (Nat.lt_trans lkt (Nat.lt_trans lts ltC)) (tb _ hm))
  have N₄ : News g L h₃ ((kA, listOf #[] 0) :: (tA, listOf #[] 0) :: (sA, { cls := Value.type "set", data := Data.set #[] 0 (SetTable.fresh 0 0 led) }) :: (cA, od) :: tab) := fun p hp => N₃ p (by
    exact sub_at re8 hp)
  clear N₃ lkt lts ltC
  (repeat' (fail_if_success with_reducible first | refine zzW ?_ | refine zzF ?_ | refine zzC ?_ | refine zzL ?_ | refine zzD ?_); first | k_unfold; try dsimp only | walk1 | dsimp only; walk1 | leave1; try dsimp only)
  rename Fr _ _ _ _ => F₅
  rename News _ _ _ _ => N₅
  refine For_gen ?_
  (repeat' (fail_if_success with_reducible first | refine zzW ?_ | refine zzF ?_ | refine zzC ?_ | refine zzL ?_ | refine zzD ?_); first | k_unfold; try dsimp only | walk1 | dsimp only; walk1 | leave1; try dsimp only)
  refine piter_dict (knd := PySem.intKind P w) F₅ N₅ (.tail _ (.tail _ (.tail _ (.tail _ hmn)))) hon lo ?_
  intro I h₆ oI ep F₆ N₆ lI hI hat
  clear F₅ N₅
  have apI : ((entLed []).map (·.1) ++ (kA :: tA :: sA :: cA :: ((I, oI) :: tab : List (Addr × Obj)).map (·.1))).Nodup := by
    have hz : ∀ y ∈ [kA, tA, sA, cA] ++ tab.map (·.1), @Ne Nat y I := by
      intro y hy
      rcases List.mem_append.mp hy with hy | hy
      · simp only [List.mem_cons, List.not_mem_nil, or_false] at hy
        rcases hy with rfl | rfl | rfl | rfl
        · exact Nat.ne_of_lt (lI _ (.head _))
        · exact Nat.ne_of_lt (lI _ (.tail _ (.head _)))
        · exact Nat.ne_of_lt (lI _ (.tail _ (.tail _ (.head _))))
        · exact Nat.ne_of_lt (lI _ (.tail _ (.tail _ (.tail _ (.head _)))))
      · (first | ((first | refine Exists.elim (List.mem_map.mp hy) ?_ | refine conj_elim (List.mem_map.mp hy) ?_); rintro (p) tmp; (first | ((first | with_reducible refine Exists.elim tmp ?_ | with_reducible refine conj_elim tmp ?_); (try clear tmp); rintro (hp) (rfl)) | obtain ⟨hp, rfl⟩ := tmp)) | obtain ⟨p, hp, rfl⟩ := List.mem_map.mp hy)
        exact Nat.ne_of_lt (lI _ (.tail _ (.tail _ (.tail _ (.tail _ hp)))))
    have h1 : (I :: ([kA, tA, sA, cA] ++ tab.map (·.1))).Nodup := List.nodup_cons.mpr ⟨fun hm => hz _ hm rfl, ap1⟩
    exact (List.Perm.nodup_iff (List.perm_middle (l₁ := [kA, tA, sA, cA])).symm).mp h1
  have Gd0 : Gd w mean mg mb (arnd dp un gd outer) base outer g g := ⟨KtsTurn.refl, B, X, T, KD⟩
  clear B X T KD
  have F0 : FSt w l [] [] (fun _ => false) 0 { cls := Value.type "set", data := Data.set #[] 0 (SetTable.fresh 0 0 led) } od :=
    ⟨by simp, by simp, by simp, fun a v b e => by simp at e, by simp, hset, rfl, hod⟩
  (try dsimp only)
  refine turns_dict (knd := PySem.intKind P w) (fun i g' m nw => All3 (Gd w mean mg mb (arnd dp un gd outer) base outer g g') (Mp m nA kA tA sA cA) (Ex7 fun fin S n so od kc tc => All3 (FSt w l [] fin S n so od) ((∀ k ∈ (l.map (·.k)).take i, k ∈ fin)) (nw = (kA, listOf #[] kc) :: (tA, listOf #[] tc) :: (sA, so) :: (cA, od) :: tab))) rfl hat ?_ F₆ N₆ hI ⟨Gd0, ⟨rfl, rfl, rfl, rfl, rfl⟩, [], _, 0, _, od, 0, 0, F0, by simp, rfl⟩ (Nat.zero_le _) ?_ ?_
  · rintro i g' m nw ⟨_, _, fin, S, n, so, od', kc, tc, _, _, rfl⟩
    refine ⟨.tail _ (.tail _ (.tail _ (.tail _ hmn))), fun p hp => ?_⟩
    have h1 := (List.nodup_cons.mp ((List.Perm.nodup_iff (List.perm_middle (l₁ := [kA, tA, sA, cA]))).mp apI)).1
    intro e
    refine h1 ?_
    have : p.1 ∈ ((kA, listOf #[] kc) :: (tA, listOf #[] tc) :: (sA, so) :: (cA, od') :: tab : List (Addr × Obj)).map (·.1) := List.mem_map_of_mem hp
    rw [e] at this
    exact this
  · rintro i g' m nw h tk k v key oI' hJ9 hk hkey hI' Fi Ni hneI Q1 hQ1
    (first | ((first | with_reducible refine Exists.elim hJ9 ?_ | with_reducible refine conj_elim hJ9 ?_); (try clear hJ9); rintro (G') tmp; (first | ((first | with_reducible refine Exists.elim tmp ?_ | with_reducible refine conj_elim tmp ?_); (try clear tmp); rintro (M') tmp; (first | ((first | with_reducible refine Exists.elim tmp ?_ | with_reducible refine conj_elim tmp ?_); (try clear tmp); rintro (fin) tmp; (first | ((first | with_reducible refine Exists.elim tmp ?_ | with_reducible refine conj_elim tmp ?_); (try clear tmp); rintro (S) tmp; (first | ((first | with_reducible refine Exists.elim tmp ?_ | with_reducible refine conj_elim tmp ?_); (try clear tmp); rintro (n) tmp; (first | ((first | with_reducible refine Exists.elim tmp ?_ | with_reducible refine conj_elim tmp ?_); (try clear tmp); rintro (so) tmp; (first | ((first | with_reducible refine Exists.elim tmp ?_ | with_reducible refine conj_elim tmp ?_); (try clear tmp); rintro (od') tmp; (first | ((first | with_reducible refine Exists.elim tmp ?_ | with_reducible refine conj_elim tmp ?_); (try clear tmp); rintro (kc) tmp; (first | ((first | with_reducible refine Exists.elim tmp ?_ | with_reducible refine conj_elim tmp ?_); (try clear tmp); rintro (tc) tmp; (first | ((first | with_reducible refine Exists.elim tmp ?_ | with_reducible refine conj_elim tmp ?_); (try clear tmp); rintro (fst) tmp; (first | ((first | with_reducible refine Exists.elim tmp ?_ | with_reducible refine conj_elim tmp ?_); (try clear tmp); rintro (hfin) (rfl)) | obtain ⟨hfin, rfl⟩ := tmp)) | obtain ⟨fst, hfin, rfl⟩ := tmp)) | obtain ⟨tc, fst, hfin, rfl⟩ := tmp)) | obtain ⟨kc, tc, fst, hfin, rfl⟩ := tmp)) | obtain ⟨od', kc, tc, fst, hfin, rfl⟩ := tmp)) | obtain ⟨so, od', kc, tc, fst, hfin, rfl⟩ := tmp)) | obtain ⟨n, so, od', kc, tc, fst, hfin, rfl⟩ := tmp)) | obtain ⟨S, n, so, od', kc, tc, fst, hfin, rfl⟩ := tmp)) | obtain ⟨fin, S, n, so, od', kc, tc, fst, hfin, rfl⟩ := tmp)) | obtain ⟨M', fin, S, n, so, od', kc, tc, fst, hfin, rfl⟩ := tmp)) | obtain ⟨G', M', fin, S, n, so, od', kc, tc, fst, hfin, rfl⟩ := hJ9)
    (first | ((first | refine Exists.elim (key_int (show Value.isInt k key = true from hkey)) ?_ | refine conj_elim (key_int (show Value.isInt k key = true from hkey)) ?_); rintro (kt) (rfl)) | obtain ⟨kt, rfl⟩ := key_int (show Value.isInt k key = true from hkey))
    have hkl : (l.map (·.k))[i]? = some k := by
      have := congrArg (Option.map (·.1)) hk
      rw [← List.getElem?_map, List.map_map] at this
      exact this
    (first | ((first | refine Exists.elim (id M') ?_ | refine conj_elim (id M') ?_); rintro (hm1) tmp; (first | ((first | with_reducible refine Exists.elim tmp ?_ | with_reducible refine conj_elim tmp ?_); (try clear tmp); rintro (hm2) tmp; (first | ((first | with_reducible refine Exists.elim tmp ?_ | with_reducible refine conj_elim tmp ?_); (try clear tmp); rintro (hm3) tmp; (first | ((first | with_reducible refine Exists.elim tmp ?_ | with_reducible refine conj_elim tmp ?_); (try clear tmp); rintro (hm4) (hm5)) | obtain ⟨hm4, hm5⟩ := tmp)) | obtain ⟨hm3, hm4, hm5⟩ := tmp)) | obtain ⟨hm2, hm3, hm4, hm5⟩ := tmp)) | obtain ⟨hm1, hm2, hm3, hm4, hm5⟩ := id M')
    (first | ((first | refine Exists.elim (id G') ?_ | refine conj_elim (id G') ?_); rintro (T') tmp; (first | ((first | with_reducible refine Exists.elim tmp ?_ | with_reducible refine conj_elim tmp ?_); (try clear tmp); rintro (B) tmp; (first | ((first | with_reducible refine Exists.elim tmp ?_ | with_reducible refine conj_elim tmp ?_); (try clear tmp); rintro (X) tmp; (first | ((first | with_reducible refine Exists.elim tmp ?_ | with_reducible refine conj_elim tmp ?_); (try clear tmp); rintro (T) (KD)) | obtain ⟨T, KD⟩ := tmp)) | obtain ⟨X, T, KD⟩ := tmp)) | obtain ⟨B, X, T, KD⟩ := tmp)) | obtain ⟨T', B, X, T, KD⟩ := id G')
    have apI' : ((entLed []).map (·.1) ++ (kA :: tA :: sA :: cA :: ((I, oI') :: tab : List (Addr × Obj)).map (·.1))).Nodup := apI
    have NI : News g' L h ((kA, listOf #[] kc) :: (tA, listOf #[] tc) :: (sA, so) :: (cA, od') :: (I, oI') :: tab) := fun p hp => Ni p (by
      exact sub_at re9 hp)
    clear Ni F₆ N₆
    have hmn' : (nA, on) ∈ (I, oI') :: tab := .tail _ hmn
    have hmx' : ∀ x ∈ l, ∀ p ∈ x.led, p ∈ (I, oI') :: tab := fun x hx p hp => .tail _ (hmx x hx p hp)
    have hset' := fst.set
    have hdct' := fst.dct
    have hn50 := fst.small
    (repeat' (fail_if_success with_reducible first | refine zzW ?_ | refine zzF ?_ | refine zzC ?_ | refine zzL ?_ | refine zzD ?_); first | k_unfold; try dsimp only | walk1 | dsimp only; walk1 | leave1; try dsimp only)
    · rename (S k = true) => hSk
      rename Fr _ _ _ _ => F₇
      rename News _ _ _ _ => N₇
      have hkf : k ∈ fin := by simpa using (fst.seen k).mp hSk
      refine hQ1 _ _ ?_
      refine ⟨_, _, _, _, (kA, listOf #[] kc) :: (tA, listOf #[] tc) :: (sA, so) :: (cA, od') :: tab, rfl, F₇, fun p hp => N₇ p (by
        exact sub_at re10 hp), G', M'.put _, fin, S, n, so, od', kc, tc, fst, ?_, rfl⟩
      intro q hq
      rw [List.take_add_one, hkl] at hq
      rcases List.mem_append.mp hq with hq | hq
      · exact hfin q hq
      · simp at hq; rw [hq]; exact hkf
    · rename (S k = false) => hSk
      rename Fr _ _ _ _ => F₇
      rename News _ _ _ _ => N₇
      have FI : FcI w l kA tA sA cA ((I, oI') :: tab) k (some k) [] fin S n so od' := ⟨fst, apI', trivial, by simp, .inr (.inr rfl)⟩
      have M₇ := M'.put (some (Value.int k kt))
      have hkin : k ∈ l.map (·.k) := List.mem_of_getElem? hkl
      clear hn50 hm1 hm2 hm3 hm4 hm5 hneI
      (try clear hset')
      (try clear hdct')
      refine While_gen (fun c s' => Ex14 fun g' m h tk node nt es fin S cn so od kc tc => All10 (c = muE es cn) (s' = { s with heap := h, toks := tk }) (Gd w mean mg mb (arnd dp un gd outer) base outer g g') (Mp m nA kA tA sA cA) (m (Str.ofString "node") = some (.int node nt)) (Fr g' L h m) (News g' L h (fcL kA tA sA cA kc tc so od es ((I, oI') :: tab))) (FcI w l kA tA sA cA ((I, oI') :: tab) k (some node) es fin S cn so od) (node ∈ l.map (·.k)) ((∀ q ∈ (l.map (·.k)).take i, q ∈ fin))) ?_ _ ⟨g', _, _, _, k, kt, [], fin, S, n, so, od', kc, tc, rfl, rfl, G', M₇, rfl, F₇, N₇, FI, hkin, hfin⟩
      clear F₇ N₇ FI M₇ hSk hfin G' B X T KD T' M'
      rintro c s' hJ9 Q2 hQ2
      (first | ((first | with_reducible refine Exists.elim hJ9 ?_ | with_reducible refine conj_elim hJ9 ?_); (try clear hJ9); rintro (g') tmp; (first | ((first | with_reducible refine Exists.elim tmp ?_ | with_reducible refine conj_elim tmp ?_); (try clear tmp); rintro (m) tmp; (first | ((first | with_reducible refine Exists.elim tmp ?_ | with_reducible refine conj_elim tmp ?_); (try clear tmp); rintro (h) tmp; (first | ((first | with_reducible refine Exists.elim tmp ?_ | with_reducible refine conj_elim tmp ?_); (try clear tmp); rintro (tk) tmp; (first | ((first | with_reducible refine Exists.elim tmp ?_ | with_reducible refine conj_elim tmp ?_); (try clear tmp); rintro (node) tmp; (first | ((first | with_reducible refine Exists.elim tmp ?_ | with_reducible refine conj_elim tmp ?_); (try clear tmp); rintro (nt) tmp; (first | ((first | with_reducible refine Exists.elim tmp ?_ | with_reducible refine conj_elim tmp ?_); (try clear tmp); rintro (es) tmp; (first | ((first | with_reducible refine Exists.elim tmp ?_ | with_reducible refine conj_elim tmp ?_); (try clear tmp); rintro (fin) tmp; (first | ((first | with_reducible refine Exists.elim tmp ?_ | with_reducible refine conj_elim tmp ?_); (try clear tmp); rintro (S) tmp; (first | ((first | with_reducible refine Exists.elim tmp ?_ | with_reducible refine conj_elim tmp ?_); (try clear tmp); rintro (cn) tmp; (first | ((first | with_reducible refine Exists.elim tmp ?_ | with_reducible refine conj_elim tmp ?_); (try clear tmp); rintro (so) tmp; (first | ((first | with_reducible refine Exists.elim tmp ?_ | with_reducible refine conj_elim tmp ?_); (try clear tmp); rintro (od) tmp; (first | ((first | with_reducible refine Exists.elim tmp ?_ | with_reducible refine conj_elim tmp ?_); (try clear tmp); rintro (kc) tmp; (first | ((first | with_reducible refine Exists.elim tmp ?_ | with_reducible refine conj_elim tmp ?_); (try clear tmp); rintro (tc) tmp; (first | ((first | with_reducible refine Exists.elim tmp ?_ | with_reducible refine conj_elim tmp ?_); (try clear tmp); rintro (rfl) tmp; (first | ((first | with_reducible refine Exists.elim tmp ?_ | with_reducible refine conj_elim tmp ?_); (try clear tmp); rintro (rfl) tmp; (first | ((first | with_reducible refine Exists.elim tmp ?_ | with_reducible refine conj_elim tmp ?_); (try clear tmp); rintro (G') tmp; (first | ((first | with_reducible refine Exists.elim tmp ?_ | with_reducible refine conj_elim tmp ?_); (try clear tmp); rintro (M') tmp; (first | ((first | with_reducible refine Exists.elim tmp ?_ | with_reducible refine conj_elim tmp ?_); (try clear tmp); rintro (hmn0) tmp; (first | ((first | with_reducible refine Exists.elim tmp ?_ | with_reducible refine conj_elim tmp ?_); (try clear tmp); rintro (F₈) tmp; (first | ((first | with_reducible refine Exists.elim tmp ?_ | with_reducible refine conj_elim tmp ?_); (try clear tmp); rintro (N₈) tmp; (first | ((first | with_reducible refine Exists.elim tmp ?_ | with_reducible refine conj_elim tmp ?_); (try clear tmp); rintro (FI) tmp; (first | ((first | with_reducible refine Exists.elim tmp ?_ | with_reducible refine conj_elim tmp ?_); (try clear tmp); rintro (hnin) (hfin)) | obtain ⟨hnin, hfin⟩ := tmp)) | obtain ⟨FI, hnin, hfin⟩ := tmp)) | obtain ⟨N₈, FI, hnin, hfin⟩ := tmp)) | obtain ⟨F₈, N₈, FI, hnin, hfin⟩ := tmp)) | obtain ⟨hmn0, F₈, N₈, FI, hnin, hfin⟩ := tmp)) | obtain ⟨M', hmn0, F₈, N₈, FI, hnin, hfin⟩ := tmp)) | obtain ⟨G', M', hmn0, F₈, N₈, FI, hnin, hfin⟩ := tmp)) | obtain ⟨rfl, G', M', hmn0, F₈, N₈, FI, hnin, hfin⟩ := tmp)) | obtain ⟨rfl, rfl, G', M', hmn0, F₈, N₈, FI, hnin, hfin⟩ := tmp)) | obtain ⟨tc, rfl, rfl, G', M', hmn0, F₈, N₈, FI, hnin, hfin⟩ := tmp)) | obtain ⟨kc, tc, rfl, rfl, G', M', hmn0, F₈, N₈, FI, hnin, hfin⟩ := tmp)) | obtain ⟨od, kc, tc, rfl, rfl, G', M', hmn0, F₈, N₈, FI, hnin, hfin⟩ := tmp)) | obtain ⟨so, od, kc, tc, rfl, rfl, G', M', hmn0, F₈, N₈, FI, hnin, hfin⟩ := tmp)) | obtain ⟨cn, so, od, kc, tc, rfl, rfl, G', M', hmn0, F₈, N₈, FI, hnin, hfin⟩ := tmp)) | obtain ⟨S, cn, so, od, kc, tc, rfl, rfl, G', M', hmn0, F₈, N₈, FI, hnin, hfin⟩ := tmp)) | obtain ⟨fin, S, cn, so, od, kc, tc, rfl, rfl, G', M', hmn0, F₈, N₈, FI, hnin, hfin⟩ := tmp)) | obtain ⟨es, fin, S, cn, so, od, kc, tc, rfl, rfl, G', M', hmn0, F₈, N₈, FI, hnin, hfin⟩ := tmp)) | obtain ⟨nt, es, fin, S, cn, so, od, kc, tc, rfl, rfl, G', M', hmn0, F₈, N₈, FI, hnin, hfin⟩ := tmp)) | obtain ⟨node, nt, es, fin, S, cn, so, od, kc, tc, rfl, rfl, G', M', hmn0, F₈, N₈, FI, hnin, hfin⟩ := tmp)) | obtain ⟨tk, node, nt, es, fin, S, cn, so, od, kc, tc, rfl, rfl, G', M', hmn0, F₈, N₈, FI, hnin, hfin⟩ := tmp)) | obtain ⟨h, tk, node, nt, es, fin, S, cn, so, od, kc, tc, rfl, rfl, G', M', hmn0, F₈, N₈, FI, hnin, hfin⟩ := tmp)) | obtain ⟨m, h, tk, node, nt, es, fin, S, cn, so, od, kc, tc, rfl, rfl, G', M', hmn0, F₈, N₈, FI, hnin, hfin⟩ := tmp)) | obtain ⟨g', m, h, tk, node, nt, es, fin, S, cn, so, od, kc, tc, rfl, rfl, G', M', hmn0, F₈, N₈, FI, hnin, hfin⟩ := hJ9)
      (first | ((first | refine Exists.elim (id M') ?_ | refine conj_elim (id M') ?_); rintro (hm1) tmp; (first | ((first | with_reducible refine Exists.elim tmp ?_ | with_reducible refine conj_elim tmp ?_); (try clear tmp); rintro (hm2) tmp; (first | ((first | with_reducible refine Exists.elim tmp ?_ | with_reducible refine conj_elim tmp ?_); (try clear tmp); rintro (hm3) tmp; (first | ((first | with_reducible refine Exists.elim tmp ?_ | with_reducible refine conj_elim tmp ?_); (try clear tmp); rintro (hm4) (hm5)) | obtain ⟨hm4, hm5⟩ := tmp)) | obtain ⟨hm3, hm4, hm5⟩ := tmp)) | obtain ⟨hm2, hm3, hm4, hm5⟩ := tmp)) | obtain ⟨hm1, hm2, hm3, hm4, hm5⟩ := id M')
      (first | ((first | refine Exists.elim (id G') ?_ | refine conj_elim (id G') ?_); rintro (T') tmp; (first | ((first | with_reducible refine Exists.elim tmp ?_ | with_reducible refine conj_elim tmp ?_); (try clear tmp); rintro (B) tmp; (first | ((first | with_reducible refine Exists.elim tmp ?_ | with_reducible refine conj_elim tmp ?_); (try clear tmp); rintro (X) tmp; (first | ((first | with_reducible refine Exists.elim tmp ?_ | with_reducible refine conj_elim tmp ?_); (try clear tmp); rintro (T) (KD)) | obtain ⟨T, KD⟩ := tmp)) | obtain ⟨X, T, KD⟩ := tmp)) | obtain ⟨B, X, T, KD⟩ := tmp)) | obtain ⟨T', B, X, T, KD⟩ := id G')
      (repeat' (fail_if_success with_reducible first | refine zzI ?_); first | k_unfold; try dsimp only | walk1 | dsimp only; walk1 | leave1; try dsimp only)
      (refine Exists.elim ((⟨_, rfl⟩) : ∃ P2 : Shared → Prop, P2 = fun s' => Ex13 fun g' m h tk nt es' fin' S' cn' so' od' kc' tc' => All9 (muE es' cn' ≤ muE es cn) (s' = { s with heap := h, toks := tk }) (Gd w mean mg mb (arnd dp un gd outer) base outer g g') (Mp m nA kA tA sA cA) (m (Str.ofString "node") = some nt) (Fr g' L h m) (News g' L h (fcL kA tA sA cA kc' tc' so' od' es' ((I, oI') :: tab))) (FcI w l kA tA sA cA ((I, oI') :: tab) k none es' fin' S' cn' so' od') ((∀ q ∈ (l.map (·.k)).take i, q ∈ fin'))) ?_; rintro (P2) (hP2))
      refine wpAny_mono (Q := fun f s' => match f with
        | .next => P2 s'
        | .ret v => R (.ok (.ret v)) s'
        | _ => False) ?_ ?_ (fun _ _ x => x)
      · have hset' := FI.st.set
        have hdct' := FI.st.dct
        have hn50 := FI.st.small
        (repeat' (fail_if_success with_reducible first | refine zzW ?_ | refine zzF ?_ | refine zzC ?_ | refine zzL ?_ | refine zzD ?_); first | k_unfold; try dsimp only | walk1 | dsimp only; walk1 | leave1; try dsimp only)
        · rename (S node = true) => hSn
          rename Fr _ _ _ _ => F₉
          rename News _ _ _ _ => N₉
          by_cases hin : node ∈ es.map (·.node)
          · refine kda_in (knd := PySem.intKind P w) N₉ (.tail _ (.tail _ (.tail _ (.head _)))) FI.st.dct loC (intKind_is _ _ _ _) true (by rw [valueAt_kvE]; exact decide_eq_true hin) ?_
            (repeat' (fail_if_success with_reducible first | refine zzW ?_ | refine zzF ?_ | refine zzC ?_ | refine zzL ?_ | refine zzD ?_); first | k_unfold; try dsimp only | walk1 | dsimp only; walk1 | leave1; try dsimp only)
            (first | ((first | refine Exists.elim (valueAt_kvE_some hin) ?_ | refine conj_elim (valueAt_kvE_some hin) ?_); rintro (ix) tmp; (first | ((first | with_reducible refine Exists.elim tmp ?_ | with_reducible refine conj_elim tmp ?_); (try clear tmp); rintro (it) (hix)) | obtain ⟨it, hix⟩ := tmp)) | obtain ⟨ix, it, hix⟩ := valueAt_kvE_some hin)
            refine kda_item (knd := PySem.intKind P w) N₉ (.tail _ (.tail _ (.tail _ (.head _)))) FI.st.dct (intKind_is _ _ _ _) hix ?_
            (repeat' (fail_if_success with_reducible first | refine zzSl ?_); first | k_unfold; try dsimp only | walk1 | dsimp only; walk1 | leave1; try dsimp only)
            refine slice_at F₉ N₉ (.head _) (.int _ _) .none (ys := (slicePick (stkV es).toArray (some ix) none none).toList) (Array.toArray_toList).symm ?_ (hsz := by have := FI.st.small; have := FI.st.cnt; simp only [List.size_toArray, stkV, List.length_map, List.length_reverse]; rw [sizeLine_eq]; omega)
            intro a₂ h₂ F₂ N₂ l₂
            have hys : (slicePick (stkV es).toArray (some ix) none none).toList.length ≤ 100 := by
              have h1 := slicePick_size_le (stkV es).toArray (some ix) none none
              have h2 := FI.st.small
              have h3 := FI.st.cnt
              simp only [List.size_toArray, stkV, List.length_map, List.length_reverse] at h1
              simp only [Array.length_toList, stkV]
              omega
            clear F₉ N₉
            generalize (slicePick (stkV es).toArray (some ix) none none).toList = ys at *
            (repeat' (fail_if_success with_reducible first | refine zzW ?_ | refine zzF ?_ | refine zzC ?_ | refine zzL ?_ | refine zzD ?_); first | k_unfold; try dsimp only | walk1 | dsimp only; walk1 | leave1; try dsimp only)
            rename Fr _ _ _ _ => F₃
            rename News _ _ _ _ => N₃
            refine rring g' _ _ _ (ys ++ [Value.int node nt]) 0 T' (FI.ring hin) (by simp) (by simp only [List.length_append, List.length_cons, List.length_nil]; omega) (fun p hp => allLt_all (by assumption) p (List.mem_append_right _ (.tail _ hp))) (done_of F₃ N₃ ?_)
            intro p hp
            rcases List.mem_cons.mp hp with rfl | hp
            · exact .head _
            · exact .tail _ (.tail _ (.tail _ (.tail _ (.tail _ (.tail _ (.tail _ (List.mem_append_right _ (.tail _ hp))))))))
          · refine kda_in (knd := PySem.intKind P w) N₉ (.tail _ (.tail _ (.tail _ (.head _)))) FI.st.dct loC (intKind_is _ _ _ _) false (by rw [valueAt_kvE]; exact decide_eq_false hin) ?_
            (repeat' (fail_if_success with_reducible first | refine zzW ?_ | refine zzF ?_ | refine zzC ?_ | refine zzL ?_ | refine zzD ?_); first | k_unfold; try dsimp only | walk1 | dsimp only; walk1 | leave1; try dsimp only)
            rw [hP2]
            exact ⟨g', m, _, _, _, es, fin, S, cn, so, od, kc, tc, Nat.le_refl _, rfl, G', M', hmn0, F₉, N₉, FI.goSeen hSn hin, hfin⟩
        · rename (S node = false) => hSn
          rename Fr _ _ _ _ => F₉
          rename News _ _ _ _ => N₉
          refine kse_add (knd := PySem.intKind P w) F₉ N₉ (updN2 (fcL_nodup FI.ap)) FI.st.set (by have : scanBound = 4096 := rfl; omega) (intKind_is _ _ _ _) rfl ?_
          intro h₁₀ so' F₁₀ N₁₀ hso'
          clear F₉ N₉
          (repeat' (fail_if_success with_reducible first | refine zzW ?_ | refine zzF ?_ | refine zzC ?_ | refine zzL ?_ | refine zzD ?_); first | k_unfold; try dsimp only | walk1 | dsimp only; walk1 | leave1; try dsimp only)
          (first | ((first | refine Exists.elim (nd_find hnin) ?_ | refine conj_elim (nd_find hnin) ?_); rintro (x) tmp; (first | ((first | with_reducible refine Exists.elim tmp ?_ | with_reducible refine conj_elim tmp ?_); (try clear tmp); rintro (hx) tmp; (first | ((first | with_reducible refine Exists.elim tmp ?_ | with_reducible refine conj_elim tmp ?_); (try clear tmp); rintro (hxk) (hxv)) | obtain ⟨hxk, hxv⟩ := tmp)) | obtain ⟨hx, hxk, hxv⟩ := tmp)) | obtain ⟨x, hx, hxk, hxv⟩ := nd_find hnin)
          refine kda_item (knd := PySem.intKind P w) N₁₀ (.tail _ (.tail _ (.tail _ (.tail _ (List.mem_append_right _ hmn'))))) hon (intKind_is _ _ _ _) hxv ?_
          (repeat' (fail_if_success with_reducible first | refine zzW ?_ | refine zzF ?_ | refine zzC ?_ | refine zzL ?_ | refine zzD ?_); first | k_unfold; try dsimp only | walk1 | dsimp only; walk1 | leave1; try dsimp only)
          refine nd_get_succ F₁₀ X N₁₀ (fun p hp => .tail _ (.tail _ (.tail _ (.tail _ (List.mem_append_right _ (hmx' x hx p hp)))))) ?_
          (repeat' (fail_if_success with_reducible first | refine zzW ?_ | refine zzF ?_ | refine zzC ?_ | refine zzL ?_ | refine zzD ?_); first | k_unfold; try dsimp only | walk1 | dsimp only; walk1 | leave1; try dsimp only)
          refine iter_list F₁₀ N₁₀ (.tail _ (.tail _ (.tail _ (.tail _ (List.mem_append_right _ (hmx' x hx _ (.head _))))))) ?_
          intro J h₁₁ F₁₁ N₁₁ lJ
          clear F₁₀ N₁₀
          (repeat' (fail_if_success with_reducible first | refine zzW ?_ | refine zzF ?_ | refine zzC ?_ | refine zzL ?_ | refine zzD ?_); first | k_unfold; try dsimp only | walk1 | dsimp only; walk1 | leave1; try dsimp only)
          refine mw_new F₁₁ N₁₁ (.head _) ?_
          intro u h₁₂ F₁₂ N₁₂ lu
          clear F₁₁ N₁₁
          have hJn : ∀ y ∈ (entLed es).map (·.1) ++ (kA :: tA :: sA :: cA :: ((I, oI') :: tab : List (Addr × Obj)).map (·.1)), @LT.lt Nat _ y J := by
            intro y hy
            rcases List.mem_append.mp hy with hy | hy
            · (first | ((first | refine Exists.elim (List.mem_map.mp hy) ?_ | refine conj_elim (List.mem_map.mp hy) ?_); rintro (p) tmp; (first | ((first | with_reducible refine Exists.elim tmp ?_ | with_reducible refine conj_elim tmp ?_); (try clear tmp); rintro (hp) (rfl)) | obtain ⟨hp, rfl⟩ := tmp)) | obtain ⟨p, hp, rfl⟩ := List.mem_map.mp hy)
              exact lJ _ (.tail _ (.tail _ (.tail _ (.tail _ (List.mem_append_left _ hp)))))
            · simp only [List.mem_cons] at hy
              rcases hy with rfl | rfl | rfl | rfl | hy
              · exact lJ _ (.head _)
              · exact lJ _ (.tail _ (.head _))
              · exact lJ _ (.tail _ (.tail _ (.head _)))
              · exact lJ _ (.tail _ (.tail _ (.tail _ (.head _))))
              · (first | ((first | refine Exists.elim (List.mem_map.mp hy) ?_ | refine conj_elim (List.mem_map.mp hy) ?_); rintro (p) tmp; (first | ((first | with_reducible refine Exists.elim tmp ?_ | with_reducible refine conj_elim tmp ?_); (try clear tmp); rintro (hp) (rfl)) | obtain ⟨hp, rfl⟩ := tmp)) | obtain ⟨p, hp, rfl⟩ := List.mem_map.mp hy)
                exact lJ _ (.tail _ (.tail _ (.tail _ (.tail _ (List.mem_append_right _ hp)))))
          have hJu : @LT.lt Nat _ J u := lu _ (.head _)
          have hJm : J ∉ (entLed es).map (·.1) ++ (kA :: tA :: sA :: cA :: ((I, oI') :: tab : List (Addr × Obj)).map (·.1)) := fun hm => Nat.lt_irrefl _ (hJn _ hm)
          have hum : u ∉ (entLed es).map (·.1) ++ (kA :: tA :: sA :: cA :: ((I, oI') :: tab : List (Addr × Obj)).map (·.1)) := fun hm => Nat.lt_irrefl _ (Nat.lt_trans (hJn _ hm) hJu)
          have apP : (((J, itObj x.sa 0) :: (u, mwObj J) :: entLed es : List (Addr × Obj)).map (·.1) ++ (kA :: tA :: sA :: cA :: ((I, oI') :: tab : List (Addr × Obj)).map (·.1))).Nodup := by
            rw [List.map_cons, List.map_cons, List.cons_append, List.cons_append]
            refine List.nodup_cons.mpr ⟨fun hm => ?_, List.nodup_cons.mpr ⟨hum, FI.ap⟩⟩
            rcases List.mem_cons.mp hm with hm | hm
            · exact Nat.ne_of_lt hJu hm
            · exact hJm hm
          have N₁₃ : News g' L h₁₂ ((kA, listOf (stkV es).toArray kc) :: (tA, listOf (itV es).toArray tc) :: (sA, so') :: (cA, od) :: (((J, itObj x.sa 0) :: (u, mwObj J) :: entLed es) ++ (I, oI') :: tab)) := fun p hp => N₁₂ p (by
            exact sub_at re11 hp)
          clear N₁₂ lJ lu hJn
          (repeat' (fail_if_success with_reducible first | refine zzW ?_ | refine zzF ?_ | refine zzC ?_ | refine zzL ?_ | refine zzD ?_); first | k_unfold; try dsimp only | walk1 | dsimp only; walk1 | leave1; try dsimp only)
          have hl5 : es.length ≤ 50 := by have := FI.st.small; have := FI.st.cnt; omega
          refine append_K F₁₂ N₁₃ (upd_of_updF (updN1 (fcN apP))) ?_ (by rw [sizeLine_eq]; simp only [List.size_toArray, itV, List.length_map, List.length_reverse]; omega)
          intro h₁₄ F₁₄ N₁₄
          clear F₁₂ N₁₃
          dsimp only at N₁₄
          (repeat' (fail_if_success with_reducible first | refine zzW ?_ | refine zzF ?_ | refine zzC ?_ | refine zzL ?_ | refine zzD ?_); first | k_unfold; try dsimp only | walk1 | dsimp only; walk1 | leave1; try dsimp only)
          refine len_list (items := (stkV es).toArray) ⟨_, (N₁₄ _ (.head _)).1, rfl, _, rfl⟩ (by simp only [List.size_toArray, stkV, List.length_map, List.length_reverse]; omega) ?_
          (repeat' (fail_if_success with_reducible first | refine zzW ?_ | refine zzF ?_ | refine zzC ?_ | refine zzL ?_ | refine zzD ?_); first | k_unfold; try dsimp only | walk1 | dsimp only; walk1 | leave1; try dsimp only)
          have hnn : node ∉ es.map (·.node) := fun hm => by
            have := (FI.st.seen node).mpr (.inl hm)
            rw [hSn] at this
            cases this
          refine kda_set (knd := PySem.intKind P w) F₁₄ N₁₄ (updN3 (fcN apP)) FI.st.dct (intKind_is _ _ _ _) (by rw [sizeLine_eq]; simp only [kvE, List.length_map, List.length_reverse]; omega) ?_
          intro h₁₅ od' F₁₅ N₁₅ hod'
          clear F₁₄ N₁₄
          dsimp only at N₁₅
          rw [stored_kvE hnn] at hod'
          (repeat' (fail_if_success with_reducible first | refine zzW ?_ | refine zzF ?_ | refine zzC ?_ | refine zzL ?_ | refine zzD ?_); first | k_unfold; try dsimp only | walk1 | dsimp only; walk1 | leave1; try dsimp only)
          rename Fr _ _ _ _ => F₁₆
          rename News _ _ _ _ => N₁₆
          refine append_K F₁₆ N₁₆ (upd_of_updF (updN0 (fcN apP))) ?_ (by rw [sizeLine_eq]; simp only [List.size_toArray, stkV, List.length_map, List.length_reverse]; omega)
          intro h₁₇ F₁₇ N₁₇
          clear F₁₆ N₁₆
          dsimp only at N₁₇
          (repeat' (fail_if_success with_reducible first | refine zzW ?_ | refine zzF ?_ | refine zzC ?_ | refine zzL ?_ | refine zzD ?_); first | k_unfold; try dsimp only | walk1 | dsimp only; walk1 | leave1; try dsimp only)
          rename Fr _ _ _ _ => F₁₈
          rename News _ _ _ _ => N₁₈
          rw [hSn] at hso'
          have FP := FI.push (e := ⟨node, nt, J, u, x.sa, 0, _, _⟩) hSn hx hxk rfl rfl rfl hJm hum (Nat.ne_of_lt hJu) hso' (by rw [kvE_cons]; exact hod')
          rw [hP2]
          refine ⟨g', m, _, _, _, _, fin, _, cn + 1, so', od', kc + 1, tc + 1, muE_push rfl (by have := FI.st.small; omega), rfl, G', M', hmn0, F₁₈, ?_, FP, hfin⟩
          rw [List.push_toArray, List.push_toArray] at N₁₈
          intro p hp
          refine N₁₈ p ?_
          simp only [fcL, stkV_cons, itV_cons, entLed_cons] at hp
          exact hp
      · intro f s' hq
        cases f with
        | ret v => exact hQ2 _ _ (hQ1 _ _ hq)
        | brk => exact hq.elim
        | cont => exact hq.elim
        | next =>
          have hq : P2 s' := hq
          rw [hP2] at hq
          clear hP2 hnin FI hfin F₈ N₈ G' M' B X T KD T' hm1 hm2 hm3 hm4 hm5 hmn0
          (first | ((first | with_reducible refine Exists.elim hq ?_ | with_reducible refine conj_elim hq ?_); (try clear hq); rintro (g') tmp; (first | ((first | with_reducible refine Exists.elim tmp ?_ | with_reducible refine conj_elim tmp ?_); (try clear tmp); rintro (m) tmp; (first | ((first | with_reducible refine Exists.elim tmp ?_ | with_reducible refine conj_elim tmp ?_); (try clear tmp); rintro (h) tmp; (first | ((first | with_reducible refine Exists.elim tmp ?_ | with_reducible refine conj_elim tmp ?_); (try clear tmp); rintro (tk) tmp; (first | ((first | with_reducible refine Exists.elim tmp ?_ | with_reducible refine conj_elim tmp ?_); (try clear tmp); rintro (nt') tmp; (first | ((first | with_reducible refine Exists.elim tmp ?_ | with_reducible refine conj_elim tmp ?_); (try clear tmp); rintro (es') tmp; (first | ((first | with_reducible refine Exists.elim tmp ?_ | with_reducible refine conj_elim tmp ?_); (try clear tmp); rintro (fin') tmp; (first | ((first | with_reducible refine Exists.elim tmp ?_ | with_reducible refine conj_elim tmp ?_); (try clear tmp); rintro (S') tmp; (first | ((first | with_reducible refine Exists.elim tmp ?_ | with_reducible refine conj_elim tmp ?_); (try clear tmp); rintro (cn') tmp; (first | ((first | with_reducible refine Exists.elim tmp ?_ | with_reducible refine conj_elim tmp ?_); (try clear tmp); rintro (so') tmp; (first | ((first | with_reducible refine Exists.elim tmp ?_ | with_reducible refine conj_elim tmp ?_); (try clear tmp); rintro (od') tmp; (first | ((first | with_reducible refine Exists.elim tmp ?_ | with_reducible refine conj_elim tmp ?_); (try clear tmp); rintro (kc') tmp; (first | ((first | with_reducible refine Exists.elim tmp ?_ | with_reducible refine conj_elim tmp ?_); (try clear tmp); rintro (tc') tmp; (first | ((first | with_reducible refine Exists.elim tmp ?_ | with_reducible refine conj_elim tmp ?_); (try clear tmp); rintro (hmu) tmp; (first | ((first | with_reducible refine Exists.elim tmp ?_ | with_reducible refine conj_elim tmp ?_); (try clear tmp); rintro (rfl) tmp; (first | ((first | with_reducible refine Exists.elim tmp ?_ | with_reducible refine conj_elim tmp ?_); (try clear tmp); rintro (G') tmp; (first | ((first | with_reducible refine Exists.elim tmp ?_ | with_reducible refine conj_elim tmp ?_); (try clear tmp); rintro (M') tmp; (first | ((first | with_reducible refine Exists.elim tmp ?_ | with_reducible refine conj_elim tmp ?_); (try clear tmp); rintro (hmn0) tmp; (first | ((first | with_reducible refine Exists.elim tmp ?_ | with_reducible refine conj_elim tmp ?_); (try clear tmp); rintro (F₈) tmp; (first | ((first | with_reducible refine Exists.elim tmp ?_ | with_reducible refine conj_elim tmp ?_); (try clear tmp); rintro (N₈) tmp; (first | ((first | with_reducible refine Exists.elim tmp ?_ | with_reducible refine conj_elim tmp ?_); (try clear tmp); rintro (FI') (hfin')) | obtain ⟨FI', hfin'⟩ := tmp)) | obtain ⟨N₈, FI', hfin'⟩ := tmp)) | obtain ⟨F₈, N₈, FI', hfin'⟩ := tmp)) | obtain ⟨hmn0, F₈, N₈, FI', hfin'⟩ := tmp)) | obtain ⟨M', hmn0, F₈, N₈, FI', hfin'⟩ := tmp)) | obtain ⟨G', M', hmn0, F₈, N₈, FI', hfin'⟩ := tmp)) | obtain ⟨rfl, G', M', hmn0, F₈, N₈, FI', hfin'⟩ := tmp)) | obtain ⟨hmu, rfl, G', M', hmn0, F₈, N₈, FI', hfin'⟩ := tmp)) | obtain ⟨tc', hmu, rfl, G', M', hmn0, F₈, N₈, FI', hfin'⟩ := tmp)) | obtain ⟨kc', tc', hmu, rfl, G', M', hmn0, F₈, N₈, FI', hfin'⟩ := tmp)) | obtain ⟨od', kc', tc', hmu, rfl, G', M', hmn0, F₈, N₈, FI', hfin'⟩ := tmp)) | obtain ⟨so', od', kc', tc', hmu, rfl, G', M', hmn0, F₈, N₈, FI', hfin'⟩ := tmp)) | obtain ⟨cn', so', od', kc', tc', hmu, rfl, G', M', hmn0, F₈, N₈, FI', hfin'⟩ := tmp)) | obtain ⟨S', cn', so', od', kc', tc', hmu, rfl, G', M', hmn0, F₈, N₈, FI', hfin'⟩ := tmp)) | obtain ⟨fin', S', cn', so', od', kc', tc', hmu, rfl, G', M', hmn0, F₈, N₈, FI', hfin'⟩ := tmp)) | obtain ⟨es', fin', S', cn', so', od', kc', tc', hmu, rfl, G', M', hmn0, F₈, N₈, FI', hfin'⟩ := tmp)) | obtain ⟨nt', es', fin', S', cn', so', od', kc', tc', hmu, rfl, G', M', hmn0, F₈, N₈, FI', hfin'⟩ := tmp)) | obtain ⟨tk, nt', es', fin', S', cn', so', od', kc', tc', hmu, rfl, G', M', hmn0, F₈, N₈, FI', hfin'⟩ := tmp)) | obtain ⟨h, tk, nt', es', fin', S', cn', so', od', kc', tc', hmu, rfl, G', M', hmn0, F₈, N₈, FI', hfin'⟩ := tmp)) | obtain ⟨m, h, tk, nt', es', fin', S', cn', so', od', kc', tc', hmu, rfl, G', M', hmn0, F₈, N₈, FI', hfin'⟩ := tmp)) | obtain ⟨g', m, h, tk, nt', es', fin', S', cn', so', od', kc', tc', hmu, rfl, G', M', hmn0, F₈, N₈, FI', hfin'⟩ := hq)
          (first | ((first | refine Exists.elim (id M') ?_ | refine conj_elim (id M') ?_); rintro (hm1) tmp; (first | ((first | with_reducible refine Exists.elim tmp ?_ | with_reducible refine conj_elim tmp ?_); (try clear tmp); rintro (hm2) tmp; (first | ((first | with_reducible refine Exists.elim tmp ?_ | with_reducible refine conj_elim tmp ?_); (try clear tmp); rintro (hm3) tmp; (first | ((first | with_reducible refine Exists.elim tmp ?_ | with_reducible refine conj_elim tmp ?_); (try clear tmp); rintro (hm4) (hm5)) | obtain ⟨hm4, hm5⟩ := tmp)) | obtain ⟨hm3, hm4, hm5⟩ := tmp)) | obtain ⟨hm2, hm3, hm4, hm5⟩ := tmp)) | obtain ⟨hm1, hm2, hm3, hm4, hm5⟩ := id M')
          (first | ((first | refine Exists.elim (id G') ?_ | refine conj_elim (id G') ?_); rintro (T') tmp; (first | ((first | with_reducible refine Exists.elim tmp ?_ | with_reducible refine conj_elim tmp ?_); (try clear tmp); rintro (B) tmp; (first | ((first | with_reducible refine Exists.elim tmp ?_ | with_reducible refine conj_elim tmp ?_); (try clear tmp); rintro (X) tmp; (first | ((first | with_reducible refine Exists.elim tmp ?_ | with_reducible refine conj_elim tmp ?_); (try clear tmp); rintro (T) (KD)) | obtain ⟨T, KD⟩ := tmp)) | obtain ⟨X, T, KD⟩ := tmp)) | obtain ⟨B, X, T, KD⟩ := tmp)) | obtain ⟨T', B, X, T, KD⟩ := id G')
          dsimp only
          (repeat' (fail_if_success with_reducible first | refine zzW ?_ | refine zzF ?_ | refine zzC ?_ | refine zzL ?_ | refine zzD ?_); first | k_unfold; try dsimp only | walk1 | dsimp only; walk1 | leave1; try dsimp only)
          clear T' B X T KD hm1 hm2 hm3 hm4 hm5
          refine While_gen (fun c s' => Ex13 fun g' m h tk nt es' fin' S' cn' so' od' kc' tc' => All10 (c = muE es' cn') (muE es' cn' ≤ muE es cn) (s' = { s with heap := h, toks := tk }) (Gd w mean mg mb (arnd dp un gd outer) base outer g g') (Mp m nA kA tA sA cA) (m (Str.ofString "node") = some nt) (Fr g' L h m) (News g' L h (fcL kA tA sA cA kc' tc' so' od' es' ((I, oI') :: tab))) (FcI w l kA tA sA cA ((I, oI') :: tab) k none es' fin' S' cn' so' od') ((∀ q ∈ (l.map (·.k)).take i, q ∈ fin'))) ?_ _ ⟨g', m, h, tk, nt', es', fin', S', cn', so', od', kc', tc', rfl, hmu, rfl, G', M', hmn0, F₈, N₈, FI', hfin'⟩
          clear F₈ N₈ FI' hmu hfin' G' M' hmn0
          rintro c s' hJ9 Q3 hQ3
          (first | ((first | with_reducible refine Exists.elim hJ9 ?_ | with_reducible refine conj_elim hJ9 ?_); (try clear hJ9); rintro (g') tmp; (first | ((first | with_reducible refine Exists.elim tmp ?_ | with_reducible refine conj_elim tmp ?_); (try clear tmp); rintro (m) tmp; (first | ((first | with_reducible refine Exists.elim tmp ?_ | with_reducible refine conj_elim tmp ?_); (try clear tmp); rintro (h) tmp; (first | ((first | with_reducible refine Exists.elim tmp ?_ | with_reducible refine conj_elim tmp ?_); (try clear tmp); rintro (tk) tmp; (first | ((first | with_reducible refine Exists.elim tmp ?_ | with_reducible refine conj_elim tmp ?_); (try clear tmp); rintro (nt') tmp; (first | ((first | with_reducible refine Exists.elim tmp ?_ | with_reducible refine conj_elim tmp ?_); (try clear tmp); rintro (es') tmp; (first | ((first | with_reducible refine Exists.elim tmp ?_ | with_reducible refine conj_elim tmp ?_); (try clear tmp); rintro (fin') tmp; (first | ((first | with_reducible refine Exists.elim tmp ?_ | with_reducible refine conj_elim tmp ?_); (try clear tmp); rintro (S') tmp; (first | ((first | with_reducible refine Exists.elim tmp ?_ | with_reducible refine conj_elim tmp ?_); (try clear tmp); rintro (cn') tmp; (first | ((first | with_reducible refine Exists.elim tmp ?_ | with_reducible refine conj_elim tmp ?_); (try clear tmp); rintro (so') tmp; (first | ((first | with_reducible refine Exists.elim tmp ?_ | with_reducible refine conj_elim tmp ?_); (try clear tmp); rintro (od') tmp; (first | ((first | with_reducible refine Exists.elim tmp ?_ | with_reducible refine conj_elim tmp ?_); (try clear tmp); rintro (kc') tmp; (first | ((first | with_reducible refine Exists.elim tmp ?_ | with_reducible refine conj_elim tmp ?_); (try clear tmp); rintro (tc') tmp; (first | ((first | with_reducible refine Exists.elim tmp ?_ | with_reducible refine conj_elim tmp ?_); (try clear tmp); rintro (rfl) tmp; (first | ((first | with_reducible refine Exists.elim tmp ?_ | with_reducible refine conj_elim tmp ?_); (try clear tmp); rintro (hmu) tmp; (first | ((first | with_reducible refine Exists.elim tmp ?_ | with_reducible refine conj_elim tmp ?_); (try clear tmp); rintro (rfl) tmp; (first | ((first | with_reducible refine Exists.elim tmp ?_ | with_reducible refine conj_elim tmp ?_); (try clear tmp); rintro (G') tmp; (first | ((first | with_reducible refine Exists.elim tmp ?_ | with_reducible refine conj_elim tmp ?_); (try clear tmp); rintro (M') tmp; (first | ((first | with_reducible refine Exists.elim tmp ?_ | with_reducible refine conj_elim tmp ?_); (try clear tmp); rintro (hmn0) tmp; (first | ((first | with_reducible refine Exists.elim tmp ?_ | with_reducible refine conj_elim tmp ?_); (try clear tmp); rintro (F₈) tmp; (first | ((first | with_reducible refine Exists.elim tmp ?_ | with_reducible refine conj_elim tmp ?_); (try clear tmp); rintro (N₈) tmp; (first | ((first | with_reducible refine Exists.elim tmp ?_ | with_reducible refine conj_elim tmp ?_); (try clear tmp); rintro (FI') (hfin')) | obtain ⟨FI', hfin'⟩ := tmp)) | obtain ⟨N₈, FI', hfin'⟩ := tmp)) | obtain ⟨F₈, N₈, FI', hfin'⟩ := tmp)) | obtain ⟨hmn0, F₈, N₈, FI', hfin'⟩ := tmp)) | obtain ⟨M', hmn0, F₈, N₈, FI', hfin'⟩ := tmp)) | obtain ⟨G', M', hmn0, F₈, N₈, FI', hfin'⟩ := tmp)) | obtain ⟨rfl, G', M', hmn0, F₈, N₈, FI', hfin'⟩ := tmp)) | obtain ⟨hmu, rfl, G', M', hmn0, F₈, N₈, FI', hfin'⟩ := tmp)) | obtain ⟨rfl, hmu, rfl, G', M', hmn0, F₈, N₈, FI', hfin'⟩ := tmp)) | obtain ⟨tc', rfl, hmu, rfl, G', M', hmn0, F₈, N₈, FI', hfin'⟩ := tmp)) | obtain ⟨kc', tc', rfl, hmu, rfl, G', M', hmn0, F₈, N₈, FI', hfin'⟩ := tmp)) | obtain ⟨od', kc', tc', rfl, hmu, rfl, G', M', hmn0, F₈, N₈, FI', hfin'⟩ := tmp)) | obtain ⟨so', od', kc', tc', rfl, hmu, rfl, G', M', hmn0, F₈, N₈, FI', hfin'⟩ := tmp)) | obtain ⟨cn', so', od', kc', tc', rfl, hmu, rfl, G', M', hmn0, F₈, N₈, FI', hfin'⟩ := tmp)) | obtain ⟨S', cn', so', od', kc', tc', rfl, hmu, rfl, G', M', hmn0, F₈, N₈, FI', hfin'⟩ := tmp)) | obtain ⟨fin', S', cn', so', od', kc', tc', rfl, hmu, rfl, G', M', hmn0, F₈, N₈, FI', hfin'⟩ := tmp)) | obtain ⟨es', fin', S', cn', so', od', kc', tc', rfl, hmu, rfl, G', M', hmn0, F₈, N₈, FI', hfin'⟩ := tmp)) | obtain ⟨nt', es', fin', S', cn', so', od', kc', tc', rfl, hmu, rfl, G', M', hmn0, F₈, N₈, FI', hfin'⟩ := tmp)) | obtain ⟨tk, nt', es', fin', S', cn', so', od', kc', tc', rfl, hmu, rfl, G', M', hmn0, F₈, N₈, FI', hfin'⟩ := tmp)) | obtain ⟨h, tk, nt', es', fin', S', cn', so', od', kc', tc', rfl, hmu, rfl, G', M', hmn0, F₈, N₈, FI', hfin'⟩ := tmp)) | obtain ⟨m, h, tk, nt', es', fin', S', cn', so', od', kc', tc', rfl, hmu, rfl, G', M', hmn0, F₈, N₈, FI', hfin'⟩ := tmp)) | obtain ⟨g', m, h, tk, nt', es', fin', S', cn', so', od', kc', tc', rfl, hmu, rfl, G', M', hmn0, F₈, N₈, FI', hfin'⟩ := hJ9)
          (first | ((first | refine Exists.elim (id M') ?_ | refine conj_elim (id M') ?_); rintro (hm1) tmp; (first | ((first | with_reducible refine Exists.elim tmp ?_ | with_reducible refine conj_elim tmp ?_); (try clear tmp); rintro (hm2) tmp; (first | ((first | with_reducible refine Exists.elim tmp ?_ | with_reducible refine conj_elim tmp ?_); (try clear tmp); rintro (hm3) tmp; (first | ((first | with_reducible refine Exists.elim tmp ?_ | with_reducible refine conj_elim tmp ?_); (try clear tmp); rintro (hm4) (hm5)) | obtain ⟨hm4, hm5⟩ := tmp)) | obtain ⟨hm3, hm4, hm5⟩ := tmp)) | obtain ⟨hm2, hm3, hm4, hm5⟩ := tmp)) | obtain ⟨hm1, hm2, hm3, hm4, hm5⟩ := id M')
          (first | ((first | refine Exists.elim (id G') ?_ | refine conj_elim (id G') ?_); rintro (T') tmp; (first | ((first | with_reducible refine Exists.elim tmp ?_ | with_reducible refine conj_elim tmp ?_); (try clear tmp); rintro (B) tmp; (first | ((first | with_reducible refine Exists.elim tmp ?_ | with_reducible refine conj_elim tmp ?_); (try clear tmp); rintro (X) tmp; (first | ((first | with_reducible refine Exists.elim tmp ?_ | with_reducible refine conj_elim tmp ?_); (try clear tmp); rintro (T) (KD)) | obtain ⟨T, KD⟩ := tmp)) | obtain ⟨X, T, KD⟩ := tmp)) | obtain ⟨B, X, T, KD⟩ := tmp)) | obtain ⟨T', B, X, T, KD⟩ := id G')
          (repeat' (fail_if_success with_reducible first | refine zzW ?_ | refine zzF ?_ | refine zzC ?_ | refine zzL ?_ | refine zzD ?_); first | k_unfold; try dsimp only | walk1 | dsimp only; walk1 | leave1; try dsimp only)
          have hl5 : es'.length ≤ 50 := by have := FI'.st.small; have := FI'.st.cnt; omega
          refine wpAny_truthy_list (items := (stkV es').toArray) ⟨_, (N₈ _ (.head _)).1, rfl, _, rfl⟩ (by simp only [List.size_toArray, stkV, List.length_map, List.length_reverse]; omega) ?_
          cases es' with
          | nil =>
            show if (!(stkV []).toArray.isEmpty) = true then _ else _
            rw [if_neg (by simp [stkV])]
            (repeat' (fail_if_success with_reducible first | refine zzW ?_ | refine zzF ?_ | refine zzC ?_ | refine zzL ?_ | refine zzD ?_); first | k_unfold; try dsimp only | walk1 | dsimp only; walk1 | leave1; try dsimp only)
            dsimp only
            (repeat' (fail_if_success with_reducible first | refine zzW ?_ | refine zzF ?_ | refine zzC ?_ | refine zzL ?_ | refine zzD ?_); first | k_unfold; try dsimp only | walk1 | dsimp only; walk1 | leave1; try dsimp only)
            refine hQ2 _ _ ?_
            unfold WStep
            dsimp only
            (repeat' (fail_if_success with_reducible first | refine zzW ?_ | refine zzF ?_ | refine zzC ?_ | refine zzL ?_ | refine zzD ?_); first | k_unfold; try dsimp only | walk1 | dsimp only; walk1 | leave1; try dsimp only)
            have hkf : k ∈ fin' := by
              rcases FI'.root with hr | hr | hr
              · simp at hr
              · exact hr
              · cases hr
            refine hQ1 _ _ ?_
            refine ⟨g', _, _, m, (kA, listOf #[] kc') :: (tA, listOf #[] tc') :: (sA, so') :: (cA, od') :: tab, rfl, F₈, fun p hp => N₈ p ?_, G', M', fin', S', cn', so', od', kc', tc', FI'.st, ?_, rfl⟩
            · show p ∈ (kA, listOf #[] kc') :: (tA, listOf #[] tc') :: (sA, so') :: (cA, od') :: (I, oI') :: tab
              exact sub_at re10 hp
            · intro q hq
              rw [List.take_add_one, hkl] at hq
              rcases List.mem_append.mp hq with hq | hq
              · exact hfin' q hq
              · simp at hq; rw [hq]; exact hkf
          | cons e es' =>
            show if (!(stkV (e :: es')).toArray.isEmpty) = true then _ else _
            rw [if_pos (by simp [stkV])]
            (repeat' (fail_if_success with_reducible first | refine zzSu ?_); first | k_unfold; try dsimp only | walk1 | dsimp only; walk1 | leave1; try dsimp only)
            have N₉ : News g' L h ((kA, listOf (stkV es' ++ [Value.int e.node e.tk]).toArray kc') :: (tA, listOf (itV es' ++ [Value.ref e.mw]).toArray tc') :: (sA, so') :: (cA, od') :: (e.it, itObj e.sa e.pos) :: ((e.mw, mwObj e.it) :: entLed es' ++ (I, oI') :: tab)) := by
              have := N₈
              simp only [fcL, stkV_cons, itV_cons, entLed_cons] at this
              exact this
            have ap9 : (((kA, listOf (stkV es' ++ [Value.int e.node e.tk]).toArray kc') :: (tA, listOf (itV es' ++ [Value.ref e.mw]).toArray tc') :: (sA, so') :: (cA, od') :: (e.it, itObj e.sa e.pos) :: ((e.mw, mwObj e.it) :: entLed es' ++ (I, oI') :: tab) : List (Addr × Obj)).map (·.1)).Nodup := by
              have := fcL_nodup (kc := kc') (tc := tc') (so := so') (od := od') FI'.ap
              simp only [fcL, stkV_cons, itV_cons, entLed_cons] at this
              exact this
            clear N₈
            refine item_last N₉ (.tail _ (.head _)) ?_
            (first | ((first | refine Exists.elim (FI'.st.inK e (.head _)) ?_ | refine conj_elim (FI'.st.inK e (.head _)) ?_); rintro (x) tmp; (first | ((first | with_reducible refine Exists.elim tmp ?_ | with_reducible refine conj_elim tmp ?_); (try clear tmp); rintro (hx) tmp; (first | ((first | with_reducible refine Exists.elim tmp ?_ | with_reducible refine conj_elim tmp ?_); (try clear tmp); rintro (hxk) (hxs)) | obtain ⟨hxk, hxs⟩ := tmp)) | obtain ⟨hx, hxk, hxs⟩ := tmp)) | obtain ⟨x, hx, hxk, hxs⟩ := FI'.st.inK e (.head _))
            have hsx : slOf l e.node = x.sl := by rw [← hxk]; exact slOf_of hkeys hx
            have hivx := hivs x hx
            have hls : h.IsList e.sa x.vs.toArray := by
              rw [← hxs]
              exact ⟨_, (N₉ _ (.tail _ (.tail _ (.tail _ (.tail _ (.tail _ (List.mem_append_right _ (hmx' x hx _ (.head _))))))))).1, rfl, _, rfl⟩
            (repeat' (fail_if_success with_reducible first | refine zzSu ?_); first | k_unfold; try dsimp only | walk1 | dsimp only; walk1 | leave1; try dsimp only)
            have hmw : (e.mw, mwObj e.it) ∈ (kA, listOf (stkV es' ++ [Value.int e.node e.tk]).toArray kc') :: (tA, listOf (itV es' ++ [Value.ref e.mw]).toArray tc') :: (sA, so') :: (cA, od') :: (e.it, itObj e.sa e.pos) :: ((e.mw, mwObj e.it) :: entLed es' ++ (I, oI') :: tab) := .tail _ (.tail _ (.tail _ (.tail _ (.tail _ (.head _)))))
            refine callWith_mw (N₉ _ hmw).1 ?_
            cases hitm : (slOf l e.node)[e.pos]? with
            | some v =>
              have hitm' := hitm
              rw [hsx] at hitm'
              (first | ((first | refine Exists.elim (hivx.get e.pos v hitm') ?_ | refine conj_elim (hivx.get e.pos v hitm') ?_); rintro (vt) (hvt)) | obtain ⟨vt, hvt⟩ := hivx.get e.pos v hitm')
              refine mwcall_item F₈ N₉ hmw (updN4 ap9) hls (by simpa using hvt) ?_
              intro h₁₀ F₁₀ N₁₀
              clear F₈ N₉
              dsimp only at N₁₀
              have FP := FI'.item hitm (by rw [hsx]; exact hsl x hx)
              have hmuI : muE ({ e with pos := e.pos + 1 } :: es') cn' < muE (e :: es') cn' := muE_item.mpr (by have := FI'.pos e (.head _); omega)
              have hvk : v ∈ l.map (·.k) := hsin x hx v (List.mem_of_getElem? hitm')
              have N₁₁ : News g' L h₁₀ (fcL kA tA sA cA kc' tc' so' od' ({ e with pos := e.pos + 1 } :: es') ((I, oI') :: tab)) := by
                simp only [fcL, stkV_cons, itV_cons, entLed_cons]
                exact N₁₀
              clear N₁₀
              (repeat' (fail_if_success with_reducible first | refine zzSu ?_); first | k_unfold; try dsimp only | walk1 | dsimp only; walk1 | leave1; try dsimp only)
              dsimp only
              (repeat' (fail_if_success with_reducible first | refine zzSu ?_); first | k_unfold; try dsimp only | walk1 | dsimp only; walk1 | leave1; try dsimp only)
              refine hQ3 _ _ ?_
              unfold WStep
              dsimp only
              refine wpAny_execs_nil ?_
              (try dsimp only)
              rename Fr _ _ _ _ => F₁₆
              rename News _ _ _ _ => N₁₆
              refine hQ2 _ _ ?_
              exact ⟨muE ({ e with pos := e.pos + 1 } :: es') cn', by omega, g', _, _, _, v, vt, { e with pos := e.pos + 1 } :: es', fin', S', cn', so', od', kc', tc', rfl, rfl, G', M'.put _, rfl, F₁₆, N₁₆, FP, hvk, hfin'⟩
            | none =>
              have hitm' := hitm
              rw [hsx] at hitm'
              have hvt : x.vs.toArray[e.pos]? = none := by
                have h1 := hivx.length
                have h2 : x.sl.length ≤ e.pos := by simpa using hitm'
                simp
                omega
              refine mwcall_end rfl F₈ N₉ hmw (updN4 ap9) hls hvt ?_
              intro h₁₀ h₁₁ ex F₁₀ N₁₀ hnew
              clear F₈ N₉
              dsimp only at N₁₀
              dsimp only
              refine caught_new0 (T' := "StopIteration") B hnew F₁₀ N₁₀ XB TB KD T' (by k_is) (by boot_by_name) (by decide) stop_exc stop_tup stop_sub ?_
              intro h₁₂ g₂ T₂ F₁₂ N₁₂ B₂ X₂ P₂ D₂
              clear B X T KD T' F₁₀ N₁₀ G'
              (repeat' (fail_if_success with_reducible first | refine zzSu ?_); first | k_unfold; try dsimp only | walk1 | dsimp only; walk1 | leave1; try dsimp only)
              dsimp only
              have ap10 : (((kA, listOf (stkV es' ++ [Value.int e.node e.tk]).toArray kc') :: (tA, listOf (itV es' ++ [Value.ref e.mw]).toArray tc') :: (sA, so') :: (cA, od') :: (e.it, itEnd e.pos) :: ((e.mw, mwObj e.it) :: entLed es' ++ (I, oI') :: tab) : List (Addr × Obj)).map (·.1)).Nodup := ap9
              have hl5' : es'.length ≤ 50 := by simp only [List.length_cons] at hl5; omega
              refine kl_pop F₁₂ N₁₂ (p := stkV es') (y := Value.int e.node e.tk) (by rw [List.toList_toArray]; exact kpa_last _ _) (upd_of_updF (updN0 ap10)) (by rw [sizeLine_eq]; simp only [List.toList_toArray, List.length_append, stkV, List.length_map, List.length_reverse, List.length_cons, List.length_nil]; omega) ?_
              intro h₁₃ F₁₃ N₁₃
              clear F₁₂ N₁₂
              dsimp only at N₁₃
              have ap11 : (((kA, listOf (stkV es').toArray (kc' + 1)) :: (tA, listOf (itV es' ++ [Value.ref e.mw]).toArray tc') :: (sA, so') :: (cA, od') :: (e.it, itEnd e.pos) :: ((e.mw, mwObj e.it) :: entLed es' ++ (I, oI') :: tab) : List (Addr × Obj)).map (·.1)).Nodup := ap9
              have hen : e.node ∉ es'.map (·.node) := by
                have := FI'.st.nd
                rw [List.map_cons, List.cons_append] at this
                exact fun hm => (List.nodup_cons.mp this).1 (List.mem_append_left _ hm)
              have hdc := FI'.st.dct
              (repeat' (fail_if_success with_reducible first | refine zzSu ?_); first | k_unfold; try dsimp only | walk1 | dsimp only; walk1 | leave1; try dsimp only)
              refine kob_del (knd := PySem.intKind P w) F₁₃ N₁₃ (updN3 ap11) hdc (intKind_is _ _ _ _) (by rw [valueAt_kvE]; simp) (by rw [sizeLine_eq]; simp only [kvE, List.length_map, List.length_reverse, List.length_cons]; omega) ?_
              intro h₁₄ od₂ F₁₄ N₁₄ hod₂
              clear F₁₃ N₁₃
              dsimp only at N₁₄
              rw [kvE_cons, without_kvE hen] at hod₂
              have ap12 : (((kA, listOf (stkV es').toArray (kc' + 1)) :: (tA, listOf (itV es' ++ [Value.ref e.mw]).toArray tc') :: (sA, so') :: (cA, od₂) :: (e.it, itEnd e.pos) :: ((e.mw, mwObj e.it) :: entLed es' ++ (I, oI') :: tab) : List (Addr × Obj)).map (·.1)).Nodup := ap9
              (repeat' (fail_if_success with_reducible first | refine zzSu ?_); first | k_unfold; try dsimp only | walk1 | dsimp only; walk1 | leave1; try dsimp only)
              dsimp only
              refine kl_pop F₁₄ N₁₄ (p := itV es') (y := Value.ref e.mw) (by rw [List.toList_toArray]; exact kpa_last _ _) (upd_of_updF (updN1 ap12)) (by rw [sizeLine_eq]; simp only [List.toList_toArray, List.length_append, itV, List.length_map, List.length_reverse, List.length_cons, List.length_nil]; omega) ?_
              intro h₁₅ F₁₅ N₁₅
              clear F₁₄ N₁₄
              dsimp only at N₁₅
              (repeat' (fail_if_success with_reducible first | refine zzSu ?_); first | k_unfold; try dsimp only | walk1 | dsimp only; walk1 | leave1; try dsimp only)
              rename Fr _ _ _ _ => F₁₆
              rename News _ _ _ _ => N₁₆
              have FP := FI'.popd hitm hod₂
              have hmuP : muE es' cn' < muE (e :: es') cn' := muE_pop (FI'.pos e (.head _))
              refine hQ3 _ _ ?_
              refine ⟨muE es' cn', hmuP, g₂, m, _, _, nt', es', e.node :: fin', S', cn', so', od₂, kc' + 1, tc' + 1, rfl, by omega, rfl, ⟨T₂, B₂, X₂, P₂, D₂⟩, M', hmn0, F₁₆, ?_, FP, fun q hq => .tail _ (hfin' q hq)⟩
              intro p hp
              refine N₁₆ p ?_
              simp only [fcL, List.mem_cons, List.mem_append] at hp ⊢
              rcases hp with hp | hp | hp | hp | hp | hp | hp <;> simp only [hp, true_or, or_true]
  · rintro g' m nw h tk ⟨G', M', fin, S, n, so, od', kc, tc, fst, hfin, rfl⟩ Fi Ni
    clear F₆ N₆
    (first | ((first | refine Exists.elim (id G') ?_ | refine conj_elim (id G') ?_); rintro (T') tmp; (first | ((first | with_reducible refine Exists.elim tmp ?_ | with_reducible refine conj_elim tmp ?_); (try clear tmp); rintro (B) tmp; (first | ((first | with_reducible refine Exists.elim tmp ?_ | with_reducible refine conj_elim tmp ?_); (try clear tmp); rintro (X) tmp; (first | ((first | with_reducible refine Exists.elim tmp ?_ | with_reducible refine conj_elim tmp ?_); (try clear tmp); rintro (T) (KD)) | obtain ⟨T, KD⟩ := tmp)) | obtain ⟨X, T, KD⟩ := tmp)) | obtain ⟨B, X, T, KD⟩ := tmp)) | obtain ⟨T', B, X, T, KD⟩ := id G')
    have hlenkv : (l.map Nd.kv).length = (l.map (·.k)).length := by simp
    rw [hlenkv, List.take_length] at hfin
    (repeat' (fail_if_success with_reducible first | refine zzW ?_ | refine zzF ?_ | refine zzC ?_ | refine zzL ?_ | refine zzD ?_); first | k_unfold; try dsimp only | walk1 | dsimp only; walk1 | leave1; try dsimp only)
    rename Fr _ _ _ _ => F₇
    rename News _ _ _ _ => N₇
    exact rnone g' _ _ T' ⟨fin, hfin, fst.fino⟩ (done_of F₇ N₇ fun p hp => .tail _ (.tail _ (.tail _ (.tail _ hp))))
-- Pr
/-- an exception's flight, told from the ground before it turned -/
theorem raised_turn {base g g' h : Heap} {l : List Env} {e : Addr} {cls : Value} {news : List (Addr × Obj)} (T : KtsTurn (l.filterMap (·.frame)) g g') (R : RaisedSN base g' l e cls news h) : RaisedSN base g l e cls news h := by
  (first | ((first | with_reducible refine Exists.elim R ?_ | with_reducible refine conj_elim R ?_); (try clear R); rintro (B) tmp; (first | ((first | with_reducible refine Exists.elim tmp ?_ | with_reducible refine conj_elim tmp ?_); (try clear tmp); rintro (a0) tmp; (first | ((first | with_reducible refine Exists.elim tmp ?_ | with_reducible refine conj_elim tmp ?_); (try clear tmp); rintro (hB) tmp; (first | ((first | with_reducible refine Exists.elim tmp ?_ | with_reducible refine conj_elim tmp ?_); (try clear tmp); rintro (hBG) tmp; (first | ((first | with_reducible refine Exists.elim tmp ?_ | with_reducible refine conj_elim tmp ?_); (try clear tmp); rintro (hl) (hfl)) | obtain ⟨hl, hfl⟩ := tmp)) | obtain ⟨hBG, hl, hfl⟩ := tmp)) | obtain ⟨hB, hBG, hl, hfl⟩ := tmp)) | obtain ⟨a0, hB, hBG, hl, hfl⟩ := tmp)) | obtain ⟨B, a0, hB, hBG, hl, hfl⟩ := R)
  refine ⟨B, a0, hB, fun b o q nm => hBG b o (T.other b o q nm) nm, fun q hq => ⟨(hl q hq).1, ?_, (hl q hq).2.2⟩, hfl⟩
  cases z : g.get? q.1 with
  | none => rfl
  | some o =>
    (first | ((first | refine Exists.elim (T.up z) ?_ | refine conj_elim (T.up z) ?_); rintro (sl) (hs)) | obtain ⟨sl, hs⟩ := T.up z)
    rw [(hl q hq).2.1] at hs
    cases hs
theorem slots_turn {g g' h : Heap} {fs : List Addr} (T : KtsTurn fs g g') (U : g'.UpToSlots h) : g.UpToSlots h := by
  intro b o q nf
  (first | ((first | refine Exists.elim (T.up q) ?_ | refine conj_elim (T.up q) ?_); rintro (sl) (hs)) | obtain ⟨sl, hs⟩ := T.up q)
  (first | ((first | refine Exists.elim (U b _ hs nf) ?_ | refine conj_elim (U b _ hs nf) ?_); rintro (sl') (hs')) | obtain ⟨sl', hs'⟩ := U b _ hs nf)
  exact ⟨sl', hs'⟩
theorem raised_sub {base g h : Heap} {l : List Env} {e : Addr} {cls : Value} {news news' : List (Addr × Obj)} (R : RaisedSN base g l e cls news h) (hs : ∀ p ∈ news', p ∈ news) : RaisedSN base g l e cls news' h := by
  (first | ((first | with_reducible refine Exists.elim R ?_ | with_reducible refine conj_elim R ?_); (try clear R); rintro (B) tmp; (first | ((first | with_reducible refine Exists.elim tmp ?_ | with_reducible refine conj_elim tmp ?_); (try clear tmp); rintro (a0) tmp; (first | ((first | with_reducible refine Exists.elim tmp ?_ | with_reducible refine conj_elim tmp ?_); (try clear tmp); rintro (hB) tmp; (first | ((first | with_reducible refine Exists.elim tmp ?_ | with_reducible refine conj_elim tmp ?_); (try clear tmp); rintro (hBG) tmp; (first | ((first | with_reducible refine Exists.elim tmp ?_ | with_reducible refine conj_elim tmp ?_); (try clear tmp); rintro (hl) (hfl)) | obtain ⟨hl, hfl⟩ := tmp)) | obtain ⟨hBG, hl, hfl⟩ := tmp)) | obtain ⟨hB, hBG, hl, hfl⟩ := tmp)) | obtain ⟨a0, hB, hBG, hl, hfl⟩ := tmp)) | obtain ⟨B, a0, hB, hBG, hl, hfl⟩ := R)
  exact ⟨B, a0, hB, hBG, fun q hq => hl q (hs q hq), hfl⟩
theorem off1_mem {D : Addr} : ∀ {l : List (Addr × Obj)}, Off1 D l → ∀ p ∈ l, @Ne Nat p.1 D := by
  intro l
  induction l with
  | nil => intro _ p hp; exact absurd hp (by simp)
  | cons x l ih =>
    intro h p hp
    rcases List.mem_cons.mp hp with e | hp
    · rw [e]; exact h.1
    · exact ih h.2 p hp
noncomputable def readyOf (l : List Nd) : List Int := (l.filter fun x => x.np = 0).map (·.k)
set_option maxHeartbeats 8000000 in
theorem prepare_spec {w : World} {mean : ExcName → Option Value} {mg mb : Str → Option Value} {base g : Heap} {outer : List Env} {s : Shared} {dp un : Nat} {gd : Option (List Code)} {R : Result → Shared → Prop}
    {rest : List (Addr × Obj)} {l : List Nd} {pA dA nA : Addr} {on : Obj} {t1 t2 t3 t4 ta tb : Tok} {a b : Int}
    (S : Sit w mean mg mb base outer g s.heap ((nA, on) :: (pA, instObj 153 dA) :: (dA, planD w t1 t2 t3 t4 nA .none a ta b tb) :: (ndLed l ++ rest)))
    (ok : NdOk w l on (nA :: pA :: dA :: rest.map (·.1))) (lo : (nA == sysModules) = false) (hlen : l.length ≤ 50) (hsl : ∀ x ∈ l, x.sl.length ≤ 1000) (hsin : ∀ x ∈ l, ∀ k ∈ x.sl, k ∈ l.map (·.k))
    (hd : dp + 35 < recursionLimit) (hu : un + 350 < cLine)
    (rok : ∀ g' D ys h' tk', KtsTurn (frs outer) g g' → NoRing (slOf l) (l.map (·.k)) → IntsAre ys (readyOf l) → NdOk w l on (D :: nA :: pA :: dA :: rest.map (·.1)) →
      Done g' h' ((D, lst ys) :: (nA, on) :: (pA, instObj 153 dA) :: (dA, planD w t1 t2 t3 t4 nA (.ref D) a ta b tb) :: (ndLed l ++ rest)) → R (.ok (.ret .none)) { s with heap := h', toks := tk' })
    (rexc : ∀ D ys e h' tk', Ring (slOf l) → IntsAre ys (readyOf l) → NdOk w l on (D :: nA :: pA :: dA :: rest.map (·.1)) →
      RaisedSN base g outer e (.ref 71) ((D, lst ys) :: (nA, on) :: (pA, instObj 153 dA) :: (dA, planD w t1 t2 t3 t4 nA (.ref D) a ta b tb) :: (ndLed l ++ rest)) h' → g.UpToSlots h' → R (.error (.ref e)) { s with heap := h', toks := tk' }) :
    codeAny (model P w) (arnd dp un gd outer) (.call (.ref 108) ⟨[.ref pA], []⟩) R s := by
  refine S.enter (binds := [(Str.ofString "self", .ref pA)]) (by k_is) (by k_is) (by omega) (BindsTo.of_eq rfl) (locs rfl) ?_ rfl rfl rfl (by decide)
  intro L h₁ F N B X T KD XB TB hlt
  have hon := ok.dict
  (repeat' (fail_if_success with_reducible first | refine zzW ?_ | refine zzF ?_ | refine zzC ?_ | refine zzL ?_ | refine zzD ?_); first | k_unfold; try dsimp only | walk1 | dsimp only; walk1 | leave1; try dsimp only)
  rename Fr _ _ _ _ => F₂
  rename News _ _ _ _ => N₂
  refine ListComp_TV (cl := []) (PySem.intKind P w) F₂ rfl (by decide) rfl (by decide) rfl ?_
  (repeat' (fail_if_success with_reducible first | refine zzW ?_ | refine zzF ?_ | refine zzC ?_ | refine zzL ?_ | refine zzD ?_); first | k_unfold; try dsimp only | walk1 | dsimp only; walk1 | leave1; try dsimp only)
  rename Fr _ _ _ _ => F₃
  rename News _ _ _ _ => N₃
  (first | ((first | refine Exists.elim (KdkAt.of hon) ?_ | refine conj_elim (KdkAt.of hon) ?_); rintro (ep) (hat)) | obtain ⟨ep, hat⟩ := KdkAt.of hon)
  refine ⟨_, nA, on, l.map Nd.kv, ep, (nA, on) :: (pA, instObj 153 dA) :: (dA, planD w t1 t2 t3 t4 nA .none a ta b tb) :: (ndLed l ++ rest), rfl, rfl, F₃, fun p hp => N₃ p (.tail _ hp), ⟨_, (N₃ _ (.head _)).1, rfl, rfl⟩, .head _, hat, by rw [sizeLine_eq]; simp; omega, ?_⟩
  rintro s₂ ⟨h₂, rfl⟩
  clear F₂ N₂ F₃ N₃
  refine compT_ind (fun i ys nw => nw = (nA, on) :: (pA, instObj 153 dA) :: (dA, planD w t1 t2 t3 t4 nA .none a ta b tb) :: (ndLed l ++ rest) ∧ IntsAre ys (readyOf (l.take i))) (l.map Nd.kv).length ?_ ?_ _ 0 [] _ (Nat.zero_add _) ⟨rfl, .nil⟩
  · rintro i ys nw hi ⟨rfl, hys⟩ v I oI C oC D m₂ h tk E' ⟨k, hv⟩ hC hm F₄ N₄ o3 ne
    rw [List.getElem?_map] at hv
    (first | ((first | refine Exists.elim (Option.map_eq_some_iff.mp hv) ?_ | refine conj_elim (Option.map_eq_some_iff.mp hv) ?_); rintro (x) tmp; (first | ((first | with_reducible refine Exists.elim tmp ?_ | with_reducible refine conj_elim tmp ?_); (try clear tmp); rintro (hx) (hxv)) | obtain ⟨hx, hxv⟩ := tmp)) | obtain ⟨x, hx, hxv⟩ := Option.map_eq_some_iff.mp hv)
    cases hxv
    have hxl := List.mem_of_getElem? hx
    (repeat' (fail_if_success with_reducible first | refine zzW ?_ | refine zzF ?_ | refine zzC ?_ | refine zzL ?_ | refine zzD ?_); first | k_unfold; try dsimp only | walk1 | dsimp only; walk1 | leave1; try dsimp only)
    refine nd_get_np F₄ X N₄ (fun p hp => .tail _ (.tail _ (.tail _ (nd_mem (hd := [_, _, _]) hxl hp)))) ?_
    (repeat' (fail_if_success with_reducible first | refine zzW ?_ | refine zzF ?_ | refine zzC ?_ | refine zzL ?_ | refine zzD ?_); first | k_unfold; try dsimp only | walk1 | dsimp only; walk1 | leave1; try dsimp only)
    · rename (x.np = 0) => hz
      refine nd_get_node F₄ X N₄ (fun p hp => .tail _ (.tail _ (.tail _ (nd_mem (hd := [_, _, _]) hxl hp)))) ?_
      refine CompEnd.intro F₄ N₄ ((nA, on) :: (pA, instObj 153 dA) :: (dA, planD w t1 t2 t3 t4 nA .none a ta b tb) :: (ndLed l ++ rest)) (fun p hp => hp) o3 (.head _) ⟨rfl, ?_⟩
      have : readyOf (l.take (i + 1)) = readyOf (l.take i) ++ [x.k] := by
        rw [List.take_add_one, hx]
        simp [readyOf, hz]
      rw [this]
      exact ints_snoc hys
    · rename ¬ (x.np = 0) => hz
      refine CompEnd.intro F₄ N₄ ((nA, on) :: (pA, instObj 153 dA) :: (dA, planD w t1 t2 t3 t4 nA .none a ta b tb) :: (ndLed l ++ rest)) (fun p hp => hp) o3 (.head _) ⟨rfl, ?_⟩
      have : readyOf (l.take (i + 1)) = readyOf (l.take i) := by
        rw [List.take_add_one, hx]
        simp [readyOf, hz]
      rw [this]
      exact hys
  · rintro ys nw ⟨rfl, hys⟩ D h tk F₄ N₄ o1
    have hlk : (l.map Nd.kv).length = l.length := by simp
    rw [hlk, List.take_length] at hys
    have okD : NdOk w l on (D :: nA :: pA :: dA :: rest.map (·.1)) := by
      refine NdOk.push (a := []) ok (fun y hy => ?_) (fun p hp => ?_)
      · simp only [List.nil_append, List.mem_cons] at hy
        rcases hy with rfl | rfl | rfl | hy
        · exact off1_mem o1 _ (.head _)
        · exact off1_mem o1 _ (.tail _ (.head _))
        · exact off1_mem o1 _ (.tail _ (.tail _ (.head _)))
        · (first | ((first | refine Exists.elim (List.mem_map.mp hy) ?_ | refine conj_elim (List.mem_map.mp hy) ?_); rintro (p) tmp; (first | ((first | with_reducible refine Exists.elim tmp ?_ | with_reducible refine conj_elim tmp ?_); (try clear tmp); rintro (hp) (rfl)) | obtain ⟨hp, rfl⟩ := tmp)) | obtain ⟨p, hp, rfl⟩ := List.mem_map.mp hy)
          exact off1_mem o1 _ (.tail _ (.tail _ (.tail _ (List.mem_append_right _ hp))))
      · exact off1_mem o1 _ (.tail _ (.tail _ (.tail _ (List.mem_append_left _ hp))))
    (repeat' (fail_if_success with_reducible first | refine zzW ?_ | refine zzF ?_ | refine zzC ?_ | refine zzL ?_ | refine zzD ?_); first | k_unfold; try dsimp only | walk1 | dsimp only; walk1 | leave1; try dsimp only)
    refine plan_set_ready (pa := (D, lst ys)) (pb := (nA, on)) F₄ X N₄ okD ?_
    intro h₅ F₅ N₅
    clear F₄ N₄
    (repeat' (fail_if_success with_reducible first | refine zzW ?_ | refine zzF ?_ | refine zzC ?_ | refine zzL ?_ | refine zzD ?_); first | k_unfold; try dsimp only | walk1 | dsimp only; walk1 | leave1; try dsimp only)
    dsimp only
    refine callWith_K0 (X.keeps F₅.keep) (by k_is) ?_
    have N₆ : News g L h₅ ((nA, on) :: (pA, instObj 153 dA) :: (dA, planD w t1 t2 t3 t4 nA (.ref D) a ta b tb) :: (ndLed l ++ ((D, lst ys) :: rest))) := fun p hp => N₅ p (by
      exact sub_at re0 hp)
    have ok₆ : NdOk w l on (nA :: pA :: dA :: ((D, lst ys) :: rest : List (Addr × Obj)).map (·.1)) := by
      refine ⟨okD.dict, okD.ivs, okD.keys, (List.Perm.nodup_iff ?_).mp okD.apart⟩
      exact List.Perm.append_right _ (List.perm_middle (l₁ := [nA, pA, dA])).symm
    clear N₅
    refine call_use B F₅ N₆ XB TB KD ((nA, on) :: (pA, instObj 153 dA) :: (dA, planD w t1 t2 t3 t4 nA (.ref D) a ta b tb) :: (ndLed l ++ ((D, lst ys) :: rest))) [] (fun p hp => hp) (by k_allIn) (by simp) ?_
    intro gg SS _ backT _
    refine find_spec SS ok₆ lo hlen hsl hsin (by dsimp only [arnd]; omega) (by dsimp only [arnd]; omega) ?_ ?_
    · intro g' h' tk' T₇ hno Dn
      (first | ((first | refine Exists.elim (backT _ _ _ T₇ Dn) ?_ | refine conj_elim (backT _ _ _ T₇ Dn) ?_); rintro (g₂) tmp; (first | ((first | with_reducible refine Exists.elim tmp ?_ | with_reducible refine conj_elim tmp ?_); (try clear tmp); rintro (T₂) tmp; (first | ((first | with_reducible refine Exists.elim tmp ?_ | with_reducible refine conj_elim tmp ?_); (try clear tmp); rintro (F₇) tmp; (first | ((first | with_reducible refine Exists.elim tmp ?_ | with_reducible refine conj_elim tmp ?_); (try clear tmp); rintro (N₇) tmp; (first | ((first | with_reducible refine Exists.elim tmp ?_ | with_reducible refine conj_elim tmp ?_); (try clear tmp); rintro (B₇) tmp; (first | ((first | with_reducible refine Exists.elim tmp ?_ | with_reducible refine conj_elim tmp ?_); (try clear tmp); rintro (X₇) tmp; (first | ((first | with_reducible refine Exists.elim tmp ?_ | with_reducible refine conj_elim tmp ?_); (try clear tmp); rintro (P₇) tmp; (first | ((first | with_reducible refine Exists.elim tmp ?_ | with_reducible refine conj_elim tmp ?_); (try clear tmp); rintro (D₇) (_)) | obtain ⟨D₇, _⟩ := tmp)) | obtain ⟨P₇, D₇, _⟩ := tmp)) | obtain ⟨X₇, P₇, D₇, _⟩ := tmp)) | obtain ⟨B₇, X₇, P₇, D₇, _⟩ := tmp)) | obtain ⟨N₇, B₇, X₇, P₇, D₇, _⟩ := tmp)) | obtain ⟨F₇, N₇, B₇, X₇, P₇, D₇, _⟩ := tmp)) | obtain ⟨T₂, F₇, N₇, B₇, X₇, P₇, D₇, _⟩ := tmp)) | obtain ⟨g₂, T₂, F₇, N₇, B₇, X₇, P₇, D₇, _⟩ := backT _ _ _ T₇ Dn)
      rw [List.append_nil] at N₇
      clear F₅ N₆ B X T KD SS backT
      (repeat' (fail_if_success with_reducible first | refine zzW ?_ | refine zzF ?_ | refine zzC ?_ | refine zzL ?_ | refine zzD ?_); first | k_unfold; try dsimp only | walk1 | dsimp only; walk1 | leave1; try dsimp only)
      rename Fr _ _ _ _ => F₈
      rename News _ _ _ _ => N₈
      refine rok g₂ D ys _ _ T₂ hno hys okD (done_of F₈ N₈ ?_)
      intro p hp
      simp only [List.mem_cons, List.mem_append] at hp ⊢
      rcases hp with hp | hp | hp | hp | hp | hp
      all_goals simp only [hp, true_or, or_true]
    · intro g' h' tk' q vs kq T₇ hri hvs hvl hql Dn
      (first | ((first | refine Exists.elim (backT _ _ _ T₇ Dn) ?_ | refine conj_elim (backT _ _ _ T₇ Dn) ?_); rintro (g₂) tmp; (first | ((first | with_reducible refine Exists.elim tmp ?_ | with_reducible refine conj_elim tmp ?_); (try clear tmp); rintro (T₂) tmp; (first | ((first | with_reducible refine Exists.elim tmp ?_ | with_reducible refine conj_elim tmp ?_); (try clear tmp); rintro (F₇) tmp; (first | ((first | with_reducible refine Exists.elim tmp ?_ | with_reducible refine conj_elim tmp ?_); (try clear tmp); rintro (N₇) tmp; (first | ((first | with_reducible refine Exists.elim tmp ?_ | with_reducible refine conj_elim tmp ?_); (try clear tmp); rintro (B₇) tmp; (first | ((first | with_reducible refine Exists.elim tmp ?_ | with_reducible refine conj_elim tmp ?_); (try clear tmp); rintro (X₇) tmp; (first | ((first | with_reducible refine Exists.elim tmp ?_ | with_reducible refine conj_elim tmp ?_); (try clear tmp); rintro (P₇) tmp; (first | ((first | with_reducible refine Exists.elim tmp ?_ | with_reducible refine conj_elim tmp ?_); (try clear tmp); rintro (D₇) (_)) | obtain ⟨D₇, _⟩ := tmp)) | obtain ⟨P₇, D₇, _⟩ := tmp)) | obtain ⟨X₇, P₇, D₇, _⟩ := tmp)) | obtain ⟨B₇, X₇, P₇, D₇, _⟩ := tmp)) | obtain ⟨N₇, B₇, X₇, P₇, D₇, _⟩ := tmp)) | obtain ⟨F₇, N₇, B₇, X₇, P₇, D₇, _⟩ := tmp)) | obtain ⟨T₂, F₇, N₇, B₇, X₇, P₇, D₇, _⟩ := tmp)) | obtain ⟨g₂, T₂, F₇, N₇, B₇, X₇, P₇, D₇, _⟩ := backT _ _ _ T₇ Dn)
      rw [List.append_nil] at N₇
      clear F₅ N₆ B X T KD SS backT
      (repeat' (fail_if_success with_reducible first | refine zzW ?_ | refine zzF ?_ | refine zzC ?_ | refine zzL ?_ | refine zzD ?_); first | k_unfold; try dsimp only | walk1 | dsimp only; walk1 | leave1; try dsimp only)
      rename RaisedS _ _ _ _ _ _ _ _ _ => RS
      rename Heap.UpToSlots _ _ => US
      refine rexc D ys _ _ _ hri hys okD (raised_sub (raised_turn T₂ RS.toSN) ?_) (slots_turn T₂ US)
      intro p hp
      simp only [List.mem_cons, List.mem_append] at hp ⊢
      rcases hp with hp | hp | hp | hp | hp | hp
      all_goals simp only [hp, true_or, or_true]
-- Hp
section
set_option compiler.extract_closed false
set_option Elab.async false
open PySem PySem.W PyProof.Rows PySem.Spec PySem.Calls
theorem rf_in {rs : List (List Int)} (h : ∀ p ∈ rs, ∀ q ∈ p, -5 ≤ q) : ∀ r, ∀ k ∈ rfR rs r, 0 ≤ k ∧ k < 5 := by
  intro r k hk
  (first | ((first | refine Exists.elim (mem_refsOf.mp hk) ?_ | refine conj_elim (mem_refsOf.mp hk) ?_); rintro (p) tmp; (first | ((first | with_reducible refine Exists.elim tmp ?_ | with_reducible refine conj_elim tmp ?_); (try clear tmp); rintro (hp) tmp; (first | ((first | with_reducible refine Exists.elim tmp ?_ | with_reducible refine conj_elim tmp ?_); (try clear tmp); rintro (hn) (rfl)) | obtain ⟨hn, rfl⟩ := tmp)) | obtain ⟨hp, hn, rfl⟩ := tmp)) | obtain ⟨p, hp, hn, rfl⟩ := mem_refsOf.mp hk)
  have : rs.getD r.toNat [] ∈ rs := by
    unfold List.getD at hp ⊢
    cases q : rs[r.toNat]? with
    | none => rw [q] at hp; simp at hp
    | some x => simpa using List.mem_of_getElem? q
  have := h _ this p hp
  omega
theorem getD_len {rs : List (List Int)} (h : ∀ p ∈ rs, p.length ≤ 3) (i : Nat) : (rs.getD i []).length ≤ 3 := by
  unfold List.getD
  cases q : rs[i]? with
  | none => simp
  | some x => simpa using h x (List.mem_of_getElem? q)
theorem rf_len {rs : List (List Int)} (h : ∀ p ∈ rs, p.length ≤ 3) : ∀ r, (rfR rs r).length ≤ 3 := by
  intro r
  have := getD_len h r.toNat
  unfold rfR refsOf
  rw [List.length_map]
  exact Nat.le_trans (List.length_filter_le _ _) this
theorem plSl_slOf (l : List Nd) (k : Int) : plSl (l.map Nd.pl) k = slOf l k := by
  unfold plSl slOf
  rw [List.find?_map, Option.map_map]
  rfl
theorem PA.bounds {rf : Int → List Int} {n : Nat} {l : List Nd} (h : PA rf n (l.map Nd.pl)) (hk : (l.map (·.k)).Nodup) : l.length ≤ 5 ∧ (∀ x ∈ l, x.sl.length ≤ 3 * n) ∧ ∀ x ∈ l, ∀ k ∈ x.sl, 0 ≤ k ∧ k < n := by
  refine ⟨?_, fun x hx => ?_, fun x hx k hk' => ?_⟩
  · have := small5 h.nd h.sub
    simpa using this
  · rw [← slOf_of hk hx, ← plSl_slOf]; exact h.len _
  · have c := List.count_pos_iff.mpr hk'
    rw [← slOf_of hk hx, ← plSl_slOf, h.sl] at c
    by_cases q : 0 ≤ k ∧ k < n
    · exact q
    · rw [if_neg q] at c; omega
theorem pl_find' {l : List Nd} (hk : (l.map (·.k)).Nodup) {k : Int} : k ∈ readyOf l ↔ k ∈ (l.map Nd.pl).map (·.1) ∧ plNp (l.map Nd.pl) k = 0 := by
  unfold readyOf
  rw [← keys_of_pl]
  constructor
  · intro h
    (first | ((first | refine Exists.elim (List.mem_map.mp h) ?_ | refine conj_elim (List.mem_map.mp h) ?_); rintro (x) tmp; (first | ((first | with_reducible refine Exists.elim tmp ?_ | with_reducible refine conj_elim tmp ?_); (try clear tmp); rintro (hx) (rfl)) | obtain ⟨hx, rfl⟩ := tmp)) | obtain ⟨x, hx, rfl⟩ := List.mem_map.mp h)
    (first | ((first | refine Exists.elim (List.mem_filter.mp hx) ?_ | refine conj_elim (List.mem_filter.mp hx) ?_); rintro (hx) (hz)) | obtain ⟨hx, hz⟩ := List.mem_filter.mp hx)
    exact ⟨List.mem_map_of_mem hx, by rw [plNp_of hk hx]; simpa using hz⟩
  · rintro ⟨h, hz⟩
    (first | ((first | refine Exists.elim (List.mem_map.mp h) ?_ | refine conj_elim (List.mem_map.mp h) ?_); rintro (x) tmp; (first | ((first | with_reducible refine Exists.elim tmp ?_ | with_reducible refine conj_elim tmp ?_); (try clear tmp); rintro (hx) (rfl)) | obtain ⟨hx, rfl⟩ := tmp)) | obtain ⟨x, hx, rfl⟩ := List.mem_map.mp h)
    rw [plNp_of hk hx] at hz
    exact List.mem_map.mpr ⟨x, List.mem_filter.mpr ⟨hx, by simpa using hz⟩, rfl⟩
theorem ki_init {rf : Int → List Int} {l : List Nd} (h : PA rf 5 (l.map Nd.pl)) (hk : (l.map (·.k)).Nodup) : KI rf (l.map Nd.pl) (readyOf l) [] := by
  refine KI.init (n := 5) h ?_ fun r => pl_find' hk
  unfold readyOf
  exact hk.sublist (List.Sublist.map _ List.filter_sublist)
/-- what is told of a rule -/
noncomputable def tof (rs : List (List Int)) (r : Int) : List (Int × Int) := pairsOf (lookP (textsP rs 5) r)
theorem textsP_nonneg {rs : List (List Int)} : ∀ r ∈ keysP (textsP rs 5), ∀ p ∈ lookP (textsP rs 5) r, 0 ≤ p := by
  have h := TI.texts (rs := rs) 5
  have key : ∀ n r a b, a.length < n → keysP (textsP rs 5) = a ++ r :: b → ∀ p ∈ lookP (textsP rs 5) r, 0 ≤ p := by
    intro n
    induction n with
    | zero => intro r a b h; omega
    | succ n ih =>
      intro r a b hl e p hp
      have hr : r ∈ keysP (textsP rs 5) := by rw [e]; simp
      rw [h.val r hr] at hp
      unfold textP at hp
      (first | ((first | refine Exists.elim (List.mem_flatMap.mp hp) ?_ | refine conj_elim (List.mem_flatMap.mp hp) ?_); rintro (q) tmp; (first | ((first | with_reducible refine Exists.elim tmp ?_ | with_reducible refine conj_elim tmp ?_); (try clear tmp); rintro (hq) (hp)) | obtain ⟨hq, hp⟩ := tmp)) | obtain ⟨q, hq, hp⟩ := List.mem_flatMap.mp hp)
      split at hp
      · rename_i h0
        rw [List.mem_singleton.mp hp]; exact h0
      · rename_i h0
        have hk : -1 - q ∈ rfR rs r := mem_refsOf.mpr ⟨q, hq, by omega, rfl⟩
        (first | ((first | refine Exists.elim (List.append_of_mem (h.gen a r b e _ hk)) ?_ | refine conj_elim (List.append_of_mem (h.gen a r b e _ hk)) ?_); rintro (a1) tmp; (first | ((first | with_reducible refine Exists.elim tmp ?_ | with_reducible refine conj_elim tmp ?_); (try clear tmp); rintro (a2) (e1)) | obtain ⟨a2, e1⟩ := tmp)) | obtain ⟨a1, a2, e1⟩ := List.append_of_mem (h.gen a r b e _ hk))
        refine ih (-1 - q) a1 (a2 ++ r :: b) ?_ (by rw [e, e1]; simp) p hp
        rw [e1] at hl; simp at hl; omega
  intro r hr
  (first | ((first | refine Exists.elim (List.append_of_mem hr) ?_ | refine conj_elim (List.append_of_mem hr) ?_); rintro (a) tmp; (first | ((first | with_reducible refine Exists.elim tmp ?_ | with_reducible refine conj_elim tmp ?_); (try clear tmp); rintro (b) (e)) | obtain ⟨b, e⟩ := tmp)) | obtain ⟨a, b, e⟩ := List.append_of_mem hr)
  exact key _ r a b (Nat.lt_succ_self _) e
theorem textsP_len {rs : List (List Int)} (h3 : ∀ p ∈ rs, p.length ≤ 3) (r : Int) : (lookP (textsP rs 5) r).length ≤ 243 := lookP_len (BInv.texts h3 5).le r
theorem WF.mono {N M : Nat} {ps : List (Int × Int)} (w : WF N ps) (h : N ≤ M) : WF M ps := ⟨w.ne, by have := w.len; omega, fun p hp => by have := w.each p hp; exact ⟨this.1, by omega, this.2.2⟩⟩
theorem tof_wf {rs : List (List Int)} (h3 : ∀ p ∈ rs, p.length ≤ 3) {r : Int} (hr : r ∈ keysP (textsP rs 5)) : WF 243 (tof rs r) := (pairsOf_wf (textsP_nonneg r hr)).mono (textsP_len h3 r)
/-- what a part tells -/
noncomputable def partP (rs : List (List Int)) (p : Int) : List (Int × Int) := if p < 0 then tof rs (-1 - p) else octP p
theorem partP_wf {rs : List (List Int)} (h3 : ∀ p ∈ rs, p.length ≤ 3) {r : Int} (hr : r ∈ keysP (textsP rs 5)) : ∀ p ∈ rs.getD r.toNat [], WF 243 (partP rs p) := by
  intro p hp
  unfold partP
  split
  · rename_i h0
    (first | ((first | refine Exists.elim (List.append_of_mem hr) ?_ | refine conj_elim (List.append_of_mem hr) ?_); rintro (a) tmp; (first | ((first | with_reducible refine Exists.elim tmp ?_ | with_reducible refine conj_elim tmp ?_); (try clear tmp); rintro (b) (e)) | obtain ⟨b, e⟩ := tmp)) | obtain ⟨a, b, e⟩ := List.append_of_mem hr)
    have := (TI.texts (rs := rs) 5).gen a r b e _ (mem_refsOf.mpr ⟨p, hp, h0, rfl⟩)
    exact tof_wf h3 (by rw [e]; exact List.mem_append_left _ this)
  · exact (octP_wf (by omega)).mono (by decide)
theorem tof_eq {rs : List (List Int)} {r : Int} (hr : r ∈ keysP (textsP rs 5)) : ((rs.getD r.toNat []).map (partP rs)).foldl joinP [(0, 0)] = tof rs r := by
  have h := TI.texts (rs := rs) 5
  have e1 : ∀ p ∈ rs.getD r.toNat [], partP rs p = pairsOf (if 0 ≤ p then [p] else lookP (textsP rs 5) (-1 - p)) := fun p hp => by
    unfold partP
    by_cases h0 : p < 0
    · rw [if_pos h0, if_neg (by omega)]; rfl
    · rw [if_neg h0, if_pos (by omega)]
      show octP p = joinP [(0, 0)] (octP p)
      exact (joinP_left (octP_wf (by omega)).ne).symm
  rw [List.map_congr_left e1, pairsOf_flat (h := fun p => if 0 ≤ p then [p] else lookP (textsP rs 5) (-1 - p))]
  · unfold tof
    rw [h.val r hr]
    rfl
  · intro p hp q hq
    split at hq
    · rename_i h0; rw [List.mem_singleton.mp hq]; exact h0
    · rename_i h0
      (first | ((first | refine Exists.elim (List.append_of_mem hr) ?_ | refine conj_elim (List.append_of_mem hr) ?_); rintro (a) tmp; (first | ((first | with_reducible refine Exists.elim tmp ?_ | with_reducible refine conj_elim tmp ?_); (try clear tmp); rintro (b) (e)) | obtain ⟨b, e⟩ := tmp)) | obtain ⟨a, b, e⟩ := List.append_of_mem hr)
      have := h.gen a r b e _ (mem_refsOf.mpr ⟨p, hp, by omega, rfl⟩)
      exact textsP_nonneg _ (by rw [e]; exact List.mem_append_left _ this) q hq
/-- the rules told so far -/
noncomputable def ToldIn (rs : List (List Int)) (fz : List (Addr × Obj)) (kvs : List (Int × Value)) : Prop := ∀ k v, (k, v) ∈ kvs → PairsAt fz v (tof rs k)
theorem ToldIn.mono {rs : List (List Int)} {fz fz' : List (Addr × Obj)} {kvs : List (Int × Value)} (h : ToldIn rs fz kvs) (hs : ∀ p ∈ fz, p ∈ fz') : ToldIn rs fz' kvs := fun k v hm => (h k v hm).mono hs
theorem ToldIn.snoc {rs : List (List Int)} {fz : List (Addr × Obj)} {kvs : List (Int × Value)} (h : ToldIn rs fz kvs) {k : Int} {v : Value} (hv : PairsAt fz v (tof rs k)) : ToldIn rs fz (kvs ++ [(k, v)]) := fun k' v' hm => by
  rcases List.mem_append.mp hm with hm | hm
  · exact h k' v' hm
  · have := List.mem_singleton.mp hm
    cases this
    exact hv
theorem valueAt_of {kvs : List (Int × Value)} {k : Int} (h : k ∈ kvs.map (·.1)) : ∃ v, valueAt kvs k = some v ∧ (k, v) ∈ kvs := by
  unfold valueAt
  cases q : kvs.find? (fun x => x.1 = k) with
  | none =>
    (first | ((first | refine Exists.elim (List.mem_map.mp h) ?_ | refine conj_elim (List.mem_map.mp h) ?_); rintro (x) tmp; (first | ((first | with_reducible refine Exists.elim tmp ?_ | with_reducible refine conj_elim tmp ?_); (try clear tmp); rintro (hx) (e)) | obtain ⟨hx, e⟩ := tmp)) | obtain ⟨x, hx, e⟩ := List.mem_map.mp h)
    have := List.find?_eq_none.mp q x hx
    simp [e] at this
  | some x =>
    have h1 := List.mem_of_find?_eq_some q
    have h2 : x.1 = k := by simpa using List.find?_some q
    exact ⟨x.2, rfl, by rw [← h2]; exact h1⟩
theorem valueAt_none {kvs : List (Int × Value)} {k : Int} (h : k ∉ kvs.map (·.1)) : valueAt kvs k = none := by
  unfold valueAt
  cases q : kvs.find? (fun x => x.1 = k) with
  | none => rfl
  | some x =>
    have h1 := List.mem_of_find?_eq_some q
    have h2 : x.1 = k := by simpa using List.find?_some q
    exact absurd (h2 ▸ List.mem_map_of_mem h1) h
theorem KI.inD {rs : List (List Int)} {st : PlSt} {rl T : List Int} (h : KI (rfR rs) st rl T) : ∀ r ∈ T ++ rl, r ∈ keysP (textsP rs 5) := by
  (first | ((first | refine Exists.elim (h.facts) ?_ | refine conj_elim (h.facts) ?_); rintro (hnd) (hR)) | obtain ⟨hnd, hR⟩ := h.facts)
  refine Gen.sub (rf := rfR rs) (Gen.append' rl T h.gen fun r hr => (hR r hr).2.2) (fun r hr => ?_) (texts_mx rs)
  rcases List.mem_append.mp hr with hr | hr
  · exact h.t5 r hr
  · exact ⟨(hR r hr).1, (hR r hr).2.1⟩
theorem KI.allD {rs : List (List Int)} {st : PlSt} {T : List Int} (h : KI (rfR rs) st [] T) : ∀ r, r ∈ T ↔ r ∈ keysP (textsP rs 5) := fun r =>
  ⟨fun hr => h.inD r (List.mem_append_left _ hr), Gen.sub (rf := rfR rs) (TI.texts 5).gen (TI.texts 5).rng h.mx r⟩
theorem ring_len {rs : List (List Int)} {l : List Nd} (h : PA (rfR rs) 5 (l.map Nd.pl)) (hr : Ring (slOf l)) : (textsP rs 5).length < 5 := by
  obtain ⟨r, h0, h5, hn⟩ := ring_some (rf := rfR rs) (sl := slOf l) (T := keysP (textsP rs 5)) (fun j r hr => by
    have c := List.count_pos_iff.mpr hr
    rw [← plSl_slOf, h.sl] at c
    by_cases q : 0 ≤ r ∧ r < ((5 : Nat) : Int)
    · rw [if_pos q] at c
      exact ⟨q.1, by omega, List.count_pos_iff.mp c⟩
    · rw [if_neg q] at c; omega) hr (TI.texts 5).gen
  refine Nat.lt_of_not_le fun hl => hn (full5 (TI.texts 5).nd (TI.texts 5).rng (by simpa [keysP] using hl) r h0 h5)
theorem noring_len {rs : List (List Int)} {l : List Nd} (hneg : ∀ p ∈ rs, ∀ q ∈ p, -5 ≤ q) (h : PA (rfR rs) 5 (l.map Nd.pl)) (hr : NoRing (slOf l) (l.map (·.k))) : ¬ (textsP rs 5).length < 5 := by
  have hall := noring_all (rf := rfR rs) (sl := slOf l) (T := keysP (textsP rs 5)) (fun j r h0 h5 hj => by
    have c := h.sl j r
    rw [if_pos ⟨h0, by omega⟩, plSl_slOf] at c
    exact List.count_pos_iff.mp (by rw [c]; exact List.count_pos_iff.mpr hj)) (fun r h0 h5 => by rw [keys_of_pl]; exact h.has r h0 (by omega)) (rf_in hneg) hr (texts_mx rs)
  have := len_leK (a := [0, 1, 2, 3, 4]) (b := keysP (textsP rs 5)) (by decide) (fun x hx => by
    simp only [List.mem_cons, List.not_mem_nil, or_false] at hx
    exact hall x (by omega) (by omega))
  simp [keysP] at this
  omega
end
-- Ha
theorem dict_ne {w : World} {od : Obj} {kvs : List (Int × Value)} (h : od.IsDictOf (PySem.intKind P w) kvs) {c : Value} {a : Array Value} {n : Nat} : ({ cls := c, data := .seq a n } : Obj) ≠ od := by
  rintro rfl
  (first | ((first | with_reducible refine Exists.elim h ?_ | with_reducible refine conj_elim h ?_); (try clear h); rintro (es) tmp; (first | ((first | with_reducible refine Exists.elim tmp ?_ | with_reducible refine conj_elim tmp ?_); (try clear tmp); rintro (ep) tmp; (first | ((first | with_reducible refine Exists.elim tmp ?_ | with_reducible refine conj_elim tmp ?_); (try clear tmp); rintro (_) tmp; (first | ((first | with_reducible refine Exists.elim tmp ?_ | with_reducible refine conj_elim tmp ?_); (try clear tmp); rintro (hd) (_)) | obtain ⟨hd, _⟩ := tmp)) | obtain ⟨_, hd, _⟩ := tmp)) | obtain ⟨ep, _, hd, _⟩ := tmp)) | obtain ⟨es, ep, _, hd, _⟩ := h)
  cases hd
theorem PairsAll.snoc {fz : List (Addr × Obj)} {vs : List Value} {pss : List (List (Int × Int))} (h : PairsAll fz vs pss) {v : Value} {ps : List (Int × Int)} (hv : PairsAt fz v ps) : PairsAll fz (vs ++ [v]) (pss ++ [ps]) := by
  induction h with
  | nil => exact .cons hv .nil
  | cons h1 _ ih => exact .cons h1 ih
noncomputable def HLoop (w : World) (rs : List (List Int)) (fz : List (Addr × Obj)) (g₂ : Heap) (L rA pA dA nA D cA : Addr) (t1 t2 t3 t4 : Tok) (rb : Bool) (oc : Obj) (s : Shared) (n : Nat) (s' : Shared) : Prop :=
  Ex16 fun T rl rvs rc l on ta tb kvs od tl m h tk (a b : Int) => All18 (n = 5 - T.length) (a = (T.length : Int)) (b = (T.length : Int)) (s' = { s with heap := h, toks := tk }) (Fr g₂ L h m) (m (Str.ofString "rules") = some (.ref rA)) (m (Str.ofString "plan") = some (.ref pA)) (m (Str.ofString "ring") = some (.bool rb)) (News g₂ L h ((D, listOf rvs.toArray rc) :: (nA, on) :: (pA, instObj 153 dA) :: (dA, planD w t1 t2 t3 t4 nA (.ref D) a ta b tb) :: (ndLed l ++ ((cA, od) :: (L + 1, oc) :: (tl ++ fz))))) (NdOk w l on [D, nA, pA, dA]) (IntsAre rvs rl) (KI (rfR rs) (l.map Nd.pl) rl T) ((∀ j, (plSl (l.map Nd.pl) j).length ≤ 15)) (od.IsDictOf (PySem.intKind P w) kvs) (kvs.map (·.1) = T) (ToldIn rs (tl ++ fz) kvs) ((∀ p ∈ (D, listOf rvs.toArray rc) :: (nA, on) :: (pA, instObj 153 dA) :: (dA, planD w t1 t2 t3 t4 nA (.ref D) a ta b tb) :: ndLed l, ∀ q ∈ (cA, od) :: (L + 1, oc) :: (tl ++ fz), @Ne Nat q.1 p.1)) (∀ p ∈ tl ++ fz, @Ne Nat p.1 cA ∧ @Ne Nat p.1 (L + 1))
theorem loop_facts {w : World} {rf : Int → List Int} {l : List Nd} {on : Obj} {as : List Addr} {rl T : List Int} (ok : NdOk w l on as) (h : KI rf (l.map Nd.pl) rl T) (hl : ∀ j, (plSl (l.map Nd.pl) j).length ≤ 15) :
    l.length ≤ 5 ∧ (∀ x ∈ l, x.sl.length ≤ 15) ∧ (∀ r, 0 ≤ r → r < 5 → r ∈ l.map (·.k)) ∧ ∀ x ∈ l, ∀ k ∈ x.sl, k ∈ l.map (·.k) := by
  have hk : ∀ r, r ∈ l.map (·.k) ↔ 0 ≤ r ∧ r < 5 := fun r => by rw [keys_of_pl]; exact h.keys r
  refine ⟨?_, fun x hx => ?_, fun r h0 h5 => (hk r).mpr ⟨h0, h5⟩, fun x hx k hk' => ?_⟩
  · have := small5 ok.keys (fun r hr => (hk r).mp hr)
    simpa using this
  · rw [← slOf_of ok.keys hx, ← plSl_slOf]; exact hl _
  · have c := List.count_pos_iff.mpr hk'
    rw [← slOf_of ok.keys hx, ← plSl_slOf, h.sl] at c
    by_cases q : 0 ≤ k ∧ k < 5
    · exact (hk k).mpr q
    · rw [if_neg q] at c; omega
theorem okSplit {w : World} {l : List Nd} {on : Obj} {D nA pA dA : Addr} {Y : List Addr} (ok : NdOk w l on (D :: nA :: pA :: dA :: Y)) : NdOk w l on [D, nA, pA, dA] ∧ (∀ a ∈ D :: nA :: pA :: dA :: (ndLed l).map (·.1), ∀ y ∈ Y, @Ne Nat y a) ∧ Y.Nodup := by
  have ap := ok.apart
  have e : (D :: nA :: pA :: dA :: Y) ++ (ndLed l).map (·.1) = [D, nA, pA, dA] ++ (Y ++ (ndLed l).map (·.1)) := by simp
  have ap' := ap
  rw [e] at ap'
  (first | ((first | refine Exists.elim (List.nodup_append.mp ap') ?_ | refine conj_elim (List.nodup_append.mp ap') ?_); rintro (a1) tmp; (first | ((first | with_reducible refine Exists.elim tmp ?_ | with_reducible refine conj_elim tmp ?_); (try clear tmp); rintro (a2) (a3)) | obtain ⟨a2, a3⟩ := tmp)) | obtain ⟨a1, a2, a3⟩ := List.nodup_append.mp ap')
  (first | ((first | refine Exists.elim (List.nodup_append.mp a2) ?_ | refine conj_elim (List.nodup_append.mp a2) ?_); rintro (b1) tmp; (first | ((first | with_reducible refine Exists.elim tmp ?_ | with_reducible refine conj_elim tmp ?_); (try clear tmp); rintro (b2) (b3)) | obtain ⟨b2, b3⟩ := tmp)) | obtain ⟨b1, b2, b3⟩ := List.nodup_append.mp a2)
  refine ⟨⟨ok.dict, ok.ivs, ok.keys, List.nodup_append.mpr ⟨a1, b2, fun a ha b hb => a3 a ha b (List.mem_append_right _ hb)⟩⟩, fun a ha y hy e => ?_, b1⟩
  have ha' : a ∈ [D, nA, pA, dA] ∨ a ∈ (ndLed l).map (·.1) := by
    simp only [List.mem_cons, List.not_mem_nil, or_false] at ha ⊢
    rcases ha with h | h | h | h | h <;> simp only [h, true_or, or_true]
  rcases ha' with h | h
  · exact a3 a h y (List.mem_append_left _ hy) e.symm
  · exact b3 y hy a h e
theorem off_ap {D nA pA dA : Addr} {o1 o2 o3 o4 : Obj} {l : List Nd} {Y : List (Addr × Obj)} (h : ∀ a ∈ D :: nA :: pA :: dA :: (ndLed l).map (·.1), ∀ y ∈ Y.map (·.1), @Ne Nat y a) : ∀ p ∈ (D, o1) :: (nA, o2) :: (pA, o3) :: (dA, o4) :: ndLed l, ∀ q ∈ Y, @Ne Nat q.1 p.1 := by
  intro p hp q hq
  refine h p.1 ?_ q.1 (List.mem_map_of_mem hq)
  simp only [List.mem_cons] at hp ⊢
  rcases hp with rfl | rfl | rfl | rfl | hp
  · exact .inl rfl
  · exact .inr (.inl rfl)
  · exact .inr (.inr (.inl rfl))
  · exact .inr (.inr (.inr (.inl rfl)))
  · exact .inr (.inr (.inr (.inr (List.mem_map_of_mem hp))))
set_option maxHeartbeats 8000000 in
theorem handed_spec {w : World} {mean : ExcName → Option Value} {mg mb : Str → Option Value} {base g : Heap} {outer : List Env} {s : Shared} {dp un : Nat} {gd : Option (List Code)} {R : Result → Shared → Prop}
    {fz : List (Addr × Obj)} {rA : Addr} {vs : List Value} {k : Nat} {rs : List (List Int)}
    (S : Sit w mean mg mb base outer g s.heap fz) (hrA : (rA, listOf vs.toArray k) ∈ fz) (hr : ListsIn fz vs rs) (hlen : rs.length = 5) (h3 : ∀ p ∈ rs, p.length ≤ 3) (hfz : (fz.map (·.1)).Nodup)
    (hneg : ∀ p ∈ rs, ∀ q ∈ p, -5 ≤ q) (hd : dp + 65 < recursionLimit) (hu : un + 650 < cLine)
    (ret : ∀ g' tA cA kvs od tl T h' tk' n, KtsTurn (frs outer) g g' → od.IsDictOf (PySem.intKind P w) kvs → kvs.map (·.1) = T → T.Nodup → (∀ r, r ∈ T ↔ r ∈ keysP (textsP rs 5)) → ToldIn rs (tl ++ fz) kvs → (cA == sysModules) = false → (∀ p ∈ tl ++ fz, @Ne Nat p.1 cA) →
      Done g' h' ((tA, { cls := .type "tuple", data := .seq #[.bool (decide ((textsP rs 5).length < 5)), .ref cA] n }) :: (cA, od) :: (tl ++ fz)) → R (.ok (.ret (.ref tA))) { s with heap := h', toks := tk' }) :
    codeAny (model P w) (arnd dp un gd outer) (.call (.ref 195) ⟨[.ref rA], []⟩) R s := by
  refine S.enterC (binds := [(Str.ofString "rules", .ref rA)]) (by k_is) (by k_is) (by omega) (BindsTo.of_eq rfl) (by rfl) (by decide) ?_ rfl rfl rfl
  intro L h₁ tk cells F N Y B X T KD XB TB hlt
  (first | ((first | refine Exists.elim (Y.one) ?_ | refine conj_elim (Y.one) ?_); rintro (oc) tmp; (first | ((first | with_reducible refine Exists.elim tmp ?_ | with_reducible refine conj_elim tmp ?_); (try clear tmp); rintro (rfl) (hoc)) | obtain ⟨rfl, hoc⟩ := tmp)) | obtain ⟨oc, rfl, hoc⟩ := Y.one)
  have N₁ : News g L h₁ ((L + 1, oc) :: fz) := N
  clear N
  have hltc : ∀ p ∈ fz, p.1 < L + 1 := fun p hp => Nat.lt_succ_of_lt (hlt p hp)
  (repeat' (fail_if_success with_reducible first | refine zzW ?_ | refine zzF ?_ | refine zzC ?_ | refine zzL ?_ | refine zzD ?_); first | k_unfold; try dsimp only | walk1 | dsimp only; walk1 | leave1; try dsimp only)
  refine callWith_K0 (X.keeps F.keep) (by k_is) ?_
  refine new_plan B F X N₁ T XB TB KD rfl (by dsimp only [arnd]; omega) (by dsimp only [arnd]; omega) ?_
  intro pA dA nA on t1 t2 t3 t4 ta tb h₂ tk₂ F₂ N₂ hon lon lp1 lp2 lp3
  clear F N₁
  have o1 : @LT.lt Nat _ (L + 1) dA := lp1 _ (.head _)
  have o2 : ∀ p ∈ fz, @LT.lt Nat _ p.1 dA := fun p hp => lp1 _ (.tail _ hp)
  (repeat' (fail_if_success with_reducible first | refine zzW ?_ | refine zzF ?_ | refine zzC ?_ | refine zzL ?_ | refine zzD ?_); first | k_unfold; try dsimp only | walk1 | dsimp only; walk1 | leave1; try dsimp only)
  refine newDict_K F₂ N₂ T.nolimit ?_
  intro cA h₃ od F₃ N₃ lC loC _ _ hod _
  clear F₂ N₂
  have o3 : @LT.lt Nat _ nA cA := lC _ (.head _)
  (repeat' (fail_if_success with_reducible first | refine zzW ?_ | refine zzF ?_ | refine zzC ?_ | refine zzL ?_ | refine zzD ?_); first | k_unfold; try dsimp only | walk1 | dsimp only; walk1 | leave1; try dsimp only)
  rename Fr _ _ _ _ => F₄
  rename News _ _ _ _ => N₄
  rename (Obj.data _ = Data.cell (some (Value.ref cA))) => hoc'
  have key : ∃ oc' : Obj, oc'.data = Data.cell (some (Value.ref cA)) ∧ News g L _ ((nA, on) :: (pA, instObj 153 dA) :: (dA, planD w t1 t2 t3 t4 nA .none 0 ta 0 tb) :: (ndLed [] ++ ((cA, od) :: (L + 1, oc') :: fz))) := ⟨_, hoc', fun p hp => N₄ p (by
    simp only [ndLed, List.flatMap_nil, List.nil_append, List.mem_cons] at hp ⊢
    rcases hp with hp | hp | hp | hp | hp | hp <;> simp only [hp, true_or, or_true])⟩
  clear hoc' N₄ hoc
  (first | ((first | with_reducible refine Exists.elim key ?_ | with_reducible refine conj_elim key ?_); (try clear key); rintro (oc') tmp; (first | ((first | with_reducible refine Exists.elim tmp ?_ | with_reducible refine conj_elim tmp ?_); (try clear tmp); rintro (hoc') (N₄)) | obtain ⟨hoc', N₄⟩ := tmp)) | obtain ⟨oc', hoc', N₄⟩ := key)
  have ok0 : NdOk w [] on (nA :: pA :: dA :: ((cA, od) :: (L + 1, oc') :: fz : List (Addr × Obj)).map (·.1)) := by
    refine ⟨hon, by simp, by simp, ?_⟩
    have b1 : ∀ y ∈ fz.map (·.1), @LT.lt Nat _ y (L + 1) := fun y hy => by
      (first | ((first | refine Exists.elim (List.mem_map.mp hy) ?_ | refine conj_elim (List.mem_map.mp hy) ?_); rintro (p) tmp; (first | ((first | with_reducible refine Exists.elim tmp ?_ | with_reducible refine conj_elim tmp ?_); (try clear tmp); rintro (hp) (rfl)) | obtain ⟨hp, rfl⟩ := tmp)) | obtain ⟨p, hp, rfl⟩ := List.mem_map.mp hy)
      exact hltc p hp
    have b2 : L + 1 ∉ fz.map (·.1) := fun hm => Nat.lt_irrefl _ (b1 _ hm)
    have b3 : ∀ z, @LT.lt Nat _ (L + 1) z → z ∉ fz.map (·.1) := fun z hz hm => Nat.lt_irrefl _ (Nat.lt_trans hz (b1 _ hm))
    simp only [ndLed, List.flatMap_nil, List.map_nil, List.append_nil, List.map_cons, List.nodup_cons, List.mem_cons, not_or]
    refine ⟨⟨Nat.ne_of_gt lp3, Nat.ne_of_gt (Nat.lt_trans lp2 lp3), Nat.ne_of_lt o3, Nat.ne_of_gt (Nat.lt_trans o1 (Nat.lt_trans lp2 lp3)), b3 _ (Nat.lt_trans o1 (Nat.lt_trans lp2 lp3))⟩, ⟨Nat.ne_of_gt lp2, Nat.ne_of_lt (Nat.lt_trans lp3 o3), Nat.ne_of_gt (Nat.lt_trans o1 lp2), b3 _ (Nat.lt_trans o1 lp2)⟩, ⟨Nat.ne_of_lt (Nat.lt_trans lp2 (Nat.lt_trans lp3 o3)), Nat.ne_of_gt o1, b3 _ o1⟩, ⟨Nat.ne_of_gt (Nat.lt_trans o1 (Nat.lt_trans lp2 (Nat.lt_trans lp3 o3))), b3 _ (Nat.lt_trans o1 (Nat.lt_trans lp2 (Nat.lt_trans lp3 o3)))⟩, b2, hfz⟩
  refine For_gen ?_
  (repeat' (fail_if_success with_reducible first | refine zzW ?_ | refine zzF ?_ | refine zzC ?_ | refine zzL ?_ | refine zzD ?_); first | k_unfold; try dsimp only | walk1 | dsimp only; walk1 | leave1; try dsimp only)
  rename Fr _ _ _ _ => F₅
  rename News _ _ _ _ => N₅
  refine piter_range (n := 5) F₅ N₅ (by assumption) (by decide) (by decide) ?_
  intro I h₆ F₆ N₆ lI
  have hoI : ∀ p ∈ (nA, on) :: (pA, instObj 153 dA) :: (dA, planD w t1 t2 t3 t4 nA .none 0 ta 0 tb) :: ((cA, od) :: (L + 1, oc') :: fz), @LT.lt Nat _ p.1 I := fun p hp => lI p (by
    simp only [ndLed, List.flatMap_nil, List.nil_append]
    exact hp)
  clear F₅ N₅ lI
  (try dsimp only)
  refine turns_range (n := 5) (fun i g' m nw => All5 (g' = g) (m (Str.ofString "rules") = some (.ref rA)) (m (Str.ofString "plan") = some (.ref pA)) (m (Str.ofString "ring") = some (.bool false)) (Ex2 fun l on => All4 (NdOk w l on (nA :: pA :: dA :: ((cA, od) :: (L + 1, oc') :: fz : List (Addr × Obj)).map (·.1))) (l.map Nd.pl = plAdds rs i) ((∀ p ∈ ndLed l, @Ne Nat p.1 I)) (nw = (nA, on) :: (pA, instObj 153 dA) :: (dA, planD w t1 t2 t3 t4 nA .none 0 ta 0 tb) :: (ndLed l ++ ((cA, od) :: (L + 1, oc') :: fz))))) rfl ?_ F₆ N₆ ⟨rfl, rfl, rfl, rfl, [], on, ok0, rfl, by simp [ndLed], rfl⟩ ?_ ?_
  · rintro i g' m nw ⟨rfl, _, _, _, l, on', _, _, hnl, rfl⟩ p hp
    simp only [List.mem_cons, List.mem_append] at hp
    rcases hp with rfl | rfl | rfl | hp | hp
    · exact Nat.ne_of_lt (show @LT.lt Nat _ nA I from hoI (nA, on) (.head _))
    · exact Nat.ne_of_lt (hoI _ (.tail _ (.head _)))
    · exact Nat.ne_of_lt (hoI _ (.tail _ (.tail _ (.head _))))
    · exact hnl p hp
    · exact Nat.ne_of_lt (hoI p (.tail _ (.tail _ (.tail _ (List.mem_cons.mpr (hp.imp id List.mem_cons.mpr))))))
  · clear F₆ N₆ hon ok0
    rintro i g' m nw h tk t hi5 hJ9 Fi Ni hneI Q1 hQ1
    (first | ((first | with_reducible refine Exists.elim hJ9 ?_ | with_reducible refine conj_elim hJ9 ?_); (try clear hJ9); rintro (rfl) tmp; (first | ((first | with_reducible refine Exists.elim tmp ?_ | with_reducible refine conj_elim tmp ?_); (try clear tmp); rintro (hm1) tmp; (first | ((first | with_reducible refine Exists.elim tmp ?_ | with_reducible refine conj_elim tmp ?_); (try clear tmp); rintro (hm2) tmp; (first | ((first | with_reducible refine Exists.elim tmp ?_ | with_reducible refine conj_elim tmp ?_); (try clear tmp); rintro (hm3) tmp; (first | ((first | with_reducible refine Exists.elim tmp ?_ | with_reducible refine conj_elim tmp ?_); (try clear tmp); rintro (l) tmp; (first | ((first | with_reducible refine Exists.elim tmp ?_ | with_reducible refine conj_elim tmp ?_); (try clear tmp); rintro (on') tmp; (first | ((first | with_reducible refine Exists.elim tmp ?_ | with_reducible refine conj_elim tmp ?_); (try clear tmp); rintro (ok') tmp; (first | ((first | with_reducible refine Exists.elim tmp ?_ | with_reducible refine conj_elim tmp ?_); (try clear tmp); rintro (hpl) tmp; (first | ((first | with_reducible refine Exists.elim tmp ?_ | with_reducible refine conj_elim tmp ?_); (try clear tmp); rintro (hnl) (rfl)) | obtain ⟨hnl, rfl⟩ := tmp)) | obtain ⟨hpl, hnl, rfl⟩ := tmp)) | obtain ⟨ok', hpl, hnl, rfl⟩ := tmp)) | obtain ⟨on', ok', hpl, hnl, rfl⟩ := tmp)) | obtain ⟨l, on', ok', hpl, hnl, rfl⟩ := tmp)) | obtain ⟨hm3, l, on', ok', hpl, hnl, rfl⟩ := tmp)) | obtain ⟨hm2, hm3, l, on', ok', hpl, hnl, rfl⟩ := tmp)) | obtain ⟨hm1, hm2, hm3, l, on', ok', hpl, hnl, rfl⟩ := tmp)) | obtain ⟨rfl, hm1, hm2, hm3, l, on', ok', hpl, hnl, rfl⟩ := hJ9)
    (repeat' (fail_if_success with_reducible first | refine zzW ?_ | refine zzF ?_ | refine zzC ?_ | refine zzL ?_ | refine zzD ?_); first | k_unfold; try dsimp only | walk1 | dsimp only; walk1 | leave1; try dsimp only)
    refine StarMethod_ ?_
    (repeat' (fail_if_success with_reducible first | refine zzW ?_ | refine zzF ?_ | refine zzC ?_ | refine zzL ?_ | refine zzD ?_); first | k_unfold; try dsimp only | walk1 | dsimp only; walk1 | leave1; try dsimp only)
    refine callWith_MS2 (K := Mine.hd.heap_1 w.params) (f := 103) (self := .ref pA) (by k_is) ?_
    (repeat' (fail_if_success with_reducible first | refine zzW ?_ | refine zzF ?_ | refine zzC ?_ | refine zzL ?_ | refine zzD ?_); first | k_unfold; try dsimp only | walk1 | dsimp only; walk1 | leave1; try dsimp only)
    rename Fr _ _ _ _ => F₇
    rename News _ _ _ _ => N₇
    (refine Exists.elim ((⟨rs[i], by simp [hlen, hi5]⟩) : ∃ parts, rs[i]? = some parts) ?_; rintro (parts) (hparts))
    (first | ((first | refine Exists.elim (hr.get hparts) ?_ | refine conj_elim (hr.get hparts) ?_); rintro (prA) tmp; (first | ((first | with_reducible refine Exists.elim tmp ?_ | with_reducible refine conj_elim tmp ?_); (try clear tmp); rintro (pws) tmp; (first | ((first | with_reducible refine Exists.elim tmp ?_ | with_reducible refine conj_elim tmp ?_); (try clear tmp); rintro (pk) tmp; (first | ((first | with_reducible refine Exists.elim tmp ?_ | with_reducible refine conj_elim tmp ?_); (try clear tmp); rintro (hpv) tmp; (first | ((first | with_reducible refine Exists.elim tmp ?_ | with_reducible refine conj_elim tmp ?_); (try clear tmp); rintro (hpm) (hpi)) | obtain ⟨hpm, hpi⟩ := tmp)) | obtain ⟨hpv, hpm, hpi⟩ := tmp)) | obtain ⟨pk, hpv, hpm, hpi⟩ := tmp)) | obtain ⟨pws, pk, hpv, hpm, hpi⟩ := tmp)) | obtain ⟨prA, pws, pk, hpv, hpm, hpi⟩ := hr.get hparts)
    have hrd : rs.getD i [] = parts := by simp [List.getD, hparts]
    have hp3 : pws.length ≤ 3 := by have := hpi.length; have := h3 _ (List.mem_of_getElem? hparts); omega
    (refine Exists.elim ((⟨_, rfl, N₇⟩) : ∃ NW : List (Addr × Obj), NW = _ ∧ News g' L _ NW) ?_; rintro (NW) tmp; (first | ((first | with_reducible refine Exists.elim tmp ?_ | with_reducible refine conj_elim tmp ?_); (try clear tmp); rintro (hNW) (N₈)) | obtain ⟨hNW, N₈⟩ := tmp))
    clear N₇
    have mrA : (rA, listOf vs.toArray k) ∈ NW := hNW ▸ .tail _ (.tail _ (.tail _ (.tail _ (.tail _ (List.mem_append_right _ (.tail _ (.tail _ hrA)))))))
    have mpA : (prA, listOf pws.toArray pk) ∈ NW := hNW ▸ .tail _ (.tail _ (.tail _ (.tail _ (.tail _ (List.mem_append_right _ (.tail _ (.tail _ hpm)))))))
    refine LCt.ListComp_T (cl := []) F₇ rfl (by decide) rfl (by decide) rfl ?_
    (repeat' (fail_if_success with_reducible first | refine zzW ?_ | refine zzF ?_ | refine zzC ?_ | refine zzL ?_ | refine zzD ?_); first | k_unfold; try dsimp only | walk1 | dsimp only; walk1 | leave1; try dsimp only)
    refine item_at N₈ mrA (by omega) (by omega) (by simpa using hpv) ?_
    refine LCt.CompSrcT.ledger rfl F₇ N₈ mpA (by rw [sizeLine_eq]; simp; omega) fun gc => ?_
    refine compT_ind (fun c ys nw => nw = NW ∧ IntsAre ys (refsOf (parts.take c))) pws.toArray.size ?_ ?_ _ 0 [] _ (Nat.zero_add _) ⟨rfl, .nil⟩
    · rintro c ys nw hc ⟨rfl, hys⟩ v Ic oI C oC D m₂ hh tk' E' hv hC hmx F₁₂ N₁₂ o3 ne
      (first | ((first | refine Exists.elim (ints_get hpi (by simpa using hv)) ?_ | refine conj_elim (ints_get hpi (by simpa using hv)) ?_); rintro (pn) tmp; (first | ((first | with_reducible refine Exists.elim tmp ?_ | with_reducible refine conj_elim tmp ?_); (try clear tmp); rintro (pt) tmp; (first | ((first | with_reducible refine Exists.elim tmp ?_ | with_reducible refine conj_elim tmp ?_); (try clear tmp); rintro (rfl) (hpn)) | obtain ⟨rfl, hpn⟩ := tmp)) | obtain ⟨pt, rfl, hpn⟩ := tmp)) | obtain ⟨pn, pt, rfl, hpn⟩ := ints_get hpi (by simpa using hv))
      clear F₇ N₈ hNW
      have htake : parts.take (c + 1) = parts.take c ++ [pn] := by rw [List.take_add_one, hpn]; rfl
      (repeat' (fail_if_success with_reducible first | refine zzW ?_ | refine zzF ?_ | refine zzC ?_ | refine zzL ?_ | refine zzD ?_); first | k_unfold; try dsimp only | walk1 | dsimp only; walk1 | leave1; try dsimp only)
      · rename (pn < 0) => hneg
        refine CompEnd.intro F₁₂ N₁₂ nw (fun p hp => hp) o3 (.inr ⟨_, mpA, rfl, _, rfl⟩) ⟨rfl, ?_⟩
        have e : refsOf [pn] = [-1 - pn] := by simp [refsOf, hneg]
        have e2 : refsOf (parts.take c ++ [pn]) = refsOf (parts.take c) ++ refsOf [pn] := by simp [refsOf]
        rw [htake, e2, e]
        exact ints_snoc hys
      · rename ¬ (pn < 0) => hneg
        refine CompEnd.intro F₁₂ N₁₂ nw (fun p hp => hp) o3 (.inr ⟨_, mpA, rfl, _, rfl⟩) ⟨rfl, ?_⟩
        have e : refsOf [pn] = [] := by simp [refsOf, hneg]
        have e2 : refsOf (parts.take c ++ [pn]) = refsOf (parts.take c) ++ refsOf [pn] := by simp [refsOf]
        rw [htake, e2, e, List.append_nil]
        exact hys
    · have hplen : pws.toArray.size = parts.length := by have := hpi.length; simp [this]
      rintro ys nw ⟨rfl, hys⟩
      rw [hplen, List.take_length] at hys
      clear F₇ N₈
      intro D hD tkD F₁₃ N₁₃ o1
      have hyl : ys.length ≤ 3 := by
        have h1 := hys.length
        have h2 : (refsOf parts).length ≤ parts.length := by
          unfold refsOf; rw [List.length_map]; exact List.length_filter_le _ _
        have := hpi.length
        omega
      refine star_seq (ws := ys) F₁₃ N₁₃ (.head _) rfl rfl (.inl rfl) (by simp) (by rw [sizeLine_eq]; simp; omega) ?_
      intro h₁₄ F₁₄ N₁₄
      clear F₁₃ N₁₃
      (repeat' (fail_if_success with_reducible first | refine zzW ?_ | refine zzF ?_ | refine zzC ?_ | refine zzL ?_ | refine zzD ?_); first | k_unfold; try dsimp only | walk1 | dsimp only; walk1 | leave1; try dsimp only)
      · exact ⟨(N₁₄ (_, methodObj (.ref 103) (.ref pA)) (.tail _ (by rw [hNW]; exact .head _))).1, X.keeps F₁₄.keep⟩
      refine call_meth N₁₄ (f := .ref 103) (self := .ref pA) (.tail _ (by rw [hNW]; exact .head _)) ?_
      have hsub : ∀ p ∈ (nA, on') :: (pA, instObj 153 dA) :: (dA, planD w t1 t2 t3 t4 nA .none 0 ta 0 tb) :: (ndLed l ++ ((cA, od) :: (L + 1, oc') :: fz)), p ∈ (D, lst ys) :: nw := fun p hp => .tail _ (hNW ▸ .tail _ (.tail _ hp))
      have hIm : (I, riObj ((i + 1 : Nat) : Int) (((5 : Nat) : Int) - ((i + 1 : Nat) : Int))) ∈ (D, lst ys) :: nw := .tail _ (hNW ▸ .tail _ (.head _))
      have hPA : PA (rfR rs) i (l.map Nd.pl) := hpl ▸ PA.adds (rf_in hneg) (rf_len h3) i (Nat.le_of_lt hi5)
      have hb := hPA.bounds ok'.keys
      have hsl1 : ∀ x ∈ l, x.sl.length ≤ 1000 := fun x hx => by have := hb.2.1 x hx; omega
      have hl90 : l.length ≤ 90 := by have := hb.1; omega
      refine code_use B F₁₄ N₁₄ XB TB KD ((nA, on') :: (pA, instObj 153 dA) :: (dA, planD w t1 t2 t3 t4 nA .none 0 ta 0 tb) :: (ndLed l ++ ((cA, od) :: (L + 1, oc') :: fz))) [(I, riObj ((i + 1 : Nat) : Int) (((5 : Nat) : Int) - ((i + 1 : Nat) : Int)))] hsub (fun p hp => by rw [List.mem_singleton.mp hp]; exact hIm) (fun p hp q hq => by rw [List.mem_singleton.mp hq]; exact Ne.symm (hneI p hp)) ?_
      intro gg SS back
      refine add_spec (vs := ys ++ []) (ps := refsOf parts) SS ok' lon hl90 hsl1 (by simp; omega) (by rw [List.append_nil]; exact hys) (by dsimp only [arnd]; omega) (by dsimp only [arnd]; omega) ?_
      intro l₂ on₂ h₁₅ tk₁₅ ok₂ hpl₂ Dn
      (first | ((first | refine Exists.elim (back _ _ Dn) ?_ | refine conj_elim (back _ _ Dn) ?_); rintro (F₁₅) tmp; (first | ((first | with_reducible refine Exists.elim tmp ?_ | with_reducible refine conj_elim tmp ?_); (try clear tmp); rintro (N₁₅) (hne₁₅)) | obtain ⟨N₁₅, hne₁₅⟩ := tmp)) | obtain ⟨F₁₅, N₁₅, hne₁₅⟩ := back _ _ Dn)
      clear F₁₄ N₁₄ SS back hNW
      (repeat' (fail_if_success with_reducible first | refine zzW ?_ | refine zzF ?_ | refine zzC ?_ | refine zzL ?_ | refine zzD ?_); first | k_unfold; try dsimp only | walk1 | dsimp only; walk1 | leave1; try dsimp only)
      refine hQ1 _ _ ?_
      refine ⟨_, _, _, _, (nA, on₂) :: (pA, instObj 153 dA) :: (dA, planD w t1 t2 t3 t4 nA .none 0 ta 0 tb) :: (ndLed l₂ ++ ((cA, od) :: (L + 1, oc') :: fz)), rfl, F₁₅, fun p hp => N₁₅ p (by
        exact sub_at re12 hp), rfl, by (repeat (first | with_reducible assumption | refine Eq.trans (if_pos rfl) ?_; exact rfl | refine Eq.trans (if_neg (by decide)) ?_)), by (repeat (first | with_reducible assumption | refine Eq.trans (if_pos rfl) ?_; exact rfl | refine Eq.trans (if_neg (by decide)) ?_)), by (repeat (first | with_reducible assumption | refine Eq.trans (if_pos rfl) ?_; exact rfl | refine Eq.trans (if_neg (by decide)) ?_)), l₂, on₂, ok₂, ?_, fun p hp => hne₁₅ p (.tail _ (.tail _ (.tail _ (List.mem_append_left _ hp)))) _ (.head _), rfl⟩
      rw [hpl₂, hpl]
      show _ = plAdds rs (i + 1)
      unfold plAdds
      rw [List.range_succ, List.foldl_append, ← hrd]
      rfl
  · (repeat (rename Fr _ _ _ _ => Fq; clear Fq))
    (repeat (rename News _ _ _ _ => Nq; clear Nq))
    rintro g' m nw h tk ⟨rfl, hm1, hm2, hm3, l, on2, ok2, hpl, hnl, rfl⟩ Fi Ni
    clear hon ok0
    have hPA : PA (rfR rs) 5 (l.map Nd.pl) := hpl ▸ PA.adds (rf_in hneg) (rf_len h3) 5 (Nat.le_refl _)
    have hb := hPA.bounds ok2.keys
    have hks : ∀ r, 0 ≤ r → r < 5 → r ∈ l.map (·.k) := fun r h0 h5 => by rw [keys_of_pl]; exact hPA.has r h0 (by omega)
    have hsin : ∀ x ∈ l, ∀ k ∈ x.sl, k ∈ l.map (·.k) := fun x hx k hk => by
      have := hb.2.2 x hx k hk
      exact hks k this.1 (by omega)
    (repeat' (fail_if_success with_reducible first | refine zzW ?_ | refine zzF ?_ | refine zzC ?_ | refine zzL ?_ | refine zzD ?_); first | k_unfold; try dsimp only | walk1 | dsimp only; walk1 | leave1; try dsimp only)
    (refine Exists.elim ((⟨_, rfl⟩) : ∃ P2 : Flow → Shared → Prop, P2 = fun f s' => f = Flow.next ∧ Ex7 fun g₂ D ys h tk m rb => All14 (rb = decide ((textsP rs 5).length < 5)) (s' = { s with heap := h, toks := tk }) (KtsTurn (frs outer) g' g₂) (Fr g₂ L h m) (m (Str.ofString "rules") = some (.ref rA)) (m (Str.ofString "plan") = some (.ref pA)) (m (Str.ofString "ring") = some (.bool rb)) (News g₂ L h ((D, lst ys) :: (nA, on2) :: (pA, instObj 153 dA) :: (dA, planD w t1 t2 t3 t4 nA (.ref D) 0 ta 0 tb) :: (ndLed l ++ ((cA, od) :: (L + 1, oc') :: fz)))) (Below (arnd dp un gd outer) base outer g₂) ((Mine.hd.heap_1 w.params).In g₂) (TT mean mg mb g₂) (KtsDicts (frs outer) g₂) (IntsAre ys (readyOf l)) (NdOk w l on2 (D :: nA :: pA :: dA :: ((cA, od) :: (L + 1, oc') :: fz : List (Addr × Obj)).map (·.1)))) ?_; rintro (P2) (hP2))
    refine wpAny_mono (Q := P2) ?_ ?_ (fun _ _ x => x)
    · refine wpAny_Try_except ?_
      (repeat' (fail_if_success with_reducible first | refine zzW ?_ | refine zzF ?_ | refine zzC ?_ | refine zzL ?_ | refine zzD ?_); first | k_unfold; try dsimp only | walk1 | dsimp only; walk1 | leave1; try dsimp only)
      rename Fr _ _ _ _ => F₁₆
      rename News _ _ _ _ => N₁₆
      refine call_use2 B F₁₆ N₁₆ XB TB KD ((nA, on2) :: (pA, instObj 153 dA) :: (dA, planD w t1 t2 t3 t4 nA .none 0 ta 0 tb) :: (ndLed l ++ ((cA, od) :: (L + 1, oc') :: fz))) [] (fun p hp => hp) (by k_allIn) (by simp) ?_
      intro gg SS backT backE
      refine prepare_spec SS ok2 lon (by omega) (fun x hx => by have := hb.2.1 x hx; omega) hsin (by dsimp only [arnd]; omega) (by dsimp only [arnd]; omega) ?_ ?_
      · intro g2 D ys h7 tk7 T7 hno hys okD Dn
        (first | ((first | refine Exists.elim (backT _ _ _ T7 Dn) ?_ | refine conj_elim (backT _ _ _ T7 Dn) ?_); rintro (g₂) tmp; (first | ((first | with_reducible refine Exists.elim tmp ?_ | with_reducible refine conj_elim tmp ?_); (try clear tmp); rintro (T₂) tmp; (first | ((first | with_reducible refine Exists.elim tmp ?_ | with_reducible refine conj_elim tmp ?_); (try clear tmp); rintro (F₇) tmp; (first | ((first | with_reducible refine Exists.elim tmp ?_ | with_reducible refine conj_elim tmp ?_); (try clear tmp); rintro (N₇) tmp; (first | ((first | with_reducible refine Exists.elim tmp ?_ | with_reducible refine conj_elim tmp ?_); (try clear tmp); rintro (B₇) tmp; (first | ((first | with_reducible refine Exists.elim tmp ?_ | with_reducible refine conj_elim tmp ?_); (try clear tmp); rintro (X₇) tmp; (first | ((first | with_reducible refine Exists.elim tmp ?_ | with_reducible refine conj_elim tmp ?_); (try clear tmp); rintro (P₇) tmp; (first | ((first | with_reducible refine Exists.elim tmp ?_ | with_reducible refine conj_elim tmp ?_); (try clear tmp); rintro (D₇) (_)) | obtain ⟨D₇, _⟩ := tmp)) | obtain ⟨P₇, D₇, _⟩ := tmp)) | obtain ⟨X₇, P₇, D₇, _⟩ := tmp)) | obtain ⟨B₇, X₇, P₇, D₇, _⟩ := tmp)) | obtain ⟨N₇, B₇, X₇, P₇, D₇, _⟩ := tmp)) | obtain ⟨F₇, N₇, B₇, X₇, P₇, D₇, _⟩ := tmp)) | obtain ⟨T₂, F₇, N₇, B₇, X₇, P₇, D₇, _⟩ := tmp)) | obtain ⟨g₂, T₂, F₇, N₇, B₇, X₇, P₇, D₇, _⟩ := backT _ _ _ T7 Dn)
        rw [List.append_nil] at N₇
        clear F₁₆ N₁₆ SS backT backE Dn B X T KD
        (try clear Fi Ni)
        dsimp only
        (repeat' (fail_if_success with_reducible first | refine zzW ?_ | refine zzF ?_ | refine zzC ?_ | refine zzL ?_ | refine zzD ?_); first | k_unfold; try dsimp only | walk1 | dsimp only; walk1 | leave1; try dsimp only)
        rw [hP2]
        exact ⟨rfl, g₂, D, ys, _, _, m, false, (decide_eq_false (noring_len hneg hPA hno)).symm, rfl, T₂, F₇, hm1, hm2, hm3, N₇, B₇, X₇, P₇, D₇, hys, okD⟩
      · intro D ys e h7 tk7 hri hys okD RR up
        (first | ((first | refine Exists.elim (backE _ _ _ _ RR up) ?_ | refine conj_elim (backE _ _ _ _ RR up) ?_); rintro (G) tmp; (first | ((first | with_reducible refine Exists.elim tmp ?_ | with_reducible refine conj_elim tmp ?_); (try clear tmp); rintro (FG) tmp; (first | ((first | with_reducible refine Exists.elim tmp ?_ | with_reducible refine conj_elim tmp ?_); (try clear tmp); rintro (Rz) (up')) | obtain ⟨Rz, up'⟩ := tmp)) | obtain ⟨FG, Rz, up'⟩ := tmp)) | obtain ⟨G, FG, Rz, up'⟩ := backE _ _ _ _ RR up)
        dsimp only
        refine caughtX_SO0 Rz FG B up' XB TB KD KtsTurn.refl (by k_is) (by kts_isx) ?_
        intro h₇ g₂ T₇ F₇ N₇ B₇ X₇ P₇ D₇
        rw [List.append_nil] at N₇
        clear F₁₆ N₁₆ SS backT backE B X T KD FG
        (try clear Fi Ni)
        (repeat' (fail_if_success with_reducible first | refine zzW ?_ | refine zzF ?_ | refine zzC ?_ | refine zzL ?_ | refine zzD ?_); first | k_unfold; try dsimp only | walk1 | dsimp only; walk1 | leave1; try dsimp only)
        rename Fr _ _ _ _ => F₈
        rename News _ _ _ _ => N₈
        rw [hP2]
        exact ⟨rfl, g₂, D, ys, _, _, _, true, (decide_eq_true (ring_len hPA hri)).symm, rfl, T₇, F₈, by (repeat (first | with_reducible assumption | refine Eq.trans (if_pos rfl) ?_; exact rfl | refine Eq.trans (if_neg (by decide)) ?_)), by (repeat (first | with_reducible assumption | refine Eq.trans (if_pos rfl) ?_; exact rfl | refine Eq.trans (if_neg (by decide)) ?_)), by (repeat (first | with_reducible assumption | refine Eq.trans (if_pos rfl) ?_; exact rfl | refine Eq.trans (if_neg (by decide)) ?_)), N₈, B₇, X₇, P₇, D₇, hys, okD⟩
    · rw [hP2]
      clear hP2 P2 Fi Ni B X T KD
      rintro f s' ⟨rfl, g₂, D, ys, h₈, tk₈, m, rb, hrb, rfl, T₂, F₈, hm1, hm2, hm3, N₈, B, X, T, KD, hys, okD⟩
      dsimp only
      (repeat' (fail_if_success with_reducible first | refine zzW ?_ | refine zzF ?_ | refine zzC ?_ | refine zzL ?_ | refine zzD ?_); first | k_unfold; try dsimp only | walk1 | dsimp only; walk1 | leave1; try dsimp only)
      (first | ((first | refine Exists.elim (okSplit okD) ?_ | refine conj_elim (okSplit okD) ?_); rintro (okN) tmp; (first | ((first | with_reducible refine Exists.elim tmp ?_ | with_reducible refine conj_elim tmp ?_); (try clear tmp); rintro (hdj) (hY)) | obtain ⟨hdj, hY⟩ := tmp)) | obtain ⟨okN, hdj, hY⟩ := okSplit okD)
      (first | ((first | refine Exists.elim (List.nodup_cons.mp (show ((cA :: (L + 1) :: fz.map (·.1)) : List Addr).Nodup from hY)) ?_ | refine conj_elim (List.nodup_cons.mp (show ((cA :: (L + 1) :: fz.map (·.1)) : List Addr).Nodup from hY)) ?_); rintro (hc1) (hc2)) | obtain ⟨hc1, hc2⟩ := List.nodup_cons.mp (show ((cA :: (L + 1) :: fz.map (·.1)) : List Addr).Nodup from hY))
      refine While_gen (HLoop w rs fz g₂ L rA pA dA nA D cA t1 t2 t3 t4 rb oc' s) ?_ 5 ?_
      rotate_left
      · refine ⟨[], readyOf l, ys, ys.length, l, on2, ta, tb, [], od, [], m, h₈, tk₈, 0, 0, rfl, rfl, rfl, rfl, F₈, hm1, hm2, hm3, N₈, okN, hys, ki_init hPA okN.keys, fun j => hPA.len j, hod, rfl, (fun k v hm => by cases hm), off_ap hdj, fun p hp => ⟨fun e => hc1 ?_, fun e => (List.nodup_cons.mp hc2).1 ?_⟩⟩
        · rw [← show p.1 = cA from e]
          exact .tail _ (List.mem_map_of_mem (f := fun p : Addr × Obj => p.1) (l := fz) hp)
        · rw [← show p.1 = L + 1 from e]
          exact List.mem_map_of_mem (f := fun p : Addr × Obj => p.1) (l := fz) hp
      clear F₈ N₈ hm1 hm2 hm3 hys okD okN hdj hod hPA hb hks hsin ok2 hpl hnl
      rintro n s' hJ9 Q2 hQ2
      (first | ((first | with_reducible refine Exists.elim hJ9 ?_ | with_reducible refine conj_elim hJ9 ?_); (try clear hJ9); rintro (T') tmp; (first | ((first | with_reducible refine Exists.elim tmp ?_ | with_reducible refine conj_elim tmp ?_); (try clear tmp); rintro (rl) tmp; (first | ((first | with_reducible refine Exists.elim tmp ?_ | with_reducible refine conj_elim tmp ?_); (try clear tmp); rintro (rvs) tmp; (first | ((first | with_reducible refine Exists.elim tmp ?_ | with_reducible refine conj_elim tmp ?_); (try clear tmp); rintro (rc) tmp; (first | ((first | with_reducible refine Exists.elim tmp ?_ | with_reducible refine conj_elim tmp ?_); (try clear tmp); rintro (l) tmp; (first | ((first | with_reducible refine Exists.elim tmp ?_ | with_reducible refine conj_elim tmp ?_); (try clear tmp); rintro (on) tmp; (first | ((first | with_reducible refine Exists.elim tmp ?_ | with_reducible refine conj_elim tmp ?_); (try clear tmp); rintro (ta) tmp; (first | ((first | with_reducible refine Exists.elim tmp ?_ | with_reducible refine conj_elim tmp ?_); (try clear tmp); rintro (tb) tmp; (first | ((first | with_reducible refine Exists.elim tmp ?_ | with_reducible refine conj_elim tmp ?_); (try clear tmp); rintro (kvs) tmp; (first | ((first | with_reducible refine Exists.elim tmp ?_ | with_reducible refine conj_elim tmp ?_); (try clear tmp); rintro (od) tmp; (first | ((first | with_reducible refine Exists.elim tmp ?_ | with_reducible refine conj_elim tmp ?_); (try clear tmp); rintro (tl) tmp; (first | ((first | with_reducible refine Exists.elim tmp ?_ | with_reducible refine conj_elim tmp ?_); (try clear tmp); rintro (m) tmp; (first | ((first | with_reducible refine Exists.elim tmp ?_ | with_reducible refine conj_elim tmp ?_); (try clear tmp); rintro (h) tmp; (first | ((first | with_reducible refine Exists.elim tmp ?_ | with_reducible refine conj_elim tmp ?_); (try clear tmp); rintro (tk) tmp; (first | ((first | with_reducible refine Exists.elim tmp ?_ | with_reducible refine conj_elim tmp ?_); (try clear tmp); rintro (a) tmp; (first | ((first | with_reducible refine Exists.elim tmp ?_ | with_reducible refine conj_elim tmp ?_); (try clear tmp); rintro (b) tmp; (first | ((first | with_reducible refine Exists.elim tmp ?_ | with_reducible refine conj_elim tmp ?_); (try clear tmp); rintro (rfl) tmp; (first | ((first | with_reducible refine Exists.elim tmp ?_ | with_reducible refine conj_elim tmp ?_); (try clear tmp); rintro (ha) tmp; (first | ((first | with_reducible refine Exists.elim tmp ?_ | with_reducible refine conj_elim tmp ?_); (try clear tmp); rintro (hb) tmp; (first | ((first | with_reducible refine Exists.elim tmp ?_ | with_reducible refine conj_elim tmp ?_); (try clear tmp); rintro (rfl) tmp; (first | ((first | with_reducible refine Exists.elim tmp ?_ | with_reducible refine conj_elim tmp ?_); (try clear tmp); rintro (Fi) tmp; (first | ((first | with_reducible refine Exists.elim tmp ?_ | with_reducible refine conj_elim tmp ?_); (try clear tmp); rintro (hm1) tmp; (first | ((first | with_reducible refine Exists.elim tmp ?_ | with_reducible refine conj_elim tmp ?_); (try clear tmp); rintro (hm2) tmp; (first | ((first | with_reducible refine Exists.elim tmp ?_ | with_reducible refine conj_elim tmp ?_); (try clear tmp); rintro (hm3) tmp; (first | ((first | with_reducible refine Exists.elim tmp ?_ | with_reducible refine conj_elim tmp ?_); (try clear tmp); rintro (Ni) tmp; (first | ((first | with_reducible refine Exists.elim tmp ?_ | with_reducible refine conj_elim tmp ?_); (try clear tmp); rintro (ok) tmp; (first | ((first | with_reducible refine Exists.elim tmp ?_ | with_reducible refine conj_elim tmp ?_); (try clear tmp); rintro (hrv) tmp; (first | ((first | with_reducible refine Exists.elim tmp ?_ | with_reducible refine conj_elim tmp ?_); (try clear tmp); rintro (hki) tmp; (first | ((first | with_reducible refine Exists.elim tmp ?_ | with_reducible refine conj_elim tmp ?_); (try clear tmp); rintro (hlen15) tmp; (first | ((first | with_reducible refine Exists.elim tmp ?_ | with_reducible refine conj_elim tmp ?_); (try clear tmp); rintro (hod) tmp; (first | ((first | with_reducible refine Exists.elim tmp ?_ | with_reducible refine conj_elim tmp ?_); (try clear tmp); rintro (hkT) tmp; (first | ((first | with_reducible refine Exists.elim tmp ?_ | with_reducible refine conj_elim tmp ?_); (try clear tmp); rintro (htold) tmp; (first | ((first | with_reducible refine Exists.elim tmp ?_ | with_reducible refine conj_elim tmp ?_); (try clear tmp); rintro (hdj) (hcA)) | obtain ⟨hdj, hcA⟩ := tmp)) | obtain ⟨htold, hdj, hcA⟩ := tmp)) | obtain ⟨hkT, htold, hdj, hcA⟩ := tmp)) | obtain ⟨hod, hkT, htold, hdj, hcA⟩ := tmp)) | obtain ⟨hlen15, hod, hkT, htold, hdj, hcA⟩ := tmp)) | obtain ⟨hki, hlen15, hod, hkT, htold, hdj, hcA⟩ := tmp)) | obtain ⟨hrv, hki, hlen15, hod, hkT, htold, hdj, hcA⟩ := tmp)) | obtain ⟨ok, hrv, hki, hlen15, hod, hkT, htold, hdj, hcA⟩ := tmp)) | obtain ⟨Ni, ok, hrv, hki, hlen15, hod, hkT, htold, hdj, hcA⟩ := tmp)) | obtain ⟨hm3, Ni, ok, hrv, hki, hlen15, hod, hkT, htold, hdj, hcA⟩ := tmp)) | obtain ⟨hm2, hm3, Ni, ok, hrv, hki, hlen15, hod, hkT, htold, hdj, hcA⟩ := tmp)) | obtain ⟨hm1, hm2, hm3, Ni, ok, hrv, hki, hlen15, hod, hkT, htold, hdj, hcA⟩ := tmp)) | obtain ⟨Fi, hm1, hm2, hm3, Ni, ok, hrv, hki, hlen15, hod, hkT, htold, hdj, hcA⟩ := tmp)) | obtain ⟨rfl, Fi, hm1, hm2, hm3, Ni, ok, hrv, hki, hlen15, hod, hkT, htold, hdj, hcA⟩ := tmp)) | obtain ⟨hb, rfl, Fi, hm1, hm2, hm3, Ni, ok, hrv, hki, hlen15, hod, hkT, htold, hdj, hcA⟩ := tmp)) | obtain ⟨ha, hb, rfl, Fi, hm1, hm2, hm3, Ni, ok, hrv, hki, hlen15, hod, hkT, htold, hdj, hcA⟩ := tmp)) | obtain ⟨rfl, ha, hb, rfl, Fi, hm1, hm2, hm3, Ni, ok, hrv, hki, hlen15, hod, hkT, htold, hdj, hcA⟩ := tmp)) | obtain ⟨b, rfl, ha, hb, rfl, Fi, hm1, hm2, hm3, Ni, ok, hrv, hki, hlen15, hod, hkT, htold, hdj, hcA⟩ := tmp)) | obtain ⟨a, b, rfl, ha, hb, rfl, Fi, hm1, hm2, hm3, Ni, ok, hrv, hki, hlen15, hod, hkT, htold, hdj, hcA⟩ := tmp)) | obtain ⟨tk, a, b, rfl, ha, hb, rfl, Fi, hm1, hm2, hm3, Ni, ok, hrv, hki, hlen15, hod, hkT, htold, hdj, hcA⟩ := tmp)) | obtain ⟨h, tk, a, b, rfl, ha, hb, rfl, Fi, hm1, hm2, hm3, Ni, ok, hrv, hki, hlen15, hod, hkT, htold, hdj, hcA⟩ := tmp)) | obtain ⟨m, h, tk, a, b, rfl, ha, hb, rfl, Fi, hm1, hm2, hm3, Ni, ok, hrv, hki, hlen15, hod, hkT, htold, hdj, hcA⟩ := tmp)) | obtain ⟨tl, m, h, tk, a, b, rfl, ha, hb, rfl, Fi, hm1, hm2, hm3, Ni, ok, hrv, hki, hlen15, hod, hkT, htold, hdj, hcA⟩ := tmp)) | obtain ⟨od, tl, m, h, tk, a, b, rfl, ha, hb, rfl, Fi, hm1, hm2, hm3, Ni, ok, hrv, hki, hlen15, hod, hkT, htold, hdj, hcA⟩ := tmp)) | obtain ⟨kvs, od, tl, m, h, tk, a, b, rfl, ha, hb, rfl, Fi, hm1, hm2, hm3, Ni, ok, hrv, hki, hlen15, hod, hkT, htold, hdj, hcA⟩ := tmp)) | obtain ⟨tb, kvs, od, tl, m, h, tk, a, b, rfl, ha, hb, rfl, Fi, hm1, hm2, hm3, Ni, ok, hrv, hki, hlen15, hod, hkT, htold, hdj, hcA⟩ := tmp)) | obtain ⟨ta, tb, kvs, od, tl, m, h, tk, a, b, rfl, ha, hb, rfl, Fi, hm1, hm2, hm3, Ni, ok, hrv, hki, hlen15, hod, hkT, htold, hdj, hcA⟩ := tmp)) | obtain ⟨on, ta, tb, kvs, od, tl, m, h, tk, a, b, rfl, ha, hb, rfl, Fi, hm1, hm2, hm3, Ni, ok, hrv, hki, hlen15, hod, hkT, htold, hdj, hcA⟩ := tmp)) | obtain ⟨l, on, ta, tb, kvs, od, tl, m, h, tk, a, b, rfl, ha, hb, rfl, Fi, hm1, hm2, hm3, Ni, ok, hrv, hki, hlen15, hod, hkT, htold, hdj, hcA⟩ := tmp)) | obtain ⟨rc, l, on, ta, tb, kvs, od, tl, m, h, tk, a, b, rfl, ha, hb, rfl, Fi, hm1, hm2, hm3, Ni, ok, hrv, hki, hlen15, hod, hkT, htold, hdj, hcA⟩ := tmp)) | obtain ⟨rvs, rc, l, on, ta, tb, kvs, od, tl, m, h, tk, a, b, rfl, ha, hb, rfl, Fi, hm1, hm2, hm3, Ni, ok, hrv, hki, hlen15, hod, hkT, htold, hdj, hcA⟩ := tmp)) | obtain ⟨rl, rvs, rc, l, on, ta, tb, kvs, od, tl, m, h, tk, a, b, rfl, ha, hb, rfl, Fi, hm1, hm2, hm3, Ni, ok, hrv, hki, hlen15, hod, hkT, htold, hdj, hcA⟩ := tmp)) | obtain ⟨T', rl, rvs, rc, l, on, ta, tb, kvs, od, tl, m, h, tk, a, b, rfl, ha, hb, rfl, Fi, hm1, hm2, hm3, Ni, ok, hrv, hki, hlen15, hod, hkT, htold, hdj, hcA⟩ := hJ9)
      (first | ((first | refine Exists.elim (loop_facts ok hki hlen15) ?_ | refine conj_elim (loop_facts ok hki hlen15) ?_); rintro (lf1) tmp; (first | ((first | with_reducible refine Exists.elim tmp ?_ | with_reducible refine conj_elim tmp ?_); (try clear tmp); rintro (lf2) tmp; (first | ((first | with_reducible refine Exists.elim tmp ?_ | with_reducible refine conj_elim tmp ?_); (try clear tmp); rintro (lf3) (lf4)) | obtain ⟨lf3, lf4⟩ := tmp)) | obtain ⟨lf2, lf3, lf4⟩ := tmp)) | obtain ⟨lf1, lf2, lf3, lf4⟩ := loop_facts ok hki hlen15)
      have hR5 : T'.length + rl.length ≤ 5 := by
        have := small5 hki.facts.1 (fun r hr => by
          rcases List.mem_append.mp hr with hr | hr
          · exact hki.t5 r hr
          · exact ⟨(hki.facts.2 r hr).1, (hki.facts.2 r hr).2.1⟩)
        simpa using this
      have hrvl := hrv.length
      (repeat' (fail_if_success with_reducible first | refine zzW ?_ | refine zzF ?_ | refine zzC ?_ | refine zzL ?_ | refine zzD ?_); first | k_unfold; try dsimp only | walk1 | dsimp only; walk1 | leave1; try dsimp only)
      rename Fr _ _ _ _ => F₁
      rename News _ _ _ _ => N₁
      refine call_use B F₁ N₁ XB TB KD ((D, listOf rvs.toArray rc) :: (pA, instObj 153 dA) :: (dA, planD w t1 t2 t3 t4 nA (.ref D) a ta b tb) :: ((nA, on) :: (ndLed l ++ ((cA, od) :: (L + 1, oc') :: (tl ++ fz))))) [] (fun p hp => by
        exact sub_at re13 hp) (by k_allIn) (by simp) ?_
      intro gg SS back _ _
      refine active_spec SS (by omega) (by dsimp only [arnd]; omega) (by dsimp only [arnd]; omega) ?_
      intro h₂ tk₂ Dn
      (first | ((first | refine Exists.elim (back _ _ Dn) ?_ | refine conj_elim (back _ _ Dn) ?_); rintro (F₂) tmp; (first | ((first | with_reducible refine Exists.elim tmp ?_ | with_reducible refine conj_elim tmp ?_); (try clear tmp); rintro (N₂) (_)) | obtain ⟨N₂, _⟩ := tmp)) | obtain ⟨F₂, N₂, _⟩ := back _ _ Dn)
      clear F₁ N₁ SS back Dn
      (try clear Fi Ni)
      rw [List.append_nil] at N₂
      have N₃ : News g₂ L h₂ ((cA, od) :: (L + 1, oc') :: (D, listOf rvs.toArray rc) :: (nA, on) :: (pA, instObj 153 dA) :: (dA, planD w t1 t2 t3 t4 nA (.ref D) a ta b tb) :: (ndLed l ++ (tl ++ fz))) := fun p hp => N₂ p (by
        exact sub_at re14 hp)
      clear N₂
      have hab : decide (b < a) = false := decide_eq_false (by omega)
      rw [hab, Bool.false_or]
      dsimp only
      by_cases hrl0 : rl = []
      · have hr0 : rvs.isEmpty = true := by
          rw [hrl0] at hrvl
          rw [List.eq_nil_of_length_eq_zero hrvl]; rfl
        rw [hr0]
        (repeat' (fail_if_success with_reducible first | refine zzW ?_ | refine zzF ?_ | refine zzC ?_ | refine zzL ?_ | refine zzD ?_); first | k_unfold; try dsimp only | walk1 | dsimp only; walk1 | leave1; try dsimp only)
        rename Fr _ _ _ _ => Fz
        rename News _ _ _ _ => Nz
        rw [hrb] at Nz
        rw [hrl0] at hki
        refine ret g₂ _ cA kvs od tl T' _ _ 0 T₂ hod hkT hki.tn hki.allD htold loC (fun p hp => (hcA p hp).1) (done_of Fz Nz fun p hp => ?_)
        exact sub_at re15 hp
      · have hRl : 0 < rl.length := List.length_pos_iff.mpr hrl0
        have hr0 : rvs.isEmpty = false := by
          cases rvs with
          | nil => simp at hrvl; omega
          | cons v vs => rfl
        rw [hr0]
        have hRD : ∀ r ∈ rl, r ∈ keysP (textsP rs 5) := fun r hr => hki.inD r (List.mem_append_right _ hr)
        have hRF := hki.facts
        (repeat' (fail_if_success with_reducible first | refine zzW ?_ | refine zzF ?_ | refine zzC ?_ | refine zzL ?_ | refine zzD ?_); first | k_unfold; try dsimp only | walk1 | dsimp only; walk1 | leave1; try dsimp only)
        refine call_use B F₂ N₃ XB TB KD ((D, listOf rvs.toArray rc) :: (nA, on) :: (pA, instObj 153 dA) :: (dA, planD w t1 t2 t3 t4 nA (.ref D) a ta b tb) :: (ndLed l ++ [])) ((cA, od) :: (L + 1, oc') :: (tl ++ fz)) (fun p hp => by
          exact sub_at re16 hp) (fun p hp => by
          exact sub_at re17 hp) (fun p hp q hq => hdj p (by rw [List.append_nil] at hp; exact hp) q hq) ?_
        intro gg SS back _ _
        refine ready_spec SS ok lon hrv (fun k hk => lf3 k (hRF.2 k hk).1 (hRF.2 k hk).2.1) (by omega) (by omega) (by dsimp only [arnd]; omega) (by dsimp only [arnd]; omega) ?_
        intro TA l₂ rc₂ ta₂ h₃ tk₃ ok₂ hpl₂ Dn
        (first | ((first | refine Exists.elim (back _ _ Dn) ?_ | refine conj_elim (back _ _ Dn) ?_); rintro (F₄) tmp; (first | ((first | with_reducible refine Exists.elim tmp ?_ | with_reducible refine conj_elim tmp ?_); (try clear tmp); rintro (N₄) (hne₄)) | obtain ⟨N₄, hne₄⟩ := tmp)) | obtain ⟨F₄, N₄, hne₄⟩ := back _ _ Dn)
        clear F₂ N₃ SS back Dn
        have ok₃ := NdOk.pop (a := [D, nA, pA, dA]) (r := []) ok₂
        (refine Exists.elim ((⟨_, rfl⟩) : ∃ FX, FX = (TA, { cls := .type "tuple", data := .seq rvs.toArray }) :: (D, listOf #[] rc₂) :: (nA, on) :: (pA, instObj 153 dA) :: (dA, planD w t1 t2 t3 t4 nA (.ref D) (a + rvs.length) ta₂ b tb) :: ndLed l₂) ?_; rintro (FX) (hFX))
        have hTA : (TA, { cls := .type "tuple", data := .seq rvs.toArray }) ∈ FX := hFX ▸ .head _
        have N₅ : News g₂ L h₃ ((cA, od) :: (L + 1, oc') :: (FX ++ (tl ++ fz))) := fun p hp => N₄ p (by
          rw [hFX] at hp
          exact sub_at re18 hp)
        have hdX : ∀ p ∈ FX, ∀ q ∈ (cA, od) :: (L + 1, oc') :: (tl ++ fz), @Ne Nat q.1 p.1 := fun p hp q hq => Ne.symm (hne₄ p (by
          rw [hFX] at hp
          exact sub_at re19 hp) q hq)
        clear N₄ hne₄
        dsimp only
        (repeat' (fail_if_success with_reducible first | refine zzW ?_ | refine zzF ?_ | refine zzC ?_ | refine zzL ?_ | refine zzD ?_); first | k_unfold; try dsimp only | walk1 | dsimp only; walk1 | leave1; try dsimp only)
        rename Fr _ _ _ _ => F₆
        rename News _ _ _ _ => N₆
        refine For_gen ?_
        (repeat' (fail_if_success with_reducible first | refine zzW ?_ | refine zzF ?_ | refine zzC ?_ | refine zzL ?_ | refine zzD ?_); first | k_unfold; try dsimp only | walk1 | dsimp only; walk1 | leave1; try dsimp only)
        refine piter_tuple F₆ N₆ (.tail _ (.tail _ (List.mem_append_left _ hTA))) ?_
        intro IT h₇ F₇ N₇ lIT
        have i1 : @LT.lt Nat _ cA IT := lIT _ (.head _)
        have i2 : @LT.lt Nat _ (L + 1) IT := lIT _ (.tail _ (.head _))
        have i3 : ∀ p ∈ FX, @LT.lt Nat _ p.1 IT := fun p hp => lIT _ (.tail _ (.tail _ (List.mem_append_left _ hp)))
        have i4 : ∀ p ∈ tl ++ fz, @LT.lt Nat _ p.1 IT := fun p hp => lIT _ (.tail _ (.tail _ (List.mem_append_right _ hp)))
        clear lIT F₆ N₆
        (try clear F₄)
        (try clear N₅)
        (try dsimp only)
        refine turns_tuple (items := rvs.toArray) (fun i g' m nw => All6 (g' = g₂) (m (Str.ofString "rules") = some (.ref rA)) (m (Str.ofString "plan") = some (.ref pA)) (m (Str.ofString "ring") = some (.bool rb)) (m (Str.ofString "ready") = some (.ref TA)) (Ex3 fun kvs od tl => All6 (od.IsDictOf (PySem.intKind P w) kvs) (kvs.map (·.1) = T' ++ rl.take i) (ToldIn rs (tl ++ fz) kvs) ((∀ p ∈ FX, ∀ q ∈ (cA, od) :: (L + 1, oc') :: (tl ++ fz), @Ne Nat q.1 p.1)) ((∀ p ∈ tl ++ fz, @Ne Nat p.1 cA ∧ @Ne Nat p.1 (L + 1) ∧ @Ne Nat p.1 IT)) (nw = (cA, od) :: (L + 1, oc') :: (FX ++ (tl ++ fz))))) rfl ?_ F₇ N₇ ⟨rfl, by (repeat (first | with_reducible assumption | refine Eq.trans (if_pos rfl) ?_; exact rfl | refine Eq.trans (if_neg (by decide)) ?_)), by (repeat (first | with_reducible assumption | refine Eq.trans (if_pos rfl) ?_; exact rfl | refine Eq.trans (if_neg (by decide)) ?_)), by (repeat (first | with_reducible assumption | refine Eq.trans (if_pos rfl) ?_; exact rfl | refine Eq.trans (if_neg (by decide)) ?_)), by (repeat (first | with_reducible assumption | refine Eq.trans (if_pos rfl) ?_; exact rfl | refine Eq.trans (if_neg (by decide)) ?_)), kvs, od, tl, hod, by rw [hkT]; simp, htold, hdX, fun p hp => ⟨(hcA p hp).1, (hcA p hp).2, Nat.ne_of_lt (i4 p hp)⟩, rfl⟩ (Nat.zero_le _) ?_ ?_
        · rintro i g' m nw h ⟨rfl, _, _, _, _, kvs, od, tl, _, _, _, _, hof, rfl⟩ _ Nz
          refine ⟨⟨_, (Nz _ (.tail _ (.tail _ (List.mem_append_left _ hTA)))).1, rfl, _, rfl⟩, ?_⟩
          intro p hp
          simp only [List.mem_cons, List.mem_append] at hp
          rcases hp with rfl | rfl | hp | hp
          · exact Nat.ne_of_lt i1
          · exact Nat.ne_of_lt i2
          · exact Nat.ne_of_lt (i3 p hp)
          · exact (hof p (List.mem_append.mpr hp)).2.2
        · clear F₇ N₇ hod hkT htold hdX hdj hcA i4
          rintro i g' m nw h tk v hJ9 hv Fi Ni hneI Q3 hQ3
          (first | ((first | with_reducible refine Exists.elim hJ9 ?_ | with_reducible refine conj_elim hJ9 ?_); (try clear hJ9); rintro (rfl) tmp; (first | ((first | with_reducible refine Exists.elim tmp ?_ | with_reducible refine conj_elim tmp ?_); (try clear tmp); rintro (hm1) tmp; (first | ((first | with_reducible refine Exists.elim tmp ?_ | with_reducible refine conj_elim tmp ?_); (try clear tmp); rintro (hm2) tmp; (first | ((first | with_reducible refine Exists.elim tmp ?_ | with_reducible refine conj_elim tmp ?_); (try clear tmp); rintro (hm3) tmp; (first | ((first | with_reducible refine Exists.elim tmp ?_ | with_reducible refine conj_elim tmp ?_); (try clear tmp); rintro (hm4) tmp; (first | ((first | with_reducible refine Exists.elim tmp ?_ | with_reducible refine conj_elim tmp ?_); (try clear tmp); rintro (kvs) tmp; (first | ((first | with_reducible refine Exists.elim tmp ?_ | with_reducible refine conj_elim tmp ?_); (try clear tmp); rintro (od) tmp; (first | ((first | with_reducible refine Exists.elim tmp ?_ | with_reducible refine conj_elim tmp ?_); (try clear tmp); rintro (tl) tmp; (first | ((first | with_reducible refine Exists.elim tmp ?_ | with_reducible refine conj_elim tmp ?_); (try clear tmp); rintro (hod) tmp; (first | ((first | with_reducible refine Exists.elim tmp ?_ | with_reducible refine conj_elim tmp ?_); (try clear tmp); rintro (hkT) tmp; (first | ((first | with_reducible refine Exists.elim tmp ?_ | with_reducible refine conj_elim tmp ?_); (try clear tmp); rintro (htold) tmp; (first | ((first | with_reducible refine Exists.elim tmp ?_ | with_reducible refine conj_elim tmp ?_); (try clear tmp); rintro (hdX) tmp; (first | ((first | with_reducible refine Exists.elim tmp ?_ | with_reducible refine conj_elim tmp ?_); (try clear tmp); rintro (hof) (rfl)) | obtain ⟨hof, rfl⟩ := tmp)) | obtain ⟨hdX, hof, rfl⟩ := tmp)) | obtain ⟨htold, hdX, hof, rfl⟩ := tmp)) | obtain ⟨hkT, htold, hdX, hof, rfl⟩ := tmp)) | obtain ⟨hod, hkT, htold, hdX, hof, rfl⟩ := tmp)) | obtain ⟨tl, hod, hkT, htold, hdX, hof, rfl⟩ := tmp)) | obtain ⟨od, tl, hod, hkT, htold, hdX, hof, rfl⟩ := tmp)) | obtain ⟨kvs, od, tl, hod, hkT, htold, hdX, hof, rfl⟩ := tmp)) | obtain ⟨hm4, kvs, od, tl, hod, hkT, htold, hdX, hof, rfl⟩ := tmp)) | obtain ⟨hm3, hm4, kvs, od, tl, hod, hkT, htold, hdX, hof, rfl⟩ := tmp)) | obtain ⟨hm2, hm3, hm4, kvs, od, tl, hod, hkT, htold, hdX, hof, rfl⟩ := tmp)) | obtain ⟨hm1, hm2, hm3, hm4, kvs, od, tl, hod, hkT, htold, hdX, hof, rfl⟩ := tmp)) | obtain ⟨rfl, hm1, hm2, hm3, hm4, kvs, od, tl, hod, hkT, htold, hdX, hof, rfl⟩ := hJ9)
          (first | ((first | refine Exists.elim (ints_get hrv (by simpa using hv)) ?_ | refine conj_elim (ints_get hrv (by simpa using hv)) ?_); rintro (pk) tmp; (first | ((first | with_reducible refine Exists.elim tmp ?_ | with_reducible refine conj_elim tmp ?_); (try clear tmp); rintro (pt) tmp; (first | ((first | with_reducible refine Exists.elim tmp ?_ | with_reducible refine conj_elim tmp ?_); (try clear tmp); rintro (rfl) (hpk)) | obtain ⟨rfl, hpk⟩ := tmp)) | obtain ⟨pt, rfl, hpk⟩ := tmp)) | obtain ⟨pk, pt, rfl, hpk⟩ := ints_get hrv (by simpa using hv))
          have hkR : pk ∈ rl := List.mem_of_getElem? hpk
          have hkD := hRD pk hkR
          (first | ((first | refine Exists.elim (hRF.2 pk hkR) ?_ | refine conj_elim (hRF.2 pk hkR) ?_); rintro (k0) tmp; (first | ((first | with_reducible refine Exists.elim tmp ?_ | with_reducible refine conj_elim tmp ?_); (try clear tmp); rintro (k5) (hrefs)) | obtain ⟨k5, hrefs⟩ := tmp)) | obtain ⟨k0, k5, hrefs⟩ := hRF.2 pk hkR)
          have hil : i < rl.length := (List.getElem?_eq_some_iff.mp hpk).1
          (refine Exists.elim ((⟨rs[pk.toNat]'(by omega), List.getElem?_eq_getElem (by omega)⟩) : ∃ parts, rs[pk.toNat]? = some parts) ?_; rintro (parts) (hparts))
          (first | ((first | refine Exists.elim (hr.get hparts) ?_ | refine conj_elim (hr.get hparts) ?_); rintro (prA) tmp; (first | ((first | with_reducible refine Exists.elim tmp ?_ | with_reducible refine conj_elim tmp ?_); (try clear tmp); rintro (pws) tmp; (first | ((first | with_reducible refine Exists.elim tmp ?_ | with_reducible refine conj_elim tmp ?_); (try clear tmp); rintro (pc) tmp; (first | ((first | with_reducible refine Exists.elim tmp ?_ | with_reducible refine conj_elim tmp ?_); (try clear tmp); rintro (hpv) tmp; (first | ((first | with_reducible refine Exists.elim tmp ?_ | with_reducible refine conj_elim tmp ?_); (try clear tmp); rintro (hpm) (hpi)) | obtain ⟨hpm, hpi⟩ := tmp)) | obtain ⟨hpv, hpm, hpi⟩ := tmp)) | obtain ⟨pc, hpv, hpm, hpi⟩ := tmp)) | obtain ⟨pws, pc, hpv, hpm, hpi⟩ := tmp)) | obtain ⟨prA, pws, pc, hpv, hpm, hpi⟩ := hr.get hparts)
          have hrd : rs.getD pk.toNat [] = parts := by simp [List.getD, hparts]
          have hp3 : pws.length ≤ 3 := by have := hpi.length; have := h3 _ (List.mem_of_getElem? hparts); omega
          (repeat' (fail_if_success with_reducible first | refine zzW ?_ | refine zzF ?_ | refine zzC ?_ | refine zzL ?_ | refine zzD ?_); first | k_unfold; try dsimp only | walk1 | dsimp only; walk1 | leave1; try dsimp only)
          rename Fr _ _ _ _ => Fp
          rename News _ _ _ _ => N₈
          (refine Exists.elim ((⟨_, Fp, by (repeat (first | with_reducible assumption | refine Eq.trans (if_pos rfl) ?_; exact rfl | refine Eq.trans (if_neg (by decide)) ?_)), by (repeat (first | with_reducible assumption | refine Eq.trans (if_pos rfl) ?_; exact rfl | refine Eq.trans (if_neg (by decide)) ?_)), by (repeat (first | with_reducible assumption | refine Eq.trans (if_pos rfl) ?_; exact rfl | refine Eq.trans (if_neg (by decide)) ?_)), by (repeat (first | with_reducible assumption | refine Eq.trans (if_pos rfl) ?_; exact rfl | refine Eq.trans (if_neg (by decide)) ?_)), by (repeat (first | with_reducible assumption | refine Eq.trans (if_pos rfl) ?_; exact rfl | refine Eq.trans (if_neg (by decide)) ?_))⟩) : ∃ mm, Fr g' L _ mm ∧ mm (Str.ofString "rules") = some (.ref rA) ∧ mm (Str.ofString "plan") = some (.ref pA) ∧ mm (Str.ofString "ring") = some (.bool rb) ∧ mm (Str.ofString "ready") = some (.ref TA) ∧ mm (Str.ofString "rule") = some (.int pk pt)) ?_; rintro (mm) tmp; (first | ((first | with_reducible refine Exists.elim tmp ?_ | with_reducible refine conj_elim tmp ?_); (try clear tmp); rintro (F₈) tmp; (first | ((first | with_reducible refine Exists.elim tmp ?_ | with_reducible refine conj_elim tmp ?_); (try clear tmp); rintro (hn1) tmp; (first | ((first | with_reducible refine Exists.elim tmp ?_ | with_reducible refine conj_elim tmp ?_); (try clear tmp); rintro (hn2) tmp; (first | ((first | with_reducible refine Exists.elim tmp ?_ | with_reducible refine conj_elim tmp ?_); (try clear tmp); rintro (hn3) tmp; (first | ((first | with_reducible refine Exists.elim tmp ?_ | with_reducible refine conj_elim tmp ?_); (try clear tmp); rintro (hn4) (hn5)) | obtain ⟨hn4, hn5⟩ := tmp)) | obtain ⟨hn3, hn4, hn5⟩ := tmp)) | obtain ⟨hn2, hn3, hn4, hn5⟩ := tmp)) | obtain ⟨hn1, hn2, hn3, hn4, hn5⟩ := tmp)) | obtain ⟨F₈, hn1, hn2, hn3, hn4, hn5⟩ := tmp))
          clear Fp hm1 hm2 hm3 hm4
          (try clear Fi)
          (try clear Ni)
          have hLc : @Ne Nat (L + 1) cA := by omega
          have mfz : ∀ p ∈ tl ++ fz, ∀ nl : List (Addr × Obj), p ∈ (IT, tiObj TA (i + 1)) :: (cA, od) :: (L + 1, oc') :: (nl ++ (FX ++ (tl ++ fz))) := fun p hp nl => .tail _ (.tail _ (.tail _ (List.mem_append_right _ (List.mem_append_right _ hp))))
          have mrA : (rA, listOf vs.toArray k) ∈ tl ++ fz := List.mem_append_right _ hrA
          have mpA : (prA, listOf pws.toArray pc) ∈ tl ++ fz := List.mem_append_right _ hpm
          refine LCg.ListComp_U (cl := [(Str.ofString "told", L + 1)]) F₈ rfl (by decide) rfl (by decide) rfl ?_
          (repeat' (fail_if_success with_reducible first | refine zzW ?_ | refine zzF ?_ | refine zzC ?_ | refine zzL ?_ | refine zzD ?_); first | k_unfold; try dsimp only | walk1 | dsimp only; walk1 | leave1; try dsimp only)
          refine item_at N₈ (mfz _ mrA []) (by omega) (by omega) (by simpa using hpv) ?_
          refine LCg.CompSrc.ledger rfl F₈ N₈ (mfz _ mpA []) (by rw [sizeLine_eq]; simp; omega) fun gc => ?_
          refine compU_ind (fun c ys nw => ∃ nl, All3 (nw = (IT, tiObj TA (i + 1)) :: (cA, od) :: (L + 1, oc') :: (nl ++ (FX ++ (tl ++ fz)))) (PairsAll (nl ++ (tl ++ fz)) ys ((parts.take c).map (partP rs))) (∀ p ∈ nl, @Ne Nat p.1 cA ∧ @Ne Nat p.1 (L + 1) ∧ @Ne Nat p.1 IT ∧ ∀ q ∈ FX, @Ne Nat p.1 q.1)) pws.toArray.size ?_ ?_ _ 0 [] _ (Nat.zero_add _) ⟨[], rfl, .nil, by simp⟩
          · rintro c ys nw hc hJ9 v Ic oI C oC D' m₂ hh tk' E' hv hC hmx F₁₂ N₁₂ o3 ne Q4 hQ4
            (first | ((first | with_reducible refine Exists.elim hJ9 ?_ | with_reducible refine conj_elim hJ9 ?_); (try clear hJ9); rintro (nl) tmp; (first | ((first | with_reducible refine Exists.elim tmp ?_ | with_reducible refine conj_elim tmp ?_); (try clear tmp); rintro (rfl) tmp; (first | ((first | with_reducible refine Exists.elim tmp ?_ | with_reducible refine conj_elim tmp ?_); (try clear tmp); rintro (hys) (hnl)) | obtain ⟨hys, hnl⟩ := tmp)) | obtain ⟨rfl, hys, hnl⟩ := tmp)) | obtain ⟨nl, rfl, hys, hnl⟩ := hJ9)
            (first | ((first | refine Exists.elim (ints_get hpi (by simpa using hv)) ?_ | refine conj_elim (ints_get hpi (by simpa using hv)) ?_); rintro (pn) tmp; (first | ((first | with_reducible refine Exists.elim tmp ?_ | with_reducible refine conj_elim tmp ?_); (try clear tmp); rintro (ptk) tmp; (first | ((first | with_reducible refine Exists.elim tmp ?_ | with_reducible refine conj_elim tmp ?_); (try clear tmp); rintro (rfl) (hpn)) | obtain ⟨rfl, hpn⟩ := tmp)) | obtain ⟨ptk, rfl, hpn⟩ := tmp)) | obtain ⟨pn, ptk, rfl, hpn⟩ := ints_get hpi (by simpa using hv))
            clear F₈ N₈
            have htake : (parts.take (c + 1)).map (partP rs) = (parts.take c).map (partP rs) ++ [partP rs pn] := by rw [List.take_add_one, hpn]; simp
            (repeat' (fail_if_success with_reducible first | refine zzW ?_ | refine zzF ?_ | refine zzC ?_ | refine zzL ?_ | refine zzD ?_); first | k_unfold; try dsimp only | walk1 | dsimp only; walk1 | leave1; try dsimp only)
            have o3' := LCg.Off3.mem o3
            have hcI := o3' (cA, od) (.tail _ (.head _))
            refine call_use B F₁₂ N₁₂ XB TB KD [(cA, od)] ((Ic, oI) :: (C, oC) :: (D', LCg.lst ys) :: (IT, tiObj TA (i + 1)) :: (L + 1, oc') :: (nl ++ (FX ++ (tl ++ fz)))) (by k_allIn) (fun p hp => by
              exact sub_at re20 hp) (fun p hp q hq => by
              rw [List.mem_singleton.mp hp]
              simp only [List.mem_cons, List.mem_append] at hq
              rcases hq with rfl | rfl | rfl | rfl | rfl | hq | hq | hq
              · exact Ne.symm hcI.1
              · exact Ne.symm hcI.2.1
              · exact Ne.symm hcI.2.2
              · exact Nat.ne_of_gt i1
              · exact hLc
              · exact (hnl q hq).1
              · exact Ne.symm (hdX q hq (cA, od) (.head _))
              · exact (hof q (List.mem_append.mpr hq)).1) ?_
            intro gg SS back _ _
            have fin : ∀ (new : List (Addr × Obj)) h', Done gg h' (new ++ [(cA, od)]) → (∀ p ∈ new, @Ne Nat p.1 cA) →
                Fr g' L h' mm ∧ News g' L h' ((Ic, oI) :: (C, oC) :: (D', LCg.lst ys) :: (IT, tiObj TA (i + 1)) :: (cA, od) :: (L + 1, oc') :: ((new ++ nl) ++ (FX ++ (tl ++ fz)))) ∧ LCg.Off3 Ic C D' ((IT, tiObj TA (i + 1)) :: (cA, od) :: (L + 1, oc') :: ((new ++ nl) ++ (FX ++ (tl ++ fz)))) ∧
                ∀ p ∈ new ++ nl, @Ne Nat p.1 cA ∧ @Ne Nat p.1 (L + 1) ∧ @Ne Nat p.1 IT ∧ ∀ q ∈ FX, @Ne Nat p.1 q.1 := by
              intro new h' Dn hc
              (first | ((first | refine Exists.elim (back _ _ Dn) ?_ | refine conj_elim (back _ _ Dn) ?_); rintro (F') tmp; (first | ((first | with_reducible refine Exists.elim tmp ?_ | with_reducible refine conj_elim tmp ?_); (try clear tmp); rintro (N') (hne')) | obtain ⟨N', hne'⟩ := tmp)) | obtain ⟨F', N', hne'⟩ := back _ _ Dn)
              refine ⟨F', fun p hp => N' p ?_, LCg.Off3.of fun p hp => ?_, fun p hp => ?_⟩
              · exact sub_at re21 hp
              · by_cases hpn' : p ∈ new
                · have z := hne' p (List.mem_append_left _ hpn')
                  exact ⟨z _ (.head _), z _ (.tail _ (.head _)), z _ (.tail _ (.tail _ (.head _)))⟩
                · refine o3' p ?_
                  simp only [List.mem_cons, List.mem_append] at hp ⊢
                  rcases hp with hp | hp | hp | (hp | hp) | hp | hp | hp
                  · simp only [hp, true_or, or_true]
                  · simp only [hp, true_or, or_true]
                  · simp only [hp, true_or, or_true]
                  · exact absurd hp hpn'
                  · simp only [hp, true_or, or_true]
                  · simp only [hp, true_or, or_true]
                  · simp only [hp, true_or, or_true]
                  · simp only [hp, true_or, or_true]
              · rcases List.mem_append.mp hp with hp | hp
                · have z := hne' p (List.mem_append_left _ hp)
                  exact ⟨hc p hp, z _ (.tail _ (.tail _ (.tail _ (.tail _ (.head _))))), z _ (.tail _ (.tail _ (.tail _ (.head _)))), fun q hq => z q (.tail _ (.tail _ (.tail _ (.tail _ (.tail _ (List.mem_append_right _ (List.mem_append_left _ hq)))))))⟩
                · exact hnl p hp
            clear F₁₂ N₁₂
            refine pairs_spec SS hod (by dsimp only [arnd]; omega) (by dsimp only [arnd]; omega) (fun hn => ?_) (fun h0 hq a t k x y h' tk' Dn => ?_) (fun h0 hq a t u k x y x' y' h' tk' Dn => ?_)
            · obtain ⟨v, hv1, hv2⟩ := valueAt_of (kvs := kvs) (k := -1 - pn) (by
                rw [hkT]
                refine List.mem_append_left _ (hrefs _ ?_)
                unfold rfR
                rw [hrd]
                exact mem_refsOf.mpr ⟨pn, List.mem_of_getElem? hpn, hn, rfl⟩)
              refine ⟨v, hv1, fun h' tk' Dn => ?_⟩
              (first | ((first | refine Exists.elim (fin [] _ Dn (by simp)) ?_ | refine conj_elim (fin [] _ Dn (by simp)) ?_); rintro (F') tmp; (first | ((first | with_reducible refine Exists.elim tmp ?_ | with_reducible refine conj_elim tmp ?_); (try clear tmp); rintro (N') tmp; (first | ((first | with_reducible refine Exists.elim tmp ?_ | with_reducible refine conj_elim tmp ?_); (try clear tmp); rintro (O') (M')) | obtain ⟨O', M'⟩ := tmp)) | obtain ⟨N', O', M'⟩ := tmp)) | obtain ⟨F', N', O', M'⟩ := fin [] _ Dn (by simp))
              dsimp only
              refine hQ4 _ _ ?_
              refine LCg.CompEnd.intro F' N' _ (fun p hp => hp) O' (.inr ⟨_, mfz _ mpA _, rfl, _, rfl⟩) ⟨nl, rfl, ?_, hnl⟩
              rw [htake]
              refine hys.snoc ?_
              unfold partP
              rw [if_pos hn]
              exact (htold _ _ hv2).mono fun p hp => List.mem_append_right _ hp
            · (first | ((first | refine Exists.elim (back _ _ Dn) ?_ | refine conj_elim (back _ _ Dn) ?_); rintro (F') tmp; (first | ((first | with_reducible refine Exists.elim tmp ?_ | with_reducible refine conj_elim tmp ?_); (try clear tmp); rintro (N') (_)) | obtain ⟨N', _⟩ := tmp)) | obtain ⟨F', N', _⟩ := back _ _ Dn)
              have hz : ∀ p ∈ [(a, listOf #[Value.ref t] k), (t, tup2 (pn % 64) x 1 y)], @Ne Nat p.1 cA := List.forall_mem_cons.mpr ⟨ne_obj N' (.head _) (.tail _ (.tail _ (.head _))) (dict_ne hod), List.forall_mem_cons.mpr ⟨ne_obj N' (.tail _ (.head _)) (.tail _ (.tail _ (.head _))) (dict_ne hod), by simp⟩⟩
              (first | ((first | refine Exists.elim (fin [(a, listOf #[Value.ref t] k), (t, tup2 (pn % 64) x 1 y)] _ Dn hz) ?_ | refine conj_elim (fin [(a, listOf #[Value.ref t] k), (t, tup2 (pn % 64) x 1 y)] _ Dn hz) ?_); rintro (F') tmp; (first | ((first | with_reducible refine Exists.elim tmp ?_ | with_reducible refine conj_elim tmp ?_); (try clear tmp); rintro (N') tmp; (first | ((first | with_reducible refine Exists.elim tmp ?_ | with_reducible refine conj_elim tmp ?_); (try clear tmp); rintro (O') (M')) | obtain ⟨O', M'⟩ := tmp)) | obtain ⟨N', O', M'⟩ := tmp)) | obtain ⟨F', N', O', M'⟩ := fin [(a, listOf #[Value.ref t] k), (t, tup2 (pn % 64) x 1 y)] _ Dn hz)
              dsimp only
              refine hQ4 _ _ ?_
              refine LCg.CompEnd.intro F' N' _ (fun p hp => hp) O' (.inr ⟨_, mfz _ mpA _, rfl, _, rfl⟩) ⟨[(a, listOf #[Value.ref t] k), (t, tup2 (pn % 64) x 1 y)] ++ nl, rfl, ?_, M'⟩
              rw [htake]
              refine PairsAll.snoc (hys.mono fun p hp => ?_) ?_
              · rw [List.append_assoc]; exact List.mem_append_right _ hp
              unfold partP octP
              rw [if_neg (by omega), if_pos hq]
              exact ⟨a, [.ref t], k, rfl, .head _, .cons (.tail _ (.head _)) .nil⟩
            · (first | ((first | refine Exists.elim (back _ _ Dn) ?_ | refine conj_elim (back _ _ Dn) ?_); rintro (F') tmp; (first | ((first | with_reducible refine Exists.elim tmp ?_ | with_reducible refine conj_elim tmp ?_); (try clear tmp); rintro (N') (_)) | obtain ⟨N', _⟩ := tmp)) | obtain ⟨F', N', _⟩ := back _ _ Dn)
              have hz : ∀ p ∈ [(a, listOf #[Value.ref t, Value.ref u] k), (t, tup2 (pn % 64) x 1 y), (u, tup2 0 x' 0 y')], @Ne Nat p.1 cA := List.forall_mem_cons.mpr ⟨ne_obj N' (.head _) (.tail _ (.tail _ (.tail _ (.head _)))) (dict_ne hod), List.forall_mem_cons.mpr ⟨ne_obj N' (.tail _ (.head _)) (.tail _ (.tail _ (.tail _ (.head _)))) (dict_ne hod), List.forall_mem_cons.mpr ⟨ne_obj N' (.tail _ (.tail _ (.head _))) (.tail _ (.tail _ (.tail _ (.head _)))) (dict_ne hod), by simp⟩⟩⟩
              (first | ((first | refine Exists.elim (fin [(a, listOf #[Value.ref t, Value.ref u] k), (t, tup2 (pn % 64) x 1 y), (u, tup2 0 x' 0 y')] _ Dn hz) ?_ | refine conj_elim (fin [(a, listOf #[Value.ref t, Value.ref u] k), (t, tup2 (pn % 64) x 1 y), (u, tup2 0 x' 0 y')] _ Dn hz) ?_); rintro (F') tmp; (first | ((first | with_reducible refine Exists.elim tmp ?_ | with_reducible refine conj_elim tmp ?_); (try clear tmp); rintro (N') tmp; (first | ((first | with_reducible refine Exists.elim tmp ?_ | with_reducible refine conj_elim tmp ?_); (try clear tmp); rintro (O') (M')) | obtain ⟨O', M'⟩ := tmp)) | obtain ⟨N', O', M'⟩ := tmp)) | obtain ⟨F', N', O', M'⟩ := fin [(a, listOf #[Value.ref t, Value.ref u] k), (t, tup2 (pn % 64) x 1 y), (u, tup2 0 x' 0 y')] _ Dn hz)
              dsimp only
              refine hQ4 _ _ ?_
              refine LCg.CompEnd.intro F' N' _ (fun p hp => hp) O' (.inr ⟨_, mfz _ mpA _, rfl, _, rfl⟩) ⟨[(a, listOf #[Value.ref t, Value.ref u] k), (t, tup2 (pn % 64) x 1 y), (u, tup2 0 x' 0 y')] ++ nl, rfl, ?_, M'⟩
              rw [htake]
              refine PairsAll.snoc (hys.mono fun p hp => ?_) ?_
              · rw [List.append_assoc]; exact List.mem_append_right _ hp
              unfold partP octP
              rw [if_neg (by omega), if_neg hq]
              exact ⟨a, [.ref t, .ref u], k, rfl, .head _, .cons (.tail _ (.head _)) (.cons (.tail _ (.tail _ (.head _))) .nil)⟩
          · have hplen : pws.toArray.size = parts.length := by have := hpi.length; simp [this]
            rintro ys nw ⟨nl, rfl, hys, hnl⟩
            rw [hplen, List.take_length] at hys
            clear F₈ N₈
            intro Dc h₉ tk₉ F₉ N₉ o1
            have o1' := off1_mem o1
            clear o1
            have hlt9 : ∀ p ∈ (Dc, LCg.lst ys) :: (IT, tiObj TA (i + 1)) :: (cA, od) :: (L + 1, oc') :: (nl ++ (FX ++ (tl ++ fz))), @LT.lt Nat _ p.1 h₉.objs.size := fun p hp => Heap.lt_size (N₉ p hp).1
            (repeat' (fail_if_success with_reducible first | refine zzW ?_ | refine zzF ?_ | refine zzC ?_ | refine zzL ?_ | refine zzD ?_); first | k_unfold; try dsimp only | walk1 | dsimp only; walk1 | leave1; try dsimp only)
            rename Addr => lz
            rename Fr _ _ _ _ => F₁₀
            rename News _ _ _ _ => N₁₀
            (try clear F₉ N₉)
            have hlz : @LT.lt Nat _ h₉.objs.size lz := by assumption
            generalize hrest : (cA, od) :: (L + 1, oc') :: (IT, tiObj TA (i + 1)) :: FX = rest
            have hrm : ∀ q ∈ rest, q ∈ (IT, tiObj TA (i + 1)) :: (cA, od) :: (L + 1, oc') :: (nl ++ (FX ++ (tl ++ fz))) := fun q hq => by
              rw [← hrest] at hq
              simp only [List.mem_cons, List.mem_append] at hq ⊢
              rcases hq with hq | hq | hq | hq <;> simp only [hq, true_or, or_true]
            have hdr : ∀ p ∈ nl ++ (tl ++ fz), ∀ q ∈ rest, @Ne Nat q.1 p.1 := fun p hp q hq => by
              rw [← hrest] at hq
              simp only [List.mem_cons] at hq
              rcases List.mem_append.mp hp with hp | hp
              · have z := hnl p hp
                rcases hq with rfl | rfl | rfl | hq
                · exact Ne.symm z.1
                · exact Ne.symm z.2.1
                · exact Ne.symm z.2.2.1
                · exact Ne.symm (z.2.2.2 q hq)
              · have z := hof p hp
                rcases hq with rfl | rfl | rfl | hq
                · exact Ne.symm z.1
                · exact Ne.symm z.2.1
                · exact Ne.symm z.2.2
                · exact Ne.symm (hdX q hq p (.tail _ (.tail _ hp)))
            refine call_use B F₁₀ N₁₀ XB TB KD ((Dc, listOf ys.toArray ys.length) :: ((lz, listOf #[Value.ref h₉.objs.size] 0) :: (h₉.objs.size, tup2 0 tk₉ 0 (tk₉ + 1)) :: (nl ++ (tl ++ fz)))) rest (fun p hp => by
              simp only [List.mem_cons, List.mem_append] at hp ⊢
              rcases hp with hp | hp | hp | hp | hp | hp
              · exact .inr (.inr (.inl hp))
              · exact .inl hp
              · exact .inr (.inl hp)
              · simp only [hp, true_or, or_true]
              · simp only [hp, true_or, or_true]
              · simp only [hp, true_or, or_true]) (fun p hp => .tail _ (.tail _ (.tail _ (hrm p hp)))) (fun p hp q hq => by
              rcases List.mem_cons.mp hp with rfl | hp
              · exact o1' q (hrm q hq)
              have hq9 := hlt9 q (.tail _ (hrm q hq))
              rcases List.mem_cons.mp hp with rfl | hp
              · exact Nat.ne_of_lt (Nat.lt_trans hq9 hlz)
              rcases List.mem_cons.mp hp with rfl | hp
              · exact Nat.ne_of_lt hq9
              · exact hdr p hp q hq) ?_
            intro gg SS back _ _
            have hD9 : @LT.lt Nat _ Dc h₉.objs.size := hlt9 _ (.head _)
            have hpl3 : (parts.map (partP rs)).length ≤ 3 := by have := hpi.length; simp; omega
            refine reduce_spec (N₀ := 0) (M := 243) SS (fun p hp => ?_) ⟨lz, [.ref h₉.objs.size], 0, rfl, .head _, .cons (.tail _ (.head _)) .nil⟩ (hys.mono fun p hp => .tail _ (.tail _ hp)) zero_wf (fun ps hps => by
              (first | ((first | refine Exists.elim (List.mem_map.mp hps) ?_ | refine conj_elim (List.mem_map.mp hps) ?_); rintro (p) tmp; (first | ((first | with_reducible refine Exists.elim tmp ?_ | with_reducible refine conj_elim tmp ?_); (try clear tmp); rintro (hp) (rfl)) | obtain ⟨hp, rfl⟩ := tmp)) | obtain ⟨p, hp, rfl⟩ := List.mem_map.mp hps)
              exact partP_wf h3 hkD p (by rw [hrd]; exact hp)) (by omega) (by dsimp only [arnd]; omega) (by dsimp only [arnd]; omega) ?_
            · rcases List.mem_cons.mp hp with rfl | hp
              · exact Nat.ne_of_gt (Nat.lt_trans hD9 hlz)
              rcases List.mem_cons.mp hp with rfl | hp
              · exact Nat.ne_of_gt hD9
              · refine o1' p ?_
                exact sub_at re22 hp
            intro v tl₂ h₁₁ tk₁₁ hv₂ Dn
            (first | ((first | refine Exists.elim (back _ _ Dn) ?_ | refine conj_elim (back _ _ Dn) ?_); rintro (F₁₁) tmp; (first | ((first | with_reducible refine Exists.elim tmp ?_ | with_reducible refine conj_elim tmp ?_); (try clear tmp); rintro (N₁₁) (hne₁₁)) | obtain ⟨N₁₁, hne₁₁⟩ := tmp)) | obtain ⟨F₁₁, N₁₁, hne₁₁⟩ := back _ _ Dn)
            clear F₁₀ N₁₀ SS back Dn
            rw [← hrd, tof_eq hkD] at hv₂
            have hsub : ∀ p, p ∈ tl₂ ++ (lz, listOf #[Value.ref h₉.objs.size] 0) :: (h₉.objs.size, tup2 0 tk₉ 0 (tk₉ + 1)) :: (nl ++ (tl ++ fz)) ↔ p ∈ (tl₂ ++ ((lz, listOf #[Value.ref h₉.objs.size] 0) :: (h₉.objs.size, tup2 0 tk₉ 0 (tk₉ + 1)) :: (nl ++ tl))) ++ fz := fun p => by simp
            generalize htl : tl₂ ++ ((lz, listOf #[Value.ref h₉.objs.size] 0) :: (h₉.objs.size, tup2 0 tk₉ 0 (tk₉ + 1)) :: (nl ++ tl)) = tl₃ at hsub
            have htold₃ : ToldIn rs (tl₃ ++ fz) kvs := htold.mono fun p hp => (hsub p).mp (List.mem_append_right _ (.tail _ (.tail _ (List.mem_append_right _ hp))))
            have hv₃ : PairsAt (tl₃ ++ fz) v (tof rs pk) := hv₂.mono fun p hp => (hsub p).mp hp
            have N₁₂ : News g' L h₁₁ ((cA, od) :: (L + 1, oc') :: (IT, tiObj TA (i + 1)) :: (FX ++ (tl₃ ++ fz))) := fun p hp => N₁₁ p (by
              rw [← hrest]
              simp only [List.mem_cons] at hp
              rcases hp with hp | hp | hp | hp
              · exact List.mem_append_right _ (by rw [hp]; exact .head _)
              · exact List.mem_append_right _ (by rw [hp]; exact .tail _ (.head _))
              · exact List.mem_append_right _ (by rw [hp]; exact .tail _ (.tail _ (.head _)))
              · rcases List.mem_append.mp hp with hp | hp
                · exact List.mem_append_right _ (.tail _ (.tail _ (.tail _ hp)))
                · exact List.mem_append_left _ ((hsub p).mpr hp))
            have hne₁₂ : ∀ p ∈ tl₃ ++ fz, @Ne Nat p.1 cA ∧ @Ne Nat p.1 (L + 1) ∧ @Ne Nat p.1 IT ∧ ∀ q ∈ FX, @Ne Nat p.1 q.1 := fun p hp => by
              have z := hne₁₁ p ((hsub p).mpr hp)
              rw [← hrest] at z
              exact ⟨z _ (.head _), z _ (.tail _ (.head _)), z _ (.tail _ (.tail _ (.head _))), fun q hq => z q (.tail _ (.tail _ (.tail _ hq)))⟩
            clear N₁₁ hne₁₁ hsub hv₂ htl hdr hrm hlt9 o1' hys hnl mfz mrA mpA
            (repeat' (fail_if_success with_reducible first | refine zzW ?_ | refine zzF ?_ | refine zzC ?_ | refine zzL ?_ | refine zzD ?_); first | k_unfold; try dsimp only | walk1 | dsimp only; walk1 | leave1; try dsimp only)
            rename Fr _ _ _ _ => F₁₃
            rename News _ _ _ _ => N₁₃
            have hpkn : pk ∉ kvs.map (·.1) := by
              rw [hkT]
              intro hm
              (first | ((first | refine Exists.elim (List.nodup_append.mp hRF.1) ?_ | refine conj_elim (List.nodup_append.mp hRF.1) ?_); rintro (n1) tmp; (first | ((first | with_reducible refine Exists.elim tmp ?_ | with_reducible refine conj_elim tmp ?_); (try clear tmp); rintro (n2) (n3)) | obtain ⟨n2, n3⟩ := tmp)) | obtain ⟨n1, n2, n3⟩ := List.nodup_append.mp hRF.1)
              rcases List.mem_append.mp hm with hm | hm
              · exact n3 pk hm pk hkR rfl
              · have hdp : pk ∈ rl.drop i := by
                  rw [List.drop_eq_getElem_cons hil, (List.getElem?_eq_some_iff.mp hpk).2]; exact .head _
                rw [← List.take_append_drop i rl] at n2
                exact (List.nodup_append.mp n2).2.2 pk hm pk hdp rfl
            have hstore : stored kvs pk v = kvs ++ [(pk, v)] := stored_none (valueAt_none hpkn)
            have hkl : kvs.length ≤ 5 := by
              have := congrArg List.length hkT
              simp at this
              omega
            refine kda_set (knd := PySem.intKind P w) F₁₃ N₁₃ (UpdF.head (fun p hp => ?_)) hod (intKind_is _ _ _ _) (by rw [sizeLine_eq]; omega) ?_
            · simp only [List.mem_cons, List.mem_append] at hp
              rcases hp with rfl | rfl | hp | hp
              · exact hLc
              · exact Nat.ne_of_gt i1
              · exact Ne.symm (hdX p hp (cA, od) (.head _))
              · exact (hne₁₂ p (List.mem_append.mpr hp)).1
            intro h₁₄ od' F₁₄ N₁₄ hod'
            clear F₁₃ N₁₃
            rw [hstore] at hod'
            (repeat' (fail_if_success with_reducible first | refine zzW ?_ | refine zzF ?_ | refine zzC ?_ | refine zzL ?_ | refine zzD ?_); first | k_unfold; try dsimp only | walk1 | dsimp only; walk1 | leave1; try dsimp only)
            rename Fr _ _ _ _ => Fz
            rename News _ _ _ _ => Nz
            refine hQ3 _ _ ?_
            refine ⟨_, _, _, _, (cA, od') :: (L + 1, oc') :: (FX ++ (tl₃ ++ fz)), rfl, Fz, fun p hp => Nz p (by
              exact sub_at re23 hp), rfl, by (repeat (first | with_reducible assumption | refine Eq.trans (if_pos rfl) ?_; exact rfl | refine Eq.trans (if_neg (by decide)) ?_)), by (repeat (first | with_reducible assumption | refine Eq.trans (if_pos rfl) ?_; exact rfl | refine Eq.trans (if_neg (by decide)) ?_)), by (repeat (first | with_reducible assumption | refine Eq.trans (if_pos rfl) ?_; exact rfl | refine Eq.trans (if_neg (by decide)) ?_)), by (repeat (first | with_reducible assumption | refine Eq.trans (if_pos rfl) ?_; exact rfl | refine Eq.trans (if_neg (by decide)) ?_)), kvs ++ [(pk, v)], od', tl₃, hod', ?_, htold₃.snoc hv₃, fun p hp q hq => ?_, fun p hp => ⟨(hne₁₂ p hp).1, (hne₁₂ p hp).2.1, (hne₁₂ p hp).2.2.1⟩, rfl⟩
            · rw [List.map_append, hkT, List.take_add_one, hpk]; simp
            · rcases List.mem_cons.mp hq with rfl | hq
              · exact hdX p hp (cA, od) (.head _)
              rcases List.mem_cons.mp hq with rfl | hq
              · exact hdX p hp _ (.tail _ (.head _))
              · exact (hne₁₂ q hq).2.2.2 p hp
        · clear F₇ N₇ hod hkT htold hdX hdj hcA i4
          rintro g' m nw h tk ⟨rfl, hm1, hm2, hm3, hm4, kvs, od, tl, hod, hkT, htold, hdX, hof, rfl⟩ Fi Ni
          have hsz : rvs.toArray.size = rl.length := by simp [hrvl]
          rw [hsz, List.take_length] at hkT
          have N₇ : News g' L h ((cA, od) :: (L + 1, oc') :: (TA, { cls := .type "tuple", data := .seq rvs.toArray }) :: (D, listOf #[] rc₂) :: (nA, on) :: (pA, instObj 153 dA) :: (dA, planD w t1 t2 t3 t4 nA (.ref D) (a + rvs.length) ta₂ b tb) :: (ndLed l₂ ++ (tl ++ fz))) := fun p hp => Ni p (by
            rw [hFX]
            exact sub_at re24 hp)
          clear Ni
          dsimp only
          (repeat' (fail_if_success with_reducible first | refine zzW ?_ | refine zzF ?_ | refine zzC ?_ | refine zzL ?_ | refine zzD ?_); first | k_unfold; try dsimp only | walk1 | dsimp only; walk1 | leave1; try dsimp only)
          refine StarMethod_ ?_
          (repeat' (fail_if_success with_reducible first | refine zzW ?_ | refine zzF ?_ | refine zzC ?_ | refine zzL ?_ | refine zzD ?_); first | k_unfold; try dsimp only | walk1 | dsimp only; walk1 | leave1; try dsimp only)
          refine callWith_MS (K := Mine.hd.heap_1 w.params) (f := 136) (self := .ref pA) (by k_is) ?_
          (repeat' (fail_if_success with_reducible first | refine zzW ?_ | refine zzF ?_ | refine zzC ?_ | refine zzL ?_ | refine zzD ?_); first | k_unfold; try dsimp only | walk1 | dsimp only; walk1 | leave1; try dsimp only)
          rename Fr _ _ _ _ => F₈
          rename News _ _ _ _ => N₈
          refine star_seq (ws := rvs) F₈ N₈ (.tail _ (.tail _ (.tail _ (.head _)))) rfl rfl (.inr rfl) (by simp) (by rw [sizeLine_eq]; simp; omega) ?_
          intro h₉ F₉ N₉
          clear F₈ N₈
          refine ⟨?_, ?_⟩
          · exact ⟨(N₉ (_, methodObj (.ref 136) (.ref pA)) (.head _)).1, X.keeps F₉.keep⟩
          refine call_meth N₉ (f := .ref 136) (self := .ref pA) (.head _) ?_
          refine code_use B F₉ N₉ XB TB KD ((D, listOf #[] rc₂) :: (nA, on) :: (pA, instObj 153 dA) :: (dA, planD w t1 t2 t3 t4 nA (.ref D) (a + rvs.length) ta₂ b tb) :: (ndLed l₂ ++ [])) ((cA, od) :: (L + 1, oc') :: (tl ++ fz)) (fun p hp => by
            exact sub_at re25 hp) (fun p hp => by
            exact sub_at re26 hp) (fun p hp q hq => hdX p (by
            rw [hFX]
            exact sub_at re27 hp) q hq) ?_
          intro gg SS back
          have hks₂ : ∀ r, 0 ≤ r → r < 5 → r ∈ l₂.map (·.k) := fun r h0 h5 => by
            rw [keys_of_pl, hpl₂, plOut_keys, ← keys_of_pl]
            exact lf3 r h0 h5
          have hfo := fold_plOut rl (l.map Nd.pl) (fun x hx => by rw [← keys_of_pl]; exact lf3 x (hRF.2 x hx).1 (hRF.2 x hx).2.1)
          have hlen₂ : ∀ j, (plSl (l₂.map Nd.pl) j).length ≤ 15 := fun j => by rw [hpl₂, hfo.1]; exact hlen15 j
          have hkd := hki.out
          rw [← hpl₂] at hkd
          have hin₂ : ∀ x ∈ l₂, ∀ k ∈ x.sl, k ∈ l₂.map (·.k) := fun x hx k hk => by
            have c := List.count_pos_iff.mpr hk
            rw [← slOf_of ok₃.keys hx, ← plSl_slOf, hkd.sl] at c
            by_cases q : 0 ≤ k ∧ k < 5
            · exact hks₂ k q.1 q.2
            · rw [if_neg q] at c; omega
          have hln₂ : ∀ x ∈ l₂, x.sl.length ≤ 15 := fun x hx => by
            rw [← slOf_of ok₃.keys hx, ← plSl_slOf]; exact hlen₂ _
          refine done_spec (rvs := []) (rl := []) (vs := rvs) (ks := rl) SS ok₃ lon .nil hrv (fun k hk => hks₂ k (hRF.2 k hk).1 (hRF.2 k hk).2.1) hin₂ (fun x hx => by have := hln₂ x hx; omega) (hkd.outs hki.gen hRF.1 hRF.2) (by simp) (by omega) (by dsimp only [arnd]; omega) (by dsimp only [arnd]; omega) ?_
          intro l₃ rvs₃ rc₃ tb₃ h₁₀ tk₁₀ ok₄ hfix hrv₃ hpl₃ Dn
          (first | ((first | refine Exists.elim (back _ _ Dn) ?_ | refine conj_elim (back _ _ Dn) ?_); rintro (F₁₀) tmp; (first | ((first | with_reducible refine Exists.elim tmp ?_ | with_reducible refine conj_elim tmp ?_); (try clear tmp); rintro (N₁₀) (hne₁₀)) | obtain ⟨N₁₀, hne₁₀⟩ := tmp)) | obtain ⟨F₁₀, N₁₀, hne₁₀⟩ := back _ _ Dn)
          clear F₉ N₉ SS back Dn
          have hkt := hki.turn
          rw [← hpl₂, ← hpl₃] at hkt
          (repeat' (fail_if_success with_reducible first | refine zzW ?_ | refine zzF ?_ | refine zzC ?_ | refine zzL ?_ | refine zzD ?_); first | k_unfold; try dsimp only | walk1 | dsimp only; walk1 | leave1; try dsimp only)
          refine hQ2 _ _ ?_
          refine ⟨5 - (T' ++ rl).length, by rw [List.length_append]; omega, T' ++ rl, _, rvs₃, rc₃, l₃, on, ta₂, tb₃, kvs, od, tl, _, _, _, a + rvs.length, b + rvs.length, rfl, by rw [ha, hrvl]; simp, by rw [hb]; simp [hrvl], rfl, F₁₀, by (repeat (first | with_reducible assumption | refine Eq.trans (if_pos rfl) ?_; exact rfl | refine Eq.trans (if_neg (by decide)) ?_)), by (repeat (first | with_reducible assumption | refine Eq.trans (if_pos rfl) ?_; exact rfl | refine Eq.trans (if_neg (by decide)) ?_)), by (repeat (first | with_reducible assumption | refine Eq.trans (if_pos rfl) ?_; exact rfl | refine Eq.trans (if_neg (by decide)) ?_)), fun p hp => N₁₀ p ?_, ok₄, hrv₃, hkt, ?_, hod, hkT, htold, ?_, fun p hp => ⟨(hof p hp).1, (hof p hp).2.1⟩⟩
          · exact sub_at re28 hp
          · intro j
            have e : plSl (l₃.map Nd.pl) j = plSl (l₂.map Nd.pl) j := by
              rw [plSl_slOf, plSl_slOf]
              unfold slOf
              have e1 : ∀ l : List Nd, (l.find? fun x => x.k = j).map (fun x => x.sl) = ((l.map Nd.fix).find? fun x => x.1 = j).map (fun x => x.2.2.2.2.2.2.1) := fun l => by
                rw [List.find?_map, Option.map_map]; rfl
              rw [e1, e1, hfix]
            rw [e]; exact hlen₂ j
          · intro p hp q hq
            refine Ne.symm (hne₁₀ p ?_ q hq)
            exact sub_at re29 hp
-- Hl
section
set_option compiler.extract_closed false
set_option Elab.async false
open PySem PySem.W PyProof.Rows PySem.Spec PySem.Calls
theorem ints_of_all {Pr : Int → Prop} : ∀ {ys : List Value}, (∀ y ∈ ys, ∃ p t, y = Value.int p t ∧ Pr p) → ∃ ns, IntsAre ys ns ∧ ∀ n ∈ ns, Pr n
  | [], _ => ⟨[], .nil, by simp⟩
  | y :: ys, h => by
    (first | ((first | refine Exists.elim (h y (.head _)) ?_ | refine conj_elim (h y (.head _)) ?_); rintro (p) tmp; (first | ((first | with_reducible refine Exists.elim tmp ?_ | with_reducible refine conj_elim tmp ?_); (try clear tmp); rintro (t) tmp; (first | ((first | with_reducible refine Exists.elim tmp ?_ | with_reducible refine conj_elim tmp ?_); (try clear tmp); rintro (rfl) (hp)) | obtain ⟨rfl, hp⟩ := tmp)) | obtain ⟨t, rfl, hp⟩ := tmp)) | obtain ⟨p, t, rfl, hp⟩ := h y (.head _))
    (first | ((first | refine Exists.elim (ints_of_all fun z hz => h z (.tail _ hz)) ?_ | refine conj_elim (ints_of_all fun z hz => h z (.tail _ hz)) ?_); rintro (ns) tmp; (first | ((first | with_reducible refine Exists.elim tmp ?_ | with_reducible refine conj_elim tmp ?_); (try clear tmp); rintro (h1) (h2)) | obtain ⟨h1, h2⟩ := tmp)) | obtain ⟨ns, h1, h2⟩ := ints_of_all fun z hz => h z (.tail _ hz))
    exact ⟨p :: ns, .cons _ _ h1, List.forall_mem_cons.mpr ⟨hp, h2⟩⟩
theorem ListsIn.mono {fz fz' : List (Addr × Obj)} {vs : List Value} {rs : List (List Int)} (h : ListsIn fz vs rs) (hs : ∀ p ∈ fz, p ∈ fz') : ListsIn fz' vs rs := by
  induction h with
  | nil => exact .nil
  | cons hm hi _ ih => exact .cons (hs _ hm) hi ih
theorem ListsIn.snoc {fz : List (Addr × Obj)} {vs : List Value} {rs : List (List Int)} (h : ListsIn fz vs rs) {a : Addr} {ws : List Value} {k : Nat} {ns : List Int} (hm : (a, listOf ws.toArray k) ∈ fz) (hi : IntsAre ws ns) : ListsIn fz (vs ++ [.ref a]) (rs ++ [ns]) := by
  induction h with
  | nil => exact .cons hm hi .nil
  | cons hm' hi' _ ih => exact .cons hm' hi' ih
theorem rule_len {ps : List Int} (h : ps.length = 15) {r : Nat} (hr : r < 5) : ((ps.drop (kms_lo (some (3 * (0 + (r : Int)))) ps.length)).take (kms_hi (some (3 * (0 + (r : Int)) + 3)) ps.length - kms_lo (some (3 * (0 + (r : Int)))) ps.length)).length = 3 := by
  have e1 : kms_lo (some (3 * (0 + (r : Int)))) ps.length = 3 * r := by
    unfold kms_lo
    dsimp only
    rw [if_neg (by omega)]
    omega
  have e2 : kms_hi (some (3 * (0 + (r : Int)) + 3)) ps.length = 3 * r + 3 := by
    unfold kms_hi
    dsimp only
    rw [if_neg (by omega)]
    omega
  rw [e1, e2, List.length_take, List.length_drop]
  omega
/-- the things that are not in fz already -/
noncomputable def apartOf (tl fz : List (Addr × Obj)) : List (Addr × Obj) := tl.filter fun p => decide (p.1 ∉ fz.map (·.1))
theorem apartOf_mem {h₀ h : Heap} {L : Addr} {tl fz news : List (Addr × Obj)} (N : News h₀ L h news) (h1 : ∀ p ∈ tl ++ fz, p ∈ news) : ∀ p ∈ tl ++ fz, p ∈ apartOf tl fz ++ fz := by
  intro p hp
  by_cases hf : p.1 ∈ fz.map (·.1)
  · (first | ((first | refine Exists.elim (List.mem_map.mp hf) ?_ | refine conj_elim (List.mem_map.mp hf) ?_); rintro (q) tmp; (first | ((first | with_reducible refine Exists.elim tmp ?_ | with_reducible refine conj_elim tmp ?_); (try clear tmp); rintro (hq) (e)) | obtain ⟨hq, e⟩ := tmp)) | obtain ⟨q, hq, e⟩ := List.mem_map.mp hf)
    have a1 := (N p (h1 p hp)).1
    have a2 := (N q (h1 q (List.mem_append_right _ hq))).1
    rw [e, a1] at a2
    have e2 : p.2 = q.2 := Option.some.inj a2
    have : p = q := Prod.ext e.symm e2
    rw [this]; exact List.mem_append_right _ hq
  · rcases List.mem_append.mp hp with hp | hp
    · exact List.mem_append_left _ (List.mem_filter.mpr ⟨hp, by simpa using hf⟩)
    · exact List.mem_append_right _ hp
theorem apartOf_sub {tl fz : List (Addr × Obj)} : ∀ p ∈ apartOf tl fz, p ∈ tl := fun p hp => (List.mem_filter.mp hp).1
theorem apartOf_ne {tl fz : List (Addr × Obj)} : ∀ p ∈ apartOf tl fz, ∀ q ∈ fz, @Ne Nat p.1 q.1 := fun p hp q hq e => by
  have := (List.mem_filter.mp hp).2
  simp only [decide_eq_true_eq] at this
  exact this (by rw [show p.1 = q.1 from e]; exact List.mem_map_of_mem hq)
/-- lists told by their keys -/
noncomputable def ListsBy (f : Int → List Int) (fz : List (Addr × Obj)) (kvs : List (Int × Value)) : Prop := ∀ k v, (k, v) ∈ kvs → ∃ a ws c, v = .ref a ∧ (a, listOf ws.toArray c) ∈ fz ∧ IntsAre ws (f k)
theorem ListsBy.mono {f : Int → List Int} {fz fz' : List (Addr × Obj)} {kvs : List (Int × Value)} (h : ListsBy f fz kvs) (hs : ∀ p ∈ fz, p ∈ fz') : ListsBy f fz' kvs := fun k v hm => by
  (first | ((first | refine Exists.elim (h k v hm) ?_ | refine conj_elim (h k v hm) ?_); rintro (a) tmp; (first | ((first | with_reducible refine Exists.elim tmp ?_ | with_reducible refine conj_elim tmp ?_); (try clear tmp); rintro (ws) tmp; (first | ((first | with_reducible refine Exists.elim tmp ?_ | with_reducible refine conj_elim tmp ?_); (try clear tmp); rintro (c) tmp; (first | ((first | with_reducible refine Exists.elim tmp ?_ | with_reducible refine conj_elim tmp ?_); (try clear tmp); rintro (e) tmp; (first | ((first | with_reducible refine Exists.elim tmp ?_ | with_reducible refine conj_elim tmp ?_); (try clear tmp); rintro (h1) (h2)) | obtain ⟨h1, h2⟩ := tmp)) | obtain ⟨e, h1, h2⟩ := tmp)) | obtain ⟨c, e, h1, h2⟩ := tmp)) | obtain ⟨ws, c, e, h1, h2⟩ := tmp)) | obtain ⟨a, ws, c, e, h1, h2⟩ := h k v hm)
  exact ⟨a, ws, c, e, hs _ h1, h2⟩
theorem ListsBy.snoc {f : Int → List Int} {fz : List (Addr × Obj)} {kvs : List (Int × Value)} (h : ListsBy f fz kvs) {k : Int} {a : Addr} {ws : List Value} {c : Nat} (hm : (a, listOf ws.toArray c) ∈ fz) (hi : IntsAre ws (f k)) : ListsBy f fz (kvs ++ [(k, .ref a)]) := fun k' v' hm' => by
  rcases List.mem_append.mp hm' with hm' | hm'
  · exact h k' v' hm'
  · have := List.mem_singleton.mp hm'
    cases this
    exact ⟨a, ws, c, rfl, hm, hi⟩
theorem valueAt_mem {kvs : List (Int × Value)} {k : Int} (h : k ∈ kvs.map (·.1)) : ∃ v, valueAt kvs k = some v ∧ (k, v) ∈ kvs := valueAt_of h
/-- the two dicts of lists hit each other -/
theorem hits_of {A : Around} {s : Shared} {h₀ : Heap} {L : Addr} {news : List (Addr × Obj)} {f f' : Int → List Int} {fz fz' : List (Addr × Obj)} {kb : List (Int × Value)} (N : News h₀ L s.heap news) (s1 : ∀ p ∈ fz, p ∈ news) (s2 : ∀ p ∈ fz', p ∈ news) (hu : A.in1.units + 64 < cLine)
    (hb : ListsBy f' fz' kb) : ∀ {ka : List (Int × Value)}, ListsBy f fz ka → (∀ k ∈ ka.map (·.1), k ∈ kb.map (·.1) ∧ f k = f' k) → KeqHits A.in1 s kb ka true
  | [], _, _ => .nil
  | (k, v) :: ka, ha, hk => by
    (first | ((first | refine Exists.elim (ha k v (.head _)) ?_ | refine conj_elim (ha k v (.head _)) ?_); rintro (a) tmp; (first | ((first | with_reducible refine Exists.elim tmp ?_ | with_reducible refine conj_elim tmp ?_); (try clear tmp); rintro (ws) tmp; (first | ((first | with_reducible refine Exists.elim tmp ?_ | with_reducible refine conj_elim tmp ?_); (try clear tmp); rintro (c) tmp; (first | ((first | with_reducible refine Exists.elim tmp ?_ | with_reducible refine conj_elim tmp ?_); (try clear tmp); rintro (rfl) tmp; (first | ((first | with_reducible refine Exists.elim tmp ?_ | with_reducible refine conj_elim tmp ?_); (try clear tmp); rintro (h1) (h2)) | obtain ⟨h1, h2⟩ := tmp)) | obtain ⟨rfl, h1, h2⟩ := tmp)) | obtain ⟨c, rfl, h1, h2⟩ := tmp)) | obtain ⟨ws, c, rfl, h1, h2⟩ := tmp)) | obtain ⟨a, ws, c, rfl, h1, h2⟩ := ha k v (.head _))
    (first | ((first | refine Exists.elim (hk k (.head _)) ?_ | refine conj_elim (hk k (.head _)) ?_); rintro (hkb) (hff)) | obtain ⟨hkb, hff⟩ := hk k (.head _))
    (first | ((first | refine Exists.elim (valueAt_of hkb) ?_ | refine conj_elim (valueAt_of hkb) ?_); rintro (y) tmp; (first | ((first | with_reducible refine Exists.elim tmp ?_ | with_reducible refine conj_elim tmp ?_); (try clear tmp); rintro (hy) (hym)) | obtain ⟨hy, hym⟩ := tmp)) | obtain ⟨y, hy, hym⟩ := valueAt_of hkb)
    (first | ((first | refine Exists.elim (hb k y hym) ?_ | refine conj_elim (hb k y hym) ?_); rintro (b) tmp; (first | ((first | with_reducible refine Exists.elim tmp ?_ | with_reducible refine conj_elim tmp ?_); (try clear tmp); rintro (us) tmp; (first | ((first | with_reducible refine Exists.elim tmp ?_ | with_reducible refine conj_elim tmp ?_); (try clear tmp); rintro (c') tmp; (first | ((first | with_reducible refine Exists.elim tmp ?_ | with_reducible refine conj_elim tmp ?_); (try clear tmp); rintro (rfl) tmp; (first | ((first | with_reducible refine Exists.elim tmp ?_ | with_reducible refine conj_elim tmp ?_); (try clear tmp); rintro (h3) (h4)) | obtain ⟨h3, h4⟩ := tmp)) | obtain ⟨rfl, h3, h4⟩ := tmp)) | obtain ⟨c', rfl, h3, h4⟩ := tmp)) | obtain ⟨us, c', rfl, h3, h4⟩ := tmp)) | obtain ⟨b, us, c', rfl, h3, h4⟩ := hb k y hym)
    have e := keq_ints (A := A) (s := s) ⟨_, (N _ (s1 _ h1)).1, rfl, _, rfl⟩ h2 ⟨_, (N _ (s2 _ h3)).1, rfl, _, rfl⟩ h4 hu
    rw [decide_eq_true hff] at e
    have ih := hits_of N s1 s2 hu hb (ka := ka) (fun k' v' hm => ha k' v' (.tail _ hm)) fun k' hk' => hk k' (.tail _ hk')
    have := KeqHits.hit (k := k) hy e ih
    simpa using this
/-- a told value, taken apart for `_law_ended` -/
theorem pairs_last {fz : List (Addr × Obj)} {v : Value} {ps : List (Int × Int)} (h : PairsAt fz v ps) (wf : WF 243 ps) : ∃ a vs t n o x y c, v = .ref a ∧ (a, listOf (vs ++ [Value.ref t]).toArray c) ∈ fz ∧ RefsIn fz vs ps.dropLast ∧ (t, tup2 n x o y) ∈ fz ∧ vs.length ≤ 10000 ∧ Builtin.Int.intBits n ≤ 10000 ∧ endP ps = ps.dropLast.map (·.1) ++ [n * 64 + 5] := by
  (first | ((first | with_reducible refine Exists.elim h ?_ | with_reducible refine conj_elim h ?_); (try clear h); rintro (a) tmp; (first | ((first | with_reducible refine Exists.elim tmp ?_ | with_reducible refine conj_elim tmp ?_); (try clear tmp); rintro (vs) tmp; (first | ((first | with_reducible refine Exists.elim tmp ?_ | with_reducible refine conj_elim tmp ?_); (try clear tmp); rintro (c) tmp; (first | ((first | with_reducible refine Exists.elim tmp ?_ | with_reducible refine conj_elim tmp ?_); (try clear tmp); rintro (rfl) tmp; (first | ((first | with_reducible refine Exists.elim tmp ?_ | with_reducible refine conj_elim tmp ?_); (try clear tmp); rintro (hm) (hr)) | obtain ⟨hm, hr⟩ := tmp)) | obtain ⟨rfl, hm, hr⟩ := tmp)) | obtain ⟨c, rfl, hm, hr⟩ := tmp)) | obtain ⟨vs, c, rfl, hm, hr⟩ := tmp)) | obtain ⟨a, vs, c, rfl, hm, hr⟩ := h)
  have hl := hr.length
  (first | ((first | refine Exists.elim (hr.snoc wf.ne) ?_ | refine conj_elim (hr.snoc wf.ne) ?_); rintro (vs') tmp; (first | ((first | with_reducible refine Exists.elim tmp ?_ | with_reducible refine conj_elim tmp ?_); (try clear tmp); rintro (t) tmp; (first | ((first | with_reducible refine Exists.elim tmp ?_ | with_reducible refine conj_elim tmp ?_); (try clear tmp); rintro (n) tmp; (first | ((first | with_reducible refine Exists.elim tmp ?_ | with_reducible refine conj_elim tmp ?_); (try clear tmp); rintro (o) tmp; (first | ((first | with_reducible refine Exists.elim tmp ?_ | with_reducible refine conj_elim tmp ?_); (try clear tmp); rintro (x) tmp; (first | ((first | with_reducible refine Exists.elim tmp ?_ | with_reducible refine conj_elim tmp ?_); (try clear tmp); rintro (y) tmp; (first | ((first | with_reducible refine Exists.elim tmp ?_ | with_reducible refine conj_elim tmp ?_); (try clear tmp); rintro (rfl) tmp; (first | ((first | with_reducible refine Exists.elim tmp ?_ | with_reducible refine conj_elim tmp ?_); (try clear tmp); rintro (e) tmp; (first | ((first | with_reducible refine Exists.elim tmp ?_ | with_reducible refine conj_elim tmp ?_); (try clear tmp); rintro (ht) (hr')) | obtain ⟨ht, hr'⟩ := tmp)) | obtain ⟨e, ht, hr'⟩ := tmp)) | obtain ⟨rfl, e, ht, hr'⟩ := tmp)) | obtain ⟨y, rfl, e, ht, hr'⟩ := tmp)) | obtain ⟨x, y, rfl, e, ht, hr'⟩ := tmp)) | obtain ⟨o, x, y, rfl, e, ht, hr'⟩ := tmp)) | obtain ⟨n, o, x, y, rfl, e, ht, hr'⟩ := tmp)) | obtain ⟨t, n, o, x, y, rfl, e, ht, hr'⟩ := tmp)) | obtain ⟨vs', t, n, o, x, y, rfl, e, ht, hr'⟩ := hr.snoc wf.ne)
  have e1 := wf.each (n, o) (by rw [e]; simp)
  dsimp only at e1
  refine ⟨a, vs', t, n, o, x, y, c, rfl, hm, hr', ht, ?_, ?_, ?_⟩
  · have := wf.len; simp at hl; omega
  · have hb : Builtin.Int.intBits n ≤ 6 * o.toNat := intBits_le_iff.mpr (by
      have : (n.natAbs : Int) < 2 ^ (6 * o.toNat) := by
        rw [Int.pow_mul]
        have h64 : ((2 : Int) ^ 6) = 64 := by decide
        rw [h64]; omega
      exact_mod_cast this)
    omega
  · unfold endP
    have : ps.getLastD (0, 0) = (n, o) := by rw [e]; simp
    rw [this]
theorem textsP_all {rs : List (List Int)} {Pr : Int → Prop} (hp0 : ∀ p ∈ rs, ∀ q ∈ p, 0 ≤ q → Pr q) : ∀ r ∈ keysP (textsP rs 5), ∀ p ∈ lookP (textsP rs 5) r, Pr p := by
  have h := TI.texts (rs := rs) 5
  have key : ∀ n r a b, a.length < n → keysP (textsP rs 5) = a ++ r :: b → ∀ p ∈ lookP (textsP rs 5) r, Pr p := by
    intro n
    induction n with
    | zero => intro r a b h; omega
    | succ n ih =>
      intro r a b hl e p hp
      have hr : r ∈ keysP (textsP rs 5) := by rw [e]; simp
      rw [h.val r hr] at hp
      unfold textP at hp
      (first | ((first | refine Exists.elim (List.mem_flatMap.mp hp) ?_ | refine conj_elim (List.mem_flatMap.mp hp) ?_); rintro (q) tmp; (first | ((first | with_reducible refine Exists.elim tmp ?_ | with_reducible refine conj_elim tmp ?_); (try clear tmp); rintro (hq) (hp)) | obtain ⟨hq, hp⟩ := tmp)) | obtain ⟨q, hq, hp⟩ := List.mem_flatMap.mp hp)
      split at hp
      · rename_i h0
        rw [List.mem_singleton.mp hp]
        have : rs.getD r.toNat [] ∈ rs := by
          unfold List.getD at hq ⊢
          cases z : rs[r.toNat]? with
          | none => rw [z] at hq; simp at hq
          | some x => simpa using List.mem_of_getElem? z
        exact hp0 _ this q hq h0
      · rename_i h0
        have hk : -1 - q ∈ rfR rs r := mem_refsOf.mpr ⟨q, hq, by omega, rfl⟩
        (first | ((first | refine Exists.elim (List.append_of_mem (h.gen a r b e _ hk)) ?_ | refine conj_elim (List.append_of_mem (h.gen a r b e _ hk)) ?_); rintro (a1) tmp; (first | ((first | with_reducible refine Exists.elim tmp ?_ | with_reducible refine conj_elim tmp ?_); (try clear tmp); rintro (a2) (e1)) | obtain ⟨a2, e1⟩ := tmp)) | obtain ⟨a1, a2, e1⟩ := List.append_of_mem (h.gen a r b e _ hk))
        refine ih (-1 - q) a1 (a2 ++ r :: b) ?_ (by rw [e, e1]; simp) p hp
        rw [e1] at hl; simp at hl; omega
  intro r hr
  (first | ((first | refine Exists.elim (List.append_of_mem hr) ?_ | refine conj_elim (List.append_of_mem hr) ?_); rintro (a) tmp; (first | ((first | with_reducible refine Exists.elim tmp ?_ | with_reducible refine conj_elim tmp ?_); (try clear tmp); rintro (b) (e)) | obtain ⟨b, e⟩ := tmp)) | obtain ⟨a, b, e⟩ := List.append_of_mem hr)
  exact key _ r a b (Nat.lt_succ_self _) e
theorem take_snoc {T : List Int} {kvs : List (Int × Value)} (hk : kvs.map (·.1) = T) {i : Nat} {k : Int} {v : Value} (h : kvs[i]? = some (k, v)) : T.take (i + 1) = T.take i ++ [k] ∧ (T.Nodup → k ∉ T.take i) ∧ k ∈ T := by
  have ht : T[i]? = some k := by rw [← hk, List.getElem?_map, h]; rfl
  have hil := (List.getElem?_eq_some_iff.mp ht).1
  refine ⟨by rw [List.take_add_one, ht]; rfl, fun hn hm => ?_, List.mem_of_getElem? ht⟩
  have hdp : k ∈ T.drop i := by
    rw [List.drop_eq_getElem_cons hil, (List.getElem?_eq_some_iff.mp ht).2]; exact .head _
  rw [← List.take_append_drop i T] at hn
  exact (List.nodup_append.mp hn).2.2 k hm k hdp rfl
theorem same_len {a b : List Int} (ha : a.Nodup) (hb : b.Nodup) (h : ∀ r, r ∈ a ↔ r ∈ b) : a.length = b.length :=
  Nat.le_antisymm (len_leK ha fun x hx => (h x).mp hx) (len_leK hb fun x hx => (h x).mpr hx)
end
-- Dc
section
variable {prog : Program} {w : World} {A : Around} {E : Value → Shared → Prop} {s : Shared} {L : Addr} {m : Str → Option Value} {env : Env} {K : Type} [DecidableEq K] {knd : KeyKind prog w K}
/-- a dict comprehension over a dict's keys, its turns by an invariant; the ground may turn -/
theorem block_D {kx vx iter : PySem.Expr} {x : Str} {px : Pos} {scope : Scope} {cl : List (Str × Addr)} {pos : Pos} {s₂ : Shared} {I d : Addr} {o : Obj} {kvs : List (K × Value)} {ep : Nat} {oI₀ : Obj} {g₀ : Heap} {nw₀ : List (Addr × Obj)} {RR : Value → Addr → Result → Shared → Prop}
    (J : Nat → Heap → List (K × Value) → List (Addr × Obj) → Prop) (hh : A.handled = none) (ha : KdkAt knd o kvs ep) (hok : ∀ i g kvs' nw, J i g kvs' nw → (d, o) ∈ nw ∧ kvs'.length ≤ sizeLine)
    (hcell : ∀ y ∈ scope.names, y.2 ≠ .cell) (hkind : scope.kind = .function) (hx : scope.names.lookup x = some .local)
    (F : Fr g₀ L s₂.heap m) (N : News g₀ L s₂.heap ((I, oI₀) :: nw₀)) (hI : KdkIter oI₀ d 0 kvs.length ep) (hne : ∀ p ∈ nw₀, p.1 ≠ I) (hbig : g₀.NoLimit) (hJ : J 0 g₀ [] nw₀)
    (turn : ∀ i g kvs' nw k v key oI C oC D od' m₂ h tk (E' : Value → Shared → Prop), J i g kvs' nw → kvs[i]? = some (k, v) → knd.is k key = true → LCg.NsObj oC m₂ → m₂ x = some key → Fr g L h m → News g L h ((I, oI) :: (C, oC) :: (D, od') :: nw) →
      LCg.Off3 I C D nw → ((@Ne Nat I C) ∧ (@Ne Nat I D) ∧ (@Ne Nat C D)) →
      wpAny (model prog w) A (eval kx (compEnvC scope cl C env)) (fun kv s₄ => wpAny (model prog w) A (eval vx (compEnvC scope cl C env)) (fun vv s₅ => ∃ g' h' tk' nw' kk, knd.is kk kv = true ∧ s₅ = { s₂ with heap := h', toks := tk' } ∧ Fr g' L h' m ∧ News g' L h' ((I, oI) :: (C, oC) :: (D, od') :: nw') ∧ LCg.Off3 I C D nw' ∧ J (i + 1) g' (stored kvs' kk vv) nw') E' s₄) E' { s₂ with heap := h, toks := tk })
    (done : ∀ D C od' g kvs' nw h tk m', J kvs.length g kvs' nw → Fr g L h m → News g L h ((D, od') :: nw) → od'.IsDictOf knd kvs' → (D == sysModules) = false → (∀ p ∈ nw, @Ne Nat p.1 D) → h.Ns C m' → g.get? C = none → @Ne Nat C L → @Ne Nat C D → (∀ p ∈ nw, @Ne Nat p.1 C) → RR (.ref D) C (.ok .next) { s₂ with heap := h, toks := tk }) :
    wpAny (model prog w) A newDict (fun acc s₃ => wpAny (model prog w) A (newFunctionEnv scope env.globals cl [] env.qual none .none (some env)) (fun cenv s₄ =>
      codeAny (model prog w) A (.compStart (.DictComp kx vx [⟨.Name x px, iter, [], 0⟩] scope pos) 0 (.ref I) acc { cenv with scope := relabel scope env }) (RR acc cenv.locals) s₄) E s₃) E s₂ := by
  have hDm : (s₂.heap.objs.size == sysModules) = false := F.notModules (modules_low hbig)
  refine wpAny_newObj_type (wpAny_newFunctionEnv hcell (by intro y hy; simp at hy) (fun h₁ hns₁ hsb₁ => ?_) hkind)
  dsimp only at hns₁ hsb₁ ⊢
  have hnew : (s₂.heap.push { cls := .type "dict", dict := none, data := .dict #[] }).DictOf knd s₂.heap.objs.size [] := Heap.DictOf.new s₂.heap
  generalize hH2 : s₂.heap.push { cls := .type "dict", dict := none, data := .dict #[] } = H2 at hns₁ hsb₁ hnew ⊢
  have hC : H2.objs.size = s₂.heap.objs.size + 1 := by rw [← hH2, Heap.size_push]
  have hDC : s₂.heap.objs.size ≠ H2.objs.size := by rw [hC]; exact Nat.ne_of_lt (Nat.lt_succ_self _)
  have below : ∀ b, b < s₂.heap.objs.size → b ≠ H2.objs.size ∧ b ≠ s₂.heap.objs.size := fun b hb => ⟨by rw [hC]; exact Nat.ne_of_lt (Nat.lt_succ_of_lt hb), Nat.ne_of_lt hb⟩
  have old : ∀ b o, s₂.heap.get? b = some o → h₁.get? b = some o := fun b o e => hsb₁.extBut b o (below b (Heap.lt_size e)).1 (Heap.get?_push_of_some _ (hH2 ▸ Heap.get?_push_of_some _ e))
  have hacc : h₁.DictOf knd s₂.heap.objs.size [] := hnew.at fun o e => hsb₁.extBut _ _ hDC (Heap.get?_push_of_some _ e)
  (first | ((first | refine Exists.elim (Heap.dictOf_iff.mp hacc) ?_ | refine conj_elim (Heap.dictOf_iff.mp hacc) ?_); rintro (od₀) tmp; (first | ((first | with_reducible refine Exists.elim tmp ?_ | with_reducible refine conj_elim tmp ?_); (try clear tmp); rintro (hod₀) (hd₀)) | obtain ⟨hod₀, hd₀⟩ := tmp)) | obtain ⟨od₀, hod₀, hd₀⟩ := Heap.dictOf_iff.mp hacc)
  have fresh : ∀ a, s₂.heap.objs.size ≤ a → s₂.heap.get? a = none := fun a ha => by
    cases e : s₂.heap.get? a with
    | none => rfl
    | some o' => exact absurd (Heap.lt_size e) (Nat.not_lt.mpr ha)
  have fresh₀ : ∀ a, s₂.heap.objs.size ≤ a → g₀.get? a = none := fun a ha => by
    cases e : g₀.get? a with
    | none => rfl
    | some o' => have := F.keep a o' e; rw [fresh a ha] at this; cases this
  have hD₀ : g₀.get? s₂.heap.objs.size = none := fresh₀ _ (Nat.le_refl _)
  have hC₀ : g₀.get? H2.objs.size = none := fresh₀ _ (by rw [hC]; exact Nat.le_succ _)
  have hLlt : L < s₂.heap.objs.size := F.ns.lt
  have hDL : s₂.heap.objs.size ≠ L := Ne.symm (below L hLlt).2
  have hCL : H2.objs.size ≠ L := Ne.symm (below L hLlt).1
  have hIlt : I < s₂.heap.objs.size := Heap.lt_size (N _ (.head _)).1
  have hCI : I ≠ H2.objs.size := (below I hIlt).1
  have hDI : I ≠ s₂.heap.objs.size := (below I hIlt).2
  have off₀ : LCg.Off3 I H2.objs.size s₂.heap.objs.size nw₀ := LCg.Off3.of fun p hp => ⟨hne p hp, (below _ (Heap.lt_size (N p (.tail _ hp)).1)).1, (below _ (Heap.lt_size (N p (.tail _ hp)).1)).2⟩
  (first | ((first | refine Exists.elim (LCg.ns_obj hns₁) ?_ | refine conj_elim (LCg.ns_obj hns₁) ?_); rintro (oC₀) tmp; (first | ((first | with_reducible refine Exists.elim tmp ?_ | with_reducible refine conj_elim tmp ?_); (try clear tmp); rintro (heC₀) (hoC₀)) | obtain ⟨heC₀, hoC₀⟩ := tmp)) | obtain ⟨oC₀, heC₀, hoC₀⟩ := LCg.ns_obj hns₁)
  have N₁ : News g₀ L h₁ ((I, oI₀) :: (H2.objs.size, oC₀) :: (s₂.heap.objs.size, od₀) :: nw₀) := fun p hp => by
    rcases List.mem_cons.mp hp with rfl | hp
    · exact ⟨old _ _ (N _ (.head _)).1, (N _ (.head _)).2⟩
    rcases List.mem_cons.mp hp with rfl | hp
    · exact ⟨heC₀, hCL, hC₀⟩
    rcases List.mem_cons.mp hp with rfl | hp
    · exact ⟨hod₀, hDL, hD₀⟩
    · exact ⟨old _ _ (N _ (.tail _ hp)).1, (N _ (.tail _ hp)).2⟩
  have loop : ∀ s₃ : Shared, s₃ = { s₂ with heap := h₁, toks := s₂.toks + ([] : List (Str × Value)).length } →
      codeAny (model prog w) A (.compLoop (.DictComp kx vx [⟨.Name x px, iter, [], 0⟩] scope pos) 0 (.ref I) (.ref s₂.heap.objs.size) (compEnvC scope cl H2.objs.size env))
        (RR (.ref s₂.heap.objs.size) H2.objs.size) s₃ := by
    rintro s₃ rfl
    refine codeAny_compLoop_testsD
      (fun k s' => Ex10 fun h' tk i g kvs' oI oC od' m' nw => All10 (s' = { s₂ with heap := h', toks := tk }) (i ≤ kvs.length) (k = kvs.length + 1 - i) (Fr g L h' m) (LCg.NsObj oC m') (News g L h' ((I, oI) :: (H2.objs.size, oC) :: (s₂.heap.objs.size, od') :: nw)) (KdkIter oI d i kvs.length ep) (od'.IsDictOf knd kvs') (LCg.Off3 I H2.objs.size s₂.heap.objs.size nw) (J i g kvs' nw)) ?_ (kvs.length + 1)
      ⟨h₁, _, 0, g₀, [], oI₀, oC₀, od₀, _, nw₀, rfl, Nat.zero_le _, rfl, F.keeps old, hoC₀, N₁, hI, hd₀, off₀, hJ⟩
    rintro k s' ⟨h', tk, i, g, kvs', oI, oC, od', m', nw, rfl, hi, rfl, F', hoC, N', I', hd', off', J'⟩
    (first | ((first | refine Exists.elim (hok _ _ _ _ J') ?_ | refine conj_elim (hok _ _ _ _ J') ?_); rintro (hdm) (hsz)) | obtain ⟨hdm, hsz⟩ := hok _ _ _ _ J')
    have off3 := off'.mem
    have zI := N' _ (.head _)
    have zC := N' _ (.tail _ (.head _))
    have zD := N' _ (.tail _ (.tail _ (.head _)))
    have hIt : h'.IsKeyIter I d i kvs.length ep := I'.at zI.1
    have hLs : h'.DictAt knd d kvs ep := ha.dictAt (N' _ (.tail _ (.tail _ (.tail _ hdm)))).1
    cases hx' : kvs[i]? with
    | none =>
      have hi' : i = kvs.length := by
        have : kvs.length ≤ i := by simpa using hx'
        omega
      subst hi'
      refine wpAny_pyNext_dict_end hh hIt hLs hx' (fun h₂ hxb => ?_)
      have hne' : ∀ p ∈ (H2.objs.size, oC) :: (s₂.heap.objs.size, od') :: nw, p.1 ≠ I := fun p hp => by
        rcases List.mem_cons.mp hp with rfl | hp
        · exact Ne.symm hCI
        rcases List.mem_cons.mp hp with rfl | hp
        · exact Ne.symm hDI
        · exact (off3 p hp).1
      (first | ((first | refine Exists.elim (ext_fr F' N' hne' hxb) ?_ | refine conj_elim (ext_fr F' N' hne' hxb) ?_); rintro (F₂) (N₂)) | obtain ⟨F₂, N₂⟩ := ext_fr F' N' hne' hxb)
      have yC := N₂ _ (.head _)
      exact done _ _ od' g kvs' nw h₂ tk m' J' F₂ (fun p hp => N₂ p (.tail _ hp)) hd' hDm (fun p hp => (off3 p hp).2.2) (hoC.ns yC.1) yC.2.2 yC.2.1 (Ne.symm hDC) (fun p hp => (off3 p hp).2.1)
    | some kv =>
      (first | ((first | with_reducible refine Exists.elim kv ?_ | with_reducible refine conj_elim kv ?_); (try clear kv); rintro (k) (v)) | obtain ⟨k, v⟩ := kv)
      have hlt : i < kvs.length := by
        cases Nat.lt_or_ge i kvs.length with
        | inl h => exact h
        | inr h => rw [List.getElem?_eq_none h] at hx'; cases hx'
      refine wpAny_pyNext_dict_item hIt hLs hx' (fun key h₂ hkey hit' hsb => ?_)
      (first | ((first | with_reducible refine Exists.elim hit' ?_ | with_reducible refine conj_elim hit' ?_); (try clear hit'); rintro (oI') tmp; (first | ((first | with_reducible refine Exists.elim tmp ?_ | with_reducible refine conj_elim tmp ?_); (try clear tmp); rintro (ho') tmp; (first | ((first | with_reducible refine Exists.elim tmp ?_ | with_reducible refine conj_elim tmp ?_); (try clear tmp); rintro (hc') (hd'')) | obtain ⟨hc', hd''⟩ := tmp)) | obtain ⟨ho', hc', hd''⟩ := tmp)) | obtain ⟨oI', ho', hc', hd''⟩ := hit')
      have F₂ : Fr g L h₂ m := F'.change hsb zI.2.1 zI.2.2
      have keep2 : ∀ b o, b ≠ I → h'.get? b = some o → h₂.get? b = some o := fun b o hb e => hsb.extBut b o hb e
      have hnC : h₂.Ns H2.objs.size m' := hoC.ns (keep2 _ _ (Ne.symm hCI) zC.1)
      refine wpAny_assign_Name (wpAny_storeName_local (lookup_relabel_local hx) hnC (fun h₃ hn₃ hs₃ => ?_) (by simp [compEnvC, relabel, hkind]))
      refine wpAny_tests_nil ?_
      simp only [if_true]
      (first | ((first | refine Exists.elim (LCg.ns_obj hn₃) ?_ | refine conj_elim (LCg.ns_obj hn₃) ?_); rintro (oC') tmp; (first | ((first | with_reducible refine Exists.elim tmp ?_ | with_reducible refine conj_elim tmp ?_); (try clear tmp); rintro (heC') (hoC')) | obtain ⟨heC', hoC'⟩ := tmp)) | obtain ⟨oC', heC', hoC'⟩ := LCg.ns_obj hn₃)
      have F₃ : Fr g L h₃ m := F₂.change hs₃ zC.2.1 zC.2.2
      have N₃ : News g L h₃ ((I, oI') :: (H2.objs.size, oC') :: (s₂.heap.objs.size, od') :: nw) := fun p hp => by
        rcases List.mem_cons.mp hp with rfl | hp
        · exact ⟨hs₃.extBut _ _ hCI ho', zI.2⟩
        rcases List.mem_cons.mp hp with rfl | hp
        · exact ⟨heC', zC.2⟩
        rcases List.mem_cons.mp hp with rfl | hp
        · exact ⟨hs₃.extBut _ _ hDC (keep2 _ _ (Ne.symm hDI) zD.1), zD.2⟩
        · have z := N' p (.tail _ (.tail _ (.tail _ hp)))
          exact ⟨hs₃.extBut _ _ (off3 p hp).2.1 (keep2 _ _ (off3 p hp).1 z.1), z.2⟩
      refine wpAny_mono (turn i g kvs' nw k v key oI' H2.objs.size oC' s₂.heap.objs.size od' _ h₃ _ _ J' hx' hkey hoC' (by simp) F₃ N₃ off' ⟨hCI, hDI, Ne.symm hDC⟩) (fun kv s₄ h₄ => ?_) fun _ _ e => e
      refine wpAny_mono h₄ (fun vv s₅ h₅ => ?_) fun _ _ e => e
      (first | ((first | with_reducible refine Exists.elim h₅ ?_ | with_reducible refine conj_elim h₅ ?_); (try clear h₅); rintro (g') tmp; (first | ((first | with_reducible refine Exists.elim tmp ?_ | with_reducible refine conj_elim tmp ?_); (try clear tmp); rintro (h₅) tmp; (first | ((first | with_reducible refine Exists.elim tmp ?_ | with_reducible refine conj_elim tmp ?_); (try clear tmp); rintro (tk₅) tmp; (first | ((first | with_reducible refine Exists.elim tmp ?_ | with_reducible refine conj_elim tmp ?_); (try clear tmp); rintro (nw') tmp; (first | ((first | with_reducible refine Exists.elim tmp ?_ | with_reducible refine conj_elim tmp ?_); (try clear tmp); rintro (kk) tmp; (first | ((first | with_reducible refine Exists.elim tmp ?_ | with_reducible refine conj_elim tmp ?_); (try clear tmp); rintro (hkk) tmp; (first | ((first | with_reducible refine Exists.elim tmp ?_ | with_reducible refine conj_elim tmp ?_); (try clear tmp); rintro (rfl) tmp; (first | ((first | with_reducible refine Exists.elim tmp ?_ | with_reducible refine conj_elim tmp ?_); (try clear tmp); rintro (F₅) tmp; (first | ((first | with_reducible refine Exists.elim tmp ?_ | with_reducible refine conj_elim tmp ?_); (try clear tmp); rintro (N₅) tmp; (first | ((first | with_reducible refine Exists.elim tmp ?_ | with_reducible refine conj_elim tmp ?_); (try clear tmp); rintro (off₅) (J₅)) | obtain ⟨off₅, J₅⟩ := tmp)) | obtain ⟨N₅, off₅, J₅⟩ := tmp)) | obtain ⟨F₅, N₅, off₅, J₅⟩ := tmp)) | obtain ⟨rfl, F₅, N₅, off₅, J₅⟩ := tmp)) | obtain ⟨hkk, rfl, F₅, N₅, off₅, J₅⟩ := tmp)) | obtain ⟨kk, hkk, rfl, F₅, N₅, off₅, J₅⟩ := tmp)) | obtain ⟨nw', kk, hkk, rfl, F₅, N₅, off₅, J₅⟩ := tmp)) | obtain ⟨tk₅, nw', kk, hkk, rfl, F₅, N₅, off₅, J₅⟩ := tmp)) | obtain ⟨h₅, tk₅, nw', kk, hkk, rfl, F₅, N₅, off₅, J₅⟩ := tmp)) | obtain ⟨g', h₅, tk₅, nw', kk, hkk, rfl, F₅, N₅, off₅, J₅⟩ := h₅)
      have yD := N₅ _ (.tail _ (.tail _ (.head _)))
      refine wpAny_dictSet_pairs (hsz := hsz) hkk (Heap.dictOf_iff.mpr ⟨od', yD.1, hd'⟩) fun h₆ hl₆ hs₆ => ?_
      (first | ((first | refine Exists.elim (Heap.dictOf_iff.mp hl₆) ?_ | refine conj_elim (Heap.dictOf_iff.mp hl₆) ?_); rintro (od₆) tmp; (first | ((first | with_reducible refine Exists.elim tmp ?_ | with_reducible refine conj_elim tmp ?_); (try clear tmp); rintro (hod₆) (hd₆)) | obtain ⟨hod₆, hd₆⟩ := tmp)) | obtain ⟨od₆, hod₆, hd₆⟩ := Heap.dictOf_iff.mp hl₆)
      have off5 := off₅.mem
      refine ⟨kvs.length + 1 - (i + 1), by omega, h₆, _, i + 1, g', stored kvs' kk vv, oI', oC', od₆, _, nw', rfl, hlt, rfl, F₅.change hs₆ yD.2.1 yD.2.2, hoC', fun p hp => ?_, ⟨hc', hd''⟩, hd₆, off₅, J₅⟩
      rcases List.mem_cons.mp hp with rfl | hp
      · exact ⟨hs₆.extBut _ _ hDI (N₅ _ (.head _)).1, (N₅ _ (.head _)).2⟩
      rcases List.mem_cons.mp hp with rfl | hp
      · exact ⟨hs₆.extBut _ _ (Ne.symm hDC) (N₅ _ (.tail _ (.head _))).1, (N₅ _ (.tail _ (.head _))).2⟩
      rcases List.mem_cons.mp hp with rfl | hp
      · exact ⟨hod₆, yD.2⟩
      · have z := N₅ p (.tail _ (.tail _ (.tail _ hp)))
        exact ⟨hs₆.extBut _ _ (off5 p hp).2.2 z.1, z.2⟩
  exact codeAny_compStart_dict (loop _ rfl) (wpAny_pyIter_keyiter (hI.at (N₁ _ (.head _)).1) (loop _ rfl))
noncomputable def DTurns (prog : Program) (w : World) (A : Around) (L : Addr) (m : Str → Option Value) (env : Env) (kx vx : PySem.Expr) (x : Str) (scope : Scope) (cl : List (Str × Addr)) (knd : KeyKind prog w K) (s : Shared) (J : Nat → Heap → List (K × Value) → List (Addr × Obj) → Prop) (kvs : List (K × Value)) : Prop :=
  ∀ i g kvs' nw k v key oI I C oC D od' m₂ h tk (E' : Value → Shared → Prop), J i g kvs' nw → kvs[i]? = some (k, v) → knd.is k key = true → LCg.NsObj oC m₂ → m₂ x = some key → Fr g L h m → News g L h ((I, oI) :: (C, oC) :: (D, od') :: nw) →
      LCg.Off3 I C D nw → ((@Ne Nat I C) ∧ (@Ne Nat I D) ∧ (@Ne Nat C D)) →
      wpAny (model prog w) A (eval kx (compEnvC scope cl C env)) (fun kv s₄ => wpAny (model prog w) A (eval vx (compEnvC scope cl C env)) (fun vv s₅ => ∃ g' h' tk' nw' kk, knd.is kk kv = true ∧ s₅ = { s with heap := h', toks := tk' } ∧ Fr g' L h' m ∧ News g' L h' ((I, oI) :: (C, oC) :: (D, od') :: nw') ∧ LCg.Off3 I C D nw' ∧ J (i + 1) g' (stored kvs' kk vv) nw') E' s₄) E' { s with heap := h, toks := tk }
theorem DictComp_D {kx vx iter : PySem.Expr} {x : Str} {px : Pos} {scope : Scope} {cl : List (Str × Addr)} {pos : Pos} {Q : Value → Shared → Prop} (knd : KeyKind prog w K)
    (hclos : closureFor scope env = pure cl) (hcell : ∀ y ∈ scope.names, y.2 ≠ .cell) (hkind : scope.kind = .function)
    (hnames : ∀ y ∈ scope.names, y.2 = .local → scope.names.lookup y.1 = some .local) (hx : scope.names.lookup x = some .local)
    (h : wpAny (model prog w) A (eval iter env) (fun xv s₁ => ∃ d o kvs g₀ nw₀, ∃ J : Nat → Heap → List (K × Value) → List (Addr × Obj) → Prop, xv = .ref d ∧ A.handled = none ∧ Fr g₀ L s₁.heap m ∧ News g₀ L s₁.heap nw₀ ∧ (d, o) ∈ nw₀ ∧ o.IsDictOf knd kvs ∧ (d == sysModules) = false ∧ g₀.NoLimit ∧
      (∀ i g kvs' nw, J i g kvs' nw → (d, o) ∈ nw ∧ kvs'.length ≤ sizeLine) ∧ J 0 g₀ [] nw₀ ∧ DTurns prog w A L m env kx vx x scope cl knd s₁ J kvs ∧
      ∀ D od' g kvs' nw h tk, J kvs.length g kvs' nw → Fr g L h m → News g L h ((D, od') :: nw) → od'.IsDictOf knd kvs' → (D == sysModules) = false → (∀ p ∈ nw, @Ne Nat p.1 D) → Q (.ref D) { s₁ with heap := h, toks := tk }) E s)
    (hs : ∀ x, foldedSetIterable iter env x = pure x := by intro _; rfl) :
    wpAny (model prog w) A (eval (.DictComp kx vx [⟨.Name x px, iter, [], 0⟩] scope pos) env) Q E s := by
  rw [arm_eval_DictComp]
  refine wpAny_comprehension_free (use := none) rfl hs hclos hkind hnames (wpAny_mono h (fun xv s₁ h₁ => ?_) fun _ _ e => e)
  (first | ((first | with_reducible refine Exists.elim h₁ ?_ | with_reducible refine conj_elim h₁ ?_); (try clear h₁); rintro (d) tmp; (first | ((first | with_reducible refine Exists.elim tmp ?_ | with_reducible refine conj_elim tmp ?_); (try clear tmp); rintro (o) tmp; (first | ((first | with_reducible refine Exists.elim tmp ?_ | with_reducible refine conj_elim tmp ?_); (try clear tmp); rintro (kvs) tmp; (first | ((first | with_reducible refine Exists.elim tmp ?_ | with_reducible refine conj_elim tmp ?_); (try clear tmp); rintro (g₀) tmp; (first | ((first | with_reducible refine Exists.elim tmp ?_ | with_reducible refine conj_elim tmp ?_); (try clear tmp); rintro (nw₀) tmp; (first | ((first | with_reducible refine Exists.elim tmp ?_ | with_reducible refine conj_elim tmp ?_); (try clear tmp); rintro (J) tmp; (first | ((first | with_reducible refine Exists.elim tmp ?_ | with_reducible refine conj_elim tmp ?_); (try clear tmp); rintro (rfl) tmp; (first | ((first | with_reducible refine Exists.elim tmp ?_ | with_reducible refine conj_elim tmp ?_); (try clear tmp); rintro (hh) tmp; (first | ((first | with_reducible refine Exists.elim tmp ?_ | with_reducible refine conj_elim tmp ?_); (try clear tmp); rintro (F) tmp; (first | ((first | with_reducible refine Exists.elim tmp ?_ | with_reducible refine conj_elim tmp ?_); (try clear tmp); rintro (N) tmp; (first | ((first | with_reducible refine Exists.elim tmp ?_ | with_reducible refine conj_elim tmp ?_); (try clear tmp); rintro (hdm) tmp; (first | ((first | with_reducible refine Exists.elim tmp ?_ | with_reducible refine conj_elim tmp ?_); (try clear tmp); rintro (hod) tmp; (first | ((first | with_reducible refine Exists.elim tmp ?_ | with_reducible refine conj_elim tmp ?_); (try clear tmp); rintro (lo) tmp; (first | ((first | with_reducible refine Exists.elim tmp ?_ | with_reducible refine conj_elim tmp ?_); (try clear tmp); rintro (hbig) tmp; (first | ((first | with_reducible refine Exists.elim tmp ?_ | with_reducible refine conj_elim tmp ?_); (try clear tmp); rintro (hok) tmp; (first | ((first | with_reducible refine Exists.elim tmp ?_ | with_reducible refine conj_elim tmp ?_); (try clear tmp); rintro (hJ) tmp; (first | ((first | with_reducible refine Exists.elim tmp ?_ | with_reducible refine conj_elim tmp ?_); (try clear tmp); rintro (turn) (done)) | obtain ⟨turn, done⟩ := tmp)) | obtain ⟨hJ, turn, done⟩ := tmp)) | obtain ⟨hok, hJ, turn, done⟩ := tmp)) | obtain ⟨hbig, hok, hJ, turn, done⟩ := tmp)) | obtain ⟨lo, hbig, hok, hJ, turn, done⟩ := tmp)) | obtain ⟨hod, lo, hbig, hok, hJ, turn, done⟩ := tmp)) | obtain ⟨hdm, hod, lo, hbig, hok, hJ, turn, done⟩ := tmp)) | obtain ⟨N, hdm, hod, lo, hbig, hok, hJ, turn, done⟩ := tmp)) | obtain ⟨F, N, hdm, hod, lo, hbig, hok, hJ, turn, done⟩ := tmp)) | obtain ⟨hh, F, N, hdm, hod, lo, hbig, hok, hJ, turn, done⟩ := tmp)) | obtain ⟨rfl, hh, F, N, hdm, hod, lo, hbig, hok, hJ, turn, done⟩ := tmp)) | obtain ⟨J, rfl, hh, F, N, hdm, hod, lo, hbig, hok, hJ, turn, done⟩ := tmp)) | obtain ⟨nw₀, J, rfl, hh, F, N, hdm, hod, lo, hbig, hok, hJ, turn, done⟩ := tmp)) | obtain ⟨g₀, nw₀, J, rfl, hh, F, N, hdm, hod, lo, hbig, hok, hJ, turn, done⟩ := tmp)) | obtain ⟨kvs, g₀, nw₀, J, rfl, hh, F, N, hdm, hod, lo, hbig, hok, hJ, turn, done⟩ := tmp)) | obtain ⟨o, kvs, g₀, nw₀, J, rfl, hh, F, N, hdm, hod, lo, hbig, hok, hJ, turn, done⟩ := tmp)) | obtain ⟨d, o, kvs, g₀, nw₀, J, rfl, hh, F, N, hdm, hod, lo, hbig, hok, hJ, turn, done⟩ := h₁)
  refine piter_dict F N hdm hod lo ?_
  intro I h' oI ep F' N' lI hI ha
  refine block_D J hh ha hok hcell hkind hx F' N' hI (fun p hp => Nat.ne_of_lt (lI p hp)) hbig hJ (fun i g kvs' nw k v key oI C oC D od' m₂ h tk E' a1 a2 a3 a4 a5 a6 a7 a8 a9 => turn i g kvs' nw k v key oI I C oC D od' m₂ h tk E' a1 a2 a3 a4 a5 a6 a7 a8 a9) ?_
  intro D C od' g kvs' nw h tk m' hJ' F₂ N₂ hd' hDm hnD hn hCg hCL hCD hnC
  refine ⟨m', hn, fun h'' hs'' => done D od' g kvs' nw h'' tk hJ' (F₂.change hs'' hCL hCg) (fun p hp => ?_) hd' hDm hnD⟩
  refine ⟨hs''.extBut _ _ ?_ (N₂ p hp).1, (N₂ p hp).2⟩
  rcases List.mem_cons.mp hp with rfl | hp
  · exact Ne.symm hCD
  · exact hnC p hp
theorem Assign_DictComp_D {kx vx iter : PySem.Expr} {x y : Str} {px py : Pos} {scope : Scope} {cl : List (Str × Addr)} {pos spos : Pos} {Q : Flow → Shared → Prop} (knd : KeyKind prog w K) (hLe : env.locals = L)
    (hsw : swapsWith (.DictComp kx vx [⟨.Name x px, iter, [], 0⟩] scope pos) (some (.Name y py)) spos.line env = pure true)
    (hclos : closureFor scope env = pure cl) (hcell : ∀ y ∈ scope.names, y.2 ≠ .cell) (hkind : scope.kind = .function)
    (hnames : ∀ y ∈ scope.names, y.2 = .local → scope.names.lookup y.1 = some .local) (hx : scope.names.lookup x = some .local)
    (hy : env.kindOf y = some .local) (hp : (env.scope.kind == .class || (env.scope.kind == .module && env.locals != env.globals)) = false)
    (h : wpAny (model prog w) A (eval iter env) (fun xv s₁ => ∃ d o kvs g₀ nw₀, ∃ J : Nat → Heap → List (K × Value) → List (Addr × Obj) → Prop, xv = .ref d ∧ A.handled = none ∧ Fr g₀ L s₁.heap m ∧ News g₀ L s₁.heap nw₀ ∧ (d, o) ∈ nw₀ ∧ o.IsDictOf knd kvs ∧ (d == sysModules) = false ∧ g₀.NoLimit ∧
      (∀ i g kvs' nw, J i g kvs' nw → (d, o) ∈ nw ∧ kvs'.length ≤ sizeLine) ∧ J 0 g₀ [] nw₀ ∧ DTurns prog w A L m env kx vx x scope cl knd s₁ J kvs ∧
      ∀ D od' g kvs' nw h tk, J kvs.length g kvs' nw → Fr g L h (fun z => if z = y then some (.ref D) else m z) → News g L h ((D, od') :: nw) → od'.IsDictOf knd kvs' → (D == sysModules) = false → (∀ p ∈ nw, @Ne Nat p.1 D) → Q .next { s₁ with heap := h, toks := tk }) E s)
    (hs : ∀ x, foldedSetIterable iter env x = pure x := by intro _; rfl) :
    wpAny (model prog w) A (exec (.Assign [.Name y py] (.DictComp kx vx [⟨.Name x px, iter, [], 0⟩] scope pos) spos) env) Q E s := by
  subst hLe
  rw [exec_Assign_Name_used _ _ _ _ hsw]
  refine wpAny_bind (wpAny_standAt (wpAny_bind ?_))
  show wpAny _ A (do let _ ← comprehension (.DictComp kx vx [⟨.Name x px, iter, [], 0⟩] scope pos) scope env _ newDict false (eval iter env) (some (assign (.Name y py) env))) _ _ s
  refine wpAny_bind (wpAny_mono (wpAny_comprehension_free (use := some (assign (.Name y py) env)) (Q := fun _ s' => Q .next s') rfl hs hclos hkind hnames
    (wpAny_mono h (fun xv s₁ h₁ => ?_) fun _ _ e => e)) (fun _ s' hq => wpAny_pure (wpAny_pure hq)) fun _ _ e => e)
  (first | ((first | with_reducible refine Exists.elim h₁ ?_ | with_reducible refine conj_elim h₁ ?_); (try clear h₁); rintro (d) tmp; (first | ((first | with_reducible refine Exists.elim tmp ?_ | with_reducible refine conj_elim tmp ?_); (try clear tmp); rintro (o) tmp; (first | ((first | with_reducible refine Exists.elim tmp ?_ | with_reducible refine conj_elim tmp ?_); (try clear tmp); rintro (kvs) tmp; (first | ((first | with_reducible refine Exists.elim tmp ?_ | with_reducible refine conj_elim tmp ?_); (try clear tmp); rintro (g₀) tmp; (first | ((first | with_reducible refine Exists.elim tmp ?_ | with_reducible refine conj_elim tmp ?_); (try clear tmp); rintro (nw₀) tmp; (first | ((first | with_reducible refine Exists.elim tmp ?_ | with_reducible refine conj_elim tmp ?_); (try clear tmp); rintro (J) tmp; (first | ((first | with_reducible refine Exists.elim tmp ?_ | with_reducible refine conj_elim tmp ?_); (try clear tmp); rintro (rfl) tmp; (first | ((first | with_reducible refine Exists.elim tmp ?_ | with_reducible refine conj_elim tmp ?_); (try clear tmp); rintro (hh) tmp; (first | ((first | with_reducible refine Exists.elim tmp ?_ | with_reducible refine conj_elim tmp ?_); (try clear tmp); rintro (F) tmp; (first | ((first | with_reducible refine Exists.elim tmp ?_ | with_reducible refine conj_elim tmp ?_); (try clear tmp); rintro (N) tmp; (first | ((first | with_reducible refine Exists.elim tmp ?_ | with_reducible refine conj_elim tmp ?_); (try clear tmp); rintro (hdm) tmp; (first | ((first | with_reducible refine Exists.elim tmp ?_ | with_reducible refine conj_elim tmp ?_); (try clear tmp); rintro (hod) tmp; (first | ((first | with_reducible refine Exists.elim tmp ?_ | with_reducible refine conj_elim tmp ?_); (try clear tmp); rintro (lo) tmp; (first | ((first | with_reducible refine Exists.elim tmp ?_ | with_reducible refine conj_elim tmp ?_); (try clear tmp); rintro (hbig) tmp; (first | ((first | with_reducible refine Exists.elim tmp ?_ | with_reducible refine conj_elim tmp ?_); (try clear tmp); rintro (hok) tmp; (first | ((first | with_reducible refine Exists.elim tmp ?_ | with_reducible refine conj_elim tmp ?_); (try clear tmp); rintro (hJ) tmp; (first | ((first | with_reducible refine Exists.elim tmp ?_ | with_reducible refine conj_elim tmp ?_); (try clear tmp); rintro (turn) (done)) | obtain ⟨turn, done⟩ := tmp)) | obtain ⟨hJ, turn, done⟩ := tmp)) | obtain ⟨hok, hJ, turn, done⟩ := tmp)) | obtain ⟨hbig, hok, hJ, turn, done⟩ := tmp)) | obtain ⟨lo, hbig, hok, hJ, turn, done⟩ := tmp)) | obtain ⟨hod, lo, hbig, hok, hJ, turn, done⟩ := tmp)) | obtain ⟨hdm, hod, lo, hbig, hok, hJ, turn, done⟩ := tmp)) | obtain ⟨N, hdm, hod, lo, hbig, hok, hJ, turn, done⟩ := tmp)) | obtain ⟨F, N, hdm, hod, lo, hbig, hok, hJ, turn, done⟩ := tmp)) | obtain ⟨hh, F, N, hdm, hod, lo, hbig, hok, hJ, turn, done⟩ := tmp)) | obtain ⟨rfl, hh, F, N, hdm, hod, lo, hbig, hok, hJ, turn, done⟩ := tmp)) | obtain ⟨J, rfl, hh, F, N, hdm, hod, lo, hbig, hok, hJ, turn, done⟩ := tmp)) | obtain ⟨nw₀, J, rfl, hh, F, N, hdm, hod, lo, hbig, hok, hJ, turn, done⟩ := tmp)) | obtain ⟨g₀, nw₀, J, rfl, hh, F, N, hdm, hod, lo, hbig, hok, hJ, turn, done⟩ := tmp)) | obtain ⟨kvs, g₀, nw₀, J, rfl, hh, F, N, hdm, hod, lo, hbig, hok, hJ, turn, done⟩ := tmp)) | obtain ⟨o, kvs, g₀, nw₀, J, rfl, hh, F, N, hdm, hod, lo, hbig, hok, hJ, turn, done⟩ := tmp)) | obtain ⟨d, o, kvs, g₀, nw₀, J, rfl, hh, F, N, hdm, hod, lo, hbig, hok, hJ, turn, done⟩ := h₁)
  refine piter_dict F N hdm hod lo ?_
  intro I h' oI ep F' N' lI hI ha
  refine block_D J hh ha hok hcell hkind hx F' N' hI (fun p hp => Nat.ne_of_lt (lI p hp)) hbig hJ (fun i g kvs' nw k v key oI C oC D od' m₂ h tk E' a1 a2 a3 a4 a5 a6 a7 a8 a9 => turn i g kvs' nw k v key oI I C oC D od' m₂ h tk E' a1 a2 a3 a4 a5 a6 a7 a8 a9) ?_
  intro D C od' g kvs' nw h tk m' hJ' F₂ N₂ hd' hDm hnD hn hCg hCL hCD hnC
  show wpAny _ A (assign (.Name y py) env (.ref D)) _ _ _
  refine wpAny_assign_Name (wpAny_storeName_local hy F₂.ns (fun h₂ hn₂ hs₂ => ?_) hp)
  have hL₀ : g.get? env.locals = none := Heap.get?_none_of_le F₂.above
  have F₃ : Fr g env.locals h₂ (fun z => if z = y then some (.ref D) else m z) := ⟨hn₂, fun b o e => hs₂.extBut b o (fun q => by rw [q, hL₀] at e; cases e) (F₂.keep b o e), F₂.above⟩
  refine ⟨m', hn.sameBut hs₂ hCL, fun h'' hs'' => done D od' g kvs' nw h'' _ hJ' (F₃.change hs'' hCL hCg) (fun p hp => ?_) hd' hDm hnD⟩
  have z : h₂.get? p.1 = some p.2 := hs₂.extBut _ _ (N₂ p hp).2.1 (N₂ p hp).1
  refine ⟨hs''.extBut _ _ ?_ z, (N₂ p hp).2⟩
  rcases List.mem_cons.mp hp with rfl | hp
  · exact Ne.symm hCD
  · exact hnC p hp
end
-- La
local macro_rules | `(tactic| k_qdec) => `(tactic| decide +kernel)
set_option maxHeartbeats 4000000 in
theorem law_holds : PySem.Challenge.rw_om0082_01.Holds := by
  refine Mine.hd ?_
  k_go0
  rename_i w s₀ s₁ mg₀ mb₀ G Y fa o pm doc ho hg KX X V GL T₀ Bt TE TW wa wo M wb wc hcd script hs hlay0 hL0 hr0 hl2 wl1 wl2 sA svs wl hL ra w1 r0 hI hr2 hcd1 hcd2 K0 hD h₁ tk₁ F₀ c4 c3 c2 c1 hc4 hc3 hc2 hc1 N₀ X₀
  have XB : (Mine.hd.heap_1 w.params).In s₁.heap := KX
  (refine Exists.elim ((⟨_, _, _, T₀⟩) : ∃ mean mg mb, TT mean mg mb s₁.heap) ?_; rintro (mean) tmp; (first | ((first | with_reducible refine Exists.elim tmp ?_ | with_reducible refine conj_elim tmp ?_); (try clear tmp); rintro (mg) tmp; (first | ((first | with_reducible refine Exists.elim tmp ?_ | with_reducible refine conj_elim tmp ?_); (try clear tmp); rintro (mb) (TB)) | obtain ⟨mb, TB⟩ := tmp)) | obtain ⟨mg, mb, TB⟩ := tmp))
  have B : Below callerA s₁.heap [] s₁.heap := K0
  have KD : KtsDicts (frs []) s₁.heap := ktsDicts_nil
  replace hc1 : c1.data = .cell none := hc1
  replace hc2 : c2.data = .cell none := hc2
  replace hc3 : c3.data = .cell none := hc3
  replace hc4 : c4.data = .cell none := hc4
  have N₁ : News s₁.heap s₁.heap.objs.size h₁ [(s₁.heap.objs.size + 1 + 1 + 1 + 1, c4), (s₁.heap.objs.size + 1 + 1 + 1, c3), (s₁.heap.objs.size + 1 + 1, c2), (s₁.heap.objs.size + 1, c1)] := N₀
  clear N₀ X₀ hD ra w1 r0 hr2 hcd2 wl K0 wl1 wl2 hl2 hr0 hL0 hlay0 hs hcd M wa wo TW TE Bt GL V X KX ho Y G T₀
  generalize hLL : s₁.heap.objs.size = L at F₀ N₁ ⊢
  rw [show PySem.Challenge.rw_om0082_01.row.prog = P from rfl]
  (repeat' (fail_if_success with_reducible first | refine zzW ?_ | refine zzF ?_ | refine zzC ?_ | refine zzL ?_ | refine zzD ?_); first | k_unfold; try dsimp only | walk1 | dsimp only; walk1 | leave1; try dsimp only)
  refine LCg.ListComp_U (cl := []) F₀ rfl (by decide) rfl (by decide) rfl ?_
  (repeat' (fail_if_success with_reducible first | refine zzW ?_ | refine zzF ?_ | refine zzC ?_ | refine zzL ?_ | refine zzD ?_ | refine zzCS ?_ | refine zzEn ?_ | refine zzSr ?_ | refine zzAL ?_ | refine zzAD ?_); first | k_unfold; try dsimp only | walk1 | dsimp only; walk1 | leave1; try dsimp only)
  have hsl : script.length ≤ 63 := by omega
  refine slice_ints F₀ N₁ (hL.at fun o e => F₀.keep _ _ e) hI .none (.int _ _) (by omega) ?_
  intro a₁ h₂ zs hzs F₂ N₂ l₂
  have hzl := hzs.length
  have hz15 : zs.length ≤ 15 := by
    rw [hzl, List.length_take]
    have e1 : kms_lo none script.length = 0 := rfl
    have e2 : kms_hi (some 15) script.length = min 15 script.length := rfl
    rw [e1, e2]
    omega
  (refine Exists.elim ((⟨_, rfl⟩) : ∃ ds, ds = (script.drop (kms_lo none script.length)).take (kms_hi (some 15) script.length - kms_lo none script.length)) ?_; rintro (ds) (hds))
  rw [← hds] at hzs hzl
  refine LCg.CompSrc.ledger rfl F₂ N₂ (.head _) (by rw [sizeLine_eq]; simp; omega) fun gc => ?_
  refine compU_ind (fun c ys nw => nw = [(a₁, listOf zs.toArray 0), (L + 1 + 1 + 1 + 1, c4), (L + 1 + 1 + 1, c3), (L + 1 + 1, c2), (L + 1, c1)] ∧ ∃ ns, IntsAre ys ns ∧ ns.length = c) zs.toArray.size ?_ ?_ _ 0 [] _ (Nat.zero_add _) ⟨rfl, [], .nil, rfl⟩
  · rintro c ys nw hc hJ9 v Ic oI C oC D' m₂ hh tk' E' hv hC hmx F₁₂ N₁₂ o3 ne Q1 hQ1
    (first | ((first | with_reducible refine Exists.elim hJ9 ?_ | with_reducible refine conj_elim hJ9 ?_); (try clear hJ9); rintro (rfl) tmp; (first | ((first | with_reducible refine Exists.elim tmp ?_ | with_reducible refine conj_elim tmp ?_); (try clear tmp); rintro (ns) tmp; (first | ((first | with_reducible refine Exists.elim tmp ?_ | with_reducible refine conj_elim tmp ?_); (try clear tmp); rintro (hns) (hnl)) | obtain ⟨hns, hnl⟩ := tmp)) | obtain ⟨ns, hns, hnl⟩ := tmp)) | obtain ⟨rfl, ns, hns, hnl⟩ := hJ9)
    (first | ((first | refine Exists.elim (ints_get hzs (by simpa using hv)) ?_ | refine conj_elim (ints_get hzs (by simpa using hv)) ?_); rintro (pn) tmp; (first | ((first | with_reducible refine Exists.elim tmp ?_ | with_reducible refine conj_elim tmp ?_); (try clear tmp); rintro (ptk) tmp; (first | ((first | with_reducible refine Exists.elim tmp ?_ | with_reducible refine conj_elim tmp ?_); (try clear tmp); rintro (rfl) (hpn)) | obtain ⟨rfl, hpn⟩ := tmp)) | obtain ⟨ptk, rfl, hpn⟩ := tmp)) | obtain ⟨pn, ptk, rfl, hpn⟩ := ints_get hzs (by simpa using hv))
    clear F₀ N₁ F₂ N₂
    (repeat' (fail_if_success with_reducible first | refine zzW ?_ | refine zzF ?_ | refine zzC ?_ | refine zzL ?_ | refine zzD ?_ | refine zzCS ?_ | refine zzEn ?_ | refine zzSr ?_ | refine zzAL ?_ | refine zzAD ?_); first | k_unfold; try dsimp only | walk1 | dsimp only; walk1 | leave1; try dsimp only)
    refine hQ1 _ _ ?_
    exact CompEnd.intro F₁₂ N₁₂ _ (fun p hp => hp) o3 (.inr ⟨_, .head _, rfl, _, rfl⟩) ⟨rfl, _, ints_snoc hns, by simp [hnl]⟩
  · rintro ys nw ⟨rfl, ns, hns, hnl⟩ D₁ h₃ tk₃ F₃ N₃ o1
    have hnl15 : ns.length ≤ 15 := by simp at hnl; omega
    have la₁ : @LT.lt Nat _ (L + 1 + 1 + 1 + 1) a₁ := l₂ _ (.head _)
    simp only [LCg.Off1, and_true] at o1
    (first | ((first | with_reducible refine Exists.elim o1 ?_ | with_reducible refine conj_elim o1 ?_); (try clear o1); rintro (o1a) tmp; (first | ((first | with_reducible refine Exists.elim tmp ?_ | with_reducible refine conj_elim tmp ?_); (try clear tmp); rintro (o1b) tmp; (first | ((first | with_reducible refine Exists.elim tmp ?_ | with_reducible refine conj_elim tmp ?_); (try clear tmp); rintro (o1c) tmp; (first | ((first | with_reducible refine Exists.elim tmp ?_ | with_reducible refine conj_elim tmp ?_); (try clear tmp); rintro (o1d) (o1e)) | obtain ⟨o1d, o1e⟩ := tmp)) | obtain ⟨o1c, o1d, o1e⟩ := tmp)) | obtain ⟨o1b, o1c, o1d, o1e⟩ := tmp)) | obtain ⟨o1a, o1b, o1c, o1d, o1e⟩ := o1)
    clear F₀ N₁ F₂ N₂ l₂
    (repeat' (fail_if_success with_reducible first | refine zzW ?_ | refine zzF ?_ | refine zzC ?_ | refine zzL ?_ | refine zzD ?_ | refine zzCS ?_ | refine zzEn ?_ | refine zzSr ?_ | refine zzAL ?_ | refine zzAD ?_); first | k_unfold; try dsimp only | walk1 | dsimp only; walk1 | leave1; try dsimp only)
    refine wpAny_Assign_Name ?_ (by with_unfolding_all rfl)
    rename Fr _ _ _ _ => F₄
    rename News _ _ _ _ => N₄
    rename (Obj.data _ = Data.cell (some (Value.ref D₁))) => hd1
    rename_i hq0 co1 sl hq1 e1 e2 e3 e4 e5 e6 hq2
    have lsl : @LT.lt Nat _ D₁ sl ∧ @LT.lt Nat _ (L + 1 + 1 + 1 + 1) sl := ⟨e1, e3⟩
    (refine Exists.elim ((⟨[.int _ _, .int _ _, .int _ _, .int _ _, .int _ _, .int _ _, .int _ _, .int _ _, .int _ _, .int _ _, .int _ _, .int _ _, .int _ _, .int _ _, .int _ _], ⟨_, .cons _ _ (.cons _ _ (.cons _ _ (.cons _ _ (.cons _ _ (.cons _ _ (.cons _ _ (.cons _ _ (.cons _ _ (.cons _ _ (.cons _ _ (.cons _ _ (.cons _ _ (.cons _ _ (.cons _ _ .nil))))))))))))))⟩, rfl,
        List.forall_mem_cons.mpr ⟨N₄ _ (.head _), List.forall_mem_cons.mpr ⟨N₄ _ (.tail _ (.head _)), List.forall_mem_cons.mpr ⟨N₄ _ (.tail _ (.tail _ (.tail _ (.head _)))), List.forall_mem_cons.mpr ⟨N₄ _ (.tail _ (.tail _ (.tail _ (.tail _ (.head _))))), List.forall_mem_cons.mpr ⟨N₄ _ (.tail _ (.tail _ (.tail _ (.tail _ (.tail _ (.head _)))))), List.forall_mem_cons.mpr ⟨N₄ _ (.tail _ (.tail _ (.tail _ (.tail _ (.tail _ (.tail _ (.head _))))))), List.forall_mem_nil _⟩⟩⟩⟩⟩⟩⟩) : ∃ sv : List Value, (∃ ns, IntsAre sv ns) ∧ sv.length = 15 ∧ News s₁.heap L hq2 [(sl, listOf sv.toArray 0), (D₁, listOf ys.toArray ys.length), (L + 1 + 1 + 1 + 1, c4), (L + 1 + 1 + 1, c3), (L + 1 + 1, c2), (L + 1, co1)]) ?_; rintro (sv) tmp; (first | ((first | with_reducible refine Exists.elim tmp ?_ | with_reducible refine conj_elim tmp ?_); (try clear tmp); rintro (⟨sns, hsi⟩) tmp; (first | ((first | with_reducible refine Exists.elim tmp ?_ | with_reducible refine conj_elim tmp ?_); (try clear tmp); rintro (hsvl) (N₅)) | obtain ⟨hsvl, N₅⟩ := tmp)) | obtain ⟨⟨sns, hsi⟩, hsvl, N₅⟩ := tmp))
    clear N₄
    refine ListComp_E F₄ (fun i y => ∃ p t, y = .int p t ∧ -5 ≤ p ∧ p < 256) (cl := [(Str.ofString "drawn", L + 1)]) rfl (by decide) rfl (by decide) rfl rfl (by decide) ?_
    (repeat' (fail_if_success with_reducible first | refine zzW ?_ | refine zzF ?_ | refine zzC ?_ | refine zzL ?_ | refine zzD ?_ | refine zzCS ?_ | refine zzEn ?_ | refine zzSr ?_ | refine zzAL ?_ | refine zzAD ?_); first | k_unfold; try dsimp only | walk1 | dsimp only; walk1 | leave1; try dsimp only)
    refine enum_src F₄ N₅ (.head _) ?_
    intro e it h₅ F₅ N₅ hen hli hoff hei he₀ hi₀ heL hiL
    clear F₄
    refine ⟨e, it, _, _, _, _, rfl, rfl, F₅, N₅, .head _, hen, hli, hoff, hei, he₀, hi₀, heL, hiL, by rw [sizeLine_eq]; simp; omega, ?_, ?_⟩
    · intro i v t oe oi C oC D' ys' m₂ hh tk' E' hv hC hx1 hx2 F₆ N₆ hnC
      (first | ((first | refine Exists.elim (ints_get hsi (by simpa using hv)) ?_ | refine conj_elim (ints_get hsi (by simpa using hv)) ?_); rintro (pn) tmp; (first | ((first | with_reducible refine Exists.elim tmp ?_ | with_reducible refine conj_elim tmp ?_); (try clear tmp); rintro (ptk) tmp; (first | ((first | with_reducible refine Exists.elim tmp ?_ | with_reducible refine conj_elim tmp ?_); (try clear tmp); rintro (rfl) (hpn)) | obtain ⟨rfl, hpn⟩ := tmp)) | obtain ⟨ptk, rfl, hpn⟩ := tmp)) | obtain ⟨pn, ptk, rfl, hpn⟩ := ints_get hsi (by simpa using hv))
      clear F₅ N₅ hoff hen hli
      (repeat' (fail_if_success with_reducible first | refine zzW ?_ | refine zzF ?_ | refine zzC ?_ | refine zzL ?_ | refine zzD ?_ | refine zzCS ?_ | refine zzEn ?_ | refine zzSr ?_ | refine zzAL ?_ | refine zzAD ?_); first | k_unfold; try dsimp only | walk1 | dsimp only; walk1 | leave1; try dsimp only)
      refine slice_ints F₆ N₆ ⟨_, (N₆ _ (.tail _ (.tail _ (.tail _ (.tail _ (.tail _ (.head _))))))).1, rfl, _, rfl⟩ hns (.int _ _) (.int _ _) (by omega) ?_
      intro a₂ h₇ zs₂ hzs₂ F₇ N₇ l₇
      generalize (ns.drop _).take _ = ms at hzs₂
      clear F₆ N₆ l₇
      (repeat' (fail_if_success with_reducible first | refine zzW ?_ | refine zzF ?_ | refine zzC ?_ | refine zzL ?_ | refine zzD ?_ | refine zzCS ?_ | refine zzEn ?_ | refine zzSr ?_ | refine zzAL ?_ | refine zzAD ?_); first | k_unfold; try dsimp only | walk1 | dsimp only; walk1 | leave1; try dsimp only)
      rename Fr _ _ _ _ => F₈
      rename News _ _ _ _ => N₈
      refine call_use B F₈ N₈ XB TB KD [] [(e, oe), (it, oi), (C, oC), (D', LCg.lst ys'), (sl, listOf sv.toArray 0), (D₁, listOf ys.toArray ys.length), (L + 1 + 1 + 1 + 1, c4), (L + 1 + 1 + 1, c3), (L + 1 + 1, c2), (L + 1, co1)] (by simp) (fun p hp => .tail _ hp) (by simp) ?_
      intro gg SS back _ _
      refine part_spec SS (by decide) (by decide) ?_
      intro x h' tk₉ Dn
      (first | ((first | refine Exists.elim (back _ _ Dn) ?_ | refine conj_elim (back _ _ Dn) ?_); rintro (F₉) tmp; (first | ((first | with_reducible refine Exists.elim tmp ?_ | with_reducible refine conj_elim tmp ?_); (try clear tmp); rintro (N₉) (_)) | obtain ⟨N₉, _⟩ := tmp)) | obtain ⟨F₉, N₉, _⟩ := back _ _ Dn)
      dsimp only
      k_unfold
      refine ⟨⟨_, _, rfl, ?_, ?_⟩, _, _, rfl, F₉, N₉⟩
      · split
        · have := Int.fmod_lt_of_pos (pn + ms.sum) (b := 5) (by decide); omega
        · have := Int.fmod_nonneg_of_pos (pn + ms.sum) (b := 256) (by decide); omega
      · split
        · have := Int.fmod_nonneg_of_pos (pn + ms.sum) (b := 5) (by decide); omega
        · have := Int.fmod_lt_of_pos (pn + ms.sum) (b := 256) (by decide); omega
    · intro D₂ ys₂ h₆ tk₆ hl₂ hV F₆ N₆ hn₂
      clear F₅ N₅ hoff hen hli
      have p1 := hn₂ _ (.head _)
      have p2 := hn₂ _ (.tail _ (.head _))
      have p3 := hn₂ _ (.tail _ (.tail _ (.head _)))
      have p4 := hn₂ _ (.tail _ (.tail _ (.tail _ (.head _))))
      have p5 := hn₂ _ (.tail _ (.tail _ (.tail _ (.tail _ (.head _)))))
      have p6 := hn₂ _ (.tail _ (.tail _ (.tail _ (.tail _ (.tail _ (.head _))))))
      dsimp only at p1 p2 p3 p4 p5 p6
      (repeat' (fail_if_success with_reducible first | refine zzW ?_ | refine zzF ?_ | refine zzC ?_ | refine zzL ?_ | refine zzD ?_ | refine zzCS ?_ | refine zzEn ?_ | refine zzSr ?_ | refine zzAL ?_ | refine zzAD ?_); first | k_unfold; try dsimp only | walk1 | dsimp only; walk1 | leave1; try dsimp only)
      rename Fr _ _ _ _ => F₇
      rename News _ _ _ _ => N₇
      rename (Obj.data _ = Data.cell (some (Value.ref D₂))) => hd2
      (refine Exists.elim ((⟨_, hd2,
        List.forall_mem_cons.mpr ⟨N₇ _ (.head _), List.forall_mem_cons.mpr ⟨N₇ _ (.tail _ (.tail _ (.tail _ (.head _)))), List.forall_mem_cons.mpr ⟨N₇ _ (.tail _ (.tail _ (.tail _ (.tail _ (.head _))))), List.forall_mem_cons.mpr ⟨N₇ _ (.tail _ (.tail _ (.tail _ (.tail _ (.tail _ (.head _)))))), List.forall_mem_cons.mpr ⟨N₇ _ (.tail _ (.tail _ (.tail _ (.tail _ (.tail _ (.tail _ (.head _))))))), List.forall_mem_nil _⟩⟩⟩⟩⟩⟩) : ∃ co2 : Obj, co2.data = .cell (some (.ref D₂)) ∧ News s₁.heap L _ [(D₂, listOf ys₂.toArray ys₂.length), (L + 1 + 1 + 1 + 1, c4), (L + 1 + 1 + 1, c3), (L + 1 + 1, co2), (L + 1, co1)]) ?_; rintro (co2) tmp; (first | ((first | with_reducible refine Exists.elim tmp ?_ | with_reducible refine conj_elim tmp ?_); (try clear tmp); rintro (hd2) (N₈)) | obtain ⟨hd2, N₈⟩ := tmp))
      clear N₇
      (refine Exists.elim ((ints_of_all fun y hy => by
        (first | ((first | refine Exists.elim (List.getElem_of_mem hy) ?_ | refine conj_elim (List.getElem_of_mem hy) ?_); rintro (i) tmp; (first | ((first | with_reducible refine Exists.elim tmp ?_ | with_reducible refine conj_elim tmp ?_); (try clear tmp); rintro (hi) (e)) | obtain ⟨hi, e⟩ := tmp)) | obtain ⟨i, hi, e⟩ := List.getElem_of_mem hy)
        exact hV i y (by rw [List.getElem?_eq_getElem hi, e])) : ∃ ps, IntsAre ys₂ ps ∧ ∀ p ∈ ps, -5 ≤ p ∧ p < 256) ?_; rintro (ps) tmp; (first | ((first | with_reducible refine Exists.elim tmp ?_ | with_reducible refine conj_elim tmp ?_); (try clear tmp); rintro (hps) (hpb)) | obtain ⟨hps, hpb⟩ := tmp))
      have hpl : ps.length = 15 := by have := hps.length; simp at hl₂; omega
      clear hV hsi hns hzs hds p1 p2 la₁ lsl e1 e2 e3 e4 e5 e6 o1a o1b o1c o1d o1e hd1 hzl hz15 hnl
      (refine Exists.elim ((⟨_, rfl⟩) : ∃ BA : List (Addr × Obj), BA = [(L + 1 + 1 + 1 + 1, c4), (L + 1 + 1 + 1, c3), (L + 1 + 1, co2), (L + 1, co1)]) ?_; rintro (BA) (hBA))
      refine LCg.Assign_ListComp_U (cl := [(Str.ofString "parts", L + 1 + 1)]) F₇ rfl ?sw rfl (by decide) rfl (by decide) rfl rfl rfl ?_
      case sw => first | rfl | with_unfolding_all rfl | kernel_rfl
      (repeat' (fail_if_success with_reducible first | refine zzW ?_ | refine zzF ?_ | refine zzC ?_ | refine zzL ?_ | refine zzD ?_ | refine zzCS ?_ | refine zzEn ?_ | refine zzSr ?_ | refine zzAL ?_ | refine zzAD ?_); first | k_unfold; try dsimp only | walk1 | dsimp only; walk1 | leave1; try dsimp only)
      rename Fr _ _ _ _ => F₉
      rename News _ _ _ _ => N₉
      refine LCg.CompSrc.range (n := 5) rfl F₉ N₉ (by assumption) (by decide) (by decide) (by decide) fun gc => ?_
      clear F₉ N₉
      (try clear F₇)
      (try clear N₈)
      (repeat (rename Fr _ _ _ _ => Fq; clear Fq))
      (repeat (rename News _ _ _ _ => Nq; clear Nq))
      refine compU_ind (fun c ys nw => Ex2 fun nl rs => All6 (nw = (D₂, listOf ys₂.toArray ys₂.length) :: (L + 1 + 1 + 1 + 1, c4) :: (L + 1 + 1 + 1, c3) :: (L + 1 + 1, co2) :: (L + 1, co1) :: nl) (ListsIn nl ys rs) (rs.length = c) ((∀ p ∈ rs, p.length = 3 ∧ ∀ q ∈ p, -5 ≤ q ∧ q < 256)) ((nl.map (·.1)).Nodup) (∀ p ∈ nl, ∀ q ∈ (D₂, listOf ys₂.toArray ys₂.length) :: BA, @Ne Nat q.1 p.1)) 5 ?_ ?_ _ 0 [] _ (Nat.zero_add _) ⟨[], [], rfl, .nil, rfl, by simp, by simp, by simp⟩
      · rintro c ys' nw hc hJ9 v Ic oI C oC D' m₂ hh tk' E' ⟨t, rfl⟩ hC hmx F₁₂ N₁₂ o3 ne Q2 hQ2
        (first | ((first | with_reducible refine Exists.elim hJ9 ?_ | with_reducible refine conj_elim hJ9 ?_); (try clear hJ9); rintro (nl) tmp; (first | ((first | with_reducible refine Exists.elim tmp ?_ | with_reducible refine conj_elim tmp ?_); (try clear tmp); rintro (rs) tmp; (first | ((first | with_reducible refine Exists.elim tmp ?_ | with_reducible refine conj_elim tmp ?_); (try clear tmp); rintro (rfl) tmp; (first | ((first | with_reducible refine Exists.elim tmp ?_ | with_reducible refine conj_elim tmp ?_); (try clear tmp); rintro (hli) tmp; (first | ((first | with_reducible refine Exists.elim tmp ?_ | with_reducible refine conj_elim tmp ?_); (try clear tmp); rintro (hrl) tmp; (first | ((first | with_reducible refine Exists.elim tmp ?_ | with_reducible refine conj_elim tmp ?_); (try clear tmp); rintro (hrp) tmp; (first | ((first | with_reducible refine Exists.elim tmp ?_ | with_reducible refine conj_elim tmp ?_); (try clear tmp); rintro (hnd) (hdj)) | obtain ⟨hnd, hdj⟩ := tmp)) | obtain ⟨hrp, hnd, hdj⟩ := tmp)) | obtain ⟨hrl, hrp, hnd, hdj⟩ := tmp)) | obtain ⟨hli, hrl, hrp, hnd, hdj⟩ := tmp)) | obtain ⟨rfl, hli, hrl, hrp, hnd, hdj⟩ := tmp)) | obtain ⟨rs, rfl, hli, hrl, hrp, hnd, hdj⟩ := tmp)) | obtain ⟨nl, rs, rfl, hli, hrl, hrp, hnd, hdj⟩ := hJ9)
        (repeat' (fail_if_success with_reducible first | refine zzW ?_ | refine zzF ?_ | refine zzC ?_ | refine zzL ?_ | refine zzD ?_ | refine zzCS ?_ | refine zzEn ?_ | refine zzSr ?_ | refine zzAL ?_ | refine zzAD ?_); first | k_unfold; try dsimp only | walk1 | dsimp only; walk1 | leave1; try dsimp only)
        refine slice_ints F₁₂ N₁₂ ⟨_, (N₁₂ _ (.tail _ (.tail _ (.tail _ (.head _))))).1, rfl, _, rfl⟩ hps (.int _ _) (.int _ _) (by omega) ?_
        intro a₂ h₇ zs₂ hzs₂ F₁₃ N₁₃ l₇
        have hlen3 := rule_len hpl hc
        have hmem3 : ∀ q ∈ (ps.drop (kms_lo (some (3 * (0 + (c : Int)))) ps.length)).take (kms_hi (some (3 * (0 + (c : Int)) + 3)) ps.length - kms_lo (some (3 * (0 + (c : Int)))) ps.length), -5 ≤ q ∧ q < 256 := fun q hq => hpb q (List.mem_of_mem_drop (List.mem_of_mem_take hq))
        clear F₁₂ N₁₂
        have o3' := LCg.Off3.mem o3
        refine hQ2 _ _ ?_
        refine LCg.CompEnd.intro F₁₃ N₁₃ ((D₂, listOf ys₂.toArray ys₂.length) :: (L + 1 + 1 + 1 + 1, c4) :: (L + 1 + 1 + 1, c3) :: (L + 1 + 1, co2) :: (L + 1, co1) :: ((a₂, listOf zs₂.toArray 0) :: nl)) (fun p hp => ?_) (LCg.Off3.of fun p hp => ?_) trivial ⟨(a₂, listOf zs₂.toArray 0) :: nl, rs ++ [_], rfl, ListsIn.snoc (hli.mono fun p hp => .tail _ hp) (.head _) hzs₂, by simp [hrl], ?_, ?_, ?_⟩
        · exact sub_at re37 hp
        · by_cases hpa : p.1 = a₂
          · rw [hpa]
            exact ⟨Nat.ne_of_gt (l₇ _ (.head _)), Nat.ne_of_gt (l₇ _ (.tail _ (.head _))), Nat.ne_of_gt (l₇ _ (.tail _ (.tail _ (.head _))))⟩
          · refine o3' p ?_
            simp only [List.mem_cons] at hp ⊢
            rcases hp with hp | hp | hp | hp | hp | hp | hp
            · simp only [hp, true_or, or_true]
            · simp only [hp, true_or, or_true]
            · simp only [hp, true_or, or_true]
            · simp only [hp, true_or, or_true]
            · simp only [hp, true_or, or_true]
            · exact absurd (by rw [hp]) hpa
            · simp only [hp, true_or, or_true]
        · intro p hp
          rcases List.mem_append.mp hp with hp | hp
          · exact hrp p hp
          · rw [List.mem_singleton.mp hp]; exact ⟨hlen3, hmem3⟩
        · refine List.nodup_cons.mpr ⟨fun hm => ?_, hnd⟩
          (first | ((first | refine Exists.elim (List.mem_map.mp hm) ?_ | refine conj_elim (List.mem_map.mp hm) ?_); rintro (p) tmp; (first | ((first | with_reducible refine Exists.elim tmp ?_ | with_reducible refine conj_elim tmp ?_); (try clear tmp); rintro (hp) (e)) | obtain ⟨hp, e⟩ := tmp)) | obtain ⟨p, hp, e⟩ := List.mem_map.mp hm)
          have := l₇ p (.tail _ (.tail _ (.tail _ (.tail _ (.tail _ (.tail _ (.tail _ (.tail _ hp))))))))
          dsimp only at e
          rw [e] at this
          exact Nat.lt_irrefl _ this
        · refine List.forall_mem_cons.mpr ⟨fun q hq => ?_, hdj⟩
          rw [hBA] at hq
          refine Nat.ne_of_lt (l₇ q ?_)
          simp only [List.mem_cons, List.not_mem_nil, or_false] at hq ⊢
          rcases hq with hq | hq | hq | hq | hq <;> simp only [hq, true_or, or_true]
      · rintro ys₃ nw ⟨nl, rs, rfl, hli, hrl, hrp, hnd, hdj⟩ D₃ h₇ tk₇ F₁₂ N₁₂ o1
        have o1' := off1_mem o1
        clear o1 hps
        (refine Exists.elim ((⟨_, F₁₂, if_pos rfl⟩) : ∃ mm, Fr s₁.heap L h₇ mm ∧ mm (Str.ofString "rules") = some (.ref D₃)) ?_; rintro (mm) tmp; (first | ((first | with_reducible refine Exists.elim tmp ?_ | with_reducible refine conj_elim tmp ?_); (try clear tmp); rintro (Fm) (hm1)) | obtain ⟨Fm, hm1⟩ := tmp))
        clear F₁₂
        have h3 : ∀ p ∈ rs, p.length ≤ 3 := fun p hp => Nat.le_of_eq (hrp p hp).1
        have hneg : ∀ p ∈ rs, ∀ q ∈ p, -5 ≤ q := fun p hp q hq => ((hrp p hp).2 q hq).1
        (refine Exists.elim ((⟨_, rfl⟩) : ∃ fz, fz = (D₃, listOf ys₃.toArray ys₃.length) :: nl) ?_; rintro (fz) (hfz))
        have hfzn : (fz.map (·.1)).Nodup := by
          rw [hfz]
          refine List.nodup_cons.mpr ⟨fun hm => ?_, hnd⟩
          (first | ((first | refine Exists.elim (List.mem_map.mp hm) ?_ | refine conj_elim (List.mem_map.mp hm) ?_); rintro (p) tmp; (first | ((first | with_reducible refine Exists.elim tmp ?_ | with_reducible refine conj_elim tmp ?_); (try clear tmp); rintro (hp) (e)) | obtain ⟨hp, e⟩ := tmp)) | obtain ⟨p, hp, e⟩ := List.mem_map.mp hm)
          exact o1' p (.tail _ (.tail _ (.tail _ (.tail _ (.tail _ hp))))) e
        have hrz : (D₃, listOf ys₃.toArray ys₃.length) ∈ fz := hfz ▸ .head _
        have hli' : ListsIn fz ys₃ rs := hli.mono fun p hp => hfz ▸ .tail _ hp
        have hdz : ∀ p ∈ fz, ∀ q ∈ BA, @Ne Nat q.1 p.1 := fun p hp q hq => by
          rw [hfz] at hp
          rcases List.mem_cons.mp hp with rfl | hp
          · refine o1' q (List.mem_cons_of_mem _ ?_)
            rw [hBA] at hq
            simp only [List.mem_cons, List.not_mem_nil, or_false] at hq ⊢
            rcases hq with hq | hq | hq | hq <;> simp only [hq, true_or, or_true]
          · exact hdj p hp q (.tail _ hq)
        have N₁₃ : News s₁.heap L h₇ (BA ++ fz) := fun p hp => N₁₂ p (by
          rw [hBA, hfz] at hp
          exact sub_at re38 hp)
        clear N₁₂ o1' hdj hli hnd
        (repeat' (fail_if_success with_reducible first | refine zzW ?_ | refine zzF ?_ | refine zzC ?_ | refine zzL ?_ | refine zzD ?_ | refine zzCS ?_ | refine zzEn ?_ | refine zzSr ?_ | refine zzAL ?_ | refine zzAD ?_); first | k_unfold; try dsimp only | walk1 | dsimp only; walk1 | leave1; try dsimp only)
        refine call_use B Fm N₁₃ XB TB KD fz BA (fun p hp => List.mem_append_right _ hp) (fun p hp => List.mem_append_left _ hp) hdz ?_
        intro gg SS back _ _
        refine texts_spec SS hrz hli' hrl h3 (by decide) (by decide) ?_
        intro dA od kvs tl h₈ tk₈ hod htx lod hnd2 Dn
        (first | ((first | refine Exists.elim (back _ _ Dn) ?_ | refine conj_elim (back _ _ Dn) ?_); rintro (F₁₄) tmp; (first | ((first | with_reducible refine Exists.elim tmp ?_ | with_reducible refine conj_elim tmp ?_); (try clear tmp); rintro (N₁₄) (hne₁₄)) | obtain ⟨N₁₄, hne₁₄⟩ := tmp)) | obtain ⟨F₁₄, N₁₄, hne₁₄⟩ := back _ _ Dn)
        clear Fm N₁₃ SS back Dn
        (refine Exists.elim ((⟨_, rfl⟩) : ∃ tl', tl' = apartOf tl fz) ?_; rintro (tl') (htl'))
        have hsubT : ∀ p ∈ tl ++ fz, p ∈ tl' ++ fz := htl' ▸ apartOf_mem N₁₄ (fun p hp => List.mem_append_left _ (.tail _ hp))
        have hsubT' : ∀ p ∈ tl' ++ fz, p ∈ tl ++ fz := fun p hp => (List.mem_append.mp hp).elim (fun h => List.mem_append_left _ (apartOf_sub p (htl' ▸ h))) (fun h => List.mem_append_right _ h)
        have hapT : ∀ p ∈ tl', ∀ q ∈ fz, @Ne Nat p.1 q.1 := htl' ▸ apartOf_ne
        have htx' := htx.mono hsubT
        have hnd3 : ∀ p ∈ tl' ++ fz, @Ne Nat p.1 dA := fun p hp => hnd2 p (hsubT' p hp)
        have hne₁₅ : ∀ p ∈ (dA, od) :: (tl' ++ fz), ∀ q ∈ BA, @Ne Nat p.1 q.1 := fun p hp => hne₁₄ p ((List.mem_cons.mp hp).elim (fun h => List.mem_cons.mpr (.inl h)) fun h => .tail _ (hsubT' p h))
        have mb3 : (L + 1 + 1 + 1, c3) ∈ BA := hBA ▸ .tail _ (.head _)
        have mb4 : (L + 1 + 1 + 1 + 1, c4) ∈ BA := hBA ▸ .head _
        have N₁₅ : News s₁.heap L h₈ ((L + 1 + 1 + 1, c3) :: (L + 1 + 1 + 1 + 1, c4) :: (dA, od) :: (tl' ++ fz)) := fun p hp => N₁₄ p (by
          rcases List.mem_cons.mp hp with rfl | hp
          · exact List.mem_append_right _ mb3
          rcases List.mem_cons.mp hp with rfl | hp
          · exact List.mem_append_right _ mb4
          rcases List.mem_cons.mp hp with rfl | hp
          · exact .head _
          · exact .tail _ (List.mem_append_left _ (hsubT' p hp)))
        clear N₁₄ hne₁₄ htx hnd2 hsubT hsubT' htl'
        dsimp only
        refine storeX_C (c := L + 1 + 1 + 1) F₁₄ N₁₅ rfl (UpdF.head fun p hp => ?_) hc3 ?_
        · rcases List.mem_cons.mp hp with rfl | hp
          · show @Ne Nat _ _; omega
          · exact hne₁₅ p hp _ mb3
        intro h₉ c3' F₁₅ N₁₆ hc3'
        clear F₁₄ N₁₅
        (repeat' (fail_if_success with_reducible first | refine zzW ?_ | refine zzF ?_ | refine zzC ?_ | refine zzL ?_ | refine zzD ?_ | refine zzCS ?_ | refine zzEn ?_ | refine zzSr ?_ | refine zzAL ?_ | refine zzAD ?_ | refine zzSt ?_ | refine zzLen ?_); first | k_unfold; try dsimp only | walk1 | dsimp only; walk1 | leave1; try dsimp only)
        refine call_use B F₁₅ N₁₆ XB TB KD fz ((L + 1 + 1 + 1, c3') :: (L + 1 + 1 + 1 + 1, c4) :: (dA, od) :: tl') (fun p hp => .tail _ (.tail _ (.tail _ (List.mem_append_right _ hp)))) (fun p hp => by
          exact sub_at re39 hp) (fun p hp q hq => by
          simp only [List.mem_cons] at hq
          rcases hq with rfl | rfl | rfl | hq
          · have z := hdz p hp _ mb3
            exact z
          · exact hdz p hp _ mb4
          · exact Ne.symm (hnd3 p (List.mem_append_right _ hp))
          · exact hapT q hq p hp) ?_
        intro gg SS _ backT _
        refine handed_spec SS hrz hli' hrl h3 hfzn hneg (by decide) (by decide) ?_
        intro g₂ tA cA kvt odt tl₂ T h₁₀ tk₁₀ n T₂ hodt hkt hTn hTD htold loc hcA Dn
        (first | ((first | refine Exists.elim (backT _ _ _ T₂ Dn) ?_ | refine conj_elim (backT _ _ _ T₂ Dn) ?_); rintro (g₃) tmp; (first | ((first | with_reducible refine Exists.elim tmp ?_ | with_reducible refine conj_elim tmp ?_); (try clear tmp); rintro (T₃) tmp; (first | ((first | with_reducible refine Exists.elim tmp ?_ | with_reducible refine conj_elim tmp ?_); (try clear tmp); rintro (F₁₆) tmp; (first | ((first | with_reducible refine Exists.elim tmp ?_ | with_reducible refine conj_elim tmp ?_); (try clear tmp); rintro (N₁₇) tmp; (first | ((first | with_reducible refine Exists.elim tmp ?_ | with_reducible refine conj_elim tmp ?_); (try clear tmp); rintro (B₃) tmp; (first | ((first | with_reducible refine Exists.elim tmp ?_ | with_reducible refine conj_elim tmp ?_); (try clear tmp); rintro (X₃) tmp; (first | ((first | with_reducible refine Exists.elim tmp ?_ | with_reducible refine conj_elim tmp ?_); (try clear tmp); rintro (P₃) tmp; (first | ((first | with_reducible refine Exists.elim tmp ?_ | with_reducible refine conj_elim tmp ?_); (try clear tmp); rintro (KD₃) (hne₁₇)) | obtain ⟨KD₃, hne₁₇⟩ := tmp)) | obtain ⟨P₃, KD₃, hne₁₇⟩ := tmp)) | obtain ⟨X₃, P₃, KD₃, hne₁₇⟩ := tmp)) | obtain ⟨B₃, X₃, P₃, KD₃, hne₁₇⟩ := tmp)) | obtain ⟨N₁₇, B₃, X₃, P₃, KD₃, hne₁₇⟩ := tmp)) | obtain ⟨F₁₆, N₁₇, B₃, X₃, P₃, KD₃, hne₁₇⟩ := tmp)) | obtain ⟨T₃, F₁₆, N₁₇, B₃, X₃, P₃, KD₃, hne₁₇⟩ := tmp)) | obtain ⟨g₃, T₃, F₁₆, N₁₇, B₃, X₃, P₃, KD₃, hne₁₇⟩ := backT _ _ _ T₂ Dn)
        clear F₁₅ N₁₆ SS backT Dn B KD
        dsimp only
        (repeat' (fail_if_success with_reducible first | refine zzW ?_ | refine zzF ?_ | refine zzC ?_ | refine zzL ?_ | refine zzD ?_ | refine zzCS ?_ | refine zzEn ?_ | refine zzSr ?_ | refine zzAL ?_ | refine zzAD ?_ | refine zzSt ?_ | refine zzLen ?_); first | k_unfold; try dsimp only | walk1 | dsimp only; walk1 | leave1; try dsimp only)
        rename Fr _ _ _ _ => Fp
        rename News _ _ _ _ => Np
        refine storeX_L Fp Np ?_
        intro h₁₁ F₁₇ N₁₈
        (try clear Fp Np)
        (try clear F₁₆ N₁₇)
        (repeat' (fail_if_success with_reducible first | refine zzW ?_ | refine zzF ?_ | refine zzC ?_ | refine zzL ?_ | refine zzD ?_ | refine zzCS ?_ | refine zzEn ?_ | refine zzSr ?_ | refine zzAL ?_ | refine zzAD ?_ | refine zzSt ?_ | refine zzLen ?_); first | k_unfold; try dsimp only | walk1 | dsimp only; walk1 | leave1; try dsimp only)
        have N₁₉ : News g₃ L h₁₁ ((L + 1 + 1 + 1 + 1, c4) :: (L + 1 + 1 + 1, c3') :: (dA, od) :: (cA, odt) :: (tl₂ ++ (tl' ++ fz))) := fun p hp => N₁₈ p (by
          exact sub_at re40 hp)
        clear N₁₈
        have hne₁₈ : ∀ p ∈ (cA, odt) :: (tl₂ ++ fz), ∀ q ∈ (L + 1 + 1 + 1, c3') :: (L + 1 + 1 + 1 + 1, c4) :: (dA, od) :: tl', @Ne Nat p.1 q.1 := fun p hp => hne₁₇ p (.tail _ hp)
        clear hne₁₇
        refine storeX_C (c := L + 1 + 1 + 1 + 1) F₁₇ N₁₉ rfl (UpdF.head fun p hp => ?_) hc4 ?_
        · rcases List.mem_cons.mp hp with rfl | hp
          · show @Ne Nat _ _; omega
          rcases List.mem_cons.mp hp with rfl | hp
          · have z := hne₁₅ _ (.head _) _ mb4
            exact z
          rcases List.mem_cons.mp hp with rfl | hp
          · exact hne₁₈ _ (.head _) _ (.tail _ (.head _))
          rcases List.mem_append.mp hp with hp | hp
          · exact hne₁₈ p (.tail _ (List.mem_append_left _ hp)) _ (.tail _ (.head _))
          · exact hne₁₅ p (.tail _ hp) _ mb4
        intro h₁₂ c4' F₁₈ N₂₀ hc4'
        clear F₁₇ N₁₉
        (repeat' (fail_if_success with_reducible first | refine zzW ?_ | refine zzF ?_ | refine zzC ?_ | refine zzL ?_ | refine zzD ?_ | refine zzCS ?_ | refine zzEn ?_ | refine zzSr ?_ | refine zzAL ?_ | refine zzAD ?_ | refine zzSt ?_ | refine zzLen ?_); first | k_unfold; try dsimp only | walk1 | dsimp only; walk1 | leave1; try dsimp only)
        rename Fr _ _ _ _ => Fq
        rename News _ _ _ _ => Nq
        have hkk := htx'.keys
        have hkl : kvs.length = (textsP rs 5).length := by have := congrArg List.length hkk; simpa [keysP] using this
        have hk5 : (textsP rs 5).length ≤ 5 := (BInv.texts h3 5).small
        refine call_len_dict lod (Heap.dictOf_iff.mpr ⟨od, (Nq _ (.tail _ (.tail _ (.head _)))).1, hod⟩) (by rw [hkl]; omega) ?_
        rw [hkl]
        (repeat' (fail_if_success with_reducible first | refine zzW ?_ | refine zzF ?_ | refine zzC ?_ | refine zzL ?_ | refine zzD ?_ | refine zzCS ?_ | refine zzEn ?_ | refine zzSr ?_ | refine zzAL ?_ | refine zzAD ?_ | refine zzSt ?_ | refine zzLen ?_); first | k_unfold; try dsimp only | walk1 | dsimp only; walk1 | leave1; try dsimp only)
        · rename_i hbad
          exfalso
          have e : decide (((textsP rs 5).length : Int) < 5) = decide ((textsP rs 5).length < 5) := decide_eq_decide.mpr (by omega)
          rw [e] at hbad
          simp at hbad
        · (refine Exists.elim ((⟨_, Fq, by (repeat (first | with_reducible assumption | refine Eq.trans (if_pos rfl) ?_; exact rfl | refine Eq.trans (if_neg (by decide)) ?_))⟩) : ∃ m2, Fr g₃ L h₁₂ m2 ∧ m2 (Str.ofString "rules") = some (.ref D₃)) ?_; rintro (m2) tmp; (first | ((first | with_reducible refine Exists.elim tmp ?_ | with_reducible refine conj_elim tmp ?_); (try clear tmp); rintro (F₂₁) (hmr)) | obtain ⟨F₂₁, hmr⟩ := tmp))
          (refine Exists.elim ((⟨_, rfl⟩) : ∃ fr, fr = tl₂ ++ fz) ?_; rintro (fr) (hfr))
          have N₂₁ : News g₃ L h₁₂ ((L + 1 + 1 + 1 + 1, c4') :: (L + 1 + 1 + 1, c3') :: (cA, odt) :: (dA, od) :: ([] ++ (fr ++ tl'))) := fun p hp => Nq p (by
            rw [hfr] at hp
            exact sub_at re41 hp)
          rw [← hfr] at htold hcA
          have hdf : ∀ p ∈ (cA, odt) :: fr, ∀ q ∈ (L + 1 + 1 + 1, c3') :: (L + 1 + 1 + 1 + 1, c4) :: (dA, od) :: tl', @Ne Nat p.1 q.1 := hfr ▸ hne₁₈
          clear Fq Nq hne₁₈ hne₁₅ hapT hdz
          have hT5 : T.length ≤ 5 := by rw [same_len hTn (TI.texts (rs := rs) 5).nd hTD]; simpa [keysP] using hk5
          refine Assign_DictComp_D (L := L) (m := m2) (cl := [(Str.ofString "told", L + 1 + 1 + 1 + 1)]) (PySem.intKind P w) rfl ?sw rfl (by decide) rfl (by decide) rfl rfl rfl ?_
          case sw => first | rfl | with_unfolding_all rfl | kernel_rfl
          refine nameX_C N₂₁ rfl (.head _) hc4' ?_
          refine ⟨cA, odt, kvt, g₃, _, fun i g kvs' nw => g = g₃ ∧ ∃ el, nw = (L + 1 + 1 + 1 + 1, c4') :: (L + 1 + 1 + 1, c3') :: (cA, odt) :: (dA, od) :: (el ++ (fr ++ tl')) ∧ kvs'.map (·.1) = T.take i ∧ ListsBy (fun k => endP (tof rs k)) (el ++ fr) kvs' ∧ (∀ p ∈ el, ∀ q ∈ fr, @Ne Nat p.1 q.1),
            rfl, rfl, F₂₁, N₂₁, .tail _ (.tail _ (.head _)), hodt, loc, P₃.nolimit, ?_, ⟨rfl, [], rfl, rfl, (fun k v hm => by cases hm), by simp⟩, ?_, ?_⟩
          · rintro i g kvs' nw ⟨rfl, el, rfl, hk', _, _⟩
            refine ⟨.tail _ (.tail _ (.head _)), ?_⟩
            have := congrArg List.length hk'
            rw [List.length_map, List.length_take] at this
            rw [sizeLine_eq]; omega
          · rintro i g kvs' nw k v key oI I C oC D od' m₂ h tk E' ⟨rfl, el, rfl, hk', hel, hed⟩ hkv hkey hC hmx F₂₂ N₂₂ o3 ne
            (first | ((first | refine Exists.elim (key_int (show Value.isInt k key = true from hkey)) ?_ | refine conj_elim (key_int (show Value.isInt k key = true from hkey)) ?_); rintro (kt) (rfl)) | obtain ⟨kt, rfl⟩ := key_int (show Value.isInt k key = true from hkey))
            clear F₂₁ N₂₁
            (first | ((first | refine Exists.elim (take_snoc hkt hkv) ?_ | refine conj_elim (take_snoc hkt hkv) ?_); rintro (ht1) tmp; (first | ((first | with_reducible refine Exists.elim tmp ?_ | with_reducible refine conj_elim tmp ?_); (try clear tmp); rintro (ht2) (ht3)) | obtain ⟨ht2, ht3⟩ := tmp)) | obtain ⟨ht1, ht2, ht3⟩ := take_snoc hkt hkv)
            (first | ((first | refine Exists.elim (valueAt_of (kvs := kvt) (k := k) (by rw [hkt]; exact ht3)) ?_ | refine conj_elim (valueAt_of (kvs := kvt) (k := k) (by rw [hkt]; exact ht3)) ?_); rintro (v') tmp; (first | ((first | with_reducible refine Exists.elim tmp ?_ | with_reducible refine conj_elim tmp ?_); (try clear tmp); rintro (hv1) (hv2)) | obtain ⟨hv1, hv2⟩ := tmp)) | obtain ⟨v', hv1, hv2⟩ := valueAt_of (kvs := kvt) (k := k) (by rw [hkt]; exact ht3))
            have hkD := (hTD k).mp ht3
            (first | ((first | refine Exists.elim (pairs_last (htold k v' hv2) (tof_wf h3 hkD)) ?_ | refine conj_elim (pairs_last (htold k v' hv2) (tof_wf h3 hkD)) ?_); rintro (a) tmp; (first | ((first | with_reducible refine Exists.elim tmp ?_ | with_reducible refine conj_elim tmp ?_); (try clear tmp); rintro (vs) tmp; (first | ((first | with_reducible refine Exists.elim tmp ?_ | with_reducible refine conj_elim tmp ?_); (try clear tmp); rintro (t) tmp; (first | ((first | with_reducible refine Exists.elim tmp ?_ | with_reducible refine conj_elim tmp ?_); (try clear tmp); rintro (n') tmp; (first | ((first | with_reducible refine Exists.elim tmp ?_ | with_reducible refine conj_elim tmp ?_); (try clear tmp); rintro (o) tmp; (first | ((first | with_reducible refine Exists.elim tmp ?_ | with_reducible refine conj_elim tmp ?_); (try clear tmp); rintro (x) tmp; (first | ((first | with_reducible refine Exists.elim tmp ?_ | with_reducible refine conj_elim tmp ?_); (try clear tmp); rintro (y) tmp; (first | ((first | with_reducible refine Exists.elim tmp ?_ | with_reducible refine conj_elim tmp ?_); (try clear tmp); rintro (c) tmp; (first | ((first | with_reducible refine Exists.elim tmp ?_ | with_reducible refine conj_elim tmp ?_); (try clear tmp); rintro (rfl) tmp; (first | ((first | with_reducible refine Exists.elim tmp ?_ | with_reducible refine conj_elim tmp ?_); (try clear tmp); rintro (hm1) tmp; (first | ((first | with_reducible refine Exists.elim tmp ?_ | with_reducible refine conj_elim tmp ?_); (try clear tmp); rintro (hm2) tmp; (first | ((first | with_reducible refine Exists.elim tmp ?_ | with_reducible refine conj_elim tmp ?_); (try clear tmp); rintro (hm3) tmp; (first | ((first | with_reducible refine Exists.elim tmp ?_ | with_reducible refine conj_elim tmp ?_); (try clear tmp); rintro (hm4) tmp; (first | ((first | with_reducible refine Exists.elim tmp ?_ | with_reducible refine conj_elim tmp ?_); (try clear tmp); rintro (hm5) (hm6)) | obtain ⟨hm5, hm6⟩ := tmp)) | obtain ⟨hm4, hm5, hm6⟩ := tmp)) | obtain ⟨hm3, hm4, hm5, hm6⟩ := tmp)) | obtain ⟨hm2, hm3, hm4, hm5, hm6⟩ := tmp)) | obtain ⟨hm1, hm2, hm3, hm4, hm5, hm6⟩ := tmp)) | obtain ⟨rfl, hm1, hm2, hm3, hm4, hm5, hm6⟩ := tmp)) | obtain ⟨c, rfl, hm1, hm2, hm3, hm4, hm5, hm6⟩ := tmp)) | obtain ⟨y, c, rfl, hm1, hm2, hm3, hm4, hm5, hm6⟩ := tmp)) | obtain ⟨x, y, c, rfl, hm1, hm2, hm3, hm4, hm5, hm6⟩ := tmp)) | obtain ⟨o, x, y, c, rfl, hm1, hm2, hm3, hm4, hm5, hm6⟩ := tmp)) | obtain ⟨n', o, x, y, c, rfl, hm1, hm2, hm3, hm4, hm5, hm6⟩ := tmp)) | obtain ⟨t, n', o, x, y, c, rfl, hm1, hm2, hm3, hm4, hm5, hm6⟩ := tmp)) | obtain ⟨vs, t, n', o, x, y, c, rfl, hm1, hm2, hm3, hm4, hm5, hm6⟩ := tmp)) | obtain ⟨a, vs, t, n', o, x, y, c, rfl, hm1, hm2, hm3, hm4, hm5, hm6⟩ := pairs_last (htold k v' hv2) (tof_wf h3 hkD))
            refine LCgL.ld_own N₂₂ (.tail _ (.head _)) hC hmx ?_
            walk1
            walk1
            refine LCgL.ld_global F₂₂ X₃ P₃ (by k_is) ?_
            walk1
            walk1
            walk1
            refine lcf_cell N₂₂ rfl (.tail _ (.tail _ (.tail _ (.head _)))) hc4' ?_ (by rfl) (by rfl)
            refine LCgL.ld_own N₂₂ (.tail _ (.head _)) hC hmx ?_
            refine kda_item (knd := PySem.intKind P w) N₂₂ (.tail _ (.tail _ (.tail _ (.tail _ (.tail _ (.head _)))))) hodt (intKind_is _ _ _ _) hv1 ?_
            (repeat' (fail_if_success with_reducible first | refine zzW ?_ | refine zzF ?_ | refine zzC ?_ | refine zzL ?_ | refine zzD ?_ | refine zzCS ?_ | refine zzEn ?_ | refine zzSr ?_ | refine zzAL ?_ | refine zzAD ?_ | refine zzSt ?_ | refine zzLen ?_ | refine zzAd ?_ | refine zzSu ?_); first | k_unfold; try dsimp only | walk1 | dsimp only; walk1 | leave1; try dsimp only)
            refine call_use B₃ F₂₂ N₂₂ XB TB KD₃ fr ((I, oI) :: (C, oC) :: (D, od') :: (L + 1 + 1 + 1 + 1, c4') :: (L + 1 + 1 + 1, c3') :: (cA, odt) :: (dA, od) :: (el ++ tl')) (fun p hp => .tail _ (.tail _ (.tail _ (.tail _ (.tail _ (.tail _ (.tail _ (List.mem_append_right _ (List.mem_append_left _ hp))))))))) (fun p hp => by
              exact sub_at re42 hp) (fun p hp q hq => by
              have z := LCg.Off3.mem o3 p (.tail _ (.tail _ (.tail _ (.tail _ (List.mem_append_right _ (List.mem_append_left _ hp))))))
              simp only [List.mem_cons, List.mem_append] at hq
              rcases hq with rfl | rfl | rfl | rfl | rfl | rfl | rfl | hq | hq
              · exact Ne.symm z.1
              · exact Ne.symm z.2.1
              · exact Ne.symm z.2.2
              · have y := hdf p (.tail _ hp) _ (.tail _ (.head _))
                exact Ne.symm y
              · have y := hdf p (.tail _ hp) _ (.head _)
                exact Ne.symm y
              · exact Ne.symm (hcA p hp)
              · exact Ne.symm (hdf p (.tail _ hp) _ (.tail _ (.tail _ (.head _))))
              · exact hed q hq p hp
              · exact Ne.symm (hdf p (.tail _ hp) q (.tail _ (.tail _ (.tail _ hq))))) ?_
            intro gg SS back _ _
            refine ended_spec SS hm1 hm2 hm3 hm4 hm5 (by decide) (by decide) ?_
            intro c' ws k' h' tk' hws Dn
            (first | ((first | refine Exists.elim (back _ _ Dn) ?_ | refine conj_elim (back _ _ Dn) ?_); rintro (F₂₃) tmp; (first | ((first | with_reducible refine Exists.elim tmp ?_ | with_reducible refine conj_elim tmp ?_); (try clear tmp); rintro (N₂₃) (hne₂₃)) | obtain ⟨N₂₃, hne₂₃⟩ := tmp)) | obtain ⟨F₂₃, N₂₃, hne₂₃⟩ := back _ _ Dn)
            clear F₂₂ N₂₂ SS back Dn
            have hmemc := apartOf_mem (tl := [(c', listOf ws.toArray k')]) (fz := fr) N₂₃ (fun p hp => List.mem_append_left _ hp)
            have hst : stored kvs' k (.ref c') = kvs' ++ [(k, .ref c')] := stored_none (valueAt_none (by rw [hk']; exact ht2 hTn))
            dsimp only
            refine ⟨g, h', tk', (L + 1 + 1 + 1 + 1, c4') :: (L + 1 + 1 + 1, c3') :: (cA, odt) :: (dA, od) :: ((apartOf [(c', listOf ws.toArray k')] fr ++ el) ++ (fr ++ tl')), k, intKind_is _ _ _ _, rfl, F₂₃, fun p hp => N₂₃ p ?_, LCg.Off3.of fun p hp => ?_, rfl, _, rfl, ?_, ?_, ?_⟩
            · simp only [List.mem_cons, List.mem_append] at hp ⊢
              rcases hp with hp | hp | hp | hp | hp | hp | hp | (hp | hp) | hp | hp
              · simp only [hp, true_or, or_true]
              · simp only [hp, true_or, or_true]
              · simp only [hp, true_or, or_true]
              · simp only [hp, true_or, or_true]
              · simp only [hp, true_or, or_true]
              · simp only [hp, true_or, or_true]
              · simp only [hp, true_or, or_true]
              · have := apartOf_sub p hp
                rw [List.mem_singleton] at this
                simp only [this, true_or, or_true]
              · simp only [hp, true_or, or_true]
              · simp only [hp, true_or, or_true]
              · simp only [hp, true_or, or_true]
            · by_cases hpa : p ∈ apartOf [(c', listOf ws.toArray k')] fr
              · have := apartOf_sub p hpa
                rw [List.mem_singleton] at this
                rw [this]
                have z := hne₂₃ _ (.head _)
                exact ⟨z _ (.head _), z _ (.tail _ (.head _)), z _ (.tail _ (.tail _ (.head _)))⟩
              · refine LCg.Off3.mem o3 p ?_
                simp only [List.mem_cons, List.mem_append] at hp ⊢
                rcases hp with hp | hp | hp | hp | (hp | hp) | hp | hp
                · simp only [hp, true_or, or_true]
                · simp only [hp, true_or, or_true]
                · simp only [hp, true_or, or_true]
                · simp only [hp, true_or, or_true]
                · exact absurd hp hpa
                · simp only [hp, true_or, or_true]
                · simp only [hp, true_or, or_true]
                · simp only [hp, true_or, or_true]
            · rw [hst, List.map_append, hk', ht1]; rfl
            · rw [hst]
              have hmm := hmemc _ (.head _)
              refine ListsBy.snoc (hel.mono fun p hp => ?_) (k := k) (a := c') (ws := ws) (c := k') ?_ (by rw [hm6]; exact hws)
              · rw [List.append_assoc]; exact List.mem_append_right _ hp
              · rcases List.mem_append.mp hmm with h | h
                · exact List.mem_append_left _ (List.mem_append_left _ h)
                · exact List.mem_append_right _ h
            · intro p hp q hq
              rcases List.mem_append.mp hp with hp | hp
              · exact apartOf_ne p hp q hq
              · exact hed p hp q hq
          · rintro D od' g kvs' nw h tk ⟨rfl, el, rfl, hk', hel, hed⟩ F₂₂ N₂₂ hd' hDm hnD
            clear F₂₁ N₂₁
            (repeat' (fail_if_success with_reducible first | refine zzW ?_ | refine zzF ?_ | refine zzC ?_ | refine zzL ?_ | refine zzD ?_ | refine zzCS ?_ | refine zzEn ?_ | refine zzSr ?_ | refine zzAL ?_ | refine zzAD ?_ | refine zzSt ?_ | refine zzLen ?_ | refine zzAd ?_ | refine zzSu ?_); first | k_unfold; try dsimp only | walk1 | dsimp only; walk1 | leave1; try dsimp only)
            (refine Exists.elim ((⟨_, F₂₂⟩) : ∃ m3, Fr g L h m3) ?_; rintro (m3) (F₂₃))
            (refine Exists.elim ((⟨_, rfl⟩) : ∃ ke, ke = (D, od') :: (el ++ (fr ++ tl'))) ?_; rintro (ke) (hke))
            have N₂₃ : News g L h ((L + 1 + 1 + 1, c3') :: (dA, od) :: ([] ++ ke)) := fun p hp => N₂₂ p (by
              rw [hke] at hp
              exact sub_at re43 hp)
            clear F₂₂ N₂₂
            have mfz : ∀ p ∈ tl' ++ fz, p ∈ ke := fun p hp => by
              rw [hke, hfr]
              exact sub_at re44 hp
            have hoct : ∀ r ∈ keysP (textsP rs 5), ∀ x ∈ lookP (textsP rs 5) r ++ [5], 0 ≤ x ∧ x < 256 := fun r hr x hx => by
              rcases List.mem_append.mp hx with hx | hx
              · exact textsP_all (Pr := fun x => 0 ≤ x ∧ x < 256) (fun p hp q hq h0 => ⟨h0, ((hrp p hp).2 q hq).2⟩) r hr x hx
              · rw [List.mem_singleton.mp hx]; decide
            have hX₃ := X₃
            refine DictComp_D (L := L) (m := m3) (cl := [(Str.ofString "texts", L + 1 + 1 + 1)]) (PySem.intKind P w) rfl (by decide) rfl (by decide) rfl ?_
            refine nameX_C N₂₃ rfl (.head _) hc3' ?_
            refine ⟨dA, od, kvs, g, _, fun i g' kvs2 nw => (Below callerA s₁.heap [] g' ∧ (Mine.hd.heap_1 w.params).In g' ∧ TT mean mg mb g' ∧ KtsDicts (frs []) g') ∧ ∃ rl, nw = (L + 1 + 1 + 1, c3') :: (dA, od) :: (rl ++ ke) ∧ kvs2.map (·.1) = (keysP (textsP rs 5)).take i ∧ ListsBy (fun k => readAll ((lookP (textsP rs 5) k ++ [5]).length + 1) (lookP (textsP rs 5) k ++ [5])) rl kvs2,
              rfl, rfl, F₂₃, N₂₃, .tail _ (.head _), hod, lod, P₃.nolimit, ?_, ⟨⟨B₃, X₃, P₃, KD₃⟩, [], rfl, rfl, fun k v hm => by cases hm⟩, ?_, ?_⟩
            · rintro i g' kvs2 nw ⟨_, rl, rfl, hk2, _⟩
              refine ⟨.tail _ (.head _), ?_⟩
              have := congrArg List.length hk2
              rw [List.length_map, List.length_take] at this
              have e5 : (keysP (textsP rs 5)).length ≤ 5 := by simpa [keysP] using hk5
              rw [sizeLine_eq]; omega
            · clear F₂₃ N₂₃
              rintro i g' kvs2 nw k v key oI I C oC D2 od2 m₂ h tk E' ⟨⟨B', X', P', K'⟩, rl, rfl, hk2, hl2⟩ hkv hkey hC hmx F₂₄ N₂₄ o3 ne
              (first | ((first | refine Exists.elim (key_int (show Value.isInt k key = true from hkey)) ?_ | refine conj_elim (key_int (show Value.isInt k key = true from hkey)) ?_); rintro (kt) (rfl)) | obtain ⟨kt, rfl⟩ := key_int (show Value.isInt k key = true from hkey))
              (first | ((first | refine Exists.elim (take_snoc hkk hkv) ?_ | refine conj_elim (take_snoc hkk hkv) ?_); rintro (ht1) tmp; (first | ((first | with_reducible refine Exists.elim tmp ?_ | with_reducible refine conj_elim tmp ?_); (try clear tmp); rintro (ht2) (ht3)) | obtain ⟨ht2, ht3⟩ := tmp)) | obtain ⟨ht1, ht2, ht3⟩ := take_snoc hkk hkv)
              (first | ((first | refine Exists.elim (htx'.get ht3) ?_ | refine conj_elim (htx'.get ht3) ?_); rintro (a) tmp; (first | ((first | with_reducible refine Exists.elim tmp ?_ | with_reducible refine conj_elim tmp ?_); (try clear tmp); rintro (ws) tmp; (first | ((first | with_reducible refine Exists.elim tmp ?_ | with_reducible refine conj_elim tmp ?_); (try clear tmp); rintro (c) tmp; (first | ((first | with_reducible refine Exists.elim tmp ?_ | with_reducible refine conj_elim tmp ?_); (try clear tmp); rintro (hv1) tmp; (first | ((first | with_reducible refine Exists.elim tmp ?_ | with_reducible refine conj_elim tmp ?_); (try clear tmp); rintro (hv2) (hv3)) | obtain ⟨hv2, hv3⟩ := tmp)) | obtain ⟨hv1, hv2, hv3⟩ := tmp)) | obtain ⟨c, hv1, hv2, hv3⟩ := tmp)) | obtain ⟨ws, c, hv1, hv2, hv3⟩ := tmp)) | obtain ⟨a, ws, c, hv1, hv2, hv3⟩ := htx'.get ht3)
              refine LCgL.ld_own N₂₄ (.tail _ (.head _)) hC hmx ?_
              walk1
              walk1
              refine LCgL.ld_global F₂₄ X' P' (by k_is) ?_
              walk1
              walk1
              walk1
              walk1
              refine lcf_cell N₂₄ rfl (.tail _ (.tail _ (.tail _ (.head _)))) hc3' ?_ (by rfl) (by rfl)
              refine LCgL.ld_own N₂₄ (.tail _ (.head _)) hC hmx ?_
              refine kda_item (knd := PySem.intKind P w) N₂₄ (.tail _ (.tail _ (.tail _ (.tail _ (.head _))))) hod (intKind_is _ _ _ _) hv1 ?_
              walk1
              walk1
              walk1
              walk1
              refine newList_K F₂₄ N₂₄ ?_ (by rw [sizeLine_eq]; simp)
              intro l5 h₂₅ F₂₅ N₂₅ ll5
              refine add_at (vs := ws) (ws := [Value.int 5 _]) F₂₅ N₂₅ (.tail _ (.tail _ (.tail _ (.tail _ (.tail _ (.tail _ (List.mem_append_right _ (mfz _ hv2)))))))) (.head _) (by
                have h1 := hv3.length
                have h2 := textsP_len h3 k
                simp; omega) ?_
              intro a2 h₂₆ F₂₆ N₂₆ ll2
              clear F₂₄ N₂₄ F₂₅ N₂₅ ll5
              (repeat' (fail_if_success with_reducible first | refine zzW ?_ | refine zzF ?_ | refine zzC ?_ | refine zzL ?_ | refine zzD ?_ | refine zzCS ?_ | refine zzEn ?_ | refine zzSr ?_ | refine zzAL ?_ | refine zzAD ?_ | refine zzSt ?_ | refine zzLen ?_ | refine zzAd ?_ | refine zzSu ?_); first | k_unfold; try dsimp only | walk1 | dsimp only; walk1 | leave1; try dsimp only)
              refine call_use B' F₂₆ N₂₆ XB TB K' [(a2, listOf (ws ++ [Value.int 5 _]).toArray 0)] ((I, oI) :: (C, oC) :: (D2, od2) :: (L + 1 + 1 + 1, c3') :: (dA, od) :: (rl ++ ke)) (fun p hp => by rw [List.mem_singleton.mp hp]; exact .head _) (fun p hp => .tail _ (.tail _ hp)) (fun p hp q hq => by
                rw [List.mem_singleton.mp hp]
                exact Nat.ne_of_lt (ll2 q (.tail _ hq))) ?_
              intro gg SS _ backT _
              refine read_spec SS (hv3.append (.cons _ _ .nil)) (hoct k ht3) (by
                have h2 := textsP_len h3 k
                simp; omega) (by decide) (by decide) ?_
              intro g2 Nn k' ws2 h' tk' T2 hws2 hNl Dn
              (first | ((first | refine Exists.elim (backT _ _ _ T2 Dn) ?_ | refine conj_elim (backT _ _ _ T2 Dn) ?_); rintro (g3) tmp; (first | ((first | with_reducible refine Exists.elim tmp ?_ | with_reducible refine conj_elim tmp ?_); (try clear tmp); rintro (T3') tmp; (first | ((first | with_reducible refine Exists.elim tmp ?_ | with_reducible refine conj_elim tmp ?_); (try clear tmp); rintro (F₂₇) tmp; (first | ((first | with_reducible refine Exists.elim tmp ?_ | with_reducible refine conj_elim tmp ?_); (try clear tmp); rintro (N₂₇) tmp; (first | ((first | with_reducible refine Exists.elim tmp ?_ | with_reducible refine conj_elim tmp ?_); (try clear tmp); rintro (B'') tmp; (first | ((first | with_reducible refine Exists.elim tmp ?_ | with_reducible refine conj_elim tmp ?_); (try clear tmp); rintro (X'') tmp; (first | ((first | with_reducible refine Exists.elim tmp ?_ | with_reducible refine conj_elim tmp ?_); (try clear tmp); rintro (P'') tmp; (first | ((first | with_reducible refine Exists.elim tmp ?_ | with_reducible refine conj_elim tmp ?_); (try clear tmp); rintro (K'') (hne₂₇)) | obtain ⟨K'', hne₂₇⟩ := tmp)) | obtain ⟨P'', K'', hne₂₇⟩ := tmp)) | obtain ⟨X'', P'', K'', hne₂₇⟩ := tmp)) | obtain ⟨B'', X'', P'', K'', hne₂₇⟩ := tmp)) | obtain ⟨N₂₇, B'', X'', P'', K'', hne₂₇⟩ := tmp)) | obtain ⟨F₂₇, N₂₇, B'', X'', P'', K'', hne₂₇⟩ := tmp)) | obtain ⟨T3', F₂₇, N₂₇, B'', X'', P'', K'', hne₂₇⟩ := tmp)) | obtain ⟨g3, T3', F₂₇, N₂₇, B'', X'', P'', K'', hne₂₇⟩ := backT _ _ _ T2 Dn)
              clear F₂₆ N₂₆ SS backT Dn
              have hst : stored kvs2 k (.ref Nn) = kvs2 ++ [(k, .ref Nn)] := stored_none (valueAt_none (by rw [hk2]; exact ht2 (TI.texts 5).nd))
              dsimp only
              refine ⟨g3, h', tk', (L + 1 + 1 + 1, c3') :: (dA, od) :: (((Nn, listOf ws2.toArray k') :: rl) ++ ke), k, intKind_is _ _ _ _, rfl, F₂₇, fun p hp => N₂₇ p ?_, LCg.Off3.of fun p hp => ?_, ⟨B'', X'', P'', K''⟩, _, rfl, ?_, ?_⟩
              · exact sub_at re45 hp
              · by_cases hpa : p = (Nn, listOf ws2.toArray k')
                · rw [hpa]
                  have z := hne₂₇ _ (.head _)
                  exact ⟨z _ (.head _), z _ (.tail _ (.head _)), z _ (.tail _ (.tail _ (.head _)))⟩
                · refine LCg.Off3.mem o3 p ?_
                  simp only [List.mem_cons, List.mem_append] at hp ⊢
                  rcases hp with hp | hp | (hp | hp) | hp
                  · simp only [hp, true_or, or_true]
                  · simp only [hp, true_or, or_true]
                  · exact absurd hp hpa
                  · simp only [hp, true_or, or_true]
                  · simp only [hp, true_or, or_true]
              · rw [hst, List.map_append, hk2, ht1]; rfl
              · rw [hst]
                exact ListsBy.snoc (hl2.mono fun p hp => .tail _ hp) (.head _) hws2
            · clear F₂₃ N₂₃
              rintro D2 od2 g' kvs2 nw h tk ⟨⟨B', X', P', K'⟩, rl, rfl, hk2, hl2⟩ F₂₄ N₂₄ hd2' hD2m hnD2
              have hkT' : kvs'.map (·.1) = T := by
                have e : kvt.length = T.length := by rw [← hkt, List.length_map]
                rw [hk', e, List.take_length]
              have hk2' : kvs2.map (·.1) = keysP (textsP rs 5) := by
                have e : kvs.length = (keysP (textsP rs 5)).length := by rw [← hkk, List.length_map]
                rw [hk2, e, List.take_length]
              have hle : kvs'.length = kvs2.length := by
                have e1 := congrArg List.length hkT'
                have e2 := congrArg List.length hk2'
                rw [List.length_map] at e1 e2
                rw [e1, e2, same_len hTn (TI.texts (rs := rs) 5).nd hTD]
              have hkeD : (D, od') ∈ ke := hke ▸ .head _
              have hkee : ∀ p ∈ el ++ fr, p ∈ ke := fun p hp => by
                rw [hke]
                exact sub_at re46 hp
              refine keq_eq (knd := PySem.intKind P w) (r := true) hDm hD2m (Heap.dictOf_iff.mpr ⟨od', (N₂₄ _ (.tail _ (.tail _ (.tail _ (List.mem_append_right _ hkeD))))).1, hd'⟩) (Heap.dictOf_iff.mpr ⟨od2, (N₂₄ _ (.head _)).1, hd2'⟩) (by k_units) (fun _ => hits_of N₂₄ (fun p hp => .tail _ (.tail _ (.tail _ (List.mem_append_right _ (hkee p hp))))) (fun p hp => .tail _ (.tail _ (.tail _ (List.mem_append_left _ hp)))) (by ke_room) hl2 hel fun r hr => ?_) ?_
              · rw [hkT'] at hr
                have hrD := (hTD r).mp hr
                exact ⟨by rw [hk2']; exact hrD, (read_text (textsP_nonneg r hrD)).symm⟩
              · have e : (kvs'.length == kvs2.length && true) = true := by rw [hle]; simp
                rw [e]
                dsimp only
                have Fw : Fr s₁.heap L h m3 := ⟨F₂₄.ns, fun b o e => F₂₄.keep b o (B'.stays b o e), Nat.le_of_eq hLL⟩
                refine goodW_bool Fw hg (raisesW_false ?_) ?_
                · wrow_none_raised
                · wrow_post
end Mine
end
set_option maxRecDepth 100000 in
theorem PySem.Challenge.cw_om0082_01_holds : PySem.Challenge.rw_om0082_01.Holds := by
  exact Mine.law_holds
